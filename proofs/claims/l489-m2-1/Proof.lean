import JvmDerived
import JvmDerived.Pilot.@@N@@Statement
import JvmDerived.Pilot.@@N@@Code
set_option linter.unusedVariables false
set_option linter.unusedSimpArgs false
namespace Jvm.Pilot.@@N@@
open Jvm Jvm.ClassFile Sem Op Lib Jvm.Free Jvm.Stand Jvm.LawKit Jvm.RoadKit Bundle Jvm.Pilot.@@N@@.Jvm.D
/-! THE OWN LAYER (printed by wip/tools/mkown.py): Wp says: from here the body runs to its return and leaves Q. One law an instruction, each read off a law of the library. -/
abbrev Cx : Type := Program × Launch × Env × Room × State × MethodId × Array Value × List Frame × Method × Code × Nat × (Option Value → Heap → Prop)
abbrev Cx.p (X : Cx) : Program := X.1
abbrev Cx.l (X : Cx) : Launch := X.2.1
abbrev Cx.e (X : Cx) : Env := X.2.2.1
abbrev Cx.R (X : Cx) : Room := X.2.2.2.1
abbrev Cx.s (X : Cx) : State := X.2.2.2.2.1
abbrev Cx.m (X : Cx) : MethodId := X.2.2.2.2.2.1
abbrev Cx.args (X : Cx) : Array Value := X.2.2.2.2.2.2.1
abbrev Cx.below (X : Cx) : List Frame := X.2.2.2.2.2.2.2.1
abbrev Cx.meth (X : Cx) : Method := X.2.2.2.2.2.2.2.2.1
abbrev Cx.c (X : Cx) : Code := X.2.2.2.2.2.2.2.2.2.1
abbrev Cx.n0 (X : Cx) : Nat := X.2.2.2.2.2.2.2.2.2.2.1
abbrev Cx.Q (X : Cx) : Option Value → Heap → Prop := X.2.2.2.2.2.2.2.2.2.2.2
abbrev Sd (X : Cx) (T : State) (locs : List Loc) (k n : Nat) : Prop := Stand X.p X.l X.e X.R X.s X.m X.args X.below X.meth X.c T locs k n
abbrev Sp (X : Cx) (T : State) (pc : Nat) (ls : Array Slot) (st : List Value) (t : State) : Prop := Steps X.p.tables X.e X.below (T.setTop (mkF X.m pc ls st)) t
def Hand (X : Cx) (Z : State) (y : MethodName) (bytes : ByteArray) (mx : Nat) (rt : Option FieldType) (R : Room) (n0 : Nat) (Q : Option Value → Heap → Prop) : Prop :=
  X.p.tables.exec = Jvm.exec ∧ Z.Warmed39 X.s.vm ∧ X.s.vm.findClass y.cls = some X.m.cls ∧ X.c.code = bytes ∧ X.c.maxLocals = mx ∧ X.meth.sig.returnType = rt ∧ X.meth.locks = false ∧ X.R = R ∧ n0 ≤ X.s.heap.size ∧ X.meth.name = y.name ∧ X.n0 = n0 ∧ X.Q = Q
def Ct (l : Launch) (Z : State) (y : MethodName) (bytes : ByteArray) (mx : Nat) (rt : Option FieldType) (R : Room) (n0 : Nat) (ws : List Jvm.Cond) (as' : Array Value) (h : Heap) (Q : Option Value → Heap → Prop) : Prop :=
  MetFree l y (head1 (Jvm.Cond.code y bytes mx rt :: ws) R) (fun a U => a = as' ∧ Z.Warmed39 U.vm ∧ U.heap = h) (fun _ _ _ _ _ => True) (fun _ U o U' => ∃ v L, o = .returned v ∧ ((Q v U'.heap ∧ h.size ≤ U'.heap.size) ∧ Fr n0 L) ∧ FrameEnd U o U' L R.cells R.slots)
section OwnLayer
variable {X : Cx} {Z : State} {y : MethodName} {bytes : ByteArray} {mx : Nat} {rt : Option FieldType} {R : Room} {n0 : Nat} {Q : Option Value → Heap → Prop} {a0 : Array Value} {k n : Nat} {h : Heap} {pc pc' : Nat} {ls ls' : Array Slot} {st st' : List Value}
theorem Hand.sz (C : Hand X Z y bytes mx rt R n0 Q) {T : State} {locs : List Loc} (S : Sd X T locs k n) (e : T.heap = h) : n0 ≤ h.size := by
  have q : X.s.heap.size ≤ T.heap.size := S.same.2.1
  rw [← e]; exact Nat.le_trans C.2.2.2.2.2.2.2.2.1 q
theorem own_pop2L {tb : Tables} [Ours tb] {e : Env} {below : List Frame} {T target : State} {m : MethodId} {c : Code} {g : JFrame} (h : At T m c below) (hx : tb.exec = Jvm.exec) (hg : g.method = m) {x : Int64} {rest : List Value} (hd : decode c.code g.pc = .ok (.pop2, 1)) (hs : g.stack = .long x :: rest)
    (hr : Steps tb e below (T.setTop { g with pc := g.pc + 1, stack := rest }) target) : Steps tb e below (T.setTop g) target := by
  subst hg
  jvm_step h [h.top, hx, hd, hs, Value.category]
  exact hr
theorem toL (L : List Loc) : L ++ [] = L := List.append_nil L
end OwnLayer
def Wp (X : Cx) (k n : Nat) (h : Heap) (pc : Nat) (ls : Array Slot) (st : List Value) : Prop :=
  ∀ T locs, Sd X T locs k n → T.heap = h → Fr X.n0 locs →
    ∃ s₂ v L, Sp X T pc ls st s₂ ∧ s₂.status = .running ∧ Ended s₂ X.below (.returned v) ∧ X.Q v s₂.heap ∧ Fr X.n0 L ∧ X.s.WarmedH s₂.vm ∧ X.s.sameButNew ({ s₂ with vm := X.s.vm } : State) L X.R.cells X.R.slots
section OwnNarrow
variable {X : Cx} {Z : State} {y : MethodName} {bytes : ByteArray} {mx : Nat} {rt : Option FieldType} {R : Room} {n0 : Nat} {Q : Option Value → Heap → Prop} {a0 : Array Value} {k n : Nat} {h : Heap} {pc pc' : Nat} {ls ls' : Array Slot} {st st' : List Value}
theorem ct_of {l : Launch} {ws : List Jvm.Cond} {as' : Array Value} (hpl : plainFor y = true) (hn : n0 ≤ h.size) (hef : ∀ m, entryFrame m as' mx = mkF m 0 ls [])
    (hwp : ∀ X : Cx, Hand X Z y bytes mx rt R n0 Q → Wp X 0 0 h 0 ls []) : Ct l Z y bytes mx rt R n0 ws as' h Q := by
  refine MetFree.of_bodySF hpl hisR ?_
  intro p e s m args below meth c s₁ Bd hml0 hP hK
  obtain ⟨rfl, hZ, hh⟩ := hP
  have X0 : Stand p l e R s m args below meth c s₁ [] 0 0 := Stand.of_body Bd
  have e0 : s₁.heap = h := by rw [← hh, Bd.state]; rfl
  obtain ⟨s2, v, L, h1, h2, h3, h4, h5, h6, h7⟩ := hwp (p, l, e, R, s, m, args, below, meth, c, n0, Q) ⟨Bd.exec, hZ, findClass_of_methodNamed Bd.named, Bd.bytes, hml0, Bd.returns, Bd.notSynchronized, rfl, by show n0 ≤ s.heap.size; rw [hh]; exact hn, (name_of_methodNamed Bd.named Bd.method).1, rfl, rfl⟩ s₁ [] X0 e0 (Fr.nil n0)
  exact ⟨s2, _, castTop (hef m) h1, h2, h3, v, L, rfl, ⟨⟨h4, by rw [← hh]; exact h7.2.1⟩, h5⟩, ⟨_, rfl⟩, h6, h7⟩
theorem Wp.go (C : Hand X Z y bytes mx rt R n0 Q) (hs : ∀ X' : Cx, X'.l = X.l → Hand X' Z y bytes mx rt R n0 Q → ∀ T locs, Sd X' T locs k n → T.heap = h → ∀ t, Sp X' T pc' ls' st' t → Sp X' T pc ls st t) (w : Wp X k n h pc' ls' st') : Wp X k n h pc ls st := by
  intro T locs S e F
  obtain ⟨s2, v, L, a, r⟩ := w T locs S e F
  exact ⟨s2, v, L, hs X rfl C T locs S e _ a, r⟩
theorem Wp.to (C : Hand X Z y bytes mx rt R n0 Q) {k' n' : Nat} {P : Heap → List Value → Prop} (hs : ∀ X' : Cx, X'.l = X.l → Hand X' Z y bytes mx rt R n0 Q → ∀ T locs, Sd X' T locs k n → T.heap = h → ∃ T' L h' st', Sd X' T' (locs ++ L) k' n' ∧ T'.heap = h' ∧ Fr X'.n0 L ∧ h.size ≤ h'.size ∧ P h' st' ∧ ∀ t, Sp X' T' pc' ls' st' t → Sp X' T pc ls st t)
    (w : ∀ h' st', P h' st' → Wp X k' n' h' pc' ls' st') : Wp X k n h pc ls st := by
  intro T locs S e F
  obtain ⟨T', L, h', st', S', e', F', -, p, q⟩ := hs X rfl C T locs S e
  obtain ⟨s2, v, L2, a, r⟩ := w h' st' p T' _ S' e' (Fr.app F F')
  exact ⟨s2, v, L2, q _ a, r⟩
/-- what is left is known of the heap: n0 ≤ its size -/
theorem Wp.size (C : Hand X Z y bytes mx rt R n0 Q) (w : n0 ≤ h.size → Wp X k n h pc ls st) : Wp X k n h pc ls st := fun T locs S e F => w (C.sz S e) T locs S e F
theorem Wp.more {k' n' : Nat} (w : Wp X k' n' h pc ls st) (hk : k ≤ k') (hn : n ≤ n') : Wp X k n h pc ls st := fun T locs S e F => w T locs (S.more hk hn) e F
theorem w_done (C : Hand X Z y bytes mx rt R n0 Q) {v : Option Value} (hv : rt = none → v = none) (hk : k ≤ R.cells) (hn : n ≤ R.slots) (q : Q v h)
    (hs : ∀ X' : Cx, Hand X' Z y bytes mx rt R n0 Q → ∀ T locs (fs : List Frame), Sd X' T locs k n → (∀ (f : JFrame) (acts : List Action), f.method = X'.m → f.locked = none → f.entered = [] → (doReturn X'.e (T.setTop f) acts v).1 = T.setFrames fs) → Sp X' T pc ls st (T.setFrames fs)) : Wp X k n h pc ls st := by
  intro T locs S e F
  obtain ⟨fs, hr, hrun, hended, hW, hsame⟩ := S.leave (v := v) (fun z => hv (C.2.2.2.2.2.1 ▸ z)) C.2.2.2.2.2.2.1
  refine ⟨_, v, locs, hs X C T locs fs S hr, hrun, hended, ?_, F, hW, hsame.mono (by rw [C.2.2.2.2.2.2.2.1]; exact hk) (by rw [C.2.2.2.2.2.2.2.1]; exact hn)⟩
  show X.Q v T.heap
  rw [C.2.2.2.2.2.2.2.2.2.2.2, e]; exact q
end OwnNarrow

section OwnLaws
variable {X : Cx} {Z : State} {y : MethodName} {bytes : ByteArray} {mx : Nat} {rt : Option FieldType} {R : Room} {n0 : Nat} {Q : Option Value → Heap → Prop} {a0 : Array Value} {k n : Nat} {h : Heap} {pc pc' : Nat} {ls ls' : Array Slot} {st st' : List Value}
theorem w_iload (C : Hand X Z y bytes mx rt R n0 Q) {j : Nat} {v : Int32} (hd : decode bytes pc = .ok (.iload j, 2)) (hl : ls[j]? = some (.val (.int v))) (hp : pc + 2 = pc') (w : Wp X k n h pc' ls (.int v :: st)) : Wp X k n h pc ls (st) := by
  subst hp; exact Wp.go C (fun X hX C T locs S e t q => XS.iload S.here C.1 rfl (hb C.2.2.2.1 hd) hl q) w
theorem w_iloadN (C : Hand X Z y bytes mx rt R n0 Q) {j : Fin 4} {v : Int32} (hd : decode bytes pc = .ok (.iload_n j, 1)) (hl : ls[j.val]? = some (.val (.int v))) (hp : pc + 1 = pc') (w : Wp X k n h pc' ls (.int v :: st)) : Wp X k n h pc ls (st) := by
  subst hp; exact Wp.go C (fun X hX C T locs S e t q => XS.iloadN S.here C.1 rfl (hb C.2.2.2.1 hd) hl q) w
theorem w_lload (C : Hand X Z y bytes mx rt R n0 Q) {j : Nat} {v : Int64} (hd : decode bytes pc = .ok (.lload j, 2)) (hl : ls[j]? = some (.val (.long v))) (hp : pc + 2 = pc') (w : Wp X k n h pc' ls (.long v :: st)) : Wp X k n h pc ls (st) := by
  subst hp; exact Wp.go C (fun X hX C T locs S e t q => XS.lload S.here C.1 rfl (hb C.2.2.2.1 hd) hl q) w
theorem w_lloadN (C : Hand X Z y bytes mx rt R n0 Q) {j : Fin 4} {v : Int64} (hd : decode bytes pc = .ok (.lload_n j, 1)) (hl : ls[j.val]? = some (.val (.long v))) (hp : pc + 1 = pc') (w : Wp X k n h pc' ls (.long v :: st)) : Wp X k n h pc ls (st) := by
  subst hp; exact Wp.go C (fun X hX C T locs S e t q => XS.lloadN S.here C.1 rfl (hb C.2.2.2.1 hd) hl q) w
theorem w_aload (C : Hand X Z y bytes mx rt R n0 Q) {j : Nat} {v : Value} (hd : decode bytes pc = .ok (.aload j, 2)) (hl : ls[j]? = some (.val v)) (hv : v.isRef = true) (hp : pc + 2 = pc') (w : Wp X k n h pc' ls (v :: st)) : Wp X k n h pc ls (st) := by
  subst hp; exact Wp.go C (fun X hX C T locs S e t q => XS.aload S.here C.1 rfl (hb C.2.2.2.1 hd) hl hv q) w
theorem w_aloadN (C : Hand X Z y bytes mx rt R n0 Q) {j : Fin 4} {v : Value} (hd : decode bytes pc = .ok (.aload_n j, 1)) (hl : ls[j.val]? = some (.val v)) (hv : v.isRef = true) (hp : pc + 1 = pc') (w : Wp X k n h pc' ls (v :: st)) : Wp X k n h pc ls (st) := by
  subst hp; exact Wp.go C (fun X hX C T locs S e t q => XS.aloadN S.here C.1 rfl (hb C.2.2.2.1 hd) hl hv q) w
theorem w_iconst (C : Hand X Z y bytes mx rt R n0 Q) {i : Int} {z : Int32} (hd : decode bytes pc = .ok (.iconst i, 1)) (hz : Int32.ofInt i = z) (hp : pc + 1 = pc') (w : Wp X k n h pc' ls (.int z :: st)) : Wp X k n h pc ls st := by
  subst hp hz; exact Wp.go C (fun X hX C T locs S e t q => XS.iconst S.here C.1 rfl (hb C.2.2.2.1 hd) q) w
theorem w_bipush (C : Hand X Z y bytes mx rt R n0 Q) {i : Int} {z : Int32} (hd : decode bytes pc = .ok (.bipush i, 2)) (hz : (Int8.ofInt i).toInt32 = z) (hp : pc + 2 = pc') (w : Wp X k n h pc' ls (.int z :: st)) : Wp X k n h pc ls st := by
  subst hp hz; exact Wp.go C (fun X hX C T locs S e t q => XS.bipush S.here C.1 rfl (hb C.2.2.2.1 hd) q) w
theorem w_sipush (C : Hand X Z y bytes mx rt R n0 Q) {i : Int} {z : Int32} (hd : decode bytes pc = .ok (.sipush i, 3)) (hz : (Int16.ofInt i).toInt32 = z) (hp : pc + 3 = pc') (w : Wp X k n h pc' ls (.int z :: st)) : Wp X k n h pc ls st := by
  subst hp hz; exact Wp.go C (fun X hX C T locs S e t q => XS.sipush S.here C.1 rfl (hb C.2.2.2.1 hd) q) w
theorem w_lconst (C : Hand X Z y bytes mx rt R n0 Q) {i : Fin 2} {z : Int64} (hd : decode bytes pc = .ok (.lconst i, 1)) (hz : Int64.ofNat i.val = z) (hp : pc + 1 = pc') (w : Wp X k n h pc' ls (.long z :: st)) : Wp X k n h pc ls st := by
  subst hp hz; exact Wp.go C (fun X hX C T locs S e t q => XS.lconst S.here C.1 rfl (hb C.2.2.2.1 hd) q) w
theorem w_anull (C : Hand X Z y bytes mx rt R n0 Q) (hd : decode bytes pc = .ok (.aconst_null, 1)) (hp : pc + 1 = pc') (w : Wp X k n h pc' ls (.null :: st)) : Wp X k n h pc ls (st) := by
  subst hp; exact Wp.go C (fun X hX C T locs S e t q => XS.aconstNull S.here C.1 rfl (hb C.2.2.2.1 hd) q) w
theorem w_ldc (C : Hand X Z y bytes mx rt R n0 Q) {i : Nat} {z : Int32} (hw : (Jvm.Cond.constant y.cls i z).before a0 Z = true) (hd : decode bytes pc = .ok (.ldc i, 2)) (hp : pc + 2 = pc') (w : Wp X k n h pc' ls (.int z :: st)) : Wp X k n h pc ls st := by
  subst hp; exact Wp.go C (fun X hX C T locs S e t q => S.ldcInt C.1 C.2.2.1 (mvT C.2.1 hw) (g := mkF X.m pc ls st) rfl (hb C.2.2.2.1 hd) t q) w
theorem w_ldc2 (C : Hand X Z y bytes mx rt R n0 Q) {i : Nat} {z : Int64} (hw : (Jvm.Cond.constantLong y.cls i z).before a0 Z = true) (hd : decode bytes pc = .ok (.ldc2_w i, 3)) (hp : pc + 3 = pc') (w : Wp X k n h pc' ls (.long z :: st)) : Wp X k n h pc ls st := by
  subst hp; exact Wp.go C (fun X hX C T locs S e t q => S.ldc2Long C.1 C.2.2.1 (mvT C.2.1 hw) (g := mkF X.m pc ls st) rfl (hb C.2.2.2.1 hd) t q) w
theorem w_istore (C : Hand X Z y bytes mx rt R n0 Q) {j : Nat} {x : Int32} (hd : decode bytes pc = .ok (.istore j, 2)) (hl : storeLocals ls j (.int x) = some ls') (hp : pc + 2 = pc') (w : Wp X k n h pc' ls' st) : Wp X k n h pc ls (.int x :: st) := by
  subst hp; exact Wp.go C (fun X hX C T locs S e t q => XS.istore S.here C.1 rfl (hb C.2.2.2.1 hd) rfl hl q) w
theorem w_istoreN (C : Hand X Z y bytes mx rt R n0 Q) {j : Fin 4} {x : Int32} (hd : decode bytes pc = .ok (.istore_n j, 1)) (hl : storeLocals ls j.val (.int x) = some ls') (hp : pc + 1 = pc') (w : Wp X k n h pc' ls' st) : Wp X k n h pc ls (.int x :: st) := by
  subst hp; exact Wp.go C (fun X hX C T locs S e t q => XS.istoreN S.here C.1 rfl (hb C.2.2.2.1 hd) rfl hl q) w
theorem w_lstore (C : Hand X Z y bytes mx rt R n0 Q) {j : Nat} {x : Int64} (hd : decode bytes pc = .ok (.lstore j, 2)) (hl : storeLocals ls j (.long x) = some ls') (hp : pc + 2 = pc') (w : Wp X k n h pc' ls' st) : Wp X k n h pc ls (.long x :: st) := by
  subst hp; exact Wp.go C (fun X hX C T locs S e t q => XS.lstore S.here C.1 rfl (hb C.2.2.2.1 hd) rfl hl q) w
theorem w_lstoreN (C : Hand X Z y bytes mx rt R n0 Q) {j : Fin 4} {x : Int64} (hd : decode bytes pc = .ok (.lstore_n j, 1)) (hl : storeLocals ls j.val (.long x) = some ls') (hp : pc + 1 = pc') (w : Wp X k n h pc' ls' st) : Wp X k n h pc ls (.long x :: st) := by
  subst hp; exact Wp.go C (fun X hX C T locs S e t q => XS.lstoreN S.here C.1 rfl (hb C.2.2.2.1 hd) rfl hl q) w
theorem w_astore (C : Hand X Z y bytes mx rt R n0 Q) {j : Nat} {x : Value} (hd : decode bytes pc = .ok (.astore j, 2)) (hv : x.isRef = true) (hl : storeLocals ls j (x) = some ls') (hp : pc + 2 = pc') (w : Wp X k n h pc' ls' st) : Wp X k n h pc ls (x :: st) := by
  subst hp; exact Wp.go C (fun X hX C T locs S e t q => XS.astore S.here C.1 rfl (hb C.2.2.2.1 hd) rfl hv hl q) w
theorem w_astoreN (C : Hand X Z y bytes mx rt R n0 Q) {j : Fin 4} {x : Value} (hd : decode bytes pc = .ok (.astore_n j, 1)) (hv : x.isRef = true) (hl : storeLocals ls j.val (x) = some ls') (hp : pc + 1 = pc') (w : Wp X k n h pc' ls' st) : Wp X k n h pc ls (x :: st) := by
  subst hp; exact Wp.go C (fun X hX C T locs S e t q => XS.astoreN S.here C.1 rfl (hb C.2.2.2.1 hd) rfl hv hl q) w
theorem w_iinc (C : Hand X Z y bytes mx rt R n0 Q) {j : Nat} {cst : Int} {x z : Int32} (hd : decode bytes pc = .ok (.iinc j cst, 3)) (hl : ls[j]? = some (.val (.int x))) (hz : Int32.ofInt cst = z) (hl' : storeLocals ls j (.int (x + z)) = some ls') (hp : pc + 3 = pc') (w : Wp X k n h pc' ls' st) : Wp X k n h pc ls st := by
  subst hp hz; exact Wp.go C (fun X hX C T locs S e t q => XS.iinc S.here C.1 rfl (hb C.2.2.2.1 hd) hl hl' q) w
theorem w_dup (C : Hand X Z y bytes mx rt R n0 Q) {x : Value} (hd : decode bytes pc = .ok (.dup, 1)) (hc : x.category = 1) (hp : pc + 1 = pc') (w : Wp X k n h pc' ls (x :: x :: st)) : Wp X k n h pc ls (x :: st) := by
  subst hp; exact Wp.go C (fun X hX C T locs S e t q => XS.dup S.here C.1 rfl (hb C.2.2.2.1 hd) rfl hc q) w
theorem w_dup2 (C : Hand X Z y bytes mx rt R n0 Q) {x z : Value} (hd : decode bytes pc = .ok (.dup2, 1)) (hc : x.category = 1) (hc' : z.category = 1) (hp : pc + 1 = pc') (w : Wp X k n h pc' ls (x :: z :: x :: z :: st)) : Wp X k n h pc ls (x :: z :: st) := by
  subst hp; exact Wp.go C (fun X hX C T locs S e t q => XT.dup2 S.here C.1 rfl (hb C.2.2.2.1 hd) rfl hc hc' q) w
theorem w_dupX1 (C : Hand X Z y bytes mx rt R n0 Q) {x z : Value} (hd : decode bytes pc = .ok (.dup_x1, 1)) (hc : x.category = 1) (hc' : z.category = 1) (hp : pc + 1 = pc') (w : Wp X k n h pc' ls (x :: z :: x :: st)) : Wp X k n h pc ls (x :: z :: st) := by
  subst hp; exact Wp.go C (fun X hX C T locs S e t q => XS.dupX1 S.here C.1 rfl (hb C.2.2.2.1 hd) rfl hc hc' q) w
theorem w_dup2L (C : Hand X Z y bytes mx rt R n0 Q) {x : Int64} (hd : decode bytes pc = .ok (.dup2, 1)) (hp : pc + 1 = pc') (w : Wp X k n h pc' ls (.long x :: .long x :: st)) : Wp X k n h pc ls (.long x :: st) := by
  subst hp; exact Wp.go C (fun X hX C T locs S e t q => XT.dup2L S.here C.1 rfl (hb C.2.2.2.1 hd) rfl q) w
theorem w_pop2L (C : Hand X Z y bytes mx rt R n0 Q) {x : Int64} (hd : decode bytes pc = .ok (.pop2, 1)) (hp : pc + 1 = pc') (w : Wp X k n h pc' ls (st)) : Wp X k n h pc ls (.long x :: st) := by
  subst hp; exact Wp.go C (fun X hX C T locs S e t q => own_pop2L S.here C.1 rfl (hb C.2.2.2.1 hd) rfl q) w
theorem w_pop (C : Hand X Z y bytes mx rt R n0 Q) {x : Value} (hd : decode bytes pc = .ok (.pop, 1)) (hc : x.category = 1) (hp : pc + 1 = pc') (w : Wp X k n h pc' ls (st)) : Wp X k n h pc ls (x :: st) := by
  subst hp; exact Wp.go C (fun X hX C T locs S e t q => XS.pop S.here C.1 rfl (hb C.2.2.2.1 hd) rfl hc q) w
theorem w_iadd (C : Hand X Z y bytes mx rt R n0 Q) {x z : Int32} (hd : decode bytes pc = .ok (.iadd, 1)) (hp : pc + 1 = pc') (w : Wp X k n h pc' ls (.int (x + z) :: st)) : Wp X k n h pc ls (.int z :: .int x :: st) := by
  subst hp; exact Wp.go C (fun X hX C T locs S e t q => XS.iadd S.here C.1 rfl (hb C.2.2.2.1 hd) rfl q) w
theorem w_isub (C : Hand X Z y bytes mx rt R n0 Q) {x z : Int32} (hd : decode bytes pc = .ok (.isub, 1)) (hp : pc + 1 = pc') (w : Wp X k n h pc' ls (.int (x - z) :: st)) : Wp X k n h pc ls (.int z :: .int x :: st) := by
  subst hp; exact Wp.go C (fun X hX C T locs S e t q => XS.isub S.here C.1 rfl (hb C.2.2.2.1 hd) rfl q) w
theorem w_imul (C : Hand X Z y bytes mx rt R n0 Q) {x z : Int32} (hd : decode bytes pc = .ok (.imul, 1)) (hp : pc + 1 = pc') (w : Wp X k n h pc' ls (.int (x * z) :: st)) : Wp X k n h pc ls (.int z :: .int x :: st) := by
  subst hp; exact Wp.go C (fun X hX C T locs S e t q => XS.imul S.here C.1 rfl (hb C.2.2.2.1 hd) rfl q) w
theorem w_iand (C : Hand X Z y bytes mx rt R n0 Q) {x z : Int32} (hd : decode bytes pc = .ok (.iand, 1)) (hp : pc + 1 = pc') (w : Wp X k n h pc' ls (.int (x &&& z) :: st)) : Wp X k n h pc ls (.int z :: .int x :: st) := by
  subst hp; exact Wp.go C (fun X hX C T locs S e t q => XS.iand S.here C.1 rfl (hb C.2.2.2.1 hd) rfl q) w
theorem w_ior (C : Hand X Z y bytes mx rt R n0 Q) {x z : Int32} (hd : decode bytes pc = .ok (.ior, 1)) (hp : pc + 1 = pc') (w : Wp X k n h pc' ls (.int (x ||| z) :: st)) : Wp X k n h pc ls (.int z :: .int x :: st) := by
  subst hp; exact Wp.go C (fun X hX C T locs S e t q => XS.ior S.here C.1 rfl (hb C.2.2.2.1 hd) rfl q) w
theorem w_ixor (C : Hand X Z y bytes mx rt R n0 Q) {x z : Int32} (hd : decode bytes pc = .ok (.ixor, 1)) (hp : pc + 1 = pc') (w : Wp X k n h pc' ls (.int (x ^^^ z) :: st)) : Wp X k n h pc ls (.int z :: .int x :: st) := by
  subst hp; exact Wp.go C (fun X hX C T locs S e t q => XS.ixor S.here C.1 rfl (hb C.2.2.2.1 hd) rfl q) w
theorem w_ishl (C : Hand X Z y bytes mx rt R n0 Q) {x z : Int32} (hd : decode bytes pc = .ok (.ishl, 1)) (hp : pc + 1 = pc') (w : Wp X k n h pc' ls (.int (x <<< (z &&& 31)) :: st)) : Wp X k n h pc ls (.int z :: .int x :: st) := by
  subst hp; exact Wp.go C (fun X hX C T locs S e t q => XS.ishl S.here C.1 rfl (hb C.2.2.2.1 hd) rfl q) w
theorem w_ishr (C : Hand X Z y bytes mx rt R n0 Q) {x z : Int32} (hd : decode bytes pc = .ok (.ishr, 1)) (hp : pc + 1 = pc') (w : Wp X k n h pc' ls (.int (x >>> (z &&& 31)) :: st)) : Wp X k n h pc ls (.int z :: .int x :: st) := by
  subst hp; exact Wp.go C (fun X hX C T locs S e t q => XS.ishr S.here C.1 rfl (hb C.2.2.2.1 hd) rfl q) w
theorem w_iushr (C : Hand X Z y bytes mx rt R n0 Q) {x z : Int32} (hd : decode bytes pc = .ok (.iushr, 1)) (hp : pc + 1 = pc') (w : Wp X k n h pc' ls (.int ((x.toUInt32 >>> (z &&& 31).toUInt32).toInt32) :: st)) : Wp X k n h pc ls (.int z :: .int x :: st) := by
  subst hp; exact Wp.go C (fun X hX C T locs S e t q => XS.iushr S.here C.1 rfl (hb C.2.2.2.1 hd) rfl q) w
theorem w_ladd (C : Hand X Z y bytes mx rt R n0 Q) {x z : Int64} (hd : decode bytes pc = .ok (.ladd, 1)) (hp : pc + 1 = pc') (w : Wp X k n h pc' ls (.long (x + z) :: st)) : Wp X k n h pc ls (.long z :: .long x :: st) := by
  subst hp; exact Wp.go C (fun X hX C T locs S e t q => XS.ladd S.here C.1 rfl (hb C.2.2.2.1 hd) rfl q) w
theorem w_lsub (C : Hand X Z y bytes mx rt R n0 Q) {x z : Int64} (hd : decode bytes pc = .ok (.lsub, 1)) (hp : pc + 1 = pc') (w : Wp X k n h pc' ls (.long (x - z) :: st)) : Wp X k n h pc ls (.long z :: .long x :: st) := by
  subst hp; exact Wp.go C (fun X hX C T locs S e t q => XS.lsub S.here C.1 rfl (hb C.2.2.2.1 hd) rfl q) w
theorem w_lmul (C : Hand X Z y bytes mx rt R n0 Q) {x z : Int64} (hd : decode bytes pc = .ok (.lmul, 1)) (hp : pc + 1 = pc') (w : Wp X k n h pc' ls (.long (x * z) :: st)) : Wp X k n h pc ls (.long z :: .long x :: st) := by
  subst hp; exact Wp.go C (fun X hX C T locs S e t q => XS.lmul S.here C.1 rfl (hb C.2.2.2.1 hd) rfl q) w
theorem w_land (C : Hand X Z y bytes mx rt R n0 Q) {x z : Int64} (hd : decode bytes pc = .ok (.land, 1)) (hp : pc + 1 = pc') (w : Wp X k n h pc' ls (.long (x &&& z) :: st)) : Wp X k n h pc ls (.long z :: .long x :: st) := by
  subst hp; exact Wp.go C (fun X hX C T locs S e t q => XS.land S.here C.1 rfl (hb C.2.2.2.1 hd) rfl q) w
theorem w_lor (C : Hand X Z y bytes mx rt R n0 Q) {x z : Int64} (hd : decode bytes pc = .ok (.lor, 1)) (hp : pc + 1 = pc') (w : Wp X k n h pc' ls (.long (x ||| z) :: st)) : Wp X k n h pc ls (.long z :: .long x :: st) := by
  subst hp; exact Wp.go C (fun X hX C T locs S e t q => XS.lor S.here C.1 rfl (hb C.2.2.2.1 hd) rfl q) w
theorem w_lxor (C : Hand X Z y bytes mx rt R n0 Q) {x z : Int64} (hd : decode bytes pc = .ok (.lxor, 1)) (hp : pc + 1 = pc') (w : Wp X k n h pc' ls (.long (x ^^^ z) :: st)) : Wp X k n h pc ls (.long z :: .long x :: st) := by
  subst hp; exact Wp.go C (fun X hX C T locs S e t q => XS.lxor S.here C.1 rfl (hb C.2.2.2.1 hd) rfl q) w
theorem w_lshl (C : Hand X Z y bytes mx rt R n0 Q) {x : Int64} {z : Int32} (hd : decode bytes pc = .ok (.lshl, 1)) (hp : pc + 1 = pc') (w : Wp X k n h pc' ls (.long (x <<< (z &&& 0x3f).toInt64) :: st)) : Wp X k n h pc ls (.int z :: .long x :: st) := by
  subst hp; exact Wp.go C (fun X hX C T locs S e t q => XS.lshl S.here C.1 rfl (hb C.2.2.2.1 hd) rfl q) w
theorem w_lshr (C : Hand X Z y bytes mx rt R n0 Q) {x : Int64} {z : Int32} (hd : decode bytes pc = .ok (.lshr, 1)) (hp : pc + 1 = pc') (w : Wp X k n h pc' ls (.long (x >>> (z &&& 0x3f).toInt64) :: st)) : Wp X k n h pc ls (.int z :: .long x :: st) := by
  subst hp; exact Wp.go C (fun X hX C T locs S e t q => XS.lshr S.here C.1 rfl (hb C.2.2.2.1 hd) rfl q) w
theorem w_lushr (C : Hand X Z y bytes mx rt R n0 Q) {x : Int64} {z : Int32} (hd : decode bytes pc = .ok (.lushr, 1)) (hp : pc + 1 = pc') (w : Wp X k n h pc' ls (.long ((x.toUInt64 >>> (z &&& 0x3f).toInt64.toUInt64).toInt64) :: st)) : Wp X k n h pc ls (.int z :: .long x :: st) := by
  subst hp; exact Wp.go C (fun X hX C T locs S e t q => XS.lushr S.here C.1 rfl (hb C.2.2.2.1 hd) rfl q) w
theorem w_idiv (C : Hand X Z y bytes mx rt R n0 Q) {x z : Int32} (hd : decode bytes pc = .ok (.idiv, 1)) (hz : z ≠ 0) (hp : pc + 1 = pc') (w : Wp X k n h pc' ls (.int (x / z) :: st)) : Wp X k n h pc ls (.int z :: .int x :: st) := by
  subst hp; exact Wp.go C (fun X hX C T locs S e t q => XS.idiv S.here C.1 rfl (hb C.2.2.2.1 hd) rfl hz q) w
theorem w_irem (C : Hand X Z y bytes mx rt R n0 Q) {x z : Int32} (hd : decode bytes pc = .ok (.irem, 1)) (hz : z ≠ 0) (hp : pc + 1 = pc') (w : Wp X k n h pc' ls (.int (x % z) :: st)) : Wp X k n h pc ls (.int z :: .int x :: st) := by
  subst hp; exact Wp.go C (fun X hX C T locs S e t q => iremM S C.1 rfl (hb C.2.2.2.1 hd) rfl hz q) w
theorem w_ineg (C : Hand X Z y bytes mx rt R n0 Q) {x : Int32} (hd : decode bytes pc = .ok (.ineg, 1)) (hp : pc + 1 = pc') (w : Wp X k n h pc' ls (.int (-x) :: st)) : Wp X k n h pc ls (.int x :: st) := by
  subst hp; exact Wp.go C (fun X hX C T locs S e t q => XS.ineg S.here C.1 rfl (hb C.2.2.2.1 hd) rfl q) w
theorem w_lneg (C : Hand X Z y bytes mx rt R n0 Q) {x : Int64} (hd : decode bytes pc = .ok (.lneg, 1)) (hp : pc + 1 = pc') (w : Wp X k n h pc' ls (.long (-x) :: st)) : Wp X k n h pc ls (.long x :: st) := by
  subst hp; exact Wp.go C (fun X hX C T locs S e t q => XS.lneg S.here C.1 rfl (hb C.2.2.2.1 hd) rfl q) w
theorem w_i2l (C : Hand X Z y bytes mx rt R n0 Q) {x : Int32} (hd : decode bytes pc = .ok (.i2l, 1)) (hp : pc + 1 = pc') (w : Wp X k n h pc' ls (.long x.toInt64 :: st)) : Wp X k n h pc ls (.int x :: st) := by
  subst hp; exact Wp.go C (fun X hX C T locs S e t q => XS.i2l S.here C.1 rfl (hb C.2.2.2.1 hd) rfl q) w
theorem w_l2i (C : Hand X Z y bytes mx rt R n0 Q) {x : Int64} (hd : decode bytes pc = .ok (.l2i, 1)) (hp : pc + 1 = pc') (w : Wp X k n h pc' ls (.int x.toInt32 :: st)) : Wp X k n h pc ls (.long x :: st) := by
  subst hp; exact Wp.go C (fun X hX C T locs S e t q => XS.l2i S.here C.1 rfl (hb C.2.2.2.1 hd) rfl q) w
theorem w_i2b (C : Hand X Z y bytes mx rt R n0 Q) {x : Int32} (hd : decode bytes pc = .ok (.i2b, 1)) (hp : pc + 1 = pc') (w : Wp X k n h pc' ls (.int x.toInt8.toInt32 :: st)) : Wp X k n h pc ls (.int x :: st) := by
  subst hp; exact Wp.go C (fun X hX C T locs S e t q => XS.i2b S.here C.1 rfl (hb C.2.2.2.1 hd) rfl q) w
theorem w_i2s (C : Hand X Z y bytes mx rt R n0 Q) {x : Int32} (hd : decode bytes pc = .ok (.i2s, 1)) (hp : pc + 1 = pc') (w : Wp X k n h pc' ls (.int x.toInt16.toInt32 :: st)) : Wp X k n h pc ls (.int x :: st) := by
  subst hp; exact Wp.go C (fun X hX C T locs S e t q => XS.i2s S.here C.1 rfl (hb C.2.2.2.1 hd) rfl q) w
theorem w_i2c (C : Hand X Z y bytes mx rt R n0 Q) {x : Int32} (hd : decode bytes pc = .ok (.i2c, 1)) (hp : pc + 1 = pc') (w : Wp X k n h pc' ls (.int x.toUInt32.toUInt16.toUInt32.toInt32 :: st)) : Wp X k n h pc ls (.int x :: st) := by
  subst hp; exact Wp.go C (fun X hX C T locs S e t q => XS.i2c S.here C.1 rfl (hb C.2.2.2.1 hd) rfl q) w
theorem w_lcmp (C : Hand X Z y bytes mx rt R n0 Q) {x z : Int64} (hd : decode bytes pc = .ok (.lcmp, 1)) (hp : pc + 1 = pc') (w : Wp X k n h pc' ls (.int (lcmpW x z) :: st)) : Wp X k n h pc ls (.long z :: .long x :: st) := by
  subst hp; exact Wp.go C (fun X hX C T locs S e t q => XS.lcmp S.here C.1 rfl (hb C.2.2.2.1 hd) rfl q) w
theorem w_goto (C : Hand X Z y bytes mx rt R n0 Q) {o : Int} (hd : decode bytes pc = .ok (.goto o, 3)) (ho : 0 ≤ (pc : Int) + o) (hp : ((pc : Int) + o).toNat = pc') (w : Wp X k n h pc' ls st) : Wp X k n h pc ls st := by
  exact Wp.go C (fun X hX C T locs S e t q => XS.goto S.here C.1 rfl (pc0 := pc) rfl (hb C.2.2.2.1 hd) ho hp q) w
theorem w_icmp_eq (C : Hand X Z y bytes mx rt R n0 Q) {o : Int} {x z : Int32} {pn : Nat} (hd : decode bytes pc = .ok (.if_icmp .eq o, 3)) (ho : 0 ≤ (pc : Int) + o) (hp : ((pc : Int) + o).toNat = pc') (hn : pc + 3 = pn) (wy : x = z → Wp X k n h pc' ls st) (wn : ¬ x = z → Wp X k n h pn ls st) : Wp X k n h pc ls (.int z :: .int x :: st) := by
  subst hn
  by_cases q : x = z
  · exact Wp.go C (fun X hX C T locs S e t r => XS.icmpYes S.here C.1 rfl (pc0 := pc) rfl (hb C.2.2.2.1 hd) rfl (teq q).1 ho hp r) (wy q)
  · exact Wp.go C (fun X hX C T locs S e t r => XS.icmpNo S.here C.1 rfl (hb C.2.2.2.1 hd) rfl (feq q).1 r) (wn (by first | exact q | exact Decidable.not_not.mp q))
theorem w_if_eq (C : Hand X Z y bytes mx rt R n0 Q) {o : Int} {x : Int32} {pn : Nat} (hd : decode bytes pc = .ok (.ifCond .eq o, 3)) (ho : 0 ≤ (pc : Int) + o) (hp : ((pc : Int) + o).toNat = pc') (hn : pc + 3 = pn) (wy : x = (0 : Int32) → Wp X k n h pc' ls st) (wn : ¬ x = (0 : Int32) → Wp X k n h pn ls st) : Wp X k n h pc ls (.int x :: st) := by
  subst hn
  by_cases q : x = (0 : Int32)
  · exact Wp.go C (fun X hX C T locs S e t r => XS.ifYes S.here C.1 rfl (pc0 := pc) rfl (hb C.2.2.2.1 hd) rfl ((if0 _ _).trans (teq q).1) ho hp r) (wy q)
  · exact Wp.go C (fun X hX C T locs S e t r => XS.ifNo S.here C.1 rfl (hb C.2.2.2.1 hd) rfl ((if0 _ _).trans (feq q).1) r) (wn (by first | exact q | exact Decidable.not_not.mp q))
theorem w_icmp_ne (C : Hand X Z y bytes mx rt R n0 Q) {o : Int} {x z : Int32} {pn : Nat} (hd : decode bytes pc = .ok (.if_icmp .ne o, 3)) (ho : 0 ≤ (pc : Int) + o) (hp : ((pc : Int) + o).toNat = pc') (hn : pc + 3 = pn) (wy : ¬ x = z → Wp X k n h pc' ls st) (wn : x = z → Wp X k n h pn ls st) : Wp X k n h pc ls (.int z :: .int x :: st) := by
  subst hn
  by_cases q : ¬ x = z
  · exact Wp.go C (fun X hX C T locs S e t r => XS.icmpYes S.here C.1 rfl (pc0 := pc) rfl (hb C.2.2.2.1 hd) rfl (feq q).2 ho hp r) (wy q)
  · exact Wp.go C (fun X hX C T locs S e t r => XS.icmpNo S.here C.1 rfl (hb C.2.2.2.1 hd) rfl (teq (Decidable.not_not.mp q)).2 r) (wn (by first | exact q | exact Decidable.not_not.mp q))
theorem w_if_ne (C : Hand X Z y bytes mx rt R n0 Q) {o : Int} {x : Int32} {pn : Nat} (hd : decode bytes pc = .ok (.ifCond .ne o, 3)) (ho : 0 ≤ (pc : Int) + o) (hp : ((pc : Int) + o).toNat = pc') (hn : pc + 3 = pn) (wy : ¬ x = (0 : Int32) → Wp X k n h pc' ls st) (wn : x = (0 : Int32) → Wp X k n h pn ls st) : Wp X k n h pc ls (.int x :: st) := by
  subst hn
  by_cases q : ¬ x = (0 : Int32)
  · exact Wp.go C (fun X hX C T locs S e t r => XS.ifYes S.here C.1 rfl (pc0 := pc) rfl (hb C.2.2.2.1 hd) rfl ((if0 _ _).trans (feq q).2) ho hp r) (wy q)
  · exact Wp.go C (fun X hX C T locs S e t r => XS.ifNo S.here C.1 rfl (hb C.2.2.2.1 hd) rfl ((if0 _ _).trans (teq (Decidable.not_not.mp q)).2) r) (wn (by first | exact q | exact Decidable.not_not.mp q))
theorem w_icmp_lt (C : Hand X Z y bytes mx rt R n0 Q) {o : Int} {x z : Int32} {pn : Nat} (hd : decode bytes pc = .ok (.if_icmp .lt o, 3)) (ho : 0 ≤ (pc : Int) + o) (hp : ((pc : Int) + o).toNat = pc') (hn : pc + 3 = pn) (wy : x < z → Wp X k n h pc' ls st) (wn : ¬ x < z → Wp X k n h pn ls st) : Wp X k n h pc ls (.int z :: .int x :: st) := by
  subst hn
  by_cases q : x < z
  · exact Wp.go C (fun X hX C T locs S e t r => XS.icmpYes S.here C.1 rfl (pc0 := pc) rfl (hb C.2.2.2.1 hd) rfl (tlt q).1 ho hp r) (wy q)
  · exact Wp.go C (fun X hX C T locs S e t r => XS.icmpNo S.here C.1 rfl (hb C.2.2.2.1 hd) rfl (flt q).1 r) (wn (by first | exact q | exact Decidable.not_not.mp q))
theorem w_if_lt (C : Hand X Z y bytes mx rt R n0 Q) {o : Int} {x : Int32} {pn : Nat} (hd : decode bytes pc = .ok (.ifCond .lt o, 3)) (ho : 0 ≤ (pc : Int) + o) (hp : ((pc : Int) + o).toNat = pc') (hn : pc + 3 = pn) (wy : x < (0 : Int32) → Wp X k n h pc' ls st) (wn : ¬ x < (0 : Int32) → Wp X k n h pn ls st) : Wp X k n h pc ls (.int x :: st) := by
  subst hn
  by_cases q : x < (0 : Int32)
  · exact Wp.go C (fun X hX C T locs S e t r => XS.ifYes S.here C.1 rfl (pc0 := pc) rfl (hb C.2.2.2.1 hd) rfl ((if0 _ _).trans (tlt q).1) ho hp r) (wy q)
  · exact Wp.go C (fun X hX C T locs S e t r => XS.ifNo S.here C.1 rfl (hb C.2.2.2.1 hd) rfl ((if0 _ _).trans (flt q).1) r) (wn (by first | exact q | exact Decidable.not_not.mp q))
theorem w_icmp_ge (C : Hand X Z y bytes mx rt R n0 Q) {o : Int} {x z : Int32} {pn : Nat} (hd : decode bytes pc = .ok (.if_icmp .ge o, 3)) (ho : 0 ≤ (pc : Int) + o) (hp : ((pc : Int) + o).toNat = pc') (hn : pc + 3 = pn) (wy : ¬ x < z → Wp X k n h pc' ls st) (wn : x < z → Wp X k n h pn ls st) : Wp X k n h pc ls (.int z :: .int x :: st) := by
  subst hn
  by_cases q : ¬ x < z
  · exact Wp.go C (fun X hX C T locs S e t r => XS.icmpYes S.here C.1 rfl (pc0 := pc) rfl (hb C.2.2.2.1 hd) rfl (flt q).2.1 ho hp r) (wy q)
  · exact Wp.go C (fun X hX C T locs S e t r => XS.icmpNo S.here C.1 rfl (hb C.2.2.2.1 hd) rfl (tlt (Decidable.not_not.mp q)).2.1 r) (wn (by first | exact q | exact Decidable.not_not.mp q))
theorem w_if_ge (C : Hand X Z y bytes mx rt R n0 Q) {o : Int} {x : Int32} {pn : Nat} (hd : decode bytes pc = .ok (.ifCond .ge o, 3)) (ho : 0 ≤ (pc : Int) + o) (hp : ((pc : Int) + o).toNat = pc') (hn : pc + 3 = pn) (wy : ¬ x < (0 : Int32) → Wp X k n h pc' ls st) (wn : x < (0 : Int32) → Wp X k n h pn ls st) : Wp X k n h pc ls (.int x :: st) := by
  subst hn
  by_cases q : ¬ x < (0 : Int32)
  · exact Wp.go C (fun X hX C T locs S e t r => XS.ifYes S.here C.1 rfl (pc0 := pc) rfl (hb C.2.2.2.1 hd) rfl ((if0 _ _).trans (flt q).2.1) ho hp r) (wy q)
  · exact Wp.go C (fun X hX C T locs S e t r => XS.ifNo S.here C.1 rfl (hb C.2.2.2.1 hd) rfl ((if0 _ _).trans (tlt (Decidable.not_not.mp q)).2.1) r) (wn (by first | exact q | exact Decidable.not_not.mp q))
theorem w_icmp_gt (C : Hand X Z y bytes mx rt R n0 Q) {o : Int} {x z : Int32} {pn : Nat} (hd : decode bytes pc = .ok (.if_icmp .gt o, 3)) (ho : 0 ≤ (pc : Int) + o) (hp : ((pc : Int) + o).toNat = pc') (hn : pc + 3 = pn) (wy : z < x → Wp X k n h pc' ls st) (wn : ¬ z < x → Wp X k n h pn ls st) : Wp X k n h pc ls (.int z :: .int x :: st) := by
  subst hn
  by_cases q : z < x
  · exact Wp.go C (fun X hX C T locs S e t r => XS.icmpYes S.here C.1 rfl (pc0 := pc) rfl (hb C.2.2.2.1 hd) rfl (tlt q).2.2.1 ho hp r) (wy q)
  · exact Wp.go C (fun X hX C T locs S e t r => XS.icmpNo S.here C.1 rfl (hb C.2.2.2.1 hd) rfl (flt q).2.2.1 r) (wn (by first | exact q | exact Decidable.not_not.mp q))
theorem w_if_gt (C : Hand X Z y bytes mx rt R n0 Q) {o : Int} {x : Int32} {pn : Nat} (hd : decode bytes pc = .ok (.ifCond .gt o, 3)) (ho : 0 ≤ (pc : Int) + o) (hp : ((pc : Int) + o).toNat = pc') (hn : pc + 3 = pn) (wy : (0 : Int32) < x → Wp X k n h pc' ls st) (wn : ¬ (0 : Int32) < x → Wp X k n h pn ls st) : Wp X k n h pc ls (.int x :: st) := by
  subst hn
  by_cases q : (0 : Int32) < x
  · exact Wp.go C (fun X hX C T locs S e t r => XS.ifYes S.here C.1 rfl (pc0 := pc) rfl (hb C.2.2.2.1 hd) rfl ((if0 _ _).trans (tlt q).2.2.1) ho hp r) (wy q)
  · exact Wp.go C (fun X hX C T locs S e t r => XS.ifNo S.here C.1 rfl (hb C.2.2.2.1 hd) rfl ((if0 _ _).trans (flt q).2.2.1) r) (wn (by first | exact q | exact Decidable.not_not.mp q))
theorem w_icmp_le (C : Hand X Z y bytes mx rt R n0 Q) {o : Int} {x z : Int32} {pn : Nat} (hd : decode bytes pc = .ok (.if_icmp .le o, 3)) (ho : 0 ≤ (pc : Int) + o) (hp : ((pc : Int) + o).toNat = pc') (hn : pc + 3 = pn) (wy : ¬ z < x → Wp X k n h pc' ls st) (wn : z < x → Wp X k n h pn ls st) : Wp X k n h pc ls (.int z :: .int x :: st) := by
  subst hn
  by_cases q : ¬ z < x
  · exact Wp.go C (fun X hX C T locs S e t r => XS.icmpYes S.here C.1 rfl (pc0 := pc) rfl (hb C.2.2.2.1 hd) rfl (flt q).2.2.2 ho hp r) (wy q)
  · exact Wp.go C (fun X hX C T locs S e t r => XS.icmpNo S.here C.1 rfl (hb C.2.2.2.1 hd) rfl (tlt (Decidable.not_not.mp q)).2.2.2 r) (wn (by first | exact q | exact Decidable.not_not.mp q))
theorem w_if_le (C : Hand X Z y bytes mx rt R n0 Q) {o : Int} {x : Int32} {pn : Nat} (hd : decode bytes pc = .ok (.ifCond .le o, 3)) (ho : 0 ≤ (pc : Int) + o) (hp : ((pc : Int) + o).toNat = pc') (hn : pc + 3 = pn) (wy : ¬ (0 : Int32) < x → Wp X k n h pc' ls st) (wn : (0 : Int32) < x → Wp X k n h pn ls st) : Wp X k n h pc ls (.int x :: st) := by
  subst hn
  by_cases q : ¬ (0 : Int32) < x
  · exact Wp.go C (fun X hX C T locs S e t r => XS.ifYes S.here C.1 rfl (pc0 := pc) rfl (hb C.2.2.2.1 hd) rfl ((if0 _ _).trans (flt q).2.2.2) ho hp r) (wy q)
  · exact Wp.go C (fun X hX C T locs S e t r => XS.ifNo S.here C.1 rfl (hb C.2.2.2.1 hd) rfl ((if0 _ _).trans (tlt (Decidable.not_not.mp q)).2.2.2) r) (wn (by first | exact q | exact Decidable.not_not.mp q))
theorem w_lc_eq (C : Hand X Z y bytes mx rt R n0 Q) {o : Int} {x z : Int64} {pm pn : Nat} (hd0 : decode bytes pc = .ok (.lcmp, 1)) (h0 : pc + 1 = pm) (hd : decode bytes pm = .ok (.ifCond .eq o, 3)) (ho : 0 ≤ (pm : Int) + o) (hp : ((pm : Int) + o).toNat = pc') (hn : pm + 3 = pn) (wy : x = z → Wp X k n h pc' ls st) (wn : ¬ x = z → Wp X k n h pn ls st) : Wp X k n h pc ls (.long z :: .long x :: st) :=
  w_lcmp C hd0 h0 (w_if_eq C hd ho hp hn (fun q => wy ((lw_eq x z).mp q)) (fun q => wn ((not_congr (lw_eq x z)).mp q)))
theorem w_lc_ne (C : Hand X Z y bytes mx rt R n0 Q) {o : Int} {x z : Int64} {pm pn : Nat} (hd0 : decode bytes pc = .ok (.lcmp, 1)) (h0 : pc + 1 = pm) (hd : decode bytes pm = .ok (.ifCond .ne o, 3)) (ho : 0 ≤ (pm : Int) + o) (hp : ((pm : Int) + o).toNat = pc') (hn : pm + 3 = pn) (wy : ¬ x = z → Wp X k n h pc' ls st) (wn : x = z → Wp X k n h pn ls st) : Wp X k n h pc ls (.long z :: .long x :: st) :=
  w_lcmp C hd0 h0 (w_if_ne C hd ho hp hn (fun q => wy ((not_congr (lw_eq x z)).mp q)) (fun q => wn ((lw_eq x z).mp q)))
theorem w_lc_lt (C : Hand X Z y bytes mx rt R n0 Q) {o : Int} {x z : Int64} {pm pn : Nat} (hd0 : decode bytes pc = .ok (.lcmp, 1)) (h0 : pc + 1 = pm) (hd : decode bytes pm = .ok (.ifCond .lt o, 3)) (ho : 0 ≤ (pm : Int) + o) (hp : ((pm : Int) + o).toNat = pc') (hn : pm + 3 = pn) (wy : x < z → Wp X k n h pc' ls st) (wn : ¬ x < z → Wp X k n h pn ls st) : Wp X k n h pc ls (.long z :: .long x :: st) :=
  w_lcmp C hd0 h0 (w_if_lt C hd ho hp hn (fun q => wy ((lw_lt x z).mp q)) (fun q => wn ((not_congr (lw_lt x z)).mp q)))
theorem w_lc_ge (C : Hand X Z y bytes mx rt R n0 Q) {o : Int} {x z : Int64} {pm pn : Nat} (hd0 : decode bytes pc = .ok (.lcmp, 1)) (h0 : pc + 1 = pm) (hd : decode bytes pm = .ok (.ifCond .ge o, 3)) (ho : 0 ≤ (pm : Int) + o) (hp : ((pm : Int) + o).toNat = pc') (hn : pm + 3 = pn) (wy : ¬ x < z → Wp X k n h pc' ls st) (wn : x < z → Wp X k n h pn ls st) : Wp X k n h pc ls (.long z :: .long x :: st) :=
  w_lcmp C hd0 h0 (w_if_ge C hd ho hp hn (fun q => wy ((not_congr (lw_lt x z)).mp q)) (fun q => wn ((lw_lt x z).mp q)))
theorem w_lc_gt (C : Hand X Z y bytes mx rt R n0 Q) {o : Int} {x z : Int64} {pm pn : Nat} (hd0 : decode bytes pc = .ok (.lcmp, 1)) (h0 : pc + 1 = pm) (hd : decode bytes pm = .ok (.ifCond .gt o, 3)) (ho : 0 ≤ (pm : Int) + o) (hp : ((pm : Int) + o).toNat = pc') (hn : pm + 3 = pn) (wy : z < x → Wp X k n h pc' ls st) (wn : ¬ z < x → Wp X k n h pn ls st) : Wp X k n h pc ls (.long z :: .long x :: st) :=
  w_lcmp C hd0 h0 (w_if_gt C hd ho hp hn (fun q => wy ((lw_gt x z).mp q)) (fun q => wn ((not_congr (lw_gt x z)).mp q)))
theorem w_lc_le (C : Hand X Z y bytes mx rt R n0 Q) {o : Int} {x z : Int64} {pm pn : Nat} (hd0 : decode bytes pc = .ok (.lcmp, 1)) (h0 : pc + 1 = pm) (hd : decode bytes pm = .ok (.ifCond .le o, 3)) (ho : 0 ≤ (pm : Int) + o) (hp : ((pm : Int) + o).toNat = pc') (hn : pm + 3 = pn) (wy : ¬ z < x → Wp X k n h pc' ls st) (wn : z < x → Wp X k n h pn ls st) : Wp X k n h pc ls (.long z :: .long x :: st) :=
  w_lcmp C hd0 h0 (w_if_le C hd ho hp hn (fun q => wy ((not_congr (lw_gt x z)).mp q)) (fun q => wn ((lw_gt x z).mp q)))
theorem w_jcmp_eq (C : Hand X Z y bytes mx rt R n0 Q) {o : Int} {x z : Int32} {pn : Nat} (hd : decode bytes pc = .ok (.if_icmp .eq o, 3)) (ho : 0 ≤ (pc : Int) + o) (hp : ((pc : Int) + o).toNat = pc') (hn : pc + 3 = pn) (wy : x.toInt = z.toInt → Wp X k n h pc' ls st) (wn : ¬ x.toInt = z.toInt → Wp X k n h pn ls st) : Wp X k n h pc ls (.int z :: .int x :: st) :=
  w_icmp_eq C hd ho hp hn (fun q => wy (Int32.toInt_inj.mpr q)) (fun q => wn (fun r => q (Int32.toInt_inj.mp r)))
theorem w_jf_eq (C : Hand X Z y bytes mx rt R n0 Q) {o : Int} {x : Int32} {pn : Nat} (hd : decode bytes pc = .ok (.ifCond .eq o, 3)) (ho : 0 ≤ (pc : Int) + o) (hp : ((pc : Int) + o).toNat = pc') (hn : pc + 3 = pn) (wy : x.toInt = 0 → Wp X k n h pc' ls st) (wn : ¬ x.toInt = 0 → Wp X k n h pn ls st) : Wp X k n h pc ls (.int x :: st) :=
  w_if_eq C hd ho hp hn (fun q => wy (Int32.toInt_inj.mpr q)) (fun q => wn (fun r => q (Int32.toInt_inj.mp r)))
theorem w_jc_eq (C : Hand X Z y bytes mx rt R n0 Q) {o : Int} {x z : Int64} {pm pn : Nat} (hd0 : decode bytes pc = .ok (.lcmp, 1)) (h0 : pc + 1 = pm) (hd : decode bytes pm = .ok (.ifCond .eq o, 3)) (ho : 0 ≤ (pm : Int) + o) (hp : ((pm : Int) + o).toNat = pc') (hn : pm + 3 = pn) (wy : x.toInt = z.toInt → Wp X k n h pc' ls st) (wn : ¬ x.toInt = z.toInt → Wp X k n h pn ls st) : Wp X k n h pc ls (.long z :: .long x :: st) :=
  w_lc_eq C hd0 h0 hd ho hp hn (fun q => wy (Int64.toInt_inj.mpr q)) (fun q => wn (fun r => q (Int64.toInt_inj.mp r)))
theorem w_jcmp_ne (C : Hand X Z y bytes mx rt R n0 Q) {o : Int} {x z : Int32} {pn : Nat} (hd : decode bytes pc = .ok (.if_icmp .ne o, 3)) (ho : 0 ≤ (pc : Int) + o) (hp : ((pc : Int) + o).toNat = pc') (hn : pc + 3 = pn) (wy : ¬ x.toInt = z.toInt → Wp X k n h pc' ls st) (wn : x.toInt = z.toInt → Wp X k n h pn ls st) : Wp X k n h pc ls (.int z :: .int x :: st) :=
  w_icmp_ne C hd ho hp hn (fun q => wy (fun r => q (Int32.toInt_inj.mp r))) (fun q => wn (Int32.toInt_inj.mpr q))
theorem w_jf_ne (C : Hand X Z y bytes mx rt R n0 Q) {o : Int} {x : Int32} {pn : Nat} (hd : decode bytes pc = .ok (.ifCond .ne o, 3)) (ho : 0 ≤ (pc : Int) + o) (hp : ((pc : Int) + o).toNat = pc') (hn : pc + 3 = pn) (wy : ¬ x.toInt = 0 → Wp X k n h pc' ls st) (wn : x.toInt = 0 → Wp X k n h pn ls st) : Wp X k n h pc ls (.int x :: st) :=
  w_if_ne C hd ho hp hn (fun q => wy (fun r => q (Int32.toInt_inj.mp r))) (fun q => wn (Int32.toInt_inj.mpr q))
theorem w_jc_ne (C : Hand X Z y bytes mx rt R n0 Q) {o : Int} {x z : Int64} {pm pn : Nat} (hd0 : decode bytes pc = .ok (.lcmp, 1)) (h0 : pc + 1 = pm) (hd : decode bytes pm = .ok (.ifCond .ne o, 3)) (ho : 0 ≤ (pm : Int) + o) (hp : ((pm : Int) + o).toNat = pc') (hn : pm + 3 = pn) (wy : ¬ x.toInt = z.toInt → Wp X k n h pc' ls st) (wn : x.toInt = z.toInt → Wp X k n h pn ls st) : Wp X k n h pc ls (.long z :: .long x :: st) :=
  w_lc_ne C hd0 h0 hd ho hp hn (fun q => wy (fun r => q (Int64.toInt_inj.mp r))) (fun q => wn (Int64.toInt_inj.mpr q))
theorem w_jcmp_lt (C : Hand X Z y bytes mx rt R n0 Q) {o : Int} {x z : Int32} {pn : Nat} (hd : decode bytes pc = .ok (.if_icmp .lt o, 3)) (ho : 0 ≤ (pc : Int) + o) (hp : ((pc : Int) + o).toNat = pc') (hn : pc + 3 = pn) (wy : x.toInt < z.toInt → Wp X k n h pc' ls st) (wn : z.toInt ≤ x.toInt → Wp X k n h pn ls st) : Wp X k n h pc ls (.int z :: .int x :: st) :=
  w_icmp_lt C hd ho hp hn (fun q => wy (Int32.lt_iff_toInt_lt.mp q)) (fun q => wn (Int.not_lt.mp (fun r => q (Int32.lt_iff_toInt_lt.mpr r))))
theorem w_jf_lt (C : Hand X Z y bytes mx rt R n0 Q) {o : Int} {x : Int32} {pn : Nat} (hd : decode bytes pc = .ok (.ifCond .lt o, 3)) (ho : 0 ≤ (pc : Int) + o) (hp : ((pc : Int) + o).toNat = pc') (hn : pc + 3 = pn) (wy : x.toInt < 0 → Wp X k n h pc' ls st) (wn : 0 ≤ x.toInt → Wp X k n h pn ls st) : Wp X k n h pc ls (.int x :: st) :=
  w_if_lt C hd ho hp hn (fun q => wy (Int32.lt_iff_toInt_lt.mp q)) (fun q => wn (Int.not_lt.mp (fun r => q (Int32.lt_iff_toInt_lt.mpr r))))
theorem w_jc_lt (C : Hand X Z y bytes mx rt R n0 Q) {o : Int} {x z : Int64} {pm pn : Nat} (hd0 : decode bytes pc = .ok (.lcmp, 1)) (h0 : pc + 1 = pm) (hd : decode bytes pm = .ok (.ifCond .lt o, 3)) (ho : 0 ≤ (pm : Int) + o) (hp : ((pm : Int) + o).toNat = pc') (hn : pm + 3 = pn) (wy : x.toInt < z.toInt → Wp X k n h pc' ls st) (wn : z.toInt ≤ x.toInt → Wp X k n h pn ls st) : Wp X k n h pc ls (.long z :: .long x :: st) :=
  w_lc_lt C hd0 h0 hd ho hp hn (fun q => wy (Int64.lt_iff_toInt_lt.mp q)) (fun q => wn (Int.not_lt.mp (fun r => q (Int64.lt_iff_toInt_lt.mpr r))))
theorem w_jcmp_ge (C : Hand X Z y bytes mx rt R n0 Q) {o : Int} {x z : Int32} {pn : Nat} (hd : decode bytes pc = .ok (.if_icmp .ge o, 3)) (ho : 0 ≤ (pc : Int) + o) (hp : ((pc : Int) + o).toNat = pc') (hn : pc + 3 = pn) (wy : z.toInt ≤ x.toInt → Wp X k n h pc' ls st) (wn : x.toInt < z.toInt → Wp X k n h pn ls st) : Wp X k n h pc ls (.int z :: .int x :: st) :=
  w_icmp_ge C hd ho hp hn (fun q => wy (Int.not_lt.mp (fun r => q (Int32.lt_iff_toInt_lt.mpr r)))) (fun q => wn (Int32.lt_iff_toInt_lt.mp q))
theorem w_jf_ge (C : Hand X Z y bytes mx rt R n0 Q) {o : Int} {x : Int32} {pn : Nat} (hd : decode bytes pc = .ok (.ifCond .ge o, 3)) (ho : 0 ≤ (pc : Int) + o) (hp : ((pc : Int) + o).toNat = pc') (hn : pc + 3 = pn) (wy : 0 ≤ x.toInt → Wp X k n h pc' ls st) (wn : x.toInt < 0 → Wp X k n h pn ls st) : Wp X k n h pc ls (.int x :: st) :=
  w_if_ge C hd ho hp hn (fun q => wy (Int.not_lt.mp (fun r => q (Int32.lt_iff_toInt_lt.mpr r)))) (fun q => wn (Int32.lt_iff_toInt_lt.mp q))
theorem w_jc_ge (C : Hand X Z y bytes mx rt R n0 Q) {o : Int} {x z : Int64} {pm pn : Nat} (hd0 : decode bytes pc = .ok (.lcmp, 1)) (h0 : pc + 1 = pm) (hd : decode bytes pm = .ok (.ifCond .ge o, 3)) (ho : 0 ≤ (pm : Int) + o) (hp : ((pm : Int) + o).toNat = pc') (hn : pm + 3 = pn) (wy : z.toInt ≤ x.toInt → Wp X k n h pc' ls st) (wn : x.toInt < z.toInt → Wp X k n h pn ls st) : Wp X k n h pc ls (.long z :: .long x :: st) :=
  w_lc_ge C hd0 h0 hd ho hp hn (fun q => wy (Int.not_lt.mp (fun r => q (Int64.lt_iff_toInt_lt.mpr r)))) (fun q => wn (Int64.lt_iff_toInt_lt.mp q))
theorem w_jcmp_gt (C : Hand X Z y bytes mx rt R n0 Q) {o : Int} {x z : Int32} {pn : Nat} (hd : decode bytes pc = .ok (.if_icmp .gt o, 3)) (ho : 0 ≤ (pc : Int) + o) (hp : ((pc : Int) + o).toNat = pc') (hn : pc + 3 = pn) (wy : z.toInt < x.toInt → Wp X k n h pc' ls st) (wn : x.toInt ≤ z.toInt → Wp X k n h pn ls st) : Wp X k n h pc ls (.int z :: .int x :: st) :=
  w_icmp_gt C hd ho hp hn (fun q => wy (Int32.lt_iff_toInt_lt.mp q)) (fun q => wn (Int.not_lt.mp (fun r => q (Int32.lt_iff_toInt_lt.mpr r))))
theorem w_jf_gt (C : Hand X Z y bytes mx rt R n0 Q) {o : Int} {x : Int32} {pn : Nat} (hd : decode bytes pc = .ok (.ifCond .gt o, 3)) (ho : 0 ≤ (pc : Int) + o) (hp : ((pc : Int) + o).toNat = pc') (hn : pc + 3 = pn) (wy : 0 < x.toInt → Wp X k n h pc' ls st) (wn : x.toInt ≤ 0 → Wp X k n h pn ls st) : Wp X k n h pc ls (.int x :: st) :=
  w_if_gt C hd ho hp hn (fun q => wy (Int32.lt_iff_toInt_lt.mp q)) (fun q => wn (Int.not_lt.mp (fun r => q (Int32.lt_iff_toInt_lt.mpr r))))
theorem w_jc_gt (C : Hand X Z y bytes mx rt R n0 Q) {o : Int} {x z : Int64} {pm pn : Nat} (hd0 : decode bytes pc = .ok (.lcmp, 1)) (h0 : pc + 1 = pm) (hd : decode bytes pm = .ok (.ifCond .gt o, 3)) (ho : 0 ≤ (pm : Int) + o) (hp : ((pm : Int) + o).toNat = pc') (hn : pm + 3 = pn) (wy : z.toInt < x.toInt → Wp X k n h pc' ls st) (wn : x.toInt ≤ z.toInt → Wp X k n h pn ls st) : Wp X k n h pc ls (.long z :: .long x :: st) :=
  w_lc_gt C hd0 h0 hd ho hp hn (fun q => wy (Int64.lt_iff_toInt_lt.mp q)) (fun q => wn (Int.not_lt.mp (fun r => q (Int64.lt_iff_toInt_lt.mpr r))))
theorem w_jcmp_le (C : Hand X Z y bytes mx rt R n0 Q) {o : Int} {x z : Int32} {pn : Nat} (hd : decode bytes pc = .ok (.if_icmp .le o, 3)) (ho : 0 ≤ (pc : Int) + o) (hp : ((pc : Int) + o).toNat = pc') (hn : pc + 3 = pn) (wy : x.toInt ≤ z.toInt → Wp X k n h pc' ls st) (wn : z.toInt < x.toInt → Wp X k n h pn ls st) : Wp X k n h pc ls (.int z :: .int x :: st) :=
  w_icmp_le C hd ho hp hn (fun q => wy (Int.not_lt.mp (fun r => q (Int32.lt_iff_toInt_lt.mpr r)))) (fun q => wn (Int32.lt_iff_toInt_lt.mp q))
theorem w_jf_le (C : Hand X Z y bytes mx rt R n0 Q) {o : Int} {x : Int32} {pn : Nat} (hd : decode bytes pc = .ok (.ifCond .le o, 3)) (ho : 0 ≤ (pc : Int) + o) (hp : ((pc : Int) + o).toNat = pc') (hn : pc + 3 = pn) (wy : x.toInt ≤ 0 → Wp X k n h pc' ls st) (wn : 0 < x.toInt → Wp X k n h pn ls st) : Wp X k n h pc ls (.int x :: st) :=
  w_if_le C hd ho hp hn (fun q => wy (Int.not_lt.mp (fun r => q (Int32.lt_iff_toInt_lt.mpr r)))) (fun q => wn (Int32.lt_iff_toInt_lt.mp q))
theorem w_jc_le (C : Hand X Z y bytes mx rt R n0 Q) {o : Int} {x z : Int64} {pm pn : Nat} (hd0 : decode bytes pc = .ok (.lcmp, 1)) (h0 : pc + 1 = pm) (hd : decode bytes pm = .ok (.ifCond .le o, 3)) (ho : 0 ≤ (pm : Int) + o) (hp : ((pm : Int) + o).toNat = pc') (hn : pm + 3 = pn) (wy : x.toInt ≤ z.toInt → Wp X k n h pc' ls st) (wn : z.toInt < x.toInt → Wp X k n h pn ls st) : Wp X k n h pc ls (.long z :: .long x :: st) :=
  w_lc_le C hd0 h0 hd ho hp hn (fun q => wy (Int.not_lt.mp (fun r => q (Int64.lt_iff_toInt_lt.mpr r)))) (fun q => wn (Int64.lt_iff_toInt_lt.mp q))
theorem w_ifnonnullY (C : Hand X Z y bytes mx rt R n0 Q) {o : Int} {b : Addr} (hd : decode bytes pc = .ok (.ifnonnull o, 3)) (ho : 0 ≤ (pc : Int) + o) (hp : ((pc : Int) + o).toNat = pc') (w : Wp X k n h pc' ls st) : Wp X k n h pc ls (.ref b :: st) :=
  Wp.go C (fun X hX C T locs S e t r => XS.ifnonnullYes S.here C.1 rfl (pc0 := pc) rfl (hb C.2.2.2.1 hd) rfl ho hp r) w
theorem w_ifnonnullN (C : Hand X Z y bytes mx rt R n0 Q) {o : Int} (hd : decode bytes pc = .ok (.ifnonnull o, 3)) (hp : pc + 3 = pc') (w : Wp X k n h pc' ls st) : Wp X k n h pc ls (.null :: st) := by
  subst hp; exact Wp.go C (fun X hX C T locs S e t r => XS.ifnonnullNo S.here C.1 rfl (hb C.2.2.2.1 hd) rfl r) w
theorem w_ifnullN (C : Hand X Z y bytes mx rt R n0 Q) {o : Int} {b : Addr} (hd : decode bytes pc = .ok (.ifnull o, 3)) (hp : pc + 3 = pc') (w : Wp X k n h pc' ls st) : Wp X k n h pc ls (.ref b :: st) := by
  subst hp; exact Wp.go C (fun X hX C T locs S e t r => XS.ifnullNo S.here C.1 rfl (hb C.2.2.2.1 hd) rfl r) w
theorem w_ifnullY (C : Hand X Z y bytes mx rt R n0 Q) {o : Int} (hd : decode bytes pc = .ok (.ifnull o, 3)) (ho : 0 ≤ (pc : Int) + o) (hp : ((pc : Int) + o).toNat = pc') (w : Wp X k n h pc' ls st) : Wp X k n h pc ls (.null :: st) :=
  Wp.go C (fun X hX C T locs S e t r => XS.ifnullYes S.here C.1 rfl (pc0 := pc) rfl (hb C.2.2.2.1 hd) rfl ho hp r) w
theorem w_acmp_eq (C : Hand X Z y bytes mx rt R n0 Q) {o : Int} {x z : Value} {pn : Nat} (h1 : x.isRef = true) (h2 : z.isRef = true) (hd : decode bytes pc = .ok (.if_acmp .eq o, 3)) (ho : 0 ≤ (pc : Int) + o) (hp : ((pc : Int) + o).toNat = pc') (hn : pc + 3 = pn) (wy : x = z → Wp X k n h pc' ls st) (wn : ¬ x = z → Wp X k n h pn ls st) : Wp X k n h pc ls (z :: x :: st) := by
  by_cases q : x = z
  · exact Wp.go C (fun X hX C T locs S e t r => acmp S C.1 rfl h1 h2 (pc0 := pc) (same := true) rfl (hb C.2.2.2.1 hd) rfl (by simp [q]) ho (by simp [acV, hp]) r) (wy q)
  · exact Wp.go C (fun X hX C T locs S e t r => acmp S C.1 rfl h1 h2 (pc0 := pc) (same := false) rfl (hb C.2.2.2.1 hd) rfl (by simp [q]) ho (by simp [acV, hn]) r) (wn q)
theorem w_acmp_ne (C : Hand X Z y bytes mx rt R n0 Q) {o : Int} {x z : Value} {pn : Nat} (h1 : x.isRef = true) (h2 : z.isRef = true) (hd : decode bytes pc = .ok (.if_acmp .ne o, 3)) (ho : 0 ≤ (pc : Int) + o) (hp : ((pc : Int) + o).toNat = pc') (hn : pc + 3 = pn) (wy : ¬ x = z → Wp X k n h pc' ls st) (wn : x = z → Wp X k n h pn ls st) : Wp X k n h pc ls (z :: x :: st) := by
  by_cases q : x = z
  · exact Wp.go C (fun X hX C T locs S e t r => acmp S C.1 rfl h1 h2 (pc0 := pc) (same := true) rfl (hb C.2.2.2.1 hd) rfl (by simp [q]) ho (by simp [acV, hn]) r) (wn q)
  · exact Wp.go C (fun X hX C T locs S e t r => acmp S C.1 rfl h1 h2 (pc0 := pc) (same := false) rfl (hb C.2.2.2.1 hd) rfl (by simp [q]) ho (by simp [acV, hp]) r) (wy q)
/-! returns -/
theorem w_iret {t : FieldType} (C : Hand X Z y bytes mx (some t) R n0 Q) {z : Int32} (hd : decode bytes pc = .ok (.ireturn, 1)) (ht : t = .int ∨ t = .boolean ∨ t = .byte ∨ t = .char ∨ t = .short) (hz : narrow t (.int z) = .int z) (hk : k ≤ R.cells) (hn : n ≤ R.slots) (q : Q (some (.int z)) h) : Wp X k n h pc ls (.int z :: st) :=
  w_done C (fun z => by cases z) hk hn q fun X C T locs fs S hr => retOut S C.1 C.2.2.2.2.2.1 hz (Or.inl ⟨rfl, ht, z, rfl⟩) (hb C.2.2.2.1 hd) hr
theorem w_lret (C : Hand X Z y bytes mx (some .long) R n0 Q) {z : Int64} (hd : decode bytes pc = .ok (.lreturn, 1)) (hk : k ≤ R.cells) (hn : n ≤ R.slots) (q : Q (some (.long z)) h) : Wp X k n h pc ls (.long z :: st) :=
  w_done C (fun z => by cases z) hk hn q fun X C T locs fs S hr => retOut S C.1 C.2.2.2.2.2.1 rfl (Or.inr (Or.inl ⟨rfl, rfl, z, rfl⟩)) (hb C.2.2.2.1 hd) hr
theorem w_aret {t : FieldType} (C : Hand X Z y bytes mx (some t) R n0 Q) {a : Addr} (hd : decode bytes pc = .ok (.areturn, 1)) (ht : t.isReference = true) (hz : narrow t (.ref a) = .ref a) (hk : k ≤ R.cells) (hn : n ≤ R.slots) (q : Q (some (.ref a)) h) : Wp X k n h pc ls (.ref a :: st) :=
  w_done C (fun z => by cases z) hk hn q fun X C T locs fs S hr => retOut S C.1 C.2.2.2.2.2.1 hz (Or.inr (Or.inr (Or.inr (Or.inr ⟨rfl, ht, rfl⟩)))) (hb C.2.2.2.1 hd) hr
theorem w_vret (C : Hand X Z y bytes mx none R n0 Q) (hd : decode bytes pc = .ok (.return_, 1)) (hk : k ≤ R.cells) (hn : n ≤ R.slots) (q : Q none h) : Wp X k n h pc ls [] :=
  w_done C (fun _ => rfl) hk hn q fun X C T locs fs S hr => S.returnOut C.1 C.2.2.2.2.2.1 (hb C.2.2.2.1 hd) hr
/-! arrays -/
def Ars (Z : State) (h : Heap) (a : Addr) (ty : FieldType) (vs : List Value) : Prop := ∃ c : Cell, Arr Z h a c ty ∧ c.slots.toList = vs ∧ vs.length < 2 ^ 31
variable {h' : Heap} {a b : Addr} {ty : FieldType} {vs : List Value}
theorem Ars.lt (F : Ars Z h a ty vs) : a < h.size := by obtain ⟨c, A, -⟩ := F; exact A.lt
theorem Ars.ext (F : Ars Z h a ty vs) (E : Ext h h') : Ars Z h' a ty vs := by obtain ⟨c, A, r⟩ := F; exact ⟨c, A.ext E, r⟩
theorem Ars.other {sl : Nat} {v : Value} (F : Ars Z h b ty vs) (W : Wr h h' a sl v) (q : b ≠ a) : Ars Z h' b ty vs := by obtain ⟨c, A, r⟩ := F; exact ⟨c, A.other W q, r⟩
theorem Ars.same {i : Nat} {v : Value} (F : Ars Z h a ty vs) (W : Wr h h' a i v) : Ars Z h' a ty (vs.set i v) := by
  obtain ⟨c, A, rfl, r⟩ := F
  exact ⟨_, A.same W, by simp [Cell.setSlot], by simpa using r⟩
theorem Ars.keep {ws : List Addr} (F : Ars Z h a ty vs) (K : Keep h h' ws) (q : a ∉ ws) : Ars Z h' a ty vs := by obtain ⟨c, A, r⟩ := F; exact ⟨c, ⟨K.2.1 a c A.1 q, A.2⟩, r⟩
theorem Ars.inb {c : Cell} {j : Int32} {i : Nat} (e : c.slots.toList = vs) (hj : ¬ j < 0) (hi : j.toNatClampNeg = i) (hl : i < vs.length) : ¬ (j < 0 ∨ c.slots.size ≤ j.toNatClampNeg) := by
  subst e hi; intro q; rcases q with q | q
  · exact hj q
  · simp at hl; omega
theorem w_iastore (C : Hand X Z y bytes mx rt R n0 Q) {j : Int32} {x : Int32} {i : Nat} (hd : decode bytes pc = .ok (.iastore, 1)) (A : Ars Z h a .int vs) (hn : n0 ≤ a) (hj : ¬ j < 0) (hi : j.toNatClampNeg = i) (hl : i < vs.length) (hp : pc + 1 = pc')
    (w : ∀ h', Wr h h' a i (.int x) → Ars Z h' a .int (vs.set i (.int x)) → Wp X k n h' pc' ls st) : Wp X k n h pc ls (.int x :: .int j :: .ref a :: st) := by
  subst hp hi
  refine Wp.to C (P := fun h' st' => st' = st ∧ Wr h h' a j.toNatClampNeg (.int x)) (fun X hX C T locs S e => ?_) (fun h' st' q => by obtain ⟨rfl, W⟩ := q; exact w h' W (A.same W))
  obtain ⟨c, Ac, ec, -⟩ := A
  obtain ⟨T', h', S', e', W', st⟩ := stI S C.1 C.2.1 e Ac (j := j) (x := x) (Ars.inb ec hj rfl hl) (g := mkF X.m pc ls (.int x :: .int j :: .ref a :: st)) rfl rfl (hb C.2.2.2.1 hd)
  exact ⟨T', _, h', _, S', e', fun q hq => by cases List.mem_singleton.mp hq; rw [C.2.2.2.2.2.2.2.2.2.2.1]; exact hn, Nat.le_of_eq W'.size.symm, ⟨rfl, W'⟩, st⟩
theorem w_lastore (C : Hand X Z y bytes mx rt R n0 Q) {j : Int32} {x : Int64} {i : Nat} (hd : decode bytes pc = .ok (.lastore, 1)) (A : Ars Z h a .long vs) (hn : n0 ≤ a) (hj : ¬ j < 0) (hi : j.toNatClampNeg = i) (hl : i < vs.length) (hp : pc + 1 = pc')
    (w : ∀ h', Wr h h' a i (.long x) → Ars Z h' a .long (vs.set i (.long x)) → Wp X k n h' pc' ls st) : Wp X k n h pc ls (.long x :: .int j :: .ref a :: st) := by
  subst hp hi
  refine Wp.to C (P := fun h' st' => st' = st ∧ Wr h h' a j.toNatClampNeg (.long x)) (fun X hX C T locs S e => ?_) (fun h' st' q => by obtain ⟨rfl, W⟩ := q; exact w h' W (A.same W))
  obtain ⟨c, Ac, ec, -⟩ := A
  obtain ⟨T', h', S', e', W', st⟩ := stJ S C.1 C.2.1 e Ac (j := j) (x := x) (Ars.inb ec hj rfl hl) (g := mkF X.m pc ls (.long x :: .int j :: .ref a :: st)) rfl rfl (hb C.2.2.2.1 hd)
  exact ⟨T', _, h', _, S', e', fun q hq => by cases List.mem_singleton.mp hq; rw [C.2.2.2.2.2.2.2.2.2.2.1]; exact hn, Nat.le_of_eq W'.size.symm, ⟨rfl, W'⟩, st⟩
theorem w_bastore (C : Hand X Z y bytes mx rt R n0 Q) {j : Int32} {x : Int32} {i : Nat} (hd : decode bytes pc = .ok (.bastore, 1)) (A : Ars Z h a .byte vs) (hn : n0 ≤ a) (hj : ¬ j < 0) (hi : j.toNatClampNeg = i) (hl : i < vs.length) (hp : pc + 1 = pc')
    (w : ∀ h', Wr h h' a i (.int x.toInt8.toInt32) → Ars Z h' a .byte (vs.set i (.int x.toInt8.toInt32)) → Wp X k n h' pc' ls st) : Wp X k n h pc ls (.int x :: .int j :: .ref a :: st) := by
  subst hp hi
  refine Wp.to C (P := fun h' st' => st' = st ∧ Wr h h' a j.toNatClampNeg (.int x.toInt8.toInt32)) (fun X hX C T locs S e => ?_) (fun h' st' q => by obtain ⟨rfl, W⟩ := q; exact w h' W (A.same W))
  obtain ⟨c, Ac, ec, -⟩ := A
  obtain ⟨T', h', S', e', W', st⟩ := stB S C.1 C.2.1 e Ac (j := j) (x := x) (Ars.inb ec hj rfl hl) (g := mkF X.m pc ls (.int x :: .int j :: .ref a :: st)) rfl rfl (hb C.2.2.2.1 hd)
  exact ⟨T', _, h', _, S', e', fun q hq => by cases List.mem_singleton.mp hq; rw [C.2.2.2.2.2.2.2.2.2.2.1]; exact hn, Nat.le_of_eq W'.size.symm, ⟨rfl, W'⟩, st⟩
theorem w_iaload (C : Hand X Z y bytes mx rt R n0 Q) {j : Int32} {v : Value} {i : Nat} (hd : decode bytes pc = .ok (.iaload, 1)) (A : Ars Z h a .int vs) (hj : ¬ j < 0) (hi : j.toNatClampNeg = i) (hv : vs[i]? = some v) (hp : pc + 1 = pc') (w : Wp X k n h pc' ls (v :: st)) : Wp X k n h pc ls (.int j :: .ref a :: st) := by
  subst hp hi
  obtain ⟨c, Ac, ec, -⟩ := A
  have hl : j.toNatClampNeg < vs.length := (List.getElem?_eq_some_iff.mp hv).1
  refine Wp.go C (fun X hX C T locs S e t q => S.iaload C.1 (j := j) (v := v) (by rw [e]; exact Ac.1) (State.isArrayOf_alike C.2.1.alike Ac.2.1) Ac.2.2 (Ars.inb ec hj rfl hl) (by subst ec; simpa using hv) (g := mkF X.m pc ls (.int j :: .ref a :: st)) rfl rfl (hb C.2.2.2.1 hd) t q) w
theorem w_laload (C : Hand X Z y bytes mx rt R n0 Q) {j : Int32} {v : Value} {i : Nat} (hd : decode bytes pc = .ok (.laload, 1)) (A : Ars Z h a .long vs) (hj : ¬ j < 0) (hi : j.toNatClampNeg = i) (hv : vs[i]? = some v) (hp : pc + 1 = pc') (w : Wp X k n h pc' ls (v :: st)) : Wp X k n h pc ls (.int j :: .ref a :: st) := by
  subst hp hi
  obtain ⟨c, Ac, ec, -⟩ := A
  have hl : j.toNatClampNeg < vs.length := (List.getElem?_eq_some_iff.mp hv).1
  refine Wp.go C (fun X hX C T locs S e t q => S.laload C.1 (j := j) (v := v) (by rw [e]; exact Ac.1) (State.isArrayOf_alike C.2.1.alike Ac.2.1) Ac.2.2 (Ars.inb ec hj rfl hl) (by subst ec; simpa using hv) (g := mkF X.m pc ls (.int j :: .ref a :: st)) rfl rfl (hb C.2.2.2.1 hd) t q) w
theorem w_baload (C : Hand X Z y bytes mx rt R n0 Q) {j : Int32} {v : Value} {i : Nat} (hd : decode bytes pc = .ok (.baload, 1)) (A : Ars Z h a .byte vs) (hj : ¬ j < 0) (hi : j.toNatClampNeg = i) (hv : vs[i]? = some v) (hp : pc + 1 = pc') (w : Wp X k n h pc' ls (v :: st)) : Wp X k n h pc ls (.int j :: .ref a :: st) := by
  subst hp hi
  obtain ⟨c, Ac, ec, -⟩ := A
  have hl : j.toNatClampNeg < vs.length := (List.getElem?_eq_some_iff.mp hv).1
  refine Wp.go C (fun X hX C T locs S e t q => S.baloadBytes C.1 (j := j) (v := v) (by rw [e]; exact Ac.1) (State.isArrayOf_alike C.2.1.alike Ac.2.1) Ac.2.2 (Ars.inb ec hj rfl hl) (by subst ec; simpa using hv) (g := mkF X.m pc ls (.int j :: .ref a :: st)) rfl rfl (hb C.2.2.2.1 hd) t q) w
theorem w_alen (C : Hand X Z y bytes mx rt R n0 Q) {z : Int32} (hd : decode bytes pc = .ok (.arraylength, 1)) (A : Ars Z h a ty vs) (hz : vs.length.toInt32 = z) (hp : pc + 1 = pc') (w : Wp X k n h pc' ls (.int z :: st)) : Wp X k n h pc ls (.ref a :: st) := by
  subst hp hz
  obtain ⟨c, Ac, rfl, -⟩ := A
  refine Wp.go C (fun X hX C T locs S e t q => S.arraylength C.1 (by rw [e]; exact Ac.1) (State.isArrayOf_alike C.2.1.alike Ac.2.1) (g := mkF X.m pc ls (.ref a :: st)) rfl rfl (hb C.2.2.2.1 hd) t (by simpa using q)) w
theorem w_newarray (C : Hand X Z y bytes mx rt R n0 Q) {aty : ArrayType} {z : Int32} {cap : Nat} (hw : (Jvm.Cond.arrayClass (newarray.typeOf aty)).before a0 Z = true) (hd : decode bytes pc = .ok (.newarray aty, 2)) (hz : ¬ z < 0) (hcap : z.toNatClampNeg ≤ cap) (hb8 : cap * 8 ≤ 536870912) (hc : k + 1 ≤ R.cells) (hl : n + cap ≤ R.slots) (hp : pc + 2 = pc')
    (w : ∀ h' a, a = h.size → n0 ≤ a → Ext h h' → Ars Z h' a (newarray.typeOf aty) (List.replicate z.toNatClampNeg (defaultValue (newarray.typeOf aty))) → Wp X (k + 1) (n + cap) h' pc' ls (.ref a :: st)) : Wp X k n h pc ls (.int z :: st) := by
  subst hp
  refine Wp.size C fun hsz => Wp.to C (P := fun h' st' => st' = .ref h.size :: st ∧ Ext h h' ∧ Ars Z h' h.size (newarray.typeOf aty) (List.replicate z.toNatClampNeg (defaultValue (newarray.typeOf aty)))) (fun X hX C T locs S e => ?_) (fun h' st' q => by obtain ⟨rfl, E, A⟩ := q; exact w h' _ rfl hsz E A)
  obtain ⟨T', h', cA, S', e', E', A', st⟩ := newP S C.1 C.2.1 hw e (g := mkF X.m pc ls (.int z :: st)) rfl (hb C.2.2.2.1 hd) rfl hz hcap hb8 (by rw [C.2.2.2.2.2.2.2.1]; exact hc) (by rw [C.2.2.2.2.2.2.2.1]; exact hl)
  exact ⟨T', [], h', _, by rw [toL]; exact S', e', Fr.nil _, E'.1, ⟨rfl, E', _, A', by simp [newA], by simpa using (back32 hz).2⟩, st⟩
/-! objects -/
theorem w_new (C : Hand X Z y bytes mx rt R n0 Q) {i nn : Nat} {K : String} (hw : (Jvm.Cond.classLink y.cls i K).before a0 Z = true) (wi : (Jvm.Cond.instantiable K nn).before a0 Z = true) (wz : (Jvm.Cond.initialized K).before a0 Z = true) (hd : decode bytes pc = .ok (.new i, 3)) (hc : k + 1 ≤ R.cells) (hl : n + nn ≤ R.slots) (hp : pc + 3 = pc')
    (w : ∀ h' a, a = h.size → n0 ≤ a → Ext h h' → Exa Z h' a K → (∀ {O nm d : String} {ty : FieldType}, Laid Z a0 K O nm d → parseFieldDescriptor d = some ty → Fld Z h' a O nm d (defaultValue ty)) → Wp X (k + 1) (n + nn) h' pc' ls (.ref a :: st)) : Wp X k n h pc ls st := by
  subst hp
  refine Wp.size C fun hsz => Wp.to C (P := fun h' st' => st' = .ref h.size :: st ∧ Ext h h' ∧ Exa Z h' h.size K ∧ ∀ {O nm d : String} {ty : FieldType}, Laid Z a0 K O nm d → parseFieldDescriptor d = some ty → Fld Z h' h.size O nm d (defaultValue ty)) (fun X hX C T locs S e => ?_) (fun h' st' q => by obtain ⟨rfl, E, A, D⟩ := q; exact w h' _ rfl hsz E A D)
  obtain ⟨T', h', S', e', E', A', D', -, st⟩ := newO S C.1 C.2.1 C.2.2.1 hw wi wz e (g := mkF X.m pc ls st) rfl (hb C.2.2.2.1 hd) (by rw [C.2.2.2.2.2.2.2.1]; exact hc) (by rw [C.2.2.2.2.2.2.2.1]; exact hl)
  exact ⟨T', [], h', _, by rw [toL]; exact S', e', Fr.nil _, E'.1, ⟨rfl, E', A', D'⟩, st⟩
theorem w_initO (C : Hand X Z y bytes mx rt R n0 Q) {i W : Nat} (w1 : (Jvm.Cond.methodLink y.cls i Lib.objectInit).before a0 Z = true) (w2 : (Jvm.Cond.instanceMethod Lib.objectInit).before a0 Z = true) (w3 : (Jvm.Cond.code Lib.objectInit ⟨#[0xb1]⟩ 1 none).before a0 Z = true)
    (hd : decode bytes pc = .ok (.invokespecial i, 3)) (hls : ls.size = mx) (hf : 1 ≤ R.frames) (hW : (st.map fun v => v.category).sum = W) (hl : W + 12 ≤ R.locals) (hp : pc + 3 = pc') (w : Wp X k n h pc' ls st) : Wp X k n h pc ls (.ref a :: st) := by
  subst hp hW
  refine Wp.to C (P := fun h' st' => h' = h ∧ st' = st) (fun X hX C T locs S e => ?_) (fun h' st' q => by obtain ⟨rfl, rfl⟩ := q; exact w)
  obtain ⟨T', S', e', st⟩ := initO S C.1 C.2.1 C.2.2.1 w1 w2 w3 e (g := mkF X.m pc ls (.ref a :: st)) rfl (by rw [C.2.2.2.2.1]; exact hls) rfl (hb C.2.2.2.1 hd) (by rw [C.2.2.2.2.2.2.2.1]; exact hf) (W := (st.map fun v => v.category).sum) (by show 2 * 0 + _ ≤ _; omega) (by rw [C.2.2.2.2.2.2.2.1]; exact hl)
  exact ⟨T', [], h, _, by rw [toL]; exact S', e', Fr.nil _, Nat.le_refl _, ⟨rfl, rfl⟩, st⟩
theorem w_getfield (C : Hand X Z y bytes mx rt R n0 Q) {i : Nat} {O f d : String} {v : Value} (hw : (Jvm.Cond.fieldLink y.cls i O f d).before a0 Z = true) (hd : decode bytes pc = .ok (.getfield i, 3)) (F : Fld Z h a O f d v) (hp : pc + 3 = pc') (w : Wp X k n h pc' ls (v :: st)) : Wp X k n h pc ls (.ref a :: st) := by
  subst hp
  refine Wp.to C (P := fun h' st' => h' = h ∧ st' = v :: st) (fun X hX C T locs S e => ?_) (fun h' st' q => by obtain ⟨rfl, rfl⟩ := q; exact w)
  obtain ⟨T', S', e', st⟩ := getF S C.1 C.2.1 (host := "") C.2.2.1 (Or.inl hw) Via.refl e F (g := mkF X.m pc ls (.ref a :: st)) rfl rfl (hb C.2.2.2.1 hd)
  exact ⟨T', [], h, _, by rw [toL]; exact S', e', Fr.nil _, Nat.le_refl _, ⟨rfl, rfl⟩, st⟩
theorem w_getstatic (C : Hand X Z y bytes mx rt R n0 Q) {i : Nat} {O f d : String} {v : Value} (hw : (Jvm.Cond.fieldLink y.cls i O f d).before a0 Z = true) (hd : decode bytes pc = .ok (.getstatic i, 3)) (F : Sta Z h O f d v) (hp : pc + 3 = pc') (w : Wp X k n h pc' ls (v :: st)) : Wp X k n h pc ls st := by
  subst hp
  refine Wp.to C (P := fun h' st' => h' = h ∧ st' = v :: st) (fun X hX C T locs S e => ?_) (fun h' st' q => by obtain ⟨rfl, rfl⟩ := q; exact w)
  obtain ⟨T', S', e', st⟩ := getS S C.1 C.2.1 (host := "") C.2.2.1 hw Via.refl e F (g := mkF X.m pc ls st) rfl (hb C.2.2.2.1 hd)
  exact ⟨T', [], h, _, by rw [toL]; exact S', e', Fr.nil _, Nat.le_refl _, ⟨rfl, rfl⟩, st⟩
theorem w_putfield (C : Hand X Z y bytes mx rt R n0 Q) {i kk : Nat} {O f d K : String} {t : FieldType} {v old : Value} (hw : (Jvm.Cond.fieldLink y.cls i O f d).before a0 Z = true) (L : (Jvm.Cond.lays K O f d).before a0 Z = true ∨ ((Jvm.Cond.laysFinal K O f d).before a0 Z = true ∧ y.cls = O ∧ y.name = "<init>")) (wi : (Jvm.Cond.instantiable K kk).before a0 Z = true)
    (hd : decode bytes pc = .ok (.putfield i, 3)) (F : Fld Z h a O f d old) (E : Exa Z h a K) (hn : n0 ≤ a) (ht : parseFieldDescriptor d = some t) (hv : narrow t v = v) (hf : fits t v = true) (hp : pc + 3 = pc')
    (w : ∀ h', Wr h h' a (Jvm.RoadKit.slotOf Z O f d) v → Fld Z h' a O f d v → Exa Z h' a K → Wp X k n h' pc' ls st) : Wp X k n h pc ls (v :: .ref a :: st) := by
  subst hp
  refine Wp.to C (P := fun h' st' => st' = st ∧ Wr h h' a (Jvm.RoadKit.slotOf Z O f d) v) (fun X hX C T locs S e => ?_) (fun h' st' q => by obtain ⟨rfl, W⟩ := q; exact w h' W (F.same W) (E.wr W))
  obtain ⟨T', h', S', e', W', st⟩ := putF S C.1 C.2.1 (host := "") C.2.2.1 (Or.inl hw) Via.refl e F E (L.imp id fun q => ⟨q.1, q.2.1, C.2.2.2.2.2.2.2.2.2.1.trans q.2.2⟩) wi ht hv hf (g := mkF X.m pc ls (v :: .ref a :: st)) rfl rfl (hb C.2.2.2.1 hd)
  exact ⟨T', _, h', _, S', e', fun q hq => by cases List.mem_singleton.mp hq; rw [C.2.2.2.2.2.2.2.2.2.2.1]; exact hn, Nat.le_of_eq W'.size.symm, ⟨rfl, W'⟩, st⟩
/-! calls -/
variable {i W : Nat} {y' z : MethodName} {bytes' : ByteArray} {mx' : Nat} {rt' : Option FieldType} {R' : Room} {Q' : Option Value → Heap → Prop} {argsL rest : List Value} {ps : List FieldType}
theorem w_static (C : Hand X Z y bytes mx rt R n0 Q) (hw1 : (Jvm.Cond.methodLink y.cls i y').before a0 Z = true) (hw2 : (Jvm.Cond.static y').before a0 Z = true) (hw3 : (Jvm.Cond.initialized y'.cls).before a0 Z = true) (hw4 : (Jvm.Cond.code y' bytes' mx' rt').before a0 Z = true)
    (hy : y'.cls ≠ "java/lang/invoke/MethodHandle" ∧ y'.cls ≠ "java/lang/invoke/VarHandle") (hpd : parseMethodDescriptor y'.desc = some ⟨ps, rt'⟩) (hd : decode bytes pc = .ok (.invokestatic i, 3)) (K : Ct X.l Z y' bytes' mx' rt' R' n0 [] argsL.toArray h Q')
    (hlen : argsL.length = ps.length) (hst : st = argsL.reverse ++ rest) (hls : ls.size = mx) (hf : R'.frames + 1 ≤ R.frames) (hW : (rest.map fun v => v.category).sum = W) (hl : W + (mx' + 11) + R'.locals ≤ R.locals) (hc : k + R'.cells ≤ R.cells) (hs : n + R'.slots ≤ R.slots) (hp : pc + 3 = pc')
    (w : ∀ v h', Q' v h' → Wp X (k + R'.cells) (n + R'.slots) h' pc' ls (v.toList ++ rest)) : Wp X k n h pc ls st := by
  subst hp hst hW
  refine Wp.to C (P := fun h' st' => ∃ v, st' = v.toList ++ rest ∧ Q' v h') (fun X hX C T locs S e => ?_) (fun h' st' q => by obtain ⟨v, rfl, q⟩ := q; exact w v h' q)
  have K : Ct X.l Z y' bytes' mx' rt' R' n0 [] argsL.toArray h Q' := by rw [hX]; exact K
  have eR := C.2.2.2.2.2.2.2.1
  obtain ⟨v, _, ⟨T', L', k', n'⟩, -, S', ⟨Lc, hQ, l1, y1, z1⟩, st⟩ := Jvm.LawKit.callS S C.1 (y := y') C.2.2.1 (mvT C.2.1 hw1) (mvT C.2.1 hw2) (mvT C.2.1 hw3) (mvT C.2.1 hw4) hy (backOf (W := (rest.map fun v => v.category).sum) (Q := fun v h' L => (Q' v h' ∧ h.size ≤ h'.size) ∧ Fr n0 L) K C.2.1 hw4 hw3 (by rw [eR]; exact hf) (by rw [eR]; exact hl)) (g := mkF X.m pc ls (argsL.reverse ++ rest)) rfl (by rw [C.2.2.2.2.1]; exact hls) (argsL := argsL) (rest := rest) (lenOf hpd hlen) rfl (by show 2 * 0 + _ ≤ _; omega) (hb C.2.2.2.1 hd) (fun _ _ => ⟨rfl, e, by rw [eR]; exact hc, by rw [eR]; exact hs⟩)
  dsimp only [Pt.U, Pt.locs, Pt.cells, Pt.slots] at S' l1 y1 z1 st hQ
  subst l1 y1 z1
  exact ⟨T', Lc, T'.heap, _, S', rfl, by rw [C.2.2.2.2.2.2.2.2.2.2.1]; exact hQ.2, hQ.1.2, ⟨v, rfl, hQ.1.1⟩, st⟩
theorem w_special (C : Hand X Z y bytes mx rt R n0 Q) (hw1 : (Jvm.Cond.methodLink y.cls i y').before a0 Z = true) (hw2 : (Jvm.Cond.instanceMethod y').before a0 Z = true) (hw3 : (Jvm.Cond.initialized y'.cls).before a0 Z = true) (hw4 : (Jvm.Cond.code y' bytes' mx' none).before a0 Z = true)
    (hy1 : y'.name = "<init>") (hy : y'.cls ≠ "java/lang/invoke/MethodHandle" ∧ y'.cls ≠ "java/lang/invoke/VarHandle") (hpd : parseMethodDescriptor y'.desc = some ⟨ps, none⟩) (hd : decode bytes pc = .ok (.invokespecial i, 3)) (K : Ct X.l Z y' bytes' mx' none R' n0 [] (.ref a :: argsL).toArray h Q')
    (hlen : argsL.length = ps.length) (hst : st = argsL.reverse ++ .ref a :: rest) (hls : ls.size = mx) (hf : R'.frames + 1 ≤ R.frames) (hW : (rest.map fun v => v.category).sum = W) (hl : W + (mx' + 11) + R'.locals ≤ R.locals) (hc : k + R'.cells ≤ R.cells) (hs : n + R'.slots ≤ R.slots) (hp : pc + 3 = pc')
    (w : ∀ v h', Q' v h' → Wp X (k + R'.cells) (n + R'.slots) h' pc' ls (v.toList ++ rest)) : Wp X k n h pc ls st := by
  subst hp hst hW
  refine Wp.to C (P := fun h' st' => ∃ v, st' = v.toList ++ rest ∧ Q' v h') (fun X hX C T locs S e => ?_) (fun h' st' q => by obtain ⟨v, rfl, q⟩ := q; exact w v h' q)
  have K : Ct X.l Z y' bytes' mx' none R' n0 [] (.ref a :: argsL).toArray h Q' := by rw [hX]; exact K
  have eR := C.2.2.2.2.2.2.2.1
  obtain ⟨v, _, ⟨T', L', k', n'⟩, -, S', ⟨Lc, hQ, l1, y1, z1⟩, st⟩ := S.specialBack C.1 (y := y') hy1 C.2.2.1 (mvT C.2.1 hw1) (mvT C.2.1 hw2) (mvT C.2.1 hw4) hy (backOf (W := (rest.map fun v => v.category).sum) (Q := fun v h' L => (Q' v h' ∧ h.size ≤ h'.size) ∧ Fr n0 L) K C.2.1 hw4 hw3 (by rw [eR]; exact hf) (by rw [eR]; exact hl)) (g := mkF X.m pc ls (argsL.reverse ++ .ref a :: rest)) rfl (by rw [C.2.2.2.2.1]; exact hls) (Steps.refl _) (a := a) (argsL := argsL) (rest := rest) (lenOf hpd hlen) rfl (by show 2 * 0 + _ ≤ _; omega) (hb C.2.2.2.1 hd) (fun _ _ => ⟨rfl, e, by rw [eR]; exact hc, by rw [eR]; exact hs⟩)
  dsimp only [Pt.U, Pt.locs, Pt.cells, Pt.slots] at S' l1 y1 z1 st hQ
  subst l1 y1 z1
  exact ⟨T', Lc, T'.heap, _, S', rfl, by rw [C.2.2.2.2.2.2.2.2.2.2.1]; exact hQ.2, hQ.1.2, ⟨v, rfl, hQ.1.1⟩, fun t q => st.trans q⟩
theorem w_virtual (C : Hand X Z y bytes mx rt R n0 Q) {K0 : String} (hw1 : (Jvm.Cond.methodLink y.cls i y').before a0 Z = true) (hw2 : (Jvm.Cond.declares y').before a0 Z = true) (hw5 : (Jvm.Cond.selects K0 y' y').before a0 Z = true) (hw6 : (Jvm.Cond.instanceMethod y').before a0 Z = true) (hw3 : (Jvm.Cond.initialized y'.cls).before a0 Z = true) (hw4 : (Jvm.Cond.code y' bytes' mx' rt').before a0 Z = true)
    (hy : y'.cls ≠ "java/lang/invoke/MethodHandle" ∧ y'.cls ≠ "java/lang/invoke/VarHandle") (hpd : parseMethodDescriptor y'.desc = some ⟨ps, rt'⟩) (hd : decode bytes pc = .ok (.invokevirtual i, 3)) (E : Exa Z h a K0) (K : Ct X.l Z y' bytes' mx' rt' R' n0 [] (.ref a :: argsL).toArray h Q')
    (hlen : argsL.length = ps.length) (hst : st = argsL.reverse ++ .ref a :: rest) (hls : ls.size = mx) (hf : R'.frames + 1 ≤ R.frames) (hW : (rest.map fun v => v.category).sum = W) (hl : W + (mx' + 11) + R'.locals ≤ R.locals) (hc : k + R'.cells ≤ R.cells) (hs : n + R'.slots ≤ R.slots) (hp : pc + 3 = pc')
    (w : ∀ v h', Q' v h' → Wp X (k + R'.cells) (n + R'.slots) h' pc' ls (v.toList ++ rest)) : Wp X k n h pc ls st := by
  subst hp hst hW
  refine Wp.to C (P := fun h' st' => ∃ v, st' = v.toList ++ rest ∧ Q' v h') (fun X hX C T locs S e => ?_) (fun h' st' q => by obtain ⟨v, rfl, q⟩ := q; exact w v h' q)
  have K : Ct X.l Z y' bytes' mx' rt' R' n0 [] (.ref a :: argsL).toArray h Q' := by rw [hX]; exact K
  have eR := C.2.2.2.2.2.2.2.1
  obtain ⟨cq, kq, qa, qb, qc⟩ := isOf C.2.1 e E
  obtain ⟨v, _, ⟨T', L', k', n'⟩, -, S', ⟨Lc, hQ, l1, y1, z1⟩, st⟩ := S.virtualBack C.1 (y := y') (z := y') C.2.2.1 (mvT C.2.1 hw1) (mvT C.2.1 hw2) (notFace_of_selects (args := #[]) (mvT C.2.1 hw5)) (mvT C.2.1 hw5) (mvT C.2.1 hw6) hy (backOf (W := (rest.map fun v => v.category).sum) (Q := fun v h' L => (Q' v h' ∧ h.size ≤ h'.size) ∧ Fr n0 L) K C.2.1 hw4 hw3 (by rw [eR]; exact hf) (by rw [eR]; exact hl)) qa qc (g := mkF X.m pc ls (argsL.reverse ++ .ref a :: rest)) rfl (by rw [C.2.2.2.2.1]; exact hls) (Steps.refl _) (argsL := argsL) (rest := rest) (lenOf hpd hlen) rfl (by show 2 * 0 + _ ≤ _; omega) (hb C.2.2.2.1 hd) (fun _ _ => ⟨rfl, e, by rw [eR]; exact hc, by rw [eR]; exact hs⟩)
  dsimp only [Pt.U, Pt.locs, Pt.cells, Pt.slots] at S' l1 y1 z1 st hQ
  subst l1 y1 z1
  exact ⟨T', Lc, T'.heap, _, S', rfl, by rw [C.2.2.2.2.2.2.2.2.2.2.1]; exact hQ.2, hQ.1.2, ⟨v, rfl, hQ.1.1⟩, fun t q => st.trans q⟩
theorem w_private (C : Hand X Z y bytes mx rt R n0 Q) {K0 : String} {nn : Nat} (hw1 : (Jvm.Cond.methodLink y.cls i y').before a0 Z = true) (hw6 : (Jvm.Cond.instanceMethod y').before a0 Z = true) (wp : (Jvm.Cond.privateMethod y').before a0 Z = true) (wi : (Jvm.Cond.instantiable y'.cls nn).before a0 Z = true) (hw3 : (Jvm.Cond.initialized y'.cls).before a0 Z = true) (hw4 : (Jvm.Cond.code y' bytes' mx' rt').before a0 Z = true)
    (hy : y'.cls ≠ "java/lang/invoke/MethodHandle" ∧ y'.cls ≠ "java/lang/invoke/VarHandle") (hpd : parseMethodDescriptor y'.desc = some ⟨ps, rt'⟩) (hd : decode bytes pc = .ok (.invokevirtual i, 3)) (E : Exa Z h a K0) (K : Ct X.l Z y' bytes' mx' rt' R' n0 [] (.ref a :: argsL).toArray h Q')
    (hlen : argsL.length = ps.length) (hst : st = argsL.reverse ++ .ref a :: rest) (hls : ls.size = mx) (hf : R'.frames + 1 ≤ R.frames) (hW : (rest.map fun v => v.category).sum = W) (hl : W + (mx' + 11) + R'.locals ≤ R.locals) (hc : k + R'.cells ≤ R.cells) (hs : n + R'.slots ≤ R.slots) (hp : pc + 3 = pc')
    (w : ∀ v h', Q' v h' → Wp X (k + R'.cells) (n + R'.slots) h' pc' ls (v.toList ++ rest)) : Wp X k n h pc ls st := by
  subst hp hst hW
  refine Wp.to C (P := fun h' st' => ∃ v, st' = v.toList ++ rest ∧ Q' v h') (fun X hX C T locs S e => ?_) (fun h' st' q => by obtain ⟨v, rfl, q⟩ := q; exact w v h' q)
  have K : Ct X.l Z y' bytes' mx' rt' R' n0 [] (.ref a :: argsL).toArray h Q' := by rw [hX]; exact K
  have eR := C.2.2.2.2.2.2.2.1
  have pv : X.s.PrivateAt y' := Cond.privateMethod_at (mvP C.2.1 wp (args := X.args))
  have hin : (Jvm.Cond.instanceMethod y').before X.args X.s = true := mvT C.2.1 hw6
  obtain ⟨ck, kk, f1, f2, -, f4, -⟩ := Cond.instantiable_spec (mvT (args := X.args) C.2.1 wi)
  have hsel := selects_self_of_private f1 f2 (by rw [Bool.or_eq_false_iff] at f4; exact f4.1) pv hin hy
  obtain ⟨cq, qa, qb⟩ := E.cell
  obtain ⟨v, _, ⟨T', L', k', n'⟩, -, S', ⟨Lc, hQ, l1, y1, z1⟩, st⟩ := S.privateBack C.1 (y := y') C.2.2.1 (mvT C.2.1 hw1) hin hsel pv (mvT C.2.1 hw4) hy (backOf (W := (rest.map fun v => v.category).sum) (Q := fun v h' L => (Q' v h' ∧ h.size ≤ h'.size) ∧ Fr n0 L) K C.2.1 hw4 hw3 (by rw [eR]; exact hf) (by rw [eR]; exact hl)) (g := mkF X.m pc ls (argsL.reverse ++ .ref a :: rest)) rfl (by rw [C.2.2.2.2.1]; exact hls) (Steps.refl _) (a := a) (by rw [e]; exact qa) qb (argsL := argsL) (rest := rest) (lenOf hpd hlen) rfl (by show 2 * 0 + _ ≤ _; omega) (hb C.2.2.2.1 hd) (fun _ _ => ⟨rfl, e, by rw [eR]; exact hc, by rw [eR]; exact hs⟩)
  dsimp only [Pt.U, Pt.locs, Pt.cells, Pt.slots] at S' l1 y1 z1 st hQ
  subst l1 y1 z1
  exact ⟨T', Lc, T'.heap, _, S', rfl, by rw [C.2.2.2.2.2.2.2.2.2.2.1]; exact hQ.2, hQ.1.2, ⟨v, rfl, hQ.1.1⟩, fun t q => st.trans q⟩
end OwnLaws
theorem tw {a0 : Array Value} {Z : State} (hw : ∀ d ∈ tables_1, d.before a0 Z = true) (i : Nat) {d : Jvm.Cond} (q : tables_1[i]? = some d) : d.before a0 Z = true := hw d (List.mem_of_getElem? q)
theorem pn_0 : plainFor (⟨"com/example/runnel/runnel/runtime/ByteRangeReadPinLaw", "law", "(IIIII)Z"⟩ : MethodName) = true := plainFor_of_name (by first | (simp [plainName, overriddenIn]; done) | decide +kernel)
abbrev y0 : MethodName := ⟨"com/example/runnel/runnel/runtime/ByteRangeReadPinLaw", "law", "(IIIII)Z"⟩
theorem ef_0 (x0 : Int32) (x1 : Int32) (x2 : Int32) (x3 : Int32) (x4 : Int32) (m : MethodId) : entryFrame m #[(.int x0), (.int x1), (.int x2), (.int x3), (.int x4)] maxLocals = mkF m 0 #[.val (.int x0), .val (.int x1), .val (.int x2), .val (.int x3), .val (.int x4), .unset, .unset, .unset, .unset, .unset, .unset, .unset, .unset, .unset, .unset, .unset, .unset, .unset] [] := by first | (simp [entryFrame, mkF, argsToLocals, Value.category, maxLocals]; done) | rfl
theorem d1_0 : decode prog_57_method_1_code 0 = .ok (.aload_n 0, 1) := by decide +kernel
theorem d1_1 : decode prog_57_method_1_code 1 = .ok (.invokespecial 1, 3) := by decide +kernel
theorem d1_4 : decode prog_57_method_1_code 4 = .ok (.aload_n 0, 1) := by decide +kernel
theorem d1_5 : decode prog_57_method_1_code 5 = .ok (.aload_n 1, 1) := by decide +kernel
theorem d1_6 : decode prog_57_method_1_code 6 = .ok (.putfield 7, 3) := by decide +kernel
theorem d1_9 : decode prog_57_method_1_code 9 = .ok (.aload_n 0, 1) := by decide +kernel
theorem d1_10 : decode prog_57_method_1_code 10 = .ok (.iload_n 2, 1) := by decide +kernel
theorem d1_11 : decode prog_57_method_1_code 11 = .ok (.putfield 13, 3) := by decide +kernel
theorem d1_14 : decode prog_57_method_1_code 14 = .ok (.aload_n 0, 1) := by decide +kernel
theorem d1_15 : decode prog_57_method_1_code 15 = .ok (.iload_n 3, 1) := by decide +kernel
theorem d1_16 : decode prog_57_method_1_code 16 = .ok (.putfield 17, 3) := by decide +kernel
theorem d1_19 : decode prog_57_method_1_code 19 = .ok (.return_, 1) := by decide +kernel
theorem pn_1 : plainFor (⟨"com/example/runnel/runnel/runtime/ByteRange", "<init>", "([BII)V"⟩ : MethodName) = true := plainFor_of_name (by first | (simp [plainName, overriddenIn]; done) | decide +kernel)
abbrev y1 : MethodName := ⟨"com/example/runnel/runnel/runtime/ByteRange", "<init>", "([BII)V"⟩
theorem ef_1 (x0 : Addr) (x1 : Addr) (x2 : Int32) (x3 : Int32) (m : MethodId) : entryFrame m #[(.ref x0), (.ref x1), (.int x2), (.int x3)] 4 = mkF m 0 #[.val (.ref x0), .val (.ref x1), .val (.int x2), .val (.int x3)] [] := by first | (simp [entryFrame, mkF, argsToLocals, Value.category]; done) | rfl
theorem d2_0 : decode jdk_2022_method_1_code 0 = .ok (.aload_n 0, 1) := by decide +kernel
theorem d2_1 : decode jdk_2022_method_1_code 1 = .ok (.invokespecial 3, 3) := by decide +kernel
theorem d2_4 : decode jdk_2022_method_1_code 4 = .ok (.return_, 1) := by decide +kernel
theorem pn_2 : plainFor (⟨"java/io/InputStream", "<init>", "()V"⟩ : MethodName) = true := plainFor_of_name (by first | (simp [plainName, overriddenIn]; done) | decide +kernel)
abbrev y2 : MethodName := ⟨"java/io/InputStream", "<init>", "()V"⟩
theorem ef_2 (x0 : Addr) (m : MethodId) : entryFrame m #[(.ref x0)] 1 = mkF m 0 #[.val (.ref x0)] [] := by first | (simp [entryFrame, mkF, argsToLocals, Value.category]; done) | rfl
theorem d3_0 : decode object_method_1_code 0 = .ok (.return_, 1) := by decide +kernel
abbrev y3 : MethodName := ⟨"java/lang/Object", "<init>", "()V"⟩
theorem ef_3 (x0 : Addr) (m : MethodId) : entryFrame m #[(.ref x0)] 1 = mkF m 0 #[.val (.ref x0)] [] := by first | (simp [entryFrame, mkF, argsToLocals, Value.category]; done) | rfl
theorem d4_0 : decode prog_57_method_2_code 0 = .ok (.aload_n 0, 1) := by decide +kernel
theorem d4_1 : decode prog_57_method_2_code 1 = .ok (.getfield 13, 3) := by decide +kernel
theorem d4_4 : decode prog_57_method_2_code 4 = .ok (.aload_n 0, 1) := by decide +kernel
theorem d4_5 : decode prog_57_method_2_code 5 = .ok (.getfield 17, 3) := by decide +kernel
theorem d4_8 : decode prog_57_method_2_code 8 = .ok (.if_icmp .ge 26, 3) := by decide +kernel
theorem d4_11 : decode prog_57_method_2_code 11 = .ok (.aload_n 0, 1) := by decide +kernel
theorem d4_12 : decode prog_57_method_2_code 12 = .ok (.getfield 7, 3) := by decide +kernel
theorem d4_15 : decode prog_57_method_2_code 15 = .ok (.aload_n 0, 1) := by decide +kernel
theorem d4_16 : decode prog_57_method_2_code 16 = .ok (.dup, 1) := by decide +kernel
theorem d4_17 : decode prog_57_method_2_code 17 = .ok (.getfield 13, 3) := by decide +kernel
theorem d4_20 : decode prog_57_method_2_code 20 = .ok (.dup_x1, 1) := by decide +kernel
theorem d4_21 : decode prog_57_method_2_code 21 = .ok (.iconst 1, 1) := by decide +kernel
theorem d4_22 : decode prog_57_method_2_code 22 = .ok (.iadd, 1) := by decide +kernel
theorem d4_23 : decode prog_57_method_2_code 23 = .ok (.putfield 13, 3) := by decide +kernel
theorem d4_26 : decode prog_57_method_2_code 26 = .ok (.baload, 1) := by decide +kernel
theorem d4_27 : decode prog_57_method_2_code 27 = .ok (.sipush 255, 3) := by decide +kernel
theorem d4_30 : decode prog_57_method_2_code 30 = .ok (.iand, 1) := by decide +kernel
theorem d4_31 : decode prog_57_method_2_code 31 = .ok (.goto 4, 3) := by decide +kernel
theorem d4_34 : decode prog_57_method_2_code 34 = .ok (.iconst (-1), 1) := by decide +kernel
theorem d4_35 : decode prog_57_method_2_code 35 = .ok (.ireturn, 1) := by decide +kernel
theorem pn_4 : plainFor (⟨"com/example/runnel/runnel/runtime/ByteRange", "read", "()I"⟩ : MethodName) = true := plainFor_of_name (by first | (simp [plainName, overriddenIn]; done) | decide +kernel)
abbrev y4 : MethodName := ⟨"com/example/runnel/runnel/runtime/ByteRange", "read", "()I"⟩
theorem ef_4 (x0 : Addr) (m : MethodId) : entryFrame m #[(.ref x0)] 1 = mkF m 0 #[.val (.ref x0)] [] := by first | (simp [entryFrame, mkF, argsToLocals, Value.category]; done) | rfl
theorem d5_0 : decode prog_57_method_7_code 0 = .ok (.aload_n 0, 1) := by decide +kernel
theorem d5_1 : decode prog_57_method_7_code 1 = .ok (.getfield 13, 3) := by decide +kernel
theorem d5_4 : decode prog_57_method_7_code 4 = .ok (.ireturn, 1) := by decide +kernel
theorem pn_5 : plainFor (⟨"com/example/runnel/runnel/runtime/ByteRange", "position", "()I"⟩ : MethodName) = true := plainFor_of_name (by first | (simp [plainName, overriddenIn]; done) | decide +kernel)
abbrev y5 : MethodName := ⟨"com/example/runnel/runnel/runtime/ByteRange", "position", "()I"⟩
theorem ef_5 (x0 : Addr) (m : MethodId) : entryFrame m #[(.ref x0)] 1 = mkF m 0 #[.val (.ref x0)] [] := by first | (simp [entryFrame, mkF, argsToLocals, Value.category]; done) | rfl
theorem d6_0 : decode method_3_code 0 = .ok (.iload_n 1, 1) := by decide +kernel
theorem d6_1 : decode method_3_code 1 = .ok (.iload_n 2, 1) := by decide +kernel
theorem d6_2 : decode method_3_code 2 = .ok (.if_icmp .ge 7, 3) := by decide +kernel
theorem d6_5 : decode method_3_code 5 = .ok (.aload_n 0, 1) := by decide +kernel
theorem d6_6 : decode method_3_code 6 = .ok (.iload_n 1, 1) := by decide +kernel
theorem d6_7 : decode method_3_code 7 = .ok (.iaload, 1) := by decide +kernel
theorem d6_8 : decode method_3_code 8 = .ok (.ireturn, 1) := by decide +kernel
theorem d6_9 : decode method_3_code 9 = .ok (.iconst (-1), 1) := by decide +kernel
theorem d6_10 : decode method_3_code 10 = .ok (.ireturn, 1) := by decide +kernel
theorem pn_6 : plainFor (⟨"com/example/runnel/runnel/runtime/ByteRangeReadPinLaw", "want", "([III)I"⟩ : MethodName) = true := plainFor_of_name (by first | (simp [plainName, overriddenIn]; done) | decide +kernel)
abbrev y6 : MethodName := ⟨"com/example/runnel/runnel/runtime/ByteRangeReadPinLaw", "want", "([III)I"⟩
theorem ef_6 (x0 : Addr) (x1 : Int32) (x2 : Int32) (m : MethodId) : entryFrame m #[(.ref x0), (.int x1), (.int x2)] 3 = mkF m 0 #[.val (.ref x0), .val (.int x1), .val (.int x2)] [] := by first | (simp [entryFrame, mkF, argsToLocals, Value.category]; done) | rfl
theorem d7_0 : decode prog_57_method_6_code 0 = .ok (.aload_n 0, 1) := by decide +kernel
theorem d7_1 : decode prog_57_method_6_code 1 = .ok (.getfield 17, 3) := by decide +kernel
theorem d7_4 : decode prog_57_method_6_code 4 = .ok (.aload_n 0, 1) := by decide +kernel
theorem d7_5 : decode prog_57_method_6_code 5 = .ok (.getfield 13, 3) := by decide +kernel
theorem d7_8 : decode prog_57_method_6_code 8 = .ok (.isub, 1) := by decide +kernel
theorem d7_9 : decode prog_57_method_6_code 9 = .ok (.ireturn, 1) := by decide +kernel
theorem pn_7 : plainFor (⟨"com/example/runnel/runnel/runtime/ByteRange", "available", "()I"⟩ : MethodName) = true := plainFor_of_name (by first | (simp [plainName, overriddenIn]; done) | decide +kernel)
abbrev y7 : MethodName := ⟨"com/example/runnel/runnel/runtime/ByteRange", "available", "()I"⟩
theorem ef_7 (x0 : Addr) (m : MethodId) : entryFrame m #[(.ref x0)] 1 = mkF m 0 #[.val (.ref x0)] [] := by first | (simp [entryFrame, mkF, argsToLocals, Value.category]; done) | rfl
theorem pd_0 : parseMethodDescriptor "([BII)V" = some ⟨[(.array .byte), .int, .int], none⟩ := by decide +kernel
theorem pd_1 : parseMethodDescriptor "()V" = some ⟨[], none⟩ := by decide +kernel
theorem pd_2 : parseMethodDescriptor "()I" = some ⟨[], some .int⟩ := by decide +kernel
theorem pd_3 : parseMethodDescriptor "([III)I" = some ⟨[(.array .int), .int, .int], some .int⟩ := by decide +kernel
/-! shifts as shifts of bit vectors -/
theorem b_and31 (q : Int32) (k : Nat) (hk : q.toBitVec.toNat % 32 = k) : (q &&& 31).toBitVec.toNat = k := by
  show (q.toBitVec &&& (31 : Int32).toBitVec).toNat = _
  rw [BitVec.toNat_and, show (31 : Int32).toBitVec.toNat = 2 ^ 5 - 1 from by decide, Nat.and_two_pow_sub_one_eq_mod]; exact hk
theorem b_ishl (x q : Int32) (k : Nat) (hk : q.toBitVec.toNat % 32 = k) : (x <<< (q &&& 31)).toBitVec = x.toBitVec <<< k := by
  show x.toBitVec <<< ((q &&& 31).toBitVec.smod 32) = _
  rw [BitVec.shiftLeft_eq', sm32 q k hk]
theorem b_ishr (x q : Int32) (k : Nat) (hk : q.toBitVec.toNat % 32 = k) : (x >>> (q &&& 31)).toBitVec = x.toBitVec.sshiftRight k := by
  show x.toBitVec.sshiftRight' ((q &&& 31).toBitVec.smod 32) = _
  rw [BitVec.sshiftRight_eq', sm32 q k hk]
theorem b_iushr (x q : Int32) (k : Nat) (hk : q.toBitVec.toNat % 32 = k) : ((x.toUInt32 >>> (q &&& 31).toUInt32).toInt32).toBitVec = x.toBitVec >>> k := by
  show x.toBitVec >>> ((q &&& 31).toBitVec % 32) = _
  rw [BitVec.ushiftRight_eq', BitVec.toNat_umod, b_and31 q k hk]
  congr 1; exact Nat.mod_eq_of_lt (by show k < 32; omega)
theorem b_lshl (x : Int64) (q : Int32) (k : Nat) (hk : q.toBitVec.toNat % 64 = k) : (x <<< (q &&& 0x3f).toInt64).toBitVec = x.toBitVec <<< k := by
  show x.toBitVec <<< ((q &&& 0x3f).toInt64.toBitVec.smod 64) = _
  rw [BitVec.shiftLeft_eq', (sm64 q k hk).1, smod64 k (sm64 q k hk).2]
theorem b_lshr (x : Int64) (q : Int32) (k : Nat) (hk : q.toBitVec.toNat % 64 = k) : (x >>> (q &&& 0x3f).toInt64).toBitVec = x.toBitVec.sshiftRight k := by
  show x.toBitVec.sshiftRight' ((q &&& 0x3f).toInt64.toBitVec.smod 64) = _
  rw [BitVec.sshiftRight_eq', (sm64 q k hk).1, smod64 k (sm64 q k hk).2]
theorem b_lushr (x : Int64) (q : Int32) (k : Nat) (hk : q.toBitVec.toNat % 64 = k) : ((x.toUInt64 >>> (q &&& 0x3f).toInt64.toUInt64).toInt64).toBitVec = x.toBitVec >>> k := by
  have h5 := (sm64 q k hk).2
  show x.toBitVec >>> ((q &&& 0x3f).toInt64.toBitVec % 64) = _
  rw [BitVec.ushiftRight_eq', BitVec.toNat_umod, (sm64 q k hk).1, BitVec.toNat_ofNat]
  congr 1; show k % 2 ^ 64 % 64 = k; omega
theorem nat32 {x : Int32} (hx : 0 ≤ x.toInt) : (x.toBitVec.toNat : Int) = x.toInt := by
  have h2 := x.toBitVec.isLt
  have h3 : x.toInt = x.toBitVec.toInt := rfl
  rw [BitVec.toInt_eq_toNat_cond] at h3
  split at h3 <;> omega
theorem clamp32 {x : Int32} (hx : 0 ≤ x.toInt) : (x.toNatClampNeg : Int) = x.toInt := by
  show (x.toInt.toNat : Int) = x.toInt
  omega
theorem nlt32 {x : Int32} (hx : 0 ≤ x.toInt) : ¬ x < 0 := by
  rw [Int32.lt_iff_toInt_lt, show (0 : Int32).toInt = 0 from by decide]; omega
theorem c_imulR (x k : Int32) (K : Int) (hk : k.toInt = K) : ((x * k).toInt - x.toInt * K) % 4294967296 = 0 := hk ▸ c_imul x k
theorem c_imulL (k x : Int32) (K : Int) (hk : k.toInt = K) : ((k * x).toInt - K * x.toInt) % 4294967296 = 0 := hk ▸ c_imul k x
theorem mulL (k x : Int32) (K : Int) (hk : k.toInt = K) (h1 : -2147483648 ≤ K * x.toInt) (h2 : K * x.toInt < 2147483648) : (k * x).toInt = K * x.toInt := by
  have a := c_imulL k x K hk
  have g := rng32 (k * x)
  generalize K * x.toInt = P at *
  omega
theorem mulR (x k : Int32) (K : Int) (hk : k.toInt = K) (h1 : -2147483648 ≤ x.toInt * K) (h2 : x.toInt * K < 2147483648) : (x * k).toInt = x.toInt * K := by
  have a := c_imulR x k K hk
  have g := rng32 (x * k)
  generalize x.toInt * K = P at *
  omega
abbrev rm00 : Room := { frames := 0, cells := 0, slots := 0, locals := 0 }
abbrev rm10 : Room := { frames := 1, cells := 0, slots := 0, locals := 12 }
abbrev rm20 : Room := { frames := 2, cells := 0, slots := 0, locals := 24 }
abbrev BN : String := "com/example/runnel/runnel/runtime/ByteRange"
def BR (Z : State) (h : Heap) (o a : Addr) (at' to : Int32) (bs : List Value) : Prop := Exa Z h o BN ∧ Fld Z h o BN "bytes" "[B" (.ref a) ∧ Fld Z h o BN "at" "I" (.int at') ∧ Fld Z h o BN "to" "I" (.int to) ∧ Ars Z h a .byte bs ∧ a ≠ o
section Slots
variable {Z : State} {a0 : Array Value} (hw : ∀ d ∈ tables_1, d.before a0 Z = true)
theorem laB (hw : ∀ d ∈ tables_1, d.before a0 Z = true) : Laid Z a0 BN BN "bytes" "[B" := Or.inr (tw hw 17 rfl)
theorem laA (hw : ∀ d ∈ tables_1, d.before a0 Z = true) : Laid Z a0 BN BN "at" "I" := Or.inl (tw hw 19 rfl)
theorem laT (hw : ∀ d ∈ tables_1, d.before a0 Z = true) : Laid Z a0 BN BN "to" "I" := Or.inr (tw hw 21 rfl)
theorem sBA (hw : ∀ d ∈ tables_1, d.before a0 Z = true) : Jvm.RoadKit.slotOf Z BN "bytes" "[B" ≠ Jvm.RoadKit.slotOf Z BN "at" "I" := slot_ne (laB hw) (laA hw) (by decide) (t := .array .byte) (t' := .int) (by decide) (by decide)
theorem sBT (hw : ∀ d ∈ tables_1, d.before a0 Z = true) : Jvm.RoadKit.slotOf Z BN "bytes" "[B" ≠ Jvm.RoadKit.slotOf Z BN "to" "I" := slot_ne (laB hw) (laT hw) (by decide) (t := .array .byte) (t' := .int) (by decide) (by decide)
theorem sAT (hw : ∀ d ∈ tables_1, d.before a0 Z = true) : Jvm.RoadKit.slotOf Z BN "at" "I" ≠ Jvm.RoadKit.slotOf Z BN "to" "I" := slot_ne (laA hw) (laT hw) (by decide) (t := .int) (t' := .int) (by decide) (by decide)
end Slots
set_option maxRecDepth 65536 in
set_option maxHeartbeats 40000000 in
theorem c_2 (l : Launch) (Z : State) (a0 : Array Value) (hw : ∀ d ∈ tables_1, d.before a0 Z = true) (o : Addr) (n0 : Nat) (h : Heap) (hn : n0 ≤ h.size) :
    Ct l Z y2 jdk_2022_method_1_code 1 none rm10 n0 [] #[.ref o] h (fun v h' => v = none ∧ h' = h) := by
  refine ct_of pn_2 hn (ef_2 o) fun X C => ?_
  refine w_aloadN C (pc' := 1) d2_0 rfl rfl rfl ?_
  refine w_initO C (pc' := 4) (W := 0) (tw hw 13 rfl) (tw hw 14 rfl) (tw hw 15 rfl) d2_1 rfl (by decide) rfl (by decide) rfl ?_
  exact w_vret C d2_4 (by decide) (by decide) ⟨rfl, rfl⟩
set_option maxRecDepth 65536 in
set_option maxHeartbeats 40000000 in
theorem c_1 (l : Launch) (Z : State) (a0 : Array Value) (hw : ∀ d ∈ tables_1, d.before a0 Z = true) (o a : Addr) (x1 x2 : Int32) (bs : List Value) (n0 : Nat) (h : Heap) (hn : n0 ≤ h.size) (g : n0 ≤ o) (E : Exa Z h o BN) (F1 : Fld Z h o BN "bytes" "[B" .null) (F2 : Fld Z h o BN "at" "I" (.int 0)) (F3 : Fld Z h o BN "to" "I" (.int 0)) (A : Ars Z h a .byte bs) (hne : a ≠ o) :
    Ct l Z y1 prog_57_method_1_code 4 none rm20 n0 [] #[.ref o, .ref a, .int x1, .int x2] h (fun v h' => v = none ∧ BR Z h' o a x1 x2 bs ∧ Keep h h' [o]) := by
  refine ct_of pn_1 hn (ef_1 o a x1 x2) fun X C => ?_
  refine w_aloadN C (pc' := 1) d1_0 rfl rfl rfl ?_
  refine Wp.size C fun sz1 => ?_
  refine w_special C (pc' := 4) (W := 0) (tw hw 8 rfl) (tw hw 9 rfl) (tw hw 11 rfl) (tw hw 12 rfl) rfl (by decide) pd_1 d1_1 (c_2 X.l Z a0 hw o n0 h sz1) rfl rfl rfl (by decide) rfl (by decide) (by decide) (by decide) rfl (fun v1 h1 q1 => ?_)
  obtain ⟨rfl, rfl⟩ := q1
  show Wp X _ _ _ 4 _ []
  refine w_aloadN C (pc' := 5) d1_4 rfl rfl rfl ?_
  refine w_aloadN C (pc' := 6) d1_5 rfl rfl rfl ?_
  refine w_putfield C (pc' := 9) (tw hw 16 rfl) (Or.inr ⟨tw hw 17 rfl, rfl, rfl⟩) (tw hw 3 rfl) d1_6 F1 E g (t := (.array .byte)) (by decide) rfl rfl rfl (fun h6 W6 F6 E6 => ?_)
  refine w_aloadN C (pc' := 10) d1_9 rfl rfl rfl ?_
  refine w_iloadN C (pc' := 11) d1_10 rfl rfl ?_
  refine w_putfield C (pc' := 14) (tw hw 18 rfl) (Or.inl (tw hw 19 rfl)) (tw hw 3 rfl) d1_11 (F2.other W6 (Or.inr (sBA hw).symm)) E6 g (t := .int) (by decide) rfl rfl rfl (fun h11 W11 F11 E11 => ?_)
  refine w_aloadN C (pc' := 15) d1_14 rfl rfl rfl ?_
  refine w_iloadN C (pc' := 16) d1_15 rfl rfl ?_
  refine w_putfield C (pc' := 19) (tw hw 20 rfl) (Or.inr ⟨tw hw 21 rfl, rfl, rfl⟩) (tw hw 3 rfl) d1_16 ((F3.other W6 (Or.inr (sBT hw).symm)).other W11 (Or.inr (sAT hw).symm)) E11 g (t := .int) (by decide) rfl rfl rfl (fun h16 W16 F16 E16 => ?_)
  refine w_vret C d1_19 (by decide) (by decide) ⟨rfl, ⟨E16, (F6.other W11 (Or.inr (sBA hw))).other W16 (Or.inr (sBT hw)), F11.other W16 (Or.inr (sAT hw)), F16, ((A.other W6 hne).other W11 hne).other W16 hne, hne⟩, ?_⟩
  exact (((Keep.refl _ [o]).wr W6 (Or.inl (List.mem_cons_self ..))).wr W11 (Or.inl (List.mem_cons_self ..))).wr W16 (Or.inl (List.mem_cons_self ..))
set_option maxRecDepth 65536 in
set_option maxHeartbeats 40000000 in
theorem c_4 (l : Launch) (Z : State) (a0 : Array Value) (hw : ∀ d ∈ tables_1, d.before a0 Z = true) (o a : Addr) (x1 x2 : Int32) (bs : List Value) (n0 : Nat) (h : Heap) (hn : n0 ≤ h.size) (g : n0 ≤ o) (B : BR Z h o a x1 x2 bs) (h0 : 0 ≤ x1.toInt) (hv : x1.toInt < x2.toInt → ∃ w : Int32, bs[x1.toNatClampNeg]? = some (.int w)) :
    Ct l Z y4 prog_57_method_2_code 1 (some .int) rm00 n0 [] #[.ref o] h (fun v h' => (∃ (r z : Int32), v = some (.int r) ∧ ((x1.toInt < x2.toInt ∧ z = x1 + 1 ∧ ∃ w : Int32, bs[x1.toNatClampNeg]? = some (.int w) ∧ r = w &&& 255) ∨ (x2.toInt ≤ x1.toInt ∧ z = x1 ∧ r = -1)) ∧ BR Z h' o a z x2 bs) ∧ Keep h h' [o]) := by
  refine ct_of pn_4 hn (ef_4 o) fun X C => ?_
  obtain ⟨E, F1, F2, F3, A, hne⟩ := B
  refine w_aloadN C (pc' := 1) d4_0 rfl rfl rfl ?_
  refine w_getfield C (pc' := 4) (tw hw 18 rfl) d4_1 F2 rfl ?_
  refine w_aloadN C (pc' := 5) d4_4 rfl rfl rfl ?_
  refine w_getfield C (pc' := 8) (tw hw 20 rfl) d4_5 F3 rfl ?_
  refine w_jcmp_ge C (pc' := 34) (pn := 11) d4_8 (by decide) (by decide) rfl (fun c8 => ?_) (fun c8 => ?_)
  · -- 8 taken -> 34
    refine w_iconst C (pc' := 35) (z := (-1)) d4_34 rfl rfl ?_
    exact w_iret C d4_35 (by simp) rfl (by decide) (by decide) ⟨⟨_, _, rfl, Or.inr ⟨c8, rfl, rfl⟩, E, F1, F2, F3, A, hne⟩, Keep.refl _ _⟩
  obtain ⟨w, hv⟩ := hv c8
  refine w_aloadN C (pc' := 12) d4_11 rfl rfl rfl ?_
  refine w_getfield C (pc' := 15) (tw hw 16 rfl) d4_12 F1 rfl ?_
  refine w_aloadN C (pc' := 16) d4_15 rfl rfl rfl ?_
  refine w_dup C (pc' := 17) d4_16 rfl rfl ?_
  refine w_getfield C (pc' := 20) (tw hw 18 rfl) d4_17 F2 rfl ?_
  refine w_dupX1 C (pc' := 21) d4_20 rfl rfl rfl ?_
  refine w_iconst C (pc' := 22) (z := 1) d4_21 rfl rfl ?_
  refine w_iadd C (pc' := 23) d4_22 rfl ?_
  refine w_putfield C (pc' := 26) (tw hw 18 rfl) (Or.inl (tw hw 19 rfl)) (tw hw 3 rfl) d4_23 F2 E g (t := .int) (by decide) rfl rfl rfl (fun h23 W23 F23 E23 => ?_)
  refine w_baload C (pc' := 27) d4_26 (A.other W23 hne) (nlt32 h0) rfl hv rfl ?_
  refine w_sipush C (pc' := 30) (z := 255) d4_27 rfl rfl ?_
  refine w_iand C (pc' := 31) d4_30 rfl ?_
  refine w_goto C (pc' := 35) d4_31 (by decide) (by decide) ?_
  exact w_iret C d4_35 (by simp) rfl (by decide) (by decide) ⟨⟨_, _, rfl, Or.inl ⟨c8, rfl, w, hv, rfl⟩, E23, F1.other W23 (Or.inr (sBA hw)), F23, F3.other W23 (Or.inr (sAT hw).symm), A.other W23 hne, hne⟩, Keep.of_wr W23⟩
set_option maxRecDepth 65536 in
set_option maxHeartbeats 40000000 in
theorem c_5 (l : Launch) (Z : State) (a0 : Array Value) (hw : ∀ d ∈ tables_1, d.before a0 Z = true) (o a : Addr) (x1 x2 : Int32) (bs : List Value) (n0 : Nat) (h : Heap) (hn : n0 ≤ h.size) (B : BR Z h o a x1 x2 bs) :
    Ct l Z y5 prog_57_method_7_code 1 (some .int) rm00 n0 [] #[.ref o] h (fun v h' => v = some (.int x1) ∧ h' = h) := by
  refine ct_of pn_5 hn (ef_5 o) fun X C => ?_
  obtain ⟨E, F1, F2, F3, A, hne⟩ := B
  refine w_aloadN C (pc' := 1) d5_0 rfl rfl rfl ?_
  refine w_getfield C (pc' := 4) (tw hw 18 rfl) d5_1 F2 rfl ?_
  exact w_iret C d5_4 (by simp) rfl (by decide) (by decide) ⟨rfl, rfl⟩
set_option maxRecDepth 65536 in
set_option maxHeartbeats 40000000 in
theorem c_7 (l : Launch) (Z : State) (a0 : Array Value) (hw : ∀ d ∈ tables_1, d.before a0 Z = true) (o a : Addr) (x1 x2 : Int32) (bs : List Value) (n0 : Nat) (h : Heap) (hn : n0 ≤ h.size) (B : BR Z h o a x1 x2 bs) :
    Ct l Z y7 prog_57_method_6_code 1 (some .int) rm00 n0 [] #[.ref o] h (fun v h' => v = some (.int (x2 - x1)) ∧ h' = h) := by
  refine ct_of pn_7 hn (ef_7 o) fun X C => ?_
  obtain ⟨E, F1, F2, F3, A, hne⟩ := B
  refine w_aloadN C (pc' := 1) d7_0 rfl rfl rfl ?_
  refine w_getfield C (pc' := 4) (tw hw 20 rfl) d7_1 F3 rfl ?_
  refine w_aloadN C (pc' := 5) d7_4 rfl rfl rfl ?_
  refine w_getfield C (pc' := 8) (tw hw 18 rfl) d7_5 F2 rfl ?_
  refine w_isub C (pc' := 9) d7_8 rfl ?_
  exact w_iret C d7_9 (by simp) rfl (by decide) (by decide) ⟨rfl, rfl⟩
set_option maxRecDepth 65536 in
set_option maxHeartbeats 40000000 in
theorem c_6 (l : Launch) (Z : State) (a : Addr) (x1 x2 r : Int32) (es : List Value) (n0 : Nat) (h : Heap) (hn : n0 ≤ h.size) (A : Ars Z h a .int es) (h0 : 0 ≤ x1.toInt) (hr : (x1.toInt < x2.toInt ∧ es[x1.toNatClampNeg]? = some (.int r)) ∨ (x2.toInt ≤ x1.toInt ∧ r = -1)) :
    Ct l Z y6 method_3_code 3 (some .int) rm00 n0 [] #[.ref a, .int x1, .int x2] h (fun v h' => v = some (.int r) ∧ h' = h) := by
  refine ct_of pn_6 hn (ef_6 a x1 x2) fun X C => ?_
  rcases hr with ⟨q, hv⟩ | ⟨q, rfl⟩
  · refine w_iloadN C (pc' := 1) d6_0 rfl rfl ?_
    refine w_iloadN C (pc' := 2) d6_1 rfl rfl ?_
    refine w_jcmp_ge C (pc' := 9) (pn := 5) d6_2 (by decide) (by decide) rfl (fun c2 => ?_) (fun c2 => ?_)
    · exact absurd c2 (by omega)
    refine w_aloadN C (pc' := 6) d6_5 rfl rfl rfl ?_
    refine w_iloadN C (pc' := 7) d6_6 rfl rfl ?_
    refine w_iaload C (pc' := 8) d6_7 A (nlt32 h0) rfl hv rfl ?_
    exact w_iret C d6_8 (by simp) rfl (by decide) (by decide) ⟨rfl, rfl⟩
  · refine w_iloadN C (pc' := 1) d6_0 rfl rfl ?_
    refine w_iloadN C (pc' := 2) d6_1 rfl rfl ?_
    refine w_jcmp_ge C (pc' := 9) (pn := 5) d6_2 (by decide) (by decide) rfl (fun c2 => ?_) (fun c2 => ?_)
    rotate_left
    · exact absurd c2 (by omega)
    refine w_iconst C (pc' := 10) (z := (-1)) d6_9 rfl rfl ?_
    exact w_iret C d6_10 (by simp) rfl (by decide) (by decide) ⟨rfl, rfl⟩
def Rd (bs : List Value) (x1 x2 r z : Int32) : Prop := (x1.toInt < x2.toInt ∧ z = x1 + 1 ∧ ∃ w : Int32, bs[x1.toNatClampNeg]? = some (.int w) ∧ r = w &&& 255) ∨ (x2.toInt ≤ x1.toInt ∧ z = x1 ∧ r = -1)
theorem rd_next {bs : List Value} {f t x1 r z : Int32} {k : Nat} (hk : k < 5) (hf : 0 ≤ f.toInt) (ht : f.toInt ≤ t.toInt ∧ t.toInt ≤ 4) (hx : (f.toInt + k ≤ t.toInt ∧ x1.toInt = f.toInt + k) ∨ (t.toInt ≤ f.toInt + k ∧ x1.toInt = t.toInt)) (q : Rd bs x1 t r z) :
    (f.toInt + (k + 1 : Nat) ≤ t.toInt ∧ z.toInt = f.toInt + (k + 1 : Nat)) ∨ (t.toInt ≤ f.toInt + (k + 1 : Nat) ∧ z.toInt = t.toInt) := by
  have z1 : (1 : Int32).toInt = 1 := by decide
  rcases q with ⟨q1, rfl, -⟩ | ⟨q1, rfl, -⟩
  · have a1 := c_iadd x1 1
    have g1 := rng32 (x1 + 1)
    omega
  · omega
theorem rd_want {bs es : List Value} {f t x1 r z j : Int32} {k : Nat} (hk : k < 5) (hf : 0 ≤ f.toInt) (ht : f.toInt ≤ t.toInt ∧ t.toInt ≤ 4) (hx : (f.toInt + k ≤ t.toInt ∧ x1.toInt = f.toInt + k) ∨ (t.toInt ≤ f.toInt + k ∧ x1.toInt = t.toInt)) (hj : j.toInt = f.toInt + k) (q : Rd bs x1 t r z)
    (hb : ∀ i : Nat, i < 4 → ∃ w : Int32, bs[i]? = some (.int w) ∧ es[i]? = some (.int (w &&& 255))) : (j.toInt < t.toInt ∧ es[j.toNatClampNeg]? = some (.int r)) ∨ (t.toInt ≤ j.toInt ∧ r = -1) := by
  rcases q with ⟨q1, -, w, hw1, rfl⟩ | ⟨q1, -, rfl⟩
  · refine Or.inl ⟨by omega, ?_⟩
    have e : j = x1 := Int32.toInt_inj.mp (by omega)
    subst e
    have cl := clamp32 (x := j) (by omega)
    obtain ⟨w', e1, e2⟩ := hb j.toNatClampNeg (by omega)
    rw [hw1] at e1
    cases e1
    exact e2
  · exact Or.inr ⟨by omega, rfl⟩
theorem rd_has {bs es : List Value} {f t x1 : Int32} (ht : t.toInt ≤ 4) (h0 : 0 ≤ x1.toInt) (hb : ∀ i : Nat, i < 4 → ∃ w : Int32, bs[i]? = some (.int w) ∧ es[i]? = some (.int (w &&& 255))) : x1.toInt < t.toInt → ∃ w : Int32, bs[x1.toNatClampNeg]? = some (.int w) := by
  intro q
  have cl := clamp32 (x := x1) h0
  obtain ⟨w, e1, -⟩ := hb x1.toNatClampNeg (by omega)
  exact ⟨w, e1⟩
theorem byte255 (x : Int32) : (x.toInt8.toInt32.toInt8.toInt32 &&& 255) = x &&& 255 := by
  have h1 := c_i2b x
  have h2 := c_i2b x.toInt8.toInt32
  have h3 := c_mask x.toInt8.toInt32.toInt8.toInt32 255 8 (by decide) (by decide)
  have h4 := c_mask x 255 8 (by decide) (by decide)
  exact Int32.toInt_inj.mp (by omega)
set_option maxRecDepth 65536 in
set_option maxHeartbeats 40000000 in
theorem law_ct (l : Launch) (Z : State) (a0 : Array Value) (hw : ∀ d ∈ tables_1, d.before a0 Z = true) (x0 x1 x2 x3 x4 : Int32) (n0 : Nat) (h : Heap) (hn : n0 ≤ h.size) :
    Ct l Z x code maxLocals ret room_1 n0 tables_1 #[.int x0, .int x1, .int x2, .int x3, .int x4] h (fun v _ => v = some (.int 1)) := by
  refine ct_of pn_0 hn (ef_0 x0 x1 x2 x3 x4) fun X C => ?_
  have z1 : (1 : Int32).toInt = 1 := by decide
  have z2 : (2 : Int32).toInt = 2 := by decide
  have z3 : (3 : Int32).toInt = 3 := by decide
  have z4 : (4 : Int32).toInt = 4 := by decide
  have J88 : ∀ (h' : Heap) (a e : Addr) (f t : Int32) (bs es : List Value), 0 ≤ f.toInt → (f.toInt ≤ t.toInt ∧ t.toInt ≤ 4) → Ars Z h' a .byte bs → Ars Z h' e .int es → (∀ i : Nat, i < 4 → ∃ w : Int32, bs[i]? = some (.int w) ∧ es[i]? = some (.int (w &&& 255))) →
      Wp X 2 8 h' 88 #[.val (.int x0), .val (.int x1), .val (.int x2), .val (.int x3), .val (.int x4), .val (.ref a), .val (.ref e), .val (.int f), .val (.int t), .unset, .unset, .unset, .unset, .unset, .unset, .unset, .unset, .unset] [] := by
    intro h' a e f t bs es hf ht A Ae hb
    refine w_new C (pc' := 91) (tw hw 2 rfl) (tw hw 3 rfl) (tw hw 4 rfl) at_88 (by decide) (by decide) rfl (fun h88 a88 e88 g88 E88 K88 D88 => ?_)  -- com/example/runnel/runnel/runtime/ByteRange
    refine w_dup C (pc' := 92) at_91 rfl rfl ?_
    refine w_aload C (pc' := 94) at_92 rfl rfl rfl ?_
    refine w_iload C (pc' := 96) at_94 rfl rfl ?_
    refine w_iload C (pc' := 98) at_96 rfl rfl ?_
    have nao : a ≠ a88 := Nat.ne_of_lt (by rw [e88]; exact A.lt)
    have neo : e ∉ [a88] := ninS (Nat.ne_of_lt (by rw [e88]; exact Ae.lt)) nin0
    have i0 : (f.toInt + (0 : Nat) ≤ t.toInt ∧ f.toInt = f.toInt + (0 : Nat)) ∨ (t.toInt ≤ f.toInt + (0 : Nat) ∧ f.toInt = t.toInt) := by omega
    refine Wp.size C fun sz98 => ?_
    refine w_special C (pc' := 101) (W := 1) (tw hw 5 rfl) (tw hw 6 rfl) (tw hw 4 rfl) (tw hw 7 rfl) rfl (by decide) pd_0 at_98 (c_1 X.l Z a0 hw a88 a f t bs n0 h88 sz98 g88 K88 (D88 (laB hw) (ty := .array .byte) (by decide)) (D88 (laA hw) (ty := .int) (by decide)) (D88 (laT hw) (ty := .int) (by decide)) (A.ext E88) nao) rfl rfl rfl (by decide) rfl (by decide) (by decide) (by decide) rfl (fun v98 h98 q98 => ?_)
    obtain ⟨rfl, B0, Kp⟩ := q98
    show Wp X _ _ _ 101 _ [_]
    refine w_astore C (pc' := 103) (ls' := #[_, _, _, _, _, _, _, _, _, _, _, _, _, _, _, _, _, _]) at_101 rfl rfl rfl ?_
    refine w_aload C (pc' := 105) at_103 rfl rfl rfl ?_
    have Ae0 := (Ae.ext E88).keep Kp neo
    refine Wp.size C fun sz105 => ?_
    refine w_virtual C (pc' := 108) (W := 0) (tw hw 22 rfl) (tw hw 23 rfl) (tw hw 25 rfl) (tw hw 24 rfl) (tw hw 4 rfl) (tw hw 26 rfl) (by decide) pd_2 at_105 B0.1 (c_4 X.l Z a0 hw a88 a f t bs n0 _ sz105 g88 B0 hf (rd_has (f := f) ht.2 hf hb)) rfl rfl rfl (by decide) rfl (by decide) (by decide) (by decide) rfl (fun v105 h105 q105 => ?_)
    obtain ⟨⟨r0, p1, rfl, R0, B1⟩, Kp0⟩ := q105
    show Wp X _ _ _ 108 _ [_]
    refine w_istore C (pc' := 110) (ls' := #[_, _, _, _, _, _, _, _, _, _, _, _, _, _, _, _, _, _]) at_108 rfl rfl ?_
    refine w_aload C (pc' := 112) at_110 rfl rfl rfl ?_
    have i1 := rd_next (by decide) hf ht i0 R0
    have Ae1 := Ae0.keep Kp0 neo
    refine Wp.size C fun sz112 => ?_
    refine w_virtual C (pc' := 115) (W := 0) (tw hw 27 rfl) (tw hw 28 rfl) (tw hw 30 rfl) (tw hw 29 rfl) (tw hw 4 rfl) (tw hw 31 rfl) (by decide) pd_2 at_112 B1.1 (c_5 X.l Z a0 hw a88 a p1 t bs n0 _ sz112 B1) rfl rfl rfl (by decide) rfl (by decide) (by decide) (by decide) rfl (fun v112 h112 q112 => ?_)
    obtain ⟨rfl, rfl⟩ := q112
    show Wp X _ _ _ 115 _ [_]
    refine w_istore C (pc' := 117) (ls' := #[_, _, _, _, _, _, _, _, _, _, _, _, _, _, _, _, _, _]) at_115 rfl rfl ?_
    refine w_aload C (pc' := 119) at_117 rfl rfl rfl ?_
    refine Wp.size C fun sz119 => ?_
    refine w_virtual C (pc' := 122) (W := 0) (tw hw 22 rfl) (tw hw 23 rfl) (tw hw 25 rfl) (tw hw 24 rfl) (tw hw 4 rfl) (tw hw 26 rfl) (by decide) pd_2 at_119 B1.1 (c_4 X.l Z a0 hw a88 a p1 t bs n0 _ sz119 g88 B1 (by omega) (rd_has (f := f) ht.2 (by omega) hb)) rfl rfl rfl (by decide) rfl (by decide) (by decide) (by decide) rfl (fun v119 h119 q119 => ?_)
    obtain ⟨⟨r1, p2, rfl, R1, B2⟩, Kp1⟩ := q119
    show Wp X _ _ _ 122 _ [_]
    refine w_istore C (pc' := 124) (ls' := #[_, _, _, _, _, _, _, _, _, _, _, _, _, _, _, _, _, _]) at_122 rfl rfl ?_
    refine w_aload C (pc' := 126) at_124 rfl rfl rfl ?_
    have i2 := rd_next (by decide) hf ht i1 R1
    have Ae2 := Ae1.keep Kp1 neo
    refine Wp.size C fun sz126 => ?_
    refine w_virtual C (pc' := 129) (W := 0) (tw hw 22 rfl) (tw hw 23 rfl) (tw hw 25 rfl) (tw hw 24 rfl) (tw hw 4 rfl) (tw hw 26 rfl) (by decide) pd_2 at_126 B2.1 (c_4 X.l Z a0 hw a88 a p2 t bs n0 _ sz126 g88 B2 (by omega) (rd_has (f := f) ht.2 (by omega) hb)) rfl rfl rfl (by decide) rfl (by decide) (by decide) (by decide) rfl (fun v126 h126 q126 => ?_)
    obtain ⟨⟨r2, p3, rfl, R2, B3⟩, Kp2⟩ := q126
    show Wp X _ _ _ 129 _ [_]
    refine w_istore C (pc' := 131) (ls' := #[_, _, _, _, _, _, _, _, _, _, _, _, _, _, _, _, _, _]) at_129 rfl rfl ?_
    refine w_aload C (pc' := 133) at_131 rfl rfl rfl ?_
    have i3 := rd_next (by decide) hf ht i2 R2
    have Ae3 := Ae2.keep Kp2 neo
    refine Wp.size C fun sz133 => ?_
    refine w_virtual C (pc' := 136) (W := 0) (tw hw 22 rfl) (tw hw 23 rfl) (tw hw 25 rfl) (tw hw 24 rfl) (tw hw 4 rfl) (tw hw 26 rfl) (by decide) pd_2 at_133 B3.1 (c_4 X.l Z a0 hw a88 a p3 t bs n0 _ sz133 g88 B3 (by omega) (rd_has (f := f) ht.2 (by omega) hb)) rfl rfl rfl (by decide) rfl (by decide) (by decide) (by decide) rfl (fun v133 h133 q133 => ?_)
    obtain ⟨⟨r3, p4, rfl, R3, B4⟩, Kp3⟩ := q133
    show Wp X _ _ _ 136 _ [_]
    refine w_istore C (pc' := 138) (ls' := #[_, _, _, _, _, _, _, _, _, _, _, _, _, _, _, _, _, _]) at_136 rfl rfl ?_
    refine w_aload C (pc' := 140) at_138 rfl rfl rfl ?_
    have i4 := rd_next (by decide) hf ht i3 R3
    have Ae4 := Ae3.keep Kp3 neo
    refine Wp.size C fun sz140 => ?_
    refine w_virtual C (pc' := 143) (W := 0) (tw hw 22 rfl) (tw hw 23 rfl) (tw hw 25 rfl) (tw hw 24 rfl) (tw hw 4 rfl) (tw hw 26 rfl) (by decide) pd_2 at_140 B4.1 (c_4 X.l Z a0 hw a88 a p4 t bs n0 _ sz140 g88 B4 (by omega) (rd_has (f := f) ht.2 (by omega) hb)) rfl rfl rfl (by decide) rfl (by decide) (by decide) (by decide) rfl (fun v140 h140 q140 => ?_)
    obtain ⟨⟨r4, p5, rfl, R4, B5⟩, Kp4⟩ := q140
    show Wp X _ _ _ 143 _ [_]
    refine w_istore C (pc' := 145) (ls' := #[_, _, _, _, _, _, _, _, _, _, _, _, _, _, _, _, _, _]) at_143 rfl rfl ?_
    have i5 := rd_next (by decide) hf ht i4 R4
    have Ae5 := Ae4.keep Kp4 neo
    have f1 := c_iadd f 1
    have f2 := c_iadd f 2
    have f3 := c_iadd f 3
    have f4 := c_iadd f 4
    have g1 := rng32 (f + 1)
    have g2 := rng32 (f + 2)
    have g3 := rng32 (f + 3)
    have g4 := rng32 (f + 4)
    have ep : p5 = t := Int32.toInt_inj.mp (by omega)
    subst ep
    refine w_iload C (pc' := 147) at_145 rfl rfl ?_
    refine w_aload C (pc' := 149) at_147 rfl rfl rfl ?_
    refine w_iload C (pc' := 151) at_149 rfl rfl ?_
    refine w_iload C (pc' := 153) at_151 rfl rfl ?_
    refine Wp.size C fun sz153 => ?_
    refine w_static C (pc' := 156) (W := 1) (tw hw 32 rfl) (tw hw 33 rfl) (tw hw 34 rfl) (tw hw 35 rfl) (by decide) pd_3 at_153 (c_6 X.l Z e f p5 r0 es n0 _ sz153 Ae5 hf (rd_want (k := 0) (by decide) hf ht i0 (by omega) R0 hb)) rfl rfl rfl (by decide) rfl (by decide) (by decide) (by decide) rfl (fun v153 h153 q153 => ?_)
    obtain ⟨rfl, rfl⟩ := q153
    show Wp X _ _ _ 156 _ [_, _]
    refine w_jcmp_ne C (pc' := 227) (pn := 159) at_156 (by decide) (by decide) rfl (fun c156 => ?_) (fun c156 => ?_)
    · exact (c156 rfl).elim
    refine w_iload C (pc' := 161) at_159 rfl rfl ?_
    refine w_aload C (pc' := 163) at_161 rfl rfl rfl ?_
    refine w_iload C (pc' := 165) at_163 rfl rfl ?_
    refine w_iconst C (pc' := 166) (z := 1) at_165 rfl rfl ?_
    refine w_iadd C (pc' := 167) at_166 rfl ?_
    refine w_iload C (pc' := 169) at_167 rfl rfl ?_
    refine Wp.size C fun sz169 => ?_
    refine w_static C (pc' := 172) (W := 1) (tw hw 32 rfl) (tw hw 33 rfl) (tw hw 34 rfl) (tw hw 35 rfl) (by decide) pd_3 at_169 (c_6 X.l Z e (f + 1) p5 r1 es n0 _ sz169 Ae5 (by omega) (rd_want (k := 1) (by decide) hf ht i1 (by omega) R1 hb)) rfl rfl rfl (by decide) rfl (by decide) (by decide) (by decide) rfl (fun v169 h169 q169 => ?_)
    obtain ⟨rfl, rfl⟩ := q169
    show Wp X _ _ _ 172 _ [_, _]
    refine w_jcmp_ne C (pc' := 227) (pn := 175) at_172 (by decide) (by decide) rfl (fun c172 => ?_) (fun c172 => ?_)
    · exact (c172 rfl).elim
    refine w_iload C (pc' := 177) at_175 rfl rfl ?_
    refine w_aload C (pc' := 179) at_177 rfl rfl rfl ?_
    refine w_iload C (pc' := 181) at_179 rfl rfl ?_
    refine w_iconst C (pc' := 182) (z := 2) at_181 rfl rfl ?_
    refine w_iadd C (pc' := 183) at_182 rfl ?_
    refine w_iload C (pc' := 185) at_183 rfl rfl ?_
    refine Wp.size C fun sz185 => ?_
    refine w_static C (pc' := 188) (W := 1) (tw hw 32 rfl) (tw hw 33 rfl) (tw hw 34 rfl) (tw hw 35 rfl) (by decide) pd_3 at_185 (c_6 X.l Z e (f + 2) p5 r2 es n0 _ sz185 Ae5 (by omega) (rd_want (k := 2) (by decide) hf ht i2 (by omega) R2 hb)) rfl rfl rfl (by decide) rfl (by decide) (by decide) (by decide) rfl (fun v185 h185 q185 => ?_)
    obtain ⟨rfl, rfl⟩ := q185
    show Wp X _ _ _ 188 _ [_, _]
    refine w_jcmp_ne C (pc' := 227) (pn := 191) at_188 (by decide) (by decide) rfl (fun c188 => ?_) (fun c188 => ?_)
    · exact (c188 rfl).elim
    refine w_iload C (pc' := 193) at_191 rfl rfl ?_
    refine w_aload C (pc' := 195) at_193 rfl rfl rfl ?_
    refine w_iload C (pc' := 197) at_195 rfl rfl ?_
    refine w_iconst C (pc' := 198) (z := 3) at_197 rfl rfl ?_
    refine w_iadd C (pc' := 199) at_198 rfl ?_
    refine w_iload C (pc' := 201) at_199 rfl rfl ?_
    refine Wp.size C fun sz201 => ?_
    refine w_static C (pc' := 204) (W := 1) (tw hw 32 rfl) (tw hw 33 rfl) (tw hw 34 rfl) (tw hw 35 rfl) (by decide) pd_3 at_201 (c_6 X.l Z e (f + 3) p5 r3 es n0 _ sz201 Ae5 (by omega) (rd_want (k := 3) (by decide) hf ht i3 (by omega) R3 hb)) rfl rfl rfl (by decide) rfl (by decide) (by decide) (by decide) rfl (fun v201 h201 q201 => ?_)
    obtain ⟨rfl, rfl⟩ := q201
    show Wp X _ _ _ 204 _ [_, _]
    refine w_jcmp_ne C (pc' := 227) (pn := 207) at_204 (by decide) (by decide) rfl (fun c204 => ?_) (fun c204 => ?_)
    · exact (c204 rfl).elim
    refine w_iload C (pc' := 209) at_207 rfl rfl ?_
    refine w_aload C (pc' := 211) at_209 rfl rfl rfl ?_
    refine w_iload C (pc' := 213) at_211 rfl rfl ?_
    refine w_iconst C (pc' := 214) (z := 4) at_213 rfl rfl ?_
    refine w_iadd C (pc' := 215) at_214 rfl ?_
    refine w_iload C (pc' := 217) at_215 rfl rfl ?_
    refine Wp.size C fun sz217 => ?_
    refine w_static C (pc' := 220) (W := 1) (tw hw 32 rfl) (tw hw 33 rfl) (tw hw 34 rfl) (tw hw 35 rfl) (by decide) pd_3 at_217 (c_6 X.l Z e (f + 4) p5 r4 es n0 _ sz217 Ae5 (by omega) (rd_want (k := 4) (by decide) hf ht i4 (by omega) R4 hb)) rfl rfl rfl (by decide) rfl (by decide) (by decide) (by decide) rfl (fun v217 h217 q217 => ?_)
    obtain ⟨rfl, rfl⟩ := q217
    show Wp X _ _ _ 220 _ [_, _]
    refine w_jcmp_ne C (pc' := 227) (pn := 223) at_220 (by decide) (by decide) rfl (fun c220 => ?_) (fun c220 => ?_)
    · exact (c220 rfl).elim
    refine w_iconst C (pc' := 224) (z := 1) at_223 rfl rfl ?_
    refine w_goto C (pc' := 228) at_224 (by decide) (by decide) ?_
    refine w_istore C (pc' := 230) (ls' := #[_, _, _, _, _, _, _, _, _, _, _, _, _, _, _, _, _, _]) at_228 rfl rfl ?_
    refine w_iload C (pc' := 232) at_230 rfl rfl ?_
    refine w_iload C (pc' := 234) at_232 rfl rfl ?_
    refine w_jcmp_ge C (pc' := 244) (pn := 237) at_234 (by decide) (by decide) rfl (fun c234 => ?_) (fun c234 => ?_)
    · -- 234 taken -> 244
      refine w_iload C (pc' := 246) at_244 rfl rfl ?_
      refine w_istore C (pc' := 248) (ls' := #[_, _, _, _, _, _, _, _, _, _, _, _, _, _, _, _, _, _]) at_246 rfl rfl ?_
      refine w_iload C (pc' := 250) at_248 rfl rfl ?_
      refine w_jf_eq C (pc' := 264) (pn := 253) at_250 (by decide) (by decide) rfl (fun c250 => ?_) (fun c250 => ?_)
      · exact absurd c250 (by decide)
      refine w_iload C (pc' := 255) at_253 rfl rfl ?_
      refine w_iload C (pc' := 257) at_255 rfl rfl ?_
      refine w_jcmp_ne C (pc' := 264) (pn := 260) at_257 (by decide) (by decide) rfl (fun c257 => ?_) (fun c257 => ?_)
      · exact (c257 (by omega)).elim
      refine w_iconst C (pc' := 261) (z := 1) at_260 rfl rfl ?_
      refine w_goto C (pc' := 265) at_261 (by decide) (by decide) ?_
      refine w_istore C (pc' := 267) (ls' := #[_, _, _, _, _, _, _, _, _, _, _, _, _, _, _, _, _, _]) at_265 rfl rfl ?_
      refine w_iload C (pc' := 269) at_267 rfl rfl ?_
      refine w_jf_eq C (pc' := 294) (pn := 272) at_269 (by decide) (by decide) rfl (fun c269 => ?_) (fun c269 => ?_)
      · exact absurd c269 (by decide)
      refine w_aload C (pc' := 274) at_272 rfl rfl rfl ?_
      refine Wp.size C fun sz274 => ?_
      refine w_virtual C (pc' := 277) (W := 0) (tw hw 27 rfl) (tw hw 28 rfl) (tw hw 30 rfl) (tw hw 29 rfl) (tw hw 4 rfl) (tw hw 31 rfl) (by decide) pd_2 at_274 B5.1 (c_5 X.l Z a0 hw a88 a p5 p5 bs n0 _ sz274 B5) rfl rfl rfl (by decide) rfl (by decide) (by decide) (by decide) rfl (fun v274 h274 q274 => ?_)
      obtain ⟨rfl, rfl⟩ := q274
      show Wp X _ _ _ 277 _ [_]
      refine w_iload C (pc' := 279) at_277 rfl rfl ?_
      refine w_jcmp_ne C (pc' := 294) (pn := 282) at_279 (by decide) (by decide) rfl (fun c279 => ?_) (fun c279 => ?_)
      · exact (c279 rfl).elim
      refine w_aload C (pc' := 284) at_282 rfl rfl rfl ?_
      refine Wp.size C fun sz284 => ?_
      refine w_virtual C (pc' := 287) (W := 0) (tw hw 36 rfl) (tw hw 37 rfl) (tw hw 39 rfl) (tw hw 38 rfl) (tw hw 4 rfl) (tw hw 40 rfl) (by decide) pd_2 at_284 B5.1 (c_7 X.l Z a0 hw a88 a p5 p5 bs n0 _ sz284 B5) rfl rfl rfl (by decide) rfl (by decide) (by decide) (by decide) rfl (fun v284 h284 q284 => ?_)
      obtain ⟨rfl, rfl⟩ := q284
      show Wp X _ _ _ 287 _ [_]
      refine w_jf_ne C (pc' := 294) (pn := 290) at_287 (by decide) (by decide) rfl (fun c287 => ?_) (fun c287 => ?_)
      · exact (c287 (by rw [Int32.sub_self]; rfl)).elim
      refine w_iconst C (pc' := 291) (z := 1) at_290 rfl rfl ?_
      refine w_goto C (pc' := 295) at_291 (by decide) (by decide) ?_
      refine w_istore C (pc' := 297) (ls' := #[_, _, _, _, _, _, _, _, _, _, _, _, _, _, _, _, _, _]) at_295 rfl rfl ?_
      refine w_iload C (pc' := 299) at_297 rfl rfl ?_
      exact w_iret C at_299 (by simp) rfl (by decide) (by decide) rfl
    · -- 234 not -> 237
      refine w_iload C (pc' := 239) at_237 rfl rfl ?_
      refine w_iconst C (pc' := 240) (z := 1) at_239 rfl rfl ?_
      refine w_iadd C (pc' := 241) at_240 rfl ?_
      refine w_goto C (pc' := 246) at_241 (by decide) (by decide) ?_
      refine w_istore C (pc' := 248) (ls' := #[_, _, _, _, _, _, _, _, _, _, _, _, _, _, _, _, _, _]) at_246 rfl rfl ?_
      refine w_iload C (pc' := 250) at_248 rfl rfl ?_
      refine w_jf_eq C (pc' := 264) (pn := 253) at_250 (by decide) (by decide) rfl (fun c250 => ?_) (fun c250 => ?_)
      · exact absurd c250 (by decide)
      refine w_iload C (pc' := 255) at_253 rfl rfl ?_
      refine w_iload C (pc' := 257) at_255 rfl rfl ?_
      refine w_jcmp_ne C (pc' := 264) (pn := 260) at_257 (by decide) (by decide) rfl (fun c257 => ?_) (fun c257 => ?_)
      · exact (c257 (by omega)).elim
      refine w_iconst C (pc' := 261) (z := 1) at_260 rfl rfl ?_
      refine w_goto C (pc' := 265) at_261 (by decide) (by decide) ?_
      refine w_istore C (pc' := 267) (ls' := #[_, _, _, _, _, _, _, _, _, _, _, _, _, _, _, _, _, _]) at_265 rfl rfl ?_
      refine w_iload C (pc' := 269) at_267 rfl rfl ?_
      refine w_jf_eq C (pc' := 294) (pn := 272) at_269 (by decide) (by decide) rfl (fun c269 => ?_) (fun c269 => ?_)
      · exact absurd c269 (by decide)
      refine w_aload C (pc' := 274) at_272 rfl rfl rfl ?_
      refine Wp.size C fun sz274 => ?_
      refine w_virtual C (pc' := 277) (W := 0) (tw hw 27 rfl) (tw hw 28 rfl) (tw hw 30 rfl) (tw hw 29 rfl) (tw hw 4 rfl) (tw hw 31 rfl) (by decide) pd_2 at_274 B5.1 (c_5 X.l Z a0 hw a88 a p5 p5 bs n0 _ sz274 B5) rfl rfl rfl (by decide) rfl (by decide) (by decide) (by decide) rfl (fun v274 h274 q274 => ?_)
      obtain ⟨rfl, rfl⟩ := q274
      show Wp X _ _ _ 277 _ [_]
      refine w_iload C (pc' := 279) at_277 rfl rfl ?_
      refine w_jcmp_ne C (pc' := 294) (pn := 282) at_279 (by decide) (by decide) rfl (fun c279 => ?_) (fun c279 => ?_)
      · exact (c279 rfl).elim
      refine w_aload C (pc' := 284) at_282 rfl rfl rfl ?_
      refine Wp.size C fun sz284 => ?_
      refine w_virtual C (pc' := 287) (W := 0) (tw hw 36 rfl) (tw hw 37 rfl) (tw hw 39 rfl) (tw hw 38 rfl) (tw hw 4 rfl) (tw hw 40 rfl) (by decide) pd_2 at_284 B5.1 (c_7 X.l Z a0 hw a88 a p5 p5 bs n0 _ sz284 B5) rfl rfl rfl (by decide) rfl (by decide) (by decide) (by decide) rfl (fun v284 h284 q284 => ?_)
      obtain ⟨rfl, rfl⟩ := q284
      show Wp X _ _ _ 287 _ [_]
      refine w_jf_ne C (pc' := 294) (pn := 290) at_287 (by decide) (by decide) rfl (fun c287 => ?_) (fun c287 => ?_)
      · exact (c287 (by rw [Int32.sub_self]; rfl)).elim
      refine w_iconst C (pc' := 291) (z := 1) at_290 rfl rfl ?_
      refine w_goto C (pc' := 295) at_291 (by decide) (by decide) ?_
      refine w_istore C (pc' := 297) (ls' := #[_, _, _, _, _, _, _, _, _, _, _, _, _, _, _, _, _, _]) at_295 rfl rfl ?_
      refine w_iload C (pc' := 299) at_297 rfl rfl ?_
      exact w_iret C at_299 (by simp) rfl (by decide) (by decide) rfl
  have m0 := c_mask x4 7 3 (by decide) (by decide)
  have r0 := (c_irem (x4 &&& 7) 5 5 (by decide)).1 (by omega)
  have z5 : (5 : Int32).toInt = 5 := by decide
  have s0 := c_isub 5 ((x4 &&& 7) % 5)
  have g0 := rng32 (5 - (x4 &&& 7) % 5)
  have m1 := c_mask ((x4.toUInt32 >>> ((3 : Int32) &&& 31).toUInt32).toInt32) 7 3 (by decide) (by decide)
  have r1 := (c_iremV ((x4.toUInt32 >>> ((3 : Int32) &&& 31).toUInt32).toInt32 &&& 7) (5 - (x4 &&& 7) % 5)).1 (by omega) (by omega)
  have a1 := c_iadd ((x4 &&& 7) % 5) (((x4.toUInt32 >>> ((3 : Int32) &&& 31).toUInt32).toInt32 &&& 7) % (5 - (x4 &&& 7) % 5))
  have g1 := rng32 ((x4 &&& 7) % 5 + ((x4.toUInt32 >>> ((3 : Int32) &&& 31).toUInt32).toInt32 &&& 7) % (5 - (x4 &&& 7) % 5))
  have nz : 5 - (x4 &&& 7) % 5 ≠ 0 := fun q => by rw [q] at s0; have : (0 : Int32).toInt = 0 := (by decide); omega
  refine w_iconst C (pc' := 1) (z := 4) at_0 rfl rfl ?_
  refine w_newarray C (pc' := 3) (cap := 4) (tw hw 0 rfl) at_1 (by decide) (by decide) (by decide) (by decide) (by decide) rfl (fun h1 a1 e1 g1 E1 A1 => ?_)
  refine w_dup C (pc' := 4) at_3 rfl rfl ?_
  refine w_iconst C (pc' := 5) (z := 0) at_4 rfl rfl ?_
  refine w_iloadN C (pc' := 6) at_5 rfl rfl ?_
  refine w_i2b C (pc' := 7) at_6 rfl ?_
  refine w_bastore C (pc' := 8) at_7 A1 g1 (by decide) rfl (by first | decide | (simp only [List.length_set]; decide)) rfl (fun h7 W7 A7 => ?_)
  refine w_dup C (pc' := 9) at_8 rfl rfl ?_
  refine w_iconst C (pc' := 10) (z := 1) at_9 rfl rfl ?_
  refine w_iloadN C (pc' := 11) at_10 rfl rfl ?_
  refine w_i2b C (pc' := 12) at_11 rfl ?_
  refine w_bastore C (pc' := 13) at_12 A7 g1 (by decide) rfl (by first | decide | (simp only [List.length_set]; decide)) rfl (fun h12 W12 A12 => ?_)
  refine w_dup C (pc' := 14) at_13 rfl rfl ?_
  refine w_iconst C (pc' := 15) (z := 2) at_14 rfl rfl ?_
  refine w_iloadN C (pc' := 16) at_15 rfl rfl ?_
  refine w_i2b C (pc' := 17) at_16 rfl ?_
  refine w_bastore C (pc' := 18) at_17 A12 g1 (by decide) rfl (by first | decide | (simp only [List.length_set]; decide)) rfl (fun h17 W17 A17 => ?_)
  refine w_dup C (pc' := 19) at_18 rfl rfl ?_
  refine w_iconst C (pc' := 20) (z := 3) at_19 rfl rfl ?_
  refine w_iloadN C (pc' := 21) at_20 rfl rfl ?_
  refine w_i2b C (pc' := 22) at_21 rfl ?_
  refine w_bastore C (pc' := 23) at_22 A17 g1 (by decide) rfl (by first | decide | (simp only [List.length_set]; decide)) rfl (fun h22 W22 A22 => ?_)
  refine w_astore C (pc' := 25) (ls' := #[_, _, _, _, _, _, _, _, _, _, _, _, _, _, _, _, _, _]) at_23 rfl rfl rfl ?_
  refine w_iconst C (pc' := 26) (z := 4) at_25 rfl rfl ?_
  refine w_newarray C (pc' := 28) (cap := 4) (tw hw 1 rfl) at_26 (by decide) (by decide) (by decide) (by decide) (by decide) rfl (fun h26 a26 e26 g26 E26 A26 => ?_)
  refine w_dup C (pc' := 29) at_28 rfl rfl ?_
  refine w_iconst C (pc' := 30) (z := 0) at_29 rfl rfl ?_
  refine w_iloadN C (pc' := 31) at_30 rfl rfl ?_
  refine w_sipush C (pc' := 34) (z := 255) at_31 rfl rfl ?_
  refine w_iand C (pc' := 35) at_34 rfl ?_
  refine w_iastore C (pc' := 36) at_35 A26 g26 (by decide) rfl (by first | decide | (simp only [List.length_set]; decide)) rfl (fun h35 W35 A35 => ?_)
  refine w_dup C (pc' := 37) at_36 rfl rfl ?_
  refine w_iconst C (pc' := 38) (z := 1) at_37 rfl rfl ?_
  refine w_iloadN C (pc' := 39) at_38 rfl rfl ?_
  refine w_sipush C (pc' := 42) (z := 255) at_39 rfl rfl ?_
  refine w_iand C (pc' := 43) at_42 rfl ?_
  refine w_iastore C (pc' := 44) at_43 A35 g26 (by decide) rfl (by first | decide | (simp only [List.length_set]; decide)) rfl (fun h43 W43 A43 => ?_)
  refine w_dup C (pc' := 45) at_44 rfl rfl ?_
  refine w_iconst C (pc' := 46) (z := 2) at_45 rfl rfl ?_
  refine w_iloadN C (pc' := 47) at_46 rfl rfl ?_
  refine w_sipush C (pc' := 50) (z := 255) at_47 rfl rfl ?_
  refine w_iand C (pc' := 51) at_50 rfl ?_
  refine w_iastore C (pc' := 52) at_51 A43 g26 (by decide) rfl (by first | decide | (simp only [List.length_set]; decide)) rfl (fun h51 W51 A51 => ?_)
  refine w_dup C (pc' := 53) at_52 rfl rfl ?_
  refine w_iconst C (pc' := 54) (z := 3) at_53 rfl rfl ?_
  refine w_iloadN C (pc' := 55) at_54 rfl rfl ?_
  refine w_sipush C (pc' := 58) (z := 255) at_55 rfl rfl ?_
  refine w_iand C (pc' := 59) at_58 rfl ?_
  refine w_iastore C (pc' := 60) at_59 A51 g26 (by decide) rfl (by first | decide | (simp only [List.length_set]; decide)) rfl (fun h59 W59 A59 => ?_)
  refine w_astore C (pc' := 62) (ls' := #[_, _, _, _, _, _, _, _, _, _, _, _, _, _, _, _, _, _]) at_60 rfl rfl rfl ?_
  refine w_iload C (pc' := 64) at_62 rfl rfl ?_
  refine w_bipush C (pc' := 66) (z := 7) at_64 rfl rfl ?_
  refine w_iand C (pc' := 67) at_66 rfl ?_
  refine w_iconst C (pc' := 68) (z := 5) at_67 rfl rfl ?_
  refine w_irem C (pc' := 69) at_68 (by decide) rfl ?_
  refine w_istore C (pc' := 71) (ls' := #[_, _, _, _, _, _, _, _, _, _, _, _, _, _, _, _, _, _]) at_69 rfl rfl ?_
  refine w_iload C (pc' := 73) at_71 rfl rfl ?_
  refine w_iload C (pc' := 75) at_73 rfl rfl ?_
  refine w_iconst C (pc' := 76) (z := 3) at_75 rfl rfl ?_
  refine w_iushr C (pc' := 77) at_76 rfl ?_
  refine w_bipush C (pc' := 79) (z := 7) at_77 rfl rfl ?_
  refine w_iand C (pc' := 80) at_79 rfl ?_
  refine w_iconst C (pc' := 81) (z := 5) at_80 rfl rfl ?_
  refine w_iload C (pc' := 83) at_81 rfl rfl ?_
  refine w_isub C (pc' := 84) at_83 rfl ?_
  refine w_irem C (pc' := 85) at_84 nz rfl ?_
  refine w_iadd C (pc' := 86) at_85 rfl ?_
  refine w_istore C (pc' := 88) (ls' := #[_, _, _, _, _, _, _, _, _, _, _, _, _, _, _, _, _, _]) at_86 rfl rfl ?_
  have ne : a1 ≠ a26 := Nat.ne_of_lt (by rw [e26]; exact A22.lt)
  have Ab : Ars Z h59 a1 .byte [.int x0.toInt8.toInt32.toInt8.toInt32, .int x1.toInt8.toInt32.toInt8.toInt32, .int x2.toInt8.toInt32.toInt8.toInt32, .int x3.toInt8.toInt32.toInt8.toInt32] := ((((A22.ext E26).other W35 ne).other W43 ne).other W51 ne).other W59 ne
  refine J88 _ _ _ _ _ _ _ (by omega) (by omega) Ab A59 fun i hi => ?_
  match i, hi with
  | 0, _ => exact ⟨_, rfl, by rw [byte255]; rfl⟩
  | 1, _ => exact ⟨_, rfl, by rw [byte255]; rfl⟩
  | 2, _ => exact ⟨_, rfl, by rw [byte255]; rfl⟩
  | 3, _ => exact ⟨_, rfl, by rw [byte255]; rfl⟩
set_option maxRecDepth 65536 in
set_option maxHeartbeats 40000000 in
theorem comes_1 {Post : Tables → Env → Array Value → State → Outcome → State → Prop} (hpost : ∀ tb e args s v u, (limb_1_1.after args s (.returned v) u = true ∧ limb_1_2.after args s (.returned v) u = true ∧ True) → FrameEnd s (.returned v) u (Jvm.fieldLocs frame_1_writes args s ++ Jvm.arrayLocs frame_1_arrays args s ++ Jvm.staticLocs frame_1_statics s) 16 128 → Post tb e args s (.returned v) u) :
    ArmFor flags0 classFile x code maxLocals ret World_1 tables_1 room_1 Calls_1 rest_1 Pre_1 Post := by
  intro l hfl _ _ p e ha hc hk s m args below hf hA hF happ hP
  obtain ⟨hcalls, hrest, hpre⟩ := hP
  obtain ⟨-, -, -, hnamed, -, -, -, hat⟩ := (Spec.applies_iff hf).mp happ
  obtain ⟨hg, hnar⟩ := and_e (Cond.before_iff.mp (show (Jvm.Cond.and given_1 narrow_1).before args s = true from hpre))
  obtain ⟨gc, g0⟩ := and_e hg
  obtain ⟨k0, g1⟩ := and_e g0
  obtain ⟨k1, g2⟩ := and_e g1
  obtain ⟨k2, g3⟩ := and_e g2
  obtain ⟨k3, g4⟩ := and_e g3
  obtain ⟨w0, w1, w2, w3, w4, rfl⟩ : ∃ w0 w1 w2 w3 w4 : Value, args = #[w0, w1, w2, w3, w4] := by
    have hs : args.size = 5 := by simpa [Cond.value, given_1] using gc
    obtain ⟨L⟩ := args
    match L, hs with
    | [w0, w1, w2, w3, w4], _ => exact ⟨w0, w1, w2, w3, w4, rfl⟩
  have hw := fun d (hd : d ∈ tables_1) => atoms_spec (ws := Jvm.Cond.code x code maxLocals ret :: tables_1) hat d (List.mem_cons_of_mem _ hd)
  have hfit : Fit s := fun {y c} hc i hi => by
    obtain ⟨ha, rfl⟩ := Array.getElem?_eq_some_iff.mp hc
    have q := List.all_eq_true.mp ((Array.all_eq_true_iff_forall_mem.mp hF) _ (Array.getElem_mem ha)) i (List.mem_range.mpr hi)
    simpa [Array.getElem?_eq_getElem hi] using q
  obtain ⟨i0, ei0⟩ := is_v k0
  obtain rfl : w0 = (.int i0) := Option.some.inj ei0
  obtain ⟨i1, ei1⟩ := is_v k1
  obtain rfl : w1 = (.int i1) := Option.some.inj ei1
  obtain ⟨i2, ei2⟩ := is_v k2
  obtain rfl : w2 = (.int i2) := Option.some.inj ei2
  obtain ⟨i3, ei3⟩ := is_v k3
  obtain rfl : w3 = (.int i3) := Option.some.inj ei3
  obtain ⟨i4, ei4⟩ := is_v g4
  obtain rfl : w4 = (.int i4) := Option.some.inj ei4
  obtain ⟨n, o, h1, h2, h3, _, L, rfl, ⟨⟨rfl, -⟩, N⟩, hq⟩ := law_ct l s _ hw i0 i1 i2 i3 i4 s.heap.size s.heap (Nat.le_refl _) p e ha hc hk s m _ below hf ((Spec.applies_iff_loose hf).mp happ).1 ⟨rfl, State.Warmed39.refl s, rfl⟩ trivial
  refine ⟨n, _, h1, h2, h3, hpost _ _ _ _ _ _ ⟨Cond.after_iff.mpr rfl, Cond.after_iff.mpr (eq_i res_at (Term.int_eval (1)) rfl), trivial⟩ ⟨hq.1, hq.2.1, (hq.2.2.sift fun y hy => Or.inr (N y hy)).mono (by decide) (by decide)⟩⟩
theorem main_1_1 : Claimed_1_1 := comes_1 fun _ _ _ _ _ _ h hF => ⟨h.1, hF⟩
theorem main_1_2 : Claimed_1_2 := comes_1 fun _ _ _ _ _ _ h hF => ⟨h.2.1, hF⟩
end Jvm.Pilot.@@N@@
namespace Jvm.Pilot.@@N@@
open Jvm Jvm.ClassFile Sem Op Lib Jvm.Free Jvm.Stand Jvm.Pilot.@@N@@.Jvm.D
/-! MADE BY PROGRAM (witnessworld.py) out of the Statement's table words and the real class files: 12 classes; the members and pool entries that the words name. The judged class is class 1, her method 1. -/
namespace start1
open Jvm.ClassFile
def u (s : String) : CpInfo := .utf8 (stringToUtf16 s)
/-- a pool by its gaps: so many unusable entries, then the entry; so many at the end -/
def gap : Nat → List CpInfo → List CpInfo
  | 0, r => r
  | n + 1, r => .unusable :: gap n r
def poolList (es : List (Nat × CpInfo)) (last : Nat) : List CpInfo := es.foldr (fun e r => gap e.1 (e.2 :: r)) (gap last [])
def pool (es : List (Nat × CpInfo)) (last : Nat) : Array CpInfo := ⟨poolList es last⟩
def fileOf (pool : Array CpInfo) (this : Nat) (attrs : Array Attribute := #[]) (ms : Array MethodInfo := #[]) (fl : Nat := 33) (sup : Nat := 0) (ifs : Array Nat := #[]) (fds : Array FieldInfo := #[]) : ClassFile where
  minorVersion := 0
  majorVersion := 65
  constantPool := pool
  accessFlags := fl
  thisClass := this
  superClass := sup
  interfaces := ifs
  fields := fds
  methods := ms
  attributes := attrs
def plain (name : String) (sup : Option ClassId) : Class where
  name := name
  kind := .ordinary
  loader := none
  accessFlags := 33
  super := sup
  interfaces := #[]
  cf := none
  fields := #[]
  methods := #[]
  instanceTypes := #[]
  staticTypes := #[]
  resolved := #[]
  callSites := []
  init := .initialized
  statics := none
  mirror := none

def pool0 : Array CpInfo := pool [(5, u "<init>"), (0, u "()V"), (1, .class_ 10), (1, u "java/lang/Object")] 113

def k0c0 : Code := { maxStack := 0, maxLocals := 1, code := object_method_1_code, exceptionTable := #[], attributes := #[] }
def k0m0 : Method := { name := "<init>", desc := "()V", sig := { parameters := [], returnType := none }, accessFlags := 1, code := some k0c0 }
/-- java/lang/Object -/
def k0 : Class := { plain "java/lang/Object" none with
  accessFlags := 33
  interfaces := #[]
  cf := some (fileOf pool0 8 #[] #[{ accessFlags := 1, nameIndex := 5, descriptorIndex := 6, attributes := #[] }] 33 0 #[] #[])
  fields := #[]
  methods := #[k0m0]
  instanceTypes := #[]
  staticTypes := #[]
  resolved := Array.replicate 124 none
  statics := none }

def pool1 : Array CpInfo := pool [(2, .class_ 4), (1, u "java/lang/Object"), (0, u "<init>"), (0, u "()V"), (0, .class_ 8), (0, u "com/example/runnel/runnel/runtime/ByteRange"), (0, .methodref 7 10), (0, .nameAndType 5 11), (0, u "([BII)V"), (0, .methodref 7 13), (0, .nameAndType 14 15), (0, u "read"), (0, u "()I"), (0, .methodref 7 17), (0, .nameAndType 18 15), (0, u "position"), (0, .methodref 20 21), (0, .class_ 22), (0, .nameAndType 23 24), (0, u "com/example/runnel/runnel/runtime/ByteRangeReadPinLaw"), (0, u "want"), (0, u "([III)I"), (0, .methodref 7 26), (0, .nameAndType 27 15), (0, u "available"), (2, u "law"), (0, u "(IIIII)Z")] 7

def k1m0 : Method := { name := "<init>", desc := "()V", sig := { parameters := [], returnType := none }, accessFlags := 1, code := none }
def k1c1 : Code := { maxStack := 5, maxLocals := 18, code := code, exceptionTable := #[], attributes := #[] }
def k1m1 : Method := { name := "law", desc := "(IIIII)Z", sig := { parameters := [.int, .int, .int, .int, .int], returnType := some .boolean }, accessFlags := 9, code := some k1c1 }
def k1c2 : Code := { maxStack := 2, maxLocals := 3, code := method_3_code, exceptionTable := #[], attributes := #[] }
def k1m2 : Method := { name := "want", desc := "([III)I", sig := { parameters := [(.array .int), .int, .int], returnType := some .int }, accessFlags := 10, code := some k1c2 }
/-- com/example/runnel/runnel/runtime/ByteRangeReadPinLaw -/
def k1 : Class := { plain "com/example/runnel/runnel/runtime/ByteRangeReadPinLaw" (some 0) with
  accessFlags := 49
  interfaces := #[]
  cf := some (fileOf pool1 20 #[] #[{ accessFlags := 1, nameIndex := 5, descriptorIndex := 6, attributes := #[] }, { accessFlags := 9, nameIndex := 30, descriptorIndex := 31, attributes := #[] }, { accessFlags := 10, nameIndex := 23, descriptorIndex := 24, attributes := #[] }] 49 2 #[] #[])
  fields := #[]
  methods := #[k1m0, k1m1, k1m2]
  instanceTypes := #[]
  staticTypes := #[]
  resolved := Array.replicate 39 none
  statics := none }

def pool2 : Array CpInfo := pool [(1, .class_ 2), (0, u "java/lang/AutoCloseable"), (0, .class_ 4), (0, u "java/lang/Object")] 7

/-- java/lang/AutoCloseable -/
def k2 : Class := { plain "java/lang/AutoCloseable" (some 0) with
  accessFlags := 1537
  interfaces := #[]
  cf := some (fileOf pool2 1 #[] #[] 1537 3 #[] #[])
  fields := #[]
  methods := #[]
  instanceTypes := #[]
  staticTypes := #[]
  resolved := Array.replicate 12 none
  statics := none }

def pool3 : Array CpInfo := pool [(1, .class_ 2), (0, u "java/io/Closeable"), (0, .class_ 4), (0, u "java/lang/Object"), (0, .class_ 6), (0, u "java/lang/AutoCloseable")] 7

/-- java/io/Closeable -/
def k3 : Class := { plain "java/io/Closeable" (some 0) with
  accessFlags := 1537
  interfaces := #[2]
  cf := some (fileOf pool3 1 #[] #[] 1537 3 #[5] #[])
  fields := #[]
  methods := #[]
  instanceTypes := #[]
  staticTypes := #[]
  resolved := Array.replicate 14 none
  statics := none }

def pool4 : Array CpInfo := pool [(3, .methodref 4 5), (0, .class_ 6), (0, .nameAndType 7 8), (0, u "java/lang/Object"), (0, u "<init>"), (0, u "()V"), (0, .class_ 10), (0, u "java/io/InputStream$1"), (2, .class_ 15), (1, u "java/io/InputStream"), (116, .class_ 133), (0, u "java/io/Closeable"), (0, u "MAX_SKIP_BUFFER_SIZE"), (0, u "I"), (2, u "DEFAULT_BUFFER_SIZE"), (1, u "MAX_BUFFER_SIZE")] 54

def k4c0 : Code := { maxStack := 1, maxLocals := 1, code := jdk_2022_method_1_code, exceptionTable := #[], attributes := #[] }
def k4m0 : Method := { name := "<init>", desc := "()V", sig := { parameters := [], returnType := none }, accessFlags := 1, code := some k4c0 }
/-- java/io/InputStream -/
def k4 : Class := { plain "java/io/InputStream" (some 0) with
  accessFlags := 1057
  interfaces := #[3]
  cf := some (fileOf pool4 13 #[.nestMembers #[9]] #[{ accessFlags := 1, nameIndex := 7, descriptorIndex := 8, attributes := #[] }] 1057 4 #[132] #[{ accessFlags := 26, nameIndex := 134, descriptorIndex := 135, attributes := #[] }, { accessFlags := 26, nameIndex := 138, descriptorIndex := 135, attributes := #[] }, { accessFlags := 26, nameIndex := 140, descriptorIndex := 135, attributes := #[] }])
  fields := #[{ name := "MAX_SKIP_BUFFER_SIZE", type := .int, accessFlags := 26, slot := 0, constantValue := 0 }, { name := "DEFAULT_BUFFER_SIZE", type := .int, accessFlags := 26, slot := 1, constantValue := 0 }, { name := "MAX_BUFFER_SIZE", type := .int, accessFlags := 26, slot := 2, constantValue := 0 }]
  methods := #[k4m0]
  instanceTypes := #[]
  staticTypes := #[.int, .int, .int]
  resolved := Array.replicate 195 none
  statics := none }

def pool5 : Array CpInfo := pool [(1, .methodref 2 3), (0, .class_ 4), (0, .nameAndType 5 6), (0, u "java/io/InputStream"), (0, u "<init>"), (0, u "()V"), (0, .fieldref 8 9), (0, .class_ 10), (0, .nameAndType 11 12), (0, u "com/example/runnel/runnel/runtime/ByteRange"), (0, u "bytes"), (0, u "[B"), (0, .fieldref 8 14), (0, .nameAndType 15 16), (0, u "at"), (0, u "I"), (0, .fieldref 8 18), (0, .nameAndType 19 16), (0, u "to"), (26, u "([BII)V"), (2, u "read"), (0, u "()I"), (6, u "available"), (0, u "position")] 2

def k5c0 : Code := { maxStack := 2, maxLocals := 4, code := prog_57_method_1_code, exceptionTable := #[], attributes := #[] }
def k5m0 : Method := { name := "<init>", desc := "([BII)V", sig := { parameters := [(.array .byte), .int, .int], returnType := none }, accessFlags := 0, code := some k5c0 }
def k5c1 : Code := { maxStack := 5, maxLocals := 1, code := prog_57_method_2_code, exceptionTable := #[], attributes := #[] }
def k5m1 : Method := { name := "read", desc := "()I", sig := { parameters := [], returnType := some .int }, accessFlags := 1, code := some k5c1 }
def k5c2 : Code := { maxStack := 2, maxLocals := 1, code := prog_57_method_6_code, exceptionTable := #[], attributes := #[] }
def k5m2 : Method := { name := "available", desc := "()I", sig := { parameters := [], returnType := some .int }, accessFlags := 1, code := some k5c2 }
def k5c3 : Code := { maxStack := 1, maxLocals := 1, code := prog_57_method_7_code, exceptionTable := #[], attributes := #[] }
def k5m3 : Method := { name := "position", desc := "()I", sig := { parameters := [], returnType := some .int }, accessFlags := 0, code := some k5c3 }
/-- com/example/runnel/runnel/runtime/ByteRange -/
def k5 : Class := { plain "com/example/runnel/runnel/runtime/ByteRange" (some 4) with
  accessFlags := 32
  interfaces := #[]
  cf := some (fileOf pool5 8 #[] #[{ accessFlags := 0, nameIndex := 5, descriptorIndex := 46, attributes := #[] }, { accessFlags := 1, nameIndex := 49, descriptorIndex := 50, attributes := #[] }, { accessFlags := 1, nameIndex := 57, descriptorIndex := 50, attributes := #[] }, { accessFlags := 0, nameIndex := 58, descriptorIndex := 50, attributes := #[] }] 32 2 #[] #[{ accessFlags := 18, nameIndex := 11, descriptorIndex := 12, attributes := #[] }, { accessFlags := 18, nameIndex := 19, descriptorIndex := 16, attributes := #[] }, { accessFlags := 2, nameIndex := 15, descriptorIndex := 16, attributes := #[] }])
  fields := #[{ name := "bytes", type := (.array .byte), accessFlags := 18, slot := 0, constantValue := 0 }, { name := "to", type := .int, accessFlags := 18, slot := 1, constantValue := 0 }, { name := "at", type := .int, accessFlags := 2, slot := 2, constantValue := 0 }]
  methods := #[k5m0, k5m1, k5m2, k5m3]
  instanceTypes := #[(.array .byte), .int, .int]
  staticTypes := #[]
  resolved := Array.replicate 61 none
  statics := none }

def pool6 : Array CpInfo := pool [(1, u "java/lang/Cloneable"), (0, .class_ 1), (0, u "java/lang/Object"), (0, .class_ 3)] 3

/-- java/lang/Cloneable -/
def k6 : Class := { plain "java/lang/Cloneable" (some 0) with
  accessFlags := 1537
  interfaces := #[]
  cf := some (fileOf pool6 2 #[] #[] 1537 4 #[] #[])
  fields := #[]
  methods := #[]
  instanceTypes := #[]
  staticTypes := #[]
  resolved := Array.replicate 8 none
  statics := none }

def pool7 : Array CpInfo := pool [(1, u "java/io/Serializable"), (0, .class_ 1), (0, u "java/lang/Object"), (0, .class_ 3)] 3

/-- java/io/Serializable -/
def k7 : Class := { plain "java/io/Serializable" (some 0) with
  accessFlags := 1537
  interfaces := #[]
  cf := some (fileOf pool7 2 #[] #[] 1537 4 #[] #[])
  fields := #[]
  methods := #[]
  instanceTypes := #[]
  staticTypes := #[]
  resolved := Array.replicate 8 none
  statics := none }

/-- the primitive byte -/
def k8 : Class := { plain "byte" none with kind := .primitive 'B', accessFlags := 0x411 }
/-- [B -/
def k9 : Class := { plain "[B" (some 0) with kind := .array 8 .byte, interfaces := #[6, 7], accessFlags := 1041 }

/-- the primitive int -/
def k10 : Class := { plain "int" none with kind := .primitive 'I', accessFlags := 0x411 }
/-- [I -/
def k11 : Class := { plain "[I" (some 0) with kind := .array 10 .int, interfaces := #[6, 7], accessFlags := 1041 }

def heap : Heap := #[]
def classes : Array Class := #[k0, k1, k2, k3, k4, k5, k6, k7, k8, k9, k10, k11]
def interned : List (Array UInt16 × Addr) := []
def slotsUsed : Nat := 0
def theMethod : MethodId := ⟨1, 1⟩
def args0 : Array Value := #[.int 5, .int 6, .int 7, .int 8, .int 9]
def aboutOver (below : List Frame) : State where
  vm := { classes := classes, interned := interned.toArray }
  heap := heap
  slotsUsed := slotsUsed
  threads := #[{ frames := .invoking theMethod args0 :: below }]
def below0 : List Frame := [.native { method := ⟨0, 0⟩, args := #[] }]
def about1 : State := aboutOver below0
def p0 : Program := .bare "" "" ""
def e0 : Env := launch0.env 0 0 0
theorem w_frames : about1.frames = Frame.invoking theMethod args0 :: below0 := rfl
set_option maxRecDepth 65536 in
theorem w_args : argsFit about1.vm theMethod args0 = true := by decide +kernel
set_option maxRecDepth 65536 in
theorem w_heap : heapFits about1 = true := by decide +kernel
set_option maxRecDepth 65536 in
theorem w_runnable : about1.curStatus? = some .runnable := by decide +kernel
set_option maxRecDepth 65536 in
theorem w_alone : about1.alone = true := by decide +kernel
set_option maxRecDepth 65536 in
theorem w_named : about1.methodNamed? x = some theMethod := by decide +kernel
set_option maxRecDepth 65536 in
theorem w_hears : about1.hears theMethod below0 = true := by decide +kernel
set_option maxRecDepth 65536 in
theorem w_ripe : about1.ripe theMethod args0 below0 = true := by decide +kernel
theorem w_running : about1.status = .running := rfl
set_option maxRecDepth 65536 in
theorem w_room : about1.hasRoom e0.platform room_1 = true :=
  launch0.hasRoom_least _ room_1 (by decide +kernel) (by decide +kernel) (by decide +kernel) (by decide +kernel) (by decide +kernel) (by decide +kernel)
theorem allAtoms_all (ts : List Jvm.Cond) (a : Array Jvm.Value) (st : Jvm.State) : (allAtoms ts).before a st = ts.all (fun c => c.before a st) := by
  induction ts with
  | nil => rfl
  | cons c t ih =>
    show (Jvm.Cond.and c (allAtoms t)).before a st = _
    rw [Jvm.Cond.before_and, ih, List.all_cons]
def words1 : List Jvm.Cond := Jvm.Cond.code x code maxLocals ret :: tables_1
/-- a 'code' word, met by the world's own term for the bytes: nothing is compared byte by byte -/
theorem code_word {y : MethodName} {bytes : ByteArray} {mx : Nat} {rt : Option FieldType} {a : Array Value} {s : State} {m : MethodId} {meth : Method} {c : Code} (h1 : s.methodNamed? y = some m) (h2 : s.vm.method? m = some meth) (h3 : meth.code = some c) (h4 : c.code = bytes)
    (h5 : (c.maxLocals == mx && c.exceptionTable.isEmpty && decide (c.maxStack ≤ mostOperands) && decide (meth.sig.returnType = rt) && !meth.locks && decide (parseMethodDescriptor y.desc = some meth.sig)) = true) : (Jvm.Cond.code y bytes mx rt).before a s = true := by
  simp only [Bool.and_eq_true, beq_iff_eq, Bool.not_eq_true', decide_eq_true_eq] at h5
  obtain ⟨⟨⟨⟨⟨g1, g2⟩, g3⟩, g4⟩, g5⟩, g6⟩ := h5
  simp [Cond.before, Cond.holds, Cond.value, h1, h2, h3, h4, g1, g2, g3, g4, g5, g6]
def isCode : Jvm.Cond → Bool
  | .code _ _ _ _ => true
  | _ => false
theorem all_split {L : List Jvm.Cond} {P : Jvm.Cond → Bool} (h1 : L.all (fun c => isCode c || P c) = true) (h2 : ∀ c ∈ L.filter isCode, P c = true) : L.all P = true := by
  refine List.all_eq_true.mpr fun c hc => ?_
  have h := List.all_eq_true.mp h1 c hc
  rcases Bool.eq_false_or_eq_true (isCode c) with hi | hi
  · exact h2 c (List.mem_filter.mpr ⟨hc, hi⟩)
  · simpa [hi] using h
set_option maxRecDepth 65536 in
theorem w_c0 : (Jvm.Cond.code x code maxLocals ret).before args0 about1 = true := code_word (m := ⟨1, 1⟩) (meth := k1m1) (c := k1c1) (by decide +kernel) rfl rfl rfl (by decide +kernel)
set_option maxRecDepth 65536 in
theorem w_c1 : (Jvm.Cond.code ({ cls := "com/example/runnel/runnel/runtime/ByteRange", name := "<init>", desc := "([BII)V" } : Jvm.MethodName) prog_57_method_1_code (4 : Nat) (Option.none : Option Jvm.ClassFile.FieldType)).before args0 about1 = true := code_word (m := ⟨5, 0⟩) (meth := k5m0) (c := k5c0) (by decide +kernel) rfl rfl rfl (by decide +kernel)
set_option maxRecDepth 65536 in
theorem w_c2 : (Jvm.Cond.code ({ cls := "java/io/InputStream", name := "<init>", desc := "()V" } : Jvm.MethodName) jdk_2022_method_1_code (1 : Nat) (Option.none : Option Jvm.ClassFile.FieldType)).before args0 about1 = true := code_word (m := ⟨4, 0⟩) (meth := k4m0) (c := k4c0) (by decide +kernel) rfl rfl rfl (by decide +kernel)
set_option maxRecDepth 65536 in
theorem w_c3 : (Jvm.Cond.code ({ cls := "java/lang/Object", name := "<init>", desc := "()V" } : Jvm.MethodName) object_method_1_code (1 : Nat) (Option.none : Option Jvm.ClassFile.FieldType)).before args0 about1 = true := code_word (m := ⟨0, 0⟩) (meth := k0m0) (c := k0c0) (by decide +kernel) rfl rfl rfl (by decide +kernel)
set_option maxRecDepth 65536 in
theorem w_c4 : (Jvm.Cond.code ({ cls := "com/example/runnel/runnel/runtime/ByteRange", name := "read", desc := "()I" } : Jvm.MethodName) prog_57_method_2_code (1 : Nat) (Option.some Jvm.ClassFile.FieldType.int)).before args0 about1 = true := code_word (m := ⟨5, 1⟩) (meth := k5m1) (c := k5c1) (by decide +kernel) rfl rfl rfl (by decide +kernel)
set_option maxRecDepth 65536 in
theorem w_c5 : (Jvm.Cond.code ({ cls := "com/example/runnel/runnel/runtime/ByteRange", name := "position", desc := "()I" } : Jvm.MethodName) prog_57_method_7_code (1 : Nat) (Option.some Jvm.ClassFile.FieldType.int)).before args0 about1 = true := code_word (m := ⟨5, 3⟩) (meth := k5m3) (c := k5c3) (by decide +kernel) rfl rfl rfl (by decide +kernel)
set_option maxRecDepth 65536 in
theorem w_c6 : (Jvm.Cond.code ({ cls := "com/example/runnel/runnel/runtime/ByteRangeReadPinLaw", name := "want", desc := "([III)I" } : Jvm.MethodName) method_3_code (3 : Nat) (Option.some Jvm.ClassFile.FieldType.int)).before args0 about1 = true := code_word (m := ⟨1, 2⟩) (meth := k1m2) (c := k1c2) (by decide +kernel) rfl rfl rfl (by decide +kernel)
set_option maxRecDepth 65536 in
theorem w_c7 : (Jvm.Cond.code ({ cls := "com/example/runnel/runnel/runtime/ByteRange", name := "available", desc := "()I" } : Jvm.MethodName) prog_57_method_6_code (1 : Nat) (Option.some Jvm.ClassFile.FieldType.int)).before args0 about1 = true := code_word (m := ⟨5, 2⟩) (meth := k5m2) (c := k5c2) (by decide +kernel) rfl rfl rfl (by decide +kernel)
def codes1 : List Jvm.Cond := [Jvm.Cond.code x code maxLocals ret, Jvm.Cond.code ({ cls := "com/example/runnel/runnel/runtime/ByteRange", name := "<init>", desc := "([BII)V" } : Jvm.MethodName) prog_57_method_1_code (4 : Nat) (Option.none : Option Jvm.ClassFile.FieldType), Jvm.Cond.code ({ cls := "java/io/InputStream", name := "<init>", desc := "()V" } : Jvm.MethodName) jdk_2022_method_1_code (1 : Nat) (Option.none : Option Jvm.ClassFile.FieldType), Jvm.Cond.code ({ cls := "java/lang/Object", name := "<init>", desc := "()V" } : Jvm.MethodName) object_method_1_code (1 : Nat) (Option.none : Option Jvm.ClassFile.FieldType), Jvm.Cond.code ({ cls := "com/example/runnel/runnel/runtime/ByteRange", name := "read", desc := "()I" } : Jvm.MethodName) prog_57_method_2_code (1 : Nat) (Option.some Jvm.ClassFile.FieldType.int), Jvm.Cond.code ({ cls := "com/example/runnel/runnel/runtime/ByteRange", name := "position", desc := "()I" } : Jvm.MethodName) prog_57_method_7_code (1 : Nat) (Option.some Jvm.ClassFile.FieldType.int), Jvm.Cond.code ({ cls := "com/example/runnel/runnel/runtime/ByteRangeReadPinLaw", name := "want", desc := "([III)I" } : Jvm.MethodName) method_3_code (3 : Nat) (Option.some Jvm.ClassFile.FieldType.int), Jvm.Cond.code ({ cls := "com/example/runnel/runnel/runtime/ByteRange", name := "available", desc := "()I" } : Jvm.MethodName) prog_57_method_6_code (1 : Nat) (Option.some Jvm.ClassFile.FieldType.int)]
set_option maxRecDepth 65536 in
theorem codes_eq : words1.filter isCode = codes1 := rfl
theorem w_codes : ∀ c ∈ words1.filter isCode, c.before args0 about1 = true := by
  rw [codes_eq]
  intro c hc
  simp only [codes1, List.mem_cons, List.not_mem_nil, or_false] at hc
  rcases hc with rfl | rfl | rfl | rfl | rfl | rfl | rfl | rfl
  · exact w_c0
  · exact w_c1
  · exact w_c2
  · exact w_c3
  · exact w_c4
  · exact w_c5
  · exact w_c6
  · exact w_c7
set_option maxRecDepth 65536 in
theorem w_t1 : (words1.take 24).all (fun c => isCode c || c.before args0 about1) = true := by decide +kernel
set_option maxRecDepth 65536 in
theorem w_t2 : (words1.drop 24).all (fun c => isCode c || c.before args0 about1) = true := by decide +kernel
theorem w_tables : (allAtoms (Jvm.Cond.code x code maxLocals ret :: tables_1)).before args0 about1 = true := by
  rw [allAtoms_all]
  show words1.all (fun c => c.before args0 about1) = true
  refine all_split ?_ w_codes
  rw [← List.take_append_drop 24 words1, List.all_append, w_t1, w_t2]
  rfl
set_option maxRecDepth 65536 in
theorem w_case : (Jvm.Cond.and given_1 narrow_1).before args0 about1 = true := by decide +kernel
theorem w_applies : (headSpec (Jvm.Cond.code x code maxLocals ret :: tables_1) room_1).applies x e0.platform about1 = true :=
  (Spec.applies_iff w_frames).mpr ⟨w_running, w_runnable, w_alone, w_named, w_hears, w_ripe, w_room, w_tables⟩
theorem atStart : AtStart classFile x code maxLocals ret World_1 tables_1 room_1 Calls_1 rest_1 Pre_1 launch0 p0 e0 about1 theMethod args0 below0 :=
  ⟨lists_1, trivial, launch0.admits_env _ _ _, launch0.least_env, fairChoices_fair.cas, fairChoices_fair.clock, w_frames, w_args, w_heap, w_applies, trivial, trivial, w_case⟩
end start1
theorem witness_1 : WitnessClaimed_1 := ⟨start1.p0, start1.e0, start1.about1, start1.theMethod, start1.args0, start1.below0, start1.atStart⟩
end Jvm.Pilot.@@N@@
