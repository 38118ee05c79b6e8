import JvmDerived
import JvmDerived.Pilot.@@N@@Statement
import JvmDerived.Pilot.@@N@@Code
set_option linter.unusedVariables false
set_option linter.unusedSimpArgs false
namespace Jvm.Pilot.@@N@@
open Jvm Jvm.ClassFile Sem Op Lib Jvm.Free Jvm.Stand Jvm.LawKit Jvm.RoadKit Bundle Jvm.Pilot.@@N@@.Jvm.D
/-! THE OWN LAYER (printed by wip/tools/mkown.py): Wp says: from here the body runs to its return and leaves Q. One law an instruction, each read off a law of the library. -/
abbrev Cx : Type := Program × Launch × Env × Room × State × MethodId × Array Value × List Frame × Method × Code × Nat × (Option Value → Heap → Prop)
abbrev Cx.p (X : Cx) : Program := X.1
abbrev Cx.l (X : Cx) : Launch := X.2.1
abbrev Cx.e (X : Cx) : Env := X.2.2.1
abbrev Cx.R (X : Cx) : Room := X.2.2.2.1
abbrev Cx.s (X : Cx) : State := X.2.2.2.2.1
abbrev Cx.m (X : Cx) : MethodId := X.2.2.2.2.2.1
abbrev Cx.args (X : Cx) : Array Value := X.2.2.2.2.2.2.1
abbrev Cx.below (X : Cx) : List Frame := X.2.2.2.2.2.2.2.1
abbrev Cx.meth (X : Cx) : Method := X.2.2.2.2.2.2.2.2.1
abbrev Cx.c (X : Cx) : Code := X.2.2.2.2.2.2.2.2.2.1
abbrev Cx.n0 (X : Cx) : Nat := X.2.2.2.2.2.2.2.2.2.2.1
abbrev Cx.Q (X : Cx) : Option Value → Heap → Prop := X.2.2.2.2.2.2.2.2.2.2.2
abbrev Sd (X : Cx) (T : State) (locs : List Loc) (k n : Nat) : Prop := Stand X.p X.l X.e X.R X.s X.m X.args X.below X.meth X.c T locs k n
abbrev Sp (X : Cx) (T : State) (pc : Nat) (ls : Array Slot) (st : List Value) (t : State) : Prop := Steps X.p.tables X.e X.below (T.setTop (mkF X.m pc ls st)) t
def Hand (X : Cx) (Z : State) (y : MethodName) (bytes : ByteArray) (mx : Nat) (rt : Option FieldType) (R : Room) (n0 : Nat) (Q : Option Value → Heap → Prop) : Prop :=
  X.p.tables.exec = Jvm.exec ∧ Z.Warmed39 X.s.vm ∧ X.s.vm.findClass y.cls = some X.m.cls ∧ X.c.code = bytes ∧ X.c.maxLocals = mx ∧ X.meth.sig.returnType = rt ∧ X.meth.locks = false ∧ X.R = R ∧ n0 ≤ X.s.heap.size ∧ X.meth.name = y.name ∧ X.n0 = n0 ∧ X.Q = Q
def Ct (l : Launch) (Z : State) (y : MethodName) (bytes : ByteArray) (mx : Nat) (rt : Option FieldType) (R : Room) (n0 : Nat) (ws : List Jvm.Cond) (as' : Array Value) (h : Heap) (Q : Option Value → Heap → Prop) : Prop :=
  MetFree l y (head1 (Jvm.Cond.code y bytes mx rt :: ws) R) (fun a U => a = as' ∧ Z.Warmed39 U.vm ∧ U.heap = h) (fun _ _ _ _ _ => True) (fun _ U o U' => ∃ v L, o = .returned v ∧ ((Q v U'.heap ∧ h.size ≤ U'.heap.size) ∧ Fr n0 L) ∧ FrameEnd U o U' L R.cells R.slots)
section OwnLayer
variable {X : Cx} {Z : State} {y : MethodName} {bytes : ByteArray} {mx : Nat} {rt : Option FieldType} {R : Room} {n0 : Nat} {Q : Option Value → Heap → Prop} {a0 : Array Value} {k n : Nat} {h : Heap} {pc pc' : Nat} {ls ls' : Array Slot} {st st' : List Value}
theorem Hand.sz (C : Hand X Z y bytes mx rt R n0 Q) {T : State} {locs : List Loc} (S : Sd X T locs k n) (e : T.heap = h) : n0 ≤ h.size := by
  have q : X.s.heap.size ≤ T.heap.size := S.same.2.1
  rw [← e]; exact Nat.le_trans C.2.2.2.2.2.2.2.2.1 q
theorem own_pop2L {tb : Tables} [Ours tb] {e : Env} {below : List Frame} {T target : State} {m : MethodId} {c : Code} {g : JFrame} (h : At T m c below) (hx : tb.exec = Jvm.exec) (hg : g.method = m) {x : Int64} {rest : List Value} (hd : decode c.code g.pc = .ok (.pop2, 1)) (hs : g.stack = .long x :: rest)
    (hr : Steps tb e below (T.setTop { g with pc := g.pc + 1, stack := rest }) target) : Steps tb e below (T.setTop g) target := by
  subst hg
  jvm_step h [h.top, hx, hd, hs, Value.category]
  exact hr
theorem toL (L : List Loc) : L ++ [] = L := List.append_nil L
end OwnLayer
def Wp (X : Cx) (k n : Nat) (h : Heap) (pc : Nat) (ls : Array Slot) (st : List Value) : Prop :=
  ∀ T locs, Sd X T locs k n → T.heap = h → Fr X.n0 locs →
    ∃ s₂ v L, Sp X T pc ls st s₂ ∧ s₂.status = .running ∧ Ended s₂ X.below (.returned v) ∧ X.Q v s₂.heap ∧ Fr X.n0 L ∧ X.s.WarmedH s₂.vm ∧ X.s.sameButNew ({ s₂ with vm := X.s.vm } : State) L X.R.cells X.R.slots
section OwnNarrow
variable {X : Cx} {Z : State} {y : MethodName} {bytes : ByteArray} {mx : Nat} {rt : Option FieldType} {R : Room} {n0 : Nat} {Q : Option Value → Heap → Prop} {a0 : Array Value} {k n : Nat} {h : Heap} {pc pc' : Nat} {ls ls' : Array Slot} {st st' : List Value}
theorem ct_of {l : Launch} {ws : List Jvm.Cond} {as' : Array Value} (hpl : plainFor y = true) (hn : n0 ≤ h.size) (hef : ∀ m, entryFrame m as' mx = mkF m 0 ls [])
    (hwp : ∀ X : Cx, Hand X Z y bytes mx rt R n0 Q → Wp X 0 0 h 0 ls []) : Ct l Z y bytes mx rt R n0 ws as' h Q := by
  refine MetFree.of_bodySF hpl hisR ?_
  intro p e s m args below meth c s₁ Bd hml0 hP hK
  obtain ⟨rfl, hZ, hh⟩ := hP
  have X0 : Stand p l e R s m args below meth c s₁ [] 0 0 := Stand.of_body Bd
  have e0 : s₁.heap = h := by rw [← hh, Bd.state]; rfl
  obtain ⟨s2, v, L, h1, h2, h3, h4, h5, h6, h7⟩ := hwp (p, l, e, R, s, m, args, below, meth, c, n0, Q) ⟨Bd.exec, hZ, findClass_of_methodNamed Bd.named, Bd.bytes, hml0, Bd.returns, Bd.notSynchronized, rfl, by show n0 ≤ s.heap.size; rw [hh]; exact hn, (name_of_methodNamed Bd.named Bd.method).1, rfl, rfl⟩ s₁ [] X0 e0 (Fr.nil n0)
  exact ⟨s2, _, castTop (hef m) h1, h2, h3, v, L, rfl, ⟨⟨h4, by rw [← hh]; exact h7.2.1⟩, h5⟩, ⟨_, rfl⟩, h6, h7⟩
theorem Wp.go (C : Hand X Z y bytes mx rt R n0 Q) (hs : ∀ X' : Cx, X'.l = X.l → Hand X' Z y bytes mx rt R n0 Q → ∀ T locs, Sd X' T locs k n → T.heap = h → ∀ t, Sp X' T pc' ls' st' t → Sp X' T pc ls st t) (w : Wp X k n h pc' ls' st') : Wp X k n h pc ls st := by
  intro T locs S e F
  obtain ⟨s2, v, L, a, r⟩ := w T locs S e F
  exact ⟨s2, v, L, hs X rfl C T locs S e _ a, r⟩
theorem Wp.to (C : Hand X Z y bytes mx rt R n0 Q) {k' n' : Nat} {P : Heap → List Value → Prop} (hs : ∀ X' : Cx, X'.l = X.l → Hand X' Z y bytes mx rt R n0 Q → ∀ T locs, Sd X' T locs k n → T.heap = h → ∃ T' L h' st', Sd X' T' (locs ++ L) k' n' ∧ T'.heap = h' ∧ Fr X'.n0 L ∧ h.size ≤ h'.size ∧ P h' st' ∧ ∀ t, Sp X' T' pc' ls' st' t → Sp X' T pc ls st t)
    (w : ∀ h' st', P h' st' → Wp X k' n' h' pc' ls' st') : Wp X k n h pc ls st := by
  intro T locs S e F
  obtain ⟨T', L, h', st', S', e', F', -, p, q⟩ := hs X rfl C T locs S e
  obtain ⟨s2, v, L2, a, r⟩ := w h' st' p T' _ S' e' (Fr.app F F')
  exact ⟨s2, v, L2, q _ a, r⟩
/-- what is left is known of the heap: n0 ≤ its size -/
theorem Wp.size (C : Hand X Z y bytes mx rt R n0 Q) (w : n0 ≤ h.size → Wp X k n h pc ls st) : Wp X k n h pc ls st := fun T locs S e F => w (C.sz S e) T locs S e F
theorem Wp.more {k' n' : Nat} (w : Wp X k' n' h pc ls st) (hk : k ≤ k') (hn : n ≤ n') : Wp X k n h pc ls st := fun T locs S e F => w T locs (S.more hk hn) e F
theorem w_done (C : Hand X Z y bytes mx rt R n0 Q) {v : Option Value} (hv : rt = none → v = none) (hk : k ≤ R.cells) (hn : n ≤ R.slots) (q : Q v h)
    (hs : ∀ X' : Cx, Hand X' Z y bytes mx rt R n0 Q → ∀ T locs (fs : List Frame), Sd X' T locs k n → (∀ (f : JFrame) (acts : List Action), f.method = X'.m → f.locked = none → f.entered = [] → (doReturn X'.e (T.setTop f) acts v).1 = T.setFrames fs) → Sp X' T pc ls st (T.setFrames fs)) : Wp X k n h pc ls st := by
  intro T locs S e F
  obtain ⟨fs, hr, hrun, hended, hW, hsame⟩ := S.leave (v := v) (fun z => hv (C.2.2.2.2.2.1 ▸ z)) C.2.2.2.2.2.2.1
  refine ⟨_, v, locs, hs X C T locs fs S hr, hrun, hended, ?_, F, hW, hsame.mono (by rw [C.2.2.2.2.2.2.2.1]; exact hk) (by rw [C.2.2.2.2.2.2.2.1]; exact hn)⟩
  show X.Q v T.heap
  rw [C.2.2.2.2.2.2.2.2.2.2.2, e]; exact q
end OwnNarrow

section OwnLaws
variable {X : Cx} {Z : State} {y : MethodName} {bytes : ByteArray} {mx : Nat} {rt : Option FieldType} {R : Room} {n0 : Nat} {Q : Option Value → Heap → Prop} {a0 : Array Value} {k n : Nat} {h : Heap} {pc pc' : Nat} {ls ls' : Array Slot} {st st' : List Value}
theorem w_iload (C : Hand X Z y bytes mx rt R n0 Q) {j : Nat} {v : Int32} (hd : decode bytes pc = .ok (.iload j, 2)) (hl : ls[j]? = some (.val (.int v))) (hp : pc + 2 = pc') (w : Wp X k n h pc' ls (.int v :: st)) : Wp X k n h pc ls (st) := by
  subst hp; exact Wp.go C (fun X hX C T locs S e t q => XS.iload S.here C.1 rfl (hb C.2.2.2.1 hd) hl q) w
theorem w_iloadN (C : Hand X Z y bytes mx rt R n0 Q) {j : Fin 4} {v : Int32} (hd : decode bytes pc = .ok (.iload_n j, 1)) (hl : ls[j.val]? = some (.val (.int v))) (hp : pc + 1 = pc') (w : Wp X k n h pc' ls (.int v :: st)) : Wp X k n h pc ls (st) := by
  subst hp; exact Wp.go C (fun X hX C T locs S e t q => XS.iloadN S.here C.1 rfl (hb C.2.2.2.1 hd) hl q) w
theorem w_lload (C : Hand X Z y bytes mx rt R n0 Q) {j : Nat} {v : Int64} (hd : decode bytes pc = .ok (.lload j, 2)) (hl : ls[j]? = some (.val (.long v))) (hp : pc + 2 = pc') (w : Wp X k n h pc' ls (.long v :: st)) : Wp X k n h pc ls (st) := by
  subst hp; exact Wp.go C (fun X hX C T locs S e t q => XS.lload S.here C.1 rfl (hb C.2.2.2.1 hd) hl q) w
theorem w_lloadN (C : Hand X Z y bytes mx rt R n0 Q) {j : Fin 4} {v : Int64} (hd : decode bytes pc = .ok (.lload_n j, 1)) (hl : ls[j.val]? = some (.val (.long v))) (hp : pc + 1 = pc') (w : Wp X k n h pc' ls (.long v :: st)) : Wp X k n h pc ls (st) := by
  subst hp; exact Wp.go C (fun X hX C T locs S e t q => XS.lloadN S.here C.1 rfl (hb C.2.2.2.1 hd) hl q) w
theorem w_aload (C : Hand X Z y bytes mx rt R n0 Q) {j : Nat} {v : Value} (hd : decode bytes pc = .ok (.aload j, 2)) (hl : ls[j]? = some (.val v)) (hv : v.isRef = true) (hp : pc + 2 = pc') (w : Wp X k n h pc' ls (v :: st)) : Wp X k n h pc ls (st) := by
  subst hp; exact Wp.go C (fun X hX C T locs S e t q => XS.aload S.here C.1 rfl (hb C.2.2.2.1 hd) hl hv q) w
theorem w_aloadN (C : Hand X Z y bytes mx rt R n0 Q) {j : Fin 4} {v : Value} (hd : decode bytes pc = .ok (.aload_n j, 1)) (hl : ls[j.val]? = some (.val v)) (hv : v.isRef = true) (hp : pc + 1 = pc') (w : Wp X k n h pc' ls (v :: st)) : Wp X k n h pc ls (st) := by
  subst hp; exact Wp.go C (fun X hX C T locs S e t q => XS.aloadN S.here C.1 rfl (hb C.2.2.2.1 hd) hl hv q) w
theorem w_iconst (C : Hand X Z y bytes mx rt R n0 Q) {i : Int} {z : Int32} (hd : decode bytes pc = .ok (.iconst i, 1)) (hz : Int32.ofInt i = z) (hp : pc + 1 = pc') (w : Wp X k n h pc' ls (.int z :: st)) : Wp X k n h pc ls st := by
  subst hp hz; exact Wp.go C (fun X hX C T locs S e t q => XS.iconst S.here C.1 rfl (hb C.2.2.2.1 hd) q) w
theorem w_bipush (C : Hand X Z y bytes mx rt R n0 Q) {i : Int} {z : Int32} (hd : decode bytes pc = .ok (.bipush i, 2)) (hz : (Int8.ofInt i).toInt32 = z) (hp : pc + 2 = pc') (w : Wp X k n h pc' ls (.int z :: st)) : Wp X k n h pc ls st := by
  subst hp hz; exact Wp.go C (fun X hX C T locs S e t q => XS.bipush S.here C.1 rfl (hb C.2.2.2.1 hd) q) w
theorem w_sipush (C : Hand X Z y bytes mx rt R n0 Q) {i : Int} {z : Int32} (hd : decode bytes pc = .ok (.sipush i, 3)) (hz : (Int16.ofInt i).toInt32 = z) (hp : pc + 3 = pc') (w : Wp X k n h pc' ls (.int z :: st)) : Wp X k n h pc ls st := by
  subst hp hz; exact Wp.go C (fun X hX C T locs S e t q => XS.sipush S.here C.1 rfl (hb C.2.2.2.1 hd) q) w
theorem w_lconst (C : Hand X Z y bytes mx rt R n0 Q) {i : Fin 2} {z : Int64} (hd : decode bytes pc = .ok (.lconst i, 1)) (hz : Int64.ofNat i.val = z) (hp : pc + 1 = pc') (w : Wp X k n h pc' ls (.long z :: st)) : Wp X k n h pc ls st := by
  subst hp hz; exact Wp.go C (fun X hX C T locs S e t q => XS.lconst S.here C.1 rfl (hb C.2.2.2.1 hd) q) w
theorem w_anull (C : Hand X Z y bytes mx rt R n0 Q) (hd : decode bytes pc = .ok (.aconst_null, 1)) (hp : pc + 1 = pc') (w : Wp X k n h pc' ls (.null :: st)) : Wp X k n h pc ls (st) := by
  subst hp; exact Wp.go C (fun X hX C T locs S e t q => XS.aconstNull S.here C.1 rfl (hb C.2.2.2.1 hd) q) w
theorem w_ldc (C : Hand X Z y bytes mx rt R n0 Q) {i : Nat} {z : Int32} (hw : (Jvm.Cond.constant y.cls i z).before a0 Z = true) (hd : decode bytes pc = .ok (.ldc i, 2)) (hp : pc + 2 = pc') (w : Wp X k n h pc' ls (.int z :: st)) : Wp X k n h pc ls st := by
  subst hp; exact Wp.go C (fun X hX C T locs S e t q => S.ldcInt C.1 C.2.2.1 (mvT C.2.1 hw) (g := mkF X.m pc ls st) rfl (hb C.2.2.2.1 hd) t q) w
theorem w_ldc2 (C : Hand X Z y bytes mx rt R n0 Q) {i : Nat} {z : Int64} (hw : (Jvm.Cond.constantLong y.cls i z).before a0 Z = true) (hd : decode bytes pc = .ok (.ldc2_w i, 3)) (hp : pc + 3 = pc') (w : Wp X k n h pc' ls (.long z :: st)) : Wp X k n h pc ls st := by
  subst hp; exact Wp.go C (fun X hX C T locs S e t q => S.ldc2Long C.1 C.2.2.1 (mvT C.2.1 hw) (g := mkF X.m pc ls st) rfl (hb C.2.2.2.1 hd) t q) w
theorem w_istore (C : Hand X Z y bytes mx rt R n0 Q) {j : Nat} {x : Int32} (hd : decode bytes pc = .ok (.istore j, 2)) (hl : storeLocals ls j (.int x) = some ls') (hp : pc + 2 = pc') (w : Wp X k n h pc' ls' st) : Wp X k n h pc ls (.int x :: st) := by
  subst hp; exact Wp.go C (fun X hX C T locs S e t q => XS.istore S.here C.1 rfl (hb C.2.2.2.1 hd) rfl hl q) w
theorem w_istoreN (C : Hand X Z y bytes mx rt R n0 Q) {j : Fin 4} {x : Int32} (hd : decode bytes pc = .ok (.istore_n j, 1)) (hl : storeLocals ls j.val (.int x) = some ls') (hp : pc + 1 = pc') (w : Wp X k n h pc' ls' st) : Wp X k n h pc ls (.int x :: st) := by
  subst hp; exact Wp.go C (fun X hX C T locs S e t q => XS.istoreN S.here C.1 rfl (hb C.2.2.2.1 hd) rfl hl q) w
theorem w_lstore (C : Hand X Z y bytes mx rt R n0 Q) {j : Nat} {x : Int64} (hd : decode bytes pc = .ok (.lstore j, 2)) (hl : storeLocals ls j (.long x) = some ls') (hp : pc + 2 = pc') (w : Wp X k n h pc' ls' st) : Wp X k n h pc ls (.long x :: st) := by
  subst hp; exact Wp.go C (fun X hX C T locs S e t q => XS.lstore S.here C.1 rfl (hb C.2.2.2.1 hd) rfl hl q) w
theorem w_lstoreN (C : Hand X Z y bytes mx rt R n0 Q) {j : Fin 4} {x : Int64} (hd : decode bytes pc = .ok (.lstore_n j, 1)) (hl : storeLocals ls j.val (.long x) = some ls') (hp : pc + 1 = pc') (w : Wp X k n h pc' ls' st) : Wp X k n h pc ls (.long x :: st) := by
  subst hp; exact Wp.go C (fun X hX C T locs S e t q => XS.lstoreN S.here C.1 rfl (hb C.2.2.2.1 hd) rfl hl q) w
theorem w_astore (C : Hand X Z y bytes mx rt R n0 Q) {j : Nat} {x : Value} (hd : decode bytes pc = .ok (.astore j, 2)) (hv : x.isRef = true) (hl : storeLocals ls j (x) = some ls') (hp : pc + 2 = pc') (w : Wp X k n h pc' ls' st) : Wp X k n h pc ls (x :: st) := by
  subst hp; exact Wp.go C (fun X hX C T locs S e t q => XS.astore S.here C.1 rfl (hb C.2.2.2.1 hd) rfl hv hl q) w
theorem w_astoreN (C : Hand X Z y bytes mx rt R n0 Q) {j : Fin 4} {x : Value} (hd : decode bytes pc = .ok (.astore_n j, 1)) (hv : x.isRef = true) (hl : storeLocals ls j.val (x) = some ls') (hp : pc + 1 = pc') (w : Wp X k n h pc' ls' st) : Wp X k n h pc ls (x :: st) := by
  subst hp; exact Wp.go C (fun X hX C T locs S e t q => XS.astoreN S.here C.1 rfl (hb C.2.2.2.1 hd) rfl hv hl q) w
theorem w_iinc (C : Hand X Z y bytes mx rt R n0 Q) {j : Nat} {cst : Int} {x z : Int32} (hd : decode bytes pc = .ok (.iinc j cst, 3)) (hl : ls[j]? = some (.val (.int x))) (hz : Int32.ofInt cst = z) (hl' : storeLocals ls j (.int (x + z)) = some ls') (hp : pc + 3 = pc') (w : Wp X k n h pc' ls' st) : Wp X k n h pc ls st := by
  subst hp hz; exact Wp.go C (fun X hX C T locs S e t q => XS.iinc S.here C.1 rfl (hb C.2.2.2.1 hd) hl hl' q) w
theorem w_dup (C : Hand X Z y bytes mx rt R n0 Q) {x : Value} (hd : decode bytes pc = .ok (.dup, 1)) (hc : x.category = 1) (hp : pc + 1 = pc') (w : Wp X k n h pc' ls (x :: x :: st)) : Wp X k n h pc ls (x :: st) := by
  subst hp; exact Wp.go C (fun X hX C T locs S e t q => XS.dup S.here C.1 rfl (hb C.2.2.2.1 hd) rfl hc q) w
theorem w_dup2 (C : Hand X Z y bytes mx rt R n0 Q) {x z : Value} (hd : decode bytes pc = .ok (.dup2, 1)) (hc : x.category = 1) (hc' : z.category = 1) (hp : pc + 1 = pc') (w : Wp X k n h pc' ls (x :: z :: x :: z :: st)) : Wp X k n h pc ls (x :: z :: st) := by
  subst hp; exact Wp.go C (fun X hX C T locs S e t q => XT.dup2 S.here C.1 rfl (hb C.2.2.2.1 hd) rfl hc hc' q) w
theorem w_dupX1 (C : Hand X Z y bytes mx rt R n0 Q) {x z : Value} (hd : decode bytes pc = .ok (.dup_x1, 1)) (hc : x.category = 1) (hc' : z.category = 1) (hp : pc + 1 = pc') (w : Wp X k n h pc' ls (x :: z :: x :: st)) : Wp X k n h pc ls (x :: z :: st) := by
  subst hp; exact Wp.go C (fun X hX C T locs S e t q => XS.dupX1 S.here C.1 rfl (hb C.2.2.2.1 hd) rfl hc hc' q) w
theorem w_dup2L (C : Hand X Z y bytes mx rt R n0 Q) {x : Int64} (hd : decode bytes pc = .ok (.dup2, 1)) (hp : pc + 1 = pc') (w : Wp X k n h pc' ls (.long x :: .long x :: st)) : Wp X k n h pc ls (.long x :: st) := by
  subst hp; exact Wp.go C (fun X hX C T locs S e t q => XT.dup2L S.here C.1 rfl (hb C.2.2.2.1 hd) rfl q) w
theorem w_pop2L (C : Hand X Z y bytes mx rt R n0 Q) {x : Int64} (hd : decode bytes pc = .ok (.pop2, 1)) (hp : pc + 1 = pc') (w : Wp X k n h pc' ls (st)) : Wp X k n h pc ls (.long x :: st) := by
  subst hp; exact Wp.go C (fun X hX C T locs S e t q => own_pop2L S.here C.1 rfl (hb C.2.2.2.1 hd) rfl q) w
theorem w_pop (C : Hand X Z y bytes mx rt R n0 Q) {x : Value} (hd : decode bytes pc = .ok (.pop, 1)) (hc : x.category = 1) (hp : pc + 1 = pc') (w : Wp X k n h pc' ls (st)) : Wp X k n h pc ls (x :: st) := by
  subst hp; exact Wp.go C (fun X hX C T locs S e t q => XS.pop S.here C.1 rfl (hb C.2.2.2.1 hd) rfl hc q) w
theorem w_iadd (C : Hand X Z y bytes mx rt R n0 Q) {x z : Int32} (hd : decode bytes pc = .ok (.iadd, 1)) (hp : pc + 1 = pc') (w : Wp X k n h pc' ls (.int (x + z) :: st)) : Wp X k n h pc ls (.int z :: .int x :: st) := by
  subst hp; exact Wp.go C (fun X hX C T locs S e t q => XS.iadd S.here C.1 rfl (hb C.2.2.2.1 hd) rfl q) w
theorem w_isub (C : Hand X Z y bytes mx rt R n0 Q) {x z : Int32} (hd : decode bytes pc = .ok (.isub, 1)) (hp : pc + 1 = pc') (w : Wp X k n h pc' ls (.int (x - z) :: st)) : Wp X k n h pc ls (.int z :: .int x :: st) := by
  subst hp; exact Wp.go C (fun X hX C T locs S e t q => XS.isub S.here C.1 rfl (hb C.2.2.2.1 hd) rfl q) w
theorem w_imul (C : Hand X Z y bytes mx rt R n0 Q) {x z : Int32} (hd : decode bytes pc = .ok (.imul, 1)) (hp : pc + 1 = pc') (w : Wp X k n h pc' ls (.int (x * z) :: st)) : Wp X k n h pc ls (.int z :: .int x :: st) := by
  subst hp; exact Wp.go C (fun X hX C T locs S e t q => XS.imul S.here C.1 rfl (hb C.2.2.2.1 hd) rfl q) w
theorem w_iand (C : Hand X Z y bytes mx rt R n0 Q) {x z : Int32} (hd : decode bytes pc = .ok (.iand, 1)) (hp : pc + 1 = pc') (w : Wp X k n h pc' ls (.int (x &&& z) :: st)) : Wp X k n h pc ls (.int z :: .int x :: st) := by
  subst hp; exact Wp.go C (fun X hX C T locs S e t q => XS.iand S.here C.1 rfl (hb C.2.2.2.1 hd) rfl q) w
theorem w_ior (C : Hand X Z y bytes mx rt R n0 Q) {x z : Int32} (hd : decode bytes pc = .ok (.ior, 1)) (hp : pc + 1 = pc') (w : Wp X k n h pc' ls (.int (x ||| z) :: st)) : Wp X k n h pc ls (.int z :: .int x :: st) := by
  subst hp; exact Wp.go C (fun X hX C T locs S e t q => XS.ior S.here C.1 rfl (hb C.2.2.2.1 hd) rfl q) w
theorem w_ixor (C : Hand X Z y bytes mx rt R n0 Q) {x z : Int32} (hd : decode bytes pc = .ok (.ixor, 1)) (hp : pc + 1 = pc') (w : Wp X k n h pc' ls (.int (x ^^^ z) :: st)) : Wp X k n h pc ls (.int z :: .int x :: st) := by
  subst hp; exact Wp.go C (fun X hX C T locs S e t q => XS.ixor S.here C.1 rfl (hb C.2.2.2.1 hd) rfl q) w
theorem w_ishl (C : Hand X Z y bytes mx rt R n0 Q) {x z : Int32} (hd : decode bytes pc = .ok (.ishl, 1)) (hp : pc + 1 = pc') (w : Wp X k n h pc' ls (.int (x <<< (z &&& 31)) :: st)) : Wp X k n h pc ls (.int z :: .int x :: st) := by
  subst hp; exact Wp.go C (fun X hX C T locs S e t q => XS.ishl S.here C.1 rfl (hb C.2.2.2.1 hd) rfl q) w
theorem w_ishr (C : Hand X Z y bytes mx rt R n0 Q) {x z : Int32} (hd : decode bytes pc = .ok (.ishr, 1)) (hp : pc + 1 = pc') (w : Wp X k n h pc' ls (.int (x >>> (z &&& 31)) :: st)) : Wp X k n h pc ls (.int z :: .int x :: st) := by
  subst hp; exact Wp.go C (fun X hX C T locs S e t q => XS.ishr S.here C.1 rfl (hb C.2.2.2.1 hd) rfl q) w
theorem w_iushr (C : Hand X Z y bytes mx rt R n0 Q) {x z : Int32} (hd : decode bytes pc = .ok (.iushr, 1)) (hp : pc + 1 = pc') (w : Wp X k n h pc' ls (.int ((x.toUInt32 >>> (z &&& 31).toUInt32).toInt32) :: st)) : Wp X k n h pc ls (.int z :: .int x :: st) := by
  subst hp; exact Wp.go C (fun X hX C T locs S e t q => XS.iushr S.here C.1 rfl (hb C.2.2.2.1 hd) rfl q) w
theorem w_ladd (C : Hand X Z y bytes mx rt R n0 Q) {x z : Int64} (hd : decode bytes pc = .ok (.ladd, 1)) (hp : pc + 1 = pc') (w : Wp X k n h pc' ls (.long (x + z) :: st)) : Wp X k n h pc ls (.long z :: .long x :: st) := by
  subst hp; exact Wp.go C (fun X hX C T locs S e t q => XS.ladd S.here C.1 rfl (hb C.2.2.2.1 hd) rfl q) w
theorem w_lsub (C : Hand X Z y bytes mx rt R n0 Q) {x z : Int64} (hd : decode bytes pc = .ok (.lsub, 1)) (hp : pc + 1 = pc') (w : Wp X k n h pc' ls (.long (x - z) :: st)) : Wp X k n h pc ls (.long z :: .long x :: st) := by
  subst hp; exact Wp.go C (fun X hX C T locs S e t q => XS.lsub S.here C.1 rfl (hb C.2.2.2.1 hd) rfl q) w
theorem w_lmul (C : Hand X Z y bytes mx rt R n0 Q) {x z : Int64} (hd : decode bytes pc = .ok (.lmul, 1)) (hp : pc + 1 = pc') (w : Wp X k n h pc' ls (.long (x * z) :: st)) : Wp X k n h pc ls (.long z :: .long x :: st) := by
  subst hp; exact Wp.go C (fun X hX C T locs S e t q => XS.lmul S.here C.1 rfl (hb C.2.2.2.1 hd) rfl q) w
theorem w_land (C : Hand X Z y bytes mx rt R n0 Q) {x z : Int64} (hd : decode bytes pc = .ok (.land, 1)) (hp : pc + 1 = pc') (w : Wp X k n h pc' ls (.long (x &&& z) :: st)) : Wp X k n h pc ls (.long z :: .long x :: st) := by
  subst hp; exact Wp.go C (fun X hX C T locs S e t q => XS.land S.here C.1 rfl (hb C.2.2.2.1 hd) rfl q) w
theorem w_lor (C : Hand X Z y bytes mx rt R n0 Q) {x z : Int64} (hd : decode bytes pc = .ok (.lor, 1)) (hp : pc + 1 = pc') (w : Wp X k n h pc' ls (.long (x ||| z) :: st)) : Wp X k n h pc ls (.long z :: .long x :: st) := by
  subst hp; exact Wp.go C (fun X hX C T locs S e t q => XS.lor S.here C.1 rfl (hb C.2.2.2.1 hd) rfl q) w
theorem w_lxor (C : Hand X Z y bytes mx rt R n0 Q) {x z : Int64} (hd : decode bytes pc = .ok (.lxor, 1)) (hp : pc + 1 = pc') (w : Wp X k n h pc' ls (.long (x ^^^ z) :: st)) : Wp X k n h pc ls (.long z :: .long x :: st) := by
  subst hp; exact Wp.go C (fun X hX C T locs S e t q => XS.lxor S.here C.1 rfl (hb C.2.2.2.1 hd) rfl q) w
theorem w_lshl (C : Hand X Z y bytes mx rt R n0 Q) {x : Int64} {z : Int32} (hd : decode bytes pc = .ok (.lshl, 1)) (hp : pc + 1 = pc') (w : Wp X k n h pc' ls (.long (x <<< (z &&& 0x3f).toInt64) :: st)) : Wp X k n h pc ls (.int z :: .long x :: st) := by
  subst hp; exact Wp.go C (fun X hX C T locs S e t q => XS.lshl S.here C.1 rfl (hb C.2.2.2.1 hd) rfl q) w
theorem w_lshr (C : Hand X Z y bytes mx rt R n0 Q) {x : Int64} {z : Int32} (hd : decode bytes pc = .ok (.lshr, 1)) (hp : pc + 1 = pc') (w : Wp X k n h pc' ls (.long (x >>> (z &&& 0x3f).toInt64) :: st)) : Wp X k n h pc ls (.int z :: .long x :: st) := by
  subst hp; exact Wp.go C (fun X hX C T locs S e t q => XS.lshr S.here C.1 rfl (hb C.2.2.2.1 hd) rfl q) w
theorem w_lushr (C : Hand X Z y bytes mx rt R n0 Q) {x : Int64} {z : Int32} (hd : decode bytes pc = .ok (.lushr, 1)) (hp : pc + 1 = pc') (w : Wp X k n h pc' ls (.long ((x.toUInt64 >>> (z &&& 0x3f).toInt64.toUInt64).toInt64) :: st)) : Wp X k n h pc ls (.int z :: .long x :: st) := by
  subst hp; exact Wp.go C (fun X hX C T locs S e t q => XS.lushr S.here C.1 rfl (hb C.2.2.2.1 hd) rfl q) w
theorem w_idiv (C : Hand X Z y bytes mx rt R n0 Q) {x z : Int32} (hd : decode bytes pc = .ok (.idiv, 1)) (hz : z ≠ 0) (hp : pc + 1 = pc') (w : Wp X k n h pc' ls (.int (x / z) :: st)) : Wp X k n h pc ls (.int z :: .int x :: st) := by
  subst hp; exact Wp.go C (fun X hX C T locs S e t q => XS.idiv S.here C.1 rfl (hb C.2.2.2.1 hd) rfl hz q) w
theorem w_irem (C : Hand X Z y bytes mx rt R n0 Q) {x z : Int32} (hd : decode bytes pc = .ok (.irem, 1)) (hz : z ≠ 0) (hp : pc + 1 = pc') (w : Wp X k n h pc' ls (.int (x % z) :: st)) : Wp X k n h pc ls (.int z :: .int x :: st) := by
  subst hp; exact Wp.go C (fun X hX C T locs S e t q => iremM S C.1 rfl (hb C.2.2.2.1 hd) rfl hz q) w
theorem w_ineg (C : Hand X Z y bytes mx rt R n0 Q) {x : Int32} (hd : decode bytes pc = .ok (.ineg, 1)) (hp : pc + 1 = pc') (w : Wp X k n h pc' ls (.int (-x) :: st)) : Wp X k n h pc ls (.int x :: st) := by
  subst hp; exact Wp.go C (fun X hX C T locs S e t q => XS.ineg S.here C.1 rfl (hb C.2.2.2.1 hd) rfl q) w
theorem w_lneg (C : Hand X Z y bytes mx rt R n0 Q) {x : Int64} (hd : decode bytes pc = .ok (.lneg, 1)) (hp : pc + 1 = pc') (w : Wp X k n h pc' ls (.long (-x) :: st)) : Wp X k n h pc ls (.long x :: st) := by
  subst hp; exact Wp.go C (fun X hX C T locs S e t q => XS.lneg S.here C.1 rfl (hb C.2.2.2.1 hd) rfl q) w
theorem w_i2l (C : Hand X Z y bytes mx rt R n0 Q) {x : Int32} (hd : decode bytes pc = .ok (.i2l, 1)) (hp : pc + 1 = pc') (w : Wp X k n h pc' ls (.long x.toInt64 :: st)) : Wp X k n h pc ls (.int x :: st) := by
  subst hp; exact Wp.go C (fun X hX C T locs S e t q => XS.i2l S.here C.1 rfl (hb C.2.2.2.1 hd) rfl q) w
theorem w_l2i (C : Hand X Z y bytes mx rt R n0 Q) {x : Int64} (hd : decode bytes pc = .ok (.l2i, 1)) (hp : pc + 1 = pc') (w : Wp X k n h pc' ls (.int x.toInt32 :: st)) : Wp X k n h pc ls (.long x :: st) := by
  subst hp; exact Wp.go C (fun X hX C T locs S e t q => XS.l2i S.here C.1 rfl (hb C.2.2.2.1 hd) rfl q) w
theorem w_i2b (C : Hand X Z y bytes mx rt R n0 Q) {x : Int32} (hd : decode bytes pc = .ok (.i2b, 1)) (hp : pc + 1 = pc') (w : Wp X k n h pc' ls (.int x.toInt8.toInt32 :: st)) : Wp X k n h pc ls (.int x :: st) := by
  subst hp; exact Wp.go C (fun X hX C T locs S e t q => XS.i2b S.here C.1 rfl (hb C.2.2.2.1 hd) rfl q) w
theorem w_i2s (C : Hand X Z y bytes mx rt R n0 Q) {x : Int32} (hd : decode bytes pc = .ok (.i2s, 1)) (hp : pc + 1 = pc') (w : Wp X k n h pc' ls (.int x.toInt16.toInt32 :: st)) : Wp X k n h pc ls (.int x :: st) := by
  subst hp; exact Wp.go C (fun X hX C T locs S e t q => XS.i2s S.here C.1 rfl (hb C.2.2.2.1 hd) rfl q) w
theorem w_i2c (C : Hand X Z y bytes mx rt R n0 Q) {x : Int32} (hd : decode bytes pc = .ok (.i2c, 1)) (hp : pc + 1 = pc') (w : Wp X k n h pc' ls (.int x.toUInt32.toUInt16.toUInt32.toInt32 :: st)) : Wp X k n h pc ls (.int x :: st) := by
  subst hp; exact Wp.go C (fun X hX C T locs S e t q => XS.i2c S.here C.1 rfl (hb C.2.2.2.1 hd) rfl q) w
theorem w_lcmp (C : Hand X Z y bytes mx rt R n0 Q) {x z : Int64} (hd : decode bytes pc = .ok (.lcmp, 1)) (hp : pc + 1 = pc') (w : Wp X k n h pc' ls (.int (lcmpW x z) :: st)) : Wp X k n h pc ls (.long z :: .long x :: st) := by
  subst hp; exact Wp.go C (fun X hX C T locs S e t q => XS.lcmp S.here C.1 rfl (hb C.2.2.2.1 hd) rfl q) w
theorem w_goto (C : Hand X Z y bytes mx rt R n0 Q) {o : Int} (hd : decode bytes pc = .ok (.goto o, 3)) (ho : 0 ≤ (pc : Int) + o) (hp : ((pc : Int) + o).toNat = pc') (w : Wp X k n h pc' ls st) : Wp X k n h pc ls st := by
  exact Wp.go C (fun X hX C T locs S e t q => XS.goto S.here C.1 rfl (pc0 := pc) rfl (hb C.2.2.2.1 hd) ho hp q) w
theorem w_icmp_eq (C : Hand X Z y bytes mx rt R n0 Q) {o : Int} {x z : Int32} {pn : Nat} (hd : decode bytes pc = .ok (.if_icmp .eq o, 3)) (ho : 0 ≤ (pc : Int) + o) (hp : ((pc : Int) + o).toNat = pc') (hn : pc + 3 = pn) (wy : x = z → Wp X k n h pc' ls st) (wn : ¬ x = z → Wp X k n h pn ls st) : Wp X k n h pc ls (.int z :: .int x :: st) := by
  subst hn
  by_cases q : x = z
  · exact Wp.go C (fun X hX C T locs S e t r => XS.icmpYes S.here C.1 rfl (pc0 := pc) rfl (hb C.2.2.2.1 hd) rfl (teq q).1 ho hp r) (wy q)
  · exact Wp.go C (fun X hX C T locs S e t r => XS.icmpNo S.here C.1 rfl (hb C.2.2.2.1 hd) rfl (feq q).1 r) (wn (by first | exact q | exact Decidable.not_not.mp q))
theorem w_if_eq (C : Hand X Z y bytes mx rt R n0 Q) {o : Int} {x : Int32} {pn : Nat} (hd : decode bytes pc = .ok (.ifCond .eq o, 3)) (ho : 0 ≤ (pc : Int) + o) (hp : ((pc : Int) + o).toNat = pc') (hn : pc + 3 = pn) (wy : x = (0 : Int32) → Wp X k n h pc' ls st) (wn : ¬ x = (0 : Int32) → Wp X k n h pn ls st) : Wp X k n h pc ls (.int x :: st) := by
  subst hn
  by_cases q : x = (0 : Int32)
  · exact Wp.go C (fun X hX C T locs S e t r => XS.ifYes S.here C.1 rfl (pc0 := pc) rfl (hb C.2.2.2.1 hd) rfl ((if0 _ _).trans (teq q).1) ho hp r) (wy q)
  · exact Wp.go C (fun X hX C T locs S e t r => XS.ifNo S.here C.1 rfl (hb C.2.2.2.1 hd) rfl ((if0 _ _).trans (feq q).1) r) (wn (by first | exact q | exact Decidable.not_not.mp q))
theorem w_icmp_ne (C : Hand X Z y bytes mx rt R n0 Q) {o : Int} {x z : Int32} {pn : Nat} (hd : decode bytes pc = .ok (.if_icmp .ne o, 3)) (ho : 0 ≤ (pc : Int) + o) (hp : ((pc : Int) + o).toNat = pc') (hn : pc + 3 = pn) (wy : ¬ x = z → Wp X k n h pc' ls st) (wn : x = z → Wp X k n h pn ls st) : Wp X k n h pc ls (.int z :: .int x :: st) := by
  subst hn
  by_cases q : ¬ x = z
  · exact Wp.go C (fun X hX C T locs S e t r => XS.icmpYes S.here C.1 rfl (pc0 := pc) rfl (hb C.2.2.2.1 hd) rfl (feq q).2 ho hp r) (wy q)
  · exact Wp.go C (fun X hX C T locs S e t r => XS.icmpNo S.here C.1 rfl (hb C.2.2.2.1 hd) rfl (teq (Decidable.not_not.mp q)).2 r) (wn (by first | exact q | exact Decidable.not_not.mp q))
theorem w_if_ne (C : Hand X Z y bytes mx rt R n0 Q) {o : Int} {x : Int32} {pn : Nat} (hd : decode bytes pc = .ok (.ifCond .ne o, 3)) (ho : 0 ≤ (pc : Int) + o) (hp : ((pc : Int) + o).toNat = pc') (hn : pc + 3 = pn) (wy : ¬ x = (0 : Int32) → Wp X k n h pc' ls st) (wn : x = (0 : Int32) → Wp X k n h pn ls st) : Wp X k n h pc ls (.int x :: st) := by
  subst hn
  by_cases q : ¬ x = (0 : Int32)
  · exact Wp.go C (fun X hX C T locs S e t r => XS.ifYes S.here C.1 rfl (pc0 := pc) rfl (hb C.2.2.2.1 hd) rfl ((if0 _ _).trans (feq q).2) ho hp r) (wy q)
  · exact Wp.go C (fun X hX C T locs S e t r => XS.ifNo S.here C.1 rfl (hb C.2.2.2.1 hd) rfl ((if0 _ _).trans (teq (Decidable.not_not.mp q)).2) r) (wn (by first | exact q | exact Decidable.not_not.mp q))
theorem w_icmp_lt (C : Hand X Z y bytes mx rt R n0 Q) {o : Int} {x z : Int32} {pn : Nat} (hd : decode bytes pc = .ok (.if_icmp .lt o, 3)) (ho : 0 ≤ (pc : Int) + o) (hp : ((pc : Int) + o).toNat = pc') (hn : pc + 3 = pn) (wy : x < z → Wp X k n h pc' ls st) (wn : ¬ x < z → Wp X k n h pn ls st) : Wp X k n h pc ls (.int z :: .int x :: st) := by
  subst hn
  by_cases q : x < z
  · exact Wp.go C (fun X hX C T locs S e t r => XS.icmpYes S.here C.1 rfl (pc0 := pc) rfl (hb C.2.2.2.1 hd) rfl (tlt q).1 ho hp r) (wy q)
  · exact Wp.go C (fun X hX C T locs S e t r => XS.icmpNo S.here C.1 rfl (hb C.2.2.2.1 hd) rfl (flt q).1 r) (wn (by first | exact q | exact Decidable.not_not.mp q))
theorem w_if_lt (C : Hand X Z y bytes mx rt R n0 Q) {o : Int} {x : Int32} {pn : Nat} (hd : decode bytes pc = .ok (.ifCond .lt o, 3)) (ho : 0 ≤ (pc : Int) + o) (hp : ((pc : Int) + o).toNat = pc') (hn : pc + 3 = pn) (wy : x < (0 : Int32) → Wp X k n h pc' ls st) (wn : ¬ x < (0 : Int32) → Wp X k n h pn ls st) : Wp X k n h pc ls (.int x :: st) := by
  subst hn
  by_cases q : x < (0 : Int32)
  · exact Wp.go C (fun X hX C T locs S e t r => XS.ifYes S.here C.1 rfl (pc0 := pc) rfl (hb C.2.2.2.1 hd) rfl ((if0 _ _).trans (tlt q).1) ho hp r) (wy q)
  · exact Wp.go C (fun X hX C T locs S e t r => XS.ifNo S.here C.1 rfl (hb C.2.2.2.1 hd) rfl ((if0 _ _).trans (flt q).1) r) (wn (by first | exact q | exact Decidable.not_not.mp q))
theorem w_icmp_ge (C : Hand X Z y bytes mx rt R n0 Q) {o : Int} {x z : Int32} {pn : Nat} (hd : decode bytes pc = .ok (.if_icmp .ge o, 3)) (ho : 0 ≤ (pc : Int) + o) (hp : ((pc : Int) + o).toNat = pc') (hn : pc + 3 = pn) (wy : ¬ x < z → Wp X k n h pc' ls st) (wn : x < z → Wp X k n h pn ls st) : Wp X k n h pc ls (.int z :: .int x :: st) := by
  subst hn
  by_cases q : ¬ x < z
  · exact Wp.go C (fun X hX C T locs S e t r => XS.icmpYes S.here C.1 rfl (pc0 := pc) rfl (hb C.2.2.2.1 hd) rfl (flt q).2.1 ho hp r) (wy q)
  · exact Wp.go C (fun X hX C T locs S e t r => XS.icmpNo S.here C.1 rfl (hb C.2.2.2.1 hd) rfl (tlt (Decidable.not_not.mp q)).2.1 r) (wn (by first | exact q | exact Decidable.not_not.mp q))
theorem w_if_ge (C : Hand X Z y bytes mx rt R n0 Q) {o : Int} {x : Int32} {pn : Nat} (hd : decode bytes pc = .ok (.ifCond .ge o, 3)) (ho : 0 ≤ (pc : Int) + o) (hp : ((pc : Int) + o).toNat = pc') (hn : pc + 3 = pn) (wy : ¬ x < (0 : Int32) → Wp X k n h pc' ls st) (wn : x < (0 : Int32) → Wp X k n h pn ls st) : Wp X k n h pc ls (.int x :: st) := by
  subst hn
  by_cases q : ¬ x < (0 : Int32)
  · exact Wp.go C (fun X hX C T locs S e t r => XS.ifYes S.here C.1 rfl (pc0 := pc) rfl (hb C.2.2.2.1 hd) rfl ((if0 _ _).trans (flt q).2.1) ho hp r) (wy q)
  · exact Wp.go C (fun X hX C T locs S e t r => XS.ifNo S.here C.1 rfl (hb C.2.2.2.1 hd) rfl ((if0 _ _).trans (tlt (Decidable.not_not.mp q)).2.1) r) (wn (by first | exact q | exact Decidable.not_not.mp q))
theorem w_icmp_gt (C : Hand X Z y bytes mx rt R n0 Q) {o : Int} {x z : Int32} {pn : Nat} (hd : decode bytes pc = .ok (.if_icmp .gt o, 3)) (ho : 0 ≤ (pc : Int) + o) (hp : ((pc : Int) + o).toNat = pc') (hn : pc + 3 = pn) (wy : z < x → Wp X k n h pc' ls st) (wn : ¬ z < x → Wp X k n h pn ls st) : Wp X k n h pc ls (.int z :: .int x :: st) := by
  subst hn
  by_cases q : z < x
  · exact Wp.go C (fun X hX C T locs S e t r => XS.icmpYes S.here C.1 rfl (pc0 := pc) rfl (hb C.2.2.2.1 hd) rfl (tlt q).2.2.1 ho hp r) (wy q)
  · exact Wp.go C (fun X hX C T locs S e t r => XS.icmpNo S.here C.1 rfl (hb C.2.2.2.1 hd) rfl (flt q).2.2.1 r) (wn (by first | exact q | exact Decidable.not_not.mp q))
theorem w_if_gt (C : Hand X Z y bytes mx rt R n0 Q) {o : Int} {x : Int32} {pn : Nat} (hd : decode bytes pc = .ok (.ifCond .gt o, 3)) (ho : 0 ≤ (pc : Int) + o) (hp : ((pc : Int) + o).toNat = pc') (hn : pc + 3 = pn) (wy : (0 : Int32) < x → Wp X k n h pc' ls st) (wn : ¬ (0 : Int32) < x → Wp X k n h pn ls st) : Wp X k n h pc ls (.int x :: st) := by
  subst hn
  by_cases q : (0 : Int32) < x
  · exact Wp.go C (fun X hX C T locs S e t r => XS.ifYes S.here C.1 rfl (pc0 := pc) rfl (hb C.2.2.2.1 hd) rfl ((if0 _ _).trans (tlt q).2.2.1) ho hp r) (wy q)
  · exact Wp.go C (fun X hX C T locs S e t r => XS.ifNo S.here C.1 rfl (hb C.2.2.2.1 hd) rfl ((if0 _ _).trans (flt q).2.2.1) r) (wn (by first | exact q | exact Decidable.not_not.mp q))
theorem w_icmp_le (C : Hand X Z y bytes mx rt R n0 Q) {o : Int} {x z : Int32} {pn : Nat} (hd : decode bytes pc = .ok (.if_icmp .le o, 3)) (ho : 0 ≤ (pc : Int) + o) (hp : ((pc : Int) + o).toNat = pc') (hn : pc + 3 = pn) (wy : ¬ z < x → Wp X k n h pc' ls st) (wn : z < x → Wp X k n h pn ls st) : Wp X k n h pc ls (.int z :: .int x :: st) := by
  subst hn
  by_cases q : ¬ z < x
  · exact Wp.go C (fun X hX C T locs S e t r => XS.icmpYes S.here C.1 rfl (pc0 := pc) rfl (hb C.2.2.2.1 hd) rfl (flt q).2.2.2 ho hp r) (wy q)
  · exact Wp.go C (fun X hX C T locs S e t r => XS.icmpNo S.here C.1 rfl (hb C.2.2.2.1 hd) rfl (tlt (Decidable.not_not.mp q)).2.2.2 r) (wn (by first | exact q | exact Decidable.not_not.mp q))
theorem w_if_le (C : Hand X Z y bytes mx rt R n0 Q) {o : Int} {x : Int32} {pn : Nat} (hd : decode bytes pc = .ok (.ifCond .le o, 3)) (ho : 0 ≤ (pc : Int) + o) (hp : ((pc : Int) + o).toNat = pc') (hn : pc + 3 = pn) (wy : ¬ (0 : Int32) < x → Wp X k n h pc' ls st) (wn : (0 : Int32) < x → Wp X k n h pn ls st) : Wp X k n h pc ls (.int x :: st) := by
  subst hn
  by_cases q : ¬ (0 : Int32) < x
  · exact Wp.go C (fun X hX C T locs S e t r => XS.ifYes S.here C.1 rfl (pc0 := pc) rfl (hb C.2.2.2.1 hd) rfl ((if0 _ _).trans (flt q).2.2.2) ho hp r) (wy q)
  · exact Wp.go C (fun X hX C T locs S e t r => XS.ifNo S.here C.1 rfl (hb C.2.2.2.1 hd) rfl ((if0 _ _).trans (tlt (Decidable.not_not.mp q)).2.2.2) r) (wn (by first | exact q | exact Decidable.not_not.mp q))
theorem w_lc_eq (C : Hand X Z y bytes mx rt R n0 Q) {o : Int} {x z : Int64} {pm pn : Nat} (hd0 : decode bytes pc = .ok (.lcmp, 1)) (h0 : pc + 1 = pm) (hd : decode bytes pm = .ok (.ifCond .eq o, 3)) (ho : 0 ≤ (pm : Int) + o) (hp : ((pm : Int) + o).toNat = pc') (hn : pm + 3 = pn) (wy : x = z → Wp X k n h pc' ls st) (wn : ¬ x = z → Wp X k n h pn ls st) : Wp X k n h pc ls (.long z :: .long x :: st) :=
  w_lcmp C hd0 h0 (w_if_eq C hd ho hp hn (fun q => wy ((lw_eq x z).mp q)) (fun q => wn ((not_congr (lw_eq x z)).mp q)))
theorem w_lc_ne (C : Hand X Z y bytes mx rt R n0 Q) {o : Int} {x z : Int64} {pm pn : Nat} (hd0 : decode bytes pc = .ok (.lcmp, 1)) (h0 : pc + 1 = pm) (hd : decode bytes pm = .ok (.ifCond .ne o, 3)) (ho : 0 ≤ (pm : Int) + o) (hp : ((pm : Int) + o).toNat = pc') (hn : pm + 3 = pn) (wy : ¬ x = z → Wp X k n h pc' ls st) (wn : x = z → Wp X k n h pn ls st) : Wp X k n h pc ls (.long z :: .long x :: st) :=
  w_lcmp C hd0 h0 (w_if_ne C hd ho hp hn (fun q => wy ((not_congr (lw_eq x z)).mp q)) (fun q => wn ((lw_eq x z).mp q)))
theorem w_lc_lt (C : Hand X Z y bytes mx rt R n0 Q) {o : Int} {x z : Int64} {pm pn : Nat} (hd0 : decode bytes pc = .ok (.lcmp, 1)) (h0 : pc + 1 = pm) (hd : decode bytes pm = .ok (.ifCond .lt o, 3)) (ho : 0 ≤ (pm : Int) + o) (hp : ((pm : Int) + o).toNat = pc') (hn : pm + 3 = pn) (wy : x < z → Wp X k n h pc' ls st) (wn : ¬ x < z → Wp X k n h pn ls st) : Wp X k n h pc ls (.long z :: .long x :: st) :=
  w_lcmp C hd0 h0 (w_if_lt C hd ho hp hn (fun q => wy ((lw_lt x z).mp q)) (fun q => wn ((not_congr (lw_lt x z)).mp q)))
theorem w_lc_ge (C : Hand X Z y bytes mx rt R n0 Q) {o : Int} {x z : Int64} {pm pn : Nat} (hd0 : decode bytes pc = .ok (.lcmp, 1)) (h0 : pc + 1 = pm) (hd : decode bytes pm = .ok (.ifCond .ge o, 3)) (ho : 0 ≤ (pm : Int) + o) (hp : ((pm : Int) + o).toNat = pc') (hn : pm + 3 = pn) (wy : ¬ x < z → Wp X k n h pc' ls st) (wn : x < z → Wp X k n h pn ls st) : Wp X k n h pc ls (.long z :: .long x :: st) :=
  w_lcmp C hd0 h0 (w_if_ge C hd ho hp hn (fun q => wy ((not_congr (lw_lt x z)).mp q)) (fun q => wn ((lw_lt x z).mp q)))
theorem w_lc_gt (C : Hand X Z y bytes mx rt R n0 Q) {o : Int} {x z : Int64} {pm pn : Nat} (hd0 : decode bytes pc = .ok (.lcmp, 1)) (h0 : pc + 1 = pm) (hd : decode bytes pm = .ok (.ifCond .gt o, 3)) (ho : 0 ≤ (pm : Int) + o) (hp : ((pm : Int) + o).toNat = pc') (hn : pm + 3 = pn) (wy : z < x → Wp X k n h pc' ls st) (wn : ¬ z < x → Wp X k n h pn ls st) : Wp X k n h pc ls (.long z :: .long x :: st) :=
  w_lcmp C hd0 h0 (w_if_gt C hd ho hp hn (fun q => wy ((lw_gt x z).mp q)) (fun q => wn ((not_congr (lw_gt x z)).mp q)))
theorem w_lc_le (C : Hand X Z y bytes mx rt R n0 Q) {o : Int} {x z : Int64} {pm pn : Nat} (hd0 : decode bytes pc = .ok (.lcmp, 1)) (h0 : pc + 1 = pm) (hd : decode bytes pm = .ok (.ifCond .le o, 3)) (ho : 0 ≤ (pm : Int) + o) (hp : ((pm : Int) + o).toNat = pc') (hn : pm + 3 = pn) (wy : ¬ z < x → Wp X k n h pc' ls st) (wn : z < x → Wp X k n h pn ls st) : Wp X k n h pc ls (.long z :: .long x :: st) :=
  w_lcmp C hd0 h0 (w_if_le C hd ho hp hn (fun q => wy ((not_congr (lw_gt x z)).mp q)) (fun q => wn ((lw_gt x z).mp q)))
theorem w_jcmp_eq (C : Hand X Z y bytes mx rt R n0 Q) {o : Int} {x z : Int32} {pn : Nat} (hd : decode bytes pc = .ok (.if_icmp .eq o, 3)) (ho : 0 ≤ (pc : Int) + o) (hp : ((pc : Int) + o).toNat = pc') (hn : pc + 3 = pn) (wy : x.toInt = z.toInt → Wp X k n h pc' ls st) (wn : ¬ x.toInt = z.toInt → Wp X k n h pn ls st) : Wp X k n h pc ls (.int z :: .int x :: st) :=
  w_icmp_eq C hd ho hp hn (fun q => wy (Int32.toInt_inj.mpr q)) (fun q => wn (fun r => q (Int32.toInt_inj.mp r)))
theorem w_jf_eq (C : Hand X Z y bytes mx rt R n0 Q) {o : Int} {x : Int32} {pn : Nat} (hd : decode bytes pc = .ok (.ifCond .eq o, 3)) (ho : 0 ≤ (pc : Int) + o) (hp : ((pc : Int) + o).toNat = pc') (hn : pc + 3 = pn) (wy : x.toInt = 0 → Wp X k n h pc' ls st) (wn : ¬ x.toInt = 0 → Wp X k n h pn ls st) : Wp X k n h pc ls (.int x :: st) :=
  w_if_eq C hd ho hp hn (fun q => wy (Int32.toInt_inj.mpr q)) (fun q => wn (fun r => q (Int32.toInt_inj.mp r)))
theorem w_jc_eq (C : Hand X Z y bytes mx rt R n0 Q) {o : Int} {x z : Int64} {pm pn : Nat} (hd0 : decode bytes pc = .ok (.lcmp, 1)) (h0 : pc + 1 = pm) (hd : decode bytes pm = .ok (.ifCond .eq o, 3)) (ho : 0 ≤ (pm : Int) + o) (hp : ((pm : Int) + o).toNat = pc') (hn : pm + 3 = pn) (wy : x.toInt = z.toInt → Wp X k n h pc' ls st) (wn : ¬ x.toInt = z.toInt → Wp X k n h pn ls st) : Wp X k n h pc ls (.long z :: .long x :: st) :=
  w_lc_eq C hd0 h0 hd ho hp hn (fun q => wy (Int64.toInt_inj.mpr q)) (fun q => wn (fun r => q (Int64.toInt_inj.mp r)))
theorem w_jcmp_ne (C : Hand X Z y bytes mx rt R n0 Q) {o : Int} {x z : Int32} {pn : Nat} (hd : decode bytes pc = .ok (.if_icmp .ne o, 3)) (ho : 0 ≤ (pc : Int) + o) (hp : ((pc : Int) + o).toNat = pc') (hn : pc + 3 = pn) (wy : ¬ x.toInt = z.toInt → Wp X k n h pc' ls st) (wn : x.toInt = z.toInt → Wp X k n h pn ls st) : Wp X k n h pc ls (.int z :: .int x :: st) :=
  w_icmp_ne C hd ho hp hn (fun q => wy (fun r => q (Int32.toInt_inj.mp r))) (fun q => wn (Int32.toInt_inj.mpr q))
theorem w_jf_ne (C : Hand X Z y bytes mx rt R n0 Q) {o : Int} {x : Int32} {pn : Nat} (hd : decode bytes pc = .ok (.ifCond .ne o, 3)) (ho : 0 ≤ (pc : Int) + o) (hp : ((pc : Int) + o).toNat = pc') (hn : pc + 3 = pn) (wy : ¬ x.toInt = 0 → Wp X k n h pc' ls st) (wn : x.toInt = 0 → Wp X k n h pn ls st) : Wp X k n h pc ls (.int x :: st) :=
  w_if_ne C hd ho hp hn (fun q => wy (fun r => q (Int32.toInt_inj.mp r))) (fun q => wn (Int32.toInt_inj.mpr q))
theorem w_jc_ne (C : Hand X Z y bytes mx rt R n0 Q) {o : Int} {x z : Int64} {pm pn : Nat} (hd0 : decode bytes pc = .ok (.lcmp, 1)) (h0 : pc + 1 = pm) (hd : decode bytes pm = .ok (.ifCond .ne o, 3)) (ho : 0 ≤ (pm : Int) + o) (hp : ((pm : Int) + o).toNat = pc') (hn : pm + 3 = pn) (wy : ¬ x.toInt = z.toInt → Wp X k n h pc' ls st) (wn : x.toInt = z.toInt → Wp X k n h pn ls st) : Wp X k n h pc ls (.long z :: .long x :: st) :=
  w_lc_ne C hd0 h0 hd ho hp hn (fun q => wy (fun r => q (Int64.toInt_inj.mp r))) (fun q => wn (Int64.toInt_inj.mpr q))
theorem w_jcmp_lt (C : Hand X Z y bytes mx rt R n0 Q) {o : Int} {x z : Int32} {pn : Nat} (hd : decode bytes pc = .ok (.if_icmp .lt o, 3)) (ho : 0 ≤ (pc : Int) + o) (hp : ((pc : Int) + o).toNat = pc') (hn : pc + 3 = pn) (wy : x.toInt < z.toInt → Wp X k n h pc' ls st) (wn : z.toInt ≤ x.toInt → Wp X k n h pn ls st) : Wp X k n h pc ls (.int z :: .int x :: st) :=
  w_icmp_lt C hd ho hp hn (fun q => wy (Int32.lt_iff_toInt_lt.mp q)) (fun q => wn (Int.not_lt.mp (fun r => q (Int32.lt_iff_toInt_lt.mpr r))))
theorem w_jf_lt (C : Hand X Z y bytes mx rt R n0 Q) {o : Int} {x : Int32} {pn : Nat} (hd : decode bytes pc = .ok (.ifCond .lt o, 3)) (ho : 0 ≤ (pc : Int) + o) (hp : ((pc : Int) + o).toNat = pc') (hn : pc + 3 = pn) (wy : x.toInt < 0 → Wp X k n h pc' ls st) (wn : 0 ≤ x.toInt → Wp X k n h pn ls st) : Wp X k n h pc ls (.int x :: st) :=
  w_if_lt C hd ho hp hn (fun q => wy (Int32.lt_iff_toInt_lt.mp q)) (fun q => wn (Int.not_lt.mp (fun r => q (Int32.lt_iff_toInt_lt.mpr r))))
theorem w_jc_lt (C : Hand X Z y bytes mx rt R n0 Q) {o : Int} {x z : Int64} {pm pn : Nat} (hd0 : decode bytes pc = .ok (.lcmp, 1)) (h0 : pc + 1 = pm) (hd : decode bytes pm = .ok (.ifCond .lt o, 3)) (ho : 0 ≤ (pm : Int) + o) (hp : ((pm : Int) + o).toNat = pc') (hn : pm + 3 = pn) (wy : x.toInt < z.toInt → Wp X k n h pc' ls st) (wn : z.toInt ≤ x.toInt → Wp X k n h pn ls st) : Wp X k n h pc ls (.long z :: .long x :: st) :=
  w_lc_lt C hd0 h0 hd ho hp hn (fun q => wy (Int64.lt_iff_toInt_lt.mp q)) (fun q => wn (Int.not_lt.mp (fun r => q (Int64.lt_iff_toInt_lt.mpr r))))
theorem w_jcmp_ge (C : Hand X Z y bytes mx rt R n0 Q) {o : Int} {x z : Int32} {pn : Nat} (hd : decode bytes pc = .ok (.if_icmp .ge o, 3)) (ho : 0 ≤ (pc : Int) + o) (hp : ((pc : Int) + o).toNat = pc') (hn : pc + 3 = pn) (wy : z.toInt ≤ x.toInt → Wp X k n h pc' ls st) (wn : x.toInt < z.toInt → Wp X k n h pn ls st) : Wp X k n h pc ls (.int z :: .int x :: st) :=
  w_icmp_ge C hd ho hp hn (fun q => wy (Int.not_lt.mp (fun r => q (Int32.lt_iff_toInt_lt.mpr r)))) (fun q => wn (Int32.lt_iff_toInt_lt.mp q))
theorem w_jf_ge (C : Hand X Z y bytes mx rt R n0 Q) {o : Int} {x : Int32} {pn : Nat} (hd : decode bytes pc = .ok (.ifCond .ge o, 3)) (ho : 0 ≤ (pc : Int) + o) (hp : ((pc : Int) + o).toNat = pc') (hn : pc + 3 = pn) (wy : 0 ≤ x.toInt → Wp X k n h pc' ls st) (wn : x.toInt < 0 → Wp X k n h pn ls st) : Wp X k n h pc ls (.int x :: st) :=
  w_if_ge C hd ho hp hn (fun q => wy (Int.not_lt.mp (fun r => q (Int32.lt_iff_toInt_lt.mpr r)))) (fun q => wn (Int32.lt_iff_toInt_lt.mp q))
theorem w_jc_ge (C : Hand X Z y bytes mx rt R n0 Q) {o : Int} {x z : Int64} {pm pn : Nat} (hd0 : decode bytes pc = .ok (.lcmp, 1)) (h0 : pc + 1 = pm) (hd : decode bytes pm = .ok (.ifCond .ge o, 3)) (ho : 0 ≤ (pm : Int) + o) (hp : ((pm : Int) + o).toNat = pc') (hn : pm + 3 = pn) (wy : z.toInt ≤ x.toInt → Wp X k n h pc' ls st) (wn : x.toInt < z.toInt → Wp X k n h pn ls st) : Wp X k n h pc ls (.long z :: .long x :: st) :=
  w_lc_ge C hd0 h0 hd ho hp hn (fun q => wy (Int.not_lt.mp (fun r => q (Int64.lt_iff_toInt_lt.mpr r)))) (fun q => wn (Int64.lt_iff_toInt_lt.mp q))
theorem w_jcmp_gt (C : Hand X Z y bytes mx rt R n0 Q) {o : Int} {x z : Int32} {pn : Nat} (hd : decode bytes pc = .ok (.if_icmp .gt o, 3)) (ho : 0 ≤ (pc : Int) + o) (hp : ((pc : Int) + o).toNat = pc') (hn : pc + 3 = pn) (wy : z.toInt < x.toInt → Wp X k n h pc' ls st) (wn : x.toInt ≤ z.toInt → Wp X k n h pn ls st) : Wp X k n h pc ls (.int z :: .int x :: st) :=
  w_icmp_gt C hd ho hp hn (fun q => wy (Int32.lt_iff_toInt_lt.mp q)) (fun q => wn (Int.not_lt.mp (fun r => q (Int32.lt_iff_toInt_lt.mpr r))))
theorem w_jf_gt (C : Hand X Z y bytes mx rt R n0 Q) {o : Int} {x : Int32} {pn : Nat} (hd : decode bytes pc = .ok (.ifCond .gt o, 3)) (ho : 0 ≤ (pc : Int) + o) (hp : ((pc : Int) + o).toNat = pc') (hn : pc + 3 = pn) (wy : 0 < x.toInt → Wp X k n h pc' ls st) (wn : x.toInt ≤ 0 → Wp X k n h pn ls st) : Wp X k n h pc ls (.int x :: st) :=
  w_if_gt C hd ho hp hn (fun q => wy (Int32.lt_iff_toInt_lt.mp q)) (fun q => wn (Int.not_lt.mp (fun r => q (Int32.lt_iff_toInt_lt.mpr r))))
theorem w_jc_gt (C : Hand X Z y bytes mx rt R n0 Q) {o : Int} {x z : Int64} {pm pn : Nat} (hd0 : decode bytes pc = .ok (.lcmp, 1)) (h0 : pc + 1 = pm) (hd : decode bytes pm = .ok (.ifCond .gt o, 3)) (ho : 0 ≤ (pm : Int) + o) (hp : ((pm : Int) + o).toNat = pc') (hn : pm + 3 = pn) (wy : z.toInt < x.toInt → Wp X k n h pc' ls st) (wn : x.toInt ≤ z.toInt → Wp X k n h pn ls st) : Wp X k n h pc ls (.long z :: .long x :: st) :=
  w_lc_gt C hd0 h0 hd ho hp hn (fun q => wy (Int64.lt_iff_toInt_lt.mp q)) (fun q => wn (Int.not_lt.mp (fun r => q (Int64.lt_iff_toInt_lt.mpr r))))
theorem w_jcmp_le (C : Hand X Z y bytes mx rt R n0 Q) {o : Int} {x z : Int32} {pn : Nat} (hd : decode bytes pc = .ok (.if_icmp .le o, 3)) (ho : 0 ≤ (pc : Int) + o) (hp : ((pc : Int) + o).toNat = pc') (hn : pc + 3 = pn) (wy : x.toInt ≤ z.toInt → Wp X k n h pc' ls st) (wn : z.toInt < x.toInt → Wp X k n h pn ls st) : Wp X k n h pc ls (.int z :: .int x :: st) :=
  w_icmp_le C hd ho hp hn (fun q => wy (Int.not_lt.mp (fun r => q (Int32.lt_iff_toInt_lt.mpr r)))) (fun q => wn (Int32.lt_iff_toInt_lt.mp q))
theorem w_jf_le (C : Hand X Z y bytes mx rt R n0 Q) {o : Int} {x : Int32} {pn : Nat} (hd : decode bytes pc = .ok (.ifCond .le o, 3)) (ho : 0 ≤ (pc : Int) + o) (hp : ((pc : Int) + o).toNat = pc') (hn : pc + 3 = pn) (wy : x.toInt ≤ 0 → Wp X k n h pc' ls st) (wn : 0 < x.toInt → Wp X k n h pn ls st) : Wp X k n h pc ls (.int x :: st) :=
  w_if_le C hd ho hp hn (fun q => wy (Int.not_lt.mp (fun r => q (Int32.lt_iff_toInt_lt.mpr r)))) (fun q => wn (Int32.lt_iff_toInt_lt.mp q))
theorem w_jc_le (C : Hand X Z y bytes mx rt R n0 Q) {o : Int} {x z : Int64} {pm pn : Nat} (hd0 : decode bytes pc = .ok (.lcmp, 1)) (h0 : pc + 1 = pm) (hd : decode bytes pm = .ok (.ifCond .le o, 3)) (ho : 0 ≤ (pm : Int) + o) (hp : ((pm : Int) + o).toNat = pc') (hn : pm + 3 = pn) (wy : x.toInt ≤ z.toInt → Wp X k n h pc' ls st) (wn : z.toInt < x.toInt → Wp X k n h pn ls st) : Wp X k n h pc ls (.long z :: .long x :: st) :=
  w_lc_le C hd0 h0 hd ho hp hn (fun q => wy (Int.not_lt.mp (fun r => q (Int64.lt_iff_toInt_lt.mpr r)))) (fun q => wn (Int64.lt_iff_toInt_lt.mp q))
theorem w_ifnonnullY (C : Hand X Z y bytes mx rt R n0 Q) {o : Int} {b : Addr} (hd : decode bytes pc = .ok (.ifnonnull o, 3)) (ho : 0 ≤ (pc : Int) + o) (hp : ((pc : Int) + o).toNat = pc') (w : Wp X k n h pc' ls st) : Wp X k n h pc ls (.ref b :: st) :=
  Wp.go C (fun X hX C T locs S e t r => XS.ifnonnullYes S.here C.1 rfl (pc0 := pc) rfl (hb C.2.2.2.1 hd) rfl ho hp r) w
theorem w_ifnonnullN (C : Hand X Z y bytes mx rt R n0 Q) {o : Int} (hd : decode bytes pc = .ok (.ifnonnull o, 3)) (hp : pc + 3 = pc') (w : Wp X k n h pc' ls st) : Wp X k n h pc ls (.null :: st) := by
  subst hp; exact Wp.go C (fun X hX C T locs S e t r => XS.ifnonnullNo S.here C.1 rfl (hb C.2.2.2.1 hd) rfl r) w
theorem w_ifnullN (C : Hand X Z y bytes mx rt R n0 Q) {o : Int} {b : Addr} (hd : decode bytes pc = .ok (.ifnull o, 3)) (hp : pc + 3 = pc') (w : Wp X k n h pc' ls st) : Wp X k n h pc ls (.ref b :: st) := by
  subst hp; exact Wp.go C (fun X hX C T locs S e t r => XS.ifnullNo S.here C.1 rfl (hb C.2.2.2.1 hd) rfl r) w
theorem w_ifnullY (C : Hand X Z y bytes mx rt R n0 Q) {o : Int} (hd : decode bytes pc = .ok (.ifnull o, 3)) (ho : 0 ≤ (pc : Int) + o) (hp : ((pc : Int) + o).toNat = pc') (w : Wp X k n h pc' ls st) : Wp X k n h pc ls (.null :: st) :=
  Wp.go C (fun X hX C T locs S e t r => XS.ifnullYes S.here C.1 rfl (pc0 := pc) rfl (hb C.2.2.2.1 hd) rfl ho hp r) w
theorem w_acmp_eq (C : Hand X Z y bytes mx rt R n0 Q) {o : Int} {x z : Value} {pn : Nat} (h1 : x.isRef = true) (h2 : z.isRef = true) (hd : decode bytes pc = .ok (.if_acmp .eq o, 3)) (ho : 0 ≤ (pc : Int) + o) (hp : ((pc : Int) + o).toNat = pc') (hn : pc + 3 = pn) (wy : x = z → Wp X k n h pc' ls st) (wn : ¬ x = z → Wp X k n h pn ls st) : Wp X k n h pc ls (z :: x :: st) := by
  by_cases q : x = z
  · exact Wp.go C (fun X hX C T locs S e t r => acmp S C.1 rfl h1 h2 (pc0 := pc) (same := true) rfl (hb C.2.2.2.1 hd) rfl (by simp [q]) ho (by simp [acV, hp]) r) (wy q)
  · exact Wp.go C (fun X hX C T locs S e t r => acmp S C.1 rfl h1 h2 (pc0 := pc) (same := false) rfl (hb C.2.2.2.1 hd) rfl (by simp [q]) ho (by simp [acV, hn]) r) (wn q)
theorem w_acmp_ne (C : Hand X Z y bytes mx rt R n0 Q) {o : Int} {x z : Value} {pn : Nat} (h1 : x.isRef = true) (h2 : z.isRef = true) (hd : decode bytes pc = .ok (.if_acmp .ne o, 3)) (ho : 0 ≤ (pc : Int) + o) (hp : ((pc : Int) + o).toNat = pc') (hn : pc + 3 = pn) (wy : ¬ x = z → Wp X k n h pc' ls st) (wn : x = z → Wp X k n h pn ls st) : Wp X k n h pc ls (z :: x :: st) := by
  by_cases q : x = z
  · exact Wp.go C (fun X hX C T locs S e t r => acmp S C.1 rfl h1 h2 (pc0 := pc) (same := true) rfl (hb C.2.2.2.1 hd) rfl (by simp [q]) ho (by simp [acV, hn]) r) (wn q)
  · exact Wp.go C (fun X hX C T locs S e t r => acmp S C.1 rfl h1 h2 (pc0 := pc) (same := false) rfl (hb C.2.2.2.1 hd) rfl (by simp [q]) ho (by simp [acV, hp]) r) (wy q)
/-! returns -/
theorem w_iret {t : FieldType} (C : Hand X Z y bytes mx (some t) R n0 Q) {z : Int32} (hd : decode bytes pc = .ok (.ireturn, 1)) (ht : t = .int ∨ t = .boolean ∨ t = .byte ∨ t = .char ∨ t = .short) (hz : narrow t (.int z) = .int z) (hk : k ≤ R.cells) (hn : n ≤ R.slots) (q : Q (some (.int z)) h) : Wp X k n h pc ls (.int z :: st) :=
  w_done C (fun z => by cases z) hk hn q fun X C T locs fs S hr => retOut S C.1 C.2.2.2.2.2.1 hz (Or.inl ⟨rfl, ht, z, rfl⟩) (hb C.2.2.2.1 hd) hr
theorem w_lret (C : Hand X Z y bytes mx (some .long) R n0 Q) {z : Int64} (hd : decode bytes pc = .ok (.lreturn, 1)) (hk : k ≤ R.cells) (hn : n ≤ R.slots) (q : Q (some (.long z)) h) : Wp X k n h pc ls (.long z :: st) :=
  w_done C (fun z => by cases z) hk hn q fun X C T locs fs S hr => retOut S C.1 C.2.2.2.2.2.1 rfl (Or.inr (Or.inl ⟨rfl, rfl, z, rfl⟩)) (hb C.2.2.2.1 hd) hr
theorem w_aret {t : FieldType} (C : Hand X Z y bytes mx (some t) R n0 Q) {a : Addr} (hd : decode bytes pc = .ok (.areturn, 1)) (ht : t.isReference = true) (hz : narrow t (.ref a) = .ref a) (hk : k ≤ R.cells) (hn : n ≤ R.slots) (q : Q (some (.ref a)) h) : Wp X k n h pc ls (.ref a :: st) :=
  w_done C (fun z => by cases z) hk hn q fun X C T locs fs S hr => retOut S C.1 C.2.2.2.2.2.1 hz (Or.inr (Or.inr (Or.inr (Or.inr ⟨rfl, ht, rfl⟩)))) (hb C.2.2.2.1 hd) hr
theorem w_vret (C : Hand X Z y bytes mx none R n0 Q) (hd : decode bytes pc = .ok (.return_, 1)) (hk : k ≤ R.cells) (hn : n ≤ R.slots) (q : Q none h) : Wp X k n h pc ls [] :=
  w_done C (fun _ => rfl) hk hn q fun X C T locs fs S hr => S.returnOut C.1 C.2.2.2.2.2.1 (hb C.2.2.2.1 hd) hr
/-! arrays -/
def Ars (Z : State) (h : Heap) (a : Addr) (ty : FieldType) (vs : List Value) : Prop := ∃ c : Cell, Arr Z h a c ty ∧ c.slots.toList = vs ∧ vs.length < 2 ^ 31
variable {h' : Heap} {a b : Addr} {ty : FieldType} {vs : List Value}
theorem Ars.lt (F : Ars Z h a ty vs) : a < h.size := by obtain ⟨c, A, -⟩ := F; exact A.lt
theorem Ars.ext (F : Ars Z h a ty vs) (E : Ext h h') : Ars Z h' a ty vs := by obtain ⟨c, A, r⟩ := F; exact ⟨c, A.ext E, r⟩
theorem Ars.other {sl : Nat} {v : Value} (F : Ars Z h b ty vs) (W : Wr h h' a sl v) (q : b ≠ a) : Ars Z h' b ty vs := by obtain ⟨c, A, r⟩ := F; exact ⟨c, A.other W q, r⟩
theorem Ars.same {i : Nat} {v : Value} (F : Ars Z h a ty vs) (W : Wr h h' a i v) : Ars Z h' a ty (vs.set i v) := by
  obtain ⟨c, A, rfl, r⟩ := F
  exact ⟨_, A.same W, by simp [Cell.setSlot], by simpa using r⟩
theorem Ars.keep {ws : List Addr} (F : Ars Z h a ty vs) (K : Keep h h' ws) (q : a ∉ ws) : Ars Z h' a ty vs := by obtain ⟨c, A, r⟩ := F; exact ⟨c, ⟨K.2.1 a c A.1 q, A.2⟩, r⟩
theorem Ars.inb {c : Cell} {j : Int32} {i : Nat} (e : c.slots.toList = vs) (hj : ¬ j < 0) (hi : j.toNatClampNeg = i) (hl : i < vs.length) : ¬ (j < 0 ∨ c.slots.size ≤ j.toNatClampNeg) := by
  subst e hi; intro q; rcases q with q | q
  · exact hj q
  · simp at hl; omega
theorem w_iastore (C : Hand X Z y bytes mx rt R n0 Q) {j : Int32} {x : Int32} {i : Nat} (hd : decode bytes pc = .ok (.iastore, 1)) (A : Ars Z h a .int vs) (hn : n0 ≤ a) (hj : ¬ j < 0) (hi : j.toNatClampNeg = i) (hl : i < vs.length) (hp : pc + 1 = pc')
    (w : ∀ h', Wr h h' a i (.int x) → Ars Z h' a .int (vs.set i (.int x)) → Wp X k n h' pc' ls st) : Wp X k n h pc ls (.int x :: .int j :: .ref a :: st) := by
  subst hp hi
  refine Wp.to C (P := fun h' st' => st' = st ∧ Wr h h' a j.toNatClampNeg (.int x)) (fun X hX C T locs S e => ?_) (fun h' st' q => by obtain ⟨rfl, W⟩ := q; exact w h' W (A.same W))
  obtain ⟨c, Ac, ec, -⟩ := A
  obtain ⟨T', h', S', e', W', st⟩ := stI S C.1 C.2.1 e Ac (j := j) (x := x) (Ars.inb ec hj rfl hl) (g := mkF X.m pc ls (.int x :: .int j :: .ref a :: st)) rfl rfl (hb C.2.2.2.1 hd)
  exact ⟨T', _, h', _, S', e', fun q hq => by cases List.mem_singleton.mp hq; rw [C.2.2.2.2.2.2.2.2.2.2.1]; exact hn, Nat.le_of_eq W'.size.symm, ⟨rfl, W'⟩, st⟩
theorem w_lastore (C : Hand X Z y bytes mx rt R n0 Q) {j : Int32} {x : Int64} {i : Nat} (hd : decode bytes pc = .ok (.lastore, 1)) (A : Ars Z h a .long vs) (hn : n0 ≤ a) (hj : ¬ j < 0) (hi : j.toNatClampNeg = i) (hl : i < vs.length) (hp : pc + 1 = pc')
    (w : ∀ h', Wr h h' a i (.long x) → Ars Z h' a .long (vs.set i (.long x)) → Wp X k n h' pc' ls st) : Wp X k n h pc ls (.long x :: .int j :: .ref a :: st) := by
  subst hp hi
  refine Wp.to C (P := fun h' st' => st' = st ∧ Wr h h' a j.toNatClampNeg (.long x)) (fun X hX C T locs S e => ?_) (fun h' st' q => by obtain ⟨rfl, W⟩ := q; exact w h' W (A.same W))
  obtain ⟨c, Ac, ec, -⟩ := A
  obtain ⟨T', h', S', e', W', st⟩ := stJ S C.1 C.2.1 e Ac (j := j) (x := x) (Ars.inb ec hj rfl hl) (g := mkF X.m pc ls (.long x :: .int j :: .ref a :: st)) rfl rfl (hb C.2.2.2.1 hd)
  exact ⟨T', _, h', _, S', e', fun q hq => by cases List.mem_singleton.mp hq; rw [C.2.2.2.2.2.2.2.2.2.2.1]; exact hn, Nat.le_of_eq W'.size.symm, ⟨rfl, W'⟩, st⟩
theorem w_bastore (C : Hand X Z y bytes mx rt R n0 Q) {j : Int32} {x : Int32} {i : Nat} (hd : decode bytes pc = .ok (.bastore, 1)) (A : Ars Z h a .byte vs) (hn : n0 ≤ a) (hj : ¬ j < 0) (hi : j.toNatClampNeg = i) (hl : i < vs.length) (hp : pc + 1 = pc')
    (w : ∀ h', Wr h h' a i (.int x.toInt8.toInt32) → Ars Z h' a .byte (vs.set i (.int x.toInt8.toInt32)) → Wp X k n h' pc' ls st) : Wp X k n h pc ls (.int x :: .int j :: .ref a :: st) := by
  subst hp hi
  refine Wp.to C (P := fun h' st' => st' = st ∧ Wr h h' a j.toNatClampNeg (.int x.toInt8.toInt32)) (fun X hX C T locs S e => ?_) (fun h' st' q => by obtain ⟨rfl, W⟩ := q; exact w h' W (A.same W))
  obtain ⟨c, Ac, ec, -⟩ := A
  obtain ⟨T', h', S', e', W', st⟩ := stB S C.1 C.2.1 e Ac (j := j) (x := x) (Ars.inb ec hj rfl hl) (g := mkF X.m pc ls (.int x :: .int j :: .ref a :: st)) rfl rfl (hb C.2.2.2.1 hd)
  exact ⟨T', _, h', _, S', e', fun q hq => by cases List.mem_singleton.mp hq; rw [C.2.2.2.2.2.2.2.2.2.2.1]; exact hn, Nat.le_of_eq W'.size.symm, ⟨rfl, W'⟩, st⟩
theorem w_iaload (C : Hand X Z y bytes mx rt R n0 Q) {j : Int32} {v : Value} {i : Nat} (hd : decode bytes pc = .ok (.iaload, 1)) (A : Ars Z h a .int vs) (hj : ¬ j < 0) (hi : j.toNatClampNeg = i) (hv : vs[i]? = some v) (hp : pc + 1 = pc') (w : Wp X k n h pc' ls (v :: st)) : Wp X k n h pc ls (.int j :: .ref a :: st) := by
  subst hp hi
  obtain ⟨c, Ac, ec, -⟩ := A
  have hl : j.toNatClampNeg < vs.length := (List.getElem?_eq_some_iff.mp hv).1
  refine Wp.go C (fun X hX C T locs S e t q => S.iaload C.1 (j := j) (v := v) (by rw [e]; exact Ac.1) (State.isArrayOf_alike C.2.1.alike Ac.2.1) Ac.2.2 (Ars.inb ec hj rfl hl) (by subst ec; simpa using hv) (g := mkF X.m pc ls (.int j :: .ref a :: st)) rfl rfl (hb C.2.2.2.1 hd) t q) w
theorem w_laload (C : Hand X Z y bytes mx rt R n0 Q) {j : Int32} {v : Value} {i : Nat} (hd : decode bytes pc = .ok (.laload, 1)) (A : Ars Z h a .long vs) (hj : ¬ j < 0) (hi : j.toNatClampNeg = i) (hv : vs[i]? = some v) (hp : pc + 1 = pc') (w : Wp X k n h pc' ls (v :: st)) : Wp X k n h pc ls (.int j :: .ref a :: st) := by
  subst hp hi
  obtain ⟨c, Ac, ec, -⟩ := A
  have hl : j.toNatClampNeg < vs.length := (List.getElem?_eq_some_iff.mp hv).1
  refine Wp.go C (fun X hX C T locs S e t q => S.laload C.1 (j := j) (v := v) (by rw [e]; exact Ac.1) (State.isArrayOf_alike C.2.1.alike Ac.2.1) Ac.2.2 (Ars.inb ec hj rfl hl) (by subst ec; simpa using hv) (g := mkF X.m pc ls (.int j :: .ref a :: st)) rfl rfl (hb C.2.2.2.1 hd) t q) w
theorem w_baload (C : Hand X Z y bytes mx rt R n0 Q) {j : Int32} {v : Value} {i : Nat} (hd : decode bytes pc = .ok (.baload, 1)) (A : Ars Z h a .byte vs) (hj : ¬ j < 0) (hi : j.toNatClampNeg = i) (hv : vs[i]? = some v) (hp : pc + 1 = pc') (w : Wp X k n h pc' ls (v :: st)) : Wp X k n h pc ls (.int j :: .ref a :: st) := by
  subst hp hi
  obtain ⟨c, Ac, ec, -⟩ := A
  have hl : j.toNatClampNeg < vs.length := (List.getElem?_eq_some_iff.mp hv).1
  refine Wp.go C (fun X hX C T locs S e t q => S.baloadBytes C.1 (j := j) (v := v) (by rw [e]; exact Ac.1) (State.isArrayOf_alike C.2.1.alike Ac.2.1) Ac.2.2 (Ars.inb ec hj rfl hl) (by subst ec; simpa using hv) (g := mkF X.m pc ls (.int j :: .ref a :: st)) rfl rfl (hb C.2.2.2.1 hd) t q) w
theorem w_alen (C : Hand X Z y bytes mx rt R n0 Q) {z : Int32} (hd : decode bytes pc = .ok (.arraylength, 1)) (A : Ars Z h a ty vs) (hz : vs.length.toInt32 = z) (hp : pc + 1 = pc') (w : Wp X k n h pc' ls (.int z :: st)) : Wp X k n h pc ls (.ref a :: st) := by
  subst hp hz
  obtain ⟨c, Ac, rfl, -⟩ := A
  refine Wp.go C (fun X hX C T locs S e t q => S.arraylength C.1 (by rw [e]; exact Ac.1) (State.isArrayOf_alike C.2.1.alike Ac.2.1) (g := mkF X.m pc ls (.ref a :: st)) rfl rfl (hb C.2.2.2.1 hd) t (by simpa using q)) w
theorem w_newarray (C : Hand X Z y bytes mx rt R n0 Q) {aty : ArrayType} {z : Int32} {cap : Nat} (hw : (Jvm.Cond.arrayClass (newarray.typeOf aty)).before a0 Z = true) (hd : decode bytes pc = .ok (.newarray aty, 2)) (hz : ¬ z < 0) (hcap : z.toNatClampNeg ≤ cap) (hb8 : cap * 8 ≤ 536870912) (hc : k + 1 ≤ R.cells) (hl : n + cap ≤ R.slots) (hp : pc + 2 = pc')
    (w : ∀ h' a, a = h.size → n0 ≤ a → Ext h h' → Ars Z h' a (newarray.typeOf aty) (List.replicate z.toNatClampNeg (defaultValue (newarray.typeOf aty))) → Wp X (k + 1) (n + cap) h' pc' ls (.ref a :: st)) : Wp X k n h pc ls (.int z :: st) := by
  subst hp
  refine Wp.size C fun hsz => Wp.to C (P := fun h' st' => st' = .ref h.size :: st ∧ Ext h h' ∧ Ars Z h' h.size (newarray.typeOf aty) (List.replicate z.toNatClampNeg (defaultValue (newarray.typeOf aty)))) (fun X hX C T locs S e => ?_) (fun h' st' q => by obtain ⟨rfl, E, A⟩ := q; exact w h' _ rfl hsz E A)
  obtain ⟨T', h', cA, S', e', E', A', st⟩ := newP S C.1 C.2.1 hw e (g := mkF X.m pc ls (.int z :: st)) rfl (hb C.2.2.2.1 hd) rfl hz hcap hb8 (by rw [C.2.2.2.2.2.2.2.1]; exact hc) (by rw [C.2.2.2.2.2.2.2.1]; exact hl)
  exact ⟨T', [], h', _, by rw [toL]; exact S', e', Fr.nil _, E'.1, ⟨rfl, E', _, A', by simp [newA], by simpa using (back32 hz).2⟩, st⟩
/-! objects -/
theorem w_new (C : Hand X Z y bytes mx rt R n0 Q) {i nn : Nat} {K : String} (hw : (Jvm.Cond.classLink y.cls i K).before a0 Z = true) (wi : (Jvm.Cond.instantiable K nn).before a0 Z = true) (wz : (Jvm.Cond.initialized K).before a0 Z = true) (hd : decode bytes pc = .ok (.new i, 3)) (hc : k + 1 ≤ R.cells) (hl : n + nn ≤ R.slots) (hp : pc + 3 = pc')
    (w : ∀ h' a, a = h.size → n0 ≤ a → Ext h h' → Exa Z h' a K → (∀ {O nm d : String} {ty : FieldType}, Laid Z a0 K O nm d → parseFieldDescriptor d = some ty → Fld Z h' a O nm d (defaultValue ty)) → Wp X (k + 1) (n + nn) h' pc' ls (.ref a :: st)) : Wp X k n h pc ls st := by
  subst hp
  refine Wp.size C fun hsz => Wp.to C (P := fun h' st' => st' = .ref h.size :: st ∧ Ext h h' ∧ Exa Z h' h.size K ∧ ∀ {O nm d : String} {ty : FieldType}, Laid Z a0 K O nm d → parseFieldDescriptor d = some ty → Fld Z h' h.size O nm d (defaultValue ty)) (fun X hX C T locs S e => ?_) (fun h' st' q => by obtain ⟨rfl, E, A, D⟩ := q; exact w h' _ rfl hsz E A D)
  obtain ⟨T', h', S', e', E', A', D', -, st⟩ := newO S C.1 C.2.1 C.2.2.1 hw wi wz e (g := mkF X.m pc ls st) rfl (hb C.2.2.2.1 hd) (by rw [C.2.2.2.2.2.2.2.1]; exact hc) (by rw [C.2.2.2.2.2.2.2.1]; exact hl)
  exact ⟨T', [], h', _, by rw [toL]; exact S', e', Fr.nil _, E'.1, ⟨rfl, E', A', D'⟩, st⟩
theorem w_initO (C : Hand X Z y bytes mx rt R n0 Q) {i W : Nat} (w1 : (Jvm.Cond.methodLink y.cls i Lib.objectInit).before a0 Z = true) (w2 : (Jvm.Cond.instanceMethod Lib.objectInit).before a0 Z = true) (w3 : (Jvm.Cond.code Lib.objectInit ⟨#[0xb1]⟩ 1 none).before a0 Z = true)
    (hd : decode bytes pc = .ok (.invokespecial i, 3)) (hls : ls.size = mx) (hf : 1 ≤ R.frames) (hW : (st.map fun v => v.category).sum = W) (hl : W + 12 ≤ R.locals) (hp : pc + 3 = pc') (w : Wp X k n h pc' ls st) : Wp X k n h pc ls (.ref a :: st) := by
  subst hp hW
  refine Wp.to C (P := fun h' st' => h' = h ∧ st' = st) (fun X hX C T locs S e => ?_) (fun h' st' q => by obtain ⟨rfl, rfl⟩ := q; exact w)
  obtain ⟨T', S', e', st⟩ := initO S C.1 C.2.1 C.2.2.1 w1 w2 w3 e (g := mkF X.m pc ls (.ref a :: st)) rfl (by rw [C.2.2.2.2.1]; exact hls) rfl (hb C.2.2.2.1 hd) (by rw [C.2.2.2.2.2.2.2.1]; exact hf) (W := (st.map fun v => v.category).sum) (by show 2 * 0 + _ ≤ _; omega) (by rw [C.2.2.2.2.2.2.2.1]; exact hl)
  exact ⟨T', [], h, _, by rw [toL]; exact S', e', Fr.nil _, Nat.le_refl _, ⟨rfl, rfl⟩, st⟩
theorem w_getfield (C : Hand X Z y bytes mx rt R n0 Q) {i : Nat} {O f d : String} {v : Value} (hw : (Jvm.Cond.fieldLink y.cls i O f d).before a0 Z = true) (hd : decode bytes pc = .ok (.getfield i, 3)) (F : Fld Z h a O f d v) (hp : pc + 3 = pc') (w : Wp X k n h pc' ls (v :: st)) : Wp X k n h pc ls (.ref a :: st) := by
  subst hp
  refine Wp.to C (P := fun h' st' => h' = h ∧ st' = v :: st) (fun X hX C T locs S e => ?_) (fun h' st' q => by obtain ⟨rfl, rfl⟩ := q; exact w)
  obtain ⟨T', S', e', st⟩ := getF S C.1 C.2.1 (host := "") C.2.2.1 (Or.inl hw) Via.refl e F (g := mkF X.m pc ls (.ref a :: st)) rfl rfl (hb C.2.2.2.1 hd)
  exact ⟨T', [], h, _, by rw [toL]; exact S', e', Fr.nil _, Nat.le_refl _, ⟨rfl, rfl⟩, st⟩
theorem w_getstatic (C : Hand X Z y bytes mx rt R n0 Q) {i : Nat} {O f d : String} {v : Value} (hw : (Jvm.Cond.fieldLink y.cls i O f d).before a0 Z = true) (hd : decode bytes pc = .ok (.getstatic i, 3)) (F : Sta Z h O f d v) (hp : pc + 3 = pc') (w : Wp X k n h pc' ls (v :: st)) : Wp X k n h pc ls st := by
  subst hp
  refine Wp.to C (P := fun h' st' => h' = h ∧ st' = v :: st) (fun X hX C T locs S e => ?_) (fun h' st' q => by obtain ⟨rfl, rfl⟩ := q; exact w)
  obtain ⟨T', S', e', st⟩ := getS S C.1 C.2.1 (host := "") C.2.2.1 hw Via.refl e F (g := mkF X.m pc ls st) rfl (hb C.2.2.2.1 hd)
  exact ⟨T', [], h, _, by rw [toL]; exact S', e', Fr.nil _, Nat.le_refl _, ⟨rfl, rfl⟩, st⟩
theorem w_putfield (C : Hand X Z y bytes mx rt R n0 Q) {i kk : Nat} {O f d K : String} {t : FieldType} {v old : Value} (hw : (Jvm.Cond.fieldLink y.cls i O f d).before a0 Z = true) (L : (Jvm.Cond.lays K O f d).before a0 Z = true ∨ ((Jvm.Cond.laysFinal K O f d).before a0 Z = true ∧ y.cls = O ∧ y.name = "<init>")) (wi : (Jvm.Cond.instantiable K kk).before a0 Z = true)
    (hd : decode bytes pc = .ok (.putfield i, 3)) (F : Fld Z h a O f d old) (E : Exa Z h a K) (hn : n0 ≤ a) (ht : parseFieldDescriptor d = some t) (hv : narrow t v = v) (hf : fits t v = true) (hp : pc + 3 = pc')
    (w : ∀ h', Wr h h' a (Jvm.RoadKit.slotOf Z O f d) v → Fld Z h' a O f d v → Exa Z h' a K → Wp X k n h' pc' ls st) : Wp X k n h pc ls (v :: .ref a :: st) := by
  subst hp
  refine Wp.to C (P := fun h' st' => st' = st ∧ Wr h h' a (Jvm.RoadKit.slotOf Z O f d) v) (fun X hX C T locs S e => ?_) (fun h' st' q => by obtain ⟨rfl, W⟩ := q; exact w h' W (F.same W) (E.wr W))
  obtain ⟨T', h', S', e', W', st⟩ := putF S C.1 C.2.1 (host := "") C.2.2.1 (Or.inl hw) Via.refl e F E (L.imp id fun q => ⟨q.1, q.2.1, C.2.2.2.2.2.2.2.2.2.1.trans q.2.2⟩) wi ht hv hf (g := mkF X.m pc ls (v :: .ref a :: st)) rfl rfl (hb C.2.2.2.1 hd)
  exact ⟨T', _, h', _, S', e', fun q hq => by cases List.mem_singleton.mp hq; rw [C.2.2.2.2.2.2.2.2.2.2.1]; exact hn, Nat.le_of_eq W'.size.symm, ⟨rfl, W'⟩, st⟩
/-! calls -/
variable {i W : Nat} {y' z : MethodName} {bytes' : ByteArray} {mx' : Nat} {rt' : Option FieldType} {R' : Room} {Q' : Option Value → Heap → Prop} {argsL rest : List Value} {ps : List FieldType}
theorem w_static (C : Hand X Z y bytes mx rt R n0 Q) (hw1 : (Jvm.Cond.methodLink y.cls i y').before a0 Z = true) (hw2 : (Jvm.Cond.static y').before a0 Z = true) (hw3 : (Jvm.Cond.initialized y'.cls).before a0 Z = true) (hw4 : (Jvm.Cond.code y' bytes' mx' rt').before a0 Z = true)
    (hy : y'.cls ≠ "java/lang/invoke/MethodHandle" ∧ y'.cls ≠ "java/lang/invoke/VarHandle") (hpd : parseMethodDescriptor y'.desc = some ⟨ps, rt'⟩) (hd : decode bytes pc = .ok (.invokestatic i, 3)) (K : Ct X.l Z y' bytes' mx' rt' R' n0 [] argsL.toArray h Q')
    (hlen : argsL.length = ps.length) (hst : st = argsL.reverse ++ rest) (hls : ls.size = mx) (hf : R'.frames + 1 ≤ R.frames) (hW : (rest.map fun v => v.category).sum = W) (hl : W + (mx' + 11) + R'.locals ≤ R.locals) (hc : k + R'.cells ≤ R.cells) (hs : n + R'.slots ≤ R.slots) (hp : pc + 3 = pc')
    (w : ∀ v h', Q' v h' → Wp X (k + R'.cells) (n + R'.slots) h' pc' ls (v.toList ++ rest)) : Wp X k n h pc ls st := by
  subst hp hst hW
  refine Wp.to C (P := fun h' st' => ∃ v, st' = v.toList ++ rest ∧ Q' v h') (fun X hX C T locs S e => ?_) (fun h' st' q => by obtain ⟨v, rfl, q⟩ := q; exact w v h' q)
  have K : Ct X.l Z y' bytes' mx' rt' R' n0 [] argsL.toArray h Q' := by rw [hX]; exact K
  have eR := C.2.2.2.2.2.2.2.1
  obtain ⟨v, _, ⟨T', L', k', n'⟩, -, S', ⟨Lc, hQ, l1, y1, z1⟩, st⟩ := Jvm.LawKit.callS S C.1 (y := y') C.2.2.1 (mvT C.2.1 hw1) (mvT C.2.1 hw2) (mvT C.2.1 hw3) (mvT C.2.1 hw4) hy (backOf (W := (rest.map fun v => v.category).sum) (Q := fun v h' L => (Q' v h' ∧ h.size ≤ h'.size) ∧ Fr n0 L) K C.2.1 hw4 hw3 (by rw [eR]; exact hf) (by rw [eR]; exact hl)) (g := mkF X.m pc ls (argsL.reverse ++ rest)) rfl (by rw [C.2.2.2.2.1]; exact hls) (argsL := argsL) (rest := rest) (lenOf hpd hlen) rfl (by show 2 * 0 + _ ≤ _; omega) (hb C.2.2.2.1 hd) (fun _ _ => ⟨rfl, e, by rw [eR]; exact hc, by rw [eR]; exact hs⟩)
  dsimp only [Pt.U, Pt.locs, Pt.cells, Pt.slots] at S' l1 y1 z1 st hQ
  subst l1 y1 z1
  exact ⟨T', Lc, T'.heap, _, S', rfl, by rw [C.2.2.2.2.2.2.2.2.2.2.1]; exact hQ.2, hQ.1.2, ⟨v, rfl, hQ.1.1⟩, st⟩
theorem w_special (C : Hand X Z y bytes mx rt R n0 Q) (hw1 : (Jvm.Cond.methodLink y.cls i y').before a0 Z = true) (hw2 : (Jvm.Cond.instanceMethod y').before a0 Z = true) (hw3 : (Jvm.Cond.initialized y'.cls).before a0 Z = true) (hw4 : (Jvm.Cond.code y' bytes' mx' none).before a0 Z = true)
    (hy1 : y'.name = "<init>") (hy : y'.cls ≠ "java/lang/invoke/MethodHandle" ∧ y'.cls ≠ "java/lang/invoke/VarHandle") (hpd : parseMethodDescriptor y'.desc = some ⟨ps, none⟩) (hd : decode bytes pc = .ok (.invokespecial i, 3)) (K : Ct X.l Z y' bytes' mx' none R' n0 [] (.ref a :: argsL).toArray h Q')
    (hlen : argsL.length = ps.length) (hst : st = argsL.reverse ++ .ref a :: rest) (hls : ls.size = mx) (hf : R'.frames + 1 ≤ R.frames) (hW : (rest.map fun v => v.category).sum = W) (hl : W + (mx' + 11) + R'.locals ≤ R.locals) (hc : k + R'.cells ≤ R.cells) (hs : n + R'.slots ≤ R.slots) (hp : pc + 3 = pc')
    (w : ∀ v h', Q' v h' → Wp X (k + R'.cells) (n + R'.slots) h' pc' ls (v.toList ++ rest)) : Wp X k n h pc ls st := by
  subst hp hst hW
  refine Wp.to C (P := fun h' st' => ∃ v, st' = v.toList ++ rest ∧ Q' v h') (fun X hX C T locs S e => ?_) (fun h' st' q => by obtain ⟨v, rfl, q⟩ := q; exact w v h' q)
  have K : Ct X.l Z y' bytes' mx' none R' n0 [] (.ref a :: argsL).toArray h Q' := by rw [hX]; exact K
  have eR := C.2.2.2.2.2.2.2.1
  obtain ⟨v, _, ⟨T', L', k', n'⟩, -, S', ⟨Lc, hQ, l1, y1, z1⟩, st⟩ := S.specialBack C.1 (y := y') hy1 C.2.2.1 (mvT C.2.1 hw1) (mvT C.2.1 hw2) (mvT C.2.1 hw4) hy (backOf (W := (rest.map fun v => v.category).sum) (Q := fun v h' L => (Q' v h' ∧ h.size ≤ h'.size) ∧ Fr n0 L) K C.2.1 hw4 hw3 (by rw [eR]; exact hf) (by rw [eR]; exact hl)) (g := mkF X.m pc ls (argsL.reverse ++ .ref a :: rest)) rfl (by rw [C.2.2.2.2.1]; exact hls) (Steps.refl _) (a := a) (argsL := argsL) (rest := rest) (lenOf hpd hlen) rfl (by show 2 * 0 + _ ≤ _; omega) (hb C.2.2.2.1 hd) (fun _ _ => ⟨rfl, e, by rw [eR]; exact hc, by rw [eR]; exact hs⟩)
  dsimp only [Pt.U, Pt.locs, Pt.cells, Pt.slots] at S' l1 y1 z1 st hQ
  subst l1 y1 z1
  exact ⟨T', Lc, T'.heap, _, S', rfl, by rw [C.2.2.2.2.2.2.2.2.2.2.1]; exact hQ.2, hQ.1.2, ⟨v, rfl, hQ.1.1⟩, fun t q => st.trans q⟩
theorem w_virtual (C : Hand X Z y bytes mx rt R n0 Q) {K0 : String} (hw1 : (Jvm.Cond.methodLink y.cls i y').before a0 Z = true) (hw2 : (Jvm.Cond.declares y').before a0 Z = true) (hw5 : (Jvm.Cond.selects K0 y' y').before a0 Z = true) (hw6 : (Jvm.Cond.instanceMethod y').before a0 Z = true) (hw3 : (Jvm.Cond.initialized y'.cls).before a0 Z = true) (hw4 : (Jvm.Cond.code y' bytes' mx' rt').before a0 Z = true)
    (hy : y'.cls ≠ "java/lang/invoke/MethodHandle" ∧ y'.cls ≠ "java/lang/invoke/VarHandle") (hpd : parseMethodDescriptor y'.desc = some ⟨ps, rt'⟩) (hd : decode bytes pc = .ok (.invokevirtual i, 3)) (E : Exa Z h a K0) (K : Ct X.l Z y' bytes' mx' rt' R' n0 [] (.ref a :: argsL).toArray h Q')
    (hlen : argsL.length = ps.length) (hst : st = argsL.reverse ++ .ref a :: rest) (hls : ls.size = mx) (hf : R'.frames + 1 ≤ R.frames) (hW : (rest.map fun v => v.category).sum = W) (hl : W + (mx' + 11) + R'.locals ≤ R.locals) (hc : k + R'.cells ≤ R.cells) (hs : n + R'.slots ≤ R.slots) (hp : pc + 3 = pc')
    (w : ∀ v h', Q' v h' → Wp X (k + R'.cells) (n + R'.slots) h' pc' ls (v.toList ++ rest)) : Wp X k n h pc ls st := by
  subst hp hst hW
  refine Wp.to C (P := fun h' st' => ∃ v, st' = v.toList ++ rest ∧ Q' v h') (fun X hX C T locs S e => ?_) (fun h' st' q => by obtain ⟨v, rfl, q⟩ := q; exact w v h' q)
  have K : Ct X.l Z y' bytes' mx' rt' R' n0 [] (.ref a :: argsL).toArray h Q' := by rw [hX]; exact K
  have eR := C.2.2.2.2.2.2.2.1
  obtain ⟨cq, kq, qa, qb, qc⟩ := isOf C.2.1 e E
  obtain ⟨v, _, ⟨T', L', k', n'⟩, -, S', ⟨Lc, hQ, l1, y1, z1⟩, st⟩ := S.virtualBack C.1 (y := y') (z := y') C.2.2.1 (mvT C.2.1 hw1) (mvT C.2.1 hw2) (notFace_of_selects (args := #[]) (mvT C.2.1 hw5)) (mvT C.2.1 hw5) (mvT C.2.1 hw6) hy (backOf (W := (rest.map fun v => v.category).sum) (Q := fun v h' L => (Q' v h' ∧ h.size ≤ h'.size) ∧ Fr n0 L) K C.2.1 hw4 hw3 (by rw [eR]; exact hf) (by rw [eR]; exact hl)) qa qc (g := mkF X.m pc ls (argsL.reverse ++ .ref a :: rest)) rfl (by rw [C.2.2.2.2.1]; exact hls) (Steps.refl _) (argsL := argsL) (rest := rest) (lenOf hpd hlen) rfl (by show 2 * 0 + _ ≤ _; omega) (hb C.2.2.2.1 hd) (fun _ _ => ⟨rfl, e, by rw [eR]; exact hc, by rw [eR]; exact hs⟩)
  dsimp only [Pt.U, Pt.locs, Pt.cells, Pt.slots] at S' l1 y1 z1 st hQ
  subst l1 y1 z1
  exact ⟨T', Lc, T'.heap, _, S', rfl, by rw [C.2.2.2.2.2.2.2.2.2.2.1]; exact hQ.2, hQ.1.2, ⟨v, rfl, hQ.1.1⟩, fun t q => st.trans q⟩
theorem w_private (C : Hand X Z y bytes mx rt R n0 Q) {K0 : String} {nn : Nat} (hw1 : (Jvm.Cond.methodLink y.cls i y').before a0 Z = true) (hw6 : (Jvm.Cond.instanceMethod y').before a0 Z = true) (wp : (Jvm.Cond.privateMethod y').before a0 Z = true) (wi : (Jvm.Cond.instantiable y'.cls nn).before a0 Z = true) (hw3 : (Jvm.Cond.initialized y'.cls).before a0 Z = true) (hw4 : (Jvm.Cond.code y' bytes' mx' rt').before a0 Z = true)
    (hy : y'.cls ≠ "java/lang/invoke/MethodHandle" ∧ y'.cls ≠ "java/lang/invoke/VarHandle") (hpd : parseMethodDescriptor y'.desc = some ⟨ps, rt'⟩) (hd : decode bytes pc = .ok (.invokevirtual i, 3)) (E : Exa Z h a K0) (K : Ct X.l Z y' bytes' mx' rt' R' n0 [] (.ref a :: argsL).toArray h Q')
    (hlen : argsL.length = ps.length) (hst : st = argsL.reverse ++ .ref a :: rest) (hls : ls.size = mx) (hf : R'.frames + 1 ≤ R.frames) (hW : (rest.map fun v => v.category).sum = W) (hl : W + (mx' + 11) + R'.locals ≤ R.locals) (hc : k + R'.cells ≤ R.cells) (hs : n + R'.slots ≤ R.slots) (hp : pc + 3 = pc')
    (w : ∀ v h', Q' v h' → Wp X (k + R'.cells) (n + R'.slots) h' pc' ls (v.toList ++ rest)) : Wp X k n h pc ls st := by
  subst hp hst hW
  refine Wp.to C (P := fun h' st' => ∃ v, st' = v.toList ++ rest ∧ Q' v h') (fun X hX C T locs S e => ?_) (fun h' st' q => by obtain ⟨v, rfl, q⟩ := q; exact w v h' q)
  have K : Ct X.l Z y' bytes' mx' rt' R' n0 [] (.ref a :: argsL).toArray h Q' := by rw [hX]; exact K
  have eR := C.2.2.2.2.2.2.2.1
  have pv : X.s.PrivateAt y' := Cond.privateMethod_at (mvP C.2.1 wp (args := X.args))
  have hin : (Jvm.Cond.instanceMethod y').before X.args X.s = true := mvT C.2.1 hw6
  obtain ⟨ck, kk, f1, f2, -, f4, -⟩ := Cond.instantiable_spec (mvT (args := X.args) C.2.1 wi)
  have hsel := selects_self_of_private f1 f2 (by rw [Bool.or_eq_false_iff] at f4; exact f4.1) pv hin hy
  obtain ⟨cq, qa, qb⟩ := E.cell
  obtain ⟨v, _, ⟨T', L', k', n'⟩, -, S', ⟨Lc, hQ, l1, y1, z1⟩, st⟩ := S.privateBack C.1 (y := y') C.2.2.1 (mvT C.2.1 hw1) hin hsel pv (mvT C.2.1 hw4) hy (backOf (W := (rest.map fun v => v.category).sum) (Q := fun v h' L => (Q' v h' ∧ h.size ≤ h'.size) ∧ Fr n0 L) K C.2.1 hw4 hw3 (by rw [eR]; exact hf) (by rw [eR]; exact hl)) (g := mkF X.m pc ls (argsL.reverse ++ .ref a :: rest)) rfl (by rw [C.2.2.2.2.1]; exact hls) (Steps.refl _) (a := a) (by rw [e]; exact qa) qb (argsL := argsL) (rest := rest) (lenOf hpd hlen) rfl (by show 2 * 0 + _ ≤ _; omega) (hb C.2.2.2.1 hd) (fun _ _ => ⟨rfl, e, by rw [eR]; exact hc, by rw [eR]; exact hs⟩)
  dsimp only [Pt.U, Pt.locs, Pt.cells, Pt.slots] at S' l1 y1 z1 st hQ
  subst l1 y1 z1
  exact ⟨T', Lc, T'.heap, _, S', rfl, by rw [C.2.2.2.2.2.2.2.2.2.2.1]; exact hQ.2, hQ.1.2, ⟨v, rfl, hQ.1.1⟩, fun t q => st.trans q⟩
end OwnLaws
theorem tw {a0 : Array Value} {Z : State} (hw : ∀ d ∈ tables_1, d.before a0 Z = true) (i : Nat) {d : Jvm.Cond} (q : tables_1[i]? = some d) : d.before a0 Z = true := hw d (List.mem_of_getElem? q)
theorem pn_0 : plainFor (⟨"com/example/runnel/runnel/runtime/RecordBufferMemoryPinLaw", "law", "(IIJJJI)Z"⟩ : MethodName) = true := plainFor_of_name (by first | (simp [plainName, overriddenIn]; done) | decide +kernel)
abbrev y0 : MethodName := ⟨"com/example/runnel/runnel/runtime/RecordBufferMemoryPinLaw", "law", "(IIJJJI)Z"⟩
theorem ef_0 (x0 : Int32) (x1 : Int32) (x2 : Int64) (x3 : Int64) (x4 : Int64) (x5 : Int32) (m : MethodId) : entryFrame m #[(.int x0), (.int x1), (.long x2), (.long x3), (.long x4), (.int x5)] maxLocals = mkF m 0 #[.val (.int x0), .val (.int x1), .val (.long x2), .second, .val (.long x3), .second, .val (.long x4), .second, .val (.int x5), .unset, .unset, .unset, .unset, .unset, .unset, .unset, .unset, .unset, .unset, .unset, .unset, .unset, .unset, .unset, .unset, .unset, .unset, .unset, .unset, .unset, .unset, .unset, .unset, .unset, .unset, .unset, .unset, .unset, .unset, .unset, .unset] [] := by first | (simp [entryFrame, mkF, argsToLocals, Value.category, maxLocals]; done) | rfl
theorem d1_0 : decode method_3_code 0 = .ok (.iload_n 0, 1) := by decide +kernel
theorem d1_1 : decode method_3_code 1 = .ok (.bipush 8, 2) := by decide +kernel
theorem d1_3 : decode method_3_code 3 = .ok (.if_icmp .ne 9, 3) := by decide +kernel
theorem d1_6 : decode method_3_code 6 = .ok (.ldc2_w 7, 3) := by decide +kernel
theorem d1_9 : decode method_3_code 9 = .ok (.goto 11, 3) := by decide +kernel
theorem d1_12 : decode method_3_code 12 = .ok (.lconst 1, 1) := by decide +kernel
theorem d1_13 : decode method_3_code 13 = .ok (.bipush 8, 2) := by decide +kernel
theorem d1_15 : decode method_3_code 15 = .ok (.iload_n 0, 1) := by decide +kernel
theorem d1_16 : decode method_3_code 16 = .ok (.imul, 1) := by decide +kernel
theorem d1_17 : decode method_3_code 17 = .ok (.lshl, 1) := by decide +kernel
theorem d1_18 : decode method_3_code 18 = .ok (.lconst 1, 1) := by decide +kernel
theorem d1_19 : decode method_3_code 19 = .ok (.lsub, 1) := by decide +kernel
theorem d1_20 : decode method_3_code 20 = .ok (.lreturn, 1) := by decide +kernel
theorem pn_1 : plainFor (⟨"com/example/runnel/runnel/runtime/RecordBufferMemoryPinLaw", "maskOf", "(I)J"⟩ : MethodName) = true := plainFor_of_name (by first | (simp [plainName, overriddenIn]; done) | decide +kernel)
abbrev y1 : MethodName := ⟨"com/example/runnel/runnel/runtime/RecordBufferMemoryPinLaw", "maskOf", "(I)J"⟩
theorem ef_1 (x0 : Int32) (m : MethodId) : entryFrame m #[(.int x0)] 1 = mkF m 0 #[.val (.int x0)] [] := by first | (simp [entryFrame, mkF, argsToLocals, Value.category]; done) | rfl
theorem d2_0 : decode method_2_code 0 = .ok (.bipush 8, 2) := by decide +kernel
theorem d2_2 : decode method_2_code 2 = .ok (.newarray .byte, 2) := by decide +kernel
theorem d2_4 : decode method_2_code 4 = .ok (.astore_n 2, 1) := by decide +kernel
theorem d2_5 : decode method_2_code 5 = .ok (.aload_n 2, 1) := by decide +kernel
theorem d2_6 : decode method_2_code 6 = .ok (.iconst 0, 1) := by decide +kernel
theorem d2_7 : decode method_2_code 7 = .ok (.lload_n 0, 1) := by decide +kernel
theorem d2_8 : decode method_2_code 8 = .ok (.l2i, 1) := by decide +kernel
theorem d2_9 : decode method_2_code 9 = .ok (.i2b, 1) := by decide +kernel
theorem d2_10 : decode method_2_code 10 = .ok (.bastore, 1) := by decide +kernel
theorem d2_11 : decode method_2_code 11 = .ok (.aload_n 2, 1) := by decide +kernel
theorem d2_12 : decode method_2_code 12 = .ok (.iconst 1, 1) := by decide +kernel
theorem d2_13 : decode method_2_code 13 = .ok (.lload_n 0, 1) := by decide +kernel
theorem d2_14 : decode method_2_code 14 = .ok (.bipush 8, 2) := by decide +kernel
theorem d2_16 : decode method_2_code 16 = .ok (.lushr, 1) := by decide +kernel
theorem d2_17 : decode method_2_code 17 = .ok (.l2i, 1) := by decide +kernel
theorem d2_18 : decode method_2_code 18 = .ok (.i2b, 1) := by decide +kernel
theorem d2_19 : decode method_2_code 19 = .ok (.bastore, 1) := by decide +kernel
theorem d2_20 : decode method_2_code 20 = .ok (.aload_n 2, 1) := by decide +kernel
theorem d2_21 : decode method_2_code 21 = .ok (.iconst 2, 1) := by decide +kernel
theorem d2_22 : decode method_2_code 22 = .ok (.lload_n 0, 1) := by decide +kernel
theorem d2_23 : decode method_2_code 23 = .ok (.bipush 16, 2) := by decide +kernel
theorem d2_25 : decode method_2_code 25 = .ok (.lushr, 1) := by decide +kernel
theorem d2_26 : decode method_2_code 26 = .ok (.l2i, 1) := by decide +kernel
theorem d2_27 : decode method_2_code 27 = .ok (.i2b, 1) := by decide +kernel
theorem d2_28 : decode method_2_code 28 = .ok (.bastore, 1) := by decide +kernel
theorem d2_29 : decode method_2_code 29 = .ok (.aload_n 2, 1) := by decide +kernel
theorem d2_30 : decode method_2_code 30 = .ok (.iconst 3, 1) := by decide +kernel
theorem d2_31 : decode method_2_code 31 = .ok (.lload_n 0, 1) := by decide +kernel
theorem d2_32 : decode method_2_code 32 = .ok (.bipush 24, 2) := by decide +kernel
theorem d2_34 : decode method_2_code 34 = .ok (.lushr, 1) := by decide +kernel
theorem d2_35 : decode method_2_code 35 = .ok (.l2i, 1) := by decide +kernel
theorem d2_36 : decode method_2_code 36 = .ok (.i2b, 1) := by decide +kernel
theorem d2_37 : decode method_2_code 37 = .ok (.bastore, 1) := by decide +kernel
theorem d2_38 : decode method_2_code 38 = .ok (.aload_n 2, 1) := by decide +kernel
theorem d2_39 : decode method_2_code 39 = .ok (.iconst 4, 1) := by decide +kernel
theorem d2_40 : decode method_2_code 40 = .ok (.lload_n 0, 1) := by decide +kernel
theorem d2_41 : decode method_2_code 41 = .ok (.bipush 32, 2) := by decide +kernel
theorem d2_43 : decode method_2_code 43 = .ok (.lushr, 1) := by decide +kernel
theorem d2_44 : decode method_2_code 44 = .ok (.l2i, 1) := by decide +kernel
theorem d2_45 : decode method_2_code 45 = .ok (.i2b, 1) := by decide +kernel
theorem d2_46 : decode method_2_code 46 = .ok (.bastore, 1) := by decide +kernel
theorem d2_47 : decode method_2_code 47 = .ok (.aload_n 2, 1) := by decide +kernel
theorem d2_48 : decode method_2_code 48 = .ok (.iconst 5, 1) := by decide +kernel
theorem d2_49 : decode method_2_code 49 = .ok (.lload_n 0, 1) := by decide +kernel
theorem d2_50 : decode method_2_code 50 = .ok (.bipush 40, 2) := by decide +kernel
theorem d2_52 : decode method_2_code 52 = .ok (.lushr, 1) := by decide +kernel
theorem d2_53 : decode method_2_code 53 = .ok (.l2i, 1) := by decide +kernel
theorem d2_54 : decode method_2_code 54 = .ok (.i2b, 1) := by decide +kernel
theorem d2_55 : decode method_2_code 55 = .ok (.bastore, 1) := by decide +kernel
theorem d2_56 : decode method_2_code 56 = .ok (.aload_n 2, 1) := by decide +kernel
theorem d2_57 : decode method_2_code 57 = .ok (.bipush 6, 2) := by decide +kernel
theorem d2_59 : decode method_2_code 59 = .ok (.lload_n 0, 1) := by decide +kernel
theorem d2_60 : decode method_2_code 60 = .ok (.bipush 48, 2) := by decide +kernel
theorem d2_62 : decode method_2_code 62 = .ok (.lushr, 1) := by decide +kernel
theorem d2_63 : decode method_2_code 63 = .ok (.l2i, 1) := by decide +kernel
theorem d2_64 : decode method_2_code 64 = .ok (.i2b, 1) := by decide +kernel
theorem d2_65 : decode method_2_code 65 = .ok (.bastore, 1) := by decide +kernel
theorem d2_66 : decode method_2_code 66 = .ok (.aload_n 2, 1) := by decide +kernel
theorem d2_67 : decode method_2_code 67 = .ok (.bipush 7, 2) := by decide +kernel
theorem d2_69 : decode method_2_code 69 = .ok (.lload_n 0, 1) := by decide +kernel
theorem d2_70 : decode method_2_code 70 = .ok (.bipush 56, 2) := by decide +kernel
theorem d2_72 : decode method_2_code 72 = .ok (.lushr, 1) := by decide +kernel
theorem d2_73 : decode method_2_code 73 = .ok (.l2i, 1) := by decide +kernel
theorem d2_74 : decode method_2_code 74 = .ok (.i2b, 1) := by decide +kernel
theorem d2_75 : decode method_2_code 75 = .ok (.bastore, 1) := by decide +kernel
theorem d2_76 : decode method_2_code 76 = .ok (.aload_n 2, 1) := by decide +kernel
theorem d2_77 : decode method_2_code 77 = .ok (.areturn, 1) := by decide +kernel
theorem pn_2 : plainFor (⟨"com/example/runnel/runnel/runtime/RecordBufferMemoryPinLaw", "bytesOf", "(J)[B"⟩ : MethodName) = true := plainFor_of_name (by first | (simp [plainName, overriddenIn]; done) | decide +kernel)
abbrev y2 : MethodName := ⟨"com/example/runnel/runnel/runtime/RecordBufferMemoryPinLaw", "bytesOf", "(J)[B"⟩
theorem ef_2 (x0 : Int64) (m : MethodId) : entryFrame m #[(.long x0)] 3 = mkF m 0 #[.val (.long x0), .second, .unset] [] := by first | (simp [entryFrame, mkF, argsToLocals, Value.category]; done) | rfl
theorem d3_0 : decode prog_58_method_1_code 0 = .ok (.aload_n 0, 1) := by decide +kernel
theorem d3_1 : decode prog_58_method_1_code 1 = .ok (.invokespecial 3, 3) := by decide +kernel
theorem d3_4 : decode prog_58_method_1_code 4 = .ok (.aload_n 0, 1) := by decide +kernel
theorem d3_5 : decode prog_58_method_1_code 5 = .ok (.iload_n 1, 1) := by decide +kernel
theorem d3_6 : decode prog_58_method_1_code 6 = .ok (.newarray .byte, 2) := by decide +kernel
theorem d3_8 : decode prog_58_method_1_code 8 = .ok (.putfield 9, 3) := by decide +kernel
theorem d3_11 : decode prog_58_method_1_code 11 = .ok (.return_, 1) := by decide +kernel
theorem pn_3 : plainFor (⟨"com/example/runnel/runnel/runtime/Bytes", "<init>", "(I)V"⟩ : MethodName) = true := plainFor_of_name (by first | (simp [plainName, overriddenIn]; done) | decide +kernel)
abbrev y3 : MethodName := ⟨"com/example/runnel/runnel/runtime/Bytes", "<init>", "(I)V"⟩
theorem ef_3 (x0 : Addr) (x1 : Int32) (m : MethodId) : entryFrame m #[(.ref x0), (.int x1)] 2 = mkF m 0 #[.val (.ref x0), .val (.int x1)] [] := by first | (simp [entryFrame, mkF, argsToLocals, Value.category]; done) | rfl
theorem d4_0 : decode jdk_2038_method_1_code 0 = .ok (.aload_n 0, 1) := by decide +kernel
theorem d4_1 : decode jdk_2038_method_1_code 1 = .ok (.invokespecial 1, 3) := by decide +kernel
theorem d4_4 : decode jdk_2038_method_1_code 4 = .ok (.return_, 1) := by decide +kernel
theorem pn_4 : plainFor (⟨"java/io/OutputStream", "<init>", "()V"⟩ : MethodName) = true := plainFor_of_name (by first | (simp [plainName, overriddenIn]; done) | decide +kernel)
abbrev y4 : MethodName := ⟨"java/io/OutputStream", "<init>", "()V"⟩
theorem ef_4 (x0 : Addr) (m : MethodId) : entryFrame m #[(.ref x0)] 1 = mkF m 0 #[.val (.ref x0)] [] := by first | (simp [entryFrame, mkF, argsToLocals, Value.category]; done) | rfl
theorem d5_0 : decode object_method_1_code 0 = .ok (.return_, 1) := by decide +kernel
abbrev y5 : MethodName := ⟨"java/lang/Object", "<init>", "()V"⟩
theorem ef_5 (x0 : Addr) (m : MethodId) : entryFrame m #[(.ref x0)] 1 = mkF m 0 #[.val (.ref x0)] [] := by first | (simp [entryFrame, mkF, argsToLocals, Value.category]; done) | rfl
theorem d6_0 : decode prog_58_method_8_code 0 = .ok (.aload_n 0, 1) := by decide +kernel
theorem d6_1 : decode prog_58_method_8_code 1 = .ok (.iload_n 3, 1) := by decide +kernel
theorem d6_2 : decode prog_58_method_8_code 2 = .ok (.invokevirtual 25, 3) := by decide +kernel
theorem d6_5 : decode prog_58_method_8_code 5 = .ok (.aload_n 1, 1) := by decide +kernel
theorem d6_6 : decode prog_58_method_8_code 6 = .ok (.iload_n 2, 1) := by decide +kernel
theorem d6_7 : decode prog_58_method_8_code 7 = .ok (.aload_n 0, 1) := by decide +kernel
theorem d6_8 : decode prog_58_method_8_code 8 = .ok (.getfield 9, 3) := by decide +kernel
theorem d6_11 : decode prog_58_method_8_code 11 = .ok (.aload_n 0, 1) := by decide +kernel
theorem d6_12 : decode prog_58_method_8_code 12 = .ok (.getfield 15, 3) := by decide +kernel
theorem d6_15 : decode prog_58_method_8_code 15 = .ok (.iload_n 3, 1) := by decide +kernel
theorem d6_16 : decode prog_58_method_8_code 16 = .ok (.invokestatic 29, 3) := by decide +kernel
theorem d6_19 : decode prog_58_method_8_code 19 = .ok (.aload_n 0, 1) := by decide +kernel
theorem d6_20 : decode prog_58_method_8_code 20 = .ok (.dup, 1) := by decide +kernel
theorem d6_21 : decode prog_58_method_8_code 21 = .ok (.getfield 15, 3) := by decide +kernel
theorem d6_24 : decode prog_58_method_8_code 24 = .ok (.iload_n 3, 1) := by decide +kernel
theorem d6_25 : decode prog_58_method_8_code 25 = .ok (.iadd, 1) := by decide +kernel
theorem d6_26 : decode prog_58_method_8_code 26 = .ok (.putfield 15, 3) := by decide +kernel
theorem d6_29 : decode prog_58_method_8_code 29 = .ok (.return_, 1) := by decide +kernel
theorem pn_6 : plainFor (⟨"com/example/runnel/runnel/runtime/Bytes", "write", "([BII)V"⟩ : MethodName) = true := plainFor_of_name (by first | (simp [plainName, overriddenIn]; done) | decide +kernel)
abbrev y6 : MethodName := ⟨"com/example/runnel/runnel/runtime/Bytes", "write", "([BII)V"⟩
theorem ef_6 (x0 : Addr) (x1 : Addr) (x2 : Int32) (x3 : Int32) (m : MethodId) : entryFrame m #[(.ref x0), (.ref x1), (.int x2), (.int x3)] 4 = mkF m 0 #[.val (.ref x0), .val (.ref x1), .val (.int x2), .val (.int x3)] [] := by first | (simp [entryFrame, mkF, argsToLocals, Value.category]; done) | rfl
theorem d7_0 : decode prog_58_method_12_code 0 = .ok (.iload_n 1, 1) := by decide +kernel
theorem d7_1 : decode prog_58_method_12_code 1 = .ok (.aload_n 0, 1) := by decide +kernel
theorem d7_2 : decode prog_58_method_12_code 2 = .ok (.getfield 9, 3) := by decide +kernel
theorem d7_5 : decode prog_58_method_12_code 5 = .ok (.arraylength, 1) := by decide +kernel
theorem d7_6 : decode prog_58_method_12_code 6 = .ok (.aload_n 0, 1) := by decide +kernel
theorem d7_7 : decode prog_58_method_12_code 7 = .ok (.getfield 15, 3) := by decide +kernel
theorem d7_10 : decode prog_58_method_12_code 10 = .ok (.isub, 1) := by decide +kernel
theorem d7_11 : decode prog_58_method_12_code 11 = .ok (.if_icmp .le 25, 3) := by decide +kernel
theorem d7_14 : decode prog_58_method_12_code 14 = .ok (.aload_n 0, 1) := by decide +kernel
theorem d7_15 : decode prog_58_method_12_code 15 = .ok (.aload_n 0, 1) := by decide +kernel
theorem d7_16 : decode prog_58_method_12_code 16 = .ok (.getfield 15, 3) := by decide +kernel
theorem d7_19 : decode prog_58_method_12_code 19 = .ok (.iload_n 1, 1) := by decide +kernel
theorem d7_20 : decode prog_58_method_12_code 20 = .ok (.invokestatic 55, 3) := by decide +kernel
theorem d7_23 : decode prog_58_method_12_code 23 = .ok (.iconst 2, 1) := by decide +kernel
theorem d7_24 : decode prog_58_method_12_code 24 = .ok (.aload_n 0, 1) := by decide +kernel
theorem d7_25 : decode prog_58_method_12_code 25 = .ok (.getfield 9, 3) := by decide +kernel
theorem d7_28 : decode prog_58_method_12_code 28 = .ok (.arraylength, 1) := by decide +kernel
theorem d7_29 : decode prog_58_method_12_code 29 = .ok (.imul, 1) := by decide +kernel
theorem d7_30 : decode prog_58_method_12_code 30 = .ok (.invokestatic 58, 3) := by decide +kernel
theorem d7_33 : decode prog_58_method_12_code 33 = .ok (.invokevirtual 61, 3) := by decide +kernel
theorem d7_36 : decode prog_58_method_12_code 36 = .ok (.return_, 1) := by decide +kernel
theorem pn_7 : plainFor (⟨"com/example/runnel/runnel/runtime/Bytes", "grow", "(I)V"⟩ : MethodName) = true := plainFor_of_name (by first | (simp [plainName, overriddenIn]; done) | decide +kernel)
abbrev y7 : MethodName := ⟨"com/example/runnel/runnel/runtime/Bytes", "grow", "(I)V"⟩
theorem ef_7 (x0 : Addr) (x1 : Int32) (m : MethodId) : entryFrame m #[(.ref x0), (.int x1)] 2 = mkF m 0 #[.val (.ref x0), .val (.int x1)] [] := by first | (simp [entryFrame, mkF, argsToLocals, Value.category]; done) | rfl
theorem d8_0 : decode prog_78_method_1_code 0 = .ok (.aload_n 0, 1) := by decide +kernel
theorem d8_1 : decode prog_78_method_1_code 1 = .ok (.invokespecial 1, 3) := by decide +kernel
theorem d8_4 : decode prog_78_method_1_code 4 = .ok (.aload_n 0, 1) := by decide +kernel
theorem d8_5 : decode prog_78_method_1_code 5 = .ok (.new 7, 3) := by decide +kernel
theorem d8_8 : decode prog_78_method_1_code 8 = .ok (.dup, 1) := by decide +kernel
theorem d8_9 : decode prog_78_method_1_code 9 = .ok (.sipush 256, 3) := by decide +kernel
theorem d8_12 : decode prog_78_method_1_code 12 = .ok (.invokespecial 11, 3) := by decide +kernel
theorem d8_15 : decode prog_78_method_1_code 15 = .ok (.putfield 14, 3) := by decide +kernel
theorem d8_18 : decode prog_78_method_1_code 18 = .ok (.aload_n 0, 1) := by decide +kernel
theorem d8_19 : decode prog_78_method_1_code 19 = .ok (.bipush 16, 2) := by decide +kernel
theorem d8_21 : decode prog_78_method_1_code 21 = .ok (.newarray .int, 2) := by decide +kernel
theorem d8_23 : decode prog_78_method_1_code 23 = .ok (.putfield 18, 3) := by decide +kernel
theorem d8_26 : decode prog_78_method_1_code 26 = .ok (.aload_n 0, 1) := by decide +kernel
theorem d8_27 : decode prog_78_method_1_code 27 = .ok (.bipush 16, 2) := by decide +kernel
theorem d8_29 : decode prog_78_method_1_code 29 = .ok (.newarray .int, 2) := by decide +kernel
theorem d8_31 : decode prog_78_method_1_code 31 = .ok (.putfield 22, 3) := by decide +kernel
theorem d8_34 : decode prog_78_method_1_code 34 = .ok (.aload_n 0, 1) := by decide +kernel
theorem d8_35 : decode prog_78_method_1_code 35 = .ok (.bipush 16, 2) := by decide +kernel
theorem d8_37 : decode prog_78_method_1_code 37 = .ok (.newarray .int, 2) := by decide +kernel
theorem d8_39 : decode prog_78_method_1_code 39 = .ok (.putfield 25, 3) := by decide +kernel
theorem d8_42 : decode prog_78_method_1_code 42 = .ok (.aload_n 0, 1) := by decide +kernel
theorem d8_43 : decode prog_78_method_1_code 43 = .ok (.bipush 16, 2) := by decide +kernel
theorem d8_45 : decode prog_78_method_1_code 45 = .ok (.newarray .int, 2) := by decide +kernel
theorem d8_47 : decode prog_78_method_1_code 47 = .ok (.putfield 28, 3) := by decide +kernel
theorem d8_50 : decode prog_78_method_1_code 50 = .ok (.aload_n 0, 1) := by decide +kernel
theorem d8_51 : decode prog_78_method_1_code 51 = .ok (.bipush 16, 2) := by decide +kernel
theorem d8_53 : decode prog_78_method_1_code 53 = .ok (.newarray .int, 2) := by decide +kernel
theorem d8_55 : decode prog_78_method_1_code 55 = .ok (.putfield 31, 3) := by decide +kernel
theorem d8_58 : decode prog_78_method_1_code 58 = .ok (.aload_n 0, 1) := by decide +kernel
theorem d8_59 : decode prog_78_method_1_code 59 = .ok (.bipush 16, 2) := by decide +kernel
theorem d8_61 : decode prog_78_method_1_code 61 = .ok (.newarray .int, 2) := by decide +kernel
theorem d8_63 : decode prog_78_method_1_code 63 = .ok (.putfield 34, 3) := by decide +kernel
theorem d8_66 : decode prog_78_method_1_code 66 = .ok (.aload_n 0, 1) := by decide +kernel
theorem d8_67 : decode prog_78_method_1_code 67 = .ok (.bipush 16, 2) := by decide +kernel
theorem d8_69 : decode prog_78_method_1_code 69 = .ok (.newarray .int, 2) := by decide +kernel
theorem d8_71 : decode prog_78_method_1_code 71 = .ok (.putfield 37, 3) := by decide +kernel
theorem d8_74 : decode prog_78_method_1_code 74 = .ok (.aload_n 0, 1) := by decide +kernel
theorem d8_75 : decode prog_78_method_1_code 75 = .ok (.bipush 16, 2) := by decide +kernel
theorem d8_77 : decode prog_78_method_1_code 77 = .ok (.newarray .long, 2) := by decide +kernel
theorem d8_79 : decode prog_78_method_1_code 79 = .ok (.putfield 40, 3) := by decide +kernel
theorem d8_82 : decode prog_78_method_1_code 82 = .ok (.aload_n 0, 1) := by decide +kernel
theorem d8_83 : decode prog_78_method_1_code 83 = .ok (.bipush 16, 2) := by decide +kernel
theorem d8_85 : decode prog_78_method_1_code 85 = .ok (.newarray .int, 2) := by decide +kernel
theorem d8_87 : decode prog_78_method_1_code 87 = .ok (.putfield 44, 3) := by decide +kernel
theorem d8_90 : decode prog_78_method_1_code 90 = .ok (.aload_n 0, 1) := by decide +kernel
theorem d8_91 : decode prog_78_method_1_code 91 = .ok (.bipush 16, 2) := by decide +kernel
theorem d8_93 : decode prog_78_method_1_code 93 = .ok (.newarray .int, 2) := by decide +kernel
theorem d8_95 : decode prog_78_method_1_code 95 = .ok (.putfield 47, 3) := by decide +kernel
theorem d8_98 : decode prog_78_method_1_code 98 = .ok (.aload_n 0, 1) := by decide +kernel
theorem d8_99 : decode prog_78_method_1_code 99 = .ok (.bipush 32, 2) := by decide +kernel
theorem d8_101 : decode prog_78_method_1_code 101 = .ok (.newarray .int, 2) := by decide +kernel
theorem d8_103 : decode prog_78_method_1_code 103 = .ok (.putfield 50, 3) := by decide +kernel
theorem d8_106 : decode prog_78_method_1_code 106 = .ok (.aload_n 0, 1) := by decide +kernel
theorem d8_107 : decode prog_78_method_1_code 107 = .ok (.iload_n 1, 1) := by decide +kernel
theorem d8_108 : decode prog_78_method_1_code 108 = .ok (.putfield 53, 3) := by decide +kernel
theorem d8_111 : decode prog_78_method_1_code 111 = .ok (.aload_n 0, 1) := by decide +kernel
theorem d8_112 : decode prog_78_method_1_code 112 = .ok (.lload_n 2, 1) := by decide +kernel
theorem d8_113 : decode prog_78_method_1_code 113 = .ok (.putfield 57, 3) := by decide +kernel
theorem d8_116 : decode prog_78_method_1_code 116 = .ok (.return_, 1) := by decide +kernel
theorem pn_8 : plainFor (⟨"com/example/runnel/runnel/runtime/RecordBuffer", "<init>", "(IJ)V"⟩ : MethodName) = true := plainFor_of_name (by first | (simp [plainName, overriddenIn]; done) | decide +kernel)
abbrev y8 : MethodName := ⟨"com/example/runnel/runnel/runtime/RecordBuffer", "<init>", "(IJ)V"⟩
theorem ef_8 (x0 : Addr) (x1 : Int32) (x2 : Int64) (m : MethodId) : entryFrame m #[(.ref x0), (.int x1), (.long x2)] 4 = mkF m 0 #[.val (.ref x0), .val (.int x1), .val (.long x2), .second] [] := by first | (simp [entryFrame, mkF, argsToLocals, Value.category]; done) | rfl
theorem d9_0 : decode prog_78_method_4_code 0 = .ok (.aload_n 0, 1) := by decide +kernel
theorem d9_1 : decode prog_78_method_4_code 1 = .ok (.iload_n 2, 1) := by decide +kernel
theorem d9_2 : decode prog_78_method_4_code 2 = .ok (.aload_n 3, 1) := by decide +kernel
theorem d9_3 : decode prog_78_method_4_code 3 = .ok (.invokevirtual 85, 3) := by decide +kernel
theorem d9_6 : decode prog_78_method_4_code 6 = .ok (.istore 5, 2) := by decide +kernel
theorem d9_8 : decode prog_78_method_4_code 8 = .ok (.iload 5, 2) := by decide +kernel
theorem d9_10 : decode prog_78_method_4_code 10 = .ok (.iconst (-1), 1) := by decide +kernel
theorem d9_11 : decode prog_78_method_4_code 11 = .ok (.if_icmp .ne 7, 3) := by decide +kernel
theorem d9_14 : decode prog_78_method_4_code 14 = .ok (.iconst 1, 1) := by decide +kernel
theorem d9_15 : decode prog_78_method_4_code 15 = .ok (.goto 4, 3) := by decide +kernel
theorem d9_18 : decode prog_78_method_4_code 18 = .ok (.iconst 0, 1) := by decide +kernel
theorem d9_19 : decode prog_78_method_4_code 19 = .ok (.istore 6, 2) := by decide +kernel
theorem d9_21 : decode prog_78_method_4_code 21 = .ok (.aload_n 0, 1) := by decide +kernel
theorem d9_22 : decode prog_78_method_4_code 22 = .ok (.getfield 14, 3) := by decide +kernel
theorem d9_25 : decode prog_78_method_4_code 25 = .ok (.invokevirtual 89, 3) := by decide +kernel
theorem d9_28 : decode prog_78_method_4_code 28 = .ok (.aload 4, 2) := by decide +kernel
theorem d9_30 : decode prog_78_method_4_code 30 = .ok (.invokevirtual 89, 3) := by decide +kernel
theorem d9_33 : decode prog_78_method_4_code 33 = .ok (.iload 6, 2) := by decide +kernel
theorem d9_35 : decode prog_78_method_4_code 35 = .ok (.ifCond .eq 10, 3) := by decide +kernel
theorem d9_38 : decode prog_78_method_4_code 38 = .ok (.aload_n 3, 1) := by decide +kernel
theorem d9_39 : decode prog_78_method_4_code 39 = .ok (.invokevirtual 89, 3) := by decide +kernel
theorem d9_42 : decode prog_78_method_4_code 42 = .ok (.goto 4, 3) := by decide +kernel
theorem d9_45 : decode prog_78_method_4_code 45 = .ok (.iconst 0, 1) := by decide +kernel
theorem d9_46 : decode prog_78_method_4_code 46 = .ok (.invokestatic 92, 3) := by decide +kernel
theorem d9_49 : decode prog_78_method_4_code 49 = .ok (.invokestatic 92, 3) := by decide +kernel
theorem d9_52 : decode prog_78_method_4_code 52 = .ok (.istore 7, 2) := by decide +kernel
theorem d9_54 : decode prog_78_method_4_code 54 = .ok (.aload_n 0, 1) := by decide +kernel
theorem d9_55 : decode prog_78_method_4_code 55 = .ok (.getfield 18, 3) := by decide +kernel
theorem d9_58 : decode prog_78_method_4_code 58 = .ok (.arraylength, 1) := by decide +kernel
theorem d9_59 : decode prog_78_method_4_code 59 = .ok (.aload_n 0, 1) := by decide +kernel
theorem d9_60 : decode prog_78_method_4_code 60 = .ok (.getfield 61, 3) := by decide +kernel
theorem d9_63 : decode prog_78_method_4_code 63 = .ok (.iconst 1, 1) := by decide +kernel
theorem d9_64 : decode prog_78_method_4_code 64 = .ok (.iadd, 1) := by decide +kernel
theorem d9_65 : decode prog_78_method_4_code 65 = .ok (.invokestatic 98, 3) := by decide +kernel
theorem d9_68 : decode prog_78_method_4_code 68 = .ok (.istore 8, 2) := by decide +kernel
theorem d9_70 : decode prog_78_method_4_code 70 = .ok (.iload 6, 2) := by decide +kernel
theorem d9_72 : decode prog_78_method_4_code 72 = .ok (.ifCond .eq 25, 3) := by decide +kernel
theorem d9_75 : decode prog_78_method_4_code 75 = .ok (.aload_n 0, 1) := by decide +kernel
theorem d9_76 : decode prog_78_method_4_code 76 = .ok (.getfield 101, 3) := by decide +kernel
theorem d9_79 : decode prog_78_method_4_code 79 = .ok (.aload_n 0, 1) := by decide +kernel
theorem d9_80 : decode prog_78_method_4_code 80 = .ok (.getfield 28, 3) := by decide +kernel
theorem d9_83 : decode prog_78_method_4_code 83 = .ok (.arraylength, 1) := by decide +kernel
theorem d9_84 : decode prog_78_method_4_code 84 = .ok (.if_icmp .ne 13, 3) := by decide +kernel
theorem d9_87 : decode prog_78_method_4_code 87 = .ok (.iconst 2, 1) := by decide +kernel
theorem d9_88 : decode prog_78_method_4_code 88 = .ok (.aload_n 0, 1) := by decide +kernel
theorem d9_89 : decode prog_78_method_4_code 89 = .ok (.getfield 28, 3) := by decide +kernel
theorem d9_92 : decode prog_78_method_4_code 92 = .ok (.arraylength, 1) := by decide +kernel
theorem d9_93 : decode prog_78_method_4_code 93 = .ok (.imul, 1) := by decide +kernel
theorem d9_94 : decode prog_78_method_4_code 94 = .ok (.goto 8, 3) := by decide +kernel
theorem d9_97 : decode prog_78_method_4_code 97 = .ok (.aload_n 0, 1) := by decide +kernel
theorem d9_98 : decode prog_78_method_4_code 98 = .ok (.getfield 28, 3) := by decide +kernel
theorem d9_101 : decode prog_78_method_4_code 101 = .ok (.arraylength, 1) := by decide +kernel
theorem d9_102 : decode prog_78_method_4_code 102 = .ok (.istore 9, 2) := by decide +kernel
theorem d9_104 : decode prog_78_method_4_code 104 = .ok (.aload_n 0, 1) := by decide +kernel
theorem d9_105 : decode prog_78_method_4_code 105 = .ok (.invokevirtual 75, 3) := by decide +kernel
theorem d9_108 : decode prog_78_method_4_code 108 = .ok (.ldc2_w 83, 3) := by decide +kernel
theorem d9_111 : decode prog_78_method_4_code 111 = .ok (.iload 8, 2) := by decide +kernel
theorem d9_113 : decode prog_78_method_4_code 113 = .ok (.i2l, 1) := by decide +kernel
theorem d9_114 : decode prog_78_method_4_code 114 = .ok (.lmul, 1) := by decide +kernel
theorem d9_115 : decode prog_78_method_4_code 115 = .ok (.ladd, 1) := by decide +kernel
theorem d9_116 : decode prog_78_method_4_code 116 = .ok (.ldc2_w 104, 3) := by decide +kernel
theorem d9_119 : decode prog_78_method_4_code 119 = .ok (.iload 9, 2) := by decide +kernel
theorem d9_121 : decode prog_78_method_4_code 121 = .ok (.i2l, 1) := by decide +kernel
theorem d9_122 : decode prog_78_method_4_code 122 = .ok (.lmul, 1) := by decide +kernel
theorem d9_123 : decode prog_78_method_4_code 123 = .ok (.ladd, 1) := by decide +kernel
theorem d9_124 : decode prog_78_method_4_code 124 = .ok (.lstore 10, 2) := by decide +kernel
theorem d9_126 : decode prog_78_method_4_code 126 = .ok (.aload_n 0, 1) := by decide +kernel
theorem d9_127 : decode prog_78_method_4_code 127 = .ok (.getfield 61, 3) := by decide +kernel
theorem d9_130 : decode prog_78_method_4_code 130 = .ok (.ifCond .le 29, 3) := by decide +kernel
theorem d9_133 : decode prog_78_method_4_code 133 = .ok (.aload_n 0, 1) := by decide +kernel
theorem d9_134 : decode prog_78_method_4_code 134 = .ok (.getfield 14, 3) := by decide +kernel
theorem d9_137 : decode prog_78_method_4_code 137 = .ok (.invokevirtual 79, 3) := by decide +kernel
theorem d9_140 : decode prog_78_method_4_code 140 = .ok (.iload 7, 2) := by decide +kernel
theorem d9_142 : decode prog_78_method_4_code 142 = .ok (.invokestatic 98, 3) := by decide +kernel
theorem d9_145 : decode prog_78_method_4_code 145 = .ok (.i2l, 1) := by decide +kernel
theorem d9_146 : decode prog_78_method_4_code 146 = .ok (.lload 10, 2) := by decide +kernel
theorem d9_148 : decode prog_78_method_4_code 148 = .ok (.ladd, 1) := by decide +kernel
theorem d9_149 : decode prog_78_method_4_code 149 = .ok (.aload_n 0, 1) := by decide +kernel
theorem d9_150 : decode prog_78_method_4_code 150 = .ok (.getfield 57, 3) := by decide +kernel
theorem d9_153 : decode prog_78_method_4_code 153 = .ok (.lcmp, 1) := by decide +kernel
theorem d9_154 : decode prog_78_method_4_code 154 = .ok (.ifCond .le 5, 3) := by decide +kernel
theorem d9_157 : decode prog_78_method_4_code 157 = .ok (.iconst 0, 1) := by decide +kernel
theorem d9_158 : decode prog_78_method_4_code 158 = .ok (.ireturn, 1) := by decide +kernel
theorem d9_159 : decode prog_78_method_4_code 159 = .ok (.iload 7, 2) := by decide +kernel
theorem d9_161 : decode prog_78_method_4_code 161 = .ok (.aload_n 0, 1) := by decide +kernel
theorem d9_162 : decode prog_78_method_4_code 162 = .ok (.getfield 14, 3) := by decide +kernel
theorem d9_165 : decode prog_78_method_4_code 165 = .ok (.invokevirtual 79, 3) := by decide +kernel
theorem d9_168 : decode prog_78_method_4_code 168 = .ok (.if_icmp .le 39, 3) := by decide +kernel
theorem d9_171 : decode prog_78_method_4_code 171 = .ok (.aload_n 0, 1) := by decide +kernel
theorem d9_172 : decode prog_78_method_4_code 172 = .ok (.getfield 14, 3) := by decide +kernel
theorem d9_175 : decode prog_78_method_4_code 175 = .ok (.iload 7, 2) := by decide +kernel
theorem d9_177 : decode prog_78_method_4_code 177 = .ok (.i2l, 1) := by decide +kernel
theorem d9_178 : decode prog_78_method_4_code 178 = .ok (.ldc2_w 106, 3) := by decide +kernel
theorem d9_181 : decode prog_78_method_4_code 181 = .ok (.aload_n 0, 1) := by decide +kernel
theorem d9_182 : decode prog_78_method_4_code 182 = .ok (.getfield 14, 3) := by decide +kernel
theorem d9_185 : decode prog_78_method_4_code 185 = .ok (.invokevirtual 79, 3) := by decide +kernel
theorem d9_188 : decode prog_78_method_4_code 188 = .ok (.i2l, 1) := by decide +kernel
theorem d9_189 : decode prog_78_method_4_code 189 = .ok (.lmul, 1) := by decide +kernel
theorem d9_190 : decode prog_78_method_4_code 190 = .ok (.aload_n 0, 1) := by decide +kernel
theorem d9_191 : decode prog_78_method_4_code 191 = .ok (.getfield 57, 3) := by decide +kernel
theorem d9_194 : decode prog_78_method_4_code 194 = .ok (.lload 10, 2) := by decide +kernel
theorem d9_196 : decode prog_78_method_4_code 196 = .ok (.lsub, 1) := by decide +kernel
theorem d9_197 : decode prog_78_method_4_code 197 = .ok (.invokestatic 108, 3) := by decide +kernel
theorem d9_200 : decode prog_78_method_4_code 200 = .ok (.invokestatic 112, 3) := by decide +kernel
theorem d9_203 : decode prog_78_method_4_code 203 = .ok (.l2i, 1) := by decide +kernel
theorem d9_204 : decode prog_78_method_4_code 204 = .ok (.invokevirtual 114, 3) := by decide +kernel
theorem d9_207 : decode prog_78_method_4_code 207 = .ok (.aload_n 0, 1) := by decide +kernel
theorem d9_208 : decode prog_78_method_4_code 208 = .ok (.getfield 61, 3) := by decide +kernel
theorem d9_211 : decode prog_78_method_4_code 211 = .ok (.aload_n 0, 1) := by decide +kernel
theorem d9_212 : decode prog_78_method_4_code 212 = .ok (.getfield 18, 3) := by decide +kernel
theorem d9_215 : decode prog_78_method_4_code 215 = .ok (.arraylength, 1) := by decide +kernel
theorem d9_216 : decode prog_78_method_4_code 216 = .ok (.if_icmp .ne 65, 3) := by decide +kernel
theorem d9_219 : decode prog_78_method_4_code 219 = .ok (.aload_n 0, 1) := by decide +kernel
theorem d9_220 : decode prog_78_method_4_code 220 = .ok (.getfield 57, 3) := by decide +kernel
theorem d9_223 : decode prog_78_method_4_code 223 = .ok (.aload_n 0, 1) := by decide +kernel
theorem d9_224 : decode prog_78_method_4_code 224 = .ok (.invokevirtual 75, 3) := by decide +kernel
theorem d9_227 : decode prog_78_method_4_code 227 = .ok (.lsub, 1) := by decide +kernel
theorem d9_228 : decode prog_78_method_4_code 228 = .ok (.aload_n 0, 1) := by decide +kernel
theorem d9_229 : decode prog_78_method_4_code 229 = .ok (.getfield 14, 3) := by decide +kernel
theorem d9_232 : decode prog_78_method_4_code 232 = .ok (.invokevirtual 79, 3) := by decide +kernel
theorem d9_235 : decode prog_78_method_4_code 235 = .ok (.i2l, 1) := by decide +kernel
theorem d9_236 : decode prog_78_method_4_code 236 = .ok (.lsub, 1) := by decide +kernel
theorem d9_237 : decode prog_78_method_4_code 237 = .ok (.ldc2_w 104, 3) := by decide +kernel
theorem d9_240 : decode prog_78_method_4_code 240 = .ok (.iload 9, 2) := by decide +kernel
theorem d9_242 : decode prog_78_method_4_code 242 = .ok (.i2l, 1) := by decide +kernel
theorem d9_243 : decode prog_78_method_4_code 243 = .ok (.lmul, 1) := by decide +kernel
theorem d9_244 : decode prog_78_method_4_code 244 = .ok (.lsub, 1) := by decide +kernel
theorem d9_245 : decode prog_78_method_4_code 245 = .ok (.ldc2_w 83, 3) := by decide +kernel
theorem d9_248 : decode prog_78_method_4_code 248 = .ok (.ldiv, 1) := by decide +kernel
theorem d9_249 : decode prog_78_method_4_code 249 = .ok (.lstore 12, 2) := by decide +kernel
theorem d9_251 : decode prog_78_method_4_code 251 = .ok (.aload_n 0, 1) := by decide +kernel
theorem d9_252 : decode prog_78_method_4_code 252 = .ok (.aload_n 0, 1) := by decide +kernel
theorem d9_253 : decode prog_78_method_4_code 253 = .ok (.getfield 61, 3) := by decide +kernel
theorem d9_256 : decode prog_78_method_4_code 256 = .ok (.iconst 1, 1) := by decide +kernel
theorem d9_257 : decode prog_78_method_4_code 257 = .ok (.iadd, 1) := by decide +kernel
theorem d9_258 : decode prog_78_method_4_code 258 = .ok (.i2l, 1) := by decide +kernel
theorem d9_259 : decode prog_78_method_4_code 259 = .ok (.ldc2_w 106, 3) := by decide +kernel
theorem d9_262 : decode prog_78_method_4_code 262 = .ok (.aload_n 0, 1) := by decide +kernel
theorem d9_263 : decode prog_78_method_4_code 263 = .ok (.getfield 18, 3) := by decide +kernel
theorem d9_266 : decode prog_78_method_4_code 266 = .ok (.arraylength, 1) := by decide +kernel
theorem d9_267 : decode prog_78_method_4_code 267 = .ok (.i2l, 1) := by decide +kernel
theorem d9_268 : decode prog_78_method_4_code 268 = .ok (.lmul, 1) := by decide +kernel
theorem d9_269 : decode prog_78_method_4_code 269 = .ok (.lload 12, 2) := by decide +kernel
theorem d9_271 : decode prog_78_method_4_code 271 = .ok (.invokestatic 108, 3) := by decide +kernel
theorem d9_274 : decode prog_78_method_4_code 274 = .ok (.invokestatic 112, 3) := by decide +kernel
theorem d9_277 : decode prog_78_method_4_code 277 = .ok (.l2i, 1) := by decide +kernel
theorem d9_278 : decode prog_78_method_4_code 278 = .ok (.invokevirtual 117, 3) := by decide +kernel
theorem d9_281 : decode prog_78_method_4_code 281 = .ok (.iload 9, 2) := by decide +kernel
theorem d9_283 : decode prog_78_method_4_code 283 = .ok (.aload_n 0, 1) := by decide +kernel
theorem d9_284 : decode prog_78_method_4_code 284 = .ok (.getfield 28, 3) := by decide +kernel
theorem d9_287 : decode prog_78_method_4_code 287 = .ok (.arraylength, 1) := by decide +kernel
theorem d9_288 : decode prog_78_method_4_code 288 = .ok (.if_icmp .le 9, 3) := by decide +kernel
theorem d9_291 : decode prog_78_method_4_code 291 = .ok (.aload_n 0, 1) := by decide +kernel
theorem d9_292 : decode prog_78_method_4_code 292 = .ok (.iload 9, 2) := by decide +kernel
theorem d9_294 : decode prog_78_method_4_code 294 = .ok (.invokevirtual 120, 3) := by decide +kernel
theorem d9_297 : decode prog_78_method_4_code 297 = .ok (.iload 6, 2) := by decide +kernel
theorem d9_299 : decode prog_78_method_4_code 299 = .ok (.ifCond .eq 121, 3) := by decide +kernel
theorem d9_302 : decode prog_78_method_4_code 302 = .ok (.aload_n 0, 1) := by decide +kernel
theorem d9_303 : decode prog_78_method_4_code 303 = .ok (.dup, 1) := by decide +kernel
theorem d9_304 : decode prog_78_method_4_code 304 = .ok (.getfield 101, 3) := by decide +kernel
theorem d9_307 : decode prog_78_method_4_code 307 = .ok (.dup_x1, 1) := by decide +kernel
theorem d9_308 : decode prog_78_method_4_code 308 = .ok (.iconst 1, 1) := by decide +kernel
theorem d9_309 : decode prog_78_method_4_code 309 = .ok (.iadd, 1) := by decide +kernel
theorem d9_310 : decode prog_78_method_4_code 310 = .ok (.putfield 101, 3) := by decide +kernel
theorem d9_313 : decode prog_78_method_4_code 313 = .ok (.istore 5, 2) := by decide +kernel
theorem d9_315 : decode prog_78_method_4_code 315 = .ok (.aload_n 0, 1) := by decide +kernel
theorem d9_316 : decode prog_78_method_4_code 316 = .ok (.getfield 28, 3) := by decide +kernel
theorem d9_319 : decode prog_78_method_4_code 319 = .ok (.iload 5, 2) := by decide +kernel
theorem d9_321 : decode prog_78_method_4_code 321 = .ok (.aload_n 0, 1) := by decide +kernel
theorem d9_322 : decode prog_78_method_4_code 322 = .ok (.getfield 14, 3) := by decide +kernel
theorem d9_325 : decode prog_78_method_4_code 325 = .ok (.invokevirtual 89, 3) := by decide +kernel
theorem d9_328 : decode prog_78_method_4_code 328 = .ok (.iastore, 1) := by decide +kernel
theorem d9_329 : decode prog_78_method_4_code 329 = .ok (.aload_n 0, 1) := by decide +kernel
theorem d9_330 : decode prog_78_method_4_code 330 = .ok (.getfield 31, 3) := by decide +kernel
theorem d9_333 : decode prog_78_method_4_code 333 = .ok (.iload 5, 2) := by decide +kernel
theorem d9_335 : decode prog_78_method_4_code 335 = .ok (.aload_n 3, 1) := by decide +kernel
theorem d9_336 : decode prog_78_method_4_code 336 = .ok (.invokevirtual 89, 3) := by decide +kernel
theorem d9_339 : decode prog_78_method_4_code 339 = .ok (.iastore, 1) := by decide +kernel
theorem d9_340 : decode prog_78_method_4_code 340 = .ok (.aload_n 0, 1) := by decide +kernel
theorem d9_341 : decode prog_78_method_4_code 341 = .ok (.getfield 34, 3) := by decide +kernel
theorem d9_344 : decode prog_78_method_4_code 344 = .ok (.iload 5, 2) := by decide +kernel
theorem d9_346 : decode prog_78_method_4_code 346 = .ok (.iload_n 2, 1) := by decide +kernel
theorem d9_347 : decode prog_78_method_4_code 347 = .ok (.iastore, 1) := by decide +kernel
theorem d9_348 : decode prog_78_method_4_code 348 = .ok (.aload_n 0, 1) := by decide +kernel
theorem d9_349 : decode prog_78_method_4_code 349 = .ok (.getfield 37, 3) := by decide +kernel
theorem d9_352 : decode prog_78_method_4_code 352 = .ok (.iload 5, 2) := by decide +kernel
theorem d9_354 : decode prog_78_method_4_code 354 = .ok (.iload_n 1, 1) := by decide +kernel
theorem d9_355 : decode prog_78_method_4_code 355 = .ok (.iastore, 1) := by decide +kernel
theorem d9_356 : decode prog_78_method_4_code 356 = .ok (.aload_n 0, 1) := by decide +kernel
theorem d9_357 : decode prog_78_method_4_code 357 = .ok (.getfield 40, 3) := by decide +kernel
theorem d9_360 : decode prog_78_method_4_code 360 = .ok (.iload 5, 2) := by decide +kernel
theorem d9_362 : decode prog_78_method_4_code 362 = .ok (.aload_n 3, 1) := by decide +kernel
theorem d9_363 : decode prog_78_method_4_code 363 = .ok (.invokevirtual 123, 3) := by decide +kernel
theorem d9_366 : decode prog_78_method_4_code 366 = .ok (.iconst 0, 1) := by decide +kernel
theorem d9_367 : decode prog_78_method_4_code 367 = .ok (.aload_n 3, 1) := by decide +kernel
theorem d9_368 : decode prog_78_method_4_code 368 = .ok (.invokevirtual 89, 3) := by decide +kernel
theorem d9_371 : decode prog_78_method_4_code 371 = .ok (.invokestatic 127, 3) := by decide +kernel
theorem d9_374 : decode prog_78_method_4_code 374 = .ok (.lastore, 1) := by decide +kernel
theorem d9_375 : decode prog_78_method_4_code 375 = .ok (.aload_n 0, 1) := by decide +kernel
theorem d9_376 : decode prog_78_method_4_code 376 = .ok (.getfield 44, 3) := by decide +kernel
theorem d9_379 : decode prog_78_method_4_code 379 = .ok (.iload 5, 2) := by decide +kernel
theorem d9_381 : decode prog_78_method_4_code 381 = .ok (.aload_n 0, 1) := by decide +kernel
theorem d9_382 : decode prog_78_method_4_code 382 = .ok (.getfield 61, 3) := by decide +kernel
theorem d9_385 : decode prog_78_method_4_code 385 = .ok (.iastore, 1) := by decide +kernel
theorem d9_386 : decode prog_78_method_4_code 386 = .ok (.aload_n 0, 1) := by decide +kernel
theorem d9_387 : decode prog_78_method_4_code 387 = .ok (.getfield 14, 3) := by decide +kernel
theorem d9_390 : decode prog_78_method_4_code 390 = .ok (.aload_n 3, 1) := by decide +kernel
theorem d9_391 : decode prog_78_method_4_code 391 = .ok (.invokevirtual 123, 3) := by decide +kernel
theorem d9_394 : decode prog_78_method_4_code 394 = .ok (.iconst 0, 1) := by decide +kernel
theorem d9_395 : decode prog_78_method_4_code 395 = .ok (.aload_n 3, 1) := by decide +kernel
theorem d9_396 : decode prog_78_method_4_code 396 = .ok (.invokevirtual 89, 3) := by decide +kernel
theorem d9_399 : decode prog_78_method_4_code 399 = .ok (.invokevirtual 130, 3) := by decide +kernel
theorem d9_402 : decode prog_78_method_4_code 402 = .ok (.aload_n 0, 1) := by decide +kernel
theorem d9_403 : decode prog_78_method_4_code 403 = .ok (.getfield 50, 3) := by decide +kernel
theorem d9_406 : decode prog_78_method_4_code 406 = .ok (.aload_n 0, 1) := by decide +kernel
theorem d9_407 : decode prog_78_method_4_code 407 = .ok (.iload_n 2, 1) := by decide +kernel
theorem d9_408 : decode prog_78_method_4_code 408 = .ok (.aload_n 3, 1) := by decide +kernel
theorem d9_409 : decode prog_78_method_4_code 409 = .ok (.invokevirtual 134, 3) := by decide +kernel
theorem d9_412 : decode prog_78_method_4_code 412 = .ok (.iload 5, 2) := by decide +kernel
theorem d9_414 : decode prog_78_method_4_code 414 = .ok (.iconst 1, 1) := by decide +kernel
theorem d9_415 : decode prog_78_method_4_code 415 = .ok (.iadd, 1) := by decide +kernel
theorem d9_416 : decode prog_78_method_4_code 416 = .ok (.iastore, 1) := by decide +kernel
theorem d9_417 : decode prog_78_method_4_code 417 = .ok (.goto 19, 3) := by decide +kernel
theorem d9_420 : decode prog_78_method_4_code 420 = .ok (.aload_n 0, 1) := by decide +kernel
theorem d9_421 : decode prog_78_method_4_code 421 = .ok (.getfield 25, 3) := by decide +kernel
theorem d9_424 : decode prog_78_method_4_code 424 = .ok (.aload_n 0, 1) := by decide +kernel
theorem d9_425 : decode prog_78_method_4_code 425 = .ok (.getfield 47, 3) := by decide +kernel
theorem d9_428 : decode prog_78_method_4_code 428 = .ok (.iload 5, 2) := by decide +kernel
theorem d9_430 : decode prog_78_method_4_code 430 = .ok (.iaload, 1) := by decide +kernel
theorem d9_431 : decode prog_78_method_4_code 431 = .ok (.aload_n 0, 1) := by decide +kernel
theorem d9_432 : decode prog_78_method_4_code 432 = .ok (.getfield 61, 3) := by decide +kernel
theorem d9_435 : decode prog_78_method_4_code 435 = .ok (.iastore, 1) := by decide +kernel
theorem d9_436 : decode prog_78_method_4_code 436 = .ok (.aload_n 0, 1) := by decide +kernel
theorem d9_437 : decode prog_78_method_4_code 437 = .ok (.aconst_null, 1) := by decide +kernel
theorem d9_438 : decode prog_78_method_4_code 438 = .ok (.putfield 68, 3) := by decide +kernel
theorem d9_441 : decode prog_78_method_4_code 441 = .ok (.aload_n 0, 1) := by decide +kernel
theorem d9_442 : decode prog_78_method_4_code 442 = .ok (.getfield 47, 3) := by decide +kernel
theorem d9_445 : decode prog_78_method_4_code 445 = .ok (.iload 5, 2) := by decide +kernel
theorem d9_447 : decode prog_78_method_4_code 447 = .ok (.aload_n 0, 1) := by decide +kernel
theorem d9_448 : decode prog_78_method_4_code 448 = .ok (.getfield 61, 3) := by decide +kernel
theorem d9_451 : decode prog_78_method_4_code 451 = .ok (.iastore, 1) := by decide +kernel
theorem d9_452 : decode prog_78_method_4_code 452 = .ok (.aload_n 0, 1) := by decide +kernel
theorem d9_453 : decode prog_78_method_4_code 453 = .ok (.getfield 18, 3) := by decide +kernel
theorem d9_456 : decode prog_78_method_4_code 456 = .ok (.aload_n 0, 1) := by decide +kernel
theorem d9_457 : decode prog_78_method_4_code 457 = .ok (.getfield 61, 3) := by decide +kernel
theorem d9_460 : decode prog_78_method_4_code 460 = .ok (.aload_n 0, 1) := by decide +kernel
theorem d9_461 : decode prog_78_method_4_code 461 = .ok (.getfield 14, 3) := by decide +kernel
theorem d9_464 : decode prog_78_method_4_code 464 = .ok (.invokevirtual 89, 3) := by decide +kernel
theorem d9_467 : decode prog_78_method_4_code 467 = .ok (.iastore, 1) := by decide +kernel
theorem d9_468 : decode prog_78_method_4_code 468 = .ok (.aload_n 0, 1) := by decide +kernel
theorem d9_469 : decode prog_78_method_4_code 469 = .ok (.getfield 14, 3) := by decide +kernel
theorem d9_472 : decode prog_78_method_4_code 472 = .ok (.aload 4, 2) := by decide +kernel
theorem d9_474 : decode prog_78_method_4_code 474 = .ok (.invokevirtual 123, 3) := by decide +kernel
theorem d9_477 : decode prog_78_method_4_code 477 = .ok (.iconst 0, 1) := by decide +kernel
theorem d9_478 : decode prog_78_method_4_code 478 = .ok (.aload 4, 2) := by decide +kernel
theorem d9_480 : decode prog_78_method_4_code 480 = .ok (.invokevirtual 89, 3) := by decide +kernel
theorem d9_483 : decode prog_78_method_4_code 483 = .ok (.invokevirtual 130, 3) := by decide +kernel
theorem d9_486 : decode prog_78_method_4_code 486 = .ok (.aload_n 0, 1) := by decide +kernel
theorem d9_487 : decode prog_78_method_4_code 487 = .ok (.getfield 22, 3) := by decide +kernel
theorem d9_490 : decode prog_78_method_4_code 490 = .ok (.aload_n 0, 1) := by decide +kernel
theorem d9_491 : decode prog_78_method_4_code 491 = .ok (.getfield 61, 3) := by decide +kernel
theorem d9_494 : decode prog_78_method_4_code 494 = .ok (.aload_n 0, 1) := by decide +kernel
theorem d9_495 : decode prog_78_method_4_code 495 = .ok (.getfield 14, 3) := by decide +kernel
theorem d9_498 : decode prog_78_method_4_code 498 = .ok (.invokevirtual 89, 3) := by decide +kernel
theorem d9_501 : decode prog_78_method_4_code 501 = .ok (.iastore, 1) := by decide +kernel
theorem d9_502 : decode prog_78_method_4_code 502 = .ok (.aload_n 0, 1) := by decide +kernel
theorem d9_503 : decode prog_78_method_4_code 503 = .ok (.getfield 25, 3) := by decide +kernel
theorem d9_506 : decode prog_78_method_4_code 506 = .ok (.aload_n 0, 1) := by decide +kernel
theorem d9_507 : decode prog_78_method_4_code 507 = .ok (.getfield 61, 3) := by decide +kernel
theorem d9_510 : decode prog_78_method_4_code 510 = .ok (.iconst (-1), 1) := by decide +kernel
theorem d9_511 : decode prog_78_method_4_code 511 = .ok (.iastore, 1) := by decide +kernel
theorem d9_512 : decode prog_78_method_4_code 512 = .ok (.aload_n 0, 1) := by decide +kernel
theorem d9_513 : decode prog_78_method_4_code 513 = .ok (.dup, 1) := by decide +kernel
theorem d9_514 : decode prog_78_method_4_code 514 = .ok (.getfield 61, 3) := by decide +kernel
theorem d9_517 : decode prog_78_method_4_code 517 = .ok (.iconst 1, 1) := by decide +kernel
theorem d9_518 : decode prog_78_method_4_code 518 = .ok (.iadd, 1) := by decide +kernel
theorem d9_519 : decode prog_78_method_4_code 519 = .ok (.putfield 61, 3) := by decide +kernel
theorem d9_522 : decode prog_78_method_4_code 522 = .ok (.iconst 1, 1) := by decide +kernel
theorem d9_523 : decode prog_78_method_4_code 523 = .ok (.ireturn, 1) := by decide +kernel
theorem pn_9 : plainFor (⟨"com/example/runnel/runnel/runtime/RecordBuffer", "add", "(IILcom/example/runnel/runnel/runtime/Bytes;Lcom/example/runnel/runnel/runtime/Bytes;)Z"⟩ : MethodName) = true := plainFor_of_name (by first | (simp [plainName, overriddenIn]; done) | decide +kernel)
abbrev y9 : MethodName := ⟨"com/example/runnel/runnel/runtime/RecordBuffer", "add", "(IILcom/example/runnel/runnel/runtime/Bytes;Lcom/example/runnel/runnel/runtime/Bytes;)Z"⟩
theorem ef_9 (x0 : Addr) (x1 : Int32) (x2 : Int32) (x3 : Addr) (x4 : Addr) (m : MethodId) : entryFrame m #[(.ref x0), (.int x1), (.int x2), (.ref x3), (.ref x4)] 14 = mkF m 0 #[.val (.ref x0), .val (.int x1), .val (.int x2), .val (.ref x3), .val (.ref x4), .unset, .unset, .unset, .unset, .unset, .unset, .unset, .unset, .unset] [] := by first | (simp [entryFrame, mkF, argsToLocals, Value.category]; done) | rfl
theorem d10_0 : decode prog_78_method_10_code 0 = .ok (.aload_n 0, 1) := by decide +kernel
theorem d10_1 : decode prog_78_method_10_code 1 = .ok (.getfield 50, 3) := by decide +kernel
theorem d10_4 : decode prog_78_method_10_code 4 = .ok (.aload_n 0, 1) := by decide +kernel
theorem d10_5 : decode prog_78_method_10_code 5 = .ok (.iload_n 1, 1) := by decide +kernel
theorem d10_6 : decode prog_78_method_10_code 6 = .ok (.aload_n 2, 1) := by decide +kernel
theorem d10_7 : decode prog_78_method_10_code 7 = .ok (.invokevirtual 134, 3) := by decide +kernel
theorem d10_10 : decode prog_78_method_10_code 10 = .ok (.iaload, 1) := by decide +kernel
theorem d10_11 : decode prog_78_method_10_code 11 = .ok (.istore_n 3, 1) := by decide +kernel
theorem d10_12 : decode prog_78_method_10_code 12 = .ok (.iload_n 3, 1) := by decide +kernel
theorem d10_13 : decode prog_78_method_10_code 13 = .ok (.ifCond .ne 7, 3) := by decide +kernel
theorem d10_16 : decode prog_78_method_10_code 16 = .ok (.iconst (-1), 1) := by decide +kernel
theorem d10_17 : decode prog_78_method_10_code 17 = .ok (.goto 6, 3) := by decide +kernel
theorem d10_20 : decode prog_78_method_10_code 20 = .ok (.iload_n 3, 1) := by decide +kernel
theorem d10_21 : decode prog_78_method_10_code 21 = .ok (.iconst 1, 1) := by decide +kernel
theorem d10_22 : decode prog_78_method_10_code 22 = .ok (.isub, 1) := by decide +kernel
theorem d10_23 : decode prog_78_method_10_code 23 = .ok (.ireturn, 1) := by decide +kernel
theorem pn_10 : plainFor (⟨"com/example/runnel/runnel/runtime/RecordBuffer", "find", "(ILcom/example/runnel/runnel/runtime/Bytes;)I"⟩ : MethodName) = true := plainFor_of_name (by first | (simp [plainName, overriddenIn]; done) | decide +kernel)
abbrev y10 : MethodName := ⟨"com/example/runnel/runnel/runtime/RecordBuffer", "find", "(ILcom/example/runnel/runnel/runtime/Bytes;)I"⟩
theorem ef_10 (x0 : Addr) (x1 : Int32) (x2 : Addr) (m : MethodId) : entryFrame m #[(.ref x0), (.int x1), (.ref x2)] 4 = mkF m 0 #[.val (.ref x0), .val (.int x1), .val (.ref x2), .unset] [] := by first | (simp [entryFrame, mkF, argsToLocals, Value.category]; done) | rfl
theorem d11_0 : decode prog_78_method_11_code 0 = .ok (.aload_n 0, 1) := by decide +kernel
theorem d11_1 : decode prog_78_method_11_code 1 = .ok (.getfield 50, 3) := by decide +kernel
theorem d11_4 : decode prog_78_method_11_code 4 = .ok (.arraylength, 1) := by decide +kernel
theorem d11_5 : decode prog_78_method_11_code 5 = .ok (.iconst 1, 1) := by decide +kernel
theorem d11_6 : decode prog_78_method_11_code 6 = .ok (.isub, 1) := by decide +kernel
theorem d11_7 : decode prog_78_method_11_code 7 = .ok (.istore_n 3, 1) := by decide +kernel
theorem d11_8 : decode prog_78_method_11_code 8 = .ok (.iload_n 1, 1) := by decide +kernel
theorem d11_9 : decode prog_78_method_11_code 9 = .ok (.iload_n 3, 1) := by decide +kernel
theorem d11_10 : decode prog_78_method_11_code 10 = .ok (.iand, 1) := by decide +kernel
theorem d11_11 : decode prog_78_method_11_code 11 = .ok (.istore 4, 2) := by decide +kernel
theorem d11_13 : decode prog_78_method_11_code 13 = .ok (.aload_n 0, 1) := by decide +kernel
theorem d11_14 : decode prog_78_method_11_code 14 = .ok (.getfield 50, 3) := by decide +kernel
theorem d11_17 : decode prog_78_method_11_code 17 = .ok (.iload 4, 2) := by decide +kernel
theorem d11_19 : decode prog_78_method_11_code 19 = .ok (.iaload, 1) := by decide +kernel
theorem d11_20 : decode prog_78_method_11_code 20 = .ok (.ifCond .eq 32, 3) := by decide +kernel
theorem d11_23 : decode prog_78_method_11_code 23 = .ok (.aload_n 0, 1) := by decide +kernel
theorem d11_24 : decode prog_78_method_11_code 24 = .ok (.aload_n 0, 1) := by decide +kernel
theorem d11_25 : decode prog_78_method_11_code 25 = .ok (.getfield 50, 3) := by decide +kernel
theorem d11_28 : decode prog_78_method_11_code 28 = .ok (.iload 4, 2) := by decide +kernel
theorem d11_30 : decode prog_78_method_11_code 30 = .ok (.iaload, 1) := by decide +kernel
theorem d11_31 : decode prog_78_method_11_code 31 = .ok (.iconst 1, 1) := by decide +kernel
theorem d11_32 : decode prog_78_method_11_code 32 = .ok (.isub, 1) := by decide +kernel
theorem d11_33 : decode prog_78_method_11_code 33 = .ok (.iload_n 1, 1) := by decide +kernel
theorem d11_34 : decode prog_78_method_11_code 34 = .ok (.aload_n 2, 1) := by decide +kernel
theorem d11_35 : decode prog_78_method_11_code 35 = .ok (.invokevirtual 186, 3) := by decide +kernel
theorem d11_38 : decode prog_78_method_11_code 38 = .ok (.ifCond .ne 14, 3) := by decide +kernel
theorem d11_41 : decode prog_78_method_11_code 41 = .ok (.iload 4, 2) := by decide +kernel
theorem d11_43 : decode prog_78_method_11_code 43 = .ok (.iconst 1, 1) := by decide +kernel
theorem d11_44 : decode prog_78_method_11_code 44 = .ok (.iadd, 1) := by decide +kernel
theorem d11_45 : decode prog_78_method_11_code 45 = .ok (.iload_n 3, 1) := by decide +kernel
theorem d11_46 : decode prog_78_method_11_code 46 = .ok (.iand, 1) := by decide +kernel
theorem d11_47 : decode prog_78_method_11_code 47 = .ok (.istore 4, 2) := by decide +kernel
theorem d11_49 : decode prog_78_method_11_code 49 = .ok (.goto (-36), 3) := by decide +kernel
theorem d11_52 : decode prog_78_method_11_code 52 = .ok (.iload 4, 2) := by decide +kernel
theorem d11_54 : decode prog_78_method_11_code 54 = .ok (.ireturn, 1) := by decide +kernel
theorem pn_11 : plainFor (⟨"com/example/runnel/runnel/runtime/RecordBuffer", "slotOf", "(ILcom/example/runnel/runnel/runtime/Bytes;)I"⟩ : MethodName) = true := plainFor_of_name (by first | (simp [plainName, overriddenIn]; done) | decide +kernel)
abbrev y11 : MethodName := ⟨"com/example/runnel/runnel/runtime/RecordBuffer", "slotOf", "(ILcom/example/runnel/runnel/runtime/Bytes;)I"⟩
theorem ef_11 (x0 : Addr) (x1 : Int32) (x2 : Addr) (m : MethodId) : entryFrame m #[(.ref x0), (.int x1), (.ref x2)] 5 = mkF m 0 #[.val (.ref x0), .val (.int x1), .val (.ref x2), .unset, .unset] [] := by first | (simp [entryFrame, mkF, argsToLocals, Value.category]; done) | rfl
theorem d12_0 : decode prog_58_method_3_code 0 = .ok (.aload_n 0, 1) := by decide +kernel
theorem d12_1 : decode prog_58_method_3_code 1 = .ok (.getfield 15, 3) := by decide +kernel
theorem d12_4 : decode prog_58_method_3_code 4 = .ok (.ireturn, 1) := by decide +kernel
theorem pn_12 : plainFor (⟨"com/example/runnel/runnel/runtime/Bytes", "size", "()I"⟩ : MethodName) = true := plainFor_of_name (by first | (simp [plainName, overriddenIn]; done) | decide +kernel)
abbrev y12 : MethodName := ⟨"com/example/runnel/runnel/runtime/Bytes", "size", "()I"⟩
theorem ef_12 (x0 : Addr) (m : MethodId) : entryFrame m #[(.ref x0)] 1 = mkF m 0 #[.val (.ref x0)] [] := by first | (simp [entryFrame, mkF, argsToLocals, Value.category]; done) | rfl
theorem d13_0 : decode jdk_29_method_24_code 0 = .ok (.iload_n 0, 1) := by decide +kernel
theorem d13_1 : decode jdk_29_method_24_code 1 = .ok (.iload_n 1, 1) := by decide +kernel
theorem d13_2 : decode jdk_29_method_24_code 2 = .ok (.iadd, 1) := by decide +kernel
theorem d13_3 : decode jdk_29_method_24_code 3 = .ok (.istore_n 2, 1) := by decide +kernel
theorem d13_4 : decode jdk_29_method_24_code 4 = .ok (.iload_n 0, 1) := by decide +kernel
theorem d13_5 : decode jdk_29_method_24_code 5 = .ok (.iload_n 2, 1) := by decide +kernel
theorem d13_6 : decode jdk_29_method_24_code 6 = .ok (.ixor, 1) := by decide +kernel
theorem d13_7 : decode jdk_29_method_24_code 7 = .ok (.iload_n 1, 1) := by decide +kernel
theorem d13_8 : decode jdk_29_method_24_code 8 = .ok (.iload_n 2, 1) := by decide +kernel
theorem d13_9 : decode jdk_29_method_24_code 9 = .ok (.ixor, 1) := by decide +kernel
theorem d13_10 : decode jdk_29_method_24_code 10 = .ok (.iand, 1) := by decide +kernel
theorem d13_11 : decode jdk_29_method_24_code 11 = .ok (.ifCond .ge 13, 3) := by decide +kernel
theorem d13_14 : decode jdk_29_method_24_code 14 = .ok (.new 109, 3) := by decide +kernel
theorem d13_17 : decode jdk_29_method_24_code 17 = .ok (.dup, 1) := by decide +kernel
theorem d13_18 : decode jdk_29_method_24_code 18 = .ok (.ldc 111, 2) := by decide +kernel
theorem d13_20 : decode jdk_29_method_24_code 20 = .ok (.invokespecial 113, 3) := by decide +kernel
theorem d13_23 : decode jdk_29_method_24_code 23 = .ok (.athrow, 1) := by decide +kernel
theorem d13_24 : decode jdk_29_method_24_code 24 = .ok (.iload_n 2, 1) := by decide +kernel
theorem d13_25 : decode jdk_29_method_24_code 25 = .ok (.ireturn, 1) := by decide +kernel
theorem pn_13 : plainFor (⟨"java/lang/Math", "addExact", "(II)I"⟩ : MethodName) = true := Jvm.Free.JP.mathPlain rfl (by decide +kernel)
abbrev y13 : MethodName := ⟨"java/lang/Math", "addExact", "(II)I"⟩
theorem ef_13 (x0 : Int32) (x1 : Int32) (m : MethodId) : entryFrame m #[(.int x0), (.int x1)] 3 = mkF m 0 #[.val (.int x0), .val (.int x1), .unset] [] := by first | (simp [entryFrame, mkF, argsToLocals, Value.category]; done) | rfl
theorem d14_0 : decode jdk_29_method_65_code 0 = .ok (.iload_n 0, 1) := by decide +kernel
theorem d14_1 : decode jdk_29_method_65_code 1 = .ok (.iload_n 1, 1) := by decide +kernel
theorem d14_2 : decode jdk_29_method_65_code 2 = .ok (.if_icmp .lt 7, 3) := by decide +kernel
theorem d14_5 : decode jdk_29_method_65_code 5 = .ok (.iload_n 0, 1) := by decide +kernel
theorem d14_6 : decode jdk_29_method_65_code 6 = .ok (.goto 4, 3) := by decide +kernel
theorem d14_9 : decode jdk_29_method_65_code 9 = .ok (.iload_n 1, 1) := by decide +kernel
theorem d14_10 : decode jdk_29_method_65_code 10 = .ok (.ireturn, 1) := by decide +kernel
theorem pn_14 : plainFor (⟨"java/lang/Math", "max", "(II)I"⟩ : MethodName) = true := Jvm.Free.JP.mathPlain rfl (by decide +kernel)
abbrev y14 : MethodName := ⟨"java/lang/Math", "max", "(II)I"⟩
theorem ef_14 (x0 : Int32) (x1 : Int32) (m : MethodId) : entryFrame m #[(.int x0), (.int x1)] 2 = mkF m 0 #[.val (.int x0), .val (.int x1)] [] := by first | (simp [entryFrame, mkF, argsToLocals, Value.category]; done) | rfl
theorem d15_0 : decode prog_78_method_9_code 0 = .ok (.ldc2_w 184, 3) := by decide +kernel
theorem d15_3 : decode prog_78_method_9_code 3 = .ok (.ldc2_w 66, 3) := by decide +kernel
theorem d15_6 : decode prog_78_method_9_code 6 = .ok (.aload_n 0, 1) := by decide +kernel
theorem d15_7 : decode prog_78_method_9_code 7 = .ok (.getfield 53, 3) := by decide +kernel
theorem d15_10 : decode prog_78_method_9_code 10 = .ok (.i2l, 1) := by decide +kernel
theorem d15_11 : decode prog_78_method_9_code 11 = .ok (.lmul, 1) := by decide +kernel
theorem d15_12 : decode prog_78_method_9_code 12 = .ok (.ladd, 1) := by decide +kernel
theorem d15_13 : decode prog_78_method_9_code 13 = .ok (.lreturn, 1) := by decide +kernel
theorem pn_15 : plainFor (⟨"com/example/runnel/runnel/runtime/RecordBuffer", "fixedMemory", "()J"⟩ : MethodName) = true := plainFor_of_name (by first | (simp [plainName, overriddenIn]; done) | decide +kernel)
abbrev y15 : MethodName := ⟨"com/example/runnel/runnel/runtime/RecordBuffer", "fixedMemory", "()J"⟩
theorem ef_15 (x0 : Addr) (m : MethodId) : entryFrame m #[(.ref x0)] 1 = mkF m 0 #[.val (.ref x0)] [] := by first | (simp [entryFrame, mkF, argsToLocals, Value.category]; done) | rfl
theorem d16_0 : decode prog_58_method_4_code 0 = .ok (.aload_n 0, 1) := by decide +kernel
theorem d16_1 : decode prog_58_method_4_code 1 = .ok (.getfield 9, 3) := by decide +kernel
theorem d16_4 : decode prog_58_method_4_code 4 = .ok (.arraylength, 1) := by decide +kernel
theorem d16_5 : decode prog_58_method_4_code 5 = .ok (.ireturn, 1) := by decide +kernel
theorem pn_16 : plainFor (⟨"com/example/runnel/runnel/runtime/Bytes", "capacity", "()I"⟩ : MethodName) = true := plainFor_of_name (by first | (simp [plainName, overriddenIn]; done) | decide +kernel)
abbrev y16 : MethodName := ⟨"com/example/runnel/runnel/runtime/Bytes", "capacity", "()I"⟩
theorem ef_16 (x0 : Addr) (m : MethodId) : entryFrame m #[(.ref x0)] 1 = mkF m 0 #[.val (.ref x0)] [] := by first | (simp [entryFrame, mkF, argsToLocals, Value.category]; done) | rfl
theorem d17_0 : decode prog_58_method_2_code 0 = .ok (.aload_n 0, 1) := by decide +kernel
theorem d17_1 : decode prog_58_method_2_code 1 = .ok (.getfield 9, 3) := by decide +kernel
theorem d17_4 : decode prog_58_method_2_code 4 = .ok (.areturn, 1) := by decide +kernel
theorem pn_17 : plainFor (⟨"com/example/runnel/runnel/runtime/Bytes", "array", "()[B"⟩ : MethodName) = true := plainFor_of_name (by first | (simp [plainName, overriddenIn]; done) | decide +kernel)
abbrev y17 : MethodName := ⟨"com/example/runnel/runnel/runtime/Bytes", "array", "()[B"⟩
theorem ef_17 (x0 : Addr) (m : MethodId) : entryFrame m #[(.ref x0)] 1 = mkF m 0 #[.val (.ref x0)] [] := by first | (simp [entryFrame, mkF, argsToLocals, Value.category]; done) | rfl
theorem d18_0 : decode prog_58_method_10_code 0 = .ok (.lconst 0, 1) := by decide +kernel
theorem d18_1 : decode prog_58_method_10_code 1 = .ok (.lstore_n 3, 1) := by decide +kernel
theorem d18_2 : decode prog_58_method_10_code 2 = .ok (.iconst 0, 1) := by decide +kernel
theorem d18_3 : decode prog_58_method_10_code 3 = .ok (.istore 5, 2) := by decide +kernel
theorem d18_5 : decode prog_58_method_10_code 5 = .ok (.iload 5, 2) := by decide +kernel
theorem d18_7 : decode prog_58_method_10_code 7 = .ok (.bipush 8, 2) := by decide +kernel
theorem d18_9 : decode prog_58_method_10_code 9 = .ok (.if_icmp .ge 38, 3) := by decide +kernel
theorem d18_12 : decode prog_58_method_10_code 12 = .ok (.lload_n 3, 1) := by decide +kernel
theorem d18_13 : decode prog_58_method_10_code 13 = .ok (.bipush 8, 2) := by decide +kernel
theorem d18_15 : decode prog_58_method_10_code 15 = .ok (.lshl, 1) := by decide +kernel
theorem d18_16 : decode prog_58_method_10_code 16 = .ok (.iload_n 1, 1) := by decide +kernel
theorem d18_17 : decode prog_58_method_10_code 17 = .ok (.iload 5, 2) := by decide +kernel
theorem d18_19 : decode prog_58_method_10_code 19 = .ok (.iadd, 1) := by decide +kernel
theorem d18_20 : decode prog_58_method_10_code 20 = .ok (.iload_n 2, 1) := by decide +kernel
theorem d18_21 : decode prog_58_method_10_code 21 = .ok (.if_icmp .ge 16, 3) := by decide +kernel
theorem d18_24 : decode prog_58_method_10_code 24 = .ok (.aload_n 0, 1) := by decide +kernel
theorem d18_25 : decode prog_58_method_10_code 25 = .ok (.iload_n 1, 1) := by decide +kernel
theorem d18_26 : decode prog_58_method_10_code 26 = .ok (.iload 5, 2) := by decide +kernel
theorem d18_28 : decode prog_58_method_10_code 28 = .ok (.iadd, 1) := by decide +kernel
theorem d18_29 : decode prog_58_method_10_code 29 = .ok (.baload, 1) := by decide +kernel
theorem d18_30 : decode prog_58_method_10_code 30 = .ok (.sipush 255, 3) := by decide +kernel
theorem d18_33 : decode prog_58_method_10_code 33 = .ok (.iand, 1) := by decide +kernel
theorem d18_34 : decode prog_58_method_10_code 34 = .ok (.goto 4, 3) := by decide +kernel
theorem d18_37 : decode prog_58_method_10_code 37 = .ok (.iconst 0, 1) := by decide +kernel
theorem d18_38 : decode prog_58_method_10_code 38 = .ok (.i2l, 1) := by decide +kernel
theorem d18_39 : decode prog_58_method_10_code 39 = .ok (.lor, 1) := by decide +kernel
theorem d18_40 : decode prog_58_method_10_code 40 = .ok (.lstore_n 3, 1) := by decide +kernel
theorem d18_41 : decode prog_58_method_10_code 41 = .ok (.iinc 5 1, 3) := by decide +kernel
theorem d18_44 : decode prog_58_method_10_code 44 = .ok (.goto (-39), 3) := by decide +kernel
theorem d18_47 : decode prog_58_method_10_code 47 = .ok (.lload_n 3, 1) := by decide +kernel
theorem d18_48 : decode prog_58_method_10_code 48 = .ok (.lreturn, 1) := by decide +kernel
theorem pn_18 : plainFor (⟨"com/example/runnel/runnel/runtime/Bytes", "prefixOf", "([BII)J"⟩ : MethodName) = true := plainFor_of_name (by first | (simp [plainName, overriddenIn]; done) | decide +kernel)
abbrev y18 : MethodName := ⟨"com/example/runnel/runnel/runtime/Bytes", "prefixOf", "([BII)J"⟩
theorem ef_18 (x0 : Addr) (x1 : Int32) (x2 : Int32) (m : MethodId) : entryFrame m #[(.ref x0), (.int x1), (.int x2)] 6 = mkF m 0 #[.val (.ref x0), .val (.int x1), .val (.int x2), .unset, .unset, .unset] [] := by first | (simp [entryFrame, mkF, argsToLocals, Value.category]; done) | rfl
theorem d19_0 : decode prog_78_method_3_code 0 = .ok (.ldc2_w 66, 3) := by decide +kernel
theorem d19_3 : decode prog_78_method_3_code 3 = .ok (.aload_n 0, 1) := by decide +kernel
theorem d19_4 : decode prog_78_method_3_code 4 = .ok (.getfield 28, 3) := by decide +kernel
theorem d19_7 : decode prog_78_method_3_code 7 = .ok (.arraylength, 1) := by decide +kernel
theorem d19_8 : decode prog_78_method_3_code 8 = .ok (.aload_n 0, 1) := by decide +kernel
theorem d19_9 : decode prog_78_method_3_code 9 = .ok (.getfield 31, 3) := by decide +kernel
theorem d19_12 : decode prog_78_method_3_code 12 = .ok (.arraylength, 1) := by decide +kernel
theorem d19_13 : decode prog_78_method_3_code 13 = .ok (.iadd, 1) := by decide +kernel
theorem d19_14 : decode prog_78_method_3_code 14 = .ok (.aload_n 0, 1) := by decide +kernel
theorem d19_15 : decode prog_78_method_3_code 15 = .ok (.getfield 34, 3) := by decide +kernel
theorem d19_18 : decode prog_78_method_3_code 18 = .ok (.arraylength, 1) := by decide +kernel
theorem d19_19 : decode prog_78_method_3_code 19 = .ok (.iadd, 1) := by decide +kernel
theorem d19_20 : decode prog_78_method_3_code 20 = .ok (.aload_n 0, 1) := by decide +kernel
theorem d19_21 : decode prog_78_method_3_code 21 = .ok (.getfield 37, 3) := by decide +kernel
theorem d19_24 : decode prog_78_method_3_code 24 = .ok (.arraylength, 1) := by decide +kernel
theorem d19_25 : decode prog_78_method_3_code 25 = .ok (.iadd, 1) := by decide +kernel
theorem d19_26 : decode prog_78_method_3_code 26 = .ok (.aload_n 0, 1) := by decide +kernel
theorem d19_27 : decode prog_78_method_3_code 27 = .ok (.getfield 44, 3) := by decide +kernel
theorem d19_30 : decode prog_78_method_3_code 30 = .ok (.arraylength, 1) := by decide +kernel
theorem d19_31 : decode prog_78_method_3_code 31 = .ok (.iadd, 1) := by decide +kernel
theorem d19_32 : decode prog_78_method_3_code 32 = .ok (.aload_n 0, 1) := by decide +kernel
theorem d19_33 : decode prog_78_method_3_code 33 = .ok (.getfield 47, 3) := by decide +kernel
theorem d19_36 : decode prog_78_method_3_code 36 = .ok (.arraylength, 1) := by decide +kernel
theorem d19_37 : decode prog_78_method_3_code 37 = .ok (.iadd, 1) := by decide +kernel
theorem d19_38 : decode prog_78_method_3_code 38 = .ok (.aload_n 0, 1) := by decide +kernel
theorem d19_39 : decode prog_78_method_3_code 39 = .ok (.getfield 50, 3) := by decide +kernel
theorem d19_42 : decode prog_78_method_3_code 42 = .ok (.arraylength, 1) := by decide +kernel
theorem d19_43 : decode prog_78_method_3_code 43 = .ok (.iadd, 1) := by decide +kernel
theorem d19_44 : decode prog_78_method_3_code 44 = .ok (.aload_n 0, 1) := by decide +kernel
theorem d19_45 : decode prog_78_method_3_code 45 = .ok (.getfield 68, 3) := by decide +kernel
theorem d19_48 : decode prog_78_method_3_code 48 = .ok (.ifnonnull 7, 3) := by decide +kernel
theorem d19_51 : decode prog_78_method_3_code 51 = .ok (.iconst 0, 1) := by decide +kernel
theorem d19_52 : decode prog_78_method_3_code 52 = .ok (.goto 8, 3) := by decide +kernel
theorem d19_55 : decode prog_78_method_3_code 55 = .ok (.aload_n 0, 1) := by decide +kernel
theorem d19_56 : decode prog_78_method_3_code 56 = .ok (.getfield 68, 3) := by decide +kernel
theorem d19_59 : decode prog_78_method_3_code 59 = .ok (.arraylength, 1) := by decide +kernel
theorem d19_60 : decode prog_78_method_3_code 60 = .ok (.iadd, 1) := by decide +kernel
theorem d19_61 : decode prog_78_method_3_code 61 = .ok (.i2l, 1) := by decide +kernel
theorem d19_62 : decode prog_78_method_3_code 62 = .ok (.lmul, 1) := by decide +kernel
theorem d19_63 : decode prog_78_method_3_code 63 = .ok (.ldc2_w 73, 3) := by decide +kernel
theorem d19_66 : decode prog_78_method_3_code 66 = .ok (.aload_n 0, 1) := by decide +kernel
theorem d19_67 : decode prog_78_method_3_code 67 = .ok (.getfield 40, 3) := by decide +kernel
theorem d19_70 : decode prog_78_method_3_code 70 = .ok (.arraylength, 1) := by decide +kernel
theorem d19_71 : decode prog_78_method_3_code 71 = .ok (.i2l, 1) := by decide +kernel
theorem d19_72 : decode prog_78_method_3_code 72 = .ok (.lmul, 1) := by decide +kernel
theorem d19_73 : decode prog_78_method_3_code 73 = .ok (.ladd, 1) := by decide +kernel
theorem d19_74 : decode prog_78_method_3_code 74 = .ok (.lstore_n 1, 1) := by decide +kernel
theorem d19_75 : decode prog_78_method_3_code 75 = .ok (.aload_n 0, 1) := by decide +kernel
theorem d19_76 : decode prog_78_method_3_code 76 = .ok (.invokevirtual 75, 3) := by decide +kernel
theorem d19_79 : decode prog_78_method_3_code 79 = .ok (.aload_n 0, 1) := by decide +kernel
theorem d19_80 : decode prog_78_method_3_code 80 = .ok (.getfield 14, 3) := by decide +kernel
theorem d19_83 : decode prog_78_method_3_code 83 = .ok (.invokevirtual 79, 3) := by decide +kernel
theorem d19_86 : decode prog_78_method_3_code 86 = .ok (.i2l, 1) := by decide +kernel
theorem d19_87 : decode prog_78_method_3_code 87 = .ok (.ladd, 1) := by decide +kernel
theorem d19_88 : decode prog_78_method_3_code 88 = .ok (.ldc2_w 83, 3) := by decide +kernel
theorem d19_91 : decode prog_78_method_3_code 91 = .ok (.aload_n 0, 1) := by decide +kernel
theorem d19_92 : decode prog_78_method_3_code 92 = .ok (.getfield 18, 3) := by decide +kernel
theorem d19_95 : decode prog_78_method_3_code 95 = .ok (.arraylength, 1) := by decide +kernel
theorem d19_96 : decode prog_78_method_3_code 96 = .ok (.i2l, 1) := by decide +kernel
theorem d19_97 : decode prog_78_method_3_code 97 = .ok (.lmul, 1) := by decide +kernel
theorem d19_98 : decode prog_78_method_3_code 98 = .ok (.ladd, 1) := by decide +kernel
theorem d19_99 : decode prog_78_method_3_code 99 = .ok (.lload_n 1, 1) := by decide +kernel
theorem d19_100 : decode prog_78_method_3_code 100 = .ok (.ladd, 1) := by decide +kernel
theorem d19_101 : decode prog_78_method_3_code 101 = .ok (.lreturn, 1) := by decide +kernel
theorem pn_19 : plainFor (⟨"com/example/runnel/runnel/runtime/RecordBuffer", "memory", "()J"⟩ : MethodName) = true := plainFor_of_name (by first | (simp [plainName, overriddenIn]; done) | decide +kernel)
abbrev y19 : MethodName := ⟨"com/example/runnel/runnel/runtime/RecordBuffer", "memory", "()J"⟩
theorem ef_19 (x0 : Addr) (m : MethodId) : entryFrame m #[(.ref x0)] 3 = mkF m 0 #[.val (.ref x0), .unset, .unset] [] := by first | (simp [entryFrame, mkF, argsToLocals, Value.category]; done) | rfl
theorem d20_0 : decode prog_78_method_6_code 0 = .ok (.new 7, 3) := by decide +kernel
theorem d20_3 : decode prog_78_method_6_code 3 = .ok (.dup, 1) := by decide +kernel
theorem d20_4 : decode prog_78_method_6_code 4 = .ok (.aload_n 0, 1) := by decide +kernel
theorem d20_5 : decode prog_78_method_6_code 5 = .ok (.getfield 14, 3) := by decide +kernel
theorem d20_8 : decode prog_78_method_6_code 8 = .ok (.invokevirtual 89, 3) := by decide +kernel
theorem d20_11 : decode prog_78_method_6_code 11 = .ok (.invokespecial 11, 3) := by decide +kernel
theorem d20_14 : decode prog_78_method_6_code 14 = .ok (.astore_n 1, 1) := by decide +kernel
theorem d20_15 : decode prog_78_method_6_code 15 = .ok (.aload_n 1, 1) := by decide +kernel
theorem d20_16 : decode prog_78_method_6_code 16 = .ok (.aload_n 0, 1) := by decide +kernel
theorem d20_17 : decode prog_78_method_6_code 17 = .ok (.getfield 14, 3) := by decide +kernel
theorem d20_20 : decode prog_78_method_6_code 20 = .ok (.invokevirtual 123, 3) := by decide +kernel
theorem d20_23 : decode prog_78_method_6_code 23 = .ok (.iconst 0, 1) := by decide +kernel
theorem d20_24 : decode prog_78_method_6_code 24 = .ok (.aload_n 0, 1) := by decide +kernel
theorem d20_25 : decode prog_78_method_6_code 25 = .ok (.getfield 14, 3) := by decide +kernel
theorem d20_28 : decode prog_78_method_6_code 28 = .ok (.invokevirtual 89, 3) := by decide +kernel
theorem d20_31 : decode prog_78_method_6_code 31 = .ok (.invokevirtual 130, 3) := by decide +kernel
theorem d20_34 : decode prog_78_method_6_code 34 = .ok (.aload_n 0, 1) := by decide +kernel
theorem d20_35 : decode prog_78_method_6_code 35 = .ok (.aload_n 1, 1) := by decide +kernel
theorem d20_36 : decode prog_78_method_6_code 36 = .ok (.putfield 14, 3) := by decide +kernel
theorem d20_39 : decode prog_78_method_6_code 39 = .ok (.aload_n 0, 1) := by decide +kernel
theorem d20_40 : decode prog_78_method_6_code 40 = .ok (.aload_n 0, 1) := by decide +kernel
theorem d20_41 : decode prog_78_method_6_code 41 = .ok (.getfield 61, 3) := by decide +kernel
theorem d20_44 : decode prog_78_method_6_code 44 = .ok (.invokevirtual 117, 3) := by decide +kernel
theorem d20_47 : decode prog_78_method_6_code 47 = .ok (.aload_n 0, 1) := by decide +kernel
theorem d20_48 : decode prog_78_method_6_code 48 = .ok (.aload_n 0, 1) := by decide +kernel
theorem d20_49 : decode prog_78_method_6_code 49 = .ok (.getfield 28, 3) := by decide +kernel
theorem d20_52 : decode prog_78_method_6_code 52 = .ok (.aload_n 0, 1) := by decide +kernel
theorem d20_53 : decode prog_78_method_6_code 53 = .ok (.getfield 101, 3) := by decide +kernel
theorem d20_56 : decode prog_78_method_6_code 56 = .ok (.invokestatic 154, 3) := by decide +kernel
theorem d20_59 : decode prog_78_method_6_code 59 = .ok (.putfield 28, 3) := by decide +kernel
theorem d20_62 : decode prog_78_method_6_code 62 = .ok (.aload_n 0, 1) := by decide +kernel
theorem d20_63 : decode prog_78_method_6_code 63 = .ok (.aload_n 0, 1) := by decide +kernel
theorem d20_64 : decode prog_78_method_6_code 64 = .ok (.getfield 31, 3) := by decide +kernel
theorem d20_67 : decode prog_78_method_6_code 67 = .ok (.aload_n 0, 1) := by decide +kernel
theorem d20_68 : decode prog_78_method_6_code 68 = .ok (.getfield 101, 3) := by decide +kernel
theorem d20_71 : decode prog_78_method_6_code 71 = .ok (.invokestatic 154, 3) := by decide +kernel
theorem d20_74 : decode prog_78_method_6_code 74 = .ok (.putfield 31, 3) := by decide +kernel
theorem d20_77 : decode prog_78_method_6_code 77 = .ok (.aload_n 0, 1) := by decide +kernel
theorem d20_78 : decode prog_78_method_6_code 78 = .ok (.getstatic 158, 3) := by decide +kernel
theorem d20_81 : decode prog_78_method_6_code 81 = .ok (.putfield 34, 3) := by decide +kernel
theorem d20_84 : decode prog_78_method_6_code 84 = .ok (.aload_n 0, 1) := by decide +kernel
theorem d20_85 : decode prog_78_method_6_code 85 = .ok (.aload_n 0, 1) := by decide +kernel
theorem d20_86 : decode prog_78_method_6_code 86 = .ok (.getfield 37, 3) := by decide +kernel
theorem d20_89 : decode prog_78_method_6_code 89 = .ok (.aload_n 0, 1) := by decide +kernel
theorem d20_90 : decode prog_78_method_6_code 90 = .ok (.getfield 101, 3) := by decide +kernel
theorem d20_93 : decode prog_78_method_6_code 93 = .ok (.invokestatic 154, 3) := by decide +kernel
theorem d20_96 : decode prog_78_method_6_code 96 = .ok (.putfield 37, 3) := by decide +kernel
theorem d20_99 : decode prog_78_method_6_code 99 = .ok (.aload_n 0, 1) := by decide +kernel
theorem d20_100 : decode prog_78_method_6_code 100 = .ok (.aload_n 0, 1) := by decide +kernel
theorem d20_101 : decode prog_78_method_6_code 101 = .ok (.getfield 40, 3) := by decide +kernel
theorem d20_104 : decode prog_78_method_6_code 104 = .ok (.aload_n 0, 1) := by decide +kernel
theorem d20_105 : decode prog_78_method_6_code 105 = .ok (.getfield 101, 3) := by decide +kernel
theorem d20_108 : decode prog_78_method_6_code 108 = .ok (.invokestatic 161, 3) := by decide +kernel
theorem d20_111 : decode prog_78_method_6_code 111 = .ok (.putfield 40, 3) := by decide +kernel
theorem d20_114 : decode prog_78_method_6_code 114 = .ok (.aload_n 0, 1) := by decide +kernel
theorem d20_115 : decode prog_78_method_6_code 115 = .ok (.aload_n 0, 1) := by decide +kernel
theorem d20_116 : decode prog_78_method_6_code 116 = .ok (.getfield 44, 3) := by decide +kernel
theorem d20_119 : decode prog_78_method_6_code 119 = .ok (.aload_n 0, 1) := by decide +kernel
theorem d20_120 : decode prog_78_method_6_code 120 = .ok (.getfield 101, 3) := by decide +kernel
theorem d20_123 : decode prog_78_method_6_code 123 = .ok (.invokestatic 154, 3) := by decide +kernel
theorem d20_126 : decode prog_78_method_6_code 126 = .ok (.putfield 44, 3) := by decide +kernel
theorem d20_129 : decode prog_78_method_6_code 129 = .ok (.aload_n 0, 1) := by decide +kernel
theorem d20_130 : decode prog_78_method_6_code 130 = .ok (.getstatic 158, 3) := by decide +kernel
theorem d20_133 : decode prog_78_method_6_code 133 = .ok (.putfield 47, 3) := by decide +kernel
theorem d20_136 : decode prog_78_method_6_code 136 = .ok (.aload_n 0, 1) := by decide +kernel
theorem d20_137 : decode prog_78_method_6_code 137 = .ok (.getstatic 158, 3) := by decide +kernel
theorem d20_140 : decode prog_78_method_6_code 140 = .ok (.putfield 50, 3) := by decide +kernel
theorem d20_143 : decode prog_78_method_6_code 143 = .ok (.return_, 1) := by decide +kernel
theorem pn_20 : plainFor (⟨"com/example/runnel/runnel/runtime/RecordBuffer", "trim", "()V"⟩ : MethodName) = true := plainFor_of_name (by first | (simp [plainName, overriddenIn]; done) | decide +kernel)
abbrev y20 : MethodName := ⟨"com/example/runnel/runnel/runtime/RecordBuffer", "trim", "()V"⟩
theorem ef_20 (x0 : Addr) (m : MethodId) : entryFrame m #[(.ref x0)] 2 = mkF m 0 #[.val (.ref x0), .unset] [] := by first | (simp [entryFrame, mkF, argsToLocals, Value.category]; done) | rfl
theorem d21_0 : decode prog_78_method_13_code 0 = .ok (.aload_n 0, 1) := by decide +kernel
theorem d21_1 : decode prog_78_method_13_code 1 = .ok (.aload_n 0, 1) := by decide +kernel
theorem d21_2 : decode prog_78_method_13_code 2 = .ok (.getfield 18, 3) := by decide +kernel
theorem d21_5 : decode prog_78_method_13_code 5 = .ok (.iload_n 1, 1) := by decide +kernel
theorem d21_6 : decode prog_78_method_13_code 6 = .ok (.invokestatic 154, 3) := by decide +kernel
theorem d21_9 : decode prog_78_method_13_code 9 = .ok (.putfield 18, 3) := by decide +kernel
theorem d21_12 : decode prog_78_method_13_code 12 = .ok (.aload_n 0, 1) := by decide +kernel
theorem d21_13 : decode prog_78_method_13_code 13 = .ok (.aload_n 0, 1) := by decide +kernel
theorem d21_14 : decode prog_78_method_13_code 14 = .ok (.getfield 22, 3) := by decide +kernel
theorem d21_17 : decode prog_78_method_13_code 17 = .ok (.iload_n 1, 1) := by decide +kernel
theorem d21_18 : decode prog_78_method_13_code 18 = .ok (.invokestatic 154, 3) := by decide +kernel
theorem d21_21 : decode prog_78_method_13_code 21 = .ok (.putfield 22, 3) := by decide +kernel
theorem d21_24 : decode prog_78_method_13_code 24 = .ok (.aload_n 0, 1) := by decide +kernel
theorem d21_25 : decode prog_78_method_13_code 25 = .ok (.aload_n 0, 1) := by decide +kernel
theorem d21_26 : decode prog_78_method_13_code 26 = .ok (.getfield 25, 3) := by decide +kernel
theorem d21_29 : decode prog_78_method_13_code 29 = .ok (.iload_n 1, 1) := by decide +kernel
theorem d21_30 : decode prog_78_method_13_code 30 = .ok (.invokestatic 154, 3) := by decide +kernel
theorem d21_33 : decode prog_78_method_13_code 33 = .ok (.putfield 25, 3) := by decide +kernel
theorem d21_36 : decode prog_78_method_13_code 36 = .ok (.return_, 1) := by decide +kernel
theorem pn_21 : plainFor (⟨"com/example/runnel/runnel/runtime/RecordBuffer", "growRecords", "(I)V"⟩ : MethodName) = true := plainFor_of_name (by first | (simp [plainName, overriddenIn]; done) | decide +kernel)
abbrev y21 : MethodName := ⟨"com/example/runnel/runnel/runtime/RecordBuffer", "growRecords", "(I)V"⟩
theorem ef_21 (x0 : Addr) (x1 : Int32) (m : MethodId) : entryFrame m #[(.ref x0), (.int x1)] 2 = mkF m 0 #[.val (.ref x0), .val (.int x1)] [] := by first | (simp [entryFrame, mkF, argsToLocals, Value.category]; done) | rfl
theorem d22_0 : decode jdk_65_method_123_code 0 = .ok (.iload_n 1, 1) := by decide +kernel
theorem d22_1 : decode jdk_65_method_123_code 1 = .ok (.aload_n 0, 1) := by decide +kernel
theorem d22_2 : decode jdk_65_method_123_code 2 = .ok (.arraylength, 1) := by decide +kernel
theorem d22_3 : decode jdk_65_method_123_code 3 = .ok (.if_icmp .ne 11, 3) := by decide +kernel
theorem d22_6 : decode jdk_65_method_123_code 6 = .ok (.aload_n 0, 1) := by decide +kernel
theorem d22_7 : decode jdk_65_method_123_code 7 = .ok (.invokevirtual 316, 3) := by decide +kernel
theorem d22_10 : decode jdk_65_method_123_code 10 = .ok (.checkcast 317, 3) := by decide +kernel
theorem d22_13 : decode jdk_65_method_123_code 13 = .ok (.areturn, 1) := by decide +kernel
theorem d22_14 : decode jdk_65_method_123_code 14 = .ok (.iload_n 1, 1) := by decide +kernel
theorem d22_15 : decode jdk_65_method_123_code 15 = .ok (.newarray .int, 2) := by decide +kernel
theorem d22_17 : decode jdk_65_method_123_code 17 = .ok (.astore_n 2, 1) := by decide +kernel
theorem d22_18 : decode jdk_65_method_123_code 18 = .ok (.aload_n 0, 1) := by decide +kernel
theorem d22_19 : decode jdk_65_method_123_code 19 = .ok (.iconst 0, 1) := by decide +kernel
theorem d22_20 : decode jdk_65_method_123_code 20 = .ok (.aload_n 2, 1) := by decide +kernel
theorem d22_21 : decode jdk_65_method_123_code 21 = .ok (.iconst 0, 1) := by decide +kernel
theorem d22_22 : decode jdk_65_method_123_code 22 = .ok (.aload_n 0, 1) := by decide +kernel
theorem d22_23 : decode jdk_65_method_123_code 23 = .ok (.arraylength, 1) := by decide +kernel
theorem d22_24 : decode jdk_65_method_123_code 24 = .ok (.iload_n 1, 1) := by decide +kernel
theorem d22_25 : decode jdk_65_method_123_code 25 = .ok (.invokestatic 304, 3) := by decide +kernel
theorem d22_28 : decode jdk_65_method_123_code 28 = .ok (.invokestatic 150, 3) := by decide +kernel
theorem d22_31 : decode jdk_65_method_123_code 31 = .ok (.aload_n 2, 1) := by decide +kernel
theorem d22_32 : decode jdk_65_method_123_code 32 = .ok (.areturn, 1) := by decide +kernel
theorem pn_22 : plainFor (⟨"java/util/Arrays", "copyOf", "([II)[I"⟩ : MethodName) = true := plainFor_of_name (by first | (simp [plainName, overriddenIn]; done) | decide +kernel)
abbrev y22 : MethodName := ⟨"java/util/Arrays", "copyOf", "([II)[I"⟩
theorem ef_22 (x0 : Addr) (x1 : Int32) (m : MethodId) : entryFrame m #[(.ref x0), (.int x1)] 3 = mkF m 0 #[.val (.ref x0), .val (.int x1), .unset] [] := by first | (simp [entryFrame, mkF, argsToLocals, Value.category]; done) | rfl
theorem d23_0 : decode jdk_29_method_69_code 0 = .ok (.iload_n 0, 1) := by decide +kernel
theorem d23_1 : decode jdk_29_method_69_code 1 = .ok (.iload_n 1, 1) := by decide +kernel
theorem d23_2 : decode jdk_29_method_69_code 2 = .ok (.if_icmp .gt 7, 3) := by decide +kernel
theorem d23_5 : decode jdk_29_method_69_code 5 = .ok (.iload_n 0, 1) := by decide +kernel
theorem d23_6 : decode jdk_29_method_69_code 6 = .ok (.goto 4, 3) := by decide +kernel
theorem d23_9 : decode jdk_29_method_69_code 9 = .ok (.iload_n 1, 1) := by decide +kernel
theorem d23_10 : decode jdk_29_method_69_code 10 = .ok (.ireturn, 1) := by decide +kernel
theorem pn_23 : plainFor (⟨"java/lang/Math", "min", "(II)I"⟩ : MethodName) = true := Jvm.Free.JP.mathPlain rfl (by decide +kernel)
abbrev y23 : MethodName := ⟨"java/lang/Math", "min", "(II)I"⟩
theorem ef_23 (x0 : Int32) (x1 : Int32) (m : MethodId) : entryFrame m #[(.int x0), (.int x1)] 2 = mkF m 0 #[.val (.int x0), .val (.int x1)] [] := by first | (simp [entryFrame, mkF, argsToLocals, Value.category]; done) | rfl
theorem d24_0 : decode jdk_65_method_124_code 0 = .ok (.iload_n 1, 1) := by decide +kernel
theorem d24_1 : decode jdk_65_method_124_code 1 = .ok (.aload_n 0, 1) := by decide +kernel
theorem d24_2 : decode jdk_65_method_124_code 2 = .ok (.arraylength, 1) := by decide +kernel
theorem d24_3 : decode jdk_65_method_124_code 3 = .ok (.if_icmp .ne 11, 3) := by decide +kernel
theorem d24_6 : decode jdk_65_method_124_code 6 = .ok (.aload_n 0, 1) := by decide +kernel
theorem d24_7 : decode jdk_65_method_124_code 7 = .ok (.invokevirtual 319, 3) := by decide +kernel
theorem d24_10 : decode jdk_65_method_124_code 10 = .ok (.checkcast 320, 3) := by decide +kernel
theorem d24_13 : decode jdk_65_method_124_code 13 = .ok (.areturn, 1) := by decide +kernel
theorem d24_14 : decode jdk_65_method_124_code 14 = .ok (.iload_n 1, 1) := by decide +kernel
theorem d24_15 : decode jdk_65_method_124_code 15 = .ok (.newarray .long, 2) := by decide +kernel
theorem d24_17 : decode jdk_65_method_124_code 17 = .ok (.astore_n 2, 1) := by decide +kernel
theorem d24_18 : decode jdk_65_method_124_code 18 = .ok (.aload_n 0, 1) := by decide +kernel
theorem d24_19 : decode jdk_65_method_124_code 19 = .ok (.iconst 0, 1) := by decide +kernel
theorem d24_20 : decode jdk_65_method_124_code 20 = .ok (.aload_n 2, 1) := by decide +kernel
theorem d24_21 : decode jdk_65_method_124_code 21 = .ok (.iconst 0, 1) := by decide +kernel
theorem d24_22 : decode jdk_65_method_124_code 22 = .ok (.aload_n 0, 1) := by decide +kernel
theorem d24_23 : decode jdk_65_method_124_code 23 = .ok (.arraylength, 1) := by decide +kernel
theorem d24_24 : decode jdk_65_method_124_code 24 = .ok (.iload_n 1, 1) := by decide +kernel
theorem d24_25 : decode jdk_65_method_124_code 25 = .ok (.invokestatic 304, 3) := by decide +kernel
theorem d24_28 : decode jdk_65_method_124_code 28 = .ok (.invokestatic 150, 3) := by decide +kernel
theorem d24_31 : decode jdk_65_method_124_code 31 = .ok (.aload_n 2, 1) := by decide +kernel
theorem d24_32 : decode jdk_65_method_124_code 32 = .ok (.areturn, 1) := by decide +kernel
theorem pn_24 : plainFor (⟨"java/util/Arrays", "copyOf", "([JI)[J"⟩ : MethodName) = true := plainFor_of_name (by first | (simp [plainName, overriddenIn]; done) | decide +kernel)
abbrev y24 : MethodName := ⟨"java/util/Arrays", "copyOf", "([JI)[J"⟩
theorem ef_24 (x0 : Addr) (x1 : Int32) (m : MethodId) : entryFrame m #[(.ref x0), (.int x1)] 3 = mkF m 0 #[.val (.ref x0), .val (.int x1), .unset] [] := by first | (simp [entryFrame, mkF, argsToLocals, Value.category]; done) | rfl
theorem d25_0 : decode prog_78_method_12_code 0 = .ok (.aload_n 0, 1) := by decide +kernel
theorem d25_1 : decode prog_78_method_12_code 1 = .ok (.getfield 34, 3) := by decide +kernel
theorem d25_4 : decode prog_78_method_12_code 4 = .ok (.iload_n 1, 1) := by decide +kernel
theorem d25_5 : decode prog_78_method_12_code 5 = .ok (.iaload, 1) := by decide +kernel
theorem d25_6 : decode prog_78_method_12_code 6 = .ok (.iload_n 2, 1) := by decide +kernel
theorem d25_7 : decode prog_78_method_12_code 7 = .ok (.if_icmp .ne 61, 3) := by decide +kernel
theorem d25_10 : decode prog_78_method_12_code 10 = .ok (.aload_n 0, 1) := by decide +kernel
theorem d25_11 : decode prog_78_method_12_code 11 = .ok (.getfield 31, 3) := by decide +kernel
theorem d25_14 : decode prog_78_method_12_code 14 = .ok (.iload_n 1, 1) := by decide +kernel
theorem d25_15 : decode prog_78_method_12_code 15 = .ok (.iaload, 1) := by decide +kernel
theorem d25_16 : decode prog_78_method_12_code 16 = .ok (.aload_n 3, 1) := by decide +kernel
theorem d25_17 : decode prog_78_method_12_code 17 = .ok (.invokevirtual 89, 3) := by decide +kernel
theorem d25_20 : decode prog_78_method_12_code 20 = .ok (.if_icmp .ne 48, 3) := by decide +kernel
theorem d25_23 : decode prog_78_method_12_code 23 = .ok (.aload_n 0, 1) := by decide +kernel
theorem d25_24 : decode prog_78_method_12_code 24 = .ok (.getfield 14, 3) := by decide +kernel
theorem d25_27 : decode prog_78_method_12_code 27 = .ok (.invokevirtual 123, 3) := by decide +kernel
theorem d25_30 : decode prog_78_method_12_code 30 = .ok (.aload_n 0, 1) := by decide +kernel
theorem d25_31 : decode prog_78_method_12_code 31 = .ok (.getfield 28, 3) := by decide +kernel
theorem d25_34 : decode prog_78_method_12_code 34 = .ok (.iload_n 1, 1) := by decide +kernel
theorem d25_35 : decode prog_78_method_12_code 35 = .ok (.iaload, 1) := by decide +kernel
theorem d25_36 : decode prog_78_method_12_code 36 = .ok (.aload_n 0, 1) := by decide +kernel
theorem d25_37 : decode prog_78_method_12_code 37 = .ok (.getfield 28, 3) := by decide +kernel
theorem d25_40 : decode prog_78_method_12_code 40 = .ok (.iload_n 1, 1) := by decide +kernel
theorem d25_41 : decode prog_78_method_12_code 41 = .ok (.iaload, 1) := by decide +kernel
theorem d25_42 : decode prog_78_method_12_code 42 = .ok (.aload_n 0, 1) := by decide +kernel
theorem d25_43 : decode prog_78_method_12_code 43 = .ok (.getfield 31, 3) := by decide +kernel
theorem d25_46 : decode prog_78_method_12_code 46 = .ok (.iload_n 1, 1) := by decide +kernel
theorem d25_47 : decode prog_78_method_12_code 47 = .ok (.iaload, 1) := by decide +kernel
theorem d25_48 : decode prog_78_method_12_code 48 = .ok (.iadd, 1) := by decide +kernel
theorem d25_49 : decode prog_78_method_12_code 49 = .ok (.aload_n 3, 1) := by decide +kernel
theorem d25_50 : decode prog_78_method_12_code 50 = .ok (.invokevirtual 123, 3) := by decide +kernel
theorem d25_53 : decode prog_78_method_12_code 53 = .ok (.iconst 0, 1) := by decide +kernel
theorem d25_54 : decode prog_78_method_12_code 54 = .ok (.aload_n 3, 1) := by decide +kernel
theorem d25_55 : decode prog_78_method_12_code 55 = .ok (.invokevirtual 89, 3) := by decide +kernel
theorem d25_58 : decode prog_78_method_12_code 58 = .ok (.invokestatic 190, 3) := by decide +kernel
theorem d25_61 : decode prog_78_method_12_code 61 = .ok (.ifCond .ne 7, 3) := by decide +kernel
theorem d25_64 : decode prog_78_method_12_code 64 = .ok (.iconst 1, 1) := by decide +kernel
theorem d25_65 : decode prog_78_method_12_code 65 = .ok (.goto 4, 3) := by decide +kernel
theorem d25_68 : decode prog_78_method_12_code 68 = .ok (.iconst 0, 1) := by decide +kernel
theorem d25_69 : decode prog_78_method_12_code 69 = .ok (.ireturn, 1) := by decide +kernel
theorem pn_25 : plainFor (⟨"com/example/runnel/runnel/runtime/RecordBuffer", "isKey", "(IILcom/example/runnel/runnel/runtime/Bytes;)Z"⟩ : MethodName) = true := plainFor_of_name (by first | (simp [plainName, overriddenIn]; done) | decide +kernel)
abbrev y25 : MethodName := ⟨"com/example/runnel/runnel/runtime/RecordBuffer", "isKey", "(IILcom/example/runnel/runnel/runtime/Bytes;)Z"⟩
theorem ef_25 (x0 : Addr) (x1 : Int32) (x2 : Int32) (x3 : Addr) (m : MethodId) : entryFrame m #[(.ref x0), (.int x1), (.int x2), (.ref x3)] 4 = mkF m 0 #[.val (.ref x0), .val (.int x1), .val (.int x2), .val (.ref x3)] [] := by first | (simp [entryFrame, mkF, argsToLocals, Value.category]; done) | rfl
theorem d26_0 : decode prog_58_method_9_code 0 = .ok (.iload_n 2, 1) := by decide +kernel
theorem d26_1 : decode prog_58_method_9_code 1 = .ok (.iload_n 1, 1) := by decide +kernel
theorem d26_2 : decode prog_58_method_9_code 2 = .ok (.isub, 1) := by decide +kernel
theorem d26_3 : decode prog_58_method_9_code 3 = .ok (.iload 5, 2) := by decide +kernel
theorem d26_5 : decode prog_58_method_9_code 5 = .ok (.iload 4, 2) := by decide +kernel
theorem d26_7 : decode prog_58_method_9_code 7 = .ok (.isub, 1) := by decide +kernel
theorem d26_8 : decode prog_58_method_9_code 8 = .ok (.invokestatic 35, 3) := by decide +kernel
theorem d26_11 : decode prog_58_method_9_code 11 = .ok (.istore 6, 2) := by decide +kernel
theorem d26_13 : decode prog_58_method_9_code 13 = .ok (.iconst 0, 1) := by decide +kernel
theorem d26_14 : decode prog_58_method_9_code 14 = .ok (.istore 7, 2) := by decide +kernel
theorem d26_16 : decode prog_58_method_9_code 16 = .ok (.iconst 0, 1) := by decide +kernel
theorem d26_17 : decode prog_58_method_9_code 17 = .ok (.istore 8, 2) := by decide +kernel
theorem d26_19 : decode prog_58_method_9_code 19 = .ok (.iload 8, 2) := by decide +kernel
theorem d26_21 : decode prog_58_method_9_code 21 = .ok (.iload 6, 2) := by decide +kernel
theorem d26_23 : decode prog_58_method_9_code 23 = .ok (.if_icmp .ge 40, 3) := by decide +kernel
theorem d26_26 : decode prog_58_method_9_code 26 = .ok (.iload 7, 2) := by decide +kernel
theorem d26_28 : decode prog_58_method_9_code 28 = .ok (.ifCond .ne 35, 3) := by decide +kernel
theorem d26_31 : decode prog_58_method_9_code 31 = .ok (.aload_n 0, 1) := by decide +kernel
theorem d26_32 : decode prog_58_method_9_code 32 = .ok (.iload_n 1, 1) := by decide +kernel
theorem d26_33 : decode prog_58_method_9_code 33 = .ok (.iload 8, 2) := by decide +kernel
theorem d26_35 : decode prog_58_method_9_code 35 = .ok (.iadd, 1) := by decide +kernel
theorem d26_36 : decode prog_58_method_9_code 36 = .ok (.baload, 1) := by decide +kernel
theorem d26_37 : decode prog_58_method_9_code 37 = .ok (.sipush 255, 3) := by decide +kernel
theorem d26_40 : decode prog_58_method_9_code 40 = .ok (.iand, 1) := by decide +kernel
theorem d26_41 : decode prog_58_method_9_code 41 = .ok (.aload_n 3, 1) := by decide +kernel
theorem d26_42 : decode prog_58_method_9_code 42 = .ok (.iload 4, 2) := by decide +kernel
theorem d26_44 : decode prog_58_method_9_code 44 = .ok (.iload 8, 2) := by decide +kernel
theorem d26_46 : decode prog_58_method_9_code 46 = .ok (.iadd, 1) := by decide +kernel
theorem d26_47 : decode prog_58_method_9_code 47 = .ok (.baload, 1) := by decide +kernel
theorem d26_48 : decode prog_58_method_9_code 48 = .ok (.sipush 255, 3) := by decide +kernel
theorem d26_51 : decode prog_58_method_9_code 51 = .ok (.iand, 1) := by decide +kernel
theorem d26_52 : decode prog_58_method_9_code 52 = .ok (.invokestatic 41, 3) := by decide +kernel
theorem d26_55 : decode prog_58_method_9_code 55 = .ok (.istore 7, 2) := by decide +kernel
theorem d26_57 : decode prog_58_method_9_code 57 = .ok (.iinc 8 1, 3) := by decide +kernel
theorem d26_60 : decode prog_58_method_9_code 60 = .ok (.goto (-41), 3) := by decide +kernel
theorem d26_63 : decode prog_58_method_9_code 63 = .ok (.iload 7, 2) := by decide +kernel
theorem d26_65 : decode prog_58_method_9_code 65 = .ok (.ifCond .eq 8, 3) := by decide +kernel
theorem d26_68 : decode prog_58_method_9_code 68 = .ok (.iload 7, 2) := by decide +kernel
theorem d26_70 : decode prog_58_method_9_code 70 = .ok (.goto 14, 3) := by decide +kernel
theorem d26_73 : decode prog_58_method_9_code 73 = .ok (.iload_n 2, 1) := by decide +kernel
theorem d26_74 : decode prog_58_method_9_code 74 = .ok (.iload_n 1, 1) := by decide +kernel
theorem d26_75 : decode prog_58_method_9_code 75 = .ok (.isub, 1) := by decide +kernel
theorem d26_76 : decode prog_58_method_9_code 76 = .ok (.iload 5, 2) := by decide +kernel
theorem d26_78 : decode prog_58_method_9_code 78 = .ok (.iload 4, 2) := by decide +kernel
theorem d26_80 : decode prog_58_method_9_code 80 = .ok (.isub, 1) := by decide +kernel
theorem d26_81 : decode prog_58_method_9_code 81 = .ok (.invokestatic 41, 3) := by decide +kernel
theorem d26_84 : decode prog_58_method_9_code 84 = .ok (.ireturn, 1) := by decide +kernel
theorem pn_26 : plainFor (⟨"com/example/runnel/runnel/runtime/Bytes", "compare", "([BII[BII)I"⟩ : MethodName) = true := plainFor_of_name (by first | (simp [plainName, overriddenIn]; done) | decide +kernel)
abbrev y26 : MethodName := ⟨"com/example/runnel/runnel/runtime/Bytes", "compare", "([BII[BII)I"⟩
theorem ef_26 (x0 : Addr) (x1 : Int32) (x2 : Int32) (x3 : Addr) (x4 : Int32) (x5 : Int32) (m : MethodId) : entryFrame m #[(.ref x0), (.int x1), (.int x2), (.ref x3), (.int x4), (.int x5)] 9 = mkF m 0 #[.val (.ref x0), .val (.int x1), .val (.int x2), .val (.ref x3), .val (.int x4), .val (.int x5), .unset, .unset, .unset] [] := by first | (simp [entryFrame, mkF, argsToLocals, Value.category]; done) | rfl
theorem d27_0 : decode jdk_33_method_40_code 0 = .ok (.iload_n 0, 1) := by decide +kernel
theorem d27_1 : decode jdk_33_method_40_code 1 = .ok (.iload_n 1, 1) := by decide +kernel
theorem d27_2 : decode jdk_33_method_40_code 2 = .ok (.if_icmp .ge 7, 3) := by decide +kernel
theorem d27_5 : decode jdk_33_method_40_code 5 = .ok (.iconst (-1), 1) := by decide +kernel
theorem d27_6 : decode jdk_33_method_40_code 6 = .ok (.goto 13, 3) := by decide +kernel
theorem d27_9 : decode jdk_33_method_40_code 9 = .ok (.iload_n 0, 1) := by decide +kernel
theorem d27_10 : decode jdk_33_method_40_code 10 = .ok (.iload_n 1, 1) := by decide +kernel
theorem d27_11 : decode jdk_33_method_40_code 11 = .ok (.if_icmp .ne 7, 3) := by decide +kernel
theorem d27_14 : decode jdk_33_method_40_code 14 = .ok (.iconst 0, 1) := by decide +kernel
theorem d27_15 : decode jdk_33_method_40_code 15 = .ok (.goto 4, 3) := by decide +kernel
theorem d27_18 : decode jdk_33_method_40_code 18 = .ok (.iconst 1, 1) := by decide +kernel
theorem d27_19 : decode jdk_33_method_40_code 19 = .ok (.ireturn, 1) := by decide +kernel
theorem pn_27 : plainFor (⟨"java/lang/Integer", "compare", "(II)I"⟩ : MethodName) = true := plainFor_of_name (by first | (simp [plainName, overriddenIn]; done) | decide +kernel)
abbrev y27 : MethodName := ⟨"java/lang/Integer", "compare", "(II)I"⟩
theorem ef_27 (x0 : Int32) (x1 : Int32) (m : MethodId) : entryFrame m #[(.int x0), (.int x1)] 2 = mkF m 0 #[.val (.int x0), .val (.int x1)] [] := by first | (simp [entryFrame, mkF, argsToLocals, Value.category]; done) | rfl
theorem d28_0 : decode prog_78_method_5_code 0 = .ok (.aload_n 0, 1) := by decide +kernel
theorem d28_1 : decode prog_78_method_5_code 1 = .ok (.aload_n 0, 1) := by decide +kernel
theorem d28_2 : decode prog_78_method_5_code 2 = .ok (.getfield 101, 3) := by decide +kernel
theorem d28_5 : decode prog_78_method_5_code 5 = .ok (.newarray .int, 2) := by decide +kernel
theorem d28_7 : decode prog_78_method_5_code 7 = .ok (.putfield 68, 3) := by decide +kernel
theorem d28_10 : decode prog_78_method_5_code 10 = .ok (.bipush 32, 2) := by decide +kernel
theorem d28_12 : decode prog_78_method_5_code 12 = .ok (.newarray .int, 2) := by decide +kernel
theorem d28_14 : decode prog_78_method_5_code 14 = .ok (.astore_n 1, 1) := by decide +kernel
theorem d28_15 : decode prog_78_method_5_code 15 = .ok (.aload_n 1, 1) := by decide +kernel
theorem d28_16 : decode prog_78_method_5_code 16 = .ok (.iconst (-1), 1) := by decide +kernel
theorem d28_17 : decode prog_78_method_5_code 17 = .ok (.invokestatic 137, 3) := by decide +kernel
theorem d28_20 : decode prog_78_method_5_code 20 = .ok (.iconst 0, 1) := by decide +kernel
theorem d28_21 : decode prog_78_method_5_code 21 = .ok (.istore_n 2, 1) := by decide +kernel
theorem d28_22 : decode prog_78_method_5_code 22 = .ok (.iload_n 2, 1) := by decide +kernel
theorem d28_23 : decode prog_78_method_5_code 23 = .ok (.aload_n 0, 1) := by decide +kernel
theorem d28_24 : decode prog_78_method_5_code 24 = .ok (.getfield 101, 3) := by decide +kernel
theorem d28_27 : decode prog_78_method_5_code 27 = .ok (.if_icmp .ge 22, 3) := by decide +kernel
theorem d28_30 : decode prog_78_method_5_code 30 = .ok (.aload_n 0, 1) := by decide +kernel
theorem d28_31 : decode prog_78_method_5_code 31 = .ok (.getfield 68, 3) := by decide +kernel
theorem d28_34 : decode prog_78_method_5_code 34 = .ok (.iload_n 2, 1) := by decide +kernel
theorem d28_35 : decode prog_78_method_5_code 35 = .ok (.iload_n 2, 1) := by decide +kernel
theorem d28_36 : decode prog_78_method_5_code 36 = .ok (.iastore, 1) := by decide +kernel
theorem d28_37 : decode prog_78_method_5_code 37 = .ok (.aload_n 0, 1) := by decide +kernel
theorem d28_38 : decode prog_78_method_5_code 38 = .ok (.iload_n 2, 1) := by decide +kernel
theorem d28_39 : decode prog_78_method_5_code 39 = .ok (.aload_n 1, 1) := by decide +kernel
theorem d28_40 : decode prog_78_method_5_code 40 = .ok (.invokevirtual 143, 3) := by decide +kernel
theorem d28_43 : decode prog_78_method_5_code 43 = .ok (.iinc 2 1, 3) := by decide +kernel
theorem d28_46 : decode prog_78_method_5_code 46 = .ok (.goto (-24), 3) := by decide +kernel
theorem d28_49 : decode prog_78_method_5_code 49 = .ok (.aload_n 0, 1) := by decide +kernel
theorem d28_50 : decode prog_78_method_5_code 50 = .ok (.aload_n 0, 1) := by decide +kernel
theorem d28_51 : decode prog_78_method_5_code 51 = .ok (.getfield 68, 3) := by decide +kernel
theorem d28_54 : decode prog_78_method_5_code 54 = .ok (.aload_n 0, 1) := by decide +kernel
theorem d28_55 : decode prog_78_method_5_code 55 = .ok (.getfield 101, 3) := by decide +kernel
theorem d28_58 : decode prog_78_method_5_code 58 = .ok (.newarray .int, 2) := by decide +kernel
theorem d28_60 : decode prog_78_method_5_code 60 = .ok (.iconst 0, 1) := by decide +kernel
theorem d28_61 : decode prog_78_method_5_code 61 = .ok (.aload_n 0, 1) := by decide +kernel
theorem d28_62 : decode prog_78_method_5_code 62 = .ok (.getfield 101, 3) := by decide +kernel
theorem d28_65 : decode prog_78_method_5_code 65 = .ok (.invokevirtual 147, 3) := by decide +kernel
theorem d28_68 : decode prog_78_method_5_code 68 = .ok (.aload_n 0, 1) := by decide +kernel
theorem d28_69 : decode prog_78_method_5_code 69 = .ok (.aload_n 0, 1) := by decide +kernel
theorem d28_70 : decode prog_78_method_5_code 70 = .ok (.getfield 53, 3) := by decide +kernel
theorem d28_73 : decode prog_78_method_5_code 73 = .ok (.newarray .int, 2) := by decide +kernel
theorem d28_75 : decode prog_78_method_5_code 75 = .ok (.putfield 151, 3) := by decide +kernel
theorem d28_78 : decode prog_78_method_5_code 78 = .ok (.iconst 0, 1) := by decide +kernel
theorem d28_79 : decode prog_78_method_5_code 79 = .ok (.istore_n 2, 1) := by decide +kernel
theorem d28_80 : decode prog_78_method_5_code 80 = .ok (.iconst 0, 1) := by decide +kernel
theorem d28_81 : decode prog_78_method_5_code 81 = .ok (.istore_n 3, 1) := by decide +kernel
theorem d28_82 : decode prog_78_method_5_code 82 = .ok (.iload_n 3, 1) := by decide +kernel
theorem d28_83 : decode prog_78_method_5_code 83 = .ok (.aload_n 0, 1) := by decide +kernel
theorem d28_84 : decode prog_78_method_5_code 84 = .ok (.getfield 53, 3) := by decide +kernel
theorem d28_87 : decode prog_78_method_5_code 87 = .ok (.if_icmp .ge 45, 3) := by decide +kernel
theorem d28_90 : decode prog_78_method_5_code 90 = .ok (.iload_n 2, 1) := by decide +kernel
theorem d28_91 : decode prog_78_method_5_code 91 = .ok (.aload_n 0, 1) := by decide +kernel
theorem d28_92 : decode prog_78_method_5_code 92 = .ok (.getfield 101, 3) := by decide +kernel
theorem d28_95 : decode prog_78_method_5_code 95 = .ok (.if_icmp .ge 24, 3) := by decide +kernel
theorem d28_98 : decode prog_78_method_5_code 98 = .ok (.aload_n 0, 1) := by decide +kernel
theorem d28_99 : decode prog_78_method_5_code 99 = .ok (.getfield 37, 3) := by decide +kernel
theorem d28_102 : decode prog_78_method_5_code 102 = .ok (.aload_n 0, 1) := by decide +kernel
theorem d28_103 : decode prog_78_method_5_code 103 = .ok (.getfield 68, 3) := by decide +kernel
theorem d28_106 : decode prog_78_method_5_code 106 = .ok (.iload_n 2, 1) := by decide +kernel
theorem d28_107 : decode prog_78_method_5_code 107 = .ok (.iaload, 1) := by decide +kernel
theorem d28_108 : decode prog_78_method_5_code 108 = .ok (.iaload, 1) := by decide +kernel
theorem d28_109 : decode prog_78_method_5_code 109 = .ok (.iload_n 3, 1) := by decide +kernel
theorem d28_110 : decode prog_78_method_5_code 110 = .ok (.if_icmp .ne 9, 3) := by decide +kernel
theorem d28_113 : decode prog_78_method_5_code 113 = .ok (.iinc 2 1, 3) := by decide +kernel
theorem d28_116 : decode prog_78_method_5_code 116 = .ok (.goto (-26), 3) := by decide +kernel
theorem d28_119 : decode prog_78_method_5_code 119 = .ok (.aload_n 0, 1) := by decide +kernel
theorem d28_120 : decode prog_78_method_5_code 120 = .ok (.getfield 151, 3) := by decide +kernel
theorem d28_123 : decode prog_78_method_5_code 123 = .ok (.iload_n 3, 1) := by decide +kernel
theorem d28_124 : decode prog_78_method_5_code 124 = .ok (.iload_n 2, 1) := by decide +kernel
theorem d28_125 : decode prog_78_method_5_code 125 = .ok (.iastore, 1) := by decide +kernel
theorem d28_126 : decode prog_78_method_5_code 126 = .ok (.iinc 3 1, 3) := by decide +kernel
theorem d28_129 : decode prog_78_method_5_code 129 = .ok (.goto (-47), 3) := by decide +kernel
theorem d28_132 : decode prog_78_method_5_code 132 = .ok (.return_, 1) := by decide +kernel
theorem pn_28 : plainFor (⟨"com/example/runnel/runnel/runtime/RecordBuffer", "sort", "()V"⟩ : MethodName) = true := plainFor_of_name (by first | (simp [plainName, overriddenIn]; done) | decide +kernel)
abbrev y28 : MethodName := ⟨"com/example/runnel/runnel/runtime/RecordBuffer", "sort", "()V"⟩
theorem ef_28 (x0 : Addr) (m : MethodId) : entryFrame m #[(.ref x0)] 4 = mkF m 0 #[.val (.ref x0), .unset, .unset, .unset] [] := by first | (simp [entryFrame, mkF, argsToLocals, Value.category]; done) | rfl
theorem d29_0 : decode jdk_65_method_103_code 0 = .ok (.iconst 0, 1) := by decide +kernel
theorem d29_1 : decode jdk_65_method_103_code 1 = .ok (.istore_n 2, 1) := by decide +kernel
theorem d29_2 : decode jdk_65_method_103_code 2 = .ok (.aload_n 0, 1) := by decide +kernel
theorem d29_3 : decode jdk_65_method_103_code 3 = .ok (.arraylength, 1) := by decide +kernel
theorem d29_4 : decode jdk_65_method_103_code 4 = .ok (.istore_n 3, 1) := by decide +kernel
theorem d29_5 : decode jdk_65_method_103_code 5 = .ok (.iload_n 2, 1) := by decide +kernel
theorem d29_6 : decode jdk_65_method_103_code 6 = .ok (.iload_n 3, 1) := by decide +kernel
theorem d29_7 : decode jdk_65_method_103_code 7 = .ok (.if_icmp .ge 13, 3) := by decide +kernel
theorem d29_10 : decode jdk_65_method_103_code 10 = .ok (.aload_n 0, 1) := by decide +kernel
theorem d29_11 : decode jdk_65_method_103_code 11 = .ok (.iload_n 2, 1) := by decide +kernel
theorem d29_12 : decode jdk_65_method_103_code 12 = .ok (.iload_n 1, 1) := by decide +kernel
theorem d29_13 : decode jdk_65_method_103_code 13 = .ok (.iastore, 1) := by decide +kernel
theorem d29_14 : decode jdk_65_method_103_code 14 = .ok (.iinc 2 1, 3) := by decide +kernel
theorem d29_17 : decode jdk_65_method_103_code 17 = .ok (.goto (-12), 3) := by decide +kernel
theorem d29_20 : decode jdk_65_method_103_code 20 = .ok (.return_, 1) := by decide +kernel
theorem pn_29 : plainFor (⟨"java/util/Arrays", "fill", "([II)V"⟩ : MethodName) = true := plainFor_of_name (by first | (simp [plainName, overriddenIn]; done) | decide +kernel)
abbrev y29 : MethodName := ⟨"java/util/Arrays", "fill", "([II)V"⟩
theorem ef_29 (x0 : Addr) (x1 : Int32) (m : MethodId) : entryFrame m #[(.ref x0), (.int x1)] 4 = mkF m 0 #[.val (.ref x0), .val (.int x1), .unset, .unset] [] := by first | (simp [entryFrame, mkF, argsToLocals, Value.category]; done) | rfl
theorem d30_0 : decode prog_78_method_16_code 0 = .ok (.aload_n 0, 1) := by decide +kernel
theorem d30_1 : decode prog_78_method_16_code 1 = .ok (.getfield 44, 3) := by decide +kernel
theorem d30_4 : decode prog_78_method_16_code 4 = .ok (.iload_n 1, 1) := by decide +kernel
theorem d30_5 : decode prog_78_method_16_code 5 = .ok (.iaload, 1) := by decide +kernel
theorem d30_6 : decode prog_78_method_16_code 6 = .ok (.istore_n 3, 1) := by decide +kernel
theorem d30_7 : decode prog_78_method_16_code 7 = .ok (.aload_n 0, 1) := by decide +kernel
theorem d30_8 : decode prog_78_method_16_code 8 = .ok (.getfield 25, 3) := by decide +kernel
theorem d30_11 : decode prog_78_method_16_code 11 = .ok (.iload_n 3, 1) := by decide +kernel
theorem d30_12 : decode prog_78_method_16_code 12 = .ok (.iaload, 1) := by decide +kernel
theorem d30_13 : decode prog_78_method_16_code 13 = .ok (.iconst (-1), 1) := by decide +kernel
theorem d30_14 : decode prog_78_method_16_code 14 = .ok (.if_icmp .eq 27, 3) := by decide +kernel
theorem d30_17 : decode prog_78_method_16_code 17 = .ok (.aload_n 0, 1) := by decide +kernel
theorem d30_18 : decode prog_78_method_16_code 18 = .ok (.iload_n 3, 1) := by decide +kernel
theorem d30_19 : decode prog_78_method_16_code 19 = .ok (.aload_n 0, 1) := by decide +kernel
theorem d30_20 : decode prog_78_method_16_code 20 = .ok (.getfield 25, 3) := by decide +kernel
theorem d30_23 : decode prog_78_method_16_code 23 = .ok (.iload_n 3, 1) := by decide +kernel
theorem d30_24 : decode prog_78_method_16_code 24 = .ok (.iaload, 1) := by decide +kernel
theorem d30_25 : decode prog_78_method_16_code 25 = .ok (.invokevirtual 200, 3) := by decide +kernel
theorem d30_28 : decode prog_78_method_16_code 28 = .ok (.ifCond .gt 13, 3) := by decide +kernel
theorem d30_31 : decode prog_78_method_16_code 31 = .ok (.aload_n 0, 1) := by decide +kernel
theorem d30_32 : decode prog_78_method_16_code 32 = .ok (.getfield 25, 3) := by decide +kernel
theorem d30_35 : decode prog_78_method_16_code 35 = .ok (.iload_n 3, 1) := by decide +kernel
theorem d30_36 : decode prog_78_method_16_code 36 = .ok (.iaload, 1) := by decide +kernel
theorem d30_37 : decode prog_78_method_16_code 37 = .ok (.istore_n 3, 1) := by decide +kernel
theorem d30_38 : decode prog_78_method_16_code 38 = .ok (.goto (-31), 3) := by decide +kernel
theorem d30_41 : decode prog_78_method_16_code 41 = .ok (.aload_n 0, 1) := by decide +kernel
theorem d30_42 : decode prog_78_method_16_code 42 = .ok (.getfield 25, 3) := by decide +kernel
theorem d30_45 : decode prog_78_method_16_code 45 = .ok (.iload_n 3, 1) := by decide +kernel
theorem d30_46 : decode prog_78_method_16_code 46 = .ok (.iaload, 1) := by decide +kernel
theorem d30_47 : decode prog_78_method_16_code 47 = .ok (.iconst (-1), 1) := by decide +kernel
theorem d30_48 : decode prog_78_method_16_code 48 = .ok (.if_icmp .eq 54, 3) := by decide +kernel
theorem d30_51 : decode prog_78_method_16_code 51 = .ok (.aload_n 0, 1) := by decide +kernel
theorem d30_52 : decode prog_78_method_16_code 52 = .ok (.getfield 44, 3) := by decide +kernel
theorem d30_55 : decode prog_78_method_16_code 55 = .ok (.iload_n 1, 1) := by decide +kernel
theorem d30_56 : decode prog_78_method_16_code 56 = .ok (.aload_n 0, 1) := by decide +kernel
theorem d30_57 : decode prog_78_method_16_code 57 = .ok (.aload_n 0, 1) := by decide +kernel
theorem d30_58 : decode prog_78_method_16_code 58 = .ok (.getfield 44, 3) := by decide +kernel
theorem d30_61 : decode prog_78_method_16_code 61 = .ok (.iload_n 1, 1) := by decide +kernel
theorem d30_62 : decode prog_78_method_16_code 62 = .ok (.iaload, 1) := by decide +kernel
theorem d30_63 : decode prog_78_method_16_code 63 = .ok (.aload_n 2, 1) := by decide +kernel
theorem d30_64 : decode prog_78_method_16_code 64 = .ok (.invokevirtual 203, 3) := by decide +kernel
theorem d30_67 : decode prog_78_method_16_code 67 = .ok (.iastore, 1) := by decide +kernel
theorem d30_68 : decode prog_78_method_16_code 68 = .ok (.aload_n 0, 1) := by decide +kernel
theorem d30_69 : decode prog_78_method_16_code 69 = .ok (.getfield 44, 3) := by decide +kernel
theorem d30_72 : decode prog_78_method_16_code 72 = .ok (.iload_n 1, 1) := by decide +kernel
theorem d30_73 : decode prog_78_method_16_code 73 = .ok (.iaload, 1) := by decide +kernel
theorem d30_74 : decode prog_78_method_16_code 74 = .ok (.istore_n 3, 1) := by decide +kernel
theorem d30_75 : decode prog_78_method_16_code 75 = .ok (.aload_n 0, 1) := by decide +kernel
theorem d30_76 : decode prog_78_method_16_code 76 = .ok (.getfield 25, 3) := by decide +kernel
theorem d30_79 : decode prog_78_method_16_code 79 = .ok (.iload_n 3, 1) := by decide +kernel
theorem d30_80 : decode prog_78_method_16_code 80 = .ok (.iaload, 1) := by decide +kernel
theorem d30_81 : decode prog_78_method_16_code 81 = .ok (.iconst (-1), 1) := by decide +kernel
theorem d30_82 : decode prog_78_method_16_code 82 = .ok (.if_icmp .eq 13, 3) := by decide +kernel
theorem d30_85 : decode prog_78_method_16_code 85 = .ok (.aload_n 0, 1) := by decide +kernel
theorem d30_86 : decode prog_78_method_16_code 86 = .ok (.getfield 25, 3) := by decide +kernel
theorem d30_89 : decode prog_78_method_16_code 89 = .ok (.iload_n 3, 1) := by decide +kernel
theorem d30_90 : decode prog_78_method_16_code 90 = .ok (.iaload, 1) := by decide +kernel
theorem d30_91 : decode prog_78_method_16_code 91 = .ok (.istore_n 3, 1) := by decide +kernel
theorem d30_92 : decode prog_78_method_16_code 92 = .ok (.goto (-17), 3) := by decide +kernel
theorem d30_95 : decode prog_78_method_16_code 95 = .ok (.aload_n 0, 1) := by decide +kernel
theorem d30_96 : decode prog_78_method_16_code 96 = .ok (.getfield 47, 3) := by decide +kernel
theorem d30_99 : decode prog_78_method_16_code 99 = .ok (.iload_n 1, 1) := by decide +kernel
theorem d30_100 : decode prog_78_method_16_code 100 = .ok (.iload_n 3, 1) := by decide +kernel
theorem d30_101 : decode prog_78_method_16_code 101 = .ok (.iastore, 1) := by decide +kernel
theorem d30_102 : decode prog_78_method_16_code 102 = .ok (.return_, 1) := by decide +kernel
theorem pn_30 : plainFor (⟨"com/example/runnel/runnel/runtime/RecordBuffer", "sortValues", "(I[I)V"⟩ : MethodName) = true := plainFor_of_name (by first | (simp [plainName, overriddenIn]; done) | decide +kernel)
abbrev y30 : MethodName := ⟨"com/example/runnel/runnel/runtime/RecordBuffer", "sortValues", "(I[I)V"⟩
theorem ef_30 (x0 : Addr) (x1 : Int32) (x2 : Addr) (m : MethodId) : entryFrame m #[(.ref x0), (.int x1), (.ref x2)] 4 = mkF m 0 #[.val (.ref x0), .val (.int x1), .val (.ref x2), .unset] [] := by first | (simp [entryFrame, mkF, argsToLocals, Value.category]; done) | rfl
theorem d31_0 : decode prog_78_method_15_code 0 = .ok (.iload 4, 2) := by decide +kernel
theorem d31_2 : decode prog_78_method_15_code 2 = .ok (.iload_n 3, 1) := by decide +kernel
theorem d31_3 : decode prog_78_method_15_code 3 = .ok (.isub, 1) := by decide +kernel
theorem d31_4 : decode prog_78_method_15_code 4 = .ok (.bipush 16, 2) := by decide +kernel
theorem d31_6 : decode prog_78_method_15_code 6 = .ok (.if_icmp .ge 77, 3) := by decide +kernel
theorem d31_9 : decode prog_78_method_15_code 9 = .ok (.iload_n 3, 1) := by decide +kernel
theorem d31_10 : decode prog_78_method_15_code 10 = .ok (.iconst 1, 1) := by decide +kernel
theorem d31_11 : decode prog_78_method_15_code 11 = .ok (.iadd, 1) := by decide +kernel
theorem d31_12 : decode prog_78_method_15_code 12 = .ok (.istore 5, 2) := by decide +kernel
theorem d31_14 : decode prog_78_method_15_code 14 = .ok (.iload 5, 2) := by decide +kernel
theorem d31_16 : decode prog_78_method_15_code 16 = .ok (.iload 4, 2) := by decide +kernel
theorem d31_18 : decode prog_78_method_15_code 18 = .ok (.if_icmp .ge 62, 3) := by decide +kernel
theorem d31_21 : decode prog_78_method_15_code 21 = .ok (.aload_n 1, 1) := by decide +kernel
theorem d31_22 : decode prog_78_method_15_code 22 = .ok (.iload 5, 2) := by decide +kernel
theorem d31_24 : decode prog_78_method_15_code 24 = .ok (.iaload, 1) := by decide +kernel
theorem d31_25 : decode prog_78_method_15_code 25 = .ok (.istore 6, 2) := by decide +kernel
theorem d31_27 : decode prog_78_method_15_code 27 = .ok (.iload 5, 2) := by decide +kernel
theorem d31_29 : decode prog_78_method_15_code 29 = .ok (.istore 7, 2) := by decide +kernel
theorem d31_31 : decode prog_78_method_15_code 31 = .ok (.iload 7, 2) := by decide +kernel
theorem d31_33 : decode prog_78_method_15_code 33 = .ok (.iload_n 3, 1) := by decide +kernel
theorem d31_34 : decode prog_78_method_15_code 34 = .ok (.if_icmp .le 34, 3) := by decide +kernel
theorem d31_37 : decode prog_78_method_15_code 37 = .ok (.aload_n 0, 1) := by decide +kernel
theorem d31_38 : decode prog_78_method_15_code 38 = .ok (.aload_n 1, 1) := by decide +kernel
theorem d31_39 : decode prog_78_method_15_code 39 = .ok (.iload 7, 2) := by decide +kernel
theorem d31_41 : decode prog_78_method_15_code 41 = .ok (.iconst 1, 1) := by decide +kernel
theorem d31_42 : decode prog_78_method_15_code 42 = .ok (.isub, 1) := by decide +kernel
theorem d31_43 : decode prog_78_method_15_code 43 = .ok (.iaload, 1) := by decide +kernel
theorem d31_44 : decode prog_78_method_15_code 44 = .ok (.iload 6, 2) := by decide +kernel
theorem d31_46 : decode prog_78_method_15_code 46 = .ok (.invokevirtual 194, 3) := by decide +kernel
theorem d31_49 : decode prog_78_method_15_code 49 = .ok (.ifCond .le 19, 3) := by decide +kernel
theorem d31_52 : decode prog_78_method_15_code 52 = .ok (.aload_n 1, 1) := by decide +kernel
theorem d31_53 : decode prog_78_method_15_code 53 = .ok (.iload 7, 2) := by decide +kernel
theorem d31_55 : decode prog_78_method_15_code 55 = .ok (.aload_n 1, 1) := by decide +kernel
theorem d31_56 : decode prog_78_method_15_code 56 = .ok (.iload 7, 2) := by decide +kernel
theorem d31_58 : decode prog_78_method_15_code 58 = .ok (.iconst 1, 1) := by decide +kernel
theorem d31_59 : decode prog_78_method_15_code 59 = .ok (.isub, 1) := by decide +kernel
theorem d31_60 : decode prog_78_method_15_code 60 = .ok (.iaload, 1) := by decide +kernel
theorem d31_61 : decode prog_78_method_15_code 61 = .ok (.iastore, 1) := by decide +kernel
theorem d31_62 : decode prog_78_method_15_code 62 = .ok (.iinc 7 (-1), 3) := by decide +kernel
theorem d31_65 : decode prog_78_method_15_code 65 = .ok (.goto (-34), 3) := by decide +kernel
theorem d31_68 : decode prog_78_method_15_code 68 = .ok (.aload_n 1, 1) := by decide +kernel
theorem d31_69 : decode prog_78_method_15_code 69 = .ok (.iload 7, 2) := by decide +kernel
theorem d31_71 : decode prog_78_method_15_code 71 = .ok (.iload 6, 2) := by decide +kernel
theorem d31_73 : decode prog_78_method_15_code 73 = .ok (.iastore, 1) := by decide +kernel
theorem d31_74 : decode prog_78_method_15_code 74 = .ok (.iinc 5 1, 3) := by decide +kernel
theorem d31_77 : decode prog_78_method_15_code 77 = .ok (.goto (-63), 3) := by decide +kernel
theorem d31_80 : decode prog_78_method_15_code 80 = .ok (.goto 58, 3) := by decide +kernel
theorem d31_83 : decode prog_78_method_15_code 83 = .ok (.iload_n 3, 1) := by decide +kernel
theorem d31_84 : decode prog_78_method_15_code 84 = .ok (.iload 4, 2) := by decide +kernel
theorem d31_86 : decode prog_78_method_15_code 86 = .ok (.iadd, 1) := by decide +kernel
theorem d31_87 : decode prog_78_method_15_code 87 = .ok (.iconst 1, 1) := by decide +kernel
theorem d31_88 : decode prog_78_method_15_code 88 = .ok (.iushr, 1) := by decide +kernel
theorem d31_89 : decode prog_78_method_15_code 89 = .ok (.istore 5, 2) := by decide +kernel
theorem d31_91 : decode prog_78_method_15_code 91 = .ok (.aload_n 0, 1) := by decide +kernel
theorem d31_92 : decode prog_78_method_15_code 92 = .ok (.aload_n 1, 1) := by decide +kernel
theorem d31_93 : decode prog_78_method_15_code 93 = .ok (.aload_n 2, 1) := by decide +kernel
theorem d31_94 : decode prog_78_method_15_code 94 = .ok (.iload_n 3, 1) := by decide +kernel
theorem d31_95 : decode prog_78_method_15_code 95 = .ok (.iload 5, 2) := by decide +kernel
theorem d31_97 : decode prog_78_method_15_code 97 = .ok (.invokevirtual 147, 3) := by decide +kernel
theorem d31_100 : decode prog_78_method_15_code 100 = .ok (.aload_n 0, 1) := by decide +kernel
theorem d31_101 : decode prog_78_method_15_code 101 = .ok (.aload_n 1, 1) := by decide +kernel
theorem d31_102 : decode prog_78_method_15_code 102 = .ok (.aload_n 2, 1) := by decide +kernel
theorem d31_103 : decode prog_78_method_15_code 103 = .ok (.iload 5, 2) := by decide +kernel
theorem d31_105 : decode prog_78_method_15_code 105 = .ok (.iload 4, 2) := by decide +kernel
theorem d31_107 : decode prog_78_method_15_code 107 = .ok (.invokevirtual 147, 3) := by decide +kernel
theorem d31_110 : decode prog_78_method_15_code 110 = .ok (.aload_n 0, 1) := by decide +kernel
theorem d31_111 : decode prog_78_method_15_code 111 = .ok (.aload_n 1, 1) := by decide +kernel
theorem d31_112 : decode prog_78_method_15_code 112 = .ok (.iload 5, 2) := by decide +kernel
theorem d31_114 : decode prog_78_method_15_code 114 = .ok (.iconst 1, 1) := by decide +kernel
theorem d31_115 : decode prog_78_method_15_code 115 = .ok (.isub, 1) := by decide +kernel
theorem d31_116 : decode prog_78_method_15_code 116 = .ok (.iaload, 1) := by decide +kernel
theorem d31_117 : decode prog_78_method_15_code 117 = .ok (.aload_n 1, 1) := by decide +kernel
theorem d31_118 : decode prog_78_method_15_code 118 = .ok (.iload 5, 2) := by decide +kernel
theorem d31_120 : decode prog_78_method_15_code 120 = .ok (.iaload, 1) := by decide +kernel
theorem d31_121 : decode prog_78_method_15_code 121 = .ok (.invokevirtual 194, 3) := by decide +kernel
theorem d31_124 : decode prog_78_method_15_code 124 = .ok (.ifCond .le 14, 3) := by decide +kernel
theorem d31_127 : decode prog_78_method_15_code 127 = .ok (.aload_n 0, 1) := by decide +kernel
theorem d31_128 : decode prog_78_method_15_code 128 = .ok (.aload_n 1, 1) := by decide +kernel
theorem d31_129 : decode prog_78_method_15_code 129 = .ok (.aload_n 2, 1) := by decide +kernel
theorem d31_130 : decode prog_78_method_15_code 130 = .ok (.iload_n 3, 1) := by decide +kernel
theorem d31_131 : decode prog_78_method_15_code 131 = .ok (.iload 5, 2) := by decide +kernel
theorem d31_133 : decode prog_78_method_15_code 133 = .ok (.iload 4, 2) := by decide +kernel
theorem d31_135 : decode prog_78_method_15_code 135 = .ok (.invokevirtual 196, 3) := by decide +kernel
theorem d31_138 : decode prog_78_method_15_code 138 = .ok (.return_, 1) := by decide +kernel
theorem pn_31 : plainFor (⟨"com/example/runnel/runnel/runtime/RecordBuffer", "sort", "([I[III)V"⟩ : MethodName) = true := plainFor_of_name (by first | (simp [plainName, overriddenIn]; done) | decide +kernel)
abbrev y31 : MethodName := ⟨"com/example/runnel/runnel/runtime/RecordBuffer", "sort", "([I[III)V"⟩
theorem ef_31 (x0 : Addr) (x1 : Addr) (x2 : Addr) (x3 : Int32) (x4 : Int32) (m : MethodId) : entryFrame m #[(.ref x0), (.ref x1), (.ref x2), (.int x3), (.int x4)] 8 = mkF m 0 #[.val (.ref x0), .val (.ref x1), .val (.ref x2), .val (.int x3), .val (.int x4), .unset, .unset, .unset] [] := by first | (simp [entryFrame, mkF, argsToLocals, Value.category]; done) | rfl
theorem d32_0 : decode prog_78_method_19_code 0 = .ok (.aload_n 0, 1) := by decide +kernel
theorem d32_1 : decode prog_78_method_19_code 1 = .ok (.getfield 14, 3) := by decide +kernel
theorem d32_4 : decode prog_78_method_19_code 4 = .ok (.invokevirtual 123, 3) := by decide +kernel
theorem d32_7 : decode prog_78_method_19_code 7 = .ok (.astore_n 3, 1) := by decide +kernel
theorem d32_8 : decode prog_78_method_19_code 8 = .ok (.aload_n 3, 1) := by decide +kernel
theorem d32_9 : decode prog_78_method_19_code 9 = .ok (.aload_n 0, 1) := by decide +kernel
theorem d32_10 : decode prog_78_method_19_code 10 = .ok (.getfield 18, 3) := by decide +kernel
theorem d32_13 : decode prog_78_method_19_code 13 = .ok (.iload_n 1, 1) := by decide +kernel
theorem d32_14 : decode prog_78_method_19_code 14 = .ok (.iaload, 1) := by decide +kernel
theorem d32_15 : decode prog_78_method_19_code 15 = .ok (.aload_n 0, 1) := by decide +kernel
theorem d32_16 : decode prog_78_method_19_code 16 = .ok (.getfield 22, 3) := by decide +kernel
theorem d32_19 : decode prog_78_method_19_code 19 = .ok (.iload_n 1, 1) := by decide +kernel
theorem d32_20 : decode prog_78_method_19_code 20 = .ok (.iaload, 1) := by decide +kernel
theorem d32_21 : decode prog_78_method_19_code 21 = .ok (.aload_n 3, 1) := by decide +kernel
theorem d32_22 : decode prog_78_method_19_code 22 = .ok (.aload_n 0, 1) := by decide +kernel
theorem d32_23 : decode prog_78_method_19_code 23 = .ok (.getfield 18, 3) := by decide +kernel
theorem d32_26 : decode prog_78_method_19_code 26 = .ok (.iload_n 2, 1) := by decide +kernel
theorem d32_27 : decode prog_78_method_19_code 27 = .ok (.iaload, 1) := by decide +kernel
theorem d32_28 : decode prog_78_method_19_code 28 = .ok (.aload_n 0, 1) := by decide +kernel
theorem d32_29 : decode prog_78_method_19_code 29 = .ok (.getfield 22, 3) := by decide +kernel
theorem d32_32 : decode prog_78_method_19_code 32 = .ok (.iload_n 2, 1) := by decide +kernel
theorem d32_33 : decode prog_78_method_19_code 33 = .ok (.iaload, 1) := by decide +kernel
theorem d32_34 : decode prog_78_method_19_code 34 = .ok (.invokestatic 190, 3) := by decide +kernel
theorem d32_37 : decode prog_78_method_19_code 37 = .ok (.ireturn, 1) := by decide +kernel
theorem pn_32 : plainFor (⟨"com/example/runnel/runnel/runtime/RecordBuffer", "compareValues", "(II)I"⟩ : MethodName) = true := plainFor_of_name (by first | (simp [plainName, overriddenIn]; done) | decide +kernel)
abbrev y32 : MethodName := ⟨"com/example/runnel/runnel/runtime/RecordBuffer", "compareValues", "(II)I"⟩
theorem ef_32 (x0 : Addr) (x1 : Int32) (x2 : Int32) (m : MethodId) : entryFrame m #[(.ref x0), (.int x1), (.int x2)] 4 = mkF m 0 #[.val (.ref x0), .val (.int x1), .val (.int x2), .unset] [] := by first | (simp [entryFrame, mkF, argsToLocals, Value.category]; done) | rfl
theorem d33_0 : decode prog_78_method_21_code 0 = .ok (.aload_n 0, 1) := by decide +kernel
theorem d33_1 : decode prog_78_method_21_code 1 = .ok (.getfield 37, 3) := by decide +kernel
theorem d33_4 : decode prog_78_method_21_code 4 = .ok (.iload_n 1, 1) := by decide +kernel
theorem d33_5 : decode prog_78_method_21_code 5 = .ok (.iaload, 1) := by decide +kernel
theorem d33_6 : decode prog_78_method_21_code 6 = .ok (.aload_n 0, 1) := by decide +kernel
theorem d33_7 : decode prog_78_method_21_code 7 = .ok (.getfield 37, 3) := by decide +kernel
theorem d33_10 : decode prog_78_method_21_code 10 = .ok (.iload_n 2, 1) := by decide +kernel
theorem d33_11 : decode prog_78_method_21_code 11 = .ok (.iaload, 1) := by decide +kernel
theorem d33_12 : decode prog_78_method_21_code 12 = .ok (.invokestatic 216, 3) := by decide +kernel
theorem d33_15 : decode prog_78_method_21_code 15 = .ok (.istore_n 3, 1) := by decide +kernel
theorem d33_16 : decode prog_78_method_21_code 16 = .ok (.iload_n 3, 1) := by decide +kernel
theorem d33_17 : decode prog_78_method_21_code 17 = .ok (.ifCond .ne 70, 3) := by decide +kernel
theorem d33_20 : decode prog_78_method_21_code 20 = .ok (.aload_n 0, 1) := by decide +kernel
theorem d33_21 : decode prog_78_method_21_code 21 = .ok (.getfield 14, 3) := by decide +kernel
theorem d33_24 : decode prog_78_method_21_code 24 = .ok (.invokevirtual 123, 3) := by decide +kernel
theorem d33_27 : decode prog_78_method_21_code 27 = .ok (.astore 4, 2) := by decide +kernel
theorem d33_29 : decode prog_78_method_21_code 29 = .ok (.aload_n 0, 1) := by decide +kernel
theorem d33_30 : decode prog_78_method_21_code 30 = .ok (.getfield 40, 3) := by decide +kernel
theorem d33_33 : decode prog_78_method_21_code 33 = .ok (.iload_n 1, 1) := by decide +kernel
theorem d33_34 : decode prog_78_method_21_code 34 = .ok (.laload, 1) := by decide +kernel
theorem d33_35 : decode prog_78_method_21_code 35 = .ok (.aload 4, 2) := by decide +kernel
theorem d33_37 : decode prog_78_method_21_code 37 = .ok (.aload_n 0, 1) := by decide +kernel
theorem d33_38 : decode prog_78_method_21_code 38 = .ok (.getfield 28, 3) := by decide +kernel
theorem d33_41 : decode prog_78_method_21_code 41 = .ok (.iload_n 1, 1) := by decide +kernel
theorem d33_42 : decode prog_78_method_21_code 42 = .ok (.iaload, 1) := by decide +kernel
theorem d33_43 : decode prog_78_method_21_code 43 = .ok (.aload_n 0, 1) := by decide +kernel
theorem d33_44 : decode prog_78_method_21_code 44 = .ok (.getfield 28, 3) := by decide +kernel
theorem d33_47 : decode prog_78_method_21_code 47 = .ok (.iload_n 1, 1) := by decide +kernel
theorem d33_48 : decode prog_78_method_21_code 48 = .ok (.iaload, 1) := by decide +kernel
theorem d33_49 : decode prog_78_method_21_code 49 = .ok (.aload_n 0, 1) := by decide +kernel
theorem d33_50 : decode prog_78_method_21_code 50 = .ok (.getfield 31, 3) := by decide +kernel
theorem d33_53 : decode prog_78_method_21_code 53 = .ok (.iload_n 1, 1) := by decide +kernel
theorem d33_54 : decode prog_78_method_21_code 54 = .ok (.iaload, 1) := by decide +kernel
theorem d33_55 : decode prog_78_method_21_code 55 = .ok (.iadd, 1) := by decide +kernel
theorem d33_56 : decode prog_78_method_21_code 56 = .ok (.aload_n 0, 1) := by decide +kernel
theorem d33_57 : decode prog_78_method_21_code 57 = .ok (.getfield 40, 3) := by decide +kernel
theorem d33_60 : decode prog_78_method_21_code 60 = .ok (.iload_n 2, 1) := by decide +kernel
theorem d33_61 : decode prog_78_method_21_code 61 = .ok (.laload, 1) := by decide +kernel
theorem d33_62 : decode prog_78_method_21_code 62 = .ok (.aload 4, 2) := by decide +kernel
theorem d33_64 : decode prog_78_method_21_code 64 = .ok (.aload_n 0, 1) := by decide +kernel
theorem d33_65 : decode prog_78_method_21_code 65 = .ok (.getfield 28, 3) := by decide +kernel
theorem d33_68 : decode prog_78_method_21_code 68 = .ok (.iload_n 2, 1) := by decide +kernel
theorem d33_69 : decode prog_78_method_21_code 69 = .ok (.iaload, 1) := by decide +kernel
theorem d33_70 : decode prog_78_method_21_code 70 = .ok (.aload_n 0, 1) := by decide +kernel
theorem d33_71 : decode prog_78_method_21_code 71 = .ok (.getfield 28, 3) := by decide +kernel
theorem d33_74 : decode prog_78_method_21_code 74 = .ok (.iload_n 2, 1) := by decide +kernel
theorem d33_75 : decode prog_78_method_21_code 75 = .ok (.iaload, 1) := by decide +kernel
theorem d33_76 : decode prog_78_method_21_code 76 = .ok (.aload_n 0, 1) := by decide +kernel
theorem d33_77 : decode prog_78_method_21_code 77 = .ok (.getfield 31, 3) := by decide +kernel
theorem d33_80 : decode prog_78_method_21_code 80 = .ok (.iload_n 2, 1) := by decide +kernel
theorem d33_81 : decode prog_78_method_21_code 81 = .ok (.iaload, 1) := by decide +kernel
theorem d33_82 : decode prog_78_method_21_code 82 = .ok (.iadd, 1) := by decide +kernel
theorem d33_83 : decode prog_78_method_21_code 83 = .ok (.invokestatic 217, 3) := by decide +kernel
theorem d33_86 : decode prog_78_method_21_code 86 = .ok (.istore_n 3, 1) := by decide +kernel
theorem d33_87 : decode prog_78_method_21_code 87 = .ok (.iload_n 3, 1) := by decide +kernel
theorem d33_88 : decode prog_78_method_21_code 88 = .ok (.ireturn, 1) := by decide +kernel
theorem pn_33 : plainFor (⟨"com/example/runnel/runnel/runtime/RecordBuffer", "compare", "(II)I"⟩ : MethodName) = true := plainFor_of_name (by first | (simp [plainName, overriddenIn]; done) | decide +kernel)
abbrev y33 : MethodName := ⟨"com/example/runnel/runnel/runtime/RecordBuffer", "compare", "(II)I"⟩
theorem ef_33 (x0 : Addr) (x1 : Int32) (x2 : Int32) (m : MethodId) : entryFrame m #[(.ref x0), (.int x1), (.int x2)] 5 = mkF m 0 #[.val (.ref x0), .val (.int x1), .val (.int x2), .unset, .unset] [] := by first | (simp [entryFrame, mkF, argsToLocals, Value.category]; done) | rfl
theorem d34_0 : decode prog_58_method_11_code 0 = .ok (.lload_n 0, 1) := by decide +kernel
theorem d34_1 : decode prog_58_method_11_code 1 = .ok (.lload 5, 2) := by decide +kernel
theorem d34_3 : decode prog_58_method_11_code 3 = .ok (.invokestatic 48, 3) := by decide +kernel
theorem d34_6 : decode prog_58_method_11_code 6 = .ok (.istore 10, 2) := by decide +kernel
theorem d34_8 : decode prog_58_method_11_code 8 = .ok (.iload 10, 2) := by decide +kernel
theorem d34_10 : decode prog_58_method_11_code 10 = .ok (.ifCond .ne 39, 3) := by decide +kernel
theorem d34_13 : decode prog_58_method_11_code 13 = .ok (.iload 4, 2) := by decide +kernel
theorem d34_15 : decode prog_58_method_11_code 15 = .ok (.iload_n 3, 1) := by decide +kernel
theorem d34_16 : decode prog_58_method_11_code 16 = .ok (.isub, 1) := by decide +kernel
theorem d34_17 : decode prog_58_method_11_code 17 = .ok (.bipush 8, 2) := by decide +kernel
theorem d34_19 : decode prog_58_method_11_code 19 = .ok (.if_icmp .le 13, 3) := by decide +kernel
theorem d34_22 : decode prog_58_method_11_code 22 = .ok (.iload 9, 2) := by decide +kernel
theorem d34_24 : decode prog_58_method_11_code 24 = .ok (.iload 8, 2) := by decide +kernel
theorem d34_26 : decode prog_58_method_11_code 26 = .ok (.isub, 1) := by decide +kernel
theorem d34_27 : decode prog_58_method_11_code 27 = .ok (.bipush 8, 2) := by decide +kernel
theorem d34_29 : decode prog_58_method_11_code 29 = .ok (.if_icmp .gt 20, 3) := by decide +kernel
theorem d34_32 : decode prog_58_method_11_code 32 = .ok (.iload 4, 2) := by decide +kernel
theorem d34_34 : decode prog_58_method_11_code 34 = .ok (.iload_n 3, 1) := by decide +kernel
theorem d34_35 : decode prog_58_method_11_code 35 = .ok (.isub, 1) := by decide +kernel
theorem d34_36 : decode prog_58_method_11_code 36 = .ok (.iload 9, 2) := by decide +kernel
theorem d34_38 : decode prog_58_method_11_code 38 = .ok (.iload 8, 2) := by decide +kernel
theorem d34_40 : decode prog_58_method_11_code 40 = .ok (.isub, 1) := by decide +kernel
theorem d34_41 : decode prog_58_method_11_code 41 = .ok (.invokestatic 41, 3) := by decide +kernel
theorem d34_44 : decode prog_58_method_11_code 44 = .ok (.istore 10, 2) := by decide +kernel
theorem d34_46 : decode prog_58_method_11_code 46 = .ok (.goto 29, 3) := by decide +kernel
theorem d34_49 : decode prog_58_method_11_code 49 = .ok (.iload 10, 2) := by decide +kernel
theorem d34_51 : decode prog_58_method_11_code 51 = .ok (.ifCond .ne 24, 3) := by decide +kernel
theorem d34_54 : decode prog_58_method_11_code 54 = .ok (.aload_n 2, 1) := by decide +kernel
theorem d34_55 : decode prog_58_method_11_code 55 = .ok (.iload_n 3, 1) := by decide +kernel
theorem d34_56 : decode prog_58_method_11_code 56 = .ok (.bipush 8, 2) := by decide +kernel
theorem d34_58 : decode prog_58_method_11_code 58 = .ok (.iadd, 1) := by decide +kernel
theorem d34_59 : decode prog_58_method_11_code 59 = .ok (.iload 4, 2) := by decide +kernel
theorem d34_61 : decode prog_58_method_11_code 61 = .ok (.aload 7, 2) := by decide +kernel
theorem d34_63 : decode prog_58_method_11_code 63 = .ok (.iload 8, 2) := by decide +kernel
theorem d34_65 : decode prog_58_method_11_code 65 = .ok (.bipush 8, 2) := by decide +kernel
theorem d34_67 : decode prog_58_method_11_code 67 = .ok (.iadd, 1) := by decide +kernel
theorem d34_68 : decode prog_58_method_11_code 68 = .ok (.iload 9, 2) := by decide +kernel
theorem d34_70 : decode prog_58_method_11_code 70 = .ok (.invokestatic 52, 3) := by decide +kernel
theorem d34_73 : decode prog_58_method_11_code 73 = .ok (.istore 10, 2) := by decide +kernel
theorem d34_75 : decode prog_58_method_11_code 75 = .ok (.iload 10, 2) := by decide +kernel
theorem d34_77 : decode prog_58_method_11_code 77 = .ok (.ireturn, 1) := by decide +kernel
theorem pn_34 : plainFor (⟨"com/example/runnel/runnel/runtime/Bytes", "compareKeys", "(J[BIIJ[BII)I"⟩ : MethodName) = true := plainFor_of_name (by first | (simp [plainName, overriddenIn]; done) | decide +kernel)
abbrev y34 : MethodName := ⟨"com/example/runnel/runnel/runtime/Bytes", "compareKeys", "(J[BIIJ[BII)I"⟩
theorem ef_34 (x0 : Int64) (x1 : Addr) (x2 : Int32) (x3 : Int32) (x4 : Int64) (x5 : Addr) (x6 : Int32) (x7 : Int32) (m : MethodId) : entryFrame m #[(.long x0), (.ref x1), (.int x2), (.int x3), (.long x4), (.ref x5), (.int x6), (.int x7)] 11 = mkF m 0 #[.val (.long x0), .second, .val (.ref x1), .val (.int x2), .val (.int x3), .val (.long x4), .second, .val (.ref x5), .val (.int x6), .val (.int x7), .unset] [] := by first | (simp [entryFrame, mkF, argsToLocals, Value.category]; done) | rfl
theorem d35_0 : decode jdk_35_method_43_code 0 = .ok (.lload_n 0, 1) := by decide +kernel
theorem d35_1 : decode jdk_35_method_43_code 1 = .ok (.ldc2_w 168, 3) := by decide +kernel
theorem d35_4 : decode jdk_35_method_43_code 4 = .ok (.ladd, 1) := by decide +kernel
theorem d35_5 : decode jdk_35_method_43_code 5 = .ok (.lload_n 2, 1) := by decide +kernel
theorem d35_6 : decode jdk_35_method_43_code 6 = .ok (.ldc2_w 168, 3) := by decide +kernel
theorem d35_9 : decode jdk_35_method_43_code 9 = .ok (.ladd, 1) := by decide +kernel
theorem d35_10 : decode jdk_35_method_43_code 10 = .ok (.invokestatic 302, 3) := by decide +kernel
theorem d35_13 : decode jdk_35_method_43_code 13 = .ok (.ireturn, 1) := by decide +kernel
theorem pn_35 : plainFor (⟨"java/lang/Long", "compareUnsigned", "(JJ)I"⟩ : MethodName) = true := plainFor_of_name (by first | (simp [plainName, overriddenIn]; done) | decide +kernel)
abbrev y35 : MethodName := ⟨"java/lang/Long", "compareUnsigned", "(JJ)I"⟩
theorem ef_35 (x0 : Int64) (x1 : Int64) (m : MethodId) : entryFrame m #[(.long x0), (.long x1)] 4 = mkF m 0 #[.val (.long x0), .second, .val (.long x1), .second] [] := by first | (simp [entryFrame, mkF, argsToLocals, Value.category]; done) | rfl
theorem d36_0 : decode jdk_35_method_42_code 0 = .ok (.lload_n 0, 1) := by decide +kernel
theorem d36_1 : decode jdk_35_method_42_code 1 = .ok (.lload_n 2, 1) := by decide +kernel
theorem d36_2 : decode jdk_35_method_42_code 2 = .ok (.lcmp, 1) := by decide +kernel
theorem d36_3 : decode jdk_35_method_42_code 3 = .ok (.ifCond .ge 7, 3) := by decide +kernel
theorem d36_6 : decode jdk_35_method_42_code 6 = .ok (.iconst (-1), 1) := by decide +kernel
theorem d36_7 : decode jdk_35_method_42_code 7 = .ok (.goto 14, 3) := by decide +kernel
theorem d36_10 : decode jdk_35_method_42_code 10 = .ok (.lload_n 0, 1) := by decide +kernel
theorem d36_11 : decode jdk_35_method_42_code 11 = .ok (.lload_n 2, 1) := by decide +kernel
theorem d36_12 : decode jdk_35_method_42_code 12 = .ok (.lcmp, 1) := by decide +kernel
theorem d36_13 : decode jdk_35_method_42_code 13 = .ok (.ifCond .ne 7, 3) := by decide +kernel
theorem d36_16 : decode jdk_35_method_42_code 16 = .ok (.iconst 0, 1) := by decide +kernel
theorem d36_17 : decode jdk_35_method_42_code 17 = .ok (.goto 4, 3) := by decide +kernel
theorem d36_20 : decode jdk_35_method_42_code 20 = .ok (.iconst 1, 1) := by decide +kernel
theorem d36_21 : decode jdk_35_method_42_code 21 = .ok (.ireturn, 1) := by decide +kernel
theorem pn_36 : plainFor (⟨"java/lang/Long", "compare", "(JJ)I"⟩ : MethodName) = true := plainFor_of_name (by first | (simp [plainName, overriddenIn]; done) | decide +kernel)
abbrev y36 : MethodName := ⟨"java/lang/Long", "compare", "(JJ)I"⟩
theorem ef_36 (x0 : Int64) (x1 : Int64) (m : MethodId) : entryFrame m #[(.long x0), (.long x1)] 4 = mkF m 0 #[.val (.long x0), .second, .val (.long x1), .second] [] := by first | (simp [entryFrame, mkF, argsToLocals, Value.category]; done) | rfl
theorem pd_0 : parseMethodDescriptor "(I)J" = some ⟨[.int], some .long⟩ := by decide +kernel
theorem pd_1 : parseMethodDescriptor "(J)[B" = some ⟨[.long], some (.array .byte)⟩ := by decide +kernel
theorem pd_2 : parseMethodDescriptor "(I)V" = some ⟨[.int], none⟩ := by decide +kernel
theorem pd_3 : parseMethodDescriptor "()V" = some ⟨[], none⟩ := by decide +kernel
theorem pd_4 : parseMethodDescriptor "([BII)V" = some ⟨[(.array .byte), .int, .int], none⟩ := by decide +kernel
theorem pd_5 : parseMethodDescriptor "(Ljava/lang/Object;ILjava/lang/Object;II)V" = some ⟨[(.object "java/lang/Object"), .int, (.object "java/lang/Object"), .int, .int], none⟩ := by decide +kernel
theorem pd_6 : parseMethodDescriptor "(IJ)V" = some ⟨[.int, .long], none⟩ := by decide +kernel
theorem pd_7 : parseMethodDescriptor "(IILcom/example/runnel/runnel/runtime/Bytes;Lcom/example/runnel/runnel/runtime/Bytes;)Z" = some ⟨[.int, .int, (.object "com/example/runnel/runnel/runtime/Bytes"), (.object "com/example/runnel/runnel/runtime/Bytes")], some .boolean⟩ := by decide +kernel
theorem pd_8 : parseMethodDescriptor "(ILcom/example/runnel/runnel/runtime/Bytes;)I" = some ⟨[.int, (.object "com/example/runnel/runnel/runtime/Bytes")], some .int⟩ := by decide +kernel
theorem pd_9 : parseMethodDescriptor "()I" = some ⟨[], some .int⟩ := by decide +kernel
theorem pd_10 : parseMethodDescriptor "(II)I" = some ⟨[.int, .int], some .int⟩ := by decide +kernel
theorem pd_11 : parseMethodDescriptor "()J" = some ⟨[], some .long⟩ := by decide +kernel
theorem pd_12 : parseMethodDescriptor "()[B" = some ⟨[], some (.array .byte)⟩ := by decide +kernel
theorem pd_13 : parseMethodDescriptor "([BII)J" = some ⟨[(.array .byte), .int, .int], some .long⟩ := by decide +kernel
theorem pd_14 : parseMethodDescriptor "([II)[I" = some ⟨[(.array .int), .int], some (.array .int)⟩ := by decide +kernel
theorem pd_15 : parseMethodDescriptor "([JI)[J" = some ⟨[(.array .long), .int], some (.array .long)⟩ := by decide +kernel
theorem pd_16 : parseMethodDescriptor "(IILcom/example/runnel/runnel/runtime/Bytes;)Z" = some ⟨[.int, .int, (.object "com/example/runnel/runnel/runtime/Bytes")], some .boolean⟩ := by decide +kernel
theorem pd_17 : parseMethodDescriptor "([BII[BII)I" = some ⟨[(.array .byte), .int, .int, (.array .byte), .int, .int], some .int⟩ := by decide +kernel
theorem pd_18 : parseMethodDescriptor "([II)V" = some ⟨[(.array .int), .int], none⟩ := by decide +kernel
theorem pd_19 : parseMethodDescriptor "(I[I)V" = some ⟨[.int, (.array .int)], none⟩ := by decide +kernel
theorem pd_20 : parseMethodDescriptor "([I[III)V" = some ⟨[(.array .int), (.array .int), .int, .int], none⟩ := by decide +kernel
theorem pd_21 : parseMethodDescriptor "(J[BIIJ[BII)I" = some ⟨[.long, (.array .byte), .int, .int, .long, (.array .byte), .int, .int], some .int⟩ := by decide +kernel
theorem pd_22 : parseMethodDescriptor "(JJ)I" = some ⟨[.long, .long], some .int⟩ := by decide +kernel
/-! shifts as shifts of bit vectors -/
theorem b_and31 (q : Int32) (k : Nat) (hk : q.toBitVec.toNat % 32 = k) : (q &&& 31).toBitVec.toNat = k := by
  show (q.toBitVec &&& (31 : Int32).toBitVec).toNat = _
  rw [BitVec.toNat_and, show (31 : Int32).toBitVec.toNat = 2 ^ 5 - 1 from by decide, Nat.and_two_pow_sub_one_eq_mod]; exact hk
theorem b_ishl (x q : Int32) (k : Nat) (hk : q.toBitVec.toNat % 32 = k) : (x <<< (q &&& 31)).toBitVec = x.toBitVec <<< k := by
  show x.toBitVec <<< ((q &&& 31).toBitVec.smod 32) = _
  rw [BitVec.shiftLeft_eq', sm32 q k hk]
theorem b_ishr (x q : Int32) (k : Nat) (hk : q.toBitVec.toNat % 32 = k) : (x >>> (q &&& 31)).toBitVec = x.toBitVec.sshiftRight k := by
  show x.toBitVec.sshiftRight' ((q &&& 31).toBitVec.smod 32) = _
  rw [BitVec.sshiftRight_eq', sm32 q k hk]
theorem b_iushr (x q : Int32) (k : Nat) (hk : q.toBitVec.toNat % 32 = k) : ((x.toUInt32 >>> (q &&& 31).toUInt32).toInt32).toBitVec = x.toBitVec >>> k := by
  show x.toBitVec >>> ((q &&& 31).toBitVec % 32) = _
  rw [BitVec.ushiftRight_eq', BitVec.toNat_umod, b_and31 q k hk]
  congr 1; exact Nat.mod_eq_of_lt (by show k < 32; omega)
theorem b_lshl (x : Int64) (q : Int32) (k : Nat) (hk : q.toBitVec.toNat % 64 = k) : (x <<< (q &&& 0x3f).toInt64).toBitVec = x.toBitVec <<< k := by
  show x.toBitVec <<< ((q &&& 0x3f).toInt64.toBitVec.smod 64) = _
  rw [BitVec.shiftLeft_eq', (sm64 q k hk).1, smod64 k (sm64 q k hk).2]
theorem b_lshr (x : Int64) (q : Int32) (k : Nat) (hk : q.toBitVec.toNat % 64 = k) : (x >>> (q &&& 0x3f).toInt64).toBitVec = x.toBitVec.sshiftRight k := by
  show x.toBitVec.sshiftRight' ((q &&& 0x3f).toInt64.toBitVec.smod 64) = _
  rw [BitVec.sshiftRight_eq', (sm64 q k hk).1, smod64 k (sm64 q k hk).2]
theorem b_lushr (x : Int64) (q : Int32) (k : Nat) (hk : q.toBitVec.toNat % 64 = k) : ((x.toUInt64 >>> (q &&& 0x3f).toInt64.toUInt64).toInt64).toBitVec = x.toBitVec >>> k := by
  have h5 := (sm64 q k hk).2
  show x.toBitVec >>> ((q &&& 0x3f).toInt64.toBitVec % 64) = _
  rw [BitVec.ushiftRight_eq', BitVec.toNat_umod, (sm64 q k hk).1, BitVec.toNat_ofNat]
  congr 1; show k % 2 ^ 64 % 64 = k; omega
theorem nat32 {x : Int32} (hx : 0 ≤ x.toInt) : (x.toBitVec.toNat : Int) = x.toInt := by
  have h2 := x.toBitVec.isLt
  have h3 : x.toInt = x.toBitVec.toInt := rfl
  rw [BitVec.toInt_eq_toNat_cond] at h3
  split at h3 <;> omega
theorem clamp32 {x : Int32} (hx : 0 ≤ x.toInt) : (x.toNatClampNeg : Int) = x.toInt := by
  show (x.toInt.toNat : Int) = x.toInt
  omega
theorem nlt32 {x : Int32} (hx : 0 ≤ x.toInt) : ¬ x < 0 := by
  rw [Int32.lt_iff_toInt_lt, show (0 : Int32).toInt = 0 from by decide]; omega
theorem c_imulR (x k : Int32) (K : Int) (hk : k.toInt = K) : ((x * k).toInt - x.toInt * K) % 4294967296 = 0 := hk ▸ c_imul x k
theorem c_imulL (k x : Int32) (K : Int) (hk : k.toInt = K) : ((k * x).toInt - K * x.toInt) % 4294967296 = 0 := hk ▸ c_imul k x
theorem mulL (k x : Int32) (K : Int) (hk : k.toInt = K) (h1 : -2147483648 ≤ K * x.toInt) (h2 : K * x.toInt < 2147483648) : (k * x).toInt = K * x.toInt := by
  have a := c_imulL k x K hk
  have g := rng32 (k * x)
  generalize K * x.toInt = P at *
  omega
theorem mulR (x k : Int32) (K : Int) (hk : k.toInt = K) (h1 : -2147483648 ≤ x.toInt * K) (h2 : x.toInt * K < 2147483648) : (x * k).toInt = x.toInt * K := by
  have a := c_imulR x k K hk
  have g := rng32 (x * k)
  generalize x.toInt * K = P at *
  omega
/-! THE STORE: what the heap holds, as a list of cells: each an object (its class, its fields) or an array -/
abbrev CD : Type := (String × List (String × String × Value)) ⊕ (FieldType × List Value)
def C1 (Z : State) (h : Heap) (a : Addr) : CD → Prop
  | .inl q => Exa Z h a q.1 ∧ ∀ f ∈ q.2, Fld Z h a q.1 f.1 f.2.1 f.2.2
  | .inr q => Ars Z h a q.1 q.2 ∧ ∀ v ∈ q.2, fits q.1 v = true
def Hs (Z : State) (n0 : Nat) (hO h : Heap) (L : List (Addr × CD)) : Prop :=
  (L.map fun x => x.1).Nodup ∧ (∀ x ∈ L, n0 ≤ x.1 ∧ C1 Z h x.1 x.2) ∧ (∀ (a : Addr) (c : Cell), a < n0 → hO[a]? = some c → h[a]? = some c)
theorem nodup_inj {α : Type} {l : List α} (h : l.Nodup) {i j : Nat} {hi : i < l.length} {hj : j < l.length} (e : l[i] = l[j]) : i = j := by
  rcases Nat.lt_trichotomy i j with q | q | q
  · exact absurd e ((List.pairwise_iff_getElem.mp h) i j hi hj q)
  · exact q
  · exact absurd e.symm ((List.pairwise_iff_getElem.mp h) j i hj hi q)
section Store
variable {Z : State} {n0 : Nat} {hO h h' : Heap} {L : List (Addr × CD)} {a b : Addr} {d d' : CD} {i j : Nat}
theorem C1.ext (q : C1 Z h a d) (E : Ext h h') : C1 Z h' a d := by
  match d, q with
  | .inl q, r => exact ⟨r.1.ext E, fun f hf => (r.2 f hf).ext E⟩
  | .inr q, r => exact ⟨r.1.ext E, r.2⟩
theorem C1.lt (q : C1 Z h a d) : a < h.size := by
  match d, q with
  | .inl q, r => exact r.1.lt
  | .inr q, r => exact r.1.lt
theorem C1.other {sl : Nat} {v : Value} (q : C1 Z h a d) (W : Wr h h' b sl v) (hne : a ≠ b) : C1 Z h' a d := by
  match d, q with
  | .inl q, r => exact ⟨r.1.wr W, fun f hf => (r.2 f hf).other W (Or.inl hne)⟩
  | .inr q, r => exact ⟨r.1.other W hne, r.2⟩
theorem C1.keep {ws : List Addr} (q : C1 Z h a d) (K : Keep h h' ws) (hne : a ∉ ws) : C1 Z h' a d := by
  match d, q with
  | .inl q, r => exact ⟨r.1.keep K, fun f hf => (r.2 f hf).keep K hne⟩
  | .inr q, r => exact ⟨r.1.keep K hne, r.2⟩
theorem Hs.mem (H : Hs Z n0 hO h L) (hi : L[i]? = some (a, d)) : n0 ≤ a ∧ C1 Z h a d := H.2.1 (a, d) (List.mem_of_getElem? hi)
theorem Hs.lt (H : Hs Z n0 hO h L) (hi : L[i]? = some (a, d)) : a < h.size := (H.mem hi).2.lt
theorem Hs.exa {C : String} {fs : List (String × String × Value)} (H : Hs Z n0 hO h L) (hi : L[i]? = some (a, .inl (C, fs))) : Exa Z h a C := (H.mem hi).2.1
theorem Hs.fld {C f t : String} {v : Value} {fs : List (String × String × Value)} (H : Hs Z n0 hO h L) (hi : L[i]? = some (a, .inl (C, fs))) (hj : fs[j]? = some (f, t, v)) : Fld Z h a C f t v := (H.mem hi).2.2 (f, t, v) (List.mem_of_getElem? hj)
theorem Hs.ars {ty : FieldType} {vs : List Value} (H : Hs Z n0 hO h L) (hi : L[i]? = some (a, .inr (ty, vs))) : Ars Z h a ty vs := (H.mem hi).2.1
theorem Hs.fits {ty : FieldType} {vs : List Value} (H : Hs Z n0 hO h L) (hi : L[i]? = some (a, .inr (ty, vs))) : ∀ v ∈ vs, fits ty v = true := (H.mem hi).2.2
/-- two places, two addresses -/
theorem Hs.ne (H : Hs Z n0 hO h L) (hi : L[i]? = some (a, d)) (hj : L[j]? = some (b, d')) (hne : i ≠ j) : a ≠ b := by
  intro e
  have h1 : (L.map fun x => x.1)[i]? = some a := by rw [List.getElem?_map, hi]; rfl
  have h2 : (L.map fun x => x.1)[j]? = some a := by rw [List.getElem?_map, hj, e]; rfl
  obtain ⟨l1, e1⟩ := List.getElem?_eq_some_iff.mp h1
  obtain ⟨l2, e2⟩ := List.getElem?_eq_some_iff.mp h2
  exact hne (nodup_inj H.1 (e1.trans e2.symm))
theorem Hs.cons (H : Hs Z n0 hO h L) (E : Ext h h') (e : a = h.size) (g : n0 ≤ a) (q : C1 Z h' a d) : Hs Z n0 hO h' ((a, d) :: L) := by
  refine ⟨?_, ?_, fun b c hb hc => E.2 _ _ (H.2.2 b c hb hc)⟩
  · rw [List.map_cons, List.nodup_cons]
    refine ⟨fun z => ?_, H.1⟩
    obtain ⟨x, hx, ex⟩ := List.mem_map.mp z
    have := (H.2.1 x hx).2.lt
    rw [ex, e] at this
    exact absurd this (Nat.lt_irrefl _)
  · intro x hx
    rcases List.mem_cons.mp hx with rfl | hx
    · exact ⟨g, q⟩
    · exact ⟨(H.2.1 x hx).1, (H.2.1 x hx).2.ext E⟩
/-- one cell written -/
theorem Hs.set {sl : Nat} {v : Value} (H : Hs Z n0 hO h L) (hi : L[i]? = some (a, d)) (W : Wr h h' a sl v) (q : C1 Z h' a d') : Hs Z n0 hO h' (L.set i (a, d')) := by
  have ga := (H.mem hi).1
  have em : (L.set i (a, d')).map (fun x => x.1) = L.map fun x => x.1 := by
    rw [List.map_set]
    apply List.ext_getElem?
    intro k
    rw [List.getElem?_set]
    by_cases c : i = k
    · subst c
      rw [if_pos rfl, List.getElem?_map, hi]
      simp [(List.getElem?_eq_some_iff.mp hi).1]
    · rw [if_neg c]
  refine ⟨em ▸ H.1, ?_, fun b c hb hc => ?_⟩
  · intro x hx
    obtain ⟨k, hk⟩ := List.mem_iff_getElem?.mp hx
    rw [List.getElem?_set] at hk
    by_cases c : i = k
    · rw [if_pos c] at hk
      split at hk
      · cases hk; exact ⟨ga, q⟩
      · cases hk
    · rw [if_neg c] at hk
      have := H.ne (d := x.2) (d' := d) (a := x.1) hk hi (fun z => c z.symm)
      exact ⟨(H.mem (d := x.2) hk).1, (H.mem (d := x.2) hk).2.other W this⟩
  · obtain ⟨c', e1, e2, -⟩ := (Keep.of_wr W).2.2 b c (H.2.2 b c hb hc)
    exact (Keep.of_wr W).2.1 b c (H.2.2 b c hb hc) (by simp; intro z; subst z; exact absurd hb (Nat.not_lt.mpr ga))
theorem Hs.sta {C f t : String} {v : Value} (H : Hs Z n0 hO h L) (hn : hO.size = n0) (S : Sta Z hO C f t v) : Sta Z h C f t v := by
  obtain ⟨cf, i, k, g, st, cell, h1, h2, h3, h4, h5, r⟩ := S
  exact ⟨cf, i, k, g, st, cell, h1, h2, h3, h4, H.2.2 st cell (by rw [← hn]; exact (Array.getElem?_eq_some_iff.mp h5).1) h5, r⟩
theorem Hs.oars {ty : FieldType} {vs : List Value} (H : Hs Z n0 hO h L) (hn : hO.size = n0) (A : Ars Z hO a ty vs) : Ars Z h a ty vs := by
  obtain ⟨c, ⟨h1, h2⟩, r⟩ := A
  exact ⟨c, ⟨H.2.2 a c (by rw [← hn]; exact (Array.getElem?_eq_some_iff.mp h1).1) h1, h2⟩, r⟩
/-- the cells in another order, or some of them -/
theorem Hs.pick {M : List (Addr × CD)} (H : Hs Z n0 hO h L) (is : List Nat) (hd : is.Nodup) (hm : is.map (fun i => L[i]?) = M.map some) : Hs Z n0 hO h M := by
  have len : is.length = M.length := by have := congrArg List.length hm; simpa using this
  have at' : ∀ k (hk : k < M.length), L[is[k]'(by omega)]? = some M[k] := by
    intro k hk
    have := congrArg (fun l => l[k]?) hm
    simp only [List.getElem?_map] at this
    rw [List.getElem?_eq_getElem (by omega : k < is.length), List.getElem?_eq_getElem hk] at this
    simpa using this
  refine ⟨?_, ?_, H.2.2⟩
  · refine List.pairwise_iff_getElem.mpr fun i j hi hj hij he => ?_
    rw [List.length_map] at hi hj
    have he' : M[i].1 = M[j].1 := by simpa using he
    have q1 := at' i hi
    have q2 := at' j hj
    have ne : is[i]'(by omega) ≠ is[j]'(by omega) := fun z => by
      have := nodup_inj hd z
      omega
    exact H.ne (a := M[i].1) (d := M[i].2) (b := M[j].1) (d' := M[j].2) q1 q2 ne he'
  · intro x hx
    obtain ⟨k, hk, rfl⟩ := List.mem_iff_getElem.mp hx
    exact H.2.1 _ (List.mem_of_getElem? (at' k hk))
/-- the fields of a class as the sheet lays them -/
def Lay (Z : State) (a0 : Array Value) (C : String) (ns : List (String × String)) : Prop := (ns.map fun x => x.1).Nodup ∧ ∀ x ∈ ns, Laid Z a0 C C x.1 x.2 ∧ ∃ t, parseFieldDescriptor x.2 = some t
theorem C1.put {a0 : Array Value} {C f t : String} {v old : Value} {fs : List (String × String × Value)} (q : C1 Z h a (.inl (C, fs))) (y : Lay Z a0 C (fs.map fun x => (x.1, x.2.1))) (hj : fs[j]? = some (f, t, old)) (W : Wr h h' a (Jvm.RoadKit.slotOf Z C f t) v) : C1 Z h' a (.inl (C, fs.set j (f, t, v))) := by
  refine ⟨q.1.wr W, fun g hg => ?_⟩
  obtain ⟨k, hk⟩ := List.mem_iff_getElem?.mp hg
  rw [List.getElem?_set] at hk
  by_cases c : j = k
  · rw [if_pos c] at hk
    split at hk
    · cases hk; exact (q.2 _ (List.mem_of_getElem? hj)).same W
    · cases hk
  · rw [if_neg c] at hk
    have m1 := List.mem_of_getElem? hk
    have m2 := List.mem_of_getElem? hj
    obtain ⟨l1, t1, p1⟩ := y.2 (g.1, g.2.1) (List.mem_map.mpr ⟨g, m1, rfl⟩)
    obtain ⟨l2, t2, p2⟩ := y.2 (f, t) (List.mem_map.mpr ⟨_, m2, rfl⟩)
    have nn : g.1 ≠ f := by
      intro e
      have n1 : ((fs.map fun x => (x.1, x.2.1)).map fun x => x.1)[k]? = some g.1 := by rw [List.map_map, List.getElem?_map, hk]; rfl
      have n2 : ((fs.map fun x => (x.1, x.2.1)).map fun x => x.1)[j]? = some f := by rw [List.map_map, List.getElem?_map, hj]; rfl
      rw [e] at n1
      obtain ⟨z1, e1⟩ := List.getElem?_eq_some_iff.mp n1
      obtain ⟨z2, e2⟩ := List.getElem?_eq_some_iff.mp n2
      exact c (nodup_inj y.1 (e2.trans e1.symm))
    exact (q.2 g m1).other W (Or.inr (slot_ne l1 l2 nn p1 p2))
end Store
abbrev rm00 : Room := { frames := 0, cells := 0, slots := 0, locals := 0 }
abbrev BYN : String := "com/example/runnel/runnel/runtime/Bytes"
abbrev RBN : String := "com/example/runnel/runnel/runtime/RecordBuffer"
abbrev BD : String := "Lcom/example/runnel/runnel/runtime/Bytes;"
/-! THE STORE, its second part: steps by search (Rp: one member of a list changed for another) -/
def Rp {α : Type} (a b : α) : List α → List α → Prop
  | [], _ => False
  | _ :: _, [] => False
  | x :: l, y :: l' => (x = a ∧ y = b ∧ l = l') ∨ (x = y ∧ Rp a b l l')
theorem Rp.hd {α : Type} {a b : α} {l : List α} : Rp a b (a :: l) (b :: l) := Or.inl ⟨rfl, rfl, rfl⟩
theorem Rp.tl {α : Type} {a b c : α} {l l' : List α} (r : Rp a b l l') : Rp a b (c :: l) (c :: l') := Or.inr ⟨rfl, r⟩
theorem Rp.ind {α : Type} {a b : α} {P : List α → List α → Prop} (hd : ∀ l, P (a :: l) (b :: l)) (tl : ∀ c l l', P l l' → P (c :: l) (c :: l')) : ∀ {l l'}, Rp a b l l' → P l l'
  | [], _, r => nomatch r
  | _ :: _, [], r => nomatch r
  | x :: l, y :: l', r => by
    rcases r with ⟨rfl, rfl, rfl⟩ | ⟨rfl, r⟩
    · exact hd _
    · exact tl _ _ _ (Rp.ind hd tl r)
theorem Rp.get {α : Type} {a b : α} {l l' : List α} (r : Rp a b l l') : ∃ i, l[i]? = some a ∧ l' = l.set i b :=
  Rp.ind (P := fun l l' => ∃ i, l[i]? = some a ∧ l' = l.set i b) (fun l => ⟨0, rfl, rfl⟩) (fun c l l' ih => by obtain ⟨i, e, q⟩ := ih; exact ⟨i + 1, by simpa using e, by simp [q]⟩) r
abbrev ai (T : List Int32) : CD := .inr (.int, T.map Value.int)
abbrev al (T : List Int64) : CD := .inr (.long, T.map Value.long)
abbrev vb (b : Int8) : Value := .int b.toInt32
abbrev ab (T : List Int8) : CD := .inr (.byte, T.map vb)
abbrev bv (v : Value) (n : Int32) : CD := .inl (BYN, [("array", "[B", v), ("size", "I", .int n)])
abbrev bo (a : Addr) (n : Int32) : CD := bv (.ref a) n
theorem fitI (T : List Int32) : ∀ v ∈ T.map Value.int, fits .int v = true := by
  intro v hv; obtain ⟨x, -, rfl⟩ := List.mem_map.mp hv; rfl
theorem fitL (T : List Int64) : ∀ v ∈ T.map Value.long, fits .long v = true := by
  intro v hv; obtain ⟨x, -, rfl⟩ := List.mem_map.mp hv; rfl
theorem fitB1 (x : Int8) : fits .byte (vb x) = true := by
  have h1 := x.toInt_lt
  have h2 := x.le_toInt
  have e : x.toInt32.toInt = x.toInt := Int8.toInt_toInt32 x
  have a1 : (-128 : Int32) ≤ x.toInt32 := by rw [Int32.le_iff_toInt_le, e]; have : (-128 : Int32).toInt = -128 := by decide
                                             omega
  have a2 : x.toInt32 ≤ (127 : Int32) := by rw [Int32.le_iff_toInt_le, e]; have : (127 : Int32).toInt = 127 := by decide
                                            omega
  show (decide (-128 ≤ x.toInt32) && decide (x.toInt32 ≤ 127)) = true
  simp [a1, a2]
theorem fitB (T : List Int8) : ∀ v ∈ T.map vb, fits .byte v = true := by
  intro v hv; obtain ⟨x, -, rfl⟩ := List.mem_map.mp hv; exact fitB1 x
section Store2
variable {Z : State} {n0 : Nat} {hO h h' : Heap} {L L' : List (Addr × CD)} {a b : Addr} {d d' : CD} {i j : Nat}
theorem Hs.mm (H : Hs Z n0 hO h L) (m : (a, d) ∈ L) : n0 ≤ a ∧ C1 Z h a d := H.2.1 (a, d) m
theorem Hs.fl {C f t : String} {v : Value} {fs : List (String × String × Value)} (H : Hs Z n0 hO h L) (m : (a, .inl (C, fs)) ∈ L) (m' : (f, t, v) ∈ fs) : Fld Z h a C f t v := (H.mm m).2.2 (f, t, v) m'
theorem Hs.ex {C : String} {fs : List (String × String × Value)} (H : Hs Z n0 hO h L) (m : (a, .inl (C, fs)) ∈ L) : Exa Z h a C := (H.mm m).2.1
theorem Hs.ge (H : Hs Z n0 hO h L) (m : (a, d) ∈ L) : n0 ≤ a := (H.mm m).1
theorem Hs.ar {ty : FieldType} {vs : List Value} (H : Hs Z n0 hO h L) (m : (a, .inr (ty, vs)) ∈ L) : Ars Z h a ty vs := (H.mm m).2.1
theorem Hs.lts (H : Hs Z n0 hO h L) : ∀ x ∈ L, x.1 < h.size := fun x hx => (H.2.1 x hx).2.lt
theorem Hs.rp (H : Hs Z n0 hO h L) {sl : Nat} {v : Value} (r : Rp (a, d) (a, d') L L') (W : Wr h h' a sl v) (q : C1 Z h' a d') : Hs Z n0 hO h' L' := by
  obtain ⟨i, e, rfl⟩ := r.get
  exact H.set e W q
theorem Hs.putf {a0 : Array Value} {C f t : String} {v old : Value} {fs fs' : List (String × String × Value)} (H : Hs Z n0 hO h L) (y : Lay Z a0 C (fs.map fun x => (x.1, x.2.1))) (r : Rp (a, .inl (C, fs)) (a, .inl (C, fs')) L L') (r' : Rp (f, t, old) (f, t, v) fs fs') (W : Wr h h' a (Jvm.RoadKit.slotOf Z C f t) v) : Hs Z n0 hO h' L' := by
  obtain ⟨i, e, rfl⟩ := r.get
  obtain ⟨j, e', rfl⟩ := r'.get
  exact H.set e W ((H.mem e).2.put y e' W)
theorem Hs.puti {T : List Int32} {x : Int32} {k : Nat} (H : Hs Z n0 hO h L) (r : Rp (a, ai T) (a, ai (T.set k x)) L L') (W : Wr h h' a k (.int x)) : Hs Z n0 hO h' L' := by
  obtain ⟨i, e, rfl⟩ := r.get
  exact H.set e W ⟨by have := (H.ars e).same W; rwa [← List.map_set] at this, fitI _⟩
theorem Hs.putl {T : List Int64} {x : Int64} {k : Nat} (H : Hs Z n0 hO h L) (r : Rp (a, al T) (a, al (T.set k x)) L L') (W : Wr h h' a k (.long x)) : Hs Z n0 hO h' L' := by
  obtain ⟨i, e, rfl⟩ := r.get
  exact H.set e W ⟨by have := (H.ars e).same W; rwa [← List.map_set] at this, fitL _⟩
theorem Hs.putb {T : List Int8} {x : Int32} {k : Nat} (H : Hs Z n0 hO h L) (r : Rp (a, ab T) (a, ab (T.set k x.toInt8)) L L') (W : Wr h h' a k (.int x.toInt8.toInt32)) : Hs Z n0 hO h' L' := by
  obtain ⟨i, e, rfl⟩ := r.get
  refine H.set e W ⟨?_, fitB _⟩
  have := (H.ars e).same W
  rwa [show (Value.int x.toInt8.toInt32) = vb x.toInt8 from rfl, ← List.map_set] at this
/-- what a call kept: cells outside ws are as they were -/
theorem Hs.kept {ws : List Addr} (H : Hs Z n0 hO h L) (K : Keep h h' ws) (g : ∀ w ∈ ws, n0 ≤ w) (e : L.map (fun x => x.1) = L'.map fun x => x.1) (q : ∀ x ∈ L', (x ∈ L ∧ x.1 ∉ ws) ∨ C1 Z h' x.1 x.2) : Hs Z n0 hO h' L' := by
  refine ⟨e ▸ H.1, fun x hx => ⟨?_, ?_⟩, fun b c hb hc => K.2.1 b c (H.2.2 b c hb hc) fun z => absurd hb (Nat.not_lt.mpr (g b z))⟩
  · have : x.1 ∈ L.map fun x => x.1 := by rw [e]; exact List.mem_map.mpr ⟨x, hx, rfl⟩
    obtain ⟨z, hz, ez⟩ := List.mem_map.mp this
    rw [← ez]; exact (H.2.1 z hz).1
  · rcases q x hx with ⟨m, nm⟩ | q
    · exact (H.2.1 x m).2.keep K nm
    · exact q
theorem Rp.mem {α : Type} {a b x : α} {l l' : List α} (r : Rp a b l l') : x ∈ l' → x ∈ l ∨ x = b :=
  Rp.ind (P := fun l l' => x ∈ l' → x ∈ l ∨ x = b) (fun l hx => by
    rcases List.mem_cons.mp hx with e | e
    · exact Or.inr e
    · exact Or.inl (List.mem_cons_of_mem _ e)) (fun c l l' ih hx => by
    rcases List.mem_cons.mp hx with e | e
    · exact Or.inl (e ▸ List.mem_cons_self)
    · exact (ih e).imp (List.mem_cons_of_mem _) id) r
theorem Rp.fst (r : Rp (a, d) (a, d') L L') : L.map (fun x => x.1) = L'.map fun x => x.1 :=
  Rp.ind (P := fun L L' => L.map (fun x => x.1) = L'.map fun x => x.1) (fun l => rfl) (fun c l l' ih => by simp [ih]) r
theorem nodup_fst (n : (L.map fun x => x.1).Nodup) {x y : Addr × CD} (hx : x ∈ L) (hy : y ∈ L) (e : x.1 = y.1) : x = y := by
  obtain ⟨i, hi, rfl⟩ := List.mem_iff_getElem.mp hx
  obtain ⟨j, hj, rfl⟩ := List.mem_iff_getElem.mp hy
  have : i = j := nodup_inj n (hi := by simpa using hi) (hj := by simpa using hj) (by simpa using e)
  subst this; rfl
theorem Rp.here {α : Type} {a b : α} {l l' : List α} (r : Rp a b l l') : b ∈ l' :=
  Rp.ind (P := fun _ l' => b ∈ l') (fun l => List.mem_cons_self) (fun c l l' ih => List.mem_cons_of_mem _ ih) r
theorem Rp.from {α : Type} {a b : α} {l l' : List α} (r : Rp a b l l') : a ∈ l :=
  Rp.ind (P := fun l _ => a ∈ l) (fun l => List.mem_cons_self) (fun c l l' ih => List.mem_cons_of_mem _ ih) r
theorem Hs.kept1 (H : Hs Z n0 hO h L) (K : Keep h h' [a]) (r : Rp (a, d) (a, d') L L') (q : C1 Z h' a d') : Hs Z n0 hO h' L' := by
  have f := r.fst
  refine H.kept K (fun w hw => by cases List.mem_singleton.mp hw; exact H.ge r.from) f fun x hx => ?_
  by_cases c : x.1 = a
  · right
    have : x = (a, d') := nodup_fst (f ▸ H.1) hx r.here c
    subst this; exact q
  · left
    refine ⟨(r.mem hx).resolve_right fun e => c (by rw [e]), fun z => c (List.mem_singleton.mp z)⟩
theorem Hs.kept2 {e e' : CD} {L1 : List (Addr × CD)} (H : Hs Z n0 hO h L) (K : Keep h h' [a, b]) (hne : a ≠ b) (r : Rp (a, d) (a, d') L L1) (r2 : Rp (b, e) (b, e') L1 L') (q : C1 Z h' a d') (q2 : C1 Z h' b e') : Hs Z n0 hO h' L' := by
  have f := r.fst
  have f2 := r2.fst
  have nd1 : (L1.map fun x => x.1).Nodup := f ▸ H.1
  have nd2 : (L'.map fun x => x.1).Nodup := f2 ▸ nd1
  have gb : (b, e) ∈ L := (r.mem r2.from).resolve_right fun z => hne (by cases z; rfl)
  refine H.kept K (fun w hw => ?_) (f.trans f2) fun x hx => ?_
  · rcases List.mem_cons.mp hw with e | e
    · rw [e]; exact H.ge r.from
    · cases List.mem_singleton.mp e; exact H.ge gb
  by_cases c2 : x.1 = b
  · right
    have : x = (b, e') := nodup_fst nd2 hx r2.here c2
    subst this; exact q2
  · have x1 : x ∈ L1 := (r2.mem hx).resolve_right fun z => c2 (by rw [z])
    by_cases c : x.1 = a
    · right
      have : x = (a, d') := nodup_fst nd1 x1 r.here c
      subst this; exact q
    · left
      refine ⟨(r.mem x1).resolve_right fun z => c (by rw [z]), fun z => ?_⟩
      rcases List.mem_cons.mp z with e | e
      · exact c e
      · exact c2 (List.mem_singleton.mp e)
theorem Keep.toExt {ws : List Addr} (K : Keep h h' ws) (g : ∀ w ∈ ws, h.size ≤ w) : Ext h h' := ⟨K.1, fun a c hc => K.2.1 a c hc fun z => absurd (Array.getElem?_eq_some_iff.mp hc).1 (Nat.not_lt.mpr (g a z))⟩
theorem Keep.ofExt {ws : List Addr} (E : Ext h h') : Keep h h' ws := (Keep.refl h ws).ext E
/-- an object of the class, as 'new' lays it -/
theorem C1.new {a0 : Array Value} {C : String} {fs : List (String × String × Value)} (E : Exa Z h a C) (y : Lay Z a0 C (fs.map fun x => (x.1, x.2.1))) (D : ∀ {O nm d : String} {ty : FieldType}, Laid Z a0 C O nm d → parseFieldDescriptor d = some ty → Fld Z h a O nm d (defaultValue ty)) (q : ∀ f ∈ fs, ∃ ty, parseFieldDescriptor f.2.1 = some ty ∧ f.2.2 = defaultValue ty) : C1 Z h a (.inl (C, fs)) := by
  refine ⟨E, fun f hf => ?_⟩
  obtain ⟨ty, p, e⟩ := q f hf
  have := D (y.2 (f.1, f.2.1) (List.mem_map.mpr ⟨f, hf, rfl⟩)).1 p
  rw [e]; exact this
end Store2
section OwnCopy
variable {X : Cx} {Z : State} {y : MethodName} {bytes : ByteArray} {mx : Nat} {rt : Option FieldType} {R : Room} {n0 : Nat} {Q : Option Value → Heap → Prop} {a0 : Array Value} {k n : Nat} {h : Heap} {pc pc' : Nat} {ls ls' : Array Slot} {st st' : List Value}
theorem Ars.toArv {a : Addr} {ty : FieldType} {vs : List Value} {d : Value} (A : Ars Z h a ty vs) (f : ∀ v ∈ vs, fits ty v = true) : ∃ kk z, Arv Z h a kk ty z vs d ∧ z.toNatClampNeg = vs.length := by
  obtain ⟨c, A, rfl, r⟩ := A
  have hsz : c.slots.size < 2 ^ 31 := by simpa using r
  have z1 : (Int32.ofNat c.slots.size).toInt = c.slots.size := by
    rw [Int32.toInt_ofNat_of_lt (by omega)]
  have z0 : (0 : Int32).toInt = 0 := by decide
  have zz : (Int32.ofNat c.slots.size).toNatClampNeg = c.slots.size := by
    rw [Int32.toNatClampNeg, z1]; simp
  refine ⟨c.cls, Int32.ofNat c.slots.size, ⟨c, A, rfl, zz.symm, ?_, ?_, ?_⟩, ?_⟩
  · rw [Int32.lt_iff_toInt_lt, z1, z0]; omega
  · intro i hi
    rw [List.getD_eq_getElem?_getD]
    simp [hi]
  · intro i hi
    apply f
    rw [List.getD_eq_getElem?_getD]
    simp [hi]
  · rw [zz]; simp
theorem w_arraycopy (C : Hand X Z y bytes mx rt R n0 Q) {i W : Nat} {a b : Addr} {ty : FieldType} {vs vd : List Value} {sp dp nn : Int32} {s1 d1 m1 : Nat} (w1 : (Jvm.Cond.methodLink y.cls i Jvm.Stand.acN).before a0 Z = true) (w2 : (Jvm.Cond.native Jvm.Stand.acN).before a0 Z = true) (w3 : (Jvm.Cond.static Jvm.Stand.acN).before a0 Z = true) (w4 : (Jvm.Cond.initialized "java/lang/System").before a0 Z = true) (hd : decode bytes pc = .ok (.invokestatic i, 3))
    (A : Ars Z h a ty vs) (fA : ∀ v ∈ vs, fits ty v = true) (B : Ars Z h b ty vd) (fB : ∀ v ∈ vd, fits ty v = true) (hty : refKind ty = false) (h1 : ¬ sp < 0) (h2 : ¬ dp < 0) (h3 : ¬ nn < 0) (e1 : sp.toNatClampNeg = s1) (e2 : dp.toNatClampNeg = d1) (e3 : nn.toNatClampNeg = m1) (h4 : s1 + m1 ≤ vs.length) (h5 : d1 + m1 ≤ vd.length) (ge : n0 ≤ b) (hls : ls.size = mx) (hf : 1 ≤ R.frames) (hW : (st.map fun v => v.category).sum = W) (hlo : W + (nativeFrameWords "java/lang/System" "arraycopy" 5 + 11) ≤ R.locals) (hp : pc + 3 = pc')
    (w : ∀ h', Keep h h' [b] → Ars Z h' b ty (vd.take d1 ++ (vs.drop s1).take m1 ++ vd.drop (d1 + m1)) → Wp X k n h' pc' ls st) : Wp X k n h pc ls (.int nn :: .int dp :: .ref b :: .int sp :: .ref a :: st) := by
  subst hp hW e1 e2 e3
  intro T locs S e F
  have eR := C.2.2.2.2.2.2.2.1
  obtain ⟨kA, zA, vA, lA⟩ := A.toArv (d := .null) fA
  obtain ⟨kB, zB, vB, lB⟩ := B.toArv (d := .null) fB
  obtain ⟨T', h', L, S', e', F', K, ⟨c', A', -, sz', -, hs', -⟩, st'⟩ := cpA S C.1 C.2.1 (own := y.cls) C.2.2.1 w1 w2 w3 w4 e vA vB (Or.inl ⟨rfl, hty⟩) h1 h2 h3 (by rw [lA]; exact h4) (by rw [lB]; exact h5) (us := (List.range nn.toNatClampNeg).map fun i => vs.getD (sp.toNatClampNeg + i) .null) rfl (by exact h5) F (by rw [C.2.2.2.2.2.2.2.2.2.2.1]; exact ge) (g := mkF X.m pc ls (.int nn :: .int dp :: .ref b :: .int sp :: .ref a :: st)) rfl (by rw [C.2.2.2.2.1]; exact hls) rfl (hb C.2.2.2.1 hd) (by rw [eR]; exact hf) (W := (st.map fun v => v.category).sum) (by show 2 * 0 + _ ≤ _; omega) (by rw [eR]; exact hlo)
  suffices AA : Ars Z h' b ty (vd.take dp.toNatClampNeg ++ (vs.drop sp.toNatClampNeg).take nn.toNatClampNeg ++ vd.drop (dp.toNatClampNeg + nn.toNatClampNeg)) by
    obtain ⟨s2, v, L2, a1, r⟩ := w h' K AA T' L S' e' F'
    exact ⟨s2, v, L2, st' _ a1, r⟩
  refine ⟨c', A', ?_, ?_⟩
  · have lus : (List.map (fun i => vs.getD (sp.toNatClampNeg + i) .null) (List.range nn.toNatClampNeg)) = (vs.drop sp.toNatClampNeg).take nn.toNatClampNeg := by
      apply List.ext_getElem?
      intro q
      rw [List.getElem?_map, List.getElem?_take, List.getElem?_drop]
      by_cases hq : q < nn.toNatClampNeg
      · rw [if_pos hq, List.getElem?_range hq, Option.map_some, List.getD_eq_getElem?_getD, List.getElem?_eq_getElem (by omega)]; rfl
      · rw [if_neg hq, List.getElem?_eq_none (by simpa using hq)]; rfl
    rw [lus] at hs'
    have sz2 : c'.slots.size = vd.length := by rw [sz', lB]
    apply List.ext_getElem?
    intro q
    by_cases hq : q < c'.slots.size
    · have := hs' q hq
      rw [Array.getElem?_toList, this, List.getD_eq_getElem?_getD, List.getElem?_eq_getElem (by simp; omega)]; rfl
    · rw [List.getElem?_eq_none (by simpa using hq), List.getElem?_eq_none (by simp; omega)]
  · have : vd.length < 2 ^ 31 := by obtain ⟨_, _, _, q⟩ := B; exact q
    simp only [List.length_append, List.length_take, List.length_drop]; omega
end OwnCopy
def tb (T : List Int32) (p : Nat) : Int32 := (T[p]?).getD 0
theorem tb_of {T : List Int32} {p : Nat} (h : p < T.length) : T[p]? = some (tb T p) := by simp [tb, List.getElem?_eq_getElem h]
theorem map_at {T : List Int32} {p : Nat} (h : p < T.length) : (T.map Value.int)[p]? = some (.int (tb T p)) := by
  rw [List.getElem?_map, tb_of h]; rfl
set_option maxRecDepth 65536 in
set_option maxHeartbeats 40000000 in
theorem c_12 (l : Launch) (Z : State) (a0 : Array Value) (hw : ∀ d ∈ tables_1, d.before a0 Z = true) (o : Addr) (x : Int32) (n0 : Nat) (h : Heap) (hn : n0 ≤ h.size) (F : Fld Z h o BYN "size" "I" (.int x)) :
    Ct l Z y12 prog_58_method_3_code 1 (some .int) rm00 n0 [] #[.ref o] h (fun v h' => v = some (.int x) ∧ h' = h) := by
  refine ct_of pn_12 hn (ef_12 o) fun X C => ?_
  refine w_aloadN C (pc' := 1) d12_0 rfl rfl rfl ?_
  refine w_getfield C (pc' := 4) (tw hw 34 rfl) d12_1 F rfl ?_
  exact w_iret C d12_4 (by simp) rfl (by decide) (by decide) ⟨rfl, rfl⟩
set_option maxRecDepth 65536 in
set_option maxHeartbeats 40000000 in
theorem c_17 (l : Launch) (Z : State) (a0 : Array Value) (hw : ∀ d ∈ tables_1, d.before a0 Z = true) (o b : Addr) (n0 : Nat) (h : Heap) (hn : n0 ≤ h.size) (F : Fld Z h o BYN "array" "[B" (.ref b)) :
    Ct l Z y17 prog_58_method_2_code 1 (some (.array .byte)) rm00 n0 [] #[.ref o] h (fun v h' => v = some (.ref b) ∧ h' = h) := by
  refine ct_of pn_17 hn (ef_17 o) fun X C => ?_
  refine w_aloadN C (pc' := 1) d17_0 rfl rfl rfl ?_
  refine w_getfield C (pc' := 4) (tw hw 23 rfl) d17_1 F rfl ?_
  exact w_aret C d17_4 rfl rfl (by decide) (by decide) ⟨rfl, rfl⟩
set_option maxRecDepth 65536 in
set_option maxHeartbeats 40000000 in
theorem c_16 (l : Launch) (Z : State) (a0 : Array Value) (hw : ∀ d ∈ tables_1, d.before a0 Z = true) (o b : Addr) (vs : List Value) (z : Int32) (n0 : Nat) (h : Heap) (hn : n0 ≤ h.size) (F : Fld Z h o BYN "array" "[B" (.ref b)) (A : Ars Z h b .byte vs) (hz : vs.length.toInt32 = z) :
    Ct l Z y16 prog_58_method_4_code 1 (some .int) rm00 n0 [] #[.ref o] h (fun v h' => v = some (.int z) ∧ h' = h) := by
  refine ct_of pn_16 hn (ef_16 o) fun X C => ?_
  refine w_aloadN C (pc' := 1) d16_0 rfl rfl rfl ?_
  refine w_getfield C (pc' := 4) (tw hw 23 rfl) d16_1 F rfl ?_
  refine w_alen C (pc' := 5) d16_4 A (z := z) hz rfl ?_
  exact w_iret C d16_5 (by simp) rfl (by decide) (by decide) ⟨rfl, rfl⟩
set_option maxRecDepth 65536 in
set_option maxHeartbeats 40000000 in
theorem c_15 (l : Launch) (Z : State) (a0 : Array Value) (hw : ∀ d ∈ tables_1, d.before a0 Z = true) (o : Addr) (x : Int32) (n0 : Nat) (h : Heap) (hn : n0 ≤ h.size) (F : Fld Z h o RBN "partitions" "I" (.int x)) :
    Ct l Z y15 prog_78_method_9_code 1 (some .long) rm00 n0 [] #[.ref o] h (fun v h' => v = some (.long (400 + 4 * x.toInt64)) ∧ h' = h) := by
  refine ct_of pn_15 hn (ef_15 o) fun X C => ?_
  refine w_ldc2 C (pc' := 3) (tw hw 112 rfl) d15_0 rfl ?_
  refine w_ldc2 C (pc' := 6) (tw hw 113 rfl) d15_3 rfl ?_
  refine w_aloadN C (pc' := 7) d15_6 rfl rfl rfl ?_
  refine w_getfield C (pc' := 10) (tw hw 75 rfl) d15_7 F rfl ?_
  refine w_i2l C (pc' := 11) d15_10 rfl ?_
  refine w_lmul C (pc' := 12) d15_11 rfl ?_
  refine w_ladd C (pc' := 13) d15_12 rfl ?_
  exact w_lret C d15_13 (by decide) (by decide) ⟨rfl, rfl⟩
set_option maxRecDepth 65536 in
set_option maxHeartbeats 40000000 in
theorem c_14 (l : Launch) (Z : State) (x0 x1 : Int32) (n0 : Nat) (h : Heap) (hn : n0 ≤ h.size) :
    Ct l Z y14 jdk_29_method_65_code 2 (some .int) rm00 n0 [] #[.int x0, .int x1] h (fun v h' => v = some (.int (if x0 < x1 then x1 else x0)) ∧ h' = h) := by
  refine ct_of pn_14 hn (ef_14 x0 x1) fun X C => ?_
  refine w_iloadN C (pc' := 1) d14_0 rfl rfl ?_
  refine w_iloadN C (pc' := 2) d14_1 rfl rfl ?_
  refine w_icmp_lt C (pc' := 9) (pn := 5) d14_2 (by decide) (by decide) rfl (fun c2 => ?_) (fun c2 => ?_)
  · -- 2 taken -> 9
    refine w_iloadN C (pc' := 10) d14_9 rfl rfl ?_
    exact w_iret C d14_10 (by simp) rfl (by decide) (by decide) ⟨by first | rw [if_pos c2] | rw [if_neg c2], rfl⟩
  · -- 2 not -> 5
    refine w_iloadN C (pc' := 6) d14_5 rfl rfl ?_
    refine w_goto C (pc' := 10) d14_6 (by decide) (by decide) ?_
    exact w_iret C d14_10 (by simp) rfl (by decide) (by decide) ⟨by first | rw [if_pos c2] | rw [if_neg c2], rfl⟩
set_option maxRecDepth 65536 in
set_option maxHeartbeats 40000000 in
theorem c_23 (l : Launch) (Z : State) (x0 x1 : Int32) (n0 : Nat) (h : Heap) (hn : n0 ≤ h.size) :
    Ct l Z y23 jdk_29_method_69_code 2 (some .int) rm00 n0 [] #[.int x0, .int x1] h (fun v h' => v = some (.int (if x1 < x0 then x1 else x0)) ∧ h' = h) := by
  refine ct_of pn_23 hn (ef_23 x0 x1) fun X C => ?_
  refine w_iloadN C (pc' := 1) d23_0 rfl rfl ?_
  refine w_iloadN C (pc' := 2) d23_1 rfl rfl ?_
  refine w_icmp_gt C (pc' := 9) (pn := 5) d23_2 (by decide) (by decide) rfl (fun c2 => ?_) (fun c2 => ?_)
  · -- 2 taken -> 9
    refine w_iloadN C (pc' := 10) d23_9 rfl rfl ?_
    exact w_iret C d23_10 (by simp) rfl (by decide) (by decide) ⟨by first | rw [if_pos c2] | rw [if_neg c2], rfl⟩
  · -- 2 not -> 5
    refine w_iloadN C (pc' := 6) d23_5 rfl rfl ?_
    refine w_goto C (pc' := 10) d23_6 (by decide) (by decide) ?_
    exact w_iret C d23_10 (by simp) rfl (by decide) (by decide) ⟨by first | rw [if_pos c2] | rw [if_neg c2], rfl⟩
set_option maxRecDepth 65536 in
set_option maxHeartbeats 40000000 in
theorem c_13 (l : Launch) (Z : State) (x0 x1 : Int32) (n0 : Nat) (h : Heap) (hn : n0 ≤ h.size) (h0 : 0 ≤ x0.toInt ∧ x0.toInt ≤ 1000) (h1 : 0 ≤ x1.toInt ∧ x1.toInt ≤ 1000) :
    Ct l Z y13 jdk_29_method_24_code 3 (some .int) rm00 n0 [] #[.int x0, .int x1] h (fun v h' => v = some (.int (x0 + x1)) ∧ h' = h) := by
  refine ct_of pn_13 hn (ef_13 x0 x1) fun X C => ?_
  have a1 := c_iadd x0 x1
  have g1 := rng32 (x0 + x1)
  have e1 := (c_xorS x0 (x0 + x1)).2.2.2 (by omega) (by omega)
  have e2 := (c_andS (x0 ^^^ (x0 + x1)) (x1 ^^^ (x0 + x1))).2.1 e1
  refine w_iloadN C (pc' := 1) d13_0 rfl rfl ?_
  refine w_iloadN C (pc' := 2) d13_1 rfl rfl ?_
  refine w_iadd C (pc' := 3) d13_2 rfl ?_
  refine w_istoreN C (pc' := 4) (ls' := #[_, _, _]) d13_3 rfl rfl ?_
  refine w_iloadN C (pc' := 5) d13_4 rfl rfl ?_
  refine w_iloadN C (pc' := 6) d13_5 rfl rfl ?_
  refine w_ixor C (pc' := 7) d13_6 rfl ?_
  refine w_iloadN C (pc' := 8) d13_7 rfl rfl ?_
  refine w_iloadN C (pc' := 9) d13_8 rfl rfl ?_
  refine w_ixor C (pc' := 10) d13_9 rfl ?_
  refine w_iand C (pc' := 11) d13_10 rfl ?_
  refine w_jf_ge C (pc' := 24) (pn := 14) d13_11 (by decide) (by decide) rfl (fun c11 => ?_) (fun c11 => ?_)
  rotate_left
  · exact absurd c11 (by omega)
  refine w_iloadN C (pc' := 25) d13_24 rfl rfl ?_
  exact w_iret C d13_25 (by simp) rfl (by decide) (by decide) ⟨rfl, rfl⟩
set_option maxRecDepth 65536 in
set_option maxHeartbeats 40000000 in
theorem c_27 (l : Launch) (Z : State) (x0 x1 : Int32) (n0 : Nat) (h : Heap) (hn : n0 ≤ h.size) :
    Ct l Z y27 jdk_33_method_40_code 2 (some .int) rm00 n0 [] #[.int x0, .int x1] h (fun v h' => (∃ r : Int32, v = some (.int r) ∧ (r.toInt = 0 ↔ x0.toInt = x1.toInt)) ∧ h' = h) := by
  refine ct_of pn_27 hn (ef_27 x0 x1) fun X C => ?_
  have zm : (-1 : Int32).toInt = -1 := by decide
  have z0 : (0 : Int32).toInt = 0 := by decide
  have z1 : (1 : Int32).toInt = 1 := by decide
  refine w_iloadN C (pc' := 1) d27_0 rfl rfl ?_
  refine w_iloadN C (pc' := 2) d27_1 rfl rfl ?_
  refine w_jcmp_ge C (pc' := 9) (pn := 5) d27_2 (by decide) (by decide) rfl (fun c2 => ?_) (fun c2 => ?_)
  · -- 2 taken -> 9
    refine w_iloadN C (pc' := 10) d27_9 rfl rfl ?_
    refine w_iloadN C (pc' := 11) d27_10 rfl rfl ?_
    refine w_jcmp_ne C (pc' := 18) (pn := 14) d27_11 (by decide) (by decide) rfl (fun c11 => ?_) (fun c11 => ?_)
    · -- 11 taken -> 18
      refine w_iconst C (pc' := 19) (z := 1) d27_18 rfl rfl ?_
      exact w_iret C d27_19 (by simp) rfl (by decide) (by decide) ⟨⟨_, rfl, by omega⟩, rfl⟩
    · -- 11 not -> 14
      refine w_iconst C (pc' := 15) (z := 0) d27_14 rfl rfl ?_
      refine w_goto C (pc' := 19) d27_15 (by decide) (by decide) ?_
      exact w_iret C d27_19 (by simp) rfl (by decide) (by decide) ⟨⟨_, rfl, by omega⟩, rfl⟩
  · -- 2 not -> 5
    refine w_iconst C (pc' := 6) (z := (-1)) d27_5 rfl rfl ?_
    refine w_goto C (pc' := 19) d27_6 (by decide) (by decide) ?_
    exact w_iret C d27_19 (by simp) rfl (by decide) (by decide) ⟨⟨_, rfl, by omega⟩, rfl⟩
set_option maxRecDepth 65536 in
set_option maxHeartbeats 40000000 in
theorem c_36 (l : Launch) (Z : State) (x0 x1 : Int64) (n0 : Nat) (h : Heap) (hn : n0 ≤ h.size) :
    Ct l Z y36 jdk_35_method_42_code 4 (some .int) rm00 n0 [] #[.long x0, .long x1] h (fun v h' => (∃ r : Int32, v = some (.int r)) ∧ h' = h) := by
  refine ct_of pn_36 hn (ef_36 x0 x1) fun X C => ?_
  refine w_lloadN C (pc' := 1) d36_0 rfl rfl ?_
  refine w_lloadN C (pc' := 2) d36_1 rfl rfl ?_
  refine w_lc_ge C (pm := 3) (pc' := 10) (pn := 6) d36_2 rfl d36_3 (by decide) (by decide) rfl (fun c2 => ?_) (fun c2 => ?_)
  · -- 2 taken -> 10
    refine w_lloadN C (pc' := 11) d36_10 rfl rfl ?_
    refine w_lloadN C (pc' := 12) d36_11 rfl rfl ?_
    refine w_lc_ne C (pm := 13) (pc' := 20) (pn := 16) d36_12 rfl d36_13 (by decide) (by decide) rfl (fun c12 => ?_) (fun c12 => ?_)
    · -- 12 taken -> 20
      refine w_iconst C (pc' := 21) (z := 1) d36_20 rfl rfl ?_
      exact w_iret C d36_21 (by simp) rfl (by decide) (by decide) ⟨⟨_, rfl⟩, rfl⟩
    · -- 12 not -> 16
      refine w_iconst C (pc' := 17) (z := 0) d36_16 rfl rfl ?_
      refine w_goto C (pc' := 21) d36_17 (by decide) (by decide) ?_
      exact w_iret C d36_21 (by simp) rfl (by decide) (by decide) ⟨⟨_, rfl⟩, rfl⟩
  · -- 2 not -> 6
    refine w_iconst C (pc' := 7) (z := (-1)) d36_6 rfl rfl ?_
    refine w_goto C (pc' := 21) d36_7 (by decide) (by decide) ?_
    exact w_iret C d36_21 (by simp) rfl (by decide) (by decide) ⟨⟨_, rfl⟩, rfl⟩
abbrev rm35 : Room := { frames := 1, cells := 0, slots := 0, locals := 15 }
set_option maxRecDepth 65536 in
set_option maxHeartbeats 40000000 in
theorem c_35 (l : Launch) (Z : State) (a0 : Array Value) (hw : ∀ d ∈ tables_1, d.before a0 Z = true) (x0 x1 : Int64) (n0 : Nat) (h : Heap) (hn : n0 ≤ h.size) :
    Ct l Z y35 jdk_35_method_43_code 4 (some .int) rm35 n0 [] #[.long x0, .long x1] h (fun v h' => (∃ r : Int32, v = some (.int r)) ∧ h' = h) := by
  refine ct_of pn_35 hn (ef_35 x0 x1) fun X C => ?_
  refine w_lloadN C (pc' := 1) d35_0 rfl rfl ?_
  refine w_ldc2 C (pc' := 4) (tw hw 213 rfl) d35_1 rfl ?_
  refine w_ladd C (pc' := 5) d35_4 rfl ?_
  refine w_lloadN C (pc' := 6) d35_5 rfl rfl ?_
  refine w_ldc2 C (pc' := 9) (tw hw 213 rfl) d35_6 rfl ?_
  refine w_ladd C (pc' := 10) d35_9 rfl ?_
  refine Wp.size C fun sz10 => ?_
  refine w_static C (pc' := 13) (W := 0) (tw hw 214 rfl) (tw hw 215 rfl) (tw hw 211 rfl) (tw hw 216 rfl) (by decide) pd_22 d35_10 (c_36 X.l Z _ _ n0 _ sz10) rfl rfl rfl (by decide) rfl (by decide) (by decide) (by decide) rfl (fun v10 h10 q10 => ?_)
  obtain ⟨⟨r, rfl⟩, rfl⟩ := q10
  show Wp X _ _ _ 13 _ [_]
  exact w_iret C d35_13 (by simp) rfl (by decide) (by decide) ⟨⟨_, rfl⟩, rfl⟩
section Lays
variable {Z : State} {a0 : Array Value} {h : Heap} {a : Addr}
theorem layBY (hw : ∀ d ∈ tables_1, d.before a0 Z = true) : Lay Z a0 BYN [("array", "[B"), ("size", "I")] := by
  refine ⟨by decide, fun x hx => ?_⟩
  rcases List.mem_cons.mp hx with rfl | hx
  · exact ⟨Or.inl (tw hw 24 rfl), _, rfl⟩
  rcases List.mem_cons.mp hx with rfl | hx
  · exact ⟨Or.inl (tw hw 35 rfl), _, rfl⟩
  cases hx
theorem layRB (hw : ∀ d ∈ tables_1, d.before a0 Z = true) : Lay Z a0 RBN [("partitions", "I"), ("limit", "J"), ("bytes", BD), ("records", "I"), ("valueFrom", "[I"), ("valueTo", "[I"), ("nextOf", "[I"), ("keys", "I"), ("keyFrom", "[I"), ("keyLength", "[I"), ("hashOf", "[I"), ("partitionOf", "[I"), ("prefixOf", "[J"), ("firstOf", "[I"), ("lastOf", "[I"), ("slots", "[I"), ("order", "[I"), ("ends", "[I")] := by
  refine ⟨by decide, fun x hx => ?_⟩
  rcases List.mem_cons.mp hx with rfl | hx
  · exact ⟨Or.inr (tw hw 76 rfl), .int, rfl⟩
  rcases List.mem_cons.mp hx with rfl | hx
  · exact ⟨Or.inr (tw hw 78 rfl), .long, rfl⟩
  rcases List.mem_cons.mp hx with rfl | hx
  · exact ⟨Or.inl (tw hw 50 rfl), .object BYN, by decide +kernel⟩
  rcases List.mem_cons.mp hx with rfl | hx
  · exact ⟨Or.inl (tw hw 102 rfl), .int, rfl⟩
  rcases List.mem_cons.mp hx with rfl | hx
  · exact ⟨Or.inl (tw hw 53 rfl), .array .int, rfl⟩
  rcases List.mem_cons.mp hx with rfl | hx
  · exact ⟨Or.inl (tw hw 55 rfl), .array .int, rfl⟩
  rcases List.mem_cons.mp hx with rfl | hx
  · exact ⟨Or.inl (tw hw 57 rfl), .array .int, rfl⟩
  rcases List.mem_cons.mp hx with rfl | hx
  · exact ⟨Or.inl (tw hw 107 rfl), .int, rfl⟩
  rcases List.mem_cons.mp hx with rfl | hx
  · exact ⟨Or.inl (tw hw 59 rfl), .array .int, rfl⟩
  rcases List.mem_cons.mp hx with rfl | hx
  · exact ⟨Or.inl (tw hw 61 rfl), .array .int, rfl⟩
  rcases List.mem_cons.mp hx with rfl | hx
  · exact ⟨Or.inl (tw hw 63 rfl), .array .int, rfl⟩
  rcases List.mem_cons.mp hx with rfl | hx
  · exact ⟨Or.inl (tw hw 65 rfl), .array .int, rfl⟩
  rcases List.mem_cons.mp hx with rfl | hx
  · exact ⟨Or.inl (tw hw 68 rfl), .array .long, rfl⟩
  rcases List.mem_cons.mp hx with rfl | hx
  · exact ⟨Or.inl (tw hw 70 rfl), .array .int, rfl⟩
  rcases List.mem_cons.mp hx with rfl | hx
  · exact ⟨Or.inl (tw hw 72 rfl), .array .int, rfl⟩
  rcases List.mem_cons.mp hx with rfl | hx
  · exact ⟨Or.inl (tw hw 74 rfl), .array .int, rfl⟩
  rcases List.mem_cons.mp hx with rfl | hx
  · exact ⟨Or.inl (tw hw 131 rfl), .array .int, rfl⟩
  rcases List.mem_cons.mp hx with rfl | hx
  · exact ⟨Or.inl (tw hw 195 rfl), .array .int, rfl⟩
  cases hx
theorem nwI {z : Int32} {m : Nat} (e : z.toNatClampNeg = m) (A : Ars Z h a (newarray.typeOf .int) (List.replicate z.toNatClampNeg (defaultValue (newarray.typeOf .int)))) : C1 Z h a (ai (List.replicate m 0)) := by
  subst e; exact ⟨by rw [List.map_replicate]; exact A, fitI _⟩
theorem nwL {z : Int32} {m : Nat} (e : z.toNatClampNeg = m) (A : Ars Z h a (newarray.typeOf .long) (List.replicate z.toNatClampNeg (defaultValue (newarray.typeOf .long)))) : C1 Z h a (al (List.replicate m 0)) := by
  subst e; exact ⟨by rw [List.map_replicate]; exact A, fitL _⟩
theorem nwB {z : Int32} {m : Nat} (e : z.toNatClampNeg = m) (A : Ars Z h a (newarray.typeOf .byte) (List.replicate z.toNatClampNeg (defaultValue (newarray.typeOf .byte)))) : C1 Z h a (ab (List.replicate m 0)) := by
  subst e; exact ⟨by rw [List.map_replicate]; exact A, fitB _⟩
abbrev rbo (p : Int32) (lim : Int64) (by_ : Value) (r : Int32) (vf vt nx : Value) (k : Int32) (kf kl ho po pf fo lo sl ord en : Value) : CD :=
  .inl (RBN, [("partitions", "I", .int p), ("limit", "J", .long lim), ("bytes", BD, by_), ("records", "I", .int r), ("valueFrom", "[I", vf), ("valueTo", "[I", vt), ("nextOf", "[I", nx), ("keys", "I", .int k), ("keyFrom", "[I", kf), ("keyLength", "[I", kl), ("hashOf", "[I", ho), ("partitionOf", "[I", po), ("prefixOf", "[J", pf), ("firstOf", "[I", fo), ("lastOf", "[I", lo), ("slots", "[I", sl), ("order", "[I", ord), ("ends", "[I", en)])
theorem newBY (hw : ∀ d ∈ tables_1, d.before a0 Z = true) (E : Exa Z h a BYN) (D : ∀ {O nm d : String} {ty : FieldType}, Laid Z a0 BYN O nm d → parseFieldDescriptor d = some ty → Fld Z h a O nm d (defaultValue ty)) : C1 Z h a (bv .null 0) := by
  refine C1.new E (layBY hw) D fun f hf => ?_
  rcases List.mem_cons.mp hf with rfl | hf
  · exact ⟨.array .byte, rfl, rfl⟩
  rcases List.mem_cons.mp hf with rfl | hf
  · exact ⟨.int, rfl, rfl⟩
  cases hf
theorem newRB (hw : ∀ d ∈ tables_1, d.before a0 Z = true) (E : Exa Z h a RBN) (D : ∀ {O nm d : String} {ty : FieldType}, Laid Z a0 RBN O nm d → parseFieldDescriptor d = some ty → Fld Z h a O nm d (defaultValue ty)) : C1 Z h a (rbo 0 0 .null 0 .null .null .null 0 .null .null .null .null .null .null .null .null .null .null) := by
  refine C1.new E (layRB hw) D fun f hf => ?_
  iterate 18
    rcases List.mem_cons.mp hf with rfl | hf
    · first | exact ⟨.int, rfl, rfl⟩ | exact ⟨.long, rfl, rfl⟩ | exact ⟨.array .int, rfl, rfl⟩ | exact ⟨.array .long, rfl, rfl⟩ | exact ⟨.object BYN, by decide +kernel, rfl⟩
  cases hf
end Lays
theorem C1.fl {Z : State} {h : Heap} {a : Addr} {C f t : String} {v : Value} {fs : List (String × String × Value)} (q : C1 Z h a (.inl (C, fs))) (m : (f, t, v) ∈ fs) : Fld Z h a C f t v := q.2 (f, t, v) m
abbrev rm4 : Room := { frames := 1, cells := 0, slots := 0, locals := 12 }
set_option maxRecDepth 65536 in
set_option maxHeartbeats 40000000 in
theorem c_4 (l : Launch) (Z : State) (a0 : Array Value) (hw : ∀ d ∈ tables_1, d.before a0 Z = true) (o : Addr) (n0 : Nat) (h : Heap) (hn : n0 ≤ h.size) :
    Ct l Z y4 jdk_2038_method_1_code 1 none rm4 n0 [] #[.ref o] h (fun v h' => v = none ∧ h' = h) := by
  refine ct_of pn_4 hn (ef_4 o) fun X C => ?_
  refine w_aloadN C (pc' := 1) d4_0 rfl rfl rfl ?_
  refine w_initO C (pc' := 4) (W := 0) (tw hw 20 rfl) (tw hw 21 rfl) (tw hw 22 rfl) d4_1 rfl (by decide) rfl (by decide) rfl ?_
  exact w_vret C d4_4 (by decide) (by decide) ⟨rfl, rfl⟩
theorem Hs.start {Z : State} {n0 : Nat} {h : Heap} {a : Addr} {d : CD} (g : n0 ≤ a) (q : C1 Z h a d) : Hs Z n0 h h [(a, d)] := by
  refine ⟨by simp, fun x hx => ?_, fun b c hb hc => hc⟩
  cases List.mem_singleton.mp hx; exact ⟨g, q⟩
abbrev rm3 : Room := { frames := 2, cells := 1, slots := 256, locals := 40 }
set_option maxRecDepth 65536 in
set_option maxHeartbeats 40000000 in
theorem c_3 (l : Launch) (Z : State) (a0 : Array Value) (hw : ∀ d ∈ tables_1, d.before a0 Z = true) (o : Addr) (x : Int32) (m : Nat) (n0 : Nat) (h : Heap) (hn : n0 ≤ h.size) (g : n0 ≤ o) (q : C1 Z h o (bv .null 0)) (hx : ¬ x < 0) (hm : x.toNatClampNeg = m) (hm2 : m ≤ 256) :
    Ct l Z y3 prog_58_method_1_code 2 none rm3 n0 [] #[.ref o, .int x] h (fun v h' => v = none ∧ ∃ b, Keep h h' [o] ∧ h.size ≤ b ∧ b < h'.size ∧ C1 Z h' o (bo b 0) ∧ C1 Z h' b (ab (List.replicate m 0))) := by
  refine ct_of pn_3 hn (ef_3 o x) fun X C => ?_
  have H := Hs.start g q
  refine w_aloadN C (pc' := 1) d3_0 rfl rfl rfl ?_
  refine Wp.size C fun sz1 => ?_
  refine w_special C (pc' := 4) (W := 0) (tw hw 15 rfl) (tw hw 16 rfl) (tw hw 18 rfl) (tw hw 19 rfl) rfl (by decide) pd_3 d3_1 (c_4 X.l Z a0 hw o n0 _ sz1) rfl rfl rfl (by decide) rfl (by decide) (by decide) (by decide) rfl (fun v1 h1 q1 => ?_)
  obtain ⟨rfl, rfl⟩ := q1
  show Wp X _ _ _ 4 _ []
  refine w_aloadN C (pc' := 5) d3_4 rfl rfl rfl ?_
  refine w_iloadN C (pc' := 6) d3_5 rfl rfl ?_
  refine w_newarray C (pc' := 8) (cap := 256) (tw hw 8 rfl) d3_6 hx (by omega) (by decide) (by decide) (by decide) rfl (fun h6 a6 e6 g6 E6 A6 => ?_)
  replace H := H.cons E6 e6 g6 (nwB hm A6)
  refine w_putfield C (pc' := 11) (tw hw 23 rfl) (Or.inl (tw hw 24 rfl)) (tw hw 10 rfl) d3_8 (H.fl (by repeat (first | exact List.Mem.head _ | apply List.Mem.tail)) (by repeat (first | exact List.Mem.head _ | apply List.Mem.tail))) (H.ex (by repeat (first | exact List.Mem.head _ | apply List.Mem.tail))) (H.ge (by repeat (first | exact List.Mem.head _ | apply List.Mem.tail))) (t := (.array .byte)) (by decide) rfl rfl rfl (fun h8 W8 F8 E8 => ?_)
  replace H := H.putf (layBY hw) (by repeat (first | exact Rp.hd | apply Rp.tl)) (by repeat (first | exact Rp.hd | apply Rp.tl)) W8
  exact w_vret C d3_11 (by decide) (by decide) ⟨rfl, a6, ((Keep.refl _ _).ext E6).wr W8 (Or.inl (by simp)), Nat.le_of_eq e6.symm, (H.mm (by repeat (first | exact List.Mem.head _ | apply List.Mem.tail))).2.lt, (H.mm (by repeat (first | exact List.Mem.head _ | apply List.Mem.tail))).2, (H.mm (by repeat (first | exact List.Mem.head _ | apply List.Mem.tail))).2⟩
set_option maxRecDepth 65536 in
set_option maxHeartbeats 40000000 in
theorem c_7 (l : Launch) (Z : State) (a0 : Array Value) (hw : ∀ d ∈ tables_1, d.before a0 Z = true) (o b : Addr) (x y : Int32) (vs : List Value) (n0 : Nat) (h : Heap) (hn : n0 ≤ h.size) (F1 : Fld Z h o BYN "array" "[B" (.ref b)) (A : Ars Z h b .byte vs) (F2 : Fld Z h o BYN "size" "I" (.int y)) (hl : vs.length ≤ 256) (hx : 0 ≤ x.toInt) (hy : 0 ≤ y.toInt) (hs : y.toInt + x.toInt ≤ vs.length) :
    Ct l Z y7 prog_58_method_12_code 2 none rm00 n0 [] #[.ref o, .int x] h (fun v h' => v = none ∧ h' = h) := by
  refine ct_of pn_7 hn (ef_7 o x) fun X C => ?_
  have s1 := c_isub (vs.length.toInt32) y
  have g1 := rng32 (vs.length.toInt32 - y)
  have le : (vs.length.toInt32).toInt = vs.length := by rw [Nat.toInt32, Int32.toInt_ofNat_of_lt (by omega)]
  refine w_iloadN C (pc' := 1) d7_0 rfl rfl ?_
  refine w_aloadN C (pc' := 2) d7_1 rfl rfl rfl ?_
  refine w_getfield C (pc' := 5) (tw hw 23 rfl) d7_2 F1 rfl ?_
  refine w_alen C (pc' := 6) d7_5 A (z := vs.length.toInt32) rfl rfl ?_
  refine w_aloadN C (pc' := 7) d7_6 rfl rfl rfl ?_
  refine w_getfield C (pc' := 10) (tw hw 34 rfl) d7_7 F2 rfl ?_
  refine w_isub C (pc' := 11) d7_10 rfl ?_
  refine w_jcmp_le C (pc' := 36) (pn := 14) d7_11 (by decide) (by decide) rfl (fun c11 => ?_) (fun c11 => ?_)
  rotate_left
  · exact absurd c11 (by omega)
  exact w_vret C d7_36 (by decide) (by decide) ⟨rfl, rfl⟩
def cpy (T : List Int8) (x : Nat) (S : List Int8) (m : Nat) : List Int8 := T.take x ++ S.take m ++ T.drop (x + m)
theorem cpy_len {T S : List Int8} {x m : Nat} (h1 : x + m ≤ T.length) (h2 : m ≤ S.length) : (cpy T x S m).length = T.length := by
  simp only [cpy, List.length_append, List.length_take, List.length_drop]; omega
theorem cpy_map {T S : List Int8} {x m : Nat} : (T.map vb).take x ++ ((S.map vb).drop 0).take m ++ (T.map vb).drop (x + m) = (cpy T x S m).map vb := by
  simp [cpy, List.map_take, List.map_drop]
abbrev rm6 : Room := { frames := 1, cells := 0, slots := 0, locals := 40 }
set_option maxRecDepth 65536 in
set_option maxHeartbeats 40000000 in
theorem c_6 (l : Launch) (Z : State) (a0 : Array Value) (hw : ∀ d ∈ tables_1, d.before a0 Z = true) (o b s : Addr) (x n : Int32) (xn m : Nat) (T S : List Int8) (n0 : Nat) (h : Heap) (hn : n0 ≤ h.size) (go : n0 ≤ o) (gb : n0 ≤ b) (hob : o ≠ b) (q1 : C1 Z h o (bo b x)) (q2 : C1 Z h b (ab T)) (q3 : C1 Z h s (ab S)) (hT : T.length ≤ 256) (hx : x.toInt = xn) (hm : n.toInt = m) (h1 : xn + m ≤ T.length) (h2 : m ≤ S.length) :
    Ct l Z y6 prog_58_method_8_code 4 none rm6 n0 [] #[.ref o, .ref s, .int 0, .int n] h (fun v h' => v = none ∧ Keep h h' [o, b] ∧ C1 Z h' o (bo b (x + n)) ∧ C1 Z h' b (ab (cpy T xn S m))) := by
  refine ct_of pn_6 hn (ef_6 o s 0 n) fun X C => ?_
  have cx := clamp32 (x := x) (by omega)
  have cn := clamp32 (x := n) (by omega)
  have nb : o ∉ [b] := by simpa using hob
  refine w_aloadN C (pc' := 1) d6_0 rfl rfl rfl ?_
  refine w_iloadN C (pc' := 2) d6_1 rfl rfl ?_
  refine Wp.size C fun sz2 => ?_
  refine w_private C (pc' := 5) (W := 0) (tw hw 30 rfl) (tw hw 31 rfl) (tw hw 32 rfl) (tw hw 10 rfl) (tw hw 11 rfl) (tw hw 33 rfl) (by decide) pd_2 d6_2 q1.1 (c_7 X.l Z a0 hw o b n x (T.map vb) n0 _ sz2 (q1.fl (by repeat (first | exact List.Mem.head _ | apply List.Mem.tail))) q2.1 (q1.fl (by repeat (first | exact List.Mem.head _ | apply List.Mem.tail))) (by simpa using hT) (by omega) (by omega) (by rw [List.length_map]; omega)) rfl rfl rfl (by decide) rfl (by decide) (by decide) (by decide) rfl (fun v2 h2 q2 => ?_)
  obtain ⟨rfl, rfl⟩ := q2
  show Wp X _ _ _ 5 _ []
  refine w_aloadN C (pc' := 6) d6_5 rfl rfl rfl ?_
  refine w_iloadN C (pc' := 7) d6_6 rfl rfl ?_
  refine w_aloadN C (pc' := 8) d6_7 rfl rfl rfl ?_
  refine w_getfield C (pc' := 11) (tw hw 23 rfl) d6_8 (q1.fl (by repeat (first | exact List.Mem.head _ | apply List.Mem.tail))) rfl ?_
  refine w_aloadN C (pc' := 12) d6_11 rfl rfl rfl ?_
  refine w_getfield C (pc' := 15) (tw hw 34 rfl) d6_12 (q1.fl (by repeat (first | exact List.Mem.head _ | apply List.Mem.tail))) rfl ?_
  refine w_iloadN C (pc' := 16) d6_15 rfl rfl ?_
  refine w_arraycopy C (pc' := 19) (W := 0) (tw hw 36 rfl) (tw hw 39 rfl) (tw hw 37 rfl) (tw hw 38 rfl) d6_16 q3.1 q3.2 q2.1 q2.2 rfl (by decide) (nlt32 (by omega)) (nlt32 (by omega)) (s1 := 0) (d1 := xn) (m1 := m) rfl (by omega) (by omega) (by rw [List.length_map]; omega) (by rw [List.length_map]; omega) gb rfl (by decide) rfl (by decide) rfl (fun h16 K16 A16 => ?_)
  refine w_aloadN C (pc' := 20) d6_19 rfl rfl rfl ?_
  refine w_dup C (pc' := 21) d6_20 rfl rfl ?_
  refine w_getfield C (pc' := 24) (tw hw 34 rfl) d6_21 ((q1.keep K16 nb).fl (by repeat (first | exact List.Mem.head _ | apply List.Mem.tail))) rfl ?_
  refine w_iloadN C (pc' := 25) d6_24 rfl rfl ?_
  refine w_iadd C (pc' := 26) d6_25 rfl ?_
  refine w_putfield C (pc' := 29) (tw hw 34 rfl) (Or.inl (tw hw 35 rfl)) (tw hw 10 rfl) d6_26 ((q1.keep K16 nb).fl (by repeat (first | exact List.Mem.head _ | apply List.Mem.tail))) (q1.keep K16 nb).1 go (t := .int) (by decide) rfl rfl rfl (fun h26 W26 F26 E26 => ?_)
  exact w_vret C d6_29 (by decide) (by decide) ⟨rfl, ((Keep.refl _ _).trans K16 (fun x hx => Or.inl (by cases List.mem_singleton.mp hx; simp))).wr W26 (Or.inl (by simp)), (q1.keep K16 nb).put (j := 1) (layBY hw) rfl W26, (show C1 Z h16 b (ab (cpy T xn S m)) from ⟨by rw [cpy_map] at A16; exact A16, fitB _⟩).other W26 hob.symm⟩
def byt (k : Int64) (i : Nat) : Int8 := Int8.ofBitVec ((k.toBitVec >>> (8 * i)).setWidth 8)
theorem byt_sh (k : Int64) (s : Int32) (i : Nat) (hs : s.toBitVec.toNat % 64 = 8 * i) : (((k.toUInt64 >>> (s &&& 0x3f).toInt64.toUInt64).toInt64).toInt32.toInt8.toInt32).toInt8 = byt k i := by
  rw [Int8.toInt8_toInt32]
  apply Int8.toBitVec_inj.mp
  show (((k.toUInt64 >>> (s &&& 0x3f).toInt64.toUInt64).toInt64).toBitVec.signExtend 32).signExtend 8 = _
  rw [b_lushr k s (8 * i) hs, BitVec.signExtend_eq_setWidth_of_le _ (by omega), BitVec.signExtend_eq_setWidth_of_le _ (by omega), BitVec.setWidth_setWidth_of_le _ (by omega)]
  rfl
theorem byt_0 (k : Int64) : (k.toInt32.toInt8.toInt32).toInt8 = byt k 0 := by
  rw [Int8.toInt8_toInt32]
  apply Int8.toBitVec_inj.mp
  show (k.toBitVec.signExtend 32).signExtend 8 = _
  rw [BitVec.signExtend_eq_setWidth_of_le _ (by omega), BitVec.signExtend_eq_setWidth_of_le _ (by omega), BitVec.setWidth_setWidth_of_le _ (by omega)]
  simp [byt]
abbrev rm2 : Room := { frames := 0, cells := 1, slots := 8, locals := 0 }
theorem Hs.nil {Z : State} {n0 : Nat} {h : Heap} : Hs Z n0 h h [] := by refine ⟨by simp, by simp, fun b c hb hc => hc⟩
set_option maxRecDepth 65536 in
set_option maxHeartbeats 40000000 in
theorem c_2 (l : Launch) (Z : State) (a0 : Array Value) (hw : ∀ d ∈ tables_1, d.before a0 Z = true) (x : Int64) (n0 : Nat) (h : Heap) (hn : n0 ≤ h.size) :
    Ct l Z y2 method_2_code 3 (some (.array .byte)) rm2 n0 [] #[.long x] h (fun v h' => ∃ b, v = some (.ref b) ∧ Ext h h' ∧ h.size ≤ b ∧ b < h'.size ∧ C1 Z h' b (ab [byt x 0, byt x 1, byt x 2, byt x 3, byt x 4, byt x 5, byt x 6, byt x 7])) := by
  have be0 := byt_0 x
  have be1 := byt_sh x 8 1 (by decide)
  have be2 := byt_sh x 16 2 (by decide)
  have be3 := byt_sh x 24 3 (by decide)
  have be4 := byt_sh x 32 4 (by decide)
  have be5 := byt_sh x 40 5 (by decide)
  have be6 := byt_sh x 48 6 (by decide)
  have be7 := byt_sh x 56 7 (by decide)
  rw [← be0, ← be1, ← be2, ← be3, ← be4, ← be5, ← be6, ← be7]
  refine ct_of pn_2 hn (ef_2 x) fun X C => ?_
  have H : Hs Z n0 h h [] := Hs.nil
  refine w_bipush C (pc' := 2) (z := 8) d2_0 rfl rfl ?_
  refine w_newarray C (pc' := 4) (cap := 8) (tw hw 8 rfl) d2_2 (by decide) (by decide) (by decide) (by decide) (by decide) rfl (fun h2 a2 e2 g2 E2 A2 => ?_)
  replace H := H.cons E2 e2 g2 (nwB (m := 8) rfl A2)
  refine w_astoreN C (pc' := 5) (ls' := #[_, _, _]) d2_4 rfl rfl rfl ?_
  refine w_aloadN C (pc' := 6) d2_5 rfl rfl rfl ?_
  refine w_iconst C (pc' := 7) (z := 0) d2_6 rfl rfl ?_
  refine w_lloadN C (pc' := 8) d2_7 rfl rfl ?_
  refine w_l2i C (pc' := 9) d2_8 rfl ?_
  refine w_i2b C (pc' := 10) d2_9 rfl ?_
  refine w_bastore C (pc' := 11) d2_10 (H.ar (by repeat (first | exact List.Mem.head _ | apply List.Mem.tail))) (H.ge (by repeat (first | exact List.Mem.head _ | apply List.Mem.tail))) (by decide) rfl (by first | decide | (simp only [List.length_map, List.length_set, List.length_replicate]; decide)) rfl (fun h10 W10 A10 => ?_)
  replace H := H.putb (by repeat (first | exact Rp.hd | apply Rp.tl)) W10
  refine w_aloadN C (pc' := 12) d2_11 rfl rfl rfl ?_
  refine w_iconst C (pc' := 13) (z := 1) d2_12 rfl rfl ?_
  refine w_lloadN C (pc' := 14) d2_13 rfl rfl ?_
  refine w_bipush C (pc' := 16) (z := 8) d2_14 rfl rfl ?_
  refine w_lushr C (pc' := 17) d2_16 rfl ?_
  refine w_l2i C (pc' := 18) d2_17 rfl ?_
  refine w_i2b C (pc' := 19) d2_18 rfl ?_
  refine w_bastore C (pc' := 20) d2_19 (H.ar (by repeat (first | exact List.Mem.head _ | apply List.Mem.tail))) (H.ge (by repeat (first | exact List.Mem.head _ | apply List.Mem.tail))) (by decide) rfl (by first | decide | (simp only [List.length_map, List.length_set, List.length_replicate]; decide)) rfl (fun h19 W19 A19 => ?_)
  replace H := H.putb (by repeat (first | exact Rp.hd | apply Rp.tl)) W19
  refine w_aloadN C (pc' := 21) d2_20 rfl rfl rfl ?_
  refine w_iconst C (pc' := 22) (z := 2) d2_21 rfl rfl ?_
  refine w_lloadN C (pc' := 23) d2_22 rfl rfl ?_
  refine w_bipush C (pc' := 25) (z := 16) d2_23 rfl rfl ?_
  refine w_lushr C (pc' := 26) d2_25 rfl ?_
  refine w_l2i C (pc' := 27) d2_26 rfl ?_
  refine w_i2b C (pc' := 28) d2_27 rfl ?_
  refine w_bastore C (pc' := 29) d2_28 (H.ar (by repeat (first | exact List.Mem.head _ | apply List.Mem.tail))) (H.ge (by repeat (first | exact List.Mem.head _ | apply List.Mem.tail))) (by decide) rfl (by first | decide | (simp only [List.length_map, List.length_set, List.length_replicate]; decide)) rfl (fun h28 W28 A28 => ?_)
  replace H := H.putb (by repeat (first | exact Rp.hd | apply Rp.tl)) W28
  refine w_aloadN C (pc' := 30) d2_29 rfl rfl rfl ?_
  refine w_iconst C (pc' := 31) (z := 3) d2_30 rfl rfl ?_
  refine w_lloadN C (pc' := 32) d2_31 rfl rfl ?_
  refine w_bipush C (pc' := 34) (z := 24) d2_32 rfl rfl ?_
  refine w_lushr C (pc' := 35) d2_34 rfl ?_
  refine w_l2i C (pc' := 36) d2_35 rfl ?_
  refine w_i2b C (pc' := 37) d2_36 rfl ?_
  refine w_bastore C (pc' := 38) d2_37 (H.ar (by repeat (first | exact List.Mem.head _ | apply List.Mem.tail))) (H.ge (by repeat (first | exact List.Mem.head _ | apply List.Mem.tail))) (by decide) rfl (by first | decide | (simp only [List.length_map, List.length_set, List.length_replicate]; decide)) rfl (fun h37 W37 A37 => ?_)
  replace H := H.putb (by repeat (first | exact Rp.hd | apply Rp.tl)) W37
  refine w_aloadN C (pc' := 39) d2_38 rfl rfl rfl ?_
  refine w_iconst C (pc' := 40) (z := 4) d2_39 rfl rfl ?_
  refine w_lloadN C (pc' := 41) d2_40 rfl rfl ?_
  refine w_bipush C (pc' := 43) (z := 32) d2_41 rfl rfl ?_
  refine w_lushr C (pc' := 44) d2_43 rfl ?_
  refine w_l2i C (pc' := 45) d2_44 rfl ?_
  refine w_i2b C (pc' := 46) d2_45 rfl ?_
  refine w_bastore C (pc' := 47) d2_46 (H.ar (by repeat (first | exact List.Mem.head _ | apply List.Mem.tail))) (H.ge (by repeat (first | exact List.Mem.head _ | apply List.Mem.tail))) (by decide) rfl (by first | decide | (simp only [List.length_map, List.length_set, List.length_replicate]; decide)) rfl (fun h46 W46 A46 => ?_)
  replace H := H.putb (by repeat (first | exact Rp.hd | apply Rp.tl)) W46
  refine w_aloadN C (pc' := 48) d2_47 rfl rfl rfl ?_
  refine w_iconst C (pc' := 49) (z := 5) d2_48 rfl rfl ?_
  refine w_lloadN C (pc' := 50) d2_49 rfl rfl ?_
  refine w_bipush C (pc' := 52) (z := 40) d2_50 rfl rfl ?_
  refine w_lushr C (pc' := 53) d2_52 rfl ?_
  refine w_l2i C (pc' := 54) d2_53 rfl ?_
  refine w_i2b C (pc' := 55) d2_54 rfl ?_
  refine w_bastore C (pc' := 56) d2_55 (H.ar (by repeat (first | exact List.Mem.head _ | apply List.Mem.tail))) (H.ge (by repeat (first | exact List.Mem.head _ | apply List.Mem.tail))) (by decide) rfl (by first | decide | (simp only [List.length_map, List.length_set, List.length_replicate]; decide)) rfl (fun h55 W55 A55 => ?_)
  replace H := H.putb (by repeat (first | exact Rp.hd | apply Rp.tl)) W55
  refine w_aloadN C (pc' := 57) d2_56 rfl rfl rfl ?_
  refine w_bipush C (pc' := 59) (z := 6) d2_57 rfl rfl ?_
  refine w_lloadN C (pc' := 60) d2_59 rfl rfl ?_
  refine w_bipush C (pc' := 62) (z := 48) d2_60 rfl rfl ?_
  refine w_lushr C (pc' := 63) d2_62 rfl ?_
  refine w_l2i C (pc' := 64) d2_63 rfl ?_
  refine w_i2b C (pc' := 65) d2_64 rfl ?_
  refine w_bastore C (pc' := 66) d2_65 (H.ar (by repeat (first | exact List.Mem.head _ | apply List.Mem.tail))) (H.ge (by repeat (first | exact List.Mem.head _ | apply List.Mem.tail))) (by decide) rfl (by first | decide | (simp only [List.length_map, List.length_set, List.length_replicate]; decide)) rfl (fun h65 W65 A65 => ?_)
  replace H := H.putb (by repeat (first | exact Rp.hd | apply Rp.tl)) W65
  refine w_aloadN C (pc' := 67) d2_66 rfl rfl rfl ?_
  refine w_bipush C (pc' := 69) (z := 7) d2_67 rfl rfl ?_
  refine w_lloadN C (pc' := 70) d2_69 rfl rfl ?_
  refine w_bipush C (pc' := 72) (z := 56) d2_70 rfl rfl ?_
  refine w_lushr C (pc' := 73) d2_72 rfl ?_
  refine w_l2i C (pc' := 74) d2_73 rfl ?_
  refine w_i2b C (pc' := 75) d2_74 rfl ?_
  refine w_bastore C (pc' := 76) d2_75 (H.ar (by repeat (first | exact List.Mem.head _ | apply List.Mem.tail))) (H.ge (by repeat (first | exact List.Mem.head _ | apply List.Mem.tail))) (by decide) rfl (by first | decide | (simp only [List.length_map, List.length_set, List.length_replicate]; decide)) rfl (fun h75 W75 A75 => ?_)
  replace H := H.putb (by repeat (first | exact Rp.hd | apply Rp.tl)) W75
  refine w_aloadN C (pc' := 77) d2_76 rfl rfl rfl ?_
  exact w_aret C d2_77 rfl rfl (by decide) (by decide) ⟨a2, rfl, Keep.toExt (ws := [a2]) (((((((((((Keep.refl _ _).ext E2).wr W10 (Or.inr (Nat.le_of_eq e2.symm))).wr W19 (Or.inr (Nat.le_of_eq e2.symm))).wr W28 (Or.inr (Nat.le_of_eq e2.symm))).wr W37 (Or.inr (Nat.le_of_eq e2.symm))).wr W46 (Or.inr (Nat.le_of_eq e2.symm))).wr W55 (Or.inr (Nat.le_of_eq e2.symm))).wr W65 (Or.inr (Nat.le_of_eq e2.symm))).wr W75 (Or.inr (Nat.le_of_eq e2.symm)))) (fun w hw => by cases List.mem_singleton.mp hw; exact Nat.le_of_eq e2.symm), Nat.le_of_eq e2.symm, (H.mm (by repeat (first | exact List.Mem.head _ | apply List.Mem.tail))).2.lt, (H.mm (by repeat (first | exact List.Mem.head _ | apply List.Mem.tail))).2⟩
def msk (x : Int32) : Int64 := if x = 8 then -1 else (1 <<< ((8 * x) &&& 0x3f).toInt64) - 1
set_option maxRecDepth 65536 in
set_option maxHeartbeats 40000000 in
theorem c_1 (l : Launch) (Z : State) (a0 : Array Value) (hw : ∀ d ∈ tables_1, d.before a0 Z = true) (x : Int32) (n0 : Nat) (h : Heap) (hn : n0 ≤ h.size) :
    Ct l Z y1 method_3_code 1 (some .long) rm00 n0 [] #[.int x] h (fun v h' => v = some (.long (msk x)) ∧ h' = h) := by
  refine ct_of pn_1 hn (ef_1 x) fun X C => ?_
  refine w_iloadN C (pc' := 1) d1_0 rfl rfl ?_
  refine w_bipush C (pc' := 3) (z := 8) d1_1 rfl rfl ?_
  refine w_icmp_ne C (pc' := 12) (pn := 6) d1_3 (by decide) (by decide) rfl (fun c3 => ?_) (fun c3 => ?_)
  · -- 3 taken -> 12
    refine w_lconst C (pc' := 13) (z := 1) d1_12 rfl rfl ?_
    refine w_bipush C (pc' := 15) (z := 8) d1_13 rfl rfl ?_
    refine w_iloadN C (pc' := 16) d1_15 rfl rfl ?_
    refine w_imul C (pc' := 17) d1_16 rfl ?_
    refine w_lshl C (pc' := 18) d1_17 rfl ?_
    refine w_lconst C (pc' := 19) (z := 1) d1_18 rfl rfl ?_
    refine w_lsub C (pc' := 20) d1_19 rfl ?_
    exact w_lret C d1_20 (by decide) (by decide) ⟨by first | rw [msk, if_neg c3] | rw [msk, if_pos c3], rfl⟩
  · -- 3 not -> 6
    refine w_ldc2 C (pc' := 9) (tw hw 196 rfl) d1_6 rfl ?_
    refine w_goto C (pc' := 20) d1_9 (by decide) (by decide) ?_
    exact w_lret C d1_20 (by decide) (by decide) ⟨by first | rw [msk, if_neg c3] | rw [msk, if_pos c3], rfl⟩
abbrev rm22 : Room := { frames := 1, cells := 1, slots := 16, locals := 40 }
set_option maxRecDepth 65536 in
set_option maxHeartbeats 40000000 in
theorem c_22 (l : Launch) (Z : State) (a0 : Array Value) (hw : ∀ d ∈ tables_1, d.before a0 Z = true) (a : Addr) (x : Int32) (T : List Int32) (m : Nat) (n0 : Nat) (h : Heap) (hn : n0 ≤ h.size) (A : C1 Z h a (ai T)) (hT : T.length = 16) (hx : x.toInt = m) (hm : m < 16) :
    Ct l Z y22 jdk_65_method_123_code 3 (some (.array .int)) rm22 n0 [] #[.ref a, .int x] h (fun v h' => ∃ b T', v = some (.ref b) ∧ Ext h h' ∧ h.size = b ∧ T'.length = m ∧ C1 Z h' b (ai T')) := by
  refine ct_of pn_22 hn (ef_22 a x) fun X C => ?_
  have cx := clamp32 (x := x) (by omega)
  have z16 : (16 : Int32).toInt = 16 := by decide
  have lt : ¬ (16 : Int32) < x := by rw [Int32.lt_iff_toInt_lt]; omega
  have lx : (if x < 16 then x else 16) = x := if_pos (by rw [Int32.lt_iff_toInt_lt]; omega)
  refine w_iloadN C (pc' := 1) d22_0 rfl rfl ?_
  refine w_aloadN C (pc' := 2) d22_1 rfl rfl rfl ?_
  refine w_alen C (pc' := 3) d22_2 A.1 (z := 16) (by rw [List.length_map, hT]; rfl) rfl ?_
  refine w_jcmp_ne C (pc' := 14) (pn := 6) d22_3 (by decide) (by decide) rfl (fun c3 => ?_) (fun c3 => ?_)
  rotate_left
  · exact absurd c3 (by omega)
  refine w_iloadN C (pc' := 15) d22_14 rfl rfl ?_
  refine w_newarray C (pc' := 17) (cap := 16) (tw hw 51 rfl) d22_15 (nlt32 (by omega)) (by omega) (by decide) (by decide) (by decide) rfl (fun h15 a15 e15 g15 E15 A15 => ?_)
  refine w_astoreN C (pc' := 18) (ls' := #[_, _, _]) d22_17 rfl rfl rfl ?_
  refine w_aloadN C (pc' := 19) d22_18 rfl rfl rfl ?_
  refine w_iconst C (pc' := 20) (z := 0) d22_19 rfl rfl ?_
  refine w_aloadN C (pc' := 21) d22_20 rfl rfl rfl ?_
  refine w_iconst C (pc' := 22) (z := 0) d22_21 rfl rfl ?_
  refine w_aloadN C (pc' := 23) d22_22 rfl rfl rfl ?_
  refine w_alen C (pc' := 24) d22_23 (A.ext E15).1 (z := 16) (by rw [List.length_map, hT]; rfl) rfl ?_
  refine w_iloadN C (pc' := 25) d22_24 rfl rfl ?_
  refine Wp.size C fun sz25 => ?_
  refine w_static C (pc' := 28) (W := 4) (tw hw 154 rfl) (tw hw 155 rfl) (tw hw 99 rfl) (tw hw 156 rfl) (by decide) pd_10 d22_25 (c_23 X.l Z _ _ n0 _ sz25) rfl rfl rfl (by decide) rfl (by decide) (by decide) (by decide) rfl (fun v25 h25 q25 => ?_)
  obtain ⟨rfl, rfl⟩ := q25
  show Wp X _ _ _ 28 _ [_, _, _, _, _]
  rw [lx]
  refine w_arraycopy C (pc' := 31) (W := 0) (tw hw 157 rfl) (tw hw 39 rfl) (tw hw 37 rfl) (tw hw 38 rfl) d22_28 (A.ext E15).1 (A.ext E15).2 A15 (by intro v hv; rw [List.eq_of_mem_replicate hv]; rfl) rfl (by decide) (by decide) (nlt32 (by omega)) (s1 := 0) (d1 := 0) (m1 := m) rfl rfl (by omega) (by rw [List.length_map]; omega) (by rw [List.length_replicate]; omega) g15 rfl (by decide) rfl (by decide) rfl (fun h28 K28 A28 => ?_)
  refine w_aloadN C (pc' := 32) d22_31 rfl rfl rfl ?_
  exact w_aret C d22_32 rfl rfl (by decide) (by decide) ⟨a15, T.take m, rfl, Keep.toExt (((Keep.refl _ [a15]).ext E15).trans K28 (fun x hx => Or.inl hx)) (fun w hw => by cases List.mem_singleton.mp hw; exact Nat.le_of_eq e15.symm), e15.symm, by rw [List.length_take]; omega, by rw [show x.toNatClampNeg = m by omega] at A28; simpa [List.map_take] using A28, fitI _⟩
set_option maxRecDepth 65536 in
set_option maxHeartbeats 40000000 in
theorem c_24 (l : Launch) (Z : State) (a0 : Array Value) (hw : ∀ d ∈ tables_1, d.before a0 Z = true) (a : Addr) (x : Int32) (T : List Int64) (m : Nat) (n0 : Nat) (h : Heap) (hn : n0 ≤ h.size) (A : C1 Z h a (al T)) (hT : T.length = 16) (hx : x.toInt = m) (hm : m < 16) :
    Ct l Z y24 jdk_65_method_124_code 3 (some (.array .long)) rm22 n0 [] #[.ref a, .int x] h (fun v h' => ∃ b T', v = some (.ref b) ∧ Ext h h' ∧ h.size = b ∧ T'.length = m ∧ C1 Z h' b (al T')) := by
  refine ct_of pn_24 hn (ef_24 a x) fun X C => ?_
  have cx := clamp32 (x := x) (by omega)
  have z16 : (16 : Int32).toInt = 16 := by decide
  have lt : ¬ (16 : Int32) < x := by rw [Int32.lt_iff_toInt_lt]; omega
  have lx : (if x < 16 then x else 16) = x := if_pos (by rw [Int32.lt_iff_toInt_lt]; omega)
  refine w_iloadN C (pc' := 1) d24_0 rfl rfl ?_
  refine w_aloadN C (pc' := 2) d24_1 rfl rfl rfl ?_
  refine w_alen C (pc' := 3) d24_2 A.1 (z := 16) (by rw [List.length_map, hT]; rfl) rfl ?_
  refine w_jcmp_ne C (pc' := 14) (pn := 6) d24_3 (by decide) (by decide) rfl (fun c3 => ?_) (fun c3 => ?_)
  rotate_left
  · exact absurd c3 (by omega)
  refine w_iloadN C (pc' := 15) d24_14 rfl rfl ?_
  refine w_newarray C (pc' := 17) (cap := 16) (tw hw 66 rfl) d24_15 (nlt32 (by omega)) (by omega) (by decide) (by decide) (by decide) rfl (fun h15 a15 e15 g15 E15 A15 => ?_)
  refine w_astoreN C (pc' := 18) (ls' := #[_, _, _]) d24_17 rfl rfl rfl ?_
  refine w_aloadN C (pc' := 19) d24_18 rfl rfl rfl ?_
  refine w_iconst C (pc' := 20) (z := 0) d24_19 rfl rfl ?_
  refine w_aloadN C (pc' := 21) d24_20 rfl rfl rfl ?_
  refine w_iconst C (pc' := 22) (z := 0) d24_21 rfl rfl ?_
  refine w_aloadN C (pc' := 23) d24_22 rfl rfl rfl ?_
  refine w_alen C (pc' := 24) d24_23 (A.ext E15).1 (z := 16) (by rw [List.length_map, hT]; rfl) rfl ?_
  refine w_iloadN C (pc' := 25) d24_24 rfl rfl ?_
  refine Wp.size C fun sz25 => ?_
  refine w_static C (pc' := 28) (W := 4) (tw hw 154 rfl) (tw hw 155 rfl) (tw hw 99 rfl) (tw hw 156 rfl) (by decide) pd_10 d24_25 (c_23 X.l Z _ _ n0 _ sz25) rfl rfl rfl (by decide) rfl (by decide) (by decide) (by decide) rfl (fun v25 h25 q25 => ?_)
  obtain ⟨rfl, rfl⟩ := q25
  show Wp X _ _ _ 28 _ [_, _, _, _, _]
  rw [lx]
  refine w_arraycopy C (pc' := 31) (W := 0) (tw hw 157 rfl) (tw hw 39 rfl) (tw hw 37 rfl) (tw hw 38 rfl) d24_28 (A.ext E15).1 (A.ext E15).2 A15 (by intro v hv; rw [List.eq_of_mem_replicate hv]; rfl) rfl (by decide) (by decide) (nlt32 (by omega)) (s1 := 0) (d1 := 0) (m1 := m) rfl rfl (by omega) (by rw [List.length_map]; omega) (by rw [List.length_replicate]; omega) g15 rfl (by decide) rfl (by decide) rfl (fun h28 K28 A28 => ?_)
  refine w_aloadN C (pc' := 32) d24_31 rfl rfl rfl ?_
  exact w_aret C d24_32 rfl rfl (by decide) (by decide) ⟨a15, T.take m, rfl, Keep.toExt (((Keep.refl _ [a15]).ext E15).trans K28 (fun x hx => Or.inl hx)) (fun w hw => by cases List.mem_singleton.mp hw; exact Nat.le_of_eq e15.symm), e15.symm, by rw [List.length_take]; omega, by rw [show x.toNatClampNeg = m by omega] at A28; simpa [List.map_take] using A28, fitL _⟩
theorem fill_len {T : List Int32} {i : Nat} {x : Int32} : (T.set i x).length = T.length := List.length_set
set_option maxRecDepth 65536 in
set_option maxHeartbeats 40000000 in
theorem c_29 (l : Launch) (Z : State) (a0 : Array Value) (hw : ∀ d ∈ tables_1, d.before a0 Z = true) (a : Addr) (x : Int32) (T : List Int32) (n0 : Nat) (h : Heap) (hn : n0 ≤ h.size) (ga : n0 ≤ a) (A : C1 Z h a (ai T)) (hT : T.length = 32) :
    Ct l Z y29 jdk_65_method_103_code 4 none rm00 n0 [] #[.ref a, .int x] h (fun v h' => v = none ∧ ∃ T', Keep h h' [a] ∧ T'.length = 32 ∧ C1 Z h' a (ai T')) := by
  refine ct_of pn_29 hn (ef_29 a x) fun X C => ?_
  have z32 : (32 : Int32).toInt = 32 := by decide
  have z1 : (1 : Int32).toInt = 1 := by decide
  have J5 : ∀ (m i : Nat) (ii : Int32) (h' : Heap) (T' : List Int32), i + m = 32 → ii.toInt = i → T'.length = 32 → Keep h h' [a] → C1 Z h' a (ai T') →
      Wp X 0 0 h' 5 #[.val (.ref a), .val (.int x), .val (.int ii), .val (.int 32)] [] := by
    intro m
    induction m with
    | zero =>
      intro i ii h' T' hm hii hT' K' A'
      refine w_iloadN C (pc' := 6) d29_5 rfl rfl ?_
      refine w_iloadN C (pc' := 7) d29_6 rfl rfl ?_
      refine w_jcmp_ge C (pc' := 20) (pn := 10) d29_7 (by decide) (by decide) rfl (fun c7 => ?_) (fun c7 => ?_)
      rotate_left
      · exact absurd c7 (by omega)
      exact w_vret C d29_20 (by decide) (by decide) ⟨rfl, T', K', hT', A'⟩
    | succ m ih =>
      intro i ii h' T' hm hii hT' K' A'
      have cl := clamp32 (x := ii) (by omega)
      have a1 := c_iadd ii 1
      have g1 := rng32 (ii + 1)
      refine w_iloadN C (pc' := 6) d29_5 rfl rfl ?_
      refine w_iloadN C (pc' := 7) d29_6 rfl rfl ?_
      refine w_jcmp_ge C (pc' := 20) (pn := 10) d29_7 (by decide) (by decide) rfl (fun c7 => ?_) (fun c7 => ?_)
      · exact absurd c7 (by omega)
      refine w_aloadN C (pc' := 11) d29_10 rfl rfl rfl ?_
      refine w_iloadN C (pc' := 12) d29_11 rfl rfl ?_
      refine w_iloadN C (pc' := 13) d29_12 rfl rfl ?_
      refine w_iastore C (pc' := 14) d29_13 A'.1 ga (nlt32 (by omega)) (i := i) (by omega) (by rw [List.length_map]; omega) rfl (fun h13 W13 A13 => ?_)
      refine w_iinc C (pc' := 17) (ls' := #[_, _, _, _]) (z := 1) d29_14 rfl rfl rfl rfl ?_
      refine w_goto C (pc' := 5) d29_17 (by decide) (by decide) ?_
      exact ih (i + 1) (ii + 1) h13 (T'.set i x) (by omega) (by omega) (by rw [fill_len]; exact hT') (K'.wr W13 (Or.inl (by simp))) ⟨by rw [List.map_set]; exact A13, fitI _⟩
  refine w_iconst C (pc' := 1) (z := 0) d29_0 rfl rfl ?_
  refine w_istoreN C (pc' := 2) (ls' := #[_, _, _, _]) d29_1 rfl rfl ?_
  refine w_aloadN C (pc' := 3) d29_2 rfl rfl rfl ?_
  refine w_alen C (pc' := 4) d29_3 A.1 (z := 32) (by rw [List.length_map, hT]; rfl) rfl ?_
  refine w_istoreN C (pc' := 5) (ls' := #[_, _, _, _]) d29_4 rfl rfl ?_
  -- STOP at 5
  exact J5 32 0 0 h T rfl (by decide) hT (Keep.refl _ _) A
theorem at_b {T : List Int8} {i : Nat} (h : i < T.length) : (T.map vb)[i]? = some (vb T[i]) := by simp [h]
theorem at_i {T : List Int32} {i : Nat} (h : i < T.length) : (T.map Value.int)[i]? = some (.int T[i]) := by simp [h]
theorem at_l {T : List Int64} {i : Nat} (h : i < T.length) : (T.map Value.long)[i]? = some (.long T[i]) := by simp [h]
set_option maxRecDepth 65536 in
set_option maxHeartbeats 40000000 in
theorem c_18 (l : Launch) (Z : State) (a0 : Array Value) (hw : ∀ d ∈ tables_1, d.before a0 Z = true) (a : Addr) (x : Int32) (T : List Int8) (n0 : Nat) (h : Heap) (hn : n0 ≤ h.size) (A : C1 Z h a (ab T)) (hT : x.toInt ≤ T.length) :
    Ct l Z y18 prog_58_method_10_code 6 (some .long) rm00 n0 [] #[.ref a, .int 0, .int x] h (fun v h' => (∃ p : Int64, v = some (.long p)) ∧ h' = h) := by
  refine ct_of pn_18 hn (ef_18 a 0 x) fun X C => ?_
  have z8 : (8 : Int32).toInt = 8 := by decide
  have z1 : (1 : Int32).toInt = 1 := by decide
  have z0 : (0 : Int32).toInt = 0 := by decide
  have J5 : ∀ (m i : Nat) (ii : Int32) (p : Int64), i + m = 8 → ii.toInt = i → Wp X 0 0 h 5 #[.val (.ref a), .val (.int 0), .val (.int x), .val (.long p), .second, .val (.int ii)] [] := by
    intro m
    induction m with
    | zero =>
      intro i ii p hm hii
      refine w_iload C (pc' := 7) d18_5 rfl rfl ?_
      refine w_bipush C (pc' := 9) (z := 8) d18_7 rfl rfl ?_
      refine w_jcmp_ge C (pc' := 47) (pn := 12) d18_9 (by decide) (by decide) rfl (fun c9 => ?_) (fun c9 => ?_)
      rotate_left
      · exact absurd c9 (by omega)
      refine w_lloadN C (pc' := 48) d18_47 rfl rfl ?_
      exact w_lret C d18_48 (by decide) (by decide) ⟨⟨_, rfl⟩, rfl⟩
    | succ m ih =>
      intro i ii p hm hii
      have a0' := c_iadd 0 ii
      have g0 := rng32 (0 + ii)
      have cl := clamp32 (x := 0 + ii) (by omega)
      have a1 := c_iadd ii 1
      have g1 := rng32 (ii + 1)
      refine w_iload C (pc' := 7) d18_5 rfl rfl ?_
      refine w_bipush C (pc' := 9) (z := 8) d18_7 rfl rfl ?_
      refine w_jcmp_ge C (pc' := 47) (pn := 12) d18_9 (by decide) (by decide) rfl (fun c9 => ?_) (fun c9 => ?_)
      · exact absurd c9 (by omega)
      refine w_lloadN C (pc' := 13) d18_12 rfl rfl ?_
      refine w_bipush C (pc' := 15) (z := 8) d18_13 rfl rfl ?_
      refine w_lshl C (pc' := 16) d18_15 rfl ?_
      refine w_iloadN C (pc' := 17) d18_16 rfl rfl ?_
      refine w_iload C (pc' := 19) d18_17 rfl rfl ?_
      refine w_iadd C (pc' := 20) d18_19 rfl ?_
      refine w_iloadN C (pc' := 21) d18_20 rfl rfl ?_
      refine w_jcmp_ge C (pc' := 37) (pn := 24) d18_21 (by decide) (by decide) rfl (fun c21 => ?_) (fun c21 => ?_)
      · -- 21 taken -> 37
        refine w_iconst C (pc' := 38) (z := 0) d18_37 rfl rfl ?_
        refine w_i2l C (pc' := 39) d18_38 rfl ?_
        refine w_lor C (pc' := 40) d18_39 rfl ?_
        refine w_lstoreN C (pc' := 41) (ls' := #[_, _, _, _, _, _]) d18_40 rfl rfl ?_
        refine w_iinc C (pc' := 44) (ls' := #[_, _, _, _, _, _]) (z := 1) d18_41 rfl rfl rfl rfl ?_
        refine w_goto C (pc' := 5) d18_44 (by decide) (by decide) ?_
        exact ih (i + 1) (ii + 1) _ (by omega) (by omega)
      · -- 21 not -> 24
        refine w_aloadN C (pc' := 25) d18_24 rfl rfl rfl ?_
        refine w_iloadN C (pc' := 26) d18_25 rfl rfl ?_
        refine w_iload C (pc' := 28) d18_26 rfl rfl ?_
        refine w_iadd C (pc' := 29) d18_28 rfl ?_
        refine w_baload C (pc' := 30) d18_29 A.1 (nlt32 (by omega)) (i := i) (by omega) (at_b (by omega)) rfl ?_
        refine w_sipush C (pc' := 33) (z := 255) d18_30 rfl rfl ?_
        refine w_iand C (pc' := 34) d18_33 rfl ?_
        refine w_goto C (pc' := 38) d18_34 (by decide) (by decide) ?_
        refine w_i2l C (pc' := 39) d18_38 rfl ?_
        refine w_lor C (pc' := 40) d18_39 rfl ?_
        refine w_lstoreN C (pc' := 41) (ls' := #[_, _, _, _, _, _]) d18_40 rfl rfl ?_
        refine w_iinc C (pc' := 44) (ls' := #[_, _, _, _, _, _]) (z := 1) d18_41 rfl rfl rfl rfl ?_
        refine w_goto C (pc' := 5) d18_44 (by decide) (by decide) ?_
        exact ih (i + 1) (ii + 1) _ (by omega) (by omega)
  refine w_lconst C (pc' := 1) (z := 0) d18_0 rfl rfl ?_
  refine w_lstoreN C (pc' := 2) (ls' := #[_, _, _, _, _, _]) d18_1 rfl rfl ?_
  refine w_iconst C (pc' := 3) (z := 0) d18_2 rfl rfl ?_
  refine w_istore C (pc' := 5) (ls' := #[_, _, _, _, _, _]) d18_3 rfl rfl ?_
  -- STOP at 5
  exact J5 8 0 0 0 rfl (by decide)
theorem b255 {x y : Int8} : (x.toInt32 &&& 255).toInt = (y.toInt32 &&& 255).toInt ↔ x = y := by
  constructor
  · intro e
    have e' := congrArg Int32.toInt8 (Int32.toInt_inj.mp e)
    have q : ∀ z : Int8, (z.toInt32 &&& 255).toInt8 = z := by
      intro z
      rw [Int32.toInt8_and, Int8.toInt8_toInt32, show (255 : Int32).toInt8 = -1 from by decide, Int8.and_neg_one]
    rwa [q, q] at e'
  · rintro rfl; rfl
abbrev rm26 : Room := { frames := 1, cells := 0, slots := 0, locals := 20 }
set_option maxRecDepth 65536 in
set_option maxHeartbeats 40000000 in
theorem c_26 (l : Launch) (Z : State) (a0 : Array Value) (hw : ∀ d ∈ tables_1, d.before a0 Z = true) (a b : Addr) (af ae bf be : Int32) (p m q m' : Nat) (T S : List Int8) (n0 : Nat) (h : Heap) (hn : n0 ≤ h.size) (A : C1 Z h a (ab T)) (B : C1 Z h b (ab S)) (h1 : af.toInt = p) (h2 : ae.toInt = p + m) (h3 : bf.toInt = q) (h4 : be.toInt = q + m') (h5 : p + m ≤ T.length) (h6 : q + m' ≤ S.length) (h7 : T.length ≤ 256) (h8 : S.length ≤ 256) :
    Ct l Z y26 prog_58_method_9_code 9 (some .int) rm26 n0 [] #[.ref a, .int af, .int ae, .ref b, .int bf, .int be] h (fun v h' => (∃ r : Int32, v = some (.int r) ∧ (r.toInt = 0 ↔ (m = m' ∧ ∀ j, j < m → T[p + j]? = S[q + j]?))) ∧ h' = h) := by
  refine ct_of pn_26 hn (ef_26 a af ae b bf be) fun X C => ?_
  have s1 := c_isub ae af
  have s2 := c_isub be bf
  have g1 := rng32 (ae - af)
  have g2 := rng32 (be - bf)
  have d1 : (ae - af).toInt = m := by omega
  have d2 : (be - bf).toInt = m' := by omega
  have z0 : (0 : Int32).toInt = 0 := by decide
  have z1 : (1 : Int32).toInt = 1 := by decide
  clear s1 s2 g1 g2
  have hL : (if be - bf < ae - af then be - bf else ae - af).toInt = (min m m' : Nat) := by
    split
    · rename_i c; rw [Int32.lt_iff_toInt_lt] at c; omega
    · rename_i c; rw [Int32.lt_iff_toInt_lt] at c; omega
  obtain ⟨L, eL⟩ : ∃ L : Int32, (if be - bf < ae - af then be - bf else ae - af) = L := ⟨_, rfl⟩
  rw [eL] at hL
  have J63 : ∀ (ii c : Int32), (c.toInt = 0 → ∀ j, j < min m m' → T[p + j]? = S[q + j]?) → (c.toInt ≠ 0 → ∃ j, j < min m m' ∧ T[p + j]? ≠ S[q + j]?) → Wp X 0 0 h 63 #[.val (.ref a), .val (.int af), .val (.int ae), .val (.ref b), .val (.int bf), .val (.int be), .val (.int L), .val (.int c), .val (.int ii)] [] := by
    intro ii c h0 h1'
    have k2 : c.toInt ≠ 0 → ¬ (m = m' ∧ ∀ j, j < m → T[p + j]? = S[q + j]?) := by
      intro e ⟨e1, e2⟩
      obtain ⟨j, hj, hne⟩ := h1' e
      exact hne (e2 j (Nat.lt_of_lt_of_le hj (Nat.min_le_left _ _)))
    have k3 : c.toInt = 0 → ∀ r : Int32, (r.toInt = 0 ↔ (ae - af).toInt = (be - bf).toInt) → (r.toInt = 0 ↔ (m = m' ∧ ∀ j, j < m → T[p + j]? = S[q + j]?)) := by
      intro ec r hr
      clear h1' k2
      have h0' := h0 ec
      clear h0
      rw [hr, d1, d2]
      exact ⟨fun e => ⟨by omega, fun j hj => h0' j (by omega)⟩, fun e => by have := e.1; omega⟩
    refine w_iload C (pc' := 65) d26_63 rfl rfl ?_
    refine w_jf_eq C (pc' := 73) (pn := 68) d26_65 (by decide) (by decide) rfl (fun c65 => ?_) (fun c65 => ?_)
    · refine w_iloadN C (pc' := 74) d26_73 rfl rfl ?_
      refine w_iloadN C (pc' := 75) d26_74 rfl rfl ?_
      refine w_isub C (pc' := 76) d26_75 rfl ?_
      refine w_iload C (pc' := 78) d26_76 rfl rfl ?_
      refine w_iload C (pc' := 80) d26_78 rfl rfl ?_
      refine w_isub C (pc' := 81) d26_80 rfl ?_
      refine Wp.size C fun sz81 => ?_
      refine w_static C (pc' := 84) (W := 0) (tw hw 174 rfl) (tw hw 175 rfl) (tw hw 176 rfl) (tw hw 177 rfl) (by decide) pd_10 d26_81 (c_27 X.l Z _ _ n0 _ sz81) rfl rfl rfl (by decide) rfl (by decide) (by decide) (by decide) rfl (fun v81 h81 q81 => ?_)
      obtain ⟨⟨r, rfl, hr⟩, rfl⟩ := q81
      show Wp X _ _ _ 84 _ [_]
      exact w_iret C d26_84 (by simp) rfl (by decide) (by decide) ⟨⟨_, rfl, k3 c65 r hr⟩, rfl⟩
    · refine w_iload C (pc' := 70) d26_68 rfl rfl ?_
      refine w_goto C (pc' := 84) d26_70 (by decide) (by decide) ?_
      exact w_iret C d26_84 (by simp) rfl (by decide) (by decide) ⟨⟨_, rfl, ⟨fun e => absurd e c65, fun e => absurd e (k2 c65)⟩⟩, rfl⟩
  have J19 : ∀ (n i : Nat) (ii c : Int32), i + n = min m m' → ii.toInt = i → (c.toInt = 0 → ∀ j, j < i → T[p + j]? = S[q + j]?) → (c.toInt ≠ 0 → ∃ j, j < min m m' ∧ T[p + j]? ≠ S[q + j]?) → Wp X 0 0 h 19 #[.val (.ref a), .val (.int af), .val (.int ae), .val (.ref b), .val (.int bf), .val (.int be), .val (.int L), .val (.int c), .val (.int ii)] [] := by
    intro n
    induction n with
    | zero =>
      intro i ii c hm hii h0 h1'
      refine w_iload C (pc' := 21) d26_19 rfl rfl ?_
      refine w_iload C (pc' := 23) d26_21 rfl rfl ?_
      refine w_jcmp_ge C (pc' := 63) (pn := 26) d26_23 (by decide) (by decide) rfl (fun c23 => ?_) (fun c23 => ?_)
      rotate_left
      · exact absurd c23 (by omega)
      -- STOP at 63
      exact J63 _ _ (fun e j hj => h0 e j (by omega)) h1'
    | succ n ih =>
      intro i ii c hm hii h0 h1'
      have a1 := c_iadd ii 1
      have g1 := rng32 (ii + 1)
      have a2 := c_iadd af ii
      have g2 := rng32 (af + ii)
      have a3 := c_iadd bf ii
      have g3 := rng32 (bf + ii)
      have cl1 := clamp32 (x := af + ii) (by omega)
      have cl2 := clamp32 (x := bf + ii) (by omega)
      have l1 : p + i < T.length := by omega
      have l2 : q + i < S.length := by omega
      have k0 : c.toInt = 0 → ∀ r : Int32, (r.toInt = 0 ↔ (T[p + i].toInt32 &&& 255).toInt = (S[q + i].toInt32 &&& 255).toInt) → r.toInt = 0 → ∀ j, j < i + 1 → T[p + j]? = S[q + j]? := by
        intro ec r hr e j hj
        rcases Nat.lt_succ_iff_lt_or_eq.mp hj with u | u
        · exact h0 ec j u
        · subst u; rw [List.getElem?_eq_getElem l1, List.getElem?_eq_getElem l2, b255.mp (hr.mp e)]
      have k1 : ∀ r : Int32, (r.toInt = 0 ↔ (T[p + i].toInt32 &&& 255).toInt = (S[q + i].toInt32 &&& 255).toInt) → r.toInt ≠ 0 → ∃ j, j < min m m' ∧ T[p + j]? ≠ S[q + j]? :=
        fun r hr e => ⟨i, by omega, fun u => e (hr.mpr (b255.mpr (by rw [List.getElem?_eq_getElem l1, List.getElem?_eq_getElem l2] at u; exact Option.some.inj u)))⟩
      refine w_iload C (pc' := 21) d26_19 rfl rfl ?_
      refine w_iload C (pc' := 23) d26_21 rfl rfl ?_
      refine w_jcmp_ge C (pc' := 63) (pn := 26) d26_23 (by decide) (by decide) rfl (fun c23 => ?_) (fun c23 => ?_)
      · exact absurd c23 (by omega)
      refine w_iload C (pc' := 28) d26_26 rfl rfl ?_
      refine w_jf_ne C (pc' := 63) (pn := 31) d26_28 (by decide) (by decide) rfl (fun c28 => ?_) (fun c28 => ?_)
      · -- 28 taken -> 63
        -- STOP at 63
        exact J63 _ _ (fun e => absurd e c28) h1'
      · -- 28 not -> 31
        refine w_aloadN C (pc' := 32) d26_31 rfl rfl rfl ?_
        refine w_iloadN C (pc' := 33) d26_32 rfl rfl ?_
        refine w_iload C (pc' := 35) d26_33 rfl rfl ?_
        refine w_iadd C (pc' := 36) d26_35 rfl ?_
        refine w_baload C (pc' := 37) d26_36 A.1 (nlt32 (by omega)) (i := p + i) (by omega) (at_b l1) rfl ?_
        refine w_sipush C (pc' := 40) (z := 255) d26_37 rfl rfl ?_
        refine w_iand C (pc' := 41) d26_40 rfl ?_
        refine w_aloadN C (pc' := 42) d26_41 rfl rfl rfl ?_
        refine w_iload C (pc' := 44) d26_42 rfl rfl ?_
        refine w_iload C (pc' := 46) d26_44 rfl rfl ?_
        refine w_iadd C (pc' := 47) d26_46 rfl ?_
        refine w_baload C (pc' := 48) d26_47 B.1 (nlt32 (by omega)) (i := q + i) (by omega) (at_b l2) rfl ?_
        refine w_sipush C (pc' := 51) (z := 255) d26_48 rfl rfl ?_
        refine w_iand C (pc' := 52) d26_51 rfl ?_
        refine Wp.size C fun sz52 => ?_
        refine w_static C (pc' := 55) (W := 0) (tw hw 174 rfl) (tw hw 175 rfl) (tw hw 176 rfl) (tw hw 177 rfl) (by decide) pd_10 d26_52 (c_27 X.l Z _ _ n0 _ sz52) rfl rfl rfl (by decide) rfl (by decide) (by decide) (by decide) rfl (fun v52 h52 q52 => ?_)
        obtain ⟨⟨r, rfl, hr⟩, rfl⟩ := q52
        show Wp X _ _ _ 55 _ [_]
        refine w_istore C (pc' := 57) (ls' := #[_, _, _, _, _, _, _, _, _]) d26_55 rfl rfl ?_
        refine w_iinc C (pc' := 60) (ls' := #[_, _, _, _, _, _, _, _, _]) (z := 1) d26_57 rfl rfl rfl rfl ?_
        refine w_goto C (pc' := 19) d26_60 (by decide) (by decide) ?_
        exact ih (i + 1) (ii + 1) r (by omega) (by omega) (k0 c28 r hr) (k1 r hr)
  refine w_iloadN C (pc' := 1) d26_0 rfl rfl ?_
  refine w_iloadN C (pc' := 2) d26_1 rfl rfl ?_
  refine w_isub C (pc' := 3) d26_2 rfl ?_
  refine w_iload C (pc' := 5) d26_3 rfl rfl ?_
  refine w_iload C (pc' := 7) d26_5 rfl rfl ?_
  refine w_isub C (pc' := 8) d26_7 rfl ?_
  refine Wp.size C fun sz8 => ?_
  refine w_static C (pc' := 11) (W := 0) (tw hw 173 rfl) (tw hw 155 rfl) (tw hw 99 rfl) (tw hw 156 rfl) (by decide) pd_10 d26_8 (c_23 X.l Z _ _ n0 _ sz8) rfl rfl rfl (by decide) rfl (by decide) (by decide) (by decide) rfl (fun v8 h8 q8 => ?_)
  obtain ⟨rfl, rfl⟩ := q8
  show Wp X _ _ _ 11 _ [_]
  rw [eL]
  refine w_istore C (pc' := 13) (ls' := #[_, _, _, _, _, _, _, _, _]) d26_11 rfl rfl ?_
  refine w_iconst C (pc' := 14) (z := 0) d26_13 rfl rfl ?_
  refine w_istore C (pc' := 16) (ls' := #[_, _, _, _, _, _, _, _, _]) d26_14 rfl rfl ?_
  refine w_iconst C (pc' := 17) (z := 0) d26_16 rfl rfl ?_
  refine w_istore C (pc' := 19) (ls' := #[_, _, _, _, _, _, _, _, _]) d26_17 rfl rfl ?_
  -- STOP at 19
  exact J19 (min m m') 0 0 0 (by omega) (by decide) (fun _ j hj => absurd hj (by omega)) (fun e => absurd (by decide) e)
abbrev rm34 : Room := { frames := 2, cells := 0, slots := 0, locals := 60 }
set_option maxRecDepth 65536 in
set_option maxHeartbeats 40000000 in
theorem c_34 (l : Launch) (Z : State) (a0 : Array Value) (hw : ∀ d ∈ tables_1, d.before a0 Z = true) (p q : Int64) (a b : Addr) (af ae bf be : Int32) (n0 : Nat) (h : Heap) (hn : n0 ≤ h.size) (h1 : (ae - af).toInt ≤ 8) :
    Ct l Z y34 prog_58_method_11_code 11 (some .int) rm34 n0 [] #[.long p, .ref a, .int af, .int ae, .long q, .ref b, .int bf, .int be] h (fun v h' => (∃ r : Int32, v = some (.int r)) ∧ h' = h) := by
  refine ct_of pn_34 hn (ef_34 p a af ae q b bf be) fun X C => ?_
  have z8 : (8 : Int32).toInt = 8 := by decide
  refine w_lloadN C (pc' := 1) d34_0 rfl rfl ?_
  refine w_lload C (pc' := 3) d34_1 rfl rfl ?_
  refine Wp.size C fun sz3 => ?_
  refine w_static C (pc' := 6) (W := 0) (tw hw 209 rfl) (tw hw 210 rfl) (tw hw 211 rfl) (tw hw 212 rfl) (by decide) pd_22 d34_3 (c_35 X.l Z a0 hw _ _ n0 _ sz3) rfl rfl rfl (by decide) rfl (by decide) (by decide) (by decide) rfl (fun v3 h3 q3 => ?_)
  obtain ⟨⟨r, rfl⟩, rfl⟩ := q3
  show Wp X _ _ _ 6 _ [_]
  refine w_istore C (pc' := 8) (ls' := #[_, _, _, _, _, _, _, _, _, _, _]) d34_6 rfl rfl ?_
  refine w_iload C (pc' := 10) d34_8 rfl rfl ?_
  refine w_jf_ne C (pc' := 49) (pn := 13) d34_10 (by decide) (by decide) rfl (fun c10 => ?_) (fun c10 => ?_)
  · -- 10 taken -> 49
    refine w_iload C (pc' := 51) d34_49 rfl rfl ?_
    refine w_jf_ne C (pc' := 75) (pn := 54) d34_51 (by decide) (by decide) rfl (fun c51 => ?_) (fun c51 => ?_)
    rotate_left
    · exact absurd c51 c10
    refine w_iload C (pc' := 77) d34_75 rfl rfl ?_
    exact w_iret C d34_77 (by simp) rfl (by decide) (by decide) ⟨⟨_, rfl⟩, rfl⟩
  · -- 10 not -> 13
    refine w_iload C (pc' := 15) d34_13 rfl rfl ?_
    refine w_iloadN C (pc' := 16) d34_15 rfl rfl ?_
    refine w_isub C (pc' := 17) d34_16 rfl ?_
    refine w_bipush C (pc' := 19) (z := 8) d34_17 rfl rfl ?_
    refine w_jcmp_le C (pc' := 32) (pn := 22) d34_19 (by decide) (by decide) rfl (fun c19 => ?_) (fun c19 => ?_)
    rotate_left
    · exact absurd c19 (by omega)
    refine w_iload C (pc' := 34) d34_32 rfl rfl ?_
    refine w_iloadN C (pc' := 35) d34_34 rfl rfl ?_
    refine w_isub C (pc' := 36) d34_35 rfl ?_
    refine w_iload C (pc' := 38) d34_36 rfl rfl ?_
    refine w_iload C (pc' := 40) d34_38 rfl rfl ?_
    refine w_isub C (pc' := 41) d34_40 rfl ?_
    refine Wp.size C fun sz41 => ?_
    refine w_static C (pc' := 44) (W := 0) (tw hw 174 rfl) (tw hw 175 rfl) (tw hw 176 rfl) (tw hw 177 rfl) (by decide) pd_10 d34_41 (c_27 X.l Z _ _ n0 _ sz41) rfl rfl rfl (by decide) rfl (by decide) (by decide) (by decide) rfl (fun v41 h41 q41 => ?_)
    obtain ⟨⟨r', rfl, hr'⟩, rfl⟩ := q41
    show Wp X _ _ _ 44 _ [_]
    refine w_istore C (pc' := 46) (ls' := #[_, _, _, _, _, _, _, _, _, _, _]) d34_44 rfl rfl ?_
    refine w_goto C (pc' := 75) d34_46 (by decide) (by decide) ?_
    refine w_iload C (pc' := 77) d34_75 rfl rfl ?_
    exact w_iret C d34_77 (by simp) rfl (by decide) (by decide) ⟨⟨_, rfl⟩, rfl⟩
abbrev cells (A : Nat → Addr) (p : Int32) (lim : Int64) (r k n : Int32) (ord en : Value) (B : List Int8) (VF VT NX KF KL HO PO : List Int32) (PF : List Int64) (FO LO SL : List Int32) : List (Addr × CD) :=
  [(A 0, rbo p lim (.ref (A 1)) r (.ref (A 3)) (.ref (A 4)) (.ref (A 5)) k (.ref (A 6)) (.ref (A 7)) (.ref (A 8)) (.ref (A 9)) (.ref (A 10)) (.ref (A 11)) (.ref (A 12)) (.ref (A 13)) ord en), (A 1, bo (A 2) n), (A 2, ab B), (A 3, ai VF), (A 4, ai VT), (A 5, ai NX), (A 6, ai KF), (A 7, ai KL), (A 8, ai HO), (A 9, ai PO), (A 10, al PF), (A 11, ai FO), (A 12, ai LO), (A 13, ai SL)]
section ReadOnly
variable (l : Launch) (Z : State) (a0 : Array Value) (n0 : Nat) (hO h : Heap) {A : Nat → Addr} {p : Int32} {lim : Int64} {r k n : Int32} {ord en : Value} {B : List Int8} {VF VT NX KF KL HO PO : List Int32} {PF : List Int64} {FO LO SL : List Int32}
def EQ (ho hash : Int32) (p' m m' : Nat) (B S : List Int8) : Prop := ho.toInt = hash.toInt ∧ m = m' ∧ ∀ j, j < m → B[p' + j]? = S[0 + j]?
theorem vi {T : List Int32} {i : Nat} {x : Int32} (e : T[i]? = some x) : (T.map Value.int)[i]? = some (.int x) := by rw [List.getElem?_map, e]; rfl
theorem vl {T : List Int64} {i : Nat} {x : Int64} (e : T[i]? = some x) : (T.map Value.long)[i]? = some (.long x) := by rw [List.getElem?_map, e]; rfl
/-- what find, slotOf and isKey ask of the first key and of the key looked for -/
def KeyPre (Z : State) (h : Heap) (B : List Int8) (KF KL HO : List Int32) (ky ka : Addr) (kf kl ho kn : Int32) (p' m m' : Nat) (S : List Int8) : Prop :=
  KF[0]? = some kf ∧ KL[0]? = some kl ∧ HO[0]? = some ho ∧ kf.toInt = p' ∧ kl.toInt = m ∧ kn.toInt = m' ∧ p' + m ≤ B.length ∧ B.length ≤ 256 ∧ m' ≤ S.length ∧ S.length ≤ 256 ∧ C1 Z h ky (bo ka kn) ∧ C1 Z h ka (ab S)
abbrev rm25 : Room := { frames := 2, cells := 0, slots := 0, locals := 60 }
set_option maxRecDepth 65536 in
set_option maxHeartbeats 40000000 in
theorem c_25 (hw : ∀ d ∈ tables_1, d.before a0 Z = true) (hn : n0 ≤ h.size) (H : Hs Z n0 hO h (cells A p lim r k n ord en B VF VT NX KF KL HO PO PF FO LO SL)) (ky ka : Addr) (hash kf kl ho kn : Int32) (p' m m' : Nat) (S : List Int8) (K : KeyPre Z h B KF KL HO ky ka kf kl ho kn p' m m' S) :
    Ct l Z y25 prog_78_method_12_code 4 (some .boolean) rm25 n0 [] #[.ref (A 0), .int 0, .int hash, .ref ky] h (fun v h' => (∃ r : Int32, v = some (.int r) ∧ (r.toInt ≠ 0 ↔ EQ ho hash p' m m' B S)) ∧ h' = h) := by
  refine ct_of pn_25 hn (ef_25 (A 0) 0 hash ky) fun X C => ?_
  unfold cells at H
  obtain ⟨k1, k2, k3, k4, k5, k6, k7, k8, k9, k10, q1, q2⟩ := K
  have a1 := c_iadd kf kl
  have g1 := rng32 (kf + kl)
  have z0 : (0 : Int32).toInt = 0 := by decide
  have z1 : (1 : Int32).toInt = 1 := by decide
  refine w_aloadN C (pc' := 1) d25_0 rfl rfl rfl ?_
  refine w_getfield C (pc' := 4) (tw hw 62 rfl) d25_1 (H.fl (by repeat (first | exact List.Mem.head _ | apply List.Mem.tail)) (by repeat (first | exact List.Mem.head _ | apply List.Mem.tail))) rfl ?_
  refine w_iloadN C (pc' := 5) d25_4 rfl rfl ?_
  refine w_iaload C (pc' := 6) d25_5 (H.ar (by repeat (first | exact List.Mem.head _ | apply List.Mem.tail))) (by decide) rfl (vi k3) rfl ?_
  refine w_iloadN C (pc' := 7) d25_6 rfl rfl ?_
  refine w_jcmp_ne C (pc' := 68) (pn := 10) d25_7 (by decide) (by decide) rfl (fun c7 => ?_) (fun c7 => ?_)
  · -- 7 taken -> 68
    refine w_iconst C (pc' := 69) (z := 0) d25_68 rfl rfl ?_
    exact w_iret C d25_69 (by simp) rfl (by decide) (by decide) ⟨⟨_, rfl, by first | exact ⟨fun _ => ⟨c7, by omega, (hr.mp c61).2⟩, fun _ => by decide⟩ | exact ⟨fun e => absurd z0 e, fun e => absurd e.1 c7⟩ | exact ⟨fun e => absurd z0 e, fun e => absurd (by have := e.2.1; omega) c20⟩ | exact ⟨fun e => absurd z0 e, fun e => absurd (hr.mpr ⟨e.2.1, e.2.2⟩) c61⟩⟩, rfl⟩
  · -- 7 not -> 10
    refine w_aloadN C (pc' := 11) d25_10 rfl rfl rfl ?_
    refine w_getfield C (pc' := 14) (tw hw 60 rfl) d25_11 (H.fl (by repeat (first | exact List.Mem.head _ | apply List.Mem.tail)) (by repeat (first | exact List.Mem.head _ | apply List.Mem.tail))) rfl ?_
    refine w_iloadN C (pc' := 15) d25_14 rfl rfl ?_
    refine w_iaload C (pc' := 16) d25_15 (H.ar (by repeat (first | exact List.Mem.head _ | apply List.Mem.tail))) (by decide) rfl (vi k2) rfl ?_
    refine w_aloadN C (pc' := 17) d25_16 rfl rfl rfl ?_
    refine Wp.size C fun sz17 => ?_
    refine w_virtual C (pc' := 20) (W := 1) (tw hw 92 rfl) (tw hw 93 rfl) (tw hw 95 rfl) (tw hw 94 rfl) (tw hw 11 rfl) (tw hw 96 rfl) (by decide) pd_9 d25_17 q1.1 (c_12 X.l Z a0 hw ky kn n0 _ sz17 (q1.fl (by repeat (first | exact List.Mem.head _ | apply List.Mem.tail)))) rfl rfl rfl (by decide) rfl (by decide) (by decide) (by decide) rfl (fun v17 h17 q17 => ?_)
    obtain ⟨rfl, rfl⟩ := q17
    show Wp X _ _ _ 20 _ [_, _]
    refine w_jcmp_ne C (pc' := 68) (pn := 23) d25_20 (by decide) (by decide) rfl (fun c20 => ?_) (fun c20 => ?_)
    · -- 20 taken -> 68
      refine w_iconst C (pc' := 69) (z := 0) d25_68 rfl rfl ?_
      exact w_iret C d25_69 (by simp) rfl (by decide) (by decide) ⟨⟨_, rfl, by first | exact ⟨fun _ => ⟨c7, by omega, (hr.mp c61).2⟩, fun _ => by decide⟩ | exact ⟨fun e => absurd z0 e, fun e => absurd e.1 c7⟩ | exact ⟨fun e => absurd z0 e, fun e => absurd (by have := e.2.1; omega) c20⟩ | exact ⟨fun e => absurd z0 e, fun e => absurd (hr.mpr ⟨e.2.1, e.2.2⟩) c61⟩⟩, rfl⟩
    · -- 20 not -> 23
      refine w_aloadN C (pc' := 24) d25_23 rfl rfl rfl ?_
      refine w_getfield C (pc' := 27) (tw hw 49 rfl) d25_24 (H.fl (by repeat (first | exact List.Mem.head _ | apply List.Mem.tail)) (by repeat (first | exact List.Mem.head _ | apply List.Mem.tail))) rfl ?_
      refine Wp.size C fun sz27 => ?_
      refine w_virtual C (pc' := 30) (W := 0) (tw hw 121 rfl) (tw hw 122 rfl) (tw hw 124 rfl) (tw hw 123 rfl) (tw hw 11 rfl) (tw hw 125 rfl) (by decide) pd_12 d25_27 (H.ex (by repeat (first | exact List.Mem.head _ | apply List.Mem.tail))) (c_17 X.l Z a0 hw (A 1) (A 2) n0 _ sz27 (H.fl (by repeat (first | exact List.Mem.head _ | apply List.Mem.tail)) (by repeat (first | exact List.Mem.head _ | apply List.Mem.tail)))) rfl rfl rfl (by decide) rfl (by decide) (by decide) (by decide) rfl (fun v27 h27 q27 => ?_)
      obtain ⟨rfl, rfl⟩ := q27
      show Wp X _ _ _ 30 _ [_]
      refine w_aloadN C (pc' := 31) d25_30 rfl rfl rfl ?_
      refine w_getfield C (pc' := 34) (tw hw 58 rfl) d25_31 (H.fl (by repeat (first | exact List.Mem.head _ | apply List.Mem.tail)) (by repeat (first | exact List.Mem.head _ | apply List.Mem.tail))) rfl ?_
      refine w_iloadN C (pc' := 35) d25_34 rfl rfl ?_
      refine w_iaload C (pc' := 36) d25_35 (H.ar (by repeat (first | exact List.Mem.head _ | apply List.Mem.tail))) (by decide) rfl (vi k1) rfl ?_
      refine w_aloadN C (pc' := 37) d25_36 rfl rfl rfl ?_
      refine w_getfield C (pc' := 40) (tw hw 58 rfl) d25_37 (H.fl (by repeat (first | exact List.Mem.head _ | apply List.Mem.tail)) (by repeat (first | exact List.Mem.head _ | apply List.Mem.tail))) rfl ?_
      refine w_iloadN C (pc' := 41) d25_40 rfl rfl ?_
      refine w_iaload C (pc' := 42) d25_41 (H.ar (by repeat (first | exact List.Mem.head _ | apply List.Mem.tail))) (by decide) rfl (vi k1) rfl ?_
      refine w_aloadN C (pc' := 43) d25_42 rfl rfl rfl ?_
      refine w_getfield C (pc' := 46) (tw hw 60 rfl) d25_43 (H.fl (by repeat (first | exact List.Mem.head _ | apply List.Mem.tail)) (by repeat (first | exact List.Mem.head _ | apply List.Mem.tail))) rfl ?_
      refine w_iloadN C (pc' := 47) d25_46 rfl rfl ?_
      refine w_iaload C (pc' := 48) d25_47 (H.ar (by repeat (first | exact List.Mem.head _ | apply List.Mem.tail))) (by decide) rfl (vi k2) rfl ?_
      refine w_iadd C (pc' := 49) d25_48 rfl ?_
      refine w_aloadN C (pc' := 50) d25_49 rfl rfl rfl ?_
      refine Wp.size C fun sz50 => ?_
      refine w_virtual C (pc' := 53) (W := 3) (tw hw 121 rfl) (tw hw 122 rfl) (tw hw 124 rfl) (tw hw 123 rfl) (tw hw 11 rfl) (tw hw 125 rfl) (by decide) pd_12 d25_50 q1.1 (c_17 X.l Z a0 hw ky ka n0 _ sz50 (q1.fl (by repeat (first | exact List.Mem.head _ | apply List.Mem.tail)))) rfl rfl rfl (by decide) rfl (by decide) (by decide) (by decide) rfl (fun v50 h50 q50 => ?_)
      obtain ⟨rfl, rfl⟩ := q50
      show Wp X _ _ _ 53 _ [_, _, _, _]
      refine w_iconst C (pc' := 54) (z := 0) d25_53 rfl rfl ?_
      refine w_aloadN C (pc' := 55) d25_54 rfl rfl rfl ?_
      refine Wp.size C fun sz55 => ?_
      refine w_virtual C (pc' := 58) (W := 5) (tw hw 92 rfl) (tw hw 93 rfl) (tw hw 95 rfl) (tw hw 94 rfl) (tw hw 11 rfl) (tw hw 96 rfl) (by decide) pd_9 d25_55 q1.1 (c_12 X.l Z a0 hw ky kn n0 _ sz55 (q1.fl (by repeat (first | exact List.Mem.head _ | apply List.Mem.tail)))) rfl rfl rfl (by decide) rfl (by decide) (by decide) (by decide) rfl (fun v55 h55 q55 => ?_)
      obtain ⟨rfl, rfl⟩ := q55
      show Wp X _ _ _ 58 _ [_, _, _, _, _, _]
      refine Wp.size C fun sz58 => ?_
      refine w_static C (pc' := 61) (W := 0) (tw hw 170 rfl) (tw hw 171 rfl) (tw hw 11 rfl) (tw hw 172 rfl) (by decide) pd_17 d25_58 (c_26 X.l Z a0 hw (A 2) ka kf (kf + kl) 0 kn p' m 0 m' B S n0 _ sz58 (H.mm (by repeat (first | exact List.Mem.head _ | apply List.Mem.tail))).2 q2 k4 (by omega) (by decide) (by omega) k7 (by omega) k8 k10) rfl rfl rfl (by decide) rfl (by decide) (by decide) (by decide) rfl (fun v58 h58 q58 => ?_)
      obtain ⟨⟨r', rfl, hr⟩, rfl⟩ := q58
      show Wp X _ _ _ 61 _ [_]
      refine w_jf_ne C (pc' := 68) (pn := 64) d25_61 (by decide) (by decide) rfl (fun c61 => ?_) (fun c61 => ?_)
      · -- 61 taken -> 68
        refine w_iconst C (pc' := 69) (z := 0) d25_68 rfl rfl ?_
        exact w_iret C d25_69 (by simp) rfl (by decide) (by decide) ⟨⟨_, rfl, by first | exact ⟨fun _ => ⟨c7, by omega, (hr.mp c61).2⟩, fun _ => by decide⟩ | exact ⟨fun e => absurd z0 e, fun e => absurd e.1 c7⟩ | exact ⟨fun e => absurd z0 e, fun e => absurd (by have := e.2.1; omega) c20⟩ | exact ⟨fun e => absurd z0 e, fun e => absurd (hr.mpr ⟨e.2.1, e.2.2⟩) c61⟩⟩, rfl⟩
      · -- 61 not -> 64
        refine w_iconst C (pc' := 65) (z := 1) d25_64 rfl rfl ?_
        refine w_goto C (pc' := 69) d25_65 (by decide) (by decide) ?_
        exact w_iret C d25_69 (by simp) rfl (by decide) (by decide) ⟨⟨_, rfl, by first | exact ⟨fun _ => ⟨c7, by omega, (hr.mp c61).2⟩, fun _ => by decide⟩ | exact ⟨fun e => absurd z0 e, fun e => absurd e.1 c7⟩ | exact ⟨fun e => absurd z0 e, fun e => absurd (by have := e.2.1; omega) c20⟩ | exact ⟨fun e => absurd z0 e, fun e => absurd (hr.mpr ⟨e.2.1, e.2.2⟩) c61⟩⟩, rfl⟩
theorem e31 : (32 : Int32) - 1 = 31 := by decide
theorem a31 (x : Int32) : 0 ≤ (x &&& (32 - 1)).toInt ∧ (x &&& (32 - 1)).toInt < 32 := by
  rw [e31]
  have e := b_and31 x _ rfl
  have h3 : (x &&& 31).toInt = (x &&& 31).toBitVec.toInt := rfl
  rw [BitVec.toInt_eq_toNat_cond] at h3
  have := Nat.mod_lt x.toBitVec.toNat (show 32 > 0 by decide)
  split at h3 <;> omega
abbrev rm11 : Room := { frames := 3, cells := 0, slots := 0, locals := 90 }
/-- the slot the table gives -/
def SlotPre (SL : List Int32) (hash : Int32) : Prop := SL.length = 32 ∧ (SL[(hash &&& (32 - 1)).toInt.toNat]? = some 0 ∨ (SL[(hash &&& (32 - 1)).toInt.toNat]? = some 1 ∧ SL[(((hash &&& (32 - 1)) + 1) &&& (32 - 1)).toInt.toNat]? = some 0))
def SlotPost (SL : List Int32) (hash : Int32) (E : Prop) (r : Int32) : Prop := 0 ≤ r.toInt ∧ r.toInt < 32 ∧ ((SL[r.toInt.toNat]? = some 0 ∧ (SL[(hash &&& (32 - 1)).toInt.toNat]? = some 0 ∨ ¬ E)) ∨ (SL[r.toInt.toNat]? = some 1 ∧ SL[(hash &&& (32 - 1)).toInt.toNat]? = some 1 ∧ E)) ∧ (SL[(hash &&& (32 - 1)).toInt.toNat]? = some 0 → r = hash &&& (32 - 1))
set_option maxRecDepth 65536 in
set_option maxHeartbeats 40000000 in
theorem c_11 (hw : ∀ d ∈ tables_1, d.before a0 Z = true) (hn : n0 ≤ h.size) (H : Hs Z n0 hO h (cells A p lim r k n ord en B VF VT NX KF KL HO PO PF FO LO SL)) (ky ka : Addr) (hash kf kl ho kn : Int32) (p' m m' : Nat) (S : List Int8) (K : KeyPre Z h B KF KL HO ky ka kf kl ho kn p' m m' S) (P : SlotPre SL hash) :
    Ct l Z y11 prog_78_method_11_code 5 (some .int) rm11 n0 [] #[.ref (A 0), .int hash, .ref ky] h (fun v h' => (∃ r : Int32, v = some (.int r) ∧ SlotPost SL hash (EQ ho hash p' m m' B S) r) ∧ h' = h) := by
  refine ct_of pn_11 hn (ef_11 (A 0) hash ky) fun X C => ?_
  obtain ⟨hl, P⟩ := P
  have H0 := H
  unfold cells at H
  have y32 : (SL.map Value.int).length.toInt32 = 32 := by rw [List.length_map, hl]; rfl
  have J13z : ∀ x : Int32, 0 ≤ x.toInt → x.toInt < 32 → SL[x.toInt.toNat]? = some 0 → SlotPost SL hash (EQ ho hash p' m m' B S) x → Wp X 0 0 h 13 #[.val (.ref (A 0)), .val (.int hash), .val (.ref ky), .val (.int (32 - 1)), .val (.int x)] [] := by
    intro x h1 h2 h3 h4
    refine w_aloadN C (pc' := 14) d11_13 rfl rfl rfl ?_
    refine w_getfield C (pc' := 17) (tw hw 73 rfl) d11_14 (H.fl (by repeat (first | exact List.Mem.head _ | apply List.Mem.tail)) (by repeat (first | exact List.Mem.head _ | apply List.Mem.tail))) rfl ?_
    refine w_iload C (pc' := 19) d11_17 rfl rfl ?_
    refine w_iaload C (pc' := 20) d11_19 (H.ar (by repeat (first | exact List.Mem.head _ | apply List.Mem.tail))) (nlt32 h1) rfl (vi h3) rfl ?_
    refine w_jf_eq C (pc' := 52) (pn := 23) d11_20 (by decide) (by decide) rfl (fun c20 => ?_) (fun c20 => ?_)
    rotate_left
    · exact absurd rfl c20
    refine w_iload C (pc' := 54) d11_52 rfl rfl ?_
    exact w_iret C d11_54 (by simp) rfl (by decide) (by decide) ⟨⟨_, rfl, h4⟩, rfl⟩
  obtain ⟨r1, r2⟩ := a31 hash
  have J13 : Wp X 0 0 h 13 #[.val (.ref (A 0)), .val (.int hash), .val (.ref ky), .val (.int (32 - 1)), .val (.int (hash &&& (32 - 1)))] [] := by
    rcases P with P | ⟨P, P'⟩
    · exact J13z _ r1 r2 P ⟨r1, r2, Or.inl ⟨P, Or.inl P⟩, fun _ => rfl⟩
    · obtain ⟨t1, t2⟩ := a31 ((hash &&& (32 - 1)) + 1)
      refine w_aloadN C (pc' := 14) d11_13 rfl rfl rfl ?_
      refine w_getfield C (pc' := 17) (tw hw 73 rfl) d11_14 (H.fl (by repeat (first | exact List.Mem.head _ | apply List.Mem.tail)) (by repeat (first | exact List.Mem.head _ | apply List.Mem.tail))) rfl ?_
      refine w_iload C (pc' := 19) d11_17 rfl rfl ?_
      refine w_iaload C (pc' := 20) d11_19 (H.ar (by repeat (first | exact List.Mem.head _ | apply List.Mem.tail))) (nlt32 r1) rfl (vi P) rfl ?_
      refine w_jf_eq C (pc' := 52) (pn := 23) d11_20 (by decide) (by decide) rfl (fun c20 => ?_) (fun c20 => ?_)
      · exact absurd c20 (by decide)
      refine w_aloadN C (pc' := 24) d11_23 rfl rfl rfl ?_
      refine w_aloadN C (pc' := 25) d11_24 rfl rfl rfl ?_
      refine w_getfield C (pc' := 28) (tw hw 73 rfl) d11_25 (H.fl (by repeat (first | exact List.Mem.head _ | apply List.Mem.tail)) (by repeat (first | exact List.Mem.head _ | apply List.Mem.tail))) rfl ?_
      refine w_iload C (pc' := 30) d11_28 rfl rfl ?_
      refine w_iaload C (pc' := 31) d11_30 (H.ar (by repeat (first | exact List.Mem.head _ | apply List.Mem.tail))) (nlt32 r1) rfl (vi P) rfl ?_
      refine w_iconst C (pc' := 32) (z := 1) d11_31 rfl rfl ?_
      refine w_isub C (pc' := 33) d11_32 rfl ?_
      refine w_iloadN C (pc' := 34) d11_33 rfl rfl ?_
      refine w_aloadN C (pc' := 35) d11_34 rfl rfl rfl ?_
      refine Wp.size C fun sz35 => ?_
      refine w_private C (pc' := 38) (W := 0) (tw hw 166 rfl) (tw hw 167 rfl) (tw hw 168 rfl) (tw hw 41 rfl) (tw hw 42 rfl) (tw hw 169 rfl) (by decide) pd_16 d11_35 (H.ex (by repeat (first | exact List.Mem.head _ | apply List.Mem.tail))) (c_25 X.l Z a0 n0 hO _ hw sz35 H0 ky ka hash kf kl ho kn p' m m' S K) rfl rfl rfl (by decide) rfl (by decide) (by decide) (by decide) rfl (fun v35 h35 q35 => ?_)
      obtain ⟨⟨r', rfl, hr⟩, rfl⟩ := q35
      show Wp X _ _ _ 38 _ [_]
      refine w_jf_ne C (pc' := 52) (pn := 41) d11_38 (by decide) (by decide) rfl (fun c38 => ?_) (fun c38 => ?_)
      · -- 38 taken -> 52
        refine w_iload C (pc' := 54) d11_52 rfl rfl ?_
        exact w_iret C d11_54 (by simp) rfl (by decide) (by decide) ⟨⟨_, rfl, r1, r2, Or.inr ⟨P, P, hr.mp c38⟩, fun e => absurd (P.symm.trans e) (by decide)⟩, rfl⟩
      · -- 38 not -> 41
        refine w_iload C (pc' := 43) d11_41 rfl rfl ?_
        refine w_iconst C (pc' := 44) (z := 1) d11_43 rfl rfl ?_
        refine w_iadd C (pc' := 45) d11_44 rfl ?_
        refine w_iloadN C (pc' := 46) d11_45 rfl rfl ?_
        refine w_iand C (pc' := 47) d11_46 rfl ?_
        refine w_istore C (pc' := 49) (ls' := #[_, _, _, _, _]) d11_47 rfl rfl ?_
        refine w_goto C (pc' := 13) d11_49 (by decide) (by decide) ?_
        exact J13z _ t1 t2 P' ⟨t1, t2, Or.inl ⟨P', Or.inr fun e => hr.mpr e c38⟩, fun e => absurd (P.symm.trans e) (by decide)⟩
  refine w_aloadN C (pc' := 1) d11_0 rfl rfl rfl ?_
  refine w_getfield C (pc' := 4) (tw hw 73 rfl) d11_1 (H.fl (by repeat (first | exact List.Mem.head _ | apply List.Mem.tail)) (by repeat (first | exact List.Mem.head _ | apply List.Mem.tail))) rfl ?_
  refine w_alen C (pc' := 5) d11_4 (H.ar (by repeat (first | exact List.Mem.head _ | apply List.Mem.tail))) (z := 32) y32 rfl ?_
  refine w_iconst C (pc' := 6) (z := 1) d11_5 rfl rfl ?_
  refine w_isub C (pc' := 7) d11_6 rfl ?_
  refine w_istoreN C (pc' := 8) (ls' := #[_, _, _, _, _]) d11_7 rfl rfl ?_
  refine w_iloadN C (pc' := 9) d11_8 rfl rfl ?_
  refine w_iloadN C (pc' := 10) d11_9 rfl rfl ?_
  refine w_iand C (pc' := 11) d11_10 rfl ?_
  refine w_istore C (pc' := 13) (ls' := #[_, _, _, _, _]) d11_11 rfl rfl ?_
  -- STOP at 13
  exact J13
abbrev rm10 : Room := { frames := 4, cells := 0, slots := 0, locals := 120 }
set_option maxRecDepth 65536 in
set_option maxHeartbeats 40000000 in
theorem c_10 (hw : ∀ d ∈ tables_1, d.before a0 Z = true) (hn : n0 ≤ h.size) (H : Hs Z n0 hO h (cells A p lim r k n ord en B VF VT NX KF KL HO PO PF FO LO SL)) (ky ka : Addr) (hash kf kl ho kn : Int32) (p' m m' : Nat) (S : List Int8) (K : KeyPre Z h B KF KL HO ky ka kf kl ho kn p' m m' S) (P : SlotPre SL hash) :
    Ct l Z y10 prog_78_method_10_code 4 (some .int) rm10 n0 [] #[.ref (A 0), .int hash, .ref ky] h (fun v h' => (∃ r : Int32, v = some (.int r) ∧ ((r = -1 ∧ (SL[(hash &&& (32 - 1)).toInt.toNat]? = some 0 ∨ ¬ EQ ho hash p' m m' B S)) ∨ (r = 0 ∧ SL[(hash &&& (32 - 1)).toInt.toNat]? = some 1 ∧ EQ ho hash p' m m' B S))) ∧ h' = h) := by
  refine ct_of pn_10 hn (ef_10 (A 0) hash ky) fun X C => ?_
  have H0 := H
  unfold cells at H
  refine w_aloadN C (pc' := 1) d10_0 rfl rfl rfl ?_
  refine w_getfield C (pc' := 4) (tw hw 73 rfl) d10_1 (H.fl (by repeat (first | exact List.Mem.head _ | apply List.Mem.tail)) (by repeat (first | exact List.Mem.head _ | apply List.Mem.tail))) rfl ?_
  refine w_aloadN C (pc' := 5) d10_4 rfl rfl rfl ?_
  refine w_iloadN C (pc' := 6) d10_5 rfl rfl ?_
  refine w_aloadN C (pc' := 7) d10_6 rfl rfl rfl ?_
  refine Wp.size C fun sz7 => ?_
  refine w_private C (pc' := 10) (W := 1) (tw hw 88 rfl) (tw hw 89 rfl) (tw hw 90 rfl) (tw hw 41 rfl) (tw hw 42 rfl) (tw hw 91 rfl) (by decide) pd_8 d10_7 (H.ex (by repeat (first | exact List.Mem.head _ | apply List.Mem.tail))) (c_11 X.l Z a0 n0 hO _ hw sz7 H0 ky ka hash kf kl ho kn p' m m' S K P) rfl rfl rfl (by decide) rfl (by decide) (by decide) (by decide) rfl (fun v7 h7 q7 => ?_)
  obtain ⟨⟨r', rfl, h1, h2, h3, -⟩, rfl⟩ := q7
  show Wp X _ _ _ 10 _ [_, _]
  rcases h3 with ⟨h3, h4⟩ | ⟨h3, h4, h5⟩
  · refine w_iaload C (pc' := 11) d10_10 (H.ar (by repeat (first | exact List.Mem.head _ | apply List.Mem.tail))) (nlt32 h1) rfl (vi h3) rfl ?_
    refine w_istoreN C (pc' := 12) (ls' := #[_, _, _, _]) d10_11 rfl rfl ?_
    refine w_iloadN C (pc' := 13) d10_12 rfl rfl ?_
    refine w_jf_ne C (pc' := 20) (pn := 16) d10_13 (by decide) (by decide) rfl (fun c13 => ?_) (fun c13 => ?_)
    · exact absurd rfl c13
    refine w_iconst C (pc' := 17) (z := (-1)) d10_16 rfl rfl ?_
    refine w_goto C (pc' := 23) d10_17 (by decide) (by decide) ?_
    exact w_iret C d10_23 (by simp) rfl (by decide) (by decide) ⟨⟨_, rfl, Or.inl ⟨rfl, h4⟩⟩, rfl⟩
  · refine w_iaload C (pc' := 11) d10_10 (H.ar (by repeat (first | exact List.Mem.head _ | apply List.Mem.tail))) (nlt32 h1) rfl (vi h3) rfl ?_
    refine w_istoreN C (pc' := 12) (ls' := #[_, _, _, _]) d10_11 rfl rfl ?_
    refine w_iloadN C (pc' := 13) d10_12 rfl rfl ?_
    refine w_jf_ne C (pc' := 20) (pn := 16) d10_13 (by decide) (by decide) rfl (fun c13 => ?_) (fun c13 => ?_)
    rotate_left
    · exact absurd c13 (by decide)
    refine w_iloadN C (pc' := 21) d10_20 rfl rfl ?_
    refine w_iconst C (pc' := 22) (z := 1) d10_21 rfl rfl ?_
    refine w_isub C (pc' := 23) d10_22 rfl ?_
    exact w_iret C d10_23 (by simp) rfl (by decide) (by decide) ⟨⟨_, rfl, Or.inr ⟨by decide, h4, h5⟩⟩, rfl⟩
end ReadOnly
theorem set0 {α : Type} {T : List α} {i : Nat} {x y : α} (e : T[0]? = some y) : (T.set i x)[0]? = some (if i = 0 then x else y) := by
  rw [List.getElem?_set]
  by_cases c : i = 0
  · subst c
    have := (List.getElem?_eq_some_iff.mp e).1
    simp [this]
  · simp [c, e]
abbrev rm9 : Room := { frames := 5, cells := 0, slots := 0, locals := 160 }
section Add
variable (l : Launch) (Z : State) (a0 : Array Value) (n0 : Nat) (hO h : Heap) {A : Nat → Addr} {p : Int32} {lim : Int64} {r k n : Int32} {ord en : Value} {B : List Int8} {VF VT NX KF KL HO PO : List Int32} {PF : List Int64} {FO LO SL : List Int32}
set_option maxRecDepth 65536 in
set_option maxHeartbeats 40000000 in
theorem c_9 (hw : ∀ d ∈ tables_1, d.before a0 Z = true) (hn : n0 ≤ h.size) (ky ka vy va : Addr) (part hash kf kl ho kn vn lo : Int32) (p' m m' mv nn rn kk ln : Nat) (S V : List Int8)
    (H : Hs Z n0 hO h (cells A p lim r k n ord en B VF VT NX KF KL HO PO PF FO LO SL ++ [(ky, bo ka kn), (ka, ab S), (vy, bo va vn), (va, ab V)]))
    (K : KeyPre Z h B KF KL HO ky ka kf kl ho kn p' m m' S) (P : SlotPre SL hash)
    (l1 : VF.length = 16) (l2 : VT.length = 16) (l3 : NX.length = 16) (l4 : KF.length = 16) (l5 : KL.length = 16) (l6 : HO.length = 16) (l7 : PO.length = 16) (l8 : PF.length = 16) (l9 : FO.length = 16) (l10 : LO.length = 16) (l11 : B.length = 256)
    (hr : r.toInt = rn) (hr1 : rn ≤ 1) (hk : k.toInt = kk) (hk1 : kk ≤ 1) (hnn : n.toInt = nn) (hnn1 : nn ≤ 64) (hm' : m' ≤ 8) (hmv : vn.toInt = mv) (hmv1 : mv ≤ 8) (hmv2 : mv ≤ V.length) (hlo : LO[0]? = some lo) (hln : lo.toInt = ln) (hln1 : ln ≤ 1) (hm8 : m ≤ 8) :
    Ct l Z y9 prog_78_method_4_code 14 (some .boolean) rm9 n0 [] #[.ref (A 0), .int part, .int hash, .ref ky, .ref vy] h (fun v h' => (v = some (.int 0) ∧ 0 < r.toInt ∧ h' = h) ∨
      (v = some (.int 1) ∧ (SL[(hash &&& (32 - 1)).toInt.toNat]? = some 0 ∨ ¬ EQ ho hash p' m m' B S) ∧ ∃ pf sl, (SL[(hash &&& (32 - 1)).toInt.toNat]? = some 0 → sl = (hash &&& (32 - 1)).toInt.toNat) ∧ Hs Z n0 hO h' (cells A p lim (r + 1) (k + 1) (n + kn + vn) .null en (cpy (cpy B nn S m') (nn + m') V mv) (VF.set rn (n + kn)) (VT.set rn (n + kn + vn)) (NX.set rn (-1)) (KF.set kk n) (KL.set kk kn) (HO.set kk hash) (PO.set kk part) (PF.set kk pf) (FO.set kk r) (LO.set kk r) (SL.set sl (k + 1)) ++ [(ky, bo ka kn), (ka, ab S), (vy, bo va vn), (va, ab V)])) ∨
      (v = some (.int 1) ∧ SL[(hash &&& (32 - 1)).toInt.toNat]? = some 1 ∧ EQ ho hash p' m m' B S ∧ Hs Z n0 hO h' (cells A p lim (r + 1) k (n + vn) .null en (cpy B nn V mv) (VF.set rn n) (VT.set rn (n + vn)) ((NX.set ln r).set rn (-1)) KF KL HO PO PF FO (LO.set 0 r) SL ++ [(ky, bo ka kn), (ka, ab S), (vy, bo va vn), (va, ab V)]))) := by
  refine ct_of pn_9 hn (ef_9 (A 0) part hash ky vy) fun X C => ?_
  have H14 : Hs Z n0 hO h (cells A p lim r k n ord en B VF VT NX KF KL HO PO PF FO LO SL) := H.pick [0, 1, 2, 3, 4, 5, 6, 7, 8, 9, 10, 11, 12, 13] (by decide) rfl
  simp only [cells, List.cons_append, List.nil_append] at H
  have n12 : A 1 ≠ A 2 := H.ne (i := 1) (j := 2) rfl rfl (by decide)
  have K0 := K
  obtain ⟨k1, k2, k3, k4, k5, k6, k7, k8, k9, k10, -, -⟩ := K
  have yB : (B.map vb).length.toInt32 = 256 := by rw [List.length_map, l11]; rfl
  have yVF : (VF.map Value.int).length.toInt32 = 16 := by rw [List.length_map, l1]; rfl
  have yKF : (KF.map Value.int).length.toInt32 = 16 := by rw [List.length_map, l4]; rfl
  have z16 : (16 : Int32).toInt = 16 := by decide
  have z256 : (256 : Int32).toInt = 256 := by decide
  have z0 : (0 : Int32).toInt = 0 := by decide
  have z1 : (1 : Int32).toInt = 1 := by decide
  have a1 := c_iadd n kn
  have g1 := rng32 (n + kn)
  have e1 : (n + kn).toInt = (nn + m' : Nat) := by omega
  have a2 := c_iadd vn kn
  have g2 := rng32 (vn + kn)
  have a3 := c_iadd vn 0
  have g3 := rng32 (vn + 0)
  have a4 := c_iadd n (vn + kn)
  have g4 := rng32 (n + (vn + kn))
  have a5 := c_iadd n (vn + 0)
  have g5 := rng32 (n + (vn + 0))
  have s1 : (n + (vn + kn)).toInt ≤ 256 := by omega
  have s2 : (n + (vn + 0)).toInt ≤ 256 := by omega
  have t1 : 0 ≤ (vn + kn).toInt ∧ (vn + kn).toInt ≤ 1000 := by omega
  have t2 : 0 ≤ (vn + 0).toInt ∧ (vn + 0).toInt ≤ 1000 := by omega
  clear a1 g1 a2 g2 a3 g3 a4 g4 a5 g5
  have cr := clamp32 (x := r) (by omega)
  have ck := clamp32 (x := k) (by omega)
  have cl := clamp32 (x := lo) (by omega)
  have J159n : (SL[(hash &&& (32 - 1)).toInt.toNat]? = some 0 ∨ ¬ EQ ho hash p' m m' B S) → ∀ (x7 x8 : Int32) (x10 : Int64), x7.toInt ≤ 256 → Wp X 0 0 h 159 #[.val (.ref (A 0)), .val (.int part), .val (.int hash), .val (.ref ky), .val (.ref vy), .val (.int (-1)), .val (.int 1), .val (.int x7), .val (.int x8), .val (.int 16), .val (.long x10), .second, .unset, .unset] [] := by
    intro hnew x7 x8 x10 h7
    refine w_iload C (pc' := 161) d9_159 rfl rfl ?_
    refine w_aloadN C (pc' := 162) d9_161 rfl rfl rfl ?_
    refine w_getfield C (pc' := 165) (tw hw 49 rfl) d9_162 (H.fl (by repeat (first | exact List.Mem.head _ | apply List.Mem.tail)) (by repeat (first | exact List.Mem.head _ | apply List.Mem.tail))) rfl ?_
    refine Wp.size C fun sz165 => ?_
    refine w_virtual C (pc' := 168) (W := 1) (tw hw 116 rfl) (tw hw 117 rfl) (tw hw 119 rfl) (tw hw 118 rfl) (tw hw 11 rfl) (tw hw 120 rfl) (by decide) pd_9 d9_165 (H.ex (by repeat (first | exact List.Mem.head _ | apply List.Mem.tail))) (c_16 X.l Z a0 hw (A 1) (A 2) (B.map vb) 256 n0 _ sz165 (H.fl (by repeat (first | exact List.Mem.head _ | apply List.Mem.tail)) (by repeat (first | exact List.Mem.head _ | apply List.Mem.tail))) (H.ar (by repeat (first | exact List.Mem.head _ | apply List.Mem.tail))) yB) rfl rfl rfl (by decide) rfl (by decide) (by decide) (by decide) rfl (fun v165 h165 q165 => ?_)
    obtain ⟨rfl, rfl⟩ := q165
    show Wp X _ _ _ 168 _ [_, _]
    refine w_jcmp_le C (pc' := 207) (pn := 171) d9_168 (by decide) (by decide) rfl (fun c168 => ?_) (fun c168 => ?_)
    rotate_left
    · exact absurd c168 (by omega)
    refine w_aloadN C (pc' := 208) d9_207 rfl rfl rfl ?_
    refine w_getfield C (pc' := 211) (tw hw 101 rfl) d9_208 (H.fl (by repeat (first | exact List.Mem.head _ | apply List.Mem.tail)) (by repeat (first | exact List.Mem.head _ | apply List.Mem.tail))) rfl ?_
    refine w_aloadN C (pc' := 212) d9_211 rfl rfl rfl ?_
    refine w_getfield C (pc' := 215) (tw hw 52 rfl) d9_212 (H.fl (by repeat (first | exact List.Mem.head _ | apply List.Mem.tail)) (by repeat (first | exact List.Mem.head _ | apply List.Mem.tail))) rfl ?_
    refine w_alen C (pc' := 216) d9_215 (H.ar (by repeat (first | exact List.Mem.head _ | apply List.Mem.tail))) (z := 16) yVF rfl ?_
    refine w_jcmp_ne C (pc' := 281) (pn := 219) d9_216 (by decide) (by decide) rfl (fun c216 => ?_) (fun c216 => ?_)
    rotate_left
    · exact absurd c216 (by omega)
    refine w_iload C (pc' := 283) d9_281 rfl rfl ?_
    refine w_aloadN C (pc' := 284) d9_283 rfl rfl rfl ?_
    refine w_getfield C (pc' := 287) (tw hw 58 rfl) d9_284 (H.fl (by repeat (first | exact List.Mem.head _ | apply List.Mem.tail)) (by repeat (first | exact List.Mem.head _ | apply List.Mem.tail))) rfl ?_
    refine w_alen C (pc' := 288) d9_287 (H.ar (by repeat (first | exact List.Mem.head _ | apply List.Mem.tail))) (z := 16) yKF rfl ?_
    refine w_jcmp_le C (pc' := 297) (pn := 291) d9_288 (by decide) (by decide) rfl (fun c288 => ?_) (fun c288 => ?_)
    rotate_left
    · exact absurd c288 (by omega)
    refine w_iload C (pc' := 299) d9_297 rfl rfl ?_
    refine w_jf_eq C (pc' := 420) (pn := 302) d9_299 (by decide) (by decide) rfl (fun c299 => ?_) (fun c299 => ?_)
    · exact absurd c299 (by decide)
    refine w_aloadN C (pc' := 303) d9_302 rfl rfl rfl ?_
    refine w_dup C (pc' := 304) d9_303 rfl rfl ?_
    refine w_getfield C (pc' := 307) (tw hw 106 rfl) d9_304 (H.fl (by repeat (first | exact List.Mem.head _ | apply List.Mem.tail)) (by repeat (first | exact List.Mem.head _ | apply List.Mem.tail))) rfl ?_
    refine w_dupX1 C (pc' := 308) d9_307 rfl rfl rfl ?_
    refine w_iconst C (pc' := 309) (z := 1) d9_308 rfl rfl ?_
    refine w_iadd C (pc' := 310) d9_309 rfl ?_
    refine w_putfield C (pc' := 313) (tw hw 106 rfl) (Or.inl (tw hw 107 rfl)) (tw hw 41 rfl) d9_310 (H.fl (by repeat (first | exact List.Mem.head _ | apply List.Mem.tail)) (by repeat (first | exact List.Mem.head _ | apply List.Mem.tail))) (H.ex (by repeat (first | exact List.Mem.head _ | apply List.Mem.tail))) (H.ge (by repeat (first | exact List.Mem.head _ | apply List.Mem.tail))) (t := .int) (by decide) rfl rfl rfl (fun h310 W310 F310 E310 => ?_)
    replace H := H.putf (layRB hw) (by repeat (first | exact Rp.hd | apply Rp.tl)) (by repeat (first | exact Rp.hd | apply Rp.tl)) W310
    refine w_istore C (pc' := 315) (ls' := #[_, _, _, _, _, _, _, _, _, _, _, _, _, _]) d9_313 rfl rfl ?_
    refine w_aloadN C (pc' := 316) d9_315 rfl rfl rfl ?_
    refine w_getfield C (pc' := 319) (tw hw 58 rfl) d9_316 (H.fl (by repeat (first | exact List.Mem.head _ | apply List.Mem.tail)) (by repeat (first | exact List.Mem.head _ | apply List.Mem.tail))) rfl ?_
    refine w_iload C (pc' := 321) d9_319 rfl rfl ?_
    refine w_aloadN C (pc' := 322) d9_321 rfl rfl rfl ?_
    refine w_getfield C (pc' := 325) (tw hw 49 rfl) d9_322 (H.fl (by repeat (first | exact List.Mem.head _ | apply List.Mem.tail)) (by repeat (first | exact List.Mem.head _ | apply List.Mem.tail))) rfl ?_
    refine Wp.size C fun sz325 => ?_
    refine w_virtual C (pc' := 328) (W := 2) (tw hw 92 rfl) (tw hw 93 rfl) (tw hw 95 rfl) (tw hw 94 rfl) (tw hw 11 rfl) (tw hw 96 rfl) (by decide) pd_9 d9_325 (H.ex (by repeat (first | exact List.Mem.head _ | apply List.Mem.tail))) (c_12 X.l Z a0 hw (A 1) n n0 _ sz325 (H.fl (by repeat (first | exact List.Mem.head _ | apply List.Mem.tail)) (by repeat (first | exact List.Mem.head _ | apply List.Mem.tail)))) rfl rfl rfl (by decide) rfl (by decide) (by decide) (by decide) rfl (fun v325 h325 q325 => ?_)
    obtain ⟨rfl, rfl⟩ := q325
    show Wp X _ _ _ 328 _ [_, _, _]
    refine w_iastore C (pc' := 329) d9_328 (H.ar (by repeat (first | exact List.Mem.head _ | apply List.Mem.tail))) (H.ge (by repeat (first | exact List.Mem.head _ | apply List.Mem.tail))) (nlt32 (by omega)) (i := kk) (by omega) (by rw [List.length_map]; omega) rfl (fun h328 W328 A328 => ?_)
    replace H := H.puti (by repeat (first | exact Rp.hd | apply Rp.tl)) W328
    refine w_aloadN C (pc' := 330) d9_329 rfl rfl rfl ?_
    refine w_getfield C (pc' := 333) (tw hw 60 rfl) d9_330 (H.fl (by repeat (first | exact List.Mem.head _ | apply List.Mem.tail)) (by repeat (first | exact List.Mem.head _ | apply List.Mem.tail))) rfl ?_
    refine w_iload C (pc' := 335) d9_333 rfl rfl ?_
    refine w_aloadN C (pc' := 336) d9_335 rfl rfl rfl ?_
    refine Wp.size C fun sz336 => ?_
    refine w_virtual C (pc' := 339) (W := 2) (tw hw 92 rfl) (tw hw 93 rfl) (tw hw 95 rfl) (tw hw 94 rfl) (tw hw 11 rfl) (tw hw 96 rfl) (by decide) pd_9 d9_336 (H.ex (by repeat (first | exact List.Mem.head _ | apply List.Mem.tail))) (c_12 X.l Z a0 hw ky kn n0 _ sz336 (H.fl (by repeat (first | exact List.Mem.head _ | apply List.Mem.tail)) (by repeat (first | exact List.Mem.head _ | apply List.Mem.tail)))) rfl rfl rfl (by decide) rfl (by decide) (by decide) (by decide) rfl (fun v336 h336 q336 => ?_)
    obtain ⟨rfl, rfl⟩ := q336
    show Wp X _ _ _ 339 _ [_, _, _]
    refine w_iastore C (pc' := 340) d9_339 (H.ar (by repeat (first | exact List.Mem.head _ | apply List.Mem.tail))) (H.ge (by repeat (first | exact List.Mem.head _ | apply List.Mem.tail))) (nlt32 (by omega)) (i := kk) (by omega) (by rw [List.length_map]; omega) rfl (fun h339 W339 A339 => ?_)
    replace H := H.puti (by repeat (first | exact Rp.hd | apply Rp.tl)) W339
    refine w_aloadN C (pc' := 341) d9_340 rfl rfl rfl ?_
    refine w_getfield C (pc' := 344) (tw hw 62 rfl) d9_341 (H.fl (by repeat (first | exact List.Mem.head _ | apply List.Mem.tail)) (by repeat (first | exact List.Mem.head _ | apply List.Mem.tail))) rfl ?_
    refine w_iload C (pc' := 346) d9_344 rfl rfl ?_
    refine w_iloadN C (pc' := 347) d9_346 rfl rfl ?_
    refine w_iastore C (pc' := 348) d9_347 (H.ar (by repeat (first | exact List.Mem.head _ | apply List.Mem.tail))) (H.ge (by repeat (first | exact List.Mem.head _ | apply List.Mem.tail))) (nlt32 (by omega)) (i := kk) (by omega) (by rw [List.length_map]; omega) rfl (fun h347 W347 A347 => ?_)
    replace H := H.puti (by repeat (first | exact Rp.hd | apply Rp.tl)) W347
    refine w_aloadN C (pc' := 349) d9_348 rfl rfl rfl ?_
    refine w_getfield C (pc' := 352) (tw hw 64 rfl) d9_349 (H.fl (by repeat (first | exact List.Mem.head _ | apply List.Mem.tail)) (by repeat (first | exact List.Mem.head _ | apply List.Mem.tail))) rfl ?_
    refine w_iload C (pc' := 354) d9_352 rfl rfl ?_
    refine w_iloadN C (pc' := 355) d9_354 rfl rfl ?_
    refine w_iastore C (pc' := 356) d9_355 (H.ar (by repeat (first | exact List.Mem.head _ | apply List.Mem.tail))) (H.ge (by repeat (first | exact List.Mem.head _ | apply List.Mem.tail))) (nlt32 (by omega)) (i := kk) (by omega) (by rw [List.length_map]; omega) rfl (fun h355 W355 A355 => ?_)
    replace H := H.puti (by repeat (first | exact Rp.hd | apply Rp.tl)) W355
    refine w_aloadN C (pc' := 357) d9_356 rfl rfl rfl ?_
    refine w_getfield C (pc' := 360) (tw hw 67 rfl) d9_357 (H.fl (by repeat (first | exact List.Mem.head _ | apply List.Mem.tail)) (by repeat (first | exact List.Mem.head _ | apply List.Mem.tail))) rfl ?_
    refine w_iload C (pc' := 362) d9_360 rfl rfl ?_
    refine w_aloadN C (pc' := 363) d9_362 rfl rfl rfl ?_
    refine Wp.size C fun sz363 => ?_
    refine w_virtual C (pc' := 366) (W := 2) (tw hw 121 rfl) (tw hw 122 rfl) (tw hw 124 rfl) (tw hw 123 rfl) (tw hw 11 rfl) (tw hw 125 rfl) (by decide) pd_12 d9_363 (H.ex (by repeat (first | exact List.Mem.head _ | apply List.Mem.tail))) (c_17 X.l Z a0 hw ky ka n0 _ sz363 (H.fl (by repeat (first | exact List.Mem.head _ | apply List.Mem.tail)) (by repeat (first | exact List.Mem.head _ | apply List.Mem.tail)))) rfl rfl rfl (by decide) rfl (by decide) (by decide) (by decide) rfl (fun v363 h363 q363 => ?_)
    obtain ⟨rfl, rfl⟩ := q363
    show Wp X _ _ _ 366 _ [_, _, _]
    refine w_iconst C (pc' := 367) (z := 0) d9_366 rfl rfl ?_
    refine w_aloadN C (pc' := 368) d9_367 rfl rfl rfl ?_
    refine Wp.size C fun sz368 => ?_
    refine w_virtual C (pc' := 371) (W := 4) (tw hw 92 rfl) (tw hw 93 rfl) (tw hw 95 rfl) (tw hw 94 rfl) (tw hw 11 rfl) (tw hw 96 rfl) (by decide) pd_9 d9_368 (H.ex (by repeat (first | exact List.Mem.head _ | apply List.Mem.tail))) (c_12 X.l Z a0 hw ky kn n0 _ sz368 (H.fl (by repeat (first | exact List.Mem.head _ | apply List.Mem.tail)) (by repeat (first | exact List.Mem.head _ | apply List.Mem.tail)))) rfl rfl rfl (by decide) rfl (by decide) (by decide) (by decide) rfl (fun v368 h368 q368 => ?_)
    obtain ⟨rfl, rfl⟩ := q368
    show Wp X _ _ _ 371 _ [_, _, _, _, _]
    refine Wp.size C fun sz371 => ?_
    refine w_static C (pc' := 374) (W := 2) (tw hw 126 rfl) (tw hw 127 rfl) (tw hw 11 rfl) (tw hw 128 rfl) (by decide) pd_13 d9_371 (c_18 X.l Z a0 hw ka kn S n0 _ sz371 (H.mm (by repeat (first | exact List.Mem.head _ | apply List.Mem.tail))).2 (by omega)) rfl rfl rfl (by decide) rfl (by decide) (by decide) (by decide) rfl (fun v371 h371 q371 => ?_)
    obtain ⟨⟨pf, rfl⟩, rfl⟩ := q371
    show Wp X _ _ _ 374 _ [_, _, _]
    refine w_lastore C (pc' := 375) d9_374 (H.ar (by repeat (first | exact List.Mem.head _ | apply List.Mem.tail))) (H.ge (by repeat (first | exact List.Mem.head _ | apply List.Mem.tail))) (nlt32 (by omega)) (i := kk) (by omega) (by rw [List.length_map]; omega) rfl (fun h374 W374 A374 => ?_)
    replace H := H.putl (by repeat (first | exact Rp.hd | apply Rp.tl)) W374
    refine w_aloadN C (pc' := 376) d9_375 rfl rfl rfl ?_
    refine w_getfield C (pc' := 379) (tw hw 69 rfl) d9_376 (H.fl (by repeat (first | exact List.Mem.head _ | apply List.Mem.tail)) (by repeat (first | exact List.Mem.head _ | apply List.Mem.tail))) rfl ?_
    refine w_iload C (pc' := 381) d9_379 rfl rfl ?_
    refine w_aloadN C (pc' := 382) d9_381 rfl rfl rfl ?_
    refine w_getfield C (pc' := 385) (tw hw 101 rfl) d9_382 (H.fl (by repeat (first | exact List.Mem.head _ | apply List.Mem.tail)) (by repeat (first | exact List.Mem.head _ | apply List.Mem.tail))) rfl ?_
    refine w_iastore C (pc' := 386) d9_385 (H.ar (by repeat (first | exact List.Mem.head _ | apply List.Mem.tail))) (H.ge (by repeat (first | exact List.Mem.head _ | apply List.Mem.tail))) (nlt32 (by omega)) (i := kk) (by omega) (by rw [List.length_map]; omega) rfl (fun h385 W385 A385 => ?_)
    replace H := H.puti (by repeat (first | exact Rp.hd | apply Rp.tl)) W385
    refine w_aloadN C (pc' := 387) d9_386 rfl rfl rfl ?_
    refine w_getfield C (pc' := 390) (tw hw 49 rfl) d9_387 (H.fl (by repeat (first | exact List.Mem.head _ | apply List.Mem.tail)) (by repeat (first | exact List.Mem.head _ | apply List.Mem.tail))) rfl ?_
    refine w_aloadN C (pc' := 391) d9_390 rfl rfl rfl ?_
    refine Wp.size C fun sz391 => ?_
    refine w_virtual C (pc' := 394) (W := 1) (tw hw 121 rfl) (tw hw 122 rfl) (tw hw 124 rfl) (tw hw 123 rfl) (tw hw 11 rfl) (tw hw 125 rfl) (by decide) pd_12 d9_391 (H.ex (by repeat (first | exact List.Mem.head _ | apply List.Mem.tail))) (c_17 X.l Z a0 hw ky ka n0 _ sz391 (H.fl (by repeat (first | exact List.Mem.head _ | apply List.Mem.tail)) (by repeat (first | exact List.Mem.head _ | apply List.Mem.tail)))) rfl rfl rfl (by decide) rfl (by decide) (by decide) (by decide) rfl (fun v391 h391 q391 => ?_)
    obtain ⟨rfl, rfl⟩ := q391
    show Wp X _ _ _ 394 _ [_, _]
    refine w_iconst C (pc' := 395) (z := 0) d9_394 rfl rfl ?_
    refine w_aloadN C (pc' := 396) d9_395 rfl rfl rfl ?_
    refine Wp.size C fun sz396 => ?_
    refine w_virtual C (pc' := 399) (W := 3) (tw hw 92 rfl) (tw hw 93 rfl) (tw hw 95 rfl) (tw hw 94 rfl) (tw hw 11 rfl) (tw hw 96 rfl) (by decide) pd_9 d9_396 (H.ex (by repeat (first | exact List.Mem.head _ | apply List.Mem.tail))) (c_12 X.l Z a0 hw ky kn n0 _ sz396 (H.fl (by repeat (first | exact List.Mem.head _ | apply List.Mem.tail)) (by repeat (first | exact List.Mem.head _ | apply List.Mem.tail)))) rfl rfl rfl (by decide) rfl (by decide) (by decide) (by decide) rfl (fun v396 h396 q396 => ?_)
    obtain ⟨rfl, rfl⟩ := q396
    show Wp X _ _ _ 399 _ [_, _, _, _]
    refine Wp.size C fun sz399 => ?_
    refine w_virtual C (pc' := 402) (W := 0) (tw hw 129 rfl) (tw hw 26 rfl) (tw hw 28 rfl) (tw hw 27 rfl) (tw hw 11 rfl) (tw hw 29 rfl) (by decide) pd_4 d9_399 (H.ex (by repeat (first | exact List.Mem.head _ | apply List.Mem.tail))) (c_6 X.l Z a0 hw (A 1) (A 2) ka n kn nn m' B S n0 _ sz399 (H.ge (by repeat (first | exact List.Mem.head _ | apply List.Mem.tail))) (H.ge (by repeat (first | exact List.Mem.head _ | apply List.Mem.tail))) n12 (H.mm (by repeat (first | exact List.Mem.head _ | apply List.Mem.tail))).2 (H.mm (by repeat (first | exact List.Mem.head _ | apply List.Mem.tail))).2 (H.mm (by repeat (first | exact List.Mem.head _ | apply List.Mem.tail))).2 (by omega) hnn k6 (by omega) k9) rfl rfl rfl (by decide) rfl (by decide) (by decide) (by decide) rfl (fun v399 h399 q399 => ?_)
    obtain ⟨rfl, Kp, cA, cB⟩ := q399
    show Wp X _ _ _ 402 _ []
    replace H := H.kept2 Kp n12 (by repeat (first | exact Rp.hd | apply Rp.tl)) (by repeat (first | exact Rp.hd | apply Rp.tl)) cA cB
    have H14 : Hs Z n0 hO h399 (cells A p lim r (k + 1) (n + kn) ord en (cpy B nn S m') VF VT NX (KF.set kk n) (KL.set kk kn) (HO.set kk hash) (PO.set kk part) (PF.set kk pf) (FO.set kk r) LO SL) := H.pick [0, 1, 2, 3, 4, 5, 6, 7, 8, 9, 10, 11, 12, 13] (by decide) rfl
    have lB := cpy_len (T := B) (S := S) (x := nn) (m := m') (by omega) k9
    have K2 : KeyPre Z h399 (cpy B nn S m') (KF.set kk n) (KL.set kk kn) (HO.set kk hash) ky ka (if kk = 0 then n else kf) (if kk = 0 then kn else kl) (if kk = 0 then hash else ho) kn (if kk = 0 then nn else p') (if kk = 0 then m' else m) m' S := by
      refine ⟨set0 k1, set0 k2, set0 k3, ?_, ?_, k6, ?_, by omega, k9, k10, (H.mm (by repeat (first | exact List.Mem.head _ | apply List.Mem.tail))).2, (H.mm (by repeat (first | exact List.Mem.head _ | apply List.Mem.tail))).2⟩
      · split <;> assumption
      · split <;> assumption
      · split <;> omega
    have P' := P
    have PL := P.1
    have lB2 := cpy_len (T := cpy B nn S m') (S := V) (x := nn + m') (m := mv) (by omega) hmv2
    refine w_aloadN C (pc' := 403) d9_402 rfl rfl rfl ?_
    refine w_getfield C (pc' := 406) (tw hw 73 rfl) d9_403 (H.fl (by repeat (first | exact List.Mem.head _ | apply List.Mem.tail)) (by repeat (first | exact List.Mem.head _ | apply List.Mem.tail))) rfl ?_
    refine w_aloadN C (pc' := 407) d9_406 rfl rfl rfl ?_
    refine w_iloadN C (pc' := 408) d9_407 rfl rfl ?_
    refine w_aloadN C (pc' := 409) d9_408 rfl rfl rfl ?_
    refine Wp.size C fun sz409 => ?_
    refine w_private C (pc' := 412) (W := 1) (tw hw 88 rfl) (tw hw 89 rfl) (tw hw 90 rfl) (tw hw 41 rfl) (tw hw 42 rfl) (tw hw 91 rfl) (by decide) pd_8 d9_409 (H.ex (by repeat (first | exact List.Mem.head _ | apply List.Mem.tail))) (c_11 X.l Z a0 n0 hO _ hw sz409 H14 ky ka hash _ _ _ kn _ _ m' S K2 P') rfl rfl rfl (by decide) rfl (by decide) (by decide) (by decide) rfl (fun v409 h409 q409 => ?_)
    obtain ⟨⟨sl, rfl, b1, b2, b3, b4⟩, rfl⟩ := q409
    show Wp X _ _ _ 412 _ [_, _]
    refine w_iload C (pc' := 414) d9_412 rfl rfl ?_
    refine w_iconst C (pc' := 415) (z := 1) d9_414 rfl rfl ?_
    refine w_iadd C (pc' := 416) d9_415 rfl ?_
    refine w_iastore C (pc' := 417) d9_416 (H.ar (by repeat (first | exact List.Mem.head _ | apply List.Mem.tail))) (H.ge (by repeat (first | exact List.Mem.head _ | apply List.Mem.tail))) (nlt32 b1) rfl (by rw [List.length_map]; show sl.toInt.toNat < _; omega) rfl (fun h416 W416 A416 => ?_)
    replace H := H.puti (by repeat (first | exact Rp.hd | apply Rp.tl)) W416
    refine w_goto C (pc' := 436) d9_417 (by decide) (by decide) ?_
    refine w_aloadN C (pc' := 437) d9_436 rfl rfl rfl ?_
    refine w_anull C (pc' := 438) d9_437 rfl ?_
    refine w_putfield C (pc' := 441) (tw hw 130 rfl) (Or.inl (tw hw 131 rfl)) (tw hw 41 rfl) d9_438 (H.fl (by repeat (first | exact List.Mem.head _ | apply List.Mem.tail)) (by repeat (first | exact List.Mem.head _ | apply List.Mem.tail))) (H.ex (by repeat (first | exact List.Mem.head _ | apply List.Mem.tail))) (H.ge (by repeat (first | exact List.Mem.head _ | apply List.Mem.tail))) (t := (.array .int)) (by decide) rfl rfl rfl (fun h438 W438 F438 E438 => ?_)
    replace H := H.putf (layRB hw) (by repeat (first | exact Rp.hd | apply Rp.tl)) (by repeat (first | exact Rp.hd | apply Rp.tl)) W438
    refine w_aloadN C (pc' := 442) d9_441 rfl rfl rfl ?_
    refine w_getfield C (pc' := 445) (tw hw 71 rfl) d9_442 (H.fl (by repeat (first | exact List.Mem.head _ | apply List.Mem.tail)) (by repeat (first | exact List.Mem.head _ | apply List.Mem.tail))) rfl ?_
    refine w_iload C (pc' := 447) d9_445 rfl rfl ?_
    refine w_aloadN C (pc' := 448) d9_447 rfl rfl rfl ?_
    refine w_getfield C (pc' := 451) (tw hw 101 rfl) d9_448 (H.fl (by repeat (first | exact List.Mem.head _ | apply List.Mem.tail)) (by repeat (first | exact List.Mem.head _ | apply List.Mem.tail))) rfl ?_
    refine w_iastore C (pc' := 452) d9_451 (H.ar (by repeat (first | exact List.Mem.head _ | apply List.Mem.tail))) (H.ge (by repeat (first | exact List.Mem.head _ | apply List.Mem.tail))) (nlt32 (by omega)) (i := kk) (by omega) (by rw [List.length_map]; omega) rfl (fun h451 W451 A451 => ?_)
    replace H := H.puti (by repeat (first | exact Rp.hd | apply Rp.tl)) W451
    refine w_aloadN C (pc' := 453) d9_452 rfl rfl rfl ?_
    refine w_getfield C (pc' := 456) (tw hw 52 rfl) d9_453 (H.fl (by repeat (first | exact List.Mem.head _ | apply List.Mem.tail)) (by repeat (first | exact List.Mem.head _ | apply List.Mem.tail))) rfl ?_
    refine w_aloadN C (pc' := 457) d9_456 rfl rfl rfl ?_
    refine w_getfield C (pc' := 460) (tw hw 101 rfl) d9_457 (H.fl (by repeat (first | exact List.Mem.head _ | apply List.Mem.tail)) (by repeat (first | exact List.Mem.head _ | apply List.Mem.tail))) rfl ?_
    refine w_aloadN C (pc' := 461) d9_460 rfl rfl rfl ?_
    refine w_getfield C (pc' := 464) (tw hw 49 rfl) d9_461 (H.fl (by repeat (first | exact List.Mem.head _ | apply List.Mem.tail)) (by repeat (first | exact List.Mem.head _ | apply List.Mem.tail))) rfl ?_
    refine Wp.size C fun sz464 => ?_
    refine w_virtual C (pc' := 467) (W := 2) (tw hw 92 rfl) (tw hw 93 rfl) (tw hw 95 rfl) (tw hw 94 rfl) (tw hw 11 rfl) (tw hw 96 rfl) (by decide) pd_9 d9_464 (H.ex (by repeat (first | exact List.Mem.head _ | apply List.Mem.tail))) (c_12 X.l Z a0 hw (A 1) (n + kn) n0 _ sz464 (H.fl (by repeat (first | exact List.Mem.head _ | apply List.Mem.tail)) (by repeat (first | exact List.Mem.head _ | apply List.Mem.tail)))) rfl rfl rfl (by decide) rfl (by decide) (by decide) (by decide) rfl (fun v464 h464 q464 => ?_)
    obtain ⟨rfl, rfl⟩ := q464
    show Wp X _ _ _ 467 _ [_, _, _]
    refine w_iastore C (pc' := 468) d9_467 (H.ar (by repeat (first | exact List.Mem.head _ | apply List.Mem.tail))) (H.ge (by repeat (first | exact List.Mem.head _ | apply List.Mem.tail))) (nlt32 (by omega)) (i := rn) (by omega) (by rw [List.length_map]; omega) rfl (fun h467 W467 A467 => ?_)
    replace H := H.puti (by repeat (first | exact Rp.hd | apply Rp.tl)) W467
    refine w_aloadN C (pc' := 469) d9_468 rfl rfl rfl ?_
    refine w_getfield C (pc' := 472) (tw hw 49 rfl) d9_469 (H.fl (by repeat (first | exact List.Mem.head _ | apply List.Mem.tail)) (by repeat (first | exact List.Mem.head _ | apply List.Mem.tail))) rfl ?_
    refine w_aload C (pc' := 474) d9_472 rfl rfl rfl ?_
    refine Wp.size C fun sz474 => ?_
    refine w_virtual C (pc' := 477) (W := 1) (tw hw 121 rfl) (tw hw 122 rfl) (tw hw 124 rfl) (tw hw 123 rfl) (tw hw 11 rfl) (tw hw 125 rfl) (by decide) pd_12 d9_474 (H.ex (by repeat (first | exact List.Mem.head _ | apply List.Mem.tail))) (c_17 X.l Z a0 hw vy va n0 _ sz474 (H.fl (by repeat (first | exact List.Mem.head _ | apply List.Mem.tail)) (by repeat (first | exact List.Mem.head _ | apply List.Mem.tail)))) rfl rfl rfl (by decide) rfl (by decide) (by decide) (by decide) rfl (fun v474 h474 q474 => ?_)
    obtain ⟨rfl, rfl⟩ := q474
    show Wp X _ _ _ 477 _ [_, _]
    refine w_iconst C (pc' := 478) (z := 0) d9_477 rfl rfl ?_
    refine w_aload C (pc' := 480) d9_478 rfl rfl rfl ?_
    refine Wp.size C fun sz480 => ?_
    refine w_virtual C (pc' := 483) (W := 3) (tw hw 92 rfl) (tw hw 93 rfl) (tw hw 95 rfl) (tw hw 94 rfl) (tw hw 11 rfl) (tw hw 96 rfl) (by decide) pd_9 d9_480 (H.ex (by repeat (first | exact List.Mem.head _ | apply List.Mem.tail))) (c_12 X.l Z a0 hw vy vn n0 _ sz480 (H.fl (by repeat (first | exact List.Mem.head _ | apply List.Mem.tail)) (by repeat (first | exact List.Mem.head _ | apply List.Mem.tail)))) rfl rfl rfl (by decide) rfl (by decide) (by decide) (by decide) rfl (fun v480 h480 q480 => ?_)
    obtain ⟨rfl, rfl⟩ := q480
    show Wp X _ _ _ 483 _ [_, _, _, _]
    refine Wp.size C fun sz483 => ?_
    refine w_virtual C (pc' := 486) (W := 0) (tw hw 129 rfl) (tw hw 26 rfl) (tw hw 28 rfl) (tw hw 27 rfl) (tw hw 11 rfl) (tw hw 29 rfl) (by decide) pd_4 d9_483 (H.ex (by repeat (first | exact List.Mem.head _ | apply List.Mem.tail))) (c_6 X.l Z a0 hw (A 1) (A 2) va (n + kn) vn (nn + m') mv (cpy B nn S m') V n0 _ sz483 (H.ge (by repeat (first | exact List.Mem.head _ | apply List.Mem.tail))) (H.ge (by repeat (first | exact List.Mem.head _ | apply List.Mem.tail))) n12 (H.mm (by repeat (first | exact List.Mem.head _ | apply List.Mem.tail))).2 (H.mm (by repeat (first | exact List.Mem.head _ | apply List.Mem.tail))).2 (H.mm (by repeat (first | exact List.Mem.head _ | apply List.Mem.tail))).2 (by omega) e1 hmv (by omega) hmv2) rfl rfl rfl (by decide) rfl (by decide) (by decide) (by decide) rfl (fun v483 h483 q483 => ?_)
    obtain ⟨rfl, Kq, cC, cD⟩ := q483
    show Wp X _ _ _ 486 _ []
    replace H := H.kept2 Kq n12 (by repeat (first | exact Rp.hd | apply Rp.tl)) (by repeat (first | exact Rp.hd | apply Rp.tl)) cC cD
    refine w_aloadN C (pc' := 487) d9_486 rfl rfl rfl ?_
    refine w_getfield C (pc' := 490) (tw hw 54 rfl) d9_487 (H.fl (by repeat (first | exact List.Mem.head _ | apply List.Mem.tail)) (by repeat (first | exact List.Mem.head _ | apply List.Mem.tail))) rfl ?_
    refine w_aloadN C (pc' := 491) d9_490 rfl rfl rfl ?_
    refine w_getfield C (pc' := 494) (tw hw 101 rfl) d9_491 (H.fl (by repeat (first | exact List.Mem.head _ | apply List.Mem.tail)) (by repeat (first | exact List.Mem.head _ | apply List.Mem.tail))) rfl ?_
    refine w_aloadN C (pc' := 495) d9_494 rfl rfl rfl ?_
    refine w_getfield C (pc' := 498) (tw hw 49 rfl) d9_495 (H.fl (by repeat (first | exact List.Mem.head _ | apply List.Mem.tail)) (by repeat (first | exact List.Mem.head _ | apply List.Mem.tail))) rfl ?_
    refine Wp.size C fun sz498 => ?_
    refine w_virtual C (pc' := 501) (W := 2) (tw hw 92 rfl) (tw hw 93 rfl) (tw hw 95 rfl) (tw hw 94 rfl) (tw hw 11 rfl) (tw hw 96 rfl) (by decide) pd_9 d9_498 (H.ex (by repeat (first | exact List.Mem.head _ | apply List.Mem.tail))) (c_12 X.l Z a0 hw (A 1) (n + kn + vn) n0 _ sz498 (H.fl (by repeat (first | exact List.Mem.head _ | apply List.Mem.tail)) (by repeat (first | exact List.Mem.head _ | apply List.Mem.tail)))) rfl rfl rfl (by decide) rfl (by decide) (by decide) (by decide) rfl (fun v498 h498 q498 => ?_)
    obtain ⟨rfl, rfl⟩ := q498
    show Wp X _ _ _ 501 _ [_, _, _]
    refine w_iastore C (pc' := 502) d9_501 (H.ar (by repeat (first | exact List.Mem.head _ | apply List.Mem.tail))) (H.ge (by repeat (first | exact List.Mem.head _ | apply List.Mem.tail))) (nlt32 (by omega)) (i := rn) (by omega) (by rw [List.length_map]; omega) rfl (fun h501 W501 A501 => ?_)
    replace H := H.puti (by repeat (first | exact Rp.hd | apply Rp.tl)) W501
    refine w_aloadN C (pc' := 503) d9_502 rfl rfl rfl ?_
    refine w_getfield C (pc' := 506) (tw hw 56 rfl) d9_503 (H.fl (by repeat (first | exact List.Mem.head _ | apply List.Mem.tail)) (by repeat (first | exact List.Mem.head _ | apply List.Mem.tail))) rfl ?_
    refine w_aloadN C (pc' := 507) d9_506 rfl rfl rfl ?_
    refine w_getfield C (pc' := 510) (tw hw 101 rfl) d9_507 (H.fl (by repeat (first | exact List.Mem.head _ | apply List.Mem.tail)) (by repeat (first | exact List.Mem.head _ | apply List.Mem.tail))) rfl ?_
    refine w_iconst C (pc' := 511) (z := (-1)) d9_510 rfl rfl ?_
    refine w_iastore C (pc' := 512) d9_511 (H.ar (by repeat (first | exact List.Mem.head _ | apply List.Mem.tail))) (H.ge (by repeat (first | exact List.Mem.head _ | apply List.Mem.tail))) (nlt32 (by omega)) (i := rn) (by omega) (by rw [List.length_map]; omega) rfl (fun h511 W511 A511 => ?_)
    replace H := H.puti (by repeat (first | exact Rp.hd | apply Rp.tl)) W511
    refine w_aloadN C (pc' := 513) d9_512 rfl rfl rfl ?_
    refine w_dup C (pc' := 514) d9_513 rfl rfl ?_
    refine w_getfield C (pc' := 517) (tw hw 101 rfl) d9_514 (H.fl (by repeat (first | exact List.Mem.head _ | apply List.Mem.tail)) (by repeat (first | exact List.Mem.head _ | apply List.Mem.tail))) rfl ?_
    refine w_iconst C (pc' := 518) (z := 1) d9_517 rfl rfl ?_
    refine w_iadd C (pc' := 519) d9_518 rfl ?_
    refine w_putfield C (pc' := 522) (tw hw 101 rfl) (Or.inl (tw hw 102 rfl)) (tw hw 41 rfl) d9_519 (H.fl (by repeat (first | exact List.Mem.head _ | apply List.Mem.tail)) (by repeat (first | exact List.Mem.head _ | apply List.Mem.tail))) (H.ex (by repeat (first | exact List.Mem.head _ | apply List.Mem.tail))) (H.ge (by repeat (first | exact List.Mem.head _ | apply List.Mem.tail))) (t := .int) (by decide) rfl rfl rfl (fun h519 W519 F519 E519 => ?_)
    replace H := H.putf (layRB hw) (by repeat (first | exact Rp.hd | apply Rp.tl)) (by repeat (first | exact Rp.hd | apply Rp.tl)) W519
    refine w_iconst C (pc' := 523) (z := 1) d9_522 rfl rfl ?_
    exact w_iret C d9_523 (by simp) rfl (by decide) (by decide) (Or.inr (Or.inl ⟨rfl, hnew, pf, sl.toNatClampNeg, (fun e => by rw [b4 e]; rfl), H⟩))
  have J159s : SL[(hash &&& (32 - 1)).toInt.toNat]? = some 1 → EQ ho hash p' m m' B S → ∀ (x7 x8 : Int32) (x10 : Int64), x7.toInt ≤ 256 → Wp X 0 0 h 159 #[.val (.ref (A 0)), .val (.int part), .val (.int hash), .val (.ref ky), .val (.ref vy), .val (.int 0), .val (.int 0), .val (.int x7), .val (.int x8), .val (.int 16), .val (.long x10), .second, .unset, .unset] [] := by
    intro hs1 hE x7 x8 x10 h7
    have lB := cpy_len (T := B) (S := V) (x := nn) (m := mv) (by omega) hmv2
    refine w_iload C (pc' := 161) d9_159 rfl rfl ?_
    refine w_aloadN C (pc' := 162) d9_161 rfl rfl rfl ?_
    refine w_getfield C (pc' := 165) (tw hw 49 rfl) d9_162 (H.fl (by repeat (first | exact List.Mem.head _ | apply List.Mem.tail)) (by repeat (first | exact List.Mem.head _ | apply List.Mem.tail))) rfl ?_
    refine Wp.size C fun sz165 => ?_
    refine w_virtual C (pc' := 168) (W := 1) (tw hw 116 rfl) (tw hw 117 rfl) (tw hw 119 rfl) (tw hw 118 rfl) (tw hw 11 rfl) (tw hw 120 rfl) (by decide) pd_9 d9_165 (H.ex (by repeat (first | exact List.Mem.head _ | apply List.Mem.tail))) (c_16 X.l Z a0 hw (A 1) (A 2) (B.map vb) 256 n0 _ sz165 (H.fl (by repeat (first | exact List.Mem.head _ | apply List.Mem.tail)) (by repeat (first | exact List.Mem.head _ | apply List.Mem.tail))) (H.ar (by repeat (first | exact List.Mem.head _ | apply List.Mem.tail))) yB) rfl rfl rfl (by decide) rfl (by decide) (by decide) (by decide) rfl (fun v165 h165 q165 => ?_)
    obtain ⟨rfl, rfl⟩ := q165
    show Wp X _ _ _ 168 _ [_, _]
    refine w_jcmp_le C (pc' := 207) (pn := 171) d9_168 (by decide) (by decide) rfl (fun c168 => ?_) (fun c168 => ?_)
    rotate_left
    · exact absurd c168 (by omega)
    refine w_aloadN C (pc' := 208) d9_207 rfl rfl rfl ?_
    refine w_getfield C (pc' := 211) (tw hw 101 rfl) d9_208 (H.fl (by repeat (first | exact List.Mem.head _ | apply List.Mem.tail)) (by repeat (first | exact List.Mem.head _ | apply List.Mem.tail))) rfl ?_
    refine w_aloadN C (pc' := 212) d9_211 rfl rfl rfl ?_
    refine w_getfield C (pc' := 215) (tw hw 52 rfl) d9_212 (H.fl (by repeat (first | exact List.Mem.head _ | apply List.Mem.tail)) (by repeat (first | exact List.Mem.head _ | apply List.Mem.tail))) rfl ?_
    refine w_alen C (pc' := 216) d9_215 (H.ar (by repeat (first | exact List.Mem.head _ | apply List.Mem.tail))) (z := 16) yVF rfl ?_
    refine w_jcmp_ne C (pc' := 281) (pn := 219) d9_216 (by decide) (by decide) rfl (fun c216 => ?_) (fun c216 => ?_)
    rotate_left
    · exact absurd c216 (by omega)
    refine w_iload C (pc' := 283) d9_281 rfl rfl ?_
    refine w_aloadN C (pc' := 284) d9_283 rfl rfl rfl ?_
    refine w_getfield C (pc' := 287) (tw hw 58 rfl) d9_284 (H.fl (by repeat (first | exact List.Mem.head _ | apply List.Mem.tail)) (by repeat (first | exact List.Mem.head _ | apply List.Mem.tail))) rfl ?_
    refine w_alen C (pc' := 288) d9_287 (H.ar (by repeat (first | exact List.Mem.head _ | apply List.Mem.tail))) (z := 16) yKF rfl ?_
    refine w_jcmp_le C (pc' := 297) (pn := 291) d9_288 (by decide) (by decide) rfl (fun c288 => ?_) (fun c288 => ?_)
    rotate_left
    · exact absurd c288 (by omega)
    refine w_iload C (pc' := 299) d9_297 rfl rfl ?_
    refine w_jf_eq C (pc' := 420) (pn := 302) d9_299 (by decide) (by decide) rfl (fun c299 => ?_) (fun c299 => ?_)
    rotate_left
    · exact absurd z0 c299
    refine w_aloadN C (pc' := 421) d9_420 rfl rfl rfl ?_
    refine w_getfield C (pc' := 424) (tw hw 56 rfl) d9_421 (H.fl (by repeat (first | exact List.Mem.head _ | apply List.Mem.tail)) (by repeat (first | exact List.Mem.head _ | apply List.Mem.tail))) rfl ?_
    refine w_aloadN C (pc' := 425) d9_424 rfl rfl rfl ?_
    refine w_getfield C (pc' := 428) (tw hw 71 rfl) d9_425 (H.fl (by repeat (first | exact List.Mem.head _ | apply List.Mem.tail)) (by repeat (first | exact List.Mem.head _ | apply List.Mem.tail))) rfl ?_
    refine w_iload C (pc' := 430) d9_428 rfl rfl ?_
    refine w_iaload C (pc' := 431) d9_430 (H.ar (by repeat (first | exact List.Mem.head _ | apply List.Mem.tail))) (by decide) rfl (vi hlo) rfl ?_
    refine w_aloadN C (pc' := 432) d9_431 rfl rfl rfl ?_
    refine w_getfield C (pc' := 435) (tw hw 101 rfl) d9_432 (H.fl (by repeat (first | exact List.Mem.head _ | apply List.Mem.tail)) (by repeat (first | exact List.Mem.head _ | apply List.Mem.tail))) rfl ?_
    refine w_iastore C (pc' := 436) d9_435 (H.ar (by repeat (first | exact List.Mem.head _ | apply List.Mem.tail))) (H.ge (by repeat (first | exact List.Mem.head _ | apply List.Mem.tail))) (nlt32 (by omega)) (i := ln) (by omega) (by rw [List.length_map]; omega) rfl (fun h435 W435 A435 => ?_)
    replace H := H.puti (by repeat (first | exact Rp.hd | apply Rp.tl)) W435
    refine w_aloadN C (pc' := 437) d9_436 rfl rfl rfl ?_
    refine w_anull C (pc' := 438) d9_437 rfl ?_
    refine w_putfield C (pc' := 441) (tw hw 130 rfl) (Or.inl (tw hw 131 rfl)) (tw hw 41 rfl) d9_438 (H.fl (by repeat (first | exact List.Mem.head _ | apply List.Mem.tail)) (by repeat (first | exact List.Mem.head _ | apply List.Mem.tail))) (H.ex (by repeat (first | exact List.Mem.head _ | apply List.Mem.tail))) (H.ge (by repeat (first | exact List.Mem.head _ | apply List.Mem.tail))) (t := (.array .int)) (by decide) rfl rfl rfl (fun h438 W438 F438 E438 => ?_)
    replace H := H.putf (layRB hw) (by repeat (first | exact Rp.hd | apply Rp.tl)) (by repeat (first | exact Rp.hd | apply Rp.tl)) W438
    refine w_aloadN C (pc' := 442) d9_441 rfl rfl rfl ?_
    refine w_getfield C (pc' := 445) (tw hw 71 rfl) d9_442 (H.fl (by repeat (first | exact List.Mem.head _ | apply List.Mem.tail)) (by repeat (first | exact List.Mem.head _ | apply List.Mem.tail))) rfl ?_
    refine w_iload C (pc' := 447) d9_445 rfl rfl ?_
    refine w_aloadN C (pc' := 448) d9_447 rfl rfl rfl ?_
    refine w_getfield C (pc' := 451) (tw hw 101 rfl) d9_448 (H.fl (by repeat (first | exact List.Mem.head _ | apply List.Mem.tail)) (by repeat (first | exact List.Mem.head _ | apply List.Mem.tail))) rfl ?_
    refine w_iastore C (pc' := 452) d9_451 (H.ar (by repeat (first | exact List.Mem.head _ | apply List.Mem.tail))) (H.ge (by repeat (first | exact List.Mem.head _ | apply List.Mem.tail))) (by decide) (i := 0) rfl (by rw [List.length_map]; omega) rfl (fun h451 W451 A451 => ?_)
    replace H := H.puti (by repeat (first | exact Rp.hd | apply Rp.tl)) W451
    refine w_aloadN C (pc' := 453) d9_452 rfl rfl rfl ?_
    refine w_getfield C (pc' := 456) (tw hw 52 rfl) d9_453 (H.fl (by repeat (first | exact List.Mem.head _ | apply List.Mem.tail)) (by repeat (first | exact List.Mem.head _ | apply List.Mem.tail))) rfl ?_
    refine w_aloadN C (pc' := 457) d9_456 rfl rfl rfl ?_
    refine w_getfield C (pc' := 460) (tw hw 101 rfl) d9_457 (H.fl (by repeat (first | exact List.Mem.head _ | apply List.Mem.tail)) (by repeat (first | exact List.Mem.head _ | apply List.Mem.tail))) rfl ?_
    refine w_aloadN C (pc' := 461) d9_460 rfl rfl rfl ?_
    refine w_getfield C (pc' := 464) (tw hw 49 rfl) d9_461 (H.fl (by repeat (first | exact List.Mem.head _ | apply List.Mem.tail)) (by repeat (first | exact List.Mem.head _ | apply List.Mem.tail))) rfl ?_
    refine Wp.size C fun sz464 => ?_
    refine w_virtual C (pc' := 467) (W := 2) (tw hw 92 rfl) (tw hw 93 rfl) (tw hw 95 rfl) (tw hw 94 rfl) (tw hw 11 rfl) (tw hw 96 rfl) (by decide) pd_9 d9_464 (H.ex (by repeat (first | exact List.Mem.head _ | apply List.Mem.tail))) (c_12 X.l Z a0 hw (A 1) n n0 _ sz464 (H.fl (by repeat (first | exact List.Mem.head _ | apply List.Mem.tail)) (by repeat (first | exact List.Mem.head _ | apply List.Mem.tail)))) rfl rfl rfl (by decide) rfl (by decide) (by decide) (by decide) rfl (fun v464 h464 q464 => ?_)
    obtain ⟨rfl, rfl⟩ := q464
    show Wp X _ _ _ 467 _ [_, _, _]
    refine w_iastore C (pc' := 468) d9_467 (H.ar (by repeat (first | exact List.Mem.head _ | apply List.Mem.tail))) (H.ge (by repeat (first | exact List.Mem.head _ | apply List.Mem.tail))) (nlt32 (by omega)) (i := rn) (by omega) (by rw [List.length_map]; omega) rfl (fun h467 W467 A467 => ?_)
    replace H := H.puti (by repeat (first | exact Rp.hd | apply Rp.tl)) W467
    refine w_aloadN C (pc' := 469) d9_468 rfl rfl rfl ?_
    refine w_getfield C (pc' := 472) (tw hw 49 rfl) d9_469 (H.fl (by repeat (first | exact List.Mem.head _ | apply List.Mem.tail)) (by repeat (first | exact List.Mem.head _ | apply List.Mem.tail))) rfl ?_
    refine w_aload C (pc' := 474) d9_472 rfl rfl rfl ?_
    refine Wp.size C fun sz474 => ?_
    refine w_virtual C (pc' := 477) (W := 1) (tw hw 121 rfl) (tw hw 122 rfl) (tw hw 124 rfl) (tw hw 123 rfl) (tw hw 11 rfl) (tw hw 125 rfl) (by decide) pd_12 d9_474 (H.ex (by repeat (first | exact List.Mem.head _ | apply List.Mem.tail))) (c_17 X.l Z a0 hw vy va n0 _ sz474 (H.fl (by repeat (first | exact List.Mem.head _ | apply List.Mem.tail)) (by repeat (first | exact List.Mem.head _ | apply List.Mem.tail)))) rfl rfl rfl (by decide) rfl (by decide) (by decide) (by decide) rfl (fun v474 h474 q474 => ?_)
    obtain ⟨rfl, rfl⟩ := q474
    show Wp X _ _ _ 477 _ [_, _]
    refine w_iconst C (pc' := 478) (z := 0) d9_477 rfl rfl ?_
    refine w_aload C (pc' := 480) d9_478 rfl rfl rfl ?_
    refine Wp.size C fun sz480 => ?_
    refine w_virtual C (pc' := 483) (W := 3) (tw hw 92 rfl) (tw hw 93 rfl) (tw hw 95 rfl) (tw hw 94 rfl) (tw hw 11 rfl) (tw hw 96 rfl) (by decide) pd_9 d9_480 (H.ex (by repeat (first | exact List.Mem.head _ | apply List.Mem.tail))) (c_12 X.l Z a0 hw vy vn n0 _ sz480 (H.fl (by repeat (first | exact List.Mem.head _ | apply List.Mem.tail)) (by repeat (first | exact List.Mem.head _ | apply List.Mem.tail)))) rfl rfl rfl (by decide) rfl (by decide) (by decide) (by decide) rfl (fun v480 h480 q480 => ?_)
    obtain ⟨rfl, rfl⟩ := q480
    show Wp X _ _ _ 483 _ [_, _, _, _]
    refine Wp.size C fun sz483 => ?_
    refine w_virtual C (pc' := 486) (W := 0) (tw hw 129 rfl) (tw hw 26 rfl) (tw hw 28 rfl) (tw hw 27 rfl) (tw hw 11 rfl) (tw hw 29 rfl) (by decide) pd_4 d9_483 (H.ex (by repeat (first | exact List.Mem.head _ | apply List.Mem.tail))) (c_6 X.l Z a0 hw (A 1) (A 2) va n vn nn mv B V n0 _ sz483 (H.ge (by repeat (first | exact List.Mem.head _ | apply List.Mem.tail))) (H.ge (by repeat (first | exact List.Mem.head _ | apply List.Mem.tail))) n12 (H.mm (by repeat (first | exact List.Mem.head _ | apply List.Mem.tail))).2 (H.mm (by repeat (first | exact List.Mem.head _ | apply List.Mem.tail))).2 (H.mm (by repeat (first | exact List.Mem.head _ | apply List.Mem.tail))).2 (by omega) hnn hmv (by omega) hmv2) rfl rfl rfl (by decide) rfl (by decide) (by decide) (by decide) rfl (fun v483 h483 q483 => ?_)
    obtain ⟨rfl, Kq, cC, cD⟩ := q483
    show Wp X _ _ _ 486 _ []
    replace H := H.kept2 Kq n12 (by repeat (first | exact Rp.hd | apply Rp.tl)) (by repeat (first | exact Rp.hd | apply Rp.tl)) cC cD
    refine w_aloadN C (pc' := 487) d9_486 rfl rfl rfl ?_
    refine w_getfield C (pc' := 490) (tw hw 54 rfl) d9_487 (H.fl (by repeat (first | exact List.Mem.head _ | apply List.Mem.tail)) (by repeat (first | exact List.Mem.head _ | apply List.Mem.tail))) rfl ?_
    refine w_aloadN C (pc' := 491) d9_490 rfl rfl rfl ?_
    refine w_getfield C (pc' := 494) (tw hw 101 rfl) d9_491 (H.fl (by repeat (first | exact List.Mem.head _ | apply List.Mem.tail)) (by repeat (first | exact List.Mem.head _ | apply List.Mem.tail))) rfl ?_
    refine w_aloadN C (pc' := 495) d9_494 rfl rfl rfl ?_
    refine w_getfield C (pc' := 498) (tw hw 49 rfl) d9_495 (H.fl (by repeat (first | exact List.Mem.head _ | apply List.Mem.tail)) (by repeat (first | exact List.Mem.head _ | apply List.Mem.tail))) rfl ?_
    refine Wp.size C fun sz498 => ?_
    refine w_virtual C (pc' := 501) (W := 2) (tw hw 92 rfl) (tw hw 93 rfl) (tw hw 95 rfl) (tw hw 94 rfl) (tw hw 11 rfl) (tw hw 96 rfl) (by decide) pd_9 d9_498 (H.ex (by repeat (first | exact List.Mem.head _ | apply List.Mem.tail))) (c_12 X.l Z a0 hw (A 1) (n + vn) n0 _ sz498 (H.fl (by repeat (first | exact List.Mem.head _ | apply List.Mem.tail)) (by repeat (first | exact List.Mem.head _ | apply List.Mem.tail)))) rfl rfl rfl (by decide) rfl (by decide) (by decide) (by decide) rfl (fun v498 h498 q498 => ?_)
    obtain ⟨rfl, rfl⟩ := q498
    show Wp X _ _ _ 501 _ [_, _, _]
    refine w_iastore C (pc' := 502) d9_501 (H.ar (by repeat (first | exact List.Mem.head _ | apply List.Mem.tail))) (H.ge (by repeat (first | exact List.Mem.head _ | apply List.Mem.tail))) (nlt32 (by omega)) (i := rn) (by omega) (by rw [List.length_map]; omega) rfl (fun h501 W501 A501 => ?_)
    replace H := H.puti (by repeat (first | exact Rp.hd | apply Rp.tl)) W501
    refine w_aloadN C (pc' := 503) d9_502 rfl rfl rfl ?_
    refine w_getfield C (pc' := 506) (tw hw 56 rfl) d9_503 (H.fl (by repeat (first | exact List.Mem.head _ | apply List.Mem.tail)) (by repeat (first | exact List.Mem.head _ | apply List.Mem.tail))) rfl ?_
    refine w_aloadN C (pc' := 507) d9_506 rfl rfl rfl ?_
    refine w_getfield C (pc' := 510) (tw hw 101 rfl) d9_507 (H.fl (by repeat (first | exact List.Mem.head _ | apply List.Mem.tail)) (by repeat (first | exact List.Mem.head _ | apply List.Mem.tail))) rfl ?_
    refine w_iconst C (pc' := 511) (z := (-1)) d9_510 rfl rfl ?_
    refine w_iastore C (pc' := 512) d9_511 (H.ar (by repeat (first | exact List.Mem.head _ | apply List.Mem.tail))) (H.ge (by repeat (first | exact List.Mem.head _ | apply List.Mem.tail))) (nlt32 (by omega)) (i := rn) (by omega) (by rw [List.length_map, List.length_set]; omega) rfl (fun h511 W511 A511 => ?_)
    replace H := H.puti (by repeat (first | exact Rp.hd | apply Rp.tl)) W511
    refine w_aloadN C (pc' := 513) d9_512 rfl rfl rfl ?_
    refine w_dup C (pc' := 514) d9_513 rfl rfl ?_
    refine w_getfield C (pc' := 517) (tw hw 101 rfl) d9_514 (H.fl (by repeat (first | exact List.Mem.head _ | apply List.Mem.tail)) (by repeat (first | exact List.Mem.head _ | apply List.Mem.tail))) rfl ?_
    refine w_iconst C (pc' := 518) (z := 1) d9_517 rfl rfl ?_
    refine w_iadd C (pc' := 519) d9_518 rfl ?_
    refine w_putfield C (pc' := 522) (tw hw 101 rfl) (Or.inl (tw hw 102 rfl)) (tw hw 41 rfl) d9_519 (H.fl (by repeat (first | exact List.Mem.head _ | apply List.Mem.tail)) (by repeat (first | exact List.Mem.head _ | apply List.Mem.tail))) (H.ex (by repeat (first | exact List.Mem.head _ | apply List.Mem.tail))) (H.ge (by repeat (first | exact List.Mem.head _ | apply List.Mem.tail))) (t := .int) (by decide) rfl rfl rfl (fun h519 W519 F519 E519 => ?_)
    replace H := H.putf (layRB hw) (by repeat (first | exact Rp.hd | apply Rp.tl)) (by repeat (first | exact Rp.hd | apply Rp.tl)) W519
    refine w_iconst C (pc' := 523) (z := 1) d9_522 rfl rfl ?_
    exact w_iret C d9_523 (by simp) rfl (by decide) (by decide) (Or.inr (Or.inr ⟨rfl, hs1, hE, H⟩))
  refine w_aloadN C (pc' := 1) d9_0 rfl rfl rfl ?_
  refine w_iloadN C (pc' := 2) d9_1 rfl rfl ?_
  refine w_aloadN C (pc' := 3) d9_2 rfl rfl rfl ?_
  refine Wp.size C fun sz3 => ?_
  refine w_private C (pc' := 6) (W := 0) (tw hw 84 rfl) (tw hw 85 rfl) (tw hw 86 rfl) (tw hw 41 rfl) (tw hw 42 rfl) (tw hw 87 rfl) (by decide) pd_8 d9_3 (H.ex (by repeat (first | exact List.Mem.head _ | apply List.Mem.tail))) (c_10 X.l Z a0 n0 hO _ hw sz3 H14 ky ka hash kf kl ho kn p' m m' S K0 P) rfl rfl rfl (by decide) rfl (by decide) (by decide) (by decide) rfl (fun v3 h3 q3 => ?_)
  obtain ⟨⟨num, rfl, hnum⟩, rfl⟩ := q3
  show Wp X _ _ _ 6 _ [_]
  rcases hnum with ⟨rfl, hnew⟩ | ⟨rfl, hs1, hE⟩
  · refine w_istore C (pc' := 8) (ls' := #[_, _, _, _, _, _, _, _, _, _, _, _, _, _]) d9_6 rfl rfl ?_
    refine w_iload C (pc' := 10) d9_8 rfl rfl ?_
    refine w_iconst C (pc' := 11) (z := (-1)) d9_10 rfl rfl ?_
    refine w_jcmp_ne C (pc' := 18) (pn := 14) d9_11 (by decide) (by decide) rfl (fun c11 => ?_) (fun c11 => ?_)
    · exact absurd rfl c11
    refine w_iconst C (pc' := 15) (z := 1) d9_14 rfl rfl ?_
    refine w_goto C (pc' := 19) d9_15 (by decide) (by decide) ?_
    refine w_istore C (pc' := 21) (ls' := #[_, _, _, _, _, _, _, _, _, _, _, _, _, _]) d9_19 rfl rfl ?_
    refine w_aloadN C (pc' := 22) d9_21 rfl rfl rfl ?_
    refine w_getfield C (pc' := 25) (tw hw 49 rfl) d9_22 (H.fl (by repeat (first | exact List.Mem.head _ | apply List.Mem.tail)) (by repeat (first | exact List.Mem.head _ | apply List.Mem.tail))) rfl ?_
    refine Wp.size C fun sz25 => ?_
    refine w_virtual C (pc' := 28) (W := 0) (tw hw 92 rfl) (tw hw 93 rfl) (tw hw 95 rfl) (tw hw 94 rfl) (tw hw 11 rfl) (tw hw 96 rfl) (by decide) pd_9 d9_25 (H.ex (by repeat (first | exact List.Mem.head _ | apply List.Mem.tail))) (c_12 X.l Z a0 hw (A 1) n n0 _ sz25 (H.fl (by repeat (first | exact List.Mem.head _ | apply List.Mem.tail)) (by repeat (first | exact List.Mem.head _ | apply List.Mem.tail)))) rfl rfl rfl (by decide) rfl (by decide) (by decide) (by decide) rfl (fun v25 h25 q25 => ?_)
    obtain ⟨rfl, rfl⟩ := q25
    show Wp X _ _ _ 28 _ [_]
    refine w_aload C (pc' := 30) d9_28 rfl rfl rfl ?_
    refine Wp.size C fun sz30 => ?_
    refine w_virtual C (pc' := 33) (W := 1) (tw hw 92 rfl) (tw hw 93 rfl) (tw hw 95 rfl) (tw hw 94 rfl) (tw hw 11 rfl) (tw hw 96 rfl) (by decide) pd_9 d9_30 (H.ex (by repeat (first | exact List.Mem.head _ | apply List.Mem.tail))) (c_12 X.l Z a0 hw vy vn n0 _ sz30 (H.fl (by repeat (first | exact List.Mem.head _ | apply List.Mem.tail)) (by repeat (first | exact List.Mem.head _ | apply List.Mem.tail)))) rfl rfl rfl (by decide) rfl (by decide) (by decide) (by decide) rfl (fun v30 h30 q30 => ?_)
    obtain ⟨rfl, rfl⟩ := q30
    show Wp X _ _ _ 33 _ [_, _]
    refine w_iload C (pc' := 35) d9_33 rfl rfl ?_
    refine w_jf_eq C (pc' := 45) (pn := 38) d9_35 (by decide) (by decide) rfl (fun c35 => ?_) (fun c35 => ?_)
    · exact absurd c35 (by decide)
    refine w_aloadN C (pc' := 39) d9_38 rfl rfl rfl ?_
    refine Wp.size C fun sz39 => ?_
    refine w_virtual C (pc' := 42) (W := 2) (tw hw 92 rfl) (tw hw 93 rfl) (tw hw 95 rfl) (tw hw 94 rfl) (tw hw 11 rfl) (tw hw 96 rfl) (by decide) pd_9 d9_39 (H.ex (by repeat (first | exact List.Mem.head _ | apply List.Mem.tail))) (c_12 X.l Z a0 hw ky kn n0 _ sz39 (H.fl (by repeat (first | exact List.Mem.head _ | apply List.Mem.tail)) (by repeat (first | exact List.Mem.head _ | apply List.Mem.tail)))) rfl rfl rfl (by decide) rfl (by decide) (by decide) (by decide) rfl (fun v39 h39 q39 => ?_)
    obtain ⟨rfl, rfl⟩ := q39
    show Wp X _ _ _ 42 _ [_, _, _]
    refine w_goto C (pc' := 46) d9_42 (by decide) (by decide) ?_
    refine Wp.size C fun sz46 => ?_
    refine w_static C (pc' := 49) (W := 1) (tw hw 97 rfl) (tw hw 98 rfl) (tw hw 99 rfl) (tw hw 100 rfl) (by decide) pd_10 d9_46 (c_13 X.l Z _ _ n0 _ sz46 (by omega) (by omega)) rfl rfl rfl (by decide) rfl (by decide) (by decide) (by decide) rfl (fun v46 h46 q46 => ?_)
    obtain ⟨rfl, rfl⟩ := q46
    show Wp X _ _ _ 49 _ [_, _]
    refine Wp.size C fun sz49 => ?_
    refine w_static C (pc' := 52) (W := 0) (tw hw 97 rfl) (tw hw 98 rfl) (tw hw 99 rfl) (tw hw 100 rfl) (by decide) pd_10 d9_49 (c_13 X.l Z _ _ n0 _ sz49 (by omega) t1) rfl rfl rfl (by decide) rfl (by decide) (by decide) (by decide) rfl (fun v49 h49 q49 => ?_)
    obtain ⟨rfl, rfl⟩ := q49
    show Wp X _ _ _ 52 _ [_]
    refine w_istore C (pc' := 54) (ls' := #[_, _, _, _, _, _, _, _, _, _, _, _, _, _]) d9_52 rfl rfl ?_
    refine w_aloadN C (pc' := 55) d9_54 rfl rfl rfl ?_
    refine w_getfield C (pc' := 58) (tw hw 52 rfl) d9_55 (H.fl (by repeat (first | exact List.Mem.head _ | apply List.Mem.tail)) (by repeat (first | exact List.Mem.head _ | apply List.Mem.tail))) rfl ?_
    refine w_alen C (pc' := 59) d9_58 (H.ar (by repeat (first | exact List.Mem.head _ | apply List.Mem.tail))) (z := 16) yVF rfl ?_
    refine w_aloadN C (pc' := 60) d9_59 rfl rfl rfl ?_
    refine w_getfield C (pc' := 63) (tw hw 101 rfl) d9_60 (H.fl (by repeat (first | exact List.Mem.head _ | apply List.Mem.tail)) (by repeat (first | exact List.Mem.head _ | apply List.Mem.tail))) rfl ?_
    refine w_iconst C (pc' := 64) (z := 1) d9_63 rfl rfl ?_
    refine w_iadd C (pc' := 65) d9_64 rfl ?_
    refine Wp.size C fun sz65 => ?_
    refine w_static C (pc' := 68) (W := 0) (tw hw 103 rfl) (tw hw 104 rfl) (tw hw 99 rfl) (tw hw 105 rfl) (by decide) pd_10 d9_65 (c_14 X.l Z _ _ n0 _ sz65) rfl rfl rfl (by decide) rfl (by decide) (by decide) (by decide) rfl (fun v65 h65 q65 => ?_)
    obtain ⟨rfl, rfl⟩ := q65
    show Wp X _ _ _ 68 _ [_]
    refine w_istore C (pc' := 70) (ls' := #[_, _, _, _, _, _, _, _, _, _, _, _, _, _]) d9_68 rfl rfl ?_
    refine w_iload C (pc' := 72) d9_70 rfl rfl ?_
    refine w_jf_eq C (pc' := 97) (pn := 75) d9_72 (by decide) (by decide) rfl (fun c72 => ?_) (fun c72 => ?_)
    · exact absurd c72 (by decide)
    refine w_aloadN C (pc' := 76) d9_75 rfl rfl rfl ?_
    refine w_getfield C (pc' := 79) (tw hw 106 rfl) d9_76 (H.fl (by repeat (first | exact List.Mem.head _ | apply List.Mem.tail)) (by repeat (first | exact List.Mem.head _ | apply List.Mem.tail))) rfl ?_
    refine w_aloadN C (pc' := 80) d9_79 rfl rfl rfl ?_
    refine w_getfield C (pc' := 83) (tw hw 58 rfl) d9_80 (H.fl (by repeat (first | exact List.Mem.head _ | apply List.Mem.tail)) (by repeat (first | exact List.Mem.head _ | apply List.Mem.tail))) rfl ?_
    refine w_alen C (pc' := 84) d9_83 (H.ar (by repeat (first | exact List.Mem.head _ | apply List.Mem.tail))) (z := 16) yKF rfl ?_
    refine w_jcmp_ne C (pc' := 97) (pn := 87) d9_84 (by decide) (by decide) rfl (fun c84 => ?_) (fun c84 => ?_)
    rotate_left
    · exact absurd c84 (by omega)
    refine w_aloadN C (pc' := 98) d9_97 rfl rfl rfl ?_
    refine w_getfield C (pc' := 101) (tw hw 58 rfl) d9_98 (H.fl (by repeat (first | exact List.Mem.head _ | apply List.Mem.tail)) (by repeat (first | exact List.Mem.head _ | apply List.Mem.tail))) rfl ?_
    refine w_alen C (pc' := 102) d9_101 (H.ar (by repeat (first | exact List.Mem.head _ | apply List.Mem.tail))) (z := 16) yKF rfl ?_
    refine w_istore C (pc' := 104) (ls' := #[_, _, _, _, _, _, _, _, _, _, _, _, _, _]) d9_102 rfl rfl ?_
    refine w_aloadN C (pc' := 105) d9_104 rfl rfl rfl ?_
    refine Wp.size C fun sz105 => ?_
    refine w_private C (pc' := 108) (W := 0) (tw hw 108 rfl) (tw hw 109 rfl) (tw hw 110 rfl) (tw hw 41 rfl) (tw hw 42 rfl) (tw hw 111 rfl) (by decide) pd_11 d9_105 (H.ex (by repeat (first | exact List.Mem.head _ | apply List.Mem.tail))) (c_15 X.l Z a0 hw (A 0) p n0 _ sz105 (H.fl (by repeat (first | exact List.Mem.head _ | apply List.Mem.tail)) (by repeat (first | exact List.Mem.head _ | apply List.Mem.tail)))) rfl rfl rfl (by decide) rfl (by decide) (by decide) (by decide) rfl (fun v105 h105 q105 => ?_)
    obtain ⟨rfl, rfl⟩ := q105
    show Wp X _ _ _ 108 _ [_]
    refine w_ldc2 C (pc' := 111) (tw hw 114 rfl) d9_108 rfl ?_
    refine w_iload C (pc' := 113) d9_111 rfl rfl ?_
    refine w_i2l C (pc' := 114) d9_113 rfl ?_
    refine w_lmul C (pc' := 115) d9_114 rfl ?_
    refine w_ladd C (pc' := 116) d9_115 rfl ?_
    refine w_ldc2 C (pc' := 119) (tw hw 115 rfl) d9_116 rfl ?_
    refine w_iload C (pc' := 121) d9_119 rfl rfl ?_
    refine w_i2l C (pc' := 122) d9_121 rfl ?_
    refine w_lmul C (pc' := 123) d9_122 rfl ?_
    refine w_ladd C (pc' := 124) d9_123 rfl ?_
    refine w_lstore C (pc' := 126) (ls' := #[_, _, _, _, _, _, _, _, _, _, _, _, _, _]) d9_124 rfl rfl ?_
    refine w_aloadN C (pc' := 127) d9_126 rfl rfl rfl ?_
    refine w_getfield C (pc' := 130) (tw hw 101 rfl) d9_127 (H.fl (by repeat (first | exact List.Mem.head _ | apply List.Mem.tail)) (by repeat (first | exact List.Mem.head _ | apply List.Mem.tail))) rfl ?_
    refine w_jf_le C (pc' := 159) (pn := 133) d9_130 (by decide) (by decide) rfl (fun c130 => ?_) (fun c130 => ?_)
    · -- 130 taken -> 159
      -- STOP at 159
      exact J159n hnew _ _ _ s1
    · -- 130 not -> 133
      refine w_aloadN C (pc' := 134) d9_133 rfl rfl rfl ?_
      refine w_getfield C (pc' := 137) (tw hw 49 rfl) d9_134 (H.fl (by repeat (first | exact List.Mem.head _ | apply List.Mem.tail)) (by repeat (first | exact List.Mem.head _ | apply List.Mem.tail))) rfl ?_
      refine Wp.size C fun sz137 => ?_
      refine w_virtual C (pc' := 140) (W := 0) (tw hw 116 rfl) (tw hw 117 rfl) (tw hw 119 rfl) (tw hw 118 rfl) (tw hw 11 rfl) (tw hw 120 rfl) (by decide) pd_9 d9_137 (H.ex (by repeat (first | exact List.Mem.head _ | apply List.Mem.tail))) (c_16 X.l Z a0 hw (A 1) (A 2) (B.map vb) 256 n0 _ sz137 (H.fl (by repeat (first | exact List.Mem.head _ | apply List.Mem.tail)) (by repeat (first | exact List.Mem.head _ | apply List.Mem.tail))) (H.ar (by repeat (first | exact List.Mem.head _ | apply List.Mem.tail))) yB) rfl rfl rfl (by decide) rfl (by decide) (by decide) (by decide) rfl (fun v137 h137 q137 => ?_)
      obtain ⟨rfl, rfl⟩ := q137
      show Wp X _ _ _ 140 _ [_]
      refine w_iload C (pc' := 142) d9_140 rfl rfl ?_
      refine Wp.size C fun sz142 => ?_
      refine w_static C (pc' := 145) (W := 0) (tw hw 103 rfl) (tw hw 104 rfl) (tw hw 99 rfl) (tw hw 105 rfl) (by decide) pd_10 d9_142 (c_14 X.l Z _ _ n0 _ sz142) rfl rfl rfl (by decide) rfl (by decide) (by decide) (by decide) rfl (fun v142 h142 q142 => ?_)
      obtain ⟨rfl, rfl⟩ := q142
      show Wp X _ _ _ 145 _ [_]
      refine w_i2l C (pc' := 146) d9_145 rfl ?_
      refine w_lload C (pc' := 148) d9_146 rfl rfl ?_
      refine w_ladd C (pc' := 149) d9_148 rfl ?_
      refine w_aloadN C (pc' := 150) d9_149 rfl rfl rfl ?_
      refine w_getfield C (pc' := 153) (tw hw 77 rfl) d9_150 (H.fl (by repeat (first | exact List.Mem.head _ | apply List.Mem.tail)) (by repeat (first | exact List.Mem.head _ | apply List.Mem.tail))) rfl ?_
      refine w_jc_le C (pm := 154) (pc' := 159) (pn := 157) d9_153 rfl d9_154 (by decide) (by decide) rfl (fun c153 => ?_) (fun c153 => ?_)
      · -- 153 taken -> 159
        -- STOP at 159
        exact J159n hnew _ _ _ s1
      · -- 153 not -> 157
        refine w_iconst C (pc' := 158) (z := 0) d9_157 rfl rfl ?_
        exact w_iret C d9_158 (by simp) rfl (by decide) (by decide) (Or.inl ⟨rfl, by omega, rfl⟩)
  · refine w_istore C (pc' := 8) (ls' := #[_, _, _, _, _, _, _, _, _, _, _, _, _, _]) d9_6 rfl rfl ?_
    refine w_iload C (pc' := 10) d9_8 rfl rfl ?_
    refine w_iconst C (pc' := 11) (z := (-1)) d9_10 rfl rfl ?_
    refine w_jcmp_ne C (pc' := 18) (pn := 14) d9_11 (by decide) (by decide) rfl (fun c11 => ?_) (fun c11 => ?_)
    rotate_left
    · exact absurd c11 (by decide)
    refine w_iconst C (pc' := 19) (z := 0) d9_18 rfl rfl ?_
    refine w_istore C (pc' := 21) (ls' := #[_, _, _, _, _, _, _, _, _, _, _, _, _, _]) d9_19 rfl rfl ?_
    refine w_aloadN C (pc' := 22) d9_21 rfl rfl rfl ?_
    refine w_getfield C (pc' := 25) (tw hw 49 rfl) d9_22 (H.fl (by repeat (first | exact List.Mem.head _ | apply List.Mem.tail)) (by repeat (first | exact List.Mem.head _ | apply List.Mem.tail))) rfl ?_
    refine Wp.size C fun sz25 => ?_
    refine w_virtual C (pc' := 28) (W := 0) (tw hw 92 rfl) (tw hw 93 rfl) (tw hw 95 rfl) (tw hw 94 rfl) (tw hw 11 rfl) (tw hw 96 rfl) (by decide) pd_9 d9_25 (H.ex (by repeat (first | exact List.Mem.head _ | apply List.Mem.tail))) (c_12 X.l Z a0 hw (A 1) n n0 _ sz25 (H.fl (by repeat (first | exact List.Mem.head _ | apply List.Mem.tail)) (by repeat (first | exact List.Mem.head _ | apply List.Mem.tail)))) rfl rfl rfl (by decide) rfl (by decide) (by decide) (by decide) rfl (fun v25 h25 q25 => ?_)
    obtain ⟨rfl, rfl⟩ := q25
    show Wp X _ _ _ 28 _ [_]
    refine w_aload C (pc' := 30) d9_28 rfl rfl rfl ?_
    refine Wp.size C fun sz30 => ?_
    refine w_virtual C (pc' := 33) (W := 1) (tw hw 92 rfl) (tw hw 93 rfl) (tw hw 95 rfl) (tw hw 94 rfl) (tw hw 11 rfl) (tw hw 96 rfl) (by decide) pd_9 d9_30 (H.ex (by repeat (first | exact List.Mem.head _ | apply List.Mem.tail))) (c_12 X.l Z a0 hw vy vn n0 _ sz30 (H.fl (by repeat (first | exact List.Mem.head _ | apply List.Mem.tail)) (by repeat (first | exact List.Mem.head _ | apply List.Mem.tail)))) rfl rfl rfl (by decide) rfl (by decide) (by decide) (by decide) rfl (fun v30 h30 q30 => ?_)
    obtain ⟨rfl, rfl⟩ := q30
    show Wp X _ _ _ 33 _ [_, _]
    refine w_iload C (pc' := 35) d9_33 rfl rfl ?_
    refine w_jf_eq C (pc' := 45) (pn := 38) d9_35 (by decide) (by decide) rfl (fun c35 => ?_) (fun c35 => ?_)
    rotate_left
    · exact absurd z0 c35
    refine w_iconst C (pc' := 46) (z := 0) d9_45 rfl rfl ?_
    refine Wp.size C fun sz46 => ?_
    refine w_static C (pc' := 49) (W := 1) (tw hw 97 rfl) (tw hw 98 rfl) (tw hw 99 rfl) (tw hw 100 rfl) (by decide) pd_10 d9_46 (c_13 X.l Z _ _ n0 _ sz46 (by omega) (by omega)) rfl rfl rfl (by decide) rfl (by decide) (by decide) (by decide) rfl (fun v46 h46 q46 => ?_)
    obtain ⟨rfl, rfl⟩ := q46
    show Wp X _ _ _ 49 _ [_, _]
    refine Wp.size C fun sz49 => ?_
    refine w_static C (pc' := 52) (W := 0) (tw hw 97 rfl) (tw hw 98 rfl) (tw hw 99 rfl) (tw hw 100 rfl) (by decide) pd_10 d9_49 (c_13 X.l Z _ _ n0 _ sz49 (by omega) t2) rfl rfl rfl (by decide) rfl (by decide) (by decide) (by decide) rfl (fun v49 h49 q49 => ?_)
    obtain ⟨rfl, rfl⟩ := q49
    show Wp X _ _ _ 52 _ [_]
    refine w_istore C (pc' := 54) (ls' := #[_, _, _, _, _, _, _, _, _, _, _, _, _, _]) d9_52 rfl rfl ?_
    refine w_aloadN C (pc' := 55) d9_54 rfl rfl rfl ?_
    refine w_getfield C (pc' := 58) (tw hw 52 rfl) d9_55 (H.fl (by repeat (first | exact List.Mem.head _ | apply List.Mem.tail)) (by repeat (first | exact List.Mem.head _ | apply List.Mem.tail))) rfl ?_
    refine w_alen C (pc' := 59) d9_58 (H.ar (by repeat (first | exact List.Mem.head _ | apply List.Mem.tail))) (z := 16) yVF rfl ?_
    refine w_aloadN C (pc' := 60) d9_59 rfl rfl rfl ?_
    refine w_getfield C (pc' := 63) (tw hw 101 rfl) d9_60 (H.fl (by repeat (first | exact List.Mem.head _ | apply List.Mem.tail)) (by repeat (first | exact List.Mem.head _ | apply List.Mem.tail))) rfl ?_
    refine w_iconst C (pc' := 64) (z := 1) d9_63 rfl rfl ?_
    refine w_iadd C (pc' := 65) d9_64 rfl ?_
    refine Wp.size C fun sz65 => ?_
    refine w_static C (pc' := 68) (W := 0) (tw hw 103 rfl) (tw hw 104 rfl) (tw hw 99 rfl) (tw hw 105 rfl) (by decide) pd_10 d9_65 (c_14 X.l Z _ _ n0 _ sz65) rfl rfl rfl (by decide) rfl (by decide) (by decide) (by decide) rfl (fun v65 h65 q65 => ?_)
    obtain ⟨rfl, rfl⟩ := q65
    show Wp X _ _ _ 68 _ [_]
    refine w_istore C (pc' := 70) (ls' := #[_, _, _, _, _, _, _, _, _, _, _, _, _, _]) d9_68 rfl rfl ?_
    refine w_iload C (pc' := 72) d9_70 rfl rfl ?_
    refine w_jf_eq C (pc' := 97) (pn := 75) d9_72 (by decide) (by decide) rfl (fun c72 => ?_) (fun c72 => ?_)
    rotate_left
    · exact absurd z0 c72
    refine w_aloadN C (pc' := 98) d9_97 rfl rfl rfl ?_
    refine w_getfield C (pc' := 101) (tw hw 58 rfl) d9_98 (H.fl (by repeat (first | exact List.Mem.head _ | apply List.Mem.tail)) (by repeat (first | exact List.Mem.head _ | apply List.Mem.tail))) rfl ?_
    refine w_alen C (pc' := 102) d9_101 (H.ar (by repeat (first | exact List.Mem.head _ | apply List.Mem.tail))) (z := 16) yKF rfl ?_
    refine w_istore C (pc' := 104) (ls' := #[_, _, _, _, _, _, _, _, _, _, _, _, _, _]) d9_102 rfl rfl ?_
    refine w_aloadN C (pc' := 105) d9_104 rfl rfl rfl ?_
    refine Wp.size C fun sz105 => ?_
    refine w_private C (pc' := 108) (W := 0) (tw hw 108 rfl) (tw hw 109 rfl) (tw hw 110 rfl) (tw hw 41 rfl) (tw hw 42 rfl) (tw hw 111 rfl) (by decide) pd_11 d9_105 (H.ex (by repeat (first | exact List.Mem.head _ | apply List.Mem.tail))) (c_15 X.l Z a0 hw (A 0) p n0 _ sz105 (H.fl (by repeat (first | exact List.Mem.head _ | apply List.Mem.tail)) (by repeat (first | exact List.Mem.head _ | apply List.Mem.tail)))) rfl rfl rfl (by decide) rfl (by decide) (by decide) (by decide) rfl (fun v105 h105 q105 => ?_)
    obtain ⟨rfl, rfl⟩ := q105
    show Wp X _ _ _ 108 _ [_]
    refine w_ldc2 C (pc' := 111) (tw hw 114 rfl) d9_108 rfl ?_
    refine w_iload C (pc' := 113) d9_111 rfl rfl ?_
    refine w_i2l C (pc' := 114) d9_113 rfl ?_
    refine w_lmul C (pc' := 115) d9_114 rfl ?_
    refine w_ladd C (pc' := 116) d9_115 rfl ?_
    refine w_ldc2 C (pc' := 119) (tw hw 115 rfl) d9_116 rfl ?_
    refine w_iload C (pc' := 121) d9_119 rfl rfl ?_
    refine w_i2l C (pc' := 122) d9_121 rfl ?_
    refine w_lmul C (pc' := 123) d9_122 rfl ?_
    refine w_ladd C (pc' := 124) d9_123 rfl ?_
    refine w_lstore C (pc' := 126) (ls' := #[_, _, _, _, _, _, _, _, _, _, _, _, _, _]) d9_124 rfl rfl ?_
    refine w_aloadN C (pc' := 127) d9_126 rfl rfl rfl ?_
    refine w_getfield C (pc' := 130) (tw hw 101 rfl) d9_127 (H.fl (by repeat (first | exact List.Mem.head _ | apply List.Mem.tail)) (by repeat (first | exact List.Mem.head _ | apply List.Mem.tail))) rfl ?_
    refine w_jf_le C (pc' := 159) (pn := 133) d9_130 (by decide) (by decide) rfl (fun c130 => ?_) (fun c130 => ?_)
    · -- 130 taken -> 159
      -- STOP at 159
      exact J159s hs1 hE _ _ _ s2
    · -- 130 not -> 133
      refine w_aloadN C (pc' := 134) d9_133 rfl rfl rfl ?_
      refine w_getfield C (pc' := 137) (tw hw 49 rfl) d9_134 (H.fl (by repeat (first | exact List.Mem.head _ | apply List.Mem.tail)) (by repeat (first | exact List.Mem.head _ | apply List.Mem.tail))) rfl ?_
      refine Wp.size C fun sz137 => ?_
      refine w_virtual C (pc' := 140) (W := 0) (tw hw 116 rfl) (tw hw 117 rfl) (tw hw 119 rfl) (tw hw 118 rfl) (tw hw 11 rfl) (tw hw 120 rfl) (by decide) pd_9 d9_137 (H.ex (by repeat (first | exact List.Mem.head _ | apply List.Mem.tail))) (c_16 X.l Z a0 hw (A 1) (A 2) (B.map vb) 256 n0 _ sz137 (H.fl (by repeat (first | exact List.Mem.head _ | apply List.Mem.tail)) (by repeat (first | exact List.Mem.head _ | apply List.Mem.tail))) (H.ar (by repeat (first | exact List.Mem.head _ | apply List.Mem.tail))) yB) rfl rfl rfl (by decide) rfl (by decide) (by decide) (by decide) rfl (fun v137 h137 q137 => ?_)
      obtain ⟨rfl, rfl⟩ := q137
      show Wp X _ _ _ 140 _ [_]
      refine w_iload C (pc' := 142) d9_140 rfl rfl ?_
      refine Wp.size C fun sz142 => ?_
      refine w_static C (pc' := 145) (W := 0) (tw hw 103 rfl) (tw hw 104 rfl) (tw hw 99 rfl) (tw hw 105 rfl) (by decide) pd_10 d9_142 (c_14 X.l Z _ _ n0 _ sz142) rfl rfl rfl (by decide) rfl (by decide) (by decide) (by decide) rfl (fun v142 h142 q142 => ?_)
      obtain ⟨rfl, rfl⟩ := q142
      show Wp X _ _ _ 145 _ [_]
      refine w_i2l C (pc' := 146) d9_145 rfl ?_
      refine w_lload C (pc' := 148) d9_146 rfl rfl ?_
      refine w_ladd C (pc' := 149) d9_148 rfl ?_
      refine w_aloadN C (pc' := 150) d9_149 rfl rfl rfl ?_
      refine w_getfield C (pc' := 153) (tw hw 77 rfl) d9_150 (H.fl (by repeat (first | exact List.Mem.head _ | apply List.Mem.tail)) (by repeat (first | exact List.Mem.head _ | apply List.Mem.tail))) rfl ?_
      refine w_jc_le C (pm := 154) (pc' := 159) (pn := 157) d9_153 rfl d9_154 (by decide) (by decide) rfl (fun c153 => ?_) (fun c153 => ?_)
      · -- 153 taken -> 159
        -- STOP at 159
        exact J159s hs1 hE _ _ _ s2
      · -- 153 not -> 157
        refine w_iconst C (pc' := 158) (z := 0) d9_157 rfl rfl ?_
        exact w_iret C d9_158 (by simp) rfl (by decide) (by decide) (Or.inl ⟨rfl, by omega, rfl⟩)
end Add
theorem Hs.keptNew {Z : State} {n0 : Nat} {hO h h' : Heap} {L L' : List (Addr × CD)} {a b : Addr} {d d' e : CD} (H : Hs Z n0 hO h L) (K : Keep h h' [a]) (r : Rp (a, d) (a, d') L L') (q : C1 Z h' a d') (g : h.size ≤ b) (hn : n0 ≤ h.size) (qb : C1 Z h' b e) : Hs Z n0 hO h' ((b, e) :: L') := by
  have H' := H.kept1 K r q
  refine ⟨?_, ?_, H'.2.2⟩
  · rw [List.map_cons, List.nodup_cons]
    refine ⟨fun z => ?_, H'.1⟩
    rw [← r.fst] at z
    obtain ⟨x, hx, ex⟩ := List.mem_map.mp z
    have := H.lts x hx
    rw [ex] at this
    exact absurd g (Nat.not_le.mpr this)
  · intro x hx
    rcases List.mem_cons.mp hx with rfl | hx
    · exact ⟨Nat.le_trans hn g, qb⟩
    · exact H'.2.1 x hx
abbrev rm8 : Room := { frames := 3, cells := 13, slots := 720, locals := 80 }
set_option maxRecDepth 65536 in
set_option maxHeartbeats 40000000 in
theorem c_8 (l : Launch) (Z : State) (a0 : Array Value) (n0 : Nat) (hO h : Heap) (hw : ∀ d ∈ tables_1, d.before a0 Z = true) (hn : n0 ≤ h.size) (o : Addr) (p : Int32) (lim : Int64) (m1 m2 m3 m4 : Addr × CD)
    (H : Hs Z n0 hO h [(o, rbo 0 0 .null 0 .null .null .null 0 .null .null .null .null .null .null .null .null .null .null), m1, m2, m3, m4]) :
    Ct l Z y8 prog_78_method_1_code 4 none rm8 n0 [] #[.ref o, .int p, .long lim] h (fun v h' => v = none ∧ ∃ A : Nat → Addr, A 0 = o ∧ Hs Z n0 hO h' (cells A p lim 0 0 0 .null .null (List.replicate 256 0) (List.replicate 16 0) (List.replicate 16 0) (List.replicate 16 0) (List.replicate 16 0) (List.replicate 16 0) (List.replicate 16 0) (List.replicate 16 0) (List.replicate 16 0) (List.replicate 16 0) (List.replicate 16 0) (List.replicate 32 0) ++ [m1, m2, m3, m4])) := by
  refine ct_of pn_8 hn (ef_8 o p lim) fun X C => ?_
  refine w_aloadN C (pc' := 1) d8_0 rfl rfl rfl ?_
  refine w_initO C (pc' := 4) (W := 0) (tw hw 46 rfl) (tw hw 21 rfl) (tw hw 22 rfl) d8_1 rfl (by decide) rfl (by decide) rfl ?_
  refine w_aloadN C (pc' := 5) d8_4 rfl rfl rfl ?_
  refine w_new C (pc' := 8) (tw hw 47 rfl) (tw hw 10 rfl) (tw hw 11 rfl) d8_5 (by decide) (by decide) rfl (fun h5 a5 e5 g5 E5 K5 D5 => ?_)  -- com/example/runnel/runnel/runtime/Bytes
  replace H := H.cons E5 e5 g5 (newBY hw K5 D5)
  refine w_dup C (pc' := 9) d8_8 rfl rfl ?_
  refine w_sipush C (pc' := 12) (z := 256) d8_9 rfl rfl ?_
  refine Wp.size C fun sz12 => ?_
  refine w_special C (pc' := 15) (W := 2) (tw hw 48 rfl) (tw hw 13 rfl) (tw hw 11 rfl) (tw hw 14 rfl) rfl (by decide) pd_2 d8_12 (c_3 X.l Z a0 hw a5 256 256 n0 _ sz12 (H.ge (by repeat (first | exact List.Mem.head _ | apply List.Mem.tail))) (H.mm (by repeat (first | exact List.Mem.head _ | apply List.Mem.tail))).2 (by decide) rfl (by decide)) rfl rfl rfl (by decide) rfl (by decide) (by decide) (by decide) rfl (fun v12 h12 q12 => ?_)
  obtain ⟨rfl, b, Kb, gb, lb, cA, cB⟩ := q12
  show Wp X _ _ _ 15 _ [_, _]
  replace H := H.keptNew Kb (by repeat (first | exact Rp.hd | apply Rp.tl)) cA gb sz12 cB
  refine w_putfield C (pc' := 18) (tw hw 49 rfl) (Or.inl (tw hw 50 rfl)) (tw hw 41 rfl) d8_15 (H.fl (by repeat (first | exact List.Mem.head _ | apply List.Mem.tail)) (by repeat (first | exact List.Mem.head _ | apply List.Mem.tail))) (H.ex (by repeat (first | exact List.Mem.head _ | apply List.Mem.tail))) (H.ge (by repeat (first | exact List.Mem.head _ | apply List.Mem.tail))) (t := (.object "com/example/runnel/runnel/runtime/Bytes")) (by decide) rfl rfl rfl (fun h15 W15 F15 E15 => ?_)
  replace H := H.putf (layRB hw) (by repeat (first | exact Rp.hd | apply Rp.tl)) (by repeat (first | exact Rp.hd | apply Rp.tl)) W15
  refine w_aloadN C (pc' := 19) d8_18 rfl rfl rfl ?_
  refine w_bipush C (pc' := 21) (z := 16) d8_19 rfl rfl ?_
  refine w_newarray C (pc' := 23) (cap := 16) (tw hw 51 rfl) d8_21 (by decide) (by decide) (by decide) (by decide) (by decide) rfl (fun h21 a21 e21 g21 E21 A21 => ?_)
  replace H := H.cons E21 e21 g21 (nwI (m := 16) rfl A21)
  refine w_putfield C (pc' := 26) (tw hw 52 rfl) (Or.inl (tw hw 53 rfl)) (tw hw 41 rfl) d8_23 (H.fl (by repeat (first | exact List.Mem.head _ | apply List.Mem.tail)) (by repeat (first | exact List.Mem.head _ | apply List.Mem.tail))) (H.ex (by repeat (first | exact List.Mem.head _ | apply List.Mem.tail))) (H.ge (by repeat (first | exact List.Mem.head _ | apply List.Mem.tail))) (t := (.array .int)) (by decide) rfl rfl rfl (fun h23 W23 F23 E23 => ?_)
  replace H := H.putf (layRB hw) (by repeat (first | exact Rp.hd | apply Rp.tl)) (by repeat (first | exact Rp.hd | apply Rp.tl)) W23
  refine w_aloadN C (pc' := 27) d8_26 rfl rfl rfl ?_
  refine w_bipush C (pc' := 29) (z := 16) d8_27 rfl rfl ?_
  refine w_newarray C (pc' := 31) (cap := 16) (tw hw 51 rfl) d8_29 (by decide) (by decide) (by decide) (by decide) (by decide) rfl (fun h29 a29 e29 g29 E29 A29 => ?_)
  replace H := H.cons E29 e29 g29 (nwI (m := 16) rfl A29)
  refine w_putfield C (pc' := 34) (tw hw 54 rfl) (Or.inl (tw hw 55 rfl)) (tw hw 41 rfl) d8_31 (H.fl (by repeat (first | exact List.Mem.head _ | apply List.Mem.tail)) (by repeat (first | exact List.Mem.head _ | apply List.Mem.tail))) (H.ex (by repeat (first | exact List.Mem.head _ | apply List.Mem.tail))) (H.ge (by repeat (first | exact List.Mem.head _ | apply List.Mem.tail))) (t := (.array .int)) (by decide) rfl rfl rfl (fun h31 W31 F31 E31 => ?_)
  replace H := H.putf (layRB hw) (by repeat (first | exact Rp.hd | apply Rp.tl)) (by repeat (first | exact Rp.hd | apply Rp.tl)) W31
  refine w_aloadN C (pc' := 35) d8_34 rfl rfl rfl ?_
  refine w_bipush C (pc' := 37) (z := 16) d8_35 rfl rfl ?_
  refine w_newarray C (pc' := 39) (cap := 16) (tw hw 51 rfl) d8_37 (by decide) (by decide) (by decide) (by decide) (by decide) rfl (fun h37 a37 e37 g37 E37 A37 => ?_)
  replace H := H.cons E37 e37 g37 (nwI (m := 16) rfl A37)
  refine w_putfield C (pc' := 42) (tw hw 56 rfl) (Or.inl (tw hw 57 rfl)) (tw hw 41 rfl) d8_39 (H.fl (by repeat (first | exact List.Mem.head _ | apply List.Mem.tail)) (by repeat (first | exact List.Mem.head _ | apply List.Mem.tail))) (H.ex (by repeat (first | exact List.Mem.head _ | apply List.Mem.tail))) (H.ge (by repeat (first | exact List.Mem.head _ | apply List.Mem.tail))) (t := (.array .int)) (by decide) rfl rfl rfl (fun h39 W39 F39 E39 => ?_)
  replace H := H.putf (layRB hw) (by repeat (first | exact Rp.hd | apply Rp.tl)) (by repeat (first | exact Rp.hd | apply Rp.tl)) W39
  refine w_aloadN C (pc' := 43) d8_42 rfl rfl rfl ?_
  refine w_bipush C (pc' := 45) (z := 16) d8_43 rfl rfl ?_
  refine w_newarray C (pc' := 47) (cap := 16) (tw hw 51 rfl) d8_45 (by decide) (by decide) (by decide) (by decide) (by decide) rfl (fun h45 a45 e45 g45 E45 A45 => ?_)
  replace H := H.cons E45 e45 g45 (nwI (m := 16) rfl A45)
  refine w_putfield C (pc' := 50) (tw hw 58 rfl) (Or.inl (tw hw 59 rfl)) (tw hw 41 rfl) d8_47 (H.fl (by repeat (first | exact List.Mem.head _ | apply List.Mem.tail)) (by repeat (first | exact List.Mem.head _ | apply List.Mem.tail))) (H.ex (by repeat (first | exact List.Mem.head _ | apply List.Mem.tail))) (H.ge (by repeat (first | exact List.Mem.head _ | apply List.Mem.tail))) (t := (.array .int)) (by decide) rfl rfl rfl (fun h47 W47 F47 E47 => ?_)
  replace H := H.putf (layRB hw) (by repeat (first | exact Rp.hd | apply Rp.tl)) (by repeat (first | exact Rp.hd | apply Rp.tl)) W47
  refine w_aloadN C (pc' := 51) d8_50 rfl rfl rfl ?_
  refine w_bipush C (pc' := 53) (z := 16) d8_51 rfl rfl ?_
  refine w_newarray C (pc' := 55) (cap := 16) (tw hw 51 rfl) d8_53 (by decide) (by decide) (by decide) (by decide) (by decide) rfl (fun h53 a53 e53 g53 E53 A53 => ?_)
  replace H := H.cons E53 e53 g53 (nwI (m := 16) rfl A53)
  refine w_putfield C (pc' := 58) (tw hw 60 rfl) (Or.inl (tw hw 61 rfl)) (tw hw 41 rfl) d8_55 (H.fl (by repeat (first | exact List.Mem.head _ | apply List.Mem.tail)) (by repeat (first | exact List.Mem.head _ | apply List.Mem.tail))) (H.ex (by repeat (first | exact List.Mem.head _ | apply List.Mem.tail))) (H.ge (by repeat (first | exact List.Mem.head _ | apply List.Mem.tail))) (t := (.array .int)) (by decide) rfl rfl rfl (fun h55 W55 F55 E55 => ?_)
  replace H := H.putf (layRB hw) (by repeat (first | exact Rp.hd | apply Rp.tl)) (by repeat (first | exact Rp.hd | apply Rp.tl)) W55
  refine w_aloadN C (pc' := 59) d8_58 rfl rfl rfl ?_
  refine w_bipush C (pc' := 61) (z := 16) d8_59 rfl rfl ?_
  refine w_newarray C (pc' := 63) (cap := 16) (tw hw 51 rfl) d8_61 (by decide) (by decide) (by decide) (by decide) (by decide) rfl (fun h61 a61 e61 g61 E61 A61 => ?_)
  replace H := H.cons E61 e61 g61 (nwI (m := 16) rfl A61)
  refine w_putfield C (pc' := 66) (tw hw 62 rfl) (Or.inl (tw hw 63 rfl)) (tw hw 41 rfl) d8_63 (H.fl (by repeat (first | exact List.Mem.head _ | apply List.Mem.tail)) (by repeat (first | exact List.Mem.head _ | apply List.Mem.tail))) (H.ex (by repeat (first | exact List.Mem.head _ | apply List.Mem.tail))) (H.ge (by repeat (first | exact List.Mem.head _ | apply List.Mem.tail))) (t := (.array .int)) (by decide) rfl rfl rfl (fun h63 W63 F63 E63 => ?_)
  replace H := H.putf (layRB hw) (by repeat (first | exact Rp.hd | apply Rp.tl)) (by repeat (first | exact Rp.hd | apply Rp.tl)) W63
  refine w_aloadN C (pc' := 67) d8_66 rfl rfl rfl ?_
  refine w_bipush C (pc' := 69) (z := 16) d8_67 rfl rfl ?_
  refine w_newarray C (pc' := 71) (cap := 16) (tw hw 51 rfl) d8_69 (by decide) (by decide) (by decide) (by decide) (by decide) rfl (fun h69 a69 e69 g69 E69 A69 => ?_)
  replace H := H.cons E69 e69 g69 (nwI (m := 16) rfl A69)
  refine w_putfield C (pc' := 74) (tw hw 64 rfl) (Or.inl (tw hw 65 rfl)) (tw hw 41 rfl) d8_71 (H.fl (by repeat (first | exact List.Mem.head _ | apply List.Mem.tail)) (by repeat (first | exact List.Mem.head _ | apply List.Mem.tail))) (H.ex (by repeat (first | exact List.Mem.head _ | apply List.Mem.tail))) (H.ge (by repeat (first | exact List.Mem.head _ | apply List.Mem.tail))) (t := (.array .int)) (by decide) rfl rfl rfl (fun h71 W71 F71 E71 => ?_)
  replace H := H.putf (layRB hw) (by repeat (first | exact Rp.hd | apply Rp.tl)) (by repeat (first | exact Rp.hd | apply Rp.tl)) W71
  refine w_aloadN C (pc' := 75) d8_74 rfl rfl rfl ?_
  refine w_bipush C (pc' := 77) (z := 16) d8_75 rfl rfl ?_
  refine w_newarray C (pc' := 79) (cap := 16) (tw hw 66 rfl) d8_77 (by decide) (by decide) (by decide) (by decide) (by decide) rfl (fun h77 a77 e77 g77 E77 A77 => ?_)
  replace H := H.cons E77 e77 g77 (nwL (m := 16) rfl A77)
  refine w_putfield C (pc' := 82) (tw hw 67 rfl) (Or.inl (tw hw 68 rfl)) (tw hw 41 rfl) d8_79 (H.fl (by repeat (first | exact List.Mem.head _ | apply List.Mem.tail)) (by repeat (first | exact List.Mem.head _ | apply List.Mem.tail))) (H.ex (by repeat (first | exact List.Mem.head _ | apply List.Mem.tail))) (H.ge (by repeat (first | exact List.Mem.head _ | apply List.Mem.tail))) (t := (.array .long)) (by decide) rfl rfl rfl (fun h79 W79 F79 E79 => ?_)
  replace H := H.putf (layRB hw) (by repeat (first | exact Rp.hd | apply Rp.tl)) (by repeat (first | exact Rp.hd | apply Rp.tl)) W79
  refine w_aloadN C (pc' := 83) d8_82 rfl rfl rfl ?_
  refine w_bipush C (pc' := 85) (z := 16) d8_83 rfl rfl ?_
  refine w_newarray C (pc' := 87) (cap := 16) (tw hw 51 rfl) d8_85 (by decide) (by decide) (by decide) (by decide) (by decide) rfl (fun h85 a85 e85 g85 E85 A85 => ?_)
  replace H := H.cons E85 e85 g85 (nwI (m := 16) rfl A85)
  refine w_putfield C (pc' := 90) (tw hw 69 rfl) (Or.inl (tw hw 70 rfl)) (tw hw 41 rfl) d8_87 (H.fl (by repeat (first | exact List.Mem.head _ | apply List.Mem.tail)) (by repeat (first | exact List.Mem.head _ | apply List.Mem.tail))) (H.ex (by repeat (first | exact List.Mem.head _ | apply List.Mem.tail))) (H.ge (by repeat (first | exact List.Mem.head _ | apply List.Mem.tail))) (t := (.array .int)) (by decide) rfl rfl rfl (fun h87 W87 F87 E87 => ?_)
  replace H := H.putf (layRB hw) (by repeat (first | exact Rp.hd | apply Rp.tl)) (by repeat (first | exact Rp.hd | apply Rp.tl)) W87
  refine w_aloadN C (pc' := 91) d8_90 rfl rfl rfl ?_
  refine w_bipush C (pc' := 93) (z := 16) d8_91 rfl rfl ?_
  refine w_newarray C (pc' := 95) (cap := 16) (tw hw 51 rfl) d8_93 (by decide) (by decide) (by decide) (by decide) (by decide) rfl (fun h93 a93 e93 g93 E93 A93 => ?_)
  replace H := H.cons E93 e93 g93 (nwI (m := 16) rfl A93)
  refine w_putfield C (pc' := 98) (tw hw 71 rfl) (Or.inl (tw hw 72 rfl)) (tw hw 41 rfl) d8_95 (H.fl (by repeat (first | exact List.Mem.head _ | apply List.Mem.tail)) (by repeat (first | exact List.Mem.head _ | apply List.Mem.tail))) (H.ex (by repeat (first | exact List.Mem.head _ | apply List.Mem.tail))) (H.ge (by repeat (first | exact List.Mem.head _ | apply List.Mem.tail))) (t := (.array .int)) (by decide) rfl rfl rfl (fun h95 W95 F95 E95 => ?_)
  replace H := H.putf (layRB hw) (by repeat (first | exact Rp.hd | apply Rp.tl)) (by repeat (first | exact Rp.hd | apply Rp.tl)) W95
  refine w_aloadN C (pc' := 99) d8_98 rfl rfl rfl ?_
  refine w_bipush C (pc' := 101) (z := 32) d8_99 rfl rfl ?_
  refine w_newarray C (pc' := 103) (cap := 32) (tw hw 51 rfl) d8_101 (by decide) (by decide) (by decide) (by decide) (by decide) rfl (fun h101 a101 e101 g101 E101 A101 => ?_)
  replace H := H.cons E101 e101 g101 (nwI (m := 32) rfl A101)
  refine w_putfield C (pc' := 106) (tw hw 73 rfl) (Or.inl (tw hw 74 rfl)) (tw hw 41 rfl) d8_103 (H.fl (by repeat (first | exact List.Mem.head _ | apply List.Mem.tail)) (by repeat (first | exact List.Mem.head _ | apply List.Mem.tail))) (H.ex (by repeat (first | exact List.Mem.head _ | apply List.Mem.tail))) (H.ge (by repeat (first | exact List.Mem.head _ | apply List.Mem.tail))) (t := (.array .int)) (by decide) rfl rfl rfl (fun h103 W103 F103 E103 => ?_)
  replace H := H.putf (layRB hw) (by repeat (first | exact Rp.hd | apply Rp.tl)) (by repeat (first | exact Rp.hd | apply Rp.tl)) W103
  refine w_aloadN C (pc' := 107) d8_106 rfl rfl rfl ?_
  refine w_iloadN C (pc' := 108) d8_107 rfl rfl ?_
  refine w_putfield C (pc' := 111) (tw hw 75 rfl) (Or.inr ⟨tw hw 76 rfl, rfl, rfl⟩) (tw hw 41 rfl) d8_108 (H.fl (by repeat (first | exact List.Mem.head _ | apply List.Mem.tail)) (by repeat (first | exact List.Mem.head _ | apply List.Mem.tail))) (H.ex (by repeat (first | exact List.Mem.head _ | apply List.Mem.tail))) (H.ge (by repeat (first | exact List.Mem.head _ | apply List.Mem.tail))) (t := .int) (by decide) rfl rfl rfl (fun h108 W108 F108 E108 => ?_)
  replace H := H.putf (layRB hw) (by repeat (first | exact Rp.hd | apply Rp.tl)) (by repeat (first | exact Rp.hd | apply Rp.tl)) W108
  refine w_aloadN C (pc' := 112) d8_111 rfl rfl rfl ?_
  refine w_lloadN C (pc' := 113) d8_112 rfl rfl ?_
  refine w_putfield C (pc' := 116) (tw hw 77 rfl) (Or.inr ⟨tw hw 78 rfl, rfl, rfl⟩) (tw hw 41 rfl) d8_113 (H.fl (by repeat (first | exact List.Mem.head _ | apply List.Mem.tail)) (by repeat (first | exact List.Mem.head _ | apply List.Mem.tail))) (H.ex (by repeat (first | exact List.Mem.head _ | apply List.Mem.tail))) (H.ge (by repeat (first | exact List.Mem.head _ | apply List.Mem.tail))) (t := .long) (by decide) rfl rfl rfl (fun h113 W113 F113 E113 => ?_)
  replace H := H.putf (layRB hw) (by repeat (first | exact Rp.hd | apply Rp.tl)) (by repeat (first | exact Rp.hd | apply Rp.tl)) W113
  exact w_vret C d8_116 (by decide) (by decide) ⟨rfl, fun i => [o, a5, b, a21, a29, a37, a45, a53, a61, a69, a77, a85, a93, a101].getD i 0, rfl, H.pick [13, 12, 11, 10, 9, 8, 7, 6, 5, 4, 3, 2, 1, 0, 14, 15, 16, 17] (by decide) rfl⟩
section SortA
variable (l : Launch) (Z : State) (a0 : Array Value) (n0 : Nat) (hO h : Heap) {A : Nat → Addr} {p : Int32} {lim : Int64} {r k n : Int32} {ord en : Value} {B : List Int8} {VF VT NX KF KL HO PO : List Int32} {PF : List Int64} {FO LO SL : List Int32}
abbrev rm33 : Room := { frames := 3, cells := 0, slots := 0, locals := 100 }
set_option maxRecDepth 65536 in
set_option maxHeartbeats 40000000 in
theorem c_33 (hw : ∀ d ∈ tables_1, d.before a0 Z = true) (hn : n0 ≤ h.size) (H : Hs Z n0 hO h (cells A p lim r k n ord en B VF VT NX KF KL HO PO PF FO LO SL)) (x y : Int32) (i j : Nat) (hx : x.toInt = i) (hy : y.toInt = j) (hi : i < 16) (hj : j < 16) (l4 : KF.length = 16) (l5 : KL.length = 16) (l7 : PO.length = 16) (l8 : PF.length = 16) (hkl : ∀ z, KL[i]? = some z → z.toInt ≤ 8) :
    Ct l Z y33 prog_78_method_21_code 5 (some .int) rm33 n0 [] #[.ref (A 0), .int x, .int y] h (fun v h' => (∃ r : Int32, v = some (.int r)) ∧ h' = h) := by
  refine ct_of pn_33 hn (ef_33 (A 0) x y) fun X C => ?_
  unfold cells at H
  have cx := clamp32 (x := x) (by omega)
  have cy := clamp32 (x := y) (by omega)
  have nx := nlt32 (x := x) (by omega)
  have ny := nlt32 (x := y) (by omega)
  have ex : x.toNatClampNeg = i := by omega
  have ey : y.toNatClampNeg = j := by omega
  have hd : ∀ u w : Int32, w.toInt ≤ 8 → (u + w - u).toInt ≤ 8 := by
    intro u w hw
    rw [Int32.add_comm, Int32.add_sub_cancel]; exact hw
  have hk8 := hkl _ (List.getElem?_eq_getElem (by omega : i < KL.length))
  refine w_aloadN C (pc' := 1) d33_0 rfl rfl rfl ?_
  refine w_getfield C (pc' := 4) (tw hw 64 rfl) d33_1 (H.fl (by repeat (first | exact List.Mem.head _ | apply List.Mem.tail)) (by repeat (first | exact List.Mem.head _ | apply List.Mem.tail))) rfl ?_
  refine w_iloadN C (pc' := 5) d33_4 rfl rfl ?_
  refine w_iaload C (pc' := 6) d33_5 (H.ar (by repeat (first | exact List.Mem.head _ | apply List.Mem.tail))) nx ex (at_i (by omega)) rfl ?_
  refine w_aloadN C (pc' := 7) d33_6 rfl rfl rfl ?_
  refine w_getfield C (pc' := 10) (tw hw 64 rfl) d33_7 (H.fl (by repeat (first | exact List.Mem.head _ | apply List.Mem.tail)) (by repeat (first | exact List.Mem.head _ | apply List.Mem.tail))) rfl ?_
  refine w_iloadN C (pc' := 11) d33_10 rfl rfl ?_
  refine w_iaload C (pc' := 12) d33_11 (H.ar (by repeat (first | exact List.Mem.head _ | apply List.Mem.tail))) ny ey (at_i (by omega)) rfl ?_
  refine Wp.size C fun sz12 => ?_
  refine w_static C (pc' := 15) (W := 0) (tw hw 205 rfl) (tw hw 175 rfl) (tw hw 176 rfl) (tw hw 177 rfl) (by decide) pd_10 d33_12 (c_27 X.l Z _ _ n0 _ sz12) rfl rfl rfl (by decide) rfl (by decide) (by decide) (by decide) rfl (fun v12 h12 q12 => ?_)
  obtain ⟨⟨r1, rfl, hr1⟩, rfl⟩ := q12
  show Wp X _ _ _ 15 _ [_]
  refine w_istoreN C (pc' := 16) (ls' := #[_, _, _, _, _]) d33_15 rfl rfl ?_
  refine w_iloadN C (pc' := 17) d33_16 rfl rfl ?_
  refine w_if_ne C (pc' := 87) (pn := 20) d33_17 (by decide) (by decide) rfl (fun c17 => ?_) (fun c17 => ?_)
  · -- 17 taken -> 87
    refine w_iloadN C (pc' := 88) d33_87 rfl rfl ?_
    exact w_iret C d33_88 (by simp) rfl (by decide) (by decide) ⟨⟨_, rfl⟩, rfl⟩
  · -- 17 not -> 20
    refine w_aloadN C (pc' := 21) d33_20 rfl rfl rfl ?_
    refine w_getfield C (pc' := 24) (tw hw 49 rfl) d33_21 (H.fl (by repeat (first | exact List.Mem.head _ | apply List.Mem.tail)) (by repeat (first | exact List.Mem.head _ | apply List.Mem.tail))) rfl ?_
    refine Wp.size C fun sz24 => ?_
    refine w_virtual C (pc' := 27) (W := 0) (tw hw 121 rfl) (tw hw 122 rfl) (tw hw 124 rfl) (tw hw 123 rfl) (tw hw 11 rfl) (tw hw 125 rfl) (by decide) pd_12 d33_24 (H.ex (by repeat (first | exact List.Mem.head _ | apply List.Mem.tail))) (c_17 X.l Z a0 hw (A 1) (A 2) n0 _ sz24 (H.fl (by repeat (first | exact List.Mem.head _ | apply List.Mem.tail)) (by repeat (first | exact List.Mem.head _ | apply List.Mem.tail)))) rfl rfl rfl (by decide) rfl (by decide) (by decide) (by decide) rfl (fun v24 h24 q24 => ?_)
    obtain ⟨rfl, rfl⟩ := q24
    show Wp X _ _ _ 27 _ [_]
    refine w_astore C (pc' := 29) (ls' := #[_, _, _, _, _]) d33_27 rfl rfl rfl ?_
    refine w_aloadN C (pc' := 30) d33_29 rfl rfl rfl ?_
    refine w_getfield C (pc' := 33) (tw hw 67 rfl) d33_30 (H.fl (by repeat (first | exact List.Mem.head _ | apply List.Mem.tail)) (by repeat (first | exact List.Mem.head _ | apply List.Mem.tail))) rfl ?_
    refine w_iloadN C (pc' := 34) d33_33 rfl rfl ?_
    refine w_laload C (pc' := 35) d33_34 (H.ar (by repeat (first | exact List.Mem.head _ | apply List.Mem.tail))) nx ex (at_l (by omega)) rfl ?_
    refine w_aload C (pc' := 37) d33_35 rfl rfl rfl ?_
    refine w_aloadN C (pc' := 38) d33_37 rfl rfl rfl ?_
    refine w_getfield C (pc' := 41) (tw hw 58 rfl) d33_38 (H.fl (by repeat (first | exact List.Mem.head _ | apply List.Mem.tail)) (by repeat (first | exact List.Mem.head _ | apply List.Mem.tail))) rfl ?_
    refine w_iloadN C (pc' := 42) d33_41 rfl rfl ?_
    refine w_iaload C (pc' := 43) d33_42 (H.ar (by repeat (first | exact List.Mem.head _ | apply List.Mem.tail))) nx ex (at_i (by omega)) rfl ?_
    refine w_aloadN C (pc' := 44) d33_43 rfl rfl rfl ?_
    refine w_getfield C (pc' := 47) (tw hw 58 rfl) d33_44 (H.fl (by repeat (first | exact List.Mem.head _ | apply List.Mem.tail)) (by repeat (first | exact List.Mem.head _ | apply List.Mem.tail))) rfl ?_
    refine w_iloadN C (pc' := 48) d33_47 rfl rfl ?_
    refine w_iaload C (pc' := 49) d33_48 (H.ar (by repeat (first | exact List.Mem.head _ | apply List.Mem.tail))) nx ex (at_i (by omega)) rfl ?_
    refine w_aloadN C (pc' := 50) d33_49 rfl rfl rfl ?_
    refine w_getfield C (pc' := 53) (tw hw 60 rfl) d33_50 (H.fl (by repeat (first | exact List.Mem.head _ | apply List.Mem.tail)) (by repeat (first | exact List.Mem.head _ | apply List.Mem.tail))) rfl ?_
    refine w_iloadN C (pc' := 54) d33_53 rfl rfl ?_
    refine w_iaload C (pc' := 55) d33_54 (H.ar (by repeat (first | exact List.Mem.head _ | apply List.Mem.tail))) nx ex (at_i (by omega)) rfl ?_
    refine w_iadd C (pc' := 56) d33_55 rfl ?_
    refine w_aloadN C (pc' := 57) d33_56 rfl rfl rfl ?_
    refine w_getfield C (pc' := 60) (tw hw 67 rfl) d33_57 (H.fl (by repeat (first | exact List.Mem.head _ | apply List.Mem.tail)) (by repeat (first | exact List.Mem.head _ | apply List.Mem.tail))) rfl ?_
    refine w_iloadN C (pc' := 61) d33_60 rfl rfl ?_
    refine w_laload C (pc' := 62) d33_61 (H.ar (by repeat (first | exact List.Mem.head _ | apply List.Mem.tail))) ny ey (at_l (by omega)) rfl ?_
    refine w_aload C (pc' := 64) d33_62 rfl rfl rfl ?_
    refine w_aloadN C (pc' := 65) d33_64 rfl rfl rfl ?_
    refine w_getfield C (pc' := 68) (tw hw 58 rfl) d33_65 (H.fl (by repeat (first | exact List.Mem.head _ | apply List.Mem.tail)) (by repeat (first | exact List.Mem.head _ | apply List.Mem.tail))) rfl ?_
    refine w_iloadN C (pc' := 69) d33_68 rfl rfl ?_
    refine w_iaload C (pc' := 70) d33_69 (H.ar (by repeat (first | exact List.Mem.head _ | apply List.Mem.tail))) ny ey (at_i (by omega)) rfl ?_
    refine w_aloadN C (pc' := 71) d33_70 rfl rfl rfl ?_
    refine w_getfield C (pc' := 74) (tw hw 58 rfl) d33_71 (H.fl (by repeat (first | exact List.Mem.head _ | apply List.Mem.tail)) (by repeat (first | exact List.Mem.head _ | apply List.Mem.tail))) rfl ?_
    refine w_iloadN C (pc' := 75) d33_74 rfl rfl ?_
    refine w_iaload C (pc' := 76) d33_75 (H.ar (by repeat (first | exact List.Mem.head _ | apply List.Mem.tail))) ny ey (at_i (by omega)) rfl ?_
    refine w_aloadN C (pc' := 77) d33_76 rfl rfl rfl ?_
    refine w_getfield C (pc' := 80) (tw hw 60 rfl) d33_77 (H.fl (by repeat (first | exact List.Mem.head _ | apply List.Mem.tail)) (by repeat (first | exact List.Mem.head _ | apply List.Mem.tail))) rfl ?_
    refine w_iloadN C (pc' := 81) d33_80 rfl rfl ?_
    refine w_iaload C (pc' := 82) d33_81 (H.ar (by repeat (first | exact List.Mem.head _ | apply List.Mem.tail))) ny ey (at_i (by omega)) rfl ?_
    refine w_iadd C (pc' := 83) d33_82 rfl ?_
    refine Wp.size C fun sz83 => ?_
    refine w_static C (pc' := 86) (W := 0) (tw hw 206 rfl) (tw hw 207 rfl) (tw hw 11 rfl) (tw hw 208 rfl) (by decide) pd_21 d33_83 (c_34 X.l Z a0 hw _ _ _ _ _ _ _ _ n0 _ sz83 (hd _ _ hk8)) rfl rfl rfl (by decide) rfl (by decide) (by decide) (by decide) rfl (fun v83 h83 q83 => ?_)
    obtain ⟨⟨r2, rfl⟩, rfl⟩ := q83
    show Wp X _ _ _ 86 _ [_]
    refine w_istoreN C (pc' := 87) (ls' := #[_, _, _, _, _]) d33_86 rfl rfl ?_
    refine w_iloadN C (pc' := 88) d33_87 rfl rfl ?_
    exact w_iret C d33_88 (by simp) rfl (by decide) (by decide) ⟨⟨_, rfl⟩, rfl⟩
abbrev rm32 : Room := { frames := 2, cells := 0, slots := 0, locals := 70 }
/-- two records of the same value -/
def SameVal (VF VT : List Int32) (B : List Int8) : Prop := ∃ (f0 t0 f1 t1 : Int32) (p0 p1 m : Nat), VF[0]? = some f0 ∧ VT[0]? = some t0 ∧ VF[1]? = some f1 ∧ VT[1]? = some t1 ∧ f0.toInt = p0 ∧ t0.toInt = p0 + m ∧ f1.toInt = p1 ∧ t1.toInt = p1 + m ∧ p0 + m ≤ B.length ∧ p1 + m ≤ B.length ∧ B.length ≤ 256 ∧ ∀ j, j < m → B[p0 + j]? = B[p1 + j]?
set_option maxRecDepth 65536 in
set_option maxHeartbeats 40000000 in
theorem c_32 (hw : ∀ d ∈ tables_1, d.before a0 Z = true) (hn : n0 ≤ h.size) (H : Hs Z n0 hO h (cells A p lim r k n ord en B VF VT NX KF KL HO PO PF FO LO SL)) (V : SameVal VF VT B) :
    Ct l Z y32 prog_78_method_19_code 4 (some .int) rm32 n0 [] #[.ref (A 0), .int 0, .int 1] h (fun v h' => (∃ r : Int32, v = some (.int r) ∧ r.toInt = 0) ∧ h' = h) := by
  refine ct_of pn_32 hn (ef_32 (A 0) 0 1) fun X C => ?_
  unfold cells at H
  obtain ⟨f0, t0, f1, t1, p0, p1, m, v1, v2, v3, v4, v5, v6, v7, v8, v9, v10, v11, v12⟩ := V
  refine w_aloadN C (pc' := 1) d32_0 rfl rfl rfl ?_
  refine w_getfield C (pc' := 4) (tw hw 49 rfl) d32_1 (H.fl (by repeat (first | exact List.Mem.head _ | apply List.Mem.tail)) (by repeat (first | exact List.Mem.head _ | apply List.Mem.tail))) rfl ?_
  refine Wp.size C fun sz4 => ?_
  refine w_virtual C (pc' := 7) (W := 0) (tw hw 121 rfl) (tw hw 122 rfl) (tw hw 124 rfl) (tw hw 123 rfl) (tw hw 11 rfl) (tw hw 125 rfl) (by decide) pd_12 d32_4 (H.ex (by repeat (first | exact List.Mem.head _ | apply List.Mem.tail))) (c_17 X.l Z a0 hw (A 1) (A 2) n0 _ sz4 (H.fl (by repeat (first | exact List.Mem.head _ | apply List.Mem.tail)) (by repeat (first | exact List.Mem.head _ | apply List.Mem.tail)))) rfl rfl rfl (by decide) rfl (by decide) (by decide) (by decide) rfl (fun v4 h4 q4 => ?_)
  obtain ⟨rfl, rfl⟩ := q4
  show Wp X _ _ _ 7 _ [_]
  refine w_astoreN C (pc' := 8) (ls' := #[_, _, _, _]) d32_7 rfl rfl rfl ?_
  refine w_aloadN C (pc' := 9) d32_8 rfl rfl rfl ?_
  refine w_aloadN C (pc' := 10) d32_9 rfl rfl rfl ?_
  refine w_getfield C (pc' := 13) (tw hw 52 rfl) d32_10 (H.fl (by repeat (first | exact List.Mem.head _ | apply List.Mem.tail)) (by repeat (first | exact List.Mem.head _ | apply List.Mem.tail))) rfl ?_
  refine w_iloadN C (pc' := 14) d32_13 rfl rfl ?_
  refine w_iaload C (pc' := 15) d32_14 (H.ar (by repeat (first | exact List.Mem.head _ | apply List.Mem.tail))) (by decide) rfl (vi v1) rfl ?_
  refine w_aloadN C (pc' := 16) d32_15 rfl rfl rfl ?_
  refine w_getfield C (pc' := 19) (tw hw 54 rfl) d32_16 (H.fl (by repeat (first | exact List.Mem.head _ | apply List.Mem.tail)) (by repeat (first | exact List.Mem.head _ | apply List.Mem.tail))) rfl ?_
  refine w_iloadN C (pc' := 20) d32_19 rfl rfl ?_
  refine w_iaload C (pc' := 21) d32_20 (H.ar (by repeat (first | exact List.Mem.head _ | apply List.Mem.tail))) (by decide) rfl (vi v2) rfl ?_
  refine w_aloadN C (pc' := 22) d32_21 rfl rfl rfl ?_
  refine w_aloadN C (pc' := 23) d32_22 rfl rfl rfl ?_
  refine w_getfield C (pc' := 26) (tw hw 52 rfl) d32_23 (H.fl (by repeat (first | exact List.Mem.head _ | apply List.Mem.tail)) (by repeat (first | exact List.Mem.head _ | apply List.Mem.tail))) rfl ?_
  refine w_iloadN C (pc' := 27) d32_26 rfl rfl ?_
  refine w_iaload C (pc' := 28) d32_27 (H.ar (by repeat (first | exact List.Mem.head _ | apply List.Mem.tail))) (by decide) (i := 1) rfl (vi v3) rfl ?_
  refine w_aloadN C (pc' := 29) d32_28 rfl rfl rfl ?_
  refine w_getfield C (pc' := 32) (tw hw 54 rfl) d32_29 (H.fl (by repeat (first | exact List.Mem.head _ | apply List.Mem.tail)) (by repeat (first | exact List.Mem.head _ | apply List.Mem.tail))) rfl ?_
  refine w_iloadN C (pc' := 33) d32_32 rfl rfl ?_
  refine w_iaload C (pc' := 34) d32_33 (H.ar (by repeat (first | exact List.Mem.head _ | apply List.Mem.tail))) (by decide) (i := 1) rfl (vi v4) rfl ?_
  refine Wp.size C fun sz34 => ?_
  refine w_static C (pc' := 37) (W := 0) (tw hw 170 rfl) (tw hw 171 rfl) (tw hw 11 rfl) (tw hw 172 rfl) (by decide) pd_17 d32_34 (c_26 X.l Z a0 hw (A 2) (A 2) f0 t0 f1 t1 p0 m p1 m B B n0 _ sz34 (H.mm (by repeat (first | exact List.Mem.head _ | apply List.Mem.tail))).2 (H.mm (by repeat (first | exact List.Mem.head _ | apply List.Mem.tail))).2 v5 v6 v7 v8 v9 v10 v11 v11) rfl rfl rfl (by decide) rfl (by decide) (by decide) (by decide) rfl (fun v34 h34 q34 => ?_)
  obtain ⟨⟨r1, rfl, hr1⟩, rfl⟩ := q34
  show Wp X _ _ _ 37 _ [_]
  exact w_iret C d32_37 (by simp) rfl (by decide) (by decide) ⟨⟨_, rfl, hr1.mpr ⟨rfl, v12⟩⟩, rfl⟩
abbrev rm30 : Room := { frames := 3, cells := 0, slots := 0, locals := 100 }
/-- the chain of a key's records: one, or two of the same value -/
def ChainOk (NX FO VF VT : List Int32) (B : List Int8) (i : Nat) : Prop := ∃ (f : Int32) (fi : Nat), FO[i]? = some f ∧ f.toInt = fi ∧ (NX[fi]? = some (-1 : Int32) ∨ (f = 0 ∧ NX[0]? = some 1 ∧ NX[1]? = some (-1 : Int32) ∧ SameVal VF VT B))
set_option maxRecDepth 65536 in
set_option maxHeartbeats 40000000 in
theorem c_30 (hw : ∀ d ∈ tables_1, d.before a0 Z = true) (hn : n0 ≤ h.size) (H : Hs Z n0 hO h (cells A p lim r k n ord en B VF VT NX KF KL HO PO PF FO LO SL)) (x : Int32) (i : Nat) (pe : Addr) (hx : x.toInt = i) (Q : ChainOk NX FO VF VT B i) :
    Ct l Z y30 prog_78_method_16_code 4 none rm30 n0 [] #[.ref (A 0), .int x, .ref pe] h (fun v h' => v = none ∧ h' = h) := by
  refine ct_of pn_30 hn (ef_30 (A 0) x pe) fun X C => ?_
  have H0 := H
  unfold cells at H
  have cx := clamp32 (x := x) (by omega)
  obtain ⟨f, fi, e1, e2, Q⟩ := Q
  have z1 : (1 : Int32).toInt = 1 := by decide
  have J7e : ∀ (f : Int32) (fi : Nat), f.toInt = fi → NX[fi]? = some (-1) → Wp X 0 0 h 7 #[.val (.ref (A 0)), .val (.int x), .val (.ref pe), .val (.int f)] [] := by
    intro f fi e2 e3
    have cf := clamp32 (x := f) (by omega)
    refine w_aloadN C (pc' := 8) d30_7 rfl rfl rfl ?_
    refine w_getfield C (pc' := 11) (tw hw 56 rfl) d30_8 (H.fl (by repeat (first | exact List.Mem.head _ | apply List.Mem.tail)) (by repeat (first | exact List.Mem.head _ | apply List.Mem.tail))) rfl ?_
    refine w_iloadN C (pc' := 12) d30_11 rfl rfl ?_
    refine w_iaload C (pc' := 13) d30_12 (H.ar (by repeat (first | exact List.Mem.head _ | apply List.Mem.tail))) (nlt32 (by omega)) (i := fi) (by omega) (vi e3) rfl ?_
    refine w_iconst C (pc' := 14) (z := (-1)) d30_13 rfl rfl ?_
    refine w_jcmp_eq C (pc' := 41) (pn := 17) d30_14 (by decide) (by decide) rfl (fun c14 => ?_) (fun c14 => ?_)
    rotate_left
    · exact absurd rfl c14
    refine w_aloadN C (pc' := 42) d30_41 rfl rfl rfl ?_
    refine w_getfield C (pc' := 45) (tw hw 56 rfl) d30_42 (H.fl (by repeat (first | exact List.Mem.head _ | apply List.Mem.tail)) (by repeat (first | exact List.Mem.head _ | apply List.Mem.tail))) rfl ?_
    refine w_iloadN C (pc' := 46) d30_45 rfl rfl ?_
    refine w_iaload C (pc' := 47) d30_46 (H.ar (by repeat (first | exact List.Mem.head _ | apply List.Mem.tail))) (nlt32 (by omega)) (i := fi) (by omega) (vi e3) rfl ?_
    refine w_iconst C (pc' := 48) (z := (-1)) d30_47 rfl rfl ?_
    refine w_jcmp_eq C (pc' := 102) (pn := 51) d30_48 (by decide) (by decide) rfl (fun c48 => ?_) (fun c48 => ?_)
    rotate_left
    · exact absurd rfl c48
    exact w_vret C d30_102 (by decide) (by decide) ⟨rfl, rfl⟩
  have J7 : Wp X 0 0 h 7 #[.val (.ref (A 0)), .val (.int x), .val (.ref pe), .val (.int f)] [] := by
    rcases Q with Q | ⟨rfl, q1, q2, q3⟩
    · exact J7e f fi e2 Q
    · refine w_aloadN C (pc' := 8) d30_7 rfl rfl rfl ?_
      refine w_getfield C (pc' := 11) (tw hw 56 rfl) d30_8 (H.fl (by repeat (first | exact List.Mem.head _ | apply List.Mem.tail)) (by repeat (first | exact List.Mem.head _ | apply List.Mem.tail))) rfl ?_
      refine w_iloadN C (pc' := 12) d30_11 rfl rfl ?_
      refine w_iaload C (pc' := 13) d30_12 (H.ar (by repeat (first | exact List.Mem.head _ | apply List.Mem.tail))) (by decide) (i := 0) rfl (vi q1) rfl ?_
      refine w_iconst C (pc' := 14) (z := (-1)) d30_13 rfl rfl ?_
      refine w_jcmp_eq C (pc' := 41) (pn := 17) d30_14 (by decide) (by decide) rfl (fun c14 => ?_) (fun c14 => ?_)
      · exact absurd c14 (by decide)
      refine w_aloadN C (pc' := 18) d30_17 rfl rfl rfl ?_
      refine w_iloadN C (pc' := 19) d30_18 rfl rfl ?_
      refine w_aloadN C (pc' := 20) d30_19 rfl rfl rfl ?_
      refine w_getfield C (pc' := 23) (tw hw 56 rfl) d30_20 (H.fl (by repeat (first | exact List.Mem.head _ | apply List.Mem.tail)) (by repeat (first | exact List.Mem.head _ | apply List.Mem.tail))) rfl ?_
      refine w_iloadN C (pc' := 24) d30_23 rfl rfl ?_
      refine w_iaload C (pc' := 25) d30_24 (H.ar (by repeat (first | exact List.Mem.head _ | apply List.Mem.tail))) (by decide) (i := 0) rfl (vi q1) rfl ?_
      refine Wp.size C fun sz25 => ?_
      refine w_private C (pc' := 28) (W := 0) (tw hw 197 rfl) (tw hw 198 rfl) (tw hw 199 rfl) (tw hw 41 rfl) (tw hw 42 rfl) (tw hw 200 rfl) (by decide) pd_10 d30_25 (H.ex (by repeat (first | exact List.Mem.head _ | apply List.Mem.tail))) (c_32 X.l Z a0 n0 hO _ hw sz25 H0 q3) rfl rfl rfl (by decide) rfl (by decide) (by decide) (by decide) rfl (fun v25 h25 q25 => ?_)
      obtain ⟨⟨r1, rfl, hr1⟩, rfl⟩ := q25
      show Wp X _ _ _ 28 _ [_]
      refine w_jf_gt C (pc' := 41) (pn := 31) d30_28 (by decide) (by decide) rfl (fun c28 => ?_) (fun c28 => ?_)
      · exact absurd c28 (by rw [hr1]; decide)
      refine w_aloadN C (pc' := 32) d30_31 rfl rfl rfl ?_
      refine w_getfield C (pc' := 35) (tw hw 56 rfl) d30_32 (H.fl (by repeat (first | exact List.Mem.head _ | apply List.Mem.tail)) (by repeat (first | exact List.Mem.head _ | apply List.Mem.tail))) rfl ?_
      refine w_iloadN C (pc' := 36) d30_35 rfl rfl ?_
      refine w_iaload C (pc' := 37) d30_36 (H.ar (by repeat (first | exact List.Mem.head _ | apply List.Mem.tail))) (by decide) (i := 0) rfl (vi q1) rfl ?_
      refine w_istoreN C (pc' := 38) (ls' := #[_, _, _, _]) d30_37 rfl rfl ?_
      refine w_goto C (pc' := 7) d30_38 (by decide) (by decide) ?_
      exact J7e 1 1 z1 q2
  refine w_aloadN C (pc' := 1) d30_0 rfl rfl rfl ?_
  refine w_getfield C (pc' := 4) (tw hw 69 rfl) d30_1 (H.fl (by repeat (first | exact List.Mem.head _ | apply List.Mem.tail)) (by repeat (first | exact List.Mem.head _ | apply List.Mem.tail))) rfl ?_
  refine w_iloadN C (pc' := 5) d30_4 rfl rfl ?_
  refine w_iaload C (pc' := 6) d30_5 (H.ar (by repeat (first | exact List.Mem.head _ | apply List.Mem.tail))) (nlt32 (by omega)) (i := i) (by omega) (vi e1) rfl ?_
  refine w_istoreN C (pc' := 7) (ls' := #[_, _, _, _]) d30_6 rfl rfl ?_
  -- STOP at 7
  exact J7
end SortA
section Sort2
variable (l : Launch) (Z : State) (a0 : Array Value) (n0 : Nat) (hO h : Heap) {A : Nat → Addr} {p : Int32} {lim : Int64} {r k n : Int32} {ord en : Value} {B : List Int8} {VF VT NX KF KL HO PO : List Int32} {PF : List Int64} {FO LO SL : List Int32}
abbrev rm31 : Room := { frames := 4, cells := 0, slots := 0, locals := 140 }
def O1 (T : List Int32) : Prop := ∀ x ∈ T, x.toInt = 0 ∨ x.toInt = 1
theorem o1nat {x : Int32} (q : x.toInt = 0 ∨ x.toInt = 1) : ∃ w : Nat, x.toInt = w ∧ w < 2 := by
  rcases q with e | e
  · exact ⟨0, by omega, by omega⟩
  · exact ⟨1, by omega, by omega⟩
theorem O1.set {T : List Int32} {i : Nat} {x : Int32} (q : O1 T) (hx : x.toInt = 0 ∨ x.toInt = 1) : O1 (T.set i x) := by
  intro z hz
  rcases List.mem_or_eq_of_mem_set hz with h | h
  · exact q z h
  · rw [h]; exact hx
set_option maxRecDepth 65536 in
set_option maxHeartbeats 40000000 in
theorem c_31 (hw : ∀ d ∈ tables_1, d.before a0 Z = true) (hn : n0 ≤ h.size) (od sc : Addr) (OT : List Int32) (x : Int32) (kk : Nat) (H : Hs Z n0 hO h ((od, ai OT) :: cells A p lim r k n ord en B VF VT NX KF KL HO PO PF FO LO SL)) (hx : x.toInt = kk) (hk : kk = 1 ∨ kk = 2) (hO1 : OT.length = kk) (hO2 : O1 OT) (l4 : KF.length = 16) (l5 : KL.length = 16) (l7 : PO.length = 16) (l8 : PF.length = 16) (hkl : ∀ i z, i < 2 → KL[i]? = some z → z.toInt ≤ 8) :
    Ct l Z y31 prog_78_method_15_code 8 none rm31 n0 [] #[.ref (A 0), .ref od, .ref sc, .int 0, .int x] h (fun v h' => v = none ∧ ∃ T, T.length = kk ∧ O1 T ∧ Hs Z n0 hO h' ((od, ai T) :: cells A p lim r k n ord en B VF VT NX KF KL HO PO PF FO LO SL)) := by
  refine ct_of pn_31 hn (ef_31 (A 0) od sc 0 x) fun X C => ?_
  unfold cells at H
  have s1 := c_isub x 0
  have g1 := rng32 (x - 0)
  have z0 : (0 : Int32).toInt = 0 := by decide
  have z1 : (0 + 1 : Int32).toInt = 1 := by decide
  have z2 : (0 + 1 + 1 : Int32).toInt = 2 := by decide
  have z16 : (16 : Int32).toInt = 16 := by decide
  have d1 : (x - 0).toInt = kk := by omega
  clear s1 g1
  rcases hk with rfl | rfl
  · refine w_iload C (pc' := 2) d31_0 rfl rfl ?_
    refine w_iloadN C (pc' := 3) d31_2 rfl rfl ?_
    refine w_isub C (pc' := 4) d31_3 rfl ?_
    refine w_bipush C (pc' := 6) (z := 16) d31_4 rfl rfl ?_
    refine w_jcmp_ge C (pc' := 83) (pn := 9) d31_6 (by decide) (by decide) rfl (fun c6 => ?_) (fun c6 => ?_)
    · exact absurd c6 (by omega)
    refine w_iloadN C (pc' := 10) d31_9 rfl rfl ?_
    refine w_iconst C (pc' := 11) (z := 1) d31_10 rfl rfl ?_
    refine w_iadd C (pc' := 12) d31_11 rfl ?_
    refine w_istore C (pc' := 14) (ls' := #[_, _, _, _, _, _, _, _]) d31_12 rfl rfl ?_
    refine w_iload C (pc' := 16) d31_14 rfl rfl ?_
    refine w_iload C (pc' := 18) d31_16 rfl rfl ?_
    refine w_jcmp_ge C (pc' := 80) (pn := 21) d31_18 (by decide) (by decide) rfl (fun c18 => ?_) (fun c18 => ?_)
    rotate_left
    · exact absurd c18 (by omega)
    refine w_goto C (pc' := 138) d31_80 (by decide) (by decide) ?_
    exact w_vret C d31_138 (by decide) (by decide) ⟨rfl, OT, hO1, hO2, H⟩
  · have J14e : ∀ (h' : Heap) (T' : List Int32) (s6 s7 : Int32), Hs Z n0 hO h' ((od, ai T') :: cells A p lim r k n ord en B VF VT NX KF KL HO PO PF FO LO SL) → T'.length = 2 → O1 T' → Wp X 0 0 h' 14 #[.val (.ref (A 0)), .val (.ref od), .val (.ref sc), .val (.int 0), .val (.int x), .val (.int (0 + 1 + 1)), .val (.int s6), .val (.int s7)] [] := by
      intro h' T' s6 s7 H' hT hT2
      refine w_iload C (pc' := 16) d31_14 rfl rfl ?_
      refine w_iload C (pc' := 18) d31_16 rfl rfl ?_
      refine w_jcmp_ge C (pc' := 80) (pn := 21) d31_18 (by decide) (by decide) rfl (fun c18 => ?_) (fun c18 => ?_)
      rotate_left
      · exact absurd c18 (by omega)
      refine w_goto C (pc' := 138) d31_80 (by decide) (by decide) ?_
      exact w_vret C d31_138 (by decide) (by decide) ⟨rfl, T', hT, hT2, H'⟩
    match OT, hO1, hO2, H with
    | [x0, x1], _, hO2, H =>
    have b0 := hO2 x0 (by simp)
    have b1 := hO2 x1 (by simp)
    have J31e : ∀ (h' : Heap) (T' : List Int32), Hs Z n0 hO h' ((od, ai T') :: cells A p lim r k n ord en B VF VT NX KF KL HO PO PF FO LO SL) → T'.length = 2 → O1 T' → Wp X 0 0 h' 31 #[.val (.ref (A 0)), .val (.ref od), .val (.ref sc), .val (.int 0), .val (.int x), .val (.int (0 + 1)), .val (.int x1), .val (.int (0 + 1 + -1))] [] := by
      intro h' T' H hT hT2
      unfold cells at H
      refine w_iload C (pc' := 33) d31_31 rfl rfl ?_
      refine w_iloadN C (pc' := 34) d31_33 rfl rfl ?_
      refine w_jcmp_le C (pc' := 68) (pn := 37) d31_34 (by decide) (by decide) rfl (fun c34 => ?_) (fun c34 => ?_)
      rotate_left
      · exact absurd c34 (by decide)
      refine w_aloadN C (pc' := 69) d31_68 rfl rfl rfl ?_
      refine w_iload C (pc' := 71) d31_69 rfl rfl ?_
      refine w_iload C (pc' := 73) d31_71 rfl rfl ?_
      refine w_iastore C (pc' := 74) d31_73 (H.ar (by repeat (first | exact List.Mem.head _ | apply List.Mem.tail))) (H.ge (by repeat (first | exact List.Mem.head _ | apply List.Mem.tail))) (by decide) (i := 0) rfl (by rw [List.length_map]; omega) rfl (fun h73 W73 A73 => ?_)
      replace H := H.puti (by repeat (first | exact Rp.hd | apply Rp.tl)) W73
      refine w_iinc C (pc' := 77) (ls' := #[_, _, _, _, _, _, _, _]) (z := 1) d31_74 rfl rfl rfl rfl ?_
      refine w_goto C (pc' := 14) d31_77 (by decide) (by decide) ?_
      exact J14e _ _ _ _ H (by rw [List.length_set]; exact hT) (hT2.set b1)
    have H14 : Hs Z n0 hO h (cells A p lim r k n ord en B VF VT NX KF KL HO PO PF FO LO SL) := H.pick [1, 2, 3, 4, 5, 6, 7, 8, 9, 10, 11, 12, 13, 14] (by decide) rfl
    obtain ⟨i0, u0, w0⟩ := o1nat b0
    obtain ⟨i1, u1, w1⟩ := o1nat b1
    refine w_iload C (pc' := 2) d31_0 rfl rfl ?_
    refine w_iloadN C (pc' := 3) d31_2 rfl rfl ?_
    refine w_isub C (pc' := 4) d31_3 rfl ?_
    refine w_bipush C (pc' := 6) (z := 16) d31_4 rfl rfl ?_
    refine w_jcmp_ge C (pc' := 83) (pn := 9) d31_6 (by decide) (by decide) rfl (fun c6 => ?_) (fun c6 => ?_)
    · exact absurd c6 (by omega)
    refine w_iloadN C (pc' := 10) d31_9 rfl rfl ?_
    refine w_iconst C (pc' := 11) (z := 1) d31_10 rfl rfl ?_
    refine w_iadd C (pc' := 12) d31_11 rfl ?_
    refine w_istore C (pc' := 14) (ls' := #[_, _, _, _, _, _, _, _]) d31_12 rfl rfl ?_
    refine w_iload C (pc' := 16) d31_14 rfl rfl ?_
    refine w_iload C (pc' := 18) d31_16 rfl rfl ?_
    refine w_jcmp_ge C (pc' := 80) (pn := 21) d31_18 (by decide) (by decide) rfl (fun c18 => ?_) (fun c18 => ?_)
    · exact absurd c18 (by omega)
    refine w_aloadN C (pc' := 22) d31_21 rfl rfl rfl ?_
    refine w_iload C (pc' := 24) d31_22 rfl rfl ?_
    refine w_iaload C (pc' := 25) d31_24 (H.ar (by repeat (first | exact List.Mem.head _ | apply List.Mem.tail))) (by decide) (i := 1) rfl rfl rfl ?_
    refine w_istore C (pc' := 27) (ls' := #[_, _, _, _, _, _, _, _]) d31_25 rfl rfl ?_
    refine w_iload C (pc' := 29) d31_27 rfl rfl ?_
    refine w_istore C (pc' := 31) (ls' := #[_, _, _, _, _, _, _, _]) d31_29 rfl rfl ?_
    refine w_iload C (pc' := 33) d31_31 rfl rfl ?_
    refine w_iloadN C (pc' := 34) d31_33 rfl rfl ?_
    refine w_jcmp_le C (pc' := 68) (pn := 37) d31_34 (by decide) (by decide) rfl (fun c34 => ?_) (fun c34 => ?_)
    · exact absurd c34 (by decide)
    refine w_aloadN C (pc' := 38) d31_37 rfl rfl rfl ?_
    refine w_aloadN C (pc' := 39) d31_38 rfl rfl rfl ?_
    refine w_iload C (pc' := 41) d31_39 rfl rfl ?_
    refine w_iconst C (pc' := 42) (z := 1) d31_41 rfl rfl ?_
    refine w_isub C (pc' := 43) d31_42 rfl ?_
    refine w_iaload C (pc' := 44) d31_43 (H.ar (by repeat (first | exact List.Mem.head _ | apply List.Mem.tail))) (by decide) (i := 0) rfl rfl rfl ?_
    refine w_iload C (pc' := 46) d31_44 rfl rfl ?_
    refine Wp.size C fun sz46 => ?_
    refine w_private C (pc' := 49) (W := 0) (tw hw 201 rfl) (tw hw 202 rfl) (tw hw 203 rfl) (tw hw 41 rfl) (tw hw 42 rfl) (tw hw 204 rfl) (by decide) pd_10 d31_46 (H.ex (by repeat (first | exact List.Mem.head _ | apply List.Mem.tail))) (c_33 X.l Z a0 n0 hO _ hw sz46 H14 x0 x1 i0 i1 u0 u1 (by omega) (by omega) l4 l5 l7 l8 (fun z => hkl i0 z w0)) rfl rfl rfl (by decide) rfl (by decide) (by decide) (by decide) rfl (fun v46 h46 q46 => ?_)
    obtain ⟨⟨r1, rfl⟩, rfl⟩ := q46
    show Wp X _ _ _ 49 _ [_]
    refine w_jf_le C (pc' := 68) (pn := 52) d31_49 (by decide) (by decide) rfl (fun c49 => ?_) (fun c49 => ?_)
    · -- 49 taken -> 68
      refine w_aloadN C (pc' := 69) d31_68 rfl rfl rfl ?_
      refine w_iload C (pc' := 71) d31_69 rfl rfl ?_
      refine w_iload C (pc' := 73) d31_71 rfl rfl ?_
      refine w_iastore C (pc' := 74) d31_73 (H.ar (by repeat (first | exact List.Mem.head _ | apply List.Mem.tail))) (H.ge (by repeat (first | exact List.Mem.head _ | apply List.Mem.tail))) (by decide) (i := 1) rfl (by simp) rfl (fun h73 W73 A73 => ?_)
      replace H := H.puti (by repeat (first | exact Rp.hd | apply Rp.tl)) W73
      refine w_iinc C (pc' := 77) (ls' := #[_, _, _, _, _, _, _, _]) (z := 1) d31_74 rfl rfl rfl rfl ?_
      refine w_goto C (pc' := 14) d31_77 (by decide) (by decide) ?_
      exact J14e _ _ _ _ H (by simp) (hO2.set b1)
    · -- 49 not -> 52
      refine w_aloadN C (pc' := 53) d31_52 rfl rfl rfl ?_
      refine w_iload C (pc' := 55) d31_53 rfl rfl ?_
      refine w_aloadN C (pc' := 56) d31_55 rfl rfl rfl ?_
      refine w_iload C (pc' := 58) d31_56 rfl rfl ?_
      refine w_iconst C (pc' := 59) (z := 1) d31_58 rfl rfl ?_
      refine w_isub C (pc' := 60) d31_59 rfl ?_
      refine w_iaload C (pc' := 61) d31_60 (H.ar (by repeat (first | exact List.Mem.head _ | apply List.Mem.tail))) (by decide) (i := 0) rfl rfl rfl ?_
      refine w_iastore C (pc' := 62) d31_61 (H.ar (by repeat (first | exact List.Mem.head _ | apply List.Mem.tail))) (H.ge (by repeat (first | exact List.Mem.head _ | apply List.Mem.tail))) (by decide) (i := 1) rfl (by simp) rfl (fun h61 W61 A61 => ?_)
      replace H := H.puti (by repeat (first | exact Rp.hd | apply Rp.tl)) W61
      refine w_iinc C (pc' := 65) (ls' := #[_, _, _, _, _, _, _, _]) (z := (-1)) d31_62 rfl rfl rfl rfl ?_
      refine w_goto C (pc' := 31) d31_65 (by decide) (by decide) ?_
      exact J31e _ _ H (by simp) (hO2.set b0)
abbrev rm28 : Room := { frames := 5, cells := 4, slots := 65600, locals := 180 }
set_option maxRecDepth 65536 in
set_option maxHeartbeats 40000000 in
theorem c_28 (hw : ∀ d ∈ tables_1, d.before a0 Z = true) (hn : n0 ≤ h.size) (kk pn : Nat) (H : Hs Z n0 hO h (cells A p lim r k n ord en B VF VT NX KF KL HO PO PF FO LO SL)) (hx : k.toInt = kk) (hk : kk = 1 ∨ kk = 2) (l4 : KF.length = 16) (l5 : KL.length = 16) (l7 : PO.length = 16) (l8 : PF.length = 16) (hkl : ∀ i z, i < 2 → KL[i]? = some z → z.toInt ≤ 8) (hc : ∀ i, i < kk → ChainOk NX FO VF VT B i) (hp : p.toInt = pn) (hp2 : pn ≤ 65535) :
    Ct l Z y28 prog_78_method_5_code 4 none rm28 n0 [] #[.ref (A 0)] h (fun v h' => v = none ∧ ∃ od en' T E, T.length = kk ∧ Hs Z n0 hO h' ((en', ai E) :: (od, ai T) :: cells A p lim r k n (.ref od) (.ref en') B VF VT NX KF KL HO PO PF FO LO SL)) := by
  refine ct_of pn_28 hn (ef_28 (A 0)) fun X C => ?_
  unfold cells at H
  have ck := clamp32 (x := k) (by omega)
  have cp := clamp32 (x := p) (by omega)
  have z0 : (0 : Int32).toInt = 0 := by decide
  have z1 : (1 : Int32).toInt = 1 := by decide
  refine w_aloadN C (pc' := 1) d28_0 rfl rfl rfl ?_
  refine w_aloadN C (pc' := 2) d28_1 rfl rfl rfl ?_
  refine w_getfield C (pc' := 5) (tw hw 106 rfl) d28_2 (H.fl (by repeat (first | exact List.Mem.head _ | apply List.Mem.tail)) (by repeat (first | exact List.Mem.head _ | apply List.Mem.tail))) rfl ?_
  refine w_newarray C (pc' := 7) (cap := 2) (tw hw 51 rfl) d28_5 (nlt32 (by omega)) (by omega) (by decide) (by decide) (by decide) rfl (fun h5 a5 e5 g5 E5 A5 => ?_)
  replace H := H.cons E5 e5 g5 (nwI (m := kk) (by omega) A5)
  refine w_putfield C (pc' := 10) (tw hw 130 rfl) (Or.inl (tw hw 131 rfl)) (tw hw 41 rfl) d28_7 (H.fl (by repeat (first | exact List.Mem.head _ | apply List.Mem.tail)) (by repeat (first | exact List.Mem.head _ | apply List.Mem.tail))) (H.ex (by repeat (first | exact List.Mem.head _ | apply List.Mem.tail))) (H.ge (by repeat (first | exact List.Mem.head _ | apply List.Mem.tail))) (t := (.array .int)) (by decide) rfl rfl rfl (fun h7 W7 F7 E7 => ?_)
  replace H := H.putf (layRB hw) (by repeat (first | exact Rp.hd | apply Rp.tl)) (by repeat (first | exact Rp.hd | apply Rp.tl)) W7
  refine w_bipush C (pc' := 12) (z := 32) d28_10 rfl rfl ?_
  refine w_newarray C (pc' := 14) (cap := 32) (tw hw 51 rfl) d28_12 (by decide) (by decide) (by decide) (by decide) (by decide) rfl (fun h12 a12 e12 g12 E12 A12 => ?_)
  replace H := H.cons E12 e12 g12 (nwI (m := 32) rfl A12)
  refine w_astoreN C (pc' := 15) (ls' := #[_, _, _, _]) d28_14 rfl rfl rfl ?_
  refine w_aloadN C (pc' := 16) d28_15 rfl rfl rfl ?_
  refine w_iconst C (pc' := 17) (z := (-1)) d28_16 rfl rfl ?_
  refine Wp.size C fun sz17 => ?_
  refine w_static C (pc' := 20) (W := 0) (tw hw 183 rfl) (tw hw 184 rfl) (tw hw 152 rfl) (tw hw 185 rfl) (by decide) pd_18 d28_17 (c_29 X.l Z a0 hw a12 (-1) (List.replicate 32 0) n0 _ sz17 (H.ge (by repeat (first | exact List.Mem.head _ | apply List.Mem.tail))) (H.mm (by repeat (first | exact List.Mem.head _ | apply List.Mem.tail))).2 (by simp)) rfl rfl rfl (by decide) rfl (by decide) (by decide) (by decide) rfl (fun v17 h17 q17 => ?_)
  obtain ⟨rfl, T', Kf, lf, cf⟩ := q17
  show Wp X _ _ _ 20 _ []
  replace H := H.kept1 Kf (by repeat (first | exact Rp.hd | apply Rp.tl)) cf
  refine w_iconst C (pc' := 21) (z := 0) d28_20 rfl rfl ?_
  refine w_istoreN C (pc' := 22) (ls' := #[_, _, _, _]) d28_21 rfl rfl ?_
  have J49 : ∀ (h' : Heap) (ii : Int32) (OT : List Int32), Hs Z n0 hO h' ((a12, ai T') :: (a5, ai OT) :: cells A p lim r k n (.ref a5) en B VF VT NX KF KL HO PO PF FO LO SL) → OT.length = kk → O1 OT → Wp X 2 34 h' 49 #[.val (.ref (A 0)), .val (.ref a12), .val (.int ii), .unset] [] := by
    intro h' ii OT H hOT hO2
    unfold cells at H
    refine w_aloadN C (pc' := 50) d28_49 rfl rfl rfl ?_
    refine w_aloadN C (pc' := 51) d28_50 rfl rfl rfl ?_
    refine w_getfield C (pc' := 54) (tw hw 130 rfl) d28_51 (H.fl (by repeat (first | exact List.Mem.head _ | apply List.Mem.tail)) (by repeat (first | exact List.Mem.head _ | apply List.Mem.tail))) rfl ?_
    refine w_aloadN C (pc' := 55) d28_54 rfl rfl rfl ?_
    refine w_getfield C (pc' := 58) (tw hw 106 rfl) d28_55 (H.fl (by repeat (first | exact List.Mem.head _ | apply List.Mem.tail)) (by repeat (first | exact List.Mem.head _ | apply List.Mem.tail))) rfl ?_
    refine w_newarray C (pc' := 60) (cap := 2) (tw hw 51 rfl) d28_58 (nlt32 (by omega)) (by omega) (by decide) (by decide) (by decide) rfl (fun h58 a58 e58 g58 E58 A58 => ?_)
    replace H := H.cons E58 e58 g58 (nwI (m := kk) (by omega) A58)
    refine w_iconst C (pc' := 61) (z := 0) d28_60 rfl rfl ?_
    refine w_aloadN C (pc' := 62) d28_61 rfl rfl rfl ?_
    refine w_getfield C (pc' := 65) (tw hw 106 rfl) d28_62 (H.fl (by repeat (first | exact List.Mem.head _ | apply List.Mem.tail)) (by repeat (first | exact List.Mem.head _ | apply List.Mem.tail))) rfl ?_
    refine Wp.size C fun sz65 => ?_
    refine w_private C (pc' := 68) (W := 0) (tw hw 190 rfl) (tw hw 191 rfl) (tw hw 192 rfl) (tw hw 41 rfl) (tw hw 42 rfl) (tw hw 193 rfl) (by decide) pd_20 d28_65 (H.ex (by repeat (first | exact List.Mem.head _ | apply List.Mem.tail))) (c_31 X.l Z a0 n0 hO _ hw sz65 a5 a58 OT k kk (H.pick (M := (a5, ai OT) :: cells A p lim r k n (.ref a5) en B VF VT NX KF KL HO PO PF FO LO SL) [2, 3, 4, 5, 6, 7, 8, 9, 10, 11, 12, 13, 14, 15, 16] (by decide) rfl) hx hk hOT hO2 l4 l5 l7 l8 hkl) rfl rfl rfl (by decide) rfl (by decide) (by decide) (by decide) rfl (fun v65 h65 q65 => ?_)
    obtain ⟨rfl, T2, lT2, oT2, H2⟩ := q65
    show Wp X _ _ _ 68 _ []
    replace H := H2; unfold cells at H
    refine w_aloadN C (pc' := 69) d28_68 rfl rfl rfl ?_
    refine w_aloadN C (pc' := 70) d28_69 rfl rfl rfl ?_
    refine w_getfield C (pc' := 73) (tw hw 75 rfl) d28_70 (H.fl (by repeat (first | exact List.Mem.head _ | apply List.Mem.tail)) (by repeat (first | exact List.Mem.head _ | apply List.Mem.tail))) rfl ?_
    refine w_newarray C (pc' := 75) (cap := 65535) (tw hw 51 rfl) d28_73 (nlt32 (by omega)) (by omega) (by decide) (by decide) (by decide) rfl (fun h73 a73 e73 g73 E73 A73 => ?_)
    replace H := H.cons E73 e73 g73 (nwI (m := pn) (by omega) A73)
    refine w_putfield C (pc' := 78) (tw hw 194 rfl) (Or.inl (tw hw 195 rfl)) (tw hw 41 rfl) d28_75 (H.fl (by repeat (first | exact List.Mem.head _ | apply List.Mem.tail)) (by repeat (first | exact List.Mem.head _ | apply List.Mem.tail))) (H.ex (by repeat (first | exact List.Mem.head _ | apply List.Mem.tail))) (H.ge (by repeat (first | exact List.Mem.head _ | apply List.Mem.tail))) (t := (.array .int)) (by decide) rfl rfl rfl (fun h75 W75 F75 E75 => ?_)
    replace H := H.putf (layRB hw) (by repeat (first | exact Rp.hd | apply Rp.tl)) (by repeat (first | exact Rp.hd | apply Rp.tl)) W75
    refine w_iconst C (pc' := 79) (z := 0) d28_78 rfl rfl ?_
    refine w_istoreN C (pc' := 80) (ls' := #[_, _, _, _]) d28_79 rfl rfl ?_
    refine w_iconst C (pc' := 81) (z := 0) d28_80 rfl rfl ?_
    refine w_istoreN C (pc' := 82) (ls' := #[_, _, _, _]) d28_81 rfl rfl ?_
    have J82 : ∀ (m t : Nat) (tt at' : Int32) (an : Nat) (h' : Heap) (E : List Int32), t + m = pn → tt.toInt = t → at'.toInt = an → an ≤ kk → E.length = pn → Hs Z n0 hO h' ((a73, ai E) :: (a5, ai T2) :: cells A p lim r k n (.ref a5) (.ref a73) B VF VT NX KF KL HO PO PF FO LO SL) → Wp X 4 65571 h' 82 #[.val (.ref (A 0)), .val (.ref a12), .val (.int at'), .val (.int tt)] [] := by
      intro m
      induction m with
      | zero =>
        intro t tt at' an h' E e1 e2 e3 e4 e5 H
        have H0 := H
        unfold cells at H
        refine w_iloadN C (pc' := 83) d28_82 rfl rfl ?_
        refine w_aloadN C (pc' := 84) d28_83 rfl rfl rfl ?_
        refine w_getfield C (pc' := 87) (tw hw 75 rfl) d28_84 (H.fl (by repeat (first | exact List.Mem.head _ | apply List.Mem.tail)) (by repeat (first | exact List.Mem.head _ | apply List.Mem.tail))) rfl ?_
        refine w_jcmp_ge C (pc' := 132) (pn := 90) d28_87 (by decide) (by decide) rfl (fun c87 => ?_) (fun c87 => ?_)
        rotate_left
        · exact absurd c87 (by omega)
        exact w_vret C d28_132 (by decide) (by decide) ⟨rfl, a5, a73, T2, E, lT2, H0⟩
      | succ m ih =>
        intro t tt at' an h' E e1 e2 e3 e4 e5 H
        unfold cells at H
        have ct := clamp32 (x := tt) (by omega)
        have a1 := c_iadd tt 1
        have g1 := rng32 (tt + 1)
        have J119 : ∀ (at' : Int32) (an : Nat), at'.toInt = an → an ≤ kk → Wp X 4 65571 h' 119 #[.val (.ref (A 0)), .val (.ref a12), .val (.int at'), .val (.int tt)] [] := by
          intro at' an e3 e4
          refine w_aloadN C (pc' := 120) d28_119 rfl rfl rfl ?_
          refine w_getfield C (pc' := 123) (tw hw 194 rfl) d28_120 (H.fl (by repeat (first | exact List.Mem.head _ | apply List.Mem.tail)) (by repeat (first | exact List.Mem.head _ | apply List.Mem.tail))) rfl ?_
          refine w_iloadN C (pc' := 124) d28_123 rfl rfl ?_
          refine w_iloadN C (pc' := 125) d28_124 rfl rfl ?_
          refine w_iastore C (pc' := 126) d28_125 (H.ar (by repeat (first | exact List.Mem.head _ | apply List.Mem.tail))) (H.ge (by repeat (first | exact List.Mem.head _ | apply List.Mem.tail))) (nlt32 (by omega)) (i := t) (by omega) (by rw [List.length_map]; omega) rfl (fun h125 W125 A125 => ?_)
          replace H := H.puti (by repeat (first | exact Rp.hd | apply Rp.tl)) W125
          refine w_iinc C (pc' := 129) (ls' := #[_, _, _, _]) (z := 1) d28_126 rfl rfl rfl rfl ?_
          refine w_goto C (pc' := 82) d28_129 (by decide) (by decide) ?_
          exact ih (t + 1) (tt + 1) at' an _ _ (by omega) (by omega) e3 e4 (by rw [List.length_set]; exact e5) H
        have J90 : ∀ (m' an : Nat) (at' : Int32), an + m' = kk → at'.toInt = an → Wp X 4 65571 h' 90 #[.val (.ref (A 0)), .val (.ref a12), .val (.int at'), .val (.int tt)] [] := by
          intro m'
          induction m' with
          | zero =>
            intro an at' f1 f2
            refine w_iloadN C (pc' := 91) d28_90 rfl rfl ?_
            refine w_aloadN C (pc' := 92) d28_91 rfl rfl rfl ?_
            refine w_getfield C (pc' := 95) (tw hw 106 rfl) d28_92 (H.fl (by repeat (first | exact List.Mem.head _ | apply List.Mem.tail)) (by repeat (first | exact List.Mem.head _ | apply List.Mem.tail))) rfl ?_
            refine w_jcmp_ge C (pc' := 119) (pn := 98) d28_95 (by decide) (by decide) rfl (fun c95 => ?_) (fun c95 => ?_)
            rotate_left
            · exact absurd c95 (by omega)
            -- STOP at 119
            exact J119 at' an f2 (by omega)
          | succ m' ih' =>
            intro an at' f1 f2
            have ca := clamp32 (x := at') (by omega)
            have a2 := c_iadd at' 1
            have g2 := rng32 (at' + 1)
            have la : an < T2.length := by omega
            have o1 := oT2 _ (List.getElem_mem la)
            obtain ⟨w, w1, w2⟩ := o1nat o1
            have cw := clamp32 (x := T2[an]) (by omega)
            refine w_iloadN C (pc' := 91) d28_90 rfl rfl ?_
            refine w_aloadN C (pc' := 92) d28_91 rfl rfl rfl ?_
            refine w_getfield C (pc' := 95) (tw hw 106 rfl) d28_92 (H.fl (by repeat (first | exact List.Mem.head _ | apply List.Mem.tail)) (by repeat (first | exact List.Mem.head _ | apply List.Mem.tail))) rfl ?_
            refine w_jcmp_ge C (pc' := 119) (pn := 98) d28_95 (by decide) (by decide) rfl (fun c95 => ?_) (fun c95 => ?_)
            · exact absurd c95 (by omega)
            refine w_aloadN C (pc' := 99) d28_98 rfl rfl rfl ?_
            refine w_getfield C (pc' := 102) (tw hw 64 rfl) d28_99 (H.fl (by repeat (first | exact List.Mem.head _ | apply List.Mem.tail)) (by repeat (first | exact List.Mem.head _ | apply List.Mem.tail))) rfl ?_
            refine w_aloadN C (pc' := 103) d28_102 rfl rfl rfl ?_
            refine w_getfield C (pc' := 106) (tw hw 130 rfl) d28_103 (H.fl (by repeat (first | exact List.Mem.head _ | apply List.Mem.tail)) (by repeat (first | exact List.Mem.head _ | apply List.Mem.tail))) rfl ?_
            refine w_iloadN C (pc' := 107) d28_106 rfl rfl ?_
            refine w_iaload C (pc' := 108) d28_107 (H.ar (by repeat (first | exact List.Mem.head _ | apply List.Mem.tail))) (nlt32 (by omega)) (i := an) (by omega) (at_i la) rfl ?_
            refine w_iaload C (pc' := 109) d28_108 (H.ar (by repeat (first | exact List.Mem.head _ | apply List.Mem.tail))) (nlt32 (by omega)) (i := w) (by omega) (at_i (by omega)) rfl ?_
            refine w_iloadN C (pc' := 110) d28_109 rfl rfl ?_
            refine w_jcmp_ne C (pc' := 119) (pn := 113) d28_110 (by decide) (by decide) rfl (fun c110 => ?_) (fun c110 => ?_)
            · -- 110 taken -> 119
              -- STOP at 119
              exact J119 at' an f2 (by omega)
            · -- 110 not -> 113
              refine w_iinc C (pc' := 116) (ls' := #[_, _, _, _]) (z := 1) d28_113 rfl rfl rfl rfl ?_
              refine w_goto C (pc' := 90) d28_116 (by decide) (by decide) ?_
              exact ih' (an + 1) (at' + 1) (by omega) (by omega)
        refine w_iloadN C (pc' := 83) d28_82 rfl rfl ?_
        refine w_aloadN C (pc' := 84) d28_83 rfl rfl rfl ?_
        refine w_getfield C (pc' := 87) (tw hw 75 rfl) d28_84 (H.fl (by repeat (first | exact List.Mem.head _ | apply List.Mem.tail)) (by repeat (first | exact List.Mem.head _ | apply List.Mem.tail))) rfl ?_
        refine w_jcmp_ge C (pc' := 132) (pn := 90) d28_87 (by decide) (by decide) rfl (fun c87 => ?_) (fun c87 => ?_)
        · exact absurd c87 (by omega)
        -- STOP at 90
        exact J90 (kk - an) an at' (by omega) e3
    exact J82 pn 0 0 0 0 _ _ (by omega) z0 z0 (by omega) (by simp) H
  have J22 : ∀ (m i : Nat) (ii : Int32) (h' : Heap) (OT : List Int32), i + m = kk → ii.toInt = i → Hs Z n0 hO h' ((a12, ai T') :: (a5, ai OT) :: cells A p lim r k n (.ref a5) en B VF VT NX KF KL HO PO PF FO LO SL) → OT.length = kk → O1 OT → Wp X 2 34 h' 22 #[.val (.ref (A 0)), .val (.ref a12), .val (.int ii), .unset] [] := by
    intro m
    induction m with
    | zero =>
      intro i ii h' OT e1 e2 H e3 e4
      have H0 := H
      unfold cells at H
      refine w_iloadN C (pc' := 23) d28_22 rfl rfl ?_
      refine w_aloadN C (pc' := 24) d28_23 rfl rfl rfl ?_
      refine w_getfield C (pc' := 27) (tw hw 106 rfl) d28_24 (H.fl (by repeat (first | exact List.Mem.head _ | apply List.Mem.tail)) (by repeat (first | exact List.Mem.head _ | apply List.Mem.tail))) rfl ?_
      refine w_jcmp_ge C (pc' := 49) (pn := 30) d28_27 (by decide) (by decide) rfl (fun c27 => ?_) (fun c27 => ?_)
      rotate_left
      · exact absurd c27 (by omega)
      -- STOP at 49
      exact J49 _ _ _ H0 e3 e4
    | succ m ih =>
      intro i ii h' OT e1 e2 H e3 e4
      unfold cells at H
      have ci := clamp32 (x := ii) (by omega)
      have a1 := c_iadd ii 1
      have g1 := rng32 (ii + 1)
      refine w_iloadN C (pc' := 23) d28_22 rfl rfl ?_
      refine w_aloadN C (pc' := 24) d28_23 rfl rfl rfl ?_
      refine w_getfield C (pc' := 27) (tw hw 106 rfl) d28_24 (H.fl (by repeat (first | exact List.Mem.head _ | apply List.Mem.tail)) (by repeat (first | exact List.Mem.head _ | apply List.Mem.tail))) rfl ?_
      refine w_jcmp_ge C (pc' := 49) (pn := 30) d28_27 (by decide) (by decide) rfl (fun c27 => ?_) (fun c27 => ?_)
      · exact absurd c27 (by omega)
      refine w_aloadN C (pc' := 31) d28_30 rfl rfl rfl ?_
      refine w_getfield C (pc' := 34) (tw hw 130 rfl) d28_31 (H.fl (by repeat (first | exact List.Mem.head _ | apply List.Mem.tail)) (by repeat (first | exact List.Mem.head _ | apply List.Mem.tail))) rfl ?_
      refine w_iloadN C (pc' := 35) d28_34 rfl rfl ?_
      refine w_iloadN C (pc' := 36) d28_35 rfl rfl ?_
      refine w_iastore C (pc' := 37) d28_36 (H.ar (by repeat (first | exact List.Mem.head _ | apply List.Mem.tail))) (H.ge (by repeat (first | exact List.Mem.head _ | apply List.Mem.tail))) (nlt32 (by omega)) (i := i) (by omega) (by rw [List.length_map]; omega) rfl (fun h36 W36 A36 => ?_)
      replace H := H.puti (by repeat (first | exact Rp.hd | apply Rp.tl)) W36
      refine w_aloadN C (pc' := 38) d28_37 rfl rfl rfl ?_
      refine w_iloadN C (pc' := 39) d28_38 rfl rfl ?_
      refine w_aloadN C (pc' := 40) d28_39 rfl rfl rfl ?_
      refine Wp.size C fun sz40 => ?_
      refine w_private C (pc' := 43) (W := 0) (tw hw 186 rfl) (tw hw 187 rfl) (tw hw 188 rfl) (tw hw 41 rfl) (tw hw 42 rfl) (tw hw 189 rfl) (by decide) pd_19 d28_40 (H.ex (by repeat (first | exact List.Mem.head _ | apply List.Mem.tail))) (c_30 X.l Z a0 n0 hO _ hw sz40 (H.pick (M := cells A p lim r k n (.ref a5) en B VF VT NX KF KL HO PO PF FO LO SL) [2, 3, 4, 5, 6, 7, 8, 9, 10, 11, 12, 13, 14, 15] (by decide) rfl) ii i a12 e2 (hc i (by omega))) rfl rfl rfl (by decide) rfl (by decide) (by decide) (by decide) rfl (fun v40 h40 q40 => ?_)
      obtain ⟨rfl, rfl⟩ := q40
      show Wp X _ _ _ 43 _ []
      refine w_iinc C (pc' := 46) (ls' := #[_, _, _, _]) (z := 1) d28_43 rfl rfl rfl rfl ?_
      refine w_goto C (pc' := 22) d28_46 (by decide) (by decide) ?_
      exact ih (i + 1) (ii + 1) _ _ (by omega) (by omega) H (by rw [List.length_set]; exact e3) (e4.set (by omega))
  exact J22 kk 0 0 _ _ (by omega) z0 H (by simp) (fun z hz => by rw [List.eq_of_mem_replicate hz]; exact Or.inl z0)
end Sort2
section Rest
variable (l : Launch) (Z : State) (av : Array Value) (n0 : Nat) (hO h : Heap) {A : Nat → Addr} {p : Int32} {lim : Int64} {r k n : Int32} {ord en : Value} {B : List Int8} {VF VT NX KF KL HO PO : List Int32} {PF : List Int64} {FO LO SL : List Int32}
abbrev rm19 : Room := { frames := 1, cells := 0, slots := 0, locals := 40 }
abbrev rm21 : Room := { frames := 2, cells := 3, slots := 48, locals := 80 }
set_option maxRecDepth 65536 in
set_option maxHeartbeats 40000000 in
theorem c_21 (hw : ∀ d ∈ tables_1, d.before av Z = true) (hn : n0 ≤ h.size) (o vf vt nx : Addr) (x : Int32) (m : Nat) {bb kf kl ho po pf fo lo sl : Value}
    (H : Hs Z n0 hO h [(o, rbo p lim bb r (.ref vf) (.ref vt) (.ref nx) k kf kl ho po pf fo lo sl ord en), (vf, ai VF), (vt, ai VT), (nx, ai NX)]) (l1 : VF.length = 16) (l2 : VT.length = 16) (l3 : NX.length = 16) (hx : x.toInt = m) (hm : m < 16) :
    Ct l Z y21 prog_78_method_13_code 2 none rm21 n0 [] #[.ref o, .int x] h (fun v h' => v = none ∧ ∃ vf' vt' nx' T, Keep h h' [o] ∧ h.size ≤ vf' ∧ T.length = m ∧ C1 Z h' o (rbo p lim bb r (.ref vf') (.ref vt') (.ref nx') k kf kl ho po pf fo lo sl ord en) ∧ C1 Z h' vf' (ai T)) := by
  refine ct_of pn_21 hn (ef_21 o x) fun X C => ?_
  refine w_aloadN C (pc' := 1) d21_0 rfl rfl rfl ?_
  refine w_aloadN C (pc' := 2) d21_1 rfl rfl rfl ?_
  refine w_getfield C (pc' := 5) (tw hw 52 rfl) d21_2 (H.fl (by repeat (first | exact List.Mem.head _ | apply List.Mem.tail)) (by repeat (first | exact List.Mem.head _ | apply List.Mem.tail))) rfl ?_
  refine w_iloadN C (pc' := 6) d21_5 rfl rfl ?_
  refine Wp.size C fun sz6 => ?_
  refine w_static C (pc' := 9) (W := 1) (tw hw 150 rfl) (tw hw 151 rfl) (tw hw 152 rfl) (tw hw 153 rfl) (by decide) pd_14 d21_6 (c_22 X.l Z av hw vf x VF m n0 _ sz6 (H.mm (by repeat (first | exact List.Mem.head _ | apply List.Mem.tail))).2 l1 hx hm) rfl rfl rfl (by decide) rfl (by decide) (by decide) (by decide) rfl (fun v6 h6 q6 => ?_)
  obtain ⟨ba, Ta, rfl, Xa, ea, ta, qa⟩ := q6
  show Wp X _ _ _ 9 _ [_, _]
  replace H := H.cons Xa ea.symm (ea ▸ sz6) qa
  refine w_putfield C (pc' := 12) (tw hw 52 rfl) (Or.inl (tw hw 53 rfl)) (tw hw 41 rfl) d21_9 (H.fl (by repeat (first | exact List.Mem.head _ | apply List.Mem.tail)) (by repeat (first | exact List.Mem.head _ | apply List.Mem.tail))) (H.ex (by repeat (first | exact List.Mem.head _ | apply List.Mem.tail))) (H.ge (by repeat (first | exact List.Mem.head _ | apply List.Mem.tail))) (t := (.array .int)) (by decide) rfl rfl rfl (fun h9 W9 F9 E9 => ?_)
  replace H := H.putf (layRB hw) (by repeat (first | exact Rp.hd | apply Rp.tl)) (by repeat (first | exact Rp.hd | apply Rp.tl)) W9
  refine w_aloadN C (pc' := 13) d21_12 rfl rfl rfl ?_
  refine w_aloadN C (pc' := 14) d21_13 rfl rfl rfl ?_
  refine w_getfield C (pc' := 17) (tw hw 54 rfl) d21_14 (H.fl (by repeat (first | exact List.Mem.head _ | apply List.Mem.tail)) (by repeat (first | exact List.Mem.head _ | apply List.Mem.tail))) rfl ?_
  refine w_iloadN C (pc' := 18) d21_17 rfl rfl ?_
  refine Wp.size C fun sz18 => ?_
  refine w_static C (pc' := 21) (W := 1) (tw hw 150 rfl) (tw hw 151 rfl) (tw hw 152 rfl) (tw hw 153 rfl) (by decide) pd_14 d21_18 (c_22 X.l Z av hw vt x VT m n0 _ sz18 (H.mm (by repeat (first | exact List.Mem.head _ | apply List.Mem.tail))).2 l2 hx hm) rfl rfl rfl (by decide) rfl (by decide) (by decide) (by decide) rfl (fun v18 h18 q18 => ?_)
  obtain ⟨bc, Tb, rfl, Xb, eb, tb', qb⟩ := q18
  show Wp X _ _ _ 21 _ [_, _]
  replace H := H.cons Xb eb.symm (eb ▸ sz18) qb
  refine w_putfield C (pc' := 24) (tw hw 54 rfl) (Or.inl (tw hw 55 rfl)) (tw hw 41 rfl) d21_21 (H.fl (by repeat (first | exact List.Mem.head _ | apply List.Mem.tail)) (by repeat (first | exact List.Mem.head _ | apply List.Mem.tail))) (H.ex (by repeat (first | exact List.Mem.head _ | apply List.Mem.tail))) (H.ge (by repeat (first | exact List.Mem.head _ | apply List.Mem.tail))) (t := (.array .int)) (by decide) rfl rfl rfl (fun h21 W21 F21 E21 => ?_)
  replace H := H.putf (layRB hw) (by repeat (first | exact Rp.hd | apply Rp.tl)) (by repeat (first | exact Rp.hd | apply Rp.tl)) W21
  refine w_aloadN C (pc' := 25) d21_24 rfl rfl rfl ?_
  refine w_aloadN C (pc' := 26) d21_25 rfl rfl rfl ?_
  refine w_getfield C (pc' := 29) (tw hw 56 rfl) d21_26 (H.fl (by repeat (first | exact List.Mem.head _ | apply List.Mem.tail)) (by repeat (first | exact List.Mem.head _ | apply List.Mem.tail))) rfl ?_
  refine w_iloadN C (pc' := 30) d21_29 rfl rfl ?_
  refine Wp.size C fun sz30 => ?_
  refine w_static C (pc' := 33) (W := 1) (tw hw 150 rfl) (tw hw 151 rfl) (tw hw 152 rfl) (tw hw 153 rfl) (by decide) pd_14 d21_30 (c_22 X.l Z av hw nx x NX m n0 _ sz30 (H.mm (by repeat (first | exact List.Mem.head _ | apply List.Mem.tail))).2 l3 hx hm) rfl rfl rfl (by decide) rfl (by decide) (by decide) (by decide) rfl (fun v30 h30 q30 => ?_)
  obtain ⟨bd, Tc, rfl, Xc, ec, tc, qc⟩ := q30
  show Wp X _ _ _ 33 _ [_, _]
  replace H := H.cons Xc ec.symm (ec ▸ sz30) qc
  refine w_putfield C (pc' := 36) (tw hw 56 rfl) (Or.inl (tw hw 57 rfl)) (tw hw 41 rfl) d21_33 (H.fl (by repeat (first | exact List.Mem.head _ | apply List.Mem.tail)) (by repeat (first | exact List.Mem.head _ | apply List.Mem.tail))) (H.ex (by repeat (first | exact List.Mem.head _ | apply List.Mem.tail))) (H.ge (by repeat (first | exact List.Mem.head _ | apply List.Mem.tail))) (t := (.array .int)) (by decide) rfl rfl rfl (fun h33 W33 F33 E33 => ?_)
  replace H := H.putf (layRB hw) (by repeat (first | exact Rp.hd | apply Rp.tl)) (by repeat (first | exact Rp.hd | apply Rp.tl)) W33
  exact w_vret C d21_36 (by decide) (by decide) ⟨rfl, ba, bc, bd, Ta, ((((((Keep.refl _ [o]).ext Xa).wr W9 (Or.inl (by simp))).ext Xb).wr W21 (Or.inl (by simp))).ext Xc).wr W33 (Or.inl (by simp)), Nat.le_of_eq ea, ta, (H.mm (by repeat (first | exact List.Mem.head _ | apply List.Mem.tail))).2, (H.mm (by repeat (first | exact List.Mem.head _ | apply List.Mem.tail))).2⟩
abbrev rm20 : Room := { frames := 4, cells := 10, slots := 400, locals := 120 }
set_option maxRecDepth 65536 in
set_option maxHeartbeats 40000000 in
theorem c_20 (hw : ∀ d ∈ tables_1, d.before av Z = true) (hn : n0 ≤ h.size) (M : List (Addr × CD)) (nn rn kk : Nat) (ni : Addr) (H : Hs Z n0 hO h (cells A p lim r k n ord en B VF VT NX KF KL HO PO PF FO LO SL ++ M)) (hn0 : hO.size = n0) (S : Sta Z hO RBN "NO_INTS" "[I" (.ref ni))
    (l1 : VF.length = 16) (l2 : VT.length = 16) (l3 : NX.length = 16) (l4 : KF.length = 16) (l5 : KL.length = 16) (l7 : PO.length = 16) (l8 : PF.length = 16) (l9 : FO.length = 16) (l11 : B.length = 256) (hnn : n.toInt = nn) (hnn1 : nn ≤ 256) (hr : r.toInt = rn) (hr1 : rn < 16) (hk : k.toInt = kk) (hk1 : kk < 16) :
    Ct l Z y20 prog_78_method_6_code 2 none rm20 n0 [] #[.ref (A 0)] h (fun v h' => v = none ∧ ∃ (bb ba vf kf kl po pf fo : Addr) (vt nx : Value) (TB : List Int8) (TV T1 T2 T3 T5 : List Int32) (T4 : List Int64), TB.length = nn ∧ TV.length = rn ∧ T1.length = kk ∧ T2.length = kk ∧ T3.length = kk ∧ T4.length = kk ∧ T5.length = kk ∧
      C1 Z h' (A 0) (rbo p lim (.ref bb) r (.ref vf) vt nx k (.ref kf) (.ref kl) (.ref ni) (.ref po) (.ref pf) (.ref fo) (.ref ni) (.ref ni) ord en) ∧ C1 Z h' bb (bo ba (0 + n)) ∧ C1 Z h' ba (ab TB) ∧ C1 Z h' vf (ai TV) ∧ C1 Z h' kf (ai T1) ∧ C1 Z h' kl (ai T2) ∧ C1 Z h' po (ai T3) ∧ C1 Z h' pf (al T4) ∧ C1 Z h' fo (ai T5) ∧ (∀ x ∈ M, C1 Z h' x.1 x.2) ∧ ∀ (a : Addr) (c : Cell), a < n0 → hO[a]? = some c → h'[a]? = some c) := by
  refine ct_of pn_20 hn (ef_20 (A 0)) fun X C => ?_
  simp only [cells, List.cons_append, List.nil_append] at H
  have cn := clamp32 (x := n) (by omega)
  have z0 : (0 : Int32).toInt = (0 : Nat) := by decide
  have lc := cpy_len (T := List.replicate nn 0) (S := B) (x := 0) (m := nn) (by simp) (by omega)
  have lr : (List.replicate nn (0 : Int8)).length = nn := by simp
  refine w_new C (pc' := 3) (tw hw 47 rfl) (tw hw 10 rfl) (tw hw 11 rfl) d20_0 (by decide) (by decide) rfl (fun h0 a0 e0 g0 E0 K0 D0 => ?_)  -- com/example/runnel/runnel/runtime/Bytes
  replace H := H.cons E0 e0 g0 (newBY hw K0 D0)
  refine w_dup C (pc' := 4) d20_3 rfl rfl ?_
  refine w_aloadN C (pc' := 5) d20_4 rfl rfl rfl ?_
  refine w_getfield C (pc' := 8) (tw hw 49 rfl) d20_5 (H.fl (by repeat (first | exact List.Mem.head _ | apply List.Mem.tail)) (by repeat (first | exact List.Mem.head _ | apply List.Mem.tail))) rfl ?_
  refine Wp.size C fun sz8 => ?_
  refine w_virtual C (pc' := 11) (W := 2) (tw hw 92 rfl) (tw hw 93 rfl) (tw hw 95 rfl) (tw hw 94 rfl) (tw hw 11 rfl) (tw hw 96 rfl) (by decide) pd_9 d20_8 (H.ex (by repeat (first | exact List.Mem.head _ | apply List.Mem.tail))) (c_12 X.l Z av hw (A 1) n n0 _ sz8 (H.fl (by repeat (first | exact List.Mem.head _ | apply List.Mem.tail)) (by repeat (first | exact List.Mem.head _ | apply List.Mem.tail)))) rfl rfl rfl (by decide) rfl (by decide) (by decide) (by decide) rfl (fun v8 h8 q8 => ?_)
  obtain ⟨rfl, rfl⟩ := q8
  show Wp X _ _ _ 11 _ [_, _, _]
  refine Wp.size C fun sz11 => ?_
  refine w_special C (pc' := 14) (W := 1) (tw hw 48 rfl) (tw hw 13 rfl) (tw hw 11 rfl) (tw hw 14 rfl) rfl (by decide) pd_2 d20_11 (c_3 X.l Z av hw a0 n nn n0 _ sz11 (H.ge (by repeat (first | exact List.Mem.head _ | apply List.Mem.tail))) (H.mm (by repeat (first | exact List.Mem.head _ | apply List.Mem.tail))).2 (nlt32 (by omega)) (by omega) (by omega)) rfl rfl rfl (by decide) rfl (by decide) (by decide) (by decide) rfl (fun v11 h11 q11 => ?_)
  obtain ⟨rfl, b, Kb, gb, lb, cA, cB⟩ := q11
  show Wp X _ _ _ 14 _ [_]
  replace H := H.keptNew Kb (by repeat (first | exact Rp.hd | apply Rp.tl)) cA gb sz11 cB; have nab : a0 ≠ b := H.ne (i := 1) (j := 0) rfl rfl (by decide)
  refine w_astoreN C (pc' := 15) (ls' := #[_, _]) d20_14 rfl rfl rfl ?_
  refine w_aloadN C (pc' := 16) d20_15 rfl rfl rfl ?_
  refine w_aloadN C (pc' := 17) d20_16 rfl rfl rfl ?_
  refine w_getfield C (pc' := 20) (tw hw 49 rfl) d20_17 (H.fl (by repeat (first | exact List.Mem.head _ | apply List.Mem.tail)) (by repeat (first | exact List.Mem.head _ | apply List.Mem.tail))) rfl ?_
  refine Wp.size C fun sz20 => ?_
  refine w_virtual C (pc' := 23) (W := 1) (tw hw 121 rfl) (tw hw 122 rfl) (tw hw 124 rfl) (tw hw 123 rfl) (tw hw 11 rfl) (tw hw 125 rfl) (by decide) pd_12 d20_20 (H.ex (by repeat (first | exact List.Mem.head _ | apply List.Mem.tail))) (c_17 X.l Z av hw (A 1) (A 2) n0 _ sz20 (H.fl (by repeat (first | exact List.Mem.head _ | apply List.Mem.tail)) (by repeat (first | exact List.Mem.head _ | apply List.Mem.tail)))) rfl rfl rfl (by decide) rfl (by decide) (by decide) (by decide) rfl (fun v20 h20 q20 => ?_)
  obtain ⟨rfl, rfl⟩ := q20
  show Wp X _ _ _ 23 _ [_, _]
  refine w_iconst C (pc' := 24) (z := 0) d20_23 rfl rfl ?_
  refine w_aloadN C (pc' := 25) d20_24 rfl rfl rfl ?_
  refine w_getfield C (pc' := 28) (tw hw 49 rfl) d20_25 (H.fl (by repeat (first | exact List.Mem.head _ | apply List.Mem.tail)) (by repeat (first | exact List.Mem.head _ | apply List.Mem.tail))) rfl ?_
  refine Wp.size C fun sz28 => ?_
  refine w_virtual C (pc' := 31) (W := 3) (tw hw 92 rfl) (tw hw 93 rfl) (tw hw 95 rfl) (tw hw 94 rfl) (tw hw 11 rfl) (tw hw 96 rfl) (by decide) pd_9 d20_28 (H.ex (by repeat (first | exact List.Mem.head _ | apply List.Mem.tail))) (c_12 X.l Z av hw (A 1) n n0 _ sz28 (H.fl (by repeat (first | exact List.Mem.head _ | apply List.Mem.tail)) (by repeat (first | exact List.Mem.head _ | apply List.Mem.tail)))) rfl rfl rfl (by decide) rfl (by decide) (by decide) (by decide) rfl (fun v28 h28 q28 => ?_)
  obtain ⟨rfl, rfl⟩ := q28
  show Wp X _ _ _ 31 _ [_, _, _, _]
  refine Wp.size C fun sz31 => ?_
  refine w_virtual C (pc' := 34) (W := 0) (tw hw 129 rfl) (tw hw 26 rfl) (tw hw 28 rfl) (tw hw 27 rfl) (tw hw 11 rfl) (tw hw 29 rfl) (by decide) pd_4 d20_31 (H.ex (by repeat (first | exact List.Mem.head _ | apply List.Mem.tail))) (c_6 X.l Z av hw a0 b (A 2) 0 n 0 nn (List.replicate nn 0) B n0 _ sz31 (H.ge (by repeat (first | exact List.Mem.head _ | apply List.Mem.tail))) (H.ge (by repeat (first | exact List.Mem.head _ | apply List.Mem.tail))) nab (H.mm (by repeat (first | exact List.Mem.head _ | apply List.Mem.tail))).2 (H.mm (by repeat (first | exact List.Mem.head _ | apply List.Mem.tail))).2 (H.mm (by repeat (first | exact List.Mem.head _ | apply List.Mem.tail))).2 (by omega) z0 hnn (by omega) (by omega)) rfl rfl rfl (by decide) rfl (by decide) (by decide) (by decide) rfl (fun v31 h31 q31 => ?_)
  obtain ⟨rfl, Kw, cC, cD⟩ := q31
  show Wp X _ _ _ 34 _ []
  replace H := H.kept2 Kw nab (by repeat (first | exact Rp.hd | apply Rp.tl)) (by repeat (first | exact Rp.hd | apply Rp.tl)) cC cD
  refine w_aloadN C (pc' := 35) d20_34 rfl rfl rfl ?_
  refine w_aloadN C (pc' := 36) d20_35 rfl rfl rfl ?_
  refine w_putfield C (pc' := 39) (tw hw 49 rfl) (Or.inl (tw hw 50 rfl)) (tw hw 41 rfl) d20_36 (H.fl (by repeat (first | exact List.Mem.head _ | apply List.Mem.tail)) (by repeat (first | exact List.Mem.head _ | apply List.Mem.tail))) (H.ex (by repeat (first | exact List.Mem.head _ | apply List.Mem.tail))) (H.ge (by repeat (first | exact List.Mem.head _ | apply List.Mem.tail))) (t := (.object "com/example/runnel/runnel/runtime/Bytes")) (by decide) rfl rfl rfl (fun h36 W36 F36 E36 => ?_)
  replace H := H.putf (layRB hw) (by repeat (first | exact Rp.hd | apply Rp.tl)) (by repeat (first | exact Rp.hd | apply Rp.tl)) W36
  refine w_aloadN C (pc' := 40) d20_39 rfl rfl rfl ?_
  refine w_aloadN C (pc' := 41) d20_40 rfl rfl rfl ?_
  refine w_getfield C (pc' := 44) (tw hw 101 rfl) d20_41 (H.fl (by repeat (first | exact List.Mem.head _ | apply List.Mem.tail)) (by repeat (first | exact List.Mem.head _ | apply List.Mem.tail))) rfl ?_
  refine Wp.size C fun sz44 => ?_
  refine w_private C (pc' := 47) (W := 0) (tw hw 146 rfl) (tw hw 147 rfl) (tw hw 148 rfl) (tw hw 41 rfl) (tw hw 42 rfl) (tw hw 149 rfl) (by decide) pd_2 d20_44 (H.ex (by repeat (first | exact List.Mem.head _ | apply List.Mem.tail))) (c_21 X.l Z av n0 hO _ hw sz44 (A 0) (A 3) (A 4) (A 5) r rn (H.pick [2, 5, 6, 7] (by decide) rfl) l1 l2 l3 hr hr1) rfl rfl rfl (by decide) rfl (by decide) (by decide) (by decide) rfl (fun v44 h44 q44 => ?_)
  obtain ⟨rfl, vf', vt', nx', Tv, Kg, gv, lv, cO, cV⟩ := q44
  show Wp X _ _ _ 47 _ []
  replace H := H.keptNew Kg (by repeat (first | exact Rp.hd | apply Rp.tl)) cO gv sz44 cV
  refine w_aloadN C (pc' := 48) d20_47 rfl rfl rfl ?_
  refine w_aloadN C (pc' := 49) d20_48 rfl rfl rfl ?_
  refine w_getfield C (pc' := 52) (tw hw 58 rfl) d20_49 (H.fl (by repeat (first | exact List.Mem.head _ | apply List.Mem.tail)) (by repeat (first | exact List.Mem.head _ | apply List.Mem.tail))) rfl ?_
  refine w_aloadN C (pc' := 53) d20_52 rfl rfl rfl ?_
  refine w_getfield C (pc' := 56) (tw hw 106 rfl) d20_53 (H.fl (by repeat (first | exact List.Mem.head _ | apply List.Mem.tail)) (by repeat (first | exact List.Mem.head _ | apply List.Mem.tail))) rfl ?_
  refine Wp.size C fun sz56 => ?_
  refine w_static C (pc' := 59) (W := 1) (tw hw 150 rfl) (tw hw 151 rfl) (tw hw 152 rfl) (tw hw 153 rfl) (by decide) pd_14 d20_56 (c_22 X.l Z av hw (A 6) k KF kk n0 _ sz56 (H.mm (by repeat (first | exact List.Mem.head _ | apply List.Mem.tail))).2 l4 hk hk1) rfl rfl rfl (by decide) rfl (by decide) (by decide) (by decide) rfl (fun v56 h56 q56 => ?_)
  obtain ⟨b1, T1, rfl, X1, e1, t1, q1⟩ := q56
  show Wp X _ _ _ 59 _ [_, _]
  replace H := H.cons X1 e1.symm (e1 ▸ sz56) q1
  refine w_putfield C (pc' := 62) (tw hw 58 rfl) (Or.inl (tw hw 59 rfl)) (tw hw 41 rfl) d20_59 (H.fl (by repeat (first | exact List.Mem.head _ | apply List.Mem.tail)) (by repeat (first | exact List.Mem.head _ | apply List.Mem.tail))) (H.ex (by repeat (first | exact List.Mem.head _ | apply List.Mem.tail))) (H.ge (by repeat (first | exact List.Mem.head _ | apply List.Mem.tail))) (t := (.array .int)) (by decide) rfl rfl rfl (fun h59 W59 F59 E59 => ?_)
  replace H := H.putf (layRB hw) (by repeat (first | exact Rp.hd | apply Rp.tl)) (by repeat (first | exact Rp.hd | apply Rp.tl)) W59
  refine w_aloadN C (pc' := 63) d20_62 rfl rfl rfl ?_
  refine w_aloadN C (pc' := 64) d20_63 rfl rfl rfl ?_
  refine w_getfield C (pc' := 67) (tw hw 60 rfl) d20_64 (H.fl (by repeat (first | exact List.Mem.head _ | apply List.Mem.tail)) (by repeat (first | exact List.Mem.head _ | apply List.Mem.tail))) rfl ?_
  refine w_aloadN C (pc' := 68) d20_67 rfl rfl rfl ?_
  refine w_getfield C (pc' := 71) (tw hw 106 rfl) d20_68 (H.fl (by repeat (first | exact List.Mem.head _ | apply List.Mem.tail)) (by repeat (first | exact List.Mem.head _ | apply List.Mem.tail))) rfl ?_
  refine Wp.size C fun sz71 => ?_
  refine w_static C (pc' := 74) (W := 1) (tw hw 150 rfl) (tw hw 151 rfl) (tw hw 152 rfl) (tw hw 153 rfl) (by decide) pd_14 d20_71 (c_22 X.l Z av hw (A 7) k KL kk n0 _ sz71 (H.mm (by repeat (first | exact List.Mem.head _ | apply List.Mem.tail))).2 l5 hk hk1) rfl rfl rfl (by decide) rfl (by decide) (by decide) (by decide) rfl (fun v71 h71 q71 => ?_)
  obtain ⟨b2, T2, rfl, X2, e2, t2, q2⟩ := q71
  show Wp X _ _ _ 74 _ [_, _]
  replace H := H.cons X2 e2.symm (e2 ▸ sz71) q2
  refine w_putfield C (pc' := 77) (tw hw 60 rfl) (Or.inl (tw hw 61 rfl)) (tw hw 41 rfl) d20_74 (H.fl (by repeat (first | exact List.Mem.head _ | apply List.Mem.tail)) (by repeat (first | exact List.Mem.head _ | apply List.Mem.tail))) (H.ex (by repeat (first | exact List.Mem.head _ | apply List.Mem.tail))) (H.ge (by repeat (first | exact List.Mem.head _ | apply List.Mem.tail))) (t := (.array .int)) (by decide) rfl rfl rfl (fun h74 W74 F74 E74 => ?_)
  replace H := H.putf (layRB hw) (by repeat (first | exact Rp.hd | apply Rp.tl)) (by repeat (first | exact Rp.hd | apply Rp.tl)) W74
  refine w_aloadN C (pc' := 78) d20_77 rfl rfl rfl ?_
  refine w_getstatic C (pc' := 81) (tw hw 158 rfl) d20_78 (H.sta hn0 S) rfl ?_
  refine w_putfield C (pc' := 84) (tw hw 62 rfl) (Or.inl (tw hw 63 rfl)) (tw hw 41 rfl) d20_81 (H.fl (by repeat (first | exact List.Mem.head _ | apply List.Mem.tail)) (by repeat (first | exact List.Mem.head _ | apply List.Mem.tail))) (H.ex (by repeat (first | exact List.Mem.head _ | apply List.Mem.tail))) (H.ge (by repeat (first | exact List.Mem.head _ | apply List.Mem.tail))) (t := (.array .int)) (by decide) rfl rfl rfl (fun h81 W81 F81 E81 => ?_)
  replace H := H.putf (layRB hw) (by repeat (first | exact Rp.hd | apply Rp.tl)) (by repeat (first | exact Rp.hd | apply Rp.tl)) W81
  refine w_aloadN C (pc' := 85) d20_84 rfl rfl rfl ?_
  refine w_aloadN C (pc' := 86) d20_85 rfl rfl rfl ?_
  refine w_getfield C (pc' := 89) (tw hw 64 rfl) d20_86 (H.fl (by repeat (first | exact List.Mem.head _ | apply List.Mem.tail)) (by repeat (first | exact List.Mem.head _ | apply List.Mem.tail))) rfl ?_
  refine w_aloadN C (pc' := 90) d20_89 rfl rfl rfl ?_
  refine w_getfield C (pc' := 93) (tw hw 106 rfl) d20_90 (H.fl (by repeat (first | exact List.Mem.head _ | apply List.Mem.tail)) (by repeat (first | exact List.Mem.head _ | apply List.Mem.tail))) rfl ?_
  refine Wp.size C fun sz93 => ?_
  refine w_static C (pc' := 96) (W := 1) (tw hw 150 rfl) (tw hw 151 rfl) (tw hw 152 rfl) (tw hw 153 rfl) (by decide) pd_14 d20_93 (c_22 X.l Z av hw (A 9) k PO kk n0 _ sz93 (H.mm (by repeat (first | exact List.Mem.head _ | apply List.Mem.tail))).2 l7 hk hk1) rfl rfl rfl (by decide) rfl (by decide) (by decide) (by decide) rfl (fun v93 h93 q93 => ?_)
  obtain ⟨b3, T3, rfl, X3, e3, t3, q3⟩ := q93
  show Wp X _ _ _ 96 _ [_, _]
  replace H := H.cons X3 e3.symm (e3 ▸ sz93) q3
  refine w_putfield C (pc' := 99) (tw hw 64 rfl) (Or.inl (tw hw 65 rfl)) (tw hw 41 rfl) d20_96 (H.fl (by repeat (first | exact List.Mem.head _ | apply List.Mem.tail)) (by repeat (first | exact List.Mem.head _ | apply List.Mem.tail))) (H.ex (by repeat (first | exact List.Mem.head _ | apply List.Mem.tail))) (H.ge (by repeat (first | exact List.Mem.head _ | apply List.Mem.tail))) (t := (.array .int)) (by decide) rfl rfl rfl (fun h96 W96 F96 E96 => ?_)
  replace H := H.putf (layRB hw) (by repeat (first | exact Rp.hd | apply Rp.tl)) (by repeat (first | exact Rp.hd | apply Rp.tl)) W96
  refine w_aloadN C (pc' := 100) d20_99 rfl rfl rfl ?_
  refine w_aloadN C (pc' := 101) d20_100 rfl rfl rfl ?_
  refine w_getfield C (pc' := 104) (tw hw 67 rfl) d20_101 (H.fl (by repeat (first | exact List.Mem.head _ | apply List.Mem.tail)) (by repeat (first | exact List.Mem.head _ | apply List.Mem.tail))) rfl ?_
  refine w_aloadN C (pc' := 105) d20_104 rfl rfl rfl ?_
  refine w_getfield C (pc' := 108) (tw hw 106 rfl) d20_105 (H.fl (by repeat (first | exact List.Mem.head _ | apply List.Mem.tail)) (by repeat (first | exact List.Mem.head _ | apply List.Mem.tail))) rfl ?_
  refine Wp.size C fun sz108 => ?_
  refine w_static C (pc' := 111) (W := 1) (tw hw 160 rfl) (tw hw 161 rfl) (tw hw 152 rfl) (tw hw 162 rfl) (by decide) pd_15 d20_108 (c_24 X.l Z av hw (A 10) k PF kk n0 _ sz108 (H.mm (by repeat (first | exact List.Mem.head _ | apply List.Mem.tail))).2 l8 hk hk1) rfl rfl rfl (by decide) rfl (by decide) (by decide) (by decide) rfl (fun v108 h108 q108 => ?_)
  obtain ⟨b4, T4, rfl, X4, e4, t4, q4⟩ := q108
  show Wp X _ _ _ 111 _ [_, _]
  replace H := H.cons X4 e4.symm (e4 ▸ sz108) q4
  refine w_putfield C (pc' := 114) (tw hw 67 rfl) (Or.inl (tw hw 68 rfl)) (tw hw 41 rfl) d20_111 (H.fl (by repeat (first | exact List.Mem.head _ | apply List.Mem.tail)) (by repeat (first | exact List.Mem.head _ | apply List.Mem.tail))) (H.ex (by repeat (first | exact List.Mem.head _ | apply List.Mem.tail))) (H.ge (by repeat (first | exact List.Mem.head _ | apply List.Mem.tail))) (t := (.array .long)) (by decide) rfl rfl rfl (fun h111 W111 F111 E111 => ?_)
  replace H := H.putf (layRB hw) (by repeat (first | exact Rp.hd | apply Rp.tl)) (by repeat (first | exact Rp.hd | apply Rp.tl)) W111
  refine w_aloadN C (pc' := 115) d20_114 rfl rfl rfl ?_
  refine w_aloadN C (pc' := 116) d20_115 rfl rfl rfl ?_
  refine w_getfield C (pc' := 119) (tw hw 69 rfl) d20_116 (H.fl (by repeat (first | exact List.Mem.head _ | apply List.Mem.tail)) (by repeat (first | exact List.Mem.head _ | apply List.Mem.tail))) rfl ?_
  refine w_aloadN C (pc' := 120) d20_119 rfl rfl rfl ?_
  refine w_getfield C (pc' := 123) (tw hw 106 rfl) d20_120 (H.fl (by repeat (first | exact List.Mem.head _ | apply List.Mem.tail)) (by repeat (first | exact List.Mem.head _ | apply List.Mem.tail))) rfl ?_
  refine Wp.size C fun sz123 => ?_
  refine w_static C (pc' := 126) (W := 1) (tw hw 150 rfl) (tw hw 151 rfl) (tw hw 152 rfl) (tw hw 153 rfl) (by decide) pd_14 d20_123 (c_22 X.l Z av hw (A 11) k FO kk n0 _ sz123 (H.mm (by repeat (first | exact List.Mem.head _ | apply List.Mem.tail))).2 l9 hk hk1) rfl rfl rfl (by decide) rfl (by decide) (by decide) (by decide) rfl (fun v123 h123 q123 => ?_)
  obtain ⟨b5, T5, rfl, X5, e5, t5, q5⟩ := q123
  show Wp X _ _ _ 126 _ [_, _]
  replace H := H.cons X5 e5.symm (e5 ▸ sz123) q5
  refine w_putfield C (pc' := 129) (tw hw 69 rfl) (Or.inl (tw hw 70 rfl)) (tw hw 41 rfl) d20_126 (H.fl (by repeat (first | exact List.Mem.head _ | apply List.Mem.tail)) (by repeat (first | exact List.Mem.head _ | apply List.Mem.tail))) (H.ex (by repeat (first | exact List.Mem.head _ | apply List.Mem.tail))) (H.ge (by repeat (first | exact List.Mem.head _ | apply List.Mem.tail))) (t := (.array .int)) (by decide) rfl rfl rfl (fun h126 W126 F126 E126 => ?_)
  replace H := H.putf (layRB hw) (by repeat (first | exact Rp.hd | apply Rp.tl)) (by repeat (first | exact Rp.hd | apply Rp.tl)) W126
  refine w_aloadN C (pc' := 130) d20_129 rfl rfl rfl ?_
  refine w_getstatic C (pc' := 133) (tw hw 158 rfl) d20_130 (H.sta hn0 S) rfl ?_
  refine w_putfield C (pc' := 136) (tw hw 71 rfl) (Or.inl (tw hw 72 rfl)) (tw hw 41 rfl) d20_133 (H.fl (by repeat (first | exact List.Mem.head _ | apply List.Mem.tail)) (by repeat (first | exact List.Mem.head _ | apply List.Mem.tail))) (H.ex (by repeat (first | exact List.Mem.head _ | apply List.Mem.tail))) (H.ge (by repeat (first | exact List.Mem.head _ | apply List.Mem.tail))) (t := (.array .int)) (by decide) rfl rfl rfl (fun h133 W133 F133 E133 => ?_)
  replace H := H.putf (layRB hw) (by repeat (first | exact Rp.hd | apply Rp.tl)) (by repeat (first | exact Rp.hd | apply Rp.tl)) W133
  refine w_aloadN C (pc' := 137) d20_136 rfl rfl rfl ?_
  refine w_getstatic C (pc' := 140) (tw hw 158 rfl) d20_137 (H.sta hn0 S) rfl ?_
  refine w_putfield C (pc' := 143) (tw hw 73 rfl) (Or.inl (tw hw 74 rfl)) (tw hw 41 rfl) d20_140 (H.fl (by repeat (first | exact List.Mem.head _ | apply List.Mem.tail)) (by repeat (first | exact List.Mem.head _ | apply List.Mem.tail))) (H.ex (by repeat (first | exact List.Mem.head _ | apply List.Mem.tail))) (H.ge (by repeat (first | exact List.Mem.head _ | apply List.Mem.tail))) (t := (.array .int)) (by decide) rfl rfl rfl (fun h140 W140 F140 E140 => ?_)
  replace H := H.putf (layRB hw) (by repeat (first | exact Rp.hd | apply Rp.tl)) (by repeat (first | exact Rp.hd | apply Rp.tl)) W140
  exact w_vret C d20_143 (by decide) (by decide) ⟨rfl, a0, b, vf', b1, b2, b3, b4, b5, _, _, _, Tv, T1, T2, T3, T5, T4, lc.trans lr, lv, t1, t2, t3, t4, t5, (H.mm (by repeat (first | exact List.Mem.head _ | apply List.Mem.tail))).2, (H.mm (by repeat (first | exact List.Mem.head _ | apply List.Mem.tail))).2, (H.mm (by repeat (first | exact List.Mem.head _ | apply List.Mem.tail))).2, (H.mm (by repeat (first | exact List.Mem.head _ | apply List.Mem.tail))).2, (H.mm (by repeat (first | exact List.Mem.head _ | apply List.Mem.tail))).2, (H.mm (by repeat (first | exact List.Mem.head _ | apply List.Mem.tail))).2, (H.mm (by repeat (first | exact List.Mem.head _ | apply List.Mem.tail))).2, (H.mm (by repeat (first | exact List.Mem.head _ | apply List.Mem.tail))).2, (H.mm (by repeat (first | exact List.Mem.head _ | apply List.Mem.tail))).2, (fun x hx => (H.2.1 x (by repeat (first | exact hx | apply List.Mem.tail))).2), H.2.2⟩
end Rest
/-- an array whose length reads z (nothing said of what it holds) -/
def Arn (Z : State) (h : Heap) (a : Addr) (ty : FieldType) (z : Int32) : Prop := ∃ c : Cell, Arr Z h a c ty ∧ c.slots.size.toInt32 = z
theorem Ars.arn {Z : State} {h : Heap} {a : Addr} {ty : FieldType} {vs : List Value} {z : Int32} (A : Ars Z h a ty vs) (e : vs.length.toInt32 = z) : Arn Z h a ty z := by
  obtain ⟨c, A, rfl, -⟩ := A; exact ⟨c, A, by simpa using e⟩
theorem Arn.old {Z : State} {hO h : Heap} {n0 : Nat} {a : Addr} {ty : FieldType} {z : Int32} (hn : hO.size = n0) (q : ∀ (a : Addr) (c : Cell), a < n0 → hO[a]? = some c → h[a]? = some c) (A : Arn Z hO a ty z) : Arn Z h a ty z := by
  obtain ⟨c, ⟨h1, h2⟩, r⟩ := A
  exact ⟨c, ⟨q a c (by rw [← hn]; exact (Array.getElem?_eq_some_iff.mp h1).1) h1, h2⟩, r⟩
theorem w_alenN {X : Cx} {Z : State} {y : MethodName} {bytes : ByteArray} {mx : Nat} {rt : Option FieldType} {R : Room} {n0 : Nat} {Q : Option Value → Heap → Prop} {k n : Nat} {h : Heap} {pc pc' : Nat} {ls : Array Slot} {st : List Value} {a : Addr} {ty : FieldType} (C : Hand X Z y bytes mx rt R n0 Q) {z : Int32} (hd : decode bytes pc = .ok (.arraylength, 1)) (A : Arn Z h a ty z) (hp : pc + 1 = pc') (w : Wp X k n h pc' ls (.int z :: st)) : Wp X k n h pc ls (.ref a :: st) := by
  subst hp
  obtain ⟨c, Ac, rfl⟩ := A
  refine Wp.go C (fun X hX C T locs S e t q => S.arraylength C.1 (by rw [e]; exact Ac.1) (State.isArrayOf_alike C.2.1.alike Ac.2.1) (g := mkF X.m pc ls (.ref a :: st)) rfl rfl (hb C.2.2.2.1 hd) t (by simpa using q)) w
set_option maxRecDepth 65536 in
set_option maxHeartbeats 40000000 in
theorem c_19n (l : Launch) (Z : State) (av : Array Value) (n0 : Nat) (h : Heap) {p : Int32} {lim : Int64} {r k n : Int32} {ord en : Value} (hw : ∀ d ∈ tables_1, d.before av Z = true) (hn : n0 ≤ h.size) (o bb ba vf kf kl ho po pf fo lo sl : Addr) (vt nx : Value) (vB : List Value) (zB zV z1 z2 z3 z4 z5 z6 z7 z8 zo : Int32)
    (q0 : C1 Z h o (rbo p lim (.ref bb) r (.ref vf) vt nx k (.ref kf) (.ref kl) (.ref ho) (.ref po) (.ref pf) (.ref fo) (.ref lo) (.ref sl) ord en)) (q1 : C1 Z h bb (bo ba n)) (AB : Ars Z h ba .byte vB) (hB : vB.length.toInt32 = zB) (AV : Arn Z h vf .int zV) (A1 : Arn Z h kf .int z1) (A2 : Arn Z h kl .int z2) (A3 : Arn Z h ho .int z3) (A4 : Arn Z h po .int z4) (A5 : Arn Z h fo .int z5) (A6 : Arn Z h lo .int z6) (A7 : Arn Z h sl .int z7) (A8 : Arn Z h pf .long z8)
    (hord : (ord = .null ∧ zo = 0) ∨ ∃ od, ord = .ref od ∧ Arn Z h od .int zo) :
    Ct l Z y19 prog_78_method_3_code 3 (some .long) rm19 n0 [] #[.ref o] h (fun v h' => v = some (.long (400 + 4 * p.toInt64 + zB.toInt64 + 12 * zV.toInt64 + (4 * (z1 + z2 + z3 + z4 + z5 + z6 + z7 + zo).toInt64 + 8 * z8.toInt64))) ∧ h' = h) := by
  refine ct_of pn_19 hn (ef_19 o) fun X C => ?_
  refine w_ldc2 C (pc' := 3) (tw hw 113 rfl) d19_0 rfl ?_
  refine w_aloadN C (pc' := 4) d19_3 rfl rfl rfl ?_
  refine w_getfield C (pc' := 7) (tw hw 58 rfl) d19_4 (q0.fl (by repeat (first | exact List.Mem.head _ | apply List.Mem.tail))) rfl ?_
  refine w_alenN C (pc' := 8) d19_7 A1 rfl ?_
  refine w_aloadN C (pc' := 9) d19_8 rfl rfl rfl ?_
  refine w_getfield C (pc' := 12) (tw hw 60 rfl) d19_9 (q0.fl (by repeat (first | exact List.Mem.head _ | apply List.Mem.tail))) rfl ?_
  refine w_alenN C (pc' := 13) d19_12 A2 rfl ?_
  refine w_iadd C (pc' := 14) d19_13 rfl ?_
  refine w_aloadN C (pc' := 15) d19_14 rfl rfl rfl ?_
  refine w_getfield C (pc' := 18) (tw hw 62 rfl) d19_15 (q0.fl (by repeat (first | exact List.Mem.head _ | apply List.Mem.tail))) rfl ?_
  refine w_alenN C (pc' := 19) d19_18 A3 rfl ?_
  refine w_iadd C (pc' := 20) d19_19 rfl ?_
  refine w_aloadN C (pc' := 21) d19_20 rfl rfl rfl ?_
  refine w_getfield C (pc' := 24) (tw hw 64 rfl) d19_21 (q0.fl (by repeat (first | exact List.Mem.head _ | apply List.Mem.tail))) rfl ?_
  refine w_alenN C (pc' := 25) d19_24 A4 rfl ?_
  refine w_iadd C (pc' := 26) d19_25 rfl ?_
  refine w_aloadN C (pc' := 27) d19_26 rfl rfl rfl ?_
  refine w_getfield C (pc' := 30) (tw hw 69 rfl) d19_27 (q0.fl (by repeat (first | exact List.Mem.head _ | apply List.Mem.tail))) rfl ?_
  refine w_alenN C (pc' := 31) d19_30 A5 rfl ?_
  refine w_iadd C (pc' := 32) d19_31 rfl ?_
  refine w_aloadN C (pc' := 33) d19_32 rfl rfl rfl ?_
  refine w_getfield C (pc' := 36) (tw hw 71 rfl) d19_33 (q0.fl (by repeat (first | exact List.Mem.head _ | apply List.Mem.tail))) rfl ?_
  refine w_alenN C (pc' := 37) d19_36 A6 rfl ?_
  refine w_iadd C (pc' := 38) d19_37 rfl ?_
  refine w_aloadN C (pc' := 39) d19_38 rfl rfl rfl ?_
  refine w_getfield C (pc' := 42) (tw hw 73 rfl) d19_39 (q0.fl (by repeat (first | exact List.Mem.head _ | apply List.Mem.tail))) rfl ?_
  refine w_alenN C (pc' := 43) d19_42 A7 rfl ?_
  refine w_iadd C (pc' := 44) d19_43 rfl ?_
  refine w_aloadN C (pc' := 45) d19_44 rfl rfl rfl ?_
  refine w_getfield C (pc' := 48) (tw hw 130 rfl) d19_45 (q0.fl (by repeat (first | exact List.Mem.head _ | apply List.Mem.tail))) rfl ?_
  rcases hord with ⟨rfl, rfl⟩ | ⟨od, rfl, Ao⟩
  · refine w_ifnonnullN C (pc' := 51) d19_48 rfl ?_
    refine w_iconst C (pc' := 52) (z := 0) d19_51 rfl rfl ?_
    refine w_goto C (pc' := 60) d19_52 (by decide) (by decide) ?_
    refine w_iadd C (pc' := 61) d19_60 rfl ?_
    refine w_i2l C (pc' := 62) d19_61 rfl ?_
    refine w_lmul C (pc' := 63) d19_62 rfl ?_
    refine w_ldc2 C (pc' := 66) (tw hw 137 rfl) d19_63 rfl ?_
    refine w_aloadN C (pc' := 67) d19_66 rfl rfl rfl ?_
    refine w_getfield C (pc' := 70) (tw hw 67 rfl) d19_67 (q0.fl (by repeat (first | exact List.Mem.head _ | apply List.Mem.tail))) rfl ?_
    refine w_alenN C (pc' := 71) d19_70 A8 rfl ?_
    refine w_i2l C (pc' := 72) d19_71 rfl ?_
    refine w_lmul C (pc' := 73) d19_72 rfl ?_
    refine w_ladd C (pc' := 74) d19_73 rfl ?_
    refine w_lstoreN C (pc' := 75) (ls' := #[_, _, _]) d19_74 rfl rfl ?_
    refine w_aloadN C (pc' := 76) d19_75 rfl rfl rfl ?_
    refine Wp.size C fun sz76 => ?_
    refine w_private C (pc' := 79) (W := 0) (tw hw 108 rfl) (tw hw 109 rfl) (tw hw 110 rfl) (tw hw 41 rfl) (tw hw 42 rfl) (tw hw 111 rfl) (by decide) pd_11 d19_76 q0.1 (c_15 X.l Z av hw o p n0 _ sz76 (q0.fl (by repeat (first | exact List.Mem.head _ | apply List.Mem.tail)))) rfl rfl rfl (by decide) rfl (by decide) (by decide) (by decide) rfl (fun v76 h76 q76 => ?_)
    obtain ⟨rfl, rfl⟩ := q76
    show Wp X _ _ _ 79 _ [_]
    refine w_aloadN C (pc' := 80) d19_79 rfl rfl rfl ?_
    refine w_getfield C (pc' := 83) (tw hw 49 rfl) d19_80 (q0.fl (by repeat (first | exact List.Mem.head _ | apply List.Mem.tail))) rfl ?_
    refine Wp.size C fun sz83 => ?_
    refine w_virtual C (pc' := 86) (W := 2) (tw hw 116 rfl) (tw hw 117 rfl) (tw hw 119 rfl) (tw hw 118 rfl) (tw hw 11 rfl) (tw hw 120 rfl) (by decide) pd_9 d19_83 q1.1 (c_16 X.l Z av hw bb ba vB zB n0 _ sz83 (q1.fl (by repeat (first | exact List.Mem.head _ | apply List.Mem.tail))) AB hB) rfl rfl rfl (by decide) rfl (by decide) (by decide) (by decide) rfl (fun v83 h83 q83 => ?_)
    obtain ⟨rfl, rfl⟩ := q83
    show Wp X _ _ _ 86 _ [_, _]
    refine w_i2l C (pc' := 87) d19_86 rfl ?_
    refine w_ladd C (pc' := 88) d19_87 rfl ?_
    refine w_ldc2 C (pc' := 91) (tw hw 114 rfl) d19_88 rfl ?_
    refine w_aloadN C (pc' := 92) d19_91 rfl rfl rfl ?_
    refine w_getfield C (pc' := 95) (tw hw 52 rfl) d19_92 (q0.fl (by repeat (first | exact List.Mem.head _ | apply List.Mem.tail))) rfl ?_
    refine w_alenN C (pc' := 96) d19_95 AV rfl ?_
    refine w_i2l C (pc' := 97) d19_96 rfl ?_
    refine w_lmul C (pc' := 98) d19_97 rfl ?_
    refine w_ladd C (pc' := 99) d19_98 rfl ?_
    refine w_lloadN C (pc' := 100) d19_99 rfl rfl ?_
    refine w_ladd C (pc' := 101) d19_100 rfl ?_
    exact w_lret C d19_101 (by decide) (by decide) ⟨rfl, rfl⟩
  · refine w_ifnonnullY C (pc' := 55) d19_48 (by decide) (by decide) ?_
    refine w_aloadN C (pc' := 56) d19_55 rfl rfl rfl ?_
    refine w_getfield C (pc' := 59) (tw hw 130 rfl) d19_56 (q0.fl (by repeat (first | exact List.Mem.head _ | apply List.Mem.tail))) rfl ?_
    refine w_alenN C (pc' := 60) d19_59 Ao rfl ?_
    refine w_iadd C (pc' := 61) d19_60 rfl ?_
    refine w_i2l C (pc' := 62) d19_61 rfl ?_
    refine w_lmul C (pc' := 63) d19_62 rfl ?_
    refine w_ldc2 C (pc' := 66) (tw hw 137 rfl) d19_63 rfl ?_
    refine w_aloadN C (pc' := 67) d19_66 rfl rfl rfl ?_
    refine w_getfield C (pc' := 70) (tw hw 67 rfl) d19_67 (q0.fl (by repeat (first | exact List.Mem.head _ | apply List.Mem.tail))) rfl ?_
    refine w_alenN C (pc' := 71) d19_70 A8 rfl ?_
    refine w_i2l C (pc' := 72) d19_71 rfl ?_
    refine w_lmul C (pc' := 73) d19_72 rfl ?_
    refine w_ladd C (pc' := 74) d19_73 rfl ?_
    refine w_lstoreN C (pc' := 75) (ls' := #[_, _, _]) d19_74 rfl rfl ?_
    refine w_aloadN C (pc' := 76) d19_75 rfl rfl rfl ?_
    refine Wp.size C fun sz76 => ?_
    refine w_private C (pc' := 79) (W := 0) (tw hw 108 rfl) (tw hw 109 rfl) (tw hw 110 rfl) (tw hw 41 rfl) (tw hw 42 rfl) (tw hw 111 rfl) (by decide) pd_11 d19_76 q0.1 (c_15 X.l Z av hw o p n0 _ sz76 (q0.fl (by repeat (first | exact List.Mem.head _ | apply List.Mem.tail)))) rfl rfl rfl (by decide) rfl (by decide) (by decide) (by decide) rfl (fun v76 h76 q76 => ?_)
    obtain ⟨rfl, rfl⟩ := q76
    show Wp X _ _ _ 79 _ [_]
    refine w_aloadN C (pc' := 80) d19_79 rfl rfl rfl ?_
    refine w_getfield C (pc' := 83) (tw hw 49 rfl) d19_80 (q0.fl (by repeat (first | exact List.Mem.head _ | apply List.Mem.tail))) rfl ?_
    refine Wp.size C fun sz83 => ?_
    refine w_virtual C (pc' := 86) (W := 2) (tw hw 116 rfl) (tw hw 117 rfl) (tw hw 119 rfl) (tw hw 118 rfl) (tw hw 11 rfl) (tw hw 120 rfl) (by decide) pd_9 d19_83 q1.1 (c_16 X.l Z av hw bb ba vB zB n0 _ sz83 (q1.fl (by repeat (first | exact List.Mem.head _ | apply List.Mem.tail))) AB hB) rfl rfl rfl (by decide) rfl (by decide) (by decide) (by decide) rfl (fun v83 h83 q83 => ?_)
    obtain ⟨rfl, rfl⟩ := q83
    show Wp X _ _ _ 86 _ [_, _]
    refine w_i2l C (pc' := 87) d19_86 rfl ?_
    refine w_ladd C (pc' := 88) d19_87 rfl ?_
    refine w_ldc2 C (pc' := 91) (tw hw 114 rfl) d19_88 rfl ?_
    refine w_aloadN C (pc' := 92) d19_91 rfl rfl rfl ?_
    refine w_getfield C (pc' := 95) (tw hw 52 rfl) d19_92 (q0.fl (by repeat (first | exact List.Mem.head _ | apply List.Mem.tail))) rfl ?_
    refine w_alenN C (pc' := 96) d19_95 AV rfl ?_
    refine w_i2l C (pc' := 97) d19_96 rfl ?_
    refine w_lmul C (pc' := 98) d19_97 rfl ?_
    refine w_ladd C (pc' := 99) d19_98 rfl ?_
    refine w_lloadN C (pc' := 100) d19_99 rfl rfl ?_
    refine w_ladd C (pc' := 101) d19_100 rfl ?_
    exact w_lret C d19_101 (by decide) (by decide) ⟨rfl, rfl⟩
theorem Hs.newX {Z : State} {n0 : Nat} {hO h h' : Heap} {L : List (Addr × CD)} {b : Addr} {d : CD} (H : Hs Z n0 hO h L) (E : Ext h h') (g : h.size ≤ b) (hn : n0 ≤ h.size) (q : C1 Z h' b d) : Hs Z n0 hO h' ((b, d) :: L) := by
  refine ⟨?_, ?_, fun b c hb hc => E.2 _ _ (H.2.2 b c hb hc)⟩
  · rw [List.map_cons, List.nodup_cons]
    refine ⟨fun z => ?_, H.1⟩
    obtain ⟨x, hx, ex⟩ := List.mem_map.mp z
    have := (H.2.1 x hx).2.lt
    rw [ex] at this
    exact absurd g (Nat.not_le.mpr this)
  · intro x hx
    rcases List.mem_cons.mp hx with rfl | hx
    · exact ⟨Nat.le_trans hn g, q⟩
    · exact ⟨(H.2.1 x hx).1, (H.2.1 x hx).2.ext E⟩
/-! the plain law of the keys -/
theorem byt_eq_iff (k1 k2 : Int64) (i : Nat) (hi : i < 8) : byt k1 i = byt k2 i ↔ ∀ b, b < 8 → k1.toBitVec.getLsbD (8 * i + b) = k2.toBitVec.getLsbD (8 * i + b) := by
  constructor
  · intro e b hb
    have := congrArg (fun z : Int8 => z.toBitVec.getLsbD b) e
    simpa [byt, hb] using this
  · intro e
    apply Int8.toBitVec_inj.mp
    show (k1.toBitVec >>> (8 * i)).setWidth 8 = (k2.toBitVec >>> (8 * i)).setWidth 8
    apply BitVec.eq_of_getLsbD_eq
    intro b hb
    simpa [hb] using e b hb
theorem msk_bit (x : Int32) (m : Nat) (hx : x.toInt = m) (hm : m ≤ 8) (b : Nat) (hb : b < 64) : (msk x).toBitVec.getLsbD b = decide (b < 8 * m) := by
  unfold msk
  by_cases c : x = 8
  · rw [if_pos c]
    have : m = 8 := by rw [c] at hx; have : (8 : Int32).toInt = 8 := by decide
                       omega
    subst this
    show ((-1 : Int64).toBitVec).getLsbD b = _
    have e : (-1 : Int64).toBitVec = BitVec.allOnes 64 := by decide
    rw [e, BitVec.getLsbD_allOnes]
  · rw [if_neg c]
    have z8 : (8 : Int32).toInt = 8 := by decide
    have hne : m ≠ 8 := fun e => c (Int32.toInt_inj.mp (by omega))
    have e8 : (8 * x).toInt = 8 * m := by
      have := mulL 8 x 8 z8 (by omega) (by omega)
      omega
    have en := nat32 (x := 8 * x) (by omega)
    have ek : (8 * x).toBitVec.toNat % 64 = 8 * m := by omega
    show ((1 <<< ((8 * x) &&& 0x3f).toInt64 : Int64).toBitVec - (1 : Int64).toBitVec).getLsbD b = _
    rw [b_lshl 1 (8 * x) (8 * m) ek]
    have e2 : ((1 : Int64).toBitVec <<< (8 * m) - (1 : Int64).toBitVec) = BitVec.ofNat 64 (2 ^ (8 * m) - 1) := by
      apply BitVec.eq_of_toNat_eq
      have h1 : (1 : Int64).toBitVec.toNat = 1 := by decide
      have hp : 2 ^ (8 * m) < 2 ^ 64 := Nat.pow_lt_pow_right (by decide) (by omega)
      have hp0 : 0 < 2 ^ (8 * m) := Nat.two_pow_pos _
      rw [BitVec.toNat_sub, BitVec.toNat_shiftLeft, h1, BitVec.toNat_ofNat, Nat.shiftLeft_eq, Nat.one_mul, Nat.mod_eq_of_lt hp, Nat.mod_eq_of_lt (by omega : 2 ^ (8 * m) - 1 < 2 ^ 64)]
      have : 2 ^ 64 - 1 + 2 ^ (8 * m) = 2 ^ 64 + (2 ^ (8 * m) - 1) := by omega
      rw [this, Nat.add_mod_left, Nat.mod_eq_of_lt (by omega)]
    rw [e2, BitVec.getLsbD_ofNat, Nat.testBit_two_pow_sub_one, decide_eq_true hb, Bool.true_and]
theorem keyEq (k1 k2 : Int64) (x : Int32) (m : Nat) (hx : x.toInt = m) (hm : m ≤ 8) : (k1 ^^^ k2) &&& msk x = 0 ↔ ∀ j, j < m → byt k1 j = byt k2 j := by
  have bit : ∀ b, b < 64 → ((k1 ^^^ k2) &&& msk x).toBitVec.getLsbD b = ((k1.toBitVec.getLsbD b != k2.toBitVec.getLsbD b) && decide (b < 8 * m)) := by
    intro b hb
    rw [Int64.toBitVec_and, Int64.toBitVec_xor, BitVec.getLsbD_and, BitVec.getLsbD_xor, msk_bit x m hx hm b hb]
  constructor
  · intro e j hj
    rw [byt_eq_iff k1 k2 j (by omega)]
    intro b hb
    have := bit (8 * j + b) (by omega)
    rw [e, decide_eq_true (by omega : 8 * j + b < 8 * m)] at this
    have z : (0 : Int64).toBitVec.getLsbD (8 * j + b) = false := by
      rw [show (0 : Int64).toBitVec = 0#64 from by decide]; simp
    rw [z, Bool.and_true] at this
    exact bne_eq_false_iff_eq.mp this.symm
  · intro e
    apply Int64.toBitVec_inj.mp
    apply BitVec.eq_of_getLsbD_eq
    intro b hb
    rw [bit b hb, show (0 : Int64).toBitVec = 0#64 from by decide]
    by_cases c : b < 8 * m
    · have := (byt_eq_iff k1 k2 (b / 8) (by omega)).mp (e (b / 8) (by omega)) (b % 8) (by omega)
      rw [show 8 * (b / 8) + b % 8 = b from by omega] at this
      rw [this]; simp
    · simp [c]
def exF (d t p : Int32) (r k s : Int64) : Int64 := if t = 0 then (400 + 4 * p.toInt64) + 1088 + (if d = 0 then 0 else 4 * k) else (400 + 4 * p.toInt64) + s + 12 * r + 24 * k + (if d = 0 then 0 else 4 * k)
theorem as3 {x a b c d e : Int64} (h : a + (b + c) = d + e) : x + a + b + c = x + d + e := by
  have := congrArg (fun z => x + z) h
  simpa only [Int64.add_assoc] using this
theorem as4 {x n s b c b' c' e' : Int64} (hs : n = s) (h : b + c = b' + (c' + e')) : x + n + b + c = x + s + b' + c' + e' := by
  subst hs
  have := congrArg (fun z => x + (n + z)) h
  simpa only [Int64.add_assoc] using this
theorem memU {d t p zo : Int32} {r k s : Int64} (ht : t = 0) (q : (d = 0 ∧ zo = 0) ∨ (d ≠ 0 ∧ zo = 1 ∧ k = 1 + 0) ∨ (d ≠ 0 ∧ zo = 2 ∧ k = 1 + 1)) :
    400 + 4 * p.toInt64 + (256 : Int32).toInt64 + 12 * (16 : Int32).toInt64 + (4 * ((16 : Int32) + 16 + 16 + 16 + 16 + 16 + 32 + zo).toInt64 + 8 * (16 : Int32).toInt64) = exF d t p r k s := by
  rw [exF, if_pos ht]
  rcases q with ⟨h1, rfl⟩ | ⟨h1, rfl, rfl⟩ | ⟨h1, rfl, rfl⟩
  · rw [if_pos h1]; exact as3 (by decide)
  · rw [if_neg h1]; exact as3 (by decide)
  · rw [if_neg h1]; exact as3 (by decide)
theorem memT {d t p n rr kk zo : Int32} {r k s : Int64} (ht : ¬ t = 0) (hn : n.toInt64 = s) (q : (rr = 1 ∧ r = 1 + 0) ∨ (rr = 2 ∧ r = 1 + 1)) (q' : (kk = 1 ∧ k = 1 + 0) ∨ (kk = 2 ∧ k = 1 + 1)) (q2 : (d = 0 ∧ zo = 0) ∨ (d ≠ 0 ∧ zo = kk)) :
    400 + 4 * p.toInt64 + n.toInt64 + 12 * rr.toInt64 + (4 * (kk + kk + 0 + kk + kk + 0 + 0 + zo).toInt64 + 8 * kk.toInt64) = exF d t p r k s := by
  rw [exF, if_neg ht]
  rcases q with ⟨rfl, rfl⟩ | ⟨rfl, rfl⟩ <;> rcases q' with ⟨rfl, rfl⟩ | ⟨rfl, rfl⟩ <;> rcases q2 with ⟨h1, rfl⟩ | ⟨h1, rfl⟩ <;> first | (rw [if_pos h1]; exact as4 hn (by decide)) | (rw [if_neg h1]; exact as4 hn (by decide))

set_option maxRecDepth 65536 in
set_option maxHeartbeats 40000000 in
theorem law_305 {Z : State} {n0 : Nat} {X : Cx} (C : Hand X Z x code maxLocals ret room_1 n0 (fun v _ => v = some (.int 1))) (a0 : Array Value) (hw : ∀ d ∈ tables_1, d.before a0 Z = true) (h' : Heap) (x0 x1 : Int32) (x2 x3 x4 : Int64) (x5 l1 l2 s d t c p eq h2 : Int32) (k2 : Int64) (b1 b2 y1 y2 rb : Addr) (a2 : Int32) (mem : Int64) (hm : (a2 = 0 ∧ mem = exF d t p (1 + 0) (1 + 0) (l1.toInt64 + l2.toInt64 + 0)) ∨ (a2 = 1 ∧ eq = 1 ∧ mem = exF d t p (1 + 1) (1 + 0) (l1.toInt64 + l2.toInt64 + (l1.toInt64 + 0))) ∨ (a2 = 1 ∧ eq = 0 ∧ mem = exF d t p (1 + 1) (1 + 1) (l1.toInt64 + l2.toInt64 + (l1.toInt64 + l2.toInt64)))) :
    Wp X 34 67270 h' 305 #[.val (.int x0), .val (.int x1), .val (.long x2), .second, .val (.long x3), .second, .val (.long x4), .second, .val (.int x5), .val (.int l1), .val (.int l2), .val (.int s), .val (.int d), .val (.int t), .val (.int c), .val (.long k2), .second, .val (.int p), .val (.int eq), .val (.int h2), .val (.ref b1), .val (.ref b2), .val (.ref y1), .val (.ref y2), .val (.ref rb), .val (.int 1), .val (.int a2), .val (.long mem), .second, .unset, .unset, .unset, .unset, .unset, .unset, .unset, .unset, .unset, .unset, .unset, .unset] [] := by
  have J446 : ∀ (r6 k6 s6 f6 o6 e6 : Int64), mem = e6 → Wp X 34 67270 h' 446 #[.val (.int x0), .val (.int x1), .val (.long x2), .second, .val (.long x3), .second, .val (.long x4), .second, .val (.int x5), .val (.int l1), .val (.int l2), .val (.int s), .val (.int d), .val (.int t), .val (.int c), .val (.long k2), .second, .val (.int p), .val (.int eq), .val (.int h2), .val (.ref b1), .val (.ref b2), .val (.ref y1), .val (.ref y2), .val (.ref rb), .val (.int 1), .val (.int a2), .val (.long mem), .second, .val (.long r6), .second, .val (.long k6), .second, .val (.long s6), .second, .val (.long f6), .second, .val (.long o6), .second, .val (.long e6), .second] [] := by
    intro r6 k6 s6 f6 o6 e6 he
    refine w_iload C (pc' := 448) at_446 rfl rfl ?_
    refine w_if_eq C (pc' := 463) (pn := 451) at_448 (by decide) (by decide) rfl (fun c448 => ?_) (fun c448 => ?_)
    · exact absurd c448 (by decide)
    refine w_lload C (pc' := 453) at_451 rfl rfl ?_
    refine w_lload C (pc' := 455) at_453 rfl rfl ?_
    refine w_lc_ne C (pm := 456) (pc' := 463) (pn := 459) at_455 rfl at_456 (by decide) (by decide) rfl (fun c455 => ?_) (fun c455 => ?_)
    · exact absurd he c455
    refine w_iconst C (pc' := 460) (z := 1) at_459 rfl rfl ?_
    refine w_goto C (pc' := 464) at_460 (by decide) (by decide) ?_
    exact w_iret C at_464 (by simp) rfl (by decide) (by decide) rfl
  have J373 : ∀ (r6 k6 s6 : Int64), mem = exF d t p r6 k6 s6 → Wp X 34 67270 h' 373 #[.val (.int x0), .val (.int x1), .val (.long x2), .second, .val (.long x3), .second, .val (.long x4), .second, .val (.int x5), .val (.int l1), .val (.int l2), .val (.int s), .val (.int d), .val (.int t), .val (.int c), .val (.long k2), .second, .val (.int p), .val (.int eq), .val (.int h2), .val (.ref b1), .val (.ref b2), .val (.ref y1), .val (.ref y2), .val (.ref rb), .val (.int 1), .val (.int a2), .val (.long mem), .second, .val (.long r6), .second, .val (.long k6), .second, .val (.long s6), .second, .unset, .unset, .unset, .unset, .unset, .unset] [] := by
    intro r6 k6 s6 he
    refine w_ldc2 C (pc' := 376) (tw hw 138 rfl) at_373 rfl ?_
    refine w_ldc2 C (pc' := 379) (tw hw 139 rfl) at_376 rfl ?_
    refine w_iload C (pc' := 381) at_379 rfl rfl ?_
    refine w_i2l C (pc' := 382) at_381 rfl ?_
    refine w_lmul C (pc' := 383) at_382 rfl ?_
    refine w_ladd C (pc' := 384) at_383 rfl ?_
    refine w_lstore C (pc' := 386) (ls' := #[_, _, _, _, _, _, _, _, _, _, _, _, _, _, _, _, _, _, _, _, _, _, _, _, _, _, _, _, _, _, _, _, _, _, _, _, _, _, _, _, _]) at_384 rfl rfl ?_
    refine w_iload C (pc' := 388) at_386 rfl rfl ?_
    refine w_if_eq C (pc' := 400) (pn := 391) at_388 (by decide) (by decide) rfl (fun c388 => ?_) (fun c388 => ?_)
    · -- 388 taken -> 400
      refine w_lconst C (pc' := 401) (z := 0) at_400 rfl rfl ?_
      refine w_lstore C (pc' := 403) (ls' := #[_, _, _, _, _, _, _, _, _, _, _, _, _, _, _, _, _, _, _, _, _, _, _, _, _, _, _, _, _, _, _, _, _, _, _, _, _, _, _, _, _]) at_401 rfl rfl ?_
      refine w_iload C (pc' := 405) at_403 rfl rfl ?_
      refine w_if_eq C (pc' := 435) (pn := 408) at_405 (by decide) (by decide) rfl (fun c405 => ?_) (fun c405 => ?_)
      · -- 405 taken -> 435
        refine w_lload C (pc' := 437) at_435 rfl rfl ?_
        refine w_ldc2 C (pc' := 440) (tw hw 140 rfl) at_437 rfl ?_
        refine w_ladd C (pc' := 441) at_440 rfl ?_
        refine w_lload C (pc' := 443) at_441 rfl rfl ?_
        refine w_ladd C (pc' := 444) at_443 rfl ?_
        refine w_lstore C (pc' := 446) (ls' := #[_, _, _, _, _, _, _, _, _, _, _, _, _, _, _, _, _, _, _, _, _, _, _, _, _, _, _, _, _, _, _, _, _, _, _, _, _, _, _, _, _]) at_444 rfl rfl ?_
        -- STOP at 446
        exact J446 _ _ _ _ _ _ (by rw [he, exF]; first | rw [if_pos c405, if_pos c388] | rw [if_pos c405, if_neg c388] | rw [if_neg c405, if_pos c388] | rw [if_neg c405, if_neg c388])
      · -- 405 not -> 408
        refine w_lload C (pc' := 410) at_408 rfl rfl ?_
        refine w_lload C (pc' := 412) at_410 rfl rfl ?_
        refine w_ladd C (pc' := 413) at_412 rfl ?_
        refine w_ldc2 C (pc' := 416) (tw hw 163 rfl) at_413 rfl ?_
        refine w_lload C (pc' := 418) at_416 rfl rfl ?_
        refine w_lmul C (pc' := 419) at_418 rfl ?_
        refine w_ladd C (pc' := 420) at_419 rfl ?_
        refine w_ldc2 C (pc' := 423) (tw hw 164 rfl) at_420 rfl ?_
        refine w_lload C (pc' := 425) at_423 rfl rfl ?_
        refine w_lmul C (pc' := 426) at_425 rfl ?_
        refine w_ladd C (pc' := 427) at_426 rfl ?_
        refine w_lload C (pc' := 429) at_427 rfl rfl ?_
        refine w_ladd C (pc' := 430) at_429 rfl ?_
        refine w_lstore C (pc' := 432) (ls' := #[_, _, _, _, _, _, _, _, _, _, _, _, _, _, _, _, _, _, _, _, _, _, _, _, _, _, _, _, _, _, _, _, _, _, _, _, _, _, _, _, _]) at_430 rfl rfl ?_
        refine w_goto C (pc' := 446) at_432 (by decide) (by decide) ?_
        -- STOP at 446
        exact J446 _ _ _ _ _ _ (by rw [he, exF]; first | rw [if_pos c405, if_pos c388] | rw [if_pos c405, if_neg c388] | rw [if_neg c405, if_pos c388] | rw [if_neg c405, if_neg c388])
    · -- 388 not -> 391
      refine w_ldc2 C (pc' := 394) (tw hw 139 rfl) at_391 rfl ?_
      refine w_lload C (pc' := 396) at_394 rfl rfl ?_
      refine w_lmul C (pc' := 397) at_396 rfl ?_
      refine w_goto C (pc' := 401) at_397 (by decide) (by decide) ?_
      refine w_lstore C (pc' := 403) (ls' := #[_, _, _, _, _, _, _, _, _, _, _, _, _, _, _, _, _, _, _, _, _, _, _, _, _, _, _, _, _, _, _, _, _, _, _, _, _, _, _, _, _]) at_401 rfl rfl ?_
      refine w_iload C (pc' := 405) at_403 rfl rfl ?_
      refine w_if_eq C (pc' := 435) (pn := 408) at_405 (by decide) (by decide) rfl (fun c405 => ?_) (fun c405 => ?_)
      · -- 405 taken -> 435
        refine w_lload C (pc' := 437) at_435 rfl rfl ?_
        refine w_ldc2 C (pc' := 440) (tw hw 140 rfl) at_437 rfl ?_
        refine w_ladd C (pc' := 441) at_440 rfl ?_
        refine w_lload C (pc' := 443) at_441 rfl rfl ?_
        refine w_ladd C (pc' := 444) at_443 rfl ?_
        refine w_lstore C (pc' := 446) (ls' := #[_, _, _, _, _, _, _, _, _, _, _, _, _, _, _, _, _, _, _, _, _, _, _, _, _, _, _, _, _, _, _, _, _, _, _, _, _, _, _, _, _]) at_444 rfl rfl ?_
        -- STOP at 446
        exact J446 _ _ _ _ _ _ (by rw [he, exF]; first | rw [if_pos c405, if_pos c388] | rw [if_pos c405, if_neg c388] | rw [if_neg c405, if_pos c388] | rw [if_neg c405, if_neg c388])
      · -- 405 not -> 408
        refine w_lload C (pc' := 410) at_408 rfl rfl ?_
        refine w_lload C (pc' := 412) at_410 rfl rfl ?_
        refine w_ladd C (pc' := 413) at_412 rfl ?_
        refine w_ldc2 C (pc' := 416) (tw hw 163 rfl) at_413 rfl ?_
        refine w_lload C (pc' := 418) at_416 rfl rfl ?_
        refine w_lmul C (pc' := 419) at_418 rfl ?_
        refine w_ladd C (pc' := 420) at_419 rfl ?_
        refine w_ldc2 C (pc' := 423) (tw hw 164 rfl) at_420 rfl ?_
        refine w_lload C (pc' := 425) at_423 rfl rfl ?_
        refine w_lmul C (pc' := 426) at_425 rfl ?_
        refine w_ladd C (pc' := 427) at_426 rfl ?_
        refine w_lload C (pc' := 429) at_427 rfl rfl ?_
        refine w_ladd C (pc' := 430) at_429 rfl ?_
        refine w_lstore C (pc' := 432) (ls' := #[_, _, _, _, _, _, _, _, _, _, _, _, _, _, _, _, _, _, _, _, _, _, _, _, _, _, _, _, _, _, _, _, _, _, _, _, _, _, _, _, _]) at_430 rfl rfl ?_
        refine w_goto C (pc' := 446) at_432 (by decide) (by decide) ?_
        -- STOP at 446
        exact J446 _ _ _ _ _ _ (by rw [he, exF]; first | rw [if_pos c405, if_pos c388] | rw [if_pos c405, if_neg c388] | rw [if_neg c405, if_pos c388] | rw [if_neg c405, if_neg c388])
  rcases hm with ⟨rfl, he⟩ | ⟨rfl, rfl, he⟩ | ⟨rfl, rfl, he⟩
  · refine w_lconst C (pc' := 306) (z := 1) at_305 rfl rfl ?_
    refine w_iload C (pc' := 308) at_306 rfl rfl ?_
    refine w_if_eq C (pc' := 315) (pn := 311) at_308 (by decide) (by decide) rfl (fun c308 => ?_) (fun c308 => ?_)
    rotate_left
    · exact absurd rfl c308
    refine w_lconst C (pc' := 316) (z := 0) at_315 rfl rfl ?_
    refine w_ladd C (pc' := 317) at_316 rfl ?_
    refine w_lstore C (pc' := 319) (ls' := #[_, _, _, _, _, _, _, _, _, _, _, _, _, _, _, _, _, _, _, _, _, _, _, _, _, _, _, _, _, _, _, _, _, _, _, _, _, _, _, _, _]) at_317 rfl rfl ?_
    refine w_lconst C (pc' := 320) (z := 1) at_319 rfl rfl ?_
    refine w_iload C (pc' := 322) at_320 rfl rfl ?_
    refine w_if_eq C (pc' := 334) (pn := 325) at_322 (by decide) (by decide) rfl (fun c322 => ?_) (fun c322 => ?_)
    rotate_left
    · exact absurd rfl c322
    refine w_lconst C (pc' := 335) (z := 0) at_334 rfl rfl ?_
    refine w_ladd C (pc' := 336) at_335 rfl ?_
    refine w_lstore C (pc' := 338) (ls' := #[_, _, _, _, _, _, _, _, _, _, _, _, _, _, _, _, _, _, _, _, _, _, _, _, _, _, _, _, _, _, _, _, _, _, _, _, _, _, _, _, _]) at_336 rfl rfl ?_
    refine w_iload C (pc' := 340) at_338 rfl rfl ?_
    refine w_i2l C (pc' := 341) at_340 rfl ?_
    refine w_iload C (pc' := 343) at_341 rfl rfl ?_
    refine w_i2l C (pc' := 344) at_343 rfl ?_
    refine w_ladd C (pc' := 345) at_344 rfl ?_
    refine w_iload C (pc' := 347) at_345 rfl rfl ?_
    refine w_if_eq C (pc' := 369) (pn := 350) at_347 (by decide) (by decide) rfl (fun c347 => ?_) (fun c347 => ?_)
    rotate_left
    · exact absurd rfl c347
    refine w_lconst C (pc' := 370) (z := 0) at_369 rfl rfl ?_
    refine w_ladd C (pc' := 371) at_370 rfl ?_
    refine w_lstore C (pc' := 373) (ls' := #[_, _, _, _, _, _, _, _, _, _, _, _, _, _, _, _, _, _, _, _, _, _, _, _, _, _, _, _, _, _, _, _, _, _, _, _, _, _, _, _, _]) at_371 rfl rfl ?_
    -- STOP at 373
    exact J373 _ _ _ he
  · refine w_lconst C (pc' := 306) (z := 1) at_305 rfl rfl ?_
    refine w_iload C (pc' := 308) at_306 rfl rfl ?_
    refine w_if_eq C (pc' := 315) (pn := 311) at_308 (by decide) (by decide) rfl (fun c308 => ?_) (fun c308 => ?_)
    · exact absurd c308 (by decide)
    refine w_lconst C (pc' := 312) (z := 1) at_311 rfl rfl ?_
    refine w_goto C (pc' := 316) at_312 (by decide) (by decide) ?_
    refine w_ladd C (pc' := 317) at_316 rfl ?_
    refine w_lstore C (pc' := 319) (ls' := #[_, _, _, _, _, _, _, _, _, _, _, _, _, _, _, _, _, _, _, _, _, _, _, _, _, _, _, _, _, _, _, _, _, _, _, _, _, _, _, _, _]) at_317 rfl rfl ?_
    refine w_lconst C (pc' := 320) (z := 1) at_319 rfl rfl ?_
    refine w_iload C (pc' := 322) at_320 rfl rfl ?_
    refine w_if_eq C (pc' := 334) (pn := 325) at_322 (by decide) (by decide) rfl (fun c322 => ?_) (fun c322 => ?_)
    · exact absurd c322 (by decide)
    refine w_iload C (pc' := 327) at_325 rfl rfl ?_
    refine w_if_ne C (pc' := 334) (pn := 330) at_327 (by decide) (by decide) rfl (fun c327 => ?_) (fun c327 => ?_)
    rotate_left
    · exact absurd c327 (by decide)
    refine w_lconst C (pc' := 335) (z := 0) at_334 rfl rfl ?_
    refine w_ladd C (pc' := 336) at_335 rfl ?_
    refine w_lstore C (pc' := 338) (ls' := #[_, _, _, _, _, _, _, _, _, _, _, _, _, _, _, _, _, _, _, _, _, _, _, _, _, _, _, _, _, _, _, _, _, _, _, _, _, _, _, _, _]) at_336 rfl rfl ?_
    refine w_iload C (pc' := 340) at_338 rfl rfl ?_
    refine w_i2l C (pc' := 341) at_340 rfl ?_
    refine w_iload C (pc' := 343) at_341 rfl rfl ?_
    refine w_i2l C (pc' := 344) at_343 rfl ?_
    refine w_ladd C (pc' := 345) at_344 rfl ?_
    refine w_iload C (pc' := 347) at_345 rfl rfl ?_
    refine w_if_eq C (pc' := 369) (pn := 350) at_347 (by decide) (by decide) rfl (fun c347 => ?_) (fun c347 => ?_)
    · exact absurd c347 (by decide)
    refine w_iload C (pc' := 352) at_350 rfl rfl ?_
    refine w_i2l C (pc' := 353) at_352 rfl ?_
    refine w_iload C (pc' := 355) at_353 rfl rfl ?_
    refine w_if_eq C (pc' := 362) (pn := 358) at_355 (by decide) (by decide) rfl (fun c355 => ?_) (fun c355 => ?_)
    · exact absurd c355 (by decide)
    refine w_lconst C (pc' := 359) (z := 0) at_358 rfl rfl ?_
    refine w_goto C (pc' := 365) at_359 (by decide) (by decide) ?_
    refine w_ladd C (pc' := 366) at_365 rfl ?_
    refine w_goto C (pc' := 370) at_366 (by decide) (by decide) ?_
    refine w_ladd C (pc' := 371) at_370 rfl ?_
    refine w_lstore C (pc' := 373) (ls' := #[_, _, _, _, _, _, _, _, _, _, _, _, _, _, _, _, _, _, _, _, _, _, _, _, _, _, _, _, _, _, _, _, _, _, _, _, _, _, _, _, _]) at_371 rfl rfl ?_
    -- STOP at 373
    exact J373 _ _ _ he
  · refine w_lconst C (pc' := 306) (z := 1) at_305 rfl rfl ?_
    refine w_iload C (pc' := 308) at_306 rfl rfl ?_
    refine w_if_eq C (pc' := 315) (pn := 311) at_308 (by decide) (by decide) rfl (fun c308 => ?_) (fun c308 => ?_)
    · exact absurd c308 (by decide)
    refine w_lconst C (pc' := 312) (z := 1) at_311 rfl rfl ?_
    refine w_goto C (pc' := 316) at_312 (by decide) (by decide) ?_
    refine w_ladd C (pc' := 317) at_316 rfl ?_
    refine w_lstore C (pc' := 319) (ls' := #[_, _, _, _, _, _, _, _, _, _, _, _, _, _, _, _, _, _, _, _, _, _, _, _, _, _, _, _, _, _, _, _, _, _, _, _, _, _, _, _, _]) at_317 rfl rfl ?_
    refine w_lconst C (pc' := 320) (z := 1) at_319 rfl rfl ?_
    refine w_iload C (pc' := 322) at_320 rfl rfl ?_
    refine w_if_eq C (pc' := 334) (pn := 325) at_322 (by decide) (by decide) rfl (fun c322 => ?_) (fun c322 => ?_)
    · exact absurd c322 (by decide)
    refine w_iload C (pc' := 327) at_325 rfl rfl ?_
    refine w_if_ne C (pc' := 334) (pn := 330) at_327 (by decide) (by decide) rfl (fun c327 => ?_) (fun c327 => ?_)
    · exact absurd rfl c327
    refine w_lconst C (pc' := 331) (z := 1) at_330 rfl rfl ?_
    refine w_goto C (pc' := 335) at_331 (by decide) (by decide) ?_
    refine w_ladd C (pc' := 336) at_335 rfl ?_
    refine w_lstore C (pc' := 338) (ls' := #[_, _, _, _, _, _, _, _, _, _, _, _, _, _, _, _, _, _, _, _, _, _, _, _, _, _, _, _, _, _, _, _, _, _, _, _, _, _, _, _, _]) at_336 rfl rfl ?_
    refine w_iload C (pc' := 340) at_338 rfl rfl ?_
    refine w_i2l C (pc' := 341) at_340 rfl ?_
    refine w_iload C (pc' := 343) at_341 rfl rfl ?_
    refine w_i2l C (pc' := 344) at_343 rfl ?_
    refine w_ladd C (pc' := 345) at_344 rfl ?_
    refine w_iload C (pc' := 347) at_345 rfl rfl ?_
    refine w_if_eq C (pc' := 369) (pn := 350) at_347 (by decide) (by decide) rfl (fun c347 => ?_) (fun c347 => ?_)
    · exact absurd c347 (by decide)
    refine w_iload C (pc' := 352) at_350 rfl rfl ?_
    refine w_i2l C (pc' := 353) at_352 rfl ?_
    refine w_iload C (pc' := 355) at_353 rfl rfl ?_
    refine w_if_eq C (pc' := 362) (pn := 358) at_355 (by decide) (by decide) rfl (fun c355 => ?_) (fun c355 => ?_)
    rotate_left
    · exact absurd rfl c355
    refine w_iload C (pc' := 364) at_362 rfl rfl ?_
    refine w_i2l C (pc' := 365) at_364 rfl ?_
    refine w_ladd C (pc' := 366) at_365 rfl ?_
    refine w_goto C (pc' := 370) at_366 (by decide) (by decide) ?_
    refine w_ladd C (pc' := 371) at_370 rfl ?_
    refine w_lstore C (pc' := 373) (ls' := #[_, _, _, _, _, _, _, _, _, _, _, _, _, _, _, _, _, _, _, _, _, _, _, _, _, _, _, _, _, _, _, _, _, _, _, _, _, _, _, _, _]) at_371 rfl rfl ?_
    -- STOP at 373
    exact J373 _ _ _ he

theorem nat_i32 {x : Int32} {m : Nat} (h : x.toInt = m) : m.toInt32 = x := by
  have := x.toInt_lt
  apply Int32.toInt_inj.mp
  rw [Nat.toInt32, Int32.toInt_ofNat_of_lt (by omega), h]
theorem len_i32 {T : List Int32} {x : Int32} {m : Nat} (l : T.length = m) (h : x.toInt = m) : (T.map Value.int).length.toInt32 = x := by
  rw [List.length_map, l]; exact nat_i32 h
theorem len_l32 {T : List Int64} {x : Int32} {m : Nat} (l : T.length = m) (h : x.toInt = m) : (T.map Value.long).length.toInt32 = x := by
  rw [List.length_map, l]; exact nat_i32 h
theorem len_b32 {T : List Int8} {x : Int32} {m : Nat} (l : T.length = m) (h : x.toInt = m) : (T.map vb).length.toInt32 = x := by
  rw [List.length_map, l]; exact nat_i32 h
theorem sum3 {n l1 l2 : Int32} {m1 m2 : Nat} (h1 : l1.toInt = m1) (h2 : l2.toInt = m2) (b1 : m1 ≤ 8) (b2 : m2 ≤ 8) : (n.toInt = (m1 + m2 : Nat) → n.toInt64 = l1.toInt64 + l2.toInt64 + 0) ∧ (n.toInt = (m1 + m2 + m1 : Nat) → n.toInt64 = l1.toInt64 + l2.toInt64 + (l1.toInt64 + 0)) ∧ (n.toInt = (m1 + m2 + m2 + m1 : Nat) → n.toInt64 = l1.toInt64 + l2.toInt64 + (l1.toInt64 + l2.toInt64)) := by
  have e1 := Int32.toInt_toInt64 l1
  have e2 := Int32.toInt_toInt64 l2
  have e3 := Int32.toInt_toInt64 n
  have z0 : (0 : Int64).toInt = 0 := by decide
  have a1 := c_ladd l1.toInt64 l2.toInt64
  have r1 := rng64 (l1.toInt64 + l2.toInt64)
  refine ⟨fun h => ?_, fun h => ?_, fun h => ?_⟩
  · have a2 := c_ladd (l1.toInt64 + l2.toInt64) 0
    have r2 := rng64 (l1.toInt64 + l2.toInt64 + 0)
    apply Int64.toInt_inj.mp; omega
  · have a3 := c_ladd l1.toInt64 0
    have r3 := rng64 (l1.toInt64 + 0)
    have a2 := c_ladd (l1.toInt64 + l2.toInt64) (l1.toInt64 + 0)
    have r2 := rng64 (l1.toInt64 + l2.toInt64 + (l1.toInt64 + 0))
    apply Int64.toInt_inj.mp; omega
  · have a2 := c_ladd (l1.toInt64 + l2.toInt64) (l1.toInt64 + l2.toInt64)
    have r2 := rng64 (l1.toInt64 + l2.toInt64 + (l1.toInt64 + l2.toInt64))
    apply Int64.toInt_inj.mp; omega

set_option maxRecDepth 65536 in
set_option maxHeartbeats 40000000 in
theorem law_288 {Z : State} {n0 : Nat} {X : Cx} (C : Hand X Z x code maxLocals ret room_1 n0 (fun v _ => v = some (.int 1))) (a0 : Array Value) (hw : ∀ d ∈ tables_1, d.before a0 Z = true) (hO h' : Heap) (hn0 : hO.size = n0) (ni : Addr) (S : Sta Z hO RBN "NO_INTS" "[I" (.ref ni)) (An : Arn Z hO ni .int 0) (x0 x1 : Int32) (x2 x3 x4 : Int64) (x5 l1 l2 s d t c p eq h2 : Int32) (k2 : Int64) (b1 b2 y1 y2 : Addr) (a2 : Int32) {A : Nat → Addr} {lim : Int64} {r k n : Int32} {B : List Int8} {VF VT NX KF KL HO PO : List Int32} {PF : List Int64} {FO LO SL : List Int32} (ord en : Value) (zo : Int32) (M : List (Addr × CD)) (m1 m2 rn kk nn : Nat) (rel : ((a2 = 0 ∧ rn = 1 ∧ kk = 1 ∧ nn = m1 + m2) ∨ (a2 = 1 ∧ eq = 1 ∧ rn = 2 ∧ kk = 1 ∧ nn = m1 + m2 + m1) ∨ (a2 = 1 ∧ eq = 0 ∧ rn = 2 ∧ kk = 2 ∧ nn = m1 + m2 + m2 + m1))) (hl1 : l1.toInt = m1) (hl2 : l2.toInt = m2) (hm1 : m1 ≤ 8) (hm2 : m2 ≤ 8) (hr : r.toInt = rn) (hk : k.toInt = kk) (hnn : n.toInt = nn)
    (hord : (d = 0 ∧ ord = .null ∧ zo = 0) ∨ (d ≠ 0 ∧ zo = k ∧ ∃ od T, ord = .ref od ∧ (od, ai T) ∈ M ∧ T.length = kk)) (H : Hs Z n0 hO h' (cells A p lim r k n ord en B VF VT NX KF KL HO PO PF FO LO SL ++ M)) (l1' : VF.length = 16) (l2' : VT.length = 16) (l3' : NX.length = 16) (l4' : KF.length = 16) (l5' : KL.length = 16) (l6' : HO.length = 16) (l7' : PO.length = 16) (l8' : PF.length = 16) (l9' : FO.length = 16) (l10' : LO.length = 16) (l11' : B.length = 256) (l12' : SL.length = 32) :
    Wp X 24 66870 h' 288 #[.val (.int x0), .val (.int x1), .val (.long x2), .second, .val (.long x3), .second, .val (.long x4), .second, .val (.int x5), .val (.int l1), .val (.int l2), .val (.int s), .val (.int d), .val (.int t), .val (.int c), .val (.long k2), .second, .val (.int p), .val (.int eq), .val (.int h2), .val (.ref b1), .val (.ref b2), .val (.ref y1), .val (.ref y2), .val (.ref (A 0)), .val (.int 1), .val (.int a2), .unset, .unset, .unset, .unset, .unset, .unset, .unset, .unset, .unset, .unset, .unset, .unset, .unset, .unset] [] := by
  have H0 := H
  simp only [cells, List.cons_append, List.nil_append] at H
  have z1 : (1 : Int32).toInt = 1 := by decide
  have z2 : (2 : Int32).toInt = 2 := by decide
  have k1 : kk = 1 → k = 1 := fun e => Int32.toInt_inj.mp (by omega)
  have k2' : kk = 2 → k = 2 := fun e => Int32.toInt_inj.mp (by omega)
  have r1 : rn = 1 → r = 1 := fun e => Int32.toInt_inj.mp (by omega)
  have r2 : rn = 2 → r = 2 := fun e => Int32.toInt_inj.mp (by omega)
  have qz : (d = 0 ∧ zo = 0) ∨ (d ≠ 0 ∧ zo = k) := by
    rcases hord with ⟨u1, -, u2⟩ | ⟨u1, u2, -⟩
    · exact Or.inl ⟨u1, u2⟩
    · exact Or.inr ⟨u1, u2⟩
  obtain ⟨s1, s2, s3⟩ := sum3 (n := n) hl1 hl2 hm1 hm2
  have hU : t = 0 → ∀ mem : Int64, mem = 400 + 4 * p.toInt64 + (256 : Int32).toInt64 + 12 * (16 : Int32).toInt64 + (4 * ((16 : Int32) + 16 + 16 + 16 + 16 + 16 + 32 + zo).toInt64 + 8 * (16 : Int32).toInt64) → (a2 = 0 ∧ mem = exF d t p (1 + 0) (1 + 0) (l1.toInt64 + l2.toInt64 + 0)) ∨ (a2 = 1 ∧ eq = 1 ∧ mem = exF d t p (1 + 1) (1 + 0) (l1.toInt64 + l2.toInt64 + (l1.toInt64 + 0))) ∨ (a2 = 1 ∧ eq = 0 ∧ mem = exF d t p (1 + 1) (1 + 1) (l1.toInt64 + l2.toInt64 + (l1.toInt64 + l2.toInt64))) := by
    intro ht mem hmem
    subst hmem
    rcases rel with ⟨g1, g2, g3, g4⟩ | ⟨g0, g1, g2, g3, g4⟩ | ⟨g0, g1, g2, g3, g4⟩
    · exact Or.inl ⟨g1, memU ht (qz.imp id fun u => Or.inl ⟨u.1, u.2.trans (k1 g3), rfl⟩)⟩
    · exact Or.inr (Or.inl ⟨g0, g1, memU ht (qz.imp id fun u => Or.inl ⟨u.1, u.2.trans (k1 g3), rfl⟩)⟩)
    · exact Or.inr (Or.inr ⟨g0, g1, memU ht (qz.imp id fun u => Or.inr ⟨u.1, u.2.trans (k2' g3), rfl⟩)⟩)
  have hT : ¬ t = 0 → ∀ mem : Int64, mem = 400 + 4 * p.toInt64 + n.toInt64 + 12 * r.toInt64 + (4 * (k + k + 0 + k + k + 0 + 0 + zo).toInt64 + 8 * k.toInt64) → (a2 = 0 ∧ mem = exF d t p (1 + 0) (1 + 0) (l1.toInt64 + l2.toInt64 + 0)) ∨ (a2 = 1 ∧ eq = 1 ∧ mem = exF d t p (1 + 1) (1 + 0) (l1.toInt64 + l2.toInt64 + (l1.toInt64 + 0))) ∨ (a2 = 1 ∧ eq = 0 ∧ mem = exF d t p (1 + 1) (1 + 1) (l1.toInt64 + l2.toInt64 + (l1.toInt64 + l2.toInt64))) := by
    intro ht mem hmem
    subst hmem
    rcases rel with ⟨g1, g2, g3, g4⟩ | ⟨g0, g1, g2, g3, g4⟩ | ⟨g0, g1, g2, g3, g4⟩
    · exact Or.inl ⟨g1, memT ht (s1 (by omega)) (Or.inl ⟨r1 g2, rfl⟩) (Or.inl ⟨k1 g3, rfl⟩) qz⟩
    · exact Or.inr (Or.inl ⟨g0, g1, memT ht (s2 (by omega)) (Or.inr ⟨r2 g2, rfl⟩) (Or.inl ⟨k1 g3, rfl⟩) qz⟩)
    · exact Or.inr (Or.inr ⟨g0, g1, memT ht (s3 (by omega)) (Or.inr ⟨r2 g2, rfl⟩) (Or.inr ⟨k2' g3, rfl⟩) qz⟩)
  have b1' : rn < 16 := by rcases rel with u | u | u <;> omega
  have b2' : kk < 16 := by rcases rel with u | u | u <;> omega
  have b3' : nn ≤ 256 := by rcases rel with u | u | u <;> omega
  clear rel s1 s2 s3 k1 k2' r1 r2 qz
  refine w_iload C (pc' := 290) at_288 rfl rfl ?_
  refine w_if_eq C (pc' := 298) (pn := 293) at_290 (by decide) (by decide) rfl (fun c290 => ?_) (fun c290 => ?_)
  · have ho : (ord = .null ∧ zo = 0) ∨ ∃ od, ord = .ref od ∧ Arn Z h' od .int zo := by
      rcases hord with ⟨-, u1, u2⟩ | ⟨-, u1, od, T, u2, u3, u4⟩
      · exact Or.inl ⟨u1, u2⟩
      · exact Or.inr ⟨od, u2, (H0.ar (List.mem_append_right _ u3)).arn (by rw [u1]; exact len_i32 u4 hk)⟩
    refine w_aload C (pc' := 300) at_298 rfl rfl rfl ?_
    refine Wp.size C fun sz300 => ?_
    refine w_virtual C (pc' := 303) (W := 0) (tw hw 132 rfl) (tw hw 133 rfl) (tw hw 135 rfl) (tw hw 134 rfl) (tw hw 42 rfl) (tw hw 136 rfl) (by decide) pd_11 at_300 (H.ex (by repeat (first | exact List.Mem.head _ | apply List.Mem.tail))) (c_19n X.l Z a0 n0 _ hw sz300 (A 0) (A 1) (A 2) (A 3) (A 6) (A 7) (A 8) (A 9) (A 10) (A 11) (A 12) (A 13) _ _ (B.map vb) 256 16 16 16 16 16 16 16 32 16 zo (H.mm (by repeat (first | exact List.Mem.head _ | apply List.Mem.tail))).2 (H.mm (by repeat (first | exact List.Mem.head _ | apply List.Mem.tail))).2 (H.ar (by repeat (first | exact List.Mem.head _ | apply List.Mem.tail))) (len_b32 l11' rfl) ((H.ar (by repeat (first | exact List.Mem.head _ | apply List.Mem.tail))).arn (len_i32 l1' rfl)) ((H.ar (by repeat (first | exact List.Mem.head _ | apply List.Mem.tail))).arn (len_i32 l4' rfl)) ((H.ar (by repeat (first | exact List.Mem.head _ | apply List.Mem.tail))).arn (len_i32 l5' rfl)) ((H.ar (by repeat (first | exact List.Mem.head _ | apply List.Mem.tail))).arn (len_i32 l6' rfl)) ((H.ar (by repeat (first | exact List.Mem.head _ | apply List.Mem.tail))).arn (len_i32 l7' rfl)) ((H.ar (by repeat (first | exact List.Mem.head _ | apply List.Mem.tail))).arn (len_i32 l9' rfl)) ((H.ar (by repeat (first | exact List.Mem.head _ | apply List.Mem.tail))).arn (len_i32 l10' rfl)) ((H.ar (by repeat (first | exact List.Mem.head _ | apply List.Mem.tail))).arn (len_i32 l12' rfl)) ((H.ar (by repeat (first | exact List.Mem.head _ | apply List.Mem.tail))).arn (len_l32 l8' rfl)) ho) rfl rfl rfl (by decide) rfl (by decide) (by decide) (by decide) rfl (fun v300 h300 q300 => ?_)
    obtain ⟨rfl, rfl⟩ := q300
    show Wp X _ _ _ 303 _ [_]
    refine w_lstore C (pc' := 305) (ls' := #[_, _, _, _, _, _, _, _, _, _, _, _, _, _, _, _, _, _, _, _, _, _, _, _, _, _, _, _, _, _, _, _, _, _, _, _, _, _, _, _, _]) at_303 rfl rfl ?_
    -- STOP at 305
    exact (law_305 C a0 hw _ x0 x1 x2 x3 x4 x5 l1 l2 s d t c p eq h2 k2 b1 b2 y1 y2 (A 0) a2 _ (hU c290 _ rfl)).more (by decide) (by decide)
  · refine w_aload C (pc' := 295) at_293 rfl rfl rfl ?_
    refine Wp.size C fun sz295 => ?_
    refine w_virtual C (pc' := 298) (W := 0) (tw hw 141 rfl) (tw hw 142 rfl) (tw hw 144 rfl) (tw hw 143 rfl) (tw hw 42 rfl) (tw hw 145 rfl) (by decide) pd_3 at_295 (H.ex (by repeat (first | exact List.Mem.head _ | apply List.Mem.tail))) (c_20 X.l Z a0 n0 hO _ hw sz295 M nn rn kk ni H0 hn0 S l1' l2' l3' l4' l5' l7' l8' l9' l11' hnn b3' hr b1' hk b2') rfl rfl rfl (by decide) rfl (by decide) (by decide) (by decide) rfl (fun v295 h295 q295 => ?_)
    obtain ⟨rfl, bb, ba, vf, kf, kl, po, pf, fo, vt, nx, TB, TV, T1, T2, T3, T5, T4, t1, t2, t3, t4, t5, t6, t7, w1, w2, w3, w4, w5, w6, w7, w8, w9, w10, w11⟩ := q295
    show Wp X _ _ _ 298 _ []
    have An' : Arn Z h295 ni .int 0 := An.old hn0 w11
    have ho : (ord = .null ∧ zo = 0) ∨ ∃ od, ord = .ref od ∧ Arn Z h295 od .int zo := by
      rcases hord with ⟨-, u1, u2⟩ | ⟨-, u1, od, T, u2, u3, u4⟩
      · exact Or.inl ⟨u1, u2⟩
      · exact Or.inr ⟨od, u2, (w10 _ u3).1.arn (by rw [u1]; exact len_i32 u4 hk)⟩
    refine w_aload C (pc' := 300) at_298 rfl rfl rfl ?_
    refine Wp.size C fun sz300 => ?_
    refine w_virtual C (pc' := 303) (W := 0) (tw hw 132 rfl) (tw hw 133 rfl) (tw hw 135 rfl) (tw hw 134 rfl) (tw hw 42 rfl) (tw hw 136 rfl) (by decide) pd_11 at_300 w1.1 (c_19n X.l Z a0 n0 _ hw sz300 (A 0) bb ba vf kf kl ni po pf fo ni ni _ _ (TB.map vb) n r k k 0 k k 0 0 k zo w1 w2 w3.1 (len_b32 t1 hnn) (w4.1.arn (len_i32 t2 hr)) (w5.1.arn (len_i32 t3 hk)) (w6.1.arn (len_i32 t4 hk)) An' (w7.1.arn (len_i32 t5 hk)) (w9.1.arn (len_i32 t7 hk)) An' An' (w8.1.arn (len_l32 t6 hk)) ho) rfl rfl rfl (by decide) rfl (by decide) (by decide) (by decide) rfl (fun v300 h300 q300 => ?_)
    obtain ⟨rfl, rfl⟩ := q300
    show Wp X _ _ _ 303 _ [_]
    refine w_lstore C (pc' := 305) (ls' := #[_, _, _, _, _, _, _, _, _, _, _, _, _, _, _, _, _, _, _, _, _, _, _, _, _, _, _, _, _, _, _, _, _, _, _, _, _, _, _, _, _]) at_303 rfl rfl ?_
    -- STOP at 305
    exact (law_305 C a0 hw _ x0 x1 x2 x3 x4 x5 l1 l2 s d t c p eq h2 k2 b1 b2 y1 y2 (A 0) a2 _ (hT c290 _ rfl)).more (by decide) (by decide)

set_option maxRecDepth 65536 in
set_option maxHeartbeats 40000000 in
theorem law_278 {Z : State} {n0 : Nat} {X : Cx} (C : Hand X Z x code maxLocals ret room_1 n0 (fun v _ => v = some (.int 1))) (a0 : Array Value) (hw : ∀ d ∈ tables_1, d.before a0 Z = true) (hO h' : Heap) (hn0 : hO.size = n0) (ni : Addr) (S : Sta Z hO RBN "NO_INTS" "[I" (.ref ni)) (An : Arn Z hO ni .int 0) (x0 x1 : Int32) (x2 x3 x4 : Int64) (x5 l1 l2 s d t c p eq h2 : Int32) (k2 : Int64) (b1 b2 y1 y2 : Addr) (a2 : Int32) {A : Nat → Addr} {lim : Int64} {r k n : Int32} {B : List Int8} {VF VT NX KF KL HO PO : List Int32} {PF : List Int64} {FO LO SL : List Int32} (M : List (Addr × CD)) (m1 m2 rn kk nn : Nat) (rel : ((a2 = 0 ∧ rn = 1 ∧ kk = 1 ∧ nn = m1 + m2) ∨ (a2 = 1 ∧ eq = 1 ∧ rn = 2 ∧ kk = 1 ∧ nn = m1 + m2 + m1) ∨ (a2 = 1 ∧ eq = 0 ∧ rn = 2 ∧ kk = 2 ∧ nn = m1 + m2 + m2 + m1))) (hl1 : l1.toInt = m1) (hl2 : l2.toInt = m2) (hm1 : m1 ≤ 8) (hm2 : m2 ≤ 8) (hr : r.toInt = rn) (hk : k.toInt = kk) (hnn : n.toInt = nn)
    (hp : 0 ≤ p.toInt ∧ (d ≠ 0 → p.toInt ≤ 65535)) (H14 : Hs Z n0 hO h' (cells A p lim r k n .null .null B VF VT NX KF KL HO PO PF FO LO SL)) (H : Hs Z n0 hO h' (cells A p lim r k n .null .null B VF VT NX KF KL HO PO PF FO LO SL ++ M)) (l1' : VF.length = 16) (l2' : VT.length = 16) (l3' : NX.length = 16) (l4' : KF.length = 16) (l5' : KL.length = 16) (l6' : HO.length = 16) (l7' : PO.length = 16) (l8' : PF.length = 16) (l9' : FO.length = 16) (l10' : LO.length = 16) (l11' : B.length = 256) (l12' : SL.length = 32) (hkl : ∀ i z, i < 2 → KL[i]? = some z → z.toInt ≤ 8) (hc : ∀ i, i < kk → ChainOk NX FO VF VT B i) :
    Wp X 20 1270 h' 278 #[.val (.int x0), .val (.int x1), .val (.long x2), .second, .val (.long x3), .second, .val (.long x4), .second, .val (.int x5), .val (.int l1), .val (.int l2), .val (.int s), .val (.int d), .val (.int t), .val (.int c), .val (.long k2), .second, .val (.int p), .val (.int eq), .val (.int h2), .val (.ref b1), .val (.ref b2), .val (.ref y1), .val (.ref y2), .val (.ref (A 0)), .val (.int 1), .val (.int a2), .unset, .unset, .unset, .unset, .unset, .unset, .unset, .unset, .unset, .unset, .unset, .unset, .unset, .unset] [] := by
  have hk12 : kk = 1 ∨ kk = 2 := by rcases rel with u | u | u <;> omega
  refine w_iload C (pc' := 280) at_278 rfl rfl ?_
  refine w_if_eq C (pc' := 288) (pn := 283) at_280 (by decide) (by decide) rfl (fun c280 => ?_) (fun c280 => ?_)
  · exact (law_288 C a0 hw hO h' hn0 ni S An x0 x1 x2 x3 x4 x5 l1 l2 s d t c p eq h2 k2 b1 b2 y1 y2 a2 .null .null 0 M m1 m2 rn kk nn rel hl1 hl2 hm1 hm2 hr hk hnn (Or.inl ⟨c280, rfl, rfl⟩) H l1' l2' l3' l4' l5' l6' l7' l8' l9' l10' l11' l12').more (by decide) (by decide)
  · have hp2 := hp.2 c280
    refine w_aload C (pc' := 285) at_283 rfl rfl rfl ?_
    refine Wp.size C fun sz285 => ?_
    refine w_virtual C (pc' := 288) (W := 0) (tw hw 178 rfl) (tw hw 179 rfl) (tw hw 181 rfl) (tw hw 180 rfl) (tw hw 42 rfl) (tw hw 182 rfl) (by decide) pd_3 at_285 (H14.ex (by repeat (first | exact List.Mem.head _ | apply List.Mem.tail))) (c_28 X.l Z a0 n0 hO _ hw sz285 kk p.toInt.toNat H14 hk hk12 l4' l5' l7' l8' hkl hc (by omega) (by omega)) rfl rfl rfl (by decide) rfl (by decide) (by decide) (by decide) rfl (fun v285 h285 q285 => ?_)
    obtain ⟨rfl, od, en', T, E, lT, H2⟩ := q285
    show Wp X _ _ _ 288 _ []
    have H3 : Hs Z n0 hO h285 (cells A p lim r k n (.ref od) (.ref en') B VF VT NX KF KL HO PO PF FO LO SL ++ [(od, ai T)]) := H2.pick [2, 3, 4, 5, 6, 7, 8, 9, 10, 11, 12, 13, 14, 15, 1] (by decide) rfl
    exact law_288 C a0 hw hO _ hn0 ni S An x0 x1 x2 x3 x4 x5 l1 l2 s d t c p eq h2 k2 b1 b2 y1 y2 a2 (.ref od) (.ref en') k [(od, ai T)] m1 m2 rn kk nn rel hl1 hl2 hm1 hm2 hr hk hnn (Or.inr ⟨c280, rfl, od, T, rfl, by simp, lT⟩) H3 l1' l2' l3' l4' l5' l6' l7' l8' l9' l10' l11' l12'

abbrev key8 (k : Int64) : List Int8 := [byt k 0, byt k 1, byt k 2, byt k 3, byt k 4, byt k 5, byt k 6, byt k 7]
abbrev kt (k : Int64) (m : Nat) : List Int8 := cpy (List.replicate 8 0) 0 (key8 k) m
theorem cpy_lo {T S : List Int8} {x m j : Nat} (hx : x ≤ T.length) (hj : j < x) : (cpy T x S m)[j]? = T[j]? := by
  unfold cpy
  rw [List.append_assoc, List.getElem?_append_left (by rw [List.length_take]; omega), List.getElem?_take, if_pos hj]
theorem cpy_mid {T S : List Int8} {x m j : Nat} (hx : x ≤ T.length) (hm : m ≤ S.length) (hj : j < m) : (cpy T x S m)[x + j]? = S[j]? := by
  unfold cpy
  rw [List.getElem?_append_left (by rw [List.length_append, List.length_take, List.length_take]; omega), List.getElem?_append_right (by rw [List.length_take]; omega), List.length_take, Nat.min_eq_left hx, Nat.add_sub_cancel_left, List.getElem?_take, if_pos hj]
theorem key8_at (k : Int64) (j : Nat) (hj : j < 8) : (key8 k)[j]? = some (byt k j) := by
  match j, hj with
  | 0, _ => rfl
  | 1, _ => rfl
  | 2, _ => rfl
  | 3, _ => rfl
  | 4, _ => rfl
  | 5, _ => rfl
  | 6, _ => rfl
  | 7, _ => rfl
  | n + 8, q => exact absurd q (by omega)
theorem kt_at {k : Int64} {m j : Nat} (hm : m ≤ 8) (hj : j < m) : (kt k m)[j]? = some (byt k j) := by
  have := cpy_mid (T := List.replicate 8 0) (S := key8 k) (x := 0) (m := m) (by simp) (by simpa using hm) hj
  rw [Nat.zero_add] at this
  rw [this, key8_at k j (by omega)]
theorem kt_len {k : Int64} {m : Nat} (hm : m ≤ 8) : (kt k m).length = 8 := by
  rw [cpy_len (by simpa using hm) (by simpa using hm)]; simp
abbrev b1F (k1 k2 : Int64) (m1 m2 : Nat) : List Int8 := cpy (cpy (List.replicate 256 0) 0 (kt k1 m1) m1) (0 + m1) (kt k2 m2) m2
theorem b1_len {k1 k2 : Int64} {m1 m2 : Nat} (h1 : m1 ≤ 8) (h2 : m2 ≤ 8) : (b1F k1 k2 m1 m2).length = 256 := by
  have l1 := kt_len (k := k1) h1
  have l2 := kt_len (k := k2) h2
  have e := cpy_len (T := List.replicate 256 0) (S := kt k1 m1) (x := 0) (m := m1) (by rw [List.length_replicate]; omega) (by omega)
  rw [List.length_replicate] at e
  rw [cpy_len (by omega) (by omega), e]
theorem b1_key {k1 k2 : Int64} {m1 m2 j : Nat} (h1 : m1 ≤ 8) (hj : j < m1) : (b1F k1 k2 m1 m2)[0 + j]? = some (byt k1 j) := by
  have l1 := kt_len (k := k1) h1
  have e := cpy_len (T := List.replicate 256 0) (S := kt k1 m1) (x := 0) (m := m1) (by rw [List.length_replicate]; omega) (by omega)
  rw [List.length_replicate] at e
  rw [cpy_lo (by omega) (by omega), cpy_mid (by rw [List.length_replicate]; omega) (by omega) hj, kt_at h1 hj]
theorem b1_val {k1 k2 : Int64} {m1 m2 j : Nat} (h1 : m1 ≤ 8) (h2 : m2 ≤ 8) (hj : j < m2) : (b1F k1 k2 m1 m2)[0 + m1 + j]? = some (byt k2 j) := by
  have l1 := kt_len (k := k1) h1
  have l2 := kt_len (k := k2) h2
  have e := cpy_len (T := List.replicate 256 0) (S := kt k1 m1) (x := 0) (m := m1) (by rw [List.length_replicate]; omega) (by omega)
  rw [List.length_replicate] at e
  rw [cpy_mid (by omega) (by omega) hj, kt_at h2 hj]
theorem EQ_iff {x5 h2 l1 l2 : Int32} {k1 k2 : Int64} {m1 m2 : Nat} (hl1 : l1.toInt = m1) (hl2 : l2.toInt = m2) (h1 : m1 ≤ 8) (h2' : m2 ≤ 8) : EQ x5 h2 0 m1 m2 (b1F k1 k2 m1 m2) (kt k2 m2) ↔ (x5 = h2 ∧ l1 = l2 ∧ (k1 ^^^ k2) &&& msk l1 = 0) := by
  rw [keyEq k1 k2 l1 m1 hl1 h1]
  constructor
  · rintro ⟨e1, e2, e3⟩
    refine ⟨Int32.toInt_inj.mp e1, Int32.toInt_inj.mp (by omega), fun j hj => ?_⟩
    have := e3 j hj
    rw [b1_key h1 hj, Nat.zero_add, kt_at h2' (by omega)] at this
    exact Option.some.inj this
  · rintro ⟨rfl, rfl, e3⟩
    have em : m1 = m2 := by omega
    refine ⟨rfl, em, fun j hj => ?_⟩
    rw [b1_key h1 hj, Nat.zero_add, kt_at h2' (by omega), e3 j hj]
theorem zero_at (x : Int32) : (List.replicate 32 (0 : Int32))[(x &&& (32 - 1)).toInt.toNat]? = some 0 := by
  have := a31 x
  rw [List.getElem?_replicate, if_pos (by omega)]
theorem next_ne (x : Int32) : (((x &&& (32 - 1)) + 1) &&& (32 - 1)).toInt.toNat ≠ (x &&& (32 - 1)).toInt.toNat := by
  obtain ⟨q1, q2⟩ := a31 x
  have e := b_and31 ((x &&& (32 - 1)) + 1) _ rfl
  have q3 := nat32 q1
  have q4 := nat32 (a31 ((x &&& (32 - 1)) + 1)).1
  rw [e31] at *
  have h1 : ((x &&& 31) + 1 : Int32).toBitVec.toNat = (x &&& 31).toBitVec.toNat + 1 := by
    rw [Int32.toBitVec_add, BitVec.toNat_add, show (1 : Int32).toBitVec.toNat = 1 from by decide, Nat.mod_eq_of_lt (by omega)]
  omega
theorem slot2 (x y : Int32) : SlotPre ((List.replicate 32 (0 : Int32)).set (x &&& (32 - 1)).toInt.toNat (0 + 1)) y := by
  have q1 := a31 x
  have q2 := a31 y
  have q3 := a31 ((y &&& (32 - 1)) + 1)
  refine ⟨by simp, ?_⟩
  by_cases c : (y &&& (32 - 1)).toInt.toNat = (x &&& (32 - 1)).toInt.toNat
  · right
    constructor
    · rw [c, List.getElem?_set_self (by rw [List.length_replicate]; omega)]; rfl
    · rw [List.getElem?_set_ne (by rw [← c]; exact (next_ne y).symm), List.getElem?_replicate, if_pos (by omega)]
  · left
    rw [List.getElem?_set_ne (fun z => c z.symm), List.getElem?_replicate, if_pos (by omega)]
theorem slot_same (x : Int32) : ((List.replicate 32 (0 : Int32)).set (x &&& (32 - 1)).toInt.toNat (0 + 1))[(x &&& (32 - 1)).toInt.toNat]? = some 1 := by
  have q1 := a31 x
  rw [List.getElem?_set_self (by rw [List.length_replicate]; omega)]; rfl

set_option maxRecDepth 65536 in
set_option maxHeartbeats 40000000 in
theorem law_169 {Z : State} {n0 : Nat} {X : Cx} (C : Hand X Z x code maxLocals ret room_1 n0 (fun v _ => v = some (.int 1))) (a0 : Array Value) (hw : ∀ d ∈ tables_1, d.before a0 Z = true) (h : Heap) (hn0 : h.size = n0) (ni : Addr) (S : Sta Z h RBN "NO_INTS" "[I" (.ref ni)) (An : Arn Z h ni .int 0) (x0 x1 : Int32) (x2 x3 x4 : Int64) (x5 l1 l2 s d t c p eq h2 : Int32) (k2 : Int64) (m1 m2 : Nat) (hl1 : l1.toInt = m1) (hl2 : l2.toInt = m2) (hm1 : m1 ≤ 8) (hm2 : m2 ≤ 8) (hp : 0 ≤ p.toInt ∧ (d ≠ 0 → p.toInt ≤ 65535))
    (heq : (eq = 1 ∧ l1 = l2 ∧ (x3 ^^^ k2) &&& msk l1 = 0 ∧ h2 = x5) ∨ (eq = 0 ∧ ¬ (l1 = l2 ∧ (x3 ^^^ k2) &&& msk l1 = 0))) :
    Wp X 0 0 h 169 #[.val (.int x0), .val (.int x1), .val (.long x2), .second, .val (.long x3), .second, .val (.long x4), .second, .val (.int x5), .val (.int l1), .val (.int l2), .val (.int s), .val (.int d), .val (.int t), .val (.int c), .val (.long k2), .second, .val (.int p), .val (.int eq), .val (.int h2), .unset, .unset, .unset, .unset, .unset, .unset, .unset, .unset, .unset, .unset, .unset, .unset, .unset, .unset, .unset, .unset, .unset, .unset, .unset, .unset, .unset] [] := by
  have H : Hs Z n0 h h [] := Hs.nil
  have hl1' : (0 + l1).toInt = m1 := by rw [Int32.zero_add]; exact hl1
  have hl2' : (0 + l2).toInt = m2 := by rw [Int32.zero_add]; exact hl2
  have z0 : (0 : Int32).toInt = (0 : Nat) := by decide
  have kl1 := kt_len (k := x3) hm1
  have kl2 := kt_len (k := k2) hm2
  have bl := b1_len (k1 := x3) (k2 := k2) hm1 hm2
  have r8 : (List.replicate 8 (0 : Int8)).length = 8 := List.length_replicate
  have ke1 : (key8 x3).length = 8 := rfl
  have ke2 : (key8 k2).length = 8 := rfl
  refine w_lload C (pc' := 171) at_169 rfl rfl ?_
  refine Wp.size C fun sz171 => ?_
  refine w_static C (pc' := 174) (W := 0) (tw hw 5 rfl) (tw hw 6 rfl) (tw hw 3 rfl) (tw hw 7 rfl) (by decide) pd_1 at_171 (c_2 X.l Z a0 hw x3 n0 _ sz171) rfl rfl rfl (by decide) rfl (by decide) (by decide) (by decide) rfl (fun v171 h171 q171 => ?_)
  obtain ⟨b1, rfl, E1, g1, u1, q1⟩ := q171
  show Wp X _ _ _ 174 _ [_]
  replace H := H.newX E1 g1 sz171 q1
  refine w_astore C (pc' := 176) (ls' := #[_, _, _, _, _, _, _, _, _, _, _, _, _, _, _, _, _, _, _, _, _, _, _, _, _, _, _, _, _, _, _, _, _, _, _, _, _, _, _, _, _]) at_174 rfl rfl rfl ?_
  refine w_lload C (pc' := 178) at_176 rfl rfl ?_
  refine Wp.size C fun sz178 => ?_
  refine w_static C (pc' := 181) (W := 0) (tw hw 5 rfl) (tw hw 6 rfl) (tw hw 3 rfl) (tw hw 7 rfl) (by decide) pd_1 at_178 (c_2 X.l Z a0 hw k2 n0 _ sz178) rfl rfl rfl (by decide) rfl (by decide) (by decide) (by decide) rfl (fun v178 h178 q178 => ?_)
  obtain ⟨b2, rfl, E2, g2, u2, q2⟩ := q178
  show Wp X _ _ _ 181 _ [_]
  replace H := H.newX E2 g2 sz178 q2
  refine w_astore C (pc' := 183) (ls' := #[_, _, _, _, _, _, _, _, _, _, _, _, _, _, _, _, _, _, _, _, _, _, _, _, _, _, _, _, _, _, _, _, _, _, _, _, _, _, _, _, _]) at_181 rfl rfl rfl ?_
  refine w_new C (pc' := 186) (tw hw 9 rfl) (tw hw 10 rfl) (tw hw 11 rfl) at_183 (by decide) (by decide) rfl (fun h183 a183 e183 g183 E183 K183 D183 => ?_)  -- com/example/runnel/runnel/runtime/Bytes
  replace H := H.cons E183 e183 g183 (newBY hw K183 D183)
  refine w_dup C (pc' := 187) at_186 rfl rfl ?_
  refine w_bipush C (pc' := 189) (z := 8) at_187 rfl rfl ?_
  refine Wp.size C fun sz189 => ?_
  refine w_special C (pc' := 192) (W := 1) (tw hw 12 rfl) (tw hw 13 rfl) (tw hw 11 rfl) (tw hw 14 rfl) rfl (by decide) pd_2 at_189 (c_3 X.l Z a0 hw a183 8 8 n0 _ sz189 (H.ge (by repeat (first | exact List.Mem.head _ | apply List.Mem.tail))) (H.mm (by repeat (first | exact List.Mem.head _ | apply List.Mem.tail))).2 (by decide) rfl (by decide)) rfl rfl rfl (by decide) rfl (by decide) (by decide) (by decide) rfl (fun v189 h189 q189 => ?_)
  obtain ⟨rfl, c1, Kc, gc, lc, cA, cB⟩ := q189
  show Wp X _ _ _ 192 _ [_]
  replace H := H.keptNew Kc (by repeat (first | exact Rp.hd | apply Rp.tl)) cA gc sz189 cB; have nc : a183 ≠ c1 := H.ne (i := 1) (j := 0) rfl rfl (by decide)
  refine w_astore C (pc' := 194) (ls' := #[_, _, _, _, _, _, _, _, _, _, _, _, _, _, _, _, _, _, _, _, _, _, _, _, _, _, _, _, _, _, _, _, _, _, _, _, _, _, _, _, _]) at_192 rfl rfl rfl ?_
  refine w_aload C (pc' := 196) at_194 rfl rfl rfl ?_
  refine w_aload C (pc' := 198) at_196 rfl rfl rfl ?_
  refine w_iconst C (pc' := 199) (z := 0) at_198 rfl rfl ?_
  refine w_iload C (pc' := 201) at_199 rfl rfl ?_
  refine Wp.size C fun sz201 => ?_
  refine w_virtual C (pc' := 204) (W := 0) (tw hw 25 rfl) (tw hw 26 rfl) (tw hw 28 rfl) (tw hw 27 rfl) (tw hw 11 rfl) (tw hw 29 rfl) (by decide) pd_4 at_201 (H.ex (by repeat (first | exact List.Mem.head _ | apply List.Mem.tail))) (c_6 X.l Z a0 hw a183 c1 b1 0 l1 0 m1 (List.replicate 8 0) (key8 x3) n0 _ sz201 (H.ge (by repeat (first | exact List.Mem.head _ | apply List.Mem.tail))) (H.ge (by repeat (first | exact List.Mem.head _ | apply List.Mem.tail))) nc (H.mm (by repeat (first | exact List.Mem.head _ | apply List.Mem.tail))).2 (H.mm (by repeat (first | exact List.Mem.head _ | apply List.Mem.tail))).2 (H.mm (by repeat (first | exact List.Mem.head _ | apply List.Mem.tail))).2 (by omega) z0 hl1 (by omega) (by omega)) rfl rfl rfl (by decide) rfl (by decide) (by decide) (by decide) rfl (fun v201 h201 q201 => ?_)
  obtain ⟨rfl, Kd, cC, cD⟩ := q201
  show Wp X _ _ _ 204 _ []
  replace H := H.kept2 Kd nc (by repeat (first | exact Rp.hd | apply Rp.tl)) (by repeat (first | exact Rp.hd | apply Rp.tl)) cC cD
  refine w_new C (pc' := 207) (tw hw 9 rfl) (tw hw 10 rfl) (tw hw 11 rfl) at_204 (by decide) (by decide) rfl (fun h204 a204 e204 g204 E204 K204 D204 => ?_)  -- com/example/runnel/runnel/runtime/Bytes
  replace H := H.cons E204 e204 g204 (newBY hw K204 D204)
  refine w_dup C (pc' := 208) at_207 rfl rfl ?_
  refine w_bipush C (pc' := 210) (z := 8) at_208 rfl rfl ?_
  refine Wp.size C fun sz210 => ?_
  refine w_special C (pc' := 213) (W := 1) (tw hw 12 rfl) (tw hw 13 rfl) (tw hw 11 rfl) (tw hw 14 rfl) rfl (by decide) pd_2 at_210 (c_3 X.l Z a0 hw a204 8 8 n0 _ sz210 (H.ge (by repeat (first | exact List.Mem.head _ | apply List.Mem.tail))) (H.mm (by repeat (first | exact List.Mem.head _ | apply List.Mem.tail))).2 (by decide) rfl (by decide)) rfl rfl rfl (by decide) rfl (by decide) (by decide) (by decide) rfl (fun v210 h210 q210 => ?_)
  obtain ⟨rfl, c2, Ke, ge, le, cE, cF⟩ := q210
  show Wp X _ _ _ 213 _ [_]
  replace H := H.keptNew Ke (by repeat (first | exact Rp.hd | apply Rp.tl)) cE ge sz210 cF; have ne : a204 ≠ c2 := H.ne (i := 1) (j := 0) rfl rfl (by decide)
  refine w_astore C (pc' := 215) (ls' := #[_, _, _, _, _, _, _, _, _, _, _, _, _, _, _, _, _, _, _, _, _, _, _, _, _, _, _, _, _, _, _, _, _, _, _, _, _, _, _, _, _]) at_213 rfl rfl rfl ?_
  refine w_aload C (pc' := 217) at_215 rfl rfl rfl ?_
  refine w_aload C (pc' := 219) at_217 rfl rfl rfl ?_
  refine w_iconst C (pc' := 220) (z := 0) at_219 rfl rfl ?_
  refine w_iload C (pc' := 222) at_220 rfl rfl ?_
  refine Wp.size C fun sz222 => ?_
  refine w_virtual C (pc' := 225) (W := 0) (tw hw 25 rfl) (tw hw 26 rfl) (tw hw 28 rfl) (tw hw 27 rfl) (tw hw 11 rfl) (tw hw 29 rfl) (by decide) pd_4 at_222 (H.ex (by repeat (first | exact List.Mem.head _ | apply List.Mem.tail))) (c_6 X.l Z a0 hw a204 c2 b2 0 l2 0 m2 (List.replicate 8 0) (key8 k2) n0 _ sz222 (H.ge (by repeat (first | exact List.Mem.head _ | apply List.Mem.tail))) (H.ge (by repeat (first | exact List.Mem.head _ | apply List.Mem.tail))) ne (H.mm (by repeat (first | exact List.Mem.head _ | apply List.Mem.tail))).2 (H.mm (by repeat (first | exact List.Mem.head _ | apply List.Mem.tail))).2 (H.mm (by repeat (first | exact List.Mem.head _ | apply List.Mem.tail))).2 (by omega) z0 hl2 (by omega) (by omega)) rfl rfl rfl (by decide) rfl (by decide) (by decide) (by decide) rfl (fun v222 h222 q222 => ?_)
  obtain ⟨rfl, Kf, cG, cH⟩ := q222
  show Wp X _ _ _ 225 _ []
  replace H := H.kept2 Kf ne (by repeat (first | exact Rp.hd | apply Rp.tl)) (by repeat (first | exact Rp.hd | apply Rp.tl)) cG cH
  refine w_new C (pc' := 228) (tw hw 40 rfl) (tw hw 41 rfl) (tw hw 42 rfl) at_225 (by decide) (by decide) rfl (fun h225 a225 e225 g225 E225 K225 D225 => ?_)  -- com/example/runnel/runnel/runtime/RecordBuffer
  replace H := H.cons E225 e225 g225 (newRB hw K225 D225)
  refine w_dup C (pc' := 229) at_228 rfl rfl ?_
  refine w_iload C (pc' := 231) at_229 rfl rfl ?_
  refine w_lloadN C (pc' := 232) at_231 rfl rfl ?_
  refine Wp.size C fun sz232 => ?_
  refine w_special C (pc' := 235) (W := 1) (tw hw 43 rfl) (tw hw 44 rfl) (tw hw 42 rfl) (tw hw 45 rfl) rfl (by decide) pd_6 at_232 (c_8 X.l Z a0 n0 h _ hw sz232 a225 p x2 _ _ _ _ (H.pick (M := (a225, rbo 0 0 .null 0 .null .null .null 0 .null .null .null .null .null .null .null .null .null .null) :: [(a183, bo c1 (0 + l1)), (c1, ab (kt x3 m1)), (a204, bo c2 (0 + l2)), (c2, ab (kt k2 m2))]) [0, 4, 3, 2, 1] (by decide) rfl)) rfl rfl rfl (by decide) rfl (by decide) (by decide) (by decide) rfl (fun v232 h232 q232 => ?_)
  obtain ⟨rfl, A, rfl, HB⟩ := q232
  show Wp X _ _ _ 235 _ [_]
  replace H := HB
  refine w_astore C (pc' := 237) (ls' := #[_, _, _, _, _, _, _, _, _, _, _, _, _, _, _, _, _, _, _, _, _, _, _, _, _, _, _, _, _, _, _, _, _, _, _, _, _, _, _, _, _]) at_235 rfl rfl rfl ?_
  refine w_aload C (pc' := 239) at_237 rfl rfl rfl ?_
  refine w_iconst C (pc' := 240) (z := 0) at_239 rfl rfl ?_
  refine w_iload C (pc' := 242) at_240 rfl rfl ?_
  refine w_aload C (pc' := 244) at_242 rfl rfl rfl ?_
  refine w_aload C (pc' := 246) at_244 rfl rfl rfl ?_
  have HL := H
  simp only [cells, List.cons_append, List.nil_append] at HL
  have KP1 : KeyPre Z h232 (List.replicate 256 0) (List.replicate 16 0) (List.replicate 16 0) (List.replicate 16 0) a183 c1 0 0 0 (0 + l1) 0 0 m1 (kt x3 m1) := ⟨rfl, rfl, rfl, z0, z0, hl1', by rw [List.length_replicate]; omega, Nat.le_of_eq List.length_replicate, by omega, by omega, (HL.mm (by repeat (first | exact List.Mem.head _ | apply List.Mem.tail))).2, (HL.mm (by repeat (first | exact List.Mem.head _ | apply List.Mem.tail))).2⟩
  refine Wp.size C fun sz246 => ?_
  refine w_virtual C (pc' := 249) (W := 0) (tw hw 79 rfl) (tw hw 80 rfl) (tw hw 82 rfl) (tw hw 81 rfl) (tw hw 42 rfl) (tw hw 83 rfl) (by decide) pd_7 at_246 (HL.ex (by repeat (first | exact List.Mem.head _ | apply List.Mem.tail))) (c_9 X.l Z a0 n0 h _ hw sz246 a183 c1 a204 c2 0 x5 0 0 0 (0 + l1) (0 + l2) 0 0 0 m1 m2 0 0 0 0 (kt x3 m1) (kt k2 m2) H KP1 ⟨List.length_replicate, Or.inl (zero_at x5)⟩ List.length_replicate List.length_replicate List.length_replicate List.length_replicate List.length_replicate List.length_replicate List.length_replicate List.length_replicate List.length_replicate List.length_replicate List.length_replicate z0 (by omega) z0 (by omega) z0 (by omega) hm1 hl2' hm2 (by omega) rfl z0 (by omega) (by omega)) rfl rfl rfl (by decide) rfl (by decide) (by decide) (by decide) rfl (fun v246 h246 q246 => ?_)
  rcases q246 with ⟨-, u, -⟩ | ⟨rfl, -, pf, sl, hsl, H1⟩ | ⟨-, u, -, -⟩
  · exact absurd u (by decide)
  rotate_left
  · exact absurd ((zero_at x5).symm.trans u) (by decide)
  have esl := hsl (zero_at x5)
  subst esl
  clear KP1 hsl
  have H114 : Hs Z n0 h h246 (cells A p x2 (0 + 1) (0 + 1) (0 + (0 + l1) + (0 + l2)) .null .null (b1F x3 k2 m1 m2) ((List.replicate 16 (0 : Int32)).set 0 (0 + (0 + l1))) ((List.replicate 16 (0 : Int32)).set 0 (0 + (0 + l1) + (0 + l2))) ((List.replicate 16 (0 : Int32)).set 0 (-1)) ((List.replicate 16 (0 : Int32)).set 0 (0)) ((List.replicate 16 (0 : Int32)).set 0 (0 + l1)) ((List.replicate 16 (0 : Int32)).set 0 (x5)) ((List.replicate 16 (0 : Int32)).set 0 (0)) ((List.replicate 16 (0 : Int64)).set 0 (pf)) ((List.replicate 16 (0 : Int32)).set 0 (0)) ((List.replicate 16 (0 : Int32)).set 0 (0)) ((List.replicate 32 (0 : Int32)).set (x5 &&& (32 - 1)).toInt.toNat (0 + 1))) := H1.pick [0, 1, 2, 3, 4, 5, 6, 7, 8, 9, 10, 11, 12, 13] (by decide) rfl
  have H1s : Hs Z n0 h h246 (cells A p x2 (0 + 1) (0 + 1) (0 + (0 + l1) + (0 + l2)) .null .null (b1F x3 k2 m1 m2) ((List.replicate 16 (0 : Int32)).set 0 (0 + (0 + l1))) ((List.replicate 16 (0 : Int32)).set 0 (0 + (0 + l1) + (0 + l2))) ((List.replicate 16 (0 : Int32)).set 0 (-1)) ((List.replicate 16 (0 : Int32)).set 0 (0)) ((List.replicate 16 (0 : Int32)).set 0 (0 + l1)) ((List.replicate 16 (0 : Int32)).set 0 (x5)) ((List.replicate 16 (0 : Int32)).set 0 (0)) ((List.replicate 16 (0 : Int64)).set 0 (pf)) ((List.replicate 16 (0 : Int32)).set 0 (0)) ((List.replicate 16 (0 : Int32)).set 0 (0)) ((List.replicate 32 (0 : Int32)).set (x5 &&& (32 - 1)).toInt.toNat (0 + 1)) ++ [(a204, bo c2 (0 + l2)), (c2, ab (kt k2 m2)), (a183, bo c1 (0 + l1)), (c1, ab (kt x3 m1))]) := H1.pick [0, 1, 2, 3, 4, 5, 6, 7, 8, 9, 10, 11, 12, 13, 16, 17, 14, 15] (by decide) rfl
  have a1 := c_iadd (0 + (0 + l1)) (0 + l2)
  have g1 := rng32 (0 + (0 + l1) + (0 + l2))
  have a2' := c_iadd 0 (0 + l1)
  have g2 := rng32 (0 + (0 + l1))
  have hv1 : (0 + (0 + l1)).toInt = m1 := by omega
  have hn1 : (0 + (0 + l1) + (0 + l2)).toInt = (m1 + m2 : Nat) := by omega
  clear a1 g1 a2' g2
  have hkl1 : ∀ i z, i < 2 → ((List.replicate 16 (0 : Int32)).set 0 (0 + l1))[i]? = some z → z.toInt ≤ 8 := by
    intro i z hi e
    match i, hi with
    | 0, _ => cases (Option.some.inj e); omega
    | 1, _ => cases (Option.some.inj e); decide
  have hc1 : ∀ i, i < 1 → ChainOk ((List.replicate 16 (0 : Int32)).set 0 (-1)) ((List.replicate 16 (0 : Int32)).set 0 (0)) ((List.replicate 16 (0 : Int32)).set 0 (0 + (0 + l1))) ((List.replicate 16 (0 : Int32)).set 0 (0 + (0 + l1) + (0 + l2))) (b1F x3 k2 m1 m2) i := by
    intro i hi
    match i, hi with
    | 0, _ => exact ⟨0, 0, rfl, by decide, Or.inl rfl⟩
  have fin0 : Wp X 20 1270 h246 278 #[.val (.int x0), .val (.int x1), .val (.long x2), .second, .val (.long x3), .second, .val (.long x4), .second, .val (.int x5), .val (.int l1), .val (.int l2), .val (.int s), .val (.int d), .val (.int t), .val (.int c), .val (.long k2), .second, .val (.int p), .val (.int eq), .val (.int h2), .val (.ref b1), .val (.ref b2), .val (.ref a183), .val (.ref a204), .val (.ref (A 0)), .val (.int 1), .val (.int 0), .unset, .unset, .unset, .unset, .unset, .unset, .unset, .unset, .unset, .unset, .unset, .unset, .unset, .unset] [] := law_278 C a0 hw h _ hn0 ni S An x0 x1 x2 x3 x4 x5 l1 l2 s d t c p eq h2 k2 b1 b2 a183 a204 0 [(a183, bo c1 (0 + l1)), (c1, ab (kt x3 m1)), (a204, bo c2 (0 + l2)), (c2, ab (kt k2 m2))] m1 m2 1 1 (m1 + m2) (Or.inl ⟨rfl, rfl, rfl, rfl⟩) hl1 hl2 hm1 hm2 (by decide) (by decide) hn1 hp H114 H1 (by simp only [List.length_set, List.length_replicate]) (by simp only [List.length_set, List.length_replicate]) (by simp only [List.length_set, List.length_replicate]) (by simp only [List.length_set, List.length_replicate]) (by simp only [List.length_set, List.length_replicate]) (by simp only [List.length_set, List.length_replicate]) (by simp only [List.length_set, List.length_replicate]) (by simp only [List.length_set, List.length_replicate]) (by simp only [List.length_set, List.length_replicate]) (by simp only [List.length_set, List.length_replicate]) bl (by simp only [List.length_set, List.length_replicate]) hkl1 hc1
  show Wp X _ _ _ 249 _ [_]
  refine w_istore C (pc' := 251) (ls' := #[_, _, _, _, _, _, _, _, _, _, _, _, _, _, _, _, _, _, _, _, _, _, _, _, _, _, _, _, _, _, _, _, _, _, _, _, _, _, _, _, _]) at_249 rfl rfl ?_
  refine w_iload C (pc' := 253) at_251 rfl rfl ?_
  refine w_if_eq C (pc' := 275) (pn := 256) at_253 (by decide) (by decide) rfl (fun c253 => ?_) (fun c253 => ?_)
  · -- 253 taken -> 275
    refine w_iconst C (pc' := 276) (z := 0) at_275 rfl rfl ?_
    refine w_istore C (pc' := 278) (ls' := #[_, _, _, _, _, _, _, _, _, _, _, _, _, _, _, _, _, _, _, _, _, _, _, _, _, _, _, _, _, _, _, _, _, _, _, _, _, _, _, _, _]) at_276 rfl rfl ?_
    -- STOP at 278
    exact fin0
  have HL1 := H1
  simp only [cells, List.cons_append, List.nil_append] at HL1
  have KP2 : KeyPre Z h246 (b1F x3 k2 m1 m2) ((List.replicate 16 (0 : Int32)).set 0 (0)) ((List.replicate 16 (0 : Int32)).set 0 (0 + l1)) ((List.replicate 16 (0 : Int32)).set 0 (x5)) a204 c2 0 (0 + l1) x5 (0 + l2) 0 m1 m2 (kt k2 m2) := ⟨rfl, rfl, rfl, z0, hl1', hl2', by omega, Nat.le_of_eq bl, by omega, by omega, (HL1.mm (by repeat (first | exact List.Mem.head _ | apply List.Mem.tail))).2, (HL1.mm (by repeat (first | exact List.Mem.head _ | apply List.Mem.tail))).2⟩
  refine w_aload C (pc' := 258) at_256 rfl rfl rfl ?_
  refine w_iconst C (pc' := 259) (z := 0) at_258 rfl rfl ?_
  refine w_iload C (pc' := 261) at_259 rfl rfl ?_
  refine w_aload C (pc' := 263) at_261 rfl rfl rfl ?_
  refine w_aload C (pc' := 265) at_263 rfl rfl rfl ?_
  refine Wp.size C fun sz265 => ?_
  refine w_virtual C (pc' := 268) (W := 0) (tw hw 79 rfl) (tw hw 80 rfl) (tw hw 82 rfl) (tw hw 81 rfl) (tw hw 42 rfl) (tw hw 83 rfl) (by decide) pd_7 at_265 (HL1.ex (by repeat (first | exact List.Mem.head _ | apply List.Mem.tail))) (c_9 X.l Z a0 n0 h _ hw sz265 a204 c2 a183 c1 0 h2 0 (0 + l1) x5 (0 + l2) (0 + l1) 0 0 m1 m2 m1 (m1 + m2) 1 1 0 (kt k2 m2) (kt x3 m1) H1s KP2 (slot2 x5 h2) (by simp only [List.length_set, List.length_replicate]) (by simp only [List.length_set, List.length_replicate]) (by simp only [List.length_set, List.length_replicate]) (by simp only [List.length_set, List.length_replicate]) (by simp only [List.length_set, List.length_replicate]) (by simp only [List.length_set, List.length_replicate]) (by simp only [List.length_set, List.length_replicate]) (by simp only [List.length_set, List.length_replicate]) (by simp only [List.length_set, List.length_replicate]) (by simp only [List.length_set, List.length_replicate]) bl (by decide) (by omega) (by decide) (by omega) hn1 (by omega) hm2 hl1' hm1 (by omega) rfl z0 (by omega) hm1) rfl rfl rfl (by decide) rfl (by decide) (by decide) (by decide) rfl (fun v265 h265 q265 => ?_)
  rcases q265 with ⟨rfl, -, rfl⟩ | ⟨rfl, u, pf2, sl2, -, H2⟩ | ⟨rfl, u1, u2, H2⟩
  · show Wp X _ _ _ 268 _ [_]
    refine w_if_eq C (pc' := 275) (pn := 271) at_268 (by decide) (by decide) rfl (fun c268 => ?_) (fun c268 => ?_)
    rotate_left
    · exact absurd rfl c268
    refine w_iconst C (pc' := 276) (z := 0) at_275 rfl rfl ?_
    refine w_istore C (pc' := 278) (ls' := #[_, _, _, _, _, _, _, _, _, _, _, _, _, _, _, _, _, _, _, _, _, _, _, _, _, _, _, _, _, _, _, _, _, _, _, _, _, _, _, _, _]) at_276 rfl rfl ?_
    -- STOP at 278
    exact fin0
  · have e1 : eq = 0 := by
      rcases heq with ⟨e1, e2, e3, e4⟩ | ⟨e1, e2⟩
      · exfalso
        subst e4
        rcases u with u | u
        · exact absurd (u.symm.trans (slot_same _)) (by decide)
        · exact u ((EQ_iff hl1 hl2 hm1 hm2).mpr ⟨rfl, e2, e3⟩)
      · exact e1
    have H214 : Hs Z n0 h h265 (cells A p x2 (0 + 1 + 1) (0 + 1 + 1) (0 + (0 + l1) + (0 + l2) + (0 + l2) + (0 + l1)) .null .null (cpy (cpy (b1F x3 k2 m1 m2) (m1 + m2) (kt k2 m2) m2) (m1 + m2 + m2) (kt x3 m1) m1) (((List.replicate 16 (0 : Int32)).set 0 (0 + (0 + l1))).set 1 (0 + (0 + l1) + (0 + l2) + (0 + l2))) (((List.replicate 16 (0 : Int32)).set 0 (0 + (0 + l1) + (0 + l2))).set 1 (0 + (0 + l1) + (0 + l2) + (0 + l2) + (0 + l1))) (((List.replicate 16 (0 : Int32)).set 0 (-1)).set 1 (-1)) (((List.replicate 16 (0 : Int32)).set 0 (0)).set 1 (0 + (0 + l1) + (0 + l2))) (((List.replicate 16 (0 : Int32)).set 0 (0 + l1)).set 1 (0 + l2)) (((List.replicate 16 (0 : Int32)).set 0 (x5)).set 1 (h2)) (((List.replicate 16 (0 : Int32)).set 0 (0)).set 1 (0)) (((List.replicate 16 (0 : Int64)).set 0 (pf)).set 1 (pf2)) (((List.replicate 16 (0 : Int32)).set 0 (0)).set 1 (0 + 1)) (((List.replicate 16 (0 : Int32)).set 0 (0)).set 1 (0 + 1)) (((List.replicate 32 (0 : Int32)).set (x5 &&& (32 - 1)).toInt.toNat (0 + 1)).set sl2 (0 + 1 + 1))) := H2.pick [0, 1, 2, 3, 4, 5, 6, 7, 8, 9, 10, 11, 12, 13] (by decide) rfl
    have a1 := c_iadd (0 + (0 + l1) + (0 + l2)) (0 + l2)
    have g1 := rng32 (0 + (0 + l1) + (0 + l2) + (0 + l2))
    have a2' := c_iadd (0 + (0 + l1) + (0 + l2) + (0 + l2)) (0 + l1)
    have g2 := rng32 (0 + (0 + l1) + (0 + l2) + (0 + l2) + (0 + l1))
    have hn2 : (0 + (0 + l1) + (0 + l2) + (0 + l2) + (0 + l1)).toInt = (m1 + m2 + m2 + m1 : Nat) := by omega
    clear a1 g1 a2' g2
    have hkl2 : ∀ i z, i < 2 → (((List.replicate 16 (0 : Int32)).set 0 (0 + l1)).set 1 (0 + l2))[i]? = some z → z.toInt ≤ 8 := by
      intro i z hi e
      match i, hi with
      | 0, _ => cases (Option.some.inj e); omega
      | 1, _ => cases (Option.some.inj e); omega
    have hc2 : ∀ i, i < 2 → ChainOk (((List.replicate 16 (0 : Int32)).set 0 (-1)).set 1 (-1)) (((List.replicate 16 (0 : Int32)).set 0 (0)).set 1 (0 + 1)) (((List.replicate 16 (0 : Int32)).set 0 (0 + (0 + l1))).set 1 (0 + (0 + l1) + (0 + l2) + (0 + l2))) (((List.replicate 16 (0 : Int32)).set 0 (0 + (0 + l1) + (0 + l2))).set 1 (0 + (0 + l1) + (0 + l2) + (0 + l2) + (0 + l1))) (cpy (cpy (b1F x3 k2 m1 m2) (m1 + m2) (kt k2 m2) m2) (m1 + m2 + m2) (kt x3 m1) m1) i := by
      intro i hi
      match i, hi with
      | 0, _ => exact ⟨0, 0, rfl, by decide, Or.inl rfl⟩
      | 1, _ => exact ⟨0 + 1, 1, rfl, by decide, Or.inl rfl⟩
    have lb : (cpy (cpy (b1F x3 k2 m1 m2) (m1 + m2) (kt k2 m2) m2) (m1 + m2 + m2) (kt x3 m1) m1).length = 256 := by
      have e := cpy_len (T := b1F x3 k2 m1 m2) (S := kt k2 m2) (x := m1 + m2) (m := m2) (by omega) (by omega)
      rw [cpy_len (by omega) (by omega), e, bl]
    have fin2 : Wp X 20 1270 h265 278 #[.val (.int x0), .val (.int x1), .val (.long x2), .second, .val (.long x3), .second, .val (.long x4), .second, .val (.int x5), .val (.int l1), .val (.int l2), .val (.int s), .val (.int d), .val (.int t), .val (.int c), .val (.long k2), .second, .val (.int p), .val (.int eq), .val (.int h2), .val (.ref b1), .val (.ref b2), .val (.ref a183), .val (.ref a204), .val (.ref (A 0)), .val (.int 1), .val (.int 1), .unset, .unset, .unset, .unset, .unset, .unset, .unset, .unset, .unset, .unset, .unset, .unset, .unset, .unset] [] := law_278 C a0 hw h _ hn0 ni S An x0 x1 x2 x3 x4 x5 l1 l2 s d t c p eq h2 k2 b1 b2 a183 a204 1 _ m1 m2 2 2 (m1 + m2 + m2 + m1) (Or.inr (Or.inr ⟨rfl, e1, rfl, rfl, rfl⟩)) hl1 hl2 hm1 hm2 (by decide) (by decide) hn2 hp H214 H2 (by simp only [List.length_set, List.length_replicate]) (by simp only [List.length_set, List.length_replicate]) (by simp only [List.length_set, List.length_replicate]) (by simp only [List.length_set, List.length_replicate]) (by simp only [List.length_set, List.length_replicate]) (by simp only [List.length_set, List.length_replicate]) (by simp only [List.length_set, List.length_replicate]) (by simp only [List.length_set, List.length_replicate]) (by simp only [List.length_set, List.length_replicate]) (by simp only [List.length_set, List.length_replicate]) lb (by simp only [List.length_set, List.length_replicate]) hkl2 hc2
    show Wp X _ _ _ 268 _ [_]
    refine w_if_eq C (pc' := 275) (pn := 271) at_268 (by decide) (by decide) rfl (fun c268 => ?_) (fun c268 => ?_)
    · exact absurd c268 (by decide)
    refine w_iconst C (pc' := 272) (z := 1) at_271 rfl rfl ?_
    refine w_goto C (pc' := 276) at_272 (by decide) (by decide) ?_
    refine w_istore C (pc' := 278) (ls' := #[_, _, _, _, _, _, _, _, _, _, _, _, _, _, _, _, _, _, _, _, _, _, _, _, _, _, _, _, _, _, _, _, _, _, _, _, _, _, _, _, _]) at_276 rfl rfl ?_
    -- STOP at 278
    exact fin2
  · obtain ⟨v1, v2, v3⟩ := (EQ_iff hl1 hl2 hm1 hm2).mp u2
    have e1 : eq = 1 := by
      rcases heq with ⟨e1, -⟩ | ⟨-, e2⟩
      · exact e1
      · exact absurd ⟨v2, v3⟩ e2
    have em : m1 = m2 := by rw [v2] at hl1; omega
    have ev := (keyEq x3 k2 l1 m1 hl1 hm1).mp v3
    have H314 : Hs Z n0 h h265 (cells A p x2 (0 + 1 + 1) (0 + 1) (0 + (0 + l1) + (0 + l2) + (0 + l1)) .null .null (cpy (b1F x3 k2 m1 m2) (m1 + m2) (kt x3 m1) m1) (((List.replicate 16 (0 : Int32)).set 0 (0 + (0 + l1))).set 1 (0 + (0 + l1) + (0 + l2))) (((List.replicate 16 (0 : Int32)).set 0 (0 + (0 + l1) + (0 + l2))).set 1 (0 + (0 + l1) + (0 + l2) + (0 + l1))) ((((List.replicate 16 (0 : Int32)).set 0 (-1)).set 0 (0 + 1)).set 1 (-1)) ((List.replicate 16 (0 : Int32)).set 0 (0)) ((List.replicate 16 (0 : Int32)).set 0 (0 + l1)) ((List.replicate 16 (0 : Int32)).set 0 (x5)) ((List.replicate 16 (0 : Int32)).set 0 (0)) ((List.replicate 16 (0 : Int64)).set 0 (pf)) ((List.replicate 16 (0 : Int32)).set 0 (0)) (((List.replicate 16 (0 : Int32)).set 0 (0)).set 0 (0 + 1)) ((List.replicate 32 (0 : Int32)).set (x5 &&& (32 - 1)).toInt.toNat (0 + 1))) := H2.pick [0, 1, 2, 3, 4, 5, 6, 7, 8, 9, 10, 11, 12, 13] (by decide) rfl
    have a1 := c_iadd (0 + (0 + l1) + (0 + l2)) (0 + l1)
    have g1 := rng32 (0 + (0 + l1) + (0 + l2) + (0 + l1))
    have hn3 : (0 + (0 + l1) + (0 + l2) + (0 + l1)).toInt = (m1 + m2 + m1 : Nat) := by omega
    clear a1 g1
    have lb : (cpy (b1F x3 k2 m1 m2) (m1 + m2) (kt x3 m1) m1).length = 256 := by rw [cpy_len (by omega) (by omega), bl]
    have SV : SameVal (((List.replicate 16 (0 : Int32)).set 0 (0 + (0 + l1))).set 1 (0 + (0 + l1) + (0 + l2))) (((List.replicate 16 (0 : Int32)).set 0 (0 + (0 + l1) + (0 + l2))).set 1 (0 + (0 + l1) + (0 + l2) + (0 + l1))) (cpy (b1F x3 k2 m1 m2) (m1 + m2) (kt x3 m1) m1) := by
      refine ⟨0 + (0 + l1), 0 + (0 + l1) + (0 + l2), 0 + (0 + l1) + (0 + l2), 0 + (0 + l1) + (0 + l2) + (0 + l1), m1, m1 + m2, m1, rfl, rfl, rfl, rfl, hv1, by omega, hn1, by omega, by omega, by omega, Nat.le_of_eq lb, fun j hj => ?_⟩
      rw [cpy_lo (by omega) (by omega), cpy_mid (by omega) (by omega) hj, kt_at hm1 hj]
      have := b1_val (k1 := x3) (k2 := k2) (m1 := m1) (m2 := m2) (j := j) hm1 hm2 (by omega)
      rw [Nat.zero_add] at this
      rw [this, ev j hj]
    have hc3 : ∀ i, i < 1 → ChainOk ((((List.replicate 16 (0 : Int32)).set 0 (-1)).set 0 (0 + 1)).set 1 (-1)) ((List.replicate 16 (0 : Int32)).set 0 (0)) (((List.replicate 16 (0 : Int32)).set 0 (0 + (0 + l1))).set 1 (0 + (0 + l1) + (0 + l2))) (((List.replicate 16 (0 : Int32)).set 0 (0 + (0 + l1) + (0 + l2))).set 1 (0 + (0 + l1) + (0 + l2) + (0 + l1))) (cpy (b1F x3 k2 m1 m2) (m1 + m2) (kt x3 m1) m1) i := by
      intro i hi
      match i, hi with
      | 0, _ => exact ⟨0, 0, rfl, by decide, Or.inr ⟨rfl, rfl, rfl, SV⟩⟩
    have fin1 : Wp X 20 1270 h265 278 #[.val (.int x0), .val (.int x1), .val (.long x2), .second, .val (.long x3), .second, .val (.long x4), .second, .val (.int x5), .val (.int l1), .val (.int l2), .val (.int s), .val (.int d), .val (.int t), .val (.int c), .val (.long k2), .second, .val (.int p), .val (.int eq), .val (.int h2), .val (.ref b1), .val (.ref b2), .val (.ref a183), .val (.ref a204), .val (.ref (A 0)), .val (.int 1), .val (.int 1), .unset, .unset, .unset, .unset, .unset, .unset, .unset, .unset, .unset, .unset, .unset, .unset, .unset, .unset] [] := law_278 C a0 hw h _ hn0 ni S An x0 x1 x2 x3 x4 x5 l1 l2 s d t c p eq h2 k2 b1 b2 a183 a204 1 _ m1 m2 2 1 (m1 + m2 + m1) (Or.inr (Or.inl ⟨rfl, e1, rfl, rfl, rfl⟩)) hl1 hl2 hm1 hm2 (by decide) (by decide) hn3 hp H314 H2 (by simp only [List.length_set, List.length_replicate]) (by simp only [List.length_set, List.length_replicate]) (by simp only [List.length_set, List.length_replicate]) (by simp only [List.length_set, List.length_replicate]) (by simp only [List.length_set, List.length_replicate]) (by simp only [List.length_set, List.length_replicate]) (by simp only [List.length_set, List.length_replicate]) (by simp only [List.length_set, List.length_replicate]) (by simp only [List.length_set, List.length_replicate]) (by simp only [List.length_set, List.length_replicate]) lb (by simp only [List.length_set, List.length_replicate]) hkl1 hc3
    show Wp X _ _ _ 268 _ [_]
    refine w_if_eq C (pc' := 275) (pn := 271) at_268 (by decide) (by decide) rfl (fun c268 => ?_) (fun c268 => ?_)
    · exact absurd c268 (by decide)
    refine w_iconst C (pc' := 272) (z := 1) at_271 rfl rfl ?_
    refine w_goto C (pc' := 276) at_272 (by decide) (by decide) ?_
    refine w_istore C (pc' := 278) (ls' := #[_, _, _, _, _, _, _, _, _, _, _, _, _, _, _, _, _, _, _, _, _, _, _, _, _, _, _, _, _, _, _, _, _, _, _, _, _, _, _, _, _]) at_276 rfl rfl ?_
    -- STOP at 278
    exact fin1

theorem irem9 (x : Int32) (h : 0 ≤ x.toInt) : 0 ≤ (x % 9).toInt ∧ (x % 9).toInt ≤ 8 := by
  have e : (x % 9).toInt = x.toInt.tmod (9 : Int32).toInt := Int32.toInt_mod x 9
  rw [show (9 : Int32).toInt = 9 from by decide, Int.tmod_eq_emod_of_nonneg h] at e
  omega
set_option maxRecDepth 65536 in
set_option maxHeartbeats 40000000 in
theorem law_167 {Z : State} {n0 : Nat} {X : Cx} (C : Hand X Z x code maxLocals ret room_1 n0 (fun v _ => v = some (.int 1))) (a0 : Array Value) (hw : ∀ d ∈ tables_1, d.before a0 Z = true) (h : Heap) (hn0 : h.size = n0) (ni : Addr) (S : Sta Z h RBN "NO_INTS" "[I" (.ref ni)) (An : Arn Z h ni .int 0) (x0 x1 : Int32) (x2 x3 x4 : Int64) (x5 l1 l2 s d t c p eq h2 : Int32) (k2 : Int64) (m1 m2 : Nat) (hl1 : l1.toInt = m1) (hl2 : l2.toInt = m2) (hm1 : m1 ≤ 8) (hm2 : m2 ≤ 8) (hp : 0 ≤ p.toInt ∧ (d ≠ 0 → p.toInt ≤ 65535)) (hq : ((eq = 1 ∧ l1 = l2 ∧ (x3 ^^^ k2) &&& msk l1 = 0 ∧ h2 = x5) ∨ (eq = 0 ∧ ¬ (l1 = l2 ∧ (x3 ^^^ k2) &&& msk l1 = 0)))) :
    Wp X 0 0 h 167 #[.val (.int x0), .val (.int x1), .val (.long x2), .second, .val (.long x3), .second, .val (.long x4), .second, .val (.int x5), .val (.int l1), .val (.int l2), .val (.int s), .val (.int d), .val (.int t), .val (.int c), .val (.long k2), .second, .val (.int p), .val (.int eq), .unset, .unset, .unset, .unset, .unset, .unset, .unset, .unset, .unset, .unset, .unset, .unset, .unset, .unset, .unset, .unset, .unset, .unset, .unset, .unset, .unset, .unset] [.int h2] := by
  refine w_istore C (pc' := 169) (ls' := #[_, _, _, _, _, _, _, _, _, _, _, _, _, _, _, _, _, _, _, _, _, _, _, _, _, _, _, _, _, _, _, _, _, _, _, _, _, _, _, _, _]) at_167 rfl rfl ?_
  -- STOP at 169
  exact law_169 C a0 hw _ hn0 ni S An x0 x1 x2 x3 x4 x5 l1 l2 s d t c p eq h2 k2 m1 m2 hl1 hl2 hm1 hm2 hp hq

set_option maxRecDepth 65536 in
set_option maxHeartbeats 40000000 in
theorem law_146 {Z : State} {n0 : Nat} {X : Cx} (C : Hand X Z x code maxLocals ret room_1 n0 (fun v _ => v = some (.int 1))) (a0 : Array Value) (hw : ∀ d ∈ tables_1, d.before a0 Z = true) (h : Heap) (hn0 : h.size = n0) (ni : Addr) (S : Sta Z h RBN "NO_INTS" "[I" (.ref ni)) (An : Arn Z h ni .int 0) (x0 x1 : Int32) (x2 x3 x4 : Int64) (x5 l1 l2 s d t c p eq : Int32) (k2 : Int64) (m1 m2 : Nat) (hl1 : l1.toInt = m1) (hl2 : l2.toInt = m2) (hm1 : m1 ≤ 8) (hm2 : m2 ≤ 8) (hp : 0 ≤ p.toInt ∧ (d ≠ 0 → p.toInt ≤ 65535)) (hq : ((eq = 1 ∧ l1 = l2 ∧ (x3 ^^^ k2) &&& msk l1 = 0) ∨ (eq = 0 ∧ ¬ (l1 = l2 ∧ (x3 ^^^ k2) &&& msk l1 = 0)))) :
    Wp X 0 0 h 146 #[.val (.int x0), .val (.int x1), .val (.long x2), .second, .val (.long x3), .second, .val (.long x4), .second, .val (.int x5), .val (.int l1), .val (.int l2), .val (.int s), .val (.int d), .val (.int t), .val (.int c), .val (.long k2), .second, .val (.int p), .unset, .unset, .unset, .unset, .unset, .unset, .unset, .unset, .unset, .unset, .unset, .unset, .unset, .unset, .unset, .unset, .unset, .unset, .unset, .unset, .unset, .unset, .unset] [.int eq] := by
  have K158 : Wp X 0 0 h 158 #[.val (.int x0), .val (.int x1), .val (.long x2), .second, .val (.long x3), .second, .val (.long x4), .second, .val (.int x5), .val (.int l1), .val (.int l2), .val (.int s), .val (.int d), .val (.int t), .val (.int c), .val (.long k2), .second, .val (.int p), .val (.int eq), .unset, .unset, .unset, .unset, .unset, .unset, .unset, .unset, .unset, .unset, .unset, .unset, .unset, .unset, .unset, .unset, .unset, .unset, .unset, .unset, .unset, .unset] [] := by
    refine w_iload C (pc' := 160) at_158 rfl rfl ?_
    refine w_goto C (pc' := 167) at_160 (by decide) (by decide) ?_
    -- STOP at 167
    exact law_167 C a0 hw _ hn0 ni S An x0 x1 x2 x3 x4 x5 l1 l2 s d t c p eq x5 k2 m1 m2 hl1 hl2 hm1 hm2 hp (hq.elim (fun u => Or.inl ⟨u.1, u.2.1, u.2.2, rfl⟩) Or.inr)
  refine w_istore C (pc' := 148) (ls' := #[_, _, _, _, _, _, _, _, _, _, _, _, _, _, _, _, _, _, _, _, _, _, _, _, _, _, _, _, _, _, _, _, _, _, _, _, _, _, _, _, _]) at_146 rfl rfl ?_
  refine w_iload C (pc' := 150) at_148 rfl rfl ?_
  refine w_if_ne C (pc' := 158) (pn := 153) at_150 (by decide) (by decide) rfl (fun c150 => ?_) (fun c150 => ?_)
  · -- 150 taken -> 158
    -- STOP at 158
    exact K158
  · -- 150 not -> 153
    refine w_iload C (pc' := 155) at_153 rfl rfl ?_
    refine w_if_eq C (pc' := 163) (pn := 158) at_155 (by decide) (by decide) rfl (fun c155 => ?_) (fun c155 => ?_)
    · -- 155 taken -> 163
      refine w_iload C (pc' := 165) at_163 rfl rfl ?_
      refine w_iconst C (pc' := 166) (z := (-1)) at_165 rfl rfl ?_
      refine w_ixor C (pc' := 167) at_166 rfl ?_
      -- STOP at 167
      exact law_167 C a0 hw _ hn0 ni S An x0 x1 x2 x3 x4 x5 l1 l2 s d t c p eq _ k2 m1 m2 hl1 hl2 hm1 hm2 hp (hq.elim (fun u => absurd (c150.symm.trans u.1) (by decide)) Or.inr)
    · -- 155 not -> 158
      -- STOP at 158
      exact K158

set_option maxRecDepth 65536 in
set_option maxHeartbeats 40000000 in
theorem law_116 {Z : State} {n0 : Nat} {X : Cx} (C : Hand X Z x code maxLocals ret room_1 n0 (fun v _ => v = some (.int 1))) (a0 : Array Value) (hw : ∀ d ∈ tables_1, d.before a0 Z = true) (h : Heap) (hn0 : h.size = n0) (ni : Addr) (S : Sta Z h RBN "NO_INTS" "[I" (.ref ni)) (An : Arn Z h ni .int 0) (x0 x1 : Int32) (x2 x3 x4 : Int64) (x5 l1 l2 s d t c p : Int32) (k2 : Int64) (m1 m2 : Nat) (hl1 : l1.toInt = m1) (hl2 : l2.toInt = m2) (hm1 : m1 ≤ 8) (hm2 : m2 ≤ 8) (hp : 0 ≤ p.toInt ∧ (d ≠ 0 → p.toInt ≤ 65535)) :
    Wp X 0 0 h 116 #[.val (.int x0), .val (.int x1), .val (.long x2), .second, .val (.long x3), .second, .val (.long x4), .second, .val (.int x5), .val (.int l1), .val (.int l2), .val (.int s), .val (.int d), .val (.int t), .val (.int c), .val (.long k2), .second, .unset, .unset, .unset, .unset, .unset, .unset, .unset, .unset, .unset, .unset, .unset, .unset, .unset, .unset, .unset, .unset, .unset, .unset, .unset, .unset, .unset, .unset, .unset, .unset] [.int p] := by
  have K145 : ¬ (l1 = l2 ∧ (x3 ^^^ k2) &&& msk l1 = 0) → Wp X 0 0 h 145 #[.val (.int x0), .val (.int x1), .val (.long x2), .second, .val (.long x3), .second, .val (.long x4), .second, .val (.int x5), .val (.int l1), .val (.int l2), .val (.int s), .val (.int d), .val (.int t), .val (.int c), .val (.long k2), .second, .val (.int p), .unset, .unset, .unset, .unset, .unset, .unset, .unset, .unset, .unset, .unset, .unset, .unset, .unset, .unset, .unset, .unset, .unset, .unset, .unset, .unset, .unset, .unset, .unset] [] := fun hne => by
    refine w_iconst C (pc' := 146) (z := 0) at_145 rfl rfl ?_
    -- STOP at 146
    exact law_146 C a0 hw _ hn0 ni S An x0 x1 x2 x3 x4 x5 l1 l2 s d t c p 0 k2 m1 m2 hl1 hl2 hm1 hm2 hp (Or.inr ⟨rfl, hne⟩)
  refine w_istore C (pc' := 118) (ls' := #[_, _, _, _, _, _, _, _, _, _, _, _, _, _, _, _, _, _, _, _, _, _, _, _, _, _, _, _, _, _, _, _, _, _, _, _, _, _, _, _, _]) at_116 rfl rfl ?_
  refine w_iload C (pc' := 120) at_118 rfl rfl ?_
  refine w_iload C (pc' := 122) at_120 rfl rfl ?_
  refine w_icmp_ne C (pc' := 145) (pn := 125) at_122 (by decide) (by decide) rfl (fun c122 => ?_) (fun c122 => ?_)
  · exact K145 (fun u => c122 u.1)
  refine w_lload C (pc' := 127) at_125 rfl rfl ?_
  refine w_lload C (pc' := 129) at_127 rfl rfl ?_
  refine w_lxor C (pc' := 130) at_129 rfl ?_
  refine w_iload C (pc' := 132) at_130 rfl rfl ?_
  refine Wp.size C fun sz132 => ?_
  refine w_static C (pc' := 135) (W := 2) (tw hw 1 rfl) (tw hw 2 rfl) (tw hw 3 rfl) (tw hw 4 rfl) (by decide) pd_0 at_132 (c_1 X.l Z a0 hw l1 n0 _ sz132) rfl rfl rfl (by decide) rfl (by decide) (by decide) (by decide) rfl (fun v132 h132 q132 => ?_)
  obtain ⟨rfl, rfl⟩ := q132
  show Wp X _ _ _ 135 _ [_, _]
  refine w_land C (pc' := 136) at_135 rfl ?_
  refine w_lconst C (pc' := 137) (z := 0) at_136 rfl rfl ?_
  refine w_lc_ne C (pm := 138) (pc' := 145) (pn := 141) at_137 rfl at_138 (by decide) (by decide) rfl (fun c137 => ?_) (fun c137 => ?_)
  · -- 137 taken -> 145
    -- STOP at 145
    exact K145 (fun u => c137 u.2)
  · -- 137 not -> 141
    refine w_iconst C (pc' := 142) (z := 1) at_141 rfl rfl ?_
    refine w_goto C (pc' := 146) at_142 (by decide) (by decide) ?_
    -- STOP at 146
    exact law_146 C a0 hw _ hn0 ni S An x0 x1 x2 x3 x4 x5 l1 l2 s d t c p 1 k2 m1 m2 hl1 hl2 hm1 hm2 hp (Or.inl ⟨rfl, c122, c137⟩)

set_option maxRecDepth 65536 in
set_option maxHeartbeats 40000000 in
theorem law_100 {Z : State} {n0 : Nat} {X : Cx} (C : Hand X Z x code maxLocals ret room_1 n0 (fun v _ => v = some (.int 1))) (a0 : Array Value) (hw : ∀ d ∈ tables_1, d.before a0 Z = true) (h : Heap) (hn0 : h.size = n0) (ni : Addr) (S : Sta Z h RBN "NO_INTS" "[I" (.ref ni)) (An : Arn Z h ni .int 0) (x0 x1 : Int32) (x2 x3 x4 : Int64) (x5 l1 l2 s d t c : Int32) (k2 : Int64) (m1 m2 : Nat) (hl1 : l1.toInt = m1) (hl2 : l2.toInt = m2) (hm1 : m1 ≤ 8) (hm2 : m2 ≤ 8) :
    Wp X 0 0 h 100 #[.val (.int x0), .val (.int x1), .val (.long x2), .second, .val (.long x3), .second, .val (.long x4), .second, .val (.int x5), .val (.int l1), .val (.int l2), .val (.int s), .val (.int d), .val (.int t), .val (.int c), .val (.long k2), .second, .unset, .unset, .unset, .unset, .unset, .unset, .unset, .unset, .unset, .unset, .unset, .unset, .unset, .unset, .unset, .unset, .unset, .unset, .unset, .unset, .unset, .unset, .unset, .unset] [] := by
  have ma := c_mask x1 65535 16 (by decide) (by decide)
  have mb := c_mask x1 2147483647 31 (by decide) (by decide)
  have K112 : d = 0 → Wp X 0 0 h 112 #[.val (.int x0), .val (.int x1), .val (.long x2), .second, .val (.long x3), .second, .val (.long x4), .second, .val (.int x5), .val (.int l1), .val (.int l2), .val (.int s), .val (.int d), .val (.int t), .val (.int c), .val (.long k2), .second, .unset, .unset, .unset, .unset, .unset, .unset, .unset, .unset, .unset, .unset, .unset, .unset, .unset, .unset, .unset, .unset, .unset, .unset, .unset, .unset, .unset, .unset, .unset, .unset] [] := fun e => by
    refine w_iloadN C (pc' := 113) at_112 rfl rfl ?_
    refine w_ldc C (pc' := 115) (tw hw 0 rfl) at_113 rfl ?_
    refine w_iand C (pc' := 116) at_115 rfl ?_
    -- STOP at 116
    exact law_116 C a0 hw _ hn0 ni S An x0 x1 x2 x3 x4 x5 l1 l2 s d t c _ k2 m1 m2 hl1 hl2 hm1 hm2 ⟨by omega, fun u => absurd e u⟩
  refine w_iload C (pc' := 102) at_100 rfl rfl ?_
  refine w_if_eq C (pc' := 112) (pn := 105) at_102 (by decide) (by decide) rfl (fun c102 => ?_) (fun c102 => ?_)
  · -- 102 taken -> 112
    -- STOP at 112
    exact K112 c102
  · -- 102 not -> 105
    refine w_iloadN C (pc' := 106) at_105 rfl rfl ?_
    refine w_ldc C (pc' := 108) (tw hw 165 rfl) at_106 rfl ?_
    refine w_iand C (pc' := 109) at_108 rfl ?_
    refine w_goto C (pc' := 116) at_109 (by decide) (by decide) ?_
    -- STOP at 116
    exact law_116 C a0 hw _ hn0 ni S An x0 x1 x2 x3 x4 x5 l1 l2 s d t c _ k2 m1 m2 hl1 hl2 hm1 hm2 ⟨by omega, fun _ => by omega⟩

set_option maxRecDepth 65536 in
set_option maxHeartbeats 40000000 in
theorem law_80 {Z : State} {n0 : Nat} {X : Cx} (C : Hand X Z x code maxLocals ret room_1 n0 (fun v _ => v = some (.int 1))) (a0 : Array Value) (hw : ∀ d ∈ tables_1, d.before a0 Z = true) (h : Heap) (hn0 : h.size = n0) (ni : Addr) (S : Sta Z h RBN "NO_INTS" "[I" (.ref ni)) (An : Arn Z h ni .int 0) (x0 x1 : Int32) (x2 x3 x4 : Int64) (x5 l1 l2 s d t c : Int32) (m1 m2 : Nat) (hl1 : l1.toInt = m1) (hl2 : l2.toInt = m2) (hm1 : m1 ≤ 8) (hm2 : m2 ≤ 8) :
    Wp X 0 0 h 80 #[.val (.int x0), .val (.int x1), .val (.long x2), .second, .val (.long x3), .second, .val (.long x4), .second, .val (.int x5), .val (.int l1), .val (.int l2), .val (.int s), .val (.int d), .val (.int t), .val (.int c), .unset, .unset, .unset, .unset, .unset, .unset, .unset, .unset, .unset, .unset, .unset, .unset, .unset, .unset, .unset, .unset, .unset, .unset, .unset, .unset, .unset, .unset, .unset, .unset, .unset, .unset] [] := by
  refine w_lload C (pc' := 82) at_80 rfl rfl ?_
  refine w_lstore C (pc' := 84) (ls' := #[_, _, _, _, _, _, _, _, _, _, _, _, _, _, _, _, _, _, _, _, _, _, _, _, _, _, _, _, _, _, _, _, _, _, _, _, _, _, _, _, _]) at_82 rfl rfl ?_
  refine w_iloadN C (pc' := 85) at_84 rfl rfl ?_
  refine w_sipush C (pc' := 88) (z := 4096) at_85 rfl rfl ?_
  refine w_iand C (pc' := 89) at_88 rfl ?_
  refine w_if_eq C (pc' := 100) (pn := 92) at_89 (by decide) (by decide) rfl (fun c89 => ?_) (fun c89 => ?_)
  · exact law_100 C a0 hw _ hn0 ni S An x0 x1 x2 x3 x4 x5 l1 l2 s d t c x4 m1 m2 hl1 hl2 hm1 hm2
  refine w_lload C (pc' := 94) at_92 rfl rfl ?_
  refine w_lstore C (pc' := 96) (ls' := #[_, _, _, _, _, _, _, _, _, _, _, _, _, _, _, _, _, _, _, _, _, _, _, _, _, _, _, _, _, _, _, _, _, _, _, _, _, _, _, _, _]) at_94 rfl rfl ?_
  refine w_iload C (pc' := 98) at_96 rfl rfl ?_
  refine w_istore C (pc' := 100) (ls' := #[_, _, _, _, _, _, _, _, _, _, _, _, _, _, _, _, _, _, _, _, _, _, _, _, _, _, _, _, _, _, _, _, _, _, _, _, _, _, _, _, _]) at_98 rfl rfl ?_
  -- STOP at 100
  exact law_100 C a0 hw _ hn0 ni S An x0 x1 x2 x3 x4 x5 l1 l1 s d t c x3 m1 m1 hl1 hl1 hm1 hm1

set_option maxRecDepth 65536 in
set_option maxHeartbeats 40000000 in
theorem law_78 {Z : State} {n0 : Nat} {X : Cx} (C : Hand X Z x code maxLocals ret room_1 n0 (fun v _ => v = some (.int 1))) (a0 : Array Value) (hw : ∀ d ∈ tables_1, d.before a0 Z = true) (h : Heap) (hn0 : h.size = n0) (ni : Addr) (S : Sta Z h RBN "NO_INTS" "[I" (.ref ni)) (An : Arn Z h ni .int 0) (x0 x1 : Int32) (x2 x3 x4 : Int64) (x5 l1 l2 s d t c : Int32) (i1 : 0 ≤ l1.toInt ∧ l1.toInt ≤ 8) (i2 : 0 ≤ l2.toInt ∧ l2.toInt ≤ 8) :
    Wp X 0 0 h 78 #[.val (.int x0), .val (.int x1), .val (.long x2), .second, .val (.long x3), .second, .val (.long x4), .second, .val (.int x5), .val (.int l1), .val (.int l2), .val (.int s), .val (.int d), .val (.int t), .unset, .unset, .unset, .unset, .unset, .unset, .unset, .unset, .unset, .unset, .unset, .unset, .unset, .unset, .unset, .unset, .unset, .unset, .unset, .unset, .unset, .unset, .unset, .unset, .unset, .unset, .unset] [.int c] := by
  refine w_istore C (pc' := 80) (ls' := #[_, _, _, _, _, _, _, _, _, _, _, _, _, _, _, _, _, _, _, _, _, _, _, _, _, _, _, _, _, _, _, _, _, _, _, _, _, _, _, _, _]) at_78 rfl rfl ?_
  -- STOP at 80
  exact law_80 C a0 hw _ hn0 ni S An x0 x1 x2 x3 x4 x5 l1 l2 s d t c l1.toInt.toNat l2.toInt.toNat (by omega) (by omega) (by omega) (by omega)

set_option maxRecDepth 65536 in
set_option maxHeartbeats 40000000 in
theorem law_63 {Z : State} {n0 : Nat} {X : Cx} (C : Hand X Z x code maxLocals ret room_1 n0 (fun v _ => v = some (.int 1))) (a0 : Array Value) (hw : ∀ d ∈ tables_1, d.before a0 Z = true) (h : Heap) (hn0 : h.size = n0) (ni : Addr) (S : Sta Z h RBN "NO_INTS" "[I" (.ref ni)) (An : Arn Z h ni .int 0) (x0 x1 : Int32) (x2 x3 x4 : Int64) (x5 l1 l2 s d t : Int32) (i1 : 0 ≤ l1.toInt ∧ l1.toInt ≤ 8) (i2 : 0 ≤ l2.toInt ∧ l2.toInt ≤ 8) :
    Wp X 0 0 h 63 #[.val (.int x0), .val (.int x1), .val (.long x2), .second, .val (.long x3), .second, .val (.long x4), .second, .val (.int x5), .val (.int l1), .val (.int l2), .val (.int s), .val (.int d), .unset, .unset, .unset, .unset, .unset, .unset, .unset, .unset, .unset, .unset, .unset, .unset, .unset, .unset, .unset, .unset, .unset, .unset, .unset, .unset, .unset, .unset, .unset, .unset, .unset, .unset, .unset, .unset] [.int t] := by
  refine w_istore C (pc' := 65) (ls' := #[_, _, _, _, _, _, _, _, _, _, _, _, _, _, _, _, _, _, _, _, _, _, _, _, _, _, _, _, _, _, _, _, _, _, _, _, _, _, _, _, _]) at_63 rfl rfl ?_
  refine w_iloadN C (pc' := 66) at_65 rfl rfl ?_
  refine w_sipush C (pc' := 69) (z := 2048) at_66 rfl rfl ?_
  refine w_iand C (pc' := 70) at_69 rfl ?_
  refine w_if_eq C (pc' := 77) (pn := 73) at_70 (by decide) (by decide) rfl (fun c70 => ?_) (fun c70 => ?_)
  · -- 70 taken -> 77
    refine w_iconst C (pc' := 78) (z := 0) at_77 rfl rfl ?_
    -- STOP at 78
    exact law_78 C a0 hw _ hn0 ni S An x0 x1 x2 x3 x4 x5 l1 l2 s d t _ i1 i2
  · -- 70 not -> 73
    refine w_iconst C (pc' := 74) (z := 1) at_73 rfl rfl ?_
    refine w_goto C (pc' := 78) at_74 (by decide) (by decide) ?_
    -- STOP at 78
    exact law_78 C a0 hw _ hn0 ni S An x0 x1 x2 x3 x4 x5 l1 l2 s d t _ i1 i2

set_option maxRecDepth 65536 in
set_option maxHeartbeats 40000000 in
theorem law_48 {Z : State} {n0 : Nat} {X : Cx} (C : Hand X Z x code maxLocals ret room_1 n0 (fun v _ => v = some (.int 1))) (a0 : Array Value) (hw : ∀ d ∈ tables_1, d.before a0 Z = true) (h : Heap) (hn0 : h.size = n0) (ni : Addr) (S : Sta Z h RBN "NO_INTS" "[I" (.ref ni)) (An : Arn Z h ni .int 0) (x0 x1 : Int32) (x2 x3 x4 : Int64) (x5 l1 l2 s d : Int32) (i1 : 0 ≤ l1.toInt ∧ l1.toInt ≤ 8) (i2 : 0 ≤ l2.toInt ∧ l2.toInt ≤ 8) :
    Wp X 0 0 h 48 #[.val (.int x0), .val (.int x1), .val (.long x2), .second, .val (.long x3), .second, .val (.long x4), .second, .val (.int x5), .val (.int l1), .val (.int l2), .val (.int s), .unset, .unset, .unset, .unset, .unset, .unset, .unset, .unset, .unset, .unset, .unset, .unset, .unset, .unset, .unset, .unset, .unset, .unset, .unset, .unset, .unset, .unset, .unset, .unset, .unset, .unset, .unset, .unset, .unset] [.int d] := by
  refine w_istore C (pc' := 50) (ls' := #[_, _, _, _, _, _, _, _, _, _, _, _, _, _, _, _, _, _, _, _, _, _, _, _, _, _, _, _, _, _, _, _, _, _, _, _, _, _, _, _, _]) at_48 rfl rfl ?_
  refine w_iloadN C (pc' := 51) at_50 rfl rfl ?_
  refine w_sipush C (pc' := 54) (z := 1024) at_51 rfl rfl ?_
  refine w_iand C (pc' := 55) at_54 rfl ?_
  refine w_if_eq C (pc' := 62) (pn := 58) at_55 (by decide) (by decide) rfl (fun c55 => ?_) (fun c55 => ?_)
  · -- 55 taken -> 62
    refine w_iconst C (pc' := 63) (z := 0) at_62 rfl rfl ?_
    -- STOP at 63
    exact law_63 C a0 hw _ hn0 ni S An x0 x1 x2 x3 x4 x5 l1 l2 s d _ i1 i2
  · -- 55 not -> 58
    refine w_iconst C (pc' := 59) (z := 1) at_58 rfl rfl ?_
    refine w_goto C (pc' := 63) at_59 (by decide) (by decide) ?_
    -- STOP at 63
    exact law_63 C a0 hw _ hn0 ni S An x0 x1 x2 x3 x4 x5 l1 l2 s d _ i1 i2

set_option maxRecDepth 65536 in
set_option maxHeartbeats 40000000 in
theorem law_33 {Z : State} {n0 : Nat} {X : Cx} (C : Hand X Z x code maxLocals ret room_1 n0 (fun v _ => v = some (.int 1))) (a0 : Array Value) (hw : ∀ d ∈ tables_1, d.before a0 Z = true) (h : Heap) (hn0 : h.size = n0) (ni : Addr) (S : Sta Z h RBN "NO_INTS" "[I" (.ref ni)) (An : Arn Z h ni .int 0) (x0 x1 : Int32) (x2 x3 x4 : Int64) (x5 l1 l2 s : Int32) (i1 : 0 ≤ l1.toInt ∧ l1.toInt ≤ 8) (i2 : 0 ≤ l2.toInt ∧ l2.toInt ≤ 8) :
    Wp X 0 0 h 33 #[.val (.int x0), .val (.int x1), .val (.long x2), .second, .val (.long x3), .second, .val (.long x4), .second, .val (.int x5), .val (.int l1), .val (.int l2), .unset, .unset, .unset, .unset, .unset, .unset, .unset, .unset, .unset, .unset, .unset, .unset, .unset, .unset, .unset, .unset, .unset, .unset, .unset, .unset, .unset, .unset, .unset, .unset, .unset, .unset, .unset, .unset, .unset, .unset] [.int s] := by
  refine w_istore C (pc' := 35) (ls' := #[_, _, _, _, _, _, _, _, _, _, _, _, _, _, _, _, _, _, _, _, _, _, _, _, _, _, _, _, _, _, _, _, _, _, _, _, _, _, _, _, _]) at_33 rfl rfl ?_
  refine w_iloadN C (pc' := 36) at_35 rfl rfl ?_
  refine w_sipush C (pc' := 39) (z := 512) at_36 rfl rfl ?_
  refine w_iand C (pc' := 40) at_39 rfl ?_
  refine w_if_eq C (pc' := 47) (pn := 43) at_40 (by decide) (by decide) rfl (fun c40 => ?_) (fun c40 => ?_)
  · -- 40 taken -> 47
    refine w_iconst C (pc' := 48) (z := 0) at_47 rfl rfl ?_
    -- STOP at 48
    exact law_48 C a0 hw _ hn0 ni S An x0 x1 x2 x3 x4 x5 l1 l2 s _ i1 i2
  · -- 40 not -> 43
    refine w_iconst C (pc' := 44) (z := 1) at_43 rfl rfl ?_
    refine w_goto C (pc' := 48) at_44 (by decide) (by decide) ?_
    -- STOP at 48
    exact law_48 C a0 hw _ hn0 ni S An x0 x1 x2 x3 x4 x5 l1 l2 s _ i1 i2

set_option maxRecDepth 65536 in
set_option maxHeartbeats 40000000 in
theorem law_ct (l : Launch) (Z : State) (a0 : Array Value) (hw : ∀ d ∈ tables_1, d.before a0 Z = true) (x0 x1 : Int32) (x2 x3 x4 : Int64) (x5 : Int32) (n0 : Nat) (h : Heap) (hn : n0 ≤ h.size) (hn0 : h.size = n0) (ni : Addr) (S : Sta Z h RBN "NO_INTS" "[I" (.ref ni)) (An : Arn Z h ni .int 0) :
    Ct l Z x code maxLocals ret room_1 n0 tables_1 #[.int x0, .int x1, .long x2, .long x3, .long x4, .int x5] h (fun v _ => v = some (.int 1)) := by
  refine ct_of pn_0 hn (ef_0 x0 x1 x2 x3 x4 x5) fun X C => ?_
  have mi := c_mask x0 15 4 (by decide) (by decide)
  have i1 := irem9 (x0 &&& 15) (by omega)
  have mj := c_mask (x0.toUInt32 >>> ((4 : Int32) &&& 31).toUInt32).toInt32 15 4 (by decide) (by decide)
  have i2 := irem9 ((x0.toUInt32 >>> ((4 : Int32) &&& 31).toUInt32).toInt32 &&& 15) (by omega)
  refine w_iloadN C (pc' := 1) at_0 rfl rfl ?_
  refine w_bipush C (pc' := 3) (z := 15) at_1 rfl rfl ?_
  refine w_iand C (pc' := 4) at_3 rfl ?_
  refine w_bipush C (pc' := 6) (z := 9) at_4 rfl rfl ?_
  refine w_irem C (pc' := 7) at_6 (by decide) rfl ?_
  refine w_istore C (pc' := 9) (ls' := #[_, _, _, _, _, _, _, _, _, _, _, _, _, _, _, _, _, _, _, _, _, _, _, _, _, _, _, _, _, _, _, _, _, _, _, _, _, _, _, _, _]) at_7 rfl rfl ?_
  refine w_iloadN C (pc' := 10) at_9 rfl rfl ?_
  refine w_iconst C (pc' := 11) (z := 4) at_10 rfl rfl ?_
  refine w_iushr C (pc' := 12) at_11 rfl ?_
  refine w_bipush C (pc' := 14) (z := 15) at_12 rfl rfl ?_
  refine w_iand C (pc' := 15) at_14 rfl ?_
  refine w_bipush C (pc' := 17) (z := 9) at_15 rfl rfl ?_
  refine w_irem C (pc' := 18) at_17 (by decide) rfl ?_
  refine w_istore C (pc' := 20) (ls' := #[_, _, _, _, _, _, _, _, _, _, _, _, _, _, _, _, _, _, _, _, _, _, _, _, _, _, _, _, _, _, _, _, _, _, _, _, _, _, _, _, _]) at_18 rfl rfl ?_
  refine w_iloadN C (pc' := 21) at_20 rfl rfl ?_
  refine w_sipush C (pc' := 24) (z := 256) at_21 rfl rfl ?_
  refine w_iand C (pc' := 25) at_24 rfl ?_
  refine w_if_eq C (pc' := 32) (pn := 28) at_25 (by decide) (by decide) rfl (fun c25 => ?_) (fun c25 => ?_)
  · -- 25 taken -> 32
    refine w_iconst C (pc' := 33) (z := 0) at_32 rfl rfl ?_
    -- STOP at 33
    exact law_33 C a0 hw _ hn0 ni S An x0 x1 x2 x3 x4 x5 _ _ _ i1 i2
  · -- 25 not -> 28
    refine w_iconst C (pc' := 29) (z := 1) at_28 rfl rfl ?_
    refine w_goto C (pc' := 33) at_29 (by decide) (by decide) ?_
    -- STOP at 33
    exact law_33 C a0 hw _ hn0 ni S An x0 x1 x2 x3 x4 x5 _ _ _ i1 i2
theorem len_at {args : Array Value} {s : State} {t : Term} {a : Addr} {c : Cell} {ty : FieldType} {z : Int32} (ev : t.eval args s none [] s = some (.ref a)) (q : (Jvm.Cond.eq (.length t) (.int z)).value args s none s [] = some true) (A : Arr s s.heap a c ty) : Arn s s.heap a ty z := by
  obtain ⟨u, w, e1, e2, -, -⟩ := cmp_v (Or.inl q)
  obtain ⟨b, c', e3, e4, rfl⟩ := Term.length_spec e1
  cases ev.symm.trans e3
  have e5 := (State.arrayAt?_spec e4).1
  cases A.1.symm.trans e5
  refine ⟨_, A, ?_⟩
  simpa [Cond.value, e1, Term.int_eval] using q
set_option maxRecDepth 65536 in
set_option maxHeartbeats 40000000 in
theorem comes_1 {Post : Tables → Env → Array Value → State → Outcome → State → Prop} (hpost : ∀ tb e args s v u, (limb_1_1.after args s (.returned v) u = true ∧ limb_1_2.after args s (.returned v) u = true ∧ True) → FrameEnd s (.returned v) u (Jvm.fieldLocs frame_1_writes args s ++ Jvm.arrayLocs frame_1_arrays args s ++ Jvm.staticLocs frame_1_statics s) 80 132288 → Post tb e args s (.returned v) u) :
    ArmFor flags0 classFile x code maxLocals ret World_1 tables_1 room_1 Calls_1 rest_1 Pre_1 Post := by
  intro l hfl _ _ p e ha hc hk s m args below hf hA hF happ hP
  obtain ⟨hcalls, hrest, hpre⟩ := hP
  obtain ⟨-, -, -, hnamed, -, -, -, hat⟩ := (Spec.applies_iff hf).mp happ
  obtain ⟨hg, hnar⟩ := and_e (Cond.before_iff.mp (show (Jvm.Cond.and given_1 narrow_1).before args s = true from hpre))
  obtain ⟨gc, g0⟩ := and_e hg
  obtain ⟨k0, g1⟩ := and_e g0
  obtain ⟨k1, g2⟩ := and_e g1
  obtain ⟨k2, g3⟩ := and_e g2
  obtain ⟨k3, g4⟩ := and_e g3
  obtain ⟨k4, g5⟩ := and_e g4
  obtain ⟨w0, w1, w2, w3, w4, w5, rfl⟩ : ∃ w0 w1 w2 w3 w4 w5 : Value, args = #[w0, w1, w2, w3, w4, w5] := by
    have hs : args.size = 6 := by simpa [Cond.value, given_1] using gc
    obtain ⟨L⟩ := args
    match L, hs with
    | [w0, w1, w2, w3, w4, w5], _ => exact ⟨w0, w1, w2, w3, w4, w5, rfl⟩
  have hw := fun d (hd : d ∈ tables_1) => atoms_spec (ws := Jvm.Cond.code x code maxLocals ret :: tables_1) hat d (List.mem_cons_of_mem _ hd)
  have hfit : Fit s := fun {y c} hc i hi => by
    obtain ⟨ha, rfl⟩ := Array.getElem?_eq_some_iff.mp hc
    have q := List.all_eq_true.mp ((Array.all_eq_true_iff_forall_mem.mp hF) _ (Array.getElem_mem ha)) i (List.mem_range.mpr hi)
    simpa [Array.getElem?_eq_getElem hi] using q
  obtain ⟨i0, ei0⟩ := is_v k0
  obtain rfl : w0 = (.int i0) := Option.some.inj ei0
  obtain ⟨i1, ei1⟩ := is_v k1
  obtain rfl : w1 = (.int i1) := Option.some.inj ei1
  obtain ⟨i2, ei2⟩ := isL_v k2
  obtain rfl : w2 = (.long i2) := Option.some.inj ei2
  obtain ⟨i3, ei3⟩ := isL_v k3
  obtain rfl : w3 = (.long i3) := Option.some.inj ei3
  obtain ⟨i4, ei4⟩ := isL_v k4
  obtain rfl : w4 = (.long i4) := Option.some.inj ei4
  obtain ⟨i5, ei5⟩ := is_v g5
  obtain rfl : w5 = (.int i5) := Option.some.inj ei5
  obtain ⟨na, nb⟩ := and_e hnar
  obtain ⟨ni, ev⟩ := arr_v na
  obtain ⟨nc, NA⟩ := Arr.start ev na
  have S := Sta.start ev (Or.inr ⟨tw hw 42 rfl, tw hw 159 rfl⟩)
  have An : Arn s s.heap ni .int 0 := len_at ev nb NA
  obtain ⟨n, o, h1, h2, h3, _, L, rfl, ⟨⟨rfl, -⟩, N⟩, hq⟩ := law_ct l s _ hw i0 i1 i2 i3 i4 i5 s.heap.size s.heap (Nat.le_refl _) rfl ni S An p e ha hc hk s m _ below hf ((Spec.applies_iff_loose hf).mp happ).1 ⟨rfl, State.Warmed39.refl s, rfl⟩ trivial
  refine ⟨n, _, h1, h2, h3, hpost _ _ _ _ _ _ ⟨Cond.after_iff.mpr rfl, Cond.after_iff.mpr (eq_i res_at (Term.int_eval (1)) rfl), trivial⟩ ⟨hq.1, hq.2.1, (hq.2.2.sift fun y hy => Or.inr (N y hy)).mono (by decide) (by decide)⟩⟩
theorem main_1_1 : Claimed_1_1 := comes_1 fun _ _ _ _ _ _ h hF => ⟨h.1, hF⟩
theorem main_1_2 : Claimed_1_2 := comes_1 fun _ _ _ _ _ _ h hF => ⟨h.2.1, hF⟩
end Jvm.Pilot.@@N@@
namespace Jvm.Pilot.@@N@@
open Jvm Jvm.ClassFile Sem Op Lib Jvm.Free Jvm.Stand Jvm.Pilot.@@N@@.Jvm.D
/-! MADE BY PROGRAM (witnessworld.py) out of the Statement's table words and the real class files: 26 classes; the members and pool entries that the words name. The judged class is class 1, her method 3. -/
namespace start1
open Jvm.ClassFile
def u (s : String) : CpInfo := .utf8 (stringToUtf16 s)
/-- a pool by its gaps: so many unusable entries, then the entry; so many at the end -/
def gap : Nat → List CpInfo → List CpInfo
  | 0, r => r
  | n + 1, r => .unusable :: gap n r
def poolList (es : List (Nat × CpInfo)) (last : Nat) : List CpInfo := es.foldr (fun e r => gap e.1 (e.2 :: r)) (gap last [])
def pool (es : List (Nat × CpInfo)) (last : Nat) : Array CpInfo := ⟨poolList es last⟩
def fileOf (pool : Array CpInfo) (this : Nat) (attrs : Array Attribute := #[]) (ms : Array MethodInfo := #[]) (fl : Nat := 33) (sup : Nat := 0) (ifs : Array Nat := #[]) (fds : Array FieldInfo := #[]) : ClassFile where
  minorVersion := 0
  majorVersion := 65
  constantPool := pool
  accessFlags := fl
  thisClass := this
  superClass := sup
  interfaces := ifs
  fields := fds
  methods := ms
  attributes := attrs
def plain (name : String) (sup : Option ClassId) : Class where
  name := name
  kind := .ordinary
  loader := none
  accessFlags := 33
  super := sup
  interfaces := #[]
  cf := none
  fields := #[]
  methods := #[]
  instanceTypes := #[]
  staticTypes := #[]
  resolved := #[]
  callSites := []
  init := .initialized
  statics := none
  mirror := none

def pool0 : Array CpInfo := pool [(5, u "<init>"), (0, u "()V"), (1, .class_ 10), (1, u "java/lang/Object")] 113

def k0c0 : Code := { maxStack := 0, maxLocals := 1, code := object_method_1_code, exceptionTable := #[], attributes := #[] }
def k0m0 : Method := { name := "<init>", desc := "()V", sig := { parameters := [], returnType := none }, accessFlags := 1, code := some k0c0 }
/-- java/lang/Object -/
def k0 : Class := { plain "java/lang/Object" none with
  accessFlags := 33
  interfaces := #[]
  cf := some (fileOf pool0 8 #[] #[{ accessFlags := 1, nameIndex := 5, descriptorIndex := 6, attributes := #[] }] 33 0 #[] #[])
  fields := #[]
  methods := #[k0m0]
  instanceTypes := #[]
  staticTypes := #[]
  resolved := Array.replicate 124 none
  statics := none }

def pool1 : Array CpInfo := pool [(2, .class_ 4), (1, u "java/lang/Object"), (0, u "<init>"), (0, u "()V"), (0, .long 18446744073709551615), (1, .integer 65535), (0, .integer 2147483647), (0, .methodref 12 13), (0, .class_ 14), (0, .nameAndType 15 16), (0, u "com/example/runnel/runnel/runtime/RecordBufferMemoryPinLaw"), (0, u "maskOf"), (0, u "(I)J"), (0, .methodref 12 18), (0, .nameAndType 19 20), (0, u "bytesOf"), (0, u "(J)[B"), (0, .class_ 22), (0, u "com/example/runnel/runnel/runtime/Bytes"), (0, .methodref 21 24), (0, .nameAndType 5 25), (0, u "(I)V"), (0, .methodref 21 27), (0, .nameAndType 28 29), (0, u "write"), (0, u "([BII)V"), (0, .class_ 31), (0, u "com/example/runnel/runnel/runtime/RecordBuffer"), (0, .methodref 30 33), (0, .nameAndType 5 34), (0, u "(IJ)V"), (0, .methodref 30 36), (0, .nameAndType 37 38), (0, u "add"), (0, u "(IILcom/example/runnel/runnel/runtime/Bytes;Lcom/example/runnel/runnel/runtime/Bytes;)Z"), (0, .methodref 30 40), (0, .nameAndType 41 6), (0, u "sort"), (0, .methodref 30 43), (0, .nameAndType 44 6), (0, u "trim"), (0, .methodref 30 46), (0, .nameAndType 47 48), (0, u "memory"), (0, u "()J"), (0, .long 400), (1, .long 4), (1, .long 12), (1, .long 24), (1, .long 1088), (4, u "law"), (0, u "(IIJJJI)Z")] 4

def k1m0 : Method := { name := "<init>", desc := "()V", sig := { parameters := [], returnType := none }, accessFlags := 2, code := none }
def k1c1 : Code := { maxStack := 5, maxLocals := 3, code := method_2_code, exceptionTable := #[], attributes := #[] }
def k1m1 : Method := { name := "bytesOf", desc := "(J)[B", sig := { parameters := [.long], returnType := some (.array .byte) }, accessFlags := 10, code := some k1c1 }
def k1c2 : Code := { maxStack := 4, maxLocals := 1, code := method_3_code, exceptionTable := #[], attributes := #[] }
def k1m2 : Method := { name := "maskOf", desc := "(I)J", sig := { parameters := [.int], returnType := some .long }, accessFlags := 10, code := some k1c2 }
def k1c3 : Code := { maxStack := 6, maxLocals := 41, code := code, exceptionTable := #[], attributes := #[] }
def k1m3 : Method := { name := "law", desc := "(IIJJJI)Z", sig := { parameters := [.int, .int, .long, .long, .long, .int], returnType := some .boolean }, accessFlags := 9, code := some k1c3 }
/-- com/example/runnel/runnel/runtime/RecordBufferMemoryPinLaw -/
def k1 : Class := { plain "com/example/runnel/runnel/runtime/RecordBufferMemoryPinLaw" (some 0) with
  accessFlags := 49
  interfaces := #[]
  cf := some (fileOf pool1 12 #[] #[{ accessFlags := 2, nameIndex := 5, descriptorIndex := 6, attributes := #[] }, { accessFlags := 10, nameIndex := 19, descriptorIndex := 20, attributes := #[] }, { accessFlags := 10, nameIndex := 15, descriptorIndex := 16, attributes := #[] }, { accessFlags := 9, nameIndex := 62, descriptorIndex := 63, attributes := #[] }] 49 2 #[] #[])
  fields := #[]
  methods := #[k1m0, k1m1, k1m2, k1m3]
  instanceTypes := #[]
  staticTypes := #[]
  resolved := Array.replicate 68 none
  statics := none }

def pool2 : Array CpInfo := pool [(1, .class_ 2), (0, u "java/lang/AutoCloseable"), (0, .class_ 4), (0, u "java/lang/Object")] 7

/-- java/lang/AutoCloseable -/
def k2 : Class := { plain "java/lang/AutoCloseable" (some 0) with
  accessFlags := 1537
  interfaces := #[]
  cf := some (fileOf pool2 1 #[] #[] 1537 3 #[] #[])
  fields := #[]
  methods := #[]
  instanceTypes := #[]
  staticTypes := #[]
  resolved := Array.replicate 12 none
  statics := none }

def pool3 : Array CpInfo := pool [(1, .class_ 2), (0, u "java/io/Closeable"), (0, .class_ 4), (0, u "java/lang/Object"), (0, .class_ 6), (0, u "java/lang/AutoCloseable")] 7

/-- java/io/Closeable -/
def k3 : Class := { plain "java/io/Closeable" (some 0) with
  accessFlags := 1537
  interfaces := #[2]
  cf := some (fileOf pool3 1 #[] #[] 1537 3 #[5] #[])
  fields := #[]
  methods := #[]
  instanceTypes := #[]
  staticTypes := #[]
  resolved := Array.replicate 14 none
  statics := none }

def pool4 : Array CpInfo := pool [(1, .class_ 2), (0, u "java/io/Flushable"), (0, .class_ 4), (0, u "java/lang/Object")] 7

/-- java/io/Flushable -/
def k4 : Class := { plain "java/io/Flushable" (some 0) with
  accessFlags := 1537
  interfaces := #[]
  cf := some (fileOf pool4 1 #[] #[] 1537 3 #[] #[])
  fields := #[]
  methods := #[]
  instanceTypes := #[]
  staticTypes := #[]
  resolved := Array.replicate 12 none
  statics := none }

def pool5 : Array CpInfo := pool [(1, .methodref 2 3), (0, .class_ 4), (0, .nameAndType 5 6), (0, u "java/lang/Object"), (0, u "<init>"), (0, u "()V"), (0, .class_ 8), (0, u "java/io/OutputStream$1"), (2, .class_ 13), (1, u "java/io/OutputStream"), (11, .class_ 26), (0, u "java/io/Closeable"), (0, .class_ 28), (0, u "java/io/Flushable")] 24

def k5c0 : Code := { maxStack := 1, maxLocals := 1, code := jdk_2038_method_1_code, exceptionTable := #[], attributes := #[] }
def k5m0 : Method := { name := "<init>", desc := "()V", sig := { parameters := [], returnType := none }, accessFlags := 1, code := some k5c0 }
/-- java/io/OutputStream -/
def k5 : Class := { plain "java/io/OutputStream" (some 0) with
  accessFlags := 1057
  interfaces := #[3, 4]
  cf := some (fileOf pool5 11 #[.nestMembers #[7]] #[{ accessFlags := 1, nameIndex := 5, descriptorIndex := 6, attributes := #[] }] 1057 2 #[25, 27] #[])
  fields := #[]
  methods := #[k5m0]
  instanceTypes := #[]
  staticTypes := #[]
  resolved := Array.replicate 53 none
  statics := none }

def pool6 : Array CpInfo := pool [(1, .class_ 2), (0, u "java/lang/Long"), (0, .methodref 4 5), (0, .class_ 6), (0, .nameAndType 7 8), (0, u "java/io/OutputStream"), (0, u "<init>"), (0, u "()V"), (0, .fieldref 10 11), (0, .class_ 12), (0, .nameAndType 13 14), (0, u "com/example/runnel/runnel/runtime/Bytes"), (0, u "array"), (0, u "[B"), (0, .fieldref 10 16), (0, .nameAndType 17 18), (0, u "size"), (0, u "I"), (6, .methodref 10 26), (0, .nameAndType 27 28), (0, u "grow"), (0, u "(I)V"), (0, .methodref 30 31), (0, .class_ 32), (0, .nameAndType 33 34), (0, u "java/lang/System"), (0, u "arraycopy"), (0, u "(Ljava/lang/Object;ILjava/lang/Object;II)V"), (0, .methodref 36 37), (0, .class_ 38), (0, .nameAndType 39 40), (0, u "java/lang/Math"), (0, u "min"), (0, u "(II)I"), (0, .methodref 42 43), (0, .class_ 44), (0, .nameAndType 45 40), (0, u "java/lang/Integer"), (0, u "compare"), (2, .methodref 1 49), (0, .nameAndType 50 51), (0, u "compareUnsigned"), (0, u "(JJ)I"), (0, .methodref 10 53), (0, .nameAndType 45 54), (0, u "([BII[BII)I"), (0, .methodref 36 56), (0, .nameAndType 57 40), (0, u "addExact"), (0, .methodref 36 59), (0, .nameAndType 60 40), (0, u "max"), (3, u "PREFIX"), (4, u "()[B"), (0, u "()I"), (0, u "capacity"), (2, u "write"), (0, u "([BII)V"), (0, u "prefixOf"), (0, u "([BII)J"), (1, u "compareKeys"), (0, u "(J[BIIJ[BII)I")] 2

def k6c0 : Code := { maxStack := 2, maxLocals := 2, code := prog_58_method_1_code, exceptionTable := #[], attributes := #[] }
def k6m0 : Method := { name := "<init>", desc := "(I)V", sig := { parameters := [.int], returnType := none }, accessFlags := 0, code := some k6c0 }
def k6c1 : Code := { maxStack := 1, maxLocals := 1, code := prog_58_method_2_code, exceptionTable := #[], attributes := #[] }
def k6m1 : Method := { name := "array", desc := "()[B", sig := { parameters := [], returnType := some (.array .byte) }, accessFlags := 0, code := some k6c1 }
def k6c2 : Code := { maxStack := 1, maxLocals := 1, code := prog_58_method_3_code, exceptionTable := #[], attributes := #[] }
def k6m2 : Method := { name := "size", desc := "()I", sig := { parameters := [], returnType := some .int }, accessFlags := 0, code := some k6c2 }
def k6c3 : Code := { maxStack := 1, maxLocals := 1, code := prog_58_method_4_code, exceptionTable := #[], attributes := #[] }
def k6m3 : Method := { name := "capacity", desc := "()I", sig := { parameters := [], returnType := some .int }, accessFlags := 0, code := some k6c3 }
def k6c4 : Code := { maxStack := 5, maxLocals := 4, code := prog_58_method_8_code, exceptionTable := #[], attributes := #[] }
def k6m4 : Method := { name := "write", desc := "([BII)V", sig := { parameters := [(.array .byte), .int, .int], returnType := none }, accessFlags := 1, code := some k6c4 }
def k6c5 : Code := { maxStack := 4, maxLocals := 9, code := prog_58_method_9_code, exceptionTable := #[], attributes := #[] }
def k6m5 : Method := { name := "compare", desc := "([BII[BII)I", sig := { parameters := [(.array .byte), .int, .int, (.array .byte), .int, .int], returnType := some .int }, accessFlags := 8, code := some k6c5 }
def k6c6 : Code := { maxStack := 5, maxLocals := 6, code := prog_58_method_10_code, exceptionTable := #[], attributes := #[] }
def k6m6 : Method := { name := "prefixOf", desc := "([BII)J", sig := { parameters := [(.array .byte), .int, .int], returnType := some .long }, accessFlags := 8, code := some k6c6 }
def k6c7 : Code := { maxStack := 6, maxLocals := 11, code := prog_58_method_11_code, exceptionTable := #[], attributes := #[] }
def k6m7 : Method := { name := "compareKeys", desc := "(J[BIIJ[BII)I", sig := { parameters := [.long, (.array .byte), .int, .int, .long, (.array .byte), .int, .int], returnType := some .int }, accessFlags := 8, code := some k6c7 }
def k6c8 : Code := { maxStack := 4, maxLocals := 2, code := prog_58_method_12_code, exceptionTable := #[], attributes := #[] }
def k6m8 : Method := { name := "grow", desc := "(I)V", sig := { parameters := [.int], returnType := none }, accessFlags := 2, code := some k6c8 }
/-- com/example/runnel/runnel/runtime/Bytes -/
def k6 : Class := { plain "com/example/runnel/runnel/runtime/Bytes" (some 5) with
  accessFlags := 32
  interfaces := #[]
  cf := some (fileOf pool6 10 #[] #[{ accessFlags := 0, nameIndex := 7, descriptorIndex := 28, attributes := #[] }, { accessFlags := 0, nameIndex := 13, descriptorIndex := 69, attributes := #[] }, { accessFlags := 0, nameIndex := 17, descriptorIndex := 70, attributes := #[] }, { accessFlags := 0, nameIndex := 71, descriptorIndex := 70, attributes := #[] }, { accessFlags := 1, nameIndex := 74, descriptorIndex := 75, attributes := #[] }, { accessFlags := 8, nameIndex := 45, descriptorIndex := 54, attributes := #[] }, { accessFlags := 8, nameIndex := 76, descriptorIndex := 77, attributes := #[] }, { accessFlags := 8, nameIndex := 79, descriptorIndex := 80, attributes := #[] }, { accessFlags := 2, nameIndex := 27, descriptorIndex := 28, attributes := #[] }] 32 4 #[] #[{ accessFlags := 24, nameIndex := 64, descriptorIndex := 18, attributes := #[] }, { accessFlags := 2, nameIndex := 13, descriptorIndex := 14, attributes := #[] }, { accessFlags := 2, nameIndex := 17, descriptorIndex := 18, attributes := #[] }])
  fields := #[{ name := "PREFIX", type := .int, accessFlags := 24, slot := 0, constantValue := 0 }, { name := "array", type := (.array .byte), accessFlags := 2, slot := 0, constantValue := 0 }, { name := "size", type := .int, accessFlags := 2, slot := 1, constantValue := 0 }]
  methods := #[k6m0, k6m1, k6m2, k6m3, k6m4, k6m5, k6m6, k6m7, k6m8]
  instanceTypes := #[(.array .byte), .int]
  staticTypes := #[.int]
  resolved := Array.replicate 83 none
  statics := none }

def pool7 : Array CpInfo := pool [(2, .class_ 4), (1, u "java/lang/Object"), (0, u "<init>"), (0, u "()V"), (1, .class_ 10), (1, u "java/lang/System"), (0, u "allowSecurityManager"), (0, u "I"), (16, u "cons"), (0, u "Ljava/io/Console;"), (77, .class_ 110), (1, u "java/lang/System$CallersHolder"), (43, u "initialErrStream"), (0, u "Ljava/io/PrintStream;"), (19, u "security"), (0, u "Ljava/lang/SecurityManager;"), (31, .class_ 209), (0, u "java/lang/System$1"), (7, u "props"), (0, u "Ljava/util/Properties;"), (2, u "lineSeparator"), (0, u "Ljava/lang/String;"), (96, .class_ 321), (1, u "java/lang/System$LoggerFinder"), (5, .class_ 328), (0, u "java/lang/System$Logger"), (67, u "err"), (2, u "out"), (91, u "notSupportedJnuEncoding"), (15, u "in"), (17, u "initialIn"), (0, u "Ljava/io/InputStream;"), (35, u "bootLayer"), (0, u "Ljava/lang/ModuleLayer;"), (99, .class_ 664), (0, u "java/lang/System$2"), (9, u "NEVER"), (2, u "MAYBE"), (49, u "arraycopy"), (0, u "(Ljava/lang/Object;ILjava/lang/Object;II)V"), (72, .class_ 802), (0, u "java/lang/System$Logger$Level")] 31

def k7m0 : Method := { name := "<init>", desc := "()V", sig := { parameters := [], returnType := none }, accessFlags := 2, code := none }
def k7m1 : Method := { name := "arraycopy", desc := "(Ljava/lang/Object;ILjava/lang/Object;II)V", sig := { parameters := [(.object "java/lang/Object"), .int, (.object "java/lang/Object"), .int, .int], returnType := none }, accessFlags := 265, code := none }
/-- java/lang/System -/
def k7 : Class := { plain "java/lang/System" (some 0) with
  accessFlags := 49
  interfaces := #[]
  cf := some (fileOf pool7 8 #[.nestMembers #[319, 327, 801, 108, 663, 208]] #[{ accessFlags := 2, nameIndex := 5, descriptorIndex := 6, attributes := #[] }, { accessFlags := 265, nameIndex := 727, descriptorIndex := 728, attributes := #[] }] 49 2 #[] #[{ accessFlags := 25, nameIndex := 507, descriptorIndex := 526, attributes := #[] }, { accessFlags := 25, nameIndex := 399, descriptorIndex := 155, attributes := #[] }, { accessFlags := 25, nameIndex := 396, descriptorIndex := 155, attributes := #[] }, { accessFlags := 10, nameIndex := 525, descriptorIndex := 526, attributes := #[] }, { accessFlags := 26, nameIndex := 674, descriptorIndex := 12, attributes := #[] }, { accessFlags := 26, nameIndex := 677, descriptorIndex := 12, attributes := #[] }, { accessFlags := 10, nameIndex := 11, descriptorIndex := 12, attributes := #[] }, { accessFlags := 74, nameIndex := 175, descriptorIndex := 176, attributes := #[] }, { accessFlags := 10, nameIndex := 491, descriptorIndex := 222, attributes := #[] }, { accessFlags := 74, nameIndex := 29, descriptorIndex := 30, attributes := #[] }, { accessFlags := 74, nameIndex := 154, descriptorIndex := 155, attributes := #[] }, { accessFlags := 10, nameIndex := 217, descriptorIndex := 218, attributes := #[] }, { accessFlags := 10, nameIndex := 221, descriptorIndex := 222, attributes := #[] }, { accessFlags := 8, nameIndex := 562, descriptorIndex := 563, attributes := #[] }])
  fields := #[{ name := "in", type := (.object "java/io/InputStream"), accessFlags := 25, slot := 0, constantValue := 0 }, { name := "out", type := (.object "java/io/PrintStream"), accessFlags := 25, slot := 1, constantValue := 0 }, { name := "err", type := (.object "java/io/PrintStream"), accessFlags := 25, slot := 2, constantValue := 0 }, { name := "initialIn", type := (.object "java/io/InputStream"), accessFlags := 10, slot := 3, constantValue := 0 }, { name := "NEVER", type := .int, accessFlags := 26, slot := 4, constantValue := 0 }, { name := "MAYBE", type := .int, accessFlags := 26, slot := 5, constantValue := 0 }, { name := "allowSecurityManager", type := .int, accessFlags := 10, slot := 6, constantValue := 0 }, { name := "security", type := (.object "java/lang/SecurityManager"), accessFlags := 74, slot := 7, constantValue := 0 }, { name := "notSupportedJnuEncoding", type := (.object "java/lang/String"), accessFlags := 10, slot := 8, constantValue := 0 }, { name := "cons", type := (.object "java/io/Console"), accessFlags := 74, slot := 9, constantValue := 0 }, { name := "initialErrStream", type := (.object "java/io/PrintStream"), accessFlags := 74, slot := 10, constantValue := 0 }, { name := "props", type := (.object "java/util/Properties"), accessFlags := 10, slot := 11, constantValue := 0 }, { name := "lineSeparator", type := (.object "java/lang/String"), accessFlags := 10, slot := 12, constantValue := 0 }, { name := "bootLayer", type := (.object "java/lang/ModuleLayer"), accessFlags := 8, slot := 13, constantValue := 0 }]
  methods := #[k7m0, k7m1]
  instanceTypes := #[]
  staticTypes := #[(.object "java/io/InputStream"), (.object "java/io/PrintStream"), (.object "java/io/PrintStream"), (.object "java/io/InputStream"), .int, .int, .int, (.object "java/lang/SecurityManager"), (.object "java/lang/String"), (.object "java/io/Console"), (.object "java/io/PrintStream"), (.object "java/util/Properties"), (.object "java/lang/String"), (.object "java/lang/ModuleLayer")]
  resolved := Array.replicate 834 none
  statics := none }

def pool8 : Array CpInfo := pool [(1, .class_ 2), (0, u "com/example/runnel/runnel/runtime/ShuffleBuffer"), (0, .class_ 4), (0, u "java/lang/Object")] 24

/-- com/example/runnel/runnel/runtime/ShuffleBuffer -/
def k8 : Class := { plain "com/example/runnel/runnel/runtime/ShuffleBuffer" (some 0) with
  accessFlags := 1536
  interfaces := #[]
  cf := some (fileOf pool8 1 #[] #[] 1536 3 #[] #[])
  fields := #[]
  methods := #[]
  instanceTypes := #[]
  staticTypes := #[]
  resolved := Array.replicate 29 none
  statics := none }

def pool9 : Array CpInfo := pool [(1, .methodref 2 3), (0, .class_ 4), (0, .nameAndType 5 6), (0, u "java/lang/Object"), (0, u "<init>"), (0, u "()V"), (0, .class_ 8), (0, u "com/example/runnel/runnel/runtime/Bytes"), (0, .class_ 10), (0, u "com/example/runnel/runnel/runtime/RecordBuffer"), (0, .methodref 7 12), (0, .nameAndType 5 13), (0, u "(I)V"), (0, .fieldref 9 15), (0, .nameAndType 16 17), (0, u "bytes"), (0, u "Lcom/example/runnel/runnel/runtime/Bytes;"), (0, .fieldref 9 19), (0, .nameAndType 20 21), (0, u "valueFrom"), (0, u "[I"), (0, .fieldref 9 23), (0, .nameAndType 24 21), (0, u "valueTo"), (0, .fieldref 9 26), (0, .nameAndType 27 21), (0, u "nextOf"), (0, .fieldref 9 29), (0, .nameAndType 30 21), (0, u "keyFrom"), (0, .fieldref 9 32), (0, .nameAndType 33 21), (0, u "keyLength"), (0, .fieldref 9 35), (0, .nameAndType 36 21), (0, u "hashOf"), (0, .fieldref 9 38), (0, .nameAndType 39 21), (0, u "partitionOf"), (0, .fieldref 9 41), (0, .nameAndType 42 43), (0, u "prefixOf"), (0, u "[J"), (0, .fieldref 9 45), (0, .nameAndType 46 21), (0, u "firstOf"), (0, .fieldref 9 48), (0, .nameAndType 49 21), (0, u "lastOf"), (0, .fieldref 9 51), (0, .nameAndType 52 21), (0, u "slots"), (0, .fieldref 9 54), (0, .nameAndType 55 56), (0, u "partitions"), (0, u "I"), (0, .fieldref 9 58), (0, .nameAndType 59 60), (0, u "limit"), (0, u "J"), (0, .fieldref 9 62), (0, .nameAndType 63 56), (0, u "records"), (0, .class_ 65), (0, u "java/lang/Integer"), (0, .long 4), (1, .fieldref 9 69), (0, .nameAndType 70 21), (0, u "order"), (2, .long 8), (1, .methodref 9 76), (0, .nameAndType 77 78), (0, u "fixedMemory"), (0, u "()J"), (0, .methodref 7 80), (0, .nameAndType 81 82), (0, u "capacity"), (0, u "()I"), (0, .long 12), (1, .methodref 9 86), (0, .nameAndType 87 88), (0, u "find"), (0, u "(ILcom/example/runnel/runnel/runtime/Bytes;)I"), (0, .methodref 7 90), (0, .nameAndType 91 82), (0, u "size"), (0, .methodref 93 94), (0, .class_ 95), (0, .nameAndType 96 97), (0, u "java/lang/Math"), (0, u "addExact"), (0, u "(II)I"), (0, .methodref 93 99), (0, .nameAndType 100 97), (0, u "max"), (0, .fieldref 9 102), (0, .nameAndType 103 56), (0, u "keys"), (0, .long 48), (1, .long 2), (10, .methodref 9 118), (0, .nameAndType 119 13), (0, u "growRecords"), (3, .methodref 7 124), (0, .nameAndType 125 126), (0, u "array"), (0, u "()[B"), (0, .methodref 7 128), (0, .nameAndType 42 129), (0, u "([BII)J"), (0, .methodref 7 131), (0, .nameAndType 132 133), (0, u "write"), (0, u "([BII)V"), (0, .methodref 9 135), (0, .nameAndType 136 88), (0, u "slotOf"), (0, .methodref 138 139), (0, .class_ 140), (0, .nameAndType 141 142), (0, u "java/util/Arrays"), (0, u "fill"), (0, u "([II)V"), (0, .methodref 9 144), (0, .nameAndType 145 146), (0, u "sortValues"), (0, u "(I[I)V"), (0, .methodref 9 148), (0, .nameAndType 149 150), (0, u "sort"), (0, u "([I[III)V"), (0, .fieldref 9 152), (0, .nameAndType 153 21), (0, u "ends"), (0, .methodref 138 155), (0, .nameAndType 156 157), (0, u "copyOf"), (0, u "([II)[I"), (0, .fieldref 9 159), (0, .nameAndType 160 21), (0, u "NO_INTS"), (0, .methodref 138 162), (0, .nameAndType 156 163), (0, u "([JI)[J"), (0, .class_ 165), (0, u "com/example/runnel/runnel/runtime/RecordBuffer$1"), (9, u "add"), (8, .long 400), (1, .methodref 9 187), (0, .nameAndType 188 189), (0, u "isKey"), (0, u "(IILcom/example/runnel/runnel/runtime/Bytes;)Z"), (0, .methodref 7 191), (0, .nameAndType 192 193), (0, u "compare"), (0, u "([BII[BII)I"), (0, .methodref 9 195), (0, .nameAndType 192 97), (4, .methodref 9 201), (0, .nameAndType 202 97), (0, u "compareValues"), (13, .methodref 64 195), (0, .methodref 7 218), (0, .nameAndType 219 220), (0, u "compareKeys"), (0, u "(J[BIIJ[BII)I"), (0, .class_ 222), (0, u "com/example/runnel/runnel/runtime/ShuffleBuffer"), (0, u "BUFFER_MEMORY"), (2, u "RECORD_MEMORY"), (1, u "KEY_MEMORY"), (1, u "INSERTION_SORT"), (1, u "INITIAL_BYTES"), (1, u "INITIAL_RECORDS"), (0, u "INITIAL_KEYS"), (0, u "NONE"), (1, u "(IJ)V"), (2, u "memory"), (1, u "(IILcom/example/runnel/runnel/runtime/Bytes;Lcom/example/runnel/runnel/runtime/Bytes;)Z"), (1, u "trim"), (13, .class_ 260), (0, u "com/example/runnel/runnel/runtime/RecordBuffer$1$1")] 4

def k9c0 : Code := { maxStack := 4, maxLocals := 4, code := prog_78_method_1_code, exceptionTable := #[], attributes := #[] }
def k9m0 : Method := { name := "<init>", desc := "(IJ)V", sig := { parameters := [.int, .long], returnType := none }, accessFlags := 0, code := some k9c0 }
def k9c1 : Code := { maxStack := 6, maxLocals := 3, code := prog_78_method_3_code, exceptionTable := #[], attributes := #[] }
def k9m1 : Method := { name := "memory", desc := "()J", sig := { parameters := [], returnType := some .long }, accessFlags := 1, code := some k9c1 }
def k9c2 : Code := { maxStack := 9, maxLocals := 14, code := prog_78_method_4_code, exceptionTable := #[], attributes := #[] }
def k9m2 : Method := { name := "add", desc := "(IILcom/example/runnel/runnel/runtime/Bytes;Lcom/example/runnel/runnel/runtime/Bytes;)Z", sig := { parameters := [.int, .int, (.object "com/example/runnel/runnel/runtime/Bytes"), (.object "com/example/runnel/runnel/runtime/Bytes")], returnType := some .boolean }, accessFlags := 1, code := some k9c2 }
def k9c3 : Code := { maxStack := 5, maxLocals := 4, code := prog_78_method_5_code, exceptionTable := #[], attributes := #[] }
def k9m3 : Method := { name := "sort", desc := "()V", sig := { parameters := [], returnType := none }, accessFlags := 1, code := some k9c3 }
def k9c4 : Code := { maxStack := 4, maxLocals := 2, code := prog_78_method_6_code, exceptionTable := #[], attributes := #[] }
def k9m4 : Method := { name := "trim", desc := "()V", sig := { parameters := [], returnType := none }, accessFlags := 1, code := some k9c4 }
def k9c5 : Code := { maxStack := 6, maxLocals := 1, code := prog_78_method_9_code, exceptionTable := #[], attributes := #[] }
def k9m5 : Method := { name := "fixedMemory", desc := "()J", sig := { parameters := [], returnType := some .long }, accessFlags := 2, code := some k9c5 }
def k9c6 : Code := { maxStack := 4, maxLocals := 4, code := prog_78_method_10_code, exceptionTable := #[], attributes := #[] }
def k9m6 : Method := { name := "find", desc := "(ILcom/example/runnel/runnel/runtime/Bytes;)I", sig := { parameters := [.int, (.object "com/example/runnel/runnel/runtime/Bytes")], returnType := some .int }, accessFlags := 2, code := some k9c6 }
def k9c7 : Code := { maxStack := 4, maxLocals := 5, code := prog_78_method_11_code, exceptionTable := #[], attributes := #[] }
def k9m7 : Method := { name := "slotOf", desc := "(ILcom/example/runnel/runnel/runtime/Bytes;)I", sig := { parameters := [.int, (.object "com/example/runnel/runnel/runtime/Bytes")], returnType := some .int }, accessFlags := 2, code := some k9c7 }
def k9c8 : Code := { maxStack := 6, maxLocals := 4, code := prog_78_method_12_code, exceptionTable := #[], attributes := #[] }
def k9m8 : Method := { name := "isKey", desc := "(IILcom/example/runnel/runnel/runtime/Bytes;)Z", sig := { parameters := [.int, .int, (.object "com/example/runnel/runnel/runtime/Bytes")], returnType := some .boolean }, accessFlags := 2, code := some k9c8 }
def k9c9 : Code := { maxStack := 3, maxLocals := 2, code := prog_78_method_13_code, exceptionTable := #[], attributes := #[] }
def k9m9 : Method := { name := "growRecords", desc := "(I)V", sig := { parameters := [.int], returnType := none }, accessFlags := 2, code := some k9c9 }
def k9c10 : Code := { maxStack := 6, maxLocals := 8, code := prog_78_method_15_code, exceptionTable := #[], attributes := #[] }
def k9m10 : Method := { name := "sort", desc := "([I[III)V", sig := { parameters := [(.array .int), (.array .int), .int, .int], returnType := none }, accessFlags := 2, code := some k9c10 }
def k9c11 : Code := { maxStack := 5, maxLocals := 4, code := prog_78_method_16_code, exceptionTable := #[], attributes := #[] }
def k9m11 : Method := { name := "sortValues", desc := "(I[I)V", sig := { parameters := [.int, (.array .int)], returnType := none }, accessFlags := 2, code := some k9c11 }
def k9c12 : Code := { maxStack := 7, maxLocals := 4, code := prog_78_method_19_code, exceptionTable := #[], attributes := #[] }
def k9m12 : Method := { name := "compareValues", desc := "(II)I", sig := { parameters := [.int, .int], returnType := some .int }, accessFlags := 2, code := some k9c12 }
def k9c13 : Code := { maxStack := 12, maxLocals := 5, code := prog_78_method_21_code, exceptionTable := #[], attributes := #[] }
def k9m13 : Method := { name := "compare", desc := "(II)I", sig := { parameters := [.int, .int], returnType := some .int }, accessFlags := 2, code := some k9c13 }
/-- com/example/runnel/runnel/runtime/RecordBuffer -/
def k9 : Class := { plain "com/example/runnel/runnel/runtime/RecordBuffer" (some 0) with
  accessFlags := 32
  interfaces := #[8]
  cf := some (fileOf pool9 9 #[.nestMembers #[164, 259]] #[{ accessFlags := 0, nameIndex := 5, descriptorIndex := 238, attributes := #[] }, { accessFlags := 1, nameIndex := 241, descriptorIndex := 78, attributes := #[] }, { accessFlags := 1, nameIndex := 175, descriptorIndex := 243, attributes := #[] }, { accessFlags := 1, nameIndex := 149, descriptorIndex := 6, attributes := #[] }, { accessFlags := 1, nameIndex := 245, descriptorIndex := 6, attributes := #[] }, { accessFlags := 2, nameIndex := 77, descriptorIndex := 78, attributes := #[] }, { accessFlags := 2, nameIndex := 87, descriptorIndex := 88, attributes := #[] }, { accessFlags := 2, nameIndex := 136, descriptorIndex := 88, attributes := #[] }, { accessFlags := 2, nameIndex := 188, descriptorIndex := 189, attributes := #[] }, { accessFlags := 2, nameIndex := 119, descriptorIndex := 13, attributes := #[] }, { accessFlags := 2, nameIndex := 149, descriptorIndex := 150, attributes := #[] }, { accessFlags := 2, nameIndex := 145, descriptorIndex := 146, attributes := #[] }, { accessFlags := 2, nameIndex := 202, descriptorIndex := 97, attributes := #[] }, { accessFlags := 2, nameIndex := 192, descriptorIndex := 97, attributes := #[] }] 32 2 #[221] #[{ accessFlags := 24, nameIndex := 223, descriptorIndex := 56, attributes := #[] }, { accessFlags := 24, nameIndex := 226, descriptorIndex := 56, attributes := #[] }, { accessFlags := 24, nameIndex := 228, descriptorIndex := 56, attributes := #[] }, { accessFlags := 26, nameIndex := 230, descriptorIndex := 56, attributes := #[] }, { accessFlags := 26, nameIndex := 232, descriptorIndex := 56, attributes := #[] }, { accessFlags := 26, nameIndex := 234, descriptorIndex := 56, attributes := #[] }, { accessFlags := 26, nameIndex := 235, descriptorIndex := 56, attributes := #[] }, { accessFlags := 26, nameIndex := 236, descriptorIndex := 56, attributes := #[] }, { accessFlags := 26, nameIndex := 160, descriptorIndex := 21, attributes := #[] }, { accessFlags := 18, nameIndex := 55, descriptorIndex := 56, attributes := #[] }, { accessFlags := 18, nameIndex := 59, descriptorIndex := 60, attributes := #[] }, { accessFlags := 2, nameIndex := 16, descriptorIndex := 17, attributes := #[] }, { accessFlags := 2, nameIndex := 63, descriptorIndex := 56, attributes := #[] }, { accessFlags := 2, nameIndex := 20, descriptorIndex := 21, attributes := #[] }, { accessFlags := 2, nameIndex := 24, descriptorIndex := 21, attributes := #[] }, { accessFlags := 2, nameIndex := 27, descriptorIndex := 21, attributes := #[] }, { accessFlags := 2, nameIndex := 103, descriptorIndex := 56, attributes := #[] }, { accessFlags := 2, nameIndex := 30, descriptorIndex := 21, attributes := #[] }, { accessFlags := 2, nameIndex := 33, descriptorIndex := 21, attributes := #[] }, { accessFlags := 2, nameIndex := 36, descriptorIndex := 21, attributes := #[] }, { accessFlags := 2, nameIndex := 39, descriptorIndex := 21, attributes := #[] }, { accessFlags := 2, nameIndex := 42, descriptorIndex := 43, attributes := #[] }, { accessFlags := 2, nameIndex := 46, descriptorIndex := 21, attributes := #[] }, { accessFlags := 2, nameIndex := 49, descriptorIndex := 21, attributes := #[] }, { accessFlags := 2, nameIndex := 52, descriptorIndex := 21, attributes := #[] }, { accessFlags := 2, nameIndex := 70, descriptorIndex := 21, attributes := #[] }, { accessFlags := 2, nameIndex := 153, descriptorIndex := 21, attributes := #[] }])
  fields := #[{ name := "BUFFER_MEMORY", type := .int, accessFlags := 24, slot := 0, constantValue := 0 }, { name := "RECORD_MEMORY", type := .int, accessFlags := 24, slot := 1, constantValue := 0 }, { name := "KEY_MEMORY", type := .int, accessFlags := 24, slot := 2, constantValue := 0 }, { name := "INSERTION_SORT", type := .int, accessFlags := 26, slot := 3, constantValue := 0 }, { name := "INITIAL_BYTES", type := .int, accessFlags := 26, slot := 4, constantValue := 0 }, { name := "INITIAL_RECORDS", type := .int, accessFlags := 26, slot := 5, constantValue := 0 }, { name := "INITIAL_KEYS", type := .int, accessFlags := 26, slot := 6, constantValue := 0 }, { name := "NONE", type := .int, accessFlags := 26, slot := 7, constantValue := 0 }, { name := "NO_INTS", type := (.array .int), accessFlags := 26, slot := 8, constantValue := 0 }, { name := "partitions", type := .int, accessFlags := 18, slot := 0, constantValue := 0 }, { name := "limit", type := .long, accessFlags := 18, slot := 1, constantValue := 0 }, { name := "bytes", type := (.object "com/example/runnel/runnel/runtime/Bytes"), accessFlags := 2, slot := 2, constantValue := 0 }, { name := "records", type := .int, accessFlags := 2, slot := 3, constantValue := 0 }, { name := "valueFrom", type := (.array .int), accessFlags := 2, slot := 4, constantValue := 0 }, { name := "valueTo", type := (.array .int), accessFlags := 2, slot := 5, constantValue := 0 }, { name := "nextOf", type := (.array .int), accessFlags := 2, slot := 6, constantValue := 0 }, { name := "keys", type := .int, accessFlags := 2, slot := 7, constantValue := 0 }, { name := "keyFrom", type := (.array .int), accessFlags := 2, slot := 8, constantValue := 0 }, { name := "keyLength", type := (.array .int), accessFlags := 2, slot := 9, constantValue := 0 }, { name := "hashOf", type := (.array .int), accessFlags := 2, slot := 10, constantValue := 0 }, { name := "partitionOf", type := (.array .int), accessFlags := 2, slot := 11, constantValue := 0 }, { name := "prefixOf", type := (.array .long), accessFlags := 2, slot := 12, constantValue := 0 }, { name := "firstOf", type := (.array .int), accessFlags := 2, slot := 13, constantValue := 0 }, { name := "lastOf", type := (.array .int), accessFlags := 2, slot := 14, constantValue := 0 }, { name := "slots", type := (.array .int), accessFlags := 2, slot := 15, constantValue := 0 }, { name := "order", type := (.array .int), accessFlags := 2, slot := 16, constantValue := 0 }, { name := "ends", type := (.array .int), accessFlags := 2, slot := 17, constantValue := 0 }]
  methods := #[k9m0, k9m1, k9m2, k9m3, k9m4, k9m5, k9m6, k9m7, k9m8, k9m9, k9m10, k9m11, k9m12, k9m13]
  instanceTypes := #[.int, .long, (.object "com/example/runnel/runnel/runtime/Bytes"), .int, (.array .int), (.array .int), (.array .int), .int, (.array .int), (.array .int), (.array .int), (.array .int), (.array .long), (.array .int), (.array .int), (.array .int), (.array .int), (.array .int)]
  staticTypes := #[.int, .int, .int, .int, .int, .int, .int, .int, (.array .int)]
  resolved := Array.replicate 265 none
  statics := some 0 }

def pool10 : Array CpInfo := pool [(1, .class_ 2), (0, u "java/lang/Math"), (1, .class_ 6), (1, u "java/lang/Object"), (0, u "<init>"), (0, u "()V"), (89, .class_ 100), (1, u "java/lang/Math$RandomNumberGeneratorHolder"), (71, u "negativeZeroFloatBits"), (0, u "J"), (2, u "negativeZeroDoubleBits"), (21, u "max"), (2, u "min"), (43, u "$assertionsDisabled"), (0, u "Z"), (88, u "(II)I"), (2, u "twoToTheDoubleScaleDown"), (0, u "D"), (4, u "twoToTheDoubleScaleUp"), (9, u "E"), (3, u "PI"), (2, u "TAU"), (2, u "DEGREES_TO_RADIANS"), (0, u "RADIANS_TO_DEGREES"), (27, u "addExact")] 66

def k10m0 : Method := { name := "<init>", desc := "()V", sig := { parameters := [], returnType := none }, accessFlags := 2, code := none }
def k10c1 : Code := { maxStack := 3, maxLocals := 3, code := jdk_29_method_24_code, exceptionTable := #[], attributes := #[] }
def k10m1 : Method := { name := "addExact", desc := "(II)I", sig := { parameters := [.int, .int], returnType := some .int }, accessFlags := 9, code := some k10c1 }
def k10c2 : Code := { maxStack := 2, maxLocals := 2, code := jdk_29_method_65_code, exceptionTable := #[], attributes := #[] }
def k10m2 : Method := { name := "max", desc := "(II)I", sig := { parameters := [.int, .int], returnType := some .int }, accessFlags := 9, code := some k10c2 }
def k10c3 : Code := { maxStack := 2, maxLocals := 2, code := jdk_29_method_69_code, exceptionTable := #[], attributes := #[] }
def k10m3 : Method := { name := "min", desc := "(II)I", sig := { parameters := [.int, .int], returnType := some .int }, accessFlags := 9, code := some k10c3 }
/-- java/lang/Math -/
def k10 : Class := { plain "java/lang/Math" (some 0) with
  accessFlags := 49
  interfaces := #[]
  cf := some (fileOf pool10 1 #[.nestMembers #[98]] #[{ accessFlags := 2, nameIndex := 7, descriptorIndex := 8, attributes := #[] }, { accessFlags := 9, nameIndex := 393, descriptorIndex := 335, attributes := #[] }, { accessFlags := 9, nameIndex := 198, descriptorIndex := 335, attributes := #[] }, { accessFlags := 9, nameIndex := 201, descriptorIndex := 335, attributes := #[] }] 49 4 #[] #[{ accessFlags := 25, nameIndex := 354, descriptorIndex := 339, attributes := #[] }, { accessFlags := 25, nameIndex := 358, descriptorIndex := 339, attributes := #[] }, { accessFlags := 25, nameIndex := 361, descriptorIndex := 339, attributes := #[] }, { accessFlags := 26, nameIndex := 364, descriptorIndex := 339, attributes := #[] }, { accessFlags := 26, nameIndex := 365, descriptorIndex := 339, attributes := #[] }, { accessFlags := 26, nameIndex := 172, descriptorIndex := 173, attributes := #[] }, { accessFlags := 26, nameIndex := 176, descriptorIndex := 173, attributes := #[] }, { accessFlags := 8, nameIndex := 344, descriptorIndex := 339, attributes := #[] }, { accessFlags := 8, nameIndex := 338, descriptorIndex := 339, attributes := #[] }, { accessFlags := 4120, nameIndex := 245, descriptorIndex := 246, attributes := #[] }])
  fields := #[{ name := "E", type := .double, accessFlags := 25, slot := 0, constantValue := 0 }, { name := "PI", type := .double, accessFlags := 25, slot := 1, constantValue := 0 }, { name := "TAU", type := .double, accessFlags := 25, slot := 2, constantValue := 0 }, { name := "DEGREES_TO_RADIANS", type := .double, accessFlags := 26, slot := 3, constantValue := 0 }, { name := "RADIANS_TO_DEGREES", type := .double, accessFlags := 26, slot := 4, constantValue := 0 }, { name := "negativeZeroFloatBits", type := .long, accessFlags := 26, slot := 5, constantValue := 0 }, { name := "negativeZeroDoubleBits", type := .long, accessFlags := 26, slot := 6, constantValue := 0 }, { name := "twoToTheDoubleScaleUp", type := .double, accessFlags := 8, slot := 7, constantValue := 0 }, { name := "twoToTheDoubleScaleDown", type := .double, accessFlags := 8, slot := 8, constantValue := 0 }, { name := "$assertionsDisabled", type := .boolean, accessFlags := 4120, slot := 9, constantValue := 0 }]
  methods := #[k10m0, k10m1, k10m2, k10m3]
  instanceTypes := #[]
  staticTypes := #[.double, .double, .double, .double, .double, .long, .long, .double, .double, .boolean]
  resolved := Array.replicate 460 none
  statics := none }

def pool11 : Array CpInfo := pool [(2, .class_ 4), (1, u "java/lang/Object"), (0, u "<init>"), (0, u "()V"), (7, .class_ 16), (1, u "java/util/Arrays"), (57, .class_ 76), (1, u "java/util/Arrays$NaturalOrder"), (36, .class_ 115), (1, u "java/util/Arrays$LegacyMergeSort"), (1, u "Z"), (32, .methodref 151 152), (0, .class_ 153), (0, .nameAndType 154 155), (0, u "java/lang/System"), (0, u "arraycopy"), (0, u "(Ljava/lang/Object;ILjava/lang/Object;II)V"), (146, u "copyOf"), (1, .methodref 305 306), (0, .class_ 307), (0, .nameAndType 308 309), (0, u "java/lang/Math"), (0, u "min"), (0, u "(II)I"), (65, .class_ 376), (0, u "java/util/Arrays$ArrayList"), (68, u "$assertionsDisabled"), (269, u "MIN_ARRAY_SORT_GRAN"), (0, u "I"), (2, u "INSERTIONSORT_THRESHOLD"), (120, u "fill"), (4, u "([II)V"), (25, u "([II)[I"), (0, u "([JI)[J"), (102, .class_ 976), (0, u "java/util/Arrays$ArrayItr")] 52

def k11m0 : Method := { name := "<init>", desc := "()V", sig := { parameters := [], returnType := none }, accessFlags := 2, code := none }
def k11c1 : Code := { maxStack := 3, maxLocals := 4, code := jdk_65_method_103_code, exceptionTable := #[], attributes := #[] }
def k11m1 : Method := { name := "fill", desc := "([II)V", sig := { parameters := [(.array .int), .int], returnType := none }, accessFlags := 9, code := some k11c1 }
def k11c2 : Code := { maxStack := 6, maxLocals := 3, code := jdk_65_method_123_code, exceptionTable := #[], attributes := #[] }
def k11m2 : Method := { name := "copyOf", desc := "([II)[I", sig := { parameters := [(.array .int), .int], returnType := some (.array .int) }, accessFlags := 9, code := some k11c2 }
def k11c3 : Code := { maxStack := 6, maxLocals := 3, code := jdk_65_method_124_code, exceptionTable := #[], attributes := #[] }
def k11m3 : Method := { name := "copyOf", desc := "([JI)[J", sig := { parameters := [(.array .long), .int], returnType := some (.array .long) }, accessFlags := 9, code := some k11c3 }
/-- java/util/Arrays -/
def k11 : Class := { plain "java/util/Arrays" (some 0) with
  accessFlags := 49
  interfaces := #[]
  cf := some (fileOf pool11 14 #[.nestMembers #[975, 375, 113, 74]] #[{ accessFlags := 2, nameIndex := 5, descriptorIndex := 6, attributes := #[] }, { accessFlags := 9, nameIndex := 840, descriptorIndex := 845, attributes := #[] }, { accessFlags := 9, nameIndex := 302, descriptorIndex := 871, attributes := #[] }, { accessFlags := 9, nameIndex := 302, descriptorIndex := 872, attributes := #[] }] 49 2 #[] #[{ accessFlags := 26, nameIndex := 715, descriptorIndex := 716, attributes := #[] }, { accessFlags := 26, nameIndex := 719, descriptorIndex := 716, attributes := #[] }, { accessFlags := 4120, nameIndex := 445, descriptorIndex := 117, attributes := #[] }])
  fields := #[{ name := "MIN_ARRAY_SORT_GRAN", type := .int, accessFlags := 26, slot := 0, constantValue := 0 }, { name := "INSERTIONSORT_THRESHOLD", type := .int, accessFlags := 26, slot := 1, constantValue := 0 }, { name := "$assertionsDisabled", type := .boolean, accessFlags := 4120, slot := 2, constantValue := 0 }]
  methods := #[k11m0, k11m1, k11m2, k11m3]
  instanceTypes := #[]
  staticTypes := #[.int, .int, .boolean]
  resolved := Array.replicate 1029 none
  statics := none }

def pool12 : Array CpInfo := pool [(1, .class_ 2), (0, u "java/io/Serializable"), (0, .class_ 4), (0, u "java/lang/Object")] 2

/-- java/io/Serializable -/
def k12 : Class := { plain "java/io/Serializable" (some 0) with
  accessFlags := 1537
  interfaces := #[]
  cf := some (fileOf pool12 1 #[] #[] 1537 3 #[] #[])
  fields := #[]
  methods := #[]
  instanceTypes := #[]
  staticTypes := #[]
  resolved := Array.replicate 7 none
  statics := none }

def pool13 : Array CpInfo := pool [(2, .class_ 4), (1, u "java/lang/Object"), (0, u "<init>"), (0, u "()V"), (1, .class_ 10), (1, u "java/lang/Number"), (2, .class_ 14), (0, u "java/io/Serializable"), (0, u "serialVersionUID"), (0, u "J")] 20

def k13m0 : Method := { name := "<init>", desc := "()V", sig := { parameters := [], returnType := none }, accessFlags := 1, code := none }
/-- java/lang/Number -/
def k13 : Class := { plain "java/lang/Number" (some 0) with
  accessFlags := 1057
  interfaces := #[12]
  cf := some (fileOf pool13 8 #[] #[{ accessFlags := 1, nameIndex := 5, descriptorIndex := 6, attributes := #[] }] 1057 2 #[13] #[{ accessFlags := 26, nameIndex := 15, descriptorIndex := 16, attributes := #[] }])
  fields := #[{ name := "serialVersionUID", type := .long, accessFlags := 26, slot := 0, constantValue := 0 }]
  methods := #[k13m0]
  instanceTypes := #[]
  staticTypes := #[.long]
  resolved := Array.replicate 37 none
  statics := none }

def pool14 : Array CpInfo := pool [(1, .class_ 2), (0, u "java/lang/Comparable"), (0, .class_ 4), (0, u "java/lang/Object")] 7

/-- java/lang/Comparable -/
def k14 : Class := { plain "java/lang/Comparable" (some 0) with
  accessFlags := 1537
  interfaces := #[]
  cf := some (fileOf pool14 1 #[] #[] 1537 3 #[] #[])
  fields := #[]
  methods := #[]
  instanceTypes := #[]
  staticTypes := #[]
  resolved := Array.replicate 12 none
  statics := none }

def pool15 : Array CpInfo := pool [(1, .class_ 2), (0, u "java/lang/constant/Constable"), (0, .class_ 4), (0, u "java/lang/Object")] 6

/-- java/lang/constant/Constable -/
def k15 : Class := { plain "java/lang/constant/Constable" (some 0) with
  accessFlags := 1537
  interfaces := #[]
  cf := some (fileOf pool15 1 #[] #[] 1537 3 #[] #[])
  fields := #[]
  methods := #[]
  instanceTypes := #[]
  staticTypes := #[]
  resolved := Array.replicate 11 none
  statics := none }

def pool16 : Array CpInfo := pool [(1, .class_ 2), (0, u "java/lang/constant/ConstantDesc"), (0, .class_ 4), (0, u "java/lang/Object")] 32

/-- java/lang/constant/ConstantDesc -/
def k16 : Class := { plain "java/lang/constant/ConstantDesc" (some 0) with
  accessFlags := 1537
  interfaces := #[]
  cf := some (fileOf pool16 1 #[] #[] 1537 3 #[] #[])
  fields := #[]
  methods := #[]
  instanceTypes := #[]
  staticTypes := #[]
  resolved := Array.replicate 37 none
  statics := none }

def pool17 : Array CpInfo := pool [(1, .class_ 2), (0, u "java/lang/Integer"), (16, u "digits"), (0, u "[C"), (39, u "(II)I"), (24, u "DigitOnes"), (0, u "[B"), (2, u "DigitTens"), (99, .class_ 190), (0, u "java/lang/Integer$IntegerCache"), (3, u "I"), (8, .class_ 204), (0, u "java/lang/Number"), (2, u "value"), (53, u "compare"), (40, u "TYPE"), (0, u "Ljava/lang/Class;"), (0, .class_ 305), (0, u "java/lang/Comparable"), (0, .class_ 307), (0, u "java/lang/constant/Constable"), (0, .class_ 309), (0, u "java/lang/constant/ConstantDesc"), (0, u "MIN_VALUE"), (1, u "MAX_VALUE"), (3, u "SIZE"), (1, u "BYTES"), (1, u "serialVersionUID"), (0, u "J")] 131

def k17c0 : Code := { maxStack := 2, maxLocals := 2, code := jdk_33_method_40_code, exceptionTable := #[], attributes := #[] }
def k17m0 : Method := { name := "compare", desc := "(II)I", sig := { parameters := [.int, .int], returnType := some .int }, accessFlags := 9, code := some k17c0 }
/-- java/lang/Integer -/
def k17 : Class := { plain "java/lang/Integer" (some 13) with
  accessFlags := 49
  interfaces := #[14, 15, 16]
  cf := some (fileOf pool17 1 #[.nestMembers #[189]] #[{ accessFlags := 9, nameIndex := 261, descriptorIndex := 60, attributes := #[] }] 49 203 #[304, 306, 308] #[{ accessFlags := 25, nameIndex := 310, descriptorIndex := 194, attributes := #[] }, { accessFlags := 25, nameIndex := 312, descriptorIndex := 194, attributes := #[] }, { accessFlags := 25, nameIndex := 302, descriptorIndex := 303, attributes := #[] }, { accessFlags := 24, nameIndex := 19, descriptorIndex := 20, attributes := #[] }, { accessFlags := 24, nameIndex := 89, descriptorIndex := 86, attributes := #[] }, { accessFlags := 24, nameIndex := 85, descriptorIndex := 86, attributes := #[] }, { accessFlags := 18, nameIndex := 207, descriptorIndex := 194, attributes := #[] }, { accessFlags := 25, nameIndex := 316, descriptorIndex := 194, attributes := #[] }, { accessFlags := 25, nameIndex := 318, descriptorIndex := 194, attributes := #[] }, { accessFlags := 26, nameIndex := 320, descriptorIndex := 321, attributes := #[] }])
  fields := #[{ name := "MIN_VALUE", type := .int, accessFlags := 25, slot := 0, constantValue := 0 }, { name := "MAX_VALUE", type := .int, accessFlags := 25, slot := 1, constantValue := 0 }, { name := "TYPE", type := (.object "java/lang/Class"), accessFlags := 25, slot := 2, constantValue := 0 }, { name := "digits", type := (.array .char), accessFlags := 24, slot := 3, constantValue := 0 }, { name := "DigitTens", type := (.array .byte), accessFlags := 24, slot := 4, constantValue := 0 }, { name := "DigitOnes", type := (.array .byte), accessFlags := 24, slot := 5, constantValue := 0 }, { name := "value", type := .int, accessFlags := 18, slot := 0, constantValue := 0 }, { name := "SIZE", type := .int, accessFlags := 25, slot := 6, constantValue := 0 }, { name := "BYTES", type := .int, accessFlags := 25, slot := 7, constantValue := 0 }, { name := "serialVersionUID", type := .long, accessFlags := 26, slot := 8, constantValue := 0 }]
  methods := #[k17m0]
  instanceTypes := #[.int]
  staticTypes := #[.int, .int, (.object "java/lang/Class"), (.array .char), (.array .byte), (.array .byte), .int, .int, .long]
  resolved := Array.replicate 453 none
  statics := none }

def pool18 : Array CpInfo := pool [(1, .class_ 2), (0, u "java/lang/Long"), (165, .long 9223372036854775808), (66, .class_ 237), (1, u "java/lang/Long$LongCache"), (33, .class_ 272), (0, u "java/lang/Number"), (2, u "value"), (0, u "J"), (25, .methodref 1 303), (0, .nameAndType 304 305), (0, u "compare"), (0, u "(JJ)I"), (55, u "TYPE"), (0, u "Ljava/lang/Class;"), (0, .class_ 364), (0, u "java/lang/Comparable"), (0, .class_ 366), (0, u "java/lang/constant/Constable"), (0, .class_ 368), (0, u "java/lang/constant/ConstantDesc"), (0, u "MIN_VALUE"), (1, u "MAX_VALUE"), (4, u "SIZE"), (0, u "I"), (1, u "BYTES"), (1, u "serialVersionUID"), (87, u "compareUnsigned")] 54

def k18c0 : Code := { maxStack := 4, maxLocals := 4, code := jdk_35_method_42_code, exceptionTable := #[], attributes := #[] }
def k18m0 : Method := { name := "compare", desc := "(JJ)I", sig := { parameters := [.long, .long], returnType := some .int }, accessFlags := 9, code := some k18c0 }
def k18c1 : Code := { maxStack := 6, maxLocals := 4, code := jdk_35_method_43_code, exceptionTable := #[], attributes := #[] }
def k18m1 : Method := { name := "compareUnsigned", desc := "(JJ)I", sig := { parameters := [.long, .long], returnType := some .int }, accessFlags := 9, code := some k18c1 }
/-- java/lang/Long -/
def k18 : Class := { plain "java/lang/Long" (some 13) with
  accessFlags := 49
  interfaces := #[14, 15, 16]
  cf := some (fileOf pool18 1 #[.nestMembers #[235]] #[{ accessFlags := 9, nameIndex := 304, descriptorIndex := 305, attributes := #[] }, { accessFlags := 9, nameIndex := 469, descriptorIndex := 305, attributes := #[] }] 49 271 #[363, 365, 367] #[{ accessFlags := 25, nameIndex := 369, descriptorIndex := 276, attributes := #[] }, { accessFlags := 25, nameIndex := 371, descriptorIndex := 276, attributes := #[] }, { accessFlags := 25, nameIndex := 361, descriptorIndex := 362, attributes := #[] }, { accessFlags := 18, nameIndex := 275, descriptorIndex := 276, attributes := #[] }, { accessFlags := 25, nameIndex := 376, descriptorIndex := 377, attributes := #[] }, { accessFlags := 25, nameIndex := 379, descriptorIndex := 377, attributes := #[] }, { accessFlags := 26, nameIndex := 381, descriptorIndex := 276, attributes := #[] }])
  fields := #[{ name := "MIN_VALUE", type := .long, accessFlags := 25, slot := 0, constantValue := 0 }, { name := "MAX_VALUE", type := .long, accessFlags := 25, slot := 1, constantValue := 0 }, { name := "TYPE", type := (.object "java/lang/Class"), accessFlags := 25, slot := 2, constantValue := 0 }, { name := "value", type := .long, accessFlags := 18, slot := 0, constantValue := 0 }, { name := "SIZE", type := .int, accessFlags := 25, slot := 3, constantValue := 0 }, { name := "BYTES", type := .int, accessFlags := 25, slot := 4, constantValue := 0 }, { name := "serialVersionUID", type := .long, accessFlags := 26, slot := 5, constantValue := 0 }]
  methods := #[k18m0, k18m1]
  instanceTypes := #[.long]
  staticTypes := #[.long, .long, (.object "java/lang/Class"), .int, .int, .long]
  resolved := Array.replicate 524 none
  statics := none }

def pool19 : Array CpInfo := pool [(1, u "java/lang/Cloneable"), (0, .class_ 1), (0, u "java/lang/Object"), (0, .class_ 3)] 3

/-- java/lang/Cloneable -/
def k19 : Class := { plain "java/lang/Cloneable" (some 0) with
  accessFlags := 1537
  interfaces := #[]
  cf := some (fileOf pool19 2 #[] #[] 1537 4 #[] #[])
  fields := #[]
  methods := #[]
  instanceTypes := #[]
  staticTypes := #[]
  resolved := Array.replicate 8 none
  statics := none }

/-- the primitive byte -/
def k20 : Class := { plain "byte" none with kind := .primitive 'B', accessFlags := 0x411 }
/-- [B -/
def k21 : Class := { plain "[B" (some 0) with kind := .array 20 .byte, interfaces := #[19, 12], accessFlags := 1041 }

/-- the primitive int -/
def k22 : Class := { plain "int" none with kind := .primitive 'I', accessFlags := 0x411 }
/-- [I -/
def k23 : Class := { plain "[I" (some 0) with kind := .array 22 .int, interfaces := #[19, 12], accessFlags := 1041 }

/-- the primitive long -/
def k24 : Class := { plain "long" none with kind := .primitive 'J', accessFlags := 0x411 }
/-- [J -/
def k25 : Class := { plain "[J" (some 0) with kind := .array 24 .long, interfaces := #[19, 12], accessFlags := 1041 }

def heap : Heap := #[{ cls := 9, slots := #[.int 0, .int 0, .int 0, .int 0, .int 0, .int 0, .int 0, .int 0, .ref 1], vm := .statics 9 },
  { cls := 23, slots := #[], vm := .none }]
def classes : Array Class := #[k0, k1, k2, k3, k4, k5, k6, k7, k8, k9, k10, k11, k12, k13, k14, k15, k16, k17, k18, k19, k20, k21, k22, k23, k24, k25]
def interned : List (Array UInt16 × Addr) := []
def slotsUsed : Nat := 9
def theMethod : MethodId := ⟨1, 3⟩
def args0 : Array Value := #[.int 1, .int 2, .long 100000, .long 5, .long 6, .int 7]
def aboutOver (below : List Frame) : State where
  vm := { classes := classes, interned := interned.toArray }
  heap := heap
  slotsUsed := slotsUsed
  threads := #[{ frames := .invoking theMethod args0 :: below }]
def below0 : List Frame := [.native { method := ⟨0, 0⟩, args := #[] }]
def about1 : State := aboutOver below0
def p0 : Program := .bare "" "" ""
def e0 : Env := launch0.env 0 0 0
theorem w_frames : about1.frames = Frame.invoking theMethod args0 :: below0 := rfl
set_option maxRecDepth 65536 in
theorem w_args : argsFit about1.vm theMethod args0 = true := by decide +kernel
set_option maxRecDepth 65536 in
theorem w_heap : heapFits about1 = true := by decide +kernel
set_option maxRecDepth 65536 in
theorem w_runnable : about1.curStatus? = some .runnable := by decide +kernel
set_option maxRecDepth 65536 in
theorem w_alone : about1.alone = true := by decide +kernel
set_option maxRecDepth 65536 in
theorem w_named : about1.methodNamed? x = some theMethod := by decide +kernel
set_option maxRecDepth 65536 in
theorem w_hears : about1.hears theMethod below0 = true := by decide +kernel
set_option maxRecDepth 65536 in
theorem w_ripe : about1.ripe theMethod args0 below0 = true := by decide +kernel
theorem w_running : about1.status = .running := rfl
set_option maxRecDepth 65536 in
theorem w_room : about1.hasRoom e0.platform room_1 = true :=
  launch0.hasRoom_least _ room_1 (by decide +kernel) (by decide +kernel) (by decide +kernel) (by decide +kernel) (by decide +kernel) (by decide +kernel)
theorem allAtoms_all (ts : List Jvm.Cond) (a : Array Jvm.Value) (st : Jvm.State) : (allAtoms ts).before a st = ts.all (fun c => c.before a st) := by
  induction ts with
  | nil => rfl
  | cons c t ih =>
    show (Jvm.Cond.and c (allAtoms t)).before a st = _
    rw [Jvm.Cond.before_and, ih, List.all_cons]
def words1 : List Jvm.Cond := Jvm.Cond.code x code maxLocals ret :: tables_1
/-- a 'code' word, met by the world's own term for the bytes: nothing is compared byte by byte -/
theorem code_word {y : MethodName} {bytes : ByteArray} {mx : Nat} {rt : Option FieldType} {a : Array Value} {s : State} {m : MethodId} {meth : Method} {c : Code} (h1 : s.methodNamed? y = some m) (h2 : s.vm.method? m = some meth) (h3 : meth.code = some c) (h4 : c.code = bytes)
    (h5 : (c.maxLocals == mx && c.exceptionTable.isEmpty && decide (c.maxStack ≤ mostOperands) && decide (meth.sig.returnType = rt) && !meth.locks && decide (parseMethodDescriptor y.desc = some meth.sig)) = true) : (Jvm.Cond.code y bytes mx rt).before a s = true := by
  simp only [Bool.and_eq_true, beq_iff_eq, Bool.not_eq_true', decide_eq_true_eq] at h5
  obtain ⟨⟨⟨⟨⟨g1, g2⟩, g3⟩, g4⟩, g5⟩, g6⟩ := h5
  simp [Cond.before, Cond.holds, Cond.value, h1, h2, h3, h4, g1, g2, g3, g4, g5, g6]
def isCode : Jvm.Cond → Bool
  | .code _ _ _ _ => true
  | _ => false
theorem all_split {L : List Jvm.Cond} {P : Jvm.Cond → Bool} (h1 : L.all (fun c => isCode c || P c) = true) (h2 : ∀ c ∈ L.filter isCode, P c = true) : L.all P = true := by
  refine List.all_eq_true.mpr fun c hc => ?_
  have h := List.all_eq_true.mp h1 c hc
  rcases Bool.eq_false_or_eq_true (isCode c) with hi | hi
  · exact h2 c (List.mem_filter.mpr ⟨hc, hi⟩)
  · simpa [hi] using h
set_option maxRecDepth 65536 in
theorem w_c0 : (Jvm.Cond.code x code maxLocals ret).before args0 about1 = true := code_word (m := ⟨1, 3⟩) (meth := k1m3) (c := k1c3) (by decide +kernel) rfl rfl rfl (by decide +kernel)
set_option maxRecDepth 65536 in
theorem w_c1 : (Jvm.Cond.code ({ cls := "com/example/runnel/runnel/runtime/RecordBufferMemoryPinLaw", name := "maskOf", desc := "(I)J" } : Jvm.MethodName) method_3_code (1 : Nat) (Option.some Jvm.ClassFile.FieldType.long)).before args0 about1 = true := code_word (m := ⟨1, 2⟩) (meth := k1m2) (c := k1c2) (by decide +kernel) rfl rfl rfl (by decide +kernel)
set_option maxRecDepth 65536 in
theorem w_c2 : (Jvm.Cond.code ({ cls := "com/example/runnel/runnel/runtime/RecordBufferMemoryPinLaw", name := "bytesOf", desc := "(J)[B" } : Jvm.MethodName) method_2_code (3 : Nat) (Option.some (Jvm.ClassFile.FieldType.array Jvm.ClassFile.FieldType.byte))).before args0 about1 = true := code_word (m := ⟨1, 1⟩) (meth := k1m1) (c := k1c1) (by decide +kernel) rfl rfl rfl (by decide +kernel)
set_option maxRecDepth 65536 in
theorem w_c3 : (Jvm.Cond.code ({ cls := "com/example/runnel/runnel/runtime/Bytes", name := "<init>", desc := "(I)V" } : Jvm.MethodName) prog_58_method_1_code (2 : Nat) (Option.none : Option Jvm.ClassFile.FieldType)).before args0 about1 = true := code_word (m := ⟨6, 0⟩) (meth := k6m0) (c := k6c0) (by decide +kernel) rfl rfl rfl (by decide +kernel)
set_option maxRecDepth 65536 in
theorem w_c4 : (Jvm.Cond.code ({ cls := "java/io/OutputStream", name := "<init>", desc := "()V" } : Jvm.MethodName) jdk_2038_method_1_code (1 : Nat) (Option.none : Option Jvm.ClassFile.FieldType)).before args0 about1 = true := code_word (m := ⟨5, 0⟩) (meth := k5m0) (c := k5c0) (by decide +kernel) rfl rfl rfl (by decide +kernel)
set_option maxRecDepth 65536 in
theorem w_c5 : (Jvm.Cond.code ({ cls := "java/lang/Object", name := "<init>", desc := "()V" } : Jvm.MethodName) object_method_1_code (1 : Nat) (Option.none : Option Jvm.ClassFile.FieldType)).before args0 about1 = true := code_word (m := ⟨0, 0⟩) (meth := k0m0) (c := k0c0) (by decide +kernel) rfl rfl rfl (by decide +kernel)
set_option maxRecDepth 65536 in
theorem w_c6 : (Jvm.Cond.code ({ cls := "com/example/runnel/runnel/runtime/Bytes", name := "write", desc := "([BII)V" } : Jvm.MethodName) prog_58_method_8_code (4 : Nat) (Option.none : Option Jvm.ClassFile.FieldType)).before args0 about1 = true := code_word (m := ⟨6, 4⟩) (meth := k6m4) (c := k6c4) (by decide +kernel) rfl rfl rfl (by decide +kernel)
set_option maxRecDepth 65536 in
theorem w_c7 : (Jvm.Cond.code ({ cls := "com/example/runnel/runnel/runtime/Bytes", name := "grow", desc := "(I)V" } : Jvm.MethodName) prog_58_method_12_code (2 : Nat) (Option.none : Option Jvm.ClassFile.FieldType)).before args0 about1 = true := code_word (m := ⟨6, 8⟩) (meth := k6m8) (c := k6c8) (by decide +kernel) rfl rfl rfl (by decide +kernel)
set_option maxRecDepth 65536 in
theorem w_c8 : (Jvm.Cond.code ({ cls := "com/example/runnel/runnel/runtime/RecordBuffer", name := "<init>", desc := "(IJ)V" } : Jvm.MethodName) prog_78_method_1_code (4 : Nat) (Option.none : Option Jvm.ClassFile.FieldType)).before args0 about1 = true := code_word (m := ⟨9, 0⟩) (meth := k9m0) (c := k9c0) (by decide +kernel) rfl rfl rfl (by decide +kernel)
set_option maxRecDepth 65536 in
theorem w_c9 : (Jvm.Cond.code ({ cls := "com/example/runnel/runnel/runtime/RecordBuffer", name := "add", desc := "(IILcom/example/runnel/runnel/runtime/Bytes;Lcom/example/runnel/runnel/runtime/Bytes;)Z" } : Jvm.MethodName) prog_78_method_4_code (14 : Nat) (Option.some Jvm.ClassFile.FieldType.boolean)).before args0 about1 = true := code_word (m := ⟨9, 2⟩) (meth := k9m2) (c := k9c2) (by decide +kernel) rfl rfl rfl (by decide +kernel)
set_option maxRecDepth 65536 in
theorem w_c10 : (Jvm.Cond.code ({ cls := "com/example/runnel/runnel/runtime/RecordBuffer", name := "find", desc := "(ILcom/example/runnel/runnel/runtime/Bytes;)I" } : Jvm.MethodName) prog_78_method_10_code (4 : Nat) (Option.some Jvm.ClassFile.FieldType.int)).before args0 about1 = true := code_word (m := ⟨9, 6⟩) (meth := k9m6) (c := k9c6) (by decide +kernel) rfl rfl rfl (by decide +kernel)
set_option maxRecDepth 65536 in
theorem w_c11 : (Jvm.Cond.code ({ cls := "com/example/runnel/runnel/runtime/RecordBuffer", name := "slotOf", desc := "(ILcom/example/runnel/runnel/runtime/Bytes;)I" } : Jvm.MethodName) prog_78_method_11_code (5 : Nat) (Option.some Jvm.ClassFile.FieldType.int)).before args0 about1 = true := code_word (m := ⟨9, 7⟩) (meth := k9m7) (c := k9c7) (by decide +kernel) rfl rfl rfl (by decide +kernel)
set_option maxRecDepth 65536 in
theorem w_c12 : (Jvm.Cond.code ({ cls := "com/example/runnel/runnel/runtime/Bytes", name := "size", desc := "()I" } : Jvm.MethodName) prog_58_method_3_code (1 : Nat) (Option.some Jvm.ClassFile.FieldType.int)).before args0 about1 = true := code_word (m := ⟨6, 2⟩) (meth := k6m2) (c := k6c2) (by decide +kernel) rfl rfl rfl (by decide +kernel)
set_option maxRecDepth 65536 in
theorem w_c13 : (Jvm.Cond.code ({ cls := "java/lang/Math", name := "addExact", desc := "(II)I" } : Jvm.MethodName) jdk_29_method_24_code (3 : Nat) (Option.some Jvm.ClassFile.FieldType.int)).before args0 about1 = true := code_word (m := ⟨10, 1⟩) (meth := k10m1) (c := k10c1) (by decide +kernel) rfl rfl rfl (by decide +kernel)
set_option maxRecDepth 65536 in
theorem w_c14 : (Jvm.Cond.code ({ cls := "java/lang/Math", name := "max", desc := "(II)I" } : Jvm.MethodName) jdk_29_method_65_code (2 : Nat) (Option.some Jvm.ClassFile.FieldType.int)).before args0 about1 = true := code_word (m := ⟨10, 2⟩) (meth := k10m2) (c := k10c2) (by decide +kernel) rfl rfl rfl (by decide +kernel)
set_option maxRecDepth 65536 in
theorem w_c15 : (Jvm.Cond.code ({ cls := "com/example/runnel/runnel/runtime/RecordBuffer", name := "fixedMemory", desc := "()J" } : Jvm.MethodName) prog_78_method_9_code (1 : Nat) (Option.some Jvm.ClassFile.FieldType.long)).before args0 about1 = true := code_word (m := ⟨9, 5⟩) (meth := k9m5) (c := k9c5) (by decide +kernel) rfl rfl rfl (by decide +kernel)
set_option maxRecDepth 65536 in
theorem w_c16 : (Jvm.Cond.code ({ cls := "com/example/runnel/runnel/runtime/Bytes", name := "capacity", desc := "()I" } : Jvm.MethodName) prog_58_method_4_code (1 : Nat) (Option.some Jvm.ClassFile.FieldType.int)).before args0 about1 = true := code_word (m := ⟨6, 3⟩) (meth := k6m3) (c := k6c3) (by decide +kernel) rfl rfl rfl (by decide +kernel)
set_option maxRecDepth 65536 in
theorem w_c17 : (Jvm.Cond.code ({ cls := "com/example/runnel/runnel/runtime/Bytes", name := "array", desc := "()[B" } : Jvm.MethodName) prog_58_method_2_code (1 : Nat) (Option.some (Jvm.ClassFile.FieldType.array Jvm.ClassFile.FieldType.byte))).before args0 about1 = true := code_word (m := ⟨6, 1⟩) (meth := k6m1) (c := k6c1) (by decide +kernel) rfl rfl rfl (by decide +kernel)
set_option maxRecDepth 65536 in
theorem w_c18 : (Jvm.Cond.code ({ cls := "com/example/runnel/runnel/runtime/Bytes", name := "prefixOf", desc := "([BII)J" } : Jvm.MethodName) prog_58_method_10_code (6 : Nat) (Option.some Jvm.ClassFile.FieldType.long)).before args0 about1 = true := code_word (m := ⟨6, 6⟩) (meth := k6m6) (c := k6c6) (by decide +kernel) rfl rfl rfl (by decide +kernel)
set_option maxRecDepth 65536 in
theorem w_c19 : (Jvm.Cond.code ({ cls := "com/example/runnel/runnel/runtime/RecordBuffer", name := "memory", desc := "()J" } : Jvm.MethodName) prog_78_method_3_code (3 : Nat) (Option.some Jvm.ClassFile.FieldType.long)).before args0 about1 = true := code_word (m := ⟨9, 1⟩) (meth := k9m1) (c := k9c1) (by decide +kernel) rfl rfl rfl (by decide +kernel)
set_option maxRecDepth 65536 in
theorem w_c20 : (Jvm.Cond.code ({ cls := "com/example/runnel/runnel/runtime/RecordBuffer", name := "trim", desc := "()V" } : Jvm.MethodName) prog_78_method_6_code (2 : Nat) (Option.none : Option Jvm.ClassFile.FieldType)).before args0 about1 = true := code_word (m := ⟨9, 4⟩) (meth := k9m4) (c := k9c4) (by decide +kernel) rfl rfl rfl (by decide +kernel)
set_option maxRecDepth 65536 in
theorem w_c21 : (Jvm.Cond.code ({ cls := "com/example/runnel/runnel/runtime/RecordBuffer", name := "growRecords", desc := "(I)V" } : Jvm.MethodName) prog_78_method_13_code (2 : Nat) (Option.none : Option Jvm.ClassFile.FieldType)).before args0 about1 = true := code_word (m := ⟨9, 9⟩) (meth := k9m9) (c := k9c9) (by decide +kernel) rfl rfl rfl (by decide +kernel)
set_option maxRecDepth 65536 in
theorem w_c22 : (Jvm.Cond.code ({ cls := "java/util/Arrays", name := "copyOf", desc := "([II)[I" } : Jvm.MethodName) jdk_65_method_123_code (3 : Nat) (Option.some (Jvm.ClassFile.FieldType.array Jvm.ClassFile.FieldType.int))).before args0 about1 = true := code_word (m := ⟨11, 2⟩) (meth := k11m2) (c := k11c2) (by decide +kernel) rfl rfl rfl (by decide +kernel)
set_option maxRecDepth 65536 in
theorem w_c23 : (Jvm.Cond.code ({ cls := "java/lang/Math", name := "min", desc := "(II)I" } : Jvm.MethodName) jdk_29_method_69_code (2 : Nat) (Option.some Jvm.ClassFile.FieldType.int)).before args0 about1 = true := code_word (m := ⟨10, 3⟩) (meth := k10m3) (c := k10c3) (by decide +kernel) rfl rfl rfl (by decide +kernel)
set_option maxRecDepth 65536 in
theorem w_c24 : (Jvm.Cond.code ({ cls := "java/util/Arrays", name := "copyOf", desc := "([JI)[J" } : Jvm.MethodName) jdk_65_method_124_code (3 : Nat) (Option.some (Jvm.ClassFile.FieldType.array Jvm.ClassFile.FieldType.long))).before args0 about1 = true := code_word (m := ⟨11, 3⟩) (meth := k11m3) (c := k11c3) (by decide +kernel) rfl rfl rfl (by decide +kernel)
set_option maxRecDepth 65536 in
theorem w_c25 : (Jvm.Cond.code ({ cls := "com/example/runnel/runnel/runtime/RecordBuffer", name := "isKey", desc := "(IILcom/example/runnel/runnel/runtime/Bytes;)Z" } : Jvm.MethodName) prog_78_method_12_code (4 : Nat) (Option.some Jvm.ClassFile.FieldType.boolean)).before args0 about1 = true := code_word (m := ⟨9, 8⟩) (meth := k9m8) (c := k9c8) (by decide +kernel) rfl rfl rfl (by decide +kernel)
set_option maxRecDepth 65536 in
theorem w_c26 : (Jvm.Cond.code ({ cls := "com/example/runnel/runnel/runtime/Bytes", name := "compare", desc := "([BII[BII)I" } : Jvm.MethodName) prog_58_method_9_code (9 : Nat) (Option.some Jvm.ClassFile.FieldType.int)).before args0 about1 = true := code_word (m := ⟨6, 5⟩) (meth := k6m5) (c := k6c5) (by decide +kernel) rfl rfl rfl (by decide +kernel)
set_option maxRecDepth 65536 in
theorem w_c27 : (Jvm.Cond.code ({ cls := "java/lang/Integer", name := "compare", desc := "(II)I" } : Jvm.MethodName) jdk_33_method_40_code (2 : Nat) (Option.some Jvm.ClassFile.FieldType.int)).before args0 about1 = true := code_word (m := ⟨17, 0⟩) (meth := k17m0) (c := k17c0) (by decide +kernel) rfl rfl rfl (by decide +kernel)
set_option maxRecDepth 65536 in
theorem w_c28 : (Jvm.Cond.code ({ cls := "com/example/runnel/runnel/runtime/RecordBuffer", name := "sort", desc := "()V" } : Jvm.MethodName) prog_78_method_5_code (4 : Nat) (Option.none : Option Jvm.ClassFile.FieldType)).before args0 about1 = true := code_word (m := ⟨9, 3⟩) (meth := k9m3) (c := k9c3) (by decide +kernel) rfl rfl rfl (by decide +kernel)
set_option maxRecDepth 65536 in
theorem w_c29 : (Jvm.Cond.code ({ cls := "java/util/Arrays", name := "fill", desc := "([II)V" } : Jvm.MethodName) jdk_65_method_103_code (4 : Nat) (Option.none : Option Jvm.ClassFile.FieldType)).before args0 about1 = true := code_word (m := ⟨11, 1⟩) (meth := k11m1) (c := k11c1) (by decide +kernel) rfl rfl rfl (by decide +kernel)
set_option maxRecDepth 65536 in
theorem w_c30 : (Jvm.Cond.code ({ cls := "com/example/runnel/runnel/runtime/RecordBuffer", name := "sortValues", desc := "(I[I)V" } : Jvm.MethodName) prog_78_method_16_code (4 : Nat) (Option.none : Option Jvm.ClassFile.FieldType)).before args0 about1 = true := code_word (m := ⟨9, 11⟩) (meth := k9m11) (c := k9c11) (by decide +kernel) rfl rfl rfl (by decide +kernel)
set_option maxRecDepth 65536 in
theorem w_c31 : (Jvm.Cond.code ({ cls := "com/example/runnel/runnel/runtime/RecordBuffer", name := "sort", desc := "([I[III)V" } : Jvm.MethodName) prog_78_method_15_code (8 : Nat) (Option.none : Option Jvm.ClassFile.FieldType)).before args0 about1 = true := code_word (m := ⟨9, 10⟩) (meth := k9m10) (c := k9c10) (by decide +kernel) rfl rfl rfl (by decide +kernel)
set_option maxRecDepth 65536 in
theorem w_c32 : (Jvm.Cond.code ({ cls := "com/example/runnel/runnel/runtime/RecordBuffer", name := "compareValues", desc := "(II)I" } : Jvm.MethodName) prog_78_method_19_code (4 : Nat) (Option.some Jvm.ClassFile.FieldType.int)).before args0 about1 = true := code_word (m := ⟨9, 12⟩) (meth := k9m12) (c := k9c12) (by decide +kernel) rfl rfl rfl (by decide +kernel)
set_option maxRecDepth 65536 in
theorem w_c33 : (Jvm.Cond.code ({ cls := "com/example/runnel/runnel/runtime/RecordBuffer", name := "compare", desc := "(II)I" } : Jvm.MethodName) prog_78_method_21_code (5 : Nat) (Option.some Jvm.ClassFile.FieldType.int)).before args0 about1 = true := code_word (m := ⟨9, 13⟩) (meth := k9m13) (c := k9c13) (by decide +kernel) rfl rfl rfl (by decide +kernel)
set_option maxRecDepth 65536 in
theorem w_c34 : (Jvm.Cond.code ({ cls := "com/example/runnel/runnel/runtime/Bytes", name := "compareKeys", desc := "(J[BIIJ[BII)I" } : Jvm.MethodName) prog_58_method_11_code (11 : Nat) (Option.some Jvm.ClassFile.FieldType.int)).before args0 about1 = true := code_word (m := ⟨6, 7⟩) (meth := k6m7) (c := k6c7) (by decide +kernel) rfl rfl rfl (by decide +kernel)
set_option maxRecDepth 65536 in
theorem w_c35 : (Jvm.Cond.code ({ cls := "java/lang/Long", name := "compareUnsigned", desc := "(JJ)I" } : Jvm.MethodName) jdk_35_method_43_code (4 : Nat) (Option.some Jvm.ClassFile.FieldType.int)).before args0 about1 = true := code_word (m := ⟨18, 1⟩) (meth := k18m1) (c := k18c1) (by decide +kernel) rfl rfl rfl (by decide +kernel)
set_option maxRecDepth 65536 in
theorem w_c36 : (Jvm.Cond.code ({ cls := "java/lang/Long", name := "compare", desc := "(JJ)I" } : Jvm.MethodName) jdk_35_method_42_code (4 : Nat) (Option.some Jvm.ClassFile.FieldType.int)).before args0 about1 = true := code_word (m := ⟨18, 0⟩) (meth := k18m0) (c := k18c0) (by decide +kernel) rfl rfl rfl (by decide +kernel)
def codes1 : List Jvm.Cond := [Jvm.Cond.code x code maxLocals ret, Jvm.Cond.code ({ cls := "com/example/runnel/runnel/runtime/RecordBufferMemoryPinLaw", name := "maskOf", desc := "(I)J" } : Jvm.MethodName) method_3_code (1 : Nat) (Option.some Jvm.ClassFile.FieldType.long), Jvm.Cond.code ({ cls := "com/example/runnel/runnel/runtime/RecordBufferMemoryPinLaw", name := "bytesOf", desc := "(J)[B" } : Jvm.MethodName) method_2_code (3 : Nat) (Option.some (Jvm.ClassFile.FieldType.array Jvm.ClassFile.FieldType.byte)), Jvm.Cond.code ({ cls := "com/example/runnel/runnel/runtime/Bytes", name := "<init>", desc := "(I)V" } : Jvm.MethodName) prog_58_method_1_code (2 : Nat) (Option.none : Option Jvm.ClassFile.FieldType), Jvm.Cond.code ({ cls := "java/io/OutputStream", name := "<init>", desc := "()V" } : Jvm.MethodName) jdk_2038_method_1_code (1 : Nat) (Option.none : Option Jvm.ClassFile.FieldType), Jvm.Cond.code ({ cls := "java/lang/Object", name := "<init>", desc := "()V" } : Jvm.MethodName) object_method_1_code (1 : Nat) (Option.none : Option Jvm.ClassFile.FieldType), Jvm.Cond.code ({ cls := "com/example/runnel/runnel/runtime/Bytes", name := "write", desc := "([BII)V" } : Jvm.MethodName) prog_58_method_8_code (4 : Nat) (Option.none : Option Jvm.ClassFile.FieldType), Jvm.Cond.code ({ cls := "com/example/runnel/runnel/runtime/Bytes", name := "grow", desc := "(I)V" } : Jvm.MethodName) prog_58_method_12_code (2 : Nat) (Option.none : Option Jvm.ClassFile.FieldType), Jvm.Cond.code ({ cls := "com/example/runnel/runnel/runtime/RecordBuffer", name := "<init>", desc := "(IJ)V" } : Jvm.MethodName) prog_78_method_1_code (4 : Nat) (Option.none : Option Jvm.ClassFile.FieldType), Jvm.Cond.code ({ cls := "com/example/runnel/runnel/runtime/RecordBuffer", name := "add", desc := "(IILcom/example/runnel/runnel/runtime/Bytes;Lcom/example/runnel/runnel/runtime/Bytes;)Z" } : Jvm.MethodName) prog_78_method_4_code (14 : Nat) (Option.some Jvm.ClassFile.FieldType.boolean), Jvm.Cond.code ({ cls := "com/example/runnel/runnel/runtime/RecordBuffer", name := "find", desc := "(ILcom/example/runnel/runnel/runtime/Bytes;)I" } : Jvm.MethodName) prog_78_method_10_code (4 : Nat) (Option.some Jvm.ClassFile.FieldType.int), Jvm.Cond.code ({ cls := "com/example/runnel/runnel/runtime/RecordBuffer", name := "slotOf", desc := "(ILcom/example/runnel/runnel/runtime/Bytes;)I" } : Jvm.MethodName) prog_78_method_11_code (5 : Nat) (Option.some Jvm.ClassFile.FieldType.int), Jvm.Cond.code ({ cls := "com/example/runnel/runnel/runtime/Bytes", name := "size", desc := "()I" } : Jvm.MethodName) prog_58_method_3_code (1 : Nat) (Option.some Jvm.ClassFile.FieldType.int), Jvm.Cond.code ({ cls := "java/lang/Math", name := "addExact", desc := "(II)I" } : Jvm.MethodName) jdk_29_method_24_code (3 : Nat) (Option.some Jvm.ClassFile.FieldType.int), Jvm.Cond.code ({ cls := "java/lang/Math", name := "max", desc := "(II)I" } : Jvm.MethodName) jdk_29_method_65_code (2 : Nat) (Option.some Jvm.ClassFile.FieldType.int), Jvm.Cond.code ({ cls := "com/example/runnel/runnel/runtime/RecordBuffer", name := "fixedMemory", desc := "()J" } : Jvm.MethodName) prog_78_method_9_code (1 : Nat) (Option.some Jvm.ClassFile.FieldType.long), Jvm.Cond.code ({ cls := "com/example/runnel/runnel/runtime/Bytes", name := "capacity", desc := "()I" } : Jvm.MethodName) prog_58_method_4_code (1 : Nat) (Option.some Jvm.ClassFile.FieldType.int), Jvm.Cond.code ({ cls := "com/example/runnel/runnel/runtime/Bytes", name := "array", desc := "()[B" } : Jvm.MethodName) prog_58_method_2_code (1 : Nat) (Option.some (Jvm.ClassFile.FieldType.array Jvm.ClassFile.FieldType.byte)), Jvm.Cond.code ({ cls := "com/example/runnel/runnel/runtime/Bytes", name := "prefixOf", desc := "([BII)J" } : Jvm.MethodName) prog_58_method_10_code (6 : Nat) (Option.some Jvm.ClassFile.FieldType.long), Jvm.Cond.code ({ cls := "com/example/runnel/runnel/runtime/RecordBuffer", name := "memory", desc := "()J" } : Jvm.MethodName) prog_78_method_3_code (3 : Nat) (Option.some Jvm.ClassFile.FieldType.long), Jvm.Cond.code ({ cls := "com/example/runnel/runnel/runtime/RecordBuffer", name := "trim", desc := "()V" } : Jvm.MethodName) prog_78_method_6_code (2 : Nat) (Option.none : Option Jvm.ClassFile.FieldType), Jvm.Cond.code ({ cls := "com/example/runnel/runnel/runtime/RecordBuffer", name := "growRecords", desc := "(I)V" } : Jvm.MethodName) prog_78_method_13_code (2 : Nat) (Option.none : Option Jvm.ClassFile.FieldType), Jvm.Cond.code ({ cls := "java/util/Arrays", name := "copyOf", desc := "([II)[I" } : Jvm.MethodName) jdk_65_method_123_code (3 : Nat) (Option.some (Jvm.ClassFile.FieldType.array Jvm.ClassFile.FieldType.int)), Jvm.Cond.code ({ cls := "java/lang/Math", name := "min", desc := "(II)I" } : Jvm.MethodName) jdk_29_method_69_code (2 : Nat) (Option.some Jvm.ClassFile.FieldType.int), Jvm.Cond.code ({ cls := "java/util/Arrays", name := "copyOf", desc := "([JI)[J" } : Jvm.MethodName) jdk_65_method_124_code (3 : Nat) (Option.some (Jvm.ClassFile.FieldType.array Jvm.ClassFile.FieldType.long)), Jvm.Cond.code ({ cls := "com/example/runnel/runnel/runtime/RecordBuffer", name := "isKey", desc := "(IILcom/example/runnel/runnel/runtime/Bytes;)Z" } : Jvm.MethodName) prog_78_method_12_code (4 : Nat) (Option.some Jvm.ClassFile.FieldType.boolean), Jvm.Cond.code ({ cls := "com/example/runnel/runnel/runtime/Bytes", name := "compare", desc := "([BII[BII)I" } : Jvm.MethodName) prog_58_method_9_code (9 : Nat) (Option.some Jvm.ClassFile.FieldType.int), Jvm.Cond.code ({ cls := "java/lang/Integer", name := "compare", desc := "(II)I" } : Jvm.MethodName) jdk_33_method_40_code (2 : Nat) (Option.some Jvm.ClassFile.FieldType.int), Jvm.Cond.code ({ cls := "com/example/runnel/runnel/runtime/RecordBuffer", name := "sort", desc := "()V" } : Jvm.MethodName) prog_78_method_5_code (4 : Nat) (Option.none : Option Jvm.ClassFile.FieldType), Jvm.Cond.code ({ cls := "java/util/Arrays", name := "fill", desc := "([II)V" } : Jvm.MethodName) jdk_65_method_103_code (4 : Nat) (Option.none : Option Jvm.ClassFile.FieldType), Jvm.Cond.code ({ cls := "com/example/runnel/runnel/runtime/RecordBuffer", name := "sortValues", desc := "(I[I)V" } : Jvm.MethodName) prog_78_method_16_code (4 : Nat) (Option.none : Option Jvm.ClassFile.FieldType), Jvm.Cond.code ({ cls := "com/example/runnel/runnel/runtime/RecordBuffer", name := "sort", desc := "([I[III)V" } : Jvm.MethodName) prog_78_method_15_code (8 : Nat) (Option.none : Option Jvm.ClassFile.FieldType), Jvm.Cond.code ({ cls := "com/example/runnel/runnel/runtime/RecordBuffer", name := "compareValues", desc := "(II)I" } : Jvm.MethodName) prog_78_method_19_code (4 : Nat) (Option.some Jvm.ClassFile.FieldType.int), Jvm.Cond.code ({ cls := "com/example/runnel/runnel/runtime/RecordBuffer", name := "compare", desc := "(II)I" } : Jvm.MethodName) prog_78_method_21_code (5 : Nat) (Option.some Jvm.ClassFile.FieldType.int), Jvm.Cond.code ({ cls := "com/example/runnel/runnel/runtime/Bytes", name := "compareKeys", desc := "(J[BIIJ[BII)I" } : Jvm.MethodName) prog_58_method_11_code (11 : Nat) (Option.some Jvm.ClassFile.FieldType.int), Jvm.Cond.code ({ cls := "java/lang/Long", name := "compareUnsigned", desc := "(JJ)I" } : Jvm.MethodName) jdk_35_method_43_code (4 : Nat) (Option.some Jvm.ClassFile.FieldType.int), Jvm.Cond.code ({ cls := "java/lang/Long", name := "compare", desc := "(JJ)I" } : Jvm.MethodName) jdk_35_method_42_code (4 : Nat) (Option.some Jvm.ClassFile.FieldType.int)]
set_option maxRecDepth 65536 in
theorem codes_eq : words1.filter isCode = codes1 := rfl
theorem w_codes : ∀ c ∈ words1.filter isCode, c.before args0 about1 = true := by
  rw [codes_eq]
  intro c hc
  simp only [codes1, List.mem_cons, List.not_mem_nil, or_false] at hc
  rcases hc with rfl | rfl | rfl | rfl | rfl | rfl | rfl | rfl | rfl | rfl | rfl | rfl | rfl | rfl | rfl | rfl | rfl | rfl | rfl | rfl | rfl | rfl | rfl | rfl | rfl | rfl | rfl | rfl | rfl | rfl | rfl | rfl | rfl | rfl | rfl | rfl | rfl
  · exact w_c0
  · exact w_c1
  · exact w_c2
  · exact w_c3
  · exact w_c4
  · exact w_c5
  · exact w_c6
  · exact w_c7
  · exact w_c8
  · exact w_c9
  · exact w_c10
  · exact w_c11
  · exact w_c12
  · exact w_c13
  · exact w_c14
  · exact w_c15
  · exact w_c16
  · exact w_c17
  · exact w_c18
  · exact w_c19
  · exact w_c20
  · exact w_c21
  · exact w_c22
  · exact w_c23
  · exact w_c24
  · exact w_c25
  · exact w_c26
  · exact w_c27
  · exact w_c28
  · exact w_c29
  · exact w_c30
  · exact w_c31
  · exact w_c32
  · exact w_c33
  · exact w_c34
  · exact w_c35
  · exact w_c36
set_option maxRecDepth 65536 in
theorem w_t1 : (words1.take 24).all (fun c => isCode c || c.before args0 about1) = true := by decide +kernel
set_option maxRecDepth 65536 in
theorem w_t2 : ((words1.drop 24).take 24).all (fun c => isCode c || c.before args0 about1) = true := by decide +kernel
set_option maxRecDepth 65536 in
theorem w_t3 : (((words1.drop 24).drop 24).take 24).all (fun c => isCode c || c.before args0 about1) = true := by decide +kernel
set_option maxRecDepth 65536 in
theorem w_t4 : ((((words1.drop 24).drop 24).drop 24).take 24).all (fun c => isCode c || c.before args0 about1) = true := by decide +kernel
set_option maxRecDepth 65536 in
theorem w_t5 : (((((words1.drop 24).drop 24).drop 24).drop 24).take 24).all (fun c => isCode c || c.before args0 about1) = true := by decide +kernel
set_option maxRecDepth 65536 in
theorem w_t6 : ((((((words1.drop 24).drop 24).drop 24).drop 24).drop 24).take 24).all (fun c => isCode c || c.before args0 about1) = true := by decide +kernel
set_option maxRecDepth 65536 in
theorem w_t7 : (((((((words1.drop 24).drop 24).drop 24).drop 24).drop 24).drop 24).take 24).all (fun c => isCode c || c.before args0 about1) = true := by decide +kernel
set_option maxRecDepth 65536 in
theorem w_t8 : ((((((((words1.drop 24).drop 24).drop 24).drop 24).drop 24).drop 24).drop 24).take 24).all (fun c => isCode c || c.before args0 about1) = true := by decide +kernel
set_option maxRecDepth 65536 in
theorem w_t9 : (((((((((words1.drop 24).drop 24).drop 24).drop 24).drop 24).drop 24).drop 24).drop 24).take 24).all (fun c => isCode c || c.before args0 about1) = true := by decide +kernel
set_option maxRecDepth 65536 in
theorem w_t10 : (((((((((words1.drop 24).drop 24).drop 24).drop 24).drop 24).drop 24).drop 24).drop 24).drop 24).all (fun c => isCode c || c.before args0 about1) = true := by decide +kernel
theorem w_tables : (allAtoms (Jvm.Cond.code x code maxLocals ret :: tables_1)).before args0 about1 = true := by
  rw [allAtoms_all]
  show words1.all (fun c => c.before args0 about1) = true
  refine all_split ?_ w_codes
  rw [← List.take_append_drop 24 words1, List.all_append, w_t1, ← List.take_append_drop 24 (words1.drop 24), List.all_append, w_t2, ← List.take_append_drop 24 ((words1.drop 24).drop 24), List.all_append, w_t3, ← List.take_append_drop 24 (((words1.drop 24).drop 24).drop 24), List.all_append, w_t4, ← List.take_append_drop 24 ((((words1.drop 24).drop 24).drop 24).drop 24), List.all_append, w_t5, ← List.take_append_drop 24 (((((words1.drop 24).drop 24).drop 24).drop 24).drop 24), List.all_append, w_t6, ← List.take_append_drop 24 ((((((words1.drop 24).drop 24).drop 24).drop 24).drop 24).drop 24), List.all_append, w_t7, ← List.take_append_drop 24 (((((((words1.drop 24).drop 24).drop 24).drop 24).drop 24).drop 24).drop 24), List.all_append, w_t8, ← List.take_append_drop 24 ((((((((words1.drop 24).drop 24).drop 24).drop 24).drop 24).drop 24).drop 24).drop 24), List.all_append, w_t9, w_t10]
  rfl
set_option maxRecDepth 65536 in
theorem w_case : (Jvm.Cond.and given_1 narrow_1).before args0 about1 = true := by decide +kernel
theorem w_applies : (headSpec (Jvm.Cond.code x code maxLocals ret :: tables_1) room_1).applies x e0.platform about1 = true :=
  (Spec.applies_iff w_frames).mpr ⟨w_running, w_runnable, w_alone, w_named, w_hears, w_ripe, w_room, w_tables⟩
theorem atStart : AtStart classFile x code maxLocals ret World_1 tables_1 room_1 Calls_1 rest_1 Pre_1 launch0 p0 e0 about1 theMethod args0 below0 :=
  ⟨lists_1, trivial, launch0.admits_env _ _ _, launch0.least_env, fairChoices_fair.cas, fairChoices_fair.clock, w_frames, w_args, w_heap, w_applies, trivial, trivial, w_case⟩
end start1
theorem witness_1 : WitnessClaimed_1 := ⟨start1.p0, start1.e0, start1.about1, start1.theMethod, start1.args0, start1.below0, start1.atStart⟩
end Jvm.Pilot.@@N@@
