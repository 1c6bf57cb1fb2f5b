import JvmDerived
import JvmDerived.Pilot.@@N@@Statement
import JvmDerived.Pilot.@@N@@Code
set_option linter.unusedVariables false
set_option linter.unusedSimpArgs false
namespace Jvm.Pilot.@@N@@
open Jvm Jvm.ClassFile Sem Op Lib Jvm.Free Jvm.Stand Jvm.LawKit Jvm.RoadKit Bundle Jvm.Pilot.@@N@@.Jvm.D
/-! own walk layer: a world of fresh cells, and one lemma per instruction in continuation form -/
abbrev Desc : Type := Cell → Prop
abbrev Wd : Type := List (Addr × Desc)
/-- the heap h holds h0 unchanged and, besides, the described cells (all of them younger than h0) -/
def Wld (h0 : Heap) (ds : Wd) (h : Heap) : Prop :=
  h0.size ≤ h.size ∧ (∀ (a : Addr) (c : Cell), h0[a]? = some c → h[a]? = some c) ∧ (ds.map Prod.fst).Nodup ∧ ∀ (i : Nat) (a : Addr) (d : Desc), ds[i]? = some (a, d) → h0.size ≤ a ∧ ∃ c : Cell, h[a]? = some c ∧ d c
def Ends (tb : Tables) (e : Env) (below : List Frame) (A : State) (G : Outcome → State → Prop) : Prop := ∃ t o, Steps tb e below A t ∧ t.status = .running ∧ Ended t below o ∧ G o t
/-- the fixed surroundings of a walk -/
def Cx (p : Program) (s : State) (m : MethodId) (meth : Method) (c : Code) (Z : State) (a0 : Array Value) (own : String) (bytes : ByteArray) (ml : Nat) (rt : Option FieldType) (nm : String) : Prop :=
  p.tables.exec = Jvm.exec ∧ Z.Warmed39 s.vm ∧ (∀ d ∈ tables_1, d.before a0 Z = true) ∧ c.code = bytes ∧ c.maxLocals = ml ∧ s.vm.findClass own = some m.cls ∧ meth.sig.returnType = rt ∧ meth.locks = false ∧ meth.name = nm
/-- from pc with these locals and this stack the body comes back, and Q holds of what it returns and of the world that it leaves -/
def Go (p : Program) (l : Launch) (e : Env) (R : Room) (s : State) (m : MethodId) (args : Array Value) (below : List Frame) (meth : Method) (c : Code) (h0 : Heap) (Q : Option Value → Wd → Prop) (ds : Wd) (k n pc : Nat) (Ls : Array Slot) (St : List Value) : Prop :=
  ∀ T locs, Stand p l e R s m args below meth c T locs k n → Wld h0 ds T.heap → Fr h0.size locs →
    Ends p.tables e below (T.setTop (mkF m pc Ls St)) (fun o t => ∃ v L, o = .returned v ∧ (∃ ds', Q v ds' ∧ Wld h0 ds' t.heap ∧ Fr h0.size L) ∧ FrameEnd s o t L R.cells R.slots)
/-- a body's contract -/
def Con (l : Launch) (Z : State) (y : MethodName) (bytes : ByteArray) (ml : Nat) (rt : Option FieldType) (rm : Room) (h0 : Heap) (as' : Array Value) (ds : Wd) (Q : Option Value → Wd → Prop) : Prop :=
  ∀ h, Wld h0 ds h → ∀ ws, MetFree l y (head1 (Jvm.Cond.code y bytes ml rt :: ws) rm) (fun a U => a = as' ∧ Z.Warmed39 U.vm ∧ U.heap = h) (fun _ _ _ _ _ => True)
    (fun _ U o U' => ∃ v L, o = .returned v ∧ (∃ ds', Q v ds' ∧ Wld h0 ds' U'.heap ∧ Fr h0.size L) ∧ FrameEnd U o U' L rm.cells rm.slots)
/-- an array's cell -/
def IA (Z : State) (ty : FieldType) (vs : List Value) : Desc := fun c => Z.isArrayOf c ty ∧ c.vm ≠ .unknown ∧ c.slots.toList = vs
abbrev ints (xs : List Int32) : List Value := xs.map Value.int
/-- a field: the class that declares it, name, descriptor, value -/
abbrev Fv : Type := String × String × String × Value
def fldC (Z : State) (c : Cell) (x : Fv) : Prop := ∃ (cf : ClassId) (k : Class) (i : Nat) (f : Field), Z.fieldFound? x.1 x.2.1 x.2.2.1 = some (cf, k, i, f) ∧ f.isStatic = false ∧ c.vm ≠ .unknown ∧ c.vm.isStatics = false ∧ Z.vm.assignable c.cls cf = true ∧ c.slots[f.slot]? = some x.2.2.2
def OB (Z : State) (a0 : Array Value) (C : String) (fs : List Fv) : Desc := fun c =>
  (∃ k : Class, Z.vm.findClass C = some c.cls ∧ Z.vm.classes[c.cls]? = some k ∧ c.vm.isStatics = false ∧ (k.kind = .ordinary → c.slots.size = k.instanceTypes.size)) ∧
  (∀ x ∈ fs, fldC Z c x ∧ Laid Z a0 C x.1 x.2.1 x.2.2.1 ∧ ∃ t, parseFieldDescriptor x.2.2.1 = some t)
section Own
variable {p : Program} {l : Launch} {e : Env} {R : Room} {s : State} {m : MethodId} {args : Array Value} {below : List Frame} {meth : Method} {c : Code} {Z : State} {a0 : Array Value} {h0 h h' : Heap} {Q : Option Value → Wd → Prop} {ds ds' : Wd} {k n pc : Nat} {Ls Ls' : Array Slot} {St : List Value} {own : String} {bytes : ByteArray} {ml : Nat} {rt : Option FieldType} {nm : String}
theorem Ends.pre {tb : Tables} {A B : State} {G : Outcome → State → Prop} (H : ∀ t, Steps tb e below B t → Steps tb e below A t) (K : Ends tb e below B G) : Ends tb e below A G := by
  obtain ⟨t, o, h1, h2⟩ := K; exact ⟨t, o, H t h1, h2⟩
theorem Wld.nil (h0 : Heap) : Wld h0 [] h0 := ⟨Nat.le_refl _, fun _ _ q => q, List.nodup_nil, fun i a d q => by simp at q⟩
theorem Wld.extOf (W : Wld h0 ds h) : Ext h0 h := ⟨W.1, W.2.1⟩
theorem Wld.at {i : Nat} {a : Addr} {d : Desc} (W : Wld h0 ds h) (hi : ds[i]? = some (a, d)) : h0.size ≤ a ∧ ∃ c : Cell, h[a]? = some c ∧ d c := W.2.2.2 i a d hi
theorem nodup_inj {α : Type} {L : List α} (h : L.Nodup) {i j : Nat} (hi : i < L.length) (hj : j < L.length) (e : L[i] = L[j]) : i = j := by
  rcases Nat.lt_trichotomy i j with q | q | q
  · exact absurd e (List.pairwise_iff_getElem.mp h i j hi hj q)
  · exact q
  · exact absurd e.symm (List.pairwise_iff_getElem.mp h j i hj hi q)
theorem Wld.ne {i j : Nat} {a b : Addr} {d d' : Desc} (W : Wld h0 ds h) (hi : ds[i]? = some (a, d)) (hj : ds[j]? = some (b, d')) (hij : i ≠ j) : a ≠ b := by
  intro e
  obtain ⟨h1, e1⟩ := List.getElem?_eq_some_iff.mp hi
  obtain ⟨h2, e2⟩ := List.getElem?_eq_some_iff.mp hj
  have l1 : i < (ds.map Prod.fst).length := by simpa using h1
  have l2 : j < (ds.map Prod.fst).length := by simpa using h2
  have g : (ds.map Prod.fst)[i] = (ds.map Prod.fst)[j] := by simp [e1, e2, e]
  exact hij (nodup_inj W.2.2.1 l1 l2 g)
theorem Wld.wr {i : Nat} {a : Addr} {d d' : Desc} {sl : Nat} {v : Value} (W : Wld h0 ds h) (hi : ds[i]? = some (a, d)) (wr : Wr h h' a sl v) (hd : ∀ c, h[a]? = some c → sl < c.slots.size → d c → d' (c.setSlot sl v)) : Wld h0 (ds.set i (a, d')) h' := by
  obtain ⟨ha, c, hc, dc⟩ := W.at hi
  obtain ⟨c0, hc0, -, hsl, -⟩ := id wr
  cases hc.symm.trans hc0
  refine ⟨by rw [wr.size]; exact W.1, fun b cb hb => ?_, ?_, ?_⟩
  · have hbl : b < h0.size := (Array.getElem?_eq_some_iff.mp hb).1
    obtain ⟨c', e1, -, -, -, e5, -⟩ := wr_at wr (W.2.1 b cb hb)
    rw [← e5 (fun q => Nat.not_lt.mpr ha (q ▸ hbl))]; exact e1
  · have q : (ds.set i (a, d')).map Prod.fst = ds.map Prod.fst := by
      rw [List.map_set]
      obtain ⟨l1, e1⟩ := List.getElem?_eq_some_iff.mp hi
      apply List.ext_getElem?
      intro j
      rw [List.getElem?_set]
      split
      · rename_i hj; subst hj; simp [l1, e1]
      · rfl
    rw [q]; exact W.2.2.1
  · intro j b db hj
    rw [List.getElem?_set] at hj
    split at hj
    · rename_i hij
      subst hij
      obtain ⟨l1, e1⟩ := List.getElem?_eq_some_iff.mp hi
      simp only [l1, if_true, Option.some.injEq, Prod.mk.injEq] at hj
      obtain ⟨rfl, rfl⟩ := hj
      obtain ⟨c', e1, -, -, -, -, -, e7⟩ := wr_at wr hc
      exact ⟨ha, c', e1, by rw [(e7 rfl).1]; exact hd c hc hsl dc⟩
    · rename_i hij
      obtain ⟨hb, cb, hcb, dcb⟩ := W.at hj
      have hne : b ≠ a := fun e => W.ne hi hj hij e.symm
      obtain ⟨c', e1, -, -, -, e5, -⟩ := wr_at wr hcb
      exact ⟨hb, cb, by rw [← e5 hne]; exact e1, dcb⟩
theorem Wld.new {d : Desc} (W : Wld h0 ds h) (E : Ext h h') {c : Cell} (hc : h'[h.size]? = some c) (dc : d c) : Wld h0 (ds ++ [(h.size, d)]) h' := by
  refine ⟨Nat.le_trans W.1 E.1, fun a c q => E.2 _ _ (W.2.1 a c q), ?_, ?_⟩
  · rw [List.map_append, List.nodup_append]
    refine ⟨W.2.2.1, by simp, ?_⟩
    intro a ha b hb
    simp only [List.map_cons, List.map_nil, List.mem_singleton] at hb
    subst hb
    obtain ⟨⟨x, dx⟩, hx, rfl⟩ := List.mem_map.mp ha
    obtain ⟨i, hi⟩ := List.getElem?_of_mem hx
    obtain ⟨-, cc, hcc, -⟩ := W.at hi
    exact Nat.ne_of_lt (Array.getElem?_eq_some_iff.mp hcc).1
  · intro i a dd hi
    rw [List.getElem?_append] at hi
    split at hi
    · obtain ⟨h1, cc, h2, h3⟩ := W.at hi
      exact ⟨h1, cc, E.2 _ _ h2, h3⟩
    · rename_i hlt
      rw [List.getElem?_singleton] at hi
      split at hi
      · cases hi; exact ⟨W.1, c, hc, dc⟩
      · cases hi
theorem OB.exa {C : String} {fs : List Fv} {a : Addr} {cl : Cell} (hc : h[a]? = some cl) (O : OB Z a0 C fs cl) : Exa Z h a C := by
  obtain ⟨⟨k, h1, h2, h3, h4⟩, -⟩ := O; exact ⟨cl, k, hc, h1, h2, h3, h4⟩
theorem OB.fld {C O n d : String} {v : Value} {fs : List Fv} {a : Addr} {cl : Cell} (hc : h[a]? = some cl) (Ob : OB Z a0 C fs cl) (hx : (O, n, d, v) ∈ fs) : Fld Z h a O n d v := by
  obtain ⟨⟨cf, k, i, f, h1, h2, h3, h4, h5, h6⟩, -⟩ := Ob.2 _ hx
  exact ⟨cl, cf, k, i, f, hc, h1, h2, h3, h4, h5, h6⟩
theorem OB.of {C : String} {fs : List Fv} {a : Addr} (E : Exa Z h a C) {cl : Cell} (hc : h[a]? = some cl) (F : ∀ x ∈ fs, Fld Z h a x.1 x.2.1 x.2.2.1 x.2.2.2 ∧ Laid Z a0 C x.1 x.2.1 x.2.2.1 ∧ ∃ t, parseFieldDescriptor x.2.2.1 = some t) : OB Z a0 C fs cl := by
  obtain ⟨cell, k, h1, h2, h3, h4, h5⟩ := E
  cases hc.symm.trans h1
  refine ⟨⟨k, h2, h3, h4, h5⟩, fun x hx => ?_⟩
  obtain ⟨⟨cell, cf, k, i, f, g1, g2⟩, L, t⟩ := F x hx
  cases hc.symm.trans g1
  exact ⟨⟨cf, k, i, f, g2⟩, L, t⟩

/-! entering and leaving -/
theorem con_of {y : MethodName} {rm : Room} {as' : Array Value} (hpl : plainFor y = true) (hw : ∀ d ∈ tables_1, d.before a0 Z = true) (hef : ∀ m, entryFrame m as' ml = mkF m 0 Ls [])
    (H : ∀ (p : Program) (e : Env) (s : State) (m : MethodId) (below : List Frame) (meth : Method) (c : Code), Cx p s m meth c Z a0 y.cls bytes ml rt y.name → Go p l e rm s m as' below meth c h0 Q ds 0 0 0 Ls []) : Con l Z y bytes ml rt rm h0 as' ds Q := by
  intro h W ws
  refine MetFree.of_bodySF hpl hisR ?_
  intro p e s m args below meth c s₁ Bd hml0 hP hK
  obtain ⟨rfl, hZ, hh⟩ := hP
  have hx := Bd.exec
  have hown := findClass_of_methodNamed Bd.named
  have hnm := (name_of_methodNamed Bd.named Bd.method).1
  have X0 : Stand p l e rm s m args below meth c s₁ [] 0 0 := Stand.of_body Bd
  have e0 : s₁.heap = h := by rw [← hh, Bd.state]; rfl
  have C : Cx p s m meth c Z a0 y.cls bytes ml rt y.name := ⟨hx, hZ, hw, Bd.bytes, hml0, hown, Bd.returns, Bd.notSynchronized, hnm⟩
  obtain ⟨t, o, h1, h2, h3, h4⟩ := H p e s m below meth c C s₁ [] X0 (by rw [e0]; exact W) (Fr.nil _)
  exact ⟨t, o, castTop (hef m) h1, h2, h3, h4⟩
theorem Ends.out (C : Cx p s m meth c Z a0 own bytes ml rt nm) {T : State} {locs : List Loc} {g : JFrame} (X : Stand p l e R s m args below meth c T locs k n) (W : Wld h0 ds T.heap) (N : Fr h0.size locs) (hk : k ≤ R.cells) (hn : n ≤ R.slots) {v : Option Value} (hv : rt = none → v = none) (q : Q v ds)
    (H : ∀ fs, (∀ (f : JFrame) (acts : List Action), f.method = m → f.locked = none → f.entered = [] → (doReturn e (T.setTop f) acts v).1 = T.setFrames fs) → Steps p.tables e below (T.setTop g) (T.setFrames fs)) :
    Ends p.tables e below (T.setTop g) (fun o t => ∃ v L, o = .returned v ∧ (∃ ds', Q v ds' ∧ Wld h0 ds' t.heap ∧ Fr h0.size L) ∧ FrameEnd s o t L R.cells R.slots) := by
  obtain ⟨hx, hZ, hw, hby, hml, hown, hret, hlk, hnm⟩ := C
  obtain ⟨fs, hr, hrun, hended, hW, hsame⟩ := X.leave (v := v) (fun h => hv (hret.symm.trans h)) hlk
  exact ⟨_, _, H fs hr, hrun, hended, v, locs, rfl, ⟨ds, q, W, N⟩, ⟨_, rfl⟩, hW, hsame.mono hk hn⟩
theorem g_ret (C : Cx p s m meth c Z a0 own bytes ml none nm) (hd : decode bytes pc = .ok (.return_, 1)) (hk : k ≤ R.cells) (hn : n ≤ R.slots) (q : Q none ds) : Go p l e R s m args below meth c h0 Q ds k n pc Ls [] := fun T locs X W N =>
  Ends.out C X W N hk hn (fun _ => rfl) q fun fs hr => X.returnOut C.1 C.2.2.2.2.2.2.1 (hb C.2.2.2.1 hd) hr
theorem g_iret (C : Cx p s m meth c Z a0 own bytes ml (some .int) nm) {z : Int32} (hd : decode bytes pc = .ok (.ireturn, 1)) (hk : k ≤ R.cells) (hn : n ≤ R.slots) (q : Q (some (.int z)) ds) : Go p l e R s m args below meth c h0 Q ds k n pc Ls (.int z :: St) := fun T locs X W N =>
  Ends.out C X W N hk hn (fun h => nomatch h) q fun fs hr => retOut X C.1 C.2.2.2.2.2.2.1 rfl (Or.inl ⟨rfl, Or.inl rfl, z, rfl⟩) (hb C.2.2.2.1 hd) hr
theorem g_nret {t : FieldType} (C : Cx p s m meth c Z a0 own bytes ml (some t) nm) (ht : t = .boolean ∨ t = .byte ∨ t = .char ∨ t = .short) {z z' : Int32} (hz : nar t z = z') (hd : decode bytes pc = .ok (.ireturn, 1)) (hk : k ≤ R.cells) (hn : n ≤ R.slots) (q : Q (some (.int z')) ds) : Go p l e R s m args below meth c h0 Q ds k n pc Ls (.int z :: St) := fun T locs X W N => by
  subst hz
  exact Ends.out C X W N hk hn (fun h => nomatch h) q fun fs hr => retN X C.1 C.2.2.2.2.2.2.1 ht (hb C.2.2.2.1 hd) hr
theorem g_lret (C : Cx p s m meth c Z a0 own bytes ml (some .long) nm) {z : Int64} (hd : decode bytes pc = .ok (.lreturn, 1)) (hk : k ≤ R.cells) (hn : n ≤ R.slots) (q : Q (some (.long z)) ds) : Go p l e R s m args below meth c h0 Q ds k n pc Ls (.long z :: St) := fun T locs X W N =>
  Ends.out C X W N hk hn (fun h => nomatch h) q fun fs hr => retOut X C.1 C.2.2.2.2.2.2.1 rfl (Or.inr (Or.inl ⟨rfl, rfl, z, rfl⟩)) (hb C.2.2.2.1 hd) hr
theorem g_dret (C : Cx p s m meth c Z a0 own bytes ml (some .double) nm) {z : UInt64} (hd : decode bytes pc = .ok (.dreturn, 1)) (hk : k ≤ R.cells) (hn : n ≤ R.slots) (q : Q (some (.double z)) ds) : Go p l e R s m args below meth c h0 Q ds k n pc Ls (.double z :: St) := fun T locs X W N =>
  Ends.out C X W N hk hn (fun h => nomatch h) q fun fs hr => retOut X C.1 C.2.2.2.2.2.2.1 rfl (Or.inr (Or.inr (Or.inl ⟨rfl, rfl, z, rfl⟩))) (hb C.2.2.2.1 hd) hr
theorem g_aret {t : FieldType} (C : Cx p s m meth c Z a0 own bytes ml (some t) nm) (ht : t.isReference = true) {v : Value} (hv : v.isRef = true) (hnr : narrow t v = v) (hd : decode bytes pc = .ok (.areturn, 1)) (hk : k ≤ R.cells) (hn : n ≤ R.slots) (q : Q (some v) ds) : Go p l e R s m args below meth c h0 Q ds k n pc Ls (v :: St) := fun T locs X W N =>
  Ends.out C X W N hk hn (fun h => nomatch h) q fun fs hr => retOut X C.1 C.2.2.2.2.2.2.1 hnr (Or.inr (Or.inr (Or.inr (Or.inr ⟨rfl, ht, hv⟩)))) (hb C.2.2.2.1 hd) hr
theorem Go.pure {pc' : Nat} {St' : List Value} (H : ∀ T locs, Stand p l e R s m args below meth c T locs k n → ∀ target, Steps p.tables e below (T.setTop (mkF m pc' Ls' St')) target → Steps p.tables e below (T.setTop (mkF m pc Ls St)) target)
    (K : Go p l e R s m args below meth c h0 Q ds k n pc' Ls' St') : Go p l e R s m args below meth c h0 Q ds k n pc Ls St := fun T locs X W N => (K T locs X W N).pre (H T locs X)
/-- the world may be spoken of otherwise -/
theorem Go.weak {Q' : Option Value → Wd → Prop} (K : Go p l e R s m args below meth c h0 Q' ds k n pc Ls St) (H : ∀ v ds', Q' v ds' → Q v ds') : Go p l e R s m args below meth c h0 Q ds k n pc Ls St := fun T locs X W N => by
  obtain ⟨t, o, h1, h2, h3, v, L, h4, ⟨ds', h5, h6⟩, h7⟩ := K T locs X W N
  exact ⟨t, o, h1, h2, h3, v, L, h4, ⟨ds', H _ _ h5, h6⟩, h7⟩
/-! plain steps -/
theorem g_iadd (C : Cx p s m meth c Z a0 own bytes ml rt nm) (pc' : Nat) {x y : Int32} (hd : decode bytes pc = .ok (.iadd, 1)) (hp : pc + 1 = pc') (K : Go p l e R s m args below meth c h0 Q ds k n pc' Ls (.int (x + y) :: St)) : Go p l e R s m args below meth c h0 Q ds k n pc Ls (.int y :: .int x :: St) := by
  subst hp
  exact K.pure fun T locs X target h => XS.iadd X.here C.1 rfl (hb C.2.2.2.1 hd) rfl h
theorem g_isub (C : Cx p s m meth c Z a0 own bytes ml rt nm) (pc' : Nat) {x y : Int32} (hd : decode bytes pc = .ok (.isub, 1)) (hp : pc + 1 = pc') (K : Go p l e R s m args below meth c h0 Q ds k n pc' Ls (.int (x - y) :: St)) : Go p l e R s m args below meth c h0 Q ds k n pc Ls (.int y :: .int x :: St) := by
  subst hp
  exact K.pure fun T locs X target h => XS.isub X.here C.1 rfl (hb C.2.2.2.1 hd) rfl h
theorem g_imul (C : Cx p s m meth c Z a0 own bytes ml rt nm) (pc' : Nat) {x y : Int32} (hd : decode bytes pc = .ok (.imul, 1)) (hp : pc + 1 = pc') (K : Go p l e R s m args below meth c h0 Q ds k n pc' Ls (.int (x * y) :: St)) : Go p l e R s m args below meth c h0 Q ds k n pc Ls (.int y :: .int x :: St) := by
  subst hp
  exact K.pure fun T locs X target h => XS.imul X.here C.1 rfl (hb C.2.2.2.1 hd) rfl h
theorem g_iand (C : Cx p s m meth c Z a0 own bytes ml rt nm) (pc' : Nat) {x y : Int32} (hd : decode bytes pc = .ok (.iand, 1)) (hp : pc + 1 = pc') (K : Go p l e R s m args below meth c h0 Q ds k n pc' Ls (.int (x &&& y) :: St)) : Go p l e R s m args below meth c h0 Q ds k n pc Ls (.int y :: .int x :: St) := by
  subst hp
  exact K.pure fun T locs X target h => XS.iand X.here C.1 rfl (hb C.2.2.2.1 hd) rfl h
theorem g_ior (C : Cx p s m meth c Z a0 own bytes ml rt nm) (pc' : Nat) {x y : Int32} (hd : decode bytes pc = .ok (.ior, 1)) (hp : pc + 1 = pc') (K : Go p l e R s m args below meth c h0 Q ds k n pc' Ls (.int (x ||| y) :: St)) : Go p l e R s m args below meth c h0 Q ds k n pc Ls (.int y :: .int x :: St) := by
  subst hp
  exact K.pure fun T locs X target h => XS.ior X.here C.1 rfl (hb C.2.2.2.1 hd) rfl h
theorem g_ixor (C : Cx p s m meth c Z a0 own bytes ml rt nm) (pc' : Nat) {x y : Int32} (hd : decode bytes pc = .ok (.ixor, 1)) (hp : pc + 1 = pc') (K : Go p l e R s m args below meth c h0 Q ds k n pc' Ls (.int (x ^^^ y) :: St)) : Go p l e R s m args below meth c h0 Q ds k n pc Ls (.int y :: .int x :: St) := by
  subst hp
  exact K.pure fun T locs X target h => XS.ixor X.here C.1 rfl (hb C.2.2.2.1 hd) rfl h
theorem g_ishl (C : Cx p s m meth c Z a0 own bytes ml rt nm) (pc' : Nat) {x y : Int32} (hd : decode bytes pc = .ok (.ishl, 1)) (hp : pc + 1 = pc') (K : Go p l e R s m args below meth c h0 Q ds k n pc' Ls (.int (x <<< (y &&& 31)) :: St)) : Go p l e R s m args below meth c h0 Q ds k n pc Ls (.int y :: .int x :: St) := by
  subst hp
  exact K.pure fun T locs X target h => XS.ishl X.here C.1 rfl (hb C.2.2.2.1 hd) rfl h
theorem g_ishr (C : Cx p s m meth c Z a0 own bytes ml rt nm) (pc' : Nat) {x y : Int32} (hd : decode bytes pc = .ok (.ishr, 1)) (hp : pc + 1 = pc') (K : Go p l e R s m args below meth c h0 Q ds k n pc' Ls (.int (x >>> (y &&& 31)) :: St)) : Go p l e R s m args below meth c h0 Q ds k n pc Ls (.int y :: .int x :: St) := by
  subst hp
  exact K.pure fun T locs X target h => XS.ishr X.here C.1 rfl (hb C.2.2.2.1 hd) rfl h
theorem g_iushr (C : Cx p s m meth c Z a0 own bytes ml rt nm) (pc' : Nat) {x y : Int32} (hd : decode bytes pc = .ok (.iushr, 1)) (hp : pc + 1 = pc') (K : Go p l e R s m args below meth c h0 Q ds k n pc' Ls (.int ((x.toUInt32 >>> (y &&& 31).toUInt32).toInt32) :: St)) : Go p l e R s m args below meth c h0 Q ds k n pc Ls (.int y :: .int x :: St) := by
  subst hp
  exact K.pure fun T locs X target h => XS.iushr X.here C.1 rfl (hb C.2.2.2.1 hd) rfl h
theorem g_ladd (C : Cx p s m meth c Z a0 own bytes ml rt nm) (pc' : Nat) {x y : Int64} (hd : decode bytes pc = .ok (.ladd, 1)) (hp : pc + 1 = pc') (K : Go p l e R s m args below meth c h0 Q ds k n pc' Ls (.long (x + y) :: St)) : Go p l e R s m args below meth c h0 Q ds k n pc Ls (.long y :: .long x :: St) := by
  subst hp
  exact K.pure fun T locs X target h => XS.ladd X.here C.1 rfl (hb C.2.2.2.1 hd) rfl h
theorem g_lsub (C : Cx p s m meth c Z a0 own bytes ml rt nm) (pc' : Nat) {x y : Int64} (hd : decode bytes pc = .ok (.lsub, 1)) (hp : pc + 1 = pc') (K : Go p l e R s m args below meth c h0 Q ds k n pc' Ls (.long (x - y) :: St)) : Go p l e R s m args below meth c h0 Q ds k n pc Ls (.long y :: .long x :: St) := by
  subst hp
  exact K.pure fun T locs X target h => XS.lsub X.here C.1 rfl (hb C.2.2.2.1 hd) rfl h
theorem g_lmul (C : Cx p s m meth c Z a0 own bytes ml rt nm) (pc' : Nat) {x y : Int64} (hd : decode bytes pc = .ok (.lmul, 1)) (hp : pc + 1 = pc') (K : Go p l e R s m args below meth c h0 Q ds k n pc' Ls (.long (x * y) :: St)) : Go p l e R s m args below meth c h0 Q ds k n pc Ls (.long y :: .long x :: St) := by
  subst hp
  exact K.pure fun T locs X target h => XS.lmul X.here C.1 rfl (hb C.2.2.2.1 hd) rfl h
theorem g_land (C : Cx p s m meth c Z a0 own bytes ml rt nm) (pc' : Nat) {x y : Int64} (hd : decode bytes pc = .ok (.land, 1)) (hp : pc + 1 = pc') (K : Go p l e R s m args below meth c h0 Q ds k n pc' Ls (.long (x &&& y) :: St)) : Go p l e R s m args below meth c h0 Q ds k n pc Ls (.long y :: .long x :: St) := by
  subst hp
  exact K.pure fun T locs X target h => XS.land X.here C.1 rfl (hb C.2.2.2.1 hd) rfl h
theorem g_lor (C : Cx p s m meth c Z a0 own bytes ml rt nm) (pc' : Nat) {x y : Int64} (hd : decode bytes pc = .ok (.lor, 1)) (hp : pc + 1 = pc') (K : Go p l e R s m args below meth c h0 Q ds k n pc' Ls (.long (x ||| y) :: St)) : Go p l e R s m args below meth c h0 Q ds k n pc Ls (.long y :: .long x :: St) := by
  subst hp
  exact K.pure fun T locs X target h => XS.lor X.here C.1 rfl (hb C.2.2.2.1 hd) rfl h
theorem g_lxor (C : Cx p s m meth c Z a0 own bytes ml rt nm) (pc' : Nat) {x y : Int64} (hd : decode bytes pc = .ok (.lxor, 1)) (hp : pc + 1 = pc') (K : Go p l e R s m args below meth c h0 Q ds k n pc' Ls (.long (x ^^^ y) :: St)) : Go p l e R s m args below meth c h0 Q ds k n pc Ls (.long y :: .long x :: St) := by
  subst hp
  exact K.pure fun T locs X target h => XS.lxor X.here C.1 rfl (hb C.2.2.2.1 hd) rfl h
theorem g_lshl (C : Cx p s m meth c Z a0 own bytes ml rt nm) (pc' : Nat) {x : Int64} {y : Int32} (hd : decode bytes pc = .ok (.lshl, 1)) (hp : pc + 1 = pc') (K : Go p l e R s m args below meth c h0 Q ds k n pc' Ls (.long (x <<< (y &&& 0x3f).toInt64) :: St)) : Go p l e R s m args below meth c h0 Q ds k n pc Ls (.int y :: .long x :: St) := by
  subst hp
  exact K.pure fun T locs X target h => XS.lshl X.here C.1 rfl (hb C.2.2.2.1 hd) rfl h
theorem g_lshr (C : Cx p s m meth c Z a0 own bytes ml rt nm) (pc' : Nat) {x : Int64} {y : Int32} (hd : decode bytes pc = .ok (.lshr, 1)) (hp : pc + 1 = pc') (K : Go p l e R s m args below meth c h0 Q ds k n pc' Ls (.long (x >>> (y &&& 0x3f).toInt64) :: St)) : Go p l e R s m args below meth c h0 Q ds k n pc Ls (.int y :: .long x :: St) := by
  subst hp
  exact K.pure fun T locs X target h => XS.lshr X.here C.1 rfl (hb C.2.2.2.1 hd) rfl h
theorem g_lushr (C : Cx p s m meth c Z a0 own bytes ml rt nm) (pc' : Nat) {x : Int64} {y : Int32} (hd : decode bytes pc = .ok (.lushr, 1)) (hp : pc + 1 = pc') (K : Go p l e R s m args below meth c h0 Q ds k n pc' Ls (.long ((x.toUInt64 >>> (y &&& 0x3f).toInt64.toUInt64).toInt64) :: St)) : Go p l e R s m args below meth c h0 Q ds k n pc Ls (.int y :: .long x :: St) := by
  subst hp
  exact K.pure fun T locs X target h => XS.lushr X.here C.1 rfl (hb C.2.2.2.1 hd) rfl h
theorem g_idiv (C : Cx p s m meth c Z a0 own bytes ml rt nm) (pc' : Nat) {x y : Int32} (hd : decode bytes pc = .ok (.idiv, 1)) (hp : pc + 1 = pc') (hy : y ≠ 0) (K : Go p l e R s m args below meth c h0 Q ds k n pc' Ls (.int (x / y) :: St)) : Go p l e R s m args below meth c h0 Q ds k n pc Ls (.int y :: .int x :: St) := by
  subst hp
  exact K.pure fun T locs X target h => XS.idiv X.here C.1 rfl (hb C.2.2.2.1 hd) rfl hy h
theorem g_irem (C : Cx p s m meth c Z a0 own bytes ml rt nm) (pc' : Nat) {x y : Int32} (hd : decode bytes pc = .ok (.irem, 1)) (hp : pc + 1 = pc') (hy : y ≠ 0) (K : Go p l e R s m args below meth c h0 Q ds k n pc' Ls (.int (x % y) :: St)) : Go p l e R s m args below meth c h0 Q ds k n pc Ls (.int y :: .int x :: St) := by
  subst hp
  exact K.pure fun T locs X target h => iremM X C.1 rfl (hb C.2.2.2.1 hd) rfl hy h
theorem g_ineg (C : Cx p s m meth c Z a0 own bytes ml rt nm) (pc' : Nat) {x : Int32} (hd : decode bytes pc = .ok (.ineg, 1)) (hp : pc + 1 = pc') (K : Go p l e R s m args below meth c h0 Q ds k n pc' Ls (.int (-x) :: St)) : Go p l e R s m args below meth c h0 Q ds k n pc Ls (.int x :: St) := by
  subst hp
  exact K.pure fun T locs X target h => XS.ineg X.here C.1 rfl (hb C.2.2.2.1 hd) rfl h
theorem g_i2b (C : Cx p s m meth c Z a0 own bytes ml rt nm) (pc' : Nat) {x : Int32} (hd : decode bytes pc = .ok (.i2b, 1)) (hp : pc + 1 = pc') (K : Go p l e R s m args below meth c h0 Q ds k n pc' Ls (.int (x.toInt8.toInt32) :: St)) : Go p l e R s m args below meth c h0 Q ds k n pc Ls (.int x :: St) := by
  subst hp
  exact K.pure fun T locs X target h => XS.i2b X.here C.1 rfl (hb C.2.2.2.1 hd) rfl h
theorem g_i2c (C : Cx p s m meth c Z a0 own bytes ml rt nm) (pc' : Nat) {x : Int32} (hd : decode bytes pc = .ok (.i2c, 1)) (hp : pc + 1 = pc') (K : Go p l e R s m args below meth c h0 Q ds k n pc' Ls (.int (x.toUInt32.toUInt16.toUInt32.toInt32) :: St)) : Go p l e R s m args below meth c h0 Q ds k n pc Ls (.int x :: St) := by
  subst hp
  exact K.pure fun T locs X target h => XS.i2c X.here C.1 rfl (hb C.2.2.2.1 hd) rfl h
theorem g_i2s (C : Cx p s m meth c Z a0 own bytes ml rt nm) (pc' : Nat) {x : Int32} (hd : decode bytes pc = .ok (.i2s, 1)) (hp : pc + 1 = pc') (K : Go p l e R s m args below meth c h0 Q ds k n pc' Ls (.int (x.toInt16.toInt32) :: St)) : Go p l e R s m args below meth c h0 Q ds k n pc Ls (.int x :: St) := by
  subst hp
  exact K.pure fun T locs X target h => XS.i2s X.here C.1 rfl (hb C.2.2.2.1 hd) rfl h
theorem g_i2l (C : Cx p s m meth c Z a0 own bytes ml rt nm) (pc' : Nat) {x : Int32} (hd : decode bytes pc = .ok (.i2l, 1)) (hp : pc + 1 = pc') (K : Go p l e R s m args below meth c h0 Q ds k n pc' Ls (.long x.toInt64 :: St)) : Go p l e R s m args below meth c h0 Q ds k n pc Ls (.int x :: St) := by
  subst hp
  exact K.pure fun T locs X target h => XS.i2l X.here C.1 rfl (hb C.2.2.2.1 hd) rfl h
theorem g_l2i (C : Cx p s m meth c Z a0 own bytes ml rt nm) (pc' : Nat) {x : Int64} (hd : decode bytes pc = .ok (.l2i, 1)) (hp : pc + 1 = pc') (K : Go p l e R s m args below meth c h0 Q ds k n pc' Ls (.int x.toInt32 :: St)) : Go p l e R s m args below meth c h0 Q ds k n pc Ls (.long x :: St) := by
  subst hp
  exact K.pure fun T locs X target h => XS.l2i X.here C.1 rfl (hb C.2.2.2.1 hd) rfl h
theorem g_lneg (C : Cx p s m meth c Z a0 own bytes ml rt nm) (pc' : Nat) {x : Int64} (hd : decode bytes pc = .ok (.lneg, 1)) (hp : pc + 1 = pc') (K : Go p l e R s m args below meth c h0 Q ds k n pc' Ls (.long (-x) :: St)) : Go p l e R s m args below meth c h0 Q ds k n pc Ls (.long x :: St) := by
  subst hp
  exact K.pure fun T locs X target h => XS.lneg X.here C.1 rfl (hb C.2.2.2.1 hd) rfl h
theorem g_lcmp (C : Cx p s m meth c Z a0 own bytes ml rt nm) (pc' : Nat) {x y : Int64} (hd : decode bytes pc = .ok (.lcmp, 1)) (hp : pc + 1 = pc') (K : Go p l e R s m args below meth c h0 Q ds k n pc' Ls (.int (lcmpW x y) :: St)) : Go p l e R s m args below meth c h0 Q ds k n pc Ls (.long y :: .long x :: St) := by
  subst hp
  exact K.pure fun T locs X target h => XS.lcmp X.here C.1 rfl (hb C.2.2.2.1 hd) rfl h
theorem g_iconst (C : Cx p s m meth c Z a0 own bytes ml rt nm) (pc' : Nat) (v : Int32) {i : Int} (hd : decode bytes pc = .ok (.iconst i, 1)) (hp : pc + 1 = pc') (hv : Int32.ofInt i = v) (K : Go p l e R s m args below meth c h0 Q ds k n pc' Ls (.int v :: St)) : Go p l e R s m args below meth c h0 Q ds k n pc Ls St := by
  subst hp hv
  exact K.pure fun T locs X target h => XS.iconst X.here C.1 rfl (hb C.2.2.2.1 hd) h
theorem g_bipush (C : Cx p s m meth c Z a0 own bytes ml rt nm) (pc' : Nat) (v : Int32) {i : Int} (hd : decode bytes pc = .ok (.bipush i, 2)) (hp : pc + 2 = pc') (hv : (Int8.ofInt i).toInt32 = v) (K : Go p l e R s m args below meth c h0 Q ds k n pc' Ls (.int v :: St)) : Go p l e R s m args below meth c h0 Q ds k n pc Ls St := by
  subst hp hv
  exact K.pure fun T locs X target h => XS.bipush X.here C.1 rfl (hb C.2.2.2.1 hd) h
theorem g_sipush (C : Cx p s m meth c Z a0 own bytes ml rt nm) (pc' : Nat) (v : Int32) {i : Int} (hd : decode bytes pc = .ok (.sipush i, 3)) (hp : pc + 3 = pc') (hv : (Int16.ofInt i).toInt32 = v) (K : Go p l e R s m args below meth c h0 Q ds k n pc' Ls (.int v :: St)) : Go p l e R s m args below meth c h0 Q ds k n pc Ls St := by
  subst hp hv
  exact K.pure fun T locs X target h => XS.sipush X.here C.1 rfl (hb C.2.2.2.1 hd) h
theorem g_lconst (C : Cx p s m meth c Z a0 own bytes ml rt nm) (pc' : Nat) (v : Int64) {i : Fin 2} (hd : decode bytes pc = .ok (.lconst i, 1)) (hp : pc + 1 = pc') (hv : Int64.ofNat i = v) (K : Go p l e R s m args below meth c h0 Q ds k n pc' Ls (.long v :: St)) : Go p l e R s m args below meth c h0 Q ds k n pc Ls St := by
  subst hp hv
  exact K.pure fun T locs X target h => XS.lconst X.here C.1 rfl (hb C.2.2.2.1 hd) h
theorem g_null (C : Cx p s m meth c Z a0 own bytes ml rt nm) (pc' : Nat) (hd : decode bytes pc = .ok (.aconst_null, 1)) (hp : pc + 1 = pc') (K : Go p l e R s m args below meth c h0 Q ds k n pc' Ls (.null :: St)) : Go p l e R s m args below meth c h0 Q ds k n pc Ls St := by
  subst hp
  exact K.pure fun T locs X target h => XS.aconstNull X.here C.1 rfl (hb C.2.2.2.1 hd) h
theorem g_iloadN (C : Cx p s m meth c Z a0 own bytes ml rt nm) (pc' : Nat) {i : Fin 4} {v : Int32} (hd : decode bytes pc = .ok (.iload_n i, 1)) (hp : pc + 1 = pc') (hl : Ls[i.val]? = some (.val (.int v))) (K : Go p l e R s m args below meth c h0 Q ds k n pc' Ls (.int v :: St)) : Go p l e R s m args below meth c h0 Q ds k n pc Ls St := by
  subst hp
  exact K.pure fun T locs X target h => XS.iloadN X.here C.1 rfl (hb C.2.2.2.1 hd) hl h
theorem g_iload (C : Cx p s m meth c Z a0 own bytes ml rt nm) (pc' : Nat) {i : Nat} {v : Int32} (hd : decode bytes pc = .ok (.iload i, 2)) (hp : pc + 2 = pc') (hl : Ls[i]? = some (.val (.int v))) (K : Go p l e R s m args below meth c h0 Q ds k n pc' Ls (.int v :: St)) : Go p l e R s m args below meth c h0 Q ds k n pc Ls St := by
  subst hp
  exact K.pure fun T locs X target h => XS.iload X.here C.1 rfl (hb C.2.2.2.1 hd) hl h
theorem g_istoreN (C : Cx p s m meth c Z a0 own bytes ml rt nm) (pc' : Nat) {i : Fin 4} {v : Int32} (Ls' : Array Slot) (hd : decode bytes pc = .ok (.istore_n i, 1)) (hp : pc + 1 = pc') (hl : storeLocals Ls i.val (.int v) = some Ls') (K : Go p l e R s m args below meth c h0 Q ds k n pc' Ls' St) : Go p l e R s m args below meth c h0 Q ds k n pc Ls (.int v :: St) := by
  subst hp
  exact K.pure fun T locs X target h => XS.istoreN X.here C.1 rfl (hb C.2.2.2.1 hd) rfl hl h
theorem g_istore (C : Cx p s m meth c Z a0 own bytes ml rt nm) (pc' : Nat) {i : Nat} {v : Int32} (Ls' : Array Slot) (hd : decode bytes pc = .ok (.istore i, 2)) (hp : pc + 2 = pc') (hl : storeLocals Ls i (.int v) = some Ls') (K : Go p l e R s m args below meth c h0 Q ds k n pc' Ls' St) : Go p l e R s m args below meth c h0 Q ds k n pc Ls (.int v :: St) := by
  subst hp
  exact K.pure fun T locs X target h => XS.istore X.here C.1 rfl (hb C.2.2.2.1 hd) rfl hl h
theorem g_lloadN (C : Cx p s m meth c Z a0 own bytes ml rt nm) (pc' : Nat) {i : Fin 4} {v : Int64} (hd : decode bytes pc = .ok (.lload_n i, 1)) (hp : pc + 1 = pc') (hl : Ls[i.val]? = some (.val (.long v))) (K : Go p l e R s m args below meth c h0 Q ds k n pc' Ls (.long v :: St)) : Go p l e R s m args below meth c h0 Q ds k n pc Ls St := by
  subst hp
  exact K.pure fun T locs X target h => XS.lloadN X.here C.1 rfl (hb C.2.2.2.1 hd) hl h
theorem g_lload (C : Cx p s m meth c Z a0 own bytes ml rt nm) (pc' : Nat) {i : Nat} {v : Int64} (hd : decode bytes pc = .ok (.lload i, 2)) (hp : pc + 2 = pc') (hl : Ls[i]? = some (.val (.long v))) (K : Go p l e R s m args below meth c h0 Q ds k n pc' Ls (.long v :: St)) : Go p l e R s m args below meth c h0 Q ds k n pc Ls St := by
  subst hp
  exact K.pure fun T locs X target h => XS.lload X.here C.1 rfl (hb C.2.2.2.1 hd) hl h
theorem g_lstoreN (C : Cx p s m meth c Z a0 own bytes ml rt nm) (pc' : Nat) {i : Fin 4} {v : Int64} (Ls' : Array Slot) (hd : decode bytes pc = .ok (.lstore_n i, 1)) (hp : pc + 1 = pc') (hl : storeLocals Ls i.val (.long v) = some Ls') (K : Go p l e R s m args below meth c h0 Q ds k n pc' Ls' St) : Go p l e R s m args below meth c h0 Q ds k n pc Ls (.long v :: St) := by
  subst hp
  exact K.pure fun T locs X target h => XS.lstoreN X.here C.1 rfl (hb C.2.2.2.1 hd) rfl hl h
theorem g_lstore (C : Cx p s m meth c Z a0 own bytes ml rt nm) (pc' : Nat) {i : Nat} {v : Int64} (Ls' : Array Slot) (hd : decode bytes pc = .ok (.lstore i, 2)) (hp : pc + 2 = pc') (hl : storeLocals Ls i (.long v) = some Ls') (K : Go p l e R s m args below meth c h0 Q ds k n pc' Ls' St) : Go p l e R s m args below meth c h0 Q ds k n pc Ls (.long v :: St) := by
  subst hp
  exact K.pure fun T locs X target h => XS.lstore X.here C.1 rfl (hb C.2.2.2.1 hd) rfl hl h
theorem g_dloadN (C : Cx p s m meth c Z a0 own bytes ml rt nm) (pc' : Nat) {i : Fin 4} {v : UInt64} (hd : decode bytes pc = .ok (.dload_n i, 1)) (hp : pc + 1 = pc') (hl : Ls[i.val]? = some (.val (.double v))) (K : Go p l e R s m args below meth c h0 Q ds k n pc' Ls (.double v :: St)) : Go p l e R s m args below meth c h0 Q ds k n pc Ls St := by
  subst hp
  exact K.pure fun T locs X target h => XS.dloadN X.here C.1 rfl (hb C.2.2.2.1 hd) hl h
theorem g_dload (C : Cx p s m meth c Z a0 own bytes ml rt nm) (pc' : Nat) {i : Nat} {v : UInt64} (hd : decode bytes pc = .ok (.dload i, 2)) (hp : pc + 2 = pc') (hl : Ls[i]? = some (.val (.double v))) (K : Go p l e R s m args below meth c h0 Q ds k n pc' Ls (.double v :: St)) : Go p l e R s m args below meth c h0 Q ds k n pc Ls St := by
  subst hp
  exact K.pure fun T locs X target h => XS.dload X.here C.1 rfl (hb C.2.2.2.1 hd) hl h
theorem g_dstoreN (C : Cx p s m meth c Z a0 own bytes ml rt nm) (pc' : Nat) {i : Fin 4} {v : UInt64} (Ls' : Array Slot) (hd : decode bytes pc = .ok (.dstore_n i, 1)) (hp : pc + 1 = pc') (hl : storeLocals Ls i.val (.double v) = some Ls') (K : Go p l e R s m args below meth c h0 Q ds k n pc' Ls' St) : Go p l e R s m args below meth c h0 Q ds k n pc Ls (.double v :: St) := by
  subst hp
  exact K.pure fun T locs X target h => XS.dstoreN X.here C.1 rfl (hb C.2.2.2.1 hd) rfl hl h
theorem g_dstore (C : Cx p s m meth c Z a0 own bytes ml rt nm) (pc' : Nat) {i : Nat} {v : UInt64} (Ls' : Array Slot) (hd : decode bytes pc = .ok (.dstore i, 2)) (hp : pc + 2 = pc') (hl : storeLocals Ls i (.double v) = some Ls') (K : Go p l e R s m args below meth c h0 Q ds k n pc' Ls' St) : Go p l e R s m args below meth c h0 Q ds k n pc Ls (.double v :: St) := by
  subst hp
  exact K.pure fun T locs X target h => XS.dstore X.here C.1 rfl (hb C.2.2.2.1 hd) rfl hl h
theorem g_aloadN (C : Cx p s m meth c Z a0 own bytes ml rt nm) (pc' : Nat) {i : Fin 4} {v : Value} (hd : decode bytes pc = .ok (.aload_n i, 1)) (hp : pc + 1 = pc') (hl : Ls[i.val]? = some (.val v)) (hv : v.isRef = true) (K : Go p l e R s m args below meth c h0 Q ds k n pc' Ls (v :: St)) : Go p l e R s m args below meth c h0 Q ds k n pc Ls St := by
  subst hp
  exact K.pure fun T locs X target h => XS.aloadN X.here C.1 rfl (hb C.2.2.2.1 hd) hl hv h
theorem g_aload (C : Cx p s m meth c Z a0 own bytes ml rt nm) (pc' : Nat) {i : Nat} {v : Value} (hd : decode bytes pc = .ok (.aload i, 2)) (hp : pc + 2 = pc') (hl : Ls[i]? = some (.val v)) (hv : v.isRef = true) (K : Go p l e R s m args below meth c h0 Q ds k n pc' Ls (v :: St)) : Go p l e R s m args below meth c h0 Q ds k n pc Ls St := by
  subst hp
  exact K.pure fun T locs X target h => XS.aload X.here C.1 rfl (hb C.2.2.2.1 hd) hl hv h
theorem g_astoreN (C : Cx p s m meth c Z a0 own bytes ml rt nm) (pc' : Nat) {i : Fin 4} {v : Value} (Ls' : Array Slot) (hd : decode bytes pc = .ok (.astore_n i, 1)) (hp : pc + 1 = pc') (hv : v.isRef = true) (hl : storeLocals Ls i.val v = some Ls') (K : Go p l e R s m args below meth c h0 Q ds k n pc' Ls' St) : Go p l e R s m args below meth c h0 Q ds k n pc Ls (v :: St) := by
  subst hp
  exact K.pure fun T locs X target h => XS.astoreN X.here C.1 rfl (hb C.2.2.2.1 hd) rfl hv hl h
theorem g_astore (C : Cx p s m meth c Z a0 own bytes ml rt nm) (pc' : Nat) {i : Nat} {v : Value} (Ls' : Array Slot) (hd : decode bytes pc = .ok (.astore i, 2)) (hp : pc + 2 = pc') (hv : v.isRef = true) (hl : storeLocals Ls i v = some Ls') (K : Go p l e R s m args below meth c h0 Q ds k n pc' Ls' St) : Go p l e R s m args below meth c h0 Q ds k n pc Ls (v :: St) := by
  subst hp
  exact K.pure fun T locs X target h => XS.astore X.here C.1 rfl (hb C.2.2.2.1 hd) rfl hv hl h
theorem g_iinc (C : Cx p s m meth c Z a0 own bytes ml rt nm) (pc' : Nat) {i : Nat} {cst : Int} {x : Int32} (z : Int32) (Ls' : Array Slot) (hd : decode bytes pc = .ok (.iinc i cst, 3)) (hp : pc + 3 = pc') (hl : Ls[i]? = some (.val (.int x))) (hz : x + Int32.ofInt cst = z) (hl' : storeLocals Ls i (.int z) = some Ls') (K : Go p l e R s m args below meth c h0 Q ds k n pc' Ls' St) : Go p l e R s m args below meth c h0 Q ds k n pc Ls St := by
  subst hp hz
  exact K.pure fun T locs X target h => XS.iinc X.here C.1 rfl (hb C.2.2.2.1 hd) hl hl' h
theorem g_dup (C : Cx p s m meth c Z a0 own bytes ml rt nm) (pc' : Nat) {v : Value} (hd : decode bytes pc = .ok (.dup, 1)) (hp : pc + 1 = pc') (hv : v.category = 1) (K : Go p l e R s m args below meth c h0 Q ds k n pc' Ls (v :: v :: St)) : Go p l e R s m args below meth c h0 Q ds k n pc Ls (v :: St) := by
  subst hp
  exact K.pure fun T locs X target h => XS.dup X.here C.1 rfl (hb C.2.2.2.1 hd) rfl hv h
theorem g_pop (C : Cx p s m meth c Z a0 own bytes ml rt nm) (pc' : Nat) {v : Value} (hd : decode bytes pc = .ok (.pop, 1)) (hp : pc + 1 = pc') (hv : v.category = 1) (K : Go p l e R s m args below meth c h0 Q ds k n pc' Ls St) : Go p l e R s m args below meth c h0 Q ds k n pc Ls (v :: St) := by
  subst hp
  exact K.pure fun T locs X target h => XS.pop X.here C.1 rfl (hb C.2.2.2.1 hd) rfl hv h
theorem g_dupX1 (C : Cx p s m meth c Z a0 own bytes ml rt nm) (pc' : Nat) {v w : Value} (hd : decode bytes pc = .ok (.dup_x1, 1)) (hp : pc + 1 = pc') (hv : v.category = 1) (hw : w.category = 1) (K : Go p l e R s m args below meth c h0 Q ds k n pc' Ls (v :: w :: v :: St)) : Go p l e R s m args below meth c h0 Q ds k n pc Ls (v :: w :: St) := by
  subst hp
  exact K.pure fun T locs X target h => XS.dupX1 X.here C.1 rfl (hb C.2.2.2.1 hd) rfl hv hw h
theorem g_dup2 (C : Cx p s m meth c Z a0 own bytes ml rt nm) (pc' : Nat) {v w : Value} (hd : decode bytes pc = .ok (.dup2, 1)) (hp : pc + 1 = pc') (hv : v.category = 1) (hw : w.category = 1) (K : Go p l e R s m args below meth c h0 Q ds k n pc' Ls (v :: w :: v :: w :: St)) : Go p l e R s m args below meth c h0 Q ds k n pc Ls (v :: w :: St) := by
  subst hp
  exact K.pure fun T locs X target h => XT.dup2 X.here C.1 rfl (hb C.2.2.2.1 hd) rfl hv hw h
theorem g_goto (C : Cx p s m meth c Z a0 own bytes ml rt nm) (pc' : Nat) {o : Int} (hd : decode bytes pc = .ok (.goto o, 3)) (ho : 0 ≤ (pc : Int) + o) (hp : ((pc : Int) + o).toNat = pc') (K : Go p l e R s m args below meth c h0 Q ds k n pc' Ls St) : Go p l e R s m args below meth c h0 Q ds k n pc Ls St := K.pure fun T locs X target h => XS.goto X.here C.1 rfl rfl (hb C.2.2.2.1 hd) ho hp h
theorem g_ifY (C : Cx p s m meth c Z a0 own bytes ml rt nm) (pc' : Nat) {cd : ClassFile.Cond} {x : Int32} {o : Int} (hd : decode bytes pc = .ok (.ifCond cd o, 3)) (hc : if_icmp.holds cd x 0 = true) (ho : 0 ≤ (pc : Int) + o) (hp : ((pc : Int) + o).toNat = pc') (K : Go p l e R s m args below meth c h0 Q ds k n pc' Ls St) : Go p l e R s m args below meth c h0 Q ds k n pc Ls (.int x :: St) := K.pure fun T locs X target h => XS.ifYes X.here C.1 rfl rfl (hb C.2.2.2.1 hd) rfl ((if0 _ _).trans hc) ho hp h
theorem g_ifN (C : Cx p s m meth c Z a0 own bytes ml rt nm) (pc' : Nat) {cd : ClassFile.Cond} {x : Int32} {o : Int} (hd : decode bytes pc = .ok (.ifCond cd o, 3)) (hc : if_icmp.holds cd x 0 = false) (hp : pc + 3 = pc') (K : Go p l e R s m args below meth c h0 Q ds k n pc' Ls St) : Go p l e R s m args below meth c h0 Q ds k n pc Ls (.int x :: St) := by
  subst hp
  exact K.pure fun T locs X target h => XS.ifNo X.here C.1 rfl (hb C.2.2.2.1 hd) rfl ((if0 _ _).trans hc) h
theorem g_icY (C : Cx p s m meth c Z a0 own bytes ml rt nm) (pc' : Nat) {cd : ClassFile.Cond} {x y : Int32} {o : Int} (hd : decode bytes pc = .ok (.if_icmp cd o, 3)) (hc : if_icmp.holds cd x y = true) (ho : 0 ≤ (pc : Int) + o) (hp : ((pc : Int) + o).toNat = pc') (K : Go p l e R s m args below meth c h0 Q ds k n pc' Ls St) : Go p l e R s m args below meth c h0 Q ds k n pc Ls (.int y :: .int x :: St) := K.pure fun T locs X target h => XS.icmpYes X.here C.1 rfl rfl (hb C.2.2.2.1 hd) rfl hc ho hp h
theorem g_icN (C : Cx p s m meth c Z a0 own bytes ml rt nm) (pc' : Nat) {cd : ClassFile.Cond} {x y : Int32} {o : Int} (hd : decode bytes pc = .ok (.if_icmp cd o, 3)) (hc : if_icmp.holds cd x y = false) (hp : pc + 3 = pc') (K : Go p l e R s m args below meth c h0 Q ds k n pc' Ls St) : Go p l e R s m args below meth c h0 Q ds k n pc Ls (.int y :: .int x :: St) := by
  subst hp
  exact K.pure fun T locs X target h => XS.icmpNo X.here C.1 rfl (hb C.2.2.2.1 hd) rfl hc h
theorem g_nullY (C : Cx p s m meth c Z a0 own bytes ml rt nm) (pc' : Nat) {o : Int} (hd : decode bytes pc = .ok (.ifnull o, 3)) (ho : 0 ≤ (pc : Int) + o) (hp : ((pc : Int) + o).toNat = pc') (K : Go p l e R s m args below meth c h0 Q ds k n pc' Ls St) : Go p l e R s m args below meth c h0 Q ds k n pc Ls (.null :: St) := K.pure fun T locs X target h => XS.ifnullYes X.here C.1 rfl rfl (hb C.2.2.2.1 hd) rfl ho hp h
theorem g_acY (C : Cx p s m meth c Z a0 own bytes ml rt nm) (pc' : Nat) {cd : ClassFile.ACond} {x y : Value} {o : Int} (hd : decode bytes pc = .ok (.if_acmp cd o, 3)) (hvx : x.isRef = true) (hvy : y.isRef = true) (hc : XT.acmp cd x y = true) (ho : 0 ≤ (pc : Int) + o) (hp : ((pc : Int) + o).toNat = pc') (K : Go p l e R s m args below meth c h0 Q ds k n pc' Ls St) : Go p l e R s m args below meth c h0 Q ds k n pc Ls (y :: x :: St) := K.pure fun T locs X target h => XT.acmpYes X.here C.1 rfl rfl (hb C.2.2.2.1 hd) rfl hvx hvy hc ho hp h
theorem g_acN (C : Cx p s m meth c Z a0 own bytes ml rt nm) (pc' : Nat) {cd : ClassFile.ACond} {x y : Value} {o : Int} (hd : decode bytes pc = .ok (.if_acmp cd o, 3)) (hvx : x.isRef = true) (hvy : y.isRef = true) (hc : XT.acmp cd x y = false) (hp : pc + 3 = pc') (K : Go p l e R s m args below meth c h0 Q ds k n pc' Ls St) : Go p l e R s m args below meth c h0 Q ds k n pc Ls (y :: x :: St) := by
  subst hp
  exact K.pure fun T locs X target h => XT.acmpNo X.here C.1 rfl (hb C.2.2.2.1 hd) rfl hvx hvy hc h
theorem g_ldcI (C : Cx p s m meth c Z a0 own bytes ml rt nm) (pc' : Nat) {i : Nat} (v : Int32) (hd : decode bytes pc = .ok (.ldc i, 2)) (hp : pc + 2 = pc') (w : Jvm.Cond.constant own i v ∈ tables_1) (K : Go p l e R s m args below meth c h0 Q ds k n pc' Ls (.int v :: St)) : Go p l e R s m args below meth c h0 Q ds k n pc Ls St := by
  subst hp
  exact K.pure fun T locs X target h => X.ldcInt C.1 C.2.2.2.2.2.1 (mvT C.2.1 (C.2.2.1 _ w)) (g := mkF m pc Ls St) rfl (hb C.2.2.2.1 hd) _ h
theorem g_ldcJ (C : Cx p s m meth c Z a0 own bytes ml rt nm) (pc' : Nat) {i : Nat} (v : Int64) (hd : decode bytes pc = .ok (.ldc2_w i, 3)) (hp : pc + 3 = pc') (w : Jvm.Cond.constantLong own i v ∈ tables_1) (K : Go p l e R s m args below meth c h0 Q ds k n pc' Ls (.long v :: St)) : Go p l e R s m args below meth c h0 Q ds k n pc Ls St := by
  subst hp
  exact K.pure fun T locs X target h => X.ldc2Long C.1 C.2.2.2.2.2.1 (mvT C.2.1 (C.2.2.1 _ w)) (g := mkF m pc Ls St) rfl (hb C.2.2.2.1 hd) _ h
/-! arrays -/
theorem IA.arr {ty : FieldType} {vs : List Value} {a : Addr} {cl : Cell} (hc : h[a]? = some cl) (d : IA Z ty vs cl) : Arr Z h a cl ty := ⟨hc, d.1, d.2.1⟩
theorem IA.size {ty : FieldType} {vs : List Value} {cl : Cell} (d : IA Z ty vs cl) : cl.slots.size = vs.length := by rw [← d.2.2]; simp
theorem IA.get {ty : FieldType} {vs : List Value} {cl : Cell} (d : IA Z ty vs cl) (i : Nat) : cl.slots[i]? = vs[i]? := by rw [← d.2.2]; simp
theorem IA.set {ty : FieldType} {vs : List Value} {cl : Cell} (d : IA Z ty vs cl) (i : Nat) (v : Value) : IA Z ty (vs.set i v) (cl.setSlot i v) := by
  refine ⟨d.1, d.2.1, ?_⟩
  rw [← d.2.2]
  simp [Cell.setSlot, Array.toList_setIfInBounds]
theorem in_of {ty : FieldType} {vs : List Value} {cl : Cell} (d : IA Z ty vs cl) {j : Int32} (hj : ¬ j < 0) (hlt : j.toNatClampNeg < vs.length) : ¬ (j < 0 ∨ cl.slots.size ≤ j.toNatClampNeg) := by
  rw [d.size]; rintro (q | q)
  · exact hj q
  · omega
theorem g_length (C : Cx p s m meth c Z a0 own bytes ml rt nm) (pc' : Nat) {i : Nat} {a : Addr} {ty : FieldType} {vs : List Value} (z : Int32) (hi : ds[i]? = some (a, IA Z ty vs)) (hd : decode bytes pc = .ok (.arraylength, 1)) (hp : pc + 1 = pc') (hz : vs.length.toInt32 = z) (K : Go p l e R s m args below meth c h0 Q ds k n pc' Ls (.int z :: St)) : Go p l e R s m args below meth c h0 Q ds k n pc Ls (.ref a :: St) := fun T locs X W N => by
  subst hp hz
  obtain ⟨ha, cl, hc, dc⟩ := W.at hi
  refine (K T locs X W N).pre fun t h => X.arraylength C.1 hc (State.isArrayOf_alike C.2.1.alike dc.1) (g := mkF m pc Ls (.ref a :: St)) rfl rfl (hb C.2.2.2.1 hd) t ?_
  rw [dc.size]; exact h
theorem g_aload_of (pc' : Nat) {i : Nat} {a : Addr} {ty : FieldType} {vs : List Value} (hi : ds[i]? = some (a, IA Z ty vs)) {j : Int32} (hj : ¬ j < 0) {v : Value} (hv : vs[j.toNatClampNeg]? = some v)
    (H : ∀ T locs (cl : Cell), Stand p l e R s m args below meth c T locs k n → T.heap[a]? = some cl → IA Z ty vs cl → ¬ (j < 0 ∨ cl.slots.size ≤ j.toNatClampNeg) → cl.slots[j.toNatClampNeg]? = some v → ∀ t, Steps p.tables e below (T.setTop (mkF m pc' Ls (v :: St))) t → Steps p.tables e below (T.setTop (mkF m pc Ls (.int j :: .ref a :: St))) t)
    (K : Go p l e R s m args below meth c h0 Q ds k n pc' Ls (v :: St)) : Go p l e R s m args below meth c h0 Q ds k n pc Ls (.int j :: .ref a :: St) := fun T locs X W N => by
  obtain ⟨ha, cl, hc, dc⟩ := W.at hi
  have hlt : j.toNatClampNeg < vs.length := (List.getElem?_eq_some_iff.mp hv).1
  exact (K T locs X W N).pre (H T locs cl X hc dc (in_of dc hj hlt) (by rw [dc.get]; exact hv))
theorem g_iaload (C : Cx p s m meth c Z a0 own bytes ml rt nm) (pc' : Nat) {i : Nat} {a : Addr} {xs : List Int32} (hi : ds[i]? = some (a, IA Z .int (ints xs))) (hd : decode bytes pc = .ok (.iaload, 1)) (hp : pc + 1 = pc') {j : Int32} (hj : ¬ j < 0) (v : Int32) (hv : xs[j.toNatClampNeg]? = some v) (K : Go p l e R s m args below meth c h0 Q ds k n pc' Ls (.int v :: St)) : Go p l e R s m args below meth c h0 Q ds k n pc Ls (.int j :: .ref a :: St) :=
  g_aload_of pc' hi hj (v := .int v) (by simp [hv]) (fun T locs cl X hc dc hin hat t h => by subst hp; exact X.iaload C.1 hc (State.isArrayOf_alike C.2.1.alike dc.1) dc.2.1 hin hat (g := mkF m pc Ls (.int j :: .ref a :: St)) rfl rfl (hb C.2.2.2.1 hd) t h) K
theorem g_caload (C : Cx p s m meth c Z a0 own bytes ml rt nm) (pc' : Nat) {i : Nat} {a : Addr} {xs : List Int32} (hi : ds[i]? = some (a, IA Z .char (ints xs))) (hd : decode bytes pc = .ok (.caload, 1)) (hp : pc + 1 = pc') {j : Int32} (hj : ¬ j < 0) (v : Int32) (hv : xs[j.toNatClampNeg]? = some v) (K : Go p l e R s m args below meth c h0 Q ds k n pc' Ls (.int v :: St)) : Go p l e R s m args below meth c h0 Q ds k n pc Ls (.int j :: .ref a :: St) :=
  g_aload_of pc' hi hj (v := .int v) (by simp [hv]) (fun T locs cl X hc dc hin hat t h => by subst hp; exact X.caload C.1 hc (State.isArrayOf_alike C.2.1.alike dc.1) dc.2.1 hin hat (g := mkF m pc Ls (.int j :: .ref a :: St)) rfl rfl (hb C.2.2.2.1 hd) t h) K
theorem g_baload (C : Cx p s m meth c Z a0 own bytes ml rt nm) (pc' : Nat) {i : Nat} {a : Addr} {xs : List Int32} (hi : ds[i]? = some (a, IA Z .byte (ints xs))) (hd : decode bytes pc = .ok (.baload, 1)) (hp : pc + 1 = pc') {j : Int32} (hj : ¬ j < 0) (v : Int32) (hv : xs[j.toNatClampNeg]? = some v) (K : Go p l e R s m args below meth c h0 Q ds k n pc' Ls (.int v :: St)) : Go p l e R s m args below meth c h0 Q ds k n pc Ls (.int j :: .ref a :: St) :=
  g_aload_of pc' hi hj (v := .int v) (by simp [hv]) (fun T locs cl X hc dc hin hat t h => by subst hp; exact X.baloadBytes C.1 hc (State.isArrayOf_alike C.2.1.alike dc.1) dc.2.1 hin hat (g := mkF m pc Ls (.int j :: .ref a :: St)) rfl rfl (hb C.2.2.2.1 hd) t h) K
theorem g_aaload (C : Cx p s m meth c Z a0 own bytes ml rt nm) (pc' : Nat) {i : Nat} {a : Addr} {ty : FieldType} {vs : List Value} (hi : ds[i]? = some (a, IA Z ty vs)) (hty : ty.isReference = true) (hd : decode bytes pc = .ok (.aaload, 1)) (hp : pc + 1 = pc') {j : Int32} (hj : ¬ j < 0) (v : Value) (hv : vs[j.toNatClampNeg]? = some v) (K : Go p l e R s m args below meth c h0 Q ds k n pc' Ls (v :: St)) : Go p l e R s m args below meth c h0 Q ds k n pc Ls (.int j :: .ref a :: St) :=
  g_aload_of pc' hi hj hv (fun T locs cl X hc dc hin hat t h => by subst hp; exact X.aaload C.1 hc (State.isArrayOf_alike C.2.1.alike dc.1) hty dc.2.1 hin hat (g := mkF m pc Ls (.int j :: .ref a :: St)) rfl rfl (hb C.2.2.2.1 hd) t h) K
theorem g_astore_of (C : Cx p s m meth c Z a0 own bytes ml rt nm) (pc' : Nat) {i : Nat} {a : Addr} {ty : FieldType} {vs vs' : List Value} (ds' : Wd) (hi : ds[i]? = some (a, IA Z ty vs)) {j : Int32} (hj : ¬ j < 0) (hlt : j.toNatClampNeg < vs.length) {v w : Value} (hvs : vs.set j.toNatClampNeg v = vs') (hds : ds.set i (a, IA Z ty vs') = ds')
    (H : ∀ T locs (cl : Cell), Stand p l e R s m args below meth c T locs k n → Arr Z T.heap a cl ty → ¬ (j < 0 ∨ cl.slots.size ≤ j.toNatClampNeg) → ∃ T' h', Stand p l e R s m args below meth c T' (locs ++ [⟨a, j.toNatClampNeg⟩]) k n ∧ T'.heap = h' ∧ Wr T.heap h' a j.toNatClampNeg v ∧ ∀ t, Steps p.tables e below (T'.setTop (mkF m pc' Ls St)) t → Steps p.tables e below (T.setTop (mkF m pc Ls (w :: .int j :: .ref a :: St))) t)
    (K : Go p l e R s m args below meth c h0 Q ds' k n pc' Ls St) : Go p l e R s m args below meth c h0 Q ds k n pc Ls (w :: .int j :: .ref a :: St) := fun T locs X W N => by
  subst hds hvs
  obtain ⟨ha, cl, hc, dc⟩ := W.at hi
  obtain ⟨T', h', X', e', wr, st⟩ := H T locs cl X (dc.arr hc) (in_of dc hj hlt)
  exact (K T' _ X' (by rw [e']; exact W.wr hi wr (fun c2 h2 _ d2 => d2.set _ _)) (Fr.snoc X' N ha)).pre st
theorem ints_set (xs : List Int32) (i : Nat) (v : Int32) : (ints xs).set i (.int v) = ints (xs.set i v) := by simp [ints, List.map_set]
theorem g_iastore (C : Cx p s m meth c Z a0 own bytes ml rt nm) (pc' : Nat) {i : Nat} {a : Addr} {xs : List Int32} (xs' : List Int32) (ds' : Wd) (hi : ds[i]? = some (a, IA Z .int (ints xs))) (hd : decode bytes pc = .ok (.iastore, 1)) (hp : pc + 1 = pc') {j v : Int32} (hj : ¬ j < 0) (hlt : j.toNatClampNeg < xs.length) (hx : xs.set j.toNatClampNeg v = xs') (hds : ds.set i (a, IA Z .int (ints xs')) = ds')
    (K : Go p l e R s m args below meth c h0 Q ds' k n pc' Ls St) : Go p l e R s m args below meth c h0 Q ds k n pc Ls (.int v :: .int j :: .ref a :: St) :=
  g_astore_of C pc' ds' hi hj (by simpa using hlt) (v := .int v) (vs' := ints xs') (by rw [ints_set, hx]) hds (fun T locs cl X A hin => by
    subst hp
    exact stI X C.1 C.2.1 rfl A hin (g := mkF m pc Ls (.int v :: .int j :: .ref a :: St)) rfl rfl (hb C.2.2.2.1 hd)) K
theorem g_castore (C : Cx p s m meth c Z a0 own bytes ml rt nm) (pc' : Nat) {i : Nat} {a : Addr} {xs : List Int32} (xs' : List Int32) (ds' : Wd) (hi : ds[i]? = some (a, IA Z .char (ints xs))) (hd : decode bytes pc = .ok (.castore, 1)) (hp : pc + 1 = pc') {j v : Int32} (hj : ¬ j < 0) (hlt : j.toNatClampNeg < xs.length) (hx : xs.set j.toNatClampNeg (nar .char v) = xs') (hds : ds.set i (a, IA Z .char (ints xs')) = ds')
    (K : Go p l e R s m args below meth c h0 Q ds' k n pc' Ls St) : Go p l e R s m args below meth c h0 Q ds k n pc Ls (.int v :: .int j :: .ref a :: St) :=
  g_astore_of C pc' ds' hi hj (by simpa using hlt) (v := .int (nar .char v)) (vs' := ints xs') (by rw [ints_set, hx]) hds (fun T locs cl X A hin => by
    subst hp
    exact stC X C.1 C.2.1 rfl A hin (g := mkF m pc Ls (.int v :: .int j :: .ref a :: St)) rfl rfl (hb C.2.2.2.1 hd)) K
theorem g_bastore (C : Cx p s m meth c Z a0 own bytes ml rt nm) (pc' : Nat) {i : Nat} {a : Addr} {xs : List Int32} (xs' : List Int32) (ds' : Wd) (hi : ds[i]? = some (a, IA Z .byte (ints xs))) (hd : decode bytes pc = .ok (.bastore, 1)) (hp : pc + 1 = pc') {j v : Int32} (hj : ¬ j < 0) (hlt : j.toNatClampNeg < xs.length) (hx : xs.set j.toNatClampNeg (nar .byte v) = xs') (hds : ds.set i (a, IA Z .byte (ints xs')) = ds')
    (K : Go p l e R s m args below meth c h0 Q ds' k n pc' Ls St) : Go p l e R s m args below meth c h0 Q ds k n pc Ls (.int v :: .int j :: .ref a :: St) :=
  g_astore_of C pc' ds' hi hj (by simpa using hlt) (v := .int (nar .byte v)) (vs' := ints xs') (by rw [ints_set, hx]) hds (fun T locs cl X A hin => by
    subst hp
    exact stB X C.1 C.2.1 rfl A hin (g := mkF m pc Ls (.int v :: .int j :: .ref a :: St)) rfl rfl (hb C.2.2.2.1 hd)) K
theorem IA.new {cA : ClassId} {ty : FieldType} {z : Int32} {a : Addr} (A : Arr Z h a (newA cA ty z) ty) : IA Z ty (List.replicate z.toNatClampNeg (defaultValue ty)) (newA cA ty z) := ⟨A.2.1, A.2.2, by simp [newA]⟩
theorem g_newarray (C : Cx p s m meth c Z a0 own bytes ml rt nm) (pc' : Nat) {aty : ArrayType} {z : Int32} (vs : List Value) (cap : Nat) (w : Jvm.Cond.arrayClass (newarray.typeOf aty) ∈ tables_1) (hd : decode bytes pc = .ok (.newarray aty, 2)) (hp : pc + 2 = pc') (hz : ¬ z < 0) (hcap : z.toNatClampNeg ≤ cap) (hcb : cap * 8 ≤ 536870912) (hk : k + 1 ≤ R.cells) (hn : n + cap ≤ R.slots)
    (hvs : List.replicate z.toNatClampNeg (defaultValue (newarray.typeOf aty)) = vs) (K : ∀ a, Go p l e R s m args below meth c h0 Q (ds ++ [(a, IA Z (newarray.typeOf aty) vs)]) (k + 1) (n + cap) pc' Ls (.ref a :: St)) : Go p l e R s m args below meth c h0 Q ds k n pc Ls (.int z :: St) := fun T locs X W N => by
  subst hp hvs
  obtain ⟨T', h', cA, X', e', E, A, st⟩ := newP X C.1 C.2.1 (C.2.2.1 _ w) rfl (g := mkF m pc Ls (.int z :: St)) rfl (hb C.2.2.2.1 hd) rfl hz hcap hcb hk hn
  exact (K T.heap.size T' locs X' (by rw [e']; exact W.new E A.1 (IA.new A)) N).pre st
/-! objects -/
theorem g_getfield (C : Cx p s m meth c Z a0 own bytes ml rt nm) (pc' : Nat) {i j idx : Nat} {a : Addr} {Cn O nf d : String} {v : Value} {fs : List Fv} (hi : ds[i]? = some (a, OB Z a0 Cn fs)) (hf : fs[j]? = some (O, nf, d, v)) (hd : decode bytes pc = .ok (.getfield idx, 3)) (hp : pc + 3 = pc') (w : Jvm.Cond.fieldLink own idx O nf d ∈ tables_1)
    (K : Go p l e R s m args below meth c h0 Q ds k n pc' Ls (v :: St)) : Go p l e R s m args below meth c h0 Q ds k n pc Ls (.ref a :: St) := fun T locs X W N => by
  subst hp
  obtain ⟨ha, cl, hc, dc⟩ := W.at hi
  obtain ⟨T', X', e', st⟩ := getF X C.1 C.2.1 C.2.2.2.2.2.1 (host := "") (Or.inl (C.2.2.1 _ w)) Via.refl rfl (dc.fld hc (List.mem_of_getElem? hf)) (g := mkF m pc Ls (.ref a :: St)) rfl rfl (hb C.2.2.2.1 hd)
  exact (K T' locs X' (by rw [e']; exact W) N).pre st
theorem OB.put {Cn O nf d : String} {v old : Value} {fs : List Fv} {j : Nat} {a : Addr} {cl : Cell} (hc : h[a]? = some cl) (dc : OB Z a0 Cn fs cl) (hf : fs[j]? = some (O, nf, d, old)) (hnd : (fs.map (fun x => x.2.1)).Nodup) (wr : Wr h h' a (Jvm.RoadKit.slotOf Z O nf d) v) : ∃ cl' : Cell, h'[a]? = some cl' ∧ OB Z a0 Cn (fs.set j (O, nf, d, v)) cl' := by
  have E : Exa Z h' a Cn := (dc.exa hc).wr wr
  obtain ⟨cl', k', hc', -⟩ := id E
  refine ⟨cl', hc', OB.of E hc' fun x hx => ?_⟩
  obtain ⟨q, hq⟩ := List.getElem?_of_mem hx
  have Fj := dc.fld hc (List.mem_of_getElem? hf)
  obtain ⟨-, Lj, tj, hj⟩ := dc.2 _ (List.mem_of_getElem? hf)
  rw [List.getElem?_set] at hq
  split at hq
  · rename_i hjq
    split at hq
    · cases hq; exact ⟨Fj.same wr, Lj, tj, hj⟩
    · cases hq
  · rename_i hjq
    obtain ⟨O', n', d', v'⟩ := x
    have Fx := dc.fld hc (List.mem_of_getElem? hq)
    obtain ⟨-, Lx, tx, hx'⟩ := dc.2 _ (List.mem_of_getElem? hq)
    refine ⟨Fx.other wr (Or.inr (slot_ne Lx Lj ?_ hx' hj)), Lx, tx, hx'⟩
    intro en
    apply hjq
    obtain ⟨l1, e1⟩ := List.getElem?_eq_some_iff.mp hf
    obtain ⟨l2, e2⟩ := List.getElem?_eq_some_iff.mp hq
    have g : (fs.map (fun x => x.2.1))[j]'(by simpa using l1) = (fs.map (fun x => x.2.1))[q]'(by simpa using l2) := by simp only [List.getElem_map, e1, e2]; exact en.symm
    exact nodup_inj hnd _ _ g
theorem Wld.wr' {i : Nat} {a : Addr} {d d' : Desc} {sl : Nat} {v : Value} {cl' : Cell} (W : Wld h0 ds h) (hi : ds[i]? = some (a, d)) (wr : Wr h h' a sl v) (hc' : h'[a]? = some cl') (dc' : d' cl') : Wld h0 (ds.set i (a, d')) h' :=
  W.wr hi wr fun c2 h2 hsl _ => by
    obtain ⟨c', e1, -, -, -, -, -, e7⟩ := wr_at wr h2
    cases e1.symm.trans hc'
    rw [← (e7 rfl).1]; exact dc'
theorem g_putfield (C : Cx p s m meth c Z a0 own bytes ml rt nm) (pc' : Nat) {i j idx kk : Nat} {a : Addr} {Cn O nf d : String} {v v' old : Value} {ty : FieldType} {fs : List Fv} (fs' : List Fv) (ds' : Wd) (hi : ds[i]? = some (a, OB Z a0 Cn fs)) (hf : fs[j]? = some (O, nf, d, old)) (hd : decode bytes pc = .ok (.putfield idx, 3)) (hp : pc + 3 = pc')
    (w : Jvm.Cond.fieldLink own idx O nf d ∈ tables_1) (L : Jvm.Cond.lays Cn O nf d ∈ tables_1 ∨ (Jvm.Cond.laysFinal Cn O nf d ∈ tables_1 ∧ own = O ∧ nm = "<init>")) (wi : Jvm.Cond.instantiable Cn kk ∈ tables_1) (hty : parseFieldDescriptor d = some ty) (hnr : narrow ty v = v') (hft : fits ty v' = true) (hnd : (fs.map (fun x => x.2.1)).Nodup)
    (hfs : fs.set j (O, nf, d, v') = fs') (hds : ds.set i (a, OB Z a0 Cn fs') = ds') (K : Go p l e R s m args below meth c h0 Q ds' k n pc' Ls St) : Go p l e R s m args below meth c h0 Q ds k n pc Ls (v :: .ref a :: St) := fun T locs X W N => by
  subst hp hfs hds
  obtain ⟨ha, cl, hc, dc⟩ := W.at hi
  obtain ⟨T', h', X', e', wr, st⟩ := putFN X C.1 C.2.1 C.2.2.2.2.2.1 (C.2.2.1 _ w) Via.refl rfl (dc.fld hc (List.mem_of_getElem? hf)) (dc.exa hc) (L.imp (fun q => C.2.2.1 _ q) (fun q => ⟨C.2.2.1 _ q.1, q.2.1, C.2.2.2.2.2.2.2.2.trans q.2.2⟩)) (C.2.2.1 _ wi) hty hnr hft (g := mkF m pc Ls (v :: .ref a :: St)) rfl rfl (hb C.2.2.2.1 hd)
  obtain ⟨cl', hc', dc'⟩ := dc.put hc hf hnd wr
  exact (K T' _ X' (by rw [e']; exact W.wr' hi wr hc' dc') (Fr.snoc X' N ha)).pre st
theorem g_new (C : Cx p s m meth c Z a0 own bytes ml rt nm) (pc' : Nat) {idx sz : Nat} {Cn : String} (fs : List Fv) (w : Jvm.Cond.classLink own idx Cn ∈ tables_1) (wi : Jvm.Cond.instantiable Cn sz ∈ tables_1) (wz : Jvm.Cond.initialized Cn ∈ tables_1) (hd : decode bytes pc = .ok (.new idx, 3)) (hp : pc + 3 = pc') (hk : k + 1 ≤ R.cells) (hn : n + sz ≤ R.slots)
    (hfs : ∀ x ∈ fs, (Jvm.Cond.lays Cn x.1 x.2.1 x.2.2.1 ∈ tables_1 ∨ Jvm.Cond.laysFinal Cn x.1 x.2.1 x.2.2.1 ∈ tables_1) ∧ ∃ t, parseFieldDescriptor x.2.2.1 = some t ∧ x.2.2.2 = defaultValue t)
    (K : ∀ a, Go p l e R s m args below meth c h0 Q (ds ++ [(a, OB Z a0 Cn fs)]) (k + 1) (n + sz) pc' Ls (.ref a :: St)) : Go p l e R s m args below meth c h0 Q ds k n pc Ls St := fun T locs X W N => by
  subst hp
  obtain ⟨T', h', X', e', E, A, D, ⟨cell, hcell, -⟩, st⟩ := newO X C.1 C.2.1 C.2.2.2.2.2.1 (C.2.2.1 _ w) (C.2.2.1 _ wi) (C.2.2.1 _ wz) rfl (g := mkF m pc Ls St) rfl (hb C.2.2.2.1 hd) hk hn
  refine (K T.heap.size T' locs X' (by
    rw [e']
    exact W.new E hcell (OB.of A hcell fun x hx => by
      obtain ⟨L, t, ht, hv⟩ := hfs x hx
      have L' : Laid Z a0 Cn x.1 x.2.1 x.2.2.1 := L.imp (fun q => C.2.2.1 _ q) (fun q => C.2.2.1 _ q)
      exact ⟨by rw [hv]; exact D L' ht, L', t, ht⟩)) N).pre st
theorem g_initO (C : Cx p s m meth c Z a0 own bytes ml rt nm) (pc' W0 : Nat) {idx : Nat} {a : Addr} (w1 : Jvm.Cond.methodLink own idx Lib.objectInit ∈ tables_1) (w2 : Jvm.Cond.instanceMethod Lib.objectInit ∈ tables_1) (w3 : Jvm.Cond.code Lib.objectInit ⟨#[0xb1]⟩ 1 none ∈ tables_1) (hd : decode bytes pc = .ok (.invokespecial idx, 3)) (hp : pc + 3 = pc') (hsz : Ls.size = ml) (hf : 1 ≤ R.frames) (hW : (St.map fun v => v.category).sum ≤ W0) (hl : W0 + 12 ≤ R.locals)
    (K : Go p l e R s m args below meth c h0 Q ds k n pc' Ls St) : Go p l e R s m args below meth c h0 Q ds k n pc Ls (.ref a :: St) := fun T locs X W N => by
  subst hp
  obtain ⟨T', X', e', st⟩ := initO X C.1 C.2.1 C.2.2.2.2.2.1 (C.2.2.1 _ w1) (C.2.2.1 _ w2) (C.2.2.1 _ w3) rfl (g := mkF m pc Ls (.ref a :: St)) rfl (by rw [C.2.2.2.2.1]; exact hsz) rfl (hb C.2.2.2.1 hd) hf (W := W0) (by show 2 * 0 + _ ≤ _; omega) hl
  exact (K T' locs X' (by rw [e']; exact W) N).pre st
/-! statics -/
theorem g_getstatic (C : Cx p s m meth c Z a0 own bytes ml rt nm) (pc' : Nat) {idx : Nat} {O nf d : String} {v : Value} (S : Sta Z h0 O nf d v) (hd : decode bytes pc = .ok (.getstatic idx, 3)) (hp : pc + 3 = pc') (w : Jvm.Cond.fieldLink own idx O nf d ∈ tables_1)
    (K : Go p l e R s m args below meth c h0 Q ds k n pc' Ls (v :: St)) : Go p l e R s m args below meth c h0 Q ds k n pc Ls St := fun T locs X W N => by
  subst hp
  obtain ⟨T', X', e', st⟩ := getS (host := "") X C.1 C.2.1 C.2.2.2.2.2.1 (C.2.2.1 _ w) Via.refl rfl (S.ext W.extOf) (g := mkF m pc Ls St) rfl (hb C.2.2.2.1 hd)
  exact (K T' locs X' (by rw [e']; exact W) N).pre st
/-! calls -/
theorem Go.back {pc' : Nat} {St' : List Value} {Q' : Option Value → Wd → Prop} {rm : Room} {locs : List Loc} {A : State} (N : Fr h0.size locs)
    (H : ∃ (v : Option Value) (B : Pt), Stand p l e R s m args below meth c B.U B.locs B.cells B.slots ∧ (∃ L, (∃ ds', Q' v ds' ∧ Wld h0 ds' B.U.heap ∧ Fr h0.size L) ∧ B.locs = locs ++ L ∧ B.cells = k + rm.cells ∧ B.slots = n + rm.slots) ∧ ∀ t, Steps p.tables e below (B.U.setTop (mkF m pc' Ls (v.toList ++ St'))) t → Steps p.tables e below A t)
    (K : ∀ v ds', Q' v ds' → Go p l e R s m args below meth c h0 Q ds' (k + rm.cells) (n + rm.slots) pc' Ls (v.toList ++ St')) :
    Ends p.tables e below A (fun o t => ∃ v L, o = .returned v ∧ (∃ ds', Q v ds' ∧ Wld h0 ds' t.heap ∧ Fr h0.size L) ∧ FrameEnd s o t L R.cells R.slots) := by
  obtain ⟨v, ⟨U, L', c', s'⟩, X', ⟨L, ⟨ds', q, W', N'⟩, e1, e2, e3⟩, st⟩ := H
  dsimp only [Pt.U, Pt.locs, Pt.cells, Pt.slots] at X' W' e1 e2 e3 st
  subst e1 e2 e3
  exact (K v ds' q U _ X' W' (N.app N')).pre st
theorem g_static (C : Cx p s m meth c Z a0 own bytes ml rt nm) (pc' W0 : Nat) {idx : Nat} {y : MethodName} {bytes' : ByteArray} {ml' : Nat} {rt' : Option FieldType} {rm : Room} {argsL : List Value} {Q' : Option Value → Wd → Prop} (con : Con l Z y bytes' ml' rt' rm h0 argsL.toArray ds Q')
    (w1 : Jvm.Cond.methodLink own idx y ∈ tables_1) (w2 : Jvm.Cond.static y ∈ tables_1) (w3 : Jvm.Cond.initialized y.cls ∈ tables_1) (w4 : Jvm.Cond.code y bytes' ml' rt' ∈ tables_1) (hy : y.cls ≠ "java/lang/invoke/MethodHandle" ∧ y.cls ≠ "java/lang/invoke/VarHandle")
    (hd : decode bytes pc = .ok (.invokestatic idx, 3)) (hp : pc + 3 = pc') (hsz : Ls.size = ml) (hlen : ∀ sig, parseMethodDescriptor y.desc = some sig → argsL.length = sig.parameters.length) {St0 : List Value} (hst : St0 = argsL.reverse ++ St) (hW : (St.map fun v => v.category).sum ≤ W0) (hf : rm.frames + 1 ≤ R.frames) (hl : W0 + (ml' + 11) + rm.locals ≤ R.locals) (hk : k + rm.cells ≤ R.cells) (hn : n + rm.slots ≤ R.slots)
    (K : ∀ v ds', Q' v ds' → Go p l e R s m args below meth c h0 Q ds' (k + rm.cells) (n + rm.slots) pc' Ls (v.toList ++ St)) : Go p l e R s m args below meth c h0 Q ds k n pc Ls St0 := fun T locs X W N => by
  subst hp hst
  refine Go.back (pc' := pc + 3) (Ls := Ls) (St' := St) N ?_ K
  obtain ⟨v, vm₁, B, -, X', hpost, st⟩ := Jvm.LawKit.callS X C.1 (y := y) C.2.2.2.2.2.1 (mvT C.2.1 (C.2.2.1 _ w1)) (mvT C.2.1 (C.2.2.1 _ w2)) (mvT C.2.1 (C.2.2.1 _ w3)) (mvT C.2.1 (C.2.2.1 _ w4)) hy
    (backOf (W := W0) (Q := fun v hh L => ∃ ds', Q' v ds' ∧ Wld h0 ds' hh ∧ Fr h0.size L) (con T.heap W []) C.2.1 (C.2.2.1 _ w4) (C.2.2.1 _ w3) hf hl) (g := mkF m pc Ls (argsL.reverse ++ St)) rfl (by rw [C.2.2.2.2.1]; exact hsz) (argsL := argsL) (rest := St) hlen rfl (by show 2 * 0 + _ ≤ _; omega) (hb C.2.2.2.1 hd) (fun _ _ => ⟨rfl, rfl, hk, hn⟩)
  obtain ⟨L, q, e1, e2, e3⟩ := hpost
  exact ⟨v, B, X', ⟨L, q, e1, e2, e3⟩, st⟩
theorem g_special (C : Cx p s m meth c Z a0 own bytes ml rt nm) (pc' W0 : Nat) {idx : Nat} {y : MethodName} {bytes' : ByteArray} {ml' : Nat} {rm : Room} {a : Addr} {argsL : List Value} {Q' : Option Value → Wd → Prop} (con : Con l Z y bytes' ml' none rm h0 (.ref a :: argsL).toArray ds Q') (hy1 : y.name = "<init>")
    (w1 : Jvm.Cond.methodLink own idx y ∈ tables_1) (w2 : Jvm.Cond.instanceMethod y ∈ tables_1) (w3 : Jvm.Cond.initialized y.cls ∈ tables_1) (w4 : Jvm.Cond.code y bytes' ml' none ∈ tables_1) (hy : y.cls ≠ "java/lang/invoke/MethodHandle" ∧ y.cls ≠ "java/lang/invoke/VarHandle")
    (hd : decode bytes pc = .ok (.invokespecial idx, 3)) (hp : pc + 3 = pc') (hsz : Ls.size = ml) (hlen : ∀ sig, parseMethodDescriptor y.desc = some sig → argsL.length = sig.parameters.length) {St0 : List Value} (hst : St0 = argsL.reverse ++ .ref a :: St) (hW : (St.map fun v => v.category).sum ≤ W0) (hf : rm.frames + 1 ≤ R.frames) (hl : W0 + (ml' + 11) + rm.locals ≤ R.locals) (hk : k + rm.cells ≤ R.cells) (hn : n + rm.slots ≤ R.slots)
    (K : ∀ v ds', Q' v ds' → Go p l e R s m args below meth c h0 Q ds' (k + rm.cells) (n + rm.slots) pc' Ls (v.toList ++ St)) : Go p l e R s m args below meth c h0 Q ds k n pc Ls St0 := fun T locs X W N => by
  subst hp hst
  refine Go.back (pc' := pc + 3) (Ls := Ls) (St' := St) N ?_ K
  obtain ⟨v, vm₁, B, -, X', hpost, st⟩ := X.specialBack C.1 (y := y) hy1 C.2.2.2.2.2.1 (mvT C.2.1 (C.2.2.1 _ w1)) (mvT C.2.1 (C.2.2.1 _ w2)) (mvT C.2.1 (C.2.2.1 _ w4)) hy
    (backOf (W := W0) (Q := fun v hh L => ∃ ds', Q' v ds' ∧ Wld h0 ds' hh ∧ Fr h0.size L) (con T.heap W []) C.2.1 (C.2.2.1 _ w4) (C.2.2.1 _ w3) hf hl) (g := mkF m pc Ls (argsL.reverse ++ .ref a :: St)) rfl (by rw [C.2.2.2.2.1]; exact hsz) (Steps.refl _) (a := a) (argsL := argsL) (rest := St) hlen rfl (by show 2 * 0 + _ ≤ _; omega) (hb C.2.2.2.1 hd) (fun _ _ => ⟨rfl, rfl, hk, hn⟩)
  obtain ⟨L, q, e1, e2, e3⟩ := hpost
  exact ⟨v, B, X', ⟨L, q, e1, e2, e3⟩, fun t h => st.trans h⟩
theorem g_virtual (C : Cx p s m meth c Z a0 own bytes ml rt nm) (pc' W0 : Nat) {i idx : Nat} {Cn : String} {fs : List Fv} {y : MethodName} {bytes' : ByteArray} {ml' : Nat} {rt' : Option FieldType} {rm : Room} {a : Addr} {argsL : List Value} {Q' : Option Value → Wd → Prop} (hi : ds[i]? = some (a, OB Z a0 Cn fs)) (con : Con l Z y bytes' ml' rt' rm h0 (.ref a :: argsL).toArray ds Q')
    (w1 : Jvm.Cond.methodLink own idx y ∈ tables_1) (w2 : Jvm.Cond.declares y ∈ tables_1) (w5 : Jvm.Cond.selects Cn y y ∈ tables_1) (w6 : Jvm.Cond.instanceMethod y ∈ tables_1) (w3 : Jvm.Cond.initialized y.cls ∈ tables_1) (w4 : Jvm.Cond.code y bytes' ml' rt' ∈ tables_1) (hy : y.cls ≠ "java/lang/invoke/MethodHandle" ∧ y.cls ≠ "java/lang/invoke/VarHandle")
    (hd : decode bytes pc = .ok (.invokevirtual idx, 3)) (hp : pc + 3 = pc') (hsz : Ls.size = ml) (hlen : ∀ sig, parseMethodDescriptor y.desc = some sig → argsL.length = sig.parameters.length) {St0 : List Value} (hst : St0 = argsL.reverse ++ .ref a :: St) (hW : (St.map fun v => v.category).sum ≤ W0) (hf : rm.frames + 1 ≤ R.frames) (hl : W0 + (ml' + 11) + rm.locals ≤ R.locals) (hk : k + rm.cells ≤ R.cells) (hn : n + rm.slots ≤ R.slots)
    (K : ∀ v ds', Q' v ds' → Go p l e R s m args below meth c h0 Q ds' (k + rm.cells) (n + rm.slots) pc' Ls (v.toList ++ St)) : Go p l e R s m args below meth c h0 Q ds k n pc Ls St0 := fun T locs X W N => by
  subst hp hst
  refine Go.back (pc' := pc + 3) (Ls := Ls) (St' := St) N ?_ K
  obtain ⟨ha, cl, hc, dc⟩ := W.at hi
  obtain ⟨cq, kq, qa, qb, qc⟩ := isOf C.2.1 rfl (dc.exa hc)
  obtain ⟨v, vm₁, B, -, X', hpost, st⟩ := X.virtualBack C.1 (y := y) (z := y) C.2.2.2.2.2.1 (mvT C.2.1 (C.2.2.1 _ w1)) (mvT C.2.1 (C.2.2.1 _ w2)) (notFace_of_selects (args := #[]) (mvT C.2.1 (C.2.2.1 _ w5))) (mvT C.2.1 (C.2.2.1 _ w5)) (mvT C.2.1 (C.2.2.1 _ w6)) hy
    (backOf (W := W0) (Q := fun v hh L => ∃ ds', Q' v ds' ∧ Wld h0 ds' hh ∧ Fr h0.size L) (con T.heap W []) C.2.1 (C.2.2.1 _ w4) (C.2.2.1 _ w3) hf hl) qa qc (g := mkF m pc Ls (argsL.reverse ++ .ref a :: St)) rfl (by rw [C.2.2.2.2.1]; exact hsz) (Steps.refl _) (argsL := argsL) (rest := St) hlen rfl (by show 2 * 0 + _ ≤ _; omega) (hb C.2.2.2.1 hd) (fun _ _ => ⟨rfl, rfl, hk, hn⟩)
  obtain ⟨L, q, e1, e2, e3⟩ := hpost
  exact ⟨v, B, X', ⟨L, q, e1, e2, e3⟩, fun t h => st.trans h⟩
end Own
/-! lists of ints read and written by an int -/
def el (xs : List Int32) (j : Int32) : Int32 := xs.getD j.toNatClampNeg 0
def inb (xs : List Int32) (j : Int32) : Bool := !(decide (j < 0)) && decide (j.toNatClampNeg < xs.length)
def stl (xs : List Int32) (j v : Int32) : List Int32 := xs.set j.toNatClampNeg v
theorem inb_nn {xs : List Int32} {j : Int32} (h : inb xs j = true) : ¬ j < 0 := by simp [inb] at h; exact Int32.not_lt.mpr h.1
theorem inb_lt {xs : List Int32} {j : Int32} (h : inb xs j = true) : j.toNatClampNeg < xs.length := by simp [inb] at h; exact h.2
theorem el_get {xs : List Int32} {j : Int32} (h : inb xs j = true) : xs[j.toNatClampNeg]? = some (el xs j) := by
  have q := inb_lt h
  unfold el
  rw [List.getD_eq_getElem?_getD, List.getElem?_eq_getElem q]; rfl
def ob {α β : Type} (o : Option α) (f : α → Option β) : Option β := match o with | none => none | some a => f a
theorem ob_some {α β : Type} (a : α) (f : α → Option β) : ob (some a) f = f a := rfl
theorem ob_none {α β : Type} (f : α → Option β) : ob none f = none := rfl
theorem set_same {ds : Wd} {j : Nat} {u x : Addr × Desc} (h : ds[j]? = some u) : (ds.set j x)[j]? = some x := by
  rw [List.getElem?_set]; simp [(List.getElem?_eq_some_iff.mp h).1]
theorem set_other {ds : Wd} {i j : Nat} {u x : Addr × Desc} (hij : j ≠ i) (h : ds[i]? = some u) : (ds.set j x)[i]? = some u := by
  rw [List.getElem?_set]; simp [hij, h]
/-! objects that stood at the start; arrays of references -/
def RA (Z : State) (Cn : String) (vs : List Value) : Desc := fun c => IA Z (.object Cn) vs c ∧ Ovr Z c.cls Cn
theorem fld_inj {Z : State} {h : Heap} {a : Addr} {O n d : String} {v w : Value} (F : Fld Z h a O n d v) (G : Fld Z h a O n d w) : v = w := by
  obtain ⟨c1, cf1, k1, i1, f1, a1, a2, -, -, -, -, a7⟩ := F
  obtain ⟨c2, cf2, k2, i2, f2, b1, b2, -, -, -, -, b7⟩ := G
  cases a1.symm.trans b1
  cases a2.symm.trans b2
  exact Option.some.inj (a7.symm.trans b7)
def atomsOf : Jvm.Cond → List Jvm.Cond
  | .and a b => atomsOf a ++ atomsOf b
  | c => [c]
theorem atomsOf_spec {args : Array Value} {s : State} : ∀ (c : Jvm.Cond), c.value args s none s [] = some true → ∀ d ∈ atomsOf c, d.value args s none s [] = some true := by
  intro c
  induction c with
  | and a b iha ihb =>
    intro h d hd
    obtain ⟨h1, h2⟩ := and_e h
    rcases List.mem_append.mp hd with q | q
    · exact iha h1 d q
    · exact ihb h2 d q
  | _ =>
    intro h d hd
    simp only [atomsOf, List.mem_singleton] at hd
    subst hd; exact h
theorem eq_int {args : Array Value} {s : State} {t : Term} {v : Int32} (h : (Jvm.Cond.eq t (.int v)).value args s none s [] = some true) : t.eval args s none [] s = some (.int v) := by
  simp only [Cond.value, Term.eval] at h
  cases ht : t.eval args s none [] s with
  | none => simp [ht] at h
  | some x => cases x <;> simp [ht] at h ⊢; exact h
section OwnOld
variable {p : Program} {l : Launch} {e : Env} {R : Room} {s : State} {m : MethodId} {args : Array Value} {below : List Frame} {meth : Method} {c : Code} {Z : State} {a0 : Array Value} {h0 h h' : Heap} {Q : Option Value → Wd → Prop} {ds ds' : Wd} {k n pc : Nat} {Ls Ls' : Array Slot} {St : List Value} {own : String} {bytes : ByteArray} {ml : Nat} {rt : Option FieldType} {nm : String}
theorem g_getfieldH (C : Cx p s m meth c Z a0 own bytes ml rt nm) (pc' : Nat) {idx : Nat} {a : Addr} {O nf d : String} {v : Value} (F : Fld Z h0 a O nf d v) (hd : decode bytes pc = .ok (.getfield idx, 3)) (hp : pc + 3 = pc') (w : Jvm.Cond.fieldLink own idx O nf d ∈ tables_1)
    (K : Go p l e R s m args below meth c h0 Q ds k n pc' Ls (v :: St)) : Go p l e R s m args below meth c h0 Q ds k n pc Ls (.ref a :: St) := fun T locs X W N => by
  subst hp
  obtain ⟨T', X', e', st⟩ := getF X C.1 C.2.1 C.2.2.2.2.2.1 (host := "") (Or.inl (C.2.2.1 _ w)) Via.refl rfl (F.ext W.extOf) (g := mkF m pc Ls (.ref a :: St)) rfl rfl (hb C.2.2.2.1 hd)
  exact (K T' locs X' (by rw [e']; exact W) N).pre st
theorem g_virtualH (C : Cx p s m meth c Z a0 own bytes ml rt nm) (pc' W0 : Nat) {idx : Nat} {Cn : String} {y : MethodName} {bytes' : ByteArray} {ml' : Nat} {rt' : Option FieldType} {rm : Room} {a : Addr} {argsL : List Value} {Q' : Option Value → Wd → Prop} (E0 : Exa Z h0 a Cn) (con : Con l Z y bytes' ml' rt' rm h0 (.ref a :: argsL).toArray ds Q')
    (w1 : Jvm.Cond.methodLink own idx y ∈ tables_1) (w2 : Jvm.Cond.declares y ∈ tables_1) (w5 : Jvm.Cond.selects Cn y y ∈ tables_1) (w6 : Jvm.Cond.instanceMethod y ∈ tables_1) (w3 : Jvm.Cond.initialized y.cls ∈ tables_1) (w4 : Jvm.Cond.code y bytes' ml' rt' ∈ tables_1) (hy : y.cls ≠ "java/lang/invoke/MethodHandle" ∧ y.cls ≠ "java/lang/invoke/VarHandle")
    (hd : decode bytes pc = .ok (.invokevirtual idx, 3)) (hp : pc + 3 = pc') (hsz : Ls.size = ml) (hlen : ∀ sig, parseMethodDescriptor y.desc = some sig → argsL.length = sig.parameters.length) {St0 : List Value} (hst : St0 = argsL.reverse ++ .ref a :: St) (hW : (St.map fun v => v.category).sum ≤ W0) (hf : rm.frames + 1 ≤ R.frames) (hl : W0 + (ml' + 11) + rm.locals ≤ R.locals) (hk : k + rm.cells ≤ R.cells) (hn : n + rm.slots ≤ R.slots)
    (K : ∀ v ds', Q' v ds' → Go p l e R s m args below meth c h0 Q ds' (k + rm.cells) (n + rm.slots) pc' Ls (v.toList ++ St)) : Go p l e R s m args below meth c h0 Q ds k n pc Ls St0 := fun T locs X W N => by
  subst hp hst
  refine Go.back (pc' := pc + 3) (Ls := Ls) (St' := St) N ?_ K
  obtain ⟨cq, kq, qa, qb, qc⟩ := isOf C.2.1 rfl (E0.ext W.extOf)
  obtain ⟨v, vm₁, B, -, X', hpost, st⟩ := X.virtualBack C.1 (y := y) (z := y) C.2.2.2.2.2.1 (mvT C.2.1 (C.2.2.1 _ w1)) (mvT C.2.1 (C.2.2.1 _ w2)) (notFace_of_selects (args := #[]) (mvT C.2.1 (C.2.2.1 _ w5))) (mvT C.2.1 (C.2.2.1 _ w5)) (mvT C.2.1 (C.2.2.1 _ w6)) hy
    (backOf (W := W0) (Q := fun v hh L => ∃ ds', Q' v ds' ∧ Wld h0 ds' hh ∧ Fr h0.size L) (con T.heap W []) C.2.1 (C.2.2.1 _ w4) (C.2.2.1 _ w3) hf hl) qa qc (g := mkF m pc Ls (argsL.reverse ++ .ref a :: St)) rfl (by rw [C.2.2.2.2.1]; exact hsz) (Steps.refl _) (argsL := argsL) (rest := St) hlen rfl (by show 2 * 0 + _ ≤ _; omega) (hb C.2.2.2.1 hd) (fun _ _ => ⟨rfl, rfl, hk, hn⟩)
  obtain ⟨L, q, e1, e2, e3⟩ := hpost
  exact ⟨v, B, X', ⟨L, q, e1, e2, e3⟩, fun t h => st.trans h⟩
theorem g_anewarray (C : Cx p s m meth c Z a0 own bytes ml rt nm) (pc' : Nat) {idx : Nat} {Cn : String} {z : Int32} (vs : List Value) (cap : Nat) (w1 : Jvm.Cond.classLink own idx Cn ∈ tables_1) (w2 : Jvm.Cond.arrayOver (.object Cn) ∈ tables_1) (hd : decode bytes pc = .ok (.anewarray idx, 3)) (hp : pc + 3 = pc') (hz : ¬ z < 0) (hcap : z.toNatClampNeg ≤ cap) (hcb : cap * 8 ≤ 536870912) (hk : k + 1 ≤ R.cells) (hn : n + cap ≤ R.slots)
    (hvs : List.replicate z.toNatClampNeg Value.null = vs) (K : ∀ a, Go p l e R s m args below meth c h0 Q (ds ++ [(a, RA Z Cn vs)]) (k + 1) (n + cap) pc' Ls (.ref a :: St)) : Go p l e R s m args below meth c h0 Q ds k n pc Ls (.int z :: St) := fun T locs X W N => by
  subst hp hvs
  obtain ⟨T', h', cA, X', e', E, A, O, st⟩ := newR X C.1 C.2.1 C.2.2.2.2.2.1 (C.2.2.1 _ w1) (C.2.2.1 _ w2) rfl (g := mkF m pc Ls (.int z :: St)) rfl (hb C.2.2.2.1 hd) rfl hz hcap hcb hk hn
  exact (K T.heap.size T' locs X' (by rw [e']; exact W.new E A.1 ⟨IA.new A, O⟩) N).pre st
theorem g_aastore (C : Cx p s m meth c Z a0 own bytes ml rt nm) (pc' : Nat) {i : Nat} {a b : Addr} {Cn : String} {vs : List Value} (vs' : List Value) (ds' : Wd) (hi : ds[i]? = some (a, RA Z Cn vs)) (E0 : Exa Z h0 b Cn) (hd : decode bytes pc = .ok (.aastore, 1)) (hp : pc + 1 = pc') {j : Int32} (hj : ¬ j < 0) (hlt : j.toNatClampNeg < vs.length) (hx : vs.set j.toNatClampNeg (.ref b) = vs') (hds : ds.set i (a, RA Z Cn vs') = ds')
    (K : Go p l e R s m args below meth c h0 Q ds' k n pc' Ls St) : Go p l e R s m args below meth c h0 Q ds k n pc Ls (.ref b :: .int j :: .ref a :: St) := fun T locs X W N => by
  subst hp hds hx
  obtain ⟨ha, cl, hc, dc⟩ := W.at hi
  obtain ⟨T', h', X', e', wr, st⟩ := stR X C.1 C.2.1 rfl (dc.1.arr hc) (in_of dc.1 hj hlt) rfl (Sto.of (dc.1.arr hc) dc.2 (Ins.self (E0.ext W.extOf))) (g := mkF m pc Ls (.ref b :: .int j :: .ref a :: St)) rfl rfl (hb C.2.2.2.1 hd)
  exact (K T' _ X' (by rw [e']; exact W.wr hi wr (fun c2 h2 _ d2 => ⟨d2.1.set _ _, d2.2⟩)) (Fr.snoc X' N ha)).pre st
theorem g_aaloadR (C : Cx p s m meth c Z a0 own bytes ml rt nm) (pc' : Nat) {i : Nat} {a : Addr} {Cn : String} {vs : List Value} (hi : ds[i]? = some (a, RA Z Cn vs)) (hd : decode bytes pc = .ok (.aaload, 1)) (hp : pc + 1 = pc') {j : Int32} (hj : ¬ j < 0) (v : Value) (hv : vs[j.toNatClampNeg]? = some v) (K : Go p l e R s m args below meth c h0 Q ds k n pc' Ls (v :: St)) : Go p l e R s m args below meth c h0 Q ds k n pc Ls (.int j :: .ref a :: St) := fun T locs X W N => by
  subst hp
  obtain ⟨ha, cl, hc, dc⟩ := W.at hi
  have hlt : j.toNatClampNeg < vs.length := (List.getElem?_eq_some_iff.mp hv).1
  exact (K T locs X W N).pre fun t h => X.aaload C.1 hc (State.isArrayOf_alike C.2.1.alike dc.1.1) rfl dc.1.2.1 (in_of dc.1 hj hlt) (by rw [dc.1.get]; exact hv) (g := mkF m pc Ls (.int j :: .ref a :: St)) rfl rfl (hb C.2.2.2.1 hd) t h
end OwnOld

/-! instanceof, checkcast; an old array of references -/
theorem notAsg {Z : State} {a0 : Array Value} {X Y : String} {t : List String} {nY : Nat} (hw : ∀ w ∈ Cond.chainWords (X :: t), w.before a0 Z = true) (wi : (Jvm.Cond.instantiable Y nY).before a0 Z = true) (hn : Y ∉ X :: t) {cx : ClassId} (hx : Z.vm.findClass X = some cx) :
    ∃ cy, Z.vm.findClass Y = some cy ∧ Z.vm.assignable cx cy = false := by
  obtain ⟨cy, ky, h1, h2, h3, h4, -⟩ := Cond.instantiable_spec wi
  simp only [Bool.or_eq_false_iff] at h4
  exact ⟨cy, h1, Vm.notAssignable_of_chain hx h1 h2 h3 h4.1 hw hn⟩
section OwnInst
variable {p : Program} {l : Launch} {e : Env} {R : Room} {s : State} {m : MethodId} {args : Array Value} {below : List Frame} {meth : Method} {c : Code} {Z : State} {a0 : Array Value} {h0 h h' : Heap} {Q : Option Value → Wd → Prop} {ds ds' : Wd} {k n pc : Nat} {Ls Ls' : Array Slot} {St : List Value} {own : String} {bytes : ByteArray} {ml : Nat} {rt : Option FieldType} {nm : String}
theorem g_instNull (C : Cx p s m meth c Z a0 own bytes ml rt nm) (pc' : Nat) {idx : Nat} (hd : decode bytes pc = .ok (.instanceof idx, 3)) (hp : pc + 3 = pc') (K : Go p l e R s m args below meth c h0 Q ds k n pc' Ls (.int 0 :: St)) : Go p l e R s m args below meth c h0 Q ds k n pc Ls (.null :: St) := by
  subst hp
  exact K.pure fun T locs X target h => X.instanceofNull C.1 (g := mkF m pc Ls (.null :: St)) rfl rfl (hb C.2.2.2.1 hd) _ h
theorem g_instY (C : Cx p s m meth c Z a0 own bytes ml rt nm) (pc' : Nat) {i idx : Nat} {a : Addr} {Cn : String} {fs : List Fv} (hi : ds[i]? = some (a, OB Z a0 Cn fs)) (hd : decode bytes pc = .ok (.instanceof idx, 3)) (hp : pc + 3 = pc') (w : Jvm.Cond.classLink own idx Cn ∈ tables_1) (K : Go p l e R s m args below meth c h0 Q ds k n pc' Ls (.int 1 :: St)) : Go p l e R s m args below meth c h0 Q ds k n pc Ls (.ref a :: St) := fun T locs X W N => by
  subst hp
  obtain ⟨ha, cl, hc, dc⟩ := W.at hi
  obtain ⟨T', X', e', st⟩ := instY X C.1 C.2.1 C.2.2.2.2.2.1 (C.2.2.1 _ w) rfl (Ins.self (dc.exa hc)) (g := mkF m pc Ls (.ref a :: St)) rfl rfl (hb C.2.2.2.1 hd)
  exact (K T' locs X' (by rw [e']; exact W) N).pre st
theorem g_castY (C : Cx p s m meth c Z a0 own bytes ml rt nm) (pc' : Nat) {i idx : Nat} {a : Addr} {Cn : String} {fs : List Fv} (hi : ds[i]? = some (a, OB Z a0 Cn fs)) (hd : decode bytes pc = .ok (.checkcast idx, 3)) (hp : pc + 3 = pc') (w : Jvm.Cond.classLink own idx Cn ∈ tables_1) (K : Go p l e R s m args below meth c h0 Q ds k n pc' Ls (.ref a :: St)) : Go p l e R s m args below meth c h0 Q ds k n pc Ls (.ref a :: St) := fun T locs X W N => by
  subst hp
  obtain ⟨ha, cl, hc, dc⟩ := W.at hi
  obtain ⟨T', X', e', st⟩ := castY X C.1 C.2.1 C.2.2.2.2.2.1 (C.2.2.1 _ w) rfl (Ins.self (dc.exa hc)) (g := mkF m pc Ls (.ref a :: St)) rfl rfl (hb C.2.2.2.1 hd)
  exact (K T' locs X' (by rw [e']; exact W) N).pre st
theorem g_instN (C : Cx p s m meth c Z a0 own bytes ml rt nm) (pc' : Nat) {idx : Nat} {a : Addr} {Cn Kn : String} (hE : ∀ h, Wld h0 ds h → Exa Z h a Cn) (hna : ∀ cx, Z.vm.findClass Cn = some cx → ∃ cy, Z.vm.findClass Kn = some cy ∧ Z.vm.assignable cx cy = false) (hd : decode bytes pc = .ok (.instanceof idx, 3)) (hp : pc + 3 = pc') (w : Jvm.Cond.classLink own idx Kn ∈ tables_1) (K : Go p l e R s m args below meth c h0 Q ds k n pc' Ls (.int 0 :: St)) : Go p l e R s m args below meth c h0 Q ds k n pc Ls (.ref a :: St) := fun T locs X W N => by
  subst hp
  obtain ⟨cell, kk, h1, h2, h3, h4, -⟩ := hE _ W
  obtain ⟨cy, h5, h6⟩ := hna _ h2
  obtain ⟨k', q, -⟩ := C.2.1.alike.2.2 _ _ h3
  obtain ⟨vm', X', st⟩ := Jvm.Sym.instanceofNoAt X C.1 C.2.2.2.2.2.1 (mvT C.2.1 (C.2.2.1 _ w)) h1 h4 q (by rw [C.2.1.alike.findClass]; exact h5) (by rw [C.2.1.alike.assignable]; exact h6) (g := mkF m pc Ls (.ref a :: St)) rfl rfl (hb C.2.2.2.1 hd)
  exact (K _ locs X' W N).pre st
theorem g_aaloadH (C : Cx p s m meth c Z a0 own bytes ml rt nm) (pc' : Nat) {a : Addr} {cl : Cell} {ty : FieldType} (A : Arr Z h0 a cl ty) (hty : ty.isReference = true) (hd : decode bytes pc = .ok (.aaload, 1)) (hp : pc + 1 = pc') {j : Int32} (hj : ¬ (j < 0 ∨ cl.slots.size ≤ j.toNatClampNeg)) (v : Value) (hv : cl.slots[j.toNatClampNeg]? = some v) (K : Go p l e R s m args below meth c h0 Q ds k n pc' Ls (v :: St)) : Go p l e R s m args below meth c h0 Q ds k n pc Ls (.int j :: .ref a :: St) := fun T locs X W N => by
  subst hp
  have A' := A.ext W.extOf
  exact (K T locs X W N).pre fun t h => X.aaload C.1 A'.1 (State.isArrayOf_alike C.2.1.alike A'.2.1) hty A'.2.2 hj hv (g := mkF m pc Ls (.int j :: .ref a :: St)) rfl rfl (hb C.2.2.2.1 hd) t h
end OwnInst

theorem d1_0 : decode prog_67_method_1_code 0 = .ok (.aload_n 0, 1) := by decide +kernel
theorem d1_1 : decode prog_67_method_1_code 1 = .ok (.invokespecial 1, 3) := by decide +kernel
theorem d1_4 : decode prog_67_method_1_code 4 = .ok (.aload_n 0, 1) := by decide +kernel
theorem d1_5 : decode prog_67_method_1_code 5 = .ok (.iload_n 1, 1) := by decide +kernel
theorem d1_6 : decode prog_67_method_1_code 6 = .ok (.putfield 7, 3) := by decide +kernel
theorem d1_9 : decode prog_67_method_1_code 9 = .ok (.aload_n 0, 1) := by decide +kernel
theorem d1_10 : decode prog_67_method_1_code 10 = .ok (.iload_n 2, 1) := by decide +kernel
theorem d1_11 : decode prog_67_method_1_code 11 = .ok (.putfield 13, 3) := by decide +kernel
theorem d1_14 : decode prog_67_method_1_code 14 = .ok (.return_, 1) := by decide +kernel
set_option maxRecDepth 65536 in
set_option maxHeartbeats 40000000 in
theorem con_pinit (l : Launch) (Z : State) (a0 : Array Value) (hw : ∀ d ∈ tables_1, d.before a0 Z = true) (h0 : Heap) (ds : Wd) (j : Nat) (p1 : Addr) (x1 x2 : Int32) (hi : ds[j]? = some (p1, OB Z a0 "com/example/treecreeper/treecreeper/nested/OutputPair" [("com/example/treecreeper/treecreeper/nested/OutputPair", "first", "I", (.int (0 : Int32))), ("com/example/treecreeper/treecreeper/nested/OutputPair", "second", "I", (.int (0 : Int32)))])) :
    Con l Z (⟨"com/example/treecreeper/treecreeper/nested/OutputPair", "<init>", "(II)V"⟩ : MethodName) prog_67_method_1_code 3 none ({ frames := 1, cells := 0, slots := 0, locals := 12 } : Room) h0 #[(.ref p1), (.int x1), (.int x2)] ds (fun v ds' => v = none ∧ ds.set j (p1, OB Z a0 "com/example/treecreeper/treecreeper/nested/OutputPair" [("com/example/treecreeper/treecreeper/nested/OutputPair", "first", "I", (.int x1)), ("com/example/treecreeper/treecreeper/nested/OutputPair", "second", "I", (.int x2))]) = ds') := by
  refine con_of (a0 := a0) (Ls := #[.val (.ref p1), .val (.int x1), .val (.int x2)]) (plainFor_of_name (by first | (simp [plainName, overriddenIn]; done) | decide +kernel)) hw (fun m => by first | (simp [entryFrame, mkF, argsToLocals, Value.category]; done) | rfl) ?_
  intro p e s m below meth c C
  refine g_aloadN C 1 d1_0 rfl rfl rfl ?_
  refine g_initO C 4 0 (List.mem_of_getElem? (i := 6) rfl) (List.mem_of_getElem? (i := 7) rfl) (List.mem_of_getElem? (i := 8) rfl) d1_1 rfl rfl (by decide) (Nat.le_of_eq rfl) (by decide) ?_
  refine g_aloadN C 5 d1_4 rfl rfl rfl ?_
  refine g_iloadN C 6 d1_5 rfl rfl ?_
  refine g_putfield C 9 (i := j) (j := 0) (ty := .int) [("com/example/treecreeper/treecreeper/nested/OutputPair", "first", "I", (.int x1)), ("com/example/treecreeper/treecreeper/nested/OutputPair", "second", "I", (.int (0 : Int32)))] (ds.set j (p1, OB Z a0 "com/example/treecreeper/treecreeper/nested/OutputPair" [("com/example/treecreeper/treecreeper/nested/OutputPair", "first", "I", (.int x1)), ("com/example/treecreeper/treecreeper/nested/OutputPair", "second", "I", (.int (0 : Int32)))])) hi rfl d1_6 rfl (List.mem_of_getElem? (i := 9) rfl) (Or.inr ⟨(List.mem_of_getElem? (i := 10) rfl), rfl, rfl⟩) (List.mem_of_getElem? (i := 1) rfl) (by decide) rfl rfl (by simp) rfl rfl ?_
  refine g_aloadN C 10 d1_9 rfl rfl rfl ?_
  refine g_iloadN C 11 d1_10 rfl rfl ?_
  refine g_putfield C 14 (i := j) (j := 1) (ty := .int) [("com/example/treecreeper/treecreeper/nested/OutputPair", "first", "I", (.int x1)), ("com/example/treecreeper/treecreeper/nested/OutputPair", "second", "I", (.int x2))] (ds.set j (p1, OB Z a0 "com/example/treecreeper/treecreeper/nested/OutputPair" [("com/example/treecreeper/treecreeper/nested/OutputPair", "first", "I", (.int x1)), ("com/example/treecreeper/treecreeper/nested/OutputPair", "second", "I", (.int x2))])) (set_same hi) rfl d1_11 rfl (List.mem_of_getElem? (i := 11) rfl) (Or.inr ⟨(List.mem_of_getElem? (i := 12) rfl), rfl, rfl⟩) (List.mem_of_getElem? (i := 1) rfl) (by decide) rfl rfl (by simp) rfl (List.set_set _) ?_
  exact g_ret C d1_14 (by decide) (by decide) ⟨rfl, rfl⟩
theorem d3_0 : decode prog_67_method_7_code 0 = .ok (.aload_n 1, 1) := by decide +kernel
theorem d3_1 : decode prog_67_method_7_code 1 = .ok (.instanceof 8, 3) := by decide +kernel
theorem d3_4 : decode prog_67_method_7_code 4 = .ok (.ifCond .eq 34, 3) := by decide +kernel
theorem d3_7 : decode prog_67_method_7_code 7 = .ok (.aload_n 1, 1) := by decide +kernel
theorem d3_8 : decode prog_67_method_7_code 8 = .ok (.checkcast 8, 3) := by decide +kernel
theorem d3_11 : decode prog_67_method_7_code 11 = .ok (.astore_n 2, 1) := by decide +kernel
theorem d3_12 : decode prog_67_method_7_code 12 = .ok (.aload_n 0, 1) := by decide +kernel
theorem d3_13 : decode prog_67_method_7_code 13 = .ok (.getfield 7, 3) := by decide +kernel
theorem d3_16 : decode prog_67_method_7_code 16 = .ok (.aload_n 2, 1) := by decide +kernel
theorem d3_17 : decode prog_67_method_7_code 17 = .ok (.getfield 7, 3) := by decide +kernel
theorem d3_20 : decode prog_67_method_7_code 20 = .ok (.if_icmp .ne 18, 3) := by decide +kernel
theorem d3_23 : decode prog_67_method_7_code 23 = .ok (.aload_n 0, 1) := by decide +kernel
theorem d3_24 : decode prog_67_method_7_code 24 = .ok (.getfield 13, 3) := by decide +kernel
theorem d3_27 : decode prog_67_method_7_code 27 = .ok (.aload_n 2, 1) := by decide +kernel
theorem d3_28 : decode prog_67_method_7_code 28 = .ok (.getfield 13, 3) := by decide +kernel
theorem d3_31 : decode prog_67_method_7_code 31 = .ok (.if_icmp .ne 7, 3) := by decide +kernel
theorem d3_34 : decode prog_67_method_7_code 34 = .ok (.iconst 1, 1) := by decide +kernel
theorem d3_35 : decode prog_67_method_7_code 35 = .ok (.goto 4, 3) := by decide +kernel
theorem d3_38 : decode prog_67_method_7_code 38 = .ok (.iconst 0, 1) := by decide +kernel
theorem d3_39 : decode prog_67_method_7_code 39 = .ok (.ireturn, 1) := by decide +kernel
def f_eq (u1 u2 w1 w2 : Int32) : Int32 := (if u1 = w1 then (if u2 = w2 then (1 : Int32) else (0 : Int32)) else (0 : Int32))
set_option maxRecDepth 65536 in
set_option maxHeartbeats 40000000 in
theorem con_eqP (l : Launch) (Z : State) (a0 : Array Value) (hw : ∀ d ∈ tables_1, d.before a0 Z = true) (h0 : Heap) (ds : Wd) (j1 j2 : Nat) (p1 p2 : Addr) (u1 u2 w1 w2 : Int32) (hi1 : ds[j1]? = some (p1, OB Z a0 "com/example/treecreeper/treecreeper/nested/OutputPair" [("com/example/treecreeper/treecreeper/nested/OutputPair", "first", "I", (.int u1)), ("com/example/treecreeper/treecreeper/nested/OutputPair", "second", "I", (.int u2))])) (hi2 : ds[j2]? = some (p2, OB Z a0 "com/example/treecreeper/treecreeper/nested/OutputPair" [("com/example/treecreeper/treecreeper/nested/OutputPair", "first", "I", (.int w1)), ("com/example/treecreeper/treecreeper/nested/OutputPair", "second", "I", (.int w2))])) :
    Con l Z (⟨"com/example/treecreeper/treecreeper/nested/OutputPair", "equals", "(Ljava/lang/Object;)Z"⟩ : MethodName) prog_67_method_7_code 3 (some .boolean) ({ frames := 0, cells := 0, slots := 0, locals := 0 } : Room) h0 #[(.ref p1), (.ref p2)] ds (fun v ds' => v = some (.int (f_eq u1 u2 w1 w2)) ∧ ds = ds') := by
  refine con_of (a0 := a0) (Ls := #[.val (.ref p1), .val (.ref p2), .unset]) (plainFor_of_name (by first | (simp [plainName, overriddenIn]; done) | decide +kernel)) hw (fun m => by first | (simp [entryFrame, mkF, argsToLocals, Value.category]; done) | rfl) ?_
  intro p e s m below meth c C
  refine g_aloadN C 1 d3_0 rfl rfl rfl ?_
  refine g_instY C 4 hi2 d3_1 rfl (List.mem_of_getElem? (i := 18) rfl) ?_
  refine g_ifN C 7 d3_4 (feq ((by decide) : ¬ ((1 : Int32) = (0 : Int32)))).1 rfl ?_
  refine g_aloadN C 8 d3_7 rfl rfl rfl ?_
  refine g_castY C 11 hi2 d3_8 rfl (List.mem_of_getElem? (i := 18) rfl) ?_
  refine g_astoreN C 12 #[.val (.ref p1), .val (.ref p2), .val (.ref p2)] d3_11 rfl rfl rfl ?_
  refine g_aloadN C 13 d3_12 rfl rfl rfl ?_
  refine g_getfield C 16 (j := 0) hi1 rfl d3_13 rfl (List.mem_of_getElem? (i := 9) rfl) ?_
  refine g_aloadN C 17 d3_16 rfl rfl rfl ?_
  refine g_getfield C 20 (j := 0) hi2 rfl d3_17 rfl (List.mem_of_getElem? (i := 9) rfl) ?_
  by_cases c1 : u1 = w1
  · refine g_icN C 23 d3_20 (teq c1).2 rfl ?_
    refine g_aloadN C 24 d3_23 rfl rfl rfl ?_
    refine g_getfield C 27 (j := 1) hi1 rfl d3_24 rfl (List.mem_of_getElem? (i := 11) rfl) ?_
    refine g_aloadN C 28 d3_27 rfl rfl rfl ?_
    refine g_getfield C 31 (j := 1) hi2 rfl d3_28 rfl (List.mem_of_getElem? (i := 11) rfl) ?_
    by_cases c2 : u2 = w2
    · refine g_icN C 34 d3_31 (teq c2).2 rfl ?_
      refine g_iconst C 35 (1 : Int32) d3_34 rfl rfl ?_
      refine g_goto C 39 d3_35 (by decide) (by decide) ?_
      exact g_nret C (by simp) (z' := (1 : Int32)) (by decide) d3_39 (by decide) (by decide) ⟨by rw [f_eq, if_pos c1, if_pos c2], rfl⟩
    · refine g_icY C 38 d3_31 (feq c2).2 (by decide) (by decide) ?_
      refine g_iconst C 39 (0 : Int32) d3_38 rfl rfl ?_
      exact g_nret C (by simp) (z' := (0 : Int32)) (by decide) d3_39 (by decide) (by decide) ⟨by rw [f_eq, if_pos c1, if_neg c2], rfl⟩
  · refine g_icY C 38 d3_20 (feq c1).2 (by decide) (by decide) ?_
    refine g_iconst C 39 (0 : Int32) d3_38 rfl rfl ?_
    exact g_nret C (by simp) (z' := (0 : Int32)) (by decide) d3_39 (by decide) (by decide) ⟨by rw [f_eq, if_neg c1], rfl⟩
set_option maxRecDepth 65536 in
set_option maxHeartbeats 40000000 in
theorem con_eqN (l : Launch) (Z : State) (a0 : Array Value) (hw : ∀ d ∈ tables_1, d.before a0 Z = true) (h0 : Heap) (ds : Wd) (p1 : Addr)  :
    Con l Z (⟨"com/example/treecreeper/treecreeper/nested/OutputPair", "equals", "(Ljava/lang/Object;)Z"⟩ : MethodName) prog_67_method_7_code 3 (some .boolean) ({ frames := 0, cells := 0, slots := 0, locals := 0 } : Room) h0 #[(.ref p1), .null] ds (fun v ds' => v = some (.int 0) ∧ ds = ds') := by
  refine con_of (a0 := a0) (Ls := #[.val (.ref p1), .val .null, .unset]) (plainFor_of_name (by first | (simp [plainName, overriddenIn]; done) | decide +kernel)) hw (fun m => by first | (simp [entryFrame, mkF, argsToLocals, Value.category]; done) | rfl) ?_
  intro p e s m below meth c C
  refine g_aloadN C 1 d3_0 rfl rfl rfl ?_
  refine g_instNull C 4 d3_1 rfl ?_
  refine g_ifY C 38 d3_4 (teq ((by decide) : (0 : Int32) = (0 : Int32))).1 (by decide) (by decide) ?_
  refine g_iconst C 39 (0 : Int32) d3_38 rfl rfl ?_
  exact g_nret C (by simp) (z' := (0 : Int32)) (by decide) d3_39 (by decide) (by decide) ⟨rfl, rfl⟩
set_option maxRecDepth 65536 in
set_option maxHeartbeats 40000000 in
theorem con_eqI (l : Launch) (Z : State) (a0 : Array Value) (hw : ∀ d ∈ tables_1, d.before a0 Z = true) (h0 : Heap) (ds : Wd) (p1 b1 : Addr) (hE : ∀ h, Wld h0 ds h → Exa Z h b1 "java/lang/Integer") (hna : ∀ cx, Z.vm.findClass "java/lang/Integer" = some cx → ∃ cy, Z.vm.findClass "com/example/treecreeper/treecreeper/nested/OutputPair" = some cy ∧ Z.vm.assignable cx cy = false) :
    Con l Z (⟨"com/example/treecreeper/treecreeper/nested/OutputPair", "equals", "(Ljava/lang/Object;)Z"⟩ : MethodName) prog_67_method_7_code 3 (some .boolean) ({ frames := 0, cells := 0, slots := 0, locals := 0 } : Room) h0 #[(.ref p1), (.ref b1)] ds (fun v ds' => v = some (.int 0) ∧ ds = ds') := by
  refine con_of (a0 := a0) (Ls := #[.val (.ref p1), .val (.ref b1), .unset]) (plainFor_of_name (by first | (simp [plainName, overriddenIn]; done) | decide +kernel)) hw (fun m => by first | (simp [entryFrame, mkF, argsToLocals, Value.category]; done) | rfl) ?_
  intro p e s m below meth c C
  refine g_aloadN C 1 d3_0 rfl rfl rfl ?_
  refine g_instN C 4 hE hna d3_1 rfl (List.mem_of_getElem? (i := 18) rfl) ?_
  refine g_ifY C 38 d3_4 (teq ((by decide) : (0 : Int32) = (0 : Int32))).1 (by decide) (by decide) ?_
  refine g_iconst C 39 (0 : Int32) d3_38 rfl rfl ?_
  exact g_nret C (by simp) (z' := (0 : Int32)) (by decide) d3_39 (by decide) (by decide) ⟨rfl, rfl⟩
theorem d6_0 : decode jdk_18_method_1_code 0 = .ok (.aload_n 0, 1) := by decide +kernel
theorem d6_1 : decode jdk_18_method_1_code 1 = .ok (.invokespecial 1, 3) := by decide +kernel
theorem d6_4 : decode jdk_18_method_1_code 4 = .ok (.return_, 1) := by decide +kernel
set_option maxRecDepth 65536 in
set_option maxHeartbeats 40000000 in
theorem con_num (l : Launch) (Z : State) (a0 : Array Value) (hw : ∀ d ∈ tables_1, d.before a0 Z = true) (h0 : Heap) (ds : Wd) (p1 : Addr)  :
    Con l Z (⟨"java/lang/Number", "<init>", "()V"⟩ : MethodName) jdk_18_method_1_code 1 none ({ frames := 1, cells := 0, slots := 0, locals := 12 } : Room) h0 #[(.ref p1)] ds (fun v ds' => v = none ∧ ds = ds') := by
  refine con_of (a0 := a0) (Ls := #[.val (.ref p1)]) (plainFor_of_name (by first | (simp [plainName, overriddenIn]; done) | decide +kernel)) hw (fun m => by first | (simp [entryFrame, mkF, argsToLocals, Value.category]; done) | rfl) ?_
  intro p e s m below meth c C
  refine g_aloadN C 1 d6_0 rfl rfl rfl ?_
  refine g_initO C 4 0 (List.mem_of_getElem? (i := 42) rfl) (List.mem_of_getElem? (i := 7) rfl) (List.mem_of_getElem? (i := 8) rfl) d6_1 rfl rfl (by decide) (Nat.le_of_eq rfl) (by decide) ?_
  exact g_ret C d6_4 (by decide) (by decide) ⟨rfl, rfl⟩
theorem d5_0 : decode jdk_33_method_23_code 0 = .ok (.aload_n 0, 1) := by decide +kernel
theorem d5_1 : decode jdk_33_method_23_code 1 = .ok (.invokespecial 202, 3) := by decide +kernel
theorem d5_4 : decode jdk_33_method_23_code 4 = .ok (.aload_n 0, 1) := by decide +kernel
theorem d5_5 : decode jdk_33_method_23_code 5 = .ok (.iload_n 1, 1) := by decide +kernel
theorem d5_6 : decode jdk_33_method_23_code 6 = .ok (.putfield 205, 3) := by decide +kernel
theorem d5_9 : decode jdk_33_method_23_code 9 = .ok (.return_, 1) := by decide +kernel
set_option maxRecDepth 65536 in
set_option maxHeartbeats 40000000 in
theorem con_iinit (l : Launch) (Z : State) (a0 : Array Value) (hw : ∀ d ∈ tables_1, d.before a0 Z = true) (h0 : Heap) (d0 : Addr × Desc) (p1 : Addr) (x1 : Int32)  :
    Con l Z (⟨"java/lang/Integer", "<init>", "(I)V"⟩ : MethodName) jdk_33_method_23_code 2 none ({ frames := 2, cells := 0, slots := 0, locals := 24 } : Room) h0 #[(.ref p1), (.int x1)] [d0, (p1, OB Z a0 "java/lang/Integer" [("java/lang/Integer", "value", "I", (.int (0 : Int32)))])] (fun v ds' => v = none ∧ [d0, (p1, OB Z a0 "java/lang/Integer" [("java/lang/Integer", "value", "I", (.int x1))])] = ds') := by
  refine con_of (a0 := a0) (Ls := #[.val (.ref p1), .val (.int x1)]) (plainFor_of_name (by first | (simp [plainName, overriddenIn]; done) | decide +kernel)) hw (fun m => by first | (simp [entryFrame, mkF, argsToLocals, Value.category]; done) | rfl) ?_
  intro p e s m below meth c C
  refine g_aloadN C 1 d5_0 rfl rfl rfl ?_
  refine g_special C 4 0 (argsL := []) (St := []) (con_num l Z a0 C.2.2.1 h0 [d0, (p1, OB Z a0 "java/lang/Integer" [("java/lang/Integer", "value", "I", (.int (0 : Int32)))])] p1) rfl (List.mem_of_getElem? (i := 36) rfl) (List.mem_of_getElem? (i := 37) rfl) (List.mem_of_getElem? (i := 40) rfl) (List.mem_of_getElem? (i := 41) rfl) (by decide) d5_1 rfl rfl (lenOf (ps := []) (r := none) (by decide) rfl) rfl (Nat.le_of_eq rfl) (by decide) (by decide) (by decide) (by decide) ?_
  rintro _ _ ⟨rfl, rfl⟩
  show Go _ _ _ _ _ _ _ _ _ _ _ _ [d0, (p1, OB Z a0 "java/lang/Integer" [("java/lang/Integer", "value", "I", (.int (0 : Int32)))])] 0 0 4 #[.val (.ref p1), .val (.int x1)] []
  refine g_aloadN C 5 d5_4 rfl rfl rfl ?_
  refine g_iloadN C 6 d5_5 rfl rfl ?_
  refine g_putfield C 9 (i := 1) (j := 0) (ty := .int) [("java/lang/Integer", "value", "I", (.int x1))] [d0, (p1, OB Z a0 "java/lang/Integer" [("java/lang/Integer", "value", "I", (.int x1))])] rfl rfl d5_6 rfl (List.mem_of_getElem? (i := 43) rfl) (Or.inr ⟨(List.mem_of_getElem? (i := 44) rfl), rfl, rfl⟩) (List.mem_of_getElem? (i := 31) rfl) (by decide) rfl rfl (by simp) rfl rfl ?_
  exact g_ret C d5_9 (by decide) (by decide) ⟨rfl, rfl⟩
theorem d4_0 : decode jdk_33_method_22_code 0 = .ok (.iload_n 0, 1) := by decide +kernel
theorem d4_1 : decode jdk_33_method_22_code 1 = .ok (.bipush (-128), 2) := by decide +kernel
theorem d4_3 : decode jdk_33_method_22_code 3 = .ok (.if_icmp .lt 20, 3) := by decide +kernel
theorem d4_6 : decode jdk_33_method_22_code 6 = .ok (.iload_n 0, 1) := by decide +kernel
theorem d4_7 : decode jdk_33_method_22_code 7 = .ok (.getstatic 191, 3) := by decide +kernel
theorem d4_10 : decode jdk_33_method_22_code 10 = .ok (.if_icmp .gt 13, 3) := by decide +kernel
theorem d4_13 : decode jdk_33_method_22_code 13 = .ok (.getstatic 195, 3) := by decide +kernel
theorem d4_16 : decode jdk_33_method_22_code 16 = .ok (.iload_n 0, 1) := by decide +kernel
theorem d4_17 : decode jdk_33_method_22_code 17 = .ok (.sipush 128, 3) := by decide +kernel
theorem d4_20 : decode jdk_33_method_22_code 20 = .ok (.iadd, 1) := by decide +kernel
theorem d4_21 : decode jdk_33_method_22_code 21 = .ok (.aaload, 1) := by decide +kernel
theorem d4_22 : decode jdk_33_method_22_code 22 = .ok (.areturn, 1) := by decide +kernel
theorem d4_23 : decode jdk_33_method_22_code 23 = .ok (.new 1, 3) := by decide +kernel
theorem d4_26 : decode jdk_33_method_22_code 26 = .ok (.dup, 1) := by decide +kernel
theorem d4_27 : decode jdk_33_method_22_code 27 = .ok (.iload_n 0, 1) := by decide +kernel
theorem d4_28 : decode jdk_33_method_22_code 28 = .ok (.invokespecial 199, 3) := by decide +kernel
theorem d4_31 : decode jdk_33_method_22_code 31 = .ok (.areturn, 1) := by decide +kernel
set_option maxRecDepth 65536 in
set_option maxHeartbeats 40000000 in
theorem con_vo (l : Launch) (Z : State) (a0 : Array Value) (hw : ∀ d ∈ tables_1, d.before a0 Z = true) (h0 : Heap) (d0 : Addr × Desc) (x0 : Int32) (c0 : Addr) (cl : Cell) (hHi : Sta Z h0 "java/lang/Integer$IntegerCache" "high" "I" (.int (127 : Int32))) (hCa : Sta Z h0 "java/lang/Integer$IntegerCache" "cache" "[Ljava/lang/Integer;" (.ref c0)) (hAr : Arr Z h0 c0 cl (.object "java/lang/Integer")) (hSz : cl.slots.size = 256) (hEl : ∀ j, j < 256 → ∃ b, cl.slots[j]? = some (.ref b) ∧ Exa Z h0 b "java/lang/Integer") :
    Con l Z (⟨"java/lang/Integer", "valueOf", "(I)Ljava/lang/Integer;"⟩ : MethodName) jdk_33_method_22_code 1 (some (.object "java/lang/Integer")) ({ frames := 3, cells := 1, slots := 1, locals := 38 } : Room) h0 #[(.int x0)] [d0] (fun v ds' => ∃ b1, v = some (.ref b1) ∧ (∀ h, Wld h0 ds' h → Exa Z h b1 "java/lang/Integer") ∧ ∃ tl, ds' = d0 :: tl) := by
  refine con_of (a0 := a0) (Ls := #[.val (.int x0)]) (plainFor_of_name (by first | (simp [plainName, overriddenIn]; done) | decide +kernel)) hw (fun m => by first | (simp [entryFrame, mkF, argsToLocals, Value.category]; done) | rfl) ?_
  intro p e s m below meth c C
  refine g_iloadN C 1 d4_0 rfl rfl ?_
  refine g_bipush C 3 (-128 : Int32) d4_1 rfl rfl ?_
  by_cases c1 : x0 < (-128 : Int32)
  · refine g_icY C 23 d4_3 (tlt c1).1 (by decide) (by decide) ?_
    refine g_new C 26 [("java/lang/Integer", "value", "I", (.int (0 : Int32)))] (List.mem_of_getElem? (i := 30) rfl) (List.mem_of_getElem? (i := 31) rfl) (List.mem_of_getElem? (i := 22) rfl) d4_23 rfl (by decide) (by decide) (List.forall_mem_cons.mpr ⟨⟨Or.inr (List.mem_of_getElem? (i := 44) rfl), .int, by decide, rfl⟩, (fun _ hx => nomatch hx)⟩) ?_
    intro a2
    show Go _ _ _ _ _ _ _ _ _ _ _ _ [d0, (a2, OB Z a0 "java/lang/Integer" [("java/lang/Integer", "value", "I", (.int (0 : Int32)))])] 1 1 26 #[.val (.int x0)] [(.ref a2)]
    refine g_dup C 27 d4_26 rfl rfl ?_
    refine g_iloadN C 28 d4_27 rfl rfl ?_
    refine g_special C 31 1 (argsL := [(.int x0)]) (St := [(.ref a2)]) (con_iinit l Z a0 C.2.2.1 h0 d0 a2 x0) rfl (List.mem_of_getElem? (i := 32) rfl) (List.mem_of_getElem? (i := 33) rfl) (List.mem_of_getElem? (i := 22) rfl) (List.mem_of_getElem? (i := 35) rfl) (by decide) d4_28 rfl rfl (lenOf (ps := [.int]) (r := none) (by decide) rfl) rfl (Nat.le_of_eq rfl) (by decide) (by decide) (by decide) (by decide) ?_
    rintro _ _ ⟨rfl, rfl⟩
    show Go _ _ _ _ _ _ _ _ _ _ _ _ [d0, (a2, OB Z a0 "java/lang/Integer" [("java/lang/Integer", "value", "I", (.int x0))])] 1 1 31 #[.val (.int x0)] [(.ref a2)]
    exact g_aret C rfl rfl rfl d4_31 (by decide) (by decide) ⟨a2, rfl, fun h W => (by obtain ⟨-, c1, q1, q2⟩ := W.at (i := 1) rfl; exact q2.exa q1), ⟨_, rfl⟩⟩
  · refine g_icN C 6 d4_3 (flt c1).1 rfl ?_
    refine g_iloadN C 7 d4_6 rfl rfl ?_
    refine g_getstatic C 10 hHi d4_7 rfl (List.mem_of_getElem? (i := 24) rfl) ?_
    by_cases c3 : (127 : Int32) < x0
    · refine g_icY C 23 d4_10 (tlt c3).2.2.1 (by decide) (by decide) ?_
      refine g_new C 26 [("java/lang/Integer", "value", "I", (.int (0 : Int32)))] (List.mem_of_getElem? (i := 30) rfl) (List.mem_of_getElem? (i := 31) rfl) (List.mem_of_getElem? (i := 22) rfl) d4_23 rfl (by decide) (by decide) (List.forall_mem_cons.mpr ⟨⟨Or.inr (List.mem_of_getElem? (i := 44) rfl), .int, by decide, rfl⟩, (fun _ hx => nomatch hx)⟩) ?_
      intro a4
      show Go _ _ _ _ _ _ _ _ _ _ _ _ [d0, (a4, OB Z a0 "java/lang/Integer" [("java/lang/Integer", "value", "I", (.int (0 : Int32)))])] 1 1 26 #[.val (.int x0)] [(.ref a4)]
      refine g_dup C 27 d4_26 rfl rfl ?_
      refine g_iloadN C 28 d4_27 rfl rfl ?_
      refine g_special C 31 1 (argsL := [(.int x0)]) (St := [(.ref a4)]) (con_iinit l Z a0 C.2.2.1 h0 d0 a4 x0) rfl (List.mem_of_getElem? (i := 32) rfl) (List.mem_of_getElem? (i := 33) rfl) (List.mem_of_getElem? (i := 22) rfl) (List.mem_of_getElem? (i := 35) rfl) (by decide) d4_28 rfl rfl (lenOf (ps := [.int]) (r := none) (by decide) rfl) rfl (Nat.le_of_eq rfl) (by decide) (by decide) (by decide) (by decide) ?_
      rintro _ _ ⟨rfl, rfl⟩
      show Go _ _ _ _ _ _ _ _ _ _ _ _ [d0, (a4, OB Z a0 "java/lang/Integer" [("java/lang/Integer", "value", "I", (.int x0))])] 1 1 31 #[.val (.int x0)] [(.ref a4)]
      exact g_aret C rfl rfl rfl d4_31 (by decide) (by decide) ⟨a4, rfl, fun h W => (by obtain ⟨-, c1, q1, q2⟩ := W.at (i := 1) rfl; exact q2.exa q1), ⟨_, rfl⟩⟩
    · refine g_icN C 13 d4_10 (flt c3).2.2.1 rfl ?_
      refine g_getstatic C 16 hCa d4_13 rfl (List.mem_of_getElem? (i := 26) rfl) ?_
      refine g_iloadN C 17 d4_16 rfl rfl ?_
      refine g_sipush C 20 (128 : Int32) d4_17 rfl rfl ?_
      refine g_iadd C 21 d4_20 rfl ?_
      obtain ⟨b1, hb1, hb2⟩ := hEl _ (Jvm.Free.IntBox.place_ok x0 c1 c3).2
      refine g_aaloadH C 22 hAr rfl d4_21 rfl (by rw [hSz]; exact (Jvm.Free.IntBox.place_ok x0 c1 c3).1) (.ref b1) hb1 ?_
      exact g_aret C rfl rfl rfl d4_22 (by decide) (by decide) ⟨b1, rfl, fun h W => hb2.ext W.extOf, ⟨[], rfl⟩⟩
theorem own_sym (a b c d : Int32) : f_eq a b c d = f_eq c d a b := by
  unfold f_eq
  by_cases h : a = c
  · subst h
    rw [if_pos rfl, if_pos rfl]
    by_cases g : b = d
    · subst g; rfl
    · rw [if_neg g, if_neg (fun q => g q.symm)]
  · rw [if_neg h, if_neg (fun q => h q.symm)]
theorem own_self (a b : Int32) : nar .boolean (f_eq a b a b) = 1 := by
  unfold f_eq; rw [if_pos rfl, if_pos rfl]; decide
theorem own_cache {args : Array Value} {s : State} {c0 : Addr} {cl : Cell} (ec : (Term.static "java/lang/Integer$IntegerCache" "cache" "[Ljava/lang/Integer;").eval args s none [] s = some (.ref c0)) (A : Arr s s.heap c0 cl (.object "java/lang/Integer")) (hsz : cl.slots.size = 256)
    (hall : (Jvm.Cond.all (Term.static "java/lang/Integer$IntegerCache" "cache" "[Ljava/lang/Integer;") (.and (.exactly (.elem (Term.static "java/lang/Integer$IntegerCache" "cache" "[Ljava/lang/Integer;") (.index 0)) "java/lang/Integer") (.eq (.field (.elem (Term.static "java/lang/Integer$IntegerCache" "cache" "[Ljava/lang/Integer;") (.index 0)) "java/lang/Integer" "value" "I") (.sub (.index 0) (.int 128))))).value args s none s [] = some true) : ∀ j, j < 256 → ∃ b, cl.slots[j]? = some (.ref b) ∧ Exa s s.heap b "java/lang/Integer" := by
  intro j hj
  have hat := Jvm.Free.IntBox.arrayAt_of A.1 A.2.1 A.2.2
  have h1 := Cond.all_elim ec hat hall j (by omega)
  obtain ⟨h2, -⟩ := and_e h1
  obtain ⟨b, hb⟩ := exa_v h2
  have hE := exa_at hb h2
  refine ⟨b, ?_, hE⟩
  have ec' : (Term.static "java/lang/Integer$IntegerCache" "cache" "[Ljava/lang/Integer;").eval args s none [j] s = some (.ref c0) := ec
  obtain ⟨p1, p2⟩ := Jvm.Free.IntBox.place_nonneg j hj
  simp [Term.eval, hat, p1, p2] at hb
  simp only [Term.eval] at ec'
  simp_all
theorem own_chain {Z : State} {a0 : Array Value} (hw : ∀ d ∈ tables_1, d.before a0 Z = true) : ∀ w ∈ Cond.chainWords ["java/lang/Integer", "java/lang/Number", "java/lang/Object"], w.before a0 Z = true := by
  intro w hm
  simp only [Cond.chainWords, List.mem_cons, List.not_mem_nil, or_false] at hm
  rcases hm with rfl | rfl | rfl
  · exact hw _ (List.mem_of_getElem? (i := 27) rfl)
  · exact hw _ (List.mem_of_getElem? (i := 28) rfl)
  · exact hw _ (List.mem_of_getElem? (i := 29) rfl)
set_option maxRecDepth 65536 in
set_option maxHeartbeats 40000000 in
theorem con_law (l : Launch) (Z : State) (a0 : Array Value) (hw : ∀ d ∈ tables_1, d.before a0 Z = true) (h0 : Heap) (x0 x1 x2 x3 x4 : Int32) (c0 : Addr) (cl : Cell) (hHi : Sta Z h0 "java/lang/Integer$IntegerCache" "high" "I" (.int (127 : Int32))) (hCa : Sta Z h0 "java/lang/Integer$IntegerCache" "cache" "[Ljava/lang/Integer;" (.ref c0)) (hAr : Arr Z h0 c0 cl (.object "java/lang/Integer")) (hSz : cl.slots.size = 256) (hEl : ∀ j, j < 256 → ∃ b, cl.slots[j]? = some (.ref b) ∧ Exa Z h0 b "java/lang/Integer") :
    Con l Z x code maxLocals ret room_1 h0 #[(.int x0), (.int x1), (.int x2), (.int x3), (.int x4)] [] (fun v ds' => v = some (.int 1)) := by
  refine con_of (a0 := a0) (Ls := #[.val (.int x0), .val (.int x1), .val (.int x2), .val (.int x3), .val (.int x4), .unset, .unset, .unset, .unset, .unset, .unset]) (plainFor_of_name (by first | (simp [plainName, overriddenIn]; done) | decide +kernel)) hw (fun m => by first | (simp [entryFrame, mkF, argsToLocals, Value.category, maxLocals]; done) | rfl) ?_
  intro p e s m below meth c C
  refine g_new C 3 [("com/example/treecreeper/treecreeper/nested/OutputPair", "first", "I", (.int (0 : Int32))), ("com/example/treecreeper/treecreeper/nested/OutputPair", "second", "I", (.int (0 : Int32)))] (List.mem_of_getElem? (i := 0) rfl) (List.mem_of_getElem? (i := 1) rfl) (List.mem_of_getElem? (i := 2) rfl) at_0 rfl (by decide) (by decide) (List.forall_mem_cons.mpr ⟨⟨Or.inr (List.mem_of_getElem? (i := 10) rfl), .int, by decide, rfl⟩, (List.forall_mem_cons.mpr ⟨⟨Or.inr (List.mem_of_getElem? (i := 12) rfl), .int, by decide, rfl⟩, (fun _ hx => nomatch hx)⟩)⟩) ?_
  intro a1
  show Go _ _ _ _ _ _ _ _ _ _ _ _ [(a1, OB Z a0 "com/example/treecreeper/treecreeper/nested/OutputPair" [("com/example/treecreeper/treecreeper/nested/OutputPair", "first", "I", (.int (0 : Int32))), ("com/example/treecreeper/treecreeper/nested/OutputPair", "second", "I", (.int (0 : Int32)))])] 1 2 3 #[.val (.int x0), .val (.int x1), .val (.int x2), .val (.int x3), .val (.int x4), .unset, .unset, .unset, .unset, .unset, .unset] [(.ref a1)]
  refine g_dup C 4 at_3 rfl rfl ?_
  refine g_iloadN C 5 at_4 rfl rfl ?_
  refine g_iloadN C 6 at_5 rfl rfl ?_
  refine g_special C 9 1 (argsL := [(.int x0), (.int x1)]) (St := [(.ref a1)]) (con_pinit l Z a0 C.2.2.1 h0 [(a1, OB Z a0 "com/example/treecreeper/treecreeper/nested/OutputPair" [("com/example/treecreeper/treecreeper/nested/OutputPair", "first", "I", (.int (0 : Int32))), ("com/example/treecreeper/treecreeper/nested/OutputPair", "second", "I", (.int (0 : Int32)))])] 0 a1 x0 x1 rfl) rfl (List.mem_of_getElem? (i := 3) rfl) (List.mem_of_getElem? (i := 4) rfl) (List.mem_of_getElem? (i := 2) rfl) (List.mem_of_getElem? (i := 5) rfl) (by decide) at_6 rfl rfl (lenOf (ps := [.int, .int]) (r := none) (by decide) rfl) rfl (Nat.le_of_eq rfl) (by decide) (by decide) (by decide) (by decide) ?_
  rintro _ _ ⟨rfl, rfl⟩
  show Go _ _ _ _ _ _ _ _ _ _ _ _ [(a1, OB Z a0 "com/example/treecreeper/treecreeper/nested/OutputPair" [("com/example/treecreeper/treecreeper/nested/OutputPair", "first", "I", (.int x0)), ("com/example/treecreeper/treecreeper/nested/OutputPair", "second", "I", (.int x1))])] 1 2 9 #[.val (.int x0), .val (.int x1), .val (.int x2), .val (.int x3), .val (.int x4), .unset, .unset, .unset, .unset, .unset, .unset] [(.ref a1)]
  refine g_astore C 11 #[.val (.int x0), .val (.int x1), .val (.int x2), .val (.int x3), .val (.int x4), .val (.ref a1), .unset, .unset, .unset, .unset, .unset] at_9 rfl rfl rfl ?_
  refine g_iload C 13 at_11 rfl rfl ?_
  refine g_iconst C 14 (3 : Int32) at_13 rfl rfl ?_
  refine g_iand C 15 at_14 rfl ?_
  refine g_istore C 17 #[.val (.int x0), .val (.int x1), .val (.int x2), .val (.int x3), .val (.int x4), .val (.ref a1), .val (.int (x4 &&& (3 : Int32))), .unset, .unset, .unset, .unset] at_15 rfl rfl ?_
  refine g_iload C 19 at_17 rfl rfl ?_
  refine g_iconst C 20 (4 : Int32) at_19 rfl rfl ?_
  refine g_iand C 21 at_20 rfl ?_
  have J4 : ∀ j3 : Int32, j3 = (if (x4 &&& (4 : Int32)) = (0 : Int32) then x2 else x0) → Go p l e room_1 s m #[(.int x0), (.int x1), (.int x2), (.int x3), (.int x4)] below meth c h0 (fun v ds' => v = some (.int 1)) [(a1, OB Z a0 "com/example/treecreeper/treecreeper/nested/OutputPair" [("com/example/treecreeper/treecreeper/nested/OutputPair", "first", "I", (.int x0)), ("com/example/treecreeper/treecreeper/nested/OutputPair", "second", "I", (.int x1))])] 1 2 29 #[.val (.int x0), .val (.int x1), .val (.int x2), .val (.int x3), .val (.int x4), .val (.ref a1), .val (.int (x4 &&& (3 : Int32))), .unset, .unset, .unset, .unset] [(.int j3)] := by
    intro j3 hj3
    refine g_istore C 31 #[.val (.int x0), .val (.int x1), .val (.int x2), .val (.int x3), .val (.int x4), .val (.ref a1), .val (.int (x4 &&& (3 : Int32))), .val (.int j3), .unset, .unset, .unset] at_29 rfl rfl ?_
    refine g_iload C 33 at_31 rfl rfl ?_
    refine g_bipush C 35 (8 : Int32) at_33 rfl rfl ?_
    refine g_iand C 36 at_35 rfl ?_
    have J7 : ∀ j6 : Int32, j6 = (if (x4 &&& (8 : Int32)) = (0 : Int32) then x3 else x1) → Go p l e room_1 s m #[(.int x0), (.int x1), (.int x2), (.int x3), (.int x4)] below meth c h0 (fun v ds' => v = some (.int 1)) [(a1, OB Z a0 "com/example/treecreeper/treecreeper/nested/OutputPair" [("com/example/treecreeper/treecreeper/nested/OutputPair", "first", "I", (.int x0)), ("com/example/treecreeper/treecreeper/nested/OutputPair", "second", "I", (.int x1))])] 1 2 44 #[.val (.int x0), .val (.int x1), .val (.int x2), .val (.int x3), .val (.int x4), .val (.ref a1), .val (.int (x4 &&& (3 : Int32))), .val (.int j3), .unset, .unset, .unset] [(.int j6)] := by
      intro j6 hj6
      refine g_istore C 46 #[.val (.int x0), .val (.int x1), .val (.int x2), .val (.int x3), .val (.int x4), .val (.ref a1), .val (.int (x4 &&& (3 : Int32))), .val (.int j3), .val (.int j6), .unset, .unset] at_44 rfl rfl ?_
      refine g_iload C 48 at_46 rfl rfl ?_
      by_cases c8 : (x4 &&& (3 : Int32)) = (0 : Int32)
      · refine g_ifN C 51 at_48 (teq c8).2 rfl ?_
        refine g_new C 54 [("com/example/treecreeper/treecreeper/nested/OutputPair", "first", "I", (.int (0 : Int32))), ("com/example/treecreeper/treecreeper/nested/OutputPair", "second", "I", (.int (0 : Int32)))] (List.mem_of_getElem? (i := 0) rfl) (List.mem_of_getElem? (i := 1) rfl) (List.mem_of_getElem? (i := 2) rfl) at_51 rfl (by decide) (by decide) (List.forall_mem_cons.mpr ⟨⟨Or.inr (List.mem_of_getElem? (i := 10) rfl), .int, by decide, rfl⟩, (List.forall_mem_cons.mpr ⟨⟨Or.inr (List.mem_of_getElem? (i := 12) rfl), .int, by decide, rfl⟩, (fun _ hx => nomatch hx)⟩)⟩) ?_
        intro a9
        show Go _ _ _ _ _ _ _ _ _ _ _ _ [(a1, OB Z a0 "com/example/treecreeper/treecreeper/nested/OutputPair" [("com/example/treecreeper/treecreeper/nested/OutputPair", "first", "I", (.int x0)), ("com/example/treecreeper/treecreeper/nested/OutputPair", "second", "I", (.int x1))]), (a9, OB Z a0 "com/example/treecreeper/treecreeper/nested/OutputPair" [("com/example/treecreeper/treecreeper/nested/OutputPair", "first", "I", (.int (0 : Int32))), ("com/example/treecreeper/treecreeper/nested/OutputPair", "second", "I", (.int (0 : Int32)))])] 2 4 54 #[.val (.int x0), .val (.int x1), .val (.int x2), .val (.int x3), .val (.int x4), .val (.ref a1), .val (.int (x4 &&& (3 : Int32))), .val (.int j3), .val (.int j6), .unset, .unset] [(.ref a9)]
        refine g_dup C 55 at_54 rfl rfl ?_
        refine g_iload C 57 at_55 rfl rfl ?_
        refine g_iload C 59 at_57 rfl rfl ?_
        refine g_special C 62 1 (argsL := [(.int j3), (.int j6)]) (St := [(.ref a9)]) (con_pinit l Z a0 C.2.2.1 h0 [(a1, OB Z a0 "com/example/treecreeper/treecreeper/nested/OutputPair" [("com/example/treecreeper/treecreeper/nested/OutputPair", "first", "I", (.int x0)), ("com/example/treecreeper/treecreeper/nested/OutputPair", "second", "I", (.int x1))]), (a9, OB Z a0 "com/example/treecreeper/treecreeper/nested/OutputPair" [("com/example/treecreeper/treecreeper/nested/OutputPair", "first", "I", (.int (0 : Int32))), ("com/example/treecreeper/treecreeper/nested/OutputPair", "second", "I", (.int (0 : Int32)))])] 1 a9 j3 j6 rfl) rfl (List.mem_of_getElem? (i := 3) rfl) (List.mem_of_getElem? (i := 4) rfl) (List.mem_of_getElem? (i := 2) rfl) (List.mem_of_getElem? (i := 5) rfl) (by decide) at_59 rfl rfl (lenOf (ps := [.int, .int]) (r := none) (by decide) rfl) rfl (Nat.le_of_eq rfl) (by decide) (by decide) (by decide) (by decide) ?_
        rintro _ _ ⟨rfl, rfl⟩
        show Go _ _ _ _ _ _ _ _ _ _ _ _ [(a1, OB Z a0 "com/example/treecreeper/treecreeper/nested/OutputPair" [("com/example/treecreeper/treecreeper/nested/OutputPair", "first", "I", (.int x0)), ("com/example/treecreeper/treecreeper/nested/OutputPair", "second", "I", (.int x1))]), (a9, OB Z a0 "com/example/treecreeper/treecreeper/nested/OutputPair" [("com/example/treecreeper/treecreeper/nested/OutputPair", "first", "I", (.int j3)), ("com/example/treecreeper/treecreeper/nested/OutputPair", "second", "I", (.int j6))])] 2 4 62 #[.val (.int x0), .val (.int x1), .val (.int x2), .val (.int x3), .val (.int x4), .val (.ref a1), .val (.int (x4 &&& (3 : Int32))), .val (.int j3), .val (.int j6), .unset, .unset] [(.ref a9)]
        refine g_astore C 64 #[.val (.int x0), .val (.int x1), .val (.int x2), .val (.int x3), .val (.int x4), .val (.ref a1), .val (.int (x4 &&& (3 : Int32))), .val (.int j3), .val (.int j6), .val (.ref a9), .unset] at_62 rfl rfl rfl ?_
        refine g_iloadN C 65 at_64 rfl rfl ?_
        refine g_iload C 67 at_65 rfl rfl ?_
        have J13 : ∀ j12 : Int32, j12 = (if x0 = j3 then (if x1 = j6 then (1 : Int32) else (0 : Int32)) else (0 : Int32)) → Go p l e room_1 s m #[(.int x0), (.int x1), (.int x2), (.int x3), (.int x4)] below meth c h0 (fun v ds' => v = some (.int 1)) [(a1, OB Z a0 "com/example/treecreeper/treecreeper/nested/OutputPair" [("com/example/treecreeper/treecreeper/nested/OutputPair", "first", "I", (.int x0)), ("com/example/treecreeper/treecreeper/nested/OutputPair", "second", "I", (.int x1))]), (a9, OB Z a0 "com/example/treecreeper/treecreeper/nested/OutputPair" [("com/example/treecreeper/treecreeper/nested/OutputPair", "first", "I", (.int j3)), ("com/example/treecreeper/treecreeper/nested/OutputPair", "second", "I", (.int j6))])] 2 4 81 #[.val (.int x0), .val (.int x1), .val (.int x2), .val (.int x3), .val (.int x4), .val (.ref a1), .val (.int (x4 &&& (3 : Int32))), .val (.int j3), .val (.int j6), .val (.ref a9), .unset] [(.int j12)] := by
          intro j12 hj12
          refine g_istore C 83 #[.val (.int x0), .val (.int x1), .val (.int x2), .val (.int x3), .val (.int x4), .val (.ref a1), .val (.int (x4 &&& (3 : Int32))), .val (.int j3), .val (.int j6), .val (.ref a9), .val (.int j12)] at_81 rfl rfl ?_
          refine g_aload C 85 at_83 rfl rfl rfl ?_
          refine g_aload C 87 at_85 rfl rfl rfl ?_
          refine g_virtual C 90 0 (i := 0) (argsL := [(.ref a9)]) (St := []) rfl (con_eqP l Z a0 C.2.2.1 h0 [(a1, OB Z a0 "com/example/treecreeper/treecreeper/nested/OutputPair" [("com/example/treecreeper/treecreeper/nested/OutputPair", "first", "I", (.int x0)), ("com/example/treecreeper/treecreeper/nested/OutputPair", "second", "I", (.int x1))]), (a9, OB Z a0 "com/example/treecreeper/treecreeper/nested/OutputPair" [("com/example/treecreeper/treecreeper/nested/OutputPair", "first", "I", (.int j3)), ("com/example/treecreeper/treecreeper/nested/OutputPair", "second", "I", (.int j6))])] 0 1 a1 a9 x0 x1 j3 j6 rfl rfl) (List.mem_of_getElem? (i := 13) rfl) (List.mem_of_getElem? (i := 14) rfl) (List.mem_of_getElem? (i := 16) rfl) (List.mem_of_getElem? (i := 15) rfl) (List.mem_of_getElem? (i := 2) rfl) (List.mem_of_getElem? (i := 17) rfl) (by decide) at_87 rfl rfl (lenOf (ps := [(.object "java/lang/Object")]) (r := some .boolean) (by decide) rfl) rfl (Nat.le_of_eq rfl) (by decide) (by decide) (by decide) (by decide) ?_
          rintro _ _ ⟨rfl, rfl⟩
          show Go _ _ _ _ _ _ _ _ _ _ _ _ [(a1, OB Z a0 "com/example/treecreeper/treecreeper/nested/OutputPair" [("com/example/treecreeper/treecreeper/nested/OutputPair", "first", "I", (.int x0)), ("com/example/treecreeper/treecreeper/nested/OutputPair", "second", "I", (.int x1))]), (a9, OB Z a0 "com/example/treecreeper/treecreeper/nested/OutputPair" [("com/example/treecreeper/treecreeper/nested/OutputPair", "first", "I", (.int j3)), ("com/example/treecreeper/treecreeper/nested/OutputPair", "second", "I", (.int j6))])] 2 4 90 #[.val (.int x0), .val (.int x1), .val (.int x2), .val (.int x3), .val (.int x4), .val (.ref a1), .val (.int (x4 &&& (3 : Int32))), .val (.int j3), .val (.int j6), .val (.ref a9), .val (.int j12)] [(.int (f_eq x0 x1 j3 j6))]
          refine g_iload C 92 at_90 rfl rfl ?_
          refine g_icN C 95 at_92 (teq ((by rw [hj12]; unfold f_eq; rfl) : (f_eq x0 x1 j3 j6) = j12)).2 rfl ?_
          refine g_aload C 97 at_95 rfl rfl rfl ?_
          refine g_aload C 99 at_97 rfl rfl rfl ?_
          refine g_virtual C 102 0 (i := 1) (argsL := [(.ref a1)]) (St := []) rfl (con_eqP l Z a0 C.2.2.1 h0 [(a1, OB Z a0 "com/example/treecreeper/treecreeper/nested/OutputPair" [("com/example/treecreeper/treecreeper/nested/OutputPair", "first", "I", (.int x0)), ("com/example/treecreeper/treecreeper/nested/OutputPair", "second", "I", (.int x1))]), (a9, OB Z a0 "com/example/treecreeper/treecreeper/nested/OutputPair" [("com/example/treecreeper/treecreeper/nested/OutputPair", "first", "I", (.int j3)), ("com/example/treecreeper/treecreeper/nested/OutputPair", "second", "I", (.int j6))])] 1 0 a9 a1 j3 j6 x0 x1 rfl rfl) (List.mem_of_getElem? (i := 13) rfl) (List.mem_of_getElem? (i := 14) rfl) (List.mem_of_getElem? (i := 16) rfl) (List.mem_of_getElem? (i := 15) rfl) (List.mem_of_getElem? (i := 2) rfl) (List.mem_of_getElem? (i := 17) rfl) (by decide) at_99 rfl rfl (lenOf (ps := [(.object "java/lang/Object")]) (r := some .boolean) (by decide) rfl) rfl (Nat.le_of_eq rfl) (by decide) (by decide) (by decide) (by decide) ?_
          rintro _ _ ⟨rfl, rfl⟩
          show Go _ _ _ _ _ _ _ _ _ _ _ _ [(a1, OB Z a0 "com/example/treecreeper/treecreeper/nested/OutputPair" [("com/example/treecreeper/treecreeper/nested/OutputPair", "first", "I", (.int x0)), ("com/example/treecreeper/treecreeper/nested/OutputPair", "second", "I", (.int x1))]), (a9, OB Z a0 "com/example/treecreeper/treecreeper/nested/OutputPair" [("com/example/treecreeper/treecreeper/nested/OutputPair", "first", "I", (.int j3)), ("com/example/treecreeper/treecreeper/nested/OutputPair", "second", "I", (.int j6))])] 2 4 102 #[.val (.int x0), .val (.int x1), .val (.int x2), .val (.int x3), .val (.int x4), .val (.ref a1), .val (.int (x4 &&& (3 : Int32))), .val (.int j3), .val (.int j6), .val (.ref a9), .val (.int j12)] [(.int (f_eq j3 j6 x0 x1))]
          refine g_iload C 104 at_102 rfl rfl ?_
          refine g_icN C 107 at_104 (teq ((by rw [own_sym, hj12]; unfold f_eq; rfl) : (f_eq j3 j6 x0 x1) = j12)).2 rfl ?_
          refine g_iconst C 108 (1 : Int32) at_107 rfl rfl ?_
          refine g_goto C 112 at_108 (by decide) (by decide) ?_
          exact g_nret C (by simp) (z' := (1 : Int32)) (by decide) at_112 (by decide) (by decide) rfl
        by_cases c10 : x0 = j3
        · refine g_icN C 70 at_67 (teq c10).2 rfl ?_
          refine g_iloadN C 71 at_70 rfl rfl ?_
          refine g_iload C 73 at_71 rfl rfl ?_
          by_cases c11 : x1 = j6
          · refine g_icN C 76 at_73 (teq c11).2 rfl ?_
            refine g_iconst C 77 (1 : Int32) at_76 rfl rfl ?_
            refine g_goto C 81 at_77 (by decide) (by decide) ?_
            exact J13 _ (by rw [if_pos c10, if_pos c11])
          · refine g_icY C 80 at_73 (feq c11).2 (by decide) (by decide) ?_
            refine g_iconst C 81 (0 : Int32) at_80 rfl rfl ?_
            exact J13 _ (by rw [if_pos c10, if_neg c11])
        · refine g_icY C 80 at_67 (feq c10).2 (by decide) (by decide) ?_
          refine g_iconst C 81 (0 : Int32) at_80 rfl rfl ?_
          exact J13 _ (by rw [if_neg c10])
      · refine g_ifY C 113 at_48 (feq c8).2 (by decide) (by decide) ?_
        refine g_iload C 115 at_113 rfl rfl ?_
        refine g_iconst C 116 (1 : Int32) at_115 rfl rfl ?_
        by_cases c14 : (x4 &&& (3 : Int32)) = (1 : Int32)
        · refine g_icN C 119 at_116 (teq c14).2 rfl ?_
          refine g_aload C 121 at_119 rfl rfl rfl ?_
          refine g_null C 122 at_121 rfl ?_
          refine g_virtual C 125 0 (i := 0) (argsL := [.null]) (St := []) rfl (con_eqN l Z a0 C.2.2.1 h0 [(a1, OB Z a0 "com/example/treecreeper/treecreeper/nested/OutputPair" [("com/example/treecreeper/treecreeper/nested/OutputPair", "first", "I", (.int x0)), ("com/example/treecreeper/treecreeper/nested/OutputPair", "second", "I", (.int x1))])] a1) (List.mem_of_getElem? (i := 13) rfl) (List.mem_of_getElem? (i := 14) rfl) (List.mem_of_getElem? (i := 16) rfl) (List.mem_of_getElem? (i := 15) rfl) (List.mem_of_getElem? (i := 2) rfl) (List.mem_of_getElem? (i := 17) rfl) (by decide) at_122 rfl rfl (lenOf (ps := [(.object "java/lang/Object")]) (r := some .boolean) (by decide) rfl) rfl (Nat.le_of_eq rfl) (by decide) (by decide) (by decide) (by decide) ?_
          rintro _ _ ⟨rfl, rfl⟩
          show Go _ _ _ _ _ _ _ _ _ _ _ _ [(a1, OB Z a0 "com/example/treecreeper/treecreeper/nested/OutputPair" [("com/example/treecreeper/treecreeper/nested/OutputPair", "first", "I", (.int x0)), ("com/example/treecreeper/treecreeper/nested/OutputPair", "second", "I", (.int x1))])] 1 2 125 #[.val (.int x0), .val (.int x1), .val (.int x2), .val (.int x3), .val (.int x4), .val (.ref a1), .val (.int (x4 &&& (3 : Int32))), .val (.int j3), .val (.int j6), .unset, .unset] [(.int (0 : Int32))]
          refine g_ifN C 128 at_125 (teq ((by decide) : (0 : Int32) = (0 : Int32))).2 rfl ?_
          refine g_iconst C 129 (1 : Int32) at_128 rfl rfl ?_
          refine g_goto C 133 at_129 (by decide) (by decide) ?_
          exact g_nret C (by simp) (z' := (1 : Int32)) (by decide) at_133 (by decide) (by decide) rfl
        · refine g_icY C 134 at_116 (feq c14).2 (by decide) (by decide) ?_
          refine g_iload C 136 at_134 rfl rfl ?_
          refine g_iconst C 137 (2 : Int32) at_136 rfl rfl ?_
          by_cases c15 : (x4 &&& (3 : Int32)) = (2 : Int32)
          · refine g_icN C 140 at_137 (teq c15).2 rfl ?_
            refine g_aload C 142 at_140 rfl rfl rfl ?_
            refine g_iloadN C 143 at_142 rfl rfl ?_
            refine g_static C 146 1 (argsL := [(.int x0)]) (St := [(.ref a1)]) (con_vo l Z a0 C.2.2.1 h0 (a1, OB Z a0 "com/example/treecreeper/treecreeper/nested/OutputPair" [("com/example/treecreeper/treecreeper/nested/OutputPair", "first", "I", (.int x0)), ("com/example/treecreeper/treecreeper/nested/OutputPair", "second", "I", (.int x1))]) x0 c0 cl hHi hCa hAr hSz hEl) (List.mem_of_getElem? (i := 20) rfl) (List.mem_of_getElem? (i := 21) rfl) (List.mem_of_getElem? (i := 22) rfl) (List.mem_of_getElem? (i := 23) rfl) (by decide) at_143 rfl rfl (lenOf (ps := [.int]) (r := some (.object "java/lang/Integer")) (by decide) rfl) rfl (Nat.le_of_eq rfl) (by decide) (by decide) (by decide) (by decide) ?_
            rintro _ _ ⟨bI, rfl, hEx, tl, rfl⟩
            show Go _ _ _ _ _ _ _ _ _ _ _ _ ((a1, OB Z a0 "com/example/treecreeper/treecreeper/nested/OutputPair" [("com/example/treecreeper/treecreeper/nested/OutputPair", "first", "I", (.int x0)), ("com/example/treecreeper/treecreeper/nested/OutputPair", "second", "I", (.int x1))]) :: tl) 2 3 146 #[.val (.int x0), .val (.int x1), .val (.int x2), .val (.int x3), .val (.int x4), .val (.ref a1), .val (.int (x4 &&& (3 : Int32))), .val (.int j3), .val (.int j6), .unset, .unset] [(.ref bI), (.ref a1)]
            refine g_virtual C 149 0 (argsL := [(.ref bI)]) (St := []) (rfl : ((a1, OB Z a0 "com/example/treecreeper/treecreeper/nested/OutputPair" [("com/example/treecreeper/treecreeper/nested/OutputPair", "first", "I", (.int x0)), ("com/example/treecreeper/treecreeper/nested/OutputPair", "second", "I", (.int x1))]) :: tl)[0]? = some _) (con_eqI l Z a0 C.2.2.1 h0 ((a1, OB Z a0 "com/example/treecreeper/treecreeper/nested/OutputPair" [("com/example/treecreeper/treecreeper/nested/OutputPair", "first", "I", (.int x0)), ("com/example/treecreeper/treecreeper/nested/OutputPair", "second", "I", (.int x1))]) :: tl) a1 bI hEx (fun cx hx => notAsg (t := ["java/lang/Number", "java/lang/Object"]) (a0 := a0) (own_chain C.2.2.1) (C.2.2.1 _ (List.mem_of_getElem? (i := 1) rfl)) (by decide) hx)) (List.mem_of_getElem? (i := 13) rfl) (List.mem_of_getElem? (i := 14) rfl) (List.mem_of_getElem? (i := 16) rfl) (List.mem_of_getElem? (i := 15) rfl) (List.mem_of_getElem? (i := 2) rfl) (List.mem_of_getElem? (i := 17) rfl) (by decide) at_146 rfl rfl (lenOf (ps := [(.object "java/lang/Object")]) (r := some .boolean) (by decide) rfl) rfl (Nat.le_of_eq rfl) (by decide) (by decide) (by decide) (by decide) ?_
            rintro _ _ ⟨rfl, rfl⟩
            show Go _ _ _ _ _ _ _ _ _ _ _ _ ((a1, OB Z a0 "com/example/treecreeper/treecreeper/nested/OutputPair" [("com/example/treecreeper/treecreeper/nested/OutputPair", "first", "I", (.int x0)), ("com/example/treecreeper/treecreeper/nested/OutputPair", "second", "I", (.int x1))]) :: tl) 2 3 149 #[.val (.int x0), .val (.int x1), .val (.int x2), .val (.int x3), .val (.int x4), .val (.ref a1), .val (.int (x4 &&& (3 : Int32))), .val (.int j3), .val (.int j6), .unset, .unset] [(.int (0 : Int32))]
            refine g_ifN C 152 at_149 (teq ((by decide) : (0 : Int32) = (0 : Int32))).2 rfl ?_
            refine g_iconst C 153 (1 : Int32) at_152 rfl rfl ?_
            refine g_goto C 157 at_153 (by decide) (by decide) ?_
            exact g_nret C (by simp) (z' := (1 : Int32)) (by decide) at_157 (by decide) (by decide) rfl
          · refine g_icY C 158 at_137 (feq c15).2 (by decide) (by decide) ?_
            refine g_aload C 160 at_158 rfl rfl rfl ?_
            refine g_aload C 162 at_160 rfl rfl rfl ?_
            refine g_virtual C 165 0 (i := 0) (argsL := [(.ref a1)]) (St := []) rfl (con_eqP l Z a0 C.2.2.1 h0 [(a1, OB Z a0 "com/example/treecreeper/treecreeper/nested/OutputPair" [("com/example/treecreeper/treecreeper/nested/OutputPair", "first", "I", (.int x0)), ("com/example/treecreeper/treecreeper/nested/OutputPair", "second", "I", (.int x1))])] 0 0 a1 a1 x0 x1 x0 x1 rfl rfl) (List.mem_of_getElem? (i := 13) rfl) (List.mem_of_getElem? (i := 14) rfl) (List.mem_of_getElem? (i := 16) rfl) (List.mem_of_getElem? (i := 15) rfl) (List.mem_of_getElem? (i := 2) rfl) (List.mem_of_getElem? (i := 17) rfl) (by decide) at_162 rfl rfl (lenOf (ps := [(.object "java/lang/Object")]) (r := some .boolean) (by decide) rfl) rfl (Nat.le_of_eq rfl) (by decide) (by decide) (by decide) (by decide) ?_
            rintro _ _ ⟨rfl, rfl⟩
            show Go _ _ _ _ _ _ _ _ _ _ _ _ [(a1, OB Z a0 "com/example/treecreeper/treecreeper/nested/OutputPair" [("com/example/treecreeper/treecreeper/nested/OutputPair", "first", "I", (.int x0)), ("com/example/treecreeper/treecreeper/nested/OutputPair", "second", "I", (.int x1))])] 1 2 165 #[.val (.int x0), .val (.int x1), .val (.int x2), .val (.int x3), .val (.int x4), .val (.ref a1), .val (.int (x4 &&& (3 : Int32))), .val (.int j3), .val (.int j6), .unset, .unset] [(.int (f_eq x0 x1 x0 x1))]
            exact g_nret C (by simp) (z' := (1 : Int32)) (own_self _ _) at_165 (by decide) (by decide) rfl
    by_cases c5 : (x4 &&& (8 : Int32)) = (0 : Int32)
    · refine g_ifY C 43 at_36 (teq c5).1 (by decide) (by decide) ?_
      refine g_iloadN C 44 at_43 rfl rfl ?_
      exact J7 _ (by rw [if_pos c5])
    · refine g_ifN C 39 at_36 (feq c5).1 rfl ?_
      refine g_iloadN C 40 at_39 rfl rfl ?_
      refine g_goto C 44 at_40 (by decide) (by decide) ?_
      exact J7 _ (by rw [if_neg c5])
  by_cases c2 : (x4 &&& (4 : Int32)) = (0 : Int32)
  · refine g_ifY C 28 at_21 (teq c2).1 (by decide) (by decide) ?_
    refine g_iloadN C 29 at_28 rfl rfl ?_
    exact J4 _ (by rw [if_pos c2])
  · refine g_ifN C 24 at_21 (feq c2).1 rfl ?_
    refine g_iloadN C 25 at_24 rfl rfl ?_
    refine g_goto C 29 at_25 (by decide) (by decide) ?_
    exact J4 _ (by rw [if_neg c2])
set_option maxRecDepth 65536 in
set_option maxHeartbeats 40000000 in
theorem comes_1 {Post : Tables → Env → Array Value → State → Outcome → State → Prop} (hpost : ∀ tb e args s v u, (limb_1_1.after args s (.returned v) u = true ∧ limb_1_2.after args s (.returned v) u = true ∧ True) → FrameEnd s (.returned v) u (Jvm.fieldLocs frame_1_writes args s ++ Jvm.arrayLocs frame_1_arrays args s ++ Jvm.staticLocs frame_1_statics s) 16 128 → Post tb e args s (.returned v) u) :
    ArmFor flags0 classFile x code maxLocals ret World_1 tables_1 room_1 Calls_1 rest_1 Pre_1 Post := by
  intro l hfl _ _ p e ha hc hk s m args below hf hA hF happ hP
  obtain ⟨hcalls, hrest, hpre⟩ := hP
  obtain ⟨-, -, -, hnamed, -, -, -, hat⟩ := (Spec.applies_iff hf).mp happ
  obtain ⟨hg, hn⟩ := and_e (Cond.before_iff.mp (show (Jvm.Cond.and given_1 narrow_1).before args s = true from hpre))
  obtain ⟨hcount, hg0⟩ := and_e hg
  obtain ⟨gi0, hg1⟩ := and_e hg0
  obtain ⟨gi1, hg2⟩ := and_e hg1
  obtain ⟨gi2, hg3⟩ := and_e hg2
  obtain ⟨gi3, hg4⟩ := and_e hg3
  have gi4 := hg4
  obtain ⟨w0, w1, w2, w3, w4, rfl⟩ : ∃ w0 w1 w2 w3 w4 : Value, args = #[w0, w1, w2, w3, w4] := by
    have hs : args.size = 5 := by simpa [Cond.value, given_1] using hcount
    obtain ⟨L⟩ := args
    match L, hs with
    | [w0, w1, w2, w3, w4], _ => exact ⟨w0, w1, w2, w3, w4, rfl⟩
  have hw := fun d (hd : d ∈ tables_1) => atoms_spec (ws := Jvm.Cond.code x code maxLocals ret :: tables_1) hat d (List.mem_cons_of_mem _ hd)
  have hfit : Fit s := fun {y c} hc i hi => by
    obtain ⟨ha, rfl⟩ := Array.getElem?_eq_some_iff.mp hc
    have q := List.all_eq_true.mp ((Array.all_eq_true_iff_forall_mem.mp hF) _ (Array.getElem_mem ha)) i (List.mem_range.mpr hi)
    simpa [Array.getElem?_eq_getElem hi] using q
  obtain ⟨hsets, hown0⟩ := atoms_of _ (rest_1_c_eq ▸ (show rest_1_c.before _ s = true from hrest))
  have hr0 := Cond.before_iff.mp hown0
  obtain ⟨i0, ei0⟩ := is_v gi0
  obtain rfl : w0 = (.int i0) := Option.some.inj ei0
  obtain ⟨i1, ei1⟩ := is_v gi1
  obtain rfl : w1 = (.int i1) := Option.some.inj ei1
  obtain ⟨i2, ei2⟩ := is_v gi2
  obtain rfl : w2 = (.int i2) := Option.some.inj ei2
  obtain ⟨i3, ei3⟩ := is_v gi3
  obtain rfl : w3 = (.int i3) := Option.some.inj ei3
  obtain ⟨i4, ei4⟩ := is_v gi4
  obtain rfl : w4 = (.int i4) := Option.some.inj ei4
  have hHi := Sta.start (eq_int (Cond.before_iff.mp (hsets _ (List.mem_of_getElem? (i := 3) rfl)))) (Or.inl (hsets _ (List.mem_of_getElem? (i := 1) rfl)))
  obtain ⟨c0, ec0⟩ := exa_v (Cond.before_iff.mp (hsets _ (List.mem_of_getElem? (i := 5) rfl)))
  have hCa := Sta.start ec0 (Or.inr ⟨hw _ (List.mem_of_getElem? (i := 25) rfl), (hsets _ (List.mem_of_getElem? (i := 2) rfl))⟩)
  obtain ⟨cl, hAr⟩ := Arr.start ec0 (Cond.before_iff.mp (hsets _ (List.mem_of_getElem? (i := 4) rfl)))
  obtain ⟨hsm, hs32⟩ := Jvm.Free.IntBox.length_fwd (hsets _ (List.mem_of_getElem? (i := 6) rfl)) ec0 hAr.1 hAr.2.1 hAr.2.2
  have hSz : cl.slots.size = 256 := by
    have q : cl.slots.size.toInt32.toNatClampNeg = (256 : Int32).toNatClampNeg := congrArg _ hs32
    have q2 : cl.slots.size.toInt32.toNatClampNeg = cl.slots.size := Int32.toNatClampNeg_ofNat_of_lt hsm
    rw [q2] at q; exact q
  have hEl := own_cache ec0 hAr hSz (Cond.before_iff.mp (hsets _ (List.mem_of_getElem? (i := 7) rfl)))
  obtain ⟨n, o, h1, h2, h3, _, L, rfl, ⟨ds', rfl, -, N⟩, hq⟩ := con_law l s _ hw s.heap i0 i1 i2 i3 i4 c0 cl hHi hCa hAr hSz hEl s.heap (Wld.nil _) tables_1 p e ha hc hk s m _ below hf ((Spec.applies_iff_loose hf).mp happ).1 ⟨rfl, State.Warmed39.refl s, rfl⟩ trivial
  refine ⟨n, _, h1, h2, h3, hpost _ _ _ _ _ _ ⟨Cond.after_iff.mpr rfl, Cond.after_iff.mpr (eq_i res_at (Term.int_eval (1)) rfl), trivial⟩ ⟨hq.1, hq.2.1, (hq.2.2.sift fun y hy => Or.inr (N y hy)).mono (by decide) (by decide)⟩⟩
theorem main_1_1 : Claimed_1_1 := comes_1 fun _ _ _ _ _ _ h hF => ⟨h.1, hF⟩
theorem main_1_2 : Claimed_1_2 := comes_1 fun _ _ _ _ _ _ h hF => ⟨h.2.1, hF⟩
end Jvm.Pilot.@@N@@
namespace Jvm.Pilot.@@N@@
open Jvm Jvm.ClassFile Sem Op Lib Jvm.Free Jvm.Stand Jvm.Pilot.@@N@@.Jvm.D
/-! MADE BY PROGRAM (witnessworld.py) out of the Statement's table words and the real class files: 16 classes; the members and pool entries that the words name. The judged class is class 1, her method 1. -/
namespace start1
open Jvm.ClassFile
def u (s : String) : CpInfo := .utf8 (stringToUtf16 s)
/-- a pool by its gaps: so many unusable entries, then the entry; so many at the end -/
def gap : Nat → List CpInfo → List CpInfo
  | 0, r => r
  | n + 1, r => .unusable :: gap n r
def poolList (es : List (Nat × CpInfo)) (last : Nat) : List CpInfo := es.foldr (fun e r => gap e.1 (e.2 :: r)) (gap last [])
def pool (es : List (Nat × CpInfo)) (last : Nat) : Array CpInfo := ⟨poolList es last⟩
def fileOf (pool : Array CpInfo) (this : Nat) (attrs : Array Attribute := #[]) (ms : Array MethodInfo := #[]) (fl : Nat := 33) (sup : Nat := 0) (ifs : Array Nat := #[]) (fds : Array FieldInfo := #[]) : ClassFile where
  minorVersion := 0
  majorVersion := 65
  constantPool := pool
  accessFlags := fl
  thisClass := this
  superClass := sup
  interfaces := ifs
  fields := fds
  methods := ms
  attributes := attrs
def plain (name : String) (sup : Option ClassId) : Class where
  name := name
  kind := .ordinary
  loader := none
  accessFlags := 33
  super := sup
  interfaces := #[]
  cf := none
  fields := #[]
  methods := #[]
  instanceTypes := #[]
  staticTypes := #[]
  resolved := #[]
  callSites := []
  init := .initialized
  statics := none
  mirror := none

def pool0 : Array CpInfo := pool [(5, u "<init>"), (0, u "()V"), (1, .class_ 10), (1, u "java/lang/Object")] 113

def k0c0 : Code := { maxStack := 0, maxLocals := 1, code := object_method_1_code, exceptionTable := #[], attributes := #[] }
def k0m0 : Method := { name := "<init>", desc := "()V", sig := { parameters := [], returnType := none }, accessFlags := 1, code := some k0c0 }
/-- java/lang/Object -/
def k0 : Class := { plain "java/lang/Object" none with
  accessFlags := 33
  interfaces := #[]
  cf := some (fileOf pool0 8 #[] #[{ accessFlags := 1, nameIndex := 5, descriptorIndex := 6, attributes := #[] }] 33 0 #[] #[])
  fields := #[]
  methods := #[k0m0]
  instanceTypes := #[]
  staticTypes := #[]
  resolved := Array.replicate 124 none
  statics := none }

def pool1 : Array CpInfo := pool [(2, .class_ 4), (1, u "java/lang/Object"), (0, u "<init>"), (0, u "()V"), (0, .class_ 8), (0, u "com/example/treecreeper/treecreeper/nested/OutputPair"), (0, .methodref 7 10), (0, .nameAndType 5 11), (0, u "(II)V"), (0, .methodref 7 13), (0, .nameAndType 14 15), (0, u "equals"), (0, u "(Ljava/lang/Object;)Z"), (0, .methodref 17 18), (0, .class_ 19), (0, .nameAndType 20 21), (0, u "java/lang/Integer"), (0, u "valueOf"), (0, u "(I)Ljava/lang/Integer;"), (0, .class_ 23), (0, u "com/example/treecreeper/treecreeper/nested/OutputPairEqualsPinLaw"), (2, u "law"), (0, u "(IIIII)Z")] 3

def k1m0 : Method := { name := "<init>", desc := "()V", sig := { parameters := [], returnType := none }, accessFlags := 1, code := none }
def k1c1 : Code := { maxStack := 4, maxLocals := 11, code := code, exceptionTable := #[], attributes := #[] }
def k1m1 : Method := { name := "law", desc := "(IIIII)Z", sig := { parameters := [.int, .int, .int, .int, .int], returnType := some .boolean }, accessFlags := 9, code := some k1c1 }
/-- com/example/treecreeper/treecreeper/nested/OutputPairEqualsPinLaw -/
def k1 : Class := { plain "com/example/treecreeper/treecreeper/nested/OutputPairEqualsPinLaw" (some 0) with
  accessFlags := 49
  interfaces := #[]
  cf := some (fileOf pool1 22 #[] #[{ accessFlags := 1, nameIndex := 5, descriptorIndex := 6, attributes := #[] }, { accessFlags := 9, nameIndex := 26, descriptorIndex := 27, attributes := #[] }] 49 2 #[] #[])
  fields := #[]
  methods := #[k1m0, k1m1]
  instanceTypes := #[]
  staticTypes := #[]
  resolved := Array.replicate 31 none
  statics := none }

def pool2 : Array CpInfo := pool [(1, .methodref 2 3), (0, .class_ 4), (0, .nameAndType 5 6), (0, u "java/lang/Object"), (0, u "<init>"), (0, u "()V"), (0, .fieldref 8 9), (0, .class_ 10), (0, .nameAndType 11 12), (0, u "com/example/treecreeper/treecreeper/nested/OutputPair"), (0, u "first"), (0, u "I"), (0, .fieldref 8 14), (0, .nameAndType 15 12), (0, u "second"), (8, u "(II)V"), (18, u "NOTHING"), (0, u "Lcom/example/treecreeper/treecreeper/nested/OutputPair;"), (10, u "equals"), (0, u "(Ljava/lang/Object;)Z")] 21

def k2c0 : Code := { maxStack := 2, maxLocals := 3, code := prog_67_method_1_code, exceptionTable := #[], attributes := #[] }
def k2m0 : Method := { name := "<init>", desc := "(II)V", sig := { parameters := [.int, .int], returnType := none }, accessFlags := 0, code := some k2c0 }
def k2c1 : Code := { maxStack := 2, maxLocals := 3, code := prog_67_method_7_code, exceptionTable := #[], attributes := #[] }
def k2m1 : Method := { name := "equals", desc := "(Ljava/lang/Object;)Z", sig := { parameters := [(.object "java/lang/Object")], returnType := some .boolean }, accessFlags := 1, code := some k2c1 }
/-- com/example/treecreeper/treecreeper/nested/OutputPair -/
def k2 : Class := { plain "com/example/treecreeper/treecreeper/nested/OutputPair" (some 0) with
  accessFlags := 48
  interfaces := #[]
  cf := some (fileOf pool2 8 #[] #[{ accessFlags := 0, nameIndex := 5, descriptorIndex := 24, attributes := #[] }, { accessFlags := 1, nameIndex := 55, descriptorIndex := 56, attributes := #[] }] 48 2 #[] #[{ accessFlags := 24, nameIndex := 43, descriptorIndex := 44, attributes := #[] }, { accessFlags := 18, nameIndex := 11, descriptorIndex := 12, attributes := #[] }, { accessFlags := 18, nameIndex := 15, descriptorIndex := 12, attributes := #[] }])
  fields := #[{ name := "NOTHING", type := (.object "com/example/treecreeper/treecreeper/nested/OutputPair"), accessFlags := 24, slot := 0, constantValue := 0 }, { name := "first", type := .int, accessFlags := 18, slot := 0, constantValue := 0 }, { name := "second", type := .int, accessFlags := 18, slot := 1, constantValue := 0 }]
  methods := #[k2m0, k2m1]
  instanceTypes := #[.int, .int]
  staticTypes := #[(.object "com/example/treecreeper/treecreeper/nested/OutputPair")]
  resolved := Array.replicate 78 none
  statics := none }

def pool3 : Array CpInfo := pool [(1, .class_ 2), (0, u "java/io/Serializable"), (0, .class_ 4), (0, u "java/lang/Object")] 2

/-- java/io/Serializable -/
def k3 : Class := { plain "java/io/Serializable" (some 0) with
  accessFlags := 1537
  interfaces := #[]
  cf := some (fileOf pool3 1 #[] #[] 1537 3 #[] #[])
  fields := #[]
  methods := #[]
  instanceTypes := #[]
  staticTypes := #[]
  resolved := Array.replicate 7 none
  statics := none }

def pool4 : Array CpInfo := pool [(1, .methodref 2 3), (0, .class_ 4), (0, .nameAndType 5 6), (0, u "java/lang/Object"), (0, u "<init>"), (0, u "()V"), (1, .class_ 10), (1, u "java/lang/Number"), (2, .class_ 14), (0, u "java/io/Serializable"), (0, u "serialVersionUID"), (0, u "J")] 20

def k4c0 : Code := { maxStack := 1, maxLocals := 1, code := jdk_18_method_1_code, exceptionTable := #[], attributes := #[] }
def k4m0 : Method := { name := "<init>", desc := "()V", sig := { parameters := [], returnType := none }, accessFlags := 1, code := some k4c0 }
/-- java/lang/Number -/
def k4 : Class := { plain "java/lang/Number" (some 0) with
  accessFlags := 1057
  interfaces := #[3]
  cf := some (fileOf pool4 8 #[] #[{ accessFlags := 1, nameIndex := 5, descriptorIndex := 6, attributes := #[] }] 1057 2 #[13] #[{ accessFlags := 26, nameIndex := 15, descriptorIndex := 16, attributes := #[] }])
  fields := #[{ name := "serialVersionUID", type := .long, accessFlags := 26, slot := 0, constantValue := 0 }]
  methods := #[k4m0]
  instanceTypes := #[]
  staticTypes := #[.long]
  resolved := Array.replicate 37 none
  statics := none }

def pool5 : Array CpInfo := pool [(1, .class_ 2), (0, u "java/lang/Comparable"), (0, .class_ 4), (0, u "java/lang/Object")] 7

/-- java/lang/Comparable -/
def k5 : Class := { plain "java/lang/Comparable" (some 0) with
  accessFlags := 1537
  interfaces := #[]
  cf := some (fileOf pool5 1 #[] #[] 1537 3 #[] #[])
  fields := #[]
  methods := #[]
  instanceTypes := #[]
  staticTypes := #[]
  resolved := Array.replicate 12 none
  statics := none }

def pool6 : Array CpInfo := pool [(1, .class_ 2), (0, u "java/lang/constant/Constable"), (0, .class_ 4), (0, u "java/lang/Object")] 6

/-- java/lang/constant/Constable -/
def k6 : Class := { plain "java/lang/constant/Constable" (some 0) with
  accessFlags := 1537
  interfaces := #[]
  cf := some (fileOf pool6 1 #[] #[] 1537 3 #[] #[])
  fields := #[]
  methods := #[]
  instanceTypes := #[]
  staticTypes := #[]
  resolved := Array.replicate 11 none
  statics := none }

def pool7 : Array CpInfo := pool [(1, .class_ 2), (0, u "java/lang/constant/ConstantDesc"), (0, .class_ 4), (0, u "java/lang/Object")] 32

/-- java/lang/constant/ConstantDesc -/
def k7 : Class := { plain "java/lang/constant/ConstantDesc" (some 0) with
  accessFlags := 1537
  interfaces := #[]
  cf := some (fileOf pool7 1 #[] #[] 1537 3 #[] #[])
  fields := #[]
  methods := #[]
  instanceTypes := #[]
  staticTypes := #[]
  resolved := Array.replicate 37 none
  statics := none }

def pool8 : Array CpInfo := pool [(1, .class_ 2), (0, u "java/lang/Integer"), (16, u "digits"), (0, u "[C"), (46, u "<init>"), (17, u "DigitOnes"), (0, u "[B"), (2, u "DigitTens"), (10, .nameAndType 67 101), (0, u "()V"), (85, u "valueOf"), (0, u "(I)Ljava/lang/Integer;"), (0, .class_ 190), (0, u "java/lang/Integer$IntegerCache"), (0, .fieldref 189 192), (0, .nameAndType 193 194), (0, u "high"), (0, u "I"), (0, .fieldref 189 196), (0, .nameAndType 197 198), (0, u "cache"), (0, u "[Ljava/lang/Integer;"), (0, .methodref 1 200), (0, .nameAndType 67 201), (0, u "(I)V"), (0, .methodref 203 100), (0, .class_ 204), (0, u "java/lang/Number"), (0, .fieldref 1 206), (0, .nameAndType 207 194), (0, u "value"), (94, u "TYPE"), (0, u "Ljava/lang/Class;"), (0, .class_ 305), (0, u "java/lang/Comparable"), (0, .class_ 307), (0, u "java/lang/constant/Constable"), (0, .class_ 309), (0, u "java/lang/constant/ConstantDesc"), (0, u "MIN_VALUE"), (1, u "MAX_VALUE"), (3, u "SIZE"), (1, u "BYTES"), (1, u "serialVersionUID"), (0, u "J")] 131

def k8c0 : Code := { maxStack := 3, maxLocals := 1, code := jdk_33_method_22_code, exceptionTable := #[], attributes := #[] }
def k8m0 : Method := { name := "valueOf", desc := "(I)Ljava/lang/Integer;", sig := { parameters := [.int], returnType := some (.object "java/lang/Integer") }, accessFlags := 9, code := some k8c0 }
def k8c1 : Code := { maxStack := 2, maxLocals := 2, code := jdk_33_method_23_code, exceptionTable := #[], attributes := #[] }
def k8m1 : Method := { name := "<init>", desc := "(I)V", sig := { parameters := [.int], returnType := none }, accessFlags := 1, code := some k8c1 }
/-- java/lang/Integer -/
def k8 : Class := { plain "java/lang/Integer" (some 4) with
  accessFlags := 49
  interfaces := #[5, 6, 7]
  cf := some (fileOf pool8 1 #[.nestMembers #[189]] #[{ accessFlags := 9, nameIndex := 187, descriptorIndex := 188, attributes := #[] }, { accessFlags := 1, nameIndex := 67, descriptorIndex := 201, attributes := #[] }] 49 203 #[304, 306, 308] #[{ accessFlags := 25, nameIndex := 310, descriptorIndex := 194, attributes := #[] }, { accessFlags := 25, nameIndex := 312, descriptorIndex := 194, attributes := #[] }, { accessFlags := 25, nameIndex := 302, descriptorIndex := 303, attributes := #[] }, { accessFlags := 24, nameIndex := 19, descriptorIndex := 20, attributes := #[] }, { accessFlags := 24, nameIndex := 89, descriptorIndex := 86, attributes := #[] }, { accessFlags := 24, nameIndex := 85, descriptorIndex := 86, attributes := #[] }, { accessFlags := 18, nameIndex := 207, descriptorIndex := 194, attributes := #[] }, { accessFlags := 25, nameIndex := 316, descriptorIndex := 194, attributes := #[] }, { accessFlags := 25, nameIndex := 318, descriptorIndex := 194, attributes := #[] }, { accessFlags := 26, nameIndex := 320, descriptorIndex := 321, attributes := #[] }])
  fields := #[{ name := "MIN_VALUE", type := .int, accessFlags := 25, slot := 0, constantValue := 0 }, { name := "MAX_VALUE", type := .int, accessFlags := 25, slot := 1, constantValue := 0 }, { name := "TYPE", type := (.object "java/lang/Class"), accessFlags := 25, slot := 2, constantValue := 0 }, { name := "digits", type := (.array .char), accessFlags := 24, slot := 3, constantValue := 0 }, { name := "DigitTens", type := (.array .byte), accessFlags := 24, slot := 4, constantValue := 0 }, { name := "DigitOnes", type := (.array .byte), accessFlags := 24, slot := 5, constantValue := 0 }, { name := "value", type := .int, accessFlags := 18, slot := 0, constantValue := 0 }, { name := "SIZE", type := .int, accessFlags := 25, slot := 6, constantValue := 0 }, { name := "BYTES", type := .int, accessFlags := 25, slot := 7, constantValue := 0 }, { name := "serialVersionUID", type := .long, accessFlags := 26, slot := 8, constantValue := 0 }]
  methods := #[k8m0, k8m1]
  instanceTypes := #[.int]
  staticTypes := #[.int, .int, (.object "java/lang/Class"), (.array .char), (.array .byte), (.array .byte), .int, .int, .long]
  resolved := Array.replicate 453 none
  statics := none }

def pool9 : Array CpInfo := pool [(2, .class_ 4), (1, u "java/lang/Object"), (0, u "<init>"), (0, u "()V"), (0, .class_ 8), (0, u "java/lang/Integer"), (7, .class_ 18), (1, u "java/lang/Integer$IntegerCache"), (0, u "$assertionsDisabled"), (0, u "Z"), (26, u "high"), (0, u "I"), (8, u "archivedCache"), (0, u "[Ljava/lang/Integer;"), (12, u "cache"), (0, u "low")] 27

def k9m0 : Method := { name := "<init>", desc := "()V", sig := { parameters := [], returnType := none }, accessFlags := 2, code := none }
/-- java/lang/Integer$IntegerCache -/
def k9 : Class := { plain "java/lang/Integer$IntegerCache" (some 0) with
  accessFlags := 48
  interfaces := #[]
  cf := some (fileOf pool9 16 #[.nestHost 7] #[{ accessFlags := 2, nameIndex := 5, descriptorIndex := 6, attributes := #[] }] 48 2 #[] #[{ accessFlags := 24, nameIndex := 72, descriptorIndex := 48, attributes := #[] }, { accessFlags := 24, nameIndex := 47, descriptorIndex := 48, attributes := #[] }, { accessFlags := 24, nameIndex := 71, descriptorIndex := 58, attributes := #[] }, { accessFlags := 8, nameIndex := 57, descriptorIndex := 58, attributes := #[] }, { accessFlags := 4120, nameIndex := 19, descriptorIndex := 20, attributes := #[] }])
  fields := #[{ name := "low", type := .int, accessFlags := 24, slot := 0, constantValue := 0 }, { name := "high", type := .int, accessFlags := 24, slot := 1, constantValue := 0 }, { name := "cache", type := (.array (.object "java/lang/Integer")), accessFlags := 24, slot := 2, constantValue := 0 }, { name := "archivedCache", type := (.array (.object "java/lang/Integer")), accessFlags := 8, slot := 3, constantValue := 0 }, { name := "$assertionsDisabled", type := .boolean, accessFlags := 4120, slot := 4, constantValue := 0 }]
  methods := #[k9m0]
  instanceTypes := #[]
  staticTypes := #[.int, .int, (.array (.object "java/lang/Integer")), (.array (.object "java/lang/Integer")), .boolean]
  resolved := Array.replicate 100 none
  statics := some 0 }

def pool10 : Array CpInfo := pool [(1, u "java/lang/Cloneable"), (0, .class_ 1), (0, u "java/lang/Object"), (0, .class_ 3)] 3

/-- java/lang/Cloneable -/
def k10 : Class := { plain "java/lang/Cloneable" (some 0) with
  accessFlags := 1537
  interfaces := #[]
  cf := some (fileOf pool10 2 #[] #[] 1537 4 #[] #[])
  fields := #[]
  methods := #[]
  instanceTypes := #[]
  staticTypes := #[]
  resolved := Array.replicate 8 none
  statics := none }

/-- the primitive byte -/
def k11 : Class := { plain "byte" none with kind := .primitive 'B', accessFlags := 0x411 }
/-- [B -/
def k12 : Class := { plain "[B" (some 0) with kind := .array 11 .byte, interfaces := #[10, 3], accessFlags := 1041 }

/-- the primitive int -/
def k13 : Class := { plain "int" none with kind := .primitive 'I', accessFlags := 0x411 }
/-- [I -/
def k14 : Class := { plain "[I" (some 0) with kind := .array 13 .int, interfaces := #[10, 3], accessFlags := 1041 }

/-- [Ljava/lang/Integer; -/
def k15 : Class := { plain "[Ljava/lang/Integer;" (some 0) with kind := .array 8 (.object "java/lang/Integer"), interfaces := #[10, 3], accessFlags := 1041 }

def heap : Heap := #[{ cls := 9, slots := #[.int 0, .int 127, .ref 1, .null, .int 0], vm := .statics 9 },
  { cls := 15, slots := #[.ref 2, .ref 3, .ref 4, .ref 5, .ref 6, .ref 7, .ref 8, .ref 9, .ref 10, .ref 11, .ref 12, .ref 13, .ref 14, .ref 15, .ref 16, .ref 17, .ref 18, .ref 19, .ref 20, .ref 21, .ref 22, .ref 23, .ref 24, .ref 25, .ref 26, .ref 27, .ref 28, .ref 29, .ref 30, .ref 31, .ref 32, .ref 33, .ref 34, .ref 35, .ref 36, .ref 37, .ref 38, .ref 39, .ref 40, .ref 41, .ref 42, .ref 43, .ref 44, .ref 45, .ref 46, .ref 47, .ref 48, .ref 49, .ref 50, .ref 51, .ref 52, .ref 53, .ref 54, .ref 55, .ref 56, .ref 57, .ref 58, .ref 59, .ref 60, .ref 61, .ref 62, .ref 63, .ref 64, .ref 65, .ref 66, .ref 67, .ref 68, .ref 69, .ref 70, .ref 71, .ref 72, .ref 73, .ref 74, .ref 75, .ref 76, .ref 77, .ref 78, .ref 79, .ref 80, .ref 81, .ref 82, .ref 83, .ref 84, .ref 85, .ref 86, .ref 87, .ref 88, .ref 89, .ref 90, .ref 91, .ref 92, .ref 93, .ref 94, .ref 95, .ref 96, .ref 97, .ref 98, .ref 99, .ref 100, .ref 101, .ref 102, .ref 103, .ref 104, .ref 105, .ref 106, .ref 107, .ref 108, .ref 109, .ref 110, .ref 111, .ref 112, .ref 113, .ref 114, .ref 115, .ref 116, .ref 117, .ref 118, .ref 119, .ref 120, .ref 121, .ref 122, .ref 123, .ref 124, .ref 125, .ref 126, .ref 127, .ref 128, .ref 129, .ref 130, .ref 131, .ref 132, .ref 133, .ref 134, .ref 135, .ref 136, .ref 137, .ref 138, .ref 139, .ref 140, .ref 141, .ref 142, .ref 143, .ref 144, .ref 145, .ref 146, .ref 147, .ref 148, .ref 149, .ref 150, .ref 151, .ref 152, .ref 153, .ref 154, .ref 155, .ref 156, .ref 157, .ref 158, .ref 159, .ref 160, .ref 161, .ref 162, .ref 163, .ref 164, .ref 165, .ref 166, .ref 167, .ref 168, .ref 169, .ref 170, .ref 171, .ref 172, .ref 173, .ref 174, .ref 175, .ref 176, .ref 177, .ref 178, .ref 179, .ref 180, .ref 181, .ref 182, .ref 183, .ref 184, .ref 185, .ref 186, .ref 187, .ref 188, .ref 189, .ref 190, .ref 191, .ref 192, .ref 193, .ref 194, .ref 195, .ref 196, .ref 197, .ref 198, .ref 199, .ref 200, .ref 201, .ref 202, .ref 203, .ref 204, .ref 205, .ref 206, .ref 207, .ref 208, .ref 209, .ref 210, .ref 211, .ref 212, .ref 213, .ref 214, .ref 215, .ref 216, .ref 217, .ref 218, .ref 219, .ref 220, .ref 221, .ref 222, .ref 223, .ref 224, .ref 225, .ref 226, .ref 227, .ref 228, .ref 229, .ref 230, .ref 231, .ref 232, .ref 233, .ref 234, .ref 235, .ref 236, .ref 237, .ref 238, .ref 239, .ref 240, .ref 241, .ref 242, .ref 243, .ref 244, .ref 245, .ref 246, .ref 247, .ref 248, .ref 249, .ref 250, .ref 251, .ref 252, .ref 253, .ref 254, .ref 255, .ref 256, .ref 257], vm := .none },
  { cls := 8, slots := #[.int (-128)], vm := .none },
  { cls := 8, slots := #[.int (-127)], vm := .none },
  { cls := 8, slots := #[.int (-126)], vm := .none },
  { cls := 8, slots := #[.int (-125)], vm := .none },
  { cls := 8, slots := #[.int (-124)], vm := .none },
  { cls := 8, slots := #[.int (-123)], vm := .none },
  { cls := 8, slots := #[.int (-122)], vm := .none },
  { cls := 8, slots := #[.int (-121)], vm := .none },
  { cls := 8, slots := #[.int (-120)], vm := .none },
  { cls := 8, slots := #[.int (-119)], vm := .none },
  { cls := 8, slots := #[.int (-118)], vm := .none },
  { cls := 8, slots := #[.int (-117)], vm := .none },
  { cls := 8, slots := #[.int (-116)], vm := .none },
  { cls := 8, slots := #[.int (-115)], vm := .none },
  { cls := 8, slots := #[.int (-114)], vm := .none },
  { cls := 8, slots := #[.int (-113)], vm := .none },
  { cls := 8, slots := #[.int (-112)], vm := .none },
  { cls := 8, slots := #[.int (-111)], vm := .none },
  { cls := 8, slots := #[.int (-110)], vm := .none },
  { cls := 8, slots := #[.int (-109)], vm := .none },
  { cls := 8, slots := #[.int (-108)], vm := .none },
  { cls := 8, slots := #[.int (-107)], vm := .none },
  { cls := 8, slots := #[.int (-106)], vm := .none },
  { cls := 8, slots := #[.int (-105)], vm := .none },
  { cls := 8, slots := #[.int (-104)], vm := .none },
  { cls := 8, slots := #[.int (-103)], vm := .none },
  { cls := 8, slots := #[.int (-102)], vm := .none },
  { cls := 8, slots := #[.int (-101)], vm := .none },
  { cls := 8, slots := #[.int (-100)], vm := .none },
  { cls := 8, slots := #[.int (-99)], vm := .none },
  { cls := 8, slots := #[.int (-98)], vm := .none },
  { cls := 8, slots := #[.int (-97)], vm := .none },
  { cls := 8, slots := #[.int (-96)], vm := .none },
  { cls := 8, slots := #[.int (-95)], vm := .none },
  { cls := 8, slots := #[.int (-94)], vm := .none },
  { cls := 8, slots := #[.int (-93)], vm := .none },
  { cls := 8, slots := #[.int (-92)], vm := .none },
  { cls := 8, slots := #[.int (-91)], vm := .none },
  { cls := 8, slots := #[.int (-90)], vm := .none },
  { cls := 8, slots := #[.int (-89)], vm := .none },
  { cls := 8, slots := #[.int (-88)], vm := .none },
  { cls := 8, slots := #[.int (-87)], vm := .none },
  { cls := 8, slots := #[.int (-86)], vm := .none },
  { cls := 8, slots := #[.int (-85)], vm := .none },
  { cls := 8, slots := #[.int (-84)], vm := .none },
  { cls := 8, slots := #[.int (-83)], vm := .none },
  { cls := 8, slots := #[.int (-82)], vm := .none },
  { cls := 8, slots := #[.int (-81)], vm := .none },
  { cls := 8, slots := #[.int (-80)], vm := .none },
  { cls := 8, slots := #[.int (-79)], vm := .none },
  { cls := 8, slots := #[.int (-78)], vm := .none },
  { cls := 8, slots := #[.int (-77)], vm := .none },
  { cls := 8, slots := #[.int (-76)], vm := .none },
  { cls := 8, slots := #[.int (-75)], vm := .none },
  { cls := 8, slots := #[.int (-74)], vm := .none },
  { cls := 8, slots := #[.int (-73)], vm := .none },
  { cls := 8, slots := #[.int (-72)], vm := .none },
  { cls := 8, slots := #[.int (-71)], vm := .none },
  { cls := 8, slots := #[.int (-70)], vm := .none },
  { cls := 8, slots := #[.int (-69)], vm := .none },
  { cls := 8, slots := #[.int (-68)], vm := .none },
  { cls := 8, slots := #[.int (-67)], vm := .none },
  { cls := 8, slots := #[.int (-66)], vm := .none },
  { cls := 8, slots := #[.int (-65)], vm := .none },
  { cls := 8, slots := #[.int (-64)], vm := .none },
  { cls := 8, slots := #[.int (-63)], vm := .none },
  { cls := 8, slots := #[.int (-62)], vm := .none },
  { cls := 8, slots := #[.int (-61)], vm := .none },
  { cls := 8, slots := #[.int (-60)], vm := .none },
  { cls := 8, slots := #[.int (-59)], vm := .none },
  { cls := 8, slots := #[.int (-58)], vm := .none },
  { cls := 8, slots := #[.int (-57)], vm := .none },
  { cls := 8, slots := #[.int (-56)], vm := .none },
  { cls := 8, slots := #[.int (-55)], vm := .none },
  { cls := 8, slots := #[.int (-54)], vm := .none },
  { cls := 8, slots := #[.int (-53)], vm := .none },
  { cls := 8, slots := #[.int (-52)], vm := .none },
  { cls := 8, slots := #[.int (-51)], vm := .none },
  { cls := 8, slots := #[.int (-50)], vm := .none },
  { cls := 8, slots := #[.int (-49)], vm := .none },
  { cls := 8, slots := #[.int (-48)], vm := .none },
  { cls := 8, slots := #[.int (-47)], vm := .none },
  { cls := 8, slots := #[.int (-46)], vm := .none },
  { cls := 8, slots := #[.int (-45)], vm := .none },
  { cls := 8, slots := #[.int (-44)], vm := .none },
  { cls := 8, slots := #[.int (-43)], vm := .none },
  { cls := 8, slots := #[.int (-42)], vm := .none },
  { cls := 8, slots := #[.int (-41)], vm := .none },
  { cls := 8, slots := #[.int (-40)], vm := .none },
  { cls := 8, slots := #[.int (-39)], vm := .none },
  { cls := 8, slots := #[.int (-38)], vm := .none },
  { cls := 8, slots := #[.int (-37)], vm := .none },
  { cls := 8, slots := #[.int (-36)], vm := .none },
  { cls := 8, slots := #[.int (-35)], vm := .none },
  { cls := 8, slots := #[.int (-34)], vm := .none },
  { cls := 8, slots := #[.int (-33)], vm := .none },
  { cls := 8, slots := #[.int (-32)], vm := .none },
  { cls := 8, slots := #[.int (-31)], vm := .none },
  { cls := 8, slots := #[.int (-30)], vm := .none },
  { cls := 8, slots := #[.int (-29)], vm := .none },
  { cls := 8, slots := #[.int (-28)], vm := .none },
  { cls := 8, slots := #[.int (-27)], vm := .none },
  { cls := 8, slots := #[.int (-26)], vm := .none },
  { cls := 8, slots := #[.int (-25)], vm := .none },
  { cls := 8, slots := #[.int (-24)], vm := .none },
  { cls := 8, slots := #[.int (-23)], vm := .none },
  { cls := 8, slots := #[.int (-22)], vm := .none },
  { cls := 8, slots := #[.int (-21)], vm := .none },
  { cls := 8, slots := #[.int (-20)], vm := .none },
  { cls := 8, slots := #[.int (-19)], vm := .none },
  { cls := 8, slots := #[.int (-18)], vm := .none },
  { cls := 8, slots := #[.int (-17)], vm := .none },
  { cls := 8, slots := #[.int (-16)], vm := .none },
  { cls := 8, slots := #[.int (-15)], vm := .none },
  { cls := 8, slots := #[.int (-14)], vm := .none },
  { cls := 8, slots := #[.int (-13)], vm := .none },
  { cls := 8, slots := #[.int (-12)], vm := .none },
  { cls := 8, slots := #[.int (-11)], vm := .none },
  { cls := 8, slots := #[.int (-10)], vm := .none },
  { cls := 8, slots := #[.int (-9)], vm := .none },
  { cls := 8, slots := #[.int (-8)], vm := .none },
  { cls := 8, slots := #[.int (-7)], vm := .none },
  { cls := 8, slots := #[.int (-6)], vm := .none },
  { cls := 8, slots := #[.int (-5)], vm := .none },
  { cls := 8, slots := #[.int (-4)], vm := .none },
  { cls := 8, slots := #[.int (-3)], vm := .none },
  { cls := 8, slots := #[.int (-2)], vm := .none },
  { cls := 8, slots := #[.int (-1)], vm := .none },
  { cls := 8, slots := #[.int (0)], vm := .none },
  { cls := 8, slots := #[.int (1)], vm := .none },
  { cls := 8, slots := #[.int (2)], vm := .none },
  { cls := 8, slots := #[.int (3)], vm := .none },
  { cls := 8, slots := #[.int (4)], vm := .none },
  { cls := 8, slots := #[.int (5)], vm := .none },
  { cls := 8, slots := #[.int (6)], vm := .none },
  { cls := 8, slots := #[.int (7)], vm := .none },
  { cls := 8, slots := #[.int (8)], vm := .none },
  { cls := 8, slots := #[.int (9)], vm := .none },
  { cls := 8, slots := #[.int (10)], vm := .none },
  { cls := 8, slots := #[.int (11)], vm := .none },
  { cls := 8, slots := #[.int (12)], vm := .none },
  { cls := 8, slots := #[.int (13)], vm := .none },
  { cls := 8, slots := #[.int (14)], vm := .none },
  { cls := 8, slots := #[.int (15)], vm := .none },
  { cls := 8, slots := #[.int (16)], vm := .none },
  { cls := 8, slots := #[.int (17)], vm := .none },
  { cls := 8, slots := #[.int (18)], vm := .none },
  { cls := 8, slots := #[.int (19)], vm := .none },
  { cls := 8, slots := #[.int (20)], vm := .none },
  { cls := 8, slots := #[.int (21)], vm := .none },
  { cls := 8, slots := #[.int (22)], vm := .none },
  { cls := 8, slots := #[.int (23)], vm := .none },
  { cls := 8, slots := #[.int (24)], vm := .none },
  { cls := 8, slots := #[.int (25)], vm := .none },
  { cls := 8, slots := #[.int (26)], vm := .none },
  { cls := 8, slots := #[.int (27)], vm := .none },
  { cls := 8, slots := #[.int (28)], vm := .none },
  { cls := 8, slots := #[.int (29)], vm := .none },
  { cls := 8, slots := #[.int (30)], vm := .none },
  { cls := 8, slots := #[.int (31)], vm := .none },
  { cls := 8, slots := #[.int (32)], vm := .none },
  { cls := 8, slots := #[.int (33)], vm := .none },
  { cls := 8, slots := #[.int (34)], vm := .none },
  { cls := 8, slots := #[.int (35)], vm := .none },
  { cls := 8, slots := #[.int (36)], vm := .none },
  { cls := 8, slots := #[.int (37)], vm := .none },
  { cls := 8, slots := #[.int (38)], vm := .none },
  { cls := 8, slots := #[.int (39)], vm := .none },
  { cls := 8, slots := #[.int (40)], vm := .none },
  { cls := 8, slots := #[.int (41)], vm := .none },
  { cls := 8, slots := #[.int (42)], vm := .none },
  { cls := 8, slots := #[.int (43)], vm := .none },
  { cls := 8, slots := #[.int (44)], vm := .none },
  { cls := 8, slots := #[.int (45)], vm := .none },
  { cls := 8, slots := #[.int (46)], vm := .none },
  { cls := 8, slots := #[.int (47)], vm := .none },
  { cls := 8, slots := #[.int (48)], vm := .none },
  { cls := 8, slots := #[.int (49)], vm := .none },
  { cls := 8, slots := #[.int (50)], vm := .none },
  { cls := 8, slots := #[.int (51)], vm := .none },
  { cls := 8, slots := #[.int (52)], vm := .none },
  { cls := 8, slots := #[.int (53)], vm := .none },
  { cls := 8, slots := #[.int (54)], vm := .none },
  { cls := 8, slots := #[.int (55)], vm := .none },
  { cls := 8, slots := #[.int (56)], vm := .none },
  { cls := 8, slots := #[.int (57)], vm := .none },
  { cls := 8, slots := #[.int (58)], vm := .none },
  { cls := 8, slots := #[.int (59)], vm := .none },
  { cls := 8, slots := #[.int (60)], vm := .none },
  { cls := 8, slots := #[.int (61)], vm := .none },
  { cls := 8, slots := #[.int (62)], vm := .none },
  { cls := 8, slots := #[.int (63)], vm := .none },
  { cls := 8, slots := #[.int (64)], vm := .none },
  { cls := 8, slots := #[.int (65)], vm := .none },
  { cls := 8, slots := #[.int (66)], vm := .none },
  { cls := 8, slots := #[.int (67)], vm := .none },
  { cls := 8, slots := #[.int (68)], vm := .none },
  { cls := 8, slots := #[.int (69)], vm := .none },
  { cls := 8, slots := #[.int (70)], vm := .none },
  { cls := 8, slots := #[.int (71)], vm := .none },
  { cls := 8, slots := #[.int (72)], vm := .none },
  { cls := 8, slots := #[.int (73)], vm := .none },
  { cls := 8, slots := #[.int (74)], vm := .none },
  { cls := 8, slots := #[.int (75)], vm := .none },
  { cls := 8, slots := #[.int (76)], vm := .none },
  { cls := 8, slots := #[.int (77)], vm := .none },
  { cls := 8, slots := #[.int (78)], vm := .none },
  { cls := 8, slots := #[.int (79)], vm := .none },
  { cls := 8, slots := #[.int (80)], vm := .none },
  { cls := 8, slots := #[.int (81)], vm := .none },
  { cls := 8, slots := #[.int (82)], vm := .none },
  { cls := 8, slots := #[.int (83)], vm := .none },
  { cls := 8, slots := #[.int (84)], vm := .none },
  { cls := 8, slots := #[.int (85)], vm := .none },
  { cls := 8, slots := #[.int (86)], vm := .none },
  { cls := 8, slots := #[.int (87)], vm := .none },
  { cls := 8, slots := #[.int (88)], vm := .none },
  { cls := 8, slots := #[.int (89)], vm := .none },
  { cls := 8, slots := #[.int (90)], vm := .none },
  { cls := 8, slots := #[.int (91)], vm := .none },
  { cls := 8, slots := #[.int (92)], vm := .none },
  { cls := 8, slots := #[.int (93)], vm := .none },
  { cls := 8, slots := #[.int (94)], vm := .none },
  { cls := 8, slots := #[.int (95)], vm := .none },
  { cls := 8, slots := #[.int (96)], vm := .none },
  { cls := 8, slots := #[.int (97)], vm := .none },
  { cls := 8, slots := #[.int (98)], vm := .none },
  { cls := 8, slots := #[.int (99)], vm := .none },
  { cls := 8, slots := #[.int (100)], vm := .none },
  { cls := 8, slots := #[.int (101)], vm := .none },
  { cls := 8, slots := #[.int (102)], vm := .none },
  { cls := 8, slots := #[.int (103)], vm := .none },
  { cls := 8, slots := #[.int (104)], vm := .none },
  { cls := 8, slots := #[.int (105)], vm := .none },
  { cls := 8, slots := #[.int (106)], vm := .none },
  { cls := 8, slots := #[.int (107)], vm := .none },
  { cls := 8, slots := #[.int (108)], vm := .none },
  { cls := 8, slots := #[.int (109)], vm := .none },
  { cls := 8, slots := #[.int (110)], vm := .none },
  { cls := 8, slots := #[.int (111)], vm := .none },
  { cls := 8, slots := #[.int (112)], vm := .none },
  { cls := 8, slots := #[.int (113)], vm := .none },
  { cls := 8, slots := #[.int (114)], vm := .none },
  { cls := 8, slots := #[.int (115)], vm := .none },
  { cls := 8, slots := #[.int (116)], vm := .none },
  { cls := 8, slots := #[.int (117)], vm := .none },
  { cls := 8, slots := #[.int (118)], vm := .none },
  { cls := 8, slots := #[.int (119)], vm := .none },
  { cls := 8, slots := #[.int (120)], vm := .none },
  { cls := 8, slots := #[.int (121)], vm := .none },
  { cls := 8, slots := #[.int (122)], vm := .none },
  { cls := 8, slots := #[.int (123)], vm := .none },
  { cls := 8, slots := #[.int (124)], vm := .none },
  { cls := 8, slots := #[.int (125)], vm := .none },
  { cls := 8, slots := #[.int (126)], vm := .none },
  { cls := 8, slots := #[.int (127)], vm := .none }]
def classes : Array Class := #[k0, k1, k2, k3, k4, k5, k6, k7, k8, k9, k10, k11, k12, k13, k14, k15]
def interned : List (Array UInt16 × Addr) := []
def slotsUsed : Nat := 517
def theMethod : MethodId := ⟨1, 1⟩
def args0 : Array Value := #[.int 1, .int 2, .int 3, .int 4, .int 5]
def aboutOver (below : List Frame) : State where
  vm := { classes := classes, interned := interned.toArray }
  heap := heap
  slotsUsed := slotsUsed
  threads := #[{ frames := .invoking theMethod args0 :: below }]
def below0 : List Frame := [.native { method := ⟨0, 0⟩, args := #[] }]
def about1 : State := aboutOver below0
def p0 : Program := .bare "" "" ""
def e0 : Env := launch0.env 0 0 0
theorem w_frames : about1.frames = Frame.invoking theMethod args0 :: below0 := rfl
set_option maxRecDepth 65536 in
theorem w_args : argsFit about1.vm theMethod args0 = true := by decide +kernel
set_option maxRecDepth 65536 in
theorem w_heap : heapFits about1 = true := by decide +kernel
set_option maxRecDepth 65536 in
theorem w_runnable : about1.curStatus? = some .runnable := by decide +kernel
set_option maxRecDepth 65536 in
theorem w_alone : about1.alone = true := by decide +kernel
set_option maxRecDepth 65536 in
theorem w_named : about1.methodNamed? x = some theMethod := by decide +kernel
set_option maxRecDepth 65536 in
theorem w_hears : about1.hears theMethod below0 = true := by decide +kernel
set_option maxRecDepth 65536 in
theorem w_ripe : about1.ripe theMethod args0 below0 = true := by decide +kernel
theorem w_running : about1.status = .running := rfl
set_option maxRecDepth 65536 in
theorem w_room : about1.hasRoom e0.platform room_1 = true :=
  launch0.hasRoom_least _ room_1 (by decide +kernel) (by decide +kernel) (by decide +kernel) (by decide +kernel) (by decide +kernel) (by decide +kernel)
theorem allAtoms_all (ts : List Jvm.Cond) (a : Array Jvm.Value) (st : Jvm.State) : (allAtoms ts).before a st = ts.all (fun c => c.before a st) := by
  induction ts with
  | nil => rfl
  | cons c t ih =>
    show (Jvm.Cond.and c (allAtoms t)).before a st = _
    rw [Jvm.Cond.before_and, ih, List.all_cons]
def words1 : List Jvm.Cond := Jvm.Cond.code x code maxLocals ret :: tables_1
/-- a 'code' word, met by the world's own term for the bytes: nothing is compared byte by byte -/
theorem code_word {y : MethodName} {bytes : ByteArray} {mx : Nat} {rt : Option FieldType} {a : Array Value} {s : State} {m : MethodId} {meth : Method} {c : Code} (h1 : s.methodNamed? y = some m) (h2 : s.vm.method? m = some meth) (h3 : meth.code = some c) (h4 : c.code = bytes)
    (h5 : (c.maxLocals == mx && c.exceptionTable.isEmpty && decide (c.maxStack ≤ mostOperands) && decide (meth.sig.returnType = rt) && !meth.locks && decide (parseMethodDescriptor y.desc = some meth.sig)) = true) : (Jvm.Cond.code y bytes mx rt).before a s = true := by
  simp only [Bool.and_eq_true, beq_iff_eq, Bool.not_eq_true', decide_eq_true_eq] at h5
  obtain ⟨⟨⟨⟨⟨g1, g2⟩, g3⟩, g4⟩, g5⟩, g6⟩ := h5
  simp [Cond.before, Cond.holds, Cond.value, h1, h2, h3, h4, g1, g2, g3, g4, g5, g6]
def isCode : Jvm.Cond → Bool
  | .code _ _ _ _ => true
  | _ => false
theorem all_split {L : List Jvm.Cond} {P : Jvm.Cond → Bool} (h1 : L.all (fun c => isCode c || P c) = true) (h2 : ∀ c ∈ L.filter isCode, P c = true) : L.all P = true := by
  refine List.all_eq_true.mpr fun c hc => ?_
  have h := List.all_eq_true.mp h1 c hc
  rcases Bool.eq_false_or_eq_true (isCode c) with hi | hi
  · exact h2 c (List.mem_filter.mpr ⟨hc, hi⟩)
  · simpa [hi] using h
set_option maxRecDepth 65536 in
theorem w_c0 : (Jvm.Cond.code x code maxLocals ret).before args0 about1 = true := code_word (m := ⟨1, 1⟩) (meth := k1m1) (c := k1c1) (by decide +kernel) rfl rfl rfl (by decide +kernel)
set_option maxRecDepth 65536 in
theorem w_c1 : (Jvm.Cond.code ({ cls := "com/example/treecreeper/treecreeper/nested/OutputPair", name := "<init>", desc := "(II)V" } : Jvm.MethodName) prog_67_method_1_code (3 : Nat) (Option.none : Option Jvm.ClassFile.FieldType)).before args0 about1 = true := code_word (m := ⟨2, 0⟩) (meth := k2m0) (c := k2c0) (by decide +kernel) rfl rfl rfl (by decide +kernel)
set_option maxRecDepth 65536 in
theorem w_c2 : (Jvm.Cond.code ({ cls := "java/lang/Object", name := "<init>", desc := "()V" } : Jvm.MethodName) object_method_1_code (1 : Nat) (Option.none : Option Jvm.ClassFile.FieldType)).before args0 about1 = true := code_word (m := ⟨0, 0⟩) (meth := k0m0) (c := k0c0) (by decide +kernel) rfl rfl rfl (by decide +kernel)
set_option maxRecDepth 65536 in
theorem w_c3 : (Jvm.Cond.code ({ cls := "com/example/treecreeper/treecreeper/nested/OutputPair", name := "equals", desc := "(Ljava/lang/Object;)Z" } : Jvm.MethodName) prog_67_method_7_code (3 : Nat) (Option.some Jvm.ClassFile.FieldType.boolean)).before args0 about1 = true := code_word (m := ⟨2, 1⟩) (meth := k2m1) (c := k2c1) (by decide +kernel) rfl rfl rfl (by decide +kernel)
set_option maxRecDepth 65536 in
theorem w_c4 : (Jvm.Cond.code ({ cls := "java/lang/Integer", name := "valueOf", desc := "(I)Ljava/lang/Integer;" } : Jvm.MethodName) jdk_33_method_22_code (1 : Nat) (Option.some (Jvm.ClassFile.FieldType.object "java/lang/Integer"))).before args0 about1 = true := code_word (m := ⟨8, 0⟩) (meth := k8m0) (c := k8c0) (by decide +kernel) rfl rfl rfl (by decide +kernel)
set_option maxRecDepth 65536 in
theorem w_c5 : (Jvm.Cond.code ({ cls := "java/lang/Integer", name := "<init>", desc := "(I)V" } : Jvm.MethodName) jdk_33_method_23_code (2 : Nat) (Option.none : Option Jvm.ClassFile.FieldType)).before args0 about1 = true := code_word (m := ⟨8, 1⟩) (meth := k8m1) (c := k8c1) (by decide +kernel) rfl rfl rfl (by decide +kernel)
set_option maxRecDepth 65536 in
theorem w_c6 : (Jvm.Cond.code ({ cls := "java/lang/Number", name := "<init>", desc := "()V" } : Jvm.MethodName) jdk_18_method_1_code (1 : Nat) (Option.none : Option Jvm.ClassFile.FieldType)).before args0 about1 = true := code_word (m := ⟨4, 0⟩) (meth := k4m0) (c := k4c0) (by decide +kernel) rfl rfl rfl (by decide +kernel)
def codes1 : List Jvm.Cond := [Jvm.Cond.code x code maxLocals ret, Jvm.Cond.code ({ cls := "com/example/treecreeper/treecreeper/nested/OutputPair", name := "<init>", desc := "(II)V" } : Jvm.MethodName) prog_67_method_1_code (3 : Nat) (Option.none : Option Jvm.ClassFile.FieldType), Jvm.Cond.code ({ cls := "java/lang/Object", name := "<init>", desc := "()V" } : Jvm.MethodName) object_method_1_code (1 : Nat) (Option.none : Option Jvm.ClassFile.FieldType), Jvm.Cond.code ({ cls := "com/example/treecreeper/treecreeper/nested/OutputPair", name := "equals", desc := "(Ljava/lang/Object;)Z" } : Jvm.MethodName) prog_67_method_7_code (3 : Nat) (Option.some Jvm.ClassFile.FieldType.boolean), Jvm.Cond.code ({ cls := "java/lang/Integer", name := "valueOf", desc := "(I)Ljava/lang/Integer;" } : Jvm.MethodName) jdk_33_method_22_code (1 : Nat) (Option.some (Jvm.ClassFile.FieldType.object "java/lang/Integer")), Jvm.Cond.code ({ cls := "java/lang/Integer", name := "<init>", desc := "(I)V" } : Jvm.MethodName) jdk_33_method_23_code (2 : Nat) (Option.none : Option Jvm.ClassFile.FieldType), Jvm.Cond.code ({ cls := "java/lang/Number", name := "<init>", desc := "()V" } : Jvm.MethodName) jdk_18_method_1_code (1 : Nat) (Option.none : Option Jvm.ClassFile.FieldType)]
set_option maxRecDepth 65536 in
theorem codes_eq : words1.filter isCode = codes1 := rfl
theorem w_codes : ∀ c ∈ words1.filter isCode, c.before args0 about1 = true := by
  rw [codes_eq]
  intro c hc
  simp only [codes1, List.mem_cons, List.not_mem_nil, or_false] at hc
  rcases hc with rfl | rfl | rfl | rfl | rfl | rfl | rfl
  · exact w_c0
  · exact w_c1
  · exact w_c2
  · exact w_c3
  · exact w_c4
  · exact w_c5
  · exact w_c6
set_option maxRecDepth 65536 in
theorem w_t1 : (words1.take 24).all (fun c => isCode c || c.before args0 about1) = true := by decide +kernel
set_option maxRecDepth 65536 in
theorem w_t2 : (words1.drop 24).all (fun c => isCode c || c.before args0 about1) = true := by decide +kernel
theorem w_tables : (allAtoms (Jvm.Cond.code x code maxLocals ret :: tables_1)).before args0 about1 = true := by
  rw [allAtoms_all]
  show words1.all (fun c => c.before args0 about1) = true
  refine all_split ?_ w_codes
  rw [← List.take_append_drop 24 words1, List.all_append, w_t1, w_t2]
  rfl
set_option maxRecDepth 65536 in
theorem w_rest : rest_1_c.before args0 about1 = true := by decide +kernel
set_option maxRecDepth 65536 in
theorem w_case : (Jvm.Cond.and given_1 narrow_1).before args0 about1 = true := by decide +kernel
theorem w_applies : (headSpec (Jvm.Cond.code x code maxLocals ret :: tables_1) room_1).applies x e0.platform about1 = true :=
  (Spec.applies_iff w_frames).mpr ⟨w_running, w_runnable, w_alone, w_named, w_hears, w_ripe, w_room, w_tables⟩
theorem atStart : AtStart classFile x code maxLocals ret World_1 tables_1 room_1 Calls_1 rest_1 Pre_1 launch0 p0 e0 about1 theMethod args0 below0 :=
  ⟨lists_1, trivial, launch0.admits_env _ _ _, launch0.least_env, fairChoices_fair.cas, fairChoices_fair.clock, w_frames, w_args, w_heap, w_applies, trivial, w_rest, w_case⟩
end start1
theorem witness_1 : WitnessClaimed_1 := ⟨start1.p0, start1.e0, start1.about1, start1.theMethod, start1.args0, start1.below0, start1.atStart⟩
end Jvm.Pilot.@@N@@
