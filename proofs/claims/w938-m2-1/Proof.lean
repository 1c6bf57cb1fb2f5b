import JvmDerived
import JvmDerived.Pilot.@@N@@Statement
import JvmDerived.Pilot.@@N@@Code
set_option linter.unusedVariables false
set_option linter.unusedSimpArgs false
namespace Jvm.Pilot.@@N@@
open Jvm Jvm.ClassFile Sem Op Lib Jvm.Free Jvm.Stand Jvm.LawKit Jvm.RoadKit Bundle Jvm.Pilot.@@N@@.Jvm.D
/-! own walk layer: a world of fresh cells, and one lemma per instruction in continuation form -/
abbrev Desc : Type := Cell → Prop
abbrev Wd : Type := List (Addr × Desc)
/-- the heap h holds h0 unchanged and, besides, the described cells (all of them younger than h0) -/
def Wld (h0 : Heap) (ds : Wd) (h : Heap) : Prop :=
  h0.size ≤ h.size ∧ (∀ (a : Addr) (c : Cell), h0[a]? = some c → h[a]? = some c) ∧ (ds.map Prod.fst).Nodup ∧ ∀ (i : Nat) (a : Addr) (d : Desc), ds[i]? = some (a, d) → h0.size ≤ a ∧ ∃ c : Cell, h[a]? = some c ∧ d c
def Ends (tb : Tables) (e : Env) (below : List Frame) (A : State) (G : Outcome → State → Prop) : Prop := ∃ t o, Steps tb e below A t ∧ t.status = .running ∧ Ended t below o ∧ G o t
/-- the fixed surroundings of a walk -/
def Cx (p : Program) (s : State) (m : MethodId) (meth : Method) (c : Code) (Z : State) (a0 : Array Value) (own : String) (bytes : ByteArray) (ml : Nat) (rt : Option FieldType) (nm : String) : Prop :=
  p.tables.exec = Jvm.exec ∧ Z.Warmed39 s.vm ∧ (∀ d ∈ tables_1, d.before a0 Z = true) ∧ c.code = bytes ∧ c.maxLocals = ml ∧ s.vm.findClass own = some m.cls ∧ meth.sig.returnType = rt ∧ meth.locks = false ∧ meth.name = nm
/-- from pc with these locals and this stack the body comes back, and Q holds of what it returns and of the world that it leaves -/
def Go (p : Program) (l : Launch) (e : Env) (R : Room) (s : State) (m : MethodId) (args : Array Value) (below : List Frame) (meth : Method) (c : Code) (h0 : Heap) (Q : Option Value → Wd → Prop) (ds : Wd) (k n pc : Nat) (Ls : Array Slot) (St : List Value) : Prop :=
  ∀ T locs, Stand p l e R s m args below meth c T locs k n → Wld h0 ds T.heap → Fr h0.size locs →
    Ends p.tables e below (T.setTop (mkF m pc Ls St)) (fun o t => ∃ v L, o = .returned v ∧ (∃ ds', Q v ds' ∧ Wld h0 ds' t.heap ∧ Fr h0.size L) ∧ FrameEnd s o t L R.cells R.slots)
/-- a body's contract -/
def Con (l : Launch) (Z : State) (y : MethodName) (bytes : ByteArray) (ml : Nat) (rt : Option FieldType) (rm : Room) (h0 : Heap) (as' : Array Value) (ds : Wd) (Q : Option Value → Wd → Prop) : Prop :=
  ∀ h, Wld h0 ds h → ∀ ws, MetFree l y (head1 (Jvm.Cond.code y bytes ml rt :: ws) rm) (fun a U => a = as' ∧ Z.Warmed39 U.vm ∧ U.heap = h) (fun _ _ _ _ _ => True)
    (fun _ U o U' => ∃ v L, o = .returned v ∧ (∃ ds', Q v ds' ∧ Wld h0 ds' U'.heap ∧ Fr h0.size L) ∧ FrameEnd U o U' L rm.cells rm.slots)
/-- an array's cell -/
def IA (Z : State) (ty : FieldType) (vs : List Value) : Desc := fun c => Z.isArrayOf c ty ∧ c.vm ≠ .unknown ∧ c.slots.toList = vs
abbrev ints (xs : List Int32) : List Value := xs.map Value.int
/-- a field: the class that declares it, name, descriptor, value -/
abbrev Fv : Type := String × String × String × Value
def fldC (Z : State) (c : Cell) (x : Fv) : Prop := ∃ (cf : ClassId) (k : Class) (i : Nat) (f : Field), Z.fieldFound? x.1 x.2.1 x.2.2.1 = some (cf, k, i, f) ∧ f.isStatic = false ∧ c.vm ≠ .unknown ∧ c.vm.isStatics = false ∧ Z.vm.assignable c.cls cf = true ∧ c.slots[f.slot]? = some x.2.2.2
def OB (Z : State) (a0 : Array Value) (C : String) (fs : List Fv) : Desc := fun c =>
  (∃ k : Class, Z.vm.findClass C = some c.cls ∧ Z.vm.classes[c.cls]? = some k ∧ c.vm.isStatics = false ∧ (k.kind = .ordinary → c.slots.size = k.instanceTypes.size)) ∧
  (∀ x ∈ fs, fldC Z c x ∧ Laid Z a0 C x.1 x.2.1 x.2.2.1 ∧ ∃ t, parseFieldDescriptor x.2.2.1 = some t)
section Own
variable {p : Program} {l : Launch} {e : Env} {R : Room} {s : State} {m : MethodId} {args : Array Value} {below : List Frame} {meth : Method} {c : Code} {Z : State} {a0 : Array Value} {h0 h h' : Heap} {Q : Option Value → Wd → Prop} {ds ds' : Wd} {k n pc : Nat} {Ls Ls' : Array Slot} {St : List Value} {own : String} {bytes : ByteArray} {ml : Nat} {rt : Option FieldType} {nm : String}
theorem Ends.pre {tb : Tables} {A B : State} {G : Outcome → State → Prop} (H : ∀ t, Steps tb e below B t → Steps tb e below A t) (K : Ends tb e below B G) : Ends tb e below A G := by
  obtain ⟨t, o, h1, h2⟩ := K; exact ⟨t, o, H t h1, h2⟩
theorem Wld.nil (h0 : Heap) : Wld h0 [] h0 := ⟨Nat.le_refl _, fun _ _ q => q, List.nodup_nil, fun i a d q => by simp at q⟩
theorem Wld.extOf (W : Wld h0 ds h) : Ext h0 h := ⟨W.1, W.2.1⟩
theorem Wld.at {i : Nat} {a : Addr} {d : Desc} (W : Wld h0 ds h) (hi : ds[i]? = some (a, d)) : h0.size ≤ a ∧ ∃ c : Cell, h[a]? = some c ∧ d c := W.2.2.2 i a d hi
theorem nodup_inj {α : Type} {L : List α} (h : L.Nodup) {i j : Nat} (hi : i < L.length) (hj : j < L.length) (e : L[i] = L[j]) : i = j := by
  rcases Nat.lt_trichotomy i j with q | q | q
  · exact absurd e (List.pairwise_iff_getElem.mp h i j hi hj q)
  · exact q
  · exact absurd e.symm (List.pairwise_iff_getElem.mp h j i hj hi q)
theorem Wld.ne {i j : Nat} {a b : Addr} {d d' : Desc} (W : Wld h0 ds h) (hi : ds[i]? = some (a, d)) (hj : ds[j]? = some (b, d')) (hij : i ≠ j) : a ≠ b := by
  intro e
  obtain ⟨h1, e1⟩ := List.getElem?_eq_some_iff.mp hi
  obtain ⟨h2, e2⟩ := List.getElem?_eq_some_iff.mp hj
  have l1 : i < (ds.map Prod.fst).length := by simpa using h1
  have l2 : j < (ds.map Prod.fst).length := by simpa using h2
  have g : (ds.map Prod.fst)[i] = (ds.map Prod.fst)[j] := by simp [e1, e2, e]
  exact hij (nodup_inj W.2.2.1 l1 l2 g)
theorem Wld.wr {i : Nat} {a : Addr} {d d' : Desc} {sl : Nat} {v : Value} (W : Wld h0 ds h) (hi : ds[i]? = some (a, d)) (wr : Wr h h' a sl v) (hd : ∀ c, h[a]? = some c → sl < c.slots.size → d c → d' (c.setSlot sl v)) : Wld h0 (ds.set i (a, d')) h' := by
  obtain ⟨ha, c, hc, dc⟩ := W.at hi
  obtain ⟨c0, hc0, -, hsl, -⟩ := id wr
  cases hc.symm.trans hc0
  refine ⟨by rw [wr.size]; exact W.1, fun b cb hb => ?_, ?_, ?_⟩
  · have hbl : b < h0.size := (Array.getElem?_eq_some_iff.mp hb).1
    obtain ⟨c', e1, -, -, -, e5, -⟩ := wr_at wr (W.2.1 b cb hb)
    rw [← e5 (fun q => Nat.not_lt.mpr ha (q ▸ hbl))]; exact e1
  · have q : (ds.set i (a, d')).map Prod.fst = ds.map Prod.fst := by
      rw [List.map_set]
      obtain ⟨l1, e1⟩ := List.getElem?_eq_some_iff.mp hi
      apply List.ext_getElem?
      intro j
      rw [List.getElem?_set]
      split
      · rename_i hj; subst hj; simp [l1, e1]
      · rfl
    rw [q]; exact W.2.2.1
  · intro j b db hj
    rw [List.getElem?_set] at hj
    split at hj
    · rename_i hij
      subst hij
      obtain ⟨l1, e1⟩ := List.getElem?_eq_some_iff.mp hi
      simp only [l1, if_true, Option.some.injEq, Prod.mk.injEq] at hj
      obtain ⟨rfl, rfl⟩ := hj
      obtain ⟨c', e1, -, -, -, -, -, e7⟩ := wr_at wr hc
      exact ⟨ha, c', e1, by rw [(e7 rfl).1]; exact hd c hc hsl dc⟩
    · rename_i hij
      obtain ⟨hb, cb, hcb, dcb⟩ := W.at hj
      have hne : b ≠ a := fun e => W.ne hi hj hij e.symm
      obtain ⟨c', e1, -, -, -, e5, -⟩ := wr_at wr hcb
      exact ⟨hb, cb, by rw [← e5 hne]; exact e1, dcb⟩
theorem Wld.new {d : Desc} (W : Wld h0 ds h) (E : Ext h h') {c : Cell} (hc : h'[h.size]? = some c) (dc : d c) : Wld h0 (ds ++ [(h.size, d)]) h' := by
  refine ⟨Nat.le_trans W.1 E.1, fun a c q => E.2 _ _ (W.2.1 a c q), ?_, ?_⟩
  · rw [List.map_append, List.nodup_append]
    refine ⟨W.2.2.1, by simp, ?_⟩
    intro a ha b hb
    simp only [List.map_cons, List.map_nil, List.mem_singleton] at hb
    subst hb
    obtain ⟨⟨x, dx⟩, hx, rfl⟩ := List.mem_map.mp ha
    obtain ⟨i, hi⟩ := List.getElem?_of_mem hx
    obtain ⟨-, cc, hcc, -⟩ := W.at hi
    exact Nat.ne_of_lt (Array.getElem?_eq_some_iff.mp hcc).1
  · intro i a dd hi
    rw [List.getElem?_append] at hi
    split at hi
    · obtain ⟨h1, cc, h2, h3⟩ := W.at hi
      exact ⟨h1, cc, E.2 _ _ h2, h3⟩
    · rename_i hlt
      rw [List.getElem?_singleton] at hi
      split at hi
      · cases hi; exact ⟨W.1, c, hc, dc⟩
      · cases hi
theorem OB.exa {C : String} {fs : List Fv} {a : Addr} {cl : Cell} (hc : h[a]? = some cl) (O : OB Z a0 C fs cl) : Exa Z h a C := by
  obtain ⟨⟨k, h1, h2, h3, h4⟩, -⟩ := O; exact ⟨cl, k, hc, h1, h2, h3, h4⟩
theorem OB.fld {C O n d : String} {v : Value} {fs : List Fv} {a : Addr} {cl : Cell} (hc : h[a]? = some cl) (Ob : OB Z a0 C fs cl) (hx : (O, n, d, v) ∈ fs) : Fld Z h a O n d v := by
  obtain ⟨⟨cf, k, i, f, h1, h2, h3, h4, h5, h6⟩, -⟩ := Ob.2 _ hx
  exact ⟨cl, cf, k, i, f, hc, h1, h2, h3, h4, h5, h6⟩
theorem OB.of {C : String} {fs : List Fv} {a : Addr} (E : Exa Z h a C) {cl : Cell} (hc : h[a]? = some cl) (F : ∀ x ∈ fs, Fld Z h a x.1 x.2.1 x.2.2.1 x.2.2.2 ∧ Laid Z a0 C x.1 x.2.1 x.2.2.1 ∧ ∃ t, parseFieldDescriptor x.2.2.1 = some t) : OB Z a0 C fs cl := by
  obtain ⟨cell, k, h1, h2, h3, h4, h5⟩ := E
  cases hc.symm.trans h1
  refine ⟨⟨k, h2, h3, h4, h5⟩, fun x hx => ?_⟩
  obtain ⟨⟨cell, cf, k, i, f, g1, g2⟩, L, t⟩ := F x hx
  cases hc.symm.trans g1
  exact ⟨⟨cf, k, i, f, g2⟩, L, t⟩

/-! entering and leaving -/
theorem con_of {y : MethodName} {rm : Room} {as' : Array Value} (hpl : plainFor y = true) (hw : ∀ d ∈ tables_1, d.before a0 Z = true) (hef : ∀ m, entryFrame m as' ml = mkF m 0 Ls [])
    (H : ∀ (p : Program) (e : Env) (s : State) (m : MethodId) (below : List Frame) (meth : Method) (c : Code), Cx p s m meth c Z a0 y.cls bytes ml rt y.name → Go p l e rm s m as' below meth c h0 Q ds 0 0 0 Ls []) : Con l Z y bytes ml rt rm h0 as' ds Q := by
  intro h W ws
  refine MetFree.of_bodySF hpl hisR ?_
  intro p e s m args below meth c s₁ Bd hml0 hP hK
  obtain ⟨rfl, hZ, hh⟩ := hP
  have hx := Bd.exec
  have hown := findClass_of_methodNamed Bd.named
  have hnm := (name_of_methodNamed Bd.named Bd.method).1
  have X0 : Stand p l e rm s m args below meth c s₁ [] 0 0 := Stand.of_body Bd
  have e0 : s₁.heap = h := by rw [← hh, Bd.state]; rfl
  have C : Cx p s m meth c Z a0 y.cls bytes ml rt y.name := ⟨hx, hZ, hw, Bd.bytes, hml0, hown, Bd.returns, Bd.notSynchronized, hnm⟩
  obtain ⟨t, o, h1, h2, h3, h4⟩ := H p e s m below meth c C s₁ [] X0 (by rw [e0]; exact W) (Fr.nil _)
  exact ⟨t, o, castTop (hef m) h1, h2, h3, h4⟩
theorem Ends.out (C : Cx p s m meth c Z a0 own bytes ml rt nm) {T : State} {locs : List Loc} {g : JFrame} (X : Stand p l e R s m args below meth c T locs k n) (W : Wld h0 ds T.heap) (N : Fr h0.size locs) (hk : k ≤ R.cells) (hn : n ≤ R.slots) {v : Option Value} (hv : rt = none → v = none) (q : Q v ds)
    (H : ∀ fs, (∀ (f : JFrame) (acts : List Action), f.method = m → f.locked = none → f.entered = [] → (doReturn e (T.setTop f) acts v).1 = T.setFrames fs) → Steps p.tables e below (T.setTop g) (T.setFrames fs)) :
    Ends p.tables e below (T.setTop g) (fun o t => ∃ v L, o = .returned v ∧ (∃ ds', Q v ds' ∧ Wld h0 ds' t.heap ∧ Fr h0.size L) ∧ FrameEnd s o t L R.cells R.slots) := by
  obtain ⟨hx, hZ, hw, hby, hml, hown, hret, hlk, hnm⟩ := C
  obtain ⟨fs, hr, hrun, hended, hW, hsame⟩ := X.leave (v := v) (fun h => hv (hret.symm.trans h)) hlk
  exact ⟨_, _, H fs hr, hrun, hended, v, locs, rfl, ⟨ds, q, W, N⟩, ⟨_, rfl⟩, hW, hsame.mono hk hn⟩
theorem g_ret (C : Cx p s m meth c Z a0 own bytes ml none nm) (hd : decode bytes pc = .ok (.return_, 1)) (hk : k ≤ R.cells) (hn : n ≤ R.slots) (q : Q none ds) : Go p l e R s m args below meth c h0 Q ds k n pc Ls [] := fun T locs X W N =>
  Ends.out C X W N hk hn (fun _ => rfl) q fun fs hr => X.returnOut C.1 C.2.2.2.2.2.2.1 (hb C.2.2.2.1 hd) hr
theorem g_iret (C : Cx p s m meth c Z a0 own bytes ml (some .int) nm) {z : Int32} (hd : decode bytes pc = .ok (.ireturn, 1)) (hk : k ≤ R.cells) (hn : n ≤ R.slots) (q : Q (some (.int z)) ds) : Go p l e R s m args below meth c h0 Q ds k n pc Ls (.int z :: St) := fun T locs X W N =>
  Ends.out C X W N hk hn (fun h => nomatch h) q fun fs hr => retOut X C.1 C.2.2.2.2.2.2.1 rfl (Or.inl ⟨rfl, Or.inl rfl, z, rfl⟩) (hb C.2.2.2.1 hd) hr
theorem g_nret {t : FieldType} (C : Cx p s m meth c Z a0 own bytes ml (some t) nm) (ht : t = .boolean ∨ t = .byte ∨ t = .char ∨ t = .short) {z z' : Int32} (hz : nar t z = z') (hd : decode bytes pc = .ok (.ireturn, 1)) (hk : k ≤ R.cells) (hn : n ≤ R.slots) (q : Q (some (.int z')) ds) : Go p l e R s m args below meth c h0 Q ds k n pc Ls (.int z :: St) := fun T locs X W N => by
  subst hz
  exact Ends.out C X W N hk hn (fun h => nomatch h) q fun fs hr => retN X C.1 C.2.2.2.2.2.2.1 ht (hb C.2.2.2.1 hd) hr
theorem g_lret (C : Cx p s m meth c Z a0 own bytes ml (some .long) nm) {z : Int64} (hd : decode bytes pc = .ok (.lreturn, 1)) (hk : k ≤ R.cells) (hn : n ≤ R.slots) (q : Q (some (.long z)) ds) : Go p l e R s m args below meth c h0 Q ds k n pc Ls (.long z :: St) := fun T locs X W N =>
  Ends.out C X W N hk hn (fun h => nomatch h) q fun fs hr => retOut X C.1 C.2.2.2.2.2.2.1 rfl (Or.inr (Or.inl ⟨rfl, rfl, z, rfl⟩)) (hb C.2.2.2.1 hd) hr
theorem g_dret (C : Cx p s m meth c Z a0 own bytes ml (some .double) nm) {z : UInt64} (hd : decode bytes pc = .ok (.dreturn, 1)) (hk : k ≤ R.cells) (hn : n ≤ R.slots) (q : Q (some (.double z)) ds) : Go p l e R s m args below meth c h0 Q ds k n pc Ls (.double z :: St) := fun T locs X W N =>
  Ends.out C X W N hk hn (fun h => nomatch h) q fun fs hr => retOut X C.1 C.2.2.2.2.2.2.1 rfl (Or.inr (Or.inr (Or.inl ⟨rfl, rfl, z, rfl⟩))) (hb C.2.2.2.1 hd) hr
theorem g_aret {t : FieldType} (C : Cx p s m meth c Z a0 own bytes ml (some t) nm) (ht : t.isReference = true) {v : Value} (hv : v.isRef = true) (hnr : narrow t v = v) (hd : decode bytes pc = .ok (.areturn, 1)) (hk : k ≤ R.cells) (hn : n ≤ R.slots) (q : Q (some v) ds) : Go p l e R s m args below meth c h0 Q ds k n pc Ls (v :: St) := fun T locs X W N =>
  Ends.out C X W N hk hn (fun h => nomatch h) q fun fs hr => retOut X C.1 C.2.2.2.2.2.2.1 hnr (Or.inr (Or.inr (Or.inr (Or.inr ⟨rfl, ht, hv⟩)))) (hb C.2.2.2.1 hd) hr
theorem Go.pure {pc' : Nat} {St' : List Value} (H : ∀ T locs, Stand p l e R s m args below meth c T locs k n → ∀ target, Steps p.tables e below (T.setTop (mkF m pc' Ls' St')) target → Steps p.tables e below (T.setTop (mkF m pc Ls St)) target)
    (K : Go p l e R s m args below meth c h0 Q ds k n pc' Ls' St') : Go p l e R s m args below meth c h0 Q ds k n pc Ls St := fun T locs X W N => (K T locs X W N).pre (H T locs X)
/-- the world may be spoken of otherwise -/
theorem Go.weak {Q' : Option Value → Wd → Prop} (K : Go p l e R s m args below meth c h0 Q' ds k n pc Ls St) (H : ∀ v ds', Q' v ds' → Q v ds') : Go p l e R s m args below meth c h0 Q ds k n pc Ls St := fun T locs X W N => by
  obtain ⟨t, o, h1, h2, h3, v, L, h4, ⟨ds', h5, h6⟩, h7⟩ := K T locs X W N
  exact ⟨t, o, h1, h2, h3, v, L, h4, ⟨ds', H _ _ h5, h6⟩, h7⟩
/-! plain steps -/
theorem g_iadd (C : Cx p s m meth c Z a0 own bytes ml rt nm) (pc' : Nat) {x y : Int32} (hd : decode bytes pc = .ok (.iadd, 1)) (hp : pc + 1 = pc') (K : Go p l e R s m args below meth c h0 Q ds k n pc' Ls (.int (x + y) :: St)) : Go p l e R s m args below meth c h0 Q ds k n pc Ls (.int y :: .int x :: St) := by
  subst hp
  exact K.pure fun T locs X target h => XS.iadd X.here C.1 rfl (hb C.2.2.2.1 hd) rfl h
theorem g_isub (C : Cx p s m meth c Z a0 own bytes ml rt nm) (pc' : Nat) {x y : Int32} (hd : decode bytes pc = .ok (.isub, 1)) (hp : pc + 1 = pc') (K : Go p l e R s m args below meth c h0 Q ds k n pc' Ls (.int (x - y) :: St)) : Go p l e R s m args below meth c h0 Q ds k n pc Ls (.int y :: .int x :: St) := by
  subst hp
  exact K.pure fun T locs X target h => XS.isub X.here C.1 rfl (hb C.2.2.2.1 hd) rfl h
theorem g_imul (C : Cx p s m meth c Z a0 own bytes ml rt nm) (pc' : Nat) {x y : Int32} (hd : decode bytes pc = .ok (.imul, 1)) (hp : pc + 1 = pc') (K : Go p l e R s m args below meth c h0 Q ds k n pc' Ls (.int (x * y) :: St)) : Go p l e R s m args below meth c h0 Q ds k n pc Ls (.int y :: .int x :: St) := by
  subst hp
  exact K.pure fun T locs X target h => XS.imul X.here C.1 rfl (hb C.2.2.2.1 hd) rfl h
theorem g_iand (C : Cx p s m meth c Z a0 own bytes ml rt nm) (pc' : Nat) {x y : Int32} (hd : decode bytes pc = .ok (.iand, 1)) (hp : pc + 1 = pc') (K : Go p l e R s m args below meth c h0 Q ds k n pc' Ls (.int (x &&& y) :: St)) : Go p l e R s m args below meth c h0 Q ds k n pc Ls (.int y :: .int x :: St) := by
  subst hp
  exact K.pure fun T locs X target h => XS.iand X.here C.1 rfl (hb C.2.2.2.1 hd) rfl h
theorem g_ior (C : Cx p s m meth c Z a0 own bytes ml rt nm) (pc' : Nat) {x y : Int32} (hd : decode bytes pc = .ok (.ior, 1)) (hp : pc + 1 = pc') (K : Go p l e R s m args below meth c h0 Q ds k n pc' Ls (.int (x ||| y) :: St)) : Go p l e R s m args below meth c h0 Q ds k n pc Ls (.int y :: .int x :: St) := by
  subst hp
  exact K.pure fun T locs X target h => XS.ior X.here C.1 rfl (hb C.2.2.2.1 hd) rfl h
theorem g_ixor (C : Cx p s m meth c Z a0 own bytes ml rt nm) (pc' : Nat) {x y : Int32} (hd : decode bytes pc = .ok (.ixor, 1)) (hp : pc + 1 = pc') (K : Go p l e R s m args below meth c h0 Q ds k n pc' Ls (.int (x ^^^ y) :: St)) : Go p l e R s m args below meth c h0 Q ds k n pc Ls (.int y :: .int x :: St) := by
  subst hp
  exact K.pure fun T locs X target h => XS.ixor X.here C.1 rfl (hb C.2.2.2.1 hd) rfl h
theorem g_ishl (C : Cx p s m meth c Z a0 own bytes ml rt nm) (pc' : Nat) {x y : Int32} (hd : decode bytes pc = .ok (.ishl, 1)) (hp : pc + 1 = pc') (K : Go p l e R s m args below meth c h0 Q ds k n pc' Ls (.int (x <<< (y &&& 31)) :: St)) : Go p l e R s m args below meth c h0 Q ds k n pc Ls (.int y :: .int x :: St) := by
  subst hp
  exact K.pure fun T locs X target h => XS.ishl X.here C.1 rfl (hb C.2.2.2.1 hd) rfl h
theorem g_ishr (C : Cx p s m meth c Z a0 own bytes ml rt nm) (pc' : Nat) {x y : Int32} (hd : decode bytes pc = .ok (.ishr, 1)) (hp : pc + 1 = pc') (K : Go p l e R s m args below meth c h0 Q ds k n pc' Ls (.int (x >>> (y &&& 31)) :: St)) : Go p l e R s m args below meth c h0 Q ds k n pc Ls (.int y :: .int x :: St) := by
  subst hp
  exact K.pure fun T locs X target h => XS.ishr X.here C.1 rfl (hb C.2.2.2.1 hd) rfl h
theorem g_iushr (C : Cx p s m meth c Z a0 own bytes ml rt nm) (pc' : Nat) {x y : Int32} (hd : decode bytes pc = .ok (.iushr, 1)) (hp : pc + 1 = pc') (K : Go p l e R s m args below meth c h0 Q ds k n pc' Ls (.int ((x.toUInt32 >>> (y &&& 31).toUInt32).toInt32) :: St)) : Go p l e R s m args below meth c h0 Q ds k n pc Ls (.int y :: .int x :: St) := by
  subst hp
  exact K.pure fun T locs X target h => XS.iushr X.here C.1 rfl (hb C.2.2.2.1 hd) rfl h
theorem g_ladd (C : Cx p s m meth c Z a0 own bytes ml rt nm) (pc' : Nat) {x y : Int64} (hd : decode bytes pc = .ok (.ladd, 1)) (hp : pc + 1 = pc') (K : Go p l e R s m args below meth c h0 Q ds k n pc' Ls (.long (x + y) :: St)) : Go p l e R s m args below meth c h0 Q ds k n pc Ls (.long y :: .long x :: St) := by
  subst hp
  exact K.pure fun T locs X target h => XS.ladd X.here C.1 rfl (hb C.2.2.2.1 hd) rfl h
theorem g_lsub (C : Cx p s m meth c Z a0 own bytes ml rt nm) (pc' : Nat) {x y : Int64} (hd : decode bytes pc = .ok (.lsub, 1)) (hp : pc + 1 = pc') (K : Go p l e R s m args below meth c h0 Q ds k n pc' Ls (.long (x - y) :: St)) : Go p l e R s m args below meth c h0 Q ds k n pc Ls (.long y :: .long x :: St) := by
  subst hp
  exact K.pure fun T locs X target h => XS.lsub X.here C.1 rfl (hb C.2.2.2.1 hd) rfl h
theorem g_lmul (C : Cx p s m meth c Z a0 own bytes ml rt nm) (pc' : Nat) {x y : Int64} (hd : decode bytes pc = .ok (.lmul, 1)) (hp : pc + 1 = pc') (K : Go p l e R s m args below meth c h0 Q ds k n pc' Ls (.long (x * y) :: St)) : Go p l e R s m args below meth c h0 Q ds k n pc Ls (.long y :: .long x :: St) := by
  subst hp
  exact K.pure fun T locs X target h => XS.lmul X.here C.1 rfl (hb C.2.2.2.1 hd) rfl h
theorem g_land (C : Cx p s m meth c Z a0 own bytes ml rt nm) (pc' : Nat) {x y : Int64} (hd : decode bytes pc = .ok (.land, 1)) (hp : pc + 1 = pc') (K : Go p l e R s m args below meth c h0 Q ds k n pc' Ls (.long (x &&& y) :: St)) : Go p l e R s m args below meth c h0 Q ds k n pc Ls (.long y :: .long x :: St) := by
  subst hp
  exact K.pure fun T locs X target h => XS.land X.here C.1 rfl (hb C.2.2.2.1 hd) rfl h
theorem g_lor (C : Cx p s m meth c Z a0 own bytes ml rt nm) (pc' : Nat) {x y : Int64} (hd : decode bytes pc = .ok (.lor, 1)) (hp : pc + 1 = pc') (K : Go p l e R s m args below meth c h0 Q ds k n pc' Ls (.long (x ||| y) :: St)) : Go p l e R s m args below meth c h0 Q ds k n pc Ls (.long y :: .long x :: St) := by
  subst hp
  exact K.pure fun T locs X target h => XS.lor X.here C.1 rfl (hb C.2.2.2.1 hd) rfl h
theorem g_lxor (C : Cx p s m meth c Z a0 own bytes ml rt nm) (pc' : Nat) {x y : Int64} (hd : decode bytes pc = .ok (.lxor, 1)) (hp : pc + 1 = pc') (K : Go p l e R s m args below meth c h0 Q ds k n pc' Ls (.long (x ^^^ y) :: St)) : Go p l e R s m args below meth c h0 Q ds k n pc Ls (.long y :: .long x :: St) := by
  subst hp
  exact K.pure fun T locs X target h => XS.lxor X.here C.1 rfl (hb C.2.2.2.1 hd) rfl h
theorem g_lshl (C : Cx p s m meth c Z a0 own bytes ml rt nm) (pc' : Nat) {x : Int64} {y : Int32} (hd : decode bytes pc = .ok (.lshl, 1)) (hp : pc + 1 = pc') (K : Go p l e R s m args below meth c h0 Q ds k n pc' Ls (.long (x <<< (y &&& 0x3f).toInt64) :: St)) : Go p l e R s m args below meth c h0 Q ds k n pc Ls (.int y :: .long x :: St) := by
  subst hp
  exact K.pure fun T locs X target h => XS.lshl X.here C.1 rfl (hb C.2.2.2.1 hd) rfl h
theorem g_lshr (C : Cx p s m meth c Z a0 own bytes ml rt nm) (pc' : Nat) {x : Int64} {y : Int32} (hd : decode bytes pc = .ok (.lshr, 1)) (hp : pc + 1 = pc') (K : Go p l e R s m args below meth c h0 Q ds k n pc' Ls (.long (x >>> (y &&& 0x3f).toInt64) :: St)) : Go p l e R s m args below meth c h0 Q ds k n pc Ls (.int y :: .long x :: St) := by
  subst hp
  exact K.pure fun T locs X target h => XS.lshr X.here C.1 rfl (hb C.2.2.2.1 hd) rfl h
theorem g_lushr (C : Cx p s m meth c Z a0 own bytes ml rt nm) (pc' : Nat) {x : Int64} {y : Int32} (hd : decode bytes pc = .ok (.lushr, 1)) (hp : pc + 1 = pc') (K : Go p l e R s m args below meth c h0 Q ds k n pc' Ls (.long ((x.toUInt64 >>> (y &&& 0x3f).toInt64.toUInt64).toInt64) :: St)) : Go p l e R s m args below meth c h0 Q ds k n pc Ls (.int y :: .long x :: St) := by
  subst hp
  exact K.pure fun T locs X target h => XS.lushr X.here C.1 rfl (hb C.2.2.2.1 hd) rfl h
theorem g_idiv (C : Cx p s m meth c Z a0 own bytes ml rt nm) (pc' : Nat) {x y : Int32} (hd : decode bytes pc = .ok (.idiv, 1)) (hp : pc + 1 = pc') (hy : y ≠ 0) (K : Go p l e R s m args below meth c h0 Q ds k n pc' Ls (.int (x / y) :: St)) : Go p l e R s m args below meth c h0 Q ds k n pc Ls (.int y :: .int x :: St) := by
  subst hp
  exact K.pure fun T locs X target h => XS.idiv X.here C.1 rfl (hb C.2.2.2.1 hd) rfl hy h
theorem g_irem (C : Cx p s m meth c Z a0 own bytes ml rt nm) (pc' : Nat) {x y : Int32} (hd : decode bytes pc = .ok (.irem, 1)) (hp : pc + 1 = pc') (hy : y ≠ 0) (K : Go p l e R s m args below meth c h0 Q ds k n pc' Ls (.int (x % y) :: St)) : Go p l e R s m args below meth c h0 Q ds k n pc Ls (.int y :: .int x :: St) := by
  subst hp
  exact K.pure fun T locs X target h => iremM X C.1 rfl (hb C.2.2.2.1 hd) rfl hy h
theorem g_ineg (C : Cx p s m meth c Z a0 own bytes ml rt nm) (pc' : Nat) {x : Int32} (hd : decode bytes pc = .ok (.ineg, 1)) (hp : pc + 1 = pc') (K : Go p l e R s m args below meth c h0 Q ds k n pc' Ls (.int (-x) :: St)) : Go p l e R s m args below meth c h0 Q ds k n pc Ls (.int x :: St) := by
  subst hp
  exact K.pure fun T locs X target h => XS.ineg X.here C.1 rfl (hb C.2.2.2.1 hd) rfl h
theorem g_i2b (C : Cx p s m meth c Z a0 own bytes ml rt nm) (pc' : Nat) {x : Int32} (hd : decode bytes pc = .ok (.i2b, 1)) (hp : pc + 1 = pc') (K : Go p l e R s m args below meth c h0 Q ds k n pc' Ls (.int (x.toInt8.toInt32) :: St)) : Go p l e R s m args below meth c h0 Q ds k n pc Ls (.int x :: St) := by
  subst hp
  exact K.pure fun T locs X target h => XS.i2b X.here C.1 rfl (hb C.2.2.2.1 hd) rfl h
theorem g_i2c (C : Cx p s m meth c Z a0 own bytes ml rt nm) (pc' : Nat) {x : Int32} (hd : decode bytes pc = .ok (.i2c, 1)) (hp : pc + 1 = pc') (K : Go p l e R s m args below meth c h0 Q ds k n pc' Ls (.int (x.toUInt32.toUInt16.toUInt32.toInt32) :: St)) : Go p l e R s m args below meth c h0 Q ds k n pc Ls (.int x :: St) := by
  subst hp
  exact K.pure fun T locs X target h => XS.i2c X.here C.1 rfl (hb C.2.2.2.1 hd) rfl h
theorem g_i2s (C : Cx p s m meth c Z a0 own bytes ml rt nm) (pc' : Nat) {x : Int32} (hd : decode bytes pc = .ok (.i2s, 1)) (hp : pc + 1 = pc') (K : Go p l e R s m args below meth c h0 Q ds k n pc' Ls (.int (x.toInt16.toInt32) :: St)) : Go p l e R s m args below meth c h0 Q ds k n pc Ls (.int x :: St) := by
  subst hp
  exact K.pure fun T locs X target h => XS.i2s X.here C.1 rfl (hb C.2.2.2.1 hd) rfl h
theorem g_i2l (C : Cx p s m meth c Z a0 own bytes ml rt nm) (pc' : Nat) {x : Int32} (hd : decode bytes pc = .ok (.i2l, 1)) (hp : pc + 1 = pc') (K : Go p l e R s m args below meth c h0 Q ds k n pc' Ls (.long x.toInt64 :: St)) : Go p l e R s m args below meth c h0 Q ds k n pc Ls (.int x :: St) := by
  subst hp
  exact K.pure fun T locs X target h => XS.i2l X.here C.1 rfl (hb C.2.2.2.1 hd) rfl h
theorem g_l2i (C : Cx p s m meth c Z a0 own bytes ml rt nm) (pc' : Nat) {x : Int64} (hd : decode bytes pc = .ok (.l2i, 1)) (hp : pc + 1 = pc') (K : Go p l e R s m args below meth c h0 Q ds k n pc' Ls (.int x.toInt32 :: St)) : Go p l e R s m args below meth c h0 Q ds k n pc Ls (.long x :: St) := by
  subst hp
  exact K.pure fun T locs X target h => XS.l2i X.here C.1 rfl (hb C.2.2.2.1 hd) rfl h
theorem g_lneg (C : Cx p s m meth c Z a0 own bytes ml rt nm) (pc' : Nat) {x : Int64} (hd : decode bytes pc = .ok (.lneg, 1)) (hp : pc + 1 = pc') (K : Go p l e R s m args below meth c h0 Q ds k n pc' Ls (.long (-x) :: St)) : Go p l e R s m args below meth c h0 Q ds k n pc Ls (.long x :: St) := by
  subst hp
  exact K.pure fun T locs X target h => XS.lneg X.here C.1 rfl (hb C.2.2.2.1 hd) rfl h
theorem g_lcmp (C : Cx p s m meth c Z a0 own bytes ml rt nm) (pc' : Nat) {x y : Int64} (hd : decode bytes pc = .ok (.lcmp, 1)) (hp : pc + 1 = pc') (K : Go p l e R s m args below meth c h0 Q ds k n pc' Ls (.int (lcmpW x y) :: St)) : Go p l e R s m args below meth c h0 Q ds k n pc Ls (.long y :: .long x :: St) := by
  subst hp
  exact K.pure fun T locs X target h => XS.lcmp X.here C.1 rfl (hb C.2.2.2.1 hd) rfl h
theorem g_iconst (C : Cx p s m meth c Z a0 own bytes ml rt nm) (pc' : Nat) (v : Int32) {i : Int} (hd : decode bytes pc = .ok (.iconst i, 1)) (hp : pc + 1 = pc') (hv : Int32.ofInt i = v) (K : Go p l e R s m args below meth c h0 Q ds k n pc' Ls (.int v :: St)) : Go p l e R s m args below meth c h0 Q ds k n pc Ls St := by
  subst hp hv
  exact K.pure fun T locs X target h => XS.iconst X.here C.1 rfl (hb C.2.2.2.1 hd) h
theorem g_bipush (C : Cx p s m meth c Z a0 own bytes ml rt nm) (pc' : Nat) (v : Int32) {i : Int} (hd : decode bytes pc = .ok (.bipush i, 2)) (hp : pc + 2 = pc') (hv : (Int8.ofInt i).toInt32 = v) (K : Go p l e R s m args below meth c h0 Q ds k n pc' Ls (.int v :: St)) : Go p l e R s m args below meth c h0 Q ds k n pc Ls St := by
  subst hp hv
  exact K.pure fun T locs X target h => XS.bipush X.here C.1 rfl (hb C.2.2.2.1 hd) h
theorem g_sipush (C : Cx p s m meth c Z a0 own bytes ml rt nm) (pc' : Nat) (v : Int32) {i : Int} (hd : decode bytes pc = .ok (.sipush i, 3)) (hp : pc + 3 = pc') (hv : (Int16.ofInt i).toInt32 = v) (K : Go p l e R s m args below meth c h0 Q ds k n pc' Ls (.int v :: St)) : Go p l e R s m args below meth c h0 Q ds k n pc Ls St := by
  subst hp hv
  exact K.pure fun T locs X target h => XS.sipush X.here C.1 rfl (hb C.2.2.2.1 hd) h
theorem g_lconst (C : Cx p s m meth c Z a0 own bytes ml rt nm) (pc' : Nat) (v : Int64) {i : Fin 2} (hd : decode bytes pc = .ok (.lconst i, 1)) (hp : pc + 1 = pc') (hv : Int64.ofNat i = v) (K : Go p l e R s m args below meth c h0 Q ds k n pc' Ls (.long v :: St)) : Go p l e R s m args below meth c h0 Q ds k n pc Ls St := by
  subst hp hv
  exact K.pure fun T locs X target h => XS.lconst X.here C.1 rfl (hb C.2.2.2.1 hd) h
theorem g_null (C : Cx p s m meth c Z a0 own bytes ml rt nm) (pc' : Nat) (hd : decode bytes pc = .ok (.aconst_null, 1)) (hp : pc + 1 = pc') (K : Go p l e R s m args below meth c h0 Q ds k n pc' Ls (.null :: St)) : Go p l e R s m args below meth c h0 Q ds k n pc Ls St := by
  subst hp
  exact K.pure fun T locs X target h => XS.aconstNull X.here C.1 rfl (hb C.2.2.2.1 hd) h
theorem g_iloadN (C : Cx p s m meth c Z a0 own bytes ml rt nm) (pc' : Nat) {i : Fin 4} {v : Int32} (hd : decode bytes pc = .ok (.iload_n i, 1)) (hp : pc + 1 = pc') (hl : Ls[i.val]? = some (.val (.int v))) (K : Go p l e R s m args below meth c h0 Q ds k n pc' Ls (.int v :: St)) : Go p l e R s m args below meth c h0 Q ds k n pc Ls St := by
  subst hp
  exact K.pure fun T locs X target h => XS.iloadN X.here C.1 rfl (hb C.2.2.2.1 hd) hl h
theorem g_iload (C : Cx p s m meth c Z a0 own bytes ml rt nm) (pc' : Nat) {i : Nat} {v : Int32} (hd : decode bytes pc = .ok (.iload i, 2)) (hp : pc + 2 = pc') (hl : Ls[i]? = some (.val (.int v))) (K : Go p l e R s m args below meth c h0 Q ds k n pc' Ls (.int v :: St)) : Go p l e R s m args below meth c h0 Q ds k n pc Ls St := by
  subst hp
  exact K.pure fun T locs X target h => XS.iload X.here C.1 rfl (hb C.2.2.2.1 hd) hl h
theorem g_istoreN (C : Cx p s m meth c Z a0 own bytes ml rt nm) (pc' : Nat) {i : Fin 4} {v : Int32} (Ls' : Array Slot) (hd : decode bytes pc = .ok (.istore_n i, 1)) (hp : pc + 1 = pc') (hl : storeLocals Ls i.val (.int v) = some Ls') (K : Go p l e R s m args below meth c h0 Q ds k n pc' Ls' St) : Go p l e R s m args below meth c h0 Q ds k n pc Ls (.int v :: St) := by
  subst hp
  exact K.pure fun T locs X target h => XS.istoreN X.here C.1 rfl (hb C.2.2.2.1 hd) rfl hl h
theorem g_istore (C : Cx p s m meth c Z a0 own bytes ml rt nm) (pc' : Nat) {i : Nat} {v : Int32} (Ls' : Array Slot) (hd : decode bytes pc = .ok (.istore i, 2)) (hp : pc + 2 = pc') (hl : storeLocals Ls i (.int v) = some Ls') (K : Go p l e R s m args below meth c h0 Q ds k n pc' Ls' St) : Go p l e R s m args below meth c h0 Q ds k n pc Ls (.int v :: St) := by
  subst hp
  exact K.pure fun T locs X target h => XS.istore X.here C.1 rfl (hb C.2.2.2.1 hd) rfl hl h
theorem g_lloadN (C : Cx p s m meth c Z a0 own bytes ml rt nm) (pc' : Nat) {i : Fin 4} {v : Int64} (hd : decode bytes pc = .ok (.lload_n i, 1)) (hp : pc + 1 = pc') (hl : Ls[i.val]? = some (.val (.long v))) (K : Go p l e R s m args below meth c h0 Q ds k n pc' Ls (.long v :: St)) : Go p l e R s m args below meth c h0 Q ds k n pc Ls St := by
  subst hp
  exact K.pure fun T locs X target h => XS.lloadN X.here C.1 rfl (hb C.2.2.2.1 hd) hl h
theorem g_lload (C : Cx p s m meth c Z a0 own bytes ml rt nm) (pc' : Nat) {i : Nat} {v : Int64} (hd : decode bytes pc = .ok (.lload i, 2)) (hp : pc + 2 = pc') (hl : Ls[i]? = some (.val (.long v))) (K : Go p l e R s m args below meth c h0 Q ds k n pc' Ls (.long v :: St)) : Go p l e R s m args below meth c h0 Q ds k n pc Ls St := by
  subst hp
  exact K.pure fun T locs X target h => XS.lload X.here C.1 rfl (hb C.2.2.2.1 hd) hl h
theorem g_lstoreN (C : Cx p s m meth c Z a0 own bytes ml rt nm) (pc' : Nat) {i : Fin 4} {v : Int64} (Ls' : Array Slot) (hd : decode bytes pc = .ok (.lstore_n i, 1)) (hp : pc + 1 = pc') (hl : storeLocals Ls i.val (.long v) = some Ls') (K : Go p l e R s m args below meth c h0 Q ds k n pc' Ls' St) : Go p l e R s m args below meth c h0 Q ds k n pc Ls (.long v :: St) := by
  subst hp
  exact K.pure fun T locs X target h => XS.lstoreN X.here C.1 rfl (hb C.2.2.2.1 hd) rfl hl h
theorem g_lstore (C : Cx p s m meth c Z a0 own bytes ml rt nm) (pc' : Nat) {i : Nat} {v : Int64} (Ls' : Array Slot) (hd : decode bytes pc = .ok (.lstore i, 2)) (hp : pc + 2 = pc') (hl : storeLocals Ls i (.long v) = some Ls') (K : Go p l e R s m args below meth c h0 Q ds k n pc' Ls' St) : Go p l e R s m args below meth c h0 Q ds k n pc Ls (.long v :: St) := by
  subst hp
  exact K.pure fun T locs X target h => XS.lstore X.here C.1 rfl (hb C.2.2.2.1 hd) rfl hl h
theorem g_dloadN (C : Cx p s m meth c Z a0 own bytes ml rt nm) (pc' : Nat) {i : Fin 4} {v : UInt64} (hd : decode bytes pc = .ok (.dload_n i, 1)) (hp : pc + 1 = pc') (hl : Ls[i.val]? = some (.val (.double v))) (K : Go p l e R s m args below meth c h0 Q ds k n pc' Ls (.double v :: St)) : Go p l e R s m args below meth c h0 Q ds k n pc Ls St := by
  subst hp
  exact K.pure fun T locs X target h => XS.dloadN X.here C.1 rfl (hb C.2.2.2.1 hd) hl h
theorem g_dload (C : Cx p s m meth c Z a0 own bytes ml rt nm) (pc' : Nat) {i : Nat} {v : UInt64} (hd : decode bytes pc = .ok (.dload i, 2)) (hp : pc + 2 = pc') (hl : Ls[i]? = some (.val (.double v))) (K : Go p l e R s m args below meth c h0 Q ds k n pc' Ls (.double v :: St)) : Go p l e R s m args below meth c h0 Q ds k n pc Ls St := by
  subst hp
  exact K.pure fun T locs X target h => XS.dload X.here C.1 rfl (hb C.2.2.2.1 hd) hl h
theorem g_dstoreN (C : Cx p s m meth c Z a0 own bytes ml rt nm) (pc' : Nat) {i : Fin 4} {v : UInt64} (Ls' : Array Slot) (hd : decode bytes pc = .ok (.dstore_n i, 1)) (hp : pc + 1 = pc') (hl : storeLocals Ls i.val (.double v) = some Ls') (K : Go p l e R s m args below meth c h0 Q ds k n pc' Ls' St) : Go p l e R s m args below meth c h0 Q ds k n pc Ls (.double v :: St) := by
  subst hp
  exact K.pure fun T locs X target h => XS.dstoreN X.here C.1 rfl (hb C.2.2.2.1 hd) rfl hl h
theorem g_dstore (C : Cx p s m meth c Z a0 own bytes ml rt nm) (pc' : Nat) {i : Nat} {v : UInt64} (Ls' : Array Slot) (hd : decode bytes pc = .ok (.dstore i, 2)) (hp : pc + 2 = pc') (hl : storeLocals Ls i (.double v) = some Ls') (K : Go p l e R s m args below meth c h0 Q ds k n pc' Ls' St) : Go p l e R s m args below meth c h0 Q ds k n pc Ls (.double v :: St) := by
  subst hp
  exact K.pure fun T locs X target h => XS.dstore X.here C.1 rfl (hb C.2.2.2.1 hd) rfl hl h
theorem g_aloadN (C : Cx p s m meth c Z a0 own bytes ml rt nm) (pc' : Nat) {i : Fin 4} {v : Value} (hd : decode bytes pc = .ok (.aload_n i, 1)) (hp : pc + 1 = pc') (hl : Ls[i.val]? = some (.val v)) (hv : v.isRef = true) (K : Go p l e R s m args below meth c h0 Q ds k n pc' Ls (v :: St)) : Go p l e R s m args below meth c h0 Q ds k n pc Ls St := by
  subst hp
  exact K.pure fun T locs X target h => XS.aloadN X.here C.1 rfl (hb C.2.2.2.1 hd) hl hv h
theorem g_aload (C : Cx p s m meth c Z a0 own bytes ml rt nm) (pc' : Nat) {i : Nat} {v : Value} (hd : decode bytes pc = .ok (.aload i, 2)) (hp : pc + 2 = pc') (hl : Ls[i]? = some (.val v)) (hv : v.isRef = true) (K : Go p l e R s m args below meth c h0 Q ds k n pc' Ls (v :: St)) : Go p l e R s m args below meth c h0 Q ds k n pc Ls St := by
  subst hp
  exact K.pure fun T locs X target h => XS.aload X.here C.1 rfl (hb C.2.2.2.1 hd) hl hv h
theorem g_astoreN (C : Cx p s m meth c Z a0 own bytes ml rt nm) (pc' : Nat) {i : Fin 4} {v : Value} (Ls' : Array Slot) (hd : decode bytes pc = .ok (.astore_n i, 1)) (hp : pc + 1 = pc') (hv : v.isRef = true) (hl : storeLocals Ls i.val v = some Ls') (K : Go p l e R s m args below meth c h0 Q ds k n pc' Ls' St) : Go p l e R s m args below meth c h0 Q ds k n pc Ls (v :: St) := by
  subst hp
  exact K.pure fun T locs X target h => XS.astoreN X.here C.1 rfl (hb C.2.2.2.1 hd) rfl hv hl h
theorem g_astore (C : Cx p s m meth c Z a0 own bytes ml rt nm) (pc' : Nat) {i : Nat} {v : Value} (Ls' : Array Slot) (hd : decode bytes pc = .ok (.astore i, 2)) (hp : pc + 2 = pc') (hv : v.isRef = true) (hl : storeLocals Ls i v = some Ls') (K : Go p l e R s m args below meth c h0 Q ds k n pc' Ls' St) : Go p l e R s m args below meth c h0 Q ds k n pc Ls (v :: St) := by
  subst hp
  exact K.pure fun T locs X target h => XS.astore X.here C.1 rfl (hb C.2.2.2.1 hd) rfl hv hl h
theorem g_iinc (C : Cx p s m meth c Z a0 own bytes ml rt nm) (pc' : Nat) {i : Nat} {cst : Int} {x : Int32} (z : Int32) (Ls' : Array Slot) (hd : decode bytes pc = .ok (.iinc i cst, 3)) (hp : pc + 3 = pc') (hl : Ls[i]? = some (.val (.int x))) (hz : x + Int32.ofInt cst = z) (hl' : storeLocals Ls i (.int z) = some Ls') (K : Go p l e R s m args below meth c h0 Q ds k n pc' Ls' St) : Go p l e R s m args below meth c h0 Q ds k n pc Ls St := by
  subst hp hz
  exact K.pure fun T locs X target h => XS.iinc X.here C.1 rfl (hb C.2.2.2.1 hd) hl hl' h
theorem g_dup (C : Cx p s m meth c Z a0 own bytes ml rt nm) (pc' : Nat) {v : Value} (hd : decode bytes pc = .ok (.dup, 1)) (hp : pc + 1 = pc') (hv : v.category = 1) (K : Go p l e R s m args below meth c h0 Q ds k n pc' Ls (v :: v :: St)) : Go p l e R s m args below meth c h0 Q ds k n pc Ls (v :: St) := by
  subst hp
  exact K.pure fun T locs X target h => XS.dup X.here C.1 rfl (hb C.2.2.2.1 hd) rfl hv h
theorem g_pop (C : Cx p s m meth c Z a0 own bytes ml rt nm) (pc' : Nat) {v : Value} (hd : decode bytes pc = .ok (.pop, 1)) (hp : pc + 1 = pc') (hv : v.category = 1) (K : Go p l e R s m args below meth c h0 Q ds k n pc' Ls St) : Go p l e R s m args below meth c h0 Q ds k n pc Ls (v :: St) := by
  subst hp
  exact K.pure fun T locs X target h => XS.pop X.here C.1 rfl (hb C.2.2.2.1 hd) rfl hv h
theorem g_dupX1 (C : Cx p s m meth c Z a0 own bytes ml rt nm) (pc' : Nat) {v w : Value} (hd : decode bytes pc = .ok (.dup_x1, 1)) (hp : pc + 1 = pc') (hv : v.category = 1) (hw : w.category = 1) (K : Go p l e R s m args below meth c h0 Q ds k n pc' Ls (v :: w :: v :: St)) : Go p l e R s m args below meth c h0 Q ds k n pc Ls (v :: w :: St) := by
  subst hp
  exact K.pure fun T locs X target h => XS.dupX1 X.here C.1 rfl (hb C.2.2.2.1 hd) rfl hv hw h
theorem g_dup2 (C : Cx p s m meth c Z a0 own bytes ml rt nm) (pc' : Nat) {v w : Value} (hd : decode bytes pc = .ok (.dup2, 1)) (hp : pc + 1 = pc') (hv : v.category = 1) (hw : w.category = 1) (K : Go p l e R s m args below meth c h0 Q ds k n pc' Ls (v :: w :: v :: w :: St)) : Go p l e R s m args below meth c h0 Q ds k n pc Ls (v :: w :: St) := by
  subst hp
  exact K.pure fun T locs X target h => XT.dup2 X.here C.1 rfl (hb C.2.2.2.1 hd) rfl hv hw h
theorem g_goto (C : Cx p s m meth c Z a0 own bytes ml rt nm) (pc' : Nat) {o : Int} (hd : decode bytes pc = .ok (.goto o, 3)) (ho : 0 ≤ (pc : Int) + o) (hp : ((pc : Int) + o).toNat = pc') (K : Go p l e R s m args below meth c h0 Q ds k n pc' Ls St) : Go p l e R s m args below meth c h0 Q ds k n pc Ls St := K.pure fun T locs X target h => XS.goto X.here C.1 rfl rfl (hb C.2.2.2.1 hd) ho hp h
theorem g_ifY (C : Cx p s m meth c Z a0 own bytes ml rt nm) (pc' : Nat) {cd : ClassFile.Cond} {x : Int32} {o : Int} (hd : decode bytes pc = .ok (.ifCond cd o, 3)) (hc : if_icmp.holds cd x 0 = true) (ho : 0 ≤ (pc : Int) + o) (hp : ((pc : Int) + o).toNat = pc') (K : Go p l e R s m args below meth c h0 Q ds k n pc' Ls St) : Go p l e R s m args below meth c h0 Q ds k n pc Ls (.int x :: St) := K.pure fun T locs X target h => XS.ifYes X.here C.1 rfl rfl (hb C.2.2.2.1 hd) rfl ((if0 _ _).trans hc) ho hp h
theorem g_ifN (C : Cx p s m meth c Z a0 own bytes ml rt nm) (pc' : Nat) {cd : ClassFile.Cond} {x : Int32} {o : Int} (hd : decode bytes pc = .ok (.ifCond cd o, 3)) (hc : if_icmp.holds cd x 0 = false) (hp : pc + 3 = pc') (K : Go p l e R s m args below meth c h0 Q ds k n pc' Ls St) : Go p l e R s m args below meth c h0 Q ds k n pc Ls (.int x :: St) := by
  subst hp
  exact K.pure fun T locs X target h => XS.ifNo X.here C.1 rfl (hb C.2.2.2.1 hd) rfl ((if0 _ _).trans hc) h
theorem g_icY (C : Cx p s m meth c Z a0 own bytes ml rt nm) (pc' : Nat) {cd : ClassFile.Cond} {x y : Int32} {o : Int} (hd : decode bytes pc = .ok (.if_icmp cd o, 3)) (hc : if_icmp.holds cd x y = true) (ho : 0 ≤ (pc : Int) + o) (hp : ((pc : Int) + o).toNat = pc') (K : Go p l e R s m args below meth c h0 Q ds k n pc' Ls St) : Go p l e R s m args below meth c h0 Q ds k n pc Ls (.int y :: .int x :: St) := K.pure fun T locs X target h => XS.icmpYes X.here C.1 rfl rfl (hb C.2.2.2.1 hd) rfl hc ho hp h
theorem g_icN (C : Cx p s m meth c Z a0 own bytes ml rt nm) (pc' : Nat) {cd : ClassFile.Cond} {x y : Int32} {o : Int} (hd : decode bytes pc = .ok (.if_icmp cd o, 3)) (hc : if_icmp.holds cd x y = false) (hp : pc + 3 = pc') (K : Go p l e R s m args below meth c h0 Q ds k n pc' Ls St) : Go p l e R s m args below meth c h0 Q ds k n pc Ls (.int y :: .int x :: St) := by
  subst hp
  exact K.pure fun T locs X target h => XS.icmpNo X.here C.1 rfl (hb C.2.2.2.1 hd) rfl hc h
theorem g_nullY (C : Cx p s m meth c Z a0 own bytes ml rt nm) (pc' : Nat) {o : Int} (hd : decode bytes pc = .ok (.ifnull o, 3)) (ho : 0 ≤ (pc : Int) + o) (hp : ((pc : Int) + o).toNat = pc') (K : Go p l e R s m args below meth c h0 Q ds k n pc' Ls St) : Go p l e R s m args below meth c h0 Q ds k n pc Ls (.null :: St) := K.pure fun T locs X target h => XS.ifnullYes X.here C.1 rfl rfl (hb C.2.2.2.1 hd) rfl ho hp h
theorem g_acY (C : Cx p s m meth c Z a0 own bytes ml rt nm) (pc' : Nat) {cd : ClassFile.ACond} {x y : Value} {o : Int} (hd : decode bytes pc = .ok (.if_acmp cd o, 3)) (hvx : x.isRef = true) (hvy : y.isRef = true) (hc : XT.acmp cd x y = true) (ho : 0 ≤ (pc : Int) + o) (hp : ((pc : Int) + o).toNat = pc') (K : Go p l e R s m args below meth c h0 Q ds k n pc' Ls St) : Go p l e R s m args below meth c h0 Q ds k n pc Ls (y :: x :: St) := K.pure fun T locs X target h => XT.acmpYes X.here C.1 rfl rfl (hb C.2.2.2.1 hd) rfl hvx hvy hc ho hp h
theorem g_acN (C : Cx p s m meth c Z a0 own bytes ml rt nm) (pc' : Nat) {cd : ClassFile.ACond} {x y : Value} {o : Int} (hd : decode bytes pc = .ok (.if_acmp cd o, 3)) (hvx : x.isRef = true) (hvy : y.isRef = true) (hc : XT.acmp cd x y = false) (hp : pc + 3 = pc') (K : Go p l e R s m args below meth c h0 Q ds k n pc' Ls St) : Go p l e R s m args below meth c h0 Q ds k n pc Ls (y :: x :: St) := by
  subst hp
  exact K.pure fun T locs X target h => XT.acmpNo X.here C.1 rfl (hb C.2.2.2.1 hd) rfl hvx hvy hc h
theorem g_ldcI (C : Cx p s m meth c Z a0 own bytes ml rt nm) (pc' : Nat) {i : Nat} (v : Int32) (hd : decode bytes pc = .ok (.ldc i, 2)) (hp : pc + 2 = pc') (w : Jvm.Cond.constant own i v ∈ tables_1) (K : Go p l e R s m args below meth c h0 Q ds k n pc' Ls (.int v :: St)) : Go p l e R s m args below meth c h0 Q ds k n pc Ls St := by
  subst hp
  exact K.pure fun T locs X target h => X.ldcInt C.1 C.2.2.2.2.2.1 (mvT C.2.1 (C.2.2.1 _ w)) (g := mkF m pc Ls St) rfl (hb C.2.2.2.1 hd) _ h
theorem g_ldcJ (C : Cx p s m meth c Z a0 own bytes ml rt nm) (pc' : Nat) {i : Nat} (v : Int64) (hd : decode bytes pc = .ok (.ldc2_w i, 3)) (hp : pc + 3 = pc') (w : Jvm.Cond.constantLong own i v ∈ tables_1) (K : Go p l e R s m args below meth c h0 Q ds k n pc' Ls (.long v :: St)) : Go p l e R s m args below meth c h0 Q ds k n pc Ls St := by
  subst hp
  exact K.pure fun T locs X target h => X.ldc2Long C.1 C.2.2.2.2.2.1 (mvT C.2.1 (C.2.2.1 _ w)) (g := mkF m pc Ls St) rfl (hb C.2.2.2.1 hd) _ h
/-! arrays -/
theorem IA.arr {ty : FieldType} {vs : List Value} {a : Addr} {cl : Cell} (hc : h[a]? = some cl) (d : IA Z ty vs cl) : Arr Z h a cl ty := ⟨hc, d.1, d.2.1⟩
theorem IA.size {ty : FieldType} {vs : List Value} {cl : Cell} (d : IA Z ty vs cl) : cl.slots.size = vs.length := by rw [← d.2.2]; simp
theorem IA.get {ty : FieldType} {vs : List Value} {cl : Cell} (d : IA Z ty vs cl) (i : Nat) : cl.slots[i]? = vs[i]? := by rw [← d.2.2]; simp
theorem IA.set {ty : FieldType} {vs : List Value} {cl : Cell} (d : IA Z ty vs cl) (i : Nat) (v : Value) : IA Z ty (vs.set i v) (cl.setSlot i v) := by
  refine ⟨d.1, d.2.1, ?_⟩
  rw [← d.2.2]
  simp [Cell.setSlot, Array.toList_setIfInBounds]
theorem in_of {ty : FieldType} {vs : List Value} {cl : Cell} (d : IA Z ty vs cl) {j : Int32} (hj : ¬ j < 0) (hlt : j.toNatClampNeg < vs.length) : ¬ (j < 0 ∨ cl.slots.size ≤ j.toNatClampNeg) := by
  rw [d.size]; rintro (q | q)
  · exact hj q
  · omega
theorem g_length (C : Cx p s m meth c Z a0 own bytes ml rt nm) (pc' : Nat) {i : Nat} {a : Addr} {ty : FieldType} {vs : List Value} (z : Int32) (hi : ds[i]? = some (a, IA Z ty vs)) (hd : decode bytes pc = .ok (.arraylength, 1)) (hp : pc + 1 = pc') (hz : vs.length.toInt32 = z) (K : Go p l e R s m args below meth c h0 Q ds k n pc' Ls (.int z :: St)) : Go p l e R s m args below meth c h0 Q ds k n pc Ls (.ref a :: St) := fun T locs X W N => by
  subst hp hz
  obtain ⟨ha, cl, hc, dc⟩ := W.at hi
  refine (K T locs X W N).pre fun t h => X.arraylength C.1 hc (State.isArrayOf_alike C.2.1.alike dc.1) (g := mkF m pc Ls (.ref a :: St)) rfl rfl (hb C.2.2.2.1 hd) t ?_
  rw [dc.size]; exact h
theorem g_aload_of (pc' : Nat) {i : Nat} {a : Addr} {ty : FieldType} {vs : List Value} (hi : ds[i]? = some (a, IA Z ty vs)) {j : Int32} (hj : ¬ j < 0) {v : Value} (hv : vs[j.toNatClampNeg]? = some v)
    (H : ∀ T locs (cl : Cell), Stand p l e R s m args below meth c T locs k n → T.heap[a]? = some cl → IA Z ty vs cl → ¬ (j < 0 ∨ cl.slots.size ≤ j.toNatClampNeg) → cl.slots[j.toNatClampNeg]? = some v → ∀ t, Steps p.tables e below (T.setTop (mkF m pc' Ls (v :: St))) t → Steps p.tables e below (T.setTop (mkF m pc Ls (.int j :: .ref a :: St))) t)
    (K : Go p l e R s m args below meth c h0 Q ds k n pc' Ls (v :: St)) : Go p l e R s m args below meth c h0 Q ds k n pc Ls (.int j :: .ref a :: St) := fun T locs X W N => by
  obtain ⟨ha, cl, hc, dc⟩ := W.at hi
  have hlt : j.toNatClampNeg < vs.length := (List.getElem?_eq_some_iff.mp hv).1
  exact (K T locs X W N).pre (H T locs cl X hc dc (in_of dc hj hlt) (by rw [dc.get]; exact hv))
theorem g_iaload (C : Cx p s m meth c Z a0 own bytes ml rt nm) (pc' : Nat) {i : Nat} {a : Addr} {xs : List Int32} (hi : ds[i]? = some (a, IA Z .int (ints xs))) (hd : decode bytes pc = .ok (.iaload, 1)) (hp : pc + 1 = pc') {j : Int32} (hj : ¬ j < 0) (v : Int32) (hv : xs[j.toNatClampNeg]? = some v) (K : Go p l e R s m args below meth c h0 Q ds k n pc' Ls (.int v :: St)) : Go p l e R s m args below meth c h0 Q ds k n pc Ls (.int j :: .ref a :: St) :=
  g_aload_of pc' hi hj (v := .int v) (by simp [hv]) (fun T locs cl X hc dc hin hat t h => by subst hp; exact X.iaload C.1 hc (State.isArrayOf_alike C.2.1.alike dc.1) dc.2.1 hin hat (g := mkF m pc Ls (.int j :: .ref a :: St)) rfl rfl (hb C.2.2.2.1 hd) t h) K
theorem g_caload (C : Cx p s m meth c Z a0 own bytes ml rt nm) (pc' : Nat) {i : Nat} {a : Addr} {xs : List Int32} (hi : ds[i]? = some (a, IA Z .char (ints xs))) (hd : decode bytes pc = .ok (.caload, 1)) (hp : pc + 1 = pc') {j : Int32} (hj : ¬ j < 0) (v : Int32) (hv : xs[j.toNatClampNeg]? = some v) (K : Go p l e R s m args below meth c h0 Q ds k n pc' Ls (.int v :: St)) : Go p l e R s m args below meth c h0 Q ds k n pc Ls (.int j :: .ref a :: St) :=
  g_aload_of pc' hi hj (v := .int v) (by simp [hv]) (fun T locs cl X hc dc hin hat t h => by subst hp; exact X.caload C.1 hc (State.isArrayOf_alike C.2.1.alike dc.1) dc.2.1 hin hat (g := mkF m pc Ls (.int j :: .ref a :: St)) rfl rfl (hb C.2.2.2.1 hd) t h) K
theorem g_baload (C : Cx p s m meth c Z a0 own bytes ml rt nm) (pc' : Nat) {i : Nat} {a : Addr} {xs : List Int32} (hi : ds[i]? = some (a, IA Z .byte (ints xs))) (hd : decode bytes pc = .ok (.baload, 1)) (hp : pc + 1 = pc') {j : Int32} (hj : ¬ j < 0) (v : Int32) (hv : xs[j.toNatClampNeg]? = some v) (K : Go p l e R s m args below meth c h0 Q ds k n pc' Ls (.int v :: St)) : Go p l e R s m args below meth c h0 Q ds k n pc Ls (.int j :: .ref a :: St) :=
  g_aload_of pc' hi hj (v := .int v) (by simp [hv]) (fun T locs cl X hc dc hin hat t h => by subst hp; exact X.baloadBytes C.1 hc (State.isArrayOf_alike C.2.1.alike dc.1) dc.2.1 hin hat (g := mkF m pc Ls (.int j :: .ref a :: St)) rfl rfl (hb C.2.2.2.1 hd) t h) K
theorem g_aaload (C : Cx p s m meth c Z a0 own bytes ml rt nm) (pc' : Nat) {i : Nat} {a : Addr} {ty : FieldType} {vs : List Value} (hi : ds[i]? = some (a, IA Z ty vs)) (hty : ty.isReference = true) (hd : decode bytes pc = .ok (.aaload, 1)) (hp : pc + 1 = pc') {j : Int32} (hj : ¬ j < 0) (v : Value) (hv : vs[j.toNatClampNeg]? = some v) (K : Go p l e R s m args below meth c h0 Q ds k n pc' Ls (v :: St)) : Go p l e R s m args below meth c h0 Q ds k n pc Ls (.int j :: .ref a :: St) :=
  g_aload_of pc' hi hj hv (fun T locs cl X hc dc hin hat t h => by subst hp; exact X.aaload C.1 hc (State.isArrayOf_alike C.2.1.alike dc.1) hty dc.2.1 hin hat (g := mkF m pc Ls (.int j :: .ref a :: St)) rfl rfl (hb C.2.2.2.1 hd) t h) K
theorem g_astore_of (C : Cx p s m meth c Z a0 own bytes ml rt nm) (pc' : Nat) {i : Nat} {a : Addr} {ty : FieldType} {vs vs' : List Value} (ds' : Wd) (hi : ds[i]? = some (a, IA Z ty vs)) {j : Int32} (hj : ¬ j < 0) (hlt : j.toNatClampNeg < vs.length) {v w : Value} (hvs : vs.set j.toNatClampNeg v = vs') (hds : ds.set i (a, IA Z ty vs') = ds')
    (H : ∀ T locs (cl : Cell), Stand p l e R s m args below meth c T locs k n → Arr Z T.heap a cl ty → ¬ (j < 0 ∨ cl.slots.size ≤ j.toNatClampNeg) → ∃ T' h', Stand p l e R s m args below meth c T' (locs ++ [⟨a, j.toNatClampNeg⟩]) k n ∧ T'.heap = h' ∧ Wr T.heap h' a j.toNatClampNeg v ∧ ∀ t, Steps p.tables e below (T'.setTop (mkF m pc' Ls St)) t → Steps p.tables e below (T.setTop (mkF m pc Ls (w :: .int j :: .ref a :: St))) t)
    (K : Go p l e R s m args below meth c h0 Q ds' k n pc' Ls St) : Go p l e R s m args below meth c h0 Q ds k n pc Ls (w :: .int j :: .ref a :: St) := fun T locs X W N => by
  subst hds hvs
  obtain ⟨ha, cl, hc, dc⟩ := W.at hi
  obtain ⟨T', h', X', e', wr, st⟩ := H T locs cl X (dc.arr hc) (in_of dc hj hlt)
  exact (K T' _ X' (by rw [e']; exact W.wr hi wr (fun c2 h2 _ d2 => d2.set _ _)) (Fr.snoc X' N ha)).pre st
theorem ints_set (xs : List Int32) (i : Nat) (v : Int32) : (ints xs).set i (.int v) = ints (xs.set i v) := by simp [ints, List.map_set]
theorem g_iastore (C : Cx p s m meth c Z a0 own bytes ml rt nm) (pc' : Nat) {i : Nat} {a : Addr} {xs : List Int32} (xs' : List Int32) (ds' : Wd) (hi : ds[i]? = some (a, IA Z .int (ints xs))) (hd : decode bytes pc = .ok (.iastore, 1)) (hp : pc + 1 = pc') {j v : Int32} (hj : ¬ j < 0) (hlt : j.toNatClampNeg < xs.length) (hx : xs.set j.toNatClampNeg v = xs') (hds : ds.set i (a, IA Z .int (ints xs')) = ds')
    (K : Go p l e R s m args below meth c h0 Q ds' k n pc' Ls St) : Go p l e R s m args below meth c h0 Q ds k n pc Ls (.int v :: .int j :: .ref a :: St) :=
  g_astore_of C pc' ds' hi hj (by simpa using hlt) (v := .int v) (vs' := ints xs') (by rw [ints_set, hx]) hds (fun T locs cl X A hin => by
    subst hp
    exact stI X C.1 C.2.1 rfl A hin (g := mkF m pc Ls (.int v :: .int j :: .ref a :: St)) rfl rfl (hb C.2.2.2.1 hd)) K
theorem g_castore (C : Cx p s m meth c Z a0 own bytes ml rt nm) (pc' : Nat) {i : Nat} {a : Addr} {xs : List Int32} (xs' : List Int32) (ds' : Wd) (hi : ds[i]? = some (a, IA Z .char (ints xs))) (hd : decode bytes pc = .ok (.castore, 1)) (hp : pc + 1 = pc') {j v : Int32} (hj : ¬ j < 0) (hlt : j.toNatClampNeg < xs.length) (hx : xs.set j.toNatClampNeg (nar .char v) = xs') (hds : ds.set i (a, IA Z .char (ints xs')) = ds')
    (K : Go p l e R s m args below meth c h0 Q ds' k n pc' Ls St) : Go p l e R s m args below meth c h0 Q ds k n pc Ls (.int v :: .int j :: .ref a :: St) :=
  g_astore_of C pc' ds' hi hj (by simpa using hlt) (v := .int (nar .char v)) (vs' := ints xs') (by rw [ints_set, hx]) hds (fun T locs cl X A hin => by
    subst hp
    exact stC X C.1 C.2.1 rfl A hin (g := mkF m pc Ls (.int v :: .int j :: .ref a :: St)) rfl rfl (hb C.2.2.2.1 hd)) K
theorem g_bastore (C : Cx p s m meth c Z a0 own bytes ml rt nm) (pc' : Nat) {i : Nat} {a : Addr} {xs : List Int32} (xs' : List Int32) (ds' : Wd) (hi : ds[i]? = some (a, IA Z .byte (ints xs))) (hd : decode bytes pc = .ok (.bastore, 1)) (hp : pc + 1 = pc') {j v : Int32} (hj : ¬ j < 0) (hlt : j.toNatClampNeg < xs.length) (hx : xs.set j.toNatClampNeg (nar .byte v) = xs') (hds : ds.set i (a, IA Z .byte (ints xs')) = ds')
    (K : Go p l e R s m args below meth c h0 Q ds' k n pc' Ls St) : Go p l e R s m args below meth c h0 Q ds k n pc Ls (.int v :: .int j :: .ref a :: St) :=
  g_astore_of C pc' ds' hi hj (by simpa using hlt) (v := .int (nar .byte v)) (vs' := ints xs') (by rw [ints_set, hx]) hds (fun T locs cl X A hin => by
    subst hp
    exact stB X C.1 C.2.1 rfl A hin (g := mkF m pc Ls (.int v :: .int j :: .ref a :: St)) rfl rfl (hb C.2.2.2.1 hd)) K
theorem IA.new {cA : ClassId} {ty : FieldType} {z : Int32} {a : Addr} (A : Arr Z h a (newA cA ty z) ty) : IA Z ty (List.replicate z.toNatClampNeg (defaultValue ty)) (newA cA ty z) := ⟨A.2.1, A.2.2, by simp [newA]⟩
theorem g_newarray (C : Cx p s m meth c Z a0 own bytes ml rt nm) (pc' : Nat) {aty : ArrayType} {z : Int32} (vs : List Value) (cap : Nat) (w : Jvm.Cond.arrayClass (newarray.typeOf aty) ∈ tables_1) (hd : decode bytes pc = .ok (.newarray aty, 2)) (hp : pc + 2 = pc') (hz : ¬ z < 0) (hcap : z.toNatClampNeg ≤ cap) (hcb : cap * 8 ≤ 536870912) (hk : k + 1 ≤ R.cells) (hn : n + cap ≤ R.slots)
    (hvs : List.replicate z.toNatClampNeg (defaultValue (newarray.typeOf aty)) = vs) (K : ∀ a, Go p l e R s m args below meth c h0 Q (ds ++ [(a, IA Z (newarray.typeOf aty) vs)]) (k + 1) (n + cap) pc' Ls (.ref a :: St)) : Go p l e R s m args below meth c h0 Q ds k n pc Ls (.int z :: St) := fun T locs X W N => by
  subst hp hvs
  obtain ⟨T', h', cA, X', e', E, A, st⟩ := newP X C.1 C.2.1 (C.2.2.1 _ w) rfl (g := mkF m pc Ls (.int z :: St)) rfl (hb C.2.2.2.1 hd) rfl hz hcap hcb hk hn
  exact (K T.heap.size T' locs X' (by rw [e']; exact W.new E A.1 (IA.new A)) N).pre st
/-! objects -/
theorem g_getfield (C : Cx p s m meth c Z a0 own bytes ml rt nm) (pc' : Nat) {i j idx : Nat} {a : Addr} {Cn O nf d : String} {v : Value} {fs : List Fv} (hi : ds[i]? = some (a, OB Z a0 Cn fs)) (hf : fs[j]? = some (O, nf, d, v)) (hd : decode bytes pc = .ok (.getfield idx, 3)) (hp : pc + 3 = pc') (w : Jvm.Cond.fieldLink own idx O nf d ∈ tables_1)
    (K : Go p l e R s m args below meth c h0 Q ds k n pc' Ls (v :: St)) : Go p l e R s m args below meth c h0 Q ds k n pc Ls (.ref a :: St) := fun T locs X W N => by
  subst hp
  obtain ⟨ha, cl, hc, dc⟩ := W.at hi
  obtain ⟨T', X', e', st⟩ := getF X C.1 C.2.1 C.2.2.2.2.2.1 (host := "") (Or.inl (C.2.2.1 _ w)) Via.refl rfl (dc.fld hc (List.mem_of_getElem? hf)) (g := mkF m pc Ls (.ref a :: St)) rfl rfl (hb C.2.2.2.1 hd)
  exact (K T' locs X' (by rw [e']; exact W) N).pre st
theorem OB.put {Cn O nf d : String} {v old : Value} {fs : List Fv} {j : Nat} {a : Addr} {cl : Cell} (hc : h[a]? = some cl) (dc : OB Z a0 Cn fs cl) (hf : fs[j]? = some (O, nf, d, old)) (hnd : (fs.map (fun x => x.2.1)).Nodup) (wr : Wr h h' a (Jvm.RoadKit.slotOf Z O nf d) v) : ∃ cl' : Cell, h'[a]? = some cl' ∧ OB Z a0 Cn (fs.set j (O, nf, d, v)) cl' := by
  have E : Exa Z h' a Cn := (dc.exa hc).wr wr
  obtain ⟨cl', k', hc', -⟩ := id E
  refine ⟨cl', hc', OB.of E hc' fun x hx => ?_⟩
  obtain ⟨q, hq⟩ := List.getElem?_of_mem hx
  have Fj := dc.fld hc (List.mem_of_getElem? hf)
  obtain ⟨-, Lj, tj, hj⟩ := dc.2 _ (List.mem_of_getElem? hf)
  rw [List.getElem?_set] at hq
  split at hq
  · rename_i hjq
    split at hq
    · cases hq; exact ⟨Fj.same wr, Lj, tj, hj⟩
    · cases hq
  · rename_i hjq
    obtain ⟨O', n', d', v'⟩ := x
    have Fx := dc.fld hc (List.mem_of_getElem? hq)
    obtain ⟨-, Lx, tx, hx'⟩ := dc.2 _ (List.mem_of_getElem? hq)
    refine ⟨Fx.other wr (Or.inr (slot_ne Lx Lj ?_ hx' hj)), Lx, tx, hx'⟩
    intro en
    apply hjq
    obtain ⟨l1, e1⟩ := List.getElem?_eq_some_iff.mp hf
    obtain ⟨l2, e2⟩ := List.getElem?_eq_some_iff.mp hq
    have g : (fs.map (fun x => x.2.1))[j]'(by simpa using l1) = (fs.map (fun x => x.2.1))[q]'(by simpa using l2) := by simp only [List.getElem_map, e1, e2]; exact en.symm
    exact nodup_inj hnd _ _ g
theorem Wld.wr' {i : Nat} {a : Addr} {d d' : Desc} {sl : Nat} {v : Value} {cl' : Cell} (W : Wld h0 ds h) (hi : ds[i]? = some (a, d)) (wr : Wr h h' a sl v) (hc' : h'[a]? = some cl') (dc' : d' cl') : Wld h0 (ds.set i (a, d')) h' :=
  W.wr hi wr fun c2 h2 hsl _ => by
    obtain ⟨c', e1, -, -, -, -, -, e7⟩ := wr_at wr h2
    cases e1.symm.trans hc'
    rw [← (e7 rfl).1]; exact dc'
theorem g_putfield (C : Cx p s m meth c Z a0 own bytes ml rt nm) (pc' : Nat) {i j idx kk : Nat} {a : Addr} {Cn O nf d : String} {v v' old : Value} {ty : FieldType} {fs : List Fv} (fs' : List Fv) (ds' : Wd) (hi : ds[i]? = some (a, OB Z a0 Cn fs)) (hf : fs[j]? = some (O, nf, d, old)) (hd : decode bytes pc = .ok (.putfield idx, 3)) (hp : pc + 3 = pc')
    (w : Jvm.Cond.fieldLink own idx O nf d ∈ tables_1) (L : Jvm.Cond.lays Cn O nf d ∈ tables_1 ∨ (Jvm.Cond.laysFinal Cn O nf d ∈ tables_1 ∧ own = O ∧ nm = "<init>")) (wi : Jvm.Cond.instantiable Cn kk ∈ tables_1) (hty : parseFieldDescriptor d = some ty) (hnr : narrow ty v = v') (hft : fits ty v' = true) (hnd : (fs.map (fun x => x.2.1)).Nodup)
    (hfs : fs.set j (O, nf, d, v') = fs') (hds : ds.set i (a, OB Z a0 Cn fs') = ds') (K : Go p l e R s m args below meth c h0 Q ds' k n pc' Ls St) : Go p l e R s m args below meth c h0 Q ds k n pc Ls (v :: .ref a :: St) := fun T locs X W N => by
  subst hp hfs hds
  obtain ⟨ha, cl, hc, dc⟩ := W.at hi
  obtain ⟨T', h', X', e', wr, st⟩ := putFN X C.1 C.2.1 C.2.2.2.2.2.1 (C.2.2.1 _ w) Via.refl rfl (dc.fld hc (List.mem_of_getElem? hf)) (dc.exa hc) (L.imp (fun q => C.2.2.1 _ q) (fun q => ⟨C.2.2.1 _ q.1, q.2.1, C.2.2.2.2.2.2.2.2.trans q.2.2⟩)) (C.2.2.1 _ wi) hty hnr hft (g := mkF m pc Ls (v :: .ref a :: St)) rfl rfl (hb C.2.2.2.1 hd)
  obtain ⟨cl', hc', dc'⟩ := dc.put hc hf hnd wr
  exact (K T' _ X' (by rw [e']; exact W.wr' hi wr hc' dc') (Fr.snoc X' N ha)).pre st
theorem g_new (C : Cx p s m meth c Z a0 own bytes ml rt nm) (pc' : Nat) {idx sz : Nat} {Cn : String} (fs : List Fv) (w : Jvm.Cond.classLink own idx Cn ∈ tables_1) (wi : Jvm.Cond.instantiable Cn sz ∈ tables_1) (wz : Jvm.Cond.initialized Cn ∈ tables_1) (hd : decode bytes pc = .ok (.new idx, 3)) (hp : pc + 3 = pc') (hk : k + 1 ≤ R.cells) (hn : n + sz ≤ R.slots)
    (hfs : ∀ x ∈ fs, (Jvm.Cond.lays Cn x.1 x.2.1 x.2.2.1 ∈ tables_1 ∨ Jvm.Cond.laysFinal Cn x.1 x.2.1 x.2.2.1 ∈ tables_1) ∧ ∃ t, parseFieldDescriptor x.2.2.1 = some t ∧ x.2.2.2 = defaultValue t)
    (K : ∀ a, Go p l e R s m args below meth c h0 Q (ds ++ [(a, OB Z a0 Cn fs)]) (k + 1) (n + sz) pc' Ls (.ref a :: St)) : Go p l e R s m args below meth c h0 Q ds k n pc Ls St := fun T locs X W N => by
  subst hp
  obtain ⟨T', h', X', e', E, A, D, ⟨cell, hcell, -⟩, st⟩ := newO X C.1 C.2.1 C.2.2.2.2.2.1 (C.2.2.1 _ w) (C.2.2.1 _ wi) (C.2.2.1 _ wz) rfl (g := mkF m pc Ls St) rfl (hb C.2.2.2.1 hd) hk hn
  refine (K T.heap.size T' locs X' (by
    rw [e']
    exact W.new E hcell (OB.of A hcell fun x hx => by
      obtain ⟨L, t, ht, hv⟩ := hfs x hx
      have L' : Laid Z a0 Cn x.1 x.2.1 x.2.2.1 := L.imp (fun q => C.2.2.1 _ q) (fun q => C.2.2.1 _ q)
      exact ⟨by rw [hv]; exact D L' ht, L', t, ht⟩)) N).pre st
theorem g_initO (C : Cx p s m meth c Z a0 own bytes ml rt nm) (pc' W0 : Nat) {idx : Nat} {a : Addr} (w1 : Jvm.Cond.methodLink own idx Lib.objectInit ∈ tables_1) (w2 : Jvm.Cond.instanceMethod Lib.objectInit ∈ tables_1) (w3 : Jvm.Cond.code Lib.objectInit ⟨#[0xb1]⟩ 1 none ∈ tables_1) (hd : decode bytes pc = .ok (.invokespecial idx, 3)) (hp : pc + 3 = pc') (hsz : Ls.size = ml) (hf : 1 ≤ R.frames) (hW : (St.map fun v => v.category).sum ≤ W0) (hl : W0 + 12 ≤ R.locals)
    (K : Go p l e R s m args below meth c h0 Q ds k n pc' Ls St) : Go p l e R s m args below meth c h0 Q ds k n pc Ls (.ref a :: St) := fun T locs X W N => by
  subst hp
  obtain ⟨T', X', e', st⟩ := initO X C.1 C.2.1 C.2.2.2.2.2.1 (C.2.2.1 _ w1) (C.2.2.1 _ w2) (C.2.2.1 _ w3) rfl (g := mkF m pc Ls (.ref a :: St)) rfl (by rw [C.2.2.2.2.1]; exact hsz) rfl (hb C.2.2.2.1 hd) hf (W := W0) (by show 2 * 0 + _ ≤ _; omega) hl
  exact (K T' locs X' (by rw [e']; exact W) N).pre st
/-! statics -/
theorem g_getstatic (C : Cx p s m meth c Z a0 own bytes ml rt nm) (pc' : Nat) {idx : Nat} {O nf d : String} {v : Value} (S : Sta Z h0 O nf d v) (hd : decode bytes pc = .ok (.getstatic idx, 3)) (hp : pc + 3 = pc') (w : Jvm.Cond.fieldLink own idx O nf d ∈ tables_1)
    (K : Go p l e R s m args below meth c h0 Q ds k n pc' Ls (v :: St)) : Go p l e R s m args below meth c h0 Q ds k n pc Ls St := fun T locs X W N => by
  subst hp
  obtain ⟨T', X', e', st⟩ := getS (host := "") X C.1 C.2.1 C.2.2.2.2.2.1 (C.2.2.1 _ w) Via.refl rfl (S.ext W.extOf) (g := mkF m pc Ls St) rfl (hb C.2.2.2.1 hd)
  exact (K T' locs X' (by rw [e']; exact W) N).pre st
/-! calls -/
theorem Go.back {pc' : Nat} {St' : List Value} {Q' : Option Value → Wd → Prop} {rm : Room} {locs : List Loc} {A : State} (N : Fr h0.size locs)
    (H : ∃ (v : Option Value) (B : Pt), Stand p l e R s m args below meth c B.U B.locs B.cells B.slots ∧ (∃ L, (∃ ds', Q' v ds' ∧ Wld h0 ds' B.U.heap ∧ Fr h0.size L) ∧ B.locs = locs ++ L ∧ B.cells = k + rm.cells ∧ B.slots = n + rm.slots) ∧ ∀ t, Steps p.tables e below (B.U.setTop (mkF m pc' Ls (v.toList ++ St'))) t → Steps p.tables e below A t)
    (K : ∀ v ds', Q' v ds' → Go p l e R s m args below meth c h0 Q ds' (k + rm.cells) (n + rm.slots) pc' Ls (v.toList ++ St')) :
    Ends p.tables e below A (fun o t => ∃ v L, o = .returned v ∧ (∃ ds', Q v ds' ∧ Wld h0 ds' t.heap ∧ Fr h0.size L) ∧ FrameEnd s o t L R.cells R.slots) := by
  obtain ⟨v, ⟨U, L', c', s'⟩, X', ⟨L, ⟨ds', q, W', N'⟩, e1, e2, e3⟩, st⟩ := H
  dsimp only [Pt.U, Pt.locs, Pt.cells, Pt.slots] at X' W' e1 e2 e3 st
  subst e1 e2 e3
  exact (K v ds' q U _ X' W' (N.app N')).pre st
theorem g_static (C : Cx p s m meth c Z a0 own bytes ml rt nm) (pc' W0 : Nat) {idx : Nat} {y : MethodName} {bytes' : ByteArray} {ml' : Nat} {rt' : Option FieldType} {rm : Room} {argsL : List Value} {Q' : Option Value → Wd → Prop} (con : Con l Z y bytes' ml' rt' rm h0 argsL.toArray ds Q')
    (w1 : Jvm.Cond.methodLink own idx y ∈ tables_1) (w2 : Jvm.Cond.static y ∈ tables_1) (w3 : Jvm.Cond.initialized y.cls ∈ tables_1) (w4 : Jvm.Cond.code y bytes' ml' rt' ∈ tables_1) (hy : y.cls ≠ "java/lang/invoke/MethodHandle" ∧ y.cls ≠ "java/lang/invoke/VarHandle")
    (hd : decode bytes pc = .ok (.invokestatic idx, 3)) (hp : pc + 3 = pc') (hsz : Ls.size = ml) (hlen : ∀ sig, parseMethodDescriptor y.desc = some sig → argsL.length = sig.parameters.length) {St0 : List Value} (hst : St0 = argsL.reverse ++ St) (hW : (St.map fun v => v.category).sum ≤ W0) (hf : rm.frames + 1 ≤ R.frames) (hl : W0 + (ml' + 11) + rm.locals ≤ R.locals) (hk : k + rm.cells ≤ R.cells) (hn : n + rm.slots ≤ R.slots)
    (K : ∀ v ds', Q' v ds' → Go p l e R s m args below meth c h0 Q ds' (k + rm.cells) (n + rm.slots) pc' Ls (v.toList ++ St)) : Go p l e R s m args below meth c h0 Q ds k n pc Ls St0 := fun T locs X W N => by
  subst hp hst
  refine Go.back (pc' := pc + 3) (Ls := Ls) (St' := St) N ?_ K
  obtain ⟨v, vm₁, B, -, X', hpost, st⟩ := Jvm.LawKit.callS X C.1 (y := y) C.2.2.2.2.2.1 (mvT C.2.1 (C.2.2.1 _ w1)) (mvT C.2.1 (C.2.2.1 _ w2)) (mvT C.2.1 (C.2.2.1 _ w3)) (mvT C.2.1 (C.2.2.1 _ w4)) hy
    (backOf (W := W0) (Q := fun v hh L => ∃ ds', Q' v ds' ∧ Wld h0 ds' hh ∧ Fr h0.size L) (con T.heap W []) C.2.1 (C.2.2.1 _ w4) (C.2.2.1 _ w3) hf hl) (g := mkF m pc Ls (argsL.reverse ++ St)) rfl (by rw [C.2.2.2.2.1]; exact hsz) (argsL := argsL) (rest := St) hlen rfl (by show 2 * 0 + _ ≤ _; omega) (hb C.2.2.2.1 hd) (fun _ _ => ⟨rfl, rfl, hk, hn⟩)
  obtain ⟨L, q, e1, e2, e3⟩ := hpost
  exact ⟨v, B, X', ⟨L, q, e1, e2, e3⟩, st⟩
theorem g_special (C : Cx p s m meth c Z a0 own bytes ml rt nm) (pc' W0 : Nat) {idx : Nat} {y : MethodName} {bytes' : ByteArray} {ml' : Nat} {rm : Room} {a : Addr} {argsL : List Value} {Q' : Option Value → Wd → Prop} (con : Con l Z y bytes' ml' none rm h0 (.ref a :: argsL).toArray ds Q') (hy1 : y.name = "<init>")
    (w1 : Jvm.Cond.methodLink own idx y ∈ tables_1) (w2 : Jvm.Cond.instanceMethod y ∈ tables_1) (w3 : Jvm.Cond.initialized y.cls ∈ tables_1) (w4 : Jvm.Cond.code y bytes' ml' none ∈ tables_1) (hy : y.cls ≠ "java/lang/invoke/MethodHandle" ∧ y.cls ≠ "java/lang/invoke/VarHandle")
    (hd : decode bytes pc = .ok (.invokespecial idx, 3)) (hp : pc + 3 = pc') (hsz : Ls.size = ml) (hlen : ∀ sig, parseMethodDescriptor y.desc = some sig → argsL.length = sig.parameters.length) {St0 : List Value} (hst : St0 = argsL.reverse ++ .ref a :: St) (hW : (St.map fun v => v.category).sum ≤ W0) (hf : rm.frames + 1 ≤ R.frames) (hl : W0 + (ml' + 11) + rm.locals ≤ R.locals) (hk : k + rm.cells ≤ R.cells) (hn : n + rm.slots ≤ R.slots)
    (K : ∀ v ds', Q' v ds' → Go p l e R s m args below meth c h0 Q ds' (k + rm.cells) (n + rm.slots) pc' Ls (v.toList ++ St)) : Go p l e R s m args below meth c h0 Q ds k n pc Ls St0 := fun T locs X W N => by
  subst hp hst
  refine Go.back (pc' := pc + 3) (Ls := Ls) (St' := St) N ?_ K
  obtain ⟨v, vm₁, B, -, X', hpost, st⟩ := X.specialBack C.1 (y := y) hy1 C.2.2.2.2.2.1 (mvT C.2.1 (C.2.2.1 _ w1)) (mvT C.2.1 (C.2.2.1 _ w2)) (mvT C.2.1 (C.2.2.1 _ w4)) hy
    (backOf (W := W0) (Q := fun v hh L => ∃ ds', Q' v ds' ∧ Wld h0 ds' hh ∧ Fr h0.size L) (con T.heap W []) C.2.1 (C.2.2.1 _ w4) (C.2.2.1 _ w3) hf hl) (g := mkF m pc Ls (argsL.reverse ++ .ref a :: St)) rfl (by rw [C.2.2.2.2.1]; exact hsz) (Steps.refl _) (a := a) (argsL := argsL) (rest := St) hlen rfl (by show 2 * 0 + _ ≤ _; omega) (hb C.2.2.2.1 hd) (fun _ _ => ⟨rfl, rfl, hk, hn⟩)
  obtain ⟨L, q, e1, e2, e3⟩ := hpost
  exact ⟨v, B, X', ⟨L, q, e1, e2, e3⟩, fun t h => st.trans h⟩
theorem g_virtual (C : Cx p s m meth c Z a0 own bytes ml rt nm) (pc' W0 : Nat) {i idx : Nat} {Cn : String} {fs : List Fv} {y : MethodName} {bytes' : ByteArray} {ml' : Nat} {rt' : Option FieldType} {rm : Room} {a : Addr} {argsL : List Value} {Q' : Option Value → Wd → Prop} (hi : ds[i]? = some (a, OB Z a0 Cn fs)) (con : Con l Z y bytes' ml' rt' rm h0 (.ref a :: argsL).toArray ds Q')
    (w1 : Jvm.Cond.methodLink own idx y ∈ tables_1) (w2 : Jvm.Cond.declares y ∈ tables_1) (w5 : Jvm.Cond.selects Cn y y ∈ tables_1) (w6 : Jvm.Cond.instanceMethod y ∈ tables_1) (w3 : Jvm.Cond.initialized y.cls ∈ tables_1) (w4 : Jvm.Cond.code y bytes' ml' rt' ∈ tables_1) (hy : y.cls ≠ "java/lang/invoke/MethodHandle" ∧ y.cls ≠ "java/lang/invoke/VarHandle")
    (hd : decode bytes pc = .ok (.invokevirtual idx, 3)) (hp : pc + 3 = pc') (hsz : Ls.size = ml) (hlen : ∀ sig, parseMethodDescriptor y.desc = some sig → argsL.length = sig.parameters.length) {St0 : List Value} (hst : St0 = argsL.reverse ++ .ref a :: St) (hW : (St.map fun v => v.category).sum ≤ W0) (hf : rm.frames + 1 ≤ R.frames) (hl : W0 + (ml' + 11) + rm.locals ≤ R.locals) (hk : k + rm.cells ≤ R.cells) (hn : n + rm.slots ≤ R.slots)
    (K : ∀ v ds', Q' v ds' → Go p l e R s m args below meth c h0 Q ds' (k + rm.cells) (n + rm.slots) pc' Ls (v.toList ++ St)) : Go p l e R s m args below meth c h0 Q ds k n pc Ls St0 := fun T locs X W N => by
  subst hp hst
  refine Go.back (pc' := pc + 3) (Ls := Ls) (St' := St) N ?_ K
  obtain ⟨ha, cl, hc, dc⟩ := W.at hi
  obtain ⟨cq, kq, qa, qb, qc⟩ := isOf C.2.1 rfl (dc.exa hc)
  obtain ⟨v, vm₁, B, -, X', hpost, st⟩ := X.virtualBack C.1 (y := y) (z := y) C.2.2.2.2.2.1 (mvT C.2.1 (C.2.2.1 _ w1)) (mvT C.2.1 (C.2.2.1 _ w2)) (notFace_of_selects (args := #[]) (mvT C.2.1 (C.2.2.1 _ w5))) (mvT C.2.1 (C.2.2.1 _ w5)) (mvT C.2.1 (C.2.2.1 _ w6)) hy
    (backOf (W := W0) (Q := fun v hh L => ∃ ds', Q' v ds' ∧ Wld h0 ds' hh ∧ Fr h0.size L) (con T.heap W []) C.2.1 (C.2.2.1 _ w4) (C.2.2.1 _ w3) hf hl) qa qc (g := mkF m pc Ls (argsL.reverse ++ .ref a :: St)) rfl (by rw [C.2.2.2.2.1]; exact hsz) (Steps.refl _) (argsL := argsL) (rest := St) hlen rfl (by show 2 * 0 + _ ≤ _; omega) (hb C.2.2.2.1 hd) (fun _ _ => ⟨rfl, rfl, hk, hn⟩)
  obtain ⟨L, q, e1, e2, e3⟩ := hpost
  exact ⟨v, B, X', ⟨L, q, e1, e2, e3⟩, fun t h => st.trans h⟩
end Own
/-! lists of ints read and written by an int -/
def el (xs : List Int32) (j : Int32) : Int32 := xs.getD j.toNatClampNeg 0
def inb (xs : List Int32) (j : Int32) : Bool := !(decide (j < 0)) && decide (j.toNatClampNeg < xs.length)
def stl (xs : List Int32) (j v : Int32) : List Int32 := xs.set j.toNatClampNeg v
theorem inb_nn {xs : List Int32} {j : Int32} (h : inb xs j = true) : ¬ j < 0 := by simp [inb] at h; exact Int32.not_lt.mpr h.1
theorem inb_lt {xs : List Int32} {j : Int32} (h : inb xs j = true) : j.toNatClampNeg < xs.length := by simp [inb] at h; exact h.2
theorem el_get {xs : List Int32} {j : Int32} (h : inb xs j = true) : xs[j.toNatClampNeg]? = some (el xs j) := by
  have q := inb_lt h
  unfold el
  rw [List.getD_eq_getElem?_getD, List.getElem?_eq_getElem q]; rfl
def ob {α β : Type} (o : Option α) (f : α → Option β) : Option β := match o with | none => none | some a => f a
theorem ob_some {α β : Type} (a : α) (f : α → Option β) : ob (some a) f = f a := rfl
theorem ob_none {α β : Type} (f : α → Option β) : ob none f = none := rfl
theorem set_same {ds : Wd} {j : Nat} {u x : Addr × Desc} (h : ds[j]? = some u) : (ds.set j x)[j]? = some x := by
  rw [List.getElem?_set]; simp [(List.getElem?_eq_some_iff.mp h).1]
theorem set_other {ds : Wd} {i j : Nat} {u x : Addr × Desc} (hij : j ≠ i) (h : ds[i]? = some u) : (ds.set j x)[i]? = some u := by
  rw [List.getElem?_set]; simp [hij, h]
theorem d3_0 : decode prog_5_method_1_code 0 = .ok (.aload_n 0, 1) := by decide +kernel
theorem d3_1 : decode prog_5_method_1_code 1 = .ok (.invokespecial 1, 3) := by decide +kernel
theorem d3_4 : decode prog_5_method_1_code 4 = .ok (.aload_n 0, 1) := by decide +kernel
theorem d3_5 : decode prog_5_method_1_code 5 = .ok (.iconst 1, 1) := by decide +kernel
theorem d3_6 : decode prog_5_method_1_code 6 = .ok (.putfield 7, 3) := by decide +kernel
theorem d3_9 : decode prog_5_method_1_code 9 = .ok (.aload_n 0, 1) := by decide +kernel
theorem d3_10 : decode prog_5_method_1_code 10 = .ok (.iconst 1, 1) := by decide +kernel
theorem d3_11 : decode prog_5_method_1_code 11 = .ok (.putfield 13, 3) := by decide +kernel
theorem d3_14 : decode prog_5_method_1_code 14 = .ok (.return_, 1) := by decide +kernel
set_option maxRecDepth 65536 in
set_option maxHeartbeats 40000000 in
theorem con_init (l : Launch) (Z : State) (a0 : Array Value) (hw : ∀ d ∈ tables_1, d.before a0 Z = true) (h0 : Heap) (ds : Wd) (j : Nat) (p1 : Addr) (hi : ds[j]? = some (p1, OB Z a0 "com/example/revalidate/revalidate/DocumentDecoder$Place" [("com/example/revalidate/revalidate/DocumentDecoder$Place", "line", "I", (.int (0 : Int32))), ("com/example/revalidate/revalidate/DocumentDecoder$Place", "column", "I", (.int (0 : Int32))), ("com/example/revalidate/revalidate/DocumentDecoder$Place", "xml11", "Z", (.int (0 : Int32))), ("com/example/revalidate/revalidate/DocumentDecoder$Place", "afterReturn", "Z", (.int (0 : Int32)))])) :
    Con l Z (⟨"com/example/revalidate/revalidate/DocumentDecoder$Place", "<init>", "()V"⟩ : MethodName) prog_5_method_1_code 1 none ({ frames := 1, cells := 0, slots := 0, locals := 12 } : Room) h0 #[(.ref p1)] ds (fun v ds' => v = none ∧ ds.set j (p1, OB Z a0 "com/example/revalidate/revalidate/DocumentDecoder$Place" [("com/example/revalidate/revalidate/DocumentDecoder$Place", "line", "I", (.int (1 : Int32))), ("com/example/revalidate/revalidate/DocumentDecoder$Place", "column", "I", (.int (1 : Int32))), ("com/example/revalidate/revalidate/DocumentDecoder$Place", "xml11", "Z", (.int (0 : Int32))), ("com/example/revalidate/revalidate/DocumentDecoder$Place", "afterReturn", "Z", (.int (0 : Int32)))]) = ds') := by
  refine con_of (a0 := a0) (Ls := #[.val (.ref p1)]) (plainFor_of_name (by first | (simp [plainName, overriddenIn]; done) | decide +kernel)) hw (fun m => by first | (simp [entryFrame, mkF, argsToLocals, Value.category]; done) | rfl) ?_
  intro p e s m below meth c C
  refine g_aloadN C 1 d3_0 rfl rfl rfl ?_
  refine g_initO C 4 0 (List.mem_of_getElem? (i := 15) rfl) (List.mem_of_getElem? (i := 16) rfl) (List.mem_of_getElem? (i := 17) rfl) d3_1 rfl rfl (by decide) (Nat.le_of_eq rfl) (by decide) ?_
  refine g_aloadN C 5 d3_4 rfl rfl rfl ?_
  refine g_iconst C 6 (1 : Int32) d3_5 rfl rfl ?_
  refine g_putfield C 9 (i := j) (j := 0) (ty := .int) [("com/example/revalidate/revalidate/DocumentDecoder$Place", "line", "I", (.int (1 : Int32))), ("com/example/revalidate/revalidate/DocumentDecoder$Place", "column", "I", (.int (0 : Int32))), ("com/example/revalidate/revalidate/DocumentDecoder$Place", "xml11", "Z", (.int (0 : Int32))), ("com/example/revalidate/revalidate/DocumentDecoder$Place", "afterReturn", "Z", (.int (0 : Int32)))] (ds.set j (p1, OB Z a0 "com/example/revalidate/revalidate/DocumentDecoder$Place" [("com/example/revalidate/revalidate/DocumentDecoder$Place", "line", "I", (.int (1 : Int32))), ("com/example/revalidate/revalidate/DocumentDecoder$Place", "column", "I", (.int (0 : Int32))), ("com/example/revalidate/revalidate/DocumentDecoder$Place", "xml11", "Z", (.int (0 : Int32))), ("com/example/revalidate/revalidate/DocumentDecoder$Place", "afterReturn", "Z", (.int (0 : Int32)))])) hi rfl d3_6 rfl (List.mem_of_getElem? (i := 18) rfl) (Or.inl (List.mem_of_getElem? (i := 19) rfl)) (List.mem_of_getElem? (i := 10) rfl) (by decide) rfl rfl (by simp) rfl rfl ?_
  refine g_aloadN C 10 d3_9 rfl rfl rfl ?_
  refine g_iconst C 11 (1 : Int32) d3_10 rfl rfl ?_
  refine g_putfield C 14 (i := j) (j := 1) (ty := .int) [("com/example/revalidate/revalidate/DocumentDecoder$Place", "line", "I", (.int (1 : Int32))), ("com/example/revalidate/revalidate/DocumentDecoder$Place", "column", "I", (.int (1 : Int32))), ("com/example/revalidate/revalidate/DocumentDecoder$Place", "xml11", "Z", (.int (0 : Int32))), ("com/example/revalidate/revalidate/DocumentDecoder$Place", "afterReturn", "Z", (.int (0 : Int32)))] (ds.set j (p1, OB Z a0 "com/example/revalidate/revalidate/DocumentDecoder$Place" [("com/example/revalidate/revalidate/DocumentDecoder$Place", "line", "I", (.int (1 : Int32))), ("com/example/revalidate/revalidate/DocumentDecoder$Place", "column", "I", (.int (1 : Int32))), ("com/example/revalidate/revalidate/DocumentDecoder$Place", "xml11", "Z", (.int (0 : Int32))), ("com/example/revalidate/revalidate/DocumentDecoder$Place", "afterReturn", "Z", (.int (0 : Int32)))])) (set_same hi) rfl d3_11 rfl (List.mem_of_getElem? (i := 20) rfl) (Or.inl (List.mem_of_getElem? (i := 21) rfl)) (List.mem_of_getElem? (i := 10) rfl) (by decide) rfl rfl (by simp) rfl (List.set_set _) ?_
  exact g_ret C d3_14 (by decide) (by decide) ⟨rfl, rfl⟩
theorem d5_0 : decode prog_5_method_3_code 0 = .ok (.aload_n 0, 1) := by decide +kernel
theorem d5_1 : decode prog_5_method_3_code 1 = .ok (.iconst 1, 1) := by decide +kernel
theorem d5_2 : decode prog_5_method_3_code 2 = .ok (.putfield 16, 3) := by decide +kernel
theorem d5_5 : decode prog_5_method_3_code 5 = .ok (.return_, 1) := by decide +kernel
set_option maxRecDepth 65536 in
set_option maxHeartbeats 40000000 in
theorem con_end (l : Launch) (Z : State) (a0 : Array Value) (hw : ∀ d ∈ tables_1, d.before a0 Z = true) (h0 : Heap) (ds : Wd) (j : Nat) (p1 : Addr) (line col x11 aft : Int32) (hi : ds[j]? = some (p1, OB Z a0 "com/example/revalidate/revalidate/DocumentDecoder$Place" [("com/example/revalidate/revalidate/DocumentDecoder$Place", "line", "I", (.int line)), ("com/example/revalidate/revalidate/DocumentDecoder$Place", "column", "I", (.int col)), ("com/example/revalidate/revalidate/DocumentDecoder$Place", "xml11", "Z", (.int x11)), ("com/example/revalidate/revalidate/DocumentDecoder$Place", "afterReturn", "Z", (.int aft))])) :
    Con l Z (⟨"com/example/revalidate/revalidate/DocumentDecoder$Place", "endLinesAsXml11", "()V"⟩ : MethodName) prog_5_method_3_code 1 none ({ frames := 0, cells := 0, slots := 0, locals := 0 } : Room) h0 #[(.ref p1)] ds (fun v ds' => v = none ∧ ds.set j (p1, OB Z a0 "com/example/revalidate/revalidate/DocumentDecoder$Place" [("com/example/revalidate/revalidate/DocumentDecoder$Place", "line", "I", (.int line)), ("com/example/revalidate/revalidate/DocumentDecoder$Place", "column", "I", (.int col)), ("com/example/revalidate/revalidate/DocumentDecoder$Place", "xml11", "Z", (.int (1 : Int32))), ("com/example/revalidate/revalidate/DocumentDecoder$Place", "afterReturn", "Z", (.int aft))]) = ds') := by
  refine con_of (a0 := a0) (Ls := #[.val (.ref p1)]) (plainFor_of_name (by first | (simp [plainName, overriddenIn]; done) | decide +kernel)) hw (fun m => by first | (simp [entryFrame, mkF, argsToLocals, Value.category]; done) | rfl) ?_
  intro p e s m below meth c C
  refine g_aloadN C 1 d5_0 rfl rfl rfl ?_
  refine g_iconst C 2 (1 : Int32) d5_1 rfl rfl ?_
  refine g_putfield C 5 (i := j) (j := 2) (ty := .boolean) [("com/example/revalidate/revalidate/DocumentDecoder$Place", "line", "I", (.int line)), ("com/example/revalidate/revalidate/DocumentDecoder$Place", "column", "I", (.int col)), ("com/example/revalidate/revalidate/DocumentDecoder$Place", "xml11", "Z", (.int (1 : Int32))), ("com/example/revalidate/revalidate/DocumentDecoder$Place", "afterReturn", "Z", (.int aft))] (ds.set j (p1, OB Z a0 "com/example/revalidate/revalidate/DocumentDecoder$Place" [("com/example/revalidate/revalidate/DocumentDecoder$Place", "line", "I", (.int line)), ("com/example/revalidate/revalidate/DocumentDecoder$Place", "column", "I", (.int col)), ("com/example/revalidate/revalidate/DocumentDecoder$Place", "xml11", "Z", (.int (1 : Int32))), ("com/example/revalidate/revalidate/DocumentDecoder$Place", "afterReturn", "Z", (.int aft))])) hi rfl d5_2 rfl (List.mem_of_getElem? (i := 27) rfl) (Or.inl (List.mem_of_getElem? (i := 28) rfl)) (List.mem_of_getElem? (i := 10) rfl) (by decide) rfl rfl (by simp) rfl rfl ?_
  exact g_ret C d5_5 (by decide) (by decide) ⟨rfl, rfl⟩
theorem d7_0 : decode prog_5_method_5_code 0 = .ok (.aload_n 0, 1) := by decide +kernel
theorem d7_1 : decode prog_5_method_5_code 1 = .ok (.getfield 7, 3) := by decide +kernel
theorem d7_4 : decode prog_5_method_5_code 4 = .ok (.ireturn, 1) := by decide +kernel
set_option maxRecDepth 65536 in
set_option maxHeartbeats 40000000 in
theorem con_line (l : Launch) (Z : State) (a0 : Array Value) (hw : ∀ d ∈ tables_1, d.before a0 Z = true) (h0 : Heap) (ds : Wd) (j : Nat) (p1 : Addr) (line col x11 aft : Int32) (hi : ds[j]? = some (p1, OB Z a0 "com/example/revalidate/revalidate/DocumentDecoder$Place" [("com/example/revalidate/revalidate/DocumentDecoder$Place", "line", "I", (.int line)), ("com/example/revalidate/revalidate/DocumentDecoder$Place", "column", "I", (.int col)), ("com/example/revalidate/revalidate/DocumentDecoder$Place", "xml11", "Z", (.int x11)), ("com/example/revalidate/revalidate/DocumentDecoder$Place", "afterReturn", "Z", (.int aft))])) :
    Con l Z (⟨"com/example/revalidate/revalidate/DocumentDecoder$Place", "line", "()I"⟩ : MethodName) prog_5_method_5_code 1 (some .int) ({ frames := 0, cells := 0, slots := 0, locals := 0 } : Room) h0 #[(.ref p1)] ds (fun v ds' => v = some (.int line) ∧ ds = ds') := by
  refine con_of (a0 := a0) (Ls := #[.val (.ref p1)]) (plainFor_of_name (by first | (simp [plainName, overriddenIn]; done) | decide +kernel)) hw (fun m => by first | (simp [entryFrame, mkF, argsToLocals, Value.category]; done) | rfl) ?_
  intro p e s m below meth c C
  refine g_aloadN C 1 d7_0 rfl rfl rfl ?_
  refine g_getfield C 4 (j := 0) hi rfl d7_1 rfl (List.mem_of_getElem? (i := 18) rfl) ?_
  exact g_iret C d7_4 (by decide) (by decide) ⟨rfl, rfl⟩
theorem d8_0 : decode prog_5_method_6_code 0 = .ok (.aload_n 0, 1) := by decide +kernel
theorem d8_1 : decode prog_5_method_6_code 1 = .ok (.getfield 13, 3) := by decide +kernel
theorem d8_4 : decode prog_5_method_6_code 4 = .ok (.ireturn, 1) := by decide +kernel
set_option maxRecDepth 65536 in
set_option maxHeartbeats 40000000 in
theorem con_column (l : Launch) (Z : State) (a0 : Array Value) (hw : ∀ d ∈ tables_1, d.before a0 Z = true) (h0 : Heap) (ds : Wd) (j : Nat) (p1 : Addr) (line col x11 aft : Int32) (hi : ds[j]? = some (p1, OB Z a0 "com/example/revalidate/revalidate/DocumentDecoder$Place" [("com/example/revalidate/revalidate/DocumentDecoder$Place", "line", "I", (.int line)), ("com/example/revalidate/revalidate/DocumentDecoder$Place", "column", "I", (.int col)), ("com/example/revalidate/revalidate/DocumentDecoder$Place", "xml11", "Z", (.int x11)), ("com/example/revalidate/revalidate/DocumentDecoder$Place", "afterReturn", "Z", (.int aft))])) :
    Con l Z (⟨"com/example/revalidate/revalidate/DocumentDecoder$Place", "column", "()I"⟩ : MethodName) prog_5_method_6_code 1 (some .int) ({ frames := 0, cells := 0, slots := 0, locals := 0 } : Room) h0 #[(.ref p1)] ds (fun v ds' => v = some (.int col) ∧ ds = ds') := by
  refine con_of (a0 := a0) (Ls := #[.val (.ref p1)]) (plainFor_of_name (by first | (simp [plainName, overriddenIn]; done) | decide +kernel)) hw (fun m => by first | (simp [entryFrame, mkF, argsToLocals, Value.category]; done) | rfl) ?_
  intro p e s m below meth c C
  refine g_aloadN C 1 d8_0 rfl rfl rfl ?_
  refine g_getfield C 4 (j := 1) hi rfl d8_1 rfl (List.mem_of_getElem? (i := 20) rfl) ?_
  exact g_iret C d8_4 (by decide) (by decide) ⟨rfl, rfl⟩
theorem d9_0 : decode prog_5_method_4_code 0 = .ok (.aload_n 0, 1) := by decide +kernel
theorem d9_1 : decode prog_5_method_4_code 1 = .ok (.aload_n 1, 1) := by decide +kernel
theorem d9_2 : decode prog_5_method_4_code 2 = .ok (.getfield 7, 3) := by decide +kernel
theorem d9_5 : decode prog_5_method_4_code 5 = .ok (.putfield 7, 3) := by decide +kernel
theorem d9_8 : decode prog_5_method_4_code 8 = .ok (.aload_n 0, 1) := by decide +kernel
theorem d9_9 : decode prog_5_method_4_code 9 = .ok (.aload_n 1, 1) := by decide +kernel
theorem d9_10 : decode prog_5_method_4_code 10 = .ok (.getfield 13, 3) := by decide +kernel
theorem d9_13 : decode prog_5_method_4_code 13 = .ok (.putfield 13, 3) := by decide +kernel
theorem d9_16 : decode prog_5_method_4_code 16 = .ok (.aload_n 0, 1) := by decide +kernel
theorem d9_17 : decode prog_5_method_4_code 17 = .ok (.aload_n 1, 1) := by decide +kernel
theorem d9_18 : decode prog_5_method_4_code 18 = .ok (.getfield 20, 3) := by decide +kernel
theorem d9_21 : decode prog_5_method_4_code 21 = .ok (.putfield 20, 3) := by decide +kernel
theorem d9_24 : decode prog_5_method_4_code 24 = .ok (.aload_n 0, 1) := by decide +kernel
theorem d9_25 : decode prog_5_method_4_code 25 = .ok (.aload_n 1, 1) := by decide +kernel
theorem d9_26 : decode prog_5_method_4_code 26 = .ok (.getfield 16, 3) := by decide +kernel
theorem d9_29 : decode prog_5_method_4_code 29 = .ok (.putfield 16, 3) := by decide +kernel
theorem d9_32 : decode prog_5_method_4_code 32 = .ok (.return_, 1) := by decide +kernel
set_option maxRecDepth 65536 in
set_option maxHeartbeats 40000000 in
theorem con_move (l : Launch) (Z : State) (a0 : Array Value) (hw : ∀ d ∈ tables_1, d.before a0 Z = true) (h0 : Heap) (ds : Wd) (j j2 : Nat) (p1 p2 : Addr) (line col x11 aft line2 col2 x112 aft2 : Int32) (hne : j ≠ j2) (hi : ds[j]? = some (p1, OB Z a0 "com/example/revalidate/revalidate/DocumentDecoder$Place" [("com/example/revalidate/revalidate/DocumentDecoder$Place", "line", "I", (.int line)), ("com/example/revalidate/revalidate/DocumentDecoder$Place", "column", "I", (.int col)), ("com/example/revalidate/revalidate/DocumentDecoder$Place", "xml11", "Z", (.int x11)), ("com/example/revalidate/revalidate/DocumentDecoder$Place", "afterReturn", "Z", (.int aft))])) (hi2 : ds[j2]? = some (p2, OB Z a0 "com/example/revalidate/revalidate/DocumentDecoder$Place" [("com/example/revalidate/revalidate/DocumentDecoder$Place", "line", "I", (.int line2)), ("com/example/revalidate/revalidate/DocumentDecoder$Place", "column", "I", (.int col2)), ("com/example/revalidate/revalidate/DocumentDecoder$Place", "xml11", "Z", (.int x112)), ("com/example/revalidate/revalidate/DocumentDecoder$Place", "afterReturn", "Z", (.int aft2))])) :
    Con l Z (⟨"com/example/revalidate/revalidate/DocumentDecoder$Place", "moveTo", "(Lcom/example/revalidate/revalidate/DocumentDecoder$Place;)V"⟩ : MethodName) prog_5_method_4_code 2 none ({ frames := 0, cells := 0, slots := 0, locals := 0 } : Room) h0 #[(.ref p1), (.ref p2)] ds (fun v ds' => v = none ∧ ds.set j (p1, OB Z a0 "com/example/revalidate/revalidate/DocumentDecoder$Place" [("com/example/revalidate/revalidate/DocumentDecoder$Place", "line", "I", (.int line2)), ("com/example/revalidate/revalidate/DocumentDecoder$Place", "column", "I", (.int col2)), ("com/example/revalidate/revalidate/DocumentDecoder$Place", "xml11", "Z", (.int (nar .boolean x112))), ("com/example/revalidate/revalidate/DocumentDecoder$Place", "afterReturn", "Z", (.int (nar .boolean aft2)))]) = ds') := by
  refine con_of (a0 := a0) (Ls := #[.val (.ref p1), .val (.ref p2)]) (plainFor_of_name (by first | (simp [plainName, overriddenIn]; done) | decide +kernel)) hw (fun m => by first | (simp [entryFrame, mkF, argsToLocals, Value.category]; done) | rfl) ?_
  intro p e s m below meth c C
  refine g_aloadN C 1 d9_0 rfl rfl rfl ?_
  refine g_aloadN C 2 d9_1 rfl rfl rfl ?_
  refine g_getfield C 5 (j := 0) hi2 rfl d9_2 rfl (List.mem_of_getElem? (i := 18) rfl) ?_
  refine g_putfield C 8 (i := j) (j := 0) (ty := .int) [("com/example/revalidate/revalidate/DocumentDecoder$Place", "line", "I", (.int line2)), ("com/example/revalidate/revalidate/DocumentDecoder$Place", "column", "I", (.int col)), ("com/example/revalidate/revalidate/DocumentDecoder$Place", "xml11", "Z", (.int x11)), ("com/example/revalidate/revalidate/DocumentDecoder$Place", "afterReturn", "Z", (.int aft))] (ds.set j (p1, OB Z a0 "com/example/revalidate/revalidate/DocumentDecoder$Place" [("com/example/revalidate/revalidate/DocumentDecoder$Place", "line", "I", (.int line2)), ("com/example/revalidate/revalidate/DocumentDecoder$Place", "column", "I", (.int col)), ("com/example/revalidate/revalidate/DocumentDecoder$Place", "xml11", "Z", (.int x11)), ("com/example/revalidate/revalidate/DocumentDecoder$Place", "afterReturn", "Z", (.int aft))])) hi rfl d9_5 rfl (List.mem_of_getElem? (i := 18) rfl) (Or.inl (List.mem_of_getElem? (i := 19) rfl)) (List.mem_of_getElem? (i := 10) rfl) (by decide) rfl rfl (by simp) rfl rfl ?_
  refine g_aloadN C 9 d9_8 rfl rfl rfl ?_
  refine g_aloadN C 10 d9_9 rfl rfl rfl ?_
  refine g_getfield C 13 (j := 1) (set_other hne hi2) rfl d9_10 rfl (List.mem_of_getElem? (i := 20) rfl) ?_
  refine g_putfield C 16 (i := j) (j := 1) (ty := .int) [("com/example/revalidate/revalidate/DocumentDecoder$Place", "line", "I", (.int line2)), ("com/example/revalidate/revalidate/DocumentDecoder$Place", "column", "I", (.int col2)), ("com/example/revalidate/revalidate/DocumentDecoder$Place", "xml11", "Z", (.int x11)), ("com/example/revalidate/revalidate/DocumentDecoder$Place", "afterReturn", "Z", (.int aft))] (ds.set j (p1, OB Z a0 "com/example/revalidate/revalidate/DocumentDecoder$Place" [("com/example/revalidate/revalidate/DocumentDecoder$Place", "line", "I", (.int line2)), ("com/example/revalidate/revalidate/DocumentDecoder$Place", "column", "I", (.int col2)), ("com/example/revalidate/revalidate/DocumentDecoder$Place", "xml11", "Z", (.int x11)), ("com/example/revalidate/revalidate/DocumentDecoder$Place", "afterReturn", "Z", (.int aft))])) (set_same hi) rfl d9_13 rfl (List.mem_of_getElem? (i := 20) rfl) (Or.inl (List.mem_of_getElem? (i := 21) rfl)) (List.mem_of_getElem? (i := 10) rfl) (by decide) rfl rfl (by simp) rfl (List.set_set _) ?_
  refine g_aloadN C 17 d9_16 rfl rfl rfl ?_
  refine g_aloadN C 18 d9_17 rfl rfl rfl ?_
  refine g_getfield C 21 (j := 3) (set_other hne hi2) rfl d9_18 rfl (List.mem_of_getElem? (i := 34) rfl) ?_
  refine g_putfield C 24 (i := j) (j := 3) (ty := .boolean) [("com/example/revalidate/revalidate/DocumentDecoder$Place", "line", "I", (.int line2)), ("com/example/revalidate/revalidate/DocumentDecoder$Place", "column", "I", (.int col2)), ("com/example/revalidate/revalidate/DocumentDecoder$Place", "xml11", "Z", (.int x11)), ("com/example/revalidate/revalidate/DocumentDecoder$Place", "afterReturn", "Z", (.int (nar .boolean aft2)))] (ds.set j (p1, OB Z a0 "com/example/revalidate/revalidate/DocumentDecoder$Place" [("com/example/revalidate/revalidate/DocumentDecoder$Place", "line", "I", (.int line2)), ("com/example/revalidate/revalidate/DocumentDecoder$Place", "column", "I", (.int col2)), ("com/example/revalidate/revalidate/DocumentDecoder$Place", "xml11", "Z", (.int x11)), ("com/example/revalidate/revalidate/DocumentDecoder$Place", "afterReturn", "Z", (.int (nar .boolean aft2)))])) (set_same hi) rfl d9_21 rfl (List.mem_of_getElem? (i := 34) rfl) (Or.inl (List.mem_of_getElem? (i := 35) rfl)) (List.mem_of_getElem? (i := 10) rfl) (by decide) rfl (fits_nar_bool _) (by simp) rfl (List.set_set _) ?_
  refine g_aloadN C 25 d9_24 rfl rfl rfl ?_
  refine g_aloadN C 26 d9_25 rfl rfl rfl ?_
  refine g_getfield C 29 (j := 2) (set_other hne hi2) rfl d9_26 rfl (List.mem_of_getElem? (i := 27) rfl) ?_
  refine g_putfield C 32 (i := j) (j := 2) (ty := .boolean) [("com/example/revalidate/revalidate/DocumentDecoder$Place", "line", "I", (.int line2)), ("com/example/revalidate/revalidate/DocumentDecoder$Place", "column", "I", (.int col2)), ("com/example/revalidate/revalidate/DocumentDecoder$Place", "xml11", "Z", (.int (nar .boolean x112))), ("com/example/revalidate/revalidate/DocumentDecoder$Place", "afterReturn", "Z", (.int (nar .boolean aft2)))] (ds.set j (p1, OB Z a0 "com/example/revalidate/revalidate/DocumentDecoder$Place" [("com/example/revalidate/revalidate/DocumentDecoder$Place", "line", "I", (.int line2)), ("com/example/revalidate/revalidate/DocumentDecoder$Place", "column", "I", (.int col2)), ("com/example/revalidate/revalidate/DocumentDecoder$Place", "xml11", "Z", (.int (nar .boolean x112))), ("com/example/revalidate/revalidate/DocumentDecoder$Place", "afterReturn", "Z", (.int (nar .boolean aft2)))])) (set_same hi) rfl d9_29 rfl (List.mem_of_getElem? (i := 27) rfl) (Or.inl (List.mem_of_getElem? (i := 28) rfl)) (List.mem_of_getElem? (i := 10) rfl) (by decide) rfl (fits_nar_bool _) (by simp) rfl (List.set_set _) ?_
  exact g_ret C d9_32 (by decide) (by decide) ⟨rfl, rfl⟩
theorem d6_0 : decode prog_5_method_2_code 0 = .ok (.aload_n 0, 1) := by decide +kernel
theorem d6_1 : decode prog_5_method_2_code 1 = .ok (.getfield 16, 3) := by decide +kernel
theorem d6_4 : decode prog_5_method_2_code 4 = .ok (.istore 4, 2) := by decide +kernel
theorem d6_6 : decode prog_5_method_2_code 6 = .ok (.aload_n 0, 1) := by decide +kernel
theorem d6_7 : decode prog_5_method_2_code 7 = .ok (.getfield 7, 3) := by decide +kernel
theorem d6_10 : decode prog_5_method_2_code 10 = .ok (.istore 5, 2) := by decide +kernel
theorem d6_12 : decode prog_5_method_2_code 12 = .ok (.iload_n 2, 1) := by decide +kernel
theorem d6_13 : decode prog_5_method_2_code 13 = .ok (.aload_n 0, 1) := by decide +kernel
theorem d6_14 : decode prog_5_method_2_code 14 = .ok (.getfield 13, 3) := by decide +kernel
theorem d6_17 : decode prog_5_method_2_code 17 = .ok (.isub, 1) := by decide +kernel
theorem d6_18 : decode prog_5_method_2_code 18 = .ok (.iconst 1, 1) := by decide +kernel
theorem d6_19 : decode prog_5_method_2_code 19 = .ok (.iadd, 1) := by decide +kernel
theorem d6_20 : decode prog_5_method_2_code 20 = .ok (.istore 6, 2) := by decide +kernel
theorem d6_22 : decode prog_5_method_2_code 22 = .ok (.iload_n 2, 1) := by decide +kernel
theorem d6_23 : decode prog_5_method_2_code 23 = .ok (.istore 7, 2) := by decide +kernel
theorem d6_25 : decode prog_5_method_2_code 25 = .ok (.iload 7, 2) := by decide +kernel
theorem d6_27 : decode prog_5_method_2_code 27 = .ok (.iload_n 3, 1) := by decide +kernel
theorem d6_28 : decode prog_5_method_2_code 28 = .ok (.if_icmp .ge 120, 3) := by decide +kernel
theorem d6_31 : decode prog_5_method_2_code 31 = .ok (.aload_n 1, 1) := by decide +kernel
theorem d6_32 : decode prog_5_method_2_code 32 = .ok (.iload 7, 2) := by decide +kernel
theorem d6_34 : decode prog_5_method_2_code 34 = .ok (.caload, 1) := by decide +kernel
theorem d6_35 : decode prog_5_method_2_code 35 = .ok (.istore 8, 2) := by decide +kernel
theorem d6_37 : decode prog_5_method_2_code 37 = .ok (.iload 8, 2) := by decide +kernel
theorem d6_39 : decode prog_5_method_2_code 39 = .ok (.bipush 10, 2) := by decide +kernel
theorem d6_41 : decode prog_5_method_2_code 41 = .ok (.if_icmp .eq 31, 3) := by decide +kernel
theorem d6_44 : decode prog_5_method_2_code 44 = .ok (.iload 8, 2) := by decide +kernel
theorem d6_46 : decode prog_5_method_2_code 46 = .ok (.bipush 13, 2) := by decide +kernel
theorem d6_48 : decode prog_5_method_2_code 48 = .ok (.if_icmp .eq 24, 3) := by decide +kernel
theorem d6_51 : decode prog_5_method_2_code 51 = .ok (.iload 4, 2) := by decide +kernel
theorem d6_53 : decode prog_5_method_2_code 53 = .ok (.ifCond .eq 89, 3) := by decide +kernel
theorem d6_56 : decode prog_5_method_2_code 56 = .ok (.iload 8, 2) := by decide +kernel
theorem d6_58 : decode prog_5_method_2_code 58 = .ok (.sipush 133, 3) := by decide +kernel
theorem d6_61 : decode prog_5_method_2_code 61 = .ok (.if_icmp .eq 11, 3) := by decide +kernel
theorem d6_64 : decode prog_5_method_2_code 64 = .ok (.iload 8, 2) := by decide +kernel
theorem d6_66 : decode prog_5_method_2_code 66 = .ok (.sipush 8232, 3) := by decide +kernel
theorem d6_69 : decode prog_5_method_2_code 69 = .ok (.if_icmp .ne 73, 3) := by decide +kernel
theorem d6_72 : decode prog_5_method_2_code 72 = .ok (.iload 8, 2) := by decide +kernel
theorem d6_74 : decode prog_5_method_2_code 74 = .ok (.bipush 10, 2) := by decide +kernel
theorem d6_76 : decode prog_5_method_2_code 76 = .ok (.if_icmp .eq 11, 3) := by decide +kernel
theorem d6_79 : decode prog_5_method_2_code 79 = .ok (.iload 8, 2) := by decide +kernel
theorem d6_81 : decode prog_5_method_2_code 81 = .ok (.sipush 133, 3) := by decide +kernel
theorem d6_84 : decode prog_5_method_2_code 84 = .ok (.if_icmp .ne 34, 3) := by decide +kernel
theorem d6_87 : decode prog_5_method_2_code 87 = .ok (.iload 7, 2) := by decide +kernel
theorem d6_89 : decode prog_5_method_2_code 89 = .ok (.iload_n 2, 1) := by decide +kernel
theorem d6_90 : decode prog_5_method_2_code 90 = .ok (.if_icmp .ne 13, 3) := by decide +kernel
theorem d6_93 : decode prog_5_method_2_code 93 = .ok (.aload_n 0, 1) := by decide +kernel
theorem d6_94 : decode prog_5_method_2_code 94 = .ok (.getfield 20, 3) := by decide +kernel
theorem d6_97 : decode prog_5_method_2_code 97 = .ok (.ifCond .eq 21, 3) := by decide +kernel
theorem d6_100 : decode prog_5_method_2_code 100 = .ok (.goto 14, 3) := by decide +kernel
theorem d6_103 : decode prog_5_method_2_code 103 = .ok (.aload_n 1, 1) := by decide +kernel
theorem d6_104 : decode prog_5_method_2_code 104 = .ok (.iload 7, 2) := by decide +kernel
theorem d6_106 : decode prog_5_method_2_code 106 = .ok (.iconst 1, 1) := by decide +kernel
theorem d6_107 : decode prog_5_method_2_code 107 = .ok (.isub, 1) := by decide +kernel
theorem d6_108 : decode prog_5_method_2_code 108 = .ok (.caload, 1) := by decide +kernel
theorem d6_109 : decode prog_5_method_2_code 109 = .ok (.bipush 13, 2) := by decide +kernel
theorem d6_111 : decode prog_5_method_2_code 111 = .ok (.if_icmp .ne 7, 3) := by decide +kernel
theorem d6_114 : decode prog_5_method_2_code 114 = .ok (.iconst 1, 1) := by decide +kernel
theorem d6_115 : decode prog_5_method_2_code 115 = .ok (.goto 4, 3) := by decide +kernel
theorem d6_118 : decode prog_5_method_2_code 118 = .ok (.iconst 0, 1) := by decide +kernel
theorem d6_119 : decode prog_5_method_2_code 119 = .ok (.istore 9, 2) := by decide +kernel
theorem d6_121 : decode prog_5_method_2_code 121 = .ok (.iload 5, 2) := by decide +kernel
theorem d6_123 : decode prog_5_method_2_code 123 = .ok (.iload 9, 2) := by decide +kernel
theorem d6_125 : decode prog_5_method_2_code 125 = .ok (.ifCond .eq 7, 3) := by decide +kernel
theorem d6_128 : decode prog_5_method_2_code 128 = .ok (.iconst 0, 1) := by decide +kernel
theorem d6_129 : decode prog_5_method_2_code 129 = .ok (.goto 4, 3) := by decide +kernel
theorem d6_132 : decode prog_5_method_2_code 132 = .ok (.iconst 1, 1) := by decide +kernel
theorem d6_133 : decode prog_5_method_2_code 133 = .ok (.iadd, 1) := by decide +kernel
theorem d6_134 : decode prog_5_method_2_code 134 = .ok (.istore 5, 2) := by decide +kernel
theorem d6_136 : decode prog_5_method_2_code 136 = .ok (.iload 7, 2) := by decide +kernel
theorem d6_138 : decode prog_5_method_2_code 138 = .ok (.iconst 1, 1) := by decide +kernel
theorem d6_139 : decode prog_5_method_2_code 139 = .ok (.iadd, 1) := by decide +kernel
theorem d6_140 : decode prog_5_method_2_code 140 = .ok (.istore 6, 2) := by decide +kernel
theorem d6_142 : decode prog_5_method_2_code 142 = .ok (.iinc 7 1, 3) := by decide +kernel
theorem d6_145 : decode prog_5_method_2_code 145 = .ok (.goto (-120), 3) := by decide +kernel
theorem d6_148 : decode prog_5_method_2_code 148 = .ok (.aload_n 0, 1) := by decide +kernel
theorem d6_149 : decode prog_5_method_2_code 149 = .ok (.iload 5, 2) := by decide +kernel
theorem d6_151 : decode prog_5_method_2_code 151 = .ok (.putfield 7, 3) := by decide +kernel
theorem d6_154 : decode prog_5_method_2_code 154 = .ok (.aload_n 0, 1) := by decide +kernel
theorem d6_155 : decode prog_5_method_2_code 155 = .ok (.iload_n 3, 1) := by decide +kernel
theorem d6_156 : decode prog_5_method_2_code 156 = .ok (.iload 6, 2) := by decide +kernel
theorem d6_158 : decode prog_5_method_2_code 158 = .ok (.isub, 1) := by decide +kernel
theorem d6_159 : decode prog_5_method_2_code 159 = .ok (.iconst 1, 1) := by decide +kernel
theorem d6_160 : decode prog_5_method_2_code 160 = .ok (.iadd, 1) := by decide +kernel
theorem d6_161 : decode prog_5_method_2_code 161 = .ok (.putfield 13, 3) := by decide +kernel
theorem d6_164 : decode prog_5_method_2_code 164 = .ok (.aload_n 0, 1) := by decide +kernel
theorem d6_165 : decode prog_5_method_2_code 165 = .ok (.iload_n 3, 1) := by decide +kernel
theorem d6_166 : decode prog_5_method_2_code 166 = .ok (.iload_n 2, 1) := by decide +kernel
theorem d6_167 : decode prog_5_method_2_code 167 = .ok (.if_icmp .le 21, 3) := by decide +kernel
theorem d6_170 : decode prog_5_method_2_code 170 = .ok (.aload_n 1, 1) := by decide +kernel
theorem d6_171 : decode prog_5_method_2_code 171 = .ok (.iload_n 3, 1) := by decide +kernel
theorem d6_172 : decode prog_5_method_2_code 172 = .ok (.iconst 1, 1) := by decide +kernel
theorem d6_173 : decode prog_5_method_2_code 173 = .ok (.isub, 1) := by decide +kernel
theorem d6_174 : decode prog_5_method_2_code 174 = .ok (.caload, 1) := by decide +kernel
theorem d6_175 : decode prog_5_method_2_code 175 = .ok (.bipush 13, 2) := by decide +kernel
theorem d6_177 : decode prog_5_method_2_code 177 = .ok (.if_icmp .ne 7, 3) := by decide +kernel
theorem d6_180 : decode prog_5_method_2_code 180 = .ok (.iconst 1, 1) := by decide +kernel
theorem d6_181 : decode prog_5_method_2_code 181 = .ok (.goto 11, 3) := by decide +kernel
theorem d6_184 : decode prog_5_method_2_code 184 = .ok (.iconst 0, 1) := by decide +kernel
theorem d6_185 : decode prog_5_method_2_code 185 = .ok (.goto 7, 3) := by decide +kernel
theorem d6_188 : decode prog_5_method_2_code 188 = .ok (.aload_n 0, 1) := by decide +kernel
theorem d6_189 : decode prog_5_method_2_code 189 = .ok (.getfield 20, 3) := by decide +kernel
theorem d6_192 : decode prog_5_method_2_code 192 = .ok (.putfield 20, 3) := by decide +kernel
theorem d6_195 : decode prog_5_method_2_code 195 = .ok (.return_, 1) := by decide +kernel
def P25 (cs : List Int32) (x11 aft x2 x3 : Int32) : Nat → Int32 → Int32 → Int32 → Option (Int32 × Int32)
  | 0, _, _, _ => none
  | fuel + 1, ln, ls, k => (if k < x3 then (if inb cs k = true then (if (el cs k) = (10 : Int32) then (if k = x2 then (if aft = (0 : Int32) then (P25 cs x11 aft x2 x3 fuel (ln + (1 : Int32)) (k + (1 : Int32)) (k + (1 : Int32))) else (P25 cs x11 aft x2 x3 fuel (ln + (0 : Int32)) (k + (1 : Int32)) (k + (1 : Int32)))) else (if inb cs (k - (1 : Int32)) = true then (if (el cs (k - (1 : Int32))) = (13 : Int32) then (P25 cs x11 aft x2 x3 fuel (ln + (0 : Int32)) (k + (1 : Int32)) (k + (1 : Int32))) else (P25 cs x11 aft x2 x3 fuel (ln + (1 : Int32)) (k + (1 : Int32)) (k + (1 : Int32)))) else none)) else (if (el cs k) = (13 : Int32) then (P25 cs x11 aft x2 x3 fuel (ln + (1 : Int32)) (k + (1 : Int32)) (k + (1 : Int32))) else (if x11 = (0 : Int32) then (P25 cs x11 aft x2 x3 fuel ln ls (k + (1 : Int32))) else (if (el cs k) = (133 : Int32) then (if k = x2 then (if aft = (0 : Int32) then (P25 cs x11 aft x2 x3 fuel (ln + (1 : Int32)) (k + (1 : Int32)) (k + (1 : Int32))) else (P25 cs x11 aft x2 x3 fuel (ln + (0 : Int32)) (k + (1 : Int32)) (k + (1 : Int32)))) else (if inb cs (k - (1 : Int32)) = true then (if (el cs (k - (1 : Int32))) = (13 : Int32) then (P25 cs x11 aft x2 x3 fuel (ln + (0 : Int32)) (k + (1 : Int32)) (k + (1 : Int32))) else (P25 cs x11 aft x2 x3 fuel (ln + (1 : Int32)) (k + (1 : Int32)) (k + (1 : Int32)))) else none)) else (if (el cs k) = (8232 : Int32) then (P25 cs x11 aft x2 x3 fuel (ln + (1 : Int32)) (k + (1 : Int32)) (k + (1 : Int32))) else (P25 cs x11 aft x2 x3 fuel ln ls (k + (1 : Int32)))))))) else none) else some (ln, ls))
def passA (cs : List Int32) (x2 x3 aft : Int32) : Int32 := if x2 < x3 then (if el cs (x3 - (1 : Int32)) = (13 : Int32) then (1 : Int32) else (0 : Int32)) else (nar .boolean aft)
set_option maxRecDepth 65536 in
set_option maxHeartbeats 40000000 in
theorem con_pass (l : Launch) (Z : State) (a0 : Array Value) (hw : ∀ d ∈ tables_1, d.before a0 Z = true) (h0 : Heap) (ds : Wd) (i1 j : Nat) (t1 p1 : Addr) (cs : List Int32) (x2 x3 line col x11 aft r1 r2 : Int32) (FUEL : Nat) (hne : j ≠ i1) (ht : ds[i1]? = some (t1, IA Z .char (ints cs))) (hi : ds[j]? = some (p1, OB Z a0 "com/example/revalidate/revalidate/DocumentDecoder$Place" [("com/example/revalidate/revalidate/DocumentDecoder$Place", "line", "I", (.int line)), ("com/example/revalidate/revalidate/DocumentDecoder$Place", "column", "I", (.int col)), ("com/example/revalidate/revalidate/DocumentDecoder$Place", "xml11", "Z", (.int x11)), ("com/example/revalidate/revalidate/DocumentDecoder$Place", "afterReturn", "Z", (.int aft))])) (hT : P25 cs x11 aft x2 x3 FUEL line ((x2 - col) + (1 : Int32)) x2 = some (r1, r2)) (hl : x2 < x3 → inb cs (x3 - (1 : Int32)) = true) :
    Con l Z (⟨"com/example/revalidate/revalidate/DocumentDecoder$Place", "pass", "([CII)V"⟩ : MethodName) prog_5_method_2_code 10 none ({ frames := 0, cells := 0, slots := 0, locals := 0 } : Room) h0 #[(.ref p1), (.ref t1), (.int x2), (.int x3)] ds (fun v ds' => v = none ∧ ds.set j (p1, OB Z a0 "com/example/revalidate/revalidate/DocumentDecoder$Place" [("com/example/revalidate/revalidate/DocumentDecoder$Place", "line", "I", (.int r1)), ("com/example/revalidate/revalidate/DocumentDecoder$Place", "column", "I", (.int ((x3 - r2) + (1 : Int32)))), ("com/example/revalidate/revalidate/DocumentDecoder$Place", "xml11", "Z", (.int x11)), ("com/example/revalidate/revalidate/DocumentDecoder$Place", "afterReturn", "Z", (.int (passA cs x2 x3 aft)))]) = ds') := by
  refine con_of (a0 := a0) (Ls := #[.val (.ref p1), .val (.ref t1), .val (.int x2), .val (.int x3), .unset, .unset, .unset, .unset, .unset, .unset]) (plainFor_of_name (by first | (simp [plainName, overriddenIn]; done) | decide +kernel)) hw (fun m => by first | (simp [entryFrame, mkF, argsToLocals, Value.category]; done) | rfl) ?_
  intro p e s m below meth c C
  refine g_aloadN C 1 d6_0 rfl rfl rfl ?_
  refine g_getfield C 4 (j := 2) hi rfl d6_1 rfl (List.mem_of_getElem? (i := 27) rfl) ?_
  refine g_istore C 6 #[.val (.ref p1), .val (.ref t1), .val (.int x2), .val (.int x3), .val (.int x11), .unset, .unset, .unset, .unset, .unset] d6_4 rfl rfl ?_
  refine g_aloadN C 7 d6_6 rfl rfl rfl ?_
  refine g_getfield C 10 (j := 0) hi rfl d6_7 rfl (List.mem_of_getElem? (i := 18) rfl) ?_
  refine g_istore C 12 #[.val (.ref p1), .val (.ref t1), .val (.int x2), .val (.int x3), .val (.int x11), .val (.int line), .unset, .unset, .unset, .unset] d6_10 rfl rfl ?_
  refine g_iloadN C 13 d6_12 rfl rfl ?_
  refine g_aloadN C 14 d6_13 rfl rfl rfl ?_
  refine g_getfield C 17 (j := 1) hi rfl d6_14 rfl (List.mem_of_getElem? (i := 20) rfl) ?_
  refine g_isub C 18 d6_17 rfl ?_
  refine g_iconst C 19 (1 : Int32) d6_18 rfl rfl ?_
  refine g_iadd C 20 d6_19 rfl ?_
  refine g_istore C 22 #[.val (.ref p1), .val (.ref t1), .val (.int x2), .val (.int x3), .val (.int x11), .val (.int line), .val (.int ((x2 - col) + (1 : Int32))), .unset, .unset, .unset] d6_20 rfl rfl ?_
  refine g_iloadN C 23 d6_22 rfl rfl ?_
  refine g_istore C 25 #[.val (.ref p1), .val (.ref t1), .val (.int x2), .val (.int x3), .val (.int x11), .val (.int line), .val (.int ((x2 - col) + (1 : Int32))), .val (.int x2), .unset, .unset] d6_23 rfl rfl ?_
  have H25 : ∀ (fuel : Nat) (ln ls k : Int32) (s8 s9 : Slot), One s8 → One s9 → P25 cs x11 aft x2 x3 fuel ln ls k = some (r1, r2) → (∀ (k : Int32) (s8 s9 : Slot), Go p l e ({ frames := 0, cells := 0, slots := 0, locals := 0 } : Room) s m #[(.ref p1), (.ref t1), (.int x2), (.int x3)] below meth c h0 (fun v ds' => v = none ∧ ds.set j (p1, OB Z a0 "com/example/revalidate/revalidate/DocumentDecoder$Place" [("com/example/revalidate/revalidate/DocumentDecoder$Place", "line", "I", (.int r1)), ("com/example/revalidate/revalidate/DocumentDecoder$Place", "column", "I", (.int ((x3 - r2) + (1 : Int32)))), ("com/example/revalidate/revalidate/DocumentDecoder$Place", "xml11", "Z", (.int x11)), ("com/example/revalidate/revalidate/DocumentDecoder$Place", "afterReturn", "Z", (.int (passA cs x2 x3 aft)))]) = ds') ds 0 0 148 #[.val (.ref p1), .val (.ref t1), .val (.int x2), .val (.int x3), .val (.int x11), .val (.int r1), .val (.int r2), .val (.int k), s8, s9] []) → Go p l e ({ frames := 0, cells := 0, slots := 0, locals := 0 } : Room) s m #[(.ref p1), (.ref t1), (.int x2), (.int x3)] below meth c h0 (fun v ds' => v = none ∧ ds.set j (p1, OB Z a0 "com/example/revalidate/revalidate/DocumentDecoder$Place" [("com/example/revalidate/revalidate/DocumentDecoder$Place", "line", "I", (.int r1)), ("com/example/revalidate/revalidate/DocumentDecoder$Place", "column", "I", (.int ((x3 - r2) + (1 : Int32)))), ("com/example/revalidate/revalidate/DocumentDecoder$Place", "xml11", "Z", (.int x11)), ("com/example/revalidate/revalidate/DocumentDecoder$Place", "afterReturn", "Z", (.int (passA cs x2 x3 aft)))]) = ds') ds 0 0 25 #[.val (.ref p1), .val (.ref t1), .val (.int x2), .val (.int x3), .val (.int x11), .val (.int ln), .val (.int ls), .val (.int k), s8, s9] [] := by
    intro fuel
    induction fuel with
    | zero => intro ln ls k s8 s9 hs8 hs9 hT; exact absurd hT (by rw [P25]; first | done | exact nofun)
    | succ fuel ih =>
      intro ln ls k s8 s9 hs8 hs9 hT K
      refine g_iload C 27 d6_25 rfl rfl ?_
      refine g_iloadN C 28 d6_27 rfl rfl ?_
      by_cases c1 : k < x3
      · refine g_icN C 31 d6_28 (tlt c1).2.1 rfl ?_
        refine g_aloadN C 32 d6_31 rfl rfl rfl ?_
        refine g_iload C 34 d6_32 rfl rfl ?_
        by_cases b2 : inb cs k = true
        case neg => exact absurd hT (by rw [P25, if_pos c1, if_neg b2]; first | done | exact nofun)
        refine g_caload C 35 ht d6_34 rfl (inb_nn b2) (el cs k) (el_get b2) ?_
        refine g_istore C 37 #[.val (.ref p1), .val (.ref t1), .val (.int x2), .val (.int x3), .val (.int x11), .val (.int ln), .val (.int ls), .val (.int k), .val (.int (el cs k)), s9] d6_35 rfl (XS.store1 rfl hs8 rfl) ?_
        refine g_iload C 39 d6_37 rfl rfl ?_
        refine g_bipush C 41 (10 : Int32) d6_39 rfl rfl ?_
        by_cases c3 : (el cs k) = (10 : Int32)
        · refine g_icY C 72 d6_41 (teq c3).1 (by decide) (by decide) ?_
          refine g_iload C 74 d6_72 rfl rfl ?_
          refine g_bipush C 76 (10 : Int32) d6_74 rfl rfl ?_
          refine g_icY C 87 d6_76 (teq (c3 : (el cs k) = (10 : Int32))).1 (by decide) (by decide) ?_
          refine g_iload C 89 d6_87 rfl rfl ?_
          refine g_iloadN C 90 d6_89 rfl rfl ?_
          by_cases c4 : k = x2
          · refine g_icN C 93 d6_90 (teq c4).2 rfl ?_
            refine g_aloadN C 94 d6_93 rfl rfl rfl ?_
            refine g_getfield C 97 (j := 3) hi rfl d6_94 rfl (List.mem_of_getElem? (i := 34) rfl) ?_
            by_cases c5 : aft = (0 : Int32)
            · refine g_ifY C 118 d6_97 (teq c5).1 (by decide) (by decide) ?_
              refine g_iconst C 119 (0 : Int32) d6_118 rfl rfl ?_
              refine g_istore C 121 #[.val (.ref p1), .val (.ref t1), .val (.int x2), .val (.int x3), .val (.int x11), .val (.int ln), .val (.int ls), .val (.int k), .val (.int (el cs k)), .val (.int (0 : Int32))] d6_119 rfl (XS.store1 rfl hs9 rfl) ?_
              refine g_iload C 123 d6_121 rfl rfl ?_
              refine g_iload C 125 d6_123 rfl rfl ?_
              refine g_ifY C 132 d6_125 (teq ((by decide) : (0 : Int32) = (0 : Int32))).1 (by decide) (by decide) ?_
              refine g_iconst C 133 (1 : Int32) d6_132 rfl rfl ?_
              refine g_iadd C 134 d6_133 rfl ?_
              refine g_istore C 136 #[.val (.ref p1), .val (.ref t1), .val (.int x2), .val (.int x3), .val (.int x11), .val (.int (ln + (1 : Int32))), .val (.int ls), .val (.int k), .val (.int (el cs k)), .val (.int (0 : Int32))] d6_134 rfl rfl ?_
              refine g_iload C 138 d6_136 rfl rfl ?_
              refine g_iconst C 139 (1 : Int32) d6_138 rfl rfl ?_
              refine g_iadd C 140 d6_139 rfl ?_
              refine g_istore C 142 #[.val (.ref p1), .val (.ref t1), .val (.int x2), .val (.int x3), .val (.int x11), .val (.int (ln + (1 : Int32))), .val (.int (k + (1 : Int32))), .val (.int k), .val (.int (el cs k)), .val (.int (0 : Int32))] d6_140 rfl rfl ?_
              refine g_iinc C 145 (k + (1 : Int32)) #[.val (.ref p1), .val (.ref t1), .val (.int x2), .val (.int x3), .val (.int x11), .val (.int (ln + (1 : Int32))), .val (.int (k + (1 : Int32))), .val (.int (k + (1 : Int32))), .val (.int (el cs k)), .val (.int (0 : Int32))] d6_142 rfl rfl rfl rfl ?_
              refine g_goto C 25 d6_145 (by decide) (by decide) ?_
              exact ih _ _ _ _ _ (One.val rfl) (One.val rfl) (by rw [P25, if_pos c1, if_pos b2, if_pos c3, if_pos c4, if_pos c5] at hT; exact hT) K
            · refine g_ifN C 100 d6_97 (feq c5).1 rfl ?_
              refine g_goto C 114 d6_100 (by decide) (by decide) ?_
              refine g_iconst C 115 (1 : Int32) d6_114 rfl rfl ?_
              refine g_goto C 119 d6_115 (by decide) (by decide) ?_
              refine g_istore C 121 #[.val (.ref p1), .val (.ref t1), .val (.int x2), .val (.int x3), .val (.int x11), .val (.int ln), .val (.int ls), .val (.int k), .val (.int (el cs k)), .val (.int (1 : Int32))] d6_119 rfl (XS.store1 rfl hs9 rfl) ?_
              refine g_iload C 123 d6_121 rfl rfl ?_
              refine g_iload C 125 d6_123 rfl rfl ?_
              refine g_ifN C 128 d6_125 (feq ((by decide) : ¬ ((1 : Int32) = (0 : Int32)))).1 rfl ?_
              refine g_iconst C 129 (0 : Int32) d6_128 rfl rfl ?_
              refine g_goto C 133 d6_129 (by decide) (by decide) ?_
              refine g_iadd C 134 d6_133 rfl ?_
              refine g_istore C 136 #[.val (.ref p1), .val (.ref t1), .val (.int x2), .val (.int x3), .val (.int x11), .val (.int (ln + (0 : Int32))), .val (.int ls), .val (.int k), .val (.int (el cs k)), .val (.int (1 : Int32))] d6_134 rfl rfl ?_
              refine g_iload C 138 d6_136 rfl rfl ?_
              refine g_iconst C 139 (1 : Int32) d6_138 rfl rfl ?_
              refine g_iadd C 140 d6_139 rfl ?_
              refine g_istore C 142 #[.val (.ref p1), .val (.ref t1), .val (.int x2), .val (.int x3), .val (.int x11), .val (.int (ln + (0 : Int32))), .val (.int (k + (1 : Int32))), .val (.int k), .val (.int (el cs k)), .val (.int (1 : Int32))] d6_140 rfl rfl ?_
              refine g_iinc C 145 (k + (1 : Int32)) #[.val (.ref p1), .val (.ref t1), .val (.int x2), .val (.int x3), .val (.int x11), .val (.int (ln + (0 : Int32))), .val (.int (k + (1 : Int32))), .val (.int (k + (1 : Int32))), .val (.int (el cs k)), .val (.int (1 : Int32))] d6_142 rfl rfl rfl rfl ?_
              refine g_goto C 25 d6_145 (by decide) (by decide) ?_
              exact ih _ _ _ _ _ (One.val rfl) (One.val rfl) (by rw [P25, if_pos c1, if_pos b2, if_pos c3, if_pos c4, if_neg c5] at hT; exact hT) K
          · refine g_icY C 103 d6_90 (feq c4).2 (by decide) (by decide) ?_
            refine g_aloadN C 104 d6_103 rfl rfl rfl ?_
            refine g_iload C 106 d6_104 rfl rfl ?_
            refine g_iconst C 107 (1 : Int32) d6_106 rfl rfl ?_
            refine g_isub C 108 d6_107 rfl ?_
            by_cases b6 : inb cs (k - (1 : Int32)) = true
            case neg => exact absurd hT (by rw [P25, if_pos c1, if_pos b2, if_pos c3, if_neg c4, if_neg b6]; first | done | exact nofun)
            refine g_caload C 109 ht d6_108 rfl (inb_nn b6) (el cs (k - (1 : Int32))) (el_get b6) ?_
            refine g_bipush C 111 (13 : Int32) d6_109 rfl rfl ?_
            by_cases c7 : (el cs (k - (1 : Int32))) = (13 : Int32)
            · refine g_icN C 114 d6_111 (teq c7).2 rfl ?_
              refine g_iconst C 115 (1 : Int32) d6_114 rfl rfl ?_
              refine g_goto C 119 d6_115 (by decide) (by decide) ?_
              refine g_istore C 121 #[.val (.ref p1), .val (.ref t1), .val (.int x2), .val (.int x3), .val (.int x11), .val (.int ln), .val (.int ls), .val (.int k), .val (.int (el cs k)), .val (.int (1 : Int32))] d6_119 rfl (XS.store1 rfl hs9 rfl) ?_
              refine g_iload C 123 d6_121 rfl rfl ?_
              refine g_iload C 125 d6_123 rfl rfl ?_
              refine g_ifN C 128 d6_125 (feq ((by decide) : ¬ ((1 : Int32) = (0 : Int32)))).1 rfl ?_
              refine g_iconst C 129 (0 : Int32) d6_128 rfl rfl ?_
              refine g_goto C 133 d6_129 (by decide) (by decide) ?_
              refine g_iadd C 134 d6_133 rfl ?_
              refine g_istore C 136 #[.val (.ref p1), .val (.ref t1), .val (.int x2), .val (.int x3), .val (.int x11), .val (.int (ln + (0 : Int32))), .val (.int ls), .val (.int k), .val (.int (el cs k)), .val (.int (1 : Int32))] d6_134 rfl rfl ?_
              refine g_iload C 138 d6_136 rfl rfl ?_
              refine g_iconst C 139 (1 : Int32) d6_138 rfl rfl ?_
              refine g_iadd C 140 d6_139 rfl ?_
              refine g_istore C 142 #[.val (.ref p1), .val (.ref t1), .val (.int x2), .val (.int x3), .val (.int x11), .val (.int (ln + (0 : Int32))), .val (.int (k + (1 : Int32))), .val (.int k), .val (.int (el cs k)), .val (.int (1 : Int32))] d6_140 rfl rfl ?_
              refine g_iinc C 145 (k + (1 : Int32)) #[.val (.ref p1), .val (.ref t1), .val (.int x2), .val (.int x3), .val (.int x11), .val (.int (ln + (0 : Int32))), .val (.int (k + (1 : Int32))), .val (.int (k + (1 : Int32))), .val (.int (el cs k)), .val (.int (1 : Int32))] d6_142 rfl rfl rfl rfl ?_
              refine g_goto C 25 d6_145 (by decide) (by decide) ?_
              exact ih _ _ _ _ _ (One.val rfl) (One.val rfl) (by rw [P25, if_pos c1, if_pos b2, if_pos c3, if_neg c4, if_pos b6, if_pos c7] at hT; exact hT) K
            · refine g_icY C 118 d6_111 (feq c7).2 (by decide) (by decide) ?_
              refine g_iconst C 119 (0 : Int32) d6_118 rfl rfl ?_
              refine g_istore C 121 #[.val (.ref p1), .val (.ref t1), .val (.int x2), .val (.int x3), .val (.int x11), .val (.int ln), .val (.int ls), .val (.int k), .val (.int (el cs k)), .val (.int (0 : Int32))] d6_119 rfl (XS.store1 rfl hs9 rfl) ?_
              refine g_iload C 123 d6_121 rfl rfl ?_
              refine g_iload C 125 d6_123 rfl rfl ?_
              refine g_ifY C 132 d6_125 (teq ((by decide) : (0 : Int32) = (0 : Int32))).1 (by decide) (by decide) ?_
              refine g_iconst C 133 (1 : Int32) d6_132 rfl rfl ?_
              refine g_iadd C 134 d6_133 rfl ?_
              refine g_istore C 136 #[.val (.ref p1), .val (.ref t1), .val (.int x2), .val (.int x3), .val (.int x11), .val (.int (ln + (1 : Int32))), .val (.int ls), .val (.int k), .val (.int (el cs k)), .val (.int (0 : Int32))] d6_134 rfl rfl ?_
              refine g_iload C 138 d6_136 rfl rfl ?_
              refine g_iconst C 139 (1 : Int32) d6_138 rfl rfl ?_
              refine g_iadd C 140 d6_139 rfl ?_
              refine g_istore C 142 #[.val (.ref p1), .val (.ref t1), .val (.int x2), .val (.int x3), .val (.int x11), .val (.int (ln + (1 : Int32))), .val (.int (k + (1 : Int32))), .val (.int k), .val (.int (el cs k)), .val (.int (0 : Int32))] d6_140 rfl rfl ?_
              refine g_iinc C 145 (k + (1 : Int32)) #[.val (.ref p1), .val (.ref t1), .val (.int x2), .val (.int x3), .val (.int x11), .val (.int (ln + (1 : Int32))), .val (.int (k + (1 : Int32))), .val (.int (k + (1 : Int32))), .val (.int (el cs k)), .val (.int (0 : Int32))] d6_142 rfl rfl rfl rfl ?_
              refine g_goto C 25 d6_145 (by decide) (by decide) ?_
              exact ih _ _ _ _ _ (One.val rfl) (One.val rfl) (by rw [P25, if_pos c1, if_pos b2, if_pos c3, if_neg c4, if_pos b6, if_neg c7] at hT; exact hT) K
        · refine g_icN C 44 d6_41 (feq c3).1 rfl ?_
          refine g_iload C 46 d6_44 rfl rfl ?_
          refine g_bipush C 48 (13 : Int32) d6_46 rfl rfl ?_
          by_cases c8 : (el cs k) = (13 : Int32)
          · refine g_icY C 72 d6_48 (teq c8).1 (by decide) (by decide) ?_
            refine g_iload C 74 d6_72 rfl rfl ?_
            refine g_bipush C 76 (10 : Int32) d6_74 rfl rfl ?_
            refine g_icN C 79 d6_76 (feq (c3 : ¬ ((el cs k) = (10 : Int32)))).1 rfl ?_
            refine g_iload C 81 d6_79 rfl rfl ?_
            refine g_sipush C 84 (133 : Int32) d6_81 rfl rfl ?_
            refine g_icY C 118 d6_84 (feq (fun q => absurd (c8.symm.trans q) (by decide) : ¬ ((el cs k) = (133 : Int32)))).2 (by decide) (by decide) ?_
            refine g_iconst C 119 (0 : Int32) d6_118 rfl rfl ?_
            refine g_istore C 121 #[.val (.ref p1), .val (.ref t1), .val (.int x2), .val (.int x3), .val (.int x11), .val (.int ln), .val (.int ls), .val (.int k), .val (.int (el cs k)), .val (.int (0 : Int32))] d6_119 rfl (XS.store1 rfl hs9 rfl) ?_
            refine g_iload C 123 d6_121 rfl rfl ?_
            refine g_iload C 125 d6_123 rfl rfl ?_
            refine g_ifY C 132 d6_125 (teq ((by decide) : (0 : Int32) = (0 : Int32))).1 (by decide) (by decide) ?_
            refine g_iconst C 133 (1 : Int32) d6_132 rfl rfl ?_
            refine g_iadd C 134 d6_133 rfl ?_
            refine g_istore C 136 #[.val (.ref p1), .val (.ref t1), .val (.int x2), .val (.int x3), .val (.int x11), .val (.int (ln + (1 : Int32))), .val (.int ls), .val (.int k), .val (.int (el cs k)), .val (.int (0 : Int32))] d6_134 rfl rfl ?_
            refine g_iload C 138 d6_136 rfl rfl ?_
            refine g_iconst C 139 (1 : Int32) d6_138 rfl rfl ?_
            refine g_iadd C 140 d6_139 rfl ?_
            refine g_istore C 142 #[.val (.ref p1), .val (.ref t1), .val (.int x2), .val (.int x3), .val (.int x11), .val (.int (ln + (1 : Int32))), .val (.int (k + (1 : Int32))), .val (.int k), .val (.int (el cs k)), .val (.int (0 : Int32))] d6_140 rfl rfl ?_
            refine g_iinc C 145 (k + (1 : Int32)) #[.val (.ref p1), .val (.ref t1), .val (.int x2), .val (.int x3), .val (.int x11), .val (.int (ln + (1 : Int32))), .val (.int (k + (1 : Int32))), .val (.int (k + (1 : Int32))), .val (.int (el cs k)), .val (.int (0 : Int32))] d6_142 rfl rfl rfl rfl ?_
            refine g_goto C 25 d6_145 (by decide) (by decide) ?_
            exact ih _ _ _ _ _ (One.val rfl) (One.val rfl) (by rw [P25, if_pos c1, if_pos b2, if_neg c3, if_pos c8] at hT; exact hT) K
          · refine g_icN C 51 d6_48 (feq c8).1 rfl ?_
            refine g_iload C 53 d6_51 rfl rfl ?_
            by_cases c9 : x11 = (0 : Int32)
            · refine g_ifY C 142 d6_53 (teq c9).1 (by decide) (by decide) ?_
              refine g_iinc C 145 (k + (1 : Int32)) #[.val (.ref p1), .val (.ref t1), .val (.int x2), .val (.int x3), .val (.int x11), .val (.int ln), .val (.int ls), .val (.int (k + (1 : Int32))), .val (.int (el cs k)), s9] d6_142 rfl rfl rfl rfl ?_
              refine g_goto C 25 d6_145 (by decide) (by decide) ?_
              exact ih _ _ _ _ _ (One.val rfl) hs9 (by rw [P25, if_pos c1, if_pos b2, if_neg c3, if_neg c8, if_pos c9] at hT; exact hT) K
            · refine g_ifN C 56 d6_53 (feq c9).1 rfl ?_
              refine g_iload C 58 d6_56 rfl rfl ?_
              refine g_sipush C 61 (133 : Int32) d6_58 rfl rfl ?_
              by_cases c10 : (el cs k) = (133 : Int32)
              · refine g_icY C 72 d6_61 (teq c10).1 (by decide) (by decide) ?_
                refine g_iload C 74 d6_72 rfl rfl ?_
                refine g_bipush C 76 (10 : Int32) d6_74 rfl rfl ?_
                refine g_icN C 79 d6_76 (feq (c3 : ¬ ((el cs k) = (10 : Int32)))).1 rfl ?_
                refine g_iload C 81 d6_79 rfl rfl ?_
                refine g_sipush C 84 (133 : Int32) d6_81 rfl rfl ?_
                refine g_icN C 87 d6_84 (teq (c10 : (el cs k) = (133 : Int32))).2 rfl ?_
                refine g_iload C 89 d6_87 rfl rfl ?_
                refine g_iloadN C 90 d6_89 rfl rfl ?_
                by_cases c11 : k = x2
                · refine g_icN C 93 d6_90 (teq c11).2 rfl ?_
                  refine g_aloadN C 94 d6_93 rfl rfl rfl ?_
                  refine g_getfield C 97 (j := 3) hi rfl d6_94 rfl (List.mem_of_getElem? (i := 34) rfl) ?_
                  by_cases c12 : aft = (0 : Int32)
                  · refine g_ifY C 118 d6_97 (teq c12).1 (by decide) (by decide) ?_
                    refine g_iconst C 119 (0 : Int32) d6_118 rfl rfl ?_
                    refine g_istore C 121 #[.val (.ref p1), .val (.ref t1), .val (.int x2), .val (.int x3), .val (.int x11), .val (.int ln), .val (.int ls), .val (.int k), .val (.int (el cs k)), .val (.int (0 : Int32))] d6_119 rfl (XS.store1 rfl hs9 rfl) ?_
                    refine g_iload C 123 d6_121 rfl rfl ?_
                    refine g_iload C 125 d6_123 rfl rfl ?_
                    refine g_ifY C 132 d6_125 (teq ((by decide) : (0 : Int32) = (0 : Int32))).1 (by decide) (by decide) ?_
                    refine g_iconst C 133 (1 : Int32) d6_132 rfl rfl ?_
                    refine g_iadd C 134 d6_133 rfl ?_
                    refine g_istore C 136 #[.val (.ref p1), .val (.ref t1), .val (.int x2), .val (.int x3), .val (.int x11), .val (.int (ln + (1 : Int32))), .val (.int ls), .val (.int k), .val (.int (el cs k)), .val (.int (0 : Int32))] d6_134 rfl rfl ?_
                    refine g_iload C 138 d6_136 rfl rfl ?_
                    refine g_iconst C 139 (1 : Int32) d6_138 rfl rfl ?_
                    refine g_iadd C 140 d6_139 rfl ?_
                    refine g_istore C 142 #[.val (.ref p1), .val (.ref t1), .val (.int x2), .val (.int x3), .val (.int x11), .val (.int (ln + (1 : Int32))), .val (.int (k + (1 : Int32))), .val (.int k), .val (.int (el cs k)), .val (.int (0 : Int32))] d6_140 rfl rfl ?_
                    refine g_iinc C 145 (k + (1 : Int32)) #[.val (.ref p1), .val (.ref t1), .val (.int x2), .val (.int x3), .val (.int x11), .val (.int (ln + (1 : Int32))), .val (.int (k + (1 : Int32))), .val (.int (k + (1 : Int32))), .val (.int (el cs k)), .val (.int (0 : Int32))] d6_142 rfl rfl rfl rfl ?_
                    refine g_goto C 25 d6_145 (by decide) (by decide) ?_
                    exact ih _ _ _ _ _ (One.val rfl) (One.val rfl) (by rw [P25, if_pos c1, if_pos b2, if_neg c3, if_neg c8, if_neg c9, if_pos c10, if_pos c11, if_pos c12] at hT; exact hT) K
                  · refine g_ifN C 100 d6_97 (feq c12).1 rfl ?_
                    refine g_goto C 114 d6_100 (by decide) (by decide) ?_
                    refine g_iconst C 115 (1 : Int32) d6_114 rfl rfl ?_
                    refine g_goto C 119 d6_115 (by decide) (by decide) ?_
                    refine g_istore C 121 #[.val (.ref p1), .val (.ref t1), .val (.int x2), .val (.int x3), .val (.int x11), .val (.int ln), .val (.int ls), .val (.int k), .val (.int (el cs k)), .val (.int (1 : Int32))] d6_119 rfl (XS.store1 rfl hs9 rfl) ?_
                    refine g_iload C 123 d6_121 rfl rfl ?_
                    refine g_iload C 125 d6_123 rfl rfl ?_
                    refine g_ifN C 128 d6_125 (feq ((by decide) : ¬ ((1 : Int32) = (0 : Int32)))).1 rfl ?_
                    refine g_iconst C 129 (0 : Int32) d6_128 rfl rfl ?_
                    refine g_goto C 133 d6_129 (by decide) (by decide) ?_
                    refine g_iadd C 134 d6_133 rfl ?_
                    refine g_istore C 136 #[.val (.ref p1), .val (.ref t1), .val (.int x2), .val (.int x3), .val (.int x11), .val (.int (ln + (0 : Int32))), .val (.int ls), .val (.int k), .val (.int (el cs k)), .val (.int (1 : Int32))] d6_134 rfl rfl ?_
                    refine g_iload C 138 d6_136 rfl rfl ?_
                    refine g_iconst C 139 (1 : Int32) d6_138 rfl rfl ?_
                    refine g_iadd C 140 d6_139 rfl ?_
                    refine g_istore C 142 #[.val (.ref p1), .val (.ref t1), .val (.int x2), .val (.int x3), .val (.int x11), .val (.int (ln + (0 : Int32))), .val (.int (k + (1 : Int32))), .val (.int k), .val (.int (el cs k)), .val (.int (1 : Int32))] d6_140 rfl rfl ?_
                    refine g_iinc C 145 (k + (1 : Int32)) #[.val (.ref p1), .val (.ref t1), .val (.int x2), .val (.int x3), .val (.int x11), .val (.int (ln + (0 : Int32))), .val (.int (k + (1 : Int32))), .val (.int (k + (1 : Int32))), .val (.int (el cs k)), .val (.int (1 : Int32))] d6_142 rfl rfl rfl rfl ?_
                    refine g_goto C 25 d6_145 (by decide) (by decide) ?_
                    exact ih _ _ _ _ _ (One.val rfl) (One.val rfl) (by rw [P25, if_pos c1, if_pos b2, if_neg c3, if_neg c8, if_neg c9, if_pos c10, if_pos c11, if_neg c12] at hT; exact hT) K
                · refine g_icY C 103 d6_90 (feq c11).2 (by decide) (by decide) ?_
                  refine g_aloadN C 104 d6_103 rfl rfl rfl ?_
                  refine g_iload C 106 d6_104 rfl rfl ?_
                  refine g_iconst C 107 (1 : Int32) d6_106 rfl rfl ?_
                  refine g_isub C 108 d6_107 rfl ?_
                  by_cases b13 : inb cs (k - (1 : Int32)) = true
                  case neg => exact absurd hT (by rw [P25, if_pos c1, if_pos b2, if_neg c3, if_neg c8, if_neg c9, if_pos c10, if_neg c11, if_neg b13]; first | done | exact nofun)
                  refine g_caload C 109 ht d6_108 rfl (inb_nn b13) (el cs (k - (1 : Int32))) (el_get b13) ?_
                  refine g_bipush C 111 (13 : Int32) d6_109 rfl rfl ?_
                  by_cases c14 : (el cs (k - (1 : Int32))) = (13 : Int32)
                  · refine g_icN C 114 d6_111 (teq c14).2 rfl ?_
                    refine g_iconst C 115 (1 : Int32) d6_114 rfl rfl ?_
                    refine g_goto C 119 d6_115 (by decide) (by decide) ?_
                    refine g_istore C 121 #[.val (.ref p1), .val (.ref t1), .val (.int x2), .val (.int x3), .val (.int x11), .val (.int ln), .val (.int ls), .val (.int k), .val (.int (el cs k)), .val (.int (1 : Int32))] d6_119 rfl (XS.store1 rfl hs9 rfl) ?_
                    refine g_iload C 123 d6_121 rfl rfl ?_
                    refine g_iload C 125 d6_123 rfl rfl ?_
                    refine g_ifN C 128 d6_125 (feq ((by decide) : ¬ ((1 : Int32) = (0 : Int32)))).1 rfl ?_
                    refine g_iconst C 129 (0 : Int32) d6_128 rfl rfl ?_
                    refine g_goto C 133 d6_129 (by decide) (by decide) ?_
                    refine g_iadd C 134 d6_133 rfl ?_
                    refine g_istore C 136 #[.val (.ref p1), .val (.ref t1), .val (.int x2), .val (.int x3), .val (.int x11), .val (.int (ln + (0 : Int32))), .val (.int ls), .val (.int k), .val (.int (el cs k)), .val (.int (1 : Int32))] d6_134 rfl rfl ?_
                    refine g_iload C 138 d6_136 rfl rfl ?_
                    refine g_iconst C 139 (1 : Int32) d6_138 rfl rfl ?_
                    refine g_iadd C 140 d6_139 rfl ?_
                    refine g_istore C 142 #[.val (.ref p1), .val (.ref t1), .val (.int x2), .val (.int x3), .val (.int x11), .val (.int (ln + (0 : Int32))), .val (.int (k + (1 : Int32))), .val (.int k), .val (.int (el cs k)), .val (.int (1 : Int32))] d6_140 rfl rfl ?_
                    refine g_iinc C 145 (k + (1 : Int32)) #[.val (.ref p1), .val (.ref t1), .val (.int x2), .val (.int x3), .val (.int x11), .val (.int (ln + (0 : Int32))), .val (.int (k + (1 : Int32))), .val (.int (k + (1 : Int32))), .val (.int (el cs k)), .val (.int (1 : Int32))] d6_142 rfl rfl rfl rfl ?_
                    refine g_goto C 25 d6_145 (by decide) (by decide) ?_
                    exact ih _ _ _ _ _ (One.val rfl) (One.val rfl) (by rw [P25, if_pos c1, if_pos b2, if_neg c3, if_neg c8, if_neg c9, if_pos c10, if_neg c11, if_pos b13, if_pos c14] at hT; exact hT) K
                  · refine g_icY C 118 d6_111 (feq c14).2 (by decide) (by decide) ?_
                    refine g_iconst C 119 (0 : Int32) d6_118 rfl rfl ?_
                    refine g_istore C 121 #[.val (.ref p1), .val (.ref t1), .val (.int x2), .val (.int x3), .val (.int x11), .val (.int ln), .val (.int ls), .val (.int k), .val (.int (el cs k)), .val (.int (0 : Int32))] d6_119 rfl (XS.store1 rfl hs9 rfl) ?_
                    refine g_iload C 123 d6_121 rfl rfl ?_
                    refine g_iload C 125 d6_123 rfl rfl ?_
                    refine g_ifY C 132 d6_125 (teq ((by decide) : (0 : Int32) = (0 : Int32))).1 (by decide) (by decide) ?_
                    refine g_iconst C 133 (1 : Int32) d6_132 rfl rfl ?_
                    refine g_iadd C 134 d6_133 rfl ?_
                    refine g_istore C 136 #[.val (.ref p1), .val (.ref t1), .val (.int x2), .val (.int x3), .val (.int x11), .val (.int (ln + (1 : Int32))), .val (.int ls), .val (.int k), .val (.int (el cs k)), .val (.int (0 : Int32))] d6_134 rfl rfl ?_
                    refine g_iload C 138 d6_136 rfl rfl ?_
                    refine g_iconst C 139 (1 : Int32) d6_138 rfl rfl ?_
                    refine g_iadd C 140 d6_139 rfl ?_
                    refine g_istore C 142 #[.val (.ref p1), .val (.ref t1), .val (.int x2), .val (.int x3), .val (.int x11), .val (.int (ln + (1 : Int32))), .val (.int (k + (1 : Int32))), .val (.int k), .val (.int (el cs k)), .val (.int (0 : Int32))] d6_140 rfl rfl ?_
                    refine g_iinc C 145 (k + (1 : Int32)) #[.val (.ref p1), .val (.ref t1), .val (.int x2), .val (.int x3), .val (.int x11), .val (.int (ln + (1 : Int32))), .val (.int (k + (1 : Int32))), .val (.int (k + (1 : Int32))), .val (.int (el cs k)), .val (.int (0 : Int32))] d6_142 rfl rfl rfl rfl ?_
                    refine g_goto C 25 d6_145 (by decide) (by decide) ?_
                    exact ih _ _ _ _ _ (One.val rfl) (One.val rfl) (by rw [P25, if_pos c1, if_pos b2, if_neg c3, if_neg c8, if_neg c9, if_pos c10, if_neg c11, if_pos b13, if_neg c14] at hT; exact hT) K
              · refine g_icN C 64 d6_61 (feq c10).1 rfl ?_
                refine g_iload C 66 d6_64 rfl rfl ?_
                refine g_sipush C 69 (8232 : Int32) d6_66 rfl rfl ?_
                by_cases c15 : (el cs k) = (8232 : Int32)
                · refine g_icN C 72 d6_69 (teq c15).2 rfl ?_
                  refine g_iload C 74 d6_72 rfl rfl ?_
                  refine g_bipush C 76 (10 : Int32) d6_74 rfl rfl ?_
                  refine g_icN C 79 d6_76 (feq (c3 : ¬ ((el cs k) = (10 : Int32)))).1 rfl ?_
                  refine g_iload C 81 d6_79 rfl rfl ?_
                  refine g_sipush C 84 (133 : Int32) d6_81 rfl rfl ?_
                  refine g_icY C 118 d6_84 (feq (c10 : ¬ ((el cs k) = (133 : Int32)))).2 (by decide) (by decide) ?_
                  refine g_iconst C 119 (0 : Int32) d6_118 rfl rfl ?_
                  refine g_istore C 121 #[.val (.ref p1), .val (.ref t1), .val (.int x2), .val (.int x3), .val (.int x11), .val (.int ln), .val (.int ls), .val (.int k), .val (.int (el cs k)), .val (.int (0 : Int32))] d6_119 rfl (XS.store1 rfl hs9 rfl) ?_
                  refine g_iload C 123 d6_121 rfl rfl ?_
                  refine g_iload C 125 d6_123 rfl rfl ?_
                  refine g_ifY C 132 d6_125 (teq ((by decide) : (0 : Int32) = (0 : Int32))).1 (by decide) (by decide) ?_
                  refine g_iconst C 133 (1 : Int32) d6_132 rfl rfl ?_
                  refine g_iadd C 134 d6_133 rfl ?_
                  refine g_istore C 136 #[.val (.ref p1), .val (.ref t1), .val (.int x2), .val (.int x3), .val (.int x11), .val (.int (ln + (1 : Int32))), .val (.int ls), .val (.int k), .val (.int (el cs k)), .val (.int (0 : Int32))] d6_134 rfl rfl ?_
                  refine g_iload C 138 d6_136 rfl rfl ?_
                  refine g_iconst C 139 (1 : Int32) d6_138 rfl rfl ?_
                  refine g_iadd C 140 d6_139 rfl ?_
                  refine g_istore C 142 #[.val (.ref p1), .val (.ref t1), .val (.int x2), .val (.int x3), .val (.int x11), .val (.int (ln + (1 : Int32))), .val (.int (k + (1 : Int32))), .val (.int k), .val (.int (el cs k)), .val (.int (0 : Int32))] d6_140 rfl rfl ?_
                  refine g_iinc C 145 (k + (1 : Int32)) #[.val (.ref p1), .val (.ref t1), .val (.int x2), .val (.int x3), .val (.int x11), .val (.int (ln + (1 : Int32))), .val (.int (k + (1 : Int32))), .val (.int (k + (1 : Int32))), .val (.int (el cs k)), .val (.int (0 : Int32))] d6_142 rfl rfl rfl rfl ?_
                  refine g_goto C 25 d6_145 (by decide) (by decide) ?_
                  exact ih _ _ _ _ _ (One.val rfl) (One.val rfl) (by rw [P25, if_pos c1, if_pos b2, if_neg c3, if_neg c8, if_neg c9, if_neg c10, if_pos c15] at hT; exact hT) K
                · refine g_icY C 142 d6_69 (feq c15).2 (by decide) (by decide) ?_
                  refine g_iinc C 145 (k + (1 : Int32)) #[.val (.ref p1), .val (.ref t1), .val (.int x2), .val (.int x3), .val (.int x11), .val (.int ln), .val (.int ls), .val (.int (k + (1 : Int32))), .val (.int (el cs k)), s9] d6_142 rfl rfl rfl rfl ?_
                  refine g_goto C 25 d6_145 (by decide) (by decide) ?_
                  exact ih _ _ _ _ _ (One.val rfl) hs9 (by rw [P25, if_pos c1, if_pos b2, if_neg c3, if_neg c8, if_neg c9, if_neg c10, if_neg c15] at hT; exact hT) K
      · refine g_icY C 148 d6_28 (flt c1).2.1 (by decide) (by decide) ?_
        have hr : (ln, ls) = (r1, r2) := Option.some.inj (by rw [P25, if_neg c1] at hT; exact hT)
        obtain ⟨rfl, rfl⟩ := Prod.mk.inj hr
        exact K _ _ _
  refine H25 FUEL _ _ _ _ _ One.u One.u hT ?_
  intro k s8 s9
  refine g_aloadN C 149 d6_148 rfl rfl rfl ?_
  refine g_iload C 151 d6_149 rfl rfl ?_
  refine g_putfield C 154 (i := j) (j := 0) (ty := .int) [("com/example/revalidate/revalidate/DocumentDecoder$Place", "line", "I", (.int r1)), ("com/example/revalidate/revalidate/DocumentDecoder$Place", "column", "I", (.int col)), ("com/example/revalidate/revalidate/DocumentDecoder$Place", "xml11", "Z", (.int x11)), ("com/example/revalidate/revalidate/DocumentDecoder$Place", "afterReturn", "Z", (.int aft))] (ds.set j (p1, OB Z a0 "com/example/revalidate/revalidate/DocumentDecoder$Place" [("com/example/revalidate/revalidate/DocumentDecoder$Place", "line", "I", (.int r1)), ("com/example/revalidate/revalidate/DocumentDecoder$Place", "column", "I", (.int col)), ("com/example/revalidate/revalidate/DocumentDecoder$Place", "xml11", "Z", (.int x11)), ("com/example/revalidate/revalidate/DocumentDecoder$Place", "afterReturn", "Z", (.int aft))])) hi rfl d6_151 rfl (List.mem_of_getElem? (i := 18) rfl) (Or.inl (List.mem_of_getElem? (i := 19) rfl)) (List.mem_of_getElem? (i := 10) rfl) (by decide) rfl rfl (by simp) rfl rfl ?_
  refine g_aloadN C 155 d6_154 rfl rfl rfl ?_
  refine g_iloadN C 156 d6_155 rfl rfl ?_
  refine g_iload C 158 d6_156 rfl rfl ?_
  refine g_isub C 159 d6_158 rfl ?_
  refine g_iconst C 160 (1 : Int32) d6_159 rfl rfl ?_
  refine g_iadd C 161 d6_160 rfl ?_
  refine g_putfield C 164 (i := j) (j := 1) (ty := .int) [("com/example/revalidate/revalidate/DocumentDecoder$Place", "line", "I", (.int r1)), ("com/example/revalidate/revalidate/DocumentDecoder$Place", "column", "I", (.int ((x3 - r2) + (1 : Int32)))), ("com/example/revalidate/revalidate/DocumentDecoder$Place", "xml11", "Z", (.int x11)), ("com/example/revalidate/revalidate/DocumentDecoder$Place", "afterReturn", "Z", (.int aft))] (ds.set j (p1, OB Z a0 "com/example/revalidate/revalidate/DocumentDecoder$Place" [("com/example/revalidate/revalidate/DocumentDecoder$Place", "line", "I", (.int r1)), ("com/example/revalidate/revalidate/DocumentDecoder$Place", "column", "I", (.int ((x3 - r2) + (1 : Int32)))), ("com/example/revalidate/revalidate/DocumentDecoder$Place", "xml11", "Z", (.int x11)), ("com/example/revalidate/revalidate/DocumentDecoder$Place", "afterReturn", "Z", (.int aft))])) (set_same hi) rfl d6_161 rfl (List.mem_of_getElem? (i := 20) rfl) (Or.inl (List.mem_of_getElem? (i := 21) rfl)) (List.mem_of_getElem? (i := 10) rfl) (by decide) rfl rfl (by simp) rfl (List.set_set _) ?_
  refine g_aloadN C 165 d6_164 rfl rfl rfl ?_
  refine g_iloadN C 166 d6_165 rfl rfl ?_
  refine g_iloadN C 167 d6_166 rfl rfl ?_
  by_cases c1 : x2 < x3
  · refine g_icN C 170 d6_167 (tlt c1).2.2.2 rfl ?_
    refine g_aloadN C 171 d6_170 rfl rfl rfl ?_
    refine g_iloadN C 172 d6_171 rfl rfl ?_
    refine g_iconst C 173 (1 : Int32) d6_172 rfl rfl ?_
    refine g_isub C 174 d6_173 rfl ?_
    refine g_caload C 175 (set_other hne ht) d6_174 rfl (inb_nn (hl c1)) (el cs (x3 - (1 : Int32))) (el_get (hl c1)) ?_
    refine g_bipush C 177 (13 : Int32) d6_175 rfl rfl ?_
    by_cases c2 : (el cs (x3 - (1 : Int32))) = (13 : Int32)
    · refine g_icN C 180 d6_177 (teq c2).2 rfl ?_
      refine g_iconst C 181 (1 : Int32) d6_180 rfl rfl ?_
      refine g_goto C 192 d6_181 (by decide) (by decide) ?_
      refine g_putfield C 195 (i := j) (j := 3) (ty := .boolean) [("com/example/revalidate/revalidate/DocumentDecoder$Place", "line", "I", (.int r1)), ("com/example/revalidate/revalidate/DocumentDecoder$Place", "column", "I", (.int ((x3 - r2) + (1 : Int32)))), ("com/example/revalidate/revalidate/DocumentDecoder$Place", "xml11", "Z", (.int x11)), ("com/example/revalidate/revalidate/DocumentDecoder$Place", "afterReturn", "Z", (.int (1 : Int32)))] (ds.set j (p1, OB Z a0 "com/example/revalidate/revalidate/DocumentDecoder$Place" [("com/example/revalidate/revalidate/DocumentDecoder$Place", "line", "I", (.int r1)), ("com/example/revalidate/revalidate/DocumentDecoder$Place", "column", "I", (.int ((x3 - r2) + (1 : Int32)))), ("com/example/revalidate/revalidate/DocumentDecoder$Place", "xml11", "Z", (.int x11)), ("com/example/revalidate/revalidate/DocumentDecoder$Place", "afterReturn", "Z", (.int (1 : Int32)))])) (set_same hi) rfl d6_192 rfl (List.mem_of_getElem? (i := 34) rfl) (Or.inl (List.mem_of_getElem? (i := 35) rfl)) (List.mem_of_getElem? (i := 10) rfl) (by decide) rfl rfl (by simp) rfl (List.set_set _) ?_
      exact g_ret C d6_195 (by decide) (by decide) ⟨rfl, by rw [passA, if_pos c1, if_pos c2]⟩
    · refine g_icY C 184 d6_177 (feq c2).2 (by decide) (by decide) ?_
      refine g_iconst C 185 (0 : Int32) d6_184 rfl rfl ?_
      refine g_goto C 192 d6_185 (by decide) (by decide) ?_
      refine g_putfield C 195 (i := j) (j := 3) (ty := .boolean) [("com/example/revalidate/revalidate/DocumentDecoder$Place", "line", "I", (.int r1)), ("com/example/revalidate/revalidate/DocumentDecoder$Place", "column", "I", (.int ((x3 - r2) + (1 : Int32)))), ("com/example/revalidate/revalidate/DocumentDecoder$Place", "xml11", "Z", (.int x11)), ("com/example/revalidate/revalidate/DocumentDecoder$Place", "afterReturn", "Z", (.int (0 : Int32)))] (ds.set j (p1, OB Z a0 "com/example/revalidate/revalidate/DocumentDecoder$Place" [("com/example/revalidate/revalidate/DocumentDecoder$Place", "line", "I", (.int r1)), ("com/example/revalidate/revalidate/DocumentDecoder$Place", "column", "I", (.int ((x3 - r2) + (1 : Int32)))), ("com/example/revalidate/revalidate/DocumentDecoder$Place", "xml11", "Z", (.int x11)), ("com/example/revalidate/revalidate/DocumentDecoder$Place", "afterReturn", "Z", (.int (0 : Int32)))])) (set_same hi) rfl d6_192 rfl (List.mem_of_getElem? (i := 34) rfl) (Or.inl (List.mem_of_getElem? (i := 35) rfl)) (List.mem_of_getElem? (i := 10) rfl) (by decide) rfl rfl (by simp) rfl (List.set_set _) ?_
      exact g_ret C d6_195 (by decide) (by decide) ⟨rfl, by rw [passA, if_pos c1, if_neg c2]⟩
  · refine g_icY C 188 d6_167 (flt c1).2.2.2 (by decide) (by decide) ?_
    refine g_aloadN C 189 d6_188 rfl rfl rfl ?_
    refine g_getfield C 192 (j := 3) (set_same hi) rfl d6_189 rfl (List.mem_of_getElem? (i := 34) rfl) ?_
    refine g_putfield C 195 (i := j) (j := 3) (ty := .boolean) [("com/example/revalidate/revalidate/DocumentDecoder$Place", "line", "I", (.int r1)), ("com/example/revalidate/revalidate/DocumentDecoder$Place", "column", "I", (.int ((x3 - r2) + (1 : Int32)))), ("com/example/revalidate/revalidate/DocumentDecoder$Place", "xml11", "Z", (.int x11)), ("com/example/revalidate/revalidate/DocumentDecoder$Place", "afterReturn", "Z", (.int (nar .boolean aft)))] (ds.set j (p1, OB Z a0 "com/example/revalidate/revalidate/DocumentDecoder$Place" [("com/example/revalidate/revalidate/DocumentDecoder$Place", "line", "I", (.int r1)), ("com/example/revalidate/revalidate/DocumentDecoder$Place", "column", "I", (.int ((x3 - r2) + (1 : Int32)))), ("com/example/revalidate/revalidate/DocumentDecoder$Place", "xml11", "Z", (.int x11)), ("com/example/revalidate/revalidate/DocumentDecoder$Place", "afterReturn", "Z", (.int (nar .boolean aft)))])) (set_same hi) rfl d6_192 rfl (List.mem_of_getElem? (i := 34) rfl) (Or.inl (List.mem_of_getElem? (i := 35) rfl)) (List.mem_of_getElem? (i := 10) rfl) (by decide) rfl (fits_nar_bool _) (by simp) rfl (List.set_set _) ?_
    exact g_ret C d6_195 (by decide) (by decide) ⟨rfl, by rw [passA, if_neg c1]⟩
theorem d2_0 : decode method_2_code 0 = .ok (.iload_n 0, 1) := by decide +kernel
theorem d2_1 : decode method_2_code 1 = .ok (.bipush 7, 2) := by decide +kernel
theorem d2_3 : decode method_2_code 3 = .ok (.iand, 1) := by decide +kernel
theorem d2_4 : decode method_2_code 4 = .ok (.istore_n 1, 1) := by decide +kernel
theorem d2_5 : decode method_2_code 5 = .ok (.iload_n 1, 1) := by decide +kernel
theorem d2_6 : decode method_2_code 6 = .ok (.ifCond .ne 6, 3) := by decide +kernel
theorem d2_9 : decode method_2_code 9 = .ok (.bipush 13, 2) := by decide +kernel
theorem d2_11 : decode method_2_code 11 = .ok (.ireturn, 1) := by decide +kernel
theorem d2_12 : decode method_2_code 12 = .ok (.iload_n 1, 1) := by decide +kernel
theorem d2_13 : decode method_2_code 13 = .ok (.iconst 1, 1) := by decide +kernel
theorem d2_14 : decode method_2_code 14 = .ok (.if_icmp .ne 6, 3) := by decide +kernel
theorem d2_17 : decode method_2_code 17 = .ok (.bipush 10, 2) := by decide +kernel
theorem d2_19 : decode method_2_code 19 = .ok (.ireturn, 1) := by decide +kernel
theorem d2_20 : decode method_2_code 20 = .ok (.iload_n 1, 1) := by decide +kernel
theorem d2_21 : decode method_2_code 21 = .ok (.iconst 2, 1) := by decide +kernel
theorem d2_22 : decode method_2_code 22 = .ok (.if_icmp .ne 7, 3) := by decide +kernel
theorem d2_25 : decode method_2_code 25 = .ok (.sipush 133, 3) := by decide +kernel
theorem d2_28 : decode method_2_code 28 = .ok (.ireturn, 1) := by decide +kernel
theorem d2_29 : decode method_2_code 29 = .ok (.iload_n 1, 1) := by decide +kernel
theorem d2_30 : decode method_2_code 30 = .ok (.iconst 3, 1) := by decide +kernel
theorem d2_31 : decode method_2_code 31 = .ok (.if_icmp .ne 7, 3) := by decide +kernel
theorem d2_34 : decode method_2_code 34 = .ok (.sipush 8232, 3) := by decide +kernel
theorem d2_37 : decode method_2_code 37 = .ok (.ireturn, 1) := by decide +kernel
theorem d2_38 : decode method_2_code 38 = .ok (.iload_n 0, 1) := by decide +kernel
theorem d2_39 : decode method_2_code 39 = .ok (.iconst 3, 1) := by decide +kernel
theorem d2_40 : decode method_2_code 40 = .ok (.iushr, 1) := by decide +kernel
theorem d2_41 : decode method_2_code 41 = .ok (.ldc 7, 2) := by decide +kernel
theorem d2_43 : decode method_2_code 43 = .ok (.iand, 1) := by decide +kernel
theorem d2_44 : decode method_2_code 44 = .ok (.i2c, 1) := by decide +kernel
theorem d2_45 : decode method_2_code 45 = .ok (.ireturn, 1) := by decide +kernel
def f_ch (x0 : Int32) : Int32 := (if (x0 &&& (7 : Int32)) = (0 : Int32) then (nar .char (13 : Int32)) else (if (x0 &&& (7 : Int32)) = (1 : Int32) then (nar .char (10 : Int32)) else (if (x0 &&& (7 : Int32)) = (2 : Int32) then (nar .char (133 : Int32)) else (if (x0 &&& (7 : Int32)) = (3 : Int32) then (nar .char (8232 : Int32)) else (nar .char ((((x0.toUInt32 >>> ((3 : Int32) &&& 31).toUInt32).toInt32) &&& (65535 : Int32)).toUInt32.toUInt16.toUInt32.toInt32))))))
set_option maxRecDepth 65536 in
set_option maxHeartbeats 40000000 in
theorem con_f_ch (l : Launch) (Z : State) (a0 : Array Value) (hw : ∀ d ∈ tables_1, d.before a0 Z = true) (h0 : Heap) (ds : Wd) (x0 : Int32)  :
    Con l Z (⟨"com/example/revalidate/revalidate/PlaceMoveToPinLaw", "ch", "(I)C"⟩ : MethodName) method_2_code 2 (some .char) ({ frames := 0, cells := 0, slots := 0, locals := 0 } : Room) h0 #[(.int x0)] ds (fun v ds' => v = some (.int (f_ch x0)) ∧ ds = ds') := by
  refine con_of (a0 := a0) (Ls := #[.val (.int x0), .unset]) (plainFor_of_name (by first | (simp [plainName, overriddenIn]; done) | decide +kernel)) hw (fun m => by first | (simp [entryFrame, mkF, argsToLocals, Value.category]; done) | rfl) ?_
  intro p e s m below meth c C
  refine g_iloadN C 1 d2_0 rfl rfl ?_
  refine g_bipush C 3 (7 : Int32) d2_1 rfl rfl ?_
  refine g_iand C 4 d2_3 rfl ?_
  refine g_istoreN C 5 #[.val (.int x0), .val (.int (x0 &&& (7 : Int32)))] d2_4 rfl rfl ?_
  refine g_iloadN C 6 d2_5 rfl rfl ?_
  by_cases c1 : (x0 &&& (7 : Int32)) = (0 : Int32)
  · refine g_ifN C 9 d2_6 (teq c1).2 rfl ?_
    refine g_bipush C 11 (13 : Int32) d2_9 rfl rfl ?_
    exact g_nret C (by simp) (z' := (nar .char (13 : Int32))) rfl d2_11 (by decide) (by decide) ⟨by rw [f_ch, if_pos c1], rfl⟩
  · refine g_ifY C 12 d2_6 (feq c1).2 (by decide) (by decide) ?_
    refine g_iloadN C 13 d2_12 rfl rfl ?_
    refine g_iconst C 14 (1 : Int32) d2_13 rfl rfl ?_
    by_cases c2 : (x0 &&& (7 : Int32)) = (1 : Int32)
    · refine g_icN C 17 d2_14 (teq c2).2 rfl ?_
      refine g_bipush C 19 (10 : Int32) d2_17 rfl rfl ?_
      exact g_nret C (by simp) (z' := (nar .char (10 : Int32))) rfl d2_19 (by decide) (by decide) ⟨by rw [f_ch, if_neg c1, if_pos c2], rfl⟩
    · refine g_icY C 20 d2_14 (feq c2).2 (by decide) (by decide) ?_
      refine g_iloadN C 21 d2_20 rfl rfl ?_
      refine g_iconst C 22 (2 : Int32) d2_21 rfl rfl ?_
      by_cases c3 : (x0 &&& (7 : Int32)) = (2 : Int32)
      · refine g_icN C 25 d2_22 (teq c3).2 rfl ?_
        refine g_sipush C 28 (133 : Int32) d2_25 rfl rfl ?_
        exact g_nret C (by simp) (z' := (nar .char (133 : Int32))) rfl d2_28 (by decide) (by decide) ⟨by rw [f_ch, if_neg c1, if_neg c2, if_pos c3], rfl⟩
      · refine g_icY C 29 d2_22 (feq c3).2 (by decide) (by decide) ?_
        refine g_iloadN C 30 d2_29 rfl rfl ?_
        refine g_iconst C 31 (3 : Int32) d2_30 rfl rfl ?_
        by_cases c4 : (x0 &&& (7 : Int32)) = (3 : Int32)
        · refine g_icN C 34 d2_31 (teq c4).2 rfl ?_
          refine g_sipush C 37 (8232 : Int32) d2_34 rfl rfl ?_
          exact g_nret C (by simp) (z' := (nar .char (8232 : Int32))) rfl d2_37 (by decide) (by decide) ⟨by rw [f_ch, if_neg c1, if_neg c2, if_neg c3, if_pos c4], rfl⟩
        · refine g_icY C 38 d2_31 (feq c4).2 (by decide) (by decide) ?_
          refine g_iloadN C 39 d2_38 rfl rfl ?_
          refine g_iconst C 40 (3 : Int32) d2_39 rfl rfl ?_
          refine g_iushr C 41 d2_40 rfl ?_
          refine g_ldcI C 43 (65535 : Int32) d2_41 rfl (List.mem_of_getElem? (i := 8) rfl) ?_
          refine g_iand C 44 d2_43 rfl ?_
          refine g_i2c C 45 d2_44 rfl ?_
          exact g_nret C (by simp) (z' := (nar .char ((((x0.toUInt32 >>> ((3 : Int32) &&& 31).toUInt32).toInt32) &&& (65535 : Int32)).toUInt32.toUInt16.toUInt32.toInt32))) rfl d2_45 (by decide) (by decide) ⟨by rw [f_ch, if_neg c1, if_neg c2, if_neg c3, if_neg c4], rfl⟩
theorem d1_0 : decode method_3_code 0 = .ok (.iconst 2, 1) := by decide +kernel
theorem d1_1 : decode method_3_code 1 = .ok (.newarray .char, 2) := by decide +kernel
theorem d1_3 : decode method_3_code 3 = .ok (.astore_n 2, 1) := by decide +kernel
theorem d1_4 : decode method_3_code 4 = .ok (.aload_n 2, 1) := by decide +kernel
theorem d1_5 : decode method_3_code 5 = .ok (.iconst 0, 1) := by decide +kernel
theorem d1_6 : decode method_3_code 6 = .ok (.lload_n 0, 1) := by decide +kernel
theorem d1_7 : decode method_3_code 7 = .ok (.l2i, 1) := by decide +kernel
theorem d1_8 : decode method_3_code 8 = .ok (.invokestatic 8, 3) := by decide +kernel
theorem d1_11 : decode method_3_code 11 = .ok (.castore, 1) := by decide +kernel
theorem d1_12 : decode method_3_code 12 = .ok (.aload_n 2, 1) := by decide +kernel
theorem d1_13 : decode method_3_code 13 = .ok (.iconst 1, 1) := by decide +kernel
theorem d1_14 : decode method_3_code 14 = .ok (.lload_n 0, 1) := by decide +kernel
theorem d1_15 : decode method_3_code 15 = .ok (.bipush 32, 2) := by decide +kernel
theorem d1_17 : decode method_3_code 17 = .ok (.lushr, 1) := by decide +kernel
theorem d1_18 : decode method_3_code 18 = .ok (.l2i, 1) := by decide +kernel
theorem d1_19 : decode method_3_code 19 = .ok (.invokestatic 8, 3) := by decide +kernel
theorem d1_22 : decode method_3_code 22 = .ok (.castore, 1) := by decide +kernel
theorem d1_23 : decode method_3_code 23 = .ok (.aload_n 2, 1) := by decide +kernel
theorem d1_24 : decode method_3_code 24 = .ok (.areturn, 1) := by decide +kernel
set_option maxRecDepth 65536 in
set_option maxHeartbeats 40000000 in
theorem con_text0 (l : Launch) (Z : State) (a0 : Array Value) (hw : ∀ d ∈ tables_1, d.before a0 Z = true) (h0 : Heap)  (x0 : Int64)  :
    Con l Z (⟨"com/example/revalidate/revalidate/PlaceMoveToPinLaw", "text", "(J)[C"⟩ : MethodName) method_3_code 3 (some (.array .char)) ({ frames := 1, cells := 1, slots := 2, locals := 16 } : Room) h0 #[(.long x0)] [] (fun v ds' => ∃ b, v = some (.ref b) ∧ [(b, IA Z .char (ints [(nar .char (f_ch x0.toInt32)), (nar .char (f_ch ((x0.toUInt64 >>> ((32 : Int32) &&& 0x3f).toInt64.toUInt64).toInt64).toInt32))]))] = ds') := by
  refine con_of (a0 := a0) (Ls := #[.val (.long x0), .second, .unset]) (plainFor_of_name (by first | (simp [plainName, overriddenIn]; done) | decide +kernel)) hw (fun m => by first | (simp [entryFrame, mkF, argsToLocals, Value.category]; done) | rfl) ?_
  intro p e s m below meth c C
  refine g_iconst C 1 (2 : Int32) d1_0 rfl rfl ?_
  refine g_newarray C 3 (ints [(0 : Int32), (0 : Int32)]) 2 (List.mem_of_getElem? (i := 4) rfl) d1_1 rfl (by decide) (by decide) (by decide) (by decide) (by decide) rfl ?_
  intro a1
  show Go _ _ _ _ _ _ _ _ _ _ _ _ [(a1, IA Z .char (ints [(0 : Int32), (0 : Int32)]))] 1 2 3 #[.val (.long x0), .second, .unset] [(.ref a1)]
  refine g_astoreN C 4 #[.val (.long x0), .second, .val (.ref a1)] d1_3 rfl rfl rfl ?_
  refine g_aloadN C 5 d1_4 rfl rfl rfl ?_
  refine g_iconst C 6 (0 : Int32) d1_5 rfl rfl ?_
  refine g_lloadN C 7 d1_6 rfl rfl ?_
  refine g_l2i C 8 d1_7 rfl ?_
  refine g_static C 11 2 (argsL := [(.int (x0.toInt32))]) (St := [(.int (0 : Int32)), (.ref a1)]) (con_f_ch l Z a0 C.2.2.1 h0 [(a1, IA Z .char (ints [(0 : Int32), (0 : Int32)]))] (x0.toInt32)) (List.mem_of_getElem? (i := 5) rfl) (List.mem_of_getElem? (i := 6) rfl) (List.mem_of_getElem? (i := 2) rfl) (List.mem_of_getElem? (i := 7) rfl) (by decide) d1_8 rfl rfl (lenOf (ps := [.int]) (r := some .char) (by decide) rfl) rfl (Nat.le_of_eq rfl) (by decide) (by decide) (by decide) (by decide) ?_
  rintro _ _ ⟨rfl, rfl⟩
  show Go _ _ _ _ _ _ _ _ _ _ _ _ [(a1, IA Z .char (ints [(0 : Int32), (0 : Int32)]))] 1 2 11 #[.val (.long x0), .second, .val (.ref a1)] [(.int (f_ch (x0.toInt32))), (.int (0 : Int32)), (.ref a1)]
  refine g_castore C 12 (i := 0) [(nar .char (f_ch (x0.toInt32))), (0 : Int32)] [(a1, IA Z .char (ints [(nar .char (f_ch (x0.toInt32))), (0 : Int32)]))] rfl d1_11 rfl (by decide) (Nat.le_of_ble_eq_true rfl) rfl rfl ?_
  refine g_aloadN C 13 d1_12 rfl rfl rfl ?_
  refine g_iconst C 14 (1 : Int32) d1_13 rfl rfl ?_
  refine g_lloadN C 15 d1_14 rfl rfl ?_
  refine g_bipush C 17 (32 : Int32) d1_15 rfl rfl ?_
  refine g_lushr C 18 d1_17 rfl ?_
  refine g_l2i C 19 d1_18 rfl ?_
  refine g_static C 22 2 (argsL := [(.int (((x0.toUInt64 >>> ((32 : Int32) &&& 0x3f).toInt64.toUInt64).toInt64).toInt32))]) (St := [(.int (1 : Int32)), (.ref a1)]) (con_f_ch l Z a0 C.2.2.1 h0 [(a1, IA Z .char (ints [(nar .char (f_ch (x0.toInt32))), (0 : Int32)]))] (((x0.toUInt64 >>> ((32 : Int32) &&& 0x3f).toInt64.toUInt64).toInt64).toInt32)) (List.mem_of_getElem? (i := 5) rfl) (List.mem_of_getElem? (i := 6) rfl) (List.mem_of_getElem? (i := 2) rfl) (List.mem_of_getElem? (i := 7) rfl) (by decide) d1_19 rfl rfl (lenOf (ps := [.int]) (r := some .char) (by decide) rfl) rfl (Nat.le_of_eq rfl) (by decide) (by decide) (by decide) (by decide) ?_
  rintro _ _ ⟨rfl, rfl⟩
  show Go _ _ _ _ _ _ _ _ _ _ _ _ [(a1, IA Z .char (ints [(nar .char (f_ch (x0.toInt32))), (0 : Int32)]))] 1 2 22 #[.val (.long x0), .second, .val (.ref a1)] [(.int (f_ch (((x0.toUInt64 >>> ((32 : Int32) &&& 0x3f).toInt64.toUInt64).toInt64).toInt32))), (.int (1 : Int32)), (.ref a1)]
  refine g_castore C 23 (i := 0) [(nar .char (f_ch (x0.toInt32))), (nar .char (f_ch (((x0.toUInt64 >>> ((32 : Int32) &&& 0x3f).toInt64.toUInt64).toInt64).toInt32)))] [(a1, IA Z .char (ints [(nar .char (f_ch (x0.toInt32))), (nar .char (f_ch (((x0.toUInt64 >>> ((32 : Int32) &&& 0x3f).toInt64.toUInt64).toInt64).toInt32)))]))] rfl d1_22 rfl (by decide) (Nat.le_of_ble_eq_true rfl) rfl rfl ?_
  refine g_aloadN C 24 d1_23 rfl rfl rfl ?_
  exact g_aret C rfl rfl rfl d1_24 (by decide) (by decide) ⟨_, rfl, rfl⟩
set_option maxRecDepth 65536 in
set_option maxHeartbeats 40000000 in
theorem con_text1 (l : Launch) (Z : State) (a0 : Array Value) (hw : ∀ d ∈ tables_1, d.before a0 Z = true) (h0 : Heap) (d0 : Addr × Desc) (x0 : Int64)  :
    Con l Z (⟨"com/example/revalidate/revalidate/PlaceMoveToPinLaw", "text", "(J)[C"⟩ : MethodName) method_3_code 3 (some (.array .char)) ({ frames := 1, cells := 1, slots := 2, locals := 16 } : Room) h0 #[(.long x0)] [d0] (fun v ds' => ∃ b, v = some (.ref b) ∧ [d0, (b, IA Z .char (ints [(nar .char (f_ch x0.toInt32)), (nar .char (f_ch ((x0.toUInt64 >>> ((32 : Int32) &&& 0x3f).toInt64.toUInt64).toInt64).toInt32))]))] = ds') := by
  refine con_of (a0 := a0) (Ls := #[.val (.long x0), .second, .unset]) (plainFor_of_name (by first | (simp [plainName, overriddenIn]; done) | decide +kernel)) hw (fun m => by first | (simp [entryFrame, mkF, argsToLocals, Value.category]; done) | rfl) ?_
  intro p e s m below meth c C
  refine g_iconst C 1 (2 : Int32) d1_0 rfl rfl ?_
  refine g_newarray C 3 (ints [(0 : Int32), (0 : Int32)]) 2 (List.mem_of_getElem? (i := 4) rfl) d1_1 rfl (by decide) (by decide) (by decide) (by decide) (by decide) rfl ?_
  intro a1
  show Go _ _ _ _ _ _ _ _ _ _ _ _ [d0, (a1, IA Z .char (ints [(0 : Int32), (0 : Int32)]))] 1 2 3 #[.val (.long x0), .second, .unset] [(.ref a1)]
  refine g_astoreN C 4 #[.val (.long x0), .second, .val (.ref a1)] d1_3 rfl rfl rfl ?_
  refine g_aloadN C 5 d1_4 rfl rfl rfl ?_
  refine g_iconst C 6 (0 : Int32) d1_5 rfl rfl ?_
  refine g_lloadN C 7 d1_6 rfl rfl ?_
  refine g_l2i C 8 d1_7 rfl ?_
  refine g_static C 11 2 (argsL := [(.int (x0.toInt32))]) (St := [(.int (0 : Int32)), (.ref a1)]) (con_f_ch l Z a0 C.2.2.1 h0 [d0, (a1, IA Z .char (ints [(0 : Int32), (0 : Int32)]))] (x0.toInt32)) (List.mem_of_getElem? (i := 5) rfl) (List.mem_of_getElem? (i := 6) rfl) (List.mem_of_getElem? (i := 2) rfl) (List.mem_of_getElem? (i := 7) rfl) (by decide) d1_8 rfl rfl (lenOf (ps := [.int]) (r := some .char) (by decide) rfl) rfl (Nat.le_of_eq rfl) (by decide) (by decide) (by decide) (by decide) ?_
  rintro _ _ ⟨rfl, rfl⟩
  show Go _ _ _ _ _ _ _ _ _ _ _ _ [d0, (a1, IA Z .char (ints [(0 : Int32), (0 : Int32)]))] 1 2 11 #[.val (.long x0), .second, .val (.ref a1)] [(.int (f_ch (x0.toInt32))), (.int (0 : Int32)), (.ref a1)]
  refine g_castore C 12 (i := 1) [(nar .char (f_ch (x0.toInt32))), (0 : Int32)] [d0, (a1, IA Z .char (ints [(nar .char (f_ch (x0.toInt32))), (0 : Int32)]))] rfl d1_11 rfl (by decide) (Nat.le_of_ble_eq_true rfl) rfl rfl ?_
  refine g_aloadN C 13 d1_12 rfl rfl rfl ?_
  refine g_iconst C 14 (1 : Int32) d1_13 rfl rfl ?_
  refine g_lloadN C 15 d1_14 rfl rfl ?_
  refine g_bipush C 17 (32 : Int32) d1_15 rfl rfl ?_
  refine g_lushr C 18 d1_17 rfl ?_
  refine g_l2i C 19 d1_18 rfl ?_
  refine g_static C 22 2 (argsL := [(.int (((x0.toUInt64 >>> ((32 : Int32) &&& 0x3f).toInt64.toUInt64).toInt64).toInt32))]) (St := [(.int (1 : Int32)), (.ref a1)]) (con_f_ch l Z a0 C.2.2.1 h0 [d0, (a1, IA Z .char (ints [(nar .char (f_ch (x0.toInt32))), (0 : Int32)]))] (((x0.toUInt64 >>> ((32 : Int32) &&& 0x3f).toInt64.toUInt64).toInt64).toInt32)) (List.mem_of_getElem? (i := 5) rfl) (List.mem_of_getElem? (i := 6) rfl) (List.mem_of_getElem? (i := 2) rfl) (List.mem_of_getElem? (i := 7) rfl) (by decide) d1_19 rfl rfl (lenOf (ps := [.int]) (r := some .char) (by decide) rfl) rfl (Nat.le_of_eq rfl) (by decide) (by decide) (by decide) (by decide) ?_
  rintro _ _ ⟨rfl, rfl⟩
  show Go _ _ _ _ _ _ _ _ _ _ _ _ [d0, (a1, IA Z .char (ints [(nar .char (f_ch (x0.toInt32))), (0 : Int32)]))] 1 2 22 #[.val (.long x0), .second, .val (.ref a1)] [(.int (f_ch (((x0.toUInt64 >>> ((32 : Int32) &&& 0x3f).toInt64.toUInt64).toInt64).toInt32))), (.int (1 : Int32)), (.ref a1)]
  refine g_castore C 23 (i := 1) [(nar .char (f_ch (x0.toInt32))), (nar .char (f_ch (((x0.toUInt64 >>> ((32 : Int32) &&& 0x3f).toInt64.toUInt64).toInt64).toInt32)))] [d0, (a1, IA Z .char (ints [(nar .char (f_ch (x0.toInt32))), (nar .char (f_ch (((x0.toUInt64 >>> ((32 : Int32) &&& 0x3f).toInt64.toUInt64).toInt64).toInt32)))]))] rfl d1_22 rfl (by decide) (Nat.le_of_ble_eq_true rfl) rfl rfl ?_
  refine g_aloadN C 24 d1_23 rfl rfl rfl ?_
  exact g_aret C rfl rfl rfl d1_24 (by decide) (by decide) ⟨_, rfl, rfl⟩
set_option maxRecDepth 65536 in
set_option maxHeartbeats 40000000 in
theorem con_text2 (l : Launch) (Z : State) (a0 : Array Value) (hw : ∀ d ∈ tables_1, d.before a0 Z = true) (h0 : Heap) (d0 d1 : Addr × Desc) (x0 : Int64)  :
    Con l Z (⟨"com/example/revalidate/revalidate/PlaceMoveToPinLaw", "text", "(J)[C"⟩ : MethodName) method_3_code 3 (some (.array .char)) ({ frames := 1, cells := 1, slots := 2, locals := 16 } : Room) h0 #[(.long x0)] [d0, d1] (fun v ds' => ∃ b, v = some (.ref b) ∧ [d0, d1, (b, IA Z .char (ints [(nar .char (f_ch x0.toInt32)), (nar .char (f_ch ((x0.toUInt64 >>> ((32 : Int32) &&& 0x3f).toInt64.toUInt64).toInt64).toInt32))]))] = ds') := by
  refine con_of (a0 := a0) (Ls := #[.val (.long x0), .second, .unset]) (plainFor_of_name (by first | (simp [plainName, overriddenIn]; done) | decide +kernel)) hw (fun m => by first | (simp [entryFrame, mkF, argsToLocals, Value.category]; done) | rfl) ?_
  intro p e s m below meth c C
  refine g_iconst C 1 (2 : Int32) d1_0 rfl rfl ?_
  refine g_newarray C 3 (ints [(0 : Int32), (0 : Int32)]) 2 (List.mem_of_getElem? (i := 4) rfl) d1_1 rfl (by decide) (by decide) (by decide) (by decide) (by decide) rfl ?_
  intro a1
  show Go _ _ _ _ _ _ _ _ _ _ _ _ [d0, d1, (a1, IA Z .char (ints [(0 : Int32), (0 : Int32)]))] 1 2 3 #[.val (.long x0), .second, .unset] [(.ref a1)]
  refine g_astoreN C 4 #[.val (.long x0), .second, .val (.ref a1)] d1_3 rfl rfl rfl ?_
  refine g_aloadN C 5 d1_4 rfl rfl rfl ?_
  refine g_iconst C 6 (0 : Int32) d1_5 rfl rfl ?_
  refine g_lloadN C 7 d1_6 rfl rfl ?_
  refine g_l2i C 8 d1_7 rfl ?_
  refine g_static C 11 2 (argsL := [(.int (x0.toInt32))]) (St := [(.int (0 : Int32)), (.ref a1)]) (con_f_ch l Z a0 C.2.2.1 h0 [d0, d1, (a1, IA Z .char (ints [(0 : Int32), (0 : Int32)]))] (x0.toInt32)) (List.mem_of_getElem? (i := 5) rfl) (List.mem_of_getElem? (i := 6) rfl) (List.mem_of_getElem? (i := 2) rfl) (List.mem_of_getElem? (i := 7) rfl) (by decide) d1_8 rfl rfl (lenOf (ps := [.int]) (r := some .char) (by decide) rfl) rfl (Nat.le_of_eq rfl) (by decide) (by decide) (by decide) (by decide) ?_
  rintro _ _ ⟨rfl, rfl⟩
  show Go _ _ _ _ _ _ _ _ _ _ _ _ [d0, d1, (a1, IA Z .char (ints [(0 : Int32), (0 : Int32)]))] 1 2 11 #[.val (.long x0), .second, .val (.ref a1)] [(.int (f_ch (x0.toInt32))), (.int (0 : Int32)), (.ref a1)]
  refine g_castore C 12 (i := 2) [(nar .char (f_ch (x0.toInt32))), (0 : Int32)] [d0, d1, (a1, IA Z .char (ints [(nar .char (f_ch (x0.toInt32))), (0 : Int32)]))] rfl d1_11 rfl (by decide) (Nat.le_of_ble_eq_true rfl) rfl rfl ?_
  refine g_aloadN C 13 d1_12 rfl rfl rfl ?_
  refine g_iconst C 14 (1 : Int32) d1_13 rfl rfl ?_
  refine g_lloadN C 15 d1_14 rfl rfl ?_
  refine g_bipush C 17 (32 : Int32) d1_15 rfl rfl ?_
  refine g_lushr C 18 d1_17 rfl ?_
  refine g_l2i C 19 d1_18 rfl ?_
  refine g_static C 22 2 (argsL := [(.int (((x0.toUInt64 >>> ((32 : Int32) &&& 0x3f).toInt64.toUInt64).toInt64).toInt32))]) (St := [(.int (1 : Int32)), (.ref a1)]) (con_f_ch l Z a0 C.2.2.1 h0 [d0, d1, (a1, IA Z .char (ints [(nar .char (f_ch (x0.toInt32))), (0 : Int32)]))] (((x0.toUInt64 >>> ((32 : Int32) &&& 0x3f).toInt64.toUInt64).toInt64).toInt32)) (List.mem_of_getElem? (i := 5) rfl) (List.mem_of_getElem? (i := 6) rfl) (List.mem_of_getElem? (i := 2) rfl) (List.mem_of_getElem? (i := 7) rfl) (by decide) d1_19 rfl rfl (lenOf (ps := [.int]) (r := some .char) (by decide) rfl) rfl (Nat.le_of_eq rfl) (by decide) (by decide) (by decide) (by decide) ?_
  rintro _ _ ⟨rfl, rfl⟩
  show Go _ _ _ _ _ _ _ _ _ _ _ _ [d0, d1, (a1, IA Z .char (ints [(nar .char (f_ch (x0.toInt32))), (0 : Int32)]))] 1 2 22 #[.val (.long x0), .second, .val (.ref a1)] [(.int (f_ch (((x0.toUInt64 >>> ((32 : Int32) &&& 0x3f).toInt64.toUInt64).toInt64).toInt32))), (.int (1 : Int32)), (.ref a1)]
  refine g_castore C 23 (i := 2) [(nar .char (f_ch (x0.toInt32))), (nar .char (f_ch (((x0.toUInt64 >>> ((32 : Int32) &&& 0x3f).toInt64.toUInt64).toInt64).toInt32)))] [d0, d1, (a1, IA Z .char (ints [(nar .char (f_ch (x0.toInt32))), (nar .char (f_ch (((x0.toUInt64 >>> ((32 : Int32) &&& 0x3f).toInt64.toUInt64).toInt64).toInt32)))]))] rfl d1_22 rfl (by decide) (Nat.le_of_ble_eq_true rfl) rfl rfl ?_
  refine g_aloadN C 24 d1_23 rfl rfl rfl ?_
  exact g_aret C rfl rfl rfl d1_24 (by decide) (by decide) ⟨_, rfl, rfl⟩
theorem own_nlt0 {x : Int32} (h : 0 ≤ x.toInt) : ¬ x < 0 := by rw [Int32.lt_iff_toInt_lt]; have : (0 : Int32).toInt = 0 := rfl; omega
theorem own_inb {cs : List Int32} {k : Int32} (h0 : 0 ≤ k.toInt) (h1 : k.toInt < cs.length) : inb cs k = true := by
  have a : ¬ k < 0 := own_nlt0 h0
  have b : k.toNatClampNeg < cs.length := by show k.toInt.toNat < _; omega
  simp only [inb, a, b, decide_true, decide_false, Bool.not_false, Bool.and_self]
theorem own_add1 {k : Int32} (h0 : 0 ≤ k.toInt) (h1 : k.toInt ≤ 1000) : (k + 1).toInt = k.toInt + 1 := by
  have o : (1 : Int32).toInt = 1 := rfl
  rw [Int32.toInt_add, o]; exact Int.bmod_eq_of_le (by omega) (by omega)
theorem own_sub1 {k : Int32} (h0 : 0 ≤ k.toInt) (h1 : k.toInt ≤ 1000) : (k - 1).toInt = k.toInt - 1 := by
  have o : (1 : Int32).toInt = 1 := rfl
  rw [Int32.toInt_sub, o]; exact Int.bmod_eq_of_le (by omega) (by omega)
theorem own_p25 {cs : List Int32} {x11 aft x2 x3 : Int32} (hc : cs.length ≤ 100) (h0 : 0 ≤ x2.toInt) (h3 : x3.toInt ≤ cs.length) : ∀ (fuel : Nat) (ln ls k : Int32), x2.toInt ≤ k.toInt → k.toInt ≤ 200 → x3.toInt - k.toInt < fuel → 0 < fuel → ∃ r1 r2, P25 cs x11 aft x2 x3 fuel ln ls k = some (r1, r2) := by
  intro fuel
  induction fuel with
  | zero =>
    intro ln ls k a b d z
    exfalso; omega
  | succ fuel ih =>
    intro ln ls k a b d z
    rw [P25]
    by_cases h : k < x3
    · have h' := Int32.lt_iff_toInt_lt.mp h
      have e1 := own_add1 (k := k) (by omega) (by omega)
      have e2 := own_sub1 (k := k) (by omega) (by omega)
      have I := fun ln ls => ih ln ls (k + 1) (by omega) (by omega) (by omega) (by omega)
      have hk1 : ¬ k = x2 → inb cs (k - 1) = true := fun q => own_inb (by
        have : k.toInt ≠ x2.toInt := fun w => q (Int32.toInt_inj.mp w)
        omega) (by omega)
      rw [if_pos h, if_pos (own_inb (by omega) (by omega))]
      repeat' split
      all_goals first | exact I _ _ | (rename_i w1 w2; exact absurd (hk1 w1) w2)
    · rw [if_neg h]; exact ⟨_, _, rfl⟩

theorem own_m3 (y : Int32) : (y &&& (3 : Int32)) % (3 : Int32) = 0 ∨ (y &&& (3 : Int32)) % (3 : Int32) = 1 ∨ (y &&& (3 : Int32)) % (3 : Int32) = 2 := by
  obtain ⟨n, hn, e⟩ : ∃ n : Nat, n < 4 ∧ (y &&& 3) = Int32.ofNat n := by
    refine ⟨(y &&& 3).toBitVec.toNat, ?_, ?_⟩
    · have : (y &&& 3).toBitVec.toNat = y.toBitVec.toNat &&& 3 := by simp
      rw [this]
      exact Nat.lt_of_le_of_lt Nat.and_le_right (by decide)
    · apply Int32.toBitVec_inj.mp
      apply BitVec.eq_of_toNat_eq
      simp
  rw [e]
  match n, hn with
  | 0, _ | 1, _ | 2, _ | 3, _ => decide
theorem own_ex3 (cs : List Int32) (x11 aft x3 ln ls : Int32) (hc : cs.length = 2) (hx : x3 = 0 ∨ x3 = 1 ∨ x3 = 2) : ∃ r1 r2, P25 cs x11 aft (0 : Int32) x3 6 ln ls (0 : Int32) = some (r1, r2) := by
  have t0 : (0 : Int32).toInt = 0 := rfl
  have h3 : x3.toInt ≤ 2 := by rcases hx with rfl | rfl | rfl <;> decide
  exact own_p25 (by omega) (by decide) (by omega) 6 ln ls 0 (by decide) (by decide) (by omega) (by decide)
theorem own_hl3 {cs : List Int32} {x3 : Int32} (hc : cs.length = 2) (hx : x3 = 0 ∨ x3 = 1 ∨ x3 = 2) : (0 : Int32) < x3 → inb cs (x3 - (1 : Int32)) = true := by
  intro h
  have t0 : (0 : Int32).toInt = 0 := rfl
  have h3 : x3.toInt ≤ 2 := by rcases hx with rfl | rfl | rfl <;> decide
  rw [Int32.lt_iff_toInt_lt] at h
  have e2 := own_sub1 (k := x3) (by omega) (by omega)
  exact own_inb (by omega) (by omega)
theorem own_z {cs : List Int32} {x11 aft to ln ls r1 r2 : Int32} (h : to = (0 : Int32)) (hP : P25 cs x11 aft (0 : Int32) to 6 ln ls (0 : Int32) = some (r1, r2)) : ln = r1 ∧ ls = r2 := by
  subst h
  rw [P25, if_neg (by decide)] at hP
  exact Prod.mk.inj (Option.some.inj hP)
theorem own_back (x : Int32) : (((0 : Int32) - (((0 : Int32) - x) + (1 : Int32))) + (1 : Int32)) = x := by
  apply Int32.toBitVec_inj.mp
  simp only [Int32.toBitVec_add, Int32.toBitVec_sub]
  generalize x.toBitVec = y
  apply BitVec.eq_of_toNat_eq
  have hy := y.isLt
  have e0 : (0 : Int32).toBitVec.toNat = 0 := rfl
  have e1 : (1 : Int32).toBitVec.toNat = 1 := rfl
  simp only [BitVec.toNat_add, BitVec.toNat_sub, e0, e1]
  omega
theorem own_narA (cs : List Int32) (x2 x3 aft : Int32) : nar .boolean (passA cs x2 x3 aft) = passA cs x2 x3 aft := by
  unfold passA
  split
  · split <;> decide
  · show (aft &&& 1) &&& 1 = aft &&& 1
    rw [Int32.and_assoc]; rfl

set_option maxRecDepth 65536 in
set_option maxHeartbeats 40000000 in
theorem con_law (l : Launch) (Z : State) (a0 : Array Value) (hw : ∀ d ∈ tables_1, d.before a0 Z = true) (h0 : Heap) (x0 x1 x2 : Int64) (x3 : Int32)  :
    Con l Z x code maxLocals ret room_1 h0 #[(.long x0), (.long x1), (.long x2), (.int x3)] [] (fun v ds' => v = some (.int 1)) := by
  refine con_of (a0 := a0) (Ls := #[.val (.long x0), .second, .val (.long x1), .second, .val (.long x2), .second, .val (.int x3), .unset, .unset, .unset, .unset, .unset, .unset, .unset, .unset, .unset, .unset, .unset, .unset, .unset, .unset, .unset, .unset]) (plainFor_of_name (by first | (simp [plainName, overriddenIn]; done) | decide +kernel)) hw (fun m => by first | (simp [entryFrame, mkF, argsToLocals, Value.category, maxLocals]; done) | rfl) ?_
  intro p e s m below meth c C
  refine g_lloadN C 1 at_0 rfl rfl ?_
  refine g_static C 4 0 (argsL := [(.long x0)]) (St := []) (con_text0 l Z a0 C.2.2.1 h0  x0) (List.mem_of_getElem? (i := 0) rfl) (List.mem_of_getElem? (i := 1) rfl) (List.mem_of_getElem? (i := 2) rfl) (List.mem_of_getElem? (i := 3) rfl) (by decide) at_1 rfl rfl (lenOf (ps := [.long]) (r := some (.array .char)) (by decide) rfl) rfl (Nat.le_of_eq rfl) (by decide) (by decide) (by decide) (by decide) ?_
  rintro _ _ ⟨b1, rfl, rfl⟩
  show Go _ _ _ _ _ _ _ _ _ _ _ _ [(b1, IA Z .char (ints [(nar .char (f_ch x0.toInt32)), (nar .char (f_ch ((x0.toUInt64 >>> ((32 : Int32) &&& 0x3f).toInt64.toUInt64).toInt64).toInt32))]))] 1 2 4 #[.val (.long x0), .second, .val (.long x1), .second, .val (.long x2), .second, .val (.int x3), .unset, .unset, .unset, .unset, .unset, .unset, .unset, .unset, .unset, .unset, .unset, .unset, .unset, .unset, .unset, .unset] [(.ref b1)]
  generalize (nar .char (f_ch x0.toInt32)) = k0
  generalize (nar .char (f_ch ((x0.toUInt64 >>> ((32 : Int32) &&& 0x3f).toInt64.toUInt64).toInt64).toInt32)) = k1
  show Go _ _ _ _ _ _ _ _ _ _ _ _ [(b1, IA Z .char (ints [k0, k1]))] 1 2 4 #[.val (.long x0), .second, .val (.long x1), .second, .val (.long x2), .second, .val (.int x3), .unset, .unset, .unset, .unset, .unset, .unset, .unset, .unset, .unset, .unset, .unset, .unset, .unset, .unset, .unset, .unset] [(.ref b1)]
  refine g_astore C 6 #[.val (.long x0), .second, .val (.long x1), .second, .val (.long x2), .second, .val (.int x3), .val (.ref b1), .unset, .unset, .unset, .unset, .unset, .unset, .unset, .unset, .unset, .unset, .unset, .unset, .unset, .unset, .unset] at_4 rfl rfl rfl ?_
  refine g_lloadN C 7 at_6 rfl rfl ?_
  refine g_static C 10 0 (argsL := [(.long x1)]) (St := []) (con_text1 l Z a0 C.2.2.1 h0 (b1, IA Z .char (ints [k0, k1])) x1) (List.mem_of_getElem? (i := 0) rfl) (List.mem_of_getElem? (i := 1) rfl) (List.mem_of_getElem? (i := 2) rfl) (List.mem_of_getElem? (i := 3) rfl) (by decide) at_7 rfl rfl (lenOf (ps := [.long]) (r := some (.array .char)) (by decide) rfl) rfl (Nat.le_of_eq rfl) (by decide) (by decide) (by decide) (by decide) ?_
  rintro _ _ ⟨b2, rfl, rfl⟩
  show Go _ _ _ _ _ _ _ _ _ _ _ _ [(b1, IA Z .char (ints [k0, k1])), (b2, IA Z .char (ints [(nar .char (f_ch x1.toInt32)), (nar .char (f_ch ((x1.toUInt64 >>> ((32 : Int32) &&& 0x3f).toInt64.toUInt64).toInt64).toInt32))]))] 2 4 10 #[.val (.long x0), .second, .val (.long x1), .second, .val (.long x2), .second, .val (.int x3), .val (.ref b1), .unset, .unset, .unset, .unset, .unset, .unset, .unset, .unset, .unset, .unset, .unset, .unset, .unset, .unset, .unset] [(.ref b2)]
  generalize (nar .char (f_ch x1.toInt32)) = k2
  generalize (nar .char (f_ch ((x1.toUInt64 >>> ((32 : Int32) &&& 0x3f).toInt64.toUInt64).toInt64).toInt32)) = k3
  show Go _ _ _ _ _ _ _ _ _ _ _ _ [(b1, IA Z .char (ints [k0, k1])), (b2, IA Z .char (ints [k2, k3]))] 2 4 10 #[.val (.long x0), .second, .val (.long x1), .second, .val (.long x2), .second, .val (.int x3), .val (.ref b1), .unset, .unset, .unset, .unset, .unset, .unset, .unset, .unset, .unset, .unset, .unset, .unset, .unset, .unset, .unset] [(.ref b2)]
  refine g_astore C 12 #[.val (.long x0), .second, .val (.long x1), .second, .val (.long x2), .second, .val (.int x3), .val (.ref b1), .val (.ref b2), .unset, .unset, .unset, .unset, .unset, .unset, .unset, .unset, .unset, .unset, .unset, .unset, .unset, .unset] at_10 rfl rfl rfl ?_
  refine g_lload C 14 at_12 rfl rfl ?_
  refine g_static C 17 0 (argsL := [(.long x2)]) (St := []) (con_text2 l Z a0 C.2.2.1 h0 (b1, IA Z .char (ints [k0, k1])) (b2, IA Z .char (ints [k2, k3])) x2) (List.mem_of_getElem? (i := 0) rfl) (List.mem_of_getElem? (i := 1) rfl) (List.mem_of_getElem? (i := 2) rfl) (List.mem_of_getElem? (i := 3) rfl) (by decide) at_14 rfl rfl (lenOf (ps := [.long]) (r := some (.array .char)) (by decide) rfl) rfl (Nat.le_of_eq rfl) (by decide) (by decide) (by decide) (by decide) ?_
  rintro _ _ ⟨b3, rfl, rfl⟩
  show Go _ _ _ _ _ _ _ _ _ _ _ _ [(b1, IA Z .char (ints [k0, k1])), (b2, IA Z .char (ints [k2, k3])), (b3, IA Z .char (ints [(nar .char (f_ch x2.toInt32)), (nar .char (f_ch ((x2.toUInt64 >>> ((32 : Int32) &&& 0x3f).toInt64.toUInt64).toInt64).toInt32))]))] 3 6 17 #[.val (.long x0), .second, .val (.long x1), .second, .val (.long x2), .second, .val (.int x3), .val (.ref b1), .val (.ref b2), .unset, .unset, .unset, .unset, .unset, .unset, .unset, .unset, .unset, .unset, .unset, .unset, .unset, .unset] [(.ref b3)]
  generalize (nar .char (f_ch x2.toInt32)) = k4
  generalize (nar .char (f_ch ((x2.toUInt64 >>> ((32 : Int32) &&& 0x3f).toInt64.toUInt64).toInt64).toInt32)) = k5
  show Go _ _ _ _ _ _ _ _ _ _ _ _ [(b1, IA Z .char (ints [k0, k1])), (b2, IA Z .char (ints [k2, k3])), (b3, IA Z .char (ints [k4, k5]))] 3 6 17 #[.val (.long x0), .second, .val (.long x1), .second, .val (.long x2), .second, .val (.int x3), .val (.ref b1), .val (.ref b2), .unset, .unset, .unset, .unset, .unset, .unset, .unset, .unset, .unset, .unset, .unset, .unset, .unset, .unset] [(.ref b3)]
  refine g_astore C 19 #[.val (.long x0), .second, .val (.long x1), .second, .val (.long x2), .second, .val (.int x3), .val (.ref b1), .val (.ref b2), .val (.ref b3), .unset, .unset, .unset, .unset, .unset, .unset, .unset, .unset, .unset, .unset, .unset, .unset, .unset] at_17 rfl rfl rfl ?_
  refine g_iload C 21 at_19 rfl rfl ?_
  refine g_iconst C 22 (2 : Int32) at_21 rfl rfl ?_
  refine g_iushr C 23 at_22 rfl ?_
  refine g_iconst C 24 (3 : Int32) at_23 rfl rfl ?_
  refine g_iand C 25 at_24 rfl ?_
  refine g_iconst C 26 (3 : Int32) at_25 rfl rfl ?_
  refine g_irem C 27 at_26 rfl (by decide) ?_
  refine g_istore C 29 #[.val (.long x0), .second, .val (.long x1), .second, .val (.long x2), .second, .val (.int x3), .val (.ref b1), .val (.ref b2), .val (.ref b3), .val (.int ((((x3.toUInt32 >>> ((2 : Int32) &&& 31).toUInt32).toInt32) &&& (3 : Int32)) % (3 : Int32))), .unset, .unset, .unset, .unset, .unset, .unset, .unset, .unset, .unset, .unset, .unset, .unset] at_27 rfl rfl ?_
  generalize hv1 : ((((x3.toUInt32 >>> ((2 : Int32) &&& 31).toUInt32).toInt32) &&& (3 : Int32)) % (3 : Int32)) = v1
  have rgv1 : v1 = 0 ∨ v1 = 1 ∨ v1 = 2 := hv1 ▸ own_m3 _
  refine g_iload C 31 at_29 rfl rfl ?_
  refine g_iconst C 32 (4 : Int32) at_31 rfl rfl ?_
  refine g_iushr C 33 at_32 rfl ?_
  refine g_iconst C 34 (3 : Int32) at_33 rfl rfl ?_
  refine g_iand C 35 at_34 rfl ?_
  refine g_iconst C 36 (3 : Int32) at_35 rfl rfl ?_
  refine g_irem C 37 at_36 rfl (by decide) ?_
  refine g_istore C 39 #[.val (.long x0), .second, .val (.long x1), .second, .val (.long x2), .second, .val (.int x3), .val (.ref b1), .val (.ref b2), .val (.ref b3), .val (.int v1), .val (.int ((((x3.toUInt32 >>> ((4 : Int32) &&& 31).toUInt32).toInt32) &&& (3 : Int32)) % (3 : Int32))), .unset, .unset, .unset, .unset, .unset, .unset, .unset, .unset, .unset, .unset, .unset] at_37 rfl rfl ?_
  generalize hv2 : ((((x3.toUInt32 >>> ((4 : Int32) &&& 31).toUInt32).toInt32) &&& (3 : Int32)) % (3 : Int32)) = v2
  have rgv2 : v2 = 0 ∨ v2 = 1 ∨ v2 = 2 := hv2 ▸ own_m3 _
  refine g_iload C 41 at_39 rfl rfl ?_
  refine g_bipush C 43 (6 : Int32) at_41 rfl rfl ?_
  refine g_iushr C 44 at_43 rfl ?_
  refine g_iconst C 45 (3 : Int32) at_44 rfl rfl ?_
  refine g_iand C 46 at_45 rfl ?_
  refine g_iconst C 47 (3 : Int32) at_46 rfl rfl ?_
  refine g_irem C 48 at_47 rfl (by decide) ?_
  refine g_istore C 50 #[.val (.long x0), .second, .val (.long x1), .second, .val (.long x2), .second, .val (.int x3), .val (.ref b1), .val (.ref b2), .val (.ref b3), .val (.int v1), .val (.int v2), .val (.int ((((x3.toUInt32 >>> ((6 : Int32) &&& 31).toUInt32).toInt32) &&& (3 : Int32)) % (3 : Int32))), .unset, .unset, .unset, .unset, .unset, .unset, .unset, .unset, .unset, .unset] at_48 rfl rfl ?_
  generalize hv3 : ((((x3.toUInt32 >>> ((6 : Int32) &&& 31).toUInt32).toInt32) &&& (3 : Int32)) % (3 : Int32)) = v3
  have rgv3 : v3 = 0 ∨ v3 = 1 ∨ v3 = 2 := hv3 ▸ own_m3 _
  refine g_new C 53 [("com/example/revalidate/revalidate/DocumentDecoder$Place", "line", "I", (.int (0 : Int32))), ("com/example/revalidate/revalidate/DocumentDecoder$Place", "column", "I", (.int (0 : Int32))), ("com/example/revalidate/revalidate/DocumentDecoder$Place", "xml11", "Z", (.int (0 : Int32))), ("com/example/revalidate/revalidate/DocumentDecoder$Place", "afterReturn", "Z", (.int (0 : Int32)))] (List.mem_of_getElem? (i := 9) rfl) (List.mem_of_getElem? (i := 10) rfl) (List.mem_of_getElem? (i := 11) rfl) at_50 rfl (by decide) (by decide) (List.forall_mem_cons.mpr ⟨⟨Or.inl (List.mem_of_getElem? (i := 19) rfl), .int, by decide, rfl⟩, (List.forall_mem_cons.mpr ⟨⟨Or.inl (List.mem_of_getElem? (i := 21) rfl), .int, by decide, rfl⟩, (List.forall_mem_cons.mpr ⟨⟨Or.inl (List.mem_of_getElem? (i := 28) rfl), .boolean, by decide, rfl⟩, (List.forall_mem_cons.mpr ⟨⟨Or.inl (List.mem_of_getElem? (i := 35) rfl), .boolean, by decide, rfl⟩, (fun _ hx => nomatch hx)⟩)⟩)⟩)⟩) ?_
  intro a4
  show Go _ _ _ _ _ _ _ _ _ _ _ _ [(b1, IA Z .char (ints [k0, k1])), (b2, IA Z .char (ints [k2, k3])), (b3, IA Z .char (ints [k4, k5])), (a4, OB Z a0 "com/example/revalidate/revalidate/DocumentDecoder$Place" [("com/example/revalidate/revalidate/DocumentDecoder$Place", "line", "I", (.int (0 : Int32))), ("com/example/revalidate/revalidate/DocumentDecoder$Place", "column", "I", (.int (0 : Int32))), ("com/example/revalidate/revalidate/DocumentDecoder$Place", "xml11", "Z", (.int (0 : Int32))), ("com/example/revalidate/revalidate/DocumentDecoder$Place", "afterReturn", "Z", (.int (0 : Int32)))])] 4 10 53 #[.val (.long x0), .second, .val (.long x1), .second, .val (.long x2), .second, .val (.int x3), .val (.ref b1), .val (.ref b2), .val (.ref b3), .val (.int v1), .val (.int v2), .val (.int v3), .unset, .unset, .unset, .unset, .unset, .unset, .unset, .unset, .unset, .unset] [(.ref a4)]
  refine g_dup C 54 at_53 rfl rfl ?_
  refine g_special C 57 1 (argsL := []) (St := [(.ref a4)]) (con_init l Z a0 C.2.2.1 h0 [(b1, IA Z .char (ints [k0, k1])), (b2, IA Z .char (ints [k2, k3])), (b3, IA Z .char (ints [k4, k5])), (a4, OB Z a0 "com/example/revalidate/revalidate/DocumentDecoder$Place" [("com/example/revalidate/revalidate/DocumentDecoder$Place", "line", "I", (.int (0 : Int32))), ("com/example/revalidate/revalidate/DocumentDecoder$Place", "column", "I", (.int (0 : Int32))), ("com/example/revalidate/revalidate/DocumentDecoder$Place", "xml11", "Z", (.int (0 : Int32))), ("com/example/revalidate/revalidate/DocumentDecoder$Place", "afterReturn", "Z", (.int (0 : Int32)))])] 3 a4 rfl) rfl (List.mem_of_getElem? (i := 12) rfl) (List.mem_of_getElem? (i := 13) rfl) (List.mem_of_getElem? (i := 11) rfl) (List.mem_of_getElem? (i := 14) rfl) (by decide) at_54 rfl rfl (lenOf (ps := []) (r := none) (by decide) rfl) rfl (Nat.le_of_eq rfl) (by decide) (by decide) (by decide) (by decide) ?_
  rintro _ _ ⟨rfl, rfl⟩
  show Go _ _ _ _ _ _ _ _ _ _ _ _ [(b1, IA Z .char (ints [k0, k1])), (b2, IA Z .char (ints [k2, k3])), (b3, IA Z .char (ints [k4, k5])), (a4, OB Z a0 "com/example/revalidate/revalidate/DocumentDecoder$Place" [("com/example/revalidate/revalidate/DocumentDecoder$Place", "line", "I", (.int (1 : Int32))), ("com/example/revalidate/revalidate/DocumentDecoder$Place", "column", "I", (.int (1 : Int32))), ("com/example/revalidate/revalidate/DocumentDecoder$Place", "xml11", "Z", (.int (0 : Int32))), ("com/example/revalidate/revalidate/DocumentDecoder$Place", "afterReturn", "Z", (.int (0 : Int32)))])] 4 10 57 #[.val (.long x0), .second, .val (.long x1), .second, .val (.long x2), .second, .val (.int x3), .val (.ref b1), .val (.ref b2), .val (.ref b3), .val (.int v1), .val (.int v2), .val (.int v3), .unset, .unset, .unset, .unset, .unset, .unset, .unset, .unset, .unset, .unset] [(.ref a4)]
  refine g_astore C 59 #[.val (.long x0), .second, .val (.long x1), .second, .val (.long x2), .second, .val (.int x3), .val (.ref b1), .val (.ref b2), .val (.ref b3), .val (.int v1), .val (.int v2), .val (.int v3), .val (.ref a4), .unset, .unset, .unset, .unset, .unset, .unset, .unset, .unset, .unset] at_57 rfl rfl rfl ?_
  refine g_new C 62 [("com/example/revalidate/revalidate/DocumentDecoder$Place", "line", "I", (.int (0 : Int32))), ("com/example/revalidate/revalidate/DocumentDecoder$Place", "column", "I", (.int (0 : Int32))), ("com/example/revalidate/revalidate/DocumentDecoder$Place", "xml11", "Z", (.int (0 : Int32))), ("com/example/revalidate/revalidate/DocumentDecoder$Place", "afterReturn", "Z", (.int (0 : Int32)))] (List.mem_of_getElem? (i := 9) rfl) (List.mem_of_getElem? (i := 10) rfl) (List.mem_of_getElem? (i := 11) rfl) at_59 rfl (by decide) (by decide) (List.forall_mem_cons.mpr ⟨⟨Or.inl (List.mem_of_getElem? (i := 19) rfl), .int, by decide, rfl⟩, (List.forall_mem_cons.mpr ⟨⟨Or.inl (List.mem_of_getElem? (i := 21) rfl), .int, by decide, rfl⟩, (List.forall_mem_cons.mpr ⟨⟨Or.inl (List.mem_of_getElem? (i := 28) rfl), .boolean, by decide, rfl⟩, (List.forall_mem_cons.mpr ⟨⟨Or.inl (List.mem_of_getElem? (i := 35) rfl), .boolean, by decide, rfl⟩, (fun _ hx => nomatch hx)⟩)⟩)⟩)⟩) ?_
  intro a5
  show Go _ _ _ _ _ _ _ _ _ _ _ _ [(b1, IA Z .char (ints [k0, k1])), (b2, IA Z .char (ints [k2, k3])), (b3, IA Z .char (ints [k4, k5])), (a4, OB Z a0 "com/example/revalidate/revalidate/DocumentDecoder$Place" [("com/example/revalidate/revalidate/DocumentDecoder$Place", "line", "I", (.int (1 : Int32))), ("com/example/revalidate/revalidate/DocumentDecoder$Place", "column", "I", (.int (1 : Int32))), ("com/example/revalidate/revalidate/DocumentDecoder$Place", "xml11", "Z", (.int (0 : Int32))), ("com/example/revalidate/revalidate/DocumentDecoder$Place", "afterReturn", "Z", (.int (0 : Int32)))]), (a5, OB Z a0 "com/example/revalidate/revalidate/DocumentDecoder$Place" [("com/example/revalidate/revalidate/DocumentDecoder$Place", "line", "I", (.int (0 : Int32))), ("com/example/revalidate/revalidate/DocumentDecoder$Place", "column", "I", (.int (0 : Int32))), ("com/example/revalidate/revalidate/DocumentDecoder$Place", "xml11", "Z", (.int (0 : Int32))), ("com/example/revalidate/revalidate/DocumentDecoder$Place", "afterReturn", "Z", (.int (0 : Int32)))])] 5 14 62 #[.val (.long x0), .second, .val (.long x1), .second, .val (.long x2), .second, .val (.int x3), .val (.ref b1), .val (.ref b2), .val (.ref b3), .val (.int v1), .val (.int v2), .val (.int v3), .val (.ref a4), .unset, .unset, .unset, .unset, .unset, .unset, .unset, .unset, .unset] [(.ref a5)]
  refine g_dup C 63 at_62 rfl rfl ?_
  refine g_special C 66 1 (argsL := []) (St := [(.ref a5)]) (con_init l Z a0 C.2.2.1 h0 [(b1, IA Z .char (ints [k0, k1])), (b2, IA Z .char (ints [k2, k3])), (b3, IA Z .char (ints [k4, k5])), (a4, OB Z a0 "com/example/revalidate/revalidate/DocumentDecoder$Place" [("com/example/revalidate/revalidate/DocumentDecoder$Place", "line", "I", (.int (1 : Int32))), ("com/example/revalidate/revalidate/DocumentDecoder$Place", "column", "I", (.int (1 : Int32))), ("com/example/revalidate/revalidate/DocumentDecoder$Place", "xml11", "Z", (.int (0 : Int32))), ("com/example/revalidate/revalidate/DocumentDecoder$Place", "afterReturn", "Z", (.int (0 : Int32)))]), (a5, OB Z a0 "com/example/revalidate/revalidate/DocumentDecoder$Place" [("com/example/revalidate/revalidate/DocumentDecoder$Place", "line", "I", (.int (0 : Int32))), ("com/example/revalidate/revalidate/DocumentDecoder$Place", "column", "I", (.int (0 : Int32))), ("com/example/revalidate/revalidate/DocumentDecoder$Place", "xml11", "Z", (.int (0 : Int32))), ("com/example/revalidate/revalidate/DocumentDecoder$Place", "afterReturn", "Z", (.int (0 : Int32)))])] 4 a5 rfl) rfl (List.mem_of_getElem? (i := 12) rfl) (List.mem_of_getElem? (i := 13) rfl) (List.mem_of_getElem? (i := 11) rfl) (List.mem_of_getElem? (i := 14) rfl) (by decide) at_63 rfl rfl (lenOf (ps := []) (r := none) (by decide) rfl) rfl (Nat.le_of_eq rfl) (by decide) (by decide) (by decide) (by decide) ?_
  rintro _ _ ⟨rfl, rfl⟩
  show Go _ _ _ _ _ _ _ _ _ _ _ _ [(b1, IA Z .char (ints [k0, k1])), (b2, IA Z .char (ints [k2, k3])), (b3, IA Z .char (ints [k4, k5])), (a4, OB Z a0 "com/example/revalidate/revalidate/DocumentDecoder$Place" [("com/example/revalidate/revalidate/DocumentDecoder$Place", "line", "I", (.int (1 : Int32))), ("com/example/revalidate/revalidate/DocumentDecoder$Place", "column", "I", (.int (1 : Int32))), ("com/example/revalidate/revalidate/DocumentDecoder$Place", "xml11", "Z", (.int (0 : Int32))), ("com/example/revalidate/revalidate/DocumentDecoder$Place", "afterReturn", "Z", (.int (0 : Int32)))]), (a5, OB Z a0 "com/example/revalidate/revalidate/DocumentDecoder$Place" [("com/example/revalidate/revalidate/DocumentDecoder$Place", "line", "I", (.int (1 : Int32))), ("com/example/revalidate/revalidate/DocumentDecoder$Place", "column", "I", (.int (1 : Int32))), ("com/example/revalidate/revalidate/DocumentDecoder$Place", "xml11", "Z", (.int (0 : Int32))), ("com/example/revalidate/revalidate/DocumentDecoder$Place", "afterReturn", "Z", (.int (0 : Int32)))])] 5 14 66 #[.val (.long x0), .second, .val (.long x1), .second, .val (.long x2), .second, .val (.int x3), .val (.ref b1), .val (.ref b2), .val (.ref b3), .val (.int v1), .val (.int v2), .val (.int v3), .val (.ref a4), .unset, .unset, .unset, .unset, .unset, .unset, .unset, .unset, .unset] [(.ref a5)]
  refine g_astore C 68 #[.val (.long x0), .second, .val (.long x1), .second, .val (.long x2), .second, .val (.int x3), .val (.ref b1), .val (.ref b2), .val (.ref b3), .val (.int v1), .val (.int v2), .val (.int v3), .val (.ref a4), .val (.ref a5), .unset, .unset, .unset, .unset, .unset, .unset, .unset, .unset] at_66 rfl rfl rfl ?_
  refine g_iload C 70 at_68 rfl rfl ?_
  refine g_iconst C 71 (1 : Int32) at_70 rfl rfl ?_
  refine g_iand C 72 at_71 rfl ?_
  by_cases c6 : (x3 &&& (1 : Int32)) = (0 : Int32)
  · refine g_ifY C 80 at_72 (teq c6).1 (by decide) (by decide) ?_
    refine g_iload C 82 at_80 rfl rfl ?_
    refine g_iconst C 83 (2 : Int32) at_82 rfl rfl ?_
    refine g_iand C 84 at_83 rfl ?_
    by_cases c7 : (x3 &&& (2 : Int32)) = (0 : Int32)
    · refine g_ifY C 92 at_84 (teq c7).1 (by decide) (by decide) ?_
      refine g_aload C 94 at_92 rfl rfl rfl ?_
      refine g_aload C 96 at_94 rfl rfl rfl ?_
      refine g_iconst C 97 (0 : Int32) at_96 rfl rfl ?_
      refine g_iload C 99 at_97 rfl rfl ?_
      obtain ⟨r0, r1, hP0⟩ := own_ex3 [k0, k1] (0 : Int32) (0 : Int32) v1 (1 : Int32) (((0 : Int32) - (1 : Int32)) + (1 : Int32)) rfl rgv1
      have hl0 : (0 : Int32) < v1 → inb [k0, k1] (v1 - (1 : Int32)) = true := own_hl3 rfl rgv1
      refine g_virtual C 102 0 (i := 3) (argsL := [(.ref b1), (.int (0 : Int32)), (.int v1)]) (St := []) rfl (con_pass l Z a0 C.2.2.1 h0 [(b1, IA Z .char (ints [k0, k1])), (b2, IA Z .char (ints [k2, k3])), (b3, IA Z .char (ints [k4, k5])), (a4, OB Z a0 "com/example/revalidate/revalidate/DocumentDecoder$Place" [("com/example/revalidate/revalidate/DocumentDecoder$Place", "line", "I", (.int (1 : Int32))), ("com/example/revalidate/revalidate/DocumentDecoder$Place", "column", "I", (.int (1 : Int32))), ("com/example/revalidate/revalidate/DocumentDecoder$Place", "xml11", "Z", (.int (0 : Int32))), ("com/example/revalidate/revalidate/DocumentDecoder$Place", "afterReturn", "Z", (.int (0 : Int32)))]), (a5, OB Z a0 "com/example/revalidate/revalidate/DocumentDecoder$Place" [("com/example/revalidate/revalidate/DocumentDecoder$Place", "line", "I", (.int (1 : Int32))), ("com/example/revalidate/revalidate/DocumentDecoder$Place", "column", "I", (.int (1 : Int32))), ("com/example/revalidate/revalidate/DocumentDecoder$Place", "xml11", "Z", (.int (0 : Int32))), ("com/example/revalidate/revalidate/DocumentDecoder$Place", "afterReturn", "Z", (.int (0 : Int32)))])] 0 3 b1 a4 [k0, k1] (0 : Int32) v1 (1 : Int32) (1 : Int32) (0 : Int32) (0 : Int32) r0 r1 6 (by decide) rfl rfl hP0 hl0) (List.mem_of_getElem? (i := 29) rfl) (List.mem_of_getElem? (i := 30) rfl) (List.mem_of_getElem? (i := 32) rfl) (List.mem_of_getElem? (i := 31) rfl) (List.mem_of_getElem? (i := 11) rfl) (List.mem_of_getElem? (i := 33) rfl) (by decide) at_99 rfl rfl (lenOf (ps := [(.array .char), .int, .int]) (r := none) (by decide) rfl) rfl (Nat.le_of_eq rfl) (by decide) (by decide) (by decide) (by decide) ?_
      rintro _ _ ⟨rfl, rfl⟩
      show Go _ _ _ _ _ _ _ _ _ _ _ _ [(b1, IA Z .char (ints [k0, k1])), (b2, IA Z .char (ints [k2, k3])), (b3, IA Z .char (ints [k4, k5])), (a4, OB Z a0 "com/example/revalidate/revalidate/DocumentDecoder$Place" [("com/example/revalidate/revalidate/DocumentDecoder$Place", "line", "I", (.int r0)), ("com/example/revalidate/revalidate/DocumentDecoder$Place", "column", "I", (.int ((v1 - r1) + (1 : Int32)))), ("com/example/revalidate/revalidate/DocumentDecoder$Place", "xml11", "Z", (.int (0 : Int32))), ("com/example/revalidate/revalidate/DocumentDecoder$Place", "afterReturn", "Z", (.int (passA [k0, k1] (0 : Int32) v1 (0 : Int32))))]), (a5, OB Z a0 "com/example/revalidate/revalidate/DocumentDecoder$Place" [("com/example/revalidate/revalidate/DocumentDecoder$Place", "line", "I", (.int (1 : Int32))), ("com/example/revalidate/revalidate/DocumentDecoder$Place", "column", "I", (.int (1 : Int32))), ("com/example/revalidate/revalidate/DocumentDecoder$Place", "xml11", "Z", (.int (0 : Int32))), ("com/example/revalidate/revalidate/DocumentDecoder$Place", "afterReturn", "Z", (.int (0 : Int32)))])] 5 14 102 #[.val (.long x0), .second, .val (.long x1), .second, .val (.long x2), .second, .val (.int x3), .val (.ref b1), .val (.ref b2), .val (.ref b3), .val (.int v1), .val (.int v2), .val (.int v3), .val (.ref a4), .val (.ref a5), .unset, .unset, .unset, .unset, .unset, .unset, .unset, .unset] []
      refine g_aload C 104 at_102 rfl rfl rfl ?_
      refine g_aload C 106 at_104 rfl rfl rfl ?_
      refine g_iconst C 107 (0 : Int32) at_106 rfl rfl ?_
      refine g_iload C 109 at_107 rfl rfl ?_
      obtain ⟨r2, r3, hP1⟩ := own_ex3 [k2, k3] (0 : Int32) (0 : Int32) v2 (1 : Int32) (((0 : Int32) - (1 : Int32)) + (1 : Int32)) rfl rgv2
      have hl1 : (0 : Int32) < v2 → inb [k2, k3] (v2 - (1 : Int32)) = true := own_hl3 rfl rgv2
      refine g_virtual C 112 0 (i := 4) (argsL := [(.ref b2), (.int (0 : Int32)), (.int v2)]) (St := []) rfl (con_pass l Z a0 C.2.2.1 h0 [(b1, IA Z .char (ints [k0, k1])), (b2, IA Z .char (ints [k2, k3])), (b3, IA Z .char (ints [k4, k5])), (a4, OB Z a0 "com/example/revalidate/revalidate/DocumentDecoder$Place" [("com/example/revalidate/revalidate/DocumentDecoder$Place", "line", "I", (.int r0)), ("com/example/revalidate/revalidate/DocumentDecoder$Place", "column", "I", (.int ((v1 - r1) + (1 : Int32)))), ("com/example/revalidate/revalidate/DocumentDecoder$Place", "xml11", "Z", (.int (0 : Int32))), ("com/example/revalidate/revalidate/DocumentDecoder$Place", "afterReturn", "Z", (.int (passA [k0, k1] (0 : Int32) v1 (0 : Int32))))]), (a5, OB Z a0 "com/example/revalidate/revalidate/DocumentDecoder$Place" [("com/example/revalidate/revalidate/DocumentDecoder$Place", "line", "I", (.int (1 : Int32))), ("com/example/revalidate/revalidate/DocumentDecoder$Place", "column", "I", (.int (1 : Int32))), ("com/example/revalidate/revalidate/DocumentDecoder$Place", "xml11", "Z", (.int (0 : Int32))), ("com/example/revalidate/revalidate/DocumentDecoder$Place", "afterReturn", "Z", (.int (0 : Int32)))])] 1 4 b2 a5 [k2, k3] (0 : Int32) v2 (1 : Int32) (1 : Int32) (0 : Int32) (0 : Int32) r2 r3 6 (by decide) rfl rfl hP1 hl1) (List.mem_of_getElem? (i := 29) rfl) (List.mem_of_getElem? (i := 30) rfl) (List.mem_of_getElem? (i := 32) rfl) (List.mem_of_getElem? (i := 31) rfl) (List.mem_of_getElem? (i := 11) rfl) (List.mem_of_getElem? (i := 33) rfl) (by decide) at_109 rfl rfl (lenOf (ps := [(.array .char), .int, .int]) (r := none) (by decide) rfl) rfl (Nat.le_of_eq rfl) (by decide) (by decide) (by decide) (by decide) ?_
      rintro _ _ ⟨rfl, rfl⟩
      show Go _ _ _ _ _ _ _ _ _ _ _ _ [(b1, IA Z .char (ints [k0, k1])), (b2, IA Z .char (ints [k2, k3])), (b3, IA Z .char (ints [k4, k5])), (a4, OB Z a0 "com/example/revalidate/revalidate/DocumentDecoder$Place" [("com/example/revalidate/revalidate/DocumentDecoder$Place", "line", "I", (.int r0)), ("com/example/revalidate/revalidate/DocumentDecoder$Place", "column", "I", (.int ((v1 - r1) + (1 : Int32)))), ("com/example/revalidate/revalidate/DocumentDecoder$Place", "xml11", "Z", (.int (0 : Int32))), ("com/example/revalidate/revalidate/DocumentDecoder$Place", "afterReturn", "Z", (.int (passA [k0, k1] (0 : Int32) v1 (0 : Int32))))]), (a5, OB Z a0 "com/example/revalidate/revalidate/DocumentDecoder$Place" [("com/example/revalidate/revalidate/DocumentDecoder$Place", "line", "I", (.int r2)), ("com/example/revalidate/revalidate/DocumentDecoder$Place", "column", "I", (.int ((v2 - r3) + (1 : Int32)))), ("com/example/revalidate/revalidate/DocumentDecoder$Place", "xml11", "Z", (.int (0 : Int32))), ("com/example/revalidate/revalidate/DocumentDecoder$Place", "afterReturn", "Z", (.int (passA [k2, k3] (0 : Int32) v2 (0 : Int32))))])] 5 14 112 #[.val (.long x0), .second, .val (.long x1), .second, .val (.long x2), .second, .val (.int x3), .val (.ref b1), .val (.ref b2), .val (.ref b3), .val (.int v1), .val (.int v2), .val (.int v3), .val (.ref a4), .val (.ref a5), .unset, .unset, .unset, .unset, .unset, .unset, .unset, .unset] []
      refine g_aload C 114 at_112 rfl rfl rfl ?_
      refine g_virtual C 117 0 (i := 4) (argsL := []) (St := []) rfl (con_line l Z a0 C.2.2.1 h0 [(b1, IA Z .char (ints [k0, k1])), (b2, IA Z .char (ints [k2, k3])), (b3, IA Z .char (ints [k4, k5])), (a4, OB Z a0 "com/example/revalidate/revalidate/DocumentDecoder$Place" [("com/example/revalidate/revalidate/DocumentDecoder$Place", "line", "I", (.int r0)), ("com/example/revalidate/revalidate/DocumentDecoder$Place", "column", "I", (.int ((v1 - r1) + (1 : Int32)))), ("com/example/revalidate/revalidate/DocumentDecoder$Place", "xml11", "Z", (.int (0 : Int32))), ("com/example/revalidate/revalidate/DocumentDecoder$Place", "afterReturn", "Z", (.int (passA [k0, k1] (0 : Int32) v1 (0 : Int32))))]), (a5, OB Z a0 "com/example/revalidate/revalidate/DocumentDecoder$Place" [("com/example/revalidate/revalidate/DocumentDecoder$Place", "line", "I", (.int r2)), ("com/example/revalidate/revalidate/DocumentDecoder$Place", "column", "I", (.int ((v2 - r3) + (1 : Int32)))), ("com/example/revalidate/revalidate/DocumentDecoder$Place", "xml11", "Z", (.int (0 : Int32))), ("com/example/revalidate/revalidate/DocumentDecoder$Place", "afterReturn", "Z", (.int (passA [k2, k3] (0 : Int32) v2 (0 : Int32))))])] 4 a5 r2 ((v2 - r3) + (1 : Int32)) (0 : Int32) (passA [k2, k3] (0 : Int32) v2 (0 : Int32)) rfl) (List.mem_of_getElem? (i := 36) rfl) (List.mem_of_getElem? (i := 37) rfl) (List.mem_of_getElem? (i := 39) rfl) (List.mem_of_getElem? (i := 38) rfl) (List.mem_of_getElem? (i := 11) rfl) (List.mem_of_getElem? (i := 40) rfl) (by decide) at_114 rfl rfl (lenOf (ps := []) (r := some .int) (by decide) rfl) rfl (Nat.le_of_eq rfl) (by decide) (by decide) (by decide) (by decide) ?_
      rintro _ _ ⟨rfl, rfl⟩
      show Go _ _ _ _ _ _ _ _ _ _ _ _ [(b1, IA Z .char (ints [k0, k1])), (b2, IA Z .char (ints [k2, k3])), (b3, IA Z .char (ints [k4, k5])), (a4, OB Z a0 "com/example/revalidate/revalidate/DocumentDecoder$Place" [("com/example/revalidate/revalidate/DocumentDecoder$Place", "line", "I", (.int r0)), ("com/example/revalidate/revalidate/DocumentDecoder$Place", "column", "I", (.int ((v1 - r1) + (1 : Int32)))), ("com/example/revalidate/revalidate/DocumentDecoder$Place", "xml11", "Z", (.int (0 : Int32))), ("com/example/revalidate/revalidate/DocumentDecoder$Place", "afterReturn", "Z", (.int (passA [k0, k1] (0 : Int32) v1 (0 : Int32))))]), (a5, OB Z a0 "com/example/revalidate/revalidate/DocumentDecoder$Place" [("com/example/revalidate/revalidate/DocumentDecoder$Place", "line", "I", (.int r2)), ("com/example/revalidate/revalidate/DocumentDecoder$Place", "column", "I", (.int ((v2 - r3) + (1 : Int32)))), ("com/example/revalidate/revalidate/DocumentDecoder$Place", "xml11", "Z", (.int (0 : Int32))), ("com/example/revalidate/revalidate/DocumentDecoder$Place", "afterReturn", "Z", (.int (passA [k2, k3] (0 : Int32) v2 (0 : Int32))))])] 5 14 117 #[.val (.long x0), .second, .val (.long x1), .second, .val (.long x2), .second, .val (.int x3), .val (.ref b1), .val (.ref b2), .val (.ref b3), .val (.int v1), .val (.int v2), .val (.int v3), .val (.ref a4), .val (.ref a5), .unset, .unset, .unset, .unset, .unset, .unset, .unset, .unset] [(.int r2)]
      refine g_istore C 119 #[.val (.long x0), .second, .val (.long x1), .second, .val (.long x2), .second, .val (.int x3), .val (.ref b1), .val (.ref b2), .val (.ref b3), .val (.int v1), .val (.int v2), .val (.int v3), .val (.ref a4), .val (.ref a5), .val (.int r2), .unset, .unset, .unset, .unset, .unset, .unset, .unset] at_117 rfl rfl ?_
      refine g_aload C 121 at_119 rfl rfl rfl ?_
      refine g_virtual C 124 0 (i := 4) (argsL := []) (St := []) rfl (con_column l Z a0 C.2.2.1 h0 [(b1, IA Z .char (ints [k0, k1])), (b2, IA Z .char (ints [k2, k3])), (b3, IA Z .char (ints [k4, k5])), (a4, OB Z a0 "com/example/revalidate/revalidate/DocumentDecoder$Place" [("com/example/revalidate/revalidate/DocumentDecoder$Place", "line", "I", (.int r0)), ("com/example/revalidate/revalidate/DocumentDecoder$Place", "column", "I", (.int ((v1 - r1) + (1 : Int32)))), ("com/example/revalidate/revalidate/DocumentDecoder$Place", "xml11", "Z", (.int (0 : Int32))), ("com/example/revalidate/revalidate/DocumentDecoder$Place", "afterReturn", "Z", (.int (passA [k0, k1] (0 : Int32) v1 (0 : Int32))))]), (a5, OB Z a0 "com/example/revalidate/revalidate/DocumentDecoder$Place" [("com/example/revalidate/revalidate/DocumentDecoder$Place", "line", "I", (.int r2)), ("com/example/revalidate/revalidate/DocumentDecoder$Place", "column", "I", (.int ((v2 - r3) + (1 : Int32)))), ("com/example/revalidate/revalidate/DocumentDecoder$Place", "xml11", "Z", (.int (0 : Int32))), ("com/example/revalidate/revalidate/DocumentDecoder$Place", "afterReturn", "Z", (.int (passA [k2, k3] (0 : Int32) v2 (0 : Int32))))])] 4 a5 r2 ((v2 - r3) + (1 : Int32)) (0 : Int32) (passA [k2, k3] (0 : Int32) v2 (0 : Int32)) rfl) (List.mem_of_getElem? (i := 41) rfl) (List.mem_of_getElem? (i := 42) rfl) (List.mem_of_getElem? (i := 44) rfl) (List.mem_of_getElem? (i := 43) rfl) (List.mem_of_getElem? (i := 11) rfl) (List.mem_of_getElem? (i := 45) rfl) (by decide) at_121 rfl rfl (lenOf (ps := []) (r := some .int) (by decide) rfl) rfl (Nat.le_of_eq rfl) (by decide) (by decide) (by decide) (by decide) ?_
      rintro _ _ ⟨rfl, rfl⟩
      show Go _ _ _ _ _ _ _ _ _ _ _ _ [(b1, IA Z .char (ints [k0, k1])), (b2, IA Z .char (ints [k2, k3])), (b3, IA Z .char (ints [k4, k5])), (a4, OB Z a0 "com/example/revalidate/revalidate/DocumentDecoder$Place" [("com/example/revalidate/revalidate/DocumentDecoder$Place", "line", "I", (.int r0)), ("com/example/revalidate/revalidate/DocumentDecoder$Place", "column", "I", (.int ((v1 - r1) + (1 : Int32)))), ("com/example/revalidate/revalidate/DocumentDecoder$Place", "xml11", "Z", (.int (0 : Int32))), ("com/example/revalidate/revalidate/DocumentDecoder$Place", "afterReturn", "Z", (.int (passA [k0, k1] (0 : Int32) v1 (0 : Int32))))]), (a5, OB Z a0 "com/example/revalidate/revalidate/DocumentDecoder$Place" [("com/example/revalidate/revalidate/DocumentDecoder$Place", "line", "I", (.int r2)), ("com/example/revalidate/revalidate/DocumentDecoder$Place", "column", "I", (.int ((v2 - r3) + (1 : Int32)))), ("com/example/revalidate/revalidate/DocumentDecoder$Place", "xml11", "Z", (.int (0 : Int32))), ("com/example/revalidate/revalidate/DocumentDecoder$Place", "afterReturn", "Z", (.int (passA [k2, k3] (0 : Int32) v2 (0 : Int32))))])] 5 14 124 #[.val (.long x0), .second, .val (.long x1), .second, .val (.long x2), .second, .val (.int x3), .val (.ref b1), .val (.ref b2), .val (.ref b3), .val (.int v1), .val (.int v2), .val (.int v3), .val (.ref a4), .val (.ref a5), .val (.int r2), .unset, .unset, .unset, .unset, .unset, .unset, .unset] [(.int ((v2 - r3) + (1 : Int32)))]
      refine g_istore C 126 #[.val (.long x0), .second, .val (.long x1), .second, .val (.long x2), .second, .val (.int x3), .val (.ref b1), .val (.ref b2), .val (.ref b3), .val (.int v1), .val (.int v2), .val (.int v3), .val (.ref a4), .val (.ref a5), .val (.int r2), .val (.int ((v2 - r3) + (1 : Int32))), .unset, .unset, .unset, .unset, .unset, .unset] at_124 rfl rfl ?_
      generalize hv8 : ((v2 - r3) + (1 : Int32)) = v8
      refine g_aload C 128 at_126 rfl rfl rfl ?_
      refine g_aload C 130 at_128 rfl rfl rfl ?_
      refine g_virtual C 133 0 (i := 3) (argsL := [(.ref a5)]) (St := []) rfl (con_move l Z a0 C.2.2.1 h0 [(b1, IA Z .char (ints [k0, k1])), (b2, IA Z .char (ints [k2, k3])), (b3, IA Z .char (ints [k4, k5])), (a4, OB Z a0 "com/example/revalidate/revalidate/DocumentDecoder$Place" [("com/example/revalidate/revalidate/DocumentDecoder$Place", "line", "I", (.int r0)), ("com/example/revalidate/revalidate/DocumentDecoder$Place", "column", "I", (.int ((v1 - r1) + (1 : Int32)))), ("com/example/revalidate/revalidate/DocumentDecoder$Place", "xml11", "Z", (.int (0 : Int32))), ("com/example/revalidate/revalidate/DocumentDecoder$Place", "afterReturn", "Z", (.int (passA [k0, k1] (0 : Int32) v1 (0 : Int32))))]), (a5, OB Z a0 "com/example/revalidate/revalidate/DocumentDecoder$Place" [("com/example/revalidate/revalidate/DocumentDecoder$Place", "line", "I", (.int r2)), ("com/example/revalidate/revalidate/DocumentDecoder$Place", "column", "I", (.int v8)), ("com/example/revalidate/revalidate/DocumentDecoder$Place", "xml11", "Z", (.int (0 : Int32))), ("com/example/revalidate/revalidate/DocumentDecoder$Place", "afterReturn", "Z", (.int (passA [k2, k3] (0 : Int32) v2 (0 : Int32))))])] 3 4 a4 a5 r0 ((v1 - r1) + (1 : Int32)) (0 : Int32) (passA [k0, k1] (0 : Int32) v1 (0 : Int32)) r2 v8 (0 : Int32) (passA [k2, k3] (0 : Int32) v2 (0 : Int32)) (by decide) rfl rfl) (List.mem_of_getElem? (i := 46) rfl) (List.mem_of_getElem? (i := 47) rfl) (List.mem_of_getElem? (i := 49) rfl) (List.mem_of_getElem? (i := 48) rfl) (List.mem_of_getElem? (i := 11) rfl) (List.mem_of_getElem? (i := 50) rfl) (by decide) at_130 rfl rfl (lenOf (ps := [(.object "com/example/revalidate/revalidate/DocumentDecoder$Place")]) (r := none) (by decide) rfl) rfl (Nat.le_of_eq rfl) (by decide) (by decide) (by decide) (by decide) ?_
      rintro _ _ ⟨rfl, rfl⟩
      show Go _ _ _ _ _ _ _ _ _ _ _ _ [(b1, IA Z .char (ints [k0, k1])), (b2, IA Z .char (ints [k2, k3])), (b3, IA Z .char (ints [k4, k5])), (a4, OB Z a0 "com/example/revalidate/revalidate/DocumentDecoder$Place" [("com/example/revalidate/revalidate/DocumentDecoder$Place", "line", "I", (.int r2)), ("com/example/revalidate/revalidate/DocumentDecoder$Place", "column", "I", (.int v8)), ("com/example/revalidate/revalidate/DocumentDecoder$Place", "xml11", "Z", (.int (nar .boolean (0 : Int32)))), ("com/example/revalidate/revalidate/DocumentDecoder$Place", "afterReturn", "Z", (.int (nar .boolean (passA [k2, k3] (0 : Int32) v2 (0 : Int32)))))]), (a5, OB Z a0 "com/example/revalidate/revalidate/DocumentDecoder$Place" [("com/example/revalidate/revalidate/DocumentDecoder$Place", "line", "I", (.int r2)), ("com/example/revalidate/revalidate/DocumentDecoder$Place", "column", "I", (.int v8)), ("com/example/revalidate/revalidate/DocumentDecoder$Place", "xml11", "Z", (.int (0 : Int32))), ("com/example/revalidate/revalidate/DocumentDecoder$Place", "afterReturn", "Z", (.int (passA [k2, k3] (0 : Int32) v2 (0 : Int32))))])] 5 14 133 #[.val (.long x0), .second, .val (.long x1), .second, .val (.long x2), .second, .val (.int x3), .val (.ref b1), .val (.ref b2), .val (.ref b3), .val (.int v1), .val (.int v2), .val (.int v3), .val (.ref a4), .val (.ref a5), .val (.int r2), .val (.int v8), .unset, .unset, .unset, .unset, .unset, .unset] []
      rw [own_narA, show nar .boolean (0 : Int32) = (0 : Int32) from by decide]
      show Go _ _ _ _ _ _ _ _ _ _ _ _ [(b1, IA Z .char (ints [k0, k1])), (b2, IA Z .char (ints [k2, k3])), (b3, IA Z .char (ints [k4, k5])), (a4, OB Z a0 "com/example/revalidate/revalidate/DocumentDecoder$Place" [("com/example/revalidate/revalidate/DocumentDecoder$Place", "line", "I", (.int r2)), ("com/example/revalidate/revalidate/DocumentDecoder$Place", "column", "I", (.int v8)), ("com/example/revalidate/revalidate/DocumentDecoder$Place", "xml11", "Z", (.int (0 : Int32))), ("com/example/revalidate/revalidate/DocumentDecoder$Place", "afterReturn", "Z", (.int (passA [k2, k3] (0 : Int32) v2 (0 : Int32))))]), (a5, OB Z a0 "com/example/revalidate/revalidate/DocumentDecoder$Place" [("com/example/revalidate/revalidate/DocumentDecoder$Place", "line", "I", (.int r2)), ("com/example/revalidate/revalidate/DocumentDecoder$Place", "column", "I", (.int v8)), ("com/example/revalidate/revalidate/DocumentDecoder$Place", "xml11", "Z", (.int (0 : Int32))), ("com/example/revalidate/revalidate/DocumentDecoder$Place", "afterReturn", "Z", (.int (passA [k2, k3] (0 : Int32) v2 (0 : Int32))))])] 5 14 133 #[.val (.long x0), .second, .val (.long x1), .second, .val (.long x2), .second, .val (.int x3), .val (.ref b1), .val (.ref b2), .val (.ref b3), .val (.int v1), .val (.int v2), .val (.int v3), .val (.ref a4), .val (.ref a5), .val (.int r2), .val (.int v8), .unset, .unset, .unset, .unset, .unset, .unset] []
      refine g_aload C 135 at_133 rfl rfl rfl ?_
      refine g_aload C 137 at_135 rfl rfl rfl ?_
      refine g_iconst C 138 (0 : Int32) at_137 rfl rfl ?_
      refine g_iload C 140 at_138 rfl rfl ?_
      obtain ⟨r4, r5, hP2⟩ := own_ex3 [k4, k5] (0 : Int32) (passA [k2, k3] (0 : Int32) v2 (0 : Int32)) v3 r2 (((0 : Int32) - v8) + (1 : Int32)) rfl rgv3
      have hl2 : (0 : Int32) < v3 → inb [k4, k5] (v3 - (1 : Int32)) = true := own_hl3 rfl rgv3
      refine g_virtual C 143 0 (i := 3) (argsL := [(.ref b3), (.int (0 : Int32)), (.int v3)]) (St := []) rfl (con_pass l Z a0 C.2.2.1 h0 [(b1, IA Z .char (ints [k0, k1])), (b2, IA Z .char (ints [k2, k3])), (b3, IA Z .char (ints [k4, k5])), (a4, OB Z a0 "com/example/revalidate/revalidate/DocumentDecoder$Place" [("com/example/revalidate/revalidate/DocumentDecoder$Place", "line", "I", (.int r2)), ("com/example/revalidate/revalidate/DocumentDecoder$Place", "column", "I", (.int v8)), ("com/example/revalidate/revalidate/DocumentDecoder$Place", "xml11", "Z", (.int (0 : Int32))), ("com/example/revalidate/revalidate/DocumentDecoder$Place", "afterReturn", "Z", (.int (passA [k2, k3] (0 : Int32) v2 (0 : Int32))))]), (a5, OB Z a0 "com/example/revalidate/revalidate/DocumentDecoder$Place" [("com/example/revalidate/revalidate/DocumentDecoder$Place", "line", "I", (.int r2)), ("com/example/revalidate/revalidate/DocumentDecoder$Place", "column", "I", (.int v8)), ("com/example/revalidate/revalidate/DocumentDecoder$Place", "xml11", "Z", (.int (0 : Int32))), ("com/example/revalidate/revalidate/DocumentDecoder$Place", "afterReturn", "Z", (.int (passA [k2, k3] (0 : Int32) v2 (0 : Int32))))])] 2 3 b3 a4 [k4, k5] (0 : Int32) v3 r2 v8 (0 : Int32) (passA [k2, k3] (0 : Int32) v2 (0 : Int32)) r4 r5 6 (by decide) rfl rfl hP2 hl2) (List.mem_of_getElem? (i := 29) rfl) (List.mem_of_getElem? (i := 30) rfl) (List.mem_of_getElem? (i := 32) rfl) (List.mem_of_getElem? (i := 31) rfl) (List.mem_of_getElem? (i := 11) rfl) (List.mem_of_getElem? (i := 33) rfl) (by decide) at_140 rfl rfl (lenOf (ps := [(.array .char), .int, .int]) (r := none) (by decide) rfl) rfl (Nat.le_of_eq rfl) (by decide) (by decide) (by decide) (by decide) ?_
      rintro _ _ ⟨rfl, rfl⟩
      show Go _ _ _ _ _ _ _ _ _ _ _ _ [(b1, IA Z .char (ints [k0, k1])), (b2, IA Z .char (ints [k2, k3])), (b3, IA Z .char (ints [k4, k5])), (a4, OB Z a0 "com/example/revalidate/revalidate/DocumentDecoder$Place" [("com/example/revalidate/revalidate/DocumentDecoder$Place", "line", "I", (.int r4)), ("com/example/revalidate/revalidate/DocumentDecoder$Place", "column", "I", (.int ((v3 - r5) + (1 : Int32)))), ("com/example/revalidate/revalidate/DocumentDecoder$Place", "xml11", "Z", (.int (0 : Int32))), ("com/example/revalidate/revalidate/DocumentDecoder$Place", "afterReturn", "Z", (.int (passA [k4, k5] (0 : Int32) v3 (passA [k2, k3] (0 : Int32) v2 (0 : Int32)))))]), (a5, OB Z a0 "com/example/revalidate/revalidate/DocumentDecoder$Place" [("com/example/revalidate/revalidate/DocumentDecoder$Place", "line", "I", (.int r2)), ("com/example/revalidate/revalidate/DocumentDecoder$Place", "column", "I", (.int v8)), ("com/example/revalidate/revalidate/DocumentDecoder$Place", "xml11", "Z", (.int (0 : Int32))), ("com/example/revalidate/revalidate/DocumentDecoder$Place", "afterReturn", "Z", (.int (passA [k2, k3] (0 : Int32) v2 (0 : Int32))))])] 5 14 143 #[.val (.long x0), .second, .val (.long x1), .second, .val (.long x2), .second, .val (.int x3), .val (.ref b1), .val (.ref b2), .val (.ref b3), .val (.int v1), .val (.int v2), .val (.int v3), .val (.ref a4), .val (.ref a5), .val (.int r2), .val (.int v8), .unset, .unset, .unset, .unset, .unset, .unset] []
      refine g_aload C 145 at_143 rfl rfl rfl ?_
      refine g_aload C 147 at_145 rfl rfl rfl ?_
      refine g_iconst C 148 (0 : Int32) at_147 rfl rfl ?_
      refine g_iload C 150 at_148 rfl rfl ?_
      refine g_virtual C 153 0 (i := 4) (argsL := [(.ref b3), (.int (0 : Int32)), (.int v3)]) (St := []) rfl (con_pass l Z a0 C.2.2.1 h0 [(b1, IA Z .char (ints [k0, k1])), (b2, IA Z .char (ints [k2, k3])), (b3, IA Z .char (ints [k4, k5])), (a4, OB Z a0 "com/example/revalidate/revalidate/DocumentDecoder$Place" [("com/example/revalidate/revalidate/DocumentDecoder$Place", "line", "I", (.int r4)), ("com/example/revalidate/revalidate/DocumentDecoder$Place", "column", "I", (.int ((v3 - r5) + (1 : Int32)))), ("com/example/revalidate/revalidate/DocumentDecoder$Place", "xml11", "Z", (.int (0 : Int32))), ("com/example/revalidate/revalidate/DocumentDecoder$Place", "afterReturn", "Z", (.int (passA [k4, k5] (0 : Int32) v3 (passA [k2, k3] (0 : Int32) v2 (0 : Int32)))))]), (a5, OB Z a0 "com/example/revalidate/revalidate/DocumentDecoder$Place" [("com/example/revalidate/revalidate/DocumentDecoder$Place", "line", "I", (.int r2)), ("com/example/revalidate/revalidate/DocumentDecoder$Place", "column", "I", (.int v8)), ("com/example/revalidate/revalidate/DocumentDecoder$Place", "xml11", "Z", (.int (0 : Int32))), ("com/example/revalidate/revalidate/DocumentDecoder$Place", "afterReturn", "Z", (.int (passA [k2, k3] (0 : Int32) v2 (0 : Int32))))])] 2 4 b3 a5 [k4, k5] (0 : Int32) v3 r2 v8 (0 : Int32) (passA [k2, k3] (0 : Int32) v2 (0 : Int32)) r4 r5 6 (by decide) rfl rfl hP2 hl2) (List.mem_of_getElem? (i := 29) rfl) (List.mem_of_getElem? (i := 30) rfl) (List.mem_of_getElem? (i := 32) rfl) (List.mem_of_getElem? (i := 31) rfl) (List.mem_of_getElem? (i := 11) rfl) (List.mem_of_getElem? (i := 33) rfl) (by decide) at_150 rfl rfl (lenOf (ps := [(.array .char), .int, .int]) (r := none) (by decide) rfl) rfl (Nat.le_of_eq rfl) (by decide) (by decide) (by decide) (by decide) ?_
      rintro _ _ ⟨rfl, rfl⟩
      show Go _ _ _ _ _ _ _ _ _ _ _ _ [(b1, IA Z .char (ints [k0, k1])), (b2, IA Z .char (ints [k2, k3])), (b3, IA Z .char (ints [k4, k5])), (a4, OB Z a0 "com/example/revalidate/revalidate/DocumentDecoder$Place" [("com/example/revalidate/revalidate/DocumentDecoder$Place", "line", "I", (.int r4)), ("com/example/revalidate/revalidate/DocumentDecoder$Place", "column", "I", (.int ((v3 - r5) + (1 : Int32)))), ("com/example/revalidate/revalidate/DocumentDecoder$Place", "xml11", "Z", (.int (0 : Int32))), ("com/example/revalidate/revalidate/DocumentDecoder$Place", "afterReturn", "Z", (.int (passA [k4, k5] (0 : Int32) v3 (passA [k2, k3] (0 : Int32) v2 (0 : Int32)))))]), (a5, OB Z a0 "com/example/revalidate/revalidate/DocumentDecoder$Place" [("com/example/revalidate/revalidate/DocumentDecoder$Place", "line", "I", (.int r4)), ("com/example/revalidate/revalidate/DocumentDecoder$Place", "column", "I", (.int ((v3 - r5) + (1 : Int32)))), ("com/example/revalidate/revalidate/DocumentDecoder$Place", "xml11", "Z", (.int (0 : Int32))), ("com/example/revalidate/revalidate/DocumentDecoder$Place", "afterReturn", "Z", (.int (passA [k4, k5] (0 : Int32) v3 (passA [k2, k3] (0 : Int32) v2 (0 : Int32)))))])] 5 14 153 #[.val (.long x0), .second, .val (.long x1), .second, .val (.long x2), .second, .val (.int x3), .val (.ref b1), .val (.ref b2), .val (.ref b3), .val (.int v1), .val (.int v2), .val (.int v3), .val (.ref a4), .val (.ref a5), .val (.int r2), .val (.int v8), .unset, .unset, .unset, .unset, .unset, .unset] []
      refine g_aload C 155 at_153 rfl rfl rfl ?_
      refine g_virtual C 158 0 (i := 3) (argsL := []) (St := []) rfl (con_line l Z a0 C.2.2.1 h0 [(b1, IA Z .char (ints [k0, k1])), (b2, IA Z .char (ints [k2, k3])), (b3, IA Z .char (ints [k4, k5])), (a4, OB Z a0 "com/example/revalidate/revalidate/DocumentDecoder$Place" [("com/example/revalidate/revalidate/DocumentDecoder$Place", "line", "I", (.int r4)), ("com/example/revalidate/revalidate/DocumentDecoder$Place", "column", "I", (.int ((v3 - r5) + (1 : Int32)))), ("com/example/revalidate/revalidate/DocumentDecoder$Place", "xml11", "Z", (.int (0 : Int32))), ("com/example/revalidate/revalidate/DocumentDecoder$Place", "afterReturn", "Z", (.int (passA [k4, k5] (0 : Int32) v3 (passA [k2, k3] (0 : Int32) v2 (0 : Int32)))))]), (a5, OB Z a0 "com/example/revalidate/revalidate/DocumentDecoder$Place" [("com/example/revalidate/revalidate/DocumentDecoder$Place", "line", "I", (.int r4)), ("com/example/revalidate/revalidate/DocumentDecoder$Place", "column", "I", (.int ((v3 - r5) + (1 : Int32)))), ("com/example/revalidate/revalidate/DocumentDecoder$Place", "xml11", "Z", (.int (0 : Int32))), ("com/example/revalidate/revalidate/DocumentDecoder$Place", "afterReturn", "Z", (.int (passA [k4, k5] (0 : Int32) v3 (passA [k2, k3] (0 : Int32) v2 (0 : Int32)))))])] 3 a4 r4 ((v3 - r5) + (1 : Int32)) (0 : Int32) (passA [k4, k5] (0 : Int32) v3 (passA [k2, k3] (0 : Int32) v2 (0 : Int32))) rfl) (List.mem_of_getElem? (i := 36) rfl) (List.mem_of_getElem? (i := 37) rfl) (List.mem_of_getElem? (i := 39) rfl) (List.mem_of_getElem? (i := 38) rfl) (List.mem_of_getElem? (i := 11) rfl) (List.mem_of_getElem? (i := 40) rfl) (by decide) at_155 rfl rfl (lenOf (ps := []) (r := some .int) (by decide) rfl) rfl (Nat.le_of_eq rfl) (by decide) (by decide) (by decide) (by decide) ?_
      rintro _ _ ⟨rfl, rfl⟩
      show Go _ _ _ _ _ _ _ _ _ _ _ _ [(b1, IA Z .char (ints [k0, k1])), (b2, IA Z .char (ints [k2, k3])), (b3, IA Z .char (ints [k4, k5])), (a4, OB Z a0 "com/example/revalidate/revalidate/DocumentDecoder$Place" [("com/example/revalidate/revalidate/DocumentDecoder$Place", "line", "I", (.int r4)), ("com/example/revalidate/revalidate/DocumentDecoder$Place", "column", "I", (.int ((v3 - r5) + (1 : Int32)))), ("com/example/revalidate/revalidate/DocumentDecoder$Place", "xml11", "Z", (.int (0 : Int32))), ("com/example/revalidate/revalidate/DocumentDecoder$Place", "afterReturn", "Z", (.int (passA [k4, k5] (0 : Int32) v3 (passA [k2, k3] (0 : Int32) v2 (0 : Int32)))))]), (a5, OB Z a0 "com/example/revalidate/revalidate/DocumentDecoder$Place" [("com/example/revalidate/revalidate/DocumentDecoder$Place", "line", "I", (.int r4)), ("com/example/revalidate/revalidate/DocumentDecoder$Place", "column", "I", (.int ((v3 - r5) + (1 : Int32)))), ("com/example/revalidate/revalidate/DocumentDecoder$Place", "xml11", "Z", (.int (0 : Int32))), ("com/example/revalidate/revalidate/DocumentDecoder$Place", "afterReturn", "Z", (.int (passA [k4, k5] (0 : Int32) v3 (passA [k2, k3] (0 : Int32) v2 (0 : Int32)))))])] 5 14 158 #[.val (.long x0), .second, .val (.long x1), .second, .val (.long x2), .second, .val (.int x3), .val (.ref b1), .val (.ref b2), .val (.ref b3), .val (.int v1), .val (.int v2), .val (.int v3), .val (.ref a4), .val (.ref a5), .val (.int r2), .val (.int v8), .unset, .unset, .unset, .unset, .unset, .unset] [(.int r4)]
      refine g_istore C 160 #[.val (.long x0), .second, .val (.long x1), .second, .val (.long x2), .second, .val (.int x3), .val (.ref b1), .val (.ref b2), .val (.ref b3), .val (.int v1), .val (.int v2), .val (.int v3), .val (.ref a4), .val (.ref a5), .val (.int r2), .val (.int v8), .val (.int r4), .unset, .unset, .unset, .unset, .unset] at_158 rfl rfl ?_
      refine g_aload C 162 at_160 rfl rfl rfl ?_
      refine g_virtual C 165 0 (i := 3) (argsL := []) (St := []) rfl (con_column l Z a0 C.2.2.1 h0 [(b1, IA Z .char (ints [k0, k1])), (b2, IA Z .char (ints [k2, k3])), (b3, IA Z .char (ints [k4, k5])), (a4, OB Z a0 "com/example/revalidate/revalidate/DocumentDecoder$Place" [("com/example/revalidate/revalidate/DocumentDecoder$Place", "line", "I", (.int r4)), ("com/example/revalidate/revalidate/DocumentDecoder$Place", "column", "I", (.int ((v3 - r5) + (1 : Int32)))), ("com/example/revalidate/revalidate/DocumentDecoder$Place", "xml11", "Z", (.int (0 : Int32))), ("com/example/revalidate/revalidate/DocumentDecoder$Place", "afterReturn", "Z", (.int (passA [k4, k5] (0 : Int32) v3 (passA [k2, k3] (0 : Int32) v2 (0 : Int32)))))]), (a5, OB Z a0 "com/example/revalidate/revalidate/DocumentDecoder$Place" [("com/example/revalidate/revalidate/DocumentDecoder$Place", "line", "I", (.int r4)), ("com/example/revalidate/revalidate/DocumentDecoder$Place", "column", "I", (.int ((v3 - r5) + (1 : Int32)))), ("com/example/revalidate/revalidate/DocumentDecoder$Place", "xml11", "Z", (.int (0 : Int32))), ("com/example/revalidate/revalidate/DocumentDecoder$Place", "afterReturn", "Z", (.int (passA [k4, k5] (0 : Int32) v3 (passA [k2, k3] (0 : Int32) v2 (0 : Int32)))))])] 3 a4 r4 ((v3 - r5) + (1 : Int32)) (0 : Int32) (passA [k4, k5] (0 : Int32) v3 (passA [k2, k3] (0 : Int32) v2 (0 : Int32))) rfl) (List.mem_of_getElem? (i := 41) rfl) (List.mem_of_getElem? (i := 42) rfl) (List.mem_of_getElem? (i := 44) rfl) (List.mem_of_getElem? (i := 43) rfl) (List.mem_of_getElem? (i := 11) rfl) (List.mem_of_getElem? (i := 45) rfl) (by decide) at_162 rfl rfl (lenOf (ps := []) (r := some .int) (by decide) rfl) rfl (Nat.le_of_eq rfl) (by decide) (by decide) (by decide) (by decide) ?_
      rintro _ _ ⟨rfl, rfl⟩
      show Go _ _ _ _ _ _ _ _ _ _ _ _ [(b1, IA Z .char (ints [k0, k1])), (b2, IA Z .char (ints [k2, k3])), (b3, IA Z .char (ints [k4, k5])), (a4, OB Z a0 "com/example/revalidate/revalidate/DocumentDecoder$Place" [("com/example/revalidate/revalidate/DocumentDecoder$Place", "line", "I", (.int r4)), ("com/example/revalidate/revalidate/DocumentDecoder$Place", "column", "I", (.int ((v3 - r5) + (1 : Int32)))), ("com/example/revalidate/revalidate/DocumentDecoder$Place", "xml11", "Z", (.int (0 : Int32))), ("com/example/revalidate/revalidate/DocumentDecoder$Place", "afterReturn", "Z", (.int (passA [k4, k5] (0 : Int32) v3 (passA [k2, k3] (0 : Int32) v2 (0 : Int32)))))]), (a5, OB Z a0 "com/example/revalidate/revalidate/DocumentDecoder$Place" [("com/example/revalidate/revalidate/DocumentDecoder$Place", "line", "I", (.int r4)), ("com/example/revalidate/revalidate/DocumentDecoder$Place", "column", "I", (.int ((v3 - r5) + (1 : Int32)))), ("com/example/revalidate/revalidate/DocumentDecoder$Place", "xml11", "Z", (.int (0 : Int32))), ("com/example/revalidate/revalidate/DocumentDecoder$Place", "afterReturn", "Z", (.int (passA [k4, k5] (0 : Int32) v3 (passA [k2, k3] (0 : Int32) v2 (0 : Int32)))))])] 5 14 165 #[.val (.long x0), .second, .val (.long x1), .second, .val (.long x2), .second, .val (.int x3), .val (.ref b1), .val (.ref b2), .val (.ref b3), .val (.int v1), .val (.int v2), .val (.int v3), .val (.ref a4), .val (.ref a5), .val (.int r2), .val (.int v8), .val (.int r4), .unset, .unset, .unset, .unset, .unset] [(.int ((v3 - r5) + (1 : Int32)))]
      refine g_istore C 167 #[.val (.long x0), .second, .val (.long x1), .second, .val (.long x2), .second, .val (.int x3), .val (.ref b1), .val (.ref b2), .val (.ref b3), .val (.int v1), .val (.int v2), .val (.int v3), .val (.ref a4), .val (.ref a5), .val (.int r2), .val (.int v8), .val (.int r4), .val (.int ((v3 - r5) + (1 : Int32))), .unset, .unset, .unset, .unset] at_165 rfl rfl ?_
      generalize hv9 : ((v3 - r5) + (1 : Int32)) = v9
      refine g_aload C 169 at_167 rfl rfl rfl ?_
      refine g_virtual C 172 0 (i := 4) (argsL := []) (St := []) rfl (con_line l Z a0 C.2.2.1 h0 [(b1, IA Z .char (ints [k0, k1])), (b2, IA Z .char (ints [k2, k3])), (b3, IA Z .char (ints [k4, k5])), (a4, OB Z a0 "com/example/revalidate/revalidate/DocumentDecoder$Place" [("com/example/revalidate/revalidate/DocumentDecoder$Place", "line", "I", (.int r4)), ("com/example/revalidate/revalidate/DocumentDecoder$Place", "column", "I", (.int v9)), ("com/example/revalidate/revalidate/DocumentDecoder$Place", "xml11", "Z", (.int (0 : Int32))), ("com/example/revalidate/revalidate/DocumentDecoder$Place", "afterReturn", "Z", (.int (passA [k4, k5] (0 : Int32) v3 (passA [k2, k3] (0 : Int32) v2 (0 : Int32)))))]), (a5, OB Z a0 "com/example/revalidate/revalidate/DocumentDecoder$Place" [("com/example/revalidate/revalidate/DocumentDecoder$Place", "line", "I", (.int r4)), ("com/example/revalidate/revalidate/DocumentDecoder$Place", "column", "I", (.int v9)), ("com/example/revalidate/revalidate/DocumentDecoder$Place", "xml11", "Z", (.int (0 : Int32))), ("com/example/revalidate/revalidate/DocumentDecoder$Place", "afterReturn", "Z", (.int (passA [k4, k5] (0 : Int32) v3 (passA [k2, k3] (0 : Int32) v2 (0 : Int32)))))])] 4 a5 r4 v9 (0 : Int32) (passA [k4, k5] (0 : Int32) v3 (passA [k2, k3] (0 : Int32) v2 (0 : Int32))) rfl) (List.mem_of_getElem? (i := 36) rfl) (List.mem_of_getElem? (i := 37) rfl) (List.mem_of_getElem? (i := 39) rfl) (List.mem_of_getElem? (i := 38) rfl) (List.mem_of_getElem? (i := 11) rfl) (List.mem_of_getElem? (i := 40) rfl) (by decide) at_169 rfl rfl (lenOf (ps := []) (r := some .int) (by decide) rfl) rfl (Nat.le_of_eq rfl) (by decide) (by decide) (by decide) (by decide) ?_
      rintro _ _ ⟨rfl, rfl⟩
      show Go _ _ _ _ _ _ _ _ _ _ _ _ [(b1, IA Z .char (ints [k0, k1])), (b2, IA Z .char (ints [k2, k3])), (b3, IA Z .char (ints [k4, k5])), (a4, OB Z a0 "com/example/revalidate/revalidate/DocumentDecoder$Place" [("com/example/revalidate/revalidate/DocumentDecoder$Place", "line", "I", (.int r4)), ("com/example/revalidate/revalidate/DocumentDecoder$Place", "column", "I", (.int v9)), ("com/example/revalidate/revalidate/DocumentDecoder$Place", "xml11", "Z", (.int (0 : Int32))), ("com/example/revalidate/revalidate/DocumentDecoder$Place", "afterReturn", "Z", (.int (passA [k4, k5] (0 : Int32) v3 (passA [k2, k3] (0 : Int32) v2 (0 : Int32)))))]), (a5, OB Z a0 "com/example/revalidate/revalidate/DocumentDecoder$Place" [("com/example/revalidate/revalidate/DocumentDecoder$Place", "line", "I", (.int r4)), ("com/example/revalidate/revalidate/DocumentDecoder$Place", "column", "I", (.int v9)), ("com/example/revalidate/revalidate/DocumentDecoder$Place", "xml11", "Z", (.int (0 : Int32))), ("com/example/revalidate/revalidate/DocumentDecoder$Place", "afterReturn", "Z", (.int (passA [k4, k5] (0 : Int32) v3 (passA [k2, k3] (0 : Int32) v2 (0 : Int32)))))])] 5 14 172 #[.val (.long x0), .second, .val (.long x1), .second, .val (.long x2), .second, .val (.int x3), .val (.ref b1), .val (.ref b2), .val (.ref b3), .val (.int v1), .val (.int v2), .val (.int v3), .val (.ref a4), .val (.ref a5), .val (.int r2), .val (.int v8), .val (.int r4), .val (.int v9), .unset, .unset, .unset, .unset] [(.int r4)]
      refine g_istore C 174 #[.val (.long x0), .second, .val (.long x1), .second, .val (.long x2), .second, .val (.int x3), .val (.ref b1), .val (.ref b2), .val (.ref b3), .val (.int v1), .val (.int v2), .val (.int v3), .val (.ref a4), .val (.ref a5), .val (.int r2), .val (.int v8), .val (.int r4), .val (.int v9), .val (.int r4), .unset, .unset, .unset] at_172 rfl rfl ?_
      refine g_aload C 176 at_174 rfl rfl rfl ?_
      refine g_virtual C 179 0 (i := 4) (argsL := []) (St := []) rfl (con_column l Z a0 C.2.2.1 h0 [(b1, IA Z .char (ints [k0, k1])), (b2, IA Z .char (ints [k2, k3])), (b3, IA Z .char (ints [k4, k5])), (a4, OB Z a0 "com/example/revalidate/revalidate/DocumentDecoder$Place" [("com/example/revalidate/revalidate/DocumentDecoder$Place", "line", "I", (.int r4)), ("com/example/revalidate/revalidate/DocumentDecoder$Place", "column", "I", (.int v9)), ("com/example/revalidate/revalidate/DocumentDecoder$Place", "xml11", "Z", (.int (0 : Int32))), ("com/example/revalidate/revalidate/DocumentDecoder$Place", "afterReturn", "Z", (.int (passA [k4, k5] (0 : Int32) v3 (passA [k2, k3] (0 : Int32) v2 (0 : Int32)))))]), (a5, OB Z a0 "com/example/revalidate/revalidate/DocumentDecoder$Place" [("com/example/revalidate/revalidate/DocumentDecoder$Place", "line", "I", (.int r4)), ("com/example/revalidate/revalidate/DocumentDecoder$Place", "column", "I", (.int v9)), ("com/example/revalidate/revalidate/DocumentDecoder$Place", "xml11", "Z", (.int (0 : Int32))), ("com/example/revalidate/revalidate/DocumentDecoder$Place", "afterReturn", "Z", (.int (passA [k4, k5] (0 : Int32) v3 (passA [k2, k3] (0 : Int32) v2 (0 : Int32)))))])] 4 a5 r4 v9 (0 : Int32) (passA [k4, k5] (0 : Int32) v3 (passA [k2, k3] (0 : Int32) v2 (0 : Int32))) rfl) (List.mem_of_getElem? (i := 41) rfl) (List.mem_of_getElem? (i := 42) rfl) (List.mem_of_getElem? (i := 44) rfl) (List.mem_of_getElem? (i := 43) rfl) (List.mem_of_getElem? (i := 11) rfl) (List.mem_of_getElem? (i := 45) rfl) (by decide) at_176 rfl rfl (lenOf (ps := []) (r := some .int) (by decide) rfl) rfl (Nat.le_of_eq rfl) (by decide) (by decide) (by decide) (by decide) ?_
      rintro _ _ ⟨rfl, rfl⟩
      show Go _ _ _ _ _ _ _ _ _ _ _ _ [(b1, IA Z .char (ints [k0, k1])), (b2, IA Z .char (ints [k2, k3])), (b3, IA Z .char (ints [k4, k5])), (a4, OB Z a0 "com/example/revalidate/revalidate/DocumentDecoder$Place" [("com/example/revalidate/revalidate/DocumentDecoder$Place", "line", "I", (.int r4)), ("com/example/revalidate/revalidate/DocumentDecoder$Place", "column", "I", (.int v9)), ("com/example/revalidate/revalidate/DocumentDecoder$Place", "xml11", "Z", (.int (0 : Int32))), ("com/example/revalidate/revalidate/DocumentDecoder$Place", "afterReturn", "Z", (.int (passA [k4, k5] (0 : Int32) v3 (passA [k2, k3] (0 : Int32) v2 (0 : Int32)))))]), (a5, OB Z a0 "com/example/revalidate/revalidate/DocumentDecoder$Place" [("com/example/revalidate/revalidate/DocumentDecoder$Place", "line", "I", (.int r4)), ("com/example/revalidate/revalidate/DocumentDecoder$Place", "column", "I", (.int v9)), ("com/example/revalidate/revalidate/DocumentDecoder$Place", "xml11", "Z", (.int (0 : Int32))), ("com/example/revalidate/revalidate/DocumentDecoder$Place", "afterReturn", "Z", (.int (passA [k4, k5] (0 : Int32) v3 (passA [k2, k3] (0 : Int32) v2 (0 : Int32)))))])] 5 14 179 #[.val (.long x0), .second, .val (.long x1), .second, .val (.long x2), .second, .val (.int x3), .val (.ref b1), .val (.ref b2), .val (.ref b3), .val (.int v1), .val (.int v2), .val (.int v3), .val (.ref a4), .val (.ref a5), .val (.int r2), .val (.int v8), .val (.int r4), .val (.int v9), .val (.int r4), .unset, .unset, .unset] [(.int v9)]
      refine g_istore C 181 #[.val (.long x0), .second, .val (.long x1), .second, .val (.long x2), .second, .val (.int x3), .val (.ref b1), .val (.ref b2), .val (.ref b3), .val (.int v1), .val (.int v2), .val (.int v3), .val (.ref a4), .val (.ref a5), .val (.int r2), .val (.int v8), .val (.int r4), .val (.int v9), .val (.int r4), .val (.int v9), .unset, .unset] at_179 rfl rfl ?_
      refine g_iload C 183 at_181 rfl rfl ?_
      refine g_iload C 185 at_183 rfl rfl ?_
      refine g_icN C 188 at_185 (teq (rfl : r4 = r4)).2 rfl ?_
      refine g_iload C 190 at_188 rfl rfl ?_
      refine g_iload C 192 at_190 rfl rfl ?_
      refine g_icN C 195 at_192 (teq (rfl : v9 = v9)).2 rfl ?_
      refine g_iconst C 196 (1 : Int32) at_195 rfl rfl ?_
      refine g_goto C 200 at_196 (by decide) (by decide) ?_
      refine g_istore C 202 #[.val (.long x0), .second, .val (.long x1), .second, .val (.long x2), .second, .val (.int x3), .val (.ref b1), .val (.ref b2), .val (.ref b3), .val (.int v1), .val (.int v2), .val (.int v3), .val (.ref a4), .val (.ref a5), .val (.int r2), .val (.int v8), .val (.int r4), .val (.int v9), .val (.int r4), .val (.int v9), .val (.int (1 : Int32)), .unset] at_200 rfl rfl ?_
      refine g_iload C 204 at_202 rfl rfl ?_
      by_cases c10 : v3 = (0 : Int32)
      · refine g_ifN C 207 at_204 (teq c10).2 rfl ?_
        refine g_iload C 209 at_207 rfl rfl ?_
        refine g_iload C 211 at_209 rfl rfl ?_
        refine g_icN C 214 at_211 (teq ((own_z c10 hP2).1.symm : r4 = r2)).2 rfl ?_
        refine g_iload C 216 at_214 rfl rfl ?_
        refine g_iload C 218 at_216 rfl rfl ?_
        refine g_icN C 221 at_218 (teq ((by rw [← hv9, c10, ← (own_z c10 hP2).2]; exact own_back _) : v9 = v8)).2 rfl ?_
        refine g_iconst C 222 (1 : Int32) at_221 rfl rfl ?_
        refine g_goto C 226 at_222 (by decide) (by decide) ?_
        refine g_istore C 228 #[.val (.long x0), .second, .val (.long x1), .second, .val (.long x2), .second, .val (.int x3), .val (.ref b1), .val (.ref b2), .val (.ref b3), .val (.int v1), .val (.int v2), .val (.int v3), .val (.ref a4), .val (.ref a5), .val (.int r2), .val (.int v8), .val (.int r4), .val (.int v9), .val (.int r4), .val (.int v9), .val (.int (1 : Int32)), .val (.int (1 : Int32))] at_226 rfl rfl ?_
        refine g_iload C 230 at_228 rfl rfl ?_
        refine g_ifN C 233 at_230 (feq ((by decide) : ¬ ((1 : Int32) = (0 : Int32)))).1 rfl ?_
        refine g_iload C 235 at_233 rfl rfl ?_
        refine g_ifN C 238 at_235 (feq ((by decide) : ¬ ((1 : Int32) = (0 : Int32)))).1 rfl ?_
        refine g_iconst C 239 (1 : Int32) at_238 rfl rfl ?_
        refine g_goto C 243 at_239 (by decide) (by decide) ?_
        exact g_nret C (by simp) (z' := (1 : Int32)) (by decide) at_243 (by decide) (by decide) rfl
      · refine g_ifY C 221 at_204 (feq c10).2 (by decide) (by decide) ?_
        refine g_iconst C 222 (1 : Int32) at_221 rfl rfl ?_
        refine g_goto C 226 at_222 (by decide) (by decide) ?_
        refine g_istore C 228 #[.val (.long x0), .second, .val (.long x1), .second, .val (.long x2), .second, .val (.int x3), .val (.ref b1), .val (.ref b2), .val (.ref b3), .val (.int v1), .val (.int v2), .val (.int v3), .val (.ref a4), .val (.ref a5), .val (.int r2), .val (.int v8), .val (.int r4), .val (.int v9), .val (.int r4), .val (.int v9), .val (.int (1 : Int32)), .val (.int (1 : Int32))] at_226 rfl rfl ?_
        refine g_iload C 230 at_228 rfl rfl ?_
        refine g_ifN C 233 at_230 (feq ((by decide) : ¬ ((1 : Int32) = (0 : Int32)))).1 rfl ?_
        refine g_iload C 235 at_233 rfl rfl ?_
        refine g_ifN C 238 at_235 (feq ((by decide) : ¬ ((1 : Int32) = (0 : Int32)))).1 rfl ?_
        refine g_iconst C 239 (1 : Int32) at_238 rfl rfl ?_
        refine g_goto C 243 at_239 (by decide) (by decide) ?_
        exact g_nret C (by simp) (z' := (1 : Int32)) (by decide) at_243 (by decide) (by decide) rfl
    · refine g_ifN C 87 at_84 (feq c7).1 rfl ?_
      refine g_aload C 89 at_87 rfl rfl rfl ?_
      refine g_virtual C 92 0 (i := 4) (argsL := []) (St := []) rfl (con_end l Z a0 C.2.2.1 h0 [(b1, IA Z .char (ints [k0, k1])), (b2, IA Z .char (ints [k2, k3])), (b3, IA Z .char (ints [k4, k5])), (a4, OB Z a0 "com/example/revalidate/revalidate/DocumentDecoder$Place" [("com/example/revalidate/revalidate/DocumentDecoder$Place", "line", "I", (.int (1 : Int32))), ("com/example/revalidate/revalidate/DocumentDecoder$Place", "column", "I", (.int (1 : Int32))), ("com/example/revalidate/revalidate/DocumentDecoder$Place", "xml11", "Z", (.int (0 : Int32))), ("com/example/revalidate/revalidate/DocumentDecoder$Place", "afterReturn", "Z", (.int (0 : Int32)))]), (a5, OB Z a0 "com/example/revalidate/revalidate/DocumentDecoder$Place" [("com/example/revalidate/revalidate/DocumentDecoder$Place", "line", "I", (.int (1 : Int32))), ("com/example/revalidate/revalidate/DocumentDecoder$Place", "column", "I", (.int (1 : Int32))), ("com/example/revalidate/revalidate/DocumentDecoder$Place", "xml11", "Z", (.int (0 : Int32))), ("com/example/revalidate/revalidate/DocumentDecoder$Place", "afterReturn", "Z", (.int (0 : Int32)))])] 4 a5 (1 : Int32) (1 : Int32) (0 : Int32) (0 : Int32) rfl) (List.mem_of_getElem? (i := 22) rfl) (List.mem_of_getElem? (i := 23) rfl) (List.mem_of_getElem? (i := 25) rfl) (List.mem_of_getElem? (i := 24) rfl) (List.mem_of_getElem? (i := 11) rfl) (List.mem_of_getElem? (i := 26) rfl) (by decide) at_89 rfl rfl (lenOf (ps := []) (r := none) (by decide) rfl) rfl (Nat.le_of_eq rfl) (by decide) (by decide) (by decide) (by decide) ?_
      rintro _ _ ⟨rfl, rfl⟩
      show Go _ _ _ _ _ _ _ _ _ _ _ _ [(b1, IA Z .char (ints [k0, k1])), (b2, IA Z .char (ints [k2, k3])), (b3, IA Z .char (ints [k4, k5])), (a4, OB Z a0 "com/example/revalidate/revalidate/DocumentDecoder$Place" [("com/example/revalidate/revalidate/DocumentDecoder$Place", "line", "I", (.int (1 : Int32))), ("com/example/revalidate/revalidate/DocumentDecoder$Place", "column", "I", (.int (1 : Int32))), ("com/example/revalidate/revalidate/DocumentDecoder$Place", "xml11", "Z", (.int (0 : Int32))), ("com/example/revalidate/revalidate/DocumentDecoder$Place", "afterReturn", "Z", (.int (0 : Int32)))]), (a5, OB Z a0 "com/example/revalidate/revalidate/DocumentDecoder$Place" [("com/example/revalidate/revalidate/DocumentDecoder$Place", "line", "I", (.int (1 : Int32))), ("com/example/revalidate/revalidate/DocumentDecoder$Place", "column", "I", (.int (1 : Int32))), ("com/example/revalidate/revalidate/DocumentDecoder$Place", "xml11", "Z", (.int (1 : Int32))), ("com/example/revalidate/revalidate/DocumentDecoder$Place", "afterReturn", "Z", (.int (0 : Int32)))])] 5 14 92 #[.val (.long x0), .second, .val (.long x1), .second, .val (.long x2), .second, .val (.int x3), .val (.ref b1), .val (.ref b2), .val (.ref b3), .val (.int v1), .val (.int v2), .val (.int v3), .val (.ref a4), .val (.ref a5), .unset, .unset, .unset, .unset, .unset, .unset, .unset, .unset] []
      refine g_aload C 94 at_92 rfl rfl rfl ?_
      refine g_aload C 96 at_94 rfl rfl rfl ?_
      refine g_iconst C 97 (0 : Int32) at_96 rfl rfl ?_
      refine g_iload C 99 at_97 rfl rfl ?_
      obtain ⟨r0, r1, hP0⟩ := own_ex3 [k0, k1] (0 : Int32) (0 : Int32) v1 (1 : Int32) (((0 : Int32) - (1 : Int32)) + (1 : Int32)) rfl rgv1
      have hl0 : (0 : Int32) < v1 → inb [k0, k1] (v1 - (1 : Int32)) = true := own_hl3 rfl rgv1
      refine g_virtual C 102 0 (i := 3) (argsL := [(.ref b1), (.int (0 : Int32)), (.int v1)]) (St := []) rfl (con_pass l Z a0 C.2.2.1 h0 [(b1, IA Z .char (ints [k0, k1])), (b2, IA Z .char (ints [k2, k3])), (b3, IA Z .char (ints [k4, k5])), (a4, OB Z a0 "com/example/revalidate/revalidate/DocumentDecoder$Place" [("com/example/revalidate/revalidate/DocumentDecoder$Place", "line", "I", (.int (1 : Int32))), ("com/example/revalidate/revalidate/DocumentDecoder$Place", "column", "I", (.int (1 : Int32))), ("com/example/revalidate/revalidate/DocumentDecoder$Place", "xml11", "Z", (.int (0 : Int32))), ("com/example/revalidate/revalidate/DocumentDecoder$Place", "afterReturn", "Z", (.int (0 : Int32)))]), (a5, OB Z a0 "com/example/revalidate/revalidate/DocumentDecoder$Place" [("com/example/revalidate/revalidate/DocumentDecoder$Place", "line", "I", (.int (1 : Int32))), ("com/example/revalidate/revalidate/DocumentDecoder$Place", "column", "I", (.int (1 : Int32))), ("com/example/revalidate/revalidate/DocumentDecoder$Place", "xml11", "Z", (.int (1 : Int32))), ("com/example/revalidate/revalidate/DocumentDecoder$Place", "afterReturn", "Z", (.int (0 : Int32)))])] 0 3 b1 a4 [k0, k1] (0 : Int32) v1 (1 : Int32) (1 : Int32) (0 : Int32) (0 : Int32) r0 r1 6 (by decide) rfl rfl hP0 hl0) (List.mem_of_getElem? (i := 29) rfl) (List.mem_of_getElem? (i := 30) rfl) (List.mem_of_getElem? (i := 32) rfl) (List.mem_of_getElem? (i := 31) rfl) (List.mem_of_getElem? (i := 11) rfl) (List.mem_of_getElem? (i := 33) rfl) (by decide) at_99 rfl rfl (lenOf (ps := [(.array .char), .int, .int]) (r := none) (by decide) rfl) rfl (Nat.le_of_eq rfl) (by decide) (by decide) (by decide) (by decide) ?_
      rintro _ _ ⟨rfl, rfl⟩
      show Go _ _ _ _ _ _ _ _ _ _ _ _ [(b1, IA Z .char (ints [k0, k1])), (b2, IA Z .char (ints [k2, k3])), (b3, IA Z .char (ints [k4, k5])), (a4, OB Z a0 "com/example/revalidate/revalidate/DocumentDecoder$Place" [("com/example/revalidate/revalidate/DocumentDecoder$Place", "line", "I", (.int r0)), ("com/example/revalidate/revalidate/DocumentDecoder$Place", "column", "I", (.int ((v1 - r1) + (1 : Int32)))), ("com/example/revalidate/revalidate/DocumentDecoder$Place", "xml11", "Z", (.int (0 : Int32))), ("com/example/revalidate/revalidate/DocumentDecoder$Place", "afterReturn", "Z", (.int (passA [k0, k1] (0 : Int32) v1 (0 : Int32))))]), (a5, OB Z a0 "com/example/revalidate/revalidate/DocumentDecoder$Place" [("com/example/revalidate/revalidate/DocumentDecoder$Place", "line", "I", (.int (1 : Int32))), ("com/example/revalidate/revalidate/DocumentDecoder$Place", "column", "I", (.int (1 : Int32))), ("com/example/revalidate/revalidate/DocumentDecoder$Place", "xml11", "Z", (.int (1 : Int32))), ("com/example/revalidate/revalidate/DocumentDecoder$Place", "afterReturn", "Z", (.int (0 : Int32)))])] 5 14 102 #[.val (.long x0), .second, .val (.long x1), .second, .val (.long x2), .second, .val (.int x3), .val (.ref b1), .val (.ref b2), .val (.ref b3), .val (.int v1), .val (.int v2), .val (.int v3), .val (.ref a4), .val (.ref a5), .unset, .unset, .unset, .unset, .unset, .unset, .unset, .unset] []
      refine g_aload C 104 at_102 rfl rfl rfl ?_
      refine g_aload C 106 at_104 rfl rfl rfl ?_
      refine g_iconst C 107 (0 : Int32) at_106 rfl rfl ?_
      refine g_iload C 109 at_107 rfl rfl ?_
      obtain ⟨r2, r3, hP1⟩ := own_ex3 [k2, k3] (1 : Int32) (0 : Int32) v2 (1 : Int32) (((0 : Int32) - (1 : Int32)) + (1 : Int32)) rfl rgv2
      have hl1 : (0 : Int32) < v2 → inb [k2, k3] (v2 - (1 : Int32)) = true := own_hl3 rfl rgv2
      refine g_virtual C 112 0 (i := 4) (argsL := [(.ref b2), (.int (0 : Int32)), (.int v2)]) (St := []) rfl (con_pass l Z a0 C.2.2.1 h0 [(b1, IA Z .char (ints [k0, k1])), (b2, IA Z .char (ints [k2, k3])), (b3, IA Z .char (ints [k4, k5])), (a4, OB Z a0 "com/example/revalidate/revalidate/DocumentDecoder$Place" [("com/example/revalidate/revalidate/DocumentDecoder$Place", "line", "I", (.int r0)), ("com/example/revalidate/revalidate/DocumentDecoder$Place", "column", "I", (.int ((v1 - r1) + (1 : Int32)))), ("com/example/revalidate/revalidate/DocumentDecoder$Place", "xml11", "Z", (.int (0 : Int32))), ("com/example/revalidate/revalidate/DocumentDecoder$Place", "afterReturn", "Z", (.int (passA [k0, k1] (0 : Int32) v1 (0 : Int32))))]), (a5, OB Z a0 "com/example/revalidate/revalidate/DocumentDecoder$Place" [("com/example/revalidate/revalidate/DocumentDecoder$Place", "line", "I", (.int (1 : Int32))), ("com/example/revalidate/revalidate/DocumentDecoder$Place", "column", "I", (.int (1 : Int32))), ("com/example/revalidate/revalidate/DocumentDecoder$Place", "xml11", "Z", (.int (1 : Int32))), ("com/example/revalidate/revalidate/DocumentDecoder$Place", "afterReturn", "Z", (.int (0 : Int32)))])] 1 4 b2 a5 [k2, k3] (0 : Int32) v2 (1 : Int32) (1 : Int32) (1 : Int32) (0 : Int32) r2 r3 6 (by decide) rfl rfl hP1 hl1) (List.mem_of_getElem? (i := 29) rfl) (List.mem_of_getElem? (i := 30) rfl) (List.mem_of_getElem? (i := 32) rfl) (List.mem_of_getElem? (i := 31) rfl) (List.mem_of_getElem? (i := 11) rfl) (List.mem_of_getElem? (i := 33) rfl) (by decide) at_109 rfl rfl (lenOf (ps := [(.array .char), .int, .int]) (r := none) (by decide) rfl) rfl (Nat.le_of_eq rfl) (by decide) (by decide) (by decide) (by decide) ?_
      rintro _ _ ⟨rfl, rfl⟩
      show Go _ _ _ _ _ _ _ _ _ _ _ _ [(b1, IA Z .char (ints [k0, k1])), (b2, IA Z .char (ints [k2, k3])), (b3, IA Z .char (ints [k4, k5])), (a4, OB Z a0 "com/example/revalidate/revalidate/DocumentDecoder$Place" [("com/example/revalidate/revalidate/DocumentDecoder$Place", "line", "I", (.int r0)), ("com/example/revalidate/revalidate/DocumentDecoder$Place", "column", "I", (.int ((v1 - r1) + (1 : Int32)))), ("com/example/revalidate/revalidate/DocumentDecoder$Place", "xml11", "Z", (.int (0 : Int32))), ("com/example/revalidate/revalidate/DocumentDecoder$Place", "afterReturn", "Z", (.int (passA [k0, k1] (0 : Int32) v1 (0 : Int32))))]), (a5, OB Z a0 "com/example/revalidate/revalidate/DocumentDecoder$Place" [("com/example/revalidate/revalidate/DocumentDecoder$Place", "line", "I", (.int r2)), ("com/example/revalidate/revalidate/DocumentDecoder$Place", "column", "I", (.int ((v2 - r3) + (1 : Int32)))), ("com/example/revalidate/revalidate/DocumentDecoder$Place", "xml11", "Z", (.int (1 : Int32))), ("com/example/revalidate/revalidate/DocumentDecoder$Place", "afterReturn", "Z", (.int (passA [k2, k3] (0 : Int32) v2 (0 : Int32))))])] 5 14 112 #[.val (.long x0), .second, .val (.long x1), .second, .val (.long x2), .second, .val (.int x3), .val (.ref b1), .val (.ref b2), .val (.ref b3), .val (.int v1), .val (.int v2), .val (.int v3), .val (.ref a4), .val (.ref a5), .unset, .unset, .unset, .unset, .unset, .unset, .unset, .unset] []
      refine g_aload C 114 at_112 rfl rfl rfl ?_
      refine g_virtual C 117 0 (i := 4) (argsL := []) (St := []) rfl (con_line l Z a0 C.2.2.1 h0 [(b1, IA Z .char (ints [k0, k1])), (b2, IA Z .char (ints [k2, k3])), (b3, IA Z .char (ints [k4, k5])), (a4, OB Z a0 "com/example/revalidate/revalidate/DocumentDecoder$Place" [("com/example/revalidate/revalidate/DocumentDecoder$Place", "line", "I", (.int r0)), ("com/example/revalidate/revalidate/DocumentDecoder$Place", "column", "I", (.int ((v1 - r1) + (1 : Int32)))), ("com/example/revalidate/revalidate/DocumentDecoder$Place", "xml11", "Z", (.int (0 : Int32))), ("com/example/revalidate/revalidate/DocumentDecoder$Place", "afterReturn", "Z", (.int (passA [k0, k1] (0 : Int32) v1 (0 : Int32))))]), (a5, OB Z a0 "com/example/revalidate/revalidate/DocumentDecoder$Place" [("com/example/revalidate/revalidate/DocumentDecoder$Place", "line", "I", (.int r2)), ("com/example/revalidate/revalidate/DocumentDecoder$Place", "column", "I", (.int ((v2 - r3) + (1 : Int32)))), ("com/example/revalidate/revalidate/DocumentDecoder$Place", "xml11", "Z", (.int (1 : Int32))), ("com/example/revalidate/revalidate/DocumentDecoder$Place", "afterReturn", "Z", (.int (passA [k2, k3] (0 : Int32) v2 (0 : Int32))))])] 4 a5 r2 ((v2 - r3) + (1 : Int32)) (1 : Int32) (passA [k2, k3] (0 : Int32) v2 (0 : Int32)) rfl) (List.mem_of_getElem? (i := 36) rfl) (List.mem_of_getElem? (i := 37) rfl) (List.mem_of_getElem? (i := 39) rfl) (List.mem_of_getElem? (i := 38) rfl) (List.mem_of_getElem? (i := 11) rfl) (List.mem_of_getElem? (i := 40) rfl) (by decide) at_114 rfl rfl (lenOf (ps := []) (r := some .int) (by decide) rfl) rfl (Nat.le_of_eq rfl) (by decide) (by decide) (by decide) (by decide) ?_
      rintro _ _ ⟨rfl, rfl⟩
      show Go _ _ _ _ _ _ _ _ _ _ _ _ [(b1, IA Z .char (ints [k0, k1])), (b2, IA Z .char (ints [k2, k3])), (b3, IA Z .char (ints [k4, k5])), (a4, OB Z a0 "com/example/revalidate/revalidate/DocumentDecoder$Place" [("com/example/revalidate/revalidate/DocumentDecoder$Place", "line", "I", (.int r0)), ("com/example/revalidate/revalidate/DocumentDecoder$Place", "column", "I", (.int ((v1 - r1) + (1 : Int32)))), ("com/example/revalidate/revalidate/DocumentDecoder$Place", "xml11", "Z", (.int (0 : Int32))), ("com/example/revalidate/revalidate/DocumentDecoder$Place", "afterReturn", "Z", (.int (passA [k0, k1] (0 : Int32) v1 (0 : Int32))))]), (a5, OB Z a0 "com/example/revalidate/revalidate/DocumentDecoder$Place" [("com/example/revalidate/revalidate/DocumentDecoder$Place", "line", "I", (.int r2)), ("com/example/revalidate/revalidate/DocumentDecoder$Place", "column", "I", (.int ((v2 - r3) + (1 : Int32)))), ("com/example/revalidate/revalidate/DocumentDecoder$Place", "xml11", "Z", (.int (1 : Int32))), ("com/example/revalidate/revalidate/DocumentDecoder$Place", "afterReturn", "Z", (.int (passA [k2, k3] (0 : Int32) v2 (0 : Int32))))])] 5 14 117 #[.val (.long x0), .second, .val (.long x1), .second, .val (.long x2), .second, .val (.int x3), .val (.ref b1), .val (.ref b2), .val (.ref b3), .val (.int v1), .val (.int v2), .val (.int v3), .val (.ref a4), .val (.ref a5), .unset, .unset, .unset, .unset, .unset, .unset, .unset, .unset] [(.int r2)]
      refine g_istore C 119 #[.val (.long x0), .second, .val (.long x1), .second, .val (.long x2), .second, .val (.int x3), .val (.ref b1), .val (.ref b2), .val (.ref b3), .val (.int v1), .val (.int v2), .val (.int v3), .val (.ref a4), .val (.ref a5), .val (.int r2), .unset, .unset, .unset, .unset, .unset, .unset, .unset] at_117 rfl rfl ?_
      refine g_aload C 121 at_119 rfl rfl rfl ?_
      refine g_virtual C 124 0 (i := 4) (argsL := []) (St := []) rfl (con_column l Z a0 C.2.2.1 h0 [(b1, IA Z .char (ints [k0, k1])), (b2, IA Z .char (ints [k2, k3])), (b3, IA Z .char (ints [k4, k5])), (a4, OB Z a0 "com/example/revalidate/revalidate/DocumentDecoder$Place" [("com/example/revalidate/revalidate/DocumentDecoder$Place", "line", "I", (.int r0)), ("com/example/revalidate/revalidate/DocumentDecoder$Place", "column", "I", (.int ((v1 - r1) + (1 : Int32)))), ("com/example/revalidate/revalidate/DocumentDecoder$Place", "xml11", "Z", (.int (0 : Int32))), ("com/example/revalidate/revalidate/DocumentDecoder$Place", "afterReturn", "Z", (.int (passA [k0, k1] (0 : Int32) v1 (0 : Int32))))]), (a5, OB Z a0 "com/example/revalidate/revalidate/DocumentDecoder$Place" [("com/example/revalidate/revalidate/DocumentDecoder$Place", "line", "I", (.int r2)), ("com/example/revalidate/revalidate/DocumentDecoder$Place", "column", "I", (.int ((v2 - r3) + (1 : Int32)))), ("com/example/revalidate/revalidate/DocumentDecoder$Place", "xml11", "Z", (.int (1 : Int32))), ("com/example/revalidate/revalidate/DocumentDecoder$Place", "afterReturn", "Z", (.int (passA [k2, k3] (0 : Int32) v2 (0 : Int32))))])] 4 a5 r2 ((v2 - r3) + (1 : Int32)) (1 : Int32) (passA [k2, k3] (0 : Int32) v2 (0 : Int32)) rfl) (List.mem_of_getElem? (i := 41) rfl) (List.mem_of_getElem? (i := 42) rfl) (List.mem_of_getElem? (i := 44) rfl) (List.mem_of_getElem? (i := 43) rfl) (List.mem_of_getElem? (i := 11) rfl) (List.mem_of_getElem? (i := 45) rfl) (by decide) at_121 rfl rfl (lenOf (ps := []) (r := some .int) (by decide) rfl) rfl (Nat.le_of_eq rfl) (by decide) (by decide) (by decide) (by decide) ?_
      rintro _ _ ⟨rfl, rfl⟩
      show Go _ _ _ _ _ _ _ _ _ _ _ _ [(b1, IA Z .char (ints [k0, k1])), (b2, IA Z .char (ints [k2, k3])), (b3, IA Z .char (ints [k4, k5])), (a4, OB Z a0 "com/example/revalidate/revalidate/DocumentDecoder$Place" [("com/example/revalidate/revalidate/DocumentDecoder$Place", "line", "I", (.int r0)), ("com/example/revalidate/revalidate/DocumentDecoder$Place", "column", "I", (.int ((v1 - r1) + (1 : Int32)))), ("com/example/revalidate/revalidate/DocumentDecoder$Place", "xml11", "Z", (.int (0 : Int32))), ("com/example/revalidate/revalidate/DocumentDecoder$Place", "afterReturn", "Z", (.int (passA [k0, k1] (0 : Int32) v1 (0 : Int32))))]), (a5, OB Z a0 "com/example/revalidate/revalidate/DocumentDecoder$Place" [("com/example/revalidate/revalidate/DocumentDecoder$Place", "line", "I", (.int r2)), ("com/example/revalidate/revalidate/DocumentDecoder$Place", "column", "I", (.int ((v2 - r3) + (1 : Int32)))), ("com/example/revalidate/revalidate/DocumentDecoder$Place", "xml11", "Z", (.int (1 : Int32))), ("com/example/revalidate/revalidate/DocumentDecoder$Place", "afterReturn", "Z", (.int (passA [k2, k3] (0 : Int32) v2 (0 : Int32))))])] 5 14 124 #[.val (.long x0), .second, .val (.long x1), .second, .val (.long x2), .second, .val (.int x3), .val (.ref b1), .val (.ref b2), .val (.ref b3), .val (.int v1), .val (.int v2), .val (.int v3), .val (.ref a4), .val (.ref a5), .val (.int r2), .unset, .unset, .unset, .unset, .unset, .unset, .unset] [(.int ((v2 - r3) + (1 : Int32)))]
      refine g_istore C 126 #[.val (.long x0), .second, .val (.long x1), .second, .val (.long x2), .second, .val (.int x3), .val (.ref b1), .val (.ref b2), .val (.ref b3), .val (.int v1), .val (.int v2), .val (.int v3), .val (.ref a4), .val (.ref a5), .val (.int r2), .val (.int ((v2 - r3) + (1 : Int32))), .unset, .unset, .unset, .unset, .unset, .unset] at_124 rfl rfl ?_
      generalize hv11 : ((v2 - r3) + (1 : Int32)) = v11
      refine g_aload C 128 at_126 rfl rfl rfl ?_
      refine g_aload C 130 at_128 rfl rfl rfl ?_
      refine g_virtual C 133 0 (i := 3) (argsL := [(.ref a5)]) (St := []) rfl (con_move l Z a0 C.2.2.1 h0 [(b1, IA Z .char (ints [k0, k1])), (b2, IA Z .char (ints [k2, k3])), (b3, IA Z .char (ints [k4, k5])), (a4, OB Z a0 "com/example/revalidate/revalidate/DocumentDecoder$Place" [("com/example/revalidate/revalidate/DocumentDecoder$Place", "line", "I", (.int r0)), ("com/example/revalidate/revalidate/DocumentDecoder$Place", "column", "I", (.int ((v1 - r1) + (1 : Int32)))), ("com/example/revalidate/revalidate/DocumentDecoder$Place", "xml11", "Z", (.int (0 : Int32))), ("com/example/revalidate/revalidate/DocumentDecoder$Place", "afterReturn", "Z", (.int (passA [k0, k1] (0 : Int32) v1 (0 : Int32))))]), (a5, OB Z a0 "com/example/revalidate/revalidate/DocumentDecoder$Place" [("com/example/revalidate/revalidate/DocumentDecoder$Place", "line", "I", (.int r2)), ("com/example/revalidate/revalidate/DocumentDecoder$Place", "column", "I", (.int v11)), ("com/example/revalidate/revalidate/DocumentDecoder$Place", "xml11", "Z", (.int (1 : Int32))), ("com/example/revalidate/revalidate/DocumentDecoder$Place", "afterReturn", "Z", (.int (passA [k2, k3] (0 : Int32) v2 (0 : Int32))))])] 3 4 a4 a5 r0 ((v1 - r1) + (1 : Int32)) (0 : Int32) (passA [k0, k1] (0 : Int32) v1 (0 : Int32)) r2 v11 (1 : Int32) (passA [k2, k3] (0 : Int32) v2 (0 : Int32)) (by decide) rfl rfl) (List.mem_of_getElem? (i := 46) rfl) (List.mem_of_getElem? (i := 47) rfl) (List.mem_of_getElem? (i := 49) rfl) (List.mem_of_getElem? (i := 48) rfl) (List.mem_of_getElem? (i := 11) rfl) (List.mem_of_getElem? (i := 50) rfl) (by decide) at_130 rfl rfl (lenOf (ps := [(.object "com/example/revalidate/revalidate/DocumentDecoder$Place")]) (r := none) (by decide) rfl) rfl (Nat.le_of_eq rfl) (by decide) (by decide) (by decide) (by decide) ?_
      rintro _ _ ⟨rfl, rfl⟩
      show Go _ _ _ _ _ _ _ _ _ _ _ _ [(b1, IA Z .char (ints [k0, k1])), (b2, IA Z .char (ints [k2, k3])), (b3, IA Z .char (ints [k4, k5])), (a4, OB Z a0 "com/example/revalidate/revalidate/DocumentDecoder$Place" [("com/example/revalidate/revalidate/DocumentDecoder$Place", "line", "I", (.int r2)), ("com/example/revalidate/revalidate/DocumentDecoder$Place", "column", "I", (.int v11)), ("com/example/revalidate/revalidate/DocumentDecoder$Place", "xml11", "Z", (.int (nar .boolean (1 : Int32)))), ("com/example/revalidate/revalidate/DocumentDecoder$Place", "afterReturn", "Z", (.int (nar .boolean (passA [k2, k3] (0 : Int32) v2 (0 : Int32)))))]), (a5, OB Z a0 "com/example/revalidate/revalidate/DocumentDecoder$Place" [("com/example/revalidate/revalidate/DocumentDecoder$Place", "line", "I", (.int r2)), ("com/example/revalidate/revalidate/DocumentDecoder$Place", "column", "I", (.int v11)), ("com/example/revalidate/revalidate/DocumentDecoder$Place", "xml11", "Z", (.int (1 : Int32))), ("com/example/revalidate/revalidate/DocumentDecoder$Place", "afterReturn", "Z", (.int (passA [k2, k3] (0 : Int32) v2 (0 : Int32))))])] 5 14 133 #[.val (.long x0), .second, .val (.long x1), .second, .val (.long x2), .second, .val (.int x3), .val (.ref b1), .val (.ref b2), .val (.ref b3), .val (.int v1), .val (.int v2), .val (.int v3), .val (.ref a4), .val (.ref a5), .val (.int r2), .val (.int v11), .unset, .unset, .unset, .unset, .unset, .unset] []
      rw [own_narA, show nar .boolean (1 : Int32) = (1 : Int32) from by decide]
      show Go _ _ _ _ _ _ _ _ _ _ _ _ [(b1, IA Z .char (ints [k0, k1])), (b2, IA Z .char (ints [k2, k3])), (b3, IA Z .char (ints [k4, k5])), (a4, OB Z a0 "com/example/revalidate/revalidate/DocumentDecoder$Place" [("com/example/revalidate/revalidate/DocumentDecoder$Place", "line", "I", (.int r2)), ("com/example/revalidate/revalidate/DocumentDecoder$Place", "column", "I", (.int v11)), ("com/example/revalidate/revalidate/DocumentDecoder$Place", "xml11", "Z", (.int (1 : Int32))), ("com/example/revalidate/revalidate/DocumentDecoder$Place", "afterReturn", "Z", (.int (passA [k2, k3] (0 : Int32) v2 (0 : Int32))))]), (a5, OB Z a0 "com/example/revalidate/revalidate/DocumentDecoder$Place" [("com/example/revalidate/revalidate/DocumentDecoder$Place", "line", "I", (.int r2)), ("com/example/revalidate/revalidate/DocumentDecoder$Place", "column", "I", (.int v11)), ("com/example/revalidate/revalidate/DocumentDecoder$Place", "xml11", "Z", (.int (1 : Int32))), ("com/example/revalidate/revalidate/DocumentDecoder$Place", "afterReturn", "Z", (.int (passA [k2, k3] (0 : Int32) v2 (0 : Int32))))])] 5 14 133 #[.val (.long x0), .second, .val (.long x1), .second, .val (.long x2), .second, .val (.int x3), .val (.ref b1), .val (.ref b2), .val (.ref b3), .val (.int v1), .val (.int v2), .val (.int v3), .val (.ref a4), .val (.ref a5), .val (.int r2), .val (.int v11), .unset, .unset, .unset, .unset, .unset, .unset] []
      refine g_aload C 135 at_133 rfl rfl rfl ?_
      refine g_aload C 137 at_135 rfl rfl rfl ?_
      refine g_iconst C 138 (0 : Int32) at_137 rfl rfl ?_
      refine g_iload C 140 at_138 rfl rfl ?_
      obtain ⟨r4, r5, hP2⟩ := own_ex3 [k4, k5] (1 : Int32) (passA [k2, k3] (0 : Int32) v2 (0 : Int32)) v3 r2 (((0 : Int32) - v11) + (1 : Int32)) rfl rgv3
      have hl2 : (0 : Int32) < v3 → inb [k4, k5] (v3 - (1 : Int32)) = true := own_hl3 rfl rgv3
      refine g_virtual C 143 0 (i := 3) (argsL := [(.ref b3), (.int (0 : Int32)), (.int v3)]) (St := []) rfl (con_pass l Z a0 C.2.2.1 h0 [(b1, IA Z .char (ints [k0, k1])), (b2, IA Z .char (ints [k2, k3])), (b3, IA Z .char (ints [k4, k5])), (a4, OB Z a0 "com/example/revalidate/revalidate/DocumentDecoder$Place" [("com/example/revalidate/revalidate/DocumentDecoder$Place", "line", "I", (.int r2)), ("com/example/revalidate/revalidate/DocumentDecoder$Place", "column", "I", (.int v11)), ("com/example/revalidate/revalidate/DocumentDecoder$Place", "xml11", "Z", (.int (1 : Int32))), ("com/example/revalidate/revalidate/DocumentDecoder$Place", "afterReturn", "Z", (.int (passA [k2, k3] (0 : Int32) v2 (0 : Int32))))]), (a5, OB Z a0 "com/example/revalidate/revalidate/DocumentDecoder$Place" [("com/example/revalidate/revalidate/DocumentDecoder$Place", "line", "I", (.int r2)), ("com/example/revalidate/revalidate/DocumentDecoder$Place", "column", "I", (.int v11)), ("com/example/revalidate/revalidate/DocumentDecoder$Place", "xml11", "Z", (.int (1 : Int32))), ("com/example/revalidate/revalidate/DocumentDecoder$Place", "afterReturn", "Z", (.int (passA [k2, k3] (0 : Int32) v2 (0 : Int32))))])] 2 3 b3 a4 [k4, k5] (0 : Int32) v3 r2 v11 (1 : Int32) (passA [k2, k3] (0 : Int32) v2 (0 : Int32)) r4 r5 6 (by decide) rfl rfl hP2 hl2) (List.mem_of_getElem? (i := 29) rfl) (List.mem_of_getElem? (i := 30) rfl) (List.mem_of_getElem? (i := 32) rfl) (List.mem_of_getElem? (i := 31) rfl) (List.mem_of_getElem? (i := 11) rfl) (List.mem_of_getElem? (i := 33) rfl) (by decide) at_140 rfl rfl (lenOf (ps := [(.array .char), .int, .int]) (r := none) (by decide) rfl) rfl (Nat.le_of_eq rfl) (by decide) (by decide) (by decide) (by decide) ?_
      rintro _ _ ⟨rfl, rfl⟩
      show Go _ _ _ _ _ _ _ _ _ _ _ _ [(b1, IA Z .char (ints [k0, k1])), (b2, IA Z .char (ints [k2, k3])), (b3, IA Z .char (ints [k4, k5])), (a4, OB Z a0 "com/example/revalidate/revalidate/DocumentDecoder$Place" [("com/example/revalidate/revalidate/DocumentDecoder$Place", "line", "I", (.int r4)), ("com/example/revalidate/revalidate/DocumentDecoder$Place", "column", "I", (.int ((v3 - r5) + (1 : Int32)))), ("com/example/revalidate/revalidate/DocumentDecoder$Place", "xml11", "Z", (.int (1 : Int32))), ("com/example/revalidate/revalidate/DocumentDecoder$Place", "afterReturn", "Z", (.int (passA [k4, k5] (0 : Int32) v3 (passA [k2, k3] (0 : Int32) v2 (0 : Int32)))))]), (a5, OB Z a0 "com/example/revalidate/revalidate/DocumentDecoder$Place" [("com/example/revalidate/revalidate/DocumentDecoder$Place", "line", "I", (.int r2)), ("com/example/revalidate/revalidate/DocumentDecoder$Place", "column", "I", (.int v11)), ("com/example/revalidate/revalidate/DocumentDecoder$Place", "xml11", "Z", (.int (1 : Int32))), ("com/example/revalidate/revalidate/DocumentDecoder$Place", "afterReturn", "Z", (.int (passA [k2, k3] (0 : Int32) v2 (0 : Int32))))])] 5 14 143 #[.val (.long x0), .second, .val (.long x1), .second, .val (.long x2), .second, .val (.int x3), .val (.ref b1), .val (.ref b2), .val (.ref b3), .val (.int v1), .val (.int v2), .val (.int v3), .val (.ref a4), .val (.ref a5), .val (.int r2), .val (.int v11), .unset, .unset, .unset, .unset, .unset, .unset] []
      refine g_aload C 145 at_143 rfl rfl rfl ?_
      refine g_aload C 147 at_145 rfl rfl rfl ?_
      refine g_iconst C 148 (0 : Int32) at_147 rfl rfl ?_
      refine g_iload C 150 at_148 rfl rfl ?_
      refine g_virtual C 153 0 (i := 4) (argsL := [(.ref b3), (.int (0 : Int32)), (.int v3)]) (St := []) rfl (con_pass l Z a0 C.2.2.1 h0 [(b1, IA Z .char (ints [k0, k1])), (b2, IA Z .char (ints [k2, k3])), (b3, IA Z .char (ints [k4, k5])), (a4, OB Z a0 "com/example/revalidate/revalidate/DocumentDecoder$Place" [("com/example/revalidate/revalidate/DocumentDecoder$Place", "line", "I", (.int r4)), ("com/example/revalidate/revalidate/DocumentDecoder$Place", "column", "I", (.int ((v3 - r5) + (1 : Int32)))), ("com/example/revalidate/revalidate/DocumentDecoder$Place", "xml11", "Z", (.int (1 : Int32))), ("com/example/revalidate/revalidate/DocumentDecoder$Place", "afterReturn", "Z", (.int (passA [k4, k5] (0 : Int32) v3 (passA [k2, k3] (0 : Int32) v2 (0 : Int32)))))]), (a5, OB Z a0 "com/example/revalidate/revalidate/DocumentDecoder$Place" [("com/example/revalidate/revalidate/DocumentDecoder$Place", "line", "I", (.int r2)), ("com/example/revalidate/revalidate/DocumentDecoder$Place", "column", "I", (.int v11)), ("com/example/revalidate/revalidate/DocumentDecoder$Place", "xml11", "Z", (.int (1 : Int32))), ("com/example/revalidate/revalidate/DocumentDecoder$Place", "afterReturn", "Z", (.int (passA [k2, k3] (0 : Int32) v2 (0 : Int32))))])] 2 4 b3 a5 [k4, k5] (0 : Int32) v3 r2 v11 (1 : Int32) (passA [k2, k3] (0 : Int32) v2 (0 : Int32)) r4 r5 6 (by decide) rfl rfl hP2 hl2) (List.mem_of_getElem? (i := 29) rfl) (List.mem_of_getElem? (i := 30) rfl) (List.mem_of_getElem? (i := 32) rfl) (List.mem_of_getElem? (i := 31) rfl) (List.mem_of_getElem? (i := 11) rfl) (List.mem_of_getElem? (i := 33) rfl) (by decide) at_150 rfl rfl (lenOf (ps := [(.array .char), .int, .int]) (r := none) (by decide) rfl) rfl (Nat.le_of_eq rfl) (by decide) (by decide) (by decide) (by decide) ?_
      rintro _ _ ⟨rfl, rfl⟩
      show Go _ _ _ _ _ _ _ _ _ _ _ _ [(b1, IA Z .char (ints [k0, k1])), (b2, IA Z .char (ints [k2, k3])), (b3, IA Z .char (ints [k4, k5])), (a4, OB Z a0 "com/example/revalidate/revalidate/DocumentDecoder$Place" [("com/example/revalidate/revalidate/DocumentDecoder$Place", "line", "I", (.int r4)), ("com/example/revalidate/revalidate/DocumentDecoder$Place", "column", "I", (.int ((v3 - r5) + (1 : Int32)))), ("com/example/revalidate/revalidate/DocumentDecoder$Place", "xml11", "Z", (.int (1 : Int32))), ("com/example/revalidate/revalidate/DocumentDecoder$Place", "afterReturn", "Z", (.int (passA [k4, k5] (0 : Int32) v3 (passA [k2, k3] (0 : Int32) v2 (0 : Int32)))))]), (a5, OB Z a0 "com/example/revalidate/revalidate/DocumentDecoder$Place" [("com/example/revalidate/revalidate/DocumentDecoder$Place", "line", "I", (.int r4)), ("com/example/revalidate/revalidate/DocumentDecoder$Place", "column", "I", (.int ((v3 - r5) + (1 : Int32)))), ("com/example/revalidate/revalidate/DocumentDecoder$Place", "xml11", "Z", (.int (1 : Int32))), ("com/example/revalidate/revalidate/DocumentDecoder$Place", "afterReturn", "Z", (.int (passA [k4, k5] (0 : Int32) v3 (passA [k2, k3] (0 : Int32) v2 (0 : Int32)))))])] 5 14 153 #[.val (.long x0), .second, .val (.long x1), .second, .val (.long x2), .second, .val (.int x3), .val (.ref b1), .val (.ref b2), .val (.ref b3), .val (.int v1), .val (.int v2), .val (.int v3), .val (.ref a4), .val (.ref a5), .val (.int r2), .val (.int v11), .unset, .unset, .unset, .unset, .unset, .unset] []
      refine g_aload C 155 at_153 rfl rfl rfl ?_
      refine g_virtual C 158 0 (i := 3) (argsL := []) (St := []) rfl (con_line l Z a0 C.2.2.1 h0 [(b1, IA Z .char (ints [k0, k1])), (b2, IA Z .char (ints [k2, k3])), (b3, IA Z .char (ints [k4, k5])), (a4, OB Z a0 "com/example/revalidate/revalidate/DocumentDecoder$Place" [("com/example/revalidate/revalidate/DocumentDecoder$Place", "line", "I", (.int r4)), ("com/example/revalidate/revalidate/DocumentDecoder$Place", "column", "I", (.int ((v3 - r5) + (1 : Int32)))), ("com/example/revalidate/revalidate/DocumentDecoder$Place", "xml11", "Z", (.int (1 : Int32))), ("com/example/revalidate/revalidate/DocumentDecoder$Place", "afterReturn", "Z", (.int (passA [k4, k5] (0 : Int32) v3 (passA [k2, k3] (0 : Int32) v2 (0 : Int32)))))]), (a5, OB Z a0 "com/example/revalidate/revalidate/DocumentDecoder$Place" [("com/example/revalidate/revalidate/DocumentDecoder$Place", "line", "I", (.int r4)), ("com/example/revalidate/revalidate/DocumentDecoder$Place", "column", "I", (.int ((v3 - r5) + (1 : Int32)))), ("com/example/revalidate/revalidate/DocumentDecoder$Place", "xml11", "Z", (.int (1 : Int32))), ("com/example/revalidate/revalidate/DocumentDecoder$Place", "afterReturn", "Z", (.int (passA [k4, k5] (0 : Int32) v3 (passA [k2, k3] (0 : Int32) v2 (0 : Int32)))))])] 3 a4 r4 ((v3 - r5) + (1 : Int32)) (1 : Int32) (passA [k4, k5] (0 : Int32) v3 (passA [k2, k3] (0 : Int32) v2 (0 : Int32))) rfl) (List.mem_of_getElem? (i := 36) rfl) (List.mem_of_getElem? (i := 37) rfl) (List.mem_of_getElem? (i := 39) rfl) (List.mem_of_getElem? (i := 38) rfl) (List.mem_of_getElem? (i := 11) rfl) (List.mem_of_getElem? (i := 40) rfl) (by decide) at_155 rfl rfl (lenOf (ps := []) (r := some .int) (by decide) rfl) rfl (Nat.le_of_eq rfl) (by decide) (by decide) (by decide) (by decide) ?_
      rintro _ _ ⟨rfl, rfl⟩
      show Go _ _ _ _ _ _ _ _ _ _ _ _ [(b1, IA Z .char (ints [k0, k1])), (b2, IA Z .char (ints [k2, k3])), (b3, IA Z .char (ints [k4, k5])), (a4, OB Z a0 "com/example/revalidate/revalidate/DocumentDecoder$Place" [("com/example/revalidate/revalidate/DocumentDecoder$Place", "line", "I", (.int r4)), ("com/example/revalidate/revalidate/DocumentDecoder$Place", "column", "I", (.int ((v3 - r5) + (1 : Int32)))), ("com/example/revalidate/revalidate/DocumentDecoder$Place", "xml11", "Z", (.int (1 : Int32))), ("com/example/revalidate/revalidate/DocumentDecoder$Place", "afterReturn", "Z", (.int (passA [k4, k5] (0 : Int32) v3 (passA [k2, k3] (0 : Int32) v2 (0 : Int32)))))]), (a5, OB Z a0 "com/example/revalidate/revalidate/DocumentDecoder$Place" [("com/example/revalidate/revalidate/DocumentDecoder$Place", "line", "I", (.int r4)), ("com/example/revalidate/revalidate/DocumentDecoder$Place", "column", "I", (.int ((v3 - r5) + (1 : Int32)))), ("com/example/revalidate/revalidate/DocumentDecoder$Place", "xml11", "Z", (.int (1 : Int32))), ("com/example/revalidate/revalidate/DocumentDecoder$Place", "afterReturn", "Z", (.int (passA [k4, k5] (0 : Int32) v3 (passA [k2, k3] (0 : Int32) v2 (0 : Int32)))))])] 5 14 158 #[.val (.long x0), .second, .val (.long x1), .second, .val (.long x2), .second, .val (.int x3), .val (.ref b1), .val (.ref b2), .val (.ref b3), .val (.int v1), .val (.int v2), .val (.int v3), .val (.ref a4), .val (.ref a5), .val (.int r2), .val (.int v11), .unset, .unset, .unset, .unset, .unset, .unset] [(.int r4)]
      refine g_istore C 160 #[.val (.long x0), .second, .val (.long x1), .second, .val (.long x2), .second, .val (.int x3), .val (.ref b1), .val (.ref b2), .val (.ref b3), .val (.int v1), .val (.int v2), .val (.int v3), .val (.ref a4), .val (.ref a5), .val (.int r2), .val (.int v11), .val (.int r4), .unset, .unset, .unset, .unset, .unset] at_158 rfl rfl ?_
      refine g_aload C 162 at_160 rfl rfl rfl ?_
      refine g_virtual C 165 0 (i := 3) (argsL := []) (St := []) rfl (con_column l Z a0 C.2.2.1 h0 [(b1, IA Z .char (ints [k0, k1])), (b2, IA Z .char (ints [k2, k3])), (b3, IA Z .char (ints [k4, k5])), (a4, OB Z a0 "com/example/revalidate/revalidate/DocumentDecoder$Place" [("com/example/revalidate/revalidate/DocumentDecoder$Place", "line", "I", (.int r4)), ("com/example/revalidate/revalidate/DocumentDecoder$Place", "column", "I", (.int ((v3 - r5) + (1 : Int32)))), ("com/example/revalidate/revalidate/DocumentDecoder$Place", "xml11", "Z", (.int (1 : Int32))), ("com/example/revalidate/revalidate/DocumentDecoder$Place", "afterReturn", "Z", (.int (passA [k4, k5] (0 : Int32) v3 (passA [k2, k3] (0 : Int32) v2 (0 : Int32)))))]), (a5, OB Z a0 "com/example/revalidate/revalidate/DocumentDecoder$Place" [("com/example/revalidate/revalidate/DocumentDecoder$Place", "line", "I", (.int r4)), ("com/example/revalidate/revalidate/DocumentDecoder$Place", "column", "I", (.int ((v3 - r5) + (1 : Int32)))), ("com/example/revalidate/revalidate/DocumentDecoder$Place", "xml11", "Z", (.int (1 : Int32))), ("com/example/revalidate/revalidate/DocumentDecoder$Place", "afterReturn", "Z", (.int (passA [k4, k5] (0 : Int32) v3 (passA [k2, k3] (0 : Int32) v2 (0 : Int32)))))])] 3 a4 r4 ((v3 - r5) + (1 : Int32)) (1 : Int32) (passA [k4, k5] (0 : Int32) v3 (passA [k2, k3] (0 : Int32) v2 (0 : Int32))) rfl) (List.mem_of_getElem? (i := 41) rfl) (List.mem_of_getElem? (i := 42) rfl) (List.mem_of_getElem? (i := 44) rfl) (List.mem_of_getElem? (i := 43) rfl) (List.mem_of_getElem? (i := 11) rfl) (List.mem_of_getElem? (i := 45) rfl) (by decide) at_162 rfl rfl (lenOf (ps := []) (r := some .int) (by decide) rfl) rfl (Nat.le_of_eq rfl) (by decide) (by decide) (by decide) (by decide) ?_
      rintro _ _ ⟨rfl, rfl⟩
      show Go _ _ _ _ _ _ _ _ _ _ _ _ [(b1, IA Z .char (ints [k0, k1])), (b2, IA Z .char (ints [k2, k3])), (b3, IA Z .char (ints [k4, k5])), (a4, OB Z a0 "com/example/revalidate/revalidate/DocumentDecoder$Place" [("com/example/revalidate/revalidate/DocumentDecoder$Place", "line", "I", (.int r4)), ("com/example/revalidate/revalidate/DocumentDecoder$Place", "column", "I", (.int ((v3 - r5) + (1 : Int32)))), ("com/example/revalidate/revalidate/DocumentDecoder$Place", "xml11", "Z", (.int (1 : Int32))), ("com/example/revalidate/revalidate/DocumentDecoder$Place", "afterReturn", "Z", (.int (passA [k4, k5] (0 : Int32) v3 (passA [k2, k3] (0 : Int32) v2 (0 : Int32)))))]), (a5, OB Z a0 "com/example/revalidate/revalidate/DocumentDecoder$Place" [("com/example/revalidate/revalidate/DocumentDecoder$Place", "line", "I", (.int r4)), ("com/example/revalidate/revalidate/DocumentDecoder$Place", "column", "I", (.int ((v3 - r5) + (1 : Int32)))), ("com/example/revalidate/revalidate/DocumentDecoder$Place", "xml11", "Z", (.int (1 : Int32))), ("com/example/revalidate/revalidate/DocumentDecoder$Place", "afterReturn", "Z", (.int (passA [k4, k5] (0 : Int32) v3 (passA [k2, k3] (0 : Int32) v2 (0 : Int32)))))])] 5 14 165 #[.val (.long x0), .second, .val (.long x1), .second, .val (.long x2), .second, .val (.int x3), .val (.ref b1), .val (.ref b2), .val (.ref b3), .val (.int v1), .val (.int v2), .val (.int v3), .val (.ref a4), .val (.ref a5), .val (.int r2), .val (.int v11), .val (.int r4), .unset, .unset, .unset, .unset, .unset] [(.int ((v3 - r5) + (1 : Int32)))]
      refine g_istore C 167 #[.val (.long x0), .second, .val (.long x1), .second, .val (.long x2), .second, .val (.int x3), .val (.ref b1), .val (.ref b2), .val (.ref b3), .val (.int v1), .val (.int v2), .val (.int v3), .val (.ref a4), .val (.ref a5), .val (.int r2), .val (.int v11), .val (.int r4), .val (.int ((v3 - r5) + (1 : Int32))), .unset, .unset, .unset, .unset] at_165 rfl rfl ?_
      generalize hv12 : ((v3 - r5) + (1 : Int32)) = v12
      refine g_aload C 169 at_167 rfl rfl rfl ?_
      refine g_virtual C 172 0 (i := 4) (argsL := []) (St := []) rfl (con_line l Z a0 C.2.2.1 h0 [(b1, IA Z .char (ints [k0, k1])), (b2, IA Z .char (ints [k2, k3])), (b3, IA Z .char (ints [k4, k5])), (a4, OB Z a0 "com/example/revalidate/revalidate/DocumentDecoder$Place" [("com/example/revalidate/revalidate/DocumentDecoder$Place", "line", "I", (.int r4)), ("com/example/revalidate/revalidate/DocumentDecoder$Place", "column", "I", (.int v12)), ("com/example/revalidate/revalidate/DocumentDecoder$Place", "xml11", "Z", (.int (1 : Int32))), ("com/example/revalidate/revalidate/DocumentDecoder$Place", "afterReturn", "Z", (.int (passA [k4, k5] (0 : Int32) v3 (passA [k2, k3] (0 : Int32) v2 (0 : Int32)))))]), (a5, OB Z a0 "com/example/revalidate/revalidate/DocumentDecoder$Place" [("com/example/revalidate/revalidate/DocumentDecoder$Place", "line", "I", (.int r4)), ("com/example/revalidate/revalidate/DocumentDecoder$Place", "column", "I", (.int v12)), ("com/example/revalidate/revalidate/DocumentDecoder$Place", "xml11", "Z", (.int (1 : Int32))), ("com/example/revalidate/revalidate/DocumentDecoder$Place", "afterReturn", "Z", (.int (passA [k4, k5] (0 : Int32) v3 (passA [k2, k3] (0 : Int32) v2 (0 : Int32)))))])] 4 a5 r4 v12 (1 : Int32) (passA [k4, k5] (0 : Int32) v3 (passA [k2, k3] (0 : Int32) v2 (0 : Int32))) rfl) (List.mem_of_getElem? (i := 36) rfl) (List.mem_of_getElem? (i := 37) rfl) (List.mem_of_getElem? (i := 39) rfl) (List.mem_of_getElem? (i := 38) rfl) (List.mem_of_getElem? (i := 11) rfl) (List.mem_of_getElem? (i := 40) rfl) (by decide) at_169 rfl rfl (lenOf (ps := []) (r := some .int) (by decide) rfl) rfl (Nat.le_of_eq rfl) (by decide) (by decide) (by decide) (by decide) ?_
      rintro _ _ ⟨rfl, rfl⟩
      show Go _ _ _ _ _ _ _ _ _ _ _ _ [(b1, IA Z .char (ints [k0, k1])), (b2, IA Z .char (ints [k2, k3])), (b3, IA Z .char (ints [k4, k5])), (a4, OB Z a0 "com/example/revalidate/revalidate/DocumentDecoder$Place" [("com/example/revalidate/revalidate/DocumentDecoder$Place", "line", "I", (.int r4)), ("com/example/revalidate/revalidate/DocumentDecoder$Place", "column", "I", (.int v12)), ("com/example/revalidate/revalidate/DocumentDecoder$Place", "xml11", "Z", (.int (1 : Int32))), ("com/example/revalidate/revalidate/DocumentDecoder$Place", "afterReturn", "Z", (.int (passA [k4, k5] (0 : Int32) v3 (passA [k2, k3] (0 : Int32) v2 (0 : Int32)))))]), (a5, OB Z a0 "com/example/revalidate/revalidate/DocumentDecoder$Place" [("com/example/revalidate/revalidate/DocumentDecoder$Place", "line", "I", (.int r4)), ("com/example/revalidate/revalidate/DocumentDecoder$Place", "column", "I", (.int v12)), ("com/example/revalidate/revalidate/DocumentDecoder$Place", "xml11", "Z", (.int (1 : Int32))), ("com/example/revalidate/revalidate/DocumentDecoder$Place", "afterReturn", "Z", (.int (passA [k4, k5] (0 : Int32) v3 (passA [k2, k3] (0 : Int32) v2 (0 : Int32)))))])] 5 14 172 #[.val (.long x0), .second, .val (.long x1), .second, .val (.long x2), .second, .val (.int x3), .val (.ref b1), .val (.ref b2), .val (.ref b3), .val (.int v1), .val (.int v2), .val (.int v3), .val (.ref a4), .val (.ref a5), .val (.int r2), .val (.int v11), .val (.int r4), .val (.int v12), .unset, .unset, .unset, .unset] [(.int r4)]
      refine g_istore C 174 #[.val (.long x0), .second, .val (.long x1), .second, .val (.long x2), .second, .val (.int x3), .val (.ref b1), .val (.ref b2), .val (.ref b3), .val (.int v1), .val (.int v2), .val (.int v3), .val (.ref a4), .val (.ref a5), .val (.int r2), .val (.int v11), .val (.int r4), .val (.int v12), .val (.int r4), .unset, .unset, .unset] at_172 rfl rfl ?_
      refine g_aload C 176 at_174 rfl rfl rfl ?_
      refine g_virtual C 179 0 (i := 4) (argsL := []) (St := []) rfl (con_column l Z a0 C.2.2.1 h0 [(b1, IA Z .char (ints [k0, k1])), (b2, IA Z .char (ints [k2, k3])), (b3, IA Z .char (ints [k4, k5])), (a4, OB Z a0 "com/example/revalidate/revalidate/DocumentDecoder$Place" [("com/example/revalidate/revalidate/DocumentDecoder$Place", "line", "I", (.int r4)), ("com/example/revalidate/revalidate/DocumentDecoder$Place", "column", "I", (.int v12)), ("com/example/revalidate/revalidate/DocumentDecoder$Place", "xml11", "Z", (.int (1 : Int32))), ("com/example/revalidate/revalidate/DocumentDecoder$Place", "afterReturn", "Z", (.int (passA [k4, k5] (0 : Int32) v3 (passA [k2, k3] (0 : Int32) v2 (0 : Int32)))))]), (a5, OB Z a0 "com/example/revalidate/revalidate/DocumentDecoder$Place" [("com/example/revalidate/revalidate/DocumentDecoder$Place", "line", "I", (.int r4)), ("com/example/revalidate/revalidate/DocumentDecoder$Place", "column", "I", (.int v12)), ("com/example/revalidate/revalidate/DocumentDecoder$Place", "xml11", "Z", (.int (1 : Int32))), ("com/example/revalidate/revalidate/DocumentDecoder$Place", "afterReturn", "Z", (.int (passA [k4, k5] (0 : Int32) v3 (passA [k2, k3] (0 : Int32) v2 (0 : Int32)))))])] 4 a5 r4 v12 (1 : Int32) (passA [k4, k5] (0 : Int32) v3 (passA [k2, k3] (0 : Int32) v2 (0 : Int32))) rfl) (List.mem_of_getElem? (i := 41) rfl) (List.mem_of_getElem? (i := 42) rfl) (List.mem_of_getElem? (i := 44) rfl) (List.mem_of_getElem? (i := 43) rfl) (List.mem_of_getElem? (i := 11) rfl) (List.mem_of_getElem? (i := 45) rfl) (by decide) at_176 rfl rfl (lenOf (ps := []) (r := some .int) (by decide) rfl) rfl (Nat.le_of_eq rfl) (by decide) (by decide) (by decide) (by decide) ?_
      rintro _ _ ⟨rfl, rfl⟩
      show Go _ _ _ _ _ _ _ _ _ _ _ _ [(b1, IA Z .char (ints [k0, k1])), (b2, IA Z .char (ints [k2, k3])), (b3, IA Z .char (ints [k4, k5])), (a4, OB Z a0 "com/example/revalidate/revalidate/DocumentDecoder$Place" [("com/example/revalidate/revalidate/DocumentDecoder$Place", "line", "I", (.int r4)), ("com/example/revalidate/revalidate/DocumentDecoder$Place", "column", "I", (.int v12)), ("com/example/revalidate/revalidate/DocumentDecoder$Place", "xml11", "Z", (.int (1 : Int32))), ("com/example/revalidate/revalidate/DocumentDecoder$Place", "afterReturn", "Z", (.int (passA [k4, k5] (0 : Int32) v3 (passA [k2, k3] (0 : Int32) v2 (0 : Int32)))))]), (a5, OB Z a0 "com/example/revalidate/revalidate/DocumentDecoder$Place" [("com/example/revalidate/revalidate/DocumentDecoder$Place", "line", "I", (.int r4)), ("com/example/revalidate/revalidate/DocumentDecoder$Place", "column", "I", (.int v12)), ("com/example/revalidate/revalidate/DocumentDecoder$Place", "xml11", "Z", (.int (1 : Int32))), ("com/example/revalidate/revalidate/DocumentDecoder$Place", "afterReturn", "Z", (.int (passA [k4, k5] (0 : Int32) v3 (passA [k2, k3] (0 : Int32) v2 (0 : Int32)))))])] 5 14 179 #[.val (.long x0), .second, .val (.long x1), .second, .val (.long x2), .second, .val (.int x3), .val (.ref b1), .val (.ref b2), .val (.ref b3), .val (.int v1), .val (.int v2), .val (.int v3), .val (.ref a4), .val (.ref a5), .val (.int r2), .val (.int v11), .val (.int r4), .val (.int v12), .val (.int r4), .unset, .unset, .unset] [(.int v12)]
      refine g_istore C 181 #[.val (.long x0), .second, .val (.long x1), .second, .val (.long x2), .second, .val (.int x3), .val (.ref b1), .val (.ref b2), .val (.ref b3), .val (.int v1), .val (.int v2), .val (.int v3), .val (.ref a4), .val (.ref a5), .val (.int r2), .val (.int v11), .val (.int r4), .val (.int v12), .val (.int r4), .val (.int v12), .unset, .unset] at_179 rfl rfl ?_
      refine g_iload C 183 at_181 rfl rfl ?_
      refine g_iload C 185 at_183 rfl rfl ?_
      refine g_icN C 188 at_185 (teq (rfl : r4 = r4)).2 rfl ?_
      refine g_iload C 190 at_188 rfl rfl ?_
      refine g_iload C 192 at_190 rfl rfl ?_
      refine g_icN C 195 at_192 (teq (rfl : v12 = v12)).2 rfl ?_
      refine g_iconst C 196 (1 : Int32) at_195 rfl rfl ?_
      refine g_goto C 200 at_196 (by decide) (by decide) ?_
      refine g_istore C 202 #[.val (.long x0), .second, .val (.long x1), .second, .val (.long x2), .second, .val (.int x3), .val (.ref b1), .val (.ref b2), .val (.ref b3), .val (.int v1), .val (.int v2), .val (.int v3), .val (.ref a4), .val (.ref a5), .val (.int r2), .val (.int v11), .val (.int r4), .val (.int v12), .val (.int r4), .val (.int v12), .val (.int (1 : Int32)), .unset] at_200 rfl rfl ?_
      refine g_iload C 204 at_202 rfl rfl ?_
      by_cases c13 : v3 = (0 : Int32)
      · refine g_ifN C 207 at_204 (teq c13).2 rfl ?_
        refine g_iload C 209 at_207 rfl rfl ?_
        refine g_iload C 211 at_209 rfl rfl ?_
        refine g_icN C 214 at_211 (teq ((own_z c13 hP2).1.symm : r4 = r2)).2 rfl ?_
        refine g_iload C 216 at_214 rfl rfl ?_
        refine g_iload C 218 at_216 rfl rfl ?_
        refine g_icN C 221 at_218 (teq ((by rw [← hv12, c13, ← (own_z c13 hP2).2]; exact own_back _) : v12 = v11)).2 rfl ?_
        refine g_iconst C 222 (1 : Int32) at_221 rfl rfl ?_
        refine g_goto C 226 at_222 (by decide) (by decide) ?_
        refine g_istore C 228 #[.val (.long x0), .second, .val (.long x1), .second, .val (.long x2), .second, .val (.int x3), .val (.ref b1), .val (.ref b2), .val (.ref b3), .val (.int v1), .val (.int v2), .val (.int v3), .val (.ref a4), .val (.ref a5), .val (.int r2), .val (.int v11), .val (.int r4), .val (.int v12), .val (.int r4), .val (.int v12), .val (.int (1 : Int32)), .val (.int (1 : Int32))] at_226 rfl rfl ?_
        refine g_iload C 230 at_228 rfl rfl ?_
        refine g_ifN C 233 at_230 (feq ((by decide) : ¬ ((1 : Int32) = (0 : Int32)))).1 rfl ?_
        refine g_iload C 235 at_233 rfl rfl ?_
        refine g_ifN C 238 at_235 (feq ((by decide) : ¬ ((1 : Int32) = (0 : Int32)))).1 rfl ?_
        refine g_iconst C 239 (1 : Int32) at_238 rfl rfl ?_
        refine g_goto C 243 at_239 (by decide) (by decide) ?_
        exact g_nret C (by simp) (z' := (1 : Int32)) (by decide) at_243 (by decide) (by decide) rfl
      · refine g_ifY C 221 at_204 (feq c13).2 (by decide) (by decide) ?_
        refine g_iconst C 222 (1 : Int32) at_221 rfl rfl ?_
        refine g_goto C 226 at_222 (by decide) (by decide) ?_
        refine g_istore C 228 #[.val (.long x0), .second, .val (.long x1), .second, .val (.long x2), .second, .val (.int x3), .val (.ref b1), .val (.ref b2), .val (.ref b3), .val (.int v1), .val (.int v2), .val (.int v3), .val (.ref a4), .val (.ref a5), .val (.int r2), .val (.int v11), .val (.int r4), .val (.int v12), .val (.int r4), .val (.int v12), .val (.int (1 : Int32)), .val (.int (1 : Int32))] at_226 rfl rfl ?_
        refine g_iload C 230 at_228 rfl rfl ?_
        refine g_ifN C 233 at_230 (feq ((by decide) : ¬ ((1 : Int32) = (0 : Int32)))).1 rfl ?_
        refine g_iload C 235 at_233 rfl rfl ?_
        refine g_ifN C 238 at_235 (feq ((by decide) : ¬ ((1 : Int32) = (0 : Int32)))).1 rfl ?_
        refine g_iconst C 239 (1 : Int32) at_238 rfl rfl ?_
        refine g_goto C 243 at_239 (by decide) (by decide) ?_
        exact g_nret C (by simp) (z' := (1 : Int32)) (by decide) at_243 (by decide) (by decide) rfl
  · refine g_ifN C 75 at_72 (feq c6).1 rfl ?_
    refine g_aload C 77 at_75 rfl rfl rfl ?_
    refine g_virtual C 80 0 (i := 3) (argsL := []) (St := []) rfl (con_end l Z a0 C.2.2.1 h0 [(b1, IA Z .char (ints [k0, k1])), (b2, IA Z .char (ints [k2, k3])), (b3, IA Z .char (ints [k4, k5])), (a4, OB Z a0 "com/example/revalidate/revalidate/DocumentDecoder$Place" [("com/example/revalidate/revalidate/DocumentDecoder$Place", "line", "I", (.int (1 : Int32))), ("com/example/revalidate/revalidate/DocumentDecoder$Place", "column", "I", (.int (1 : Int32))), ("com/example/revalidate/revalidate/DocumentDecoder$Place", "xml11", "Z", (.int (0 : Int32))), ("com/example/revalidate/revalidate/DocumentDecoder$Place", "afterReturn", "Z", (.int (0 : Int32)))]), (a5, OB Z a0 "com/example/revalidate/revalidate/DocumentDecoder$Place" [("com/example/revalidate/revalidate/DocumentDecoder$Place", "line", "I", (.int (1 : Int32))), ("com/example/revalidate/revalidate/DocumentDecoder$Place", "column", "I", (.int (1 : Int32))), ("com/example/revalidate/revalidate/DocumentDecoder$Place", "xml11", "Z", (.int (0 : Int32))), ("com/example/revalidate/revalidate/DocumentDecoder$Place", "afterReturn", "Z", (.int (0 : Int32)))])] 3 a4 (1 : Int32) (1 : Int32) (0 : Int32) (0 : Int32) rfl) (List.mem_of_getElem? (i := 22) rfl) (List.mem_of_getElem? (i := 23) rfl) (List.mem_of_getElem? (i := 25) rfl) (List.mem_of_getElem? (i := 24) rfl) (List.mem_of_getElem? (i := 11) rfl) (List.mem_of_getElem? (i := 26) rfl) (by decide) at_77 rfl rfl (lenOf (ps := []) (r := none) (by decide) rfl) rfl (Nat.le_of_eq rfl) (by decide) (by decide) (by decide) (by decide) ?_
    rintro _ _ ⟨rfl, rfl⟩
    show Go _ _ _ _ _ _ _ _ _ _ _ _ [(b1, IA Z .char (ints [k0, k1])), (b2, IA Z .char (ints [k2, k3])), (b3, IA Z .char (ints [k4, k5])), (a4, OB Z a0 "com/example/revalidate/revalidate/DocumentDecoder$Place" [("com/example/revalidate/revalidate/DocumentDecoder$Place", "line", "I", (.int (1 : Int32))), ("com/example/revalidate/revalidate/DocumentDecoder$Place", "column", "I", (.int (1 : Int32))), ("com/example/revalidate/revalidate/DocumentDecoder$Place", "xml11", "Z", (.int (1 : Int32))), ("com/example/revalidate/revalidate/DocumentDecoder$Place", "afterReturn", "Z", (.int (0 : Int32)))]), (a5, OB Z a0 "com/example/revalidate/revalidate/DocumentDecoder$Place" [("com/example/revalidate/revalidate/DocumentDecoder$Place", "line", "I", (.int (1 : Int32))), ("com/example/revalidate/revalidate/DocumentDecoder$Place", "column", "I", (.int (1 : Int32))), ("com/example/revalidate/revalidate/DocumentDecoder$Place", "xml11", "Z", (.int (0 : Int32))), ("com/example/revalidate/revalidate/DocumentDecoder$Place", "afterReturn", "Z", (.int (0 : Int32)))])] 5 14 80 #[.val (.long x0), .second, .val (.long x1), .second, .val (.long x2), .second, .val (.int x3), .val (.ref b1), .val (.ref b2), .val (.ref b3), .val (.int v1), .val (.int v2), .val (.int v3), .val (.ref a4), .val (.ref a5), .unset, .unset, .unset, .unset, .unset, .unset, .unset, .unset] []
    refine g_iload C 82 at_80 rfl rfl ?_
    refine g_iconst C 83 (2 : Int32) at_82 rfl rfl ?_
    refine g_iand C 84 at_83 rfl ?_
    by_cases c14 : (x3 &&& (2 : Int32)) = (0 : Int32)
    · refine g_ifY C 92 at_84 (teq c14).1 (by decide) (by decide) ?_
      refine g_aload C 94 at_92 rfl rfl rfl ?_
      refine g_aload C 96 at_94 rfl rfl rfl ?_
      refine g_iconst C 97 (0 : Int32) at_96 rfl rfl ?_
      refine g_iload C 99 at_97 rfl rfl ?_
      obtain ⟨r0, r1, hP0⟩ := own_ex3 [k0, k1] (1 : Int32) (0 : Int32) v1 (1 : Int32) (((0 : Int32) - (1 : Int32)) + (1 : Int32)) rfl rgv1
      have hl0 : (0 : Int32) < v1 → inb [k0, k1] (v1 - (1 : Int32)) = true := own_hl3 rfl rgv1
      refine g_virtual C 102 0 (i := 3) (argsL := [(.ref b1), (.int (0 : Int32)), (.int v1)]) (St := []) rfl (con_pass l Z a0 C.2.2.1 h0 [(b1, IA Z .char (ints [k0, k1])), (b2, IA Z .char (ints [k2, k3])), (b3, IA Z .char (ints [k4, k5])), (a4, OB Z a0 "com/example/revalidate/revalidate/DocumentDecoder$Place" [("com/example/revalidate/revalidate/DocumentDecoder$Place", "line", "I", (.int (1 : Int32))), ("com/example/revalidate/revalidate/DocumentDecoder$Place", "column", "I", (.int (1 : Int32))), ("com/example/revalidate/revalidate/DocumentDecoder$Place", "xml11", "Z", (.int (1 : Int32))), ("com/example/revalidate/revalidate/DocumentDecoder$Place", "afterReturn", "Z", (.int (0 : Int32)))]), (a5, OB Z a0 "com/example/revalidate/revalidate/DocumentDecoder$Place" [("com/example/revalidate/revalidate/DocumentDecoder$Place", "line", "I", (.int (1 : Int32))), ("com/example/revalidate/revalidate/DocumentDecoder$Place", "column", "I", (.int (1 : Int32))), ("com/example/revalidate/revalidate/DocumentDecoder$Place", "xml11", "Z", (.int (0 : Int32))), ("com/example/revalidate/revalidate/DocumentDecoder$Place", "afterReturn", "Z", (.int (0 : Int32)))])] 0 3 b1 a4 [k0, k1] (0 : Int32) v1 (1 : Int32) (1 : Int32) (1 : Int32) (0 : Int32) r0 r1 6 (by decide) rfl rfl hP0 hl0) (List.mem_of_getElem? (i := 29) rfl) (List.mem_of_getElem? (i := 30) rfl) (List.mem_of_getElem? (i := 32) rfl) (List.mem_of_getElem? (i := 31) rfl) (List.mem_of_getElem? (i := 11) rfl) (List.mem_of_getElem? (i := 33) rfl) (by decide) at_99 rfl rfl (lenOf (ps := [(.array .char), .int, .int]) (r := none) (by decide) rfl) rfl (Nat.le_of_eq rfl) (by decide) (by decide) (by decide) (by decide) ?_
      rintro _ _ ⟨rfl, rfl⟩
      show Go _ _ _ _ _ _ _ _ _ _ _ _ [(b1, IA Z .char (ints [k0, k1])), (b2, IA Z .char (ints [k2, k3])), (b3, IA Z .char (ints [k4, k5])), (a4, OB Z a0 "com/example/revalidate/revalidate/DocumentDecoder$Place" [("com/example/revalidate/revalidate/DocumentDecoder$Place", "line", "I", (.int r0)), ("com/example/revalidate/revalidate/DocumentDecoder$Place", "column", "I", (.int ((v1 - r1) + (1 : Int32)))), ("com/example/revalidate/revalidate/DocumentDecoder$Place", "xml11", "Z", (.int (1 : Int32))), ("com/example/revalidate/revalidate/DocumentDecoder$Place", "afterReturn", "Z", (.int (passA [k0, k1] (0 : Int32) v1 (0 : Int32))))]), (a5, OB Z a0 "com/example/revalidate/revalidate/DocumentDecoder$Place" [("com/example/revalidate/revalidate/DocumentDecoder$Place", "line", "I", (.int (1 : Int32))), ("com/example/revalidate/revalidate/DocumentDecoder$Place", "column", "I", (.int (1 : Int32))), ("com/example/revalidate/revalidate/DocumentDecoder$Place", "xml11", "Z", (.int (0 : Int32))), ("com/example/revalidate/revalidate/DocumentDecoder$Place", "afterReturn", "Z", (.int (0 : Int32)))])] 5 14 102 #[.val (.long x0), .second, .val (.long x1), .second, .val (.long x2), .second, .val (.int x3), .val (.ref b1), .val (.ref b2), .val (.ref b3), .val (.int v1), .val (.int v2), .val (.int v3), .val (.ref a4), .val (.ref a5), .unset, .unset, .unset, .unset, .unset, .unset, .unset, .unset] []
      refine g_aload C 104 at_102 rfl rfl rfl ?_
      refine g_aload C 106 at_104 rfl rfl rfl ?_
      refine g_iconst C 107 (0 : Int32) at_106 rfl rfl ?_
      refine g_iload C 109 at_107 rfl rfl ?_
      obtain ⟨r2, r3, hP1⟩ := own_ex3 [k2, k3] (0 : Int32) (0 : Int32) v2 (1 : Int32) (((0 : Int32) - (1 : Int32)) + (1 : Int32)) rfl rgv2
      have hl1 : (0 : Int32) < v2 → inb [k2, k3] (v2 - (1 : Int32)) = true := own_hl3 rfl rgv2
      refine g_virtual C 112 0 (i := 4) (argsL := [(.ref b2), (.int (0 : Int32)), (.int v2)]) (St := []) rfl (con_pass l Z a0 C.2.2.1 h0 [(b1, IA Z .char (ints [k0, k1])), (b2, IA Z .char (ints [k2, k3])), (b3, IA Z .char (ints [k4, k5])), (a4, OB Z a0 "com/example/revalidate/revalidate/DocumentDecoder$Place" [("com/example/revalidate/revalidate/DocumentDecoder$Place", "line", "I", (.int r0)), ("com/example/revalidate/revalidate/DocumentDecoder$Place", "column", "I", (.int ((v1 - r1) + (1 : Int32)))), ("com/example/revalidate/revalidate/DocumentDecoder$Place", "xml11", "Z", (.int (1 : Int32))), ("com/example/revalidate/revalidate/DocumentDecoder$Place", "afterReturn", "Z", (.int (passA [k0, k1] (0 : Int32) v1 (0 : Int32))))]), (a5, OB Z a0 "com/example/revalidate/revalidate/DocumentDecoder$Place" [("com/example/revalidate/revalidate/DocumentDecoder$Place", "line", "I", (.int (1 : Int32))), ("com/example/revalidate/revalidate/DocumentDecoder$Place", "column", "I", (.int (1 : Int32))), ("com/example/revalidate/revalidate/DocumentDecoder$Place", "xml11", "Z", (.int (0 : Int32))), ("com/example/revalidate/revalidate/DocumentDecoder$Place", "afterReturn", "Z", (.int (0 : Int32)))])] 1 4 b2 a5 [k2, k3] (0 : Int32) v2 (1 : Int32) (1 : Int32) (0 : Int32) (0 : Int32) r2 r3 6 (by decide) rfl rfl hP1 hl1) (List.mem_of_getElem? (i := 29) rfl) (List.mem_of_getElem? (i := 30) rfl) (List.mem_of_getElem? (i := 32) rfl) (List.mem_of_getElem? (i := 31) rfl) (List.mem_of_getElem? (i := 11) rfl) (List.mem_of_getElem? (i := 33) rfl) (by decide) at_109 rfl rfl (lenOf (ps := [(.array .char), .int, .int]) (r := none) (by decide) rfl) rfl (Nat.le_of_eq rfl) (by decide) (by decide) (by decide) (by decide) ?_
      rintro _ _ ⟨rfl, rfl⟩
      show Go _ _ _ _ _ _ _ _ _ _ _ _ [(b1, IA Z .char (ints [k0, k1])), (b2, IA Z .char (ints [k2, k3])), (b3, IA Z .char (ints [k4, k5])), (a4, OB Z a0 "com/example/revalidate/revalidate/DocumentDecoder$Place" [("com/example/revalidate/revalidate/DocumentDecoder$Place", "line", "I", (.int r0)), ("com/example/revalidate/revalidate/DocumentDecoder$Place", "column", "I", (.int ((v1 - r1) + (1 : Int32)))), ("com/example/revalidate/revalidate/DocumentDecoder$Place", "xml11", "Z", (.int (1 : Int32))), ("com/example/revalidate/revalidate/DocumentDecoder$Place", "afterReturn", "Z", (.int (passA [k0, k1] (0 : Int32) v1 (0 : Int32))))]), (a5, OB Z a0 "com/example/revalidate/revalidate/DocumentDecoder$Place" [("com/example/revalidate/revalidate/DocumentDecoder$Place", "line", "I", (.int r2)), ("com/example/revalidate/revalidate/DocumentDecoder$Place", "column", "I", (.int ((v2 - r3) + (1 : Int32)))), ("com/example/revalidate/revalidate/DocumentDecoder$Place", "xml11", "Z", (.int (0 : Int32))), ("com/example/revalidate/revalidate/DocumentDecoder$Place", "afterReturn", "Z", (.int (passA [k2, k3] (0 : Int32) v2 (0 : Int32))))])] 5 14 112 #[.val (.long x0), .second, .val (.long x1), .second, .val (.long x2), .second, .val (.int x3), .val (.ref b1), .val (.ref b2), .val (.ref b3), .val (.int v1), .val (.int v2), .val (.int v3), .val (.ref a4), .val (.ref a5), .unset, .unset, .unset, .unset, .unset, .unset, .unset, .unset] []
      refine g_aload C 114 at_112 rfl rfl rfl ?_
      refine g_virtual C 117 0 (i := 4) (argsL := []) (St := []) rfl (con_line l Z a0 C.2.2.1 h0 [(b1, IA Z .char (ints [k0, k1])), (b2, IA Z .char (ints [k2, k3])), (b3, IA Z .char (ints [k4, k5])), (a4, OB Z a0 "com/example/revalidate/revalidate/DocumentDecoder$Place" [("com/example/revalidate/revalidate/DocumentDecoder$Place", "line", "I", (.int r0)), ("com/example/revalidate/revalidate/DocumentDecoder$Place", "column", "I", (.int ((v1 - r1) + (1 : Int32)))), ("com/example/revalidate/revalidate/DocumentDecoder$Place", "xml11", "Z", (.int (1 : Int32))), ("com/example/revalidate/revalidate/DocumentDecoder$Place", "afterReturn", "Z", (.int (passA [k0, k1] (0 : Int32) v1 (0 : Int32))))]), (a5, OB Z a0 "com/example/revalidate/revalidate/DocumentDecoder$Place" [("com/example/revalidate/revalidate/DocumentDecoder$Place", "line", "I", (.int r2)), ("com/example/revalidate/revalidate/DocumentDecoder$Place", "column", "I", (.int ((v2 - r3) + (1 : Int32)))), ("com/example/revalidate/revalidate/DocumentDecoder$Place", "xml11", "Z", (.int (0 : Int32))), ("com/example/revalidate/revalidate/DocumentDecoder$Place", "afterReturn", "Z", (.int (passA [k2, k3] (0 : Int32) v2 (0 : Int32))))])] 4 a5 r2 ((v2 - r3) + (1 : Int32)) (0 : Int32) (passA [k2, k3] (0 : Int32) v2 (0 : Int32)) rfl) (List.mem_of_getElem? (i := 36) rfl) (List.mem_of_getElem? (i := 37) rfl) (List.mem_of_getElem? (i := 39) rfl) (List.mem_of_getElem? (i := 38) rfl) (List.mem_of_getElem? (i := 11) rfl) (List.mem_of_getElem? (i := 40) rfl) (by decide) at_114 rfl rfl (lenOf (ps := []) (r := some .int) (by decide) rfl) rfl (Nat.le_of_eq rfl) (by decide) (by decide) (by decide) (by decide) ?_
      rintro _ _ ⟨rfl, rfl⟩
      show Go _ _ _ _ _ _ _ _ _ _ _ _ [(b1, IA Z .char (ints [k0, k1])), (b2, IA Z .char (ints [k2, k3])), (b3, IA Z .char (ints [k4, k5])), (a4, OB Z a0 "com/example/revalidate/revalidate/DocumentDecoder$Place" [("com/example/revalidate/revalidate/DocumentDecoder$Place", "line", "I", (.int r0)), ("com/example/revalidate/revalidate/DocumentDecoder$Place", "column", "I", (.int ((v1 - r1) + (1 : Int32)))), ("com/example/revalidate/revalidate/DocumentDecoder$Place", "xml11", "Z", (.int (1 : Int32))), ("com/example/revalidate/revalidate/DocumentDecoder$Place", "afterReturn", "Z", (.int (passA [k0, k1] (0 : Int32) v1 (0 : Int32))))]), (a5, OB Z a0 "com/example/revalidate/revalidate/DocumentDecoder$Place" [("com/example/revalidate/revalidate/DocumentDecoder$Place", "line", "I", (.int r2)), ("com/example/revalidate/revalidate/DocumentDecoder$Place", "column", "I", (.int ((v2 - r3) + (1 : Int32)))), ("com/example/revalidate/revalidate/DocumentDecoder$Place", "xml11", "Z", (.int (0 : Int32))), ("com/example/revalidate/revalidate/DocumentDecoder$Place", "afterReturn", "Z", (.int (passA [k2, k3] (0 : Int32) v2 (0 : Int32))))])] 5 14 117 #[.val (.long x0), .second, .val (.long x1), .second, .val (.long x2), .second, .val (.int x3), .val (.ref b1), .val (.ref b2), .val (.ref b3), .val (.int v1), .val (.int v2), .val (.int v3), .val (.ref a4), .val (.ref a5), .unset, .unset, .unset, .unset, .unset, .unset, .unset, .unset] [(.int r2)]
      refine g_istore C 119 #[.val (.long x0), .second, .val (.long x1), .second, .val (.long x2), .second, .val (.int x3), .val (.ref b1), .val (.ref b2), .val (.ref b3), .val (.int v1), .val (.int v2), .val (.int v3), .val (.ref a4), .val (.ref a5), .val (.int r2), .unset, .unset, .unset, .unset, .unset, .unset, .unset] at_117 rfl rfl ?_
      refine g_aload C 121 at_119 rfl rfl rfl ?_
      refine g_virtual C 124 0 (i := 4) (argsL := []) (St := []) rfl (con_column l Z a0 C.2.2.1 h0 [(b1, IA Z .char (ints [k0, k1])), (b2, IA Z .char (ints [k2, k3])), (b3, IA Z .char (ints [k4, k5])), (a4, OB Z a0 "com/example/revalidate/revalidate/DocumentDecoder$Place" [("com/example/revalidate/revalidate/DocumentDecoder$Place", "line", "I", (.int r0)), ("com/example/revalidate/revalidate/DocumentDecoder$Place", "column", "I", (.int ((v1 - r1) + (1 : Int32)))), ("com/example/revalidate/revalidate/DocumentDecoder$Place", "xml11", "Z", (.int (1 : Int32))), ("com/example/revalidate/revalidate/DocumentDecoder$Place", "afterReturn", "Z", (.int (passA [k0, k1] (0 : Int32) v1 (0 : Int32))))]), (a5, OB Z a0 "com/example/revalidate/revalidate/DocumentDecoder$Place" [("com/example/revalidate/revalidate/DocumentDecoder$Place", "line", "I", (.int r2)), ("com/example/revalidate/revalidate/DocumentDecoder$Place", "column", "I", (.int ((v2 - r3) + (1 : Int32)))), ("com/example/revalidate/revalidate/DocumentDecoder$Place", "xml11", "Z", (.int (0 : Int32))), ("com/example/revalidate/revalidate/DocumentDecoder$Place", "afterReturn", "Z", (.int (passA [k2, k3] (0 : Int32) v2 (0 : Int32))))])] 4 a5 r2 ((v2 - r3) + (1 : Int32)) (0 : Int32) (passA [k2, k3] (0 : Int32) v2 (0 : Int32)) rfl) (List.mem_of_getElem? (i := 41) rfl) (List.mem_of_getElem? (i := 42) rfl) (List.mem_of_getElem? (i := 44) rfl) (List.mem_of_getElem? (i := 43) rfl) (List.mem_of_getElem? (i := 11) rfl) (List.mem_of_getElem? (i := 45) rfl) (by decide) at_121 rfl rfl (lenOf (ps := []) (r := some .int) (by decide) rfl) rfl (Nat.le_of_eq rfl) (by decide) (by decide) (by decide) (by decide) ?_
      rintro _ _ ⟨rfl, rfl⟩
      show Go _ _ _ _ _ _ _ _ _ _ _ _ [(b1, IA Z .char (ints [k0, k1])), (b2, IA Z .char (ints [k2, k3])), (b3, IA Z .char (ints [k4, k5])), (a4, OB Z a0 "com/example/revalidate/revalidate/DocumentDecoder$Place" [("com/example/revalidate/revalidate/DocumentDecoder$Place", "line", "I", (.int r0)), ("com/example/revalidate/revalidate/DocumentDecoder$Place", "column", "I", (.int ((v1 - r1) + (1 : Int32)))), ("com/example/revalidate/revalidate/DocumentDecoder$Place", "xml11", "Z", (.int (1 : Int32))), ("com/example/revalidate/revalidate/DocumentDecoder$Place", "afterReturn", "Z", (.int (passA [k0, k1] (0 : Int32) v1 (0 : Int32))))]), (a5, OB Z a0 "com/example/revalidate/revalidate/DocumentDecoder$Place" [("com/example/revalidate/revalidate/DocumentDecoder$Place", "line", "I", (.int r2)), ("com/example/revalidate/revalidate/DocumentDecoder$Place", "column", "I", (.int ((v2 - r3) + (1 : Int32)))), ("com/example/revalidate/revalidate/DocumentDecoder$Place", "xml11", "Z", (.int (0 : Int32))), ("com/example/revalidate/revalidate/DocumentDecoder$Place", "afterReturn", "Z", (.int (passA [k2, k3] (0 : Int32) v2 (0 : Int32))))])] 5 14 124 #[.val (.long x0), .second, .val (.long x1), .second, .val (.long x2), .second, .val (.int x3), .val (.ref b1), .val (.ref b2), .val (.ref b3), .val (.int v1), .val (.int v2), .val (.int v3), .val (.ref a4), .val (.ref a5), .val (.int r2), .unset, .unset, .unset, .unset, .unset, .unset, .unset] [(.int ((v2 - r3) + (1 : Int32)))]
      refine g_istore C 126 #[.val (.long x0), .second, .val (.long x1), .second, .val (.long x2), .second, .val (.int x3), .val (.ref b1), .val (.ref b2), .val (.ref b3), .val (.int v1), .val (.int v2), .val (.int v3), .val (.ref a4), .val (.ref a5), .val (.int r2), .val (.int ((v2 - r3) + (1 : Int32))), .unset, .unset, .unset, .unset, .unset, .unset] at_124 rfl rfl ?_
      generalize hv15 : ((v2 - r3) + (1 : Int32)) = v15
      refine g_aload C 128 at_126 rfl rfl rfl ?_
      refine g_aload C 130 at_128 rfl rfl rfl ?_
      refine g_virtual C 133 0 (i := 3) (argsL := [(.ref a5)]) (St := []) rfl (con_move l Z a0 C.2.2.1 h0 [(b1, IA Z .char (ints [k0, k1])), (b2, IA Z .char (ints [k2, k3])), (b3, IA Z .char (ints [k4, k5])), (a4, OB Z a0 "com/example/revalidate/revalidate/DocumentDecoder$Place" [("com/example/revalidate/revalidate/DocumentDecoder$Place", "line", "I", (.int r0)), ("com/example/revalidate/revalidate/DocumentDecoder$Place", "column", "I", (.int ((v1 - r1) + (1 : Int32)))), ("com/example/revalidate/revalidate/DocumentDecoder$Place", "xml11", "Z", (.int (1 : Int32))), ("com/example/revalidate/revalidate/DocumentDecoder$Place", "afterReturn", "Z", (.int (passA [k0, k1] (0 : Int32) v1 (0 : Int32))))]), (a5, OB Z a0 "com/example/revalidate/revalidate/DocumentDecoder$Place" [("com/example/revalidate/revalidate/DocumentDecoder$Place", "line", "I", (.int r2)), ("com/example/revalidate/revalidate/DocumentDecoder$Place", "column", "I", (.int v15)), ("com/example/revalidate/revalidate/DocumentDecoder$Place", "xml11", "Z", (.int (0 : Int32))), ("com/example/revalidate/revalidate/DocumentDecoder$Place", "afterReturn", "Z", (.int (passA [k2, k3] (0 : Int32) v2 (0 : Int32))))])] 3 4 a4 a5 r0 ((v1 - r1) + (1 : Int32)) (1 : Int32) (passA [k0, k1] (0 : Int32) v1 (0 : Int32)) r2 v15 (0 : Int32) (passA [k2, k3] (0 : Int32) v2 (0 : Int32)) (by decide) rfl rfl) (List.mem_of_getElem? (i := 46) rfl) (List.mem_of_getElem? (i := 47) rfl) (List.mem_of_getElem? (i := 49) rfl) (List.mem_of_getElem? (i := 48) rfl) (List.mem_of_getElem? (i := 11) rfl) (List.mem_of_getElem? (i := 50) rfl) (by decide) at_130 rfl rfl (lenOf (ps := [(.object "com/example/revalidate/revalidate/DocumentDecoder$Place")]) (r := none) (by decide) rfl) rfl (Nat.le_of_eq rfl) (by decide) (by decide) (by decide) (by decide) ?_
      rintro _ _ ⟨rfl, rfl⟩
      show Go _ _ _ _ _ _ _ _ _ _ _ _ [(b1, IA Z .char (ints [k0, k1])), (b2, IA Z .char (ints [k2, k3])), (b3, IA Z .char (ints [k4, k5])), (a4, OB Z a0 "com/example/revalidate/revalidate/DocumentDecoder$Place" [("com/example/revalidate/revalidate/DocumentDecoder$Place", "line", "I", (.int r2)), ("com/example/revalidate/revalidate/DocumentDecoder$Place", "column", "I", (.int v15)), ("com/example/revalidate/revalidate/DocumentDecoder$Place", "xml11", "Z", (.int (nar .boolean (0 : Int32)))), ("com/example/revalidate/revalidate/DocumentDecoder$Place", "afterReturn", "Z", (.int (nar .boolean (passA [k2, k3] (0 : Int32) v2 (0 : Int32)))))]), (a5, OB Z a0 "com/example/revalidate/revalidate/DocumentDecoder$Place" [("com/example/revalidate/revalidate/DocumentDecoder$Place", "line", "I", (.int r2)), ("com/example/revalidate/revalidate/DocumentDecoder$Place", "column", "I", (.int v15)), ("com/example/revalidate/revalidate/DocumentDecoder$Place", "xml11", "Z", (.int (0 : Int32))), ("com/example/revalidate/revalidate/DocumentDecoder$Place", "afterReturn", "Z", (.int (passA [k2, k3] (0 : Int32) v2 (0 : Int32))))])] 5 14 133 #[.val (.long x0), .second, .val (.long x1), .second, .val (.long x2), .second, .val (.int x3), .val (.ref b1), .val (.ref b2), .val (.ref b3), .val (.int v1), .val (.int v2), .val (.int v3), .val (.ref a4), .val (.ref a5), .val (.int r2), .val (.int v15), .unset, .unset, .unset, .unset, .unset, .unset] []
      rw [own_narA, show nar .boolean (0 : Int32) = (0 : Int32) from by decide]
      show Go _ _ _ _ _ _ _ _ _ _ _ _ [(b1, IA Z .char (ints [k0, k1])), (b2, IA Z .char (ints [k2, k3])), (b3, IA Z .char (ints [k4, k5])), (a4, OB Z a0 "com/example/revalidate/revalidate/DocumentDecoder$Place" [("com/example/revalidate/revalidate/DocumentDecoder$Place", "line", "I", (.int r2)), ("com/example/revalidate/revalidate/DocumentDecoder$Place", "column", "I", (.int v15)), ("com/example/revalidate/revalidate/DocumentDecoder$Place", "xml11", "Z", (.int (0 : Int32))), ("com/example/revalidate/revalidate/DocumentDecoder$Place", "afterReturn", "Z", (.int (passA [k2, k3] (0 : Int32) v2 (0 : Int32))))]), (a5, OB Z a0 "com/example/revalidate/revalidate/DocumentDecoder$Place" [("com/example/revalidate/revalidate/DocumentDecoder$Place", "line", "I", (.int r2)), ("com/example/revalidate/revalidate/DocumentDecoder$Place", "column", "I", (.int v15)), ("com/example/revalidate/revalidate/DocumentDecoder$Place", "xml11", "Z", (.int (0 : Int32))), ("com/example/revalidate/revalidate/DocumentDecoder$Place", "afterReturn", "Z", (.int (passA [k2, k3] (0 : Int32) v2 (0 : Int32))))])] 5 14 133 #[.val (.long x0), .second, .val (.long x1), .second, .val (.long x2), .second, .val (.int x3), .val (.ref b1), .val (.ref b2), .val (.ref b3), .val (.int v1), .val (.int v2), .val (.int v3), .val (.ref a4), .val (.ref a5), .val (.int r2), .val (.int v15), .unset, .unset, .unset, .unset, .unset, .unset] []
      refine g_aload C 135 at_133 rfl rfl rfl ?_
      refine g_aload C 137 at_135 rfl rfl rfl ?_
      refine g_iconst C 138 (0 : Int32) at_137 rfl rfl ?_
      refine g_iload C 140 at_138 rfl rfl ?_
      obtain ⟨r4, r5, hP2⟩ := own_ex3 [k4, k5] (0 : Int32) (passA [k2, k3] (0 : Int32) v2 (0 : Int32)) v3 r2 (((0 : Int32) - v15) + (1 : Int32)) rfl rgv3
      have hl2 : (0 : Int32) < v3 → inb [k4, k5] (v3 - (1 : Int32)) = true := own_hl3 rfl rgv3
      refine g_virtual C 143 0 (i := 3) (argsL := [(.ref b3), (.int (0 : Int32)), (.int v3)]) (St := []) rfl (con_pass l Z a0 C.2.2.1 h0 [(b1, IA Z .char (ints [k0, k1])), (b2, IA Z .char (ints [k2, k3])), (b3, IA Z .char (ints [k4, k5])), (a4, OB Z a0 "com/example/revalidate/revalidate/DocumentDecoder$Place" [("com/example/revalidate/revalidate/DocumentDecoder$Place", "line", "I", (.int r2)), ("com/example/revalidate/revalidate/DocumentDecoder$Place", "column", "I", (.int v15)), ("com/example/revalidate/revalidate/DocumentDecoder$Place", "xml11", "Z", (.int (0 : Int32))), ("com/example/revalidate/revalidate/DocumentDecoder$Place", "afterReturn", "Z", (.int (passA [k2, k3] (0 : Int32) v2 (0 : Int32))))]), (a5, OB Z a0 "com/example/revalidate/revalidate/DocumentDecoder$Place" [("com/example/revalidate/revalidate/DocumentDecoder$Place", "line", "I", (.int r2)), ("com/example/revalidate/revalidate/DocumentDecoder$Place", "column", "I", (.int v15)), ("com/example/revalidate/revalidate/DocumentDecoder$Place", "xml11", "Z", (.int (0 : Int32))), ("com/example/revalidate/revalidate/DocumentDecoder$Place", "afterReturn", "Z", (.int (passA [k2, k3] (0 : Int32) v2 (0 : Int32))))])] 2 3 b3 a4 [k4, k5] (0 : Int32) v3 r2 v15 (0 : Int32) (passA [k2, k3] (0 : Int32) v2 (0 : Int32)) r4 r5 6 (by decide) rfl rfl hP2 hl2) (List.mem_of_getElem? (i := 29) rfl) (List.mem_of_getElem? (i := 30) rfl) (List.mem_of_getElem? (i := 32) rfl) (List.mem_of_getElem? (i := 31) rfl) (List.mem_of_getElem? (i := 11) rfl) (List.mem_of_getElem? (i := 33) rfl) (by decide) at_140 rfl rfl (lenOf (ps := [(.array .char), .int, .int]) (r := none) (by decide) rfl) rfl (Nat.le_of_eq rfl) (by decide) (by decide) (by decide) (by decide) ?_
      rintro _ _ ⟨rfl, rfl⟩
      show Go _ _ _ _ _ _ _ _ _ _ _ _ [(b1, IA Z .char (ints [k0, k1])), (b2, IA Z .char (ints [k2, k3])), (b3, IA Z .char (ints [k4, k5])), (a4, OB Z a0 "com/example/revalidate/revalidate/DocumentDecoder$Place" [("com/example/revalidate/revalidate/DocumentDecoder$Place", "line", "I", (.int r4)), ("com/example/revalidate/revalidate/DocumentDecoder$Place", "column", "I", (.int ((v3 - r5) + (1 : Int32)))), ("com/example/revalidate/revalidate/DocumentDecoder$Place", "xml11", "Z", (.int (0 : Int32))), ("com/example/revalidate/revalidate/DocumentDecoder$Place", "afterReturn", "Z", (.int (passA [k4, k5] (0 : Int32) v3 (passA [k2, k3] (0 : Int32) v2 (0 : Int32)))))]), (a5, OB Z a0 "com/example/revalidate/revalidate/DocumentDecoder$Place" [("com/example/revalidate/revalidate/DocumentDecoder$Place", "line", "I", (.int r2)), ("com/example/revalidate/revalidate/DocumentDecoder$Place", "column", "I", (.int v15)), ("com/example/revalidate/revalidate/DocumentDecoder$Place", "xml11", "Z", (.int (0 : Int32))), ("com/example/revalidate/revalidate/DocumentDecoder$Place", "afterReturn", "Z", (.int (passA [k2, k3] (0 : Int32) v2 (0 : Int32))))])] 5 14 143 #[.val (.long x0), .second, .val (.long x1), .second, .val (.long x2), .second, .val (.int x3), .val (.ref b1), .val (.ref b2), .val (.ref b3), .val (.int v1), .val (.int v2), .val (.int v3), .val (.ref a4), .val (.ref a5), .val (.int r2), .val (.int v15), .unset, .unset, .unset, .unset, .unset, .unset] []
      refine g_aload C 145 at_143 rfl rfl rfl ?_
      refine g_aload C 147 at_145 rfl rfl rfl ?_
      refine g_iconst C 148 (0 : Int32) at_147 rfl rfl ?_
      refine g_iload C 150 at_148 rfl rfl ?_
      refine g_virtual C 153 0 (i := 4) (argsL := [(.ref b3), (.int (0 : Int32)), (.int v3)]) (St := []) rfl (con_pass l Z a0 C.2.2.1 h0 [(b1, IA Z .char (ints [k0, k1])), (b2, IA Z .char (ints [k2, k3])), (b3, IA Z .char (ints [k4, k5])), (a4, OB Z a0 "com/example/revalidate/revalidate/DocumentDecoder$Place" [("com/example/revalidate/revalidate/DocumentDecoder$Place", "line", "I", (.int r4)), ("com/example/revalidate/revalidate/DocumentDecoder$Place", "column", "I", (.int ((v3 - r5) + (1 : Int32)))), ("com/example/revalidate/revalidate/DocumentDecoder$Place", "xml11", "Z", (.int (0 : Int32))), ("com/example/revalidate/revalidate/DocumentDecoder$Place", "afterReturn", "Z", (.int (passA [k4, k5] (0 : Int32) v3 (passA [k2, k3] (0 : Int32) v2 (0 : Int32)))))]), (a5, OB Z a0 "com/example/revalidate/revalidate/DocumentDecoder$Place" [("com/example/revalidate/revalidate/DocumentDecoder$Place", "line", "I", (.int r2)), ("com/example/revalidate/revalidate/DocumentDecoder$Place", "column", "I", (.int v15)), ("com/example/revalidate/revalidate/DocumentDecoder$Place", "xml11", "Z", (.int (0 : Int32))), ("com/example/revalidate/revalidate/DocumentDecoder$Place", "afterReturn", "Z", (.int (passA [k2, k3] (0 : Int32) v2 (0 : Int32))))])] 2 4 b3 a5 [k4, k5] (0 : Int32) v3 r2 v15 (0 : Int32) (passA [k2, k3] (0 : Int32) v2 (0 : Int32)) r4 r5 6 (by decide) rfl rfl hP2 hl2) (List.mem_of_getElem? (i := 29) rfl) (List.mem_of_getElem? (i := 30) rfl) (List.mem_of_getElem? (i := 32) rfl) (List.mem_of_getElem? (i := 31) rfl) (List.mem_of_getElem? (i := 11) rfl) (List.mem_of_getElem? (i := 33) rfl) (by decide) at_150 rfl rfl (lenOf (ps := [(.array .char), .int, .int]) (r := none) (by decide) rfl) rfl (Nat.le_of_eq rfl) (by decide) (by decide) (by decide) (by decide) ?_
      rintro _ _ ⟨rfl, rfl⟩
      show Go _ _ _ _ _ _ _ _ _ _ _ _ [(b1, IA Z .char (ints [k0, k1])), (b2, IA Z .char (ints [k2, k3])), (b3, IA Z .char (ints [k4, k5])), (a4, OB Z a0 "com/example/revalidate/revalidate/DocumentDecoder$Place" [("com/example/revalidate/revalidate/DocumentDecoder$Place", "line", "I", (.int r4)), ("com/example/revalidate/revalidate/DocumentDecoder$Place", "column", "I", (.int ((v3 - r5) + (1 : Int32)))), ("com/example/revalidate/revalidate/DocumentDecoder$Place", "xml11", "Z", (.int (0 : Int32))), ("com/example/revalidate/revalidate/DocumentDecoder$Place", "afterReturn", "Z", (.int (passA [k4, k5] (0 : Int32) v3 (passA [k2, k3] (0 : Int32) v2 (0 : Int32)))))]), (a5, OB Z a0 "com/example/revalidate/revalidate/DocumentDecoder$Place" [("com/example/revalidate/revalidate/DocumentDecoder$Place", "line", "I", (.int r4)), ("com/example/revalidate/revalidate/DocumentDecoder$Place", "column", "I", (.int ((v3 - r5) + (1 : Int32)))), ("com/example/revalidate/revalidate/DocumentDecoder$Place", "xml11", "Z", (.int (0 : Int32))), ("com/example/revalidate/revalidate/DocumentDecoder$Place", "afterReturn", "Z", (.int (passA [k4, k5] (0 : Int32) v3 (passA [k2, k3] (0 : Int32) v2 (0 : Int32)))))])] 5 14 153 #[.val (.long x0), .second, .val (.long x1), .second, .val (.long x2), .second, .val (.int x3), .val (.ref b1), .val (.ref b2), .val (.ref b3), .val (.int v1), .val (.int v2), .val (.int v3), .val (.ref a4), .val (.ref a5), .val (.int r2), .val (.int v15), .unset, .unset, .unset, .unset, .unset, .unset] []
      refine g_aload C 155 at_153 rfl rfl rfl ?_
      refine g_virtual C 158 0 (i := 3) (argsL := []) (St := []) rfl (con_line l Z a0 C.2.2.1 h0 [(b1, IA Z .char (ints [k0, k1])), (b2, IA Z .char (ints [k2, k3])), (b3, IA Z .char (ints [k4, k5])), (a4, OB Z a0 "com/example/revalidate/revalidate/DocumentDecoder$Place" [("com/example/revalidate/revalidate/DocumentDecoder$Place", "line", "I", (.int r4)), ("com/example/revalidate/revalidate/DocumentDecoder$Place", "column", "I", (.int ((v3 - r5) + (1 : Int32)))), ("com/example/revalidate/revalidate/DocumentDecoder$Place", "xml11", "Z", (.int (0 : Int32))), ("com/example/revalidate/revalidate/DocumentDecoder$Place", "afterReturn", "Z", (.int (passA [k4, k5] (0 : Int32) v3 (passA [k2, k3] (0 : Int32) v2 (0 : Int32)))))]), (a5, OB Z a0 "com/example/revalidate/revalidate/DocumentDecoder$Place" [("com/example/revalidate/revalidate/DocumentDecoder$Place", "line", "I", (.int r4)), ("com/example/revalidate/revalidate/DocumentDecoder$Place", "column", "I", (.int ((v3 - r5) + (1 : Int32)))), ("com/example/revalidate/revalidate/DocumentDecoder$Place", "xml11", "Z", (.int (0 : Int32))), ("com/example/revalidate/revalidate/DocumentDecoder$Place", "afterReturn", "Z", (.int (passA [k4, k5] (0 : Int32) v3 (passA [k2, k3] (0 : Int32) v2 (0 : Int32)))))])] 3 a4 r4 ((v3 - r5) + (1 : Int32)) (0 : Int32) (passA [k4, k5] (0 : Int32) v3 (passA [k2, k3] (0 : Int32) v2 (0 : Int32))) rfl) (List.mem_of_getElem? (i := 36) rfl) (List.mem_of_getElem? (i := 37) rfl) (List.mem_of_getElem? (i := 39) rfl) (List.mem_of_getElem? (i := 38) rfl) (List.mem_of_getElem? (i := 11) rfl) (List.mem_of_getElem? (i := 40) rfl) (by decide) at_155 rfl rfl (lenOf (ps := []) (r := some .int) (by decide) rfl) rfl (Nat.le_of_eq rfl) (by decide) (by decide) (by decide) (by decide) ?_
      rintro _ _ ⟨rfl, rfl⟩
      show Go _ _ _ _ _ _ _ _ _ _ _ _ [(b1, IA Z .char (ints [k0, k1])), (b2, IA Z .char (ints [k2, k3])), (b3, IA Z .char (ints [k4, k5])), (a4, OB Z a0 "com/example/revalidate/revalidate/DocumentDecoder$Place" [("com/example/revalidate/revalidate/DocumentDecoder$Place", "line", "I", (.int r4)), ("com/example/revalidate/revalidate/DocumentDecoder$Place", "column", "I", (.int ((v3 - r5) + (1 : Int32)))), ("com/example/revalidate/revalidate/DocumentDecoder$Place", "xml11", "Z", (.int (0 : Int32))), ("com/example/revalidate/revalidate/DocumentDecoder$Place", "afterReturn", "Z", (.int (passA [k4, k5] (0 : Int32) v3 (passA [k2, k3] (0 : Int32) v2 (0 : Int32)))))]), (a5, OB Z a0 "com/example/revalidate/revalidate/DocumentDecoder$Place" [("com/example/revalidate/revalidate/DocumentDecoder$Place", "line", "I", (.int r4)), ("com/example/revalidate/revalidate/DocumentDecoder$Place", "column", "I", (.int ((v3 - r5) + (1 : Int32)))), ("com/example/revalidate/revalidate/DocumentDecoder$Place", "xml11", "Z", (.int (0 : Int32))), ("com/example/revalidate/revalidate/DocumentDecoder$Place", "afterReturn", "Z", (.int (passA [k4, k5] (0 : Int32) v3 (passA [k2, k3] (0 : Int32) v2 (0 : Int32)))))])] 5 14 158 #[.val (.long x0), .second, .val (.long x1), .second, .val (.long x2), .second, .val (.int x3), .val (.ref b1), .val (.ref b2), .val (.ref b3), .val (.int v1), .val (.int v2), .val (.int v3), .val (.ref a4), .val (.ref a5), .val (.int r2), .val (.int v15), .unset, .unset, .unset, .unset, .unset, .unset] [(.int r4)]
      refine g_istore C 160 #[.val (.long x0), .second, .val (.long x1), .second, .val (.long x2), .second, .val (.int x3), .val (.ref b1), .val (.ref b2), .val (.ref b3), .val (.int v1), .val (.int v2), .val (.int v3), .val (.ref a4), .val (.ref a5), .val (.int r2), .val (.int v15), .val (.int r4), .unset, .unset, .unset, .unset, .unset] at_158 rfl rfl ?_
      refine g_aload C 162 at_160 rfl rfl rfl ?_
      refine g_virtual C 165 0 (i := 3) (argsL := []) (St := []) rfl (con_column l Z a0 C.2.2.1 h0 [(b1, IA Z .char (ints [k0, k1])), (b2, IA Z .char (ints [k2, k3])), (b3, IA Z .char (ints [k4, k5])), (a4, OB Z a0 "com/example/revalidate/revalidate/DocumentDecoder$Place" [("com/example/revalidate/revalidate/DocumentDecoder$Place", "line", "I", (.int r4)), ("com/example/revalidate/revalidate/DocumentDecoder$Place", "column", "I", (.int ((v3 - r5) + (1 : Int32)))), ("com/example/revalidate/revalidate/DocumentDecoder$Place", "xml11", "Z", (.int (0 : Int32))), ("com/example/revalidate/revalidate/DocumentDecoder$Place", "afterReturn", "Z", (.int (passA [k4, k5] (0 : Int32) v3 (passA [k2, k3] (0 : Int32) v2 (0 : Int32)))))]), (a5, OB Z a0 "com/example/revalidate/revalidate/DocumentDecoder$Place" [("com/example/revalidate/revalidate/DocumentDecoder$Place", "line", "I", (.int r4)), ("com/example/revalidate/revalidate/DocumentDecoder$Place", "column", "I", (.int ((v3 - r5) + (1 : Int32)))), ("com/example/revalidate/revalidate/DocumentDecoder$Place", "xml11", "Z", (.int (0 : Int32))), ("com/example/revalidate/revalidate/DocumentDecoder$Place", "afterReturn", "Z", (.int (passA [k4, k5] (0 : Int32) v3 (passA [k2, k3] (0 : Int32) v2 (0 : Int32)))))])] 3 a4 r4 ((v3 - r5) + (1 : Int32)) (0 : Int32) (passA [k4, k5] (0 : Int32) v3 (passA [k2, k3] (0 : Int32) v2 (0 : Int32))) rfl) (List.mem_of_getElem? (i := 41) rfl) (List.mem_of_getElem? (i := 42) rfl) (List.mem_of_getElem? (i := 44) rfl) (List.mem_of_getElem? (i := 43) rfl) (List.mem_of_getElem? (i := 11) rfl) (List.mem_of_getElem? (i := 45) rfl) (by decide) at_162 rfl rfl (lenOf (ps := []) (r := some .int) (by decide) rfl) rfl (Nat.le_of_eq rfl) (by decide) (by decide) (by decide) (by decide) ?_
      rintro _ _ ⟨rfl, rfl⟩
      show Go _ _ _ _ _ _ _ _ _ _ _ _ [(b1, IA Z .char (ints [k0, k1])), (b2, IA Z .char (ints [k2, k3])), (b3, IA Z .char (ints [k4, k5])), (a4, OB Z a0 "com/example/revalidate/revalidate/DocumentDecoder$Place" [("com/example/revalidate/revalidate/DocumentDecoder$Place", "line", "I", (.int r4)), ("com/example/revalidate/revalidate/DocumentDecoder$Place", "column", "I", (.int ((v3 - r5) + (1 : Int32)))), ("com/example/revalidate/revalidate/DocumentDecoder$Place", "xml11", "Z", (.int (0 : Int32))), ("com/example/revalidate/revalidate/DocumentDecoder$Place", "afterReturn", "Z", (.int (passA [k4, k5] (0 : Int32) v3 (passA [k2, k3] (0 : Int32) v2 (0 : Int32)))))]), (a5, OB Z a0 "com/example/revalidate/revalidate/DocumentDecoder$Place" [("com/example/revalidate/revalidate/DocumentDecoder$Place", "line", "I", (.int r4)), ("com/example/revalidate/revalidate/DocumentDecoder$Place", "column", "I", (.int ((v3 - r5) + (1 : Int32)))), ("com/example/revalidate/revalidate/DocumentDecoder$Place", "xml11", "Z", (.int (0 : Int32))), ("com/example/revalidate/revalidate/DocumentDecoder$Place", "afterReturn", "Z", (.int (passA [k4, k5] (0 : Int32) v3 (passA [k2, k3] (0 : Int32) v2 (0 : Int32)))))])] 5 14 165 #[.val (.long x0), .second, .val (.long x1), .second, .val (.long x2), .second, .val (.int x3), .val (.ref b1), .val (.ref b2), .val (.ref b3), .val (.int v1), .val (.int v2), .val (.int v3), .val (.ref a4), .val (.ref a5), .val (.int r2), .val (.int v15), .val (.int r4), .unset, .unset, .unset, .unset, .unset] [(.int ((v3 - r5) + (1 : Int32)))]
      refine g_istore C 167 #[.val (.long x0), .second, .val (.long x1), .second, .val (.long x2), .second, .val (.int x3), .val (.ref b1), .val (.ref b2), .val (.ref b3), .val (.int v1), .val (.int v2), .val (.int v3), .val (.ref a4), .val (.ref a5), .val (.int r2), .val (.int v15), .val (.int r4), .val (.int ((v3 - r5) + (1 : Int32))), .unset, .unset, .unset, .unset] at_165 rfl rfl ?_
      generalize hv16 : ((v3 - r5) + (1 : Int32)) = v16
      refine g_aload C 169 at_167 rfl rfl rfl ?_
      refine g_virtual C 172 0 (i := 4) (argsL := []) (St := []) rfl (con_line l Z a0 C.2.2.1 h0 [(b1, IA Z .char (ints [k0, k1])), (b2, IA Z .char (ints [k2, k3])), (b3, IA Z .char (ints [k4, k5])), (a4, OB Z a0 "com/example/revalidate/revalidate/DocumentDecoder$Place" [("com/example/revalidate/revalidate/DocumentDecoder$Place", "line", "I", (.int r4)), ("com/example/revalidate/revalidate/DocumentDecoder$Place", "column", "I", (.int v16)), ("com/example/revalidate/revalidate/DocumentDecoder$Place", "xml11", "Z", (.int (0 : Int32))), ("com/example/revalidate/revalidate/DocumentDecoder$Place", "afterReturn", "Z", (.int (passA [k4, k5] (0 : Int32) v3 (passA [k2, k3] (0 : Int32) v2 (0 : Int32)))))]), (a5, OB Z a0 "com/example/revalidate/revalidate/DocumentDecoder$Place" [("com/example/revalidate/revalidate/DocumentDecoder$Place", "line", "I", (.int r4)), ("com/example/revalidate/revalidate/DocumentDecoder$Place", "column", "I", (.int v16)), ("com/example/revalidate/revalidate/DocumentDecoder$Place", "xml11", "Z", (.int (0 : Int32))), ("com/example/revalidate/revalidate/DocumentDecoder$Place", "afterReturn", "Z", (.int (passA [k4, k5] (0 : Int32) v3 (passA [k2, k3] (0 : Int32) v2 (0 : Int32)))))])] 4 a5 r4 v16 (0 : Int32) (passA [k4, k5] (0 : Int32) v3 (passA [k2, k3] (0 : Int32) v2 (0 : Int32))) rfl) (List.mem_of_getElem? (i := 36) rfl) (List.mem_of_getElem? (i := 37) rfl) (List.mem_of_getElem? (i := 39) rfl) (List.mem_of_getElem? (i := 38) rfl) (List.mem_of_getElem? (i := 11) rfl) (List.mem_of_getElem? (i := 40) rfl) (by decide) at_169 rfl rfl (lenOf (ps := []) (r := some .int) (by decide) rfl) rfl (Nat.le_of_eq rfl) (by decide) (by decide) (by decide) (by decide) ?_
      rintro _ _ ⟨rfl, rfl⟩
      show Go _ _ _ _ _ _ _ _ _ _ _ _ [(b1, IA Z .char (ints [k0, k1])), (b2, IA Z .char (ints [k2, k3])), (b3, IA Z .char (ints [k4, k5])), (a4, OB Z a0 "com/example/revalidate/revalidate/DocumentDecoder$Place" [("com/example/revalidate/revalidate/DocumentDecoder$Place", "line", "I", (.int r4)), ("com/example/revalidate/revalidate/DocumentDecoder$Place", "column", "I", (.int v16)), ("com/example/revalidate/revalidate/DocumentDecoder$Place", "xml11", "Z", (.int (0 : Int32))), ("com/example/revalidate/revalidate/DocumentDecoder$Place", "afterReturn", "Z", (.int (passA [k4, k5] (0 : Int32) v3 (passA [k2, k3] (0 : Int32) v2 (0 : Int32)))))]), (a5, OB Z a0 "com/example/revalidate/revalidate/DocumentDecoder$Place" [("com/example/revalidate/revalidate/DocumentDecoder$Place", "line", "I", (.int r4)), ("com/example/revalidate/revalidate/DocumentDecoder$Place", "column", "I", (.int v16)), ("com/example/revalidate/revalidate/DocumentDecoder$Place", "xml11", "Z", (.int (0 : Int32))), ("com/example/revalidate/revalidate/DocumentDecoder$Place", "afterReturn", "Z", (.int (passA [k4, k5] (0 : Int32) v3 (passA [k2, k3] (0 : Int32) v2 (0 : Int32)))))])] 5 14 172 #[.val (.long x0), .second, .val (.long x1), .second, .val (.long x2), .second, .val (.int x3), .val (.ref b1), .val (.ref b2), .val (.ref b3), .val (.int v1), .val (.int v2), .val (.int v3), .val (.ref a4), .val (.ref a5), .val (.int r2), .val (.int v15), .val (.int r4), .val (.int v16), .unset, .unset, .unset, .unset] [(.int r4)]
      refine g_istore C 174 #[.val (.long x0), .second, .val (.long x1), .second, .val (.long x2), .second, .val (.int x3), .val (.ref b1), .val (.ref b2), .val (.ref b3), .val (.int v1), .val (.int v2), .val (.int v3), .val (.ref a4), .val (.ref a5), .val (.int r2), .val (.int v15), .val (.int r4), .val (.int v16), .val (.int r4), .unset, .unset, .unset] at_172 rfl rfl ?_
      refine g_aload C 176 at_174 rfl rfl rfl ?_
      refine g_virtual C 179 0 (i := 4) (argsL := []) (St := []) rfl (con_column l Z a0 C.2.2.1 h0 [(b1, IA Z .char (ints [k0, k1])), (b2, IA Z .char (ints [k2, k3])), (b3, IA Z .char (ints [k4, k5])), (a4, OB Z a0 "com/example/revalidate/revalidate/DocumentDecoder$Place" [("com/example/revalidate/revalidate/DocumentDecoder$Place", "line", "I", (.int r4)), ("com/example/revalidate/revalidate/DocumentDecoder$Place", "column", "I", (.int v16)), ("com/example/revalidate/revalidate/DocumentDecoder$Place", "xml11", "Z", (.int (0 : Int32))), ("com/example/revalidate/revalidate/DocumentDecoder$Place", "afterReturn", "Z", (.int (passA [k4, k5] (0 : Int32) v3 (passA [k2, k3] (0 : Int32) v2 (0 : Int32)))))]), (a5, OB Z a0 "com/example/revalidate/revalidate/DocumentDecoder$Place" [("com/example/revalidate/revalidate/DocumentDecoder$Place", "line", "I", (.int r4)), ("com/example/revalidate/revalidate/DocumentDecoder$Place", "column", "I", (.int v16)), ("com/example/revalidate/revalidate/DocumentDecoder$Place", "xml11", "Z", (.int (0 : Int32))), ("com/example/revalidate/revalidate/DocumentDecoder$Place", "afterReturn", "Z", (.int (passA [k4, k5] (0 : Int32) v3 (passA [k2, k3] (0 : Int32) v2 (0 : Int32)))))])] 4 a5 r4 v16 (0 : Int32) (passA [k4, k5] (0 : Int32) v3 (passA [k2, k3] (0 : Int32) v2 (0 : Int32))) rfl) (List.mem_of_getElem? (i := 41) rfl) (List.mem_of_getElem? (i := 42) rfl) (List.mem_of_getElem? (i := 44) rfl) (List.mem_of_getElem? (i := 43) rfl) (List.mem_of_getElem? (i := 11) rfl) (List.mem_of_getElem? (i := 45) rfl) (by decide) at_176 rfl rfl (lenOf (ps := []) (r := some .int) (by decide) rfl) rfl (Nat.le_of_eq rfl) (by decide) (by decide) (by decide) (by decide) ?_
      rintro _ _ ⟨rfl, rfl⟩
      show Go _ _ _ _ _ _ _ _ _ _ _ _ [(b1, IA Z .char (ints [k0, k1])), (b2, IA Z .char (ints [k2, k3])), (b3, IA Z .char (ints [k4, k5])), (a4, OB Z a0 "com/example/revalidate/revalidate/DocumentDecoder$Place" [("com/example/revalidate/revalidate/DocumentDecoder$Place", "line", "I", (.int r4)), ("com/example/revalidate/revalidate/DocumentDecoder$Place", "column", "I", (.int v16)), ("com/example/revalidate/revalidate/DocumentDecoder$Place", "xml11", "Z", (.int (0 : Int32))), ("com/example/revalidate/revalidate/DocumentDecoder$Place", "afterReturn", "Z", (.int (passA [k4, k5] (0 : Int32) v3 (passA [k2, k3] (0 : Int32) v2 (0 : Int32)))))]), (a5, OB Z a0 "com/example/revalidate/revalidate/DocumentDecoder$Place" [("com/example/revalidate/revalidate/DocumentDecoder$Place", "line", "I", (.int r4)), ("com/example/revalidate/revalidate/DocumentDecoder$Place", "column", "I", (.int v16)), ("com/example/revalidate/revalidate/DocumentDecoder$Place", "xml11", "Z", (.int (0 : Int32))), ("com/example/revalidate/revalidate/DocumentDecoder$Place", "afterReturn", "Z", (.int (passA [k4, k5] (0 : Int32) v3 (passA [k2, k3] (0 : Int32) v2 (0 : Int32)))))])] 5 14 179 #[.val (.long x0), .second, .val (.long x1), .second, .val (.long x2), .second, .val (.int x3), .val (.ref b1), .val (.ref b2), .val (.ref b3), .val (.int v1), .val (.int v2), .val (.int v3), .val (.ref a4), .val (.ref a5), .val (.int r2), .val (.int v15), .val (.int r4), .val (.int v16), .val (.int r4), .unset, .unset, .unset] [(.int v16)]
      refine g_istore C 181 #[.val (.long x0), .second, .val (.long x1), .second, .val (.long x2), .second, .val (.int x3), .val (.ref b1), .val (.ref b2), .val (.ref b3), .val (.int v1), .val (.int v2), .val (.int v3), .val (.ref a4), .val (.ref a5), .val (.int r2), .val (.int v15), .val (.int r4), .val (.int v16), .val (.int r4), .val (.int v16), .unset, .unset] at_179 rfl rfl ?_
      refine g_iload C 183 at_181 rfl rfl ?_
      refine g_iload C 185 at_183 rfl rfl ?_
      refine g_icN C 188 at_185 (teq (rfl : r4 = r4)).2 rfl ?_
      refine g_iload C 190 at_188 rfl rfl ?_
      refine g_iload C 192 at_190 rfl rfl ?_
      refine g_icN C 195 at_192 (teq (rfl : v16 = v16)).2 rfl ?_
      refine g_iconst C 196 (1 : Int32) at_195 rfl rfl ?_
      refine g_goto C 200 at_196 (by decide) (by decide) ?_
      refine g_istore C 202 #[.val (.long x0), .second, .val (.long x1), .second, .val (.long x2), .second, .val (.int x3), .val (.ref b1), .val (.ref b2), .val (.ref b3), .val (.int v1), .val (.int v2), .val (.int v3), .val (.ref a4), .val (.ref a5), .val (.int r2), .val (.int v15), .val (.int r4), .val (.int v16), .val (.int r4), .val (.int v16), .val (.int (1 : Int32)), .unset] at_200 rfl rfl ?_
      refine g_iload C 204 at_202 rfl rfl ?_
      by_cases c17 : v3 = (0 : Int32)
      · refine g_ifN C 207 at_204 (teq c17).2 rfl ?_
        refine g_iload C 209 at_207 rfl rfl ?_
        refine g_iload C 211 at_209 rfl rfl ?_
        refine g_icN C 214 at_211 (teq ((own_z c17 hP2).1.symm : r4 = r2)).2 rfl ?_
        refine g_iload C 216 at_214 rfl rfl ?_
        refine g_iload C 218 at_216 rfl rfl ?_
        refine g_icN C 221 at_218 (teq ((by rw [← hv16, c17, ← (own_z c17 hP2).2]; exact own_back _) : v16 = v15)).2 rfl ?_
        refine g_iconst C 222 (1 : Int32) at_221 rfl rfl ?_
        refine g_goto C 226 at_222 (by decide) (by decide) ?_
        refine g_istore C 228 #[.val (.long x0), .second, .val (.long x1), .second, .val (.long x2), .second, .val (.int x3), .val (.ref b1), .val (.ref b2), .val (.ref b3), .val (.int v1), .val (.int v2), .val (.int v3), .val (.ref a4), .val (.ref a5), .val (.int r2), .val (.int v15), .val (.int r4), .val (.int v16), .val (.int r4), .val (.int v16), .val (.int (1 : Int32)), .val (.int (1 : Int32))] at_226 rfl rfl ?_
        refine g_iload C 230 at_228 rfl rfl ?_
        refine g_ifN C 233 at_230 (feq ((by decide) : ¬ ((1 : Int32) = (0 : Int32)))).1 rfl ?_
        refine g_iload C 235 at_233 rfl rfl ?_
        refine g_ifN C 238 at_235 (feq ((by decide) : ¬ ((1 : Int32) = (0 : Int32)))).1 rfl ?_
        refine g_iconst C 239 (1 : Int32) at_238 rfl rfl ?_
        refine g_goto C 243 at_239 (by decide) (by decide) ?_
        exact g_nret C (by simp) (z' := (1 : Int32)) (by decide) at_243 (by decide) (by decide) rfl
      · refine g_ifY C 221 at_204 (feq c17).2 (by decide) (by decide) ?_
        refine g_iconst C 222 (1 : Int32) at_221 rfl rfl ?_
        refine g_goto C 226 at_222 (by decide) (by decide) ?_
        refine g_istore C 228 #[.val (.long x0), .second, .val (.long x1), .second, .val (.long x2), .second, .val (.int x3), .val (.ref b1), .val (.ref b2), .val (.ref b3), .val (.int v1), .val (.int v2), .val (.int v3), .val (.ref a4), .val (.ref a5), .val (.int r2), .val (.int v15), .val (.int r4), .val (.int v16), .val (.int r4), .val (.int v16), .val (.int (1 : Int32)), .val (.int (1 : Int32))] at_226 rfl rfl ?_
        refine g_iload C 230 at_228 rfl rfl ?_
        refine g_ifN C 233 at_230 (feq ((by decide) : ¬ ((1 : Int32) = (0 : Int32)))).1 rfl ?_
        refine g_iload C 235 at_233 rfl rfl ?_
        refine g_ifN C 238 at_235 (feq ((by decide) : ¬ ((1 : Int32) = (0 : Int32)))).1 rfl ?_
        refine g_iconst C 239 (1 : Int32) at_238 rfl rfl ?_
        refine g_goto C 243 at_239 (by decide) (by decide) ?_
        exact g_nret C (by simp) (z' := (1 : Int32)) (by decide) at_243 (by decide) (by decide) rfl
    · refine g_ifN C 87 at_84 (feq c14).1 rfl ?_
      refine g_aload C 89 at_87 rfl rfl rfl ?_
      refine g_virtual C 92 0 (i := 4) (argsL := []) (St := []) rfl (con_end l Z a0 C.2.2.1 h0 [(b1, IA Z .char (ints [k0, k1])), (b2, IA Z .char (ints [k2, k3])), (b3, IA Z .char (ints [k4, k5])), (a4, OB Z a0 "com/example/revalidate/revalidate/DocumentDecoder$Place" [("com/example/revalidate/revalidate/DocumentDecoder$Place", "line", "I", (.int (1 : Int32))), ("com/example/revalidate/revalidate/DocumentDecoder$Place", "column", "I", (.int (1 : Int32))), ("com/example/revalidate/revalidate/DocumentDecoder$Place", "xml11", "Z", (.int (1 : Int32))), ("com/example/revalidate/revalidate/DocumentDecoder$Place", "afterReturn", "Z", (.int (0 : Int32)))]), (a5, OB Z a0 "com/example/revalidate/revalidate/DocumentDecoder$Place" [("com/example/revalidate/revalidate/DocumentDecoder$Place", "line", "I", (.int (1 : Int32))), ("com/example/revalidate/revalidate/DocumentDecoder$Place", "column", "I", (.int (1 : Int32))), ("com/example/revalidate/revalidate/DocumentDecoder$Place", "xml11", "Z", (.int (0 : Int32))), ("com/example/revalidate/revalidate/DocumentDecoder$Place", "afterReturn", "Z", (.int (0 : Int32)))])] 4 a5 (1 : Int32) (1 : Int32) (0 : Int32) (0 : Int32) rfl) (List.mem_of_getElem? (i := 22) rfl) (List.mem_of_getElem? (i := 23) rfl) (List.mem_of_getElem? (i := 25) rfl) (List.mem_of_getElem? (i := 24) rfl) (List.mem_of_getElem? (i := 11) rfl) (List.mem_of_getElem? (i := 26) rfl) (by decide) at_89 rfl rfl (lenOf (ps := []) (r := none) (by decide) rfl) rfl (Nat.le_of_eq rfl) (by decide) (by decide) (by decide) (by decide) ?_
      rintro _ _ ⟨rfl, rfl⟩
      show Go _ _ _ _ _ _ _ _ _ _ _ _ [(b1, IA Z .char (ints [k0, k1])), (b2, IA Z .char (ints [k2, k3])), (b3, IA Z .char (ints [k4, k5])), (a4, OB Z a0 "com/example/revalidate/revalidate/DocumentDecoder$Place" [("com/example/revalidate/revalidate/DocumentDecoder$Place", "line", "I", (.int (1 : Int32))), ("com/example/revalidate/revalidate/DocumentDecoder$Place", "column", "I", (.int (1 : Int32))), ("com/example/revalidate/revalidate/DocumentDecoder$Place", "xml11", "Z", (.int (1 : Int32))), ("com/example/revalidate/revalidate/DocumentDecoder$Place", "afterReturn", "Z", (.int (0 : Int32)))]), (a5, OB Z a0 "com/example/revalidate/revalidate/DocumentDecoder$Place" [("com/example/revalidate/revalidate/DocumentDecoder$Place", "line", "I", (.int (1 : Int32))), ("com/example/revalidate/revalidate/DocumentDecoder$Place", "column", "I", (.int (1 : Int32))), ("com/example/revalidate/revalidate/DocumentDecoder$Place", "xml11", "Z", (.int (1 : Int32))), ("com/example/revalidate/revalidate/DocumentDecoder$Place", "afterReturn", "Z", (.int (0 : Int32)))])] 5 14 92 #[.val (.long x0), .second, .val (.long x1), .second, .val (.long x2), .second, .val (.int x3), .val (.ref b1), .val (.ref b2), .val (.ref b3), .val (.int v1), .val (.int v2), .val (.int v3), .val (.ref a4), .val (.ref a5), .unset, .unset, .unset, .unset, .unset, .unset, .unset, .unset] []
      refine g_aload C 94 at_92 rfl rfl rfl ?_
      refine g_aload C 96 at_94 rfl rfl rfl ?_
      refine g_iconst C 97 (0 : Int32) at_96 rfl rfl ?_
      refine g_iload C 99 at_97 rfl rfl ?_
      obtain ⟨r0, r1, hP0⟩ := own_ex3 [k0, k1] (1 : Int32) (0 : Int32) v1 (1 : Int32) (((0 : Int32) - (1 : Int32)) + (1 : Int32)) rfl rgv1
      have hl0 : (0 : Int32) < v1 → inb [k0, k1] (v1 - (1 : Int32)) = true := own_hl3 rfl rgv1
      refine g_virtual C 102 0 (i := 3) (argsL := [(.ref b1), (.int (0 : Int32)), (.int v1)]) (St := []) rfl (con_pass l Z a0 C.2.2.1 h0 [(b1, IA Z .char (ints [k0, k1])), (b2, IA Z .char (ints [k2, k3])), (b3, IA Z .char (ints [k4, k5])), (a4, OB Z a0 "com/example/revalidate/revalidate/DocumentDecoder$Place" [("com/example/revalidate/revalidate/DocumentDecoder$Place", "line", "I", (.int (1 : Int32))), ("com/example/revalidate/revalidate/DocumentDecoder$Place", "column", "I", (.int (1 : Int32))), ("com/example/revalidate/revalidate/DocumentDecoder$Place", "xml11", "Z", (.int (1 : Int32))), ("com/example/revalidate/revalidate/DocumentDecoder$Place", "afterReturn", "Z", (.int (0 : Int32)))]), (a5, OB Z a0 "com/example/revalidate/revalidate/DocumentDecoder$Place" [("com/example/revalidate/revalidate/DocumentDecoder$Place", "line", "I", (.int (1 : Int32))), ("com/example/revalidate/revalidate/DocumentDecoder$Place", "column", "I", (.int (1 : Int32))), ("com/example/revalidate/revalidate/DocumentDecoder$Place", "xml11", "Z", (.int (1 : Int32))), ("com/example/revalidate/revalidate/DocumentDecoder$Place", "afterReturn", "Z", (.int (0 : Int32)))])] 0 3 b1 a4 [k0, k1] (0 : Int32) v1 (1 : Int32) (1 : Int32) (1 : Int32) (0 : Int32) r0 r1 6 (by decide) rfl rfl hP0 hl0) (List.mem_of_getElem? (i := 29) rfl) (List.mem_of_getElem? (i := 30) rfl) (List.mem_of_getElem? (i := 32) rfl) (List.mem_of_getElem? (i := 31) rfl) (List.mem_of_getElem? (i := 11) rfl) (List.mem_of_getElem? (i := 33) rfl) (by decide) at_99 rfl rfl (lenOf (ps := [(.array .char), .int, .int]) (r := none) (by decide) rfl) rfl (Nat.le_of_eq rfl) (by decide) (by decide) (by decide) (by decide) ?_
      rintro _ _ ⟨rfl, rfl⟩
      show Go _ _ _ _ _ _ _ _ _ _ _ _ [(b1, IA Z .char (ints [k0, k1])), (b2, IA Z .char (ints [k2, k3])), (b3, IA Z .char (ints [k4, k5])), (a4, OB Z a0 "com/example/revalidate/revalidate/DocumentDecoder$Place" [("com/example/revalidate/revalidate/DocumentDecoder$Place", "line", "I", (.int r0)), ("com/example/revalidate/revalidate/DocumentDecoder$Place", "column", "I", (.int ((v1 - r1) + (1 : Int32)))), ("com/example/revalidate/revalidate/DocumentDecoder$Place", "xml11", "Z", (.int (1 : Int32))), ("com/example/revalidate/revalidate/DocumentDecoder$Place", "afterReturn", "Z", (.int (passA [k0, k1] (0 : Int32) v1 (0 : Int32))))]), (a5, OB Z a0 "com/example/revalidate/revalidate/DocumentDecoder$Place" [("com/example/revalidate/revalidate/DocumentDecoder$Place", "line", "I", (.int (1 : Int32))), ("com/example/revalidate/revalidate/DocumentDecoder$Place", "column", "I", (.int (1 : Int32))), ("com/example/revalidate/revalidate/DocumentDecoder$Place", "xml11", "Z", (.int (1 : Int32))), ("com/example/revalidate/revalidate/DocumentDecoder$Place", "afterReturn", "Z", (.int (0 : Int32)))])] 5 14 102 #[.val (.long x0), .second, .val (.long x1), .second, .val (.long x2), .second, .val (.int x3), .val (.ref b1), .val (.ref b2), .val (.ref b3), .val (.int v1), .val (.int v2), .val (.int v3), .val (.ref a4), .val (.ref a5), .unset, .unset, .unset, .unset, .unset, .unset, .unset, .unset] []
      refine g_aload C 104 at_102 rfl rfl rfl ?_
      refine g_aload C 106 at_104 rfl rfl rfl ?_
      refine g_iconst C 107 (0 : Int32) at_106 rfl rfl ?_
      refine g_iload C 109 at_107 rfl rfl ?_
      obtain ⟨r2, r3, hP1⟩ := own_ex3 [k2, k3] (1 : Int32) (0 : Int32) v2 (1 : Int32) (((0 : Int32) - (1 : Int32)) + (1 : Int32)) rfl rgv2
      have hl1 : (0 : Int32) < v2 → inb [k2, k3] (v2 - (1 : Int32)) = true := own_hl3 rfl rgv2
      refine g_virtual C 112 0 (i := 4) (argsL := [(.ref b2), (.int (0 : Int32)), (.int v2)]) (St := []) rfl (con_pass l Z a0 C.2.2.1 h0 [(b1, IA Z .char (ints [k0, k1])), (b2, IA Z .char (ints [k2, k3])), (b3, IA Z .char (ints [k4, k5])), (a4, OB Z a0 "com/example/revalidate/revalidate/DocumentDecoder$Place" [("com/example/revalidate/revalidate/DocumentDecoder$Place", "line", "I", (.int r0)), ("com/example/revalidate/revalidate/DocumentDecoder$Place", "column", "I", (.int ((v1 - r1) + (1 : Int32)))), ("com/example/revalidate/revalidate/DocumentDecoder$Place", "xml11", "Z", (.int (1 : Int32))), ("com/example/revalidate/revalidate/DocumentDecoder$Place", "afterReturn", "Z", (.int (passA [k0, k1] (0 : Int32) v1 (0 : Int32))))]), (a5, OB Z a0 "com/example/revalidate/revalidate/DocumentDecoder$Place" [("com/example/revalidate/revalidate/DocumentDecoder$Place", "line", "I", (.int (1 : Int32))), ("com/example/revalidate/revalidate/DocumentDecoder$Place", "column", "I", (.int (1 : Int32))), ("com/example/revalidate/revalidate/DocumentDecoder$Place", "xml11", "Z", (.int (1 : Int32))), ("com/example/revalidate/revalidate/DocumentDecoder$Place", "afterReturn", "Z", (.int (0 : Int32)))])] 1 4 b2 a5 [k2, k3] (0 : Int32) v2 (1 : Int32) (1 : Int32) (1 : Int32) (0 : Int32) r2 r3 6 (by decide) rfl rfl hP1 hl1) (List.mem_of_getElem? (i := 29) rfl) (List.mem_of_getElem? (i := 30) rfl) (List.mem_of_getElem? (i := 32) rfl) (List.mem_of_getElem? (i := 31) rfl) (List.mem_of_getElem? (i := 11) rfl) (List.mem_of_getElem? (i := 33) rfl) (by decide) at_109 rfl rfl (lenOf (ps := [(.array .char), .int, .int]) (r := none) (by decide) rfl) rfl (Nat.le_of_eq rfl) (by decide) (by decide) (by decide) (by decide) ?_
      rintro _ _ ⟨rfl, rfl⟩
      show Go _ _ _ _ _ _ _ _ _ _ _ _ [(b1, IA Z .char (ints [k0, k1])), (b2, IA Z .char (ints [k2, k3])), (b3, IA Z .char (ints [k4, k5])), (a4, OB Z a0 "com/example/revalidate/revalidate/DocumentDecoder$Place" [("com/example/revalidate/revalidate/DocumentDecoder$Place", "line", "I", (.int r0)), ("com/example/revalidate/revalidate/DocumentDecoder$Place", "column", "I", (.int ((v1 - r1) + (1 : Int32)))), ("com/example/revalidate/revalidate/DocumentDecoder$Place", "xml11", "Z", (.int (1 : Int32))), ("com/example/revalidate/revalidate/DocumentDecoder$Place", "afterReturn", "Z", (.int (passA [k0, k1] (0 : Int32) v1 (0 : Int32))))]), (a5, OB Z a0 "com/example/revalidate/revalidate/DocumentDecoder$Place" [("com/example/revalidate/revalidate/DocumentDecoder$Place", "line", "I", (.int r2)), ("com/example/revalidate/revalidate/DocumentDecoder$Place", "column", "I", (.int ((v2 - r3) + (1 : Int32)))), ("com/example/revalidate/revalidate/DocumentDecoder$Place", "xml11", "Z", (.int (1 : Int32))), ("com/example/revalidate/revalidate/DocumentDecoder$Place", "afterReturn", "Z", (.int (passA [k2, k3] (0 : Int32) v2 (0 : Int32))))])] 5 14 112 #[.val (.long x0), .second, .val (.long x1), .second, .val (.long x2), .second, .val (.int x3), .val (.ref b1), .val (.ref b2), .val (.ref b3), .val (.int v1), .val (.int v2), .val (.int v3), .val (.ref a4), .val (.ref a5), .unset, .unset, .unset, .unset, .unset, .unset, .unset, .unset] []
      refine g_aload C 114 at_112 rfl rfl rfl ?_
      refine g_virtual C 117 0 (i := 4) (argsL := []) (St := []) rfl (con_line l Z a0 C.2.2.1 h0 [(b1, IA Z .char (ints [k0, k1])), (b2, IA Z .char (ints [k2, k3])), (b3, IA Z .char (ints [k4, k5])), (a4, OB Z a0 "com/example/revalidate/revalidate/DocumentDecoder$Place" [("com/example/revalidate/revalidate/DocumentDecoder$Place", "line", "I", (.int r0)), ("com/example/revalidate/revalidate/DocumentDecoder$Place", "column", "I", (.int ((v1 - r1) + (1 : Int32)))), ("com/example/revalidate/revalidate/DocumentDecoder$Place", "xml11", "Z", (.int (1 : Int32))), ("com/example/revalidate/revalidate/DocumentDecoder$Place", "afterReturn", "Z", (.int (passA [k0, k1] (0 : Int32) v1 (0 : Int32))))]), (a5, OB Z a0 "com/example/revalidate/revalidate/DocumentDecoder$Place" [("com/example/revalidate/revalidate/DocumentDecoder$Place", "line", "I", (.int r2)), ("com/example/revalidate/revalidate/DocumentDecoder$Place", "column", "I", (.int ((v2 - r3) + (1 : Int32)))), ("com/example/revalidate/revalidate/DocumentDecoder$Place", "xml11", "Z", (.int (1 : Int32))), ("com/example/revalidate/revalidate/DocumentDecoder$Place", "afterReturn", "Z", (.int (passA [k2, k3] (0 : Int32) v2 (0 : Int32))))])] 4 a5 r2 ((v2 - r3) + (1 : Int32)) (1 : Int32) (passA [k2, k3] (0 : Int32) v2 (0 : Int32)) rfl) (List.mem_of_getElem? (i := 36) rfl) (List.mem_of_getElem? (i := 37) rfl) (List.mem_of_getElem? (i := 39) rfl) (List.mem_of_getElem? (i := 38) rfl) (List.mem_of_getElem? (i := 11) rfl) (List.mem_of_getElem? (i := 40) rfl) (by decide) at_114 rfl rfl (lenOf (ps := []) (r := some .int) (by decide) rfl) rfl (Nat.le_of_eq rfl) (by decide) (by decide) (by decide) (by decide) ?_
      rintro _ _ ⟨rfl, rfl⟩
      show Go _ _ _ _ _ _ _ _ _ _ _ _ [(b1, IA Z .char (ints [k0, k1])), (b2, IA Z .char (ints [k2, k3])), (b3, IA Z .char (ints [k4, k5])), (a4, OB Z a0 "com/example/revalidate/revalidate/DocumentDecoder$Place" [("com/example/revalidate/revalidate/DocumentDecoder$Place", "line", "I", (.int r0)), ("com/example/revalidate/revalidate/DocumentDecoder$Place", "column", "I", (.int ((v1 - r1) + (1 : Int32)))), ("com/example/revalidate/revalidate/DocumentDecoder$Place", "xml11", "Z", (.int (1 : Int32))), ("com/example/revalidate/revalidate/DocumentDecoder$Place", "afterReturn", "Z", (.int (passA [k0, k1] (0 : Int32) v1 (0 : Int32))))]), (a5, OB Z a0 "com/example/revalidate/revalidate/DocumentDecoder$Place" [("com/example/revalidate/revalidate/DocumentDecoder$Place", "line", "I", (.int r2)), ("com/example/revalidate/revalidate/DocumentDecoder$Place", "column", "I", (.int ((v2 - r3) + (1 : Int32)))), ("com/example/revalidate/revalidate/DocumentDecoder$Place", "xml11", "Z", (.int (1 : Int32))), ("com/example/revalidate/revalidate/DocumentDecoder$Place", "afterReturn", "Z", (.int (passA [k2, k3] (0 : Int32) v2 (0 : Int32))))])] 5 14 117 #[.val (.long x0), .second, .val (.long x1), .second, .val (.long x2), .second, .val (.int x3), .val (.ref b1), .val (.ref b2), .val (.ref b3), .val (.int v1), .val (.int v2), .val (.int v3), .val (.ref a4), .val (.ref a5), .unset, .unset, .unset, .unset, .unset, .unset, .unset, .unset] [(.int r2)]
      refine g_istore C 119 #[.val (.long x0), .second, .val (.long x1), .second, .val (.long x2), .second, .val (.int x3), .val (.ref b1), .val (.ref b2), .val (.ref b3), .val (.int v1), .val (.int v2), .val (.int v3), .val (.ref a4), .val (.ref a5), .val (.int r2), .unset, .unset, .unset, .unset, .unset, .unset, .unset] at_117 rfl rfl ?_
      refine g_aload C 121 at_119 rfl rfl rfl ?_
      refine g_virtual C 124 0 (i := 4) (argsL := []) (St := []) rfl (con_column l Z a0 C.2.2.1 h0 [(b1, IA Z .char (ints [k0, k1])), (b2, IA Z .char (ints [k2, k3])), (b3, IA Z .char (ints [k4, k5])), (a4, OB Z a0 "com/example/revalidate/revalidate/DocumentDecoder$Place" [("com/example/revalidate/revalidate/DocumentDecoder$Place", "line", "I", (.int r0)), ("com/example/revalidate/revalidate/DocumentDecoder$Place", "column", "I", (.int ((v1 - r1) + (1 : Int32)))), ("com/example/revalidate/revalidate/DocumentDecoder$Place", "xml11", "Z", (.int (1 : Int32))), ("com/example/revalidate/revalidate/DocumentDecoder$Place", "afterReturn", "Z", (.int (passA [k0, k1] (0 : Int32) v1 (0 : Int32))))]), (a5, OB Z a0 "com/example/revalidate/revalidate/DocumentDecoder$Place" [("com/example/revalidate/revalidate/DocumentDecoder$Place", "line", "I", (.int r2)), ("com/example/revalidate/revalidate/DocumentDecoder$Place", "column", "I", (.int ((v2 - r3) + (1 : Int32)))), ("com/example/revalidate/revalidate/DocumentDecoder$Place", "xml11", "Z", (.int (1 : Int32))), ("com/example/revalidate/revalidate/DocumentDecoder$Place", "afterReturn", "Z", (.int (passA [k2, k3] (0 : Int32) v2 (0 : Int32))))])] 4 a5 r2 ((v2 - r3) + (1 : Int32)) (1 : Int32) (passA [k2, k3] (0 : Int32) v2 (0 : Int32)) rfl) (List.mem_of_getElem? (i := 41) rfl) (List.mem_of_getElem? (i := 42) rfl) (List.mem_of_getElem? (i := 44) rfl) (List.mem_of_getElem? (i := 43) rfl) (List.mem_of_getElem? (i := 11) rfl) (List.mem_of_getElem? (i := 45) rfl) (by decide) at_121 rfl rfl (lenOf (ps := []) (r := some .int) (by decide) rfl) rfl (Nat.le_of_eq rfl) (by decide) (by decide) (by decide) (by decide) ?_
      rintro _ _ ⟨rfl, rfl⟩
      show Go _ _ _ _ _ _ _ _ _ _ _ _ [(b1, IA Z .char (ints [k0, k1])), (b2, IA Z .char (ints [k2, k3])), (b3, IA Z .char (ints [k4, k5])), (a4, OB Z a0 "com/example/revalidate/revalidate/DocumentDecoder$Place" [("com/example/revalidate/revalidate/DocumentDecoder$Place", "line", "I", (.int r0)), ("com/example/revalidate/revalidate/DocumentDecoder$Place", "column", "I", (.int ((v1 - r1) + (1 : Int32)))), ("com/example/revalidate/revalidate/DocumentDecoder$Place", "xml11", "Z", (.int (1 : Int32))), ("com/example/revalidate/revalidate/DocumentDecoder$Place", "afterReturn", "Z", (.int (passA [k0, k1] (0 : Int32) v1 (0 : Int32))))]), (a5, OB Z a0 "com/example/revalidate/revalidate/DocumentDecoder$Place" [("com/example/revalidate/revalidate/DocumentDecoder$Place", "line", "I", (.int r2)), ("com/example/revalidate/revalidate/DocumentDecoder$Place", "column", "I", (.int ((v2 - r3) + (1 : Int32)))), ("com/example/revalidate/revalidate/DocumentDecoder$Place", "xml11", "Z", (.int (1 : Int32))), ("com/example/revalidate/revalidate/DocumentDecoder$Place", "afterReturn", "Z", (.int (passA [k2, k3] (0 : Int32) v2 (0 : Int32))))])] 5 14 124 #[.val (.long x0), .second, .val (.long x1), .second, .val (.long x2), .second, .val (.int x3), .val (.ref b1), .val (.ref b2), .val (.ref b3), .val (.int v1), .val (.int v2), .val (.int v3), .val (.ref a4), .val (.ref a5), .val (.int r2), .unset, .unset, .unset, .unset, .unset, .unset, .unset] [(.int ((v2 - r3) + (1 : Int32)))]
      refine g_istore C 126 #[.val (.long x0), .second, .val (.long x1), .second, .val (.long x2), .second, .val (.int x3), .val (.ref b1), .val (.ref b2), .val (.ref b3), .val (.int v1), .val (.int v2), .val (.int v3), .val (.ref a4), .val (.ref a5), .val (.int r2), .val (.int ((v2 - r3) + (1 : Int32))), .unset, .unset, .unset, .unset, .unset, .unset] at_124 rfl rfl ?_
      generalize hv18 : ((v2 - r3) + (1 : Int32)) = v18
      refine g_aload C 128 at_126 rfl rfl rfl ?_
      refine g_aload C 130 at_128 rfl rfl rfl ?_
      refine g_virtual C 133 0 (i := 3) (argsL := [(.ref a5)]) (St := []) rfl (con_move l Z a0 C.2.2.1 h0 [(b1, IA Z .char (ints [k0, k1])), (b2, IA Z .char (ints [k2, k3])), (b3, IA Z .char (ints [k4, k5])), (a4, OB Z a0 "com/example/revalidate/revalidate/DocumentDecoder$Place" [("com/example/revalidate/revalidate/DocumentDecoder$Place", "line", "I", (.int r0)), ("com/example/revalidate/revalidate/DocumentDecoder$Place", "column", "I", (.int ((v1 - r1) + (1 : Int32)))), ("com/example/revalidate/revalidate/DocumentDecoder$Place", "xml11", "Z", (.int (1 : Int32))), ("com/example/revalidate/revalidate/DocumentDecoder$Place", "afterReturn", "Z", (.int (passA [k0, k1] (0 : Int32) v1 (0 : Int32))))]), (a5, OB Z a0 "com/example/revalidate/revalidate/DocumentDecoder$Place" [("com/example/revalidate/revalidate/DocumentDecoder$Place", "line", "I", (.int r2)), ("com/example/revalidate/revalidate/DocumentDecoder$Place", "column", "I", (.int v18)), ("com/example/revalidate/revalidate/DocumentDecoder$Place", "xml11", "Z", (.int (1 : Int32))), ("com/example/revalidate/revalidate/DocumentDecoder$Place", "afterReturn", "Z", (.int (passA [k2, k3] (0 : Int32) v2 (0 : Int32))))])] 3 4 a4 a5 r0 ((v1 - r1) + (1 : Int32)) (1 : Int32) (passA [k0, k1] (0 : Int32) v1 (0 : Int32)) r2 v18 (1 : Int32) (passA [k2, k3] (0 : Int32) v2 (0 : Int32)) (by decide) rfl rfl) (List.mem_of_getElem? (i := 46) rfl) (List.mem_of_getElem? (i := 47) rfl) (List.mem_of_getElem? (i := 49) rfl) (List.mem_of_getElem? (i := 48) rfl) (List.mem_of_getElem? (i := 11) rfl) (List.mem_of_getElem? (i := 50) rfl) (by decide) at_130 rfl rfl (lenOf (ps := [(.object "com/example/revalidate/revalidate/DocumentDecoder$Place")]) (r := none) (by decide) rfl) rfl (Nat.le_of_eq rfl) (by decide) (by decide) (by decide) (by decide) ?_
      rintro _ _ ⟨rfl, rfl⟩
      show Go _ _ _ _ _ _ _ _ _ _ _ _ [(b1, IA Z .char (ints [k0, k1])), (b2, IA Z .char (ints [k2, k3])), (b3, IA Z .char (ints [k4, k5])), (a4, OB Z a0 "com/example/revalidate/revalidate/DocumentDecoder$Place" [("com/example/revalidate/revalidate/DocumentDecoder$Place", "line", "I", (.int r2)), ("com/example/revalidate/revalidate/DocumentDecoder$Place", "column", "I", (.int v18)), ("com/example/revalidate/revalidate/DocumentDecoder$Place", "xml11", "Z", (.int (nar .boolean (1 : Int32)))), ("com/example/revalidate/revalidate/DocumentDecoder$Place", "afterReturn", "Z", (.int (nar .boolean (passA [k2, k3] (0 : Int32) v2 (0 : Int32)))))]), (a5, OB Z a0 "com/example/revalidate/revalidate/DocumentDecoder$Place" [("com/example/revalidate/revalidate/DocumentDecoder$Place", "line", "I", (.int r2)), ("com/example/revalidate/revalidate/DocumentDecoder$Place", "column", "I", (.int v18)), ("com/example/revalidate/revalidate/DocumentDecoder$Place", "xml11", "Z", (.int (1 : Int32))), ("com/example/revalidate/revalidate/DocumentDecoder$Place", "afterReturn", "Z", (.int (passA [k2, k3] (0 : Int32) v2 (0 : Int32))))])] 5 14 133 #[.val (.long x0), .second, .val (.long x1), .second, .val (.long x2), .second, .val (.int x3), .val (.ref b1), .val (.ref b2), .val (.ref b3), .val (.int v1), .val (.int v2), .val (.int v3), .val (.ref a4), .val (.ref a5), .val (.int r2), .val (.int v18), .unset, .unset, .unset, .unset, .unset, .unset] []
      rw [own_narA, show nar .boolean (1 : Int32) = (1 : Int32) from by decide]
      show Go _ _ _ _ _ _ _ _ _ _ _ _ [(b1, IA Z .char (ints [k0, k1])), (b2, IA Z .char (ints [k2, k3])), (b3, IA Z .char (ints [k4, k5])), (a4, OB Z a0 "com/example/revalidate/revalidate/DocumentDecoder$Place" [("com/example/revalidate/revalidate/DocumentDecoder$Place", "line", "I", (.int r2)), ("com/example/revalidate/revalidate/DocumentDecoder$Place", "column", "I", (.int v18)), ("com/example/revalidate/revalidate/DocumentDecoder$Place", "xml11", "Z", (.int (1 : Int32))), ("com/example/revalidate/revalidate/DocumentDecoder$Place", "afterReturn", "Z", (.int (passA [k2, k3] (0 : Int32) v2 (0 : Int32))))]), (a5, OB Z a0 "com/example/revalidate/revalidate/DocumentDecoder$Place" [("com/example/revalidate/revalidate/DocumentDecoder$Place", "line", "I", (.int r2)), ("com/example/revalidate/revalidate/DocumentDecoder$Place", "column", "I", (.int v18)), ("com/example/revalidate/revalidate/DocumentDecoder$Place", "xml11", "Z", (.int (1 : Int32))), ("com/example/revalidate/revalidate/DocumentDecoder$Place", "afterReturn", "Z", (.int (passA [k2, k3] (0 : Int32) v2 (0 : Int32))))])] 5 14 133 #[.val (.long x0), .second, .val (.long x1), .second, .val (.long x2), .second, .val (.int x3), .val (.ref b1), .val (.ref b2), .val (.ref b3), .val (.int v1), .val (.int v2), .val (.int v3), .val (.ref a4), .val (.ref a5), .val (.int r2), .val (.int v18), .unset, .unset, .unset, .unset, .unset, .unset] []
      refine g_aload C 135 at_133 rfl rfl rfl ?_
      refine g_aload C 137 at_135 rfl rfl rfl ?_
      refine g_iconst C 138 (0 : Int32) at_137 rfl rfl ?_
      refine g_iload C 140 at_138 rfl rfl ?_
      obtain ⟨r4, r5, hP2⟩ := own_ex3 [k4, k5] (1 : Int32) (passA [k2, k3] (0 : Int32) v2 (0 : Int32)) v3 r2 (((0 : Int32) - v18) + (1 : Int32)) rfl rgv3
      have hl2 : (0 : Int32) < v3 → inb [k4, k5] (v3 - (1 : Int32)) = true := own_hl3 rfl rgv3
      refine g_virtual C 143 0 (i := 3) (argsL := [(.ref b3), (.int (0 : Int32)), (.int v3)]) (St := []) rfl (con_pass l Z a0 C.2.2.1 h0 [(b1, IA Z .char (ints [k0, k1])), (b2, IA Z .char (ints [k2, k3])), (b3, IA Z .char (ints [k4, k5])), (a4, OB Z a0 "com/example/revalidate/revalidate/DocumentDecoder$Place" [("com/example/revalidate/revalidate/DocumentDecoder$Place", "line", "I", (.int r2)), ("com/example/revalidate/revalidate/DocumentDecoder$Place", "column", "I", (.int v18)), ("com/example/revalidate/revalidate/DocumentDecoder$Place", "xml11", "Z", (.int (1 : Int32))), ("com/example/revalidate/revalidate/DocumentDecoder$Place", "afterReturn", "Z", (.int (passA [k2, k3] (0 : Int32) v2 (0 : Int32))))]), (a5, OB Z a0 "com/example/revalidate/revalidate/DocumentDecoder$Place" [("com/example/revalidate/revalidate/DocumentDecoder$Place", "line", "I", (.int r2)), ("com/example/revalidate/revalidate/DocumentDecoder$Place", "column", "I", (.int v18)), ("com/example/revalidate/revalidate/DocumentDecoder$Place", "xml11", "Z", (.int (1 : Int32))), ("com/example/revalidate/revalidate/DocumentDecoder$Place", "afterReturn", "Z", (.int (passA [k2, k3] (0 : Int32) v2 (0 : Int32))))])] 2 3 b3 a4 [k4, k5] (0 : Int32) v3 r2 v18 (1 : Int32) (passA [k2, k3] (0 : Int32) v2 (0 : Int32)) r4 r5 6 (by decide) rfl rfl hP2 hl2) (List.mem_of_getElem? (i := 29) rfl) (List.mem_of_getElem? (i := 30) rfl) (List.mem_of_getElem? (i := 32) rfl) (List.mem_of_getElem? (i := 31) rfl) (List.mem_of_getElem? (i := 11) rfl) (List.mem_of_getElem? (i := 33) rfl) (by decide) at_140 rfl rfl (lenOf (ps := [(.array .char), .int, .int]) (r := none) (by decide) rfl) rfl (Nat.le_of_eq rfl) (by decide) (by decide) (by decide) (by decide) ?_
      rintro _ _ ⟨rfl, rfl⟩
      show Go _ _ _ _ _ _ _ _ _ _ _ _ [(b1, IA Z .char (ints [k0, k1])), (b2, IA Z .char (ints [k2, k3])), (b3, IA Z .char (ints [k4, k5])), (a4, OB Z a0 "com/example/revalidate/revalidate/DocumentDecoder$Place" [("com/example/revalidate/revalidate/DocumentDecoder$Place", "line", "I", (.int r4)), ("com/example/revalidate/revalidate/DocumentDecoder$Place", "column", "I", (.int ((v3 - r5) + (1 : Int32)))), ("com/example/revalidate/revalidate/DocumentDecoder$Place", "xml11", "Z", (.int (1 : Int32))), ("com/example/revalidate/revalidate/DocumentDecoder$Place", "afterReturn", "Z", (.int (passA [k4, k5] (0 : Int32) v3 (passA [k2, k3] (0 : Int32) v2 (0 : Int32)))))]), (a5, OB Z a0 "com/example/revalidate/revalidate/DocumentDecoder$Place" [("com/example/revalidate/revalidate/DocumentDecoder$Place", "line", "I", (.int r2)), ("com/example/revalidate/revalidate/DocumentDecoder$Place", "column", "I", (.int v18)), ("com/example/revalidate/revalidate/DocumentDecoder$Place", "xml11", "Z", (.int (1 : Int32))), ("com/example/revalidate/revalidate/DocumentDecoder$Place", "afterReturn", "Z", (.int (passA [k2, k3] (0 : Int32) v2 (0 : Int32))))])] 5 14 143 #[.val (.long x0), .second, .val (.long x1), .second, .val (.long x2), .second, .val (.int x3), .val (.ref b1), .val (.ref b2), .val (.ref b3), .val (.int v1), .val (.int v2), .val (.int v3), .val (.ref a4), .val (.ref a5), .val (.int r2), .val (.int v18), .unset, .unset, .unset, .unset, .unset, .unset] []
      refine g_aload C 145 at_143 rfl rfl rfl ?_
      refine g_aload C 147 at_145 rfl rfl rfl ?_
      refine g_iconst C 148 (0 : Int32) at_147 rfl rfl ?_
      refine g_iload C 150 at_148 rfl rfl ?_
      refine g_virtual C 153 0 (i := 4) (argsL := [(.ref b3), (.int (0 : Int32)), (.int v3)]) (St := []) rfl (con_pass l Z a0 C.2.2.1 h0 [(b1, IA Z .char (ints [k0, k1])), (b2, IA Z .char (ints [k2, k3])), (b3, IA Z .char (ints [k4, k5])), (a4, OB Z a0 "com/example/revalidate/revalidate/DocumentDecoder$Place" [("com/example/revalidate/revalidate/DocumentDecoder$Place", "line", "I", (.int r4)), ("com/example/revalidate/revalidate/DocumentDecoder$Place", "column", "I", (.int ((v3 - r5) + (1 : Int32)))), ("com/example/revalidate/revalidate/DocumentDecoder$Place", "xml11", "Z", (.int (1 : Int32))), ("com/example/revalidate/revalidate/DocumentDecoder$Place", "afterReturn", "Z", (.int (passA [k4, k5] (0 : Int32) v3 (passA [k2, k3] (0 : Int32) v2 (0 : Int32)))))]), (a5, OB Z a0 "com/example/revalidate/revalidate/DocumentDecoder$Place" [("com/example/revalidate/revalidate/DocumentDecoder$Place", "line", "I", (.int r2)), ("com/example/revalidate/revalidate/DocumentDecoder$Place", "column", "I", (.int v18)), ("com/example/revalidate/revalidate/DocumentDecoder$Place", "xml11", "Z", (.int (1 : Int32))), ("com/example/revalidate/revalidate/DocumentDecoder$Place", "afterReturn", "Z", (.int (passA [k2, k3] (0 : Int32) v2 (0 : Int32))))])] 2 4 b3 a5 [k4, k5] (0 : Int32) v3 r2 v18 (1 : Int32) (passA [k2, k3] (0 : Int32) v2 (0 : Int32)) r4 r5 6 (by decide) rfl rfl hP2 hl2) (List.mem_of_getElem? (i := 29) rfl) (List.mem_of_getElem? (i := 30) rfl) (List.mem_of_getElem? (i := 32) rfl) (List.mem_of_getElem? (i := 31) rfl) (List.mem_of_getElem? (i := 11) rfl) (List.mem_of_getElem? (i := 33) rfl) (by decide) at_150 rfl rfl (lenOf (ps := [(.array .char), .int, .int]) (r := none) (by decide) rfl) rfl (Nat.le_of_eq rfl) (by decide) (by decide) (by decide) (by decide) ?_
      rintro _ _ ⟨rfl, rfl⟩
      show Go _ _ _ _ _ _ _ _ _ _ _ _ [(b1, IA Z .char (ints [k0, k1])), (b2, IA Z .char (ints [k2, k3])), (b3, IA Z .char (ints [k4, k5])), (a4, OB Z a0 "com/example/revalidate/revalidate/DocumentDecoder$Place" [("com/example/revalidate/revalidate/DocumentDecoder$Place", "line", "I", (.int r4)), ("com/example/revalidate/revalidate/DocumentDecoder$Place", "column", "I", (.int ((v3 - r5) + (1 : Int32)))), ("com/example/revalidate/revalidate/DocumentDecoder$Place", "xml11", "Z", (.int (1 : Int32))), ("com/example/revalidate/revalidate/DocumentDecoder$Place", "afterReturn", "Z", (.int (passA [k4, k5] (0 : Int32) v3 (passA [k2, k3] (0 : Int32) v2 (0 : Int32)))))]), (a5, OB Z a0 "com/example/revalidate/revalidate/DocumentDecoder$Place" [("com/example/revalidate/revalidate/DocumentDecoder$Place", "line", "I", (.int r4)), ("com/example/revalidate/revalidate/DocumentDecoder$Place", "column", "I", (.int ((v3 - r5) + (1 : Int32)))), ("com/example/revalidate/revalidate/DocumentDecoder$Place", "xml11", "Z", (.int (1 : Int32))), ("com/example/revalidate/revalidate/DocumentDecoder$Place", "afterReturn", "Z", (.int (passA [k4, k5] (0 : Int32) v3 (passA [k2, k3] (0 : Int32) v2 (0 : Int32)))))])] 5 14 153 #[.val (.long x0), .second, .val (.long x1), .second, .val (.long x2), .second, .val (.int x3), .val (.ref b1), .val (.ref b2), .val (.ref b3), .val (.int v1), .val (.int v2), .val (.int v3), .val (.ref a4), .val (.ref a5), .val (.int r2), .val (.int v18), .unset, .unset, .unset, .unset, .unset, .unset] []
      refine g_aload C 155 at_153 rfl rfl rfl ?_
      refine g_virtual C 158 0 (i := 3) (argsL := []) (St := []) rfl (con_line l Z a0 C.2.2.1 h0 [(b1, IA Z .char (ints [k0, k1])), (b2, IA Z .char (ints [k2, k3])), (b3, IA Z .char (ints [k4, k5])), (a4, OB Z a0 "com/example/revalidate/revalidate/DocumentDecoder$Place" [("com/example/revalidate/revalidate/DocumentDecoder$Place", "line", "I", (.int r4)), ("com/example/revalidate/revalidate/DocumentDecoder$Place", "column", "I", (.int ((v3 - r5) + (1 : Int32)))), ("com/example/revalidate/revalidate/DocumentDecoder$Place", "xml11", "Z", (.int (1 : Int32))), ("com/example/revalidate/revalidate/DocumentDecoder$Place", "afterReturn", "Z", (.int (passA [k4, k5] (0 : Int32) v3 (passA [k2, k3] (0 : Int32) v2 (0 : Int32)))))]), (a5, OB Z a0 "com/example/revalidate/revalidate/DocumentDecoder$Place" [("com/example/revalidate/revalidate/DocumentDecoder$Place", "line", "I", (.int r4)), ("com/example/revalidate/revalidate/DocumentDecoder$Place", "column", "I", (.int ((v3 - r5) + (1 : Int32)))), ("com/example/revalidate/revalidate/DocumentDecoder$Place", "xml11", "Z", (.int (1 : Int32))), ("com/example/revalidate/revalidate/DocumentDecoder$Place", "afterReturn", "Z", (.int (passA [k4, k5] (0 : Int32) v3 (passA [k2, k3] (0 : Int32) v2 (0 : Int32)))))])] 3 a4 r4 ((v3 - r5) + (1 : Int32)) (1 : Int32) (passA [k4, k5] (0 : Int32) v3 (passA [k2, k3] (0 : Int32) v2 (0 : Int32))) rfl) (List.mem_of_getElem? (i := 36) rfl) (List.mem_of_getElem? (i := 37) rfl) (List.mem_of_getElem? (i := 39) rfl) (List.mem_of_getElem? (i := 38) rfl) (List.mem_of_getElem? (i := 11) rfl) (List.mem_of_getElem? (i := 40) rfl) (by decide) at_155 rfl rfl (lenOf (ps := []) (r := some .int) (by decide) rfl) rfl (Nat.le_of_eq rfl) (by decide) (by decide) (by decide) (by decide) ?_
      rintro _ _ ⟨rfl, rfl⟩
      show Go _ _ _ _ _ _ _ _ _ _ _ _ [(b1, IA Z .char (ints [k0, k1])), (b2, IA Z .char (ints [k2, k3])), (b3, IA Z .char (ints [k4, k5])), (a4, OB Z a0 "com/example/revalidate/revalidate/DocumentDecoder$Place" [("com/example/revalidate/revalidate/DocumentDecoder$Place", "line", "I", (.int r4)), ("com/example/revalidate/revalidate/DocumentDecoder$Place", "column", "I", (.int ((v3 - r5) + (1 : Int32)))), ("com/example/revalidate/revalidate/DocumentDecoder$Place", "xml11", "Z", (.int (1 : Int32))), ("com/example/revalidate/revalidate/DocumentDecoder$Place", "afterReturn", "Z", (.int (passA [k4, k5] (0 : Int32) v3 (passA [k2, k3] (0 : Int32) v2 (0 : Int32)))))]), (a5, OB Z a0 "com/example/revalidate/revalidate/DocumentDecoder$Place" [("com/example/revalidate/revalidate/DocumentDecoder$Place", "line", "I", (.int r4)), ("com/example/revalidate/revalidate/DocumentDecoder$Place", "column", "I", (.int ((v3 - r5) + (1 : Int32)))), ("com/example/revalidate/revalidate/DocumentDecoder$Place", "xml11", "Z", (.int (1 : Int32))), ("com/example/revalidate/revalidate/DocumentDecoder$Place", "afterReturn", "Z", (.int (passA [k4, k5] (0 : Int32) v3 (passA [k2, k3] (0 : Int32) v2 (0 : Int32)))))])] 5 14 158 #[.val (.long x0), .second, .val (.long x1), .second, .val (.long x2), .second, .val (.int x3), .val (.ref b1), .val (.ref b2), .val (.ref b3), .val (.int v1), .val (.int v2), .val (.int v3), .val (.ref a4), .val (.ref a5), .val (.int r2), .val (.int v18), .unset, .unset, .unset, .unset, .unset, .unset] [(.int r4)]
      refine g_istore C 160 #[.val (.long x0), .second, .val (.long x1), .second, .val (.long x2), .second, .val (.int x3), .val (.ref b1), .val (.ref b2), .val (.ref b3), .val (.int v1), .val (.int v2), .val (.int v3), .val (.ref a4), .val (.ref a5), .val (.int r2), .val (.int v18), .val (.int r4), .unset, .unset, .unset, .unset, .unset] at_158 rfl rfl ?_
      refine g_aload C 162 at_160 rfl rfl rfl ?_
      refine g_virtual C 165 0 (i := 3) (argsL := []) (St := []) rfl (con_column l Z a0 C.2.2.1 h0 [(b1, IA Z .char (ints [k0, k1])), (b2, IA Z .char (ints [k2, k3])), (b3, IA Z .char (ints [k4, k5])), (a4, OB Z a0 "com/example/revalidate/revalidate/DocumentDecoder$Place" [("com/example/revalidate/revalidate/DocumentDecoder$Place", "line", "I", (.int r4)), ("com/example/revalidate/revalidate/DocumentDecoder$Place", "column", "I", (.int ((v3 - r5) + (1 : Int32)))), ("com/example/revalidate/revalidate/DocumentDecoder$Place", "xml11", "Z", (.int (1 : Int32))), ("com/example/revalidate/revalidate/DocumentDecoder$Place", "afterReturn", "Z", (.int (passA [k4, k5] (0 : Int32) v3 (passA [k2, k3] (0 : Int32) v2 (0 : Int32)))))]), (a5, OB Z a0 "com/example/revalidate/revalidate/DocumentDecoder$Place" [("com/example/revalidate/revalidate/DocumentDecoder$Place", "line", "I", (.int r4)), ("com/example/revalidate/revalidate/DocumentDecoder$Place", "column", "I", (.int ((v3 - r5) + (1 : Int32)))), ("com/example/revalidate/revalidate/DocumentDecoder$Place", "xml11", "Z", (.int (1 : Int32))), ("com/example/revalidate/revalidate/DocumentDecoder$Place", "afterReturn", "Z", (.int (passA [k4, k5] (0 : Int32) v3 (passA [k2, k3] (0 : Int32) v2 (0 : Int32)))))])] 3 a4 r4 ((v3 - r5) + (1 : Int32)) (1 : Int32) (passA [k4, k5] (0 : Int32) v3 (passA [k2, k3] (0 : Int32) v2 (0 : Int32))) rfl) (List.mem_of_getElem? (i := 41) rfl) (List.mem_of_getElem? (i := 42) rfl) (List.mem_of_getElem? (i := 44) rfl) (List.mem_of_getElem? (i := 43) rfl) (List.mem_of_getElem? (i := 11) rfl) (List.mem_of_getElem? (i := 45) rfl) (by decide) at_162 rfl rfl (lenOf (ps := []) (r := some .int) (by decide) rfl) rfl (Nat.le_of_eq rfl) (by decide) (by decide) (by decide) (by decide) ?_
      rintro _ _ ⟨rfl, rfl⟩
      show Go _ _ _ _ _ _ _ _ _ _ _ _ [(b1, IA Z .char (ints [k0, k1])), (b2, IA Z .char (ints [k2, k3])), (b3, IA Z .char (ints [k4, k5])), (a4, OB Z a0 "com/example/revalidate/revalidate/DocumentDecoder$Place" [("com/example/revalidate/revalidate/DocumentDecoder$Place", "line", "I", (.int r4)), ("com/example/revalidate/revalidate/DocumentDecoder$Place", "column", "I", (.int ((v3 - r5) + (1 : Int32)))), ("com/example/revalidate/revalidate/DocumentDecoder$Place", "xml11", "Z", (.int (1 : Int32))), ("com/example/revalidate/revalidate/DocumentDecoder$Place", "afterReturn", "Z", (.int (passA [k4, k5] (0 : Int32) v3 (passA [k2, k3] (0 : Int32) v2 (0 : Int32)))))]), (a5, OB Z a0 "com/example/revalidate/revalidate/DocumentDecoder$Place" [("com/example/revalidate/revalidate/DocumentDecoder$Place", "line", "I", (.int r4)), ("com/example/revalidate/revalidate/DocumentDecoder$Place", "column", "I", (.int ((v3 - r5) + (1 : Int32)))), ("com/example/revalidate/revalidate/DocumentDecoder$Place", "xml11", "Z", (.int (1 : Int32))), ("com/example/revalidate/revalidate/DocumentDecoder$Place", "afterReturn", "Z", (.int (passA [k4, k5] (0 : Int32) v3 (passA [k2, k3] (0 : Int32) v2 (0 : Int32)))))])] 5 14 165 #[.val (.long x0), .second, .val (.long x1), .second, .val (.long x2), .second, .val (.int x3), .val (.ref b1), .val (.ref b2), .val (.ref b3), .val (.int v1), .val (.int v2), .val (.int v3), .val (.ref a4), .val (.ref a5), .val (.int r2), .val (.int v18), .val (.int r4), .unset, .unset, .unset, .unset, .unset] [(.int ((v3 - r5) + (1 : Int32)))]
      refine g_istore C 167 #[.val (.long x0), .second, .val (.long x1), .second, .val (.long x2), .second, .val (.int x3), .val (.ref b1), .val (.ref b2), .val (.ref b3), .val (.int v1), .val (.int v2), .val (.int v3), .val (.ref a4), .val (.ref a5), .val (.int r2), .val (.int v18), .val (.int r4), .val (.int ((v3 - r5) + (1 : Int32))), .unset, .unset, .unset, .unset] at_165 rfl rfl ?_
      generalize hv19 : ((v3 - r5) + (1 : Int32)) = v19
      refine g_aload C 169 at_167 rfl rfl rfl ?_
      refine g_virtual C 172 0 (i := 4) (argsL := []) (St := []) rfl (con_line l Z a0 C.2.2.1 h0 [(b1, IA Z .char (ints [k0, k1])), (b2, IA Z .char (ints [k2, k3])), (b3, IA Z .char (ints [k4, k5])), (a4, OB Z a0 "com/example/revalidate/revalidate/DocumentDecoder$Place" [("com/example/revalidate/revalidate/DocumentDecoder$Place", "line", "I", (.int r4)), ("com/example/revalidate/revalidate/DocumentDecoder$Place", "column", "I", (.int v19)), ("com/example/revalidate/revalidate/DocumentDecoder$Place", "xml11", "Z", (.int (1 : Int32))), ("com/example/revalidate/revalidate/DocumentDecoder$Place", "afterReturn", "Z", (.int (passA [k4, k5] (0 : Int32) v3 (passA [k2, k3] (0 : Int32) v2 (0 : Int32)))))]), (a5, OB Z a0 "com/example/revalidate/revalidate/DocumentDecoder$Place" [("com/example/revalidate/revalidate/DocumentDecoder$Place", "line", "I", (.int r4)), ("com/example/revalidate/revalidate/DocumentDecoder$Place", "column", "I", (.int v19)), ("com/example/revalidate/revalidate/DocumentDecoder$Place", "xml11", "Z", (.int (1 : Int32))), ("com/example/revalidate/revalidate/DocumentDecoder$Place", "afterReturn", "Z", (.int (passA [k4, k5] (0 : Int32) v3 (passA [k2, k3] (0 : Int32) v2 (0 : Int32)))))])] 4 a5 r4 v19 (1 : Int32) (passA [k4, k5] (0 : Int32) v3 (passA [k2, k3] (0 : Int32) v2 (0 : Int32))) rfl) (List.mem_of_getElem? (i := 36) rfl) (List.mem_of_getElem? (i := 37) rfl) (List.mem_of_getElem? (i := 39) rfl) (List.mem_of_getElem? (i := 38) rfl) (List.mem_of_getElem? (i := 11) rfl) (List.mem_of_getElem? (i := 40) rfl) (by decide) at_169 rfl rfl (lenOf (ps := []) (r := some .int) (by decide) rfl) rfl (Nat.le_of_eq rfl) (by decide) (by decide) (by decide) (by decide) ?_
      rintro _ _ ⟨rfl, rfl⟩
      show Go _ _ _ _ _ _ _ _ _ _ _ _ [(b1, IA Z .char (ints [k0, k1])), (b2, IA Z .char (ints [k2, k3])), (b3, IA Z .char (ints [k4, k5])), (a4, OB Z a0 "com/example/revalidate/revalidate/DocumentDecoder$Place" [("com/example/revalidate/revalidate/DocumentDecoder$Place", "line", "I", (.int r4)), ("com/example/revalidate/revalidate/DocumentDecoder$Place", "column", "I", (.int v19)), ("com/example/revalidate/revalidate/DocumentDecoder$Place", "xml11", "Z", (.int (1 : Int32))), ("com/example/revalidate/revalidate/DocumentDecoder$Place", "afterReturn", "Z", (.int (passA [k4, k5] (0 : Int32) v3 (passA [k2, k3] (0 : Int32) v2 (0 : Int32)))))]), (a5, OB Z a0 "com/example/revalidate/revalidate/DocumentDecoder$Place" [("com/example/revalidate/revalidate/DocumentDecoder$Place", "line", "I", (.int r4)), ("com/example/revalidate/revalidate/DocumentDecoder$Place", "column", "I", (.int v19)), ("com/example/revalidate/revalidate/DocumentDecoder$Place", "xml11", "Z", (.int (1 : Int32))), ("com/example/revalidate/revalidate/DocumentDecoder$Place", "afterReturn", "Z", (.int (passA [k4, k5] (0 : Int32) v3 (passA [k2, k3] (0 : Int32) v2 (0 : Int32)))))])] 5 14 172 #[.val (.long x0), .second, .val (.long x1), .second, .val (.long x2), .second, .val (.int x3), .val (.ref b1), .val (.ref b2), .val (.ref b3), .val (.int v1), .val (.int v2), .val (.int v3), .val (.ref a4), .val (.ref a5), .val (.int r2), .val (.int v18), .val (.int r4), .val (.int v19), .unset, .unset, .unset, .unset] [(.int r4)]
      refine g_istore C 174 #[.val (.long x0), .second, .val (.long x1), .second, .val (.long x2), .second, .val (.int x3), .val (.ref b1), .val (.ref b2), .val (.ref b3), .val (.int v1), .val (.int v2), .val (.int v3), .val (.ref a4), .val (.ref a5), .val (.int r2), .val (.int v18), .val (.int r4), .val (.int v19), .val (.int r4), .unset, .unset, .unset] at_172 rfl rfl ?_
      refine g_aload C 176 at_174 rfl rfl rfl ?_
      refine g_virtual C 179 0 (i := 4) (argsL := []) (St := []) rfl (con_column l Z a0 C.2.2.1 h0 [(b1, IA Z .char (ints [k0, k1])), (b2, IA Z .char (ints [k2, k3])), (b3, IA Z .char (ints [k4, k5])), (a4, OB Z a0 "com/example/revalidate/revalidate/DocumentDecoder$Place" [("com/example/revalidate/revalidate/DocumentDecoder$Place", "line", "I", (.int r4)), ("com/example/revalidate/revalidate/DocumentDecoder$Place", "column", "I", (.int v19)), ("com/example/revalidate/revalidate/DocumentDecoder$Place", "xml11", "Z", (.int (1 : Int32))), ("com/example/revalidate/revalidate/DocumentDecoder$Place", "afterReturn", "Z", (.int (passA [k4, k5] (0 : Int32) v3 (passA [k2, k3] (0 : Int32) v2 (0 : Int32)))))]), (a5, OB Z a0 "com/example/revalidate/revalidate/DocumentDecoder$Place" [("com/example/revalidate/revalidate/DocumentDecoder$Place", "line", "I", (.int r4)), ("com/example/revalidate/revalidate/DocumentDecoder$Place", "column", "I", (.int v19)), ("com/example/revalidate/revalidate/DocumentDecoder$Place", "xml11", "Z", (.int (1 : Int32))), ("com/example/revalidate/revalidate/DocumentDecoder$Place", "afterReturn", "Z", (.int (passA [k4, k5] (0 : Int32) v3 (passA [k2, k3] (0 : Int32) v2 (0 : Int32)))))])] 4 a5 r4 v19 (1 : Int32) (passA [k4, k5] (0 : Int32) v3 (passA [k2, k3] (0 : Int32) v2 (0 : Int32))) rfl) (List.mem_of_getElem? (i := 41) rfl) (List.mem_of_getElem? (i := 42) rfl) (List.mem_of_getElem? (i := 44) rfl) (List.mem_of_getElem? (i := 43) rfl) (List.mem_of_getElem? (i := 11) rfl) (List.mem_of_getElem? (i := 45) rfl) (by decide) at_176 rfl rfl (lenOf (ps := []) (r := some .int) (by decide) rfl) rfl (Nat.le_of_eq rfl) (by decide) (by decide) (by decide) (by decide) ?_
      rintro _ _ ⟨rfl, rfl⟩
      show Go _ _ _ _ _ _ _ _ _ _ _ _ [(b1, IA Z .char (ints [k0, k1])), (b2, IA Z .char (ints [k2, k3])), (b3, IA Z .char (ints [k4, k5])), (a4, OB Z a0 "com/example/revalidate/revalidate/DocumentDecoder$Place" [("com/example/revalidate/revalidate/DocumentDecoder$Place", "line", "I", (.int r4)), ("com/example/revalidate/revalidate/DocumentDecoder$Place", "column", "I", (.int v19)), ("com/example/revalidate/revalidate/DocumentDecoder$Place", "xml11", "Z", (.int (1 : Int32))), ("com/example/revalidate/revalidate/DocumentDecoder$Place", "afterReturn", "Z", (.int (passA [k4, k5] (0 : Int32) v3 (passA [k2, k3] (0 : Int32) v2 (0 : Int32)))))]), (a5, OB Z a0 "com/example/revalidate/revalidate/DocumentDecoder$Place" [("com/example/revalidate/revalidate/DocumentDecoder$Place", "line", "I", (.int r4)), ("com/example/revalidate/revalidate/DocumentDecoder$Place", "column", "I", (.int v19)), ("com/example/revalidate/revalidate/DocumentDecoder$Place", "xml11", "Z", (.int (1 : Int32))), ("com/example/revalidate/revalidate/DocumentDecoder$Place", "afterReturn", "Z", (.int (passA [k4, k5] (0 : Int32) v3 (passA [k2, k3] (0 : Int32) v2 (0 : Int32)))))])] 5 14 179 #[.val (.long x0), .second, .val (.long x1), .second, .val (.long x2), .second, .val (.int x3), .val (.ref b1), .val (.ref b2), .val (.ref b3), .val (.int v1), .val (.int v2), .val (.int v3), .val (.ref a4), .val (.ref a5), .val (.int r2), .val (.int v18), .val (.int r4), .val (.int v19), .val (.int r4), .unset, .unset, .unset] [(.int v19)]
      refine g_istore C 181 #[.val (.long x0), .second, .val (.long x1), .second, .val (.long x2), .second, .val (.int x3), .val (.ref b1), .val (.ref b2), .val (.ref b3), .val (.int v1), .val (.int v2), .val (.int v3), .val (.ref a4), .val (.ref a5), .val (.int r2), .val (.int v18), .val (.int r4), .val (.int v19), .val (.int r4), .val (.int v19), .unset, .unset] at_179 rfl rfl ?_
      refine g_iload C 183 at_181 rfl rfl ?_
      refine g_iload C 185 at_183 rfl rfl ?_
      refine g_icN C 188 at_185 (teq (rfl : r4 = r4)).2 rfl ?_
      refine g_iload C 190 at_188 rfl rfl ?_
      refine g_iload C 192 at_190 rfl rfl ?_
      refine g_icN C 195 at_192 (teq (rfl : v19 = v19)).2 rfl ?_
      refine g_iconst C 196 (1 : Int32) at_195 rfl rfl ?_
      refine g_goto C 200 at_196 (by decide) (by decide) ?_
      refine g_istore C 202 #[.val (.long x0), .second, .val (.long x1), .second, .val (.long x2), .second, .val (.int x3), .val (.ref b1), .val (.ref b2), .val (.ref b3), .val (.int v1), .val (.int v2), .val (.int v3), .val (.ref a4), .val (.ref a5), .val (.int r2), .val (.int v18), .val (.int r4), .val (.int v19), .val (.int r4), .val (.int v19), .val (.int (1 : Int32)), .unset] at_200 rfl rfl ?_
      refine g_iload C 204 at_202 rfl rfl ?_
      by_cases c20 : v3 = (0 : Int32)
      · refine g_ifN C 207 at_204 (teq c20).2 rfl ?_
        refine g_iload C 209 at_207 rfl rfl ?_
        refine g_iload C 211 at_209 rfl rfl ?_
        refine g_icN C 214 at_211 (teq ((own_z c20 hP2).1.symm : r4 = r2)).2 rfl ?_
        refine g_iload C 216 at_214 rfl rfl ?_
        refine g_iload C 218 at_216 rfl rfl ?_
        refine g_icN C 221 at_218 (teq ((by rw [← hv19, c20, ← (own_z c20 hP2).2]; exact own_back _) : v19 = v18)).2 rfl ?_
        refine g_iconst C 222 (1 : Int32) at_221 rfl rfl ?_
        refine g_goto C 226 at_222 (by decide) (by decide) ?_
        refine g_istore C 228 #[.val (.long x0), .second, .val (.long x1), .second, .val (.long x2), .second, .val (.int x3), .val (.ref b1), .val (.ref b2), .val (.ref b3), .val (.int v1), .val (.int v2), .val (.int v3), .val (.ref a4), .val (.ref a5), .val (.int r2), .val (.int v18), .val (.int r4), .val (.int v19), .val (.int r4), .val (.int v19), .val (.int (1 : Int32)), .val (.int (1 : Int32))] at_226 rfl rfl ?_
        refine g_iload C 230 at_228 rfl rfl ?_
        refine g_ifN C 233 at_230 (feq ((by decide) : ¬ ((1 : Int32) = (0 : Int32)))).1 rfl ?_
        refine g_iload C 235 at_233 rfl rfl ?_
        refine g_ifN C 238 at_235 (feq ((by decide) : ¬ ((1 : Int32) = (0 : Int32)))).1 rfl ?_
        refine g_iconst C 239 (1 : Int32) at_238 rfl rfl ?_
        refine g_goto C 243 at_239 (by decide) (by decide) ?_
        exact g_nret C (by simp) (z' := (1 : Int32)) (by decide) at_243 (by decide) (by decide) rfl
      · refine g_ifY C 221 at_204 (feq c20).2 (by decide) (by decide) ?_
        refine g_iconst C 222 (1 : Int32) at_221 rfl rfl ?_
        refine g_goto C 226 at_222 (by decide) (by decide) ?_
        refine g_istore C 228 #[.val (.long x0), .second, .val (.long x1), .second, .val (.long x2), .second, .val (.int x3), .val (.ref b1), .val (.ref b2), .val (.ref b3), .val (.int v1), .val (.int v2), .val (.int v3), .val (.ref a4), .val (.ref a5), .val (.int r2), .val (.int v18), .val (.int r4), .val (.int v19), .val (.int r4), .val (.int v19), .val (.int (1 : Int32)), .val (.int (1 : Int32))] at_226 rfl rfl ?_
        refine g_iload C 230 at_228 rfl rfl ?_
        refine g_ifN C 233 at_230 (feq ((by decide) : ¬ ((1 : Int32) = (0 : Int32)))).1 rfl ?_
        refine g_iload C 235 at_233 rfl rfl ?_
        refine g_ifN C 238 at_235 (feq ((by decide) : ¬ ((1 : Int32) = (0 : Int32)))).1 rfl ?_
        refine g_iconst C 239 (1 : Int32) at_238 rfl rfl ?_
        refine g_goto C 243 at_239 (by decide) (by decide) ?_
        exact g_nret C (by simp) (z' := (1 : Int32)) (by decide) at_243 (by decide) (by decide) rfl
set_option maxRecDepth 65536 in
set_option maxHeartbeats 40000000 in
theorem comes_1 {Post : Tables → Env → Array Value → State → Outcome → State → Prop} (hpost : ∀ tb e args s v u, (limb_1_1.after args s (.returned v) u = true ∧ limb_1_2.after args s (.returned v) u = true ∧ True) → FrameEnd s (.returned v) u (Jvm.fieldLocs frame_1_writes args s ++ Jvm.arrayLocs frame_1_arrays args s ++ Jvm.staticLocs frame_1_statics s) 24 128 → Post tb e args s (.returned v) u) :
    ArmFor flags0 classFile x code maxLocals ret World_1 tables_1 room_1 Calls_1 rest_1 Pre_1 Post := by
  intro l hfl _ _ p e ha hc hk s m args below hf hA hF happ hP
  obtain ⟨hcalls, hrest, hpre⟩ := hP
  obtain ⟨-, -, -, hnamed, -, -, -, hat⟩ := (Spec.applies_iff hf).mp happ
  obtain ⟨hg, hn⟩ := and_e (Cond.before_iff.mp (show (Jvm.Cond.and given_1 narrow_1).before args s = true from hpre))
  obtain ⟨hcount, hg0⟩ := and_e hg
  obtain ⟨gi0, hg1⟩ := and_e hg0
  obtain ⟨gi1, hg2⟩ := and_e hg1
  obtain ⟨gi2, hg3⟩ := and_e hg2
  have gi3 := hg3
  obtain ⟨w0, w1, w2, w3, rfl⟩ : ∃ w0 w1 w2 w3 : Value, args = #[w0, w1, w2, w3] := by
    have hs : args.size = 4 := by simpa [Cond.value, given_1] using hcount
    obtain ⟨L⟩ := args
    match L, hs with
    | [w0, w1, w2, w3], _ => exact ⟨w0, w1, w2, w3, rfl⟩
  have hw := fun d (hd : d ∈ tables_1) => atoms_spec (ws := Jvm.Cond.code x code maxLocals ret :: tables_1) hat d (List.mem_cons_of_mem _ hd)
  have hfit : Fit s := fun {y c} hc i hi => by
    obtain ⟨ha, rfl⟩ := Array.getElem?_eq_some_iff.mp hc
    have q := List.all_eq_true.mp ((Array.all_eq_true_iff_forall_mem.mp hF) _ (Array.getElem_mem ha)) i (List.mem_range.mpr hi)
    simpa [Array.getElem?_eq_getElem hi] using q
  obtain ⟨i0, ei0⟩ := isL_v gi0
  obtain rfl : w0 = (.long i0) := Option.some.inj ei0
  obtain ⟨i1, ei1⟩ := isL_v gi1
  obtain rfl : w1 = (.long i1) := Option.some.inj ei1
  obtain ⟨i2, ei2⟩ := isL_v gi2
  obtain rfl : w2 = (.long i2) := Option.some.inj ei2
  obtain ⟨i3, ei3⟩ := is_v gi3
  obtain rfl : w3 = (.int i3) := Option.some.inj ei3
  obtain ⟨n, o, h1, h2, h3, _, L, rfl, ⟨ds', rfl, -, N⟩, hq⟩ := con_law l s _ hw s.heap i0 i1 i2 i3 s.heap (Wld.nil _) tables_1 p e ha hc hk s m _ below hf ((Spec.applies_iff_loose hf).mp happ).1 ⟨rfl, State.Warmed39.refl s, rfl⟩ trivial
  refine ⟨n, _, h1, h2, h3, hpost _ _ _ _ _ _ ⟨Cond.after_iff.mpr rfl, Cond.after_iff.mpr (eq_i res_at (Term.int_eval (1)) rfl), trivial⟩ ⟨hq.1, hq.2.1, (hq.2.2.sift fun y hy => Or.inr (N y hy)).mono (by decide) (by decide)⟩⟩
theorem main_1_1 : Claimed_1_1 := comes_1 fun _ _ _ _ _ _ h hF => ⟨h.1, hF⟩
theorem main_1_2 : Claimed_1_2 := comes_1 fun _ _ _ _ _ _ h hF => ⟨h.2.1, hF⟩
end Jvm.Pilot.@@N@@
namespace Jvm.Pilot.@@N@@
open Jvm Jvm.ClassFile Sem Op Lib Jvm.Free Jvm.Stand Jvm.Pilot.@@N@@.Jvm.D
/-! MADE BY PROGRAM (witnessworld.py) out of the Statement's table words and the real class files: 11 classes; the members and pool entries that the words name. The judged class is class 1, her method 3. -/
namespace start1
open Jvm.ClassFile
def u (s : String) : CpInfo := .utf8 (stringToUtf16 s)
/-- a pool by its gaps: so many unusable entries, then the entry; so many at the end -/
def gap : Nat → List CpInfo → List CpInfo
  | 0, r => r
  | n + 1, r => .unusable :: gap n r
def poolList (es : List (Nat × CpInfo)) (last : Nat) : List CpInfo := es.foldr (fun e r => gap e.1 (e.2 :: r)) (gap last [])
def pool (es : List (Nat × CpInfo)) (last : Nat) : Array CpInfo := ⟨poolList es last⟩
def fileOf (pool : Array CpInfo) (this : Nat) (attrs : Array Attribute := #[]) (ms : Array MethodInfo := #[]) (fl : Nat := 33) (sup : Nat := 0) (ifs : Array Nat := #[]) (fds : Array FieldInfo := #[]) : ClassFile where
  minorVersion := 0
  majorVersion := 65
  constantPool := pool
  accessFlags := fl
  thisClass := this
  superClass := sup
  interfaces := ifs
  fields := fds
  methods := ms
  attributes := attrs
def plain (name : String) (sup : Option ClassId) : Class where
  name := name
  kind := .ordinary
  loader := none
  accessFlags := 33
  super := sup
  interfaces := #[]
  cf := none
  fields := #[]
  methods := #[]
  instanceTypes := #[]
  staticTypes := #[]
  resolved := #[]
  callSites := []
  init := .initialized
  statics := none
  mirror := none

def pool0 : Array CpInfo := pool [(5, u "<init>"), (0, u "()V"), (1, .class_ 10), (1, u "java/lang/Object")] 113

def k0c0 : Code := { maxStack := 0, maxLocals := 1, code := object_method_1_code, exceptionTable := #[], attributes := #[] }
def k0m0 : Method := { name := "<init>", desc := "()V", sig := { parameters := [], returnType := none }, accessFlags := 1, code := some k0c0 }
/-- java/lang/Object -/
def k0 : Class := { plain "java/lang/Object" none with
  accessFlags := 33
  interfaces := #[]
  cf := some (fileOf pool0 8 #[] #[{ accessFlags := 1, nameIndex := 5, descriptorIndex := 6, attributes := #[] }] 33 0 #[] #[])
  fields := #[]
  methods := #[k0m0]
  instanceTypes := #[]
  staticTypes := #[]
  resolved := Array.replicate 124 none
  statics := none }

def pool1 : Array CpInfo := pool [(2, .class_ 4), (0, .nameAndType 5 6), (0, u "java/lang/Object"), (0, u "<init>"), (0, u "()V"), (0, .integer 65535), (0, .methodref 9 10), (0, .class_ 11), (0, .nameAndType 12 13), (0, u "com/example/revalidate/revalidate/PlaceMoveToPinLaw"), (0, u "ch"), (0, u "(I)C"), (0, .methodref 9 15), (0, .nameAndType 16 17), (0, u "text"), (0, u "(J)[C"), (0, .class_ 19), (0, u "com/example/revalidate/revalidate/DocumentDecoder$Place"), (0, .methodref 18 3), (0, .methodref 18 22), (0, .nameAndType 23 6), (0, u "endLinesAsXml11"), (0, .methodref 18 25), (0, .nameAndType 26 27), (0, u "pass"), (0, u "([CII)V"), (0, .methodref 18 29), (0, .nameAndType 30 31), (0, u "line"), (0, u "()I"), (0, .methodref 18 33), (0, .nameAndType 34 31), (0, u "column"), (0, .methodref 18 36), (0, .nameAndType 37 38), (0, u "moveTo"), (0, u "(Lcom/example/revalidate/revalidate/DocumentDecoder$Place;)V"), (3, u "law"), (0, u "(JJJI)Z")] 8

def k1m0 : Method := { name := "<init>", desc := "()V", sig := { parameters := [], returnType := none }, accessFlags := 1, code := none }
def k1c1 : Code := { maxStack := 2, maxLocals := 2, code := method_2_code, exceptionTable := #[], attributes := #[] }
def k1m1 : Method := { name := "ch", desc := "(I)C", sig := { parameters := [.int], returnType := some .char }, accessFlags := 10, code := some k1c1 }
def k1c2 : Code := { maxStack := 5, maxLocals := 3, code := method_3_code, exceptionTable := #[], attributes := #[] }
def k1m2 : Method := { name := "text", desc := "(J)[C", sig := { parameters := [.long], returnType := some (.array .char) }, accessFlags := 10, code := some k1c2 }
def k1c3 : Code := { maxStack := 4, maxLocals := 23, code := code, exceptionTable := #[], attributes := #[] }
def k1m3 : Method := { name := "law", desc := "(JJJI)Z", sig := { parameters := [.long, .long, .long, .int], returnType := some .boolean }, accessFlags := 9, code := some k1c3 }
/-- com/example/revalidate/revalidate/PlaceMoveToPinLaw -/
def k1 : Class := { plain "com/example/revalidate/revalidate/PlaceMoveToPinLaw" (some 0) with
  accessFlags := 49
  interfaces := #[]
  cf := some (fileOf pool1 9 #[] #[{ accessFlags := 1, nameIndex := 5, descriptorIndex := 6, attributes := #[] }, { accessFlags := 10, nameIndex := 12, descriptorIndex := 13, attributes := #[] }, { accessFlags := 10, nameIndex := 16, descriptorIndex := 17, attributes := #[] }, { accessFlags := 9, nameIndex := 42, descriptorIndex := 43, attributes := #[] }] 49 2 #[] #[])
  fields := #[]
  methods := #[k1m0, k1m1, k1m2, k1m3]
  instanceTypes := #[]
  staticTypes := #[]
  resolved := Array.replicate 52 none
  statics := none }

def pool2 : Array CpInfo := pool [(1, .methodref 2 3), (0, .class_ 4), (0, .nameAndType 5 6), (0, u "java/lang/Object"), (0, u "<init>"), (0, u "()V"), (0, .fieldref 8 9), (0, .class_ 10), (0, .nameAndType 11 12), (0, u "com/example/revalidate/revalidate/DocumentDecoder$Place"), (0, u "line"), (0, u "I"), (0, .fieldref 8 14), (0, .nameAndType 15 12), (0, u "column"), (0, .fieldref 8 17), (0, .nameAndType 18 19), (0, u "xml11"), (0, u "Z"), (0, .fieldref 8 21), (0, .nameAndType 22 19), (0, u "afterReturn"), (2, u "pass"), (0, u "([CII)V"), (3, u "endLinesAsXml11"), (0, u "moveTo"), (0, u "(Lcom/example/revalidate/revalidate/DocumentDecoder$Place;)V"), (0, u "()I"), (3, .class_ 38), (0, u "com/example/revalidate/revalidate/DocumentDecoder")] 2

def k2c0 : Code := { maxStack := 2, maxLocals := 1, code := prog_5_method_1_code, exceptionTable := #[], attributes := #[] }
def k2m0 : Method := { name := "<init>", desc := "()V", sig := { parameters := [], returnType := none }, accessFlags := 0, code := some k2c0 }
def k2c1 : Code := { maxStack := 4, maxLocals := 10, code := prog_5_method_2_code, exceptionTable := #[], attributes := #[] }
def k2m1 : Method := { name := "pass", desc := "([CII)V", sig := { parameters := [(.array .char), .int, .int], returnType := none }, accessFlags := 0, code := some k2c1 }
def k2c2 : Code := { maxStack := 2, maxLocals := 1, code := prog_5_method_3_code, exceptionTable := #[], attributes := #[] }
def k2m2 : Method := { name := "endLinesAsXml11", desc := "()V", sig := { parameters := [], returnType := none }, accessFlags := 0, code := some k2c2 }
def k2c3 : Code := { maxStack := 2, maxLocals := 2, code := prog_5_method_4_code, exceptionTable := #[], attributes := #[] }
def k2m3 : Method := { name := "moveTo", desc := "(Lcom/example/revalidate/revalidate/DocumentDecoder$Place;)V", sig := { parameters := [(.object "com/example/revalidate/revalidate/DocumentDecoder$Place")], returnType := none }, accessFlags := 0, code := some k2c3 }
def k2c4 : Code := { maxStack := 1, maxLocals := 1, code := prog_5_method_5_code, exceptionTable := #[], attributes := #[] }
def k2m4 : Method := { name := "line", desc := "()I", sig := { parameters := [], returnType := some .int }, accessFlags := 0, code := some k2c4 }
def k2c5 : Code := { maxStack := 1, maxLocals := 1, code := prog_5_method_6_code, exceptionTable := #[], attributes := #[] }
def k2m5 : Method := { name := "column", desc := "()I", sig := { parameters := [], returnType := some .int }, accessFlags := 0, code := some k2c5 }
/-- com/example/revalidate/revalidate/DocumentDecoder$Place -/
def k2 : Class := { plain "com/example/revalidate/revalidate/DocumentDecoder$Place" (some 0) with
  accessFlags := 48
  interfaces := #[]
  cf := some (fileOf pool2 8 #[.nestHost 37] #[{ accessFlags := 0, nameIndex := 5, descriptorIndex := 6, attributes := #[] }, { accessFlags := 0, nameIndex := 25, descriptorIndex := 26, attributes := #[] }, { accessFlags := 0, nameIndex := 30, descriptorIndex := 6, attributes := #[] }, { accessFlags := 0, nameIndex := 31, descriptorIndex := 32, attributes := #[] }, { accessFlags := 0, nameIndex := 11, descriptorIndex := 33, attributes := #[] }, { accessFlags := 0, nameIndex := 15, descriptorIndex := 33, attributes := #[] }] 48 2 #[] #[{ accessFlags := 2, nameIndex := 11, descriptorIndex := 12, attributes := #[] }, { accessFlags := 2, nameIndex := 15, descriptorIndex := 12, attributes := #[] }, { accessFlags := 2, nameIndex := 22, descriptorIndex := 19, attributes := #[] }, { accessFlags := 2, nameIndex := 18, descriptorIndex := 19, attributes := #[] }])
  fields := #[{ name := "line", type := .int, accessFlags := 2, slot := 0, constantValue := 0 }, { name := "column", type := .int, accessFlags := 2, slot := 1, constantValue := 0 }, { name := "afterReturn", type := .boolean, accessFlags := 2, slot := 2, constantValue := 0 }, { name := "xml11", type := .boolean, accessFlags := 2, slot := 3, constantValue := 0 }]
  methods := #[k2m0, k2m1, k2m2, k2m3, k2m4, k2m5]
  instanceTypes := #[.int, .int, .boolean, .boolean]
  staticTypes := #[]
  resolved := Array.replicate 41 none
  statics := none }

def pool3 : Array CpInfo := pool [(1, u "java/lang/Cloneable"), (0, .class_ 1), (0, u "java/lang/Object"), (0, .class_ 3)] 3

/-- java/lang/Cloneable -/
def k3 : Class := { plain "java/lang/Cloneable" (some 0) with
  accessFlags := 1537
  interfaces := #[]
  cf := some (fileOf pool3 2 #[] #[] 1537 4 #[] #[])
  fields := #[]
  methods := #[]
  instanceTypes := #[]
  staticTypes := #[]
  resolved := Array.replicate 8 none
  statics := none }

def pool4 : Array CpInfo := pool [(1, u "java/io/Serializable"), (0, .class_ 1), (0, u "java/lang/Object"), (0, .class_ 3)] 3

/-- java/io/Serializable -/
def k4 : Class := { plain "java/io/Serializable" (some 0) with
  accessFlags := 1537
  interfaces := #[]
  cf := some (fileOf pool4 2 #[] #[] 1537 4 #[] #[])
  fields := #[]
  methods := #[]
  instanceTypes := #[]
  staticTypes := #[]
  resolved := Array.replicate 8 none
  statics := none }

/-- the primitive byte -/
def k5 : Class := { plain "byte" none with kind := .primitive 'B', accessFlags := 0x411 }
/-- [B -/
def k6 : Class := { plain "[B" (some 0) with kind := .array 5 .byte, interfaces := #[3, 4], accessFlags := 1041 }

/-- the primitive char -/
def k7 : Class := { plain "char" none with kind := .primitive 'C', accessFlags := 0x411 }
/-- [C -/
def k8 : Class := { plain "[C" (some 0) with kind := .array 7 .char, interfaces := #[3, 4], accessFlags := 1041 }

/-- the primitive int -/
def k9 : Class := { plain "int" none with kind := .primitive 'I', accessFlags := 0x411 }
/-- [I -/
def k10 : Class := { plain "[I" (some 0) with kind := .array 9 .int, interfaces := #[3, 4], accessFlags := 1041 }

def heap : Heap := #[]
def classes : Array Class := #[k0, k1, k2, k3, k4, k5, k6, k7, k8, k9, k10]
def interned : List (Array UInt16 × Addr) := []
def slotsUsed : Nat := 0
def theMethod : MethodId := ⟨1, 3⟩
def args0 : Array Value := #[.long 1, .long 2, .long 3, .int 4]
def aboutOver (below : List Frame) : State where
  vm := { classes := classes, interned := interned.toArray }
  heap := heap
  slotsUsed := slotsUsed
  threads := #[{ frames := .invoking theMethod args0 :: below }]
def below0 : List Frame := [.native { method := ⟨0, 0⟩, args := #[] }]
def about1 : State := aboutOver below0
def p0 : Program := .bare "" "" ""
def e0 : Env := launch0.env 0 0 0
theorem w_frames : about1.frames = Frame.invoking theMethod args0 :: below0 := rfl
set_option maxRecDepth 65536 in
theorem w_args : argsFit about1.vm theMethod args0 = true := by decide +kernel
set_option maxRecDepth 65536 in
theorem w_heap : heapFits about1 = true := by decide +kernel
set_option maxRecDepth 65536 in
theorem w_runnable : about1.curStatus? = some .runnable := by decide +kernel
set_option maxRecDepth 65536 in
theorem w_alone : about1.alone = true := by decide +kernel
set_option maxRecDepth 65536 in
theorem w_named : about1.methodNamed? x = some theMethod := by decide +kernel
set_option maxRecDepth 65536 in
theorem w_hears : about1.hears theMethod below0 = true := by decide +kernel
set_option maxRecDepth 65536 in
theorem w_ripe : about1.ripe theMethod args0 below0 = true := by decide +kernel
theorem w_running : about1.status = .running := rfl
set_option maxRecDepth 65536 in
theorem w_room : about1.hasRoom e0.platform room_1 = true :=
  launch0.hasRoom_least _ room_1 (by decide +kernel) (by decide +kernel) (by decide +kernel) (by decide +kernel) (by decide +kernel) (by decide +kernel)
theorem allAtoms_all (ts : List Jvm.Cond) (a : Array Jvm.Value) (st : Jvm.State) : (allAtoms ts).before a st = ts.all (fun c => c.before a st) := by
  induction ts with
  | nil => rfl
  | cons c t ih =>
    show (Jvm.Cond.and c (allAtoms t)).before a st = _
    rw [Jvm.Cond.before_and, ih, List.all_cons]
def words1 : List Jvm.Cond := Jvm.Cond.code x code maxLocals ret :: tables_1
/-- a 'code' word, met by the world's own term for the bytes: nothing is compared byte by byte -/
theorem code_word {y : MethodName} {bytes : ByteArray} {mx : Nat} {rt : Option FieldType} {a : Array Value} {s : State} {m : MethodId} {meth : Method} {c : Code} (h1 : s.methodNamed? y = some m) (h2 : s.vm.method? m = some meth) (h3 : meth.code = some c) (h4 : c.code = bytes)
    (h5 : (c.maxLocals == mx && c.exceptionTable.isEmpty && decide (c.maxStack ≤ mostOperands) && decide (meth.sig.returnType = rt) && !meth.locks && decide (parseMethodDescriptor y.desc = some meth.sig)) = true) : (Jvm.Cond.code y bytes mx rt).before a s = true := by
  simp only [Bool.and_eq_true, beq_iff_eq, Bool.not_eq_true', decide_eq_true_eq] at h5
  obtain ⟨⟨⟨⟨⟨g1, g2⟩, g3⟩, g4⟩, g5⟩, g6⟩ := h5
  simp [Cond.before, Cond.holds, Cond.value, h1, h2, h3, h4, g1, g2, g3, g4, g5, g6]
def isCode : Jvm.Cond → Bool
  | .code _ _ _ _ => true
  | _ => false
theorem all_split {L : List Jvm.Cond} {P : Jvm.Cond → Bool} (h1 : L.all (fun c => isCode c || P c) = true) (h2 : ∀ c ∈ L.filter isCode, P c = true) : L.all P = true := by
  refine List.all_eq_true.mpr fun c hc => ?_
  have h := List.all_eq_true.mp h1 c hc
  rcases Bool.eq_false_or_eq_true (isCode c) with hi | hi
  · exact h2 c (List.mem_filter.mpr ⟨hc, hi⟩)
  · simpa [hi] using h
set_option maxRecDepth 65536 in
theorem w_c0 : (Jvm.Cond.code x code maxLocals ret).before args0 about1 = true := code_word (m := ⟨1, 3⟩) (meth := k1m3) (c := k1c3) (by decide +kernel) rfl rfl rfl (by decide +kernel)
set_option maxRecDepth 65536 in
theorem w_c1 : (Jvm.Cond.code ({ cls := "com/example/revalidate/revalidate/PlaceMoveToPinLaw", name := "text", desc := "(J)[C" } : Jvm.MethodName) method_3_code (3 : Nat) (Option.some (Jvm.ClassFile.FieldType.array Jvm.ClassFile.FieldType.char))).before args0 about1 = true := code_word (m := ⟨1, 2⟩) (meth := k1m2) (c := k1c2) (by decide +kernel) rfl rfl rfl (by decide +kernel)
set_option maxRecDepth 65536 in
theorem w_c2 : (Jvm.Cond.code ({ cls := "com/example/revalidate/revalidate/PlaceMoveToPinLaw", name := "ch", desc := "(I)C" } : Jvm.MethodName) method_2_code (2 : Nat) (Option.some Jvm.ClassFile.FieldType.char)).before args0 about1 = true := code_word (m := ⟨1, 1⟩) (meth := k1m1) (c := k1c1) (by decide +kernel) rfl rfl rfl (by decide +kernel)
set_option maxRecDepth 65536 in
theorem w_c3 : (Jvm.Cond.code ({ cls := "com/example/revalidate/revalidate/DocumentDecoder$Place", name := "<init>", desc := "()V" } : Jvm.MethodName) prog_5_method_1_code (1 : Nat) (Option.none : Option Jvm.ClassFile.FieldType)).before args0 about1 = true := code_word (m := ⟨2, 0⟩) (meth := k2m0) (c := k2c0) (by decide +kernel) rfl rfl rfl (by decide +kernel)
set_option maxRecDepth 65536 in
theorem w_c4 : (Jvm.Cond.code ({ cls := "java/lang/Object", name := "<init>", desc := "()V" } : Jvm.MethodName) object_method_1_code (1 : Nat) (Option.none : Option Jvm.ClassFile.FieldType)).before args0 about1 = true := code_word (m := ⟨0, 0⟩) (meth := k0m0) (c := k0c0) (by decide +kernel) rfl rfl rfl (by decide +kernel)
set_option maxRecDepth 65536 in
theorem w_c5 : (Jvm.Cond.code ({ cls := "com/example/revalidate/revalidate/DocumentDecoder$Place", name := "endLinesAsXml11", desc := "()V" } : Jvm.MethodName) prog_5_method_3_code (1 : Nat) (Option.none : Option Jvm.ClassFile.FieldType)).before args0 about1 = true := code_word (m := ⟨2, 2⟩) (meth := k2m2) (c := k2c2) (by decide +kernel) rfl rfl rfl (by decide +kernel)
set_option maxRecDepth 65536 in
theorem w_c6 : (Jvm.Cond.code ({ cls := "com/example/revalidate/revalidate/DocumentDecoder$Place", name := "pass", desc := "([CII)V" } : Jvm.MethodName) prog_5_method_2_code (10 : Nat) (Option.none : Option Jvm.ClassFile.FieldType)).before args0 about1 = true := code_word (m := ⟨2, 1⟩) (meth := k2m1) (c := k2c1) (by decide +kernel) rfl rfl rfl (by decide +kernel)
set_option maxRecDepth 65536 in
theorem w_c7 : (Jvm.Cond.code ({ cls := "com/example/revalidate/revalidate/DocumentDecoder$Place", name := "line", desc := "()I" } : Jvm.MethodName) prog_5_method_5_code (1 : Nat) (Option.some Jvm.ClassFile.FieldType.int)).before args0 about1 = true := code_word (m := ⟨2, 4⟩) (meth := k2m4) (c := k2c4) (by decide +kernel) rfl rfl rfl (by decide +kernel)
set_option maxRecDepth 65536 in
theorem w_c8 : (Jvm.Cond.code ({ cls := "com/example/revalidate/revalidate/DocumentDecoder$Place", name := "column", desc := "()I" } : Jvm.MethodName) prog_5_method_6_code (1 : Nat) (Option.some Jvm.ClassFile.FieldType.int)).before args0 about1 = true := code_word (m := ⟨2, 5⟩) (meth := k2m5) (c := k2c5) (by decide +kernel) rfl rfl rfl (by decide +kernel)
set_option maxRecDepth 65536 in
theorem w_c9 : (Jvm.Cond.code ({ cls := "com/example/revalidate/revalidate/DocumentDecoder$Place", name := "moveTo", desc := "(Lcom/example/revalidate/revalidate/DocumentDecoder$Place;)V" } : Jvm.MethodName) prog_5_method_4_code (2 : Nat) (Option.none : Option Jvm.ClassFile.FieldType)).before args0 about1 = true := code_word (m := ⟨2, 3⟩) (meth := k2m3) (c := k2c3) (by decide +kernel) rfl rfl rfl (by decide +kernel)
def codes1 : List Jvm.Cond := [Jvm.Cond.code x code maxLocals ret, Jvm.Cond.code ({ cls := "com/example/revalidate/revalidate/PlaceMoveToPinLaw", name := "text", desc := "(J)[C" } : Jvm.MethodName) method_3_code (3 : Nat) (Option.some (Jvm.ClassFile.FieldType.array Jvm.ClassFile.FieldType.char)), Jvm.Cond.code ({ cls := "com/example/revalidate/revalidate/PlaceMoveToPinLaw", name := "ch", desc := "(I)C" } : Jvm.MethodName) method_2_code (2 : Nat) (Option.some Jvm.ClassFile.FieldType.char), Jvm.Cond.code ({ cls := "com/example/revalidate/revalidate/DocumentDecoder$Place", name := "<init>", desc := "()V" } : Jvm.MethodName) prog_5_method_1_code (1 : Nat) (Option.none : Option Jvm.ClassFile.FieldType), Jvm.Cond.code ({ cls := "java/lang/Object", name := "<init>", desc := "()V" } : Jvm.MethodName) object_method_1_code (1 : Nat) (Option.none : Option Jvm.ClassFile.FieldType), Jvm.Cond.code ({ cls := "com/example/revalidate/revalidate/DocumentDecoder$Place", name := "endLinesAsXml11", desc := "()V" } : Jvm.MethodName) prog_5_method_3_code (1 : Nat) (Option.none : Option Jvm.ClassFile.FieldType), Jvm.Cond.code ({ cls := "com/example/revalidate/revalidate/DocumentDecoder$Place", name := "pass", desc := "([CII)V" } : Jvm.MethodName) prog_5_method_2_code (10 : Nat) (Option.none : Option Jvm.ClassFile.FieldType), Jvm.Cond.code ({ cls := "com/example/revalidate/revalidate/DocumentDecoder$Place", name := "line", desc := "()I" } : Jvm.MethodName) prog_5_method_5_code (1 : Nat) (Option.some Jvm.ClassFile.FieldType.int), Jvm.Cond.code ({ cls := "com/example/revalidate/revalidate/DocumentDecoder$Place", name := "column", desc := "()I" } : Jvm.MethodName) prog_5_method_6_code (1 : Nat) (Option.some Jvm.ClassFile.FieldType.int), Jvm.Cond.code ({ cls := "com/example/revalidate/revalidate/DocumentDecoder$Place", name := "moveTo", desc := "(Lcom/example/revalidate/revalidate/DocumentDecoder$Place;)V" } : Jvm.MethodName) prog_5_method_4_code (2 : Nat) (Option.none : Option Jvm.ClassFile.FieldType)]
set_option maxRecDepth 65536 in
theorem codes_eq : words1.filter isCode = codes1 := rfl
theorem w_codes : ∀ c ∈ words1.filter isCode, c.before args0 about1 = true := by
  rw [codes_eq]
  intro c hc
  simp only [codes1, List.mem_cons, List.not_mem_nil, or_false] at hc
  rcases hc with rfl | rfl | rfl | rfl | rfl | rfl | rfl | rfl | rfl | rfl
  · exact w_c0
  · exact w_c1
  · exact w_c2
  · exact w_c3
  · exact w_c4
  · exact w_c5
  · exact w_c6
  · exact w_c7
  · exact w_c8
  · exact w_c9
set_option maxRecDepth 65536 in
theorem w_t1 : (words1.take 24).all (fun c => isCode c || c.before args0 about1) = true := by decide +kernel
set_option maxRecDepth 65536 in
theorem w_t2 : ((words1.drop 24).take 24).all (fun c => isCode c || c.before args0 about1) = true := by decide +kernel
set_option maxRecDepth 65536 in
theorem w_t3 : ((words1.drop 24).drop 24).all (fun c => isCode c || c.before args0 about1) = true := by decide +kernel
theorem w_tables : (allAtoms (Jvm.Cond.code x code maxLocals ret :: tables_1)).before args0 about1 = true := by
  rw [allAtoms_all]
  show words1.all (fun c => c.before args0 about1) = true
  refine all_split ?_ w_codes
  rw [← List.take_append_drop 24 words1, List.all_append, w_t1, ← List.take_append_drop 24 (words1.drop 24), List.all_append, w_t2, w_t3]
  rfl
set_option maxRecDepth 65536 in
theorem w_case : (Jvm.Cond.and given_1 narrow_1).before args0 about1 = true := by decide +kernel
theorem w_applies : (headSpec (Jvm.Cond.code x code maxLocals ret :: tables_1) room_1).applies x e0.platform about1 = true :=
  (Spec.applies_iff w_frames).mpr ⟨w_running, w_runnable, w_alone, w_named, w_hears, w_ripe, w_room, w_tables⟩
theorem atStart : AtStart classFile x code maxLocals ret World_1 tables_1 room_1 Calls_1 rest_1 Pre_1 launch0 p0 e0 about1 theMethod args0 below0 :=
  ⟨lists_1, trivial, launch0.admits_env _ _ _, launch0.least_env, fairChoices_fair.cas, fairChoices_fair.clock, w_frames, w_args, w_heap, w_applies, trivial, trivial, w_case⟩
end start1
theorem witness_1 : WitnessClaimed_1 := ⟨start1.p0, start1.e0, start1.about1, start1.theMethod, start1.args0, start1.below0, start1.atStart⟩
end Jvm.Pilot.@@N@@
