import JvmDerived
import JvmDerived.Pilot.@@N@@Statement
import JvmDerived.Pilot.@@N@@Code
set_option linter.unusedVariables false
set_option linter.unusedSimpArgs false
namespace Jvm.Pilot.@@N@@
open Jvm Jvm.ClassFile Sem Op Lib Jvm.Free Jvm.Stand Jvm.LawKit Jvm.RoadKit Bundle Jvm.Pilot.@@N@@.Jvm.D
/-! own walk layer: a world of fresh cells, and one lemma per instruction in continuation form -/
abbrev Desc : Type := Cell → Prop
abbrev Wd : Type := List (Addr × Desc)
/-- the heap h holds h0 unchanged and, besides, the described cells (all of them younger than h0) -/
def Wld (h0 : Heap) (ds : Wd) (h : Heap) : Prop :=
  h0.size ≤ h.size ∧ (∀ (a : Addr) (c : Cell), h0[a]? = some c → h[a]? = some c) ∧ (ds.map Prod.fst).Nodup ∧ ∀ (i : Nat) (a : Addr) (d : Desc), ds[i]? = some (a, d) → h0.size ≤ a ∧ ∃ c : Cell, h[a]? = some c ∧ d c
def Ends (tb : Tables) (e : Env) (below : List Frame) (A : State) (G : Outcome → State → Prop) : Prop := ∃ t o, Steps tb e below A t ∧ t.status = .running ∧ Ended t below o ∧ G o t
/-- the fixed surroundings of a walk -/
def Cx (p : Program) (s : State) (m : MethodId) (meth : Method) (c : Code) (Z : State) (a0 : Array Value) (own : String) (bytes : ByteArray) (ml : Nat) (rt : Option FieldType) (nm : String) : Prop :=
  p.tables.exec = Jvm.exec ∧ Z.Warmed39 s.vm ∧ (∀ d ∈ tables_1, d.before a0 Z = true) ∧ c.code = bytes ∧ c.maxLocals = ml ∧ s.vm.findClass own = some m.cls ∧ meth.sig.returnType = rt ∧ meth.locks = false ∧ meth.name = nm
/-- from pc with these locals and this stack the body comes back, and Q holds of what it returns and of the world that it leaves -/
def Go (p : Program) (l : Launch) (e : Env) (R : Room) (s : State) (m : MethodId) (args : Array Value) (below : List Frame) (meth : Method) (c : Code) (h0 : Heap) (Q : Option Value → Wd → Prop) (ds : Wd) (k n pc : Nat) (Ls : Array Slot) (St : List Value) : Prop :=
  ∀ T locs, Stand p l e R s m args below meth c T locs k n → Wld h0 ds T.heap → Fr h0.size locs →
    Ends p.tables e below (T.setTop (mkF m pc Ls St)) (fun o t => ∃ v L, o = .returned v ∧ (∃ ds', Q v ds' ∧ Wld h0 ds' t.heap ∧ Fr h0.size L) ∧ FrameEnd s o t L R.cells R.slots)
/-- a body's contract -/
def Con (l : Launch) (Z : State) (y : MethodName) (bytes : ByteArray) (ml : Nat) (rt : Option FieldType) (rm : Room) (h0 : Heap) (as' : Array Value) (ds : Wd) (Q : Option Value → Wd → Prop) : Prop :=
  ∀ h, Wld h0 ds h → ∀ ws, MetFree l y (head1 (Jvm.Cond.code y bytes ml rt :: ws) rm) (fun a U => a = as' ∧ Z.Warmed39 U.vm ∧ U.heap = h) (fun _ _ _ _ _ => True)
    (fun _ U o U' => ∃ v L, o = .returned v ∧ (∃ ds', Q v ds' ∧ Wld h0 ds' U'.heap ∧ Fr h0.size L) ∧ FrameEnd U o U' L rm.cells rm.slots)
/-- an array's cell -/
def IA (Z : State) (ty : FieldType) (vs : List Value) : Desc := fun c => Z.isArrayOf c ty ∧ c.vm ≠ .unknown ∧ c.slots.toList = vs
abbrev ints (xs : List Int32) : List Value := xs.map Value.int
/-- a field: the class that declares it, name, descriptor, value -/
abbrev Fv : Type := String × String × String × Value
def fldC (Z : State) (c : Cell) (x : Fv) : Prop := ∃ (cf : ClassId) (k : Class) (i : Nat) (f : Field), Z.fieldFound? x.1 x.2.1 x.2.2.1 = some (cf, k, i, f) ∧ f.isStatic = false ∧ c.vm ≠ .unknown ∧ c.vm.isStatics = false ∧ Z.vm.assignable c.cls cf = true ∧ c.slots[f.slot]? = some x.2.2.2
def OB (Z : State) (a0 : Array Value) (C : String) (fs : List Fv) : Desc := fun c =>
  (∃ k : Class, Z.vm.findClass C = some c.cls ∧ Z.vm.classes[c.cls]? = some k ∧ c.vm.isStatics = false ∧ (k.kind = .ordinary → c.slots.size = k.instanceTypes.size)) ∧
  (∀ x ∈ fs, fldC Z c x ∧ Laid Z a0 C x.1 x.2.1 x.2.2.1 ∧ ∃ t, parseFieldDescriptor x.2.2.1 = some t)
section Own
variable {p : Program} {l : Launch} {e : Env} {R : Room} {s : State} {m : MethodId} {args : Array Value} {below : List Frame} {meth : Method} {c : Code} {Z : State} {a0 : Array Value} {h0 h h' : Heap} {Q : Option Value → Wd → Prop} {ds ds' : Wd} {k n pc : Nat} {Ls Ls' : Array Slot} {St : List Value} {own : String} {bytes : ByteArray} {ml : Nat} {rt : Option FieldType} {nm : String}
theorem Ends.pre {tb : Tables} {A B : State} {G : Outcome → State → Prop} (H : ∀ t, Steps tb e below B t → Steps tb e below A t) (K : Ends tb e below B G) : Ends tb e below A G := by
  obtain ⟨t, o, h1, h2⟩ := K; exact ⟨t, o, H t h1, h2⟩
theorem Wld.nil (h0 : Heap) : Wld h0 [] h0 := ⟨Nat.le_refl _, fun _ _ q => q, List.nodup_nil, fun i a d q => by simp at q⟩
theorem Wld.extOf (W : Wld h0 ds h) : Ext h0 h := ⟨W.1, W.2.1⟩
theorem Wld.at {i : Nat} {a : Addr} {d : Desc} (W : Wld h0 ds h) (hi : ds[i]? = some (a, d)) : h0.size ≤ a ∧ ∃ c : Cell, h[a]? = some c ∧ d c := W.2.2.2 i a d hi
theorem nodup_inj {α : Type} {L : List α} (h : L.Nodup) {i j : Nat} (hi : i < L.length) (hj : j < L.length) (e : L[i] = L[j]) : i = j := by
  rcases Nat.lt_trichotomy i j with q | q | q
  · exact absurd e (List.pairwise_iff_getElem.mp h i j hi hj q)
  · exact q
  · exact absurd e.symm (List.pairwise_iff_getElem.mp h j i hj hi q)
theorem Wld.ne {i j : Nat} {a b : Addr} {d d' : Desc} (W : Wld h0 ds h) (hi : ds[i]? = some (a, d)) (hj : ds[j]? = some (b, d')) (hij : i ≠ j) : a ≠ b := by
  intro e
  obtain ⟨h1, e1⟩ := List.getElem?_eq_some_iff.mp hi
  obtain ⟨h2, e2⟩ := List.getElem?_eq_some_iff.mp hj
  have l1 : i < (ds.map Prod.fst).length := by simpa using h1
  have l2 : j < (ds.map Prod.fst).length := by simpa using h2
  have g : (ds.map Prod.fst)[i] = (ds.map Prod.fst)[j] := by simp [e1, e2, e]
  exact hij (nodup_inj W.2.2.1 l1 l2 g)
theorem Wld.wr {i : Nat} {a : Addr} {d d' : Desc} {sl : Nat} {v : Value} (W : Wld h0 ds h) (hi : ds[i]? = some (a, d)) (wr : Wr h h' a sl v) (hd : ∀ c, h[a]? = some c → sl < c.slots.size → d c → d' (c.setSlot sl v)) : Wld h0 (ds.set i (a, d')) h' := by
  obtain ⟨ha, c, hc, dc⟩ := W.at hi
  obtain ⟨c0, hc0, -, hsl, -⟩ := id wr
  cases hc.symm.trans hc0
  refine ⟨by rw [wr.size]; exact W.1, fun b cb hb => ?_, ?_, ?_⟩
  · have hbl : b < h0.size := (Array.getElem?_eq_some_iff.mp hb).1
    obtain ⟨c', e1, -, -, -, e5, -⟩ := wr_at wr (W.2.1 b cb hb)
    rw [← e5 (fun q => Nat.not_lt.mpr ha (q ▸ hbl))]; exact e1
  · have q : (ds.set i (a, d')).map Prod.fst = ds.map Prod.fst := by
      rw [List.map_set]
      obtain ⟨l1, e1⟩ := List.getElem?_eq_some_iff.mp hi
      apply List.ext_getElem?
      intro j
      rw [List.getElem?_set]
      split
      · rename_i hj; subst hj; simp [l1, e1]
      · rfl
    rw [q]; exact W.2.2.1
  · intro j b db hj
    rw [List.getElem?_set] at hj
    split at hj
    · rename_i hij
      subst hij
      obtain ⟨l1, e1⟩ := List.getElem?_eq_some_iff.mp hi
      simp only [l1, if_true, Option.some.injEq, Prod.mk.injEq] at hj
      obtain ⟨rfl, rfl⟩ := hj
      obtain ⟨c', e1, -, -, -, -, -, e7⟩ := wr_at wr hc
      exact ⟨ha, c', e1, by rw [(e7 rfl).1]; exact hd c hc hsl dc⟩
    · rename_i hij
      obtain ⟨hb, cb, hcb, dcb⟩ := W.at hj
      have hne : b ≠ a := fun e => W.ne hi hj hij e.symm
      obtain ⟨c', e1, -, -, -, e5, -⟩ := wr_at wr hcb
      exact ⟨hb, cb, by rw [← e5 hne]; exact e1, dcb⟩
theorem Wld.new {d : Desc} (W : Wld h0 ds h) (E : Ext h h') {c : Cell} (hc : h'[h.size]? = some c) (dc : d c) : Wld h0 (ds ++ [(h.size, d)]) h' := by
  refine ⟨Nat.le_trans W.1 E.1, fun a c q => E.2 _ _ (W.2.1 a c q), ?_, ?_⟩
  · rw [List.map_append, List.nodup_append]
    refine ⟨W.2.2.1, by simp, ?_⟩
    intro a ha b hb
    simp only [List.map_cons, List.map_nil, List.mem_singleton] at hb
    subst hb
    obtain ⟨⟨x, dx⟩, hx, rfl⟩ := List.mem_map.mp ha
    obtain ⟨i, hi⟩ := List.getElem?_of_mem hx
    obtain ⟨-, cc, hcc, -⟩ := W.at hi
    exact Nat.ne_of_lt (Array.getElem?_eq_some_iff.mp hcc).1
  · intro i a dd hi
    rw [List.getElem?_append] at hi
    split at hi
    · obtain ⟨h1, cc, h2, h3⟩ := W.at hi
      exact ⟨h1, cc, E.2 _ _ h2, h3⟩
    · rename_i hlt
      rw [List.getElem?_singleton] at hi
      split at hi
      · cases hi; exact ⟨W.1, c, hc, dc⟩
      · cases hi
theorem OB.exa {C : String} {fs : List Fv} {a : Addr} {cl : Cell} (hc : h[a]? = some cl) (O : OB Z a0 C fs cl) : Exa Z h a C := by
  obtain ⟨⟨k, h1, h2, h3, h4⟩, -⟩ := O; exact ⟨cl, k, hc, h1, h2, h3, h4⟩
theorem OB.fld {C O n d : String} {v : Value} {fs : List Fv} {a : Addr} {cl : Cell} (hc : h[a]? = some cl) (Ob : OB Z a0 C fs cl) (hx : (O, n, d, v) ∈ fs) : Fld Z h a O n d v := by
  obtain ⟨⟨cf, k, i, f, h1, h2, h3, h4, h5, h6⟩, -⟩ := Ob.2 _ hx
  exact ⟨cl, cf, k, i, f, hc, h1, h2, h3, h4, h5, h6⟩
theorem OB.of {C : String} {fs : List Fv} {a : Addr} (E : Exa Z h a C) {cl : Cell} (hc : h[a]? = some cl) (F : ∀ x ∈ fs, Fld Z h a x.1 x.2.1 x.2.2.1 x.2.2.2 ∧ Laid Z a0 C x.1 x.2.1 x.2.2.1 ∧ ∃ t, parseFieldDescriptor x.2.2.1 = some t) : OB Z a0 C fs cl := by
  obtain ⟨cell, k, h1, h2, h3, h4, h5⟩ := E
  cases hc.symm.trans h1
  refine ⟨⟨k, h2, h3, h4, h5⟩, fun x hx => ?_⟩
  obtain ⟨⟨cell, cf, k, i, f, g1, g2⟩, L, t⟩ := F x hx
  cases hc.symm.trans g1
  exact ⟨⟨cf, k, i, f, g2⟩, L, t⟩

/-! entering and leaving -/
theorem con_of {y : MethodName} {rm : Room} {as' : Array Value} (hpl : plainFor y = true) (hw : ∀ d ∈ tables_1, d.before a0 Z = true) (hef : ∀ m, entryFrame m as' ml = mkF m 0 Ls [])
    (H : ∀ (p : Program) (e : Env) (s : State) (m : MethodId) (below : List Frame) (meth : Method) (c : Code), Cx p s m meth c Z a0 y.cls bytes ml rt y.name → Go p l e rm s m as' below meth c h0 Q ds 0 0 0 Ls []) : Con l Z y bytes ml rt rm h0 as' ds Q := by
  intro h W ws
  refine MetFree.of_bodySF hpl hisR ?_
  intro p e s m args below meth c s₁ Bd hml0 hP hK
  obtain ⟨rfl, hZ, hh⟩ := hP
  have hx := Bd.exec
  have hown := findClass_of_methodNamed Bd.named
  have hnm := (name_of_methodNamed Bd.named Bd.method).1
  have X0 : Stand p l e rm s m args below meth c s₁ [] 0 0 := Stand.of_body Bd
  have e0 : s₁.heap = h := by rw [← hh, Bd.state]; rfl
  have C : Cx p s m meth c Z a0 y.cls bytes ml rt y.name := ⟨hx, hZ, hw, Bd.bytes, hml0, hown, Bd.returns, Bd.notSynchronized, hnm⟩
  obtain ⟨t, o, h1, h2, h3, h4⟩ := H p e s m below meth c C s₁ [] X0 (by rw [e0]; exact W) (Fr.nil _)
  exact ⟨t, o, castTop (hef m) h1, h2, h3, h4⟩
theorem Ends.out (C : Cx p s m meth c Z a0 own bytes ml rt nm) {T : State} {locs : List Loc} {g : JFrame} (X : Stand p l e R s m args below meth c T locs k n) (W : Wld h0 ds T.heap) (N : Fr h0.size locs) (hk : k ≤ R.cells) (hn : n ≤ R.slots) {v : Option Value} (hv : rt = none → v = none) (q : Q v ds)
    (H : ∀ fs, (∀ (f : JFrame) (acts : List Action), f.method = m → f.locked = none → f.entered = [] → (doReturn e (T.setTop f) acts v).1 = T.setFrames fs) → Steps p.tables e below (T.setTop g) (T.setFrames fs)) :
    Ends p.tables e below (T.setTop g) (fun o t => ∃ v L, o = .returned v ∧ (∃ ds', Q v ds' ∧ Wld h0 ds' t.heap ∧ Fr h0.size L) ∧ FrameEnd s o t L R.cells R.slots) := by
  obtain ⟨hx, hZ, hw, hby, hml, hown, hret, hlk, hnm⟩ := C
  obtain ⟨fs, hr, hrun, hended, hW, hsame⟩ := X.leave (v := v) (fun h => hv (hret.symm.trans h)) hlk
  exact ⟨_, _, H fs hr, hrun, hended, v, locs, rfl, ⟨ds, q, W, N⟩, ⟨_, rfl⟩, hW, hsame.mono hk hn⟩
theorem g_ret (C : Cx p s m meth c Z a0 own bytes ml none nm) (hd : decode bytes pc = .ok (.return_, 1)) (hk : k ≤ R.cells) (hn : n ≤ R.slots) (q : Q none ds) : Go p l e R s m args below meth c h0 Q ds k n pc Ls [] := fun T locs X W N =>
  Ends.out C X W N hk hn (fun _ => rfl) q fun fs hr => X.returnOut C.1 C.2.2.2.2.2.2.1 (hb C.2.2.2.1 hd) hr
theorem g_iret (C : Cx p s m meth c Z a0 own bytes ml (some .int) nm) {z : Int32} (hd : decode bytes pc = .ok (.ireturn, 1)) (hk : k ≤ R.cells) (hn : n ≤ R.slots) (q : Q (some (.int z)) ds) : Go p l e R s m args below meth c h0 Q ds k n pc Ls (.int z :: St) := fun T locs X W N =>
  Ends.out C X W N hk hn (fun h => nomatch h) q fun fs hr => retOut X C.1 C.2.2.2.2.2.2.1 rfl (Or.inl ⟨rfl, Or.inl rfl, z, rfl⟩) (hb C.2.2.2.1 hd) hr
theorem g_nret {t : FieldType} (C : Cx p s m meth c Z a0 own bytes ml (some t) nm) (ht : t = .boolean ∨ t = .byte ∨ t = .char ∨ t = .short) {z z' : Int32} (hz : nar t z = z') (hd : decode bytes pc = .ok (.ireturn, 1)) (hk : k ≤ R.cells) (hn : n ≤ R.slots) (q : Q (some (.int z')) ds) : Go p l e R s m args below meth c h0 Q ds k n pc Ls (.int z :: St) := fun T locs X W N => by
  subst hz
  exact Ends.out C X W N hk hn (fun h => nomatch h) q fun fs hr => retN X C.1 C.2.2.2.2.2.2.1 ht (hb C.2.2.2.1 hd) hr
theorem g_lret (C : Cx p s m meth c Z a0 own bytes ml (some .long) nm) {z : Int64} (hd : decode bytes pc = .ok (.lreturn, 1)) (hk : k ≤ R.cells) (hn : n ≤ R.slots) (q : Q (some (.long z)) ds) : Go p l e R s m args below meth c h0 Q ds k n pc Ls (.long z :: St) := fun T locs X W N =>
  Ends.out C X W N hk hn (fun h => nomatch h) q fun fs hr => retOut X C.1 C.2.2.2.2.2.2.1 rfl (Or.inr (Or.inl ⟨rfl, rfl, z, rfl⟩)) (hb C.2.2.2.1 hd) hr
theorem g_dret (C : Cx p s m meth c Z a0 own bytes ml (some .double) nm) {z : UInt64} (hd : decode bytes pc = .ok (.dreturn, 1)) (hk : k ≤ R.cells) (hn : n ≤ R.slots) (q : Q (some (.double z)) ds) : Go p l e R s m args below meth c h0 Q ds k n pc Ls (.double z :: St) := fun T locs X W N =>
  Ends.out C X W N hk hn (fun h => nomatch h) q fun fs hr => retOut X C.1 C.2.2.2.2.2.2.1 rfl (Or.inr (Or.inr (Or.inl ⟨rfl, rfl, z, rfl⟩))) (hb C.2.2.2.1 hd) hr
theorem g_aret {t : FieldType} (C : Cx p s m meth c Z a0 own bytes ml (some t) nm) (ht : t.isReference = true) {v : Value} (hv : v.isRef = true) (hnr : narrow t v = v) (hd : decode bytes pc = .ok (.areturn, 1)) (hk : k ≤ R.cells) (hn : n ≤ R.slots) (q : Q (some v) ds) : Go p l e R s m args below meth c h0 Q ds k n pc Ls (v :: St) := fun T locs X W N =>
  Ends.out C X W N hk hn (fun h => nomatch h) q fun fs hr => retOut X C.1 C.2.2.2.2.2.2.1 hnr (Or.inr (Or.inr (Or.inr (Or.inr ⟨rfl, ht, hv⟩)))) (hb C.2.2.2.1 hd) hr
theorem Go.pure {pc' : Nat} {St' : List Value} (H : ∀ T locs, Stand p l e R s m args below meth c T locs k n → ∀ target, Steps p.tables e below (T.setTop (mkF m pc' Ls' St')) target → Steps p.tables e below (T.setTop (mkF m pc Ls St)) target)
    (K : Go p l e R s m args below meth c h0 Q ds k n pc' Ls' St') : Go p l e R s m args below meth c h0 Q ds k n pc Ls St := fun T locs X W N => (K T locs X W N).pre (H T locs X)
/-- the world may be spoken of otherwise -/
theorem Go.weak {Q' : Option Value → Wd → Prop} (K : Go p l e R s m args below meth c h0 Q' ds k n pc Ls St) (H : ∀ v ds', Q' v ds' → Q v ds') : Go p l e R s m args below meth c h0 Q ds k n pc Ls St := fun T locs X W N => by
  obtain ⟨t, o, h1, h2, h3, v, L, h4, ⟨ds', h5, h6⟩, h7⟩ := K T locs X W N
  exact ⟨t, o, h1, h2, h3, v, L, h4, ⟨ds', H _ _ h5, h6⟩, h7⟩
/-! plain steps -/
theorem g_iadd (C : Cx p s m meth c Z a0 own bytes ml rt nm) (pc' : Nat) {x y : Int32} (hd : decode bytes pc = .ok (.iadd, 1)) (hp : pc + 1 = pc') (K : Go p l e R s m args below meth c h0 Q ds k n pc' Ls (.int (x + y) :: St)) : Go p l e R s m args below meth c h0 Q ds k n pc Ls (.int y :: .int x :: St) := by
  subst hp
  exact K.pure fun T locs X target h => XS.iadd X.here C.1 rfl (hb C.2.2.2.1 hd) rfl h
theorem g_isub (C : Cx p s m meth c Z a0 own bytes ml rt nm) (pc' : Nat) {x y : Int32} (hd : decode bytes pc = .ok (.isub, 1)) (hp : pc + 1 = pc') (K : Go p l e R s m args below meth c h0 Q ds k n pc' Ls (.int (x - y) :: St)) : Go p l e R s m args below meth c h0 Q ds k n pc Ls (.int y :: .int x :: St) := by
  subst hp
  exact K.pure fun T locs X target h => XS.isub X.here C.1 rfl (hb C.2.2.2.1 hd) rfl h
theorem g_imul (C : Cx p s m meth c Z a0 own bytes ml rt nm) (pc' : Nat) {x y : Int32} (hd : decode bytes pc = .ok (.imul, 1)) (hp : pc + 1 = pc') (K : Go p l e R s m args below meth c h0 Q ds k n pc' Ls (.int (x * y) :: St)) : Go p l e R s m args below meth c h0 Q ds k n pc Ls (.int y :: .int x :: St) := by
  subst hp
  exact K.pure fun T locs X target h => XS.imul X.here C.1 rfl (hb C.2.2.2.1 hd) rfl h
theorem g_iand (C : Cx p s m meth c Z a0 own bytes ml rt nm) (pc' : Nat) {x y : Int32} (hd : decode bytes pc = .ok (.iand, 1)) (hp : pc + 1 = pc') (K : Go p l e R s m args below meth c h0 Q ds k n pc' Ls (.int (x &&& y) :: St)) : Go p l e R s m args below meth c h0 Q ds k n pc Ls (.int y :: .int x :: St) := by
  subst hp
  exact K.pure fun T locs X target h => XS.iand X.here C.1 rfl (hb C.2.2.2.1 hd) rfl h
theorem g_ior (C : Cx p s m meth c Z a0 own bytes ml rt nm) (pc' : Nat) {x y : Int32} (hd : decode bytes pc = .ok (.ior, 1)) (hp : pc + 1 = pc') (K : Go p l e R s m args below meth c h0 Q ds k n pc' Ls (.int (x ||| y) :: St)) : Go p l e R s m args below meth c h0 Q ds k n pc Ls (.int y :: .int x :: St) := by
  subst hp
  exact K.pure fun T locs X target h => XS.ior X.here C.1 rfl (hb C.2.2.2.1 hd) rfl h
theorem g_ixor (C : Cx p s m meth c Z a0 own bytes ml rt nm) (pc' : Nat) {x y : Int32} (hd : decode bytes pc = .ok (.ixor, 1)) (hp : pc + 1 = pc') (K : Go p l e R s m args below meth c h0 Q ds k n pc' Ls (.int (x ^^^ y) :: St)) : Go p l e R s m args below meth c h0 Q ds k n pc Ls (.int y :: .int x :: St) := by
  subst hp
  exact K.pure fun T locs X target h => XS.ixor X.here C.1 rfl (hb C.2.2.2.1 hd) rfl h
theorem g_ishl (C : Cx p s m meth c Z a0 own bytes ml rt nm) (pc' : Nat) {x y : Int32} (hd : decode bytes pc = .ok (.ishl, 1)) (hp : pc + 1 = pc') (K : Go p l e R s m args below meth c h0 Q ds k n pc' Ls (.int (x <<< (y &&& 31)) :: St)) : Go p l e R s m args below meth c h0 Q ds k n pc Ls (.int y :: .int x :: St) := by
  subst hp
  exact K.pure fun T locs X target h => XS.ishl X.here C.1 rfl (hb C.2.2.2.1 hd) rfl h
theorem g_ishr (C : Cx p s m meth c Z a0 own bytes ml rt nm) (pc' : Nat) {x y : Int32} (hd : decode bytes pc = .ok (.ishr, 1)) (hp : pc + 1 = pc') (K : Go p l e R s m args below meth c h0 Q ds k n pc' Ls (.int (x >>> (y &&& 31)) :: St)) : Go p l e R s m args below meth c h0 Q ds k n pc Ls (.int y :: .int x :: St) := by
  subst hp
  exact K.pure fun T locs X target h => XS.ishr X.here C.1 rfl (hb C.2.2.2.1 hd) rfl h
theorem g_iushr (C : Cx p s m meth c Z a0 own bytes ml rt nm) (pc' : Nat) {x y : Int32} (hd : decode bytes pc = .ok (.iushr, 1)) (hp : pc + 1 = pc') (K : Go p l e R s m args below meth c h0 Q ds k n pc' Ls (.int ((x.toUInt32 >>> (y &&& 31).toUInt32).toInt32) :: St)) : Go p l e R s m args below meth c h0 Q ds k n pc Ls (.int y :: .int x :: St) := by
  subst hp
  exact K.pure fun T locs X target h => XS.iushr X.here C.1 rfl (hb C.2.2.2.1 hd) rfl h
theorem g_ladd (C : Cx p s m meth c Z a0 own bytes ml rt nm) (pc' : Nat) {x y : Int64} (hd : decode bytes pc = .ok (.ladd, 1)) (hp : pc + 1 = pc') (K : Go p l e R s m args below meth c h0 Q ds k n pc' Ls (.long (x + y) :: St)) : Go p l e R s m args below meth c h0 Q ds k n pc Ls (.long y :: .long x :: St) := by
  subst hp
  exact K.pure fun T locs X target h => XS.ladd X.here C.1 rfl (hb C.2.2.2.1 hd) rfl h
theorem g_lsub (C : Cx p s m meth c Z a0 own bytes ml rt nm) (pc' : Nat) {x y : Int64} (hd : decode bytes pc = .ok (.lsub, 1)) (hp : pc + 1 = pc') (K : Go p l e R s m args below meth c h0 Q ds k n pc' Ls (.long (x - y) :: St)) : Go p l e R s m args below meth c h0 Q ds k n pc Ls (.long y :: .long x :: St) := by
  subst hp
  exact K.pure fun T locs X target h => XS.lsub X.here C.1 rfl (hb C.2.2.2.1 hd) rfl h
theorem g_lmul (C : Cx p s m meth c Z a0 own bytes ml rt nm) (pc' : Nat) {x y : Int64} (hd : decode bytes pc = .ok (.lmul, 1)) (hp : pc + 1 = pc') (K : Go p l e R s m args below meth c h0 Q ds k n pc' Ls (.long (x * y) :: St)) : Go p l e R s m args below meth c h0 Q ds k n pc Ls (.long y :: .long x :: St) := by
  subst hp
  exact K.pure fun T locs X target h => XS.lmul X.here C.1 rfl (hb C.2.2.2.1 hd) rfl h
theorem g_land (C : Cx p s m meth c Z a0 own bytes ml rt nm) (pc' : Nat) {x y : Int64} (hd : decode bytes pc = .ok (.land, 1)) (hp : pc + 1 = pc') (K : Go p l e R s m args below meth c h0 Q ds k n pc' Ls (.long (x &&& y) :: St)) : Go p l e R s m args below meth c h0 Q ds k n pc Ls (.long y :: .long x :: St) := by
  subst hp
  exact K.pure fun T locs X target h => XS.land X.here C.1 rfl (hb C.2.2.2.1 hd) rfl h
theorem g_lor (C : Cx p s m meth c Z a0 own bytes ml rt nm) (pc' : Nat) {x y : Int64} (hd : decode bytes pc = .ok (.lor, 1)) (hp : pc + 1 = pc') (K : Go p l e R s m args below meth c h0 Q ds k n pc' Ls (.long (x ||| y) :: St)) : Go p l e R s m args below meth c h0 Q ds k n pc Ls (.long y :: .long x :: St) := by
  subst hp
  exact K.pure fun T locs X target h => XS.lor X.here C.1 rfl (hb C.2.2.2.1 hd) rfl h
theorem g_lxor (C : Cx p s m meth c Z a0 own bytes ml rt nm) (pc' : Nat) {x y : Int64} (hd : decode bytes pc = .ok (.lxor, 1)) (hp : pc + 1 = pc') (K : Go p l e R s m args below meth c h0 Q ds k n pc' Ls (.long (x ^^^ y) :: St)) : Go p l e R s m args below meth c h0 Q ds k n pc Ls (.long y :: .long x :: St) := by
  subst hp
  exact K.pure fun T locs X target h => XS.lxor X.here C.1 rfl (hb C.2.2.2.1 hd) rfl h
theorem g_lshl (C : Cx p s m meth c Z a0 own bytes ml rt nm) (pc' : Nat) {x : Int64} {y : Int32} (hd : decode bytes pc = .ok (.lshl, 1)) (hp : pc + 1 = pc') (K : Go p l e R s m args below meth c h0 Q ds k n pc' Ls (.long (x <<< (y &&& 0x3f).toInt64) :: St)) : Go p l e R s m args below meth c h0 Q ds k n pc Ls (.int y :: .long x :: St) := by
  subst hp
  exact K.pure fun T locs X target h => XS.lshl X.here C.1 rfl (hb C.2.2.2.1 hd) rfl h
theorem g_lshr (C : Cx p s m meth c Z a0 own bytes ml rt nm) (pc' : Nat) {x : Int64} {y : Int32} (hd : decode bytes pc = .ok (.lshr, 1)) (hp : pc + 1 = pc') (K : Go p l e R s m args below meth c h0 Q ds k n pc' Ls (.long (x >>> (y &&& 0x3f).toInt64) :: St)) : Go p l e R s m args below meth c h0 Q ds k n pc Ls (.int y :: .long x :: St) := by
  subst hp
  exact K.pure fun T locs X target h => XS.lshr X.here C.1 rfl (hb C.2.2.2.1 hd) rfl h
theorem g_lushr (C : Cx p s m meth c Z a0 own bytes ml rt nm) (pc' : Nat) {x : Int64} {y : Int32} (hd : decode bytes pc = .ok (.lushr, 1)) (hp : pc + 1 = pc') (K : Go p l e R s m args below meth c h0 Q ds k n pc' Ls (.long ((x.toUInt64 >>> (y &&& 0x3f).toInt64.toUInt64).toInt64) :: St)) : Go p l e R s m args below meth c h0 Q ds k n pc Ls (.int y :: .long x :: St) := by
  subst hp
  exact K.pure fun T locs X target h => XS.lushr X.here C.1 rfl (hb C.2.2.2.1 hd) rfl h
theorem g_idiv (C : Cx p s m meth c Z a0 own bytes ml rt nm) (pc' : Nat) {x y : Int32} (hd : decode bytes pc = .ok (.idiv, 1)) (hp : pc + 1 = pc') (hy : y ≠ 0) (K : Go p l e R s m args below meth c h0 Q ds k n pc' Ls (.int (x / y) :: St)) : Go p l e R s m args below meth c h0 Q ds k n pc Ls (.int y :: .int x :: St) := by
  subst hp
  exact K.pure fun T locs X target h => XS.idiv X.here C.1 rfl (hb C.2.2.2.1 hd) rfl hy h
theorem g_irem (C : Cx p s m meth c Z a0 own bytes ml rt nm) (pc' : Nat) {x y : Int32} (hd : decode bytes pc = .ok (.irem, 1)) (hp : pc + 1 = pc') (hy : y ≠ 0) (K : Go p l e R s m args below meth c h0 Q ds k n pc' Ls (.int (x % y) :: St)) : Go p l e R s m args below meth c h0 Q ds k n pc Ls (.int y :: .int x :: St) := by
  subst hp
  exact K.pure fun T locs X target h => iremM X C.1 rfl (hb C.2.2.2.1 hd) rfl hy h
theorem g_ineg (C : Cx p s m meth c Z a0 own bytes ml rt nm) (pc' : Nat) {x : Int32} (hd : decode bytes pc = .ok (.ineg, 1)) (hp : pc + 1 = pc') (K : Go p l e R s m args below meth c h0 Q ds k n pc' Ls (.int (-x) :: St)) : Go p l e R s m args below meth c h0 Q ds k n pc Ls (.int x :: St) := by
  subst hp
  exact K.pure fun T locs X target h => XS.ineg X.here C.1 rfl (hb C.2.2.2.1 hd) rfl h
theorem g_i2b (C : Cx p s m meth c Z a0 own bytes ml rt nm) (pc' : Nat) {x : Int32} (hd : decode bytes pc = .ok (.i2b, 1)) (hp : pc + 1 = pc') (K : Go p l e R s m args below meth c h0 Q ds k n pc' Ls (.int (x.toInt8.toInt32) :: St)) : Go p l e R s m args below meth c h0 Q ds k n pc Ls (.int x :: St) := by
  subst hp
  exact K.pure fun T locs X target h => XS.i2b X.here C.1 rfl (hb C.2.2.2.1 hd) rfl h
theorem g_i2c (C : Cx p s m meth c Z a0 own bytes ml rt nm) (pc' : Nat) {x : Int32} (hd : decode bytes pc = .ok (.i2c, 1)) (hp : pc + 1 = pc') (K : Go p l e R s m args below meth c h0 Q ds k n pc' Ls (.int (x.toUInt32.toUInt16.toUInt32.toInt32) :: St)) : Go p l e R s m args below meth c h0 Q ds k n pc Ls (.int x :: St) := by
  subst hp
  exact K.pure fun T locs X target h => XS.i2c X.here C.1 rfl (hb C.2.2.2.1 hd) rfl h
theorem g_i2s (C : Cx p s m meth c Z a0 own bytes ml rt nm) (pc' : Nat) {x : Int32} (hd : decode bytes pc = .ok (.i2s, 1)) (hp : pc + 1 = pc') (K : Go p l e R s m args below meth c h0 Q ds k n pc' Ls (.int (x.toInt16.toInt32) :: St)) : Go p l e R s m args below meth c h0 Q ds k n pc Ls (.int x :: St) := by
  subst hp
  exact K.pure fun T locs X target h => XS.i2s X.here C.1 rfl (hb C.2.2.2.1 hd) rfl h
theorem g_i2l (C : Cx p s m meth c Z a0 own bytes ml rt nm) (pc' : Nat) {x : Int32} (hd : decode bytes pc = .ok (.i2l, 1)) (hp : pc + 1 = pc') (K : Go p l e R s m args below meth c h0 Q ds k n pc' Ls (.long x.toInt64 :: St)) : Go p l e R s m args below meth c h0 Q ds k n pc Ls (.int x :: St) := by
  subst hp
  exact K.pure fun T locs X target h => XS.i2l X.here C.1 rfl (hb C.2.2.2.1 hd) rfl h
theorem g_l2i (C : Cx p s m meth c Z a0 own bytes ml rt nm) (pc' : Nat) {x : Int64} (hd : decode bytes pc = .ok (.l2i, 1)) (hp : pc + 1 = pc') (K : Go p l e R s m args below meth c h0 Q ds k n pc' Ls (.int x.toInt32 :: St)) : Go p l e R s m args below meth c h0 Q ds k n pc Ls (.long x :: St) := by
  subst hp
  exact K.pure fun T locs X target h => XS.l2i X.here C.1 rfl (hb C.2.2.2.1 hd) rfl h
theorem g_lneg (C : Cx p s m meth c Z a0 own bytes ml rt nm) (pc' : Nat) {x : Int64} (hd : decode bytes pc = .ok (.lneg, 1)) (hp : pc + 1 = pc') (K : Go p l e R s m args below meth c h0 Q ds k n pc' Ls (.long (-x) :: St)) : Go p l e R s m args below meth c h0 Q ds k n pc Ls (.long x :: St) := by
  subst hp
  exact K.pure fun T locs X target h => XS.lneg X.here C.1 rfl (hb C.2.2.2.1 hd) rfl h
theorem g_lcmp (C : Cx p s m meth c Z a0 own bytes ml rt nm) (pc' : Nat) {x y : Int64} (hd : decode bytes pc = .ok (.lcmp, 1)) (hp : pc + 1 = pc') (K : Go p l e R s m args below meth c h0 Q ds k n pc' Ls (.int (lcmpW x y) :: St)) : Go p l e R s m args below meth c h0 Q ds k n pc Ls (.long y :: .long x :: St) := by
  subst hp
  exact K.pure fun T locs X target h => XS.lcmp X.here C.1 rfl (hb C.2.2.2.1 hd) rfl h
theorem g_iconst (C : Cx p s m meth c Z a0 own bytes ml rt nm) (pc' : Nat) (v : Int32) {i : Int} (hd : decode bytes pc = .ok (.iconst i, 1)) (hp : pc + 1 = pc') (hv : Int32.ofInt i = v) (K : Go p l e R s m args below meth c h0 Q ds k n pc' Ls (.int v :: St)) : Go p l e R s m args below meth c h0 Q ds k n pc Ls St := by
  subst hp hv
  exact K.pure fun T locs X target h => XS.iconst X.here C.1 rfl (hb C.2.2.2.1 hd) h
theorem g_bipush (C : Cx p s m meth c Z a0 own bytes ml rt nm) (pc' : Nat) (v : Int32) {i : Int} (hd : decode bytes pc = .ok (.bipush i, 2)) (hp : pc + 2 = pc') (hv : (Int8.ofInt i).toInt32 = v) (K : Go p l e R s m args below meth c h0 Q ds k n pc' Ls (.int v :: St)) : Go p l e R s m args below meth c h0 Q ds k n pc Ls St := by
  subst hp hv
  exact K.pure fun T locs X target h => XS.bipush X.here C.1 rfl (hb C.2.2.2.1 hd) h
theorem g_sipush (C : Cx p s m meth c Z a0 own bytes ml rt nm) (pc' : Nat) (v : Int32) {i : Int} (hd : decode bytes pc = .ok (.sipush i, 3)) (hp : pc + 3 = pc') (hv : (Int16.ofInt i).toInt32 = v) (K : Go p l e R s m args below meth c h0 Q ds k n pc' Ls (.int v :: St)) : Go p l e R s m args below meth c h0 Q ds k n pc Ls St := by
  subst hp hv
  exact K.pure fun T locs X target h => XS.sipush X.here C.1 rfl (hb C.2.2.2.1 hd) h
theorem g_lconst (C : Cx p s m meth c Z a0 own bytes ml rt nm) (pc' : Nat) (v : Int64) {i : Fin 2} (hd : decode bytes pc = .ok (.lconst i, 1)) (hp : pc + 1 = pc') (hv : Int64.ofNat i = v) (K : Go p l e R s m args below meth c h0 Q ds k n pc' Ls (.long v :: St)) : Go p l e R s m args below meth c h0 Q ds k n pc Ls St := by
  subst hp hv
  exact K.pure fun T locs X target h => XS.lconst X.here C.1 rfl (hb C.2.2.2.1 hd) h
theorem g_null (C : Cx p s m meth c Z a0 own bytes ml rt nm) (pc' : Nat) (hd : decode bytes pc = .ok (.aconst_null, 1)) (hp : pc + 1 = pc') (K : Go p l e R s m args below meth c h0 Q ds k n pc' Ls (.null :: St)) : Go p l e R s m args below meth c h0 Q ds k n pc Ls St := by
  subst hp
  exact K.pure fun T locs X target h => XS.aconstNull X.here C.1 rfl (hb C.2.2.2.1 hd) h
theorem g_iloadN (C : Cx p s m meth c Z a0 own bytes ml rt nm) (pc' : Nat) {i : Fin 4} {v : Int32} (hd : decode bytes pc = .ok (.iload_n i, 1)) (hp : pc + 1 = pc') (hl : Ls[i.val]? = some (.val (.int v))) (K : Go p l e R s m args below meth c h0 Q ds k n pc' Ls (.int v :: St)) : Go p l e R s m args below meth c h0 Q ds k n pc Ls St := by
  subst hp
  exact K.pure fun T locs X target h => XS.iloadN X.here C.1 rfl (hb C.2.2.2.1 hd) hl h
theorem g_iload (C : Cx p s m meth c Z a0 own bytes ml rt nm) (pc' : Nat) {i : Nat} {v : Int32} (hd : decode bytes pc = .ok (.iload i, 2)) (hp : pc + 2 = pc') (hl : Ls[i]? = some (.val (.int v))) (K : Go p l e R s m args below meth c h0 Q ds k n pc' Ls (.int v :: St)) : Go p l e R s m args below meth c h0 Q ds k n pc Ls St := by
  subst hp
  exact K.pure fun T locs X target h => XS.iload X.here C.1 rfl (hb C.2.2.2.1 hd) hl h
theorem g_istoreN (C : Cx p s m meth c Z a0 own bytes ml rt nm) (pc' : Nat) {i : Fin 4} {v : Int32} (Ls' : Array Slot) (hd : decode bytes pc = .ok (.istore_n i, 1)) (hp : pc + 1 = pc') (hl : storeLocals Ls i.val (.int v) = some Ls') (K : Go p l e R s m args below meth c h0 Q ds k n pc' Ls' St) : Go p l e R s m args below meth c h0 Q ds k n pc Ls (.int v :: St) := by
  subst hp
  exact K.pure fun T locs X target h => XS.istoreN X.here C.1 rfl (hb C.2.2.2.1 hd) rfl hl h
theorem g_istore (C : Cx p s m meth c Z a0 own bytes ml rt nm) (pc' : Nat) {i : Nat} {v : Int32} (Ls' : Array Slot) (hd : decode bytes pc = .ok (.istore i, 2)) (hp : pc + 2 = pc') (hl : storeLocals Ls i (.int v) = some Ls') (K : Go p l e R s m args below meth c h0 Q ds k n pc' Ls' St) : Go p l e R s m args below meth c h0 Q ds k n pc Ls (.int v :: St) := by
  subst hp
  exact K.pure fun T locs X target h => XS.istore X.here C.1 rfl (hb C.2.2.2.1 hd) rfl hl h
theorem g_lloadN (C : Cx p s m meth c Z a0 own bytes ml rt nm) (pc' : Nat) {i : Fin 4} {v : Int64} (hd : decode bytes pc = .ok (.lload_n i, 1)) (hp : pc + 1 = pc') (hl : Ls[i.val]? = some (.val (.long v))) (K : Go p l e R s m args below meth c h0 Q ds k n pc' Ls (.long v :: St)) : Go p l e R s m args below meth c h0 Q ds k n pc Ls St := by
  subst hp
  exact K.pure fun T locs X target h => XS.lloadN X.here C.1 rfl (hb C.2.2.2.1 hd) hl h
theorem g_lload (C : Cx p s m meth c Z a0 own bytes ml rt nm) (pc' : Nat) {i : Nat} {v : Int64} (hd : decode bytes pc = .ok (.lload i, 2)) (hp : pc + 2 = pc') (hl : Ls[i]? = some (.val (.long v))) (K : Go p l e R s m args below meth c h0 Q ds k n pc' Ls (.long v :: St)) : Go p l e R s m args below meth c h0 Q ds k n pc Ls St := by
  subst hp
  exact K.pure fun T locs X target h => XS.lload X.here C.1 rfl (hb C.2.2.2.1 hd) hl h
theorem g_lstoreN (C : Cx p s m meth c Z a0 own bytes ml rt nm) (pc' : Nat) {i : Fin 4} {v : Int64} (Ls' : Array Slot) (hd : decode bytes pc = .ok (.lstore_n i, 1)) (hp : pc + 1 = pc') (hl : storeLocals Ls i.val (.long v) = some Ls') (K : Go p l e R s m args below meth c h0 Q ds k n pc' Ls' St) : Go p l e R s m args below meth c h0 Q ds k n pc Ls (.long v :: St) := by
  subst hp
  exact K.pure fun T locs X target h => XS.lstoreN X.here C.1 rfl (hb C.2.2.2.1 hd) rfl hl h
theorem g_lstore (C : Cx p s m meth c Z a0 own bytes ml rt nm) (pc' : Nat) {i : Nat} {v : Int64} (Ls' : Array Slot) (hd : decode bytes pc = .ok (.lstore i, 2)) (hp : pc + 2 = pc') (hl : storeLocals Ls i (.long v) = some Ls') (K : Go p l e R s m args below meth c h0 Q ds k n pc' Ls' St) : Go p l e R s m args below meth c h0 Q ds k n pc Ls (.long v :: St) := by
  subst hp
  exact K.pure fun T locs X target h => XS.lstore X.here C.1 rfl (hb C.2.2.2.1 hd) rfl hl h
theorem g_dloadN (C : Cx p s m meth c Z a0 own bytes ml rt nm) (pc' : Nat) {i : Fin 4} {v : UInt64} (hd : decode bytes pc = .ok (.dload_n i, 1)) (hp : pc + 1 = pc') (hl : Ls[i.val]? = some (.val (.double v))) (K : Go p l e R s m args below meth c h0 Q ds k n pc' Ls (.double v :: St)) : Go p l e R s m args below meth c h0 Q ds k n pc Ls St := by
  subst hp
  exact K.pure fun T locs X target h => XS.dloadN X.here C.1 rfl (hb C.2.2.2.1 hd) hl h
theorem g_dload (C : Cx p s m meth c Z a0 own bytes ml rt nm) (pc' : Nat) {i : Nat} {v : UInt64} (hd : decode bytes pc = .ok (.dload i, 2)) (hp : pc + 2 = pc') (hl : Ls[i]? = some (.val (.double v))) (K : Go p l e R s m args below meth c h0 Q ds k n pc' Ls (.double v :: St)) : Go p l e R s m args below meth c h0 Q ds k n pc Ls St := by
  subst hp
  exact K.pure fun T locs X target h => XS.dload X.here C.1 rfl (hb C.2.2.2.1 hd) hl h
theorem g_dstoreN (C : Cx p s m meth c Z a0 own bytes ml rt nm) (pc' : Nat) {i : Fin 4} {v : UInt64} (Ls' : Array Slot) (hd : decode bytes pc = .ok (.dstore_n i, 1)) (hp : pc + 1 = pc') (hl : storeLocals Ls i.val (.double v) = some Ls') (K : Go p l e R s m args below meth c h0 Q ds k n pc' Ls' St) : Go p l e R s m args below meth c h0 Q ds k n pc Ls (.double v :: St) := by
  subst hp
  exact K.pure fun T locs X target h => XS.dstoreN X.here C.1 rfl (hb C.2.2.2.1 hd) rfl hl h
theorem g_dstore (C : Cx p s m meth c Z a0 own bytes ml rt nm) (pc' : Nat) {i : Nat} {v : UInt64} (Ls' : Array Slot) (hd : decode bytes pc = .ok (.dstore i, 2)) (hp : pc + 2 = pc') (hl : storeLocals Ls i (.double v) = some Ls') (K : Go p l e R s m args below meth c h0 Q ds k n pc' Ls' St) : Go p l e R s m args below meth c h0 Q ds k n pc Ls (.double v :: St) := by
  subst hp
  exact K.pure fun T locs X target h => XS.dstore X.here C.1 rfl (hb C.2.2.2.1 hd) rfl hl h
theorem g_aloadN (C : Cx p s m meth c Z a0 own bytes ml rt nm) (pc' : Nat) {i : Fin 4} {v : Value} (hd : decode bytes pc = .ok (.aload_n i, 1)) (hp : pc + 1 = pc') (hl : Ls[i.val]? = some (.val v)) (hv : v.isRef = true) (K : Go p l e R s m args below meth c h0 Q ds k n pc' Ls (v :: St)) : Go p l e R s m args below meth c h0 Q ds k n pc Ls St := by
  subst hp
  exact K.pure fun T locs X target h => XS.aloadN X.here C.1 rfl (hb C.2.2.2.1 hd) hl hv h
theorem g_aload (C : Cx p s m meth c Z a0 own bytes ml rt nm) (pc' : Nat) {i : Nat} {v : Value} (hd : decode bytes pc = .ok (.aload i, 2)) (hp : pc + 2 = pc') (hl : Ls[i]? = some (.val v)) (hv : v.isRef = true) (K : Go p l e R s m args below meth c h0 Q ds k n pc' Ls (v :: St)) : Go p l e R s m args below meth c h0 Q ds k n pc Ls St := by
  subst hp
  exact K.pure fun T locs X target h => XS.aload X.here C.1 rfl (hb C.2.2.2.1 hd) hl hv h
theorem g_astoreN (C : Cx p s m meth c Z a0 own bytes ml rt nm) (pc' : Nat) {i : Fin 4} {v : Value} (Ls' : Array Slot) (hd : decode bytes pc = .ok (.astore_n i, 1)) (hp : pc + 1 = pc') (hv : v.isRef = true) (hl : storeLocals Ls i.val v = some Ls') (K : Go p l e R s m args below meth c h0 Q ds k n pc' Ls' St) : Go p l e R s m args below meth c h0 Q ds k n pc Ls (v :: St) := by
  subst hp
  exact K.pure fun T locs X target h => XS.astoreN X.here C.1 rfl (hb C.2.2.2.1 hd) rfl hv hl h
theorem g_astore (C : Cx p s m meth c Z a0 own bytes ml rt nm) (pc' : Nat) {i : Nat} {v : Value} (Ls' : Array Slot) (hd : decode bytes pc = .ok (.astore i, 2)) (hp : pc + 2 = pc') (hv : v.isRef = true) (hl : storeLocals Ls i v = some Ls') (K : Go p l e R s m args below meth c h0 Q ds k n pc' Ls' St) : Go p l e R s m args below meth c h0 Q ds k n pc Ls (v :: St) := by
  subst hp
  exact K.pure fun T locs X target h => XS.astore X.here C.1 rfl (hb C.2.2.2.1 hd) rfl hv hl h
theorem g_iinc (C : Cx p s m meth c Z a0 own bytes ml rt nm) (pc' : Nat) {i : Nat} {cst : Int} {x : Int32} (z : Int32) (Ls' : Array Slot) (hd : decode bytes pc = .ok (.iinc i cst, 3)) (hp : pc + 3 = pc') (hl : Ls[i]? = some (.val (.int x))) (hz : x + Int32.ofInt cst = z) (hl' : storeLocals Ls i (.int z) = some Ls') (K : Go p l e R s m args below meth c h0 Q ds k n pc' Ls' St) : Go p l e R s m args below meth c h0 Q ds k n pc Ls St := by
  subst hp hz
  exact K.pure fun T locs X target h => XS.iinc X.here C.1 rfl (hb C.2.2.2.1 hd) hl hl' h
theorem g_dup (C : Cx p s m meth c Z a0 own bytes ml rt nm) (pc' : Nat) {v : Value} (hd : decode bytes pc = .ok (.dup, 1)) (hp : pc + 1 = pc') (hv : v.category = 1) (K : Go p l e R s m args below meth c h0 Q ds k n pc' Ls (v :: v :: St)) : Go p l e R s m args below meth c h0 Q ds k n pc Ls (v :: St) := by
  subst hp
  exact K.pure fun T locs X target h => XS.dup X.here C.1 rfl (hb C.2.2.2.1 hd) rfl hv h
theorem g_pop (C : Cx p s m meth c Z a0 own bytes ml rt nm) (pc' : Nat) {v : Value} (hd : decode bytes pc = .ok (.pop, 1)) (hp : pc + 1 = pc') (hv : v.category = 1) (K : Go p l e R s m args below meth c h0 Q ds k n pc' Ls St) : Go p l e R s m args below meth c h0 Q ds k n pc Ls (v :: St) := by
  subst hp
  exact K.pure fun T locs X target h => XS.pop X.here C.1 rfl (hb C.2.2.2.1 hd) rfl hv h
theorem g_dupX1 (C : Cx p s m meth c Z a0 own bytes ml rt nm) (pc' : Nat) {v w : Value} (hd : decode bytes pc = .ok (.dup_x1, 1)) (hp : pc + 1 = pc') (hv : v.category = 1) (hw : w.category = 1) (K : Go p l e R s m args below meth c h0 Q ds k n pc' Ls (v :: w :: v :: St)) : Go p l e R s m args below meth c h0 Q ds k n pc Ls (v :: w :: St) := by
  subst hp
  exact K.pure fun T locs X target h => XS.dupX1 X.here C.1 rfl (hb C.2.2.2.1 hd) rfl hv hw h
theorem g_dup2 (C : Cx p s m meth c Z a0 own bytes ml rt nm) (pc' : Nat) {v w : Value} (hd : decode bytes pc = .ok (.dup2, 1)) (hp : pc + 1 = pc') (hv : v.category = 1) (hw : w.category = 1) (K : Go p l e R s m args below meth c h0 Q ds k n pc' Ls (v :: w :: v :: w :: St)) : Go p l e R s m args below meth c h0 Q ds k n pc Ls (v :: w :: St) := by
  subst hp
  exact K.pure fun T locs X target h => XT.dup2 X.here C.1 rfl (hb C.2.2.2.1 hd) rfl hv hw h
theorem g_goto (C : Cx p s m meth c Z a0 own bytes ml rt nm) (pc' : Nat) {o : Int} (hd : decode bytes pc = .ok (.goto o, 3)) (ho : 0 ≤ (pc : Int) + o) (hp : ((pc : Int) + o).toNat = pc') (K : Go p l e R s m args below meth c h0 Q ds k n pc' Ls St) : Go p l e R s m args below meth c h0 Q ds k n pc Ls St := K.pure fun T locs X target h => XS.goto X.here C.1 rfl rfl (hb C.2.2.2.1 hd) ho hp h
theorem g_ifY (C : Cx p s m meth c Z a0 own bytes ml rt nm) (pc' : Nat) {cd : ClassFile.Cond} {x : Int32} {o : Int} (hd : decode bytes pc = .ok (.ifCond cd o, 3)) (hc : if_icmp.holds cd x 0 = true) (ho : 0 ≤ (pc : Int) + o) (hp : ((pc : Int) + o).toNat = pc') (K : Go p l e R s m args below meth c h0 Q ds k n pc' Ls St) : Go p l e R s m args below meth c h0 Q ds k n pc Ls (.int x :: St) := K.pure fun T locs X target h => XS.ifYes X.here C.1 rfl rfl (hb C.2.2.2.1 hd) rfl ((if0 _ _).trans hc) ho hp h
theorem g_ifN (C : Cx p s m meth c Z a0 own bytes ml rt nm) (pc' : Nat) {cd : ClassFile.Cond} {x : Int32} {o : Int} (hd : decode bytes pc = .ok (.ifCond cd o, 3)) (hc : if_icmp.holds cd x 0 = false) (hp : pc + 3 = pc') (K : Go p l e R s m args below meth c h0 Q ds k n pc' Ls St) : Go p l e R s m args below meth c h0 Q ds k n pc Ls (.int x :: St) := by
  subst hp
  exact K.pure fun T locs X target h => XS.ifNo X.here C.1 rfl (hb C.2.2.2.1 hd) rfl ((if0 _ _).trans hc) h
theorem g_icY (C : Cx p s m meth c Z a0 own bytes ml rt nm) (pc' : Nat) {cd : ClassFile.Cond} {x y : Int32} {o : Int} (hd : decode bytes pc = .ok (.if_icmp cd o, 3)) (hc : if_icmp.holds cd x y = true) (ho : 0 ≤ (pc : Int) + o) (hp : ((pc : Int) + o).toNat = pc') (K : Go p l e R s m args below meth c h0 Q ds k n pc' Ls St) : Go p l e R s m args below meth c h0 Q ds k n pc Ls (.int y :: .int x :: St) := K.pure fun T locs X target h => XS.icmpYes X.here C.1 rfl rfl (hb C.2.2.2.1 hd) rfl hc ho hp h
theorem g_icN (C : Cx p s m meth c Z a0 own bytes ml rt nm) (pc' : Nat) {cd : ClassFile.Cond} {x y : Int32} {o : Int} (hd : decode bytes pc = .ok (.if_icmp cd o, 3)) (hc : if_icmp.holds cd x y = false) (hp : pc + 3 = pc') (K : Go p l e R s m args below meth c h0 Q ds k n pc' Ls St) : Go p l e R s m args below meth c h0 Q ds k n pc Ls (.int y :: .int x :: St) := by
  subst hp
  exact K.pure fun T locs X target h => XS.icmpNo X.here C.1 rfl (hb C.2.2.2.1 hd) rfl hc h
theorem g_nullY (C : Cx p s m meth c Z a0 own bytes ml rt nm) (pc' : Nat) {o : Int} (hd : decode bytes pc = .ok (.ifnull o, 3)) (ho : 0 ≤ (pc : Int) + o) (hp : ((pc : Int) + o).toNat = pc') (K : Go p l e R s m args below meth c h0 Q ds k n pc' Ls St) : Go p l e R s m args below meth c h0 Q ds k n pc Ls (.null :: St) := K.pure fun T locs X target h => XS.ifnullYes X.here C.1 rfl rfl (hb C.2.2.2.1 hd) rfl ho hp h
theorem g_acY (C : Cx p s m meth c Z a0 own bytes ml rt nm) (pc' : Nat) {cd : ClassFile.ACond} {x y : Value} {o : Int} (hd : decode bytes pc = .ok (.if_acmp cd o, 3)) (hvx : x.isRef = true) (hvy : y.isRef = true) (hc : XT.acmp cd x y = true) (ho : 0 ≤ (pc : Int) + o) (hp : ((pc : Int) + o).toNat = pc') (K : Go p l e R s m args below meth c h0 Q ds k n pc' Ls St) : Go p l e R s m args below meth c h0 Q ds k n pc Ls (y :: x :: St) := K.pure fun T locs X target h => XT.acmpYes X.here C.1 rfl rfl (hb C.2.2.2.1 hd) rfl hvx hvy hc ho hp h
theorem g_acN (C : Cx p s m meth c Z a0 own bytes ml rt nm) (pc' : Nat) {cd : ClassFile.ACond} {x y : Value} {o : Int} (hd : decode bytes pc = .ok (.if_acmp cd o, 3)) (hvx : x.isRef = true) (hvy : y.isRef = true) (hc : XT.acmp cd x y = false) (hp : pc + 3 = pc') (K : Go p l e R s m args below meth c h0 Q ds k n pc' Ls St) : Go p l e R s m args below meth c h0 Q ds k n pc Ls (y :: x :: St) := by
  subst hp
  exact K.pure fun T locs X target h => XT.acmpNo X.here C.1 rfl (hb C.2.2.2.1 hd) rfl hvx hvy hc h
theorem g_ldcI (C : Cx p s m meth c Z a0 own bytes ml rt nm) (pc' : Nat) {i : Nat} (v : Int32) (hd : decode bytes pc = .ok (.ldc i, 2)) (hp : pc + 2 = pc') (w : Jvm.Cond.constant own i v ∈ tables_1) (K : Go p l e R s m args below meth c h0 Q ds k n pc' Ls (.int v :: St)) : Go p l e R s m args below meth c h0 Q ds k n pc Ls St := by
  subst hp
  exact K.pure fun T locs X target h => X.ldcInt C.1 C.2.2.2.2.2.1 (mvT C.2.1 (C.2.2.1 _ w)) (g := mkF m pc Ls St) rfl (hb C.2.2.2.1 hd) _ h
theorem g_ldcJ (C : Cx p s m meth c Z a0 own bytes ml rt nm) (pc' : Nat) {i : Nat} (v : Int64) (hd : decode bytes pc = .ok (.ldc2_w i, 3)) (hp : pc + 3 = pc') (w : Jvm.Cond.constantLong own i v ∈ tables_1) (K : Go p l e R s m args below meth c h0 Q ds k n pc' Ls (.long v :: St)) : Go p l e R s m args below meth c h0 Q ds k n pc Ls St := by
  subst hp
  exact K.pure fun T locs X target h => X.ldc2Long C.1 C.2.2.2.2.2.1 (mvT C.2.1 (C.2.2.1 _ w)) (g := mkF m pc Ls St) rfl (hb C.2.2.2.1 hd) _ h
/-! arrays -/
theorem IA.arr {ty : FieldType} {vs : List Value} {a : Addr} {cl : Cell} (hc : h[a]? = some cl) (d : IA Z ty vs cl) : Arr Z h a cl ty := ⟨hc, d.1, d.2.1⟩
theorem IA.size {ty : FieldType} {vs : List Value} {cl : Cell} (d : IA Z ty vs cl) : cl.slots.size = vs.length := by rw [← d.2.2]; simp
theorem IA.get {ty : FieldType} {vs : List Value} {cl : Cell} (d : IA Z ty vs cl) (i : Nat) : cl.slots[i]? = vs[i]? := by rw [← d.2.2]; simp
theorem IA.set {ty : FieldType} {vs : List Value} {cl : Cell} (d : IA Z ty vs cl) (i : Nat) (v : Value) : IA Z ty (vs.set i v) (cl.setSlot i v) := by
  refine ⟨d.1, d.2.1, ?_⟩
  rw [← d.2.2]
  simp [Cell.setSlot, Array.toList_setIfInBounds]
theorem in_of {ty : FieldType} {vs : List Value} {cl : Cell} (d : IA Z ty vs cl) {j : Int32} (hj : ¬ j < 0) (hlt : j.toNatClampNeg < vs.length) : ¬ (j < 0 ∨ cl.slots.size ≤ j.toNatClampNeg) := by
  rw [d.size]; rintro (q | q)
  · exact hj q
  · omega
theorem g_length (C : Cx p s m meth c Z a0 own bytes ml rt nm) (pc' : Nat) {i : Nat} {a : Addr} {ty : FieldType} {vs : List Value} (z : Int32) (hi : ds[i]? = some (a, IA Z ty vs)) (hd : decode bytes pc = .ok (.arraylength, 1)) (hp : pc + 1 = pc') (hz : vs.length.toInt32 = z) (K : Go p l e R s m args below meth c h0 Q ds k n pc' Ls (.int z :: St)) : Go p l e R s m args below meth c h0 Q ds k n pc Ls (.ref a :: St) := fun T locs X W N => by
  subst hp hz
  obtain ⟨ha, cl, hc, dc⟩ := W.at hi
  refine (K T locs X W N).pre fun t h => X.arraylength C.1 hc (State.isArrayOf_alike C.2.1.alike dc.1) (g := mkF m pc Ls (.ref a :: St)) rfl rfl (hb C.2.2.2.1 hd) t ?_
  rw [dc.size]; exact h
theorem g_aload_of (pc' : Nat) {i : Nat} {a : Addr} {ty : FieldType} {vs : List Value} (hi : ds[i]? = some (a, IA Z ty vs)) {j : Int32} (hj : ¬ j < 0) {v : Value} (hv : vs[j.toNatClampNeg]? = some v)
    (H : ∀ T locs (cl : Cell), Stand p l e R s m args below meth c T locs k n → T.heap[a]? = some cl → IA Z ty vs cl → ¬ (j < 0 ∨ cl.slots.size ≤ j.toNatClampNeg) → cl.slots[j.toNatClampNeg]? = some v → ∀ t, Steps p.tables e below (T.setTop (mkF m pc' Ls (v :: St))) t → Steps p.tables e below (T.setTop (mkF m pc Ls (.int j :: .ref a :: St))) t)
    (K : Go p l e R s m args below meth c h0 Q ds k n pc' Ls (v :: St)) : Go p l e R s m args below meth c h0 Q ds k n pc Ls (.int j :: .ref a :: St) := fun T locs X W N => by
  obtain ⟨ha, cl, hc, dc⟩ := W.at hi
  have hlt : j.toNatClampNeg < vs.length := (List.getElem?_eq_some_iff.mp hv).1
  exact (K T locs X W N).pre (H T locs cl X hc dc (in_of dc hj hlt) (by rw [dc.get]; exact hv))
theorem g_iaload (C : Cx p s m meth c Z a0 own bytes ml rt nm) (pc' : Nat) {i : Nat} {a : Addr} {xs : List Int32} (hi : ds[i]? = some (a, IA Z .int (ints xs))) (hd : decode bytes pc = .ok (.iaload, 1)) (hp : pc + 1 = pc') {j : Int32} (hj : ¬ j < 0) (v : Int32) (hv : xs[j.toNatClampNeg]? = some v) (K : Go p l e R s m args below meth c h0 Q ds k n pc' Ls (.int v :: St)) : Go p l e R s m args below meth c h0 Q ds k n pc Ls (.int j :: .ref a :: St) :=
  g_aload_of pc' hi hj (v := .int v) (by simp [hv]) (fun T locs cl X hc dc hin hat t h => by subst hp; exact X.iaload C.1 hc (State.isArrayOf_alike C.2.1.alike dc.1) dc.2.1 hin hat (g := mkF m pc Ls (.int j :: .ref a :: St)) rfl rfl (hb C.2.2.2.1 hd) t h) K
theorem g_caload (C : Cx p s m meth c Z a0 own bytes ml rt nm) (pc' : Nat) {i : Nat} {a : Addr} {xs : List Int32} (hi : ds[i]? = some (a, IA Z .char (ints xs))) (hd : decode bytes pc = .ok (.caload, 1)) (hp : pc + 1 = pc') {j : Int32} (hj : ¬ j < 0) (v : Int32) (hv : xs[j.toNatClampNeg]? = some v) (K : Go p l e R s m args below meth c h0 Q ds k n pc' Ls (.int v :: St)) : Go p l e R s m args below meth c h0 Q ds k n pc Ls (.int j :: .ref a :: St) :=
  g_aload_of pc' hi hj (v := .int v) (by simp [hv]) (fun T locs cl X hc dc hin hat t h => by subst hp; exact X.caload C.1 hc (State.isArrayOf_alike C.2.1.alike dc.1) dc.2.1 hin hat (g := mkF m pc Ls (.int j :: .ref a :: St)) rfl rfl (hb C.2.2.2.1 hd) t h) K
theorem g_baload (C : Cx p s m meth c Z a0 own bytes ml rt nm) (pc' : Nat) {i : Nat} {a : Addr} {xs : List Int32} (hi : ds[i]? = some (a, IA Z .byte (ints xs))) (hd : decode bytes pc = .ok (.baload, 1)) (hp : pc + 1 = pc') {j : Int32} (hj : ¬ j < 0) (v : Int32) (hv : xs[j.toNatClampNeg]? = some v) (K : Go p l e R s m args below meth c h0 Q ds k n pc' Ls (.int v :: St)) : Go p l e R s m args below meth c h0 Q ds k n pc Ls (.int j :: .ref a :: St) :=
  g_aload_of pc' hi hj (v := .int v) (by simp [hv]) (fun T locs cl X hc dc hin hat t h => by subst hp; exact X.baloadBytes C.1 hc (State.isArrayOf_alike C.2.1.alike dc.1) dc.2.1 hin hat (g := mkF m pc Ls (.int j :: .ref a :: St)) rfl rfl (hb C.2.2.2.1 hd) t h) K
theorem g_aaload (C : Cx p s m meth c Z a0 own bytes ml rt nm) (pc' : Nat) {i : Nat} {a : Addr} {ty : FieldType} {vs : List Value} (hi : ds[i]? = some (a, IA Z ty vs)) (hty : ty.isReference = true) (hd : decode bytes pc = .ok (.aaload, 1)) (hp : pc + 1 = pc') {j : Int32} (hj : ¬ j < 0) (v : Value) (hv : vs[j.toNatClampNeg]? = some v) (K : Go p l e R s m args below meth c h0 Q ds k n pc' Ls (v :: St)) : Go p l e R s m args below meth c h0 Q ds k n pc Ls (.int j :: .ref a :: St) :=
  g_aload_of pc' hi hj hv (fun T locs cl X hc dc hin hat t h => by subst hp; exact X.aaload C.1 hc (State.isArrayOf_alike C.2.1.alike dc.1) hty dc.2.1 hin hat (g := mkF m pc Ls (.int j :: .ref a :: St)) rfl rfl (hb C.2.2.2.1 hd) t h) K
theorem g_astore_of (C : Cx p s m meth c Z a0 own bytes ml rt nm) (pc' : Nat) {i : Nat} {a : Addr} {ty : FieldType} {vs vs' : List Value} (ds' : Wd) (hi : ds[i]? = some (a, IA Z ty vs)) {j : Int32} (hj : ¬ j < 0) (hlt : j.toNatClampNeg < vs.length) {v w : Value} (hvs : vs.set j.toNatClampNeg v = vs') (hds : ds.set i (a, IA Z ty vs') = ds')
    (H : ∀ T locs (cl : Cell), Stand p l e R s m args below meth c T locs k n → Arr Z T.heap a cl ty → ¬ (j < 0 ∨ cl.slots.size ≤ j.toNatClampNeg) → ∃ T' h', Stand p l e R s m args below meth c T' (locs ++ [⟨a, j.toNatClampNeg⟩]) k n ∧ T'.heap = h' ∧ Wr T.heap h' a j.toNatClampNeg v ∧ ∀ t, Steps p.tables e below (T'.setTop (mkF m pc' Ls St)) t → Steps p.tables e below (T.setTop (mkF m pc Ls (w :: .int j :: .ref a :: St))) t)
    (K : Go p l e R s m args below meth c h0 Q ds' k n pc' Ls St) : Go p l e R s m args below meth c h0 Q ds k n pc Ls (w :: .int j :: .ref a :: St) := fun T locs X W N => by
  subst hds hvs
  obtain ⟨ha, cl, hc, dc⟩ := W.at hi
  obtain ⟨T', h', X', e', wr, st⟩ := H T locs cl X (dc.arr hc) (in_of dc hj hlt)
  exact (K T' _ X' (by rw [e']; exact W.wr hi wr (fun c2 h2 _ d2 => d2.set _ _)) (Fr.snoc X' N ha)).pre st
theorem ints_set (xs : List Int32) (i : Nat) (v : Int32) : (ints xs).set i (.int v) = ints (xs.set i v) := by simp [ints, List.map_set]
theorem g_iastore (C : Cx p s m meth c Z a0 own bytes ml rt nm) (pc' : Nat) {i : Nat} {a : Addr} {xs : List Int32} (xs' : List Int32) (ds' : Wd) (hi : ds[i]? = some (a, IA Z .int (ints xs))) (hd : decode bytes pc = .ok (.iastore, 1)) (hp : pc + 1 = pc') {j v : Int32} (hj : ¬ j < 0) (hlt : j.toNatClampNeg < xs.length) (hx : xs.set j.toNatClampNeg v = xs') (hds : ds.set i (a, IA Z .int (ints xs')) = ds')
    (K : Go p l e R s m args below meth c h0 Q ds' k n pc' Ls St) : Go p l e R s m args below meth c h0 Q ds k n pc Ls (.int v :: .int j :: .ref a :: St) :=
  g_astore_of C pc' ds' hi hj (by simpa using hlt) (v := .int v) (vs' := ints xs') (by rw [ints_set, hx]) hds (fun T locs cl X A hin => by
    subst hp
    exact stI X C.1 C.2.1 rfl A hin (g := mkF m pc Ls (.int v :: .int j :: .ref a :: St)) rfl rfl (hb C.2.2.2.1 hd)) K
theorem g_castore (C : Cx p s m meth c Z a0 own bytes ml rt nm) (pc' : Nat) {i : Nat} {a : Addr} {xs : List Int32} (xs' : List Int32) (ds' : Wd) (hi : ds[i]? = some (a, IA Z .char (ints xs))) (hd : decode bytes pc = .ok (.castore, 1)) (hp : pc + 1 = pc') {j v : Int32} (hj : ¬ j < 0) (hlt : j.toNatClampNeg < xs.length) (hx : xs.set j.toNatClampNeg (nar .char v) = xs') (hds : ds.set i (a, IA Z .char (ints xs')) = ds')
    (K : Go p l e R s m args below meth c h0 Q ds' k n pc' Ls St) : Go p l e R s m args below meth c h0 Q ds k n pc Ls (.int v :: .int j :: .ref a :: St) :=
  g_astore_of C pc' ds' hi hj (by simpa using hlt) (v := .int (nar .char v)) (vs' := ints xs') (by rw [ints_set, hx]) hds (fun T locs cl X A hin => by
    subst hp
    exact stC X C.1 C.2.1 rfl A hin (g := mkF m pc Ls (.int v :: .int j :: .ref a :: St)) rfl rfl (hb C.2.2.2.1 hd)) K
theorem g_bastore (C : Cx p s m meth c Z a0 own bytes ml rt nm) (pc' : Nat) {i : Nat} {a : Addr} {xs : List Int32} (xs' : List Int32) (ds' : Wd) (hi : ds[i]? = some (a, IA Z .byte (ints xs))) (hd : decode bytes pc = .ok (.bastore, 1)) (hp : pc + 1 = pc') {j v : Int32} (hj : ¬ j < 0) (hlt : j.toNatClampNeg < xs.length) (hx : xs.set j.toNatClampNeg (nar .byte v) = xs') (hds : ds.set i (a, IA Z .byte (ints xs')) = ds')
    (K : Go p l e R s m args below meth c h0 Q ds' k n pc' Ls St) : Go p l e R s m args below meth c h0 Q ds k n pc Ls (.int v :: .int j :: .ref a :: St) :=
  g_astore_of C pc' ds' hi hj (by simpa using hlt) (v := .int (nar .byte v)) (vs' := ints xs') (by rw [ints_set, hx]) hds (fun T locs cl X A hin => by
    subst hp
    exact stB X C.1 C.2.1 rfl A hin (g := mkF m pc Ls (.int v :: .int j :: .ref a :: St)) rfl rfl (hb C.2.2.2.1 hd)) K
theorem IA.new {cA : ClassId} {ty : FieldType} {z : Int32} {a : Addr} (A : Arr Z h a (newA cA ty z) ty) : IA Z ty (List.replicate z.toNatClampNeg (defaultValue ty)) (newA cA ty z) := ⟨A.2.1, A.2.2, by simp [newA]⟩
theorem g_newarray (C : Cx p s m meth c Z a0 own bytes ml rt nm) (pc' : Nat) {aty : ArrayType} {z : Int32} (vs : List Value) (cap : Nat) (w : Jvm.Cond.arrayClass (newarray.typeOf aty) ∈ tables_1) (hd : decode bytes pc = .ok (.newarray aty, 2)) (hp : pc + 2 = pc') (hz : ¬ z < 0) (hcap : z.toNatClampNeg ≤ cap) (hcb : cap * 8 ≤ 536870912) (hk : k + 1 ≤ R.cells) (hn : n + cap ≤ R.slots)
    (hvs : List.replicate z.toNatClampNeg (defaultValue (newarray.typeOf aty)) = vs) (K : ∀ a, Go p l e R s m args below meth c h0 Q (ds ++ [(a, IA Z (newarray.typeOf aty) vs)]) (k + 1) (n + cap) pc' Ls (.ref a :: St)) : Go p l e R s m args below meth c h0 Q ds k n pc Ls (.int z :: St) := fun T locs X W N => by
  subst hp hvs
  obtain ⟨T', h', cA, X', e', E, A, st⟩ := newP X C.1 C.2.1 (C.2.2.1 _ w) rfl (g := mkF m pc Ls (.int z :: St)) rfl (hb C.2.2.2.1 hd) rfl hz hcap hcb hk hn
  exact (K T.heap.size T' locs X' (by rw [e']; exact W.new E A.1 (IA.new A)) N).pre st
/-! objects -/
theorem g_getfield (C : Cx p s m meth c Z a0 own bytes ml rt nm) (pc' : Nat) {i j idx : Nat} {a : Addr} {Cn O nf d : String} {v : Value} {fs : List Fv} (hi : ds[i]? = some (a, OB Z a0 Cn fs)) (hf : fs[j]? = some (O, nf, d, v)) (hd : decode bytes pc = .ok (.getfield idx, 3)) (hp : pc + 3 = pc') (w : Jvm.Cond.fieldLink own idx O nf d ∈ tables_1)
    (K : Go p l e R s m args below meth c h0 Q ds k n pc' Ls (v :: St)) : Go p l e R s m args below meth c h0 Q ds k n pc Ls (.ref a :: St) := fun T locs X W N => by
  subst hp
  obtain ⟨ha, cl, hc, dc⟩ := W.at hi
  obtain ⟨T', X', e', st⟩ := getF X C.1 C.2.1 C.2.2.2.2.2.1 (host := "") (Or.inl (C.2.2.1 _ w)) Via.refl rfl (dc.fld hc (List.mem_of_getElem? hf)) (g := mkF m pc Ls (.ref a :: St)) rfl rfl (hb C.2.2.2.1 hd)
  exact (K T' locs X' (by rw [e']; exact W) N).pre st
theorem OB.put {Cn O nf d : String} {v old : Value} {fs : List Fv} {j : Nat} {a : Addr} {cl : Cell} (hc : h[a]? = some cl) (dc : OB Z a0 Cn fs cl) (hf : fs[j]? = some (O, nf, d, old)) (hnd : (fs.map (fun x => x.2.1)).Nodup) (wr : Wr h h' a (Jvm.RoadKit.slotOf Z O nf d) v) : ∃ cl' : Cell, h'[a]? = some cl' ∧ OB Z a0 Cn (fs.set j (O, nf, d, v)) cl' := by
  have E : Exa Z h' a Cn := (dc.exa hc).wr wr
  obtain ⟨cl', k', hc', -⟩ := id E
  refine ⟨cl', hc', OB.of E hc' fun x hx => ?_⟩
  obtain ⟨q, hq⟩ := List.getElem?_of_mem hx
  have Fj := dc.fld hc (List.mem_of_getElem? hf)
  obtain ⟨-, Lj, tj, hj⟩ := dc.2 _ (List.mem_of_getElem? hf)
  rw [List.getElem?_set] at hq
  split at hq
  · rename_i hjq
    split at hq
    · cases hq; exact ⟨Fj.same wr, Lj, tj, hj⟩
    · cases hq
  · rename_i hjq
    obtain ⟨O', n', d', v'⟩ := x
    have Fx := dc.fld hc (List.mem_of_getElem? hq)
    obtain ⟨-, Lx, tx, hx'⟩ := dc.2 _ (List.mem_of_getElem? hq)
    refine ⟨Fx.other wr (Or.inr (slot_ne Lx Lj ?_ hx' hj)), Lx, tx, hx'⟩
    intro en
    apply hjq
    obtain ⟨l1, e1⟩ := List.getElem?_eq_some_iff.mp hf
    obtain ⟨l2, e2⟩ := List.getElem?_eq_some_iff.mp hq
    have g : (fs.map (fun x => x.2.1))[j]'(by simpa using l1) = (fs.map (fun x => x.2.1))[q]'(by simpa using l2) := by simp only [List.getElem_map, e1, e2]; exact en.symm
    exact nodup_inj hnd _ _ g
theorem Wld.wr' {i : Nat} {a : Addr} {d d' : Desc} {sl : Nat} {v : Value} {cl' : Cell} (W : Wld h0 ds h) (hi : ds[i]? = some (a, d)) (wr : Wr h h' a sl v) (hc' : h'[a]? = some cl') (dc' : d' cl') : Wld h0 (ds.set i (a, d')) h' :=
  W.wr hi wr fun c2 h2 hsl _ => by
    obtain ⟨c', e1, -, -, -, -, -, e7⟩ := wr_at wr h2
    cases e1.symm.trans hc'
    rw [← (e7 rfl).1]; exact dc'
theorem g_putfield (C : Cx p s m meth c Z a0 own bytes ml rt nm) (pc' : Nat) {i j idx kk : Nat} {a : Addr} {Cn O nf d : String} {v v' old : Value} {ty : FieldType} {fs : List Fv} (fs' : List Fv) (ds' : Wd) (hi : ds[i]? = some (a, OB Z a0 Cn fs)) (hf : fs[j]? = some (O, nf, d, old)) (hd : decode bytes pc = .ok (.putfield idx, 3)) (hp : pc + 3 = pc')
    (w : Jvm.Cond.fieldLink own idx O nf d ∈ tables_1) (L : Jvm.Cond.lays Cn O nf d ∈ tables_1 ∨ (Jvm.Cond.laysFinal Cn O nf d ∈ tables_1 ∧ own = O ∧ nm = "<init>")) (wi : Jvm.Cond.instantiable Cn kk ∈ tables_1) (hty : parseFieldDescriptor d = some ty) (hnr : narrow ty v = v') (hft : fits ty v' = true) (hnd : (fs.map (fun x => x.2.1)).Nodup)
    (hfs : fs.set j (O, nf, d, v') = fs') (hds : ds.set i (a, OB Z a0 Cn fs') = ds') (K : Go p l e R s m args below meth c h0 Q ds' k n pc' Ls St) : Go p l e R s m args below meth c h0 Q ds k n pc Ls (v :: .ref a :: St) := fun T locs X W N => by
  subst hp hfs hds
  obtain ⟨ha, cl, hc, dc⟩ := W.at hi
  obtain ⟨T', h', X', e', wr, st⟩ := putFN X C.1 C.2.1 C.2.2.2.2.2.1 (C.2.2.1 _ w) Via.refl rfl (dc.fld hc (List.mem_of_getElem? hf)) (dc.exa hc) (L.imp (fun q => C.2.2.1 _ q) (fun q => ⟨C.2.2.1 _ q.1, q.2.1, C.2.2.2.2.2.2.2.2.trans q.2.2⟩)) (C.2.2.1 _ wi) hty hnr hft (g := mkF m pc Ls (v :: .ref a :: St)) rfl rfl (hb C.2.2.2.1 hd)
  obtain ⟨cl', hc', dc'⟩ := dc.put hc hf hnd wr
  exact (K T' _ X' (by rw [e']; exact W.wr' hi wr hc' dc') (Fr.snoc X' N ha)).pre st
theorem g_new (C : Cx p s m meth c Z a0 own bytes ml rt nm) (pc' : Nat) {idx sz : Nat} {Cn : String} (fs : List Fv) (w : Jvm.Cond.classLink own idx Cn ∈ tables_1) (wi : Jvm.Cond.instantiable Cn sz ∈ tables_1) (wz : Jvm.Cond.initialized Cn ∈ tables_1) (hd : decode bytes pc = .ok (.new idx, 3)) (hp : pc + 3 = pc') (hk : k + 1 ≤ R.cells) (hn : n + sz ≤ R.slots)
    (hfs : ∀ x ∈ fs, (Jvm.Cond.lays Cn x.1 x.2.1 x.2.2.1 ∈ tables_1 ∨ Jvm.Cond.laysFinal Cn x.1 x.2.1 x.2.2.1 ∈ tables_1) ∧ ∃ t, parseFieldDescriptor x.2.2.1 = some t ∧ x.2.2.2 = defaultValue t)
    (K : ∀ a, Go p l e R s m args below meth c h0 Q (ds ++ [(a, OB Z a0 Cn fs)]) (k + 1) (n + sz) pc' Ls (.ref a :: St)) : Go p l e R s m args below meth c h0 Q ds k n pc Ls St := fun T locs X W N => by
  subst hp
  obtain ⟨T', h', X', e', E, A, D, ⟨cell, hcell, -⟩, st⟩ := newO X C.1 C.2.1 C.2.2.2.2.2.1 (C.2.2.1 _ w) (C.2.2.1 _ wi) (C.2.2.1 _ wz) rfl (g := mkF m pc Ls St) rfl (hb C.2.2.2.1 hd) hk hn
  refine (K T.heap.size T' locs X' (by
    rw [e']
    exact W.new E hcell (OB.of A hcell fun x hx => by
      obtain ⟨L, t, ht, hv⟩ := hfs x hx
      have L' : Laid Z a0 Cn x.1 x.2.1 x.2.2.1 := L.imp (fun q => C.2.2.1 _ q) (fun q => C.2.2.1 _ q)
      exact ⟨by rw [hv]; exact D L' ht, L', t, ht⟩)) N).pre st
theorem g_initO (C : Cx p s m meth c Z a0 own bytes ml rt nm) (pc' W0 : Nat) {idx : Nat} {a : Addr} (w1 : Jvm.Cond.methodLink own idx Lib.objectInit ∈ tables_1) (w2 : Jvm.Cond.instanceMethod Lib.objectInit ∈ tables_1) (w3 : Jvm.Cond.code Lib.objectInit ⟨#[0xb1]⟩ 1 none ∈ tables_1) (hd : decode bytes pc = .ok (.invokespecial idx, 3)) (hp : pc + 3 = pc') (hsz : Ls.size = ml) (hf : 1 ≤ R.frames) (hW : (St.map fun v => v.category).sum ≤ W0) (hl : W0 + 12 ≤ R.locals)
    (K : Go p l e R s m args below meth c h0 Q ds k n pc' Ls St) : Go p l e R s m args below meth c h0 Q ds k n pc Ls (.ref a :: St) := fun T locs X W N => by
  subst hp
  obtain ⟨T', X', e', st⟩ := initO X C.1 C.2.1 C.2.2.2.2.2.1 (C.2.2.1 _ w1) (C.2.2.1 _ w2) (C.2.2.1 _ w3) rfl (g := mkF m pc Ls (.ref a :: St)) rfl (by rw [C.2.2.2.2.1]; exact hsz) rfl (hb C.2.2.2.1 hd) hf (W := W0) (by show 2 * 0 + _ ≤ _; omega) hl
  exact (K T' locs X' (by rw [e']; exact W) N).pre st
/-! statics -/
theorem g_getstatic (C : Cx p s m meth c Z a0 own bytes ml rt nm) (pc' : Nat) {idx : Nat} {O nf d : String} {v : Value} (S : Sta Z h0 O nf d v) (hd : decode bytes pc = .ok (.getstatic idx, 3)) (hp : pc + 3 = pc') (w : Jvm.Cond.fieldLink own idx O nf d ∈ tables_1)
    (K : Go p l e R s m args below meth c h0 Q ds k n pc' Ls (v :: St)) : Go p l e R s m args below meth c h0 Q ds k n pc Ls St := fun T locs X W N => by
  subst hp
  obtain ⟨T', X', e', st⟩ := getS (host := "") X C.1 C.2.1 C.2.2.2.2.2.1 (C.2.2.1 _ w) Via.refl rfl (S.ext W.extOf) (g := mkF m pc Ls St) rfl (hb C.2.2.2.1 hd)
  exact (K T' locs X' (by rw [e']; exact W) N).pre st
/-! calls -/
theorem Go.back {pc' : Nat} {St' : List Value} {Q' : Option Value → Wd → Prop} {rm : Room} {locs : List Loc} {A : State} (N : Fr h0.size locs)
    (H : ∃ (v : Option Value) (B : Pt), Stand p l e R s m args below meth c B.U B.locs B.cells B.slots ∧ (∃ L, (∃ ds', Q' v ds' ∧ Wld h0 ds' B.U.heap ∧ Fr h0.size L) ∧ B.locs = locs ++ L ∧ B.cells = k + rm.cells ∧ B.slots = n + rm.slots) ∧ ∀ t, Steps p.tables e below (B.U.setTop (mkF m pc' Ls (v.toList ++ St'))) t → Steps p.tables e below A t)
    (K : ∀ v ds', Q' v ds' → Go p l e R s m args below meth c h0 Q ds' (k + rm.cells) (n + rm.slots) pc' Ls (v.toList ++ St')) :
    Ends p.tables e below A (fun o t => ∃ v L, o = .returned v ∧ (∃ ds', Q v ds' ∧ Wld h0 ds' t.heap ∧ Fr h0.size L) ∧ FrameEnd s o t L R.cells R.slots) := by
  obtain ⟨v, ⟨U, L', c', s'⟩, X', ⟨L, ⟨ds', q, W', N'⟩, e1, e2, e3⟩, st⟩ := H
  dsimp only [Pt.U, Pt.locs, Pt.cells, Pt.slots] at X' W' e1 e2 e3 st
  subst e1 e2 e3
  exact (K v ds' q U _ X' W' (N.app N')).pre st
theorem g_static (C : Cx p s m meth c Z a0 own bytes ml rt nm) (pc' W0 : Nat) {idx : Nat} {y : MethodName} {bytes' : ByteArray} {ml' : Nat} {rt' : Option FieldType} {rm : Room} {argsL : List Value} {Q' : Option Value → Wd → Prop} (con : Con l Z y bytes' ml' rt' rm h0 argsL.toArray ds Q')
    (w1 : Jvm.Cond.methodLink own idx y ∈ tables_1) (w2 : Jvm.Cond.static y ∈ tables_1) (w3 : Jvm.Cond.initialized y.cls ∈ tables_1) (w4 : Jvm.Cond.code y bytes' ml' rt' ∈ tables_1) (hy : y.cls ≠ "java/lang/invoke/MethodHandle" ∧ y.cls ≠ "java/lang/invoke/VarHandle")
    (hd : decode bytes pc = .ok (.invokestatic idx, 3)) (hp : pc + 3 = pc') (hsz : Ls.size = ml) (hlen : ∀ sig, parseMethodDescriptor y.desc = some sig → argsL.length = sig.parameters.length) {St0 : List Value} (hst : St0 = argsL.reverse ++ St) (hW : (St.map fun v => v.category).sum ≤ W0) (hf : rm.frames + 1 ≤ R.frames) (hl : W0 + (ml' + 11) + rm.locals ≤ R.locals) (hk : k + rm.cells ≤ R.cells) (hn : n + rm.slots ≤ R.slots)
    (K : ∀ v ds', Q' v ds' → Go p l e R s m args below meth c h0 Q ds' (k + rm.cells) (n + rm.slots) pc' Ls (v.toList ++ St)) : Go p l e R s m args below meth c h0 Q ds k n pc Ls St0 := fun T locs X W N => by
  subst hp hst
  refine Go.back (pc' := pc + 3) (Ls := Ls) (St' := St) N ?_ K
  obtain ⟨v, vm₁, B, -, X', hpost, st⟩ := Jvm.LawKit.callS X C.1 (y := y) C.2.2.2.2.2.1 (mvT C.2.1 (C.2.2.1 _ w1)) (mvT C.2.1 (C.2.2.1 _ w2)) (mvT C.2.1 (C.2.2.1 _ w3)) (mvT C.2.1 (C.2.2.1 _ w4)) hy
    (backOf (W := W0) (Q := fun v hh L => ∃ ds', Q' v ds' ∧ Wld h0 ds' hh ∧ Fr h0.size L) (con T.heap W []) C.2.1 (C.2.2.1 _ w4) (C.2.2.1 _ w3) hf hl) (g := mkF m pc Ls (argsL.reverse ++ St)) rfl (by rw [C.2.2.2.2.1]; exact hsz) (argsL := argsL) (rest := St) hlen rfl (by show 2 * 0 + _ ≤ _; omega) (hb C.2.2.2.1 hd) (fun _ _ => ⟨rfl, rfl, hk, hn⟩)
  obtain ⟨L, q, e1, e2, e3⟩ := hpost
  exact ⟨v, B, X', ⟨L, q, e1, e2, e3⟩, st⟩
theorem g_special (C : Cx p s m meth c Z a0 own bytes ml rt nm) (pc' W0 : Nat) {idx : Nat} {y : MethodName} {bytes' : ByteArray} {ml' : Nat} {rm : Room} {a : Addr} {argsL : List Value} {Q' : Option Value → Wd → Prop} (con : Con l Z y bytes' ml' none rm h0 (.ref a :: argsL).toArray ds Q') (hy1 : y.name = "<init>")
    (w1 : Jvm.Cond.methodLink own idx y ∈ tables_1) (w2 : Jvm.Cond.instanceMethod y ∈ tables_1) (w3 : Jvm.Cond.initialized y.cls ∈ tables_1) (w4 : Jvm.Cond.code y bytes' ml' none ∈ tables_1) (hy : y.cls ≠ "java/lang/invoke/MethodHandle" ∧ y.cls ≠ "java/lang/invoke/VarHandle")
    (hd : decode bytes pc = .ok (.invokespecial idx, 3)) (hp : pc + 3 = pc') (hsz : Ls.size = ml) (hlen : ∀ sig, parseMethodDescriptor y.desc = some sig → argsL.length = sig.parameters.length) {St0 : List Value} (hst : St0 = argsL.reverse ++ .ref a :: St) (hW : (St.map fun v => v.category).sum ≤ W0) (hf : rm.frames + 1 ≤ R.frames) (hl : W0 + (ml' + 11) + rm.locals ≤ R.locals) (hk : k + rm.cells ≤ R.cells) (hn : n + rm.slots ≤ R.slots)
    (K : ∀ v ds', Q' v ds' → Go p l e R s m args below meth c h0 Q ds' (k + rm.cells) (n + rm.slots) pc' Ls (v.toList ++ St)) : Go p l e R s m args below meth c h0 Q ds k n pc Ls St0 := fun T locs X W N => by
  subst hp hst
  refine Go.back (pc' := pc + 3) (Ls := Ls) (St' := St) N ?_ K
  obtain ⟨v, vm₁, B, -, X', hpost, st⟩ := X.specialBack C.1 (y := y) hy1 C.2.2.2.2.2.1 (mvT C.2.1 (C.2.2.1 _ w1)) (mvT C.2.1 (C.2.2.1 _ w2)) (mvT C.2.1 (C.2.2.1 _ w4)) hy
    (backOf (W := W0) (Q := fun v hh L => ∃ ds', Q' v ds' ∧ Wld h0 ds' hh ∧ Fr h0.size L) (con T.heap W []) C.2.1 (C.2.2.1 _ w4) (C.2.2.1 _ w3) hf hl) (g := mkF m pc Ls (argsL.reverse ++ .ref a :: St)) rfl (by rw [C.2.2.2.2.1]; exact hsz) (Steps.refl _) (a := a) (argsL := argsL) (rest := St) hlen rfl (by show 2 * 0 + _ ≤ _; omega) (hb C.2.2.2.1 hd) (fun _ _ => ⟨rfl, rfl, hk, hn⟩)
  obtain ⟨L, q, e1, e2, e3⟩ := hpost
  exact ⟨v, B, X', ⟨L, q, e1, e2, e3⟩, fun t h => st.trans h⟩
theorem g_virtual (C : Cx p s m meth c Z a0 own bytes ml rt nm) (pc' W0 : Nat) {i idx : Nat} {Cn : String} {fs : List Fv} {y : MethodName} {bytes' : ByteArray} {ml' : Nat} {rt' : Option FieldType} {rm : Room} {a : Addr} {argsL : List Value} {Q' : Option Value → Wd → Prop} (hi : ds[i]? = some (a, OB Z a0 Cn fs)) (con : Con l Z y bytes' ml' rt' rm h0 (.ref a :: argsL).toArray ds Q')
    (w1 : Jvm.Cond.methodLink own idx y ∈ tables_1) (w2 : Jvm.Cond.declares y ∈ tables_1) (w5 : Jvm.Cond.selects Cn y y ∈ tables_1) (w6 : Jvm.Cond.instanceMethod y ∈ tables_1) (w3 : Jvm.Cond.initialized y.cls ∈ tables_1) (w4 : Jvm.Cond.code y bytes' ml' rt' ∈ tables_1) (hy : y.cls ≠ "java/lang/invoke/MethodHandle" ∧ y.cls ≠ "java/lang/invoke/VarHandle")
    (hd : decode bytes pc = .ok (.invokevirtual idx, 3)) (hp : pc + 3 = pc') (hsz : Ls.size = ml) (hlen : ∀ sig, parseMethodDescriptor y.desc = some sig → argsL.length = sig.parameters.length) {St0 : List Value} (hst : St0 = argsL.reverse ++ .ref a :: St) (hW : (St.map fun v => v.category).sum ≤ W0) (hf : rm.frames + 1 ≤ R.frames) (hl : W0 + (ml' + 11) + rm.locals ≤ R.locals) (hk : k + rm.cells ≤ R.cells) (hn : n + rm.slots ≤ R.slots)
    (K : ∀ v ds', Q' v ds' → Go p l e R s m args below meth c h0 Q ds' (k + rm.cells) (n + rm.slots) pc' Ls (v.toList ++ St)) : Go p l e R s m args below meth c h0 Q ds k n pc Ls St0 := fun T locs X W N => by
  subst hp hst
  refine Go.back (pc' := pc + 3) (Ls := Ls) (St' := St) N ?_ K
  obtain ⟨ha, cl, hc, dc⟩ := W.at hi
  obtain ⟨cq, kq, qa, qb, qc⟩ := isOf C.2.1 rfl (dc.exa hc)
  obtain ⟨v, vm₁, B, -, X', hpost, st⟩ := X.virtualBack C.1 (y := y) (z := y) C.2.2.2.2.2.1 (mvT C.2.1 (C.2.2.1 _ w1)) (mvT C.2.1 (C.2.2.1 _ w2)) (notFace_of_selects (args := #[]) (mvT C.2.1 (C.2.2.1 _ w5))) (mvT C.2.1 (C.2.2.1 _ w5)) (mvT C.2.1 (C.2.2.1 _ w6)) hy
    (backOf (W := W0) (Q := fun v hh L => ∃ ds', Q' v ds' ∧ Wld h0 ds' hh ∧ Fr h0.size L) (con T.heap W []) C.2.1 (C.2.2.1 _ w4) (C.2.2.1 _ w3) hf hl) qa qc (g := mkF m pc Ls (argsL.reverse ++ .ref a :: St)) rfl (by rw [C.2.2.2.2.1]; exact hsz) (Steps.refl _) (argsL := argsL) (rest := St) hlen rfl (by show 2 * 0 + _ ≤ _; omega) (hb C.2.2.2.1 hd) (fun _ _ => ⟨rfl, rfl, hk, hn⟩)
  obtain ⟨L, q, e1, e2, e3⟩ := hpost
  exact ⟨v, B, X', ⟨L, q, e1, e2, e3⟩, fun t h => st.trans h⟩
end Own
def own_el (xs : List Int32) (j : Int32) : Int32 := xs.getD j.toNatClampNeg 0
theorem own_lt {x a b : Int32} (h : x < a) (hd : a.toInt ≤ b.toInt) : x < b := by rw [Int32.lt_iff_toInt_lt] at *; omega
theorem own_nlt {x a b : Int32} (h : a < x) (hd : b.toInt ≤ a.toInt + 1) : ¬ x < b := by rw [Int32.lt_iff_toInt_lt] at *; omega
theorem own_add {x k : Int32} (h1 : 0 ≤ x.toInt) (h2 : x.toInt ≤ 1000) (h3 : 0 ≤ k.toInt) (h4 : k.toInt ≤ 1000) : (x + k).toInt = x.toInt + k.toInt := by
  rw [Int32.toInt_add]; exact Int.bmod_eq_of_le (by omega) (by omega)
theorem own_ix0 {x : Int32} (h1 : 0 ≤ x.toInt) : ¬ x < 0 := by
  rw [Int32.lt_iff_toInt_lt]; have : (0 : Int32).toInt = 0 := rfl; omega
theorem own_get {xs : List Int32} {x : Int32} (h1 : 0 ≤ x.toInt) (h2 : x.toInt < xs.length) : xs[x.toNatClampNeg]? = some (own_el xs x) := by
  have h : x.toNatClampNeg < xs.length := by show x.toInt.toNat < _; omega
  unfold own_el
  rw [List.getD_eq_getElem?_getD, List.getElem?_eq_getElem h]; rfl
theorem own_ix1 {xs : List Int32} {x : Int32} (h1 : 0 ≤ x.toInt) (h2 : x.toInt < xs.length) : xs[x.toNatClampNeg]? = some (own_el xs x) := own_get h1 h2
theorem own_ix5 {xs : List Int32} {x k : Int32} (h1 : 0 ≤ x.toInt) (h2 : x.toInt < xs.length) (h3 : xs.length ≤ 8) (hk : 0 ≤ k.toInt) (hk4 : k.toInt ≤ 4) : 0 ≤ (x + k).toInt := by
  rw [own_add h1 (by omega) hk (by omega)]; omega
theorem own_ix2 {xs : List Int32} {x k : Int32} (h1 : 0 ≤ x.toInt) (h2 : x.toInt < xs.length) (h3 : xs.length ≤ 8) (hk : 0 ≤ k.toInt) (hk4 : k.toInt ≤ 4) : ¬ (x + k) < 0 := own_ix0 (own_ix5 h1 h2 h3 hk hk4)
theorem own_nn {xs : List Int32} {n : Int32} (h3 : xs.length ≤ 8) (hn : (List.map Value.int xs).length.toInt32 = n) : n.toInt = xs.length := by
  subst hn
  rw [List.length_map]
  have : xs.length = 0 ∨ xs.length = 1 ∨ xs.length = 2 ∨ xs.length = 3 ∨ xs.length = 4 ∨ xs.length = 5 ∨ xs.length = 6 ∨ xs.length = 7 ∨ xs.length = 8 := by omega
  rcases this with h | h | h | h | h | h | h | h | h <;> rw [h] <;> rfl
theorem own_ix3 {xs : List Int32} {x k n t : Int32} (h1 : 0 ≤ x.toInt) (h2 : x.toInt < xs.length) (h3 : xs.length ≤ 8) (hn : (List.map Value.int xs).length.toInt32 = n) (ht : ¬ n < (x + t)) (hk : 0 ≤ k.toInt) (hkt : k.toInt < t.toInt) (ht4 : t.toInt ≤ 4) : xs[(x + k).toNatClampNeg]? = some (own_el xs (x + k)) := by
  have e := own_nn h3 hn
  have e1 := own_add (x := x) (k := k) h1 (by omega) hk (by omega)
  have e2 := own_add (x := x) (k := t) h1 (by omega) (by omega) (by omega)
  rw [Int32.lt_iff_toInt_lt] at ht
  exact own_get (by omega) (by omega)
theorem own_ix4 {xs : List Int32} {x n : Int32} (h1 : 0 ≤ x.toInt) (h3 : xs.length ≤ 8) (hn : (List.map Value.int xs).length.toInt32 = n) (ht : x < n) : xs[x.toNatClampNeg]? = some (own_el xs x) := by
  have e := own_nn h3 hn
  rw [Int32.lt_iff_toInt_lt] at ht
  exact own_get h1 (by omega)

theorem d1_0 : decode prog_13_method_2_code 0 = .ok (.aload_n 0, 1) := by decide +kernel
theorem d1_1 : decode prog_13_method_2_code 1 = .ok (.iload_n 1, 1) := by decide +kernel
theorem d1_2 : decode prog_13_method_2_code 2 = .ok (.baload, 1) := by decide +kernel
theorem d1_3 : decode prog_13_method_2_code 3 = .ok (.sipush 255, 3) := by decide +kernel
theorem d1_6 : decode prog_13_method_2_code 6 = .ok (.iand, 1) := by decide +kernel
theorem d1_7 : decode prog_13_method_2_code 7 = .ok (.istore_n 2, 1) := by decide +kernel
theorem d1_8 : decode prog_13_method_2_code 8 = .ok (.iconst 0, 1) := by decide +kernel
theorem d1_9 : decode prog_13_method_2_code 9 = .ok (.istore_n 3, 1) := by decide +kernel
theorem d1_10 : decode prog_13_method_2_code 10 = .ok (.sipush 128, 3) := by decide +kernel
theorem d1_13 : decode prog_13_method_2_code 13 = .ok (.istore 4, 2) := by decide +kernel
theorem d1_15 : decode prog_13_method_2_code 15 = .ok (.sipush 191, 3) := by decide +kernel
theorem d1_18 : decode prog_13_method_2_code 18 = .ok (.istore 5, 2) := by decide +kernel
theorem d1_20 : decode prog_13_method_2_code 20 = .ok (.iload_n 2, 1) := by decide +kernel
theorem d1_21 : decode prog_13_method_2_code 21 = .ok (.sipush 128, 3) := by decide +kernel
theorem d1_24 : decode prog_13_method_2_code 24 = .ok (.if_icmp .ge 8, 3) := by decide +kernel
theorem d1_27 : decode prog_13_method_2_code 27 = .ok (.iconst 1, 1) := by decide +kernel
theorem d1_28 : decode prog_13_method_2_code 28 = .ok (.istore_n 3, 1) := by decide +kernel
theorem d1_29 : decode prog_13_method_2_code 29 = .ok (.goto 125, 3) := by decide +kernel
theorem d1_32 : decode prog_13_method_2_code 32 = .ok (.iload_n 2, 1) := by decide +kernel
theorem d1_33 : decode prog_13_method_2_code 33 = .ok (.sipush 194, 3) := by decide +kernel
theorem d1_36 : decode prog_13_method_2_code 36 = .ok (.if_icmp .lt 15, 3) := by decide +kernel
theorem d1_39 : decode prog_13_method_2_code 39 = .ok (.iload_n 2, 1) := by decide +kernel
theorem d1_40 : decode prog_13_method_2_code 40 = .ok (.sipush 223, 3) := by decide +kernel
theorem d1_43 : decode prog_13_method_2_code 43 = .ok (.if_icmp .gt 8, 3) := by decide +kernel
theorem d1_46 : decode prog_13_method_2_code 46 = .ok (.iconst 2, 1) := by decide +kernel
theorem d1_47 : decode prog_13_method_2_code 47 = .ok (.istore_n 3, 1) := by decide +kernel
theorem d1_48 : decode prog_13_method_2_code 48 = .ok (.goto 106, 3) := by decide +kernel
theorem d1_51 : decode prog_13_method_2_code 51 = .ok (.iload_n 2, 1) := by decide +kernel
theorem d1_52 : decode prog_13_method_2_code 52 = .ok (.sipush 224, 3) := by decide +kernel
theorem d1_55 : decode prog_13_method_2_code 55 = .ok (.if_icmp .lt 49, 3) := by decide +kernel
theorem d1_58 : decode prog_13_method_2_code 58 = .ok (.iload_n 2, 1) := by decide +kernel
theorem d1_59 : decode prog_13_method_2_code 59 = .ok (.sipush 239, 3) := by decide +kernel
theorem d1_62 : decode prog_13_method_2_code 62 = .ok (.if_icmp .gt 42, 3) := by decide +kernel
theorem d1_65 : decode prog_13_method_2_code 65 = .ok (.iconst 3, 1) := by decide +kernel
theorem d1_66 : decode prog_13_method_2_code 66 = .ok (.istore_n 3, 1) := by decide +kernel
theorem d1_67 : decode prog_13_method_2_code 67 = .ok (.iload_n 2, 1) := by decide +kernel
theorem d1_68 : decode prog_13_method_2_code 68 = .ok (.sipush 224, 3) := by decide +kernel
theorem d1_71 : decode prog_13_method_2_code 71 = .ok (.if_icmp .ne 9, 3) := by decide +kernel
theorem d1_74 : decode prog_13_method_2_code 74 = .ok (.sipush 160, 3) := by decide +kernel
theorem d1_77 : decode prog_13_method_2_code 77 = .ok (.goto 5, 3) := by decide +kernel
theorem d1_80 : decode prog_13_method_2_code 80 = .ok (.iload 4, 2) := by decide +kernel
theorem d1_82 : decode prog_13_method_2_code 82 = .ok (.istore 4, 2) := by decide +kernel
theorem d1_84 : decode prog_13_method_2_code 84 = .ok (.iload_n 2, 1) := by decide +kernel
theorem d1_85 : decode prog_13_method_2_code 85 = .ok (.sipush 237, 3) := by decide +kernel
theorem d1_88 : decode prog_13_method_2_code 88 = .ok (.if_icmp .ne 9, 3) := by decide +kernel
theorem d1_91 : decode prog_13_method_2_code 91 = .ok (.sipush 159, 3) := by decide +kernel
theorem d1_94 : decode prog_13_method_2_code 94 = .ok (.goto 5, 3) := by decide +kernel
theorem d1_97 : decode prog_13_method_2_code 97 = .ok (.iload 5, 2) := by decide +kernel
theorem d1_99 : decode prog_13_method_2_code 99 = .ok (.istore 5, 2) := by decide +kernel
theorem d1_101 : decode prog_13_method_2_code 101 = .ok (.goto 53, 3) := by decide +kernel
theorem d1_104 : decode prog_13_method_2_code 104 = .ok (.iload_n 2, 1) := by decide +kernel
theorem d1_105 : decode prog_13_method_2_code 105 = .ok (.sipush 240, 3) := by decide +kernel
theorem d1_108 : decode prog_13_method_2_code 108 = .ok (.if_icmp .lt 46, 3) := by decide +kernel
theorem d1_111 : decode prog_13_method_2_code 111 = .ok (.iload_n 2, 1) := by decide +kernel
theorem d1_112 : decode prog_13_method_2_code 112 = .ok (.sipush 244, 3) := by decide +kernel
theorem d1_115 : decode prog_13_method_2_code 115 = .ok (.if_icmp .gt 39, 3) := by decide +kernel
theorem d1_118 : decode prog_13_method_2_code 118 = .ok (.iconst 4, 1) := by decide +kernel
theorem d1_119 : decode prog_13_method_2_code 119 = .ok (.istore_n 3, 1) := by decide +kernel
theorem d1_120 : decode prog_13_method_2_code 120 = .ok (.iload_n 2, 1) := by decide +kernel
theorem d1_121 : decode prog_13_method_2_code 121 = .ok (.sipush 240, 3) := by decide +kernel
theorem d1_124 : decode prog_13_method_2_code 124 = .ok (.if_icmp .ne 9, 3) := by decide +kernel
theorem d1_127 : decode prog_13_method_2_code 127 = .ok (.sipush 144, 3) := by decide +kernel
theorem d1_130 : decode prog_13_method_2_code 130 = .ok (.goto 5, 3) := by decide +kernel
theorem d1_133 : decode prog_13_method_2_code 133 = .ok (.iload 4, 2) := by decide +kernel
theorem d1_135 : decode prog_13_method_2_code 135 = .ok (.istore 4, 2) := by decide +kernel
theorem d1_137 : decode prog_13_method_2_code 137 = .ok (.iload_n 2, 1) := by decide +kernel
theorem d1_138 : decode prog_13_method_2_code 138 = .ok (.sipush 244, 3) := by decide +kernel
theorem d1_141 : decode prog_13_method_2_code 141 = .ok (.if_icmp .ne 9, 3) := by decide +kernel
theorem d1_144 : decode prog_13_method_2_code 144 = .ok (.sipush 143, 3) := by decide +kernel
theorem d1_147 : decode prog_13_method_2_code 147 = .ok (.goto 5, 3) := by decide +kernel
theorem d1_150 : decode prog_13_method_2_code 150 = .ok (.iload 5, 2) := by decide +kernel
theorem d1_152 : decode prog_13_method_2_code 152 = .ok (.istore 5, 2) := by decide +kernel
theorem d1_154 : decode prog_13_method_2_code 154 = .ok (.iload_n 1, 1) := by decide +kernel
theorem d1_155 : decode prog_13_method_2_code 155 = .ok (.iload_n 3, 1) := by decide +kernel
theorem d1_156 : decode prog_13_method_2_code 156 = .ok (.iadd, 1) := by decide +kernel
theorem d1_157 : decode prog_13_method_2_code 157 = .ok (.aload_n 0, 1) := by decide +kernel
theorem d1_158 : decode prog_13_method_2_code 158 = .ok (.arraylength, 1) := by decide +kernel
theorem d1_159 : decode prog_13_method_2_code 159 = .ok (.if_icmp .le 5, 3) := by decide +kernel
theorem d1_162 : decode prog_13_method_2_code 162 = .ok (.iconst 0, 1) := by decide +kernel
theorem d1_163 : decode prog_13_method_2_code 163 = .ok (.istore_n 3, 1) := by decide +kernel
theorem d1_164 : decode prog_13_method_2_code 164 = .ok (.iconst 1, 1) := by decide +kernel
theorem d1_165 : decode prog_13_method_2_code 165 = .ok (.istore 6, 2) := by decide +kernel
theorem d1_167 : decode prog_13_method_2_code 167 = .ok (.iload 6, 2) := by decide +kernel
theorem d1_169 : decode prog_13_method_2_code 169 = .ok (.iload_n 3, 1) := by decide +kernel
theorem d1_170 : decode prog_13_method_2_code 170 = .ok (.if_icmp .ge 61, 3) := by decide +kernel
theorem d1_173 : decode prog_13_method_2_code 173 = .ok (.aload_n 0, 1) := by decide +kernel
theorem d1_174 : decode prog_13_method_2_code 174 = .ok (.iload_n 1, 1) := by decide +kernel
theorem d1_175 : decode prog_13_method_2_code 175 = .ok (.iload 6, 2) := by decide +kernel
theorem d1_177 : decode prog_13_method_2_code 177 = .ok (.iadd, 1) := by decide +kernel
theorem d1_178 : decode prog_13_method_2_code 178 = .ok (.baload, 1) := by decide +kernel
theorem d1_179 : decode prog_13_method_2_code 179 = .ok (.sipush 255, 3) := by decide +kernel
theorem d1_182 : decode prog_13_method_2_code 182 = .ok (.iand, 1) := by decide +kernel
theorem d1_183 : decode prog_13_method_2_code 183 = .ok (.istore 7, 2) := by decide +kernel
theorem d1_185 : decode prog_13_method_2_code 185 = .ok (.iload 7, 2) := by decide +kernel
theorem d1_187 : decode prog_13_method_2_code 187 = .ok (.iload 6, 2) := by decide +kernel
theorem d1_189 : decode prog_13_method_2_code 189 = .ok (.iconst 1, 1) := by decide +kernel
theorem d1_190 : decode prog_13_method_2_code 190 = .ok (.if_icmp .ne 8, 3) := by decide +kernel
theorem d1_193 : decode prog_13_method_2_code 193 = .ok (.iload 4, 2) := by decide +kernel
theorem d1_195 : decode prog_13_method_2_code 195 = .ok (.goto 6, 3) := by decide +kernel
theorem d1_198 : decode prog_13_method_2_code 198 = .ok (.sipush 128, 3) := by decide +kernel
theorem d1_201 : decode prog_13_method_2_code 201 = .ok (.if_icmp .lt 22, 3) := by decide +kernel
theorem d1_204 : decode prog_13_method_2_code 204 = .ok (.iload 7, 2) := by decide +kernel
theorem d1_206 : decode prog_13_method_2_code 206 = .ok (.iload 6, 2) := by decide +kernel
theorem d1_208 : decode prog_13_method_2_code 208 = .ok (.iconst 1, 1) := by decide +kernel
theorem d1_209 : decode prog_13_method_2_code 209 = .ok (.if_icmp .ne 8, 3) := by decide +kernel
theorem d1_212 : decode prog_13_method_2_code 212 = .ok (.iload 5, 2) := by decide +kernel
theorem d1_214 : decode prog_13_method_2_code 214 = .ok (.goto 6, 3) := by decide +kernel
theorem d1_217 : decode prog_13_method_2_code 217 = .ok (.sipush 191, 3) := by decide +kernel
theorem d1_220 : decode prog_13_method_2_code 220 = .ok (.if_icmp .le 5, 3) := by decide +kernel
theorem d1_223 : decode prog_13_method_2_code 223 = .ok (.iconst 0, 1) := by decide +kernel
theorem d1_224 : decode prog_13_method_2_code 224 = .ok (.istore_n 3, 1) := by decide +kernel
theorem d1_225 : decode prog_13_method_2_code 225 = .ok (.iinc 6 1, 3) := by decide +kernel
theorem d1_228 : decode prog_13_method_2_code 228 = .ok (.goto (-61), 3) := by decide +kernel
theorem d1_231 : decode prog_13_method_2_code 231 = .ok (.iload_n 3, 1) := by decide +kernel
theorem d1_232 : decode prog_13_method_2_code 232 = .ok (.ireturn, 1) := by decide +kernel
def f_u8 (b0 b1 b2 b3 n x1 : Int32) : Int32 := (if (b0 &&& (255 : Int32)) < (128 : Int32) then (if n < (x1 + (1 : Int32)) then (0 : Int32) else (1 : Int32)) else (if (b0 &&& (255 : Int32)) < (194 : Int32) then (if n < (x1 + (0 : Int32)) then (0 : Int32) else (0 : Int32)) else (if (223 : Int32) < (b0 &&& (255 : Int32)) then (if (239 : Int32) < (b0 &&& (255 : Int32)) then (if (244 : Int32) < (b0 &&& (255 : Int32)) then (if n < (x1 + (0 : Int32)) then (0 : Int32) else (0 : Int32)) else (if (b0 &&& (255 : Int32)) = (240 : Int32) then (if n < (x1 + (4 : Int32)) then (0 : Int32) else (if (b1 &&& (255 : Int32)) < (144 : Int32) then (0 : Int32) else (if (191 : Int32) < (b1 &&& (255 : Int32)) then (0 : Int32) else (if (b2 &&& (255 : Int32)) < (128 : Int32) then (0 : Int32) else (if (191 : Int32) < (b2 &&& (255 : Int32)) then (0 : Int32) else (if (b3 &&& (255 : Int32)) < (128 : Int32) then (0 : Int32) else (if (191 : Int32) < (b3 &&& (255 : Int32)) then (0 : Int32) else (4 : Int32)))))))) else (if (b0 &&& (255 : Int32)) = (244 : Int32) then (if n < (x1 + (4 : Int32)) then (0 : Int32) else (if (b1 &&& (255 : Int32)) < (128 : Int32) then (0 : Int32) else (if (143 : Int32) < (b1 &&& (255 : Int32)) then (0 : Int32) else (if (b2 &&& (255 : Int32)) < (128 : Int32) then (0 : Int32) else (if (191 : Int32) < (b2 &&& (255 : Int32)) then (0 : Int32) else (if (b3 &&& (255 : Int32)) < (128 : Int32) then (0 : Int32) else (if (191 : Int32) < (b3 &&& (255 : Int32)) then (0 : Int32) else (4 : Int32)))))))) else (if n < (x1 + (4 : Int32)) then (0 : Int32) else (if (b1 &&& (255 : Int32)) < (128 : Int32) then (0 : Int32) else (if (191 : Int32) < (b1 &&& (255 : Int32)) then (0 : Int32) else (if (b2 &&& (255 : Int32)) < (128 : Int32) then (0 : Int32) else (if (191 : Int32) < (b2 &&& (255 : Int32)) then (0 : Int32) else (if (b3 &&& (255 : Int32)) < (128 : Int32) then (0 : Int32) else (if (191 : Int32) < (b3 &&& (255 : Int32)) then (0 : Int32) else (4 : Int32))))))))))) else (if (b0 &&& (255 : Int32)) = (224 : Int32) then (if n < (x1 + (3 : Int32)) then (0 : Int32) else (if (b1 &&& (255 : Int32)) < (160 : Int32) then (0 : Int32) else (if (191 : Int32) < (b1 &&& (255 : Int32)) then (0 : Int32) else (if (b2 &&& (255 : Int32)) < (128 : Int32) then (0 : Int32) else (if (191 : Int32) < (b2 &&& (255 : Int32)) then (0 : Int32) else (3 : Int32)))))) else (if (b0 &&& (255 : Int32)) = (237 : Int32) then (if n < (x1 + (3 : Int32)) then (0 : Int32) else (if (b1 &&& (255 : Int32)) < (128 : Int32) then (0 : Int32) else (if (159 : Int32) < (b1 &&& (255 : Int32)) then (0 : Int32) else (if (b2 &&& (255 : Int32)) < (128 : Int32) then (0 : Int32) else (if (191 : Int32) < (b2 &&& (255 : Int32)) then (0 : Int32) else (3 : Int32)))))) else (if n < (x1 + (3 : Int32)) then (0 : Int32) else (if (b1 &&& (255 : Int32)) < (128 : Int32) then (0 : Int32) else (if (191 : Int32) < (b1 &&& (255 : Int32)) then (0 : Int32) else (if (b2 &&& (255 : Int32)) < (128 : Int32) then (0 : Int32) else (if (191 : Int32) < (b2 &&& (255 : Int32)) then (0 : Int32) else (3 : Int32))))))))) else (if n < (x1 + (2 : Int32)) then (0 : Int32) else (if (b1 &&& (255 : Int32)) < (128 : Int32) then (0 : Int32) else (if (191 : Int32) < (b1 &&& (255 : Int32)) then (0 : Int32) else (2 : Int32)))))))
set_option maxRecDepth 65536 in
set_option maxHeartbeats 40000000 in
theorem con_f_u8 (l : Launch) (Z : State) (a0 : Array Value) (hw : ∀ d ∈ tables_1, d.before a0 Z = true) (h0 : Heap) (ds : Wd) (q : Nat) (a : Addr) (xs : List Int32) (n x1 : Int32) (hi : ds[q]? = some (a, IA Z .byte (ints xs))) (h1 : 0 ≤ x1.toInt) (h2 : x1.toInt < xs.length) (h3 : xs.length ≤ 8) (hn : (ints xs).length.toInt32 = n) :
    Con l Z (⟨"com/example/vestwork/vestwork/actuarial/XmlBytes", "utf8Length", "([BI)I"⟩ : MethodName) prog_13_method_2_code 8 (some .int) ({ frames := 0, cells := 0, slots := 0, locals := 0 } : Room) h0 #[(.ref a), (.int x1)] ds (fun v ds' => v = some (.int (f_u8 (own_el xs x1) (own_el xs (x1 + (1 : Int32))) (own_el xs (x1 + (2 : Int32))) (own_el xs (x1 + (3 : Int32))) n x1)) ∧ ds = ds') := by
  refine con_of (a0 := a0) (Ls := #[.val (.ref a), .val (.int x1), .unset, .unset, .unset, .unset, .unset, .unset]) (plainFor_of_name (by first | (simp [plainName, overriddenIn]; done) | decide +kernel)) hw (fun m => by first | (simp [entryFrame, mkF, argsToLocals, Value.category]; done) | rfl) ?_
  intro p e s m below meth c C
  refine g_aloadN C 1 d1_0 rfl rfl rfl ?_
  refine g_iloadN C 2 d1_1 rfl rfl ?_
  refine g_baload C 3 hi d1_2 rfl (own_ix0 h1) (own_el xs x1) (own_ix1 h1 h2) ?_
  refine g_sipush C 6 (255 : Int32) d1_3 rfl rfl ?_
  refine g_iand C 7 d1_6 rfl ?_
  refine g_istoreN C 8 #[.val (.ref a), .val (.int x1), .val (.int ((own_el xs x1) &&& (255 : Int32))), .unset, .unset, .unset, .unset, .unset] d1_7 rfl rfl ?_
  refine g_iconst C 9 (0 : Int32) d1_8 rfl rfl ?_
  refine g_istoreN C 10 #[.val (.ref a), .val (.int x1), .val (.int ((own_el xs x1) &&& (255 : Int32))), .val (.int (0 : Int32)), .unset, .unset, .unset, .unset] d1_9 rfl rfl ?_
  refine g_sipush C 13 (128 : Int32) d1_10 rfl rfl ?_
  refine g_istore C 15 #[.val (.ref a), .val (.int x1), .val (.int ((own_el xs x1) &&& (255 : Int32))), .val (.int (0 : Int32)), .val (.int (128 : Int32)), .unset, .unset, .unset] d1_13 rfl rfl ?_
  refine g_sipush C 18 (191 : Int32) d1_15 rfl rfl ?_
  refine g_istore C 20 #[.val (.ref a), .val (.int x1), .val (.int ((own_el xs x1) &&& (255 : Int32))), .val (.int (0 : Int32)), .val (.int (128 : Int32)), .val (.int (191 : Int32)), .unset, .unset] d1_18 rfl rfl ?_
  refine g_iloadN C 21 d1_20 rfl rfl ?_
  refine g_sipush C 24 (128 : Int32) d1_21 rfl rfl ?_
  by_cases c1 : ((own_el xs x1) &&& (255 : Int32)) < (128 : Int32)
  · refine g_icN C 27 d1_24 (tlt c1).2.1 rfl ?_
    refine g_iconst C 28 (1 : Int32) d1_27 rfl rfl ?_
    refine g_istoreN C 29 #[.val (.ref a), .val (.int x1), .val (.int ((own_el xs x1) &&& (255 : Int32))), .val (.int (1 : Int32)), .val (.int (128 : Int32)), .val (.int (191 : Int32)), .unset, .unset] d1_28 rfl rfl ?_
    refine g_goto C 154 d1_29 (by decide) (by decide) ?_
    refine g_iloadN C 155 d1_154 rfl rfl ?_
    refine g_iloadN C 156 d1_155 rfl rfl ?_
    refine g_iadd C 157 d1_156 rfl ?_
    refine g_aloadN C 158 d1_157 rfl rfl rfl ?_
    refine g_length C 159 n hi d1_158 rfl hn ?_
    by_cases c2 : n < (x1 + (1 : Int32))
    · refine g_icN C 162 d1_159 (tlt c2).2.2.2 rfl ?_
      refine g_iconst C 163 (0 : Int32) d1_162 rfl rfl ?_
      refine g_istoreN C 164 #[.val (.ref a), .val (.int x1), .val (.int ((own_el xs x1) &&& (255 : Int32))), .val (.int (0 : Int32)), .val (.int (128 : Int32)), .val (.int (191 : Int32)), .unset, .unset] d1_163 rfl rfl ?_
      refine g_iconst C 165 (1 : Int32) d1_164 rfl rfl ?_
      refine g_istore C 167 #[.val (.ref a), .val (.int x1), .val (.int ((own_el xs x1) &&& (255 : Int32))), .val (.int (0 : Int32)), .val (.int (128 : Int32)), .val (.int (191 : Int32)), .val (.int (1 : Int32)), .unset] d1_165 rfl rfl ?_
      refine g_iload C 169 d1_167 rfl rfl ?_
      refine g_iloadN C 170 d1_169 rfl rfl ?_
      refine g_icY C 231 d1_170 (flt ((by decide) : ¬ ((1 : Int32) < (0 : Int32)))).2.1 (by decide) (by decide) ?_
      refine g_iloadN C 232 d1_231 rfl rfl ?_
      exact g_iret C d1_232 (by decide) (by decide) ⟨by rw [f_u8, if_pos c1, if_pos c2], rfl⟩
    · refine g_icY C 164 d1_159 (flt c2).2.2.2 (by decide) (by decide) ?_
      refine g_iconst C 165 (1 : Int32) d1_164 rfl rfl ?_
      refine g_istore C 167 #[.val (.ref a), .val (.int x1), .val (.int ((own_el xs x1) &&& (255 : Int32))), .val (.int (1 : Int32)), .val (.int (128 : Int32)), .val (.int (191 : Int32)), .val (.int (1 : Int32)), .unset] d1_165 rfl rfl ?_
      refine g_iload C 169 d1_167 rfl rfl ?_
      refine g_iloadN C 170 d1_169 rfl rfl ?_
      refine g_icY C 231 d1_170 (flt ((by decide) : ¬ ((1 : Int32) < (1 : Int32)))).2.1 (by decide) (by decide) ?_
      refine g_iloadN C 232 d1_231 rfl rfl ?_
      exact g_iret C d1_232 (by decide) (by decide) ⟨by rw [f_u8, if_pos c1, if_neg c2], rfl⟩
  · refine g_icY C 32 d1_24 (flt c1).2.1 (by decide) (by decide) ?_
    refine g_iloadN C 33 d1_32 rfl rfl ?_
    refine g_sipush C 36 (194 : Int32) d1_33 rfl rfl ?_
    by_cases c3 : ((own_el xs x1) &&& (255 : Int32)) < (194 : Int32)
    · refine g_icY C 51 d1_36 (tlt c3).1 (by decide) (by decide) ?_
      refine g_iloadN C 52 d1_51 rfl rfl ?_
      refine g_sipush C 55 (224 : Int32) d1_52 rfl rfl ?_
      refine g_icY C 104 d1_55 (tlt (own_lt c3 (by decide) : ((own_el xs x1) &&& (255 : Int32)) < (224 : Int32))).1 (by decide) (by decide) ?_
      refine g_iloadN C 105 d1_104 rfl rfl ?_
      refine g_sipush C 108 (240 : Int32) d1_105 rfl rfl ?_
      refine g_icY C 154 d1_108 (tlt (own_lt c3 (by decide) : ((own_el xs x1) &&& (255 : Int32)) < (240 : Int32))).1 (by decide) (by decide) ?_
      refine g_iloadN C 155 d1_154 rfl rfl ?_
      refine g_iloadN C 156 d1_155 rfl rfl ?_
      refine g_iadd C 157 d1_156 rfl ?_
      refine g_aloadN C 158 d1_157 rfl rfl rfl ?_
      refine g_length C 159 n hi d1_158 rfl hn ?_
      by_cases c4 : n < (x1 + (0 : Int32))
      · refine g_icN C 162 d1_159 (tlt c4).2.2.2 rfl ?_
        refine g_iconst C 163 (0 : Int32) d1_162 rfl rfl ?_
        refine g_istoreN C 164 #[.val (.ref a), .val (.int x1), .val (.int ((own_el xs x1) &&& (255 : Int32))), .val (.int (0 : Int32)), .val (.int (128 : Int32)), .val (.int (191 : Int32)), .unset, .unset] d1_163 rfl rfl ?_
        refine g_iconst C 165 (1 : Int32) d1_164 rfl rfl ?_
        refine g_istore C 167 #[.val (.ref a), .val (.int x1), .val (.int ((own_el xs x1) &&& (255 : Int32))), .val (.int (0 : Int32)), .val (.int (128 : Int32)), .val (.int (191 : Int32)), .val (.int (1 : Int32)), .unset] d1_165 rfl rfl ?_
        refine g_iload C 169 d1_167 rfl rfl ?_
        refine g_iloadN C 170 d1_169 rfl rfl ?_
        refine g_icY C 231 d1_170 (flt ((by decide) : ¬ ((1 : Int32) < (0 : Int32)))).2.1 (by decide) (by decide) ?_
        refine g_iloadN C 232 d1_231 rfl rfl ?_
        exact g_iret C d1_232 (by decide) (by decide) ⟨by rw [f_u8, if_neg c1, if_pos c3, if_pos c4], rfl⟩
      · refine g_icY C 164 d1_159 (flt c4).2.2.2 (by decide) (by decide) ?_
        refine g_iconst C 165 (1 : Int32) d1_164 rfl rfl ?_
        refine g_istore C 167 #[.val (.ref a), .val (.int x1), .val (.int ((own_el xs x1) &&& (255 : Int32))), .val (.int (0 : Int32)), .val (.int (128 : Int32)), .val (.int (191 : Int32)), .val (.int (1 : Int32)), .unset] d1_165 rfl rfl ?_
        refine g_iload C 169 d1_167 rfl rfl ?_
        refine g_iloadN C 170 d1_169 rfl rfl ?_
        refine g_icY C 231 d1_170 (flt ((by decide) : ¬ ((1 : Int32) < (0 : Int32)))).2.1 (by decide) (by decide) ?_
        refine g_iloadN C 232 d1_231 rfl rfl ?_
        exact g_iret C d1_232 (by decide) (by decide) ⟨by rw [f_u8, if_neg c1, if_pos c3, if_neg c4], rfl⟩
    · refine g_icN C 39 d1_36 (flt c3).1 rfl ?_
      refine g_iloadN C 40 d1_39 rfl rfl ?_
      refine g_sipush C 43 (223 : Int32) d1_40 rfl rfl ?_
      by_cases c5 : (223 : Int32) < ((own_el xs x1) &&& (255 : Int32))
      · refine g_icY C 51 d1_43 (tlt c5).2.2.1 (by decide) (by decide) ?_
        refine g_iloadN C 52 d1_51 rfl rfl ?_
        refine g_sipush C 55 (224 : Int32) d1_52 rfl rfl ?_
        refine g_icN C 58 d1_55 (flt (own_nlt c5 (by decide) : ¬ (((own_el xs x1) &&& (255 : Int32)) < (224 : Int32)))).1 rfl ?_
        refine g_iloadN C 59 d1_58 rfl rfl ?_
        refine g_sipush C 62 (239 : Int32) d1_59 rfl rfl ?_
        by_cases c6 : (239 : Int32) < ((own_el xs x1) &&& (255 : Int32))
        · refine g_icY C 104 d1_62 (tlt c6).2.2.1 (by decide) (by decide) ?_
          refine g_iloadN C 105 d1_104 rfl rfl ?_
          refine g_sipush C 108 (240 : Int32) d1_105 rfl rfl ?_
          refine g_icN C 111 d1_108 (flt (own_nlt c6 (by decide) : ¬ (((own_el xs x1) &&& (255 : Int32)) < (240 : Int32)))).1 rfl ?_
          refine g_iloadN C 112 d1_111 rfl rfl ?_
          refine g_sipush C 115 (244 : Int32) d1_112 rfl rfl ?_
          by_cases c7 : (244 : Int32) < ((own_el xs x1) &&& (255 : Int32))
          · refine g_icY C 154 d1_115 (tlt c7).2.2.1 (by decide) (by decide) ?_
            refine g_iloadN C 155 d1_154 rfl rfl ?_
            refine g_iloadN C 156 d1_155 rfl rfl ?_
            refine g_iadd C 157 d1_156 rfl ?_
            refine g_aloadN C 158 d1_157 rfl rfl rfl ?_
            refine g_length C 159 n hi d1_158 rfl hn ?_
            by_cases c8 : n < (x1 + (0 : Int32))
            · refine g_icN C 162 d1_159 (tlt c8).2.2.2 rfl ?_
              refine g_iconst C 163 (0 : Int32) d1_162 rfl rfl ?_
              refine g_istoreN C 164 #[.val (.ref a), .val (.int x1), .val (.int ((own_el xs x1) &&& (255 : Int32))), .val (.int (0 : Int32)), .val (.int (128 : Int32)), .val (.int (191 : Int32)), .unset, .unset] d1_163 rfl rfl ?_
              refine g_iconst C 165 (1 : Int32) d1_164 rfl rfl ?_
              refine g_istore C 167 #[.val (.ref a), .val (.int x1), .val (.int ((own_el xs x1) &&& (255 : Int32))), .val (.int (0 : Int32)), .val (.int (128 : Int32)), .val (.int (191 : Int32)), .val (.int (1 : Int32)), .unset] d1_165 rfl rfl ?_
              refine g_iload C 169 d1_167 rfl rfl ?_
              refine g_iloadN C 170 d1_169 rfl rfl ?_
              refine g_icY C 231 d1_170 (flt ((by decide) : ¬ ((1 : Int32) < (0 : Int32)))).2.1 (by decide) (by decide) ?_
              refine g_iloadN C 232 d1_231 rfl rfl ?_
              exact g_iret C d1_232 (by decide) (by decide) ⟨by rw [f_u8, if_neg c1, if_neg c3, if_pos c5, if_pos c6, if_pos c7, if_pos c8], rfl⟩
            · refine g_icY C 164 d1_159 (flt c8).2.2.2 (by decide) (by decide) ?_
              refine g_iconst C 165 (1 : Int32) d1_164 rfl rfl ?_
              refine g_istore C 167 #[.val (.ref a), .val (.int x1), .val (.int ((own_el xs x1) &&& (255 : Int32))), .val (.int (0 : Int32)), .val (.int (128 : Int32)), .val (.int (191 : Int32)), .val (.int (1 : Int32)), .unset] d1_165 rfl rfl ?_
              refine g_iload C 169 d1_167 rfl rfl ?_
              refine g_iloadN C 170 d1_169 rfl rfl ?_
              refine g_icY C 231 d1_170 (flt ((by decide) : ¬ ((1 : Int32) < (0 : Int32)))).2.1 (by decide) (by decide) ?_
              refine g_iloadN C 232 d1_231 rfl rfl ?_
              exact g_iret C d1_232 (by decide) (by decide) ⟨by rw [f_u8, if_neg c1, if_neg c3, if_pos c5, if_pos c6, if_pos c7, if_neg c8], rfl⟩
          · refine g_icN C 118 d1_115 (flt c7).2.2.1 rfl ?_
            refine g_iconst C 119 (4 : Int32) d1_118 rfl rfl ?_
            refine g_istoreN C 120 #[.val (.ref a), .val (.int x1), .val (.int ((own_el xs x1) &&& (255 : Int32))), .val (.int (4 : Int32)), .val (.int (128 : Int32)), .val (.int (191 : Int32)), .unset, .unset] d1_119 rfl rfl ?_
            refine g_iloadN C 121 d1_120 rfl rfl ?_
            refine g_sipush C 124 (240 : Int32) d1_121 rfl rfl ?_
            by_cases c9 : ((own_el xs x1) &&& (255 : Int32)) = (240 : Int32)
            · refine g_icN C 127 d1_124 (teq c9).2 rfl ?_
              refine g_sipush C 130 (144 : Int32) d1_127 rfl rfl ?_
              refine g_goto C 135 d1_130 (by decide) (by decide) ?_
              refine g_istore C 137 #[.val (.ref a), .val (.int x1), .val (.int ((own_el xs x1) &&& (255 : Int32))), .val (.int (4 : Int32)), .val (.int (144 : Int32)), .val (.int (191 : Int32)), .unset, .unset] d1_135 rfl rfl ?_
              refine g_iloadN C 138 d1_137 rfl rfl ?_
              refine g_sipush C 141 (244 : Int32) d1_138 rfl rfl ?_
              refine g_icY C 150 d1_141 (feq (fun q => absurd (c9.symm.trans q) (by decide) : ¬ (((own_el xs x1) &&& (255 : Int32)) = (244 : Int32)))).2 (by decide) (by decide) ?_
              refine g_iload C 152 d1_150 rfl rfl ?_
              refine g_istore C 154 #[.val (.ref a), .val (.int x1), .val (.int ((own_el xs x1) &&& (255 : Int32))), .val (.int (4 : Int32)), .val (.int (144 : Int32)), .val (.int (191 : Int32)), .unset, .unset] d1_152 rfl rfl ?_
              refine g_iloadN C 155 d1_154 rfl rfl ?_
              refine g_iloadN C 156 d1_155 rfl rfl ?_
              refine g_iadd C 157 d1_156 rfl ?_
              refine g_aloadN C 158 d1_157 rfl rfl rfl ?_
              refine g_length C 159 n hi d1_158 rfl hn ?_
              by_cases c10 : n < (x1 + (4 : Int32))
              · refine g_icN C 162 d1_159 (tlt c10).2.2.2 rfl ?_
                refine g_iconst C 163 (0 : Int32) d1_162 rfl rfl ?_
                refine g_istoreN C 164 #[.val (.ref a), .val (.int x1), .val (.int ((own_el xs x1) &&& (255 : Int32))), .val (.int (0 : Int32)), .val (.int (144 : Int32)), .val (.int (191 : Int32)), .unset, .unset] d1_163 rfl rfl ?_
                refine g_iconst C 165 (1 : Int32) d1_164 rfl rfl ?_
                refine g_istore C 167 #[.val (.ref a), .val (.int x1), .val (.int ((own_el xs x1) &&& (255 : Int32))), .val (.int (0 : Int32)), .val (.int (144 : Int32)), .val (.int (191 : Int32)), .val (.int (1 : Int32)), .unset] d1_165 rfl rfl ?_
                refine g_iload C 169 d1_167 rfl rfl ?_
                refine g_iloadN C 170 d1_169 rfl rfl ?_
                refine g_icY C 231 d1_170 (flt ((by decide) : ¬ ((1 : Int32) < (0 : Int32)))).2.1 (by decide) (by decide) ?_
                refine g_iloadN C 232 d1_231 rfl rfl ?_
                exact g_iret C d1_232 (by decide) (by decide) ⟨by rw [f_u8, if_neg c1, if_neg c3, if_pos c5, if_pos c6, if_neg c7, if_pos c9, if_pos c10], rfl⟩
              · refine g_icY C 164 d1_159 (flt c10).2.2.2 (by decide) (by decide) ?_
                refine g_iconst C 165 (1 : Int32) d1_164 rfl rfl ?_
                refine g_istore C 167 #[.val (.ref a), .val (.int x1), .val (.int ((own_el xs x1) &&& (255 : Int32))), .val (.int (4 : Int32)), .val (.int (144 : Int32)), .val (.int (191 : Int32)), .val (.int (1 : Int32)), .unset] d1_165 rfl rfl ?_
                refine g_iload C 169 d1_167 rfl rfl ?_
                refine g_iloadN C 170 d1_169 rfl rfl ?_
                refine g_icN C 173 d1_170 (tlt ((by decide) : (1 : Int32) < (4 : Int32))).2.1 rfl ?_
                refine g_aloadN C 174 d1_173 rfl rfl rfl ?_
                refine g_iloadN C 175 d1_174 rfl rfl ?_
                refine g_iload C 177 d1_175 rfl rfl ?_
                refine g_iadd C 178 d1_177 rfl ?_
                refine g_baload C 179 hi d1_178 rfl (own_ix2 h1 h2 h3 (by decide) (by decide)) (own_el xs (x1 + (1 : Int32))) (own_ix3 h1 h2 h3 hn c10 (by decide) (by decide) (by decide)) ?_
                refine g_sipush C 182 (255 : Int32) d1_179 rfl rfl ?_
                refine g_iand C 183 d1_182 rfl ?_
                refine g_istore C 185 #[.val (.ref a), .val (.int x1), .val (.int ((own_el xs x1) &&& (255 : Int32))), .val (.int (4 : Int32)), .val (.int (144 : Int32)), .val (.int (191 : Int32)), .val (.int (1 : Int32)), .val (.int ((own_el xs (x1 + (1 : Int32))) &&& (255 : Int32)))] d1_183 rfl rfl ?_
                refine g_iload C 187 d1_185 rfl rfl ?_
                refine g_iload C 189 d1_187 rfl rfl ?_
                refine g_iconst C 190 (1 : Int32) d1_189 rfl rfl ?_
                refine g_icN C 193 d1_190 (teq ((by decide) : (1 : Int32) = (1 : Int32))).2 rfl ?_
                refine g_iload C 195 d1_193 rfl rfl ?_
                refine g_goto C 201 d1_195 (by decide) (by decide) ?_
                by_cases c11 : ((own_el xs (x1 + (1 : Int32))) &&& (255 : Int32)) < (144 : Int32)
                · refine g_icY C 223 d1_201 (tlt c11).1 (by decide) (by decide) ?_
                  refine g_iconst C 224 (0 : Int32) d1_223 rfl rfl ?_
                  refine g_istoreN C 225 #[.val (.ref a), .val (.int x1), .val (.int ((own_el xs x1) &&& (255 : Int32))), .val (.int (0 : Int32)), .val (.int (144 : Int32)), .val (.int (191 : Int32)), .val (.int (1 : Int32)), .val (.int ((own_el xs (x1 + (1 : Int32))) &&& (255 : Int32)))] d1_224 rfl rfl ?_
                  refine g_iinc C 228 (2 : Int32) #[.val (.ref a), .val (.int x1), .val (.int ((own_el xs x1) &&& (255 : Int32))), .val (.int (0 : Int32)), .val (.int (144 : Int32)), .val (.int (191 : Int32)), .val (.int (2 : Int32)), .val (.int ((own_el xs (x1 + (1 : Int32))) &&& (255 : Int32)))] d1_225 rfl rfl (by decide) rfl ?_
                  refine g_goto C 167 d1_228 (by decide) (by decide) ?_
                  refine g_iload C 169 d1_167 rfl rfl ?_
                  refine g_iloadN C 170 d1_169 rfl rfl ?_
                  refine g_icY C 231 d1_170 (flt ((by decide) : ¬ ((2 : Int32) < (0 : Int32)))).2.1 (by decide) (by decide) ?_
                  refine g_iloadN C 232 d1_231 rfl rfl ?_
                  exact g_iret C d1_232 (by decide) (by decide) ⟨by rw [f_u8, if_neg c1, if_neg c3, if_pos c5, if_pos c6, if_neg c7, if_pos c9, if_neg c10, if_pos c11], rfl⟩
                · refine g_icN C 204 d1_201 (flt c11).1 rfl ?_
                  refine g_iload C 206 d1_204 rfl rfl ?_
                  refine g_iload C 208 d1_206 rfl rfl ?_
                  refine g_iconst C 209 (1 : Int32) d1_208 rfl rfl ?_
                  refine g_icN C 212 d1_209 (teq ((by decide) : (1 : Int32) = (1 : Int32))).2 rfl ?_
                  refine g_iload C 214 d1_212 rfl rfl ?_
                  refine g_goto C 220 d1_214 (by decide) (by decide) ?_
                  by_cases c12 : (191 : Int32) < ((own_el xs (x1 + (1 : Int32))) &&& (255 : Int32))
                  · refine g_icN C 223 d1_220 (tlt c12).2.2.2 rfl ?_
                    refine g_iconst C 224 (0 : Int32) d1_223 rfl rfl ?_
                    refine g_istoreN C 225 #[.val (.ref a), .val (.int x1), .val (.int ((own_el xs x1) &&& (255 : Int32))), .val (.int (0 : Int32)), .val (.int (144 : Int32)), .val (.int (191 : Int32)), .val (.int (1 : Int32)), .val (.int ((own_el xs (x1 + (1 : Int32))) &&& (255 : Int32)))] d1_224 rfl rfl ?_
                    refine g_iinc C 228 (2 : Int32) #[.val (.ref a), .val (.int x1), .val (.int ((own_el xs x1) &&& (255 : Int32))), .val (.int (0 : Int32)), .val (.int (144 : Int32)), .val (.int (191 : Int32)), .val (.int (2 : Int32)), .val (.int ((own_el xs (x1 + (1 : Int32))) &&& (255 : Int32)))] d1_225 rfl rfl (by decide) rfl ?_
                    refine g_goto C 167 d1_228 (by decide) (by decide) ?_
                    refine g_iload C 169 d1_167 rfl rfl ?_
                    refine g_iloadN C 170 d1_169 rfl rfl ?_
                    refine g_icY C 231 d1_170 (flt ((by decide) : ¬ ((2 : Int32) < (0 : Int32)))).2.1 (by decide) (by decide) ?_
                    refine g_iloadN C 232 d1_231 rfl rfl ?_
                    exact g_iret C d1_232 (by decide) (by decide) ⟨by rw [f_u8, if_neg c1, if_neg c3, if_pos c5, if_pos c6, if_neg c7, if_pos c9, if_neg c10, if_neg c11, if_pos c12], rfl⟩
                  · refine g_icY C 225 d1_220 (flt c12).2.2.2 (by decide) (by decide) ?_
                    refine g_iinc C 228 (2 : Int32) #[.val (.ref a), .val (.int x1), .val (.int ((own_el xs x1) &&& (255 : Int32))), .val (.int (4 : Int32)), .val (.int (144 : Int32)), .val (.int (191 : Int32)), .val (.int (2 : Int32)), .val (.int ((own_el xs (x1 + (1 : Int32))) &&& (255 : Int32)))] d1_225 rfl rfl (by decide) rfl ?_
                    refine g_goto C 167 d1_228 (by decide) (by decide) ?_
                    refine g_iload C 169 d1_167 rfl rfl ?_
                    refine g_iloadN C 170 d1_169 rfl rfl ?_
                    refine g_icN C 173 d1_170 (tlt ((by decide) : (2 : Int32) < (4 : Int32))).2.1 rfl ?_
                    refine g_aloadN C 174 d1_173 rfl rfl rfl ?_
                    refine g_iloadN C 175 d1_174 rfl rfl ?_
                    refine g_iload C 177 d1_175 rfl rfl ?_
                    refine g_iadd C 178 d1_177 rfl ?_
                    refine g_baload C 179 hi d1_178 rfl (own_ix2 h1 h2 h3 (by decide) (by decide)) (own_el xs (x1 + (2 : Int32))) (own_ix3 h1 h2 h3 hn c10 (by decide) (by decide) (by decide)) ?_
                    refine g_sipush C 182 (255 : Int32) d1_179 rfl rfl ?_
                    refine g_iand C 183 d1_182 rfl ?_
                    refine g_istore C 185 #[.val (.ref a), .val (.int x1), .val (.int ((own_el xs x1) &&& (255 : Int32))), .val (.int (4 : Int32)), .val (.int (144 : Int32)), .val (.int (191 : Int32)), .val (.int (2 : Int32)), .val (.int ((own_el xs (x1 + (2 : Int32))) &&& (255 : Int32)))] d1_183 rfl rfl ?_
                    refine g_iload C 187 d1_185 rfl rfl ?_
                    refine g_iload C 189 d1_187 rfl rfl ?_
                    refine g_iconst C 190 (1 : Int32) d1_189 rfl rfl ?_
                    refine g_icY C 198 d1_190 (feq ((by decide) : ¬ ((2 : Int32) = (1 : Int32)))).2 (by decide) (by decide) ?_
                    refine g_sipush C 201 (128 : Int32) d1_198 rfl rfl ?_
                    by_cases c13 : ((own_el xs (x1 + (2 : Int32))) &&& (255 : Int32)) < (128 : Int32)
                    · refine g_icY C 223 d1_201 (tlt c13).1 (by decide) (by decide) ?_
                      refine g_iconst C 224 (0 : Int32) d1_223 rfl rfl ?_
                      refine g_istoreN C 225 #[.val (.ref a), .val (.int x1), .val (.int ((own_el xs x1) &&& (255 : Int32))), .val (.int (0 : Int32)), .val (.int (144 : Int32)), .val (.int (191 : Int32)), .val (.int (2 : Int32)), .val (.int ((own_el xs (x1 + (2 : Int32))) &&& (255 : Int32)))] d1_224 rfl rfl ?_
                      refine g_iinc C 228 (3 : Int32) #[.val (.ref a), .val (.int x1), .val (.int ((own_el xs x1) &&& (255 : Int32))), .val (.int (0 : Int32)), .val (.int (144 : Int32)), .val (.int (191 : Int32)), .val (.int (3 : Int32)), .val (.int ((own_el xs (x1 + (2 : Int32))) &&& (255 : Int32)))] d1_225 rfl rfl (by decide) rfl ?_
                      refine g_goto C 167 d1_228 (by decide) (by decide) ?_
                      refine g_iload C 169 d1_167 rfl rfl ?_
                      refine g_iloadN C 170 d1_169 rfl rfl ?_
                      refine g_icY C 231 d1_170 (flt ((by decide) : ¬ ((3 : Int32) < (0 : Int32)))).2.1 (by decide) (by decide) ?_
                      refine g_iloadN C 232 d1_231 rfl rfl ?_
                      exact g_iret C d1_232 (by decide) (by decide) ⟨by rw [f_u8, if_neg c1, if_neg c3, if_pos c5, if_pos c6, if_neg c7, if_pos c9, if_neg c10, if_neg c11, if_neg c12, if_pos c13], rfl⟩
                    · refine g_icN C 204 d1_201 (flt c13).1 rfl ?_
                      refine g_iload C 206 d1_204 rfl rfl ?_
                      refine g_iload C 208 d1_206 rfl rfl ?_
                      refine g_iconst C 209 (1 : Int32) d1_208 rfl rfl ?_
                      refine g_icY C 217 d1_209 (feq ((by decide) : ¬ ((2 : Int32) = (1 : Int32)))).2 (by decide) (by decide) ?_
                      refine g_sipush C 220 (191 : Int32) d1_217 rfl rfl ?_
                      by_cases c14 : (191 : Int32) < ((own_el xs (x1 + (2 : Int32))) &&& (255 : Int32))
                      · refine g_icN C 223 d1_220 (tlt c14).2.2.2 rfl ?_
                        refine g_iconst C 224 (0 : Int32) d1_223 rfl rfl ?_
                        refine g_istoreN C 225 #[.val (.ref a), .val (.int x1), .val (.int ((own_el xs x1) &&& (255 : Int32))), .val (.int (0 : Int32)), .val (.int (144 : Int32)), .val (.int (191 : Int32)), .val (.int (2 : Int32)), .val (.int ((own_el xs (x1 + (2 : Int32))) &&& (255 : Int32)))] d1_224 rfl rfl ?_
                        refine g_iinc C 228 (3 : Int32) #[.val (.ref a), .val (.int x1), .val (.int ((own_el xs x1) &&& (255 : Int32))), .val (.int (0 : Int32)), .val (.int (144 : Int32)), .val (.int (191 : Int32)), .val (.int (3 : Int32)), .val (.int ((own_el xs (x1 + (2 : Int32))) &&& (255 : Int32)))] d1_225 rfl rfl (by decide) rfl ?_
                        refine g_goto C 167 d1_228 (by decide) (by decide) ?_
                        refine g_iload C 169 d1_167 rfl rfl ?_
                        refine g_iloadN C 170 d1_169 rfl rfl ?_
                        refine g_icY C 231 d1_170 (flt ((by decide) : ¬ ((3 : Int32) < (0 : Int32)))).2.1 (by decide) (by decide) ?_
                        refine g_iloadN C 232 d1_231 rfl rfl ?_
                        exact g_iret C d1_232 (by decide) (by decide) ⟨by rw [f_u8, if_neg c1, if_neg c3, if_pos c5, if_pos c6, if_neg c7, if_pos c9, if_neg c10, if_neg c11, if_neg c12, if_neg c13, if_pos c14], rfl⟩
                      · refine g_icY C 225 d1_220 (flt c14).2.2.2 (by decide) (by decide) ?_
                        refine g_iinc C 228 (3 : Int32) #[.val (.ref a), .val (.int x1), .val (.int ((own_el xs x1) &&& (255 : Int32))), .val (.int (4 : Int32)), .val (.int (144 : Int32)), .val (.int (191 : Int32)), .val (.int (3 : Int32)), .val (.int ((own_el xs (x1 + (2 : Int32))) &&& (255 : Int32)))] d1_225 rfl rfl (by decide) rfl ?_
                        refine g_goto C 167 d1_228 (by decide) (by decide) ?_
                        refine g_iload C 169 d1_167 rfl rfl ?_
                        refine g_iloadN C 170 d1_169 rfl rfl ?_
                        refine g_icN C 173 d1_170 (tlt ((by decide) : (3 : Int32) < (4 : Int32))).2.1 rfl ?_
                        refine g_aloadN C 174 d1_173 rfl rfl rfl ?_
                        refine g_iloadN C 175 d1_174 rfl rfl ?_
                        refine g_iload C 177 d1_175 rfl rfl ?_
                        refine g_iadd C 178 d1_177 rfl ?_
                        refine g_baload C 179 hi d1_178 rfl (own_ix2 h1 h2 h3 (by decide) (by decide)) (own_el xs (x1 + (3 : Int32))) (own_ix3 h1 h2 h3 hn c10 (by decide) (by decide) (by decide)) ?_
                        refine g_sipush C 182 (255 : Int32) d1_179 rfl rfl ?_
                        refine g_iand C 183 d1_182 rfl ?_
                        refine g_istore C 185 #[.val (.ref a), .val (.int x1), .val (.int ((own_el xs x1) &&& (255 : Int32))), .val (.int (4 : Int32)), .val (.int (144 : Int32)), .val (.int (191 : Int32)), .val (.int (3 : Int32)), .val (.int ((own_el xs (x1 + (3 : Int32))) &&& (255 : Int32)))] d1_183 rfl rfl ?_
                        refine g_iload C 187 d1_185 rfl rfl ?_
                        refine g_iload C 189 d1_187 rfl rfl ?_
                        refine g_iconst C 190 (1 : Int32) d1_189 rfl rfl ?_
                        refine g_icY C 198 d1_190 (feq ((by decide) : ¬ ((3 : Int32) = (1 : Int32)))).2 (by decide) (by decide) ?_
                        refine g_sipush C 201 (128 : Int32) d1_198 rfl rfl ?_
                        by_cases c15 : ((own_el xs (x1 + (3 : Int32))) &&& (255 : Int32)) < (128 : Int32)
                        · refine g_icY C 223 d1_201 (tlt c15).1 (by decide) (by decide) ?_
                          refine g_iconst C 224 (0 : Int32) d1_223 rfl rfl ?_
                          refine g_istoreN C 225 #[.val (.ref a), .val (.int x1), .val (.int ((own_el xs x1) &&& (255 : Int32))), .val (.int (0 : Int32)), .val (.int (144 : Int32)), .val (.int (191 : Int32)), .val (.int (3 : Int32)), .val (.int ((own_el xs (x1 + (3 : Int32))) &&& (255 : Int32)))] d1_224 rfl rfl ?_
                          refine g_iinc C 228 (4 : Int32) #[.val (.ref a), .val (.int x1), .val (.int ((own_el xs x1) &&& (255 : Int32))), .val (.int (0 : Int32)), .val (.int (144 : Int32)), .val (.int (191 : Int32)), .val (.int (4 : Int32)), .val (.int ((own_el xs (x1 + (3 : Int32))) &&& (255 : Int32)))] d1_225 rfl rfl (by decide) rfl ?_
                          refine g_goto C 167 d1_228 (by decide) (by decide) ?_
                          refine g_iload C 169 d1_167 rfl rfl ?_
                          refine g_iloadN C 170 d1_169 rfl rfl ?_
                          refine g_icY C 231 d1_170 (flt ((by decide) : ¬ ((4 : Int32) < (0 : Int32)))).2.1 (by decide) (by decide) ?_
                          refine g_iloadN C 232 d1_231 rfl rfl ?_
                          exact g_iret C d1_232 (by decide) (by decide) ⟨by rw [f_u8, if_neg c1, if_neg c3, if_pos c5, if_pos c6, if_neg c7, if_pos c9, if_neg c10, if_neg c11, if_neg c12, if_neg c13, if_neg c14, if_pos c15], rfl⟩
                        · refine g_icN C 204 d1_201 (flt c15).1 rfl ?_
                          refine g_iload C 206 d1_204 rfl rfl ?_
                          refine g_iload C 208 d1_206 rfl rfl ?_
                          refine g_iconst C 209 (1 : Int32) d1_208 rfl rfl ?_
                          refine g_icY C 217 d1_209 (feq ((by decide) : ¬ ((3 : Int32) = (1 : Int32)))).2 (by decide) (by decide) ?_
                          refine g_sipush C 220 (191 : Int32) d1_217 rfl rfl ?_
                          by_cases c16 : (191 : Int32) < ((own_el xs (x1 + (3 : Int32))) &&& (255 : Int32))
                          · refine g_icN C 223 d1_220 (tlt c16).2.2.2 rfl ?_
                            refine g_iconst C 224 (0 : Int32) d1_223 rfl rfl ?_
                            refine g_istoreN C 225 #[.val (.ref a), .val (.int x1), .val (.int ((own_el xs x1) &&& (255 : Int32))), .val (.int (0 : Int32)), .val (.int (144 : Int32)), .val (.int (191 : Int32)), .val (.int (3 : Int32)), .val (.int ((own_el xs (x1 + (3 : Int32))) &&& (255 : Int32)))] d1_224 rfl rfl ?_
                            refine g_iinc C 228 (4 : Int32) #[.val (.ref a), .val (.int x1), .val (.int ((own_el xs x1) &&& (255 : Int32))), .val (.int (0 : Int32)), .val (.int (144 : Int32)), .val (.int (191 : Int32)), .val (.int (4 : Int32)), .val (.int ((own_el xs (x1 + (3 : Int32))) &&& (255 : Int32)))] d1_225 rfl rfl (by decide) rfl ?_
                            refine g_goto C 167 d1_228 (by decide) (by decide) ?_
                            refine g_iload C 169 d1_167 rfl rfl ?_
                            refine g_iloadN C 170 d1_169 rfl rfl ?_
                            refine g_icY C 231 d1_170 (flt ((by decide) : ¬ ((4 : Int32) < (0 : Int32)))).2.1 (by decide) (by decide) ?_
                            refine g_iloadN C 232 d1_231 rfl rfl ?_
                            exact g_iret C d1_232 (by decide) (by decide) ⟨by rw [f_u8, if_neg c1, if_neg c3, if_pos c5, if_pos c6, if_neg c7, if_pos c9, if_neg c10, if_neg c11, if_neg c12, if_neg c13, if_neg c14, if_neg c15, if_pos c16], rfl⟩
                          · refine g_icY C 225 d1_220 (flt c16).2.2.2 (by decide) (by decide) ?_
                            refine g_iinc C 228 (4 : Int32) #[.val (.ref a), .val (.int x1), .val (.int ((own_el xs x1) &&& (255 : Int32))), .val (.int (4 : Int32)), .val (.int (144 : Int32)), .val (.int (191 : Int32)), .val (.int (4 : Int32)), .val (.int ((own_el xs (x1 + (3 : Int32))) &&& (255 : Int32)))] d1_225 rfl rfl (by decide) rfl ?_
                            refine g_goto C 167 d1_228 (by decide) (by decide) ?_
                            refine g_iload C 169 d1_167 rfl rfl ?_
                            refine g_iloadN C 170 d1_169 rfl rfl ?_
                            refine g_icY C 231 d1_170 (flt ((by decide) : ¬ ((4 : Int32) < (4 : Int32)))).2.1 (by decide) (by decide) ?_
                            refine g_iloadN C 232 d1_231 rfl rfl ?_
                            exact g_iret C d1_232 (by decide) (by decide) ⟨by rw [f_u8, if_neg c1, if_neg c3, if_pos c5, if_pos c6, if_neg c7, if_pos c9, if_neg c10, if_neg c11, if_neg c12, if_neg c13, if_neg c14, if_neg c15, if_neg c16], rfl⟩
            · refine g_icY C 133 d1_124 (feq c9).2 (by decide) (by decide) ?_
              refine g_iload C 135 d1_133 rfl rfl ?_
              refine g_istore C 137 #[.val (.ref a), .val (.int x1), .val (.int ((own_el xs x1) &&& (255 : Int32))), .val (.int (4 : Int32)), .val (.int (128 : Int32)), .val (.int (191 : Int32)), .unset, .unset] d1_135 rfl rfl ?_
              refine g_iloadN C 138 d1_137 rfl rfl ?_
              refine g_sipush C 141 (244 : Int32) d1_138 rfl rfl ?_
              by_cases c17 : ((own_el xs x1) &&& (255 : Int32)) = (244 : Int32)
              · refine g_icN C 144 d1_141 (teq c17).2 rfl ?_
                refine g_sipush C 147 (143 : Int32) d1_144 rfl rfl ?_
                refine g_goto C 152 d1_147 (by decide) (by decide) ?_
                refine g_istore C 154 #[.val (.ref a), .val (.int x1), .val (.int ((own_el xs x1) &&& (255 : Int32))), .val (.int (4 : Int32)), .val (.int (128 : Int32)), .val (.int (143 : Int32)), .unset, .unset] d1_152 rfl rfl ?_
                refine g_iloadN C 155 d1_154 rfl rfl ?_
                refine g_iloadN C 156 d1_155 rfl rfl ?_
                refine g_iadd C 157 d1_156 rfl ?_
                refine g_aloadN C 158 d1_157 rfl rfl rfl ?_
                refine g_length C 159 n hi d1_158 rfl hn ?_
                by_cases c18 : n < (x1 + (4 : Int32))
                · refine g_icN C 162 d1_159 (tlt c18).2.2.2 rfl ?_
                  refine g_iconst C 163 (0 : Int32) d1_162 rfl rfl ?_
                  refine g_istoreN C 164 #[.val (.ref a), .val (.int x1), .val (.int ((own_el xs x1) &&& (255 : Int32))), .val (.int (0 : Int32)), .val (.int (128 : Int32)), .val (.int (143 : Int32)), .unset, .unset] d1_163 rfl rfl ?_
                  refine g_iconst C 165 (1 : Int32) d1_164 rfl rfl ?_
                  refine g_istore C 167 #[.val (.ref a), .val (.int x1), .val (.int ((own_el xs x1) &&& (255 : Int32))), .val (.int (0 : Int32)), .val (.int (128 : Int32)), .val (.int (143 : Int32)), .val (.int (1 : Int32)), .unset] d1_165 rfl rfl ?_
                  refine g_iload C 169 d1_167 rfl rfl ?_
                  refine g_iloadN C 170 d1_169 rfl rfl ?_
                  refine g_icY C 231 d1_170 (flt ((by decide) : ¬ ((1 : Int32) < (0 : Int32)))).2.1 (by decide) (by decide) ?_
                  refine g_iloadN C 232 d1_231 rfl rfl ?_
                  exact g_iret C d1_232 (by decide) (by decide) ⟨by rw [f_u8, if_neg c1, if_neg c3, if_pos c5, if_pos c6, if_neg c7, if_neg c9, if_pos c17, if_pos c18], rfl⟩
                · refine g_icY C 164 d1_159 (flt c18).2.2.2 (by decide) (by decide) ?_
                  refine g_iconst C 165 (1 : Int32) d1_164 rfl rfl ?_
                  refine g_istore C 167 #[.val (.ref a), .val (.int x1), .val (.int ((own_el xs x1) &&& (255 : Int32))), .val (.int (4 : Int32)), .val (.int (128 : Int32)), .val (.int (143 : Int32)), .val (.int (1 : Int32)), .unset] d1_165 rfl rfl ?_
                  refine g_iload C 169 d1_167 rfl rfl ?_
                  refine g_iloadN C 170 d1_169 rfl rfl ?_
                  refine g_icN C 173 d1_170 (tlt ((by decide) : (1 : Int32) < (4 : Int32))).2.1 rfl ?_
                  refine g_aloadN C 174 d1_173 rfl rfl rfl ?_
                  refine g_iloadN C 175 d1_174 rfl rfl ?_
                  refine g_iload C 177 d1_175 rfl rfl ?_
                  refine g_iadd C 178 d1_177 rfl ?_
                  refine g_baload C 179 hi d1_178 rfl (own_ix2 h1 h2 h3 (by decide) (by decide)) (own_el xs (x1 + (1 : Int32))) (own_ix3 h1 h2 h3 hn c18 (by decide) (by decide) (by decide)) ?_
                  refine g_sipush C 182 (255 : Int32) d1_179 rfl rfl ?_
                  refine g_iand C 183 d1_182 rfl ?_
                  refine g_istore C 185 #[.val (.ref a), .val (.int x1), .val (.int ((own_el xs x1) &&& (255 : Int32))), .val (.int (4 : Int32)), .val (.int (128 : Int32)), .val (.int (143 : Int32)), .val (.int (1 : Int32)), .val (.int ((own_el xs (x1 + (1 : Int32))) &&& (255 : Int32)))] d1_183 rfl rfl ?_
                  refine g_iload C 187 d1_185 rfl rfl ?_
                  refine g_iload C 189 d1_187 rfl rfl ?_
                  refine g_iconst C 190 (1 : Int32) d1_189 rfl rfl ?_
                  refine g_icN C 193 d1_190 (teq ((by decide) : (1 : Int32) = (1 : Int32))).2 rfl ?_
                  refine g_iload C 195 d1_193 rfl rfl ?_
                  refine g_goto C 201 d1_195 (by decide) (by decide) ?_
                  by_cases c19 : ((own_el xs (x1 + (1 : Int32))) &&& (255 : Int32)) < (128 : Int32)
                  · refine g_icY C 223 d1_201 (tlt c19).1 (by decide) (by decide) ?_
                    refine g_iconst C 224 (0 : Int32) d1_223 rfl rfl ?_
                    refine g_istoreN C 225 #[.val (.ref a), .val (.int x1), .val (.int ((own_el xs x1) &&& (255 : Int32))), .val (.int (0 : Int32)), .val (.int (128 : Int32)), .val (.int (143 : Int32)), .val (.int (1 : Int32)), .val (.int ((own_el xs (x1 + (1 : Int32))) &&& (255 : Int32)))] d1_224 rfl rfl ?_
                    refine g_iinc C 228 (2 : Int32) #[.val (.ref a), .val (.int x1), .val (.int ((own_el xs x1) &&& (255 : Int32))), .val (.int (0 : Int32)), .val (.int (128 : Int32)), .val (.int (143 : Int32)), .val (.int (2 : Int32)), .val (.int ((own_el xs (x1 + (1 : Int32))) &&& (255 : Int32)))] d1_225 rfl rfl (by decide) rfl ?_
                    refine g_goto C 167 d1_228 (by decide) (by decide) ?_
                    refine g_iload C 169 d1_167 rfl rfl ?_
                    refine g_iloadN C 170 d1_169 rfl rfl ?_
                    refine g_icY C 231 d1_170 (flt ((by decide) : ¬ ((2 : Int32) < (0 : Int32)))).2.1 (by decide) (by decide) ?_
                    refine g_iloadN C 232 d1_231 rfl rfl ?_
                    exact g_iret C d1_232 (by decide) (by decide) ⟨by rw [f_u8, if_neg c1, if_neg c3, if_pos c5, if_pos c6, if_neg c7, if_neg c9, if_pos c17, if_neg c18, if_pos c19], rfl⟩
                  · refine g_icN C 204 d1_201 (flt c19).1 rfl ?_
                    refine g_iload C 206 d1_204 rfl rfl ?_
                    refine g_iload C 208 d1_206 rfl rfl ?_
                    refine g_iconst C 209 (1 : Int32) d1_208 rfl rfl ?_
                    refine g_icN C 212 d1_209 (teq ((by decide) : (1 : Int32) = (1 : Int32))).2 rfl ?_
                    refine g_iload C 214 d1_212 rfl rfl ?_
                    refine g_goto C 220 d1_214 (by decide) (by decide) ?_
                    by_cases c20 : (143 : Int32) < ((own_el xs (x1 + (1 : Int32))) &&& (255 : Int32))
                    · refine g_icN C 223 d1_220 (tlt c20).2.2.2 rfl ?_
                      refine g_iconst C 224 (0 : Int32) d1_223 rfl rfl ?_
                      refine g_istoreN C 225 #[.val (.ref a), .val (.int x1), .val (.int ((own_el xs x1) &&& (255 : Int32))), .val (.int (0 : Int32)), .val (.int (128 : Int32)), .val (.int (143 : Int32)), .val (.int (1 : Int32)), .val (.int ((own_el xs (x1 + (1 : Int32))) &&& (255 : Int32)))] d1_224 rfl rfl ?_
                      refine g_iinc C 228 (2 : Int32) #[.val (.ref a), .val (.int x1), .val (.int ((own_el xs x1) &&& (255 : Int32))), .val (.int (0 : Int32)), .val (.int (128 : Int32)), .val (.int (143 : Int32)), .val (.int (2 : Int32)), .val (.int ((own_el xs (x1 + (1 : Int32))) &&& (255 : Int32)))] d1_225 rfl rfl (by decide) rfl ?_
                      refine g_goto C 167 d1_228 (by decide) (by decide) ?_
                      refine g_iload C 169 d1_167 rfl rfl ?_
                      refine g_iloadN C 170 d1_169 rfl rfl ?_
                      refine g_icY C 231 d1_170 (flt ((by decide) : ¬ ((2 : Int32) < (0 : Int32)))).2.1 (by decide) (by decide) ?_
                      refine g_iloadN C 232 d1_231 rfl rfl ?_
                      exact g_iret C d1_232 (by decide) (by decide) ⟨by rw [f_u8, if_neg c1, if_neg c3, if_pos c5, if_pos c6, if_neg c7, if_neg c9, if_pos c17, if_neg c18, if_neg c19, if_pos c20], rfl⟩
                    · refine g_icY C 225 d1_220 (flt c20).2.2.2 (by decide) (by decide) ?_
                      refine g_iinc C 228 (2 : Int32) #[.val (.ref a), .val (.int x1), .val (.int ((own_el xs x1) &&& (255 : Int32))), .val (.int (4 : Int32)), .val (.int (128 : Int32)), .val (.int (143 : Int32)), .val (.int (2 : Int32)), .val (.int ((own_el xs (x1 + (1 : Int32))) &&& (255 : Int32)))] d1_225 rfl rfl (by decide) rfl ?_
                      refine g_goto C 167 d1_228 (by decide) (by decide) ?_
                      refine g_iload C 169 d1_167 rfl rfl ?_
                      refine g_iloadN C 170 d1_169 rfl rfl ?_
                      refine g_icN C 173 d1_170 (tlt ((by decide) : (2 : Int32) < (4 : Int32))).2.1 rfl ?_
                      refine g_aloadN C 174 d1_173 rfl rfl rfl ?_
                      refine g_iloadN C 175 d1_174 rfl rfl ?_
                      refine g_iload C 177 d1_175 rfl rfl ?_
                      refine g_iadd C 178 d1_177 rfl ?_
                      refine g_baload C 179 hi d1_178 rfl (own_ix2 h1 h2 h3 (by decide) (by decide)) (own_el xs (x1 + (2 : Int32))) (own_ix3 h1 h2 h3 hn c18 (by decide) (by decide) (by decide)) ?_
                      refine g_sipush C 182 (255 : Int32) d1_179 rfl rfl ?_
                      refine g_iand C 183 d1_182 rfl ?_
                      refine g_istore C 185 #[.val (.ref a), .val (.int x1), .val (.int ((own_el xs x1) &&& (255 : Int32))), .val (.int (4 : Int32)), .val (.int (128 : Int32)), .val (.int (143 : Int32)), .val (.int (2 : Int32)), .val (.int ((own_el xs (x1 + (2 : Int32))) &&& (255 : Int32)))] d1_183 rfl rfl ?_
                      refine g_iload C 187 d1_185 rfl rfl ?_
                      refine g_iload C 189 d1_187 rfl rfl ?_
                      refine g_iconst C 190 (1 : Int32) d1_189 rfl rfl ?_
                      refine g_icY C 198 d1_190 (feq ((by decide) : ¬ ((2 : Int32) = (1 : Int32)))).2 (by decide) (by decide) ?_
                      refine g_sipush C 201 (128 : Int32) d1_198 rfl rfl ?_
                      by_cases c21 : ((own_el xs (x1 + (2 : Int32))) &&& (255 : Int32)) < (128 : Int32)
                      · refine g_icY C 223 d1_201 (tlt c21).1 (by decide) (by decide) ?_
                        refine g_iconst C 224 (0 : Int32) d1_223 rfl rfl ?_
                        refine g_istoreN C 225 #[.val (.ref a), .val (.int x1), .val (.int ((own_el xs x1) &&& (255 : Int32))), .val (.int (0 : Int32)), .val (.int (128 : Int32)), .val (.int (143 : Int32)), .val (.int (2 : Int32)), .val (.int ((own_el xs (x1 + (2 : Int32))) &&& (255 : Int32)))] d1_224 rfl rfl ?_
                        refine g_iinc C 228 (3 : Int32) #[.val (.ref a), .val (.int x1), .val (.int ((own_el xs x1) &&& (255 : Int32))), .val (.int (0 : Int32)), .val (.int (128 : Int32)), .val (.int (143 : Int32)), .val (.int (3 : Int32)), .val (.int ((own_el xs (x1 + (2 : Int32))) &&& (255 : Int32)))] d1_225 rfl rfl (by decide) rfl ?_
                        refine g_goto C 167 d1_228 (by decide) (by decide) ?_
                        refine g_iload C 169 d1_167 rfl rfl ?_
                        refine g_iloadN C 170 d1_169 rfl rfl ?_
                        refine g_icY C 231 d1_170 (flt ((by decide) : ¬ ((3 : Int32) < (0 : Int32)))).2.1 (by decide) (by decide) ?_
                        refine g_iloadN C 232 d1_231 rfl rfl ?_
                        exact g_iret C d1_232 (by decide) (by decide) ⟨by rw [f_u8, if_neg c1, if_neg c3, if_pos c5, if_pos c6, if_neg c7, if_neg c9, if_pos c17, if_neg c18, if_neg c19, if_neg c20, if_pos c21], rfl⟩
                      · refine g_icN C 204 d1_201 (flt c21).1 rfl ?_
                        refine g_iload C 206 d1_204 rfl rfl ?_
                        refine g_iload C 208 d1_206 rfl rfl ?_
                        refine g_iconst C 209 (1 : Int32) d1_208 rfl rfl ?_
                        refine g_icY C 217 d1_209 (feq ((by decide) : ¬ ((2 : Int32) = (1 : Int32)))).2 (by decide) (by decide) ?_
                        refine g_sipush C 220 (191 : Int32) d1_217 rfl rfl ?_
                        by_cases c22 : (191 : Int32) < ((own_el xs (x1 + (2 : Int32))) &&& (255 : Int32))
                        · refine g_icN C 223 d1_220 (tlt c22).2.2.2 rfl ?_
                          refine g_iconst C 224 (0 : Int32) d1_223 rfl rfl ?_
                          refine g_istoreN C 225 #[.val (.ref a), .val (.int x1), .val (.int ((own_el xs x1) &&& (255 : Int32))), .val (.int (0 : Int32)), .val (.int (128 : Int32)), .val (.int (143 : Int32)), .val (.int (2 : Int32)), .val (.int ((own_el xs (x1 + (2 : Int32))) &&& (255 : Int32)))] d1_224 rfl rfl ?_
                          refine g_iinc C 228 (3 : Int32) #[.val (.ref a), .val (.int x1), .val (.int ((own_el xs x1) &&& (255 : Int32))), .val (.int (0 : Int32)), .val (.int (128 : Int32)), .val (.int (143 : Int32)), .val (.int (3 : Int32)), .val (.int ((own_el xs (x1 + (2 : Int32))) &&& (255 : Int32)))] d1_225 rfl rfl (by decide) rfl ?_
                          refine g_goto C 167 d1_228 (by decide) (by decide) ?_
                          refine g_iload C 169 d1_167 rfl rfl ?_
                          refine g_iloadN C 170 d1_169 rfl rfl ?_
                          refine g_icY C 231 d1_170 (flt ((by decide) : ¬ ((3 : Int32) < (0 : Int32)))).2.1 (by decide) (by decide) ?_
                          refine g_iloadN C 232 d1_231 rfl rfl ?_
                          exact g_iret C d1_232 (by decide) (by decide) ⟨by rw [f_u8, if_neg c1, if_neg c3, if_pos c5, if_pos c6, if_neg c7, if_neg c9, if_pos c17, if_neg c18, if_neg c19, if_neg c20, if_neg c21, if_pos c22], rfl⟩
                        · refine g_icY C 225 d1_220 (flt c22).2.2.2 (by decide) (by decide) ?_
                          refine g_iinc C 228 (3 : Int32) #[.val (.ref a), .val (.int x1), .val (.int ((own_el xs x1) &&& (255 : Int32))), .val (.int (4 : Int32)), .val (.int (128 : Int32)), .val (.int (143 : Int32)), .val (.int (3 : Int32)), .val (.int ((own_el xs (x1 + (2 : Int32))) &&& (255 : Int32)))] d1_225 rfl rfl (by decide) rfl ?_
                          refine g_goto C 167 d1_228 (by decide) (by decide) ?_
                          refine g_iload C 169 d1_167 rfl rfl ?_
                          refine g_iloadN C 170 d1_169 rfl rfl ?_
                          refine g_icN C 173 d1_170 (tlt ((by decide) : (3 : Int32) < (4 : Int32))).2.1 rfl ?_
                          refine g_aloadN C 174 d1_173 rfl rfl rfl ?_
                          refine g_iloadN C 175 d1_174 rfl rfl ?_
                          refine g_iload C 177 d1_175 rfl rfl ?_
                          refine g_iadd C 178 d1_177 rfl ?_
                          refine g_baload C 179 hi d1_178 rfl (own_ix2 h1 h2 h3 (by decide) (by decide)) (own_el xs (x1 + (3 : Int32))) (own_ix3 h1 h2 h3 hn c18 (by decide) (by decide) (by decide)) ?_
                          refine g_sipush C 182 (255 : Int32) d1_179 rfl rfl ?_
                          refine g_iand C 183 d1_182 rfl ?_
                          refine g_istore C 185 #[.val (.ref a), .val (.int x1), .val (.int ((own_el xs x1) &&& (255 : Int32))), .val (.int (4 : Int32)), .val (.int (128 : Int32)), .val (.int (143 : Int32)), .val (.int (3 : Int32)), .val (.int ((own_el xs (x1 + (3 : Int32))) &&& (255 : Int32)))] d1_183 rfl rfl ?_
                          refine g_iload C 187 d1_185 rfl rfl ?_
                          refine g_iload C 189 d1_187 rfl rfl ?_
                          refine g_iconst C 190 (1 : Int32) d1_189 rfl rfl ?_
                          refine g_icY C 198 d1_190 (feq ((by decide) : ¬ ((3 : Int32) = (1 : Int32)))).2 (by decide) (by decide) ?_
                          refine g_sipush C 201 (128 : Int32) d1_198 rfl rfl ?_
                          by_cases c23 : ((own_el xs (x1 + (3 : Int32))) &&& (255 : Int32)) < (128 : Int32)
                          · refine g_icY C 223 d1_201 (tlt c23).1 (by decide) (by decide) ?_
                            refine g_iconst C 224 (0 : Int32) d1_223 rfl rfl ?_
                            refine g_istoreN C 225 #[.val (.ref a), .val (.int x1), .val (.int ((own_el xs x1) &&& (255 : Int32))), .val (.int (0 : Int32)), .val (.int (128 : Int32)), .val (.int (143 : Int32)), .val (.int (3 : Int32)), .val (.int ((own_el xs (x1 + (3 : Int32))) &&& (255 : Int32)))] d1_224 rfl rfl ?_
                            refine g_iinc C 228 (4 : Int32) #[.val (.ref a), .val (.int x1), .val (.int ((own_el xs x1) &&& (255 : Int32))), .val (.int (0 : Int32)), .val (.int (128 : Int32)), .val (.int (143 : Int32)), .val (.int (4 : Int32)), .val (.int ((own_el xs (x1 + (3 : Int32))) &&& (255 : Int32)))] d1_225 rfl rfl (by decide) rfl ?_
                            refine g_goto C 167 d1_228 (by decide) (by decide) ?_
                            refine g_iload C 169 d1_167 rfl rfl ?_
                            refine g_iloadN C 170 d1_169 rfl rfl ?_
                            refine g_icY C 231 d1_170 (flt ((by decide) : ¬ ((4 : Int32) < (0 : Int32)))).2.1 (by decide) (by decide) ?_
                            refine g_iloadN C 232 d1_231 rfl rfl ?_
                            exact g_iret C d1_232 (by decide) (by decide) ⟨by rw [f_u8, if_neg c1, if_neg c3, if_pos c5, if_pos c6, if_neg c7, if_neg c9, if_pos c17, if_neg c18, if_neg c19, if_neg c20, if_neg c21, if_neg c22, if_pos c23], rfl⟩
                          · refine g_icN C 204 d1_201 (flt c23).1 rfl ?_
                            refine g_iload C 206 d1_204 rfl rfl ?_
                            refine g_iload C 208 d1_206 rfl rfl ?_
                            refine g_iconst C 209 (1 : Int32) d1_208 rfl rfl ?_
                            refine g_icY C 217 d1_209 (feq ((by decide) : ¬ ((3 : Int32) = (1 : Int32)))).2 (by decide) (by decide) ?_
                            refine g_sipush C 220 (191 : Int32) d1_217 rfl rfl ?_
                            by_cases c24 : (191 : Int32) < ((own_el xs (x1 + (3 : Int32))) &&& (255 : Int32))
                            · refine g_icN C 223 d1_220 (tlt c24).2.2.2 rfl ?_
                              refine g_iconst C 224 (0 : Int32) d1_223 rfl rfl ?_
                              refine g_istoreN C 225 #[.val (.ref a), .val (.int x1), .val (.int ((own_el xs x1) &&& (255 : Int32))), .val (.int (0 : Int32)), .val (.int (128 : Int32)), .val (.int (143 : Int32)), .val (.int (3 : Int32)), .val (.int ((own_el xs (x1 + (3 : Int32))) &&& (255 : Int32)))] d1_224 rfl rfl ?_
                              refine g_iinc C 228 (4 : Int32) #[.val (.ref a), .val (.int x1), .val (.int ((own_el xs x1) &&& (255 : Int32))), .val (.int (0 : Int32)), .val (.int (128 : Int32)), .val (.int (143 : Int32)), .val (.int (4 : Int32)), .val (.int ((own_el xs (x1 + (3 : Int32))) &&& (255 : Int32)))] d1_225 rfl rfl (by decide) rfl ?_
                              refine g_goto C 167 d1_228 (by decide) (by decide) ?_
                              refine g_iload C 169 d1_167 rfl rfl ?_
                              refine g_iloadN C 170 d1_169 rfl rfl ?_
                              refine g_icY C 231 d1_170 (flt ((by decide) : ¬ ((4 : Int32) < (0 : Int32)))).2.1 (by decide) (by decide) ?_
                              refine g_iloadN C 232 d1_231 rfl rfl ?_
                              exact g_iret C d1_232 (by decide) (by decide) ⟨by rw [f_u8, if_neg c1, if_neg c3, if_pos c5, if_pos c6, if_neg c7, if_neg c9, if_pos c17, if_neg c18, if_neg c19, if_neg c20, if_neg c21, if_neg c22, if_neg c23, if_pos c24], rfl⟩
                            · refine g_icY C 225 d1_220 (flt c24).2.2.2 (by decide) (by decide) ?_
                              refine g_iinc C 228 (4 : Int32) #[.val (.ref a), .val (.int x1), .val (.int ((own_el xs x1) &&& (255 : Int32))), .val (.int (4 : Int32)), .val (.int (128 : Int32)), .val (.int (143 : Int32)), .val (.int (4 : Int32)), .val (.int ((own_el xs (x1 + (3 : Int32))) &&& (255 : Int32)))] d1_225 rfl rfl (by decide) rfl ?_
                              refine g_goto C 167 d1_228 (by decide) (by decide) ?_
                              refine g_iload C 169 d1_167 rfl rfl ?_
                              refine g_iloadN C 170 d1_169 rfl rfl ?_
                              refine g_icY C 231 d1_170 (flt ((by decide) : ¬ ((4 : Int32) < (4 : Int32)))).2.1 (by decide) (by decide) ?_
                              refine g_iloadN C 232 d1_231 rfl rfl ?_
                              exact g_iret C d1_232 (by decide) (by decide) ⟨by rw [f_u8, if_neg c1, if_neg c3, if_pos c5, if_pos c6, if_neg c7, if_neg c9, if_pos c17, if_neg c18, if_neg c19, if_neg c20, if_neg c21, if_neg c22, if_neg c23, if_neg c24], rfl⟩
              · refine g_icY C 150 d1_141 (feq c17).2 (by decide) (by decide) ?_
                refine g_iload C 152 d1_150 rfl rfl ?_
                refine g_istore C 154 #[.val (.ref a), .val (.int x1), .val (.int ((own_el xs x1) &&& (255 : Int32))), .val (.int (4 : Int32)), .val (.int (128 : Int32)), .val (.int (191 : Int32)), .unset, .unset] d1_152 rfl rfl ?_
                refine g_iloadN C 155 d1_154 rfl rfl ?_
                refine g_iloadN C 156 d1_155 rfl rfl ?_
                refine g_iadd C 157 d1_156 rfl ?_
                refine g_aloadN C 158 d1_157 rfl rfl rfl ?_
                refine g_length C 159 n hi d1_158 rfl hn ?_
                by_cases c25 : n < (x1 + (4 : Int32))
                · refine g_icN C 162 d1_159 (tlt c25).2.2.2 rfl ?_
                  refine g_iconst C 163 (0 : Int32) d1_162 rfl rfl ?_
                  refine g_istoreN C 164 #[.val (.ref a), .val (.int x1), .val (.int ((own_el xs x1) &&& (255 : Int32))), .val (.int (0 : Int32)), .val (.int (128 : Int32)), .val (.int (191 : Int32)), .unset, .unset] d1_163 rfl rfl ?_
                  refine g_iconst C 165 (1 : Int32) d1_164 rfl rfl ?_
                  refine g_istore C 167 #[.val (.ref a), .val (.int x1), .val (.int ((own_el xs x1) &&& (255 : Int32))), .val (.int (0 : Int32)), .val (.int (128 : Int32)), .val (.int (191 : Int32)), .val (.int (1 : Int32)), .unset] d1_165 rfl rfl ?_
                  refine g_iload C 169 d1_167 rfl rfl ?_
                  refine g_iloadN C 170 d1_169 rfl rfl ?_
                  refine g_icY C 231 d1_170 (flt ((by decide) : ¬ ((1 : Int32) < (0 : Int32)))).2.1 (by decide) (by decide) ?_
                  refine g_iloadN C 232 d1_231 rfl rfl ?_
                  exact g_iret C d1_232 (by decide) (by decide) ⟨by rw [f_u8, if_neg c1, if_neg c3, if_pos c5, if_pos c6, if_neg c7, if_neg c9, if_neg c17, if_pos c25], rfl⟩
                · refine g_icY C 164 d1_159 (flt c25).2.2.2 (by decide) (by decide) ?_
                  refine g_iconst C 165 (1 : Int32) d1_164 rfl rfl ?_
                  refine g_istore C 167 #[.val (.ref a), .val (.int x1), .val (.int ((own_el xs x1) &&& (255 : Int32))), .val (.int (4 : Int32)), .val (.int (128 : Int32)), .val (.int (191 : Int32)), .val (.int (1 : Int32)), .unset] d1_165 rfl rfl ?_
                  refine g_iload C 169 d1_167 rfl rfl ?_
                  refine g_iloadN C 170 d1_169 rfl rfl ?_
                  refine g_icN C 173 d1_170 (tlt ((by decide) : (1 : Int32) < (4 : Int32))).2.1 rfl ?_
                  refine g_aloadN C 174 d1_173 rfl rfl rfl ?_
                  refine g_iloadN C 175 d1_174 rfl rfl ?_
                  refine g_iload C 177 d1_175 rfl rfl ?_
                  refine g_iadd C 178 d1_177 rfl ?_
                  refine g_baload C 179 hi d1_178 rfl (own_ix2 h1 h2 h3 (by decide) (by decide)) (own_el xs (x1 + (1 : Int32))) (own_ix3 h1 h2 h3 hn c25 (by decide) (by decide) (by decide)) ?_
                  refine g_sipush C 182 (255 : Int32) d1_179 rfl rfl ?_
                  refine g_iand C 183 d1_182 rfl ?_
                  refine g_istore C 185 #[.val (.ref a), .val (.int x1), .val (.int ((own_el xs x1) &&& (255 : Int32))), .val (.int (4 : Int32)), .val (.int (128 : Int32)), .val (.int (191 : Int32)), .val (.int (1 : Int32)), .val (.int ((own_el xs (x1 + (1 : Int32))) &&& (255 : Int32)))] d1_183 rfl rfl ?_
                  refine g_iload C 187 d1_185 rfl rfl ?_
                  refine g_iload C 189 d1_187 rfl rfl ?_
                  refine g_iconst C 190 (1 : Int32) d1_189 rfl rfl ?_
                  refine g_icN C 193 d1_190 (teq ((by decide) : (1 : Int32) = (1 : Int32))).2 rfl ?_
                  refine g_iload C 195 d1_193 rfl rfl ?_
                  refine g_goto C 201 d1_195 (by decide) (by decide) ?_
                  by_cases c26 : ((own_el xs (x1 + (1 : Int32))) &&& (255 : Int32)) < (128 : Int32)
                  · refine g_icY C 223 d1_201 (tlt c26).1 (by decide) (by decide) ?_
                    refine g_iconst C 224 (0 : Int32) d1_223 rfl rfl ?_
                    refine g_istoreN C 225 #[.val (.ref a), .val (.int x1), .val (.int ((own_el xs x1) &&& (255 : Int32))), .val (.int (0 : Int32)), .val (.int (128 : Int32)), .val (.int (191 : Int32)), .val (.int (1 : Int32)), .val (.int ((own_el xs (x1 + (1 : Int32))) &&& (255 : Int32)))] d1_224 rfl rfl ?_
                    refine g_iinc C 228 (2 : Int32) #[.val (.ref a), .val (.int x1), .val (.int ((own_el xs x1) &&& (255 : Int32))), .val (.int (0 : Int32)), .val (.int (128 : Int32)), .val (.int (191 : Int32)), .val (.int (2 : Int32)), .val (.int ((own_el xs (x1 + (1 : Int32))) &&& (255 : Int32)))] d1_225 rfl rfl (by decide) rfl ?_
                    refine g_goto C 167 d1_228 (by decide) (by decide) ?_
                    refine g_iload C 169 d1_167 rfl rfl ?_
                    refine g_iloadN C 170 d1_169 rfl rfl ?_
                    refine g_icY C 231 d1_170 (flt ((by decide) : ¬ ((2 : Int32) < (0 : Int32)))).2.1 (by decide) (by decide) ?_
                    refine g_iloadN C 232 d1_231 rfl rfl ?_
                    exact g_iret C d1_232 (by decide) (by decide) ⟨by rw [f_u8, if_neg c1, if_neg c3, if_pos c5, if_pos c6, if_neg c7, if_neg c9, if_neg c17, if_neg c25, if_pos c26], rfl⟩
                  · refine g_icN C 204 d1_201 (flt c26).1 rfl ?_
                    refine g_iload C 206 d1_204 rfl rfl ?_
                    refine g_iload C 208 d1_206 rfl rfl ?_
                    refine g_iconst C 209 (1 : Int32) d1_208 rfl rfl ?_
                    refine g_icN C 212 d1_209 (teq ((by decide) : (1 : Int32) = (1 : Int32))).2 rfl ?_
                    refine g_iload C 214 d1_212 rfl rfl ?_
                    refine g_goto C 220 d1_214 (by decide) (by decide) ?_
                    by_cases c27 : (191 : Int32) < ((own_el xs (x1 + (1 : Int32))) &&& (255 : Int32))
                    · refine g_icN C 223 d1_220 (tlt c27).2.2.2 rfl ?_
                      refine g_iconst C 224 (0 : Int32) d1_223 rfl rfl ?_
                      refine g_istoreN C 225 #[.val (.ref a), .val (.int x1), .val (.int ((own_el xs x1) &&& (255 : Int32))), .val (.int (0 : Int32)), .val (.int (128 : Int32)), .val (.int (191 : Int32)), .val (.int (1 : Int32)), .val (.int ((own_el xs (x1 + (1 : Int32))) &&& (255 : Int32)))] d1_224 rfl rfl ?_
                      refine g_iinc C 228 (2 : Int32) #[.val (.ref a), .val (.int x1), .val (.int ((own_el xs x1) &&& (255 : Int32))), .val (.int (0 : Int32)), .val (.int (128 : Int32)), .val (.int (191 : Int32)), .val (.int (2 : Int32)), .val (.int ((own_el xs (x1 + (1 : Int32))) &&& (255 : Int32)))] d1_225 rfl rfl (by decide) rfl ?_
                      refine g_goto C 167 d1_228 (by decide) (by decide) ?_
                      refine g_iload C 169 d1_167 rfl rfl ?_
                      refine g_iloadN C 170 d1_169 rfl rfl ?_
                      refine g_icY C 231 d1_170 (flt ((by decide) : ¬ ((2 : Int32) < (0 : Int32)))).2.1 (by decide) (by decide) ?_
                      refine g_iloadN C 232 d1_231 rfl rfl ?_
                      exact g_iret C d1_232 (by decide) (by decide) ⟨by rw [f_u8, if_neg c1, if_neg c3, if_pos c5, if_pos c6, if_neg c7, if_neg c9, if_neg c17, if_neg c25, if_neg c26, if_pos c27], rfl⟩
                    · refine g_icY C 225 d1_220 (flt c27).2.2.2 (by decide) (by decide) ?_
                      refine g_iinc C 228 (2 : Int32) #[.val (.ref a), .val (.int x1), .val (.int ((own_el xs x1) &&& (255 : Int32))), .val (.int (4 : Int32)), .val (.int (128 : Int32)), .val (.int (191 : Int32)), .val (.int (2 : Int32)), .val (.int ((own_el xs (x1 + (1 : Int32))) &&& (255 : Int32)))] d1_225 rfl rfl (by decide) rfl ?_
                      refine g_goto C 167 d1_228 (by decide) (by decide) ?_
                      refine g_iload C 169 d1_167 rfl rfl ?_
                      refine g_iloadN C 170 d1_169 rfl rfl ?_
                      refine g_icN C 173 d1_170 (tlt ((by decide) : (2 : Int32) < (4 : Int32))).2.1 rfl ?_
                      refine g_aloadN C 174 d1_173 rfl rfl rfl ?_
                      refine g_iloadN C 175 d1_174 rfl rfl ?_
                      refine g_iload C 177 d1_175 rfl rfl ?_
                      refine g_iadd C 178 d1_177 rfl ?_
                      refine g_baload C 179 hi d1_178 rfl (own_ix2 h1 h2 h3 (by decide) (by decide)) (own_el xs (x1 + (2 : Int32))) (own_ix3 h1 h2 h3 hn c25 (by decide) (by decide) (by decide)) ?_
                      refine g_sipush C 182 (255 : Int32) d1_179 rfl rfl ?_
                      refine g_iand C 183 d1_182 rfl ?_
                      refine g_istore C 185 #[.val (.ref a), .val (.int x1), .val (.int ((own_el xs x1) &&& (255 : Int32))), .val (.int (4 : Int32)), .val (.int (128 : Int32)), .val (.int (191 : Int32)), .val (.int (2 : Int32)), .val (.int ((own_el xs (x1 + (2 : Int32))) &&& (255 : Int32)))] d1_183 rfl rfl ?_
                      refine g_iload C 187 d1_185 rfl rfl ?_
                      refine g_iload C 189 d1_187 rfl rfl ?_
                      refine g_iconst C 190 (1 : Int32) d1_189 rfl rfl ?_
                      refine g_icY C 198 d1_190 (feq ((by decide) : ¬ ((2 : Int32) = (1 : Int32)))).2 (by decide) (by decide) ?_
                      refine g_sipush C 201 (128 : Int32) d1_198 rfl rfl ?_
                      by_cases c28 : ((own_el xs (x1 + (2 : Int32))) &&& (255 : Int32)) < (128 : Int32)
                      · refine g_icY C 223 d1_201 (tlt c28).1 (by decide) (by decide) ?_
                        refine g_iconst C 224 (0 : Int32) d1_223 rfl rfl ?_
                        refine g_istoreN C 225 #[.val (.ref a), .val (.int x1), .val (.int ((own_el xs x1) &&& (255 : Int32))), .val (.int (0 : Int32)), .val (.int (128 : Int32)), .val (.int (191 : Int32)), .val (.int (2 : Int32)), .val (.int ((own_el xs (x1 + (2 : Int32))) &&& (255 : Int32)))] d1_224 rfl rfl ?_
                        refine g_iinc C 228 (3 : Int32) #[.val (.ref a), .val (.int x1), .val (.int ((own_el xs x1) &&& (255 : Int32))), .val (.int (0 : Int32)), .val (.int (128 : Int32)), .val (.int (191 : Int32)), .val (.int (3 : Int32)), .val (.int ((own_el xs (x1 + (2 : Int32))) &&& (255 : Int32)))] d1_225 rfl rfl (by decide) rfl ?_
                        refine g_goto C 167 d1_228 (by decide) (by decide) ?_
                        refine g_iload C 169 d1_167 rfl rfl ?_
                        refine g_iloadN C 170 d1_169 rfl rfl ?_
                        refine g_icY C 231 d1_170 (flt ((by decide) : ¬ ((3 : Int32) < (0 : Int32)))).2.1 (by decide) (by decide) ?_
                        refine g_iloadN C 232 d1_231 rfl rfl ?_
                        exact g_iret C d1_232 (by decide) (by decide) ⟨by rw [f_u8, if_neg c1, if_neg c3, if_pos c5, if_pos c6, if_neg c7, if_neg c9, if_neg c17, if_neg c25, if_neg c26, if_neg c27, if_pos c28], rfl⟩
                      · refine g_icN C 204 d1_201 (flt c28).1 rfl ?_
                        refine g_iload C 206 d1_204 rfl rfl ?_
                        refine g_iload C 208 d1_206 rfl rfl ?_
                        refine g_iconst C 209 (1 : Int32) d1_208 rfl rfl ?_
                        refine g_icY C 217 d1_209 (feq ((by decide) : ¬ ((2 : Int32) = (1 : Int32)))).2 (by decide) (by decide) ?_
                        refine g_sipush C 220 (191 : Int32) d1_217 rfl rfl ?_
                        by_cases c29 : (191 : Int32) < ((own_el xs (x1 + (2 : Int32))) &&& (255 : Int32))
                        · refine g_icN C 223 d1_220 (tlt c29).2.2.2 rfl ?_
                          refine g_iconst C 224 (0 : Int32) d1_223 rfl rfl ?_
                          refine g_istoreN C 225 #[.val (.ref a), .val (.int x1), .val (.int ((own_el xs x1) &&& (255 : Int32))), .val (.int (0 : Int32)), .val (.int (128 : Int32)), .val (.int (191 : Int32)), .val (.int (2 : Int32)), .val (.int ((own_el xs (x1 + (2 : Int32))) &&& (255 : Int32)))] d1_224 rfl rfl ?_
                          refine g_iinc C 228 (3 : Int32) #[.val (.ref a), .val (.int x1), .val (.int ((own_el xs x1) &&& (255 : Int32))), .val (.int (0 : Int32)), .val (.int (128 : Int32)), .val (.int (191 : Int32)), .val (.int (3 : Int32)), .val (.int ((own_el xs (x1 + (2 : Int32))) &&& (255 : Int32)))] d1_225 rfl rfl (by decide) rfl ?_
                          refine g_goto C 167 d1_228 (by decide) (by decide) ?_
                          refine g_iload C 169 d1_167 rfl rfl ?_
                          refine g_iloadN C 170 d1_169 rfl rfl ?_
                          refine g_icY C 231 d1_170 (flt ((by decide) : ¬ ((3 : Int32) < (0 : Int32)))).2.1 (by decide) (by decide) ?_
                          refine g_iloadN C 232 d1_231 rfl rfl ?_
                          exact g_iret C d1_232 (by decide) (by decide) ⟨by rw [f_u8, if_neg c1, if_neg c3, if_pos c5, if_pos c6, if_neg c7, if_neg c9, if_neg c17, if_neg c25, if_neg c26, if_neg c27, if_neg c28, if_pos c29], rfl⟩
                        · refine g_icY C 225 d1_220 (flt c29).2.2.2 (by decide) (by decide) ?_
                          refine g_iinc C 228 (3 : Int32) #[.val (.ref a), .val (.int x1), .val (.int ((own_el xs x1) &&& (255 : Int32))), .val (.int (4 : Int32)), .val (.int (128 : Int32)), .val (.int (191 : Int32)), .val (.int (3 : Int32)), .val (.int ((own_el xs (x1 + (2 : Int32))) &&& (255 : Int32)))] d1_225 rfl rfl (by decide) rfl ?_
                          refine g_goto C 167 d1_228 (by decide) (by decide) ?_
                          refine g_iload C 169 d1_167 rfl rfl ?_
                          refine g_iloadN C 170 d1_169 rfl rfl ?_
                          refine g_icN C 173 d1_170 (tlt ((by decide) : (3 : Int32) < (4 : Int32))).2.1 rfl ?_
                          refine g_aloadN C 174 d1_173 rfl rfl rfl ?_
                          refine g_iloadN C 175 d1_174 rfl rfl ?_
                          refine g_iload C 177 d1_175 rfl rfl ?_
                          refine g_iadd C 178 d1_177 rfl ?_
                          refine g_baload C 179 hi d1_178 rfl (own_ix2 h1 h2 h3 (by decide) (by decide)) (own_el xs (x1 + (3 : Int32))) (own_ix3 h1 h2 h3 hn c25 (by decide) (by decide) (by decide)) ?_
                          refine g_sipush C 182 (255 : Int32) d1_179 rfl rfl ?_
                          refine g_iand C 183 d1_182 rfl ?_
                          refine g_istore C 185 #[.val (.ref a), .val (.int x1), .val (.int ((own_el xs x1) &&& (255 : Int32))), .val (.int (4 : Int32)), .val (.int (128 : Int32)), .val (.int (191 : Int32)), .val (.int (3 : Int32)), .val (.int ((own_el xs (x1 + (3 : Int32))) &&& (255 : Int32)))] d1_183 rfl rfl ?_
                          refine g_iload C 187 d1_185 rfl rfl ?_
                          refine g_iload C 189 d1_187 rfl rfl ?_
                          refine g_iconst C 190 (1 : Int32) d1_189 rfl rfl ?_
                          refine g_icY C 198 d1_190 (feq ((by decide) : ¬ ((3 : Int32) = (1 : Int32)))).2 (by decide) (by decide) ?_
                          refine g_sipush C 201 (128 : Int32) d1_198 rfl rfl ?_
                          by_cases c30 : ((own_el xs (x1 + (3 : Int32))) &&& (255 : Int32)) < (128 : Int32)
                          · refine g_icY C 223 d1_201 (tlt c30).1 (by decide) (by decide) ?_
                            refine g_iconst C 224 (0 : Int32) d1_223 rfl rfl ?_
                            refine g_istoreN C 225 #[.val (.ref a), .val (.int x1), .val (.int ((own_el xs x1) &&& (255 : Int32))), .val (.int (0 : Int32)), .val (.int (128 : Int32)), .val (.int (191 : Int32)), .val (.int (3 : Int32)), .val (.int ((own_el xs (x1 + (3 : Int32))) &&& (255 : Int32)))] d1_224 rfl rfl ?_
                            refine g_iinc C 228 (4 : Int32) #[.val (.ref a), .val (.int x1), .val (.int ((own_el xs x1) &&& (255 : Int32))), .val (.int (0 : Int32)), .val (.int (128 : Int32)), .val (.int (191 : Int32)), .val (.int (4 : Int32)), .val (.int ((own_el xs (x1 + (3 : Int32))) &&& (255 : Int32)))] d1_225 rfl rfl (by decide) rfl ?_
                            refine g_goto C 167 d1_228 (by decide) (by decide) ?_
                            refine g_iload C 169 d1_167 rfl rfl ?_
                            refine g_iloadN C 170 d1_169 rfl rfl ?_
                            refine g_icY C 231 d1_170 (flt ((by decide) : ¬ ((4 : Int32) < (0 : Int32)))).2.1 (by decide) (by decide) ?_
                            refine g_iloadN C 232 d1_231 rfl rfl ?_
                            exact g_iret C d1_232 (by decide) (by decide) ⟨by rw [f_u8, if_neg c1, if_neg c3, if_pos c5, if_pos c6, if_neg c7, if_neg c9, if_neg c17, if_neg c25, if_neg c26, if_neg c27, if_neg c28, if_neg c29, if_pos c30], rfl⟩
                          · refine g_icN C 204 d1_201 (flt c30).1 rfl ?_
                            refine g_iload C 206 d1_204 rfl rfl ?_
                            refine g_iload C 208 d1_206 rfl rfl ?_
                            refine g_iconst C 209 (1 : Int32) d1_208 rfl rfl ?_
                            refine g_icY C 217 d1_209 (feq ((by decide) : ¬ ((3 : Int32) = (1 : Int32)))).2 (by decide) (by decide) ?_
                            refine g_sipush C 220 (191 : Int32) d1_217 rfl rfl ?_
                            by_cases c31 : (191 : Int32) < ((own_el xs (x1 + (3 : Int32))) &&& (255 : Int32))
                            · refine g_icN C 223 d1_220 (tlt c31).2.2.2 rfl ?_
                              refine g_iconst C 224 (0 : Int32) d1_223 rfl rfl ?_
                              refine g_istoreN C 225 #[.val (.ref a), .val (.int x1), .val (.int ((own_el xs x1) &&& (255 : Int32))), .val (.int (0 : Int32)), .val (.int (128 : Int32)), .val (.int (191 : Int32)), .val (.int (3 : Int32)), .val (.int ((own_el xs (x1 + (3 : Int32))) &&& (255 : Int32)))] d1_224 rfl rfl ?_
                              refine g_iinc C 228 (4 : Int32) #[.val (.ref a), .val (.int x1), .val (.int ((own_el xs x1) &&& (255 : Int32))), .val (.int (0 : Int32)), .val (.int (128 : Int32)), .val (.int (191 : Int32)), .val (.int (4 : Int32)), .val (.int ((own_el xs (x1 + (3 : Int32))) &&& (255 : Int32)))] d1_225 rfl rfl (by decide) rfl ?_
                              refine g_goto C 167 d1_228 (by decide) (by decide) ?_
                              refine g_iload C 169 d1_167 rfl rfl ?_
                              refine g_iloadN C 170 d1_169 rfl rfl ?_
                              refine g_icY C 231 d1_170 (flt ((by decide) : ¬ ((4 : Int32) < (0 : Int32)))).2.1 (by decide) (by decide) ?_
                              refine g_iloadN C 232 d1_231 rfl rfl ?_
                              exact g_iret C d1_232 (by decide) (by decide) ⟨by rw [f_u8, if_neg c1, if_neg c3, if_pos c5, if_pos c6, if_neg c7, if_neg c9, if_neg c17, if_neg c25, if_neg c26, if_neg c27, if_neg c28, if_neg c29, if_neg c30, if_pos c31], rfl⟩
                            · refine g_icY C 225 d1_220 (flt c31).2.2.2 (by decide) (by decide) ?_
                              refine g_iinc C 228 (4 : Int32) #[.val (.ref a), .val (.int x1), .val (.int ((own_el xs x1) &&& (255 : Int32))), .val (.int (4 : Int32)), .val (.int (128 : Int32)), .val (.int (191 : Int32)), .val (.int (4 : Int32)), .val (.int ((own_el xs (x1 + (3 : Int32))) &&& (255 : Int32)))] d1_225 rfl rfl (by decide) rfl ?_
                              refine g_goto C 167 d1_228 (by decide) (by decide) ?_
                              refine g_iload C 169 d1_167 rfl rfl ?_
                              refine g_iloadN C 170 d1_169 rfl rfl ?_
                              refine g_icY C 231 d1_170 (flt ((by decide) : ¬ ((4 : Int32) < (4 : Int32)))).2.1 (by decide) (by decide) ?_
                              refine g_iloadN C 232 d1_231 rfl rfl ?_
                              exact g_iret C d1_232 (by decide) (by decide) ⟨by rw [f_u8, if_neg c1, if_neg c3, if_pos c5, if_pos c6, if_neg c7, if_neg c9, if_neg c17, if_neg c25, if_neg c26, if_neg c27, if_neg c28, if_neg c29, if_neg c30, if_neg c31], rfl⟩
        · refine g_icN C 65 d1_62 (flt c6).2.2.1 rfl ?_
          refine g_iconst C 66 (3 : Int32) d1_65 rfl rfl ?_
          refine g_istoreN C 67 #[.val (.ref a), .val (.int x1), .val (.int ((own_el xs x1) &&& (255 : Int32))), .val (.int (3 : Int32)), .val (.int (128 : Int32)), .val (.int (191 : Int32)), .unset, .unset] d1_66 rfl rfl ?_
          refine g_iloadN C 68 d1_67 rfl rfl ?_
          refine g_sipush C 71 (224 : Int32) d1_68 rfl rfl ?_
          by_cases c32 : ((own_el xs x1) &&& (255 : Int32)) = (224 : Int32)
          · refine g_icN C 74 d1_71 (teq c32).2 rfl ?_
            refine g_sipush C 77 (160 : Int32) d1_74 rfl rfl ?_
            refine g_goto C 82 d1_77 (by decide) (by decide) ?_
            refine g_istore C 84 #[.val (.ref a), .val (.int x1), .val (.int ((own_el xs x1) &&& (255 : Int32))), .val (.int (3 : Int32)), .val (.int (160 : Int32)), .val (.int (191 : Int32)), .unset, .unset] d1_82 rfl rfl ?_
            refine g_iloadN C 85 d1_84 rfl rfl ?_
            refine g_sipush C 88 (237 : Int32) d1_85 rfl rfl ?_
            refine g_icY C 97 d1_88 (feq (fun q => absurd (c32.symm.trans q) (by decide) : ¬ (((own_el xs x1) &&& (255 : Int32)) = (237 : Int32)))).2 (by decide) (by decide) ?_
            refine g_iload C 99 d1_97 rfl rfl ?_
            refine g_istore C 101 #[.val (.ref a), .val (.int x1), .val (.int ((own_el xs x1) &&& (255 : Int32))), .val (.int (3 : Int32)), .val (.int (160 : Int32)), .val (.int (191 : Int32)), .unset, .unset] d1_99 rfl rfl ?_
            refine g_goto C 154 d1_101 (by decide) (by decide) ?_
            refine g_iloadN C 155 d1_154 rfl rfl ?_
            refine g_iloadN C 156 d1_155 rfl rfl ?_
            refine g_iadd C 157 d1_156 rfl ?_
            refine g_aloadN C 158 d1_157 rfl rfl rfl ?_
            refine g_length C 159 n hi d1_158 rfl hn ?_
            by_cases c33 : n < (x1 + (3 : Int32))
            · refine g_icN C 162 d1_159 (tlt c33).2.2.2 rfl ?_
              refine g_iconst C 163 (0 : Int32) d1_162 rfl rfl ?_
              refine g_istoreN C 164 #[.val (.ref a), .val (.int x1), .val (.int ((own_el xs x1) &&& (255 : Int32))), .val (.int (0 : Int32)), .val (.int (160 : Int32)), .val (.int (191 : Int32)), .unset, .unset] d1_163 rfl rfl ?_
              refine g_iconst C 165 (1 : Int32) d1_164 rfl rfl ?_
              refine g_istore C 167 #[.val (.ref a), .val (.int x1), .val (.int ((own_el xs x1) &&& (255 : Int32))), .val (.int (0 : Int32)), .val (.int (160 : Int32)), .val (.int (191 : Int32)), .val (.int (1 : Int32)), .unset] d1_165 rfl rfl ?_
              refine g_iload C 169 d1_167 rfl rfl ?_
              refine g_iloadN C 170 d1_169 rfl rfl ?_
              refine g_icY C 231 d1_170 (flt ((by decide) : ¬ ((1 : Int32) < (0 : Int32)))).2.1 (by decide) (by decide) ?_
              refine g_iloadN C 232 d1_231 rfl rfl ?_
              exact g_iret C d1_232 (by decide) (by decide) ⟨by rw [f_u8, if_neg c1, if_neg c3, if_pos c5, if_neg c6, if_pos c32, if_pos c33], rfl⟩
            · refine g_icY C 164 d1_159 (flt c33).2.2.2 (by decide) (by decide) ?_
              refine g_iconst C 165 (1 : Int32) d1_164 rfl rfl ?_
              refine g_istore C 167 #[.val (.ref a), .val (.int x1), .val (.int ((own_el xs x1) &&& (255 : Int32))), .val (.int (3 : Int32)), .val (.int (160 : Int32)), .val (.int (191 : Int32)), .val (.int (1 : Int32)), .unset] d1_165 rfl rfl ?_
              refine g_iload C 169 d1_167 rfl rfl ?_
              refine g_iloadN C 170 d1_169 rfl rfl ?_
              refine g_icN C 173 d1_170 (tlt ((by decide) : (1 : Int32) < (3 : Int32))).2.1 rfl ?_
              refine g_aloadN C 174 d1_173 rfl rfl rfl ?_
              refine g_iloadN C 175 d1_174 rfl rfl ?_
              refine g_iload C 177 d1_175 rfl rfl ?_
              refine g_iadd C 178 d1_177 rfl ?_
              refine g_baload C 179 hi d1_178 rfl (own_ix2 h1 h2 h3 (by decide) (by decide)) (own_el xs (x1 + (1 : Int32))) (own_ix3 h1 h2 h3 hn c33 (by decide) (by decide) (by decide)) ?_
              refine g_sipush C 182 (255 : Int32) d1_179 rfl rfl ?_
              refine g_iand C 183 d1_182 rfl ?_
              refine g_istore C 185 #[.val (.ref a), .val (.int x1), .val (.int ((own_el xs x1) &&& (255 : Int32))), .val (.int (3 : Int32)), .val (.int (160 : Int32)), .val (.int (191 : Int32)), .val (.int (1 : Int32)), .val (.int ((own_el xs (x1 + (1 : Int32))) &&& (255 : Int32)))] d1_183 rfl rfl ?_
              refine g_iload C 187 d1_185 rfl rfl ?_
              refine g_iload C 189 d1_187 rfl rfl ?_
              refine g_iconst C 190 (1 : Int32) d1_189 rfl rfl ?_
              refine g_icN C 193 d1_190 (teq ((by decide) : (1 : Int32) = (1 : Int32))).2 rfl ?_
              refine g_iload C 195 d1_193 rfl rfl ?_
              refine g_goto C 201 d1_195 (by decide) (by decide) ?_
              by_cases c34 : ((own_el xs (x1 + (1 : Int32))) &&& (255 : Int32)) < (160 : Int32)
              · refine g_icY C 223 d1_201 (tlt c34).1 (by decide) (by decide) ?_
                refine g_iconst C 224 (0 : Int32) d1_223 rfl rfl ?_
                refine g_istoreN C 225 #[.val (.ref a), .val (.int x1), .val (.int ((own_el xs x1) &&& (255 : Int32))), .val (.int (0 : Int32)), .val (.int (160 : Int32)), .val (.int (191 : Int32)), .val (.int (1 : Int32)), .val (.int ((own_el xs (x1 + (1 : Int32))) &&& (255 : Int32)))] d1_224 rfl rfl ?_
                refine g_iinc C 228 (2 : Int32) #[.val (.ref a), .val (.int x1), .val (.int ((own_el xs x1) &&& (255 : Int32))), .val (.int (0 : Int32)), .val (.int (160 : Int32)), .val (.int (191 : Int32)), .val (.int (2 : Int32)), .val (.int ((own_el xs (x1 + (1 : Int32))) &&& (255 : Int32)))] d1_225 rfl rfl (by decide) rfl ?_
                refine g_goto C 167 d1_228 (by decide) (by decide) ?_
                refine g_iload C 169 d1_167 rfl rfl ?_
                refine g_iloadN C 170 d1_169 rfl rfl ?_
                refine g_icY C 231 d1_170 (flt ((by decide) : ¬ ((2 : Int32) < (0 : Int32)))).2.1 (by decide) (by decide) ?_
                refine g_iloadN C 232 d1_231 rfl rfl ?_
                exact g_iret C d1_232 (by decide) (by decide) ⟨by rw [f_u8, if_neg c1, if_neg c3, if_pos c5, if_neg c6, if_pos c32, if_neg c33, if_pos c34], rfl⟩
              · refine g_icN C 204 d1_201 (flt c34).1 rfl ?_
                refine g_iload C 206 d1_204 rfl rfl ?_
                refine g_iload C 208 d1_206 rfl rfl ?_
                refine g_iconst C 209 (1 : Int32) d1_208 rfl rfl ?_
                refine g_icN C 212 d1_209 (teq ((by decide) : (1 : Int32) = (1 : Int32))).2 rfl ?_
                refine g_iload C 214 d1_212 rfl rfl ?_
                refine g_goto C 220 d1_214 (by decide) (by decide) ?_
                by_cases c35 : (191 : Int32) < ((own_el xs (x1 + (1 : Int32))) &&& (255 : Int32))
                · refine g_icN C 223 d1_220 (tlt c35).2.2.2 rfl ?_
                  refine g_iconst C 224 (0 : Int32) d1_223 rfl rfl ?_
                  refine g_istoreN C 225 #[.val (.ref a), .val (.int x1), .val (.int ((own_el xs x1) &&& (255 : Int32))), .val (.int (0 : Int32)), .val (.int (160 : Int32)), .val (.int (191 : Int32)), .val (.int (1 : Int32)), .val (.int ((own_el xs (x1 + (1 : Int32))) &&& (255 : Int32)))] d1_224 rfl rfl ?_
                  refine g_iinc C 228 (2 : Int32) #[.val (.ref a), .val (.int x1), .val (.int ((own_el xs x1) &&& (255 : Int32))), .val (.int (0 : Int32)), .val (.int (160 : Int32)), .val (.int (191 : Int32)), .val (.int (2 : Int32)), .val (.int ((own_el xs (x1 + (1 : Int32))) &&& (255 : Int32)))] d1_225 rfl rfl (by decide) rfl ?_
                  refine g_goto C 167 d1_228 (by decide) (by decide) ?_
                  refine g_iload C 169 d1_167 rfl rfl ?_
                  refine g_iloadN C 170 d1_169 rfl rfl ?_
                  refine g_icY C 231 d1_170 (flt ((by decide) : ¬ ((2 : Int32) < (0 : Int32)))).2.1 (by decide) (by decide) ?_
                  refine g_iloadN C 232 d1_231 rfl rfl ?_
                  exact g_iret C d1_232 (by decide) (by decide) ⟨by rw [f_u8, if_neg c1, if_neg c3, if_pos c5, if_neg c6, if_pos c32, if_neg c33, if_neg c34, if_pos c35], rfl⟩
                · refine g_icY C 225 d1_220 (flt c35).2.2.2 (by decide) (by decide) ?_
                  refine g_iinc C 228 (2 : Int32) #[.val (.ref a), .val (.int x1), .val (.int ((own_el xs x1) &&& (255 : Int32))), .val (.int (3 : Int32)), .val (.int (160 : Int32)), .val (.int (191 : Int32)), .val (.int (2 : Int32)), .val (.int ((own_el xs (x1 + (1 : Int32))) &&& (255 : Int32)))] d1_225 rfl rfl (by decide) rfl ?_
                  refine g_goto C 167 d1_228 (by decide) (by decide) ?_
                  refine g_iload C 169 d1_167 rfl rfl ?_
                  refine g_iloadN C 170 d1_169 rfl rfl ?_
                  refine g_icN C 173 d1_170 (tlt ((by decide) : (2 : Int32) < (3 : Int32))).2.1 rfl ?_
                  refine g_aloadN C 174 d1_173 rfl rfl rfl ?_
                  refine g_iloadN C 175 d1_174 rfl rfl ?_
                  refine g_iload C 177 d1_175 rfl rfl ?_
                  refine g_iadd C 178 d1_177 rfl ?_
                  refine g_baload C 179 hi d1_178 rfl (own_ix2 h1 h2 h3 (by decide) (by decide)) (own_el xs (x1 + (2 : Int32))) (own_ix3 h1 h2 h3 hn c33 (by decide) (by decide) (by decide)) ?_
                  refine g_sipush C 182 (255 : Int32) d1_179 rfl rfl ?_
                  refine g_iand C 183 d1_182 rfl ?_
                  refine g_istore C 185 #[.val (.ref a), .val (.int x1), .val (.int ((own_el xs x1) &&& (255 : Int32))), .val (.int (3 : Int32)), .val (.int (160 : Int32)), .val (.int (191 : Int32)), .val (.int (2 : Int32)), .val (.int ((own_el xs (x1 + (2 : Int32))) &&& (255 : Int32)))] d1_183 rfl rfl ?_
                  refine g_iload C 187 d1_185 rfl rfl ?_
                  refine g_iload C 189 d1_187 rfl rfl ?_
                  refine g_iconst C 190 (1 : Int32) d1_189 rfl rfl ?_
                  refine g_icY C 198 d1_190 (feq ((by decide) : ¬ ((2 : Int32) = (1 : Int32)))).2 (by decide) (by decide) ?_
                  refine g_sipush C 201 (128 : Int32) d1_198 rfl rfl ?_
                  by_cases c36 : ((own_el xs (x1 + (2 : Int32))) &&& (255 : Int32)) < (128 : Int32)
                  · refine g_icY C 223 d1_201 (tlt c36).1 (by decide) (by decide) ?_
                    refine g_iconst C 224 (0 : Int32) d1_223 rfl rfl ?_
                    refine g_istoreN C 225 #[.val (.ref a), .val (.int x1), .val (.int ((own_el xs x1) &&& (255 : Int32))), .val (.int (0 : Int32)), .val (.int (160 : Int32)), .val (.int (191 : Int32)), .val (.int (2 : Int32)), .val (.int ((own_el xs (x1 + (2 : Int32))) &&& (255 : Int32)))] d1_224 rfl rfl ?_
                    refine g_iinc C 228 (3 : Int32) #[.val (.ref a), .val (.int x1), .val (.int ((own_el xs x1) &&& (255 : Int32))), .val (.int (0 : Int32)), .val (.int (160 : Int32)), .val (.int (191 : Int32)), .val (.int (3 : Int32)), .val (.int ((own_el xs (x1 + (2 : Int32))) &&& (255 : Int32)))] d1_225 rfl rfl (by decide) rfl ?_
                    refine g_goto C 167 d1_228 (by decide) (by decide) ?_
                    refine g_iload C 169 d1_167 rfl rfl ?_
                    refine g_iloadN C 170 d1_169 rfl rfl ?_
                    refine g_icY C 231 d1_170 (flt ((by decide) : ¬ ((3 : Int32) < (0 : Int32)))).2.1 (by decide) (by decide) ?_
                    refine g_iloadN C 232 d1_231 rfl rfl ?_
                    exact g_iret C d1_232 (by decide) (by decide) ⟨by rw [f_u8, if_neg c1, if_neg c3, if_pos c5, if_neg c6, if_pos c32, if_neg c33, if_neg c34, if_neg c35, if_pos c36], rfl⟩
                  · refine g_icN C 204 d1_201 (flt c36).1 rfl ?_
                    refine g_iload C 206 d1_204 rfl rfl ?_
                    refine g_iload C 208 d1_206 rfl rfl ?_
                    refine g_iconst C 209 (1 : Int32) d1_208 rfl rfl ?_
                    refine g_icY C 217 d1_209 (feq ((by decide) : ¬ ((2 : Int32) = (1 : Int32)))).2 (by decide) (by decide) ?_
                    refine g_sipush C 220 (191 : Int32) d1_217 rfl rfl ?_
                    by_cases c37 : (191 : Int32) < ((own_el xs (x1 + (2 : Int32))) &&& (255 : Int32))
                    · refine g_icN C 223 d1_220 (tlt c37).2.2.2 rfl ?_
                      refine g_iconst C 224 (0 : Int32) d1_223 rfl rfl ?_
                      refine g_istoreN C 225 #[.val (.ref a), .val (.int x1), .val (.int ((own_el xs x1) &&& (255 : Int32))), .val (.int (0 : Int32)), .val (.int (160 : Int32)), .val (.int (191 : Int32)), .val (.int (2 : Int32)), .val (.int ((own_el xs (x1 + (2 : Int32))) &&& (255 : Int32)))] d1_224 rfl rfl ?_
                      refine g_iinc C 228 (3 : Int32) #[.val (.ref a), .val (.int x1), .val (.int ((own_el xs x1) &&& (255 : Int32))), .val (.int (0 : Int32)), .val (.int (160 : Int32)), .val (.int (191 : Int32)), .val (.int (3 : Int32)), .val (.int ((own_el xs (x1 + (2 : Int32))) &&& (255 : Int32)))] d1_225 rfl rfl (by decide) rfl ?_
                      refine g_goto C 167 d1_228 (by decide) (by decide) ?_
                      refine g_iload C 169 d1_167 rfl rfl ?_
                      refine g_iloadN C 170 d1_169 rfl rfl ?_
                      refine g_icY C 231 d1_170 (flt ((by decide) : ¬ ((3 : Int32) < (0 : Int32)))).2.1 (by decide) (by decide) ?_
                      refine g_iloadN C 232 d1_231 rfl rfl ?_
                      exact g_iret C d1_232 (by decide) (by decide) ⟨by rw [f_u8, if_neg c1, if_neg c3, if_pos c5, if_neg c6, if_pos c32, if_neg c33, if_neg c34, if_neg c35, if_neg c36, if_pos c37], rfl⟩
                    · refine g_icY C 225 d1_220 (flt c37).2.2.2 (by decide) (by decide) ?_
                      refine g_iinc C 228 (3 : Int32) #[.val (.ref a), .val (.int x1), .val (.int ((own_el xs x1) &&& (255 : Int32))), .val (.int (3 : Int32)), .val (.int (160 : Int32)), .val (.int (191 : Int32)), .val (.int (3 : Int32)), .val (.int ((own_el xs (x1 + (2 : Int32))) &&& (255 : Int32)))] d1_225 rfl rfl (by decide) rfl ?_
                      refine g_goto C 167 d1_228 (by decide) (by decide) ?_
                      refine g_iload C 169 d1_167 rfl rfl ?_
                      refine g_iloadN C 170 d1_169 rfl rfl ?_
                      refine g_icY C 231 d1_170 (flt ((by decide) : ¬ ((3 : Int32) < (3 : Int32)))).2.1 (by decide) (by decide) ?_
                      refine g_iloadN C 232 d1_231 rfl rfl ?_
                      exact g_iret C d1_232 (by decide) (by decide) ⟨by rw [f_u8, if_neg c1, if_neg c3, if_pos c5, if_neg c6, if_pos c32, if_neg c33, if_neg c34, if_neg c35, if_neg c36, if_neg c37], rfl⟩
          · refine g_icY C 80 d1_71 (feq c32).2 (by decide) (by decide) ?_
            refine g_iload C 82 d1_80 rfl rfl ?_
            refine g_istore C 84 #[.val (.ref a), .val (.int x1), .val (.int ((own_el xs x1) &&& (255 : Int32))), .val (.int (3 : Int32)), .val (.int (128 : Int32)), .val (.int (191 : Int32)), .unset, .unset] d1_82 rfl rfl ?_
            refine g_iloadN C 85 d1_84 rfl rfl ?_
            refine g_sipush C 88 (237 : Int32) d1_85 rfl rfl ?_
            by_cases c38 : ((own_el xs x1) &&& (255 : Int32)) = (237 : Int32)
            · refine g_icN C 91 d1_88 (teq c38).2 rfl ?_
              refine g_sipush C 94 (159 : Int32) d1_91 rfl rfl ?_
              refine g_goto C 99 d1_94 (by decide) (by decide) ?_
              refine g_istore C 101 #[.val (.ref a), .val (.int x1), .val (.int ((own_el xs x1) &&& (255 : Int32))), .val (.int (3 : Int32)), .val (.int (128 : Int32)), .val (.int (159 : Int32)), .unset, .unset] d1_99 rfl rfl ?_
              refine g_goto C 154 d1_101 (by decide) (by decide) ?_
              refine g_iloadN C 155 d1_154 rfl rfl ?_
              refine g_iloadN C 156 d1_155 rfl rfl ?_
              refine g_iadd C 157 d1_156 rfl ?_
              refine g_aloadN C 158 d1_157 rfl rfl rfl ?_
              refine g_length C 159 n hi d1_158 rfl hn ?_
              by_cases c39 : n < (x1 + (3 : Int32))
              · refine g_icN C 162 d1_159 (tlt c39).2.2.2 rfl ?_
                refine g_iconst C 163 (0 : Int32) d1_162 rfl rfl ?_
                refine g_istoreN C 164 #[.val (.ref a), .val (.int x1), .val (.int ((own_el xs x1) &&& (255 : Int32))), .val (.int (0 : Int32)), .val (.int (128 : Int32)), .val (.int (159 : Int32)), .unset, .unset] d1_163 rfl rfl ?_
                refine g_iconst C 165 (1 : Int32) d1_164 rfl rfl ?_
                refine g_istore C 167 #[.val (.ref a), .val (.int x1), .val (.int ((own_el xs x1) &&& (255 : Int32))), .val (.int (0 : Int32)), .val (.int (128 : Int32)), .val (.int (159 : Int32)), .val (.int (1 : Int32)), .unset] d1_165 rfl rfl ?_
                refine g_iload C 169 d1_167 rfl rfl ?_
                refine g_iloadN C 170 d1_169 rfl rfl ?_
                refine g_icY C 231 d1_170 (flt ((by decide) : ¬ ((1 : Int32) < (0 : Int32)))).2.1 (by decide) (by decide) ?_
                refine g_iloadN C 232 d1_231 rfl rfl ?_
                exact g_iret C d1_232 (by decide) (by decide) ⟨by rw [f_u8, if_neg c1, if_neg c3, if_pos c5, if_neg c6, if_neg c32, if_pos c38, if_pos c39], rfl⟩
              · refine g_icY C 164 d1_159 (flt c39).2.2.2 (by decide) (by decide) ?_
                refine g_iconst C 165 (1 : Int32) d1_164 rfl rfl ?_
                refine g_istore C 167 #[.val (.ref a), .val (.int x1), .val (.int ((own_el xs x1) &&& (255 : Int32))), .val (.int (3 : Int32)), .val (.int (128 : Int32)), .val (.int (159 : Int32)), .val (.int (1 : Int32)), .unset] d1_165 rfl rfl ?_
                refine g_iload C 169 d1_167 rfl rfl ?_
                refine g_iloadN C 170 d1_169 rfl rfl ?_
                refine g_icN C 173 d1_170 (tlt ((by decide) : (1 : Int32) < (3 : Int32))).2.1 rfl ?_
                refine g_aloadN C 174 d1_173 rfl rfl rfl ?_
                refine g_iloadN C 175 d1_174 rfl rfl ?_
                refine g_iload C 177 d1_175 rfl rfl ?_
                refine g_iadd C 178 d1_177 rfl ?_
                refine g_baload C 179 hi d1_178 rfl (own_ix2 h1 h2 h3 (by decide) (by decide)) (own_el xs (x1 + (1 : Int32))) (own_ix3 h1 h2 h3 hn c39 (by decide) (by decide) (by decide)) ?_
                refine g_sipush C 182 (255 : Int32) d1_179 rfl rfl ?_
                refine g_iand C 183 d1_182 rfl ?_
                refine g_istore C 185 #[.val (.ref a), .val (.int x1), .val (.int ((own_el xs x1) &&& (255 : Int32))), .val (.int (3 : Int32)), .val (.int (128 : Int32)), .val (.int (159 : Int32)), .val (.int (1 : Int32)), .val (.int ((own_el xs (x1 + (1 : Int32))) &&& (255 : Int32)))] d1_183 rfl rfl ?_
                refine g_iload C 187 d1_185 rfl rfl ?_
                refine g_iload C 189 d1_187 rfl rfl ?_
                refine g_iconst C 190 (1 : Int32) d1_189 rfl rfl ?_
                refine g_icN C 193 d1_190 (teq ((by decide) : (1 : Int32) = (1 : Int32))).2 rfl ?_
                refine g_iload C 195 d1_193 rfl rfl ?_
                refine g_goto C 201 d1_195 (by decide) (by decide) ?_
                by_cases c40 : ((own_el xs (x1 + (1 : Int32))) &&& (255 : Int32)) < (128 : Int32)
                · refine g_icY C 223 d1_201 (tlt c40).1 (by decide) (by decide) ?_
                  refine g_iconst C 224 (0 : Int32) d1_223 rfl rfl ?_
                  refine g_istoreN C 225 #[.val (.ref a), .val (.int x1), .val (.int ((own_el xs x1) &&& (255 : Int32))), .val (.int (0 : Int32)), .val (.int (128 : Int32)), .val (.int (159 : Int32)), .val (.int (1 : Int32)), .val (.int ((own_el xs (x1 + (1 : Int32))) &&& (255 : Int32)))] d1_224 rfl rfl ?_
                  refine g_iinc C 228 (2 : Int32) #[.val (.ref a), .val (.int x1), .val (.int ((own_el xs x1) &&& (255 : Int32))), .val (.int (0 : Int32)), .val (.int (128 : Int32)), .val (.int (159 : Int32)), .val (.int (2 : Int32)), .val (.int ((own_el xs (x1 + (1 : Int32))) &&& (255 : Int32)))] d1_225 rfl rfl (by decide) rfl ?_
                  refine g_goto C 167 d1_228 (by decide) (by decide) ?_
                  refine g_iload C 169 d1_167 rfl rfl ?_
                  refine g_iloadN C 170 d1_169 rfl rfl ?_
                  refine g_icY C 231 d1_170 (flt ((by decide) : ¬ ((2 : Int32) < (0 : Int32)))).2.1 (by decide) (by decide) ?_
                  refine g_iloadN C 232 d1_231 rfl rfl ?_
                  exact g_iret C d1_232 (by decide) (by decide) ⟨by rw [f_u8, if_neg c1, if_neg c3, if_pos c5, if_neg c6, if_neg c32, if_pos c38, if_neg c39, if_pos c40], rfl⟩
                · refine g_icN C 204 d1_201 (flt c40).1 rfl ?_
                  refine g_iload C 206 d1_204 rfl rfl ?_
                  refine g_iload C 208 d1_206 rfl rfl ?_
                  refine g_iconst C 209 (1 : Int32) d1_208 rfl rfl ?_
                  refine g_icN C 212 d1_209 (teq ((by decide) : (1 : Int32) = (1 : Int32))).2 rfl ?_
                  refine g_iload C 214 d1_212 rfl rfl ?_
                  refine g_goto C 220 d1_214 (by decide) (by decide) ?_
                  by_cases c41 : (159 : Int32) < ((own_el xs (x1 + (1 : Int32))) &&& (255 : Int32))
                  · refine g_icN C 223 d1_220 (tlt c41).2.2.2 rfl ?_
                    refine g_iconst C 224 (0 : Int32) d1_223 rfl rfl ?_
                    refine g_istoreN C 225 #[.val (.ref a), .val (.int x1), .val (.int ((own_el xs x1) &&& (255 : Int32))), .val (.int (0 : Int32)), .val (.int (128 : Int32)), .val (.int (159 : Int32)), .val (.int (1 : Int32)), .val (.int ((own_el xs (x1 + (1 : Int32))) &&& (255 : Int32)))] d1_224 rfl rfl ?_
                    refine g_iinc C 228 (2 : Int32) #[.val (.ref a), .val (.int x1), .val (.int ((own_el xs x1) &&& (255 : Int32))), .val (.int (0 : Int32)), .val (.int (128 : Int32)), .val (.int (159 : Int32)), .val (.int (2 : Int32)), .val (.int ((own_el xs (x1 + (1 : Int32))) &&& (255 : Int32)))] d1_225 rfl rfl (by decide) rfl ?_
                    refine g_goto C 167 d1_228 (by decide) (by decide) ?_
                    refine g_iload C 169 d1_167 rfl rfl ?_
                    refine g_iloadN C 170 d1_169 rfl rfl ?_
                    refine g_icY C 231 d1_170 (flt ((by decide) : ¬ ((2 : Int32) < (0 : Int32)))).2.1 (by decide) (by decide) ?_
                    refine g_iloadN C 232 d1_231 rfl rfl ?_
                    exact g_iret C d1_232 (by decide) (by decide) ⟨by rw [f_u8, if_neg c1, if_neg c3, if_pos c5, if_neg c6, if_neg c32, if_pos c38, if_neg c39, if_neg c40, if_pos c41], rfl⟩
                  · refine g_icY C 225 d1_220 (flt c41).2.2.2 (by decide) (by decide) ?_
                    refine g_iinc C 228 (2 : Int32) #[.val (.ref a), .val (.int x1), .val (.int ((own_el xs x1) &&& (255 : Int32))), .val (.int (3 : Int32)), .val (.int (128 : Int32)), .val (.int (159 : Int32)), .val (.int (2 : Int32)), .val (.int ((own_el xs (x1 + (1 : Int32))) &&& (255 : Int32)))] d1_225 rfl rfl (by decide) rfl ?_
                    refine g_goto C 167 d1_228 (by decide) (by decide) ?_
                    refine g_iload C 169 d1_167 rfl rfl ?_
                    refine g_iloadN C 170 d1_169 rfl rfl ?_
                    refine g_icN C 173 d1_170 (tlt ((by decide) : (2 : Int32) < (3 : Int32))).2.1 rfl ?_
                    refine g_aloadN C 174 d1_173 rfl rfl rfl ?_
                    refine g_iloadN C 175 d1_174 rfl rfl ?_
                    refine g_iload C 177 d1_175 rfl rfl ?_
                    refine g_iadd C 178 d1_177 rfl ?_
                    refine g_baload C 179 hi d1_178 rfl (own_ix2 h1 h2 h3 (by decide) (by decide)) (own_el xs (x1 + (2 : Int32))) (own_ix3 h1 h2 h3 hn c39 (by decide) (by decide) (by decide)) ?_
                    refine g_sipush C 182 (255 : Int32) d1_179 rfl rfl ?_
                    refine g_iand C 183 d1_182 rfl ?_
                    refine g_istore C 185 #[.val (.ref a), .val (.int x1), .val (.int ((own_el xs x1) &&& (255 : Int32))), .val (.int (3 : Int32)), .val (.int (128 : Int32)), .val (.int (159 : Int32)), .val (.int (2 : Int32)), .val (.int ((own_el xs (x1 + (2 : Int32))) &&& (255 : Int32)))] d1_183 rfl rfl ?_
                    refine g_iload C 187 d1_185 rfl rfl ?_
                    refine g_iload C 189 d1_187 rfl rfl ?_
                    refine g_iconst C 190 (1 : Int32) d1_189 rfl rfl ?_
                    refine g_icY C 198 d1_190 (feq ((by decide) : ¬ ((2 : Int32) = (1 : Int32)))).2 (by decide) (by decide) ?_
                    refine g_sipush C 201 (128 : Int32) d1_198 rfl rfl ?_
                    by_cases c42 : ((own_el xs (x1 + (2 : Int32))) &&& (255 : Int32)) < (128 : Int32)
                    · refine g_icY C 223 d1_201 (tlt c42).1 (by decide) (by decide) ?_
                      refine g_iconst C 224 (0 : Int32) d1_223 rfl rfl ?_
                      refine g_istoreN C 225 #[.val (.ref a), .val (.int x1), .val (.int ((own_el xs x1) &&& (255 : Int32))), .val (.int (0 : Int32)), .val (.int (128 : Int32)), .val (.int (159 : Int32)), .val (.int (2 : Int32)), .val (.int ((own_el xs (x1 + (2 : Int32))) &&& (255 : Int32)))] d1_224 rfl rfl ?_
                      refine g_iinc C 228 (3 : Int32) #[.val (.ref a), .val (.int x1), .val (.int ((own_el xs x1) &&& (255 : Int32))), .val (.int (0 : Int32)), .val (.int (128 : Int32)), .val (.int (159 : Int32)), .val (.int (3 : Int32)), .val (.int ((own_el xs (x1 + (2 : Int32))) &&& (255 : Int32)))] d1_225 rfl rfl (by decide) rfl ?_
                      refine g_goto C 167 d1_228 (by decide) (by decide) ?_
                      refine g_iload C 169 d1_167 rfl rfl ?_
                      refine g_iloadN C 170 d1_169 rfl rfl ?_
                      refine g_icY C 231 d1_170 (flt ((by decide) : ¬ ((3 : Int32) < (0 : Int32)))).2.1 (by decide) (by decide) ?_
                      refine g_iloadN C 232 d1_231 rfl rfl ?_
                      exact g_iret C d1_232 (by decide) (by decide) ⟨by rw [f_u8, if_neg c1, if_neg c3, if_pos c5, if_neg c6, if_neg c32, if_pos c38, if_neg c39, if_neg c40, if_neg c41, if_pos c42], rfl⟩
                    · refine g_icN C 204 d1_201 (flt c42).1 rfl ?_
                      refine g_iload C 206 d1_204 rfl rfl ?_
                      refine g_iload C 208 d1_206 rfl rfl ?_
                      refine g_iconst C 209 (1 : Int32) d1_208 rfl rfl ?_
                      refine g_icY C 217 d1_209 (feq ((by decide) : ¬ ((2 : Int32) = (1 : Int32)))).2 (by decide) (by decide) ?_
                      refine g_sipush C 220 (191 : Int32) d1_217 rfl rfl ?_
                      by_cases c43 : (191 : Int32) < ((own_el xs (x1 + (2 : Int32))) &&& (255 : Int32))
                      · refine g_icN C 223 d1_220 (tlt c43).2.2.2 rfl ?_
                        refine g_iconst C 224 (0 : Int32) d1_223 rfl rfl ?_
                        refine g_istoreN C 225 #[.val (.ref a), .val (.int x1), .val (.int ((own_el xs x1) &&& (255 : Int32))), .val (.int (0 : Int32)), .val (.int (128 : Int32)), .val (.int (159 : Int32)), .val (.int (2 : Int32)), .val (.int ((own_el xs (x1 + (2 : Int32))) &&& (255 : Int32)))] d1_224 rfl rfl ?_
                        refine g_iinc C 228 (3 : Int32) #[.val (.ref a), .val (.int x1), .val (.int ((own_el xs x1) &&& (255 : Int32))), .val (.int (0 : Int32)), .val (.int (128 : Int32)), .val (.int (159 : Int32)), .val (.int (3 : Int32)), .val (.int ((own_el xs (x1 + (2 : Int32))) &&& (255 : Int32)))] d1_225 rfl rfl (by decide) rfl ?_
                        refine g_goto C 167 d1_228 (by decide) (by decide) ?_
                        refine g_iload C 169 d1_167 rfl rfl ?_
                        refine g_iloadN C 170 d1_169 rfl rfl ?_
                        refine g_icY C 231 d1_170 (flt ((by decide) : ¬ ((3 : Int32) < (0 : Int32)))).2.1 (by decide) (by decide) ?_
                        refine g_iloadN C 232 d1_231 rfl rfl ?_
                        exact g_iret C d1_232 (by decide) (by decide) ⟨by rw [f_u8, if_neg c1, if_neg c3, if_pos c5, if_neg c6, if_neg c32, if_pos c38, if_neg c39, if_neg c40, if_neg c41, if_neg c42, if_pos c43], rfl⟩
                      · refine g_icY C 225 d1_220 (flt c43).2.2.2 (by decide) (by decide) ?_
                        refine g_iinc C 228 (3 : Int32) #[.val (.ref a), .val (.int x1), .val (.int ((own_el xs x1) &&& (255 : Int32))), .val (.int (3 : Int32)), .val (.int (128 : Int32)), .val (.int (159 : Int32)), .val (.int (3 : Int32)), .val (.int ((own_el xs (x1 + (2 : Int32))) &&& (255 : Int32)))] d1_225 rfl rfl (by decide) rfl ?_
                        refine g_goto C 167 d1_228 (by decide) (by decide) ?_
                        refine g_iload C 169 d1_167 rfl rfl ?_
                        refine g_iloadN C 170 d1_169 rfl rfl ?_
                        refine g_icY C 231 d1_170 (flt ((by decide) : ¬ ((3 : Int32) < (3 : Int32)))).2.1 (by decide) (by decide) ?_
                        refine g_iloadN C 232 d1_231 rfl rfl ?_
                        exact g_iret C d1_232 (by decide) (by decide) ⟨by rw [f_u8, if_neg c1, if_neg c3, if_pos c5, if_neg c6, if_neg c32, if_pos c38, if_neg c39, if_neg c40, if_neg c41, if_neg c42, if_neg c43], rfl⟩
            · refine g_icY C 97 d1_88 (feq c38).2 (by decide) (by decide) ?_
              refine g_iload C 99 d1_97 rfl rfl ?_
              refine g_istore C 101 #[.val (.ref a), .val (.int x1), .val (.int ((own_el xs x1) &&& (255 : Int32))), .val (.int (3 : Int32)), .val (.int (128 : Int32)), .val (.int (191 : Int32)), .unset, .unset] d1_99 rfl rfl ?_
              refine g_goto C 154 d1_101 (by decide) (by decide) ?_
              refine g_iloadN C 155 d1_154 rfl rfl ?_
              refine g_iloadN C 156 d1_155 rfl rfl ?_
              refine g_iadd C 157 d1_156 rfl ?_
              refine g_aloadN C 158 d1_157 rfl rfl rfl ?_
              refine g_length C 159 n hi d1_158 rfl hn ?_
              by_cases c44 : n < (x1 + (3 : Int32))
              · refine g_icN C 162 d1_159 (tlt c44).2.2.2 rfl ?_
                refine g_iconst C 163 (0 : Int32) d1_162 rfl rfl ?_
                refine g_istoreN C 164 #[.val (.ref a), .val (.int x1), .val (.int ((own_el xs x1) &&& (255 : Int32))), .val (.int (0 : Int32)), .val (.int (128 : Int32)), .val (.int (191 : Int32)), .unset, .unset] d1_163 rfl rfl ?_
                refine g_iconst C 165 (1 : Int32) d1_164 rfl rfl ?_
                refine g_istore C 167 #[.val (.ref a), .val (.int x1), .val (.int ((own_el xs x1) &&& (255 : Int32))), .val (.int (0 : Int32)), .val (.int (128 : Int32)), .val (.int (191 : Int32)), .val (.int (1 : Int32)), .unset] d1_165 rfl rfl ?_
                refine g_iload C 169 d1_167 rfl rfl ?_
                refine g_iloadN C 170 d1_169 rfl rfl ?_
                refine g_icY C 231 d1_170 (flt ((by decide) : ¬ ((1 : Int32) < (0 : Int32)))).2.1 (by decide) (by decide) ?_
                refine g_iloadN C 232 d1_231 rfl rfl ?_
                exact g_iret C d1_232 (by decide) (by decide) ⟨by rw [f_u8, if_neg c1, if_neg c3, if_pos c5, if_neg c6, if_neg c32, if_neg c38, if_pos c44], rfl⟩
              · refine g_icY C 164 d1_159 (flt c44).2.2.2 (by decide) (by decide) ?_
                refine g_iconst C 165 (1 : Int32) d1_164 rfl rfl ?_
                refine g_istore C 167 #[.val (.ref a), .val (.int x1), .val (.int ((own_el xs x1) &&& (255 : Int32))), .val (.int (3 : Int32)), .val (.int (128 : Int32)), .val (.int (191 : Int32)), .val (.int (1 : Int32)), .unset] d1_165 rfl rfl ?_
                refine g_iload C 169 d1_167 rfl rfl ?_
                refine g_iloadN C 170 d1_169 rfl rfl ?_
                refine g_icN C 173 d1_170 (tlt ((by decide) : (1 : Int32) < (3 : Int32))).2.1 rfl ?_
                refine g_aloadN C 174 d1_173 rfl rfl rfl ?_
                refine g_iloadN C 175 d1_174 rfl rfl ?_
                refine g_iload C 177 d1_175 rfl rfl ?_
                refine g_iadd C 178 d1_177 rfl ?_
                refine g_baload C 179 hi d1_178 rfl (own_ix2 h1 h2 h3 (by decide) (by decide)) (own_el xs (x1 + (1 : Int32))) (own_ix3 h1 h2 h3 hn c44 (by decide) (by decide) (by decide)) ?_
                refine g_sipush C 182 (255 : Int32) d1_179 rfl rfl ?_
                refine g_iand C 183 d1_182 rfl ?_
                refine g_istore C 185 #[.val (.ref a), .val (.int x1), .val (.int ((own_el xs x1) &&& (255 : Int32))), .val (.int (3 : Int32)), .val (.int (128 : Int32)), .val (.int (191 : Int32)), .val (.int (1 : Int32)), .val (.int ((own_el xs (x1 + (1 : Int32))) &&& (255 : Int32)))] d1_183 rfl rfl ?_
                refine g_iload C 187 d1_185 rfl rfl ?_
                refine g_iload C 189 d1_187 rfl rfl ?_
                refine g_iconst C 190 (1 : Int32) d1_189 rfl rfl ?_
                refine g_icN C 193 d1_190 (teq ((by decide) : (1 : Int32) = (1 : Int32))).2 rfl ?_
                refine g_iload C 195 d1_193 rfl rfl ?_
                refine g_goto C 201 d1_195 (by decide) (by decide) ?_
                by_cases c45 : ((own_el xs (x1 + (1 : Int32))) &&& (255 : Int32)) < (128 : Int32)
                · refine g_icY C 223 d1_201 (tlt c45).1 (by decide) (by decide) ?_
                  refine g_iconst C 224 (0 : Int32) d1_223 rfl rfl ?_
                  refine g_istoreN C 225 #[.val (.ref a), .val (.int x1), .val (.int ((own_el xs x1) &&& (255 : Int32))), .val (.int (0 : Int32)), .val (.int (128 : Int32)), .val (.int (191 : Int32)), .val (.int (1 : Int32)), .val (.int ((own_el xs (x1 + (1 : Int32))) &&& (255 : Int32)))] d1_224 rfl rfl ?_
                  refine g_iinc C 228 (2 : Int32) #[.val (.ref a), .val (.int x1), .val (.int ((own_el xs x1) &&& (255 : Int32))), .val (.int (0 : Int32)), .val (.int (128 : Int32)), .val (.int (191 : Int32)), .val (.int (2 : Int32)), .val (.int ((own_el xs (x1 + (1 : Int32))) &&& (255 : Int32)))] d1_225 rfl rfl (by decide) rfl ?_
                  refine g_goto C 167 d1_228 (by decide) (by decide) ?_
                  refine g_iload C 169 d1_167 rfl rfl ?_
                  refine g_iloadN C 170 d1_169 rfl rfl ?_
                  refine g_icY C 231 d1_170 (flt ((by decide) : ¬ ((2 : Int32) < (0 : Int32)))).2.1 (by decide) (by decide) ?_
                  refine g_iloadN C 232 d1_231 rfl rfl ?_
                  exact g_iret C d1_232 (by decide) (by decide) ⟨by rw [f_u8, if_neg c1, if_neg c3, if_pos c5, if_neg c6, if_neg c32, if_neg c38, if_neg c44, if_pos c45], rfl⟩
                · refine g_icN C 204 d1_201 (flt c45).1 rfl ?_
                  refine g_iload C 206 d1_204 rfl rfl ?_
                  refine g_iload C 208 d1_206 rfl rfl ?_
                  refine g_iconst C 209 (1 : Int32) d1_208 rfl rfl ?_
                  refine g_icN C 212 d1_209 (teq ((by decide) : (1 : Int32) = (1 : Int32))).2 rfl ?_
                  refine g_iload C 214 d1_212 rfl rfl ?_
                  refine g_goto C 220 d1_214 (by decide) (by decide) ?_
                  by_cases c46 : (191 : Int32) < ((own_el xs (x1 + (1 : Int32))) &&& (255 : Int32))
                  · refine g_icN C 223 d1_220 (tlt c46).2.2.2 rfl ?_
                    refine g_iconst C 224 (0 : Int32) d1_223 rfl rfl ?_
                    refine g_istoreN C 225 #[.val (.ref a), .val (.int x1), .val (.int ((own_el xs x1) &&& (255 : Int32))), .val (.int (0 : Int32)), .val (.int (128 : Int32)), .val (.int (191 : Int32)), .val (.int (1 : Int32)), .val (.int ((own_el xs (x1 + (1 : Int32))) &&& (255 : Int32)))] d1_224 rfl rfl ?_
                    refine g_iinc C 228 (2 : Int32) #[.val (.ref a), .val (.int x1), .val (.int ((own_el xs x1) &&& (255 : Int32))), .val (.int (0 : Int32)), .val (.int (128 : Int32)), .val (.int (191 : Int32)), .val (.int (2 : Int32)), .val (.int ((own_el xs (x1 + (1 : Int32))) &&& (255 : Int32)))] d1_225 rfl rfl (by decide) rfl ?_
                    refine g_goto C 167 d1_228 (by decide) (by decide) ?_
                    refine g_iload C 169 d1_167 rfl rfl ?_
                    refine g_iloadN C 170 d1_169 rfl rfl ?_
                    refine g_icY C 231 d1_170 (flt ((by decide) : ¬ ((2 : Int32) < (0 : Int32)))).2.1 (by decide) (by decide) ?_
                    refine g_iloadN C 232 d1_231 rfl rfl ?_
                    exact g_iret C d1_232 (by decide) (by decide) ⟨by rw [f_u8, if_neg c1, if_neg c3, if_pos c5, if_neg c6, if_neg c32, if_neg c38, if_neg c44, if_neg c45, if_pos c46], rfl⟩
                  · refine g_icY C 225 d1_220 (flt c46).2.2.2 (by decide) (by decide) ?_
                    refine g_iinc C 228 (2 : Int32) #[.val (.ref a), .val (.int x1), .val (.int ((own_el xs x1) &&& (255 : Int32))), .val (.int (3 : Int32)), .val (.int (128 : Int32)), .val (.int (191 : Int32)), .val (.int (2 : Int32)), .val (.int ((own_el xs (x1 + (1 : Int32))) &&& (255 : Int32)))] d1_225 rfl rfl (by decide) rfl ?_
                    refine g_goto C 167 d1_228 (by decide) (by decide) ?_
                    refine g_iload C 169 d1_167 rfl rfl ?_
                    refine g_iloadN C 170 d1_169 rfl rfl ?_
                    refine g_icN C 173 d1_170 (tlt ((by decide) : (2 : Int32) < (3 : Int32))).2.1 rfl ?_
                    refine g_aloadN C 174 d1_173 rfl rfl rfl ?_
                    refine g_iloadN C 175 d1_174 rfl rfl ?_
                    refine g_iload C 177 d1_175 rfl rfl ?_
                    refine g_iadd C 178 d1_177 rfl ?_
                    refine g_baload C 179 hi d1_178 rfl (own_ix2 h1 h2 h3 (by decide) (by decide)) (own_el xs (x1 + (2 : Int32))) (own_ix3 h1 h2 h3 hn c44 (by decide) (by decide) (by decide)) ?_
                    refine g_sipush C 182 (255 : Int32) d1_179 rfl rfl ?_
                    refine g_iand C 183 d1_182 rfl ?_
                    refine g_istore C 185 #[.val (.ref a), .val (.int x1), .val (.int ((own_el xs x1) &&& (255 : Int32))), .val (.int (3 : Int32)), .val (.int (128 : Int32)), .val (.int (191 : Int32)), .val (.int (2 : Int32)), .val (.int ((own_el xs (x1 + (2 : Int32))) &&& (255 : Int32)))] d1_183 rfl rfl ?_
                    refine g_iload C 187 d1_185 rfl rfl ?_
                    refine g_iload C 189 d1_187 rfl rfl ?_
                    refine g_iconst C 190 (1 : Int32) d1_189 rfl rfl ?_
                    refine g_icY C 198 d1_190 (feq ((by decide) : ¬ ((2 : Int32) = (1 : Int32)))).2 (by decide) (by decide) ?_
                    refine g_sipush C 201 (128 : Int32) d1_198 rfl rfl ?_
                    by_cases c47 : ((own_el xs (x1 + (2 : Int32))) &&& (255 : Int32)) < (128 : Int32)
                    · refine g_icY C 223 d1_201 (tlt c47).1 (by decide) (by decide) ?_
                      refine g_iconst C 224 (0 : Int32) d1_223 rfl rfl ?_
                      refine g_istoreN C 225 #[.val (.ref a), .val (.int x1), .val (.int ((own_el xs x1) &&& (255 : Int32))), .val (.int (0 : Int32)), .val (.int (128 : Int32)), .val (.int (191 : Int32)), .val (.int (2 : Int32)), .val (.int ((own_el xs (x1 + (2 : Int32))) &&& (255 : Int32)))] d1_224 rfl rfl ?_
                      refine g_iinc C 228 (3 : Int32) #[.val (.ref a), .val (.int x1), .val (.int ((own_el xs x1) &&& (255 : Int32))), .val (.int (0 : Int32)), .val (.int (128 : Int32)), .val (.int (191 : Int32)), .val (.int (3 : Int32)), .val (.int ((own_el xs (x1 + (2 : Int32))) &&& (255 : Int32)))] d1_225 rfl rfl (by decide) rfl ?_
                      refine g_goto C 167 d1_228 (by decide) (by decide) ?_
                      refine g_iload C 169 d1_167 rfl rfl ?_
                      refine g_iloadN C 170 d1_169 rfl rfl ?_
                      refine g_icY C 231 d1_170 (flt ((by decide) : ¬ ((3 : Int32) < (0 : Int32)))).2.1 (by decide) (by decide) ?_
                      refine g_iloadN C 232 d1_231 rfl rfl ?_
                      exact g_iret C d1_232 (by decide) (by decide) ⟨by rw [f_u8, if_neg c1, if_neg c3, if_pos c5, if_neg c6, if_neg c32, if_neg c38, if_neg c44, if_neg c45, if_neg c46, if_pos c47], rfl⟩
                    · refine g_icN C 204 d1_201 (flt c47).1 rfl ?_
                      refine g_iload C 206 d1_204 rfl rfl ?_
                      refine g_iload C 208 d1_206 rfl rfl ?_
                      refine g_iconst C 209 (1 : Int32) d1_208 rfl rfl ?_
                      refine g_icY C 217 d1_209 (feq ((by decide) : ¬ ((2 : Int32) = (1 : Int32)))).2 (by decide) (by decide) ?_
                      refine g_sipush C 220 (191 : Int32) d1_217 rfl rfl ?_
                      by_cases c48 : (191 : Int32) < ((own_el xs (x1 + (2 : Int32))) &&& (255 : Int32))
                      · refine g_icN C 223 d1_220 (tlt c48).2.2.2 rfl ?_
                        refine g_iconst C 224 (0 : Int32) d1_223 rfl rfl ?_
                        refine g_istoreN C 225 #[.val (.ref a), .val (.int x1), .val (.int ((own_el xs x1) &&& (255 : Int32))), .val (.int (0 : Int32)), .val (.int (128 : Int32)), .val (.int (191 : Int32)), .val (.int (2 : Int32)), .val (.int ((own_el xs (x1 + (2 : Int32))) &&& (255 : Int32)))] d1_224 rfl rfl ?_
                        refine g_iinc C 228 (3 : Int32) #[.val (.ref a), .val (.int x1), .val (.int ((own_el xs x1) &&& (255 : Int32))), .val (.int (0 : Int32)), .val (.int (128 : Int32)), .val (.int (191 : Int32)), .val (.int (3 : Int32)), .val (.int ((own_el xs (x1 + (2 : Int32))) &&& (255 : Int32)))] d1_225 rfl rfl (by decide) rfl ?_
                        refine g_goto C 167 d1_228 (by decide) (by decide) ?_
                        refine g_iload C 169 d1_167 rfl rfl ?_
                        refine g_iloadN C 170 d1_169 rfl rfl ?_
                        refine g_icY C 231 d1_170 (flt ((by decide) : ¬ ((3 : Int32) < (0 : Int32)))).2.1 (by decide) (by decide) ?_
                        refine g_iloadN C 232 d1_231 rfl rfl ?_
                        exact g_iret C d1_232 (by decide) (by decide) ⟨by rw [f_u8, if_neg c1, if_neg c3, if_pos c5, if_neg c6, if_neg c32, if_neg c38, if_neg c44, if_neg c45, if_neg c46, if_neg c47, if_pos c48], rfl⟩
                      · refine g_icY C 225 d1_220 (flt c48).2.2.2 (by decide) (by decide) ?_
                        refine g_iinc C 228 (3 : Int32) #[.val (.ref a), .val (.int x1), .val (.int ((own_el xs x1) &&& (255 : Int32))), .val (.int (3 : Int32)), .val (.int (128 : Int32)), .val (.int (191 : Int32)), .val (.int (3 : Int32)), .val (.int ((own_el xs (x1 + (2 : Int32))) &&& (255 : Int32)))] d1_225 rfl rfl (by decide) rfl ?_
                        refine g_goto C 167 d1_228 (by decide) (by decide) ?_
                        refine g_iload C 169 d1_167 rfl rfl ?_
                        refine g_iloadN C 170 d1_169 rfl rfl ?_
                        refine g_icY C 231 d1_170 (flt ((by decide) : ¬ ((3 : Int32) < (3 : Int32)))).2.1 (by decide) (by decide) ?_
                        refine g_iloadN C 232 d1_231 rfl rfl ?_
                        exact g_iret C d1_232 (by decide) (by decide) ⟨by rw [f_u8, if_neg c1, if_neg c3, if_pos c5, if_neg c6, if_neg c32, if_neg c38, if_neg c44, if_neg c45, if_neg c46, if_neg c47, if_neg c48], rfl⟩
      · refine g_icN C 46 d1_43 (flt c5).2.2.1 rfl ?_
        refine g_iconst C 47 (2 : Int32) d1_46 rfl rfl ?_
        refine g_istoreN C 48 #[.val (.ref a), .val (.int x1), .val (.int ((own_el xs x1) &&& (255 : Int32))), .val (.int (2 : Int32)), .val (.int (128 : Int32)), .val (.int (191 : Int32)), .unset, .unset] d1_47 rfl rfl ?_
        refine g_goto C 154 d1_48 (by decide) (by decide) ?_
        refine g_iloadN C 155 d1_154 rfl rfl ?_
        refine g_iloadN C 156 d1_155 rfl rfl ?_
        refine g_iadd C 157 d1_156 rfl ?_
        refine g_aloadN C 158 d1_157 rfl rfl rfl ?_
        refine g_length C 159 n hi d1_158 rfl hn ?_
        by_cases c49 : n < (x1 + (2 : Int32))
        · refine g_icN C 162 d1_159 (tlt c49).2.2.2 rfl ?_
          refine g_iconst C 163 (0 : Int32) d1_162 rfl rfl ?_
          refine g_istoreN C 164 #[.val (.ref a), .val (.int x1), .val (.int ((own_el xs x1) &&& (255 : Int32))), .val (.int (0 : Int32)), .val (.int (128 : Int32)), .val (.int (191 : Int32)), .unset, .unset] d1_163 rfl rfl ?_
          refine g_iconst C 165 (1 : Int32) d1_164 rfl rfl ?_
          refine g_istore C 167 #[.val (.ref a), .val (.int x1), .val (.int ((own_el xs x1) &&& (255 : Int32))), .val (.int (0 : Int32)), .val (.int (128 : Int32)), .val (.int (191 : Int32)), .val (.int (1 : Int32)), .unset] d1_165 rfl rfl ?_
          refine g_iload C 169 d1_167 rfl rfl ?_
          refine g_iloadN C 170 d1_169 rfl rfl ?_
          refine g_icY C 231 d1_170 (flt ((by decide) : ¬ ((1 : Int32) < (0 : Int32)))).2.1 (by decide) (by decide) ?_
          refine g_iloadN C 232 d1_231 rfl rfl ?_
          exact g_iret C d1_232 (by decide) (by decide) ⟨by rw [f_u8, if_neg c1, if_neg c3, if_neg c5, if_pos c49], rfl⟩
        · refine g_icY C 164 d1_159 (flt c49).2.2.2 (by decide) (by decide) ?_
          refine g_iconst C 165 (1 : Int32) d1_164 rfl rfl ?_
          refine g_istore C 167 #[.val (.ref a), .val (.int x1), .val (.int ((own_el xs x1) &&& (255 : Int32))), .val (.int (2 : Int32)), .val (.int (128 : Int32)), .val (.int (191 : Int32)), .val (.int (1 : Int32)), .unset] d1_165 rfl rfl ?_
          refine g_iload C 169 d1_167 rfl rfl ?_
          refine g_iloadN C 170 d1_169 rfl rfl ?_
          refine g_icN C 173 d1_170 (tlt ((by decide) : (1 : Int32) < (2 : Int32))).2.1 rfl ?_
          refine g_aloadN C 174 d1_173 rfl rfl rfl ?_
          refine g_iloadN C 175 d1_174 rfl rfl ?_
          refine g_iload C 177 d1_175 rfl rfl ?_
          refine g_iadd C 178 d1_177 rfl ?_
          refine g_baload C 179 hi d1_178 rfl (own_ix2 h1 h2 h3 (by decide) (by decide)) (own_el xs (x1 + (1 : Int32))) (own_ix3 h1 h2 h3 hn c49 (by decide) (by decide) (by decide)) ?_
          refine g_sipush C 182 (255 : Int32) d1_179 rfl rfl ?_
          refine g_iand C 183 d1_182 rfl ?_
          refine g_istore C 185 #[.val (.ref a), .val (.int x1), .val (.int ((own_el xs x1) &&& (255 : Int32))), .val (.int (2 : Int32)), .val (.int (128 : Int32)), .val (.int (191 : Int32)), .val (.int (1 : Int32)), .val (.int ((own_el xs (x1 + (1 : Int32))) &&& (255 : Int32)))] d1_183 rfl rfl ?_
          refine g_iload C 187 d1_185 rfl rfl ?_
          refine g_iload C 189 d1_187 rfl rfl ?_
          refine g_iconst C 190 (1 : Int32) d1_189 rfl rfl ?_
          refine g_icN C 193 d1_190 (teq ((by decide) : (1 : Int32) = (1 : Int32))).2 rfl ?_
          refine g_iload C 195 d1_193 rfl rfl ?_
          refine g_goto C 201 d1_195 (by decide) (by decide) ?_
          by_cases c50 : ((own_el xs (x1 + (1 : Int32))) &&& (255 : Int32)) < (128 : Int32)
          · refine g_icY C 223 d1_201 (tlt c50).1 (by decide) (by decide) ?_
            refine g_iconst C 224 (0 : Int32) d1_223 rfl rfl ?_
            refine g_istoreN C 225 #[.val (.ref a), .val (.int x1), .val (.int ((own_el xs x1) &&& (255 : Int32))), .val (.int (0 : Int32)), .val (.int (128 : Int32)), .val (.int (191 : Int32)), .val (.int (1 : Int32)), .val (.int ((own_el xs (x1 + (1 : Int32))) &&& (255 : Int32)))] d1_224 rfl rfl ?_
            refine g_iinc C 228 (2 : Int32) #[.val (.ref a), .val (.int x1), .val (.int ((own_el xs x1) &&& (255 : Int32))), .val (.int (0 : Int32)), .val (.int (128 : Int32)), .val (.int (191 : Int32)), .val (.int (2 : Int32)), .val (.int ((own_el xs (x1 + (1 : Int32))) &&& (255 : Int32)))] d1_225 rfl rfl (by decide) rfl ?_
            refine g_goto C 167 d1_228 (by decide) (by decide) ?_
            refine g_iload C 169 d1_167 rfl rfl ?_
            refine g_iloadN C 170 d1_169 rfl rfl ?_
            refine g_icY C 231 d1_170 (flt ((by decide) : ¬ ((2 : Int32) < (0 : Int32)))).2.1 (by decide) (by decide) ?_
            refine g_iloadN C 232 d1_231 rfl rfl ?_
            exact g_iret C d1_232 (by decide) (by decide) ⟨by rw [f_u8, if_neg c1, if_neg c3, if_neg c5, if_neg c49, if_pos c50], rfl⟩
          · refine g_icN C 204 d1_201 (flt c50).1 rfl ?_
            refine g_iload C 206 d1_204 rfl rfl ?_
            refine g_iload C 208 d1_206 rfl rfl ?_
            refine g_iconst C 209 (1 : Int32) d1_208 rfl rfl ?_
            refine g_icN C 212 d1_209 (teq ((by decide) : (1 : Int32) = (1 : Int32))).2 rfl ?_
            refine g_iload C 214 d1_212 rfl rfl ?_
            refine g_goto C 220 d1_214 (by decide) (by decide) ?_
            by_cases c51 : (191 : Int32) < ((own_el xs (x1 + (1 : Int32))) &&& (255 : Int32))
            · refine g_icN C 223 d1_220 (tlt c51).2.2.2 rfl ?_
              refine g_iconst C 224 (0 : Int32) d1_223 rfl rfl ?_
              refine g_istoreN C 225 #[.val (.ref a), .val (.int x1), .val (.int ((own_el xs x1) &&& (255 : Int32))), .val (.int (0 : Int32)), .val (.int (128 : Int32)), .val (.int (191 : Int32)), .val (.int (1 : Int32)), .val (.int ((own_el xs (x1 + (1 : Int32))) &&& (255 : Int32)))] d1_224 rfl rfl ?_
              refine g_iinc C 228 (2 : Int32) #[.val (.ref a), .val (.int x1), .val (.int ((own_el xs x1) &&& (255 : Int32))), .val (.int (0 : Int32)), .val (.int (128 : Int32)), .val (.int (191 : Int32)), .val (.int (2 : Int32)), .val (.int ((own_el xs (x1 + (1 : Int32))) &&& (255 : Int32)))] d1_225 rfl rfl (by decide) rfl ?_
              refine g_goto C 167 d1_228 (by decide) (by decide) ?_
              refine g_iload C 169 d1_167 rfl rfl ?_
              refine g_iloadN C 170 d1_169 rfl rfl ?_
              refine g_icY C 231 d1_170 (flt ((by decide) : ¬ ((2 : Int32) < (0 : Int32)))).2.1 (by decide) (by decide) ?_
              refine g_iloadN C 232 d1_231 rfl rfl ?_
              exact g_iret C d1_232 (by decide) (by decide) ⟨by rw [f_u8, if_neg c1, if_neg c3, if_neg c5, if_neg c49, if_neg c50, if_pos c51], rfl⟩
            · refine g_icY C 225 d1_220 (flt c51).2.2.2 (by decide) (by decide) ?_
              refine g_iinc C 228 (2 : Int32) #[.val (.ref a), .val (.int x1), .val (.int ((own_el xs x1) &&& (255 : Int32))), .val (.int (2 : Int32)), .val (.int (128 : Int32)), .val (.int (191 : Int32)), .val (.int (2 : Int32)), .val (.int ((own_el xs (x1 + (1 : Int32))) &&& (255 : Int32)))] d1_225 rfl rfl (by decide) rfl ?_
              refine g_goto C 167 d1_228 (by decide) (by decide) ?_
              refine g_iload C 169 d1_167 rfl rfl ?_
              refine g_iloadN C 170 d1_169 rfl rfl ?_
              refine g_icY C 231 d1_170 (flt ((by decide) : ¬ ((2 : Int32) < (2 : Int32)))).2.1 (by decide) (by decide) ?_
              refine g_iloadN C 232 d1_231 rfl rfl ?_
              exact g_iret C d1_232 (by decide) (by decide) ⟨by rw [f_u8, if_neg c1, if_neg c3, if_neg c5, if_neg c49, if_neg c50, if_neg c51], rfl⟩
theorem d3_0 : decode method_3_code 0 = .ok (.iload_n 1, 1) := by decide +kernel
theorem d3_1 : decode method_3_code 1 = .ok (.aload_n 0, 1) := by decide +kernel
theorem d3_2 : decode method_3_code 2 = .ok (.arraylength, 1) := by decide +kernel
theorem d3_3 : decode method_3_code 3 = .ok (.if_icmp .ge 13, 3) := by decide +kernel
theorem d3_6 : decode method_3_code 6 = .ok (.aload_n 0, 1) := by decide +kernel
theorem d3_7 : decode method_3_code 7 = .ok (.iload_n 1, 1) := by decide +kernel
theorem d3_8 : decode method_3_code 8 = .ok (.baload, 1) := by decide +kernel
theorem d3_9 : decode method_3_code 9 = .ok (.sipush 255, 3) := by decide +kernel
theorem d3_12 : decode method_3_code 12 = .ok (.iand, 1) := by decide +kernel
theorem d3_13 : decode method_3_code 13 = .ok (.goto 4, 3) := by decide +kernel
theorem d3_16 : decode method_3_code 16 = .ok (.iconst (-1), 1) := by decide +kernel
theorem d3_17 : decode method_3_code 17 = .ok (.ireturn, 1) := by decide +kernel
def f_byte (b0 n x1 : Int32) : Int32 := (if x1 < n then (b0 &&& (255 : Int32)) else (-1 : Int32))
set_option maxRecDepth 65536 in
set_option maxHeartbeats 40000000 in
theorem con_f_byte (l : Launch) (Z : State) (a0 : Array Value) (hw : ∀ d ∈ tables_1, d.before a0 Z = true) (h0 : Heap) (ds : Wd) (q : Nat) (a : Addr) (xs : List Int32) (n x1 : Int32) (hi : ds[q]? = some (a, IA Z .byte (ints xs))) (h1 : 0 ≤ x1.toInt) (h3 : xs.length ≤ 8) (hn : (ints xs).length.toInt32 = n) :
    Con l Z (⟨"com/example/vestwork/vestwork/actuarial/XmlBytesUtf8LengthPinLaw", "byteAt", "([BI)I"⟩ : MethodName) method_3_code 2 (some .int) ({ frames := 0, cells := 0, slots := 0, locals := 0 } : Room) h0 #[(.ref a), (.int x1)] ds (fun v ds' => v = some (.int (f_byte (own_el xs x1) n x1)) ∧ ds = ds') := by
  refine con_of (a0 := a0) (Ls := #[.val (.ref a), .val (.int x1)]) (plainFor_of_name (by first | (simp [plainName, overriddenIn]; done) | decide +kernel)) hw (fun m => by first | (simp [entryFrame, mkF, argsToLocals, Value.category]; done) | rfl) ?_
  intro p e s m below meth c C
  refine g_iloadN C 1 d3_0 rfl rfl ?_
  refine g_aloadN C 2 d3_1 rfl rfl rfl ?_
  refine g_length C 3 n hi d3_2 rfl hn ?_
  by_cases c1 : x1 < n
  · refine g_icN C 6 d3_3 (tlt c1).2.1 rfl ?_
    refine g_aloadN C 7 d3_6 rfl rfl rfl ?_
    refine g_iloadN C 8 d3_7 rfl rfl ?_
    refine g_baload C 9 hi d3_8 rfl (own_ix0 h1) (own_el xs x1) (own_ix4 h1 h3 hn c1) ?_
    refine g_sipush C 12 (255 : Int32) d3_9 rfl rfl ?_
    refine g_iand C 13 d3_12 rfl ?_
    refine g_goto C 17 d3_13 (by decide) (by decide) ?_
    exact g_iret C d3_17 (by decide) (by decide) ⟨by rw [f_byte, if_pos c1], rfl⟩
  · refine g_icY C 16 d3_3 (flt c1).2.1 (by decide) (by decide) ?_
    refine g_iconst C 17 (-1 : Int32) d3_16 rfl rfl ?_
    exact g_iret C d3_17 (by decide) (by decide) ⟨by rw [f_byte, if_neg c1], rfl⟩
theorem d4_0 : decode method_4_code 0 = .ok (.iload_n 0, 1) := by decide +kernel
theorem d4_1 : decode method_4_code 1 = .ok (.ifCond .lt 18, 3) := by decide +kernel
theorem d4_4 : decode method_4_code 4 = .ok (.iload_n 0, 1) := by decide +kernel
theorem d4_5 : decode method_4_code 5 = .ok (.sipush 192, 3) := by decide +kernel
theorem d4_8 : decode method_4_code 8 = .ok (.iand, 1) := by decide +kernel
theorem d4_9 : decode method_4_code 9 = .ok (.sipush 128, 3) := by decide +kernel
theorem d4_12 : decode method_4_code 12 = .ok (.if_icmp .ne 7, 3) := by decide +kernel
theorem d4_15 : decode method_4_code 15 = .ok (.iconst 1, 1) := by decide +kernel
theorem d4_16 : decode method_4_code 16 = .ok (.goto 4, 3) := by decide +kernel
theorem d4_19 : decode method_4_code 19 = .ok (.iconst 0, 1) := by decide +kernel
theorem d4_20 : decode method_4_code 20 = .ok (.ireturn, 1) := by decide +kernel
def f_cont (x0 : Int32) : Int32 := (if x0 < (0 : Int32) then (0 : Int32) else (if (x0 &&& (192 : Int32)) = (128 : Int32) then (1 : Int32) else (0 : Int32)))
set_option maxRecDepth 65536 in
set_option maxHeartbeats 40000000 in
theorem con_f_cont (l : Launch) (Z : State) (a0 : Array Value) (hw : ∀ d ∈ tables_1, d.before a0 Z = true) (h0 : Heap) (ds : Wd) (x0 : Int32)  :
    Con l Z (⟨"com/example/vestwork/vestwork/actuarial/XmlBytesUtf8LengthPinLaw", "cont", "(I)Z"⟩ : MethodName) method_4_code 1 (some .boolean) ({ frames := 0, cells := 0, slots := 0, locals := 0 } : Room) h0 #[(.int x0)] ds (fun v ds' => v = some (.int (f_cont x0)) ∧ ds = ds') := by
  refine con_of (a0 := a0) (Ls := #[.val (.int x0)]) (plainFor_of_name (by first | (simp [plainName, overriddenIn]; done) | decide +kernel)) hw (fun m => by first | (simp [entryFrame, mkF, argsToLocals, Value.category]; done) | rfl) ?_
  intro p e s m below meth c C
  refine g_iloadN C 1 d4_0 rfl rfl ?_
  by_cases c1 : x0 < (0 : Int32)
  · refine g_ifY C 19 d4_1 (tlt c1).1 (by decide) (by decide) ?_
    refine g_iconst C 20 (0 : Int32) d4_19 rfl rfl ?_
    exact g_nret C (by simp) (z' := (0 : Int32)) (by decide) d4_20 (by decide) (by decide) ⟨by rw [f_cont, if_pos c1], rfl⟩
  · refine g_ifN C 4 d4_1 (flt c1).1 rfl ?_
    refine g_iloadN C 5 d4_4 rfl rfl ?_
    refine g_sipush C 8 (192 : Int32) d4_5 rfl rfl ?_
    refine g_iand C 9 d4_8 rfl ?_
    refine g_sipush C 12 (128 : Int32) d4_9 rfl rfl ?_
    by_cases c2 : (x0 &&& (192 : Int32)) = (128 : Int32)
    · refine g_icN C 15 d4_12 (teq c2).2 rfl ?_
      refine g_iconst C 16 (1 : Int32) d4_15 rfl rfl ?_
      refine g_goto C 20 d4_16 (by decide) (by decide) ?_
      exact g_nret C (by simp) (z' := (1 : Int32)) (by decide) d4_20 (by decide) (by decide) ⟨by rw [f_cont, if_neg c1, if_pos c2], rfl⟩
    · refine g_icY C 19 d4_12 (feq c2).2 (by decide) (by decide) ?_
      refine g_iconst C 20 (0 : Int32) d4_19 rfl rfl ?_
      exact g_nret C (by simp) (z' := (0 : Int32)) (by decide) d4_20 (by decide) (by decide) ⟨by rw [f_cont, if_neg c1, if_neg c2], rfl⟩
theorem d2_0 : decode method_5_code 0 = .ok (.aload_n 0, 1) := by decide +kernel
theorem d2_1 : decode method_5_code 1 = .ok (.iload_n 1, 1) := by decide +kernel
theorem d2_2 : decode method_5_code 2 = .ok (.baload, 1) := by decide +kernel
theorem d2_3 : decode method_5_code 3 = .ok (.sipush 255, 3) := by decide +kernel
theorem d2_6 : decode method_5_code 6 = .ok (.iand, 1) := by decide +kernel
theorem d2_7 : decode method_5_code 7 = .ok (.istore_n 2, 1) := by decide +kernel
theorem d2_8 : decode method_5_code 8 = .ok (.aload_n 0, 1) := by decide +kernel
theorem d2_9 : decode method_5_code 9 = .ok (.iload_n 1, 1) := by decide +kernel
theorem d2_10 : decode method_5_code 10 = .ok (.iconst 1, 1) := by decide +kernel
theorem d2_11 : decode method_5_code 11 = .ok (.iadd, 1) := by decide +kernel
theorem d2_12 : decode method_5_code 12 = .ok (.invokestatic 18, 3) := by decide +kernel
theorem d2_15 : decode method_5_code 15 = .ok (.istore_n 3, 1) := by decide +kernel
theorem d2_16 : decode method_5_code 16 = .ok (.aload_n 0, 1) := by decide +kernel
theorem d2_17 : decode method_5_code 17 = .ok (.iload_n 1, 1) := by decide +kernel
theorem d2_18 : decode method_5_code 18 = .ok (.iconst 2, 1) := by decide +kernel
theorem d2_19 : decode method_5_code 19 = .ok (.iadd, 1) := by decide +kernel
theorem d2_20 : decode method_5_code 20 = .ok (.invokestatic 18, 3) := by decide +kernel
theorem d2_23 : decode method_5_code 23 = .ok (.istore 4, 2) := by decide +kernel
theorem d2_25 : decode method_5_code 25 = .ok (.aload_n 0, 1) := by decide +kernel
theorem d2_26 : decode method_5_code 26 = .ok (.iload_n 1, 1) := by decide +kernel
theorem d2_27 : decode method_5_code 27 = .ok (.iconst 3, 1) := by decide +kernel
theorem d2_28 : decode method_5_code 28 = .ok (.iadd, 1) := by decide +kernel
theorem d2_29 : decode method_5_code 29 = .ok (.invokestatic 18, 3) := by decide +kernel
theorem d2_32 : decode method_5_code 32 = .ok (.istore 5, 2) := by decide +kernel
theorem d2_34 : decode method_5_code 34 = .ok (.iload_n 2, 1) := by decide +kernel
theorem d2_35 : decode method_5_code 35 = .ok (.sipush 128, 3) := by decide +kernel
theorem d2_38 : decode method_5_code 38 = .ok (.iand, 1) := by decide +kernel
theorem d2_39 : decode method_5_code 39 = .ok (.ifCond .ne 5, 3) := by decide +kernel
theorem d2_42 : decode method_5_code 42 = .ok (.iconst 1, 1) := by decide +kernel
theorem d2_43 : decode method_5_code 43 = .ok (.ireturn, 1) := by decide +kernel
theorem d2_44 : decode method_5_code 44 = .ok (.iload_n 2, 1) := by decide +kernel
theorem d2_45 : decode method_5_code 45 = .ok (.sipush 224, 3) := by decide +kernel
theorem d2_48 : decode method_5_code 48 = .ok (.iand, 1) := by decide +kernel
theorem d2_49 : decode method_5_code 49 = .ok (.sipush 192, 3) := by decide +kernel
theorem d2_52 : decode method_5_code 52 = .ok (.if_icmp .ne 40, 3) := by decide +kernel
theorem d2_55 : decode method_5_code 55 = .ok (.iload_n 3, 1) := by decide +kernel
theorem d2_56 : decode method_5_code 56 = .ok (.invokestatic 21, 3) := by decide +kernel
theorem d2_59 : decode method_5_code 59 = .ok (.ifCond .ne 5, 3) := by decide +kernel
theorem d2_62 : decode method_5_code 62 = .ok (.iconst 0, 1) := by decide +kernel
theorem d2_63 : decode method_5_code 63 = .ok (.ireturn, 1) := by decide +kernel
theorem d2_64 : decode method_5_code 64 = .ok (.iload_n 2, 1) := by decide +kernel
theorem d2_65 : decode method_5_code 65 = .ok (.bipush 31, 2) := by decide +kernel
theorem d2_67 : decode method_5_code 67 = .ok (.iand, 1) := by decide +kernel
theorem d2_68 : decode method_5_code 68 = .ok (.bipush 6, 2) := by decide +kernel
theorem d2_70 : decode method_5_code 70 = .ok (.ishl, 1) := by decide +kernel
theorem d2_71 : decode method_5_code 71 = .ok (.iload_n 3, 1) := by decide +kernel
theorem d2_72 : decode method_5_code 72 = .ok (.bipush 63, 2) := by decide +kernel
theorem d2_74 : decode method_5_code 74 = .ok (.iand, 1) := by decide +kernel
theorem d2_75 : decode method_5_code 75 = .ok (.ior, 1) := by decide +kernel
theorem d2_76 : decode method_5_code 76 = .ok (.istore 6, 2) := by decide +kernel
theorem d2_78 : decode method_5_code 78 = .ok (.iload 6, 2) := by decide +kernel
theorem d2_80 : decode method_5_code 80 = .ok (.sipush 128, 3) := by decide +kernel
theorem d2_83 : decode method_5_code 83 = .ok (.if_icmp .lt 7, 3) := by decide +kernel
theorem d2_86 : decode method_5_code 86 = .ok (.iconst 2, 1) := by decide +kernel
theorem d2_87 : decode method_5_code 87 = .ok (.goto 4, 3) := by decide +kernel
theorem d2_90 : decode method_5_code 90 = .ok (.iconst 0, 1) := by decide +kernel
theorem d2_91 : decode method_5_code 91 = .ok (.ireturn, 1) := by decide +kernel
theorem d2_92 : decode method_5_code 92 = .ok (.iload_n 2, 1) := by decide +kernel
theorem d2_93 : decode method_5_code 93 = .ok (.sipush 240, 3) := by decide +kernel
theorem d2_96 : decode method_5_code 96 = .ok (.iand, 1) := by decide +kernel
theorem d2_97 : decode method_5_code 97 = .ok (.sipush 224, 3) := by decide +kernel
theorem d2_100 : decode method_5_code 100 = .ok (.if_icmp .ne 71, 3) := by decide +kernel
theorem d2_103 : decode method_5_code 103 = .ok (.iload_n 3, 1) := by decide +kernel
theorem d2_104 : decode method_5_code 104 = .ok (.invokestatic 21, 3) := by decide +kernel
theorem d2_107 : decode method_5_code 107 = .ok (.ifCond .eq 11, 3) := by decide +kernel
theorem d2_110 : decode method_5_code 110 = .ok (.iload 4, 2) := by decide +kernel
theorem d2_112 : decode method_5_code 112 = .ok (.invokestatic 21, 3) := by decide +kernel
theorem d2_115 : decode method_5_code 115 = .ok (.ifCond .ne 5, 3) := by decide +kernel
theorem d2_118 : decode method_5_code 118 = .ok (.iconst 0, 1) := by decide +kernel
theorem d2_119 : decode method_5_code 119 = .ok (.ireturn, 1) := by decide +kernel
theorem d2_120 : decode method_5_code 120 = .ok (.iload_n 2, 1) := by decide +kernel
theorem d2_121 : decode method_5_code 121 = .ok (.bipush 15, 2) := by decide +kernel
theorem d2_123 : decode method_5_code 123 = .ok (.iand, 1) := by decide +kernel
theorem d2_124 : decode method_5_code 124 = .ok (.bipush 12, 2) := by decide +kernel
theorem d2_126 : decode method_5_code 126 = .ok (.ishl, 1) := by decide +kernel
theorem d2_127 : decode method_5_code 127 = .ok (.iload_n 3, 1) := by decide +kernel
theorem d2_128 : decode method_5_code 128 = .ok (.bipush 63, 2) := by decide +kernel
theorem d2_130 : decode method_5_code 130 = .ok (.iand, 1) := by decide +kernel
theorem d2_131 : decode method_5_code 131 = .ok (.bipush 6, 2) := by decide +kernel
theorem d2_133 : decode method_5_code 133 = .ok (.ishl, 1) := by decide +kernel
theorem d2_134 : decode method_5_code 134 = .ok (.ior, 1) := by decide +kernel
theorem d2_135 : decode method_5_code 135 = .ok (.iload 4, 2) := by decide +kernel
theorem d2_137 : decode method_5_code 137 = .ok (.bipush 63, 2) := by decide +kernel
theorem d2_139 : decode method_5_code 139 = .ok (.iand, 1) := by decide +kernel
theorem d2_140 : decode method_5_code 140 = .ok (.ior, 1) := by decide +kernel
theorem d2_141 : decode method_5_code 141 = .ok (.istore 6, 2) := by decide +kernel
theorem d2_143 : decode method_5_code 143 = .ok (.iload 6, 2) := by decide +kernel
theorem d2_145 : decode method_5_code 145 = .ok (.sipush 2048, 3) := by decide +kernel
theorem d2_148 : decode method_5_code 148 = .ok (.if_icmp .ge 5, 3) := by decide +kernel
theorem d2_151 : decode method_5_code 151 = .ok (.iconst 0, 1) := by decide +kernel
theorem d2_152 : decode method_5_code 152 = .ok (.ireturn, 1) := by decide +kernel
theorem d2_153 : decode method_5_code 153 = .ok (.iload 6, 2) := by decide +kernel
theorem d2_155 : decode method_5_code 155 = .ok (.ldc 25, 2) := by decide +kernel
theorem d2_157 : decode method_5_code 157 = .ok (.if_icmp .lt 12, 3) := by decide +kernel
theorem d2_160 : decode method_5_code 160 = .ok (.iload 6, 2) := by decide +kernel
theorem d2_162 : decode method_5_code 162 = .ok (.ldc 26, 2) := by decide +kernel
theorem d2_164 : decode method_5_code 164 = .ok (.if_icmp .gt 5, 3) := by decide +kernel
theorem d2_167 : decode method_5_code 167 = .ok (.iconst 0, 1) := by decide +kernel
theorem d2_168 : decode method_5_code 168 = .ok (.ireturn, 1) := by decide +kernel
theorem d2_169 : decode method_5_code 169 = .ok (.iconst 3, 1) := by decide +kernel
theorem d2_170 : decode method_5_code 170 = .ok (.ireturn, 1) := by decide +kernel
theorem d2_171 : decode method_5_code 171 = .ok (.iload_n 2, 1) := by decide +kernel
theorem d2_172 : decode method_5_code 172 = .ok (.sipush 248, 3) := by decide +kernel
theorem d2_175 : decode method_5_code 175 = .ok (.iand, 1) := by decide +kernel
theorem d2_176 : decode method_5_code 176 = .ok (.sipush 240, 3) := by decide +kernel
theorem d2_179 : decode method_5_code 179 = .ok (.if_icmp .ne 78, 3) := by decide +kernel
theorem d2_182 : decode method_5_code 182 = .ok (.iload_n 3, 1) := by decide +kernel
theorem d2_183 : decode method_5_code 183 = .ok (.invokestatic 21, 3) := by decide +kernel
theorem d2_186 : decode method_5_code 186 = .ok (.ifCond .eq 19, 3) := by decide +kernel
theorem d2_189 : decode method_5_code 189 = .ok (.iload 4, 2) := by decide +kernel
theorem d2_191 : decode method_5_code 191 = .ok (.invokestatic 21, 3) := by decide +kernel
theorem d2_194 : decode method_5_code 194 = .ok (.ifCond .eq 11, 3) := by decide +kernel
theorem d2_197 : decode method_5_code 197 = .ok (.iload 5, 2) := by decide +kernel
theorem d2_199 : decode method_5_code 199 = .ok (.invokestatic 21, 3) := by decide +kernel
theorem d2_202 : decode method_5_code 202 = .ok (.ifCond .ne 5, 3) := by decide +kernel
theorem d2_205 : decode method_5_code 205 = .ok (.iconst 0, 1) := by decide +kernel
theorem d2_206 : decode method_5_code 206 = .ok (.ireturn, 1) := by decide +kernel
theorem d2_207 : decode method_5_code 207 = .ok (.iload_n 2, 1) := by decide +kernel
theorem d2_208 : decode method_5_code 208 = .ok (.bipush 7, 2) := by decide +kernel
theorem d2_210 : decode method_5_code 210 = .ok (.iand, 1) := by decide +kernel
theorem d2_211 : decode method_5_code 211 = .ok (.bipush 18, 2) := by decide +kernel
theorem d2_213 : decode method_5_code 213 = .ok (.ishl, 1) := by decide +kernel
theorem d2_214 : decode method_5_code 214 = .ok (.iload_n 3, 1) := by decide +kernel
theorem d2_215 : decode method_5_code 215 = .ok (.bipush 63, 2) := by decide +kernel
theorem d2_217 : decode method_5_code 217 = .ok (.iand, 1) := by decide +kernel
theorem d2_218 : decode method_5_code 218 = .ok (.bipush 12, 2) := by decide +kernel
theorem d2_220 : decode method_5_code 220 = .ok (.ishl, 1) := by decide +kernel
theorem d2_221 : decode method_5_code 221 = .ok (.ior, 1) := by decide +kernel
theorem d2_222 : decode method_5_code 222 = .ok (.iload 4, 2) := by decide +kernel
theorem d2_224 : decode method_5_code 224 = .ok (.bipush 63, 2) := by decide +kernel
theorem d2_226 : decode method_5_code 226 = .ok (.iand, 1) := by decide +kernel
theorem d2_227 : decode method_5_code 227 = .ok (.bipush 6, 2) := by decide +kernel
theorem d2_229 : decode method_5_code 229 = .ok (.ishl, 1) := by decide +kernel
theorem d2_230 : decode method_5_code 230 = .ok (.ior, 1) := by decide +kernel
theorem d2_231 : decode method_5_code 231 = .ok (.iload 5, 2) := by decide +kernel
theorem d2_233 : decode method_5_code 233 = .ok (.bipush 63, 2) := by decide +kernel
theorem d2_235 : decode method_5_code 235 = .ok (.iand, 1) := by decide +kernel
theorem d2_236 : decode method_5_code 236 = .ok (.ior, 1) := by decide +kernel
theorem d2_237 : decode method_5_code 237 = .ok (.istore 6, 2) := by decide +kernel
theorem d2_239 : decode method_5_code 239 = .ok (.iload 6, 2) := by decide +kernel
theorem d2_241 : decode method_5_code 241 = .ok (.ldc 27, 2) := by decide +kernel
theorem d2_243 : decode method_5_code 243 = .ok (.if_icmp .lt 10, 3) := by decide +kernel
theorem d2_246 : decode method_5_code 246 = .ok (.iload 6, 2) := by decide +kernel
theorem d2_248 : decode method_5_code 248 = .ok (.ldc 28, 2) := by decide +kernel
theorem d2_250 : decode method_5_code 250 = .ok (.if_icmp .le 5, 3) := by decide +kernel
theorem d2_253 : decode method_5_code 253 = .ok (.iconst 0, 1) := by decide +kernel
theorem d2_254 : decode method_5_code 254 = .ok (.ireturn, 1) := by decide +kernel
theorem d2_255 : decode method_5_code 255 = .ok (.iconst 4, 1) := by decide +kernel
theorem d2_256 : decode method_5_code 256 = .ok (.ireturn, 1) := by decide +kernel
theorem d2_257 : decode method_5_code 257 = .ok (.iconst 0, 1) := by decide +kernel
theorem d2_258 : decode method_5_code 258 = .ok (.ireturn, 1) := by decide +kernel
def f_exp (b0 b1 b2 b3 n x1 : Int32) : Int32 := (if ((b0 &&& (255 : Int32)) &&& (128 : Int32)) = (0 : Int32) then (1 : Int32) else (if ((b0 &&& (255 : Int32)) &&& (224 : Int32)) = (192 : Int32) then (if (f_cont (f_byte b1 n (x1 + (1 : Int32)))) = (0 : Int32) then (0 : Int32) else (if ((((b0 &&& (255 : Int32)) &&& (31 : Int32)) <<< ((6 : Int32) &&& 31)) ||| ((f_byte b1 n (x1 + (1 : Int32))) &&& (63 : Int32))) < (128 : Int32) then (0 : Int32) else (2 : Int32))) else (if ((b0 &&& (255 : Int32)) &&& (240 : Int32)) = (224 : Int32) then (if (f_cont (f_byte b1 n (x1 + (1 : Int32)))) = (0 : Int32) then (0 : Int32) else (if (f_cont (f_byte b2 n (x1 + (2 : Int32)))) = (0 : Int32) then (0 : Int32) else (if (((((b0 &&& (255 : Int32)) &&& (15 : Int32)) <<< ((12 : Int32) &&& 31)) ||| (((f_byte b1 n (x1 + (1 : Int32))) &&& (63 : Int32)) <<< ((6 : Int32) &&& 31))) ||| ((f_byte b2 n (x1 + (2 : Int32))) &&& (63 : Int32))) < (2048 : Int32) then (0 : Int32) else (if (((((b0 &&& (255 : Int32)) &&& (15 : Int32)) <<< ((12 : Int32) &&& 31)) ||| (((f_byte b1 n (x1 + (1 : Int32))) &&& (63 : Int32)) <<< ((6 : Int32) &&& 31))) ||| ((f_byte b2 n (x1 + (2 : Int32))) &&& (63 : Int32))) < (55296 : Int32) then (3 : Int32) else (if (57343 : Int32) < (((((b0 &&& (255 : Int32)) &&& (15 : Int32)) <<< ((12 : Int32) &&& 31)) ||| (((f_byte b1 n (x1 + (1 : Int32))) &&& (63 : Int32)) <<< ((6 : Int32) &&& 31))) ||| ((f_byte b2 n (x1 + (2 : Int32))) &&& (63 : Int32))) then (3 : Int32) else (0 : Int32)))))) else (if ((b0 &&& (255 : Int32)) &&& (248 : Int32)) = (240 : Int32) then (if (f_cont (f_byte b1 n (x1 + (1 : Int32)))) = (0 : Int32) then (0 : Int32) else (if (f_cont (f_byte b2 n (x1 + (2 : Int32)))) = (0 : Int32) then (0 : Int32) else (if (f_cont (f_byte b3 n (x1 + (3 : Int32)))) = (0 : Int32) then (0 : Int32) else (if ((((((b0 &&& (255 : Int32)) &&& (7 : Int32)) <<< ((18 : Int32) &&& 31)) ||| (((f_byte b1 n (x1 + (1 : Int32))) &&& (63 : Int32)) <<< ((12 : Int32) &&& 31))) ||| (((f_byte b2 n (x1 + (2 : Int32))) &&& (63 : Int32)) <<< ((6 : Int32) &&& 31))) ||| ((f_byte b3 n (x1 + (3 : Int32))) &&& (63 : Int32))) < (65536 : Int32) then (0 : Int32) else (if (1114111 : Int32) < ((((((b0 &&& (255 : Int32)) &&& (7 : Int32)) <<< ((18 : Int32) &&& 31)) ||| (((f_byte b1 n (x1 + (1 : Int32))) &&& (63 : Int32)) <<< ((12 : Int32) &&& 31))) ||| (((f_byte b2 n (x1 + (2 : Int32))) &&& (63 : Int32)) <<< ((6 : Int32) &&& 31))) ||| ((f_byte b3 n (x1 + (3 : Int32))) &&& (63 : Int32))) then (0 : Int32) else (4 : Int32)))))) else (0 : Int32)))))
set_option maxRecDepth 65536 in
set_option maxHeartbeats 40000000 in
theorem con_f_exp (l : Launch) (Z : State) (a0 : Array Value) (hw : ∀ d ∈ tables_1, d.before a0 Z = true) (h0 : Heap) (ds : Wd) (q : Nat) (a : Addr) (xs : List Int32) (n x1 : Int32) (hi : ds[q]? = some (a, IA Z .byte (ints xs))) (h1 : 0 ≤ x1.toInt) (h2 : x1.toInt < xs.length) (h3 : xs.length ≤ 8) (hn : (ints xs).length.toInt32 = n) :
    Con l Z (⟨"com/example/vestwork/vestwork/actuarial/XmlBytesUtf8LengthPinLaw", "expected", "([BI)I"⟩ : MethodName) method_5_code 7 (some .int) ({ frames := 1, cells := 0, slots := 0, locals := 24 } : Room) h0 #[(.ref a), (.int x1)] ds (fun v ds' => v = some (.int (f_exp (own_el xs x1) (own_el xs (x1 + (1 : Int32))) (own_el xs (x1 + (2 : Int32))) (own_el xs (x1 + (3 : Int32))) n x1)) ∧ ds = ds') := by
  refine con_of (a0 := a0) (Ls := #[.val (.ref a), .val (.int x1), .unset, .unset, .unset, .unset, .unset]) (plainFor_of_name (by first | (simp [plainName, overriddenIn]; done) | decide +kernel)) hw (fun m => by first | (simp [entryFrame, mkF, argsToLocals, Value.category]; done) | rfl) ?_
  intro p e s m below meth c C
  refine g_aloadN C 1 d2_0 rfl rfl rfl ?_
  refine g_iloadN C 2 d2_1 rfl rfl ?_
  refine g_baload C 3 hi d2_2 rfl (own_ix0 h1) (own_el xs x1) (own_ix1 h1 h2) ?_
  refine g_sipush C 6 (255 : Int32) d2_3 rfl rfl ?_
  refine g_iand C 7 d2_6 rfl ?_
  refine g_istoreN C 8 #[.val (.ref a), .val (.int x1), .val (.int ((own_el xs x1) &&& (255 : Int32))), .unset, .unset, .unset, .unset] d2_7 rfl rfl ?_
  refine g_aloadN C 9 d2_8 rfl rfl rfl ?_
  refine g_iloadN C 10 d2_9 rfl rfl ?_
  refine g_iconst C 11 (1 : Int32) d2_10 rfl rfl ?_
  refine g_iadd C 12 d2_11 rfl ?_
  refine g_static C 15 0 (argsL := [(.ref a), (.int (x1 + (1 : Int32)))]) (St := []) (con_f_byte l Z a0 C.2.2.1 h0 ds q a xs n (x1 + (1 : Int32)) hi (own_ix5 h1 h2 h3 (by decide) (by decide)) h3 hn) (List.mem_of_getElem? (i := 9) rfl) (List.mem_of_getElem? (i := 10) rfl) (List.mem_of_getElem? (i := 7) rfl) (List.mem_of_getElem? (i := 11) rfl) (by decide) d2_12 rfl rfl (lenOf (ps := [(.array .byte), .int]) (r := some .int) (by decide) rfl) rfl (Nat.le_of_eq rfl) (by decide) (by decide) (by decide) (by decide) ?_
  rintro _ _ ⟨rfl, rfl⟩
  show Go _ _ _ _ _ _ _ _ _ _ _ _ ds 0 0 15 #[.val (.ref a), .val (.int x1), .val (.int ((own_el xs x1) &&& (255 : Int32))), .unset, .unset, .unset, .unset] [(.int (f_byte (own_el xs (x1 + (1 : Int32))) n (x1 + (1 : Int32))))]
  refine g_istoreN C 16 #[.val (.ref a), .val (.int x1), .val (.int ((own_el xs x1) &&& (255 : Int32))), .val (.int (f_byte (own_el xs (x1 + (1 : Int32))) n (x1 + (1 : Int32)))), .unset, .unset, .unset] d2_15 rfl rfl ?_
  refine g_aloadN C 17 d2_16 rfl rfl rfl ?_
  refine g_iloadN C 18 d2_17 rfl rfl ?_
  refine g_iconst C 19 (2 : Int32) d2_18 rfl rfl ?_
  refine g_iadd C 20 d2_19 rfl ?_
  refine g_static C 23 0 (argsL := [(.ref a), (.int (x1 + (2 : Int32)))]) (St := []) (con_f_byte l Z a0 C.2.2.1 h0 ds q a xs n (x1 + (2 : Int32)) hi (own_ix5 h1 h2 h3 (by decide) (by decide)) h3 hn) (List.mem_of_getElem? (i := 9) rfl) (List.mem_of_getElem? (i := 10) rfl) (List.mem_of_getElem? (i := 7) rfl) (List.mem_of_getElem? (i := 11) rfl) (by decide) d2_20 rfl rfl (lenOf (ps := [(.array .byte), .int]) (r := some .int) (by decide) rfl) rfl (Nat.le_of_eq rfl) (by decide) (by decide) (by decide) (by decide) ?_
  rintro _ _ ⟨rfl, rfl⟩
  show Go _ _ _ _ _ _ _ _ _ _ _ _ ds 0 0 23 #[.val (.ref a), .val (.int x1), .val (.int ((own_el xs x1) &&& (255 : Int32))), .val (.int (f_byte (own_el xs (x1 + (1 : Int32))) n (x1 + (1 : Int32)))), .unset, .unset, .unset] [(.int (f_byte (own_el xs (x1 + (2 : Int32))) n (x1 + (2 : Int32))))]
  refine g_istore C 25 #[.val (.ref a), .val (.int x1), .val (.int ((own_el xs x1) &&& (255 : Int32))), .val (.int (f_byte (own_el xs (x1 + (1 : Int32))) n (x1 + (1 : Int32)))), .val (.int (f_byte (own_el xs (x1 + (2 : Int32))) n (x1 + (2 : Int32)))), .unset, .unset] d2_23 rfl rfl ?_
  refine g_aloadN C 26 d2_25 rfl rfl rfl ?_
  refine g_iloadN C 27 d2_26 rfl rfl ?_
  refine g_iconst C 28 (3 : Int32) d2_27 rfl rfl ?_
  refine g_iadd C 29 d2_28 rfl ?_
  refine g_static C 32 0 (argsL := [(.ref a), (.int (x1 + (3 : Int32)))]) (St := []) (con_f_byte l Z a0 C.2.2.1 h0 ds q a xs n (x1 + (3 : Int32)) hi (own_ix5 h1 h2 h3 (by decide) (by decide)) h3 hn) (List.mem_of_getElem? (i := 9) rfl) (List.mem_of_getElem? (i := 10) rfl) (List.mem_of_getElem? (i := 7) rfl) (List.mem_of_getElem? (i := 11) rfl) (by decide) d2_29 rfl rfl (lenOf (ps := [(.array .byte), .int]) (r := some .int) (by decide) rfl) rfl (Nat.le_of_eq rfl) (by decide) (by decide) (by decide) (by decide) ?_
  rintro _ _ ⟨rfl, rfl⟩
  show Go _ _ _ _ _ _ _ _ _ _ _ _ ds 0 0 32 #[.val (.ref a), .val (.int x1), .val (.int ((own_el xs x1) &&& (255 : Int32))), .val (.int (f_byte (own_el xs (x1 + (1 : Int32))) n (x1 + (1 : Int32)))), .val (.int (f_byte (own_el xs (x1 + (2 : Int32))) n (x1 + (2 : Int32)))), .unset, .unset] [(.int (f_byte (own_el xs (x1 + (3 : Int32))) n (x1 + (3 : Int32))))]
  refine g_istore C 34 #[.val (.ref a), .val (.int x1), .val (.int ((own_el xs x1) &&& (255 : Int32))), .val (.int (f_byte (own_el xs (x1 + (1 : Int32))) n (x1 + (1 : Int32)))), .val (.int (f_byte (own_el xs (x1 + (2 : Int32))) n (x1 + (2 : Int32)))), .val (.int (f_byte (own_el xs (x1 + (3 : Int32))) n (x1 + (3 : Int32)))), .unset] d2_32 rfl rfl ?_
  refine g_iloadN C 35 d2_34 rfl rfl ?_
  refine g_sipush C 38 (128 : Int32) d2_35 rfl rfl ?_
  refine g_iand C 39 d2_38 rfl ?_
  by_cases c1 : (((own_el xs x1) &&& (255 : Int32)) &&& (128 : Int32)) = (0 : Int32)
  · refine g_ifN C 42 d2_39 (teq c1).2 rfl ?_
    refine g_iconst C 43 (1 : Int32) d2_42 rfl rfl ?_
    exact g_iret C d2_43 (by decide) (by decide) ⟨by rw [f_exp, if_pos c1], rfl⟩
  · refine g_ifY C 44 d2_39 (feq c1).2 (by decide) (by decide) ?_
    refine g_iloadN C 45 d2_44 rfl rfl ?_
    refine g_sipush C 48 (224 : Int32) d2_45 rfl rfl ?_
    refine g_iand C 49 d2_48 rfl ?_
    refine g_sipush C 52 (192 : Int32) d2_49 rfl rfl ?_
    by_cases c2 : (((own_el xs x1) &&& (255 : Int32)) &&& (224 : Int32)) = (192 : Int32)
    · refine g_icN C 55 d2_52 (teq c2).2 rfl ?_
      refine g_iloadN C 56 d2_55 rfl rfl ?_
      refine g_static C 59 0 (argsL := [(.int (f_byte (own_el xs (x1 + (1 : Int32))) n (x1 + (1 : Int32))))]) (St := []) (con_f_cont l Z a0 C.2.2.1 h0 ds (f_byte (own_el xs (x1 + (1 : Int32))) n (x1 + (1 : Int32)))) (List.mem_of_getElem? (i := 12) rfl) (List.mem_of_getElem? (i := 13) rfl) (List.mem_of_getElem? (i := 7) rfl) (List.mem_of_getElem? (i := 14) rfl) (by decide) d2_56 rfl rfl (lenOf (ps := [.int]) (r := some .boolean) (by decide) rfl) rfl (Nat.le_of_eq rfl) (by decide) (by decide) (by decide) (by decide) ?_
      rintro _ _ ⟨rfl, rfl⟩
      show Go _ _ _ _ _ _ _ _ _ _ _ _ ds 0 0 59 #[.val (.ref a), .val (.int x1), .val (.int ((own_el xs x1) &&& (255 : Int32))), .val (.int (f_byte (own_el xs (x1 + (1 : Int32))) n (x1 + (1 : Int32)))), .val (.int (f_byte (own_el xs (x1 + (2 : Int32))) n (x1 + (2 : Int32)))), .val (.int (f_byte (own_el xs (x1 + (3 : Int32))) n (x1 + (3 : Int32)))), .unset] [(.int (f_cont (f_byte (own_el xs (x1 + (1 : Int32))) n (x1 + (1 : Int32)))))]
      by_cases c3 : (f_cont (f_byte (own_el xs (x1 + (1 : Int32))) n (x1 + (1 : Int32)))) = (0 : Int32)
      · refine g_ifN C 62 d2_59 (teq c3).2 rfl ?_
        refine g_iconst C 63 (0 : Int32) d2_62 rfl rfl ?_
        exact g_iret C d2_63 (by decide) (by decide) ⟨by rw [f_exp, if_neg c1, if_pos c2, if_pos c3], rfl⟩
      · refine g_ifY C 64 d2_59 (feq c3).2 (by decide) (by decide) ?_
        refine g_iloadN C 65 d2_64 rfl rfl ?_
        refine g_bipush C 67 (31 : Int32) d2_65 rfl rfl ?_
        refine g_iand C 68 d2_67 rfl ?_
        refine g_bipush C 70 (6 : Int32) d2_68 rfl rfl ?_
        refine g_ishl C 71 d2_70 rfl ?_
        refine g_iloadN C 72 d2_71 rfl rfl ?_
        refine g_bipush C 74 (63 : Int32) d2_72 rfl rfl ?_
        refine g_iand C 75 d2_74 rfl ?_
        refine g_ior C 76 d2_75 rfl ?_
        refine g_istore C 78 #[.val (.ref a), .val (.int x1), .val (.int ((own_el xs x1) &&& (255 : Int32))), .val (.int (f_byte (own_el xs (x1 + (1 : Int32))) n (x1 + (1 : Int32)))), .val (.int (f_byte (own_el xs (x1 + (2 : Int32))) n (x1 + (2 : Int32)))), .val (.int (f_byte (own_el xs (x1 + (3 : Int32))) n (x1 + (3 : Int32)))), .val (.int (((((own_el xs x1) &&& (255 : Int32)) &&& (31 : Int32)) <<< ((6 : Int32) &&& 31)) ||| ((f_byte (own_el xs (x1 + (1 : Int32))) n (x1 + (1 : Int32))) &&& (63 : Int32))))] d2_76 rfl rfl ?_
        refine g_iload C 80 d2_78 rfl rfl ?_
        refine g_sipush C 83 (128 : Int32) d2_80 rfl rfl ?_
        by_cases c4 : (((((own_el xs x1) &&& (255 : Int32)) &&& (31 : Int32)) <<< ((6 : Int32) &&& 31)) ||| ((f_byte (own_el xs (x1 + (1 : Int32))) n (x1 + (1 : Int32))) &&& (63 : Int32))) < (128 : Int32)
        · refine g_icY C 90 d2_83 (tlt c4).1 (by decide) (by decide) ?_
          refine g_iconst C 91 (0 : Int32) d2_90 rfl rfl ?_
          exact g_iret C d2_91 (by decide) (by decide) ⟨by rw [f_exp, if_neg c1, if_pos c2, if_neg c3, if_pos c4], rfl⟩
        · refine g_icN C 86 d2_83 (flt c4).1 rfl ?_
          refine g_iconst C 87 (2 : Int32) d2_86 rfl rfl ?_
          refine g_goto C 91 d2_87 (by decide) (by decide) ?_
          exact g_iret C d2_91 (by decide) (by decide) ⟨by rw [f_exp, if_neg c1, if_pos c2, if_neg c3, if_neg c4], rfl⟩
    · refine g_icY C 92 d2_52 (feq c2).2 (by decide) (by decide) ?_
      refine g_iloadN C 93 d2_92 rfl rfl ?_
      refine g_sipush C 96 (240 : Int32) d2_93 rfl rfl ?_
      refine g_iand C 97 d2_96 rfl ?_
      refine g_sipush C 100 (224 : Int32) d2_97 rfl rfl ?_
      by_cases c5 : (((own_el xs x1) &&& (255 : Int32)) &&& (240 : Int32)) = (224 : Int32)
      · refine g_icN C 103 d2_100 (teq c5).2 rfl ?_
        refine g_iloadN C 104 d2_103 rfl rfl ?_
        refine g_static C 107 0 (argsL := [(.int (f_byte (own_el xs (x1 + (1 : Int32))) n (x1 + (1 : Int32))))]) (St := []) (con_f_cont l Z a0 C.2.2.1 h0 ds (f_byte (own_el xs (x1 + (1 : Int32))) n (x1 + (1 : Int32)))) (List.mem_of_getElem? (i := 12) rfl) (List.mem_of_getElem? (i := 13) rfl) (List.mem_of_getElem? (i := 7) rfl) (List.mem_of_getElem? (i := 14) rfl) (by decide) d2_104 rfl rfl (lenOf (ps := [.int]) (r := some .boolean) (by decide) rfl) rfl (Nat.le_of_eq rfl) (by decide) (by decide) (by decide) (by decide) ?_
        rintro _ _ ⟨rfl, rfl⟩
        show Go _ _ _ _ _ _ _ _ _ _ _ _ ds 0 0 107 #[.val (.ref a), .val (.int x1), .val (.int ((own_el xs x1) &&& (255 : Int32))), .val (.int (f_byte (own_el xs (x1 + (1 : Int32))) n (x1 + (1 : Int32)))), .val (.int (f_byte (own_el xs (x1 + (2 : Int32))) n (x1 + (2 : Int32)))), .val (.int (f_byte (own_el xs (x1 + (3 : Int32))) n (x1 + (3 : Int32)))), .unset] [(.int (f_cont (f_byte (own_el xs (x1 + (1 : Int32))) n (x1 + (1 : Int32)))))]
        by_cases c6 : (f_cont (f_byte (own_el xs (x1 + (1 : Int32))) n (x1 + (1 : Int32)))) = (0 : Int32)
        · refine g_ifY C 118 d2_107 (teq c6).1 (by decide) (by decide) ?_
          refine g_iconst C 119 (0 : Int32) d2_118 rfl rfl ?_
          exact g_iret C d2_119 (by decide) (by decide) ⟨by rw [f_exp, if_neg c1, if_neg c2, if_pos c5, if_pos c6], rfl⟩
        · refine g_ifN C 110 d2_107 (feq c6).1 rfl ?_
          refine g_iload C 112 d2_110 rfl rfl ?_
          refine g_static C 115 0 (argsL := [(.int (f_byte (own_el xs (x1 + (2 : Int32))) n (x1 + (2 : Int32))))]) (St := []) (con_f_cont l Z a0 C.2.2.1 h0 ds (f_byte (own_el xs (x1 + (2 : Int32))) n (x1 + (2 : Int32)))) (List.mem_of_getElem? (i := 12) rfl) (List.mem_of_getElem? (i := 13) rfl) (List.mem_of_getElem? (i := 7) rfl) (List.mem_of_getElem? (i := 14) rfl) (by decide) d2_112 rfl rfl (lenOf (ps := [.int]) (r := some .boolean) (by decide) rfl) rfl (Nat.le_of_eq rfl) (by decide) (by decide) (by decide) (by decide) ?_
          rintro _ _ ⟨rfl, rfl⟩
          show Go _ _ _ _ _ _ _ _ _ _ _ _ ds 0 0 115 #[.val (.ref a), .val (.int x1), .val (.int ((own_el xs x1) &&& (255 : Int32))), .val (.int (f_byte (own_el xs (x1 + (1 : Int32))) n (x1 + (1 : Int32)))), .val (.int (f_byte (own_el xs (x1 + (2 : Int32))) n (x1 + (2 : Int32)))), .val (.int (f_byte (own_el xs (x1 + (3 : Int32))) n (x1 + (3 : Int32)))), .unset] [(.int (f_cont (f_byte (own_el xs (x1 + (2 : Int32))) n (x1 + (2 : Int32)))))]
          by_cases c7 : (f_cont (f_byte (own_el xs (x1 + (2 : Int32))) n (x1 + (2 : Int32)))) = (0 : Int32)
          · refine g_ifN C 118 d2_115 (teq c7).2 rfl ?_
            refine g_iconst C 119 (0 : Int32) d2_118 rfl rfl ?_
            exact g_iret C d2_119 (by decide) (by decide) ⟨by rw [f_exp, if_neg c1, if_neg c2, if_pos c5, if_neg c6, if_pos c7], rfl⟩
          · refine g_ifY C 120 d2_115 (feq c7).2 (by decide) (by decide) ?_
            refine g_iloadN C 121 d2_120 rfl rfl ?_
            refine g_bipush C 123 (15 : Int32) d2_121 rfl rfl ?_
            refine g_iand C 124 d2_123 rfl ?_
            refine g_bipush C 126 (12 : Int32) d2_124 rfl rfl ?_
            refine g_ishl C 127 d2_126 rfl ?_
            refine g_iloadN C 128 d2_127 rfl rfl ?_
            refine g_bipush C 130 (63 : Int32) d2_128 rfl rfl ?_
            refine g_iand C 131 d2_130 rfl ?_
            refine g_bipush C 133 (6 : Int32) d2_131 rfl rfl ?_
            refine g_ishl C 134 d2_133 rfl ?_
            refine g_ior C 135 d2_134 rfl ?_
            refine g_iload C 137 d2_135 rfl rfl ?_
            refine g_bipush C 139 (63 : Int32) d2_137 rfl rfl ?_
            refine g_iand C 140 d2_139 rfl ?_
            refine g_ior C 141 d2_140 rfl ?_
            refine g_istore C 143 #[.val (.ref a), .val (.int x1), .val (.int ((own_el xs x1) &&& (255 : Int32))), .val (.int (f_byte (own_el xs (x1 + (1 : Int32))) n (x1 + (1 : Int32)))), .val (.int (f_byte (own_el xs (x1 + (2 : Int32))) n (x1 + (2 : Int32)))), .val (.int (f_byte (own_el xs (x1 + (3 : Int32))) n (x1 + (3 : Int32)))), .val (.int ((((((own_el xs x1) &&& (255 : Int32)) &&& (15 : Int32)) <<< ((12 : Int32) &&& 31)) ||| (((f_byte (own_el xs (x1 + (1 : Int32))) n (x1 + (1 : Int32))) &&& (63 : Int32)) <<< ((6 : Int32) &&& 31))) ||| ((f_byte (own_el xs (x1 + (2 : Int32))) n (x1 + (2 : Int32))) &&& (63 : Int32))))] d2_141 rfl rfl ?_
            refine g_iload C 145 d2_143 rfl rfl ?_
            refine g_sipush C 148 (2048 : Int32) d2_145 rfl rfl ?_
            by_cases c8 : ((((((own_el xs x1) &&& (255 : Int32)) &&& (15 : Int32)) <<< ((12 : Int32) &&& 31)) ||| (((f_byte (own_el xs (x1 + (1 : Int32))) n (x1 + (1 : Int32))) &&& (63 : Int32)) <<< ((6 : Int32) &&& 31))) ||| ((f_byte (own_el xs (x1 + (2 : Int32))) n (x1 + (2 : Int32))) &&& (63 : Int32))) < (2048 : Int32)
            · refine g_icN C 151 d2_148 (tlt c8).2.1 rfl ?_
              refine g_iconst C 152 (0 : Int32) d2_151 rfl rfl ?_
              exact g_iret C d2_152 (by decide) (by decide) ⟨by rw [f_exp, if_neg c1, if_neg c2, if_pos c5, if_neg c6, if_neg c7, if_pos c8], rfl⟩
            · refine g_icY C 153 d2_148 (flt c8).2.1 (by decide) (by decide) ?_
              refine g_iload C 155 d2_153 rfl rfl ?_
              refine g_ldcI C 157 (55296 : Int32) d2_155 rfl (List.mem_of_getElem? (i := 15) rfl) ?_
              by_cases c9 : ((((((own_el xs x1) &&& (255 : Int32)) &&& (15 : Int32)) <<< ((12 : Int32) &&& 31)) ||| (((f_byte (own_el xs (x1 + (1 : Int32))) n (x1 + (1 : Int32))) &&& (63 : Int32)) <<< ((6 : Int32) &&& 31))) ||| ((f_byte (own_el xs (x1 + (2 : Int32))) n (x1 + (2 : Int32))) &&& (63 : Int32))) < (55296 : Int32)
              · refine g_icY C 169 d2_157 (tlt c9).1 (by decide) (by decide) ?_
                refine g_iconst C 170 (3 : Int32) d2_169 rfl rfl ?_
                exact g_iret C d2_170 (by decide) (by decide) ⟨by rw [f_exp, if_neg c1, if_neg c2, if_pos c5, if_neg c6, if_neg c7, if_neg c8, if_pos c9], rfl⟩
              · refine g_icN C 160 d2_157 (flt c9).1 rfl ?_
                refine g_iload C 162 d2_160 rfl rfl ?_
                refine g_ldcI C 164 (57343 : Int32) d2_162 rfl (List.mem_of_getElem? (i := 16) rfl) ?_
                by_cases c10 : (57343 : Int32) < ((((((own_el xs x1) &&& (255 : Int32)) &&& (15 : Int32)) <<< ((12 : Int32) &&& 31)) ||| (((f_byte (own_el xs (x1 + (1 : Int32))) n (x1 + (1 : Int32))) &&& (63 : Int32)) <<< ((6 : Int32) &&& 31))) ||| ((f_byte (own_el xs (x1 + (2 : Int32))) n (x1 + (2 : Int32))) &&& (63 : Int32)))
                · refine g_icY C 169 d2_164 (tlt c10).2.2.1 (by decide) (by decide) ?_
                  refine g_iconst C 170 (3 : Int32) d2_169 rfl rfl ?_
                  exact g_iret C d2_170 (by decide) (by decide) ⟨by rw [f_exp, if_neg c1, if_neg c2, if_pos c5, if_neg c6, if_neg c7, if_neg c8, if_neg c9, if_pos c10], rfl⟩
                · refine g_icN C 167 d2_164 (flt c10).2.2.1 rfl ?_
                  refine g_iconst C 168 (0 : Int32) d2_167 rfl rfl ?_
                  exact g_iret C d2_168 (by decide) (by decide) ⟨by rw [f_exp, if_neg c1, if_neg c2, if_pos c5, if_neg c6, if_neg c7, if_neg c8, if_neg c9, if_neg c10], rfl⟩
      · refine g_icY C 171 d2_100 (feq c5).2 (by decide) (by decide) ?_
        refine g_iloadN C 172 d2_171 rfl rfl ?_
        refine g_sipush C 175 (248 : Int32) d2_172 rfl rfl ?_
        refine g_iand C 176 d2_175 rfl ?_
        refine g_sipush C 179 (240 : Int32) d2_176 rfl rfl ?_
        by_cases c11 : (((own_el xs x1) &&& (255 : Int32)) &&& (248 : Int32)) = (240 : Int32)
        · refine g_icN C 182 d2_179 (teq c11).2 rfl ?_
          refine g_iloadN C 183 d2_182 rfl rfl ?_
          refine g_static C 186 0 (argsL := [(.int (f_byte (own_el xs (x1 + (1 : Int32))) n (x1 + (1 : Int32))))]) (St := []) (con_f_cont l Z a0 C.2.2.1 h0 ds (f_byte (own_el xs (x1 + (1 : Int32))) n (x1 + (1 : Int32)))) (List.mem_of_getElem? (i := 12) rfl) (List.mem_of_getElem? (i := 13) rfl) (List.mem_of_getElem? (i := 7) rfl) (List.mem_of_getElem? (i := 14) rfl) (by decide) d2_183 rfl rfl (lenOf (ps := [.int]) (r := some .boolean) (by decide) rfl) rfl (Nat.le_of_eq rfl) (by decide) (by decide) (by decide) (by decide) ?_
          rintro _ _ ⟨rfl, rfl⟩
          show Go _ _ _ _ _ _ _ _ _ _ _ _ ds 0 0 186 #[.val (.ref a), .val (.int x1), .val (.int ((own_el xs x1) &&& (255 : Int32))), .val (.int (f_byte (own_el xs (x1 + (1 : Int32))) n (x1 + (1 : Int32)))), .val (.int (f_byte (own_el xs (x1 + (2 : Int32))) n (x1 + (2 : Int32)))), .val (.int (f_byte (own_el xs (x1 + (3 : Int32))) n (x1 + (3 : Int32)))), .unset] [(.int (f_cont (f_byte (own_el xs (x1 + (1 : Int32))) n (x1 + (1 : Int32)))))]
          by_cases c12 : (f_cont (f_byte (own_el xs (x1 + (1 : Int32))) n (x1 + (1 : Int32)))) = (0 : Int32)
          · refine g_ifY C 205 d2_186 (teq c12).1 (by decide) (by decide) ?_
            refine g_iconst C 206 (0 : Int32) d2_205 rfl rfl ?_
            exact g_iret C d2_206 (by decide) (by decide) ⟨by rw [f_exp, if_neg c1, if_neg c2, if_neg c5, if_pos c11, if_pos c12], rfl⟩
          · refine g_ifN C 189 d2_186 (feq c12).1 rfl ?_
            refine g_iload C 191 d2_189 rfl rfl ?_
            refine g_static C 194 0 (argsL := [(.int (f_byte (own_el xs (x1 + (2 : Int32))) n (x1 + (2 : Int32))))]) (St := []) (con_f_cont l Z a0 C.2.2.1 h0 ds (f_byte (own_el xs (x1 + (2 : Int32))) n (x1 + (2 : Int32)))) (List.mem_of_getElem? (i := 12) rfl) (List.mem_of_getElem? (i := 13) rfl) (List.mem_of_getElem? (i := 7) rfl) (List.mem_of_getElem? (i := 14) rfl) (by decide) d2_191 rfl rfl (lenOf (ps := [.int]) (r := some .boolean) (by decide) rfl) rfl (Nat.le_of_eq rfl) (by decide) (by decide) (by decide) (by decide) ?_
            rintro _ _ ⟨rfl, rfl⟩
            show Go _ _ _ _ _ _ _ _ _ _ _ _ ds 0 0 194 #[.val (.ref a), .val (.int x1), .val (.int ((own_el xs x1) &&& (255 : Int32))), .val (.int (f_byte (own_el xs (x1 + (1 : Int32))) n (x1 + (1 : Int32)))), .val (.int (f_byte (own_el xs (x1 + (2 : Int32))) n (x1 + (2 : Int32)))), .val (.int (f_byte (own_el xs (x1 + (3 : Int32))) n (x1 + (3 : Int32)))), .unset] [(.int (f_cont (f_byte (own_el xs (x1 + (2 : Int32))) n (x1 + (2 : Int32)))))]
            by_cases c13 : (f_cont (f_byte (own_el xs (x1 + (2 : Int32))) n (x1 + (2 : Int32)))) = (0 : Int32)
            · refine g_ifY C 205 d2_194 (teq c13).1 (by decide) (by decide) ?_
              refine g_iconst C 206 (0 : Int32) d2_205 rfl rfl ?_
              exact g_iret C d2_206 (by decide) (by decide) ⟨by rw [f_exp, if_neg c1, if_neg c2, if_neg c5, if_pos c11, if_neg c12, if_pos c13], rfl⟩
            · refine g_ifN C 197 d2_194 (feq c13).1 rfl ?_
              refine g_iload C 199 d2_197 rfl rfl ?_
              refine g_static C 202 0 (argsL := [(.int (f_byte (own_el xs (x1 + (3 : Int32))) n (x1 + (3 : Int32))))]) (St := []) (con_f_cont l Z a0 C.2.2.1 h0 ds (f_byte (own_el xs (x1 + (3 : Int32))) n (x1 + (3 : Int32)))) (List.mem_of_getElem? (i := 12) rfl) (List.mem_of_getElem? (i := 13) rfl) (List.mem_of_getElem? (i := 7) rfl) (List.mem_of_getElem? (i := 14) rfl) (by decide) d2_199 rfl rfl (lenOf (ps := [.int]) (r := some .boolean) (by decide) rfl) rfl (Nat.le_of_eq rfl) (by decide) (by decide) (by decide) (by decide) ?_
              rintro _ _ ⟨rfl, rfl⟩
              show Go _ _ _ _ _ _ _ _ _ _ _ _ ds 0 0 202 #[.val (.ref a), .val (.int x1), .val (.int ((own_el xs x1) &&& (255 : Int32))), .val (.int (f_byte (own_el xs (x1 + (1 : Int32))) n (x1 + (1 : Int32)))), .val (.int (f_byte (own_el xs (x1 + (2 : Int32))) n (x1 + (2 : Int32)))), .val (.int (f_byte (own_el xs (x1 + (3 : Int32))) n (x1 + (3 : Int32)))), .unset] [(.int (f_cont (f_byte (own_el xs (x1 + (3 : Int32))) n (x1 + (3 : Int32)))))]
              by_cases c14 : (f_cont (f_byte (own_el xs (x1 + (3 : Int32))) n (x1 + (3 : Int32)))) = (0 : Int32)
              · refine g_ifN C 205 d2_202 (teq c14).2 rfl ?_
                refine g_iconst C 206 (0 : Int32) d2_205 rfl rfl ?_
                exact g_iret C d2_206 (by decide) (by decide) ⟨by rw [f_exp, if_neg c1, if_neg c2, if_neg c5, if_pos c11, if_neg c12, if_neg c13, if_pos c14], rfl⟩
              · refine g_ifY C 207 d2_202 (feq c14).2 (by decide) (by decide) ?_
                refine g_iloadN C 208 d2_207 rfl rfl ?_
                refine g_bipush C 210 (7 : Int32) d2_208 rfl rfl ?_
                refine g_iand C 211 d2_210 rfl ?_
                refine g_bipush C 213 (18 : Int32) d2_211 rfl rfl ?_
                refine g_ishl C 214 d2_213 rfl ?_
                refine g_iloadN C 215 d2_214 rfl rfl ?_
                refine g_bipush C 217 (63 : Int32) d2_215 rfl rfl ?_
                refine g_iand C 218 d2_217 rfl ?_
                refine g_bipush C 220 (12 : Int32) d2_218 rfl rfl ?_
                refine g_ishl C 221 d2_220 rfl ?_
                refine g_ior C 222 d2_221 rfl ?_
                refine g_iload C 224 d2_222 rfl rfl ?_
                refine g_bipush C 226 (63 : Int32) d2_224 rfl rfl ?_
                refine g_iand C 227 d2_226 rfl ?_
                refine g_bipush C 229 (6 : Int32) d2_227 rfl rfl ?_
                refine g_ishl C 230 d2_229 rfl ?_
                refine g_ior C 231 d2_230 rfl ?_
                refine g_iload C 233 d2_231 rfl rfl ?_
                refine g_bipush C 235 (63 : Int32) d2_233 rfl rfl ?_
                refine g_iand C 236 d2_235 rfl ?_
                refine g_ior C 237 d2_236 rfl ?_
                refine g_istore C 239 #[.val (.ref a), .val (.int x1), .val (.int ((own_el xs x1) &&& (255 : Int32))), .val (.int (f_byte (own_el xs (x1 + (1 : Int32))) n (x1 + (1 : Int32)))), .val (.int (f_byte (own_el xs (x1 + (2 : Int32))) n (x1 + (2 : Int32)))), .val (.int (f_byte (own_el xs (x1 + (3 : Int32))) n (x1 + (3 : Int32)))), .val (.int (((((((own_el xs x1) &&& (255 : Int32)) &&& (7 : Int32)) <<< ((18 : Int32) &&& 31)) ||| (((f_byte (own_el xs (x1 + (1 : Int32))) n (x1 + (1 : Int32))) &&& (63 : Int32)) <<< ((12 : Int32) &&& 31))) ||| (((f_byte (own_el xs (x1 + (2 : Int32))) n (x1 + (2 : Int32))) &&& (63 : Int32)) <<< ((6 : Int32) &&& 31))) ||| ((f_byte (own_el xs (x1 + (3 : Int32))) n (x1 + (3 : Int32))) &&& (63 : Int32))))] d2_237 rfl rfl ?_
                refine g_iload C 241 d2_239 rfl rfl ?_
                refine g_ldcI C 243 (65536 : Int32) d2_241 rfl (List.mem_of_getElem? (i := 17) rfl) ?_
                by_cases c15 : (((((((own_el xs x1) &&& (255 : Int32)) &&& (7 : Int32)) <<< ((18 : Int32) &&& 31)) ||| (((f_byte (own_el xs (x1 + (1 : Int32))) n (x1 + (1 : Int32))) &&& (63 : Int32)) <<< ((12 : Int32) &&& 31))) ||| (((f_byte (own_el xs (x1 + (2 : Int32))) n (x1 + (2 : Int32))) &&& (63 : Int32)) <<< ((6 : Int32) &&& 31))) ||| ((f_byte (own_el xs (x1 + (3 : Int32))) n (x1 + (3 : Int32))) &&& (63 : Int32))) < (65536 : Int32)
                · refine g_icY C 253 d2_243 (tlt c15).1 (by decide) (by decide) ?_
                  refine g_iconst C 254 (0 : Int32) d2_253 rfl rfl ?_
                  exact g_iret C d2_254 (by decide) (by decide) ⟨by rw [f_exp, if_neg c1, if_neg c2, if_neg c5, if_pos c11, if_neg c12, if_neg c13, if_neg c14, if_pos c15], rfl⟩
                · refine g_icN C 246 d2_243 (flt c15).1 rfl ?_
                  refine g_iload C 248 d2_246 rfl rfl ?_
                  refine g_ldcI C 250 (1114111 : Int32) d2_248 rfl (List.mem_of_getElem? (i := 18) rfl) ?_
                  by_cases c16 : (1114111 : Int32) < (((((((own_el xs x1) &&& (255 : Int32)) &&& (7 : Int32)) <<< ((18 : Int32) &&& 31)) ||| (((f_byte (own_el xs (x1 + (1 : Int32))) n (x1 + (1 : Int32))) &&& (63 : Int32)) <<< ((12 : Int32) &&& 31))) ||| (((f_byte (own_el xs (x1 + (2 : Int32))) n (x1 + (2 : Int32))) &&& (63 : Int32)) <<< ((6 : Int32) &&& 31))) ||| ((f_byte (own_el xs (x1 + (3 : Int32))) n (x1 + (3 : Int32))) &&& (63 : Int32)))
                  · refine g_icN C 253 d2_250 (tlt c16).2.2.2 rfl ?_
                    refine g_iconst C 254 (0 : Int32) d2_253 rfl rfl ?_
                    exact g_iret C d2_254 (by decide) (by decide) ⟨by rw [f_exp, if_neg c1, if_neg c2, if_neg c5, if_pos c11, if_neg c12, if_neg c13, if_neg c14, if_neg c15, if_pos c16], rfl⟩
                  · refine g_icY C 255 d2_250 (flt c16).2.2.2 (by decide) (by decide) ?_
                    refine g_iconst C 256 (4 : Int32) d2_255 rfl rfl ?_
                    exact g_iret C d2_256 (by decide) (by decide) ⟨by rw [f_exp, if_neg c1, if_neg c2, if_neg c5, if_pos c11, if_neg c12, if_neg c13, if_neg c14, if_neg c15, if_neg c16], rfl⟩
        · refine g_icY C 257 d2_179 (feq c11).2 (by decide) (by decide) ?_
          refine g_iconst C 258 (0 : Int32) d2_257 rfl rfl ?_
          exact g_iret C d2_258 (by decide) (by decide) ⟨by rw [f_exp, if_neg c1, if_neg c2, if_neg c5, if_neg c11], rfl⟩
theorem own_nat {z : Int32} {n : Nat} (h : z.toBitVec.toNat = n) (hn : n < 2147483648) : z.toInt = n := by
  show z.toBitVec.toInt = n
  rw [BitVec.toInt_eq_toNat_cond, h]; simp; omega
theorem own_n1 (x y : Int32) : (x ||| y).toBitVec.toNat = x.toBitVec.toNat ||| y.toBitVec.toNat := by simp
theorem own_n2 (x y : Int32) : (x &&& y).toBitVec.toNat = x.toBitVec.toNat &&& y.toBitVec.toNat := by simp
theorem own_sh6 (x : Int32) (h : x.toBitVec.toNat < 1024) : (x <<< ((6 : Int32) &&& 31)).toBitVec.toNat = x.toBitVec.toNat * 64 := by
  have e : (x <<< ((6 : Int32) &&& 31)).toBitVec = x.toBitVec <<< 6 := by
    rw [Int32.toBitVec_shiftLeft]; rfl
  rw [e, BitVec.toNat_shiftLeft, Nat.shiftLeft_eq, Nat.mod_eq_of_lt (by omega)]
theorem own_sh12 (x : Int32) (h : x.toBitVec.toNat < 1024) : (x <<< ((12 : Int32) &&& 31)).toBitVec.toNat = x.toBitVec.toNat * 4096 := by
  have e : (x <<< ((12 : Int32) &&& 31)).toBitVec = x.toBitVec <<< 12 := by
    rw [Int32.toBitVec_shiftLeft]; rfl
  rw [e, BitVec.toNat_shiftLeft, Nat.shiftLeft_eq, Nat.mod_eq_of_lt (by omega)]
theorem own_sh18 (x : Int32) (h : x.toBitVec.toNat < 1024) : (x <<< ((18 : Int32) &&& 31)).toBitVec.toNat = x.toBitVec.toNat * 262144 := by
  have e : (x <<< ((18 : Int32) &&& 31)).toBitVec = x.toBitVec <<< 18 := by
    rw [Int32.toBitVec_shiftLeft]; rfl
  rw [e, BitVec.toNat_shiftLeft, Nat.shiftLeft_eq, Nat.mod_eq_of_lt (by omega)]
theorem own_or (a b k : Nat) (h : b < 2 ^ k) : a * 2 ^ k ||| b = a * 2 ^ k + b := by
  rw [← Nat.shiftLeft_eq, Nat.shiftLeft_add_eq_or_of_lt h]
theorem own_and (x : Int32) (k : Nat) (m : Int32) (hm : m.toBitVec.toNat = 2 ^ k - 1) : (x &&& m).toBitVec.toNat = x.toBitVec.toNat % 2 ^ k := by
  rw [own_n2, hm, Nat.and_two_pow_sub_one_eq_mod]
theorem own_n8 (x : Int32) : ((1 : Int32) + (x &&& (7 : Int32))) = 1 ∨ ((1 : Int32) + (x &&& (7 : Int32))) = 2 ∨ ((1 : Int32) + (x &&& (7 : Int32))) = 3 ∨ ((1 : Int32) + (x &&& (7 : Int32))) = 4 ∨ ((1 : Int32) + (x &&& (7 : Int32))) = 5 ∨ ((1 : Int32) + (x &&& (7 : Int32))) = 6 ∨ ((1 : Int32) + (x &&& (7 : Int32))) = 7 ∨ ((1 : Int32) + (x &&& (7 : Int32))) = 8 := by
  obtain ⟨k, hk, e⟩ : ∃ k : Nat, k < 8 ∧ (x &&& 7) = Int32.ofNat k := by
    refine ⟨(x &&& 7).toBitVec.toNat, ?_, ?_⟩
    · rw [own_and x 3 7 rfl]; omega
    · apply Int32.toBitVec_inj.mp
      apply BitVec.eq_of_toNat_eq
      simp
  rw [e]
  match k, hk with
  | 0, _ | 1, _ | 2, _ | 3, _ | 4, _ | 5, _ | 6, _ | 7, _ => decide
theorem own_at (x m : Int32) (hm : 0 < m.toInt) : 0 ≤ (((x.toUInt32 >>> ((3 : Int32) &&& 31).toUInt32).toInt32) % m).toInt ∧ (((x.toUInt32 >>> ((3 : Int32) &&& 31).toUInt32).toInt32) % m).toInt < m.toInt := by
  have e : (((x.toUInt32 >>> ((3 : Int32) &&& 31).toUInt32).toInt32)).toBitVec = x.toBitVec >>> 3 := by
    simp [UInt32.toBitVec_shiftRight]
  have h0 : 0 ≤ (((x.toUInt32 >>> ((3 : Int32) &&& 31).toUInt32).toInt32)).toInt := by
    have hb := x.toBitVec.isLt
    rw [own_nat (n := x.toBitVec.toNat / 8) (by rw [e, BitVec.toNat_ushiftRight, Nat.shiftRight_eq_div_pow]) (by omega)]
    exact Int.natCast_nonneg _
  generalize ((x.toUInt32 >>> ((3 : Int32) &&& 31).toUInt32).toInt32) = y at *
  rw [Int32.toInt_mod, Int.tmod_eq_emod_of_nonneg h0]
  exact ⟨Int.emod_nonneg _ (by omega), Int.emod_lt_of_pos _ hm⟩
theorem own_cls : ∀ k : Fin 256, ((Int32.ofNat k.val &&& (128 : Int32) = (0 : Int32)) ↔ k.val < 128) ∧ ((Int32.ofNat k.val &&& (224 : Int32) = (192 : Int32)) ↔ 192 ≤ k.val ∧ k.val ≤ 223) ∧ ((Int32.ofNat k.val &&& (240 : Int32) = (224 : Int32)) ↔ 224 ≤ k.val ∧ k.val ≤ 239) ∧ ((Int32.ofNat k.val &&& (248 : Int32) = (240 : Int32)) ↔ 240 ≤ k.val ∧ k.val ≤ 247) ∧ (f_cont (Int32.ofNat k.val) = 0 ↔ ¬ (128 ≤ k.val ∧ k.val ≤ 191)) := by decide +kernel
theorem own_b (b : Int32) : ∃ k : Fin 256, (b &&& (255 : Int32)) = Int32.ofNat k.val ∧ (b &&& (255 : Int32)).toBitVec.toNat = k.val ∧ (b &&& (255 : Int32)).toInt = k.val := by
  have h := own_and b 8 255 rfl
  have hl : (b &&& (255 : Int32)).toBitVec.toNat < 256 := by rw [h]; omega
  refine ⟨⟨_, hl⟩, ?_, rfl, own_nat rfl (by omega)⟩
  apply Int32.toBitVec_inj.mp
  apply BitVec.eq_of_toNat_eq
  simp
theorem own_cp2 {u v : Int32} {a b : Nat} (hu : u.toBitVec.toNat = a) (hv : v.toBitVec.toNat = b) : (((u &&& (31 : Int32)) <<< ((6 : Int32) &&& 31)) ||| (v &&& (63 : Int32))).toInt = ((a % 32) * 64 + b % 64 : Nat) := by
  apply own_nat _ (by omega)
  have e1 := own_and u 5 31 rfl
  have e2 := own_and v 6 63 rfl
  rw [own_n1, own_sh6 _ (by omega), e1, e2, hu, hv]
  exact own_or (a % 32) (b % 64) 6 (by omega)
theorem own_cp3 {u v w : Int32} {a b d : Nat} (hu : u.toBitVec.toNat = a) (hv : v.toBitVec.toNat = b) (hw : w.toBitVec.toNat = d) : ((((u &&& (15 : Int32)) <<< ((12 : Int32) &&& 31)) ||| ((v &&& (63 : Int32)) <<< ((6 : Int32) &&& 31))) ||| (w &&& (63 : Int32))).toInt = ((a % 16) * 4096 + (b % 64) * 64 + d % 64 : Nat) := by
  apply own_nat _ (by omega)
  have e1 := own_and u 4 15 rfl
  have e2 := own_and v 6 63 rfl
  have e3 := own_and w 6 63 rfl
  rw [own_n1, own_n1, own_sh12 _ (by omega), own_sh6 _ (by omega), e1, e2, e3, hu, hv, hw]
  rw [show (a % 2 ^ 4) * 4096 = (a % 2 ^ 4) * 2 ^ 12 from rfl, own_or _ _ 12 (by omega), show (a % 2 ^ 4) * 2 ^ 12 + (b % 2 ^ 6) * 64 = ((a % 2 ^ 4) * 64 + b % 2 ^ 6) * 2 ^ 6 from by omega, own_or _ _ 6 (by omega)]
theorem own_cp4 {u v w t : Int32} {a b d g : Nat} (hu : u.toBitVec.toNat = a) (hv : v.toBitVec.toNat = b) (hw : w.toBitVec.toNat = d) (ht : t.toBitVec.toNat = g) : (((((u &&& (7 : Int32)) <<< ((18 : Int32) &&& 31)) ||| ((v &&& (63 : Int32)) <<< ((12 : Int32) &&& 31))) ||| ((w &&& (63 : Int32)) <<< ((6 : Int32) &&& 31))) ||| (t &&& (63 : Int32))).toInt = ((a % 8) * 262144 + (b % 64) * 4096 + (d % 64) * 64 + g % 64 : Nat) := by
  apply own_nat _ (by omega)
  have e1 := own_and u 3 7 rfl
  have e2 := own_and v 6 63 rfl
  have e3 := own_and w 6 63 rfl
  have e4 := own_and t 6 63 rfl
  rw [own_n1, own_n1, own_n1, own_sh18 _ (by omega), own_sh12 _ (by omega), own_sh6 _ (by omega), e1, e2, e3, e4, hu, hv, hw, ht]
  rw [show (a % 2 ^ 3) * 262144 = (a % 2 ^ 3) * 2 ^ 18 from rfl, own_or _ _ 18 (by omega), show (a % 2 ^ 3) * 2 ^ 18 + (b % 2 ^ 6) * 4096 = ((a % 2 ^ 3) * 64 + b % 2 ^ 6) * 2 ^ 12 from by omega, own_or _ _ 12 (by omega), show ((a % 2 ^ 3) * 64 + b % 2 ^ 6) * 2 ^ 12 + (d % 2 ^ 6) * 64 = (((a % 2 ^ 3) * 64 + b % 2 ^ 6) * 64 + d % 2 ^ 6) * 2 ^ 6 from by omega, own_or _ _ 6 (by omega)]
set_option maxRecDepth 100000 in
set_option maxHeartbeats 40000000 in
theorem own_law (b0 b1 b2 b3 n x : Int32) (h1 : 0 ≤ x.toInt) (h2 : x.toInt < n.toInt) (h3 : n.toInt ≤ 8) : f_u8 b0 b1 b2 b3 n x = f_exp b0 b1 b2 b3 n x := by
  obtain ⟨k0, e0, t0, i0⟩ := own_b b0
  obtain ⟨k1, e1, t1, i1⟩ := own_b b1
  obtain ⟨k2, e2, t2, i2⟩ := own_b b2
  obtain ⟨k3, e3, t3, i3⟩ := own_b b3
  have a0 : (x + (0 : Int32)).toInt = x.toInt + 0 := own_add h1 (by omega) (by decide) (by decide)
  have a1 : (x + (1 : Int32)).toInt = x.toInt + 1 := own_add h1 (by omega) (by decide) (by decide)
  have a2 : (x + (2 : Int32)).toInt = x.toInt + 2 := own_add h1 (by omega) (by decide) (by decide)
  have a3 : (x + (3 : Int32)).toInt = x.toInt + 3 := own_add h1 (by omega) (by decide) (by decide)
  have a4 : (x + (4 : Int32)).toInt = x.toInt + 4 := own_add h1 (by omega) (by decide) (by decide)
  obtain ⟨q1, q2, q3, q4, -⟩ := own_cls k0
  have c1 := (own_cls k1).2.2.2.2
  have c2 := (own_cls k2).2.2.2.2
  have c3 := (own_cls k3).2.2.2.2
  rw [← e0] at q1 q2 q3 q4
  rw [← e1] at c1
  rw [← e2] at c2
  rw [← e3] at c3
  have p2 := own_cp2 (v := b1 &&& (255 : Int32)) t0 t1
  have p3 := own_cp3 (v := b1 &&& (255 : Int32)) (w := b2 &&& (255 : Int32)) t0 t1 t2
  have p4 := own_cp4 (v := b1 &&& (255 : Int32)) (w := b2 &&& (255 : Int32)) (t := b3 &&& (255 : Int32)) t0 t1 t2 t3
  have z : f_cont (-1 : Int32) = 0 := by decide
  have l0 := k0.isLt
  have l1 := k1.isLt
  have l2 := k2.isLt
  have l3 := k3.isLt
  unfold f_u8 f_exp f_byte
  have eqi : ∀ (y : Int32) (m : Int32), (y = m) ↔ y.toInt = m.toInt := fun y m => Int32.toInt_inj.symm
  simp only [q1, q2, q3, q4, Int32.lt_iff_toInt_lt, eqi (b0 &&& (255 : Int32)), i0, i1, i2, i3, a0, a1, a2, a3, a4, Int32.reduceToInt]
  by_cases r1 : x.toInt + 1 < n.toInt
  · simp only [if_pos r1, c1, p2]
    by_cases r2 : x.toInt + 2 < n.toInt
    · simp only [if_pos r2, c2, p3]
      by_cases r3 : x.toInt + 3 < n.toInt
      · simp only [if_pos r3, c3, p4]
        clear q1 q2 q3 q4 c1 c2 c3 p2 p3 p4 e0 e1 e2 e3 t0 t1 t2 t3 eqi i0 i1 i2 i3 a0 a1 a2 a3 a4 z
        generalize x.toInt = X at *
        generalize n.toInt = N at *
        by_cases g1 : (k0.val : Int) < 128
        · have s1 : k0.val < 128 := by omega
          simp only [g1, s1, if_true]
          repeat' (split <;> try (exfalso; omega))
          all_goals rfl
        · have s1 : ¬ k0.val < 128 := by omega
          simp only [g1, s1, if_false]
          by_cases g2 : (k0.val : Int) < 194
          · have n3 : ¬ (224 ≤ k0.val ∧ k0.val ≤ 239) := by omega
            have n4 : ¬ (240 ≤ k0.val ∧ k0.val ≤ 247) := by omega
            simp only [g2, n3, n4, if_true, if_false]
            repeat' (split <;> try (exfalso; omega))
            all_goals rfl
          · simp only [g2, if_false]
            by_cases g3 : (223 : Int) < k0.val
            · have n2 : ¬ (192 ≤ k0.val ∧ k0.val ≤ 223) := by omega
              simp only [g3, n2, if_true, if_false]
              by_cases g4 : (239 : Int) < k0.val
              · have n3 : ¬ (224 ≤ k0.val ∧ k0.val ≤ 239) := by omega
                simp only [g4, n3, if_true, if_false]
                by_cases g5 : (244 : Int) < k0.val
                · simp only [g5, if_true]
                  repeat' (split <;> try (exfalso; omega))
                  all_goals rfl
                · have n4 : (240 ≤ k0.val ∧ k0.val ≤ 247) := by omega
                  simp only [g5, n4, and_self, if_true, if_false]
                  repeat' (split <;> try (exfalso; omega))
                  all_goals rfl
              · have n3 : (224 ≤ k0.val ∧ k0.val ≤ 239) := by omega
                simp only [g4, n3, and_self, if_true, if_false]
                repeat' (split <;> try (exfalso; omega))
                all_goals rfl
            · have n2 : (192 ≤ k0.val ∧ k0.val ≤ 223) := by omega
              simp only [g3, n2, and_self, if_true, if_false]
              repeat' (split <;> try (exfalso; omega))
              all_goals rfl
      · simp only [if_neg r3, z, if_true]
        clear q1 q2 q3 q4 c1 c2 c3 p2 p3 p4 e0 e1 e2 e3 t0 t1 t2 t3 eqi i0 i1 i2 i3 a0 a1 a2 a3 a4 z
        generalize x.toInt = X at *
        generalize n.toInt = N at *
        by_cases g1 : (k0.val : Int) < 128
        · have s1 : k0.val < 128 := by omega
          simp only [g1, s1, if_true]
          repeat' (split <;> try (exfalso; omega))
          all_goals rfl
        · have s1 : ¬ k0.val < 128 := by omega
          simp only [g1, s1, if_false]
          by_cases g2 : (k0.val : Int) < 194
          · have n3 : ¬ (224 ≤ k0.val ∧ k0.val ≤ 239) := by omega
            have n4 : ¬ (240 ≤ k0.val ∧ k0.val ≤ 247) := by omega
            simp only [g2, n3, n4, if_true, if_false]
            repeat' (split <;> try (exfalso; omega))
            all_goals rfl
          · simp only [g2, if_false]
            by_cases g3 : (223 : Int) < k0.val
            · have n2 : ¬ (192 ≤ k0.val ∧ k0.val ≤ 223) := by omega
              simp only [g3, n2, if_true, if_false]
              by_cases g4 : (239 : Int) < k0.val
              · have n3 : ¬ (224 ≤ k0.val ∧ k0.val ≤ 239) := by omega
                simp only [g4, n3, if_true, if_false]
                by_cases g5 : (244 : Int) < k0.val
                · simp only [g5, if_true]
                  repeat' (split <;> try (exfalso; omega))
                  all_goals rfl
                · have n4 : (240 ≤ k0.val ∧ k0.val ≤ 247) := by omega
                  simp only [g5, n4, and_self, if_true, if_false]
                  repeat' (split <;> try (exfalso; omega))
                  all_goals rfl
              · have n3 : (224 ≤ k0.val ∧ k0.val ≤ 239) := by omega
                simp only [g4, n3, and_self, if_true, if_false]
                repeat' (split <;> try (exfalso; omega))
                all_goals rfl
            · have n2 : (192 ≤ k0.val ∧ k0.val ≤ 223) := by omega
              simp only [g3, n2, and_self, if_true, if_false]
              repeat' (split <;> try (exfalso; omega))
              all_goals rfl
    · have r3 : ¬ x.toInt + 3 < n.toInt := by omega
      simp only [if_neg r2, if_neg r3, z, if_true]
      clear q1 q2 q3 q4 c1 c2 c3 p2 p3 p4 e0 e1 e2 e3 t0 t1 t2 t3 eqi i0 i1 i2 i3 a0 a1 a2 a3 a4 z
      generalize x.toInt = X at *
      generalize n.toInt = N at *
      by_cases g1 : (k0.val : Int) < 128
      · have s1 : k0.val < 128 := by omega
        simp only [g1, s1, if_true]
        repeat' (split <;> try (exfalso; omega))
        all_goals rfl
      · have s1 : ¬ k0.val < 128 := by omega
        simp only [g1, s1, if_false]
        by_cases g2 : (k0.val : Int) < 194
        · have n3 : ¬ (224 ≤ k0.val ∧ k0.val ≤ 239) := by omega
          have n4 : ¬ (240 ≤ k0.val ∧ k0.val ≤ 247) := by omega
          simp only [g2, n3, n4, if_true, if_false]
          repeat' (split <;> try (exfalso; omega))
          all_goals rfl
        · simp only [g2, if_false]
          by_cases g3 : (223 : Int) < k0.val
          · have n2 : ¬ (192 ≤ k0.val ∧ k0.val ≤ 223) := by omega
            simp only [g3, n2, if_true, if_false]
            by_cases g4 : (239 : Int) < k0.val
            · have n3 : ¬ (224 ≤ k0.val ∧ k0.val ≤ 239) := by omega
              simp only [g4, n3, if_true, if_false]
              by_cases g5 : (244 : Int) < k0.val
              · simp only [g5, if_true]
                repeat' (split <;> try (exfalso; omega))
                all_goals rfl
              · have n4 : (240 ≤ k0.val ∧ k0.val ≤ 247) := by omega
                simp only [g5, n4, and_self, if_true, if_false]
                repeat' (split <;> try (exfalso; omega))
                all_goals rfl
            · have n3 : (224 ≤ k0.val ∧ k0.val ≤ 239) := by omega
              simp only [g4, n3, and_self, if_true, if_false]
              repeat' (split <;> try (exfalso; omega))
              all_goals rfl
          · have n2 : (192 ≤ k0.val ∧ k0.val ≤ 223) := by omega
            simp only [g3, n2, and_self, if_true, if_false]
            repeat' (split <;> try (exfalso; omega))
            all_goals rfl
  · have r2 : ¬ x.toInt + 2 < n.toInt := by omega
    have r3 : ¬ x.toInt + 3 < n.toInt := by omega
    simp only [if_neg r1, if_neg r2, if_neg r3, z, if_true]
    clear q1 q2 q3 q4 c1 c2 c3 p2 p3 p4 e0 e1 e2 e3 t0 t1 t2 t3 eqi i0 i1 i2 i3 a0 a1 a2 a3 a4 z
    generalize x.toInt = X at *
    generalize n.toInt = N at *
    by_cases g1 : (k0.val : Int) < 128
    · have s1 : k0.val < 128 := by omega
      simp only [g1, s1, if_true]
      repeat' (split <;> try (exfalso; omega))
      all_goals rfl
    · have s1 : ¬ k0.val < 128 := by omega
      simp only [g1, s1, if_false]
      by_cases g2 : (k0.val : Int) < 194
      · have n3 : ¬ (224 ≤ k0.val ∧ k0.val ≤ 239) := by omega
        have n4 : ¬ (240 ≤ k0.val ∧ k0.val ≤ 247) := by omega
        simp only [g2, n3, n4, if_true, if_false]
        repeat' (split <;> try (exfalso; omega))
        all_goals rfl
      · simp only [g2, if_false]
        by_cases g3 : (223 : Int) < k0.val
        · have n2 : ¬ (192 ≤ k0.val ∧ k0.val ≤ 223) := by omega
          simp only [g3, n2, if_true, if_false]
          by_cases g4 : (239 : Int) < k0.val
          · have n3 : ¬ (224 ≤ k0.val ∧ k0.val ≤ 239) := by omega
            simp only [g4, n3, if_true, if_false]
            by_cases g5 : (244 : Int) < k0.val
            · simp only [g5, if_true]
              repeat' (split <;> try (exfalso; omega))
              all_goals rfl
            · have n4 : (240 ≤ k0.val ∧ k0.val ≤ 247) := by omega
              simp only [g5, n4, and_self, if_true, if_false]
              repeat' (split <;> try (exfalso; omega))
              all_goals rfl
          · have n3 : (224 ≤ k0.val ∧ k0.val ≤ 239) := by omega
            simp only [g4, n3, and_self, if_true, if_false]
            repeat' (split <;> try (exfalso; omega))
            all_goals rfl
        · have n2 : (192 ≤ k0.val ∧ k0.val ≤ 223) := by omega
          simp only [g3, n2, and_self, if_true, if_false]
          repeat' (split <;> try (exfalso; omega))
          all_goals rfl

set_option maxRecDepth 65536 in
set_option maxHeartbeats 40000000 in
theorem con_law (l : Launch) (Z : State) (a0 : Array Value) (hw : ∀ d ∈ tables_1, d.before a0 Z = true) (h0 : Heap) (x0 x1 x2 : Int32)  :
    Con l Z x code maxLocals ret room_1 h0 #[(.int x0), (.int x1), (.int x2)] [] (fun v ds' => v = some (.int 1)) := by
  refine con_of (a0 := a0) (Ls := #[.val (.int x0), .val (.int x1), .val (.int x2), .unset, .unset, .unset, .unset]) (plainFor_of_name (by first | (simp [plainName, overriddenIn]; done) | decide +kernel)) hw (fun m => by first | (simp [entryFrame, mkF, argsToLocals, Value.category, maxLocals]; done) | rfl) ?_
  intro p e s m below meth c C
  refine g_iconst C 1 (1 : Int32) at_0 rfl rfl ?_
  refine g_iloadN C 2 at_1 rfl rfl ?_
  refine g_bipush C 4 (7 : Int32) at_2 rfl rfl ?_
  refine g_iand C 5 at_4 rfl ?_
  refine g_iadd C 6 at_5 rfl ?_
  rcases own_n8 x2 with hn8 | hn8 | hn8 | hn8 | hn8 | hn8 | hn8 | hn8
  · rw [hn8]
    refine g_istoreN C 7 #[.val (.int x0), .val (.int x1), .val (.int x2), .val (.int (1 : Int32)), .unset, .unset, .unset] at_6 rfl rfl ?_
    refine g_iloadN C 8 at_7 rfl rfl ?_
    refine g_iconst C 9 (3 : Int32) at_8 rfl rfl ?_
    refine g_iushr C 10 at_9 rfl ?_
    refine g_iloadN C 11 at_10 rfl rfl ?_
    refine g_irem C 12 at_11 rfl (by decide) ?_
    refine g_istore C 14 #[.val (.int x0), .val (.int x1), .val (.int x2), .val (.int (1 : Int32)), .val (.int (((x2.toUInt32 >>> ((3 : Int32) &&& 31).toUInt32).toInt32) % (1 : Int32))), .unset, .unset] at_12 rfl rfl ?_
    generalize hv1 : (((x2.toUInt32 >>> ((3 : Int32) &&& 31).toUInt32).toInt32) % (1 : Int32)) = v1
    refine g_iloadN C 15 at_14 rfl rfl ?_
    refine g_newarray C 17 (ints [(0 : Int32)]) 1 (List.mem_of_getElem? (i := 0) rfl) at_15 rfl (by decide) (by decide) (by decide) (by decide) (by decide) rfl ?_
    intro a2
    show Go _ _ _ _ _ _ _ _ _ _ _ _ [(a2, IA Z .byte (ints [(0 : Int32)]))] 1 1 17 #[.val (.int x0), .val (.int x1), .val (.int x2), .val (.int (1 : Int32)), .val (.int v1), .unset, .unset] [(.ref a2)]
    refine g_astore C 19 #[.val (.int x0), .val (.int x1), .val (.int x2), .val (.int (1 : Int32)), .val (.int v1), .val (.ref a2), .unset] at_17 rfl rfl rfl ?_
    refine g_aload C 21 at_19 rfl rfl rfl ?_
    refine g_iconst C 22 (0 : Int32) at_21 rfl rfl ?_
    refine g_iloadN C 23 at_22 rfl rfl ?_
    refine g_i2b C 24 at_23 rfl ?_
    refine g_bastore C 25 (i := 0) [(nar .byte (x0.toInt8.toInt32))] [(a2, IA Z .byte (ints [(nar .byte (x0.toInt8.toInt32))]))] rfl at_24 rfl (by decide) (Nat.le_of_ble_eq_true rfl) rfl rfl ?_
    generalize hb3 : (nar .byte (x0.toInt8.toInt32)) = b3
    refine g_iloadN C 26 at_25 rfl rfl ?_
    refine g_iconst C 27 (1 : Int32) at_26 rfl rfl ?_
    refine g_icY C 39 at_27 (flt ((by decide) : ¬ ((1 : Int32) < (1 : Int32)))).2.2.2 (by decide) (by decide) ?_
    refine g_iloadN C 40 at_39 rfl rfl ?_
    refine g_iconst C 41 (2 : Int32) at_40 rfl rfl ?_
    refine g_icY C 53 at_41 (flt ((by decide) : ¬ ((2 : Int32) < (1 : Int32)))).2.2.2 (by decide) (by decide) ?_
    refine g_iloadN C 54 at_53 rfl rfl ?_
    refine g_iconst C 55 (3 : Int32) at_54 rfl rfl ?_
    refine g_icY C 67 at_55 (flt ((by decide) : ¬ ((3 : Int32) < (1 : Int32)))).2.2.2 (by decide) (by decide) ?_
    refine g_iloadN C 68 at_67 rfl rfl ?_
    refine g_iconst C 69 (4 : Int32) at_68 rfl rfl ?_
    refine g_icY C 78 at_69 (flt ((by decide) : ¬ ((4 : Int32) < (1 : Int32)))).2.2.2 (by decide) (by decide) ?_
    refine g_iloadN C 79 at_78 rfl rfl ?_
    refine g_iconst C 80 (5 : Int32) at_79 rfl rfl ?_
    refine g_icY C 92 at_80 (flt ((by decide) : ¬ ((5 : Int32) < (1 : Int32)))).2.2.2 (by decide) (by decide) ?_
    refine g_iloadN C 93 at_92 rfl rfl ?_
    refine g_bipush C 95 (6 : Int32) at_93 rfl rfl ?_
    refine g_icY C 108 at_95 (flt ((by decide) : ¬ ((6 : Int32) < (1 : Int32)))).2.2.2 (by decide) (by decide) ?_
    refine g_iloadN C 109 at_108 rfl rfl ?_
    refine g_bipush C 111 (7 : Int32) at_109 rfl rfl ?_
    refine g_icY C 124 at_111 (flt ((by decide) : ¬ ((7 : Int32) < (1 : Int32)))).2.2.2 (by decide) (by decide) ?_
    refine g_aload C 126 at_124 rfl rfl rfl ?_
    refine g_iload C 128 at_126 rfl rfl ?_
    refine g_static C 131 0 (argsL := [(.ref a2), (.int v1)]) (St := []) (con_f_u8 l Z a0 C.2.2.1 h0 [(a2, IA Z .byte (ints [b3]))] 0 a2 [b3] (1 : Int32) v1 rfl (by subst hv1; exact (own_at _ _ (by decide)).1) (by subst hv1; exact Int.lt_of_lt_of_le (own_at _ _ (by decide)).2 (by show (1 : Int32).toInt ≤ ((1 : Nat) : Int); decide)) (Nat.le_of_ble_eq_true rfl) rfl) (List.mem_of_getElem? (i := 1) rfl) (List.mem_of_getElem? (i := 2) rfl) (List.mem_of_getElem? (i := 3) rfl) (List.mem_of_getElem? (i := 4) rfl) (by decide) at_128 rfl rfl (lenOf (ps := [(.array .byte), .int]) (r := some .int) (by decide) rfl) rfl (Nat.le_of_eq rfl) (by decide) (by decide) (by decide) (by decide) ?_
    rintro _ _ ⟨rfl, rfl⟩
    show Go _ _ _ _ _ _ _ _ _ _ _ _ [(a2, IA Z .byte (ints [b3]))] 1 1 131 #[.val (.int x0), .val (.int x1), .val (.int x2), .val (.int (1 : Int32)), .val (.int v1), .val (.ref a2), .unset] [(.int (f_u8 (own_el [b3] v1) (own_el [b3] (v1 + (1 : Int32))) (own_el [b3] (v1 + (2 : Int32))) (own_el [b3] (v1 + (3 : Int32))) (1 : Int32) v1))]
    refine g_istore C 133 #[.val (.int x0), .val (.int x1), .val (.int x2), .val (.int (1 : Int32)), .val (.int v1), .val (.ref a2), .val (.int (f_u8 (own_el [b3] v1) (own_el [b3] (v1 + (1 : Int32))) (own_el [b3] (v1 + (2 : Int32))) (own_el [b3] (v1 + (3 : Int32))) (1 : Int32) v1))] at_131 rfl rfl ?_
    generalize hv4 : (f_u8 (own_el [b3] v1) (own_el [b3] (v1 + (1 : Int32))) (own_el [b3] (v1 + (2 : Int32))) (own_el [b3] (v1 + (3 : Int32))) (1 : Int32) v1) = v4
    refine g_iload C 135 at_133 rfl rfl ?_
    refine g_aload C 137 at_135 rfl rfl rfl ?_
    refine g_iload C 139 at_137 rfl rfl ?_
    refine g_static C 142 1 (argsL := [(.ref a2), (.int v1)]) (St := [(.int v4)]) (con_f_exp l Z a0 C.2.2.1 h0 [(a2, IA Z .byte (ints [b3]))] 0 a2 [b3] (1 : Int32) v1 rfl (by subst hv1; exact (own_at _ _ (by decide)).1) (by subst hv1; exact Int.lt_of_lt_of_le (own_at _ _ (by decide)).2 (by show (1 : Int32).toInt ≤ ((1 : Nat) : Int); decide)) (Nat.le_of_ble_eq_true rfl) rfl) (List.mem_of_getElem? (i := 5) rfl) (List.mem_of_getElem? (i := 6) rfl) (List.mem_of_getElem? (i := 7) rfl) (List.mem_of_getElem? (i := 8) rfl) (by decide) at_139 rfl rfl (lenOf (ps := [(.array .byte), .int]) (r := some .int) (by decide) rfl) rfl (Nat.le_of_eq rfl) (by decide) (by decide) (by decide) (by decide) ?_
    rintro _ _ ⟨rfl, rfl⟩
    show Go _ _ _ _ _ _ _ _ _ _ _ _ [(a2, IA Z .byte (ints [b3]))] 1 1 142 #[.val (.int x0), .val (.int x1), .val (.int x2), .val (.int (1 : Int32)), .val (.int v1), .val (.ref a2), .val (.int v4)] [(.int (f_exp (own_el [b3] v1) (own_el [b3] (v1 + (1 : Int32))) (own_el [b3] (v1 + (2 : Int32))) (own_el [b3] (v1 + (3 : Int32))) (1 : Int32) v1)), (.int v4)]
    refine g_icN C 145 at_142 (teq ((by subst_vars; exact own_law _ _ _ _ _ _ (own_at _ _ (by decide)).1 (by exact Int.lt_of_lt_of_le (own_at _ _ (by decide)).2 (by decide)) (by decide)) : v4 = (f_exp (own_el [b3] v1) (own_el [b3] (v1 + (1 : Int32))) (own_el [b3] (v1 + (2 : Int32))) (own_el [b3] (v1 + (3 : Int32))) (1 : Int32) v1))).2 rfl ?_
    refine g_iconst C 146 (1 : Int32) at_145 rfl rfl ?_
    refine g_goto C 150 at_146 (by decide) (by decide) ?_
    exact g_nret C (by simp) (z' := (1 : Int32)) (by decide) at_150 (by decide) (by decide) rfl
  · rw [hn8]
    refine g_istoreN C 7 #[.val (.int x0), .val (.int x1), .val (.int x2), .val (.int (2 : Int32)), .unset, .unset, .unset] at_6 rfl rfl ?_
    refine g_iloadN C 8 at_7 rfl rfl ?_
    refine g_iconst C 9 (3 : Int32) at_8 rfl rfl ?_
    refine g_iushr C 10 at_9 rfl ?_
    refine g_iloadN C 11 at_10 rfl rfl ?_
    refine g_irem C 12 at_11 rfl (by decide) ?_
    refine g_istore C 14 #[.val (.int x0), .val (.int x1), .val (.int x2), .val (.int (2 : Int32)), .val (.int (((x2.toUInt32 >>> ((3 : Int32) &&& 31).toUInt32).toInt32) % (2 : Int32))), .unset, .unset] at_12 rfl rfl ?_
    generalize hv5 : (((x2.toUInt32 >>> ((3 : Int32) &&& 31).toUInt32).toInt32) % (2 : Int32)) = v5
    refine g_iloadN C 15 at_14 rfl rfl ?_
    refine g_newarray C 17 (ints [(0 : Int32), (0 : Int32)]) 2 (List.mem_of_getElem? (i := 0) rfl) at_15 rfl (by decide) (by decide) (by decide) (by decide) (by decide) rfl ?_
    intro a6
    show Go _ _ _ _ _ _ _ _ _ _ _ _ [(a6, IA Z .byte (ints [(0 : Int32), (0 : Int32)]))] 1 2 17 #[.val (.int x0), .val (.int x1), .val (.int x2), .val (.int (2 : Int32)), .val (.int v5), .unset, .unset] [(.ref a6)]
    refine g_astore C 19 #[.val (.int x0), .val (.int x1), .val (.int x2), .val (.int (2 : Int32)), .val (.int v5), .val (.ref a6), .unset] at_17 rfl rfl rfl ?_
    refine g_aload C 21 at_19 rfl rfl rfl ?_
    refine g_iconst C 22 (0 : Int32) at_21 rfl rfl ?_
    refine g_iloadN C 23 at_22 rfl rfl ?_
    refine g_i2b C 24 at_23 rfl ?_
    refine g_bastore C 25 (i := 0) [(nar .byte (x0.toInt8.toInt32)), (0 : Int32)] [(a6, IA Z .byte (ints [(nar .byte (x0.toInt8.toInt32)), (0 : Int32)]))] rfl at_24 rfl (by decide) (Nat.le_of_ble_eq_true rfl) rfl rfl ?_
    generalize hb7 : (nar .byte (x0.toInt8.toInt32)) = b7
    refine g_iloadN C 26 at_25 rfl rfl ?_
    refine g_iconst C 27 (1 : Int32) at_26 rfl rfl ?_
    refine g_icN C 30 at_27 (tlt ((by decide) : (1 : Int32) < (2 : Int32))).2.2.2 rfl ?_
    refine g_aload C 32 at_30 rfl rfl rfl ?_
    refine g_iconst C 33 (1 : Int32) at_32 rfl rfl ?_
    refine g_iloadN C 34 at_33 rfl rfl ?_
    refine g_bipush C 36 (8 : Int32) at_34 rfl rfl ?_
    refine g_iushr C 37 at_36 rfl ?_
    refine g_i2b C 38 at_37 rfl ?_
    refine g_bastore C 39 (i := 0) [b7, (nar .byte (((x0.toUInt32 >>> ((8 : Int32) &&& 31).toUInt32).toInt32).toInt8.toInt32))] [(a6, IA Z .byte (ints [b7, (nar .byte (((x0.toUInt32 >>> ((8 : Int32) &&& 31).toUInt32).toInt32).toInt8.toInt32))]))] rfl at_38 rfl (by decide) (Nat.le_of_ble_eq_true rfl) rfl rfl ?_
    generalize hb8 : (nar .byte (((x0.toUInt32 >>> ((8 : Int32) &&& 31).toUInt32).toInt32).toInt8.toInt32)) = b8
    refine g_iloadN C 40 at_39 rfl rfl ?_
    refine g_iconst C 41 (2 : Int32) at_40 rfl rfl ?_
    refine g_icY C 53 at_41 (flt ((by decide) : ¬ ((2 : Int32) < (2 : Int32)))).2.2.2 (by decide) (by decide) ?_
    refine g_iloadN C 54 at_53 rfl rfl ?_
    refine g_iconst C 55 (3 : Int32) at_54 rfl rfl ?_
    refine g_icY C 67 at_55 (flt ((by decide) : ¬ ((3 : Int32) < (2 : Int32)))).2.2.2 (by decide) (by decide) ?_
    refine g_iloadN C 68 at_67 rfl rfl ?_
    refine g_iconst C 69 (4 : Int32) at_68 rfl rfl ?_
    refine g_icY C 78 at_69 (flt ((by decide) : ¬ ((4 : Int32) < (2 : Int32)))).2.2.2 (by decide) (by decide) ?_
    refine g_iloadN C 79 at_78 rfl rfl ?_
    refine g_iconst C 80 (5 : Int32) at_79 rfl rfl ?_
    refine g_icY C 92 at_80 (flt ((by decide) : ¬ ((5 : Int32) < (2 : Int32)))).2.2.2 (by decide) (by decide) ?_
    refine g_iloadN C 93 at_92 rfl rfl ?_
    refine g_bipush C 95 (6 : Int32) at_93 rfl rfl ?_
    refine g_icY C 108 at_95 (flt ((by decide) : ¬ ((6 : Int32) < (2 : Int32)))).2.2.2 (by decide) (by decide) ?_
    refine g_iloadN C 109 at_108 rfl rfl ?_
    refine g_bipush C 111 (7 : Int32) at_109 rfl rfl ?_
    refine g_icY C 124 at_111 (flt ((by decide) : ¬ ((7 : Int32) < (2 : Int32)))).2.2.2 (by decide) (by decide) ?_
    refine g_aload C 126 at_124 rfl rfl rfl ?_
    refine g_iload C 128 at_126 rfl rfl ?_
    refine g_static C 131 0 (argsL := [(.ref a6), (.int v5)]) (St := []) (con_f_u8 l Z a0 C.2.2.1 h0 [(a6, IA Z .byte (ints [b7, b8]))] 0 a6 [b7, b8] (2 : Int32) v5 rfl (by subst hv5; exact (own_at _ _ (by decide)).1) (by subst hv5; exact Int.lt_of_lt_of_le (own_at _ _ (by decide)).2 (by show (2 : Int32).toInt ≤ ((2 : Nat) : Int); decide)) (Nat.le_of_ble_eq_true rfl) rfl) (List.mem_of_getElem? (i := 1) rfl) (List.mem_of_getElem? (i := 2) rfl) (List.mem_of_getElem? (i := 3) rfl) (List.mem_of_getElem? (i := 4) rfl) (by decide) at_128 rfl rfl (lenOf (ps := [(.array .byte), .int]) (r := some .int) (by decide) rfl) rfl (Nat.le_of_eq rfl) (by decide) (by decide) (by decide) (by decide) ?_
    rintro _ _ ⟨rfl, rfl⟩
    show Go _ _ _ _ _ _ _ _ _ _ _ _ [(a6, IA Z .byte (ints [b7, b8]))] 1 2 131 #[.val (.int x0), .val (.int x1), .val (.int x2), .val (.int (2 : Int32)), .val (.int v5), .val (.ref a6), .unset] [(.int (f_u8 (own_el [b7, b8] v5) (own_el [b7, b8] (v5 + (1 : Int32))) (own_el [b7, b8] (v5 + (2 : Int32))) (own_el [b7, b8] (v5 + (3 : Int32))) (2 : Int32) v5))]
    refine g_istore C 133 #[.val (.int x0), .val (.int x1), .val (.int x2), .val (.int (2 : Int32)), .val (.int v5), .val (.ref a6), .val (.int (f_u8 (own_el [b7, b8] v5) (own_el [b7, b8] (v5 + (1 : Int32))) (own_el [b7, b8] (v5 + (2 : Int32))) (own_el [b7, b8] (v5 + (3 : Int32))) (2 : Int32) v5))] at_131 rfl rfl ?_
    generalize hv9 : (f_u8 (own_el [b7, b8] v5) (own_el [b7, b8] (v5 + (1 : Int32))) (own_el [b7, b8] (v5 + (2 : Int32))) (own_el [b7, b8] (v5 + (3 : Int32))) (2 : Int32) v5) = v9
    refine g_iload C 135 at_133 rfl rfl ?_
    refine g_aload C 137 at_135 rfl rfl rfl ?_
    refine g_iload C 139 at_137 rfl rfl ?_
    refine g_static C 142 1 (argsL := [(.ref a6), (.int v5)]) (St := [(.int v9)]) (con_f_exp l Z a0 C.2.2.1 h0 [(a6, IA Z .byte (ints [b7, b8]))] 0 a6 [b7, b8] (2 : Int32) v5 rfl (by subst hv5; exact (own_at _ _ (by decide)).1) (by subst hv5; exact Int.lt_of_lt_of_le (own_at _ _ (by decide)).2 (by show (2 : Int32).toInt ≤ ((2 : Nat) : Int); decide)) (Nat.le_of_ble_eq_true rfl) rfl) (List.mem_of_getElem? (i := 5) rfl) (List.mem_of_getElem? (i := 6) rfl) (List.mem_of_getElem? (i := 7) rfl) (List.mem_of_getElem? (i := 8) rfl) (by decide) at_139 rfl rfl (lenOf (ps := [(.array .byte), .int]) (r := some .int) (by decide) rfl) rfl (Nat.le_of_eq rfl) (by decide) (by decide) (by decide) (by decide) ?_
    rintro _ _ ⟨rfl, rfl⟩
    show Go _ _ _ _ _ _ _ _ _ _ _ _ [(a6, IA Z .byte (ints [b7, b8]))] 1 2 142 #[.val (.int x0), .val (.int x1), .val (.int x2), .val (.int (2 : Int32)), .val (.int v5), .val (.ref a6), .val (.int v9)] [(.int (f_exp (own_el [b7, b8] v5) (own_el [b7, b8] (v5 + (1 : Int32))) (own_el [b7, b8] (v5 + (2 : Int32))) (own_el [b7, b8] (v5 + (3 : Int32))) (2 : Int32) v5)), (.int v9)]
    refine g_icN C 145 at_142 (teq ((by subst_vars; exact own_law _ _ _ _ _ _ (own_at _ _ (by decide)).1 (by exact Int.lt_of_lt_of_le (own_at _ _ (by decide)).2 (by decide)) (by decide)) : v9 = (f_exp (own_el [b7, b8] v5) (own_el [b7, b8] (v5 + (1 : Int32))) (own_el [b7, b8] (v5 + (2 : Int32))) (own_el [b7, b8] (v5 + (3 : Int32))) (2 : Int32) v5))).2 rfl ?_
    refine g_iconst C 146 (1 : Int32) at_145 rfl rfl ?_
    refine g_goto C 150 at_146 (by decide) (by decide) ?_
    exact g_nret C (by simp) (z' := (1 : Int32)) (by decide) at_150 (by decide) (by decide) rfl
  · rw [hn8]
    refine g_istoreN C 7 #[.val (.int x0), .val (.int x1), .val (.int x2), .val (.int (3 : Int32)), .unset, .unset, .unset] at_6 rfl rfl ?_
    refine g_iloadN C 8 at_7 rfl rfl ?_
    refine g_iconst C 9 (3 : Int32) at_8 rfl rfl ?_
    refine g_iushr C 10 at_9 rfl ?_
    refine g_iloadN C 11 at_10 rfl rfl ?_
    refine g_irem C 12 at_11 rfl (by decide) ?_
    refine g_istore C 14 #[.val (.int x0), .val (.int x1), .val (.int x2), .val (.int (3 : Int32)), .val (.int (((x2.toUInt32 >>> ((3 : Int32) &&& 31).toUInt32).toInt32) % (3 : Int32))), .unset, .unset] at_12 rfl rfl ?_
    generalize hv10 : (((x2.toUInt32 >>> ((3 : Int32) &&& 31).toUInt32).toInt32) % (3 : Int32)) = v10
    refine g_iloadN C 15 at_14 rfl rfl ?_
    refine g_newarray C 17 (ints [(0 : Int32), (0 : Int32), (0 : Int32)]) 3 (List.mem_of_getElem? (i := 0) rfl) at_15 rfl (by decide) (by decide) (by decide) (by decide) (by decide) rfl ?_
    intro a11
    show Go _ _ _ _ _ _ _ _ _ _ _ _ [(a11, IA Z .byte (ints [(0 : Int32), (0 : Int32), (0 : Int32)]))] 1 3 17 #[.val (.int x0), .val (.int x1), .val (.int x2), .val (.int (3 : Int32)), .val (.int v10), .unset, .unset] [(.ref a11)]
    refine g_astore C 19 #[.val (.int x0), .val (.int x1), .val (.int x2), .val (.int (3 : Int32)), .val (.int v10), .val (.ref a11), .unset] at_17 rfl rfl rfl ?_
    refine g_aload C 21 at_19 rfl rfl rfl ?_
    refine g_iconst C 22 (0 : Int32) at_21 rfl rfl ?_
    refine g_iloadN C 23 at_22 rfl rfl ?_
    refine g_i2b C 24 at_23 rfl ?_
    refine g_bastore C 25 (i := 0) [(nar .byte (x0.toInt8.toInt32)), (0 : Int32), (0 : Int32)] [(a11, IA Z .byte (ints [(nar .byte (x0.toInt8.toInt32)), (0 : Int32), (0 : Int32)]))] rfl at_24 rfl (by decide) (Nat.le_of_ble_eq_true rfl) rfl rfl ?_
    generalize hb12 : (nar .byte (x0.toInt8.toInt32)) = b12
    refine g_iloadN C 26 at_25 rfl rfl ?_
    refine g_iconst C 27 (1 : Int32) at_26 rfl rfl ?_
    refine g_icN C 30 at_27 (tlt ((by decide) : (1 : Int32) < (3 : Int32))).2.2.2 rfl ?_
    refine g_aload C 32 at_30 rfl rfl rfl ?_
    refine g_iconst C 33 (1 : Int32) at_32 rfl rfl ?_
    refine g_iloadN C 34 at_33 rfl rfl ?_
    refine g_bipush C 36 (8 : Int32) at_34 rfl rfl ?_
    refine g_iushr C 37 at_36 rfl ?_
    refine g_i2b C 38 at_37 rfl ?_
    refine g_bastore C 39 (i := 0) [b12, (nar .byte (((x0.toUInt32 >>> ((8 : Int32) &&& 31).toUInt32).toInt32).toInt8.toInt32)), (0 : Int32)] [(a11, IA Z .byte (ints [b12, (nar .byte (((x0.toUInt32 >>> ((8 : Int32) &&& 31).toUInt32).toInt32).toInt8.toInt32)), (0 : Int32)]))] rfl at_38 rfl (by decide) (Nat.le_of_ble_eq_true rfl) rfl rfl ?_
    generalize hb13 : (nar .byte (((x0.toUInt32 >>> ((8 : Int32) &&& 31).toUInt32).toInt32).toInt8.toInt32)) = b13
    refine g_iloadN C 40 at_39 rfl rfl ?_
    refine g_iconst C 41 (2 : Int32) at_40 rfl rfl ?_
    refine g_icN C 44 at_41 (tlt ((by decide) : (2 : Int32) < (3 : Int32))).2.2.2 rfl ?_
    refine g_aload C 46 at_44 rfl rfl rfl ?_
    refine g_iconst C 47 (2 : Int32) at_46 rfl rfl ?_
    refine g_iloadN C 48 at_47 rfl rfl ?_
    refine g_bipush C 50 (16 : Int32) at_48 rfl rfl ?_
    refine g_iushr C 51 at_50 rfl ?_
    refine g_i2b C 52 at_51 rfl ?_
    refine g_bastore C 53 (i := 0) [b12, b13, (nar .byte (((x0.toUInt32 >>> ((16 : Int32) &&& 31).toUInt32).toInt32).toInt8.toInt32))] [(a11, IA Z .byte (ints [b12, b13, (nar .byte (((x0.toUInt32 >>> ((16 : Int32) &&& 31).toUInt32).toInt32).toInt8.toInt32))]))] rfl at_52 rfl (by decide) (Nat.le_of_ble_eq_true rfl) rfl rfl ?_
    generalize hb14 : (nar .byte (((x0.toUInt32 >>> ((16 : Int32) &&& 31).toUInt32).toInt32).toInt8.toInt32)) = b14
    refine g_iloadN C 54 at_53 rfl rfl ?_
    refine g_iconst C 55 (3 : Int32) at_54 rfl rfl ?_
    refine g_icY C 67 at_55 (flt ((by decide) : ¬ ((3 : Int32) < (3 : Int32)))).2.2.2 (by decide) (by decide) ?_
    refine g_iloadN C 68 at_67 rfl rfl ?_
    refine g_iconst C 69 (4 : Int32) at_68 rfl rfl ?_
    refine g_icY C 78 at_69 (flt ((by decide) : ¬ ((4 : Int32) < (3 : Int32)))).2.2.2 (by decide) (by decide) ?_
    refine g_iloadN C 79 at_78 rfl rfl ?_
    refine g_iconst C 80 (5 : Int32) at_79 rfl rfl ?_
    refine g_icY C 92 at_80 (flt ((by decide) : ¬ ((5 : Int32) < (3 : Int32)))).2.2.2 (by decide) (by decide) ?_
    refine g_iloadN C 93 at_92 rfl rfl ?_
    refine g_bipush C 95 (6 : Int32) at_93 rfl rfl ?_
    refine g_icY C 108 at_95 (flt ((by decide) : ¬ ((6 : Int32) < (3 : Int32)))).2.2.2 (by decide) (by decide) ?_
    refine g_iloadN C 109 at_108 rfl rfl ?_
    refine g_bipush C 111 (7 : Int32) at_109 rfl rfl ?_
    refine g_icY C 124 at_111 (flt ((by decide) : ¬ ((7 : Int32) < (3 : Int32)))).2.2.2 (by decide) (by decide) ?_
    refine g_aload C 126 at_124 rfl rfl rfl ?_
    refine g_iload C 128 at_126 rfl rfl ?_
    refine g_static C 131 0 (argsL := [(.ref a11), (.int v10)]) (St := []) (con_f_u8 l Z a0 C.2.2.1 h0 [(a11, IA Z .byte (ints [b12, b13, b14]))] 0 a11 [b12, b13, b14] (3 : Int32) v10 rfl (by subst hv10; exact (own_at _ _ (by decide)).1) (by subst hv10; exact Int.lt_of_lt_of_le (own_at _ _ (by decide)).2 (by show (3 : Int32).toInt ≤ ((3 : Nat) : Int); decide)) (Nat.le_of_ble_eq_true rfl) rfl) (List.mem_of_getElem? (i := 1) rfl) (List.mem_of_getElem? (i := 2) rfl) (List.mem_of_getElem? (i := 3) rfl) (List.mem_of_getElem? (i := 4) rfl) (by decide) at_128 rfl rfl (lenOf (ps := [(.array .byte), .int]) (r := some .int) (by decide) rfl) rfl (Nat.le_of_eq rfl) (by decide) (by decide) (by decide) (by decide) ?_
    rintro _ _ ⟨rfl, rfl⟩
    show Go _ _ _ _ _ _ _ _ _ _ _ _ [(a11, IA Z .byte (ints [b12, b13, b14]))] 1 3 131 #[.val (.int x0), .val (.int x1), .val (.int x2), .val (.int (3 : Int32)), .val (.int v10), .val (.ref a11), .unset] [(.int (f_u8 (own_el [b12, b13, b14] v10) (own_el [b12, b13, b14] (v10 + (1 : Int32))) (own_el [b12, b13, b14] (v10 + (2 : Int32))) (own_el [b12, b13, b14] (v10 + (3 : Int32))) (3 : Int32) v10))]
    refine g_istore C 133 #[.val (.int x0), .val (.int x1), .val (.int x2), .val (.int (3 : Int32)), .val (.int v10), .val (.ref a11), .val (.int (f_u8 (own_el [b12, b13, b14] v10) (own_el [b12, b13, b14] (v10 + (1 : Int32))) (own_el [b12, b13, b14] (v10 + (2 : Int32))) (own_el [b12, b13, b14] (v10 + (3 : Int32))) (3 : Int32) v10))] at_131 rfl rfl ?_
    generalize hv15 : (f_u8 (own_el [b12, b13, b14] v10) (own_el [b12, b13, b14] (v10 + (1 : Int32))) (own_el [b12, b13, b14] (v10 + (2 : Int32))) (own_el [b12, b13, b14] (v10 + (3 : Int32))) (3 : Int32) v10) = v15
    refine g_iload C 135 at_133 rfl rfl ?_
    refine g_aload C 137 at_135 rfl rfl rfl ?_
    refine g_iload C 139 at_137 rfl rfl ?_
    refine g_static C 142 1 (argsL := [(.ref a11), (.int v10)]) (St := [(.int v15)]) (con_f_exp l Z a0 C.2.2.1 h0 [(a11, IA Z .byte (ints [b12, b13, b14]))] 0 a11 [b12, b13, b14] (3 : Int32) v10 rfl (by subst hv10; exact (own_at _ _ (by decide)).1) (by subst hv10; exact Int.lt_of_lt_of_le (own_at _ _ (by decide)).2 (by show (3 : Int32).toInt ≤ ((3 : Nat) : Int); decide)) (Nat.le_of_ble_eq_true rfl) rfl) (List.mem_of_getElem? (i := 5) rfl) (List.mem_of_getElem? (i := 6) rfl) (List.mem_of_getElem? (i := 7) rfl) (List.mem_of_getElem? (i := 8) rfl) (by decide) at_139 rfl rfl (lenOf (ps := [(.array .byte), .int]) (r := some .int) (by decide) rfl) rfl (Nat.le_of_eq rfl) (by decide) (by decide) (by decide) (by decide) ?_
    rintro _ _ ⟨rfl, rfl⟩
    show Go _ _ _ _ _ _ _ _ _ _ _ _ [(a11, IA Z .byte (ints [b12, b13, b14]))] 1 3 142 #[.val (.int x0), .val (.int x1), .val (.int x2), .val (.int (3 : Int32)), .val (.int v10), .val (.ref a11), .val (.int v15)] [(.int (f_exp (own_el [b12, b13, b14] v10) (own_el [b12, b13, b14] (v10 + (1 : Int32))) (own_el [b12, b13, b14] (v10 + (2 : Int32))) (own_el [b12, b13, b14] (v10 + (3 : Int32))) (3 : Int32) v10)), (.int v15)]
    refine g_icN C 145 at_142 (teq ((by subst_vars; exact own_law _ _ _ _ _ _ (own_at _ _ (by decide)).1 (by exact Int.lt_of_lt_of_le (own_at _ _ (by decide)).2 (by decide)) (by decide)) : v15 = (f_exp (own_el [b12, b13, b14] v10) (own_el [b12, b13, b14] (v10 + (1 : Int32))) (own_el [b12, b13, b14] (v10 + (2 : Int32))) (own_el [b12, b13, b14] (v10 + (3 : Int32))) (3 : Int32) v10))).2 rfl ?_
    refine g_iconst C 146 (1 : Int32) at_145 rfl rfl ?_
    refine g_goto C 150 at_146 (by decide) (by decide) ?_
    exact g_nret C (by simp) (z' := (1 : Int32)) (by decide) at_150 (by decide) (by decide) rfl
  · rw [hn8]
    refine g_istoreN C 7 #[.val (.int x0), .val (.int x1), .val (.int x2), .val (.int (4 : Int32)), .unset, .unset, .unset] at_6 rfl rfl ?_
    refine g_iloadN C 8 at_7 rfl rfl ?_
    refine g_iconst C 9 (3 : Int32) at_8 rfl rfl ?_
    refine g_iushr C 10 at_9 rfl ?_
    refine g_iloadN C 11 at_10 rfl rfl ?_
    refine g_irem C 12 at_11 rfl (by decide) ?_
    refine g_istore C 14 #[.val (.int x0), .val (.int x1), .val (.int x2), .val (.int (4 : Int32)), .val (.int (((x2.toUInt32 >>> ((3 : Int32) &&& 31).toUInt32).toInt32) % (4 : Int32))), .unset, .unset] at_12 rfl rfl ?_
    generalize hv16 : (((x2.toUInt32 >>> ((3 : Int32) &&& 31).toUInt32).toInt32) % (4 : Int32)) = v16
    refine g_iloadN C 15 at_14 rfl rfl ?_
    refine g_newarray C 17 (ints [(0 : Int32), (0 : Int32), (0 : Int32), (0 : Int32)]) 4 (List.mem_of_getElem? (i := 0) rfl) at_15 rfl (by decide) (by decide) (by decide) (by decide) (by decide) rfl ?_
    intro a17
    show Go _ _ _ _ _ _ _ _ _ _ _ _ [(a17, IA Z .byte (ints [(0 : Int32), (0 : Int32), (0 : Int32), (0 : Int32)]))] 1 4 17 #[.val (.int x0), .val (.int x1), .val (.int x2), .val (.int (4 : Int32)), .val (.int v16), .unset, .unset] [(.ref a17)]
    refine g_astore C 19 #[.val (.int x0), .val (.int x1), .val (.int x2), .val (.int (4 : Int32)), .val (.int v16), .val (.ref a17), .unset] at_17 rfl rfl rfl ?_
    refine g_aload C 21 at_19 rfl rfl rfl ?_
    refine g_iconst C 22 (0 : Int32) at_21 rfl rfl ?_
    refine g_iloadN C 23 at_22 rfl rfl ?_
    refine g_i2b C 24 at_23 rfl ?_
    refine g_bastore C 25 (i := 0) [(nar .byte (x0.toInt8.toInt32)), (0 : Int32), (0 : Int32), (0 : Int32)] [(a17, IA Z .byte (ints [(nar .byte (x0.toInt8.toInt32)), (0 : Int32), (0 : Int32), (0 : Int32)]))] rfl at_24 rfl (by decide) (Nat.le_of_ble_eq_true rfl) rfl rfl ?_
    generalize hb18 : (nar .byte (x0.toInt8.toInt32)) = b18
    refine g_iloadN C 26 at_25 rfl rfl ?_
    refine g_iconst C 27 (1 : Int32) at_26 rfl rfl ?_
    refine g_icN C 30 at_27 (tlt ((by decide) : (1 : Int32) < (4 : Int32))).2.2.2 rfl ?_
    refine g_aload C 32 at_30 rfl rfl rfl ?_
    refine g_iconst C 33 (1 : Int32) at_32 rfl rfl ?_
    refine g_iloadN C 34 at_33 rfl rfl ?_
    refine g_bipush C 36 (8 : Int32) at_34 rfl rfl ?_
    refine g_iushr C 37 at_36 rfl ?_
    refine g_i2b C 38 at_37 rfl ?_
    refine g_bastore C 39 (i := 0) [b18, (nar .byte (((x0.toUInt32 >>> ((8 : Int32) &&& 31).toUInt32).toInt32).toInt8.toInt32)), (0 : Int32), (0 : Int32)] [(a17, IA Z .byte (ints [b18, (nar .byte (((x0.toUInt32 >>> ((8 : Int32) &&& 31).toUInt32).toInt32).toInt8.toInt32)), (0 : Int32), (0 : Int32)]))] rfl at_38 rfl (by decide) (Nat.le_of_ble_eq_true rfl) rfl rfl ?_
    generalize hb19 : (nar .byte (((x0.toUInt32 >>> ((8 : Int32) &&& 31).toUInt32).toInt32).toInt8.toInt32)) = b19
    refine g_iloadN C 40 at_39 rfl rfl ?_
    refine g_iconst C 41 (2 : Int32) at_40 rfl rfl ?_
    refine g_icN C 44 at_41 (tlt ((by decide) : (2 : Int32) < (4 : Int32))).2.2.2 rfl ?_
    refine g_aload C 46 at_44 rfl rfl rfl ?_
    refine g_iconst C 47 (2 : Int32) at_46 rfl rfl ?_
    refine g_iloadN C 48 at_47 rfl rfl ?_
    refine g_bipush C 50 (16 : Int32) at_48 rfl rfl ?_
    refine g_iushr C 51 at_50 rfl ?_
    refine g_i2b C 52 at_51 rfl ?_
    refine g_bastore C 53 (i := 0) [b18, b19, (nar .byte (((x0.toUInt32 >>> ((16 : Int32) &&& 31).toUInt32).toInt32).toInt8.toInt32)), (0 : Int32)] [(a17, IA Z .byte (ints [b18, b19, (nar .byte (((x0.toUInt32 >>> ((16 : Int32) &&& 31).toUInt32).toInt32).toInt8.toInt32)), (0 : Int32)]))] rfl at_52 rfl (by decide) (Nat.le_of_ble_eq_true rfl) rfl rfl ?_
    generalize hb20 : (nar .byte (((x0.toUInt32 >>> ((16 : Int32) &&& 31).toUInt32).toInt32).toInt8.toInt32)) = b20
    refine g_iloadN C 54 at_53 rfl rfl ?_
    refine g_iconst C 55 (3 : Int32) at_54 rfl rfl ?_
    refine g_icN C 58 at_55 (tlt ((by decide) : (3 : Int32) < (4 : Int32))).2.2.2 rfl ?_
    refine g_aload C 60 at_58 rfl rfl rfl ?_
    refine g_iconst C 61 (3 : Int32) at_60 rfl rfl ?_
    refine g_iloadN C 62 at_61 rfl rfl ?_
    refine g_bipush C 64 (24 : Int32) at_62 rfl rfl ?_
    refine g_iushr C 65 at_64 rfl ?_
    refine g_i2b C 66 at_65 rfl ?_
    refine g_bastore C 67 (i := 0) [b18, b19, b20, (nar .byte (((x0.toUInt32 >>> ((24 : Int32) &&& 31).toUInt32).toInt32).toInt8.toInt32))] [(a17, IA Z .byte (ints [b18, b19, b20, (nar .byte (((x0.toUInt32 >>> ((24 : Int32) &&& 31).toUInt32).toInt32).toInt8.toInt32))]))] rfl at_66 rfl (by decide) (Nat.le_of_ble_eq_true rfl) rfl rfl ?_
    generalize hb21 : (nar .byte (((x0.toUInt32 >>> ((24 : Int32) &&& 31).toUInt32).toInt32).toInt8.toInt32)) = b21
    refine g_iloadN C 68 at_67 rfl rfl ?_
    refine g_iconst C 69 (4 : Int32) at_68 rfl rfl ?_
    refine g_icY C 78 at_69 (flt ((by decide) : ¬ ((4 : Int32) < (4 : Int32)))).2.2.2 (by decide) (by decide) ?_
    refine g_iloadN C 79 at_78 rfl rfl ?_
    refine g_iconst C 80 (5 : Int32) at_79 rfl rfl ?_
    refine g_icY C 92 at_80 (flt ((by decide) : ¬ ((5 : Int32) < (4 : Int32)))).2.2.2 (by decide) (by decide) ?_
    refine g_iloadN C 93 at_92 rfl rfl ?_
    refine g_bipush C 95 (6 : Int32) at_93 rfl rfl ?_
    refine g_icY C 108 at_95 (flt ((by decide) : ¬ ((6 : Int32) < (4 : Int32)))).2.2.2 (by decide) (by decide) ?_
    refine g_iloadN C 109 at_108 rfl rfl ?_
    refine g_bipush C 111 (7 : Int32) at_109 rfl rfl ?_
    refine g_icY C 124 at_111 (flt ((by decide) : ¬ ((7 : Int32) < (4 : Int32)))).2.2.2 (by decide) (by decide) ?_
    refine g_aload C 126 at_124 rfl rfl rfl ?_
    refine g_iload C 128 at_126 rfl rfl ?_
    refine g_static C 131 0 (argsL := [(.ref a17), (.int v16)]) (St := []) (con_f_u8 l Z a0 C.2.2.1 h0 [(a17, IA Z .byte (ints [b18, b19, b20, b21]))] 0 a17 [b18, b19, b20, b21] (4 : Int32) v16 rfl (by subst hv16; exact (own_at _ _ (by decide)).1) (by subst hv16; exact Int.lt_of_lt_of_le (own_at _ _ (by decide)).2 (by show (4 : Int32).toInt ≤ ((4 : Nat) : Int); decide)) (Nat.le_of_ble_eq_true rfl) rfl) (List.mem_of_getElem? (i := 1) rfl) (List.mem_of_getElem? (i := 2) rfl) (List.mem_of_getElem? (i := 3) rfl) (List.mem_of_getElem? (i := 4) rfl) (by decide) at_128 rfl rfl (lenOf (ps := [(.array .byte), .int]) (r := some .int) (by decide) rfl) rfl (Nat.le_of_eq rfl) (by decide) (by decide) (by decide) (by decide) ?_
    rintro _ _ ⟨rfl, rfl⟩
    show Go _ _ _ _ _ _ _ _ _ _ _ _ [(a17, IA Z .byte (ints [b18, b19, b20, b21]))] 1 4 131 #[.val (.int x0), .val (.int x1), .val (.int x2), .val (.int (4 : Int32)), .val (.int v16), .val (.ref a17), .unset] [(.int (f_u8 (own_el [b18, b19, b20, b21] v16) (own_el [b18, b19, b20, b21] (v16 + (1 : Int32))) (own_el [b18, b19, b20, b21] (v16 + (2 : Int32))) (own_el [b18, b19, b20, b21] (v16 + (3 : Int32))) (4 : Int32) v16))]
    refine g_istore C 133 #[.val (.int x0), .val (.int x1), .val (.int x2), .val (.int (4 : Int32)), .val (.int v16), .val (.ref a17), .val (.int (f_u8 (own_el [b18, b19, b20, b21] v16) (own_el [b18, b19, b20, b21] (v16 + (1 : Int32))) (own_el [b18, b19, b20, b21] (v16 + (2 : Int32))) (own_el [b18, b19, b20, b21] (v16 + (3 : Int32))) (4 : Int32) v16))] at_131 rfl rfl ?_
    generalize hv22 : (f_u8 (own_el [b18, b19, b20, b21] v16) (own_el [b18, b19, b20, b21] (v16 + (1 : Int32))) (own_el [b18, b19, b20, b21] (v16 + (2 : Int32))) (own_el [b18, b19, b20, b21] (v16 + (3 : Int32))) (4 : Int32) v16) = v22
    refine g_iload C 135 at_133 rfl rfl ?_
    refine g_aload C 137 at_135 rfl rfl rfl ?_
    refine g_iload C 139 at_137 rfl rfl ?_
    refine g_static C 142 1 (argsL := [(.ref a17), (.int v16)]) (St := [(.int v22)]) (con_f_exp l Z a0 C.2.2.1 h0 [(a17, IA Z .byte (ints [b18, b19, b20, b21]))] 0 a17 [b18, b19, b20, b21] (4 : Int32) v16 rfl (by subst hv16; exact (own_at _ _ (by decide)).1) (by subst hv16; exact Int.lt_of_lt_of_le (own_at _ _ (by decide)).2 (by show (4 : Int32).toInt ≤ ((4 : Nat) : Int); decide)) (Nat.le_of_ble_eq_true rfl) rfl) (List.mem_of_getElem? (i := 5) rfl) (List.mem_of_getElem? (i := 6) rfl) (List.mem_of_getElem? (i := 7) rfl) (List.mem_of_getElem? (i := 8) rfl) (by decide) at_139 rfl rfl (lenOf (ps := [(.array .byte), .int]) (r := some .int) (by decide) rfl) rfl (Nat.le_of_eq rfl) (by decide) (by decide) (by decide) (by decide) ?_
    rintro _ _ ⟨rfl, rfl⟩
    show Go _ _ _ _ _ _ _ _ _ _ _ _ [(a17, IA Z .byte (ints [b18, b19, b20, b21]))] 1 4 142 #[.val (.int x0), .val (.int x1), .val (.int x2), .val (.int (4 : Int32)), .val (.int v16), .val (.ref a17), .val (.int v22)] [(.int (f_exp (own_el [b18, b19, b20, b21] v16) (own_el [b18, b19, b20, b21] (v16 + (1 : Int32))) (own_el [b18, b19, b20, b21] (v16 + (2 : Int32))) (own_el [b18, b19, b20, b21] (v16 + (3 : Int32))) (4 : Int32) v16)), (.int v22)]
    refine g_icN C 145 at_142 (teq ((by subst_vars; exact own_law _ _ _ _ _ _ (own_at _ _ (by decide)).1 (by exact Int.lt_of_lt_of_le (own_at _ _ (by decide)).2 (by decide)) (by decide)) : v22 = (f_exp (own_el [b18, b19, b20, b21] v16) (own_el [b18, b19, b20, b21] (v16 + (1 : Int32))) (own_el [b18, b19, b20, b21] (v16 + (2 : Int32))) (own_el [b18, b19, b20, b21] (v16 + (3 : Int32))) (4 : Int32) v16))).2 rfl ?_
    refine g_iconst C 146 (1 : Int32) at_145 rfl rfl ?_
    refine g_goto C 150 at_146 (by decide) (by decide) ?_
    exact g_nret C (by simp) (z' := (1 : Int32)) (by decide) at_150 (by decide) (by decide) rfl
  · rw [hn8]
    refine g_istoreN C 7 #[.val (.int x0), .val (.int x1), .val (.int x2), .val (.int (5 : Int32)), .unset, .unset, .unset] at_6 rfl rfl ?_
    refine g_iloadN C 8 at_7 rfl rfl ?_
    refine g_iconst C 9 (3 : Int32) at_8 rfl rfl ?_
    refine g_iushr C 10 at_9 rfl ?_
    refine g_iloadN C 11 at_10 rfl rfl ?_
    refine g_irem C 12 at_11 rfl (by decide) ?_
    refine g_istore C 14 #[.val (.int x0), .val (.int x1), .val (.int x2), .val (.int (5 : Int32)), .val (.int (((x2.toUInt32 >>> ((3 : Int32) &&& 31).toUInt32).toInt32) % (5 : Int32))), .unset, .unset] at_12 rfl rfl ?_
    generalize hv23 : (((x2.toUInt32 >>> ((3 : Int32) &&& 31).toUInt32).toInt32) % (5 : Int32)) = v23
    refine g_iloadN C 15 at_14 rfl rfl ?_
    refine g_newarray C 17 (ints [(0 : Int32), (0 : Int32), (0 : Int32), (0 : Int32), (0 : Int32)]) 5 (List.mem_of_getElem? (i := 0) rfl) at_15 rfl (by decide) (by decide) (by decide) (by decide) (by decide) rfl ?_
    intro a24
    show Go _ _ _ _ _ _ _ _ _ _ _ _ [(a24, IA Z .byte (ints [(0 : Int32), (0 : Int32), (0 : Int32), (0 : Int32), (0 : Int32)]))] 1 5 17 #[.val (.int x0), .val (.int x1), .val (.int x2), .val (.int (5 : Int32)), .val (.int v23), .unset, .unset] [(.ref a24)]
    refine g_astore C 19 #[.val (.int x0), .val (.int x1), .val (.int x2), .val (.int (5 : Int32)), .val (.int v23), .val (.ref a24), .unset] at_17 rfl rfl rfl ?_
    refine g_aload C 21 at_19 rfl rfl rfl ?_
    refine g_iconst C 22 (0 : Int32) at_21 rfl rfl ?_
    refine g_iloadN C 23 at_22 rfl rfl ?_
    refine g_i2b C 24 at_23 rfl ?_
    refine g_bastore C 25 (i := 0) [(nar .byte (x0.toInt8.toInt32)), (0 : Int32), (0 : Int32), (0 : Int32), (0 : Int32)] [(a24, IA Z .byte (ints [(nar .byte (x0.toInt8.toInt32)), (0 : Int32), (0 : Int32), (0 : Int32), (0 : Int32)]))] rfl at_24 rfl (by decide) (Nat.le_of_ble_eq_true rfl) rfl rfl ?_
    generalize hb25 : (nar .byte (x0.toInt8.toInt32)) = b25
    refine g_iloadN C 26 at_25 rfl rfl ?_
    refine g_iconst C 27 (1 : Int32) at_26 rfl rfl ?_
    refine g_icN C 30 at_27 (tlt ((by decide) : (1 : Int32) < (5 : Int32))).2.2.2 rfl ?_
    refine g_aload C 32 at_30 rfl rfl rfl ?_
    refine g_iconst C 33 (1 : Int32) at_32 rfl rfl ?_
    refine g_iloadN C 34 at_33 rfl rfl ?_
    refine g_bipush C 36 (8 : Int32) at_34 rfl rfl ?_
    refine g_iushr C 37 at_36 rfl ?_
    refine g_i2b C 38 at_37 rfl ?_
    refine g_bastore C 39 (i := 0) [b25, (nar .byte (((x0.toUInt32 >>> ((8 : Int32) &&& 31).toUInt32).toInt32).toInt8.toInt32)), (0 : Int32), (0 : Int32), (0 : Int32)] [(a24, IA Z .byte (ints [b25, (nar .byte (((x0.toUInt32 >>> ((8 : Int32) &&& 31).toUInt32).toInt32).toInt8.toInt32)), (0 : Int32), (0 : Int32), (0 : Int32)]))] rfl at_38 rfl (by decide) (Nat.le_of_ble_eq_true rfl) rfl rfl ?_
    generalize hb26 : (nar .byte (((x0.toUInt32 >>> ((8 : Int32) &&& 31).toUInt32).toInt32).toInt8.toInt32)) = b26
    refine g_iloadN C 40 at_39 rfl rfl ?_
    refine g_iconst C 41 (2 : Int32) at_40 rfl rfl ?_
    refine g_icN C 44 at_41 (tlt ((by decide) : (2 : Int32) < (5 : Int32))).2.2.2 rfl ?_
    refine g_aload C 46 at_44 rfl rfl rfl ?_
    refine g_iconst C 47 (2 : Int32) at_46 rfl rfl ?_
    refine g_iloadN C 48 at_47 rfl rfl ?_
    refine g_bipush C 50 (16 : Int32) at_48 rfl rfl ?_
    refine g_iushr C 51 at_50 rfl ?_
    refine g_i2b C 52 at_51 rfl ?_
    refine g_bastore C 53 (i := 0) [b25, b26, (nar .byte (((x0.toUInt32 >>> ((16 : Int32) &&& 31).toUInt32).toInt32).toInt8.toInt32)), (0 : Int32), (0 : Int32)] [(a24, IA Z .byte (ints [b25, b26, (nar .byte (((x0.toUInt32 >>> ((16 : Int32) &&& 31).toUInt32).toInt32).toInt8.toInt32)), (0 : Int32), (0 : Int32)]))] rfl at_52 rfl (by decide) (Nat.le_of_ble_eq_true rfl) rfl rfl ?_
    generalize hb27 : (nar .byte (((x0.toUInt32 >>> ((16 : Int32) &&& 31).toUInt32).toInt32).toInt8.toInt32)) = b27
    refine g_iloadN C 54 at_53 rfl rfl ?_
    refine g_iconst C 55 (3 : Int32) at_54 rfl rfl ?_
    refine g_icN C 58 at_55 (tlt ((by decide) : (3 : Int32) < (5 : Int32))).2.2.2 rfl ?_
    refine g_aload C 60 at_58 rfl rfl rfl ?_
    refine g_iconst C 61 (3 : Int32) at_60 rfl rfl ?_
    refine g_iloadN C 62 at_61 rfl rfl ?_
    refine g_bipush C 64 (24 : Int32) at_62 rfl rfl ?_
    refine g_iushr C 65 at_64 rfl ?_
    refine g_i2b C 66 at_65 rfl ?_
    refine g_bastore C 67 (i := 0) [b25, b26, b27, (nar .byte (((x0.toUInt32 >>> ((24 : Int32) &&& 31).toUInt32).toInt32).toInt8.toInt32)), (0 : Int32)] [(a24, IA Z .byte (ints [b25, b26, b27, (nar .byte (((x0.toUInt32 >>> ((24 : Int32) &&& 31).toUInt32).toInt32).toInt8.toInt32)), (0 : Int32)]))] rfl at_66 rfl (by decide) (Nat.le_of_ble_eq_true rfl) rfl rfl ?_
    generalize hb28 : (nar .byte (((x0.toUInt32 >>> ((24 : Int32) &&& 31).toUInt32).toInt32).toInt8.toInt32)) = b28
    refine g_iloadN C 68 at_67 rfl rfl ?_
    refine g_iconst C 69 (4 : Int32) at_68 rfl rfl ?_
    refine g_icN C 72 at_69 (tlt ((by decide) : (4 : Int32) < (5 : Int32))).2.2.2 rfl ?_
    refine g_aload C 74 at_72 rfl rfl rfl ?_
    refine g_iconst C 75 (4 : Int32) at_74 rfl rfl ?_
    refine g_iloadN C 76 at_75 rfl rfl ?_
    refine g_i2b C 77 at_76 rfl ?_
    refine g_bastore C 78 (i := 0) [b25, b26, b27, b28, (nar .byte (x1.toInt8.toInt32))] [(a24, IA Z .byte (ints [b25, b26, b27, b28, (nar .byte (x1.toInt8.toInt32))]))] rfl at_77 rfl (by decide) (Nat.le_of_ble_eq_true rfl) rfl rfl ?_
    generalize hb29 : (nar .byte (x1.toInt8.toInt32)) = b29
    refine g_iloadN C 79 at_78 rfl rfl ?_
    refine g_iconst C 80 (5 : Int32) at_79 rfl rfl ?_
    refine g_icY C 92 at_80 (flt ((by decide) : ¬ ((5 : Int32) < (5 : Int32)))).2.2.2 (by decide) (by decide) ?_
    refine g_iloadN C 93 at_92 rfl rfl ?_
    refine g_bipush C 95 (6 : Int32) at_93 rfl rfl ?_
    refine g_icY C 108 at_95 (flt ((by decide) : ¬ ((6 : Int32) < (5 : Int32)))).2.2.2 (by decide) (by decide) ?_
    refine g_iloadN C 109 at_108 rfl rfl ?_
    refine g_bipush C 111 (7 : Int32) at_109 rfl rfl ?_
    refine g_icY C 124 at_111 (flt ((by decide) : ¬ ((7 : Int32) < (5 : Int32)))).2.2.2 (by decide) (by decide) ?_
    refine g_aload C 126 at_124 rfl rfl rfl ?_
    refine g_iload C 128 at_126 rfl rfl ?_
    refine g_static C 131 0 (argsL := [(.ref a24), (.int v23)]) (St := []) (con_f_u8 l Z a0 C.2.2.1 h0 [(a24, IA Z .byte (ints [b25, b26, b27, b28, b29]))] 0 a24 [b25, b26, b27, b28, b29] (5 : Int32) v23 rfl (by subst hv23; exact (own_at _ _ (by decide)).1) (by subst hv23; exact Int.lt_of_lt_of_le (own_at _ _ (by decide)).2 (by show (5 : Int32).toInt ≤ ((5 : Nat) : Int); decide)) (Nat.le_of_ble_eq_true rfl) rfl) (List.mem_of_getElem? (i := 1) rfl) (List.mem_of_getElem? (i := 2) rfl) (List.mem_of_getElem? (i := 3) rfl) (List.mem_of_getElem? (i := 4) rfl) (by decide) at_128 rfl rfl (lenOf (ps := [(.array .byte), .int]) (r := some .int) (by decide) rfl) rfl (Nat.le_of_eq rfl) (by decide) (by decide) (by decide) (by decide) ?_
    rintro _ _ ⟨rfl, rfl⟩
    show Go _ _ _ _ _ _ _ _ _ _ _ _ [(a24, IA Z .byte (ints [b25, b26, b27, b28, b29]))] 1 5 131 #[.val (.int x0), .val (.int x1), .val (.int x2), .val (.int (5 : Int32)), .val (.int v23), .val (.ref a24), .unset] [(.int (f_u8 (own_el [b25, b26, b27, b28, b29] v23) (own_el [b25, b26, b27, b28, b29] (v23 + (1 : Int32))) (own_el [b25, b26, b27, b28, b29] (v23 + (2 : Int32))) (own_el [b25, b26, b27, b28, b29] (v23 + (3 : Int32))) (5 : Int32) v23))]
    refine g_istore C 133 #[.val (.int x0), .val (.int x1), .val (.int x2), .val (.int (5 : Int32)), .val (.int v23), .val (.ref a24), .val (.int (f_u8 (own_el [b25, b26, b27, b28, b29] v23) (own_el [b25, b26, b27, b28, b29] (v23 + (1 : Int32))) (own_el [b25, b26, b27, b28, b29] (v23 + (2 : Int32))) (own_el [b25, b26, b27, b28, b29] (v23 + (3 : Int32))) (5 : Int32) v23))] at_131 rfl rfl ?_
    generalize hv30 : (f_u8 (own_el [b25, b26, b27, b28, b29] v23) (own_el [b25, b26, b27, b28, b29] (v23 + (1 : Int32))) (own_el [b25, b26, b27, b28, b29] (v23 + (2 : Int32))) (own_el [b25, b26, b27, b28, b29] (v23 + (3 : Int32))) (5 : Int32) v23) = v30
    refine g_iload C 135 at_133 rfl rfl ?_
    refine g_aload C 137 at_135 rfl rfl rfl ?_
    refine g_iload C 139 at_137 rfl rfl ?_
    refine g_static C 142 1 (argsL := [(.ref a24), (.int v23)]) (St := [(.int v30)]) (con_f_exp l Z a0 C.2.2.1 h0 [(a24, IA Z .byte (ints [b25, b26, b27, b28, b29]))] 0 a24 [b25, b26, b27, b28, b29] (5 : Int32) v23 rfl (by subst hv23; exact (own_at _ _ (by decide)).1) (by subst hv23; exact Int.lt_of_lt_of_le (own_at _ _ (by decide)).2 (by show (5 : Int32).toInt ≤ ((5 : Nat) : Int); decide)) (Nat.le_of_ble_eq_true rfl) rfl) (List.mem_of_getElem? (i := 5) rfl) (List.mem_of_getElem? (i := 6) rfl) (List.mem_of_getElem? (i := 7) rfl) (List.mem_of_getElem? (i := 8) rfl) (by decide) at_139 rfl rfl (lenOf (ps := [(.array .byte), .int]) (r := some .int) (by decide) rfl) rfl (Nat.le_of_eq rfl) (by decide) (by decide) (by decide) (by decide) ?_
    rintro _ _ ⟨rfl, rfl⟩
    show Go _ _ _ _ _ _ _ _ _ _ _ _ [(a24, IA Z .byte (ints [b25, b26, b27, b28, b29]))] 1 5 142 #[.val (.int x0), .val (.int x1), .val (.int x2), .val (.int (5 : Int32)), .val (.int v23), .val (.ref a24), .val (.int v30)] [(.int (f_exp (own_el [b25, b26, b27, b28, b29] v23) (own_el [b25, b26, b27, b28, b29] (v23 + (1 : Int32))) (own_el [b25, b26, b27, b28, b29] (v23 + (2 : Int32))) (own_el [b25, b26, b27, b28, b29] (v23 + (3 : Int32))) (5 : Int32) v23)), (.int v30)]
    refine g_icN C 145 at_142 (teq ((by subst_vars; exact own_law _ _ _ _ _ _ (own_at _ _ (by decide)).1 (by exact Int.lt_of_lt_of_le (own_at _ _ (by decide)).2 (by decide)) (by decide)) : v30 = (f_exp (own_el [b25, b26, b27, b28, b29] v23) (own_el [b25, b26, b27, b28, b29] (v23 + (1 : Int32))) (own_el [b25, b26, b27, b28, b29] (v23 + (2 : Int32))) (own_el [b25, b26, b27, b28, b29] (v23 + (3 : Int32))) (5 : Int32) v23))).2 rfl ?_
    refine g_iconst C 146 (1 : Int32) at_145 rfl rfl ?_
    refine g_goto C 150 at_146 (by decide) (by decide) ?_
    exact g_nret C (by simp) (z' := (1 : Int32)) (by decide) at_150 (by decide) (by decide) rfl
  · rw [hn8]
    refine g_istoreN C 7 #[.val (.int x0), .val (.int x1), .val (.int x2), .val (.int (6 : Int32)), .unset, .unset, .unset] at_6 rfl rfl ?_
    refine g_iloadN C 8 at_7 rfl rfl ?_
    refine g_iconst C 9 (3 : Int32) at_8 rfl rfl ?_
    refine g_iushr C 10 at_9 rfl ?_
    refine g_iloadN C 11 at_10 rfl rfl ?_
    refine g_irem C 12 at_11 rfl (by decide) ?_
    refine g_istore C 14 #[.val (.int x0), .val (.int x1), .val (.int x2), .val (.int (6 : Int32)), .val (.int (((x2.toUInt32 >>> ((3 : Int32) &&& 31).toUInt32).toInt32) % (6 : Int32))), .unset, .unset] at_12 rfl rfl ?_
    generalize hv31 : (((x2.toUInt32 >>> ((3 : Int32) &&& 31).toUInt32).toInt32) % (6 : Int32)) = v31
    refine g_iloadN C 15 at_14 rfl rfl ?_
    refine g_newarray C 17 (ints [(0 : Int32), (0 : Int32), (0 : Int32), (0 : Int32), (0 : Int32), (0 : Int32)]) 6 (List.mem_of_getElem? (i := 0) rfl) at_15 rfl (by decide) (by decide) (by decide) (by decide) (by decide) rfl ?_
    intro a32
    show Go _ _ _ _ _ _ _ _ _ _ _ _ [(a32, IA Z .byte (ints [(0 : Int32), (0 : Int32), (0 : Int32), (0 : Int32), (0 : Int32), (0 : Int32)]))] 1 6 17 #[.val (.int x0), .val (.int x1), .val (.int x2), .val (.int (6 : Int32)), .val (.int v31), .unset, .unset] [(.ref a32)]
    refine g_astore C 19 #[.val (.int x0), .val (.int x1), .val (.int x2), .val (.int (6 : Int32)), .val (.int v31), .val (.ref a32), .unset] at_17 rfl rfl rfl ?_
    refine g_aload C 21 at_19 rfl rfl rfl ?_
    refine g_iconst C 22 (0 : Int32) at_21 rfl rfl ?_
    refine g_iloadN C 23 at_22 rfl rfl ?_
    refine g_i2b C 24 at_23 rfl ?_
    refine g_bastore C 25 (i := 0) [(nar .byte (x0.toInt8.toInt32)), (0 : Int32), (0 : Int32), (0 : Int32), (0 : Int32), (0 : Int32)] [(a32, IA Z .byte (ints [(nar .byte (x0.toInt8.toInt32)), (0 : Int32), (0 : Int32), (0 : Int32), (0 : Int32), (0 : Int32)]))] rfl at_24 rfl (by decide) (Nat.le_of_ble_eq_true rfl) rfl rfl ?_
    generalize hb33 : (nar .byte (x0.toInt8.toInt32)) = b33
    refine g_iloadN C 26 at_25 rfl rfl ?_
    refine g_iconst C 27 (1 : Int32) at_26 rfl rfl ?_
    refine g_icN C 30 at_27 (tlt ((by decide) : (1 : Int32) < (6 : Int32))).2.2.2 rfl ?_
    refine g_aload C 32 at_30 rfl rfl rfl ?_
    refine g_iconst C 33 (1 : Int32) at_32 rfl rfl ?_
    refine g_iloadN C 34 at_33 rfl rfl ?_
    refine g_bipush C 36 (8 : Int32) at_34 rfl rfl ?_
    refine g_iushr C 37 at_36 rfl ?_
    refine g_i2b C 38 at_37 rfl ?_
    refine g_bastore C 39 (i := 0) [b33, (nar .byte (((x0.toUInt32 >>> ((8 : Int32) &&& 31).toUInt32).toInt32).toInt8.toInt32)), (0 : Int32), (0 : Int32), (0 : Int32), (0 : Int32)] [(a32, IA Z .byte (ints [b33, (nar .byte (((x0.toUInt32 >>> ((8 : Int32) &&& 31).toUInt32).toInt32).toInt8.toInt32)), (0 : Int32), (0 : Int32), (0 : Int32), (0 : Int32)]))] rfl at_38 rfl (by decide) (Nat.le_of_ble_eq_true rfl) rfl rfl ?_
    generalize hb34 : (nar .byte (((x0.toUInt32 >>> ((8 : Int32) &&& 31).toUInt32).toInt32).toInt8.toInt32)) = b34
    refine g_iloadN C 40 at_39 rfl rfl ?_
    refine g_iconst C 41 (2 : Int32) at_40 rfl rfl ?_
    refine g_icN C 44 at_41 (tlt ((by decide) : (2 : Int32) < (6 : Int32))).2.2.2 rfl ?_
    refine g_aload C 46 at_44 rfl rfl rfl ?_
    refine g_iconst C 47 (2 : Int32) at_46 rfl rfl ?_
    refine g_iloadN C 48 at_47 rfl rfl ?_
    refine g_bipush C 50 (16 : Int32) at_48 rfl rfl ?_
    refine g_iushr C 51 at_50 rfl ?_
    refine g_i2b C 52 at_51 rfl ?_
    refine g_bastore C 53 (i := 0) [b33, b34, (nar .byte (((x0.toUInt32 >>> ((16 : Int32) &&& 31).toUInt32).toInt32).toInt8.toInt32)), (0 : Int32), (0 : Int32), (0 : Int32)] [(a32, IA Z .byte (ints [b33, b34, (nar .byte (((x0.toUInt32 >>> ((16 : Int32) &&& 31).toUInt32).toInt32).toInt8.toInt32)), (0 : Int32), (0 : Int32), (0 : Int32)]))] rfl at_52 rfl (by decide) (Nat.le_of_ble_eq_true rfl) rfl rfl ?_
    generalize hb35 : (nar .byte (((x0.toUInt32 >>> ((16 : Int32) &&& 31).toUInt32).toInt32).toInt8.toInt32)) = b35
    refine g_iloadN C 54 at_53 rfl rfl ?_
    refine g_iconst C 55 (3 : Int32) at_54 rfl rfl ?_
    refine g_icN C 58 at_55 (tlt ((by decide) : (3 : Int32) < (6 : Int32))).2.2.2 rfl ?_
    refine g_aload C 60 at_58 rfl rfl rfl ?_
    refine g_iconst C 61 (3 : Int32) at_60 rfl rfl ?_
    refine g_iloadN C 62 at_61 rfl rfl ?_
    refine g_bipush C 64 (24 : Int32) at_62 rfl rfl ?_
    refine g_iushr C 65 at_64 rfl ?_
    refine g_i2b C 66 at_65 rfl ?_
    refine g_bastore C 67 (i := 0) [b33, b34, b35, (nar .byte (((x0.toUInt32 >>> ((24 : Int32) &&& 31).toUInt32).toInt32).toInt8.toInt32)), (0 : Int32), (0 : Int32)] [(a32, IA Z .byte (ints [b33, b34, b35, (nar .byte (((x0.toUInt32 >>> ((24 : Int32) &&& 31).toUInt32).toInt32).toInt8.toInt32)), (0 : Int32), (0 : Int32)]))] rfl at_66 rfl (by decide) (Nat.le_of_ble_eq_true rfl) rfl rfl ?_
    generalize hb36 : (nar .byte (((x0.toUInt32 >>> ((24 : Int32) &&& 31).toUInt32).toInt32).toInt8.toInt32)) = b36
    refine g_iloadN C 68 at_67 rfl rfl ?_
    refine g_iconst C 69 (4 : Int32) at_68 rfl rfl ?_
    refine g_icN C 72 at_69 (tlt ((by decide) : (4 : Int32) < (6 : Int32))).2.2.2 rfl ?_
    refine g_aload C 74 at_72 rfl rfl rfl ?_
    refine g_iconst C 75 (4 : Int32) at_74 rfl rfl ?_
    refine g_iloadN C 76 at_75 rfl rfl ?_
    refine g_i2b C 77 at_76 rfl ?_
    refine g_bastore C 78 (i := 0) [b33, b34, b35, b36, (nar .byte (x1.toInt8.toInt32)), (0 : Int32)] [(a32, IA Z .byte (ints [b33, b34, b35, b36, (nar .byte (x1.toInt8.toInt32)), (0 : Int32)]))] rfl at_77 rfl (by decide) (Nat.le_of_ble_eq_true rfl) rfl rfl ?_
    generalize hb37 : (nar .byte (x1.toInt8.toInt32)) = b37
    refine g_iloadN C 79 at_78 rfl rfl ?_
    refine g_iconst C 80 (5 : Int32) at_79 rfl rfl ?_
    refine g_icN C 83 at_80 (tlt ((by decide) : (5 : Int32) < (6 : Int32))).2.2.2 rfl ?_
    refine g_aload C 85 at_83 rfl rfl rfl ?_
    refine g_iconst C 86 (5 : Int32) at_85 rfl rfl ?_
    refine g_iloadN C 87 at_86 rfl rfl ?_
    refine g_bipush C 89 (8 : Int32) at_87 rfl rfl ?_
    refine g_iushr C 90 at_89 rfl ?_
    refine g_i2b C 91 at_90 rfl ?_
    refine g_bastore C 92 (i := 0) [b33, b34, b35, b36, b37, (nar .byte (((x1.toUInt32 >>> ((8 : Int32) &&& 31).toUInt32).toInt32).toInt8.toInt32))] [(a32, IA Z .byte (ints [b33, b34, b35, b36, b37, (nar .byte (((x1.toUInt32 >>> ((8 : Int32) &&& 31).toUInt32).toInt32).toInt8.toInt32))]))] rfl at_91 rfl (by decide) (Nat.le_of_ble_eq_true rfl) rfl rfl ?_
    generalize hb38 : (nar .byte (((x1.toUInt32 >>> ((8 : Int32) &&& 31).toUInt32).toInt32).toInt8.toInt32)) = b38
    refine g_iloadN C 93 at_92 rfl rfl ?_
    refine g_bipush C 95 (6 : Int32) at_93 rfl rfl ?_
    refine g_icY C 108 at_95 (flt ((by decide) : ¬ ((6 : Int32) < (6 : Int32)))).2.2.2 (by decide) (by decide) ?_
    refine g_iloadN C 109 at_108 rfl rfl ?_
    refine g_bipush C 111 (7 : Int32) at_109 rfl rfl ?_
    refine g_icY C 124 at_111 (flt ((by decide) : ¬ ((7 : Int32) < (6 : Int32)))).2.2.2 (by decide) (by decide) ?_
    refine g_aload C 126 at_124 rfl rfl rfl ?_
    refine g_iload C 128 at_126 rfl rfl ?_
    refine g_static C 131 0 (argsL := [(.ref a32), (.int v31)]) (St := []) (con_f_u8 l Z a0 C.2.2.1 h0 [(a32, IA Z .byte (ints [b33, b34, b35, b36, b37, b38]))] 0 a32 [b33, b34, b35, b36, b37, b38] (6 : Int32) v31 rfl (by subst hv31; exact (own_at _ _ (by decide)).1) (by subst hv31; exact Int.lt_of_lt_of_le (own_at _ _ (by decide)).2 (by show (6 : Int32).toInt ≤ ((6 : Nat) : Int); decide)) (Nat.le_of_ble_eq_true rfl) rfl) (List.mem_of_getElem? (i := 1) rfl) (List.mem_of_getElem? (i := 2) rfl) (List.mem_of_getElem? (i := 3) rfl) (List.mem_of_getElem? (i := 4) rfl) (by decide) at_128 rfl rfl (lenOf (ps := [(.array .byte), .int]) (r := some .int) (by decide) rfl) rfl (Nat.le_of_eq rfl) (by decide) (by decide) (by decide) (by decide) ?_
    rintro _ _ ⟨rfl, rfl⟩
    show Go _ _ _ _ _ _ _ _ _ _ _ _ [(a32, IA Z .byte (ints [b33, b34, b35, b36, b37, b38]))] 1 6 131 #[.val (.int x0), .val (.int x1), .val (.int x2), .val (.int (6 : Int32)), .val (.int v31), .val (.ref a32), .unset] [(.int (f_u8 (own_el [b33, b34, b35, b36, b37, b38] v31) (own_el [b33, b34, b35, b36, b37, b38] (v31 + (1 : Int32))) (own_el [b33, b34, b35, b36, b37, b38] (v31 + (2 : Int32))) (own_el [b33, b34, b35, b36, b37, b38] (v31 + (3 : Int32))) (6 : Int32) v31))]
    refine g_istore C 133 #[.val (.int x0), .val (.int x1), .val (.int x2), .val (.int (6 : Int32)), .val (.int v31), .val (.ref a32), .val (.int (f_u8 (own_el [b33, b34, b35, b36, b37, b38] v31) (own_el [b33, b34, b35, b36, b37, b38] (v31 + (1 : Int32))) (own_el [b33, b34, b35, b36, b37, b38] (v31 + (2 : Int32))) (own_el [b33, b34, b35, b36, b37, b38] (v31 + (3 : Int32))) (6 : Int32) v31))] at_131 rfl rfl ?_
    generalize hv39 : (f_u8 (own_el [b33, b34, b35, b36, b37, b38] v31) (own_el [b33, b34, b35, b36, b37, b38] (v31 + (1 : Int32))) (own_el [b33, b34, b35, b36, b37, b38] (v31 + (2 : Int32))) (own_el [b33, b34, b35, b36, b37, b38] (v31 + (3 : Int32))) (6 : Int32) v31) = v39
    refine g_iload C 135 at_133 rfl rfl ?_
    refine g_aload C 137 at_135 rfl rfl rfl ?_
    refine g_iload C 139 at_137 rfl rfl ?_
    refine g_static C 142 1 (argsL := [(.ref a32), (.int v31)]) (St := [(.int v39)]) (con_f_exp l Z a0 C.2.2.1 h0 [(a32, IA Z .byte (ints [b33, b34, b35, b36, b37, b38]))] 0 a32 [b33, b34, b35, b36, b37, b38] (6 : Int32) v31 rfl (by subst hv31; exact (own_at _ _ (by decide)).1) (by subst hv31; exact Int.lt_of_lt_of_le (own_at _ _ (by decide)).2 (by show (6 : Int32).toInt ≤ ((6 : Nat) : Int); decide)) (Nat.le_of_ble_eq_true rfl) rfl) (List.mem_of_getElem? (i := 5) rfl) (List.mem_of_getElem? (i := 6) rfl) (List.mem_of_getElem? (i := 7) rfl) (List.mem_of_getElem? (i := 8) rfl) (by decide) at_139 rfl rfl (lenOf (ps := [(.array .byte), .int]) (r := some .int) (by decide) rfl) rfl (Nat.le_of_eq rfl) (by decide) (by decide) (by decide) (by decide) ?_
    rintro _ _ ⟨rfl, rfl⟩
    show Go _ _ _ _ _ _ _ _ _ _ _ _ [(a32, IA Z .byte (ints [b33, b34, b35, b36, b37, b38]))] 1 6 142 #[.val (.int x0), .val (.int x1), .val (.int x2), .val (.int (6 : Int32)), .val (.int v31), .val (.ref a32), .val (.int v39)] [(.int (f_exp (own_el [b33, b34, b35, b36, b37, b38] v31) (own_el [b33, b34, b35, b36, b37, b38] (v31 + (1 : Int32))) (own_el [b33, b34, b35, b36, b37, b38] (v31 + (2 : Int32))) (own_el [b33, b34, b35, b36, b37, b38] (v31 + (3 : Int32))) (6 : Int32) v31)), (.int v39)]
    refine g_icN C 145 at_142 (teq ((by subst_vars; exact own_law _ _ _ _ _ _ (own_at _ _ (by decide)).1 (by exact Int.lt_of_lt_of_le (own_at _ _ (by decide)).2 (by decide)) (by decide)) : v39 = (f_exp (own_el [b33, b34, b35, b36, b37, b38] v31) (own_el [b33, b34, b35, b36, b37, b38] (v31 + (1 : Int32))) (own_el [b33, b34, b35, b36, b37, b38] (v31 + (2 : Int32))) (own_el [b33, b34, b35, b36, b37, b38] (v31 + (3 : Int32))) (6 : Int32) v31))).2 rfl ?_
    refine g_iconst C 146 (1 : Int32) at_145 rfl rfl ?_
    refine g_goto C 150 at_146 (by decide) (by decide) ?_
    exact g_nret C (by simp) (z' := (1 : Int32)) (by decide) at_150 (by decide) (by decide) rfl
  · rw [hn8]
    refine g_istoreN C 7 #[.val (.int x0), .val (.int x1), .val (.int x2), .val (.int (7 : Int32)), .unset, .unset, .unset] at_6 rfl rfl ?_
    refine g_iloadN C 8 at_7 rfl rfl ?_
    refine g_iconst C 9 (3 : Int32) at_8 rfl rfl ?_
    refine g_iushr C 10 at_9 rfl ?_
    refine g_iloadN C 11 at_10 rfl rfl ?_
    refine g_irem C 12 at_11 rfl (by decide) ?_
    refine g_istore C 14 #[.val (.int x0), .val (.int x1), .val (.int x2), .val (.int (7 : Int32)), .val (.int (((x2.toUInt32 >>> ((3 : Int32) &&& 31).toUInt32).toInt32) % (7 : Int32))), .unset, .unset] at_12 rfl rfl ?_
    generalize hv40 : (((x2.toUInt32 >>> ((3 : Int32) &&& 31).toUInt32).toInt32) % (7 : Int32)) = v40
    refine g_iloadN C 15 at_14 rfl rfl ?_
    refine g_newarray C 17 (ints [(0 : Int32), (0 : Int32), (0 : Int32), (0 : Int32), (0 : Int32), (0 : Int32), (0 : Int32)]) 7 (List.mem_of_getElem? (i := 0) rfl) at_15 rfl (by decide) (by decide) (by decide) (by decide) (by decide) rfl ?_
    intro a41
    show Go _ _ _ _ _ _ _ _ _ _ _ _ [(a41, IA Z .byte (ints [(0 : Int32), (0 : Int32), (0 : Int32), (0 : Int32), (0 : Int32), (0 : Int32), (0 : Int32)]))] 1 7 17 #[.val (.int x0), .val (.int x1), .val (.int x2), .val (.int (7 : Int32)), .val (.int v40), .unset, .unset] [(.ref a41)]
    refine g_astore C 19 #[.val (.int x0), .val (.int x1), .val (.int x2), .val (.int (7 : Int32)), .val (.int v40), .val (.ref a41), .unset] at_17 rfl rfl rfl ?_
    refine g_aload C 21 at_19 rfl rfl rfl ?_
    refine g_iconst C 22 (0 : Int32) at_21 rfl rfl ?_
    refine g_iloadN C 23 at_22 rfl rfl ?_
    refine g_i2b C 24 at_23 rfl ?_
    refine g_bastore C 25 (i := 0) [(nar .byte (x0.toInt8.toInt32)), (0 : Int32), (0 : Int32), (0 : Int32), (0 : Int32), (0 : Int32), (0 : Int32)] [(a41, IA Z .byte (ints [(nar .byte (x0.toInt8.toInt32)), (0 : Int32), (0 : Int32), (0 : Int32), (0 : Int32), (0 : Int32), (0 : Int32)]))] rfl at_24 rfl (by decide) (Nat.le_of_ble_eq_true rfl) rfl rfl ?_
    generalize hb42 : (nar .byte (x0.toInt8.toInt32)) = b42
    refine g_iloadN C 26 at_25 rfl rfl ?_
    refine g_iconst C 27 (1 : Int32) at_26 rfl rfl ?_
    refine g_icN C 30 at_27 (tlt ((by decide) : (1 : Int32) < (7 : Int32))).2.2.2 rfl ?_
    refine g_aload C 32 at_30 rfl rfl rfl ?_
    refine g_iconst C 33 (1 : Int32) at_32 rfl rfl ?_
    refine g_iloadN C 34 at_33 rfl rfl ?_
    refine g_bipush C 36 (8 : Int32) at_34 rfl rfl ?_
    refine g_iushr C 37 at_36 rfl ?_
    refine g_i2b C 38 at_37 rfl ?_
    refine g_bastore C 39 (i := 0) [b42, (nar .byte (((x0.toUInt32 >>> ((8 : Int32) &&& 31).toUInt32).toInt32).toInt8.toInt32)), (0 : Int32), (0 : Int32), (0 : Int32), (0 : Int32), (0 : Int32)] [(a41, IA Z .byte (ints [b42, (nar .byte (((x0.toUInt32 >>> ((8 : Int32) &&& 31).toUInt32).toInt32).toInt8.toInt32)), (0 : Int32), (0 : Int32), (0 : Int32), (0 : Int32), (0 : Int32)]))] rfl at_38 rfl (by decide) (Nat.le_of_ble_eq_true rfl) rfl rfl ?_
    generalize hb43 : (nar .byte (((x0.toUInt32 >>> ((8 : Int32) &&& 31).toUInt32).toInt32).toInt8.toInt32)) = b43
    refine g_iloadN C 40 at_39 rfl rfl ?_
    refine g_iconst C 41 (2 : Int32) at_40 rfl rfl ?_
    refine g_icN C 44 at_41 (tlt ((by decide) : (2 : Int32) < (7 : Int32))).2.2.2 rfl ?_
    refine g_aload C 46 at_44 rfl rfl rfl ?_
    refine g_iconst C 47 (2 : Int32) at_46 rfl rfl ?_
    refine g_iloadN C 48 at_47 rfl rfl ?_
    refine g_bipush C 50 (16 : Int32) at_48 rfl rfl ?_
    refine g_iushr C 51 at_50 rfl ?_
    refine g_i2b C 52 at_51 rfl ?_
    refine g_bastore C 53 (i := 0) [b42, b43, (nar .byte (((x0.toUInt32 >>> ((16 : Int32) &&& 31).toUInt32).toInt32).toInt8.toInt32)), (0 : Int32), (0 : Int32), (0 : Int32), (0 : Int32)] [(a41, IA Z .byte (ints [b42, b43, (nar .byte (((x0.toUInt32 >>> ((16 : Int32) &&& 31).toUInt32).toInt32).toInt8.toInt32)), (0 : Int32), (0 : Int32), (0 : Int32), (0 : Int32)]))] rfl at_52 rfl (by decide) (Nat.le_of_ble_eq_true rfl) rfl rfl ?_
    generalize hb44 : (nar .byte (((x0.toUInt32 >>> ((16 : Int32) &&& 31).toUInt32).toInt32).toInt8.toInt32)) = b44
    refine g_iloadN C 54 at_53 rfl rfl ?_
    refine g_iconst C 55 (3 : Int32) at_54 rfl rfl ?_
    refine g_icN C 58 at_55 (tlt ((by decide) : (3 : Int32) < (7 : Int32))).2.2.2 rfl ?_
    refine g_aload C 60 at_58 rfl rfl rfl ?_
    refine g_iconst C 61 (3 : Int32) at_60 rfl rfl ?_
    refine g_iloadN C 62 at_61 rfl rfl ?_
    refine g_bipush C 64 (24 : Int32) at_62 rfl rfl ?_
    refine g_iushr C 65 at_64 rfl ?_
    refine g_i2b C 66 at_65 rfl ?_
    refine g_bastore C 67 (i := 0) [b42, b43, b44, (nar .byte (((x0.toUInt32 >>> ((24 : Int32) &&& 31).toUInt32).toInt32).toInt8.toInt32)), (0 : Int32), (0 : Int32), (0 : Int32)] [(a41, IA Z .byte (ints [b42, b43, b44, (nar .byte (((x0.toUInt32 >>> ((24 : Int32) &&& 31).toUInt32).toInt32).toInt8.toInt32)), (0 : Int32), (0 : Int32), (0 : Int32)]))] rfl at_66 rfl (by decide) (Nat.le_of_ble_eq_true rfl) rfl rfl ?_
    generalize hb45 : (nar .byte (((x0.toUInt32 >>> ((24 : Int32) &&& 31).toUInt32).toInt32).toInt8.toInt32)) = b45
    refine g_iloadN C 68 at_67 rfl rfl ?_
    refine g_iconst C 69 (4 : Int32) at_68 rfl rfl ?_
    refine g_icN C 72 at_69 (tlt ((by decide) : (4 : Int32) < (7 : Int32))).2.2.2 rfl ?_
    refine g_aload C 74 at_72 rfl rfl rfl ?_
    refine g_iconst C 75 (4 : Int32) at_74 rfl rfl ?_
    refine g_iloadN C 76 at_75 rfl rfl ?_
    refine g_i2b C 77 at_76 rfl ?_
    refine g_bastore C 78 (i := 0) [b42, b43, b44, b45, (nar .byte (x1.toInt8.toInt32)), (0 : Int32), (0 : Int32)] [(a41, IA Z .byte (ints [b42, b43, b44, b45, (nar .byte (x1.toInt8.toInt32)), (0 : Int32), (0 : Int32)]))] rfl at_77 rfl (by decide) (Nat.le_of_ble_eq_true rfl) rfl rfl ?_
    generalize hb46 : (nar .byte (x1.toInt8.toInt32)) = b46
    refine g_iloadN C 79 at_78 rfl rfl ?_
    refine g_iconst C 80 (5 : Int32) at_79 rfl rfl ?_
    refine g_icN C 83 at_80 (tlt ((by decide) : (5 : Int32) < (7 : Int32))).2.2.2 rfl ?_
    refine g_aload C 85 at_83 rfl rfl rfl ?_
    refine g_iconst C 86 (5 : Int32) at_85 rfl rfl ?_
    refine g_iloadN C 87 at_86 rfl rfl ?_
    refine g_bipush C 89 (8 : Int32) at_87 rfl rfl ?_
    refine g_iushr C 90 at_89 rfl ?_
    refine g_i2b C 91 at_90 rfl ?_
    refine g_bastore C 92 (i := 0) [b42, b43, b44, b45, b46, (nar .byte (((x1.toUInt32 >>> ((8 : Int32) &&& 31).toUInt32).toInt32).toInt8.toInt32)), (0 : Int32)] [(a41, IA Z .byte (ints [b42, b43, b44, b45, b46, (nar .byte (((x1.toUInt32 >>> ((8 : Int32) &&& 31).toUInt32).toInt32).toInt8.toInt32)), (0 : Int32)]))] rfl at_91 rfl (by decide) (Nat.le_of_ble_eq_true rfl) rfl rfl ?_
    generalize hb47 : (nar .byte (((x1.toUInt32 >>> ((8 : Int32) &&& 31).toUInt32).toInt32).toInt8.toInt32)) = b47
    refine g_iloadN C 93 at_92 rfl rfl ?_
    refine g_bipush C 95 (6 : Int32) at_93 rfl rfl ?_
    refine g_icN C 98 at_95 (tlt ((by decide) : (6 : Int32) < (7 : Int32))).2.2.2 rfl ?_
    refine g_aload C 100 at_98 rfl rfl rfl ?_
    refine g_bipush C 102 (6 : Int32) at_100 rfl rfl ?_
    refine g_iloadN C 103 at_102 rfl rfl ?_
    refine g_bipush C 105 (16 : Int32) at_103 rfl rfl ?_
    refine g_iushr C 106 at_105 rfl ?_
    refine g_i2b C 107 at_106 rfl ?_
    refine g_bastore C 108 (i := 0) [b42, b43, b44, b45, b46, b47, (nar .byte (((x1.toUInt32 >>> ((16 : Int32) &&& 31).toUInt32).toInt32).toInt8.toInt32))] [(a41, IA Z .byte (ints [b42, b43, b44, b45, b46, b47, (nar .byte (((x1.toUInt32 >>> ((16 : Int32) &&& 31).toUInt32).toInt32).toInt8.toInt32))]))] rfl at_107 rfl (by decide) (Nat.le_of_ble_eq_true rfl) rfl rfl ?_
    generalize hb48 : (nar .byte (((x1.toUInt32 >>> ((16 : Int32) &&& 31).toUInt32).toInt32).toInt8.toInt32)) = b48
    refine g_iloadN C 109 at_108 rfl rfl ?_
    refine g_bipush C 111 (7 : Int32) at_109 rfl rfl ?_
    refine g_icY C 124 at_111 (flt ((by decide) : ¬ ((7 : Int32) < (7 : Int32)))).2.2.2 (by decide) (by decide) ?_
    refine g_aload C 126 at_124 rfl rfl rfl ?_
    refine g_iload C 128 at_126 rfl rfl ?_
    refine g_static C 131 0 (argsL := [(.ref a41), (.int v40)]) (St := []) (con_f_u8 l Z a0 C.2.2.1 h0 [(a41, IA Z .byte (ints [b42, b43, b44, b45, b46, b47, b48]))] 0 a41 [b42, b43, b44, b45, b46, b47, b48] (7 : Int32) v40 rfl (by subst hv40; exact (own_at _ _ (by decide)).1) (by subst hv40; exact Int.lt_of_lt_of_le (own_at _ _ (by decide)).2 (by show (7 : Int32).toInt ≤ ((7 : Nat) : Int); decide)) (Nat.le_of_ble_eq_true rfl) rfl) (List.mem_of_getElem? (i := 1) rfl) (List.mem_of_getElem? (i := 2) rfl) (List.mem_of_getElem? (i := 3) rfl) (List.mem_of_getElem? (i := 4) rfl) (by decide) at_128 rfl rfl (lenOf (ps := [(.array .byte), .int]) (r := some .int) (by decide) rfl) rfl (Nat.le_of_eq rfl) (by decide) (by decide) (by decide) (by decide) ?_
    rintro _ _ ⟨rfl, rfl⟩
    show Go _ _ _ _ _ _ _ _ _ _ _ _ [(a41, IA Z .byte (ints [b42, b43, b44, b45, b46, b47, b48]))] 1 7 131 #[.val (.int x0), .val (.int x1), .val (.int x2), .val (.int (7 : Int32)), .val (.int v40), .val (.ref a41), .unset] [(.int (f_u8 (own_el [b42, b43, b44, b45, b46, b47, b48] v40) (own_el [b42, b43, b44, b45, b46, b47, b48] (v40 + (1 : Int32))) (own_el [b42, b43, b44, b45, b46, b47, b48] (v40 + (2 : Int32))) (own_el [b42, b43, b44, b45, b46, b47, b48] (v40 + (3 : Int32))) (7 : Int32) v40))]
    refine g_istore C 133 #[.val (.int x0), .val (.int x1), .val (.int x2), .val (.int (7 : Int32)), .val (.int v40), .val (.ref a41), .val (.int (f_u8 (own_el [b42, b43, b44, b45, b46, b47, b48] v40) (own_el [b42, b43, b44, b45, b46, b47, b48] (v40 + (1 : Int32))) (own_el [b42, b43, b44, b45, b46, b47, b48] (v40 + (2 : Int32))) (own_el [b42, b43, b44, b45, b46, b47, b48] (v40 + (3 : Int32))) (7 : Int32) v40))] at_131 rfl rfl ?_
    generalize hv49 : (f_u8 (own_el [b42, b43, b44, b45, b46, b47, b48] v40) (own_el [b42, b43, b44, b45, b46, b47, b48] (v40 + (1 : Int32))) (own_el [b42, b43, b44, b45, b46, b47, b48] (v40 + (2 : Int32))) (own_el [b42, b43, b44, b45, b46, b47, b48] (v40 + (3 : Int32))) (7 : Int32) v40) = v49
    refine g_iload C 135 at_133 rfl rfl ?_
    refine g_aload C 137 at_135 rfl rfl rfl ?_
    refine g_iload C 139 at_137 rfl rfl ?_
    refine g_static C 142 1 (argsL := [(.ref a41), (.int v40)]) (St := [(.int v49)]) (con_f_exp l Z a0 C.2.2.1 h0 [(a41, IA Z .byte (ints [b42, b43, b44, b45, b46, b47, b48]))] 0 a41 [b42, b43, b44, b45, b46, b47, b48] (7 : Int32) v40 rfl (by subst hv40; exact (own_at _ _ (by decide)).1) (by subst hv40; exact Int.lt_of_lt_of_le (own_at _ _ (by decide)).2 (by show (7 : Int32).toInt ≤ ((7 : Nat) : Int); decide)) (Nat.le_of_ble_eq_true rfl) rfl) (List.mem_of_getElem? (i := 5) rfl) (List.mem_of_getElem? (i := 6) rfl) (List.mem_of_getElem? (i := 7) rfl) (List.mem_of_getElem? (i := 8) rfl) (by decide) at_139 rfl rfl (lenOf (ps := [(.array .byte), .int]) (r := some .int) (by decide) rfl) rfl (Nat.le_of_eq rfl) (by decide) (by decide) (by decide) (by decide) ?_
    rintro _ _ ⟨rfl, rfl⟩
    show Go _ _ _ _ _ _ _ _ _ _ _ _ [(a41, IA Z .byte (ints [b42, b43, b44, b45, b46, b47, b48]))] 1 7 142 #[.val (.int x0), .val (.int x1), .val (.int x2), .val (.int (7 : Int32)), .val (.int v40), .val (.ref a41), .val (.int v49)] [(.int (f_exp (own_el [b42, b43, b44, b45, b46, b47, b48] v40) (own_el [b42, b43, b44, b45, b46, b47, b48] (v40 + (1 : Int32))) (own_el [b42, b43, b44, b45, b46, b47, b48] (v40 + (2 : Int32))) (own_el [b42, b43, b44, b45, b46, b47, b48] (v40 + (3 : Int32))) (7 : Int32) v40)), (.int v49)]
    refine g_icN C 145 at_142 (teq ((by subst_vars; exact own_law _ _ _ _ _ _ (own_at _ _ (by decide)).1 (by exact Int.lt_of_lt_of_le (own_at _ _ (by decide)).2 (by decide)) (by decide)) : v49 = (f_exp (own_el [b42, b43, b44, b45, b46, b47, b48] v40) (own_el [b42, b43, b44, b45, b46, b47, b48] (v40 + (1 : Int32))) (own_el [b42, b43, b44, b45, b46, b47, b48] (v40 + (2 : Int32))) (own_el [b42, b43, b44, b45, b46, b47, b48] (v40 + (3 : Int32))) (7 : Int32) v40))).2 rfl ?_
    refine g_iconst C 146 (1 : Int32) at_145 rfl rfl ?_
    refine g_goto C 150 at_146 (by decide) (by decide) ?_
    exact g_nret C (by simp) (z' := (1 : Int32)) (by decide) at_150 (by decide) (by decide) rfl
  · rw [hn8]
    refine g_istoreN C 7 #[.val (.int x0), .val (.int x1), .val (.int x2), .val (.int (8 : Int32)), .unset, .unset, .unset] at_6 rfl rfl ?_
    refine g_iloadN C 8 at_7 rfl rfl ?_
    refine g_iconst C 9 (3 : Int32) at_8 rfl rfl ?_
    refine g_iushr C 10 at_9 rfl ?_
    refine g_iloadN C 11 at_10 rfl rfl ?_
    refine g_irem C 12 at_11 rfl (by decide) ?_
    refine g_istore C 14 #[.val (.int x0), .val (.int x1), .val (.int x2), .val (.int (8 : Int32)), .val (.int (((x2.toUInt32 >>> ((3 : Int32) &&& 31).toUInt32).toInt32) % (8 : Int32))), .unset, .unset] at_12 rfl rfl ?_
    generalize hv50 : (((x2.toUInt32 >>> ((3 : Int32) &&& 31).toUInt32).toInt32) % (8 : Int32)) = v50
    refine g_iloadN C 15 at_14 rfl rfl ?_
    refine g_newarray C 17 (ints [(0 : Int32), (0 : Int32), (0 : Int32), (0 : Int32), (0 : Int32), (0 : Int32), (0 : Int32), (0 : Int32)]) 8 (List.mem_of_getElem? (i := 0) rfl) at_15 rfl (by decide) (by decide) (by decide) (by decide) (by decide) rfl ?_
    intro a51
    show Go _ _ _ _ _ _ _ _ _ _ _ _ [(a51, IA Z .byte (ints [(0 : Int32), (0 : Int32), (0 : Int32), (0 : Int32), (0 : Int32), (0 : Int32), (0 : Int32), (0 : Int32)]))] 1 8 17 #[.val (.int x0), .val (.int x1), .val (.int x2), .val (.int (8 : Int32)), .val (.int v50), .unset, .unset] [(.ref a51)]
    refine g_astore C 19 #[.val (.int x0), .val (.int x1), .val (.int x2), .val (.int (8 : Int32)), .val (.int v50), .val (.ref a51), .unset] at_17 rfl rfl rfl ?_
    refine g_aload C 21 at_19 rfl rfl rfl ?_
    refine g_iconst C 22 (0 : Int32) at_21 rfl rfl ?_
    refine g_iloadN C 23 at_22 rfl rfl ?_
    refine g_i2b C 24 at_23 rfl ?_
    refine g_bastore C 25 (i := 0) [(nar .byte (x0.toInt8.toInt32)), (0 : Int32), (0 : Int32), (0 : Int32), (0 : Int32), (0 : Int32), (0 : Int32), (0 : Int32)] [(a51, IA Z .byte (ints [(nar .byte (x0.toInt8.toInt32)), (0 : Int32), (0 : Int32), (0 : Int32), (0 : Int32), (0 : Int32), (0 : Int32), (0 : Int32)]))] rfl at_24 rfl (by decide) (Nat.le_of_ble_eq_true rfl) rfl rfl ?_
    generalize hb52 : (nar .byte (x0.toInt8.toInt32)) = b52
    refine g_iloadN C 26 at_25 rfl rfl ?_
    refine g_iconst C 27 (1 : Int32) at_26 rfl rfl ?_
    refine g_icN C 30 at_27 (tlt ((by decide) : (1 : Int32) < (8 : Int32))).2.2.2 rfl ?_
    refine g_aload C 32 at_30 rfl rfl rfl ?_
    refine g_iconst C 33 (1 : Int32) at_32 rfl rfl ?_
    refine g_iloadN C 34 at_33 rfl rfl ?_
    refine g_bipush C 36 (8 : Int32) at_34 rfl rfl ?_
    refine g_iushr C 37 at_36 rfl ?_
    refine g_i2b C 38 at_37 rfl ?_
    refine g_bastore C 39 (i := 0) [b52, (nar .byte (((x0.toUInt32 >>> ((8 : Int32) &&& 31).toUInt32).toInt32).toInt8.toInt32)), (0 : Int32), (0 : Int32), (0 : Int32), (0 : Int32), (0 : Int32), (0 : Int32)] [(a51, IA Z .byte (ints [b52, (nar .byte (((x0.toUInt32 >>> ((8 : Int32) &&& 31).toUInt32).toInt32).toInt8.toInt32)), (0 : Int32), (0 : Int32), (0 : Int32), (0 : Int32), (0 : Int32), (0 : Int32)]))] rfl at_38 rfl (by decide) (Nat.le_of_ble_eq_true rfl) rfl rfl ?_
    generalize hb53 : (nar .byte (((x0.toUInt32 >>> ((8 : Int32) &&& 31).toUInt32).toInt32).toInt8.toInt32)) = b53
    refine g_iloadN C 40 at_39 rfl rfl ?_
    refine g_iconst C 41 (2 : Int32) at_40 rfl rfl ?_
    refine g_icN C 44 at_41 (tlt ((by decide) : (2 : Int32) < (8 : Int32))).2.2.2 rfl ?_
    refine g_aload C 46 at_44 rfl rfl rfl ?_
    refine g_iconst C 47 (2 : Int32) at_46 rfl rfl ?_
    refine g_iloadN C 48 at_47 rfl rfl ?_
    refine g_bipush C 50 (16 : Int32) at_48 rfl rfl ?_
    refine g_iushr C 51 at_50 rfl ?_
    refine g_i2b C 52 at_51 rfl ?_
    refine g_bastore C 53 (i := 0) [b52, b53, (nar .byte (((x0.toUInt32 >>> ((16 : Int32) &&& 31).toUInt32).toInt32).toInt8.toInt32)), (0 : Int32), (0 : Int32), (0 : Int32), (0 : Int32), (0 : Int32)] [(a51, IA Z .byte (ints [b52, b53, (nar .byte (((x0.toUInt32 >>> ((16 : Int32) &&& 31).toUInt32).toInt32).toInt8.toInt32)), (0 : Int32), (0 : Int32), (0 : Int32), (0 : Int32), (0 : Int32)]))] rfl at_52 rfl (by decide) (Nat.le_of_ble_eq_true rfl) rfl rfl ?_
    generalize hb54 : (nar .byte (((x0.toUInt32 >>> ((16 : Int32) &&& 31).toUInt32).toInt32).toInt8.toInt32)) = b54
    refine g_iloadN C 54 at_53 rfl rfl ?_
    refine g_iconst C 55 (3 : Int32) at_54 rfl rfl ?_
    refine g_icN C 58 at_55 (tlt ((by decide) : (3 : Int32) < (8 : Int32))).2.2.2 rfl ?_
    refine g_aload C 60 at_58 rfl rfl rfl ?_
    refine g_iconst C 61 (3 : Int32) at_60 rfl rfl ?_
    refine g_iloadN C 62 at_61 rfl rfl ?_
    refine g_bipush C 64 (24 : Int32) at_62 rfl rfl ?_
    refine g_iushr C 65 at_64 rfl ?_
    refine g_i2b C 66 at_65 rfl ?_
    refine g_bastore C 67 (i := 0) [b52, b53, b54, (nar .byte (((x0.toUInt32 >>> ((24 : Int32) &&& 31).toUInt32).toInt32).toInt8.toInt32)), (0 : Int32), (0 : Int32), (0 : Int32), (0 : Int32)] [(a51, IA Z .byte (ints [b52, b53, b54, (nar .byte (((x0.toUInt32 >>> ((24 : Int32) &&& 31).toUInt32).toInt32).toInt8.toInt32)), (0 : Int32), (0 : Int32), (0 : Int32), (0 : Int32)]))] rfl at_66 rfl (by decide) (Nat.le_of_ble_eq_true rfl) rfl rfl ?_
    generalize hb55 : (nar .byte (((x0.toUInt32 >>> ((24 : Int32) &&& 31).toUInt32).toInt32).toInt8.toInt32)) = b55
    refine g_iloadN C 68 at_67 rfl rfl ?_
    refine g_iconst C 69 (4 : Int32) at_68 rfl rfl ?_
    refine g_icN C 72 at_69 (tlt ((by decide) : (4 : Int32) < (8 : Int32))).2.2.2 rfl ?_
    refine g_aload C 74 at_72 rfl rfl rfl ?_
    refine g_iconst C 75 (4 : Int32) at_74 rfl rfl ?_
    refine g_iloadN C 76 at_75 rfl rfl ?_
    refine g_i2b C 77 at_76 rfl ?_
    refine g_bastore C 78 (i := 0) [b52, b53, b54, b55, (nar .byte (x1.toInt8.toInt32)), (0 : Int32), (0 : Int32), (0 : Int32)] [(a51, IA Z .byte (ints [b52, b53, b54, b55, (nar .byte (x1.toInt8.toInt32)), (0 : Int32), (0 : Int32), (0 : Int32)]))] rfl at_77 rfl (by decide) (Nat.le_of_ble_eq_true rfl) rfl rfl ?_
    generalize hb56 : (nar .byte (x1.toInt8.toInt32)) = b56
    refine g_iloadN C 79 at_78 rfl rfl ?_
    refine g_iconst C 80 (5 : Int32) at_79 rfl rfl ?_
    refine g_icN C 83 at_80 (tlt ((by decide) : (5 : Int32) < (8 : Int32))).2.2.2 rfl ?_
    refine g_aload C 85 at_83 rfl rfl rfl ?_
    refine g_iconst C 86 (5 : Int32) at_85 rfl rfl ?_
    refine g_iloadN C 87 at_86 rfl rfl ?_
    refine g_bipush C 89 (8 : Int32) at_87 rfl rfl ?_
    refine g_iushr C 90 at_89 rfl ?_
    refine g_i2b C 91 at_90 rfl ?_
    refine g_bastore C 92 (i := 0) [b52, b53, b54, b55, b56, (nar .byte (((x1.toUInt32 >>> ((8 : Int32) &&& 31).toUInt32).toInt32).toInt8.toInt32)), (0 : Int32), (0 : Int32)] [(a51, IA Z .byte (ints [b52, b53, b54, b55, b56, (nar .byte (((x1.toUInt32 >>> ((8 : Int32) &&& 31).toUInt32).toInt32).toInt8.toInt32)), (0 : Int32), (0 : Int32)]))] rfl at_91 rfl (by decide) (Nat.le_of_ble_eq_true rfl) rfl rfl ?_
    generalize hb57 : (nar .byte (((x1.toUInt32 >>> ((8 : Int32) &&& 31).toUInt32).toInt32).toInt8.toInt32)) = b57
    refine g_iloadN C 93 at_92 rfl rfl ?_
    refine g_bipush C 95 (6 : Int32) at_93 rfl rfl ?_
    refine g_icN C 98 at_95 (tlt ((by decide) : (6 : Int32) < (8 : Int32))).2.2.2 rfl ?_
    refine g_aload C 100 at_98 rfl rfl rfl ?_
    refine g_bipush C 102 (6 : Int32) at_100 rfl rfl ?_
    refine g_iloadN C 103 at_102 rfl rfl ?_
    refine g_bipush C 105 (16 : Int32) at_103 rfl rfl ?_
    refine g_iushr C 106 at_105 rfl ?_
    refine g_i2b C 107 at_106 rfl ?_
    refine g_bastore C 108 (i := 0) [b52, b53, b54, b55, b56, b57, (nar .byte (((x1.toUInt32 >>> ((16 : Int32) &&& 31).toUInt32).toInt32).toInt8.toInt32)), (0 : Int32)] [(a51, IA Z .byte (ints [b52, b53, b54, b55, b56, b57, (nar .byte (((x1.toUInt32 >>> ((16 : Int32) &&& 31).toUInt32).toInt32).toInt8.toInt32)), (0 : Int32)]))] rfl at_107 rfl (by decide) (Nat.le_of_ble_eq_true rfl) rfl rfl ?_
    generalize hb58 : (nar .byte (((x1.toUInt32 >>> ((16 : Int32) &&& 31).toUInt32).toInt32).toInt8.toInt32)) = b58
    refine g_iloadN C 109 at_108 rfl rfl ?_
    refine g_bipush C 111 (7 : Int32) at_109 rfl rfl ?_
    refine g_icN C 114 at_111 (tlt ((by decide) : (7 : Int32) < (8 : Int32))).2.2.2 rfl ?_
    refine g_aload C 116 at_114 rfl rfl rfl ?_
    refine g_bipush C 118 (7 : Int32) at_116 rfl rfl ?_
    refine g_iloadN C 119 at_118 rfl rfl ?_
    refine g_bipush C 121 (24 : Int32) at_119 rfl rfl ?_
    refine g_iushr C 122 at_121 rfl ?_
    refine g_i2b C 123 at_122 rfl ?_
    refine g_bastore C 124 (i := 0) [b52, b53, b54, b55, b56, b57, b58, (nar .byte (((x1.toUInt32 >>> ((24 : Int32) &&& 31).toUInt32).toInt32).toInt8.toInt32))] [(a51, IA Z .byte (ints [b52, b53, b54, b55, b56, b57, b58, (nar .byte (((x1.toUInt32 >>> ((24 : Int32) &&& 31).toUInt32).toInt32).toInt8.toInt32))]))] rfl at_123 rfl (by decide) (Nat.le_of_ble_eq_true rfl) rfl rfl ?_
    generalize hb59 : (nar .byte (((x1.toUInt32 >>> ((24 : Int32) &&& 31).toUInt32).toInt32).toInt8.toInt32)) = b59
    refine g_aload C 126 at_124 rfl rfl rfl ?_
    refine g_iload C 128 at_126 rfl rfl ?_
    refine g_static C 131 0 (argsL := [(.ref a51), (.int v50)]) (St := []) (con_f_u8 l Z a0 C.2.2.1 h0 [(a51, IA Z .byte (ints [b52, b53, b54, b55, b56, b57, b58, b59]))] 0 a51 [b52, b53, b54, b55, b56, b57, b58, b59] (8 : Int32) v50 rfl (by subst hv50; exact (own_at _ _ (by decide)).1) (by subst hv50; exact Int.lt_of_lt_of_le (own_at _ _ (by decide)).2 (by show (8 : Int32).toInt ≤ ((8 : Nat) : Int); decide)) (Nat.le_of_ble_eq_true rfl) rfl) (List.mem_of_getElem? (i := 1) rfl) (List.mem_of_getElem? (i := 2) rfl) (List.mem_of_getElem? (i := 3) rfl) (List.mem_of_getElem? (i := 4) rfl) (by decide) at_128 rfl rfl (lenOf (ps := [(.array .byte), .int]) (r := some .int) (by decide) rfl) rfl (Nat.le_of_eq rfl) (by decide) (by decide) (by decide) (by decide) ?_
    rintro _ _ ⟨rfl, rfl⟩
    show Go _ _ _ _ _ _ _ _ _ _ _ _ [(a51, IA Z .byte (ints [b52, b53, b54, b55, b56, b57, b58, b59]))] 1 8 131 #[.val (.int x0), .val (.int x1), .val (.int x2), .val (.int (8 : Int32)), .val (.int v50), .val (.ref a51), .unset] [(.int (f_u8 (own_el [b52, b53, b54, b55, b56, b57, b58, b59] v50) (own_el [b52, b53, b54, b55, b56, b57, b58, b59] (v50 + (1 : Int32))) (own_el [b52, b53, b54, b55, b56, b57, b58, b59] (v50 + (2 : Int32))) (own_el [b52, b53, b54, b55, b56, b57, b58, b59] (v50 + (3 : Int32))) (8 : Int32) v50))]
    refine g_istore C 133 #[.val (.int x0), .val (.int x1), .val (.int x2), .val (.int (8 : Int32)), .val (.int v50), .val (.ref a51), .val (.int (f_u8 (own_el [b52, b53, b54, b55, b56, b57, b58, b59] v50) (own_el [b52, b53, b54, b55, b56, b57, b58, b59] (v50 + (1 : Int32))) (own_el [b52, b53, b54, b55, b56, b57, b58, b59] (v50 + (2 : Int32))) (own_el [b52, b53, b54, b55, b56, b57, b58, b59] (v50 + (3 : Int32))) (8 : Int32) v50))] at_131 rfl rfl ?_
    generalize hv60 : (f_u8 (own_el [b52, b53, b54, b55, b56, b57, b58, b59] v50) (own_el [b52, b53, b54, b55, b56, b57, b58, b59] (v50 + (1 : Int32))) (own_el [b52, b53, b54, b55, b56, b57, b58, b59] (v50 + (2 : Int32))) (own_el [b52, b53, b54, b55, b56, b57, b58, b59] (v50 + (3 : Int32))) (8 : Int32) v50) = v60
    refine g_iload C 135 at_133 rfl rfl ?_
    refine g_aload C 137 at_135 rfl rfl rfl ?_
    refine g_iload C 139 at_137 rfl rfl ?_
    refine g_static C 142 1 (argsL := [(.ref a51), (.int v50)]) (St := [(.int v60)]) (con_f_exp l Z a0 C.2.2.1 h0 [(a51, IA Z .byte (ints [b52, b53, b54, b55, b56, b57, b58, b59]))] 0 a51 [b52, b53, b54, b55, b56, b57, b58, b59] (8 : Int32) v50 rfl (by subst hv50; exact (own_at _ _ (by decide)).1) (by subst hv50; exact Int.lt_of_lt_of_le (own_at _ _ (by decide)).2 (by show (8 : Int32).toInt ≤ ((8 : Nat) : Int); decide)) (Nat.le_of_ble_eq_true rfl) rfl) (List.mem_of_getElem? (i := 5) rfl) (List.mem_of_getElem? (i := 6) rfl) (List.mem_of_getElem? (i := 7) rfl) (List.mem_of_getElem? (i := 8) rfl) (by decide) at_139 rfl rfl (lenOf (ps := [(.array .byte), .int]) (r := some .int) (by decide) rfl) rfl (Nat.le_of_eq rfl) (by decide) (by decide) (by decide) (by decide) ?_
    rintro _ _ ⟨rfl, rfl⟩
    show Go _ _ _ _ _ _ _ _ _ _ _ _ [(a51, IA Z .byte (ints [b52, b53, b54, b55, b56, b57, b58, b59]))] 1 8 142 #[.val (.int x0), .val (.int x1), .val (.int x2), .val (.int (8 : Int32)), .val (.int v50), .val (.ref a51), .val (.int v60)] [(.int (f_exp (own_el [b52, b53, b54, b55, b56, b57, b58, b59] v50) (own_el [b52, b53, b54, b55, b56, b57, b58, b59] (v50 + (1 : Int32))) (own_el [b52, b53, b54, b55, b56, b57, b58, b59] (v50 + (2 : Int32))) (own_el [b52, b53, b54, b55, b56, b57, b58, b59] (v50 + (3 : Int32))) (8 : Int32) v50)), (.int v60)]
    refine g_icN C 145 at_142 (teq ((by subst_vars; exact own_law _ _ _ _ _ _ (own_at _ _ (by decide)).1 (by exact Int.lt_of_lt_of_le (own_at _ _ (by decide)).2 (by decide)) (by decide)) : v60 = (f_exp (own_el [b52, b53, b54, b55, b56, b57, b58, b59] v50) (own_el [b52, b53, b54, b55, b56, b57, b58, b59] (v50 + (1 : Int32))) (own_el [b52, b53, b54, b55, b56, b57, b58, b59] (v50 + (2 : Int32))) (own_el [b52, b53, b54, b55, b56, b57, b58, b59] (v50 + (3 : Int32))) (8 : Int32) v50))).2 rfl ?_
    refine g_iconst C 146 (1 : Int32) at_145 rfl rfl ?_
    refine g_goto C 150 at_146 (by decide) (by decide) ?_
    exact g_nret C (by simp) (z' := (1 : Int32)) (by decide) at_150 (by decide) (by decide) rfl
set_option maxRecDepth 65536 in
set_option maxHeartbeats 40000000 in
theorem comes_1 {Post : Tables → Env → Array Value → State → Outcome → State → Prop} (hpost : ∀ tb e args s v u, (limb_1_1.after args s (.returned v) u = true ∧ limb_1_2.after args s (.returned v) u = true ∧ True) → FrameEnd s (.returned v) u (Jvm.fieldLocs frame_1_writes args s ++ Jvm.arrayLocs frame_1_arrays args s ++ Jvm.staticLocs frame_1_statics s) 16 128 → Post tb e args s (.returned v) u) :
    ArmFor flags0 classFile x code maxLocals ret World_1 tables_1 room_1 Calls_1 rest_1 Pre_1 Post := by
  intro l hfl _ _ p e ha hc hk s m args below hf hA hF happ hP
  obtain ⟨hcalls, hrest, hpre⟩ := hP
  obtain ⟨-, -, -, hnamed, -, -, -, hat⟩ := (Spec.applies_iff hf).mp happ
  obtain ⟨hg, hn⟩ := and_e (Cond.before_iff.mp (show (Jvm.Cond.and given_1 narrow_1).before args s = true from hpre))
  obtain ⟨hcount, hg0⟩ := and_e hg
  obtain ⟨gi0, hg1⟩ := and_e hg0
  obtain ⟨gi1, hg2⟩ := and_e hg1
  have gi2 := hg2
  obtain ⟨w0, w1, w2, rfl⟩ : ∃ w0 w1 w2 : Value, args = #[w0, w1, w2] := by
    have hs : args.size = 3 := by simpa [Cond.value, given_1] using hcount
    obtain ⟨L⟩ := args
    match L, hs with
    | [w0, w1, w2], _ => exact ⟨w0, w1, w2, rfl⟩
  have hw := fun d (hd : d ∈ tables_1) => atoms_spec (ws := Jvm.Cond.code x code maxLocals ret :: tables_1) hat d (List.mem_cons_of_mem _ hd)
  have hfit : Fit s := fun {y c} hc i hi => by
    obtain ⟨ha, rfl⟩ := Array.getElem?_eq_some_iff.mp hc
    have q := List.all_eq_true.mp ((Array.all_eq_true_iff_forall_mem.mp hF) _ (Array.getElem_mem ha)) i (List.mem_range.mpr hi)
    simpa [Array.getElem?_eq_getElem hi] using q
  obtain ⟨i0, ei0⟩ := is_v gi0
  obtain rfl : w0 = (.int i0) := Option.some.inj ei0
  obtain ⟨i1, ei1⟩ := is_v gi1
  obtain rfl : w1 = (.int i1) := Option.some.inj ei1
  obtain ⟨i2, ei2⟩ := is_v gi2
  obtain rfl : w2 = (.int i2) := Option.some.inj ei2
  obtain ⟨n, o, h1, h2, h3, _, L, rfl, ⟨ds', rfl, -, N⟩, hq⟩ := con_law l s _ hw s.heap i0 i1 i2 s.heap (Wld.nil _) tables_1 p e ha hc hk s m _ below hf ((Spec.applies_iff_loose hf).mp happ).1 ⟨rfl, State.Warmed39.refl s, rfl⟩ trivial
  refine ⟨n, _, h1, h2, h3, hpost _ _ _ _ _ _ ⟨Cond.after_iff.mpr rfl, Cond.after_iff.mpr (eq_i res_at (Term.int_eval (1)) rfl), trivial⟩ ⟨hq.1, hq.2.1, (hq.2.2.sift fun y hy => Or.inr (N y hy)).mono (by decide) (by decide)⟩⟩
theorem main_1_1 : Claimed_1_1 := comes_1 fun _ _ _ _ _ _ h hF => ⟨h.1, hF⟩
theorem main_1_2 : Claimed_1_2 := comes_1 fun _ _ _ _ _ _ h hF => ⟨h.2.1, hF⟩
end Jvm.Pilot.@@N@@
namespace Jvm.Pilot.@@N@@
open Jvm Jvm.ClassFile Sem Op Lib Jvm.Free Jvm.Stand Jvm.Pilot.@@N@@.Jvm.D
/-! MADE BY PROGRAM (witnessworld.py) out of the Statement's table words and the real class files: 9 classes; the members and pool entries that the words name. The judged class is class 1, her method 1. -/
namespace start1
open Jvm.ClassFile
def u (s : String) : CpInfo := .utf8 (stringToUtf16 s)
/-- a pool by its gaps: so many unusable entries, then the entry; so many at the end -/
def gap : Nat → List CpInfo → List CpInfo
  | 0, r => r
  | n + 1, r => .unusable :: gap n r
def poolList (es : List (Nat × CpInfo)) (last : Nat) : List CpInfo := es.foldr (fun e r => gap e.1 (e.2 :: r)) (gap last [])
def pool (es : List (Nat × CpInfo)) (last : Nat) : Array CpInfo := ⟨poolList es last⟩
def fileOf (pool : Array CpInfo) (this : Nat) (attrs : Array Attribute := #[]) (ms : Array MethodInfo := #[]) (fl : Nat := 33) (sup : Nat := 0) (ifs : Array Nat := #[]) (fds : Array FieldInfo := #[]) : ClassFile where
  minorVersion := 0
  majorVersion := 65
  constantPool := pool
  accessFlags := fl
  thisClass := this
  superClass := sup
  interfaces := ifs
  fields := fds
  methods := ms
  attributes := attrs
def plain (name : String) (sup : Option ClassId) : Class where
  name := name
  kind := .ordinary
  loader := none
  accessFlags := 33
  super := sup
  interfaces := #[]
  cf := none
  fields := #[]
  methods := #[]
  instanceTypes := #[]
  staticTypes := #[]
  resolved := #[]
  callSites := []
  init := .initialized
  statics := none
  mirror := none

def pool0 : Array CpInfo := pool [(5, u "<init>"), (0, u "()V"), (1, .class_ 10), (1, u "java/lang/Object")] 113

def k0m0 : Method := { name := "<init>", desc := "()V", sig := { parameters := [], returnType := none }, accessFlags := 1, code := none }
/-- java/lang/Object -/
def k0 : Class := { plain "java/lang/Object" none with
  accessFlags := 33
  interfaces := #[]
  cf := some (fileOf pool0 8 #[] #[{ accessFlags := 1, nameIndex := 5, descriptorIndex := 6, attributes := #[] }] 33 0 #[] #[])
  fields := #[]
  methods := #[k0m0]
  instanceTypes := #[]
  staticTypes := #[]
  resolved := Array.replicate 124 none
  statics := none }

def pool1 : Array CpInfo := pool [(2, .class_ 4), (1, u "java/lang/Object"), (0, u "<init>"), (0, u "()V"), (0, .methodref 8 9), (0, .class_ 10), (0, .nameAndType 11 12), (0, u "com/example/vestwork/vestwork/actuarial/XmlBytes"), (0, u "utf8Length"), (0, u "([BI)I"), (0, .methodref 14 15), (0, .class_ 16), (0, .nameAndType 17 12), (0, u "com/example/vestwork/vestwork/actuarial/XmlBytesUtf8LengthPinLaw"), (0, u "expected"), (0, .methodref 14 19), (0, .nameAndType 20 12), (0, u "byteAt"), (0, .methodref 14 22), (0, .nameAndType 23 24), (0, u "cont"), (0, u "(I)Z"), (0, .integer 55296), (0, .integer 57343), (0, .integer 65536), (0, .integer 1114111), (2, u "law"), (0, u "(III)Z")] 5

def k1m0 : Method := { name := "<init>", desc := "()V", sig := { parameters := [], returnType := none }, accessFlags := 2, code := none }
def k1c1 : Code := { maxStack := 4, maxLocals := 7, code := code, exceptionTable := #[], attributes := #[] }
def k1m1 : Method := { name := "law", desc := "(III)Z", sig := { parameters := [.int, .int, .int], returnType := some .boolean }, accessFlags := 9, code := some k1c1 }
def k1c2 : Code := { maxStack := 2, maxLocals := 2, code := method_3_code, exceptionTable := #[], attributes := #[] }
def k1m2 : Method := { name := "byteAt", desc := "([BI)I", sig := { parameters := [(.array .byte), .int], returnType := some .int }, accessFlags := 10, code := some k1c2 }
def k1c3 : Code := { maxStack := 2, maxLocals := 1, code := method_4_code, exceptionTable := #[], attributes := #[] }
def k1m3 : Method := { name := "cont", desc := "(I)Z", sig := { parameters := [.int], returnType := some .boolean }, accessFlags := 10, code := some k1c3 }
def k1c4 : Code := { maxStack := 3, maxLocals := 7, code := method_5_code, exceptionTable := #[], attributes := #[] }
def k1m4 : Method := { name := "expected", desc := "([BI)I", sig := { parameters := [(.array .byte), .int], returnType := some .int }, accessFlags := 10, code := some k1c4 }
/-- com/example/vestwork/vestwork/actuarial/XmlBytesUtf8LengthPinLaw -/
def k1 : Class := { plain "com/example/vestwork/vestwork/actuarial/XmlBytesUtf8LengthPinLaw" (some 0) with
  accessFlags := 49
  interfaces := #[]
  cf := some (fileOf pool1 14 #[] #[{ accessFlags := 2, nameIndex := 5, descriptorIndex := 6, attributes := #[] }, { accessFlags := 9, nameIndex := 31, descriptorIndex := 32, attributes := #[] }, { accessFlags := 10, nameIndex := 20, descriptorIndex := 12, attributes := #[] }, { accessFlags := 10, nameIndex := 23, descriptorIndex := 24, attributes := #[] }, { accessFlags := 10, nameIndex := 17, descriptorIndex := 12, attributes := #[] }] 49 2 #[] #[])
  fields := #[]
  methods := #[k1m0, k1m1, k1m2, k1m3, k1m4]
  instanceTypes := #[]
  staticTypes := #[]
  resolved := Array.replicate 38 none
  statics := none }

def pool2 : Array CpInfo := pool [(2, .class_ 4), (1, u "java/lang/Object"), (0, u "<init>"), (0, u "()V"), (0, .class_ 8), (0, u "com/example/vestwork/vestwork/actuarial/XmlBytes"), (2, u "utf8Length"), (0, u "([BI)I")] 7

def k2m0 : Method := { name := "<init>", desc := "()V", sig := { parameters := [], returnType := none }, accessFlags := 2, code := none }
def k2c1 : Code := { maxStack := 3, maxLocals := 8, code := prog_13_method_2_code, exceptionTable := #[], attributes := #[] }
def k2m1 : Method := { name := "utf8Length", desc := "([BI)I", sig := { parameters := [(.array .byte), .int], returnType := some .int }, accessFlags := 8, code := some k2c1 }
/-- com/example/vestwork/vestwork/actuarial/XmlBytes -/
def k2 : Class := { plain "com/example/vestwork/vestwork/actuarial/XmlBytes" (some 0) with
  accessFlags := 32
  interfaces := #[]
  cf := some (fileOf pool2 7 #[] #[{ accessFlags := 2, nameIndex := 5, descriptorIndex := 6, attributes := #[] }, { accessFlags := 8, nameIndex := 11, descriptorIndex := 12, attributes := #[] }] 32 2 #[] #[])
  fields := #[]
  methods := #[k2m0, k2m1]
  instanceTypes := #[]
  staticTypes := #[]
  resolved := Array.replicate 20 none
  statics := none }

def pool3 : Array CpInfo := pool [(1, u "java/lang/Cloneable"), (0, .class_ 1), (0, u "java/lang/Object"), (0, .class_ 3)] 3

/-- java/lang/Cloneable -/
def k3 : Class := { plain "java/lang/Cloneable" (some 0) with
  accessFlags := 1537
  interfaces := #[]
  cf := some (fileOf pool3 2 #[] #[] 1537 4 #[] #[])
  fields := #[]
  methods := #[]
  instanceTypes := #[]
  staticTypes := #[]
  resolved := Array.replicate 8 none
  statics := none }

def pool4 : Array CpInfo := pool [(1, u "java/io/Serializable"), (0, .class_ 1), (0, u "java/lang/Object"), (0, .class_ 3)] 3

/-- java/io/Serializable -/
def k4 : Class := { plain "java/io/Serializable" (some 0) with
  accessFlags := 1537
  interfaces := #[]
  cf := some (fileOf pool4 2 #[] #[] 1537 4 #[] #[])
  fields := #[]
  methods := #[]
  instanceTypes := #[]
  staticTypes := #[]
  resolved := Array.replicate 8 none
  statics := none }

/-- the primitive byte -/
def k5 : Class := { plain "byte" none with kind := .primitive 'B', accessFlags := 0x411 }
/-- [B -/
def k6 : Class := { plain "[B" (some 0) with kind := .array 5 .byte, interfaces := #[3, 4], accessFlags := 1041 }

/-- the primitive int -/
def k7 : Class := { plain "int" none with kind := .primitive 'I', accessFlags := 0x411 }
/-- [I -/
def k8 : Class := { plain "[I" (some 0) with kind := .array 7 .int, interfaces := #[3, 4], accessFlags := 1041 }

def heap : Heap := #[]
def classes : Array Class := #[k0, k1, k2, k3, k4, k5, k6, k7, k8]
def interned : List (Array UInt16 × Addr) := []
def slotsUsed : Nat := 0
def theMethod : MethodId := ⟨1, 1⟩
def args0 : Array Value := #[.int 5, .int 6, .int 7]
def aboutOver (below : List Frame) : State where
  vm := { classes := classes, interned := interned.toArray }
  heap := heap
  slotsUsed := slotsUsed
  threads := #[{ frames := .invoking theMethod args0 :: below }]
def below0 : List Frame := [.native { method := ⟨0, 0⟩, args := #[] }]
def about1 : State := aboutOver below0
def p0 : Program := .bare "" "" ""
def e0 : Env := launch0.env 0 0 0
theorem w_frames : about1.frames = Frame.invoking theMethod args0 :: below0 := rfl
set_option maxRecDepth 65536 in
theorem w_args : argsFit about1.vm theMethod args0 = true := by decide +kernel
set_option maxRecDepth 65536 in
theorem w_heap : heapFits about1 = true := by decide +kernel
set_option maxRecDepth 65536 in
theorem w_runnable : about1.curStatus? = some .runnable := by decide +kernel
set_option maxRecDepth 65536 in
theorem w_alone : about1.alone = true := by decide +kernel
set_option maxRecDepth 65536 in
theorem w_named : about1.methodNamed? x = some theMethod := by decide +kernel
set_option maxRecDepth 65536 in
theorem w_hears : about1.hears theMethod below0 = true := by decide +kernel
set_option maxRecDepth 65536 in
theorem w_ripe : about1.ripe theMethod args0 below0 = true := by decide +kernel
theorem w_running : about1.status = .running := rfl
set_option maxRecDepth 65536 in
theorem w_room : about1.hasRoom e0.platform room_1 = true :=
  launch0.hasRoom_least _ room_1 (by decide +kernel) (by decide +kernel) (by decide +kernel) (by decide +kernel) (by decide +kernel) (by decide +kernel)
theorem allAtoms_all (ts : List Jvm.Cond) (a : Array Jvm.Value) (st : Jvm.State) : (allAtoms ts).before a st = ts.all (fun c => c.before a st) := by
  induction ts with
  | nil => rfl
  | cons c t ih =>
    show (Jvm.Cond.and c (allAtoms t)).before a st = _
    rw [Jvm.Cond.before_and, ih, List.all_cons]
def words1 : List Jvm.Cond := Jvm.Cond.code x code maxLocals ret :: tables_1
/-- a 'code' word, met by the world's own term for the bytes: nothing is compared byte by byte -/
theorem code_word {y : MethodName} {bytes : ByteArray} {mx : Nat} {rt : Option FieldType} {a : Array Value} {s : State} {m : MethodId} {meth : Method} {c : Code} (h1 : s.methodNamed? y = some m) (h2 : s.vm.method? m = some meth) (h3 : meth.code = some c) (h4 : c.code = bytes)
    (h5 : (c.maxLocals == mx && c.exceptionTable.isEmpty && decide (c.maxStack ≤ mostOperands) && decide (meth.sig.returnType = rt) && !meth.locks && decide (parseMethodDescriptor y.desc = some meth.sig)) = true) : (Jvm.Cond.code y bytes mx rt).before a s = true := by
  simp only [Bool.and_eq_true, beq_iff_eq, Bool.not_eq_true', decide_eq_true_eq] at h5
  obtain ⟨⟨⟨⟨⟨g1, g2⟩, g3⟩, g4⟩, g5⟩, g6⟩ := h5
  simp [Cond.before, Cond.holds, Cond.value, h1, h2, h3, h4, g1, g2, g3, g4, g5, g6]
def isCode : Jvm.Cond → Bool
  | .code _ _ _ _ => true
  | _ => false
theorem all_split {L : List Jvm.Cond} {P : Jvm.Cond → Bool} (h1 : L.all (fun c => isCode c || P c) = true) (h2 : ∀ c ∈ L.filter isCode, P c = true) : L.all P = true := by
  refine List.all_eq_true.mpr fun c hc => ?_
  have h := List.all_eq_true.mp h1 c hc
  rcases Bool.eq_false_or_eq_true (isCode c) with hi | hi
  · exact h2 c (List.mem_filter.mpr ⟨hc, hi⟩)
  · simpa [hi] using h
set_option maxRecDepth 65536 in
theorem w_c0 : (Jvm.Cond.code x code maxLocals ret).before args0 about1 = true := code_word (m := ⟨1, 1⟩) (meth := k1m1) (c := k1c1) (by decide +kernel) rfl rfl rfl (by decide +kernel)
set_option maxRecDepth 65536 in
theorem w_c1 : (Jvm.Cond.code ({ cls := "com/example/vestwork/vestwork/actuarial/XmlBytes", name := "utf8Length", desc := "([BI)I" } : Jvm.MethodName) prog_13_method_2_code (8 : Nat) (Option.some Jvm.ClassFile.FieldType.int)).before args0 about1 = true := code_word (m := ⟨2, 1⟩) (meth := k2m1) (c := k2c1) (by decide +kernel) rfl rfl rfl (by decide +kernel)
set_option maxRecDepth 65536 in
theorem w_c2 : (Jvm.Cond.code ({ cls := "com/example/vestwork/vestwork/actuarial/XmlBytesUtf8LengthPinLaw", name := "expected", desc := "([BI)I" } : Jvm.MethodName) method_5_code (7 : Nat) (Option.some Jvm.ClassFile.FieldType.int)).before args0 about1 = true := code_word (m := ⟨1, 4⟩) (meth := k1m4) (c := k1c4) (by decide +kernel) rfl rfl rfl (by decide +kernel)
set_option maxRecDepth 65536 in
theorem w_c3 : (Jvm.Cond.code ({ cls := "com/example/vestwork/vestwork/actuarial/XmlBytesUtf8LengthPinLaw", name := "byteAt", desc := "([BI)I" } : Jvm.MethodName) method_3_code (2 : Nat) (Option.some Jvm.ClassFile.FieldType.int)).before args0 about1 = true := code_word (m := ⟨1, 2⟩) (meth := k1m2) (c := k1c2) (by decide +kernel) rfl rfl rfl (by decide +kernel)
set_option maxRecDepth 65536 in
theorem w_c4 : (Jvm.Cond.code ({ cls := "com/example/vestwork/vestwork/actuarial/XmlBytesUtf8LengthPinLaw", name := "cont", desc := "(I)Z" } : Jvm.MethodName) method_4_code (1 : Nat) (Option.some Jvm.ClassFile.FieldType.boolean)).before args0 about1 = true := code_word (m := ⟨1, 3⟩) (meth := k1m3) (c := k1c3) (by decide +kernel) rfl rfl rfl (by decide +kernel)
def codes1 : List Jvm.Cond := [Jvm.Cond.code x code maxLocals ret, Jvm.Cond.code ({ cls := "com/example/vestwork/vestwork/actuarial/XmlBytes", name := "utf8Length", desc := "([BI)I" } : Jvm.MethodName) prog_13_method_2_code (8 : Nat) (Option.some Jvm.ClassFile.FieldType.int), Jvm.Cond.code ({ cls := "com/example/vestwork/vestwork/actuarial/XmlBytesUtf8LengthPinLaw", name := "expected", desc := "([BI)I" } : Jvm.MethodName) method_5_code (7 : Nat) (Option.some Jvm.ClassFile.FieldType.int), Jvm.Cond.code ({ cls := "com/example/vestwork/vestwork/actuarial/XmlBytesUtf8LengthPinLaw", name := "byteAt", desc := "([BI)I" } : Jvm.MethodName) method_3_code (2 : Nat) (Option.some Jvm.ClassFile.FieldType.int), Jvm.Cond.code ({ cls := "com/example/vestwork/vestwork/actuarial/XmlBytesUtf8LengthPinLaw", name := "cont", desc := "(I)Z" } : Jvm.MethodName) method_4_code (1 : Nat) (Option.some Jvm.ClassFile.FieldType.boolean)]
set_option maxRecDepth 65536 in
theorem codes_eq : words1.filter isCode = codes1 := rfl
theorem w_codes : ∀ c ∈ words1.filter isCode, c.before args0 about1 = true := by
  rw [codes_eq]
  intro c hc
  simp only [codes1, List.mem_cons, List.not_mem_nil, or_false] at hc
  rcases hc with rfl | rfl | rfl | rfl | rfl
  · exact w_c0
  · exact w_c1
  · exact w_c2
  · exact w_c3
  · exact w_c4
set_option maxRecDepth 65536 in
theorem w_t1 : words1.all (fun c => isCode c || c.before args0 about1) = true := by decide +kernel
theorem w_tables : (allAtoms (Jvm.Cond.code x code maxLocals ret :: tables_1)).before args0 about1 = true := by
  rw [allAtoms_all]
  show words1.all (fun c => c.before args0 about1) = true
  refine all_split ?_ w_codes
  rw [w_t1]
set_option maxRecDepth 65536 in
theorem w_case : (Jvm.Cond.and given_1 narrow_1).before args0 about1 = true := by decide +kernel
theorem w_applies : (headSpec (Jvm.Cond.code x code maxLocals ret :: tables_1) room_1).applies x e0.platform about1 = true :=
  (Spec.applies_iff w_frames).mpr ⟨w_running, w_runnable, w_alone, w_named, w_hears, w_ripe, w_room, w_tables⟩
theorem atStart : AtStart classFile x code maxLocals ret World_1 tables_1 room_1 Calls_1 rest_1 Pre_1 launch0 p0 e0 about1 theMethod args0 below0 :=
  ⟨lists_1, trivial, launch0.admits_env _ _ _, launch0.least_env, fairChoices_fair.cas, fairChoices_fair.clock, w_frames, w_args, w_heap, w_applies, trivial, trivial, w_case⟩
end start1
theorem witness_1 : WitnessClaimed_1 := ⟨start1.p0, start1.e0, start1.about1, start1.theMethod, start1.args0, start1.below0, start1.atStart⟩
end Jvm.Pilot.@@N@@
