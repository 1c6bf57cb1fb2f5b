import JvmDerived
import JvmDerived.Pilot.@@N@@Statement
import JvmDerived.Pilot.@@N@@Code
set_option linter.unusedVariables false
set_option linter.unusedSimpArgs false
namespace Jvm.Pilot.@@N@@
open Jvm Jvm.ClassFile Sem Op Lib Jvm.Free Jvm.Stand Jvm.LawKit Jvm.RoadKit Bundle Jvm.Pilot.@@N@@.Jvm.D
/-! own walk layer: a world of fresh cells, and one lemma per instruction in continuation form -/
abbrev Desc : Type := Cell → Prop
abbrev Wd : Type := List (Addr × Desc)
/-- the heap h holds h0 unchanged and, besides, the described cells (all of them younger than h0) -/
def Wld (h0 : Heap) (ds : Wd) (h : Heap) : Prop :=
  h0.size ≤ h.size ∧ (∀ (a : Addr) (c : Cell), h0[a]? = some c → h[a]? = some c) ∧ (ds.map Prod.fst).Nodup ∧ ∀ (i : Nat) (a : Addr) (d : Desc), ds[i]? = some (a, d) → h0.size ≤ a ∧ ∃ c : Cell, h[a]? = some c ∧ d c
def Ends (tb : Tables) (e : Env) (below : List Frame) (A : State) (G : Outcome → State → Prop) : Prop := ∃ t o, Steps tb e below A t ∧ t.status = .running ∧ Ended t below o ∧ G o t
/-- the fixed surroundings of a walk -/
def Cx (p : Program) (s : State) (m : MethodId) (meth : Method) (c : Code) (Z : State) (a0 : Array Value) (own : String) (bytes : ByteArray) (ml : Nat) (rt : Option FieldType) (nm : String) : Prop :=
  p.tables.exec = Jvm.exec ∧ Z.Warmed39 s.vm ∧ (∀ d ∈ tables_1, d.before a0 Z = true) ∧ c.code = bytes ∧ c.maxLocals = ml ∧ s.vm.findClass own = some m.cls ∧ meth.sig.returnType = rt ∧ meth.locks = false ∧ meth.name = nm
/-- from pc with these locals and this stack the body comes back, and Q holds of what it returns and of the world that it leaves -/
def Go (p : Program) (l : Launch) (e : Env) (R : Room) (s : State) (m : MethodId) (args : Array Value) (below : List Frame) (meth : Method) (c : Code) (h0 : Heap) (Q : Option Value → Wd → Prop) (ds : Wd) (k n pc : Nat) (Ls : Array Slot) (St : List Value) : Prop :=
  ∀ T locs, Stand p l e R s m args below meth c T locs k n → Wld h0 ds T.heap → Fr h0.size locs →
    Ends p.tables e below (T.setTop (mkF m pc Ls St)) (fun o t => ∃ v L, o = .returned v ∧ (∃ ds', Q v ds' ∧ Wld h0 ds' t.heap ∧ Fr h0.size L) ∧ FrameEnd s o t L R.cells R.slots)
/-- a body's contract -/
def Con (l : Launch) (Z : State) (y : MethodName) (bytes : ByteArray) (ml : Nat) (rt : Option FieldType) (rm : Room) (h0 : Heap) (as' : Array Value) (ds : Wd) (Q : Option Value → Wd → Prop) : Prop :=
  ∀ h, Wld h0 ds h → ∀ ws, MetFree l y (head1 (Jvm.Cond.code y bytes ml rt :: ws) rm) (fun a U => a = as' ∧ Z.Warmed39 U.vm ∧ U.heap = h) (fun _ _ _ _ _ => True)
    (fun _ U o U' => ∃ v L, o = .returned v ∧ (∃ ds', Q v ds' ∧ Wld h0 ds' U'.heap ∧ Fr h0.size L) ∧ FrameEnd U o U' L rm.cells rm.slots)
/-- an array's cell -/
def IA (Z : State) (ty : FieldType) (vs : List Value) : Desc := fun c => Z.isArrayOf c ty ∧ c.vm ≠ .unknown ∧ c.slots.toList = vs
abbrev ints (xs : List Int32) : List Value := xs.map Value.int
/-- a field: the class that declares it, name, descriptor, value -/
abbrev Fv : Type := String × String × String × Value
def fldC (Z : State) (c : Cell) (x : Fv) : Prop := ∃ (cf : ClassId) (k : Class) (i : Nat) (f : Field), Z.fieldFound? x.1 x.2.1 x.2.2.1 = some (cf, k, i, f) ∧ f.isStatic = false ∧ c.vm ≠ .unknown ∧ c.vm.isStatics = false ∧ Z.vm.assignable c.cls cf = true ∧ c.slots[f.slot]? = some x.2.2.2
def OB (Z : State) (a0 : Array Value) (C : String) (fs : List Fv) : Desc := fun c =>
  (∃ k : Class, Z.vm.findClass C = some c.cls ∧ Z.vm.classes[c.cls]? = some k ∧ c.vm.isStatics = false ∧ (k.kind = .ordinary → c.slots.size = k.instanceTypes.size)) ∧
  (∀ x ∈ fs, fldC Z c x ∧ Laid Z a0 C x.1 x.2.1 x.2.2.1 ∧ ∃ t, parseFieldDescriptor x.2.2.1 = some t)
section Own
variable {p : Program} {l : Launch} {e : Env} {R : Room} {s : State} {m : MethodId} {args : Array Value} {below : List Frame} {meth : Method} {c : Code} {Z : State} {a0 : Array Value} {h0 h h' : Heap} {Q : Option Value → Wd → Prop} {ds ds' : Wd} {k n pc : Nat} {Ls Ls' : Array Slot} {St : List Value} {own : String} {bytes : ByteArray} {ml : Nat} {rt : Option FieldType} {nm : String}
theorem Ends.pre {tb : Tables} {A B : State} {G : Outcome → State → Prop} (H : ∀ t, Steps tb e below B t → Steps tb e below A t) (K : Ends tb e below B G) : Ends tb e below A G := by
  obtain ⟨t, o, h1, h2⟩ := K; exact ⟨t, o, H t h1, h2⟩
theorem Wld.nil (h0 : Heap) : Wld h0 [] h0 := ⟨Nat.le_refl _, fun _ _ q => q, List.nodup_nil, fun i a d q => by simp at q⟩
theorem Wld.extOf (W : Wld h0 ds h) : Ext h0 h := ⟨W.1, W.2.1⟩
theorem Wld.at {i : Nat} {a : Addr} {d : Desc} (W : Wld h0 ds h) (hi : ds[i]? = some (a, d)) : h0.size ≤ a ∧ ∃ c : Cell, h[a]? = some c ∧ d c := W.2.2.2 i a d hi
theorem nodup_inj {α : Type} {L : List α} (h : L.Nodup) {i j : Nat} (hi : i < L.length) (hj : j < L.length) (e : L[i] = L[j]) : i = j := by
  rcases Nat.lt_trichotomy i j with q | q | q
  · exact absurd e (List.pairwise_iff_getElem.mp h i j hi hj q)
  · exact q
  · exact absurd e.symm (List.pairwise_iff_getElem.mp h j i hj hi q)
theorem Wld.ne {i j : Nat} {a b : Addr} {d d' : Desc} (W : Wld h0 ds h) (hi : ds[i]? = some (a, d)) (hj : ds[j]? = some (b, d')) (hij : i ≠ j) : a ≠ b := by
  intro e
  obtain ⟨h1, e1⟩ := List.getElem?_eq_some_iff.mp hi
  obtain ⟨h2, e2⟩ := List.getElem?_eq_some_iff.mp hj
  have l1 : i < (ds.map Prod.fst).length := by simpa using h1
  have l2 : j < (ds.map Prod.fst).length := by simpa using h2
  have g : (ds.map Prod.fst)[i] = (ds.map Prod.fst)[j] := by simp [e1, e2, e]
  exact hij (nodup_inj W.2.2.1 l1 l2 g)
theorem Wld.wr {i : Nat} {a : Addr} {d d' : Desc} {sl : Nat} {v : Value} (W : Wld h0 ds h) (hi : ds[i]? = some (a, d)) (wr : Wr h h' a sl v) (hd : ∀ c, h[a]? = some c → sl < c.slots.size → d c → d' (c.setSlot sl v)) : Wld h0 (ds.set i (a, d')) h' := by
  obtain ⟨ha, c, hc, dc⟩ := W.at hi
  obtain ⟨c0, hc0, -, hsl, -⟩ := id wr
  cases hc.symm.trans hc0
  refine ⟨by rw [wr.size]; exact W.1, fun b cb hb => ?_, ?_, ?_⟩
  · have hbl : b < h0.size := (Array.getElem?_eq_some_iff.mp hb).1
    obtain ⟨c', e1, -, -, -, e5, -⟩ := wr_at wr (W.2.1 b cb hb)
    rw [← e5 (fun q => Nat.not_lt.mpr ha (q ▸ hbl))]; exact e1
  · have q : (ds.set i (a, d')).map Prod.fst = ds.map Prod.fst := by
      rw [List.map_set]
      obtain ⟨l1, e1⟩ := List.getElem?_eq_some_iff.mp hi
      apply List.ext_getElem?
      intro j
      rw [List.getElem?_set]
      split
      · rename_i hj; subst hj; simp [l1, e1]
      · rfl
    rw [q]; exact W.2.2.1
  · intro j b db hj
    rw [List.getElem?_set] at hj
    split at hj
    · rename_i hij
      subst hij
      obtain ⟨l1, e1⟩ := List.getElem?_eq_some_iff.mp hi
      simp only [l1, if_true, Option.some.injEq, Prod.mk.injEq] at hj
      obtain ⟨rfl, rfl⟩ := hj
      obtain ⟨c', e1, -, -, -, -, -, e7⟩ := wr_at wr hc
      exact ⟨ha, c', e1, by rw [(e7 rfl).1]; exact hd c hc hsl dc⟩
    · rename_i hij
      obtain ⟨hb, cb, hcb, dcb⟩ := W.at hj
      have hne : b ≠ a := fun e => W.ne hi hj hij e.symm
      obtain ⟨c', e1, -, -, -, e5, -⟩ := wr_at wr hcb
      exact ⟨hb, cb, by rw [← e5 hne]; exact e1, dcb⟩
theorem Wld.new {d : Desc} (W : Wld h0 ds h) (E : Ext h h') {c : Cell} (hc : h'[h.size]? = some c) (dc : d c) : Wld h0 (ds ++ [(h.size, d)]) h' := by
  refine ⟨Nat.le_trans W.1 E.1, fun a c q => E.2 _ _ (W.2.1 a c q), ?_, ?_⟩
  · rw [List.map_append, List.nodup_append]
    refine ⟨W.2.2.1, by simp, ?_⟩
    intro a ha b hb
    simp only [List.map_cons, List.map_nil, List.mem_singleton] at hb
    subst hb
    obtain ⟨⟨x, dx⟩, hx, rfl⟩ := List.mem_map.mp ha
    obtain ⟨i, hi⟩ := List.getElem?_of_mem hx
    obtain ⟨-, cc, hcc, -⟩ := W.at hi
    exact Nat.ne_of_lt (Array.getElem?_eq_some_iff.mp hcc).1
  · intro i a dd hi
    rw [List.getElem?_append] at hi
    split at hi
    · obtain ⟨h1, cc, h2, h3⟩ := W.at hi
      exact ⟨h1, cc, E.2 _ _ h2, h3⟩
    · rename_i hlt
      rw [List.getElem?_singleton] at hi
      split at hi
      · cases hi; exact ⟨W.1, c, hc, dc⟩
      · cases hi
theorem OB.exa {C : String} {fs : List Fv} {a : Addr} {cl : Cell} (hc : h[a]? = some cl) (O : OB Z a0 C fs cl) : Exa Z h a C := by
  obtain ⟨⟨k, h1, h2, h3, h4⟩, -⟩ := O; exact ⟨cl, k, hc, h1, h2, h3, h4⟩
theorem OB.fld {C O n d : String} {v : Value} {fs : List Fv} {a : Addr} {cl : Cell} (hc : h[a]? = some cl) (Ob : OB Z a0 C fs cl) (hx : (O, n, d, v) ∈ fs) : Fld Z h a O n d v := by
  obtain ⟨⟨cf, k, i, f, h1, h2, h3, h4, h5, h6⟩, -⟩ := Ob.2 _ hx
  exact ⟨cl, cf, k, i, f, hc, h1, h2, h3, h4, h5, h6⟩
theorem OB.of {C : String} {fs : List Fv} {a : Addr} (E : Exa Z h a C) {cl : Cell} (hc : h[a]? = some cl) (F : ∀ x ∈ fs, Fld Z h a x.1 x.2.1 x.2.2.1 x.2.2.2 ∧ Laid Z a0 C x.1 x.2.1 x.2.2.1 ∧ ∃ t, parseFieldDescriptor x.2.2.1 = some t) : OB Z a0 C fs cl := by
  obtain ⟨cell, k, h1, h2, h3, h4, h5⟩ := E
  cases hc.symm.trans h1
  refine ⟨⟨k, h2, h3, h4, h5⟩, fun x hx => ?_⟩
  obtain ⟨⟨cell, cf, k, i, f, g1, g2⟩, L, t⟩ := F x hx
  cases hc.symm.trans g1
  exact ⟨⟨cf, k, i, f, g2⟩, L, t⟩

/-! entering and leaving -/
theorem con_of {y : MethodName} {rm : Room} {as' : Array Value} (hpl : plainFor y = true) (hw : ∀ d ∈ tables_1, d.before a0 Z = true) (hef : ∀ m, entryFrame m as' ml = mkF m 0 Ls [])
    (H : ∀ (p : Program) (e : Env) (s : State) (m : MethodId) (below : List Frame) (meth : Method) (c : Code), Cx p s m meth c Z a0 y.cls bytes ml rt y.name → Go p l e rm s m as' below meth c h0 Q ds 0 0 0 Ls []) : Con l Z y bytes ml rt rm h0 as' ds Q := by
  intro h W ws
  refine MetFree.of_bodySF hpl hisR ?_
  intro p e s m args below meth c s₁ Bd hml0 hP hK
  obtain ⟨rfl, hZ, hh⟩ := hP
  have hx := Bd.exec
  have hown := findClass_of_methodNamed Bd.named
  have hnm := (name_of_methodNamed Bd.named Bd.method).1
  have X0 : Stand p l e rm s m args below meth c s₁ [] 0 0 := Stand.of_body Bd
  have e0 : s₁.heap = h := by rw [← hh, Bd.state]; rfl
  have C : Cx p s m meth c Z a0 y.cls bytes ml rt y.name := ⟨hx, hZ, hw, Bd.bytes, hml0, hown, Bd.returns, Bd.notSynchronized, hnm⟩
  obtain ⟨t, o, h1, h2, h3, h4⟩ := H p e s m below meth c C s₁ [] X0 (by rw [e0]; exact W) (Fr.nil _)
  exact ⟨t, o, castTop (hef m) h1, h2, h3, h4⟩
theorem Ends.out (C : Cx p s m meth c Z a0 own bytes ml rt nm) {T : State} {locs : List Loc} {g : JFrame} (X : Stand p l e R s m args below meth c T locs k n) (W : Wld h0 ds T.heap) (N : Fr h0.size locs) (hk : k ≤ R.cells) (hn : n ≤ R.slots) {v : Option Value} (hv : rt = none → v = none) (q : Q v ds)
    (H : ∀ fs, (∀ (f : JFrame) (acts : List Action), f.method = m → f.locked = none → f.entered = [] → (doReturn e (T.setTop f) acts v).1 = T.setFrames fs) → Steps p.tables e below (T.setTop g) (T.setFrames fs)) :
    Ends p.tables e below (T.setTop g) (fun o t => ∃ v L, o = .returned v ∧ (∃ ds', Q v ds' ∧ Wld h0 ds' t.heap ∧ Fr h0.size L) ∧ FrameEnd s o t L R.cells R.slots) := by
  obtain ⟨hx, hZ, hw, hby, hml, hown, hret, hlk, hnm⟩ := C
  obtain ⟨fs, hr, hrun, hended, hW, hsame⟩ := X.leave (v := v) (fun h => hv (hret.symm.trans h)) hlk
  exact ⟨_, _, H fs hr, hrun, hended, v, locs, rfl, ⟨ds, q, W, N⟩, ⟨_, rfl⟩, hW, hsame.mono hk hn⟩
theorem g_ret (C : Cx p s m meth c Z a0 own bytes ml none nm) (hd : decode bytes pc = .ok (.return_, 1)) (hk : k ≤ R.cells) (hn : n ≤ R.slots) (q : Q none ds) : Go p l e R s m args below meth c h0 Q ds k n pc Ls [] := fun T locs X W N =>
  Ends.out C X W N hk hn (fun _ => rfl) q fun fs hr => X.returnOut C.1 C.2.2.2.2.2.2.1 (hb C.2.2.2.1 hd) hr
theorem g_iret (C : Cx p s m meth c Z a0 own bytes ml (some .int) nm) {z : Int32} (hd : decode bytes pc = .ok (.ireturn, 1)) (hk : k ≤ R.cells) (hn : n ≤ R.slots) (q : Q (some (.int z)) ds) : Go p l e R s m args below meth c h0 Q ds k n pc Ls (.int z :: St) := fun T locs X W N =>
  Ends.out C X W N hk hn (fun h => nomatch h) q fun fs hr => retOut X C.1 C.2.2.2.2.2.2.1 rfl (Or.inl ⟨rfl, Or.inl rfl, z, rfl⟩) (hb C.2.2.2.1 hd) hr
theorem g_nret {t : FieldType} (C : Cx p s m meth c Z a0 own bytes ml (some t) nm) (ht : t = .boolean ∨ t = .byte ∨ t = .char ∨ t = .short) {z z' : Int32} (hz : nar t z = z') (hd : decode bytes pc = .ok (.ireturn, 1)) (hk : k ≤ R.cells) (hn : n ≤ R.slots) (q : Q (some (.int z')) ds) : Go p l e R s m args below meth c h0 Q ds k n pc Ls (.int z :: St) := fun T locs X W N => by
  subst hz
  exact Ends.out C X W N hk hn (fun h => nomatch h) q fun fs hr => retN X C.1 C.2.2.2.2.2.2.1 ht (hb C.2.2.2.1 hd) hr
theorem g_lret (C : Cx p s m meth c Z a0 own bytes ml (some .long) nm) {z : Int64} (hd : decode bytes pc = .ok (.lreturn, 1)) (hk : k ≤ R.cells) (hn : n ≤ R.slots) (q : Q (some (.long z)) ds) : Go p l e R s m args below meth c h0 Q ds k n pc Ls (.long z :: St) := fun T locs X W N =>
  Ends.out C X W N hk hn (fun h => nomatch h) q fun fs hr => retOut X C.1 C.2.2.2.2.2.2.1 rfl (Or.inr (Or.inl ⟨rfl, rfl, z, rfl⟩)) (hb C.2.2.2.1 hd) hr
theorem g_dret (C : Cx p s m meth c Z a0 own bytes ml (some .double) nm) {z : UInt64} (hd : decode bytes pc = .ok (.dreturn, 1)) (hk : k ≤ R.cells) (hn : n ≤ R.slots) (q : Q (some (.double z)) ds) : Go p l e R s m args below meth c h0 Q ds k n pc Ls (.double z :: St) := fun T locs X W N =>
  Ends.out C X W N hk hn (fun h => nomatch h) q fun fs hr => retOut X C.1 C.2.2.2.2.2.2.1 rfl (Or.inr (Or.inr (Or.inl ⟨rfl, rfl, z, rfl⟩))) (hb C.2.2.2.1 hd) hr
theorem g_aret {t : FieldType} (C : Cx p s m meth c Z a0 own bytes ml (some t) nm) (ht : t.isReference = true) {v : Value} (hv : v.isRef = true) (hnr : narrow t v = v) (hd : decode bytes pc = .ok (.areturn, 1)) (hk : k ≤ R.cells) (hn : n ≤ R.slots) (q : Q (some v) ds) : Go p l e R s m args below meth c h0 Q ds k n pc Ls (v :: St) := fun T locs X W N =>
  Ends.out C X W N hk hn (fun h => nomatch h) q fun fs hr => retOut X C.1 C.2.2.2.2.2.2.1 hnr (Or.inr (Or.inr (Or.inr (Or.inr ⟨rfl, ht, hv⟩)))) (hb C.2.2.2.1 hd) hr
theorem Go.pure {pc' : Nat} {St' : List Value} (H : ∀ T locs, Stand p l e R s m args below meth c T locs k n → ∀ target, Steps p.tables e below (T.setTop (mkF m pc' Ls' St')) target → Steps p.tables e below (T.setTop (mkF m pc Ls St)) target)
    (K : Go p l e R s m args below meth c h0 Q ds k n pc' Ls' St') : Go p l e R s m args below meth c h0 Q ds k n pc Ls St := fun T locs X W N => (K T locs X W N).pre (H T locs X)
/-- the world may be spoken of otherwise -/
theorem Go.weak {Q' : Option Value → Wd → Prop} (K : Go p l e R s m args below meth c h0 Q' ds k n pc Ls St) (H : ∀ v ds', Q' v ds' → Q v ds') : Go p l e R s m args below meth c h0 Q ds k n pc Ls St := fun T locs X W N => by
  obtain ⟨t, o, h1, h2, h3, v, L, h4, ⟨ds', h5, h6⟩, h7⟩ := K T locs X W N
  exact ⟨t, o, h1, h2, h3, v, L, h4, ⟨ds', H _ _ h5, h6⟩, h7⟩
/-! plain steps -/
theorem g_iadd (C : Cx p s m meth c Z a0 own bytes ml rt nm) (pc' : Nat) {x y : Int32} (hd : decode bytes pc = .ok (.iadd, 1)) (hp : pc + 1 = pc') (K : Go p l e R s m args below meth c h0 Q ds k n pc' Ls (.int (x + y) :: St)) : Go p l e R s m args below meth c h0 Q ds k n pc Ls (.int y :: .int x :: St) := by
  subst hp
  exact K.pure fun T locs X target h => XS.iadd X.here C.1 rfl (hb C.2.2.2.1 hd) rfl h
theorem g_isub (C : Cx p s m meth c Z a0 own bytes ml rt nm) (pc' : Nat) {x y : Int32} (hd : decode bytes pc = .ok (.isub, 1)) (hp : pc + 1 = pc') (K : Go p l e R s m args below meth c h0 Q ds k n pc' Ls (.int (x - y) :: St)) : Go p l e R s m args below meth c h0 Q ds k n pc Ls (.int y :: .int x :: St) := by
  subst hp
  exact K.pure fun T locs X target h => XS.isub X.here C.1 rfl (hb C.2.2.2.1 hd) rfl h
theorem g_imul (C : Cx p s m meth c Z a0 own bytes ml rt nm) (pc' : Nat) {x y : Int32} (hd : decode bytes pc = .ok (.imul, 1)) (hp : pc + 1 = pc') (K : Go p l e R s m args below meth c h0 Q ds k n pc' Ls (.int (x * y) :: St)) : Go p l e R s m args below meth c h0 Q ds k n pc Ls (.int y :: .int x :: St) := by
  subst hp
  exact K.pure fun T locs X target h => XS.imul X.here C.1 rfl (hb C.2.2.2.1 hd) rfl h
theorem g_iand (C : Cx p s m meth c Z a0 own bytes ml rt nm) (pc' : Nat) {x y : Int32} (hd : decode bytes pc = .ok (.iand, 1)) (hp : pc + 1 = pc') (K : Go p l e R s m args below meth c h0 Q ds k n pc' Ls (.int (x &&& y) :: St)) : Go p l e R s m args below meth c h0 Q ds k n pc Ls (.int y :: .int x :: St) := by
  subst hp
  exact K.pure fun T locs X target h => XS.iand X.here C.1 rfl (hb C.2.2.2.1 hd) rfl h
theorem g_ior (C : Cx p s m meth c Z a0 own bytes ml rt nm) (pc' : Nat) {x y : Int32} (hd : decode bytes pc = .ok (.ior, 1)) (hp : pc + 1 = pc') (K : Go p l e R s m args below meth c h0 Q ds k n pc' Ls (.int (x ||| y) :: St)) : Go p l e R s m args below meth c h0 Q ds k n pc Ls (.int y :: .int x :: St) := by
  subst hp
  exact K.pure fun T locs X target h => XS.ior X.here C.1 rfl (hb C.2.2.2.1 hd) rfl h
theorem g_ixor (C : Cx p s m meth c Z a0 own bytes ml rt nm) (pc' : Nat) {x y : Int32} (hd : decode bytes pc = .ok (.ixor, 1)) (hp : pc + 1 = pc') (K : Go p l e R s m args below meth c h0 Q ds k n pc' Ls (.int (x ^^^ y) :: St)) : Go p l e R s m args below meth c h0 Q ds k n pc Ls (.int y :: .int x :: St) := by
  subst hp
  exact K.pure fun T locs X target h => XS.ixor X.here C.1 rfl (hb C.2.2.2.1 hd) rfl h
theorem g_ishl (C : Cx p s m meth c Z a0 own bytes ml rt nm) (pc' : Nat) {x y : Int32} (hd : decode bytes pc = .ok (.ishl, 1)) (hp : pc + 1 = pc') (K : Go p l e R s m args below meth c h0 Q ds k n pc' Ls (.int (x <<< (y &&& 31)) :: St)) : Go p l e R s m args below meth c h0 Q ds k n pc Ls (.int y :: .int x :: St) := by
  subst hp
  exact K.pure fun T locs X target h => XS.ishl X.here C.1 rfl (hb C.2.2.2.1 hd) rfl h
theorem g_ishr (C : Cx p s m meth c Z a0 own bytes ml rt nm) (pc' : Nat) {x y : Int32} (hd : decode bytes pc = .ok (.ishr, 1)) (hp : pc + 1 = pc') (K : Go p l e R s m args below meth c h0 Q ds k n pc' Ls (.int (x >>> (y &&& 31)) :: St)) : Go p l e R s m args below meth c h0 Q ds k n pc Ls (.int y :: .int x :: St) := by
  subst hp
  exact K.pure fun T locs X target h => XS.ishr X.here C.1 rfl (hb C.2.2.2.1 hd) rfl h
theorem g_iushr (C : Cx p s m meth c Z a0 own bytes ml rt nm) (pc' : Nat) {x y : Int32} (hd : decode bytes pc = .ok (.iushr, 1)) (hp : pc + 1 = pc') (K : Go p l e R s m args below meth c h0 Q ds k n pc' Ls (.int ((x.toUInt32 >>> (y &&& 31).toUInt32).toInt32) :: St)) : Go p l e R s m args below meth c h0 Q ds k n pc Ls (.int y :: .int x :: St) := by
  subst hp
  exact K.pure fun T locs X target h => XS.iushr X.here C.1 rfl (hb C.2.2.2.1 hd) rfl h
theorem g_ladd (C : Cx p s m meth c Z a0 own bytes ml rt nm) (pc' : Nat) {x y : Int64} (hd : decode bytes pc = .ok (.ladd, 1)) (hp : pc + 1 = pc') (K : Go p l e R s m args below meth c h0 Q ds k n pc' Ls (.long (x + y) :: St)) : Go p l e R s m args below meth c h0 Q ds k n pc Ls (.long y :: .long x :: St) := by
  subst hp
  exact K.pure fun T locs X target h => XS.ladd X.here C.1 rfl (hb C.2.2.2.1 hd) rfl h
theorem g_lsub (C : Cx p s m meth c Z a0 own bytes ml rt nm) (pc' : Nat) {x y : Int64} (hd : decode bytes pc = .ok (.lsub, 1)) (hp : pc + 1 = pc') (K : Go p l e R s m args below meth c h0 Q ds k n pc' Ls (.long (x - y) :: St)) : Go p l e R s m args below meth c h0 Q ds k n pc Ls (.long y :: .long x :: St) := by
  subst hp
  exact K.pure fun T locs X target h => XS.lsub X.here C.1 rfl (hb C.2.2.2.1 hd) rfl h
theorem g_lmul (C : Cx p s m meth c Z a0 own bytes ml rt nm) (pc' : Nat) {x y : Int64} (hd : decode bytes pc = .ok (.lmul, 1)) (hp : pc + 1 = pc') (K : Go p l e R s m args below meth c h0 Q ds k n pc' Ls (.long (x * y) :: St)) : Go p l e R s m args below meth c h0 Q ds k n pc Ls (.long y :: .long x :: St) := by
  subst hp
  exact K.pure fun T locs X target h => XS.lmul X.here C.1 rfl (hb C.2.2.2.1 hd) rfl h
theorem g_land (C : Cx p s m meth c Z a0 own bytes ml rt nm) (pc' : Nat) {x y : Int64} (hd : decode bytes pc = .ok (.land, 1)) (hp : pc + 1 = pc') (K : Go p l e R s m args below meth c h0 Q ds k n pc' Ls (.long (x &&& y) :: St)) : Go p l e R s m args below meth c h0 Q ds k n pc Ls (.long y :: .long x :: St) := by
  subst hp
  exact K.pure fun T locs X target h => XS.land X.here C.1 rfl (hb C.2.2.2.1 hd) rfl h
theorem g_lor (C : Cx p s m meth c Z a0 own bytes ml rt nm) (pc' : Nat) {x y : Int64} (hd : decode bytes pc = .ok (.lor, 1)) (hp : pc + 1 = pc') (K : Go p l e R s m args below meth c h0 Q ds k n pc' Ls (.long (x ||| y) :: St)) : Go p l e R s m args below meth c h0 Q ds k n pc Ls (.long y :: .long x :: St) := by
  subst hp
  exact K.pure fun T locs X target h => XS.lor X.here C.1 rfl (hb C.2.2.2.1 hd) rfl h
theorem g_lxor (C : Cx p s m meth c Z a0 own bytes ml rt nm) (pc' : Nat) {x y : Int64} (hd : decode bytes pc = .ok (.lxor, 1)) (hp : pc + 1 = pc') (K : Go p l e R s m args below meth c h0 Q ds k n pc' Ls (.long (x ^^^ y) :: St)) : Go p l e R s m args below meth c h0 Q ds k n pc Ls (.long y :: .long x :: St) := by
  subst hp
  exact K.pure fun T locs X target h => XS.lxor X.here C.1 rfl (hb C.2.2.2.1 hd) rfl h
theorem g_lshl (C : Cx p s m meth c Z a0 own bytes ml rt nm) (pc' : Nat) {x : Int64} {y : Int32} (hd : decode bytes pc = .ok (.lshl, 1)) (hp : pc + 1 = pc') (K : Go p l e R s m args below meth c h0 Q ds k n pc' Ls (.long (x <<< (y &&& 0x3f).toInt64) :: St)) : Go p l e R s m args below meth c h0 Q ds k n pc Ls (.int y :: .long x :: St) := by
  subst hp
  exact K.pure fun T locs X target h => XS.lshl X.here C.1 rfl (hb C.2.2.2.1 hd) rfl h
theorem g_lshr (C : Cx p s m meth c Z a0 own bytes ml rt nm) (pc' : Nat) {x : Int64} {y : Int32} (hd : decode bytes pc = .ok (.lshr, 1)) (hp : pc + 1 = pc') (K : Go p l e R s m args below meth c h0 Q ds k n pc' Ls (.long (x >>> (y &&& 0x3f).toInt64) :: St)) : Go p l e R s m args below meth c h0 Q ds k n pc Ls (.int y :: .long x :: St) := by
  subst hp
  exact K.pure fun T locs X target h => XS.lshr X.here C.1 rfl (hb C.2.2.2.1 hd) rfl h
theorem g_lushr (C : Cx p s m meth c Z a0 own bytes ml rt nm) (pc' : Nat) {x : Int64} {y : Int32} (hd : decode bytes pc = .ok (.lushr, 1)) (hp : pc + 1 = pc') (K : Go p l e R s m args below meth c h0 Q ds k n pc' Ls (.long ((x.toUInt64 >>> (y &&& 0x3f).toInt64.toUInt64).toInt64) :: St)) : Go p l e R s m args below meth c h0 Q ds k n pc Ls (.int y :: .long x :: St) := by
  subst hp
  exact K.pure fun T locs X target h => XS.lushr X.here C.1 rfl (hb C.2.2.2.1 hd) rfl h
theorem g_idiv (C : Cx p s m meth c Z a0 own bytes ml rt nm) (pc' : Nat) {x y : Int32} (hd : decode bytes pc = .ok (.idiv, 1)) (hp : pc + 1 = pc') (hy : y ≠ 0) (K : Go p l e R s m args below meth c h0 Q ds k n pc' Ls (.int (x / y) :: St)) : Go p l e R s m args below meth c h0 Q ds k n pc Ls (.int y :: .int x :: St) := by
  subst hp
  exact K.pure fun T locs X target h => XS.idiv X.here C.1 rfl (hb C.2.2.2.1 hd) rfl hy h
theorem g_irem (C : Cx p s m meth c Z a0 own bytes ml rt nm) (pc' : Nat) {x y : Int32} (hd : decode bytes pc = .ok (.irem, 1)) (hp : pc + 1 = pc') (hy : y ≠ 0) (K : Go p l e R s m args below meth c h0 Q ds k n pc' Ls (.int (x % y) :: St)) : Go p l e R s m args below meth c h0 Q ds k n pc Ls (.int y :: .int x :: St) := by
  subst hp
  exact K.pure fun T locs X target h => iremM X C.1 rfl (hb C.2.2.2.1 hd) rfl hy h
theorem g_ineg (C : Cx p s m meth c Z a0 own bytes ml rt nm) (pc' : Nat) {x : Int32} (hd : decode bytes pc = .ok (.ineg, 1)) (hp : pc + 1 = pc') (K : Go p l e R s m args below meth c h0 Q ds k n pc' Ls (.int (-x) :: St)) : Go p l e R s m args below meth c h0 Q ds k n pc Ls (.int x :: St) := by
  subst hp
  exact K.pure fun T locs X target h => XS.ineg X.here C.1 rfl (hb C.2.2.2.1 hd) rfl h
theorem g_i2b (C : Cx p s m meth c Z a0 own bytes ml rt nm) (pc' : Nat) {x : Int32} (hd : decode bytes pc = .ok (.i2b, 1)) (hp : pc + 1 = pc') (K : Go p l e R s m args below meth c h0 Q ds k n pc' Ls (.int (x.toInt8.toInt32) :: St)) : Go p l e R s m args below meth c h0 Q ds k n pc Ls (.int x :: St) := by
  subst hp
  exact K.pure fun T locs X target h => XS.i2b X.here C.1 rfl (hb C.2.2.2.1 hd) rfl h
theorem g_i2c (C : Cx p s m meth c Z a0 own bytes ml rt nm) (pc' : Nat) {x : Int32} (hd : decode bytes pc = .ok (.i2c, 1)) (hp : pc + 1 = pc') (K : Go p l e R s m args below meth c h0 Q ds k n pc' Ls (.int (x.toUInt32.toUInt16.toUInt32.toInt32) :: St)) : Go p l e R s m args below meth c h0 Q ds k n pc Ls (.int x :: St) := by
  subst hp
  exact K.pure fun T locs X target h => XS.i2c X.here C.1 rfl (hb C.2.2.2.1 hd) rfl h
theorem g_i2s (C : Cx p s m meth c Z a0 own bytes ml rt nm) (pc' : Nat) {x : Int32} (hd : decode bytes pc = .ok (.i2s, 1)) (hp : pc + 1 = pc') (K : Go p l e R s m args below meth c h0 Q ds k n pc' Ls (.int (x.toInt16.toInt32) :: St)) : Go p l e R s m args below meth c h0 Q ds k n pc Ls (.int x :: St) := by
  subst hp
  exact K.pure fun T locs X target h => XS.i2s X.here C.1 rfl (hb C.2.2.2.1 hd) rfl h
theorem g_i2l (C : Cx p s m meth c Z a0 own bytes ml rt nm) (pc' : Nat) {x : Int32} (hd : decode bytes pc = .ok (.i2l, 1)) (hp : pc + 1 = pc') (K : Go p l e R s m args below meth c h0 Q ds k n pc' Ls (.long x.toInt64 :: St)) : Go p l e R s m args below meth c h0 Q ds k n pc Ls (.int x :: St) := by
  subst hp
  exact K.pure fun T locs X target h => XS.i2l X.here C.1 rfl (hb C.2.2.2.1 hd) rfl h
theorem g_l2i (C : Cx p s m meth c Z a0 own bytes ml rt nm) (pc' : Nat) {x : Int64} (hd : decode bytes pc = .ok (.l2i, 1)) (hp : pc + 1 = pc') (K : Go p l e R s m args below meth c h0 Q ds k n pc' Ls (.int x.toInt32 :: St)) : Go p l e R s m args below meth c h0 Q ds k n pc Ls (.long x :: St) := by
  subst hp
  exact K.pure fun T locs X target h => XS.l2i X.here C.1 rfl (hb C.2.2.2.1 hd) rfl h
theorem g_lneg (C : Cx p s m meth c Z a0 own bytes ml rt nm) (pc' : Nat) {x : Int64} (hd : decode bytes pc = .ok (.lneg, 1)) (hp : pc + 1 = pc') (K : Go p l e R s m args below meth c h0 Q ds k n pc' Ls (.long (-x) :: St)) : Go p l e R s m args below meth c h0 Q ds k n pc Ls (.long x :: St) := by
  subst hp
  exact K.pure fun T locs X target h => XS.lneg X.here C.1 rfl (hb C.2.2.2.1 hd) rfl h
theorem g_lcmp (C : Cx p s m meth c Z a0 own bytes ml rt nm) (pc' : Nat) {x y : Int64} (hd : decode bytes pc = .ok (.lcmp, 1)) (hp : pc + 1 = pc') (K : Go p l e R s m args below meth c h0 Q ds k n pc' Ls (.int (lcmpW x y) :: St)) : Go p l e R s m args below meth c h0 Q ds k n pc Ls (.long y :: .long x :: St) := by
  subst hp
  exact K.pure fun T locs X target h => XS.lcmp X.here C.1 rfl (hb C.2.2.2.1 hd) rfl h
theorem g_iconst (C : Cx p s m meth c Z a0 own bytes ml rt nm) (pc' : Nat) (v : Int32) {i : Int} (hd : decode bytes pc = .ok (.iconst i, 1)) (hp : pc + 1 = pc') (hv : Int32.ofInt i = v) (K : Go p l e R s m args below meth c h0 Q ds k n pc' Ls (.int v :: St)) : Go p l e R s m args below meth c h0 Q ds k n pc Ls St := by
  subst hp hv
  exact K.pure fun T locs X target h => XS.iconst X.here C.1 rfl (hb C.2.2.2.1 hd) h
theorem g_bipush (C : Cx p s m meth c Z a0 own bytes ml rt nm) (pc' : Nat) (v : Int32) {i : Int} (hd : decode bytes pc = .ok (.bipush i, 2)) (hp : pc + 2 = pc') (hv : (Int8.ofInt i).toInt32 = v) (K : Go p l e R s m args below meth c h0 Q ds k n pc' Ls (.int v :: St)) : Go p l e R s m args below meth c h0 Q ds k n pc Ls St := by
  subst hp hv
  exact K.pure fun T locs X target h => XS.bipush X.here C.1 rfl (hb C.2.2.2.1 hd) h
theorem g_sipush (C : Cx p s m meth c Z a0 own bytes ml rt nm) (pc' : Nat) (v : Int32) {i : Int} (hd : decode bytes pc = .ok (.sipush i, 3)) (hp : pc + 3 = pc') (hv : (Int16.ofInt i).toInt32 = v) (K : Go p l e R s m args below meth c h0 Q ds k n pc' Ls (.int v :: St)) : Go p l e R s m args below meth c h0 Q ds k n pc Ls St := by
  subst hp hv
  exact K.pure fun T locs X target h => XS.sipush X.here C.1 rfl (hb C.2.2.2.1 hd) h
theorem g_lconst (C : Cx p s m meth c Z a0 own bytes ml rt nm) (pc' : Nat) (v : Int64) {i : Fin 2} (hd : decode bytes pc = .ok (.lconst i, 1)) (hp : pc + 1 = pc') (hv : Int64.ofNat i = v) (K : Go p l e R s m args below meth c h0 Q ds k n pc' Ls (.long v :: St)) : Go p l e R s m args below meth c h0 Q ds k n pc Ls St := by
  subst hp hv
  exact K.pure fun T locs X target h => XS.lconst X.here C.1 rfl (hb C.2.2.2.1 hd) h
theorem g_null (C : Cx p s m meth c Z a0 own bytes ml rt nm) (pc' : Nat) (hd : decode bytes pc = .ok (.aconst_null, 1)) (hp : pc + 1 = pc') (K : Go p l e R s m args below meth c h0 Q ds k n pc' Ls (.null :: St)) : Go p l e R s m args below meth c h0 Q ds k n pc Ls St := by
  subst hp
  exact K.pure fun T locs X target h => XS.aconstNull X.here C.1 rfl (hb C.2.2.2.1 hd) h
theorem g_iloadN (C : Cx p s m meth c Z a0 own bytes ml rt nm) (pc' : Nat) {i : Fin 4} {v : Int32} (hd : decode bytes pc = .ok (.iload_n i, 1)) (hp : pc + 1 = pc') (hl : Ls[i.val]? = some (.val (.int v))) (K : Go p l e R s m args below meth c h0 Q ds k n pc' Ls (.int v :: St)) : Go p l e R s m args below meth c h0 Q ds k n pc Ls St := by
  subst hp
  exact K.pure fun T locs X target h => XS.iloadN X.here C.1 rfl (hb C.2.2.2.1 hd) hl h
theorem g_iload (C : Cx p s m meth c Z a0 own bytes ml rt nm) (pc' : Nat) {i : Nat} {v : Int32} (hd : decode bytes pc = .ok (.iload i, 2)) (hp : pc + 2 = pc') (hl : Ls[i]? = some (.val (.int v))) (K : Go p l e R s m args below meth c h0 Q ds k n pc' Ls (.int v :: St)) : Go p l e R s m args below meth c h0 Q ds k n pc Ls St := by
  subst hp
  exact K.pure fun T locs X target h => XS.iload X.here C.1 rfl (hb C.2.2.2.1 hd) hl h
theorem g_istoreN (C : Cx p s m meth c Z a0 own bytes ml rt nm) (pc' : Nat) {i : Fin 4} {v : Int32} (Ls' : Array Slot) (hd : decode bytes pc = .ok (.istore_n i, 1)) (hp : pc + 1 = pc') (hl : storeLocals Ls i.val (.int v) = some Ls') (K : Go p l e R s m args below meth c h0 Q ds k n pc' Ls' St) : Go p l e R s m args below meth c h0 Q ds k n pc Ls (.int v :: St) := by
  subst hp
  exact K.pure fun T locs X target h => XS.istoreN X.here C.1 rfl (hb C.2.2.2.1 hd) rfl hl h
theorem g_istore (C : Cx p s m meth c Z a0 own bytes ml rt nm) (pc' : Nat) {i : Nat} {v : Int32} (Ls' : Array Slot) (hd : decode bytes pc = .ok (.istore i, 2)) (hp : pc + 2 = pc') (hl : storeLocals Ls i (.int v) = some Ls') (K : Go p l e R s m args below meth c h0 Q ds k n pc' Ls' St) : Go p l e R s m args below meth c h0 Q ds k n pc Ls (.int v :: St) := by
  subst hp
  exact K.pure fun T locs X target h => XS.istore X.here C.1 rfl (hb C.2.2.2.1 hd) rfl hl h
theorem g_lloadN (C : Cx p s m meth c Z a0 own bytes ml rt nm) (pc' : Nat) {i : Fin 4} {v : Int64} (hd : decode bytes pc = .ok (.lload_n i, 1)) (hp : pc + 1 = pc') (hl : Ls[i.val]? = some (.val (.long v))) (K : Go p l e R s m args below meth c h0 Q ds k n pc' Ls (.long v :: St)) : Go p l e R s m args below meth c h0 Q ds k n pc Ls St := by
  subst hp
  exact K.pure fun T locs X target h => XS.lloadN X.here C.1 rfl (hb C.2.2.2.1 hd) hl h
theorem g_lload (C : Cx p s m meth c Z a0 own bytes ml rt nm) (pc' : Nat) {i : Nat} {v : Int64} (hd : decode bytes pc = .ok (.lload i, 2)) (hp : pc + 2 = pc') (hl : Ls[i]? = some (.val (.long v))) (K : Go p l e R s m args below meth c h0 Q ds k n pc' Ls (.long v :: St)) : Go p l e R s m args below meth c h0 Q ds k n pc Ls St := by
  subst hp
  exact K.pure fun T locs X target h => XS.lload X.here C.1 rfl (hb C.2.2.2.1 hd) hl h
theorem g_lstoreN (C : Cx p s m meth c Z a0 own bytes ml rt nm) (pc' : Nat) {i : Fin 4} {v : Int64} (Ls' : Array Slot) (hd : decode bytes pc = .ok (.lstore_n i, 1)) (hp : pc + 1 = pc') (hl : storeLocals Ls i.val (.long v) = some Ls') (K : Go p l e R s m args below meth c h0 Q ds k n pc' Ls' St) : Go p l e R s m args below meth c h0 Q ds k n pc Ls (.long v :: St) := by
  subst hp
  exact K.pure fun T locs X target h => XS.lstoreN X.here C.1 rfl (hb C.2.2.2.1 hd) rfl hl h
theorem g_lstore (C : Cx p s m meth c Z a0 own bytes ml rt nm) (pc' : Nat) {i : Nat} {v : Int64} (Ls' : Array Slot) (hd : decode bytes pc = .ok (.lstore i, 2)) (hp : pc + 2 = pc') (hl : storeLocals Ls i (.long v) = some Ls') (K : Go p l e R s m args below meth c h0 Q ds k n pc' Ls' St) : Go p l e R s m args below meth c h0 Q ds k n pc Ls (.long v :: St) := by
  subst hp
  exact K.pure fun T locs X target h => XS.lstore X.here C.1 rfl (hb C.2.2.2.1 hd) rfl hl h
theorem g_dloadN (C : Cx p s m meth c Z a0 own bytes ml rt nm) (pc' : Nat) {i : Fin 4} {v : UInt64} (hd : decode bytes pc = .ok (.dload_n i, 1)) (hp : pc + 1 = pc') (hl : Ls[i.val]? = some (.val (.double v))) (K : Go p l e R s m args below meth c h0 Q ds k n pc' Ls (.double v :: St)) : Go p l e R s m args below meth c h0 Q ds k n pc Ls St := by
  subst hp
  exact K.pure fun T locs X target h => XS.dloadN X.here C.1 rfl (hb C.2.2.2.1 hd) hl h
theorem g_dload (C : Cx p s m meth c Z a0 own bytes ml rt nm) (pc' : Nat) {i : Nat} {v : UInt64} (hd : decode bytes pc = .ok (.dload i, 2)) (hp : pc + 2 = pc') (hl : Ls[i]? = some (.val (.double v))) (K : Go p l e R s m args below meth c h0 Q ds k n pc' Ls (.double v :: St)) : Go p l e R s m args below meth c h0 Q ds k n pc Ls St := by
  subst hp
  exact K.pure fun T locs X target h => XS.dload X.here C.1 rfl (hb C.2.2.2.1 hd) hl h
theorem g_dstoreN (C : Cx p s m meth c Z a0 own bytes ml rt nm) (pc' : Nat) {i : Fin 4} {v : UInt64} (Ls' : Array Slot) (hd : decode bytes pc = .ok (.dstore_n i, 1)) (hp : pc + 1 = pc') (hl : storeLocals Ls i.val (.double v) = some Ls') (K : Go p l e R s m args below meth c h0 Q ds k n pc' Ls' St) : Go p l e R s m args below meth c h0 Q ds k n pc Ls (.double v :: St) := by
  subst hp
  exact K.pure fun T locs X target h => XS.dstoreN X.here C.1 rfl (hb C.2.2.2.1 hd) rfl hl h
theorem g_dstore (C : Cx p s m meth c Z a0 own bytes ml rt nm) (pc' : Nat) {i : Nat} {v : UInt64} (Ls' : Array Slot) (hd : decode bytes pc = .ok (.dstore i, 2)) (hp : pc + 2 = pc') (hl : storeLocals Ls i (.double v) = some Ls') (K : Go p l e R s m args below meth c h0 Q ds k n pc' Ls' St) : Go p l e R s m args below meth c h0 Q ds k n pc Ls (.double v :: St) := by
  subst hp
  exact K.pure fun T locs X target h => XS.dstore X.here C.1 rfl (hb C.2.2.2.1 hd) rfl hl h
theorem g_aloadN (C : Cx p s m meth c Z a0 own bytes ml rt nm) (pc' : Nat) {i : Fin 4} {v : Value} (hd : decode bytes pc = .ok (.aload_n i, 1)) (hp : pc + 1 = pc') (hl : Ls[i.val]? = some (.val v)) (hv : v.isRef = true) (K : Go p l e R s m args below meth c h0 Q ds k n pc' Ls (v :: St)) : Go p l e R s m args below meth c h0 Q ds k n pc Ls St := by
  subst hp
  exact K.pure fun T locs X target h => XS.aloadN X.here C.1 rfl (hb C.2.2.2.1 hd) hl hv h
theorem g_aload (C : Cx p s m meth c Z a0 own bytes ml rt nm) (pc' : Nat) {i : Nat} {v : Value} (hd : decode bytes pc = .ok (.aload i, 2)) (hp : pc + 2 = pc') (hl : Ls[i]? = some (.val v)) (hv : v.isRef = true) (K : Go p l e R s m args below meth c h0 Q ds k n pc' Ls (v :: St)) : Go p l e R s m args below meth c h0 Q ds k n pc Ls St := by
  subst hp
  exact K.pure fun T locs X target h => XS.aload X.here C.1 rfl (hb C.2.2.2.1 hd) hl hv h
theorem g_astoreN (C : Cx p s m meth c Z a0 own bytes ml rt nm) (pc' : Nat) {i : Fin 4} {v : Value} (Ls' : Array Slot) (hd : decode bytes pc = .ok (.astore_n i, 1)) (hp : pc + 1 = pc') (hv : v.isRef = true) (hl : storeLocals Ls i.val v = some Ls') (K : Go p l e R s m args below meth c h0 Q ds k n pc' Ls' St) : Go p l e R s m args below meth c h0 Q ds k n pc Ls (v :: St) := by
  subst hp
  exact K.pure fun T locs X target h => XS.astoreN X.here C.1 rfl (hb C.2.2.2.1 hd) rfl hv hl h
theorem g_astore (C : Cx p s m meth c Z a0 own bytes ml rt nm) (pc' : Nat) {i : Nat} {v : Value} (Ls' : Array Slot) (hd : decode bytes pc = .ok (.astore i, 2)) (hp : pc + 2 = pc') (hv : v.isRef = true) (hl : storeLocals Ls i v = some Ls') (K : Go p l e R s m args below meth c h0 Q ds k n pc' Ls' St) : Go p l e R s m args below meth c h0 Q ds k n pc Ls (v :: St) := by
  subst hp
  exact K.pure fun T locs X target h => XS.astore X.here C.1 rfl (hb C.2.2.2.1 hd) rfl hv hl h
theorem g_iinc (C : Cx p s m meth c Z a0 own bytes ml rt nm) (pc' : Nat) {i : Nat} {cst : Int} {x : Int32} (z : Int32) (Ls' : Array Slot) (hd : decode bytes pc = .ok (.iinc i cst, 3)) (hp : pc + 3 = pc') (hl : Ls[i]? = some (.val (.int x))) (hz : x + Int32.ofInt cst = z) (hl' : storeLocals Ls i (.int z) = some Ls') (K : Go p l e R s m args below meth c h0 Q ds k n pc' Ls' St) : Go p l e R s m args below meth c h0 Q ds k n pc Ls St := by
  subst hp hz
  exact K.pure fun T locs X target h => XS.iinc X.here C.1 rfl (hb C.2.2.2.1 hd) hl hl' h
theorem g_dup (C : Cx p s m meth c Z a0 own bytes ml rt nm) (pc' : Nat) {v : Value} (hd : decode bytes pc = .ok (.dup, 1)) (hp : pc + 1 = pc') (hv : v.category = 1) (K : Go p l e R s m args below meth c h0 Q ds k n pc' Ls (v :: v :: St)) : Go p l e R s m args below meth c h0 Q ds k n pc Ls (v :: St) := by
  subst hp
  exact K.pure fun T locs X target h => XS.dup X.here C.1 rfl (hb C.2.2.2.1 hd) rfl hv h
theorem g_pop (C : Cx p s m meth c Z a0 own bytes ml rt nm) (pc' : Nat) {v : Value} (hd : decode bytes pc = .ok (.pop, 1)) (hp : pc + 1 = pc') (hv : v.category = 1) (K : Go p l e R s m args below meth c h0 Q ds k n pc' Ls St) : Go p l e R s m args below meth c h0 Q ds k n pc Ls (v :: St) := by
  subst hp
  exact K.pure fun T locs X target h => XS.pop X.here C.1 rfl (hb C.2.2.2.1 hd) rfl hv h
theorem g_dupX1 (C : Cx p s m meth c Z a0 own bytes ml rt nm) (pc' : Nat) {v w : Value} (hd : decode bytes pc = .ok (.dup_x1, 1)) (hp : pc + 1 = pc') (hv : v.category = 1) (hw : w.category = 1) (K : Go p l e R s m args below meth c h0 Q ds k n pc' Ls (v :: w :: v :: St)) : Go p l e R s m args below meth c h0 Q ds k n pc Ls (v :: w :: St) := by
  subst hp
  exact K.pure fun T locs X target h => XS.dupX1 X.here C.1 rfl (hb C.2.2.2.1 hd) rfl hv hw h
theorem g_dup2 (C : Cx p s m meth c Z a0 own bytes ml rt nm) (pc' : Nat) {v w : Value} (hd : decode bytes pc = .ok (.dup2, 1)) (hp : pc + 1 = pc') (hv : v.category = 1) (hw : w.category = 1) (K : Go p l e R s m args below meth c h0 Q ds k n pc' Ls (v :: w :: v :: w :: St)) : Go p l e R s m args below meth c h0 Q ds k n pc Ls (v :: w :: St) := by
  subst hp
  exact K.pure fun T locs X target h => XT.dup2 X.here C.1 rfl (hb C.2.2.2.1 hd) rfl hv hw h
theorem g_goto (C : Cx p s m meth c Z a0 own bytes ml rt nm) (pc' : Nat) {o : Int} (hd : decode bytes pc = .ok (.goto o, 3)) (ho : 0 ≤ (pc : Int) + o) (hp : ((pc : Int) + o).toNat = pc') (K : Go p l e R s m args below meth c h0 Q ds k n pc' Ls St) : Go p l e R s m args below meth c h0 Q ds k n pc Ls St := K.pure fun T locs X target h => XS.goto X.here C.1 rfl rfl (hb C.2.2.2.1 hd) ho hp h
theorem g_ifY (C : Cx p s m meth c Z a0 own bytes ml rt nm) (pc' : Nat) {cd : ClassFile.Cond} {x : Int32} {o : Int} (hd : decode bytes pc = .ok (.ifCond cd o, 3)) (hc : if_icmp.holds cd x 0 = true) (ho : 0 ≤ (pc : Int) + o) (hp : ((pc : Int) + o).toNat = pc') (K : Go p l e R s m args below meth c h0 Q ds k n pc' Ls St) : Go p l e R s m args below meth c h0 Q ds k n pc Ls (.int x :: St) := K.pure fun T locs X target h => XS.ifYes X.here C.1 rfl rfl (hb C.2.2.2.1 hd) rfl ((if0 _ _).trans hc) ho hp h
theorem g_ifN (C : Cx p s m meth c Z a0 own bytes ml rt nm) (pc' : Nat) {cd : ClassFile.Cond} {x : Int32} {o : Int} (hd : decode bytes pc = .ok (.ifCond cd o, 3)) (hc : if_icmp.holds cd x 0 = false) (hp : pc + 3 = pc') (K : Go p l e R s m args below meth c h0 Q ds k n pc' Ls St) : Go p l e R s m args below meth c h0 Q ds k n pc Ls (.int x :: St) := by
  subst hp
  exact K.pure fun T locs X target h => XS.ifNo X.here C.1 rfl (hb C.2.2.2.1 hd) rfl ((if0 _ _).trans hc) h
theorem g_icY (C : Cx p s m meth c Z a0 own bytes ml rt nm) (pc' : Nat) {cd : ClassFile.Cond} {x y : Int32} {o : Int} (hd : decode bytes pc = .ok (.if_icmp cd o, 3)) (hc : if_icmp.holds cd x y = true) (ho : 0 ≤ (pc : Int) + o) (hp : ((pc : Int) + o).toNat = pc') (K : Go p l e R s m args below meth c h0 Q ds k n pc' Ls St) : Go p l e R s m args below meth c h0 Q ds k n pc Ls (.int y :: .int x :: St) := K.pure fun T locs X target h => XS.icmpYes X.here C.1 rfl rfl (hb C.2.2.2.1 hd) rfl hc ho hp h
theorem g_icN (C : Cx p s m meth c Z a0 own bytes ml rt nm) (pc' : Nat) {cd : ClassFile.Cond} {x y : Int32} {o : Int} (hd : decode bytes pc = .ok (.if_icmp cd o, 3)) (hc : if_icmp.holds cd x y = false) (hp : pc + 3 = pc') (K : Go p l e R s m args below meth c h0 Q ds k n pc' Ls St) : Go p l e R s m args below meth c h0 Q ds k n pc Ls (.int y :: .int x :: St) := by
  subst hp
  exact K.pure fun T locs X target h => XS.icmpNo X.here C.1 rfl (hb C.2.2.2.1 hd) rfl hc h
theorem g_nullY (C : Cx p s m meth c Z a0 own bytes ml rt nm) (pc' : Nat) {o : Int} (hd : decode bytes pc = .ok (.ifnull o, 3)) (ho : 0 ≤ (pc : Int) + o) (hp : ((pc : Int) + o).toNat = pc') (K : Go p l e R s m args below meth c h0 Q ds k n pc' Ls St) : Go p l e R s m args below meth c h0 Q ds k n pc Ls (.null :: St) := K.pure fun T locs X target h => XS.ifnullYes X.here C.1 rfl rfl (hb C.2.2.2.1 hd) rfl ho hp h
theorem g_acY (C : Cx p s m meth c Z a0 own bytes ml rt nm) (pc' : Nat) {cd : ClassFile.ACond} {x y : Value} {o : Int} (hd : decode bytes pc = .ok (.if_acmp cd o, 3)) (hvx : x.isRef = true) (hvy : y.isRef = true) (hc : XT.acmp cd x y = true) (ho : 0 ≤ (pc : Int) + o) (hp : ((pc : Int) + o).toNat = pc') (K : Go p l e R s m args below meth c h0 Q ds k n pc' Ls St) : Go p l e R s m args below meth c h0 Q ds k n pc Ls (y :: x :: St) := K.pure fun T locs X target h => XT.acmpYes X.here C.1 rfl rfl (hb C.2.2.2.1 hd) rfl hvx hvy hc ho hp h
theorem g_acN (C : Cx p s m meth c Z a0 own bytes ml rt nm) (pc' : Nat) {cd : ClassFile.ACond} {x y : Value} {o : Int} (hd : decode bytes pc = .ok (.if_acmp cd o, 3)) (hvx : x.isRef = true) (hvy : y.isRef = true) (hc : XT.acmp cd x y = false) (hp : pc + 3 = pc') (K : Go p l e R s m args below meth c h0 Q ds k n pc' Ls St) : Go p l e R s m args below meth c h0 Q ds k n pc Ls (y :: x :: St) := by
  subst hp
  exact K.pure fun T locs X target h => XT.acmpNo X.here C.1 rfl (hb C.2.2.2.1 hd) rfl hvx hvy hc h
theorem g_ldcI (C : Cx p s m meth c Z a0 own bytes ml rt nm) (pc' : Nat) {i : Nat} (v : Int32) (hd : decode bytes pc = .ok (.ldc i, 2)) (hp : pc + 2 = pc') (w : Jvm.Cond.constant own i v ∈ tables_1) (K : Go p l e R s m args below meth c h0 Q ds k n pc' Ls (.int v :: St)) : Go p l e R s m args below meth c h0 Q ds k n pc Ls St := by
  subst hp
  exact K.pure fun T locs X target h => X.ldcInt C.1 C.2.2.2.2.2.1 (mvT C.2.1 (C.2.2.1 _ w)) (g := mkF m pc Ls St) rfl (hb C.2.2.2.1 hd) _ h
theorem g_ldcJ (C : Cx p s m meth c Z a0 own bytes ml rt nm) (pc' : Nat) {i : Nat} (v : Int64) (hd : decode bytes pc = .ok (.ldc2_w i, 3)) (hp : pc + 3 = pc') (w : Jvm.Cond.constantLong own i v ∈ tables_1) (K : Go p l e R s m args below meth c h0 Q ds k n pc' Ls (.long v :: St)) : Go p l e R s m args below meth c h0 Q ds k n pc Ls St := by
  subst hp
  exact K.pure fun T locs X target h => X.ldc2Long C.1 C.2.2.2.2.2.1 (mvT C.2.1 (C.2.2.1 _ w)) (g := mkF m pc Ls St) rfl (hb C.2.2.2.1 hd) _ h
/-! arrays -/
theorem IA.arr {ty : FieldType} {vs : List Value} {a : Addr} {cl : Cell} (hc : h[a]? = some cl) (d : IA Z ty vs cl) : Arr Z h a cl ty := ⟨hc, d.1, d.2.1⟩
theorem IA.size {ty : FieldType} {vs : List Value} {cl : Cell} (d : IA Z ty vs cl) : cl.slots.size = vs.length := by rw [← d.2.2]; simp
theorem IA.get {ty : FieldType} {vs : List Value} {cl : Cell} (d : IA Z ty vs cl) (i : Nat) : cl.slots[i]? = vs[i]? := by rw [← d.2.2]; simp
theorem IA.set {ty : FieldType} {vs : List Value} {cl : Cell} (d : IA Z ty vs cl) (i : Nat) (v : Value) : IA Z ty (vs.set i v) (cl.setSlot i v) := by
  refine ⟨d.1, d.2.1, ?_⟩
  rw [← d.2.2]
  simp [Cell.setSlot, Array.toList_setIfInBounds]
theorem in_of {ty : FieldType} {vs : List Value} {cl : Cell} (d : IA Z ty vs cl) {j : Int32} (hj : ¬ j < 0) (hlt : j.toNatClampNeg < vs.length) : ¬ (j < 0 ∨ cl.slots.size ≤ j.toNatClampNeg) := by
  rw [d.size]; rintro (q | q)
  · exact hj q
  · omega
theorem g_length (C : Cx p s m meth c Z a0 own bytes ml rt nm) (pc' : Nat) {i : Nat} {a : Addr} {ty : FieldType} {vs : List Value} (z : Int32) (hi : ds[i]? = some (a, IA Z ty vs)) (hd : decode bytes pc = .ok (.arraylength, 1)) (hp : pc + 1 = pc') (hz : vs.length.toInt32 = z) (K : Go p l e R s m args below meth c h0 Q ds k n pc' Ls (.int z :: St)) : Go p l e R s m args below meth c h0 Q ds k n pc Ls (.ref a :: St) := fun T locs X W N => by
  subst hp hz
  obtain ⟨ha, cl, hc, dc⟩ := W.at hi
  refine (K T locs X W N).pre fun t h => X.arraylength C.1 hc (State.isArrayOf_alike C.2.1.alike dc.1) (g := mkF m pc Ls (.ref a :: St)) rfl rfl (hb C.2.2.2.1 hd) t ?_
  rw [dc.size]; exact h
theorem g_aload_of (pc' : Nat) {i : Nat} {a : Addr} {ty : FieldType} {vs : List Value} (hi : ds[i]? = some (a, IA Z ty vs)) {j : Int32} (hj : ¬ j < 0) {v : Value} (hv : vs[j.toNatClampNeg]? = some v)
    (H : ∀ T locs (cl : Cell), Stand p l e R s m args below meth c T locs k n → T.heap[a]? = some cl → IA Z ty vs cl → ¬ (j < 0 ∨ cl.slots.size ≤ j.toNatClampNeg) → cl.slots[j.toNatClampNeg]? = some v → ∀ t, Steps p.tables e below (T.setTop (mkF m pc' Ls (v :: St))) t → Steps p.tables e below (T.setTop (mkF m pc Ls (.int j :: .ref a :: St))) t)
    (K : Go p l e R s m args below meth c h0 Q ds k n pc' Ls (v :: St)) : Go p l e R s m args below meth c h0 Q ds k n pc Ls (.int j :: .ref a :: St) := fun T locs X W N => by
  obtain ⟨ha, cl, hc, dc⟩ := W.at hi
  have hlt : j.toNatClampNeg < vs.length := (List.getElem?_eq_some_iff.mp hv).1
  exact (K T locs X W N).pre (H T locs cl X hc dc (in_of dc hj hlt) (by rw [dc.get]; exact hv))
theorem g_iaload (C : Cx p s m meth c Z a0 own bytes ml rt nm) (pc' : Nat) {i : Nat} {a : Addr} {xs : List Int32} (hi : ds[i]? = some (a, IA Z .int (ints xs))) (hd : decode bytes pc = .ok (.iaload, 1)) (hp : pc + 1 = pc') {j : Int32} (hj : ¬ j < 0) (v : Int32) (hv : xs[j.toNatClampNeg]? = some v) (K : Go p l e R s m args below meth c h0 Q ds k n pc' Ls (.int v :: St)) : Go p l e R s m args below meth c h0 Q ds k n pc Ls (.int j :: .ref a :: St) :=
  g_aload_of pc' hi hj (v := .int v) (by simp [hv]) (fun T locs cl X hc dc hin hat t h => by subst hp; exact X.iaload C.1 hc (State.isArrayOf_alike C.2.1.alike dc.1) dc.2.1 hin hat (g := mkF m pc Ls (.int j :: .ref a :: St)) rfl rfl (hb C.2.2.2.1 hd) t h) K
theorem g_caload (C : Cx p s m meth c Z a0 own bytes ml rt nm) (pc' : Nat) {i : Nat} {a : Addr} {xs : List Int32} (hi : ds[i]? = some (a, IA Z .char (ints xs))) (hd : decode bytes pc = .ok (.caload, 1)) (hp : pc + 1 = pc') {j : Int32} (hj : ¬ j < 0) (v : Int32) (hv : xs[j.toNatClampNeg]? = some v) (K : Go p l e R s m args below meth c h0 Q ds k n pc' Ls (.int v :: St)) : Go p l e R s m args below meth c h0 Q ds k n pc Ls (.int j :: .ref a :: St) :=
  g_aload_of pc' hi hj (v := .int v) (by simp [hv]) (fun T locs cl X hc dc hin hat t h => by subst hp; exact X.caload C.1 hc (State.isArrayOf_alike C.2.1.alike dc.1) dc.2.1 hin hat (g := mkF m pc Ls (.int j :: .ref a :: St)) rfl rfl (hb C.2.2.2.1 hd) t h) K
theorem g_baload (C : Cx p s m meth c Z a0 own bytes ml rt nm) (pc' : Nat) {i : Nat} {a : Addr} {xs : List Int32} (hi : ds[i]? = some (a, IA Z .byte (ints xs))) (hd : decode bytes pc = .ok (.baload, 1)) (hp : pc + 1 = pc') {j : Int32} (hj : ¬ j < 0) (v : Int32) (hv : xs[j.toNatClampNeg]? = some v) (K : Go p l e R s m args below meth c h0 Q ds k n pc' Ls (.int v :: St)) : Go p l e R s m args below meth c h0 Q ds k n pc Ls (.int j :: .ref a :: St) :=
  g_aload_of pc' hi hj (v := .int v) (by simp [hv]) (fun T locs cl X hc dc hin hat t h => by subst hp; exact X.baloadBytes C.1 hc (State.isArrayOf_alike C.2.1.alike dc.1) dc.2.1 hin hat (g := mkF m pc Ls (.int j :: .ref a :: St)) rfl rfl (hb C.2.2.2.1 hd) t h) K
theorem g_aaload (C : Cx p s m meth c Z a0 own bytes ml rt nm) (pc' : Nat) {i : Nat} {a : Addr} {ty : FieldType} {vs : List Value} (hi : ds[i]? = some (a, IA Z ty vs)) (hty : ty.isReference = true) (hd : decode bytes pc = .ok (.aaload, 1)) (hp : pc + 1 = pc') {j : Int32} (hj : ¬ j < 0) (v : Value) (hv : vs[j.toNatClampNeg]? = some v) (K : Go p l e R s m args below meth c h0 Q ds k n pc' Ls (v :: St)) : Go p l e R s m args below meth c h0 Q ds k n pc Ls (.int j :: .ref a :: St) :=
  g_aload_of pc' hi hj hv (fun T locs cl X hc dc hin hat t h => by subst hp; exact X.aaload C.1 hc (State.isArrayOf_alike C.2.1.alike dc.1) hty dc.2.1 hin hat (g := mkF m pc Ls (.int j :: .ref a :: St)) rfl rfl (hb C.2.2.2.1 hd) t h) K
theorem g_astore_of (C : Cx p s m meth c Z a0 own bytes ml rt nm) (pc' : Nat) {i : Nat} {a : Addr} {ty : FieldType} {vs vs' : List Value} (ds' : Wd) (hi : ds[i]? = some (a, IA Z ty vs)) {j : Int32} (hj : ¬ j < 0) (hlt : j.toNatClampNeg < vs.length) {v w : Value} (hvs : vs.set j.toNatClampNeg v = vs') (hds : ds.set i (a, IA Z ty vs') = ds')
    (H : ∀ T locs (cl : Cell), Stand p l e R s m args below meth c T locs k n → Arr Z T.heap a cl ty → ¬ (j < 0 ∨ cl.slots.size ≤ j.toNatClampNeg) → ∃ T' h', Stand p l e R s m args below meth c T' (locs ++ [⟨a, j.toNatClampNeg⟩]) k n ∧ T'.heap = h' ∧ Wr T.heap h' a j.toNatClampNeg v ∧ ∀ t, Steps p.tables e below (T'.setTop (mkF m pc' Ls St)) t → Steps p.tables e below (T.setTop (mkF m pc Ls (w :: .int j :: .ref a :: St))) t)
    (K : Go p l e R s m args below meth c h0 Q ds' k n pc' Ls St) : Go p l e R s m args below meth c h0 Q ds k n pc Ls (w :: .int j :: .ref a :: St) := fun T locs X W N => by
  subst hds hvs
  obtain ⟨ha, cl, hc, dc⟩ := W.at hi
  obtain ⟨T', h', X', e', wr, st⟩ := H T locs cl X (dc.arr hc) (in_of dc hj hlt)
  exact (K T' _ X' (by rw [e']; exact W.wr hi wr (fun c2 h2 _ d2 => d2.set _ _)) (Fr.snoc X' N ha)).pre st
theorem ints_set (xs : List Int32) (i : Nat) (v : Int32) : (ints xs).set i (.int v) = ints (xs.set i v) := by simp [ints, List.map_set]
theorem g_iastore (C : Cx p s m meth c Z a0 own bytes ml rt nm) (pc' : Nat) {i : Nat} {a : Addr} {xs : List Int32} (xs' : List Int32) (ds' : Wd) (hi : ds[i]? = some (a, IA Z .int (ints xs))) (hd : decode bytes pc = .ok (.iastore, 1)) (hp : pc + 1 = pc') {j v : Int32} (hj : ¬ j < 0) (hlt : j.toNatClampNeg < xs.length) (hx : xs.set j.toNatClampNeg v = xs') (hds : ds.set i (a, IA Z .int (ints xs')) = ds')
    (K : Go p l e R s m args below meth c h0 Q ds' k n pc' Ls St) : Go p l e R s m args below meth c h0 Q ds k n pc Ls (.int v :: .int j :: .ref a :: St) :=
  g_astore_of C pc' ds' hi hj (by simpa using hlt) (v := .int v) (vs' := ints xs') (by rw [ints_set, hx]) hds (fun T locs cl X A hin => by
    subst hp
    exact stI X C.1 C.2.1 rfl A hin (g := mkF m pc Ls (.int v :: .int j :: .ref a :: St)) rfl rfl (hb C.2.2.2.1 hd)) K
theorem g_castore (C : Cx p s m meth c Z a0 own bytes ml rt nm) (pc' : Nat) {i : Nat} {a : Addr} {xs : List Int32} (xs' : List Int32) (ds' : Wd) (hi : ds[i]? = some (a, IA Z .char (ints xs))) (hd : decode bytes pc = .ok (.castore, 1)) (hp : pc + 1 = pc') {j v : Int32} (hj : ¬ j < 0) (hlt : j.toNatClampNeg < xs.length) (hx : xs.set j.toNatClampNeg (nar .char v) = xs') (hds : ds.set i (a, IA Z .char (ints xs')) = ds')
    (K : Go p l e R s m args below meth c h0 Q ds' k n pc' Ls St) : Go p l e R s m args below meth c h0 Q ds k n pc Ls (.int v :: .int j :: .ref a :: St) :=
  g_astore_of C pc' ds' hi hj (by simpa using hlt) (v := .int (nar .char v)) (vs' := ints xs') (by rw [ints_set, hx]) hds (fun T locs cl X A hin => by
    subst hp
    exact stC X C.1 C.2.1 rfl A hin (g := mkF m pc Ls (.int v :: .int j :: .ref a :: St)) rfl rfl (hb C.2.2.2.1 hd)) K
theorem g_bastore (C : Cx p s m meth c Z a0 own bytes ml rt nm) (pc' : Nat) {i : Nat} {a : Addr} {xs : List Int32} (xs' : List Int32) (ds' : Wd) (hi : ds[i]? = some (a, IA Z .byte (ints xs))) (hd : decode bytes pc = .ok (.bastore, 1)) (hp : pc + 1 = pc') {j v : Int32} (hj : ¬ j < 0) (hlt : j.toNatClampNeg < xs.length) (hx : xs.set j.toNatClampNeg (nar .byte v) = xs') (hds : ds.set i (a, IA Z .byte (ints xs')) = ds')
    (K : Go p l e R s m args below meth c h0 Q ds' k n pc' Ls St) : Go p l e R s m args below meth c h0 Q ds k n pc Ls (.int v :: .int j :: .ref a :: St) :=
  g_astore_of C pc' ds' hi hj (by simpa using hlt) (v := .int (nar .byte v)) (vs' := ints xs') (by rw [ints_set, hx]) hds (fun T locs cl X A hin => by
    subst hp
    exact stB X C.1 C.2.1 rfl A hin (g := mkF m pc Ls (.int v :: .int j :: .ref a :: St)) rfl rfl (hb C.2.2.2.1 hd)) K
theorem IA.new {cA : ClassId} {ty : FieldType} {z : Int32} {a : Addr} (A : Arr Z h a (newA cA ty z) ty) : IA Z ty (List.replicate z.toNatClampNeg (defaultValue ty)) (newA cA ty z) := ⟨A.2.1, A.2.2, by simp [newA]⟩
theorem g_newarray (C : Cx p s m meth c Z a0 own bytes ml rt nm) (pc' : Nat) {aty : ArrayType} {z : Int32} (vs : List Value) (cap : Nat) (w : Jvm.Cond.arrayClass (newarray.typeOf aty) ∈ tables_1) (hd : decode bytes pc = .ok (.newarray aty, 2)) (hp : pc + 2 = pc') (hz : ¬ z < 0) (hcap : z.toNatClampNeg ≤ cap) (hcb : cap * 8 ≤ 536870912) (hk : k + 1 ≤ R.cells) (hn : n + cap ≤ R.slots)
    (hvs : List.replicate z.toNatClampNeg (defaultValue (newarray.typeOf aty)) = vs) (K : ∀ a, Go p l e R s m args below meth c h0 Q (ds ++ [(a, IA Z (newarray.typeOf aty) vs)]) (k + 1) (n + cap) pc' Ls (.ref a :: St)) : Go p l e R s m args below meth c h0 Q ds k n pc Ls (.int z :: St) := fun T locs X W N => by
  subst hp hvs
  obtain ⟨T', h', cA, X', e', E, A, st⟩ := newP X C.1 C.2.1 (C.2.2.1 _ w) rfl (g := mkF m pc Ls (.int z :: St)) rfl (hb C.2.2.2.1 hd) rfl hz hcap hcb hk hn
  exact (K T.heap.size T' locs X' (by rw [e']; exact W.new E A.1 (IA.new A)) N).pre st
/-! objects -/
theorem g_getfield (C : Cx p s m meth c Z a0 own bytes ml rt nm) (pc' : Nat) {i j idx : Nat} {a : Addr} {Cn O nf d : String} {v : Value} {fs : List Fv} (hi : ds[i]? = some (a, OB Z a0 Cn fs)) (hf : fs[j]? = some (O, nf, d, v)) (hd : decode bytes pc = .ok (.getfield idx, 3)) (hp : pc + 3 = pc') (w : Jvm.Cond.fieldLink own idx O nf d ∈ tables_1)
    (K : Go p l e R s m args below meth c h0 Q ds k n pc' Ls (v :: St)) : Go p l e R s m args below meth c h0 Q ds k n pc Ls (.ref a :: St) := fun T locs X W N => by
  subst hp
  obtain ⟨ha, cl, hc, dc⟩ := W.at hi
  obtain ⟨T', X', e', st⟩ := getF X C.1 C.2.1 C.2.2.2.2.2.1 (host := "") (Or.inl (C.2.2.1 _ w)) Via.refl rfl (dc.fld hc (List.mem_of_getElem? hf)) (g := mkF m pc Ls (.ref a :: St)) rfl rfl (hb C.2.2.2.1 hd)
  exact (K T' locs X' (by rw [e']; exact W) N).pre st
theorem OB.put {Cn O nf d : String} {v old : Value} {fs : List Fv} {j : Nat} {a : Addr} {cl : Cell} (hc : h[a]? = some cl) (dc : OB Z a0 Cn fs cl) (hf : fs[j]? = some (O, nf, d, old)) (hnd : (fs.map (fun x => x.2.1)).Nodup) (wr : Wr h h' a (Jvm.RoadKit.slotOf Z O nf d) v) : ∃ cl' : Cell, h'[a]? = some cl' ∧ OB Z a0 Cn (fs.set j (O, nf, d, v)) cl' := by
  have E : Exa Z h' a Cn := (dc.exa hc).wr wr
  obtain ⟨cl', k', hc', -⟩ := id E
  refine ⟨cl', hc', OB.of E hc' fun x hx => ?_⟩
  obtain ⟨q, hq⟩ := List.getElem?_of_mem hx
  have Fj := dc.fld hc (List.mem_of_getElem? hf)
  obtain ⟨-, Lj, tj, hj⟩ := dc.2 _ (List.mem_of_getElem? hf)
  rw [List.getElem?_set] at hq
  split at hq
  · rename_i hjq
    split at hq
    · cases hq; exact ⟨Fj.same wr, Lj, tj, hj⟩
    · cases hq
  · rename_i hjq
    obtain ⟨O', n', d', v'⟩ := x
    have Fx := dc.fld hc (List.mem_of_getElem? hq)
    obtain ⟨-, Lx, tx, hx'⟩ := dc.2 _ (List.mem_of_getElem? hq)
    refine ⟨Fx.other wr (Or.inr (slot_ne Lx Lj ?_ hx' hj)), Lx, tx, hx'⟩
    intro en
    apply hjq
    obtain ⟨l1, e1⟩ := List.getElem?_eq_some_iff.mp hf
    obtain ⟨l2, e2⟩ := List.getElem?_eq_some_iff.mp hq
    have g : (fs.map (fun x => x.2.1))[j]'(by simpa using l1) = (fs.map (fun x => x.2.1))[q]'(by simpa using l2) := by simp only [List.getElem_map, e1, e2]; exact en.symm
    exact nodup_inj hnd _ _ g
theorem Wld.wr' {i : Nat} {a : Addr} {d d' : Desc} {sl : Nat} {v : Value} {cl' : Cell} (W : Wld h0 ds h) (hi : ds[i]? = some (a, d)) (wr : Wr h h' a sl v) (hc' : h'[a]? = some cl') (dc' : d' cl') : Wld h0 (ds.set i (a, d')) h' :=
  W.wr hi wr fun c2 h2 hsl _ => by
    obtain ⟨c', e1, -, -, -, -, -, e7⟩ := wr_at wr h2
    cases e1.symm.trans hc'
    rw [← (e7 rfl).1]; exact dc'
theorem g_putfield (C : Cx p s m meth c Z a0 own bytes ml rt nm) (pc' : Nat) {i j idx kk : Nat} {a : Addr} {Cn O nf d : String} {v v' old : Value} {ty : FieldType} {fs : List Fv} (fs' : List Fv) (ds' : Wd) (hi : ds[i]? = some (a, OB Z a0 Cn fs)) (hf : fs[j]? = some (O, nf, d, old)) (hd : decode bytes pc = .ok (.putfield idx, 3)) (hp : pc + 3 = pc')
    (w : Jvm.Cond.fieldLink own idx O nf d ∈ tables_1) (L : Jvm.Cond.lays Cn O nf d ∈ tables_1 ∨ (Jvm.Cond.laysFinal Cn O nf d ∈ tables_1 ∧ own = O ∧ nm = "<init>")) (wi : Jvm.Cond.instantiable Cn kk ∈ tables_1) (hty : parseFieldDescriptor d = some ty) (hnr : narrow ty v = v') (hft : fits ty v' = true) (hnd : (fs.map (fun x => x.2.1)).Nodup)
    (hfs : fs.set j (O, nf, d, v') = fs') (hds : ds.set i (a, OB Z a0 Cn fs') = ds') (K : Go p l e R s m args below meth c h0 Q ds' k n pc' Ls St) : Go p l e R s m args below meth c h0 Q ds k n pc Ls (v :: .ref a :: St) := fun T locs X W N => by
  subst hp hfs hds
  obtain ⟨ha, cl, hc, dc⟩ := W.at hi
  obtain ⟨T', h', X', e', wr, st⟩ := putFN X C.1 C.2.1 C.2.2.2.2.2.1 (C.2.2.1 _ w) Via.refl rfl (dc.fld hc (List.mem_of_getElem? hf)) (dc.exa hc) (L.imp (fun q => C.2.2.1 _ q) (fun q => ⟨C.2.2.1 _ q.1, q.2.1, C.2.2.2.2.2.2.2.2.trans q.2.2⟩)) (C.2.2.1 _ wi) hty hnr hft (g := mkF m pc Ls (v :: .ref a :: St)) rfl rfl (hb C.2.2.2.1 hd)
  obtain ⟨cl', hc', dc'⟩ := dc.put hc hf hnd wr
  exact (K T' _ X' (by rw [e']; exact W.wr' hi wr hc' dc') (Fr.snoc X' N ha)).pre st
theorem g_new (C : Cx p s m meth c Z a0 own bytes ml rt nm) (pc' : Nat) {idx sz : Nat} {Cn : String} (fs : List Fv) (w : Jvm.Cond.classLink own idx Cn ∈ tables_1) (wi : Jvm.Cond.instantiable Cn sz ∈ tables_1) (wz : Jvm.Cond.initialized Cn ∈ tables_1) (hd : decode bytes pc = .ok (.new idx, 3)) (hp : pc + 3 = pc') (hk : k + 1 ≤ R.cells) (hn : n + sz ≤ R.slots)
    (hfs : ∀ x ∈ fs, (Jvm.Cond.lays Cn x.1 x.2.1 x.2.2.1 ∈ tables_1 ∨ Jvm.Cond.laysFinal Cn x.1 x.2.1 x.2.2.1 ∈ tables_1) ∧ ∃ t, parseFieldDescriptor x.2.2.1 = some t ∧ x.2.2.2 = defaultValue t)
    (K : ∀ a, Go p l e R s m args below meth c h0 Q (ds ++ [(a, OB Z a0 Cn fs)]) (k + 1) (n + sz) pc' Ls (.ref a :: St)) : Go p l e R s m args below meth c h0 Q ds k n pc Ls St := fun T locs X W N => by
  subst hp
  obtain ⟨T', h', X', e', E, A, D, ⟨cell, hcell, -⟩, st⟩ := newO X C.1 C.2.1 C.2.2.2.2.2.1 (C.2.2.1 _ w) (C.2.2.1 _ wi) (C.2.2.1 _ wz) rfl (g := mkF m pc Ls St) rfl (hb C.2.2.2.1 hd) hk hn
  refine (K T.heap.size T' locs X' (by
    rw [e']
    exact W.new E hcell (OB.of A hcell fun x hx => by
      obtain ⟨L, t, ht, hv⟩ := hfs x hx
      have L' : Laid Z a0 Cn x.1 x.2.1 x.2.2.1 := L.imp (fun q => C.2.2.1 _ q) (fun q => C.2.2.1 _ q)
      exact ⟨by rw [hv]; exact D L' ht, L', t, ht⟩)) N).pre st
theorem g_initO (C : Cx p s m meth c Z a0 own bytes ml rt nm) (pc' W0 : Nat) {idx : Nat} {a : Addr} (w1 : Jvm.Cond.methodLink own idx Lib.objectInit ∈ tables_1) (w2 : Jvm.Cond.instanceMethod Lib.objectInit ∈ tables_1) (w3 : Jvm.Cond.code Lib.objectInit ⟨#[0xb1]⟩ 1 none ∈ tables_1) (hd : decode bytes pc = .ok (.invokespecial idx, 3)) (hp : pc + 3 = pc') (hsz : Ls.size = ml) (hf : 1 ≤ R.frames) (hW : (St.map fun v => v.category).sum ≤ W0) (hl : W0 + 12 ≤ R.locals)
    (K : Go p l e R s m args below meth c h0 Q ds k n pc' Ls St) : Go p l e R s m args below meth c h0 Q ds k n pc Ls (.ref a :: St) := fun T locs X W N => by
  subst hp
  obtain ⟨T', X', e', st⟩ := initO X C.1 C.2.1 C.2.2.2.2.2.1 (C.2.2.1 _ w1) (C.2.2.1 _ w2) (C.2.2.1 _ w3) rfl (g := mkF m pc Ls (.ref a :: St)) rfl (by rw [C.2.2.2.2.1]; exact hsz) rfl (hb C.2.2.2.1 hd) hf (W := W0) (by show 2 * 0 + _ ≤ _; omega) hl
  exact (K T' locs X' (by rw [e']; exact W) N).pre st
/-! statics -/
theorem g_getstatic (C : Cx p s m meth c Z a0 own bytes ml rt nm) (pc' : Nat) {idx : Nat} {O nf d : String} {v : Value} (S : Sta Z h0 O nf d v) (hd : decode bytes pc = .ok (.getstatic idx, 3)) (hp : pc + 3 = pc') (w : Jvm.Cond.fieldLink own idx O nf d ∈ tables_1)
    (K : Go p l e R s m args below meth c h0 Q ds k n pc' Ls (v :: St)) : Go p l e R s m args below meth c h0 Q ds k n pc Ls St := fun T locs X W N => by
  subst hp
  obtain ⟨T', X', e', st⟩ := getS (host := "") X C.1 C.2.1 C.2.2.2.2.2.1 (C.2.2.1 _ w) Via.refl rfl (S.ext W.extOf) (g := mkF m pc Ls St) rfl (hb C.2.2.2.1 hd)
  exact (K T' locs X' (by rw [e']; exact W) N).pre st
/-! calls -/
theorem Go.back {pc' : Nat} {St' : List Value} {Q' : Option Value → Wd → Prop} {rm : Room} {locs : List Loc} {A : State} (N : Fr h0.size locs)
    (H : ∃ (v : Option Value) (B : Pt), Stand p l e R s m args below meth c B.U B.locs B.cells B.slots ∧ (∃ L, (∃ ds', Q' v ds' ∧ Wld h0 ds' B.U.heap ∧ Fr h0.size L) ∧ B.locs = locs ++ L ∧ B.cells = k + rm.cells ∧ B.slots = n + rm.slots) ∧ ∀ t, Steps p.tables e below (B.U.setTop (mkF m pc' Ls (v.toList ++ St'))) t → Steps p.tables e below A t)
    (K : ∀ v ds', Q' v ds' → Go p l e R s m args below meth c h0 Q ds' (k + rm.cells) (n + rm.slots) pc' Ls (v.toList ++ St')) :
    Ends p.tables e below A (fun o t => ∃ v L, o = .returned v ∧ (∃ ds', Q v ds' ∧ Wld h0 ds' t.heap ∧ Fr h0.size L) ∧ FrameEnd s o t L R.cells R.slots) := by
  obtain ⟨v, ⟨U, L', c', s'⟩, X', ⟨L, ⟨ds', q, W', N'⟩, e1, e2, e3⟩, st⟩ := H
  dsimp only [Pt.U, Pt.locs, Pt.cells, Pt.slots] at X' W' e1 e2 e3 st
  subst e1 e2 e3
  exact (K v ds' q U _ X' W' (N.app N')).pre st
theorem g_static (C : Cx p s m meth c Z a0 own bytes ml rt nm) (pc' W0 : Nat) {idx : Nat} {y : MethodName} {bytes' : ByteArray} {ml' : Nat} {rt' : Option FieldType} {rm : Room} {argsL : List Value} {Q' : Option Value → Wd → Prop} (con : Con l Z y bytes' ml' rt' rm h0 argsL.toArray ds Q')
    (w1 : Jvm.Cond.methodLink own idx y ∈ tables_1) (w2 : Jvm.Cond.static y ∈ tables_1) (w3 : Jvm.Cond.initialized y.cls ∈ tables_1) (w4 : Jvm.Cond.code y bytes' ml' rt' ∈ tables_1) (hy : y.cls ≠ "java/lang/invoke/MethodHandle" ∧ y.cls ≠ "java/lang/invoke/VarHandle")
    (hd : decode bytes pc = .ok (.invokestatic idx, 3)) (hp : pc + 3 = pc') (hsz : Ls.size = ml) (hlen : ∀ sig, parseMethodDescriptor y.desc = some sig → argsL.length = sig.parameters.length) {St0 : List Value} (hst : St0 = argsL.reverse ++ St) (hW : (St.map fun v => v.category).sum ≤ W0) (hf : rm.frames + 1 ≤ R.frames) (hl : W0 + (ml' + 11) + rm.locals ≤ R.locals) (hk : k + rm.cells ≤ R.cells) (hn : n + rm.slots ≤ R.slots)
    (K : ∀ v ds', Q' v ds' → Go p l e R s m args below meth c h0 Q ds' (k + rm.cells) (n + rm.slots) pc' Ls (v.toList ++ St)) : Go p l e R s m args below meth c h0 Q ds k n pc Ls St0 := fun T locs X W N => by
  subst hp hst
  refine Go.back (pc' := pc + 3) (Ls := Ls) (St' := St) N ?_ K
  obtain ⟨v, vm₁, B, -, X', hpost, st⟩ := Jvm.LawKit.callS X C.1 (y := y) C.2.2.2.2.2.1 (mvT C.2.1 (C.2.2.1 _ w1)) (mvT C.2.1 (C.2.2.1 _ w2)) (mvT C.2.1 (C.2.2.1 _ w3)) (mvT C.2.1 (C.2.2.1 _ w4)) hy
    (backOf (W := W0) (Q := fun v hh L => ∃ ds', Q' v ds' ∧ Wld h0 ds' hh ∧ Fr h0.size L) (con T.heap W []) C.2.1 (C.2.2.1 _ w4) (C.2.2.1 _ w3) hf hl) (g := mkF m pc Ls (argsL.reverse ++ St)) rfl (by rw [C.2.2.2.2.1]; exact hsz) (argsL := argsL) (rest := St) hlen rfl (by show 2 * 0 + _ ≤ _; omega) (hb C.2.2.2.1 hd) (fun _ _ => ⟨rfl, rfl, hk, hn⟩)
  obtain ⟨L, q, e1, e2, e3⟩ := hpost
  exact ⟨v, B, X', ⟨L, q, e1, e2, e3⟩, st⟩
theorem g_special (C : Cx p s m meth c Z a0 own bytes ml rt nm) (pc' W0 : Nat) {idx : Nat} {y : MethodName} {bytes' : ByteArray} {ml' : Nat} {rm : Room} {a : Addr} {argsL : List Value} {Q' : Option Value → Wd → Prop} (con : Con l Z y bytes' ml' none rm h0 (.ref a :: argsL).toArray ds Q') (hy1 : y.name = "<init>")
    (w1 : Jvm.Cond.methodLink own idx y ∈ tables_1) (w2 : Jvm.Cond.instanceMethod y ∈ tables_1) (w3 : Jvm.Cond.initialized y.cls ∈ tables_1) (w4 : Jvm.Cond.code y bytes' ml' none ∈ tables_1) (hy : y.cls ≠ "java/lang/invoke/MethodHandle" ∧ y.cls ≠ "java/lang/invoke/VarHandle")
    (hd : decode bytes pc = .ok (.invokespecial idx, 3)) (hp : pc + 3 = pc') (hsz : Ls.size = ml) (hlen : ∀ sig, parseMethodDescriptor y.desc = some sig → argsL.length = sig.parameters.length) {St0 : List Value} (hst : St0 = argsL.reverse ++ .ref a :: St) (hW : (St.map fun v => v.category).sum ≤ W0) (hf : rm.frames + 1 ≤ R.frames) (hl : W0 + (ml' + 11) + rm.locals ≤ R.locals) (hk : k + rm.cells ≤ R.cells) (hn : n + rm.slots ≤ R.slots)
    (K : ∀ v ds', Q' v ds' → Go p l e R s m args below meth c h0 Q ds' (k + rm.cells) (n + rm.slots) pc' Ls (v.toList ++ St)) : Go p l e R s m args below meth c h0 Q ds k n pc Ls St0 := fun T locs X W N => by
  subst hp hst
  refine Go.back (pc' := pc + 3) (Ls := Ls) (St' := St) N ?_ K
  obtain ⟨v, vm₁, B, -, X', hpost, st⟩ := X.specialBack C.1 (y := y) hy1 C.2.2.2.2.2.1 (mvT C.2.1 (C.2.2.1 _ w1)) (mvT C.2.1 (C.2.2.1 _ w2)) (mvT C.2.1 (C.2.2.1 _ w4)) hy
    (backOf (W := W0) (Q := fun v hh L => ∃ ds', Q' v ds' ∧ Wld h0 ds' hh ∧ Fr h0.size L) (con T.heap W []) C.2.1 (C.2.2.1 _ w4) (C.2.2.1 _ w3) hf hl) (g := mkF m pc Ls (argsL.reverse ++ .ref a :: St)) rfl (by rw [C.2.2.2.2.1]; exact hsz) (Steps.refl _) (a := a) (argsL := argsL) (rest := St) hlen rfl (by show 2 * 0 + _ ≤ _; omega) (hb C.2.2.2.1 hd) (fun _ _ => ⟨rfl, rfl, hk, hn⟩)
  obtain ⟨L, q, e1, e2, e3⟩ := hpost
  exact ⟨v, B, X', ⟨L, q, e1, e2, e3⟩, fun t h => st.trans h⟩
theorem g_virtual (C : Cx p s m meth c Z a0 own bytes ml rt nm) (pc' W0 : Nat) {i idx : Nat} {Cn : String} {fs : List Fv} {y : MethodName} {bytes' : ByteArray} {ml' : Nat} {rt' : Option FieldType} {rm : Room} {a : Addr} {argsL : List Value} {Q' : Option Value → Wd → Prop} (hi : ds[i]? = some (a, OB Z a0 Cn fs)) (con : Con l Z y bytes' ml' rt' rm h0 (.ref a :: argsL).toArray ds Q')
    (w1 : Jvm.Cond.methodLink own idx y ∈ tables_1) (w2 : Jvm.Cond.declares y ∈ tables_1) (w5 : Jvm.Cond.selects Cn y y ∈ tables_1) (w6 : Jvm.Cond.instanceMethod y ∈ tables_1) (w3 : Jvm.Cond.initialized y.cls ∈ tables_1) (w4 : Jvm.Cond.code y bytes' ml' rt' ∈ tables_1) (hy : y.cls ≠ "java/lang/invoke/MethodHandle" ∧ y.cls ≠ "java/lang/invoke/VarHandle")
    (hd : decode bytes pc = .ok (.invokevirtual idx, 3)) (hp : pc + 3 = pc') (hsz : Ls.size = ml) (hlen : ∀ sig, parseMethodDescriptor y.desc = some sig → argsL.length = sig.parameters.length) {St0 : List Value} (hst : St0 = argsL.reverse ++ .ref a :: St) (hW : (St.map fun v => v.category).sum ≤ W0) (hf : rm.frames + 1 ≤ R.frames) (hl : W0 + (ml' + 11) + rm.locals ≤ R.locals) (hk : k + rm.cells ≤ R.cells) (hn : n + rm.slots ≤ R.slots)
    (K : ∀ v ds', Q' v ds' → Go p l e R s m args below meth c h0 Q ds' (k + rm.cells) (n + rm.slots) pc' Ls (v.toList ++ St)) : Go p l e R s m args below meth c h0 Q ds k n pc Ls St0 := fun T locs X W N => by
  subst hp hst
  refine Go.back (pc' := pc + 3) (Ls := Ls) (St' := St) N ?_ K
  obtain ⟨ha, cl, hc, dc⟩ := W.at hi
  obtain ⟨cq, kq, qa, qb, qc⟩ := isOf C.2.1 rfl (dc.exa hc)
  obtain ⟨v, vm₁, B, -, X', hpost, st⟩ := X.virtualBack C.1 (y := y) (z := y) C.2.2.2.2.2.1 (mvT C.2.1 (C.2.2.1 _ w1)) (mvT C.2.1 (C.2.2.1 _ w2)) (notFace_of_selects (args := #[]) (mvT C.2.1 (C.2.2.1 _ w5))) (mvT C.2.1 (C.2.2.1 _ w5)) (mvT C.2.1 (C.2.2.1 _ w6)) hy
    (backOf (W := W0) (Q := fun v hh L => ∃ ds', Q' v ds' ∧ Wld h0 ds' hh ∧ Fr h0.size L) (con T.heap W []) C.2.1 (C.2.2.1 _ w4) (C.2.2.1 _ w3) hf hl) qa qc (g := mkF m pc Ls (argsL.reverse ++ .ref a :: St)) rfl (by rw [C.2.2.2.2.1]; exact hsz) (Steps.refl _) (argsL := argsL) (rest := St) hlen rfl (by show 2 * 0 + _ ≤ _; omega) (hb C.2.2.2.1 hd) (fun _ _ => ⟨rfl, rfl, hk, hn⟩)
  obtain ⟨L, q, e1, e2, e3⟩ := hpost
  exact ⟨v, B, X', ⟨L, q, e1, e2, e3⟩, fun t h => st.trans h⟩
end Own
theorem d1_0 : decode method_2_code 0 = .ok (.iload_n 0, 1) := by decide +kernel
theorem d1_1 : decode method_2_code 1 = .ok (.iconst 3, 1) := by decide +kernel
theorem d1_2 : decode method_2_code 2 = .ok (.iand, 1) := by decide +kernel
theorem d1_3 : decode method_2_code 3 = .ok (.istore_n 1, 1) := by decide +kernel
theorem d1_4 : decode method_2_code 4 = .ok (.iload_n 1, 1) := by decide +kernel
theorem d1_5 : decode method_2_code 5 = .ok (.ifCond .ne 6, 3) := by decide +kernel
theorem d1_8 : decode method_2_code 8 = .ok (.bipush 13, 2) := by decide +kernel
theorem d1_10 : decode method_2_code 10 = .ok (.ireturn, 1) := by decide +kernel
theorem d1_11 : decode method_2_code 11 = .ok (.iload_n 1, 1) := by decide +kernel
theorem d1_12 : decode method_2_code 12 = .ok (.iconst 1, 1) := by decide +kernel
theorem d1_13 : decode method_2_code 13 = .ok (.if_icmp .ne 6, 3) := by decide +kernel
theorem d1_16 : decode method_2_code 16 = .ok (.bipush 10, 2) := by decide +kernel
theorem d1_18 : decode method_2_code 18 = .ok (.ireturn, 1) := by decide +kernel
theorem d1_19 : decode method_2_code 19 = .ok (.iload_n 0, 1) := by decide +kernel
theorem d1_20 : decode method_2_code 20 = .ok (.iconst 2, 1) := by decide +kernel
theorem d1_21 : decode method_2_code 21 = .ok (.ishr, 1) := by decide +kernel
theorem d1_22 : decode method_2_code 22 = .ok (.i2b, 1) := by decide +kernel
theorem d1_23 : decode method_2_code 23 = .ok (.ireturn, 1) := by decide +kernel
def f_draw (x0 : Int32) : Int32 := (if (x0 &&& (3 : Int32)) = (0 : Int32) then (nar .byte (13 : Int32)) else (if (x0 &&& (3 : Int32)) = (1 : Int32) then (nar .byte (10 : Int32)) else (nar .byte ((x0 >>> ((2 : Int32) &&& 31)).toInt8.toInt32))))
set_option maxRecDepth 65536 in
set_option maxHeartbeats 40000000 in
theorem con_f_draw (l : Launch) (Z : State) (a0 : Array Value) (hw : ∀ d ∈ tables_1, d.before a0 Z = true) (h0 : Heap) (ds : Wd) (x0 : Int32)  :
    Con l Z (⟨"com/example/vestwork/vestwork/actuarial/XmlBytesLineEndsPinLaw", "draw", "(I)B"⟩ : MethodName) method_2_code 2 (some .byte) ({ frames := 0, cells := 0, slots := 0, locals := 0 } : Room) h0 #[(.int x0)] ds (fun v ds' => v = some (.int (f_draw x0)) ∧ ds = ds') := by
  refine con_of (a0 := a0) (Ls := #[.val (.int x0), .unset]) (plainFor_of_name (by first | (simp [plainName, overriddenIn]; done) | decide +kernel)) hw (fun m => by first | (simp [entryFrame, mkF, argsToLocals, Value.category]; done) | rfl) ?_
  intro p e s m below meth c C
  refine g_iloadN C 1 d1_0 rfl rfl ?_
  refine g_iconst C 2 (3 : Int32) d1_1 rfl rfl ?_
  refine g_iand C 3 d1_2 rfl ?_
  refine g_istoreN C 4 #[.val (.int x0), .val (.int (x0 &&& (3 : Int32)))] d1_3 rfl rfl ?_
  refine g_iloadN C 5 d1_4 rfl rfl ?_
  by_cases c1 : (x0 &&& (3 : Int32)) = (0 : Int32)
  · refine g_ifN C 8 d1_5 (teq c1).2 rfl ?_
    refine g_bipush C 10 (13 : Int32) d1_8 rfl rfl ?_
    exact g_nret C (by simp) (z' := (nar .byte (13 : Int32))) rfl d1_10 (by decide) (by decide) ⟨by rw [f_draw, if_pos c1], rfl⟩
  · refine g_ifY C 11 d1_5 (feq c1).2 (by decide) (by decide) ?_
    refine g_iloadN C 12 d1_11 rfl rfl ?_
    refine g_iconst C 13 (1 : Int32) d1_12 rfl rfl ?_
    by_cases c2 : (x0 &&& (3 : Int32)) = (1 : Int32)
    · refine g_icN C 16 d1_13 (teq c2).2 rfl ?_
      refine g_bipush C 18 (10 : Int32) d1_16 rfl rfl ?_
      exact g_nret C (by simp) (z' := (nar .byte (10 : Int32))) rfl d1_18 (by decide) (by decide) ⟨by rw [f_draw, if_neg c1, if_pos c2], rfl⟩
    · refine g_icY C 19 d1_13 (feq c2).2 (by decide) (by decide) ?_
      refine g_iloadN C 20 d1_19 rfl rfl ?_
      refine g_iconst C 21 (2 : Int32) d1_20 rfl rfl ?_
      refine g_ishr C 22 d1_21 rfl ?_
      refine g_i2b C 23 d1_22 rfl ?_
      exact g_nret C (by simp) (z' := (nar .byte ((x0 >>> ((2 : Int32) &&& 31)).toInt8.toInt32))) rfl d1_23 (by decide) (by decide) ⟨by rw [f_draw, if_neg c1, if_neg c2], rfl⟩
theorem d2_0 : decode prog_13_method_3_code 0 = .ok (.lconst 0, 1) := by decide +kernel
theorem d2_1 : decode prog_13_method_3_code 1 = .ok (.lstore_n 3, 1) := by decide +kernel
theorem d2_2 : decode prog_13_method_3_code 2 = .ok (.iload_n 1, 1) := by decide +kernel
theorem d2_3 : decode prog_13_method_3_code 3 = .ok (.istore 5, 2) := by decide +kernel
theorem d2_5 : decode prog_13_method_3_code 5 = .ok (.iload 5, 2) := by decide +kernel
theorem d2_7 : decode prog_13_method_3_code 7 = .ok (.iload_n 2, 1) := by decide +kernel
theorem d2_8 : decode prog_13_method_3_code 8 = .ok (.if_icmp .ge 49, 3) := by decide +kernel
theorem d2_11 : decode prog_13_method_3_code 11 = .ok (.aload_n 0, 1) := by decide +kernel
theorem d2_12 : decode prog_13_method_3_code 12 = .ok (.iload 5, 2) := by decide +kernel
theorem d2_14 : decode prog_13_method_3_code 14 = .ok (.baload, 1) := by decide +kernel
theorem d2_15 : decode prog_13_method_3_code 15 = .ok (.istore 6, 2) := by decide +kernel
theorem d2_17 : decode prog_13_method_3_code 17 = .ok (.iload 6, 2) := by decide +kernel
theorem d2_19 : decode prog_13_method_3_code 19 = .ok (.bipush 13, 2) := by decide +kernel
theorem d2_21 : decode prog_13_method_3_code 21 = .ok (.if_icmp .eq 26, 3) := by decide +kernel
theorem d2_24 : decode prog_13_method_3_code 24 = .ok (.iload 6, 2) := by decide +kernel
theorem d2_26 : decode prog_13_method_3_code 26 = .ok (.bipush 10, 2) := by decide +kernel
theorem d2_28 : decode prog_13_method_3_code 28 = .ok (.if_icmp .ne 23, 3) := by decide +kernel
theorem d2_31 : decode prog_13_method_3_code 31 = .ok (.iload 5, 2) := by decide +kernel
theorem d2_33 : decode prog_13_method_3_code 33 = .ok (.ifCond .eq 14, 3) := by decide +kernel
theorem d2_36 : decode prog_13_method_3_code 36 = .ok (.aload_n 0, 1) := by decide +kernel
theorem d2_37 : decode prog_13_method_3_code 37 = .ok (.iload 5, 2) := by decide +kernel
theorem d2_39 : decode prog_13_method_3_code 39 = .ok (.iconst 1, 1) := by decide +kernel
theorem d2_40 : decode prog_13_method_3_code 40 = .ok (.isub, 1) := by decide +kernel
theorem d2_41 : decode prog_13_method_3_code 41 = .ok (.baload, 1) := by decide +kernel
theorem d2_42 : decode prog_13_method_3_code 42 = .ok (.bipush 13, 2) := by decide +kernel
theorem d2_44 : decode prog_13_method_3_code 44 = .ok (.if_icmp .eq 7, 3) := by decide +kernel
theorem d2_47 : decode prog_13_method_3_code 47 = .ok (.lload_n 3, 1) := by decide +kernel
theorem d2_48 : decode prog_13_method_3_code 48 = .ok (.lconst 1, 1) := by decide +kernel
theorem d2_49 : decode prog_13_method_3_code 49 = .ok (.ladd, 1) := by decide +kernel
theorem d2_50 : decode prog_13_method_3_code 50 = .ok (.lstore_n 3, 1) := by decide +kernel
theorem d2_51 : decode prog_13_method_3_code 51 = .ok (.iinc 5 1, 3) := by decide +kernel
theorem d2_54 : decode prog_13_method_3_code 54 = .ok (.goto (-49), 3) := by decide +kernel
theorem d2_57 : decode prog_13_method_3_code 57 = .ok (.lload_n 3, 1) := by decide +kernel
theorem d2_58 : decode prog_13_method_3_code 58 = .ok (.lreturn, 1) := by decide +kernel
def le_5 (b0 b1 b2 b3 b4 x2 : Int32) (acc : Int64) : Int64 := acc
def le_4 (b0 b1 b2 b3 b4 x2 : Int32) (acc : Int64) : Int64 := (if (4 : Int32) < x2 then (if b4 = (13 : Int32) then (le_5 b0 b1 b2 b3 b4 x2 (acc + (1 : Int64))) else (if b4 = (10 : Int32) then (if b3 = (13 : Int32) then (le_5 b0 b1 b2 b3 b4 x2 acc) else (le_5 b0 b1 b2 b3 b4 x2 (acc + (1 : Int64)))) else (le_5 b0 b1 b2 b3 b4 x2 acc))) else acc)
def le_3 (b0 b1 b2 b3 b4 x2 : Int32) (acc : Int64) : Int64 := (if (3 : Int32) < x2 then (if b3 = (13 : Int32) then (le_4 b0 b1 b2 b3 b4 x2 (acc + (1 : Int64))) else (if b3 = (10 : Int32) then (if b2 = (13 : Int32) then (le_4 b0 b1 b2 b3 b4 x2 acc) else (le_4 b0 b1 b2 b3 b4 x2 (acc + (1 : Int64)))) else (le_4 b0 b1 b2 b3 b4 x2 acc))) else acc)
def le_2 (b0 b1 b2 b3 b4 x2 : Int32) (acc : Int64) : Int64 := (if (2 : Int32) < x2 then (if b2 = (13 : Int32) then (le_3 b0 b1 b2 b3 b4 x2 (acc + (1 : Int64))) else (if b2 = (10 : Int32) then (if b1 = (13 : Int32) then (le_3 b0 b1 b2 b3 b4 x2 acc) else (le_3 b0 b1 b2 b3 b4 x2 (acc + (1 : Int64)))) else (le_3 b0 b1 b2 b3 b4 x2 acc))) else acc)
def le_1 (b0 b1 b2 b3 b4 x2 : Int32) (acc : Int64) : Int64 := (if (1 : Int32) < x2 then (if b1 = (13 : Int32) then (le_2 b0 b1 b2 b3 b4 x2 (acc + (1 : Int64))) else (if b1 = (10 : Int32) then (if b0 = (13 : Int32) then (le_2 b0 b1 b2 b3 b4 x2 acc) else (le_2 b0 b1 b2 b3 b4 x2 (acc + (1 : Int64)))) else (le_2 b0 b1 b2 b3 b4 x2 acc))) else acc)
def le_0 (b0 b1 b2 b3 b4 x2 : Int32) (acc : Int64) : Int64 := (if (0 : Int32) < x2 then (if b0 = (13 : Int32) then (le_1 b0 b1 b2 b3 b4 x2 (acc + (1 : Int64))) else (if b0 = (10 : Int32) then (le_1 b0 b1 b2 b3 b4 x2 (acc + (1 : Int64))) else (le_1 b0 b1 b2 b3 b4 x2 acc))) else acc)
def le_all (b0 b1 b2 b3 b4 : Int32) (x1 x2 : Int32) : Int64 := if x1 = 0 then le_0 b0 b1 b2 b3 b4 x2 0 else if x1 = 1 then le_1 b0 b1 b2 b3 b4 x2 0 else if x1 = 2 then le_2 b0 b1 b2 b3 b4 x2 0 else if x1 = 3 then le_3 b0 b1 b2 b3 b4 x2 0 else if x1 = 4 then le_4 b0 b1 b2 b3 b4 x2 0 else le_5 b0 b1 b2 b3 b4 x2 0
set_option maxRecDepth 65536 in
set_option maxHeartbeats 40000000 in
theorem con_le (l : Launch) (Z : State) (a0 : Array Value) (hw : ∀ d ∈ tables_1, d.before a0 Z = true) (h0 : Heap) (ds : Wd) (q : Nat) (a : Addr) (b0 b1 b2 b3 b4 : Int32) (x1 x2 : Int32) (tgt : Int64) (hi : ds[q]? = some (a, IA Z .byte (ints [b0, b1, b2, b3, b4]))) (hf : x1 = 0 ∨ x1 = 1 ∨ x1 = 2 ∨ x1 = 3 ∨ x1 = 4 ∨ x1 = 5) (he : ¬ (5 : Int32) < x2) (hT : le_all b0 b1 b2 b3 b4 x1 x2 = tgt) :
    Con l Z (⟨"com/example/vestwork/vestwork/actuarial/XmlBytes", "lineEnds", "([BII)J"⟩ : MethodName) prog_13_method_3_code 7 (some .long) ({ frames := 0, cells := 0, slots := 0, locals := 0 } : Room) h0 #[(.ref a), (.int x1), (.int x2)] ds (fun v ds' => v = some (.long tgt) ∧ ds = ds') := by
  refine con_of (a0 := a0) (Ls := #[.val (.ref a), .val (.int x1), .val (.int x2), .unset, .unset, .unset, .unset]) (plainFor_of_name (by first | (simp [plainName, overriddenIn]; done) | decide +kernel)) hw (fun m => by first | (simp [entryFrame, mkF, argsToLocals, Value.category]; done) | rfl) ?_
  intro p e s m below meth c C
  have H5 : ∀ (acc : Int64) (s6 : Slot), One s6 → le_5 b0 b1 b2 b3 b4 x2 acc = tgt → Go p l e ({ frames := 0, cells := 0, slots := 0, locals := 0 } : Room) s m #[(.ref a), (.int x1), (.int x2)] below meth c h0 (fun v ds' => v = some (.long tgt) ∧ ds = ds') ds 0 0 5 #[.val (.ref a), .val (.int x1), .val (.int x2), .val (.long acc), .second, .val (.int (5 : Int32)), s6] [] := by
    intro acc s6 hs6 hT
    refine g_iload C 7 d2_5 rfl rfl ?_
    refine g_iloadN C 8 d2_7 rfl rfl ?_
    refine g_icY C 57 d2_8 (flt (he : ¬ ((5 : Int32) < x2))).2.1 (by decide) (by decide) ?_
    refine g_lloadN C 58 d2_57 rfl rfl ?_
    exact g_lret C d2_58 (by decide) (by decide) ⟨congrArg _ (congrArg _ (by rw [← hT, le_5])), rfl⟩
  have H4 : ∀ (acc : Int64) (s6 : Slot), One s6 → le_4 b0 b1 b2 b3 b4 x2 acc = tgt → Go p l e ({ frames := 0, cells := 0, slots := 0, locals := 0 } : Room) s m #[(.ref a), (.int x1), (.int x2)] below meth c h0 (fun v ds' => v = some (.long tgt) ∧ ds = ds') ds 0 0 5 #[.val (.ref a), .val (.int x1), .val (.int x2), .val (.long acc), .second, .val (.int (4 : Int32)), s6] [] := by
    intro acc s6 hs6 hT
    refine g_iload C 7 d2_5 rfl rfl ?_
    refine g_iloadN C 8 d2_7 rfl rfl ?_
    by_cases c1 : (4 : Int32) < x2
    · refine g_icN C 11 d2_8 (tlt c1).2.1 rfl ?_
      refine g_aloadN C 12 d2_11 rfl rfl rfl ?_
      refine g_iload C 14 d2_12 rfl rfl ?_
      refine g_baload C 15 hi d2_14 rfl (by decide) b4 rfl ?_
      refine g_istore C 17 #[.val (.ref a), .val (.int x1), .val (.int x2), .val (.long acc), .second, .val (.int (4 : Int32)), .val (.int b4)] d2_15 rfl (XS.store1 rfl hs6 rfl) ?_
      refine g_iload C 19 d2_17 rfl rfl ?_
      refine g_bipush C 21 (13 : Int32) d2_19 rfl rfl ?_
      by_cases c2 : b4 = (13 : Int32)
      · refine g_icY C 47 d2_21 (teq c2).1 (by decide) (by decide) ?_
        refine g_lloadN C 48 d2_47 rfl rfl ?_
        refine g_lconst C 49 (1 : Int64) d2_48 rfl rfl ?_
        refine g_ladd C 50 d2_49 rfl ?_
        refine g_lstoreN C 51 #[.val (.ref a), .val (.int x1), .val (.int x2), .val (.long (acc + (1 : Int64))), .second, .val (.int (4 : Int32)), .val (.int b4)] d2_50 rfl rfl ?_
        refine g_iinc C 54 (5 : Int32) #[.val (.ref a), .val (.int x1), .val (.int x2), .val (.long (acc + (1 : Int64))), .second, .val (.int (5 : Int32)), .val (.int b4)] d2_51 rfl rfl (by decide) rfl ?_
        refine g_goto C 5 d2_54 (by decide) (by decide) ?_
        exact H5 _ _ (One.val rfl) (by rw [← hT, le_4, if_pos c1, if_pos c2])
      · refine g_icN C 24 d2_21 (feq c2).1 rfl ?_
        refine g_iload C 26 d2_24 rfl rfl ?_
        refine g_bipush C 28 (10 : Int32) d2_26 rfl rfl ?_
        by_cases c3 : b4 = (10 : Int32)
        · refine g_icN C 31 d2_28 (teq c3).2 rfl ?_
          refine g_iload C 33 d2_31 rfl rfl ?_
          refine g_ifN C 36 d2_33 (feq ((by decide) : ¬ ((4 : Int32) = (0 : Int32)))).1 rfl ?_
          refine g_aloadN C 37 d2_36 rfl rfl rfl ?_
          refine g_iload C 39 d2_37 rfl rfl ?_
          refine g_iconst C 40 (1 : Int32) d2_39 rfl rfl ?_
          refine g_isub C 41 d2_40 rfl ?_
          rw [show ((4 : Int32) - (1 : Int32)) = (3 : Int32) from by decide]
          refine g_baload C 42 hi d2_41 rfl (by decide) b3 rfl ?_
          refine g_bipush C 44 (13 : Int32) d2_42 rfl rfl ?_
          by_cases c4 : b3 = (13 : Int32)
          · refine g_icY C 51 d2_44 (teq c4).1 (by decide) (by decide) ?_
            refine g_iinc C 54 (5 : Int32) #[.val (.ref a), .val (.int x1), .val (.int x2), .val (.long acc), .second, .val (.int (5 : Int32)), .val (.int b4)] d2_51 rfl rfl (by decide) rfl ?_
            refine g_goto C 5 d2_54 (by decide) (by decide) ?_
            exact H5 _ _ (One.val rfl) (by rw [← hT, le_4, if_pos c1, if_neg c2, if_pos c3, if_pos c4])
          · refine g_icN C 47 d2_44 (feq c4).1 rfl ?_
            refine g_lloadN C 48 d2_47 rfl rfl ?_
            refine g_lconst C 49 (1 : Int64) d2_48 rfl rfl ?_
            refine g_ladd C 50 d2_49 rfl ?_
            refine g_lstoreN C 51 #[.val (.ref a), .val (.int x1), .val (.int x2), .val (.long (acc + (1 : Int64))), .second, .val (.int (4 : Int32)), .val (.int b4)] d2_50 rfl rfl ?_
            refine g_iinc C 54 (5 : Int32) #[.val (.ref a), .val (.int x1), .val (.int x2), .val (.long (acc + (1 : Int64))), .second, .val (.int (5 : Int32)), .val (.int b4)] d2_51 rfl rfl (by decide) rfl ?_
            refine g_goto C 5 d2_54 (by decide) (by decide) ?_
            exact H5 _ _ (One.val rfl) (by rw [← hT, le_4, if_pos c1, if_neg c2, if_pos c3, if_neg c4])
        · refine g_icY C 51 d2_28 (feq c3).2 (by decide) (by decide) ?_
          refine g_iinc C 54 (5 : Int32) #[.val (.ref a), .val (.int x1), .val (.int x2), .val (.long acc), .second, .val (.int (5 : Int32)), .val (.int b4)] d2_51 rfl rfl (by decide) rfl ?_
          refine g_goto C 5 d2_54 (by decide) (by decide) ?_
          exact H5 _ _ (One.val rfl) (by rw [← hT, le_4, if_pos c1, if_neg c2, if_neg c3])
    · refine g_icY C 57 d2_8 (flt c1).2.1 (by decide) (by decide) ?_
      refine g_lloadN C 58 d2_57 rfl rfl ?_
      exact g_lret C d2_58 (by decide) (by decide) ⟨congrArg _ (congrArg _ (by rw [← hT, le_4, if_neg c1])), rfl⟩
  have H3 : ∀ (acc : Int64) (s6 : Slot), One s6 → le_3 b0 b1 b2 b3 b4 x2 acc = tgt → Go p l e ({ frames := 0, cells := 0, slots := 0, locals := 0 } : Room) s m #[(.ref a), (.int x1), (.int x2)] below meth c h0 (fun v ds' => v = some (.long tgt) ∧ ds = ds') ds 0 0 5 #[.val (.ref a), .val (.int x1), .val (.int x2), .val (.long acc), .second, .val (.int (3 : Int32)), s6] [] := by
    intro acc s6 hs6 hT
    refine g_iload C 7 d2_5 rfl rfl ?_
    refine g_iloadN C 8 d2_7 rfl rfl ?_
    by_cases c1 : (3 : Int32) < x2
    · refine g_icN C 11 d2_8 (tlt c1).2.1 rfl ?_
      refine g_aloadN C 12 d2_11 rfl rfl rfl ?_
      refine g_iload C 14 d2_12 rfl rfl ?_
      refine g_baload C 15 hi d2_14 rfl (by decide) b3 rfl ?_
      refine g_istore C 17 #[.val (.ref a), .val (.int x1), .val (.int x2), .val (.long acc), .second, .val (.int (3 : Int32)), .val (.int b3)] d2_15 rfl (XS.store1 rfl hs6 rfl) ?_
      refine g_iload C 19 d2_17 rfl rfl ?_
      refine g_bipush C 21 (13 : Int32) d2_19 rfl rfl ?_
      by_cases c2 : b3 = (13 : Int32)
      · refine g_icY C 47 d2_21 (teq c2).1 (by decide) (by decide) ?_
        refine g_lloadN C 48 d2_47 rfl rfl ?_
        refine g_lconst C 49 (1 : Int64) d2_48 rfl rfl ?_
        refine g_ladd C 50 d2_49 rfl ?_
        refine g_lstoreN C 51 #[.val (.ref a), .val (.int x1), .val (.int x2), .val (.long (acc + (1 : Int64))), .second, .val (.int (3 : Int32)), .val (.int b3)] d2_50 rfl rfl ?_
        refine g_iinc C 54 (4 : Int32) #[.val (.ref a), .val (.int x1), .val (.int x2), .val (.long (acc + (1 : Int64))), .second, .val (.int (4 : Int32)), .val (.int b3)] d2_51 rfl rfl (by decide) rfl ?_
        refine g_goto C 5 d2_54 (by decide) (by decide) ?_
        exact H4 _ _ (One.val rfl) (by rw [← hT, le_3, if_pos c1, if_pos c2])
      · refine g_icN C 24 d2_21 (feq c2).1 rfl ?_
        refine g_iload C 26 d2_24 rfl rfl ?_
        refine g_bipush C 28 (10 : Int32) d2_26 rfl rfl ?_
        by_cases c3 : b3 = (10 : Int32)
        · refine g_icN C 31 d2_28 (teq c3).2 rfl ?_
          refine g_iload C 33 d2_31 rfl rfl ?_
          refine g_ifN C 36 d2_33 (feq ((by decide) : ¬ ((3 : Int32) = (0 : Int32)))).1 rfl ?_
          refine g_aloadN C 37 d2_36 rfl rfl rfl ?_
          refine g_iload C 39 d2_37 rfl rfl ?_
          refine g_iconst C 40 (1 : Int32) d2_39 rfl rfl ?_
          refine g_isub C 41 d2_40 rfl ?_
          rw [show ((3 : Int32) - (1 : Int32)) = (2 : Int32) from by decide]
          refine g_baload C 42 hi d2_41 rfl (by decide) b2 rfl ?_
          refine g_bipush C 44 (13 : Int32) d2_42 rfl rfl ?_
          by_cases c4 : b2 = (13 : Int32)
          · refine g_icY C 51 d2_44 (teq c4).1 (by decide) (by decide) ?_
            refine g_iinc C 54 (4 : Int32) #[.val (.ref a), .val (.int x1), .val (.int x2), .val (.long acc), .second, .val (.int (4 : Int32)), .val (.int b3)] d2_51 rfl rfl (by decide) rfl ?_
            refine g_goto C 5 d2_54 (by decide) (by decide) ?_
            exact H4 _ _ (One.val rfl) (by rw [← hT, le_3, if_pos c1, if_neg c2, if_pos c3, if_pos c4])
          · refine g_icN C 47 d2_44 (feq c4).1 rfl ?_
            refine g_lloadN C 48 d2_47 rfl rfl ?_
            refine g_lconst C 49 (1 : Int64) d2_48 rfl rfl ?_
            refine g_ladd C 50 d2_49 rfl ?_
            refine g_lstoreN C 51 #[.val (.ref a), .val (.int x1), .val (.int x2), .val (.long (acc + (1 : Int64))), .second, .val (.int (3 : Int32)), .val (.int b3)] d2_50 rfl rfl ?_
            refine g_iinc C 54 (4 : Int32) #[.val (.ref a), .val (.int x1), .val (.int x2), .val (.long (acc + (1 : Int64))), .second, .val (.int (4 : Int32)), .val (.int b3)] d2_51 rfl rfl (by decide) rfl ?_
            refine g_goto C 5 d2_54 (by decide) (by decide) ?_
            exact H4 _ _ (One.val rfl) (by rw [← hT, le_3, if_pos c1, if_neg c2, if_pos c3, if_neg c4])
        · refine g_icY C 51 d2_28 (feq c3).2 (by decide) (by decide) ?_
          refine g_iinc C 54 (4 : Int32) #[.val (.ref a), .val (.int x1), .val (.int x2), .val (.long acc), .second, .val (.int (4 : Int32)), .val (.int b3)] d2_51 rfl rfl (by decide) rfl ?_
          refine g_goto C 5 d2_54 (by decide) (by decide) ?_
          exact H4 _ _ (One.val rfl) (by rw [← hT, le_3, if_pos c1, if_neg c2, if_neg c3])
    · refine g_icY C 57 d2_8 (flt c1).2.1 (by decide) (by decide) ?_
      refine g_lloadN C 58 d2_57 rfl rfl ?_
      exact g_lret C d2_58 (by decide) (by decide) ⟨congrArg _ (congrArg _ (by rw [← hT, le_3, if_neg c1])), rfl⟩
  have H2 : ∀ (acc : Int64) (s6 : Slot), One s6 → le_2 b0 b1 b2 b3 b4 x2 acc = tgt → Go p l e ({ frames := 0, cells := 0, slots := 0, locals := 0 } : Room) s m #[(.ref a), (.int x1), (.int x2)] below meth c h0 (fun v ds' => v = some (.long tgt) ∧ ds = ds') ds 0 0 5 #[.val (.ref a), .val (.int x1), .val (.int x2), .val (.long acc), .second, .val (.int (2 : Int32)), s6] [] := by
    intro acc s6 hs6 hT
    refine g_iload C 7 d2_5 rfl rfl ?_
    refine g_iloadN C 8 d2_7 rfl rfl ?_
    by_cases c1 : (2 : Int32) < x2
    · refine g_icN C 11 d2_8 (tlt c1).2.1 rfl ?_
      refine g_aloadN C 12 d2_11 rfl rfl rfl ?_
      refine g_iload C 14 d2_12 rfl rfl ?_
      refine g_baload C 15 hi d2_14 rfl (by decide) b2 rfl ?_
      refine g_istore C 17 #[.val (.ref a), .val (.int x1), .val (.int x2), .val (.long acc), .second, .val (.int (2 : Int32)), .val (.int b2)] d2_15 rfl (XS.store1 rfl hs6 rfl) ?_
      refine g_iload C 19 d2_17 rfl rfl ?_
      refine g_bipush C 21 (13 : Int32) d2_19 rfl rfl ?_
      by_cases c2 : b2 = (13 : Int32)
      · refine g_icY C 47 d2_21 (teq c2).1 (by decide) (by decide) ?_
        refine g_lloadN C 48 d2_47 rfl rfl ?_
        refine g_lconst C 49 (1 : Int64) d2_48 rfl rfl ?_
        refine g_ladd C 50 d2_49 rfl ?_
        refine g_lstoreN C 51 #[.val (.ref a), .val (.int x1), .val (.int x2), .val (.long (acc + (1 : Int64))), .second, .val (.int (2 : Int32)), .val (.int b2)] d2_50 rfl rfl ?_
        refine g_iinc C 54 (3 : Int32) #[.val (.ref a), .val (.int x1), .val (.int x2), .val (.long (acc + (1 : Int64))), .second, .val (.int (3 : Int32)), .val (.int b2)] d2_51 rfl rfl (by decide) rfl ?_
        refine g_goto C 5 d2_54 (by decide) (by decide) ?_
        exact H3 _ _ (One.val rfl) (by rw [← hT, le_2, if_pos c1, if_pos c2])
      · refine g_icN C 24 d2_21 (feq c2).1 rfl ?_
        refine g_iload C 26 d2_24 rfl rfl ?_
        refine g_bipush C 28 (10 : Int32) d2_26 rfl rfl ?_
        by_cases c3 : b2 = (10 : Int32)
        · refine g_icN C 31 d2_28 (teq c3).2 rfl ?_
          refine g_iload C 33 d2_31 rfl rfl ?_
          refine g_ifN C 36 d2_33 (feq ((by decide) : ¬ ((2 : Int32) = (0 : Int32)))).1 rfl ?_
          refine g_aloadN C 37 d2_36 rfl rfl rfl ?_
          refine g_iload C 39 d2_37 rfl rfl ?_
          refine g_iconst C 40 (1 : Int32) d2_39 rfl rfl ?_
          refine g_isub C 41 d2_40 rfl ?_
          rw [show ((2 : Int32) - (1 : Int32)) = (1 : Int32) from by decide]
          refine g_baload C 42 hi d2_41 rfl (by decide) b1 rfl ?_
          refine g_bipush C 44 (13 : Int32) d2_42 rfl rfl ?_
          by_cases c4 : b1 = (13 : Int32)
          · refine g_icY C 51 d2_44 (teq c4).1 (by decide) (by decide) ?_
            refine g_iinc C 54 (3 : Int32) #[.val (.ref a), .val (.int x1), .val (.int x2), .val (.long acc), .second, .val (.int (3 : Int32)), .val (.int b2)] d2_51 rfl rfl (by decide) rfl ?_
            refine g_goto C 5 d2_54 (by decide) (by decide) ?_
            exact H3 _ _ (One.val rfl) (by rw [← hT, le_2, if_pos c1, if_neg c2, if_pos c3, if_pos c4])
          · refine g_icN C 47 d2_44 (feq c4).1 rfl ?_
            refine g_lloadN C 48 d2_47 rfl rfl ?_
            refine g_lconst C 49 (1 : Int64) d2_48 rfl rfl ?_
            refine g_ladd C 50 d2_49 rfl ?_
            refine g_lstoreN C 51 #[.val (.ref a), .val (.int x1), .val (.int x2), .val (.long (acc + (1 : Int64))), .second, .val (.int (2 : Int32)), .val (.int b2)] d2_50 rfl rfl ?_
            refine g_iinc C 54 (3 : Int32) #[.val (.ref a), .val (.int x1), .val (.int x2), .val (.long (acc + (1 : Int64))), .second, .val (.int (3 : Int32)), .val (.int b2)] d2_51 rfl rfl (by decide) rfl ?_
            refine g_goto C 5 d2_54 (by decide) (by decide) ?_
            exact H3 _ _ (One.val rfl) (by rw [← hT, le_2, if_pos c1, if_neg c2, if_pos c3, if_neg c4])
        · refine g_icY C 51 d2_28 (feq c3).2 (by decide) (by decide) ?_
          refine g_iinc C 54 (3 : Int32) #[.val (.ref a), .val (.int x1), .val (.int x2), .val (.long acc), .second, .val (.int (3 : Int32)), .val (.int b2)] d2_51 rfl rfl (by decide) rfl ?_
          refine g_goto C 5 d2_54 (by decide) (by decide) ?_
          exact H3 _ _ (One.val rfl) (by rw [← hT, le_2, if_pos c1, if_neg c2, if_neg c3])
    · refine g_icY C 57 d2_8 (flt c1).2.1 (by decide) (by decide) ?_
      refine g_lloadN C 58 d2_57 rfl rfl ?_
      exact g_lret C d2_58 (by decide) (by decide) ⟨congrArg _ (congrArg _ (by rw [← hT, le_2, if_neg c1])), rfl⟩
  have H1 : ∀ (acc : Int64) (s6 : Slot), One s6 → le_1 b0 b1 b2 b3 b4 x2 acc = tgt → Go p l e ({ frames := 0, cells := 0, slots := 0, locals := 0 } : Room) s m #[(.ref a), (.int x1), (.int x2)] below meth c h0 (fun v ds' => v = some (.long tgt) ∧ ds = ds') ds 0 0 5 #[.val (.ref a), .val (.int x1), .val (.int x2), .val (.long acc), .second, .val (.int (1 : Int32)), s6] [] := by
    intro acc s6 hs6 hT
    refine g_iload C 7 d2_5 rfl rfl ?_
    refine g_iloadN C 8 d2_7 rfl rfl ?_
    by_cases c1 : (1 : Int32) < x2
    · refine g_icN C 11 d2_8 (tlt c1).2.1 rfl ?_
      refine g_aloadN C 12 d2_11 rfl rfl rfl ?_
      refine g_iload C 14 d2_12 rfl rfl ?_
      refine g_baload C 15 hi d2_14 rfl (by decide) b1 rfl ?_
      refine g_istore C 17 #[.val (.ref a), .val (.int x1), .val (.int x2), .val (.long acc), .second, .val (.int (1 : Int32)), .val (.int b1)] d2_15 rfl (XS.store1 rfl hs6 rfl) ?_
      refine g_iload C 19 d2_17 rfl rfl ?_
      refine g_bipush C 21 (13 : Int32) d2_19 rfl rfl ?_
      by_cases c2 : b1 = (13 : Int32)
      · refine g_icY C 47 d2_21 (teq c2).1 (by decide) (by decide) ?_
        refine g_lloadN C 48 d2_47 rfl rfl ?_
        refine g_lconst C 49 (1 : Int64) d2_48 rfl rfl ?_
        refine g_ladd C 50 d2_49 rfl ?_
        refine g_lstoreN C 51 #[.val (.ref a), .val (.int x1), .val (.int x2), .val (.long (acc + (1 : Int64))), .second, .val (.int (1 : Int32)), .val (.int b1)] d2_50 rfl rfl ?_
        refine g_iinc C 54 (2 : Int32) #[.val (.ref a), .val (.int x1), .val (.int x2), .val (.long (acc + (1 : Int64))), .second, .val (.int (2 : Int32)), .val (.int b1)] d2_51 rfl rfl (by decide) rfl ?_
        refine g_goto C 5 d2_54 (by decide) (by decide) ?_
        exact H2 _ _ (One.val rfl) (by rw [← hT, le_1, if_pos c1, if_pos c2])
      · refine g_icN C 24 d2_21 (feq c2).1 rfl ?_
        refine g_iload C 26 d2_24 rfl rfl ?_
        refine g_bipush C 28 (10 : Int32) d2_26 rfl rfl ?_
        by_cases c3 : b1 = (10 : Int32)
        · refine g_icN C 31 d2_28 (teq c3).2 rfl ?_
          refine g_iload C 33 d2_31 rfl rfl ?_
          refine g_ifN C 36 d2_33 (feq ((by decide) : ¬ ((1 : Int32) = (0 : Int32)))).1 rfl ?_
          refine g_aloadN C 37 d2_36 rfl rfl rfl ?_
          refine g_iload C 39 d2_37 rfl rfl ?_
          refine g_iconst C 40 (1 : Int32) d2_39 rfl rfl ?_
          refine g_isub C 41 d2_40 rfl ?_
          rw [show ((1 : Int32) - (1 : Int32)) = (0 : Int32) from by decide]
          refine g_baload C 42 hi d2_41 rfl (by decide) b0 rfl ?_
          refine g_bipush C 44 (13 : Int32) d2_42 rfl rfl ?_
          by_cases c4 : b0 = (13 : Int32)
          · refine g_icY C 51 d2_44 (teq c4).1 (by decide) (by decide) ?_
            refine g_iinc C 54 (2 : Int32) #[.val (.ref a), .val (.int x1), .val (.int x2), .val (.long acc), .second, .val (.int (2 : Int32)), .val (.int b1)] d2_51 rfl rfl (by decide) rfl ?_
            refine g_goto C 5 d2_54 (by decide) (by decide) ?_
            exact H2 _ _ (One.val rfl) (by rw [← hT, le_1, if_pos c1, if_neg c2, if_pos c3, if_pos c4])
          · refine g_icN C 47 d2_44 (feq c4).1 rfl ?_
            refine g_lloadN C 48 d2_47 rfl rfl ?_
            refine g_lconst C 49 (1 : Int64) d2_48 rfl rfl ?_
            refine g_ladd C 50 d2_49 rfl ?_
            refine g_lstoreN C 51 #[.val (.ref a), .val (.int x1), .val (.int x2), .val (.long (acc + (1 : Int64))), .second, .val (.int (1 : Int32)), .val (.int b1)] d2_50 rfl rfl ?_
            refine g_iinc C 54 (2 : Int32) #[.val (.ref a), .val (.int x1), .val (.int x2), .val (.long (acc + (1 : Int64))), .second, .val (.int (2 : Int32)), .val (.int b1)] d2_51 rfl rfl (by decide) rfl ?_
            refine g_goto C 5 d2_54 (by decide) (by decide) ?_
            exact H2 _ _ (One.val rfl) (by rw [← hT, le_1, if_pos c1, if_neg c2, if_pos c3, if_neg c4])
        · refine g_icY C 51 d2_28 (feq c3).2 (by decide) (by decide) ?_
          refine g_iinc C 54 (2 : Int32) #[.val (.ref a), .val (.int x1), .val (.int x2), .val (.long acc), .second, .val (.int (2 : Int32)), .val (.int b1)] d2_51 rfl rfl (by decide) rfl ?_
          refine g_goto C 5 d2_54 (by decide) (by decide) ?_
          exact H2 _ _ (One.val rfl) (by rw [← hT, le_1, if_pos c1, if_neg c2, if_neg c3])
    · refine g_icY C 57 d2_8 (flt c1).2.1 (by decide) (by decide) ?_
      refine g_lloadN C 58 d2_57 rfl rfl ?_
      exact g_lret C d2_58 (by decide) (by decide) ⟨congrArg _ (congrArg _ (by rw [← hT, le_1, if_neg c1])), rfl⟩
  have H0 : ∀ (acc : Int64) (s6 : Slot), One s6 → le_0 b0 b1 b2 b3 b4 x2 acc = tgt → Go p l e ({ frames := 0, cells := 0, slots := 0, locals := 0 } : Room) s m #[(.ref a), (.int x1), (.int x2)] below meth c h0 (fun v ds' => v = some (.long tgt) ∧ ds = ds') ds 0 0 5 #[.val (.ref a), .val (.int x1), .val (.int x2), .val (.long acc), .second, .val (.int (0 : Int32)), s6] [] := by
    intro acc s6 hs6 hT
    refine g_iload C 7 d2_5 rfl rfl ?_
    refine g_iloadN C 8 d2_7 rfl rfl ?_
    by_cases c1 : (0 : Int32) < x2
    · refine g_icN C 11 d2_8 (tlt c1).2.1 rfl ?_
      refine g_aloadN C 12 d2_11 rfl rfl rfl ?_
      refine g_iload C 14 d2_12 rfl rfl ?_
      refine g_baload C 15 hi d2_14 rfl (by decide) b0 rfl ?_
      refine g_istore C 17 #[.val (.ref a), .val (.int x1), .val (.int x2), .val (.long acc), .second, .val (.int (0 : Int32)), .val (.int b0)] d2_15 rfl (XS.store1 rfl hs6 rfl) ?_
      refine g_iload C 19 d2_17 rfl rfl ?_
      refine g_bipush C 21 (13 : Int32) d2_19 rfl rfl ?_
      by_cases c2 : b0 = (13 : Int32)
      · refine g_icY C 47 d2_21 (teq c2).1 (by decide) (by decide) ?_
        refine g_lloadN C 48 d2_47 rfl rfl ?_
        refine g_lconst C 49 (1 : Int64) d2_48 rfl rfl ?_
        refine g_ladd C 50 d2_49 rfl ?_
        refine g_lstoreN C 51 #[.val (.ref a), .val (.int x1), .val (.int x2), .val (.long (acc + (1 : Int64))), .second, .val (.int (0 : Int32)), .val (.int b0)] d2_50 rfl rfl ?_
        refine g_iinc C 54 (1 : Int32) #[.val (.ref a), .val (.int x1), .val (.int x2), .val (.long (acc + (1 : Int64))), .second, .val (.int (1 : Int32)), .val (.int b0)] d2_51 rfl rfl (by decide) rfl ?_
        refine g_goto C 5 d2_54 (by decide) (by decide) ?_
        exact H1 _ _ (One.val rfl) (by rw [← hT, le_0, if_pos c1, if_pos c2])
      · refine g_icN C 24 d2_21 (feq c2).1 rfl ?_
        refine g_iload C 26 d2_24 rfl rfl ?_
        refine g_bipush C 28 (10 : Int32) d2_26 rfl rfl ?_
        by_cases c3 : b0 = (10 : Int32)
        · refine g_icN C 31 d2_28 (teq c3).2 rfl ?_
          refine g_iload C 33 d2_31 rfl rfl ?_
          refine g_ifY C 47 d2_33 (teq ((by decide) : (0 : Int32) = (0 : Int32))).1 (by decide) (by decide) ?_
          refine g_lloadN C 48 d2_47 rfl rfl ?_
          refine g_lconst C 49 (1 : Int64) d2_48 rfl rfl ?_
          refine g_ladd C 50 d2_49 rfl ?_
          refine g_lstoreN C 51 #[.val (.ref a), .val (.int x1), .val (.int x2), .val (.long (acc + (1 : Int64))), .second, .val (.int (0 : Int32)), .val (.int b0)] d2_50 rfl rfl ?_
          refine g_iinc C 54 (1 : Int32) #[.val (.ref a), .val (.int x1), .val (.int x2), .val (.long (acc + (1 : Int64))), .second, .val (.int (1 : Int32)), .val (.int b0)] d2_51 rfl rfl (by decide) rfl ?_
          refine g_goto C 5 d2_54 (by decide) (by decide) ?_
          exact H1 _ _ (One.val rfl) (by rw [← hT, le_0, if_pos c1, if_neg c2, if_pos c3])
        · refine g_icY C 51 d2_28 (feq c3).2 (by decide) (by decide) ?_
          refine g_iinc C 54 (1 : Int32) #[.val (.ref a), .val (.int x1), .val (.int x2), .val (.long acc), .second, .val (.int (1 : Int32)), .val (.int b0)] d2_51 rfl rfl (by decide) rfl ?_
          refine g_goto C 5 d2_54 (by decide) (by decide) ?_
          exact H1 _ _ (One.val rfl) (by rw [← hT, le_0, if_pos c1, if_neg c2, if_neg c3])
    · refine g_icY C 57 d2_8 (flt c1).2.1 (by decide) (by decide) ?_
      refine g_lloadN C 58 d2_57 rfl rfl ?_
      exact g_lret C d2_58 (by decide) (by decide) ⟨congrArg _ (congrArg _ (by rw [← hT, le_0, if_neg c1])), rfl⟩
  refine g_lconst C 1 (0 : Int64) d2_0 rfl rfl ?_
  refine g_lstoreN C 2 #[.val (.ref a), .val (.int x1), .val (.int x2), .val (.long (0 : Int64)), .second, .unset, .unset] d2_1 rfl rfl ?_
  refine g_iloadN C 3 d2_2 rfl rfl ?_
  refine g_istore C 5 #[.val (.ref a), .val (.int x1), .val (.int x2), .val (.long (0 : Int64)), .second, .val (.int x1), .unset] d2_3 rfl rfl ?_
  rcases hf with rfl | rfl | rfl | rfl | rfl | rfl
  · exact H0 (0 : Int64) .unset One.u (by rw [← hT]; rfl)
  · exact H1 (0 : Int64) .unset One.u (by rw [← hT]; rfl)
  · exact H2 (0 : Int64) .unset One.u (by rw [← hT]; rfl)
  · exact H3 (0 : Int64) .unset One.u (by rw [← hT]; rfl)
  · exact H4 (0 : Int64) .unset One.u (by rw [← hT]; rfl)
  · exact H5 (0 : Int64) .unset One.u (by rw [← hT]; rfl)
theorem d3_0 : decode method_3_code 0 = .ok (.iload_n 1, 1) := by decide +kernel
theorem d3_1 : decode method_3_code 1 = .ok (.iload_n 2, 1) := by decide +kernel
theorem d3_2 : decode method_3_code 2 = .ok (.if_icmp .lt 8, 3) := by decide +kernel
theorem d3_5 : decode method_3_code 5 = .ok (.iload_n 1, 1) := by decide +kernel
theorem d3_6 : decode method_3_code 6 = .ok (.iload_n 3, 1) := by decide +kernel
theorem d3_7 : decode method_3_code 7 = .ok (.if_icmp .lt 5, 3) := by decide +kernel
theorem d3_10 : decode method_3_code 10 = .ok (.lconst 0, 1) := by decide +kernel
theorem d3_11 : decode method_3_code 11 = .ok (.lreturn, 1) := by decide +kernel
theorem d3_12 : decode method_3_code 12 = .ok (.lconst 0, 1) := by decide +kernel
theorem d3_13 : decode method_3_code 13 = .ok (.lstore 4, 2) := by decide +kernel
theorem d3_15 : decode method_3_code 15 = .ok (.aload_n 0, 1) := by decide +kernel
theorem d3_16 : decode method_3_code 16 = .ok (.iload_n 1, 1) := by decide +kernel
theorem d3_17 : decode method_3_code 17 = .ok (.baload, 1) := by decide +kernel
theorem d3_18 : decode method_3_code 18 = .ok (.bipush 13, 2) := by decide +kernel
theorem d3_20 : decode method_3_code 20 = .ok (.if_icmp .ne 9, 3) := by decide +kernel
theorem d3_23 : decode method_3_code 23 = .ok (.lload 4, 2) := by decide +kernel
theorem d3_25 : decode method_3_code 25 = .ok (.lconst 1, 1) := by decide +kernel
theorem d3_26 : decode method_3_code 26 = .ok (.ladd, 1) := by decide +kernel
theorem d3_27 : decode method_3_code 27 = .ok (.lstore 4, 2) := by decide +kernel
theorem d3_29 : decode method_3_code 29 = .ok (.aload_n 0, 1) := by decide +kernel
theorem d3_30 : decode method_3_code 30 = .ok (.iload_n 1, 1) := by decide +kernel
theorem d3_31 : decode method_3_code 31 = .ok (.baload, 1) := by decide +kernel
theorem d3_32 : decode method_3_code 32 = .ok (.bipush 10, 2) := by decide +kernel
theorem d3_34 : decode method_3_code 34 = .ok (.if_icmp .ne 9, 3) := by decide +kernel
theorem d3_37 : decode method_3_code 37 = .ok (.lload 4, 2) := by decide +kernel
theorem d3_39 : decode method_3_code 39 = .ok (.lconst 1, 1) := by decide +kernel
theorem d3_40 : decode method_3_code 40 = .ok (.ladd, 1) := by decide +kernel
theorem d3_41 : decode method_3_code 41 = .ok (.lstore 4, 2) := by decide +kernel
theorem d3_43 : decode method_3_code 43 = .ok (.iload_n 1, 1) := by decide +kernel
theorem d3_44 : decode method_3_code 44 = .ok (.iconst 1, 1) := by decide +kernel
theorem d3_45 : decode method_3_code 45 = .ok (.if_icmp .lt 27, 3) := by decide +kernel
theorem d3_48 : decode method_3_code 48 = .ok (.aload_n 0, 1) := by decide +kernel
theorem d3_49 : decode method_3_code 49 = .ok (.iload_n 1, 1) := by decide +kernel
theorem d3_50 : decode method_3_code 50 = .ok (.baload, 1) := by decide +kernel
theorem d3_51 : decode method_3_code 51 = .ok (.bipush 10, 2) := by decide +kernel
theorem d3_53 : decode method_3_code 53 = .ok (.if_icmp .ne 19, 3) := by decide +kernel
theorem d3_56 : decode method_3_code 56 = .ok (.aload_n 0, 1) := by decide +kernel
theorem d3_57 : decode method_3_code 57 = .ok (.iload_n 1, 1) := by decide +kernel
theorem d3_58 : decode method_3_code 58 = .ok (.iconst 1, 1) := by decide +kernel
theorem d3_59 : decode method_3_code 59 = .ok (.isub, 1) := by decide +kernel
theorem d3_60 : decode method_3_code 60 = .ok (.baload, 1) := by decide +kernel
theorem d3_61 : decode method_3_code 61 = .ok (.bipush 13, 2) := by decide +kernel
theorem d3_63 : decode method_3_code 63 = .ok (.if_icmp .ne 9, 3) := by decide +kernel
theorem d3_66 : decode method_3_code 66 = .ok (.lload 4, 2) := by decide +kernel
theorem d3_68 : decode method_3_code 68 = .ok (.lconst 1, 1) := by decide +kernel
theorem d3_69 : decode method_3_code 69 = .ok (.lsub, 1) := by decide +kernel
theorem d3_70 : decode method_3_code 70 = .ok (.lstore 4, 2) := by decide +kernel
theorem d3_72 : decode method_3_code 72 = .ok (.lload 4, 2) := by decide +kernel
theorem d3_74 : decode method_3_code 74 = .ok (.lreturn, 1) := by decide +kernel
def f_at0 (b0 b1 b2 b3 b4 x1 x2 : Int32) : Int64 := (if (0 : Int32) < x1 then (0 : Int64) else (if (0 : Int32) < x2 then (if b0 = (13 : Int32) then (if b0 = (10 : Int32) then (((0 : Int64) + (1 : Int64)) + (1 : Int64)) else ((0 : Int64) + (1 : Int64))) else (if b0 = (10 : Int32) then ((0 : Int64) + (1 : Int64)) else (0 : Int64))) else (0 : Int64)))
set_option maxRecDepth 65536 in
set_option maxHeartbeats 40000000 in
theorem con_at_0 (l : Launch) (Z : State) (a0 : Array Value) (hw : ∀ d ∈ tables_1, d.before a0 Z = true) (h0 : Heap) (ds : Wd) (q : Nat) (a : Addr) (b0 b1 b2 b3 b4 : Int32) (x1 x2 : Int32) (hi : ds[q]? = some (a, IA Z .byte (ints [b0, b1, b2, b3, b4]))) :
    Con l Z (⟨"com/example/vestwork/vestwork/actuarial/XmlBytesLineEndsPinLaw", "at", "([BIII)J"⟩ : MethodName) method_3_code 6 (some .long) ({ frames := 0, cells := 0, slots := 0, locals := 0 } : Room) h0 #[(.ref a), (.int (0 : Int32)), (.int x1), (.int x2)] ds (fun v ds' => v = some (.long (f_at0 b0 b1 b2 b3 b4 x1 x2)) ∧ ds = ds') := by
  refine con_of (a0 := a0) (Ls := #[.val (.ref a), .val (.int (0 : Int32)), .val (.int x1), .val (.int x2), .unset, .unset]) (plainFor_of_name (by first | (simp [plainName, overriddenIn]; done) | decide +kernel)) hw (fun m => by first | (simp [entryFrame, mkF, argsToLocals, Value.category]; done) | rfl) ?_
  intro p e s m below meth c C
  refine g_iloadN C 1 d3_0 rfl rfl ?_
  refine g_iloadN C 2 d3_1 rfl rfl ?_
  by_cases c1 : (0 : Int32) < x1
  · refine g_icY C 10 d3_2 (tlt c1).1 (by decide) (by decide) ?_
    refine g_lconst C 11 (0 : Int64) d3_10 rfl rfl ?_
    exact g_lret C d3_11 (by decide) (by decide) ⟨by rw [f_at0, if_pos c1], rfl⟩
  · refine g_icN C 5 d3_2 (flt c1).1 rfl ?_
    refine g_iloadN C 6 d3_5 rfl rfl ?_
    refine g_iloadN C 7 d3_6 rfl rfl ?_
    by_cases c2 : (0 : Int32) < x2
    · refine g_icY C 12 d3_7 (tlt c2).1 (by decide) (by decide) ?_
      refine g_lconst C 13 (0 : Int64) d3_12 rfl rfl ?_
      refine g_lstore C 15 #[.val (.ref a), .val (.int (0 : Int32)), .val (.int x1), .val (.int x2), .val (.long (0 : Int64)), .second] d3_13 rfl rfl ?_
      refine g_aloadN C 16 d3_15 rfl rfl rfl ?_
      refine g_iloadN C 17 d3_16 rfl rfl ?_
      refine g_baload C 18 hi d3_17 rfl (by decide) b0 rfl ?_
      refine g_bipush C 20 (13 : Int32) d3_18 rfl rfl ?_
      by_cases c3 : b0 = (13 : Int32)
      · refine g_icN C 23 d3_20 (teq c3).2 rfl ?_
        refine g_lload C 25 d3_23 rfl rfl ?_
        refine g_lconst C 26 (1 : Int64) d3_25 rfl rfl ?_
        refine g_ladd C 27 d3_26 rfl ?_
        refine g_lstore C 29 #[.val (.ref a), .val (.int (0 : Int32)), .val (.int x1), .val (.int x2), .val (.long ((0 : Int64) + (1 : Int64))), .second] d3_27 rfl rfl ?_
        refine g_aloadN C 30 d3_29 rfl rfl rfl ?_
        refine g_iloadN C 31 d3_30 rfl rfl ?_
        refine g_baload C 32 hi d3_31 rfl (by decide) b0 rfl ?_
        refine g_bipush C 34 (10 : Int32) d3_32 rfl rfl ?_
        by_cases c4 : b0 = (10 : Int32)
        · refine g_icN C 37 d3_34 (teq c4).2 rfl ?_
          refine g_lload C 39 d3_37 rfl rfl ?_
          refine g_lconst C 40 (1 : Int64) d3_39 rfl rfl ?_
          refine g_ladd C 41 d3_40 rfl ?_
          refine g_lstore C 43 #[.val (.ref a), .val (.int (0 : Int32)), .val (.int x1), .val (.int x2), .val (.long (((0 : Int64) + (1 : Int64)) + (1 : Int64))), .second] d3_41 rfl rfl ?_
          refine g_iloadN C 44 d3_43 rfl rfl ?_
          refine g_iconst C 45 (1 : Int32) d3_44 rfl rfl ?_
          refine g_icY C 72 d3_45 (tlt ((by decide) : (0 : Int32) < (1 : Int32))).1 (by decide) (by decide) ?_
          refine g_lload C 74 d3_72 rfl rfl ?_
          exact g_lret C d3_74 (by decide) (by decide) ⟨by rw [f_at0, if_neg c1, if_pos c2, if_pos c3, if_pos c4], rfl⟩
        · refine g_icY C 43 d3_34 (feq c4).2 (by decide) (by decide) ?_
          refine g_iloadN C 44 d3_43 rfl rfl ?_
          refine g_iconst C 45 (1 : Int32) d3_44 rfl rfl ?_
          refine g_icY C 72 d3_45 (tlt ((by decide) : (0 : Int32) < (1 : Int32))).1 (by decide) (by decide) ?_
          refine g_lload C 74 d3_72 rfl rfl ?_
          exact g_lret C d3_74 (by decide) (by decide) ⟨by rw [f_at0, if_neg c1, if_pos c2, if_pos c3, if_neg c4], rfl⟩
      · refine g_icY C 29 d3_20 (feq c3).2 (by decide) (by decide) ?_
        refine g_aloadN C 30 d3_29 rfl rfl rfl ?_
        refine g_iloadN C 31 d3_30 rfl rfl ?_
        refine g_baload C 32 hi d3_31 rfl (by decide) b0 rfl ?_
        refine g_bipush C 34 (10 : Int32) d3_32 rfl rfl ?_
        by_cases c5 : b0 = (10 : Int32)
        · refine g_icN C 37 d3_34 (teq c5).2 rfl ?_
          refine g_lload C 39 d3_37 rfl rfl ?_
          refine g_lconst C 40 (1 : Int64) d3_39 rfl rfl ?_
          refine g_ladd C 41 d3_40 rfl ?_
          refine g_lstore C 43 #[.val (.ref a), .val (.int (0 : Int32)), .val (.int x1), .val (.int x2), .val (.long ((0 : Int64) + (1 : Int64))), .second] d3_41 rfl rfl ?_
          refine g_iloadN C 44 d3_43 rfl rfl ?_
          refine g_iconst C 45 (1 : Int32) d3_44 rfl rfl ?_
          refine g_icY C 72 d3_45 (tlt ((by decide) : (0 : Int32) < (1 : Int32))).1 (by decide) (by decide) ?_
          refine g_lload C 74 d3_72 rfl rfl ?_
          exact g_lret C d3_74 (by decide) (by decide) ⟨by rw [f_at0, if_neg c1, if_pos c2, if_neg c3, if_pos c5], rfl⟩
        · refine g_icY C 43 d3_34 (feq c5).2 (by decide) (by decide) ?_
          refine g_iloadN C 44 d3_43 rfl rfl ?_
          refine g_iconst C 45 (1 : Int32) d3_44 rfl rfl ?_
          refine g_icY C 72 d3_45 (tlt ((by decide) : (0 : Int32) < (1 : Int32))).1 (by decide) (by decide) ?_
          refine g_lload C 74 d3_72 rfl rfl ?_
          exact g_lret C d3_74 (by decide) (by decide) ⟨by rw [f_at0, if_neg c1, if_pos c2, if_neg c3, if_neg c5], rfl⟩
    · refine g_icN C 10 d3_7 (flt c2).1 rfl ?_
      refine g_lconst C 11 (0 : Int64) d3_10 rfl rfl ?_
      exact g_lret C d3_11 (by decide) (by decide) ⟨by rw [f_at0, if_neg c1, if_neg c2], rfl⟩
def f_at1 (b0 b1 b2 b3 b4 x1 x2 : Int32) : Int64 := (if (1 : Int32) < x1 then (0 : Int64) else (if (1 : Int32) < x2 then (if b1 = (13 : Int32) then (if b1 = (10 : Int32) then (if b1 = (10 : Int32) then (if b0 = (13 : Int32) then ((((0 : Int64) + (1 : Int64)) + (1 : Int64)) - (1 : Int64)) else (((0 : Int64) + (1 : Int64)) + (1 : Int64))) else (((0 : Int64) + (1 : Int64)) + (1 : Int64))) else (if b1 = (10 : Int32) then (if b0 = (13 : Int32) then (((0 : Int64) + (1 : Int64)) - (1 : Int64)) else ((0 : Int64) + (1 : Int64))) else ((0 : Int64) + (1 : Int64)))) else (if b1 = (10 : Int32) then (if b1 = (10 : Int32) then (if b0 = (13 : Int32) then (((0 : Int64) + (1 : Int64)) - (1 : Int64)) else ((0 : Int64) + (1 : Int64))) else ((0 : Int64) + (1 : Int64))) else (if b1 = (10 : Int32) then (if b0 = (13 : Int32) then ((0 : Int64) - (1 : Int64)) else (0 : Int64)) else (0 : Int64)))) else (0 : Int64)))
set_option maxRecDepth 65536 in
set_option maxHeartbeats 40000000 in
theorem con_at_1 (l : Launch) (Z : State) (a0 : Array Value) (hw : ∀ d ∈ tables_1, d.before a0 Z = true) (h0 : Heap) (ds : Wd) (q : Nat) (a : Addr) (b0 b1 b2 b3 b4 : Int32) (x1 x2 : Int32) (hi : ds[q]? = some (a, IA Z .byte (ints [b0, b1, b2, b3, b4]))) :
    Con l Z (⟨"com/example/vestwork/vestwork/actuarial/XmlBytesLineEndsPinLaw", "at", "([BIII)J"⟩ : MethodName) method_3_code 6 (some .long) ({ frames := 0, cells := 0, slots := 0, locals := 0 } : Room) h0 #[(.ref a), (.int (1 : Int32)), (.int x1), (.int x2)] ds (fun v ds' => v = some (.long (f_at1 b0 b1 b2 b3 b4 x1 x2)) ∧ ds = ds') := by
  refine con_of (a0 := a0) (Ls := #[.val (.ref a), .val (.int (1 : Int32)), .val (.int x1), .val (.int x2), .unset, .unset]) (plainFor_of_name (by first | (simp [plainName, overriddenIn]; done) | decide +kernel)) hw (fun m => by first | (simp [entryFrame, mkF, argsToLocals, Value.category]; done) | rfl) ?_
  intro p e s m below meth c C
  refine g_iloadN C 1 d3_0 rfl rfl ?_
  refine g_iloadN C 2 d3_1 rfl rfl ?_
  by_cases c1 : (1 : Int32) < x1
  · refine g_icY C 10 d3_2 (tlt c1).1 (by decide) (by decide) ?_
    refine g_lconst C 11 (0 : Int64) d3_10 rfl rfl ?_
    exact g_lret C d3_11 (by decide) (by decide) ⟨by rw [f_at1, if_pos c1], rfl⟩
  · refine g_icN C 5 d3_2 (flt c1).1 rfl ?_
    refine g_iloadN C 6 d3_5 rfl rfl ?_
    refine g_iloadN C 7 d3_6 rfl rfl ?_
    by_cases c2 : (1 : Int32) < x2
    · refine g_icY C 12 d3_7 (tlt c2).1 (by decide) (by decide) ?_
      refine g_lconst C 13 (0 : Int64) d3_12 rfl rfl ?_
      refine g_lstore C 15 #[.val (.ref a), .val (.int (1 : Int32)), .val (.int x1), .val (.int x2), .val (.long (0 : Int64)), .second] d3_13 rfl rfl ?_
      refine g_aloadN C 16 d3_15 rfl rfl rfl ?_
      refine g_iloadN C 17 d3_16 rfl rfl ?_
      refine g_baload C 18 hi d3_17 rfl (by decide) b1 rfl ?_
      refine g_bipush C 20 (13 : Int32) d3_18 rfl rfl ?_
      by_cases c3 : b1 = (13 : Int32)
      · refine g_icN C 23 d3_20 (teq c3).2 rfl ?_
        refine g_lload C 25 d3_23 rfl rfl ?_
        refine g_lconst C 26 (1 : Int64) d3_25 rfl rfl ?_
        refine g_ladd C 27 d3_26 rfl ?_
        refine g_lstore C 29 #[.val (.ref a), .val (.int (1 : Int32)), .val (.int x1), .val (.int x2), .val (.long ((0 : Int64) + (1 : Int64))), .second] d3_27 rfl rfl ?_
        refine g_aloadN C 30 d3_29 rfl rfl rfl ?_
        refine g_iloadN C 31 d3_30 rfl rfl ?_
        refine g_baload C 32 hi d3_31 rfl (by decide) b1 rfl ?_
        refine g_bipush C 34 (10 : Int32) d3_32 rfl rfl ?_
        by_cases c4 : b1 = (10 : Int32)
        · refine g_icN C 37 d3_34 (teq c4).2 rfl ?_
          refine g_lload C 39 d3_37 rfl rfl ?_
          refine g_lconst C 40 (1 : Int64) d3_39 rfl rfl ?_
          refine g_ladd C 41 d3_40 rfl ?_
          refine g_lstore C 43 #[.val (.ref a), .val (.int (1 : Int32)), .val (.int x1), .val (.int x2), .val (.long (((0 : Int64) + (1 : Int64)) + (1 : Int64))), .second] d3_41 rfl rfl ?_
          refine g_iloadN C 44 d3_43 rfl rfl ?_
          refine g_iconst C 45 (1 : Int32) d3_44 rfl rfl ?_
          refine g_icN C 48 d3_45 (flt ((by decide) : ¬ ((1 : Int32) < (1 : Int32)))).1 rfl ?_
          refine g_aloadN C 49 d3_48 rfl rfl rfl ?_
          refine g_iloadN C 50 d3_49 rfl rfl ?_
          refine g_baload C 51 hi d3_50 rfl (by decide) b1 rfl ?_
          refine g_bipush C 53 (10 : Int32) d3_51 rfl rfl ?_
          by_cases c5 : b1 = (10 : Int32)
          · refine g_icN C 56 d3_53 (teq c5).2 rfl ?_
            refine g_aloadN C 57 d3_56 rfl rfl rfl ?_
            refine g_iloadN C 58 d3_57 rfl rfl ?_
            refine g_iconst C 59 (1 : Int32) d3_58 rfl rfl ?_
            refine g_isub C 60 d3_59 rfl ?_
            rw [show ((1 : Int32) - (1 : Int32)) = (0 : Int32) from by decide]
            refine g_baload C 61 hi d3_60 rfl (by decide) b0 rfl ?_
            refine g_bipush C 63 (13 : Int32) d3_61 rfl rfl ?_
            by_cases c6 : b0 = (13 : Int32)
            · refine g_icN C 66 d3_63 (teq c6).2 rfl ?_
              refine g_lload C 68 d3_66 rfl rfl ?_
              refine g_lconst C 69 (1 : Int64) d3_68 rfl rfl ?_
              refine g_lsub C 70 d3_69 rfl ?_
              refine g_lstore C 72 #[.val (.ref a), .val (.int (1 : Int32)), .val (.int x1), .val (.int x2), .val (.long ((((0 : Int64) + (1 : Int64)) + (1 : Int64)) - (1 : Int64))), .second] d3_70 rfl rfl ?_
              refine g_lload C 74 d3_72 rfl rfl ?_
              exact g_lret C d3_74 (by decide) (by decide) ⟨by rw [f_at1, if_neg c1, if_pos c2, if_pos c3, if_pos c4, if_pos c5, if_pos c6], rfl⟩
            · refine g_icY C 72 d3_63 (feq c6).2 (by decide) (by decide) ?_
              refine g_lload C 74 d3_72 rfl rfl ?_
              exact g_lret C d3_74 (by decide) (by decide) ⟨by rw [f_at1, if_neg c1, if_pos c2, if_pos c3, if_pos c4, if_pos c5, if_neg c6], rfl⟩
          · refine g_icY C 72 d3_53 (feq c5).2 (by decide) (by decide) ?_
            refine g_lload C 74 d3_72 rfl rfl ?_
            exact g_lret C d3_74 (by decide) (by decide) ⟨by rw [f_at1, if_neg c1, if_pos c2, if_pos c3, if_pos c4, if_neg c5], rfl⟩
        · refine g_icY C 43 d3_34 (feq c4).2 (by decide) (by decide) ?_
          refine g_iloadN C 44 d3_43 rfl rfl ?_
          refine g_iconst C 45 (1 : Int32) d3_44 rfl rfl ?_
          refine g_icN C 48 d3_45 (flt ((by decide) : ¬ ((1 : Int32) < (1 : Int32)))).1 rfl ?_
          refine g_aloadN C 49 d3_48 rfl rfl rfl ?_
          refine g_iloadN C 50 d3_49 rfl rfl ?_
          refine g_baload C 51 hi d3_50 rfl (by decide) b1 rfl ?_
          refine g_bipush C 53 (10 : Int32) d3_51 rfl rfl ?_
          by_cases c7 : b1 = (10 : Int32)
          · refine g_icN C 56 d3_53 (teq c7).2 rfl ?_
            refine g_aloadN C 57 d3_56 rfl rfl rfl ?_
            refine g_iloadN C 58 d3_57 rfl rfl ?_
            refine g_iconst C 59 (1 : Int32) d3_58 rfl rfl ?_
            refine g_isub C 60 d3_59 rfl ?_
            rw [show ((1 : Int32) - (1 : Int32)) = (0 : Int32) from by decide]
            refine g_baload C 61 hi d3_60 rfl (by decide) b0 rfl ?_
            refine g_bipush C 63 (13 : Int32) d3_61 rfl rfl ?_
            by_cases c8 : b0 = (13 : Int32)
            · refine g_icN C 66 d3_63 (teq c8).2 rfl ?_
              refine g_lload C 68 d3_66 rfl rfl ?_
              refine g_lconst C 69 (1 : Int64) d3_68 rfl rfl ?_
              refine g_lsub C 70 d3_69 rfl ?_
              refine g_lstore C 72 #[.val (.ref a), .val (.int (1 : Int32)), .val (.int x1), .val (.int x2), .val (.long (((0 : Int64) + (1 : Int64)) - (1 : Int64))), .second] d3_70 rfl rfl ?_
              refine g_lload C 74 d3_72 rfl rfl ?_
              exact g_lret C d3_74 (by decide) (by decide) ⟨by rw [f_at1, if_neg c1, if_pos c2, if_pos c3, if_neg c4, if_pos c7, if_pos c8], rfl⟩
            · refine g_icY C 72 d3_63 (feq c8).2 (by decide) (by decide) ?_
              refine g_lload C 74 d3_72 rfl rfl ?_
              exact g_lret C d3_74 (by decide) (by decide) ⟨by rw [f_at1, if_neg c1, if_pos c2, if_pos c3, if_neg c4, if_pos c7, if_neg c8], rfl⟩
          · refine g_icY C 72 d3_53 (feq c7).2 (by decide) (by decide) ?_
            refine g_lload C 74 d3_72 rfl rfl ?_
            exact g_lret C d3_74 (by decide) (by decide) ⟨by rw [f_at1, if_neg c1, if_pos c2, if_pos c3, if_neg c4, if_neg c7], rfl⟩
      · refine g_icY C 29 d3_20 (feq c3).2 (by decide) (by decide) ?_
        refine g_aloadN C 30 d3_29 rfl rfl rfl ?_
        refine g_iloadN C 31 d3_30 rfl rfl ?_
        refine g_baload C 32 hi d3_31 rfl (by decide) b1 rfl ?_
        refine g_bipush C 34 (10 : Int32) d3_32 rfl rfl ?_
        by_cases c9 : b1 = (10 : Int32)
        · refine g_icN C 37 d3_34 (teq c9).2 rfl ?_
          refine g_lload C 39 d3_37 rfl rfl ?_
          refine g_lconst C 40 (1 : Int64) d3_39 rfl rfl ?_
          refine g_ladd C 41 d3_40 rfl ?_
          refine g_lstore C 43 #[.val (.ref a), .val (.int (1 : Int32)), .val (.int x1), .val (.int x2), .val (.long ((0 : Int64) + (1 : Int64))), .second] d3_41 rfl rfl ?_
          refine g_iloadN C 44 d3_43 rfl rfl ?_
          refine g_iconst C 45 (1 : Int32) d3_44 rfl rfl ?_
          refine g_icN C 48 d3_45 (flt ((by decide) : ¬ ((1 : Int32) < (1 : Int32)))).1 rfl ?_
          refine g_aloadN C 49 d3_48 rfl rfl rfl ?_
          refine g_iloadN C 50 d3_49 rfl rfl ?_
          refine g_baload C 51 hi d3_50 rfl (by decide) b1 rfl ?_
          refine g_bipush C 53 (10 : Int32) d3_51 rfl rfl ?_
          by_cases c10 : b1 = (10 : Int32)
          · refine g_icN C 56 d3_53 (teq c10).2 rfl ?_
            refine g_aloadN C 57 d3_56 rfl rfl rfl ?_
            refine g_iloadN C 58 d3_57 rfl rfl ?_
            refine g_iconst C 59 (1 : Int32) d3_58 rfl rfl ?_
            refine g_isub C 60 d3_59 rfl ?_
            rw [show ((1 : Int32) - (1 : Int32)) = (0 : Int32) from by decide]
            refine g_baload C 61 hi d3_60 rfl (by decide) b0 rfl ?_
            refine g_bipush C 63 (13 : Int32) d3_61 rfl rfl ?_
            by_cases c11 : b0 = (13 : Int32)
            · refine g_icN C 66 d3_63 (teq c11).2 rfl ?_
              refine g_lload C 68 d3_66 rfl rfl ?_
              refine g_lconst C 69 (1 : Int64) d3_68 rfl rfl ?_
              refine g_lsub C 70 d3_69 rfl ?_
              refine g_lstore C 72 #[.val (.ref a), .val (.int (1 : Int32)), .val (.int x1), .val (.int x2), .val (.long (((0 : Int64) + (1 : Int64)) - (1 : Int64))), .second] d3_70 rfl rfl ?_
              refine g_lload C 74 d3_72 rfl rfl ?_
              exact g_lret C d3_74 (by decide) (by decide) ⟨by rw [f_at1, if_neg c1, if_pos c2, if_neg c3, if_pos c9, if_pos c10, if_pos c11], rfl⟩
            · refine g_icY C 72 d3_63 (feq c11).2 (by decide) (by decide) ?_
              refine g_lload C 74 d3_72 rfl rfl ?_
              exact g_lret C d3_74 (by decide) (by decide) ⟨by rw [f_at1, if_neg c1, if_pos c2, if_neg c3, if_pos c9, if_pos c10, if_neg c11], rfl⟩
          · refine g_icY C 72 d3_53 (feq c10).2 (by decide) (by decide) ?_
            refine g_lload C 74 d3_72 rfl rfl ?_
            exact g_lret C d3_74 (by decide) (by decide) ⟨by rw [f_at1, if_neg c1, if_pos c2, if_neg c3, if_pos c9, if_neg c10], rfl⟩
        · refine g_icY C 43 d3_34 (feq c9).2 (by decide) (by decide) ?_
          refine g_iloadN C 44 d3_43 rfl rfl ?_
          refine g_iconst C 45 (1 : Int32) d3_44 rfl rfl ?_
          refine g_icN C 48 d3_45 (flt ((by decide) : ¬ ((1 : Int32) < (1 : Int32)))).1 rfl ?_
          refine g_aloadN C 49 d3_48 rfl rfl rfl ?_
          refine g_iloadN C 50 d3_49 rfl rfl ?_
          refine g_baload C 51 hi d3_50 rfl (by decide) b1 rfl ?_
          refine g_bipush C 53 (10 : Int32) d3_51 rfl rfl ?_
          by_cases c12 : b1 = (10 : Int32)
          · refine g_icN C 56 d3_53 (teq c12).2 rfl ?_
            refine g_aloadN C 57 d3_56 rfl rfl rfl ?_
            refine g_iloadN C 58 d3_57 rfl rfl ?_
            refine g_iconst C 59 (1 : Int32) d3_58 rfl rfl ?_
            refine g_isub C 60 d3_59 rfl ?_
            rw [show ((1 : Int32) - (1 : Int32)) = (0 : Int32) from by decide]
            refine g_baload C 61 hi d3_60 rfl (by decide) b0 rfl ?_
            refine g_bipush C 63 (13 : Int32) d3_61 rfl rfl ?_
            by_cases c13 : b0 = (13 : Int32)
            · refine g_icN C 66 d3_63 (teq c13).2 rfl ?_
              refine g_lload C 68 d3_66 rfl rfl ?_
              refine g_lconst C 69 (1 : Int64) d3_68 rfl rfl ?_
              refine g_lsub C 70 d3_69 rfl ?_
              refine g_lstore C 72 #[.val (.ref a), .val (.int (1 : Int32)), .val (.int x1), .val (.int x2), .val (.long ((0 : Int64) - (1 : Int64))), .second] d3_70 rfl rfl ?_
              refine g_lload C 74 d3_72 rfl rfl ?_
              exact g_lret C d3_74 (by decide) (by decide) ⟨by rw [f_at1, if_neg c1, if_pos c2, if_neg c3, if_neg c9, if_pos c12, if_pos c13], rfl⟩
            · refine g_icY C 72 d3_63 (feq c13).2 (by decide) (by decide) ?_
              refine g_lload C 74 d3_72 rfl rfl ?_
              exact g_lret C d3_74 (by decide) (by decide) ⟨by rw [f_at1, if_neg c1, if_pos c2, if_neg c3, if_neg c9, if_pos c12, if_neg c13], rfl⟩
          · refine g_icY C 72 d3_53 (feq c12).2 (by decide) (by decide) ?_
            refine g_lload C 74 d3_72 rfl rfl ?_
            exact g_lret C d3_74 (by decide) (by decide) ⟨by rw [f_at1, if_neg c1, if_pos c2, if_neg c3, if_neg c9, if_neg c12], rfl⟩
    · refine g_icN C 10 d3_7 (flt c2).1 rfl ?_
      refine g_lconst C 11 (0 : Int64) d3_10 rfl rfl ?_
      exact g_lret C d3_11 (by decide) (by decide) ⟨by rw [f_at1, if_neg c1, if_neg c2], rfl⟩
def f_at2 (b0 b1 b2 b3 b4 x1 x2 : Int32) : Int64 := (if (2 : Int32) < x1 then (0 : Int64) else (if (2 : Int32) < x2 then (if b2 = (13 : Int32) then (if b2 = (10 : Int32) then (if b2 = (10 : Int32) then (if b1 = (13 : Int32) then ((((0 : Int64) + (1 : Int64)) + (1 : Int64)) - (1 : Int64)) else (((0 : Int64) + (1 : Int64)) + (1 : Int64))) else (((0 : Int64) + (1 : Int64)) + (1 : Int64))) else (if b2 = (10 : Int32) then (if b1 = (13 : Int32) then (((0 : Int64) + (1 : Int64)) - (1 : Int64)) else ((0 : Int64) + (1 : Int64))) else ((0 : Int64) + (1 : Int64)))) else (if b2 = (10 : Int32) then (if b2 = (10 : Int32) then (if b1 = (13 : Int32) then (((0 : Int64) + (1 : Int64)) - (1 : Int64)) else ((0 : Int64) + (1 : Int64))) else ((0 : Int64) + (1 : Int64))) else (if b2 = (10 : Int32) then (if b1 = (13 : Int32) then ((0 : Int64) - (1 : Int64)) else (0 : Int64)) else (0 : Int64)))) else (0 : Int64)))
set_option maxRecDepth 65536 in
set_option maxHeartbeats 40000000 in
theorem con_at_2 (l : Launch) (Z : State) (a0 : Array Value) (hw : ∀ d ∈ tables_1, d.before a0 Z = true) (h0 : Heap) (ds : Wd) (q : Nat) (a : Addr) (b0 b1 b2 b3 b4 : Int32) (x1 x2 : Int32) (hi : ds[q]? = some (a, IA Z .byte (ints [b0, b1, b2, b3, b4]))) :
    Con l Z (⟨"com/example/vestwork/vestwork/actuarial/XmlBytesLineEndsPinLaw", "at", "([BIII)J"⟩ : MethodName) method_3_code 6 (some .long) ({ frames := 0, cells := 0, slots := 0, locals := 0 } : Room) h0 #[(.ref a), (.int (2 : Int32)), (.int x1), (.int x2)] ds (fun v ds' => v = some (.long (f_at2 b0 b1 b2 b3 b4 x1 x2)) ∧ ds = ds') := by
  refine con_of (a0 := a0) (Ls := #[.val (.ref a), .val (.int (2 : Int32)), .val (.int x1), .val (.int x2), .unset, .unset]) (plainFor_of_name (by first | (simp [plainName, overriddenIn]; done) | decide +kernel)) hw (fun m => by first | (simp [entryFrame, mkF, argsToLocals, Value.category]; done) | rfl) ?_
  intro p e s m below meth c C
  refine g_iloadN C 1 d3_0 rfl rfl ?_
  refine g_iloadN C 2 d3_1 rfl rfl ?_
  by_cases c1 : (2 : Int32) < x1
  · refine g_icY C 10 d3_2 (tlt c1).1 (by decide) (by decide) ?_
    refine g_lconst C 11 (0 : Int64) d3_10 rfl rfl ?_
    exact g_lret C d3_11 (by decide) (by decide) ⟨by rw [f_at2, if_pos c1], rfl⟩
  · refine g_icN C 5 d3_2 (flt c1).1 rfl ?_
    refine g_iloadN C 6 d3_5 rfl rfl ?_
    refine g_iloadN C 7 d3_6 rfl rfl ?_
    by_cases c2 : (2 : Int32) < x2
    · refine g_icY C 12 d3_7 (tlt c2).1 (by decide) (by decide) ?_
      refine g_lconst C 13 (0 : Int64) d3_12 rfl rfl ?_
      refine g_lstore C 15 #[.val (.ref a), .val (.int (2 : Int32)), .val (.int x1), .val (.int x2), .val (.long (0 : Int64)), .second] d3_13 rfl rfl ?_
      refine g_aloadN C 16 d3_15 rfl rfl rfl ?_
      refine g_iloadN C 17 d3_16 rfl rfl ?_
      refine g_baload C 18 hi d3_17 rfl (by decide) b2 rfl ?_
      refine g_bipush C 20 (13 : Int32) d3_18 rfl rfl ?_
      by_cases c3 : b2 = (13 : Int32)
      · refine g_icN C 23 d3_20 (teq c3).2 rfl ?_
        refine g_lload C 25 d3_23 rfl rfl ?_
        refine g_lconst C 26 (1 : Int64) d3_25 rfl rfl ?_
        refine g_ladd C 27 d3_26 rfl ?_
        refine g_lstore C 29 #[.val (.ref a), .val (.int (2 : Int32)), .val (.int x1), .val (.int x2), .val (.long ((0 : Int64) + (1 : Int64))), .second] d3_27 rfl rfl ?_
        refine g_aloadN C 30 d3_29 rfl rfl rfl ?_
        refine g_iloadN C 31 d3_30 rfl rfl ?_
        refine g_baload C 32 hi d3_31 rfl (by decide) b2 rfl ?_
        refine g_bipush C 34 (10 : Int32) d3_32 rfl rfl ?_
        by_cases c4 : b2 = (10 : Int32)
        · refine g_icN C 37 d3_34 (teq c4).2 rfl ?_
          refine g_lload C 39 d3_37 rfl rfl ?_
          refine g_lconst C 40 (1 : Int64) d3_39 rfl rfl ?_
          refine g_ladd C 41 d3_40 rfl ?_
          refine g_lstore C 43 #[.val (.ref a), .val (.int (2 : Int32)), .val (.int x1), .val (.int x2), .val (.long (((0 : Int64) + (1 : Int64)) + (1 : Int64))), .second] d3_41 rfl rfl ?_
          refine g_iloadN C 44 d3_43 rfl rfl ?_
          refine g_iconst C 45 (1 : Int32) d3_44 rfl rfl ?_
          refine g_icN C 48 d3_45 (flt ((by decide) : ¬ ((2 : Int32) < (1 : Int32)))).1 rfl ?_
          refine g_aloadN C 49 d3_48 rfl rfl rfl ?_
          refine g_iloadN C 50 d3_49 rfl rfl ?_
          refine g_baload C 51 hi d3_50 rfl (by decide) b2 rfl ?_
          refine g_bipush C 53 (10 : Int32) d3_51 rfl rfl ?_
          by_cases c5 : b2 = (10 : Int32)
          · refine g_icN C 56 d3_53 (teq c5).2 rfl ?_
            refine g_aloadN C 57 d3_56 rfl rfl rfl ?_
            refine g_iloadN C 58 d3_57 rfl rfl ?_
            refine g_iconst C 59 (1 : Int32) d3_58 rfl rfl ?_
            refine g_isub C 60 d3_59 rfl ?_
            rw [show ((2 : Int32) - (1 : Int32)) = (1 : Int32) from by decide]
            refine g_baload C 61 hi d3_60 rfl (by decide) b1 rfl ?_
            refine g_bipush C 63 (13 : Int32) d3_61 rfl rfl ?_
            by_cases c6 : b1 = (13 : Int32)
            · refine g_icN C 66 d3_63 (teq c6).2 rfl ?_
              refine g_lload C 68 d3_66 rfl rfl ?_
              refine g_lconst C 69 (1 : Int64) d3_68 rfl rfl ?_
              refine g_lsub C 70 d3_69 rfl ?_
              refine g_lstore C 72 #[.val (.ref a), .val (.int (2 : Int32)), .val (.int x1), .val (.int x2), .val (.long ((((0 : Int64) + (1 : Int64)) + (1 : Int64)) - (1 : Int64))), .second] d3_70 rfl rfl ?_
              refine g_lload C 74 d3_72 rfl rfl ?_
              exact g_lret C d3_74 (by decide) (by decide) ⟨by rw [f_at2, if_neg c1, if_pos c2, if_pos c3, if_pos c4, if_pos c5, if_pos c6], rfl⟩
            · refine g_icY C 72 d3_63 (feq c6).2 (by decide) (by decide) ?_
              refine g_lload C 74 d3_72 rfl rfl ?_
              exact g_lret C d3_74 (by decide) (by decide) ⟨by rw [f_at2, if_neg c1, if_pos c2, if_pos c3, if_pos c4, if_pos c5, if_neg c6], rfl⟩
          · refine g_icY C 72 d3_53 (feq c5).2 (by decide) (by decide) ?_
            refine g_lload C 74 d3_72 rfl rfl ?_
            exact g_lret C d3_74 (by decide) (by decide) ⟨by rw [f_at2, if_neg c1, if_pos c2, if_pos c3, if_pos c4, if_neg c5], rfl⟩
        · refine g_icY C 43 d3_34 (feq c4).2 (by decide) (by decide) ?_
          refine g_iloadN C 44 d3_43 rfl rfl ?_
          refine g_iconst C 45 (1 : Int32) d3_44 rfl rfl ?_
          refine g_icN C 48 d3_45 (flt ((by decide) : ¬ ((2 : Int32) < (1 : Int32)))).1 rfl ?_
          refine g_aloadN C 49 d3_48 rfl rfl rfl ?_
          refine g_iloadN C 50 d3_49 rfl rfl ?_
          refine g_baload C 51 hi d3_50 rfl (by decide) b2 rfl ?_
          refine g_bipush C 53 (10 : Int32) d3_51 rfl rfl ?_
          by_cases c7 : b2 = (10 : Int32)
          · refine g_icN C 56 d3_53 (teq c7).2 rfl ?_
            refine g_aloadN C 57 d3_56 rfl rfl rfl ?_
            refine g_iloadN C 58 d3_57 rfl rfl ?_
            refine g_iconst C 59 (1 : Int32) d3_58 rfl rfl ?_
            refine g_isub C 60 d3_59 rfl ?_
            rw [show ((2 : Int32) - (1 : Int32)) = (1 : Int32) from by decide]
            refine g_baload C 61 hi d3_60 rfl (by decide) b1 rfl ?_
            refine g_bipush C 63 (13 : Int32) d3_61 rfl rfl ?_
            by_cases c8 : b1 = (13 : Int32)
            · refine g_icN C 66 d3_63 (teq c8).2 rfl ?_
              refine g_lload C 68 d3_66 rfl rfl ?_
              refine g_lconst C 69 (1 : Int64) d3_68 rfl rfl ?_
              refine g_lsub C 70 d3_69 rfl ?_
              refine g_lstore C 72 #[.val (.ref a), .val (.int (2 : Int32)), .val (.int x1), .val (.int x2), .val (.long (((0 : Int64) + (1 : Int64)) - (1 : Int64))), .second] d3_70 rfl rfl ?_
              refine g_lload C 74 d3_72 rfl rfl ?_
              exact g_lret C d3_74 (by decide) (by decide) ⟨by rw [f_at2, if_neg c1, if_pos c2, if_pos c3, if_neg c4, if_pos c7, if_pos c8], rfl⟩
            · refine g_icY C 72 d3_63 (feq c8).2 (by decide) (by decide) ?_
              refine g_lload C 74 d3_72 rfl rfl ?_
              exact g_lret C d3_74 (by decide) (by decide) ⟨by rw [f_at2, if_neg c1, if_pos c2, if_pos c3, if_neg c4, if_pos c7, if_neg c8], rfl⟩
          · refine g_icY C 72 d3_53 (feq c7).2 (by decide) (by decide) ?_
            refine g_lload C 74 d3_72 rfl rfl ?_
            exact g_lret C d3_74 (by decide) (by decide) ⟨by rw [f_at2, if_neg c1, if_pos c2, if_pos c3, if_neg c4, if_neg c7], rfl⟩
      · refine g_icY C 29 d3_20 (feq c3).2 (by decide) (by decide) ?_
        refine g_aloadN C 30 d3_29 rfl rfl rfl ?_
        refine g_iloadN C 31 d3_30 rfl rfl ?_
        refine g_baload C 32 hi d3_31 rfl (by decide) b2 rfl ?_
        refine g_bipush C 34 (10 : Int32) d3_32 rfl rfl ?_
        by_cases c9 : b2 = (10 : Int32)
        · refine g_icN C 37 d3_34 (teq c9).2 rfl ?_
          refine g_lload C 39 d3_37 rfl rfl ?_
          refine g_lconst C 40 (1 : Int64) d3_39 rfl rfl ?_
          refine g_ladd C 41 d3_40 rfl ?_
          refine g_lstore C 43 #[.val (.ref a), .val (.int (2 : Int32)), .val (.int x1), .val (.int x2), .val (.long ((0 : Int64) + (1 : Int64))), .second] d3_41 rfl rfl ?_
          refine g_iloadN C 44 d3_43 rfl rfl ?_
          refine g_iconst C 45 (1 : Int32) d3_44 rfl rfl ?_
          refine g_icN C 48 d3_45 (flt ((by decide) : ¬ ((2 : Int32) < (1 : Int32)))).1 rfl ?_
          refine g_aloadN C 49 d3_48 rfl rfl rfl ?_
          refine g_iloadN C 50 d3_49 rfl rfl ?_
          refine g_baload C 51 hi d3_50 rfl (by decide) b2 rfl ?_
          refine g_bipush C 53 (10 : Int32) d3_51 rfl rfl ?_
          by_cases c10 : b2 = (10 : Int32)
          · refine g_icN C 56 d3_53 (teq c10).2 rfl ?_
            refine g_aloadN C 57 d3_56 rfl rfl rfl ?_
            refine g_iloadN C 58 d3_57 rfl rfl ?_
            refine g_iconst C 59 (1 : Int32) d3_58 rfl rfl ?_
            refine g_isub C 60 d3_59 rfl ?_
            rw [show ((2 : Int32) - (1 : Int32)) = (1 : Int32) from by decide]
            refine g_baload C 61 hi d3_60 rfl (by decide) b1 rfl ?_
            refine g_bipush C 63 (13 : Int32) d3_61 rfl rfl ?_
            by_cases c11 : b1 = (13 : Int32)
            · refine g_icN C 66 d3_63 (teq c11).2 rfl ?_
              refine g_lload C 68 d3_66 rfl rfl ?_
              refine g_lconst C 69 (1 : Int64) d3_68 rfl rfl ?_
              refine g_lsub C 70 d3_69 rfl ?_
              refine g_lstore C 72 #[.val (.ref a), .val (.int (2 : Int32)), .val (.int x1), .val (.int x2), .val (.long (((0 : Int64) + (1 : Int64)) - (1 : Int64))), .second] d3_70 rfl rfl ?_
              refine g_lload C 74 d3_72 rfl rfl ?_
              exact g_lret C d3_74 (by decide) (by decide) ⟨by rw [f_at2, if_neg c1, if_pos c2, if_neg c3, if_pos c9, if_pos c10, if_pos c11], rfl⟩
            · refine g_icY C 72 d3_63 (feq c11).2 (by decide) (by decide) ?_
              refine g_lload C 74 d3_72 rfl rfl ?_
              exact g_lret C d3_74 (by decide) (by decide) ⟨by rw [f_at2, if_neg c1, if_pos c2, if_neg c3, if_pos c9, if_pos c10, if_neg c11], rfl⟩
          · refine g_icY C 72 d3_53 (feq c10).2 (by decide) (by decide) ?_
            refine g_lload C 74 d3_72 rfl rfl ?_
            exact g_lret C d3_74 (by decide) (by decide) ⟨by rw [f_at2, if_neg c1, if_pos c2, if_neg c3, if_pos c9, if_neg c10], rfl⟩
        · refine g_icY C 43 d3_34 (feq c9).2 (by decide) (by decide) ?_
          refine g_iloadN C 44 d3_43 rfl rfl ?_
          refine g_iconst C 45 (1 : Int32) d3_44 rfl rfl ?_
          refine g_icN C 48 d3_45 (flt ((by decide) : ¬ ((2 : Int32) < (1 : Int32)))).1 rfl ?_
          refine g_aloadN C 49 d3_48 rfl rfl rfl ?_
          refine g_iloadN C 50 d3_49 rfl rfl ?_
          refine g_baload C 51 hi d3_50 rfl (by decide) b2 rfl ?_
          refine g_bipush C 53 (10 : Int32) d3_51 rfl rfl ?_
          by_cases c12 : b2 = (10 : Int32)
          · refine g_icN C 56 d3_53 (teq c12).2 rfl ?_
            refine g_aloadN C 57 d3_56 rfl rfl rfl ?_
            refine g_iloadN C 58 d3_57 rfl rfl ?_
            refine g_iconst C 59 (1 : Int32) d3_58 rfl rfl ?_
            refine g_isub C 60 d3_59 rfl ?_
            rw [show ((2 : Int32) - (1 : Int32)) = (1 : Int32) from by decide]
            refine g_baload C 61 hi d3_60 rfl (by decide) b1 rfl ?_
            refine g_bipush C 63 (13 : Int32) d3_61 rfl rfl ?_
            by_cases c13 : b1 = (13 : Int32)
            · refine g_icN C 66 d3_63 (teq c13).2 rfl ?_
              refine g_lload C 68 d3_66 rfl rfl ?_
              refine g_lconst C 69 (1 : Int64) d3_68 rfl rfl ?_
              refine g_lsub C 70 d3_69 rfl ?_
              refine g_lstore C 72 #[.val (.ref a), .val (.int (2 : Int32)), .val (.int x1), .val (.int x2), .val (.long ((0 : Int64) - (1 : Int64))), .second] d3_70 rfl rfl ?_
              refine g_lload C 74 d3_72 rfl rfl ?_
              exact g_lret C d3_74 (by decide) (by decide) ⟨by rw [f_at2, if_neg c1, if_pos c2, if_neg c3, if_neg c9, if_pos c12, if_pos c13], rfl⟩
            · refine g_icY C 72 d3_63 (feq c13).2 (by decide) (by decide) ?_
              refine g_lload C 74 d3_72 rfl rfl ?_
              exact g_lret C d3_74 (by decide) (by decide) ⟨by rw [f_at2, if_neg c1, if_pos c2, if_neg c3, if_neg c9, if_pos c12, if_neg c13], rfl⟩
          · refine g_icY C 72 d3_53 (feq c12).2 (by decide) (by decide) ?_
            refine g_lload C 74 d3_72 rfl rfl ?_
            exact g_lret C d3_74 (by decide) (by decide) ⟨by rw [f_at2, if_neg c1, if_pos c2, if_neg c3, if_neg c9, if_neg c12], rfl⟩
    · refine g_icN C 10 d3_7 (flt c2).1 rfl ?_
      refine g_lconst C 11 (0 : Int64) d3_10 rfl rfl ?_
      exact g_lret C d3_11 (by decide) (by decide) ⟨by rw [f_at2, if_neg c1, if_neg c2], rfl⟩
def f_at3 (b0 b1 b2 b3 b4 x1 x2 : Int32) : Int64 := (if (3 : Int32) < x1 then (0 : Int64) else (if (3 : Int32) < x2 then (if b3 = (13 : Int32) then (if b3 = (10 : Int32) then (if b3 = (10 : Int32) then (if b2 = (13 : Int32) then ((((0 : Int64) + (1 : Int64)) + (1 : Int64)) - (1 : Int64)) else (((0 : Int64) + (1 : Int64)) + (1 : Int64))) else (((0 : Int64) + (1 : Int64)) + (1 : Int64))) else (if b3 = (10 : Int32) then (if b2 = (13 : Int32) then (((0 : Int64) + (1 : Int64)) - (1 : Int64)) else ((0 : Int64) + (1 : Int64))) else ((0 : Int64) + (1 : Int64)))) else (if b3 = (10 : Int32) then (if b3 = (10 : Int32) then (if b2 = (13 : Int32) then (((0 : Int64) + (1 : Int64)) - (1 : Int64)) else ((0 : Int64) + (1 : Int64))) else ((0 : Int64) + (1 : Int64))) else (if b3 = (10 : Int32) then (if b2 = (13 : Int32) then ((0 : Int64) - (1 : Int64)) else (0 : Int64)) else (0 : Int64)))) else (0 : Int64)))
set_option maxRecDepth 65536 in
set_option maxHeartbeats 40000000 in
theorem con_at_3 (l : Launch) (Z : State) (a0 : Array Value) (hw : ∀ d ∈ tables_1, d.before a0 Z = true) (h0 : Heap) (ds : Wd) (q : Nat) (a : Addr) (b0 b1 b2 b3 b4 : Int32) (x1 x2 : Int32) (hi : ds[q]? = some (a, IA Z .byte (ints [b0, b1, b2, b3, b4]))) :
    Con l Z (⟨"com/example/vestwork/vestwork/actuarial/XmlBytesLineEndsPinLaw", "at", "([BIII)J"⟩ : MethodName) method_3_code 6 (some .long) ({ frames := 0, cells := 0, slots := 0, locals := 0 } : Room) h0 #[(.ref a), (.int (3 : Int32)), (.int x1), (.int x2)] ds (fun v ds' => v = some (.long (f_at3 b0 b1 b2 b3 b4 x1 x2)) ∧ ds = ds') := by
  refine con_of (a0 := a0) (Ls := #[.val (.ref a), .val (.int (3 : Int32)), .val (.int x1), .val (.int x2), .unset, .unset]) (plainFor_of_name (by first | (simp [plainName, overriddenIn]; done) | decide +kernel)) hw (fun m => by first | (simp [entryFrame, mkF, argsToLocals, Value.category]; done) | rfl) ?_
  intro p e s m below meth c C
  refine g_iloadN C 1 d3_0 rfl rfl ?_
  refine g_iloadN C 2 d3_1 rfl rfl ?_
  by_cases c1 : (3 : Int32) < x1
  · refine g_icY C 10 d3_2 (tlt c1).1 (by decide) (by decide) ?_
    refine g_lconst C 11 (0 : Int64) d3_10 rfl rfl ?_
    exact g_lret C d3_11 (by decide) (by decide) ⟨by rw [f_at3, if_pos c1], rfl⟩
  · refine g_icN C 5 d3_2 (flt c1).1 rfl ?_
    refine g_iloadN C 6 d3_5 rfl rfl ?_
    refine g_iloadN C 7 d3_6 rfl rfl ?_
    by_cases c2 : (3 : Int32) < x2
    · refine g_icY C 12 d3_7 (tlt c2).1 (by decide) (by decide) ?_
      refine g_lconst C 13 (0 : Int64) d3_12 rfl rfl ?_
      refine g_lstore C 15 #[.val (.ref a), .val (.int (3 : Int32)), .val (.int x1), .val (.int x2), .val (.long (0 : Int64)), .second] d3_13 rfl rfl ?_
      refine g_aloadN C 16 d3_15 rfl rfl rfl ?_
      refine g_iloadN C 17 d3_16 rfl rfl ?_
      refine g_baload C 18 hi d3_17 rfl (by decide) b3 rfl ?_
      refine g_bipush C 20 (13 : Int32) d3_18 rfl rfl ?_
      by_cases c3 : b3 = (13 : Int32)
      · refine g_icN C 23 d3_20 (teq c3).2 rfl ?_
        refine g_lload C 25 d3_23 rfl rfl ?_
        refine g_lconst C 26 (1 : Int64) d3_25 rfl rfl ?_
        refine g_ladd C 27 d3_26 rfl ?_
        refine g_lstore C 29 #[.val (.ref a), .val (.int (3 : Int32)), .val (.int x1), .val (.int x2), .val (.long ((0 : Int64) + (1 : Int64))), .second] d3_27 rfl rfl ?_
        refine g_aloadN C 30 d3_29 rfl rfl rfl ?_
        refine g_iloadN C 31 d3_30 rfl rfl ?_
        refine g_baload C 32 hi d3_31 rfl (by decide) b3 rfl ?_
        refine g_bipush C 34 (10 : Int32) d3_32 rfl rfl ?_
        by_cases c4 : b3 = (10 : Int32)
        · refine g_icN C 37 d3_34 (teq c4).2 rfl ?_
          refine g_lload C 39 d3_37 rfl rfl ?_
          refine g_lconst C 40 (1 : Int64) d3_39 rfl rfl ?_
          refine g_ladd C 41 d3_40 rfl ?_
          refine g_lstore C 43 #[.val (.ref a), .val (.int (3 : Int32)), .val (.int x1), .val (.int x2), .val (.long (((0 : Int64) + (1 : Int64)) + (1 : Int64))), .second] d3_41 rfl rfl ?_
          refine g_iloadN C 44 d3_43 rfl rfl ?_
          refine g_iconst C 45 (1 : Int32) d3_44 rfl rfl ?_
          refine g_icN C 48 d3_45 (flt ((by decide) : ¬ ((3 : Int32) < (1 : Int32)))).1 rfl ?_
          refine g_aloadN C 49 d3_48 rfl rfl rfl ?_
          refine g_iloadN C 50 d3_49 rfl rfl ?_
          refine g_baload C 51 hi d3_50 rfl (by decide) b3 rfl ?_
          refine g_bipush C 53 (10 : Int32) d3_51 rfl rfl ?_
          by_cases c5 : b3 = (10 : Int32)
          · refine g_icN C 56 d3_53 (teq c5).2 rfl ?_
            refine g_aloadN C 57 d3_56 rfl rfl rfl ?_
            refine g_iloadN C 58 d3_57 rfl rfl ?_
            refine g_iconst C 59 (1 : Int32) d3_58 rfl rfl ?_
            refine g_isub C 60 d3_59 rfl ?_
            rw [show ((3 : Int32) - (1 : Int32)) = (2 : Int32) from by decide]
            refine g_baload C 61 hi d3_60 rfl (by decide) b2 rfl ?_
            refine g_bipush C 63 (13 : Int32) d3_61 rfl rfl ?_
            by_cases c6 : b2 = (13 : Int32)
            · refine g_icN C 66 d3_63 (teq c6).2 rfl ?_
              refine g_lload C 68 d3_66 rfl rfl ?_
              refine g_lconst C 69 (1 : Int64) d3_68 rfl rfl ?_
              refine g_lsub C 70 d3_69 rfl ?_
              refine g_lstore C 72 #[.val (.ref a), .val (.int (3 : Int32)), .val (.int x1), .val (.int x2), .val (.long ((((0 : Int64) + (1 : Int64)) + (1 : Int64)) - (1 : Int64))), .second] d3_70 rfl rfl ?_
              refine g_lload C 74 d3_72 rfl rfl ?_
              exact g_lret C d3_74 (by decide) (by decide) ⟨by rw [f_at3, if_neg c1, if_pos c2, if_pos c3, if_pos c4, if_pos c5, if_pos c6], rfl⟩
            · refine g_icY C 72 d3_63 (feq c6).2 (by decide) (by decide) ?_
              refine g_lload C 74 d3_72 rfl rfl ?_
              exact g_lret C d3_74 (by decide) (by decide) ⟨by rw [f_at3, if_neg c1, if_pos c2, if_pos c3, if_pos c4, if_pos c5, if_neg c6], rfl⟩
          · refine g_icY C 72 d3_53 (feq c5).2 (by decide) (by decide) ?_
            refine g_lload C 74 d3_72 rfl rfl ?_
            exact g_lret C d3_74 (by decide) (by decide) ⟨by rw [f_at3, if_neg c1, if_pos c2, if_pos c3, if_pos c4, if_neg c5], rfl⟩
        · refine g_icY C 43 d3_34 (feq c4).2 (by decide) (by decide) ?_
          refine g_iloadN C 44 d3_43 rfl rfl ?_
          refine g_iconst C 45 (1 : Int32) d3_44 rfl rfl ?_
          refine g_icN C 48 d3_45 (flt ((by decide) : ¬ ((3 : Int32) < (1 : Int32)))).1 rfl ?_
          refine g_aloadN C 49 d3_48 rfl rfl rfl ?_
          refine g_iloadN C 50 d3_49 rfl rfl ?_
          refine g_baload C 51 hi d3_50 rfl (by decide) b3 rfl ?_
          refine g_bipush C 53 (10 : Int32) d3_51 rfl rfl ?_
          by_cases c7 : b3 = (10 : Int32)
          · refine g_icN C 56 d3_53 (teq c7).2 rfl ?_
            refine g_aloadN C 57 d3_56 rfl rfl rfl ?_
            refine g_iloadN C 58 d3_57 rfl rfl ?_
            refine g_iconst C 59 (1 : Int32) d3_58 rfl rfl ?_
            refine g_isub C 60 d3_59 rfl ?_
            rw [show ((3 : Int32) - (1 : Int32)) = (2 : Int32) from by decide]
            refine g_baload C 61 hi d3_60 rfl (by decide) b2 rfl ?_
            refine g_bipush C 63 (13 : Int32) d3_61 rfl rfl ?_
            by_cases c8 : b2 = (13 : Int32)
            · refine g_icN C 66 d3_63 (teq c8).2 rfl ?_
              refine g_lload C 68 d3_66 rfl rfl ?_
              refine g_lconst C 69 (1 : Int64) d3_68 rfl rfl ?_
              refine g_lsub C 70 d3_69 rfl ?_
              refine g_lstore C 72 #[.val (.ref a), .val (.int (3 : Int32)), .val (.int x1), .val (.int x2), .val (.long (((0 : Int64) + (1 : Int64)) - (1 : Int64))), .second] d3_70 rfl rfl ?_
              refine g_lload C 74 d3_72 rfl rfl ?_
              exact g_lret C d3_74 (by decide) (by decide) ⟨by rw [f_at3, if_neg c1, if_pos c2, if_pos c3, if_neg c4, if_pos c7, if_pos c8], rfl⟩
            · refine g_icY C 72 d3_63 (feq c8).2 (by decide) (by decide) ?_
              refine g_lload C 74 d3_72 rfl rfl ?_
              exact g_lret C d3_74 (by decide) (by decide) ⟨by rw [f_at3, if_neg c1, if_pos c2, if_pos c3, if_neg c4, if_pos c7, if_neg c8], rfl⟩
          · refine g_icY C 72 d3_53 (feq c7).2 (by decide) (by decide) ?_
            refine g_lload C 74 d3_72 rfl rfl ?_
            exact g_lret C d3_74 (by decide) (by decide) ⟨by rw [f_at3, if_neg c1, if_pos c2, if_pos c3, if_neg c4, if_neg c7], rfl⟩
      · refine g_icY C 29 d3_20 (feq c3).2 (by decide) (by decide) ?_
        refine g_aloadN C 30 d3_29 rfl rfl rfl ?_
        refine g_iloadN C 31 d3_30 rfl rfl ?_
        refine g_baload C 32 hi d3_31 rfl (by decide) b3 rfl ?_
        refine g_bipush C 34 (10 : Int32) d3_32 rfl rfl ?_
        by_cases c9 : b3 = (10 : Int32)
        · refine g_icN C 37 d3_34 (teq c9).2 rfl ?_
          refine g_lload C 39 d3_37 rfl rfl ?_
          refine g_lconst C 40 (1 : Int64) d3_39 rfl rfl ?_
          refine g_ladd C 41 d3_40 rfl ?_
          refine g_lstore C 43 #[.val (.ref a), .val (.int (3 : Int32)), .val (.int x1), .val (.int x2), .val (.long ((0 : Int64) + (1 : Int64))), .second] d3_41 rfl rfl ?_
          refine g_iloadN C 44 d3_43 rfl rfl ?_
          refine g_iconst C 45 (1 : Int32) d3_44 rfl rfl ?_
          refine g_icN C 48 d3_45 (flt ((by decide) : ¬ ((3 : Int32) < (1 : Int32)))).1 rfl ?_
          refine g_aloadN C 49 d3_48 rfl rfl rfl ?_
          refine g_iloadN C 50 d3_49 rfl rfl ?_
          refine g_baload C 51 hi d3_50 rfl (by decide) b3 rfl ?_
          refine g_bipush C 53 (10 : Int32) d3_51 rfl rfl ?_
          by_cases c10 : b3 = (10 : Int32)
          · refine g_icN C 56 d3_53 (teq c10).2 rfl ?_
            refine g_aloadN C 57 d3_56 rfl rfl rfl ?_
            refine g_iloadN C 58 d3_57 rfl rfl ?_
            refine g_iconst C 59 (1 : Int32) d3_58 rfl rfl ?_
            refine g_isub C 60 d3_59 rfl ?_
            rw [show ((3 : Int32) - (1 : Int32)) = (2 : Int32) from by decide]
            refine g_baload C 61 hi d3_60 rfl (by decide) b2 rfl ?_
            refine g_bipush C 63 (13 : Int32) d3_61 rfl rfl ?_
            by_cases c11 : b2 = (13 : Int32)
            · refine g_icN C 66 d3_63 (teq c11).2 rfl ?_
              refine g_lload C 68 d3_66 rfl rfl ?_
              refine g_lconst C 69 (1 : Int64) d3_68 rfl rfl ?_
              refine g_lsub C 70 d3_69 rfl ?_
              refine g_lstore C 72 #[.val (.ref a), .val (.int (3 : Int32)), .val (.int x1), .val (.int x2), .val (.long (((0 : Int64) + (1 : Int64)) - (1 : Int64))), .second] d3_70 rfl rfl ?_
              refine g_lload C 74 d3_72 rfl rfl ?_
              exact g_lret C d3_74 (by decide) (by decide) ⟨by rw [f_at3, if_neg c1, if_pos c2, if_neg c3, if_pos c9, if_pos c10, if_pos c11], rfl⟩
            · refine g_icY C 72 d3_63 (feq c11).2 (by decide) (by decide) ?_
              refine g_lload C 74 d3_72 rfl rfl ?_
              exact g_lret C d3_74 (by decide) (by decide) ⟨by rw [f_at3, if_neg c1, if_pos c2, if_neg c3, if_pos c9, if_pos c10, if_neg c11], rfl⟩
          · refine g_icY C 72 d3_53 (feq c10).2 (by decide) (by decide) ?_
            refine g_lload C 74 d3_72 rfl rfl ?_
            exact g_lret C d3_74 (by decide) (by decide) ⟨by rw [f_at3, if_neg c1, if_pos c2, if_neg c3, if_pos c9, if_neg c10], rfl⟩
        · refine g_icY C 43 d3_34 (feq c9).2 (by decide) (by decide) ?_
          refine g_iloadN C 44 d3_43 rfl rfl ?_
          refine g_iconst C 45 (1 : Int32) d3_44 rfl rfl ?_
          refine g_icN C 48 d3_45 (flt ((by decide) : ¬ ((3 : Int32) < (1 : Int32)))).1 rfl ?_
          refine g_aloadN C 49 d3_48 rfl rfl rfl ?_
          refine g_iloadN C 50 d3_49 rfl rfl ?_
          refine g_baload C 51 hi d3_50 rfl (by decide) b3 rfl ?_
          refine g_bipush C 53 (10 : Int32) d3_51 rfl rfl ?_
          by_cases c12 : b3 = (10 : Int32)
          · refine g_icN C 56 d3_53 (teq c12).2 rfl ?_
            refine g_aloadN C 57 d3_56 rfl rfl rfl ?_
            refine g_iloadN C 58 d3_57 rfl rfl ?_
            refine g_iconst C 59 (1 : Int32) d3_58 rfl rfl ?_
            refine g_isub C 60 d3_59 rfl ?_
            rw [show ((3 : Int32) - (1 : Int32)) = (2 : Int32) from by decide]
            refine g_baload C 61 hi d3_60 rfl (by decide) b2 rfl ?_
            refine g_bipush C 63 (13 : Int32) d3_61 rfl rfl ?_
            by_cases c13 : b2 = (13 : Int32)
            · refine g_icN C 66 d3_63 (teq c13).2 rfl ?_
              refine g_lload C 68 d3_66 rfl rfl ?_
              refine g_lconst C 69 (1 : Int64) d3_68 rfl rfl ?_
              refine g_lsub C 70 d3_69 rfl ?_
              refine g_lstore C 72 #[.val (.ref a), .val (.int (3 : Int32)), .val (.int x1), .val (.int x2), .val (.long ((0 : Int64) - (1 : Int64))), .second] d3_70 rfl rfl ?_
              refine g_lload C 74 d3_72 rfl rfl ?_
              exact g_lret C d3_74 (by decide) (by decide) ⟨by rw [f_at3, if_neg c1, if_pos c2, if_neg c3, if_neg c9, if_pos c12, if_pos c13], rfl⟩
            · refine g_icY C 72 d3_63 (feq c13).2 (by decide) (by decide) ?_
              refine g_lload C 74 d3_72 rfl rfl ?_
              exact g_lret C d3_74 (by decide) (by decide) ⟨by rw [f_at3, if_neg c1, if_pos c2, if_neg c3, if_neg c9, if_pos c12, if_neg c13], rfl⟩
          · refine g_icY C 72 d3_53 (feq c12).2 (by decide) (by decide) ?_
            refine g_lload C 74 d3_72 rfl rfl ?_
            exact g_lret C d3_74 (by decide) (by decide) ⟨by rw [f_at3, if_neg c1, if_pos c2, if_neg c3, if_neg c9, if_neg c12], rfl⟩
    · refine g_icN C 10 d3_7 (flt c2).1 rfl ?_
      refine g_lconst C 11 (0 : Int64) d3_10 rfl rfl ?_
      exact g_lret C d3_11 (by decide) (by decide) ⟨by rw [f_at3, if_neg c1, if_neg c2], rfl⟩
def f_at4 (b0 b1 b2 b3 b4 x1 x2 : Int32) : Int64 := (if (4 : Int32) < x1 then (0 : Int64) else (if (4 : Int32) < x2 then (if b4 = (13 : Int32) then (if b4 = (10 : Int32) then (if b4 = (10 : Int32) then (if b3 = (13 : Int32) then ((((0 : Int64) + (1 : Int64)) + (1 : Int64)) - (1 : Int64)) else (((0 : Int64) + (1 : Int64)) + (1 : Int64))) else (((0 : Int64) + (1 : Int64)) + (1 : Int64))) else (if b4 = (10 : Int32) then (if b3 = (13 : Int32) then (((0 : Int64) + (1 : Int64)) - (1 : Int64)) else ((0 : Int64) + (1 : Int64))) else ((0 : Int64) + (1 : Int64)))) else (if b4 = (10 : Int32) then (if b4 = (10 : Int32) then (if b3 = (13 : Int32) then (((0 : Int64) + (1 : Int64)) - (1 : Int64)) else ((0 : Int64) + (1 : Int64))) else ((0 : Int64) + (1 : Int64))) else (if b4 = (10 : Int32) then (if b3 = (13 : Int32) then ((0 : Int64) - (1 : Int64)) else (0 : Int64)) else (0 : Int64)))) else (0 : Int64)))
set_option maxRecDepth 65536 in
set_option maxHeartbeats 40000000 in
theorem con_at_4 (l : Launch) (Z : State) (a0 : Array Value) (hw : ∀ d ∈ tables_1, d.before a0 Z = true) (h0 : Heap) (ds : Wd) (q : Nat) (a : Addr) (b0 b1 b2 b3 b4 : Int32) (x1 x2 : Int32) (hi : ds[q]? = some (a, IA Z .byte (ints [b0, b1, b2, b3, b4]))) :
    Con l Z (⟨"com/example/vestwork/vestwork/actuarial/XmlBytesLineEndsPinLaw", "at", "([BIII)J"⟩ : MethodName) method_3_code 6 (some .long) ({ frames := 0, cells := 0, slots := 0, locals := 0 } : Room) h0 #[(.ref a), (.int (4 : Int32)), (.int x1), (.int x2)] ds (fun v ds' => v = some (.long (f_at4 b0 b1 b2 b3 b4 x1 x2)) ∧ ds = ds') := by
  refine con_of (a0 := a0) (Ls := #[.val (.ref a), .val (.int (4 : Int32)), .val (.int x1), .val (.int x2), .unset, .unset]) (plainFor_of_name (by first | (simp [plainName, overriddenIn]; done) | decide +kernel)) hw (fun m => by first | (simp [entryFrame, mkF, argsToLocals, Value.category]; done) | rfl) ?_
  intro p e s m below meth c C
  refine g_iloadN C 1 d3_0 rfl rfl ?_
  refine g_iloadN C 2 d3_1 rfl rfl ?_
  by_cases c1 : (4 : Int32) < x1
  · refine g_icY C 10 d3_2 (tlt c1).1 (by decide) (by decide) ?_
    refine g_lconst C 11 (0 : Int64) d3_10 rfl rfl ?_
    exact g_lret C d3_11 (by decide) (by decide) ⟨by rw [f_at4, if_pos c1], rfl⟩
  · refine g_icN C 5 d3_2 (flt c1).1 rfl ?_
    refine g_iloadN C 6 d3_5 rfl rfl ?_
    refine g_iloadN C 7 d3_6 rfl rfl ?_
    by_cases c2 : (4 : Int32) < x2
    · refine g_icY C 12 d3_7 (tlt c2).1 (by decide) (by decide) ?_
      refine g_lconst C 13 (0 : Int64) d3_12 rfl rfl ?_
      refine g_lstore C 15 #[.val (.ref a), .val (.int (4 : Int32)), .val (.int x1), .val (.int x2), .val (.long (0 : Int64)), .second] d3_13 rfl rfl ?_
      refine g_aloadN C 16 d3_15 rfl rfl rfl ?_
      refine g_iloadN C 17 d3_16 rfl rfl ?_
      refine g_baload C 18 hi d3_17 rfl (by decide) b4 rfl ?_
      refine g_bipush C 20 (13 : Int32) d3_18 rfl rfl ?_
      by_cases c3 : b4 = (13 : Int32)
      · refine g_icN C 23 d3_20 (teq c3).2 rfl ?_
        refine g_lload C 25 d3_23 rfl rfl ?_
        refine g_lconst C 26 (1 : Int64) d3_25 rfl rfl ?_
        refine g_ladd C 27 d3_26 rfl ?_
        refine g_lstore C 29 #[.val (.ref a), .val (.int (4 : Int32)), .val (.int x1), .val (.int x2), .val (.long ((0 : Int64) + (1 : Int64))), .second] d3_27 rfl rfl ?_
        refine g_aloadN C 30 d3_29 rfl rfl rfl ?_
        refine g_iloadN C 31 d3_30 rfl rfl ?_
        refine g_baload C 32 hi d3_31 rfl (by decide) b4 rfl ?_
        refine g_bipush C 34 (10 : Int32) d3_32 rfl rfl ?_
        by_cases c4 : b4 = (10 : Int32)
        · refine g_icN C 37 d3_34 (teq c4).2 rfl ?_
          refine g_lload C 39 d3_37 rfl rfl ?_
          refine g_lconst C 40 (1 : Int64) d3_39 rfl rfl ?_
          refine g_ladd C 41 d3_40 rfl ?_
          refine g_lstore C 43 #[.val (.ref a), .val (.int (4 : Int32)), .val (.int x1), .val (.int x2), .val (.long (((0 : Int64) + (1 : Int64)) + (1 : Int64))), .second] d3_41 rfl rfl ?_
          refine g_iloadN C 44 d3_43 rfl rfl ?_
          refine g_iconst C 45 (1 : Int32) d3_44 rfl rfl ?_
          refine g_icN C 48 d3_45 (flt ((by decide) : ¬ ((4 : Int32) < (1 : Int32)))).1 rfl ?_
          refine g_aloadN C 49 d3_48 rfl rfl rfl ?_
          refine g_iloadN C 50 d3_49 rfl rfl ?_
          refine g_baload C 51 hi d3_50 rfl (by decide) b4 rfl ?_
          refine g_bipush C 53 (10 : Int32) d3_51 rfl rfl ?_
          by_cases c5 : b4 = (10 : Int32)
          · refine g_icN C 56 d3_53 (teq c5).2 rfl ?_
            refine g_aloadN C 57 d3_56 rfl rfl rfl ?_
            refine g_iloadN C 58 d3_57 rfl rfl ?_
            refine g_iconst C 59 (1 : Int32) d3_58 rfl rfl ?_
            refine g_isub C 60 d3_59 rfl ?_
            rw [show ((4 : Int32) - (1 : Int32)) = (3 : Int32) from by decide]
            refine g_baload C 61 hi d3_60 rfl (by decide) b3 rfl ?_
            refine g_bipush C 63 (13 : Int32) d3_61 rfl rfl ?_
            by_cases c6 : b3 = (13 : Int32)
            · refine g_icN C 66 d3_63 (teq c6).2 rfl ?_
              refine g_lload C 68 d3_66 rfl rfl ?_
              refine g_lconst C 69 (1 : Int64) d3_68 rfl rfl ?_
              refine g_lsub C 70 d3_69 rfl ?_
              refine g_lstore C 72 #[.val (.ref a), .val (.int (4 : Int32)), .val (.int x1), .val (.int x2), .val (.long ((((0 : Int64) + (1 : Int64)) + (1 : Int64)) - (1 : Int64))), .second] d3_70 rfl rfl ?_
              refine g_lload C 74 d3_72 rfl rfl ?_
              exact g_lret C d3_74 (by decide) (by decide) ⟨by rw [f_at4, if_neg c1, if_pos c2, if_pos c3, if_pos c4, if_pos c5, if_pos c6], rfl⟩
            · refine g_icY C 72 d3_63 (feq c6).2 (by decide) (by decide) ?_
              refine g_lload C 74 d3_72 rfl rfl ?_
              exact g_lret C d3_74 (by decide) (by decide) ⟨by rw [f_at4, if_neg c1, if_pos c2, if_pos c3, if_pos c4, if_pos c5, if_neg c6], rfl⟩
          · refine g_icY C 72 d3_53 (feq c5).2 (by decide) (by decide) ?_
            refine g_lload C 74 d3_72 rfl rfl ?_
            exact g_lret C d3_74 (by decide) (by decide) ⟨by rw [f_at4, if_neg c1, if_pos c2, if_pos c3, if_pos c4, if_neg c5], rfl⟩
        · refine g_icY C 43 d3_34 (feq c4).2 (by decide) (by decide) ?_
          refine g_iloadN C 44 d3_43 rfl rfl ?_
          refine g_iconst C 45 (1 : Int32) d3_44 rfl rfl ?_
          refine g_icN C 48 d3_45 (flt ((by decide) : ¬ ((4 : Int32) < (1 : Int32)))).1 rfl ?_
          refine g_aloadN C 49 d3_48 rfl rfl rfl ?_
          refine g_iloadN C 50 d3_49 rfl rfl ?_
          refine g_baload C 51 hi d3_50 rfl (by decide) b4 rfl ?_
          refine g_bipush C 53 (10 : Int32) d3_51 rfl rfl ?_
          by_cases c7 : b4 = (10 : Int32)
          · refine g_icN C 56 d3_53 (teq c7).2 rfl ?_
            refine g_aloadN C 57 d3_56 rfl rfl rfl ?_
            refine g_iloadN C 58 d3_57 rfl rfl ?_
            refine g_iconst C 59 (1 : Int32) d3_58 rfl rfl ?_
            refine g_isub C 60 d3_59 rfl ?_
            rw [show ((4 : Int32) - (1 : Int32)) = (3 : Int32) from by decide]
            refine g_baload C 61 hi d3_60 rfl (by decide) b3 rfl ?_
            refine g_bipush C 63 (13 : Int32) d3_61 rfl rfl ?_
            by_cases c8 : b3 = (13 : Int32)
            · refine g_icN C 66 d3_63 (teq c8).2 rfl ?_
              refine g_lload C 68 d3_66 rfl rfl ?_
              refine g_lconst C 69 (1 : Int64) d3_68 rfl rfl ?_
              refine g_lsub C 70 d3_69 rfl ?_
              refine g_lstore C 72 #[.val (.ref a), .val (.int (4 : Int32)), .val (.int x1), .val (.int x2), .val (.long (((0 : Int64) + (1 : Int64)) - (1 : Int64))), .second] d3_70 rfl rfl ?_
              refine g_lload C 74 d3_72 rfl rfl ?_
              exact g_lret C d3_74 (by decide) (by decide) ⟨by rw [f_at4, if_neg c1, if_pos c2, if_pos c3, if_neg c4, if_pos c7, if_pos c8], rfl⟩
            · refine g_icY C 72 d3_63 (feq c8).2 (by decide) (by decide) ?_
              refine g_lload C 74 d3_72 rfl rfl ?_
              exact g_lret C d3_74 (by decide) (by decide) ⟨by rw [f_at4, if_neg c1, if_pos c2, if_pos c3, if_neg c4, if_pos c7, if_neg c8], rfl⟩
          · refine g_icY C 72 d3_53 (feq c7).2 (by decide) (by decide) ?_
            refine g_lload C 74 d3_72 rfl rfl ?_
            exact g_lret C d3_74 (by decide) (by decide) ⟨by rw [f_at4, if_neg c1, if_pos c2, if_pos c3, if_neg c4, if_neg c7], rfl⟩
      · refine g_icY C 29 d3_20 (feq c3).2 (by decide) (by decide) ?_
        refine g_aloadN C 30 d3_29 rfl rfl rfl ?_
        refine g_iloadN C 31 d3_30 rfl rfl ?_
        refine g_baload C 32 hi d3_31 rfl (by decide) b4 rfl ?_
        refine g_bipush C 34 (10 : Int32) d3_32 rfl rfl ?_
        by_cases c9 : b4 = (10 : Int32)
        · refine g_icN C 37 d3_34 (teq c9).2 rfl ?_
          refine g_lload C 39 d3_37 rfl rfl ?_
          refine g_lconst C 40 (1 : Int64) d3_39 rfl rfl ?_
          refine g_ladd C 41 d3_40 rfl ?_
          refine g_lstore C 43 #[.val (.ref a), .val (.int (4 : Int32)), .val (.int x1), .val (.int x2), .val (.long ((0 : Int64) + (1 : Int64))), .second] d3_41 rfl rfl ?_
          refine g_iloadN C 44 d3_43 rfl rfl ?_
          refine g_iconst C 45 (1 : Int32) d3_44 rfl rfl ?_
          refine g_icN C 48 d3_45 (flt ((by decide) : ¬ ((4 : Int32) < (1 : Int32)))).1 rfl ?_
          refine g_aloadN C 49 d3_48 rfl rfl rfl ?_
          refine g_iloadN C 50 d3_49 rfl rfl ?_
          refine g_baload C 51 hi d3_50 rfl (by decide) b4 rfl ?_
          refine g_bipush C 53 (10 : Int32) d3_51 rfl rfl ?_
          by_cases c10 : b4 = (10 : Int32)
          · refine g_icN C 56 d3_53 (teq c10).2 rfl ?_
            refine g_aloadN C 57 d3_56 rfl rfl rfl ?_
            refine g_iloadN C 58 d3_57 rfl rfl ?_
            refine g_iconst C 59 (1 : Int32) d3_58 rfl rfl ?_
            refine g_isub C 60 d3_59 rfl ?_
            rw [show ((4 : Int32) - (1 : Int32)) = (3 : Int32) from by decide]
            refine g_baload C 61 hi d3_60 rfl (by decide) b3 rfl ?_
            refine g_bipush C 63 (13 : Int32) d3_61 rfl rfl ?_
            by_cases c11 : b3 = (13 : Int32)
            · refine g_icN C 66 d3_63 (teq c11).2 rfl ?_
              refine g_lload C 68 d3_66 rfl rfl ?_
              refine g_lconst C 69 (1 : Int64) d3_68 rfl rfl ?_
              refine g_lsub C 70 d3_69 rfl ?_
              refine g_lstore C 72 #[.val (.ref a), .val (.int (4 : Int32)), .val (.int x1), .val (.int x2), .val (.long (((0 : Int64) + (1 : Int64)) - (1 : Int64))), .second] d3_70 rfl rfl ?_
              refine g_lload C 74 d3_72 rfl rfl ?_
              exact g_lret C d3_74 (by decide) (by decide) ⟨by rw [f_at4, if_neg c1, if_pos c2, if_neg c3, if_pos c9, if_pos c10, if_pos c11], rfl⟩
            · refine g_icY C 72 d3_63 (feq c11).2 (by decide) (by decide) ?_
              refine g_lload C 74 d3_72 rfl rfl ?_
              exact g_lret C d3_74 (by decide) (by decide) ⟨by rw [f_at4, if_neg c1, if_pos c2, if_neg c3, if_pos c9, if_pos c10, if_neg c11], rfl⟩
          · refine g_icY C 72 d3_53 (feq c10).2 (by decide) (by decide) ?_
            refine g_lload C 74 d3_72 rfl rfl ?_
            exact g_lret C d3_74 (by decide) (by decide) ⟨by rw [f_at4, if_neg c1, if_pos c2, if_neg c3, if_pos c9, if_neg c10], rfl⟩
        · refine g_icY C 43 d3_34 (feq c9).2 (by decide) (by decide) ?_
          refine g_iloadN C 44 d3_43 rfl rfl ?_
          refine g_iconst C 45 (1 : Int32) d3_44 rfl rfl ?_
          refine g_icN C 48 d3_45 (flt ((by decide) : ¬ ((4 : Int32) < (1 : Int32)))).1 rfl ?_
          refine g_aloadN C 49 d3_48 rfl rfl rfl ?_
          refine g_iloadN C 50 d3_49 rfl rfl ?_
          refine g_baload C 51 hi d3_50 rfl (by decide) b4 rfl ?_
          refine g_bipush C 53 (10 : Int32) d3_51 rfl rfl ?_
          by_cases c12 : b4 = (10 : Int32)
          · refine g_icN C 56 d3_53 (teq c12).2 rfl ?_
            refine g_aloadN C 57 d3_56 rfl rfl rfl ?_
            refine g_iloadN C 58 d3_57 rfl rfl ?_
            refine g_iconst C 59 (1 : Int32) d3_58 rfl rfl ?_
            refine g_isub C 60 d3_59 rfl ?_
            rw [show ((4 : Int32) - (1 : Int32)) = (3 : Int32) from by decide]
            refine g_baload C 61 hi d3_60 rfl (by decide) b3 rfl ?_
            refine g_bipush C 63 (13 : Int32) d3_61 rfl rfl ?_
            by_cases c13 : b3 = (13 : Int32)
            · refine g_icN C 66 d3_63 (teq c13).2 rfl ?_
              refine g_lload C 68 d3_66 rfl rfl ?_
              refine g_lconst C 69 (1 : Int64) d3_68 rfl rfl ?_
              refine g_lsub C 70 d3_69 rfl ?_
              refine g_lstore C 72 #[.val (.ref a), .val (.int (4 : Int32)), .val (.int x1), .val (.int x2), .val (.long ((0 : Int64) - (1 : Int64))), .second] d3_70 rfl rfl ?_
              refine g_lload C 74 d3_72 rfl rfl ?_
              exact g_lret C d3_74 (by decide) (by decide) ⟨by rw [f_at4, if_neg c1, if_pos c2, if_neg c3, if_neg c9, if_pos c12, if_pos c13], rfl⟩
            · refine g_icY C 72 d3_63 (feq c13).2 (by decide) (by decide) ?_
              refine g_lload C 74 d3_72 rfl rfl ?_
              exact g_lret C d3_74 (by decide) (by decide) ⟨by rw [f_at4, if_neg c1, if_pos c2, if_neg c3, if_neg c9, if_pos c12, if_neg c13], rfl⟩
          · refine g_icY C 72 d3_53 (feq c12).2 (by decide) (by decide) ?_
            refine g_lload C 74 d3_72 rfl rfl ?_
            exact g_lret C d3_74 (by decide) (by decide) ⟨by rw [f_at4, if_neg c1, if_pos c2, if_neg c3, if_neg c9, if_neg c12], rfl⟩
    · refine g_icN C 10 d3_7 (flt c2).1 rfl ?_
      refine g_lconst C 11 (0 : Int64) d3_10 rfl rfl ?_
      exact g_lret C d3_11 (by decide) (by decide) ⟨by rw [f_at4, if_neg c1, if_neg c2], rfl⟩
theorem own_and7 (y : Int32) : ∃ n : Nat, n < 8 ∧ (y &&& 7) = Int32.ofNat n := by
  refine ⟨(y &&& 7).toBitVec.toNat, ?_, ?_⟩
  · have : (y &&& 7).toBitVec.toNat = y.toBitVec.toNat &&& 7 := by simp
    rw [this]
    exact Nat.lt_of_le_of_lt Nat.and_le_right (by decide)
  · apply Int32.toBitVec_inj.mp
    apply BitVec.eq_of_toNat_eq
    simp
theorem own_m6 (y : Int32) : (y &&& 7) % 6 = 0 ∨ (y &&& 7) % 6 = 1 ∨ (y &&& 7) % 6 = 2 ∨ (y &&& 7) % 6 = 3 ∨ (y &&& 7) % 6 = 4 ∨ (y &&& 7) % 6 = 5 := by
  obtain ⟨n, hn, e⟩ := own_and7 y
  rw [e]
  match n, hn with
  | 0, _ | 1, _ | 2, _ | 3, _ | 4, _ | 5, _ | 6, _ | 7, _ => decide
theorem own_m6' (y : Int32) : ¬ (5 : Int32) < (y &&& 7) % 6 := by
  rcases own_m6 y with h | h | h | h | h | h <;> rw [h] <;> decide
theorem own_st {b c : Int32} (F : Int64 → Int64) (acc : Int64) : (if b = (13 : Int32) then F (acc + (1 : Int64)) else (if b = (10 : Int32) then (if c = (13 : Int32) then F acc else F (acc + (1 : Int64))) else F acc)) =
    F (acc + (if b = (13 : Int32) then (if b = (10 : Int32) then (if b = (10 : Int32) then (if c = (13 : Int32) then ((((0 : Int64) + (1 : Int64)) + (1 : Int64)) - (1 : Int64)) else (((0 : Int64) + (1 : Int64)) + (1 : Int64))) else (((0 : Int64) + (1 : Int64)) + (1 : Int64))) else (if b = (10 : Int32) then (if c = (13 : Int32) then (((0 : Int64) + (1 : Int64)) - (1 : Int64)) else ((0 : Int64) + (1 : Int64))) else ((0 : Int64) + (1 : Int64)))) else (if b = (10 : Int32) then (if b = (10 : Int32) then (if c = (13 : Int32) then (((0 : Int64) + (1 : Int64)) - (1 : Int64)) else ((0 : Int64) + (1 : Int64))) else ((0 : Int64) + (1 : Int64))) else (if b = (10 : Int32) then (if c = (13 : Int32) then ((0 : Int64) - (1 : Int64)) else (0 : Int64)) else (0 : Int64))))) := by
  by_cases h1 : b = 13
  · subst h1
    rw [if_pos rfl, if_pos rfl, if_neg (by decide), if_neg (by decide)]; rfl
  · by_cases h2 : b = 10
    · subst h2
      by_cases h3 : c = 13
      · simp [h3]
      · simp [h3]
    · simp [h1, h2]
theorem own_s0 {b : Int32} (F : Int64 → Int64) (acc : Int64) : (if b = (13 : Int32) then F (acc + (1 : Int64)) else (if b = (10 : Int32) then F (acc + (1 : Int64)) else F acc)) =
    F (acc + (if b = (13 : Int32) then (if b = (10 : Int32) then (((0 : Int64) + (1 : Int64)) + (1 : Int64)) else ((0 : Int64) + (1 : Int64))) else (if b = (10 : Int32) then ((0 : Int64) + (1 : Int64)) else (0 : Int64)))) := by
  by_cases h1 : b = 13
  · subst h1
    rw [if_pos rfl, if_pos rfl, if_neg (by decide)]; rfl
  · by_cases h2 : b = 10
    · simp [h2]
    · simp [h1, h2]
theorem own_law (b0 b1 b2 b3 b4 f e : Int32) (hf : f = 0 ∨ f = 1 ∨ f = 2 ∨ f = 3 ∨ f = 4 ∨ f = 5) (he : e = 0 ∨ e = 1 ∨ e = 2 ∨ e = 3 ∨ e = 4 ∨ e = 5) :
    le_all b0 b1 b2 b3 b4 f e = ((((f_at0 b0 b1 b2 b3 b4 f e + f_at1 b0 b1 b2 b3 b4 f e) + f_at2 b0 b1 b2 b3 b4 f e) + f_at3 b0 b1 b2 b3 b4 f e) + f_at4 b0 b1 b2 b3 b4 f e) := by
  unfold f_at0 f_at1 f_at2 f_at3 f_at4
  have k4 : ∀ acc, le_4 b0 b1 b2 b3 b4 e acc = _ := fun acc => by rw [le_4, own_st (le_5 b0 b1 b2 b3 b4 e) acc, le_5]
  have k3 : ∀ acc, le_3 b0 b1 b2 b3 b4 e acc = _ := fun acc => by rw [le_3, own_st (le_4 b0 b1 b2 b3 b4 e) acc]
  have k2 : ∀ acc, le_2 b0 b1 b2 b3 b4 e acc = _ := fun acc => by rw [le_2, own_st (le_3 b0 b1 b2 b3 b4 e) acc]
  have k1 : ∀ acc, le_1 b0 b1 b2 b3 b4 e acc = _ := fun acc => by rw [le_1, own_st (le_2 b0 b1 b2 b3 b4 e) acc]
  have k0 : ∀ acc, le_0 b0 b1 b2 b3 b4 e acc = _ := fun acc => by rw [le_0, own_s0 (le_1 b0 b1 b2 b3 b4 e) acc]
  have k5 : ∀ acc, le_5 b0 b1 b2 b3 b4 e acc = acc := fun acc => rfl
  unfold le_all
  rw [k0, k1, k2, k3, k4, k5, k1, k2, k3, k4, k2, k3, k4, k3, k4, k4]
  generalize (if b0 = (13 : Int32) then (if b0 = (10 : Int32) then (((0 : Int64) + (1 : Int64)) + (1 : Int64)) else ((0 : Int64) + (1 : Int64))) else (if b0 = (10 : Int32) then ((0 : Int64) + (1 : Int64)) else (0 : Int64))) = n0
  generalize (if b1 = (13 : Int32) then (if b1 = (10 : Int32) then (if b1 = (10 : Int32) then (if b0 = (13 : Int32) then ((((0 : Int64) + (1 : Int64)) + (1 : Int64)) - (1 : Int64)) else (((0 : Int64) + (1 : Int64)) + (1 : Int64))) else (((0 : Int64) + (1 : Int64)) + (1 : Int64))) else (if b1 = (10 : Int32) then (if b0 = (13 : Int32) then (((0 : Int64) + (1 : Int64)) - (1 : Int64)) else ((0 : Int64) + (1 : Int64))) else ((0 : Int64) + (1 : Int64)))) else (if b1 = (10 : Int32) then (if b1 = (10 : Int32) then (if b0 = (13 : Int32) then (((0 : Int64) + (1 : Int64)) - (1 : Int64)) else ((0 : Int64) + (1 : Int64))) else ((0 : Int64) + (1 : Int64))) else (if b1 = (10 : Int32) then (if b0 = (13 : Int32) then ((0 : Int64) - (1 : Int64)) else (0 : Int64)) else (0 : Int64)))) = n1
  generalize (if b2 = (13 : Int32) then (if b2 = (10 : Int32) then (if b2 = (10 : Int32) then (if b1 = (13 : Int32) then ((((0 : Int64) + (1 : Int64)) + (1 : Int64)) - (1 : Int64)) else (((0 : Int64) + (1 : Int64)) + (1 : Int64))) else (((0 : Int64) + (1 : Int64)) + (1 : Int64))) else (if b2 = (10 : Int32) then (if b1 = (13 : Int32) then (((0 : Int64) + (1 : Int64)) - (1 : Int64)) else ((0 : Int64) + (1 : Int64))) else ((0 : Int64) + (1 : Int64)))) else (if b2 = (10 : Int32) then (if b2 = (10 : Int32) then (if b1 = (13 : Int32) then (((0 : Int64) + (1 : Int64)) - (1 : Int64)) else ((0 : Int64) + (1 : Int64))) else ((0 : Int64) + (1 : Int64))) else (if b2 = (10 : Int32) then (if b1 = (13 : Int32) then ((0 : Int64) - (1 : Int64)) else (0 : Int64)) else (0 : Int64)))) = n2
  generalize (if b3 = (13 : Int32) then (if b3 = (10 : Int32) then (if b3 = (10 : Int32) then (if b2 = (13 : Int32) then ((((0 : Int64) + (1 : Int64)) + (1 : Int64)) - (1 : Int64)) else (((0 : Int64) + (1 : Int64)) + (1 : Int64))) else (((0 : Int64) + (1 : Int64)) + (1 : Int64))) else (if b3 = (10 : Int32) then (if b2 = (13 : Int32) then (((0 : Int64) + (1 : Int64)) - (1 : Int64)) else ((0 : Int64) + (1 : Int64))) else ((0 : Int64) + (1 : Int64)))) else (if b3 = (10 : Int32) then (if b3 = (10 : Int32) then (if b2 = (13 : Int32) then (((0 : Int64) + (1 : Int64)) - (1 : Int64)) else ((0 : Int64) + (1 : Int64))) else ((0 : Int64) + (1 : Int64))) else (if b3 = (10 : Int32) then (if b2 = (13 : Int32) then ((0 : Int64) - (1 : Int64)) else (0 : Int64)) else (0 : Int64)))) = n3
  generalize (if b4 = (13 : Int32) then (if b4 = (10 : Int32) then (if b4 = (10 : Int32) then (if b3 = (13 : Int32) then ((((0 : Int64) + (1 : Int64)) + (1 : Int64)) - (1 : Int64)) else (((0 : Int64) + (1 : Int64)) + (1 : Int64))) else (((0 : Int64) + (1 : Int64)) + (1 : Int64))) else (if b4 = (10 : Int32) then (if b3 = (13 : Int32) then (((0 : Int64) + (1 : Int64)) - (1 : Int64)) else ((0 : Int64) + (1 : Int64))) else ((0 : Int64) + (1 : Int64)))) else (if b4 = (10 : Int32) then (if b4 = (10 : Int32) then (if b3 = (13 : Int32) then (((0 : Int64) + (1 : Int64)) - (1 : Int64)) else ((0 : Int64) + (1 : Int64))) else ((0 : Int64) + (1 : Int64))) else (if b4 = (10 : Int32) then (if b3 = (13 : Int32) then ((0 : Int64) - (1 : Int64)) else (0 : Int64)) else (0 : Int64)))) = n4
  clear k0 k1 k2 k3 k4 k5
  rcases hf with rfl | rfl | rfl | rfl | rfl | rfl <;> rcases he with rfl | rfl | rfl | rfl | rfl | rfl <;> simp

set_option maxRecDepth 65536 in
set_option maxHeartbeats 40000000 in
theorem con_law (l : Launch) (Z : State) (a0 : Array Value) (hw : ∀ d ∈ tables_1, d.before a0 Z = true) (h0 : Heap) (x0 x1 x2 x3 x4 x5 : Int32)  :
    Con l Z x code maxLocals ret room_1 h0 #[(.int x0), (.int x1), (.int x2), (.int x3), (.int x4), (.int x5)] [] (fun v ds' => v = some (.int 1)) := by
  refine con_of (a0 := a0) (Ls := #[.val (.int x0), .val (.int x1), .val (.int x2), .val (.int x3), .val (.int x4), .val (.int x5), .unset, .unset, .unset, .unset, .unset, .unset, .unset]) (plainFor_of_name (by first | (simp [plainName, overriddenIn]; done) | decide +kernel)) hw (fun m => by first | (simp [entryFrame, mkF, argsToLocals, Value.category, maxLocals]; done) | rfl) ?_
  intro p e s m below meth c C
  refine g_iconst C 1 (5 : Int32) at_0 rfl rfl ?_
  refine g_newarray C 3 (ints [(0 : Int32), (0 : Int32), (0 : Int32), (0 : Int32), (0 : Int32)]) 5 (List.mem_of_getElem? (i := 0) rfl) at_1 rfl (by decide) (by decide) (by decide) (by decide) (by decide) rfl ?_
  intro a1
  show Go _ _ _ _ _ _ _ _ _ _ _ _ [(a1, IA Z .byte (ints [(0 : Int32), (0 : Int32), (0 : Int32), (0 : Int32), (0 : Int32)]))] 1 5 3 #[.val (.int x0), .val (.int x1), .val (.int x2), .val (.int x3), .val (.int x4), .val (.int x5), .unset, .unset, .unset, .unset, .unset, .unset, .unset] [(.ref a1)]
  refine g_dup C 4 at_3 rfl rfl ?_
  refine g_iconst C 5 (0 : Int32) at_4 rfl rfl ?_
  refine g_iloadN C 6 at_5 rfl rfl ?_
  refine g_static C 9 3 (argsL := [(.int x0)]) (St := [(.int (0 : Int32)), (.ref a1), (.ref a1)]) (con_f_draw l Z a0 C.2.2.1 h0 [(a1, IA Z .byte (ints [(0 : Int32), (0 : Int32), (0 : Int32), (0 : Int32), (0 : Int32)]))] x0) (List.mem_of_getElem? (i := 1) rfl) (List.mem_of_getElem? (i := 2) rfl) (List.mem_of_getElem? (i := 3) rfl) (List.mem_of_getElem? (i := 4) rfl) (by decide) at_6 rfl rfl (lenOf (ps := [.int]) (r := some .byte) (by decide) rfl) rfl (Nat.le_of_eq rfl) (by decide) (by decide) (by decide) (by decide) ?_
  rintro _ _ ⟨rfl, rfl⟩
  show Go _ _ _ _ _ _ _ _ _ _ _ _ [(a1, IA Z .byte (ints [(0 : Int32), (0 : Int32), (0 : Int32), (0 : Int32), (0 : Int32)]))] 1 5 9 #[.val (.int x0), .val (.int x1), .val (.int x2), .val (.int x3), .val (.int x4), .val (.int x5), .unset, .unset, .unset, .unset, .unset, .unset, .unset] [(.int (f_draw x0)), (.int (0 : Int32)), (.ref a1), (.ref a1)]
  refine g_bastore C 10 (i := 0) [(nar .byte (f_draw x0)), (0 : Int32), (0 : Int32), (0 : Int32), (0 : Int32)] [(a1, IA Z .byte (ints [(nar .byte (f_draw x0)), (0 : Int32), (0 : Int32), (0 : Int32), (0 : Int32)]))] rfl at_9 rfl (by decide) (Nat.le_of_ble_eq_true rfl) rfl rfl ?_
  generalize hb0 : (nar .byte (f_draw x0)) = b0
  refine g_dup C 11 at_10 rfl rfl ?_
  refine g_iconst C 12 (1 : Int32) at_11 rfl rfl ?_
  refine g_iloadN C 13 at_12 rfl rfl ?_
  refine g_static C 16 3 (argsL := [(.int x1)]) (St := [(.int (1 : Int32)), (.ref a1), (.ref a1)]) (con_f_draw l Z a0 C.2.2.1 h0 [(a1, IA Z .byte (ints [b0, (0 : Int32), (0 : Int32), (0 : Int32), (0 : Int32)]))] x1) (List.mem_of_getElem? (i := 1) rfl) (List.mem_of_getElem? (i := 2) rfl) (List.mem_of_getElem? (i := 3) rfl) (List.mem_of_getElem? (i := 4) rfl) (by decide) at_13 rfl rfl (lenOf (ps := [.int]) (r := some .byte) (by decide) rfl) rfl (Nat.le_of_eq rfl) (by decide) (by decide) (by decide) (by decide) ?_
  rintro _ _ ⟨rfl, rfl⟩
  show Go _ _ _ _ _ _ _ _ _ _ _ _ [(a1, IA Z .byte (ints [b0, (0 : Int32), (0 : Int32), (0 : Int32), (0 : Int32)]))] 1 5 16 #[.val (.int x0), .val (.int x1), .val (.int x2), .val (.int x3), .val (.int x4), .val (.int x5), .unset, .unset, .unset, .unset, .unset, .unset, .unset] [(.int (f_draw x1)), (.int (1 : Int32)), (.ref a1), (.ref a1)]
  refine g_bastore C 17 (i := 0) [b0, (nar .byte (f_draw x1)), (0 : Int32), (0 : Int32), (0 : Int32)] [(a1, IA Z .byte (ints [b0, (nar .byte (f_draw x1)), (0 : Int32), (0 : Int32), (0 : Int32)]))] rfl at_16 rfl (by decide) (Nat.le_of_ble_eq_true rfl) rfl rfl ?_
  generalize hb1 : (nar .byte (f_draw x1)) = b1
  refine g_dup C 18 at_17 rfl rfl ?_
  refine g_iconst C 19 (2 : Int32) at_18 rfl rfl ?_
  refine g_iloadN C 20 at_19 rfl rfl ?_
  refine g_static C 23 3 (argsL := [(.int x2)]) (St := [(.int (2 : Int32)), (.ref a1), (.ref a1)]) (con_f_draw l Z a0 C.2.2.1 h0 [(a1, IA Z .byte (ints [b0, b1, (0 : Int32), (0 : Int32), (0 : Int32)]))] x2) (List.mem_of_getElem? (i := 1) rfl) (List.mem_of_getElem? (i := 2) rfl) (List.mem_of_getElem? (i := 3) rfl) (List.mem_of_getElem? (i := 4) rfl) (by decide) at_20 rfl rfl (lenOf (ps := [.int]) (r := some .byte) (by decide) rfl) rfl (Nat.le_of_eq rfl) (by decide) (by decide) (by decide) (by decide) ?_
  rintro _ _ ⟨rfl, rfl⟩
  show Go _ _ _ _ _ _ _ _ _ _ _ _ [(a1, IA Z .byte (ints [b0, b1, (0 : Int32), (0 : Int32), (0 : Int32)]))] 1 5 23 #[.val (.int x0), .val (.int x1), .val (.int x2), .val (.int x3), .val (.int x4), .val (.int x5), .unset, .unset, .unset, .unset, .unset, .unset, .unset] [(.int (f_draw x2)), (.int (2 : Int32)), (.ref a1), (.ref a1)]
  refine g_bastore C 24 (i := 0) [b0, b1, (nar .byte (f_draw x2)), (0 : Int32), (0 : Int32)] [(a1, IA Z .byte (ints [b0, b1, (nar .byte (f_draw x2)), (0 : Int32), (0 : Int32)]))] rfl at_23 rfl (by decide) (Nat.le_of_ble_eq_true rfl) rfl rfl ?_
  generalize hb2 : (nar .byte (f_draw x2)) = b2
  refine g_dup C 25 at_24 rfl rfl ?_
  refine g_iconst C 26 (3 : Int32) at_25 rfl rfl ?_
  refine g_iloadN C 27 at_26 rfl rfl ?_
  refine g_static C 30 3 (argsL := [(.int x3)]) (St := [(.int (3 : Int32)), (.ref a1), (.ref a1)]) (con_f_draw l Z a0 C.2.2.1 h0 [(a1, IA Z .byte (ints [b0, b1, b2, (0 : Int32), (0 : Int32)]))] x3) (List.mem_of_getElem? (i := 1) rfl) (List.mem_of_getElem? (i := 2) rfl) (List.mem_of_getElem? (i := 3) rfl) (List.mem_of_getElem? (i := 4) rfl) (by decide) at_27 rfl rfl (lenOf (ps := [.int]) (r := some .byte) (by decide) rfl) rfl (Nat.le_of_eq rfl) (by decide) (by decide) (by decide) (by decide) ?_
  rintro _ _ ⟨rfl, rfl⟩
  show Go _ _ _ _ _ _ _ _ _ _ _ _ [(a1, IA Z .byte (ints [b0, b1, b2, (0 : Int32), (0 : Int32)]))] 1 5 30 #[.val (.int x0), .val (.int x1), .val (.int x2), .val (.int x3), .val (.int x4), .val (.int x5), .unset, .unset, .unset, .unset, .unset, .unset, .unset] [(.int (f_draw x3)), (.int (3 : Int32)), (.ref a1), (.ref a1)]
  refine g_bastore C 31 (i := 0) [b0, b1, b2, (nar .byte (f_draw x3)), (0 : Int32)] [(a1, IA Z .byte (ints [b0, b1, b2, (nar .byte (f_draw x3)), (0 : Int32)]))] rfl at_30 rfl (by decide) (Nat.le_of_ble_eq_true rfl) rfl rfl ?_
  generalize hb3 : (nar .byte (f_draw x3)) = b3
  refine g_dup C 32 at_31 rfl rfl ?_
  refine g_iconst C 33 (4 : Int32) at_32 rfl rfl ?_
  refine g_iload C 35 at_33 rfl rfl ?_
  refine g_static C 38 3 (argsL := [(.int x4)]) (St := [(.int (4 : Int32)), (.ref a1), (.ref a1)]) (con_f_draw l Z a0 C.2.2.1 h0 [(a1, IA Z .byte (ints [b0, b1, b2, b3, (0 : Int32)]))] x4) (List.mem_of_getElem? (i := 1) rfl) (List.mem_of_getElem? (i := 2) rfl) (List.mem_of_getElem? (i := 3) rfl) (List.mem_of_getElem? (i := 4) rfl) (by decide) at_35 rfl rfl (lenOf (ps := [.int]) (r := some .byte) (by decide) rfl) rfl (Nat.le_of_eq rfl) (by decide) (by decide) (by decide) (by decide) ?_
  rintro _ _ ⟨rfl, rfl⟩
  show Go _ _ _ _ _ _ _ _ _ _ _ _ [(a1, IA Z .byte (ints [b0, b1, b2, b3, (0 : Int32)]))] 1 5 38 #[.val (.int x0), .val (.int x1), .val (.int x2), .val (.int x3), .val (.int x4), .val (.int x5), .unset, .unset, .unset, .unset, .unset, .unset, .unset] [(.int (f_draw x4)), (.int (4 : Int32)), (.ref a1), (.ref a1)]
  refine g_bastore C 39 (i := 0) [b0, b1, b2, b3, (nar .byte (f_draw x4))] [(a1, IA Z .byte (ints [b0, b1, b2, b3, (nar .byte (f_draw x4))]))] rfl at_38 rfl (by decide) (Nat.le_of_ble_eq_true rfl) rfl rfl ?_
  generalize hb4 : (nar .byte (f_draw x4)) = b4
  refine g_astore C 41 #[.val (.int x0), .val (.int x1), .val (.int x2), .val (.int x3), .val (.int x4), .val (.int x5), .val (.ref a1), .unset, .unset, .unset, .unset, .unset, .unset] at_39 rfl rfl rfl ?_
  refine g_iload C 43 at_41 rfl rfl ?_
  refine g_bipush C 45 (7 : Int32) at_43 rfl rfl ?_
  refine g_iand C 46 at_45 rfl ?_
  refine g_bipush C 48 (6 : Int32) at_46 rfl rfl ?_
  refine g_irem C 49 at_48 rfl (by decide) ?_
  refine g_istore C 51 #[.val (.int x0), .val (.int x1), .val (.int x2), .val (.int x3), .val (.int x4), .val (.int x5), .val (.ref a1), .val (.int ((x5 &&& (7 : Int32)) % (6 : Int32))), .unset, .unset, .unset, .unset, .unset] at_49 rfl rfl ?_
  generalize hv2 : ((x5 &&& (7 : Int32)) % (6 : Int32)) = v2
  refine g_iload C 53 at_51 rfl rfl ?_
  refine g_iconst C 54 (3 : Int32) at_53 rfl rfl ?_
  refine g_iushr C 55 at_54 rfl ?_
  refine g_bipush C 57 (7 : Int32) at_55 rfl rfl ?_
  refine g_iand C 58 at_57 rfl ?_
  refine g_bipush C 60 (6 : Int32) at_58 rfl rfl ?_
  refine g_irem C 61 at_60 rfl (by decide) ?_
  refine g_istore C 63 #[.val (.int x0), .val (.int x1), .val (.int x2), .val (.int x3), .val (.int x4), .val (.int x5), .val (.ref a1), .val (.int v2), .val (.int ((((x5.toUInt32 >>> ((3 : Int32) &&& 31).toUInt32).toInt32) &&& (7 : Int32)) % (6 : Int32))), .unset, .unset, .unset, .unset] at_61 rfl rfl ?_
  generalize hv3 : ((((x5.toUInt32 >>> ((3 : Int32) &&& 31).toUInt32).toInt32) &&& (7 : Int32)) % (6 : Int32)) = v3
  refine g_aload C 65 at_63 rfl rfl rfl ?_
  refine g_iload C 67 at_65 rfl rfl ?_
  refine g_iload C 69 at_67 rfl rfl ?_
  refine g_static C 72 0 (argsL := [(.ref a1), (.int v2), (.int v3)]) (St := []) (con_le l Z a0 C.2.2.1 h0 [(a1, IA Z .byte (ints [b0, b1, b2, b3, b4]))] 0 a1 b0 b1 b2 b3 b4 v2 v3 _ rfl (by subst hv2; exact own_m6 _) (by subst hv3; exact own_m6' _) rfl) (List.mem_of_getElem? (i := 5) rfl) (List.mem_of_getElem? (i := 6) rfl) (List.mem_of_getElem? (i := 7) rfl) (List.mem_of_getElem? (i := 8) rfl) (by decide) at_69 rfl rfl (lenOf (ps := [(.array .byte), .int, .int]) (r := some .long) (by decide) rfl) rfl (Nat.le_of_eq rfl) (by decide) (by decide) (by decide) (by decide) ?_
  rintro _ _ ⟨rfl, rfl⟩
  show Go _ _ _ _ _ _ _ _ _ _ _ _ [(a1, IA Z .byte (ints [b0, b1, b2, b3, b4]))] 1 5 72 #[.val (.int x0), .val (.int x1), .val (.int x2), .val (.int x3), .val (.int x4), .val (.int x5), .val (.ref a1), .val (.int v2), .val (.int v3), .unset, .unset, .unset, .unset] [(.long (le_all b0 b1 b2 b3 b4 v2 v3))]
  refine g_lstore C 74 #[.val (.int x0), .val (.int x1), .val (.int x2), .val (.int x3), .val (.int x4), .val (.int x5), .val (.ref a1), .val (.int v2), .val (.int v3), .val (.long (le_all b0 b1 b2 b3 b4 v2 v3)), .second, .unset, .unset] at_72 rfl rfl ?_
  generalize hv4 : (le_all b0 b1 b2 b3 b4 v2 v3) = v4
  refine g_aload C 76 at_74 rfl rfl rfl ?_
  refine g_iconst C 77 (0 : Int32) at_76 rfl rfl ?_
  refine g_iload C 79 at_77 rfl rfl ?_
  refine g_iload C 81 at_79 rfl rfl ?_
  refine g_static C 84 0 (argsL := [(.ref a1), (.int (0 : Int32)), (.int v2), (.int v3)]) (St := []) (con_at_0 l Z a0 C.2.2.1 h0 [(a1, IA Z .byte (ints [b0, b1, b2, b3, b4]))] 0 a1 b0 b1 b2 b3 b4 v2 v3 rfl) (List.mem_of_getElem? (i := 9) rfl) (List.mem_of_getElem? (i := 10) rfl) (List.mem_of_getElem? (i := 3) rfl) (List.mem_of_getElem? (i := 11) rfl) (by decide) at_81 rfl rfl (lenOf (ps := [(.array .byte), .int, .int, .int]) (r := some .long) (by decide) rfl) rfl (Nat.le_of_eq rfl) (by decide) (by decide) (by decide) (by decide) ?_
  rintro _ _ ⟨rfl, rfl⟩
  show Go _ _ _ _ _ _ _ _ _ _ _ _ [(a1, IA Z .byte (ints [b0, b1, b2, b3, b4]))] 1 5 84 #[.val (.int x0), .val (.int x1), .val (.int x2), .val (.int x3), .val (.int x4), .val (.int x5), .val (.ref a1), .val (.int v2), .val (.int v3), .val (.long v4), .second, .unset, .unset] [(.long (f_at0 b0 b1 b2 b3 b4 v2 v3))]
  refine g_aload C 86 at_84 rfl rfl rfl ?_
  refine g_iconst C 87 (1 : Int32) at_86 rfl rfl ?_
  refine g_iload C 89 at_87 rfl rfl ?_
  refine g_iload C 91 at_89 rfl rfl ?_
  refine g_static C 94 2 (argsL := [(.ref a1), (.int (1 : Int32)), (.int v2), (.int v3)]) (St := [(.long (f_at0 b0 b1 b2 b3 b4 v2 v3))]) (con_at_1 l Z a0 C.2.2.1 h0 [(a1, IA Z .byte (ints [b0, b1, b2, b3, b4]))] 0 a1 b0 b1 b2 b3 b4 v2 v3 rfl) (List.mem_of_getElem? (i := 9) rfl) (List.mem_of_getElem? (i := 10) rfl) (List.mem_of_getElem? (i := 3) rfl) (List.mem_of_getElem? (i := 11) rfl) (by decide) at_91 rfl rfl (lenOf (ps := [(.array .byte), .int, .int, .int]) (r := some .long) (by decide) rfl) rfl (Nat.le_of_eq rfl) (by decide) (by decide) (by decide) (by decide) ?_
  rintro _ _ ⟨rfl, rfl⟩
  show Go _ _ _ _ _ _ _ _ _ _ _ _ [(a1, IA Z .byte (ints [b0, b1, b2, b3, b4]))] 1 5 94 #[.val (.int x0), .val (.int x1), .val (.int x2), .val (.int x3), .val (.int x4), .val (.int x5), .val (.ref a1), .val (.int v2), .val (.int v3), .val (.long v4), .second, .unset, .unset] [(.long (f_at1 b0 b1 b2 b3 b4 v2 v3)), (.long (f_at0 b0 b1 b2 b3 b4 v2 v3))]
  refine g_ladd C 95 at_94 rfl ?_
  refine g_aload C 97 at_95 rfl rfl rfl ?_
  refine g_iconst C 98 (2 : Int32) at_97 rfl rfl ?_
  refine g_iload C 100 at_98 rfl rfl ?_
  refine g_iload C 102 at_100 rfl rfl ?_
  refine g_static C 105 2 (argsL := [(.ref a1), (.int (2 : Int32)), (.int v2), (.int v3)]) (St := [(.long ((f_at0 b0 b1 b2 b3 b4 v2 v3) + (f_at1 b0 b1 b2 b3 b4 v2 v3)))]) (con_at_2 l Z a0 C.2.2.1 h0 [(a1, IA Z .byte (ints [b0, b1, b2, b3, b4]))] 0 a1 b0 b1 b2 b3 b4 v2 v3 rfl) (List.mem_of_getElem? (i := 9) rfl) (List.mem_of_getElem? (i := 10) rfl) (List.mem_of_getElem? (i := 3) rfl) (List.mem_of_getElem? (i := 11) rfl) (by decide) at_102 rfl rfl (lenOf (ps := [(.array .byte), .int, .int, .int]) (r := some .long) (by decide) rfl) rfl (Nat.le_of_eq rfl) (by decide) (by decide) (by decide) (by decide) ?_
  rintro _ _ ⟨rfl, rfl⟩
  show Go _ _ _ _ _ _ _ _ _ _ _ _ [(a1, IA Z .byte (ints [b0, b1, b2, b3, b4]))] 1 5 105 #[.val (.int x0), .val (.int x1), .val (.int x2), .val (.int x3), .val (.int x4), .val (.int x5), .val (.ref a1), .val (.int v2), .val (.int v3), .val (.long v4), .second, .unset, .unset] [(.long (f_at2 b0 b1 b2 b3 b4 v2 v3)), (.long ((f_at0 b0 b1 b2 b3 b4 v2 v3) + (f_at1 b0 b1 b2 b3 b4 v2 v3)))]
  refine g_ladd C 106 at_105 rfl ?_
  refine g_aload C 108 at_106 rfl rfl rfl ?_
  refine g_iconst C 109 (3 : Int32) at_108 rfl rfl ?_
  refine g_iload C 111 at_109 rfl rfl ?_
  refine g_iload C 113 at_111 rfl rfl ?_
  refine g_static C 116 2 (argsL := [(.ref a1), (.int (3 : Int32)), (.int v2), (.int v3)]) (St := [(.long (((f_at0 b0 b1 b2 b3 b4 v2 v3) + (f_at1 b0 b1 b2 b3 b4 v2 v3)) + (f_at2 b0 b1 b2 b3 b4 v2 v3)))]) (con_at_3 l Z a0 C.2.2.1 h0 [(a1, IA Z .byte (ints [b0, b1, b2, b3, b4]))] 0 a1 b0 b1 b2 b3 b4 v2 v3 rfl) (List.mem_of_getElem? (i := 9) rfl) (List.mem_of_getElem? (i := 10) rfl) (List.mem_of_getElem? (i := 3) rfl) (List.mem_of_getElem? (i := 11) rfl) (by decide) at_113 rfl rfl (lenOf (ps := [(.array .byte), .int, .int, .int]) (r := some .long) (by decide) rfl) rfl (Nat.le_of_eq rfl) (by decide) (by decide) (by decide) (by decide) ?_
  rintro _ _ ⟨rfl, rfl⟩
  show Go _ _ _ _ _ _ _ _ _ _ _ _ [(a1, IA Z .byte (ints [b0, b1, b2, b3, b4]))] 1 5 116 #[.val (.int x0), .val (.int x1), .val (.int x2), .val (.int x3), .val (.int x4), .val (.int x5), .val (.ref a1), .val (.int v2), .val (.int v3), .val (.long v4), .second, .unset, .unset] [(.long (f_at3 b0 b1 b2 b3 b4 v2 v3)), (.long (((f_at0 b0 b1 b2 b3 b4 v2 v3) + (f_at1 b0 b1 b2 b3 b4 v2 v3)) + (f_at2 b0 b1 b2 b3 b4 v2 v3)))]
  refine g_ladd C 117 at_116 rfl ?_
  refine g_aload C 119 at_117 rfl rfl rfl ?_
  refine g_iconst C 120 (4 : Int32) at_119 rfl rfl ?_
  refine g_iload C 122 at_120 rfl rfl ?_
  refine g_iload C 124 at_122 rfl rfl ?_
  refine g_static C 127 2 (argsL := [(.ref a1), (.int (4 : Int32)), (.int v2), (.int v3)]) (St := [(.long ((((f_at0 b0 b1 b2 b3 b4 v2 v3) + (f_at1 b0 b1 b2 b3 b4 v2 v3)) + (f_at2 b0 b1 b2 b3 b4 v2 v3)) + (f_at3 b0 b1 b2 b3 b4 v2 v3)))]) (con_at_4 l Z a0 C.2.2.1 h0 [(a1, IA Z .byte (ints [b0, b1, b2, b3, b4]))] 0 a1 b0 b1 b2 b3 b4 v2 v3 rfl) (List.mem_of_getElem? (i := 9) rfl) (List.mem_of_getElem? (i := 10) rfl) (List.mem_of_getElem? (i := 3) rfl) (List.mem_of_getElem? (i := 11) rfl) (by decide) at_124 rfl rfl (lenOf (ps := [(.array .byte), .int, .int, .int]) (r := some .long) (by decide) rfl) rfl (Nat.le_of_eq rfl) (by decide) (by decide) (by decide) (by decide) ?_
  rintro _ _ ⟨rfl, rfl⟩
  show Go _ _ _ _ _ _ _ _ _ _ _ _ [(a1, IA Z .byte (ints [b0, b1, b2, b3, b4]))] 1 5 127 #[.val (.int x0), .val (.int x1), .val (.int x2), .val (.int x3), .val (.int x4), .val (.int x5), .val (.ref a1), .val (.int v2), .val (.int v3), .val (.long v4), .second, .unset, .unset] [(.long (f_at4 b0 b1 b2 b3 b4 v2 v3)), (.long ((((f_at0 b0 b1 b2 b3 b4 v2 v3) + (f_at1 b0 b1 b2 b3 b4 v2 v3)) + (f_at2 b0 b1 b2 b3 b4 v2 v3)) + (f_at3 b0 b1 b2 b3 b4 v2 v3)))]
  refine g_ladd C 128 at_127 rfl ?_
  refine g_lstore C 130 #[.val (.int x0), .val (.int x1), .val (.int x2), .val (.int x3), .val (.int x4), .val (.int x5), .val (.ref a1), .val (.int v2), .val (.int v3), .val (.long v4), .second, .val (.long (((((f_at0 b0 b1 b2 b3 b4 v2 v3) + (f_at1 b0 b1 b2 b3 b4 v2 v3)) + (f_at2 b0 b1 b2 b3 b4 v2 v3)) + (f_at3 b0 b1 b2 b3 b4 v2 v3)) + (f_at4 b0 b1 b2 b3 b4 v2 v3))), .second] at_128 rfl rfl ?_
  generalize hv5 : (((((f_at0 b0 b1 b2 b3 b4 v2 v3) + (f_at1 b0 b1 b2 b3 b4 v2 v3)) + (f_at2 b0 b1 b2 b3 b4 v2 v3)) + (f_at3 b0 b1 b2 b3 b4 v2 v3)) + (f_at4 b0 b1 b2 b3 b4 v2 v3)) = v5
  refine g_lload C 132 at_130 rfl rfl ?_
  refine g_lload C 134 at_132 rfl rfl ?_
  refine g_lcmp C 135 at_134 rfl ?_
  refine g_ifN C 138 at_135 (teq ((lw_eq _ _).mpr ((by subst_vars; exact own_law _ _ _ _ _ _ _ (own_m6 _) (own_m6 _)) : v4 = v5))).2 rfl ?_
  refine g_iconst C 139 (1 : Int32) at_138 rfl rfl ?_
  refine g_goto C 143 at_139 (by decide) (by decide) ?_
  exact g_nret C (by simp) (z' := (1 : Int32)) (by decide) at_143 (by decide) (by decide) rfl
set_option maxRecDepth 65536 in
set_option maxHeartbeats 40000000 in
theorem comes_1 {Post : Tables → Env → Array Value → State → Outcome → State → Prop} (hpost : ∀ tb e args s v u, (limb_1_1.after args s (.returned v) u = true ∧ limb_1_2.after args s (.returned v) u = true ∧ True) → FrameEnd s (.returned v) u (Jvm.fieldLocs frame_1_writes args s ++ Jvm.arrayLocs frame_1_arrays args s ++ Jvm.staticLocs frame_1_statics s) 16 128 → Post tb e args s (.returned v) u) :
    ArmFor flags0 classFile x code maxLocals ret World_1 tables_1 room_1 Calls_1 rest_1 Pre_1 Post := by
  intro l hfl _ _ p e ha hc hk s m args below hf hA hF happ hP
  obtain ⟨hcalls, hrest, hpre⟩ := hP
  obtain ⟨-, -, -, hnamed, -, -, -, hat⟩ := (Spec.applies_iff hf).mp happ
  obtain ⟨hg, hn⟩ := and_e (Cond.before_iff.mp (show (Jvm.Cond.and given_1 narrow_1).before args s = true from hpre))
  obtain ⟨hcount, hg0⟩ := and_e hg
  obtain ⟨gi0, hg1⟩ := and_e hg0
  obtain ⟨gi1, hg2⟩ := and_e hg1
  obtain ⟨gi2, hg3⟩ := and_e hg2
  obtain ⟨gi3, hg4⟩ := and_e hg3
  obtain ⟨gi4, hg5⟩ := and_e hg4
  have gi5 := hg5
  obtain ⟨w0, w1, w2, w3, w4, w5, rfl⟩ : ∃ w0 w1 w2 w3 w4 w5 : Value, args = #[w0, w1, w2, w3, w4, w5] := by
    have hs : args.size = 6 := by simpa [Cond.value, given_1] using hcount
    obtain ⟨L⟩ := args
    match L, hs with
    | [w0, w1, w2, w3, w4, w5], _ => exact ⟨w0, w1, w2, w3, w4, w5, rfl⟩
  have hw := fun d (hd : d ∈ tables_1) => atoms_spec (ws := Jvm.Cond.code x code maxLocals ret :: tables_1) hat d (List.mem_cons_of_mem _ hd)
  have hfit : Fit s := fun {y c} hc i hi => by
    obtain ⟨ha, rfl⟩ := Array.getElem?_eq_some_iff.mp hc
    have q := List.all_eq_true.mp ((Array.all_eq_true_iff_forall_mem.mp hF) _ (Array.getElem_mem ha)) i (List.mem_range.mpr hi)
    simpa [Array.getElem?_eq_getElem hi] using q
  obtain ⟨i0, ei0⟩ := is_v gi0
  obtain rfl : w0 = (.int i0) := Option.some.inj ei0
  obtain ⟨i1, ei1⟩ := is_v gi1
  obtain rfl : w1 = (.int i1) := Option.some.inj ei1
  obtain ⟨i2, ei2⟩ := is_v gi2
  obtain rfl : w2 = (.int i2) := Option.some.inj ei2
  obtain ⟨i3, ei3⟩ := is_v gi3
  obtain rfl : w3 = (.int i3) := Option.some.inj ei3
  obtain ⟨i4, ei4⟩ := is_v gi4
  obtain rfl : w4 = (.int i4) := Option.some.inj ei4
  obtain ⟨i5, ei5⟩ := is_v gi5
  obtain rfl : w5 = (.int i5) := Option.some.inj ei5
  obtain ⟨n, o, h1, h2, h3, _, L, rfl, ⟨ds', rfl, -, N⟩, hq⟩ := con_law l s _ hw s.heap i0 i1 i2 i3 i4 i5 s.heap (Wld.nil _) tables_1 p e ha hc hk s m _ below hf ((Spec.applies_iff_loose hf).mp happ).1 ⟨rfl, State.Warmed39.refl s, rfl⟩ trivial
  refine ⟨n, _, h1, h2, h3, hpost _ _ _ _ _ _ ⟨Cond.after_iff.mpr rfl, Cond.after_iff.mpr (eq_i res_at (Term.int_eval (1)) rfl), trivial⟩ ⟨hq.1, hq.2.1, (hq.2.2.sift fun y hy => Or.inr (N y hy)).mono (by decide) (by decide)⟩⟩
theorem main_1_1 : Claimed_1_1 := comes_1 fun _ _ _ _ _ _ h hF => ⟨h.1, hF⟩
theorem main_1_2 : Claimed_1_2 := comes_1 fun _ _ _ _ _ _ h hF => ⟨h.2.1, hF⟩
end Jvm.Pilot.@@N@@
namespace Jvm.Pilot.@@N@@
open Jvm Jvm.ClassFile Sem Op Lib Jvm.Free Jvm.Stand Jvm.Pilot.@@N@@.Jvm.D
/-! MADE BY PROGRAM (witnessworld.py) out of the Statement's table words and the real class files: 9 classes; the members and pool entries that the words name. The judged class is class 1, her method 3. -/
namespace start1
open Jvm.ClassFile
def u (s : String) : CpInfo := .utf8 (stringToUtf16 s)
/-- a pool by its gaps: so many unusable entries, then the entry; so many at the end -/
def gap : Nat → List CpInfo → List CpInfo
  | 0, r => r
  | n + 1, r => .unusable :: gap n r
def poolList (es : List (Nat × CpInfo)) (last : Nat) : List CpInfo := es.foldr (fun e r => gap e.1 (e.2 :: r)) (gap last [])
def pool (es : List (Nat × CpInfo)) (last : Nat) : Array CpInfo := ⟨poolList es last⟩
def fileOf (pool : Array CpInfo) (this : Nat) (attrs : Array Attribute := #[]) (ms : Array MethodInfo := #[]) (fl : Nat := 33) (sup : Nat := 0) (ifs : Array Nat := #[]) (fds : Array FieldInfo := #[]) : ClassFile where
  minorVersion := 0
  majorVersion := 65
  constantPool := pool
  accessFlags := fl
  thisClass := this
  superClass := sup
  interfaces := ifs
  fields := fds
  methods := ms
  attributes := attrs
def plain (name : String) (sup : Option ClassId) : Class where
  name := name
  kind := .ordinary
  loader := none
  accessFlags := 33
  super := sup
  interfaces := #[]
  cf := none
  fields := #[]
  methods := #[]
  instanceTypes := #[]
  staticTypes := #[]
  resolved := #[]
  callSites := []
  init := .initialized
  statics := none
  mirror := none

def pool0 : Array CpInfo := pool [(5, u "<init>"), (0, u "()V"), (1, .class_ 10), (1, u "java/lang/Object")] 113

def k0m0 : Method := { name := "<init>", desc := "()V", sig := { parameters := [], returnType := none }, accessFlags := 1, code := none }
/-- java/lang/Object -/
def k0 : Class := { plain "java/lang/Object" none with
  accessFlags := 33
  interfaces := #[]
  cf := some (fileOf pool0 8 #[] #[{ accessFlags := 1, nameIndex := 5, descriptorIndex := 6, attributes := #[] }] 33 0 #[] #[])
  fields := #[]
  methods := #[k0m0]
  instanceTypes := #[]
  staticTypes := #[]
  resolved := Array.replicate 124 none
  statics := none }

def pool1 : Array CpInfo := pool [(2, .class_ 4), (1, u "java/lang/Object"), (0, u "<init>"), (0, u "()V"), (0, .methodref 8 9), (0, .class_ 10), (0, .nameAndType 11 12), (0, u "com/example/vestwork/vestwork/actuarial/XmlBytesLineEndsPinLaw"), (0, u "draw"), (0, u "(I)B"), (0, .methodref 14 15), (0, .class_ 16), (0, .nameAndType 17 18), (0, u "com/example/vestwork/vestwork/actuarial/XmlBytes"), (0, u "lineEnds"), (0, u "([BII)J"), (0, .methodref 8 20), (0, .nameAndType 21 22), (0, u "at"), (0, u "([BIII)J"), (3, u "law"), (0, u "(IIIIII)Z")] 4

def k1m0 : Method := { name := "<init>", desc := "()V", sig := { parameters := [], returnType := none }, accessFlags := 1, code := none }
def k1c1 : Code := { maxStack := 2, maxLocals := 2, code := method_2_code, exceptionTable := #[], attributes := #[] }
def k1m1 : Method := { name := "draw", desc := "(I)B", sig := { parameters := [.int], returnType := some .byte }, accessFlags := 10, code := some k1c1 }
def k1c2 : Code := { maxStack := 4, maxLocals := 6, code := method_3_code, exceptionTable := #[], attributes := #[] }
def k1m2 : Method := { name := "at", desc := "([BIII)J", sig := { parameters := [(.array .byte), .int, .int, .int], returnType := some .long }, accessFlags := 10, code := some k1c2 }
def k1c3 : Code := { maxStack := 6, maxLocals := 13, code := code, exceptionTable := #[], attributes := #[] }
def k1m3 : Method := { name := "law", desc := "(IIIIII)Z", sig := { parameters := [.int, .int, .int, .int, .int, .int], returnType := some .boolean }, accessFlags := 9, code := some k1c3 }
/-- com/example/vestwork/vestwork/actuarial/XmlBytesLineEndsPinLaw -/
def k1 : Class := { plain "com/example/vestwork/vestwork/actuarial/XmlBytesLineEndsPinLaw" (some 0) with
  accessFlags := 49
  interfaces := #[]
  cf := some (fileOf pool1 8 #[] #[{ accessFlags := 1, nameIndex := 5, descriptorIndex := 6, attributes := #[] }, { accessFlags := 10, nameIndex := 11, descriptorIndex := 12, attributes := #[] }, { accessFlags := 10, nameIndex := 21, descriptorIndex := 22, attributes := #[] }, { accessFlags := 9, nameIndex := 26, descriptorIndex := 27, attributes := #[] }] 49 2 #[] #[])
  fields := #[]
  methods := #[k1m0, k1m1, k1m2, k1m3]
  instanceTypes := #[]
  staticTypes := #[]
  resolved := Array.replicate 32 none
  statics := none }

def pool2 : Array CpInfo := pool [(2, .class_ 4), (1, u "java/lang/Object"), (0, u "<init>"), (0, u "()V"), (0, .class_ 8), (0, u "com/example/vestwork/vestwork/actuarial/XmlBytes"), (7, u "lineEnds"), (0, u "([BII)J")] 2

def k2m0 : Method := { name := "<init>", desc := "()V", sig := { parameters := [], returnType := none }, accessFlags := 2, code := none }
def k2c1 : Code := { maxStack := 4, maxLocals := 7, code := prog_13_method_3_code, exceptionTable := #[], attributes := #[] }
def k2m1 : Method := { name := "lineEnds", desc := "([BII)J", sig := { parameters := [(.array .byte), .int, .int], returnType := some .long }, accessFlags := 8, code := some k2c1 }
/-- com/example/vestwork/vestwork/actuarial/XmlBytes -/
def k2 : Class := { plain "com/example/vestwork/vestwork/actuarial/XmlBytes" (some 0) with
  accessFlags := 32
  interfaces := #[]
  cf := some (fileOf pool2 7 #[] #[{ accessFlags := 2, nameIndex := 5, descriptorIndex := 6, attributes := #[] }, { accessFlags := 8, nameIndex := 16, descriptorIndex := 17, attributes := #[] }] 32 2 #[] #[])
  fields := #[]
  methods := #[k2m0, k2m1]
  instanceTypes := #[]
  staticTypes := #[]
  resolved := Array.replicate 20 none
  statics := none }

def pool3 : Array CpInfo := pool [(1, u "java/lang/Cloneable"), (0, .class_ 1), (0, u "java/lang/Object"), (0, .class_ 3)] 3

/-- java/lang/Cloneable -/
def k3 : Class := { plain "java/lang/Cloneable" (some 0) with
  accessFlags := 1537
  interfaces := #[]
  cf := some (fileOf pool3 2 #[] #[] 1537 4 #[] #[])
  fields := #[]
  methods := #[]
  instanceTypes := #[]
  staticTypes := #[]
  resolved := Array.replicate 8 none
  statics := none }

def pool4 : Array CpInfo := pool [(1, u "java/io/Serializable"), (0, .class_ 1), (0, u "java/lang/Object"), (0, .class_ 3)] 3

/-- java/io/Serializable -/
def k4 : Class := { plain "java/io/Serializable" (some 0) with
  accessFlags := 1537
  interfaces := #[]
  cf := some (fileOf pool4 2 #[] #[] 1537 4 #[] #[])
  fields := #[]
  methods := #[]
  instanceTypes := #[]
  staticTypes := #[]
  resolved := Array.replicate 8 none
  statics := none }

/-- the primitive byte -/
def k5 : Class := { plain "byte" none with kind := .primitive 'B', accessFlags := 0x411 }
/-- [B -/
def k6 : Class := { plain "[B" (some 0) with kind := .array 5 .byte, interfaces := #[3, 4], accessFlags := 1041 }

/-- the primitive int -/
def k7 : Class := { plain "int" none with kind := .primitive 'I', accessFlags := 0x411 }
/-- [I -/
def k8 : Class := { plain "[I" (some 0) with kind := .array 7 .int, interfaces := #[3, 4], accessFlags := 1041 }

def heap : Heap := #[]
def classes : Array Class := #[k0, k1, k2, k3, k4, k5, k6, k7, k8]
def interned : List (Array UInt16 × Addr) := []
def slotsUsed : Nat := 0
def theMethod : MethodId := ⟨1, 3⟩
def args0 : Array Value := #[.int 0, .int 1, .int 2, .int 3, .int 4, .int 5]
def aboutOver (below : List Frame) : State where
  vm := { classes := classes, interned := interned.toArray }
  heap := heap
  slotsUsed := slotsUsed
  threads := #[{ frames := .invoking theMethod args0 :: below }]
def below0 : List Frame := [.native { method := ⟨0, 0⟩, args := #[] }]
def about1 : State := aboutOver below0
def p0 : Program := .bare "" "" ""
def e0 : Env := launch0.env 0 0 0
theorem w_frames : about1.frames = Frame.invoking theMethod args0 :: below0 := rfl
set_option maxRecDepth 65536 in
theorem w_args : argsFit about1.vm theMethod args0 = true := by decide +kernel
set_option maxRecDepth 65536 in
theorem w_heap : heapFits about1 = true := by decide +kernel
set_option maxRecDepth 65536 in
theorem w_runnable : about1.curStatus? = some .runnable := by decide +kernel
set_option maxRecDepth 65536 in
theorem w_alone : about1.alone = true := by decide +kernel
set_option maxRecDepth 65536 in
theorem w_named : about1.methodNamed? x = some theMethod := by decide +kernel
set_option maxRecDepth 65536 in
theorem w_hears : about1.hears theMethod below0 = true := by decide +kernel
set_option maxRecDepth 65536 in
theorem w_ripe : about1.ripe theMethod args0 below0 = true := by decide +kernel
theorem w_running : about1.status = .running := rfl
set_option maxRecDepth 65536 in
theorem w_room : about1.hasRoom e0.platform room_1 = true :=
  launch0.hasRoom_least _ room_1 (by decide +kernel) (by decide +kernel) (by decide +kernel) (by decide +kernel) (by decide +kernel) (by decide +kernel)
theorem allAtoms_all (ts : List Jvm.Cond) (a : Array Jvm.Value) (st : Jvm.State) : (allAtoms ts).before a st = ts.all (fun c => c.before a st) := by
  induction ts with
  | nil => rfl
  | cons c t ih =>
    show (Jvm.Cond.and c (allAtoms t)).before a st = _
    rw [Jvm.Cond.before_and, ih, List.all_cons]
def words1 : List Jvm.Cond := Jvm.Cond.code x code maxLocals ret :: tables_1
/-- a 'code' word, met by the world's own term for the bytes: nothing is compared byte by byte -/
theorem code_word {y : MethodName} {bytes : ByteArray} {mx : Nat} {rt : Option FieldType} {a : Array Value} {s : State} {m : MethodId} {meth : Method} {c : Code} (h1 : s.methodNamed? y = some m) (h2 : s.vm.method? m = some meth) (h3 : meth.code = some c) (h4 : c.code = bytes)
    (h5 : (c.maxLocals == mx && c.exceptionTable.isEmpty && decide (c.maxStack ≤ mostOperands) && decide (meth.sig.returnType = rt) && !meth.locks && decide (parseMethodDescriptor y.desc = some meth.sig)) = true) : (Jvm.Cond.code y bytes mx rt).before a s = true := by
  simp only [Bool.and_eq_true, beq_iff_eq, Bool.not_eq_true', decide_eq_true_eq] at h5
  obtain ⟨⟨⟨⟨⟨g1, g2⟩, g3⟩, g4⟩, g5⟩, g6⟩ := h5
  simp [Cond.before, Cond.holds, Cond.value, h1, h2, h3, h4, g1, g2, g3, g4, g5, g6]
def isCode : Jvm.Cond → Bool
  | .code _ _ _ _ => true
  | _ => false
theorem all_split {L : List Jvm.Cond} {P : Jvm.Cond → Bool} (h1 : L.all (fun c => isCode c || P c) = true) (h2 : ∀ c ∈ L.filter isCode, P c = true) : L.all P = true := by
  refine List.all_eq_true.mpr fun c hc => ?_
  have h := List.all_eq_true.mp h1 c hc
  rcases Bool.eq_false_or_eq_true (isCode c) with hi | hi
  · exact h2 c (List.mem_filter.mpr ⟨hc, hi⟩)
  · simpa [hi] using h
set_option maxRecDepth 65536 in
theorem w_c0 : (Jvm.Cond.code x code maxLocals ret).before args0 about1 = true := code_word (m := ⟨1, 3⟩) (meth := k1m3) (c := k1c3) (by decide +kernel) rfl rfl rfl (by decide +kernel)
set_option maxRecDepth 65536 in
theorem w_c1 : (Jvm.Cond.code ({ cls := "com/example/vestwork/vestwork/actuarial/XmlBytesLineEndsPinLaw", name := "draw", desc := "(I)B" } : Jvm.MethodName) method_2_code (2 : Nat) (Option.some Jvm.ClassFile.FieldType.byte)).before args0 about1 = true := code_word (m := ⟨1, 1⟩) (meth := k1m1) (c := k1c1) (by decide +kernel) rfl rfl rfl (by decide +kernel)
set_option maxRecDepth 65536 in
theorem w_c2 : (Jvm.Cond.code ({ cls := "com/example/vestwork/vestwork/actuarial/XmlBytes", name := "lineEnds", desc := "([BII)J" } : Jvm.MethodName) prog_13_method_3_code (7 : Nat) (Option.some Jvm.ClassFile.FieldType.long)).before args0 about1 = true := code_word (m := ⟨2, 1⟩) (meth := k2m1) (c := k2c1) (by decide +kernel) rfl rfl rfl (by decide +kernel)
set_option maxRecDepth 65536 in
theorem w_c3 : (Jvm.Cond.code ({ cls := "com/example/vestwork/vestwork/actuarial/XmlBytesLineEndsPinLaw", name := "at", desc := "([BIII)J" } : Jvm.MethodName) method_3_code (6 : Nat) (Option.some Jvm.ClassFile.FieldType.long)).before args0 about1 = true := code_word (m := ⟨1, 2⟩) (meth := k1m2) (c := k1c2) (by decide +kernel) rfl rfl rfl (by decide +kernel)
def codes1 : List Jvm.Cond := [Jvm.Cond.code x code maxLocals ret, Jvm.Cond.code ({ cls := "com/example/vestwork/vestwork/actuarial/XmlBytesLineEndsPinLaw", name := "draw", desc := "(I)B" } : Jvm.MethodName) method_2_code (2 : Nat) (Option.some Jvm.ClassFile.FieldType.byte), Jvm.Cond.code ({ cls := "com/example/vestwork/vestwork/actuarial/XmlBytes", name := "lineEnds", desc := "([BII)J" } : Jvm.MethodName) prog_13_method_3_code (7 : Nat) (Option.some Jvm.ClassFile.FieldType.long), Jvm.Cond.code ({ cls := "com/example/vestwork/vestwork/actuarial/XmlBytesLineEndsPinLaw", name := "at", desc := "([BIII)J" } : Jvm.MethodName) method_3_code (6 : Nat) (Option.some Jvm.ClassFile.FieldType.long)]
set_option maxRecDepth 65536 in
theorem codes_eq : words1.filter isCode = codes1 := rfl
theorem w_codes : ∀ c ∈ words1.filter isCode, c.before args0 about1 = true := by
  rw [codes_eq]
  intro c hc
  simp only [codes1, List.mem_cons, List.not_mem_nil, or_false] at hc
  rcases hc with rfl | rfl | rfl | rfl
  · exact w_c0
  · exact w_c1
  · exact w_c2
  · exact w_c3
set_option maxRecDepth 65536 in
theorem w_t1 : words1.all (fun c => isCode c || c.before args0 about1) = true := by decide +kernel
theorem w_tables : (allAtoms (Jvm.Cond.code x code maxLocals ret :: tables_1)).before args0 about1 = true := by
  rw [allAtoms_all]
  show words1.all (fun c => c.before args0 about1) = true
  refine all_split ?_ w_codes
  rw [w_t1]
set_option maxRecDepth 65536 in
theorem w_case : (Jvm.Cond.and given_1 narrow_1).before args0 about1 = true := by decide +kernel
theorem w_applies : (headSpec (Jvm.Cond.code x code maxLocals ret :: tables_1) room_1).applies x e0.platform about1 = true :=
  (Spec.applies_iff w_frames).mpr ⟨w_running, w_runnable, w_alone, w_named, w_hears, w_ripe, w_room, w_tables⟩
theorem atStart : AtStart classFile x code maxLocals ret World_1 tables_1 room_1 Calls_1 rest_1 Pre_1 launch0 p0 e0 about1 theMethod args0 below0 :=
  ⟨lists_1, trivial, launch0.admits_env _ _ _, launch0.least_env, fairChoices_fair.cas, fairChoices_fair.clock, w_frames, w_args, w_heap, w_applies, trivial, trivial, w_case⟩
end start1
theorem witness_1 : WitnessClaimed_1 := ⟨start1.p0, start1.e0, start1.about1, start1.theMethod, start1.args0, start1.below0, start1.atStart⟩
end Jvm.Pilot.@@N@@
