import JvmDerived
import JvmDerived.Pilot.@@N@@Statement
import JvmDerived.Pilot.@@N@@Code
set_option linter.unusedVariables false
set_option linter.unusedSimpArgs false
namespace Jvm.Pilot.@@N@@
open Jvm Jvm.ClassFile Sem Op Lib Jvm.Free Jvm.Stand Jvm.LawKit Jvm.RoadKit Bundle Jvm.Pilot.@@N@@.Jvm.D
/-! own walk layer: a world of fresh cells, and one lemma per instruction in continuation form -/
abbrev Desc : Type := Cell → Prop
abbrev Wd : Type := List (Addr × Desc)
/-- the heap h holds h0 unchanged and, besides, the described cells (all of them younger than h0) -/
def Wld (h0 : Heap) (ds : Wd) (h : Heap) : Prop :=
  h0.size ≤ h.size ∧ (∀ (a : Addr) (c : Cell), h0[a]? = some c → h[a]? = some c) ∧ (ds.map Prod.fst).Nodup ∧ ∀ (i : Nat) (a : Addr) (d : Desc), ds[i]? = some (a, d) → h0.size ≤ a ∧ ∃ c : Cell, h[a]? = some c ∧ d c
def Ends (tb : Tables) (e : Env) (below : List Frame) (A : State) (G : Outcome → State → Prop) : Prop := ∃ t o, Steps tb e below A t ∧ t.status = .running ∧ Ended t below o ∧ G o t
/-- the fixed surroundings of a walk -/
def Cx (p : Program) (s : State) (m : MethodId) (meth : Method) (c : Code) (Z : State) (a0 : Array Value) (own : String) (bytes : ByteArray) (ml : Nat) (rt : Option FieldType) (nm : String) : Prop :=
  p.tables.exec = Jvm.exec ∧ Z.Warmed39 s.vm ∧ (∀ d ∈ tables_1, d.before a0 Z = true) ∧ c.code = bytes ∧ c.maxLocals = ml ∧ s.vm.findClass own = some m.cls ∧ meth.sig.returnType = rt ∧ meth.locks = false ∧ meth.name = nm
/-- from pc with these locals and this stack the body comes back, and Q holds of what it returns and of the world that it leaves -/
def Go (p : Program) (l : Launch) (e : Env) (R : Room) (s : State) (m : MethodId) (args : Array Value) (below : List Frame) (meth : Method) (c : Code) (h0 : Heap) (Q : Option Value → Wd → Prop) (ds : Wd) (k n pc : Nat) (Ls : Array Slot) (St : List Value) : Prop :=
  ∀ T locs, Stand p l e R s m args below meth c T locs k n → Wld h0 ds T.heap → Fr h0.size locs →
    Ends p.tables e below (T.setTop (mkF m pc Ls St)) (fun o t => ∃ v L, o = .returned v ∧ (∃ ds', Q v ds' ∧ Wld h0 ds' t.heap ∧ Fr h0.size L) ∧ FrameEnd s o t L R.cells R.slots)
/-- a body's contract -/
def Con (l : Launch) (Z : State) (y : MethodName) (bytes : ByteArray) (ml : Nat) (rt : Option FieldType) (rm : Room) (h0 : Heap) (as' : Array Value) (ds : Wd) (Q : Option Value → Wd → Prop) : Prop :=
  ∀ h, Wld h0 ds h → ∀ ws, MetFree l y (head1 (Jvm.Cond.code y bytes ml rt :: ws) rm) (fun a U => a = as' ∧ Z.Warmed39 U.vm ∧ U.heap = h) (fun _ _ _ _ _ => True)
    (fun _ U o U' => ∃ v L, o = .returned v ∧ (∃ ds', Q v ds' ∧ Wld h0 ds' U'.heap ∧ Fr h0.size L) ∧ FrameEnd U o U' L rm.cells rm.slots)
/-- an array's cell -/
def IA (Z : State) (ty : FieldType) (vs : List Value) : Desc := fun c => Z.isArrayOf c ty ∧ c.vm ≠ .unknown ∧ c.slots.toList = vs
abbrev ints (xs : List Int32) : List Value := xs.map Value.int
/-- a field: the class that declares it, name, descriptor, value -/
abbrev Fv : Type := String × String × String × Value
def fldC (Z : State) (c : Cell) (x : Fv) : Prop := ∃ (cf : ClassId) (k : Class) (i : Nat) (f : Field), Z.fieldFound? x.1 x.2.1 x.2.2.1 = some (cf, k, i, f) ∧ f.isStatic = false ∧ c.vm ≠ .unknown ∧ c.vm.isStatics = false ∧ Z.vm.assignable c.cls cf = true ∧ c.slots[f.slot]? = some x.2.2.2
def OB (Z : State) (a0 : Array Value) (C : String) (fs : List Fv) : Desc := fun c =>
  (∃ k : Class, Z.vm.findClass C = some c.cls ∧ Z.vm.classes[c.cls]? = some k ∧ c.vm.isStatics = false ∧ (k.kind = .ordinary → c.slots.size = k.instanceTypes.size)) ∧
  (∀ x ∈ fs, fldC Z c x ∧ Laid Z a0 C x.1 x.2.1 x.2.2.1 ∧ ∃ t, parseFieldDescriptor x.2.2.1 = some t)
section Own
variable {p : Program} {l : Launch} {e : Env} {R : Room} {s : State} {m : MethodId} {args : Array Value} {below : List Frame} {meth : Method} {c : Code} {Z : State} {a0 : Array Value} {h0 h h' : Heap} {Q : Option Value → Wd → Prop} {ds ds' : Wd} {k n pc : Nat} {Ls Ls' : Array Slot} {St : List Value} {own : String} {bytes : ByteArray} {ml : Nat} {rt : Option FieldType} {nm : String}
theorem Ends.pre {tb : Tables} {A B : State} {G : Outcome → State → Prop} (H : ∀ t, Steps tb e below B t → Steps tb e below A t) (K : Ends tb e below B G) : Ends tb e below A G := by
  obtain ⟨t, o, h1, h2⟩ := K; exact ⟨t, o, H t h1, h2⟩
theorem Wld.nil (h0 : Heap) : Wld h0 [] h0 := ⟨Nat.le_refl _, fun _ _ q => q, List.nodup_nil, fun i a d q => by simp at q⟩
theorem Wld.extOf (W : Wld h0 ds h) : Ext h0 h := ⟨W.1, W.2.1⟩
theorem Wld.at {i : Nat} {a : Addr} {d : Desc} (W : Wld h0 ds h) (hi : ds[i]? = some (a, d)) : h0.size ≤ a ∧ ∃ c : Cell, h[a]? = some c ∧ d c := W.2.2.2 i a d hi
theorem nodup_inj {α : Type} {L : List α} (h : L.Nodup) {i j : Nat} (hi : i < L.length) (hj : j < L.length) (e : L[i] = L[j]) : i = j := by
  rcases Nat.lt_trichotomy i j with q | q | q
  · exact absurd e (List.pairwise_iff_getElem.mp h i j hi hj q)
  · exact q
  · exact absurd e.symm (List.pairwise_iff_getElem.mp h j i hj hi q)
theorem Wld.ne {i j : Nat} {a b : Addr} {d d' : Desc} (W : Wld h0 ds h) (hi : ds[i]? = some (a, d)) (hj : ds[j]? = some (b, d')) (hij : i ≠ j) : a ≠ b := by
  intro e
  obtain ⟨h1, e1⟩ := List.getElem?_eq_some_iff.mp hi
  obtain ⟨h2, e2⟩ := List.getElem?_eq_some_iff.mp hj
  have l1 : i < (ds.map Prod.fst).length := by simpa using h1
  have l2 : j < (ds.map Prod.fst).length := by simpa using h2
  have g : (ds.map Prod.fst)[i] = (ds.map Prod.fst)[j] := by simp [e1, e2, e]
  exact hij (nodup_inj W.2.2.1 l1 l2 g)
theorem Wld.wr {i : Nat} {a : Addr} {d d' : Desc} {sl : Nat} {v : Value} (W : Wld h0 ds h) (hi : ds[i]? = some (a, d)) (wr : Wr h h' a sl v) (hd : ∀ c, h[a]? = some c → sl < c.slots.size → d c → d' (c.setSlot sl v)) : Wld h0 (ds.set i (a, d')) h' := by
  obtain ⟨ha, c, hc, dc⟩ := W.at hi
  obtain ⟨c0, hc0, -, hsl, -⟩ := id wr
  cases hc.symm.trans hc0
  refine ⟨by rw [wr.size]; exact W.1, fun b cb hb => ?_, ?_, ?_⟩
  · have hbl : b < h0.size := (Array.getElem?_eq_some_iff.mp hb).1
    obtain ⟨c', e1, -, -, -, e5, -⟩ := wr_at wr (W.2.1 b cb hb)
    rw [← e5 (fun q => Nat.not_lt.mpr ha (q ▸ hbl))]; exact e1
  · have q : (ds.set i (a, d')).map Prod.fst = ds.map Prod.fst := by
      rw [List.map_set]
      obtain ⟨l1, e1⟩ := List.getElem?_eq_some_iff.mp hi
      apply List.ext_getElem?
      intro j
      rw [List.getElem?_set]
      split
      · rename_i hj; subst hj; simp [l1, e1]
      · rfl
    rw [q]; exact W.2.2.1
  · intro j b db hj
    rw [List.getElem?_set] at hj
    split at hj
    · rename_i hij
      subst hij
      obtain ⟨l1, e1⟩ := List.getElem?_eq_some_iff.mp hi
      simp only [l1, if_true, Option.some.injEq, Prod.mk.injEq] at hj
      obtain ⟨rfl, rfl⟩ := hj
      obtain ⟨c', e1, -, -, -, -, -, e7⟩ := wr_at wr hc
      exact ⟨ha, c', e1, by rw [(e7 rfl).1]; exact hd c hc hsl dc⟩
    · rename_i hij
      obtain ⟨hb, cb, hcb, dcb⟩ := W.at hj
      have hne : b ≠ a := fun e => W.ne hi hj hij e.symm
      obtain ⟨c', e1, -, -, -, e5, -⟩ := wr_at wr hcb
      exact ⟨hb, cb, by rw [← e5 hne]; exact e1, dcb⟩
theorem Wld.new {d : Desc} (W : Wld h0 ds h) (E : Ext h h') {c : Cell} (hc : h'[h.size]? = some c) (dc : d c) : Wld h0 (ds ++ [(h.size, d)]) h' := by
  refine ⟨Nat.le_trans W.1 E.1, fun a c q => E.2 _ _ (W.2.1 a c q), ?_, ?_⟩
  · rw [List.map_append, List.nodup_append]
    refine ⟨W.2.2.1, by simp, ?_⟩
    intro a ha b hb
    simp only [List.map_cons, List.map_nil, List.mem_singleton] at hb
    subst hb
    obtain ⟨⟨x, dx⟩, hx, rfl⟩ := List.mem_map.mp ha
    obtain ⟨i, hi⟩ := List.getElem?_of_mem hx
    obtain ⟨-, cc, hcc, -⟩ := W.at hi
    exact Nat.ne_of_lt (Array.getElem?_eq_some_iff.mp hcc).1
  · intro i a dd hi
    rw [List.getElem?_append] at hi
    split at hi
    · obtain ⟨h1, cc, h2, h3⟩ := W.at hi
      exact ⟨h1, cc, E.2 _ _ h2, h3⟩
    · rename_i hlt
      rw [List.getElem?_singleton] at hi
      split at hi
      · cases hi; exact ⟨W.1, c, hc, dc⟩
      · cases hi
theorem OB.exa {C : String} {fs : List Fv} {a : Addr} {cl : Cell} (hc : h[a]? = some cl) (O : OB Z a0 C fs cl) : Exa Z h a C := by
  obtain ⟨⟨k, h1, h2, h3, h4⟩, -⟩ := O; exact ⟨cl, k, hc, h1, h2, h3, h4⟩
theorem OB.fld {C O n d : String} {v : Value} {fs : List Fv} {a : Addr} {cl : Cell} (hc : h[a]? = some cl) (Ob : OB Z a0 C fs cl) (hx : (O, n, d, v) ∈ fs) : Fld Z h a O n d v := by
  obtain ⟨⟨cf, k, i, f, h1, h2, h3, h4, h5, h6⟩, -⟩ := Ob.2 _ hx
  exact ⟨cl, cf, k, i, f, hc, h1, h2, h3, h4, h5, h6⟩
theorem OB.of {C : String} {fs : List Fv} {a : Addr} (E : Exa Z h a C) {cl : Cell} (hc : h[a]? = some cl) (F : ∀ x ∈ fs, Fld Z h a x.1 x.2.1 x.2.2.1 x.2.2.2 ∧ Laid Z a0 C x.1 x.2.1 x.2.2.1 ∧ ∃ t, parseFieldDescriptor x.2.2.1 = some t) : OB Z a0 C fs cl := by
  obtain ⟨cell, k, h1, h2, h3, h4, h5⟩ := E
  cases hc.symm.trans h1
  refine ⟨⟨k, h2, h3, h4, h5⟩, fun x hx => ?_⟩
  obtain ⟨⟨cell, cf, k, i, f, g1, g2⟩, L, t⟩ := F x hx
  cases hc.symm.trans g1
  exact ⟨⟨cf, k, i, f, g2⟩, L, t⟩

/-! entering and leaving -/
theorem con_of {y : MethodName} {rm : Room} {as' : Array Value} (hpl : plainFor y = true) (hw : ∀ d ∈ tables_1, d.before a0 Z = true) (hef : ∀ m, entryFrame m as' ml = mkF m 0 Ls [])
    (H : ∀ (p : Program) (e : Env) (s : State) (m : MethodId) (below : List Frame) (meth : Method) (c : Code), Cx p s m meth c Z a0 y.cls bytes ml rt y.name → Go p l e rm s m as' below meth c h0 Q ds 0 0 0 Ls []) : Con l Z y bytes ml rt rm h0 as' ds Q := by
  intro h W ws
  refine MetFree.of_bodySF hpl hisR ?_
  intro p e s m args below meth c s₁ Bd hml0 hP hK
  obtain ⟨rfl, hZ, hh⟩ := hP
  have hx := Bd.exec
  have hown := findClass_of_methodNamed Bd.named
  have hnm := (name_of_methodNamed Bd.named Bd.method).1
  have X0 : Stand p l e rm s m args below meth c s₁ [] 0 0 := Stand.of_body Bd
  have e0 : s₁.heap = h := by rw [← hh, Bd.state]; rfl
  have C : Cx p s m meth c Z a0 y.cls bytes ml rt y.name := ⟨hx, hZ, hw, Bd.bytes, hml0, hown, Bd.returns, Bd.notSynchronized, hnm⟩
  obtain ⟨t, o, h1, h2, h3, h4⟩ := H p e s m below meth c C s₁ [] X0 (by rw [e0]; exact W) (Fr.nil _)
  exact ⟨t, o, castTop (hef m) h1, h2, h3, h4⟩
theorem Ends.out (C : Cx p s m meth c Z a0 own bytes ml rt nm) {T : State} {locs : List Loc} {g : JFrame} (X : Stand p l e R s m args below meth c T locs k n) (W : Wld h0 ds T.heap) (N : Fr h0.size locs) (hk : k ≤ R.cells) (hn : n ≤ R.slots) {v : Option Value} (hv : rt = none → v = none) (q : Q v ds)
    (H : ∀ fs, (∀ (f : JFrame) (acts : List Action), f.method = m → f.locked = none → f.entered = [] → (doReturn e (T.setTop f) acts v).1 = T.setFrames fs) → Steps p.tables e below (T.setTop g) (T.setFrames fs)) :
    Ends p.tables e below (T.setTop g) (fun o t => ∃ v L, o = .returned v ∧ (∃ ds', Q v ds' ∧ Wld h0 ds' t.heap ∧ Fr h0.size L) ∧ FrameEnd s o t L R.cells R.slots) := by
  obtain ⟨hx, hZ, hw, hby, hml, hown, hret, hlk, hnm⟩ := C
  obtain ⟨fs, hr, hrun, hended, hW, hsame⟩ := X.leave (v := v) (fun h => hv (hret.symm.trans h)) hlk
  exact ⟨_, _, H fs hr, hrun, hended, v, locs, rfl, ⟨ds, q, W, N⟩, ⟨_, rfl⟩, hW, hsame.mono hk hn⟩
theorem g_ret (C : Cx p s m meth c Z a0 own bytes ml none nm) (hd : decode bytes pc = .ok (.return_, 1)) (hk : k ≤ R.cells) (hn : n ≤ R.slots) (q : Q none ds) : Go p l e R s m args below meth c h0 Q ds k n pc Ls [] := fun T locs X W N =>
  Ends.out C X W N hk hn (fun _ => rfl) q fun fs hr => X.returnOut C.1 C.2.2.2.2.2.2.1 (hb C.2.2.2.1 hd) hr
theorem g_iret (C : Cx p s m meth c Z a0 own bytes ml (some .int) nm) {z : Int32} (hd : decode bytes pc = .ok (.ireturn, 1)) (hk : k ≤ R.cells) (hn : n ≤ R.slots) (q : Q (some (.int z)) ds) : Go p l e R s m args below meth c h0 Q ds k n pc Ls (.int z :: St) := fun T locs X W N =>
  Ends.out C X W N hk hn (fun h => nomatch h) q fun fs hr => retOut X C.1 C.2.2.2.2.2.2.1 rfl (Or.inl ⟨rfl, Or.inl rfl, z, rfl⟩) (hb C.2.2.2.1 hd) hr
theorem g_nret {t : FieldType} (C : Cx p s m meth c Z a0 own bytes ml (some t) nm) (ht : t = .boolean ∨ t = .byte ∨ t = .char ∨ t = .short) {z z' : Int32} (hz : nar t z = z') (hd : decode bytes pc = .ok (.ireturn, 1)) (hk : k ≤ R.cells) (hn : n ≤ R.slots) (q : Q (some (.int z')) ds) : Go p l e R s m args below meth c h0 Q ds k n pc Ls (.int z :: St) := fun T locs X W N => by
  subst hz
  exact Ends.out C X W N hk hn (fun h => nomatch h) q fun fs hr => retN X C.1 C.2.2.2.2.2.2.1 ht (hb C.2.2.2.1 hd) hr
theorem g_lret (C : Cx p s m meth c Z a0 own bytes ml (some .long) nm) {z : Int64} (hd : decode bytes pc = .ok (.lreturn, 1)) (hk : k ≤ R.cells) (hn : n ≤ R.slots) (q : Q (some (.long z)) ds) : Go p l e R s m args below meth c h0 Q ds k n pc Ls (.long z :: St) := fun T locs X W N =>
  Ends.out C X W N hk hn (fun h => nomatch h) q fun fs hr => retOut X C.1 C.2.2.2.2.2.2.1 rfl (Or.inr (Or.inl ⟨rfl, rfl, z, rfl⟩)) (hb C.2.2.2.1 hd) hr
theorem g_dret (C : Cx p s m meth c Z a0 own bytes ml (some .double) nm) {z : UInt64} (hd : decode bytes pc = .ok (.dreturn, 1)) (hk : k ≤ R.cells) (hn : n ≤ R.slots) (q : Q (some (.double z)) ds) : Go p l e R s m args below meth c h0 Q ds k n pc Ls (.double z :: St) := fun T locs X W N =>
  Ends.out C X W N hk hn (fun h => nomatch h) q fun fs hr => retOut X C.1 C.2.2.2.2.2.2.1 rfl (Or.inr (Or.inr (Or.inl ⟨rfl, rfl, z, rfl⟩))) (hb C.2.2.2.1 hd) hr
theorem g_aret {t : FieldType} (C : Cx p s m meth c Z a0 own bytes ml (some t) nm) (ht : t.isReference = true) {v : Value} (hv : v.isRef = true) (hnr : narrow t v = v) (hd : decode bytes pc = .ok (.areturn, 1)) (hk : k ≤ R.cells) (hn : n ≤ R.slots) (q : Q (some v) ds) : Go p l e R s m args below meth c h0 Q ds k n pc Ls (v :: St) := fun T locs X W N =>
  Ends.out C X W N hk hn (fun h => nomatch h) q fun fs hr => retOut X C.1 C.2.2.2.2.2.2.1 hnr (Or.inr (Or.inr (Or.inr (Or.inr ⟨rfl, ht, hv⟩)))) (hb C.2.2.2.1 hd) hr
theorem Go.pure {pc' : Nat} {St' : List Value} (H : ∀ T locs, Stand p l e R s m args below meth c T locs k n → ∀ target, Steps p.tables e below (T.setTop (mkF m pc' Ls' St')) target → Steps p.tables e below (T.setTop (mkF m pc Ls St)) target)
    (K : Go p l e R s m args below meth c h0 Q ds k n pc' Ls' St') : Go p l e R s m args below meth c h0 Q ds k n pc Ls St := fun T locs X W N => (K T locs X W N).pre (H T locs X)
/-- the world may be spoken of otherwise -/
theorem Go.weak {Q' : Option Value → Wd → Prop} (K : Go p l e R s m args below meth c h0 Q' ds k n pc Ls St) (H : ∀ v ds', Q' v ds' → Q v ds') : Go p l e R s m args below meth c h0 Q ds k n pc Ls St := fun T locs X W N => by
  obtain ⟨t, o, h1, h2, h3, v, L, h4, ⟨ds', h5, h6⟩, h7⟩ := K T locs X W N
  exact ⟨t, o, h1, h2, h3, v, L, h4, ⟨ds', H _ _ h5, h6⟩, h7⟩
/-! plain steps -/
theorem g_iadd (C : Cx p s m meth c Z a0 own bytes ml rt nm) (pc' : Nat) {x y : Int32} (hd : decode bytes pc = .ok (.iadd, 1)) (hp : pc + 1 = pc') (K : Go p l e R s m args below meth c h0 Q ds k n pc' Ls (.int (x + y) :: St)) : Go p l e R s m args below meth c h0 Q ds k n pc Ls (.int y :: .int x :: St) := by
  subst hp
  exact K.pure fun T locs X target h => XS.iadd X.here C.1 rfl (hb C.2.2.2.1 hd) rfl h
theorem g_isub (C : Cx p s m meth c Z a0 own bytes ml rt nm) (pc' : Nat) {x y : Int32} (hd : decode bytes pc = .ok (.isub, 1)) (hp : pc + 1 = pc') (K : Go p l e R s m args below meth c h0 Q ds k n pc' Ls (.int (x - y) :: St)) : Go p l e R s m args below meth c h0 Q ds k n pc Ls (.int y :: .int x :: St) := by
  subst hp
  exact K.pure fun T locs X target h => XS.isub X.here C.1 rfl (hb C.2.2.2.1 hd) rfl h
theorem g_imul (C : Cx p s m meth c Z a0 own bytes ml rt nm) (pc' : Nat) {x y : Int32} (hd : decode bytes pc = .ok (.imul, 1)) (hp : pc + 1 = pc') (K : Go p l e R s m args below meth c h0 Q ds k n pc' Ls (.int (x * y) :: St)) : Go p l e R s m args below meth c h0 Q ds k n pc Ls (.int y :: .int x :: St) := by
  subst hp
  exact K.pure fun T locs X target h => XS.imul X.here C.1 rfl (hb C.2.2.2.1 hd) rfl h
theorem g_iand (C : Cx p s m meth c Z a0 own bytes ml rt nm) (pc' : Nat) {x y : Int32} (hd : decode bytes pc = .ok (.iand, 1)) (hp : pc + 1 = pc') (K : Go p l e R s m args below meth c h0 Q ds k n pc' Ls (.int (x &&& y) :: St)) : Go p l e R s m args below meth c h0 Q ds k n pc Ls (.int y :: .int x :: St) := by
  subst hp
  exact K.pure fun T locs X target h => XS.iand X.here C.1 rfl (hb C.2.2.2.1 hd) rfl h
theorem g_ior (C : Cx p s m meth c Z a0 own bytes ml rt nm) (pc' : Nat) {x y : Int32} (hd : decode bytes pc = .ok (.ior, 1)) (hp : pc + 1 = pc') (K : Go p l e R s m args below meth c h0 Q ds k n pc' Ls (.int (x ||| y) :: St)) : Go p l e R s m args below meth c h0 Q ds k n pc Ls (.int y :: .int x :: St) := by
  subst hp
  exact K.pure fun T locs X target h => XS.ior X.here C.1 rfl (hb C.2.2.2.1 hd) rfl h
theorem g_ixor (C : Cx p s m meth c Z a0 own bytes ml rt nm) (pc' : Nat) {x y : Int32} (hd : decode bytes pc = .ok (.ixor, 1)) (hp : pc + 1 = pc') (K : Go p l e R s m args below meth c h0 Q ds k n pc' Ls (.int (x ^^^ y) :: St)) : Go p l e R s m args below meth c h0 Q ds k n pc Ls (.int y :: .int x :: St) := by
  subst hp
  exact K.pure fun T locs X target h => XS.ixor X.here C.1 rfl (hb C.2.2.2.1 hd) rfl h
theorem g_ishl (C : Cx p s m meth c Z a0 own bytes ml rt nm) (pc' : Nat) {x y : Int32} (hd : decode bytes pc = .ok (.ishl, 1)) (hp : pc + 1 = pc') (K : Go p l e R s m args below meth c h0 Q ds k n pc' Ls (.int (x <<< (y &&& 31)) :: St)) : Go p l e R s m args below meth c h0 Q ds k n pc Ls (.int y :: .int x :: St) := by
  subst hp
  exact K.pure fun T locs X target h => XS.ishl X.here C.1 rfl (hb C.2.2.2.1 hd) rfl h
theorem g_ishr (C : Cx p s m meth c Z a0 own bytes ml rt nm) (pc' : Nat) {x y : Int32} (hd : decode bytes pc = .ok (.ishr, 1)) (hp : pc + 1 = pc') (K : Go p l e R s m args below meth c h0 Q ds k n pc' Ls (.int (x >>> (y &&& 31)) :: St)) : Go p l e R s m args below meth c h0 Q ds k n pc Ls (.int y :: .int x :: St) := by
  subst hp
  exact K.pure fun T locs X target h => XS.ishr X.here C.1 rfl (hb C.2.2.2.1 hd) rfl h
theorem g_iushr (C : Cx p s m meth c Z a0 own bytes ml rt nm) (pc' : Nat) {x y : Int32} (hd : decode bytes pc = .ok (.iushr, 1)) (hp : pc + 1 = pc') (K : Go p l e R s m args below meth c h0 Q ds k n pc' Ls (.int ((x.toUInt32 >>> (y &&& 31).toUInt32).toInt32) :: St)) : Go p l e R s m args below meth c h0 Q ds k n pc Ls (.int y :: .int x :: St) := by
  subst hp
  exact K.pure fun T locs X target h => XS.iushr X.here C.1 rfl (hb C.2.2.2.1 hd) rfl h
theorem g_ladd (C : Cx p s m meth c Z a0 own bytes ml rt nm) (pc' : Nat) {x y : Int64} (hd : decode bytes pc = .ok (.ladd, 1)) (hp : pc + 1 = pc') (K : Go p l e R s m args below meth c h0 Q ds k n pc' Ls (.long (x + y) :: St)) : Go p l e R s m args below meth c h0 Q ds k n pc Ls (.long y :: .long x :: St) := by
  subst hp
  exact K.pure fun T locs X target h => XS.ladd X.here C.1 rfl (hb C.2.2.2.1 hd) rfl h
theorem g_lsub (C : Cx p s m meth c Z a0 own bytes ml rt nm) (pc' : Nat) {x y : Int64} (hd : decode bytes pc = .ok (.lsub, 1)) (hp : pc + 1 = pc') (K : Go p l e R s m args below meth c h0 Q ds k n pc' Ls (.long (x - y) :: St)) : Go p l e R s m args below meth c h0 Q ds k n pc Ls (.long y :: .long x :: St) := by
  subst hp
  exact K.pure fun T locs X target h => XS.lsub X.here C.1 rfl (hb C.2.2.2.1 hd) rfl h
theorem g_lmul (C : Cx p s m meth c Z a0 own bytes ml rt nm) (pc' : Nat) {x y : Int64} (hd : decode bytes pc = .ok (.lmul, 1)) (hp : pc + 1 = pc') (K : Go p l e R s m args below meth c h0 Q ds k n pc' Ls (.long (x * y) :: St)) : Go p l e R s m args below meth c h0 Q ds k n pc Ls (.long y :: .long x :: St) := by
  subst hp
  exact K.pure fun T locs X target h => XS.lmul X.here C.1 rfl (hb C.2.2.2.1 hd) rfl h
theorem g_land (C : Cx p s m meth c Z a0 own bytes ml rt nm) (pc' : Nat) {x y : Int64} (hd : decode bytes pc = .ok (.land, 1)) (hp : pc + 1 = pc') (K : Go p l e R s m args below meth c h0 Q ds k n pc' Ls (.long (x &&& y) :: St)) : Go p l e R s m args below meth c h0 Q ds k n pc Ls (.long y :: .long x :: St) := by
  subst hp
  exact K.pure fun T locs X target h => XS.land X.here C.1 rfl (hb C.2.2.2.1 hd) rfl h
theorem g_lor (C : Cx p s m meth c Z a0 own bytes ml rt nm) (pc' : Nat) {x y : Int64} (hd : decode bytes pc = .ok (.lor, 1)) (hp : pc + 1 = pc') (K : Go p l e R s m args below meth c h0 Q ds k n pc' Ls (.long (x ||| y) :: St)) : Go p l e R s m args below meth c h0 Q ds k n pc Ls (.long y :: .long x :: St) := by
  subst hp
  exact K.pure fun T locs X target h => XS.lor X.here C.1 rfl (hb C.2.2.2.1 hd) rfl h
theorem g_lxor (C : Cx p s m meth c Z a0 own bytes ml rt nm) (pc' : Nat) {x y : Int64} (hd : decode bytes pc = .ok (.lxor, 1)) (hp : pc + 1 = pc') (K : Go p l e R s m args below meth c h0 Q ds k n pc' Ls (.long (x ^^^ y) :: St)) : Go p l e R s m args below meth c h0 Q ds k n pc Ls (.long y :: .long x :: St) := by
  subst hp
  exact K.pure fun T locs X target h => XS.lxor X.here C.1 rfl (hb C.2.2.2.1 hd) rfl h
theorem g_lshl (C : Cx p s m meth c Z a0 own bytes ml rt nm) (pc' : Nat) {x : Int64} {y : Int32} (hd : decode bytes pc = .ok (.lshl, 1)) (hp : pc + 1 = pc') (K : Go p l e R s m args below meth c h0 Q ds k n pc' Ls (.long (x <<< (y &&& 0x3f).toInt64) :: St)) : Go p l e R s m args below meth c h0 Q ds k n pc Ls (.int y :: .long x :: St) := by
  subst hp
  exact K.pure fun T locs X target h => XS.lshl X.here C.1 rfl (hb C.2.2.2.1 hd) rfl h
theorem g_lshr (C : Cx p s m meth c Z a0 own bytes ml rt nm) (pc' : Nat) {x : Int64} {y : Int32} (hd : decode bytes pc = .ok (.lshr, 1)) (hp : pc + 1 = pc') (K : Go p l e R s m args below meth c h0 Q ds k n pc' Ls (.long (x >>> (y &&& 0x3f).toInt64) :: St)) : Go p l e R s m args below meth c h0 Q ds k n pc Ls (.int y :: .long x :: St) := by
  subst hp
  exact K.pure fun T locs X target h => XS.lshr X.here C.1 rfl (hb C.2.2.2.1 hd) rfl h
theorem g_lushr (C : Cx p s m meth c Z a0 own bytes ml rt nm) (pc' : Nat) {x : Int64} {y : Int32} (hd : decode bytes pc = .ok (.lushr, 1)) (hp : pc + 1 = pc') (K : Go p l e R s m args below meth c h0 Q ds k n pc' Ls (.long ((x.toUInt64 >>> (y &&& 0x3f).toInt64.toUInt64).toInt64) :: St)) : Go p l e R s m args below meth c h0 Q ds k n pc Ls (.int y :: .long x :: St) := by
  subst hp
  exact K.pure fun T locs X target h => XS.lushr X.here C.1 rfl (hb C.2.2.2.1 hd) rfl h
theorem g_idiv (C : Cx p s m meth c Z a0 own bytes ml rt nm) (pc' : Nat) {x y : Int32} (hd : decode bytes pc = .ok (.idiv, 1)) (hp : pc + 1 = pc') (hy : y ≠ 0) (K : Go p l e R s m args below meth c h0 Q ds k n pc' Ls (.int (x / y) :: St)) : Go p l e R s m args below meth c h0 Q ds k n pc Ls (.int y :: .int x :: St) := by
  subst hp
  exact K.pure fun T locs X target h => XS.idiv X.here C.1 rfl (hb C.2.2.2.1 hd) rfl hy h
theorem g_irem (C : Cx p s m meth c Z a0 own bytes ml rt nm) (pc' : Nat) {x y : Int32} (hd : decode bytes pc = .ok (.irem, 1)) (hp : pc + 1 = pc') (hy : y ≠ 0) (K : Go p l e R s m args below meth c h0 Q ds k n pc' Ls (.int (x % y) :: St)) : Go p l e R s m args below meth c h0 Q ds k n pc Ls (.int y :: .int x :: St) := by
  subst hp
  exact K.pure fun T locs X target h => iremM X C.1 rfl (hb C.2.2.2.1 hd) rfl hy h
theorem g_ineg (C : Cx p s m meth c Z a0 own bytes ml rt nm) (pc' : Nat) {x : Int32} (hd : decode bytes pc = .ok (.ineg, 1)) (hp : pc + 1 = pc') (K : Go p l e R s m args below meth c h0 Q ds k n pc' Ls (.int (-x) :: St)) : Go p l e R s m args below meth c h0 Q ds k n pc Ls (.int x :: St) := by
  subst hp
  exact K.pure fun T locs X target h => XS.ineg X.here C.1 rfl (hb C.2.2.2.1 hd) rfl h
theorem g_i2b (C : Cx p s m meth c Z a0 own bytes ml rt nm) (pc' : Nat) {x : Int32} (hd : decode bytes pc = .ok (.i2b, 1)) (hp : pc + 1 = pc') (K : Go p l e R s m args below meth c h0 Q ds k n pc' Ls (.int (x.toInt8.toInt32) :: St)) : Go p l e R s m args below meth c h0 Q ds k n pc Ls (.int x :: St) := by
  subst hp
  exact K.pure fun T locs X target h => XS.i2b X.here C.1 rfl (hb C.2.2.2.1 hd) rfl h
theorem g_i2c (C : Cx p s m meth c Z a0 own bytes ml rt nm) (pc' : Nat) {x : Int32} (hd : decode bytes pc = .ok (.i2c, 1)) (hp : pc + 1 = pc') (K : Go p l e R s m args below meth c h0 Q ds k n pc' Ls (.int (x.toUInt32.toUInt16.toUInt32.toInt32) :: St)) : Go p l e R s m args below meth c h0 Q ds k n pc Ls (.int x :: St) := by
  subst hp
  exact K.pure fun T locs X target h => XS.i2c X.here C.1 rfl (hb C.2.2.2.1 hd) rfl h
theorem g_i2s (C : Cx p s m meth c Z a0 own bytes ml rt nm) (pc' : Nat) {x : Int32} (hd : decode bytes pc = .ok (.i2s, 1)) (hp : pc + 1 = pc') (K : Go p l e R s m args below meth c h0 Q ds k n pc' Ls (.int (x.toInt16.toInt32) :: St)) : Go p l e R s m args below meth c h0 Q ds k n pc Ls (.int x :: St) := by
  subst hp
  exact K.pure fun T locs X target h => XS.i2s X.here C.1 rfl (hb C.2.2.2.1 hd) rfl h
theorem g_i2l (C : Cx p s m meth c Z a0 own bytes ml rt nm) (pc' : Nat) {x : Int32} (hd : decode bytes pc = .ok (.i2l, 1)) (hp : pc + 1 = pc') (K : Go p l e R s m args below meth c h0 Q ds k n pc' Ls (.long x.toInt64 :: St)) : Go p l e R s m args below meth c h0 Q ds k n pc Ls (.int x :: St) := by
  subst hp
  exact K.pure fun T locs X target h => XS.i2l X.here C.1 rfl (hb C.2.2.2.1 hd) rfl h
theorem g_l2i (C : Cx p s m meth c Z a0 own bytes ml rt nm) (pc' : Nat) {x : Int64} (hd : decode bytes pc = .ok (.l2i, 1)) (hp : pc + 1 = pc') (K : Go p l e R s m args below meth c h0 Q ds k n pc' Ls (.int x.toInt32 :: St)) : Go p l e R s m args below meth c h0 Q ds k n pc Ls (.long x :: St) := by
  subst hp
  exact K.pure fun T locs X target h => XS.l2i X.here C.1 rfl (hb C.2.2.2.1 hd) rfl h
theorem g_lneg (C : Cx p s m meth c Z a0 own bytes ml rt nm) (pc' : Nat) {x : Int64} (hd : decode bytes pc = .ok (.lneg, 1)) (hp : pc + 1 = pc') (K : Go p l e R s m args below meth c h0 Q ds k n pc' Ls (.long (-x) :: St)) : Go p l e R s m args below meth c h0 Q ds k n pc Ls (.long x :: St) := by
  subst hp
  exact K.pure fun T locs X target h => XS.lneg X.here C.1 rfl (hb C.2.2.2.1 hd) rfl h
theorem g_lcmp (C : Cx p s m meth c Z a0 own bytes ml rt nm) (pc' : Nat) {x y : Int64} (hd : decode bytes pc = .ok (.lcmp, 1)) (hp : pc + 1 = pc') (K : Go p l e R s m args below meth c h0 Q ds k n pc' Ls (.int (lcmpW x y) :: St)) : Go p l e R s m args below meth c h0 Q ds k n pc Ls (.long y :: .long x :: St) := by
  subst hp
  exact K.pure fun T locs X target h => XS.lcmp X.here C.1 rfl (hb C.2.2.2.1 hd) rfl h
theorem g_iconst (C : Cx p s m meth c Z a0 own bytes ml rt nm) (pc' : Nat) (v : Int32) {i : Int} (hd : decode bytes pc = .ok (.iconst i, 1)) (hp : pc + 1 = pc') (hv : Int32.ofInt i = v) (K : Go p l e R s m args below meth c h0 Q ds k n pc' Ls (.int v :: St)) : Go p l e R s m args below meth c h0 Q ds k n pc Ls St := by
  subst hp hv
  exact K.pure fun T locs X target h => XS.iconst X.here C.1 rfl (hb C.2.2.2.1 hd) h
theorem g_bipush (C : Cx p s m meth c Z a0 own bytes ml rt nm) (pc' : Nat) (v : Int32) {i : Int} (hd : decode bytes pc = .ok (.bipush i, 2)) (hp : pc + 2 = pc') (hv : (Int8.ofInt i).toInt32 = v) (K : Go p l e R s m args below meth c h0 Q ds k n pc' Ls (.int v :: St)) : Go p l e R s m args below meth c h0 Q ds k n pc Ls St := by
  subst hp hv
  exact K.pure fun T locs X target h => XS.bipush X.here C.1 rfl (hb C.2.2.2.1 hd) h
theorem g_sipush (C : Cx p s m meth c Z a0 own bytes ml rt nm) (pc' : Nat) (v : Int32) {i : Int} (hd : decode bytes pc = .ok (.sipush i, 3)) (hp : pc + 3 = pc') (hv : (Int16.ofInt i).toInt32 = v) (K : Go p l e R s m args below meth c h0 Q ds k n pc' Ls (.int v :: St)) : Go p l e R s m args below meth c h0 Q ds k n pc Ls St := by
  subst hp hv
  exact K.pure fun T locs X target h => XS.sipush X.here C.1 rfl (hb C.2.2.2.1 hd) h
theorem g_lconst (C : Cx p s m meth c Z a0 own bytes ml rt nm) (pc' : Nat) (v : Int64) {i : Fin 2} (hd : decode bytes pc = .ok (.lconst i, 1)) (hp : pc + 1 = pc') (hv : Int64.ofNat i = v) (K : Go p l e R s m args below meth c h0 Q ds k n pc' Ls (.long v :: St)) : Go p l e R s m args below meth c h0 Q ds k n pc Ls St := by
  subst hp hv
  exact K.pure fun T locs X target h => XS.lconst X.here C.1 rfl (hb C.2.2.2.1 hd) h
theorem g_null (C : Cx p s m meth c Z a0 own bytes ml rt nm) (pc' : Nat) (hd : decode bytes pc = .ok (.aconst_null, 1)) (hp : pc + 1 = pc') (K : Go p l e R s m args below meth c h0 Q ds k n pc' Ls (.null :: St)) : Go p l e R s m args below meth c h0 Q ds k n pc Ls St := by
  subst hp
  exact K.pure fun T locs X target h => XS.aconstNull X.here C.1 rfl (hb C.2.2.2.1 hd) h
theorem g_iloadN (C : Cx p s m meth c Z a0 own bytes ml rt nm) (pc' : Nat) {i : Fin 4} {v : Int32} (hd : decode bytes pc = .ok (.iload_n i, 1)) (hp : pc + 1 = pc') (hl : Ls[i.val]? = some (.val (.int v))) (K : Go p l e R s m args below meth c h0 Q ds k n pc' Ls (.int v :: St)) : Go p l e R s m args below meth c h0 Q ds k n pc Ls St := by
  subst hp
  exact K.pure fun T locs X target h => XS.iloadN X.here C.1 rfl (hb C.2.2.2.1 hd) hl h
theorem g_iload (C : Cx p s m meth c Z a0 own bytes ml rt nm) (pc' : Nat) {i : Nat} {v : Int32} (hd : decode bytes pc = .ok (.iload i, 2)) (hp : pc + 2 = pc') (hl : Ls[i]? = some (.val (.int v))) (K : Go p l e R s m args below meth c h0 Q ds k n pc' Ls (.int v :: St)) : Go p l e R s m args below meth c h0 Q ds k n pc Ls St := by
  subst hp
  exact K.pure fun T locs X target h => XS.iload X.here C.1 rfl (hb C.2.2.2.1 hd) hl h
theorem g_istoreN (C : Cx p s m meth c Z a0 own bytes ml rt nm) (pc' : Nat) {i : Fin 4} {v : Int32} (Ls' : Array Slot) (hd : decode bytes pc = .ok (.istore_n i, 1)) (hp : pc + 1 = pc') (hl : storeLocals Ls i.val (.int v) = some Ls') (K : Go p l e R s m args below meth c h0 Q ds k n pc' Ls' St) : Go p l e R s m args below meth c h0 Q ds k n pc Ls (.int v :: St) := by
  subst hp
  exact K.pure fun T locs X target h => XS.istoreN X.here C.1 rfl (hb C.2.2.2.1 hd) rfl hl h
theorem g_istore (C : Cx p s m meth c Z a0 own bytes ml rt nm) (pc' : Nat) {i : Nat} {v : Int32} (Ls' : Array Slot) (hd : decode bytes pc = .ok (.istore i, 2)) (hp : pc + 2 = pc') (hl : storeLocals Ls i (.int v) = some Ls') (K : Go p l e R s m args below meth c h0 Q ds k n pc' Ls' St) : Go p l e R s m args below meth c h0 Q ds k n pc Ls (.int v :: St) := by
  subst hp
  exact K.pure fun T locs X target h => XS.istore X.here C.1 rfl (hb C.2.2.2.1 hd) rfl hl h
theorem g_lloadN (C : Cx p s m meth c Z a0 own bytes ml rt nm) (pc' : Nat) {i : Fin 4} {v : Int64} (hd : decode bytes pc = .ok (.lload_n i, 1)) (hp : pc + 1 = pc') (hl : Ls[i.val]? = some (.val (.long v))) (K : Go p l e R s m args below meth c h0 Q ds k n pc' Ls (.long v :: St)) : Go p l e R s m args below meth c h0 Q ds k n pc Ls St := by
  subst hp
  exact K.pure fun T locs X target h => XS.lloadN X.here C.1 rfl (hb C.2.2.2.1 hd) hl h
theorem g_lload (C : Cx p s m meth c Z a0 own bytes ml rt nm) (pc' : Nat) {i : Nat} {v : Int64} (hd : decode bytes pc = .ok (.lload i, 2)) (hp : pc + 2 = pc') (hl : Ls[i]? = some (.val (.long v))) (K : Go p l e R s m args below meth c h0 Q ds k n pc' Ls (.long v :: St)) : Go p l e R s m args below meth c h0 Q ds k n pc Ls St := by
  subst hp
  exact K.pure fun T locs X target h => XS.lload X.here C.1 rfl (hb C.2.2.2.1 hd) hl h
theorem g_lstoreN (C : Cx p s m meth c Z a0 own bytes ml rt nm) (pc' : Nat) {i : Fin 4} {v : Int64} (Ls' : Array Slot) (hd : decode bytes pc = .ok (.lstore_n i, 1)) (hp : pc + 1 = pc') (hl : storeLocals Ls i.val (.long v) = some Ls') (K : Go p l e R s m args below meth c h0 Q ds k n pc' Ls' St) : Go p l e R s m args below meth c h0 Q ds k n pc Ls (.long v :: St) := by
  subst hp
  exact K.pure fun T locs X target h => XS.lstoreN X.here C.1 rfl (hb C.2.2.2.1 hd) rfl hl h
theorem g_lstore (C : Cx p s m meth c Z a0 own bytes ml rt nm) (pc' : Nat) {i : Nat} {v : Int64} (Ls' : Array Slot) (hd : decode bytes pc = .ok (.lstore i, 2)) (hp : pc + 2 = pc') (hl : storeLocals Ls i (.long v) = some Ls') (K : Go p l e R s m args below meth c h0 Q ds k n pc' Ls' St) : Go p l e R s m args below meth c h0 Q ds k n pc Ls (.long v :: St) := by
  subst hp
  exact K.pure fun T locs X target h => XS.lstore X.here C.1 rfl (hb C.2.2.2.1 hd) rfl hl h
theorem g_dloadN (C : Cx p s m meth c Z a0 own bytes ml rt nm) (pc' : Nat) {i : Fin 4} {v : UInt64} (hd : decode bytes pc = .ok (.dload_n i, 1)) (hp : pc + 1 = pc') (hl : Ls[i.val]? = some (.val (.double v))) (K : Go p l e R s m args below meth c h0 Q ds k n pc' Ls (.double v :: St)) : Go p l e R s m args below meth c h0 Q ds k n pc Ls St := by
  subst hp
  exact K.pure fun T locs X target h => XS.dloadN X.here C.1 rfl (hb C.2.2.2.1 hd) hl h
theorem g_dload (C : Cx p s m meth c Z a0 own bytes ml rt nm) (pc' : Nat) {i : Nat} {v : UInt64} (hd : decode bytes pc = .ok (.dload i, 2)) (hp : pc + 2 = pc') (hl : Ls[i]? = some (.val (.double v))) (K : Go p l e R s m args below meth c h0 Q ds k n pc' Ls (.double v :: St)) : Go p l e R s m args below meth c h0 Q ds k n pc Ls St := by
  subst hp
  exact K.pure fun T locs X target h => XS.dload X.here C.1 rfl (hb C.2.2.2.1 hd) hl h
theorem g_dstoreN (C : Cx p s m meth c Z a0 own bytes ml rt nm) (pc' : Nat) {i : Fin 4} {v : UInt64} (Ls' : Array Slot) (hd : decode bytes pc = .ok (.dstore_n i, 1)) (hp : pc + 1 = pc') (hl : storeLocals Ls i.val (.double v) = some Ls') (K : Go p l e R s m args below meth c h0 Q ds k n pc' Ls' St) : Go p l e R s m args below meth c h0 Q ds k n pc Ls (.double v :: St) := by
  subst hp
  exact K.pure fun T locs X target h => XS.dstoreN X.here C.1 rfl (hb C.2.2.2.1 hd) rfl hl h
theorem g_dstore (C : Cx p s m meth c Z a0 own bytes ml rt nm) (pc' : Nat) {i : Nat} {v : UInt64} (Ls' : Array Slot) (hd : decode bytes pc = .ok (.dstore i, 2)) (hp : pc + 2 = pc') (hl : storeLocals Ls i (.double v) = some Ls') (K : Go p l e R s m args below meth c h0 Q ds k n pc' Ls' St) : Go p l e R s m args below meth c h0 Q ds k n pc Ls (.double v :: St) := by
  subst hp
  exact K.pure fun T locs X target h => XS.dstore X.here C.1 rfl (hb C.2.2.2.1 hd) rfl hl h
theorem g_aloadN (C : Cx p s m meth c Z a0 own bytes ml rt nm) (pc' : Nat) {i : Fin 4} {v : Value} (hd : decode bytes pc = .ok (.aload_n i, 1)) (hp : pc + 1 = pc') (hl : Ls[i.val]? = some (.val v)) (hv : v.isRef = true) (K : Go p l e R s m args below meth c h0 Q ds k n pc' Ls (v :: St)) : Go p l e R s m args below meth c h0 Q ds k n pc Ls St := by
  subst hp
  exact K.pure fun T locs X target h => XS.aloadN X.here C.1 rfl (hb C.2.2.2.1 hd) hl hv h
theorem g_aload (C : Cx p s m meth c Z a0 own bytes ml rt nm) (pc' : Nat) {i : Nat} {v : Value} (hd : decode bytes pc = .ok (.aload i, 2)) (hp : pc + 2 = pc') (hl : Ls[i]? = some (.val v)) (hv : v.isRef = true) (K : Go p l e R s m args below meth c h0 Q ds k n pc' Ls (v :: St)) : Go p l e R s m args below meth c h0 Q ds k n pc Ls St := by
  subst hp
  exact K.pure fun T locs X target h => XS.aload X.here C.1 rfl (hb C.2.2.2.1 hd) hl hv h
theorem g_astoreN (C : Cx p s m meth c Z a0 own bytes ml rt nm) (pc' : Nat) {i : Fin 4} {v : Value} (Ls' : Array Slot) (hd : decode bytes pc = .ok (.astore_n i, 1)) (hp : pc + 1 = pc') (hv : v.isRef = true) (hl : storeLocals Ls i.val v = some Ls') (K : Go p l e R s m args below meth c h0 Q ds k n pc' Ls' St) : Go p l e R s m args below meth c h0 Q ds k n pc Ls (v :: St) := by
  subst hp
  exact K.pure fun T locs X target h => XS.astoreN X.here C.1 rfl (hb C.2.2.2.1 hd) rfl hv hl h
theorem g_astore (C : Cx p s m meth c Z a0 own bytes ml rt nm) (pc' : Nat) {i : Nat} {v : Value} (Ls' : Array Slot) (hd : decode bytes pc = .ok (.astore i, 2)) (hp : pc + 2 = pc') (hv : v.isRef = true) (hl : storeLocals Ls i v = some Ls') (K : Go p l e R s m args below meth c h0 Q ds k n pc' Ls' St) : Go p l e R s m args below meth c h0 Q ds k n pc Ls (v :: St) := by
  subst hp
  exact K.pure fun T locs X target h => XS.astore X.here C.1 rfl (hb C.2.2.2.1 hd) rfl hv hl h
theorem g_iinc (C : Cx p s m meth c Z a0 own bytes ml rt nm) (pc' : Nat) {i : Nat} {cst : Int} {x : Int32} (z : Int32) (Ls' : Array Slot) (hd : decode bytes pc = .ok (.iinc i cst, 3)) (hp : pc + 3 = pc') (hl : Ls[i]? = some (.val (.int x))) (hz : x + Int32.ofInt cst = z) (hl' : storeLocals Ls i (.int z) = some Ls') (K : Go p l e R s m args below meth c h0 Q ds k n pc' Ls' St) : Go p l e R s m args below meth c h0 Q ds k n pc Ls St := by
  subst hp hz
  exact K.pure fun T locs X target h => XS.iinc X.here C.1 rfl (hb C.2.2.2.1 hd) hl hl' h
theorem g_dup (C : Cx p s m meth c Z a0 own bytes ml rt nm) (pc' : Nat) {v : Value} (hd : decode bytes pc = .ok (.dup, 1)) (hp : pc + 1 = pc') (hv : v.category = 1) (K : Go p l e R s m args below meth c h0 Q ds k n pc' Ls (v :: v :: St)) : Go p l e R s m args below meth c h0 Q ds k n pc Ls (v :: St) := by
  subst hp
  exact K.pure fun T locs X target h => XS.dup X.here C.1 rfl (hb C.2.2.2.1 hd) rfl hv h
theorem g_pop (C : Cx p s m meth c Z a0 own bytes ml rt nm) (pc' : Nat) {v : Value} (hd : decode bytes pc = .ok (.pop, 1)) (hp : pc + 1 = pc') (hv : v.category = 1) (K : Go p l e R s m args below meth c h0 Q ds k n pc' Ls St) : Go p l e R s m args below meth c h0 Q ds k n pc Ls (v :: St) := by
  subst hp
  exact K.pure fun T locs X target h => XS.pop X.here C.1 rfl (hb C.2.2.2.1 hd) rfl hv h
theorem g_dupX1 (C : Cx p s m meth c Z a0 own bytes ml rt nm) (pc' : Nat) {v w : Value} (hd : decode bytes pc = .ok (.dup_x1, 1)) (hp : pc + 1 = pc') (hv : v.category = 1) (hw : w.category = 1) (K : Go p l e R s m args below meth c h0 Q ds k n pc' Ls (v :: w :: v :: St)) : Go p l e R s m args below meth c h0 Q ds k n pc Ls (v :: w :: St) := by
  subst hp
  exact K.pure fun T locs X target h => XS.dupX1 X.here C.1 rfl (hb C.2.2.2.1 hd) rfl hv hw h
theorem g_dup2 (C : Cx p s m meth c Z a0 own bytes ml rt nm) (pc' : Nat) {v w : Value} (hd : decode bytes pc = .ok (.dup2, 1)) (hp : pc + 1 = pc') (hv : v.category = 1) (hw : w.category = 1) (K : Go p l e R s m args below meth c h0 Q ds k n pc' Ls (v :: w :: v :: w :: St)) : Go p l e R s m args below meth c h0 Q ds k n pc Ls (v :: w :: St) := by
  subst hp
  exact K.pure fun T locs X target h => XT.dup2 X.here C.1 rfl (hb C.2.2.2.1 hd) rfl hv hw h
theorem g_goto (C : Cx p s m meth c Z a0 own bytes ml rt nm) (pc' : Nat) {o : Int} (hd : decode bytes pc = .ok (.goto o, 3)) (ho : 0 ≤ (pc : Int) + o) (hp : ((pc : Int) + o).toNat = pc') (K : Go p l e R s m args below meth c h0 Q ds k n pc' Ls St) : Go p l e R s m args below meth c h0 Q ds k n pc Ls St := K.pure fun T locs X target h => XS.goto X.here C.1 rfl rfl (hb C.2.2.2.1 hd) ho hp h
theorem g_ifY (C : Cx p s m meth c Z a0 own bytes ml rt nm) (pc' : Nat) {cd : ClassFile.Cond} {x : Int32} {o : Int} (hd : decode bytes pc = .ok (.ifCond cd o, 3)) (hc : if_icmp.holds cd x 0 = true) (ho : 0 ≤ (pc : Int) + o) (hp : ((pc : Int) + o).toNat = pc') (K : Go p l e R s m args below meth c h0 Q ds k n pc' Ls St) : Go p l e R s m args below meth c h0 Q ds k n pc Ls (.int x :: St) := K.pure fun T locs X target h => XS.ifYes X.here C.1 rfl rfl (hb C.2.2.2.1 hd) rfl ((if0 _ _).trans hc) ho hp h
theorem g_ifN (C : Cx p s m meth c Z a0 own bytes ml rt nm) (pc' : Nat) {cd : ClassFile.Cond} {x : Int32} {o : Int} (hd : decode bytes pc = .ok (.ifCond cd o, 3)) (hc : if_icmp.holds cd x 0 = false) (hp : pc + 3 = pc') (K : Go p l e R s m args below meth c h0 Q ds k n pc' Ls St) : Go p l e R s m args below meth c h0 Q ds k n pc Ls (.int x :: St) := by
  subst hp
  exact K.pure fun T locs X target h => XS.ifNo X.here C.1 rfl (hb C.2.2.2.1 hd) rfl ((if0 _ _).trans hc) h
theorem g_icY (C : Cx p s m meth c Z a0 own bytes ml rt nm) (pc' : Nat) {cd : ClassFile.Cond} {x y : Int32} {o : Int} (hd : decode bytes pc = .ok (.if_icmp cd o, 3)) (hc : if_icmp.holds cd x y = true) (ho : 0 ≤ (pc : Int) + o) (hp : ((pc : Int) + o).toNat = pc') (K : Go p l e R s m args below meth c h0 Q ds k n pc' Ls St) : Go p l e R s m args below meth c h0 Q ds k n pc Ls (.int y :: .int x :: St) := K.pure fun T locs X target h => XS.icmpYes X.here C.1 rfl rfl (hb C.2.2.2.1 hd) rfl hc ho hp h
theorem g_icN (C : Cx p s m meth c Z a0 own bytes ml rt nm) (pc' : Nat) {cd : ClassFile.Cond} {x y : Int32} {o : Int} (hd : decode bytes pc = .ok (.if_icmp cd o, 3)) (hc : if_icmp.holds cd x y = false) (hp : pc + 3 = pc') (K : Go p l e R s m args below meth c h0 Q ds k n pc' Ls St) : Go p l e R s m args below meth c h0 Q ds k n pc Ls (.int y :: .int x :: St) := by
  subst hp
  exact K.pure fun T locs X target h => XS.icmpNo X.here C.1 rfl (hb C.2.2.2.1 hd) rfl hc h
theorem g_nullY (C : Cx p s m meth c Z a0 own bytes ml rt nm) (pc' : Nat) {o : Int} (hd : decode bytes pc = .ok (.ifnull o, 3)) (ho : 0 ≤ (pc : Int) + o) (hp : ((pc : Int) + o).toNat = pc') (K : Go p l e R s m args below meth c h0 Q ds k n pc' Ls St) : Go p l e R s m args below meth c h0 Q ds k n pc Ls (.null :: St) := K.pure fun T locs X target h => XS.ifnullYes X.here C.1 rfl rfl (hb C.2.2.2.1 hd) rfl ho hp h
theorem g_acY (C : Cx p s m meth c Z a0 own bytes ml rt nm) (pc' : Nat) {cd : ClassFile.ACond} {x y : Value} {o : Int} (hd : decode bytes pc = .ok (.if_acmp cd o, 3)) (hvx : x.isRef = true) (hvy : y.isRef = true) (hc : XT.acmp cd x y = true) (ho : 0 ≤ (pc : Int) + o) (hp : ((pc : Int) + o).toNat = pc') (K : Go p l e R s m args below meth c h0 Q ds k n pc' Ls St) : Go p l e R s m args below meth c h0 Q ds k n pc Ls (y :: x :: St) := K.pure fun T locs X target h => XT.acmpYes X.here C.1 rfl rfl (hb C.2.2.2.1 hd) rfl hvx hvy hc ho hp h
theorem g_acN (C : Cx p s m meth c Z a0 own bytes ml rt nm) (pc' : Nat) {cd : ClassFile.ACond} {x y : Value} {o : Int} (hd : decode bytes pc = .ok (.if_acmp cd o, 3)) (hvx : x.isRef = true) (hvy : y.isRef = true) (hc : XT.acmp cd x y = false) (hp : pc + 3 = pc') (K : Go p l e R s m args below meth c h0 Q ds k n pc' Ls St) : Go p l e R s m args below meth c h0 Q ds k n pc Ls (y :: x :: St) := by
  subst hp
  exact K.pure fun T locs X target h => XT.acmpNo X.here C.1 rfl (hb C.2.2.2.1 hd) rfl hvx hvy hc h
theorem g_ldcI (C : Cx p s m meth c Z a0 own bytes ml rt nm) (pc' : Nat) {i : Nat} (v : Int32) (hd : decode bytes pc = .ok (.ldc i, 2)) (hp : pc + 2 = pc') (w : Jvm.Cond.constant own i v ∈ tables_1) (K : Go p l e R s m args below meth c h0 Q ds k n pc' Ls (.int v :: St)) : Go p l e R s m args below meth c h0 Q ds k n pc Ls St := by
  subst hp
  exact K.pure fun T locs X target h => X.ldcInt C.1 C.2.2.2.2.2.1 (mvT C.2.1 (C.2.2.1 _ w)) (g := mkF m pc Ls St) rfl (hb C.2.2.2.1 hd) _ h
theorem g_ldcJ (C : Cx p s m meth c Z a0 own bytes ml rt nm) (pc' : Nat) {i : Nat} (v : Int64) (hd : decode bytes pc = .ok (.ldc2_w i, 3)) (hp : pc + 3 = pc') (w : Jvm.Cond.constantLong own i v ∈ tables_1) (K : Go p l e R s m args below meth c h0 Q ds k n pc' Ls (.long v :: St)) : Go p l e R s m args below meth c h0 Q ds k n pc Ls St := by
  subst hp
  exact K.pure fun T locs X target h => X.ldc2Long C.1 C.2.2.2.2.2.1 (mvT C.2.1 (C.2.2.1 _ w)) (g := mkF m pc Ls St) rfl (hb C.2.2.2.1 hd) _ h
/-! arrays -/
theorem IA.arr {ty : FieldType} {vs : List Value} {a : Addr} {cl : Cell} (hc : h[a]? = some cl) (d : IA Z ty vs cl) : Arr Z h a cl ty := ⟨hc, d.1, d.2.1⟩
theorem IA.size {ty : FieldType} {vs : List Value} {cl : Cell} (d : IA Z ty vs cl) : cl.slots.size = vs.length := by rw [← d.2.2]; simp
theorem IA.get {ty : FieldType} {vs : List Value} {cl : Cell} (d : IA Z ty vs cl) (i : Nat) : cl.slots[i]? = vs[i]? := by rw [← d.2.2]; simp
theorem IA.set {ty : FieldType} {vs : List Value} {cl : Cell} (d : IA Z ty vs cl) (i : Nat) (v : Value) : IA Z ty (vs.set i v) (cl.setSlot i v) := by
  refine ⟨d.1, d.2.1, ?_⟩
  rw [← d.2.2]
  simp [Cell.setSlot, Array.toList_setIfInBounds]
theorem in_of {ty : FieldType} {vs : List Value} {cl : Cell} (d : IA Z ty vs cl) {j : Int32} (hj : ¬ j < 0) (hlt : j.toNatClampNeg < vs.length) : ¬ (j < 0 ∨ cl.slots.size ≤ j.toNatClampNeg) := by
  rw [d.size]; rintro (q | q)
  · exact hj q
  · omega
theorem g_length (C : Cx p s m meth c Z a0 own bytes ml rt nm) (pc' : Nat) {i : Nat} {a : Addr} {ty : FieldType} {vs : List Value} (z : Int32) (hi : ds[i]? = some (a, IA Z ty vs)) (hd : decode bytes pc = .ok (.arraylength, 1)) (hp : pc + 1 = pc') (hz : vs.length.toInt32 = z) (K : Go p l e R s m args below meth c h0 Q ds k n pc' Ls (.int z :: St)) : Go p l e R s m args below meth c h0 Q ds k n pc Ls (.ref a :: St) := fun T locs X W N => by
  subst hp hz
  obtain ⟨ha, cl, hc, dc⟩ := W.at hi
  refine (K T locs X W N).pre fun t h => X.arraylength C.1 hc (State.isArrayOf_alike C.2.1.alike dc.1) (g := mkF m pc Ls (.ref a :: St)) rfl rfl (hb C.2.2.2.1 hd) t ?_
  rw [dc.size]; exact h
theorem g_aload_of (pc' : Nat) {i : Nat} {a : Addr} {ty : FieldType} {vs : List Value} (hi : ds[i]? = some (a, IA Z ty vs)) {j : Int32} (hj : ¬ j < 0) {v : Value} (hv : vs[j.toNatClampNeg]? = some v)
    (H : ∀ T locs (cl : Cell), Stand p l e R s m args below meth c T locs k n → T.heap[a]? = some cl → IA Z ty vs cl → ¬ (j < 0 ∨ cl.slots.size ≤ j.toNatClampNeg) → cl.slots[j.toNatClampNeg]? = some v → ∀ t, Steps p.tables e below (T.setTop (mkF m pc' Ls (v :: St))) t → Steps p.tables e below (T.setTop (mkF m pc Ls (.int j :: .ref a :: St))) t)
    (K : Go p l e R s m args below meth c h0 Q ds k n pc' Ls (v :: St)) : Go p l e R s m args below meth c h0 Q ds k n pc Ls (.int j :: .ref a :: St) := fun T locs X W N => by
  obtain ⟨ha, cl, hc, dc⟩ := W.at hi
  have hlt : j.toNatClampNeg < vs.length := (List.getElem?_eq_some_iff.mp hv).1
  exact (K T locs X W N).pre (H T locs cl X hc dc (in_of dc hj hlt) (by rw [dc.get]; exact hv))
theorem g_iaload (C : Cx p s m meth c Z a0 own bytes ml rt nm) (pc' : Nat) {i : Nat} {a : Addr} {xs : List Int32} (hi : ds[i]? = some (a, IA Z .int (ints xs))) (hd : decode bytes pc = .ok (.iaload, 1)) (hp : pc + 1 = pc') {j : Int32} (hj : ¬ j < 0) (v : Int32) (hv : xs[j.toNatClampNeg]? = some v) (K : Go p l e R s m args below meth c h0 Q ds k n pc' Ls (.int v :: St)) : Go p l e R s m args below meth c h0 Q ds k n pc Ls (.int j :: .ref a :: St) :=
  g_aload_of pc' hi hj (v := .int v) (by simp [hv]) (fun T locs cl X hc dc hin hat t h => by subst hp; exact X.iaload C.1 hc (State.isArrayOf_alike C.2.1.alike dc.1) dc.2.1 hin hat (g := mkF m pc Ls (.int j :: .ref a :: St)) rfl rfl (hb C.2.2.2.1 hd) t h) K
theorem g_caload (C : Cx p s m meth c Z a0 own bytes ml rt nm) (pc' : Nat) {i : Nat} {a : Addr} {xs : List Int32} (hi : ds[i]? = some (a, IA Z .char (ints xs))) (hd : decode bytes pc = .ok (.caload, 1)) (hp : pc + 1 = pc') {j : Int32} (hj : ¬ j < 0) (v : Int32) (hv : xs[j.toNatClampNeg]? = some v) (K : Go p l e R s m args below meth c h0 Q ds k n pc' Ls (.int v :: St)) : Go p l e R s m args below meth c h0 Q ds k n pc Ls (.int j :: .ref a :: St) :=
  g_aload_of pc' hi hj (v := .int v) (by simp [hv]) (fun T locs cl X hc dc hin hat t h => by subst hp; exact X.caload C.1 hc (State.isArrayOf_alike C.2.1.alike dc.1) dc.2.1 hin hat (g := mkF m pc Ls (.int j :: .ref a :: St)) rfl rfl (hb C.2.2.2.1 hd) t h) K
theorem g_baload (C : Cx p s m meth c Z a0 own bytes ml rt nm) (pc' : Nat) {i : Nat} {a : Addr} {xs : List Int32} (hi : ds[i]? = some (a, IA Z .byte (ints xs))) (hd : decode bytes pc = .ok (.baload, 1)) (hp : pc + 1 = pc') {j : Int32} (hj : ¬ j < 0) (v : Int32) (hv : xs[j.toNatClampNeg]? = some v) (K : Go p l e R s m args below meth c h0 Q ds k n pc' Ls (.int v :: St)) : Go p l e R s m args below meth c h0 Q ds k n pc Ls (.int j :: .ref a :: St) :=
  g_aload_of pc' hi hj (v := .int v) (by simp [hv]) (fun T locs cl X hc dc hin hat t h => by subst hp; exact X.baloadBytes C.1 hc (State.isArrayOf_alike C.2.1.alike dc.1) dc.2.1 hin hat (g := mkF m pc Ls (.int j :: .ref a :: St)) rfl rfl (hb C.2.2.2.1 hd) t h) K
theorem g_aaload (C : Cx p s m meth c Z a0 own bytes ml rt nm) (pc' : Nat) {i : Nat} {a : Addr} {ty : FieldType} {vs : List Value} (hi : ds[i]? = some (a, IA Z ty vs)) (hty : ty.isReference = true) (hd : decode bytes pc = .ok (.aaload, 1)) (hp : pc + 1 = pc') {j : Int32} (hj : ¬ j < 0) (v : Value) (hv : vs[j.toNatClampNeg]? = some v) (K : Go p l e R s m args below meth c h0 Q ds k n pc' Ls (v :: St)) : Go p l e R s m args below meth c h0 Q ds k n pc Ls (.int j :: .ref a :: St) :=
  g_aload_of pc' hi hj hv (fun T locs cl X hc dc hin hat t h => by subst hp; exact X.aaload C.1 hc (State.isArrayOf_alike C.2.1.alike dc.1) hty dc.2.1 hin hat (g := mkF m pc Ls (.int j :: .ref a :: St)) rfl rfl (hb C.2.2.2.1 hd) t h) K
theorem g_astore_of (C : Cx p s m meth c Z a0 own bytes ml rt nm) (pc' : Nat) {i : Nat} {a : Addr} {ty : FieldType} {vs vs' : List Value} (ds' : Wd) (hi : ds[i]? = some (a, IA Z ty vs)) {j : Int32} (hj : ¬ j < 0) (hlt : j.toNatClampNeg < vs.length) {v w : Value} (hvs : vs.set j.toNatClampNeg v = vs') (hds : ds.set i (a, IA Z ty vs') = ds')
    (H : ∀ T locs (cl : Cell), Stand p l e R s m args below meth c T locs k n → Arr Z T.heap a cl ty → ¬ (j < 0 ∨ cl.slots.size ≤ j.toNatClampNeg) → ∃ T' h', Stand p l e R s m args below meth c T' (locs ++ [⟨a, j.toNatClampNeg⟩]) k n ∧ T'.heap = h' ∧ Wr T.heap h' a j.toNatClampNeg v ∧ ∀ t, Steps p.tables e below (T'.setTop (mkF m pc' Ls St)) t → Steps p.tables e below (T.setTop (mkF m pc Ls (w :: .int j :: .ref a :: St))) t)
    (K : Go p l e R s m args below meth c h0 Q ds' k n pc' Ls St) : Go p l e R s m args below meth c h0 Q ds k n pc Ls (w :: .int j :: .ref a :: St) := fun T locs X W N => by
  subst hds hvs
  obtain ⟨ha, cl, hc, dc⟩ := W.at hi
  obtain ⟨T', h', X', e', wr, st⟩ := H T locs cl X (dc.arr hc) (in_of dc hj hlt)
  exact (K T' _ X' (by rw [e']; exact W.wr hi wr (fun c2 h2 _ d2 => d2.set _ _)) (Fr.snoc X' N ha)).pre st
theorem ints_set (xs : List Int32) (i : Nat) (v : Int32) : (ints xs).set i (.int v) = ints (xs.set i v) := by simp [ints, List.map_set]
theorem g_iastore (C : Cx p s m meth c Z a0 own bytes ml rt nm) (pc' : Nat) {i : Nat} {a : Addr} {xs : List Int32} (xs' : List Int32) (ds' : Wd) (hi : ds[i]? = some (a, IA Z .int (ints xs))) (hd : decode bytes pc = .ok (.iastore, 1)) (hp : pc + 1 = pc') {j v : Int32} (hj : ¬ j < 0) (hlt : j.toNatClampNeg < xs.length) (hx : xs.set j.toNatClampNeg v = xs') (hds : ds.set i (a, IA Z .int (ints xs')) = ds')
    (K : Go p l e R s m args below meth c h0 Q ds' k n pc' Ls St) : Go p l e R s m args below meth c h0 Q ds k n pc Ls (.int v :: .int j :: .ref a :: St) :=
  g_astore_of C pc' ds' hi hj (by simpa using hlt) (v := .int v) (vs' := ints xs') (by rw [ints_set, hx]) hds (fun T locs cl X A hin => by
    subst hp
    exact stI X C.1 C.2.1 rfl A hin (g := mkF m pc Ls (.int v :: .int j :: .ref a :: St)) rfl rfl (hb C.2.2.2.1 hd)) K
theorem g_castore (C : Cx p s m meth c Z a0 own bytes ml rt nm) (pc' : Nat) {i : Nat} {a : Addr} {xs : List Int32} (xs' : List Int32) (ds' : Wd) (hi : ds[i]? = some (a, IA Z .char (ints xs))) (hd : decode bytes pc = .ok (.castore, 1)) (hp : pc + 1 = pc') {j v : Int32} (hj : ¬ j < 0) (hlt : j.toNatClampNeg < xs.length) (hx : xs.set j.toNatClampNeg (nar .char v) = xs') (hds : ds.set i (a, IA Z .char (ints xs')) = ds')
    (K : Go p l e R s m args below meth c h0 Q ds' k n pc' Ls St) : Go p l e R s m args below meth c h0 Q ds k n pc Ls (.int v :: .int j :: .ref a :: St) :=
  g_astore_of C pc' ds' hi hj (by simpa using hlt) (v := .int (nar .char v)) (vs' := ints xs') (by rw [ints_set, hx]) hds (fun T locs cl X A hin => by
    subst hp
    exact stC X C.1 C.2.1 rfl A hin (g := mkF m pc Ls (.int v :: .int j :: .ref a :: St)) rfl rfl (hb C.2.2.2.1 hd)) K
theorem g_bastore (C : Cx p s m meth c Z a0 own bytes ml rt nm) (pc' : Nat) {i : Nat} {a : Addr} {xs : List Int32} (xs' : List Int32) (ds' : Wd) (hi : ds[i]? = some (a, IA Z .byte (ints xs))) (hd : decode bytes pc = .ok (.bastore, 1)) (hp : pc + 1 = pc') {j v : Int32} (hj : ¬ j < 0) (hlt : j.toNatClampNeg < xs.length) (hx : xs.set j.toNatClampNeg (nar .byte v) = xs') (hds : ds.set i (a, IA Z .byte (ints xs')) = ds')
    (K : Go p l e R s m args below meth c h0 Q ds' k n pc' Ls St) : Go p l e R s m args below meth c h0 Q ds k n pc Ls (.int v :: .int j :: .ref a :: St) :=
  g_astore_of C pc' ds' hi hj (by simpa using hlt) (v := .int (nar .byte v)) (vs' := ints xs') (by rw [ints_set, hx]) hds (fun T locs cl X A hin => by
    subst hp
    exact stB X C.1 C.2.1 rfl A hin (g := mkF m pc Ls (.int v :: .int j :: .ref a :: St)) rfl rfl (hb C.2.2.2.1 hd)) K
theorem IA.new {cA : ClassId} {ty : FieldType} {z : Int32} {a : Addr} (A : Arr Z h a (newA cA ty z) ty) : IA Z ty (List.replicate z.toNatClampNeg (defaultValue ty)) (newA cA ty z) := ⟨A.2.1, A.2.2, by simp [newA]⟩
theorem g_newarray (C : Cx p s m meth c Z a0 own bytes ml rt nm) (pc' : Nat) {aty : ArrayType} {z : Int32} (vs : List Value) (cap : Nat) (w : Jvm.Cond.arrayClass (newarray.typeOf aty) ∈ tables_1) (hd : decode bytes pc = .ok (.newarray aty, 2)) (hp : pc + 2 = pc') (hz : ¬ z < 0) (hcap : z.toNatClampNeg ≤ cap) (hcb : cap * 8 ≤ 536870912) (hk : k + 1 ≤ R.cells) (hn : n + cap ≤ R.slots)
    (hvs : List.replicate z.toNatClampNeg (defaultValue (newarray.typeOf aty)) = vs) (K : ∀ a, Go p l e R s m args below meth c h0 Q (ds ++ [(a, IA Z (newarray.typeOf aty) vs)]) (k + 1) (n + cap) pc' Ls (.ref a :: St)) : Go p l e R s m args below meth c h0 Q ds k n pc Ls (.int z :: St) := fun T locs X W N => by
  subst hp hvs
  obtain ⟨T', h', cA, X', e', E, A, st⟩ := newP X C.1 C.2.1 (C.2.2.1 _ w) rfl (g := mkF m pc Ls (.int z :: St)) rfl (hb C.2.2.2.1 hd) rfl hz hcap hcb hk hn
  exact (K T.heap.size T' locs X' (by rw [e']; exact W.new E A.1 (IA.new A)) N).pre st
/-! objects -/
theorem g_getfield (C : Cx p s m meth c Z a0 own bytes ml rt nm) (pc' : Nat) {i j idx : Nat} {a : Addr} {Cn O nf d : String} {v : Value} {fs : List Fv} (hi : ds[i]? = some (a, OB Z a0 Cn fs)) (hf : fs[j]? = some (O, nf, d, v)) (hd : decode bytes pc = .ok (.getfield idx, 3)) (hp : pc + 3 = pc') (w : Jvm.Cond.fieldLink own idx O nf d ∈ tables_1)
    (K : Go p l e R s m args below meth c h0 Q ds k n pc' Ls (v :: St)) : Go p l e R s m args below meth c h0 Q ds k n pc Ls (.ref a :: St) := fun T locs X W N => by
  subst hp
  obtain ⟨ha, cl, hc, dc⟩ := W.at hi
  obtain ⟨T', X', e', st⟩ := getF X C.1 C.2.1 C.2.2.2.2.2.1 (host := "") (Or.inl (C.2.2.1 _ w)) Via.refl rfl (dc.fld hc (List.mem_of_getElem? hf)) (g := mkF m pc Ls (.ref a :: St)) rfl rfl (hb C.2.2.2.1 hd)
  exact (K T' locs X' (by rw [e']; exact W) N).pre st
theorem OB.put {Cn O nf d : String} {v old : Value} {fs : List Fv} {j : Nat} {a : Addr} {cl : Cell} (hc : h[a]? = some cl) (dc : OB Z a0 Cn fs cl) (hf : fs[j]? = some (O, nf, d, old)) (hnd : (fs.map (fun x => x.2.1)).Nodup) (wr : Wr h h' a (Jvm.RoadKit.slotOf Z O nf d) v) : ∃ cl' : Cell, h'[a]? = some cl' ∧ OB Z a0 Cn (fs.set j (O, nf, d, v)) cl' := by
  have E : Exa Z h' a Cn := (dc.exa hc).wr wr
  obtain ⟨cl', k', hc', -⟩ := id E
  refine ⟨cl', hc', OB.of E hc' fun x hx => ?_⟩
  obtain ⟨q, hq⟩ := List.getElem?_of_mem hx
  have Fj := dc.fld hc (List.mem_of_getElem? hf)
  obtain ⟨-, Lj, tj, hj⟩ := dc.2 _ (List.mem_of_getElem? hf)
  rw [List.getElem?_set] at hq
  split at hq
  · rename_i hjq
    split at hq
    · cases hq; exact ⟨Fj.same wr, Lj, tj, hj⟩
    · cases hq
  · rename_i hjq
    obtain ⟨O', n', d', v'⟩ := x
    have Fx := dc.fld hc (List.mem_of_getElem? hq)
    obtain ⟨-, Lx, tx, hx'⟩ := dc.2 _ (List.mem_of_getElem? hq)
    refine ⟨Fx.other wr (Or.inr (slot_ne Lx Lj ?_ hx' hj)), Lx, tx, hx'⟩
    intro en
    apply hjq
    obtain ⟨l1, e1⟩ := List.getElem?_eq_some_iff.mp hf
    obtain ⟨l2, e2⟩ := List.getElem?_eq_some_iff.mp hq
    have g : (fs.map (fun x => x.2.1))[j]'(by simpa using l1) = (fs.map (fun x => x.2.1))[q]'(by simpa using l2) := by simp only [List.getElem_map, e1, e2]; exact en.symm
    exact nodup_inj hnd _ _ g
theorem Wld.wr' {i : Nat} {a : Addr} {d d' : Desc} {sl : Nat} {v : Value} {cl' : Cell} (W : Wld h0 ds h) (hi : ds[i]? = some (a, d)) (wr : Wr h h' a sl v) (hc' : h'[a]? = some cl') (dc' : d' cl') : Wld h0 (ds.set i (a, d')) h' :=
  W.wr hi wr fun c2 h2 hsl _ => by
    obtain ⟨c', e1, -, -, -, -, -, e7⟩ := wr_at wr h2
    cases e1.symm.trans hc'
    rw [← (e7 rfl).1]; exact dc'
theorem g_putfield (C : Cx p s m meth c Z a0 own bytes ml rt nm) (pc' : Nat) {i j idx kk : Nat} {a : Addr} {Cn O nf d : String} {v v' old : Value} {ty : FieldType} {fs : List Fv} (fs' : List Fv) (ds' : Wd) (hi : ds[i]? = some (a, OB Z a0 Cn fs)) (hf : fs[j]? = some (O, nf, d, old)) (hd : decode bytes pc = .ok (.putfield idx, 3)) (hp : pc + 3 = pc')
    (w : Jvm.Cond.fieldLink own idx O nf d ∈ tables_1) (L : Jvm.Cond.lays Cn O nf d ∈ tables_1 ∨ (Jvm.Cond.laysFinal Cn O nf d ∈ tables_1 ∧ own = O ∧ nm = "<init>")) (wi : Jvm.Cond.instantiable Cn kk ∈ tables_1) (hty : parseFieldDescriptor d = some ty) (hnr : narrow ty v = v') (hft : fits ty v' = true) (hnd : (fs.map (fun x => x.2.1)).Nodup)
    (hfs : fs.set j (O, nf, d, v') = fs') (hds : ds.set i (a, OB Z a0 Cn fs') = ds') (K : Go p l e R s m args below meth c h0 Q ds' k n pc' Ls St) : Go p l e R s m args below meth c h0 Q ds k n pc Ls (v :: .ref a :: St) := fun T locs X W N => by
  subst hp hfs hds
  obtain ⟨ha, cl, hc, dc⟩ := W.at hi
  obtain ⟨T', h', X', e', wr, st⟩ := putFN X C.1 C.2.1 C.2.2.2.2.2.1 (C.2.2.1 _ w) Via.refl rfl (dc.fld hc (List.mem_of_getElem? hf)) (dc.exa hc) (L.imp (fun q => C.2.2.1 _ q) (fun q => ⟨C.2.2.1 _ q.1, q.2.1, C.2.2.2.2.2.2.2.2.trans q.2.2⟩)) (C.2.2.1 _ wi) hty hnr hft (g := mkF m pc Ls (v :: .ref a :: St)) rfl rfl (hb C.2.2.2.1 hd)
  obtain ⟨cl', hc', dc'⟩ := dc.put hc hf hnd wr
  exact (K T' _ X' (by rw [e']; exact W.wr' hi wr hc' dc') (Fr.snoc X' N ha)).pre st
theorem g_new (C : Cx p s m meth c Z a0 own bytes ml rt nm) (pc' : Nat) {idx sz : Nat} {Cn : String} (fs : List Fv) (w : Jvm.Cond.classLink own idx Cn ∈ tables_1) (wi : Jvm.Cond.instantiable Cn sz ∈ tables_1) (wz : Jvm.Cond.initialized Cn ∈ tables_1) (hd : decode bytes pc = .ok (.new idx, 3)) (hp : pc + 3 = pc') (hk : k + 1 ≤ R.cells) (hn : n + sz ≤ R.slots)
    (hfs : ∀ x ∈ fs, (Jvm.Cond.lays Cn x.1 x.2.1 x.2.2.1 ∈ tables_1 ∨ Jvm.Cond.laysFinal Cn x.1 x.2.1 x.2.2.1 ∈ tables_1) ∧ ∃ t, parseFieldDescriptor x.2.2.1 = some t ∧ x.2.2.2 = defaultValue t)
    (K : ∀ a, Go p l e R s m args below meth c h0 Q (ds ++ [(a, OB Z a0 Cn fs)]) (k + 1) (n + sz) pc' Ls (.ref a :: St)) : Go p l e R s m args below meth c h0 Q ds k n pc Ls St := fun T locs X W N => by
  subst hp
  obtain ⟨T', h', X', e', E, A, D, ⟨cell, hcell, -⟩, st⟩ := newO X C.1 C.2.1 C.2.2.2.2.2.1 (C.2.2.1 _ w) (C.2.2.1 _ wi) (C.2.2.1 _ wz) rfl (g := mkF m pc Ls St) rfl (hb C.2.2.2.1 hd) hk hn
  refine (K T.heap.size T' locs X' (by
    rw [e']
    exact W.new E hcell (OB.of A hcell fun x hx => by
      obtain ⟨L, t, ht, hv⟩ := hfs x hx
      have L' : Laid Z a0 Cn x.1 x.2.1 x.2.2.1 := L.imp (fun q => C.2.2.1 _ q) (fun q => C.2.2.1 _ q)
      exact ⟨by rw [hv]; exact D L' ht, L', t, ht⟩)) N).pre st
theorem g_initO (C : Cx p s m meth c Z a0 own bytes ml rt nm) (pc' W0 : Nat) {idx : Nat} {a : Addr} (w1 : Jvm.Cond.methodLink own idx Lib.objectInit ∈ tables_1) (w2 : Jvm.Cond.instanceMethod Lib.objectInit ∈ tables_1) (w3 : Jvm.Cond.code Lib.objectInit ⟨#[0xb1]⟩ 1 none ∈ tables_1) (hd : decode bytes pc = .ok (.invokespecial idx, 3)) (hp : pc + 3 = pc') (hsz : Ls.size = ml) (hf : 1 ≤ R.frames) (hW : (St.map fun v => v.category).sum ≤ W0) (hl : W0 + 12 ≤ R.locals)
    (K : Go p l e R s m args below meth c h0 Q ds k n pc' Ls St) : Go p l e R s m args below meth c h0 Q ds k n pc Ls (.ref a :: St) := fun T locs X W N => by
  subst hp
  obtain ⟨T', X', e', st⟩ := initO X C.1 C.2.1 C.2.2.2.2.2.1 (C.2.2.1 _ w1) (C.2.2.1 _ w2) (C.2.2.1 _ w3) rfl (g := mkF m pc Ls (.ref a :: St)) rfl (by rw [C.2.2.2.2.1]; exact hsz) rfl (hb C.2.2.2.1 hd) hf (W := W0) (by show 2 * 0 + _ ≤ _; omega) hl
  exact (K T' locs X' (by rw [e']; exact W) N).pre st
/-! statics -/
theorem g_getstatic (C : Cx p s m meth c Z a0 own bytes ml rt nm) (pc' : Nat) {idx : Nat} {O nf d : String} {v : Value} (S : Sta Z h0 O nf d v) (hd : decode bytes pc = .ok (.getstatic idx, 3)) (hp : pc + 3 = pc') (w : Jvm.Cond.fieldLink own idx O nf d ∈ tables_1)
    (K : Go p l e R s m args below meth c h0 Q ds k n pc' Ls (v :: St)) : Go p l e R s m args below meth c h0 Q ds k n pc Ls St := fun T locs X W N => by
  subst hp
  obtain ⟨T', X', e', st⟩ := getS (host := "") X C.1 C.2.1 C.2.2.2.2.2.1 (C.2.2.1 _ w) Via.refl rfl (S.ext W.extOf) (g := mkF m pc Ls St) rfl (hb C.2.2.2.1 hd)
  exact (K T' locs X' (by rw [e']; exact W) N).pre st
/-! calls -/
theorem Go.back {pc' : Nat} {St' : List Value} {Q' : Option Value → Wd → Prop} {rm : Room} {locs : List Loc} {A : State} (N : Fr h0.size locs)
    (H : ∃ (v : Option Value) (B : Pt), Stand p l e R s m args below meth c B.U B.locs B.cells B.slots ∧ (∃ L, (∃ ds', Q' v ds' ∧ Wld h0 ds' B.U.heap ∧ Fr h0.size L) ∧ B.locs = locs ++ L ∧ B.cells = k + rm.cells ∧ B.slots = n + rm.slots) ∧ ∀ t, Steps p.tables e below (B.U.setTop (mkF m pc' Ls (v.toList ++ St'))) t → Steps p.tables e below A t)
    (K : ∀ v ds', Q' v ds' → Go p l e R s m args below meth c h0 Q ds' (k + rm.cells) (n + rm.slots) pc' Ls (v.toList ++ St')) :
    Ends p.tables e below A (fun o t => ∃ v L, o = .returned v ∧ (∃ ds', Q v ds' ∧ Wld h0 ds' t.heap ∧ Fr h0.size L) ∧ FrameEnd s o t L R.cells R.slots) := by
  obtain ⟨v, ⟨U, L', c', s'⟩, X', ⟨L, ⟨ds', q, W', N'⟩, e1, e2, e3⟩, st⟩ := H
  dsimp only [Pt.U, Pt.locs, Pt.cells, Pt.slots] at X' W' e1 e2 e3 st
  subst e1 e2 e3
  exact (K v ds' q U _ X' W' (N.app N')).pre st
theorem g_static (C : Cx p s m meth c Z a0 own bytes ml rt nm) (pc' W0 : Nat) {idx : Nat} {y : MethodName} {bytes' : ByteArray} {ml' : Nat} {rt' : Option FieldType} {rm : Room} {argsL : List Value} {Q' : Option Value → Wd → Prop} (con : Con l Z y bytes' ml' rt' rm h0 argsL.toArray ds Q')
    (w1 : Jvm.Cond.methodLink own idx y ∈ tables_1) (w2 : Jvm.Cond.static y ∈ tables_1) (w3 : Jvm.Cond.initialized y.cls ∈ tables_1) (w4 : Jvm.Cond.code y bytes' ml' rt' ∈ tables_1) (hy : y.cls ≠ "java/lang/invoke/MethodHandle" ∧ y.cls ≠ "java/lang/invoke/VarHandle")
    (hd : decode bytes pc = .ok (.invokestatic idx, 3)) (hp : pc + 3 = pc') (hsz : Ls.size = ml) (hlen : ∀ sig, parseMethodDescriptor y.desc = some sig → argsL.length = sig.parameters.length) {St0 : List Value} (hst : St0 = argsL.reverse ++ St) (hW : (St.map fun v => v.category).sum ≤ W0) (hf : rm.frames + 1 ≤ R.frames) (hl : W0 + (ml' + 11) + rm.locals ≤ R.locals) (hk : k + rm.cells ≤ R.cells) (hn : n + rm.slots ≤ R.slots)
    (K : ∀ v ds', Q' v ds' → Go p l e R s m args below meth c h0 Q ds' (k + rm.cells) (n + rm.slots) pc' Ls (v.toList ++ St)) : Go p l e R s m args below meth c h0 Q ds k n pc Ls St0 := fun T locs X W N => by
  subst hp hst
  refine Go.back (pc' := pc + 3) (Ls := Ls) (St' := St) N ?_ K
  obtain ⟨v, vm₁, B, -, X', hpost, st⟩ := Jvm.LawKit.callS X C.1 (y := y) C.2.2.2.2.2.1 (mvT C.2.1 (C.2.2.1 _ w1)) (mvT C.2.1 (C.2.2.1 _ w2)) (mvT C.2.1 (C.2.2.1 _ w3)) (mvT C.2.1 (C.2.2.1 _ w4)) hy
    (backOf (W := W0) (Q := fun v hh L => ∃ ds', Q' v ds' ∧ Wld h0 ds' hh ∧ Fr h0.size L) (con T.heap W []) C.2.1 (C.2.2.1 _ w4) (C.2.2.1 _ w3) hf hl) (g := mkF m pc Ls (argsL.reverse ++ St)) rfl (by rw [C.2.2.2.2.1]; exact hsz) (argsL := argsL) (rest := St) hlen rfl (by show 2 * 0 + _ ≤ _; omega) (hb C.2.2.2.1 hd) (fun _ _ => ⟨rfl, rfl, hk, hn⟩)
  obtain ⟨L, q, e1, e2, e3⟩ := hpost
  exact ⟨v, B, X', ⟨L, q, e1, e2, e3⟩, st⟩
theorem g_special (C : Cx p s m meth c Z a0 own bytes ml rt nm) (pc' W0 : Nat) {idx : Nat} {y : MethodName} {bytes' : ByteArray} {ml' : Nat} {rm : Room} {a : Addr} {argsL : List Value} {Q' : Option Value → Wd → Prop} (con : Con l Z y bytes' ml' none rm h0 (.ref a :: argsL).toArray ds Q') (hy1 : y.name = "<init>")
    (w1 : Jvm.Cond.methodLink own idx y ∈ tables_1) (w2 : Jvm.Cond.instanceMethod y ∈ tables_1) (w3 : Jvm.Cond.initialized y.cls ∈ tables_1) (w4 : Jvm.Cond.code y bytes' ml' none ∈ tables_1) (hy : y.cls ≠ "java/lang/invoke/MethodHandle" ∧ y.cls ≠ "java/lang/invoke/VarHandle")
    (hd : decode bytes pc = .ok (.invokespecial idx, 3)) (hp : pc + 3 = pc') (hsz : Ls.size = ml) (hlen : ∀ sig, parseMethodDescriptor y.desc = some sig → argsL.length = sig.parameters.length) {St0 : List Value} (hst : St0 = argsL.reverse ++ .ref a :: St) (hW : (St.map fun v => v.category).sum ≤ W0) (hf : rm.frames + 1 ≤ R.frames) (hl : W0 + (ml' + 11) + rm.locals ≤ R.locals) (hk : k + rm.cells ≤ R.cells) (hn : n + rm.slots ≤ R.slots)
    (K : ∀ v ds', Q' v ds' → Go p l e R s m args below meth c h0 Q ds' (k + rm.cells) (n + rm.slots) pc' Ls (v.toList ++ St)) : Go p l e R s m args below meth c h0 Q ds k n pc Ls St0 := fun T locs X W N => by
  subst hp hst
  refine Go.back (pc' := pc + 3) (Ls := Ls) (St' := St) N ?_ K
  obtain ⟨v, vm₁, B, -, X', hpost, st⟩ := X.specialBack C.1 (y := y) hy1 C.2.2.2.2.2.1 (mvT C.2.1 (C.2.2.1 _ w1)) (mvT C.2.1 (C.2.2.1 _ w2)) (mvT C.2.1 (C.2.2.1 _ w4)) hy
    (backOf (W := W0) (Q := fun v hh L => ∃ ds', Q' v ds' ∧ Wld h0 ds' hh ∧ Fr h0.size L) (con T.heap W []) C.2.1 (C.2.2.1 _ w4) (C.2.2.1 _ w3) hf hl) (g := mkF m pc Ls (argsL.reverse ++ .ref a :: St)) rfl (by rw [C.2.2.2.2.1]; exact hsz) (Steps.refl _) (a := a) (argsL := argsL) (rest := St) hlen rfl (by show 2 * 0 + _ ≤ _; omega) (hb C.2.2.2.1 hd) (fun _ _ => ⟨rfl, rfl, hk, hn⟩)
  obtain ⟨L, q, e1, e2, e3⟩ := hpost
  exact ⟨v, B, X', ⟨L, q, e1, e2, e3⟩, fun t h => st.trans h⟩
theorem g_virtual (C : Cx p s m meth c Z a0 own bytes ml rt nm) (pc' W0 : Nat) {i idx : Nat} {Cn : String} {fs : List Fv} {y : MethodName} {bytes' : ByteArray} {ml' : Nat} {rt' : Option FieldType} {rm : Room} {a : Addr} {argsL : List Value} {Q' : Option Value → Wd → Prop} (hi : ds[i]? = some (a, OB Z a0 Cn fs)) (con : Con l Z y bytes' ml' rt' rm h0 (.ref a :: argsL).toArray ds Q')
    (w1 : Jvm.Cond.methodLink own idx y ∈ tables_1) (w2 : Jvm.Cond.declares y ∈ tables_1) (w5 : Jvm.Cond.selects Cn y y ∈ tables_1) (w6 : Jvm.Cond.instanceMethod y ∈ tables_1) (w3 : Jvm.Cond.initialized y.cls ∈ tables_1) (w4 : Jvm.Cond.code y bytes' ml' rt' ∈ tables_1) (hy : y.cls ≠ "java/lang/invoke/MethodHandle" ∧ y.cls ≠ "java/lang/invoke/VarHandle")
    (hd : decode bytes pc = .ok (.invokevirtual idx, 3)) (hp : pc + 3 = pc') (hsz : Ls.size = ml) (hlen : ∀ sig, parseMethodDescriptor y.desc = some sig → argsL.length = sig.parameters.length) {St0 : List Value} (hst : St0 = argsL.reverse ++ .ref a :: St) (hW : (St.map fun v => v.category).sum ≤ W0) (hf : rm.frames + 1 ≤ R.frames) (hl : W0 + (ml' + 11) + rm.locals ≤ R.locals) (hk : k + rm.cells ≤ R.cells) (hn : n + rm.slots ≤ R.slots)
    (K : ∀ v ds', Q' v ds' → Go p l e R s m args below meth c h0 Q ds' (k + rm.cells) (n + rm.slots) pc' Ls (v.toList ++ St)) : Go p l e R s m args below meth c h0 Q ds k n pc Ls St0 := fun T locs X W N => by
  subst hp hst
  refine Go.back (pc' := pc + 3) (Ls := Ls) (St' := St) N ?_ K
  obtain ⟨ha, cl, hc, dc⟩ := W.at hi
  obtain ⟨cq, kq, qa, qb, qc⟩ := isOf C.2.1 rfl (dc.exa hc)
  obtain ⟨v, vm₁, B, -, X', hpost, st⟩ := X.virtualBack C.1 (y := y) (z := y) C.2.2.2.2.2.1 (mvT C.2.1 (C.2.2.1 _ w1)) (mvT C.2.1 (C.2.2.1 _ w2)) (notFace_of_selects (args := #[]) (mvT C.2.1 (C.2.2.1 _ w5))) (mvT C.2.1 (C.2.2.1 _ w5)) (mvT C.2.1 (C.2.2.1 _ w6)) hy
    (backOf (W := W0) (Q := fun v hh L => ∃ ds', Q' v ds' ∧ Wld h0 ds' hh ∧ Fr h0.size L) (con T.heap W []) C.2.1 (C.2.2.1 _ w4) (C.2.2.1 _ w3) hf hl) qa qc (g := mkF m pc Ls (argsL.reverse ++ .ref a :: St)) rfl (by rw [C.2.2.2.2.1]; exact hsz) (Steps.refl _) (argsL := argsL) (rest := St) hlen rfl (by show 2 * 0 + _ ≤ _; omega) (hb C.2.2.2.1 hd) (fun _ _ => ⟨rfl, rfl, hk, hn⟩)
  obtain ⟨L, q, e1, e2, e3⟩ := hpost
  exact ⟨v, B, X', ⟨L, q, e1, e2, e3⟩, fun t h => st.trans h⟩
end Own
theorem d1_0 : decode method_2_code 0 = .ok (.lconst 0, 1) := by decide +kernel
theorem d1_1 : decode method_2_code 1 = .ok (.lstore_n 1, 1) := by decide +kernel
theorem d1_2 : decode method_2_code 2 = .ok (.iload_n 0, 1) := by decide +kernel
theorem d1_3 : decode method_2_code 3 = .ok (.iconst 1, 1) := by decide +kernel
theorem d1_4 : decode method_2_code 4 = .ok (.iand, 1) := by decide +kernel
theorem d1_5 : decode method_2_code 5 = .ok (.ifCond .eq 9, 3) := by decide +kernel
theorem d1_8 : decode method_2_code 8 = .ok (.lload_n 1, 1) := by decide +kernel
theorem d1_9 : decode method_2_code 9 = .ok (.ldc2_w 7, 3) := by decide +kernel
theorem d1_12 : decode method_2_code 12 = .ok (.lor, 1) := by decide +kernel
theorem d1_13 : decode method_2_code 13 = .ok (.lstore_n 1, 1) := by decide +kernel
theorem d1_14 : decode method_2_code 14 = .ok (.iload_n 0, 1) := by decide +kernel
theorem d1_15 : decode method_2_code 15 = .ok (.iconst 2, 1) := by decide +kernel
theorem d1_16 : decode method_2_code 16 = .ok (.iand, 1) := by decide +kernel
theorem d1_17 : decode method_2_code 17 = .ok (.ifCond .eq 9, 3) := by decide +kernel
theorem d1_20 : decode method_2_code 20 = .ok (.lload_n 1, 1) := by decide +kernel
theorem d1_21 : decode method_2_code 21 = .ok (.ldc2_w 9, 3) := by decide +kernel
theorem d1_24 : decode method_2_code 24 = .ok (.lor, 1) := by decide +kernel
theorem d1_25 : decode method_2_code 25 = .ok (.lstore_n 1, 1) := by decide +kernel
theorem d1_26 : decode method_2_code 26 = .ok (.iload_n 0, 1) := by decide +kernel
theorem d1_27 : decode method_2_code 27 = .ok (.iconst 4, 1) := by decide +kernel
theorem d1_28 : decode method_2_code 28 = .ok (.iand, 1) := by decide +kernel
theorem d1_29 : decode method_2_code 29 = .ok (.ifCond .eq 9, 3) := by decide +kernel
theorem d1_32 : decode method_2_code 32 = .ok (.lload_n 1, 1) := by decide +kernel
theorem d1_33 : decode method_2_code 33 = .ok (.ldc2_w 11, 3) := by decide +kernel
theorem d1_36 : decode method_2_code 36 = .ok (.lor, 1) := by decide +kernel
theorem d1_37 : decode method_2_code 37 = .ok (.lstore_n 1, 1) := by decide +kernel
theorem d1_38 : decode method_2_code 38 = .ok (.iload_n 0, 1) := by decide +kernel
theorem d1_39 : decode method_2_code 39 = .ok (.bipush 8, 2) := by decide +kernel
theorem d1_41 : decode method_2_code 41 = .ok (.iand, 1) := by decide +kernel
theorem d1_42 : decode method_2_code 42 = .ok (.ifCond .eq 9, 3) := by decide +kernel
theorem d1_45 : decode method_2_code 45 = .ok (.lload_n 1, 1) := by decide +kernel
theorem d1_46 : decode method_2_code 46 = .ok (.ldc2_w 13, 3) := by decide +kernel
theorem d1_49 : decode method_2_code 49 = .ok (.lor, 1) := by decide +kernel
theorem d1_50 : decode method_2_code 50 = .ok (.lstore_n 1, 1) := by decide +kernel
theorem d1_51 : decode method_2_code 51 = .ok (.iload_n 0, 1) := by decide +kernel
theorem d1_52 : decode method_2_code 52 = .ok (.bipush 16, 2) := by decide +kernel
theorem d1_54 : decode method_2_code 54 = .ok (.iand, 1) := by decide +kernel
theorem d1_55 : decode method_2_code 55 = .ok (.ifCond .eq 9, 3) := by decide +kernel
theorem d1_58 : decode method_2_code 58 = .ok (.lload_n 1, 1) := by decide +kernel
theorem d1_59 : decode method_2_code 59 = .ok (.ldc2_w 15, 3) := by decide +kernel
theorem d1_62 : decode method_2_code 62 = .ok (.lor, 1) := by decide +kernel
theorem d1_63 : decode method_2_code 63 = .ok (.lstore_n 1, 1) := by decide +kernel
theorem d1_64 : decode method_2_code 64 = .ok (.iload_n 0, 1) := by decide +kernel
theorem d1_65 : decode method_2_code 65 = .ok (.bipush 32, 2) := by decide +kernel
theorem d1_67 : decode method_2_code 67 = .ok (.iand, 1) := by decide +kernel
theorem d1_68 : decode method_2_code 68 = .ok (.ifCond .eq 9, 3) := by decide +kernel
theorem d1_71 : decode method_2_code 71 = .ok (.lload_n 1, 1) := by decide +kernel
theorem d1_72 : decode method_2_code 72 = .ok (.ldc2_w 17, 3) := by decide +kernel
theorem d1_75 : decode method_2_code 75 = .ok (.lor, 1) := by decide +kernel
theorem d1_76 : decode method_2_code 76 = .ok (.lstore_n 1, 1) := by decide +kernel
theorem d1_77 : decode method_2_code 77 = .ok (.iload_n 0, 1) := by decide +kernel
theorem d1_78 : decode method_2_code 78 = .ok (.bipush 64, 2) := by decide +kernel
theorem d1_80 : decode method_2_code 80 = .ok (.iand, 1) := by decide +kernel
theorem d1_81 : decode method_2_code 81 = .ok (.ifCond .eq 9, 3) := by decide +kernel
theorem d1_84 : decode method_2_code 84 = .ok (.lload_n 1, 1) := by decide +kernel
theorem d1_85 : decode method_2_code 85 = .ok (.ldc2_w 19, 3) := by decide +kernel
theorem d1_88 : decode method_2_code 88 = .ok (.lor, 1) := by decide +kernel
theorem d1_89 : decode method_2_code 89 = .ok (.lstore_n 1, 1) := by decide +kernel
theorem d1_90 : decode method_2_code 90 = .ok (.iload_n 0, 1) := by decide +kernel
theorem d1_91 : decode method_2_code 91 = .ok (.sipush 128, 3) := by decide +kernel
theorem d1_94 : decode method_2_code 94 = .ok (.iand, 1) := by decide +kernel
theorem d1_95 : decode method_2_code 95 = .ok (.ifCond .eq 9, 3) := by decide +kernel
theorem d1_98 : decode method_2_code 98 = .ok (.lload_n 1, 1) := by decide +kernel
theorem d1_99 : decode method_2_code 99 = .ok (.ldc2_w 21, 3) := by decide +kernel
theorem d1_102 : decode method_2_code 102 = .ok (.lor, 1) := by decide +kernel
theorem d1_103 : decode method_2_code 103 = .ok (.lstore_n 1, 1) := by decide +kernel
theorem d1_104 : decode method_2_code 104 = .ok (.lload_n 1, 1) := by decide +kernel
theorem d1_105 : decode method_2_code 105 = .ok (.lreturn, 1) := by decide +kernel
def f_mask (x0 : Int32) : Int64 := let j2 : Int64 := (if (x0 &&& (1 : Int32)) = (0 : Int32) then (0 : Int64) else ((0 : Int64) ||| (255 : Int64))); let j5 : Int64 := (if (x0 &&& (2 : Int32)) = (0 : Int32) then j2 else (j2 ||| (65280 : Int64))); let j8 : Int64 := (if (x0 &&& (4 : Int32)) = (0 : Int32) then j5 else (j5 ||| (16711680 : Int64))); let j11 : Int64 := (if (x0 &&& (8 : Int32)) = (0 : Int32) then j8 else (j8 ||| (4278190080 : Int64))); let j14 : Int64 := (if (x0 &&& (16 : Int32)) = (0 : Int32) then j11 else (j11 ||| (1095216660480 : Int64))); let j17 : Int64 := (if (x0 &&& (32 : Int32)) = (0 : Int32) then j14 else (j14 ||| (280375465082880 : Int64))); let j20 : Int64 := (if (x0 &&& (64 : Int32)) = (0 : Int32) then j17 else (j17 ||| (71776119061217280 : Int64))); let j23 : Int64 := (if (x0 &&& (128 : Int32)) = (0 : Int32) then j20 else (j20 ||| (-72057594037927936 : Int64))); j23
set_option maxRecDepth 65536 in
set_option maxHeartbeats 40000000 in
theorem con_f_mask (l : Launch) (Z : State) (a0 : Array Value) (hw : ∀ d ∈ tables_1, d.before a0 Z = true) (h0 : Heap) (ds : Wd) (x0 : Int32)  :
    Con l Z (⟨"com/example/serra/serra/ByteWordsZeroBytesPinLaw", "byteMask", "(I)J"⟩ : MethodName) method_2_code 3 (some .long) ({ frames := 0, cells := 0, slots := 0, locals := 0 } : Room) h0 #[(.int x0)] ds (fun v ds' => v = some (.long (f_mask x0)) ∧ ds = ds') := by
  refine con_of (a0 := a0) (Ls := #[.val (.int x0), .unset, .unset]) (plainFor_of_name (by first | (simp [plainName, overriddenIn]; done) | decide +kernel)) hw (fun m => by first | (simp [entryFrame, mkF, argsToLocals, Value.category]; done) | rfl) ?_
  intro p e s m below meth c C
  refine g_lconst C 1 (0 : Int64) d1_0 rfl rfl ?_
  refine g_lstoreN C 2 #[.val (.int x0), .val (.long (0 : Int64)), .second] d1_1 rfl rfl ?_
  refine g_iloadN C 3 d1_2 rfl rfl ?_
  refine g_iconst C 4 (1 : Int32) d1_3 rfl rfl ?_
  refine g_iand C 5 d1_4 rfl ?_
  have J3 : ∀ j2 : Int64, j2 = (if (x0 &&& (1 : Int32)) = (0 : Int32) then (0 : Int64) else ((0 : Int64) ||| (255 : Int64))) → Go p l e ({ frames := 0, cells := 0, slots := 0, locals := 0 } : Room) s m #[(.int x0)] below meth c h0 (fun v ds' => v = some (.long (f_mask x0)) ∧ ds = ds') ds 0 0 14 #[.val (.int x0), .val (.long j2), .second] [] := by
    intro j2 hj2
    refine g_iloadN C 15 d1_14 rfl rfl ?_
    refine g_iconst C 16 (2 : Int32) d1_15 rfl rfl ?_
    refine g_iand C 17 d1_16 rfl ?_
    have J6 : ∀ j5 : Int64, j5 = (if (x0 &&& (2 : Int32)) = (0 : Int32) then j2 else (j2 ||| (65280 : Int64))) → Go p l e ({ frames := 0, cells := 0, slots := 0, locals := 0 } : Room) s m #[(.int x0)] below meth c h0 (fun v ds' => v = some (.long (f_mask x0)) ∧ ds = ds') ds 0 0 26 #[.val (.int x0), .val (.long j5), .second] [] := by
      intro j5 hj5
      refine g_iloadN C 27 d1_26 rfl rfl ?_
      refine g_iconst C 28 (4 : Int32) d1_27 rfl rfl ?_
      refine g_iand C 29 d1_28 rfl ?_
      have J9 : ∀ j8 : Int64, j8 = (if (x0 &&& (4 : Int32)) = (0 : Int32) then j5 else (j5 ||| (16711680 : Int64))) → Go p l e ({ frames := 0, cells := 0, slots := 0, locals := 0 } : Room) s m #[(.int x0)] below meth c h0 (fun v ds' => v = some (.long (f_mask x0)) ∧ ds = ds') ds 0 0 38 #[.val (.int x0), .val (.long j8), .second] [] := by
        intro j8 hj8
        refine g_iloadN C 39 d1_38 rfl rfl ?_
        refine g_bipush C 41 (8 : Int32) d1_39 rfl rfl ?_
        refine g_iand C 42 d1_41 rfl ?_
        have J12 : ∀ j11 : Int64, j11 = (if (x0 &&& (8 : Int32)) = (0 : Int32) then j8 else (j8 ||| (4278190080 : Int64))) → Go p l e ({ frames := 0, cells := 0, slots := 0, locals := 0 } : Room) s m #[(.int x0)] below meth c h0 (fun v ds' => v = some (.long (f_mask x0)) ∧ ds = ds') ds 0 0 51 #[.val (.int x0), .val (.long j11), .second] [] := by
          intro j11 hj11
          refine g_iloadN C 52 d1_51 rfl rfl ?_
          refine g_bipush C 54 (16 : Int32) d1_52 rfl rfl ?_
          refine g_iand C 55 d1_54 rfl ?_
          have J15 : ∀ j14 : Int64, j14 = (if (x0 &&& (16 : Int32)) = (0 : Int32) then j11 else (j11 ||| (1095216660480 : Int64))) → Go p l e ({ frames := 0, cells := 0, slots := 0, locals := 0 } : Room) s m #[(.int x0)] below meth c h0 (fun v ds' => v = some (.long (f_mask x0)) ∧ ds = ds') ds 0 0 64 #[.val (.int x0), .val (.long j14), .second] [] := by
            intro j14 hj14
            refine g_iloadN C 65 d1_64 rfl rfl ?_
            refine g_bipush C 67 (32 : Int32) d1_65 rfl rfl ?_
            refine g_iand C 68 d1_67 rfl ?_
            have J18 : ∀ j17 : Int64, j17 = (if (x0 &&& (32 : Int32)) = (0 : Int32) then j14 else (j14 ||| (280375465082880 : Int64))) → Go p l e ({ frames := 0, cells := 0, slots := 0, locals := 0 } : Room) s m #[(.int x0)] below meth c h0 (fun v ds' => v = some (.long (f_mask x0)) ∧ ds = ds') ds 0 0 77 #[.val (.int x0), .val (.long j17), .second] [] := by
              intro j17 hj17
              refine g_iloadN C 78 d1_77 rfl rfl ?_
              refine g_bipush C 80 (64 : Int32) d1_78 rfl rfl ?_
              refine g_iand C 81 d1_80 rfl ?_
              have J21 : ∀ j20 : Int64, j20 = (if (x0 &&& (64 : Int32)) = (0 : Int32) then j17 else (j17 ||| (71776119061217280 : Int64))) → Go p l e ({ frames := 0, cells := 0, slots := 0, locals := 0 } : Room) s m #[(.int x0)] below meth c h0 (fun v ds' => v = some (.long (f_mask x0)) ∧ ds = ds') ds 0 0 90 #[.val (.int x0), .val (.long j20), .second] [] := by
                intro j20 hj20
                refine g_iloadN C 91 d1_90 rfl rfl ?_
                refine g_sipush C 94 (128 : Int32) d1_91 rfl rfl ?_
                refine g_iand C 95 d1_94 rfl ?_
                have J24 : ∀ j23 : Int64, j23 = (if (x0 &&& (128 : Int32)) = (0 : Int32) then j20 else (j20 ||| (-72057594037927936 : Int64))) → Go p l e ({ frames := 0, cells := 0, slots := 0, locals := 0 } : Room) s m #[(.int x0)] below meth c h0 (fun v ds' => v = some (.long (f_mask x0)) ∧ ds = ds') ds 0 0 104 #[.val (.int x0), .val (.long j23), .second] [] := by
                  intro j23 hj23
                  refine g_lloadN C 105 d1_104 rfl rfl ?_
                  exact g_lret C d1_105 (by decide) (by decide) ⟨by subst hj23; subst hj20; subst hj17; subst hj14; subst hj11; subst hj8; subst hj5; subst hj2; rfl, rfl⟩
                by_cases c22 : (x0 &&& (128 : Int32)) = (0 : Int32)
                · refine g_ifY C 104 d1_95 (teq c22).1 (by decide) (by decide) ?_
                  exact J24 _ (by rw [if_pos c22])
                · refine g_ifN C 98 d1_95 (feq c22).1 rfl ?_
                  refine g_lloadN C 99 d1_98 rfl rfl ?_
                  refine g_ldcJ C 102 (-72057594037927936 : Int64) d1_99 rfl (List.mem_of_getElem? (i := 28) rfl) ?_
                  refine g_lor C 103 d1_102 rfl ?_
                  refine g_lstoreN C 104 #[.val (.int x0), .val (.long (j20 ||| (-72057594037927936 : Int64))), .second] d1_103 rfl rfl ?_
                  exact J24 _ (by rw [if_neg c22])
              by_cases c19 : (x0 &&& (64 : Int32)) = (0 : Int32)
              · refine g_ifY C 90 d1_81 (teq c19).1 (by decide) (by decide) ?_
                exact J21 _ (by rw [if_pos c19])
              · refine g_ifN C 84 d1_81 (feq c19).1 rfl ?_
                refine g_lloadN C 85 d1_84 rfl rfl ?_
                refine g_ldcJ C 88 (71776119061217280 : Int64) d1_85 rfl (List.mem_of_getElem? (i := 26) rfl) ?_
                refine g_lor C 89 d1_88 rfl ?_
                refine g_lstoreN C 90 #[.val (.int x0), .val (.long (j17 ||| (71776119061217280 : Int64))), .second] d1_89 rfl rfl ?_
                exact J21 _ (by rw [if_neg c19])
            by_cases c16 : (x0 &&& (32 : Int32)) = (0 : Int32)
            · refine g_ifY C 77 d1_68 (teq c16).1 (by decide) (by decide) ?_
              exact J18 _ (by rw [if_pos c16])
            · refine g_ifN C 71 d1_68 (feq c16).1 rfl ?_
              refine g_lloadN C 72 d1_71 rfl rfl ?_
              refine g_ldcJ C 75 (280375465082880 : Int64) d1_72 rfl (List.mem_of_getElem? (i := 24) rfl) ?_
              refine g_lor C 76 d1_75 rfl ?_
              refine g_lstoreN C 77 #[.val (.int x0), .val (.long (j14 ||| (280375465082880 : Int64))), .second] d1_76 rfl rfl ?_
              exact J18 _ (by rw [if_neg c16])
          by_cases c13 : (x0 &&& (16 : Int32)) = (0 : Int32)
          · refine g_ifY C 64 d1_55 (teq c13).1 (by decide) (by decide) ?_
            exact J15 _ (by rw [if_pos c13])
          · refine g_ifN C 58 d1_55 (feq c13).1 rfl ?_
            refine g_lloadN C 59 d1_58 rfl rfl ?_
            refine g_ldcJ C 62 (1095216660480 : Int64) d1_59 rfl (List.mem_of_getElem? (i := 22) rfl) ?_
            refine g_lor C 63 d1_62 rfl ?_
            refine g_lstoreN C 64 #[.val (.int x0), .val (.long (j11 ||| (1095216660480 : Int64))), .second] d1_63 rfl rfl ?_
            exact J15 _ (by rw [if_neg c13])
        by_cases c10 : (x0 &&& (8 : Int32)) = (0 : Int32)
        · refine g_ifY C 51 d1_42 (teq c10).1 (by decide) (by decide) ?_
          exact J12 _ (by rw [if_pos c10])
        · refine g_ifN C 45 d1_42 (feq c10).1 rfl ?_
          refine g_lloadN C 46 d1_45 rfl rfl ?_
          refine g_ldcJ C 49 (4278190080 : Int64) d1_46 rfl (List.mem_of_getElem? (i := 20) rfl) ?_
          refine g_lor C 50 d1_49 rfl ?_
          refine g_lstoreN C 51 #[.val (.int x0), .val (.long (j8 ||| (4278190080 : Int64))), .second] d1_50 rfl rfl ?_
          exact J12 _ (by rw [if_neg c10])
      by_cases c7 : (x0 &&& (4 : Int32)) = (0 : Int32)
      · refine g_ifY C 38 d1_29 (teq c7).1 (by decide) (by decide) ?_
        exact J9 _ (by rw [if_pos c7])
      · refine g_ifN C 32 d1_29 (feq c7).1 rfl ?_
        refine g_lloadN C 33 d1_32 rfl rfl ?_
        refine g_ldcJ C 36 (16711680 : Int64) d1_33 rfl (List.mem_of_getElem? (i := 18) rfl) ?_
        refine g_lor C 37 d1_36 rfl ?_
        refine g_lstoreN C 38 #[.val (.int x0), .val (.long (j5 ||| (16711680 : Int64))), .second] d1_37 rfl rfl ?_
        exact J9 _ (by rw [if_neg c7])
    by_cases c4 : (x0 &&& (2 : Int32)) = (0 : Int32)
    · refine g_ifY C 26 d1_17 (teq c4).1 (by decide) (by decide) ?_
      exact J6 _ (by rw [if_pos c4])
    · refine g_ifN C 20 d1_17 (feq c4).1 rfl ?_
      refine g_lloadN C 21 d1_20 rfl rfl ?_
      refine g_ldcJ C 24 (65280 : Int64) d1_21 rfl (List.mem_of_getElem? (i := 4) rfl) ?_
      refine g_lor C 25 d1_24 rfl ?_
      refine g_lstoreN C 26 #[.val (.int x0), .val (.long (j2 ||| (65280 : Int64))), .second] d1_25 rfl rfl ?_
      exact J6 _ (by rw [if_neg c4])
  by_cases c1 : (x0 &&& (1 : Int32)) = (0 : Int32)
  · refine g_ifY C 14 d1_5 (teq c1).1 (by decide) (by decide) ?_
    exact J3 _ (by rw [if_pos c1])
  · refine g_ifN C 8 d1_5 (feq c1).1 rfl ?_
    refine g_lloadN C 9 d1_8 rfl rfl ?_
    refine g_ldcJ C 12 (255 : Int64) d1_9 rfl (List.mem_of_getElem? (i := 16) rfl) ?_
    refine g_lor C 13 d1_12 rfl ?_
    refine g_lstoreN C 14 #[.val (.int x0), .val (.long ((0 : Int64) ||| (255 : Int64))), .second] d1_13 rfl rfl ?_
    exact J3 _ (by rw [if_neg c1])
theorem d3_0 : decode method_3_code 0 = .ok (.lconst 0, 1) := by decide +kernel
theorem d3_1 : decode method_3_code 1 = .ok (.lstore_n 2, 1) := by decide +kernel
theorem d3_2 : decode method_3_code 2 = .ok (.lload_n 0, 1) := by decide +kernel
theorem d3_3 : decode method_3_code 3 = .ok (.ldc2_w 7, 3) := by decide +kernel
theorem d3_6 : decode method_3_code 6 = .ok (.land, 1) := by decide +kernel
theorem d3_7 : decode method_3_code 7 = .ok (.lconst 0, 1) := by decide +kernel
theorem d3_8 : decode method_3_code 8 = .ok (.lcmp, 1) := by decide +kernel
theorem d3_9 : decode method_3_code 9 = .ok (.ifCond .ne 9, 3) := by decide +kernel
theorem d3_12 : decode method_3_code 12 = .ok (.lload_n 2, 1) := by decide +kernel
theorem d3_13 : decode method_3_code 13 = .ok (.ldc2_w 23, 3) := by decide +kernel
theorem d3_16 : decode method_3_code 16 = .ok (.lor, 1) := by decide +kernel
theorem d3_17 : decode method_3_code 17 = .ok (.lstore_n 2, 1) := by decide +kernel
theorem d3_18 : decode method_3_code 18 = .ok (.lload_n 0, 1) := by decide +kernel
theorem d3_19 : decode method_3_code 19 = .ok (.ldc2_w 9, 3) := by decide +kernel
theorem d3_22 : decode method_3_code 22 = .ok (.land, 1) := by decide +kernel
theorem d3_23 : decode method_3_code 23 = .ok (.lconst 0, 1) := by decide +kernel
theorem d3_24 : decode method_3_code 24 = .ok (.lcmp, 1) := by decide +kernel
theorem d3_25 : decode method_3_code 25 = .ok (.ifCond .ne 9, 3) := by decide +kernel
theorem d3_28 : decode method_3_code 28 = .ok (.lload_n 2, 1) := by decide +kernel
theorem d3_29 : decode method_3_code 29 = .ok (.ldc2_w 25, 3) := by decide +kernel
theorem d3_32 : decode method_3_code 32 = .ok (.lor, 1) := by decide +kernel
theorem d3_33 : decode method_3_code 33 = .ok (.lstore_n 2, 1) := by decide +kernel
theorem d3_34 : decode method_3_code 34 = .ok (.lload_n 0, 1) := by decide +kernel
theorem d3_35 : decode method_3_code 35 = .ok (.ldc2_w 11, 3) := by decide +kernel
theorem d3_38 : decode method_3_code 38 = .ok (.land, 1) := by decide +kernel
theorem d3_39 : decode method_3_code 39 = .ok (.lconst 0, 1) := by decide +kernel
theorem d3_40 : decode method_3_code 40 = .ok (.lcmp, 1) := by decide +kernel
theorem d3_41 : decode method_3_code 41 = .ok (.ifCond .ne 9, 3) := by decide +kernel
theorem d3_44 : decode method_3_code 44 = .ok (.lload_n 2, 1) := by decide +kernel
theorem d3_45 : decode method_3_code 45 = .ok (.ldc2_w 27, 3) := by decide +kernel
theorem d3_48 : decode method_3_code 48 = .ok (.lor, 1) := by decide +kernel
theorem d3_49 : decode method_3_code 49 = .ok (.lstore_n 2, 1) := by decide +kernel
theorem d3_50 : decode method_3_code 50 = .ok (.lload_n 0, 1) := by decide +kernel
theorem d3_51 : decode method_3_code 51 = .ok (.ldc2_w 13, 3) := by decide +kernel
theorem d3_54 : decode method_3_code 54 = .ok (.land, 1) := by decide +kernel
theorem d3_55 : decode method_3_code 55 = .ok (.lconst 0, 1) := by decide +kernel
theorem d3_56 : decode method_3_code 56 = .ok (.lcmp, 1) := by decide +kernel
theorem d3_57 : decode method_3_code 57 = .ok (.ifCond .ne 9, 3) := by decide +kernel
theorem d3_60 : decode method_3_code 60 = .ok (.lload_n 2, 1) := by decide +kernel
theorem d3_61 : decode method_3_code 61 = .ok (.ldc2_w 29, 3) := by decide +kernel
theorem d3_64 : decode method_3_code 64 = .ok (.lor, 1) := by decide +kernel
theorem d3_65 : decode method_3_code 65 = .ok (.lstore_n 2, 1) := by decide +kernel
theorem d3_66 : decode method_3_code 66 = .ok (.lload_n 0, 1) := by decide +kernel
theorem d3_67 : decode method_3_code 67 = .ok (.ldc2_w 15, 3) := by decide +kernel
theorem d3_70 : decode method_3_code 70 = .ok (.land, 1) := by decide +kernel
theorem d3_71 : decode method_3_code 71 = .ok (.lconst 0, 1) := by decide +kernel
theorem d3_72 : decode method_3_code 72 = .ok (.lcmp, 1) := by decide +kernel
theorem d3_73 : decode method_3_code 73 = .ok (.ifCond .ne 9, 3) := by decide +kernel
theorem d3_76 : decode method_3_code 76 = .ok (.lload_n 2, 1) := by decide +kernel
theorem d3_77 : decode method_3_code 77 = .ok (.ldc2_w 31, 3) := by decide +kernel
theorem d3_80 : decode method_3_code 80 = .ok (.lor, 1) := by decide +kernel
theorem d3_81 : decode method_3_code 81 = .ok (.lstore_n 2, 1) := by decide +kernel
theorem d3_82 : decode method_3_code 82 = .ok (.lload_n 0, 1) := by decide +kernel
theorem d3_83 : decode method_3_code 83 = .ok (.ldc2_w 17, 3) := by decide +kernel
theorem d3_86 : decode method_3_code 86 = .ok (.land, 1) := by decide +kernel
theorem d3_87 : decode method_3_code 87 = .ok (.lconst 0, 1) := by decide +kernel
theorem d3_88 : decode method_3_code 88 = .ok (.lcmp, 1) := by decide +kernel
theorem d3_89 : decode method_3_code 89 = .ok (.ifCond .ne 9, 3) := by decide +kernel
theorem d3_92 : decode method_3_code 92 = .ok (.lload_n 2, 1) := by decide +kernel
theorem d3_93 : decode method_3_code 93 = .ok (.ldc2_w 33, 3) := by decide +kernel
theorem d3_96 : decode method_3_code 96 = .ok (.lor, 1) := by decide +kernel
theorem d3_97 : decode method_3_code 97 = .ok (.lstore_n 2, 1) := by decide +kernel
theorem d3_98 : decode method_3_code 98 = .ok (.lload_n 0, 1) := by decide +kernel
theorem d3_99 : decode method_3_code 99 = .ok (.ldc2_w 19, 3) := by decide +kernel
theorem d3_102 : decode method_3_code 102 = .ok (.land, 1) := by decide +kernel
theorem d3_103 : decode method_3_code 103 = .ok (.lconst 0, 1) := by decide +kernel
theorem d3_104 : decode method_3_code 104 = .ok (.lcmp, 1) := by decide +kernel
theorem d3_105 : decode method_3_code 105 = .ok (.ifCond .ne 9, 3) := by decide +kernel
theorem d3_108 : decode method_3_code 108 = .ok (.lload_n 2, 1) := by decide +kernel
theorem d3_109 : decode method_3_code 109 = .ok (.ldc2_w 35, 3) := by decide +kernel
theorem d3_112 : decode method_3_code 112 = .ok (.lor, 1) := by decide +kernel
theorem d3_113 : decode method_3_code 113 = .ok (.lstore_n 2, 1) := by decide +kernel
theorem d3_114 : decode method_3_code 114 = .ok (.lload_n 0, 1) := by decide +kernel
theorem d3_115 : decode method_3_code 115 = .ok (.ldc2_w 21, 3) := by decide +kernel
theorem d3_118 : decode method_3_code 118 = .ok (.land, 1) := by decide +kernel
theorem d3_119 : decode method_3_code 119 = .ok (.lconst 0, 1) := by decide +kernel
theorem d3_120 : decode method_3_code 120 = .ok (.lcmp, 1) := by decide +kernel
theorem d3_121 : decode method_3_code 121 = .ok (.ifCond .ne 9, 3) := by decide +kernel
theorem d3_124 : decode method_3_code 124 = .ok (.lload_n 2, 1) := by decide +kernel
theorem d3_125 : decode method_3_code 125 = .ok (.ldc2_w 37, 3) := by decide +kernel
theorem d3_128 : decode method_3_code 128 = .ok (.lor, 1) := by decide +kernel
theorem d3_129 : decode method_3_code 129 = .ok (.lstore_n 2, 1) := by decide +kernel
theorem d3_130 : decode method_3_code 130 = .ok (.lload_n 2, 1) := by decide +kernel
theorem d3_131 : decode method_3_code 131 = .ok (.lreturn, 1) := by decide +kernel
def f_tops (x0 : Int64) : Int64 := let j2 : Int64 := (if (x0 &&& (255 : Int64)) = (0 : Int64) then ((0 : Int64) ||| (128 : Int64)) else (0 : Int64)); let j5 : Int64 := (if (x0 &&& (65280 : Int64)) = (0 : Int64) then (j2 ||| (32768 : Int64)) else j2); let j8 : Int64 := (if (x0 &&& (16711680 : Int64)) = (0 : Int64) then (j5 ||| (8388608 : Int64)) else j5); let j11 : Int64 := (if (x0 &&& (4278190080 : Int64)) = (0 : Int64) then (j8 ||| (2147483648 : Int64)) else j8); let j14 : Int64 := (if (x0 &&& (1095216660480 : Int64)) = (0 : Int64) then (j11 ||| (549755813888 : Int64)) else j11); let j17 : Int64 := (if (x0 &&& (280375465082880 : Int64)) = (0 : Int64) then (j14 ||| (140737488355328 : Int64)) else j14); let j20 : Int64 := (if (x0 &&& (71776119061217280 : Int64)) = (0 : Int64) then (j17 ||| (36028797018963968 : Int64)) else j17); let j23 : Int64 := (if (x0 &&& (-72057594037927936 : Int64)) = (0 : Int64) then (j20 ||| (-9223372036854775808 : Int64)) else j20); j23
set_option maxRecDepth 65536 in
set_option maxHeartbeats 40000000 in
theorem con_f_tops (l : Launch) (Z : State) (a0 : Array Value) (hw : ∀ d ∈ tables_1, d.before a0 Z = true) (h0 : Heap) (ds : Wd) (x0 : Int64)  :
    Con l Z (⟨"com/example/serra/serra/ByteWordsZeroBytesPinLaw", "zeroTops", "(J)J"⟩ : MethodName) method_3_code 4 (some .long) ({ frames := 0, cells := 0, slots := 0, locals := 0 } : Room) h0 #[(.long x0)] ds (fun v ds' => v = some (.long (f_tops x0)) ∧ ds = ds') := by
  refine con_of (a0 := a0) (Ls := #[.val (.long x0), .second, .unset, .unset]) (plainFor_of_name (by first | (simp [plainName, overriddenIn]; done) | decide +kernel)) hw (fun m => by first | (simp [entryFrame, mkF, argsToLocals, Value.category]; done) | rfl) ?_
  intro p e s m below meth c C
  refine g_lconst C 1 (0 : Int64) d3_0 rfl rfl ?_
  refine g_lstoreN C 2 #[.val (.long x0), .second, .val (.long (0 : Int64)), .second] d3_1 rfl rfl ?_
  refine g_lloadN C 3 d3_2 rfl rfl ?_
  refine g_ldcJ C 6 (255 : Int64) d3_3 rfl (List.mem_of_getElem? (i := 16) rfl) ?_
  refine g_land C 7 d3_6 rfl ?_
  refine g_lconst C 8 (0 : Int64) d3_7 rfl rfl ?_
  refine g_lcmp C 9 d3_8 rfl ?_
  have J3 : ∀ j2 : Int64, j2 = (if (x0 &&& (255 : Int64)) = (0 : Int64) then ((0 : Int64) ||| (128 : Int64)) else (0 : Int64)) → Go p l e ({ frames := 0, cells := 0, slots := 0, locals := 0 } : Room) s m #[(.long x0)] below meth c h0 (fun v ds' => v = some (.long (f_tops x0)) ∧ ds = ds') ds 0 0 18 #[.val (.long x0), .second, .val (.long j2), .second] [] := by
    intro j2 hj2
    refine g_lloadN C 19 d3_18 rfl rfl ?_
    refine g_ldcJ C 22 (65280 : Int64) d3_19 rfl (List.mem_of_getElem? (i := 4) rfl) ?_
    refine g_land C 23 d3_22 rfl ?_
    refine g_lconst C 24 (0 : Int64) d3_23 rfl rfl ?_
    refine g_lcmp C 25 d3_24 rfl ?_
    have J6 : ∀ j5 : Int64, j5 = (if (x0 &&& (65280 : Int64)) = (0 : Int64) then (j2 ||| (32768 : Int64)) else j2) → Go p l e ({ frames := 0, cells := 0, slots := 0, locals := 0 } : Room) s m #[(.long x0)] below meth c h0 (fun v ds' => v = some (.long (f_tops x0)) ∧ ds = ds') ds 0 0 34 #[.val (.long x0), .second, .val (.long j5), .second] [] := by
      intro j5 hj5
      refine g_lloadN C 35 d3_34 rfl rfl ?_
      refine g_ldcJ C 38 (16711680 : Int64) d3_35 rfl (List.mem_of_getElem? (i := 18) rfl) ?_
      refine g_land C 39 d3_38 rfl ?_
      refine g_lconst C 40 (0 : Int64) d3_39 rfl rfl ?_
      refine g_lcmp C 41 d3_40 rfl ?_
      have J9 : ∀ j8 : Int64, j8 = (if (x0 &&& (16711680 : Int64)) = (0 : Int64) then (j5 ||| (8388608 : Int64)) else j5) → Go p l e ({ frames := 0, cells := 0, slots := 0, locals := 0 } : Room) s m #[(.long x0)] below meth c h0 (fun v ds' => v = some (.long (f_tops x0)) ∧ ds = ds') ds 0 0 50 #[.val (.long x0), .second, .val (.long j8), .second] [] := by
        intro j8 hj8
        refine g_lloadN C 51 d3_50 rfl rfl ?_
        refine g_ldcJ C 54 (4278190080 : Int64) d3_51 rfl (List.mem_of_getElem? (i := 20) rfl) ?_
        refine g_land C 55 d3_54 rfl ?_
        refine g_lconst C 56 (0 : Int64) d3_55 rfl rfl ?_
        refine g_lcmp C 57 d3_56 rfl ?_
        have J12 : ∀ j11 : Int64, j11 = (if (x0 &&& (4278190080 : Int64)) = (0 : Int64) then (j8 ||| (2147483648 : Int64)) else j8) → Go p l e ({ frames := 0, cells := 0, slots := 0, locals := 0 } : Room) s m #[(.long x0)] below meth c h0 (fun v ds' => v = some (.long (f_tops x0)) ∧ ds = ds') ds 0 0 66 #[.val (.long x0), .second, .val (.long j11), .second] [] := by
          intro j11 hj11
          refine g_lloadN C 67 d3_66 rfl rfl ?_
          refine g_ldcJ C 70 (1095216660480 : Int64) d3_67 rfl (List.mem_of_getElem? (i := 22) rfl) ?_
          refine g_land C 71 d3_70 rfl ?_
          refine g_lconst C 72 (0 : Int64) d3_71 rfl rfl ?_
          refine g_lcmp C 73 d3_72 rfl ?_
          have J15 : ∀ j14 : Int64, j14 = (if (x0 &&& (1095216660480 : Int64)) = (0 : Int64) then (j11 ||| (549755813888 : Int64)) else j11) → Go p l e ({ frames := 0, cells := 0, slots := 0, locals := 0 } : Room) s m #[(.long x0)] below meth c h0 (fun v ds' => v = some (.long (f_tops x0)) ∧ ds = ds') ds 0 0 82 #[.val (.long x0), .second, .val (.long j14), .second] [] := by
            intro j14 hj14
            refine g_lloadN C 83 d3_82 rfl rfl ?_
            refine g_ldcJ C 86 (280375465082880 : Int64) d3_83 rfl (List.mem_of_getElem? (i := 24) rfl) ?_
            refine g_land C 87 d3_86 rfl ?_
            refine g_lconst C 88 (0 : Int64) d3_87 rfl rfl ?_
            refine g_lcmp C 89 d3_88 rfl ?_
            have J18 : ∀ j17 : Int64, j17 = (if (x0 &&& (280375465082880 : Int64)) = (0 : Int64) then (j14 ||| (140737488355328 : Int64)) else j14) → Go p l e ({ frames := 0, cells := 0, slots := 0, locals := 0 } : Room) s m #[(.long x0)] below meth c h0 (fun v ds' => v = some (.long (f_tops x0)) ∧ ds = ds') ds 0 0 98 #[.val (.long x0), .second, .val (.long j17), .second] [] := by
              intro j17 hj17
              refine g_lloadN C 99 d3_98 rfl rfl ?_
              refine g_ldcJ C 102 (71776119061217280 : Int64) d3_99 rfl (List.mem_of_getElem? (i := 26) rfl) ?_
              refine g_land C 103 d3_102 rfl ?_
              refine g_lconst C 104 (0 : Int64) d3_103 rfl rfl ?_
              refine g_lcmp C 105 d3_104 rfl ?_
              have J21 : ∀ j20 : Int64, j20 = (if (x0 &&& (71776119061217280 : Int64)) = (0 : Int64) then (j17 ||| (36028797018963968 : Int64)) else j17) → Go p l e ({ frames := 0, cells := 0, slots := 0, locals := 0 } : Room) s m #[(.long x0)] below meth c h0 (fun v ds' => v = some (.long (f_tops x0)) ∧ ds = ds') ds 0 0 114 #[.val (.long x0), .second, .val (.long j20), .second] [] := by
                intro j20 hj20
                refine g_lloadN C 115 d3_114 rfl rfl ?_
                refine g_ldcJ C 118 (-72057594037927936 : Int64) d3_115 rfl (List.mem_of_getElem? (i := 28) rfl) ?_
                refine g_land C 119 d3_118 rfl ?_
                refine g_lconst C 120 (0 : Int64) d3_119 rfl rfl ?_
                refine g_lcmp C 121 d3_120 rfl ?_
                have J24 : ∀ j23 : Int64, j23 = (if (x0 &&& (-72057594037927936 : Int64)) = (0 : Int64) then (j20 ||| (-9223372036854775808 : Int64)) else j20) → Go p l e ({ frames := 0, cells := 0, slots := 0, locals := 0 } : Room) s m #[(.long x0)] below meth c h0 (fun v ds' => v = some (.long (f_tops x0)) ∧ ds = ds') ds 0 0 130 #[.val (.long x0), .second, .val (.long j23), .second] [] := by
                  intro j23 hj23
                  refine g_lloadN C 131 d3_130 rfl rfl ?_
                  exact g_lret C d3_131 (by decide) (by decide) ⟨by subst hj23; subst hj20; subst hj17; subst hj14; subst hj11; subst hj8; subst hj5; subst hj2; rfl, rfl⟩
                by_cases c22 : (x0 &&& (-72057594037927936 : Int64)) = (0 : Int64)
                · refine g_ifN C 124 d3_121 (teq ((lw_eq _ _).mpr c22)).2 rfl ?_
                  refine g_lloadN C 125 d3_124 rfl rfl ?_
                  refine g_ldcJ C 128 (-9223372036854775808 : Int64) d3_125 rfl (List.mem_of_getElem? (i := 29) rfl) ?_
                  refine g_lor C 129 d3_128 rfl ?_
                  refine g_lstoreN C 130 #[.val (.long x0), .second, .val (.long (j20 ||| (-9223372036854775808 : Int64))), .second] d3_129 rfl rfl ?_
                  exact J24 _ (by rw [if_pos c22])
                · refine g_ifY C 130 d3_121 (feq (fun q => c22 ((lw_eq _ _).mp q))).2 (by decide) (by decide) ?_
                  exact J24 _ (by rw [if_neg c22])
              by_cases c19 : (x0 &&& (71776119061217280 : Int64)) = (0 : Int64)
              · refine g_ifN C 108 d3_105 (teq ((lw_eq _ _).mpr c19)).2 rfl ?_
                refine g_lloadN C 109 d3_108 rfl rfl ?_
                refine g_ldcJ C 112 (36028797018963968 : Int64) d3_109 rfl (List.mem_of_getElem? (i := 27) rfl) ?_
                refine g_lor C 113 d3_112 rfl ?_
                refine g_lstoreN C 114 #[.val (.long x0), .second, .val (.long (j17 ||| (36028797018963968 : Int64))), .second] d3_113 rfl rfl ?_
                exact J21 _ (by rw [if_pos c19])
              · refine g_ifY C 114 d3_105 (feq (fun q => c19 ((lw_eq _ _).mp q))).2 (by decide) (by decide) ?_
                exact J21 _ (by rw [if_neg c19])
            by_cases c16 : (x0 &&& (280375465082880 : Int64)) = (0 : Int64)
            · refine g_ifN C 92 d3_89 (teq ((lw_eq _ _).mpr c16)).2 rfl ?_
              refine g_lloadN C 93 d3_92 rfl rfl ?_
              refine g_ldcJ C 96 (140737488355328 : Int64) d3_93 rfl (List.mem_of_getElem? (i := 25) rfl) ?_
              refine g_lor C 97 d3_96 rfl ?_
              refine g_lstoreN C 98 #[.val (.long x0), .second, .val (.long (j14 ||| (140737488355328 : Int64))), .second] d3_97 rfl rfl ?_
              exact J18 _ (by rw [if_pos c16])
            · refine g_ifY C 98 d3_89 (feq (fun q => c16 ((lw_eq _ _).mp q))).2 (by decide) (by decide) ?_
              exact J18 _ (by rw [if_neg c16])
          by_cases c13 : (x0 &&& (1095216660480 : Int64)) = (0 : Int64)
          · refine g_ifN C 76 d3_73 (teq ((lw_eq _ _).mpr c13)).2 rfl ?_
            refine g_lloadN C 77 d3_76 rfl rfl ?_
            refine g_ldcJ C 80 (549755813888 : Int64) d3_77 rfl (List.mem_of_getElem? (i := 23) rfl) ?_
            refine g_lor C 81 d3_80 rfl ?_
            refine g_lstoreN C 82 #[.val (.long x0), .second, .val (.long (j11 ||| (549755813888 : Int64))), .second] d3_81 rfl rfl ?_
            exact J15 _ (by rw [if_pos c13])
          · refine g_ifY C 82 d3_73 (feq (fun q => c13 ((lw_eq _ _).mp q))).2 (by decide) (by decide) ?_
            exact J15 _ (by rw [if_neg c13])
        by_cases c10 : (x0 &&& (4278190080 : Int64)) = (0 : Int64)
        · refine g_ifN C 60 d3_57 (teq ((lw_eq _ _).mpr c10)).2 rfl ?_
          refine g_lloadN C 61 d3_60 rfl rfl ?_
          refine g_ldcJ C 64 (2147483648 : Int64) d3_61 rfl (List.mem_of_getElem? (i := 21) rfl) ?_
          refine g_lor C 65 d3_64 rfl ?_
          refine g_lstoreN C 66 #[.val (.long x0), .second, .val (.long (j8 ||| (2147483648 : Int64))), .second] d3_65 rfl rfl ?_
          exact J12 _ (by rw [if_pos c10])
        · refine g_ifY C 66 d3_57 (feq (fun q => c10 ((lw_eq _ _).mp q))).2 (by decide) (by decide) ?_
          exact J12 _ (by rw [if_neg c10])
      by_cases c7 : (x0 &&& (16711680 : Int64)) = (0 : Int64)
      · refine g_ifN C 44 d3_41 (teq ((lw_eq _ _).mpr c7)).2 rfl ?_
        refine g_lloadN C 45 d3_44 rfl rfl ?_
        refine g_ldcJ C 48 (8388608 : Int64) d3_45 rfl (List.mem_of_getElem? (i := 19) rfl) ?_
        refine g_lor C 49 d3_48 rfl ?_
        refine g_lstoreN C 50 #[.val (.long x0), .second, .val (.long (j5 ||| (8388608 : Int64))), .second] d3_49 rfl rfl ?_
        exact J9 _ (by rw [if_pos c7])
      · refine g_ifY C 50 d3_41 (feq (fun q => c7 ((lw_eq _ _).mp q))).2 (by decide) (by decide) ?_
        exact J9 _ (by rw [if_neg c7])
    by_cases c4 : (x0 &&& (65280 : Int64)) = (0 : Int64)
    · refine g_ifN C 28 d3_25 (teq ((lw_eq _ _).mpr c4)).2 rfl ?_
      refine g_lloadN C 29 d3_28 rfl rfl ?_
      refine g_ldcJ C 32 (32768 : Int64) d3_29 rfl (List.mem_of_getElem? (i := 17) rfl) ?_
      refine g_lor C 33 d3_32 rfl ?_
      refine g_lstoreN C 34 #[.val (.long x0), .second, .val (.long (j2 ||| (32768 : Int64))), .second] d3_33 rfl rfl ?_
      exact J6 _ (by rw [if_pos c4])
    · refine g_ifY C 34 d3_25 (feq (fun q => c4 ((lw_eq _ _).mp q))).2 (by decide) (by decide) ?_
      exact J6 _ (by rw [if_neg c4])
  by_cases c1 : (x0 &&& (255 : Int64)) = (0 : Int64)
  · refine g_ifN C 12 d3_9 (teq ((lw_eq _ _).mpr c1)).2 rfl ?_
    refine g_lloadN C 13 d3_12 rfl rfl ?_
    refine g_ldcJ C 16 (128 : Int64) d3_13 rfl (List.mem_of_getElem? (i := 31) rfl) ?_
    refine g_lor C 17 d3_16 rfl ?_
    refine g_lstoreN C 18 #[.val (.long x0), .second, .val (.long ((0 : Int64) ||| (128 : Int64))), .second] d3_17 rfl rfl ?_
    exact J3 _ (by rw [if_pos c1])
  · refine g_ifY C 18 d3_9 (feq (fun q => c1 ((lw_eq _ _).mp q))).2 (by decide) (by decide) ?_
    exact J3 _ (by rw [if_neg c1])
theorem d2_0 : decode prog_4_method_3_code 0 = .ok (.lload_n 0, 1) := by decide +kernel
theorem d2_1 : decode prog_4_method_3_code 1 = .ok (.ldc2_w 19, 3) := by decide +kernel
theorem d2_4 : decode prog_4_method_3_code 4 = .ok (.lsub, 1) := by decide +kernel
theorem d2_5 : decode prog_4_method_3_code 5 = .ok (.lload_n 0, 1) := by decide +kernel
theorem d2_6 : decode prog_4_method_3_code 6 = .ok (.ldc2_w 21, 3) := by decide +kernel
theorem d2_9 : decode prog_4_method_3_code 9 = .ok (.lxor, 1) := by decide +kernel
theorem d2_10 : decode prog_4_method_3_code 10 = .ok (.land, 1) := by decide +kernel
theorem d2_11 : decode prog_4_method_3_code 11 = .ok (.ldc2_w 23, 3) := by decide +kernel
theorem d2_14 : decode prog_4_method_3_code 14 = .ok (.land, 1) := by decide +kernel
theorem d2_15 : decode prog_4_method_3_code 15 = .ok (.lreturn, 1) := by decide +kernel
def f_zero (x0 : Int64) : Int64 := (((x0 - (72340172838076673 : Int64)) &&& (x0 ^^^ (-1 : Int64))) &&& (-9187201950435737472 : Int64))
set_option maxRecDepth 65536 in
set_option maxHeartbeats 40000000 in
theorem con_f_zero (l : Launch) (Z : State) (a0 : Array Value) (hw : ∀ d ∈ tables_1, d.before a0 Z = true) (h0 : Heap) (ds : Wd) (x0 : Int64)  :
    Con l Z (⟨"com/example/serra/serra/ByteWords", "zeroBytes", "(J)J"⟩ : MethodName) prog_4_method_3_code 2 (some .long) ({ frames := 0, cells := 0, slots := 0, locals := 0 } : Room) h0 #[(.long x0)] ds (fun v ds' => v = some (.long (f_zero x0)) ∧ ds = ds') := by
  refine con_of (a0 := a0) (Ls := #[.val (.long x0), .second]) (plainFor_of_name (by first | (simp [plainName, overriddenIn]; done) | decide +kernel)) hw (fun m => by first | (simp [entryFrame, mkF, argsToLocals, Value.category]; done) | rfl) ?_
  intro p e s m below meth c C
  refine g_lloadN C 1 d2_0 rfl rfl ?_
  refine g_ldcJ C 4 (72340172838076673 : Int64) d2_1 rfl (List.mem_of_getElem? (i := 10) rfl) ?_
  refine g_lsub C 5 d2_4 rfl ?_
  refine g_lloadN C 6 d2_5 rfl rfl ?_
  refine g_ldcJ C 9 (-1 : Int64) d2_6 rfl (List.mem_of_getElem? (i := 11) rfl) ?_
  refine g_lxor C 10 d2_9 rfl ?_
  refine g_land C 11 d2_10 rfl ?_
  refine g_ldcJ C 14 (-9187201950435737472 : Int64) d2_11 rfl (List.mem_of_getElem? (i := 12) rfl) ?_
  refine g_land C 15 d2_14 rfl ?_
  exact g_lret C d2_15 (by decide) (by decide) ⟨by rfl, rfl⟩
def own_F (t0 t1 t2 t3 t4 t5 t6 t7 : Bool) : BitVec 64 :=
  let a0 : BitVec 64 := if t0 then 0#64 ||| 128#64 else 0#64
  let a1 : BitVec 64 := if t1 then a0 ||| 32768#64 else a0
  let a2 : BitVec 64 := if t2 then a1 ||| 8388608#64 else a1
  let a3 : BitVec 64 := if t3 then a2 ||| 2147483648#64 else a2
  let a4 : BitVec 64 := if t4 then a3 ||| 549755813888#64 else a3
  let a5 : BitVec 64 := if t5 then a4 ||| 140737488355328#64 else a4
  let a6 : BitVec 64 := if t6 then a5 ||| 36028797018963968#64 else a5
  if t7 then a6 ||| 9223372036854775808#64 else a6
abbrev own_by (x : BitVec 64) (i : Nat) : BitVec 8 := x.extractLsb' (8 * i) 8
theorem own_F1 : ∀ t0 t1 t2 t3 t4 t5 t6 t7 : Bool, own_by (own_F t0 t1 t2 t3 t4 t5 t6 t7) 0 = (if t0 then 128#8 else 0#8) ∧ own_by (own_F t0 t1 t2 t3 t4 t5 t6 t7) 1 = (if t1 then 128#8 else 0#8) ∧ own_by (own_F t0 t1 t2 t3 t4 t5 t6 t7) 2 = (if t2 then 128#8 else 0#8) ∧ own_by (own_F t0 t1 t2 t3 t4 t5 t6 t7) 3 = (if t3 then 128#8 else 0#8) ∧ own_by (own_F t0 t1 t2 t3 t4 t5 t6 t7) 4 = (if t4 then 128#8 else 0#8) ∧ own_by (own_F t0 t1 t2 t3 t4 t5 t6 t7) 5 = (if t5 then 128#8 else 0#8) ∧ own_by (own_F t0 t1 t2 t3 t4 t5 t6 t7) 6 = (if t6 then 128#8 else 0#8) ∧ own_by (own_F t0 t1 t2 t3 t4 t5 t6 t7) 7 = (if t7 then 128#8 else 0#8) := by decide +kernel
theorem own_F2 : ∀ t0 t1 t2 t3 t4 t5 t6 t7 : Bool, ∀ G, G = own_F t0 t1 t2 t3 t4 t5 t6 t7 ^^^ (own_F t0 t1 t2 t3 t4 t5 t6 t7 - 1#64) → own_by G 0 = 255#8 ∧ own_by G 1 = (if t0 then 0#8 else 255#8) ∧ own_by G 2 = (if t0 || t1 then 0#8 else 255#8) ∧ own_by G 3 = (if t0 || t1 || t2 then 0#8 else 255#8) ∧ own_by G 4 = (if t0 || t1 || t2 || t3 then 0#8 else 255#8) ∧ own_by G 5 = (if t0 || t1 || t2 || t3 || t4 then 0#8 else 255#8) ∧ own_by G 6 = (if t0 || t1 || t2 || t3 || t4 || t5 then 0#8 else 255#8) ∧ own_by G 7 = (if t0 || t1 || t2 || t3 || t4 || t5 || t6 then 0#8 else 255#8) := by
  have h : ∀ t0 t1 t2 t3 t4 t5 t6 t7 : Bool, own_by (own_F t0 t1 t2 t3 t4 t5 t6 t7 ^^^ (own_F t0 t1 t2 t3 t4 t5 t6 t7 - 1#64)) 0 = 255#8 ∧ own_by (own_F t0 t1 t2 t3 t4 t5 t6 t7 ^^^ (own_F t0 t1 t2 t3 t4 t5 t6 t7 - 1#64)) 1 = (if t0 then 0#8 else 255#8) ∧ own_by (own_F t0 t1 t2 t3 t4 t5 t6 t7 ^^^ (own_F t0 t1 t2 t3 t4 t5 t6 t7 - 1#64)) 2 = (if t0 || t1 then 0#8 else 255#8) ∧ own_by (own_F t0 t1 t2 t3 t4 t5 t6 t7 ^^^ (own_F t0 t1 t2 t3 t4 t5 t6 t7 - 1#64)) 3 = (if t0 || t1 || t2 then 0#8 else 255#8) ∧ own_by (own_F t0 t1 t2 t3 t4 t5 t6 t7 ^^^ (own_F t0 t1 t2 t3 t4 t5 t6 t7 - 1#64)) 4 = (if t0 || t1 || t2 || t3 then 0#8 else 255#8) ∧ own_by (own_F t0 t1 t2 t3 t4 t5 t6 t7 ^^^ (own_F t0 t1 t2 t3 t4 t5 t6 t7 - 1#64)) 5 = (if t0 || t1 || t2 || t3 || t4 then 0#8 else 255#8) ∧ own_by (own_F t0 t1 t2 t3 t4 t5 t6 t7 ^^^ (own_F t0 t1 t2 t3 t4 t5 t6 t7 - 1#64)) 6 = (if t0 || t1 || t2 || t3 || t4 || t5 then 0#8 else 255#8) ∧ own_by (own_F t0 t1 t2 t3 t4 t5 t6 t7 ^^^ (own_F t0 t1 t2 t3 t4 t5 t6 t7 - 1#64)) 7 = (if t0 || t1 || t2 || t3 || t4 || t5 || t6 then 0#8 else 255#8) := by decide +kernel
  intro t0 t1 t2 t3 t4 t5 t6 t7 G hG
  rw [hG]; exact h t0 t1 t2 t3 t4 t5 t6 t7
theorem own_ext {x y : BitVec 64} (h : own_by x 0 = own_by y 0 ∧ own_by x 1 = own_by y 1 ∧ own_by x 2 = own_by y 2 ∧ own_by x 3 = own_by y 3 ∧ own_by x 4 = own_by y 4 ∧ own_by x 5 = own_by y 5 ∧ own_by x 6 = own_by y 6 ∧ own_by x 7 = own_by y 7) : x = y := by
  apply BitVec.eq_of_getLsbD_eq
  intro i hi
  have k : ∀ (j r : Nat), own_by x j = own_by y j → r < 8 → x.getLsbD (8 * j + r) = y.getLsbD (8 * j + r) := by
    intro j r e hr
    have q := congrArg (fun z => z.getLsbD r) e
    simpa [BitVec.getLsbD_extractLsb', hr] using q
  have hd : i = 8 * (i / 8) + i % 8 := by omega
  rw [hd]
  have hr : i % 8 < 8 := by omega
  have hj : i / 8 = 0 ∨ i / 8 = 1 ∨ i / 8 = 2 ∨ i / 8 = 3 ∨ i / 8 = 4 ∨ i / 8 = 5 ∨ i / 8 = 6 ∨ i / 8 = 7 := by omega
  rcases hj with e | e | e | e | e | e | e | e <;> rw [e]
  · exact k _ _ h.1 hr
  · exact k _ _ h.2.1 hr
  · exact k _ _ h.2.2.1 hr
  · exact k _ _ h.2.2.2.1 hr
  · exact k _ _ h.2.2.2.2.1 hr
  · exact k _ _ h.2.2.2.2.2.1 hr
  · exact k _ _ h.2.2.2.2.2.2.1 hr
  · exact k _ _ h.2.2.2.2.2.2.2 hr
theorem own_bn (x : BitVec 64) (i : Nat) : (own_by x i).toNat = x.toNat / 2 ^ (8 * i) % 256 := by
  simp [BitVec.extractLsb'_toNat, Nat.shiftRight_eq_div_pow]
/-- a byte that is 0 -/
theorem own_s0 (w : BitVec 64) (n : Nat) (i : Nat) (hi : i < 8) (hn : n = (w - 72340172838076673#64).toNat) (h : (own_by w i) = 0#8) : 254 ≤ n / 2 ^ (8 * i) % 256 := by
  have h' : w.toNat / 2 ^ (8 * i) % 256 = 0 := by rw [← own_bn, h]; rfl
  have hw := w.isLt
  subst hn
  rw [BitVec.toNat_sub]
  generalize w.toNat = v at *
  have e : (72340172838076673#64).toNat = 72340172838076673 := rfl
  rw [e]
  match i, hi with
  | 0, _ => simp only [Nat.mul_zero, Nat.pow_zero, Nat.div_one] at *; omega
  | 1, _ => simp only [Nat.reduceMul, Nat.reducePow] at *; omega
  | 2, _ => simp only [Nat.reduceMul, Nat.reducePow] at *; omega
  | 3, _ => simp only [Nat.reduceMul, Nat.reducePow] at *; omega
  | 4, _ => simp only [Nat.reduceMul, Nat.reducePow] at *; omega
  | 5, _ => simp only [Nat.reduceMul, Nat.reducePow] at *; omega
  | 6, _ => simp only [Nat.reduceMul, Nat.reducePow] at *; omega
  | 7, _ => simp only [Nat.reduceMul, Nat.reducePow] at *; omega
/-- no byte below is 0: no borrow comes in -/
theorem own_s1 (w : BitVec 64) (n : Nat) (i : Nat) (hi : i < 8) (hn : n = (w - 72340172838076673#64).toNat) (h : ∀ j, j < i → own_by w j ≠ 0#8) : n / 2 ^ (8 * i) % 256 = (w.toNat / 2 ^ (8 * i) % 256 + 255) % 256 := by
  have h' : ∀ j, j < i → ¬ w.toNat / 2 ^ (8 * j) % 256 = 0 := by
    intro j hj e
    apply h j hj
    apply BitVec.eq_of_toNat_eq
    rw [own_bn, e]; rfl
  have hw := w.isLt
  subst hn
  rw [BitVec.toNat_sub]
  generalize w.toNat = v at *
  have e : (72340172838076673#64).toNat = 72340172838076673 := rfl
  rw [e]
  match i, hi with
  | 0, _ => simp only [Nat.mul_zero, Nat.pow_zero, Nat.div_one]; omega
  | 1, _ =>
    have g0 := h' 0 (by decide)
    simp only [Nat.reduceMul, Nat.reducePow, Nat.div_one] at *; omega
  | 2, _ =>
    have g0 := h' 0 (by decide); have g1 := h' 1 (by decide)
    simp only [Nat.reduceMul, Nat.reducePow, Nat.div_one] at *; omega
  | 3, _ =>
    have g0 := h' 0 (by decide); have g1 := h' 1 (by decide); have g2 := h' 2 (by decide)
    simp only [Nat.reduceMul, Nat.reducePow, Nat.div_one] at *; omega
  | 4, _ =>
    have g0 := h' 0 (by decide); have g1 := h' 1 (by decide); have g2 := h' 2 (by decide); have g3 := h' 3 (by decide)
    simp only [Nat.reduceMul, Nat.reducePow, Nat.div_one] at *; omega
  | 5, _ =>
    have g0 := h' 0 (by decide); have g1 := h' 1 (by decide); have g2 := h' 2 (by decide); have g3 := h' 3 (by decide); have g4 := h' 4 (by decide)
    simp only [Nat.reduceMul, Nat.reducePow, Nat.div_one] at *; omega
  | 6, _ =>
    have g0 := h' 0 (by decide); have g1 := h' 1 (by decide); have g2 := h' 2 (by decide); have g3 := h' 3 (by decide); have g4 := h' 4 (by decide); have g5 := h' 5 (by decide)
    simp only [Nat.reduceMul, Nat.reducePow, Nat.div_one] at *; omega
  | 7, _ =>
    have g0 := h' 0 (by decide); have g1 := h' 1 (by decide); have g2 := h' 2 (by decide); have g3 := h' 3 (by decide); have g4 := h' 4 (by decide); have g5 := h' 5 (by decide); have g6 := h' 6 (by decide)
    simp only [Nat.reduceMul, Nat.reducePow, Nat.div_one] at *; omega
def own_rb (d b : BitVec 8) : BitVec 8 := (d &&& (b ^^^ 255#8)) &&& 128#8
theorem own_rbA : ∀ d : BitVec 8, 254 ≤ d.toNat → own_rb d 0#8 = 128#8 := by decide +kernel
theorem own_rbB : ∀ b : BitVec 8, own_rb (b + 255#8) b = if b = 0#8 then 128#8 else 0#8 := by decide +kernel
def own_r (w : BitVec 64) : BitVec 64 := ((w - 72340172838076673#64) &&& (w ^^^ 18446744073709551615#64)) &&& 9259542123273814144#64
theorem own_rby (w : BitVec 64) (i : Nat) (hi : i < 8) : own_by (own_r w) i = own_rb (own_by (w - 72340172838076673#64) i) (own_by w i) := by
  have e1 : own_by 18446744073709551615#64 i = 255#8 := by
    match i, hi with
    | 0, _ | 1, _ | 2, _ | 3, _ | 4, _ | 5, _ | 6, _ | 7, _ => decide +kernel
  have e2 : own_by 9259542123273814144#64 i = 128#8 := by
    match i, hi with
    | 0, _ | 1, _ | 2, _ | 3, _ | 4, _ | 5, _ | 6, _ | 7, _ => decide +kernel
  unfold own_r own_rb
  rw [← e1, ← e2]
  simp only [own_by, BitVec.extractLsb'_and, BitVec.extractLsb'_xor]
theorem own_z0 (w : BitVec 64) (i : Nat) (hi : i < 8) (h : own_by w i = 0#8) : own_by (own_r w) i = 128#8 := by
  rw [own_rby w i hi, h]
  apply own_rbA
  rw [own_bn]
  exact own_s0 w _ i hi rfl h
theorem own_z1 (w : BitVec 64) (i : Nat) (hi : i < 8) (h : ∀ j, j < i → own_by w j ≠ 0#8) : own_by (own_r w) i = if own_by w i = 0#8 then 128#8 else 0#8 := by
  rw [own_rby w i hi, ← own_rbB]
  congr 1
  apply BitVec.eq_of_toNat_eq
  rw [BitVec.toNat_add, own_bn, own_bn]
  exact own_s1 w _ i hi rfl h
theorem own_mk (w : BitVec 64) (i : Nat) (hi : i < 8) : w &&& (255#64 <<< (8 * i)) = 0#64 ↔ own_by w i = 0#8 := by
  constructor
  · intro h
    apply BitVec.eq_of_getLsbD_eq
    intro r hr
    have q := congrArg (fun z => z.getLsbD (8 * i + r)) h
    have t : ∀ r, r < 8 → (255#64).getLsbD r = true := by decide +kernel
    simp only [BitVec.getLsbD_and, BitVec.getLsbD_shiftLeft] at q
    have a1 : (8 * i + r < 64) := by omega
    have a2 : ¬ (8 * i + r < 8 * i) := by omega
    have a3 : 8 * i + r - 8 * i = r := by omega
    rw [a3, t r hr] at q
    simp only [a1, a2, decide_true, decide_false, Bool.not_false, Bool.and_true, BitVec.getLsbD_zero] at q
    simp only [BitVec.getLsbD_extractLsb', hr, decide_true, Bool.true_and, BitVec.getLsbD_zero]
    exact q
  · intro h
    apply BitVec.eq_of_getLsbD_eq
    intro k hk
    simp only [BitVec.getLsbD_and, BitVec.getLsbD_shiftLeft, BitVec.getLsbD_zero]
    by_cases c : 8 * i ≤ k ∧ k < 8 * i + 8
    · have q := congrArg (fun z => z.getLsbD (k - 8 * i)) h
      have a1 : k - 8 * i < 8 := by omega
      have a2 : 8 * i + (k - 8 * i) = k := by omega
      simp [BitVec.getLsbD_extractLsb', a1, a2] at q
      simp [q]
    · have t : ∀ r, 8 ≤ r → (255#64).getLsbD r = false := by
        intro r hr
        rw [BitVec.getLsbD_ofNat]
        have : Nat.testBit 255 r = false := Nat.testBit_lt_two_pow (Nat.lt_of_lt_of_le (by decide : 255 < 2 ^ 8) (Nat.pow_le_pow_right (by decide) hr))
        simp [this]
      by_cases c1 : k < 8 * i
      · simp [c1]
      · simp [t (k - 8 * i) (by omega)]
theorem own_tops (w : BitVec 64) : (f_tops (Int64.ofBitVec w)).toBitVec = own_F (decide (own_by w 0 = 0#8)) (decide (own_by w 1 = 0#8)) (decide (own_by w 2 = 0#8)) (decide (own_by w 3 = 0#8)) (decide (own_by w 4 = 0#8)) (decide (own_by w 5 = 0#8)) (decide (own_by w 6 = 0#8)) (decide (own_by w 7 = 0#8)) := by
  have k : ∀ (c : Int64) (i : Nat), i < 8 → c.toBitVec = 255#64 <<< (8 * i) → ((Int64.ofBitVec w &&& c = 0) ↔ own_by w i = 0#8) := by
    intro c i hi hc
    rw [← own_mk w i hi, ← hc, ← Int64.toBitVec_inj]
    simp
  have g : ∀ (P : Prop) [Decidable P] (a b : Int64), (if P then a else b).toBitVec = if P then a.toBitVec else b.toBitVec := by
    intro P _ a b; split <;> rfl
  unfold f_tops own_F
  simp only [k 255 0 (by decide) (by decide), k 65280 1 (by decide) (by decide), k 16711680 2 (by decide) (by decide), k 4278190080 3 (by decide) (by decide), k 1095216660480 4 (by decide) (by decide), k 280375465082880 5 (by decide) (by decide), k 71776119061217280 6 (by decide) (by decide), k (-72057594037927936) 7 (by decide) (by decide), g, Int64.toBitVec_or, decide_eq_true_eq]
  rfl
theorem own_zero (w : BitVec 64) : (f_zero (Int64.ofBitVec w)).toBitVec = own_r w := by
  unfold f_zero own_r
  simp only [Int64.toBitVec_and, Int64.toBitVec_xor, Int64.toBitVec_sub, Int64.toBitVec_ofBitVec]
  rfl
theorem own_law1 (x : Int64) : (f_zero x &&& (9187201950435737471 : Int64)) = 0 := by
  obtain ⟨w, rfl⟩ : ∃ w, x = Int64.ofBitVec w := ⟨x.toBitVec, by simp⟩
  apply Int64.toBitVec_inj.mp
  rw [Int64.toBitVec_and, own_zero]
  unfold own_r
  rw [BitVec.and_assoc]
  have e : (9259542123273814144#64 &&& (9187201950435737471 : Int64).toBitVec) = 0#64 := by decide
  rw [e]; simp
theorem own_law2 (x : Int64) : (f_zero x &&& f_tops x) = f_tops x := by
  obtain ⟨w, rfl⟩ : ∃ w, x = Int64.ofBitVec w := ⟨x.toBitVec, by simp⟩
  apply Int64.toBitVec_inj.mp
  rw [Int64.toBitVec_and, own_zero, own_tops]
  obtain ⟨e0, e1, e2, e3, e4, e5, e6, e7⟩ := own_F1 (decide (own_by w 0 = 0#8)) (decide (own_by w 1 = 0#8)) (decide (own_by w 2 = 0#8)) (decide (own_by w 3 = 0#8)) (decide (own_by w 4 = 0#8)) (decide (own_by w 5 = 0#8)) (decide (own_by w 6 = 0#8)) (decide (own_by w 7 = 0#8))
  have st : ∀ i, i < 8 → (own_by (own_r w) i &&& (if decide (own_by w i = 0#8) then 128#8 else 0#8)) = (if decide (own_by w i = 0#8) then 128#8 else 0#8) := by
    intro i hi
    by_cases h : own_by w i = 0#8
    · rw [own_z0 w i hi h]; simp [h]
    · simp [h]
  apply own_ext
  simp only [own_by, BitVec.extractLsb'_and] at *
  rw [e0, e1, e2, e3, e4, e5, e6, e7]
  exact ⟨st 0 (by decide), st 1 (by decide), st 2 (by decide), st 3 (by decide), st 4 (by decide), st 5 (by decide), st 6 (by decide), st 7 (by decide)⟩
theorem own_law3 (x : Int64) : (f_zero x &&& (f_tops x ^^^ (f_tops x - (1 : Int64)))) = (f_tops x &&& (f_tops x ^^^ (f_tops x - (1 : Int64)))) := by
  obtain ⟨w, rfl⟩ : ∃ w, x = Int64.ofBitVec w := ⟨x.toBitVec, by simp⟩
  apply Int64.toBitVec_inj.mp
  simp only [Int64.toBitVec_and, Int64.toBitVec_xor, Int64.toBitVec_sub, own_zero, own_tops]
  have one : (1 : Int64).toBitVec = 1#64 := rfl
  rw [one]
  obtain ⟨e0, e1, e2, e3, e4, e5, e6, e7⟩ := own_F1 (decide (own_by w 0 = 0#8)) (decide (own_by w 1 = 0#8)) (decide (own_by w 2 = 0#8)) (decide (own_by w 3 = 0#8)) (decide (own_by w 4 = 0#8)) (decide (own_by w 5 = 0#8)) (decide (own_by w 6 = 0#8)) (decide (own_by w 7 = 0#8))
  obtain ⟨g0, g1, g2, g3, g4, g5, g6, g7⟩ := own_F2 (decide (own_by w 0 = 0#8)) (decide (own_by w 1 = 0#8)) (decide (own_by w 2 = 0#8)) (decide (own_by w 3 = 0#8)) (decide (own_by w 4 = 0#8)) (decide (own_by w 5 = 0#8)) (decide (own_by w 6 = 0#8)) (decide (own_by w 7 = 0#8)) _ rfl
  generalize own_F (decide (own_by w 0 = 0#8)) (decide (own_by w 1 = 0#8)) (decide (own_by w 2 = 0#8)) (decide (own_by w 3 = 0#8)) (decide (own_by w 4 = 0#8)) (decide (own_by w 5 = 0#8)) (decide (own_by w 6 = 0#8)) (decide (own_by w 7 = 0#8)) = F at *
  generalize F ^^^ (F - 1#64) = G at *
  have st : ∀ (i : Nat) (B : Bool), i < 8 → (B = false → ∀ j, j < i → own_by w j ≠ 0#8) → (own_by (own_r w) i &&& (if B then 0#8 else 255#8)) = ((if decide (own_by w i = 0#8) then 128#8 else 0#8) &&& (if B then 0#8 else 255#8)) := by
    intro i B hi hB
    cases B with
    | true => simp
    | false =>
      rw [own_z1 w i hi (hB rfl)]
      simp
  apply own_ext
  simp only [own_by, BitVec.extractLsb'_and] at *
  rw [e0, e1, e2, e3, e4, e5, e6, e7, g0, g1, g2, g3, g4, g5, g6, g7]
  refine ⟨st 0 false (by decide) (fun _ j hj => absurd hj (Nat.not_lt_zero j)), st 1 _ (by decide) ?_, st 2 _ (by decide) ?_, st 3 _ (by decide) ?_, st 4 _ (by decide) ?_, st 5 _ (by decide) ?_, st 6 _ (by decide) ?_, st 7 _ (by decide) ?_⟩
  all_goals
    intro hB j hj
    simp only [Bool.or_eq_false_iff, decide_eq_false_iff_not] at hB
  · match j, hj with
    | 0, _ => exact hB
  · match j, hj with
    | 0, _ => exact hB.1
    | 1, _ => exact hB.2
  · match j, hj with
    | 0, _ => exact hB.1.1
    | 1, _ => exact hB.1.2
    | 2, _ => exact hB.2
  · match j, hj with
    | 0, _ => exact hB.1.1.1
    | 1, _ => exact hB.1.1.2
    | 2, _ => exact hB.1.2
    | 3, _ => exact hB.2
  · match j, hj with
    | 0, _ => exact hB.1.1.1.1
    | 1, _ => exact hB.1.1.1.2
    | 2, _ => exact hB.1.1.2
    | 3, _ => exact hB.1.2
    | 4, _ => exact hB.2
  · match j, hj with
    | 0, _ => exact hB.1.1.1.1.1
    | 1, _ => exact hB.1.1.1.1.2
    | 2, _ => exact hB.1.1.1.2
    | 3, _ => exact hB.1.1.2
    | 4, _ => exact hB.1.2
    | 5, _ => exact hB.2
  · match j, hj with
    | 0, _ => exact hB.1.1.1.1.1.1
    | 1, _ => exact hB.1.1.1.1.1.2
    | 2, _ => exact hB.1.1.1.1.2
    | 3, _ => exact hB.1.1.1.2
    | 4, _ => exact hB.1.1.2
    | 5, _ => exact hB.1.2
    | 6, _ => exact hB.2

set_option maxRecDepth 65536 in
set_option maxHeartbeats 40000000 in
theorem con_law (l : Launch) (Z : State) (a0 : Array Value) (hw : ∀ d ∈ tables_1, d.before a0 Z = true) (h0 : Heap) (x0 : Int64) (x1 : Int32)  :
    Con l Z x code maxLocals ret room_1 h0 #[(.long x0), (.int x1)] [] (fun v ds' => v = some (.int 1)) := by
  refine con_of (a0 := a0) (Ls := #[.val (.long x0), .second, .val (.int x1), .unset, .unset, .unset, .unset, .unset, .unset, .unset, .unset]) (plainFor_of_name (by first | (simp [plainName, overriddenIn]; done) | decide +kernel)) hw (fun m => by first | (simp [entryFrame, mkF, argsToLocals, Value.category, maxLocals]; done) | rfl) ?_
  intro p e s m below meth c C
  refine g_lloadN C 1 at_0 rfl rfl ?_
  refine g_iloadN C 2 at_1 rfl rfl ?_
  refine g_static C 5 2 (argsL := [(.int x1)]) (St := [(.long x0)]) (con_f_mask l Z a0 C.2.2.1 h0 [] x1) (List.mem_of_getElem? (i := 0) rfl) (List.mem_of_getElem? (i := 1) rfl) (List.mem_of_getElem? (i := 2) rfl) (List.mem_of_getElem? (i := 3) rfl) (by decide) at_2 rfl rfl (lenOf (ps := [.int]) (r := some .long) (by decide) rfl) rfl (Nat.le_of_eq rfl) (by decide) (by decide) (by decide) (by decide) ?_
  rintro _ _ ⟨rfl, rfl⟩
  show Go _ _ _ _ _ _ _ _ _ _ _ _ [] 0 0 5 #[.val (.long x0), .second, .val (.int x1), .unset, .unset, .unset, .unset, .unset, .unset, .unset, .unset] [(.long (f_mask x1)), (.long x0)]
  refine g_ldcJ C 8 (-1 : Int64) at_5 rfl (List.mem_of_getElem? (i := 5) rfl) ?_
  refine g_lxor C 9 at_8 rfl ?_
  refine g_land C 10 at_9 rfl ?_
  refine g_lstoreN C 11 #[.val (.long x0), .second, .val (.int x1), .val (.long (x0 &&& ((f_mask x1) ^^^ (-1 : Int64)))), .second, .unset, .unset, .unset, .unset, .unset, .unset] at_10 rfl rfl ?_
  generalize hv1 : (x0 &&& ((f_mask x1) ^^^ (-1 : Int64))) = v1
  refine g_lloadN C 12 at_11 rfl rfl ?_
  refine g_static C 15 0 (argsL := [(.long v1)]) (St := []) (con_f_zero l Z a0 C.2.2.1 h0 [] v1) (List.mem_of_getElem? (i := 6) rfl) (List.mem_of_getElem? (i := 7) rfl) (List.mem_of_getElem? (i := 8) rfl) (List.mem_of_getElem? (i := 9) rfl) (by decide) at_12 rfl rfl (lenOf (ps := [.long]) (r := some .long) (by decide) rfl) rfl (Nat.le_of_eq rfl) (by decide) (by decide) (by decide) (by decide) ?_
  rintro _ _ ⟨rfl, rfl⟩
  show Go _ _ _ _ _ _ _ _ _ _ _ _ [] 0 0 15 #[.val (.long x0), .second, .val (.int x1), .val (.long v1), .second, .unset, .unset, .unset, .unset, .unset, .unset] [(.long (f_zero v1))]
  refine g_lstore C 17 #[.val (.long x0), .second, .val (.int x1), .val (.long v1), .second, .val (.long (f_zero v1)), .second, .unset, .unset, .unset, .unset] at_15 rfl rfl ?_
  generalize hv2 : (f_zero v1) = v2
  refine g_lloadN C 18 at_17 rfl rfl ?_
  refine g_static C 21 0 (argsL := [(.long v1)]) (St := []) (con_f_tops l Z a0 C.2.2.1 h0 [] v1) (List.mem_of_getElem? (i := 13) rfl) (List.mem_of_getElem? (i := 14) rfl) (List.mem_of_getElem? (i := 2) rfl) (List.mem_of_getElem? (i := 15) rfl) (by decide) at_18 rfl rfl (lenOf (ps := [.long]) (r := some .long) (by decide) rfl) rfl (Nat.le_of_eq rfl) (by decide) (by decide) (by decide) (by decide) ?_
  rintro _ _ ⟨rfl, rfl⟩
  show Go _ _ _ _ _ _ _ _ _ _ _ _ [] 0 0 21 #[.val (.long x0), .second, .val (.int x1), .val (.long v1), .second, .val (.long v2), .second, .unset, .unset, .unset, .unset] [(.long (f_tops v1))]
  refine g_lstore C 23 #[.val (.long x0), .second, .val (.int x1), .val (.long v1), .second, .val (.long v2), .second, .val (.long (f_tops v1)), .second, .unset, .unset] at_21 rfl rfl ?_
  generalize hv3 : (f_tops v1) = v3
  refine g_lload C 25 at_23 rfl rfl ?_
  refine g_lload C 27 at_25 rfl rfl ?_
  refine g_lconst C 28 (1 : Int64) at_27 rfl rfl ?_
  refine g_lsub C 29 at_28 rfl ?_
  refine g_lxor C 30 at_29 rfl ?_
  refine g_lstore C 32 #[.val (.long x0), .second, .val (.int x1), .val (.long v1), .second, .val (.long v2), .second, .val (.long v3), .second, .val (.long (v3 ^^^ (v3 - (1 : Int64)))), .second] at_30 rfl rfl ?_
  generalize hv4 : (v3 ^^^ (v3 - (1 : Int64))) = v4
  refine g_lload C 34 at_32 rfl rfl ?_
  refine g_ldcJ C 37 (9187201950435737471 : Int64) at_34 rfl (List.mem_of_getElem? (i := 30) rfl) ?_
  refine g_land C 38 at_37 rfl ?_
  refine g_lconst C 39 (0 : Int64) at_38 rfl rfl ?_
  refine g_lcmp C 40 at_39 rfl ?_
  refine g_ifY C 45 at_40 (teq ((lw_eq _ _).mpr ((by subst_vars; exact own_law1 _) : (v2 &&& (9187201950435737471 : Int64)) = (0 : Int64)))).1 (by decide) (by decide) ?_
  refine g_lload C 47 at_45 rfl rfl ?_
  refine g_lload C 49 at_47 rfl rfl ?_
  refine g_land C 50 at_49 rfl ?_
  refine g_lload C 52 at_50 rfl rfl ?_
  refine g_lcmp C 53 at_52 rfl ?_
  refine g_ifY C 58 at_53 (teq ((lw_eq _ _).mpr ((by subst_vars; exact own_law2 _) : (v2 &&& v3) = v3))).1 (by decide) (by decide) ?_
  refine g_lload C 60 at_58 rfl rfl ?_
  refine g_lload C 62 at_60 rfl rfl ?_
  refine g_land C 63 at_62 rfl ?_
  refine g_lload C 65 at_63 rfl rfl ?_
  refine g_lload C 67 at_65 rfl rfl ?_
  refine g_land C 68 at_67 rfl ?_
  refine g_lcmp C 69 at_68 rfl ?_
  refine g_ifN C 72 at_69 (teq ((lw_eq _ _).mpr ((by subst_vars; exact own_law3 _) : (v2 &&& v4) = (v3 &&& v4)))).2 rfl ?_
  refine g_iconst C 73 (1 : Int32) at_72 rfl rfl ?_
  refine g_goto C 77 at_73 (by decide) (by decide) ?_
  exact g_nret C (by simp) (z' := (1 : Int32)) (by decide) at_77 (by decide) (by decide) rfl
set_option maxRecDepth 65536 in
set_option maxHeartbeats 40000000 in
theorem comes_1 {Post : Tables → Env → Array Value → State → Outcome → State → Prop} (hpost : ∀ tb e args s v u, (limb_1_1.after args s (.returned v) u = true ∧ limb_1_2.after args s (.returned v) u = true ∧ True) → FrameEnd s (.returned v) u (Jvm.fieldLocs frame_1_writes args s ++ Jvm.arrayLocs frame_1_arrays args s ++ Jvm.staticLocs frame_1_statics s) 0 0 → Post tb e args s (.returned v) u) :
    ArmFor flags0 classFile x code maxLocals ret World_1 tables_1 room_1 Calls_1 rest_1 Pre_1 Post := by
  intro l hfl _ _ p e ha hc hk s m args below hf hA hF happ hP
  obtain ⟨hcalls, hrest, hpre⟩ := hP
  obtain ⟨-, -, -, hnamed, -, -, -, hat⟩ := (Spec.applies_iff hf).mp happ
  obtain ⟨hg, hn⟩ := and_e (Cond.before_iff.mp (show (Jvm.Cond.and given_1 narrow_1).before args s = true from hpre))
  obtain ⟨hcount, hg0⟩ := and_e hg
  obtain ⟨gi0, hg1⟩ := and_e hg0
  have gi1 := hg1
  obtain ⟨w0, w1, rfl⟩ : ∃ w0 w1 : Value, args = #[w0, w1] := by
    have hs : args.size = 2 := by simpa [Cond.value, given_1] using hcount
    obtain ⟨L⟩ := args
    match L, hs with
    | [w0, w1], _ => exact ⟨w0, w1, rfl⟩
  have hw := fun d (hd : d ∈ tables_1) => atoms_spec (ws := Jvm.Cond.code x code maxLocals ret :: tables_1) hat d (List.mem_cons_of_mem _ hd)
  have hfit : Fit s := fun {y c} hc i hi => by
    obtain ⟨ha, rfl⟩ := Array.getElem?_eq_some_iff.mp hc
    have q := List.all_eq_true.mp ((Array.all_eq_true_iff_forall_mem.mp hF) _ (Array.getElem_mem ha)) i (List.mem_range.mpr hi)
    simpa [Array.getElem?_eq_getElem hi] using q
  obtain ⟨i0, ei0⟩ := isL_v gi0
  obtain rfl : w0 = (.long i0) := Option.some.inj ei0
  obtain ⟨i1, ei1⟩ := is_v gi1
  obtain rfl : w1 = (.int i1) := Option.some.inj ei1
  obtain ⟨n, o, h1, h2, h3, _, L, rfl, ⟨ds', rfl, -, N⟩, hq⟩ := con_law l s _ hw s.heap i0 i1 s.heap (Wld.nil _) tables_1 p e ha hc hk s m _ below hf ((Spec.applies_iff_loose hf).mp happ).1 ⟨rfl, State.Warmed39.refl s, rfl⟩ trivial
  refine ⟨n, _, h1, h2, h3, hpost _ _ _ _ _ _ ⟨Cond.after_iff.mpr rfl, Cond.after_iff.mpr (eq_i res_at (Term.int_eval (1)) rfl), trivial⟩ ⟨hq.1, hq.2.1, (hq.2.2.sift fun y hy => Or.inr (N y hy)).mono (by decide) (by decide)⟩⟩
theorem main_1_1 : Claimed_1_1 := comes_1 fun _ _ _ _ _ _ h hF => ⟨h.1, hF⟩
theorem main_1_2 : Claimed_1_2 := comes_1 fun _ _ _ _ _ _ h hF => ⟨h.2.1, hF⟩
end Jvm.Pilot.@@N@@
namespace Jvm.Pilot.@@N@@
open Jvm Jvm.ClassFile Sem Op Lib Jvm.Free Jvm.Stand Jvm.Pilot.@@N@@.Jvm.D
/-! MADE BY PROGRAM (witnessworld.py) out of the Statement's table words and the real class files: 9 classes; the members and pool entries that the words name. The judged class is class 1, her method 3. -/
namespace start1
open Jvm.ClassFile
def u (s : String) : CpInfo := .utf8 (stringToUtf16 s)
/-- a pool by its gaps: so many unusable entries, then the entry; so many at the end -/
def gap : Nat → List CpInfo → List CpInfo
  | 0, r => r
  | n + 1, r => .unusable :: gap n r
def poolList (es : List (Nat × CpInfo)) (last : Nat) : List CpInfo := es.foldr (fun e r => gap e.1 (e.2 :: r)) (gap last [])
def pool (es : List (Nat × CpInfo)) (last : Nat) : Array CpInfo := ⟨poolList es last⟩
def fileOf (pool : Array CpInfo) (this : Nat) (attrs : Array Attribute := #[]) (ms : Array MethodInfo := #[]) (fl : Nat := 33) (sup : Nat := 0) (ifs : Array Nat := #[]) (fds : Array FieldInfo := #[]) : ClassFile where
  minorVersion := 0
  majorVersion := 65
  constantPool := pool
  accessFlags := fl
  thisClass := this
  superClass := sup
  interfaces := ifs
  fields := fds
  methods := ms
  attributes := attrs
def plain (name : String) (sup : Option ClassId) : Class where
  name := name
  kind := .ordinary
  loader := none
  accessFlags := 33
  super := sup
  interfaces := #[]
  cf := none
  fields := #[]
  methods := #[]
  instanceTypes := #[]
  staticTypes := #[]
  resolved := #[]
  callSites := []
  init := .initialized
  statics := none
  mirror := none

def pool0 : Array CpInfo := pool [(5, u "<init>"), (0, u "()V"), (1, .class_ 10), (1, u "java/lang/Object")] 113

def k0m0 : Method := { name := "<init>", desc := "()V", sig := { parameters := [], returnType := none }, accessFlags := 1, code := none }
/-- java/lang/Object -/
def k0 : Class := { plain "java/lang/Object" none with
  accessFlags := 33
  interfaces := #[]
  cf := some (fileOf pool0 8 #[] #[{ accessFlags := 1, nameIndex := 5, descriptorIndex := 6, attributes := #[] }] 33 0 #[] #[])
  fields := #[]
  methods := #[k0m0]
  instanceTypes := #[]
  staticTypes := #[]
  resolved := Array.replicate 124 none
  statics := none }

def pool1 : Array CpInfo := pool [(2, .class_ 4), (1, u "java/lang/Object"), (0, u "<init>"), (0, u "()V"), (0, .long 255), (1, .long 65280), (1, .long 16711680), (1, .long 4278190080), (1, .long 1095216660480), (1, .long 280375465082880), (1, .long 71776119061217280), (1, .long 18374686479671623680), (1, .long 128), (1, .long 32768), (1, .long 8388608), (1, .long 2147483648), (1, .long 549755813888), (1, .long 140737488355328), (1, .long 36028797018963968), (1, .long 9223372036854775808), (1, .methodref 40 41), (0, .class_ 42), (0, .nameAndType 43 44), (0, u "com/example/serra/serra/ByteWordsZeroBytesPinLaw"), (0, u "byteMask"), (0, u "(I)J"), (0, .long 18446744073709551615), (1, .methodref 48 49), (0, .class_ 50), (0, .nameAndType 51 52), (0, u "com/example/serra/serra/ByteWords"), (0, u "zeroBytes"), (0, u "(J)J"), (0, .methodref 40 54), (0, .nameAndType 55 52), (0, u "zeroTops"), (0, .long 9187201950435737471), (4, u "law"), (0, u "(JI)Z")] 2

def k1m0 : Method := { name := "<init>", desc := "()V", sig := { parameters := [], returnType := none }, accessFlags := 2, code := none }
def k1c1 : Code := { maxStack := 4, maxLocals := 3, code := method_2_code, exceptionTable := #[], attributes := #[] }
def k1m1 : Method := { name := "byteMask", desc := "(I)J", sig := { parameters := [.int], returnType := some .long }, accessFlags := 10, code := some k1c1 }
def k1c2 : Code := { maxStack := 4, maxLocals := 4, code := method_3_code, exceptionTable := #[], attributes := #[] }
def k1m2 : Method := { name := "zeroTops", desc := "(J)J", sig := { parameters := [.long], returnType := some .long }, accessFlags := 10, code := some k1c2 }
def k1c3 : Code := { maxStack := 6, maxLocals := 11, code := code, exceptionTable := #[], attributes := #[] }
def k1m3 : Method := { name := "law", desc := "(JI)Z", sig := { parameters := [.long, .int], returnType := some .boolean }, accessFlags := 9, code := some k1c3 }
/-- com/example/serra/serra/ByteWordsZeroBytesPinLaw -/
def k1 : Class := { plain "com/example/serra/serra/ByteWordsZeroBytesPinLaw" (some 0) with
  accessFlags := 49
  interfaces := #[]
  cf := some (fileOf pool1 40 #[] #[{ accessFlags := 2, nameIndex := 5, descriptorIndex := 6, attributes := #[] }, { accessFlags := 10, nameIndex := 43, descriptorIndex := 44, attributes := #[] }, { accessFlags := 10, nameIndex := 55, descriptorIndex := 52, attributes := #[] }, { accessFlags := 9, nameIndex := 61, descriptorIndex := 62, attributes := #[] }] 49 2 #[] #[])
  fields := #[]
  methods := #[k1m0, k1m1, k1m2, k1m3]
  instanceTypes := #[]
  staticTypes := #[]
  resolved := Array.replicate 65 none
  statics := none }

def pool2 : Array CpInfo := pool [(2, .class_ 4), (1, u "java/lang/Object"), (0, u "<init>"), (0, u "()V"), (1, .class_ 10), (1, u "com/example/serra/serra/ByteWords"), (0, u "WORDS"), (0, u "Ljava/lang/invoke/VarHandle;"), (6, .long 72340172838076673), (1, .long 18446744073709551615), (1, .long 9259542123273814144), (15, u "LOW_BITS"), (0, u "J"), (1, u "TOP_BITS"), (3, u "zeroBytes"), (0, u "(J)J")] 3

def k2m0 : Method := { name := "<init>", desc := "()V", sig := { parameters := [], returnType := none }, accessFlags := 2, code := none }
def k2c1 : Code := { maxStack := 6, maxLocals := 2, code := prog_4_method_3_code, exceptionTable := #[], attributes := #[] }
def k2m1 : Method := { name := "zeroBytes", desc := "(J)J", sig := { parameters := [.long], returnType := some .long }, accessFlags := 8, code := some k2c1 }
/-- com/example/serra/serra/ByteWords -/
def k2 : Class := { plain "com/example/serra/serra/ByteWords" (some 0) with
  accessFlags := 48
  interfaces := #[]
  cf := some (fileOf pool2 8 #[] #[{ accessFlags := 2, nameIndex := 5, descriptorIndex := 6, attributes := #[] }, { accessFlags := 8, nameIndex := 46, descriptorIndex := 47, attributes := #[] }] 48 2 #[] #[{ accessFlags := 24, nameIndex := 39, descriptorIndex := 40, attributes := #[] }, { accessFlags := 24, nameIndex := 42, descriptorIndex := 40, attributes := #[] }, { accessFlags := 26, nameIndex := 11, descriptorIndex := 12, attributes := #[] }])
  fields := #[{ name := "LOW_BITS", type := .long, accessFlags := 24, slot := 0, constantValue := 0 }, { name := "TOP_BITS", type := .long, accessFlags := 24, slot := 1, constantValue := 0 }, { name := "WORDS", type := (.object "java/lang/invoke/VarHandle"), accessFlags := 26, slot := 2, constantValue := 0 }]
  methods := #[k2m0, k2m1]
  instanceTypes := #[]
  staticTypes := #[.long, .long, (.object "java/lang/invoke/VarHandle")]
  resolved := Array.replicate 51 none
  statics := none }

def pool3 : Array CpInfo := pool [(1, u "java/lang/Cloneable"), (0, .class_ 1), (0, u "java/lang/Object"), (0, .class_ 3)] 3

/-- java/lang/Cloneable -/
def k3 : Class := { plain "java/lang/Cloneable" (some 0) with
  accessFlags := 1537
  interfaces := #[]
  cf := some (fileOf pool3 2 #[] #[] 1537 4 #[] #[])
  fields := #[]
  methods := #[]
  instanceTypes := #[]
  staticTypes := #[]
  resolved := Array.replicate 8 none
  statics := none }

def pool4 : Array CpInfo := pool [(1, u "java/io/Serializable"), (0, .class_ 1), (0, u "java/lang/Object"), (0, .class_ 3)] 3

/-- java/io/Serializable -/
def k4 : Class := { plain "java/io/Serializable" (some 0) with
  accessFlags := 1537
  interfaces := #[]
  cf := some (fileOf pool4 2 #[] #[] 1537 4 #[] #[])
  fields := #[]
  methods := #[]
  instanceTypes := #[]
  staticTypes := #[]
  resolved := Array.replicate 8 none
  statics := none }

/-- the primitive byte -/
def k5 : Class := { plain "byte" none with kind := .primitive 'B', accessFlags := 0x411 }
/-- [B -/
def k6 : Class := { plain "[B" (some 0) with kind := .array 5 .byte, interfaces := #[3, 4], accessFlags := 1041 }

/-- the primitive int -/
def k7 : Class := { plain "int" none with kind := .primitive 'I', accessFlags := 0x411 }
/-- [I -/
def k8 : Class := { plain "[I" (some 0) with kind := .array 7 .int, interfaces := #[3, 4], accessFlags := 1041 }

def heap : Heap := #[]
def classes : Array Class := #[k0, k1, k2, k3, k4, k5, k6, k7, k8]
def interned : List (Array UInt16 × Addr) := []
def slotsUsed : Nat := 0
def theMethod : MethodId := ⟨1, 3⟩
def args0 : Array Value := #[.long 5, .int 6]
def aboutOver (below : List Frame) : State where
  vm := { classes := classes, interned := interned.toArray }
  heap := heap
  slotsUsed := slotsUsed
  threads := #[{ frames := .invoking theMethod args0 :: below }]
def below0 : List Frame := [.native { method := ⟨0, 0⟩, args := #[] }]
def about1 : State := aboutOver below0
def p0 : Program := .bare "" "" ""
def e0 : Env := launch0.env 0 0 0
theorem w_frames : about1.frames = Frame.invoking theMethod args0 :: below0 := rfl
set_option maxRecDepth 65536 in
theorem w_args : argsFit about1.vm theMethod args0 = true := by decide +kernel
set_option maxRecDepth 65536 in
theorem w_heap : heapFits about1 = true := by decide +kernel
set_option maxRecDepth 65536 in
theorem w_runnable : about1.curStatus? = some .runnable := by decide +kernel
set_option maxRecDepth 65536 in
theorem w_alone : about1.alone = true := by decide +kernel
set_option maxRecDepth 65536 in
theorem w_named : about1.methodNamed? x = some theMethod := by decide +kernel
set_option maxRecDepth 65536 in
theorem w_hears : about1.hears theMethod below0 = true := by decide +kernel
set_option maxRecDepth 65536 in
theorem w_ripe : about1.ripe theMethod args0 below0 = true := by decide +kernel
theorem w_running : about1.status = .running := rfl
set_option maxRecDepth 65536 in
theorem w_room : about1.hasRoom e0.platform room_1 = true :=
  launch0.hasRoom_least _ room_1 (by decide +kernel) (by decide +kernel) (by decide +kernel) (by decide +kernel) (by decide +kernel) (by decide +kernel)
theorem allAtoms_all (ts : List Jvm.Cond) (a : Array Jvm.Value) (st : Jvm.State) : (allAtoms ts).before a st = ts.all (fun c => c.before a st) := by
  induction ts with
  | nil => rfl
  | cons c t ih =>
    show (Jvm.Cond.and c (allAtoms t)).before a st = _
    rw [Jvm.Cond.before_and, ih, List.all_cons]
def words1 : List Jvm.Cond := Jvm.Cond.code x code maxLocals ret :: tables_1
/-- a 'code' word, met by the world's own term for the bytes: nothing is compared byte by byte -/
theorem code_word {y : MethodName} {bytes : ByteArray} {mx : Nat} {rt : Option FieldType} {a : Array Value} {s : State} {m : MethodId} {meth : Method} {c : Code} (h1 : s.methodNamed? y = some m) (h2 : s.vm.method? m = some meth) (h3 : meth.code = some c) (h4 : c.code = bytes)
    (h5 : (c.maxLocals == mx && c.exceptionTable.isEmpty && decide (c.maxStack ≤ mostOperands) && decide (meth.sig.returnType = rt) && !meth.locks && decide (parseMethodDescriptor y.desc = some meth.sig)) = true) : (Jvm.Cond.code y bytes mx rt).before a s = true := by
  simp only [Bool.and_eq_true, beq_iff_eq, Bool.not_eq_true', decide_eq_true_eq] at h5
  obtain ⟨⟨⟨⟨⟨g1, g2⟩, g3⟩, g4⟩, g5⟩, g6⟩ := h5
  simp [Cond.before, Cond.holds, Cond.value, h1, h2, h3, h4, g1, g2, g3, g4, g5, g6]
def isCode : Jvm.Cond → Bool
  | .code _ _ _ _ => true
  | _ => false
theorem all_split {L : List Jvm.Cond} {P : Jvm.Cond → Bool} (h1 : L.all (fun c => isCode c || P c) = true) (h2 : ∀ c ∈ L.filter isCode, P c = true) : L.all P = true := by
  refine List.all_eq_true.mpr fun c hc => ?_
  have h := List.all_eq_true.mp h1 c hc
  rcases Bool.eq_false_or_eq_true (isCode c) with hi | hi
  · exact h2 c (List.mem_filter.mpr ⟨hc, hi⟩)
  · simpa [hi] using h
set_option maxRecDepth 65536 in
theorem w_c0 : (Jvm.Cond.code x code maxLocals ret).before args0 about1 = true := code_word (m := ⟨1, 3⟩) (meth := k1m3) (c := k1c3) (by decide +kernel) rfl rfl rfl (by decide +kernel)
set_option maxRecDepth 65536 in
theorem w_c1 : (Jvm.Cond.code ({ cls := "com/example/serra/serra/ByteWordsZeroBytesPinLaw", name := "byteMask", desc := "(I)J" } : Jvm.MethodName) method_2_code (3 : Nat) (Option.some Jvm.ClassFile.FieldType.long)).before args0 about1 = true := code_word (m := ⟨1, 1⟩) (meth := k1m1) (c := k1c1) (by decide +kernel) rfl rfl rfl (by decide +kernel)
set_option maxRecDepth 65536 in
theorem w_c2 : (Jvm.Cond.code ({ cls := "com/example/serra/serra/ByteWords", name := "zeroBytes", desc := "(J)J" } : Jvm.MethodName) prog_4_method_3_code (2 : Nat) (Option.some Jvm.ClassFile.FieldType.long)).before args0 about1 = true := code_word (m := ⟨2, 1⟩) (meth := k2m1) (c := k2c1) (by decide +kernel) rfl rfl rfl (by decide +kernel)
set_option maxRecDepth 65536 in
theorem w_c3 : (Jvm.Cond.code ({ cls := "com/example/serra/serra/ByteWordsZeroBytesPinLaw", name := "zeroTops", desc := "(J)J" } : Jvm.MethodName) method_3_code (4 : Nat) (Option.some Jvm.ClassFile.FieldType.long)).before args0 about1 = true := code_word (m := ⟨1, 2⟩) (meth := k1m2) (c := k1c2) (by decide +kernel) rfl rfl rfl (by decide +kernel)
def codes1 : List Jvm.Cond := [Jvm.Cond.code x code maxLocals ret, Jvm.Cond.code ({ cls := "com/example/serra/serra/ByteWordsZeroBytesPinLaw", name := "byteMask", desc := "(I)J" } : Jvm.MethodName) method_2_code (3 : Nat) (Option.some Jvm.ClassFile.FieldType.long), Jvm.Cond.code ({ cls := "com/example/serra/serra/ByteWords", name := "zeroBytes", desc := "(J)J" } : Jvm.MethodName) prog_4_method_3_code (2 : Nat) (Option.some Jvm.ClassFile.FieldType.long), Jvm.Cond.code ({ cls := "com/example/serra/serra/ByteWordsZeroBytesPinLaw", name := "zeroTops", desc := "(J)J" } : Jvm.MethodName) method_3_code (4 : Nat) (Option.some Jvm.ClassFile.FieldType.long)]
set_option maxRecDepth 65536 in
theorem codes_eq : words1.filter isCode = codes1 := rfl
theorem w_codes : ∀ c ∈ words1.filter isCode, c.before args0 about1 = true := by
  rw [codes_eq]
  intro c hc
  simp only [codes1, List.mem_cons, List.not_mem_nil, or_false] at hc
  rcases hc with rfl | rfl | rfl | rfl
  · exact w_c0
  · exact w_c1
  · exact w_c2
  · exact w_c3
set_option maxRecDepth 65536 in
theorem w_t1 : (words1.take 24).all (fun c => isCode c || c.before args0 about1) = true := by decide +kernel
set_option maxRecDepth 65536 in
theorem w_t2 : (words1.drop 24).all (fun c => isCode c || c.before args0 about1) = true := by decide +kernel
theorem w_tables : (allAtoms (Jvm.Cond.code x code maxLocals ret :: tables_1)).before args0 about1 = true := by
  rw [allAtoms_all]
  show words1.all (fun c => c.before args0 about1) = true
  refine all_split ?_ w_codes
  rw [← List.take_append_drop 24 words1, List.all_append, w_t1, w_t2]
  rfl
set_option maxRecDepth 65536 in
theorem w_case : (Jvm.Cond.and given_1 narrow_1).before args0 about1 = true := by decide +kernel
theorem w_applies : (headSpec (Jvm.Cond.code x code maxLocals ret :: tables_1) room_1).applies x e0.platform about1 = true :=
  (Spec.applies_iff w_frames).mpr ⟨w_running, w_runnable, w_alone, w_named, w_hears, w_ripe, w_room, w_tables⟩
theorem atStart : AtStart classFile x code maxLocals ret World_1 tables_1 room_1 Calls_1 rest_1 Pre_1 launch0 p0 e0 about1 theMethod args0 below0 :=
  ⟨lists_1, trivial, launch0.admits_env _ _ _, launch0.least_env, fairChoices_fair.cas, fairChoices_fair.clock, w_frames, w_args, w_heap, w_applies, trivial, trivial, w_case⟩
end start1
theorem witness_1 : WitnessClaimed_1 := ⟨start1.p0, start1.e0, start1.about1, start1.theMethod, start1.args0, start1.below0, start1.atStart⟩
end Jvm.Pilot.@@N@@
