import JvmDerived
import JvmDerived.Pilot.@@N@@Statement
import JvmDerived.Pilot.@@N@@Code
set_option linter.unusedVariables false
set_option linter.unusedSimpArgs false
namespace Jvm.Pilot.@@N@@
open Jvm Jvm.ClassFile Sem Op Lib Jvm.Free Jvm.Stand Jvm.LawKit Jvm.RoadKit Bundle Jvm.Pilot.@@N@@.Jvm.D
/-! own walk layer: a world of fresh cells, and one lemma per instruction in continuation form -/
abbrev Desc : Type := Cell → Prop
abbrev Wd : Type := List (Addr × Desc)
/-- the heap h holds h0 unchanged and, besides, the described cells (all of them younger than h0) -/
def Wld (h0 : Heap) (ds : Wd) (h : Heap) : Prop :=
  h0.size ≤ h.size ∧ (∀ (a : Addr) (c : Cell), h0[a]? = some c → h[a]? = some c) ∧ (ds.map Prod.fst).Nodup ∧ ∀ (i : Nat) (a : Addr) (d : Desc), ds[i]? = some (a, d) → h0.size ≤ a ∧ ∃ c : Cell, h[a]? = some c ∧ d c
def Ends (tb : Tables) (e : Env) (below : List Frame) (A : State) (G : Outcome → State → Prop) : Prop := ∃ t o, Steps tb e below A t ∧ t.status = .running ∧ Ended t below o ∧ G o t
/-- the fixed surroundings of a walk -/
def Cx (p : Program) (s : State) (m : MethodId) (meth : Method) (c : Code) (Z : State) (a0 : Array Value) (own : String) (bytes : ByteArray) (ml : Nat) (rt : Option FieldType) (nm : String) : Prop :=
  p.tables.exec = Jvm.exec ∧ Z.Warmed39 s.vm ∧ (∀ d ∈ tables_1, d.before a0 Z = true) ∧ c.code = bytes ∧ c.maxLocals = ml ∧ s.vm.findClass own = some m.cls ∧ meth.sig.returnType = rt ∧ meth.locks = false ∧ meth.name = nm
/-- from pc with these locals and this stack the body comes back, and Q holds of what it returns and of the world that it leaves -/
def Go (p : Program) (l : Launch) (e : Env) (R : Room) (s : State) (m : MethodId) (args : Array Value) (below : List Frame) (meth : Method) (c : Code) (h0 : Heap) (Q : Option Value → Wd → Prop) (ds : Wd) (k n pc : Nat) (Ls : Array Slot) (St : List Value) : Prop :=
  ∀ T locs, Stand p l e R s m args below meth c T locs k n → Wld h0 ds T.heap → Fr h0.size locs →
    Ends p.tables e below (T.setTop (mkF m pc Ls St)) (fun o t => ∃ v L, o = .returned v ∧ (∃ ds', Q v ds' ∧ Wld h0 ds' t.heap ∧ Fr h0.size L) ∧ FrameEnd s o t L R.cells R.slots)
/-- a body's contract -/
def Con (l : Launch) (Z : State) (y : MethodName) (bytes : ByteArray) (ml : Nat) (rt : Option FieldType) (rm : Room) (h0 : Heap) (as' : Array Value) (ds : Wd) (Q : Option Value → Wd → Prop) : Prop :=
  ∀ h, Wld h0 ds h → ∀ ws, MetFree l y (head1 (Jvm.Cond.code y bytes ml rt :: ws) rm) (fun a U => a = as' ∧ Z.Warmed39 U.vm ∧ U.heap = h) (fun _ _ _ _ _ => True)
    (fun _ U o U' => ∃ v L, o = .returned v ∧ (∃ ds', Q v ds' ∧ Wld h0 ds' U'.heap ∧ Fr h0.size L) ∧ FrameEnd U o U' L rm.cells rm.slots)
/-- an array's cell -/
def IA (Z : State) (ty : FieldType) (vs : List Value) : Desc := fun c => Z.isArrayOf c ty ∧ c.vm ≠ .unknown ∧ c.slots.toList = vs
abbrev ints (xs : List Int32) : List Value := xs.map Value.int
/-- a field: the class that declares it, name, descriptor, value -/
abbrev Fv : Type := String × String × String × Value
def fldC (Z : State) (c : Cell) (x : Fv) : Prop := ∃ (cf : ClassId) (k : Class) (i : Nat) (f : Field), Z.fieldFound? x.1 x.2.1 x.2.2.1 = some (cf, k, i, f) ∧ f.isStatic = false ∧ c.vm ≠ .unknown ∧ c.vm.isStatics = false ∧ Z.vm.assignable c.cls cf = true ∧ c.slots[f.slot]? = some x.2.2.2
def OB (Z : State) (a0 : Array Value) (C : String) (fs : List Fv) : Desc := fun c =>
  (∃ k : Class, Z.vm.findClass C = some c.cls ∧ Z.vm.classes[c.cls]? = some k ∧ c.vm.isStatics = false ∧ (k.kind = .ordinary → c.slots.size = k.instanceTypes.size)) ∧
  (∀ x ∈ fs, fldC Z c x ∧ Laid Z a0 C x.1 x.2.1 x.2.2.1 ∧ ∃ t, parseFieldDescriptor x.2.2.1 = some t)
section Own
variable {p : Program} {l : Launch} {e : Env} {R : Room} {s : State} {m : MethodId} {args : Array Value} {below : List Frame} {meth : Method} {c : Code} {Z : State} {a0 : Array Value} {h0 h h' : Heap} {Q : Option Value → Wd → Prop} {ds ds' : Wd} {k n pc : Nat} {Ls Ls' : Array Slot} {St : List Value} {own : String} {bytes : ByteArray} {ml : Nat} {rt : Option FieldType} {nm : String}
theorem Ends.pre {tb : Tables} {A B : State} {G : Outcome → State → Prop} (H : ∀ t, Steps tb e below B t → Steps tb e below A t) (K : Ends tb e below B G) : Ends tb e below A G := by
  obtain ⟨t, o, h1, h2⟩ := K; exact ⟨t, o, H t h1, h2⟩
theorem Wld.nil (h0 : Heap) : Wld h0 [] h0 := ⟨Nat.le_refl _, fun _ _ q => q, List.nodup_nil, fun i a d q => by simp at q⟩
theorem Wld.extOf (W : Wld h0 ds h) : Ext h0 h := ⟨W.1, W.2.1⟩
theorem Wld.at {i : Nat} {a : Addr} {d : Desc} (W : Wld h0 ds h) (hi : ds[i]? = some (a, d)) : h0.size ≤ a ∧ ∃ c : Cell, h[a]? = some c ∧ d c := W.2.2.2 i a d hi
theorem nodup_inj {α : Type} {L : List α} (h : L.Nodup) {i j : Nat} (hi : i < L.length) (hj : j < L.length) (e : L[i] = L[j]) : i = j := by
  rcases Nat.lt_trichotomy i j with q | q | q
  · exact absurd e (List.pairwise_iff_getElem.mp h i j hi hj q)
  · exact q
  · exact absurd e.symm (List.pairwise_iff_getElem.mp h j i hj hi q)
theorem Wld.ne {i j : Nat} {a b : Addr} {d d' : Desc} (W : Wld h0 ds h) (hi : ds[i]? = some (a, d)) (hj : ds[j]? = some (b, d')) (hij : i ≠ j) : a ≠ b := by
  intro e
  obtain ⟨h1, e1⟩ := List.getElem?_eq_some_iff.mp hi
  obtain ⟨h2, e2⟩ := List.getElem?_eq_some_iff.mp hj
  have l1 : i < (ds.map Prod.fst).length := by simpa using h1
  have l2 : j < (ds.map Prod.fst).length := by simpa using h2
  have g : (ds.map Prod.fst)[i] = (ds.map Prod.fst)[j] := by simp [e1, e2, e]
  exact hij (nodup_inj W.2.2.1 l1 l2 g)
theorem Wld.wr {i : Nat} {a : Addr} {d d' : Desc} {sl : Nat} {v : Value} (W : Wld h0 ds h) (hi : ds[i]? = some (a, d)) (wr : Wr h h' a sl v) (hd : ∀ c, h[a]? = some c → sl < c.slots.size → d c → d' (c.setSlot sl v)) : Wld h0 (ds.set i (a, d')) h' := by
  obtain ⟨ha, c, hc, dc⟩ := W.at hi
  obtain ⟨c0, hc0, -, hsl, -⟩ := id wr
  cases hc.symm.trans hc0
  refine ⟨by rw [wr.size]; exact W.1, fun b cb hb => ?_, ?_, ?_⟩
  · have hbl : b < h0.size := (Array.getElem?_eq_some_iff.mp hb).1
    obtain ⟨c', e1, -, -, -, e5, -⟩ := wr_at wr (W.2.1 b cb hb)
    rw [← e5 (fun q => Nat.not_lt.mpr ha (q ▸ hbl))]; exact e1
  · have q : (ds.set i (a, d')).map Prod.fst = ds.map Prod.fst := by
      rw [List.map_set]
      obtain ⟨l1, e1⟩ := List.getElem?_eq_some_iff.mp hi
      apply List.ext_getElem?
      intro j
      rw [List.getElem?_set]
      split
      · rename_i hj; subst hj; simp [l1, e1]
      · rfl
    rw [q]; exact W.2.2.1
  · intro j b db hj
    rw [List.getElem?_set] at hj
    split at hj
    · rename_i hij
      subst hij
      obtain ⟨l1, e1⟩ := List.getElem?_eq_some_iff.mp hi
      simp only [l1, if_true, Option.some.injEq, Prod.mk.injEq] at hj
      obtain ⟨rfl, rfl⟩ := hj
      obtain ⟨c', e1, -, -, -, -, -, e7⟩ := wr_at wr hc
      exact ⟨ha, c', e1, by rw [(e7 rfl).1]; exact hd c hc hsl dc⟩
    · rename_i hij
      obtain ⟨hb, cb, hcb, dcb⟩ := W.at hj
      have hne : b ≠ a := fun e => W.ne hi hj hij e.symm
      obtain ⟨c', e1, -, -, -, e5, -⟩ := wr_at wr hcb
      exact ⟨hb, cb, by rw [← e5 hne]; exact e1, dcb⟩
theorem Wld.new {d : Desc} (W : Wld h0 ds h) (E : Ext h h') {c : Cell} (hc : h'[h.size]? = some c) (dc : d c) : Wld h0 (ds ++ [(h.size, d)]) h' := by
  refine ⟨Nat.le_trans W.1 E.1, fun a c q => E.2 _ _ (W.2.1 a c q), ?_, ?_⟩
  · rw [List.map_append, List.nodup_append]
    refine ⟨W.2.2.1, by simp, ?_⟩
    intro a ha b hb
    simp only [List.map_cons, List.map_nil, List.mem_singleton] at hb
    subst hb
    obtain ⟨⟨x, dx⟩, hx, rfl⟩ := List.mem_map.mp ha
    obtain ⟨i, hi⟩ := List.getElem?_of_mem hx
    obtain ⟨-, cc, hcc, -⟩ := W.at hi
    exact Nat.ne_of_lt (Array.getElem?_eq_some_iff.mp hcc).1
  · intro i a dd hi
    rw [List.getElem?_append] at hi
    split at hi
    · obtain ⟨h1, cc, h2, h3⟩ := W.at hi
      exact ⟨h1, cc, E.2 _ _ h2, h3⟩
    · rename_i hlt
      rw [List.getElem?_singleton] at hi
      split at hi
      · cases hi; exact ⟨W.1, c, hc, dc⟩
      · cases hi
theorem OB.exa {C : String} {fs : List Fv} {a : Addr} {cl : Cell} (hc : h[a]? = some cl) (O : OB Z a0 C fs cl) : Exa Z h a C := by
  obtain ⟨⟨k, h1, h2, h3, h4⟩, -⟩ := O; exact ⟨cl, k, hc, h1, h2, h3, h4⟩
theorem OB.fld {C O n d : String} {v : Value} {fs : List Fv} {a : Addr} {cl : Cell} (hc : h[a]? = some cl) (Ob : OB Z a0 C fs cl) (hx : (O, n, d, v) ∈ fs) : Fld Z h a O n d v := by
  obtain ⟨⟨cf, k, i, f, h1, h2, h3, h4, h5, h6⟩, -⟩ := Ob.2 _ hx
  exact ⟨cl, cf, k, i, f, hc, h1, h2, h3, h4, h5, h6⟩
theorem OB.of {C : String} {fs : List Fv} {a : Addr} (E : Exa Z h a C) {cl : Cell} (hc : h[a]? = some cl) (F : ∀ x ∈ fs, Fld Z h a x.1 x.2.1 x.2.2.1 x.2.2.2 ∧ Laid Z a0 C x.1 x.2.1 x.2.2.1 ∧ ∃ t, parseFieldDescriptor x.2.2.1 = some t) : OB Z a0 C fs cl := by
  obtain ⟨cell, k, h1, h2, h3, h4, h5⟩ := E
  cases hc.symm.trans h1
  refine ⟨⟨k, h2, h3, h4, h5⟩, fun x hx => ?_⟩
  obtain ⟨⟨cell, cf, k, i, f, g1, g2⟩, L, t⟩ := F x hx
  cases hc.symm.trans g1
  exact ⟨⟨cf, k, i, f, g2⟩, L, t⟩

/-! entering and leaving -/
theorem con_of {y : MethodName} {rm : Room} {as' : Array Value} (hpl : plainFor y = true) (hw : ∀ d ∈ tables_1, d.before a0 Z = true) (hef : ∀ m, entryFrame m as' ml = mkF m 0 Ls [])
    (H : ∀ (p : Program) (e : Env) (s : State) (m : MethodId) (below : List Frame) (meth : Method) (c : Code), Cx p s m meth c Z a0 y.cls bytes ml rt y.name → Go p l e rm s m as' below meth c h0 Q ds 0 0 0 Ls []) : Con l Z y bytes ml rt rm h0 as' ds Q := by
  intro h W ws
  refine MetFree.of_bodySF hpl hisR ?_
  intro p e s m args below meth c s₁ Bd hml0 hP hK
  obtain ⟨rfl, hZ, hh⟩ := hP
  have hx := Bd.exec
  have hown := findClass_of_methodNamed Bd.named
  have hnm := (name_of_methodNamed Bd.named Bd.method).1
  have X0 : Stand p l e rm s m args below meth c s₁ [] 0 0 := Stand.of_body Bd
  have e0 : s₁.heap = h := by rw [← hh, Bd.state]; rfl
  have C : Cx p s m meth c Z a0 y.cls bytes ml rt y.name := ⟨hx, hZ, hw, Bd.bytes, hml0, hown, Bd.returns, Bd.notSynchronized, hnm⟩
  obtain ⟨t, o, h1, h2, h3, h4⟩ := H p e s m below meth c C s₁ [] X0 (by rw [e0]; exact W) (Fr.nil _)
  exact ⟨t, o, castTop (hef m) h1, h2, h3, h4⟩
theorem Ends.out (C : Cx p s m meth c Z a0 own bytes ml rt nm) {T : State} {locs : List Loc} {g : JFrame} (X : Stand p l e R s m args below meth c T locs k n) (W : Wld h0 ds T.heap) (N : Fr h0.size locs) (hk : k ≤ R.cells) (hn : n ≤ R.slots) {v : Option Value} (hv : rt = none → v = none) (q : Q v ds)
    (H : ∀ fs, (∀ (f : JFrame) (acts : List Action), f.method = m → f.locked = none → f.entered = [] → (doReturn e (T.setTop f) acts v).1 = T.setFrames fs) → Steps p.tables e below (T.setTop g) (T.setFrames fs)) :
    Ends p.tables e below (T.setTop g) (fun o t => ∃ v L, o = .returned v ∧ (∃ ds', Q v ds' ∧ Wld h0 ds' t.heap ∧ Fr h0.size L) ∧ FrameEnd s o t L R.cells R.slots) := by
  obtain ⟨hx, hZ, hw, hby, hml, hown, hret, hlk, hnm⟩ := C
  obtain ⟨fs, hr, hrun, hended, hW, hsame⟩ := X.leave (v := v) (fun h => hv (hret.symm.trans h)) hlk
  exact ⟨_, _, H fs hr, hrun, hended, v, locs, rfl, ⟨ds, q, W, N⟩, ⟨_, rfl⟩, hW, hsame.mono hk hn⟩
theorem g_ret (C : Cx p s m meth c Z a0 own bytes ml none nm) (hd : decode bytes pc = .ok (.return_, 1)) (hk : k ≤ R.cells) (hn : n ≤ R.slots) (q : Q none ds) : Go p l e R s m args below meth c h0 Q ds k n pc Ls [] := fun T locs X W N =>
  Ends.out C X W N hk hn (fun _ => rfl) q fun fs hr => X.returnOut C.1 C.2.2.2.2.2.2.1 (hb C.2.2.2.1 hd) hr
theorem g_iret (C : Cx p s m meth c Z a0 own bytes ml (some .int) nm) {z : Int32} (hd : decode bytes pc = .ok (.ireturn, 1)) (hk : k ≤ R.cells) (hn : n ≤ R.slots) (q : Q (some (.int z)) ds) : Go p l e R s m args below meth c h0 Q ds k n pc Ls (.int z :: St) := fun T locs X W N =>
  Ends.out C X W N hk hn (fun h => nomatch h) q fun fs hr => retOut X C.1 C.2.2.2.2.2.2.1 rfl (Or.inl ⟨rfl, Or.inl rfl, z, rfl⟩) (hb C.2.2.2.1 hd) hr
theorem g_nret {t : FieldType} (C : Cx p s m meth c Z a0 own bytes ml (some t) nm) (ht : t = .boolean ∨ t = .byte ∨ t = .char ∨ t = .short) {z z' : Int32} (hz : nar t z = z') (hd : decode bytes pc = .ok (.ireturn, 1)) (hk : k ≤ R.cells) (hn : n ≤ R.slots) (q : Q (some (.int z')) ds) : Go p l e R s m args below meth c h0 Q ds k n pc Ls (.int z :: St) := fun T locs X W N => by
  subst hz
  exact Ends.out C X W N hk hn (fun h => nomatch h) q fun fs hr => retN X C.1 C.2.2.2.2.2.2.1 ht (hb C.2.2.2.1 hd) hr
theorem g_lret (C : Cx p s m meth c Z a0 own bytes ml (some .long) nm) {z : Int64} (hd : decode bytes pc = .ok (.lreturn, 1)) (hk : k ≤ R.cells) (hn : n ≤ R.slots) (q : Q (some (.long z)) ds) : Go p l e R s m args below meth c h0 Q ds k n pc Ls (.long z :: St) := fun T locs X W N =>
  Ends.out C X W N hk hn (fun h => nomatch h) q fun fs hr => retOut X C.1 C.2.2.2.2.2.2.1 rfl (Or.inr (Or.inl ⟨rfl, rfl, z, rfl⟩)) (hb C.2.2.2.1 hd) hr
theorem g_dret (C : Cx p s m meth c Z a0 own bytes ml (some .double) nm) {z : UInt64} (hd : decode bytes pc = .ok (.dreturn, 1)) (hk : k ≤ R.cells) (hn : n ≤ R.slots) (q : Q (some (.double z)) ds) : Go p l e R s m args below meth c h0 Q ds k n pc Ls (.double z :: St) := fun T locs X W N =>
  Ends.out C X W N hk hn (fun h => nomatch h) q fun fs hr => retOut X C.1 C.2.2.2.2.2.2.1 rfl (Or.inr (Or.inr (Or.inl ⟨rfl, rfl, z, rfl⟩))) (hb C.2.2.2.1 hd) hr
theorem g_aret {t : FieldType} (C : Cx p s m meth c Z a0 own bytes ml (some t) nm) (ht : t.isReference = true) {v : Value} (hv : v.isRef = true) (hnr : narrow t v = v) (hd : decode bytes pc = .ok (.areturn, 1)) (hk : k ≤ R.cells) (hn : n ≤ R.slots) (q : Q (some v) ds) : Go p l e R s m args below meth c h0 Q ds k n pc Ls (v :: St) := fun T locs X W N =>
  Ends.out C X W N hk hn (fun h => nomatch h) q fun fs hr => retOut X C.1 C.2.2.2.2.2.2.1 hnr (Or.inr (Or.inr (Or.inr (Or.inr ⟨rfl, ht, hv⟩)))) (hb C.2.2.2.1 hd) hr
theorem Go.pure {pc' : Nat} {St' : List Value} (H : ∀ T locs, Stand p l e R s m args below meth c T locs k n → ∀ target, Steps p.tables e below (T.setTop (mkF m pc' Ls' St')) target → Steps p.tables e below (T.setTop (mkF m pc Ls St)) target)
    (K : Go p l e R s m args below meth c h0 Q ds k n pc' Ls' St') : Go p l e R s m args below meth c h0 Q ds k n pc Ls St := fun T locs X W N => (K T locs X W N).pre (H T locs X)
/-- the world may be spoken of otherwise -/
theorem Go.weak {Q' : Option Value → Wd → Prop} (K : Go p l e R s m args below meth c h0 Q' ds k n pc Ls St) (H : ∀ v ds', Q' v ds' → Q v ds') : Go p l e R s m args below meth c h0 Q ds k n pc Ls St := fun T locs X W N => by
  obtain ⟨t, o, h1, h2, h3, v, L, h4, ⟨ds', h5, h6⟩, h7⟩ := K T locs X W N
  exact ⟨t, o, h1, h2, h3, v, L, h4, ⟨ds', H _ _ h5, h6⟩, h7⟩
/-! plain steps -/
theorem g_iadd (C : Cx p s m meth c Z a0 own bytes ml rt nm) (pc' : Nat) {x y : Int32} (hd : decode bytes pc = .ok (.iadd, 1)) (hp : pc + 1 = pc') (K : Go p l e R s m args below meth c h0 Q ds k n pc' Ls (.int (x + y) :: St)) : Go p l e R s m args below meth c h0 Q ds k n pc Ls (.int y :: .int x :: St) := by
  subst hp
  exact K.pure fun T locs X target h => XS.iadd X.here C.1 rfl (hb C.2.2.2.1 hd) rfl h
theorem g_isub (C : Cx p s m meth c Z a0 own bytes ml rt nm) (pc' : Nat) {x y : Int32} (hd : decode bytes pc = .ok (.isub, 1)) (hp : pc + 1 = pc') (K : Go p l e R s m args below meth c h0 Q ds k n pc' Ls (.int (x - y) :: St)) : Go p l e R s m args below meth c h0 Q ds k n pc Ls (.int y :: .int x :: St) := by
  subst hp
  exact K.pure fun T locs X target h => XS.isub X.here C.1 rfl (hb C.2.2.2.1 hd) rfl h
theorem g_imul (C : Cx p s m meth c Z a0 own bytes ml rt nm) (pc' : Nat) {x y : Int32} (hd : decode bytes pc = .ok (.imul, 1)) (hp : pc + 1 = pc') (K : Go p l e R s m args below meth c h0 Q ds k n pc' Ls (.int (x * y) :: St)) : Go p l e R s m args below meth c h0 Q ds k n pc Ls (.int y :: .int x :: St) := by
  subst hp
  exact K.pure fun T locs X target h => XS.imul X.here C.1 rfl (hb C.2.2.2.1 hd) rfl h
theorem g_iand (C : Cx p s m meth c Z a0 own bytes ml rt nm) (pc' : Nat) {x y : Int32} (hd : decode bytes pc = .ok (.iand, 1)) (hp : pc + 1 = pc') (K : Go p l e R s m args below meth c h0 Q ds k n pc' Ls (.int (x &&& y) :: St)) : Go p l e R s m args below meth c h0 Q ds k n pc Ls (.int y :: .int x :: St) := by
  subst hp
  exact K.pure fun T locs X target h => XS.iand X.here C.1 rfl (hb C.2.2.2.1 hd) rfl h
theorem g_ior (C : Cx p s m meth c Z a0 own bytes ml rt nm) (pc' : Nat) {x y : Int32} (hd : decode bytes pc = .ok (.ior, 1)) (hp : pc + 1 = pc') (K : Go p l e R s m args below meth c h0 Q ds k n pc' Ls (.int (x ||| y) :: St)) : Go p l e R s m args below meth c h0 Q ds k n pc Ls (.int y :: .int x :: St) := by
  subst hp
  exact K.pure fun T locs X target h => XS.ior X.here C.1 rfl (hb C.2.2.2.1 hd) rfl h
theorem g_ixor (C : Cx p s m meth c Z a0 own bytes ml rt nm) (pc' : Nat) {x y : Int32} (hd : decode bytes pc = .ok (.ixor, 1)) (hp : pc + 1 = pc') (K : Go p l e R s m args below meth c h0 Q ds k n pc' Ls (.int (x ^^^ y) :: St)) : Go p l e R s m args below meth c h0 Q ds k n pc Ls (.int y :: .int x :: St) := by
  subst hp
  exact K.pure fun T locs X target h => XS.ixor X.here C.1 rfl (hb C.2.2.2.1 hd) rfl h
theorem g_ishl (C : Cx p s m meth c Z a0 own bytes ml rt nm) (pc' : Nat) {x y : Int32} (hd : decode bytes pc = .ok (.ishl, 1)) (hp : pc + 1 = pc') (K : Go p l e R s m args below meth c h0 Q ds k n pc' Ls (.int (x <<< (y &&& 31)) :: St)) : Go p l e R s m args below meth c h0 Q ds k n pc Ls (.int y :: .int x :: St) := by
  subst hp
  exact K.pure fun T locs X target h => XS.ishl X.here C.1 rfl (hb C.2.2.2.1 hd) rfl h
theorem g_ishr (C : Cx p s m meth c Z a0 own bytes ml rt nm) (pc' : Nat) {x y : Int32} (hd : decode bytes pc = .ok (.ishr, 1)) (hp : pc + 1 = pc') (K : Go p l e R s m args below meth c h0 Q ds k n pc' Ls (.int (x >>> (y &&& 31)) :: St)) : Go p l e R s m args below meth c h0 Q ds k n pc Ls (.int y :: .int x :: St) := by
  subst hp
  exact K.pure fun T locs X target h => XS.ishr X.here C.1 rfl (hb C.2.2.2.1 hd) rfl h
theorem g_iushr (C : Cx p s m meth c Z a0 own bytes ml rt nm) (pc' : Nat) {x y : Int32} (hd : decode bytes pc = .ok (.iushr, 1)) (hp : pc + 1 = pc') (K : Go p l e R s m args below meth c h0 Q ds k n pc' Ls (.int ((x.toUInt32 >>> (y &&& 31).toUInt32).toInt32) :: St)) : Go p l e R s m args below meth c h0 Q ds k n pc Ls (.int y :: .int x :: St) := by
  subst hp
  exact K.pure fun T locs X target h => XS.iushr X.here C.1 rfl (hb C.2.2.2.1 hd) rfl h
theorem g_ladd (C : Cx p s m meth c Z a0 own bytes ml rt nm) (pc' : Nat) {x y : Int64} (hd : decode bytes pc = .ok (.ladd, 1)) (hp : pc + 1 = pc') (K : Go p l e R s m args below meth c h0 Q ds k n pc' Ls (.long (x + y) :: St)) : Go p l e R s m args below meth c h0 Q ds k n pc Ls (.long y :: .long x :: St) := by
  subst hp
  exact K.pure fun T locs X target h => XS.ladd X.here C.1 rfl (hb C.2.2.2.1 hd) rfl h
theorem g_lsub (C : Cx p s m meth c Z a0 own bytes ml rt nm) (pc' : Nat) {x y : Int64} (hd : decode bytes pc = .ok (.lsub, 1)) (hp : pc + 1 = pc') (K : Go p l e R s m args below meth c h0 Q ds k n pc' Ls (.long (x - y) :: St)) : Go p l e R s m args below meth c h0 Q ds k n pc Ls (.long y :: .long x :: St) := by
  subst hp
  exact K.pure fun T locs X target h => XS.lsub X.here C.1 rfl (hb C.2.2.2.1 hd) rfl h
theorem g_lmul (C : Cx p s m meth c Z a0 own bytes ml rt nm) (pc' : Nat) {x y : Int64} (hd : decode bytes pc = .ok (.lmul, 1)) (hp : pc + 1 = pc') (K : Go p l e R s m args below meth c h0 Q ds k n pc' Ls (.long (x * y) :: St)) : Go p l e R s m args below meth c h0 Q ds k n pc Ls (.long y :: .long x :: St) := by
  subst hp
  exact K.pure fun T locs X target h => XS.lmul X.here C.1 rfl (hb C.2.2.2.1 hd) rfl h
theorem g_land (C : Cx p s m meth c Z a0 own bytes ml rt nm) (pc' : Nat) {x y : Int64} (hd : decode bytes pc = .ok (.land, 1)) (hp : pc + 1 = pc') (K : Go p l e R s m args below meth c h0 Q ds k n pc' Ls (.long (x &&& y) :: St)) : Go p l e R s m args below meth c h0 Q ds k n pc Ls (.long y :: .long x :: St) := by
  subst hp
  exact K.pure fun T locs X target h => XS.land X.here C.1 rfl (hb C.2.2.2.1 hd) rfl h
theorem g_lor (C : Cx p s m meth c Z a0 own bytes ml rt nm) (pc' : Nat) {x y : Int64} (hd : decode bytes pc = .ok (.lor, 1)) (hp : pc + 1 = pc') (K : Go p l e R s m args below meth c h0 Q ds k n pc' Ls (.long (x ||| y) :: St)) : Go p l e R s m args below meth c h0 Q ds k n pc Ls (.long y :: .long x :: St) := by
  subst hp
  exact K.pure fun T locs X target h => XS.lor X.here C.1 rfl (hb C.2.2.2.1 hd) rfl h
theorem g_lxor (C : Cx p s m meth c Z a0 own bytes ml rt nm) (pc' : Nat) {x y : Int64} (hd : decode bytes pc = .ok (.lxor, 1)) (hp : pc + 1 = pc') (K : Go p l e R s m args below meth c h0 Q ds k n pc' Ls (.long (x ^^^ y) :: St)) : Go p l e R s m args below meth c h0 Q ds k n pc Ls (.long y :: .long x :: St) := by
  subst hp
  exact K.pure fun T locs X target h => XS.lxor X.here C.1 rfl (hb C.2.2.2.1 hd) rfl h
theorem g_lshl (C : Cx p s m meth c Z a0 own bytes ml rt nm) (pc' : Nat) {x : Int64} {y : Int32} (hd : decode bytes pc = .ok (.lshl, 1)) (hp : pc + 1 = pc') (K : Go p l e R s m args below meth c h0 Q ds k n pc' Ls (.long (x <<< (y &&& 0x3f).toInt64) :: St)) : Go p l e R s m args below meth c h0 Q ds k n pc Ls (.int y :: .long x :: St) := by
  subst hp
  exact K.pure fun T locs X target h => XS.lshl X.here C.1 rfl (hb C.2.2.2.1 hd) rfl h
theorem g_lshr (C : Cx p s m meth c Z a0 own bytes ml rt nm) (pc' : Nat) {x : Int64} {y : Int32} (hd : decode bytes pc = .ok (.lshr, 1)) (hp : pc + 1 = pc') (K : Go p l e R s m args below meth c h0 Q ds k n pc' Ls (.long (x >>> (y &&& 0x3f).toInt64) :: St)) : Go p l e R s m args below meth c h0 Q ds k n pc Ls (.int y :: .long x :: St) := by
  subst hp
  exact K.pure fun T locs X target h => XS.lshr X.here C.1 rfl (hb C.2.2.2.1 hd) rfl h
theorem g_lushr (C : Cx p s m meth c Z a0 own bytes ml rt nm) (pc' : Nat) {x : Int64} {y : Int32} (hd : decode bytes pc = .ok (.lushr, 1)) (hp : pc + 1 = pc') (K : Go p l e R s m args below meth c h0 Q ds k n pc' Ls (.long ((x.toUInt64 >>> (y &&& 0x3f).toInt64.toUInt64).toInt64) :: St)) : Go p l e R s m args below meth c h0 Q ds k n pc Ls (.int y :: .long x :: St) := by
  subst hp
  exact K.pure fun T locs X target h => XS.lushr X.here C.1 rfl (hb C.2.2.2.1 hd) rfl h
theorem g_idiv (C : Cx p s m meth c Z a0 own bytes ml rt nm) (pc' : Nat) {x y : Int32} (hd : decode bytes pc = .ok (.idiv, 1)) (hp : pc + 1 = pc') (hy : y ≠ 0) (K : Go p l e R s m args below meth c h0 Q ds k n pc' Ls (.int (x / y) :: St)) : Go p l e R s m args below meth c h0 Q ds k n pc Ls (.int y :: .int x :: St) := by
  subst hp
  exact K.pure fun T locs X target h => XS.idiv X.here C.1 rfl (hb C.2.2.2.1 hd) rfl hy h
theorem g_irem (C : Cx p s m meth c Z a0 own bytes ml rt nm) (pc' : Nat) {x y : Int32} (hd : decode bytes pc = .ok (.irem, 1)) (hp : pc + 1 = pc') (hy : y ≠ 0) (K : Go p l e R s m args below meth c h0 Q ds k n pc' Ls (.int (x % y) :: St)) : Go p l e R s m args below meth c h0 Q ds k n pc Ls (.int y :: .int x :: St) := by
  subst hp
  exact K.pure fun T locs X target h => iremM X C.1 rfl (hb C.2.2.2.1 hd) rfl hy h
theorem g_ineg (C : Cx p s m meth c Z a0 own bytes ml rt nm) (pc' : Nat) {x : Int32} (hd : decode bytes pc = .ok (.ineg, 1)) (hp : pc + 1 = pc') (K : Go p l e R s m args below meth c h0 Q ds k n pc' Ls (.int (-x) :: St)) : Go p l e R s m args below meth c h0 Q ds k n pc Ls (.int x :: St) := by
  subst hp
  exact K.pure fun T locs X target h => XS.ineg X.here C.1 rfl (hb C.2.2.2.1 hd) rfl h
theorem g_i2b (C : Cx p s m meth c Z a0 own bytes ml rt nm) (pc' : Nat) {x : Int32} (hd : decode bytes pc = .ok (.i2b, 1)) (hp : pc + 1 = pc') (K : Go p l e R s m args below meth c h0 Q ds k n pc' Ls (.int (x.toInt8.toInt32) :: St)) : Go p l e R s m args below meth c h0 Q ds k n pc Ls (.int x :: St) := by
  subst hp
  exact K.pure fun T locs X target h => XS.i2b X.here C.1 rfl (hb C.2.2.2.1 hd) rfl h
theorem g_i2c (C : Cx p s m meth c Z a0 own bytes ml rt nm) (pc' : Nat) {x : Int32} (hd : decode bytes pc = .ok (.i2c, 1)) (hp : pc + 1 = pc') (K : Go p l e R s m args below meth c h0 Q ds k n pc' Ls (.int (x.toUInt32.toUInt16.toUInt32.toInt32) :: St)) : Go p l e R s m args below meth c h0 Q ds k n pc Ls (.int x :: St) := by
  subst hp
  exact K.pure fun T locs X target h => XS.i2c X.here C.1 rfl (hb C.2.2.2.1 hd) rfl h
theorem g_i2s (C : Cx p s m meth c Z a0 own bytes ml rt nm) (pc' : Nat) {x : Int32} (hd : decode bytes pc = .ok (.i2s, 1)) (hp : pc + 1 = pc') (K : Go p l e R s m args below meth c h0 Q ds k n pc' Ls (.int (x.toInt16.toInt32) :: St)) : Go p l e R s m args below meth c h0 Q ds k n pc Ls (.int x :: St) := by
  subst hp
  exact K.pure fun T locs X target h => XS.i2s X.here C.1 rfl (hb C.2.2.2.1 hd) rfl h
theorem g_i2l (C : Cx p s m meth c Z a0 own bytes ml rt nm) (pc' : Nat) {x : Int32} (hd : decode bytes pc = .ok (.i2l, 1)) (hp : pc + 1 = pc') (K : Go p l e R s m args below meth c h0 Q ds k n pc' Ls (.long x.toInt64 :: St)) : Go p l e R s m args below meth c h0 Q ds k n pc Ls (.int x :: St) := by
  subst hp
  exact K.pure fun T locs X target h => XS.i2l X.here C.1 rfl (hb C.2.2.2.1 hd) rfl h
theorem g_l2i (C : Cx p s m meth c Z a0 own bytes ml rt nm) (pc' : Nat) {x : Int64} (hd : decode bytes pc = .ok (.l2i, 1)) (hp : pc + 1 = pc') (K : Go p l e R s m args below meth c h0 Q ds k n pc' Ls (.int x.toInt32 :: St)) : Go p l e R s m args below meth c h0 Q ds k n pc Ls (.long x :: St) := by
  subst hp
  exact K.pure fun T locs X target h => XS.l2i X.here C.1 rfl (hb C.2.2.2.1 hd) rfl h
theorem g_lneg (C : Cx p s m meth c Z a0 own bytes ml rt nm) (pc' : Nat) {x : Int64} (hd : decode bytes pc = .ok (.lneg, 1)) (hp : pc + 1 = pc') (K : Go p l e R s m args below meth c h0 Q ds k n pc' Ls (.long (-x) :: St)) : Go p l e R s m args below meth c h0 Q ds k n pc Ls (.long x :: St) := by
  subst hp
  exact K.pure fun T locs X target h => XS.lneg X.here C.1 rfl (hb C.2.2.2.1 hd) rfl h
theorem g_lcmp (C : Cx p s m meth c Z a0 own bytes ml rt nm) (pc' : Nat) {x y : Int64} (hd : decode bytes pc = .ok (.lcmp, 1)) (hp : pc + 1 = pc') (K : Go p l e R s m args below meth c h0 Q ds k n pc' Ls (.int (lcmpW x y) :: St)) : Go p l e R s m args below meth c h0 Q ds k n pc Ls (.long y :: .long x :: St) := by
  subst hp
  exact K.pure fun T locs X target h => XS.lcmp X.here C.1 rfl (hb C.2.2.2.1 hd) rfl h
theorem g_iconst (C : Cx p s m meth c Z a0 own bytes ml rt nm) (pc' : Nat) (v : Int32) {i : Int} (hd : decode bytes pc = .ok (.iconst i, 1)) (hp : pc + 1 = pc') (hv : Int32.ofInt i = v) (K : Go p l e R s m args below meth c h0 Q ds k n pc' Ls (.int v :: St)) : Go p l e R s m args below meth c h0 Q ds k n pc Ls St := by
  subst hp hv
  exact K.pure fun T locs X target h => XS.iconst X.here C.1 rfl (hb C.2.2.2.1 hd) h
theorem g_bipush (C : Cx p s m meth c Z a0 own bytes ml rt nm) (pc' : Nat) (v : Int32) {i : Int} (hd : decode bytes pc = .ok (.bipush i, 2)) (hp : pc + 2 = pc') (hv : (Int8.ofInt i).toInt32 = v) (K : Go p l e R s m args below meth c h0 Q ds k n pc' Ls (.int v :: St)) : Go p l e R s m args below meth c h0 Q ds k n pc Ls St := by
  subst hp hv
  exact K.pure fun T locs X target h => XS.bipush X.here C.1 rfl (hb C.2.2.2.1 hd) h
theorem g_sipush (C : Cx p s m meth c Z a0 own bytes ml rt nm) (pc' : Nat) (v : Int32) {i : Int} (hd : decode bytes pc = .ok (.sipush i, 3)) (hp : pc + 3 = pc') (hv : (Int16.ofInt i).toInt32 = v) (K : Go p l e R s m args below meth c h0 Q ds k n pc' Ls (.int v :: St)) : Go p l e R s m args below meth c h0 Q ds k n pc Ls St := by
  subst hp hv
  exact K.pure fun T locs X target h => XS.sipush X.here C.1 rfl (hb C.2.2.2.1 hd) h
theorem g_lconst (C : Cx p s m meth c Z a0 own bytes ml rt nm) (pc' : Nat) (v : Int64) {i : Fin 2} (hd : decode bytes pc = .ok (.lconst i, 1)) (hp : pc + 1 = pc') (hv : Int64.ofNat i = v) (K : Go p l e R s m args below meth c h0 Q ds k n pc' Ls (.long v :: St)) : Go p l e R s m args below meth c h0 Q ds k n pc Ls St := by
  subst hp hv
  exact K.pure fun T locs X target h => XS.lconst X.here C.1 rfl (hb C.2.2.2.1 hd) h
theorem g_null (C : Cx p s m meth c Z a0 own bytes ml rt nm) (pc' : Nat) (hd : decode bytes pc = .ok (.aconst_null, 1)) (hp : pc + 1 = pc') (K : Go p l e R s m args below meth c h0 Q ds k n pc' Ls (.null :: St)) : Go p l e R s m args below meth c h0 Q ds k n pc Ls St := by
  subst hp
  exact K.pure fun T locs X target h => XS.aconstNull X.here C.1 rfl (hb C.2.2.2.1 hd) h
theorem g_iloadN (C : Cx p s m meth c Z a0 own bytes ml rt nm) (pc' : Nat) {i : Fin 4} {v : Int32} (hd : decode bytes pc = .ok (.iload_n i, 1)) (hp : pc + 1 = pc') (hl : Ls[i.val]? = some (.val (.int v))) (K : Go p l e R s m args below meth c h0 Q ds k n pc' Ls (.int v :: St)) : Go p l e R s m args below meth c h0 Q ds k n pc Ls St := by
  subst hp
  exact K.pure fun T locs X target h => XS.iloadN X.here C.1 rfl (hb C.2.2.2.1 hd) hl h
theorem g_iload (C : Cx p s m meth c Z a0 own bytes ml rt nm) (pc' : Nat) {i : Nat} {v : Int32} (hd : decode bytes pc = .ok (.iload i, 2)) (hp : pc + 2 = pc') (hl : Ls[i]? = some (.val (.int v))) (K : Go p l e R s m args below meth c h0 Q ds k n pc' Ls (.int v :: St)) : Go p l e R s m args below meth c h0 Q ds k n pc Ls St := by
  subst hp
  exact K.pure fun T locs X target h => XS.iload X.here C.1 rfl (hb C.2.2.2.1 hd) hl h
theorem g_istoreN (C : Cx p s m meth c Z a0 own bytes ml rt nm) (pc' : Nat) {i : Fin 4} {v : Int32} (Ls' : Array Slot) (hd : decode bytes pc = .ok (.istore_n i, 1)) (hp : pc + 1 = pc') (hl : storeLocals Ls i.val (.int v) = some Ls') (K : Go p l e R s m args below meth c h0 Q ds k n pc' Ls' St) : Go p l e R s m args below meth c h0 Q ds k n pc Ls (.int v :: St) := by
  subst hp
  exact K.pure fun T locs X target h => XS.istoreN X.here C.1 rfl (hb C.2.2.2.1 hd) rfl hl h
theorem g_istore (C : Cx p s m meth c Z a0 own bytes ml rt nm) (pc' : Nat) {i : Nat} {v : Int32} (Ls' : Array Slot) (hd : decode bytes pc = .ok (.istore i, 2)) (hp : pc + 2 = pc') (hl : storeLocals Ls i (.int v) = some Ls') (K : Go p l e R s m args below meth c h0 Q ds k n pc' Ls' St) : Go p l e R s m args below meth c h0 Q ds k n pc Ls (.int v :: St) := by
  subst hp
  exact K.pure fun T locs X target h => XS.istore X.here C.1 rfl (hb C.2.2.2.1 hd) rfl hl h
theorem g_lloadN (C : Cx p s m meth c Z a0 own bytes ml rt nm) (pc' : Nat) {i : Fin 4} {v : Int64} (hd : decode bytes pc = .ok (.lload_n i, 1)) (hp : pc + 1 = pc') (hl : Ls[i.val]? = some (.val (.long v))) (K : Go p l e R s m args below meth c h0 Q ds k n pc' Ls (.long v :: St)) : Go p l e R s m args below meth c h0 Q ds k n pc Ls St := by
  subst hp
  exact K.pure fun T locs X target h => XS.lloadN X.here C.1 rfl (hb C.2.2.2.1 hd) hl h
theorem g_lload (C : Cx p s m meth c Z a0 own bytes ml rt nm) (pc' : Nat) {i : Nat} {v : Int64} (hd : decode bytes pc = .ok (.lload i, 2)) (hp : pc + 2 = pc') (hl : Ls[i]? = some (.val (.long v))) (K : Go p l e R s m args below meth c h0 Q ds k n pc' Ls (.long v :: St)) : Go p l e R s m args below meth c h0 Q ds k n pc Ls St := by
  subst hp
  exact K.pure fun T locs X target h => XS.lload X.here C.1 rfl (hb C.2.2.2.1 hd) hl h
theorem g_lstoreN (C : Cx p s m meth c Z a0 own bytes ml rt nm) (pc' : Nat) {i : Fin 4} {v : Int64} (Ls' : Array Slot) (hd : decode bytes pc = .ok (.lstore_n i, 1)) (hp : pc + 1 = pc') (hl : storeLocals Ls i.val (.long v) = some Ls') (K : Go p l e R s m args below meth c h0 Q ds k n pc' Ls' St) : Go p l e R s m args below meth c h0 Q ds k n pc Ls (.long v :: St) := by
  subst hp
  exact K.pure fun T locs X target h => XS.lstoreN X.here C.1 rfl (hb C.2.2.2.1 hd) rfl hl h
theorem g_lstore (C : Cx p s m meth c Z a0 own bytes ml rt nm) (pc' : Nat) {i : Nat} {v : Int64} (Ls' : Array Slot) (hd : decode bytes pc = .ok (.lstore i, 2)) (hp : pc + 2 = pc') (hl : storeLocals Ls i (.long v) = some Ls') (K : Go p l e R s m args below meth c h0 Q ds k n pc' Ls' St) : Go p l e R s m args below meth c h0 Q ds k n pc Ls (.long v :: St) := by
  subst hp
  exact K.pure fun T locs X target h => XS.lstore X.here C.1 rfl (hb C.2.2.2.1 hd) rfl hl h
theorem g_dloadN (C : Cx p s m meth c Z a0 own bytes ml rt nm) (pc' : Nat) {i : Fin 4} {v : UInt64} (hd : decode bytes pc = .ok (.dload_n i, 1)) (hp : pc + 1 = pc') (hl : Ls[i.val]? = some (.val (.double v))) (K : Go p l e R s m args below meth c h0 Q ds k n pc' Ls (.double v :: St)) : Go p l e R s m args below meth c h0 Q ds k n pc Ls St := by
  subst hp
  exact K.pure fun T locs X target h => XS.dloadN X.here C.1 rfl (hb C.2.2.2.1 hd) hl h
theorem g_dload (C : Cx p s m meth c Z a0 own bytes ml rt nm) (pc' : Nat) {i : Nat} {v : UInt64} (hd : decode bytes pc = .ok (.dload i, 2)) (hp : pc + 2 = pc') (hl : Ls[i]? = some (.val (.double v))) (K : Go p l e R s m args below meth c h0 Q ds k n pc' Ls (.double v :: St)) : Go p l e R s m args below meth c h0 Q ds k n pc Ls St := by
  subst hp
  exact K.pure fun T locs X target h => XS.dload X.here C.1 rfl (hb C.2.2.2.1 hd) hl h
theorem g_dstoreN (C : Cx p s m meth c Z a0 own bytes ml rt nm) (pc' : Nat) {i : Fin 4} {v : UInt64} (Ls' : Array Slot) (hd : decode bytes pc = .ok (.dstore_n i, 1)) (hp : pc + 1 = pc') (hl : storeLocals Ls i.val (.double v) = some Ls') (K : Go p l e R s m args below meth c h0 Q ds k n pc' Ls' St) : Go p l e R s m args below meth c h0 Q ds k n pc Ls (.double v :: St) := by
  subst hp
  exact K.pure fun T locs X target h => XS.dstoreN X.here C.1 rfl (hb C.2.2.2.1 hd) rfl hl h
theorem g_dstore (C : Cx p s m meth c Z a0 own bytes ml rt nm) (pc' : Nat) {i : Nat} {v : UInt64} (Ls' : Array Slot) (hd : decode bytes pc = .ok (.dstore i, 2)) (hp : pc + 2 = pc') (hl : storeLocals Ls i (.double v) = some Ls') (K : Go p l e R s m args below meth c h0 Q ds k n pc' Ls' St) : Go p l e R s m args below meth c h0 Q ds k n pc Ls (.double v :: St) := by
  subst hp
  exact K.pure fun T locs X target h => XS.dstore X.here C.1 rfl (hb C.2.2.2.1 hd) rfl hl h
theorem g_aloadN (C : Cx p s m meth c Z a0 own bytes ml rt nm) (pc' : Nat) {i : Fin 4} {v : Value} (hd : decode bytes pc = .ok (.aload_n i, 1)) (hp : pc + 1 = pc') (hl : Ls[i.val]? = some (.val v)) (hv : v.isRef = true) (K : Go p l e R s m args below meth c h0 Q ds k n pc' Ls (v :: St)) : Go p l e R s m args below meth c h0 Q ds k n pc Ls St := by
  subst hp
  exact K.pure fun T locs X target h => XS.aloadN X.here C.1 rfl (hb C.2.2.2.1 hd) hl hv h
theorem g_aload (C : Cx p s m meth c Z a0 own bytes ml rt nm) (pc' : Nat) {i : Nat} {v : Value} (hd : decode bytes pc = .ok (.aload i, 2)) (hp : pc + 2 = pc') (hl : Ls[i]? = some (.val v)) (hv : v.isRef = true) (K : Go p l e R s m args below meth c h0 Q ds k n pc' Ls (v :: St)) : Go p l e R s m args below meth c h0 Q ds k n pc Ls St := by
  subst hp
  exact K.pure fun T locs X target h => XS.aload X.here C.1 rfl (hb C.2.2.2.1 hd) hl hv h
theorem g_astoreN (C : Cx p s m meth c Z a0 own bytes ml rt nm) (pc' : Nat) {i : Fin 4} {v : Value} (Ls' : Array Slot) (hd : decode bytes pc = .ok (.astore_n i, 1)) (hp : pc + 1 = pc') (hv : v.isRef = true) (hl : storeLocals Ls i.val v = some Ls') (K : Go p l e R s m args below meth c h0 Q ds k n pc' Ls' St) : Go p l e R s m args below meth c h0 Q ds k n pc Ls (v :: St) := by
  subst hp
  exact K.pure fun T locs X target h => XS.astoreN X.here C.1 rfl (hb C.2.2.2.1 hd) rfl hv hl h
theorem g_astore (C : Cx p s m meth c Z a0 own bytes ml rt nm) (pc' : Nat) {i : Nat} {v : Value} (Ls' : Array Slot) (hd : decode bytes pc = .ok (.astore i, 2)) (hp : pc + 2 = pc') (hv : v.isRef = true) (hl : storeLocals Ls i v = some Ls') (K : Go p l e R s m args below meth c h0 Q ds k n pc' Ls' St) : Go p l e R s m args below meth c h0 Q ds k n pc Ls (v :: St) := by
  subst hp
  exact K.pure fun T locs X target h => XS.astore X.here C.1 rfl (hb C.2.2.2.1 hd) rfl hv hl h
theorem g_iinc (C : Cx p s m meth c Z a0 own bytes ml rt nm) (pc' : Nat) {i : Nat} {cst : Int} {x : Int32} (z : Int32) (Ls' : Array Slot) (hd : decode bytes pc = .ok (.iinc i cst, 3)) (hp : pc + 3 = pc') (hl : Ls[i]? = some (.val (.int x))) (hz : x + Int32.ofInt cst = z) (hl' : storeLocals Ls i (.int z) = some Ls') (K : Go p l e R s m args below meth c h0 Q ds k n pc' Ls' St) : Go p l e R s m args below meth c h0 Q ds k n pc Ls St := by
  subst hp hz
  exact K.pure fun T locs X target h => XS.iinc X.here C.1 rfl (hb C.2.2.2.1 hd) hl hl' h
theorem g_dup (C : Cx p s m meth c Z a0 own bytes ml rt nm) (pc' : Nat) {v : Value} (hd : decode bytes pc = .ok (.dup, 1)) (hp : pc + 1 = pc') (hv : v.category = 1) (K : Go p l e R s m args below meth c h0 Q ds k n pc' Ls (v :: v :: St)) : Go p l e R s m args below meth c h0 Q ds k n pc Ls (v :: St) := by
  subst hp
  exact K.pure fun T locs X target h => XS.dup X.here C.1 rfl (hb C.2.2.2.1 hd) rfl hv h
theorem g_pop (C : Cx p s m meth c Z a0 own bytes ml rt nm) (pc' : Nat) {v : Value} (hd : decode bytes pc = .ok (.pop, 1)) (hp : pc + 1 = pc') (hv : v.category = 1) (K : Go p l e R s m args below meth c h0 Q ds k n pc' Ls St) : Go p l e R s m args below meth c h0 Q ds k n pc Ls (v :: St) := by
  subst hp
  exact K.pure fun T locs X target h => XS.pop X.here C.1 rfl (hb C.2.2.2.1 hd) rfl hv h
theorem g_dupX1 (C : Cx p s m meth c Z a0 own bytes ml rt nm) (pc' : Nat) {v w : Value} (hd : decode bytes pc = .ok (.dup_x1, 1)) (hp : pc + 1 = pc') (hv : v.category = 1) (hw : w.category = 1) (K : Go p l e R s m args below meth c h0 Q ds k n pc' Ls (v :: w :: v :: St)) : Go p l e R s m args below meth c h0 Q ds k n pc Ls (v :: w :: St) := by
  subst hp
  exact K.pure fun T locs X target h => XS.dupX1 X.here C.1 rfl (hb C.2.2.2.1 hd) rfl hv hw h
theorem g_dup2 (C : Cx p s m meth c Z a0 own bytes ml rt nm) (pc' : Nat) {v w : Value} (hd : decode bytes pc = .ok (.dup2, 1)) (hp : pc + 1 = pc') (hv : v.category = 1) (hw : w.category = 1) (K : Go p l e R s m args below meth c h0 Q ds k n pc' Ls (v :: w :: v :: w :: St)) : Go p l e R s m args below meth c h0 Q ds k n pc Ls (v :: w :: St) := by
  subst hp
  exact K.pure fun T locs X target h => XT.dup2 X.here C.1 rfl (hb C.2.2.2.1 hd) rfl hv hw h
theorem g_goto (C : Cx p s m meth c Z a0 own bytes ml rt nm) (pc' : Nat) {o : Int} (hd : decode bytes pc = .ok (.goto o, 3)) (ho : 0 ≤ (pc : Int) + o) (hp : ((pc : Int) + o).toNat = pc') (K : Go p l e R s m args below meth c h0 Q ds k n pc' Ls St) : Go p l e R s m args below meth c h0 Q ds k n pc Ls St := K.pure fun T locs X target h => XS.goto X.here C.1 rfl rfl (hb C.2.2.2.1 hd) ho hp h
theorem g_ifY (C : Cx p s m meth c Z a0 own bytes ml rt nm) (pc' : Nat) {cd : ClassFile.Cond} {x : Int32} {o : Int} (hd : decode bytes pc = .ok (.ifCond cd o, 3)) (hc : if_icmp.holds cd x 0 = true) (ho : 0 ≤ (pc : Int) + o) (hp : ((pc : Int) + o).toNat = pc') (K : Go p l e R s m args below meth c h0 Q ds k n pc' Ls St) : Go p l e R s m args below meth c h0 Q ds k n pc Ls (.int x :: St) := K.pure fun T locs X target h => XS.ifYes X.here C.1 rfl rfl (hb C.2.2.2.1 hd) rfl ((if0 _ _).trans hc) ho hp h
theorem g_ifN (C : Cx p s m meth c Z a0 own bytes ml rt nm) (pc' : Nat) {cd : ClassFile.Cond} {x : Int32} {o : Int} (hd : decode bytes pc = .ok (.ifCond cd o, 3)) (hc : if_icmp.holds cd x 0 = false) (hp : pc + 3 = pc') (K : Go p l e R s m args below meth c h0 Q ds k n pc' Ls St) : Go p l e R s m args below meth c h0 Q ds k n pc Ls (.int x :: St) := by
  subst hp
  exact K.pure fun T locs X target h => XS.ifNo X.here C.1 rfl (hb C.2.2.2.1 hd) rfl ((if0 _ _).trans hc) h
theorem g_icY (C : Cx p s m meth c Z a0 own bytes ml rt nm) (pc' : Nat) {cd : ClassFile.Cond} {x y : Int32} {o : Int} (hd : decode bytes pc = .ok (.if_icmp cd o, 3)) (hc : if_icmp.holds cd x y = true) (ho : 0 ≤ (pc : Int) + o) (hp : ((pc : Int) + o).toNat = pc') (K : Go p l e R s m args below meth c h0 Q ds k n pc' Ls St) : Go p l e R s m args below meth c h0 Q ds k n pc Ls (.int y :: .int x :: St) := K.pure fun T locs X target h => XS.icmpYes X.here C.1 rfl rfl (hb C.2.2.2.1 hd) rfl hc ho hp h
theorem g_icN (C : Cx p s m meth c Z a0 own bytes ml rt nm) (pc' : Nat) {cd : ClassFile.Cond} {x y : Int32} {o : Int} (hd : decode bytes pc = .ok (.if_icmp cd o, 3)) (hc : if_icmp.holds cd x y = false) (hp : pc + 3 = pc') (K : Go p l e R s m args below meth c h0 Q ds k n pc' Ls St) : Go p l e R s m args below meth c h0 Q ds k n pc Ls (.int y :: .int x :: St) := by
  subst hp
  exact K.pure fun T locs X target h => XS.icmpNo X.here C.1 rfl (hb C.2.2.2.1 hd) rfl hc h
theorem g_nullY (C : Cx p s m meth c Z a0 own bytes ml rt nm) (pc' : Nat) {o : Int} (hd : decode bytes pc = .ok (.ifnull o, 3)) (ho : 0 ≤ (pc : Int) + o) (hp : ((pc : Int) + o).toNat = pc') (K : Go p l e R s m args below meth c h0 Q ds k n pc' Ls St) : Go p l e R s m args below meth c h0 Q ds k n pc Ls (.null :: St) := K.pure fun T locs X target h => XS.ifnullYes X.here C.1 rfl rfl (hb C.2.2.2.1 hd) rfl ho hp h
theorem g_acY (C : Cx p s m meth c Z a0 own bytes ml rt nm) (pc' : Nat) {cd : ClassFile.ACond} {x y : Value} {o : Int} (hd : decode bytes pc = .ok (.if_acmp cd o, 3)) (hvx : x.isRef = true) (hvy : y.isRef = true) (hc : XT.acmp cd x y = true) (ho : 0 ≤ (pc : Int) + o) (hp : ((pc : Int) + o).toNat = pc') (K : Go p l e R s m args below meth c h0 Q ds k n pc' Ls St) : Go p l e R s m args below meth c h0 Q ds k n pc Ls (y :: x :: St) := K.pure fun T locs X target h => XT.acmpYes X.here C.1 rfl rfl (hb C.2.2.2.1 hd) rfl hvx hvy hc ho hp h
theorem g_acN (C : Cx p s m meth c Z a0 own bytes ml rt nm) (pc' : Nat) {cd : ClassFile.ACond} {x y : Value} {o : Int} (hd : decode bytes pc = .ok (.if_acmp cd o, 3)) (hvx : x.isRef = true) (hvy : y.isRef = true) (hc : XT.acmp cd x y = false) (hp : pc + 3 = pc') (K : Go p l e R s m args below meth c h0 Q ds k n pc' Ls St) : Go p l e R s m args below meth c h0 Q ds k n pc Ls (y :: x :: St) := by
  subst hp
  exact K.pure fun T locs X target h => XT.acmpNo X.here C.1 rfl (hb C.2.2.2.1 hd) rfl hvx hvy hc h
theorem g_ldcI (C : Cx p s m meth c Z a0 own bytes ml rt nm) (pc' : Nat) {i : Nat} (v : Int32) (hd : decode bytes pc = .ok (.ldc i, 2)) (hp : pc + 2 = pc') (w : Jvm.Cond.constant own i v ∈ tables_1) (K : Go p l e R s m args below meth c h0 Q ds k n pc' Ls (.int v :: St)) : Go p l e R s m args below meth c h0 Q ds k n pc Ls St := by
  subst hp
  exact K.pure fun T locs X target h => X.ldcInt C.1 C.2.2.2.2.2.1 (mvT C.2.1 (C.2.2.1 _ w)) (g := mkF m pc Ls St) rfl (hb C.2.2.2.1 hd) _ h
theorem g_ldcJ (C : Cx p s m meth c Z a0 own bytes ml rt nm) (pc' : Nat) {i : Nat} (v : Int64) (hd : decode bytes pc = .ok (.ldc2_w i, 3)) (hp : pc + 3 = pc') (w : Jvm.Cond.constantLong own i v ∈ tables_1) (K : Go p l e R s m args below meth c h0 Q ds k n pc' Ls (.long v :: St)) : Go p l e R s m args below meth c h0 Q ds k n pc Ls St := by
  subst hp
  exact K.pure fun T locs X target h => X.ldc2Long C.1 C.2.2.2.2.2.1 (mvT C.2.1 (C.2.2.1 _ w)) (g := mkF m pc Ls St) rfl (hb C.2.2.2.1 hd) _ h
/-! arrays -/
theorem IA.arr {ty : FieldType} {vs : List Value} {a : Addr} {cl : Cell} (hc : h[a]? = some cl) (d : IA Z ty vs cl) : Arr Z h a cl ty := ⟨hc, d.1, d.2.1⟩
theorem IA.size {ty : FieldType} {vs : List Value} {cl : Cell} (d : IA Z ty vs cl) : cl.slots.size = vs.length := by rw [← d.2.2]; simp
theorem IA.get {ty : FieldType} {vs : List Value} {cl : Cell} (d : IA Z ty vs cl) (i : Nat) : cl.slots[i]? = vs[i]? := by rw [← d.2.2]; simp
theorem IA.set {ty : FieldType} {vs : List Value} {cl : Cell} (d : IA Z ty vs cl) (i : Nat) (v : Value) : IA Z ty (vs.set i v) (cl.setSlot i v) := by
  refine ⟨d.1, d.2.1, ?_⟩
  rw [← d.2.2]
  simp [Cell.setSlot, Array.toList_setIfInBounds]
theorem in_of {ty : FieldType} {vs : List Value} {cl : Cell} (d : IA Z ty vs cl) {j : Int32} (hj : ¬ j < 0) (hlt : j.toNatClampNeg < vs.length) : ¬ (j < 0 ∨ cl.slots.size ≤ j.toNatClampNeg) := by
  rw [d.size]; rintro (q | q)
  · exact hj q
  · omega
theorem g_length (C : Cx p s m meth c Z a0 own bytes ml rt nm) (pc' : Nat) {i : Nat} {a : Addr} {ty : FieldType} {vs : List Value} (z : Int32) (hi : ds[i]? = some (a, IA Z ty vs)) (hd : decode bytes pc = .ok (.arraylength, 1)) (hp : pc + 1 = pc') (hz : vs.length.toInt32 = z) (K : Go p l e R s m args below meth c h0 Q ds k n pc' Ls (.int z :: St)) : Go p l e R s m args below meth c h0 Q ds k n pc Ls (.ref a :: St) := fun T locs X W N => by
  subst hp hz
  obtain ⟨ha, cl, hc, dc⟩ := W.at hi
  refine (K T locs X W N).pre fun t h => X.arraylength C.1 hc (State.isArrayOf_alike C.2.1.alike dc.1) (g := mkF m pc Ls (.ref a :: St)) rfl rfl (hb C.2.2.2.1 hd) t ?_
  rw [dc.size]; exact h
theorem g_aload_of (pc' : Nat) {i : Nat} {a : Addr} {ty : FieldType} {vs : List Value} (hi : ds[i]? = some (a, IA Z ty vs)) {j : Int32} (hj : ¬ j < 0) {v : Value} (hv : vs[j.toNatClampNeg]? = some v)
    (H : ∀ T locs (cl : Cell), Stand p l e R s m args below meth c T locs k n → T.heap[a]? = some cl → IA Z ty vs cl → ¬ (j < 0 ∨ cl.slots.size ≤ j.toNatClampNeg) → cl.slots[j.toNatClampNeg]? = some v → ∀ t, Steps p.tables e below (T.setTop (mkF m pc' Ls (v :: St))) t → Steps p.tables e below (T.setTop (mkF m pc Ls (.int j :: .ref a :: St))) t)
    (K : Go p l e R s m args below meth c h0 Q ds k n pc' Ls (v :: St)) : Go p l e R s m args below meth c h0 Q ds k n pc Ls (.int j :: .ref a :: St) := fun T locs X W N => by
  obtain ⟨ha, cl, hc, dc⟩ := W.at hi
  have hlt : j.toNatClampNeg < vs.length := (List.getElem?_eq_some_iff.mp hv).1
  exact (K T locs X W N).pre (H T locs cl X hc dc (in_of dc hj hlt) (by rw [dc.get]; exact hv))
theorem g_iaload (C : Cx p s m meth c Z a0 own bytes ml rt nm) (pc' : Nat) {i : Nat} {a : Addr} {xs : List Int32} (hi : ds[i]? = some (a, IA Z .int (ints xs))) (hd : decode bytes pc = .ok (.iaload, 1)) (hp : pc + 1 = pc') {j : Int32} (hj : ¬ j < 0) (v : Int32) (hv : xs[j.toNatClampNeg]? = some v) (K : Go p l e R s m args below meth c h0 Q ds k n pc' Ls (.int v :: St)) : Go p l e R s m args below meth c h0 Q ds k n pc Ls (.int j :: .ref a :: St) :=
  g_aload_of pc' hi hj (v := .int v) (by simp [hv]) (fun T locs cl X hc dc hin hat t h => by subst hp; exact X.iaload C.1 hc (State.isArrayOf_alike C.2.1.alike dc.1) dc.2.1 hin hat (g := mkF m pc Ls (.int j :: .ref a :: St)) rfl rfl (hb C.2.2.2.1 hd) t h) K
theorem g_caload (C : Cx p s m meth c Z a0 own bytes ml rt nm) (pc' : Nat) {i : Nat} {a : Addr} {xs : List Int32} (hi : ds[i]? = some (a, IA Z .char (ints xs))) (hd : decode bytes pc = .ok (.caload, 1)) (hp : pc + 1 = pc') {j : Int32} (hj : ¬ j < 0) (v : Int32) (hv : xs[j.toNatClampNeg]? = some v) (K : Go p l e R s m args below meth c h0 Q ds k n pc' Ls (.int v :: St)) : Go p l e R s m args below meth c h0 Q ds k n pc Ls (.int j :: .ref a :: St) :=
  g_aload_of pc' hi hj (v := .int v) (by simp [hv]) (fun T locs cl X hc dc hin hat t h => by subst hp; exact X.caload C.1 hc (State.isArrayOf_alike C.2.1.alike dc.1) dc.2.1 hin hat (g := mkF m pc Ls (.int j :: .ref a :: St)) rfl rfl (hb C.2.2.2.1 hd) t h) K
theorem g_baload (C : Cx p s m meth c Z a0 own bytes ml rt nm) (pc' : Nat) {i : Nat} {a : Addr} {xs : List Int32} (hi : ds[i]? = some (a, IA Z .byte (ints xs))) (hd : decode bytes pc = .ok (.baload, 1)) (hp : pc + 1 = pc') {j : Int32} (hj : ¬ j < 0) (v : Int32) (hv : xs[j.toNatClampNeg]? = some v) (K : Go p l e R s m args below meth c h0 Q ds k n pc' Ls (.int v :: St)) : Go p l e R s m args below meth c h0 Q ds k n pc Ls (.int j :: .ref a :: St) :=
  g_aload_of pc' hi hj (v := .int v) (by simp [hv]) (fun T locs cl X hc dc hin hat t h => by subst hp; exact X.baloadBytes C.1 hc (State.isArrayOf_alike C.2.1.alike dc.1) dc.2.1 hin hat (g := mkF m pc Ls (.int j :: .ref a :: St)) rfl rfl (hb C.2.2.2.1 hd) t h) K
theorem g_aaload (C : Cx p s m meth c Z a0 own bytes ml rt nm) (pc' : Nat) {i : Nat} {a : Addr} {ty : FieldType} {vs : List Value} (hi : ds[i]? = some (a, IA Z ty vs)) (hty : ty.isReference = true) (hd : decode bytes pc = .ok (.aaload, 1)) (hp : pc + 1 = pc') {j : Int32} (hj : ¬ j < 0) (v : Value) (hv : vs[j.toNatClampNeg]? = some v) (K : Go p l e R s m args below meth c h0 Q ds k n pc' Ls (v :: St)) : Go p l e R s m args below meth c h0 Q ds k n pc Ls (.int j :: .ref a :: St) :=
  g_aload_of pc' hi hj hv (fun T locs cl X hc dc hin hat t h => by subst hp; exact X.aaload C.1 hc (State.isArrayOf_alike C.2.1.alike dc.1) hty dc.2.1 hin hat (g := mkF m pc Ls (.int j :: .ref a :: St)) rfl rfl (hb C.2.2.2.1 hd) t h) K
theorem g_astore_of (C : Cx p s m meth c Z a0 own bytes ml rt nm) (pc' : Nat) {i : Nat} {a : Addr} {ty : FieldType} {vs vs' : List Value} (ds' : Wd) (hi : ds[i]? = some (a, IA Z ty vs)) {j : Int32} (hj : ¬ j < 0) (hlt : j.toNatClampNeg < vs.length) {v w : Value} (hvs : vs.set j.toNatClampNeg v = vs') (hds : ds.set i (a, IA Z ty vs') = ds')
    (H : ∀ T locs (cl : Cell), Stand p l e R s m args below meth c T locs k n → Arr Z T.heap a cl ty → ¬ (j < 0 ∨ cl.slots.size ≤ j.toNatClampNeg) → ∃ T' h', Stand p l e R s m args below meth c T' (locs ++ [⟨a, j.toNatClampNeg⟩]) k n ∧ T'.heap = h' ∧ Wr T.heap h' a j.toNatClampNeg v ∧ ∀ t, Steps p.tables e below (T'.setTop (mkF m pc' Ls St)) t → Steps p.tables e below (T.setTop (mkF m pc Ls (w :: .int j :: .ref a :: St))) t)
    (K : Go p l e R s m args below meth c h0 Q ds' k n pc' Ls St) : Go p l e R s m args below meth c h0 Q ds k n pc Ls (w :: .int j :: .ref a :: St) := fun T locs X W N => by
  subst hds hvs
  obtain ⟨ha, cl, hc, dc⟩ := W.at hi
  obtain ⟨T', h', X', e', wr, st⟩ := H T locs cl X (dc.arr hc) (in_of dc hj hlt)
  exact (K T' _ X' (by rw [e']; exact W.wr hi wr (fun c2 h2 _ d2 => d2.set _ _)) (Fr.snoc X' N ha)).pre st
theorem ints_set (xs : List Int32) (i : Nat) (v : Int32) : (ints xs).set i (.int v) = ints (xs.set i v) := by simp [ints, List.map_set]
theorem g_iastore (C : Cx p s m meth c Z a0 own bytes ml rt nm) (pc' : Nat) {i : Nat} {a : Addr} {xs : List Int32} (xs' : List Int32) (ds' : Wd) (hi : ds[i]? = some (a, IA Z .int (ints xs))) (hd : decode bytes pc = .ok (.iastore, 1)) (hp : pc + 1 = pc') {j v : Int32} (hj : ¬ j < 0) (hlt : j.toNatClampNeg < xs.length) (hx : xs.set j.toNatClampNeg v = xs') (hds : ds.set i (a, IA Z .int (ints xs')) = ds')
    (K : Go p l e R s m args below meth c h0 Q ds' k n pc' Ls St) : Go p l e R s m args below meth c h0 Q ds k n pc Ls (.int v :: .int j :: .ref a :: St) :=
  g_astore_of C pc' ds' hi hj (by simpa using hlt) (v := .int v) (vs' := ints xs') (by rw [ints_set, hx]) hds (fun T locs cl X A hin => by
    subst hp
    exact stI X C.1 C.2.1 rfl A hin (g := mkF m pc Ls (.int v :: .int j :: .ref a :: St)) rfl rfl (hb C.2.2.2.1 hd)) K
theorem g_castore (C : Cx p s m meth c Z a0 own bytes ml rt nm) (pc' : Nat) {i : Nat} {a : Addr} {xs : List Int32} (xs' : List Int32) (ds' : Wd) (hi : ds[i]? = some (a, IA Z .char (ints xs))) (hd : decode bytes pc = .ok (.castore, 1)) (hp : pc + 1 = pc') {j v : Int32} (hj : ¬ j < 0) (hlt : j.toNatClampNeg < xs.length) (hx : xs.set j.toNatClampNeg (nar .char v) = xs') (hds : ds.set i (a, IA Z .char (ints xs')) = ds')
    (K : Go p l e R s m args below meth c h0 Q ds' k n pc' Ls St) : Go p l e R s m args below meth c h0 Q ds k n pc Ls (.int v :: .int j :: .ref a :: St) :=
  g_astore_of C pc' ds' hi hj (by simpa using hlt) (v := .int (nar .char v)) (vs' := ints xs') (by rw [ints_set, hx]) hds (fun T locs cl X A hin => by
    subst hp
    exact stC X C.1 C.2.1 rfl A hin (g := mkF m pc Ls (.int v :: .int j :: .ref a :: St)) rfl rfl (hb C.2.2.2.1 hd)) K
theorem g_bastore (C : Cx p s m meth c Z a0 own bytes ml rt nm) (pc' : Nat) {i : Nat} {a : Addr} {xs : List Int32} (xs' : List Int32) (ds' : Wd) (hi : ds[i]? = some (a, IA Z .byte (ints xs))) (hd : decode bytes pc = .ok (.bastore, 1)) (hp : pc + 1 = pc') {j v : Int32} (hj : ¬ j < 0) (hlt : j.toNatClampNeg < xs.length) (hx : xs.set j.toNatClampNeg (nar .byte v) = xs') (hds : ds.set i (a, IA Z .byte (ints xs')) = ds')
    (K : Go p l e R s m args below meth c h0 Q ds' k n pc' Ls St) : Go p l e R s m args below meth c h0 Q ds k n pc Ls (.int v :: .int j :: .ref a :: St) :=
  g_astore_of C pc' ds' hi hj (by simpa using hlt) (v := .int (nar .byte v)) (vs' := ints xs') (by rw [ints_set, hx]) hds (fun T locs cl X A hin => by
    subst hp
    exact stB X C.1 C.2.1 rfl A hin (g := mkF m pc Ls (.int v :: .int j :: .ref a :: St)) rfl rfl (hb C.2.2.2.1 hd)) K
theorem IA.new {cA : ClassId} {ty : FieldType} {z : Int32} {a : Addr} (A : Arr Z h a (newA cA ty z) ty) : IA Z ty (List.replicate z.toNatClampNeg (defaultValue ty)) (newA cA ty z) := ⟨A.2.1, A.2.2, by simp [newA]⟩
theorem g_newarray (C : Cx p s m meth c Z a0 own bytes ml rt nm) (pc' : Nat) {aty : ArrayType} {z : Int32} (vs : List Value) (cap : Nat) (w : Jvm.Cond.arrayClass (newarray.typeOf aty) ∈ tables_1) (hd : decode bytes pc = .ok (.newarray aty, 2)) (hp : pc + 2 = pc') (hz : ¬ z < 0) (hcap : z.toNatClampNeg ≤ cap) (hcb : cap * 8 ≤ 536870912) (hk : k + 1 ≤ R.cells) (hn : n + cap ≤ R.slots)
    (hvs : List.replicate z.toNatClampNeg (defaultValue (newarray.typeOf aty)) = vs) (K : ∀ a, Go p l e R s m args below meth c h0 Q (ds ++ [(a, IA Z (newarray.typeOf aty) vs)]) (k + 1) (n + cap) pc' Ls (.ref a :: St)) : Go p l e R s m args below meth c h0 Q ds k n pc Ls (.int z :: St) := fun T locs X W N => by
  subst hp hvs
  obtain ⟨T', h', cA, X', e', E, A, st⟩ := newP X C.1 C.2.1 (C.2.2.1 _ w) rfl (g := mkF m pc Ls (.int z :: St)) rfl (hb C.2.2.2.1 hd) rfl hz hcap hcb hk hn
  exact (K T.heap.size T' locs X' (by rw [e']; exact W.new E A.1 (IA.new A)) N).pre st
/-! objects -/
theorem g_getfield (C : Cx p s m meth c Z a0 own bytes ml rt nm) (pc' : Nat) {i j idx : Nat} {a : Addr} {Cn O nf d : String} {v : Value} {fs : List Fv} (hi : ds[i]? = some (a, OB Z a0 Cn fs)) (hf : fs[j]? = some (O, nf, d, v)) (hd : decode bytes pc = .ok (.getfield idx, 3)) (hp : pc + 3 = pc') (w : Jvm.Cond.fieldLink own idx O nf d ∈ tables_1)
    (K : Go p l e R s m args below meth c h0 Q ds k n pc' Ls (v :: St)) : Go p l e R s m args below meth c h0 Q ds k n pc Ls (.ref a :: St) := fun T locs X W N => by
  subst hp
  obtain ⟨ha, cl, hc, dc⟩ := W.at hi
  obtain ⟨T', X', e', st⟩ := getF X C.1 C.2.1 C.2.2.2.2.2.1 (host := "") (Or.inl (C.2.2.1 _ w)) Via.refl rfl (dc.fld hc (List.mem_of_getElem? hf)) (g := mkF m pc Ls (.ref a :: St)) rfl rfl (hb C.2.2.2.1 hd)
  exact (K T' locs X' (by rw [e']; exact W) N).pre st
theorem OB.put {Cn O nf d : String} {v old : Value} {fs : List Fv} {j : Nat} {a : Addr} {cl : Cell} (hc : h[a]? = some cl) (dc : OB Z a0 Cn fs cl) (hf : fs[j]? = some (O, nf, d, old)) (hnd : (fs.map (fun x => x.2.1)).Nodup) (wr : Wr h h' a (Jvm.RoadKit.slotOf Z O nf d) v) : ∃ cl' : Cell, h'[a]? = some cl' ∧ OB Z a0 Cn (fs.set j (O, nf, d, v)) cl' := by
  have E : Exa Z h' a Cn := (dc.exa hc).wr wr
  obtain ⟨cl', k', hc', -⟩ := id E
  refine ⟨cl', hc', OB.of E hc' fun x hx => ?_⟩
  obtain ⟨q, hq⟩ := List.getElem?_of_mem hx
  have Fj := dc.fld hc (List.mem_of_getElem? hf)
  obtain ⟨-, Lj, tj, hj⟩ := dc.2 _ (List.mem_of_getElem? hf)
  rw [List.getElem?_set] at hq
  split at hq
  · rename_i hjq
    split at hq
    · cases hq; exact ⟨Fj.same wr, Lj, tj, hj⟩
    · cases hq
  · rename_i hjq
    obtain ⟨O', n', d', v'⟩ := x
    have Fx := dc.fld hc (List.mem_of_getElem? hq)
    obtain ⟨-, Lx, tx, hx'⟩ := dc.2 _ (List.mem_of_getElem? hq)
    refine ⟨Fx.other wr (Or.inr (slot_ne Lx Lj ?_ hx' hj)), Lx, tx, hx'⟩
    intro en
    apply hjq
    obtain ⟨l1, e1⟩ := List.getElem?_eq_some_iff.mp hf
    obtain ⟨l2, e2⟩ := List.getElem?_eq_some_iff.mp hq
    have g : (fs.map (fun x => x.2.1))[j]'(by simpa using l1) = (fs.map (fun x => x.2.1))[q]'(by simpa using l2) := by simp only [List.getElem_map, e1, e2]; exact en.symm
    exact nodup_inj hnd _ _ g
theorem Wld.wr' {i : Nat} {a : Addr} {d d' : Desc} {sl : Nat} {v : Value} {cl' : Cell} (W : Wld h0 ds h) (hi : ds[i]? = some (a, d)) (wr : Wr h h' a sl v) (hc' : h'[a]? = some cl') (dc' : d' cl') : Wld h0 (ds.set i (a, d')) h' :=
  W.wr hi wr fun c2 h2 hsl _ => by
    obtain ⟨c', e1, -, -, -, -, -, e7⟩ := wr_at wr h2
    cases e1.symm.trans hc'
    rw [← (e7 rfl).1]; exact dc'
theorem g_putfield (C : Cx p s m meth c Z a0 own bytes ml rt nm) (pc' : Nat) {i j idx kk : Nat} {a : Addr} {Cn O nf d : String} {v v' old : Value} {ty : FieldType} {fs : List Fv} (fs' : List Fv) (ds' : Wd) (hi : ds[i]? = some (a, OB Z a0 Cn fs)) (hf : fs[j]? = some (O, nf, d, old)) (hd : decode bytes pc = .ok (.putfield idx, 3)) (hp : pc + 3 = pc')
    (w : Jvm.Cond.fieldLink own idx O nf d ∈ tables_1) (L : Jvm.Cond.lays Cn O nf d ∈ tables_1 ∨ (Jvm.Cond.laysFinal Cn O nf d ∈ tables_1 ∧ own = O ∧ nm = "<init>")) (wi : Jvm.Cond.instantiable Cn kk ∈ tables_1) (hty : parseFieldDescriptor d = some ty) (hnr : narrow ty v = v') (hft : fits ty v' = true) (hnd : (fs.map (fun x => x.2.1)).Nodup)
    (hfs : fs.set j (O, nf, d, v') = fs') (hds : ds.set i (a, OB Z a0 Cn fs') = ds') (K : Go p l e R s m args below meth c h0 Q ds' k n pc' Ls St) : Go p l e R s m args below meth c h0 Q ds k n pc Ls (v :: .ref a :: St) := fun T locs X W N => by
  subst hp hfs hds
  obtain ⟨ha, cl, hc, dc⟩ := W.at hi
  obtain ⟨T', h', X', e', wr, st⟩ := putFN X C.1 C.2.1 C.2.2.2.2.2.1 (C.2.2.1 _ w) Via.refl rfl (dc.fld hc (List.mem_of_getElem? hf)) (dc.exa hc) (L.imp (fun q => C.2.2.1 _ q) (fun q => ⟨C.2.2.1 _ q.1, q.2.1, C.2.2.2.2.2.2.2.2.trans q.2.2⟩)) (C.2.2.1 _ wi) hty hnr hft (g := mkF m pc Ls (v :: .ref a :: St)) rfl rfl (hb C.2.2.2.1 hd)
  obtain ⟨cl', hc', dc'⟩ := dc.put hc hf hnd wr
  exact (K T' _ X' (by rw [e']; exact W.wr' hi wr hc' dc') (Fr.snoc X' N ha)).pre st
theorem g_new (C : Cx p s m meth c Z a0 own bytes ml rt nm) (pc' : Nat) {idx sz : Nat} {Cn : String} (fs : List Fv) (w : Jvm.Cond.classLink own idx Cn ∈ tables_1) (wi : Jvm.Cond.instantiable Cn sz ∈ tables_1) (wz : Jvm.Cond.initialized Cn ∈ tables_1) (hd : decode bytes pc = .ok (.new idx, 3)) (hp : pc + 3 = pc') (hk : k + 1 ≤ R.cells) (hn : n + sz ≤ R.slots)
    (hfs : ∀ x ∈ fs, (Jvm.Cond.lays Cn x.1 x.2.1 x.2.2.1 ∈ tables_1 ∨ Jvm.Cond.laysFinal Cn x.1 x.2.1 x.2.2.1 ∈ tables_1) ∧ ∃ t, parseFieldDescriptor x.2.2.1 = some t ∧ x.2.2.2 = defaultValue t)
    (K : ∀ a, Go p l e R s m args below meth c h0 Q (ds ++ [(a, OB Z a0 Cn fs)]) (k + 1) (n + sz) pc' Ls (.ref a :: St)) : Go p l e R s m args below meth c h0 Q ds k n pc Ls St := fun T locs X W N => by
  subst hp
  obtain ⟨T', h', X', e', E, A, D, ⟨cell, hcell, -⟩, st⟩ := newO X C.1 C.2.1 C.2.2.2.2.2.1 (C.2.2.1 _ w) (C.2.2.1 _ wi) (C.2.2.1 _ wz) rfl (g := mkF m pc Ls St) rfl (hb C.2.2.2.1 hd) hk hn
  refine (K T.heap.size T' locs X' (by
    rw [e']
    exact W.new E hcell (OB.of A hcell fun x hx => by
      obtain ⟨L, t, ht, hv⟩ := hfs x hx
      have L' : Laid Z a0 Cn x.1 x.2.1 x.2.2.1 := L.imp (fun q => C.2.2.1 _ q) (fun q => C.2.2.1 _ q)
      exact ⟨by rw [hv]; exact D L' ht, L', t, ht⟩)) N).pre st
theorem g_initO (C : Cx p s m meth c Z a0 own bytes ml rt nm) (pc' W0 : Nat) {idx : Nat} {a : Addr} (w1 : Jvm.Cond.methodLink own idx Lib.objectInit ∈ tables_1) (w2 : Jvm.Cond.instanceMethod Lib.objectInit ∈ tables_1) (w3 : Jvm.Cond.code Lib.objectInit ⟨#[0xb1]⟩ 1 none ∈ tables_1) (hd : decode bytes pc = .ok (.invokespecial idx, 3)) (hp : pc + 3 = pc') (hsz : Ls.size = ml) (hf : 1 ≤ R.frames) (hW : (St.map fun v => v.category).sum ≤ W0) (hl : W0 + 12 ≤ R.locals)
    (K : Go p l e R s m args below meth c h0 Q ds k n pc' Ls St) : Go p l e R s m args below meth c h0 Q ds k n pc Ls (.ref a :: St) := fun T locs X W N => by
  subst hp
  obtain ⟨T', X', e', st⟩ := initO X C.1 C.2.1 C.2.2.2.2.2.1 (C.2.2.1 _ w1) (C.2.2.1 _ w2) (C.2.2.1 _ w3) rfl (g := mkF m pc Ls (.ref a :: St)) rfl (by rw [C.2.2.2.2.1]; exact hsz) rfl (hb C.2.2.2.1 hd) hf (W := W0) (by show 2 * 0 + _ ≤ _; omega) hl
  exact (K T' locs X' (by rw [e']; exact W) N).pre st
/-! statics -/
theorem g_getstatic (C : Cx p s m meth c Z a0 own bytes ml rt nm) (pc' : Nat) {idx : Nat} {O nf d : String} {v : Value} (S : Sta Z h0 O nf d v) (hd : decode bytes pc = .ok (.getstatic idx, 3)) (hp : pc + 3 = pc') (w : Jvm.Cond.fieldLink own idx O nf d ∈ tables_1)
    (K : Go p l e R s m args below meth c h0 Q ds k n pc' Ls (v :: St)) : Go p l e R s m args below meth c h0 Q ds k n pc Ls St := fun T locs X W N => by
  subst hp
  obtain ⟨T', X', e', st⟩ := getS (host := "") X C.1 C.2.1 C.2.2.2.2.2.1 (C.2.2.1 _ w) Via.refl rfl (S.ext W.extOf) (g := mkF m pc Ls St) rfl (hb C.2.2.2.1 hd)
  exact (K T' locs X' (by rw [e']; exact W) N).pre st
/-! calls -/
theorem Go.back {pc' : Nat} {St' : List Value} {Q' : Option Value → Wd → Prop} {rm : Room} {locs : List Loc} {A : State} (N : Fr h0.size locs)
    (H : ∃ (v : Option Value) (B : Pt), Stand p l e R s m args below meth c B.U B.locs B.cells B.slots ∧ (∃ L, (∃ ds', Q' v ds' ∧ Wld h0 ds' B.U.heap ∧ Fr h0.size L) ∧ B.locs = locs ++ L ∧ B.cells = k + rm.cells ∧ B.slots = n + rm.slots) ∧ ∀ t, Steps p.tables e below (B.U.setTop (mkF m pc' Ls (v.toList ++ St'))) t → Steps p.tables e below A t)
    (K : ∀ v ds', Q' v ds' → Go p l e R s m args below meth c h0 Q ds' (k + rm.cells) (n + rm.slots) pc' Ls (v.toList ++ St')) :
    Ends p.tables e below A (fun o t => ∃ v L, o = .returned v ∧ (∃ ds', Q v ds' ∧ Wld h0 ds' t.heap ∧ Fr h0.size L) ∧ FrameEnd s o t L R.cells R.slots) := by
  obtain ⟨v, ⟨U, L', c', s'⟩, X', ⟨L, ⟨ds', q, W', N'⟩, e1, e2, e3⟩, st⟩ := H
  dsimp only [Pt.U, Pt.locs, Pt.cells, Pt.slots] at X' W' e1 e2 e3 st
  subst e1 e2 e3
  exact (K v ds' q U _ X' W' (N.app N')).pre st
theorem g_static (C : Cx p s m meth c Z a0 own bytes ml rt nm) (pc' W0 : Nat) {idx : Nat} {y : MethodName} {bytes' : ByteArray} {ml' : Nat} {rt' : Option FieldType} {rm : Room} {argsL : List Value} {Q' : Option Value → Wd → Prop} (con : Con l Z y bytes' ml' rt' rm h0 argsL.toArray ds Q')
    (w1 : Jvm.Cond.methodLink own idx y ∈ tables_1) (w2 : Jvm.Cond.static y ∈ tables_1) (w3 : Jvm.Cond.initialized y.cls ∈ tables_1) (w4 : Jvm.Cond.code y bytes' ml' rt' ∈ tables_1) (hy : y.cls ≠ "java/lang/invoke/MethodHandle" ∧ y.cls ≠ "java/lang/invoke/VarHandle")
    (hd : decode bytes pc = .ok (.invokestatic idx, 3)) (hp : pc + 3 = pc') (hsz : Ls.size = ml) (hlen : ∀ sig, parseMethodDescriptor y.desc = some sig → argsL.length = sig.parameters.length) {St0 : List Value} (hst : St0 = argsL.reverse ++ St) (hW : (St.map fun v => v.category).sum ≤ W0) (hf : rm.frames + 1 ≤ R.frames) (hl : W0 + (ml' + 11) + rm.locals ≤ R.locals) (hk : k + rm.cells ≤ R.cells) (hn : n + rm.slots ≤ R.slots)
    (K : ∀ v ds', Q' v ds' → Go p l e R s m args below meth c h0 Q ds' (k + rm.cells) (n + rm.slots) pc' Ls (v.toList ++ St)) : Go p l e R s m args below meth c h0 Q ds k n pc Ls St0 := fun T locs X W N => by
  subst hp hst
  refine Go.back (pc' := pc + 3) (Ls := Ls) (St' := St) N ?_ K
  obtain ⟨v, vm₁, B, -, X', hpost, st⟩ := Jvm.LawKit.callS X C.1 (y := y) C.2.2.2.2.2.1 (mvT C.2.1 (C.2.2.1 _ w1)) (mvT C.2.1 (C.2.2.1 _ w2)) (mvT C.2.1 (C.2.2.1 _ w3)) (mvT C.2.1 (C.2.2.1 _ w4)) hy
    (backOf (W := W0) (Q := fun v hh L => ∃ ds', Q' v ds' ∧ Wld h0 ds' hh ∧ Fr h0.size L) (con T.heap W []) C.2.1 (C.2.2.1 _ w4) (C.2.2.1 _ w3) hf hl) (g := mkF m pc Ls (argsL.reverse ++ St)) rfl (by rw [C.2.2.2.2.1]; exact hsz) (argsL := argsL) (rest := St) hlen rfl (by show 2 * 0 + _ ≤ _; omega) (hb C.2.2.2.1 hd) (fun _ _ => ⟨rfl, rfl, hk, hn⟩)
  obtain ⟨L, q, e1, e2, e3⟩ := hpost
  exact ⟨v, B, X', ⟨L, q, e1, e2, e3⟩, st⟩
theorem g_special (C : Cx p s m meth c Z a0 own bytes ml rt nm) (pc' W0 : Nat) {idx : Nat} {y : MethodName} {bytes' : ByteArray} {ml' : Nat} {rm : Room} {a : Addr} {argsL : List Value} {Q' : Option Value → Wd → Prop} (con : Con l Z y bytes' ml' none rm h0 (.ref a :: argsL).toArray ds Q') (hy1 : y.name = "<init>")
    (w1 : Jvm.Cond.methodLink own idx y ∈ tables_1) (w2 : Jvm.Cond.instanceMethod y ∈ tables_1) (w3 : Jvm.Cond.initialized y.cls ∈ tables_1) (w4 : Jvm.Cond.code y bytes' ml' none ∈ tables_1) (hy : y.cls ≠ "java/lang/invoke/MethodHandle" ∧ y.cls ≠ "java/lang/invoke/VarHandle")
    (hd : decode bytes pc = .ok (.invokespecial idx, 3)) (hp : pc + 3 = pc') (hsz : Ls.size = ml) (hlen : ∀ sig, parseMethodDescriptor y.desc = some sig → argsL.length = sig.parameters.length) {St0 : List Value} (hst : St0 = argsL.reverse ++ .ref a :: St) (hW : (St.map fun v => v.category).sum ≤ W0) (hf : rm.frames + 1 ≤ R.frames) (hl : W0 + (ml' + 11) + rm.locals ≤ R.locals) (hk : k + rm.cells ≤ R.cells) (hn : n + rm.slots ≤ R.slots)
    (K : ∀ v ds', Q' v ds' → Go p l e R s m args below meth c h0 Q ds' (k + rm.cells) (n + rm.slots) pc' Ls (v.toList ++ St)) : Go p l e R s m args below meth c h0 Q ds k n pc Ls St0 := fun T locs X W N => by
  subst hp hst
  refine Go.back (pc' := pc + 3) (Ls := Ls) (St' := St) N ?_ K
  obtain ⟨v, vm₁, B, -, X', hpost, st⟩ := X.specialBack C.1 (y := y) hy1 C.2.2.2.2.2.1 (mvT C.2.1 (C.2.2.1 _ w1)) (mvT C.2.1 (C.2.2.1 _ w2)) (mvT C.2.1 (C.2.2.1 _ w4)) hy
    (backOf (W := W0) (Q := fun v hh L => ∃ ds', Q' v ds' ∧ Wld h0 ds' hh ∧ Fr h0.size L) (con T.heap W []) C.2.1 (C.2.2.1 _ w4) (C.2.2.1 _ w3) hf hl) (g := mkF m pc Ls (argsL.reverse ++ .ref a :: St)) rfl (by rw [C.2.2.2.2.1]; exact hsz) (Steps.refl _) (a := a) (argsL := argsL) (rest := St) hlen rfl (by show 2 * 0 + _ ≤ _; omega) (hb C.2.2.2.1 hd) (fun _ _ => ⟨rfl, rfl, hk, hn⟩)
  obtain ⟨L, q, e1, e2, e3⟩ := hpost
  exact ⟨v, B, X', ⟨L, q, e1, e2, e3⟩, fun t h => st.trans h⟩
theorem g_virtual (C : Cx p s m meth c Z a0 own bytes ml rt nm) (pc' W0 : Nat) {i idx : Nat} {Cn : String} {fs : List Fv} {y : MethodName} {bytes' : ByteArray} {ml' : Nat} {rt' : Option FieldType} {rm : Room} {a : Addr} {argsL : List Value} {Q' : Option Value → Wd → Prop} (hi : ds[i]? = some (a, OB Z a0 Cn fs)) (con : Con l Z y bytes' ml' rt' rm h0 (.ref a :: argsL).toArray ds Q')
    (w1 : Jvm.Cond.methodLink own idx y ∈ tables_1) (w2 : Jvm.Cond.declares y ∈ tables_1) (w5 : Jvm.Cond.selects Cn y y ∈ tables_1) (w6 : Jvm.Cond.instanceMethod y ∈ tables_1) (w3 : Jvm.Cond.initialized y.cls ∈ tables_1) (w4 : Jvm.Cond.code y bytes' ml' rt' ∈ tables_1) (hy : y.cls ≠ "java/lang/invoke/MethodHandle" ∧ y.cls ≠ "java/lang/invoke/VarHandle")
    (hd : decode bytes pc = .ok (.invokevirtual idx, 3)) (hp : pc + 3 = pc') (hsz : Ls.size = ml) (hlen : ∀ sig, parseMethodDescriptor y.desc = some sig → argsL.length = sig.parameters.length) {St0 : List Value} (hst : St0 = argsL.reverse ++ .ref a :: St) (hW : (St.map fun v => v.category).sum ≤ W0) (hf : rm.frames + 1 ≤ R.frames) (hl : W0 + (ml' + 11) + rm.locals ≤ R.locals) (hk : k + rm.cells ≤ R.cells) (hn : n + rm.slots ≤ R.slots)
    (K : ∀ v ds', Q' v ds' → Go p l e R s m args below meth c h0 Q ds' (k + rm.cells) (n + rm.slots) pc' Ls (v.toList ++ St)) : Go p l e R s m args below meth c h0 Q ds k n pc Ls St0 := fun T locs X W N => by
  subst hp hst
  refine Go.back (pc' := pc + 3) (Ls := Ls) (St' := St) N ?_ K
  obtain ⟨ha, cl, hc, dc⟩ := W.at hi
  obtain ⟨cq, kq, qa, qb, qc⟩ := isOf C.2.1 rfl (dc.exa hc)
  obtain ⟨v, vm₁, B, -, X', hpost, st⟩ := X.virtualBack C.1 (y := y) (z := y) C.2.2.2.2.2.1 (mvT C.2.1 (C.2.2.1 _ w1)) (mvT C.2.1 (C.2.2.1 _ w2)) (notFace_of_selects (args := #[]) (mvT C.2.1 (C.2.2.1 _ w5))) (mvT C.2.1 (C.2.2.1 _ w5)) (mvT C.2.1 (C.2.2.1 _ w6)) hy
    (backOf (W := W0) (Q := fun v hh L => ∃ ds', Q' v ds' ∧ Wld h0 ds' hh ∧ Fr h0.size L) (con T.heap W []) C.2.1 (C.2.2.1 _ w4) (C.2.2.1 _ w3) hf hl) qa qc (g := mkF m pc Ls (argsL.reverse ++ .ref a :: St)) rfl (by rw [C.2.2.2.2.1]; exact hsz) (Steps.refl _) (argsL := argsL) (rest := St) hlen rfl (by show 2 * 0 + _ ≤ _; omega) (hb C.2.2.2.1 hd) (fun _ _ => ⟨rfl, rfl, hk, hn⟩)
  obtain ⟨L, q, e1, e2, e3⟩ := hpost
  exact ⟨v, B, X', ⟨L, q, e1, e2, e3⟩, fun t h => st.trans h⟩
end Own
/-! lists of ints read and written by an int -/
def el (xs : List Int32) (j : Int32) : Int32 := xs.getD j.toNatClampNeg 0
def inb (xs : List Int32) (j : Int32) : Bool := !(decide (j < 0)) && decide (j.toNatClampNeg < xs.length)
def stl (xs : List Int32) (j v : Int32) : List Int32 := xs.set j.toNatClampNeg v
theorem inb_nn {xs : List Int32} {j : Int32} (h : inb xs j = true) : ¬ j < 0 := by simp [inb] at h; exact Int32.not_lt.mpr h.1
theorem inb_lt {xs : List Int32} {j : Int32} (h : inb xs j = true) : j.toNatClampNeg < xs.length := by simp [inb] at h; exact h.2
theorem el_get {xs : List Int32} {j : Int32} (h : inb xs j = true) : xs[j.toNatClampNeg]? = some (el xs j) := by
  have q := inb_lt h
  unfold el
  rw [List.getD_eq_getElem?_getD, List.getElem?_eq_getElem q]; rfl
def ob {α β : Type} (o : Option α) (f : α → Option β) : Option β := match o with | none => none | some a => f a
theorem ob_some {α β : Type} (a : α) (f : α → Option β) : ob (some a) f = f a := rfl
theorem ob_none {α β : Type} (f : α → Option β) : ob none f = none := rfl
theorem set_same {ds : Wd} {j : Nat} {u x : Addr × Desc} (h : ds[j]? = some u) : (ds.set j x)[j]? = some x := by
  rw [List.getElem?_set]; simp [(List.getElem?_eq_some_iff.mp h).1]
theorem set_other {ds : Wd} {i j : Nat} {u x : Addr × Desc} (hij : j ≠ i) (h : ds[i]? = some u) : (ds.set j x)[i]? = some u := by
  rw [List.getElem?_set]; simp [hij, h]
/-! arrays of doubles, arrays of them; doubles -/
abbrev dbl (ws : List UInt64) : List Value := ws.map Value.double
def isD (Z : State) (c : Cell) : Prop := ∃ k : Class, Z.vm.findClass "[D" = some c.cls ∧ Z.vm.classes[c.cls]? = some k ∧ c.vm.isStatics = false ∧ (k.kind = .ordinary → c.slots.size = k.instanceTypes.size)
def DA (Z : State) (ws : List UInt64) : Desc := fun c => IA Z .double (dbl ws) c ∧ isD Z c
def RD (Z : State) (vs : List Value) : Desc := fun c => IA Z (.array .double) vs c ∧ OvrA Z c.cls .double "[D"
section OwnD
variable {p : Program} {l : Launch} {e : Env} {R : Room} {s : State} {m : MethodId} {args : Array Value} {below : List Frame} {meth : Method} {c : Code} {Z : State} {a0 : Array Value} {h0 h h' : Heap} {Q : Option Value → Wd → Prop} {ds ds' : Wd} {k n pc : Nat} {Ls Ls' : Array Slot} {St : List Value} {own : String} {bytes : ByteArray} {ml : Nat} {rt : Option FieldType} {nm : String}
theorem DA.set {ws : List UInt64} {cl : Cell} (d : DA Z ws cl) (i : Nat) (v : UInt64) : DA Z (ws.set i v) (cl.setSlot i (.double v)) := by
  refine ⟨?_, ?_⟩
  · have q := d.1.set i (.double v)
    rw [show dbl (ws.set i v) = (dbl ws).set i (.double v) by simp [List.map_set]]; exact q
  · obtain ⟨k, h1, h2, h3, h4⟩ := d.2
    exact ⟨k, h1, h2, h3, fun q => by have := h4 q; simpa [Cell.setSlot] using this⟩
theorem g_newarrayD (C : Cx p s m meth c Z a0 own bytes ml rt nm) (pc' : Nat) {z : Int32} (ws : List UInt64) (cap : Nat) (w : Jvm.Cond.arrayClass .double ∈ tables_1) (hd : decode bytes pc = .ok (.newarray .double, 2)) (hp : pc + 2 = pc') (hz : ¬ z < 0) (hcap : z.toNatClampNeg ≤ cap) (hcb : cap * 8 ≤ 536870912) (hk : k + 1 ≤ R.cells) (hn : n + cap ≤ R.slots)
    (hvs : List.replicate z.toNatClampNeg (0 : UInt64) = ws) (K : ∀ a, Go p l e R s m args below meth c h0 Q (ds ++ [(a, DA Z ws)]) (k + 1) (n + cap) pc' Ls (.ref a :: St)) : Go p l e R s m args below meth c h0 Q ds k n pc Ls (.int z :: St) := fun T locs X W N => by
  subst hp hvs
  obtain ⟨T', h', cA, X', e', E, A, O, st⟩ := newPE X C.1 C.2.1 (aty := .double) (C.2.2.1 _ w) rfl (g := mkF m pc Ls (.int z :: St)) rfl (hb C.2.2.2.1 hd) rfl hz hcap hcb hk hn (ad := "[D") (by decide)
  have dA : DA Z (List.replicate z.toNatClampNeg (0 : UInt64)) (newA cA (newarray.typeOf ArrayType.double) z) := by
    refine ⟨?_, ?_⟩
    · have q := IA.new A
      rw [show dbl (List.replicate z.toNatClampNeg (0 : UInt64)) = List.replicate z.toNatClampNeg (defaultValue .double) by simp [defaultValue]]; exact q
    · obtain ⟨cell, k, h1, h2, h3, h4, h5⟩ := O
      cases A.1.symm.trans h1
      exact ⟨k, h2, h3, h4, h5⟩
  exact (K T.heap.size T' locs X' (by rw [e']; exact W.new E A.1 dA) N).pre st
theorem g_anewarrayD (C : Cx p s m meth c Z a0 own bytes ml rt nm) (pc' : Nat) {idx : Nat} {z : Int32} (vs : List Value) (cap : Nat) (w1 : Jvm.Cond.classLink own idx "[D" ∈ tables_1) (w2 : Jvm.Cond.arrayOver (.array .double) ∈ tables_1) (hd : decode bytes pc = .ok (.anewarray idx, 3)) (hp : pc + 3 = pc') (hz : ¬ z < 0) (hcap : z.toNatClampNeg ≤ cap) (hcb : cap * 8 ≤ 536870912) (hk : k + 1 ≤ R.cells) (hn : n + cap ≤ R.slots)
    (hvs : List.replicate z.toNatClampNeg Value.null = vs) (K : ∀ a, Go p l e R s m args below meth c h0 Q (ds ++ [(a, RD Z vs)]) (k + 1) (n + cap) pc' Ls (.ref a :: St)) : Go p l e R s m args below meth c h0 Q ds k n pc Ls (.int z :: St) := fun T locs X W N => by
  subst hp hvs
  obtain ⟨T', h', cA, X', e', E, A, -, O, st⟩ := newRA X C.1 C.2.1 C.2.2.2.2.2.1 (ty := .double) (C := "[D") (by decide) (C.2.2.1 _ w1) (C.2.2.1 _ w2) rfl (g := mkF m pc Ls (.int z :: St)) rfl (hb C.2.2.2.1 hd) rfl hz hcap hcb hk hn (ad := "[[D") (by decide)
  exact (K T.heap.size T' locs X' (by rw [e']; exact W.new E A.1 ⟨IA.new A, O⟩) N).pre st
theorem g_aastoreD (C : Cx p s m meth c Z a0 own bytes ml rt nm) (pc' : Nat) {i i2 : Nat} {a b : Addr} {vs : List Value} {ws : List UInt64} (vs' : List Value) (ds' : Wd) (hi : ds[i]? = some (a, RD Z vs)) (hi2 : ds[i2]? = some (b, DA Z ws)) (hd : decode bytes pc = .ok (.aastore, 1)) (hp : pc + 1 = pc') {j : Int32} (hj : ¬ j < 0) (hlt : j.toNatClampNeg < vs.length) (hx : vs.set j.toNatClampNeg (.ref b) = vs') (hds : ds.set i (a, RD Z vs') = ds')
    (K : Go p l e R s m args below meth c h0 Q ds' k n pc' Ls St) : Go p l e R s m args below meth c h0 Q ds k n pc Ls (.ref b :: .int j :: .ref a :: St) := fun T locs X W N => by
  subst hp hds hx
  obtain ⟨ha, cl, hc, dc⟩ := W.at hi
  obtain ⟨-, cl2, hc2, dc2⟩ := W.at hi2
  have E0 : Exa Z T.heap b "[D" := by obtain ⟨k, h1, h2, h3, h4⟩ := dc2.2; exact ⟨cl2, k, hc2, h1, h2, h3, h4⟩
  obtain ⟨T', h', X', e', wr, st⟩ := stR X C.1 C.2.1 rfl (dc.1.arr hc) (in_of dc.1 hj hlt) rfl (Sto.ofVA (dc.1.arr hc) rfl dc.2 (Ins.self E0)) (g := mkF m pc Ls (.ref b :: .int j :: .ref a :: St)) rfl rfl (hb C.2.2.2.1 hd)
  exact (K T' _ X' (by rw [e']; exact W.wr hi wr (fun c2 h2 _ d2 => ⟨d2.1.set _ _, d2.2⟩)) (Fr.snoc X' N ha)).pre st
theorem g_aaloadD (C : Cx p s m meth c Z a0 own bytes ml rt nm) (pc' : Nat) {i : Nat} {a : Addr} {vs : List Value} (hi : ds[i]? = some (a, RD Z vs)) (hd : decode bytes pc = .ok (.aaload, 1)) (hp : pc + 1 = pc') {j : Int32} (hj : ¬ j < 0) (v : Value) (hv : vs[j.toNatClampNeg]? = some v) (K : Go p l e R s m args below meth c h0 Q ds k n pc' Ls (v :: St)) : Go p l e R s m args below meth c h0 Q ds k n pc Ls (.int j :: .ref a :: St) := fun T locs X W N => by
  subst hp
  obtain ⟨ha, cl, hc, dc⟩ := W.at hi
  have hlt : j.toNatClampNeg < vs.length := (List.getElem?_eq_some_iff.mp hv).1
  exact (K T locs X W N).pre fun t h => X.aaload C.1 hc (State.isArrayOf_alike C.2.1.alike dc.1.1) rfl dc.1.2.1 (in_of dc.1 hj hlt) (by rw [dc.1.get]; exact hv) (g := mkF m pc Ls (.int j :: .ref a :: St)) rfl rfl (hb C.2.2.2.1 hd) t h
theorem g_lengthD (C : Cx p s m meth c Z a0 own bytes ml rt nm) (pc' : Nat) {i : Nat} {a : Addr} {vs : List Value} (z : Int32) (hi : ds[i]? = some (a, RD Z vs)) (hd : decode bytes pc = .ok (.arraylength, 1)) (hp : pc + 1 = pc') (hz : vs.length.toInt32 = z) (K : Go p l e R s m args below meth c h0 Q ds k n pc' Ls (.int z :: St)) : Go p l e R s m args below meth c h0 Q ds k n pc Ls (.ref a :: St) := fun T locs X W N => by
  subst hp hz
  obtain ⟨ha, cl, hc, dc⟩ := W.at hi
  refine (K T locs X W N).pre fun t h => X.arraylength C.1 hc (State.isArrayOf_alike C.2.1.alike dc.1.1) (g := mkF m pc Ls (.ref a :: St)) rfl rfl (hb C.2.2.2.1 hd) t ?_
  rw [dc.1.size]; exact h
theorem g_daload (C : Cx p s m meth c Z a0 own bytes ml rt nm) (pc' : Nat) {i : Nat} {a : Addr} {ws : List UInt64} (hi : ds[i]? = some (a, DA Z ws)) (hd : decode bytes pc = .ok (.daload, 1)) (hp : pc + 1 = pc') {j : Int32} (hj : ¬ j < 0) (v : UInt64) (hv : ws[j.toNatClampNeg]? = some v) (K : Go p l e R s m args below meth c h0 Q ds k n pc' Ls (.double v :: St)) : Go p l e R s m args below meth c h0 Q ds k n pc Ls (.int j :: .ref a :: St) := fun T locs X W N => by
  subst hp
  obtain ⟨ha, cl, hc, dc⟩ := W.at hi
  have hlt : j.toNatClampNeg < (dbl ws).length := by simpa using (List.getElem?_eq_some_iff.mp hv).1
  exact (K T locs X W N).pre fun t h => X.daload C.1 hc (State.isArrayOf_alike C.2.1.alike dc.1.1) dc.1.2.1 (in_of dc.1 hj hlt) (by rw [dc.1.get]; simp [hv]) (g := mkF m pc Ls (.int j :: .ref a :: St)) rfl rfl (hb C.2.2.2.1 hd) t h
theorem g_dastore (C : Cx p s m meth c Z a0 own bytes ml rt nm) (pc' : Nat) {i : Nat} {a : Addr} {ws : List UInt64} (ws' : List UInt64) (ds' : Wd) (hi : ds[i]? = some (a, DA Z ws)) (hd : decode bytes pc = .ok (.dastore, 1)) (hp : pc + 1 = pc') {j : Int32} {v : UInt64} (hj : ¬ j < 0) (hlt : j.toNatClampNeg < ws.length) (hx : ws.set j.toNatClampNeg v = ws') (hds : ds.set i (a, DA Z ws') = ds')
    (K : Go p l e R s m args below meth c h0 Q ds' k n pc' Ls St) : Go p l e R s m args below meth c h0 Q ds k n pc Ls (.double v :: .int j :: .ref a :: St) := fun T locs X W N => by
  subst hp hds hx
  obtain ⟨ha, cl, hc, dc⟩ := W.at hi
  obtain ⟨T', h', X', e', wr, st⟩ := stD X C.1 C.2.1 rfl (dc.1.arr hc) (in_of dc.1 hj (by simpa using hlt)) (g := mkF m pc Ls (.double v :: .int j :: .ref a :: St)) rfl rfl (hb C.2.2.2.1 hd)
  exact (K T' _ X' (by rw [e']; exact W.wr hi wr (fun c2 h2 _ d2 => d2.set _ _)) (Fr.snoc X' N ha)).pre st
theorem g_i2d (C : Cx p s m meth c Z a0 own bytes ml rt nm) (pc' : Nat) {x : Int32} (hd : decode bytes pc = .ok (.i2d, 1)) (hp : pc + 1 = pc') (K : Go p l e R s m args below meth c h0 Q ds k n pc' Ls (.double (FP.i2d x) :: St)) : Go p l e R s m args below meth c h0 Q ds k n pc Ls (.int x :: St) := by
  subst hp
  exact K.pure fun T locs X target h => XS.i2dS X.here C.1 rfl (hb C.2.2.2.1 hd) rfl rfl h
theorem g_dcmp (C : Cx p s m meth c Z a0 own bytes ml rt nm) (pc' : Nat) {o : CmpOp} {x y : UInt64} (hd : decode bytes pc = .ok (.dcmp o, 1)) (hp : pc + 1 = pc') (K : Go p l e R s m args below meth c h0 Q ds k n pc' Ls (.int (cmpValue (FP.dcmp x y) o) :: St)) : Go p l e R s m args below meth c h0 Q ds k n pc Ls (.double y :: .double x :: St) := by
  subst hp
  exact K.pure fun T locs X target h => XS.dcmpS X.here C.1 rfl (hb C.2.2.2.1 hd) rfl rfl h
theorem g_dconst0 (C : Cx p s m meth c Z a0 own bytes ml rt nm) (pc' : Nat) (hd : decode bytes pc = .ok (.dconst 0, 1)) (hp : pc + 1 = pc') (K : Go p l e R s m args below meth c h0 Q ds k n pc' Ls (.double FP.dconst0 :: St)) : Go p l e R s m args below meth c h0 Q ds k n pc Ls St := by
  subst hp
  exact K.pure fun T locs X target h => XS.dconst0 X.here C.1 rfl (hb C.2.2.2.1 hd) rfl h
end OwnD

/-! arithmetic of doubles that comes to no NaN -/
section OwnF
variable {p : Program} {l : Launch} {e : Env} {R : Room} {s : State} {m : MethodId} {args : Array Value} {below : List Frame} {meth : Method} {c : Code} {Z : State} {a0 : Array Value} {h0 h h' : Heap} {Q : Option Value → Wd → Prop} {ds ds' : Wd} {k n pc : Nat} {Ls Ls' : Array Slot} {St : List Value} {own : String} {bytes : ByteArray} {ml : Nat} {rt : Option FieldType} {nm : String}
theorem g_dadd (C : Cx p s m meth c Z a0 own bytes ml rt nm) (pc' : Nat) {x y : UInt64} (hd : decode bytes pc = .ok (.dadd, 1)) (hp : pc + 1 = pc') (hN : Jvm.Free.Fl.NoNaN64 (FP.dadd x y)) (K : Go p l e R s m args below meth c h0 Q ds k n pc' Ls (.double (FP.dadd x y) :: St)) : Go p l e R s m args below meth c h0 Q ds k n pc Ls (.double y :: .double x :: St) := by
  subst hp
  exact K.pure fun T locs X target h => XS.daddS X.here C.1 rfl (hb C.2.2.2.1 hd) rfl hN rfl h
theorem g_dsub (C : Cx p s m meth c Z a0 own bytes ml rt nm) (pc' : Nat) {x y : UInt64} (hd : decode bytes pc = .ok (.dsub, 1)) (hp : pc + 1 = pc') (hN : Jvm.Free.Fl.NoNaN64 (FP.dsub x y)) (K : Go p l e R s m args below meth c h0 Q ds k n pc' Ls (.double (FP.dsub x y) :: St)) : Go p l e R s m args below meth c h0 Q ds k n pc Ls (.double y :: .double x :: St) := by
  subst hp
  exact K.pure fun T locs X target h => XS.dsubS X.here C.1 rfl (hb C.2.2.2.1 hd) rfl hN rfl h
theorem g_dmul (C : Cx p s m meth c Z a0 own bytes ml rt nm) (pc' : Nat) {x y : UInt64} (hd : decode bytes pc = .ok (.dmul, 1)) (hp : pc + 1 = pc') (hN : Jvm.Free.Fl.NoNaN64 (FP.dmul x y)) (K : Go p l e R s m args below meth c h0 Q ds k n pc' Ls (.double (FP.dmul x y) :: St)) : Go p l e R s m args below meth c h0 Q ds k n pc Ls (.double y :: .double x :: St) := by
  subst hp
  exact K.pure fun T locs X target h => XS.dmulS X.here C.1 rfl (hb C.2.2.2.1 hd) rfl hN rfl h
theorem g_ddiv (C : Cx p s m meth c Z a0 own bytes ml rt nm) (pc' : Nat) {x y : UInt64} (hd : decode bytes pc = .ok (.ddiv, 1)) (hp : pc + 1 = pc') (hN : Jvm.Free.Fl.NoNaN64 (FP.ddiv x y)) (K : Go p l e R s m args below meth c h0 Q ds k n pc' Ls (.double (FP.ddiv x y) :: St)) : Go p l e R s m args below meth c h0 Q ds k n pc Ls (.double y :: .double x :: St) := by
  subst hp
  exact K.pure fun T locs X target h => XS.ddivS X.here C.1 rfl (hb C.2.2.2.1 hd) rfl hN rfl h
end OwnF

/-! doubles that are whole numbers of 1/512: the operations on them are exact -/
open Jvm.FP Jvm.FP.Core in
theorem own_round {sg : Bool} {n K : Nat} {e b : Int} (h1 : b ≤ e) (h2 : b ≤ -9) (h : n * 2 ^ (e - b).toNat = K * 2 ^ (-9 - b).toNat) (hK : K < 2 ^ 53) :
    ∃ c q, Core.roundRatio Core.b64 sg n 1 e = .fin sg c q ∧ Core.inUnits c q Core.b64.qmin = K * 2 ^ 1065 := by
  have hc : Core.roundRatio Core.b64 sg n 1 e = Core.roundRatio Core.b64 sg K 1 (-9) := by
    refine Core.roundRatio_congr (by decide) (by decide) ?_
    rw [Nat.mul_one, Nat.mul_one]
    by_cases he : -9 ≤ e
    · have x1 : (e - b).toNat = (e - -9).toNat + (-9 - b).toNat := by omega
      have x2 : (-9 - e).toNat = 0 := by omega
      rw [x1, Nat.pow_add, ← Nat.mul_assoc] at h
      rw [x2, Nat.pow_zero, Nat.mul_one]
      exact Nat.eq_of_mul_eq_mul_right (Nat.two_pow_pos _) h
    · have x1 : (-9 - b).toNat = (-9 - e).toNat + (e - b).toNat := by omega
      have x2 : (e - -9).toNat = 0 := by omega
      rw [x1, Nat.pow_add, ← Nat.mul_assoc] at h
      rw [x2, Nat.pow_zero, Nat.mul_one]
      exact Nat.eq_of_mul_eq_mul_right (Nat.two_pow_pos _) h
  obtain ⟨c, q, r1, r2⟩ := Core.round_exact Core.good_b64 sg (c := K) (q := -9) (by exact hK) (by decide) (by decide)
  refine ⟨c, q, hc.trans r1, ?_⟩
  rw [r2]
  show K * 2 ^ (-9 - Core.b64.qmin).toNat = _
  rw [show (-9 - Core.b64.qmin).toNat = 1065 from by decide +kernel]
/-- x is finite and worth k/512 -/
def DV (x : UInt64) (k : Int) : Prop := ∃ s c q, Jvm.FP.Core.val64 x = .fin s c q ∧ Jvm.FP.Core.signed s (Jvm.FP.Core.inUnits c q Jvm.FP.Core.b64.qmin) = k * ((2 ^ 1065 : Nat) : Int)
open Jvm.FP Jvm.FP.Core in
theorem own_signed {sg : Bool} {N M : Nat} {k : Int} (hM : 0 < M) (h : Core.signed sg N = k * (M : Int)) : N = k.natAbs * M ∧ Core.signed sg (k.natAbs * M) = k * (M : Int) := by
  have q := congrArg Int.natAbs h
  rw [Core.natAbs_signed, Int.natAbs_mul, Int.natAbs_natCast] at q
  exact ⟨q, by rw [← q]; exact h⟩
open Jvm.FP Jvm.FP.Core in
theorem DV.ne_nan {x : UInt64} {k : Int} (h : DV x k) : Core.val64 x ≠ .nan := by
  obtain ⟨s, c, q, e, -⟩ := h; rw [e]; exact nofun
theorem DV.noNaN {x : UInt64} {k : Int} (h : DV x k) : Jvm.Free.Fl.NoNaN64 x := Jvm.Free.Fl.noNaN64_no.mpr ((Jvm.FP.Core.notNaN_iff x).mpr h.ne_nan)
theorem own_U : 0 < (2 ^ 1065 : Nat) := Nat.two_pow_pos _
open Jvm.FP Jvm.FP.Core in
theorem DV.sum {x : UInt64} {k : Int} {d e : Core.Datum} (fd : Core.fits Core.b64 d) (fe : Core.fits Core.b64 e) (hd : ∃ s c q, d = .fin s c q) (he : ∃ s c q, e = .fin s c q) (hx : Core.val64 x = Core.round Core.b64 (Core.exactSum d e)) (hz : Core.zval Core.b64 d + Core.zval Core.b64 e = k * ((2 ^ 1065 : Nat) : Int)) (hk : k.natAbs < 2 ^ 53) : DV x k := by
  obtain ⟨s, c, q, rfl⟩ := hd
  obtain ⟨t, c', r, rfl⟩ := he
  obtain ⟨sg, n, ee, h1, h2, h3⟩ := Core.sum_units fd fe
  rw [h1] at hx
  rw [hz] at h3
  obtain ⟨hN, hS⟩ := own_signed own_U h3
  have hq : Core.b64.qmin = -1074 := Core.qmin_b64
  obtain ⟨c2, q2, r1, r2⟩ := own_round (sg := sg) (n := n) (K := k.natAbs) (e := ee) (b := Core.b64.qmin) h2 (by rw [hq]; decide) (by
    have : (-9 - Core.b64.qmin).toNat = 1065 := by rw [hq]; rfl
    rw [this]; exact hN) hk
  refine ⟨sg, c2, q2, hx.trans r1, ?_⟩
  rw [r2]; exact hS
open Jvm.FP Jvm.FP.Core in
theorem own_zv {s : Bool} {c : Nat} {q : Int} : Core.zval Core.b64 (.fin s c q) = Core.signed s (Core.inUnits c q Core.b64.qmin) := rfl
open Jvm.FP Jvm.FP.Core in
theorem DV.add {x y : UInt64} {a b : Int} (hx : DV x a) (hy : DV y b) (hk : (a + b).natAbs < 2 ^ 53) : DV (FP.dadd x y) (a + b) := by
  obtain ⟨s, c, q, e1, z1⟩ := hx
  obtain ⟨t, d, r, e2, z2⟩ := hy
  refine DV.sum (d := Core.val64 x) (e := Core.val64 y) (Core.val64_fits x) (Core.val64_fits y) ⟨_, _, _, e1⟩ ⟨_, _, _, e2⟩ (Core.val64_dadd x y) ?_ hk
  rw [e1, e2, own_zv, own_zv, z1, z2, Int.add_mul]
open Jvm.FP Jvm.FP.Core in
theorem DV.sub {x y : UInt64} {a b : Int} (hx : DV x a) (hy : DV y b) (hk : (a - b).natAbs < 2 ^ 53) : DV (FP.dsub x y) (a - b) := by
  obtain ⟨s, c, q, e1, z1⟩ := hx
  obtain ⟨t, d, r, e2, z2⟩ := hy
  refine DV.sum (d := Core.val64 x) (e := Core.negate (Core.val64 y)) (Core.val64_fits x) (Core.negate_fits (Core.val64_fits y)) ⟨_, _, _, e1⟩ ⟨!t, d, r, by rw [e2]; rfl⟩ (Core.val64_dsub x y) ?_ hk
  rw [Core.zval_negate, e1, e2, own_zv, own_zv, z1, z2, Int.sub_mul]; omega
open Jvm.FP Jvm.FP.Core in
theorem DV.i2d (v : Int32) : DV (FP.i2d v) (512 * v.toInt) := by
  have h := Core.i2d_int v
  have z := Core.DInt_zval h
  obtain ⟨s, c, q, e⟩ := Core.i2d_fin v
  refine ⟨s, c, q, e, ?_⟩
  have z' : Core.zval Core.b64 (Core.val64 (Core.i2d v)) = v.toInt * ((2 ^ 1074 : Nat) : Int) := z
  rw [e, own_zv] at z'
  rw [z', show (1074 : Nat) = 9 + 1065 from rfl, Nat.pow_add, Int.natCast_mul]
  have : ((2 ^ 9 : Nat) : Int) = 512 := rfl
  rw [this, ← Int.mul_assoc, Int.mul_comm v.toInt 512]
open Jvm.FP Jvm.FP.Core in
theorem DV.zero : DV FP.dconst0 0 := ⟨false, 0, Core.b64.qmin, Core.val64_dconst0, by unfold Core.inUnits; simp [Core.signed]⟩
open Jvm.FP Jvm.FP.Core in
theorem own_signmul (s t : Bool) (m n : Nat) : Core.signed (s != t) (m * n) = Core.signed s m * Core.signed t n := by
  cases s <;> cases t <;> simp [Core.signed, Int.neg_mul, Int.mul_neg]
open Jvm.FP Jvm.FP.Core in
/-- a whole number i times k/512 -/
theorem DV.mul {x y : UInt64} {i b : Int} (hx : DV x (512 * i)) (hy : DV y b) (hk : (i * b).natAbs < 2 ^ 53) : DV (FP.dmul x y) (i * b) := by
  obtain ⟨s, c, q, e1, z1⟩ := hx
  obtain ⟨t, d, r, e2, z2⟩ := hy
  have f1 := Core.val64_fits x
  have f2 := Core.val64_fits y
  rw [e1] at f1; rw [e2] at f2
  obtain ⟨p1, p2, p3⟩ := Core.product_units f1 f2
  have hv : Core.val64 (FP.dmul x y) = Core.round Core.b64 (.fin (s != t) (c * d) (q + r)) := by
    have := Core.val64_dmul x y
    rw [e1, e2, p1] at this; exact this
  have hq : Core.b64.qmin = -1074 := Core.qmin_b64
  obtain ⟨n1, s1⟩ := own_signed own_U z1
  obtain ⟨n2, s2⟩ := own_signed own_U z2
  have hp : (c * d) * 2 ^ (q + r - 2 * Core.b64.qmin).toNat = (i * b).natAbs * 2 ^ (-9 - 2 * Core.b64.qmin).toNat := by
    have g : Core.inUnits (c * d) (q + r) (2 * Core.b64.qmin) = ((512 * i).natAbs * 2 ^ 1065) * (b.natAbs * 2 ^ 1065) := by
      rw [p3]
      show Core.inUnits c q Core.b64.qmin * Core.inUnits d r Core.b64.qmin = _
      rw [n1, n2]
    have w : (-9 - 2 * Core.b64.qmin).toNat = 9 + 1065 + 1065 := by rw [hq]; rfl
    rw [w]
    have g2 : (c * d) * 2 ^ (q + r - 2 * Core.b64.qmin).toNat = ((512 * i).natAbs * 2 ^ 1065) * (b.natAbs * 2 ^ 1065) := g
    rw [g2, Nat.pow_add, Nat.pow_add, Int.natAbs_mul, Int.natAbs_mul, show (512 : Int).natAbs = 512 from rfl, show (2 : Nat) ^ 9 = 512 from rfl]
    generalize 2 ^ 1065 = P
    simp only [Nat.mul_assoc, Nat.mul_left_comm, Nat.mul_comm]
  obtain ⟨c2, q2, r1, r2⟩ := own_round (sg := (s != t)) (n := c * d) (K := (i * b).natAbs) (e := q + r) (b := 2 * Core.b64.qmin) p2 (by rw [hq]; decide) hp hk
  refine ⟨_, c2, q2, hv.trans r1, ?_⟩
  rw [r2]
  -- the sign
  have t1 : Core.signed s ((512 * i).natAbs * 2 ^ 1065) * Core.signed t (b.natAbs * 2 ^ 1065) = (512 * i * ((2 ^ 1065 : Nat) : Int)) * (b * ((2 ^ 1065 : Nat) : Int)) := by rw [s1, s2]
  rw [← own_signmul] at t1
  have u : ((512 * i).natAbs * 2 ^ 1065) * (b.natAbs * 2 ^ 1065) = ((i * b).natAbs * 2 ^ 1065) * (512 * 2 ^ 1065) := by
    rw [Int.natAbs_mul, Int.natAbs_mul]
    show 512 * i.natAbs * 2 ^ 1065 * (b.natAbs * 2 ^ 1065) = _
    generalize 2 ^ 1065 = P
    simp only [Nat.mul_assoc, Nat.mul_left_comm, Nat.mul_comm]
  rw [u, Core.signed_mul] at t1
  have hpos : (0 : Int) < ((512 * 2 ^ 1065 : Nat) : Int) := Int.natCast_pos.mpr (Nat.mul_pos (by decide) own_U)
  apply Int.eq_of_mul_eq_mul_right (Int.ne_of_gt hpos)
  rw [t1, Int.natCast_mul]
  show _ = i * b * _ * (512 * _)
  generalize ((2 ^ 1065 : Nat) : Int) = P
  simp only [Int.mul_assoc, Int.mul_left_comm, Int.mul_comm]
open Jvm.FP Jvm.FP.Core in
/-- k' * D over 512, divided by the whole number D -/
theorem DV.div {x y : UInt64} {k D : Int} (hx : DV x (k * D)) (hy : DV y (512 * D)) (hD : D ≠ 0) (hk : k.natAbs < 2 ^ 53) : DV (FP.ddiv x y) k := by
  obtain ⟨s, c, q, e1, z1⟩ := hx
  obtain ⟨t, d, r, e2, z2⟩ := hy
  have f1 := Core.val64_fits x
  have f2 := Core.val64_fits y
  rw [e1] at f1; rw [e2] at f2
  have hq : Core.b64.qmin = -1074 := Core.qmin_b64
  have l1 : -1074 ≤ q := by have := f1.2.1; omega
  have l2 : -1074 ≤ r := by have := f2.2.1; omega
  obtain ⟨n1, s1⟩ := own_signed own_U z1
  obtain ⟨n2, s2⟩ := own_signed own_U z2
  have hd0 : d ≠ 0 := by
    rintro rfl
    have : (512 * D).natAbs * 2 ^ 1065 = 0 := by rw [← n2]; unfold Core.inUnits; simp
    have := Nat.mul_eq_zero.mp this
    have hU := own_U
    omega
  have hv : Core.val64 (FP.ddiv x y) = Core.roundRatio Core.b64 (s != t) c d (q - r) := by
    have := Core.val64_ddiv x y
    rw [e1, e2] at this
    refine this.trans ?_
    show (if d = 0 then _ else _) = _
    rw [if_neg hd0]
  have n1' : c * 2 ^ (q + 1074).toNat = (k * D).natAbs * 2 ^ 1065 := by
    have : Core.inUnits c q Core.b64.qmin = c * 2 ^ (q + 1074).toNat := by unfold Core.inUnits; rw [hq]; rfl
    rw [← this]; exact n1
  have n2' : d * 2 ^ (r + 1074).toNat = (512 * D).natAbs * 2 ^ 1065 := by
    have : Core.inUnits d r Core.b64.qmin = d * 2 ^ (r + 1074).toNat := by unfold Core.inUnits; rw [hq]; rfl
    rw [← this]; exact n2
  have key : c * 2 ^ ((q + 1074).toNat + 9) = k.natAbs * d * 2 ^ (r + 1074).toNat := by
    rw [Nat.pow_add, ← Nat.mul_assoc, n1', Nat.mul_assoc k.natAbs, n2', Int.natAbs_mul, Int.natAbs_mul]
    show k.natAbs * D.natAbs * 2 ^ 1065 * 512 = k.natAbs * (512 * D.natAbs * 2 ^ 1065)
    generalize 2 ^ 1065 = P
    simp only [Nat.mul_assoc, Nat.mul_left_comm, Nat.mul_comm]
  have hc : Core.roundRatio Core.b64 (s != t) c d (q - r) = Core.roundRatio Core.b64 (s != t) k.natAbs 1 (-9) := by
    refine Core.roundRatio_congr (Nat.pos_of_ne_zero hd0) (by decide) ?_
    rw [Nat.mul_one]
    by_cases hh : -9 ≤ q - r
    · have x1 : (q + 1074).toNat + 9 = (q - r - -9).toNat + (r + 1074).toNat := by omega
      have x2 : (-9 - (q - r)).toNat = 0 := by omega
      rw [x1, Nat.pow_add, ← Nat.mul_assoc] at key
      rw [x2, Nat.pow_zero, Nat.mul_one]
      exact Nat.eq_of_mul_eq_mul_right (Nat.two_pow_pos _) key
    · have x1 : (r + 1074).toNat = (-9 - (q - r)).toNat + ((q + 1074).toNat + 9) := by omega
      have x2 : (q - r - -9).toNat = 0 := by omega
      rw [x1, Nat.pow_add 2 (-9 - (q - r)).toNat, ← Nat.mul_assoc] at key
      rw [x2, Nat.pow_zero, Nat.mul_one]
      exact Nat.eq_of_mul_eq_mul_right (Nat.two_pow_pos _) key
  obtain ⟨c2, q2, r1, r2⟩ := own_round (sg := (s != t)) (n := k.natAbs) (K := k.natAbs) (e := -9) (b := -9) (by decide) (by decide) rfl hk
  refine ⟨_, c2, q2, (hv.trans hc).trans r1, ?_⟩
  rw [r2]
  -- the sign: (k D) (512 D) has the sign of k
  have t1 : Core.signed s ((k * D).natAbs * 2 ^ 1065) * Core.signed t ((512 * D).natAbs * 2 ^ 1065) = (k * D * ((2 ^ 1065 : Nat) : Int)) * (512 * D * ((2 ^ 1065 : Nat) : Int)) := by rw [s1, s2]
  rw [← own_signmul] at t1
  have u : ((k * D).natAbs * 2 ^ 1065) * ((512 * D).natAbs * 2 ^ 1065) = (k.natAbs * 2 ^ 1065) * (512 * (D.natAbs * D.natAbs) * 2 ^ 1065) := by
    rw [Int.natAbs_mul, Int.natAbs_mul]
    show k.natAbs * D.natAbs * 2 ^ 1065 * (512 * D.natAbs * 2 ^ 1065) = _
    generalize 2 ^ 1065 = P
    simp only [Nat.mul_assoc, Nat.mul_left_comm, Nat.mul_comm]
  rw [u, Core.signed_mul] at t1
  have hDD : 0 < D.natAbs := Int.natAbs_pos.mpr hD
  have hpos : (0 : Int) < ((512 * (D.natAbs * D.natAbs) * 2 ^ 1065 : Nat) : Int) := Int.natCast_pos.mpr (Nat.mul_pos (Nat.mul_pos (by decide) (Nat.mul_pos hDD hDD)) own_U)
  apply Int.eq_of_mul_eq_mul_right (Int.ne_of_gt hpos)
  rw [t1, Int.natCast_mul, Int.natCast_mul, Int.natCast_mul, ← Int.natCast_mul D.natAbs, Int.natAbs_mul_self]
  show k * D * _ * (512 * D * _) = k * _ * (512 * (D * D) * _)
  generalize ((2 ^ 1065 : Nat) : Int) = P
  simp only [Int.mul_assoc, Int.mul_left_comm, Int.mul_comm]
open Jvm.FP Jvm.FP.Core in
theorem DV.eq {x y : UInt64} {k : Int} (hx : DV x k) (hy : DV y k) (o : CmpOp) : cmpValue (FP.dcmp x y) o = 0 := by
  have h : FP.dcmp x y = some .eq := by
    show Core.order (Core.val64 x) (Core.val64 y) = some .eq
    rw [Core.order_zval Core.good_b64 (Core.val64_fits x) (Core.val64_fits y) hx.ne_nan hy.ne_nan]
    obtain ⟨s, c, q, e1, z1⟩ := hx
    obtain ⟨t, d, r, e2, z2⟩ := hy
    rw [e1, e2, own_zv, own_zv, z1, z2, Core.compare_ite]
    simp
  rw [h]; cases o <;> rfl

/-! the sparse matrix: a list of entries (column, value), laid into arrays of nine -/
abbrev Ent : Type := Int32 × UInt64
def own_c (P : List Ent) : List Int32 := P.map (fun x => x.1) ++ List.replicate (9 - P.length) 0
def own_v (P : List Ent) : List UInt64 := P.map (fun x => x.2) ++ List.replicate (9 - P.length) 0
def own_app (P : List Ent) (o : Int32) (x : Ent) : List Ent := if o = (0 : Int32) then P else P ++ [x]
def own_o (o : Int32) (x : Ent) : List Ent := if o = (0 : Int32) then [] else [x]
def own_row (o0 : Int32) (x0 : Ent) (o1 : Int32) (x1 : Ent) (o2 : Int32) (x2 : Ent) : List Ent := own_o o0 x0 ++ (own_o o1 x1 ++ own_o o2 x2)
theorem own_appo (P : List Ent) (o : Int32) (x : Ent) : own_app P o x = P ++ own_o o x := by unfold own_app own_o; split <;> simp
theorem own_appl (P : List Ent) (o : Int32) (x : Ent) : (own_app P o x).length ≤ P.length + 1 := by unfold own_app; split <;> simp
theorem own_n9 {k : Nat} (h : k ≤ 9) : (Int32.ofNat k).toNatClampNeg = k ∧ ¬ Int32.ofNat k < 0 := by
  have q : ∀ k : Fin 10, (Int32.ofNat k.val).toNatClampNeg = k.val ∧ ¬ Int32.ofNat k.val < 0 := by decide
  exact q ⟨k, by omega⟩
theorem own_cl {P : List Ent} (h : P.length ≤ 9) : (own_c P).length = 9 := by unfold own_c; simp; omega
theorem own_vl {P : List Ent} (h : P.length ≤ 9) : (own_v P).length = 9 := by unfold own_v; simp; omega
theorem own_setapp {α : Type} (A : List α) (n : Nat) (z v : α) (h : 0 < n) : (A ++ List.replicate n z).set A.length v = (A ++ [v]) ++ List.replicate (n - 1) z := by
  obtain ⟨n, rfl⟩ : ∃ k, n = k + 1 := ⟨n - 1, by omega⟩
  rw [List.set_append_right _ _ (Nat.le_refl _), Nat.sub_self, List.replicate_succ]
  simp
theorem own_cset {P : List Ent} (h : P.length < 9) (x : Ent) : (own_c P).set (Int32.ofNat P.length).toNatClampNeg x.1 = own_c (P ++ [x]) := by
  rw [(own_n9 (Nat.le_of_lt h)).1]
  have q := own_setapp (P.map (fun x => x.1)) (9 - P.length) (0 : Int32) x.1 (by omega)
  rw [List.length_map] at q
  unfold own_c
  rw [q]; simp; omega
theorem own_vset {P : List Ent} (h : P.length < 9) (x : Ent) : (own_v P).set (Int32.ofNat P.length).toNatClampNeg x.2 = own_v (P ++ [x]) := by
  rw [(own_n9 (Nat.le_of_lt h)).1]
  have q := own_setapp (P.map (fun x => x.2)) (9 - P.length) (0 : UInt64) x.2 (by omega)
  rw [List.length_map] at q
  unfold own_v
  rw [q]; simp; omega
theorem own_cget {pre L : List Ent} {x : Ent} (h : (pre ++ (x :: L)).length ≤ 9) : (own_c (pre ++ (x :: L)))[(Int32.ofNat pre.length).toNatClampNeg]? = some x.1 := by
  have hl : pre.length ≤ 9 := by simp at h; omega
  rw [(own_n9 hl).1]
  unfold own_c
  rw [List.getElem?_append_left (by simp), List.getElem?_map, List.getElem?_append_right (Nat.le_refl _), Nat.sub_self]
  rfl
theorem own_vget {pre L : List Ent} {x : Ent} (h : (pre ++ (x :: L)).length ≤ 9) : (own_v (pre ++ (x :: L)))[(Int32.ofNat pre.length).toNatClampNeg]? = some x.2 := by
  have hl : pre.length ≤ 9 := by simp at h; omega
  rw [(own_n9 hl).1]
  unfold own_v
  rw [List.getElem?_append_left (by simp), List.getElem?_map, List.getElem?_append_right (Nat.le_refl _), Nat.sub_self]
  rfl
theorem own_lt9 {a b : Nat} (ha : a ≤ 9) (hb : b ≤ 9) : (Int32.ofNat a < Int32.ofNat b) ↔ a < b := by
  have q : ∀ a b : Fin 10, (Int32.ofNat a.val < Int32.ofNat b.val) ↔ a.val < b.val := by decide
  exact q ⟨a, by omega⟩ ⟨b, by omega⟩
theorem own_s9 {a : Nat} (ha : a ≤ 9) : Int32.ofNat a + (1 : Int32) = Int32.ofNat (a + 1) := by
  have q : ∀ a : Fin 10, Int32.ofNat a.val + (1 : Int32) = Int32.ofNat (a.val + 1) := by decide
  exact q ⟨a, by omega⟩
def own_xe (xs : List UInt64) (j : Int32) : UInt64 := xs.getD j.toNatClampNeg 0
theorem own_xg {xs : List UInt64} {j : Int32} (h : j.toNatClampNeg < xs.length) : xs[j.toNatClampNeg]? = some (own_xe xs j) := by
  unfold own_xe; rw [List.getD_eq_getElem?_getD, List.getElem?_eq_getElem h]; rfl
/-- what a row's loop makes of s -/
def own_acc (xs : List UInt64) : UInt64 → List Ent → UInt64
  | s, [] => s
  | s, x :: L => own_acc xs (FP.dsub s (FP.dmul x.2 (own_xe xs x.1))) L
def own_accok (xs : List UInt64) : UInt64 → List Ent → Prop
  | _, [] => True
  | s, x :: L => (¬ x.1 < 0 ∧ x.1.toNatClampNeg < xs.length) ∧ Jvm.Free.Fl.NoNaN64 (FP.dmul x.2 (own_xe xs x.1)) ∧ Jvm.Free.Fl.NoNaN64 (FP.dsub s (FP.dmul x.2 (own_xe xs x.1))) ∧ own_accok xs (FP.dsub s (FP.dmul x.2 (own_xe xs x.1))) L
def own_upd (c0 c1 c2 y0 y1 y2 b g y : UInt64) : UInt64 := FP.dadd y (FP.ddiv (FP.dsub b (FP.dadd (FP.dadd (FP.dmul c0 y0) (FP.dmul c1 y1)) (FP.dmul c2 y2))) g)
def own_updok (c0 c1 c2 y0 y1 y2 b g y : UInt64) : Prop := Jvm.Free.Fl.NoNaN64 (FP.dmul c0 y0) ∧ Jvm.Free.Fl.NoNaN64 (FP.dmul c1 y1) ∧ Jvm.Free.Fl.NoNaN64 (FP.dadd (FP.dmul c0 y0) (FP.dmul c1 y1)) ∧ Jvm.Free.Fl.NoNaN64 (FP.dmul c2 y2) ∧ Jvm.Free.Fl.NoNaN64 (FP.dadd (FP.dadd (FP.dmul c0 y0) (FP.dmul c1 y1)) (FP.dmul c2 y2)) ∧ Jvm.Free.Fl.NoNaN64 (FP.dsub b (FP.dadd (FP.dadd (FP.dmul c0 y0) (FP.dmul c1 y1)) (FP.dmul c2 y2))) ∧ Jvm.Free.Fl.NoNaN64 (FP.ddiv (FP.dsub b (FP.dadd (FP.dadd (FP.dmul c0 y0) (FP.dmul c1 y1)) (FP.dmul c2 y2))) g) ∧ Jvm.Free.Fl.NoNaN64 (own_upd c0 c1 c2 y0 y1 y2 b g y)
theorem own_pl {P pre M : List Ent} (hP : P.length ≤ 9) (h : P = pre ++ M) : pre.length ≤ 9 := by rw [h] at hP; simp at hP; omega
theorem own_pe {P pre L M : List Ent} (hP : P.length ≤ 9) (h : P = pre ++ (L ++ M)) : pre.length + L.length ≤ 9 := by rw [h] at hP; simp at hP; omega
theorem own_pc {P pre M : List Ent} (hP : P.length ≤ 9) (h : P = pre ++ M) : (pre ++ M).length ≤ 9 := h ▸ hP

theorem d1_0 : decode method_4_code 0 = .ok (.iload_n 0, 1) := by decide +kernel
theorem d1_1 : decode method_4_code 1 = .ok (.iconst 3, 1) := by decide +kernel
theorem d1_2 : decode method_4_code 2 = .ok (.iload_n 2, 1) := by decide +kernel
theorem d1_3 : decode method_4_code 3 = .ok (.iadd, 1) := by decide +kernel
theorem d1_4 : decode method_4_code 4 = .ok (.iushr, 1) := by decide +kernel
theorem d1_5 : decode method_4_code 5 = .ok (.iconst 1, 1) := by decide +kernel
theorem d1_6 : decode method_4_code 6 = .ok (.iand, 1) := by decide +kernel
theorem d1_7 : decode method_4_code 7 = .ok (.ifCond .eq 21, 3) := by decide +kernel
theorem d1_10 : decode method_4_code 10 = .ok (.iload_n 2, 1) := by decide +kernel
theorem d1_11 : decode method_4_code 11 = .ok (.iconst 3, 1) := by decide +kernel
theorem d1_12 : decode method_4_code 12 = .ok (.idiv, 1) := by decide +kernel
theorem d1_13 : decode method_4_code 13 = .ok (.iload_n 1, 1) := by decide +kernel
theorem d1_14 : decode method_4_code 14 = .ok (.if_icmp .ge 14, 3) := by decide +kernel
theorem d1_17 : decode method_4_code 17 = .ok (.iload_n 2, 1) := by decide +kernel
theorem d1_18 : decode method_4_code 18 = .ok (.iconst 3, 1) := by decide +kernel
theorem d1_19 : decode method_4_code 19 = .ok (.irem, 1) := by decide +kernel
theorem d1_20 : decode method_4_code 20 = .ok (.iload_n 1, 1) := by decide +kernel
theorem d1_21 : decode method_4_code 21 = .ok (.if_icmp .ge 7, 3) := by decide +kernel
theorem d1_24 : decode method_4_code 24 = .ok (.iconst 1, 1) := by decide +kernel
theorem d1_25 : decode method_4_code 25 = .ok (.goto 4, 3) := by decide +kernel
theorem d1_28 : decode method_4_code 28 = .ok (.iconst 0, 1) := by decide +kernel
theorem d1_29 : decode method_4_code 29 = .ok (.ireturn, 1) := by decide +kernel
def f_on (x0 : Int32) (x1 : Int32) (x2 : Int32) : Int32 := (if (((x0.toUInt32 >>> (((3 : Int32) + x2) &&& 31).toUInt32).toInt32) &&& (1 : Int32)) = (0 : Int32) then (0 : Int32) else (if (x2 / (3 : Int32)) < x1 then (if (x2 % (3 : Int32)) < x1 then (1 : Int32) else (0 : Int32)) else (0 : Int32)))
set_option maxRecDepth 65536 in
set_option maxHeartbeats 40000000 in
theorem con_f_on (l : Launch) (Z : State) (a0 : Array Value) (hw : ∀ d ∈ tables_1, d.before a0 Z = true) (h0 : Heap) (ds : Wd) (x0 : Int32) (x1 : Int32) (x2 : Int32)  :
    Con l Z (⟨"com/example/libplanar/libplanar/SparseMatrixGaussSeidelPinLaw", "on", "(III)Z"⟩ : MethodName) method_4_code 3 (some .boolean) ({ frames := 0, cells := 0, slots := 0, locals := 0 } : Room) h0 #[(.int x0), (.int x1), (.int x2)] ds (fun v ds' => v = some (.int (f_on x0 x1 x2)) ∧ ds = ds') := by
  refine con_of (a0 := a0) (Ls := #[.val (.int x0), .val (.int x1), .val (.int x2)]) (plainFor_of_name (by first | (simp [plainName, overriddenIn]; done) | decide +kernel)) hw (fun m => by first | (simp [entryFrame, mkF, argsToLocals, Value.category]; done) | rfl) ?_
  intro p e s m below meth c C
  refine g_iloadN C 1 d1_0 rfl rfl ?_
  refine g_iconst C 2 (3 : Int32) d1_1 rfl rfl ?_
  refine g_iloadN C 3 d1_2 rfl rfl ?_
  refine g_iadd C 4 d1_3 rfl ?_
  refine g_iushr C 5 d1_4 rfl ?_
  refine g_iconst C 6 (1 : Int32) d1_5 rfl rfl ?_
  refine g_iand C 7 d1_6 rfl ?_
  by_cases c1 : (((x0.toUInt32 >>> (((3 : Int32) + x2) &&& 31).toUInt32).toInt32) &&& (1 : Int32)) = (0 : Int32)
  · refine g_ifY C 28 d1_7 (teq c1).1 (by decide) (by decide) ?_
    refine g_iconst C 29 (0 : Int32) d1_28 rfl rfl ?_
    exact g_nret C (by simp) (z' := (0 : Int32)) (by decide) d1_29 (by decide) (by decide) ⟨by rw [f_on, if_pos c1], rfl⟩
  · refine g_ifN C 10 d1_7 (feq c1).1 rfl ?_
    refine g_iloadN C 11 d1_10 rfl rfl ?_
    refine g_iconst C 12 (3 : Int32) d1_11 rfl rfl ?_
    refine g_idiv C 13 d1_12 rfl (by decide) ?_
    refine g_iloadN C 14 d1_13 rfl rfl ?_
    by_cases c2 : (x2 / (3 : Int32)) < x1
    · refine g_icN C 17 d1_14 (tlt c2).2.1 rfl ?_
      refine g_iloadN C 18 d1_17 rfl rfl ?_
      refine g_iconst C 19 (3 : Int32) d1_18 rfl rfl ?_
      refine g_irem C 20 d1_19 rfl (by decide) ?_
      refine g_iloadN C 21 d1_20 rfl rfl ?_
      by_cases c3 : (x2 % (3 : Int32)) < x1
      · refine g_icN C 24 d1_21 (tlt c3).2.1 rfl ?_
        refine g_iconst C 25 (1 : Int32) d1_24 rfl rfl ?_
        refine g_goto C 29 d1_25 (by decide) (by decide) ?_
        exact g_nret C (by simp) (z' := (1 : Int32)) (by decide) d1_29 (by decide) (by decide) ⟨by rw [f_on, if_neg c1, if_pos c2, if_pos c3], rfl⟩
      · refine g_icY C 28 d1_21 (flt c3).2.1 (by decide) (by decide) ?_
        refine g_iconst C 29 (0 : Int32) d1_28 rfl rfl ?_
        exact g_nret C (by simp) (z' := (0 : Int32)) (by decide) d1_29 (by decide) (by decide) ⟨by rw [f_on, if_neg c1, if_pos c2, if_neg c3], rfl⟩
    · refine g_icY C 28 d1_14 (flt c2).2.1 (by decide) (by decide) ?_
      refine g_iconst C 29 (0 : Int32) d1_28 rfl rfl ?_
      exact g_nret C (by simp) (z' := (0 : Int32)) (by decide) d1_29 (by decide) (by decide) ⟨by rw [f_on, if_neg c1, if_neg c2], rfl⟩
theorem d2_0 : decode method_3_code 0 = .ok (.lload_n 0, 1) := by decide +kernel
theorem d2_1 : decode method_3_code 1 = .ok (.iconst 4, 1) := by decide +kernel
theorem d2_2 : decode method_3_code 2 = .ok (.iload_n 2, 1) := by decide +kernel
theorem d2_3 : decode method_3_code 3 = .ok (.imul, 1) := by decide +kernel
theorem d2_4 : decode method_3_code 4 = .ok (.lushr, 1) := by decide +kernel
theorem d2_5 : decode method_3_code 5 = .ok (.ldc2_w 41, 3) := by decide +kernel
theorem d2_8 : decode method_3_code 8 = .ok (.land, 1) := by decide +kernel
theorem d2_9 : decode method_3_code 9 = .ok (.l2i, 1) := by decide +kernel
theorem d2_10 : decode method_3_code 10 = .ok (.bipush 8, 2) := by decide +kernel
theorem d2_12 : decode method_3_code 12 = .ok (.isub, 1) := by decide +kernel
theorem d2_13 : decode method_3_code 13 = .ok (.ireturn, 1) := by decide +kernel
def f_coef (x0 : Int64) (x1 : Int32) : Int32 := (((((x0.toUInt64 >>> (((4 : Int32) * x1) &&& 0x3f).toInt64.toUInt64).toInt64) &&& (15 : Int64)).toInt32) - (8 : Int32))
set_option maxRecDepth 65536 in
set_option maxHeartbeats 40000000 in
theorem con_f_coef (l : Launch) (Z : State) (a0 : Array Value) (hw : ∀ d ∈ tables_1, d.before a0 Z = true) (h0 : Heap) (ds : Wd) (x0 : Int64) (x1 : Int32)  :
    Con l Z (⟨"com/example/libplanar/libplanar/SparseMatrixGaussSeidelPinLaw", "coef", "(JI)I"⟩ : MethodName) method_3_code 3 (some .int) ({ frames := 0, cells := 0, slots := 0, locals := 0 } : Room) h0 #[(.long x0), (.int x1)] ds (fun v ds' => v = some (.int (f_coef x0 x1)) ∧ ds = ds') := by
  refine con_of (a0 := a0) (Ls := #[.val (.long x0), .second, .val (.int x1)]) (plainFor_of_name (by first | (simp [plainName, overriddenIn]; done) | decide +kernel)) hw (fun m => by first | (simp [entryFrame, mkF, argsToLocals, Value.category]; done) | rfl) ?_
  intro p e s m below meth c C
  refine g_lloadN C 1 d2_0 rfl rfl ?_
  refine g_iconst C 2 (4 : Int32) d2_1 rfl rfl ?_
  refine g_iloadN C 3 d2_2 rfl rfl ?_
  refine g_imul C 4 d2_3 rfl ?_
  refine g_lushr C 5 d2_4 rfl ?_
  refine g_ldcJ C 8 (15 : Int64) d2_5 rfl (List.mem_of_getElem? (i := 9) rfl) ?_
  refine g_land C 9 d2_8 rfl ?_
  refine g_l2i C 10 d2_9 rfl ?_
  refine g_bipush C 12 (8 : Int32) d2_10 rfl rfl ?_
  refine g_isub C 13 d2_12 rfl ?_
  exact g_iret C d2_13 (by decide) (by decide) ⟨rfl, rfl⟩
theorem d6_0 : decode method_5_code 0 = .ok (.iload_n 0, 1) := by decide +kernel
theorem d6_1 : decode method_5_code 1 = .ok (.iconst 4, 1) := by decide +kernel
theorem d6_2 : decode method_5_code 2 = .ok (.iload_n 1, 1) := by decide +kernel
theorem d6_3 : decode method_5_code 3 = .ok (.imul, 1) := by decide +kernel
theorem d6_4 : decode method_5_code 4 = .ok (.iushr, 1) := by decide +kernel
theorem d6_5 : decode method_5_code 5 = .ok (.bipush 15, 2) := by decide +kernel
theorem d6_7 : decode method_5_code 7 = .ok (.iand, 1) := by decide +kernel
theorem d6_8 : decode method_5_code 8 = .ok (.bipush 8, 2) := by decide +kernel
theorem d6_10 : decode method_5_code 10 = .ok (.isub, 1) := by decide +kernel
theorem d6_11 : decode method_5_code 11 = .ok (.i2d, 1) := by decide +kernel
theorem d6_12 : decode method_5_code 12 = .ok (.dreturn, 1) := by decide +kernel
def f_small (x0 : Int32) (x1 : Int32) : UInt64 := (FP.i2d ((((x0.toUInt32 >>> (((4 : Int32) * x1) &&& 31).toUInt32).toInt32) &&& (15 : Int32)) - (8 : Int32)))
set_option maxRecDepth 65536 in
set_option maxHeartbeats 40000000 in
theorem con_f_small (l : Launch) (Z : State) (a0 : Array Value) (hw : ∀ d ∈ tables_1, d.before a0 Z = true) (h0 : Heap) (ds : Wd) (x0 : Int32) (x1 : Int32)  :
    Con l Z (⟨"com/example/libplanar/libplanar/SparseMatrixGaussSeidelPinLaw", "small", "(II)D"⟩ : MethodName) method_5_code 2 (some .double) ({ frames := 0, cells := 0, slots := 0, locals := 0 } : Room) h0 #[(.int x0), (.int x1)] ds (fun v ds' => v = some (.double (f_small x0 x1)) ∧ ds = ds') := by
  refine con_of (a0 := a0) (Ls := #[.val (.int x0), .val (.int x1)]) (plainFor_of_name (by first | (simp [plainName, overriddenIn]; done) | decide +kernel)) hw (fun m => by first | (simp [entryFrame, mkF, argsToLocals, Value.category]; done) | rfl) ?_
  intro p e s m below meth c C
  refine g_iloadN C 1 d6_0 rfl rfl ?_
  refine g_iconst C 2 (4 : Int32) d6_1 rfl rfl ?_
  refine g_iloadN C 3 d6_2 rfl rfl ?_
  refine g_imul C 4 d6_3 rfl ?_
  refine g_iushr C 5 d6_4 rfl ?_
  refine g_bipush C 7 (15 : Int32) d6_5 rfl rfl ?_
  refine g_iand C 8 d6_7 rfl ?_
  refine g_bipush C 10 (8 : Int32) d6_8 rfl rfl ?_
  refine g_isub C 11 d6_10 rfl ?_
  refine g_i2d C 12 d6_11 rfl ?_
  exact g_dret C d6_12 (by decide) (by decide) ⟨rfl, rfl⟩
theorem d7_0 : decode method_6_code 0 = .ok (.iload_n 0, 1) := by decide +kernel
theorem d7_1 : decode method_6_code 1 = .ok (.iconst 3, 1) := by decide +kernel
theorem d7_2 : decode method_6_code 2 = .ok (.iload_n 1, 1) := by decide +kernel
theorem d7_3 : decode method_6_code 3 = .ok (.imul, 1) := by decide +kernel
theorem d7_4 : decode method_6_code 4 = .ok (.iushr, 1) := by decide +kernel
theorem d7_5 : decode method_6_code 5 = .ok (.bipush 7, 2) := by decide +kernel
theorem d7_7 : decode method_6_code 7 = .ok (.iand, 1) := by decide +kernel
theorem d7_8 : decode method_6_code 8 = .ok (.istore_n 2, 1) := by decide +kernel
theorem d7_9 : decode method_6_code 9 = .ok (.iconst 1, 1) := by decide +kernel
theorem d7_10 : decode method_6_code 10 = .ok (.iload_n 2, 1) := by decide +kernel
theorem d7_11 : decode method_6_code 11 = .ok (.iconst 3, 1) := by decide +kernel
theorem d7_12 : decode method_6_code 12 = .ok (.iand, 1) := by decide +kernel
theorem d7_13 : decode method_6_code 13 = .ok (.ishl, 1) := by decide +kernel
theorem d7_14 : decode method_6_code 14 = .ok (.istore_n 3, 1) := by decide +kernel
theorem d7_15 : decode method_6_code 15 = .ok (.iload_n 2, 1) := by decide +kernel
theorem d7_16 : decode method_6_code 16 = .ok (.iconst 4, 1) := by decide +kernel
theorem d7_17 : decode method_6_code 17 = .ok (.iand, 1) := by decide +kernel
theorem d7_18 : decode method_6_code 18 = .ok (.ifCond .eq 8, 3) := by decide +kernel
theorem d7_21 : decode method_6_code 21 = .ok (.iload_n 3, 1) := by decide +kernel
theorem d7_22 : decode method_6_code 22 = .ok (.ineg, 1) := by decide +kernel
theorem d7_23 : decode method_6_code 23 = .ok (.goto 4, 3) := by decide +kernel
theorem d7_26 : decode method_6_code 26 = .ok (.iload_n 3, 1) := by decide +kernel
theorem d7_27 : decode method_6_code 27 = .ok (.i2d, 1) := by decide +kernel
theorem d7_28 : decode method_6_code 28 = .ok (.dreturn, 1) := by decide +kernel
def f_dv (x0 : Int32) (x1 : Int32) : UInt64 := (if ((((x0.toUInt32 >>> (((3 : Int32) * x1) &&& 31).toUInt32).toInt32) &&& (7 : Int32)) &&& (4 : Int32)) = (0 : Int32) then (FP.i2d ((1 : Int32) <<< (((((x0.toUInt32 >>> (((3 : Int32) * x1) &&& 31).toUInt32).toInt32) &&& (7 : Int32)) &&& (3 : Int32)) &&& 31))) else (FP.i2d ((-((1 : Int32) <<< (((((x0.toUInt32 >>> (((3 : Int32) * x1) &&& 31).toUInt32).toInt32) &&& (7 : Int32)) &&& (3 : Int32)) &&& 31))))))
set_option maxRecDepth 65536 in
set_option maxHeartbeats 40000000 in
theorem con_f_dv (l : Launch) (Z : State) (a0 : Array Value) (hw : ∀ d ∈ tables_1, d.before a0 Z = true) (h0 : Heap) (ds : Wd) (x0 : Int32) (x1 : Int32)  :
    Con l Z (⟨"com/example/libplanar/libplanar/SparseMatrixGaussSeidelPinLaw", "dv", "(II)D"⟩ : MethodName) method_6_code 4 (some .double) ({ frames := 0, cells := 0, slots := 0, locals := 0 } : Room) h0 #[(.int x0), (.int x1)] ds (fun v ds' => v = some (.double (f_dv x0 x1)) ∧ ds = ds') := by
  refine con_of (a0 := a0) (Ls := #[.val (.int x0), .val (.int x1), .unset, .unset]) (plainFor_of_name (by first | (simp [plainName, overriddenIn]; done) | decide +kernel)) hw (fun m => by first | (simp [entryFrame, mkF, argsToLocals, Value.category]; done) | rfl) ?_
  intro p e s m below meth c C
  refine g_iloadN C 1 d7_0 rfl rfl ?_
  refine g_iconst C 2 (3 : Int32) d7_1 rfl rfl ?_
  refine g_iloadN C 3 d7_2 rfl rfl ?_
  refine g_imul C 4 d7_3 rfl ?_
  refine g_iushr C 5 d7_4 rfl ?_
  refine g_bipush C 7 (7 : Int32) d7_5 rfl rfl ?_
  refine g_iand C 8 d7_7 rfl ?_
  refine g_istoreN C 9 #[.val (.int x0), .val (.int x1), .val (.int (((x0.toUInt32 >>> (((3 : Int32) * x1) &&& 31).toUInt32).toInt32) &&& (7 : Int32))), .unset] d7_8 rfl rfl ?_
  refine g_iconst C 10 (1 : Int32) d7_9 rfl rfl ?_
  refine g_iloadN C 11 d7_10 rfl rfl ?_
  refine g_iconst C 12 (3 : Int32) d7_11 rfl rfl ?_
  refine g_iand C 13 d7_12 rfl ?_
  refine g_ishl C 14 d7_13 rfl ?_
  refine g_istoreN C 15 #[.val (.int x0), .val (.int x1), .val (.int (((x0.toUInt32 >>> (((3 : Int32) * x1) &&& 31).toUInt32).toInt32) &&& (7 : Int32))), .val (.int ((1 : Int32) <<< (((((x0.toUInt32 >>> (((3 : Int32) * x1) &&& 31).toUInt32).toInt32) &&& (7 : Int32)) &&& (3 : Int32)) &&& 31)))] d7_14 rfl rfl ?_
  refine g_iloadN C 16 d7_15 rfl rfl ?_
  refine g_iconst C 17 (4 : Int32) d7_16 rfl rfl ?_
  refine g_iand C 18 d7_17 rfl ?_
  by_cases c1 : ((((x0.toUInt32 >>> (((3 : Int32) * x1) &&& 31).toUInt32).toInt32) &&& (7 : Int32)) &&& (4 : Int32)) = (0 : Int32)
  · refine g_ifY C 26 d7_18 (teq c1).1 (by decide) (by decide) ?_
    refine g_iloadN C 27 d7_26 rfl rfl ?_
    refine g_i2d C 28 d7_27 rfl ?_
    exact g_dret C d7_28 (by decide) (by decide) ⟨by rw [f_dv, if_pos c1], rfl⟩
  · refine g_ifN C 21 d7_18 (feq c1).1 rfl ?_
    refine g_iloadN C 22 d7_21 rfl rfl ?_
    refine g_ineg C 23 d7_22 rfl ?_
    refine g_goto C 27 d7_23 (by decide) (by decide) ?_
    refine g_i2d C 28 d7_27 rfl ?_
    exact g_dret C d7_28 (by decide) (by decide) ⟨by rw [f_dv, if_neg c1], rfl⟩
theorem d10_0 : decode method_8_code 0 = .ok (.iload_n 2, 1) := by decide +kernel
theorem d10_1 : decode method_8_code 1 = .ok (.iload_n 3, 1) := by decide +kernel
theorem d10_2 : decode method_8_code 2 = .ok (.iload 4, 2) := by decide +kernel
theorem d10_4 : decode method_8_code 4 = .ok (.invokestatic 7, 3) := by decide +kernel
theorem d10_7 : decode method_8_code 7 = .ok (.ifCond .eq 13, 3) := by decide +kernel
theorem d10_10 : decode method_8_code 10 = .ok (.lload_n 0, 1) := by decide +kernel
theorem d10_11 : decode method_8_code 11 = .ok (.iload 4, 2) := by decide +kernel
theorem d10_13 : decode method_8_code 13 = .ok (.invokestatic 13, 3) := by decide +kernel
theorem d10_16 : decode method_8_code 16 = .ok (.i2d, 1) := by decide +kernel
theorem d10_17 : decode method_8_code 17 = .ok (.goto 4, 3) := by decide +kernel
theorem d10_20 : decode method_8_code 20 = .ok (.dconst 0, 1) := by decide +kernel
theorem d10_21 : decode method_8_code 21 = .ok (.dreturn, 1) := by decide +kernel
def f_c (x0 : Int64) (x1 : Int32) (x2 : Int32) (x3 : Int32) : UInt64 := (if (f_on x1 x2 x3) = (0 : Int32) then FP.dconst0 else (FP.i2d (f_coef x0 x3)))
set_option maxRecDepth 65536 in
set_option maxHeartbeats 40000000 in
theorem con_f_c (l : Launch) (Z : State) (a0 : Array Value) (hw : ∀ d ∈ tables_1, d.before a0 Z = true) (h0 : Heap) (ds : Wd) (x0 : Int64) (x1 : Int32) (x2 : Int32) (x3 : Int32)  :
    Con l Z (⟨"com/example/libplanar/libplanar/SparseMatrixGaussSeidelPinLaw", "c", "(JIII)D"⟩ : MethodName) method_8_code 5 (some .double) ({ frames := 1, cells := 0, slots := 0, locals := 20 } : Room) h0 #[(.long x0), (.int x1), (.int x2), (.int x3)] ds (fun v ds' => v = some (.double (f_c x0 x1 x2 x3)) ∧ ds = ds') := by
  refine con_of (a0 := a0) (Ls := #[.val (.long x0), .second, .val (.int x1), .val (.int x2), .val (.int x3)]) (plainFor_of_name (by first | (simp [plainName, overriddenIn]; done) | decide +kernel)) hw (fun m => by first | (simp [entryFrame, mkF, argsToLocals, Value.category]; done) | rfl) ?_
  intro p e s m below meth c C
  refine g_iloadN C 1 d10_0 rfl rfl ?_
  refine g_iloadN C 2 d10_1 rfl rfl ?_
  refine g_iload C 4 d10_2 rfl rfl ?_
  refine g_static C 7 0 (argsL := [(.int x1), (.int x2), (.int x3)]) (St := []) (con_f_on l Z a0 C.2.2.1 h0 ds x1 x2 x3) (List.mem_of_getElem? (i := 2) rfl) (List.mem_of_getElem? (i := 3) rfl) (List.mem_of_getElem? (i := 4) rfl) (List.mem_of_getElem? (i := 5) rfl) (by decide) d10_4 rfl rfl (lenOf (ps := [.int, .int, .int]) (r := some .boolean) (by decide) rfl) rfl (Nat.le_of_eq rfl) (by decide) (by decide) (by decide) (by decide) ?_
  rintro _ _ ⟨rfl, rfl⟩
  show Go _ _ _ _ _ _ _ _ _ _ _ _ ds 0 0 7 #[.val (.long x0), .second, .val (.int x1), .val (.int x2), .val (.int x3)] [(.int (f_on x1 x2 x3))]
  by_cases c1 : (f_on x1 x2 x3) = (0 : Int32)
  · refine g_ifY C 20 d10_7 (teq c1).1 (by decide) (by decide) ?_
    refine g_dconst0 C 21 d10_20 rfl ?_
    exact g_dret C d10_21 (by decide) (by decide) ⟨by rw [f_c, if_pos c1], rfl⟩
  · refine g_ifN C 10 d10_7 (feq c1).1 rfl ?_
    refine g_lloadN C 11 d10_10 rfl rfl ?_
    refine g_iload C 13 d10_11 rfl rfl ?_
    refine g_static C 16 0 (argsL := [(.long x0), (.int x3)]) (St := []) (con_f_coef l Z a0 C.2.2.1 h0 ds x0 x3) (List.mem_of_getElem? (i := 6) rfl) (List.mem_of_getElem? (i := 7) rfl) (List.mem_of_getElem? (i := 4) rfl) (List.mem_of_getElem? (i := 8) rfl) (by decide) d10_13 rfl rfl (lenOf (ps := [.long, .int]) (r := some .int) (by decide) rfl) rfl (Nat.le_of_eq rfl) (by decide) (by decide) (by decide) (by decide) ?_
    rintro _ _ ⟨rfl, rfl⟩
    show Go _ _ _ _ _ _ _ _ _ _ _ _ ds 0 0 16 #[.val (.long x0), .second, .val (.int x1), .val (.int x2), .val (.int x3)] [(.int (f_coef x0 x3))]
    refine g_i2d C 17 d10_16 rfl ?_
    refine g_goto C 21 d10_17 (by decide) (by decide) ?_
    exact g_dret C d10_21 (by decide) (by decide) ⟨by rw [f_c, if_neg c1], rfl⟩
theorem d3_0 : decode method_7_code 0 = .ok (.iload_n 3, 1) := by decide +kernel
theorem d3_1 : decode method_7_code 1 = .ok (.ifCond .eq 18, 3) := by decide +kernel
theorem d3_4 : decode method_7_code 4 = .ok (.aload_n 0, 1) := by decide +kernel
theorem d3_5 : decode method_7_code 5 = .ok (.iload_n 2, 1) := by decide +kernel
theorem d3_6 : decode method_7_code 6 = .ok (.iload 4, 2) := by decide +kernel
theorem d3_8 : decode method_7_code 8 = .ok (.iastore, 1) := by decide +kernel
theorem d3_9 : decode method_7_code 9 = .ok (.aload_n 1, 1) := by decide +kernel
theorem d3_10 : decode method_7_code 10 = .ok (.iload_n 2, 1) := by decide +kernel
theorem d3_11 : decode method_7_code 11 = .ok (.iload 5, 2) := by decide +kernel
theorem d3_13 : decode method_7_code 13 = .ok (.i2d, 1) := by decide +kernel
theorem d3_14 : decode method_7_code 14 = .ok (.dastore, 1) := by decide +kernel
theorem d3_15 : decode method_7_code 15 = .ok (.iload_n 2, 1) := by decide +kernel
theorem d3_16 : decode method_7_code 16 = .ok (.iconst 1, 1) := by decide +kernel
theorem d3_17 : decode method_7_code 17 = .ok (.iadd, 1) := by decide +kernel
theorem d3_18 : decode method_7_code 18 = .ok (.ireturn, 1) := by decide +kernel
theorem d3_19 : decode method_7_code 19 = .ok (.iload_n 2, 1) := by decide +kernel
theorem d3_20 : decode method_7_code 20 = .ok (.ireturn, 1) := by decide +kernel
set_option maxRecDepth 65536 in
set_option maxHeartbeats 40000000 in
theorem con_put (l : Launch) (Z : State) (a0 : Array Value) (hw : ∀ d ∈ tables_1, d.before a0 Z = true) (h0 : Heap) (kc kv : Addr) (d2 : Addr × Desc) (P : List Ent) (x3 x4 x5 : Int32) (hP : P.length < 9) :
    Con l Z (⟨"com/example/libplanar/libplanar/SparseMatrixGaussSeidelPinLaw", "put", "([I[DIZII)I"⟩ : MethodName) method_7_code 6 (some .int) ({ frames := 0, cells := 0, slots := 0, locals := 0 } : Room) h0 #[(.ref kc), (.ref kv), (.int (Int32.ofNat P.length)), (.int x3), (.int x4), (.int x5)] [(kc, IA Z .int (ints (own_c P))), (kv, DA Z (own_v P)), d2] (fun v ds' => v = some (.int (Int32.ofNat (own_app P x3 (x4, FP.i2d x5)).length)) ∧ [(kc, IA Z .int (ints (own_c (own_app P x3 (x4, FP.i2d x5))))), (kv, DA Z (own_v (own_app P x3 (x4, FP.i2d x5)))), d2] = ds') := by
  refine con_of (a0 := a0) (Ls := #[.val (.ref kc), .val (.ref kv), .val (.int (Int32.ofNat P.length)), .val (.int x3), .val (.int x4), .val (.int x5)]) (plainFor_of_name (by first | (simp [plainName, overriddenIn]; done) | decide +kernel)) hw (fun m => by first | (simp [entryFrame, mkF, argsToLocals, Value.category]; done) | rfl) ?_
  intro p e s m below meth c C
  refine g_iloadN C 1 d3_0 rfl rfl ?_
  by_cases c1 : x3 = (0 : Int32)
  · refine g_ifY C 19 d3_1 (teq c1).1 (by decide) (by decide) ?_
    refine g_iloadN C 20 d3_19 rfl rfl ?_
    exact g_iret C d3_20 (by decide) (by decide) (by unfold own_app; rw [if_pos c1]; exact ⟨rfl, rfl⟩)
  · refine g_ifN C 4 d3_1 (feq c1).1 rfl ?_
    refine g_aloadN C 5 d3_4 rfl rfl rfl ?_
    refine g_iloadN C 6 d3_5 rfl rfl ?_
    refine g_iload C 8 d3_6 rfl rfl ?_
    refine g_iastore C 9 (i := 0) (own_c (P ++ [(x4, FP.i2d x5)])) [(kc, IA Z .int (ints (own_c (P ++ [(x4, FP.i2d x5)])))), (kv, DA Z (own_v P)), d2] rfl d3_8 rfl (own_n9 (Nat.le_of_lt hP)).2 (by rw [own_cl (Nat.le_of_lt hP), (own_n9 (Nat.le_of_lt hP)).1]; exact hP) (own_cset hP (x4, FP.i2d x5)) rfl ?_
    refine g_aloadN C 10 d3_9 rfl rfl rfl ?_
    refine g_iloadN C 11 d3_10 rfl rfl ?_
    refine g_iload C 13 d3_11 rfl rfl ?_
    refine g_i2d C 14 d3_13 rfl ?_
    refine g_dastore C 15 (i := 1) (own_v (P ++ [(x4, FP.i2d x5)])) [(kc, IA Z .int (ints (own_c (P ++ [(x4, FP.i2d x5)])))), (kv, DA Z (own_v (P ++ [(x4, FP.i2d x5)]))), d2] rfl d3_14 rfl (own_n9 (Nat.le_of_lt hP)).2 (by rw [own_vl (Nat.le_of_lt hP), (own_n9 (Nat.le_of_lt hP)).1]; exact hP) (own_vset hP (x4, FP.i2d x5)) rfl ?_
    refine g_iloadN C 16 d3_15 rfl rfl ?_
    refine g_iconst C 17 (1 : Int32) d3_16 rfl rfl ?_
    refine g_iadd C 18 d3_17 rfl ?_
    exact g_iret C d3_18 (by decide) (by decide) (by unfold own_app; rw [if_neg c1, own_s9 (Nat.le_of_lt hP)]; exact ⟨by rw [List.length_append]; rfl, rfl⟩)
theorem d4_0 : decode prog_91_method_1_code 0 = .ok (.aload_n 0, 1) := by decide +kernel
theorem d4_1 : decode prog_91_method_1_code 1 = .ok (.invokespecial 1, 3) := by decide +kernel
theorem d4_4 : decode prog_91_method_1_code 4 = .ok (.aload_n 0, 1) := by decide +kernel
theorem d4_5 : decode prog_91_method_1_code 5 = .ok (.iload_n 1, 1) := by decide +kernel
theorem d4_6 : decode prog_91_method_1_code 6 = .ok (.putfield 7, 3) := by decide +kernel
theorem d4_9 : decode prog_91_method_1_code 9 = .ok (.aload_n 0, 1) := by decide +kernel
theorem d4_10 : decode prog_91_method_1_code 10 = .ok (.iload_n 2, 1) := by decide +kernel
theorem d4_11 : decode prog_91_method_1_code 11 = .ok (.putfield 13, 3) := by decide +kernel
theorem d4_14 : decode prog_91_method_1_code 14 = .ok (.aload_n 0, 1) := by decide +kernel
theorem d4_15 : decode prog_91_method_1_code 15 = .ok (.aload_n 3, 1) := by decide +kernel
theorem d4_16 : decode prog_91_method_1_code 16 = .ok (.putfield 16, 3) := by decide +kernel
theorem d4_19 : decode prog_91_method_1_code 19 = .ok (.aload_n 0, 1) := by decide +kernel
theorem d4_20 : decode prog_91_method_1_code 20 = .ok (.aload 4, 2) := by decide +kernel
theorem d4_22 : decode prog_91_method_1_code 22 = .ok (.putfield 20, 3) := by decide +kernel
theorem d4_25 : decode prog_91_method_1_code 25 = .ok (.aload_n 0, 1) := by decide +kernel
theorem d4_26 : decode prog_91_method_1_code 26 = .ok (.aload 5, 2) := by decide +kernel
theorem d4_28 : decode prog_91_method_1_code 28 = .ok (.putfield 23, 3) := by decide +kernel
theorem d4_31 : decode prog_91_method_1_code 31 = .ok (.return_, 1) := by decide +kernel
set_option maxRecDepth 65536 in
set_option maxHeartbeats 40000000 in
theorem con_minit (l : Launch) (Z : State) (a0 : Array Value) (hw : ∀ d ∈ tables_1, d.before a0 Z = true) (h0 : Heap) (ds : Wd) (j : Nat) (p1 ks kc kv : Addr) (x1 : Int32) (hi : ds[j]? = some (p1, OB Z a0 "com/example/libplanar/libplanar/SparseMatrix" [("com/example/libplanar/libplanar/SparseMatrix", "rows", "I", (.int (0 : Int32))), ("com/example/libplanar/libplanar/SparseMatrix", "columnCount", "I", (.int (0 : Int32))), ("com/example/libplanar/libplanar/SparseMatrix", "rowStart", "[I", .null), ("com/example/libplanar/libplanar/SparseMatrix", "columns", "[I", .null), ("com/example/libplanar/libplanar/SparseMatrix", "values", "[D", .null)])) :
    Con l Z (⟨"com/example/libplanar/libplanar/SparseMatrix", "<init>", "(II[I[I[D)V"⟩ : MethodName) prog_91_method_1_code 6 none ({ frames := 1, cells := 0, slots := 0, locals := 12 } : Room) h0 #[(.ref p1), (.int x1), (.int x1), (.ref ks), (.ref kc), (.ref kv)] ds (fun v ds' => v = none ∧ ds.set j (p1, OB Z a0 "com/example/libplanar/libplanar/SparseMatrix" [("com/example/libplanar/libplanar/SparseMatrix", "rows", "I", (.int x1)), ("com/example/libplanar/libplanar/SparseMatrix", "columnCount", "I", (.int x1)), ("com/example/libplanar/libplanar/SparseMatrix", "rowStart", "[I", (.ref ks)), ("com/example/libplanar/libplanar/SparseMatrix", "columns", "[I", (.ref kc)), ("com/example/libplanar/libplanar/SparseMatrix", "values", "[D", (.ref kv))]) = ds') := by
  refine con_of (a0 := a0) (Ls := #[.val (.ref p1), .val (.int x1), .val (.int x1), .val (.ref ks), .val (.ref kc), .val (.ref kv)]) (plainFor_of_name (by first | (simp [plainName, overriddenIn]; done) | decide +kernel)) hw (fun m => by first | (simp [entryFrame, mkF, argsToLocals, Value.category]; done) | rfl) ?_
  intro p e s m below meth c C
  refine g_aloadN C 1 d4_0 rfl rfl rfl ?_
  refine g_initO C 4 0 (List.mem_of_getElem? (i := 19) rfl) (List.mem_of_getElem? (i := 20) rfl) (List.mem_of_getElem? (i := 21) rfl) d4_1 rfl rfl (by decide) (Nat.le_of_eq rfl) (by decide) ?_
  refine g_aloadN C 5 d4_4 rfl rfl rfl ?_
  refine g_iloadN C 6 d4_5 rfl rfl ?_
  refine g_putfield C 9 (i := j) (j := 0) (ty := .int) [("com/example/libplanar/libplanar/SparseMatrix", "rows", "I", (.int x1)), ("com/example/libplanar/libplanar/SparseMatrix", "columnCount", "I", (.int (0 : Int32))), ("com/example/libplanar/libplanar/SparseMatrix", "rowStart", "[I", .null), ("com/example/libplanar/libplanar/SparseMatrix", "columns", "[I", .null), ("com/example/libplanar/libplanar/SparseMatrix", "values", "[D", .null)] (ds.set j (p1, OB Z a0 "com/example/libplanar/libplanar/SparseMatrix" [("com/example/libplanar/libplanar/SparseMatrix", "rows", "I", (.int x1)), ("com/example/libplanar/libplanar/SparseMatrix", "columnCount", "I", (.int (0 : Int32))), ("com/example/libplanar/libplanar/SparseMatrix", "rowStart", "[I", .null), ("com/example/libplanar/libplanar/SparseMatrix", "columns", "[I", .null), ("com/example/libplanar/libplanar/SparseMatrix", "values", "[D", .null)])) hi rfl d4_6 rfl (List.mem_of_getElem? (i := 22) rfl) (Or.inr ⟨(List.mem_of_getElem? (i := 23) rfl), rfl, rfl⟩) (List.mem_of_getElem? (i := 14) rfl) (by decide) rfl rfl (by simp) rfl rfl ?_
  refine g_aloadN C 10 d4_9 rfl rfl rfl ?_
  refine g_iloadN C 11 d4_10 rfl rfl ?_
  refine g_putfield C 14 (i := j) (j := 1) (ty := .int) [("com/example/libplanar/libplanar/SparseMatrix", "rows", "I", (.int x1)), ("com/example/libplanar/libplanar/SparseMatrix", "columnCount", "I", (.int x1)), ("com/example/libplanar/libplanar/SparseMatrix", "rowStart", "[I", .null), ("com/example/libplanar/libplanar/SparseMatrix", "columns", "[I", .null), ("com/example/libplanar/libplanar/SparseMatrix", "values", "[D", .null)] (ds.set j (p1, OB Z a0 "com/example/libplanar/libplanar/SparseMatrix" [("com/example/libplanar/libplanar/SparseMatrix", "rows", "I", (.int x1)), ("com/example/libplanar/libplanar/SparseMatrix", "columnCount", "I", (.int x1)), ("com/example/libplanar/libplanar/SparseMatrix", "rowStart", "[I", .null), ("com/example/libplanar/libplanar/SparseMatrix", "columns", "[I", .null), ("com/example/libplanar/libplanar/SparseMatrix", "values", "[D", .null)])) (set_same hi) rfl d4_11 rfl (List.mem_of_getElem? (i := 24) rfl) (Or.inr ⟨(List.mem_of_getElem? (i := 25) rfl), rfl, rfl⟩) (List.mem_of_getElem? (i := 14) rfl) (by decide) rfl rfl (by simp) rfl (List.set_set _) ?_
  refine g_aloadN C 15 d4_14 rfl rfl rfl ?_
  refine g_aloadN C 16 d4_15 rfl rfl rfl ?_
  refine g_putfield C 19 (i := j) (j := 2) (ty := (.array .int)) [("com/example/libplanar/libplanar/SparseMatrix", "rows", "I", (.int x1)), ("com/example/libplanar/libplanar/SparseMatrix", "columnCount", "I", (.int x1)), ("com/example/libplanar/libplanar/SparseMatrix", "rowStart", "[I", (.ref ks)), ("com/example/libplanar/libplanar/SparseMatrix", "columns", "[I", .null), ("com/example/libplanar/libplanar/SparseMatrix", "values", "[D", .null)] (ds.set j (p1, OB Z a0 "com/example/libplanar/libplanar/SparseMatrix" [("com/example/libplanar/libplanar/SparseMatrix", "rows", "I", (.int x1)), ("com/example/libplanar/libplanar/SparseMatrix", "columnCount", "I", (.int x1)), ("com/example/libplanar/libplanar/SparseMatrix", "rowStart", "[I", (.ref ks)), ("com/example/libplanar/libplanar/SparseMatrix", "columns", "[I", .null), ("com/example/libplanar/libplanar/SparseMatrix", "values", "[D", .null)])) (set_same hi) rfl d4_16 rfl (List.mem_of_getElem? (i := 26) rfl) (Or.inr ⟨(List.mem_of_getElem? (i := 27) rfl), rfl, rfl⟩) (List.mem_of_getElem? (i := 14) rfl) (by decide) rfl rfl (by simp) rfl (List.set_set _) ?_
  refine g_aloadN C 20 d4_19 rfl rfl rfl ?_
  refine g_aload C 22 d4_20 rfl rfl rfl ?_
  refine g_putfield C 25 (i := j) (j := 3) (ty := (.array .int)) [("com/example/libplanar/libplanar/SparseMatrix", "rows", "I", (.int x1)), ("com/example/libplanar/libplanar/SparseMatrix", "columnCount", "I", (.int x1)), ("com/example/libplanar/libplanar/SparseMatrix", "rowStart", "[I", (.ref ks)), ("com/example/libplanar/libplanar/SparseMatrix", "columns", "[I", (.ref kc)), ("com/example/libplanar/libplanar/SparseMatrix", "values", "[D", .null)] (ds.set j (p1, OB Z a0 "com/example/libplanar/libplanar/SparseMatrix" [("com/example/libplanar/libplanar/SparseMatrix", "rows", "I", (.int x1)), ("com/example/libplanar/libplanar/SparseMatrix", "columnCount", "I", (.int x1)), ("com/example/libplanar/libplanar/SparseMatrix", "rowStart", "[I", (.ref ks)), ("com/example/libplanar/libplanar/SparseMatrix", "columns", "[I", (.ref kc)), ("com/example/libplanar/libplanar/SparseMatrix", "values", "[D", .null)])) (set_same hi) rfl d4_22 rfl (List.mem_of_getElem? (i := 28) rfl) (Or.inr ⟨(List.mem_of_getElem? (i := 29) rfl), rfl, rfl⟩) (List.mem_of_getElem? (i := 14) rfl) (by decide) rfl rfl (by simp) rfl (List.set_set _) ?_
  refine g_aloadN C 26 d4_25 rfl rfl rfl ?_
  refine g_aload C 28 d4_26 rfl rfl rfl ?_
  refine g_putfield C 31 (i := j) (j := 4) (ty := (.array .double)) [("com/example/libplanar/libplanar/SparseMatrix", "rows", "I", (.int x1)), ("com/example/libplanar/libplanar/SparseMatrix", "columnCount", "I", (.int x1)), ("com/example/libplanar/libplanar/SparseMatrix", "rowStart", "[I", (.ref ks)), ("com/example/libplanar/libplanar/SparseMatrix", "columns", "[I", (.ref kc)), ("com/example/libplanar/libplanar/SparseMatrix", "values", "[D", (.ref kv))] (ds.set j (p1, OB Z a0 "com/example/libplanar/libplanar/SparseMatrix" [("com/example/libplanar/libplanar/SparseMatrix", "rows", "I", (.int x1)), ("com/example/libplanar/libplanar/SparseMatrix", "columnCount", "I", (.int x1)), ("com/example/libplanar/libplanar/SparseMatrix", "rowStart", "[I", (.ref ks)), ("com/example/libplanar/libplanar/SparseMatrix", "columns", "[I", (.ref kc)), ("com/example/libplanar/libplanar/SparseMatrix", "values", "[D", (.ref kv))])) (set_same hi) rfl d4_28 rfl (List.mem_of_getElem? (i := 30) rfl) (Or.inr ⟨(List.mem_of_getElem? (i := 31) rfl), rfl, rfl⟩) (List.mem_of_getElem? (i := 14) rfl) (by decide) rfl rfl (by simp) rfl (List.set_set _) ?_
  exact g_ret C d4_31 (by decide) (by decide) ⟨rfl, rfl⟩
theorem d9_0 : decode method_9_code 0 = .ok (.aload_n 2, 1) := by decide +kernel
theorem d9_1 : decode method_9_code 1 = .ok (.iload_n 1, 1) := by decide +kernel
theorem d9_2 : decode method_9_code 2 = .ok (.daload, 1) := by decide +kernel
theorem d9_3 : decode method_9_code 3 = .ok (.lload 4, 2) := by decide +kernel
theorem d9_5 : decode method_9_code 5 = .ok (.iload 6, 2) := by decide +kernel
theorem d9_7 : decode method_9_code 7 = .ok (.iload 7, 2) := by decide +kernel
theorem d9_9 : decode method_9_code 9 = .ok (.iconst 3, 1) := by decide +kernel
theorem d9_10 : decode method_9_code 10 = .ok (.iload_n 1, 1) := by decide +kernel
theorem d9_11 : decode method_9_code 11 = .ok (.imul, 1) := by decide +kernel
theorem d9_12 : decode method_9_code 12 = .ok (.invokestatic 43, 3) := by decide +kernel
theorem d9_15 : decode method_9_code 15 = .ok (.aload_n 0, 1) := by decide +kernel
theorem d9_16 : decode method_9_code 16 = .ok (.iconst 0, 1) := by decide +kernel
theorem d9_17 : decode method_9_code 17 = .ok (.daload, 1) := by decide +kernel
theorem d9_18 : decode method_9_code 18 = .ok (.dmul, 1) := by decide +kernel
theorem d9_19 : decode method_9_code 19 = .ok (.lload 4, 2) := by decide +kernel
theorem d9_21 : decode method_9_code 21 = .ok (.iload 6, 2) := by decide +kernel
theorem d9_23 : decode method_9_code 23 = .ok (.iload 7, 2) := by decide +kernel
theorem d9_25 : decode method_9_code 25 = .ok (.iconst 3, 1) := by decide +kernel
theorem d9_26 : decode method_9_code 26 = .ok (.iload_n 1, 1) := by decide +kernel
theorem d9_27 : decode method_9_code 27 = .ok (.imul, 1) := by decide +kernel
theorem d9_28 : decode method_9_code 28 = .ok (.iconst 1, 1) := by decide +kernel
theorem d9_29 : decode method_9_code 29 = .ok (.iadd, 1) := by decide +kernel
theorem d9_30 : decode method_9_code 30 = .ok (.invokestatic 43, 3) := by decide +kernel
theorem d9_33 : decode method_9_code 33 = .ok (.aload_n 0, 1) := by decide +kernel
theorem d9_34 : decode method_9_code 34 = .ok (.iconst 1, 1) := by decide +kernel
theorem d9_35 : decode method_9_code 35 = .ok (.daload, 1) := by decide +kernel
theorem d9_36 : decode method_9_code 36 = .ok (.dmul, 1) := by decide +kernel
theorem d9_37 : decode method_9_code 37 = .ok (.dadd, 1) := by decide +kernel
theorem d9_38 : decode method_9_code 38 = .ok (.lload 4, 2) := by decide +kernel
theorem d9_40 : decode method_9_code 40 = .ok (.iload 6, 2) := by decide +kernel
theorem d9_42 : decode method_9_code 42 = .ok (.iload 7, 2) := by decide +kernel
theorem d9_44 : decode method_9_code 44 = .ok (.iconst 3, 1) := by decide +kernel
theorem d9_45 : decode method_9_code 45 = .ok (.iload_n 1, 1) := by decide +kernel
theorem d9_46 : decode method_9_code 46 = .ok (.imul, 1) := by decide +kernel
theorem d9_47 : decode method_9_code 47 = .ok (.iconst 2, 1) := by decide +kernel
theorem d9_48 : decode method_9_code 48 = .ok (.iadd, 1) := by decide +kernel
theorem d9_49 : decode method_9_code 49 = .ok (.invokestatic 43, 3) := by decide +kernel
theorem d9_52 : decode method_9_code 52 = .ok (.aload_n 0, 1) := by decide +kernel
theorem d9_53 : decode method_9_code 53 = .ok (.iconst 2, 1) := by decide +kernel
theorem d9_54 : decode method_9_code 54 = .ok (.daload, 1) := by decide +kernel
theorem d9_55 : decode method_9_code 55 = .ok (.dmul, 1) := by decide +kernel
theorem d9_56 : decode method_9_code 56 = .ok (.dadd, 1) := by decide +kernel
theorem d9_57 : decode method_9_code 57 = .ok (.dsub, 1) := by decide +kernel
theorem d9_58 : decode method_9_code 58 = .ok (.dstore 8, 2) := by decide +kernel
theorem d9_60 : decode method_9_code 60 = .ok (.aload_n 0, 1) := by decide +kernel
theorem d9_61 : decode method_9_code 61 = .ok (.iload_n 1, 1) := by decide +kernel
theorem d9_62 : decode method_9_code 62 = .ok (.aload_n 0, 1) := by decide +kernel
theorem d9_63 : decode method_9_code 63 = .ok (.iload_n 1, 1) := by decide +kernel
theorem d9_64 : decode method_9_code 64 = .ok (.daload, 1) := by decide +kernel
theorem d9_65 : decode method_9_code 65 = .ok (.dload 8, 2) := by decide +kernel
theorem d9_67 : decode method_9_code 67 = .ok (.aload_n 3, 1) := by decide +kernel
theorem d9_68 : decode method_9_code 68 = .ok (.iload_n 1, 1) := by decide +kernel
theorem d9_69 : decode method_9_code 69 = .ok (.daload, 1) := by decide +kernel
theorem d9_70 : decode method_9_code 70 = .ok (.ddiv, 1) := by decide +kernel
theorem d9_71 : decode method_9_code 71 = .ok (.dadd, 1) := by decide +kernel
theorem d9_72 : decode method_9_code 72 = .ok (.dastore, 1) := by decide +kernel
theorem d9_73 : decode method_9_code 73 = .ok (.return_, 1) := by decide +kernel
set_option maxRecDepth 65536 in
set_option maxHeartbeats 40000000 in
theorem con_upd0 (l : Launch) (Z : State) (a0 : Array Value) (hw : ∀ d ∈ tables_1, d.before a0 Z = true) (h0 : Heap) (d0 d1 d2 d3 d5 : Addr × Desc) (ab ay ag : Addr) (bb0 bb1 bb2 yy0 yy1 yy2 gg0 gg1 gg2 : UInt64) (x4 : Int64) (x6 x7 : Int32) (hN : own_updok (f_c x4 x6 x7 (0 : Int32)) (f_c x4 x6 x7 (1 : Int32)) (f_c x4 x6 x7 (2 : Int32)) yy0 yy1 yy2 bb0 gg0 yy0) :
    Con l Z (⟨"com/example/libplanar/libplanar/SparseMatrixGaussSeidelPinLaw", "upd", "([DI[D[DJII)V"⟩ : MethodName) method_9_code 10 none ({ frames := 2, cells := 0, slots := 0, locals := 40 } : Room) h0 #[(.ref ay), (.int (0 : Int32)), (.ref ab), (.ref ag), (.long x4), (.int x6), (.int x7)] [d0, d1, d2, d3, (ab, DA Z [bb0, bb1, bb2]), d5, (ay, DA Z [yy0, yy1, yy2]), (ag, DA Z [gg0, gg1, gg2])] (fun v ds' => v = none ∧ [d0, d1, d2, d3, (ab, DA Z [bb0, bb1, bb2]), d5, (ay, DA Z [(own_upd (f_c x4 x6 x7 (0 : Int32)) (f_c x4 x6 x7 (1 : Int32)) (f_c x4 x6 x7 (2 : Int32)) yy0 yy1 yy2 bb0 gg0 yy0), yy1, yy2]), (ag, DA Z [gg0, gg1, gg2])] = ds') := by
  refine con_of (a0 := a0) (Ls := #[.val (.ref ay), .val (.int (0 : Int32)), .val (.ref ab), .val (.ref ag), .val (.long x4), .second, .val (.int x6), .val (.int x7), .unset, .unset]) (plainFor_of_name (by first | (simp [plainName, overriddenIn]; done) | decide +kernel)) hw (fun m => by first | (simp [entryFrame, mkF, argsToLocals, Value.category]; done) | rfl) ?_
  intro p e s m below meth c C
  refine g_aloadN C 1 d9_0 rfl rfl rfl ?_
  refine g_iloadN C 2 d9_1 rfl rfl ?_
  refine g_daload C 3 (i := 4) rfl d9_2 rfl (by decide) bb0 rfl ?_
  refine g_lload C 5 d9_3 rfl rfl ?_
  refine g_iload C 7 d9_5 rfl rfl ?_
  refine g_iload C 9 d9_7 rfl rfl ?_
  refine g_iconst C 10 (3 : Int32) d9_9 rfl rfl ?_
  refine g_iloadN C 11 d9_10 rfl rfl ?_
  refine g_imul C 12 d9_11 rfl ?_
  rw [show ((3 : Int32) * (0 : Int32)) = (0 : Int32) from by decide]
  refine g_static C 15 2 (argsL := [(.long x4), (.int x6), (.int x7), (.int (0 : Int32))]) (St := [(.double bb0)]) (con_f_c l Z a0 C.2.2.1 h0 [d0, d1, d2, d3, (ab, DA Z [bb0, bb1, bb2]), d5, (ay, DA Z [yy0, yy1, yy2]), (ag, DA Z [gg0, gg1, gg2])] x4 x6 x7 (0 : Int32)) (List.mem_of_getElem? (i := 46) rfl) (List.mem_of_getElem? (i := 47) rfl) (List.mem_of_getElem? (i := 4) rfl) (List.mem_of_getElem? (i := 48) rfl) (by decide) d9_12 rfl rfl (lenOf (ps := [.long, .int, .int, .int]) (r := some .double) (by decide) rfl) rfl (Nat.le_of_eq rfl) (by decide) (by decide) (by decide) (by decide) ?_
  rintro _ _ ⟨rfl, rfl⟩
  show Go _ _ _ _ _ _ _ _ _ _ _ _ [d0, d1, d2, d3, (ab, DA Z [bb0, bb1, bb2]), d5, (ay, DA Z [yy0, yy1, yy2]), (ag, DA Z [gg0, gg1, gg2])] 0 0 15 #[.val (.ref ay), .val (.int (0 : Int32)), .val (.ref ab), .val (.ref ag), .val (.long x4), .second, .val (.int x6), .val (.int x7), .unset, .unset] [(.double (f_c x4 x6 x7 (0 : Int32))), (.double bb0)]
  refine g_aloadN C 16 d9_15 rfl rfl rfl ?_
  refine g_iconst C 17 (0 : Int32) d9_16 rfl rfl ?_
  refine g_daload C 18 (i := 6) rfl d9_17 rfl (by decide) yy0 rfl ?_
  refine g_dmul C 19 d9_18 rfl hN.1 ?_
  refine g_lload C 21 d9_19 rfl rfl ?_
  refine g_iload C 23 d9_21 rfl rfl ?_
  refine g_iload C 25 d9_23 rfl rfl ?_
  refine g_iconst C 26 (3 : Int32) d9_25 rfl rfl ?_
  refine g_iloadN C 27 d9_26 rfl rfl ?_
  refine g_imul C 28 d9_27 rfl ?_
  rw [show ((3 : Int32) * (0 : Int32)) = (0 : Int32) from by decide]
  refine g_iconst C 29 (1 : Int32) d9_28 rfl rfl ?_
  refine g_iadd C 30 d9_29 rfl ?_
  rw [show ((0 : Int32) + (1 : Int32)) = (1 : Int32) from by decide]
  refine g_static C 33 4 (argsL := [(.long x4), (.int x6), (.int x7), (.int (1 : Int32))]) (St := [(.double (FP.dmul (f_c x4 x6 x7 (0 : Int32)) yy0)), (.double bb0)]) (con_f_c l Z a0 C.2.2.1 h0 [d0, d1, d2, d3, (ab, DA Z [bb0, bb1, bb2]), d5, (ay, DA Z [yy0, yy1, yy2]), (ag, DA Z [gg0, gg1, gg2])] x4 x6 x7 (1 : Int32)) (List.mem_of_getElem? (i := 46) rfl) (List.mem_of_getElem? (i := 47) rfl) (List.mem_of_getElem? (i := 4) rfl) (List.mem_of_getElem? (i := 48) rfl) (by decide) d9_30 rfl rfl (lenOf (ps := [.long, .int, .int, .int]) (r := some .double) (by decide) rfl) rfl (Nat.le_of_eq rfl) (by decide) (by decide) (by decide) (by decide) ?_
  rintro _ _ ⟨rfl, rfl⟩
  show Go _ _ _ _ _ _ _ _ _ _ _ _ [d0, d1, d2, d3, (ab, DA Z [bb0, bb1, bb2]), d5, (ay, DA Z [yy0, yy1, yy2]), (ag, DA Z [gg0, gg1, gg2])] 0 0 33 #[.val (.ref ay), .val (.int (0 : Int32)), .val (.ref ab), .val (.ref ag), .val (.long x4), .second, .val (.int x6), .val (.int x7), .unset, .unset] [(.double (f_c x4 x6 x7 (1 : Int32))), (.double (FP.dmul (f_c x4 x6 x7 (0 : Int32)) yy0)), (.double bb0)]
  refine g_aloadN C 34 d9_33 rfl rfl rfl ?_
  refine g_iconst C 35 (1 : Int32) d9_34 rfl rfl ?_
  refine g_daload C 36 (i := 6) rfl d9_35 rfl (by decide) yy1 rfl ?_
  refine g_dmul C 37 d9_36 rfl hN.2.1 ?_
  refine g_dadd C 38 d9_37 rfl hN.2.2.1 ?_
  refine g_lload C 40 d9_38 rfl rfl ?_
  refine g_iload C 42 d9_40 rfl rfl ?_
  refine g_iload C 44 d9_42 rfl rfl ?_
  refine g_iconst C 45 (3 : Int32) d9_44 rfl rfl ?_
  refine g_iloadN C 46 d9_45 rfl rfl ?_
  refine g_imul C 47 d9_46 rfl ?_
  rw [show ((3 : Int32) * (0 : Int32)) = (0 : Int32) from by decide]
  refine g_iconst C 48 (2 : Int32) d9_47 rfl rfl ?_
  refine g_iadd C 49 d9_48 rfl ?_
  rw [show ((0 : Int32) + (2 : Int32)) = (2 : Int32) from by decide]
  refine g_static C 52 4 (argsL := [(.long x4), (.int x6), (.int x7), (.int (2 : Int32))]) (St := [(.double (FP.dadd (FP.dmul (f_c x4 x6 x7 (0 : Int32)) yy0) (FP.dmul (f_c x4 x6 x7 (1 : Int32)) yy1))), (.double bb0)]) (con_f_c l Z a0 C.2.2.1 h0 [d0, d1, d2, d3, (ab, DA Z [bb0, bb1, bb2]), d5, (ay, DA Z [yy0, yy1, yy2]), (ag, DA Z [gg0, gg1, gg2])] x4 x6 x7 (2 : Int32)) (List.mem_of_getElem? (i := 46) rfl) (List.mem_of_getElem? (i := 47) rfl) (List.mem_of_getElem? (i := 4) rfl) (List.mem_of_getElem? (i := 48) rfl) (by decide) d9_49 rfl rfl (lenOf (ps := [.long, .int, .int, .int]) (r := some .double) (by decide) rfl) rfl (Nat.le_of_eq rfl) (by decide) (by decide) (by decide) (by decide) ?_
  rintro _ _ ⟨rfl, rfl⟩
  show Go _ _ _ _ _ _ _ _ _ _ _ _ [d0, d1, d2, d3, (ab, DA Z [bb0, bb1, bb2]), d5, (ay, DA Z [yy0, yy1, yy2]), (ag, DA Z [gg0, gg1, gg2])] 0 0 52 #[.val (.ref ay), .val (.int (0 : Int32)), .val (.ref ab), .val (.ref ag), .val (.long x4), .second, .val (.int x6), .val (.int x7), .unset, .unset] [(.double (f_c x4 x6 x7 (2 : Int32))), (.double (FP.dadd (FP.dmul (f_c x4 x6 x7 (0 : Int32)) yy0) (FP.dmul (f_c x4 x6 x7 (1 : Int32)) yy1))), (.double bb0)]
  refine g_aloadN C 53 d9_52 rfl rfl rfl ?_
  refine g_iconst C 54 (2 : Int32) d9_53 rfl rfl ?_
  refine g_daload C 55 (i := 6) rfl d9_54 rfl (by decide) yy2 rfl ?_
  refine g_dmul C 56 d9_55 rfl hN.2.2.2.1 ?_
  refine g_dadd C 57 d9_56 rfl hN.2.2.2.2.1 ?_
  refine g_dsub C 58 d9_57 rfl hN.2.2.2.2.2.1 ?_
  refine g_dstore C 60 #[.val (.ref ay), .val (.int (0 : Int32)), .val (.ref ab), .val (.ref ag), .val (.long x4), .second, .val (.int x6), .val (.int x7), .val (.double (FP.dsub bb0 (FP.dadd (FP.dadd (FP.dmul (f_c x4 x6 x7 (0 : Int32)) yy0) (FP.dmul (f_c x4 x6 x7 (1 : Int32)) yy1)) (FP.dmul (f_c x4 x6 x7 (2 : Int32)) yy2)))), .second] d9_58 rfl rfl ?_
  refine g_aloadN C 61 d9_60 rfl rfl rfl ?_
  refine g_iloadN C 62 d9_61 rfl rfl ?_
  refine g_aloadN C 63 d9_62 rfl rfl rfl ?_
  refine g_iloadN C 64 d9_63 rfl rfl ?_
  refine g_daload C 65 (i := 6) rfl d9_64 rfl (by decide) yy0 rfl ?_
  refine g_dload C 67 d9_65 rfl rfl ?_
  refine g_aloadN C 68 d9_67 rfl rfl rfl ?_
  refine g_iloadN C 69 d9_68 rfl rfl ?_
  refine g_daload C 70 (i := 7) rfl d9_69 rfl (by decide) gg0 rfl ?_
  refine g_ddiv C 71 d9_70 rfl hN.2.2.2.2.2.2.1 ?_
  refine g_dadd C 72 d9_71 rfl hN.2.2.2.2.2.2.2 ?_
  refine g_dastore C 73 (i := 6) [(FP.dadd yy0 (FP.ddiv (FP.dsub bb0 (FP.dadd (FP.dadd (FP.dmul (f_c x4 x6 x7 (0 : Int32)) yy0) (FP.dmul (f_c x4 x6 x7 (1 : Int32)) yy1)) (FP.dmul (f_c x4 x6 x7 (2 : Int32)) yy2))) gg0)), yy1, yy2] [d0, d1, d2, d3, (ab, DA Z [bb0, bb1, bb2]), d5, (ay, DA Z [(FP.dadd yy0 (FP.ddiv (FP.dsub bb0 (FP.dadd (FP.dadd (FP.dmul (f_c x4 x6 x7 (0 : Int32)) yy0) (FP.dmul (f_c x4 x6 x7 (1 : Int32)) yy1)) (FP.dmul (f_c x4 x6 x7 (2 : Int32)) yy2))) gg0)), yy1, yy2]), (ag, DA Z [gg0, gg1, gg2])] rfl d9_72 rfl (by decide) (Nat.le_of_ble_eq_true rfl) rfl rfl ?_
  exact g_ret C d9_73 (by decide) (by decide) ⟨rfl, rfl⟩
set_option maxRecDepth 65536 in
set_option maxHeartbeats 40000000 in
theorem con_upd1 (l : Launch) (Z : State) (a0 : Array Value) (hw : ∀ d ∈ tables_1, d.before a0 Z = true) (h0 : Heap) (d0 d1 d2 d3 d5 : Addr × Desc) (ab ay ag : Addr) (bb0 bb1 bb2 yy0 yy1 yy2 gg0 gg1 gg2 : UInt64) (x4 : Int64) (x6 x7 : Int32) (hN : own_updok (f_c x4 x6 x7 (3 : Int32)) (f_c x4 x6 x7 (4 : Int32)) (f_c x4 x6 x7 (5 : Int32)) yy0 yy1 yy2 bb1 gg1 yy1) :
    Con l Z (⟨"com/example/libplanar/libplanar/SparseMatrixGaussSeidelPinLaw", "upd", "([DI[D[DJII)V"⟩ : MethodName) method_9_code 10 none ({ frames := 2, cells := 0, slots := 0, locals := 40 } : Room) h0 #[(.ref ay), (.int (1 : Int32)), (.ref ab), (.ref ag), (.long x4), (.int x6), (.int x7)] [d0, d1, d2, d3, (ab, DA Z [bb0, bb1, bb2]), d5, (ay, DA Z [yy0, yy1, yy2]), (ag, DA Z [gg0, gg1, gg2])] (fun v ds' => v = none ∧ [d0, d1, d2, d3, (ab, DA Z [bb0, bb1, bb2]), d5, (ay, DA Z [yy0, (own_upd (f_c x4 x6 x7 (3 : Int32)) (f_c x4 x6 x7 (4 : Int32)) (f_c x4 x6 x7 (5 : Int32)) yy0 yy1 yy2 bb1 gg1 yy1), yy2]), (ag, DA Z [gg0, gg1, gg2])] = ds') := by
  refine con_of (a0 := a0) (Ls := #[.val (.ref ay), .val (.int (1 : Int32)), .val (.ref ab), .val (.ref ag), .val (.long x4), .second, .val (.int x6), .val (.int x7), .unset, .unset]) (plainFor_of_name (by first | (simp [plainName, overriddenIn]; done) | decide +kernel)) hw (fun m => by first | (simp [entryFrame, mkF, argsToLocals, Value.category]; done) | rfl) ?_
  intro p e s m below meth c C
  refine g_aloadN C 1 d9_0 rfl rfl rfl ?_
  refine g_iloadN C 2 d9_1 rfl rfl ?_
  refine g_daload C 3 (i := 4) rfl d9_2 rfl (by decide) bb1 rfl ?_
  refine g_lload C 5 d9_3 rfl rfl ?_
  refine g_iload C 7 d9_5 rfl rfl ?_
  refine g_iload C 9 d9_7 rfl rfl ?_
  refine g_iconst C 10 (3 : Int32) d9_9 rfl rfl ?_
  refine g_iloadN C 11 d9_10 rfl rfl ?_
  refine g_imul C 12 d9_11 rfl ?_
  rw [show ((3 : Int32) * (1 : Int32)) = (3 : Int32) from by decide]
  refine g_static C 15 2 (argsL := [(.long x4), (.int x6), (.int x7), (.int (3 : Int32))]) (St := [(.double bb1)]) (con_f_c l Z a0 C.2.2.1 h0 [d0, d1, d2, d3, (ab, DA Z [bb0, bb1, bb2]), d5, (ay, DA Z [yy0, yy1, yy2]), (ag, DA Z [gg0, gg1, gg2])] x4 x6 x7 (3 : Int32)) (List.mem_of_getElem? (i := 46) rfl) (List.mem_of_getElem? (i := 47) rfl) (List.mem_of_getElem? (i := 4) rfl) (List.mem_of_getElem? (i := 48) rfl) (by decide) d9_12 rfl rfl (lenOf (ps := [.long, .int, .int, .int]) (r := some .double) (by decide) rfl) rfl (Nat.le_of_eq rfl) (by decide) (by decide) (by decide) (by decide) ?_
  rintro _ _ ⟨rfl, rfl⟩
  show Go _ _ _ _ _ _ _ _ _ _ _ _ [d0, d1, d2, d3, (ab, DA Z [bb0, bb1, bb2]), d5, (ay, DA Z [yy0, yy1, yy2]), (ag, DA Z [gg0, gg1, gg2])] 0 0 15 #[.val (.ref ay), .val (.int (1 : Int32)), .val (.ref ab), .val (.ref ag), .val (.long x4), .second, .val (.int x6), .val (.int x7), .unset, .unset] [(.double (f_c x4 x6 x7 (3 : Int32))), (.double bb1)]
  refine g_aloadN C 16 d9_15 rfl rfl rfl ?_
  refine g_iconst C 17 (0 : Int32) d9_16 rfl rfl ?_
  refine g_daload C 18 (i := 6) rfl d9_17 rfl (by decide) yy0 rfl ?_
  refine g_dmul C 19 d9_18 rfl hN.1 ?_
  refine g_lload C 21 d9_19 rfl rfl ?_
  refine g_iload C 23 d9_21 rfl rfl ?_
  refine g_iload C 25 d9_23 rfl rfl ?_
  refine g_iconst C 26 (3 : Int32) d9_25 rfl rfl ?_
  refine g_iloadN C 27 d9_26 rfl rfl ?_
  refine g_imul C 28 d9_27 rfl ?_
  rw [show ((3 : Int32) * (1 : Int32)) = (3 : Int32) from by decide]
  refine g_iconst C 29 (1 : Int32) d9_28 rfl rfl ?_
  refine g_iadd C 30 d9_29 rfl ?_
  rw [show ((3 : Int32) + (1 : Int32)) = (4 : Int32) from by decide]
  refine g_static C 33 4 (argsL := [(.long x4), (.int x6), (.int x7), (.int (4 : Int32))]) (St := [(.double (FP.dmul (f_c x4 x6 x7 (3 : Int32)) yy0)), (.double bb1)]) (con_f_c l Z a0 C.2.2.1 h0 [d0, d1, d2, d3, (ab, DA Z [bb0, bb1, bb2]), d5, (ay, DA Z [yy0, yy1, yy2]), (ag, DA Z [gg0, gg1, gg2])] x4 x6 x7 (4 : Int32)) (List.mem_of_getElem? (i := 46) rfl) (List.mem_of_getElem? (i := 47) rfl) (List.mem_of_getElem? (i := 4) rfl) (List.mem_of_getElem? (i := 48) rfl) (by decide) d9_30 rfl rfl (lenOf (ps := [.long, .int, .int, .int]) (r := some .double) (by decide) rfl) rfl (Nat.le_of_eq rfl) (by decide) (by decide) (by decide) (by decide) ?_
  rintro _ _ ⟨rfl, rfl⟩
  show Go _ _ _ _ _ _ _ _ _ _ _ _ [d0, d1, d2, d3, (ab, DA Z [bb0, bb1, bb2]), d5, (ay, DA Z [yy0, yy1, yy2]), (ag, DA Z [gg0, gg1, gg2])] 0 0 33 #[.val (.ref ay), .val (.int (1 : Int32)), .val (.ref ab), .val (.ref ag), .val (.long x4), .second, .val (.int x6), .val (.int x7), .unset, .unset] [(.double (f_c x4 x6 x7 (4 : Int32))), (.double (FP.dmul (f_c x4 x6 x7 (3 : Int32)) yy0)), (.double bb1)]
  refine g_aloadN C 34 d9_33 rfl rfl rfl ?_
  refine g_iconst C 35 (1 : Int32) d9_34 rfl rfl ?_
  refine g_daload C 36 (i := 6) rfl d9_35 rfl (by decide) yy1 rfl ?_
  refine g_dmul C 37 d9_36 rfl hN.2.1 ?_
  refine g_dadd C 38 d9_37 rfl hN.2.2.1 ?_
  refine g_lload C 40 d9_38 rfl rfl ?_
  refine g_iload C 42 d9_40 rfl rfl ?_
  refine g_iload C 44 d9_42 rfl rfl ?_
  refine g_iconst C 45 (3 : Int32) d9_44 rfl rfl ?_
  refine g_iloadN C 46 d9_45 rfl rfl ?_
  refine g_imul C 47 d9_46 rfl ?_
  rw [show ((3 : Int32) * (1 : Int32)) = (3 : Int32) from by decide]
  refine g_iconst C 48 (2 : Int32) d9_47 rfl rfl ?_
  refine g_iadd C 49 d9_48 rfl ?_
  rw [show ((3 : Int32) + (2 : Int32)) = (5 : Int32) from by decide]
  refine g_static C 52 4 (argsL := [(.long x4), (.int x6), (.int x7), (.int (5 : Int32))]) (St := [(.double (FP.dadd (FP.dmul (f_c x4 x6 x7 (3 : Int32)) yy0) (FP.dmul (f_c x4 x6 x7 (4 : Int32)) yy1))), (.double bb1)]) (con_f_c l Z a0 C.2.2.1 h0 [d0, d1, d2, d3, (ab, DA Z [bb0, bb1, bb2]), d5, (ay, DA Z [yy0, yy1, yy2]), (ag, DA Z [gg0, gg1, gg2])] x4 x6 x7 (5 : Int32)) (List.mem_of_getElem? (i := 46) rfl) (List.mem_of_getElem? (i := 47) rfl) (List.mem_of_getElem? (i := 4) rfl) (List.mem_of_getElem? (i := 48) rfl) (by decide) d9_49 rfl rfl (lenOf (ps := [.long, .int, .int, .int]) (r := some .double) (by decide) rfl) rfl (Nat.le_of_eq rfl) (by decide) (by decide) (by decide) (by decide) ?_
  rintro _ _ ⟨rfl, rfl⟩
  show Go _ _ _ _ _ _ _ _ _ _ _ _ [d0, d1, d2, d3, (ab, DA Z [bb0, bb1, bb2]), d5, (ay, DA Z [yy0, yy1, yy2]), (ag, DA Z [gg0, gg1, gg2])] 0 0 52 #[.val (.ref ay), .val (.int (1 : Int32)), .val (.ref ab), .val (.ref ag), .val (.long x4), .second, .val (.int x6), .val (.int x7), .unset, .unset] [(.double (f_c x4 x6 x7 (5 : Int32))), (.double (FP.dadd (FP.dmul (f_c x4 x6 x7 (3 : Int32)) yy0) (FP.dmul (f_c x4 x6 x7 (4 : Int32)) yy1))), (.double bb1)]
  refine g_aloadN C 53 d9_52 rfl rfl rfl ?_
  refine g_iconst C 54 (2 : Int32) d9_53 rfl rfl ?_
  refine g_daload C 55 (i := 6) rfl d9_54 rfl (by decide) yy2 rfl ?_
  refine g_dmul C 56 d9_55 rfl hN.2.2.2.1 ?_
  refine g_dadd C 57 d9_56 rfl hN.2.2.2.2.1 ?_
  refine g_dsub C 58 d9_57 rfl hN.2.2.2.2.2.1 ?_
  refine g_dstore C 60 #[.val (.ref ay), .val (.int (1 : Int32)), .val (.ref ab), .val (.ref ag), .val (.long x4), .second, .val (.int x6), .val (.int x7), .val (.double (FP.dsub bb1 (FP.dadd (FP.dadd (FP.dmul (f_c x4 x6 x7 (3 : Int32)) yy0) (FP.dmul (f_c x4 x6 x7 (4 : Int32)) yy1)) (FP.dmul (f_c x4 x6 x7 (5 : Int32)) yy2)))), .second] d9_58 rfl rfl ?_
  refine g_aloadN C 61 d9_60 rfl rfl rfl ?_
  refine g_iloadN C 62 d9_61 rfl rfl ?_
  refine g_aloadN C 63 d9_62 rfl rfl rfl ?_
  refine g_iloadN C 64 d9_63 rfl rfl ?_
  refine g_daload C 65 (i := 6) rfl d9_64 rfl (by decide) yy1 rfl ?_
  refine g_dload C 67 d9_65 rfl rfl ?_
  refine g_aloadN C 68 d9_67 rfl rfl rfl ?_
  refine g_iloadN C 69 d9_68 rfl rfl ?_
  refine g_daload C 70 (i := 7) rfl d9_69 rfl (by decide) gg1 rfl ?_
  refine g_ddiv C 71 d9_70 rfl hN.2.2.2.2.2.2.1 ?_
  refine g_dadd C 72 d9_71 rfl hN.2.2.2.2.2.2.2 ?_
  refine g_dastore C 73 (i := 6) [yy0, (FP.dadd yy1 (FP.ddiv (FP.dsub bb1 (FP.dadd (FP.dadd (FP.dmul (f_c x4 x6 x7 (3 : Int32)) yy0) (FP.dmul (f_c x4 x6 x7 (4 : Int32)) yy1)) (FP.dmul (f_c x4 x6 x7 (5 : Int32)) yy2))) gg1)), yy2] [d0, d1, d2, d3, (ab, DA Z [bb0, bb1, bb2]), d5, (ay, DA Z [yy0, (FP.dadd yy1 (FP.ddiv (FP.dsub bb1 (FP.dadd (FP.dadd (FP.dmul (f_c x4 x6 x7 (3 : Int32)) yy0) (FP.dmul (f_c x4 x6 x7 (4 : Int32)) yy1)) (FP.dmul (f_c x4 x6 x7 (5 : Int32)) yy2))) gg1)), yy2]), (ag, DA Z [gg0, gg1, gg2])] rfl d9_72 rfl (by decide) (Nat.le_of_ble_eq_true rfl) rfl rfl ?_
  exact g_ret C d9_73 (by decide) (by decide) ⟨rfl, rfl⟩
set_option maxRecDepth 65536 in
set_option maxHeartbeats 40000000 in
theorem con_upd2 (l : Launch) (Z : State) (a0 : Array Value) (hw : ∀ d ∈ tables_1, d.before a0 Z = true) (h0 : Heap) (d0 d1 d2 d3 d5 : Addr × Desc) (ab ay ag : Addr) (bb0 bb1 bb2 yy0 yy1 yy2 gg0 gg1 gg2 : UInt64) (x4 : Int64) (x6 x7 : Int32) (hN : own_updok (f_c x4 x6 x7 (6 : Int32)) (f_c x4 x6 x7 (7 : Int32)) (f_c x4 x6 x7 (8 : Int32)) yy0 yy1 yy2 bb2 gg2 yy2) :
    Con l Z (⟨"com/example/libplanar/libplanar/SparseMatrixGaussSeidelPinLaw", "upd", "([DI[D[DJII)V"⟩ : MethodName) method_9_code 10 none ({ frames := 2, cells := 0, slots := 0, locals := 40 } : Room) h0 #[(.ref ay), (.int (2 : Int32)), (.ref ab), (.ref ag), (.long x4), (.int x6), (.int x7)] [d0, d1, d2, d3, (ab, DA Z [bb0, bb1, bb2]), d5, (ay, DA Z [yy0, yy1, yy2]), (ag, DA Z [gg0, gg1, gg2])] (fun v ds' => v = none ∧ [d0, d1, d2, d3, (ab, DA Z [bb0, bb1, bb2]), d5, (ay, DA Z [yy0, yy1, (own_upd (f_c x4 x6 x7 (6 : Int32)) (f_c x4 x6 x7 (7 : Int32)) (f_c x4 x6 x7 (8 : Int32)) yy0 yy1 yy2 bb2 gg2 yy2)]), (ag, DA Z [gg0, gg1, gg2])] = ds') := by
  refine con_of (a0 := a0) (Ls := #[.val (.ref ay), .val (.int (2 : Int32)), .val (.ref ab), .val (.ref ag), .val (.long x4), .second, .val (.int x6), .val (.int x7), .unset, .unset]) (plainFor_of_name (by first | (simp [plainName, overriddenIn]; done) | decide +kernel)) hw (fun m => by first | (simp [entryFrame, mkF, argsToLocals, Value.category]; done) | rfl) ?_
  intro p e s m below meth c C
  refine g_aloadN C 1 d9_0 rfl rfl rfl ?_
  refine g_iloadN C 2 d9_1 rfl rfl ?_
  refine g_daload C 3 (i := 4) rfl d9_2 rfl (by decide) bb2 rfl ?_
  refine g_lload C 5 d9_3 rfl rfl ?_
  refine g_iload C 7 d9_5 rfl rfl ?_
  refine g_iload C 9 d9_7 rfl rfl ?_
  refine g_iconst C 10 (3 : Int32) d9_9 rfl rfl ?_
  refine g_iloadN C 11 d9_10 rfl rfl ?_
  refine g_imul C 12 d9_11 rfl ?_
  rw [show ((3 : Int32) * (2 : Int32)) = (6 : Int32) from by decide]
  refine g_static C 15 2 (argsL := [(.long x4), (.int x6), (.int x7), (.int (6 : Int32))]) (St := [(.double bb2)]) (con_f_c l Z a0 C.2.2.1 h0 [d0, d1, d2, d3, (ab, DA Z [bb0, bb1, bb2]), d5, (ay, DA Z [yy0, yy1, yy2]), (ag, DA Z [gg0, gg1, gg2])] x4 x6 x7 (6 : Int32)) (List.mem_of_getElem? (i := 46) rfl) (List.mem_of_getElem? (i := 47) rfl) (List.mem_of_getElem? (i := 4) rfl) (List.mem_of_getElem? (i := 48) rfl) (by decide) d9_12 rfl rfl (lenOf (ps := [.long, .int, .int, .int]) (r := some .double) (by decide) rfl) rfl (Nat.le_of_eq rfl) (by decide) (by decide) (by decide) (by decide) ?_
  rintro _ _ ⟨rfl, rfl⟩
  show Go _ _ _ _ _ _ _ _ _ _ _ _ [d0, d1, d2, d3, (ab, DA Z [bb0, bb1, bb2]), d5, (ay, DA Z [yy0, yy1, yy2]), (ag, DA Z [gg0, gg1, gg2])] 0 0 15 #[.val (.ref ay), .val (.int (2 : Int32)), .val (.ref ab), .val (.ref ag), .val (.long x4), .second, .val (.int x6), .val (.int x7), .unset, .unset] [(.double (f_c x4 x6 x7 (6 : Int32))), (.double bb2)]
  refine g_aloadN C 16 d9_15 rfl rfl rfl ?_
  refine g_iconst C 17 (0 : Int32) d9_16 rfl rfl ?_
  refine g_daload C 18 (i := 6) rfl d9_17 rfl (by decide) yy0 rfl ?_
  refine g_dmul C 19 d9_18 rfl hN.1 ?_
  refine g_lload C 21 d9_19 rfl rfl ?_
  refine g_iload C 23 d9_21 rfl rfl ?_
  refine g_iload C 25 d9_23 rfl rfl ?_
  refine g_iconst C 26 (3 : Int32) d9_25 rfl rfl ?_
  refine g_iloadN C 27 d9_26 rfl rfl ?_
  refine g_imul C 28 d9_27 rfl ?_
  rw [show ((3 : Int32) * (2 : Int32)) = (6 : Int32) from by decide]
  refine g_iconst C 29 (1 : Int32) d9_28 rfl rfl ?_
  refine g_iadd C 30 d9_29 rfl ?_
  rw [show ((6 : Int32) + (1 : Int32)) = (7 : Int32) from by decide]
  refine g_static C 33 4 (argsL := [(.long x4), (.int x6), (.int x7), (.int (7 : Int32))]) (St := [(.double (FP.dmul (f_c x4 x6 x7 (6 : Int32)) yy0)), (.double bb2)]) (con_f_c l Z a0 C.2.2.1 h0 [d0, d1, d2, d3, (ab, DA Z [bb0, bb1, bb2]), d5, (ay, DA Z [yy0, yy1, yy2]), (ag, DA Z [gg0, gg1, gg2])] x4 x6 x7 (7 : Int32)) (List.mem_of_getElem? (i := 46) rfl) (List.mem_of_getElem? (i := 47) rfl) (List.mem_of_getElem? (i := 4) rfl) (List.mem_of_getElem? (i := 48) rfl) (by decide) d9_30 rfl rfl (lenOf (ps := [.long, .int, .int, .int]) (r := some .double) (by decide) rfl) rfl (Nat.le_of_eq rfl) (by decide) (by decide) (by decide) (by decide) ?_
  rintro _ _ ⟨rfl, rfl⟩
  show Go _ _ _ _ _ _ _ _ _ _ _ _ [d0, d1, d2, d3, (ab, DA Z [bb0, bb1, bb2]), d5, (ay, DA Z [yy0, yy1, yy2]), (ag, DA Z [gg0, gg1, gg2])] 0 0 33 #[.val (.ref ay), .val (.int (2 : Int32)), .val (.ref ab), .val (.ref ag), .val (.long x4), .second, .val (.int x6), .val (.int x7), .unset, .unset] [(.double (f_c x4 x6 x7 (7 : Int32))), (.double (FP.dmul (f_c x4 x6 x7 (6 : Int32)) yy0)), (.double bb2)]
  refine g_aloadN C 34 d9_33 rfl rfl rfl ?_
  refine g_iconst C 35 (1 : Int32) d9_34 rfl rfl ?_
  refine g_daload C 36 (i := 6) rfl d9_35 rfl (by decide) yy1 rfl ?_
  refine g_dmul C 37 d9_36 rfl hN.2.1 ?_
  refine g_dadd C 38 d9_37 rfl hN.2.2.1 ?_
  refine g_lload C 40 d9_38 rfl rfl ?_
  refine g_iload C 42 d9_40 rfl rfl ?_
  refine g_iload C 44 d9_42 rfl rfl ?_
  refine g_iconst C 45 (3 : Int32) d9_44 rfl rfl ?_
  refine g_iloadN C 46 d9_45 rfl rfl ?_
  refine g_imul C 47 d9_46 rfl ?_
  rw [show ((3 : Int32) * (2 : Int32)) = (6 : Int32) from by decide]
  refine g_iconst C 48 (2 : Int32) d9_47 rfl rfl ?_
  refine g_iadd C 49 d9_48 rfl ?_
  rw [show ((6 : Int32) + (2 : Int32)) = (8 : Int32) from by decide]
  refine g_static C 52 4 (argsL := [(.long x4), (.int x6), (.int x7), (.int (8 : Int32))]) (St := [(.double (FP.dadd (FP.dmul (f_c x4 x6 x7 (6 : Int32)) yy0) (FP.dmul (f_c x4 x6 x7 (7 : Int32)) yy1))), (.double bb2)]) (con_f_c l Z a0 C.2.2.1 h0 [d0, d1, d2, d3, (ab, DA Z [bb0, bb1, bb2]), d5, (ay, DA Z [yy0, yy1, yy2]), (ag, DA Z [gg0, gg1, gg2])] x4 x6 x7 (8 : Int32)) (List.mem_of_getElem? (i := 46) rfl) (List.mem_of_getElem? (i := 47) rfl) (List.mem_of_getElem? (i := 4) rfl) (List.mem_of_getElem? (i := 48) rfl) (by decide) d9_49 rfl rfl (lenOf (ps := [.long, .int, .int, .int]) (r := some .double) (by decide) rfl) rfl (Nat.le_of_eq rfl) (by decide) (by decide) (by decide) (by decide) ?_
  rintro _ _ ⟨rfl, rfl⟩
  show Go _ _ _ _ _ _ _ _ _ _ _ _ [d0, d1, d2, d3, (ab, DA Z [bb0, bb1, bb2]), d5, (ay, DA Z [yy0, yy1, yy2]), (ag, DA Z [gg0, gg1, gg2])] 0 0 52 #[.val (.ref ay), .val (.int (2 : Int32)), .val (.ref ab), .val (.ref ag), .val (.long x4), .second, .val (.int x6), .val (.int x7), .unset, .unset] [(.double (f_c x4 x6 x7 (8 : Int32))), (.double (FP.dadd (FP.dmul (f_c x4 x6 x7 (6 : Int32)) yy0) (FP.dmul (f_c x4 x6 x7 (7 : Int32)) yy1))), (.double bb2)]
  refine g_aloadN C 53 d9_52 rfl rfl rfl ?_
  refine g_iconst C 54 (2 : Int32) d9_53 rfl rfl ?_
  refine g_daload C 55 (i := 6) rfl d9_54 rfl (by decide) yy2 rfl ?_
  refine g_dmul C 56 d9_55 rfl hN.2.2.2.1 ?_
  refine g_dadd C 57 d9_56 rfl hN.2.2.2.2.1 ?_
  refine g_dsub C 58 d9_57 rfl hN.2.2.2.2.2.1 ?_
  refine g_dstore C 60 #[.val (.ref ay), .val (.int (2 : Int32)), .val (.ref ab), .val (.ref ag), .val (.long x4), .second, .val (.int x6), .val (.int x7), .val (.double (FP.dsub bb2 (FP.dadd (FP.dadd (FP.dmul (f_c x4 x6 x7 (6 : Int32)) yy0) (FP.dmul (f_c x4 x6 x7 (7 : Int32)) yy1)) (FP.dmul (f_c x4 x6 x7 (8 : Int32)) yy2)))), .second] d9_58 rfl rfl ?_
  refine g_aloadN C 61 d9_60 rfl rfl rfl ?_
  refine g_iloadN C 62 d9_61 rfl rfl ?_
  refine g_aloadN C 63 d9_62 rfl rfl rfl ?_
  refine g_iloadN C 64 d9_63 rfl rfl ?_
  refine g_daload C 65 (i := 6) rfl d9_64 rfl (by decide) yy2 rfl ?_
  refine g_dload C 67 d9_65 rfl rfl ?_
  refine g_aloadN C 68 d9_67 rfl rfl rfl ?_
  refine g_iloadN C 69 d9_68 rfl rfl ?_
  refine g_daload C 70 (i := 7) rfl d9_69 rfl (by decide) gg2 rfl ?_
  refine g_ddiv C 71 d9_70 rfl hN.2.2.2.2.2.2.1 ?_
  refine g_dadd C 72 d9_71 rfl hN.2.2.2.2.2.2.2 ?_
  refine g_dastore C 73 (i := 6) [yy0, yy1, (FP.dadd yy2 (FP.ddiv (FP.dsub bb2 (FP.dadd (FP.dadd (FP.dmul (f_c x4 x6 x7 (6 : Int32)) yy0) (FP.dmul (f_c x4 x6 x7 (7 : Int32)) yy1)) (FP.dmul (f_c x4 x6 x7 (8 : Int32)) yy2))) gg2))] [d0, d1, d2, d3, (ab, DA Z [bb0, bb1, bb2]), d5, (ay, DA Z [yy0, yy1, (FP.dadd yy2 (FP.ddiv (FP.dsub bb2 (FP.dadd (FP.dadd (FP.dmul (f_c x4 x6 x7 (6 : Int32)) yy0) (FP.dmul (f_c x4 x6 x7 (7 : Int32)) yy1)) (FP.dmul (f_c x4 x6 x7 (8 : Int32)) yy2))) gg2))]), (ag, DA Z [gg0, gg1, gg2])] rfl d9_72 rfl (by decide) (Nat.le_of_ble_eq_true rfl) rfl rfl ?_
  exact g_ret C d9_73 (by decide) (by decide) ⟨rfl, rfl⟩
theorem d8_0 : decode prog_91_method_15_code 0 = .ok (.iconst 0, 1) := by decide +kernel
theorem d8_1 : decode prog_91_method_15_code 1 = .ok (.istore 5, 2) := by decide +kernel
theorem d8_3 : decode prog_91_method_15_code 3 = .ok (.iload 5, 2) := by decide +kernel
theorem d8_5 : decode prog_91_method_15_code 5 = .ok (.aload_n 0, 1) := by decide +kernel
theorem d8_6 : decode prog_91_method_15_code 6 = .ok (.getfield 7, 3) := by decide +kernel
theorem d8_9 : decode prog_91_method_15_code 9 = .ok (.if_icmp .ge 101, 3) := by decide +kernel
theorem d8_12 : decode prog_91_method_15_code 12 = .ok (.iload 4, 2) := by decide +kernel
theorem d8_14 : decode prog_91_method_15_code 14 = .ok (.ifCond .eq 8, 3) := by decide +kernel
theorem d8_17 : decode prog_91_method_15_code 17 = .ok (.iload 5, 2) := by decide +kernel
theorem d8_19 : decode prog_91_method_15_code 19 = .ok (.goto 12, 3) := by decide +kernel
theorem d8_22 : decode prog_91_method_15_code 22 = .ok (.aload_n 0, 1) := by decide +kernel
theorem d8_23 : decode prog_91_method_15_code 23 = .ok (.getfield 7, 3) := by decide +kernel
theorem d8_26 : decode prog_91_method_15_code 26 = .ok (.iconst 1, 1) := by decide +kernel
theorem d8_27 : decode prog_91_method_15_code 27 = .ok (.isub, 1) := by decide +kernel
theorem d8_28 : decode prog_91_method_15_code 28 = .ok (.iload 5, 2) := by decide +kernel
theorem d8_30 : decode prog_91_method_15_code 30 = .ok (.isub, 1) := by decide +kernel
theorem d8_31 : decode prog_91_method_15_code 31 = .ok (.istore 6, 2) := by decide +kernel
theorem d8_33 : decode prog_91_method_15_code 33 = .ok (.aload_n 2, 1) := by decide +kernel
theorem d8_34 : decode prog_91_method_15_code 34 = .ok (.iload 6, 2) := by decide +kernel
theorem d8_36 : decode prog_91_method_15_code 36 = .ok (.daload, 1) := by decide +kernel
theorem d8_37 : decode prog_91_method_15_code 37 = .ok (.dstore 7, 2) := by decide +kernel
theorem d8_39 : decode prog_91_method_15_code 39 = .ok (.aload_n 0, 1) := by decide +kernel
theorem d8_40 : decode prog_91_method_15_code 40 = .ok (.getfield 16, 3) := by decide +kernel
theorem d8_43 : decode prog_91_method_15_code 43 = .ok (.iload 6, 2) := by decide +kernel
theorem d8_45 : decode prog_91_method_15_code 45 = .ok (.iaload, 1) := by decide +kernel
theorem d8_46 : decode prog_91_method_15_code 46 = .ok (.istore 9, 2) := by decide +kernel
theorem d8_48 : decode prog_91_method_15_code 48 = .ok (.iload 9, 2) := by decide +kernel
theorem d8_50 : decode prog_91_method_15_code 50 = .ok (.aload_n 0, 1) := by decide +kernel
theorem d8_51 : decode prog_91_method_15_code 51 = .ok (.getfield 16, 3) := by decide +kernel
theorem d8_54 : decode prog_91_method_15_code 54 = .ok (.iload 6, 2) := by decide +kernel
theorem d8_56 : decode prog_91_method_15_code 56 = .ok (.iconst 1, 1) := by decide +kernel
theorem d8_57 : decode prog_91_method_15_code 57 = .ok (.iadd, 1) := by decide +kernel
theorem d8_58 : decode prog_91_method_15_code 58 = .ok (.iaload, 1) := by decide +kernel
theorem d8_59 : decode prog_91_method_15_code 59 = .ok (.if_icmp .ge 31, 3) := by decide +kernel
theorem d8_62 : decode prog_91_method_15_code 62 = .ok (.dload 7, 2) := by decide +kernel
theorem d8_64 : decode prog_91_method_15_code 64 = .ok (.aload_n 0, 1) := by decide +kernel
theorem d8_65 : decode prog_91_method_15_code 65 = .ok (.getfield 23, 3) := by decide +kernel
theorem d8_68 : decode prog_91_method_15_code 68 = .ok (.iload 9, 2) := by decide +kernel
theorem d8_70 : decode prog_91_method_15_code 70 = .ok (.daload, 1) := by decide +kernel
theorem d8_71 : decode prog_91_method_15_code 71 = .ok (.aload_n 3, 1) := by decide +kernel
theorem d8_72 : decode prog_91_method_15_code 72 = .ok (.aload_n 0, 1) := by decide +kernel
theorem d8_73 : decode prog_91_method_15_code 73 = .ok (.getfield 20, 3) := by decide +kernel
theorem d8_76 : decode prog_91_method_15_code 76 = .ok (.iload 9, 2) := by decide +kernel
theorem d8_78 : decode prog_91_method_15_code 78 = .ok (.iaload, 1) := by decide +kernel
theorem d8_79 : decode prog_91_method_15_code 79 = .ok (.daload, 1) := by decide +kernel
theorem d8_80 : decode prog_91_method_15_code 80 = .ok (.dmul, 1) := by decide +kernel
theorem d8_81 : decode prog_91_method_15_code 81 = .ok (.dsub, 1) := by decide +kernel
theorem d8_82 : decode prog_91_method_15_code 82 = .ok (.dstore 7, 2) := by decide +kernel
theorem d8_84 : decode prog_91_method_15_code 84 = .ok (.iinc 9 1, 3) := by decide +kernel
theorem d8_87 : decode prog_91_method_15_code 87 = .ok (.goto (-39), 3) := by decide +kernel
theorem d8_90 : decode prog_91_method_15_code 90 = .ok (.aload_n 3, 1) := by decide +kernel
theorem d8_91 : decode prog_91_method_15_code 91 = .ok (.iload 6, 2) := by decide +kernel
theorem d8_93 : decode prog_91_method_15_code 93 = .ok (.dup2, 1) := by decide +kernel
theorem d8_94 : decode prog_91_method_15_code 94 = .ok (.daload, 1) := by decide +kernel
theorem d8_95 : decode prog_91_method_15_code 95 = .ok (.dload 7, 2) := by decide +kernel
theorem d8_97 : decode prog_91_method_15_code 97 = .ok (.aload_n 1, 1) := by decide +kernel
theorem d8_98 : decode prog_91_method_15_code 98 = .ok (.iload 6, 2) := by decide +kernel
theorem d8_100 : decode prog_91_method_15_code 100 = .ok (.daload, 1) := by decide +kernel
theorem d8_101 : decode prog_91_method_15_code 101 = .ok (.ddiv, 1) := by decide +kernel
theorem d8_102 : decode prog_91_method_15_code 102 = .ok (.dadd, 1) := by decide +kernel
theorem d8_103 : decode prog_91_method_15_code 103 = .ok (.dastore, 1) := by decide +kernel
theorem d8_104 : decode prog_91_method_15_code 104 = .ok (.iinc 5 1, 3) := by decide +kernel
theorem d8_107 : decode prog_91_method_15_code 107 = .ok (.goto (-104), 3) := by decide +kernel
theorem d8_110 : decode prog_91_method_15_code 110 = .ok (.return_, 1) := by decide +kernel
set_option maxRecDepth 65536 in
set_option maxHeartbeats 40000000 in
theorem con_gs00 (l : Launch) (Z : State) (a0 : Array Value) (hw : ∀ d ∈ tables_1, d.before a0 Z = true) (h0 : Heap) (kc kv ks p1 ab ax ag : Addr) (d6 : Addr × Desc) (R0 R1 R2 : List Ent) (bb0 bb1 bb2 xx0 xx1 xx2 gg0 gg1 gg2 : UInt64) (hP : (R0 ++ R1 ++ R2).length ≤ 9) :
    Con l Z (⟨"com/example/libplanar/libplanar/SparseMatrix", "gaussSeidel", "([D[D[DZ)V"⟩ : MethodName) prog_91_method_15_code 10 none ({ frames := 0, cells := 0, slots := 0, locals := 0 } : Room) h0 #[(.ref p1), (.ref ag), (.ref ab), (.ref ax), (.int (0 : Int32))] [(kc, IA Z .int (ints (own_c (R0 ++ R1 ++ R2)))), (kv, DA Z (own_v (R0 ++ R1 ++ R2))), (ks, IA Z .int (ints [(0 : Int32), (Int32.ofNat R0.length), (Int32.ofNat (R0 ++ R1).length), (Int32.ofNat (R0 ++ R1 ++ R2).length)])), (p1, OB Z a0 "com/example/libplanar/libplanar/SparseMatrix" [("com/example/libplanar/libplanar/SparseMatrix", "rows", "I", (.int (0 : Int32))), ("com/example/libplanar/libplanar/SparseMatrix", "columnCount", "I", (.int (0 : Int32))), ("com/example/libplanar/libplanar/SparseMatrix", "rowStart", "[I", (.ref ks)), ("com/example/libplanar/libplanar/SparseMatrix", "columns", "[I", (.ref kc)), ("com/example/libplanar/libplanar/SparseMatrix", "values", "[D", (.ref kv))]), (ab, DA Z [bb0, bb1, bb2]), (ax, DA Z [xx0, xx1, xx2]), d6, (ag, DA Z [gg0, gg1, gg2])] (fun v ds' => v = none ∧ [(kc, IA Z .int (ints (own_c (R0 ++ R1 ++ R2)))), (kv, DA Z (own_v (R0 ++ R1 ++ R2))), (ks, IA Z .int (ints [(0 : Int32), (Int32.ofNat R0.length), (Int32.ofNat (R0 ++ R1).length), (Int32.ofNat (R0 ++ R1 ++ R2).length)])), (p1, OB Z a0 "com/example/libplanar/libplanar/SparseMatrix" [("com/example/libplanar/libplanar/SparseMatrix", "rows", "I", (.int (0 : Int32))), ("com/example/libplanar/libplanar/SparseMatrix", "columnCount", "I", (.int (0 : Int32))), ("com/example/libplanar/libplanar/SparseMatrix", "rowStart", "[I", (.ref ks)), ("com/example/libplanar/libplanar/SparseMatrix", "columns", "[I", (.ref kc)), ("com/example/libplanar/libplanar/SparseMatrix", "values", "[D", (.ref kv))]), (ab, DA Z [bb0, bb1, bb2]), (ax, DA Z [xx0, xx1, xx2]), d6, (ag, DA Z [gg0, gg1, gg2])] = ds') := by
  refine con_of (a0 := a0) (Ls := #[.val (.ref p1), .val (.ref ag), .val (.ref ab), .val (.ref ax), .val (.int (0 : Int32)), .unset, .unset, .unset, .unset, .unset]) (plainFor_of_name (by first | (simp [plainName, overriddenIn]; done) | decide +kernel)) hw (fun m => by first | (simp [entryFrame, mkF, argsToLocals, Value.category]; done) | rfl) ?_
  intro p e s m below meth c C
  refine g_iconst C 1 (0 : Int32) d8_0 rfl rfl ?_
  refine g_istore C 3 #[.val (.ref p1), .val (.ref ag), .val (.ref ab), .val (.ref ax), .val (.int (0 : Int32)), .val (.int (0 : Int32)), .unset, .unset, .unset, .unset] d8_1 rfl rfl ?_
  refine g_iload C 5 d8_3 rfl rfl ?_
  refine g_aloadN C 6 d8_5 rfl rfl rfl ?_
  refine g_getfield C 9 (i := 3) (j := 0) rfl rfl d8_6 rfl (List.mem_of_getElem? (i := 22) rfl) ?_
  refine g_icY C 110 d8_9 (flt ((by decide) : ¬ ((0 : Int32) < (0 : Int32)))).2.1 (by decide) (by decide) ?_
  exact g_ret C d8_110 (by decide) (by decide) ⟨rfl, rfl⟩
set_option maxRecDepth 65536 in
set_option maxHeartbeats 40000000 in
theorem con_gs01 (l : Launch) (Z : State) (a0 : Array Value) (hw : ∀ d ∈ tables_1, d.before a0 Z = true) (h0 : Heap) (kc kv ks p1 ab ax ag : Addr) (d6 : Addr × Desc) (R0 R1 R2 : List Ent) (bb0 bb1 bb2 xx0 xx1 xx2 gg0 gg1 gg2 : UInt64) (hP : (R0 ++ R1 ++ R2).length ≤ 9) :
    Con l Z (⟨"com/example/libplanar/libplanar/SparseMatrix", "gaussSeidel", "([D[D[DZ)V"⟩ : MethodName) prog_91_method_15_code 10 none ({ frames := 0, cells := 0, slots := 0, locals := 0 } : Room) h0 #[(.ref p1), (.ref ag), (.ref ab), (.ref ax), (.int (1 : Int32))] [(kc, IA Z .int (ints (own_c (R0 ++ R1 ++ R2)))), (kv, DA Z (own_v (R0 ++ R1 ++ R2))), (ks, IA Z .int (ints [(0 : Int32), (Int32.ofNat R0.length), (Int32.ofNat (R0 ++ R1).length), (Int32.ofNat (R0 ++ R1 ++ R2).length)])), (p1, OB Z a0 "com/example/libplanar/libplanar/SparseMatrix" [("com/example/libplanar/libplanar/SparseMatrix", "rows", "I", (.int (0 : Int32))), ("com/example/libplanar/libplanar/SparseMatrix", "columnCount", "I", (.int (0 : Int32))), ("com/example/libplanar/libplanar/SparseMatrix", "rowStart", "[I", (.ref ks)), ("com/example/libplanar/libplanar/SparseMatrix", "columns", "[I", (.ref kc)), ("com/example/libplanar/libplanar/SparseMatrix", "values", "[D", (.ref kv))]), (ab, DA Z [bb0, bb1, bb2]), (ax, DA Z [xx0, xx1, xx2]), d6, (ag, DA Z [gg0, gg1, gg2])] (fun v ds' => v = none ∧ [(kc, IA Z .int (ints (own_c (R0 ++ R1 ++ R2)))), (kv, DA Z (own_v (R0 ++ R1 ++ R2))), (ks, IA Z .int (ints [(0 : Int32), (Int32.ofNat R0.length), (Int32.ofNat (R0 ++ R1).length), (Int32.ofNat (R0 ++ R1 ++ R2).length)])), (p1, OB Z a0 "com/example/libplanar/libplanar/SparseMatrix" [("com/example/libplanar/libplanar/SparseMatrix", "rows", "I", (.int (0 : Int32))), ("com/example/libplanar/libplanar/SparseMatrix", "columnCount", "I", (.int (0 : Int32))), ("com/example/libplanar/libplanar/SparseMatrix", "rowStart", "[I", (.ref ks)), ("com/example/libplanar/libplanar/SparseMatrix", "columns", "[I", (.ref kc)), ("com/example/libplanar/libplanar/SparseMatrix", "values", "[D", (.ref kv))]), (ab, DA Z [bb0, bb1, bb2]), (ax, DA Z [xx0, xx1, xx2]), d6, (ag, DA Z [gg0, gg1, gg2])] = ds') := by
  refine con_of (a0 := a0) (Ls := #[.val (.ref p1), .val (.ref ag), .val (.ref ab), .val (.ref ax), .val (.int (1 : Int32)), .unset, .unset, .unset, .unset, .unset]) (plainFor_of_name (by first | (simp [plainName, overriddenIn]; done) | decide +kernel)) hw (fun m => by first | (simp [entryFrame, mkF, argsToLocals, Value.category]; done) | rfl) ?_
  intro p e s m below meth c C
  refine g_iconst C 1 (0 : Int32) d8_0 rfl rfl ?_
  refine g_istore C 3 #[.val (.ref p1), .val (.ref ag), .val (.ref ab), .val (.ref ax), .val (.int (1 : Int32)), .val (.int (0 : Int32)), .unset, .unset, .unset, .unset] d8_1 rfl rfl ?_
  refine g_iload C 5 d8_3 rfl rfl ?_
  refine g_aloadN C 6 d8_5 rfl rfl rfl ?_
  refine g_getfield C 9 (i := 3) (j := 0) rfl rfl d8_6 rfl (List.mem_of_getElem? (i := 22) rfl) ?_
  refine g_icY C 110 d8_9 (flt ((by decide) : ¬ ((0 : Int32) < (0 : Int32)))).2.1 (by decide) (by decide) ?_
  exact g_ret C d8_110 (by decide) (by decide) ⟨rfl, rfl⟩
set_option maxRecDepth 65536 in
set_option maxHeartbeats 40000000 in
theorem con_gs10 (l : Launch) (Z : State) (a0 : Array Value) (hw : ∀ d ∈ tables_1, d.before a0 Z = true) (h0 : Heap) (kc kv ks p1 ab ax ag : Addr) (d6 : Addr × Desc) (R0 R1 R2 : List Ent) (bb0 bb1 bb2 xx0 xx1 xx2 gg0 gg1 gg2 : UInt64) (zz0 : UInt64) (hP : (R0 ++ R1 ++ R2).length ≤ 9) (hA0 : own_accok [xx0, xx1, xx2] bb0 R0) (hD0 : Jvm.Free.Fl.NoNaN64 (FP.ddiv (own_acc [xx0, xx1, xx2] bb0 R0) gg0)) (hS0 : Jvm.Free.Fl.NoNaN64 (FP.dadd xx0 (FP.ddiv (own_acc [xx0, xx1, xx2] bb0 R0) gg0))) (hz0 : (FP.dadd xx0 (FP.ddiv (own_acc [xx0, xx1, xx2] bb0 R0) gg0)) = zz0) :
    Con l Z (⟨"com/example/libplanar/libplanar/SparseMatrix", "gaussSeidel", "([D[D[DZ)V"⟩ : MethodName) prog_91_method_15_code 10 none ({ frames := 0, cells := 0, slots := 0, locals := 0 } : Room) h0 #[(.ref p1), (.ref ag), (.ref ab), (.ref ax), (.int (0 : Int32))] [(kc, IA Z .int (ints (own_c (R0 ++ R1 ++ R2)))), (kv, DA Z (own_v (R0 ++ R1 ++ R2))), (ks, IA Z .int (ints [(0 : Int32), (Int32.ofNat R0.length), (Int32.ofNat (R0 ++ R1).length), (Int32.ofNat (R0 ++ R1 ++ R2).length)])), (p1, OB Z a0 "com/example/libplanar/libplanar/SparseMatrix" [("com/example/libplanar/libplanar/SparseMatrix", "rows", "I", (.int (1 : Int32))), ("com/example/libplanar/libplanar/SparseMatrix", "columnCount", "I", (.int (1 : Int32))), ("com/example/libplanar/libplanar/SparseMatrix", "rowStart", "[I", (.ref ks)), ("com/example/libplanar/libplanar/SparseMatrix", "columns", "[I", (.ref kc)), ("com/example/libplanar/libplanar/SparseMatrix", "values", "[D", (.ref kv))]), (ab, DA Z [bb0, bb1, bb2]), (ax, DA Z [xx0, xx1, xx2]), d6, (ag, DA Z [gg0, gg1, gg2])] (fun v ds' => v = none ∧ [(kc, IA Z .int (ints (own_c (R0 ++ R1 ++ R2)))), (kv, DA Z (own_v (R0 ++ R1 ++ R2))), (ks, IA Z .int (ints [(0 : Int32), (Int32.ofNat R0.length), (Int32.ofNat (R0 ++ R1).length), (Int32.ofNat (R0 ++ R1 ++ R2).length)])), (p1, OB Z a0 "com/example/libplanar/libplanar/SparseMatrix" [("com/example/libplanar/libplanar/SparseMatrix", "rows", "I", (.int (1 : Int32))), ("com/example/libplanar/libplanar/SparseMatrix", "columnCount", "I", (.int (1 : Int32))), ("com/example/libplanar/libplanar/SparseMatrix", "rowStart", "[I", (.ref ks)), ("com/example/libplanar/libplanar/SparseMatrix", "columns", "[I", (.ref kc)), ("com/example/libplanar/libplanar/SparseMatrix", "values", "[D", (.ref kv))]), (ab, DA Z [bb0, bb1, bb2]), (ax, DA Z [zz0, xx1, xx2]), d6, (ag, DA Z [gg0, gg1, gg2])] = ds') := by
  refine con_of (a0 := a0) (Ls := #[.val (.ref p1), .val (.ref ag), .val (.ref ab), .val (.ref ax), .val (.int (0 : Int32)), .unset, .unset, .unset, .unset, .unset]) (plainFor_of_name (by first | (simp [plainName, overriddenIn]; done) | decide +kernel)) hw (fun m => by first | (simp [entryFrame, mkF, argsToLocals, Value.category]; done) | rfl) ?_
  intro p e s m below meth c C
  refine g_iconst C 1 (0 : Int32) d8_0 rfl rfl ?_
  refine g_istore C 3 #[.val (.ref p1), .val (.ref ag), .val (.ref ab), .val (.ref ax), .val (.int (0 : Int32)), .val (.int (0 : Int32)), .unset, .unset, .unset, .unset] d8_1 rfl rfl ?_
  refine g_iload C 5 d8_3 rfl rfl ?_
  refine g_aloadN C 6 d8_5 rfl rfl rfl ?_
  refine g_getfield C 9 (i := 3) (j := 0) rfl rfl d8_6 rfl (List.mem_of_getElem? (i := 22) rfl) ?_
  refine g_icN C 12 d8_9 (tlt ((by decide) : (0 : Int32) < (1 : Int32))).2.1 rfl ?_
  refine g_iload C 14 d8_12 rfl rfl ?_
  refine g_ifY C 22 d8_14 (teq ((by decide) : (0 : Int32) = (0 : Int32))).1 (by decide) (by decide) ?_
  refine g_aloadN C 23 d8_22 rfl rfl rfl ?_
  refine g_getfield C 26 (i := 3) (j := 0) rfl rfl d8_23 rfl (List.mem_of_getElem? (i := 22) rfl) ?_
  refine g_iconst C 27 (1 : Int32) d8_26 rfl rfl ?_
  refine g_isub C 28 d8_27 rfl ?_
  rw [show ((1 : Int32) - (1 : Int32)) = (0 : Int32) from by decide]
  refine g_iload C 30 d8_28 rfl rfl ?_
  refine g_isub C 31 d8_30 rfl ?_
  rw [show ((0 : Int32) - (0 : Int32)) = (0 : Int32) from by decide]
  refine g_istore C 33 #[.val (.ref p1), .val (.ref ag), .val (.ref ab), .val (.ref ax), .val (.int (0 : Int32)), .val (.int (0 : Int32)), .val (.int (0 : Int32)), .unset, .unset, .unset] d8_31 rfl rfl ?_
  refine g_aloadN C 34 d8_33 rfl rfl rfl ?_
  refine g_iload C 36 d8_34 rfl rfl ?_
  refine g_daload C 37 (i := 4) rfl d8_36 rfl (by decide) bb0 rfl ?_
  refine g_dstore C 39 #[.val (.ref p1), .val (.ref ag), .val (.ref ab), .val (.ref ax), .val (.int (0 : Int32)), .val (.int (0 : Int32)), .val (.int (0 : Int32)), .val (.double bb0), .second, .unset] d8_37 rfl rfl ?_
  refine g_aloadN C 40 d8_39 rfl rfl rfl ?_
  refine g_getfield C 43 (i := 3) (j := 2) rfl rfl d8_40 rfl (List.mem_of_getElem? (i := 26) rfl) ?_
  refine g_iload C 45 d8_43 rfl rfl ?_
  refine g_iaload C 46 (i := 2) rfl d8_45 rfl (by decide) (0 : Int32) rfl ?_
  refine g_istore C 48 #[.val (.ref p1), .val (.ref ag), .val (.ref ab), .val (.ref ax), .val (.int (0 : Int32)), .val (.int (0 : Int32)), .val (.int (0 : Int32)), .val (.double bb0), .second, .val (.int (0 : Int32))] d8_46 rfl rfl ?_
  have H0 : ∀ (L pre : List Ent) (sd : UInt64), (R0 ++ R1 ++ R2) = pre ++ (L ++ (R1 ++ R2)) → (Int32.ofNat R0.length) = Int32.ofNat (pre.length + L.length) → own_accok [xx0, xx1, xx2] sd L → (∀ k : Int32, Go p l e ({ frames := 0, cells := 0, slots := 0, locals := 0 } : Room) s m #[(.ref p1), (.ref ag), (.ref ab), (.ref ax), (.int (0 : Int32))] below meth c h0 (fun v ds' => v = none ∧ [(kc, IA Z .int (ints (own_c (R0 ++ R1 ++ R2)))), (kv, DA Z (own_v (R0 ++ R1 ++ R2))), (ks, IA Z .int (ints [(0 : Int32), (Int32.ofNat R0.length), (Int32.ofNat (R0 ++ R1).length), (Int32.ofNat (R0 ++ R1 ++ R2).length)])), (p1, OB Z a0 "com/example/libplanar/libplanar/SparseMatrix" [("com/example/libplanar/libplanar/SparseMatrix", "rows", "I", (.int (1 : Int32))), ("com/example/libplanar/libplanar/SparseMatrix", "columnCount", "I", (.int (1 : Int32))), ("com/example/libplanar/libplanar/SparseMatrix", "rowStart", "[I", (.ref ks)), ("com/example/libplanar/libplanar/SparseMatrix", "columns", "[I", (.ref kc)), ("com/example/libplanar/libplanar/SparseMatrix", "values", "[D", (.ref kv))]), (ab, DA Z [bb0, bb1, bb2]), (ax, DA Z [zz0, xx1, xx2]), d6, (ag, DA Z [gg0, gg1, gg2])] = ds') [(kc, IA Z .int (ints (own_c (R0 ++ R1 ++ R2)))), (kv, DA Z (own_v (R0 ++ R1 ++ R2))), (ks, IA Z .int (ints [(0 : Int32), (Int32.ofNat R0.length), (Int32.ofNat (R0 ++ R1).length), (Int32.ofNat (R0 ++ R1 ++ R2).length)])), (p1, OB Z a0 "com/example/libplanar/libplanar/SparseMatrix" [("com/example/libplanar/libplanar/SparseMatrix", "rows", "I", (.int (1 : Int32))), ("com/example/libplanar/libplanar/SparseMatrix", "columnCount", "I", (.int (1 : Int32))), ("com/example/libplanar/libplanar/SparseMatrix", "rowStart", "[I", (.ref ks)), ("com/example/libplanar/libplanar/SparseMatrix", "columns", "[I", (.ref kc)), ("com/example/libplanar/libplanar/SparseMatrix", "values", "[D", (.ref kv))]), (ab, DA Z [bb0, bb1, bb2]), (ax, DA Z [xx0, xx1, xx2]), d6, (ag, DA Z [gg0, gg1, gg2])] 0 0 90 #[.val (.ref p1), .val (.ref ag), .val (.ref ab), .val (.ref ax), .val (.int (0 : Int32)), .val (.int (0 : Int32)), .val (.int (0 : Int32)), .val (.double (own_acc [xx0, xx1, xx2] sd L)), .second, .val (.int k)] []) → Go p l e ({ frames := 0, cells := 0, slots := 0, locals := 0 } : Room) s m #[(.ref p1), (.ref ag), (.ref ab), (.ref ax), (.int (0 : Int32))] below meth c h0 (fun v ds' => v = none ∧ [(kc, IA Z .int (ints (own_c (R0 ++ R1 ++ R2)))), (kv, DA Z (own_v (R0 ++ R1 ++ R2))), (ks, IA Z .int (ints [(0 : Int32), (Int32.ofNat R0.length), (Int32.ofNat (R0 ++ R1).length), (Int32.ofNat (R0 ++ R1 ++ R2).length)])), (p1, OB Z a0 "com/example/libplanar/libplanar/SparseMatrix" [("com/example/libplanar/libplanar/SparseMatrix", "rows", "I", (.int (1 : Int32))), ("com/example/libplanar/libplanar/SparseMatrix", "columnCount", "I", (.int (1 : Int32))), ("com/example/libplanar/libplanar/SparseMatrix", "rowStart", "[I", (.ref ks)), ("com/example/libplanar/libplanar/SparseMatrix", "columns", "[I", (.ref kc)), ("com/example/libplanar/libplanar/SparseMatrix", "values", "[D", (.ref kv))]), (ab, DA Z [bb0, bb1, bb2]), (ax, DA Z [zz0, xx1, xx2]), d6, (ag, DA Z [gg0, gg1, gg2])] = ds') [(kc, IA Z .int (ints (own_c (R0 ++ R1 ++ R2)))), (kv, DA Z (own_v (R0 ++ R1 ++ R2))), (ks, IA Z .int (ints [(0 : Int32), (Int32.ofNat R0.length), (Int32.ofNat (R0 ++ R1).length), (Int32.ofNat (R0 ++ R1 ++ R2).length)])), (p1, OB Z a0 "com/example/libplanar/libplanar/SparseMatrix" [("com/example/libplanar/libplanar/SparseMatrix", "rows", "I", (.int (1 : Int32))), ("com/example/libplanar/libplanar/SparseMatrix", "columnCount", "I", (.int (1 : Int32))), ("com/example/libplanar/libplanar/SparseMatrix", "rowStart", "[I", (.ref ks)), ("com/example/libplanar/libplanar/SparseMatrix", "columns", "[I", (.ref kc)), ("com/example/libplanar/libplanar/SparseMatrix", "values", "[D", (.ref kv))]), (ab, DA Z [bb0, bb1, bb2]), (ax, DA Z [xx0, xx1, xx2]), d6, (ag, DA Z [gg0, gg1, gg2])] 0 0 48 #[.val (.ref p1), .val (.ref ag), .val (.ref ab), .val (.ref ax), .val (.int (0 : Int32)), .val (.int (0 : Int32)), .val (.int (0 : Int32)), .val (.double sd), .second, .val (.int (Int32.ofNat pre.length))] [] := by
    intro L
    induction L with
    | nil =>
      intro pre sd hpre hE hok K
      refine g_iload C 50 d8_48 rfl rfl ?_
      refine g_aloadN C 51 d8_50 rfl rfl rfl ?_
      refine g_getfield C 54 (i := 3) (j := 2) rfl rfl d8_51 rfl (List.mem_of_getElem? (i := 26) rfl) ?_
      refine g_iload C 56 d8_54 rfl rfl ?_
      refine g_iconst C 57 (1 : Int32) d8_56 rfl rfl ?_
      refine g_iadd C 58 d8_57 rfl ?_
      rw [show ((0 : Int32) + (1 : Int32)) = (1 : Int32) from by decide]
      refine g_iaload C 59 (i := 2) rfl d8_58 rfl (by decide) (Int32.ofNat R0.length) rfl ?_
      refine g_icY C 90 d8_59 (flt ((by rw [hE]; exact fun q => Nat.lt_irrefl _ ((own_lt9 (own_pl hP hpre) (own_pl hP hpre)).mp q)) : ¬ ((Int32.ofNat pre.length) < (Int32.ofNat R0.length)))).2.1 (by decide) (by decide) ?_
      exact K _
    | cons xa L ih =>
      intro pre sd hpre hE hok K
      refine g_iload C 50 d8_48 rfl rfl ?_
      refine g_aloadN C 51 d8_50 rfl rfl rfl ?_
      refine g_getfield C 54 (i := 3) (j := 2) rfl rfl d8_51 rfl (List.mem_of_getElem? (i := 26) rfl) ?_
      refine g_iload C 56 d8_54 rfl rfl ?_
      refine g_iconst C 57 (1 : Int32) d8_56 rfl rfl ?_
      refine g_iadd C 58 d8_57 rfl ?_
      rw [show ((0 : Int32) + (1 : Int32)) = (1 : Int32) from by decide]
      refine g_iaload C 59 (i := 2) rfl d8_58 rfl (by decide) (Int32.ofNat R0.length) rfl ?_
      refine g_icN C 62 d8_59 (tlt ((by rw [hE]; exact (own_lt9 (own_pl hP hpre) (own_pe hP hpre)).mpr (by simp)) : (Int32.ofNat pre.length) < (Int32.ofNat R0.length))).2.1 rfl ?_
      refine g_dload C 64 d8_62 rfl rfl ?_
      refine g_aloadN C 65 d8_64 rfl rfl rfl ?_
      refine g_getfield C 68 (i := 3) (j := 4) rfl rfl d8_65 rfl (List.mem_of_getElem? (i := 30) rfl) ?_
      refine g_iload C 70 d8_68 rfl rfl ?_
      refine g_daload C 71 (i := 1) rfl d8_70 rfl (own_n9 (own_pl hP hpre)).2 xa.2 (by rw [hpre]; exact own_vget (own_pc hP hpre)) ?_
      refine g_aloadN C 72 d8_71 rfl rfl rfl ?_
      refine g_aloadN C 73 d8_72 rfl rfl rfl ?_
      refine g_getfield C 76 (i := 3) (j := 3) rfl rfl d8_73 rfl (List.mem_of_getElem? (i := 28) rfl) ?_
      refine g_iload C 78 d8_76 rfl rfl ?_
      refine g_iaload C 79 (i := 0) rfl d8_78 rfl (own_n9 (own_pl hP hpre)).2 xa.1 (by rw [hpre]; exact own_cget (own_pc hP hpre)) ?_
      refine g_daload C 80 (i := 5) rfl d8_79 rfl hok.1.1 (own_xe [xx0, xx1, xx2] xa.1) (own_xg hok.1.2) ?_
      refine g_dmul C 81 d8_80 rfl hok.2.1 ?_
      refine g_dsub C 82 d8_81 rfl hok.2.2.1 ?_
      refine g_dstore C 84 #[.val (.ref p1), .val (.ref ag), .val (.ref ab), .val (.ref ax), .val (.int (0 : Int32)), .val (.int (0 : Int32)), .val (.int (0 : Int32)), .val (.double (FP.dsub sd (FP.dmul xa.2 (own_xe [xx0, xx1, xx2] xa.1)))), .second, .val (.int (Int32.ofNat pre.length))] d8_82 rfl rfl ?_
      refine g_iinc C 87 ((Int32.ofNat pre.length) + (1 : Int32)) #[.val (.ref p1), .val (.ref ag), .val (.ref ab), .val (.ref ax), .val (.int (0 : Int32)), .val (.int (0 : Int32)), .val (.int (0 : Int32)), .val (.double (FP.dsub sd (FP.dmul xa.2 (own_xe [xx0, xx1, xx2] xa.1)))), .second, .val (.int ((Int32.ofNat pre.length) + (1 : Int32)))] d8_84 rfl rfl rfl rfl ?_
      refine g_goto C 48 d8_87 (by decide) (by decide) ?_
      rw [own_s9 (own_pl hP hpre), show pre.length + 1 = (pre ++ [xa]).length by simp]
      exact ih (pre ++ [xa]) _ (by rw [hpre]; simp) (hE.trans (congrArg Int32.ofNat (by simp only [List.length_cons, List.length_append, List.length_nil]; omega))) hok.2.2.2 K
  refine H0 R0 [] _ (by simp) (congrArg Int32.ofNat (by first | (simp; done) | (simp; omega))) hA0 ?_
  intro k1
  show Go _ _ _ _ _ _ _ _ _ _ _ _ [(kc, IA Z .int (ints (own_c (R0 ++ R1 ++ R2)))), (kv, DA Z (own_v (R0 ++ R1 ++ R2))), (ks, IA Z .int (ints [(0 : Int32), (Int32.ofNat R0.length), (Int32.ofNat (R0 ++ R1).length), (Int32.ofNat (R0 ++ R1 ++ R2).length)])), (p1, OB Z a0 "com/example/libplanar/libplanar/SparseMatrix" [("com/example/libplanar/libplanar/SparseMatrix", "rows", "I", (.int (1 : Int32))), ("com/example/libplanar/libplanar/SparseMatrix", "columnCount", "I", (.int (1 : Int32))), ("com/example/libplanar/libplanar/SparseMatrix", "rowStart", "[I", (.ref ks)), ("com/example/libplanar/libplanar/SparseMatrix", "columns", "[I", (.ref kc)), ("com/example/libplanar/libplanar/SparseMatrix", "values", "[D", (.ref kv))]), (ab, DA Z [bb0, bb1, bb2]), (ax, DA Z [xx0, xx1, xx2]), d6, (ag, DA Z [gg0, gg1, gg2])] 0 0 90 #[.val (.ref p1), .val (.ref ag), .val (.ref ab), .val (.ref ax), .val (.int (0 : Int32)), .val (.int (0 : Int32)), .val (.int (0 : Int32)), .val (.double (own_acc [xx0, xx1, xx2] bb0 R0)), .second, .val (.int k1)] []
  refine g_aloadN C 91 d8_90 rfl rfl rfl ?_
  refine g_iload C 93 d8_91 rfl rfl ?_
  refine g_dup2 C 94 d8_93 rfl rfl rfl ?_
  refine g_daload C 95 (i := 5) rfl d8_94 rfl (by decide) xx0 rfl ?_
  refine g_dload C 97 d8_95 rfl rfl ?_
  refine g_aloadN C 98 d8_97 rfl rfl rfl ?_
  refine g_iload C 100 d8_98 rfl rfl ?_
  refine g_daload C 101 (i := 7) rfl d8_100 rfl (by decide) gg0 rfl ?_
  refine g_ddiv C 102 d8_101 rfl hD0 ?_
  refine g_dadd C 103 d8_102 rfl hS0 ?_
  refine g_dastore C 104 (i := 5) [(FP.dadd xx0 (FP.ddiv (own_acc [xx0, xx1, xx2] bb0 R0) gg0)), xx1, xx2] [(kc, IA Z .int (ints (own_c (R0 ++ R1 ++ R2)))), (kv, DA Z (own_v (R0 ++ R1 ++ R2))), (ks, IA Z .int (ints [(0 : Int32), (Int32.ofNat R0.length), (Int32.ofNat (R0 ++ R1).length), (Int32.ofNat (R0 ++ R1 ++ R2).length)])), (p1, OB Z a0 "com/example/libplanar/libplanar/SparseMatrix" [("com/example/libplanar/libplanar/SparseMatrix", "rows", "I", (.int (1 : Int32))), ("com/example/libplanar/libplanar/SparseMatrix", "columnCount", "I", (.int (1 : Int32))), ("com/example/libplanar/libplanar/SparseMatrix", "rowStart", "[I", (.ref ks)), ("com/example/libplanar/libplanar/SparseMatrix", "columns", "[I", (.ref kc)), ("com/example/libplanar/libplanar/SparseMatrix", "values", "[D", (.ref kv))]), (ab, DA Z [bb0, bb1, bb2]), (ax, DA Z [(FP.dadd xx0 (FP.ddiv (own_acc [xx0, xx1, xx2] bb0 R0) gg0)), xx1, xx2]), d6, (ag, DA Z [gg0, gg1, gg2])] rfl d8_103 rfl (by decide) (Nat.le_of_ble_eq_true rfl) rfl rfl ?_
  rw [hz0]
  show Go _ _ _ _ _ _ _ _ _ _ _ _ [(kc, IA Z .int (ints (own_c (R0 ++ R1 ++ R2)))), (kv, DA Z (own_v (R0 ++ R1 ++ R2))), (ks, IA Z .int (ints [(0 : Int32), (Int32.ofNat R0.length), (Int32.ofNat (R0 ++ R1).length), (Int32.ofNat (R0 ++ R1 ++ R2).length)])), (p1, OB Z a0 "com/example/libplanar/libplanar/SparseMatrix" [("com/example/libplanar/libplanar/SparseMatrix", "rows", "I", (.int (1 : Int32))), ("com/example/libplanar/libplanar/SparseMatrix", "columnCount", "I", (.int (1 : Int32))), ("com/example/libplanar/libplanar/SparseMatrix", "rowStart", "[I", (.ref ks)), ("com/example/libplanar/libplanar/SparseMatrix", "columns", "[I", (.ref kc)), ("com/example/libplanar/libplanar/SparseMatrix", "values", "[D", (.ref kv))]), (ab, DA Z [bb0, bb1, bb2]), (ax, DA Z [zz0, xx1, xx2]), d6, (ag, DA Z [gg0, gg1, gg2])] 0 0 104 #[.val (.ref p1), .val (.ref ag), .val (.ref ab), .val (.ref ax), .val (.int (0 : Int32)), .val (.int (0 : Int32)), .val (.int (0 : Int32)), .val (.double (own_acc [xx0, xx1, xx2] bb0 R0)), .second, .val (.int k1)] []
  refine g_iinc C 107 (1 : Int32) #[.val (.ref p1), .val (.ref ag), .val (.ref ab), .val (.ref ax), .val (.int (0 : Int32)), .val (.int (1 : Int32)), .val (.int (0 : Int32)), .val (.double (own_acc [xx0, xx1, xx2] bb0 R0)), .second, .val (.int k1)] d8_104 rfl rfl (by decide) rfl ?_
  refine g_goto C 3 d8_107 (by decide) (by decide) ?_
  refine g_iload C 5 d8_3 rfl rfl ?_
  refine g_aloadN C 6 d8_5 rfl rfl rfl ?_
  refine g_getfield C 9 (i := 3) (j := 0) rfl rfl d8_6 rfl (List.mem_of_getElem? (i := 22) rfl) ?_
  refine g_icY C 110 d8_9 (flt ((by decide) : ¬ ((1 : Int32) < (1 : Int32)))).2.1 (by decide) (by decide) ?_
  exact g_ret C d8_110 (by decide) (by decide) ⟨rfl, rfl⟩
set_option maxRecDepth 65536 in
set_option maxHeartbeats 40000000 in
theorem con_gs11 (l : Launch) (Z : State) (a0 : Array Value) (hw : ∀ d ∈ tables_1, d.before a0 Z = true) (h0 : Heap) (kc kv ks p1 ab ax ag : Addr) (d6 : Addr × Desc) (R0 R1 R2 : List Ent) (bb0 bb1 bb2 xx0 xx1 xx2 gg0 gg1 gg2 : UInt64) (zz0 : UInt64) (hP : (R0 ++ R1 ++ R2).length ≤ 9) (hA0 : own_accok [xx0, xx1, xx2] bb0 R0) (hD0 : Jvm.Free.Fl.NoNaN64 (FP.ddiv (own_acc [xx0, xx1, xx2] bb0 R0) gg0)) (hS0 : Jvm.Free.Fl.NoNaN64 (FP.dadd xx0 (FP.ddiv (own_acc [xx0, xx1, xx2] bb0 R0) gg0))) (hz0 : (FP.dadd xx0 (FP.ddiv (own_acc [xx0, xx1, xx2] bb0 R0) gg0)) = zz0) :
    Con l Z (⟨"com/example/libplanar/libplanar/SparseMatrix", "gaussSeidel", "([D[D[DZ)V"⟩ : MethodName) prog_91_method_15_code 10 none ({ frames := 0, cells := 0, slots := 0, locals := 0 } : Room) h0 #[(.ref p1), (.ref ag), (.ref ab), (.ref ax), (.int (1 : Int32))] [(kc, IA Z .int (ints (own_c (R0 ++ R1 ++ R2)))), (kv, DA Z (own_v (R0 ++ R1 ++ R2))), (ks, IA Z .int (ints [(0 : Int32), (Int32.ofNat R0.length), (Int32.ofNat (R0 ++ R1).length), (Int32.ofNat (R0 ++ R1 ++ R2).length)])), (p1, OB Z a0 "com/example/libplanar/libplanar/SparseMatrix" [("com/example/libplanar/libplanar/SparseMatrix", "rows", "I", (.int (1 : Int32))), ("com/example/libplanar/libplanar/SparseMatrix", "columnCount", "I", (.int (1 : Int32))), ("com/example/libplanar/libplanar/SparseMatrix", "rowStart", "[I", (.ref ks)), ("com/example/libplanar/libplanar/SparseMatrix", "columns", "[I", (.ref kc)), ("com/example/libplanar/libplanar/SparseMatrix", "values", "[D", (.ref kv))]), (ab, DA Z [bb0, bb1, bb2]), (ax, DA Z [xx0, xx1, xx2]), d6, (ag, DA Z [gg0, gg1, gg2])] (fun v ds' => v = none ∧ [(kc, IA Z .int (ints (own_c (R0 ++ R1 ++ R2)))), (kv, DA Z (own_v (R0 ++ R1 ++ R2))), (ks, IA Z .int (ints [(0 : Int32), (Int32.ofNat R0.length), (Int32.ofNat (R0 ++ R1).length), (Int32.ofNat (R0 ++ R1 ++ R2).length)])), (p1, OB Z a0 "com/example/libplanar/libplanar/SparseMatrix" [("com/example/libplanar/libplanar/SparseMatrix", "rows", "I", (.int (1 : Int32))), ("com/example/libplanar/libplanar/SparseMatrix", "columnCount", "I", (.int (1 : Int32))), ("com/example/libplanar/libplanar/SparseMatrix", "rowStart", "[I", (.ref ks)), ("com/example/libplanar/libplanar/SparseMatrix", "columns", "[I", (.ref kc)), ("com/example/libplanar/libplanar/SparseMatrix", "values", "[D", (.ref kv))]), (ab, DA Z [bb0, bb1, bb2]), (ax, DA Z [zz0, xx1, xx2]), d6, (ag, DA Z [gg0, gg1, gg2])] = ds') := by
  refine con_of (a0 := a0) (Ls := #[.val (.ref p1), .val (.ref ag), .val (.ref ab), .val (.ref ax), .val (.int (1 : Int32)), .unset, .unset, .unset, .unset, .unset]) (plainFor_of_name (by first | (simp [plainName, overriddenIn]; done) | decide +kernel)) hw (fun m => by first | (simp [entryFrame, mkF, argsToLocals, Value.category]; done) | rfl) ?_
  intro p e s m below meth c C
  refine g_iconst C 1 (0 : Int32) d8_0 rfl rfl ?_
  refine g_istore C 3 #[.val (.ref p1), .val (.ref ag), .val (.ref ab), .val (.ref ax), .val (.int (1 : Int32)), .val (.int (0 : Int32)), .unset, .unset, .unset, .unset] d8_1 rfl rfl ?_
  refine g_iload C 5 d8_3 rfl rfl ?_
  refine g_aloadN C 6 d8_5 rfl rfl rfl ?_
  refine g_getfield C 9 (i := 3) (j := 0) rfl rfl d8_6 rfl (List.mem_of_getElem? (i := 22) rfl) ?_
  refine g_icN C 12 d8_9 (tlt ((by decide) : (0 : Int32) < (1 : Int32))).2.1 rfl ?_
  refine g_iload C 14 d8_12 rfl rfl ?_
  refine g_ifN C 17 d8_14 (feq ((by decide) : ¬ ((1 : Int32) = (0 : Int32)))).1 rfl ?_
  refine g_iload C 19 d8_17 rfl rfl ?_
  refine g_goto C 31 d8_19 (by decide) (by decide) ?_
  refine g_istore C 33 #[.val (.ref p1), .val (.ref ag), .val (.ref ab), .val (.ref ax), .val (.int (1 : Int32)), .val (.int (0 : Int32)), .val (.int (0 : Int32)), .unset, .unset, .unset] d8_31 rfl rfl ?_
  refine g_aloadN C 34 d8_33 rfl rfl rfl ?_
  refine g_iload C 36 d8_34 rfl rfl ?_
  refine g_daload C 37 (i := 4) rfl d8_36 rfl (by decide) bb0 rfl ?_
  refine g_dstore C 39 #[.val (.ref p1), .val (.ref ag), .val (.ref ab), .val (.ref ax), .val (.int (1 : Int32)), .val (.int (0 : Int32)), .val (.int (0 : Int32)), .val (.double bb0), .second, .unset] d8_37 rfl rfl ?_
  refine g_aloadN C 40 d8_39 rfl rfl rfl ?_
  refine g_getfield C 43 (i := 3) (j := 2) rfl rfl d8_40 rfl (List.mem_of_getElem? (i := 26) rfl) ?_
  refine g_iload C 45 d8_43 rfl rfl ?_
  refine g_iaload C 46 (i := 2) rfl d8_45 rfl (by decide) (0 : Int32) rfl ?_
  refine g_istore C 48 #[.val (.ref p1), .val (.ref ag), .val (.ref ab), .val (.ref ax), .val (.int (1 : Int32)), .val (.int (0 : Int32)), .val (.int (0 : Int32)), .val (.double bb0), .second, .val (.int (0 : Int32))] d8_46 rfl rfl ?_
  have H0 : ∀ (L pre : List Ent) (sd : UInt64), (R0 ++ R1 ++ R2) = pre ++ (L ++ (R1 ++ R2)) → (Int32.ofNat R0.length) = Int32.ofNat (pre.length + L.length) → own_accok [xx0, xx1, xx2] sd L → (∀ k : Int32, Go p l e ({ frames := 0, cells := 0, slots := 0, locals := 0 } : Room) s m #[(.ref p1), (.ref ag), (.ref ab), (.ref ax), (.int (1 : Int32))] below meth c h0 (fun v ds' => v = none ∧ [(kc, IA Z .int (ints (own_c (R0 ++ R1 ++ R2)))), (kv, DA Z (own_v (R0 ++ R1 ++ R2))), (ks, IA Z .int (ints [(0 : Int32), (Int32.ofNat R0.length), (Int32.ofNat (R0 ++ R1).length), (Int32.ofNat (R0 ++ R1 ++ R2).length)])), (p1, OB Z a0 "com/example/libplanar/libplanar/SparseMatrix" [("com/example/libplanar/libplanar/SparseMatrix", "rows", "I", (.int (1 : Int32))), ("com/example/libplanar/libplanar/SparseMatrix", "columnCount", "I", (.int (1 : Int32))), ("com/example/libplanar/libplanar/SparseMatrix", "rowStart", "[I", (.ref ks)), ("com/example/libplanar/libplanar/SparseMatrix", "columns", "[I", (.ref kc)), ("com/example/libplanar/libplanar/SparseMatrix", "values", "[D", (.ref kv))]), (ab, DA Z [bb0, bb1, bb2]), (ax, DA Z [zz0, xx1, xx2]), d6, (ag, DA Z [gg0, gg1, gg2])] = ds') [(kc, IA Z .int (ints (own_c (R0 ++ R1 ++ R2)))), (kv, DA Z (own_v (R0 ++ R1 ++ R2))), (ks, IA Z .int (ints [(0 : Int32), (Int32.ofNat R0.length), (Int32.ofNat (R0 ++ R1).length), (Int32.ofNat (R0 ++ R1 ++ R2).length)])), (p1, OB Z a0 "com/example/libplanar/libplanar/SparseMatrix" [("com/example/libplanar/libplanar/SparseMatrix", "rows", "I", (.int (1 : Int32))), ("com/example/libplanar/libplanar/SparseMatrix", "columnCount", "I", (.int (1 : Int32))), ("com/example/libplanar/libplanar/SparseMatrix", "rowStart", "[I", (.ref ks)), ("com/example/libplanar/libplanar/SparseMatrix", "columns", "[I", (.ref kc)), ("com/example/libplanar/libplanar/SparseMatrix", "values", "[D", (.ref kv))]), (ab, DA Z [bb0, bb1, bb2]), (ax, DA Z [xx0, xx1, xx2]), d6, (ag, DA Z [gg0, gg1, gg2])] 0 0 90 #[.val (.ref p1), .val (.ref ag), .val (.ref ab), .val (.ref ax), .val (.int (1 : Int32)), .val (.int (0 : Int32)), .val (.int (0 : Int32)), .val (.double (own_acc [xx0, xx1, xx2] sd L)), .second, .val (.int k)] []) → Go p l e ({ frames := 0, cells := 0, slots := 0, locals := 0 } : Room) s m #[(.ref p1), (.ref ag), (.ref ab), (.ref ax), (.int (1 : Int32))] below meth c h0 (fun v ds' => v = none ∧ [(kc, IA Z .int (ints (own_c (R0 ++ R1 ++ R2)))), (kv, DA Z (own_v (R0 ++ R1 ++ R2))), (ks, IA Z .int (ints [(0 : Int32), (Int32.ofNat R0.length), (Int32.ofNat (R0 ++ R1).length), (Int32.ofNat (R0 ++ R1 ++ R2).length)])), (p1, OB Z a0 "com/example/libplanar/libplanar/SparseMatrix" [("com/example/libplanar/libplanar/SparseMatrix", "rows", "I", (.int (1 : Int32))), ("com/example/libplanar/libplanar/SparseMatrix", "columnCount", "I", (.int (1 : Int32))), ("com/example/libplanar/libplanar/SparseMatrix", "rowStart", "[I", (.ref ks)), ("com/example/libplanar/libplanar/SparseMatrix", "columns", "[I", (.ref kc)), ("com/example/libplanar/libplanar/SparseMatrix", "values", "[D", (.ref kv))]), (ab, DA Z [bb0, bb1, bb2]), (ax, DA Z [zz0, xx1, xx2]), d6, (ag, DA Z [gg0, gg1, gg2])] = ds') [(kc, IA Z .int (ints (own_c (R0 ++ R1 ++ R2)))), (kv, DA Z (own_v (R0 ++ R1 ++ R2))), (ks, IA Z .int (ints [(0 : Int32), (Int32.ofNat R0.length), (Int32.ofNat (R0 ++ R1).length), (Int32.ofNat (R0 ++ R1 ++ R2).length)])), (p1, OB Z a0 "com/example/libplanar/libplanar/SparseMatrix" [("com/example/libplanar/libplanar/SparseMatrix", "rows", "I", (.int (1 : Int32))), ("com/example/libplanar/libplanar/SparseMatrix", "columnCount", "I", (.int (1 : Int32))), ("com/example/libplanar/libplanar/SparseMatrix", "rowStart", "[I", (.ref ks)), ("com/example/libplanar/libplanar/SparseMatrix", "columns", "[I", (.ref kc)), ("com/example/libplanar/libplanar/SparseMatrix", "values", "[D", (.ref kv))]), (ab, DA Z [bb0, bb1, bb2]), (ax, DA Z [xx0, xx1, xx2]), d6, (ag, DA Z [gg0, gg1, gg2])] 0 0 48 #[.val (.ref p1), .val (.ref ag), .val (.ref ab), .val (.ref ax), .val (.int (1 : Int32)), .val (.int (0 : Int32)), .val (.int (0 : Int32)), .val (.double sd), .second, .val (.int (Int32.ofNat pre.length))] [] := by
    intro L
    induction L with
    | nil =>
      intro pre sd hpre hE hok K
      refine g_iload C 50 d8_48 rfl rfl ?_
      refine g_aloadN C 51 d8_50 rfl rfl rfl ?_
      refine g_getfield C 54 (i := 3) (j := 2) rfl rfl d8_51 rfl (List.mem_of_getElem? (i := 26) rfl) ?_
      refine g_iload C 56 d8_54 rfl rfl ?_
      refine g_iconst C 57 (1 : Int32) d8_56 rfl rfl ?_
      refine g_iadd C 58 d8_57 rfl ?_
      rw [show ((0 : Int32) + (1 : Int32)) = (1 : Int32) from by decide]
      refine g_iaload C 59 (i := 2) rfl d8_58 rfl (by decide) (Int32.ofNat R0.length) rfl ?_
      refine g_icY C 90 d8_59 (flt ((by rw [hE]; exact fun q => Nat.lt_irrefl _ ((own_lt9 (own_pl hP hpre) (own_pl hP hpre)).mp q)) : ¬ ((Int32.ofNat pre.length) < (Int32.ofNat R0.length)))).2.1 (by decide) (by decide) ?_
      exact K _
    | cons xa L ih =>
      intro pre sd hpre hE hok K
      refine g_iload C 50 d8_48 rfl rfl ?_
      refine g_aloadN C 51 d8_50 rfl rfl rfl ?_
      refine g_getfield C 54 (i := 3) (j := 2) rfl rfl d8_51 rfl (List.mem_of_getElem? (i := 26) rfl) ?_
      refine g_iload C 56 d8_54 rfl rfl ?_
      refine g_iconst C 57 (1 : Int32) d8_56 rfl rfl ?_
      refine g_iadd C 58 d8_57 rfl ?_
      rw [show ((0 : Int32) + (1 : Int32)) = (1 : Int32) from by decide]
      refine g_iaload C 59 (i := 2) rfl d8_58 rfl (by decide) (Int32.ofNat R0.length) rfl ?_
      refine g_icN C 62 d8_59 (tlt ((by rw [hE]; exact (own_lt9 (own_pl hP hpre) (own_pe hP hpre)).mpr (by simp)) : (Int32.ofNat pre.length) < (Int32.ofNat R0.length))).2.1 rfl ?_
      refine g_dload C 64 d8_62 rfl rfl ?_
      refine g_aloadN C 65 d8_64 rfl rfl rfl ?_
      refine g_getfield C 68 (i := 3) (j := 4) rfl rfl d8_65 rfl (List.mem_of_getElem? (i := 30) rfl) ?_
      refine g_iload C 70 d8_68 rfl rfl ?_
      refine g_daload C 71 (i := 1) rfl d8_70 rfl (own_n9 (own_pl hP hpre)).2 xa.2 (by rw [hpre]; exact own_vget (own_pc hP hpre)) ?_
      refine g_aloadN C 72 d8_71 rfl rfl rfl ?_
      refine g_aloadN C 73 d8_72 rfl rfl rfl ?_
      refine g_getfield C 76 (i := 3) (j := 3) rfl rfl d8_73 rfl (List.mem_of_getElem? (i := 28) rfl) ?_
      refine g_iload C 78 d8_76 rfl rfl ?_
      refine g_iaload C 79 (i := 0) rfl d8_78 rfl (own_n9 (own_pl hP hpre)).2 xa.1 (by rw [hpre]; exact own_cget (own_pc hP hpre)) ?_
      refine g_daload C 80 (i := 5) rfl d8_79 rfl hok.1.1 (own_xe [xx0, xx1, xx2] xa.1) (own_xg hok.1.2) ?_
      refine g_dmul C 81 d8_80 rfl hok.2.1 ?_
      refine g_dsub C 82 d8_81 rfl hok.2.2.1 ?_
      refine g_dstore C 84 #[.val (.ref p1), .val (.ref ag), .val (.ref ab), .val (.ref ax), .val (.int (1 : Int32)), .val (.int (0 : Int32)), .val (.int (0 : Int32)), .val (.double (FP.dsub sd (FP.dmul xa.2 (own_xe [xx0, xx1, xx2] xa.1)))), .second, .val (.int (Int32.ofNat pre.length))] d8_82 rfl rfl ?_
      refine g_iinc C 87 ((Int32.ofNat pre.length) + (1 : Int32)) #[.val (.ref p1), .val (.ref ag), .val (.ref ab), .val (.ref ax), .val (.int (1 : Int32)), .val (.int (0 : Int32)), .val (.int (0 : Int32)), .val (.double (FP.dsub sd (FP.dmul xa.2 (own_xe [xx0, xx1, xx2] xa.1)))), .second, .val (.int ((Int32.ofNat pre.length) + (1 : Int32)))] d8_84 rfl rfl rfl rfl ?_
      refine g_goto C 48 d8_87 (by decide) (by decide) ?_
      rw [own_s9 (own_pl hP hpre), show pre.length + 1 = (pre ++ [xa]).length by simp]
      exact ih (pre ++ [xa]) _ (by rw [hpre]; simp) (hE.trans (congrArg Int32.ofNat (by simp only [List.length_cons, List.length_append, List.length_nil]; omega))) hok.2.2.2 K
  refine H0 R0 [] _ (by simp) (congrArg Int32.ofNat (by first | (simp; done) | (simp; omega))) hA0 ?_
  intro k1
  show Go _ _ _ _ _ _ _ _ _ _ _ _ [(kc, IA Z .int (ints (own_c (R0 ++ R1 ++ R2)))), (kv, DA Z (own_v (R0 ++ R1 ++ R2))), (ks, IA Z .int (ints [(0 : Int32), (Int32.ofNat R0.length), (Int32.ofNat (R0 ++ R1).length), (Int32.ofNat (R0 ++ R1 ++ R2).length)])), (p1, OB Z a0 "com/example/libplanar/libplanar/SparseMatrix" [("com/example/libplanar/libplanar/SparseMatrix", "rows", "I", (.int (1 : Int32))), ("com/example/libplanar/libplanar/SparseMatrix", "columnCount", "I", (.int (1 : Int32))), ("com/example/libplanar/libplanar/SparseMatrix", "rowStart", "[I", (.ref ks)), ("com/example/libplanar/libplanar/SparseMatrix", "columns", "[I", (.ref kc)), ("com/example/libplanar/libplanar/SparseMatrix", "values", "[D", (.ref kv))]), (ab, DA Z [bb0, bb1, bb2]), (ax, DA Z [xx0, xx1, xx2]), d6, (ag, DA Z [gg0, gg1, gg2])] 0 0 90 #[.val (.ref p1), .val (.ref ag), .val (.ref ab), .val (.ref ax), .val (.int (1 : Int32)), .val (.int (0 : Int32)), .val (.int (0 : Int32)), .val (.double (own_acc [xx0, xx1, xx2] bb0 R0)), .second, .val (.int k1)] []
  refine g_aloadN C 91 d8_90 rfl rfl rfl ?_
  refine g_iload C 93 d8_91 rfl rfl ?_
  refine g_dup2 C 94 d8_93 rfl rfl rfl ?_
  refine g_daload C 95 (i := 5) rfl d8_94 rfl (by decide) xx0 rfl ?_
  refine g_dload C 97 d8_95 rfl rfl ?_
  refine g_aloadN C 98 d8_97 rfl rfl rfl ?_
  refine g_iload C 100 d8_98 rfl rfl ?_
  refine g_daload C 101 (i := 7) rfl d8_100 rfl (by decide) gg0 rfl ?_
  refine g_ddiv C 102 d8_101 rfl hD0 ?_
  refine g_dadd C 103 d8_102 rfl hS0 ?_
  refine g_dastore C 104 (i := 5) [(FP.dadd xx0 (FP.ddiv (own_acc [xx0, xx1, xx2] bb0 R0) gg0)), xx1, xx2] [(kc, IA Z .int (ints (own_c (R0 ++ R1 ++ R2)))), (kv, DA Z (own_v (R0 ++ R1 ++ R2))), (ks, IA Z .int (ints [(0 : Int32), (Int32.ofNat R0.length), (Int32.ofNat (R0 ++ R1).length), (Int32.ofNat (R0 ++ R1 ++ R2).length)])), (p1, OB Z a0 "com/example/libplanar/libplanar/SparseMatrix" [("com/example/libplanar/libplanar/SparseMatrix", "rows", "I", (.int (1 : Int32))), ("com/example/libplanar/libplanar/SparseMatrix", "columnCount", "I", (.int (1 : Int32))), ("com/example/libplanar/libplanar/SparseMatrix", "rowStart", "[I", (.ref ks)), ("com/example/libplanar/libplanar/SparseMatrix", "columns", "[I", (.ref kc)), ("com/example/libplanar/libplanar/SparseMatrix", "values", "[D", (.ref kv))]), (ab, DA Z [bb0, bb1, bb2]), (ax, DA Z [(FP.dadd xx0 (FP.ddiv (own_acc [xx0, xx1, xx2] bb0 R0) gg0)), xx1, xx2]), d6, (ag, DA Z [gg0, gg1, gg2])] rfl d8_103 rfl (by decide) (Nat.le_of_ble_eq_true rfl) rfl rfl ?_
  rw [hz0]
  show Go _ _ _ _ _ _ _ _ _ _ _ _ [(kc, IA Z .int (ints (own_c (R0 ++ R1 ++ R2)))), (kv, DA Z (own_v (R0 ++ R1 ++ R2))), (ks, IA Z .int (ints [(0 : Int32), (Int32.ofNat R0.length), (Int32.ofNat (R0 ++ R1).length), (Int32.ofNat (R0 ++ R1 ++ R2).length)])), (p1, OB Z a0 "com/example/libplanar/libplanar/SparseMatrix" [("com/example/libplanar/libplanar/SparseMatrix", "rows", "I", (.int (1 : Int32))), ("com/example/libplanar/libplanar/SparseMatrix", "columnCount", "I", (.int (1 : Int32))), ("com/example/libplanar/libplanar/SparseMatrix", "rowStart", "[I", (.ref ks)), ("com/example/libplanar/libplanar/SparseMatrix", "columns", "[I", (.ref kc)), ("com/example/libplanar/libplanar/SparseMatrix", "values", "[D", (.ref kv))]), (ab, DA Z [bb0, bb1, bb2]), (ax, DA Z [zz0, xx1, xx2]), d6, (ag, DA Z [gg0, gg1, gg2])] 0 0 104 #[.val (.ref p1), .val (.ref ag), .val (.ref ab), .val (.ref ax), .val (.int (1 : Int32)), .val (.int (0 : Int32)), .val (.int (0 : Int32)), .val (.double (own_acc [xx0, xx1, xx2] bb0 R0)), .second, .val (.int k1)] []
  refine g_iinc C 107 (1 : Int32) #[.val (.ref p1), .val (.ref ag), .val (.ref ab), .val (.ref ax), .val (.int (1 : Int32)), .val (.int (1 : Int32)), .val (.int (0 : Int32)), .val (.double (own_acc [xx0, xx1, xx2] bb0 R0)), .second, .val (.int k1)] d8_104 rfl rfl (by decide) rfl ?_
  refine g_goto C 3 d8_107 (by decide) (by decide) ?_
  refine g_iload C 5 d8_3 rfl rfl ?_
  refine g_aloadN C 6 d8_5 rfl rfl rfl ?_
  refine g_getfield C 9 (i := 3) (j := 0) rfl rfl d8_6 rfl (List.mem_of_getElem? (i := 22) rfl) ?_
  refine g_icY C 110 d8_9 (flt ((by decide) : ¬ ((1 : Int32) < (1 : Int32)))).2.1 (by decide) (by decide) ?_
  exact g_ret C d8_110 (by decide) (by decide) ⟨rfl, rfl⟩
set_option maxRecDepth 65536 in
set_option maxHeartbeats 40000000 in
theorem con_gs20 (l : Launch) (Z : State) (a0 : Array Value) (hw : ∀ d ∈ tables_1, d.before a0 Z = true) (h0 : Heap) (kc kv ks p1 ab ax ag : Addr) (d6 : Addr × Desc) (R0 R1 R2 : List Ent) (bb0 bb1 bb2 xx0 xx1 xx2 gg0 gg1 gg2 : UInt64) (zz0 zz1 : UInt64) (hP : (R0 ++ R1 ++ R2).length ≤ 9) (hA0 : own_accok [xx0, xx1, xx2] bb1 R1) (hD0 : Jvm.Free.Fl.NoNaN64 (FP.ddiv (own_acc [xx0, xx1, xx2] bb1 R1) gg1)) (hS0 : Jvm.Free.Fl.NoNaN64 (FP.dadd xx1 (FP.ddiv (own_acc [xx0, xx1, xx2] bb1 R1) gg1))) (hz0 : (FP.dadd xx1 (FP.ddiv (own_acc [xx0, xx1, xx2] bb1 R1) gg1)) = zz0) (hA1 : own_accok [xx0, zz0, xx2] bb0 R0) (hD1 : Jvm.Free.Fl.NoNaN64 (FP.ddiv (own_acc [xx0, zz0, xx2] bb0 R0) gg0)) (hS1 : Jvm.Free.Fl.NoNaN64 (FP.dadd xx0 (FP.ddiv (own_acc [xx0, zz0, xx2] bb0 R0) gg0))) (hz1 : (FP.dadd xx0 (FP.ddiv (own_acc [xx0, zz0, xx2] bb0 R0) gg0)) = zz1) :
    Con l Z (⟨"com/example/libplanar/libplanar/SparseMatrix", "gaussSeidel", "([D[D[DZ)V"⟩ : MethodName) prog_91_method_15_code 10 none ({ frames := 0, cells := 0, slots := 0, locals := 0 } : Room) h0 #[(.ref p1), (.ref ag), (.ref ab), (.ref ax), (.int (0 : Int32))] [(kc, IA Z .int (ints (own_c (R0 ++ R1 ++ R2)))), (kv, DA Z (own_v (R0 ++ R1 ++ R2))), (ks, IA Z .int (ints [(0 : Int32), (Int32.ofNat R0.length), (Int32.ofNat (R0 ++ R1).length), (Int32.ofNat (R0 ++ R1 ++ R2).length)])), (p1, OB Z a0 "com/example/libplanar/libplanar/SparseMatrix" [("com/example/libplanar/libplanar/SparseMatrix", "rows", "I", (.int (2 : Int32))), ("com/example/libplanar/libplanar/SparseMatrix", "columnCount", "I", (.int (2 : Int32))), ("com/example/libplanar/libplanar/SparseMatrix", "rowStart", "[I", (.ref ks)), ("com/example/libplanar/libplanar/SparseMatrix", "columns", "[I", (.ref kc)), ("com/example/libplanar/libplanar/SparseMatrix", "values", "[D", (.ref kv))]), (ab, DA Z [bb0, bb1, bb2]), (ax, DA Z [xx0, xx1, xx2]), d6, (ag, DA Z [gg0, gg1, gg2])] (fun v ds' => v = none ∧ [(kc, IA Z .int (ints (own_c (R0 ++ R1 ++ R2)))), (kv, DA Z (own_v (R0 ++ R1 ++ R2))), (ks, IA Z .int (ints [(0 : Int32), (Int32.ofNat R0.length), (Int32.ofNat (R0 ++ R1).length), (Int32.ofNat (R0 ++ R1 ++ R2).length)])), (p1, OB Z a0 "com/example/libplanar/libplanar/SparseMatrix" [("com/example/libplanar/libplanar/SparseMatrix", "rows", "I", (.int (2 : Int32))), ("com/example/libplanar/libplanar/SparseMatrix", "columnCount", "I", (.int (2 : Int32))), ("com/example/libplanar/libplanar/SparseMatrix", "rowStart", "[I", (.ref ks)), ("com/example/libplanar/libplanar/SparseMatrix", "columns", "[I", (.ref kc)), ("com/example/libplanar/libplanar/SparseMatrix", "values", "[D", (.ref kv))]), (ab, DA Z [bb0, bb1, bb2]), (ax, DA Z [zz1, zz0, xx2]), d6, (ag, DA Z [gg0, gg1, gg2])] = ds') := by
  refine con_of (a0 := a0) (Ls := #[.val (.ref p1), .val (.ref ag), .val (.ref ab), .val (.ref ax), .val (.int (0 : Int32)), .unset, .unset, .unset, .unset, .unset]) (plainFor_of_name (by first | (simp [plainName, overriddenIn]; done) | decide +kernel)) hw (fun m => by first | (simp [entryFrame, mkF, argsToLocals, Value.category]; done) | rfl) ?_
  intro p e s m below meth c C
  refine g_iconst C 1 (0 : Int32) d8_0 rfl rfl ?_
  refine g_istore C 3 #[.val (.ref p1), .val (.ref ag), .val (.ref ab), .val (.ref ax), .val (.int (0 : Int32)), .val (.int (0 : Int32)), .unset, .unset, .unset, .unset] d8_1 rfl rfl ?_
  refine g_iload C 5 d8_3 rfl rfl ?_
  refine g_aloadN C 6 d8_5 rfl rfl rfl ?_
  refine g_getfield C 9 (i := 3) (j := 0) rfl rfl d8_6 rfl (List.mem_of_getElem? (i := 22) rfl) ?_
  refine g_icN C 12 d8_9 (tlt ((by decide) : (0 : Int32) < (2 : Int32))).2.1 rfl ?_
  refine g_iload C 14 d8_12 rfl rfl ?_
  refine g_ifY C 22 d8_14 (teq ((by decide) : (0 : Int32) = (0 : Int32))).1 (by decide) (by decide) ?_
  refine g_aloadN C 23 d8_22 rfl rfl rfl ?_
  refine g_getfield C 26 (i := 3) (j := 0) rfl rfl d8_23 rfl (List.mem_of_getElem? (i := 22) rfl) ?_
  refine g_iconst C 27 (1 : Int32) d8_26 rfl rfl ?_
  refine g_isub C 28 d8_27 rfl ?_
  rw [show ((2 : Int32) - (1 : Int32)) = (1 : Int32) from by decide]
  refine g_iload C 30 d8_28 rfl rfl ?_
  refine g_isub C 31 d8_30 rfl ?_
  rw [show ((1 : Int32) - (0 : Int32)) = (1 : Int32) from by decide]
  refine g_istore C 33 #[.val (.ref p1), .val (.ref ag), .val (.ref ab), .val (.ref ax), .val (.int (0 : Int32)), .val (.int (0 : Int32)), .val (.int (1 : Int32)), .unset, .unset, .unset] d8_31 rfl rfl ?_
  refine g_aloadN C 34 d8_33 rfl rfl rfl ?_
  refine g_iload C 36 d8_34 rfl rfl ?_
  refine g_daload C 37 (i := 4) rfl d8_36 rfl (by decide) bb1 rfl ?_
  refine g_dstore C 39 #[.val (.ref p1), .val (.ref ag), .val (.ref ab), .val (.ref ax), .val (.int (0 : Int32)), .val (.int (0 : Int32)), .val (.int (1 : Int32)), .val (.double bb1), .second, .unset] d8_37 rfl rfl ?_
  refine g_aloadN C 40 d8_39 rfl rfl rfl ?_
  refine g_getfield C 43 (i := 3) (j := 2) rfl rfl d8_40 rfl (List.mem_of_getElem? (i := 26) rfl) ?_
  refine g_iload C 45 d8_43 rfl rfl ?_
  refine g_iaload C 46 (i := 2) rfl d8_45 rfl (by decide) (Int32.ofNat R0.length) rfl ?_
  refine g_istore C 48 #[.val (.ref p1), .val (.ref ag), .val (.ref ab), .val (.ref ax), .val (.int (0 : Int32)), .val (.int (0 : Int32)), .val (.int (1 : Int32)), .val (.double bb1), .second, .val (.int (Int32.ofNat R0.length))] d8_46 rfl rfl ?_
  have H1 : ∀ (L pre : List Ent) (sd : UInt64), (R0 ++ R1 ++ R2) = pre ++ (L ++ R2) → (Int32.ofNat (R0 ++ R1).length) = Int32.ofNat (pre.length + L.length) → own_accok [xx0, xx1, xx2] sd L → (∀ k : Int32, Go p l e ({ frames := 0, cells := 0, slots := 0, locals := 0 } : Room) s m #[(.ref p1), (.ref ag), (.ref ab), (.ref ax), (.int (0 : Int32))] below meth c h0 (fun v ds' => v = none ∧ [(kc, IA Z .int (ints (own_c (R0 ++ R1 ++ R2)))), (kv, DA Z (own_v (R0 ++ R1 ++ R2))), (ks, IA Z .int (ints [(0 : Int32), (Int32.ofNat R0.length), (Int32.ofNat (R0 ++ R1).length), (Int32.ofNat (R0 ++ R1 ++ R2).length)])), (p1, OB Z a0 "com/example/libplanar/libplanar/SparseMatrix" [("com/example/libplanar/libplanar/SparseMatrix", "rows", "I", (.int (2 : Int32))), ("com/example/libplanar/libplanar/SparseMatrix", "columnCount", "I", (.int (2 : Int32))), ("com/example/libplanar/libplanar/SparseMatrix", "rowStart", "[I", (.ref ks)), ("com/example/libplanar/libplanar/SparseMatrix", "columns", "[I", (.ref kc)), ("com/example/libplanar/libplanar/SparseMatrix", "values", "[D", (.ref kv))]), (ab, DA Z [bb0, bb1, bb2]), (ax, DA Z [zz1, zz0, xx2]), d6, (ag, DA Z [gg0, gg1, gg2])] = ds') [(kc, IA Z .int (ints (own_c (R0 ++ R1 ++ R2)))), (kv, DA Z (own_v (R0 ++ R1 ++ R2))), (ks, IA Z .int (ints [(0 : Int32), (Int32.ofNat R0.length), (Int32.ofNat (R0 ++ R1).length), (Int32.ofNat (R0 ++ R1 ++ R2).length)])), (p1, OB Z a0 "com/example/libplanar/libplanar/SparseMatrix" [("com/example/libplanar/libplanar/SparseMatrix", "rows", "I", (.int (2 : Int32))), ("com/example/libplanar/libplanar/SparseMatrix", "columnCount", "I", (.int (2 : Int32))), ("com/example/libplanar/libplanar/SparseMatrix", "rowStart", "[I", (.ref ks)), ("com/example/libplanar/libplanar/SparseMatrix", "columns", "[I", (.ref kc)), ("com/example/libplanar/libplanar/SparseMatrix", "values", "[D", (.ref kv))]), (ab, DA Z [bb0, bb1, bb2]), (ax, DA Z [xx0, xx1, xx2]), d6, (ag, DA Z [gg0, gg1, gg2])] 0 0 90 #[.val (.ref p1), .val (.ref ag), .val (.ref ab), .val (.ref ax), .val (.int (0 : Int32)), .val (.int (0 : Int32)), .val (.int (1 : Int32)), .val (.double (own_acc [xx0, xx1, xx2] sd L)), .second, .val (.int k)] []) → Go p l e ({ frames := 0, cells := 0, slots := 0, locals := 0 } : Room) s m #[(.ref p1), (.ref ag), (.ref ab), (.ref ax), (.int (0 : Int32))] below meth c h0 (fun v ds' => v = none ∧ [(kc, IA Z .int (ints (own_c (R0 ++ R1 ++ R2)))), (kv, DA Z (own_v (R0 ++ R1 ++ R2))), (ks, IA Z .int (ints [(0 : Int32), (Int32.ofNat R0.length), (Int32.ofNat (R0 ++ R1).length), (Int32.ofNat (R0 ++ R1 ++ R2).length)])), (p1, OB Z a0 "com/example/libplanar/libplanar/SparseMatrix" [("com/example/libplanar/libplanar/SparseMatrix", "rows", "I", (.int (2 : Int32))), ("com/example/libplanar/libplanar/SparseMatrix", "columnCount", "I", (.int (2 : Int32))), ("com/example/libplanar/libplanar/SparseMatrix", "rowStart", "[I", (.ref ks)), ("com/example/libplanar/libplanar/SparseMatrix", "columns", "[I", (.ref kc)), ("com/example/libplanar/libplanar/SparseMatrix", "values", "[D", (.ref kv))]), (ab, DA Z [bb0, bb1, bb2]), (ax, DA Z [zz1, zz0, xx2]), d6, (ag, DA Z [gg0, gg1, gg2])] = ds') [(kc, IA Z .int (ints (own_c (R0 ++ R1 ++ R2)))), (kv, DA Z (own_v (R0 ++ R1 ++ R2))), (ks, IA Z .int (ints [(0 : Int32), (Int32.ofNat R0.length), (Int32.ofNat (R0 ++ R1).length), (Int32.ofNat (R0 ++ R1 ++ R2).length)])), (p1, OB Z a0 "com/example/libplanar/libplanar/SparseMatrix" [("com/example/libplanar/libplanar/SparseMatrix", "rows", "I", (.int (2 : Int32))), ("com/example/libplanar/libplanar/SparseMatrix", "columnCount", "I", (.int (2 : Int32))), ("com/example/libplanar/libplanar/SparseMatrix", "rowStart", "[I", (.ref ks)), ("com/example/libplanar/libplanar/SparseMatrix", "columns", "[I", (.ref kc)), ("com/example/libplanar/libplanar/SparseMatrix", "values", "[D", (.ref kv))]), (ab, DA Z [bb0, bb1, bb2]), (ax, DA Z [xx0, xx1, xx2]), d6, (ag, DA Z [gg0, gg1, gg2])] 0 0 48 #[.val (.ref p1), .val (.ref ag), .val (.ref ab), .val (.ref ax), .val (.int (0 : Int32)), .val (.int (0 : Int32)), .val (.int (1 : Int32)), .val (.double sd), .second, .val (.int (Int32.ofNat pre.length))] [] := by
    intro L
    induction L with
    | nil =>
      intro pre sd hpre hE hok K
      refine g_iload C 50 d8_48 rfl rfl ?_
      refine g_aloadN C 51 d8_50 rfl rfl rfl ?_
      refine g_getfield C 54 (i := 3) (j := 2) rfl rfl d8_51 rfl (List.mem_of_getElem? (i := 26) rfl) ?_
      refine g_iload C 56 d8_54 rfl rfl ?_
      refine g_iconst C 57 (1 : Int32) d8_56 rfl rfl ?_
      refine g_iadd C 58 d8_57 rfl ?_
      rw [show ((1 : Int32) + (1 : Int32)) = (2 : Int32) from by decide]
      refine g_iaload C 59 (i := 2) rfl d8_58 rfl (by decide) (Int32.ofNat (R0 ++ R1).length) rfl ?_
      refine g_icY C 90 d8_59 (flt ((by rw [hE]; exact fun q => Nat.lt_irrefl _ ((own_lt9 (own_pl hP hpre) (own_pl hP hpre)).mp q)) : ¬ ((Int32.ofNat pre.length) < (Int32.ofNat (R0 ++ R1).length)))).2.1 (by decide) (by decide) ?_
      exact K _
    | cons xa L ih =>
      intro pre sd hpre hE hok K
      refine g_iload C 50 d8_48 rfl rfl ?_
      refine g_aloadN C 51 d8_50 rfl rfl rfl ?_
      refine g_getfield C 54 (i := 3) (j := 2) rfl rfl d8_51 rfl (List.mem_of_getElem? (i := 26) rfl) ?_
      refine g_iload C 56 d8_54 rfl rfl ?_
      refine g_iconst C 57 (1 : Int32) d8_56 rfl rfl ?_
      refine g_iadd C 58 d8_57 rfl ?_
      rw [show ((1 : Int32) + (1 : Int32)) = (2 : Int32) from by decide]
      refine g_iaload C 59 (i := 2) rfl d8_58 rfl (by decide) (Int32.ofNat (R0 ++ R1).length) rfl ?_
      refine g_icN C 62 d8_59 (tlt ((by rw [hE]; exact (own_lt9 (own_pl hP hpre) (own_pe hP hpre)).mpr (by simp)) : (Int32.ofNat pre.length) < (Int32.ofNat (R0 ++ R1).length))).2.1 rfl ?_
      refine g_dload C 64 d8_62 rfl rfl ?_
      refine g_aloadN C 65 d8_64 rfl rfl rfl ?_
      refine g_getfield C 68 (i := 3) (j := 4) rfl rfl d8_65 rfl (List.mem_of_getElem? (i := 30) rfl) ?_
      refine g_iload C 70 d8_68 rfl rfl ?_
      refine g_daload C 71 (i := 1) rfl d8_70 rfl (own_n9 (own_pl hP hpre)).2 xa.2 (by rw [hpre]; exact own_vget (own_pc hP hpre)) ?_
      refine g_aloadN C 72 d8_71 rfl rfl rfl ?_
      refine g_aloadN C 73 d8_72 rfl rfl rfl ?_
      refine g_getfield C 76 (i := 3) (j := 3) rfl rfl d8_73 rfl (List.mem_of_getElem? (i := 28) rfl) ?_
      refine g_iload C 78 d8_76 rfl rfl ?_
      refine g_iaload C 79 (i := 0) rfl d8_78 rfl (own_n9 (own_pl hP hpre)).2 xa.1 (by rw [hpre]; exact own_cget (own_pc hP hpre)) ?_
      refine g_daload C 80 (i := 5) rfl d8_79 rfl hok.1.1 (own_xe [xx0, xx1, xx2] xa.1) (own_xg hok.1.2) ?_
      refine g_dmul C 81 d8_80 rfl hok.2.1 ?_
      refine g_dsub C 82 d8_81 rfl hok.2.2.1 ?_
      refine g_dstore C 84 #[.val (.ref p1), .val (.ref ag), .val (.ref ab), .val (.ref ax), .val (.int (0 : Int32)), .val (.int (0 : Int32)), .val (.int (1 : Int32)), .val (.double (FP.dsub sd (FP.dmul xa.2 (own_xe [xx0, xx1, xx2] xa.1)))), .second, .val (.int (Int32.ofNat pre.length))] d8_82 rfl rfl ?_
      refine g_iinc C 87 ((Int32.ofNat pre.length) + (1 : Int32)) #[.val (.ref p1), .val (.ref ag), .val (.ref ab), .val (.ref ax), .val (.int (0 : Int32)), .val (.int (0 : Int32)), .val (.int (1 : Int32)), .val (.double (FP.dsub sd (FP.dmul xa.2 (own_xe [xx0, xx1, xx2] xa.1)))), .second, .val (.int ((Int32.ofNat pre.length) + (1 : Int32)))] d8_84 rfl rfl rfl rfl ?_
      refine g_goto C 48 d8_87 (by decide) (by decide) ?_
      rw [own_s9 (own_pl hP hpre), show pre.length + 1 = (pre ++ [xa]).length by simp]
      exact ih (pre ++ [xa]) _ (by rw [hpre]; simp) (hE.trans (congrArg Int32.ofNat (by simp only [List.length_cons, List.length_append, List.length_nil]; omega))) hok.2.2.2 K
  refine H1 R1 R0 _ (by simp) (congrArg Int32.ofNat (by first | (simp; done) | (simp; omega))) hA0 ?_
  intro k1
  show Go _ _ _ _ _ _ _ _ _ _ _ _ [(kc, IA Z .int (ints (own_c (R0 ++ R1 ++ R2)))), (kv, DA Z (own_v (R0 ++ R1 ++ R2))), (ks, IA Z .int (ints [(0 : Int32), (Int32.ofNat R0.length), (Int32.ofNat (R0 ++ R1).length), (Int32.ofNat (R0 ++ R1 ++ R2).length)])), (p1, OB Z a0 "com/example/libplanar/libplanar/SparseMatrix" [("com/example/libplanar/libplanar/SparseMatrix", "rows", "I", (.int (2 : Int32))), ("com/example/libplanar/libplanar/SparseMatrix", "columnCount", "I", (.int (2 : Int32))), ("com/example/libplanar/libplanar/SparseMatrix", "rowStart", "[I", (.ref ks)), ("com/example/libplanar/libplanar/SparseMatrix", "columns", "[I", (.ref kc)), ("com/example/libplanar/libplanar/SparseMatrix", "values", "[D", (.ref kv))]), (ab, DA Z [bb0, bb1, bb2]), (ax, DA Z [xx0, xx1, xx2]), d6, (ag, DA Z [gg0, gg1, gg2])] 0 0 90 #[.val (.ref p1), .val (.ref ag), .val (.ref ab), .val (.ref ax), .val (.int (0 : Int32)), .val (.int (0 : Int32)), .val (.int (1 : Int32)), .val (.double (own_acc [xx0, xx1, xx2] bb1 R1)), .second, .val (.int k1)] []
  refine g_aloadN C 91 d8_90 rfl rfl rfl ?_
  refine g_iload C 93 d8_91 rfl rfl ?_
  refine g_dup2 C 94 d8_93 rfl rfl rfl ?_
  refine g_daload C 95 (i := 5) rfl d8_94 rfl (by decide) xx1 rfl ?_
  refine g_dload C 97 d8_95 rfl rfl ?_
  refine g_aloadN C 98 d8_97 rfl rfl rfl ?_
  refine g_iload C 100 d8_98 rfl rfl ?_
  refine g_daload C 101 (i := 7) rfl d8_100 rfl (by decide) gg1 rfl ?_
  refine g_ddiv C 102 d8_101 rfl hD0 ?_
  refine g_dadd C 103 d8_102 rfl hS0 ?_
  refine g_dastore C 104 (i := 5) [xx0, (FP.dadd xx1 (FP.ddiv (own_acc [xx0, xx1, xx2] bb1 R1) gg1)), xx2] [(kc, IA Z .int (ints (own_c (R0 ++ R1 ++ R2)))), (kv, DA Z (own_v (R0 ++ R1 ++ R2))), (ks, IA Z .int (ints [(0 : Int32), (Int32.ofNat R0.length), (Int32.ofNat (R0 ++ R1).length), (Int32.ofNat (R0 ++ R1 ++ R2).length)])), (p1, OB Z a0 "com/example/libplanar/libplanar/SparseMatrix" [("com/example/libplanar/libplanar/SparseMatrix", "rows", "I", (.int (2 : Int32))), ("com/example/libplanar/libplanar/SparseMatrix", "columnCount", "I", (.int (2 : Int32))), ("com/example/libplanar/libplanar/SparseMatrix", "rowStart", "[I", (.ref ks)), ("com/example/libplanar/libplanar/SparseMatrix", "columns", "[I", (.ref kc)), ("com/example/libplanar/libplanar/SparseMatrix", "values", "[D", (.ref kv))]), (ab, DA Z [bb0, bb1, bb2]), (ax, DA Z [xx0, (FP.dadd xx1 (FP.ddiv (own_acc [xx0, xx1, xx2] bb1 R1) gg1)), xx2]), d6, (ag, DA Z [gg0, gg1, gg2])] rfl d8_103 rfl (by decide) (Nat.le_of_ble_eq_true rfl) rfl rfl ?_
  rw [hz0]
  show Go _ _ _ _ _ _ _ _ _ _ _ _ [(kc, IA Z .int (ints (own_c (R0 ++ R1 ++ R2)))), (kv, DA Z (own_v (R0 ++ R1 ++ R2))), (ks, IA Z .int (ints [(0 : Int32), (Int32.ofNat R0.length), (Int32.ofNat (R0 ++ R1).length), (Int32.ofNat (R0 ++ R1 ++ R2).length)])), (p1, OB Z a0 "com/example/libplanar/libplanar/SparseMatrix" [("com/example/libplanar/libplanar/SparseMatrix", "rows", "I", (.int (2 : Int32))), ("com/example/libplanar/libplanar/SparseMatrix", "columnCount", "I", (.int (2 : Int32))), ("com/example/libplanar/libplanar/SparseMatrix", "rowStart", "[I", (.ref ks)), ("com/example/libplanar/libplanar/SparseMatrix", "columns", "[I", (.ref kc)), ("com/example/libplanar/libplanar/SparseMatrix", "values", "[D", (.ref kv))]), (ab, DA Z [bb0, bb1, bb2]), (ax, DA Z [xx0, zz0, xx2]), d6, (ag, DA Z [gg0, gg1, gg2])] 0 0 104 #[.val (.ref p1), .val (.ref ag), .val (.ref ab), .val (.ref ax), .val (.int (0 : Int32)), .val (.int (0 : Int32)), .val (.int (1 : Int32)), .val (.double (own_acc [xx0, xx1, xx2] bb1 R1)), .second, .val (.int k1)] []
  refine g_iinc C 107 (1 : Int32) #[.val (.ref p1), .val (.ref ag), .val (.ref ab), .val (.ref ax), .val (.int (0 : Int32)), .val (.int (1 : Int32)), .val (.int (1 : Int32)), .val (.double (own_acc [xx0, xx1, xx2] bb1 R1)), .second, .val (.int k1)] d8_104 rfl rfl (by decide) rfl ?_
  refine g_goto C 3 d8_107 (by decide) (by decide) ?_
  refine g_iload C 5 d8_3 rfl rfl ?_
  refine g_aloadN C 6 d8_5 rfl rfl rfl ?_
  refine g_getfield C 9 (i := 3) (j := 0) rfl rfl d8_6 rfl (List.mem_of_getElem? (i := 22) rfl) ?_
  refine g_icN C 12 d8_9 (tlt ((by decide) : (1 : Int32) < (2 : Int32))).2.1 rfl ?_
  refine g_iload C 14 d8_12 rfl rfl ?_
  refine g_ifY C 22 d8_14 (teq ((by decide) : (0 : Int32) = (0 : Int32))).1 (by decide) (by decide) ?_
  refine g_aloadN C 23 d8_22 rfl rfl rfl ?_
  refine g_getfield C 26 (i := 3) (j := 0) rfl rfl d8_23 rfl (List.mem_of_getElem? (i := 22) rfl) ?_
  refine g_iconst C 27 (1 : Int32) d8_26 rfl rfl ?_
  refine g_isub C 28 d8_27 rfl ?_
  rw [show ((2 : Int32) - (1 : Int32)) = (1 : Int32) from by decide]
  refine g_iload C 30 d8_28 rfl rfl ?_
  refine g_isub C 31 d8_30 rfl ?_
  rw [show ((1 : Int32) - (1 : Int32)) = (0 : Int32) from by decide]
  refine g_istore C 33 #[.val (.ref p1), .val (.ref ag), .val (.ref ab), .val (.ref ax), .val (.int (0 : Int32)), .val (.int (1 : Int32)), .val (.int (0 : Int32)), .val (.double (own_acc [xx0, xx1, xx2] bb1 R1)), .second, .val (.int k1)] d8_31 rfl rfl ?_
  refine g_aloadN C 34 d8_33 rfl rfl rfl ?_
  refine g_iload C 36 d8_34 rfl rfl ?_
  refine g_daload C 37 (i := 4) rfl d8_36 rfl (by decide) bb0 rfl ?_
  refine g_dstore C 39 #[.val (.ref p1), .val (.ref ag), .val (.ref ab), .val (.ref ax), .val (.int (0 : Int32)), .val (.int (1 : Int32)), .val (.int (0 : Int32)), .val (.double bb0), .second, .val (.int k1)] d8_37 rfl rfl ?_
  refine g_aloadN C 40 d8_39 rfl rfl rfl ?_
  refine g_getfield C 43 (i := 3) (j := 2) rfl rfl d8_40 rfl (List.mem_of_getElem? (i := 26) rfl) ?_
  refine g_iload C 45 d8_43 rfl rfl ?_
  refine g_iaload C 46 (i := 2) rfl d8_45 rfl (by decide) (0 : Int32) rfl ?_
  refine g_istore C 48 #[.val (.ref p1), .val (.ref ag), .val (.ref ab), .val (.ref ax), .val (.int (0 : Int32)), .val (.int (1 : Int32)), .val (.int (0 : Int32)), .val (.double bb0), .second, .val (.int (0 : Int32))] d8_46 rfl rfl ?_
  have H0 : ∀ (L pre : List Ent) (sd : UInt64), (R0 ++ R1 ++ R2) = pre ++ (L ++ (R1 ++ R2)) → (Int32.ofNat R0.length) = Int32.ofNat (pre.length + L.length) → own_accok [xx0, zz0, xx2] sd L → (∀ k : Int32, Go p l e ({ frames := 0, cells := 0, slots := 0, locals := 0 } : Room) s m #[(.ref p1), (.ref ag), (.ref ab), (.ref ax), (.int (0 : Int32))] below meth c h0 (fun v ds' => v = none ∧ [(kc, IA Z .int (ints (own_c (R0 ++ R1 ++ R2)))), (kv, DA Z (own_v (R0 ++ R1 ++ R2))), (ks, IA Z .int (ints [(0 : Int32), (Int32.ofNat R0.length), (Int32.ofNat (R0 ++ R1).length), (Int32.ofNat (R0 ++ R1 ++ R2).length)])), (p1, OB Z a0 "com/example/libplanar/libplanar/SparseMatrix" [("com/example/libplanar/libplanar/SparseMatrix", "rows", "I", (.int (2 : Int32))), ("com/example/libplanar/libplanar/SparseMatrix", "columnCount", "I", (.int (2 : Int32))), ("com/example/libplanar/libplanar/SparseMatrix", "rowStart", "[I", (.ref ks)), ("com/example/libplanar/libplanar/SparseMatrix", "columns", "[I", (.ref kc)), ("com/example/libplanar/libplanar/SparseMatrix", "values", "[D", (.ref kv))]), (ab, DA Z [bb0, bb1, bb2]), (ax, DA Z [zz1, zz0, xx2]), d6, (ag, DA Z [gg0, gg1, gg2])] = ds') [(kc, IA Z .int (ints (own_c (R0 ++ R1 ++ R2)))), (kv, DA Z (own_v (R0 ++ R1 ++ R2))), (ks, IA Z .int (ints [(0 : Int32), (Int32.ofNat R0.length), (Int32.ofNat (R0 ++ R1).length), (Int32.ofNat (R0 ++ R1 ++ R2).length)])), (p1, OB Z a0 "com/example/libplanar/libplanar/SparseMatrix" [("com/example/libplanar/libplanar/SparseMatrix", "rows", "I", (.int (2 : Int32))), ("com/example/libplanar/libplanar/SparseMatrix", "columnCount", "I", (.int (2 : Int32))), ("com/example/libplanar/libplanar/SparseMatrix", "rowStart", "[I", (.ref ks)), ("com/example/libplanar/libplanar/SparseMatrix", "columns", "[I", (.ref kc)), ("com/example/libplanar/libplanar/SparseMatrix", "values", "[D", (.ref kv))]), (ab, DA Z [bb0, bb1, bb2]), (ax, DA Z [xx0, zz0, xx2]), d6, (ag, DA Z [gg0, gg1, gg2])] 0 0 90 #[.val (.ref p1), .val (.ref ag), .val (.ref ab), .val (.ref ax), .val (.int (0 : Int32)), .val (.int (1 : Int32)), .val (.int (0 : Int32)), .val (.double (own_acc [xx0, zz0, xx2] sd L)), .second, .val (.int k)] []) → Go p l e ({ frames := 0, cells := 0, slots := 0, locals := 0 } : Room) s m #[(.ref p1), (.ref ag), (.ref ab), (.ref ax), (.int (0 : Int32))] below meth c h0 (fun v ds' => v = none ∧ [(kc, IA Z .int (ints (own_c (R0 ++ R1 ++ R2)))), (kv, DA Z (own_v (R0 ++ R1 ++ R2))), (ks, IA Z .int (ints [(0 : Int32), (Int32.ofNat R0.length), (Int32.ofNat (R0 ++ R1).length), (Int32.ofNat (R0 ++ R1 ++ R2).length)])), (p1, OB Z a0 "com/example/libplanar/libplanar/SparseMatrix" [("com/example/libplanar/libplanar/SparseMatrix", "rows", "I", (.int (2 : Int32))), ("com/example/libplanar/libplanar/SparseMatrix", "columnCount", "I", (.int (2 : Int32))), ("com/example/libplanar/libplanar/SparseMatrix", "rowStart", "[I", (.ref ks)), ("com/example/libplanar/libplanar/SparseMatrix", "columns", "[I", (.ref kc)), ("com/example/libplanar/libplanar/SparseMatrix", "values", "[D", (.ref kv))]), (ab, DA Z [bb0, bb1, bb2]), (ax, DA Z [zz1, zz0, xx2]), d6, (ag, DA Z [gg0, gg1, gg2])] = ds') [(kc, IA Z .int (ints (own_c (R0 ++ R1 ++ R2)))), (kv, DA Z (own_v (R0 ++ R1 ++ R2))), (ks, IA Z .int (ints [(0 : Int32), (Int32.ofNat R0.length), (Int32.ofNat (R0 ++ R1).length), (Int32.ofNat (R0 ++ R1 ++ R2).length)])), (p1, OB Z a0 "com/example/libplanar/libplanar/SparseMatrix" [("com/example/libplanar/libplanar/SparseMatrix", "rows", "I", (.int (2 : Int32))), ("com/example/libplanar/libplanar/SparseMatrix", "columnCount", "I", (.int (2 : Int32))), ("com/example/libplanar/libplanar/SparseMatrix", "rowStart", "[I", (.ref ks)), ("com/example/libplanar/libplanar/SparseMatrix", "columns", "[I", (.ref kc)), ("com/example/libplanar/libplanar/SparseMatrix", "values", "[D", (.ref kv))]), (ab, DA Z [bb0, bb1, bb2]), (ax, DA Z [xx0, zz0, xx2]), d6, (ag, DA Z [gg0, gg1, gg2])] 0 0 48 #[.val (.ref p1), .val (.ref ag), .val (.ref ab), .val (.ref ax), .val (.int (0 : Int32)), .val (.int (1 : Int32)), .val (.int (0 : Int32)), .val (.double sd), .second, .val (.int (Int32.ofNat pre.length))] [] := by
    intro L
    induction L with
    | nil =>
      intro pre sd hpre hE hok K
      refine g_iload C 50 d8_48 rfl rfl ?_
      refine g_aloadN C 51 d8_50 rfl rfl rfl ?_
      refine g_getfield C 54 (i := 3) (j := 2) rfl rfl d8_51 rfl (List.mem_of_getElem? (i := 26) rfl) ?_
      refine g_iload C 56 d8_54 rfl rfl ?_
      refine g_iconst C 57 (1 : Int32) d8_56 rfl rfl ?_
      refine g_iadd C 58 d8_57 rfl ?_
      rw [show ((0 : Int32) + (1 : Int32)) = (1 : Int32) from by decide]
      refine g_iaload C 59 (i := 2) rfl d8_58 rfl (by decide) (Int32.ofNat R0.length) rfl ?_
      refine g_icY C 90 d8_59 (flt ((by rw [hE]; exact fun q => Nat.lt_irrefl _ ((own_lt9 (own_pl hP hpre) (own_pl hP hpre)).mp q)) : ¬ ((Int32.ofNat pre.length) < (Int32.ofNat R0.length)))).2.1 (by decide) (by decide) ?_
      exact K _
    | cons xa L ih =>
      intro pre sd hpre hE hok K
      refine g_iload C 50 d8_48 rfl rfl ?_
      refine g_aloadN C 51 d8_50 rfl rfl rfl ?_
      refine g_getfield C 54 (i := 3) (j := 2) rfl rfl d8_51 rfl (List.mem_of_getElem? (i := 26) rfl) ?_
      refine g_iload C 56 d8_54 rfl rfl ?_
      refine g_iconst C 57 (1 : Int32) d8_56 rfl rfl ?_
      refine g_iadd C 58 d8_57 rfl ?_
      rw [show ((0 : Int32) + (1 : Int32)) = (1 : Int32) from by decide]
      refine g_iaload C 59 (i := 2) rfl d8_58 rfl (by decide) (Int32.ofNat R0.length) rfl ?_
      refine g_icN C 62 d8_59 (tlt ((by rw [hE]; exact (own_lt9 (own_pl hP hpre) (own_pe hP hpre)).mpr (by simp)) : (Int32.ofNat pre.length) < (Int32.ofNat R0.length))).2.1 rfl ?_
      refine g_dload C 64 d8_62 rfl rfl ?_
      refine g_aloadN C 65 d8_64 rfl rfl rfl ?_
      refine g_getfield C 68 (i := 3) (j := 4) rfl rfl d8_65 rfl (List.mem_of_getElem? (i := 30) rfl) ?_
      refine g_iload C 70 d8_68 rfl rfl ?_
      refine g_daload C 71 (i := 1) rfl d8_70 rfl (own_n9 (own_pl hP hpre)).2 xa.2 (by rw [hpre]; exact own_vget (own_pc hP hpre)) ?_
      refine g_aloadN C 72 d8_71 rfl rfl rfl ?_
      refine g_aloadN C 73 d8_72 rfl rfl rfl ?_
      refine g_getfield C 76 (i := 3) (j := 3) rfl rfl d8_73 rfl (List.mem_of_getElem? (i := 28) rfl) ?_
      refine g_iload C 78 d8_76 rfl rfl ?_
      refine g_iaload C 79 (i := 0) rfl d8_78 rfl (own_n9 (own_pl hP hpre)).2 xa.1 (by rw [hpre]; exact own_cget (own_pc hP hpre)) ?_
      refine g_daload C 80 (i := 5) rfl d8_79 rfl hok.1.1 (own_xe [xx0, zz0, xx2] xa.1) (own_xg hok.1.2) ?_
      refine g_dmul C 81 d8_80 rfl hok.2.1 ?_
      refine g_dsub C 82 d8_81 rfl hok.2.2.1 ?_
      refine g_dstore C 84 #[.val (.ref p1), .val (.ref ag), .val (.ref ab), .val (.ref ax), .val (.int (0 : Int32)), .val (.int (1 : Int32)), .val (.int (0 : Int32)), .val (.double (FP.dsub sd (FP.dmul xa.2 (own_xe [xx0, zz0, xx2] xa.1)))), .second, .val (.int (Int32.ofNat pre.length))] d8_82 rfl rfl ?_
      refine g_iinc C 87 ((Int32.ofNat pre.length) + (1 : Int32)) #[.val (.ref p1), .val (.ref ag), .val (.ref ab), .val (.ref ax), .val (.int (0 : Int32)), .val (.int (1 : Int32)), .val (.int (0 : Int32)), .val (.double (FP.dsub sd (FP.dmul xa.2 (own_xe [xx0, zz0, xx2] xa.1)))), .second, .val (.int ((Int32.ofNat pre.length) + (1 : Int32)))] d8_84 rfl rfl rfl rfl ?_
      refine g_goto C 48 d8_87 (by decide) (by decide) ?_
      rw [own_s9 (own_pl hP hpre), show pre.length + 1 = (pre ++ [xa]).length by simp]
      exact ih (pre ++ [xa]) _ (by rw [hpre]; simp) (hE.trans (congrArg Int32.ofNat (by simp only [List.length_cons, List.length_append, List.length_nil]; omega))) hok.2.2.2 K
  refine H0 R0 [] _ (by simp) (congrArg Int32.ofNat (by first | (simp; done) | (simp; omega))) hA1 ?_
  intro k2
  show Go _ _ _ _ _ _ _ _ _ _ _ _ [(kc, IA Z .int (ints (own_c (R0 ++ R1 ++ R2)))), (kv, DA Z (own_v (R0 ++ R1 ++ R2))), (ks, IA Z .int (ints [(0 : Int32), (Int32.ofNat R0.length), (Int32.ofNat (R0 ++ R1).length), (Int32.ofNat (R0 ++ R1 ++ R2).length)])), (p1, OB Z a0 "com/example/libplanar/libplanar/SparseMatrix" [("com/example/libplanar/libplanar/SparseMatrix", "rows", "I", (.int (2 : Int32))), ("com/example/libplanar/libplanar/SparseMatrix", "columnCount", "I", (.int (2 : Int32))), ("com/example/libplanar/libplanar/SparseMatrix", "rowStart", "[I", (.ref ks)), ("com/example/libplanar/libplanar/SparseMatrix", "columns", "[I", (.ref kc)), ("com/example/libplanar/libplanar/SparseMatrix", "values", "[D", (.ref kv))]), (ab, DA Z [bb0, bb1, bb2]), (ax, DA Z [xx0, zz0, xx2]), d6, (ag, DA Z [gg0, gg1, gg2])] 0 0 90 #[.val (.ref p1), .val (.ref ag), .val (.ref ab), .val (.ref ax), .val (.int (0 : Int32)), .val (.int (1 : Int32)), .val (.int (0 : Int32)), .val (.double (own_acc [xx0, zz0, xx2] bb0 R0)), .second, .val (.int k2)] []
  refine g_aloadN C 91 d8_90 rfl rfl rfl ?_
  refine g_iload C 93 d8_91 rfl rfl ?_
  refine g_dup2 C 94 d8_93 rfl rfl rfl ?_
  refine g_daload C 95 (i := 5) rfl d8_94 rfl (by decide) xx0 rfl ?_
  refine g_dload C 97 d8_95 rfl rfl ?_
  refine g_aloadN C 98 d8_97 rfl rfl rfl ?_
  refine g_iload C 100 d8_98 rfl rfl ?_
  refine g_daload C 101 (i := 7) rfl d8_100 rfl (by decide) gg0 rfl ?_
  refine g_ddiv C 102 d8_101 rfl hD1 ?_
  refine g_dadd C 103 d8_102 rfl hS1 ?_
  refine g_dastore C 104 (i := 5) [(FP.dadd xx0 (FP.ddiv (own_acc [xx0, zz0, xx2] bb0 R0) gg0)), zz0, xx2] [(kc, IA Z .int (ints (own_c (R0 ++ R1 ++ R2)))), (kv, DA Z (own_v (R0 ++ R1 ++ R2))), (ks, IA Z .int (ints [(0 : Int32), (Int32.ofNat R0.length), (Int32.ofNat (R0 ++ R1).length), (Int32.ofNat (R0 ++ R1 ++ R2).length)])), (p1, OB Z a0 "com/example/libplanar/libplanar/SparseMatrix" [("com/example/libplanar/libplanar/SparseMatrix", "rows", "I", (.int (2 : Int32))), ("com/example/libplanar/libplanar/SparseMatrix", "columnCount", "I", (.int (2 : Int32))), ("com/example/libplanar/libplanar/SparseMatrix", "rowStart", "[I", (.ref ks)), ("com/example/libplanar/libplanar/SparseMatrix", "columns", "[I", (.ref kc)), ("com/example/libplanar/libplanar/SparseMatrix", "values", "[D", (.ref kv))]), (ab, DA Z [bb0, bb1, bb2]), (ax, DA Z [(FP.dadd xx0 (FP.ddiv (own_acc [xx0, zz0, xx2] bb0 R0) gg0)), zz0, xx2]), d6, (ag, DA Z [gg0, gg1, gg2])] rfl d8_103 rfl (by decide) (Nat.le_of_ble_eq_true rfl) rfl rfl ?_
  rw [hz1]
  show Go _ _ _ _ _ _ _ _ _ _ _ _ [(kc, IA Z .int (ints (own_c (R0 ++ R1 ++ R2)))), (kv, DA Z (own_v (R0 ++ R1 ++ R2))), (ks, IA Z .int (ints [(0 : Int32), (Int32.ofNat R0.length), (Int32.ofNat (R0 ++ R1).length), (Int32.ofNat (R0 ++ R1 ++ R2).length)])), (p1, OB Z a0 "com/example/libplanar/libplanar/SparseMatrix" [("com/example/libplanar/libplanar/SparseMatrix", "rows", "I", (.int (2 : Int32))), ("com/example/libplanar/libplanar/SparseMatrix", "columnCount", "I", (.int (2 : Int32))), ("com/example/libplanar/libplanar/SparseMatrix", "rowStart", "[I", (.ref ks)), ("com/example/libplanar/libplanar/SparseMatrix", "columns", "[I", (.ref kc)), ("com/example/libplanar/libplanar/SparseMatrix", "values", "[D", (.ref kv))]), (ab, DA Z [bb0, bb1, bb2]), (ax, DA Z [zz1, zz0, xx2]), d6, (ag, DA Z [gg0, gg1, gg2])] 0 0 104 #[.val (.ref p1), .val (.ref ag), .val (.ref ab), .val (.ref ax), .val (.int (0 : Int32)), .val (.int (1 : Int32)), .val (.int (0 : Int32)), .val (.double (own_acc [xx0, zz0, xx2] bb0 R0)), .second, .val (.int k2)] []
  refine g_iinc C 107 (2 : Int32) #[.val (.ref p1), .val (.ref ag), .val (.ref ab), .val (.ref ax), .val (.int (0 : Int32)), .val (.int (2 : Int32)), .val (.int (0 : Int32)), .val (.double (own_acc [xx0, zz0, xx2] bb0 R0)), .second, .val (.int k2)] d8_104 rfl rfl (by decide) rfl ?_
  refine g_goto C 3 d8_107 (by decide) (by decide) ?_
  refine g_iload C 5 d8_3 rfl rfl ?_
  refine g_aloadN C 6 d8_5 rfl rfl rfl ?_
  refine g_getfield C 9 (i := 3) (j := 0) rfl rfl d8_6 rfl (List.mem_of_getElem? (i := 22) rfl) ?_
  refine g_icY C 110 d8_9 (flt ((by decide) : ¬ ((2 : Int32) < (2 : Int32)))).2.1 (by decide) (by decide) ?_
  exact g_ret C d8_110 (by decide) (by decide) ⟨rfl, rfl⟩
set_option maxRecDepth 65536 in
set_option maxHeartbeats 40000000 in
theorem con_gs21 (l : Launch) (Z : State) (a0 : Array Value) (hw : ∀ d ∈ tables_1, d.before a0 Z = true) (h0 : Heap) (kc kv ks p1 ab ax ag : Addr) (d6 : Addr × Desc) (R0 R1 R2 : List Ent) (bb0 bb1 bb2 xx0 xx1 xx2 gg0 gg1 gg2 : UInt64) (zz0 zz1 : UInt64) (hP : (R0 ++ R1 ++ R2).length ≤ 9) (hA0 : own_accok [xx0, xx1, xx2] bb0 R0) (hD0 : Jvm.Free.Fl.NoNaN64 (FP.ddiv (own_acc [xx0, xx1, xx2] bb0 R0) gg0)) (hS0 : Jvm.Free.Fl.NoNaN64 (FP.dadd xx0 (FP.ddiv (own_acc [xx0, xx1, xx2] bb0 R0) gg0))) (hz0 : (FP.dadd xx0 (FP.ddiv (own_acc [xx0, xx1, xx2] bb0 R0) gg0)) = zz0) (hA1 : own_accok [zz0, xx1, xx2] bb1 R1) (hD1 : Jvm.Free.Fl.NoNaN64 (FP.ddiv (own_acc [zz0, xx1, xx2] bb1 R1) gg1)) (hS1 : Jvm.Free.Fl.NoNaN64 (FP.dadd xx1 (FP.ddiv (own_acc [zz0, xx1, xx2] bb1 R1) gg1))) (hz1 : (FP.dadd xx1 (FP.ddiv (own_acc [zz0, xx1, xx2] bb1 R1) gg1)) = zz1) :
    Con l Z (⟨"com/example/libplanar/libplanar/SparseMatrix", "gaussSeidel", "([D[D[DZ)V"⟩ : MethodName) prog_91_method_15_code 10 none ({ frames := 0, cells := 0, slots := 0, locals := 0 } : Room) h0 #[(.ref p1), (.ref ag), (.ref ab), (.ref ax), (.int (1 : Int32))] [(kc, IA Z .int (ints (own_c (R0 ++ R1 ++ R2)))), (kv, DA Z (own_v (R0 ++ R1 ++ R2))), (ks, IA Z .int (ints [(0 : Int32), (Int32.ofNat R0.length), (Int32.ofNat (R0 ++ R1).length), (Int32.ofNat (R0 ++ R1 ++ R2).length)])), (p1, OB Z a0 "com/example/libplanar/libplanar/SparseMatrix" [("com/example/libplanar/libplanar/SparseMatrix", "rows", "I", (.int (2 : Int32))), ("com/example/libplanar/libplanar/SparseMatrix", "columnCount", "I", (.int (2 : Int32))), ("com/example/libplanar/libplanar/SparseMatrix", "rowStart", "[I", (.ref ks)), ("com/example/libplanar/libplanar/SparseMatrix", "columns", "[I", (.ref kc)), ("com/example/libplanar/libplanar/SparseMatrix", "values", "[D", (.ref kv))]), (ab, DA Z [bb0, bb1, bb2]), (ax, DA Z [xx0, xx1, xx2]), d6, (ag, DA Z [gg0, gg1, gg2])] (fun v ds' => v = none ∧ [(kc, IA Z .int (ints (own_c (R0 ++ R1 ++ R2)))), (kv, DA Z (own_v (R0 ++ R1 ++ R2))), (ks, IA Z .int (ints [(0 : Int32), (Int32.ofNat R0.length), (Int32.ofNat (R0 ++ R1).length), (Int32.ofNat (R0 ++ R1 ++ R2).length)])), (p1, OB Z a0 "com/example/libplanar/libplanar/SparseMatrix" [("com/example/libplanar/libplanar/SparseMatrix", "rows", "I", (.int (2 : Int32))), ("com/example/libplanar/libplanar/SparseMatrix", "columnCount", "I", (.int (2 : Int32))), ("com/example/libplanar/libplanar/SparseMatrix", "rowStart", "[I", (.ref ks)), ("com/example/libplanar/libplanar/SparseMatrix", "columns", "[I", (.ref kc)), ("com/example/libplanar/libplanar/SparseMatrix", "values", "[D", (.ref kv))]), (ab, DA Z [bb0, bb1, bb2]), (ax, DA Z [zz0, zz1, xx2]), d6, (ag, DA Z [gg0, gg1, gg2])] = ds') := by
  refine con_of (a0 := a0) (Ls := #[.val (.ref p1), .val (.ref ag), .val (.ref ab), .val (.ref ax), .val (.int (1 : Int32)), .unset, .unset, .unset, .unset, .unset]) (plainFor_of_name (by first | (simp [plainName, overriddenIn]; done) | decide +kernel)) hw (fun m => by first | (simp [entryFrame, mkF, argsToLocals, Value.category]; done) | rfl) ?_
  intro p e s m below meth c C
  refine g_iconst C 1 (0 : Int32) d8_0 rfl rfl ?_
  refine g_istore C 3 #[.val (.ref p1), .val (.ref ag), .val (.ref ab), .val (.ref ax), .val (.int (1 : Int32)), .val (.int (0 : Int32)), .unset, .unset, .unset, .unset] d8_1 rfl rfl ?_
  refine g_iload C 5 d8_3 rfl rfl ?_
  refine g_aloadN C 6 d8_5 rfl rfl rfl ?_
  refine g_getfield C 9 (i := 3) (j := 0) rfl rfl d8_6 rfl (List.mem_of_getElem? (i := 22) rfl) ?_
  refine g_icN C 12 d8_9 (tlt ((by decide) : (0 : Int32) < (2 : Int32))).2.1 rfl ?_
  refine g_iload C 14 d8_12 rfl rfl ?_
  refine g_ifN C 17 d8_14 (feq ((by decide) : ¬ ((1 : Int32) = (0 : Int32)))).1 rfl ?_
  refine g_iload C 19 d8_17 rfl rfl ?_
  refine g_goto C 31 d8_19 (by decide) (by decide) ?_
  refine g_istore C 33 #[.val (.ref p1), .val (.ref ag), .val (.ref ab), .val (.ref ax), .val (.int (1 : Int32)), .val (.int (0 : Int32)), .val (.int (0 : Int32)), .unset, .unset, .unset] d8_31 rfl rfl ?_
  refine g_aloadN C 34 d8_33 rfl rfl rfl ?_
  refine g_iload C 36 d8_34 rfl rfl ?_
  refine g_daload C 37 (i := 4) rfl d8_36 rfl (by decide) bb0 rfl ?_
  refine g_dstore C 39 #[.val (.ref p1), .val (.ref ag), .val (.ref ab), .val (.ref ax), .val (.int (1 : Int32)), .val (.int (0 : Int32)), .val (.int (0 : Int32)), .val (.double bb0), .second, .unset] d8_37 rfl rfl ?_
  refine g_aloadN C 40 d8_39 rfl rfl rfl ?_
  refine g_getfield C 43 (i := 3) (j := 2) rfl rfl d8_40 rfl (List.mem_of_getElem? (i := 26) rfl) ?_
  refine g_iload C 45 d8_43 rfl rfl ?_
  refine g_iaload C 46 (i := 2) rfl d8_45 rfl (by decide) (0 : Int32) rfl ?_
  refine g_istore C 48 #[.val (.ref p1), .val (.ref ag), .val (.ref ab), .val (.ref ax), .val (.int (1 : Int32)), .val (.int (0 : Int32)), .val (.int (0 : Int32)), .val (.double bb0), .second, .val (.int (0 : Int32))] d8_46 rfl rfl ?_
  have H0 : ∀ (L pre : List Ent) (sd : UInt64), (R0 ++ R1 ++ R2) = pre ++ (L ++ (R1 ++ R2)) → (Int32.ofNat R0.length) = Int32.ofNat (pre.length + L.length) → own_accok [xx0, xx1, xx2] sd L → (∀ k : Int32, Go p l e ({ frames := 0, cells := 0, slots := 0, locals := 0 } : Room) s m #[(.ref p1), (.ref ag), (.ref ab), (.ref ax), (.int (1 : Int32))] below meth c h0 (fun v ds' => v = none ∧ [(kc, IA Z .int (ints (own_c (R0 ++ R1 ++ R2)))), (kv, DA Z (own_v (R0 ++ R1 ++ R2))), (ks, IA Z .int (ints [(0 : Int32), (Int32.ofNat R0.length), (Int32.ofNat (R0 ++ R1).length), (Int32.ofNat (R0 ++ R1 ++ R2).length)])), (p1, OB Z a0 "com/example/libplanar/libplanar/SparseMatrix" [("com/example/libplanar/libplanar/SparseMatrix", "rows", "I", (.int (2 : Int32))), ("com/example/libplanar/libplanar/SparseMatrix", "columnCount", "I", (.int (2 : Int32))), ("com/example/libplanar/libplanar/SparseMatrix", "rowStart", "[I", (.ref ks)), ("com/example/libplanar/libplanar/SparseMatrix", "columns", "[I", (.ref kc)), ("com/example/libplanar/libplanar/SparseMatrix", "values", "[D", (.ref kv))]), (ab, DA Z [bb0, bb1, bb2]), (ax, DA Z [zz0, zz1, xx2]), d6, (ag, DA Z [gg0, gg1, gg2])] = ds') [(kc, IA Z .int (ints (own_c (R0 ++ R1 ++ R2)))), (kv, DA Z (own_v (R0 ++ R1 ++ R2))), (ks, IA Z .int (ints [(0 : Int32), (Int32.ofNat R0.length), (Int32.ofNat (R0 ++ R1).length), (Int32.ofNat (R0 ++ R1 ++ R2).length)])), (p1, OB Z a0 "com/example/libplanar/libplanar/SparseMatrix" [("com/example/libplanar/libplanar/SparseMatrix", "rows", "I", (.int (2 : Int32))), ("com/example/libplanar/libplanar/SparseMatrix", "columnCount", "I", (.int (2 : Int32))), ("com/example/libplanar/libplanar/SparseMatrix", "rowStart", "[I", (.ref ks)), ("com/example/libplanar/libplanar/SparseMatrix", "columns", "[I", (.ref kc)), ("com/example/libplanar/libplanar/SparseMatrix", "values", "[D", (.ref kv))]), (ab, DA Z [bb0, bb1, bb2]), (ax, DA Z [xx0, xx1, xx2]), d6, (ag, DA Z [gg0, gg1, gg2])] 0 0 90 #[.val (.ref p1), .val (.ref ag), .val (.ref ab), .val (.ref ax), .val (.int (1 : Int32)), .val (.int (0 : Int32)), .val (.int (0 : Int32)), .val (.double (own_acc [xx0, xx1, xx2] sd L)), .second, .val (.int k)] []) → Go p l e ({ frames := 0, cells := 0, slots := 0, locals := 0 } : Room) s m #[(.ref p1), (.ref ag), (.ref ab), (.ref ax), (.int (1 : Int32))] below meth c h0 (fun v ds' => v = none ∧ [(kc, IA Z .int (ints (own_c (R0 ++ R1 ++ R2)))), (kv, DA Z (own_v (R0 ++ R1 ++ R2))), (ks, IA Z .int (ints [(0 : Int32), (Int32.ofNat R0.length), (Int32.ofNat (R0 ++ R1).length), (Int32.ofNat (R0 ++ R1 ++ R2).length)])), (p1, OB Z a0 "com/example/libplanar/libplanar/SparseMatrix" [("com/example/libplanar/libplanar/SparseMatrix", "rows", "I", (.int (2 : Int32))), ("com/example/libplanar/libplanar/SparseMatrix", "columnCount", "I", (.int (2 : Int32))), ("com/example/libplanar/libplanar/SparseMatrix", "rowStart", "[I", (.ref ks)), ("com/example/libplanar/libplanar/SparseMatrix", "columns", "[I", (.ref kc)), ("com/example/libplanar/libplanar/SparseMatrix", "values", "[D", (.ref kv))]), (ab, DA Z [bb0, bb1, bb2]), (ax, DA Z [zz0, zz1, xx2]), d6, (ag, DA Z [gg0, gg1, gg2])] = ds') [(kc, IA Z .int (ints (own_c (R0 ++ R1 ++ R2)))), (kv, DA Z (own_v (R0 ++ R1 ++ R2))), (ks, IA Z .int (ints [(0 : Int32), (Int32.ofNat R0.length), (Int32.ofNat (R0 ++ R1).length), (Int32.ofNat (R0 ++ R1 ++ R2).length)])), (p1, OB Z a0 "com/example/libplanar/libplanar/SparseMatrix" [("com/example/libplanar/libplanar/SparseMatrix", "rows", "I", (.int (2 : Int32))), ("com/example/libplanar/libplanar/SparseMatrix", "columnCount", "I", (.int (2 : Int32))), ("com/example/libplanar/libplanar/SparseMatrix", "rowStart", "[I", (.ref ks)), ("com/example/libplanar/libplanar/SparseMatrix", "columns", "[I", (.ref kc)), ("com/example/libplanar/libplanar/SparseMatrix", "values", "[D", (.ref kv))]), (ab, DA Z [bb0, bb1, bb2]), (ax, DA Z [xx0, xx1, xx2]), d6, (ag, DA Z [gg0, gg1, gg2])] 0 0 48 #[.val (.ref p1), .val (.ref ag), .val (.ref ab), .val (.ref ax), .val (.int (1 : Int32)), .val (.int (0 : Int32)), .val (.int (0 : Int32)), .val (.double sd), .second, .val (.int (Int32.ofNat pre.length))] [] := by
    intro L
    induction L with
    | nil =>
      intro pre sd hpre hE hok K
      refine g_iload C 50 d8_48 rfl rfl ?_
      refine g_aloadN C 51 d8_50 rfl rfl rfl ?_
      refine g_getfield C 54 (i := 3) (j := 2) rfl rfl d8_51 rfl (List.mem_of_getElem? (i := 26) rfl) ?_
      refine g_iload C 56 d8_54 rfl rfl ?_
      refine g_iconst C 57 (1 : Int32) d8_56 rfl rfl ?_
      refine g_iadd C 58 d8_57 rfl ?_
      rw [show ((0 : Int32) + (1 : Int32)) = (1 : Int32) from by decide]
      refine g_iaload C 59 (i := 2) rfl d8_58 rfl (by decide) (Int32.ofNat R0.length) rfl ?_
      refine g_icY C 90 d8_59 (flt ((by rw [hE]; exact fun q => Nat.lt_irrefl _ ((own_lt9 (own_pl hP hpre) (own_pl hP hpre)).mp q)) : ¬ ((Int32.ofNat pre.length) < (Int32.ofNat R0.length)))).2.1 (by decide) (by decide) ?_
      exact K _
    | cons xa L ih =>
      intro pre sd hpre hE hok K
      refine g_iload C 50 d8_48 rfl rfl ?_
      refine g_aloadN C 51 d8_50 rfl rfl rfl ?_
      refine g_getfield C 54 (i := 3) (j := 2) rfl rfl d8_51 rfl (List.mem_of_getElem? (i := 26) rfl) ?_
      refine g_iload C 56 d8_54 rfl rfl ?_
      refine g_iconst C 57 (1 : Int32) d8_56 rfl rfl ?_
      refine g_iadd C 58 d8_57 rfl ?_
      rw [show ((0 : Int32) + (1 : Int32)) = (1 : Int32) from by decide]
      refine g_iaload C 59 (i := 2) rfl d8_58 rfl (by decide) (Int32.ofNat R0.length) rfl ?_
      refine g_icN C 62 d8_59 (tlt ((by rw [hE]; exact (own_lt9 (own_pl hP hpre) (own_pe hP hpre)).mpr (by simp)) : (Int32.ofNat pre.length) < (Int32.ofNat R0.length))).2.1 rfl ?_
      refine g_dload C 64 d8_62 rfl rfl ?_
      refine g_aloadN C 65 d8_64 rfl rfl rfl ?_
      refine g_getfield C 68 (i := 3) (j := 4) rfl rfl d8_65 rfl (List.mem_of_getElem? (i := 30) rfl) ?_
      refine g_iload C 70 d8_68 rfl rfl ?_
      refine g_daload C 71 (i := 1) rfl d8_70 rfl (own_n9 (own_pl hP hpre)).2 xa.2 (by rw [hpre]; exact own_vget (own_pc hP hpre)) ?_
      refine g_aloadN C 72 d8_71 rfl rfl rfl ?_
      refine g_aloadN C 73 d8_72 rfl rfl rfl ?_
      refine g_getfield C 76 (i := 3) (j := 3) rfl rfl d8_73 rfl (List.mem_of_getElem? (i := 28) rfl) ?_
      refine g_iload C 78 d8_76 rfl rfl ?_
      refine g_iaload C 79 (i := 0) rfl d8_78 rfl (own_n9 (own_pl hP hpre)).2 xa.1 (by rw [hpre]; exact own_cget (own_pc hP hpre)) ?_
      refine g_daload C 80 (i := 5) rfl d8_79 rfl hok.1.1 (own_xe [xx0, xx1, xx2] xa.1) (own_xg hok.1.2) ?_
      refine g_dmul C 81 d8_80 rfl hok.2.1 ?_
      refine g_dsub C 82 d8_81 rfl hok.2.2.1 ?_
      refine g_dstore C 84 #[.val (.ref p1), .val (.ref ag), .val (.ref ab), .val (.ref ax), .val (.int (1 : Int32)), .val (.int (0 : Int32)), .val (.int (0 : Int32)), .val (.double (FP.dsub sd (FP.dmul xa.2 (own_xe [xx0, xx1, xx2] xa.1)))), .second, .val (.int (Int32.ofNat pre.length))] d8_82 rfl rfl ?_
      refine g_iinc C 87 ((Int32.ofNat pre.length) + (1 : Int32)) #[.val (.ref p1), .val (.ref ag), .val (.ref ab), .val (.ref ax), .val (.int (1 : Int32)), .val (.int (0 : Int32)), .val (.int (0 : Int32)), .val (.double (FP.dsub sd (FP.dmul xa.2 (own_xe [xx0, xx1, xx2] xa.1)))), .second, .val (.int ((Int32.ofNat pre.length) + (1 : Int32)))] d8_84 rfl rfl rfl rfl ?_
      refine g_goto C 48 d8_87 (by decide) (by decide) ?_
      rw [own_s9 (own_pl hP hpre), show pre.length + 1 = (pre ++ [xa]).length by simp]
      exact ih (pre ++ [xa]) _ (by rw [hpre]; simp) (hE.trans (congrArg Int32.ofNat (by simp only [List.length_cons, List.length_append, List.length_nil]; omega))) hok.2.2.2 K
  refine H0 R0 [] _ (by simp) (congrArg Int32.ofNat (by first | (simp; done) | (simp; omega))) hA0 ?_
  intro k1
  show Go _ _ _ _ _ _ _ _ _ _ _ _ [(kc, IA Z .int (ints (own_c (R0 ++ R1 ++ R2)))), (kv, DA Z (own_v (R0 ++ R1 ++ R2))), (ks, IA Z .int (ints [(0 : Int32), (Int32.ofNat R0.length), (Int32.ofNat (R0 ++ R1).length), (Int32.ofNat (R0 ++ R1 ++ R2).length)])), (p1, OB Z a0 "com/example/libplanar/libplanar/SparseMatrix" [("com/example/libplanar/libplanar/SparseMatrix", "rows", "I", (.int (2 : Int32))), ("com/example/libplanar/libplanar/SparseMatrix", "columnCount", "I", (.int (2 : Int32))), ("com/example/libplanar/libplanar/SparseMatrix", "rowStart", "[I", (.ref ks)), ("com/example/libplanar/libplanar/SparseMatrix", "columns", "[I", (.ref kc)), ("com/example/libplanar/libplanar/SparseMatrix", "values", "[D", (.ref kv))]), (ab, DA Z [bb0, bb1, bb2]), (ax, DA Z [xx0, xx1, xx2]), d6, (ag, DA Z [gg0, gg1, gg2])] 0 0 90 #[.val (.ref p1), .val (.ref ag), .val (.ref ab), .val (.ref ax), .val (.int (1 : Int32)), .val (.int (0 : Int32)), .val (.int (0 : Int32)), .val (.double (own_acc [xx0, xx1, xx2] bb0 R0)), .second, .val (.int k1)] []
  refine g_aloadN C 91 d8_90 rfl rfl rfl ?_
  refine g_iload C 93 d8_91 rfl rfl ?_
  refine g_dup2 C 94 d8_93 rfl rfl rfl ?_
  refine g_daload C 95 (i := 5) rfl d8_94 rfl (by decide) xx0 rfl ?_
  refine g_dload C 97 d8_95 rfl rfl ?_
  refine g_aloadN C 98 d8_97 rfl rfl rfl ?_
  refine g_iload C 100 d8_98 rfl rfl ?_
  refine g_daload C 101 (i := 7) rfl d8_100 rfl (by decide) gg0 rfl ?_
  refine g_ddiv C 102 d8_101 rfl hD0 ?_
  refine g_dadd C 103 d8_102 rfl hS0 ?_
  refine g_dastore C 104 (i := 5) [(FP.dadd xx0 (FP.ddiv (own_acc [xx0, xx1, xx2] bb0 R0) gg0)), xx1, xx2] [(kc, IA Z .int (ints (own_c (R0 ++ R1 ++ R2)))), (kv, DA Z (own_v (R0 ++ R1 ++ R2))), (ks, IA Z .int (ints [(0 : Int32), (Int32.ofNat R0.length), (Int32.ofNat (R0 ++ R1).length), (Int32.ofNat (R0 ++ R1 ++ R2).length)])), (p1, OB Z a0 "com/example/libplanar/libplanar/SparseMatrix" [("com/example/libplanar/libplanar/SparseMatrix", "rows", "I", (.int (2 : Int32))), ("com/example/libplanar/libplanar/SparseMatrix", "columnCount", "I", (.int (2 : Int32))), ("com/example/libplanar/libplanar/SparseMatrix", "rowStart", "[I", (.ref ks)), ("com/example/libplanar/libplanar/SparseMatrix", "columns", "[I", (.ref kc)), ("com/example/libplanar/libplanar/SparseMatrix", "values", "[D", (.ref kv))]), (ab, DA Z [bb0, bb1, bb2]), (ax, DA Z [(FP.dadd xx0 (FP.ddiv (own_acc [xx0, xx1, xx2] bb0 R0) gg0)), xx1, xx2]), d6, (ag, DA Z [gg0, gg1, gg2])] rfl d8_103 rfl (by decide) (Nat.le_of_ble_eq_true rfl) rfl rfl ?_
  rw [hz0]
  show Go _ _ _ _ _ _ _ _ _ _ _ _ [(kc, IA Z .int (ints (own_c (R0 ++ R1 ++ R2)))), (kv, DA Z (own_v (R0 ++ R1 ++ R2))), (ks, IA Z .int (ints [(0 : Int32), (Int32.ofNat R0.length), (Int32.ofNat (R0 ++ R1).length), (Int32.ofNat (R0 ++ R1 ++ R2).length)])), (p1, OB Z a0 "com/example/libplanar/libplanar/SparseMatrix" [("com/example/libplanar/libplanar/SparseMatrix", "rows", "I", (.int (2 : Int32))), ("com/example/libplanar/libplanar/SparseMatrix", "columnCount", "I", (.int (2 : Int32))), ("com/example/libplanar/libplanar/SparseMatrix", "rowStart", "[I", (.ref ks)), ("com/example/libplanar/libplanar/SparseMatrix", "columns", "[I", (.ref kc)), ("com/example/libplanar/libplanar/SparseMatrix", "values", "[D", (.ref kv))]), (ab, DA Z [bb0, bb1, bb2]), (ax, DA Z [zz0, xx1, xx2]), d6, (ag, DA Z [gg0, gg1, gg2])] 0 0 104 #[.val (.ref p1), .val (.ref ag), .val (.ref ab), .val (.ref ax), .val (.int (1 : Int32)), .val (.int (0 : Int32)), .val (.int (0 : Int32)), .val (.double (own_acc [xx0, xx1, xx2] bb0 R0)), .second, .val (.int k1)] []
  refine g_iinc C 107 (1 : Int32) #[.val (.ref p1), .val (.ref ag), .val (.ref ab), .val (.ref ax), .val (.int (1 : Int32)), .val (.int (1 : Int32)), .val (.int (0 : Int32)), .val (.double (own_acc [xx0, xx1, xx2] bb0 R0)), .second, .val (.int k1)] d8_104 rfl rfl (by decide) rfl ?_
  refine g_goto C 3 d8_107 (by decide) (by decide) ?_
  refine g_iload C 5 d8_3 rfl rfl ?_
  refine g_aloadN C 6 d8_5 rfl rfl rfl ?_
  refine g_getfield C 9 (i := 3) (j := 0) rfl rfl d8_6 rfl (List.mem_of_getElem? (i := 22) rfl) ?_
  refine g_icN C 12 d8_9 (tlt ((by decide) : (1 : Int32) < (2 : Int32))).2.1 rfl ?_
  refine g_iload C 14 d8_12 rfl rfl ?_
  refine g_ifN C 17 d8_14 (feq ((by decide) : ¬ ((1 : Int32) = (0 : Int32)))).1 rfl ?_
  refine g_iload C 19 d8_17 rfl rfl ?_
  refine g_goto C 31 d8_19 (by decide) (by decide) ?_
  refine g_istore C 33 #[.val (.ref p1), .val (.ref ag), .val (.ref ab), .val (.ref ax), .val (.int (1 : Int32)), .val (.int (1 : Int32)), .val (.int (1 : Int32)), .val (.double (own_acc [xx0, xx1, xx2] bb0 R0)), .second, .val (.int k1)] d8_31 rfl rfl ?_
  refine g_aloadN C 34 d8_33 rfl rfl rfl ?_
  refine g_iload C 36 d8_34 rfl rfl ?_
  refine g_daload C 37 (i := 4) rfl d8_36 rfl (by decide) bb1 rfl ?_
  refine g_dstore C 39 #[.val (.ref p1), .val (.ref ag), .val (.ref ab), .val (.ref ax), .val (.int (1 : Int32)), .val (.int (1 : Int32)), .val (.int (1 : Int32)), .val (.double bb1), .second, .val (.int k1)] d8_37 rfl rfl ?_
  refine g_aloadN C 40 d8_39 rfl rfl rfl ?_
  refine g_getfield C 43 (i := 3) (j := 2) rfl rfl d8_40 rfl (List.mem_of_getElem? (i := 26) rfl) ?_
  refine g_iload C 45 d8_43 rfl rfl ?_
  refine g_iaload C 46 (i := 2) rfl d8_45 rfl (by decide) (Int32.ofNat R0.length) rfl ?_
  refine g_istore C 48 #[.val (.ref p1), .val (.ref ag), .val (.ref ab), .val (.ref ax), .val (.int (1 : Int32)), .val (.int (1 : Int32)), .val (.int (1 : Int32)), .val (.double bb1), .second, .val (.int (Int32.ofNat R0.length))] d8_46 rfl rfl ?_
  have H1 : ∀ (L pre : List Ent) (sd : UInt64), (R0 ++ R1 ++ R2) = pre ++ (L ++ R2) → (Int32.ofNat (R0 ++ R1).length) = Int32.ofNat (pre.length + L.length) → own_accok [zz0, xx1, xx2] sd L → (∀ k : Int32, Go p l e ({ frames := 0, cells := 0, slots := 0, locals := 0 } : Room) s m #[(.ref p1), (.ref ag), (.ref ab), (.ref ax), (.int (1 : Int32))] below meth c h0 (fun v ds' => v = none ∧ [(kc, IA Z .int (ints (own_c (R0 ++ R1 ++ R2)))), (kv, DA Z (own_v (R0 ++ R1 ++ R2))), (ks, IA Z .int (ints [(0 : Int32), (Int32.ofNat R0.length), (Int32.ofNat (R0 ++ R1).length), (Int32.ofNat (R0 ++ R1 ++ R2).length)])), (p1, OB Z a0 "com/example/libplanar/libplanar/SparseMatrix" [("com/example/libplanar/libplanar/SparseMatrix", "rows", "I", (.int (2 : Int32))), ("com/example/libplanar/libplanar/SparseMatrix", "columnCount", "I", (.int (2 : Int32))), ("com/example/libplanar/libplanar/SparseMatrix", "rowStart", "[I", (.ref ks)), ("com/example/libplanar/libplanar/SparseMatrix", "columns", "[I", (.ref kc)), ("com/example/libplanar/libplanar/SparseMatrix", "values", "[D", (.ref kv))]), (ab, DA Z [bb0, bb1, bb2]), (ax, DA Z [zz0, zz1, xx2]), d6, (ag, DA Z [gg0, gg1, gg2])] = ds') [(kc, IA Z .int (ints (own_c (R0 ++ R1 ++ R2)))), (kv, DA Z (own_v (R0 ++ R1 ++ R2))), (ks, IA Z .int (ints [(0 : Int32), (Int32.ofNat R0.length), (Int32.ofNat (R0 ++ R1).length), (Int32.ofNat (R0 ++ R1 ++ R2).length)])), (p1, OB Z a0 "com/example/libplanar/libplanar/SparseMatrix" [("com/example/libplanar/libplanar/SparseMatrix", "rows", "I", (.int (2 : Int32))), ("com/example/libplanar/libplanar/SparseMatrix", "columnCount", "I", (.int (2 : Int32))), ("com/example/libplanar/libplanar/SparseMatrix", "rowStart", "[I", (.ref ks)), ("com/example/libplanar/libplanar/SparseMatrix", "columns", "[I", (.ref kc)), ("com/example/libplanar/libplanar/SparseMatrix", "values", "[D", (.ref kv))]), (ab, DA Z [bb0, bb1, bb2]), (ax, DA Z [zz0, xx1, xx2]), d6, (ag, DA Z [gg0, gg1, gg2])] 0 0 90 #[.val (.ref p1), .val (.ref ag), .val (.ref ab), .val (.ref ax), .val (.int (1 : Int32)), .val (.int (1 : Int32)), .val (.int (1 : Int32)), .val (.double (own_acc [zz0, xx1, xx2] sd L)), .second, .val (.int k)] []) → Go p l e ({ frames := 0, cells := 0, slots := 0, locals := 0 } : Room) s m #[(.ref p1), (.ref ag), (.ref ab), (.ref ax), (.int (1 : Int32))] below meth c h0 (fun v ds' => v = none ∧ [(kc, IA Z .int (ints (own_c (R0 ++ R1 ++ R2)))), (kv, DA Z (own_v (R0 ++ R1 ++ R2))), (ks, IA Z .int (ints [(0 : Int32), (Int32.ofNat R0.length), (Int32.ofNat (R0 ++ R1).length), (Int32.ofNat (R0 ++ R1 ++ R2).length)])), (p1, OB Z a0 "com/example/libplanar/libplanar/SparseMatrix" [("com/example/libplanar/libplanar/SparseMatrix", "rows", "I", (.int (2 : Int32))), ("com/example/libplanar/libplanar/SparseMatrix", "columnCount", "I", (.int (2 : Int32))), ("com/example/libplanar/libplanar/SparseMatrix", "rowStart", "[I", (.ref ks)), ("com/example/libplanar/libplanar/SparseMatrix", "columns", "[I", (.ref kc)), ("com/example/libplanar/libplanar/SparseMatrix", "values", "[D", (.ref kv))]), (ab, DA Z [bb0, bb1, bb2]), (ax, DA Z [zz0, zz1, xx2]), d6, (ag, DA Z [gg0, gg1, gg2])] = ds') [(kc, IA Z .int (ints (own_c (R0 ++ R1 ++ R2)))), (kv, DA Z (own_v (R0 ++ R1 ++ R2))), (ks, IA Z .int (ints [(0 : Int32), (Int32.ofNat R0.length), (Int32.ofNat (R0 ++ R1).length), (Int32.ofNat (R0 ++ R1 ++ R2).length)])), (p1, OB Z a0 "com/example/libplanar/libplanar/SparseMatrix" [("com/example/libplanar/libplanar/SparseMatrix", "rows", "I", (.int (2 : Int32))), ("com/example/libplanar/libplanar/SparseMatrix", "columnCount", "I", (.int (2 : Int32))), ("com/example/libplanar/libplanar/SparseMatrix", "rowStart", "[I", (.ref ks)), ("com/example/libplanar/libplanar/SparseMatrix", "columns", "[I", (.ref kc)), ("com/example/libplanar/libplanar/SparseMatrix", "values", "[D", (.ref kv))]), (ab, DA Z [bb0, bb1, bb2]), (ax, DA Z [zz0, xx1, xx2]), d6, (ag, DA Z [gg0, gg1, gg2])] 0 0 48 #[.val (.ref p1), .val (.ref ag), .val (.ref ab), .val (.ref ax), .val (.int (1 : Int32)), .val (.int (1 : Int32)), .val (.int (1 : Int32)), .val (.double sd), .second, .val (.int (Int32.ofNat pre.length))] [] := by
    intro L
    induction L with
    | nil =>
      intro pre sd hpre hE hok K
      refine g_iload C 50 d8_48 rfl rfl ?_
      refine g_aloadN C 51 d8_50 rfl rfl rfl ?_
      refine g_getfield C 54 (i := 3) (j := 2) rfl rfl d8_51 rfl (List.mem_of_getElem? (i := 26) rfl) ?_
      refine g_iload C 56 d8_54 rfl rfl ?_
      refine g_iconst C 57 (1 : Int32) d8_56 rfl rfl ?_
      refine g_iadd C 58 d8_57 rfl ?_
      rw [show ((1 : Int32) + (1 : Int32)) = (2 : Int32) from by decide]
      refine g_iaload C 59 (i := 2) rfl d8_58 rfl (by decide) (Int32.ofNat (R0 ++ R1).length) rfl ?_
      refine g_icY C 90 d8_59 (flt ((by rw [hE]; exact fun q => Nat.lt_irrefl _ ((own_lt9 (own_pl hP hpre) (own_pl hP hpre)).mp q)) : ¬ ((Int32.ofNat pre.length) < (Int32.ofNat (R0 ++ R1).length)))).2.1 (by decide) (by decide) ?_
      exact K _
    | cons xa L ih =>
      intro pre sd hpre hE hok K
      refine g_iload C 50 d8_48 rfl rfl ?_
      refine g_aloadN C 51 d8_50 rfl rfl rfl ?_
      refine g_getfield C 54 (i := 3) (j := 2) rfl rfl d8_51 rfl (List.mem_of_getElem? (i := 26) rfl) ?_
      refine g_iload C 56 d8_54 rfl rfl ?_
      refine g_iconst C 57 (1 : Int32) d8_56 rfl rfl ?_
      refine g_iadd C 58 d8_57 rfl ?_
      rw [show ((1 : Int32) + (1 : Int32)) = (2 : Int32) from by decide]
      refine g_iaload C 59 (i := 2) rfl d8_58 rfl (by decide) (Int32.ofNat (R0 ++ R1).length) rfl ?_
      refine g_icN C 62 d8_59 (tlt ((by rw [hE]; exact (own_lt9 (own_pl hP hpre) (own_pe hP hpre)).mpr (by simp)) : (Int32.ofNat pre.length) < (Int32.ofNat (R0 ++ R1).length))).2.1 rfl ?_
      refine g_dload C 64 d8_62 rfl rfl ?_
      refine g_aloadN C 65 d8_64 rfl rfl rfl ?_
      refine g_getfield C 68 (i := 3) (j := 4) rfl rfl d8_65 rfl (List.mem_of_getElem? (i := 30) rfl) ?_
      refine g_iload C 70 d8_68 rfl rfl ?_
      refine g_daload C 71 (i := 1) rfl d8_70 rfl (own_n9 (own_pl hP hpre)).2 xa.2 (by rw [hpre]; exact own_vget (own_pc hP hpre)) ?_
      refine g_aloadN C 72 d8_71 rfl rfl rfl ?_
      refine g_aloadN C 73 d8_72 rfl rfl rfl ?_
      refine g_getfield C 76 (i := 3) (j := 3) rfl rfl d8_73 rfl (List.mem_of_getElem? (i := 28) rfl) ?_
      refine g_iload C 78 d8_76 rfl rfl ?_
      refine g_iaload C 79 (i := 0) rfl d8_78 rfl (own_n9 (own_pl hP hpre)).2 xa.1 (by rw [hpre]; exact own_cget (own_pc hP hpre)) ?_
      refine g_daload C 80 (i := 5) rfl d8_79 rfl hok.1.1 (own_xe [zz0, xx1, xx2] xa.1) (own_xg hok.1.2) ?_
      refine g_dmul C 81 d8_80 rfl hok.2.1 ?_
      refine g_dsub C 82 d8_81 rfl hok.2.2.1 ?_
      refine g_dstore C 84 #[.val (.ref p1), .val (.ref ag), .val (.ref ab), .val (.ref ax), .val (.int (1 : Int32)), .val (.int (1 : Int32)), .val (.int (1 : Int32)), .val (.double (FP.dsub sd (FP.dmul xa.2 (own_xe [zz0, xx1, xx2] xa.1)))), .second, .val (.int (Int32.ofNat pre.length))] d8_82 rfl rfl ?_
      refine g_iinc C 87 ((Int32.ofNat pre.length) + (1 : Int32)) #[.val (.ref p1), .val (.ref ag), .val (.ref ab), .val (.ref ax), .val (.int (1 : Int32)), .val (.int (1 : Int32)), .val (.int (1 : Int32)), .val (.double (FP.dsub sd (FP.dmul xa.2 (own_xe [zz0, xx1, xx2] xa.1)))), .second, .val (.int ((Int32.ofNat pre.length) + (1 : Int32)))] d8_84 rfl rfl rfl rfl ?_
      refine g_goto C 48 d8_87 (by decide) (by decide) ?_
      rw [own_s9 (own_pl hP hpre), show pre.length + 1 = (pre ++ [xa]).length by simp]
      exact ih (pre ++ [xa]) _ (by rw [hpre]; simp) (hE.trans (congrArg Int32.ofNat (by simp only [List.length_cons, List.length_append, List.length_nil]; omega))) hok.2.2.2 K
  refine H1 R1 R0 _ (by simp) (congrArg Int32.ofNat (by first | (simp; done) | (simp; omega))) hA1 ?_
  intro k2
  show Go _ _ _ _ _ _ _ _ _ _ _ _ [(kc, IA Z .int (ints (own_c (R0 ++ R1 ++ R2)))), (kv, DA Z (own_v (R0 ++ R1 ++ R2))), (ks, IA Z .int (ints [(0 : Int32), (Int32.ofNat R0.length), (Int32.ofNat (R0 ++ R1).length), (Int32.ofNat (R0 ++ R1 ++ R2).length)])), (p1, OB Z a0 "com/example/libplanar/libplanar/SparseMatrix" [("com/example/libplanar/libplanar/SparseMatrix", "rows", "I", (.int (2 : Int32))), ("com/example/libplanar/libplanar/SparseMatrix", "columnCount", "I", (.int (2 : Int32))), ("com/example/libplanar/libplanar/SparseMatrix", "rowStart", "[I", (.ref ks)), ("com/example/libplanar/libplanar/SparseMatrix", "columns", "[I", (.ref kc)), ("com/example/libplanar/libplanar/SparseMatrix", "values", "[D", (.ref kv))]), (ab, DA Z [bb0, bb1, bb2]), (ax, DA Z [zz0, xx1, xx2]), d6, (ag, DA Z [gg0, gg1, gg2])] 0 0 90 #[.val (.ref p1), .val (.ref ag), .val (.ref ab), .val (.ref ax), .val (.int (1 : Int32)), .val (.int (1 : Int32)), .val (.int (1 : Int32)), .val (.double (own_acc [zz0, xx1, xx2] bb1 R1)), .second, .val (.int k2)] []
  refine g_aloadN C 91 d8_90 rfl rfl rfl ?_
  refine g_iload C 93 d8_91 rfl rfl ?_
  refine g_dup2 C 94 d8_93 rfl rfl rfl ?_
  refine g_daload C 95 (i := 5) rfl d8_94 rfl (by decide) xx1 rfl ?_
  refine g_dload C 97 d8_95 rfl rfl ?_
  refine g_aloadN C 98 d8_97 rfl rfl rfl ?_
  refine g_iload C 100 d8_98 rfl rfl ?_
  refine g_daload C 101 (i := 7) rfl d8_100 rfl (by decide) gg1 rfl ?_
  refine g_ddiv C 102 d8_101 rfl hD1 ?_
  refine g_dadd C 103 d8_102 rfl hS1 ?_
  refine g_dastore C 104 (i := 5) [zz0, (FP.dadd xx1 (FP.ddiv (own_acc [zz0, xx1, xx2] bb1 R1) gg1)), xx2] [(kc, IA Z .int (ints (own_c (R0 ++ R1 ++ R2)))), (kv, DA Z (own_v (R0 ++ R1 ++ R2))), (ks, IA Z .int (ints [(0 : Int32), (Int32.ofNat R0.length), (Int32.ofNat (R0 ++ R1).length), (Int32.ofNat (R0 ++ R1 ++ R2).length)])), (p1, OB Z a0 "com/example/libplanar/libplanar/SparseMatrix" [("com/example/libplanar/libplanar/SparseMatrix", "rows", "I", (.int (2 : Int32))), ("com/example/libplanar/libplanar/SparseMatrix", "columnCount", "I", (.int (2 : Int32))), ("com/example/libplanar/libplanar/SparseMatrix", "rowStart", "[I", (.ref ks)), ("com/example/libplanar/libplanar/SparseMatrix", "columns", "[I", (.ref kc)), ("com/example/libplanar/libplanar/SparseMatrix", "values", "[D", (.ref kv))]), (ab, DA Z [bb0, bb1, bb2]), (ax, DA Z [zz0, (FP.dadd xx1 (FP.ddiv (own_acc [zz0, xx1, xx2] bb1 R1) gg1)), xx2]), d6, (ag, DA Z [gg0, gg1, gg2])] rfl d8_103 rfl (by decide) (Nat.le_of_ble_eq_true rfl) rfl rfl ?_
  rw [hz1]
  show Go _ _ _ _ _ _ _ _ _ _ _ _ [(kc, IA Z .int (ints (own_c (R0 ++ R1 ++ R2)))), (kv, DA Z (own_v (R0 ++ R1 ++ R2))), (ks, IA Z .int (ints [(0 : Int32), (Int32.ofNat R0.length), (Int32.ofNat (R0 ++ R1).length), (Int32.ofNat (R0 ++ R1 ++ R2).length)])), (p1, OB Z a0 "com/example/libplanar/libplanar/SparseMatrix" [("com/example/libplanar/libplanar/SparseMatrix", "rows", "I", (.int (2 : Int32))), ("com/example/libplanar/libplanar/SparseMatrix", "columnCount", "I", (.int (2 : Int32))), ("com/example/libplanar/libplanar/SparseMatrix", "rowStart", "[I", (.ref ks)), ("com/example/libplanar/libplanar/SparseMatrix", "columns", "[I", (.ref kc)), ("com/example/libplanar/libplanar/SparseMatrix", "values", "[D", (.ref kv))]), (ab, DA Z [bb0, bb1, bb2]), (ax, DA Z [zz0, zz1, xx2]), d6, (ag, DA Z [gg0, gg1, gg2])] 0 0 104 #[.val (.ref p1), .val (.ref ag), .val (.ref ab), .val (.ref ax), .val (.int (1 : Int32)), .val (.int (1 : Int32)), .val (.int (1 : Int32)), .val (.double (own_acc [zz0, xx1, xx2] bb1 R1)), .second, .val (.int k2)] []
  refine g_iinc C 107 (2 : Int32) #[.val (.ref p1), .val (.ref ag), .val (.ref ab), .val (.ref ax), .val (.int (1 : Int32)), .val (.int (2 : Int32)), .val (.int (1 : Int32)), .val (.double (own_acc [zz0, xx1, xx2] bb1 R1)), .second, .val (.int k2)] d8_104 rfl rfl (by decide) rfl ?_
  refine g_goto C 3 d8_107 (by decide) (by decide) ?_
  refine g_iload C 5 d8_3 rfl rfl ?_
  refine g_aloadN C 6 d8_5 rfl rfl rfl ?_
  refine g_getfield C 9 (i := 3) (j := 0) rfl rfl d8_6 rfl (List.mem_of_getElem? (i := 22) rfl) ?_
  refine g_icY C 110 d8_9 (flt ((by decide) : ¬ ((2 : Int32) < (2 : Int32)))).2.1 (by decide) (by decide) ?_
  exact g_ret C d8_110 (by decide) (by decide) ⟨rfl, rfl⟩
set_option maxRecDepth 65536 in
set_option maxHeartbeats 40000000 in
theorem con_gs30 (l : Launch) (Z : State) (a0 : Array Value) (hw : ∀ d ∈ tables_1, d.before a0 Z = true) (h0 : Heap) (kc kv ks p1 ab ax ag : Addr) (d6 : Addr × Desc) (R0 R1 R2 : List Ent) (bb0 bb1 bb2 xx0 xx1 xx2 gg0 gg1 gg2 : UInt64) (zz0 zz1 zz2 : UInt64) (hP : (R0 ++ R1 ++ R2).length ≤ 9) (hA0 : own_accok [xx0, xx1, xx2] bb2 R2) (hD0 : Jvm.Free.Fl.NoNaN64 (FP.ddiv (own_acc [xx0, xx1, xx2] bb2 R2) gg2)) (hS0 : Jvm.Free.Fl.NoNaN64 (FP.dadd xx2 (FP.ddiv (own_acc [xx0, xx1, xx2] bb2 R2) gg2))) (hz0 : (FP.dadd xx2 (FP.ddiv (own_acc [xx0, xx1, xx2] bb2 R2) gg2)) = zz0) (hA1 : own_accok [xx0, xx1, zz0] bb1 R1) (hD1 : Jvm.Free.Fl.NoNaN64 (FP.ddiv (own_acc [xx0, xx1, zz0] bb1 R1) gg1)) (hS1 : Jvm.Free.Fl.NoNaN64 (FP.dadd xx1 (FP.ddiv (own_acc [xx0, xx1, zz0] bb1 R1) gg1))) (hz1 : (FP.dadd xx1 (FP.ddiv (own_acc [xx0, xx1, zz0] bb1 R1) gg1)) = zz1) (hA2 : own_accok [xx0, zz1, zz0] bb0 R0) (hD2 : Jvm.Free.Fl.NoNaN64 (FP.ddiv (own_acc [xx0, zz1, zz0] bb0 R0) gg0)) (hS2 : Jvm.Free.Fl.NoNaN64 (FP.dadd xx0 (FP.ddiv (own_acc [xx0, zz1, zz0] bb0 R0) gg0))) (hz2 : (FP.dadd xx0 (FP.ddiv (own_acc [xx0, zz1, zz0] bb0 R0) gg0)) = zz2) :
    Con l Z (⟨"com/example/libplanar/libplanar/SparseMatrix", "gaussSeidel", "([D[D[DZ)V"⟩ : MethodName) prog_91_method_15_code 10 none ({ frames := 0, cells := 0, slots := 0, locals := 0 } : Room) h0 #[(.ref p1), (.ref ag), (.ref ab), (.ref ax), (.int (0 : Int32))] [(kc, IA Z .int (ints (own_c (R0 ++ R1 ++ R2)))), (kv, DA Z (own_v (R0 ++ R1 ++ R2))), (ks, IA Z .int (ints [(0 : Int32), (Int32.ofNat R0.length), (Int32.ofNat (R0 ++ R1).length), (Int32.ofNat (R0 ++ R1 ++ R2).length)])), (p1, OB Z a0 "com/example/libplanar/libplanar/SparseMatrix" [("com/example/libplanar/libplanar/SparseMatrix", "rows", "I", (.int (3 : Int32))), ("com/example/libplanar/libplanar/SparseMatrix", "columnCount", "I", (.int (3 : Int32))), ("com/example/libplanar/libplanar/SparseMatrix", "rowStart", "[I", (.ref ks)), ("com/example/libplanar/libplanar/SparseMatrix", "columns", "[I", (.ref kc)), ("com/example/libplanar/libplanar/SparseMatrix", "values", "[D", (.ref kv))]), (ab, DA Z [bb0, bb1, bb2]), (ax, DA Z [xx0, xx1, xx2]), d6, (ag, DA Z [gg0, gg1, gg2])] (fun v ds' => v = none ∧ [(kc, IA Z .int (ints (own_c (R0 ++ R1 ++ R2)))), (kv, DA Z (own_v (R0 ++ R1 ++ R2))), (ks, IA Z .int (ints [(0 : Int32), (Int32.ofNat R0.length), (Int32.ofNat (R0 ++ R1).length), (Int32.ofNat (R0 ++ R1 ++ R2).length)])), (p1, OB Z a0 "com/example/libplanar/libplanar/SparseMatrix" [("com/example/libplanar/libplanar/SparseMatrix", "rows", "I", (.int (3 : Int32))), ("com/example/libplanar/libplanar/SparseMatrix", "columnCount", "I", (.int (3 : Int32))), ("com/example/libplanar/libplanar/SparseMatrix", "rowStart", "[I", (.ref ks)), ("com/example/libplanar/libplanar/SparseMatrix", "columns", "[I", (.ref kc)), ("com/example/libplanar/libplanar/SparseMatrix", "values", "[D", (.ref kv))]), (ab, DA Z [bb0, bb1, bb2]), (ax, DA Z [zz2, zz1, zz0]), d6, (ag, DA Z [gg0, gg1, gg2])] = ds') := by
  refine con_of (a0 := a0) (Ls := #[.val (.ref p1), .val (.ref ag), .val (.ref ab), .val (.ref ax), .val (.int (0 : Int32)), .unset, .unset, .unset, .unset, .unset]) (plainFor_of_name (by first | (simp [plainName, overriddenIn]; done) | decide +kernel)) hw (fun m => by first | (simp [entryFrame, mkF, argsToLocals, Value.category]; done) | rfl) ?_
  intro p e s m below meth c C
  refine g_iconst C 1 (0 : Int32) d8_0 rfl rfl ?_
  refine g_istore C 3 #[.val (.ref p1), .val (.ref ag), .val (.ref ab), .val (.ref ax), .val (.int (0 : Int32)), .val (.int (0 : Int32)), .unset, .unset, .unset, .unset] d8_1 rfl rfl ?_
  refine g_iload C 5 d8_3 rfl rfl ?_
  refine g_aloadN C 6 d8_5 rfl rfl rfl ?_
  refine g_getfield C 9 (i := 3) (j := 0) rfl rfl d8_6 rfl (List.mem_of_getElem? (i := 22) rfl) ?_
  refine g_icN C 12 d8_9 (tlt ((by decide) : (0 : Int32) < (3 : Int32))).2.1 rfl ?_
  refine g_iload C 14 d8_12 rfl rfl ?_
  refine g_ifY C 22 d8_14 (teq ((by decide) : (0 : Int32) = (0 : Int32))).1 (by decide) (by decide) ?_
  refine g_aloadN C 23 d8_22 rfl rfl rfl ?_
  refine g_getfield C 26 (i := 3) (j := 0) rfl rfl d8_23 rfl (List.mem_of_getElem? (i := 22) rfl) ?_
  refine g_iconst C 27 (1 : Int32) d8_26 rfl rfl ?_
  refine g_isub C 28 d8_27 rfl ?_
  rw [show ((3 : Int32) - (1 : Int32)) = (2 : Int32) from by decide]
  refine g_iload C 30 d8_28 rfl rfl ?_
  refine g_isub C 31 d8_30 rfl ?_
  rw [show ((2 : Int32) - (0 : Int32)) = (2 : Int32) from by decide]
  refine g_istore C 33 #[.val (.ref p1), .val (.ref ag), .val (.ref ab), .val (.ref ax), .val (.int (0 : Int32)), .val (.int (0 : Int32)), .val (.int (2 : Int32)), .unset, .unset, .unset] d8_31 rfl rfl ?_
  refine g_aloadN C 34 d8_33 rfl rfl rfl ?_
  refine g_iload C 36 d8_34 rfl rfl ?_
  refine g_daload C 37 (i := 4) rfl d8_36 rfl (by decide) bb2 rfl ?_
  refine g_dstore C 39 #[.val (.ref p1), .val (.ref ag), .val (.ref ab), .val (.ref ax), .val (.int (0 : Int32)), .val (.int (0 : Int32)), .val (.int (2 : Int32)), .val (.double bb2), .second, .unset] d8_37 rfl rfl ?_
  refine g_aloadN C 40 d8_39 rfl rfl rfl ?_
  refine g_getfield C 43 (i := 3) (j := 2) rfl rfl d8_40 rfl (List.mem_of_getElem? (i := 26) rfl) ?_
  refine g_iload C 45 d8_43 rfl rfl ?_
  refine g_iaload C 46 (i := 2) rfl d8_45 rfl (by decide) (Int32.ofNat (R0 ++ R1).length) rfl ?_
  refine g_istore C 48 #[.val (.ref p1), .val (.ref ag), .val (.ref ab), .val (.ref ax), .val (.int (0 : Int32)), .val (.int (0 : Int32)), .val (.int (2 : Int32)), .val (.double bb2), .second, .val (.int (Int32.ofNat (R0 ++ R1).length))] d8_46 rfl rfl ?_
  have H2 : ∀ (L pre : List Ent) (sd : UInt64), (R0 ++ R1 ++ R2) = pre ++ (L ++ []) → (Int32.ofNat (R0 ++ R1 ++ R2).length) = Int32.ofNat (pre.length + L.length) → own_accok [xx0, xx1, xx2] sd L → (∀ k : Int32, Go p l e ({ frames := 0, cells := 0, slots := 0, locals := 0 } : Room) s m #[(.ref p1), (.ref ag), (.ref ab), (.ref ax), (.int (0 : Int32))] below meth c h0 (fun v ds' => v = none ∧ [(kc, IA Z .int (ints (own_c (R0 ++ R1 ++ R2)))), (kv, DA Z (own_v (R0 ++ R1 ++ R2))), (ks, IA Z .int (ints [(0 : Int32), (Int32.ofNat R0.length), (Int32.ofNat (R0 ++ R1).length), (Int32.ofNat (R0 ++ R1 ++ R2).length)])), (p1, OB Z a0 "com/example/libplanar/libplanar/SparseMatrix" [("com/example/libplanar/libplanar/SparseMatrix", "rows", "I", (.int (3 : Int32))), ("com/example/libplanar/libplanar/SparseMatrix", "columnCount", "I", (.int (3 : Int32))), ("com/example/libplanar/libplanar/SparseMatrix", "rowStart", "[I", (.ref ks)), ("com/example/libplanar/libplanar/SparseMatrix", "columns", "[I", (.ref kc)), ("com/example/libplanar/libplanar/SparseMatrix", "values", "[D", (.ref kv))]), (ab, DA Z [bb0, bb1, bb2]), (ax, DA Z [zz2, zz1, zz0]), d6, (ag, DA Z [gg0, gg1, gg2])] = ds') [(kc, IA Z .int (ints (own_c (R0 ++ R1 ++ R2)))), (kv, DA Z (own_v (R0 ++ R1 ++ R2))), (ks, IA Z .int (ints [(0 : Int32), (Int32.ofNat R0.length), (Int32.ofNat (R0 ++ R1).length), (Int32.ofNat (R0 ++ R1 ++ R2).length)])), (p1, OB Z a0 "com/example/libplanar/libplanar/SparseMatrix" [("com/example/libplanar/libplanar/SparseMatrix", "rows", "I", (.int (3 : Int32))), ("com/example/libplanar/libplanar/SparseMatrix", "columnCount", "I", (.int (3 : Int32))), ("com/example/libplanar/libplanar/SparseMatrix", "rowStart", "[I", (.ref ks)), ("com/example/libplanar/libplanar/SparseMatrix", "columns", "[I", (.ref kc)), ("com/example/libplanar/libplanar/SparseMatrix", "values", "[D", (.ref kv))]), (ab, DA Z [bb0, bb1, bb2]), (ax, DA Z [xx0, xx1, xx2]), d6, (ag, DA Z [gg0, gg1, gg2])] 0 0 90 #[.val (.ref p1), .val (.ref ag), .val (.ref ab), .val (.ref ax), .val (.int (0 : Int32)), .val (.int (0 : Int32)), .val (.int (2 : Int32)), .val (.double (own_acc [xx0, xx1, xx2] sd L)), .second, .val (.int k)] []) → Go p l e ({ frames := 0, cells := 0, slots := 0, locals := 0 } : Room) s m #[(.ref p1), (.ref ag), (.ref ab), (.ref ax), (.int (0 : Int32))] below meth c h0 (fun v ds' => v = none ∧ [(kc, IA Z .int (ints (own_c (R0 ++ R1 ++ R2)))), (kv, DA Z (own_v (R0 ++ R1 ++ R2))), (ks, IA Z .int (ints [(0 : Int32), (Int32.ofNat R0.length), (Int32.ofNat (R0 ++ R1).length), (Int32.ofNat (R0 ++ R1 ++ R2).length)])), (p1, OB Z a0 "com/example/libplanar/libplanar/SparseMatrix" [("com/example/libplanar/libplanar/SparseMatrix", "rows", "I", (.int (3 : Int32))), ("com/example/libplanar/libplanar/SparseMatrix", "columnCount", "I", (.int (3 : Int32))), ("com/example/libplanar/libplanar/SparseMatrix", "rowStart", "[I", (.ref ks)), ("com/example/libplanar/libplanar/SparseMatrix", "columns", "[I", (.ref kc)), ("com/example/libplanar/libplanar/SparseMatrix", "values", "[D", (.ref kv))]), (ab, DA Z [bb0, bb1, bb2]), (ax, DA Z [zz2, zz1, zz0]), d6, (ag, DA Z [gg0, gg1, gg2])] = ds') [(kc, IA Z .int (ints (own_c (R0 ++ R1 ++ R2)))), (kv, DA Z (own_v (R0 ++ R1 ++ R2))), (ks, IA Z .int (ints [(0 : Int32), (Int32.ofNat R0.length), (Int32.ofNat (R0 ++ R1).length), (Int32.ofNat (R0 ++ R1 ++ R2).length)])), (p1, OB Z a0 "com/example/libplanar/libplanar/SparseMatrix" [("com/example/libplanar/libplanar/SparseMatrix", "rows", "I", (.int (3 : Int32))), ("com/example/libplanar/libplanar/SparseMatrix", "columnCount", "I", (.int (3 : Int32))), ("com/example/libplanar/libplanar/SparseMatrix", "rowStart", "[I", (.ref ks)), ("com/example/libplanar/libplanar/SparseMatrix", "columns", "[I", (.ref kc)), ("com/example/libplanar/libplanar/SparseMatrix", "values", "[D", (.ref kv))]), (ab, DA Z [bb0, bb1, bb2]), (ax, DA Z [xx0, xx1, xx2]), d6, (ag, DA Z [gg0, gg1, gg2])] 0 0 48 #[.val (.ref p1), .val (.ref ag), .val (.ref ab), .val (.ref ax), .val (.int (0 : Int32)), .val (.int (0 : Int32)), .val (.int (2 : Int32)), .val (.double sd), .second, .val (.int (Int32.ofNat pre.length))] [] := by
    intro L
    induction L with
    | nil =>
      intro pre sd hpre hE hok K
      refine g_iload C 50 d8_48 rfl rfl ?_
      refine g_aloadN C 51 d8_50 rfl rfl rfl ?_
      refine g_getfield C 54 (i := 3) (j := 2) rfl rfl d8_51 rfl (List.mem_of_getElem? (i := 26) rfl) ?_
      refine g_iload C 56 d8_54 rfl rfl ?_
      refine g_iconst C 57 (1 : Int32) d8_56 rfl rfl ?_
      refine g_iadd C 58 d8_57 rfl ?_
      rw [show ((2 : Int32) + (1 : Int32)) = (3 : Int32) from by decide]
      refine g_iaload C 59 (i := 2) rfl d8_58 rfl (by decide) (Int32.ofNat (R0 ++ R1 ++ R2).length) rfl ?_
      refine g_icY C 90 d8_59 (flt ((by rw [hE]; exact fun q => Nat.lt_irrefl _ ((own_lt9 (own_pl hP hpre) (own_pl hP hpre)).mp q)) : ¬ ((Int32.ofNat pre.length) < (Int32.ofNat (R0 ++ R1 ++ R2).length)))).2.1 (by decide) (by decide) ?_
      exact K _
    | cons xa L ih =>
      intro pre sd hpre hE hok K
      refine g_iload C 50 d8_48 rfl rfl ?_
      refine g_aloadN C 51 d8_50 rfl rfl rfl ?_
      refine g_getfield C 54 (i := 3) (j := 2) rfl rfl d8_51 rfl (List.mem_of_getElem? (i := 26) rfl) ?_
      refine g_iload C 56 d8_54 rfl rfl ?_
      refine g_iconst C 57 (1 : Int32) d8_56 rfl rfl ?_
      refine g_iadd C 58 d8_57 rfl ?_
      rw [show ((2 : Int32) + (1 : Int32)) = (3 : Int32) from by decide]
      refine g_iaload C 59 (i := 2) rfl d8_58 rfl (by decide) (Int32.ofNat (R0 ++ R1 ++ R2).length) rfl ?_
      refine g_icN C 62 d8_59 (tlt ((by rw [hE]; exact (own_lt9 (own_pl hP hpre) (own_pe hP hpre)).mpr (by simp)) : (Int32.ofNat pre.length) < (Int32.ofNat (R0 ++ R1 ++ R2).length))).2.1 rfl ?_
      refine g_dload C 64 d8_62 rfl rfl ?_
      refine g_aloadN C 65 d8_64 rfl rfl rfl ?_
      refine g_getfield C 68 (i := 3) (j := 4) rfl rfl d8_65 rfl (List.mem_of_getElem? (i := 30) rfl) ?_
      refine g_iload C 70 d8_68 rfl rfl ?_
      refine g_daload C 71 (i := 1) rfl d8_70 rfl (own_n9 (own_pl hP hpre)).2 xa.2 (by rw [hpre]; exact own_vget (own_pc hP hpre)) ?_
      refine g_aloadN C 72 d8_71 rfl rfl rfl ?_
      refine g_aloadN C 73 d8_72 rfl rfl rfl ?_
      refine g_getfield C 76 (i := 3) (j := 3) rfl rfl d8_73 rfl (List.mem_of_getElem? (i := 28) rfl) ?_
      refine g_iload C 78 d8_76 rfl rfl ?_
      refine g_iaload C 79 (i := 0) rfl d8_78 rfl (own_n9 (own_pl hP hpre)).2 xa.1 (by rw [hpre]; exact own_cget (own_pc hP hpre)) ?_
      refine g_daload C 80 (i := 5) rfl d8_79 rfl hok.1.1 (own_xe [xx0, xx1, xx2] xa.1) (own_xg hok.1.2) ?_
      refine g_dmul C 81 d8_80 rfl hok.2.1 ?_
      refine g_dsub C 82 d8_81 rfl hok.2.2.1 ?_
      refine g_dstore C 84 #[.val (.ref p1), .val (.ref ag), .val (.ref ab), .val (.ref ax), .val (.int (0 : Int32)), .val (.int (0 : Int32)), .val (.int (2 : Int32)), .val (.double (FP.dsub sd (FP.dmul xa.2 (own_xe [xx0, xx1, xx2] xa.1)))), .second, .val (.int (Int32.ofNat pre.length))] d8_82 rfl rfl ?_
      refine g_iinc C 87 ((Int32.ofNat pre.length) + (1 : Int32)) #[.val (.ref p1), .val (.ref ag), .val (.ref ab), .val (.ref ax), .val (.int (0 : Int32)), .val (.int (0 : Int32)), .val (.int (2 : Int32)), .val (.double (FP.dsub sd (FP.dmul xa.2 (own_xe [xx0, xx1, xx2] xa.1)))), .second, .val (.int ((Int32.ofNat pre.length) + (1 : Int32)))] d8_84 rfl rfl rfl rfl ?_
      refine g_goto C 48 d8_87 (by decide) (by decide) ?_
      rw [own_s9 (own_pl hP hpre), show pre.length + 1 = (pre ++ [xa]).length by simp]
      exact ih (pre ++ [xa]) _ (by rw [hpre]; simp) (hE.trans (congrArg Int32.ofNat (by simp only [List.length_cons, List.length_append, List.length_nil]; omega))) hok.2.2.2 K
  refine H2 R2 (R0 ++ R1) _ (by simp) (congrArg Int32.ofNat (by first | (simp; done) | (simp; omega))) hA0 ?_
  intro k1
  show Go _ _ _ _ _ _ _ _ _ _ _ _ [(kc, IA Z .int (ints (own_c (R0 ++ R1 ++ R2)))), (kv, DA Z (own_v (R0 ++ R1 ++ R2))), (ks, IA Z .int (ints [(0 : Int32), (Int32.ofNat R0.length), (Int32.ofNat (R0 ++ R1).length), (Int32.ofNat (R0 ++ R1 ++ R2).length)])), (p1, OB Z a0 "com/example/libplanar/libplanar/SparseMatrix" [("com/example/libplanar/libplanar/SparseMatrix", "rows", "I", (.int (3 : Int32))), ("com/example/libplanar/libplanar/SparseMatrix", "columnCount", "I", (.int (3 : Int32))), ("com/example/libplanar/libplanar/SparseMatrix", "rowStart", "[I", (.ref ks)), ("com/example/libplanar/libplanar/SparseMatrix", "columns", "[I", (.ref kc)), ("com/example/libplanar/libplanar/SparseMatrix", "values", "[D", (.ref kv))]), (ab, DA Z [bb0, bb1, bb2]), (ax, DA Z [xx0, xx1, xx2]), d6, (ag, DA Z [gg0, gg1, gg2])] 0 0 90 #[.val (.ref p1), .val (.ref ag), .val (.ref ab), .val (.ref ax), .val (.int (0 : Int32)), .val (.int (0 : Int32)), .val (.int (2 : Int32)), .val (.double (own_acc [xx0, xx1, xx2] bb2 R2)), .second, .val (.int k1)] []
  refine g_aloadN C 91 d8_90 rfl rfl rfl ?_
  refine g_iload C 93 d8_91 rfl rfl ?_
  refine g_dup2 C 94 d8_93 rfl rfl rfl ?_
  refine g_daload C 95 (i := 5) rfl d8_94 rfl (by decide) xx2 rfl ?_
  refine g_dload C 97 d8_95 rfl rfl ?_
  refine g_aloadN C 98 d8_97 rfl rfl rfl ?_
  refine g_iload C 100 d8_98 rfl rfl ?_
  refine g_daload C 101 (i := 7) rfl d8_100 rfl (by decide) gg2 rfl ?_
  refine g_ddiv C 102 d8_101 rfl hD0 ?_
  refine g_dadd C 103 d8_102 rfl hS0 ?_
  refine g_dastore C 104 (i := 5) [xx0, xx1, (FP.dadd xx2 (FP.ddiv (own_acc [xx0, xx1, xx2] bb2 R2) gg2))] [(kc, IA Z .int (ints (own_c (R0 ++ R1 ++ R2)))), (kv, DA Z (own_v (R0 ++ R1 ++ R2))), (ks, IA Z .int (ints [(0 : Int32), (Int32.ofNat R0.length), (Int32.ofNat (R0 ++ R1).length), (Int32.ofNat (R0 ++ R1 ++ R2).length)])), (p1, OB Z a0 "com/example/libplanar/libplanar/SparseMatrix" [("com/example/libplanar/libplanar/SparseMatrix", "rows", "I", (.int (3 : Int32))), ("com/example/libplanar/libplanar/SparseMatrix", "columnCount", "I", (.int (3 : Int32))), ("com/example/libplanar/libplanar/SparseMatrix", "rowStart", "[I", (.ref ks)), ("com/example/libplanar/libplanar/SparseMatrix", "columns", "[I", (.ref kc)), ("com/example/libplanar/libplanar/SparseMatrix", "values", "[D", (.ref kv))]), (ab, DA Z [bb0, bb1, bb2]), (ax, DA Z [xx0, xx1, (FP.dadd xx2 (FP.ddiv (own_acc [xx0, xx1, xx2] bb2 R2) gg2))]), d6, (ag, DA Z [gg0, gg1, gg2])] rfl d8_103 rfl (by decide) (Nat.le_of_ble_eq_true rfl) rfl rfl ?_
  rw [hz0]
  show Go _ _ _ _ _ _ _ _ _ _ _ _ [(kc, IA Z .int (ints (own_c (R0 ++ R1 ++ R2)))), (kv, DA Z (own_v (R0 ++ R1 ++ R2))), (ks, IA Z .int (ints [(0 : Int32), (Int32.ofNat R0.length), (Int32.ofNat (R0 ++ R1).length), (Int32.ofNat (R0 ++ R1 ++ R2).length)])), (p1, OB Z a0 "com/example/libplanar/libplanar/SparseMatrix" [("com/example/libplanar/libplanar/SparseMatrix", "rows", "I", (.int (3 : Int32))), ("com/example/libplanar/libplanar/SparseMatrix", "columnCount", "I", (.int (3 : Int32))), ("com/example/libplanar/libplanar/SparseMatrix", "rowStart", "[I", (.ref ks)), ("com/example/libplanar/libplanar/SparseMatrix", "columns", "[I", (.ref kc)), ("com/example/libplanar/libplanar/SparseMatrix", "values", "[D", (.ref kv))]), (ab, DA Z [bb0, bb1, bb2]), (ax, DA Z [xx0, xx1, zz0]), d6, (ag, DA Z [gg0, gg1, gg2])] 0 0 104 #[.val (.ref p1), .val (.ref ag), .val (.ref ab), .val (.ref ax), .val (.int (0 : Int32)), .val (.int (0 : Int32)), .val (.int (2 : Int32)), .val (.double (own_acc [xx0, xx1, xx2] bb2 R2)), .second, .val (.int k1)] []
  refine g_iinc C 107 (1 : Int32) #[.val (.ref p1), .val (.ref ag), .val (.ref ab), .val (.ref ax), .val (.int (0 : Int32)), .val (.int (1 : Int32)), .val (.int (2 : Int32)), .val (.double (own_acc [xx0, xx1, xx2] bb2 R2)), .second, .val (.int k1)] d8_104 rfl rfl (by decide) rfl ?_
  refine g_goto C 3 d8_107 (by decide) (by decide) ?_
  refine g_iload C 5 d8_3 rfl rfl ?_
  refine g_aloadN C 6 d8_5 rfl rfl rfl ?_
  refine g_getfield C 9 (i := 3) (j := 0) rfl rfl d8_6 rfl (List.mem_of_getElem? (i := 22) rfl) ?_
  refine g_icN C 12 d8_9 (tlt ((by decide) : (1 : Int32) < (3 : Int32))).2.1 rfl ?_
  refine g_iload C 14 d8_12 rfl rfl ?_
  refine g_ifY C 22 d8_14 (teq ((by decide) : (0 : Int32) = (0 : Int32))).1 (by decide) (by decide) ?_
  refine g_aloadN C 23 d8_22 rfl rfl rfl ?_
  refine g_getfield C 26 (i := 3) (j := 0) rfl rfl d8_23 rfl (List.mem_of_getElem? (i := 22) rfl) ?_
  refine g_iconst C 27 (1 : Int32) d8_26 rfl rfl ?_
  refine g_isub C 28 d8_27 rfl ?_
  rw [show ((3 : Int32) - (1 : Int32)) = (2 : Int32) from by decide]
  refine g_iload C 30 d8_28 rfl rfl ?_
  refine g_isub C 31 d8_30 rfl ?_
  rw [show ((2 : Int32) - (1 : Int32)) = (1 : Int32) from by decide]
  refine g_istore C 33 #[.val (.ref p1), .val (.ref ag), .val (.ref ab), .val (.ref ax), .val (.int (0 : Int32)), .val (.int (1 : Int32)), .val (.int (1 : Int32)), .val (.double (own_acc [xx0, xx1, xx2] bb2 R2)), .second, .val (.int k1)] d8_31 rfl rfl ?_
  refine g_aloadN C 34 d8_33 rfl rfl rfl ?_
  refine g_iload C 36 d8_34 rfl rfl ?_
  refine g_daload C 37 (i := 4) rfl d8_36 rfl (by decide) bb1 rfl ?_
  refine g_dstore C 39 #[.val (.ref p1), .val (.ref ag), .val (.ref ab), .val (.ref ax), .val (.int (0 : Int32)), .val (.int (1 : Int32)), .val (.int (1 : Int32)), .val (.double bb1), .second, .val (.int k1)] d8_37 rfl rfl ?_
  refine g_aloadN C 40 d8_39 rfl rfl rfl ?_
  refine g_getfield C 43 (i := 3) (j := 2) rfl rfl d8_40 rfl (List.mem_of_getElem? (i := 26) rfl) ?_
  refine g_iload C 45 d8_43 rfl rfl ?_
  refine g_iaload C 46 (i := 2) rfl d8_45 rfl (by decide) (Int32.ofNat R0.length) rfl ?_
  refine g_istore C 48 #[.val (.ref p1), .val (.ref ag), .val (.ref ab), .val (.ref ax), .val (.int (0 : Int32)), .val (.int (1 : Int32)), .val (.int (1 : Int32)), .val (.double bb1), .second, .val (.int (Int32.ofNat R0.length))] d8_46 rfl rfl ?_
  have H1 : ∀ (L pre : List Ent) (sd : UInt64), (R0 ++ R1 ++ R2) = pre ++ (L ++ R2) → (Int32.ofNat (R0 ++ R1).length) = Int32.ofNat (pre.length + L.length) → own_accok [xx0, xx1, zz0] sd L → (∀ k : Int32, Go p l e ({ frames := 0, cells := 0, slots := 0, locals := 0 } : Room) s m #[(.ref p1), (.ref ag), (.ref ab), (.ref ax), (.int (0 : Int32))] below meth c h0 (fun v ds' => v = none ∧ [(kc, IA Z .int (ints (own_c (R0 ++ R1 ++ R2)))), (kv, DA Z (own_v (R0 ++ R1 ++ R2))), (ks, IA Z .int (ints [(0 : Int32), (Int32.ofNat R0.length), (Int32.ofNat (R0 ++ R1).length), (Int32.ofNat (R0 ++ R1 ++ R2).length)])), (p1, OB Z a0 "com/example/libplanar/libplanar/SparseMatrix" [("com/example/libplanar/libplanar/SparseMatrix", "rows", "I", (.int (3 : Int32))), ("com/example/libplanar/libplanar/SparseMatrix", "columnCount", "I", (.int (3 : Int32))), ("com/example/libplanar/libplanar/SparseMatrix", "rowStart", "[I", (.ref ks)), ("com/example/libplanar/libplanar/SparseMatrix", "columns", "[I", (.ref kc)), ("com/example/libplanar/libplanar/SparseMatrix", "values", "[D", (.ref kv))]), (ab, DA Z [bb0, bb1, bb2]), (ax, DA Z [zz2, zz1, zz0]), d6, (ag, DA Z [gg0, gg1, gg2])] = ds') [(kc, IA Z .int (ints (own_c (R0 ++ R1 ++ R2)))), (kv, DA Z (own_v (R0 ++ R1 ++ R2))), (ks, IA Z .int (ints [(0 : Int32), (Int32.ofNat R0.length), (Int32.ofNat (R0 ++ R1).length), (Int32.ofNat (R0 ++ R1 ++ R2).length)])), (p1, OB Z a0 "com/example/libplanar/libplanar/SparseMatrix" [("com/example/libplanar/libplanar/SparseMatrix", "rows", "I", (.int (3 : Int32))), ("com/example/libplanar/libplanar/SparseMatrix", "columnCount", "I", (.int (3 : Int32))), ("com/example/libplanar/libplanar/SparseMatrix", "rowStart", "[I", (.ref ks)), ("com/example/libplanar/libplanar/SparseMatrix", "columns", "[I", (.ref kc)), ("com/example/libplanar/libplanar/SparseMatrix", "values", "[D", (.ref kv))]), (ab, DA Z [bb0, bb1, bb2]), (ax, DA Z [xx0, xx1, zz0]), d6, (ag, DA Z [gg0, gg1, gg2])] 0 0 90 #[.val (.ref p1), .val (.ref ag), .val (.ref ab), .val (.ref ax), .val (.int (0 : Int32)), .val (.int (1 : Int32)), .val (.int (1 : Int32)), .val (.double (own_acc [xx0, xx1, zz0] sd L)), .second, .val (.int k)] []) → Go p l e ({ frames := 0, cells := 0, slots := 0, locals := 0 } : Room) s m #[(.ref p1), (.ref ag), (.ref ab), (.ref ax), (.int (0 : Int32))] below meth c h0 (fun v ds' => v = none ∧ [(kc, IA Z .int (ints (own_c (R0 ++ R1 ++ R2)))), (kv, DA Z (own_v (R0 ++ R1 ++ R2))), (ks, IA Z .int (ints [(0 : Int32), (Int32.ofNat R0.length), (Int32.ofNat (R0 ++ R1).length), (Int32.ofNat (R0 ++ R1 ++ R2).length)])), (p1, OB Z a0 "com/example/libplanar/libplanar/SparseMatrix" [("com/example/libplanar/libplanar/SparseMatrix", "rows", "I", (.int (3 : Int32))), ("com/example/libplanar/libplanar/SparseMatrix", "columnCount", "I", (.int (3 : Int32))), ("com/example/libplanar/libplanar/SparseMatrix", "rowStart", "[I", (.ref ks)), ("com/example/libplanar/libplanar/SparseMatrix", "columns", "[I", (.ref kc)), ("com/example/libplanar/libplanar/SparseMatrix", "values", "[D", (.ref kv))]), (ab, DA Z [bb0, bb1, bb2]), (ax, DA Z [zz2, zz1, zz0]), d6, (ag, DA Z [gg0, gg1, gg2])] = ds') [(kc, IA Z .int (ints (own_c (R0 ++ R1 ++ R2)))), (kv, DA Z (own_v (R0 ++ R1 ++ R2))), (ks, IA Z .int (ints [(0 : Int32), (Int32.ofNat R0.length), (Int32.ofNat (R0 ++ R1).length), (Int32.ofNat (R0 ++ R1 ++ R2).length)])), (p1, OB Z a0 "com/example/libplanar/libplanar/SparseMatrix" [("com/example/libplanar/libplanar/SparseMatrix", "rows", "I", (.int (3 : Int32))), ("com/example/libplanar/libplanar/SparseMatrix", "columnCount", "I", (.int (3 : Int32))), ("com/example/libplanar/libplanar/SparseMatrix", "rowStart", "[I", (.ref ks)), ("com/example/libplanar/libplanar/SparseMatrix", "columns", "[I", (.ref kc)), ("com/example/libplanar/libplanar/SparseMatrix", "values", "[D", (.ref kv))]), (ab, DA Z [bb0, bb1, bb2]), (ax, DA Z [xx0, xx1, zz0]), d6, (ag, DA Z [gg0, gg1, gg2])] 0 0 48 #[.val (.ref p1), .val (.ref ag), .val (.ref ab), .val (.ref ax), .val (.int (0 : Int32)), .val (.int (1 : Int32)), .val (.int (1 : Int32)), .val (.double sd), .second, .val (.int (Int32.ofNat pre.length))] [] := by
    intro L
    induction L with
    | nil =>
      intro pre sd hpre hE hok K
      refine g_iload C 50 d8_48 rfl rfl ?_
      refine g_aloadN C 51 d8_50 rfl rfl rfl ?_
      refine g_getfield C 54 (i := 3) (j := 2) rfl rfl d8_51 rfl (List.mem_of_getElem? (i := 26) rfl) ?_
      refine g_iload C 56 d8_54 rfl rfl ?_
      refine g_iconst C 57 (1 : Int32) d8_56 rfl rfl ?_
      refine g_iadd C 58 d8_57 rfl ?_
      rw [show ((1 : Int32) + (1 : Int32)) = (2 : Int32) from by decide]
      refine g_iaload C 59 (i := 2) rfl d8_58 rfl (by decide) (Int32.ofNat (R0 ++ R1).length) rfl ?_
      refine g_icY C 90 d8_59 (flt ((by rw [hE]; exact fun q => Nat.lt_irrefl _ ((own_lt9 (own_pl hP hpre) (own_pl hP hpre)).mp q)) : ¬ ((Int32.ofNat pre.length) < (Int32.ofNat (R0 ++ R1).length)))).2.1 (by decide) (by decide) ?_
      exact K _
    | cons xa L ih =>
      intro pre sd hpre hE hok K
      refine g_iload C 50 d8_48 rfl rfl ?_
      refine g_aloadN C 51 d8_50 rfl rfl rfl ?_
      refine g_getfield C 54 (i := 3) (j := 2) rfl rfl d8_51 rfl (List.mem_of_getElem? (i := 26) rfl) ?_
      refine g_iload C 56 d8_54 rfl rfl ?_
      refine g_iconst C 57 (1 : Int32) d8_56 rfl rfl ?_
      refine g_iadd C 58 d8_57 rfl ?_
      rw [show ((1 : Int32) + (1 : Int32)) = (2 : Int32) from by decide]
      refine g_iaload C 59 (i := 2) rfl d8_58 rfl (by decide) (Int32.ofNat (R0 ++ R1).length) rfl ?_
      refine g_icN C 62 d8_59 (tlt ((by rw [hE]; exact (own_lt9 (own_pl hP hpre) (own_pe hP hpre)).mpr (by simp)) : (Int32.ofNat pre.length) < (Int32.ofNat (R0 ++ R1).length))).2.1 rfl ?_
      refine g_dload C 64 d8_62 rfl rfl ?_
      refine g_aloadN C 65 d8_64 rfl rfl rfl ?_
      refine g_getfield C 68 (i := 3) (j := 4) rfl rfl d8_65 rfl (List.mem_of_getElem? (i := 30) rfl) ?_
      refine g_iload C 70 d8_68 rfl rfl ?_
      refine g_daload C 71 (i := 1) rfl d8_70 rfl (own_n9 (own_pl hP hpre)).2 xa.2 (by rw [hpre]; exact own_vget (own_pc hP hpre)) ?_
      refine g_aloadN C 72 d8_71 rfl rfl rfl ?_
      refine g_aloadN C 73 d8_72 rfl rfl rfl ?_
      refine g_getfield C 76 (i := 3) (j := 3) rfl rfl d8_73 rfl (List.mem_of_getElem? (i := 28) rfl) ?_
      refine g_iload C 78 d8_76 rfl rfl ?_
      refine g_iaload C 79 (i := 0) rfl d8_78 rfl (own_n9 (own_pl hP hpre)).2 xa.1 (by rw [hpre]; exact own_cget (own_pc hP hpre)) ?_
      refine g_daload C 80 (i := 5) rfl d8_79 rfl hok.1.1 (own_xe [xx0, xx1, zz0] xa.1) (own_xg hok.1.2) ?_
      refine g_dmul C 81 d8_80 rfl hok.2.1 ?_
      refine g_dsub C 82 d8_81 rfl hok.2.2.1 ?_
      refine g_dstore C 84 #[.val (.ref p1), .val (.ref ag), .val (.ref ab), .val (.ref ax), .val (.int (0 : Int32)), .val (.int (1 : Int32)), .val (.int (1 : Int32)), .val (.double (FP.dsub sd (FP.dmul xa.2 (own_xe [xx0, xx1, zz0] xa.1)))), .second, .val (.int (Int32.ofNat pre.length))] d8_82 rfl rfl ?_
      refine g_iinc C 87 ((Int32.ofNat pre.length) + (1 : Int32)) #[.val (.ref p1), .val (.ref ag), .val (.ref ab), .val (.ref ax), .val (.int (0 : Int32)), .val (.int (1 : Int32)), .val (.int (1 : Int32)), .val (.double (FP.dsub sd (FP.dmul xa.2 (own_xe [xx0, xx1, zz0] xa.1)))), .second, .val (.int ((Int32.ofNat pre.length) + (1 : Int32)))] d8_84 rfl rfl rfl rfl ?_
      refine g_goto C 48 d8_87 (by decide) (by decide) ?_
      rw [own_s9 (own_pl hP hpre), show pre.length + 1 = (pre ++ [xa]).length by simp]
      exact ih (pre ++ [xa]) _ (by rw [hpre]; simp) (hE.trans (congrArg Int32.ofNat (by simp only [List.length_cons, List.length_append, List.length_nil]; omega))) hok.2.2.2 K
  refine H1 R1 R0 _ (by simp) (congrArg Int32.ofNat (by first | (simp; done) | (simp; omega))) hA1 ?_
  intro k2
  show Go _ _ _ _ _ _ _ _ _ _ _ _ [(kc, IA Z .int (ints (own_c (R0 ++ R1 ++ R2)))), (kv, DA Z (own_v (R0 ++ R1 ++ R2))), (ks, IA Z .int (ints [(0 : Int32), (Int32.ofNat R0.length), (Int32.ofNat (R0 ++ R1).length), (Int32.ofNat (R0 ++ R1 ++ R2).length)])), (p1, OB Z a0 "com/example/libplanar/libplanar/SparseMatrix" [("com/example/libplanar/libplanar/SparseMatrix", "rows", "I", (.int (3 : Int32))), ("com/example/libplanar/libplanar/SparseMatrix", "columnCount", "I", (.int (3 : Int32))), ("com/example/libplanar/libplanar/SparseMatrix", "rowStart", "[I", (.ref ks)), ("com/example/libplanar/libplanar/SparseMatrix", "columns", "[I", (.ref kc)), ("com/example/libplanar/libplanar/SparseMatrix", "values", "[D", (.ref kv))]), (ab, DA Z [bb0, bb1, bb2]), (ax, DA Z [xx0, xx1, zz0]), d6, (ag, DA Z [gg0, gg1, gg2])] 0 0 90 #[.val (.ref p1), .val (.ref ag), .val (.ref ab), .val (.ref ax), .val (.int (0 : Int32)), .val (.int (1 : Int32)), .val (.int (1 : Int32)), .val (.double (own_acc [xx0, xx1, zz0] bb1 R1)), .second, .val (.int k2)] []
  refine g_aloadN C 91 d8_90 rfl rfl rfl ?_
  refine g_iload C 93 d8_91 rfl rfl ?_
  refine g_dup2 C 94 d8_93 rfl rfl rfl ?_
  refine g_daload C 95 (i := 5) rfl d8_94 rfl (by decide) xx1 rfl ?_
  refine g_dload C 97 d8_95 rfl rfl ?_
  refine g_aloadN C 98 d8_97 rfl rfl rfl ?_
  refine g_iload C 100 d8_98 rfl rfl ?_
  refine g_daload C 101 (i := 7) rfl d8_100 rfl (by decide) gg1 rfl ?_
  refine g_ddiv C 102 d8_101 rfl hD1 ?_
  refine g_dadd C 103 d8_102 rfl hS1 ?_
  refine g_dastore C 104 (i := 5) [xx0, (FP.dadd xx1 (FP.ddiv (own_acc [xx0, xx1, zz0] bb1 R1) gg1)), zz0] [(kc, IA Z .int (ints (own_c (R0 ++ R1 ++ R2)))), (kv, DA Z (own_v (R0 ++ R1 ++ R2))), (ks, IA Z .int (ints [(0 : Int32), (Int32.ofNat R0.length), (Int32.ofNat (R0 ++ R1).length), (Int32.ofNat (R0 ++ R1 ++ R2).length)])), (p1, OB Z a0 "com/example/libplanar/libplanar/SparseMatrix" [("com/example/libplanar/libplanar/SparseMatrix", "rows", "I", (.int (3 : Int32))), ("com/example/libplanar/libplanar/SparseMatrix", "columnCount", "I", (.int (3 : Int32))), ("com/example/libplanar/libplanar/SparseMatrix", "rowStart", "[I", (.ref ks)), ("com/example/libplanar/libplanar/SparseMatrix", "columns", "[I", (.ref kc)), ("com/example/libplanar/libplanar/SparseMatrix", "values", "[D", (.ref kv))]), (ab, DA Z [bb0, bb1, bb2]), (ax, DA Z [xx0, (FP.dadd xx1 (FP.ddiv (own_acc [xx0, xx1, zz0] bb1 R1) gg1)), zz0]), d6, (ag, DA Z [gg0, gg1, gg2])] rfl d8_103 rfl (by decide) (Nat.le_of_ble_eq_true rfl) rfl rfl ?_
  rw [hz1]
  show Go _ _ _ _ _ _ _ _ _ _ _ _ [(kc, IA Z .int (ints (own_c (R0 ++ R1 ++ R2)))), (kv, DA Z (own_v (R0 ++ R1 ++ R2))), (ks, IA Z .int (ints [(0 : Int32), (Int32.ofNat R0.length), (Int32.ofNat (R0 ++ R1).length), (Int32.ofNat (R0 ++ R1 ++ R2).length)])), (p1, OB Z a0 "com/example/libplanar/libplanar/SparseMatrix" [("com/example/libplanar/libplanar/SparseMatrix", "rows", "I", (.int (3 : Int32))), ("com/example/libplanar/libplanar/SparseMatrix", "columnCount", "I", (.int (3 : Int32))), ("com/example/libplanar/libplanar/SparseMatrix", "rowStart", "[I", (.ref ks)), ("com/example/libplanar/libplanar/SparseMatrix", "columns", "[I", (.ref kc)), ("com/example/libplanar/libplanar/SparseMatrix", "values", "[D", (.ref kv))]), (ab, DA Z [bb0, bb1, bb2]), (ax, DA Z [xx0, zz1, zz0]), d6, (ag, DA Z [gg0, gg1, gg2])] 0 0 104 #[.val (.ref p1), .val (.ref ag), .val (.ref ab), .val (.ref ax), .val (.int (0 : Int32)), .val (.int (1 : Int32)), .val (.int (1 : Int32)), .val (.double (own_acc [xx0, xx1, zz0] bb1 R1)), .second, .val (.int k2)] []
  refine g_iinc C 107 (2 : Int32) #[.val (.ref p1), .val (.ref ag), .val (.ref ab), .val (.ref ax), .val (.int (0 : Int32)), .val (.int (2 : Int32)), .val (.int (1 : Int32)), .val (.double (own_acc [xx0, xx1, zz0] bb1 R1)), .second, .val (.int k2)] d8_104 rfl rfl (by decide) rfl ?_
  refine g_goto C 3 d8_107 (by decide) (by decide) ?_
  refine g_iload C 5 d8_3 rfl rfl ?_
  refine g_aloadN C 6 d8_5 rfl rfl rfl ?_
  refine g_getfield C 9 (i := 3) (j := 0) rfl rfl d8_6 rfl (List.mem_of_getElem? (i := 22) rfl) ?_
  refine g_icN C 12 d8_9 (tlt ((by decide) : (2 : Int32) < (3 : Int32))).2.1 rfl ?_
  refine g_iload C 14 d8_12 rfl rfl ?_
  refine g_ifY C 22 d8_14 (teq ((by decide) : (0 : Int32) = (0 : Int32))).1 (by decide) (by decide) ?_
  refine g_aloadN C 23 d8_22 rfl rfl rfl ?_
  refine g_getfield C 26 (i := 3) (j := 0) rfl rfl d8_23 rfl (List.mem_of_getElem? (i := 22) rfl) ?_
  refine g_iconst C 27 (1 : Int32) d8_26 rfl rfl ?_
  refine g_isub C 28 d8_27 rfl ?_
  rw [show ((3 : Int32) - (1 : Int32)) = (2 : Int32) from by decide]
  refine g_iload C 30 d8_28 rfl rfl ?_
  refine g_isub C 31 d8_30 rfl ?_
  rw [show ((2 : Int32) - (2 : Int32)) = (0 : Int32) from by decide]
  refine g_istore C 33 #[.val (.ref p1), .val (.ref ag), .val (.ref ab), .val (.ref ax), .val (.int (0 : Int32)), .val (.int (2 : Int32)), .val (.int (0 : Int32)), .val (.double (own_acc [xx0, xx1, zz0] bb1 R1)), .second, .val (.int k2)] d8_31 rfl rfl ?_
  refine g_aloadN C 34 d8_33 rfl rfl rfl ?_
  refine g_iload C 36 d8_34 rfl rfl ?_
  refine g_daload C 37 (i := 4) rfl d8_36 rfl (by decide) bb0 rfl ?_
  refine g_dstore C 39 #[.val (.ref p1), .val (.ref ag), .val (.ref ab), .val (.ref ax), .val (.int (0 : Int32)), .val (.int (2 : Int32)), .val (.int (0 : Int32)), .val (.double bb0), .second, .val (.int k2)] d8_37 rfl rfl ?_
  refine g_aloadN C 40 d8_39 rfl rfl rfl ?_
  refine g_getfield C 43 (i := 3) (j := 2) rfl rfl d8_40 rfl (List.mem_of_getElem? (i := 26) rfl) ?_
  refine g_iload C 45 d8_43 rfl rfl ?_
  refine g_iaload C 46 (i := 2) rfl d8_45 rfl (by decide) (0 : Int32) rfl ?_
  refine g_istore C 48 #[.val (.ref p1), .val (.ref ag), .val (.ref ab), .val (.ref ax), .val (.int (0 : Int32)), .val (.int (2 : Int32)), .val (.int (0 : Int32)), .val (.double bb0), .second, .val (.int (0 : Int32))] d8_46 rfl rfl ?_
  have H0 : ∀ (L pre : List Ent) (sd : UInt64), (R0 ++ R1 ++ R2) = pre ++ (L ++ (R1 ++ R2)) → (Int32.ofNat R0.length) = Int32.ofNat (pre.length + L.length) → own_accok [xx0, zz1, zz0] sd L → (∀ k : Int32, Go p l e ({ frames := 0, cells := 0, slots := 0, locals := 0 } : Room) s m #[(.ref p1), (.ref ag), (.ref ab), (.ref ax), (.int (0 : Int32))] below meth c h0 (fun v ds' => v = none ∧ [(kc, IA Z .int (ints (own_c (R0 ++ R1 ++ R2)))), (kv, DA Z (own_v (R0 ++ R1 ++ R2))), (ks, IA Z .int (ints [(0 : Int32), (Int32.ofNat R0.length), (Int32.ofNat (R0 ++ R1).length), (Int32.ofNat (R0 ++ R1 ++ R2).length)])), (p1, OB Z a0 "com/example/libplanar/libplanar/SparseMatrix" [("com/example/libplanar/libplanar/SparseMatrix", "rows", "I", (.int (3 : Int32))), ("com/example/libplanar/libplanar/SparseMatrix", "columnCount", "I", (.int (3 : Int32))), ("com/example/libplanar/libplanar/SparseMatrix", "rowStart", "[I", (.ref ks)), ("com/example/libplanar/libplanar/SparseMatrix", "columns", "[I", (.ref kc)), ("com/example/libplanar/libplanar/SparseMatrix", "values", "[D", (.ref kv))]), (ab, DA Z [bb0, bb1, bb2]), (ax, DA Z [zz2, zz1, zz0]), d6, (ag, DA Z [gg0, gg1, gg2])] = ds') [(kc, IA Z .int (ints (own_c (R0 ++ R1 ++ R2)))), (kv, DA Z (own_v (R0 ++ R1 ++ R2))), (ks, IA Z .int (ints [(0 : Int32), (Int32.ofNat R0.length), (Int32.ofNat (R0 ++ R1).length), (Int32.ofNat (R0 ++ R1 ++ R2).length)])), (p1, OB Z a0 "com/example/libplanar/libplanar/SparseMatrix" [("com/example/libplanar/libplanar/SparseMatrix", "rows", "I", (.int (3 : Int32))), ("com/example/libplanar/libplanar/SparseMatrix", "columnCount", "I", (.int (3 : Int32))), ("com/example/libplanar/libplanar/SparseMatrix", "rowStart", "[I", (.ref ks)), ("com/example/libplanar/libplanar/SparseMatrix", "columns", "[I", (.ref kc)), ("com/example/libplanar/libplanar/SparseMatrix", "values", "[D", (.ref kv))]), (ab, DA Z [bb0, bb1, bb2]), (ax, DA Z [xx0, zz1, zz0]), d6, (ag, DA Z [gg0, gg1, gg2])] 0 0 90 #[.val (.ref p1), .val (.ref ag), .val (.ref ab), .val (.ref ax), .val (.int (0 : Int32)), .val (.int (2 : Int32)), .val (.int (0 : Int32)), .val (.double (own_acc [xx0, zz1, zz0] sd L)), .second, .val (.int k)] []) → Go p l e ({ frames := 0, cells := 0, slots := 0, locals := 0 } : Room) s m #[(.ref p1), (.ref ag), (.ref ab), (.ref ax), (.int (0 : Int32))] below meth c h0 (fun v ds' => v = none ∧ [(kc, IA Z .int (ints (own_c (R0 ++ R1 ++ R2)))), (kv, DA Z (own_v (R0 ++ R1 ++ R2))), (ks, IA Z .int (ints [(0 : Int32), (Int32.ofNat R0.length), (Int32.ofNat (R0 ++ R1).length), (Int32.ofNat (R0 ++ R1 ++ R2).length)])), (p1, OB Z a0 "com/example/libplanar/libplanar/SparseMatrix" [("com/example/libplanar/libplanar/SparseMatrix", "rows", "I", (.int (3 : Int32))), ("com/example/libplanar/libplanar/SparseMatrix", "columnCount", "I", (.int (3 : Int32))), ("com/example/libplanar/libplanar/SparseMatrix", "rowStart", "[I", (.ref ks)), ("com/example/libplanar/libplanar/SparseMatrix", "columns", "[I", (.ref kc)), ("com/example/libplanar/libplanar/SparseMatrix", "values", "[D", (.ref kv))]), (ab, DA Z [bb0, bb1, bb2]), (ax, DA Z [zz2, zz1, zz0]), d6, (ag, DA Z [gg0, gg1, gg2])] = ds') [(kc, IA Z .int (ints (own_c (R0 ++ R1 ++ R2)))), (kv, DA Z (own_v (R0 ++ R1 ++ R2))), (ks, IA Z .int (ints [(0 : Int32), (Int32.ofNat R0.length), (Int32.ofNat (R0 ++ R1).length), (Int32.ofNat (R0 ++ R1 ++ R2).length)])), (p1, OB Z a0 "com/example/libplanar/libplanar/SparseMatrix" [("com/example/libplanar/libplanar/SparseMatrix", "rows", "I", (.int (3 : Int32))), ("com/example/libplanar/libplanar/SparseMatrix", "columnCount", "I", (.int (3 : Int32))), ("com/example/libplanar/libplanar/SparseMatrix", "rowStart", "[I", (.ref ks)), ("com/example/libplanar/libplanar/SparseMatrix", "columns", "[I", (.ref kc)), ("com/example/libplanar/libplanar/SparseMatrix", "values", "[D", (.ref kv))]), (ab, DA Z [bb0, bb1, bb2]), (ax, DA Z [xx0, zz1, zz0]), d6, (ag, DA Z [gg0, gg1, gg2])] 0 0 48 #[.val (.ref p1), .val (.ref ag), .val (.ref ab), .val (.ref ax), .val (.int (0 : Int32)), .val (.int (2 : Int32)), .val (.int (0 : Int32)), .val (.double sd), .second, .val (.int (Int32.ofNat pre.length))] [] := by
    intro L
    induction L with
    | nil =>
      intro pre sd hpre hE hok K
      refine g_iload C 50 d8_48 rfl rfl ?_
      refine g_aloadN C 51 d8_50 rfl rfl rfl ?_
      refine g_getfield C 54 (i := 3) (j := 2) rfl rfl d8_51 rfl (List.mem_of_getElem? (i := 26) rfl) ?_
      refine g_iload C 56 d8_54 rfl rfl ?_
      refine g_iconst C 57 (1 : Int32) d8_56 rfl rfl ?_
      refine g_iadd C 58 d8_57 rfl ?_
      rw [show ((0 : Int32) + (1 : Int32)) = (1 : Int32) from by decide]
      refine g_iaload C 59 (i := 2) rfl d8_58 rfl (by decide) (Int32.ofNat R0.length) rfl ?_
      refine g_icY C 90 d8_59 (flt ((by rw [hE]; exact fun q => Nat.lt_irrefl _ ((own_lt9 (own_pl hP hpre) (own_pl hP hpre)).mp q)) : ¬ ((Int32.ofNat pre.length) < (Int32.ofNat R0.length)))).2.1 (by decide) (by decide) ?_
      exact K _
    | cons xa L ih =>
      intro pre sd hpre hE hok K
      refine g_iload C 50 d8_48 rfl rfl ?_
      refine g_aloadN C 51 d8_50 rfl rfl rfl ?_
      refine g_getfield C 54 (i := 3) (j := 2) rfl rfl d8_51 rfl (List.mem_of_getElem? (i := 26) rfl) ?_
      refine g_iload C 56 d8_54 rfl rfl ?_
      refine g_iconst C 57 (1 : Int32) d8_56 rfl rfl ?_
      refine g_iadd C 58 d8_57 rfl ?_
      rw [show ((0 : Int32) + (1 : Int32)) = (1 : Int32) from by decide]
      refine g_iaload C 59 (i := 2) rfl d8_58 rfl (by decide) (Int32.ofNat R0.length) rfl ?_
      refine g_icN C 62 d8_59 (tlt ((by rw [hE]; exact (own_lt9 (own_pl hP hpre) (own_pe hP hpre)).mpr (by simp)) : (Int32.ofNat pre.length) < (Int32.ofNat R0.length))).2.1 rfl ?_
      refine g_dload C 64 d8_62 rfl rfl ?_
      refine g_aloadN C 65 d8_64 rfl rfl rfl ?_
      refine g_getfield C 68 (i := 3) (j := 4) rfl rfl d8_65 rfl (List.mem_of_getElem? (i := 30) rfl) ?_
      refine g_iload C 70 d8_68 rfl rfl ?_
      refine g_daload C 71 (i := 1) rfl d8_70 rfl (own_n9 (own_pl hP hpre)).2 xa.2 (by rw [hpre]; exact own_vget (own_pc hP hpre)) ?_
      refine g_aloadN C 72 d8_71 rfl rfl rfl ?_
      refine g_aloadN C 73 d8_72 rfl rfl rfl ?_
      refine g_getfield C 76 (i := 3) (j := 3) rfl rfl d8_73 rfl (List.mem_of_getElem? (i := 28) rfl) ?_
      refine g_iload C 78 d8_76 rfl rfl ?_
      refine g_iaload C 79 (i := 0) rfl d8_78 rfl (own_n9 (own_pl hP hpre)).2 xa.1 (by rw [hpre]; exact own_cget (own_pc hP hpre)) ?_
      refine g_daload C 80 (i := 5) rfl d8_79 rfl hok.1.1 (own_xe [xx0, zz1, zz0] xa.1) (own_xg hok.1.2) ?_
      refine g_dmul C 81 d8_80 rfl hok.2.1 ?_
      refine g_dsub C 82 d8_81 rfl hok.2.2.1 ?_
      refine g_dstore C 84 #[.val (.ref p1), .val (.ref ag), .val (.ref ab), .val (.ref ax), .val (.int (0 : Int32)), .val (.int (2 : Int32)), .val (.int (0 : Int32)), .val (.double (FP.dsub sd (FP.dmul xa.2 (own_xe [xx0, zz1, zz0] xa.1)))), .second, .val (.int (Int32.ofNat pre.length))] d8_82 rfl rfl ?_
      refine g_iinc C 87 ((Int32.ofNat pre.length) + (1 : Int32)) #[.val (.ref p1), .val (.ref ag), .val (.ref ab), .val (.ref ax), .val (.int (0 : Int32)), .val (.int (2 : Int32)), .val (.int (0 : Int32)), .val (.double (FP.dsub sd (FP.dmul xa.2 (own_xe [xx0, zz1, zz0] xa.1)))), .second, .val (.int ((Int32.ofNat pre.length) + (1 : Int32)))] d8_84 rfl rfl rfl rfl ?_
      refine g_goto C 48 d8_87 (by decide) (by decide) ?_
      rw [own_s9 (own_pl hP hpre), show pre.length + 1 = (pre ++ [xa]).length by simp]
      exact ih (pre ++ [xa]) _ (by rw [hpre]; simp) (hE.trans (congrArg Int32.ofNat (by simp only [List.length_cons, List.length_append, List.length_nil]; omega))) hok.2.2.2 K
  refine H0 R0 [] _ (by simp) (congrArg Int32.ofNat (by first | (simp; done) | (simp; omega))) hA2 ?_
  intro k3
  show Go _ _ _ _ _ _ _ _ _ _ _ _ [(kc, IA Z .int (ints (own_c (R0 ++ R1 ++ R2)))), (kv, DA Z (own_v (R0 ++ R1 ++ R2))), (ks, IA Z .int (ints [(0 : Int32), (Int32.ofNat R0.length), (Int32.ofNat (R0 ++ R1).length), (Int32.ofNat (R0 ++ R1 ++ R2).length)])), (p1, OB Z a0 "com/example/libplanar/libplanar/SparseMatrix" [("com/example/libplanar/libplanar/SparseMatrix", "rows", "I", (.int (3 : Int32))), ("com/example/libplanar/libplanar/SparseMatrix", "columnCount", "I", (.int (3 : Int32))), ("com/example/libplanar/libplanar/SparseMatrix", "rowStart", "[I", (.ref ks)), ("com/example/libplanar/libplanar/SparseMatrix", "columns", "[I", (.ref kc)), ("com/example/libplanar/libplanar/SparseMatrix", "values", "[D", (.ref kv))]), (ab, DA Z [bb0, bb1, bb2]), (ax, DA Z [xx0, zz1, zz0]), d6, (ag, DA Z [gg0, gg1, gg2])] 0 0 90 #[.val (.ref p1), .val (.ref ag), .val (.ref ab), .val (.ref ax), .val (.int (0 : Int32)), .val (.int (2 : Int32)), .val (.int (0 : Int32)), .val (.double (own_acc [xx0, zz1, zz0] bb0 R0)), .second, .val (.int k3)] []
  refine g_aloadN C 91 d8_90 rfl rfl rfl ?_
  refine g_iload C 93 d8_91 rfl rfl ?_
  refine g_dup2 C 94 d8_93 rfl rfl rfl ?_
  refine g_daload C 95 (i := 5) rfl d8_94 rfl (by decide) xx0 rfl ?_
  refine g_dload C 97 d8_95 rfl rfl ?_
  refine g_aloadN C 98 d8_97 rfl rfl rfl ?_
  refine g_iload C 100 d8_98 rfl rfl ?_
  refine g_daload C 101 (i := 7) rfl d8_100 rfl (by decide) gg0 rfl ?_
  refine g_ddiv C 102 d8_101 rfl hD2 ?_
  refine g_dadd C 103 d8_102 rfl hS2 ?_
  refine g_dastore C 104 (i := 5) [(FP.dadd xx0 (FP.ddiv (own_acc [xx0, zz1, zz0] bb0 R0) gg0)), zz1, zz0] [(kc, IA Z .int (ints (own_c (R0 ++ R1 ++ R2)))), (kv, DA Z (own_v (R0 ++ R1 ++ R2))), (ks, IA Z .int (ints [(0 : Int32), (Int32.ofNat R0.length), (Int32.ofNat (R0 ++ R1).length), (Int32.ofNat (R0 ++ R1 ++ R2).length)])), (p1, OB Z a0 "com/example/libplanar/libplanar/SparseMatrix" [("com/example/libplanar/libplanar/SparseMatrix", "rows", "I", (.int (3 : Int32))), ("com/example/libplanar/libplanar/SparseMatrix", "columnCount", "I", (.int (3 : Int32))), ("com/example/libplanar/libplanar/SparseMatrix", "rowStart", "[I", (.ref ks)), ("com/example/libplanar/libplanar/SparseMatrix", "columns", "[I", (.ref kc)), ("com/example/libplanar/libplanar/SparseMatrix", "values", "[D", (.ref kv))]), (ab, DA Z [bb0, bb1, bb2]), (ax, DA Z [(FP.dadd xx0 (FP.ddiv (own_acc [xx0, zz1, zz0] bb0 R0) gg0)), zz1, zz0]), d6, (ag, DA Z [gg0, gg1, gg2])] rfl d8_103 rfl (by decide) (Nat.le_of_ble_eq_true rfl) rfl rfl ?_
  rw [hz2]
  show Go _ _ _ _ _ _ _ _ _ _ _ _ [(kc, IA Z .int (ints (own_c (R0 ++ R1 ++ R2)))), (kv, DA Z (own_v (R0 ++ R1 ++ R2))), (ks, IA Z .int (ints [(0 : Int32), (Int32.ofNat R0.length), (Int32.ofNat (R0 ++ R1).length), (Int32.ofNat (R0 ++ R1 ++ R2).length)])), (p1, OB Z a0 "com/example/libplanar/libplanar/SparseMatrix" [("com/example/libplanar/libplanar/SparseMatrix", "rows", "I", (.int (3 : Int32))), ("com/example/libplanar/libplanar/SparseMatrix", "columnCount", "I", (.int (3 : Int32))), ("com/example/libplanar/libplanar/SparseMatrix", "rowStart", "[I", (.ref ks)), ("com/example/libplanar/libplanar/SparseMatrix", "columns", "[I", (.ref kc)), ("com/example/libplanar/libplanar/SparseMatrix", "values", "[D", (.ref kv))]), (ab, DA Z [bb0, bb1, bb2]), (ax, DA Z [zz2, zz1, zz0]), d6, (ag, DA Z [gg0, gg1, gg2])] 0 0 104 #[.val (.ref p1), .val (.ref ag), .val (.ref ab), .val (.ref ax), .val (.int (0 : Int32)), .val (.int (2 : Int32)), .val (.int (0 : Int32)), .val (.double (own_acc [xx0, zz1, zz0] bb0 R0)), .second, .val (.int k3)] []
  refine g_iinc C 107 (3 : Int32) #[.val (.ref p1), .val (.ref ag), .val (.ref ab), .val (.ref ax), .val (.int (0 : Int32)), .val (.int (3 : Int32)), .val (.int (0 : Int32)), .val (.double (own_acc [xx0, zz1, zz0] bb0 R0)), .second, .val (.int k3)] d8_104 rfl rfl (by decide) rfl ?_
  refine g_goto C 3 d8_107 (by decide) (by decide) ?_
  refine g_iload C 5 d8_3 rfl rfl ?_
  refine g_aloadN C 6 d8_5 rfl rfl rfl ?_
  refine g_getfield C 9 (i := 3) (j := 0) rfl rfl d8_6 rfl (List.mem_of_getElem? (i := 22) rfl) ?_
  refine g_icY C 110 d8_9 (flt ((by decide) : ¬ ((3 : Int32) < (3 : Int32)))).2.1 (by decide) (by decide) ?_
  exact g_ret C d8_110 (by decide) (by decide) ⟨rfl, rfl⟩
set_option maxRecDepth 65536 in
set_option maxHeartbeats 40000000 in
theorem con_gs31 (l : Launch) (Z : State) (a0 : Array Value) (hw : ∀ d ∈ tables_1, d.before a0 Z = true) (h0 : Heap) (kc kv ks p1 ab ax ag : Addr) (d6 : Addr × Desc) (R0 R1 R2 : List Ent) (bb0 bb1 bb2 xx0 xx1 xx2 gg0 gg1 gg2 : UInt64) (zz0 zz1 zz2 : UInt64) (hP : (R0 ++ R1 ++ R2).length ≤ 9) (hA0 : own_accok [xx0, xx1, xx2] bb0 R0) (hD0 : Jvm.Free.Fl.NoNaN64 (FP.ddiv (own_acc [xx0, xx1, xx2] bb0 R0) gg0)) (hS0 : Jvm.Free.Fl.NoNaN64 (FP.dadd xx0 (FP.ddiv (own_acc [xx0, xx1, xx2] bb0 R0) gg0))) (hz0 : (FP.dadd xx0 (FP.ddiv (own_acc [xx0, xx1, xx2] bb0 R0) gg0)) = zz0) (hA1 : own_accok [zz0, xx1, xx2] bb1 R1) (hD1 : Jvm.Free.Fl.NoNaN64 (FP.ddiv (own_acc [zz0, xx1, xx2] bb1 R1) gg1)) (hS1 : Jvm.Free.Fl.NoNaN64 (FP.dadd xx1 (FP.ddiv (own_acc [zz0, xx1, xx2] bb1 R1) gg1))) (hz1 : (FP.dadd xx1 (FP.ddiv (own_acc [zz0, xx1, xx2] bb1 R1) gg1)) = zz1) (hA2 : own_accok [zz0, zz1, xx2] bb2 R2) (hD2 : Jvm.Free.Fl.NoNaN64 (FP.ddiv (own_acc [zz0, zz1, xx2] bb2 R2) gg2)) (hS2 : Jvm.Free.Fl.NoNaN64 (FP.dadd xx2 (FP.ddiv (own_acc [zz0, zz1, xx2] bb2 R2) gg2))) (hz2 : (FP.dadd xx2 (FP.ddiv (own_acc [zz0, zz1, xx2] bb2 R2) gg2)) = zz2) :
    Con l Z (⟨"com/example/libplanar/libplanar/SparseMatrix", "gaussSeidel", "([D[D[DZ)V"⟩ : MethodName) prog_91_method_15_code 10 none ({ frames := 0, cells := 0, slots := 0, locals := 0 } : Room) h0 #[(.ref p1), (.ref ag), (.ref ab), (.ref ax), (.int (1 : Int32))] [(kc, IA Z .int (ints (own_c (R0 ++ R1 ++ R2)))), (kv, DA Z (own_v (R0 ++ R1 ++ R2))), (ks, IA Z .int (ints [(0 : Int32), (Int32.ofNat R0.length), (Int32.ofNat (R0 ++ R1).length), (Int32.ofNat (R0 ++ R1 ++ R2).length)])), (p1, OB Z a0 "com/example/libplanar/libplanar/SparseMatrix" [("com/example/libplanar/libplanar/SparseMatrix", "rows", "I", (.int (3 : Int32))), ("com/example/libplanar/libplanar/SparseMatrix", "columnCount", "I", (.int (3 : Int32))), ("com/example/libplanar/libplanar/SparseMatrix", "rowStart", "[I", (.ref ks)), ("com/example/libplanar/libplanar/SparseMatrix", "columns", "[I", (.ref kc)), ("com/example/libplanar/libplanar/SparseMatrix", "values", "[D", (.ref kv))]), (ab, DA Z [bb0, bb1, bb2]), (ax, DA Z [xx0, xx1, xx2]), d6, (ag, DA Z [gg0, gg1, gg2])] (fun v ds' => v = none ∧ [(kc, IA Z .int (ints (own_c (R0 ++ R1 ++ R2)))), (kv, DA Z (own_v (R0 ++ R1 ++ R2))), (ks, IA Z .int (ints [(0 : Int32), (Int32.ofNat R0.length), (Int32.ofNat (R0 ++ R1).length), (Int32.ofNat (R0 ++ R1 ++ R2).length)])), (p1, OB Z a0 "com/example/libplanar/libplanar/SparseMatrix" [("com/example/libplanar/libplanar/SparseMatrix", "rows", "I", (.int (3 : Int32))), ("com/example/libplanar/libplanar/SparseMatrix", "columnCount", "I", (.int (3 : Int32))), ("com/example/libplanar/libplanar/SparseMatrix", "rowStart", "[I", (.ref ks)), ("com/example/libplanar/libplanar/SparseMatrix", "columns", "[I", (.ref kc)), ("com/example/libplanar/libplanar/SparseMatrix", "values", "[D", (.ref kv))]), (ab, DA Z [bb0, bb1, bb2]), (ax, DA Z [zz0, zz1, zz2]), d6, (ag, DA Z [gg0, gg1, gg2])] = ds') := by
  refine con_of (a0 := a0) (Ls := #[.val (.ref p1), .val (.ref ag), .val (.ref ab), .val (.ref ax), .val (.int (1 : Int32)), .unset, .unset, .unset, .unset, .unset]) (plainFor_of_name (by first | (simp [plainName, overriddenIn]; done) | decide +kernel)) hw (fun m => by first | (simp [entryFrame, mkF, argsToLocals, Value.category]; done) | rfl) ?_
  intro p e s m below meth c C
  refine g_iconst C 1 (0 : Int32) d8_0 rfl rfl ?_
  refine g_istore C 3 #[.val (.ref p1), .val (.ref ag), .val (.ref ab), .val (.ref ax), .val (.int (1 : Int32)), .val (.int (0 : Int32)), .unset, .unset, .unset, .unset] d8_1 rfl rfl ?_
  refine g_iload C 5 d8_3 rfl rfl ?_
  refine g_aloadN C 6 d8_5 rfl rfl rfl ?_
  refine g_getfield C 9 (i := 3) (j := 0) rfl rfl d8_6 rfl (List.mem_of_getElem? (i := 22) rfl) ?_
  refine g_icN C 12 d8_9 (tlt ((by decide) : (0 : Int32) < (3 : Int32))).2.1 rfl ?_
  refine g_iload C 14 d8_12 rfl rfl ?_
  refine g_ifN C 17 d8_14 (feq ((by decide) : ¬ ((1 : Int32) = (0 : Int32)))).1 rfl ?_
  refine g_iload C 19 d8_17 rfl rfl ?_
  refine g_goto C 31 d8_19 (by decide) (by decide) ?_
  refine g_istore C 33 #[.val (.ref p1), .val (.ref ag), .val (.ref ab), .val (.ref ax), .val (.int (1 : Int32)), .val (.int (0 : Int32)), .val (.int (0 : Int32)), .unset, .unset, .unset] d8_31 rfl rfl ?_
  refine g_aloadN C 34 d8_33 rfl rfl rfl ?_
  refine g_iload C 36 d8_34 rfl rfl ?_
  refine g_daload C 37 (i := 4) rfl d8_36 rfl (by decide) bb0 rfl ?_
  refine g_dstore C 39 #[.val (.ref p1), .val (.ref ag), .val (.ref ab), .val (.ref ax), .val (.int (1 : Int32)), .val (.int (0 : Int32)), .val (.int (0 : Int32)), .val (.double bb0), .second, .unset] d8_37 rfl rfl ?_
  refine g_aloadN C 40 d8_39 rfl rfl rfl ?_
  refine g_getfield C 43 (i := 3) (j := 2) rfl rfl d8_40 rfl (List.mem_of_getElem? (i := 26) rfl) ?_
  refine g_iload C 45 d8_43 rfl rfl ?_
  refine g_iaload C 46 (i := 2) rfl d8_45 rfl (by decide) (0 : Int32) rfl ?_
  refine g_istore C 48 #[.val (.ref p1), .val (.ref ag), .val (.ref ab), .val (.ref ax), .val (.int (1 : Int32)), .val (.int (0 : Int32)), .val (.int (0 : Int32)), .val (.double bb0), .second, .val (.int (0 : Int32))] d8_46 rfl rfl ?_
  have H0 : ∀ (L pre : List Ent) (sd : UInt64), (R0 ++ R1 ++ R2) = pre ++ (L ++ (R1 ++ R2)) → (Int32.ofNat R0.length) = Int32.ofNat (pre.length + L.length) → own_accok [xx0, xx1, xx2] sd L → (∀ k : Int32, Go p l e ({ frames := 0, cells := 0, slots := 0, locals := 0 } : Room) s m #[(.ref p1), (.ref ag), (.ref ab), (.ref ax), (.int (1 : Int32))] below meth c h0 (fun v ds' => v = none ∧ [(kc, IA Z .int (ints (own_c (R0 ++ R1 ++ R2)))), (kv, DA Z (own_v (R0 ++ R1 ++ R2))), (ks, IA Z .int (ints [(0 : Int32), (Int32.ofNat R0.length), (Int32.ofNat (R0 ++ R1).length), (Int32.ofNat (R0 ++ R1 ++ R2).length)])), (p1, OB Z a0 "com/example/libplanar/libplanar/SparseMatrix" [("com/example/libplanar/libplanar/SparseMatrix", "rows", "I", (.int (3 : Int32))), ("com/example/libplanar/libplanar/SparseMatrix", "columnCount", "I", (.int (3 : Int32))), ("com/example/libplanar/libplanar/SparseMatrix", "rowStart", "[I", (.ref ks)), ("com/example/libplanar/libplanar/SparseMatrix", "columns", "[I", (.ref kc)), ("com/example/libplanar/libplanar/SparseMatrix", "values", "[D", (.ref kv))]), (ab, DA Z [bb0, bb1, bb2]), (ax, DA Z [zz0, zz1, zz2]), d6, (ag, DA Z [gg0, gg1, gg2])] = ds') [(kc, IA Z .int (ints (own_c (R0 ++ R1 ++ R2)))), (kv, DA Z (own_v (R0 ++ R1 ++ R2))), (ks, IA Z .int (ints [(0 : Int32), (Int32.ofNat R0.length), (Int32.ofNat (R0 ++ R1).length), (Int32.ofNat (R0 ++ R1 ++ R2).length)])), (p1, OB Z a0 "com/example/libplanar/libplanar/SparseMatrix" [("com/example/libplanar/libplanar/SparseMatrix", "rows", "I", (.int (3 : Int32))), ("com/example/libplanar/libplanar/SparseMatrix", "columnCount", "I", (.int (3 : Int32))), ("com/example/libplanar/libplanar/SparseMatrix", "rowStart", "[I", (.ref ks)), ("com/example/libplanar/libplanar/SparseMatrix", "columns", "[I", (.ref kc)), ("com/example/libplanar/libplanar/SparseMatrix", "values", "[D", (.ref kv))]), (ab, DA Z [bb0, bb1, bb2]), (ax, DA Z [xx0, xx1, xx2]), d6, (ag, DA Z [gg0, gg1, gg2])] 0 0 90 #[.val (.ref p1), .val (.ref ag), .val (.ref ab), .val (.ref ax), .val (.int (1 : Int32)), .val (.int (0 : Int32)), .val (.int (0 : Int32)), .val (.double (own_acc [xx0, xx1, xx2] sd L)), .second, .val (.int k)] []) → Go p l e ({ frames := 0, cells := 0, slots := 0, locals := 0 } : Room) s m #[(.ref p1), (.ref ag), (.ref ab), (.ref ax), (.int (1 : Int32))] below meth c h0 (fun v ds' => v = none ∧ [(kc, IA Z .int (ints (own_c (R0 ++ R1 ++ R2)))), (kv, DA Z (own_v (R0 ++ R1 ++ R2))), (ks, IA Z .int (ints [(0 : Int32), (Int32.ofNat R0.length), (Int32.ofNat (R0 ++ R1).length), (Int32.ofNat (R0 ++ R1 ++ R2).length)])), (p1, OB Z a0 "com/example/libplanar/libplanar/SparseMatrix" [("com/example/libplanar/libplanar/SparseMatrix", "rows", "I", (.int (3 : Int32))), ("com/example/libplanar/libplanar/SparseMatrix", "columnCount", "I", (.int (3 : Int32))), ("com/example/libplanar/libplanar/SparseMatrix", "rowStart", "[I", (.ref ks)), ("com/example/libplanar/libplanar/SparseMatrix", "columns", "[I", (.ref kc)), ("com/example/libplanar/libplanar/SparseMatrix", "values", "[D", (.ref kv))]), (ab, DA Z [bb0, bb1, bb2]), (ax, DA Z [zz0, zz1, zz2]), d6, (ag, DA Z [gg0, gg1, gg2])] = ds') [(kc, IA Z .int (ints (own_c (R0 ++ R1 ++ R2)))), (kv, DA Z (own_v (R0 ++ R1 ++ R2))), (ks, IA Z .int (ints [(0 : Int32), (Int32.ofNat R0.length), (Int32.ofNat (R0 ++ R1).length), (Int32.ofNat (R0 ++ R1 ++ R2).length)])), (p1, OB Z a0 "com/example/libplanar/libplanar/SparseMatrix" [("com/example/libplanar/libplanar/SparseMatrix", "rows", "I", (.int (3 : Int32))), ("com/example/libplanar/libplanar/SparseMatrix", "columnCount", "I", (.int (3 : Int32))), ("com/example/libplanar/libplanar/SparseMatrix", "rowStart", "[I", (.ref ks)), ("com/example/libplanar/libplanar/SparseMatrix", "columns", "[I", (.ref kc)), ("com/example/libplanar/libplanar/SparseMatrix", "values", "[D", (.ref kv))]), (ab, DA Z [bb0, bb1, bb2]), (ax, DA Z [xx0, xx1, xx2]), d6, (ag, DA Z [gg0, gg1, gg2])] 0 0 48 #[.val (.ref p1), .val (.ref ag), .val (.ref ab), .val (.ref ax), .val (.int (1 : Int32)), .val (.int (0 : Int32)), .val (.int (0 : Int32)), .val (.double sd), .second, .val (.int (Int32.ofNat pre.length))] [] := by
    intro L
    induction L with
    | nil =>
      intro pre sd hpre hE hok K
      refine g_iload C 50 d8_48 rfl rfl ?_
      refine g_aloadN C 51 d8_50 rfl rfl rfl ?_
      refine g_getfield C 54 (i := 3) (j := 2) rfl rfl d8_51 rfl (List.mem_of_getElem? (i := 26) rfl) ?_
      refine g_iload C 56 d8_54 rfl rfl ?_
      refine g_iconst C 57 (1 : Int32) d8_56 rfl rfl ?_
      refine g_iadd C 58 d8_57 rfl ?_
      rw [show ((0 : Int32) + (1 : Int32)) = (1 : Int32) from by decide]
      refine g_iaload C 59 (i := 2) rfl d8_58 rfl (by decide) (Int32.ofNat R0.length) rfl ?_
      refine g_icY C 90 d8_59 (flt ((by rw [hE]; exact fun q => Nat.lt_irrefl _ ((own_lt9 (own_pl hP hpre) (own_pl hP hpre)).mp q)) : ¬ ((Int32.ofNat pre.length) < (Int32.ofNat R0.length)))).2.1 (by decide) (by decide) ?_
      exact K _
    | cons xa L ih =>
      intro pre sd hpre hE hok K
      refine g_iload C 50 d8_48 rfl rfl ?_
      refine g_aloadN C 51 d8_50 rfl rfl rfl ?_
      refine g_getfield C 54 (i := 3) (j := 2) rfl rfl d8_51 rfl (List.mem_of_getElem? (i := 26) rfl) ?_
      refine g_iload C 56 d8_54 rfl rfl ?_
      refine g_iconst C 57 (1 : Int32) d8_56 rfl rfl ?_
      refine g_iadd C 58 d8_57 rfl ?_
      rw [show ((0 : Int32) + (1 : Int32)) = (1 : Int32) from by decide]
      refine g_iaload C 59 (i := 2) rfl d8_58 rfl (by decide) (Int32.ofNat R0.length) rfl ?_
      refine g_icN C 62 d8_59 (tlt ((by rw [hE]; exact (own_lt9 (own_pl hP hpre) (own_pe hP hpre)).mpr (by simp)) : (Int32.ofNat pre.length) < (Int32.ofNat R0.length))).2.1 rfl ?_
      refine g_dload C 64 d8_62 rfl rfl ?_
      refine g_aloadN C 65 d8_64 rfl rfl rfl ?_
      refine g_getfield C 68 (i := 3) (j := 4) rfl rfl d8_65 rfl (List.mem_of_getElem? (i := 30) rfl) ?_
      refine g_iload C 70 d8_68 rfl rfl ?_
      refine g_daload C 71 (i := 1) rfl d8_70 rfl (own_n9 (own_pl hP hpre)).2 xa.2 (by rw [hpre]; exact own_vget (own_pc hP hpre)) ?_
      refine g_aloadN C 72 d8_71 rfl rfl rfl ?_
      refine g_aloadN C 73 d8_72 rfl rfl rfl ?_
      refine g_getfield C 76 (i := 3) (j := 3) rfl rfl d8_73 rfl (List.mem_of_getElem? (i := 28) rfl) ?_
      refine g_iload C 78 d8_76 rfl rfl ?_
      refine g_iaload C 79 (i := 0) rfl d8_78 rfl (own_n9 (own_pl hP hpre)).2 xa.1 (by rw [hpre]; exact own_cget (own_pc hP hpre)) ?_
      refine g_daload C 80 (i := 5) rfl d8_79 rfl hok.1.1 (own_xe [xx0, xx1, xx2] xa.1) (own_xg hok.1.2) ?_
      refine g_dmul C 81 d8_80 rfl hok.2.1 ?_
      refine g_dsub C 82 d8_81 rfl hok.2.2.1 ?_
      refine g_dstore C 84 #[.val (.ref p1), .val (.ref ag), .val (.ref ab), .val (.ref ax), .val (.int (1 : Int32)), .val (.int (0 : Int32)), .val (.int (0 : Int32)), .val (.double (FP.dsub sd (FP.dmul xa.2 (own_xe [xx0, xx1, xx2] xa.1)))), .second, .val (.int (Int32.ofNat pre.length))] d8_82 rfl rfl ?_
      refine g_iinc C 87 ((Int32.ofNat pre.length) + (1 : Int32)) #[.val (.ref p1), .val (.ref ag), .val (.ref ab), .val (.ref ax), .val (.int (1 : Int32)), .val (.int (0 : Int32)), .val (.int (0 : Int32)), .val (.double (FP.dsub sd (FP.dmul xa.2 (own_xe [xx0, xx1, xx2] xa.1)))), .second, .val (.int ((Int32.ofNat pre.length) + (1 : Int32)))] d8_84 rfl rfl rfl rfl ?_
      refine g_goto C 48 d8_87 (by decide) (by decide) ?_
      rw [own_s9 (own_pl hP hpre), show pre.length + 1 = (pre ++ [xa]).length by simp]
      exact ih (pre ++ [xa]) _ (by rw [hpre]; simp) (hE.trans (congrArg Int32.ofNat (by simp only [List.length_cons, List.length_append, List.length_nil]; omega))) hok.2.2.2 K
  refine H0 R0 [] _ (by simp) (congrArg Int32.ofNat (by first | (simp; done) | (simp; omega))) hA0 ?_
  intro k1
  show Go _ _ _ _ _ _ _ _ _ _ _ _ [(kc, IA Z .int (ints (own_c (R0 ++ R1 ++ R2)))), (kv, DA Z (own_v (R0 ++ R1 ++ R2))), (ks, IA Z .int (ints [(0 : Int32), (Int32.ofNat R0.length), (Int32.ofNat (R0 ++ R1).length), (Int32.ofNat (R0 ++ R1 ++ R2).length)])), (p1, OB Z a0 "com/example/libplanar/libplanar/SparseMatrix" [("com/example/libplanar/libplanar/SparseMatrix", "rows", "I", (.int (3 : Int32))), ("com/example/libplanar/libplanar/SparseMatrix", "columnCount", "I", (.int (3 : Int32))), ("com/example/libplanar/libplanar/SparseMatrix", "rowStart", "[I", (.ref ks)), ("com/example/libplanar/libplanar/SparseMatrix", "columns", "[I", (.ref kc)), ("com/example/libplanar/libplanar/SparseMatrix", "values", "[D", (.ref kv))]), (ab, DA Z [bb0, bb1, bb2]), (ax, DA Z [xx0, xx1, xx2]), d6, (ag, DA Z [gg0, gg1, gg2])] 0 0 90 #[.val (.ref p1), .val (.ref ag), .val (.ref ab), .val (.ref ax), .val (.int (1 : Int32)), .val (.int (0 : Int32)), .val (.int (0 : Int32)), .val (.double (own_acc [xx0, xx1, xx2] bb0 R0)), .second, .val (.int k1)] []
  refine g_aloadN C 91 d8_90 rfl rfl rfl ?_
  refine g_iload C 93 d8_91 rfl rfl ?_
  refine g_dup2 C 94 d8_93 rfl rfl rfl ?_
  refine g_daload C 95 (i := 5) rfl d8_94 rfl (by decide) xx0 rfl ?_
  refine g_dload C 97 d8_95 rfl rfl ?_
  refine g_aloadN C 98 d8_97 rfl rfl rfl ?_
  refine g_iload C 100 d8_98 rfl rfl ?_
  refine g_daload C 101 (i := 7) rfl d8_100 rfl (by decide) gg0 rfl ?_
  refine g_ddiv C 102 d8_101 rfl hD0 ?_
  refine g_dadd C 103 d8_102 rfl hS0 ?_
  refine g_dastore C 104 (i := 5) [(FP.dadd xx0 (FP.ddiv (own_acc [xx0, xx1, xx2] bb0 R0) gg0)), xx1, xx2] [(kc, IA Z .int (ints (own_c (R0 ++ R1 ++ R2)))), (kv, DA Z (own_v (R0 ++ R1 ++ R2))), (ks, IA Z .int (ints [(0 : Int32), (Int32.ofNat R0.length), (Int32.ofNat (R0 ++ R1).length), (Int32.ofNat (R0 ++ R1 ++ R2).length)])), (p1, OB Z a0 "com/example/libplanar/libplanar/SparseMatrix" [("com/example/libplanar/libplanar/SparseMatrix", "rows", "I", (.int (3 : Int32))), ("com/example/libplanar/libplanar/SparseMatrix", "columnCount", "I", (.int (3 : Int32))), ("com/example/libplanar/libplanar/SparseMatrix", "rowStart", "[I", (.ref ks)), ("com/example/libplanar/libplanar/SparseMatrix", "columns", "[I", (.ref kc)), ("com/example/libplanar/libplanar/SparseMatrix", "values", "[D", (.ref kv))]), (ab, DA Z [bb0, bb1, bb2]), (ax, DA Z [(FP.dadd xx0 (FP.ddiv (own_acc [xx0, xx1, xx2] bb0 R0) gg0)), xx1, xx2]), d6, (ag, DA Z [gg0, gg1, gg2])] rfl d8_103 rfl (by decide) (Nat.le_of_ble_eq_true rfl) rfl rfl ?_
  rw [hz0]
  show Go _ _ _ _ _ _ _ _ _ _ _ _ [(kc, IA Z .int (ints (own_c (R0 ++ R1 ++ R2)))), (kv, DA Z (own_v (R0 ++ R1 ++ R2))), (ks, IA Z .int (ints [(0 : Int32), (Int32.ofNat R0.length), (Int32.ofNat (R0 ++ R1).length), (Int32.ofNat (R0 ++ R1 ++ R2).length)])), (p1, OB Z a0 "com/example/libplanar/libplanar/SparseMatrix" [("com/example/libplanar/libplanar/SparseMatrix", "rows", "I", (.int (3 : Int32))), ("com/example/libplanar/libplanar/SparseMatrix", "columnCount", "I", (.int (3 : Int32))), ("com/example/libplanar/libplanar/SparseMatrix", "rowStart", "[I", (.ref ks)), ("com/example/libplanar/libplanar/SparseMatrix", "columns", "[I", (.ref kc)), ("com/example/libplanar/libplanar/SparseMatrix", "values", "[D", (.ref kv))]), (ab, DA Z [bb0, bb1, bb2]), (ax, DA Z [zz0, xx1, xx2]), d6, (ag, DA Z [gg0, gg1, gg2])] 0 0 104 #[.val (.ref p1), .val (.ref ag), .val (.ref ab), .val (.ref ax), .val (.int (1 : Int32)), .val (.int (0 : Int32)), .val (.int (0 : Int32)), .val (.double (own_acc [xx0, xx1, xx2] bb0 R0)), .second, .val (.int k1)] []
  refine g_iinc C 107 (1 : Int32) #[.val (.ref p1), .val (.ref ag), .val (.ref ab), .val (.ref ax), .val (.int (1 : Int32)), .val (.int (1 : Int32)), .val (.int (0 : Int32)), .val (.double (own_acc [xx0, xx1, xx2] bb0 R0)), .second, .val (.int k1)] d8_104 rfl rfl (by decide) rfl ?_
  refine g_goto C 3 d8_107 (by decide) (by decide) ?_
  refine g_iload C 5 d8_3 rfl rfl ?_
  refine g_aloadN C 6 d8_5 rfl rfl rfl ?_
  refine g_getfield C 9 (i := 3) (j := 0) rfl rfl d8_6 rfl (List.mem_of_getElem? (i := 22) rfl) ?_
  refine g_icN C 12 d8_9 (tlt ((by decide) : (1 : Int32) < (3 : Int32))).2.1 rfl ?_
  refine g_iload C 14 d8_12 rfl rfl ?_
  refine g_ifN C 17 d8_14 (feq ((by decide) : ¬ ((1 : Int32) = (0 : Int32)))).1 rfl ?_
  refine g_iload C 19 d8_17 rfl rfl ?_
  refine g_goto C 31 d8_19 (by decide) (by decide) ?_
  refine g_istore C 33 #[.val (.ref p1), .val (.ref ag), .val (.ref ab), .val (.ref ax), .val (.int (1 : Int32)), .val (.int (1 : Int32)), .val (.int (1 : Int32)), .val (.double (own_acc [xx0, xx1, xx2] bb0 R0)), .second, .val (.int k1)] d8_31 rfl rfl ?_
  refine g_aloadN C 34 d8_33 rfl rfl rfl ?_
  refine g_iload C 36 d8_34 rfl rfl ?_
  refine g_daload C 37 (i := 4) rfl d8_36 rfl (by decide) bb1 rfl ?_
  refine g_dstore C 39 #[.val (.ref p1), .val (.ref ag), .val (.ref ab), .val (.ref ax), .val (.int (1 : Int32)), .val (.int (1 : Int32)), .val (.int (1 : Int32)), .val (.double bb1), .second, .val (.int k1)] d8_37 rfl rfl ?_
  refine g_aloadN C 40 d8_39 rfl rfl rfl ?_
  refine g_getfield C 43 (i := 3) (j := 2) rfl rfl d8_40 rfl (List.mem_of_getElem? (i := 26) rfl) ?_
  refine g_iload C 45 d8_43 rfl rfl ?_
  refine g_iaload C 46 (i := 2) rfl d8_45 rfl (by decide) (Int32.ofNat R0.length) rfl ?_
  refine g_istore C 48 #[.val (.ref p1), .val (.ref ag), .val (.ref ab), .val (.ref ax), .val (.int (1 : Int32)), .val (.int (1 : Int32)), .val (.int (1 : Int32)), .val (.double bb1), .second, .val (.int (Int32.ofNat R0.length))] d8_46 rfl rfl ?_
  have H1 : ∀ (L pre : List Ent) (sd : UInt64), (R0 ++ R1 ++ R2) = pre ++ (L ++ R2) → (Int32.ofNat (R0 ++ R1).length) = Int32.ofNat (pre.length + L.length) → own_accok [zz0, xx1, xx2] sd L → (∀ k : Int32, Go p l e ({ frames := 0, cells := 0, slots := 0, locals := 0 } : Room) s m #[(.ref p1), (.ref ag), (.ref ab), (.ref ax), (.int (1 : Int32))] below meth c h0 (fun v ds' => v = none ∧ [(kc, IA Z .int (ints (own_c (R0 ++ R1 ++ R2)))), (kv, DA Z (own_v (R0 ++ R1 ++ R2))), (ks, IA Z .int (ints [(0 : Int32), (Int32.ofNat R0.length), (Int32.ofNat (R0 ++ R1).length), (Int32.ofNat (R0 ++ R1 ++ R2).length)])), (p1, OB Z a0 "com/example/libplanar/libplanar/SparseMatrix" [("com/example/libplanar/libplanar/SparseMatrix", "rows", "I", (.int (3 : Int32))), ("com/example/libplanar/libplanar/SparseMatrix", "columnCount", "I", (.int (3 : Int32))), ("com/example/libplanar/libplanar/SparseMatrix", "rowStart", "[I", (.ref ks)), ("com/example/libplanar/libplanar/SparseMatrix", "columns", "[I", (.ref kc)), ("com/example/libplanar/libplanar/SparseMatrix", "values", "[D", (.ref kv))]), (ab, DA Z [bb0, bb1, bb2]), (ax, DA Z [zz0, zz1, zz2]), d6, (ag, DA Z [gg0, gg1, gg2])] = ds') [(kc, IA Z .int (ints (own_c (R0 ++ R1 ++ R2)))), (kv, DA Z (own_v (R0 ++ R1 ++ R2))), (ks, IA Z .int (ints [(0 : Int32), (Int32.ofNat R0.length), (Int32.ofNat (R0 ++ R1).length), (Int32.ofNat (R0 ++ R1 ++ R2).length)])), (p1, OB Z a0 "com/example/libplanar/libplanar/SparseMatrix" [("com/example/libplanar/libplanar/SparseMatrix", "rows", "I", (.int (3 : Int32))), ("com/example/libplanar/libplanar/SparseMatrix", "columnCount", "I", (.int (3 : Int32))), ("com/example/libplanar/libplanar/SparseMatrix", "rowStart", "[I", (.ref ks)), ("com/example/libplanar/libplanar/SparseMatrix", "columns", "[I", (.ref kc)), ("com/example/libplanar/libplanar/SparseMatrix", "values", "[D", (.ref kv))]), (ab, DA Z [bb0, bb1, bb2]), (ax, DA Z [zz0, xx1, xx2]), d6, (ag, DA Z [gg0, gg1, gg2])] 0 0 90 #[.val (.ref p1), .val (.ref ag), .val (.ref ab), .val (.ref ax), .val (.int (1 : Int32)), .val (.int (1 : Int32)), .val (.int (1 : Int32)), .val (.double (own_acc [zz0, xx1, xx2] sd L)), .second, .val (.int k)] []) → Go p l e ({ frames := 0, cells := 0, slots := 0, locals := 0 } : Room) s m #[(.ref p1), (.ref ag), (.ref ab), (.ref ax), (.int (1 : Int32))] below meth c h0 (fun v ds' => v = none ∧ [(kc, IA Z .int (ints (own_c (R0 ++ R1 ++ R2)))), (kv, DA Z (own_v (R0 ++ R1 ++ R2))), (ks, IA Z .int (ints [(0 : Int32), (Int32.ofNat R0.length), (Int32.ofNat (R0 ++ R1).length), (Int32.ofNat (R0 ++ R1 ++ R2).length)])), (p1, OB Z a0 "com/example/libplanar/libplanar/SparseMatrix" [("com/example/libplanar/libplanar/SparseMatrix", "rows", "I", (.int (3 : Int32))), ("com/example/libplanar/libplanar/SparseMatrix", "columnCount", "I", (.int (3 : Int32))), ("com/example/libplanar/libplanar/SparseMatrix", "rowStart", "[I", (.ref ks)), ("com/example/libplanar/libplanar/SparseMatrix", "columns", "[I", (.ref kc)), ("com/example/libplanar/libplanar/SparseMatrix", "values", "[D", (.ref kv))]), (ab, DA Z [bb0, bb1, bb2]), (ax, DA Z [zz0, zz1, zz2]), d6, (ag, DA Z [gg0, gg1, gg2])] = ds') [(kc, IA Z .int (ints (own_c (R0 ++ R1 ++ R2)))), (kv, DA Z (own_v (R0 ++ R1 ++ R2))), (ks, IA Z .int (ints [(0 : Int32), (Int32.ofNat R0.length), (Int32.ofNat (R0 ++ R1).length), (Int32.ofNat (R0 ++ R1 ++ R2).length)])), (p1, OB Z a0 "com/example/libplanar/libplanar/SparseMatrix" [("com/example/libplanar/libplanar/SparseMatrix", "rows", "I", (.int (3 : Int32))), ("com/example/libplanar/libplanar/SparseMatrix", "columnCount", "I", (.int (3 : Int32))), ("com/example/libplanar/libplanar/SparseMatrix", "rowStart", "[I", (.ref ks)), ("com/example/libplanar/libplanar/SparseMatrix", "columns", "[I", (.ref kc)), ("com/example/libplanar/libplanar/SparseMatrix", "values", "[D", (.ref kv))]), (ab, DA Z [bb0, bb1, bb2]), (ax, DA Z [zz0, xx1, xx2]), d6, (ag, DA Z [gg0, gg1, gg2])] 0 0 48 #[.val (.ref p1), .val (.ref ag), .val (.ref ab), .val (.ref ax), .val (.int (1 : Int32)), .val (.int (1 : Int32)), .val (.int (1 : Int32)), .val (.double sd), .second, .val (.int (Int32.ofNat pre.length))] [] := by
    intro L
    induction L with
    | nil =>
      intro pre sd hpre hE hok K
      refine g_iload C 50 d8_48 rfl rfl ?_
      refine g_aloadN C 51 d8_50 rfl rfl rfl ?_
      refine g_getfield C 54 (i := 3) (j := 2) rfl rfl d8_51 rfl (List.mem_of_getElem? (i := 26) rfl) ?_
      refine g_iload C 56 d8_54 rfl rfl ?_
      refine g_iconst C 57 (1 : Int32) d8_56 rfl rfl ?_
      refine g_iadd C 58 d8_57 rfl ?_
      rw [show ((1 : Int32) + (1 : Int32)) = (2 : Int32) from by decide]
      refine g_iaload C 59 (i := 2) rfl d8_58 rfl (by decide) (Int32.ofNat (R0 ++ R1).length) rfl ?_
      refine g_icY C 90 d8_59 (flt ((by rw [hE]; exact fun q => Nat.lt_irrefl _ ((own_lt9 (own_pl hP hpre) (own_pl hP hpre)).mp q)) : ¬ ((Int32.ofNat pre.length) < (Int32.ofNat (R0 ++ R1).length)))).2.1 (by decide) (by decide) ?_
      exact K _
    | cons xa L ih =>
      intro pre sd hpre hE hok K
      refine g_iload C 50 d8_48 rfl rfl ?_
      refine g_aloadN C 51 d8_50 rfl rfl rfl ?_
      refine g_getfield C 54 (i := 3) (j := 2) rfl rfl d8_51 rfl (List.mem_of_getElem? (i := 26) rfl) ?_
      refine g_iload C 56 d8_54 rfl rfl ?_
      refine g_iconst C 57 (1 : Int32) d8_56 rfl rfl ?_
      refine g_iadd C 58 d8_57 rfl ?_
      rw [show ((1 : Int32) + (1 : Int32)) = (2 : Int32) from by decide]
      refine g_iaload C 59 (i := 2) rfl d8_58 rfl (by decide) (Int32.ofNat (R0 ++ R1).length) rfl ?_
      refine g_icN C 62 d8_59 (tlt ((by rw [hE]; exact (own_lt9 (own_pl hP hpre) (own_pe hP hpre)).mpr (by simp)) : (Int32.ofNat pre.length) < (Int32.ofNat (R0 ++ R1).length))).2.1 rfl ?_
      refine g_dload C 64 d8_62 rfl rfl ?_
      refine g_aloadN C 65 d8_64 rfl rfl rfl ?_
      refine g_getfield C 68 (i := 3) (j := 4) rfl rfl d8_65 rfl (List.mem_of_getElem? (i := 30) rfl) ?_
      refine g_iload C 70 d8_68 rfl rfl ?_
      refine g_daload C 71 (i := 1) rfl d8_70 rfl (own_n9 (own_pl hP hpre)).2 xa.2 (by rw [hpre]; exact own_vget (own_pc hP hpre)) ?_
      refine g_aloadN C 72 d8_71 rfl rfl rfl ?_
      refine g_aloadN C 73 d8_72 rfl rfl rfl ?_
      refine g_getfield C 76 (i := 3) (j := 3) rfl rfl d8_73 rfl (List.mem_of_getElem? (i := 28) rfl) ?_
      refine g_iload C 78 d8_76 rfl rfl ?_
      refine g_iaload C 79 (i := 0) rfl d8_78 rfl (own_n9 (own_pl hP hpre)).2 xa.1 (by rw [hpre]; exact own_cget (own_pc hP hpre)) ?_
      refine g_daload C 80 (i := 5) rfl d8_79 rfl hok.1.1 (own_xe [zz0, xx1, xx2] xa.1) (own_xg hok.1.2) ?_
      refine g_dmul C 81 d8_80 rfl hok.2.1 ?_
      refine g_dsub C 82 d8_81 rfl hok.2.2.1 ?_
      refine g_dstore C 84 #[.val (.ref p1), .val (.ref ag), .val (.ref ab), .val (.ref ax), .val (.int (1 : Int32)), .val (.int (1 : Int32)), .val (.int (1 : Int32)), .val (.double (FP.dsub sd (FP.dmul xa.2 (own_xe [zz0, xx1, xx2] xa.1)))), .second, .val (.int (Int32.ofNat pre.length))] d8_82 rfl rfl ?_
      refine g_iinc C 87 ((Int32.ofNat pre.length) + (1 : Int32)) #[.val (.ref p1), .val (.ref ag), .val (.ref ab), .val (.ref ax), .val (.int (1 : Int32)), .val (.int (1 : Int32)), .val (.int (1 : Int32)), .val (.double (FP.dsub sd (FP.dmul xa.2 (own_xe [zz0, xx1, xx2] xa.1)))), .second, .val (.int ((Int32.ofNat pre.length) + (1 : Int32)))] d8_84 rfl rfl rfl rfl ?_
      refine g_goto C 48 d8_87 (by decide) (by decide) ?_
      rw [own_s9 (own_pl hP hpre), show pre.length + 1 = (pre ++ [xa]).length by simp]
      exact ih (pre ++ [xa]) _ (by rw [hpre]; simp) (hE.trans (congrArg Int32.ofNat (by simp only [List.length_cons, List.length_append, List.length_nil]; omega))) hok.2.2.2 K
  refine H1 R1 R0 _ (by simp) (congrArg Int32.ofNat (by first | (simp; done) | (simp; omega))) hA1 ?_
  intro k2
  show Go _ _ _ _ _ _ _ _ _ _ _ _ [(kc, IA Z .int (ints (own_c (R0 ++ R1 ++ R2)))), (kv, DA Z (own_v (R0 ++ R1 ++ R2))), (ks, IA Z .int (ints [(0 : Int32), (Int32.ofNat R0.length), (Int32.ofNat (R0 ++ R1).length), (Int32.ofNat (R0 ++ R1 ++ R2).length)])), (p1, OB Z a0 "com/example/libplanar/libplanar/SparseMatrix" [("com/example/libplanar/libplanar/SparseMatrix", "rows", "I", (.int (3 : Int32))), ("com/example/libplanar/libplanar/SparseMatrix", "columnCount", "I", (.int (3 : Int32))), ("com/example/libplanar/libplanar/SparseMatrix", "rowStart", "[I", (.ref ks)), ("com/example/libplanar/libplanar/SparseMatrix", "columns", "[I", (.ref kc)), ("com/example/libplanar/libplanar/SparseMatrix", "values", "[D", (.ref kv))]), (ab, DA Z [bb0, bb1, bb2]), (ax, DA Z [zz0, xx1, xx2]), d6, (ag, DA Z [gg0, gg1, gg2])] 0 0 90 #[.val (.ref p1), .val (.ref ag), .val (.ref ab), .val (.ref ax), .val (.int (1 : Int32)), .val (.int (1 : Int32)), .val (.int (1 : Int32)), .val (.double (own_acc [zz0, xx1, xx2] bb1 R1)), .second, .val (.int k2)] []
  refine g_aloadN C 91 d8_90 rfl rfl rfl ?_
  refine g_iload C 93 d8_91 rfl rfl ?_
  refine g_dup2 C 94 d8_93 rfl rfl rfl ?_
  refine g_daload C 95 (i := 5) rfl d8_94 rfl (by decide) xx1 rfl ?_
  refine g_dload C 97 d8_95 rfl rfl ?_
  refine g_aloadN C 98 d8_97 rfl rfl rfl ?_
  refine g_iload C 100 d8_98 rfl rfl ?_
  refine g_daload C 101 (i := 7) rfl d8_100 rfl (by decide) gg1 rfl ?_
  refine g_ddiv C 102 d8_101 rfl hD1 ?_
  refine g_dadd C 103 d8_102 rfl hS1 ?_
  refine g_dastore C 104 (i := 5) [zz0, (FP.dadd xx1 (FP.ddiv (own_acc [zz0, xx1, xx2] bb1 R1) gg1)), xx2] [(kc, IA Z .int (ints (own_c (R0 ++ R1 ++ R2)))), (kv, DA Z (own_v (R0 ++ R1 ++ R2))), (ks, IA Z .int (ints [(0 : Int32), (Int32.ofNat R0.length), (Int32.ofNat (R0 ++ R1).length), (Int32.ofNat (R0 ++ R1 ++ R2).length)])), (p1, OB Z a0 "com/example/libplanar/libplanar/SparseMatrix" [("com/example/libplanar/libplanar/SparseMatrix", "rows", "I", (.int (3 : Int32))), ("com/example/libplanar/libplanar/SparseMatrix", "columnCount", "I", (.int (3 : Int32))), ("com/example/libplanar/libplanar/SparseMatrix", "rowStart", "[I", (.ref ks)), ("com/example/libplanar/libplanar/SparseMatrix", "columns", "[I", (.ref kc)), ("com/example/libplanar/libplanar/SparseMatrix", "values", "[D", (.ref kv))]), (ab, DA Z [bb0, bb1, bb2]), (ax, DA Z [zz0, (FP.dadd xx1 (FP.ddiv (own_acc [zz0, xx1, xx2] bb1 R1) gg1)), xx2]), d6, (ag, DA Z [gg0, gg1, gg2])] rfl d8_103 rfl (by decide) (Nat.le_of_ble_eq_true rfl) rfl rfl ?_
  rw [hz1]
  show Go _ _ _ _ _ _ _ _ _ _ _ _ [(kc, IA Z .int (ints (own_c (R0 ++ R1 ++ R2)))), (kv, DA Z (own_v (R0 ++ R1 ++ R2))), (ks, IA Z .int (ints [(0 : Int32), (Int32.ofNat R0.length), (Int32.ofNat (R0 ++ R1).length), (Int32.ofNat (R0 ++ R1 ++ R2).length)])), (p1, OB Z a0 "com/example/libplanar/libplanar/SparseMatrix" [("com/example/libplanar/libplanar/SparseMatrix", "rows", "I", (.int (3 : Int32))), ("com/example/libplanar/libplanar/SparseMatrix", "columnCount", "I", (.int (3 : Int32))), ("com/example/libplanar/libplanar/SparseMatrix", "rowStart", "[I", (.ref ks)), ("com/example/libplanar/libplanar/SparseMatrix", "columns", "[I", (.ref kc)), ("com/example/libplanar/libplanar/SparseMatrix", "values", "[D", (.ref kv))]), (ab, DA Z [bb0, bb1, bb2]), (ax, DA Z [zz0, zz1, xx2]), d6, (ag, DA Z [gg0, gg1, gg2])] 0 0 104 #[.val (.ref p1), .val (.ref ag), .val (.ref ab), .val (.ref ax), .val (.int (1 : Int32)), .val (.int (1 : Int32)), .val (.int (1 : Int32)), .val (.double (own_acc [zz0, xx1, xx2] bb1 R1)), .second, .val (.int k2)] []
  refine g_iinc C 107 (2 : Int32) #[.val (.ref p1), .val (.ref ag), .val (.ref ab), .val (.ref ax), .val (.int (1 : Int32)), .val (.int (2 : Int32)), .val (.int (1 : Int32)), .val (.double (own_acc [zz0, xx1, xx2] bb1 R1)), .second, .val (.int k2)] d8_104 rfl rfl (by decide) rfl ?_
  refine g_goto C 3 d8_107 (by decide) (by decide) ?_
  refine g_iload C 5 d8_3 rfl rfl ?_
  refine g_aloadN C 6 d8_5 rfl rfl rfl ?_
  refine g_getfield C 9 (i := 3) (j := 0) rfl rfl d8_6 rfl (List.mem_of_getElem? (i := 22) rfl) ?_
  refine g_icN C 12 d8_9 (tlt ((by decide) : (2 : Int32) < (3 : Int32))).2.1 rfl ?_
  refine g_iload C 14 d8_12 rfl rfl ?_
  refine g_ifN C 17 d8_14 (feq ((by decide) : ¬ ((1 : Int32) = (0 : Int32)))).1 rfl ?_
  refine g_iload C 19 d8_17 rfl rfl ?_
  refine g_goto C 31 d8_19 (by decide) (by decide) ?_
  refine g_istore C 33 #[.val (.ref p1), .val (.ref ag), .val (.ref ab), .val (.ref ax), .val (.int (1 : Int32)), .val (.int (2 : Int32)), .val (.int (2 : Int32)), .val (.double (own_acc [zz0, xx1, xx2] bb1 R1)), .second, .val (.int k2)] d8_31 rfl rfl ?_
  refine g_aloadN C 34 d8_33 rfl rfl rfl ?_
  refine g_iload C 36 d8_34 rfl rfl ?_
  refine g_daload C 37 (i := 4) rfl d8_36 rfl (by decide) bb2 rfl ?_
  refine g_dstore C 39 #[.val (.ref p1), .val (.ref ag), .val (.ref ab), .val (.ref ax), .val (.int (1 : Int32)), .val (.int (2 : Int32)), .val (.int (2 : Int32)), .val (.double bb2), .second, .val (.int k2)] d8_37 rfl rfl ?_
  refine g_aloadN C 40 d8_39 rfl rfl rfl ?_
  refine g_getfield C 43 (i := 3) (j := 2) rfl rfl d8_40 rfl (List.mem_of_getElem? (i := 26) rfl) ?_
  refine g_iload C 45 d8_43 rfl rfl ?_
  refine g_iaload C 46 (i := 2) rfl d8_45 rfl (by decide) (Int32.ofNat (R0 ++ R1).length) rfl ?_
  refine g_istore C 48 #[.val (.ref p1), .val (.ref ag), .val (.ref ab), .val (.ref ax), .val (.int (1 : Int32)), .val (.int (2 : Int32)), .val (.int (2 : Int32)), .val (.double bb2), .second, .val (.int (Int32.ofNat (R0 ++ R1).length))] d8_46 rfl rfl ?_
  have H2 : ∀ (L pre : List Ent) (sd : UInt64), (R0 ++ R1 ++ R2) = pre ++ (L ++ []) → (Int32.ofNat (R0 ++ R1 ++ R2).length) = Int32.ofNat (pre.length + L.length) → own_accok [zz0, zz1, xx2] sd L → (∀ k : Int32, Go p l e ({ frames := 0, cells := 0, slots := 0, locals := 0 } : Room) s m #[(.ref p1), (.ref ag), (.ref ab), (.ref ax), (.int (1 : Int32))] below meth c h0 (fun v ds' => v = none ∧ [(kc, IA Z .int (ints (own_c (R0 ++ R1 ++ R2)))), (kv, DA Z (own_v (R0 ++ R1 ++ R2))), (ks, IA Z .int (ints [(0 : Int32), (Int32.ofNat R0.length), (Int32.ofNat (R0 ++ R1).length), (Int32.ofNat (R0 ++ R1 ++ R2).length)])), (p1, OB Z a0 "com/example/libplanar/libplanar/SparseMatrix" [("com/example/libplanar/libplanar/SparseMatrix", "rows", "I", (.int (3 : Int32))), ("com/example/libplanar/libplanar/SparseMatrix", "columnCount", "I", (.int (3 : Int32))), ("com/example/libplanar/libplanar/SparseMatrix", "rowStart", "[I", (.ref ks)), ("com/example/libplanar/libplanar/SparseMatrix", "columns", "[I", (.ref kc)), ("com/example/libplanar/libplanar/SparseMatrix", "values", "[D", (.ref kv))]), (ab, DA Z [bb0, bb1, bb2]), (ax, DA Z [zz0, zz1, zz2]), d6, (ag, DA Z [gg0, gg1, gg2])] = ds') [(kc, IA Z .int (ints (own_c (R0 ++ R1 ++ R2)))), (kv, DA Z (own_v (R0 ++ R1 ++ R2))), (ks, IA Z .int (ints [(0 : Int32), (Int32.ofNat R0.length), (Int32.ofNat (R0 ++ R1).length), (Int32.ofNat (R0 ++ R1 ++ R2).length)])), (p1, OB Z a0 "com/example/libplanar/libplanar/SparseMatrix" [("com/example/libplanar/libplanar/SparseMatrix", "rows", "I", (.int (3 : Int32))), ("com/example/libplanar/libplanar/SparseMatrix", "columnCount", "I", (.int (3 : Int32))), ("com/example/libplanar/libplanar/SparseMatrix", "rowStart", "[I", (.ref ks)), ("com/example/libplanar/libplanar/SparseMatrix", "columns", "[I", (.ref kc)), ("com/example/libplanar/libplanar/SparseMatrix", "values", "[D", (.ref kv))]), (ab, DA Z [bb0, bb1, bb2]), (ax, DA Z [zz0, zz1, xx2]), d6, (ag, DA Z [gg0, gg1, gg2])] 0 0 90 #[.val (.ref p1), .val (.ref ag), .val (.ref ab), .val (.ref ax), .val (.int (1 : Int32)), .val (.int (2 : Int32)), .val (.int (2 : Int32)), .val (.double (own_acc [zz0, zz1, xx2] sd L)), .second, .val (.int k)] []) → Go p l e ({ frames := 0, cells := 0, slots := 0, locals := 0 } : Room) s m #[(.ref p1), (.ref ag), (.ref ab), (.ref ax), (.int (1 : Int32))] below meth c h0 (fun v ds' => v = none ∧ [(kc, IA Z .int (ints (own_c (R0 ++ R1 ++ R2)))), (kv, DA Z (own_v (R0 ++ R1 ++ R2))), (ks, IA Z .int (ints [(0 : Int32), (Int32.ofNat R0.length), (Int32.ofNat (R0 ++ R1).length), (Int32.ofNat (R0 ++ R1 ++ R2).length)])), (p1, OB Z a0 "com/example/libplanar/libplanar/SparseMatrix" [("com/example/libplanar/libplanar/SparseMatrix", "rows", "I", (.int (3 : Int32))), ("com/example/libplanar/libplanar/SparseMatrix", "columnCount", "I", (.int (3 : Int32))), ("com/example/libplanar/libplanar/SparseMatrix", "rowStart", "[I", (.ref ks)), ("com/example/libplanar/libplanar/SparseMatrix", "columns", "[I", (.ref kc)), ("com/example/libplanar/libplanar/SparseMatrix", "values", "[D", (.ref kv))]), (ab, DA Z [bb0, bb1, bb2]), (ax, DA Z [zz0, zz1, zz2]), d6, (ag, DA Z [gg0, gg1, gg2])] = ds') [(kc, IA Z .int (ints (own_c (R0 ++ R1 ++ R2)))), (kv, DA Z (own_v (R0 ++ R1 ++ R2))), (ks, IA Z .int (ints [(0 : Int32), (Int32.ofNat R0.length), (Int32.ofNat (R0 ++ R1).length), (Int32.ofNat (R0 ++ R1 ++ R2).length)])), (p1, OB Z a0 "com/example/libplanar/libplanar/SparseMatrix" [("com/example/libplanar/libplanar/SparseMatrix", "rows", "I", (.int (3 : Int32))), ("com/example/libplanar/libplanar/SparseMatrix", "columnCount", "I", (.int (3 : Int32))), ("com/example/libplanar/libplanar/SparseMatrix", "rowStart", "[I", (.ref ks)), ("com/example/libplanar/libplanar/SparseMatrix", "columns", "[I", (.ref kc)), ("com/example/libplanar/libplanar/SparseMatrix", "values", "[D", (.ref kv))]), (ab, DA Z [bb0, bb1, bb2]), (ax, DA Z [zz0, zz1, xx2]), d6, (ag, DA Z [gg0, gg1, gg2])] 0 0 48 #[.val (.ref p1), .val (.ref ag), .val (.ref ab), .val (.ref ax), .val (.int (1 : Int32)), .val (.int (2 : Int32)), .val (.int (2 : Int32)), .val (.double sd), .second, .val (.int (Int32.ofNat pre.length))] [] := by
    intro L
    induction L with
    | nil =>
      intro pre sd hpre hE hok K
      refine g_iload C 50 d8_48 rfl rfl ?_
      refine g_aloadN C 51 d8_50 rfl rfl rfl ?_
      refine g_getfield C 54 (i := 3) (j := 2) rfl rfl d8_51 rfl (List.mem_of_getElem? (i := 26) rfl) ?_
      refine g_iload C 56 d8_54 rfl rfl ?_
      refine g_iconst C 57 (1 : Int32) d8_56 rfl rfl ?_
      refine g_iadd C 58 d8_57 rfl ?_
      rw [show ((2 : Int32) + (1 : Int32)) = (3 : Int32) from by decide]
      refine g_iaload C 59 (i := 2) rfl d8_58 rfl (by decide) (Int32.ofNat (R0 ++ R1 ++ R2).length) rfl ?_
      refine g_icY C 90 d8_59 (flt ((by rw [hE]; exact fun q => Nat.lt_irrefl _ ((own_lt9 (own_pl hP hpre) (own_pl hP hpre)).mp q)) : ¬ ((Int32.ofNat pre.length) < (Int32.ofNat (R0 ++ R1 ++ R2).length)))).2.1 (by decide) (by decide) ?_
      exact K _
    | cons xa L ih =>
      intro pre sd hpre hE hok K
      refine g_iload C 50 d8_48 rfl rfl ?_
      refine g_aloadN C 51 d8_50 rfl rfl rfl ?_
      refine g_getfield C 54 (i := 3) (j := 2) rfl rfl d8_51 rfl (List.mem_of_getElem? (i := 26) rfl) ?_
      refine g_iload C 56 d8_54 rfl rfl ?_
      refine g_iconst C 57 (1 : Int32) d8_56 rfl rfl ?_
      refine g_iadd C 58 d8_57 rfl ?_
      rw [show ((2 : Int32) + (1 : Int32)) = (3 : Int32) from by decide]
      refine g_iaload C 59 (i := 2) rfl d8_58 rfl (by decide) (Int32.ofNat (R0 ++ R1 ++ R2).length) rfl ?_
      refine g_icN C 62 d8_59 (tlt ((by rw [hE]; exact (own_lt9 (own_pl hP hpre) (own_pe hP hpre)).mpr (by simp)) : (Int32.ofNat pre.length) < (Int32.ofNat (R0 ++ R1 ++ R2).length))).2.1 rfl ?_
      refine g_dload C 64 d8_62 rfl rfl ?_
      refine g_aloadN C 65 d8_64 rfl rfl rfl ?_
      refine g_getfield C 68 (i := 3) (j := 4) rfl rfl d8_65 rfl (List.mem_of_getElem? (i := 30) rfl) ?_
      refine g_iload C 70 d8_68 rfl rfl ?_
      refine g_daload C 71 (i := 1) rfl d8_70 rfl (own_n9 (own_pl hP hpre)).2 xa.2 (by rw [hpre]; exact own_vget (own_pc hP hpre)) ?_
      refine g_aloadN C 72 d8_71 rfl rfl rfl ?_
      refine g_aloadN C 73 d8_72 rfl rfl rfl ?_
      refine g_getfield C 76 (i := 3) (j := 3) rfl rfl d8_73 rfl (List.mem_of_getElem? (i := 28) rfl) ?_
      refine g_iload C 78 d8_76 rfl rfl ?_
      refine g_iaload C 79 (i := 0) rfl d8_78 rfl (own_n9 (own_pl hP hpre)).2 xa.1 (by rw [hpre]; exact own_cget (own_pc hP hpre)) ?_
      refine g_daload C 80 (i := 5) rfl d8_79 rfl hok.1.1 (own_xe [zz0, zz1, xx2] xa.1) (own_xg hok.1.2) ?_
      refine g_dmul C 81 d8_80 rfl hok.2.1 ?_
      refine g_dsub C 82 d8_81 rfl hok.2.2.1 ?_
      refine g_dstore C 84 #[.val (.ref p1), .val (.ref ag), .val (.ref ab), .val (.ref ax), .val (.int (1 : Int32)), .val (.int (2 : Int32)), .val (.int (2 : Int32)), .val (.double (FP.dsub sd (FP.dmul xa.2 (own_xe [zz0, zz1, xx2] xa.1)))), .second, .val (.int (Int32.ofNat pre.length))] d8_82 rfl rfl ?_
      refine g_iinc C 87 ((Int32.ofNat pre.length) + (1 : Int32)) #[.val (.ref p1), .val (.ref ag), .val (.ref ab), .val (.ref ax), .val (.int (1 : Int32)), .val (.int (2 : Int32)), .val (.int (2 : Int32)), .val (.double (FP.dsub sd (FP.dmul xa.2 (own_xe [zz0, zz1, xx2] xa.1)))), .second, .val (.int ((Int32.ofNat pre.length) + (1 : Int32)))] d8_84 rfl rfl rfl rfl ?_
      refine g_goto C 48 d8_87 (by decide) (by decide) ?_
      rw [own_s9 (own_pl hP hpre), show pre.length + 1 = (pre ++ [xa]).length by simp]
      exact ih (pre ++ [xa]) _ (by rw [hpre]; simp) (hE.trans (congrArg Int32.ofNat (by simp only [List.length_cons, List.length_append, List.length_nil]; omega))) hok.2.2.2 K
  refine H2 R2 (R0 ++ R1) _ (by simp) (congrArg Int32.ofNat (by first | (simp; done) | (simp; omega))) hA2 ?_
  intro k3
  show Go _ _ _ _ _ _ _ _ _ _ _ _ [(kc, IA Z .int (ints (own_c (R0 ++ R1 ++ R2)))), (kv, DA Z (own_v (R0 ++ R1 ++ R2))), (ks, IA Z .int (ints [(0 : Int32), (Int32.ofNat R0.length), (Int32.ofNat (R0 ++ R1).length), (Int32.ofNat (R0 ++ R1 ++ R2).length)])), (p1, OB Z a0 "com/example/libplanar/libplanar/SparseMatrix" [("com/example/libplanar/libplanar/SparseMatrix", "rows", "I", (.int (3 : Int32))), ("com/example/libplanar/libplanar/SparseMatrix", "columnCount", "I", (.int (3 : Int32))), ("com/example/libplanar/libplanar/SparseMatrix", "rowStart", "[I", (.ref ks)), ("com/example/libplanar/libplanar/SparseMatrix", "columns", "[I", (.ref kc)), ("com/example/libplanar/libplanar/SparseMatrix", "values", "[D", (.ref kv))]), (ab, DA Z [bb0, bb1, bb2]), (ax, DA Z [zz0, zz1, xx2]), d6, (ag, DA Z [gg0, gg1, gg2])] 0 0 90 #[.val (.ref p1), .val (.ref ag), .val (.ref ab), .val (.ref ax), .val (.int (1 : Int32)), .val (.int (2 : Int32)), .val (.int (2 : Int32)), .val (.double (own_acc [zz0, zz1, xx2] bb2 R2)), .second, .val (.int k3)] []
  refine g_aloadN C 91 d8_90 rfl rfl rfl ?_
  refine g_iload C 93 d8_91 rfl rfl ?_
  refine g_dup2 C 94 d8_93 rfl rfl rfl ?_
  refine g_daload C 95 (i := 5) rfl d8_94 rfl (by decide) xx2 rfl ?_
  refine g_dload C 97 d8_95 rfl rfl ?_
  refine g_aloadN C 98 d8_97 rfl rfl rfl ?_
  refine g_iload C 100 d8_98 rfl rfl ?_
  refine g_daload C 101 (i := 7) rfl d8_100 rfl (by decide) gg2 rfl ?_
  refine g_ddiv C 102 d8_101 rfl hD2 ?_
  refine g_dadd C 103 d8_102 rfl hS2 ?_
  refine g_dastore C 104 (i := 5) [zz0, zz1, (FP.dadd xx2 (FP.ddiv (own_acc [zz0, zz1, xx2] bb2 R2) gg2))] [(kc, IA Z .int (ints (own_c (R0 ++ R1 ++ R2)))), (kv, DA Z (own_v (R0 ++ R1 ++ R2))), (ks, IA Z .int (ints [(0 : Int32), (Int32.ofNat R0.length), (Int32.ofNat (R0 ++ R1).length), (Int32.ofNat (R0 ++ R1 ++ R2).length)])), (p1, OB Z a0 "com/example/libplanar/libplanar/SparseMatrix" [("com/example/libplanar/libplanar/SparseMatrix", "rows", "I", (.int (3 : Int32))), ("com/example/libplanar/libplanar/SparseMatrix", "columnCount", "I", (.int (3 : Int32))), ("com/example/libplanar/libplanar/SparseMatrix", "rowStart", "[I", (.ref ks)), ("com/example/libplanar/libplanar/SparseMatrix", "columns", "[I", (.ref kc)), ("com/example/libplanar/libplanar/SparseMatrix", "values", "[D", (.ref kv))]), (ab, DA Z [bb0, bb1, bb2]), (ax, DA Z [zz0, zz1, (FP.dadd xx2 (FP.ddiv (own_acc [zz0, zz1, xx2] bb2 R2) gg2))]), d6, (ag, DA Z [gg0, gg1, gg2])] rfl d8_103 rfl (by decide) (Nat.le_of_ble_eq_true rfl) rfl rfl ?_
  rw [hz2]
  show Go _ _ _ _ _ _ _ _ _ _ _ _ [(kc, IA Z .int (ints (own_c (R0 ++ R1 ++ R2)))), (kv, DA Z (own_v (R0 ++ R1 ++ R2))), (ks, IA Z .int (ints [(0 : Int32), (Int32.ofNat R0.length), (Int32.ofNat (R0 ++ R1).length), (Int32.ofNat (R0 ++ R1 ++ R2).length)])), (p1, OB Z a0 "com/example/libplanar/libplanar/SparseMatrix" [("com/example/libplanar/libplanar/SparseMatrix", "rows", "I", (.int (3 : Int32))), ("com/example/libplanar/libplanar/SparseMatrix", "columnCount", "I", (.int (3 : Int32))), ("com/example/libplanar/libplanar/SparseMatrix", "rowStart", "[I", (.ref ks)), ("com/example/libplanar/libplanar/SparseMatrix", "columns", "[I", (.ref kc)), ("com/example/libplanar/libplanar/SparseMatrix", "values", "[D", (.ref kv))]), (ab, DA Z [bb0, bb1, bb2]), (ax, DA Z [zz0, zz1, zz2]), d6, (ag, DA Z [gg0, gg1, gg2])] 0 0 104 #[.val (.ref p1), .val (.ref ag), .val (.ref ab), .val (.ref ax), .val (.int (1 : Int32)), .val (.int (2 : Int32)), .val (.int (2 : Int32)), .val (.double (own_acc [zz0, zz1, xx2] bb2 R2)), .second, .val (.int k3)] []
  refine g_iinc C 107 (3 : Int32) #[.val (.ref p1), .val (.ref ag), .val (.ref ab), .val (.ref ax), .val (.int (1 : Int32)), .val (.int (3 : Int32)), .val (.int (2 : Int32)), .val (.double (own_acc [zz0, zz1, xx2] bb2 R2)), .second, .val (.int k3)] d8_104 rfl rfl (by decide) rfl ?_
  refine g_goto C 3 d8_107 (by decide) (by decide) ?_
  refine g_iload C 5 d8_3 rfl rfl ?_
  refine g_aloadN C 6 d8_5 rfl rfl rfl ?_
  refine g_getfield C 9 (i := 3) (j := 0) rfl rfl d8_6 rfl (List.mem_of_getElem? (i := 22) rfl) ?_
  refine g_icY C 110 d8_9 (flt ((by decide) : ¬ ((3 : Int32) < (3 : Int32)))).2.1 (by decide) (by decide) ?_
  exact g_ret C d8_110 (by decide) (by decide) ⟨rfl, rfl⟩
theorem own_bm {a k : Int} {B : Nat} (ha : a.natAbs ≤ 8) (hk : k.natAbs ≤ B) : (a * k).natAbs ≤ 8 * B := by rw [Int.natAbs_mul]; exact Nat.mul_le_mul ha hk
def own_ci (o a : Int32) : Int := if o = (0 : Int32) then 0 else a.toInt
theorem own_ci8 {o a : Int32} (h : a.toInt.natAbs ≤ 8) : (own_ci o a).natAbs ≤ 8 := by unfold own_ci; split; exact Nat.zero_le _; exact h
theorem own_acco {xs : List UInt64} {j a o : Int32} {s : UInt64} {k kj kf : Int} {T : List Ent} {B : Nat} (hj : ¬ j < 0 ∧ j.toNatClampNeg < xs.length) (hx : DV (own_xe xs j) kj) (hs : DV s k) (ha : a.toInt.natAbs ≤ 8) (hk : kj.natAbs ≤ B) (hB : B ≤ 100000000) (hkk : k.natAbs ≤ 10000000000)
    (H : ∀ s', DV s' (k - own_ci o a * kj) → own_accok xs s' T ∧ DV (own_acc xs s' T) kf) : own_accok xs s (own_o o (j, FP.i2d a) ++ T) ∧ DV (own_acc xs s (own_o o (j, FP.i2d a) ++ T)) kf := by
  unfold own_o
  unfold own_ci at H
  by_cases h : o = (0 : Int32)
  · rw [if_pos h] at H ⊢
    exact H s (by rw [Int.zero_mul, Int.sub_zero]; exact hs)
  · rw [if_neg h] at H ⊢
    have b1 := own_bm ha hk
    have m1 := DV.mul (DV.i2d a) hx (by omega)
    have m2 := DV.sub hs m1 (by omega)
    have g := H _ m2
    exact ⟨⟨hj, m1.noNaN, m2.noNaN, g.1⟩, g.2⟩
theorem own_accn {xs : List UInt64} {s : UInt64} {k : Int} (hs : DV s k) : own_accok xs s [] ∧ DV (own_acc xs s []) k := ⟨trivial, hs⟩
theorem own_rowacc {x0 x1 x2 b : UInt64} {k0 k1 k2 kb : Int} {o0 o1 o2 a0 a1 a2 : Int32} {B : Nat} (hx0 : DV x0 k0) (hx1 : DV x1 k1) (hx2 : DV x2 k2) (hb : DV b kb) (h0 : k0.natAbs ≤ B) (h1 : k1.natAbs ≤ B) (h2 : k2.natAbs ≤ B) (hkb : kb.natAbs ≤ 4096) (ha0 : a0.toInt.natAbs ≤ 8) (ha1 : a1.toInt.natAbs ≤ 8) (ha2 : a2.toInt.natAbs ≤ 8) (hB : B ≤ 100000000) :
    own_accok [x0, x1, x2] b (own_row o0 ((0 : Int32), FP.i2d a0) o1 ((1 : Int32), FP.i2d a1) o2 ((2 : Int32), FP.i2d a2)) ∧ DV (own_acc [x0, x1, x2] b (own_row o0 ((0 : Int32), FP.i2d a0) o1 ((1 : Int32), FP.i2d a1) o2 ((2 : Int32), FP.i2d a2))) (kb - (own_ci o0 a0 * k0 + own_ci o1 a1 * k1 + own_ci o2 a2 * k2)) := by
  unfold own_row
  have q0 := own_bm (own_ci8 (o := o0) ha0) h0
  have q1 := own_bm (own_ci8 (o := o1) ha1) h1
  have q2 := own_bm (own_ci8 (o := o2) ha2) h2
  refine own_acco ⟨by decide, (by decide : Int32.toNatClampNeg 0 < 3)⟩ (kj := k0) hx0 hb ha0 h0 hB (by omega) fun s1 d1 => ?_
  refine own_acco ⟨by decide, (by decide : Int32.toNatClampNeg 1 < 3)⟩ (kj := k1) hx1 d1 ha1 h1 hB (by omega) fun s2 d2 => ?_
  rw [← List.append_nil (own_o o2 _)]
  refine own_acco ⟨by decide, (by decide : Int32.toNatClampNeg 2 < 3)⟩ (kj := k2) hx2 d2 ha2 h2 hB (by omega) fun s3 d3 => ?_
  have e : kb - own_ci o0 a0 * k0 - own_ci o1 a1 * k1 - own_ci o2 a2 * k2 = kb - (own_ci o0 a0 * k0 + own_ci o1 a1 * k1 + own_ci o2 a2 * k2) := by omega
  rw [e] at d3
  exact own_accn d3
def own_D (D : Int) : Prop := D = 1 ∨ D = 2 ∨ D = 4 ∨ D = 8 ∨ D = -1 ∨ D = -2 ∨ D = -4 ∨ D = -8
theorem own_div {S M M8 D : Int} (hM : M8 = 8 * M) (h : M8 ∣ S) (hD : own_D D) : ∃ q, S = q * D ∧ M ∣ q ∧ q.natAbs ≤ S.natAbs ∧ D ≠ 0 := by
  obtain ⟨t, rfl⟩ := h
  subst hM
  rw [Int.mul_assoc]
  have hw : M ∣ M * t := ⟨t, rfl⟩
  generalize M * t = w at *
  have e8 : M ∣ 8 * w := Int.dvd_mul_of_dvd_right hw
  have f : ∀ c : Int, M ∣ c * w := fun c => Int.dvd_mul_of_dvd_right hw
  rcases hD with rfl | rfl | rfl | rfl | rfl | rfl | rfl | rfl
  · exact ⟨8 * w, by omega, f 8, by omega, by decide⟩
  · exact ⟨4 * w, by omega, f 4, by omega, by decide⟩
  · exact ⟨2 * w, by omega, f 2, by omega, by decide⟩
  · exact ⟨1 * w, by omega, f 1, by omega, by decide⟩
  · exact ⟨(-8) * w, by omega, f (-8), by omega, by decide⟩
  · exact ⟨(-4) * w, by omega, f (-4), by omega, by decide⟩
  · exact ⟨(-2) * w, by omega, f (-2), by omega, by decide⟩
  · exact ⟨(-1) * w, by omega, f (-1), by omega, by decide⟩
theorem own_lt53 {p : Int} {B : Nat} (h : p.natAbs ≤ 8 * B) (hB : B ≤ 100000000) : p.natAbs < 2 ^ 53 := by omega
theorem own_core {ac m0 m1 m2 b g xr yr : UInt64} {p0 p1 p2 kr kb D M M8 : Int} {B : Nat} (A2 : DV ac (kb - (p0 + p1 + p2))) (h0 : DV m0 p0) (h1 : DV m1 p1) (h2 : DV m2 p2) (hxr : DV xr kr) (hyr : DV yr kr) (hb : DV b kb) (hg : DV g (512 * D)) (q0 : p0.natAbs ≤ 8 * B) (q1 : p1.natAbs ≤ 8 * B) (q2 : p2.natAbs ≤ 8 * B) (hr : kr.natAbs ≤ B) (hkb : kb.natAbs ≤ 4096) (hB : B ≤ 100000000) (hM : M8 = 8 * M) (w0 : M8 ∣ p0) (w1 : M8 ∣ p1) (w2 : M8 ∣ p2) (vr : M8 ∣ kr) (vb : M8 ∣ kb) (hD : own_D D) :
    ∃ k' : Int, Jvm.Free.Fl.NoNaN64 (FP.dadd m0 m1) ∧ Jvm.Free.Fl.NoNaN64 (FP.dadd (FP.dadd m0 m1) m2) ∧ Jvm.Free.Fl.NoNaN64 (FP.dsub b (FP.dadd (FP.dadd m0 m1) m2)) ∧ Jvm.Free.Fl.NoNaN64 (FP.ddiv (FP.dsub b (FP.dadd (FP.dadd m0 m1) m2)) g) ∧ DV (FP.dadd yr (FP.ddiv (FP.dsub b (FP.dadd (FP.dadd m0 m1) m2)) g)) k' ∧ Jvm.Free.Fl.NoNaN64 (FP.ddiv ac g) ∧ Jvm.Free.Fl.NoNaN64 (FP.dadd xr (FP.ddiv ac g)) ∧ DV (FP.dadd xr (FP.ddiv ac g)) k' ∧ k'.natAbs ≤ 25 * B + 4096 ∧ M ∣ k' := by
  have s1 := DV.add h0 h1 (by omega)
  have s2 := DV.add s1 h2 (by omega)
  have s3 := DV.sub hb s2 (by omega)
  have dM : M ∣ M8 := by rw [hM]; exact Int.dvd_mul_of_dvd_right (Int.dvd_refl M)
  have dk := Int.dvd_trans dM vr
  obtain ⟨q, e2, dq, lq, nz⟩ := own_div (S := kb - (p0 + p1 + p2)) hM (Int.dvd_sub vb (Int.dvd_add (Int.dvd_add w0 w1) w2)) hD
  have lS : q.natAbs ≤ 24 * B + 4096 := Nat.le_trans lq (by omega)
  rw [e2] at A2 s3
  clear w0 w1 w2 vr vb e2 lq q0 q1 q2 h0 h1 h2
  have lq53 : q.natAbs < 2 ^ 53 := by omega
  have lk53 : (kr + q).natAbs < 2 ^ 53 := by omega
  have d1 := DV.div A2 hg nz lq53
  have d2 := DV.div s3 hg nz lq53
  have t1 := DV.add hxr d1 lk53
  have t2 := DV.add hyr d2 lk53
  exact ⟨kr + q, s1.noNaN, s2.noNaN, s3.noNaN, d2.noNaN, t2, d1.noNaN, t1.noNaN, t1, by omega, Int.dvd_add dk dq⟩
set_option maxHeartbeats 400000 in
theorem own_step {x0 x1 x2 y0 y1 y2 xr yr b g C0 C1 C2 : UInt64} {k0 k1 k2 kr kb D : Int} {o0 o1 o2 a0 a1 a2 : Int32} {R : List Ent} (B : Nat) (M M8 : Int)
    (hR : own_row o0 ((0 : Int32), FP.i2d a0) o1 ((1 : Int32), FP.i2d a1) o2 ((2 : Int32), FP.i2d a2) = R) (hx0 : DV x0 k0) (hx1 : DV x1 k1) (hx2 : DV x2 k2) (hy0 : DV y0 k0) (hy1 : DV y1 k1) (hy2 : DV y2 k2) (hxr : DV xr kr) (hyr : DV yr kr) (hb : DV b kb) (hg : DV g (512 * D)) (hC0 : DV C0 (512 * own_ci o0 a0)) (hC1 : DV C1 (512 * own_ci o1 a1)) (hC2 : DV C2 (512 * own_ci o2 a2))
    (h0 : k0.natAbs ≤ B) (h1 : k1.natAbs ≤ B) (h2 : k2.natAbs ≤ B) (hr : kr.natAbs ≤ B) (hkb : kb.natAbs ≤ 4096) (ha0 : a0.toInt.natAbs ≤ 8) (ha1 : a1.toInt.natAbs ≤ 8) (ha2 : a2.toInt.natAbs ≤ 8) (hB : B ≤ 100000000) (hM : M8 = 8 * M) (v0 : M8 ∣ k0) (v1 : M8 ∣ k1) (v2 : M8 ∣ k2) (vr : M8 ∣ kr) (vb : M8 ∣ kb) (hD : own_D D) :
    ∃ (k' : Int) (zz yy : UInt64), own_updok C0 C1 C2 y0 y1 y2 b g yr ∧ own_upd C0 C1 C2 y0 y1 y2 b g yr = yy ∧ DV yy k' ∧ own_accok [x0, x1, x2] b R ∧ Jvm.Free.Fl.NoNaN64 (FP.ddiv (own_acc [x0, x1, x2] b R) g) ∧ Jvm.Free.Fl.NoNaN64 (FP.dadd xr (FP.ddiv (own_acc [x0, x1, x2] b R) g)) ∧ FP.dadd xr (FP.ddiv (own_acc [x0, x1, x2] b R) g) = zz ∧ DV zz k' ∧ k'.natAbs ≤ 25 * B + 4096 ∧ M ∣ k' := by
  subst hR
  obtain ⟨A1, A2⟩ := own_rowacc (o0 := o0) (o1 := o1) (o2 := o2) (a0 := a0) (a1 := a1) (a2 := a2) hx0 hx1 hx2 hb h0 h1 h2 hkb ha0 ha1 ha2 hB
  have q0 := own_bm (own_ci8 (o := o0) ha0) h0
  have q1 := own_bm (own_ci8 (o := o1) ha1) h1
  have q2 := own_bm (own_ci8 (o := o2) ha2) h2
  have m0 := DV.mul hC0 hy0 (own_lt53 q0 hB)
  have m1 := DV.mul hC1 hy1 (own_lt53 q1 hB)
  have m2 := DV.mul hC2 hy2 (own_lt53 q2 hB)
  obtain ⟨k', c1, c2, c3, c4, c5, c6, c7, c8, c9, c10⟩ := own_core (B := B) (M := M) (M8 := M8) A2 m0 m1 m2 hxr hyr hb hg q0 q1 q2 hr hkb hB hM (Int.dvd_mul_of_dvd_right v0) (Int.dvd_mul_of_dvd_right v1) (Int.dvd_mul_of_dvd_right v2) vr vb hD
  exact ⟨k', _, _, ⟨m0.noNaN, m1.noNaN, c1, m2.noNaN, c2, c3, c4, c5.noNaN⟩, rfl, c5, A1, c6, c7, rfl, c8, c9, c10⟩
theorem own_and (x m : Int32) : ∃ k, k ≤ m.toBitVec.toNat ∧ (x &&& m) = Int32.ofNat k := by
  refine ⟨(x &&& m).toBitVec.toNat, ?_, ?_⟩
  · have e : (x &&& m).toBitVec.toNat = x.toBitVec.toNat &&& m.toBitVec.toNat := by simp
    rw [e]; exact Nat.and_le_right
  · apply Int32.toBitVec_inj.mp; simp [Int32.toBitVec_ofNat']
theorem own_and64 (x m : Int64) : ∃ k, k ≤ m.toBitVec.toNat ∧ (x &&& m) = Int64.ofNat k := by
  refine ⟨(x &&& m).toBitVec.toNat, ?_, ?_⟩
  · have e : (x &&& m).toBitVec.toNat = x.toBitVec.toNat &&& m.toBitVec.toNat := by simp
    rw [e]; exact Nat.and_le_right
  · apply Int64.toBitVec_inj.mp; simp [Int64.toBitVec_ofNat']
theorem own_small (x k : Int32) : ∃ v : Int, DV (f_small x k) v ∧ v.natAbs ≤ 4096 ∧ (512 : Int) ∣ v := by
  unfold f_small
  obtain ⟨m, hm, e⟩ := own_and (x.toUInt32 >>> (((4 : Int32) * k) &&& 31).toUInt32).toInt32 15
  rw [e]
  have q : ∀ m : Fin 16, (Int32.ofNat m.val - (8 : Int32)).toInt.natAbs ≤ 8 := by decide
  have h8 := q ⟨m, Nat.lt_succ_of_le hm⟩
  refine ⟨_, DV.i2d _, ?_, ⟨_, rfl⟩⟩
  rw [Int.natAbs_mul]; exact Nat.mul_le_mul (Nat.le_refl 512) h8
theorem own_coef (x : Int64) (k : Int32) : (f_coef x k).toInt.natAbs ≤ 8 := by
  unfold f_coef
  obtain ⟨m, hm, e⟩ := own_and64 (x.toUInt64 >>> (((4 : Int32) * k) &&& 0x3f).toInt64.toUInt64).toInt64 15
  rw [e]
  have q : ∀ m : Fin 16, ((Int64.ofNat m.val).toInt32 - (8 : Int32)).toInt.natAbs ≤ 8 := by decide
  exact q ⟨m, Nat.lt_succ_of_le hm⟩
theorem own_dv (x k : Int32) : ∃ D : Int, DV (f_dv x k) (512 * D) ∧ own_D D := by
  unfold f_dv
  obtain ⟨m, hm, e⟩ := own_and (x.toUInt32 >>> (((3 : Int32) * k) &&& 31).toUInt32).toInt32 7
  rw [e]
  have q : ∀ m : Fin 8, ∃ v : Int32, (if ((Int32.ofNat m.val) &&& (4 : Int32)) = (0 : Int32) then FP.i2d ((1 : Int32) <<< (((Int32.ofNat m.val) &&& (3 : Int32)) &&& 31)) else FP.i2d (-((1 : Int32) <<< (((Int32.ofNat m.val) &&& (3 : Int32)) &&& 31)))) = FP.i2d v ∧ (v.toInt = 1 ∨ v.toInt = 2 ∨ v.toInt = 4 ∨ v.toInt = 8 ∨ v.toInt = -1 ∨ v.toInt = -2 ∨ v.toInt = -4 ∨ v.toInt = -8) := by
    intro m
    by_cases h : ((Int32.ofNat m.val) &&& (4 : Int32)) = (0 : Int32)
    · rw [if_pos h]; exact ⟨_, rfl, by revert m; decide⟩
    · rw [if_neg h]; exact ⟨_, rfl, by revert m; decide⟩
  obtain ⟨v, e2, h⟩ := q ⟨m, Nat.lt_succ_of_le hm⟩
  exact ⟨v.toInt, by rw [e2]; exact DV.i2d v, h⟩
theorem own_fc (x : Int64) (s n k : Int32) : DV (f_c x s n k) (512 * own_ci (f_on s n k) (f_coef x k)) := by
  unfold f_c own_ci
  split
  · rw [Int.mul_zero]; exact DV.zero
  · exact DV.i2d _
theorem own_n3 {x n : Int32} (h : (x &&& (3 : Int32)) = n) : n = (0 : Int32) ∨ n = (1 : Int32) ∨ n = (2 : Int32) ∨ n = (3 : Int32) := by
  obtain ⟨m, hm, e⟩ := own_and x 3
  rw [e] at h
  subst h
  have q : ∀ m : Fin 4, (Int32.ofNat m.val = (0 : Int32) ∨ Int32.ofNat m.val = (1 : Int32) ∨ Int32.ofNat m.val = (2 : Int32) ∨ Int32.ofNat m.val = (3 : Int32)) := by decide
  exact q ⟨m, Nat.lt_succ_of_le hm⟩
theorem own_app3 {P P1 P2 P3 : List Ent} {o0 o1 o2 : Int32} {x0 x1 x2 : Ent} (h1 : own_app P o0 x0 = P1) (h2 : own_app P1 o1 x1 = P2) (h3 : own_app P2 o2 x2 = P3) : P3 = P ++ own_row o0 x0 o1 x1 o2 x2 := by
  subst h1 h2 h3
  rw [own_appo, own_appo, own_appo]; unfold own_row; simp

set_option maxRecDepth 65536 in
set_option maxHeartbeats 40000000 in
theorem con_law (l : Launch) (Z : State) (a0 : Array Value) (hw : ∀ d ∈ tables_1, d.before a0 Z = true) (h0 : Heap) (x0 : Int64) (x1 x2 x3 : Int32)  :
    Con l Z x code maxLocals ret room_1 h0 #[(.long x0), (.int x1), (.int x2), (.int x3)] [] (fun v ds' => v = some (.int 1)) := by
  refine con_of (a0 := a0) (Ls := #[.val (.long x0), .second, .val (.int x1), .val (.int x2), .val (.int x3), .unset, .unset, .unset, .unset, .unset, .unset, .unset, .unset, .unset, .unset, .unset]) (plainFor_of_name (by first | (simp [plainName, overriddenIn]; done) | decide +kernel)) hw (fun m => by first | (simp [entryFrame, mkF, argsToLocals, Value.category, maxLocals]; done) | rfl) ?_
  intro p e s m below meth c C
  refine g_iload C 2 at_0 rfl rfl ?_
  refine g_iconst C 3 (3 : Int32) at_2 rfl rfl ?_
  refine g_iand C 4 at_3 rfl ?_
  refine g_istore C 6 #[.val (.long x0), .second, .val (.int x1), .val (.int x2), .val (.int x3), .val (.int (x3 &&& (3 : Int32))), .unset, .unset, .unset, .unset, .unset, .unset, .unset, .unset, .unset, .unset] at_4 rfl rfl ?_
  generalize hnQ : (x3 &&& (3 : Int32)) = nQ
  refine g_iload C 8 at_6 rfl rfl ?_
  refine g_iconst C 9 (2 : Int32) at_8 rfl rfl ?_
  refine g_iushr C 10 at_9 rfl ?_
  refine g_iconst C 11 (1 : Int32) at_10 rfl rfl ?_
  refine g_iand C 12 at_11 rfl ?_
  have J3 : ∀ j2 : Int32, j2 = (if (((x3.toUInt32 >>> ((2 : Int32) &&& 31).toUInt32).toInt32) &&& (1 : Int32)) = (0 : Int32) then (0 : Int32) else (1 : Int32)) → Go p l e room_1 s m #[(.long x0), (.int x1), (.int x2), (.int x3)] below meth c h0 (fun v ds' => v = some (.int 1)) [] 0 0 20 #[.val (.long x0), .second, .val (.int x1), .val (.int x2), .val (.int x3), .val (.int nQ), .unset, .unset, .unset, .unset, .unset, .unset, .unset, .unset, .unset, .unset] [(.int j2)] := by
    intro j2 hj2
    refine g_istore C 22 #[.val (.long x0), .second, .val (.int x1), .val (.int x2), .val (.int x3), .val (.int nQ), .val (.int j2), .unset, .unset, .unset, .unset, .unset, .unset, .unset, .unset, .unset] at_20 rfl rfl ?_
    refine g_bipush C 24 (9 : Int32) at_22 rfl rfl ?_
    refine g_newarray C 26 (ints [(0 : Int32), (0 : Int32), (0 : Int32), (0 : Int32), (0 : Int32), (0 : Int32), (0 : Int32), (0 : Int32), (0 : Int32)]) 9 (List.mem_of_getElem? (i := 0) rfl) at_24 rfl (by decide) (by decide) (by decide) (by decide) (by decide) rfl ?_
    intro kc
    show Go _ _ _ _ _ _ _ _ _ _ _ _ [(kc, IA Z .int (ints [(0 : Int32), (0 : Int32), (0 : Int32), (0 : Int32), (0 : Int32), (0 : Int32), (0 : Int32), (0 : Int32), (0 : Int32)]))] 1 9 26 #[.val (.long x0), .second, .val (.int x1), .val (.int x2), .val (.int x3), .val (.int nQ), .val (.int j2), .unset, .unset, .unset, .unset, .unset, .unset, .unset, .unset, .unset] [(.ref kc)]
    refine g_astore C 28 #[.val (.long x0), .second, .val (.int x1), .val (.int x2), .val (.int x3), .val (.int nQ), .val (.int j2), .val (.ref kc), .unset, .unset, .unset, .unset, .unset, .unset, .unset, .unset] at_26 rfl rfl rfl ?_
    refine g_bipush C 30 (9 : Int32) at_28 rfl rfl ?_
    refine g_newarrayD C 32 [(0 : UInt64), (0 : UInt64), (0 : UInt64), (0 : UInt64), (0 : UInt64), (0 : UInt64), (0 : UInt64), (0 : UInt64), (0 : UInt64)] 9 (List.mem_of_getElem? (i := 1) rfl) at_30 rfl (by decide) (by decide) (by decide) (by decide) (by decide) rfl ?_
    intro kv
    show Go _ _ _ _ _ _ _ _ _ _ _ _ [(kc, IA Z .int (ints [(0 : Int32), (0 : Int32), (0 : Int32), (0 : Int32), (0 : Int32), (0 : Int32), (0 : Int32), (0 : Int32), (0 : Int32)])), (kv, DA Z [(0 : UInt64), (0 : UInt64), (0 : UInt64), (0 : UInt64), (0 : UInt64), (0 : UInt64), (0 : UInt64), (0 : UInt64), (0 : UInt64)])] 2 18 32 #[.val (.long x0), .second, .val (.int x1), .val (.int x2), .val (.int x3), .val (.int nQ), .val (.int j2), .val (.ref kc), .unset, .unset, .unset, .unset, .unset, .unset, .unset, .unset] [(.ref kv)]
    refine g_astore C 34 #[.val (.long x0), .second, .val (.int x1), .val (.int x2), .val (.int x3), .val (.int nQ), .val (.int j2), .val (.ref kc), .val (.ref kv), .unset, .unset, .unset, .unset, .unset, .unset, .unset] at_32 rfl rfl rfl ?_
    refine g_iconst C 35 (4 : Int32) at_34 rfl rfl ?_
    refine g_newarray C 37 (ints [(0 : Int32), (0 : Int32), (0 : Int32), (0 : Int32)]) 4 (List.mem_of_getElem? (i := 0) rfl) at_35 rfl (by decide) (by decide) (by decide) (by decide) (by decide) rfl ?_
    intro ks
    show Go _ _ _ _ _ _ _ _ _ _ _ _ [(kc, IA Z .int (ints [(0 : Int32), (0 : Int32), (0 : Int32), (0 : Int32), (0 : Int32), (0 : Int32), (0 : Int32), (0 : Int32), (0 : Int32)])), (kv, DA Z [(0 : UInt64), (0 : UInt64), (0 : UInt64), (0 : UInt64), (0 : UInt64), (0 : UInt64), (0 : UInt64), (0 : UInt64), (0 : UInt64)]), (ks, IA Z .int (ints [(0 : Int32), (0 : Int32), (0 : Int32), (0 : Int32)]))] 3 22 37 #[.val (.long x0), .second, .val (.int x1), .val (.int x2), .val (.int x3), .val (.int nQ), .val (.int j2), .val (.ref kc), .val (.ref kv), .unset, .unset, .unset, .unset, .unset, .unset, .unset] [(.ref ks)]
    refine g_astore C 39 #[.val (.long x0), .second, .val (.int x1), .val (.int x2), .val (.int x3), .val (.int nQ), .val (.int j2), .val (.ref kc), .val (.ref kv), .val (.ref ks), .unset, .unset, .unset, .unset, .unset, .unset] at_37 rfl rfl rfl ?_
    refine g_iconst C 40 (0 : Int32) at_39 rfl rfl ?_
    refine g_istore C 42 #[.val (.long x0), .second, .val (.int x1), .val (.int x2), .val (.int x3), .val (.int nQ), .val (.int j2), .val (.ref kc), .val (.ref kv), .val (.ref ks), .val (.int (0 : Int32)), .unset, .unset, .unset, .unset, .unset] at_40 rfl rfl ?_
    refine g_aload C 44 at_42 rfl rfl rfl ?_
    refine g_aload C 46 at_44 rfl rfl rfl ?_
    refine g_iload C 48 at_46 rfl rfl ?_
    refine g_iload C 50 at_48 rfl rfl ?_
    refine g_iload C 52 at_50 rfl rfl ?_
    refine g_iconst C 53 (0 : Int32) at_52 rfl rfl ?_
    refine g_static C 56 3 (argsL := [(.int x3), (.int nQ), (.int (0 : Int32))]) (St := [(.int (0 : Int32)), (.ref kv), (.ref kc)]) (con_f_on l Z a0 C.2.2.1 h0 [(kc, IA Z .int (ints [(0 : Int32), (0 : Int32), (0 : Int32), (0 : Int32), (0 : Int32), (0 : Int32), (0 : Int32), (0 : Int32), (0 : Int32)])), (kv, DA Z [(0 : UInt64), (0 : UInt64), (0 : UInt64), (0 : UInt64), (0 : UInt64), (0 : UInt64), (0 : UInt64), (0 : UInt64), (0 : UInt64)]), (ks, IA Z .int (ints [(0 : Int32), (0 : Int32), (0 : Int32), (0 : Int32)]))] x3 nQ (0 : Int32)) (List.mem_of_getElem? (i := 2) rfl) (List.mem_of_getElem? (i := 3) rfl) (List.mem_of_getElem? (i := 4) rfl) (List.mem_of_getElem? (i := 5) rfl) (by decide) at_53 rfl rfl (lenOf (ps := [.int, .int, .int]) (r := some .boolean) (by decide) rfl) rfl (Nat.le_of_eq rfl) (by decide) (by decide) (by decide) (by decide) ?_
    rintro _ _ ⟨rfl, rfl⟩
    show Go _ _ _ _ _ _ _ _ _ _ _ _ [(kc, IA Z .int (ints [(0 : Int32), (0 : Int32), (0 : Int32), (0 : Int32), (0 : Int32), (0 : Int32), (0 : Int32), (0 : Int32), (0 : Int32)])), (kv, DA Z [(0 : UInt64), (0 : UInt64), (0 : UInt64), (0 : UInt64), (0 : UInt64), (0 : UInt64), (0 : UInt64), (0 : UInt64), (0 : UInt64)]), (ks, IA Z .int (ints [(0 : Int32), (0 : Int32), (0 : Int32), (0 : Int32)]))] 3 22 56 #[.val (.long x0), .second, .val (.int x1), .val (.int x2), .val (.int x3), .val (.int nQ), .val (.int j2), .val (.ref kc), .val (.ref kv), .val (.ref ks), .val (.int (0 : Int32)), .unset, .unset, .unset, .unset, .unset] [(.int (f_on x3 nQ (0 : Int32))), (.int (0 : Int32)), (.ref kv), (.ref kc)]
    refine g_iconst C 57 (0 : Int32) at_56 rfl rfl ?_
    refine g_lloadN C 58 at_57 rfl rfl ?_
    refine g_iconst C 59 (0 : Int32) at_58 rfl rfl ?_
    refine g_static C 62 5 (argsL := [(.long x0), (.int (0 : Int32))]) (St := [(.int (0 : Int32)), (.int (f_on x3 nQ (0 : Int32))), (.int (0 : Int32)), (.ref kv), (.ref kc)]) (con_f_coef l Z a0 C.2.2.1 h0 [(kc, IA Z .int (ints [(0 : Int32), (0 : Int32), (0 : Int32), (0 : Int32), (0 : Int32), (0 : Int32), (0 : Int32), (0 : Int32), (0 : Int32)])), (kv, DA Z [(0 : UInt64), (0 : UInt64), (0 : UInt64), (0 : UInt64), (0 : UInt64), (0 : UInt64), (0 : UInt64), (0 : UInt64), (0 : UInt64)]), (ks, IA Z .int (ints [(0 : Int32), (0 : Int32), (0 : Int32), (0 : Int32)]))] x0 (0 : Int32)) (List.mem_of_getElem? (i := 6) rfl) (List.mem_of_getElem? (i := 7) rfl) (List.mem_of_getElem? (i := 4) rfl) (List.mem_of_getElem? (i := 8) rfl) (by decide) at_59 rfl rfl (lenOf (ps := [.long, .int]) (r := some .int) (by decide) rfl) rfl (Nat.le_of_eq rfl) (by decide) (by decide) (by decide) (by decide) ?_
    rintro _ _ ⟨rfl, rfl⟩
    show Go _ _ _ _ _ _ _ _ _ _ _ _ [(kc, IA Z .int (ints [(0 : Int32), (0 : Int32), (0 : Int32), (0 : Int32), (0 : Int32), (0 : Int32), (0 : Int32), (0 : Int32), (0 : Int32)])), (kv, DA Z [(0 : UInt64), (0 : UInt64), (0 : UInt64), (0 : UInt64), (0 : UInt64), (0 : UInt64), (0 : UInt64), (0 : UInt64), (0 : UInt64)]), (ks, IA Z .int (ints [(0 : Int32), (0 : Int32), (0 : Int32), (0 : Int32)]))] 3 22 62 #[.val (.long x0), .second, .val (.int x1), .val (.int x2), .val (.int x3), .val (.int nQ), .val (.int j2), .val (.ref kc), .val (.ref kv), .val (.ref ks), .val (.int (0 : Int32)), .unset, .unset, .unset, .unset, .unset] [(.int (f_coef x0 (0 : Int32))), (.int (0 : Int32)), (.int (f_on x3 nQ (0 : Int32))), (.int (0 : Int32)), (.ref kv), (.ref kc)]
    refine g_static C 65 0 (argsL := [(.ref kc), (.ref kv), (.int (0 : Int32)), (.int (f_on x3 nQ (0 : Int32))), (.int (0 : Int32)), (.int (f_coef x0 (0 : Int32)))]) (St := []) (con_put l Z a0 C.2.2.1 h0 kc kv (ks, IA Z .int (ints [(0 : Int32), (0 : Int32), (0 : Int32), (0 : Int32)])) ([] : List Ent) (f_on x3 nQ (0 : Int32)) (0 : Int32) (f_coef x0 (0 : Int32)) (by decide)) (List.mem_of_getElem? (i := 10) rfl) (List.mem_of_getElem? (i := 11) rfl) (List.mem_of_getElem? (i := 4) rfl) (List.mem_of_getElem? (i := 12) rfl) (by decide) at_62 rfl rfl (lenOf (ps := [(.array .int), (.array .double), .int, .boolean, .int, .int]) (r := some .int) (by decide) rfl) rfl (Nat.le_of_eq rfl) (by decide) (by decide) (by decide) (by decide) ?_
    rintro _ _ ⟨rfl, rfl⟩
    show Go _ _ _ _ _ _ _ _ _ _ _ _ [(kc, IA Z .int (ints (own_c (own_app ([] : List Ent) (f_on x3 nQ (0 : Int32)) ((0 : Int32), FP.i2d (f_coef x0 (0 : Int32))))))), (kv, DA Z (own_v (own_app ([] : List Ent) (f_on x3 nQ (0 : Int32)) ((0 : Int32), FP.i2d (f_coef x0 (0 : Int32)))))), (ks, IA Z .int (ints [(0 : Int32), (0 : Int32), (0 : Int32), (0 : Int32)]))] 3 22 65 #[.val (.long x0), .second, .val (.int x1), .val (.int x2), .val (.int x3), .val (.int nQ), .val (.int j2), .val (.ref kc), .val (.ref kv), .val (.ref ks), .val (.int (0 : Int32)), .unset, .unset, .unset, .unset, .unset] [(.int (Int32.ofNat (own_app ([] : List Ent) (f_on x3 nQ (0 : Int32)) ((0 : Int32), FP.i2d (f_coef x0 (0 : Int32)))).length))]
    generalize hP1 : (own_app ([] : List Ent) (f_on x3 nQ (0 : Int32)) ((0 : Int32), FP.i2d (f_coef x0 (0 : Int32)))) = P1
    have hl1 : P1.length ≤ 1 := by rw [← hP1]; exact Nat.le_trans (own_appl _ _ _) (by decide)
    show Go _ _ _ _ _ _ _ _ _ _ _ _ [(kc, IA Z .int (ints (own_c P1))), (kv, DA Z (own_v P1)), (ks, IA Z .int (ints [(0 : Int32), (0 : Int32), (0 : Int32), (0 : Int32)]))] 3 22 65 #[.val (.long x0), .second, .val (.int x1), .val (.int x2), .val (.int x3), .val (.int nQ), .val (.int j2), .val (.ref kc), .val (.ref kv), .val (.ref ks), .val (.int (0 : Int32)), .unset, .unset, .unset, .unset, .unset] [(.int (Int32.ofNat P1.length))]
    refine g_istore C 67 #[.val (.long x0), .second, .val (.int x1), .val (.int x2), .val (.int x3), .val (.int nQ), .val (.int j2), .val (.ref kc), .val (.ref kv), .val (.ref ks), .val (.int (Int32.ofNat P1.length)), .unset, .unset, .unset, .unset, .unset] at_65 rfl rfl ?_
    refine g_aload C 69 at_67 rfl rfl rfl ?_
    refine g_aload C 71 at_69 rfl rfl rfl ?_
    refine g_iload C 73 at_71 rfl rfl ?_
    refine g_iload C 75 at_73 rfl rfl ?_
    refine g_iload C 77 at_75 rfl rfl ?_
    refine g_iconst C 78 (1 : Int32) at_77 rfl rfl ?_
    refine g_static C 81 3 (argsL := [(.int x3), (.int nQ), (.int (1 : Int32))]) (St := [(.int (Int32.ofNat P1.length)), (.ref kv), (.ref kc)]) (con_f_on l Z a0 C.2.2.1 h0 [(kc, IA Z .int (ints (own_c P1))), (kv, DA Z (own_v P1)), (ks, IA Z .int (ints [(0 : Int32), (0 : Int32), (0 : Int32), (0 : Int32)]))] x3 nQ (1 : Int32)) (List.mem_of_getElem? (i := 2) rfl) (List.mem_of_getElem? (i := 3) rfl) (List.mem_of_getElem? (i := 4) rfl) (List.mem_of_getElem? (i := 5) rfl) (by decide) at_78 rfl rfl (lenOf (ps := [.int, .int, .int]) (r := some .boolean) (by decide) rfl) rfl (Nat.le_of_eq rfl) (by decide) (by decide) (by decide) (by decide) ?_
    rintro _ _ ⟨rfl, rfl⟩
    show Go _ _ _ _ _ _ _ _ _ _ _ _ [(kc, IA Z .int (ints (own_c P1))), (kv, DA Z (own_v P1)), (ks, IA Z .int (ints [(0 : Int32), (0 : Int32), (0 : Int32), (0 : Int32)]))] 3 22 81 #[.val (.long x0), .second, .val (.int x1), .val (.int x2), .val (.int x3), .val (.int nQ), .val (.int j2), .val (.ref kc), .val (.ref kv), .val (.ref ks), .val (.int (Int32.ofNat P1.length)), .unset, .unset, .unset, .unset, .unset] [(.int (f_on x3 nQ (1 : Int32))), (.int (Int32.ofNat P1.length)), (.ref kv), (.ref kc)]
    refine g_iconst C 82 (1 : Int32) at_81 rfl rfl ?_
    refine g_lloadN C 83 at_82 rfl rfl ?_
    refine g_iconst C 84 (1 : Int32) at_83 rfl rfl ?_
    refine g_static C 87 5 (argsL := [(.long x0), (.int (1 : Int32))]) (St := [(.int (1 : Int32)), (.int (f_on x3 nQ (1 : Int32))), (.int (Int32.ofNat P1.length)), (.ref kv), (.ref kc)]) (con_f_coef l Z a0 C.2.2.1 h0 [(kc, IA Z .int (ints (own_c P1))), (kv, DA Z (own_v P1)), (ks, IA Z .int (ints [(0 : Int32), (0 : Int32), (0 : Int32), (0 : Int32)]))] x0 (1 : Int32)) (List.mem_of_getElem? (i := 6) rfl) (List.mem_of_getElem? (i := 7) rfl) (List.mem_of_getElem? (i := 4) rfl) (List.mem_of_getElem? (i := 8) rfl) (by decide) at_84 rfl rfl (lenOf (ps := [.long, .int]) (r := some .int) (by decide) rfl) rfl (Nat.le_of_eq rfl) (by decide) (by decide) (by decide) (by decide) ?_
    rintro _ _ ⟨rfl, rfl⟩
    show Go _ _ _ _ _ _ _ _ _ _ _ _ [(kc, IA Z .int (ints (own_c P1))), (kv, DA Z (own_v P1)), (ks, IA Z .int (ints [(0 : Int32), (0 : Int32), (0 : Int32), (0 : Int32)]))] 3 22 87 #[.val (.long x0), .second, .val (.int x1), .val (.int x2), .val (.int x3), .val (.int nQ), .val (.int j2), .val (.ref kc), .val (.ref kv), .val (.ref ks), .val (.int (Int32.ofNat P1.length)), .unset, .unset, .unset, .unset, .unset] [(.int (f_coef x0 (1 : Int32))), (.int (1 : Int32)), (.int (f_on x3 nQ (1 : Int32))), (.int (Int32.ofNat P1.length)), (.ref kv), (.ref kc)]
    refine g_static C 90 0 (argsL := [(.ref kc), (.ref kv), (.int (Int32.ofNat P1.length)), (.int (f_on x3 nQ (1 : Int32))), (.int (1 : Int32)), (.int (f_coef x0 (1 : Int32)))]) (St := []) (con_put l Z a0 C.2.2.1 h0 kc kv (ks, IA Z .int (ints [(0 : Int32), (0 : Int32), (0 : Int32), (0 : Int32)])) P1 (f_on x3 nQ (1 : Int32)) (1 : Int32) (f_coef x0 (1 : Int32)) (Nat.lt_of_le_of_lt hl1 (by decide))) (List.mem_of_getElem? (i := 10) rfl) (List.mem_of_getElem? (i := 11) rfl) (List.mem_of_getElem? (i := 4) rfl) (List.mem_of_getElem? (i := 12) rfl) (by decide) at_87 rfl rfl (lenOf (ps := [(.array .int), (.array .double), .int, .boolean, .int, .int]) (r := some .int) (by decide) rfl) rfl (Nat.le_of_eq rfl) (by decide) (by decide) (by decide) (by decide) ?_
    rintro _ _ ⟨rfl, rfl⟩
    show Go _ _ _ _ _ _ _ _ _ _ _ _ [(kc, IA Z .int (ints (own_c (own_app P1 (f_on x3 nQ (1 : Int32)) ((1 : Int32), FP.i2d (f_coef x0 (1 : Int32))))))), (kv, DA Z (own_v (own_app P1 (f_on x3 nQ (1 : Int32)) ((1 : Int32), FP.i2d (f_coef x0 (1 : Int32)))))), (ks, IA Z .int (ints [(0 : Int32), (0 : Int32), (0 : Int32), (0 : Int32)]))] 3 22 90 #[.val (.long x0), .second, .val (.int x1), .val (.int x2), .val (.int x3), .val (.int nQ), .val (.int j2), .val (.ref kc), .val (.ref kv), .val (.ref ks), .val (.int (Int32.ofNat P1.length)), .unset, .unset, .unset, .unset, .unset] [(.int (Int32.ofNat (own_app P1 (f_on x3 nQ (1 : Int32)) ((1 : Int32), FP.i2d (f_coef x0 (1 : Int32)))).length))]
    generalize hP2 : (own_app P1 (f_on x3 nQ (1 : Int32)) ((1 : Int32), FP.i2d (f_coef x0 (1 : Int32)))) = P2
    have hl2 : P2.length ≤ 2 := by rw [← hP2]; exact Nat.le_trans (own_appl _ _ _) (Nat.succ_le_succ hl1)
    show Go _ _ _ _ _ _ _ _ _ _ _ _ [(kc, IA Z .int (ints (own_c P2))), (kv, DA Z (own_v P2)), (ks, IA Z .int (ints [(0 : Int32), (0 : Int32), (0 : Int32), (0 : Int32)]))] 3 22 90 #[.val (.long x0), .second, .val (.int x1), .val (.int x2), .val (.int x3), .val (.int nQ), .val (.int j2), .val (.ref kc), .val (.ref kv), .val (.ref ks), .val (.int (Int32.ofNat P1.length)), .unset, .unset, .unset, .unset, .unset] [(.int (Int32.ofNat P2.length))]
    refine g_istore C 92 #[.val (.long x0), .second, .val (.int x1), .val (.int x2), .val (.int x3), .val (.int nQ), .val (.int j2), .val (.ref kc), .val (.ref kv), .val (.ref ks), .val (.int (Int32.ofNat P2.length)), .unset, .unset, .unset, .unset, .unset] at_90 rfl rfl ?_
    refine g_aload C 94 at_92 rfl rfl rfl ?_
    refine g_aload C 96 at_94 rfl rfl rfl ?_
    refine g_iload C 98 at_96 rfl rfl ?_
    refine g_iload C 100 at_98 rfl rfl ?_
    refine g_iload C 102 at_100 rfl rfl ?_
    refine g_iconst C 103 (2 : Int32) at_102 rfl rfl ?_
    refine g_static C 106 3 (argsL := [(.int x3), (.int nQ), (.int (2 : Int32))]) (St := [(.int (Int32.ofNat P2.length)), (.ref kv), (.ref kc)]) (con_f_on l Z a0 C.2.2.1 h0 [(kc, IA Z .int (ints (own_c P2))), (kv, DA Z (own_v P2)), (ks, IA Z .int (ints [(0 : Int32), (0 : Int32), (0 : Int32), (0 : Int32)]))] x3 nQ (2 : Int32)) (List.mem_of_getElem? (i := 2) rfl) (List.mem_of_getElem? (i := 3) rfl) (List.mem_of_getElem? (i := 4) rfl) (List.mem_of_getElem? (i := 5) rfl) (by decide) at_103 rfl rfl (lenOf (ps := [.int, .int, .int]) (r := some .boolean) (by decide) rfl) rfl (Nat.le_of_eq rfl) (by decide) (by decide) (by decide) (by decide) ?_
    rintro _ _ ⟨rfl, rfl⟩
    show Go _ _ _ _ _ _ _ _ _ _ _ _ [(kc, IA Z .int (ints (own_c P2))), (kv, DA Z (own_v P2)), (ks, IA Z .int (ints [(0 : Int32), (0 : Int32), (0 : Int32), (0 : Int32)]))] 3 22 106 #[.val (.long x0), .second, .val (.int x1), .val (.int x2), .val (.int x3), .val (.int nQ), .val (.int j2), .val (.ref kc), .val (.ref kv), .val (.ref ks), .val (.int (Int32.ofNat P2.length)), .unset, .unset, .unset, .unset, .unset] [(.int (f_on x3 nQ (2 : Int32))), (.int (Int32.ofNat P2.length)), (.ref kv), (.ref kc)]
    refine g_iconst C 107 (2 : Int32) at_106 rfl rfl ?_
    refine g_lloadN C 108 at_107 rfl rfl ?_
    refine g_iconst C 109 (2 : Int32) at_108 rfl rfl ?_
    refine g_static C 112 5 (argsL := [(.long x0), (.int (2 : Int32))]) (St := [(.int (2 : Int32)), (.int (f_on x3 nQ (2 : Int32))), (.int (Int32.ofNat P2.length)), (.ref kv), (.ref kc)]) (con_f_coef l Z a0 C.2.2.1 h0 [(kc, IA Z .int (ints (own_c P2))), (kv, DA Z (own_v P2)), (ks, IA Z .int (ints [(0 : Int32), (0 : Int32), (0 : Int32), (0 : Int32)]))] x0 (2 : Int32)) (List.mem_of_getElem? (i := 6) rfl) (List.mem_of_getElem? (i := 7) rfl) (List.mem_of_getElem? (i := 4) rfl) (List.mem_of_getElem? (i := 8) rfl) (by decide) at_109 rfl rfl (lenOf (ps := [.long, .int]) (r := some .int) (by decide) rfl) rfl (Nat.le_of_eq rfl) (by decide) (by decide) (by decide) (by decide) ?_
    rintro _ _ ⟨rfl, rfl⟩
    show Go _ _ _ _ _ _ _ _ _ _ _ _ [(kc, IA Z .int (ints (own_c P2))), (kv, DA Z (own_v P2)), (ks, IA Z .int (ints [(0 : Int32), (0 : Int32), (0 : Int32), (0 : Int32)]))] 3 22 112 #[.val (.long x0), .second, .val (.int x1), .val (.int x2), .val (.int x3), .val (.int nQ), .val (.int j2), .val (.ref kc), .val (.ref kv), .val (.ref ks), .val (.int (Int32.ofNat P2.length)), .unset, .unset, .unset, .unset, .unset] [(.int (f_coef x0 (2 : Int32))), (.int (2 : Int32)), (.int (f_on x3 nQ (2 : Int32))), (.int (Int32.ofNat P2.length)), (.ref kv), (.ref kc)]
    refine g_static C 115 0 (argsL := [(.ref kc), (.ref kv), (.int (Int32.ofNat P2.length)), (.int (f_on x3 nQ (2 : Int32))), (.int (2 : Int32)), (.int (f_coef x0 (2 : Int32)))]) (St := []) (con_put l Z a0 C.2.2.1 h0 kc kv (ks, IA Z .int (ints [(0 : Int32), (0 : Int32), (0 : Int32), (0 : Int32)])) P2 (f_on x3 nQ (2 : Int32)) (2 : Int32) (f_coef x0 (2 : Int32)) (Nat.lt_of_le_of_lt hl2 (by decide))) (List.mem_of_getElem? (i := 10) rfl) (List.mem_of_getElem? (i := 11) rfl) (List.mem_of_getElem? (i := 4) rfl) (List.mem_of_getElem? (i := 12) rfl) (by decide) at_112 rfl rfl (lenOf (ps := [(.array .int), (.array .double), .int, .boolean, .int, .int]) (r := some .int) (by decide) rfl) rfl (Nat.le_of_eq rfl) (by decide) (by decide) (by decide) (by decide) ?_
    rintro _ _ ⟨rfl, rfl⟩
    show Go _ _ _ _ _ _ _ _ _ _ _ _ [(kc, IA Z .int (ints (own_c (own_app P2 (f_on x3 nQ (2 : Int32)) ((2 : Int32), FP.i2d (f_coef x0 (2 : Int32))))))), (kv, DA Z (own_v (own_app P2 (f_on x3 nQ (2 : Int32)) ((2 : Int32), FP.i2d (f_coef x0 (2 : Int32)))))), (ks, IA Z .int (ints [(0 : Int32), (0 : Int32), (0 : Int32), (0 : Int32)]))] 3 22 115 #[.val (.long x0), .second, .val (.int x1), .val (.int x2), .val (.int x3), .val (.int nQ), .val (.int j2), .val (.ref kc), .val (.ref kv), .val (.ref ks), .val (.int (Int32.ofNat P2.length)), .unset, .unset, .unset, .unset, .unset] [(.int (Int32.ofNat (own_app P2 (f_on x3 nQ (2 : Int32)) ((2 : Int32), FP.i2d (f_coef x0 (2 : Int32)))).length))]
    generalize hP3 : (own_app P2 (f_on x3 nQ (2 : Int32)) ((2 : Int32), FP.i2d (f_coef x0 (2 : Int32)))) = P3
    have hl3 : P3.length ≤ 3 := by rw [← hP3]; exact Nat.le_trans (own_appl _ _ _) (Nat.succ_le_succ hl2)
    show Go _ _ _ _ _ _ _ _ _ _ _ _ [(kc, IA Z .int (ints (own_c P3))), (kv, DA Z (own_v P3)), (ks, IA Z .int (ints [(0 : Int32), (0 : Int32), (0 : Int32), (0 : Int32)]))] 3 22 115 #[.val (.long x0), .second, .val (.int x1), .val (.int x2), .val (.int x3), .val (.int nQ), .val (.int j2), .val (.ref kc), .val (.ref kv), .val (.ref ks), .val (.int (Int32.ofNat P2.length)), .unset, .unset, .unset, .unset, .unset] [(.int (Int32.ofNat P3.length))]
    refine g_istore C 117 #[.val (.long x0), .second, .val (.int x1), .val (.int x2), .val (.int x3), .val (.int nQ), .val (.int j2), .val (.ref kc), .val (.ref kv), .val (.ref ks), .val (.int (Int32.ofNat P3.length)), .unset, .unset, .unset, .unset, .unset] at_115 rfl rfl ?_
    refine g_aload C 119 at_117 rfl rfl rfl ?_
    refine g_iconst C 120 (1 : Int32) at_119 rfl rfl ?_
    refine g_iload C 122 at_120 rfl rfl ?_
    refine g_iastore C 123 (i := 2) [(0 : Int32), (Int32.ofNat P3.length), (0 : Int32), (0 : Int32)] [(kc, IA Z .int (ints (own_c P3))), (kv, DA Z (own_v P3)), (ks, IA Z .int (ints [(0 : Int32), (Int32.ofNat P3.length), (0 : Int32), (0 : Int32)]))] rfl at_122 rfl (by decide) (Nat.le_of_ble_eq_true rfl) rfl rfl ?_
    refine g_aload C 125 at_123 rfl rfl rfl ?_
    refine g_aload C 127 at_125 rfl rfl rfl ?_
    refine g_iload C 129 at_127 rfl rfl ?_
    refine g_iload C 131 at_129 rfl rfl ?_
    refine g_iload C 133 at_131 rfl rfl ?_
    refine g_iconst C 134 (3 : Int32) at_133 rfl rfl ?_
    refine g_static C 137 3 (argsL := [(.int x3), (.int nQ), (.int (3 : Int32))]) (St := [(.int (Int32.ofNat P3.length)), (.ref kv), (.ref kc)]) (con_f_on l Z a0 C.2.2.1 h0 [(kc, IA Z .int (ints (own_c P3))), (kv, DA Z (own_v P3)), (ks, IA Z .int (ints [(0 : Int32), (Int32.ofNat P3.length), (0 : Int32), (0 : Int32)]))] x3 nQ (3 : Int32)) (List.mem_of_getElem? (i := 2) rfl) (List.mem_of_getElem? (i := 3) rfl) (List.mem_of_getElem? (i := 4) rfl) (List.mem_of_getElem? (i := 5) rfl) (by decide) at_134 rfl rfl (lenOf (ps := [.int, .int, .int]) (r := some .boolean) (by decide) rfl) rfl (Nat.le_of_eq rfl) (by decide) (by decide) (by decide) (by decide) ?_
    rintro _ _ ⟨rfl, rfl⟩
    show Go _ _ _ _ _ _ _ _ _ _ _ _ [(kc, IA Z .int (ints (own_c P3))), (kv, DA Z (own_v P3)), (ks, IA Z .int (ints [(0 : Int32), (Int32.ofNat P3.length), (0 : Int32), (0 : Int32)]))] 3 22 137 #[.val (.long x0), .second, .val (.int x1), .val (.int x2), .val (.int x3), .val (.int nQ), .val (.int j2), .val (.ref kc), .val (.ref kv), .val (.ref ks), .val (.int (Int32.ofNat P3.length)), .unset, .unset, .unset, .unset, .unset] [(.int (f_on x3 nQ (3 : Int32))), (.int (Int32.ofNat P3.length)), (.ref kv), (.ref kc)]
    refine g_iconst C 138 (0 : Int32) at_137 rfl rfl ?_
    refine g_lloadN C 139 at_138 rfl rfl ?_
    refine g_iconst C 140 (3 : Int32) at_139 rfl rfl ?_
    refine g_static C 143 5 (argsL := [(.long x0), (.int (3 : Int32))]) (St := [(.int (0 : Int32)), (.int (f_on x3 nQ (3 : Int32))), (.int (Int32.ofNat P3.length)), (.ref kv), (.ref kc)]) (con_f_coef l Z a0 C.2.2.1 h0 [(kc, IA Z .int (ints (own_c P3))), (kv, DA Z (own_v P3)), (ks, IA Z .int (ints [(0 : Int32), (Int32.ofNat P3.length), (0 : Int32), (0 : Int32)]))] x0 (3 : Int32)) (List.mem_of_getElem? (i := 6) rfl) (List.mem_of_getElem? (i := 7) rfl) (List.mem_of_getElem? (i := 4) rfl) (List.mem_of_getElem? (i := 8) rfl) (by decide) at_140 rfl rfl (lenOf (ps := [.long, .int]) (r := some .int) (by decide) rfl) rfl (Nat.le_of_eq rfl) (by decide) (by decide) (by decide) (by decide) ?_
    rintro _ _ ⟨rfl, rfl⟩
    show Go _ _ _ _ _ _ _ _ _ _ _ _ [(kc, IA Z .int (ints (own_c P3))), (kv, DA Z (own_v P3)), (ks, IA Z .int (ints [(0 : Int32), (Int32.ofNat P3.length), (0 : Int32), (0 : Int32)]))] 3 22 143 #[.val (.long x0), .second, .val (.int x1), .val (.int x2), .val (.int x3), .val (.int nQ), .val (.int j2), .val (.ref kc), .val (.ref kv), .val (.ref ks), .val (.int (Int32.ofNat P3.length)), .unset, .unset, .unset, .unset, .unset] [(.int (f_coef x0 (3 : Int32))), (.int (0 : Int32)), (.int (f_on x3 nQ (3 : Int32))), (.int (Int32.ofNat P3.length)), (.ref kv), (.ref kc)]
    refine g_static C 146 0 (argsL := [(.ref kc), (.ref kv), (.int (Int32.ofNat P3.length)), (.int (f_on x3 nQ (3 : Int32))), (.int (0 : Int32)), (.int (f_coef x0 (3 : Int32)))]) (St := []) (con_put l Z a0 C.2.2.1 h0 kc kv (ks, IA Z .int (ints [(0 : Int32), (Int32.ofNat P3.length), (0 : Int32), (0 : Int32)])) P3 (f_on x3 nQ (3 : Int32)) (0 : Int32) (f_coef x0 (3 : Int32)) (Nat.lt_of_le_of_lt hl3 (by decide))) (List.mem_of_getElem? (i := 10) rfl) (List.mem_of_getElem? (i := 11) rfl) (List.mem_of_getElem? (i := 4) rfl) (List.mem_of_getElem? (i := 12) rfl) (by decide) at_143 rfl rfl (lenOf (ps := [(.array .int), (.array .double), .int, .boolean, .int, .int]) (r := some .int) (by decide) rfl) rfl (Nat.le_of_eq rfl) (by decide) (by decide) (by decide) (by decide) ?_
    rintro _ _ ⟨rfl, rfl⟩
    show Go _ _ _ _ _ _ _ _ _ _ _ _ [(kc, IA Z .int (ints (own_c (own_app P3 (f_on x3 nQ (3 : Int32)) ((0 : Int32), FP.i2d (f_coef x0 (3 : Int32))))))), (kv, DA Z (own_v (own_app P3 (f_on x3 nQ (3 : Int32)) ((0 : Int32), FP.i2d (f_coef x0 (3 : Int32)))))), (ks, IA Z .int (ints [(0 : Int32), (Int32.ofNat P3.length), (0 : Int32), (0 : Int32)]))] 3 22 146 #[.val (.long x0), .second, .val (.int x1), .val (.int x2), .val (.int x3), .val (.int nQ), .val (.int j2), .val (.ref kc), .val (.ref kv), .val (.ref ks), .val (.int (Int32.ofNat P3.length)), .unset, .unset, .unset, .unset, .unset] [(.int (Int32.ofNat (own_app P3 (f_on x3 nQ (3 : Int32)) ((0 : Int32), FP.i2d (f_coef x0 (3 : Int32)))).length))]
    generalize hP4 : (own_app P3 (f_on x3 nQ (3 : Int32)) ((0 : Int32), FP.i2d (f_coef x0 (3 : Int32)))) = P4
    have hl4 : P4.length ≤ 4 := by rw [← hP4]; exact Nat.le_trans (own_appl _ _ _) (Nat.succ_le_succ hl3)
    show Go _ _ _ _ _ _ _ _ _ _ _ _ [(kc, IA Z .int (ints (own_c P4))), (kv, DA Z (own_v P4)), (ks, IA Z .int (ints [(0 : Int32), (Int32.ofNat P3.length), (0 : Int32), (0 : Int32)]))] 3 22 146 #[.val (.long x0), .second, .val (.int x1), .val (.int x2), .val (.int x3), .val (.int nQ), .val (.int j2), .val (.ref kc), .val (.ref kv), .val (.ref ks), .val (.int (Int32.ofNat P3.length)), .unset, .unset, .unset, .unset, .unset] [(.int (Int32.ofNat P4.length))]
    refine g_istore C 148 #[.val (.long x0), .second, .val (.int x1), .val (.int x2), .val (.int x3), .val (.int nQ), .val (.int j2), .val (.ref kc), .val (.ref kv), .val (.ref ks), .val (.int (Int32.ofNat P4.length)), .unset, .unset, .unset, .unset, .unset] at_146 rfl rfl ?_
    refine g_aload C 150 at_148 rfl rfl rfl ?_
    refine g_aload C 152 at_150 rfl rfl rfl ?_
    refine g_iload C 154 at_152 rfl rfl ?_
    refine g_iload C 156 at_154 rfl rfl ?_
    refine g_iload C 158 at_156 rfl rfl ?_
    refine g_iconst C 159 (4 : Int32) at_158 rfl rfl ?_
    refine g_static C 162 3 (argsL := [(.int x3), (.int nQ), (.int (4 : Int32))]) (St := [(.int (Int32.ofNat P4.length)), (.ref kv), (.ref kc)]) (con_f_on l Z a0 C.2.2.1 h0 [(kc, IA Z .int (ints (own_c P4))), (kv, DA Z (own_v P4)), (ks, IA Z .int (ints [(0 : Int32), (Int32.ofNat P3.length), (0 : Int32), (0 : Int32)]))] x3 nQ (4 : Int32)) (List.mem_of_getElem? (i := 2) rfl) (List.mem_of_getElem? (i := 3) rfl) (List.mem_of_getElem? (i := 4) rfl) (List.mem_of_getElem? (i := 5) rfl) (by decide) at_159 rfl rfl (lenOf (ps := [.int, .int, .int]) (r := some .boolean) (by decide) rfl) rfl (Nat.le_of_eq rfl) (by decide) (by decide) (by decide) (by decide) ?_
    rintro _ _ ⟨rfl, rfl⟩
    show Go _ _ _ _ _ _ _ _ _ _ _ _ [(kc, IA Z .int (ints (own_c P4))), (kv, DA Z (own_v P4)), (ks, IA Z .int (ints [(0 : Int32), (Int32.ofNat P3.length), (0 : Int32), (0 : Int32)]))] 3 22 162 #[.val (.long x0), .second, .val (.int x1), .val (.int x2), .val (.int x3), .val (.int nQ), .val (.int j2), .val (.ref kc), .val (.ref kv), .val (.ref ks), .val (.int (Int32.ofNat P4.length)), .unset, .unset, .unset, .unset, .unset] [(.int (f_on x3 nQ (4 : Int32))), (.int (Int32.ofNat P4.length)), (.ref kv), (.ref kc)]
    refine g_iconst C 163 (1 : Int32) at_162 rfl rfl ?_
    refine g_lloadN C 164 at_163 rfl rfl ?_
    refine g_iconst C 165 (4 : Int32) at_164 rfl rfl ?_
    refine g_static C 168 5 (argsL := [(.long x0), (.int (4 : Int32))]) (St := [(.int (1 : Int32)), (.int (f_on x3 nQ (4 : Int32))), (.int (Int32.ofNat P4.length)), (.ref kv), (.ref kc)]) (con_f_coef l Z a0 C.2.2.1 h0 [(kc, IA Z .int (ints (own_c P4))), (kv, DA Z (own_v P4)), (ks, IA Z .int (ints [(0 : Int32), (Int32.ofNat P3.length), (0 : Int32), (0 : Int32)]))] x0 (4 : Int32)) (List.mem_of_getElem? (i := 6) rfl) (List.mem_of_getElem? (i := 7) rfl) (List.mem_of_getElem? (i := 4) rfl) (List.mem_of_getElem? (i := 8) rfl) (by decide) at_165 rfl rfl (lenOf (ps := [.long, .int]) (r := some .int) (by decide) rfl) rfl (Nat.le_of_eq rfl) (by decide) (by decide) (by decide) (by decide) ?_
    rintro _ _ ⟨rfl, rfl⟩
    show Go _ _ _ _ _ _ _ _ _ _ _ _ [(kc, IA Z .int (ints (own_c P4))), (kv, DA Z (own_v P4)), (ks, IA Z .int (ints [(0 : Int32), (Int32.ofNat P3.length), (0 : Int32), (0 : Int32)]))] 3 22 168 #[.val (.long x0), .second, .val (.int x1), .val (.int x2), .val (.int x3), .val (.int nQ), .val (.int j2), .val (.ref kc), .val (.ref kv), .val (.ref ks), .val (.int (Int32.ofNat P4.length)), .unset, .unset, .unset, .unset, .unset] [(.int (f_coef x0 (4 : Int32))), (.int (1 : Int32)), (.int (f_on x3 nQ (4 : Int32))), (.int (Int32.ofNat P4.length)), (.ref kv), (.ref kc)]
    refine g_static C 171 0 (argsL := [(.ref kc), (.ref kv), (.int (Int32.ofNat P4.length)), (.int (f_on x3 nQ (4 : Int32))), (.int (1 : Int32)), (.int (f_coef x0 (4 : Int32)))]) (St := []) (con_put l Z a0 C.2.2.1 h0 kc kv (ks, IA Z .int (ints [(0 : Int32), (Int32.ofNat P3.length), (0 : Int32), (0 : Int32)])) P4 (f_on x3 nQ (4 : Int32)) (1 : Int32) (f_coef x0 (4 : Int32)) (Nat.lt_of_le_of_lt hl4 (by decide))) (List.mem_of_getElem? (i := 10) rfl) (List.mem_of_getElem? (i := 11) rfl) (List.mem_of_getElem? (i := 4) rfl) (List.mem_of_getElem? (i := 12) rfl) (by decide) at_168 rfl rfl (lenOf (ps := [(.array .int), (.array .double), .int, .boolean, .int, .int]) (r := some .int) (by decide) rfl) rfl (Nat.le_of_eq rfl) (by decide) (by decide) (by decide) (by decide) ?_
    rintro _ _ ⟨rfl, rfl⟩
    show Go _ _ _ _ _ _ _ _ _ _ _ _ [(kc, IA Z .int (ints (own_c (own_app P4 (f_on x3 nQ (4 : Int32)) ((1 : Int32), FP.i2d (f_coef x0 (4 : Int32))))))), (kv, DA Z (own_v (own_app P4 (f_on x3 nQ (4 : Int32)) ((1 : Int32), FP.i2d (f_coef x0 (4 : Int32)))))), (ks, IA Z .int (ints [(0 : Int32), (Int32.ofNat P3.length), (0 : Int32), (0 : Int32)]))] 3 22 171 #[.val (.long x0), .second, .val (.int x1), .val (.int x2), .val (.int x3), .val (.int nQ), .val (.int j2), .val (.ref kc), .val (.ref kv), .val (.ref ks), .val (.int (Int32.ofNat P4.length)), .unset, .unset, .unset, .unset, .unset] [(.int (Int32.ofNat (own_app P4 (f_on x3 nQ (4 : Int32)) ((1 : Int32), FP.i2d (f_coef x0 (4 : Int32)))).length))]
    generalize hP5 : (own_app P4 (f_on x3 nQ (4 : Int32)) ((1 : Int32), FP.i2d (f_coef x0 (4 : Int32)))) = P5
    have hl5 : P5.length ≤ 5 := by rw [← hP5]; exact Nat.le_trans (own_appl _ _ _) (Nat.succ_le_succ hl4)
    show Go _ _ _ _ _ _ _ _ _ _ _ _ [(kc, IA Z .int (ints (own_c P5))), (kv, DA Z (own_v P5)), (ks, IA Z .int (ints [(0 : Int32), (Int32.ofNat P3.length), (0 : Int32), (0 : Int32)]))] 3 22 171 #[.val (.long x0), .second, .val (.int x1), .val (.int x2), .val (.int x3), .val (.int nQ), .val (.int j2), .val (.ref kc), .val (.ref kv), .val (.ref ks), .val (.int (Int32.ofNat P4.length)), .unset, .unset, .unset, .unset, .unset] [(.int (Int32.ofNat P5.length))]
    refine g_istore C 173 #[.val (.long x0), .second, .val (.int x1), .val (.int x2), .val (.int x3), .val (.int nQ), .val (.int j2), .val (.ref kc), .val (.ref kv), .val (.ref ks), .val (.int (Int32.ofNat P5.length)), .unset, .unset, .unset, .unset, .unset] at_171 rfl rfl ?_
    refine g_aload C 175 at_173 rfl rfl rfl ?_
    refine g_aload C 177 at_175 rfl rfl rfl ?_
    refine g_iload C 179 at_177 rfl rfl ?_
    refine g_iload C 181 at_179 rfl rfl ?_
    refine g_iload C 183 at_181 rfl rfl ?_
    refine g_iconst C 184 (5 : Int32) at_183 rfl rfl ?_
    refine g_static C 187 3 (argsL := [(.int x3), (.int nQ), (.int (5 : Int32))]) (St := [(.int (Int32.ofNat P5.length)), (.ref kv), (.ref kc)]) (con_f_on l Z a0 C.2.2.1 h0 [(kc, IA Z .int (ints (own_c P5))), (kv, DA Z (own_v P5)), (ks, IA Z .int (ints [(0 : Int32), (Int32.ofNat P3.length), (0 : Int32), (0 : Int32)]))] x3 nQ (5 : Int32)) (List.mem_of_getElem? (i := 2) rfl) (List.mem_of_getElem? (i := 3) rfl) (List.mem_of_getElem? (i := 4) rfl) (List.mem_of_getElem? (i := 5) rfl) (by decide) at_184 rfl rfl (lenOf (ps := [.int, .int, .int]) (r := some .boolean) (by decide) rfl) rfl (Nat.le_of_eq rfl) (by decide) (by decide) (by decide) (by decide) ?_
    rintro _ _ ⟨rfl, rfl⟩
    show Go _ _ _ _ _ _ _ _ _ _ _ _ [(kc, IA Z .int (ints (own_c P5))), (kv, DA Z (own_v P5)), (ks, IA Z .int (ints [(0 : Int32), (Int32.ofNat P3.length), (0 : Int32), (0 : Int32)]))] 3 22 187 #[.val (.long x0), .second, .val (.int x1), .val (.int x2), .val (.int x3), .val (.int nQ), .val (.int j2), .val (.ref kc), .val (.ref kv), .val (.ref ks), .val (.int (Int32.ofNat P5.length)), .unset, .unset, .unset, .unset, .unset] [(.int (f_on x3 nQ (5 : Int32))), (.int (Int32.ofNat P5.length)), (.ref kv), (.ref kc)]
    refine g_iconst C 188 (2 : Int32) at_187 rfl rfl ?_
    refine g_lloadN C 189 at_188 rfl rfl ?_
    refine g_iconst C 190 (5 : Int32) at_189 rfl rfl ?_
    refine g_static C 193 5 (argsL := [(.long x0), (.int (5 : Int32))]) (St := [(.int (2 : Int32)), (.int (f_on x3 nQ (5 : Int32))), (.int (Int32.ofNat P5.length)), (.ref kv), (.ref kc)]) (con_f_coef l Z a0 C.2.2.1 h0 [(kc, IA Z .int (ints (own_c P5))), (kv, DA Z (own_v P5)), (ks, IA Z .int (ints [(0 : Int32), (Int32.ofNat P3.length), (0 : Int32), (0 : Int32)]))] x0 (5 : Int32)) (List.mem_of_getElem? (i := 6) rfl) (List.mem_of_getElem? (i := 7) rfl) (List.mem_of_getElem? (i := 4) rfl) (List.mem_of_getElem? (i := 8) rfl) (by decide) at_190 rfl rfl (lenOf (ps := [.long, .int]) (r := some .int) (by decide) rfl) rfl (Nat.le_of_eq rfl) (by decide) (by decide) (by decide) (by decide) ?_
    rintro _ _ ⟨rfl, rfl⟩
    show Go _ _ _ _ _ _ _ _ _ _ _ _ [(kc, IA Z .int (ints (own_c P5))), (kv, DA Z (own_v P5)), (ks, IA Z .int (ints [(0 : Int32), (Int32.ofNat P3.length), (0 : Int32), (0 : Int32)]))] 3 22 193 #[.val (.long x0), .second, .val (.int x1), .val (.int x2), .val (.int x3), .val (.int nQ), .val (.int j2), .val (.ref kc), .val (.ref kv), .val (.ref ks), .val (.int (Int32.ofNat P5.length)), .unset, .unset, .unset, .unset, .unset] [(.int (f_coef x0 (5 : Int32))), (.int (2 : Int32)), (.int (f_on x3 nQ (5 : Int32))), (.int (Int32.ofNat P5.length)), (.ref kv), (.ref kc)]
    refine g_static C 196 0 (argsL := [(.ref kc), (.ref kv), (.int (Int32.ofNat P5.length)), (.int (f_on x3 nQ (5 : Int32))), (.int (2 : Int32)), (.int (f_coef x0 (5 : Int32)))]) (St := []) (con_put l Z a0 C.2.2.1 h0 kc kv (ks, IA Z .int (ints [(0 : Int32), (Int32.ofNat P3.length), (0 : Int32), (0 : Int32)])) P5 (f_on x3 nQ (5 : Int32)) (2 : Int32) (f_coef x0 (5 : Int32)) (Nat.lt_of_le_of_lt hl5 (by decide))) (List.mem_of_getElem? (i := 10) rfl) (List.mem_of_getElem? (i := 11) rfl) (List.mem_of_getElem? (i := 4) rfl) (List.mem_of_getElem? (i := 12) rfl) (by decide) at_193 rfl rfl (lenOf (ps := [(.array .int), (.array .double), .int, .boolean, .int, .int]) (r := some .int) (by decide) rfl) rfl (Nat.le_of_eq rfl) (by decide) (by decide) (by decide) (by decide) ?_
    rintro _ _ ⟨rfl, rfl⟩
    show Go _ _ _ _ _ _ _ _ _ _ _ _ [(kc, IA Z .int (ints (own_c (own_app P5 (f_on x3 nQ (5 : Int32)) ((2 : Int32), FP.i2d (f_coef x0 (5 : Int32))))))), (kv, DA Z (own_v (own_app P5 (f_on x3 nQ (5 : Int32)) ((2 : Int32), FP.i2d (f_coef x0 (5 : Int32)))))), (ks, IA Z .int (ints [(0 : Int32), (Int32.ofNat P3.length), (0 : Int32), (0 : Int32)]))] 3 22 196 #[.val (.long x0), .second, .val (.int x1), .val (.int x2), .val (.int x3), .val (.int nQ), .val (.int j2), .val (.ref kc), .val (.ref kv), .val (.ref ks), .val (.int (Int32.ofNat P5.length)), .unset, .unset, .unset, .unset, .unset] [(.int (Int32.ofNat (own_app P5 (f_on x3 nQ (5 : Int32)) ((2 : Int32), FP.i2d (f_coef x0 (5 : Int32)))).length))]
    generalize hP6 : (own_app P5 (f_on x3 nQ (5 : Int32)) ((2 : Int32), FP.i2d (f_coef x0 (5 : Int32)))) = P6
    have hl6 : P6.length ≤ 6 := by rw [← hP6]; exact Nat.le_trans (own_appl _ _ _) (Nat.succ_le_succ hl5)
    show Go _ _ _ _ _ _ _ _ _ _ _ _ [(kc, IA Z .int (ints (own_c P6))), (kv, DA Z (own_v P6)), (ks, IA Z .int (ints [(0 : Int32), (Int32.ofNat P3.length), (0 : Int32), (0 : Int32)]))] 3 22 196 #[.val (.long x0), .second, .val (.int x1), .val (.int x2), .val (.int x3), .val (.int nQ), .val (.int j2), .val (.ref kc), .val (.ref kv), .val (.ref ks), .val (.int (Int32.ofNat P5.length)), .unset, .unset, .unset, .unset, .unset] [(.int (Int32.ofNat P6.length))]
    refine g_istore C 198 #[.val (.long x0), .second, .val (.int x1), .val (.int x2), .val (.int x3), .val (.int nQ), .val (.int j2), .val (.ref kc), .val (.ref kv), .val (.ref ks), .val (.int (Int32.ofNat P6.length)), .unset, .unset, .unset, .unset, .unset] at_196 rfl rfl ?_
    refine g_aload C 200 at_198 rfl rfl rfl ?_
    refine g_iconst C 201 (2 : Int32) at_200 rfl rfl ?_
    refine g_iload C 203 at_201 rfl rfl ?_
    refine g_iastore C 204 (i := 2) [(0 : Int32), (Int32.ofNat P3.length), (Int32.ofNat P6.length), (0 : Int32)] [(kc, IA Z .int (ints (own_c P6))), (kv, DA Z (own_v P6)), (ks, IA Z .int (ints [(0 : Int32), (Int32.ofNat P3.length), (Int32.ofNat P6.length), (0 : Int32)]))] rfl at_203 rfl (by decide) (Nat.le_of_ble_eq_true rfl) rfl rfl ?_
    refine g_aload C 206 at_204 rfl rfl rfl ?_
    refine g_aload C 208 at_206 rfl rfl rfl ?_
    refine g_iload C 210 at_208 rfl rfl ?_
    refine g_iload C 212 at_210 rfl rfl ?_
    refine g_iload C 214 at_212 rfl rfl ?_
    refine g_bipush C 216 (6 : Int32) at_214 rfl rfl ?_
    refine g_static C 219 3 (argsL := [(.int x3), (.int nQ), (.int (6 : Int32))]) (St := [(.int (Int32.ofNat P6.length)), (.ref kv), (.ref kc)]) (con_f_on l Z a0 C.2.2.1 h0 [(kc, IA Z .int (ints (own_c P6))), (kv, DA Z (own_v P6)), (ks, IA Z .int (ints [(0 : Int32), (Int32.ofNat P3.length), (Int32.ofNat P6.length), (0 : Int32)]))] x3 nQ (6 : Int32)) (List.mem_of_getElem? (i := 2) rfl) (List.mem_of_getElem? (i := 3) rfl) (List.mem_of_getElem? (i := 4) rfl) (List.mem_of_getElem? (i := 5) rfl) (by decide) at_216 rfl rfl (lenOf (ps := [.int, .int, .int]) (r := some .boolean) (by decide) rfl) rfl (Nat.le_of_eq rfl) (by decide) (by decide) (by decide) (by decide) ?_
    rintro _ _ ⟨rfl, rfl⟩
    show Go _ _ _ _ _ _ _ _ _ _ _ _ [(kc, IA Z .int (ints (own_c P6))), (kv, DA Z (own_v P6)), (ks, IA Z .int (ints [(0 : Int32), (Int32.ofNat P3.length), (Int32.ofNat P6.length), (0 : Int32)]))] 3 22 219 #[.val (.long x0), .second, .val (.int x1), .val (.int x2), .val (.int x3), .val (.int nQ), .val (.int j2), .val (.ref kc), .val (.ref kv), .val (.ref ks), .val (.int (Int32.ofNat P6.length)), .unset, .unset, .unset, .unset, .unset] [(.int (f_on x3 nQ (6 : Int32))), (.int (Int32.ofNat P6.length)), (.ref kv), (.ref kc)]
    refine g_iconst C 220 (0 : Int32) at_219 rfl rfl ?_
    refine g_lloadN C 221 at_220 rfl rfl ?_
    refine g_bipush C 223 (6 : Int32) at_221 rfl rfl ?_
    refine g_static C 226 5 (argsL := [(.long x0), (.int (6 : Int32))]) (St := [(.int (0 : Int32)), (.int (f_on x3 nQ (6 : Int32))), (.int (Int32.ofNat P6.length)), (.ref kv), (.ref kc)]) (con_f_coef l Z a0 C.2.2.1 h0 [(kc, IA Z .int (ints (own_c P6))), (kv, DA Z (own_v P6)), (ks, IA Z .int (ints [(0 : Int32), (Int32.ofNat P3.length), (Int32.ofNat P6.length), (0 : Int32)]))] x0 (6 : Int32)) (List.mem_of_getElem? (i := 6) rfl) (List.mem_of_getElem? (i := 7) rfl) (List.mem_of_getElem? (i := 4) rfl) (List.mem_of_getElem? (i := 8) rfl) (by decide) at_223 rfl rfl (lenOf (ps := [.long, .int]) (r := some .int) (by decide) rfl) rfl (Nat.le_of_eq rfl) (by decide) (by decide) (by decide) (by decide) ?_
    rintro _ _ ⟨rfl, rfl⟩
    show Go _ _ _ _ _ _ _ _ _ _ _ _ [(kc, IA Z .int (ints (own_c P6))), (kv, DA Z (own_v P6)), (ks, IA Z .int (ints [(0 : Int32), (Int32.ofNat P3.length), (Int32.ofNat P6.length), (0 : Int32)]))] 3 22 226 #[.val (.long x0), .second, .val (.int x1), .val (.int x2), .val (.int x3), .val (.int nQ), .val (.int j2), .val (.ref kc), .val (.ref kv), .val (.ref ks), .val (.int (Int32.ofNat P6.length)), .unset, .unset, .unset, .unset, .unset] [(.int (f_coef x0 (6 : Int32))), (.int (0 : Int32)), (.int (f_on x3 nQ (6 : Int32))), (.int (Int32.ofNat P6.length)), (.ref kv), (.ref kc)]
    refine g_static C 229 0 (argsL := [(.ref kc), (.ref kv), (.int (Int32.ofNat P6.length)), (.int (f_on x3 nQ (6 : Int32))), (.int (0 : Int32)), (.int (f_coef x0 (6 : Int32)))]) (St := []) (con_put l Z a0 C.2.2.1 h0 kc kv (ks, IA Z .int (ints [(0 : Int32), (Int32.ofNat P3.length), (Int32.ofNat P6.length), (0 : Int32)])) P6 (f_on x3 nQ (6 : Int32)) (0 : Int32) (f_coef x0 (6 : Int32)) (Nat.lt_of_le_of_lt hl6 (by decide))) (List.mem_of_getElem? (i := 10) rfl) (List.mem_of_getElem? (i := 11) rfl) (List.mem_of_getElem? (i := 4) rfl) (List.mem_of_getElem? (i := 12) rfl) (by decide) at_226 rfl rfl (lenOf (ps := [(.array .int), (.array .double), .int, .boolean, .int, .int]) (r := some .int) (by decide) rfl) rfl (Nat.le_of_eq rfl) (by decide) (by decide) (by decide) (by decide) ?_
    rintro _ _ ⟨rfl, rfl⟩
    show Go _ _ _ _ _ _ _ _ _ _ _ _ [(kc, IA Z .int (ints (own_c (own_app P6 (f_on x3 nQ (6 : Int32)) ((0 : Int32), FP.i2d (f_coef x0 (6 : Int32))))))), (kv, DA Z (own_v (own_app P6 (f_on x3 nQ (6 : Int32)) ((0 : Int32), FP.i2d (f_coef x0 (6 : Int32)))))), (ks, IA Z .int (ints [(0 : Int32), (Int32.ofNat P3.length), (Int32.ofNat P6.length), (0 : Int32)]))] 3 22 229 #[.val (.long x0), .second, .val (.int x1), .val (.int x2), .val (.int x3), .val (.int nQ), .val (.int j2), .val (.ref kc), .val (.ref kv), .val (.ref ks), .val (.int (Int32.ofNat P6.length)), .unset, .unset, .unset, .unset, .unset] [(.int (Int32.ofNat (own_app P6 (f_on x3 nQ (6 : Int32)) ((0 : Int32), FP.i2d (f_coef x0 (6 : Int32)))).length))]
    generalize hP7 : (own_app P6 (f_on x3 nQ (6 : Int32)) ((0 : Int32), FP.i2d (f_coef x0 (6 : Int32)))) = P7
    have hl7 : P7.length ≤ 7 := by rw [← hP7]; exact Nat.le_trans (own_appl _ _ _) (Nat.succ_le_succ hl6)
    show Go _ _ _ _ _ _ _ _ _ _ _ _ [(kc, IA Z .int (ints (own_c P7))), (kv, DA Z (own_v P7)), (ks, IA Z .int (ints [(0 : Int32), (Int32.ofNat P3.length), (Int32.ofNat P6.length), (0 : Int32)]))] 3 22 229 #[.val (.long x0), .second, .val (.int x1), .val (.int x2), .val (.int x3), .val (.int nQ), .val (.int j2), .val (.ref kc), .val (.ref kv), .val (.ref ks), .val (.int (Int32.ofNat P6.length)), .unset, .unset, .unset, .unset, .unset] [(.int (Int32.ofNat P7.length))]
    refine g_istore C 231 #[.val (.long x0), .second, .val (.int x1), .val (.int x2), .val (.int x3), .val (.int nQ), .val (.int j2), .val (.ref kc), .val (.ref kv), .val (.ref ks), .val (.int (Int32.ofNat P7.length)), .unset, .unset, .unset, .unset, .unset] at_229 rfl rfl ?_
    refine g_aload C 233 at_231 rfl rfl rfl ?_
    refine g_aload C 235 at_233 rfl rfl rfl ?_
    refine g_iload C 237 at_235 rfl rfl ?_
    refine g_iload C 239 at_237 rfl rfl ?_
    refine g_iload C 241 at_239 rfl rfl ?_
    refine g_bipush C 243 (7 : Int32) at_241 rfl rfl ?_
    refine g_static C 246 3 (argsL := [(.int x3), (.int nQ), (.int (7 : Int32))]) (St := [(.int (Int32.ofNat P7.length)), (.ref kv), (.ref kc)]) (con_f_on l Z a0 C.2.2.1 h0 [(kc, IA Z .int (ints (own_c P7))), (kv, DA Z (own_v P7)), (ks, IA Z .int (ints [(0 : Int32), (Int32.ofNat P3.length), (Int32.ofNat P6.length), (0 : Int32)]))] x3 nQ (7 : Int32)) (List.mem_of_getElem? (i := 2) rfl) (List.mem_of_getElem? (i := 3) rfl) (List.mem_of_getElem? (i := 4) rfl) (List.mem_of_getElem? (i := 5) rfl) (by decide) at_243 rfl rfl (lenOf (ps := [.int, .int, .int]) (r := some .boolean) (by decide) rfl) rfl (Nat.le_of_eq rfl) (by decide) (by decide) (by decide) (by decide) ?_
    rintro _ _ ⟨rfl, rfl⟩
    show Go _ _ _ _ _ _ _ _ _ _ _ _ [(kc, IA Z .int (ints (own_c P7))), (kv, DA Z (own_v P7)), (ks, IA Z .int (ints [(0 : Int32), (Int32.ofNat P3.length), (Int32.ofNat P6.length), (0 : Int32)]))] 3 22 246 #[.val (.long x0), .second, .val (.int x1), .val (.int x2), .val (.int x3), .val (.int nQ), .val (.int j2), .val (.ref kc), .val (.ref kv), .val (.ref ks), .val (.int (Int32.ofNat P7.length)), .unset, .unset, .unset, .unset, .unset] [(.int (f_on x3 nQ (7 : Int32))), (.int (Int32.ofNat P7.length)), (.ref kv), (.ref kc)]
    refine g_iconst C 247 (1 : Int32) at_246 rfl rfl ?_
    refine g_lloadN C 248 at_247 rfl rfl ?_
    refine g_bipush C 250 (7 : Int32) at_248 rfl rfl ?_
    refine g_static C 253 5 (argsL := [(.long x0), (.int (7 : Int32))]) (St := [(.int (1 : Int32)), (.int (f_on x3 nQ (7 : Int32))), (.int (Int32.ofNat P7.length)), (.ref kv), (.ref kc)]) (con_f_coef l Z a0 C.2.2.1 h0 [(kc, IA Z .int (ints (own_c P7))), (kv, DA Z (own_v P7)), (ks, IA Z .int (ints [(0 : Int32), (Int32.ofNat P3.length), (Int32.ofNat P6.length), (0 : Int32)]))] x0 (7 : Int32)) (List.mem_of_getElem? (i := 6) rfl) (List.mem_of_getElem? (i := 7) rfl) (List.mem_of_getElem? (i := 4) rfl) (List.mem_of_getElem? (i := 8) rfl) (by decide) at_250 rfl rfl (lenOf (ps := [.long, .int]) (r := some .int) (by decide) rfl) rfl (Nat.le_of_eq rfl) (by decide) (by decide) (by decide) (by decide) ?_
    rintro _ _ ⟨rfl, rfl⟩
    show Go _ _ _ _ _ _ _ _ _ _ _ _ [(kc, IA Z .int (ints (own_c P7))), (kv, DA Z (own_v P7)), (ks, IA Z .int (ints [(0 : Int32), (Int32.ofNat P3.length), (Int32.ofNat P6.length), (0 : Int32)]))] 3 22 253 #[.val (.long x0), .second, .val (.int x1), .val (.int x2), .val (.int x3), .val (.int nQ), .val (.int j2), .val (.ref kc), .val (.ref kv), .val (.ref ks), .val (.int (Int32.ofNat P7.length)), .unset, .unset, .unset, .unset, .unset] [(.int (f_coef x0 (7 : Int32))), (.int (1 : Int32)), (.int (f_on x3 nQ (7 : Int32))), (.int (Int32.ofNat P7.length)), (.ref kv), (.ref kc)]
    refine g_static C 256 0 (argsL := [(.ref kc), (.ref kv), (.int (Int32.ofNat P7.length)), (.int (f_on x3 nQ (7 : Int32))), (.int (1 : Int32)), (.int (f_coef x0 (7 : Int32)))]) (St := []) (con_put l Z a0 C.2.2.1 h0 kc kv (ks, IA Z .int (ints [(0 : Int32), (Int32.ofNat P3.length), (Int32.ofNat P6.length), (0 : Int32)])) P7 (f_on x3 nQ (7 : Int32)) (1 : Int32) (f_coef x0 (7 : Int32)) (Nat.lt_of_le_of_lt hl7 (by decide))) (List.mem_of_getElem? (i := 10) rfl) (List.mem_of_getElem? (i := 11) rfl) (List.mem_of_getElem? (i := 4) rfl) (List.mem_of_getElem? (i := 12) rfl) (by decide) at_253 rfl rfl (lenOf (ps := [(.array .int), (.array .double), .int, .boolean, .int, .int]) (r := some .int) (by decide) rfl) rfl (Nat.le_of_eq rfl) (by decide) (by decide) (by decide) (by decide) ?_
    rintro _ _ ⟨rfl, rfl⟩
    show Go _ _ _ _ _ _ _ _ _ _ _ _ [(kc, IA Z .int (ints (own_c (own_app P7 (f_on x3 nQ (7 : Int32)) ((1 : Int32), FP.i2d (f_coef x0 (7 : Int32))))))), (kv, DA Z (own_v (own_app P7 (f_on x3 nQ (7 : Int32)) ((1 : Int32), FP.i2d (f_coef x0 (7 : Int32)))))), (ks, IA Z .int (ints [(0 : Int32), (Int32.ofNat P3.length), (Int32.ofNat P6.length), (0 : Int32)]))] 3 22 256 #[.val (.long x0), .second, .val (.int x1), .val (.int x2), .val (.int x3), .val (.int nQ), .val (.int j2), .val (.ref kc), .val (.ref kv), .val (.ref ks), .val (.int (Int32.ofNat P7.length)), .unset, .unset, .unset, .unset, .unset] [(.int (Int32.ofNat (own_app P7 (f_on x3 nQ (7 : Int32)) ((1 : Int32), FP.i2d (f_coef x0 (7 : Int32)))).length))]
    generalize hP8 : (own_app P7 (f_on x3 nQ (7 : Int32)) ((1 : Int32), FP.i2d (f_coef x0 (7 : Int32)))) = P8
    have hl8 : P8.length ≤ 8 := by rw [← hP8]; exact Nat.le_trans (own_appl _ _ _) (Nat.succ_le_succ hl7)
    show Go _ _ _ _ _ _ _ _ _ _ _ _ [(kc, IA Z .int (ints (own_c P8))), (kv, DA Z (own_v P8)), (ks, IA Z .int (ints [(0 : Int32), (Int32.ofNat P3.length), (Int32.ofNat P6.length), (0 : Int32)]))] 3 22 256 #[.val (.long x0), .second, .val (.int x1), .val (.int x2), .val (.int x3), .val (.int nQ), .val (.int j2), .val (.ref kc), .val (.ref kv), .val (.ref ks), .val (.int (Int32.ofNat P7.length)), .unset, .unset, .unset, .unset, .unset] [(.int (Int32.ofNat P8.length))]
    refine g_istore C 258 #[.val (.long x0), .second, .val (.int x1), .val (.int x2), .val (.int x3), .val (.int nQ), .val (.int j2), .val (.ref kc), .val (.ref kv), .val (.ref ks), .val (.int (Int32.ofNat P8.length)), .unset, .unset, .unset, .unset, .unset] at_256 rfl rfl ?_
    refine g_aload C 260 at_258 rfl rfl rfl ?_
    refine g_aload C 262 at_260 rfl rfl rfl ?_
    refine g_iload C 264 at_262 rfl rfl ?_
    refine g_iload C 266 at_264 rfl rfl ?_
    refine g_iload C 268 at_266 rfl rfl ?_
    refine g_bipush C 270 (8 : Int32) at_268 rfl rfl ?_
    refine g_static C 273 3 (argsL := [(.int x3), (.int nQ), (.int (8 : Int32))]) (St := [(.int (Int32.ofNat P8.length)), (.ref kv), (.ref kc)]) (con_f_on l Z a0 C.2.2.1 h0 [(kc, IA Z .int (ints (own_c P8))), (kv, DA Z (own_v P8)), (ks, IA Z .int (ints [(0 : Int32), (Int32.ofNat P3.length), (Int32.ofNat P6.length), (0 : Int32)]))] x3 nQ (8 : Int32)) (List.mem_of_getElem? (i := 2) rfl) (List.mem_of_getElem? (i := 3) rfl) (List.mem_of_getElem? (i := 4) rfl) (List.mem_of_getElem? (i := 5) rfl) (by decide) at_270 rfl rfl (lenOf (ps := [.int, .int, .int]) (r := some .boolean) (by decide) rfl) rfl (Nat.le_of_eq rfl) (by decide) (by decide) (by decide) (by decide) ?_
    rintro _ _ ⟨rfl, rfl⟩
    show Go _ _ _ _ _ _ _ _ _ _ _ _ [(kc, IA Z .int (ints (own_c P8))), (kv, DA Z (own_v P8)), (ks, IA Z .int (ints [(0 : Int32), (Int32.ofNat P3.length), (Int32.ofNat P6.length), (0 : Int32)]))] 3 22 273 #[.val (.long x0), .second, .val (.int x1), .val (.int x2), .val (.int x3), .val (.int nQ), .val (.int j2), .val (.ref kc), .val (.ref kv), .val (.ref ks), .val (.int (Int32.ofNat P8.length)), .unset, .unset, .unset, .unset, .unset] [(.int (f_on x3 nQ (8 : Int32))), (.int (Int32.ofNat P8.length)), (.ref kv), (.ref kc)]
    refine g_iconst C 274 (2 : Int32) at_273 rfl rfl ?_
    refine g_lloadN C 275 at_274 rfl rfl ?_
    refine g_bipush C 277 (8 : Int32) at_275 rfl rfl ?_
    refine g_static C 280 5 (argsL := [(.long x0), (.int (8 : Int32))]) (St := [(.int (2 : Int32)), (.int (f_on x3 nQ (8 : Int32))), (.int (Int32.ofNat P8.length)), (.ref kv), (.ref kc)]) (con_f_coef l Z a0 C.2.2.1 h0 [(kc, IA Z .int (ints (own_c P8))), (kv, DA Z (own_v P8)), (ks, IA Z .int (ints [(0 : Int32), (Int32.ofNat P3.length), (Int32.ofNat P6.length), (0 : Int32)]))] x0 (8 : Int32)) (List.mem_of_getElem? (i := 6) rfl) (List.mem_of_getElem? (i := 7) rfl) (List.mem_of_getElem? (i := 4) rfl) (List.mem_of_getElem? (i := 8) rfl) (by decide) at_277 rfl rfl (lenOf (ps := [.long, .int]) (r := some .int) (by decide) rfl) rfl (Nat.le_of_eq rfl) (by decide) (by decide) (by decide) (by decide) ?_
    rintro _ _ ⟨rfl, rfl⟩
    show Go _ _ _ _ _ _ _ _ _ _ _ _ [(kc, IA Z .int (ints (own_c P8))), (kv, DA Z (own_v P8)), (ks, IA Z .int (ints [(0 : Int32), (Int32.ofNat P3.length), (Int32.ofNat P6.length), (0 : Int32)]))] 3 22 280 #[.val (.long x0), .second, .val (.int x1), .val (.int x2), .val (.int x3), .val (.int nQ), .val (.int j2), .val (.ref kc), .val (.ref kv), .val (.ref ks), .val (.int (Int32.ofNat P8.length)), .unset, .unset, .unset, .unset, .unset] [(.int (f_coef x0 (8 : Int32))), (.int (2 : Int32)), (.int (f_on x3 nQ (8 : Int32))), (.int (Int32.ofNat P8.length)), (.ref kv), (.ref kc)]
    refine g_static C 283 0 (argsL := [(.ref kc), (.ref kv), (.int (Int32.ofNat P8.length)), (.int (f_on x3 nQ (8 : Int32))), (.int (2 : Int32)), (.int (f_coef x0 (8 : Int32)))]) (St := []) (con_put l Z a0 C.2.2.1 h0 kc kv (ks, IA Z .int (ints [(0 : Int32), (Int32.ofNat P3.length), (Int32.ofNat P6.length), (0 : Int32)])) P8 (f_on x3 nQ (8 : Int32)) (2 : Int32) (f_coef x0 (8 : Int32)) (Nat.lt_of_le_of_lt hl8 (by decide))) (List.mem_of_getElem? (i := 10) rfl) (List.mem_of_getElem? (i := 11) rfl) (List.mem_of_getElem? (i := 4) rfl) (List.mem_of_getElem? (i := 12) rfl) (by decide) at_280 rfl rfl (lenOf (ps := [(.array .int), (.array .double), .int, .boolean, .int, .int]) (r := some .int) (by decide) rfl) rfl (Nat.le_of_eq rfl) (by decide) (by decide) (by decide) (by decide) ?_
    rintro _ _ ⟨rfl, rfl⟩
    show Go _ _ _ _ _ _ _ _ _ _ _ _ [(kc, IA Z .int (ints (own_c (own_app P8 (f_on x3 nQ (8 : Int32)) ((2 : Int32), FP.i2d (f_coef x0 (8 : Int32))))))), (kv, DA Z (own_v (own_app P8 (f_on x3 nQ (8 : Int32)) ((2 : Int32), FP.i2d (f_coef x0 (8 : Int32)))))), (ks, IA Z .int (ints [(0 : Int32), (Int32.ofNat P3.length), (Int32.ofNat P6.length), (0 : Int32)]))] 3 22 283 #[.val (.long x0), .second, .val (.int x1), .val (.int x2), .val (.int x3), .val (.int nQ), .val (.int j2), .val (.ref kc), .val (.ref kv), .val (.ref ks), .val (.int (Int32.ofNat P8.length)), .unset, .unset, .unset, .unset, .unset] [(.int (Int32.ofNat (own_app P8 (f_on x3 nQ (8 : Int32)) ((2 : Int32), FP.i2d (f_coef x0 (8 : Int32)))).length))]
    generalize hP9 : (own_app P8 (f_on x3 nQ (8 : Int32)) ((2 : Int32), FP.i2d (f_coef x0 (8 : Int32)))) = P9
    have hl9 : P9.length ≤ 9 := by rw [← hP9]; exact Nat.le_trans (own_appl _ _ _) (Nat.succ_le_succ hl8)
    show Go _ _ _ _ _ _ _ _ _ _ _ _ [(kc, IA Z .int (ints (own_c P9))), (kv, DA Z (own_v P9)), (ks, IA Z .int (ints [(0 : Int32), (Int32.ofNat P3.length), (Int32.ofNat P6.length), (0 : Int32)]))] 3 22 283 #[.val (.long x0), .second, .val (.int x1), .val (.int x2), .val (.int x3), .val (.int nQ), .val (.int j2), .val (.ref kc), .val (.ref kv), .val (.ref ks), .val (.int (Int32.ofNat P8.length)), .unset, .unset, .unset, .unset, .unset] [(.int (Int32.ofNat P9.length))]
    refine g_istore C 285 #[.val (.long x0), .second, .val (.int x1), .val (.int x2), .val (.int x3), .val (.int nQ), .val (.int j2), .val (.ref kc), .val (.ref kv), .val (.ref ks), .val (.int (Int32.ofNat P9.length)), .unset, .unset, .unset, .unset, .unset] at_283 rfl rfl ?_
    refine g_aload C 287 at_285 rfl rfl rfl ?_
    refine g_iconst C 288 (3 : Int32) at_287 rfl rfl ?_
    refine g_iload C 290 at_288 rfl rfl ?_
    refine g_iastore C 291 (i := 2) [(0 : Int32), (Int32.ofNat P3.length), (Int32.ofNat P6.length), (Int32.ofNat P9.length)] [(kc, IA Z .int (ints (own_c P9))), (kv, DA Z (own_v P9)), (ks, IA Z .int (ints [(0 : Int32), (Int32.ofNat P3.length), (Int32.ofNat P6.length), (Int32.ofNat P9.length)]))] rfl at_290 rfl (by decide) (Nat.le_of_ble_eq_true rfl) rfl rfl ?_
    have hR0 : own_row (f_on x3 nQ (0 : Int32)) ((0 : Int32), FP.i2d (f_coef x0 (0 : Int32))) (f_on x3 nQ (1 : Int32)) ((1 : Int32), FP.i2d (f_coef x0 (1 : Int32))) (f_on x3 nQ (2 : Int32)) ((2 : Int32), FP.i2d (f_coef x0 (2 : Int32))) = P3 := (own_app3 hP1 hP2 hP3).symm
    have eP6 := own_app3 hP4 hP5 hP6
    generalize hR1 : own_row (f_on x3 nQ (3 : Int32)) ((0 : Int32), FP.i2d (f_coef x0 (3 : Int32))) (f_on x3 nQ (4 : Int32)) ((1 : Int32), FP.i2d (f_coef x0 (4 : Int32))) (f_on x3 nQ (5 : Int32)) ((2 : Int32), FP.i2d (f_coef x0 (5 : Int32))) = R1 at eP6
    subst eP6
    have eP9 := own_app3 hP7 hP8 hP9
    generalize hR2 : own_row (f_on x3 nQ (6 : Int32)) ((0 : Int32), FP.i2d (f_coef x0 (6 : Int32))) (f_on x3 nQ (7 : Int32)) ((1 : Int32), FP.i2d (f_coef x0 (7 : Int32))) (f_on x3 nQ (8 : Int32)) ((2 : Int32), FP.i2d (f_coef x0 (8 : Int32))) = R2 at eP9
    subst eP9
    show Go _ _ _ _ _ _ _ _ _ _ _ _ [(kc, IA Z .int (ints (own_c (P3 ++ R1 ++ R2)))), (kv, DA Z (own_v (P3 ++ R1 ++ R2))), (ks, IA Z .int (ints [(0 : Int32), (Int32.ofNat P3.length), (Int32.ofNat (P3 ++ R1).length), (Int32.ofNat (P3 ++ R1 ++ R2).length)]))] 3 22 291 #[.val (.long x0), .second, .val (.int x1), .val (.int x2), .val (.int x3), .val (.int nQ), .val (.int j2), .val (.ref kc), .val (.ref kv), .val (.ref ks), .val (.int (Int32.ofNat (P3 ++ R1 ++ R2).length)), .unset, .unset, .unset, .unset, .unset] []
    refine g_new C 294 [("com/example/libplanar/libplanar/SparseMatrix", "rows", "I", (.int (0 : Int32))), ("com/example/libplanar/libplanar/SparseMatrix", "columnCount", "I", (.int (0 : Int32))), ("com/example/libplanar/libplanar/SparseMatrix", "rowStart", "[I", .null), ("com/example/libplanar/libplanar/SparseMatrix", "columns", "[I", .null), ("com/example/libplanar/libplanar/SparseMatrix", "values", "[D", .null)] (List.mem_of_getElem? (i := 13) rfl) (List.mem_of_getElem? (i := 14) rfl) (List.mem_of_getElem? (i := 15) rfl) at_291 rfl (by decide) (by decide) (List.forall_mem_cons.mpr ⟨⟨Or.inr (List.mem_of_getElem? (i := 23) rfl), .int, by decide, rfl⟩, (List.forall_mem_cons.mpr ⟨⟨Or.inr (List.mem_of_getElem? (i := 25) rfl), .int, by decide, rfl⟩, (List.forall_mem_cons.mpr ⟨⟨Or.inr (List.mem_of_getElem? (i := 27) rfl), (.array .int), by decide, rfl⟩, (List.forall_mem_cons.mpr ⟨⟨Or.inr (List.mem_of_getElem? (i := 29) rfl), (.array .int), by decide, rfl⟩, (List.forall_mem_cons.mpr ⟨⟨Or.inr (List.mem_of_getElem? (i := 31) rfl), (.array .double), by decide, rfl⟩, (fun _ hx => nomatch hx)⟩)⟩)⟩)⟩)⟩) ?_
    intro p1
    show Go _ _ _ _ _ _ _ _ _ _ _ _ [(kc, IA Z .int (ints (own_c (P3 ++ R1 ++ R2)))), (kv, DA Z (own_v (P3 ++ R1 ++ R2))), (ks, IA Z .int (ints [(0 : Int32), (Int32.ofNat P3.length), (Int32.ofNat (P3 ++ R1).length), (Int32.ofNat (P3 ++ R1 ++ R2).length)])), (p1, OB Z a0 "com/example/libplanar/libplanar/SparseMatrix" [("com/example/libplanar/libplanar/SparseMatrix", "rows", "I", (.int (0 : Int32))), ("com/example/libplanar/libplanar/SparseMatrix", "columnCount", "I", (.int (0 : Int32))), ("com/example/libplanar/libplanar/SparseMatrix", "rowStart", "[I", .null), ("com/example/libplanar/libplanar/SparseMatrix", "columns", "[I", .null), ("com/example/libplanar/libplanar/SparseMatrix", "values", "[D", .null)])] 4 27 294 #[.val (.long x0), .second, .val (.int x1), .val (.int x2), .val (.int x3), .val (.int nQ), .val (.int j2), .val (.ref kc), .val (.ref kv), .val (.ref ks), .val (.int (Int32.ofNat (P3 ++ R1 ++ R2).length)), .unset, .unset, .unset, .unset, .unset] [(.ref p1)]
    refine g_dup C 295 at_294 rfl rfl ?_
    refine g_iload C 297 at_295 rfl rfl ?_
    refine g_iload C 299 at_297 rfl rfl ?_
    refine g_aload C 301 at_299 rfl rfl rfl ?_
    refine g_aload C 303 at_301 rfl rfl rfl ?_
    refine g_aload C 305 at_303 rfl rfl rfl ?_
    refine g_special C 308 1 (argsL := [(.int nQ), (.int nQ), (.ref ks), (.ref kc), (.ref kv)]) (St := [(.ref p1)]) (con_minit l Z a0 C.2.2.1 h0 [(kc, IA Z .int (ints (own_c (P3 ++ R1 ++ R2)))), (kv, DA Z (own_v (P3 ++ R1 ++ R2))), (ks, IA Z .int (ints [(0 : Int32), (Int32.ofNat P3.length), (Int32.ofNat (P3 ++ R1).length), (Int32.ofNat (P3 ++ R1 ++ R2).length)])), (p1, OB Z a0 "com/example/libplanar/libplanar/SparseMatrix" [("com/example/libplanar/libplanar/SparseMatrix", "rows", "I", (.int (0 : Int32))), ("com/example/libplanar/libplanar/SparseMatrix", "columnCount", "I", (.int (0 : Int32))), ("com/example/libplanar/libplanar/SparseMatrix", "rowStart", "[I", .null), ("com/example/libplanar/libplanar/SparseMatrix", "columns", "[I", .null), ("com/example/libplanar/libplanar/SparseMatrix", "values", "[D", .null)])] 3 p1 ks kc kv nQ rfl) rfl (List.mem_of_getElem? (i := 16) rfl) (List.mem_of_getElem? (i := 17) rfl) (List.mem_of_getElem? (i := 15) rfl) (List.mem_of_getElem? (i := 18) rfl) (by decide) at_305 rfl rfl (lenOf (ps := [.int, .int, (.array .int), (.array .int), (.array .double)]) (r := none) (by decide) rfl) rfl (Nat.le_of_eq rfl) (by decide) (by decide) (by decide) (by decide) ?_
    rintro _ _ ⟨rfl, rfl⟩
    show Go _ _ _ _ _ _ _ _ _ _ _ _ [(kc, IA Z .int (ints (own_c (P3 ++ R1 ++ R2)))), (kv, DA Z (own_v (P3 ++ R1 ++ R2))), (ks, IA Z .int (ints [(0 : Int32), (Int32.ofNat P3.length), (Int32.ofNat (P3 ++ R1).length), (Int32.ofNat (P3 ++ R1 ++ R2).length)])), (p1, OB Z a0 "com/example/libplanar/libplanar/SparseMatrix" [("com/example/libplanar/libplanar/SparseMatrix", "rows", "I", (.int nQ)), ("com/example/libplanar/libplanar/SparseMatrix", "columnCount", "I", (.int nQ)), ("com/example/libplanar/libplanar/SparseMatrix", "rowStart", "[I", (.ref ks)), ("com/example/libplanar/libplanar/SparseMatrix", "columns", "[I", (.ref kc)), ("com/example/libplanar/libplanar/SparseMatrix", "values", "[D", (.ref kv))])] 4 27 308 #[.val (.long x0), .second, .val (.int x1), .val (.int x2), .val (.int x3), .val (.int nQ), .val (.int j2), .val (.ref kc), .val (.ref kv), .val (.ref ks), .val (.int (Int32.ofNat (P3 ++ R1 ++ R2).length)), .unset, .unset, .unset, .unset, .unset] [(.ref p1)]
    refine g_astore C 310 #[.val (.long x0), .second, .val (.int x1), .val (.int x2), .val (.int x3), .val (.int nQ), .val (.int j2), .val (.ref kc), .val (.ref kv), .val (.ref ks), .val (.int (Int32.ofNat (P3 ++ R1 ++ R2).length)), .val (.ref p1), .unset, .unset, .unset, .unset] at_308 rfl rfl rfl ?_
    refine g_iconst C 311 (3 : Int32) at_310 rfl rfl ?_
    refine g_newarrayD C 313 [(0 : UInt64), (0 : UInt64), (0 : UInt64)] 3 (List.mem_of_getElem? (i := 1) rfl) at_311 rfl (by decide) (by decide) (by decide) (by decide) (by decide) rfl ?_
    intro ab
    show Go _ _ _ _ _ _ _ _ _ _ _ _ [(kc, IA Z .int (ints (own_c (P3 ++ R1 ++ R2)))), (kv, DA Z (own_v (P3 ++ R1 ++ R2))), (ks, IA Z .int (ints [(0 : Int32), (Int32.ofNat P3.length), (Int32.ofNat (P3 ++ R1).length), (Int32.ofNat (P3 ++ R1 ++ R2).length)])), (p1, OB Z a0 "com/example/libplanar/libplanar/SparseMatrix" [("com/example/libplanar/libplanar/SparseMatrix", "rows", "I", (.int nQ)), ("com/example/libplanar/libplanar/SparseMatrix", "columnCount", "I", (.int nQ)), ("com/example/libplanar/libplanar/SparseMatrix", "rowStart", "[I", (.ref ks)), ("com/example/libplanar/libplanar/SparseMatrix", "columns", "[I", (.ref kc)), ("com/example/libplanar/libplanar/SparseMatrix", "values", "[D", (.ref kv))]), (ab, DA Z [(0 : UInt64), (0 : UInt64), (0 : UInt64)])] 5 30 313 #[.val (.long x0), .second, .val (.int x1), .val (.int x2), .val (.int x3), .val (.int nQ), .val (.int j2), .val (.ref kc), .val (.ref kv), .val (.ref ks), .val (.int (Int32.ofNat (P3 ++ R1 ++ R2).length)), .val (.ref p1), .unset, .unset, .unset, .unset] [(.ref ab)]
    refine g_dup C 314 at_313 rfl rfl ?_
    refine g_iconst C 315 (0 : Int32) at_314 rfl rfl ?_
    refine g_iloadN C 316 at_315 rfl rfl ?_
    refine g_iconst C 317 (0 : Int32) at_316 rfl rfl ?_
    refine g_static C 320 3 (argsL := [(.int x1), (.int (0 : Int32))]) (St := [(.int (0 : Int32)), (.ref ab), (.ref ab)]) (con_f_small l Z a0 C.2.2.1 h0 [(kc, IA Z .int (ints (own_c (P3 ++ R1 ++ R2)))), (kv, DA Z (own_v (P3 ++ R1 ++ R2))), (ks, IA Z .int (ints [(0 : Int32), (Int32.ofNat P3.length), (Int32.ofNat (P3 ++ R1).length), (Int32.ofNat (P3 ++ R1 ++ R2).length)])), (p1, OB Z a0 "com/example/libplanar/libplanar/SparseMatrix" [("com/example/libplanar/libplanar/SparseMatrix", "rows", "I", (.int nQ)), ("com/example/libplanar/libplanar/SparseMatrix", "columnCount", "I", (.int nQ)), ("com/example/libplanar/libplanar/SparseMatrix", "rowStart", "[I", (.ref ks)), ("com/example/libplanar/libplanar/SparseMatrix", "columns", "[I", (.ref kc)), ("com/example/libplanar/libplanar/SparseMatrix", "values", "[D", (.ref kv))]), (ab, DA Z [(0 : UInt64), (0 : UInt64), (0 : UInt64)])] x1 (0 : Int32)) (List.mem_of_getElem? (i := 32) rfl) (List.mem_of_getElem? (i := 33) rfl) (List.mem_of_getElem? (i := 4) rfl) (List.mem_of_getElem? (i := 34) rfl) (by decide) at_317 rfl rfl (lenOf (ps := [.int, .int]) (r := some .double) (by decide) rfl) rfl (Nat.le_of_eq rfl) (by decide) (by decide) (by decide) (by decide) ?_
    rintro _ _ ⟨rfl, rfl⟩
    show Go _ _ _ _ _ _ _ _ _ _ _ _ [(kc, IA Z .int (ints (own_c (P3 ++ R1 ++ R2)))), (kv, DA Z (own_v (P3 ++ R1 ++ R2))), (ks, IA Z .int (ints [(0 : Int32), (Int32.ofNat P3.length), (Int32.ofNat (P3 ++ R1).length), (Int32.ofNat (P3 ++ R1 ++ R2).length)])), (p1, OB Z a0 "com/example/libplanar/libplanar/SparseMatrix" [("com/example/libplanar/libplanar/SparseMatrix", "rows", "I", (.int nQ)), ("com/example/libplanar/libplanar/SparseMatrix", "columnCount", "I", (.int nQ)), ("com/example/libplanar/libplanar/SparseMatrix", "rowStart", "[I", (.ref ks)), ("com/example/libplanar/libplanar/SparseMatrix", "columns", "[I", (.ref kc)), ("com/example/libplanar/libplanar/SparseMatrix", "values", "[D", (.ref kv))]), (ab, DA Z [(0 : UInt64), (0 : UInt64), (0 : UInt64)])] 5 30 320 #[.val (.long x0), .second, .val (.int x1), .val (.int x2), .val (.int x3), .val (.int nQ), .val (.int j2), .val (.ref kc), .val (.ref kv), .val (.ref ks), .val (.int (Int32.ofNat (P3 ++ R1 ++ R2).length)), .val (.ref p1), .unset, .unset, .unset, .unset] [(.double (f_small x1 (0 : Int32))), (.int (0 : Int32)), (.ref ab), (.ref ab)]
    refine g_dastore C 321 (i := 4) [(f_small x1 (0 : Int32)), (0 : UInt64), (0 : UInt64)] [(kc, IA Z .int (ints (own_c (P3 ++ R1 ++ R2)))), (kv, DA Z (own_v (P3 ++ R1 ++ R2))), (ks, IA Z .int (ints [(0 : Int32), (Int32.ofNat P3.length), (Int32.ofNat (P3 ++ R1).length), (Int32.ofNat (P3 ++ R1 ++ R2).length)])), (p1, OB Z a0 "com/example/libplanar/libplanar/SparseMatrix" [("com/example/libplanar/libplanar/SparseMatrix", "rows", "I", (.int nQ)), ("com/example/libplanar/libplanar/SparseMatrix", "columnCount", "I", (.int nQ)), ("com/example/libplanar/libplanar/SparseMatrix", "rowStart", "[I", (.ref ks)), ("com/example/libplanar/libplanar/SparseMatrix", "columns", "[I", (.ref kc)), ("com/example/libplanar/libplanar/SparseMatrix", "values", "[D", (.ref kv))]), (ab, DA Z [(f_small x1 (0 : Int32)), (0 : UInt64), (0 : UInt64)])] rfl at_320 rfl (by decide) (Nat.le_of_ble_eq_true rfl) rfl rfl ?_
    refine g_dup C 322 at_321 rfl rfl ?_
    refine g_iconst C 323 (1 : Int32) at_322 rfl rfl ?_
    refine g_iloadN C 324 at_323 rfl rfl ?_
    refine g_iconst C 325 (1 : Int32) at_324 rfl rfl ?_
    refine g_static C 328 3 (argsL := [(.int x1), (.int (1 : Int32))]) (St := [(.int (1 : Int32)), (.ref ab), (.ref ab)]) (con_f_small l Z a0 C.2.2.1 h0 [(kc, IA Z .int (ints (own_c (P3 ++ R1 ++ R2)))), (kv, DA Z (own_v (P3 ++ R1 ++ R2))), (ks, IA Z .int (ints [(0 : Int32), (Int32.ofNat P3.length), (Int32.ofNat (P3 ++ R1).length), (Int32.ofNat (P3 ++ R1 ++ R2).length)])), (p1, OB Z a0 "com/example/libplanar/libplanar/SparseMatrix" [("com/example/libplanar/libplanar/SparseMatrix", "rows", "I", (.int nQ)), ("com/example/libplanar/libplanar/SparseMatrix", "columnCount", "I", (.int nQ)), ("com/example/libplanar/libplanar/SparseMatrix", "rowStart", "[I", (.ref ks)), ("com/example/libplanar/libplanar/SparseMatrix", "columns", "[I", (.ref kc)), ("com/example/libplanar/libplanar/SparseMatrix", "values", "[D", (.ref kv))]), (ab, DA Z [(f_small x1 (0 : Int32)), (0 : UInt64), (0 : UInt64)])] x1 (1 : Int32)) (List.mem_of_getElem? (i := 32) rfl) (List.mem_of_getElem? (i := 33) rfl) (List.mem_of_getElem? (i := 4) rfl) (List.mem_of_getElem? (i := 34) rfl) (by decide) at_325 rfl rfl (lenOf (ps := [.int, .int]) (r := some .double) (by decide) rfl) rfl (Nat.le_of_eq rfl) (by decide) (by decide) (by decide) (by decide) ?_
    rintro _ _ ⟨rfl, rfl⟩
    show Go _ _ _ _ _ _ _ _ _ _ _ _ [(kc, IA Z .int (ints (own_c (P3 ++ R1 ++ R2)))), (kv, DA Z (own_v (P3 ++ R1 ++ R2))), (ks, IA Z .int (ints [(0 : Int32), (Int32.ofNat P3.length), (Int32.ofNat (P3 ++ R1).length), (Int32.ofNat (P3 ++ R1 ++ R2).length)])), (p1, OB Z a0 "com/example/libplanar/libplanar/SparseMatrix" [("com/example/libplanar/libplanar/SparseMatrix", "rows", "I", (.int nQ)), ("com/example/libplanar/libplanar/SparseMatrix", "columnCount", "I", (.int nQ)), ("com/example/libplanar/libplanar/SparseMatrix", "rowStart", "[I", (.ref ks)), ("com/example/libplanar/libplanar/SparseMatrix", "columns", "[I", (.ref kc)), ("com/example/libplanar/libplanar/SparseMatrix", "values", "[D", (.ref kv))]), (ab, DA Z [(f_small x1 (0 : Int32)), (0 : UInt64), (0 : UInt64)])] 5 30 328 #[.val (.long x0), .second, .val (.int x1), .val (.int x2), .val (.int x3), .val (.int nQ), .val (.int j2), .val (.ref kc), .val (.ref kv), .val (.ref ks), .val (.int (Int32.ofNat (P3 ++ R1 ++ R2).length)), .val (.ref p1), .unset, .unset, .unset, .unset] [(.double (f_small x1 (1 : Int32))), (.int (1 : Int32)), (.ref ab), (.ref ab)]
    refine g_dastore C 329 (i := 4) [(f_small x1 (0 : Int32)), (f_small x1 (1 : Int32)), (0 : UInt64)] [(kc, IA Z .int (ints (own_c (P3 ++ R1 ++ R2)))), (kv, DA Z (own_v (P3 ++ R1 ++ R2))), (ks, IA Z .int (ints [(0 : Int32), (Int32.ofNat P3.length), (Int32.ofNat (P3 ++ R1).length), (Int32.ofNat (P3 ++ R1 ++ R2).length)])), (p1, OB Z a0 "com/example/libplanar/libplanar/SparseMatrix" [("com/example/libplanar/libplanar/SparseMatrix", "rows", "I", (.int nQ)), ("com/example/libplanar/libplanar/SparseMatrix", "columnCount", "I", (.int nQ)), ("com/example/libplanar/libplanar/SparseMatrix", "rowStart", "[I", (.ref ks)), ("com/example/libplanar/libplanar/SparseMatrix", "columns", "[I", (.ref kc)), ("com/example/libplanar/libplanar/SparseMatrix", "values", "[D", (.ref kv))]), (ab, DA Z [(f_small x1 (0 : Int32)), (f_small x1 (1 : Int32)), (0 : UInt64)])] rfl at_328 rfl (by decide) (Nat.le_of_ble_eq_true rfl) rfl rfl ?_
    refine g_dup C 330 at_329 rfl rfl ?_
    refine g_iconst C 331 (2 : Int32) at_330 rfl rfl ?_
    refine g_iloadN C 332 at_331 rfl rfl ?_
    refine g_iconst C 333 (2 : Int32) at_332 rfl rfl ?_
    refine g_static C 336 3 (argsL := [(.int x1), (.int (2 : Int32))]) (St := [(.int (2 : Int32)), (.ref ab), (.ref ab)]) (con_f_small l Z a0 C.2.2.1 h0 [(kc, IA Z .int (ints (own_c (P3 ++ R1 ++ R2)))), (kv, DA Z (own_v (P3 ++ R1 ++ R2))), (ks, IA Z .int (ints [(0 : Int32), (Int32.ofNat P3.length), (Int32.ofNat (P3 ++ R1).length), (Int32.ofNat (P3 ++ R1 ++ R2).length)])), (p1, OB Z a0 "com/example/libplanar/libplanar/SparseMatrix" [("com/example/libplanar/libplanar/SparseMatrix", "rows", "I", (.int nQ)), ("com/example/libplanar/libplanar/SparseMatrix", "columnCount", "I", (.int nQ)), ("com/example/libplanar/libplanar/SparseMatrix", "rowStart", "[I", (.ref ks)), ("com/example/libplanar/libplanar/SparseMatrix", "columns", "[I", (.ref kc)), ("com/example/libplanar/libplanar/SparseMatrix", "values", "[D", (.ref kv))]), (ab, DA Z [(f_small x1 (0 : Int32)), (f_small x1 (1 : Int32)), (0 : UInt64)])] x1 (2 : Int32)) (List.mem_of_getElem? (i := 32) rfl) (List.mem_of_getElem? (i := 33) rfl) (List.mem_of_getElem? (i := 4) rfl) (List.mem_of_getElem? (i := 34) rfl) (by decide) at_333 rfl rfl (lenOf (ps := [.int, .int]) (r := some .double) (by decide) rfl) rfl (Nat.le_of_eq rfl) (by decide) (by decide) (by decide) (by decide) ?_
    rintro _ _ ⟨rfl, rfl⟩
    show Go _ _ _ _ _ _ _ _ _ _ _ _ [(kc, IA Z .int (ints (own_c (P3 ++ R1 ++ R2)))), (kv, DA Z (own_v (P3 ++ R1 ++ R2))), (ks, IA Z .int (ints [(0 : Int32), (Int32.ofNat P3.length), (Int32.ofNat (P3 ++ R1).length), (Int32.ofNat (P3 ++ R1 ++ R2).length)])), (p1, OB Z a0 "com/example/libplanar/libplanar/SparseMatrix" [("com/example/libplanar/libplanar/SparseMatrix", "rows", "I", (.int nQ)), ("com/example/libplanar/libplanar/SparseMatrix", "columnCount", "I", (.int nQ)), ("com/example/libplanar/libplanar/SparseMatrix", "rowStart", "[I", (.ref ks)), ("com/example/libplanar/libplanar/SparseMatrix", "columns", "[I", (.ref kc)), ("com/example/libplanar/libplanar/SparseMatrix", "values", "[D", (.ref kv))]), (ab, DA Z [(f_small x1 (0 : Int32)), (f_small x1 (1 : Int32)), (0 : UInt64)])] 5 30 336 #[.val (.long x0), .second, .val (.int x1), .val (.int x2), .val (.int x3), .val (.int nQ), .val (.int j2), .val (.ref kc), .val (.ref kv), .val (.ref ks), .val (.int (Int32.ofNat (P3 ++ R1 ++ R2).length)), .val (.ref p1), .unset, .unset, .unset, .unset] [(.double (f_small x1 (2 : Int32))), (.int (2 : Int32)), (.ref ab), (.ref ab)]
    refine g_dastore C 337 (i := 4) [(f_small x1 (0 : Int32)), (f_small x1 (1 : Int32)), (f_small x1 (2 : Int32))] [(kc, IA Z .int (ints (own_c (P3 ++ R1 ++ R2)))), (kv, DA Z (own_v (P3 ++ R1 ++ R2))), (ks, IA Z .int (ints [(0 : Int32), (Int32.ofNat P3.length), (Int32.ofNat (P3 ++ R1).length), (Int32.ofNat (P3 ++ R1 ++ R2).length)])), (p1, OB Z a0 "com/example/libplanar/libplanar/SparseMatrix" [("com/example/libplanar/libplanar/SparseMatrix", "rows", "I", (.int nQ)), ("com/example/libplanar/libplanar/SparseMatrix", "columnCount", "I", (.int nQ)), ("com/example/libplanar/libplanar/SparseMatrix", "rowStart", "[I", (.ref ks)), ("com/example/libplanar/libplanar/SparseMatrix", "columns", "[I", (.ref kc)), ("com/example/libplanar/libplanar/SparseMatrix", "values", "[D", (.ref kv))]), (ab, DA Z [(f_small x1 (0 : Int32)), (f_small x1 (1 : Int32)), (f_small x1 (2 : Int32))])] rfl at_336 rfl (by decide) (Nat.le_of_ble_eq_true rfl) rfl rfl ?_
    refine g_astore C 339 #[.val (.long x0), .second, .val (.int x1), .val (.int x2), .val (.int x3), .val (.int nQ), .val (.int j2), .val (.ref kc), .val (.ref kv), .val (.ref ks), .val (.int (Int32.ofNat (P3 ++ R1 ++ R2).length)), .val (.ref p1), .val (.ref ab), .unset, .unset, .unset] at_337 rfl rfl rfl ?_
    refine g_iconst C 340 (3 : Int32) at_339 rfl rfl ?_
    refine g_newarrayD C 342 [(0 : UInt64), (0 : UInt64), (0 : UInt64)] 3 (List.mem_of_getElem? (i := 1) rfl) at_340 rfl (by decide) (by decide) (by decide) (by decide) (by decide) rfl ?_
    intro ax
    show Go _ _ _ _ _ _ _ _ _ _ _ _ [(kc, IA Z .int (ints (own_c (P3 ++ R1 ++ R2)))), (kv, DA Z (own_v (P3 ++ R1 ++ R2))), (ks, IA Z .int (ints [(0 : Int32), (Int32.ofNat P3.length), (Int32.ofNat (P3 ++ R1).length), (Int32.ofNat (P3 ++ R1 ++ R2).length)])), (p1, OB Z a0 "com/example/libplanar/libplanar/SparseMatrix" [("com/example/libplanar/libplanar/SparseMatrix", "rows", "I", (.int nQ)), ("com/example/libplanar/libplanar/SparseMatrix", "columnCount", "I", (.int nQ)), ("com/example/libplanar/libplanar/SparseMatrix", "rowStart", "[I", (.ref ks)), ("com/example/libplanar/libplanar/SparseMatrix", "columns", "[I", (.ref kc)), ("com/example/libplanar/libplanar/SparseMatrix", "values", "[D", (.ref kv))]), (ab, DA Z [(f_small x1 (0 : Int32)), (f_small x1 (1 : Int32)), (f_small x1 (2 : Int32))]), (ax, DA Z [(0 : UInt64), (0 : UInt64), (0 : UInt64)])] 6 33 342 #[.val (.long x0), .second, .val (.int x1), .val (.int x2), .val (.int x3), .val (.int nQ), .val (.int j2), .val (.ref kc), .val (.ref kv), .val (.ref ks), .val (.int (Int32.ofNat (P3 ++ R1 ++ R2).length)), .val (.ref p1), .val (.ref ab), .unset, .unset, .unset] [(.ref ax)]
    refine g_dup C 343 at_342 rfl rfl ?_
    refine g_iconst C 344 (0 : Int32) at_343 rfl rfl ?_
    refine g_iloadN C 345 at_344 rfl rfl ?_
    refine g_iconst C 346 (3 : Int32) at_345 rfl rfl ?_
    refine g_static C 349 3 (argsL := [(.int x1), (.int (3 : Int32))]) (St := [(.int (0 : Int32)), (.ref ax), (.ref ax)]) (con_f_small l Z a0 C.2.2.1 h0 [(kc, IA Z .int (ints (own_c (P3 ++ R1 ++ R2)))), (kv, DA Z (own_v (P3 ++ R1 ++ R2))), (ks, IA Z .int (ints [(0 : Int32), (Int32.ofNat P3.length), (Int32.ofNat (P3 ++ R1).length), (Int32.ofNat (P3 ++ R1 ++ R2).length)])), (p1, OB Z a0 "com/example/libplanar/libplanar/SparseMatrix" [("com/example/libplanar/libplanar/SparseMatrix", "rows", "I", (.int nQ)), ("com/example/libplanar/libplanar/SparseMatrix", "columnCount", "I", (.int nQ)), ("com/example/libplanar/libplanar/SparseMatrix", "rowStart", "[I", (.ref ks)), ("com/example/libplanar/libplanar/SparseMatrix", "columns", "[I", (.ref kc)), ("com/example/libplanar/libplanar/SparseMatrix", "values", "[D", (.ref kv))]), (ab, DA Z [(f_small x1 (0 : Int32)), (f_small x1 (1 : Int32)), (f_small x1 (2 : Int32))]), (ax, DA Z [(0 : UInt64), (0 : UInt64), (0 : UInt64)])] x1 (3 : Int32)) (List.mem_of_getElem? (i := 32) rfl) (List.mem_of_getElem? (i := 33) rfl) (List.mem_of_getElem? (i := 4) rfl) (List.mem_of_getElem? (i := 34) rfl) (by decide) at_346 rfl rfl (lenOf (ps := [.int, .int]) (r := some .double) (by decide) rfl) rfl (Nat.le_of_eq rfl) (by decide) (by decide) (by decide) (by decide) ?_
    rintro _ _ ⟨rfl, rfl⟩
    show Go _ _ _ _ _ _ _ _ _ _ _ _ [(kc, IA Z .int (ints (own_c (P3 ++ R1 ++ R2)))), (kv, DA Z (own_v (P3 ++ R1 ++ R2))), (ks, IA Z .int (ints [(0 : Int32), (Int32.ofNat P3.length), (Int32.ofNat (P3 ++ R1).length), (Int32.ofNat (P3 ++ R1 ++ R2).length)])), (p1, OB Z a0 "com/example/libplanar/libplanar/SparseMatrix" [("com/example/libplanar/libplanar/SparseMatrix", "rows", "I", (.int nQ)), ("com/example/libplanar/libplanar/SparseMatrix", "columnCount", "I", (.int nQ)), ("com/example/libplanar/libplanar/SparseMatrix", "rowStart", "[I", (.ref ks)), ("com/example/libplanar/libplanar/SparseMatrix", "columns", "[I", (.ref kc)), ("com/example/libplanar/libplanar/SparseMatrix", "values", "[D", (.ref kv))]), (ab, DA Z [(f_small x1 (0 : Int32)), (f_small x1 (1 : Int32)), (f_small x1 (2 : Int32))]), (ax, DA Z [(0 : UInt64), (0 : UInt64), (0 : UInt64)])] 6 33 349 #[.val (.long x0), .second, .val (.int x1), .val (.int x2), .val (.int x3), .val (.int nQ), .val (.int j2), .val (.ref kc), .val (.ref kv), .val (.ref ks), .val (.int (Int32.ofNat (P3 ++ R1 ++ R2).length)), .val (.ref p1), .val (.ref ab), .unset, .unset, .unset] [(.double (f_small x1 (3 : Int32))), (.int (0 : Int32)), (.ref ax), (.ref ax)]
    refine g_dastore C 350 (i := 5) [(f_small x1 (3 : Int32)), (0 : UInt64), (0 : UInt64)] [(kc, IA Z .int (ints (own_c (P3 ++ R1 ++ R2)))), (kv, DA Z (own_v (P3 ++ R1 ++ R2))), (ks, IA Z .int (ints [(0 : Int32), (Int32.ofNat P3.length), (Int32.ofNat (P3 ++ R1).length), (Int32.ofNat (P3 ++ R1 ++ R2).length)])), (p1, OB Z a0 "com/example/libplanar/libplanar/SparseMatrix" [("com/example/libplanar/libplanar/SparseMatrix", "rows", "I", (.int nQ)), ("com/example/libplanar/libplanar/SparseMatrix", "columnCount", "I", (.int nQ)), ("com/example/libplanar/libplanar/SparseMatrix", "rowStart", "[I", (.ref ks)), ("com/example/libplanar/libplanar/SparseMatrix", "columns", "[I", (.ref kc)), ("com/example/libplanar/libplanar/SparseMatrix", "values", "[D", (.ref kv))]), (ab, DA Z [(f_small x1 (0 : Int32)), (f_small x1 (1 : Int32)), (f_small x1 (2 : Int32))]), (ax, DA Z [(f_small x1 (3 : Int32)), (0 : UInt64), (0 : UInt64)])] rfl at_349 rfl (by decide) (Nat.le_of_ble_eq_true rfl) rfl rfl ?_
    refine g_dup C 351 at_350 rfl rfl ?_
    refine g_iconst C 352 (1 : Int32) at_351 rfl rfl ?_
    refine g_iloadN C 353 at_352 rfl rfl ?_
    refine g_iconst C 354 (4 : Int32) at_353 rfl rfl ?_
    refine g_static C 357 3 (argsL := [(.int x1), (.int (4 : Int32))]) (St := [(.int (1 : Int32)), (.ref ax), (.ref ax)]) (con_f_small l Z a0 C.2.2.1 h0 [(kc, IA Z .int (ints (own_c (P3 ++ R1 ++ R2)))), (kv, DA Z (own_v (P3 ++ R1 ++ R2))), (ks, IA Z .int (ints [(0 : Int32), (Int32.ofNat P3.length), (Int32.ofNat (P3 ++ R1).length), (Int32.ofNat (P3 ++ R1 ++ R2).length)])), (p1, OB Z a0 "com/example/libplanar/libplanar/SparseMatrix" [("com/example/libplanar/libplanar/SparseMatrix", "rows", "I", (.int nQ)), ("com/example/libplanar/libplanar/SparseMatrix", "columnCount", "I", (.int nQ)), ("com/example/libplanar/libplanar/SparseMatrix", "rowStart", "[I", (.ref ks)), ("com/example/libplanar/libplanar/SparseMatrix", "columns", "[I", (.ref kc)), ("com/example/libplanar/libplanar/SparseMatrix", "values", "[D", (.ref kv))]), (ab, DA Z [(f_small x1 (0 : Int32)), (f_small x1 (1 : Int32)), (f_small x1 (2 : Int32))]), (ax, DA Z [(f_small x1 (3 : Int32)), (0 : UInt64), (0 : UInt64)])] x1 (4 : Int32)) (List.mem_of_getElem? (i := 32) rfl) (List.mem_of_getElem? (i := 33) rfl) (List.mem_of_getElem? (i := 4) rfl) (List.mem_of_getElem? (i := 34) rfl) (by decide) at_354 rfl rfl (lenOf (ps := [.int, .int]) (r := some .double) (by decide) rfl) rfl (Nat.le_of_eq rfl) (by decide) (by decide) (by decide) (by decide) ?_
    rintro _ _ ⟨rfl, rfl⟩
    show Go _ _ _ _ _ _ _ _ _ _ _ _ [(kc, IA Z .int (ints (own_c (P3 ++ R1 ++ R2)))), (kv, DA Z (own_v (P3 ++ R1 ++ R2))), (ks, IA Z .int (ints [(0 : Int32), (Int32.ofNat P3.length), (Int32.ofNat (P3 ++ R1).length), (Int32.ofNat (P3 ++ R1 ++ R2).length)])), (p1, OB Z a0 "com/example/libplanar/libplanar/SparseMatrix" [("com/example/libplanar/libplanar/SparseMatrix", "rows", "I", (.int nQ)), ("com/example/libplanar/libplanar/SparseMatrix", "columnCount", "I", (.int nQ)), ("com/example/libplanar/libplanar/SparseMatrix", "rowStart", "[I", (.ref ks)), ("com/example/libplanar/libplanar/SparseMatrix", "columns", "[I", (.ref kc)), ("com/example/libplanar/libplanar/SparseMatrix", "values", "[D", (.ref kv))]), (ab, DA Z [(f_small x1 (0 : Int32)), (f_small x1 (1 : Int32)), (f_small x1 (2 : Int32))]), (ax, DA Z [(f_small x1 (3 : Int32)), (0 : UInt64), (0 : UInt64)])] 6 33 357 #[.val (.long x0), .second, .val (.int x1), .val (.int x2), .val (.int x3), .val (.int nQ), .val (.int j2), .val (.ref kc), .val (.ref kv), .val (.ref ks), .val (.int (Int32.ofNat (P3 ++ R1 ++ R2).length)), .val (.ref p1), .val (.ref ab), .unset, .unset, .unset] [(.double (f_small x1 (4 : Int32))), (.int (1 : Int32)), (.ref ax), (.ref ax)]
    refine g_dastore C 358 (i := 5) [(f_small x1 (3 : Int32)), (f_small x1 (4 : Int32)), (0 : UInt64)] [(kc, IA Z .int (ints (own_c (P3 ++ R1 ++ R2)))), (kv, DA Z (own_v (P3 ++ R1 ++ R2))), (ks, IA Z .int (ints [(0 : Int32), (Int32.ofNat P3.length), (Int32.ofNat (P3 ++ R1).length), (Int32.ofNat (P3 ++ R1 ++ R2).length)])), (p1, OB Z a0 "com/example/libplanar/libplanar/SparseMatrix" [("com/example/libplanar/libplanar/SparseMatrix", "rows", "I", (.int nQ)), ("com/example/libplanar/libplanar/SparseMatrix", "columnCount", "I", (.int nQ)), ("com/example/libplanar/libplanar/SparseMatrix", "rowStart", "[I", (.ref ks)), ("com/example/libplanar/libplanar/SparseMatrix", "columns", "[I", (.ref kc)), ("com/example/libplanar/libplanar/SparseMatrix", "values", "[D", (.ref kv))]), (ab, DA Z [(f_small x1 (0 : Int32)), (f_small x1 (1 : Int32)), (f_small x1 (2 : Int32))]), (ax, DA Z [(f_small x1 (3 : Int32)), (f_small x1 (4 : Int32)), (0 : UInt64)])] rfl at_357 rfl (by decide) (Nat.le_of_ble_eq_true rfl) rfl rfl ?_
    refine g_dup C 359 at_358 rfl rfl ?_
    refine g_iconst C 360 (2 : Int32) at_359 rfl rfl ?_
    refine g_iloadN C 361 at_360 rfl rfl ?_
    refine g_iconst C 362 (5 : Int32) at_361 rfl rfl ?_
    refine g_static C 365 3 (argsL := [(.int x1), (.int (5 : Int32))]) (St := [(.int (2 : Int32)), (.ref ax), (.ref ax)]) (con_f_small l Z a0 C.2.2.1 h0 [(kc, IA Z .int (ints (own_c (P3 ++ R1 ++ R2)))), (kv, DA Z (own_v (P3 ++ R1 ++ R2))), (ks, IA Z .int (ints [(0 : Int32), (Int32.ofNat P3.length), (Int32.ofNat (P3 ++ R1).length), (Int32.ofNat (P3 ++ R1 ++ R2).length)])), (p1, OB Z a0 "com/example/libplanar/libplanar/SparseMatrix" [("com/example/libplanar/libplanar/SparseMatrix", "rows", "I", (.int nQ)), ("com/example/libplanar/libplanar/SparseMatrix", "columnCount", "I", (.int nQ)), ("com/example/libplanar/libplanar/SparseMatrix", "rowStart", "[I", (.ref ks)), ("com/example/libplanar/libplanar/SparseMatrix", "columns", "[I", (.ref kc)), ("com/example/libplanar/libplanar/SparseMatrix", "values", "[D", (.ref kv))]), (ab, DA Z [(f_small x1 (0 : Int32)), (f_small x1 (1 : Int32)), (f_small x1 (2 : Int32))]), (ax, DA Z [(f_small x1 (3 : Int32)), (f_small x1 (4 : Int32)), (0 : UInt64)])] x1 (5 : Int32)) (List.mem_of_getElem? (i := 32) rfl) (List.mem_of_getElem? (i := 33) rfl) (List.mem_of_getElem? (i := 4) rfl) (List.mem_of_getElem? (i := 34) rfl) (by decide) at_362 rfl rfl (lenOf (ps := [.int, .int]) (r := some .double) (by decide) rfl) rfl (Nat.le_of_eq rfl) (by decide) (by decide) (by decide) (by decide) ?_
    rintro _ _ ⟨rfl, rfl⟩
    show Go _ _ _ _ _ _ _ _ _ _ _ _ [(kc, IA Z .int (ints (own_c (P3 ++ R1 ++ R2)))), (kv, DA Z (own_v (P3 ++ R1 ++ R2))), (ks, IA Z .int (ints [(0 : Int32), (Int32.ofNat P3.length), (Int32.ofNat (P3 ++ R1).length), (Int32.ofNat (P3 ++ R1 ++ R2).length)])), (p1, OB Z a0 "com/example/libplanar/libplanar/SparseMatrix" [("com/example/libplanar/libplanar/SparseMatrix", "rows", "I", (.int nQ)), ("com/example/libplanar/libplanar/SparseMatrix", "columnCount", "I", (.int nQ)), ("com/example/libplanar/libplanar/SparseMatrix", "rowStart", "[I", (.ref ks)), ("com/example/libplanar/libplanar/SparseMatrix", "columns", "[I", (.ref kc)), ("com/example/libplanar/libplanar/SparseMatrix", "values", "[D", (.ref kv))]), (ab, DA Z [(f_small x1 (0 : Int32)), (f_small x1 (1 : Int32)), (f_small x1 (2 : Int32))]), (ax, DA Z [(f_small x1 (3 : Int32)), (f_small x1 (4 : Int32)), (0 : UInt64)])] 6 33 365 #[.val (.long x0), .second, .val (.int x1), .val (.int x2), .val (.int x3), .val (.int nQ), .val (.int j2), .val (.ref kc), .val (.ref kv), .val (.ref ks), .val (.int (Int32.ofNat (P3 ++ R1 ++ R2).length)), .val (.ref p1), .val (.ref ab), .unset, .unset, .unset] [(.double (f_small x1 (5 : Int32))), (.int (2 : Int32)), (.ref ax), (.ref ax)]
    refine g_dastore C 366 (i := 5) [(f_small x1 (3 : Int32)), (f_small x1 (4 : Int32)), (f_small x1 (5 : Int32))] [(kc, IA Z .int (ints (own_c (P3 ++ R1 ++ R2)))), (kv, DA Z (own_v (P3 ++ R1 ++ R2))), (ks, IA Z .int (ints [(0 : Int32), (Int32.ofNat P3.length), (Int32.ofNat (P3 ++ R1).length), (Int32.ofNat (P3 ++ R1 ++ R2).length)])), (p1, OB Z a0 "com/example/libplanar/libplanar/SparseMatrix" [("com/example/libplanar/libplanar/SparseMatrix", "rows", "I", (.int nQ)), ("com/example/libplanar/libplanar/SparseMatrix", "columnCount", "I", (.int nQ)), ("com/example/libplanar/libplanar/SparseMatrix", "rowStart", "[I", (.ref ks)), ("com/example/libplanar/libplanar/SparseMatrix", "columns", "[I", (.ref kc)), ("com/example/libplanar/libplanar/SparseMatrix", "values", "[D", (.ref kv))]), (ab, DA Z [(f_small x1 (0 : Int32)), (f_small x1 (1 : Int32)), (f_small x1 (2 : Int32))]), (ax, DA Z [(f_small x1 (3 : Int32)), (f_small x1 (4 : Int32)), (f_small x1 (5 : Int32))])] rfl at_365 rfl (by decide) (Nat.le_of_ble_eq_true rfl) rfl rfl ?_
    refine g_astore C 368 #[.val (.long x0), .second, .val (.int x1), .val (.int x2), .val (.int x3), .val (.int nQ), .val (.int j2), .val (.ref kc), .val (.ref kv), .val (.ref ks), .val (.int (Int32.ofNat (P3 ++ R1 ++ R2).length)), .val (.ref p1), .val (.ref ab), .val (.ref ax), .unset, .unset] at_366 rfl rfl rfl ?_
    refine g_iconst C 369 (3 : Int32) at_368 rfl rfl ?_
    refine g_newarrayD C 371 [(0 : UInt64), (0 : UInt64), (0 : UInt64)] 3 (List.mem_of_getElem? (i := 1) rfl) at_369 rfl (by decide) (by decide) (by decide) (by decide) (by decide) rfl ?_
    intro ay
    show Go _ _ _ _ _ _ _ _ _ _ _ _ [(kc, IA Z .int (ints (own_c (P3 ++ R1 ++ R2)))), (kv, DA Z (own_v (P3 ++ R1 ++ R2))), (ks, IA Z .int (ints [(0 : Int32), (Int32.ofNat P3.length), (Int32.ofNat (P3 ++ R1).length), (Int32.ofNat (P3 ++ R1 ++ R2).length)])), (p1, OB Z a0 "com/example/libplanar/libplanar/SparseMatrix" [("com/example/libplanar/libplanar/SparseMatrix", "rows", "I", (.int nQ)), ("com/example/libplanar/libplanar/SparseMatrix", "columnCount", "I", (.int nQ)), ("com/example/libplanar/libplanar/SparseMatrix", "rowStart", "[I", (.ref ks)), ("com/example/libplanar/libplanar/SparseMatrix", "columns", "[I", (.ref kc)), ("com/example/libplanar/libplanar/SparseMatrix", "values", "[D", (.ref kv))]), (ab, DA Z [(f_small x1 (0 : Int32)), (f_small x1 (1 : Int32)), (f_small x1 (2 : Int32))]), (ax, DA Z [(f_small x1 (3 : Int32)), (f_small x1 (4 : Int32)), (f_small x1 (5 : Int32))]), (ay, DA Z [(0 : UInt64), (0 : UInt64), (0 : UInt64)])] 7 36 371 #[.val (.long x0), .second, .val (.int x1), .val (.int x2), .val (.int x3), .val (.int nQ), .val (.int j2), .val (.ref kc), .val (.ref kv), .val (.ref ks), .val (.int (Int32.ofNat (P3 ++ R1 ++ R2).length)), .val (.ref p1), .val (.ref ab), .val (.ref ax), .unset, .unset] [(.ref ay)]
    refine g_dup C 372 at_371 rfl rfl ?_
    refine g_iconst C 373 (0 : Int32) at_372 rfl rfl ?_
    refine g_iloadN C 374 at_373 rfl rfl ?_
    refine g_iconst C 375 (3 : Int32) at_374 rfl rfl ?_
    refine g_static C 378 3 (argsL := [(.int x1), (.int (3 : Int32))]) (St := [(.int (0 : Int32)), (.ref ay), (.ref ay)]) (con_f_small l Z a0 C.2.2.1 h0 [(kc, IA Z .int (ints (own_c (P3 ++ R1 ++ R2)))), (kv, DA Z (own_v (P3 ++ R1 ++ R2))), (ks, IA Z .int (ints [(0 : Int32), (Int32.ofNat P3.length), (Int32.ofNat (P3 ++ R1).length), (Int32.ofNat (P3 ++ R1 ++ R2).length)])), (p1, OB Z a0 "com/example/libplanar/libplanar/SparseMatrix" [("com/example/libplanar/libplanar/SparseMatrix", "rows", "I", (.int nQ)), ("com/example/libplanar/libplanar/SparseMatrix", "columnCount", "I", (.int nQ)), ("com/example/libplanar/libplanar/SparseMatrix", "rowStart", "[I", (.ref ks)), ("com/example/libplanar/libplanar/SparseMatrix", "columns", "[I", (.ref kc)), ("com/example/libplanar/libplanar/SparseMatrix", "values", "[D", (.ref kv))]), (ab, DA Z [(f_small x1 (0 : Int32)), (f_small x1 (1 : Int32)), (f_small x1 (2 : Int32))]), (ax, DA Z [(f_small x1 (3 : Int32)), (f_small x1 (4 : Int32)), (f_small x1 (5 : Int32))]), (ay, DA Z [(0 : UInt64), (0 : UInt64), (0 : UInt64)])] x1 (3 : Int32)) (List.mem_of_getElem? (i := 32) rfl) (List.mem_of_getElem? (i := 33) rfl) (List.mem_of_getElem? (i := 4) rfl) (List.mem_of_getElem? (i := 34) rfl) (by decide) at_375 rfl rfl (lenOf (ps := [.int, .int]) (r := some .double) (by decide) rfl) rfl (Nat.le_of_eq rfl) (by decide) (by decide) (by decide) (by decide) ?_
    rintro _ _ ⟨rfl, rfl⟩
    show Go _ _ _ _ _ _ _ _ _ _ _ _ [(kc, IA Z .int (ints (own_c (P3 ++ R1 ++ R2)))), (kv, DA Z (own_v (P3 ++ R1 ++ R2))), (ks, IA Z .int (ints [(0 : Int32), (Int32.ofNat P3.length), (Int32.ofNat (P3 ++ R1).length), (Int32.ofNat (P3 ++ R1 ++ R2).length)])), (p1, OB Z a0 "com/example/libplanar/libplanar/SparseMatrix" [("com/example/libplanar/libplanar/SparseMatrix", "rows", "I", (.int nQ)), ("com/example/libplanar/libplanar/SparseMatrix", "columnCount", "I", (.int nQ)), ("com/example/libplanar/libplanar/SparseMatrix", "rowStart", "[I", (.ref ks)), ("com/example/libplanar/libplanar/SparseMatrix", "columns", "[I", (.ref kc)), ("com/example/libplanar/libplanar/SparseMatrix", "values", "[D", (.ref kv))]), (ab, DA Z [(f_small x1 (0 : Int32)), (f_small x1 (1 : Int32)), (f_small x1 (2 : Int32))]), (ax, DA Z [(f_small x1 (3 : Int32)), (f_small x1 (4 : Int32)), (f_small x1 (5 : Int32))]), (ay, DA Z [(0 : UInt64), (0 : UInt64), (0 : UInt64)])] 7 36 378 #[.val (.long x0), .second, .val (.int x1), .val (.int x2), .val (.int x3), .val (.int nQ), .val (.int j2), .val (.ref kc), .val (.ref kv), .val (.ref ks), .val (.int (Int32.ofNat (P3 ++ R1 ++ R2).length)), .val (.ref p1), .val (.ref ab), .val (.ref ax), .unset, .unset] [(.double (f_small x1 (3 : Int32))), (.int (0 : Int32)), (.ref ay), (.ref ay)]
    refine g_dastore C 379 (i := 6) [(f_small x1 (3 : Int32)), (0 : UInt64), (0 : UInt64)] [(kc, IA Z .int (ints (own_c (P3 ++ R1 ++ R2)))), (kv, DA Z (own_v (P3 ++ R1 ++ R2))), (ks, IA Z .int (ints [(0 : Int32), (Int32.ofNat P3.length), (Int32.ofNat (P3 ++ R1).length), (Int32.ofNat (P3 ++ R1 ++ R2).length)])), (p1, OB Z a0 "com/example/libplanar/libplanar/SparseMatrix" [("com/example/libplanar/libplanar/SparseMatrix", "rows", "I", (.int nQ)), ("com/example/libplanar/libplanar/SparseMatrix", "columnCount", "I", (.int nQ)), ("com/example/libplanar/libplanar/SparseMatrix", "rowStart", "[I", (.ref ks)), ("com/example/libplanar/libplanar/SparseMatrix", "columns", "[I", (.ref kc)), ("com/example/libplanar/libplanar/SparseMatrix", "values", "[D", (.ref kv))]), (ab, DA Z [(f_small x1 (0 : Int32)), (f_small x1 (1 : Int32)), (f_small x1 (2 : Int32))]), (ax, DA Z [(f_small x1 (3 : Int32)), (f_small x1 (4 : Int32)), (f_small x1 (5 : Int32))]), (ay, DA Z [(f_small x1 (3 : Int32)), (0 : UInt64), (0 : UInt64)])] rfl at_378 rfl (by decide) (Nat.le_of_ble_eq_true rfl) rfl rfl ?_
    refine g_dup C 380 at_379 rfl rfl ?_
    refine g_iconst C 381 (1 : Int32) at_380 rfl rfl ?_
    refine g_iloadN C 382 at_381 rfl rfl ?_
    refine g_iconst C 383 (4 : Int32) at_382 rfl rfl ?_
    refine g_static C 386 3 (argsL := [(.int x1), (.int (4 : Int32))]) (St := [(.int (1 : Int32)), (.ref ay), (.ref ay)]) (con_f_small l Z a0 C.2.2.1 h0 [(kc, IA Z .int (ints (own_c (P3 ++ R1 ++ R2)))), (kv, DA Z (own_v (P3 ++ R1 ++ R2))), (ks, IA Z .int (ints [(0 : Int32), (Int32.ofNat P3.length), (Int32.ofNat (P3 ++ R1).length), (Int32.ofNat (P3 ++ R1 ++ R2).length)])), (p1, OB Z a0 "com/example/libplanar/libplanar/SparseMatrix" [("com/example/libplanar/libplanar/SparseMatrix", "rows", "I", (.int nQ)), ("com/example/libplanar/libplanar/SparseMatrix", "columnCount", "I", (.int nQ)), ("com/example/libplanar/libplanar/SparseMatrix", "rowStart", "[I", (.ref ks)), ("com/example/libplanar/libplanar/SparseMatrix", "columns", "[I", (.ref kc)), ("com/example/libplanar/libplanar/SparseMatrix", "values", "[D", (.ref kv))]), (ab, DA Z [(f_small x1 (0 : Int32)), (f_small x1 (1 : Int32)), (f_small x1 (2 : Int32))]), (ax, DA Z [(f_small x1 (3 : Int32)), (f_small x1 (4 : Int32)), (f_small x1 (5 : Int32))]), (ay, DA Z [(f_small x1 (3 : Int32)), (0 : UInt64), (0 : UInt64)])] x1 (4 : Int32)) (List.mem_of_getElem? (i := 32) rfl) (List.mem_of_getElem? (i := 33) rfl) (List.mem_of_getElem? (i := 4) rfl) (List.mem_of_getElem? (i := 34) rfl) (by decide) at_383 rfl rfl (lenOf (ps := [.int, .int]) (r := some .double) (by decide) rfl) rfl (Nat.le_of_eq rfl) (by decide) (by decide) (by decide) (by decide) ?_
    rintro _ _ ⟨rfl, rfl⟩
    show Go _ _ _ _ _ _ _ _ _ _ _ _ [(kc, IA Z .int (ints (own_c (P3 ++ R1 ++ R2)))), (kv, DA Z (own_v (P3 ++ R1 ++ R2))), (ks, IA Z .int (ints [(0 : Int32), (Int32.ofNat P3.length), (Int32.ofNat (P3 ++ R1).length), (Int32.ofNat (P3 ++ R1 ++ R2).length)])), (p1, OB Z a0 "com/example/libplanar/libplanar/SparseMatrix" [("com/example/libplanar/libplanar/SparseMatrix", "rows", "I", (.int nQ)), ("com/example/libplanar/libplanar/SparseMatrix", "columnCount", "I", (.int nQ)), ("com/example/libplanar/libplanar/SparseMatrix", "rowStart", "[I", (.ref ks)), ("com/example/libplanar/libplanar/SparseMatrix", "columns", "[I", (.ref kc)), ("com/example/libplanar/libplanar/SparseMatrix", "values", "[D", (.ref kv))]), (ab, DA Z [(f_small x1 (0 : Int32)), (f_small x1 (1 : Int32)), (f_small x1 (2 : Int32))]), (ax, DA Z [(f_small x1 (3 : Int32)), (f_small x1 (4 : Int32)), (f_small x1 (5 : Int32))]), (ay, DA Z [(f_small x1 (3 : Int32)), (0 : UInt64), (0 : UInt64)])] 7 36 386 #[.val (.long x0), .second, .val (.int x1), .val (.int x2), .val (.int x3), .val (.int nQ), .val (.int j2), .val (.ref kc), .val (.ref kv), .val (.ref ks), .val (.int (Int32.ofNat (P3 ++ R1 ++ R2).length)), .val (.ref p1), .val (.ref ab), .val (.ref ax), .unset, .unset] [(.double (f_small x1 (4 : Int32))), (.int (1 : Int32)), (.ref ay), (.ref ay)]
    refine g_dastore C 387 (i := 6) [(f_small x1 (3 : Int32)), (f_small x1 (4 : Int32)), (0 : UInt64)] [(kc, IA Z .int (ints (own_c (P3 ++ R1 ++ R2)))), (kv, DA Z (own_v (P3 ++ R1 ++ R2))), (ks, IA Z .int (ints [(0 : Int32), (Int32.ofNat P3.length), (Int32.ofNat (P3 ++ R1).length), (Int32.ofNat (P3 ++ R1 ++ R2).length)])), (p1, OB Z a0 "com/example/libplanar/libplanar/SparseMatrix" [("com/example/libplanar/libplanar/SparseMatrix", "rows", "I", (.int nQ)), ("com/example/libplanar/libplanar/SparseMatrix", "columnCount", "I", (.int nQ)), ("com/example/libplanar/libplanar/SparseMatrix", "rowStart", "[I", (.ref ks)), ("com/example/libplanar/libplanar/SparseMatrix", "columns", "[I", (.ref kc)), ("com/example/libplanar/libplanar/SparseMatrix", "values", "[D", (.ref kv))]), (ab, DA Z [(f_small x1 (0 : Int32)), (f_small x1 (1 : Int32)), (f_small x1 (2 : Int32))]), (ax, DA Z [(f_small x1 (3 : Int32)), (f_small x1 (4 : Int32)), (f_small x1 (5 : Int32))]), (ay, DA Z [(f_small x1 (3 : Int32)), (f_small x1 (4 : Int32)), (0 : UInt64)])] rfl at_386 rfl (by decide) (Nat.le_of_ble_eq_true rfl) rfl rfl ?_
    refine g_dup C 388 at_387 rfl rfl ?_
    refine g_iconst C 389 (2 : Int32) at_388 rfl rfl ?_
    refine g_iloadN C 390 at_389 rfl rfl ?_
    refine g_iconst C 391 (5 : Int32) at_390 rfl rfl ?_
    refine g_static C 394 3 (argsL := [(.int x1), (.int (5 : Int32))]) (St := [(.int (2 : Int32)), (.ref ay), (.ref ay)]) (con_f_small l Z a0 C.2.2.1 h0 [(kc, IA Z .int (ints (own_c (P3 ++ R1 ++ R2)))), (kv, DA Z (own_v (P3 ++ R1 ++ R2))), (ks, IA Z .int (ints [(0 : Int32), (Int32.ofNat P3.length), (Int32.ofNat (P3 ++ R1).length), (Int32.ofNat (P3 ++ R1 ++ R2).length)])), (p1, OB Z a0 "com/example/libplanar/libplanar/SparseMatrix" [("com/example/libplanar/libplanar/SparseMatrix", "rows", "I", (.int nQ)), ("com/example/libplanar/libplanar/SparseMatrix", "columnCount", "I", (.int nQ)), ("com/example/libplanar/libplanar/SparseMatrix", "rowStart", "[I", (.ref ks)), ("com/example/libplanar/libplanar/SparseMatrix", "columns", "[I", (.ref kc)), ("com/example/libplanar/libplanar/SparseMatrix", "values", "[D", (.ref kv))]), (ab, DA Z [(f_small x1 (0 : Int32)), (f_small x1 (1 : Int32)), (f_small x1 (2 : Int32))]), (ax, DA Z [(f_small x1 (3 : Int32)), (f_small x1 (4 : Int32)), (f_small x1 (5 : Int32))]), (ay, DA Z [(f_small x1 (3 : Int32)), (f_small x1 (4 : Int32)), (0 : UInt64)])] x1 (5 : Int32)) (List.mem_of_getElem? (i := 32) rfl) (List.mem_of_getElem? (i := 33) rfl) (List.mem_of_getElem? (i := 4) rfl) (List.mem_of_getElem? (i := 34) rfl) (by decide) at_391 rfl rfl (lenOf (ps := [.int, .int]) (r := some .double) (by decide) rfl) rfl (Nat.le_of_eq rfl) (by decide) (by decide) (by decide) (by decide) ?_
    rintro _ _ ⟨rfl, rfl⟩
    show Go _ _ _ _ _ _ _ _ _ _ _ _ [(kc, IA Z .int (ints (own_c (P3 ++ R1 ++ R2)))), (kv, DA Z (own_v (P3 ++ R1 ++ R2))), (ks, IA Z .int (ints [(0 : Int32), (Int32.ofNat P3.length), (Int32.ofNat (P3 ++ R1).length), (Int32.ofNat (P3 ++ R1 ++ R2).length)])), (p1, OB Z a0 "com/example/libplanar/libplanar/SparseMatrix" [("com/example/libplanar/libplanar/SparseMatrix", "rows", "I", (.int nQ)), ("com/example/libplanar/libplanar/SparseMatrix", "columnCount", "I", (.int nQ)), ("com/example/libplanar/libplanar/SparseMatrix", "rowStart", "[I", (.ref ks)), ("com/example/libplanar/libplanar/SparseMatrix", "columns", "[I", (.ref kc)), ("com/example/libplanar/libplanar/SparseMatrix", "values", "[D", (.ref kv))]), (ab, DA Z [(f_small x1 (0 : Int32)), (f_small x1 (1 : Int32)), (f_small x1 (2 : Int32))]), (ax, DA Z [(f_small x1 (3 : Int32)), (f_small x1 (4 : Int32)), (f_small x1 (5 : Int32))]), (ay, DA Z [(f_small x1 (3 : Int32)), (f_small x1 (4 : Int32)), (0 : UInt64)])] 7 36 394 #[.val (.long x0), .second, .val (.int x1), .val (.int x2), .val (.int x3), .val (.int nQ), .val (.int j2), .val (.ref kc), .val (.ref kv), .val (.ref ks), .val (.int (Int32.ofNat (P3 ++ R1 ++ R2).length)), .val (.ref p1), .val (.ref ab), .val (.ref ax), .unset, .unset] [(.double (f_small x1 (5 : Int32))), (.int (2 : Int32)), (.ref ay), (.ref ay)]
    refine g_dastore C 395 (i := 6) [(f_small x1 (3 : Int32)), (f_small x1 (4 : Int32)), (f_small x1 (5 : Int32))] [(kc, IA Z .int (ints (own_c (P3 ++ R1 ++ R2)))), (kv, DA Z (own_v (P3 ++ R1 ++ R2))), (ks, IA Z .int (ints [(0 : Int32), (Int32.ofNat P3.length), (Int32.ofNat (P3 ++ R1).length), (Int32.ofNat (P3 ++ R1 ++ R2).length)])), (p1, OB Z a0 "com/example/libplanar/libplanar/SparseMatrix" [("com/example/libplanar/libplanar/SparseMatrix", "rows", "I", (.int nQ)), ("com/example/libplanar/libplanar/SparseMatrix", "columnCount", "I", (.int nQ)), ("com/example/libplanar/libplanar/SparseMatrix", "rowStart", "[I", (.ref ks)), ("com/example/libplanar/libplanar/SparseMatrix", "columns", "[I", (.ref kc)), ("com/example/libplanar/libplanar/SparseMatrix", "values", "[D", (.ref kv))]), (ab, DA Z [(f_small x1 (0 : Int32)), (f_small x1 (1 : Int32)), (f_small x1 (2 : Int32))]), (ax, DA Z [(f_small x1 (3 : Int32)), (f_small x1 (4 : Int32)), (f_small x1 (5 : Int32))]), (ay, DA Z [(f_small x1 (3 : Int32)), (f_small x1 (4 : Int32)), (f_small x1 (5 : Int32))])] rfl at_394 rfl (by decide) (Nat.le_of_ble_eq_true rfl) rfl rfl ?_
    refine g_astore C 397 #[.val (.long x0), .second, .val (.int x1), .val (.int x2), .val (.int x3), .val (.int nQ), .val (.int j2), .val (.ref kc), .val (.ref kv), .val (.ref ks), .val (.int (Int32.ofNat (P3 ++ R1 ++ R2).length)), .val (.ref p1), .val (.ref ab), .val (.ref ax), .val (.ref ay), .unset] at_395 rfl rfl rfl ?_
    refine g_iconst C 398 (3 : Int32) at_397 rfl rfl ?_
    refine g_newarrayD C 400 [(0 : UInt64), (0 : UInt64), (0 : UInt64)] 3 (List.mem_of_getElem? (i := 1) rfl) at_398 rfl (by decide) (by decide) (by decide) (by decide) (by decide) rfl ?_
    intro ag
    show Go _ _ _ _ _ _ _ _ _ _ _ _ [(kc, IA Z .int (ints (own_c (P3 ++ R1 ++ R2)))), (kv, DA Z (own_v (P3 ++ R1 ++ R2))), (ks, IA Z .int (ints [(0 : Int32), (Int32.ofNat P3.length), (Int32.ofNat (P3 ++ R1).length), (Int32.ofNat (P3 ++ R1 ++ R2).length)])), (p1, OB Z a0 "com/example/libplanar/libplanar/SparseMatrix" [("com/example/libplanar/libplanar/SparseMatrix", "rows", "I", (.int nQ)), ("com/example/libplanar/libplanar/SparseMatrix", "columnCount", "I", (.int nQ)), ("com/example/libplanar/libplanar/SparseMatrix", "rowStart", "[I", (.ref ks)), ("com/example/libplanar/libplanar/SparseMatrix", "columns", "[I", (.ref kc)), ("com/example/libplanar/libplanar/SparseMatrix", "values", "[D", (.ref kv))]), (ab, DA Z [(f_small x1 (0 : Int32)), (f_small x1 (1 : Int32)), (f_small x1 (2 : Int32))]), (ax, DA Z [(f_small x1 (3 : Int32)), (f_small x1 (4 : Int32)), (f_small x1 (5 : Int32))]), (ay, DA Z [(f_small x1 (3 : Int32)), (f_small x1 (4 : Int32)), (f_small x1 (5 : Int32))]), (ag, DA Z [(0 : UInt64), (0 : UInt64), (0 : UInt64)])] 8 39 400 #[.val (.long x0), .second, .val (.int x1), .val (.int x2), .val (.int x3), .val (.int nQ), .val (.int j2), .val (.ref kc), .val (.ref kv), .val (.ref ks), .val (.int (Int32.ofNat (P3 ++ R1 ++ R2).length)), .val (.ref p1), .val (.ref ab), .val (.ref ax), .val (.ref ay), .unset] [(.ref ag)]
    refine g_dup C 401 at_400 rfl rfl ?_
    refine g_iconst C 402 (0 : Int32) at_401 rfl rfl ?_
    refine g_iloadN C 403 at_402 rfl rfl ?_
    refine g_iconst C 404 (0 : Int32) at_403 rfl rfl ?_
    refine g_static C 407 3 (argsL := [(.int x2), (.int (0 : Int32))]) (St := [(.int (0 : Int32)), (.ref ag), (.ref ag)]) (con_f_dv l Z a0 C.2.2.1 h0 [(kc, IA Z .int (ints (own_c (P3 ++ R1 ++ R2)))), (kv, DA Z (own_v (P3 ++ R1 ++ R2))), (ks, IA Z .int (ints [(0 : Int32), (Int32.ofNat P3.length), (Int32.ofNat (P3 ++ R1).length), (Int32.ofNat (P3 ++ R1 ++ R2).length)])), (p1, OB Z a0 "com/example/libplanar/libplanar/SparseMatrix" [("com/example/libplanar/libplanar/SparseMatrix", "rows", "I", (.int nQ)), ("com/example/libplanar/libplanar/SparseMatrix", "columnCount", "I", (.int nQ)), ("com/example/libplanar/libplanar/SparseMatrix", "rowStart", "[I", (.ref ks)), ("com/example/libplanar/libplanar/SparseMatrix", "columns", "[I", (.ref kc)), ("com/example/libplanar/libplanar/SparseMatrix", "values", "[D", (.ref kv))]), (ab, DA Z [(f_small x1 (0 : Int32)), (f_small x1 (1 : Int32)), (f_small x1 (2 : Int32))]), (ax, DA Z [(f_small x1 (3 : Int32)), (f_small x1 (4 : Int32)), (f_small x1 (5 : Int32))]), (ay, DA Z [(f_small x1 (3 : Int32)), (f_small x1 (4 : Int32)), (f_small x1 (5 : Int32))]), (ag, DA Z [(0 : UInt64), (0 : UInt64), (0 : UInt64)])] x2 (0 : Int32)) (List.mem_of_getElem? (i := 35) rfl) (List.mem_of_getElem? (i := 36) rfl) (List.mem_of_getElem? (i := 4) rfl) (List.mem_of_getElem? (i := 37) rfl) (by decide) at_404 rfl rfl (lenOf (ps := [.int, .int]) (r := some .double) (by decide) rfl) rfl (Nat.le_of_eq rfl) (by decide) (by decide) (by decide) (by decide) ?_
    rintro _ _ ⟨rfl, rfl⟩
    show Go _ _ _ _ _ _ _ _ _ _ _ _ [(kc, IA Z .int (ints (own_c (P3 ++ R1 ++ R2)))), (kv, DA Z (own_v (P3 ++ R1 ++ R2))), (ks, IA Z .int (ints [(0 : Int32), (Int32.ofNat P3.length), (Int32.ofNat (P3 ++ R1).length), (Int32.ofNat (P3 ++ R1 ++ R2).length)])), (p1, OB Z a0 "com/example/libplanar/libplanar/SparseMatrix" [("com/example/libplanar/libplanar/SparseMatrix", "rows", "I", (.int nQ)), ("com/example/libplanar/libplanar/SparseMatrix", "columnCount", "I", (.int nQ)), ("com/example/libplanar/libplanar/SparseMatrix", "rowStart", "[I", (.ref ks)), ("com/example/libplanar/libplanar/SparseMatrix", "columns", "[I", (.ref kc)), ("com/example/libplanar/libplanar/SparseMatrix", "values", "[D", (.ref kv))]), (ab, DA Z [(f_small x1 (0 : Int32)), (f_small x1 (1 : Int32)), (f_small x1 (2 : Int32))]), (ax, DA Z [(f_small x1 (3 : Int32)), (f_small x1 (4 : Int32)), (f_small x1 (5 : Int32))]), (ay, DA Z [(f_small x1 (3 : Int32)), (f_small x1 (4 : Int32)), (f_small x1 (5 : Int32))]), (ag, DA Z [(0 : UInt64), (0 : UInt64), (0 : UInt64)])] 8 39 407 #[.val (.long x0), .second, .val (.int x1), .val (.int x2), .val (.int x3), .val (.int nQ), .val (.int j2), .val (.ref kc), .val (.ref kv), .val (.ref ks), .val (.int (Int32.ofNat (P3 ++ R1 ++ R2).length)), .val (.ref p1), .val (.ref ab), .val (.ref ax), .val (.ref ay), .unset] [(.double (f_dv x2 (0 : Int32))), (.int (0 : Int32)), (.ref ag), (.ref ag)]
    refine g_dastore C 408 (i := 7) [(f_dv x2 (0 : Int32)), (0 : UInt64), (0 : UInt64)] [(kc, IA Z .int (ints (own_c (P3 ++ R1 ++ R2)))), (kv, DA Z (own_v (P3 ++ R1 ++ R2))), (ks, IA Z .int (ints [(0 : Int32), (Int32.ofNat P3.length), (Int32.ofNat (P3 ++ R1).length), (Int32.ofNat (P3 ++ R1 ++ R2).length)])), (p1, OB Z a0 "com/example/libplanar/libplanar/SparseMatrix" [("com/example/libplanar/libplanar/SparseMatrix", "rows", "I", (.int nQ)), ("com/example/libplanar/libplanar/SparseMatrix", "columnCount", "I", (.int nQ)), ("com/example/libplanar/libplanar/SparseMatrix", "rowStart", "[I", (.ref ks)), ("com/example/libplanar/libplanar/SparseMatrix", "columns", "[I", (.ref kc)), ("com/example/libplanar/libplanar/SparseMatrix", "values", "[D", (.ref kv))]), (ab, DA Z [(f_small x1 (0 : Int32)), (f_small x1 (1 : Int32)), (f_small x1 (2 : Int32))]), (ax, DA Z [(f_small x1 (3 : Int32)), (f_small x1 (4 : Int32)), (f_small x1 (5 : Int32))]), (ay, DA Z [(f_small x1 (3 : Int32)), (f_small x1 (4 : Int32)), (f_small x1 (5 : Int32))]), (ag, DA Z [(f_dv x2 (0 : Int32)), (0 : UInt64), (0 : UInt64)])] rfl at_407 rfl (by decide) (Nat.le_of_ble_eq_true rfl) rfl rfl ?_
    refine g_dup C 409 at_408 rfl rfl ?_
    refine g_iconst C 410 (1 : Int32) at_409 rfl rfl ?_
    refine g_iloadN C 411 at_410 rfl rfl ?_
    refine g_iconst C 412 (1 : Int32) at_411 rfl rfl ?_
    refine g_static C 415 3 (argsL := [(.int x2), (.int (1 : Int32))]) (St := [(.int (1 : Int32)), (.ref ag), (.ref ag)]) (con_f_dv l Z a0 C.2.2.1 h0 [(kc, IA Z .int (ints (own_c (P3 ++ R1 ++ R2)))), (kv, DA Z (own_v (P3 ++ R1 ++ R2))), (ks, IA Z .int (ints [(0 : Int32), (Int32.ofNat P3.length), (Int32.ofNat (P3 ++ R1).length), (Int32.ofNat (P3 ++ R1 ++ R2).length)])), (p1, OB Z a0 "com/example/libplanar/libplanar/SparseMatrix" [("com/example/libplanar/libplanar/SparseMatrix", "rows", "I", (.int nQ)), ("com/example/libplanar/libplanar/SparseMatrix", "columnCount", "I", (.int nQ)), ("com/example/libplanar/libplanar/SparseMatrix", "rowStart", "[I", (.ref ks)), ("com/example/libplanar/libplanar/SparseMatrix", "columns", "[I", (.ref kc)), ("com/example/libplanar/libplanar/SparseMatrix", "values", "[D", (.ref kv))]), (ab, DA Z [(f_small x1 (0 : Int32)), (f_small x1 (1 : Int32)), (f_small x1 (2 : Int32))]), (ax, DA Z [(f_small x1 (3 : Int32)), (f_small x1 (4 : Int32)), (f_small x1 (5 : Int32))]), (ay, DA Z [(f_small x1 (3 : Int32)), (f_small x1 (4 : Int32)), (f_small x1 (5 : Int32))]), (ag, DA Z [(f_dv x2 (0 : Int32)), (0 : UInt64), (0 : UInt64)])] x2 (1 : Int32)) (List.mem_of_getElem? (i := 35) rfl) (List.mem_of_getElem? (i := 36) rfl) (List.mem_of_getElem? (i := 4) rfl) (List.mem_of_getElem? (i := 37) rfl) (by decide) at_412 rfl rfl (lenOf (ps := [.int, .int]) (r := some .double) (by decide) rfl) rfl (Nat.le_of_eq rfl) (by decide) (by decide) (by decide) (by decide) ?_
    rintro _ _ ⟨rfl, rfl⟩
    show Go _ _ _ _ _ _ _ _ _ _ _ _ [(kc, IA Z .int (ints (own_c (P3 ++ R1 ++ R2)))), (kv, DA Z (own_v (P3 ++ R1 ++ R2))), (ks, IA Z .int (ints [(0 : Int32), (Int32.ofNat P3.length), (Int32.ofNat (P3 ++ R1).length), (Int32.ofNat (P3 ++ R1 ++ R2).length)])), (p1, OB Z a0 "com/example/libplanar/libplanar/SparseMatrix" [("com/example/libplanar/libplanar/SparseMatrix", "rows", "I", (.int nQ)), ("com/example/libplanar/libplanar/SparseMatrix", "columnCount", "I", (.int nQ)), ("com/example/libplanar/libplanar/SparseMatrix", "rowStart", "[I", (.ref ks)), ("com/example/libplanar/libplanar/SparseMatrix", "columns", "[I", (.ref kc)), ("com/example/libplanar/libplanar/SparseMatrix", "values", "[D", (.ref kv))]), (ab, DA Z [(f_small x1 (0 : Int32)), (f_small x1 (1 : Int32)), (f_small x1 (2 : Int32))]), (ax, DA Z [(f_small x1 (3 : Int32)), (f_small x1 (4 : Int32)), (f_small x1 (5 : Int32))]), (ay, DA Z [(f_small x1 (3 : Int32)), (f_small x1 (4 : Int32)), (f_small x1 (5 : Int32))]), (ag, DA Z [(f_dv x2 (0 : Int32)), (0 : UInt64), (0 : UInt64)])] 8 39 415 #[.val (.long x0), .second, .val (.int x1), .val (.int x2), .val (.int x3), .val (.int nQ), .val (.int j2), .val (.ref kc), .val (.ref kv), .val (.ref ks), .val (.int (Int32.ofNat (P3 ++ R1 ++ R2).length)), .val (.ref p1), .val (.ref ab), .val (.ref ax), .val (.ref ay), .unset] [(.double (f_dv x2 (1 : Int32))), (.int (1 : Int32)), (.ref ag), (.ref ag)]
    refine g_dastore C 416 (i := 7) [(f_dv x2 (0 : Int32)), (f_dv x2 (1 : Int32)), (0 : UInt64)] [(kc, IA Z .int (ints (own_c (P3 ++ R1 ++ R2)))), (kv, DA Z (own_v (P3 ++ R1 ++ R2))), (ks, IA Z .int (ints [(0 : Int32), (Int32.ofNat P3.length), (Int32.ofNat (P3 ++ R1).length), (Int32.ofNat (P3 ++ R1 ++ R2).length)])), (p1, OB Z a0 "com/example/libplanar/libplanar/SparseMatrix" [("com/example/libplanar/libplanar/SparseMatrix", "rows", "I", (.int nQ)), ("com/example/libplanar/libplanar/SparseMatrix", "columnCount", "I", (.int nQ)), ("com/example/libplanar/libplanar/SparseMatrix", "rowStart", "[I", (.ref ks)), ("com/example/libplanar/libplanar/SparseMatrix", "columns", "[I", (.ref kc)), ("com/example/libplanar/libplanar/SparseMatrix", "values", "[D", (.ref kv))]), (ab, DA Z [(f_small x1 (0 : Int32)), (f_small x1 (1 : Int32)), (f_small x1 (2 : Int32))]), (ax, DA Z [(f_small x1 (3 : Int32)), (f_small x1 (4 : Int32)), (f_small x1 (5 : Int32))]), (ay, DA Z [(f_small x1 (3 : Int32)), (f_small x1 (4 : Int32)), (f_small x1 (5 : Int32))]), (ag, DA Z [(f_dv x2 (0 : Int32)), (f_dv x2 (1 : Int32)), (0 : UInt64)])] rfl at_415 rfl (by decide) (Nat.le_of_ble_eq_true rfl) rfl rfl ?_
    refine g_dup C 417 at_416 rfl rfl ?_
    refine g_iconst C 418 (2 : Int32) at_417 rfl rfl ?_
    refine g_iloadN C 419 at_418 rfl rfl ?_
    refine g_iconst C 420 (2 : Int32) at_419 rfl rfl ?_
    refine g_static C 423 3 (argsL := [(.int x2), (.int (2 : Int32))]) (St := [(.int (2 : Int32)), (.ref ag), (.ref ag)]) (con_f_dv l Z a0 C.2.2.1 h0 [(kc, IA Z .int (ints (own_c (P3 ++ R1 ++ R2)))), (kv, DA Z (own_v (P3 ++ R1 ++ R2))), (ks, IA Z .int (ints [(0 : Int32), (Int32.ofNat P3.length), (Int32.ofNat (P3 ++ R1).length), (Int32.ofNat (P3 ++ R1 ++ R2).length)])), (p1, OB Z a0 "com/example/libplanar/libplanar/SparseMatrix" [("com/example/libplanar/libplanar/SparseMatrix", "rows", "I", (.int nQ)), ("com/example/libplanar/libplanar/SparseMatrix", "columnCount", "I", (.int nQ)), ("com/example/libplanar/libplanar/SparseMatrix", "rowStart", "[I", (.ref ks)), ("com/example/libplanar/libplanar/SparseMatrix", "columns", "[I", (.ref kc)), ("com/example/libplanar/libplanar/SparseMatrix", "values", "[D", (.ref kv))]), (ab, DA Z [(f_small x1 (0 : Int32)), (f_small x1 (1 : Int32)), (f_small x1 (2 : Int32))]), (ax, DA Z [(f_small x1 (3 : Int32)), (f_small x1 (4 : Int32)), (f_small x1 (5 : Int32))]), (ay, DA Z [(f_small x1 (3 : Int32)), (f_small x1 (4 : Int32)), (f_small x1 (5 : Int32))]), (ag, DA Z [(f_dv x2 (0 : Int32)), (f_dv x2 (1 : Int32)), (0 : UInt64)])] x2 (2 : Int32)) (List.mem_of_getElem? (i := 35) rfl) (List.mem_of_getElem? (i := 36) rfl) (List.mem_of_getElem? (i := 4) rfl) (List.mem_of_getElem? (i := 37) rfl) (by decide) at_420 rfl rfl (lenOf (ps := [.int, .int]) (r := some .double) (by decide) rfl) rfl (Nat.le_of_eq rfl) (by decide) (by decide) (by decide) (by decide) ?_
    rintro _ _ ⟨rfl, rfl⟩
    show Go _ _ _ _ _ _ _ _ _ _ _ _ [(kc, IA Z .int (ints (own_c (P3 ++ R1 ++ R2)))), (kv, DA Z (own_v (P3 ++ R1 ++ R2))), (ks, IA Z .int (ints [(0 : Int32), (Int32.ofNat P3.length), (Int32.ofNat (P3 ++ R1).length), (Int32.ofNat (P3 ++ R1 ++ R2).length)])), (p1, OB Z a0 "com/example/libplanar/libplanar/SparseMatrix" [("com/example/libplanar/libplanar/SparseMatrix", "rows", "I", (.int nQ)), ("com/example/libplanar/libplanar/SparseMatrix", "columnCount", "I", (.int nQ)), ("com/example/libplanar/libplanar/SparseMatrix", "rowStart", "[I", (.ref ks)), ("com/example/libplanar/libplanar/SparseMatrix", "columns", "[I", (.ref kc)), ("com/example/libplanar/libplanar/SparseMatrix", "values", "[D", (.ref kv))]), (ab, DA Z [(f_small x1 (0 : Int32)), (f_small x1 (1 : Int32)), (f_small x1 (2 : Int32))]), (ax, DA Z [(f_small x1 (3 : Int32)), (f_small x1 (4 : Int32)), (f_small x1 (5 : Int32))]), (ay, DA Z [(f_small x1 (3 : Int32)), (f_small x1 (4 : Int32)), (f_small x1 (5 : Int32))]), (ag, DA Z [(f_dv x2 (0 : Int32)), (f_dv x2 (1 : Int32)), (0 : UInt64)])] 8 39 423 #[.val (.long x0), .second, .val (.int x1), .val (.int x2), .val (.int x3), .val (.int nQ), .val (.int j2), .val (.ref kc), .val (.ref kv), .val (.ref ks), .val (.int (Int32.ofNat (P3 ++ R1 ++ R2).length)), .val (.ref p1), .val (.ref ab), .val (.ref ax), .val (.ref ay), .unset] [(.double (f_dv x2 (2 : Int32))), (.int (2 : Int32)), (.ref ag), (.ref ag)]
    refine g_dastore C 424 (i := 7) [(f_dv x2 (0 : Int32)), (f_dv x2 (1 : Int32)), (f_dv x2 (2 : Int32))] [(kc, IA Z .int (ints (own_c (P3 ++ R1 ++ R2)))), (kv, DA Z (own_v (P3 ++ R1 ++ R2))), (ks, IA Z .int (ints [(0 : Int32), (Int32.ofNat P3.length), (Int32.ofNat (P3 ++ R1).length), (Int32.ofNat (P3 ++ R1 ++ R2).length)])), (p1, OB Z a0 "com/example/libplanar/libplanar/SparseMatrix" [("com/example/libplanar/libplanar/SparseMatrix", "rows", "I", (.int nQ)), ("com/example/libplanar/libplanar/SparseMatrix", "columnCount", "I", (.int nQ)), ("com/example/libplanar/libplanar/SparseMatrix", "rowStart", "[I", (.ref ks)), ("com/example/libplanar/libplanar/SparseMatrix", "columns", "[I", (.ref kc)), ("com/example/libplanar/libplanar/SparseMatrix", "values", "[D", (.ref kv))]), (ab, DA Z [(f_small x1 (0 : Int32)), (f_small x1 (1 : Int32)), (f_small x1 (2 : Int32))]), (ax, DA Z [(f_small x1 (3 : Int32)), (f_small x1 (4 : Int32)), (f_small x1 (5 : Int32))]), (ay, DA Z [(f_small x1 (3 : Int32)), (f_small x1 (4 : Int32)), (f_small x1 (5 : Int32))]), (ag, DA Z [(f_dv x2 (0 : Int32)), (f_dv x2 (1 : Int32)), (f_dv x2 (2 : Int32))])] rfl at_423 rfl (by decide) (Nat.le_of_ble_eq_true rfl) rfl rfl ?_
    refine g_astore C 426 #[.val (.long x0), .second, .val (.int x1), .val (.int x2), .val (.int x3), .val (.int nQ), .val (.int j2), .val (.ref kc), .val (.ref kv), .val (.ref ks), .val (.int (Int32.ofNat (P3 ++ R1 ++ R2).length)), .val (.ref p1), .val (.ref ab), .val (.ref ax), .val (.ref ay), .val (.ref ag)] at_424 rfl rfl rfl ?_
    obtain rfl | rfl | rfl | rfl := own_n3 hnQ
    · obtain rfl | rfl : j2 = (0 : Int32) ∨ j2 = (1 : Int32) := by rw [hj2]; split; exact Or.inl rfl; exact Or.inr rfl
      · obtain ⟨kb0, Db0, Bb0, Vb0⟩ := own_small x1 (0 : Int32)
        obtain ⟨kb1, Db1, Bb1, Vb1⟩ := own_small x1 (1 : Int32)
        obtain ⟨kb2, Db2, Bb2, Vb2⟩ := own_small x1 (2 : Int32)
        obtain ⟨kx0, Dx0, Bx0, Vx0⟩ := own_small x1 (3 : Int32)
        obtain ⟨kx1, Dx1, Bx1, Vx1⟩ := own_small x1 (4 : Int32)
        obtain ⟨kx2, Dx2, Bx2, Vx2⟩ := own_small x1 (5 : Int32)
        obtain ⟨DD0, Dg0, hD0⟩ := own_dv x2 (0 : Int32)
        obtain ⟨DD1, Dg1, hD1⟩ := own_dv x2 (1 : Int32)
        obtain ⟨DD2, Dg2, hD2⟩ := own_dv x2 (2 : Int32)
        refine g_iload C 428 at_426 rfl rfl ?_
        refine g_ifY C 496 at_428 (teq ((by decide) : (0 : Int32) = (0 : Int32))).1 (by decide) (by decide) ?_
        refine g_iload C 498 at_496 rfl rfl ?_
        refine g_iconst C 499 (2 : Int32) at_498 rfl rfl ?_
        refine g_icY C 517 at_499 (flt ((by decide) : ¬ ((2 : Int32) < (0 : Int32)))).2.2.2 (by decide) (by decide) ?_
        refine g_iload C 519 at_517 rfl rfl ?_
        refine g_iconst C 520 (1 : Int32) at_519 rfl rfl ?_
        refine g_icY C 538 at_520 (flt ((by decide) : ¬ ((1 : Int32) < (0 : Int32)))).2.2.2 (by decide) (by decide) ?_
        refine g_iload C 540 at_538 rfl rfl ?_
        refine g_ifY C 558 at_540 (flt ((by decide) : ¬ ((0 : Int32) < (0 : Int32)))).2.2.2 (by decide) (by decide) ?_
        refine g_aload C 560 at_558 rfl rfl rfl ?_
        refine g_aload C 562 at_560 rfl rfl rfl ?_
        refine g_aload C 564 at_562 rfl rfl rfl ?_
        refine g_aload C 566 at_564 rfl rfl rfl ?_
        refine g_iload C 568 at_566 rfl rfl ?_
        refine g_virtual C 571 0 (i := 3) (argsL := [(.ref ag), (.ref ab), (.ref ax), (.int (0 : Int32))]) (St := []) rfl (con_gs00 l Z a0 C.2.2.1 h0 kc kv ks p1 ab ax ag (ay, DA Z [(f_small x1 (3 : Int32)), (f_small x1 (4 : Int32)), (f_small x1 (5 : Int32))]) P3 R1 R2 (f_small x1 (0 : Int32)) (f_small x1 (1 : Int32)) (f_small x1 (2 : Int32)) (f_small x1 (3 : Int32)) (f_small x1 (4 : Int32)) (f_small x1 (5 : Int32)) (f_dv x2 (0 : Int32)) (f_dv x2 (1 : Int32)) (f_dv x2 (2 : Int32))  hl9 ) (List.mem_of_getElem? (i := 38) rfl) (List.mem_of_getElem? (i := 39) rfl) (List.mem_of_getElem? (i := 41) rfl) (List.mem_of_getElem? (i := 40) rfl) (List.mem_of_getElem? (i := 15) rfl) (List.mem_of_getElem? (i := 42) rfl) (by decide) at_568 rfl rfl (lenOf (ps := [(.array .double), (.array .double), (.array .double), .boolean]) (r := none) (by decide) rfl) rfl (Nat.le_of_eq rfl) (by decide) (by decide) (by decide) (by decide) ?_
        rintro _ _ ⟨rfl, rfl⟩
        show Go _ _ _ _ _ _ _ _ _ _ _ _ [(kc, IA Z .int (ints (own_c (P3 ++ R1 ++ R2)))), (kv, DA Z (own_v (P3 ++ R1 ++ R2))), (ks, IA Z .int (ints [(0 : Int32), (Int32.ofNat P3.length), (Int32.ofNat (P3 ++ R1).length), (Int32.ofNat (P3 ++ R1 ++ R2).length)])), (p1, OB Z a0 "com/example/libplanar/libplanar/SparseMatrix" [("com/example/libplanar/libplanar/SparseMatrix", "rows", "I", (.int (0 : Int32))), ("com/example/libplanar/libplanar/SparseMatrix", "columnCount", "I", (.int (0 : Int32))), ("com/example/libplanar/libplanar/SparseMatrix", "rowStart", "[I", (.ref ks)), ("com/example/libplanar/libplanar/SparseMatrix", "columns", "[I", (.ref kc)), ("com/example/libplanar/libplanar/SparseMatrix", "values", "[D", (.ref kv))]), (ab, DA Z [(f_small x1 (0 : Int32)), (f_small x1 (1 : Int32)), (f_small x1 (2 : Int32))]), (ax, DA Z [(f_small x1 (3 : Int32)), (f_small x1 (4 : Int32)), (f_small x1 (5 : Int32))]), (ay, DA Z [(f_small x1 (3 : Int32)), (f_small x1 (4 : Int32)), (f_small x1 (5 : Int32))]), (ag, DA Z [(f_dv x2 (0 : Int32)), (f_dv x2 (1 : Int32)), (f_dv x2 (2 : Int32))])] 8 39 571 #[.val (.long x0), .second, .val (.int x1), .val (.int x2), .val (.int x3), .val (.int (0 : Int32)), .val (.int (0 : Int32)), .val (.ref kc), .val (.ref kv), .val (.ref ks), .val (.int (Int32.ofNat (P3 ++ R1 ++ R2).length)), .val (.ref p1), .val (.ref ab), .val (.ref ax), .val (.ref ay), .val (.ref ag)] []
        refine g_aload C 573 at_571 rfl rfl rfl ?_
        refine g_iconst C 574 (0 : Int32) at_573 rfl rfl ?_
        refine g_daload C 575 (i := 5) rfl at_574 rfl (by decide) (f_small x1 (3 : Int32)) rfl ?_
        refine g_aload C 577 at_575 rfl rfl rfl ?_
        refine g_iconst C 578 (0 : Int32) at_577 rfl rfl ?_
        refine g_daload C 579 (i := 6) rfl at_578 rfl (by decide) (f_small x1 (3 : Int32)) rfl ?_
        refine g_dcmp C 580 at_579 rfl ?_
        refine g_ifN C 583 at_580 (teq ((DV.eq Dx0 Dx0 _) : (cmpValue (FP.dcmp (f_small x1 (3 : Int32)) (f_small x1 (3 : Int32))) .l) = (0 : Int32))).2 rfl ?_
        refine g_aload C 585 at_583 rfl rfl rfl ?_
        refine g_iconst C 586 (1 : Int32) at_585 rfl rfl ?_
        refine g_daload C 587 (i := 5) rfl at_586 rfl (by decide) (f_small x1 (4 : Int32)) rfl ?_
        refine g_aload C 589 at_587 rfl rfl rfl ?_
        refine g_iconst C 590 (1 : Int32) at_589 rfl rfl ?_
        refine g_daload C 591 (i := 6) rfl at_590 rfl (by decide) (f_small x1 (4 : Int32)) rfl ?_
        refine g_dcmp C 592 at_591 rfl ?_
        refine g_ifN C 595 at_592 (teq ((DV.eq Dx1 Dx1 _) : (cmpValue (FP.dcmp (f_small x1 (4 : Int32)) (f_small x1 (4 : Int32))) .l) = (0 : Int32))).2 rfl ?_
        refine g_aload C 597 at_595 rfl rfl rfl ?_
        refine g_iconst C 598 (2 : Int32) at_597 rfl rfl ?_
        refine g_daload C 599 (i := 5) rfl at_598 rfl (by decide) (f_small x1 (5 : Int32)) rfl ?_
        refine g_aload C 601 at_599 rfl rfl rfl ?_
        refine g_iconst C 602 (2 : Int32) at_601 rfl rfl ?_
        refine g_daload C 603 (i := 6) rfl at_602 rfl (by decide) (f_small x1 (5 : Int32)) rfl ?_
        refine g_dcmp C 604 at_603 rfl ?_
        refine g_ifN C 607 at_604 (teq ((DV.eq Dx2 Dx2 _) : (cmpValue (FP.dcmp (f_small x1 (5 : Int32)) (f_small x1 (5 : Int32))) .l) = (0 : Int32))).2 rfl ?_
        refine g_iconst C 608 (1 : Int32) at_607 rfl rfl ?_
        refine g_goto C 612 at_608 (by decide) (by decide) ?_
        exact g_nret C (by simp) (z' := (1 : Int32)) (by decide) at_612 (by decide) (by decide) rfl
      · obtain ⟨kb0, Db0, Bb0, Vb0⟩ := own_small x1 (0 : Int32)
        obtain ⟨kb1, Db1, Bb1, Vb1⟩ := own_small x1 (1 : Int32)
        obtain ⟨kb2, Db2, Bb2, Vb2⟩ := own_small x1 (2 : Int32)
        obtain ⟨kx0, Dx0, Bx0, Vx0⟩ := own_small x1 (3 : Int32)
        obtain ⟨kx1, Dx1, Bx1, Vx1⟩ := own_small x1 (4 : Int32)
        obtain ⟨kx2, Dx2, Bx2, Vx2⟩ := own_small x1 (5 : Int32)
        obtain ⟨DD0, Dg0, hD0⟩ := own_dv x2 (0 : Int32)
        obtain ⟨DD1, Dg1, hD1⟩ := own_dv x2 (1 : Int32)
        obtain ⟨DD2, Dg2, hD2⟩ := own_dv x2 (2 : Int32)
        refine g_iload C 428 at_426 rfl rfl ?_
        refine g_ifN C 431 at_428 (feq ((by decide) : ¬ ((1 : Int32) = (0 : Int32)))).1 rfl ?_
        refine g_iload C 433 at_431 rfl rfl ?_
        refine g_ifY C 451 at_433 (flt ((by decide) : ¬ ((0 : Int32) < (0 : Int32)))).2.2.2 (by decide) (by decide) ?_
        refine g_iload C 453 at_451 rfl rfl ?_
        refine g_iconst C 454 (1 : Int32) at_453 rfl rfl ?_
        refine g_icY C 472 at_454 (flt ((by decide) : ¬ ((1 : Int32) < (0 : Int32)))).2.2.2 (by decide) (by decide) ?_
        refine g_iload C 474 at_472 rfl rfl ?_
        refine g_iconst C 475 (2 : Int32) at_474 rfl rfl ?_
        refine g_icY C 558 at_475 (flt ((by decide) : ¬ ((2 : Int32) < (0 : Int32)))).2.2.2 (by decide) (by decide) ?_
        refine g_aload C 560 at_558 rfl rfl rfl ?_
        refine g_aload C 562 at_560 rfl rfl rfl ?_
        refine g_aload C 564 at_562 rfl rfl rfl ?_
        refine g_aload C 566 at_564 rfl rfl rfl ?_
        refine g_iload C 568 at_566 rfl rfl ?_
        refine g_virtual C 571 0 (i := 3) (argsL := [(.ref ag), (.ref ab), (.ref ax), (.int (1 : Int32))]) (St := []) rfl (con_gs01 l Z a0 C.2.2.1 h0 kc kv ks p1 ab ax ag (ay, DA Z [(f_small x1 (3 : Int32)), (f_small x1 (4 : Int32)), (f_small x1 (5 : Int32))]) P3 R1 R2 (f_small x1 (0 : Int32)) (f_small x1 (1 : Int32)) (f_small x1 (2 : Int32)) (f_small x1 (3 : Int32)) (f_small x1 (4 : Int32)) (f_small x1 (5 : Int32)) (f_dv x2 (0 : Int32)) (f_dv x2 (1 : Int32)) (f_dv x2 (2 : Int32))  hl9 ) (List.mem_of_getElem? (i := 38) rfl) (List.mem_of_getElem? (i := 39) rfl) (List.mem_of_getElem? (i := 41) rfl) (List.mem_of_getElem? (i := 40) rfl) (List.mem_of_getElem? (i := 15) rfl) (List.mem_of_getElem? (i := 42) rfl) (by decide) at_568 rfl rfl (lenOf (ps := [(.array .double), (.array .double), (.array .double), .boolean]) (r := none) (by decide) rfl) rfl (Nat.le_of_eq rfl) (by decide) (by decide) (by decide) (by decide) ?_
        rintro _ _ ⟨rfl, rfl⟩
        show Go _ _ _ _ _ _ _ _ _ _ _ _ [(kc, IA Z .int (ints (own_c (P3 ++ R1 ++ R2)))), (kv, DA Z (own_v (P3 ++ R1 ++ R2))), (ks, IA Z .int (ints [(0 : Int32), (Int32.ofNat P3.length), (Int32.ofNat (P3 ++ R1).length), (Int32.ofNat (P3 ++ R1 ++ R2).length)])), (p1, OB Z a0 "com/example/libplanar/libplanar/SparseMatrix" [("com/example/libplanar/libplanar/SparseMatrix", "rows", "I", (.int (0 : Int32))), ("com/example/libplanar/libplanar/SparseMatrix", "columnCount", "I", (.int (0 : Int32))), ("com/example/libplanar/libplanar/SparseMatrix", "rowStart", "[I", (.ref ks)), ("com/example/libplanar/libplanar/SparseMatrix", "columns", "[I", (.ref kc)), ("com/example/libplanar/libplanar/SparseMatrix", "values", "[D", (.ref kv))]), (ab, DA Z [(f_small x1 (0 : Int32)), (f_small x1 (1 : Int32)), (f_small x1 (2 : Int32))]), (ax, DA Z [(f_small x1 (3 : Int32)), (f_small x1 (4 : Int32)), (f_small x1 (5 : Int32))]), (ay, DA Z [(f_small x1 (3 : Int32)), (f_small x1 (4 : Int32)), (f_small x1 (5 : Int32))]), (ag, DA Z [(f_dv x2 (0 : Int32)), (f_dv x2 (1 : Int32)), (f_dv x2 (2 : Int32))])] 8 39 571 #[.val (.long x0), .second, .val (.int x1), .val (.int x2), .val (.int x3), .val (.int (0 : Int32)), .val (.int (1 : Int32)), .val (.ref kc), .val (.ref kv), .val (.ref ks), .val (.int (Int32.ofNat (P3 ++ R1 ++ R2).length)), .val (.ref p1), .val (.ref ab), .val (.ref ax), .val (.ref ay), .val (.ref ag)] []
        refine g_aload C 573 at_571 rfl rfl rfl ?_
        refine g_iconst C 574 (0 : Int32) at_573 rfl rfl ?_
        refine g_daload C 575 (i := 5) rfl at_574 rfl (by decide) (f_small x1 (3 : Int32)) rfl ?_
        refine g_aload C 577 at_575 rfl rfl rfl ?_
        refine g_iconst C 578 (0 : Int32) at_577 rfl rfl ?_
        refine g_daload C 579 (i := 6) rfl at_578 rfl (by decide) (f_small x1 (3 : Int32)) rfl ?_
        refine g_dcmp C 580 at_579 rfl ?_
        refine g_ifN C 583 at_580 (teq ((DV.eq Dx0 Dx0 _) : (cmpValue (FP.dcmp (f_small x1 (3 : Int32)) (f_small x1 (3 : Int32))) .l) = (0 : Int32))).2 rfl ?_
        refine g_aload C 585 at_583 rfl rfl rfl ?_
        refine g_iconst C 586 (1 : Int32) at_585 rfl rfl ?_
        refine g_daload C 587 (i := 5) rfl at_586 rfl (by decide) (f_small x1 (4 : Int32)) rfl ?_
        refine g_aload C 589 at_587 rfl rfl rfl ?_
        refine g_iconst C 590 (1 : Int32) at_589 rfl rfl ?_
        refine g_daload C 591 (i := 6) rfl at_590 rfl (by decide) (f_small x1 (4 : Int32)) rfl ?_
        refine g_dcmp C 592 at_591 rfl ?_
        refine g_ifN C 595 at_592 (teq ((DV.eq Dx1 Dx1 _) : (cmpValue (FP.dcmp (f_small x1 (4 : Int32)) (f_small x1 (4 : Int32))) .l) = (0 : Int32))).2 rfl ?_
        refine g_aload C 597 at_595 rfl rfl rfl ?_
        refine g_iconst C 598 (2 : Int32) at_597 rfl rfl ?_
        refine g_daload C 599 (i := 5) rfl at_598 rfl (by decide) (f_small x1 (5 : Int32)) rfl ?_
        refine g_aload C 601 at_599 rfl rfl rfl ?_
        refine g_iconst C 602 (2 : Int32) at_601 rfl rfl ?_
        refine g_daload C 603 (i := 6) rfl at_602 rfl (by decide) (f_small x1 (5 : Int32)) rfl ?_
        refine g_dcmp C 604 at_603 rfl ?_
        refine g_ifN C 607 at_604 (teq ((DV.eq Dx2 Dx2 _) : (cmpValue (FP.dcmp (f_small x1 (5 : Int32)) (f_small x1 (5 : Int32))) .l) = (0 : Int32))).2 rfl ?_
        refine g_iconst C 608 (1 : Int32) at_607 rfl rfl ?_
        refine g_goto C 612 at_608 (by decide) (by decide) ?_
        exact g_nret C (by simp) (z' := (1 : Int32)) (by decide) at_612 (by decide) (by decide) rfl
    · obtain rfl | rfl : j2 = (0 : Int32) ∨ j2 = (1 : Int32) := by rw [hj2]; split; exact Or.inl rfl; exact Or.inr rfl
      · obtain ⟨kb0, Db0, Bb0, Vb0⟩ := own_small x1 (0 : Int32)
        obtain ⟨kb1, Db1, Bb1, Vb1⟩ := own_small x1 (1 : Int32)
        obtain ⟨kb2, Db2, Bb2, Vb2⟩ := own_small x1 (2 : Int32)
        obtain ⟨kx0, Dx0, Bx0, Vx0⟩ := own_small x1 (3 : Int32)
        obtain ⟨kx1, Dx1, Bx1, Vx1⟩ := own_small x1 (4 : Int32)
        obtain ⟨kx2, Dx2, Bx2, Vx2⟩ := own_small x1 (5 : Int32)
        obtain ⟨DD0, Dg0, hD0⟩ := own_dv x2 (0 : Int32)
        obtain ⟨DD1, Dg1, hD1⟩ := own_dv x2 (1 : Int32)
        obtain ⟨DD2, Dg2, hD2⟩ := own_dv x2 (2 : Int32)
        obtain ⟨kk0, zz0, yy0, U0, ey0, DY0, A0, NA0, NB0, ez0, DZ0, BB0, VV0⟩ := own_step 4096 64 512 hR0 Dx0 Dx1 Dx2 Dx0 Dx1 Dx2 Dx0 Dx0 Db0 Dg0 (own_fc x0 x3 (1 : Int32) (0 : Int32)) (own_fc x0 x3 (1 : Int32) (1 : Int32)) (own_fc x0 x3 (1 : Int32) (2 : Int32)) Bx0 Bx1 Bx2 Bx0 Bb0 (own_coef x0 (0 : Int32)) (own_coef x0 (1 : Int32)) (own_coef x0 (2 : Int32)) (by decide) (by decide) Vx0 Vx1 Vx2 Vx0 Vb0 hD0
        refine g_iload C 428 at_426 rfl rfl ?_
        refine g_ifY C 496 at_428 (teq ((by decide) : (0 : Int32) = (0 : Int32))).1 (by decide) (by decide) ?_
        refine g_iload C 498 at_496 rfl rfl ?_
        refine g_iconst C 499 (2 : Int32) at_498 rfl rfl ?_
        refine g_icY C 517 at_499 (flt ((by decide) : ¬ ((2 : Int32) < (1 : Int32)))).2.2.2 (by decide) (by decide) ?_
        refine g_iload C 519 at_517 rfl rfl ?_
        refine g_iconst C 520 (1 : Int32) at_519 rfl rfl ?_
        refine g_icY C 538 at_520 (flt ((by decide) : ¬ ((1 : Int32) < (1 : Int32)))).2.2.2 (by decide) (by decide) ?_
        refine g_iload C 540 at_538 rfl rfl ?_
        refine g_ifN C 543 at_540 (tlt ((by decide) : (0 : Int32) < (1 : Int32))).2.2.2 rfl ?_
        refine g_aload C 545 at_543 rfl rfl rfl ?_
        refine g_iconst C 546 (0 : Int32) at_545 rfl rfl ?_
        refine g_aload C 548 at_546 rfl rfl rfl ?_
        refine g_aload C 550 at_548 rfl rfl rfl ?_
        refine g_lloadN C 551 at_550 rfl rfl ?_
        refine g_iload C 553 at_551 rfl rfl ?_
        refine g_iload C 555 at_553 rfl rfl ?_
        refine g_static C 558 0 (argsL := [(.ref ay), (.int (0 : Int32)), (.ref ab), (.ref ag), (.long x0), (.int x3), (.int (1 : Int32))]) (St := []) (con_upd0 l Z a0 C.2.2.1 h0 (kc, IA Z .int (ints (own_c (P3 ++ R1 ++ R2)))) (kv, DA Z (own_v (P3 ++ R1 ++ R2))) (ks, IA Z .int (ints [(0 : Int32), (Int32.ofNat P3.length), (Int32.ofNat (P3 ++ R1).length), (Int32.ofNat (P3 ++ R1 ++ R2).length)])) (p1, OB Z a0 "com/example/libplanar/libplanar/SparseMatrix" [("com/example/libplanar/libplanar/SparseMatrix", "rows", "I", (.int (1 : Int32))), ("com/example/libplanar/libplanar/SparseMatrix", "columnCount", "I", (.int (1 : Int32))), ("com/example/libplanar/libplanar/SparseMatrix", "rowStart", "[I", (.ref ks)), ("com/example/libplanar/libplanar/SparseMatrix", "columns", "[I", (.ref kc)), ("com/example/libplanar/libplanar/SparseMatrix", "values", "[D", (.ref kv))]) (ax, DA Z [(f_small x1 (3 : Int32)), (f_small x1 (4 : Int32)), (f_small x1 (5 : Int32))]) ab ay ag (f_small x1 (0 : Int32)) (f_small x1 (1 : Int32)) (f_small x1 (2 : Int32)) (f_small x1 (3 : Int32)) (f_small x1 (4 : Int32)) (f_small x1 (5 : Int32)) (f_dv x2 (0 : Int32)) (f_dv x2 (1 : Int32)) (f_dv x2 (2 : Int32)) x0 x3 (1 : Int32) U0) (List.mem_of_getElem? (i := 43) rfl) (List.mem_of_getElem? (i := 44) rfl) (List.mem_of_getElem? (i := 4) rfl) (List.mem_of_getElem? (i := 45) rfl) (by decide) at_555 rfl rfl (lenOf (ps := [(.array .double), .int, (.array .double), (.array .double), .long, .int, .int]) (r := none) (by decide) rfl) rfl (Nat.le_of_eq rfl) (by decide) (by decide) (by decide) (by decide) ?_
        rintro _ _ ⟨rfl, rfl⟩
        show Go _ _ _ _ _ _ _ _ _ _ _ _ [(kc, IA Z .int (ints (own_c (P3 ++ R1 ++ R2)))), (kv, DA Z (own_v (P3 ++ R1 ++ R2))), (ks, IA Z .int (ints [(0 : Int32), (Int32.ofNat P3.length), (Int32.ofNat (P3 ++ R1).length), (Int32.ofNat (P3 ++ R1 ++ R2).length)])), (p1, OB Z a0 "com/example/libplanar/libplanar/SparseMatrix" [("com/example/libplanar/libplanar/SparseMatrix", "rows", "I", (.int (1 : Int32))), ("com/example/libplanar/libplanar/SparseMatrix", "columnCount", "I", (.int (1 : Int32))), ("com/example/libplanar/libplanar/SparseMatrix", "rowStart", "[I", (.ref ks)), ("com/example/libplanar/libplanar/SparseMatrix", "columns", "[I", (.ref kc)), ("com/example/libplanar/libplanar/SparseMatrix", "values", "[D", (.ref kv))]), (ab, DA Z [(f_small x1 (0 : Int32)), (f_small x1 (1 : Int32)), (f_small x1 (2 : Int32))]), (ax, DA Z [(f_small x1 (3 : Int32)), (f_small x1 (4 : Int32)), (f_small x1 (5 : Int32))]), (ay, DA Z [(own_upd (f_c x0 x3 (1 : Int32) (0 : Int32)) (f_c x0 x3 (1 : Int32) (1 : Int32)) (f_c x0 x3 (1 : Int32) (2 : Int32)) (f_small x1 (3 : Int32)) (f_small x1 (4 : Int32)) (f_small x1 (5 : Int32)) (f_small x1 (0 : Int32)) (f_dv x2 (0 : Int32)) (f_small x1 (3 : Int32))), (f_small x1 (4 : Int32)), (f_small x1 (5 : Int32))]), (ag, DA Z [(f_dv x2 (0 : Int32)), (f_dv x2 (1 : Int32)), (f_dv x2 (2 : Int32))])] 8 39 558 #[.val (.long x0), .second, .val (.int x1), .val (.int x2), .val (.int x3), .val (.int (1 : Int32)), .val (.int (0 : Int32)), .val (.ref kc), .val (.ref kv), .val (.ref ks), .val (.int (Int32.ofNat (P3 ++ R1 ++ R2).length)), .val (.ref p1), .val (.ref ab), .val (.ref ax), .val (.ref ay), .val (.ref ag)] []
        rw [ey0]
        show Go _ _ _ _ _ _ _ _ _ _ _ _ [(kc, IA Z .int (ints (own_c (P3 ++ R1 ++ R2)))), (kv, DA Z (own_v (P3 ++ R1 ++ R2))), (ks, IA Z .int (ints [(0 : Int32), (Int32.ofNat P3.length), (Int32.ofNat (P3 ++ R1).length), (Int32.ofNat (P3 ++ R1 ++ R2).length)])), (p1, OB Z a0 "com/example/libplanar/libplanar/SparseMatrix" [("com/example/libplanar/libplanar/SparseMatrix", "rows", "I", (.int (1 : Int32))), ("com/example/libplanar/libplanar/SparseMatrix", "columnCount", "I", (.int (1 : Int32))), ("com/example/libplanar/libplanar/SparseMatrix", "rowStart", "[I", (.ref ks)), ("com/example/libplanar/libplanar/SparseMatrix", "columns", "[I", (.ref kc)), ("com/example/libplanar/libplanar/SparseMatrix", "values", "[D", (.ref kv))]), (ab, DA Z [(f_small x1 (0 : Int32)), (f_small x1 (1 : Int32)), (f_small x1 (2 : Int32))]), (ax, DA Z [(f_small x1 (3 : Int32)), (f_small x1 (4 : Int32)), (f_small x1 (5 : Int32))]), (ay, DA Z [yy0, (f_small x1 (4 : Int32)), (f_small x1 (5 : Int32))]), (ag, DA Z [(f_dv x2 (0 : Int32)), (f_dv x2 (1 : Int32)), (f_dv x2 (2 : Int32))])] 8 39 558 #[.val (.long x0), .second, .val (.int x1), .val (.int x2), .val (.int x3), .val (.int (1 : Int32)), .val (.int (0 : Int32)), .val (.ref kc), .val (.ref kv), .val (.ref ks), .val (.int (Int32.ofNat (P3 ++ R1 ++ R2).length)), .val (.ref p1), .val (.ref ab), .val (.ref ax), .val (.ref ay), .val (.ref ag)] []
        refine g_aload C 560 at_558 rfl rfl rfl ?_
        refine g_aload C 562 at_560 rfl rfl rfl ?_
        refine g_aload C 564 at_562 rfl rfl rfl ?_
        refine g_aload C 566 at_564 rfl rfl rfl ?_
        refine g_iload C 568 at_566 rfl rfl ?_
        refine g_virtual C 571 0 (i := 3) (argsL := [(.ref ag), (.ref ab), (.ref ax), (.int (0 : Int32))]) (St := []) rfl (con_gs10 l Z a0 C.2.2.1 h0 kc kv ks p1 ab ax ag (ay, DA Z [yy0, (f_small x1 (4 : Int32)), (f_small x1 (5 : Int32))]) P3 R1 R2 (f_small x1 (0 : Int32)) (f_small x1 (1 : Int32)) (f_small x1 (2 : Int32)) (f_small x1 (3 : Int32)) (f_small x1 (4 : Int32)) (f_small x1 (5 : Int32)) (f_dv x2 (0 : Int32)) (f_dv x2 (1 : Int32)) (f_dv x2 (2 : Int32)) zz0 hl9 A0 NA0 NB0 ez0) (List.mem_of_getElem? (i := 38) rfl) (List.mem_of_getElem? (i := 39) rfl) (List.mem_of_getElem? (i := 41) rfl) (List.mem_of_getElem? (i := 40) rfl) (List.mem_of_getElem? (i := 15) rfl) (List.mem_of_getElem? (i := 42) rfl) (by decide) at_568 rfl rfl (lenOf (ps := [(.array .double), (.array .double), (.array .double), .boolean]) (r := none) (by decide) rfl) rfl (Nat.le_of_eq rfl) (by decide) (by decide) (by decide) (by decide) ?_
        rintro _ _ ⟨rfl, rfl⟩
        show Go _ _ _ _ _ _ _ _ _ _ _ _ [(kc, IA Z .int (ints (own_c (P3 ++ R1 ++ R2)))), (kv, DA Z (own_v (P3 ++ R1 ++ R2))), (ks, IA Z .int (ints [(0 : Int32), (Int32.ofNat P3.length), (Int32.ofNat (P3 ++ R1).length), (Int32.ofNat (P3 ++ R1 ++ R2).length)])), (p1, OB Z a0 "com/example/libplanar/libplanar/SparseMatrix" [("com/example/libplanar/libplanar/SparseMatrix", "rows", "I", (.int (1 : Int32))), ("com/example/libplanar/libplanar/SparseMatrix", "columnCount", "I", (.int (1 : Int32))), ("com/example/libplanar/libplanar/SparseMatrix", "rowStart", "[I", (.ref ks)), ("com/example/libplanar/libplanar/SparseMatrix", "columns", "[I", (.ref kc)), ("com/example/libplanar/libplanar/SparseMatrix", "values", "[D", (.ref kv))]), (ab, DA Z [(f_small x1 (0 : Int32)), (f_small x1 (1 : Int32)), (f_small x1 (2 : Int32))]), (ax, DA Z [zz0, (f_small x1 (4 : Int32)), (f_small x1 (5 : Int32))]), (ay, DA Z [yy0, (f_small x1 (4 : Int32)), (f_small x1 (5 : Int32))]), (ag, DA Z [(f_dv x2 (0 : Int32)), (f_dv x2 (1 : Int32)), (f_dv x2 (2 : Int32))])] 8 39 571 #[.val (.long x0), .second, .val (.int x1), .val (.int x2), .val (.int x3), .val (.int (1 : Int32)), .val (.int (0 : Int32)), .val (.ref kc), .val (.ref kv), .val (.ref ks), .val (.int (Int32.ofNat (P3 ++ R1 ++ R2).length)), .val (.ref p1), .val (.ref ab), .val (.ref ax), .val (.ref ay), .val (.ref ag)] []
        refine g_aload C 573 at_571 rfl rfl rfl ?_
        refine g_iconst C 574 (0 : Int32) at_573 rfl rfl ?_
        refine g_daload C 575 (i := 5) rfl at_574 rfl (by decide) zz0 rfl ?_
        refine g_aload C 577 at_575 rfl rfl rfl ?_
        refine g_iconst C 578 (0 : Int32) at_577 rfl rfl ?_
        refine g_daload C 579 (i := 6) rfl at_578 rfl (by decide) yy0 rfl ?_
        refine g_dcmp C 580 at_579 rfl ?_
        refine g_ifN C 583 at_580 (teq ((DV.eq DZ0 DY0 _) : (cmpValue (FP.dcmp zz0 yy0) .l) = (0 : Int32))).2 rfl ?_
        refine g_aload C 585 at_583 rfl rfl rfl ?_
        refine g_iconst C 586 (1 : Int32) at_585 rfl rfl ?_
        refine g_daload C 587 (i := 5) rfl at_586 rfl (by decide) (f_small x1 (4 : Int32)) rfl ?_
        refine g_aload C 589 at_587 rfl rfl rfl ?_
        refine g_iconst C 590 (1 : Int32) at_589 rfl rfl ?_
        refine g_daload C 591 (i := 6) rfl at_590 rfl (by decide) (f_small x1 (4 : Int32)) rfl ?_
        refine g_dcmp C 592 at_591 rfl ?_
        refine g_ifN C 595 at_592 (teq ((DV.eq Dx1 Dx1 _) : (cmpValue (FP.dcmp (f_small x1 (4 : Int32)) (f_small x1 (4 : Int32))) .l) = (0 : Int32))).2 rfl ?_
        refine g_aload C 597 at_595 rfl rfl rfl ?_
        refine g_iconst C 598 (2 : Int32) at_597 rfl rfl ?_
        refine g_daload C 599 (i := 5) rfl at_598 rfl (by decide) (f_small x1 (5 : Int32)) rfl ?_
        refine g_aload C 601 at_599 rfl rfl rfl ?_
        refine g_iconst C 602 (2 : Int32) at_601 rfl rfl ?_
        refine g_daload C 603 (i := 6) rfl at_602 rfl (by decide) (f_small x1 (5 : Int32)) rfl ?_
        refine g_dcmp C 604 at_603 rfl ?_
        refine g_ifN C 607 at_604 (teq ((DV.eq Dx2 Dx2 _) : (cmpValue (FP.dcmp (f_small x1 (5 : Int32)) (f_small x1 (5 : Int32))) .l) = (0 : Int32))).2 rfl ?_
        refine g_iconst C 608 (1 : Int32) at_607 rfl rfl ?_
        refine g_goto C 612 at_608 (by decide) (by decide) ?_
        exact g_nret C (by simp) (z' := (1 : Int32)) (by decide) at_612 (by decide) (by decide) rfl
      · obtain ⟨kb0, Db0, Bb0, Vb0⟩ := own_small x1 (0 : Int32)
        obtain ⟨kb1, Db1, Bb1, Vb1⟩ := own_small x1 (1 : Int32)
        obtain ⟨kb2, Db2, Bb2, Vb2⟩ := own_small x1 (2 : Int32)
        obtain ⟨kx0, Dx0, Bx0, Vx0⟩ := own_small x1 (3 : Int32)
        obtain ⟨kx1, Dx1, Bx1, Vx1⟩ := own_small x1 (4 : Int32)
        obtain ⟨kx2, Dx2, Bx2, Vx2⟩ := own_small x1 (5 : Int32)
        obtain ⟨DD0, Dg0, hD0⟩ := own_dv x2 (0 : Int32)
        obtain ⟨DD1, Dg1, hD1⟩ := own_dv x2 (1 : Int32)
        obtain ⟨DD2, Dg2, hD2⟩ := own_dv x2 (2 : Int32)
        obtain ⟨kk0, zz0, yy0, U0, ey0, DY0, A0, NA0, NB0, ez0, DZ0, BB0, VV0⟩ := own_step 4096 64 512 hR0 Dx0 Dx1 Dx2 Dx0 Dx1 Dx2 Dx0 Dx0 Db0 Dg0 (own_fc x0 x3 (1 : Int32) (0 : Int32)) (own_fc x0 x3 (1 : Int32) (1 : Int32)) (own_fc x0 x3 (1 : Int32) (2 : Int32)) Bx0 Bx1 Bx2 Bx0 Bb0 (own_coef x0 (0 : Int32)) (own_coef x0 (1 : Int32)) (own_coef x0 (2 : Int32)) (by decide) (by decide) Vx0 Vx1 Vx2 Vx0 Vb0 hD0
        refine g_iload C 428 at_426 rfl rfl ?_
        refine g_ifN C 431 at_428 (feq ((by decide) : ¬ ((1 : Int32) = (0 : Int32)))).1 rfl ?_
        refine g_iload C 433 at_431 rfl rfl ?_
        refine g_ifN C 436 at_433 (tlt ((by decide) : (0 : Int32) < (1 : Int32))).2.2.2 rfl ?_
        refine g_aload C 438 at_436 rfl rfl rfl ?_
        refine g_iconst C 439 (0 : Int32) at_438 rfl rfl ?_
        refine g_aload C 441 at_439 rfl rfl rfl ?_
        refine g_aload C 443 at_441 rfl rfl rfl ?_
        refine g_lloadN C 444 at_443 rfl rfl ?_
        refine g_iload C 446 at_444 rfl rfl ?_
        refine g_iload C 448 at_446 rfl rfl ?_
        refine g_static C 451 0 (argsL := [(.ref ay), (.int (0 : Int32)), (.ref ab), (.ref ag), (.long x0), (.int x3), (.int (1 : Int32))]) (St := []) (con_upd0 l Z a0 C.2.2.1 h0 (kc, IA Z .int (ints (own_c (P3 ++ R1 ++ R2)))) (kv, DA Z (own_v (P3 ++ R1 ++ R2))) (ks, IA Z .int (ints [(0 : Int32), (Int32.ofNat P3.length), (Int32.ofNat (P3 ++ R1).length), (Int32.ofNat (P3 ++ R1 ++ R2).length)])) (p1, OB Z a0 "com/example/libplanar/libplanar/SparseMatrix" [("com/example/libplanar/libplanar/SparseMatrix", "rows", "I", (.int (1 : Int32))), ("com/example/libplanar/libplanar/SparseMatrix", "columnCount", "I", (.int (1 : Int32))), ("com/example/libplanar/libplanar/SparseMatrix", "rowStart", "[I", (.ref ks)), ("com/example/libplanar/libplanar/SparseMatrix", "columns", "[I", (.ref kc)), ("com/example/libplanar/libplanar/SparseMatrix", "values", "[D", (.ref kv))]) (ax, DA Z [(f_small x1 (3 : Int32)), (f_small x1 (4 : Int32)), (f_small x1 (5 : Int32))]) ab ay ag (f_small x1 (0 : Int32)) (f_small x1 (1 : Int32)) (f_small x1 (2 : Int32)) (f_small x1 (3 : Int32)) (f_small x1 (4 : Int32)) (f_small x1 (5 : Int32)) (f_dv x2 (0 : Int32)) (f_dv x2 (1 : Int32)) (f_dv x2 (2 : Int32)) x0 x3 (1 : Int32) U0) (List.mem_of_getElem? (i := 43) rfl) (List.mem_of_getElem? (i := 44) rfl) (List.mem_of_getElem? (i := 4) rfl) (List.mem_of_getElem? (i := 45) rfl) (by decide) at_448 rfl rfl (lenOf (ps := [(.array .double), .int, (.array .double), (.array .double), .long, .int, .int]) (r := none) (by decide) rfl) rfl (Nat.le_of_eq rfl) (by decide) (by decide) (by decide) (by decide) ?_
        rintro _ _ ⟨rfl, rfl⟩
        show Go _ _ _ _ _ _ _ _ _ _ _ _ [(kc, IA Z .int (ints (own_c (P3 ++ R1 ++ R2)))), (kv, DA Z (own_v (P3 ++ R1 ++ R2))), (ks, IA Z .int (ints [(0 : Int32), (Int32.ofNat P3.length), (Int32.ofNat (P3 ++ R1).length), (Int32.ofNat (P3 ++ R1 ++ R2).length)])), (p1, OB Z a0 "com/example/libplanar/libplanar/SparseMatrix" [("com/example/libplanar/libplanar/SparseMatrix", "rows", "I", (.int (1 : Int32))), ("com/example/libplanar/libplanar/SparseMatrix", "columnCount", "I", (.int (1 : Int32))), ("com/example/libplanar/libplanar/SparseMatrix", "rowStart", "[I", (.ref ks)), ("com/example/libplanar/libplanar/SparseMatrix", "columns", "[I", (.ref kc)), ("com/example/libplanar/libplanar/SparseMatrix", "values", "[D", (.ref kv))]), (ab, DA Z [(f_small x1 (0 : Int32)), (f_small x1 (1 : Int32)), (f_small x1 (2 : Int32))]), (ax, DA Z [(f_small x1 (3 : Int32)), (f_small x1 (4 : Int32)), (f_small x1 (5 : Int32))]), (ay, DA Z [(own_upd (f_c x0 x3 (1 : Int32) (0 : Int32)) (f_c x0 x3 (1 : Int32) (1 : Int32)) (f_c x0 x3 (1 : Int32) (2 : Int32)) (f_small x1 (3 : Int32)) (f_small x1 (4 : Int32)) (f_small x1 (5 : Int32)) (f_small x1 (0 : Int32)) (f_dv x2 (0 : Int32)) (f_small x1 (3 : Int32))), (f_small x1 (4 : Int32)), (f_small x1 (5 : Int32))]), (ag, DA Z [(f_dv x2 (0 : Int32)), (f_dv x2 (1 : Int32)), (f_dv x2 (2 : Int32))])] 8 39 451 #[.val (.long x0), .second, .val (.int x1), .val (.int x2), .val (.int x3), .val (.int (1 : Int32)), .val (.int (1 : Int32)), .val (.ref kc), .val (.ref kv), .val (.ref ks), .val (.int (Int32.ofNat (P3 ++ R1 ++ R2).length)), .val (.ref p1), .val (.ref ab), .val (.ref ax), .val (.ref ay), .val (.ref ag)] []
        rw [ey0]
        show Go _ _ _ _ _ _ _ _ _ _ _ _ [(kc, IA Z .int (ints (own_c (P3 ++ R1 ++ R2)))), (kv, DA Z (own_v (P3 ++ R1 ++ R2))), (ks, IA Z .int (ints [(0 : Int32), (Int32.ofNat P3.length), (Int32.ofNat (P3 ++ R1).length), (Int32.ofNat (P3 ++ R1 ++ R2).length)])), (p1, OB Z a0 "com/example/libplanar/libplanar/SparseMatrix" [("com/example/libplanar/libplanar/SparseMatrix", "rows", "I", (.int (1 : Int32))), ("com/example/libplanar/libplanar/SparseMatrix", "columnCount", "I", (.int (1 : Int32))), ("com/example/libplanar/libplanar/SparseMatrix", "rowStart", "[I", (.ref ks)), ("com/example/libplanar/libplanar/SparseMatrix", "columns", "[I", (.ref kc)), ("com/example/libplanar/libplanar/SparseMatrix", "values", "[D", (.ref kv))]), (ab, DA Z [(f_small x1 (0 : Int32)), (f_small x1 (1 : Int32)), (f_small x1 (2 : Int32))]), (ax, DA Z [(f_small x1 (3 : Int32)), (f_small x1 (4 : Int32)), (f_small x1 (5 : Int32))]), (ay, DA Z [yy0, (f_small x1 (4 : Int32)), (f_small x1 (5 : Int32))]), (ag, DA Z [(f_dv x2 (0 : Int32)), (f_dv x2 (1 : Int32)), (f_dv x2 (2 : Int32))])] 8 39 451 #[.val (.long x0), .second, .val (.int x1), .val (.int x2), .val (.int x3), .val (.int (1 : Int32)), .val (.int (1 : Int32)), .val (.ref kc), .val (.ref kv), .val (.ref ks), .val (.int (Int32.ofNat (P3 ++ R1 ++ R2).length)), .val (.ref p1), .val (.ref ab), .val (.ref ax), .val (.ref ay), .val (.ref ag)] []
        refine g_iload C 453 at_451 rfl rfl ?_
        refine g_iconst C 454 (1 : Int32) at_453 rfl rfl ?_
        refine g_icY C 472 at_454 (flt ((by decide) : ¬ ((1 : Int32) < (1 : Int32)))).2.2.2 (by decide) (by decide) ?_
        refine g_iload C 474 at_472 rfl rfl ?_
        refine g_iconst C 475 (2 : Int32) at_474 rfl rfl ?_
        refine g_icY C 558 at_475 (flt ((by decide) : ¬ ((2 : Int32) < (1 : Int32)))).2.2.2 (by decide) (by decide) ?_
        refine g_aload C 560 at_558 rfl rfl rfl ?_
        refine g_aload C 562 at_560 rfl rfl rfl ?_
        refine g_aload C 564 at_562 rfl rfl rfl ?_
        refine g_aload C 566 at_564 rfl rfl rfl ?_
        refine g_iload C 568 at_566 rfl rfl ?_
        refine g_virtual C 571 0 (i := 3) (argsL := [(.ref ag), (.ref ab), (.ref ax), (.int (1 : Int32))]) (St := []) rfl (con_gs11 l Z a0 C.2.2.1 h0 kc kv ks p1 ab ax ag (ay, DA Z [yy0, (f_small x1 (4 : Int32)), (f_small x1 (5 : Int32))]) P3 R1 R2 (f_small x1 (0 : Int32)) (f_small x1 (1 : Int32)) (f_small x1 (2 : Int32)) (f_small x1 (3 : Int32)) (f_small x1 (4 : Int32)) (f_small x1 (5 : Int32)) (f_dv x2 (0 : Int32)) (f_dv x2 (1 : Int32)) (f_dv x2 (2 : Int32)) zz0 hl9 A0 NA0 NB0 ez0) (List.mem_of_getElem? (i := 38) rfl) (List.mem_of_getElem? (i := 39) rfl) (List.mem_of_getElem? (i := 41) rfl) (List.mem_of_getElem? (i := 40) rfl) (List.mem_of_getElem? (i := 15) rfl) (List.mem_of_getElem? (i := 42) rfl) (by decide) at_568 rfl rfl (lenOf (ps := [(.array .double), (.array .double), (.array .double), .boolean]) (r := none) (by decide) rfl) rfl (Nat.le_of_eq rfl) (by decide) (by decide) (by decide) (by decide) ?_
        rintro _ _ ⟨rfl, rfl⟩
        show Go _ _ _ _ _ _ _ _ _ _ _ _ [(kc, IA Z .int (ints (own_c (P3 ++ R1 ++ R2)))), (kv, DA Z (own_v (P3 ++ R1 ++ R2))), (ks, IA Z .int (ints [(0 : Int32), (Int32.ofNat P3.length), (Int32.ofNat (P3 ++ R1).length), (Int32.ofNat (P3 ++ R1 ++ R2).length)])), (p1, OB Z a0 "com/example/libplanar/libplanar/SparseMatrix" [("com/example/libplanar/libplanar/SparseMatrix", "rows", "I", (.int (1 : Int32))), ("com/example/libplanar/libplanar/SparseMatrix", "columnCount", "I", (.int (1 : Int32))), ("com/example/libplanar/libplanar/SparseMatrix", "rowStart", "[I", (.ref ks)), ("com/example/libplanar/libplanar/SparseMatrix", "columns", "[I", (.ref kc)), ("com/example/libplanar/libplanar/SparseMatrix", "values", "[D", (.ref kv))]), (ab, DA Z [(f_small x1 (0 : Int32)), (f_small x1 (1 : Int32)), (f_small x1 (2 : Int32))]), (ax, DA Z [zz0, (f_small x1 (4 : Int32)), (f_small x1 (5 : Int32))]), (ay, DA Z [yy0, (f_small x1 (4 : Int32)), (f_small x1 (5 : Int32))]), (ag, DA Z [(f_dv x2 (0 : Int32)), (f_dv x2 (1 : Int32)), (f_dv x2 (2 : Int32))])] 8 39 571 #[.val (.long x0), .second, .val (.int x1), .val (.int x2), .val (.int x3), .val (.int (1 : Int32)), .val (.int (1 : Int32)), .val (.ref kc), .val (.ref kv), .val (.ref ks), .val (.int (Int32.ofNat (P3 ++ R1 ++ R2).length)), .val (.ref p1), .val (.ref ab), .val (.ref ax), .val (.ref ay), .val (.ref ag)] []
        refine g_aload C 573 at_571 rfl rfl rfl ?_
        refine g_iconst C 574 (0 : Int32) at_573 rfl rfl ?_
        refine g_daload C 575 (i := 5) rfl at_574 rfl (by decide) zz0 rfl ?_
        refine g_aload C 577 at_575 rfl rfl rfl ?_
        refine g_iconst C 578 (0 : Int32) at_577 rfl rfl ?_
        refine g_daload C 579 (i := 6) rfl at_578 rfl (by decide) yy0 rfl ?_
        refine g_dcmp C 580 at_579 rfl ?_
        refine g_ifN C 583 at_580 (teq ((DV.eq DZ0 DY0 _) : (cmpValue (FP.dcmp zz0 yy0) .l) = (0 : Int32))).2 rfl ?_
        refine g_aload C 585 at_583 rfl rfl rfl ?_
        refine g_iconst C 586 (1 : Int32) at_585 rfl rfl ?_
        refine g_daload C 587 (i := 5) rfl at_586 rfl (by decide) (f_small x1 (4 : Int32)) rfl ?_
        refine g_aload C 589 at_587 rfl rfl rfl ?_
        refine g_iconst C 590 (1 : Int32) at_589 rfl rfl ?_
        refine g_daload C 591 (i := 6) rfl at_590 rfl (by decide) (f_small x1 (4 : Int32)) rfl ?_
        refine g_dcmp C 592 at_591 rfl ?_
        refine g_ifN C 595 at_592 (teq ((DV.eq Dx1 Dx1 _) : (cmpValue (FP.dcmp (f_small x1 (4 : Int32)) (f_small x1 (4 : Int32))) .l) = (0 : Int32))).2 rfl ?_
        refine g_aload C 597 at_595 rfl rfl rfl ?_
        refine g_iconst C 598 (2 : Int32) at_597 rfl rfl ?_
        refine g_daload C 599 (i := 5) rfl at_598 rfl (by decide) (f_small x1 (5 : Int32)) rfl ?_
        refine g_aload C 601 at_599 rfl rfl rfl ?_
        refine g_iconst C 602 (2 : Int32) at_601 rfl rfl ?_
        refine g_daload C 603 (i := 6) rfl at_602 rfl (by decide) (f_small x1 (5 : Int32)) rfl ?_
        refine g_dcmp C 604 at_603 rfl ?_
        refine g_ifN C 607 at_604 (teq ((DV.eq Dx2 Dx2 _) : (cmpValue (FP.dcmp (f_small x1 (5 : Int32)) (f_small x1 (5 : Int32))) .l) = (0 : Int32))).2 rfl ?_
        refine g_iconst C 608 (1 : Int32) at_607 rfl rfl ?_
        refine g_goto C 612 at_608 (by decide) (by decide) ?_
        exact g_nret C (by simp) (z' := (1 : Int32)) (by decide) at_612 (by decide) (by decide) rfl
    · obtain rfl | rfl : j2 = (0 : Int32) ∨ j2 = (1 : Int32) := by rw [hj2]; split; exact Or.inl rfl; exact Or.inr rfl
      · obtain ⟨kb0, Db0, Bb0, Vb0⟩ := own_small x1 (0 : Int32)
        obtain ⟨kb1, Db1, Bb1, Vb1⟩ := own_small x1 (1 : Int32)
        obtain ⟨kb2, Db2, Bb2, Vb2⟩ := own_small x1 (2 : Int32)
        obtain ⟨kx0, Dx0, Bx0, Vx0⟩ := own_small x1 (3 : Int32)
        obtain ⟨kx1, Dx1, Bx1, Vx1⟩ := own_small x1 (4 : Int32)
        obtain ⟨kx2, Dx2, Bx2, Vx2⟩ := own_small x1 (5 : Int32)
        obtain ⟨DD0, Dg0, hD0⟩ := own_dv x2 (0 : Int32)
        obtain ⟨DD1, Dg1, hD1⟩ := own_dv x2 (1 : Int32)
        obtain ⟨DD2, Dg2, hD2⟩ := own_dv x2 (2 : Int32)
        obtain ⟨kk0, zz0, yy0, U0, ey0, DY0, A0, NA0, NB0, ez0, DZ0, BB0, VV0⟩ := own_step 4096 64 512 hR1 Dx0 Dx1 Dx2 Dx0 Dx1 Dx2 Dx1 Dx1 Db1 Dg1 (own_fc x0 x3 (2 : Int32) (3 : Int32)) (own_fc x0 x3 (2 : Int32) (4 : Int32)) (own_fc x0 x3 (2 : Int32) (5 : Int32)) Bx0 Bx1 Bx2 Bx1 Bb1 (own_coef x0 (3 : Int32)) (own_coef x0 (4 : Int32)) (own_coef x0 (5 : Int32)) (by decide) (by decide) Vx0 Vx1 Vx2 Vx1 Vb1 hD1
        obtain ⟨kk1, zz1, yy1, U1, ey1, DY1, A1, NA1, NB1, ez1, DZ1, BB1, VV1⟩ := own_step 106496 8 64 hR0 Dx0 DZ0 Dx2 Dx0 DY0 Dx2 Dx0 Dx0 Db0 Dg0 (own_fc x0 x3 (2 : Int32) (0 : Int32)) (own_fc x0 x3 (2 : Int32) (1 : Int32)) (own_fc x0 x3 (2 : Int32) (2 : Int32)) (Nat.le_trans Bx0 (by decide)) BB0 (Nat.le_trans Bx2 (by decide)) (Nat.le_trans Bx0 (by decide)) Bb0 (own_coef x0 (0 : Int32)) (own_coef x0 (1 : Int32)) (own_coef x0 (2 : Int32)) (by decide) (by decide) (Int.dvd_trans (by decide : (64 : Int) ∣ 512) Vx0) VV0 (Int.dvd_trans (by decide : (64 : Int) ∣ 512) Vx2) (Int.dvd_trans (by decide : (64 : Int) ∣ 512) Vx0) (Int.dvd_trans (by decide : (64 : Int) ∣ 512) Vb0) hD0
        refine g_iload C 428 at_426 rfl rfl ?_
        refine g_ifY C 496 at_428 (teq ((by decide) : (0 : Int32) = (0 : Int32))).1 (by decide) (by decide) ?_
        refine g_iload C 498 at_496 rfl rfl ?_
        refine g_iconst C 499 (2 : Int32) at_498 rfl rfl ?_
        refine g_icY C 517 at_499 (flt ((by decide) : ¬ ((2 : Int32) < (2 : Int32)))).2.2.2 (by decide) (by decide) ?_
        refine g_iload C 519 at_517 rfl rfl ?_
        refine g_iconst C 520 (1 : Int32) at_519 rfl rfl ?_
        refine g_icN C 523 at_520 (tlt ((by decide) : (1 : Int32) < (2 : Int32))).2.2.2 rfl ?_
        refine g_aload C 525 at_523 rfl rfl rfl ?_
        refine g_iconst C 526 (1 : Int32) at_525 rfl rfl ?_
        refine g_aload C 528 at_526 rfl rfl rfl ?_
        refine g_aload C 530 at_528 rfl rfl rfl ?_
        refine g_lloadN C 531 at_530 rfl rfl ?_
        refine g_iload C 533 at_531 rfl rfl ?_
        refine g_iload C 535 at_533 rfl rfl ?_
        refine g_static C 538 0 (argsL := [(.ref ay), (.int (1 : Int32)), (.ref ab), (.ref ag), (.long x0), (.int x3), (.int (2 : Int32))]) (St := []) (con_upd1 l Z a0 C.2.2.1 h0 (kc, IA Z .int (ints (own_c (P3 ++ R1 ++ R2)))) (kv, DA Z (own_v (P3 ++ R1 ++ R2))) (ks, IA Z .int (ints [(0 : Int32), (Int32.ofNat P3.length), (Int32.ofNat (P3 ++ R1).length), (Int32.ofNat (P3 ++ R1 ++ R2).length)])) (p1, OB Z a0 "com/example/libplanar/libplanar/SparseMatrix" [("com/example/libplanar/libplanar/SparseMatrix", "rows", "I", (.int (2 : Int32))), ("com/example/libplanar/libplanar/SparseMatrix", "columnCount", "I", (.int (2 : Int32))), ("com/example/libplanar/libplanar/SparseMatrix", "rowStart", "[I", (.ref ks)), ("com/example/libplanar/libplanar/SparseMatrix", "columns", "[I", (.ref kc)), ("com/example/libplanar/libplanar/SparseMatrix", "values", "[D", (.ref kv))]) (ax, DA Z [(f_small x1 (3 : Int32)), (f_small x1 (4 : Int32)), (f_small x1 (5 : Int32))]) ab ay ag (f_small x1 (0 : Int32)) (f_small x1 (1 : Int32)) (f_small x1 (2 : Int32)) (f_small x1 (3 : Int32)) (f_small x1 (4 : Int32)) (f_small x1 (5 : Int32)) (f_dv x2 (0 : Int32)) (f_dv x2 (1 : Int32)) (f_dv x2 (2 : Int32)) x0 x3 (2 : Int32) U0) (List.mem_of_getElem? (i := 43) rfl) (List.mem_of_getElem? (i := 44) rfl) (List.mem_of_getElem? (i := 4) rfl) (List.mem_of_getElem? (i := 45) rfl) (by decide) at_535 rfl rfl (lenOf (ps := [(.array .double), .int, (.array .double), (.array .double), .long, .int, .int]) (r := none) (by decide) rfl) rfl (Nat.le_of_eq rfl) (by decide) (by decide) (by decide) (by decide) ?_
        rintro _ _ ⟨rfl, rfl⟩
        show Go _ _ _ _ _ _ _ _ _ _ _ _ [(kc, IA Z .int (ints (own_c (P3 ++ R1 ++ R2)))), (kv, DA Z (own_v (P3 ++ R1 ++ R2))), (ks, IA Z .int (ints [(0 : Int32), (Int32.ofNat P3.length), (Int32.ofNat (P3 ++ R1).length), (Int32.ofNat (P3 ++ R1 ++ R2).length)])), (p1, OB Z a0 "com/example/libplanar/libplanar/SparseMatrix" [("com/example/libplanar/libplanar/SparseMatrix", "rows", "I", (.int (2 : Int32))), ("com/example/libplanar/libplanar/SparseMatrix", "columnCount", "I", (.int (2 : Int32))), ("com/example/libplanar/libplanar/SparseMatrix", "rowStart", "[I", (.ref ks)), ("com/example/libplanar/libplanar/SparseMatrix", "columns", "[I", (.ref kc)), ("com/example/libplanar/libplanar/SparseMatrix", "values", "[D", (.ref kv))]), (ab, DA Z [(f_small x1 (0 : Int32)), (f_small x1 (1 : Int32)), (f_small x1 (2 : Int32))]), (ax, DA Z [(f_small x1 (3 : Int32)), (f_small x1 (4 : Int32)), (f_small x1 (5 : Int32))]), (ay, DA Z [(f_small x1 (3 : Int32)), (own_upd (f_c x0 x3 (2 : Int32) (3 : Int32)) (f_c x0 x3 (2 : Int32) (4 : Int32)) (f_c x0 x3 (2 : Int32) (5 : Int32)) (f_small x1 (3 : Int32)) (f_small x1 (4 : Int32)) (f_small x1 (5 : Int32)) (f_small x1 (1 : Int32)) (f_dv x2 (1 : Int32)) (f_small x1 (4 : Int32))), (f_small x1 (5 : Int32))]), (ag, DA Z [(f_dv x2 (0 : Int32)), (f_dv x2 (1 : Int32)), (f_dv x2 (2 : Int32))])] 8 39 538 #[.val (.long x0), .second, .val (.int x1), .val (.int x2), .val (.int x3), .val (.int (2 : Int32)), .val (.int (0 : Int32)), .val (.ref kc), .val (.ref kv), .val (.ref ks), .val (.int (Int32.ofNat (P3 ++ R1 ++ R2).length)), .val (.ref p1), .val (.ref ab), .val (.ref ax), .val (.ref ay), .val (.ref ag)] []
        rw [ey0]
        show Go _ _ _ _ _ _ _ _ _ _ _ _ [(kc, IA Z .int (ints (own_c (P3 ++ R1 ++ R2)))), (kv, DA Z (own_v (P3 ++ R1 ++ R2))), (ks, IA Z .int (ints [(0 : Int32), (Int32.ofNat P3.length), (Int32.ofNat (P3 ++ R1).length), (Int32.ofNat (P3 ++ R1 ++ R2).length)])), (p1, OB Z a0 "com/example/libplanar/libplanar/SparseMatrix" [("com/example/libplanar/libplanar/SparseMatrix", "rows", "I", (.int (2 : Int32))), ("com/example/libplanar/libplanar/SparseMatrix", "columnCount", "I", (.int (2 : Int32))), ("com/example/libplanar/libplanar/SparseMatrix", "rowStart", "[I", (.ref ks)), ("com/example/libplanar/libplanar/SparseMatrix", "columns", "[I", (.ref kc)), ("com/example/libplanar/libplanar/SparseMatrix", "values", "[D", (.ref kv))]), (ab, DA Z [(f_small x1 (0 : Int32)), (f_small x1 (1 : Int32)), (f_small x1 (2 : Int32))]), (ax, DA Z [(f_small x1 (3 : Int32)), (f_small x1 (4 : Int32)), (f_small x1 (5 : Int32))]), (ay, DA Z [(f_small x1 (3 : Int32)), yy0, (f_small x1 (5 : Int32))]), (ag, DA Z [(f_dv x2 (0 : Int32)), (f_dv x2 (1 : Int32)), (f_dv x2 (2 : Int32))])] 8 39 538 #[.val (.long x0), .second, .val (.int x1), .val (.int x2), .val (.int x3), .val (.int (2 : Int32)), .val (.int (0 : Int32)), .val (.ref kc), .val (.ref kv), .val (.ref ks), .val (.int (Int32.ofNat (P3 ++ R1 ++ R2).length)), .val (.ref p1), .val (.ref ab), .val (.ref ax), .val (.ref ay), .val (.ref ag)] []
        refine g_iload C 540 at_538 rfl rfl ?_
        refine g_ifN C 543 at_540 (tlt ((by decide) : (0 : Int32) < (2 : Int32))).2.2.2 rfl ?_
        refine g_aload C 545 at_543 rfl rfl rfl ?_
        refine g_iconst C 546 (0 : Int32) at_545 rfl rfl ?_
        refine g_aload C 548 at_546 rfl rfl rfl ?_
        refine g_aload C 550 at_548 rfl rfl rfl ?_
        refine g_lloadN C 551 at_550 rfl rfl ?_
        refine g_iload C 553 at_551 rfl rfl ?_
        refine g_iload C 555 at_553 rfl rfl ?_
        refine g_static C 558 0 (argsL := [(.ref ay), (.int (0 : Int32)), (.ref ab), (.ref ag), (.long x0), (.int x3), (.int (2 : Int32))]) (St := []) (con_upd0 l Z a0 C.2.2.1 h0 (kc, IA Z .int (ints (own_c (P3 ++ R1 ++ R2)))) (kv, DA Z (own_v (P3 ++ R1 ++ R2))) (ks, IA Z .int (ints [(0 : Int32), (Int32.ofNat P3.length), (Int32.ofNat (P3 ++ R1).length), (Int32.ofNat (P3 ++ R1 ++ R2).length)])) (p1, OB Z a0 "com/example/libplanar/libplanar/SparseMatrix" [("com/example/libplanar/libplanar/SparseMatrix", "rows", "I", (.int (2 : Int32))), ("com/example/libplanar/libplanar/SparseMatrix", "columnCount", "I", (.int (2 : Int32))), ("com/example/libplanar/libplanar/SparseMatrix", "rowStart", "[I", (.ref ks)), ("com/example/libplanar/libplanar/SparseMatrix", "columns", "[I", (.ref kc)), ("com/example/libplanar/libplanar/SparseMatrix", "values", "[D", (.ref kv))]) (ax, DA Z [(f_small x1 (3 : Int32)), (f_small x1 (4 : Int32)), (f_small x1 (5 : Int32))]) ab ay ag (f_small x1 (0 : Int32)) (f_small x1 (1 : Int32)) (f_small x1 (2 : Int32)) (f_small x1 (3 : Int32)) yy0 (f_small x1 (5 : Int32)) (f_dv x2 (0 : Int32)) (f_dv x2 (1 : Int32)) (f_dv x2 (2 : Int32)) x0 x3 (2 : Int32) U1) (List.mem_of_getElem? (i := 43) rfl) (List.mem_of_getElem? (i := 44) rfl) (List.mem_of_getElem? (i := 4) rfl) (List.mem_of_getElem? (i := 45) rfl) (by decide) at_555 rfl rfl (lenOf (ps := [(.array .double), .int, (.array .double), (.array .double), .long, .int, .int]) (r := none) (by decide) rfl) rfl (Nat.le_of_eq rfl) (by decide) (by decide) (by decide) (by decide) ?_
        rintro _ _ ⟨rfl, rfl⟩
        show Go _ _ _ _ _ _ _ _ _ _ _ _ [(kc, IA Z .int (ints (own_c (P3 ++ R1 ++ R2)))), (kv, DA Z (own_v (P3 ++ R1 ++ R2))), (ks, IA Z .int (ints [(0 : Int32), (Int32.ofNat P3.length), (Int32.ofNat (P3 ++ R1).length), (Int32.ofNat (P3 ++ R1 ++ R2).length)])), (p1, OB Z a0 "com/example/libplanar/libplanar/SparseMatrix" [("com/example/libplanar/libplanar/SparseMatrix", "rows", "I", (.int (2 : Int32))), ("com/example/libplanar/libplanar/SparseMatrix", "columnCount", "I", (.int (2 : Int32))), ("com/example/libplanar/libplanar/SparseMatrix", "rowStart", "[I", (.ref ks)), ("com/example/libplanar/libplanar/SparseMatrix", "columns", "[I", (.ref kc)), ("com/example/libplanar/libplanar/SparseMatrix", "values", "[D", (.ref kv))]), (ab, DA Z [(f_small x1 (0 : Int32)), (f_small x1 (1 : Int32)), (f_small x1 (2 : Int32))]), (ax, DA Z [(f_small x1 (3 : Int32)), (f_small x1 (4 : Int32)), (f_small x1 (5 : Int32))]), (ay, DA Z [(own_upd (f_c x0 x3 (2 : Int32) (0 : Int32)) (f_c x0 x3 (2 : Int32) (1 : Int32)) (f_c x0 x3 (2 : Int32) (2 : Int32)) (f_small x1 (3 : Int32)) yy0 (f_small x1 (5 : Int32)) (f_small x1 (0 : Int32)) (f_dv x2 (0 : Int32)) (f_small x1 (3 : Int32))), yy0, (f_small x1 (5 : Int32))]), (ag, DA Z [(f_dv x2 (0 : Int32)), (f_dv x2 (1 : Int32)), (f_dv x2 (2 : Int32))])] 8 39 558 #[.val (.long x0), .second, .val (.int x1), .val (.int x2), .val (.int x3), .val (.int (2 : Int32)), .val (.int (0 : Int32)), .val (.ref kc), .val (.ref kv), .val (.ref ks), .val (.int (Int32.ofNat (P3 ++ R1 ++ R2).length)), .val (.ref p1), .val (.ref ab), .val (.ref ax), .val (.ref ay), .val (.ref ag)] []
        rw [ey1]
        show Go _ _ _ _ _ _ _ _ _ _ _ _ [(kc, IA Z .int (ints (own_c (P3 ++ R1 ++ R2)))), (kv, DA Z (own_v (P3 ++ R1 ++ R2))), (ks, IA Z .int (ints [(0 : Int32), (Int32.ofNat P3.length), (Int32.ofNat (P3 ++ R1).length), (Int32.ofNat (P3 ++ R1 ++ R2).length)])), (p1, OB Z a0 "com/example/libplanar/libplanar/SparseMatrix" [("com/example/libplanar/libplanar/SparseMatrix", "rows", "I", (.int (2 : Int32))), ("com/example/libplanar/libplanar/SparseMatrix", "columnCount", "I", (.int (2 : Int32))), ("com/example/libplanar/libplanar/SparseMatrix", "rowStart", "[I", (.ref ks)), ("com/example/libplanar/libplanar/SparseMatrix", "columns", "[I", (.ref kc)), ("com/example/libplanar/libplanar/SparseMatrix", "values", "[D", (.ref kv))]), (ab, DA Z [(f_small x1 (0 : Int32)), (f_small x1 (1 : Int32)), (f_small x1 (2 : Int32))]), (ax, DA Z [(f_small x1 (3 : Int32)), (f_small x1 (4 : Int32)), (f_small x1 (5 : Int32))]), (ay, DA Z [yy1, yy0, (f_small x1 (5 : Int32))]), (ag, DA Z [(f_dv x2 (0 : Int32)), (f_dv x2 (1 : Int32)), (f_dv x2 (2 : Int32))])] 8 39 558 #[.val (.long x0), .second, .val (.int x1), .val (.int x2), .val (.int x3), .val (.int (2 : Int32)), .val (.int (0 : Int32)), .val (.ref kc), .val (.ref kv), .val (.ref ks), .val (.int (Int32.ofNat (P3 ++ R1 ++ R2).length)), .val (.ref p1), .val (.ref ab), .val (.ref ax), .val (.ref ay), .val (.ref ag)] []
        refine g_aload C 560 at_558 rfl rfl rfl ?_
        refine g_aload C 562 at_560 rfl rfl rfl ?_
        refine g_aload C 564 at_562 rfl rfl rfl ?_
        refine g_aload C 566 at_564 rfl rfl rfl ?_
        refine g_iload C 568 at_566 rfl rfl ?_
        refine g_virtual C 571 0 (i := 3) (argsL := [(.ref ag), (.ref ab), (.ref ax), (.int (0 : Int32))]) (St := []) rfl (con_gs20 l Z a0 C.2.2.1 h0 kc kv ks p1 ab ax ag (ay, DA Z [yy1, yy0, (f_small x1 (5 : Int32))]) P3 R1 R2 (f_small x1 (0 : Int32)) (f_small x1 (1 : Int32)) (f_small x1 (2 : Int32)) (f_small x1 (3 : Int32)) (f_small x1 (4 : Int32)) (f_small x1 (5 : Int32)) (f_dv x2 (0 : Int32)) (f_dv x2 (1 : Int32)) (f_dv x2 (2 : Int32)) zz0 zz1 hl9 A0 NA0 NB0 ez0 A1 NA1 NB1 ez1) (List.mem_of_getElem? (i := 38) rfl) (List.mem_of_getElem? (i := 39) rfl) (List.mem_of_getElem? (i := 41) rfl) (List.mem_of_getElem? (i := 40) rfl) (List.mem_of_getElem? (i := 15) rfl) (List.mem_of_getElem? (i := 42) rfl) (by decide) at_568 rfl rfl (lenOf (ps := [(.array .double), (.array .double), (.array .double), .boolean]) (r := none) (by decide) rfl) rfl (Nat.le_of_eq rfl) (by decide) (by decide) (by decide) (by decide) ?_
        rintro _ _ ⟨rfl, rfl⟩
        show Go _ _ _ _ _ _ _ _ _ _ _ _ [(kc, IA Z .int (ints (own_c (P3 ++ R1 ++ R2)))), (kv, DA Z (own_v (P3 ++ R1 ++ R2))), (ks, IA Z .int (ints [(0 : Int32), (Int32.ofNat P3.length), (Int32.ofNat (P3 ++ R1).length), (Int32.ofNat (P3 ++ R1 ++ R2).length)])), (p1, OB Z a0 "com/example/libplanar/libplanar/SparseMatrix" [("com/example/libplanar/libplanar/SparseMatrix", "rows", "I", (.int (2 : Int32))), ("com/example/libplanar/libplanar/SparseMatrix", "columnCount", "I", (.int (2 : Int32))), ("com/example/libplanar/libplanar/SparseMatrix", "rowStart", "[I", (.ref ks)), ("com/example/libplanar/libplanar/SparseMatrix", "columns", "[I", (.ref kc)), ("com/example/libplanar/libplanar/SparseMatrix", "values", "[D", (.ref kv))]), (ab, DA Z [(f_small x1 (0 : Int32)), (f_small x1 (1 : Int32)), (f_small x1 (2 : Int32))]), (ax, DA Z [zz1, zz0, (f_small x1 (5 : Int32))]), (ay, DA Z [yy1, yy0, (f_small x1 (5 : Int32))]), (ag, DA Z [(f_dv x2 (0 : Int32)), (f_dv x2 (1 : Int32)), (f_dv x2 (2 : Int32))])] 8 39 571 #[.val (.long x0), .second, .val (.int x1), .val (.int x2), .val (.int x3), .val (.int (2 : Int32)), .val (.int (0 : Int32)), .val (.ref kc), .val (.ref kv), .val (.ref ks), .val (.int (Int32.ofNat (P3 ++ R1 ++ R2).length)), .val (.ref p1), .val (.ref ab), .val (.ref ax), .val (.ref ay), .val (.ref ag)] []
        refine g_aload C 573 at_571 rfl rfl rfl ?_
        refine g_iconst C 574 (0 : Int32) at_573 rfl rfl ?_
        refine g_daload C 575 (i := 5) rfl at_574 rfl (by decide) zz1 rfl ?_
        refine g_aload C 577 at_575 rfl rfl rfl ?_
        refine g_iconst C 578 (0 : Int32) at_577 rfl rfl ?_
        refine g_daload C 579 (i := 6) rfl at_578 rfl (by decide) yy1 rfl ?_
        refine g_dcmp C 580 at_579 rfl ?_
        refine g_ifN C 583 at_580 (teq ((DV.eq DZ1 DY1 _) : (cmpValue (FP.dcmp zz1 yy1) .l) = (0 : Int32))).2 rfl ?_
        refine g_aload C 585 at_583 rfl rfl rfl ?_
        refine g_iconst C 586 (1 : Int32) at_585 rfl rfl ?_
        refine g_daload C 587 (i := 5) rfl at_586 rfl (by decide) zz0 rfl ?_
        refine g_aload C 589 at_587 rfl rfl rfl ?_
        refine g_iconst C 590 (1 : Int32) at_589 rfl rfl ?_
        refine g_daload C 591 (i := 6) rfl at_590 rfl (by decide) yy0 rfl ?_
        refine g_dcmp C 592 at_591 rfl ?_
        refine g_ifN C 595 at_592 (teq ((DV.eq DZ0 DY0 _) : (cmpValue (FP.dcmp zz0 yy0) .l) = (0 : Int32))).2 rfl ?_
        refine g_aload C 597 at_595 rfl rfl rfl ?_
        refine g_iconst C 598 (2 : Int32) at_597 rfl rfl ?_
        refine g_daload C 599 (i := 5) rfl at_598 rfl (by decide) (f_small x1 (5 : Int32)) rfl ?_
        refine g_aload C 601 at_599 rfl rfl rfl ?_
        refine g_iconst C 602 (2 : Int32) at_601 rfl rfl ?_
        refine g_daload C 603 (i := 6) rfl at_602 rfl (by decide) (f_small x1 (5 : Int32)) rfl ?_
        refine g_dcmp C 604 at_603 rfl ?_
        refine g_ifN C 607 at_604 (teq ((DV.eq Dx2 Dx2 _) : (cmpValue (FP.dcmp (f_small x1 (5 : Int32)) (f_small x1 (5 : Int32))) .l) = (0 : Int32))).2 rfl ?_
        refine g_iconst C 608 (1 : Int32) at_607 rfl rfl ?_
        refine g_goto C 612 at_608 (by decide) (by decide) ?_
        exact g_nret C (by simp) (z' := (1 : Int32)) (by decide) at_612 (by decide) (by decide) rfl
      · obtain ⟨kb0, Db0, Bb0, Vb0⟩ := own_small x1 (0 : Int32)
        obtain ⟨kb1, Db1, Bb1, Vb1⟩ := own_small x1 (1 : Int32)
        obtain ⟨kb2, Db2, Bb2, Vb2⟩ := own_small x1 (2 : Int32)
        obtain ⟨kx0, Dx0, Bx0, Vx0⟩ := own_small x1 (3 : Int32)
        obtain ⟨kx1, Dx1, Bx1, Vx1⟩ := own_small x1 (4 : Int32)
        obtain ⟨kx2, Dx2, Bx2, Vx2⟩ := own_small x1 (5 : Int32)
        obtain ⟨DD0, Dg0, hD0⟩ := own_dv x2 (0 : Int32)
        obtain ⟨DD1, Dg1, hD1⟩ := own_dv x2 (1 : Int32)
        obtain ⟨DD2, Dg2, hD2⟩ := own_dv x2 (2 : Int32)
        obtain ⟨kk0, zz0, yy0, U0, ey0, DY0, A0, NA0, NB0, ez0, DZ0, BB0, VV0⟩ := own_step 4096 64 512 hR0 Dx0 Dx1 Dx2 Dx0 Dx1 Dx2 Dx0 Dx0 Db0 Dg0 (own_fc x0 x3 (2 : Int32) (0 : Int32)) (own_fc x0 x3 (2 : Int32) (1 : Int32)) (own_fc x0 x3 (2 : Int32) (2 : Int32)) Bx0 Bx1 Bx2 Bx0 Bb0 (own_coef x0 (0 : Int32)) (own_coef x0 (1 : Int32)) (own_coef x0 (2 : Int32)) (by decide) (by decide) Vx0 Vx1 Vx2 Vx0 Vb0 hD0
        obtain ⟨kk1, zz1, yy1, U1, ey1, DY1, A1, NA1, NB1, ez1, DZ1, BB1, VV1⟩ := own_step 106496 8 64 hR1 DZ0 Dx1 Dx2 DY0 Dx1 Dx2 Dx1 Dx1 Db1 Dg1 (own_fc x0 x3 (2 : Int32) (3 : Int32)) (own_fc x0 x3 (2 : Int32) (4 : Int32)) (own_fc x0 x3 (2 : Int32) (5 : Int32)) BB0 (Nat.le_trans Bx1 (by decide)) (Nat.le_trans Bx2 (by decide)) (Nat.le_trans Bx1 (by decide)) Bb1 (own_coef x0 (3 : Int32)) (own_coef x0 (4 : Int32)) (own_coef x0 (5 : Int32)) (by decide) (by decide) VV0 (Int.dvd_trans (by decide : (64 : Int) ∣ 512) Vx1) (Int.dvd_trans (by decide : (64 : Int) ∣ 512) Vx2) (Int.dvd_trans (by decide : (64 : Int) ∣ 512) Vx1) (Int.dvd_trans (by decide : (64 : Int) ∣ 512) Vb1) hD1
        refine g_iload C 428 at_426 rfl rfl ?_
        refine g_ifN C 431 at_428 (feq ((by decide) : ¬ ((1 : Int32) = (0 : Int32)))).1 rfl ?_
        refine g_iload C 433 at_431 rfl rfl ?_
        refine g_ifN C 436 at_433 (tlt ((by decide) : (0 : Int32) < (2 : Int32))).2.2.2 rfl ?_
        refine g_aload C 438 at_436 rfl rfl rfl ?_
        refine g_iconst C 439 (0 : Int32) at_438 rfl rfl ?_
        refine g_aload C 441 at_439 rfl rfl rfl ?_
        refine g_aload C 443 at_441 rfl rfl rfl ?_
        refine g_lloadN C 444 at_443 rfl rfl ?_
        refine g_iload C 446 at_444 rfl rfl ?_
        refine g_iload C 448 at_446 rfl rfl ?_
        refine g_static C 451 0 (argsL := [(.ref ay), (.int (0 : Int32)), (.ref ab), (.ref ag), (.long x0), (.int x3), (.int (2 : Int32))]) (St := []) (con_upd0 l Z a0 C.2.2.1 h0 (kc, IA Z .int (ints (own_c (P3 ++ R1 ++ R2)))) (kv, DA Z (own_v (P3 ++ R1 ++ R2))) (ks, IA Z .int (ints [(0 : Int32), (Int32.ofNat P3.length), (Int32.ofNat (P3 ++ R1).length), (Int32.ofNat (P3 ++ R1 ++ R2).length)])) (p1, OB Z a0 "com/example/libplanar/libplanar/SparseMatrix" [("com/example/libplanar/libplanar/SparseMatrix", "rows", "I", (.int (2 : Int32))), ("com/example/libplanar/libplanar/SparseMatrix", "columnCount", "I", (.int (2 : Int32))), ("com/example/libplanar/libplanar/SparseMatrix", "rowStart", "[I", (.ref ks)), ("com/example/libplanar/libplanar/SparseMatrix", "columns", "[I", (.ref kc)), ("com/example/libplanar/libplanar/SparseMatrix", "values", "[D", (.ref kv))]) (ax, DA Z [(f_small x1 (3 : Int32)), (f_small x1 (4 : Int32)), (f_small x1 (5 : Int32))]) ab ay ag (f_small x1 (0 : Int32)) (f_small x1 (1 : Int32)) (f_small x1 (2 : Int32)) (f_small x1 (3 : Int32)) (f_small x1 (4 : Int32)) (f_small x1 (5 : Int32)) (f_dv x2 (0 : Int32)) (f_dv x2 (1 : Int32)) (f_dv x2 (2 : Int32)) x0 x3 (2 : Int32) U0) (List.mem_of_getElem? (i := 43) rfl) (List.mem_of_getElem? (i := 44) rfl) (List.mem_of_getElem? (i := 4) rfl) (List.mem_of_getElem? (i := 45) rfl) (by decide) at_448 rfl rfl (lenOf (ps := [(.array .double), .int, (.array .double), (.array .double), .long, .int, .int]) (r := none) (by decide) rfl) rfl (Nat.le_of_eq rfl) (by decide) (by decide) (by decide) (by decide) ?_
        rintro _ _ ⟨rfl, rfl⟩
        show Go _ _ _ _ _ _ _ _ _ _ _ _ [(kc, IA Z .int (ints (own_c (P3 ++ R1 ++ R2)))), (kv, DA Z (own_v (P3 ++ R1 ++ R2))), (ks, IA Z .int (ints [(0 : Int32), (Int32.ofNat P3.length), (Int32.ofNat (P3 ++ R1).length), (Int32.ofNat (P3 ++ R1 ++ R2).length)])), (p1, OB Z a0 "com/example/libplanar/libplanar/SparseMatrix" [("com/example/libplanar/libplanar/SparseMatrix", "rows", "I", (.int (2 : Int32))), ("com/example/libplanar/libplanar/SparseMatrix", "columnCount", "I", (.int (2 : Int32))), ("com/example/libplanar/libplanar/SparseMatrix", "rowStart", "[I", (.ref ks)), ("com/example/libplanar/libplanar/SparseMatrix", "columns", "[I", (.ref kc)), ("com/example/libplanar/libplanar/SparseMatrix", "values", "[D", (.ref kv))]), (ab, DA Z [(f_small x1 (0 : Int32)), (f_small x1 (1 : Int32)), (f_small x1 (2 : Int32))]), (ax, DA Z [(f_small x1 (3 : Int32)), (f_small x1 (4 : Int32)), (f_small x1 (5 : Int32))]), (ay, DA Z [(own_upd (f_c x0 x3 (2 : Int32) (0 : Int32)) (f_c x0 x3 (2 : Int32) (1 : Int32)) (f_c x0 x3 (2 : Int32) (2 : Int32)) (f_small x1 (3 : Int32)) (f_small x1 (4 : Int32)) (f_small x1 (5 : Int32)) (f_small x1 (0 : Int32)) (f_dv x2 (0 : Int32)) (f_small x1 (3 : Int32))), (f_small x1 (4 : Int32)), (f_small x1 (5 : Int32))]), (ag, DA Z [(f_dv x2 (0 : Int32)), (f_dv x2 (1 : Int32)), (f_dv x2 (2 : Int32))])] 8 39 451 #[.val (.long x0), .second, .val (.int x1), .val (.int x2), .val (.int x3), .val (.int (2 : Int32)), .val (.int (1 : Int32)), .val (.ref kc), .val (.ref kv), .val (.ref ks), .val (.int (Int32.ofNat (P3 ++ R1 ++ R2).length)), .val (.ref p1), .val (.ref ab), .val (.ref ax), .val (.ref ay), .val (.ref ag)] []
        rw [ey0]
        show Go _ _ _ _ _ _ _ _ _ _ _ _ [(kc, IA Z .int (ints (own_c (P3 ++ R1 ++ R2)))), (kv, DA Z (own_v (P3 ++ R1 ++ R2))), (ks, IA Z .int (ints [(0 : Int32), (Int32.ofNat P3.length), (Int32.ofNat (P3 ++ R1).length), (Int32.ofNat (P3 ++ R1 ++ R2).length)])), (p1, OB Z a0 "com/example/libplanar/libplanar/SparseMatrix" [("com/example/libplanar/libplanar/SparseMatrix", "rows", "I", (.int (2 : Int32))), ("com/example/libplanar/libplanar/SparseMatrix", "columnCount", "I", (.int (2 : Int32))), ("com/example/libplanar/libplanar/SparseMatrix", "rowStart", "[I", (.ref ks)), ("com/example/libplanar/libplanar/SparseMatrix", "columns", "[I", (.ref kc)), ("com/example/libplanar/libplanar/SparseMatrix", "values", "[D", (.ref kv))]), (ab, DA Z [(f_small x1 (0 : Int32)), (f_small x1 (1 : Int32)), (f_small x1 (2 : Int32))]), (ax, DA Z [(f_small x1 (3 : Int32)), (f_small x1 (4 : Int32)), (f_small x1 (5 : Int32))]), (ay, DA Z [yy0, (f_small x1 (4 : Int32)), (f_small x1 (5 : Int32))]), (ag, DA Z [(f_dv x2 (0 : Int32)), (f_dv x2 (1 : Int32)), (f_dv x2 (2 : Int32))])] 8 39 451 #[.val (.long x0), .second, .val (.int x1), .val (.int x2), .val (.int x3), .val (.int (2 : Int32)), .val (.int (1 : Int32)), .val (.ref kc), .val (.ref kv), .val (.ref ks), .val (.int (Int32.ofNat (P3 ++ R1 ++ R2).length)), .val (.ref p1), .val (.ref ab), .val (.ref ax), .val (.ref ay), .val (.ref ag)] []
        refine g_iload C 453 at_451 rfl rfl ?_
        refine g_iconst C 454 (1 : Int32) at_453 rfl rfl ?_
        refine g_icN C 457 at_454 (tlt ((by decide) : (1 : Int32) < (2 : Int32))).2.2.2 rfl ?_
        refine g_aload C 459 at_457 rfl rfl rfl ?_
        refine g_iconst C 460 (1 : Int32) at_459 rfl rfl ?_
        refine g_aload C 462 at_460 rfl rfl rfl ?_
        refine g_aload C 464 at_462 rfl rfl rfl ?_
        refine g_lloadN C 465 at_464 rfl rfl ?_
        refine g_iload C 467 at_465 rfl rfl ?_
        refine g_iload C 469 at_467 rfl rfl ?_
        refine g_static C 472 0 (argsL := [(.ref ay), (.int (1 : Int32)), (.ref ab), (.ref ag), (.long x0), (.int x3), (.int (2 : Int32))]) (St := []) (con_upd1 l Z a0 C.2.2.1 h0 (kc, IA Z .int (ints (own_c (P3 ++ R1 ++ R2)))) (kv, DA Z (own_v (P3 ++ R1 ++ R2))) (ks, IA Z .int (ints [(0 : Int32), (Int32.ofNat P3.length), (Int32.ofNat (P3 ++ R1).length), (Int32.ofNat (P3 ++ R1 ++ R2).length)])) (p1, OB Z a0 "com/example/libplanar/libplanar/SparseMatrix" [("com/example/libplanar/libplanar/SparseMatrix", "rows", "I", (.int (2 : Int32))), ("com/example/libplanar/libplanar/SparseMatrix", "columnCount", "I", (.int (2 : Int32))), ("com/example/libplanar/libplanar/SparseMatrix", "rowStart", "[I", (.ref ks)), ("com/example/libplanar/libplanar/SparseMatrix", "columns", "[I", (.ref kc)), ("com/example/libplanar/libplanar/SparseMatrix", "values", "[D", (.ref kv))]) (ax, DA Z [(f_small x1 (3 : Int32)), (f_small x1 (4 : Int32)), (f_small x1 (5 : Int32))]) ab ay ag (f_small x1 (0 : Int32)) (f_small x1 (1 : Int32)) (f_small x1 (2 : Int32)) yy0 (f_small x1 (4 : Int32)) (f_small x1 (5 : Int32)) (f_dv x2 (0 : Int32)) (f_dv x2 (1 : Int32)) (f_dv x2 (2 : Int32)) x0 x3 (2 : Int32) U1) (List.mem_of_getElem? (i := 43) rfl) (List.mem_of_getElem? (i := 44) rfl) (List.mem_of_getElem? (i := 4) rfl) (List.mem_of_getElem? (i := 45) rfl) (by decide) at_469 rfl rfl (lenOf (ps := [(.array .double), .int, (.array .double), (.array .double), .long, .int, .int]) (r := none) (by decide) rfl) rfl (Nat.le_of_eq rfl) (by decide) (by decide) (by decide) (by decide) ?_
        rintro _ _ ⟨rfl, rfl⟩
        show Go _ _ _ _ _ _ _ _ _ _ _ _ [(kc, IA Z .int (ints (own_c (P3 ++ R1 ++ R2)))), (kv, DA Z (own_v (P3 ++ R1 ++ R2))), (ks, IA Z .int (ints [(0 : Int32), (Int32.ofNat P3.length), (Int32.ofNat (P3 ++ R1).length), (Int32.ofNat (P3 ++ R1 ++ R2).length)])), (p1, OB Z a0 "com/example/libplanar/libplanar/SparseMatrix" [("com/example/libplanar/libplanar/SparseMatrix", "rows", "I", (.int (2 : Int32))), ("com/example/libplanar/libplanar/SparseMatrix", "columnCount", "I", (.int (2 : Int32))), ("com/example/libplanar/libplanar/SparseMatrix", "rowStart", "[I", (.ref ks)), ("com/example/libplanar/libplanar/SparseMatrix", "columns", "[I", (.ref kc)), ("com/example/libplanar/libplanar/SparseMatrix", "values", "[D", (.ref kv))]), (ab, DA Z [(f_small x1 (0 : Int32)), (f_small x1 (1 : Int32)), (f_small x1 (2 : Int32))]), (ax, DA Z [(f_small x1 (3 : Int32)), (f_small x1 (4 : Int32)), (f_small x1 (5 : Int32))]), (ay, DA Z [yy0, (own_upd (f_c x0 x3 (2 : Int32) (3 : Int32)) (f_c x0 x3 (2 : Int32) (4 : Int32)) (f_c x0 x3 (2 : Int32) (5 : Int32)) yy0 (f_small x1 (4 : Int32)) (f_small x1 (5 : Int32)) (f_small x1 (1 : Int32)) (f_dv x2 (1 : Int32)) (f_small x1 (4 : Int32))), (f_small x1 (5 : Int32))]), (ag, DA Z [(f_dv x2 (0 : Int32)), (f_dv x2 (1 : Int32)), (f_dv x2 (2 : Int32))])] 8 39 472 #[.val (.long x0), .second, .val (.int x1), .val (.int x2), .val (.int x3), .val (.int (2 : Int32)), .val (.int (1 : Int32)), .val (.ref kc), .val (.ref kv), .val (.ref ks), .val (.int (Int32.ofNat (P3 ++ R1 ++ R2).length)), .val (.ref p1), .val (.ref ab), .val (.ref ax), .val (.ref ay), .val (.ref ag)] []
        rw [ey1]
        show Go _ _ _ _ _ _ _ _ _ _ _ _ [(kc, IA Z .int (ints (own_c (P3 ++ R1 ++ R2)))), (kv, DA Z (own_v (P3 ++ R1 ++ R2))), (ks, IA Z .int (ints [(0 : Int32), (Int32.ofNat P3.length), (Int32.ofNat (P3 ++ R1).length), (Int32.ofNat (P3 ++ R1 ++ R2).length)])), (p1, OB Z a0 "com/example/libplanar/libplanar/SparseMatrix" [("com/example/libplanar/libplanar/SparseMatrix", "rows", "I", (.int (2 : Int32))), ("com/example/libplanar/libplanar/SparseMatrix", "columnCount", "I", (.int (2 : Int32))), ("com/example/libplanar/libplanar/SparseMatrix", "rowStart", "[I", (.ref ks)), ("com/example/libplanar/libplanar/SparseMatrix", "columns", "[I", (.ref kc)), ("com/example/libplanar/libplanar/SparseMatrix", "values", "[D", (.ref kv))]), (ab, DA Z [(f_small x1 (0 : Int32)), (f_small x1 (1 : Int32)), (f_small x1 (2 : Int32))]), (ax, DA Z [(f_small x1 (3 : Int32)), (f_small x1 (4 : Int32)), (f_small x1 (5 : Int32))]), (ay, DA Z [yy0, yy1, (f_small x1 (5 : Int32))]), (ag, DA Z [(f_dv x2 (0 : Int32)), (f_dv x2 (1 : Int32)), (f_dv x2 (2 : Int32))])] 8 39 472 #[.val (.long x0), .second, .val (.int x1), .val (.int x2), .val (.int x3), .val (.int (2 : Int32)), .val (.int (1 : Int32)), .val (.ref kc), .val (.ref kv), .val (.ref ks), .val (.int (Int32.ofNat (P3 ++ R1 ++ R2).length)), .val (.ref p1), .val (.ref ab), .val (.ref ax), .val (.ref ay), .val (.ref ag)] []
        refine g_iload C 474 at_472 rfl rfl ?_
        refine g_iconst C 475 (2 : Int32) at_474 rfl rfl ?_
        refine g_icY C 558 at_475 (flt ((by decide) : ¬ ((2 : Int32) < (2 : Int32)))).2.2.2 (by decide) (by decide) ?_
        refine g_aload C 560 at_558 rfl rfl rfl ?_
        refine g_aload C 562 at_560 rfl rfl rfl ?_
        refine g_aload C 564 at_562 rfl rfl rfl ?_
        refine g_aload C 566 at_564 rfl rfl rfl ?_
        refine g_iload C 568 at_566 rfl rfl ?_
        refine g_virtual C 571 0 (i := 3) (argsL := [(.ref ag), (.ref ab), (.ref ax), (.int (1 : Int32))]) (St := []) rfl (con_gs21 l Z a0 C.2.2.1 h0 kc kv ks p1 ab ax ag (ay, DA Z [yy0, yy1, (f_small x1 (5 : Int32))]) P3 R1 R2 (f_small x1 (0 : Int32)) (f_small x1 (1 : Int32)) (f_small x1 (2 : Int32)) (f_small x1 (3 : Int32)) (f_small x1 (4 : Int32)) (f_small x1 (5 : Int32)) (f_dv x2 (0 : Int32)) (f_dv x2 (1 : Int32)) (f_dv x2 (2 : Int32)) zz0 zz1 hl9 A0 NA0 NB0 ez0 A1 NA1 NB1 ez1) (List.mem_of_getElem? (i := 38) rfl) (List.mem_of_getElem? (i := 39) rfl) (List.mem_of_getElem? (i := 41) rfl) (List.mem_of_getElem? (i := 40) rfl) (List.mem_of_getElem? (i := 15) rfl) (List.mem_of_getElem? (i := 42) rfl) (by decide) at_568 rfl rfl (lenOf (ps := [(.array .double), (.array .double), (.array .double), .boolean]) (r := none) (by decide) rfl) rfl (Nat.le_of_eq rfl) (by decide) (by decide) (by decide) (by decide) ?_
        rintro _ _ ⟨rfl, rfl⟩
        show Go _ _ _ _ _ _ _ _ _ _ _ _ [(kc, IA Z .int (ints (own_c (P3 ++ R1 ++ R2)))), (kv, DA Z (own_v (P3 ++ R1 ++ R2))), (ks, IA Z .int (ints [(0 : Int32), (Int32.ofNat P3.length), (Int32.ofNat (P3 ++ R1).length), (Int32.ofNat (P3 ++ R1 ++ R2).length)])), (p1, OB Z a0 "com/example/libplanar/libplanar/SparseMatrix" [("com/example/libplanar/libplanar/SparseMatrix", "rows", "I", (.int (2 : Int32))), ("com/example/libplanar/libplanar/SparseMatrix", "columnCount", "I", (.int (2 : Int32))), ("com/example/libplanar/libplanar/SparseMatrix", "rowStart", "[I", (.ref ks)), ("com/example/libplanar/libplanar/SparseMatrix", "columns", "[I", (.ref kc)), ("com/example/libplanar/libplanar/SparseMatrix", "values", "[D", (.ref kv))]), (ab, DA Z [(f_small x1 (0 : Int32)), (f_small x1 (1 : Int32)), (f_small x1 (2 : Int32))]), (ax, DA Z [zz0, zz1, (f_small x1 (5 : Int32))]), (ay, DA Z [yy0, yy1, (f_small x1 (5 : Int32))]), (ag, DA Z [(f_dv x2 (0 : Int32)), (f_dv x2 (1 : Int32)), (f_dv x2 (2 : Int32))])] 8 39 571 #[.val (.long x0), .second, .val (.int x1), .val (.int x2), .val (.int x3), .val (.int (2 : Int32)), .val (.int (1 : Int32)), .val (.ref kc), .val (.ref kv), .val (.ref ks), .val (.int (Int32.ofNat (P3 ++ R1 ++ R2).length)), .val (.ref p1), .val (.ref ab), .val (.ref ax), .val (.ref ay), .val (.ref ag)] []
        refine g_aload C 573 at_571 rfl rfl rfl ?_
        refine g_iconst C 574 (0 : Int32) at_573 rfl rfl ?_
        refine g_daload C 575 (i := 5) rfl at_574 rfl (by decide) zz0 rfl ?_
        refine g_aload C 577 at_575 rfl rfl rfl ?_
        refine g_iconst C 578 (0 : Int32) at_577 rfl rfl ?_
        refine g_daload C 579 (i := 6) rfl at_578 rfl (by decide) yy0 rfl ?_
        refine g_dcmp C 580 at_579 rfl ?_
        refine g_ifN C 583 at_580 (teq ((DV.eq DZ0 DY0 _) : (cmpValue (FP.dcmp zz0 yy0) .l) = (0 : Int32))).2 rfl ?_
        refine g_aload C 585 at_583 rfl rfl rfl ?_
        refine g_iconst C 586 (1 : Int32) at_585 rfl rfl ?_
        refine g_daload C 587 (i := 5) rfl at_586 rfl (by decide) zz1 rfl ?_
        refine g_aload C 589 at_587 rfl rfl rfl ?_
        refine g_iconst C 590 (1 : Int32) at_589 rfl rfl ?_
        refine g_daload C 591 (i := 6) rfl at_590 rfl (by decide) yy1 rfl ?_
        refine g_dcmp C 592 at_591 rfl ?_
        refine g_ifN C 595 at_592 (teq ((DV.eq DZ1 DY1 _) : (cmpValue (FP.dcmp zz1 yy1) .l) = (0 : Int32))).2 rfl ?_
        refine g_aload C 597 at_595 rfl rfl rfl ?_
        refine g_iconst C 598 (2 : Int32) at_597 rfl rfl ?_
        refine g_daload C 599 (i := 5) rfl at_598 rfl (by decide) (f_small x1 (5 : Int32)) rfl ?_
        refine g_aload C 601 at_599 rfl rfl rfl ?_
        refine g_iconst C 602 (2 : Int32) at_601 rfl rfl ?_
        refine g_daload C 603 (i := 6) rfl at_602 rfl (by decide) (f_small x1 (5 : Int32)) rfl ?_
        refine g_dcmp C 604 at_603 rfl ?_
        refine g_ifN C 607 at_604 (teq ((DV.eq Dx2 Dx2 _) : (cmpValue (FP.dcmp (f_small x1 (5 : Int32)) (f_small x1 (5 : Int32))) .l) = (0 : Int32))).2 rfl ?_
        refine g_iconst C 608 (1 : Int32) at_607 rfl rfl ?_
        refine g_goto C 612 at_608 (by decide) (by decide) ?_
        exact g_nret C (by simp) (z' := (1 : Int32)) (by decide) at_612 (by decide) (by decide) rfl
    · obtain rfl | rfl : j2 = (0 : Int32) ∨ j2 = (1 : Int32) := by rw [hj2]; split; exact Or.inl rfl; exact Or.inr rfl
      · obtain ⟨kb0, Db0, Bb0, Vb0⟩ := own_small x1 (0 : Int32)
        obtain ⟨kb1, Db1, Bb1, Vb1⟩ := own_small x1 (1 : Int32)
        obtain ⟨kb2, Db2, Bb2, Vb2⟩ := own_small x1 (2 : Int32)
        obtain ⟨kx0, Dx0, Bx0, Vx0⟩ := own_small x1 (3 : Int32)
        obtain ⟨kx1, Dx1, Bx1, Vx1⟩ := own_small x1 (4 : Int32)
        obtain ⟨kx2, Dx2, Bx2, Vx2⟩ := own_small x1 (5 : Int32)
        obtain ⟨DD0, Dg0, hD0⟩ := own_dv x2 (0 : Int32)
        obtain ⟨DD1, Dg1, hD1⟩ := own_dv x2 (1 : Int32)
        obtain ⟨DD2, Dg2, hD2⟩ := own_dv x2 (2 : Int32)
        obtain ⟨kk0, zz0, yy0, U0, ey0, DY0, A0, NA0, NB0, ez0, DZ0, BB0, VV0⟩ := own_step 4096 64 512 hR2 Dx0 Dx1 Dx2 Dx0 Dx1 Dx2 Dx2 Dx2 Db2 Dg2 (own_fc x0 x3 (3 : Int32) (6 : Int32)) (own_fc x0 x3 (3 : Int32) (7 : Int32)) (own_fc x0 x3 (3 : Int32) (8 : Int32)) Bx0 Bx1 Bx2 Bx2 Bb2 (own_coef x0 (6 : Int32)) (own_coef x0 (7 : Int32)) (own_coef x0 (8 : Int32)) (by decide) (by decide) Vx0 Vx1 Vx2 Vx2 Vb2 hD2
        obtain ⟨kk1, zz1, yy1, U1, ey1, DY1, A1, NA1, NB1, ez1, DZ1, BB1, VV1⟩ := own_step 106496 8 64 hR1 Dx0 Dx1 DZ0 Dx0 Dx1 DY0 Dx1 Dx1 Db1 Dg1 (own_fc x0 x3 (3 : Int32) (3 : Int32)) (own_fc x0 x3 (3 : Int32) (4 : Int32)) (own_fc x0 x3 (3 : Int32) (5 : Int32)) (Nat.le_trans Bx0 (by decide)) (Nat.le_trans Bx1 (by decide)) BB0 (Nat.le_trans Bx1 (by decide)) Bb1 (own_coef x0 (3 : Int32)) (own_coef x0 (4 : Int32)) (own_coef x0 (5 : Int32)) (by decide) (by decide) (Int.dvd_trans (by decide : (64 : Int) ∣ 512) Vx0) (Int.dvd_trans (by decide : (64 : Int) ∣ 512) Vx1) VV0 (Int.dvd_trans (by decide : (64 : Int) ∣ 512) Vx1) (Int.dvd_trans (by decide : (64 : Int) ∣ 512) Vb1) hD1
        obtain ⟨kk2, zz2, yy2, U2, ey2, DY2, A2, NA2, NB2, ez2, DZ2, BB2, VV2⟩ := own_step 2666496 1 8 hR0 Dx0 DZ1 DZ0 Dx0 DY1 DY0 Dx0 Dx0 Db0 Dg0 (own_fc x0 x3 (3 : Int32) (0 : Int32)) (own_fc x0 x3 (3 : Int32) (1 : Int32)) (own_fc x0 x3 (3 : Int32) (2 : Int32)) (Nat.le_trans Bx0 (by decide)) BB1 (Nat.le_trans BB0 (by decide)) (Nat.le_trans Bx0 (by decide)) Bb0 (own_coef x0 (0 : Int32)) (own_coef x0 (1 : Int32)) (own_coef x0 (2 : Int32)) (by decide) (by decide) (Int.dvd_trans (by decide : (8 : Int) ∣ 512) Vx0) VV1 (Int.dvd_trans (by decide : (8 : Int) ∣ 64) VV0) (Int.dvd_trans (by decide : (8 : Int) ∣ 512) Vx0) (Int.dvd_trans (by decide : (8 : Int) ∣ 512) Vb0) hD0
        refine g_iload C 428 at_426 rfl rfl ?_
        refine g_ifY C 496 at_428 (teq ((by decide) : (0 : Int32) = (0 : Int32))).1 (by decide) (by decide) ?_
        refine g_iload C 498 at_496 rfl rfl ?_
        refine g_iconst C 499 (2 : Int32) at_498 rfl rfl ?_
        refine g_icN C 502 at_499 (tlt ((by decide) : (2 : Int32) < (3 : Int32))).2.2.2 rfl ?_
        refine g_aload C 504 at_502 rfl rfl rfl ?_
        refine g_iconst C 505 (2 : Int32) at_504 rfl rfl ?_
        refine g_aload C 507 at_505 rfl rfl rfl ?_
        refine g_aload C 509 at_507 rfl rfl rfl ?_
        refine g_lloadN C 510 at_509 rfl rfl ?_
        refine g_iload C 512 at_510 rfl rfl ?_
        refine g_iload C 514 at_512 rfl rfl ?_
        refine g_static C 517 0 (argsL := [(.ref ay), (.int (2 : Int32)), (.ref ab), (.ref ag), (.long x0), (.int x3), (.int (3 : Int32))]) (St := []) (con_upd2 l Z a0 C.2.2.1 h0 (kc, IA Z .int (ints (own_c (P3 ++ R1 ++ R2)))) (kv, DA Z (own_v (P3 ++ R1 ++ R2))) (ks, IA Z .int (ints [(0 : Int32), (Int32.ofNat P3.length), (Int32.ofNat (P3 ++ R1).length), (Int32.ofNat (P3 ++ R1 ++ R2).length)])) (p1, OB Z a0 "com/example/libplanar/libplanar/SparseMatrix" [("com/example/libplanar/libplanar/SparseMatrix", "rows", "I", (.int (3 : Int32))), ("com/example/libplanar/libplanar/SparseMatrix", "columnCount", "I", (.int (3 : Int32))), ("com/example/libplanar/libplanar/SparseMatrix", "rowStart", "[I", (.ref ks)), ("com/example/libplanar/libplanar/SparseMatrix", "columns", "[I", (.ref kc)), ("com/example/libplanar/libplanar/SparseMatrix", "values", "[D", (.ref kv))]) (ax, DA Z [(f_small x1 (3 : Int32)), (f_small x1 (4 : Int32)), (f_small x1 (5 : Int32))]) ab ay ag (f_small x1 (0 : Int32)) (f_small x1 (1 : Int32)) (f_small x1 (2 : Int32)) (f_small x1 (3 : Int32)) (f_small x1 (4 : Int32)) (f_small x1 (5 : Int32)) (f_dv x2 (0 : Int32)) (f_dv x2 (1 : Int32)) (f_dv x2 (2 : Int32)) x0 x3 (3 : Int32) U0) (List.mem_of_getElem? (i := 43) rfl) (List.mem_of_getElem? (i := 44) rfl) (List.mem_of_getElem? (i := 4) rfl) (List.mem_of_getElem? (i := 45) rfl) (by decide) at_514 rfl rfl (lenOf (ps := [(.array .double), .int, (.array .double), (.array .double), .long, .int, .int]) (r := none) (by decide) rfl) rfl (Nat.le_of_eq rfl) (by decide) (by decide) (by decide) (by decide) ?_
        rintro _ _ ⟨rfl, rfl⟩
        show Go _ _ _ _ _ _ _ _ _ _ _ _ [(kc, IA Z .int (ints (own_c (P3 ++ R1 ++ R2)))), (kv, DA Z (own_v (P3 ++ R1 ++ R2))), (ks, IA Z .int (ints [(0 : Int32), (Int32.ofNat P3.length), (Int32.ofNat (P3 ++ R1).length), (Int32.ofNat (P3 ++ R1 ++ R2).length)])), (p1, OB Z a0 "com/example/libplanar/libplanar/SparseMatrix" [("com/example/libplanar/libplanar/SparseMatrix", "rows", "I", (.int (3 : Int32))), ("com/example/libplanar/libplanar/SparseMatrix", "columnCount", "I", (.int (3 : Int32))), ("com/example/libplanar/libplanar/SparseMatrix", "rowStart", "[I", (.ref ks)), ("com/example/libplanar/libplanar/SparseMatrix", "columns", "[I", (.ref kc)), ("com/example/libplanar/libplanar/SparseMatrix", "values", "[D", (.ref kv))]), (ab, DA Z [(f_small x1 (0 : Int32)), (f_small x1 (1 : Int32)), (f_small x1 (2 : Int32))]), (ax, DA Z [(f_small x1 (3 : Int32)), (f_small x1 (4 : Int32)), (f_small x1 (5 : Int32))]), (ay, DA Z [(f_small x1 (3 : Int32)), (f_small x1 (4 : Int32)), (own_upd (f_c x0 x3 (3 : Int32) (6 : Int32)) (f_c x0 x3 (3 : Int32) (7 : Int32)) (f_c x0 x3 (3 : Int32) (8 : Int32)) (f_small x1 (3 : Int32)) (f_small x1 (4 : Int32)) (f_small x1 (5 : Int32)) (f_small x1 (2 : Int32)) (f_dv x2 (2 : Int32)) (f_small x1 (5 : Int32)))]), (ag, DA Z [(f_dv x2 (0 : Int32)), (f_dv x2 (1 : Int32)), (f_dv x2 (2 : Int32))])] 8 39 517 #[.val (.long x0), .second, .val (.int x1), .val (.int x2), .val (.int x3), .val (.int (3 : Int32)), .val (.int (0 : Int32)), .val (.ref kc), .val (.ref kv), .val (.ref ks), .val (.int (Int32.ofNat (P3 ++ R1 ++ R2).length)), .val (.ref p1), .val (.ref ab), .val (.ref ax), .val (.ref ay), .val (.ref ag)] []
        rw [ey0]
        show Go _ _ _ _ _ _ _ _ _ _ _ _ [(kc, IA Z .int (ints (own_c (P3 ++ R1 ++ R2)))), (kv, DA Z (own_v (P3 ++ R1 ++ R2))), (ks, IA Z .int (ints [(0 : Int32), (Int32.ofNat P3.length), (Int32.ofNat (P3 ++ R1).length), (Int32.ofNat (P3 ++ R1 ++ R2).length)])), (p1, OB Z a0 "com/example/libplanar/libplanar/SparseMatrix" [("com/example/libplanar/libplanar/SparseMatrix", "rows", "I", (.int (3 : Int32))), ("com/example/libplanar/libplanar/SparseMatrix", "columnCount", "I", (.int (3 : Int32))), ("com/example/libplanar/libplanar/SparseMatrix", "rowStart", "[I", (.ref ks)), ("com/example/libplanar/libplanar/SparseMatrix", "columns", "[I", (.ref kc)), ("com/example/libplanar/libplanar/SparseMatrix", "values", "[D", (.ref kv))]), (ab, DA Z [(f_small x1 (0 : Int32)), (f_small x1 (1 : Int32)), (f_small x1 (2 : Int32))]), (ax, DA Z [(f_small x1 (3 : Int32)), (f_small x1 (4 : Int32)), (f_small x1 (5 : Int32))]), (ay, DA Z [(f_small x1 (3 : Int32)), (f_small x1 (4 : Int32)), yy0]), (ag, DA Z [(f_dv x2 (0 : Int32)), (f_dv x2 (1 : Int32)), (f_dv x2 (2 : Int32))])] 8 39 517 #[.val (.long x0), .second, .val (.int x1), .val (.int x2), .val (.int x3), .val (.int (3 : Int32)), .val (.int (0 : Int32)), .val (.ref kc), .val (.ref kv), .val (.ref ks), .val (.int (Int32.ofNat (P3 ++ R1 ++ R2).length)), .val (.ref p1), .val (.ref ab), .val (.ref ax), .val (.ref ay), .val (.ref ag)] []
        refine g_iload C 519 at_517 rfl rfl ?_
        refine g_iconst C 520 (1 : Int32) at_519 rfl rfl ?_
        refine g_icN C 523 at_520 (tlt ((by decide) : (1 : Int32) < (3 : Int32))).2.2.2 rfl ?_
        refine g_aload C 525 at_523 rfl rfl rfl ?_
        refine g_iconst C 526 (1 : Int32) at_525 rfl rfl ?_
        refine g_aload C 528 at_526 rfl rfl rfl ?_
        refine g_aload C 530 at_528 rfl rfl rfl ?_
        refine g_lloadN C 531 at_530 rfl rfl ?_
        refine g_iload C 533 at_531 rfl rfl ?_
        refine g_iload C 535 at_533 rfl rfl ?_
        refine g_static C 538 0 (argsL := [(.ref ay), (.int (1 : Int32)), (.ref ab), (.ref ag), (.long x0), (.int x3), (.int (3 : Int32))]) (St := []) (con_upd1 l Z a0 C.2.2.1 h0 (kc, IA Z .int (ints (own_c (P3 ++ R1 ++ R2)))) (kv, DA Z (own_v (P3 ++ R1 ++ R2))) (ks, IA Z .int (ints [(0 : Int32), (Int32.ofNat P3.length), (Int32.ofNat (P3 ++ R1).length), (Int32.ofNat (P3 ++ R1 ++ R2).length)])) (p1, OB Z a0 "com/example/libplanar/libplanar/SparseMatrix" [("com/example/libplanar/libplanar/SparseMatrix", "rows", "I", (.int (3 : Int32))), ("com/example/libplanar/libplanar/SparseMatrix", "columnCount", "I", (.int (3 : Int32))), ("com/example/libplanar/libplanar/SparseMatrix", "rowStart", "[I", (.ref ks)), ("com/example/libplanar/libplanar/SparseMatrix", "columns", "[I", (.ref kc)), ("com/example/libplanar/libplanar/SparseMatrix", "values", "[D", (.ref kv))]) (ax, DA Z [(f_small x1 (3 : Int32)), (f_small x1 (4 : Int32)), (f_small x1 (5 : Int32))]) ab ay ag (f_small x1 (0 : Int32)) (f_small x1 (1 : Int32)) (f_small x1 (2 : Int32)) (f_small x1 (3 : Int32)) (f_small x1 (4 : Int32)) yy0 (f_dv x2 (0 : Int32)) (f_dv x2 (1 : Int32)) (f_dv x2 (2 : Int32)) x0 x3 (3 : Int32) U1) (List.mem_of_getElem? (i := 43) rfl) (List.mem_of_getElem? (i := 44) rfl) (List.mem_of_getElem? (i := 4) rfl) (List.mem_of_getElem? (i := 45) rfl) (by decide) at_535 rfl rfl (lenOf (ps := [(.array .double), .int, (.array .double), (.array .double), .long, .int, .int]) (r := none) (by decide) rfl) rfl (Nat.le_of_eq rfl) (by decide) (by decide) (by decide) (by decide) ?_
        rintro _ _ ⟨rfl, rfl⟩
        show Go _ _ _ _ _ _ _ _ _ _ _ _ [(kc, IA Z .int (ints (own_c (P3 ++ R1 ++ R2)))), (kv, DA Z (own_v (P3 ++ R1 ++ R2))), (ks, IA Z .int (ints [(0 : Int32), (Int32.ofNat P3.length), (Int32.ofNat (P3 ++ R1).length), (Int32.ofNat (P3 ++ R1 ++ R2).length)])), (p1, OB Z a0 "com/example/libplanar/libplanar/SparseMatrix" [("com/example/libplanar/libplanar/SparseMatrix", "rows", "I", (.int (3 : Int32))), ("com/example/libplanar/libplanar/SparseMatrix", "columnCount", "I", (.int (3 : Int32))), ("com/example/libplanar/libplanar/SparseMatrix", "rowStart", "[I", (.ref ks)), ("com/example/libplanar/libplanar/SparseMatrix", "columns", "[I", (.ref kc)), ("com/example/libplanar/libplanar/SparseMatrix", "values", "[D", (.ref kv))]), (ab, DA Z [(f_small x1 (0 : Int32)), (f_small x1 (1 : Int32)), (f_small x1 (2 : Int32))]), (ax, DA Z [(f_small x1 (3 : Int32)), (f_small x1 (4 : Int32)), (f_small x1 (5 : Int32))]), (ay, DA Z [(f_small x1 (3 : Int32)), (own_upd (f_c x0 x3 (3 : Int32) (3 : Int32)) (f_c x0 x3 (3 : Int32) (4 : Int32)) (f_c x0 x3 (3 : Int32) (5 : Int32)) (f_small x1 (3 : Int32)) (f_small x1 (4 : Int32)) yy0 (f_small x1 (1 : Int32)) (f_dv x2 (1 : Int32)) (f_small x1 (4 : Int32))), yy0]), (ag, DA Z [(f_dv x2 (0 : Int32)), (f_dv x2 (1 : Int32)), (f_dv x2 (2 : Int32))])] 8 39 538 #[.val (.long x0), .second, .val (.int x1), .val (.int x2), .val (.int x3), .val (.int (3 : Int32)), .val (.int (0 : Int32)), .val (.ref kc), .val (.ref kv), .val (.ref ks), .val (.int (Int32.ofNat (P3 ++ R1 ++ R2).length)), .val (.ref p1), .val (.ref ab), .val (.ref ax), .val (.ref ay), .val (.ref ag)] []
        rw [ey1]
        show Go _ _ _ _ _ _ _ _ _ _ _ _ [(kc, IA Z .int (ints (own_c (P3 ++ R1 ++ R2)))), (kv, DA Z (own_v (P3 ++ R1 ++ R2))), (ks, IA Z .int (ints [(0 : Int32), (Int32.ofNat P3.length), (Int32.ofNat (P3 ++ R1).length), (Int32.ofNat (P3 ++ R1 ++ R2).length)])), (p1, OB Z a0 "com/example/libplanar/libplanar/SparseMatrix" [("com/example/libplanar/libplanar/SparseMatrix", "rows", "I", (.int (3 : Int32))), ("com/example/libplanar/libplanar/SparseMatrix", "columnCount", "I", (.int (3 : Int32))), ("com/example/libplanar/libplanar/SparseMatrix", "rowStart", "[I", (.ref ks)), ("com/example/libplanar/libplanar/SparseMatrix", "columns", "[I", (.ref kc)), ("com/example/libplanar/libplanar/SparseMatrix", "values", "[D", (.ref kv))]), (ab, DA Z [(f_small x1 (0 : Int32)), (f_small x1 (1 : Int32)), (f_small x1 (2 : Int32))]), (ax, DA Z [(f_small x1 (3 : Int32)), (f_small x1 (4 : Int32)), (f_small x1 (5 : Int32))]), (ay, DA Z [(f_small x1 (3 : Int32)), yy1, yy0]), (ag, DA Z [(f_dv x2 (0 : Int32)), (f_dv x2 (1 : Int32)), (f_dv x2 (2 : Int32))])] 8 39 538 #[.val (.long x0), .second, .val (.int x1), .val (.int x2), .val (.int x3), .val (.int (3 : Int32)), .val (.int (0 : Int32)), .val (.ref kc), .val (.ref kv), .val (.ref ks), .val (.int (Int32.ofNat (P3 ++ R1 ++ R2).length)), .val (.ref p1), .val (.ref ab), .val (.ref ax), .val (.ref ay), .val (.ref ag)] []
        refine g_iload C 540 at_538 rfl rfl ?_
        refine g_ifN C 543 at_540 (tlt ((by decide) : (0 : Int32) < (3 : Int32))).2.2.2 rfl ?_
        refine g_aload C 545 at_543 rfl rfl rfl ?_
        refine g_iconst C 546 (0 : Int32) at_545 rfl rfl ?_
        refine g_aload C 548 at_546 rfl rfl rfl ?_
        refine g_aload C 550 at_548 rfl rfl rfl ?_
        refine g_lloadN C 551 at_550 rfl rfl ?_
        refine g_iload C 553 at_551 rfl rfl ?_
        refine g_iload C 555 at_553 rfl rfl ?_
        refine g_static C 558 0 (argsL := [(.ref ay), (.int (0 : Int32)), (.ref ab), (.ref ag), (.long x0), (.int x3), (.int (3 : Int32))]) (St := []) (con_upd0 l Z a0 C.2.2.1 h0 (kc, IA Z .int (ints (own_c (P3 ++ R1 ++ R2)))) (kv, DA Z (own_v (P3 ++ R1 ++ R2))) (ks, IA Z .int (ints [(0 : Int32), (Int32.ofNat P3.length), (Int32.ofNat (P3 ++ R1).length), (Int32.ofNat (P3 ++ R1 ++ R2).length)])) (p1, OB Z a0 "com/example/libplanar/libplanar/SparseMatrix" [("com/example/libplanar/libplanar/SparseMatrix", "rows", "I", (.int (3 : Int32))), ("com/example/libplanar/libplanar/SparseMatrix", "columnCount", "I", (.int (3 : Int32))), ("com/example/libplanar/libplanar/SparseMatrix", "rowStart", "[I", (.ref ks)), ("com/example/libplanar/libplanar/SparseMatrix", "columns", "[I", (.ref kc)), ("com/example/libplanar/libplanar/SparseMatrix", "values", "[D", (.ref kv))]) (ax, DA Z [(f_small x1 (3 : Int32)), (f_small x1 (4 : Int32)), (f_small x1 (5 : Int32))]) ab ay ag (f_small x1 (0 : Int32)) (f_small x1 (1 : Int32)) (f_small x1 (2 : Int32)) (f_small x1 (3 : Int32)) yy1 yy0 (f_dv x2 (0 : Int32)) (f_dv x2 (1 : Int32)) (f_dv x2 (2 : Int32)) x0 x3 (3 : Int32) U2) (List.mem_of_getElem? (i := 43) rfl) (List.mem_of_getElem? (i := 44) rfl) (List.mem_of_getElem? (i := 4) rfl) (List.mem_of_getElem? (i := 45) rfl) (by decide) at_555 rfl rfl (lenOf (ps := [(.array .double), .int, (.array .double), (.array .double), .long, .int, .int]) (r := none) (by decide) rfl) rfl (Nat.le_of_eq rfl) (by decide) (by decide) (by decide) (by decide) ?_
        rintro _ _ ⟨rfl, rfl⟩
        show Go _ _ _ _ _ _ _ _ _ _ _ _ [(kc, IA Z .int (ints (own_c (P3 ++ R1 ++ R2)))), (kv, DA Z (own_v (P3 ++ R1 ++ R2))), (ks, IA Z .int (ints [(0 : Int32), (Int32.ofNat P3.length), (Int32.ofNat (P3 ++ R1).length), (Int32.ofNat (P3 ++ R1 ++ R2).length)])), (p1, OB Z a0 "com/example/libplanar/libplanar/SparseMatrix" [("com/example/libplanar/libplanar/SparseMatrix", "rows", "I", (.int (3 : Int32))), ("com/example/libplanar/libplanar/SparseMatrix", "columnCount", "I", (.int (3 : Int32))), ("com/example/libplanar/libplanar/SparseMatrix", "rowStart", "[I", (.ref ks)), ("com/example/libplanar/libplanar/SparseMatrix", "columns", "[I", (.ref kc)), ("com/example/libplanar/libplanar/SparseMatrix", "values", "[D", (.ref kv))]), (ab, DA Z [(f_small x1 (0 : Int32)), (f_small x1 (1 : Int32)), (f_small x1 (2 : Int32))]), (ax, DA Z [(f_small x1 (3 : Int32)), (f_small x1 (4 : Int32)), (f_small x1 (5 : Int32))]), (ay, DA Z [(own_upd (f_c x0 x3 (3 : Int32) (0 : Int32)) (f_c x0 x3 (3 : Int32) (1 : Int32)) (f_c x0 x3 (3 : Int32) (2 : Int32)) (f_small x1 (3 : Int32)) yy1 yy0 (f_small x1 (0 : Int32)) (f_dv x2 (0 : Int32)) (f_small x1 (3 : Int32))), yy1, yy0]), (ag, DA Z [(f_dv x2 (0 : Int32)), (f_dv x2 (1 : Int32)), (f_dv x2 (2 : Int32))])] 8 39 558 #[.val (.long x0), .second, .val (.int x1), .val (.int x2), .val (.int x3), .val (.int (3 : Int32)), .val (.int (0 : Int32)), .val (.ref kc), .val (.ref kv), .val (.ref ks), .val (.int (Int32.ofNat (P3 ++ R1 ++ R2).length)), .val (.ref p1), .val (.ref ab), .val (.ref ax), .val (.ref ay), .val (.ref ag)] []
        rw [ey2]
        show Go _ _ _ _ _ _ _ _ _ _ _ _ [(kc, IA Z .int (ints (own_c (P3 ++ R1 ++ R2)))), (kv, DA Z (own_v (P3 ++ R1 ++ R2))), (ks, IA Z .int (ints [(0 : Int32), (Int32.ofNat P3.length), (Int32.ofNat (P3 ++ R1).length), (Int32.ofNat (P3 ++ R1 ++ R2).length)])), (p1, OB Z a0 "com/example/libplanar/libplanar/SparseMatrix" [("com/example/libplanar/libplanar/SparseMatrix", "rows", "I", (.int (3 : Int32))), ("com/example/libplanar/libplanar/SparseMatrix", "columnCount", "I", (.int (3 : Int32))), ("com/example/libplanar/libplanar/SparseMatrix", "rowStart", "[I", (.ref ks)), ("com/example/libplanar/libplanar/SparseMatrix", "columns", "[I", (.ref kc)), ("com/example/libplanar/libplanar/SparseMatrix", "values", "[D", (.ref kv))]), (ab, DA Z [(f_small x1 (0 : Int32)), (f_small x1 (1 : Int32)), (f_small x1 (2 : Int32))]), (ax, DA Z [(f_small x1 (3 : Int32)), (f_small x1 (4 : Int32)), (f_small x1 (5 : Int32))]), (ay, DA Z [yy2, yy1, yy0]), (ag, DA Z [(f_dv x2 (0 : Int32)), (f_dv x2 (1 : Int32)), (f_dv x2 (2 : Int32))])] 8 39 558 #[.val (.long x0), .second, .val (.int x1), .val (.int x2), .val (.int x3), .val (.int (3 : Int32)), .val (.int (0 : Int32)), .val (.ref kc), .val (.ref kv), .val (.ref ks), .val (.int (Int32.ofNat (P3 ++ R1 ++ R2).length)), .val (.ref p1), .val (.ref ab), .val (.ref ax), .val (.ref ay), .val (.ref ag)] []
        refine g_aload C 560 at_558 rfl rfl rfl ?_
        refine g_aload C 562 at_560 rfl rfl rfl ?_
        refine g_aload C 564 at_562 rfl rfl rfl ?_
        refine g_aload C 566 at_564 rfl rfl rfl ?_
        refine g_iload C 568 at_566 rfl rfl ?_
        refine g_virtual C 571 0 (i := 3) (argsL := [(.ref ag), (.ref ab), (.ref ax), (.int (0 : Int32))]) (St := []) rfl (con_gs30 l Z a0 C.2.2.1 h0 kc kv ks p1 ab ax ag (ay, DA Z [yy2, yy1, yy0]) P3 R1 R2 (f_small x1 (0 : Int32)) (f_small x1 (1 : Int32)) (f_small x1 (2 : Int32)) (f_small x1 (3 : Int32)) (f_small x1 (4 : Int32)) (f_small x1 (5 : Int32)) (f_dv x2 (0 : Int32)) (f_dv x2 (1 : Int32)) (f_dv x2 (2 : Int32)) zz0 zz1 zz2 hl9 A0 NA0 NB0 ez0 A1 NA1 NB1 ez1 A2 NA2 NB2 ez2) (List.mem_of_getElem? (i := 38) rfl) (List.mem_of_getElem? (i := 39) rfl) (List.mem_of_getElem? (i := 41) rfl) (List.mem_of_getElem? (i := 40) rfl) (List.mem_of_getElem? (i := 15) rfl) (List.mem_of_getElem? (i := 42) rfl) (by decide) at_568 rfl rfl (lenOf (ps := [(.array .double), (.array .double), (.array .double), .boolean]) (r := none) (by decide) rfl) rfl (Nat.le_of_eq rfl) (by decide) (by decide) (by decide) (by decide) ?_
        rintro _ _ ⟨rfl, rfl⟩
        show Go _ _ _ _ _ _ _ _ _ _ _ _ [(kc, IA Z .int (ints (own_c (P3 ++ R1 ++ R2)))), (kv, DA Z (own_v (P3 ++ R1 ++ R2))), (ks, IA Z .int (ints [(0 : Int32), (Int32.ofNat P3.length), (Int32.ofNat (P3 ++ R1).length), (Int32.ofNat (P3 ++ R1 ++ R2).length)])), (p1, OB Z a0 "com/example/libplanar/libplanar/SparseMatrix" [("com/example/libplanar/libplanar/SparseMatrix", "rows", "I", (.int (3 : Int32))), ("com/example/libplanar/libplanar/SparseMatrix", "columnCount", "I", (.int (3 : Int32))), ("com/example/libplanar/libplanar/SparseMatrix", "rowStart", "[I", (.ref ks)), ("com/example/libplanar/libplanar/SparseMatrix", "columns", "[I", (.ref kc)), ("com/example/libplanar/libplanar/SparseMatrix", "values", "[D", (.ref kv))]), (ab, DA Z [(f_small x1 (0 : Int32)), (f_small x1 (1 : Int32)), (f_small x1 (2 : Int32))]), (ax, DA Z [zz2, zz1, zz0]), (ay, DA Z [yy2, yy1, yy0]), (ag, DA Z [(f_dv x2 (0 : Int32)), (f_dv x2 (1 : Int32)), (f_dv x2 (2 : Int32))])] 8 39 571 #[.val (.long x0), .second, .val (.int x1), .val (.int x2), .val (.int x3), .val (.int (3 : Int32)), .val (.int (0 : Int32)), .val (.ref kc), .val (.ref kv), .val (.ref ks), .val (.int (Int32.ofNat (P3 ++ R1 ++ R2).length)), .val (.ref p1), .val (.ref ab), .val (.ref ax), .val (.ref ay), .val (.ref ag)] []
        refine g_aload C 573 at_571 rfl rfl rfl ?_
        refine g_iconst C 574 (0 : Int32) at_573 rfl rfl ?_
        refine g_daload C 575 (i := 5) rfl at_574 rfl (by decide) zz2 rfl ?_
        refine g_aload C 577 at_575 rfl rfl rfl ?_
        refine g_iconst C 578 (0 : Int32) at_577 rfl rfl ?_
        refine g_daload C 579 (i := 6) rfl at_578 rfl (by decide) yy2 rfl ?_
        refine g_dcmp C 580 at_579 rfl ?_
        refine g_ifN C 583 at_580 (teq ((DV.eq DZ2 DY2 _) : (cmpValue (FP.dcmp zz2 yy2) .l) = (0 : Int32))).2 rfl ?_
        refine g_aload C 585 at_583 rfl rfl rfl ?_
        refine g_iconst C 586 (1 : Int32) at_585 rfl rfl ?_
        refine g_daload C 587 (i := 5) rfl at_586 rfl (by decide) zz1 rfl ?_
        refine g_aload C 589 at_587 rfl rfl rfl ?_
        refine g_iconst C 590 (1 : Int32) at_589 rfl rfl ?_
        refine g_daload C 591 (i := 6) rfl at_590 rfl (by decide) yy1 rfl ?_
        refine g_dcmp C 592 at_591 rfl ?_
        refine g_ifN C 595 at_592 (teq ((DV.eq DZ1 DY1 _) : (cmpValue (FP.dcmp zz1 yy1) .l) = (0 : Int32))).2 rfl ?_
        refine g_aload C 597 at_595 rfl rfl rfl ?_
        refine g_iconst C 598 (2 : Int32) at_597 rfl rfl ?_
        refine g_daload C 599 (i := 5) rfl at_598 rfl (by decide) zz0 rfl ?_
        refine g_aload C 601 at_599 rfl rfl rfl ?_
        refine g_iconst C 602 (2 : Int32) at_601 rfl rfl ?_
        refine g_daload C 603 (i := 6) rfl at_602 rfl (by decide) yy0 rfl ?_
        refine g_dcmp C 604 at_603 rfl ?_
        refine g_ifN C 607 at_604 (teq ((DV.eq DZ0 DY0 _) : (cmpValue (FP.dcmp zz0 yy0) .l) = (0 : Int32))).2 rfl ?_
        refine g_iconst C 608 (1 : Int32) at_607 rfl rfl ?_
        refine g_goto C 612 at_608 (by decide) (by decide) ?_
        exact g_nret C (by simp) (z' := (1 : Int32)) (by decide) at_612 (by decide) (by decide) rfl
      · obtain ⟨kb0, Db0, Bb0, Vb0⟩ := own_small x1 (0 : Int32)
        obtain ⟨kb1, Db1, Bb1, Vb1⟩ := own_small x1 (1 : Int32)
        obtain ⟨kb2, Db2, Bb2, Vb2⟩ := own_small x1 (2 : Int32)
        obtain ⟨kx0, Dx0, Bx0, Vx0⟩ := own_small x1 (3 : Int32)
        obtain ⟨kx1, Dx1, Bx1, Vx1⟩ := own_small x1 (4 : Int32)
        obtain ⟨kx2, Dx2, Bx2, Vx2⟩ := own_small x1 (5 : Int32)
        obtain ⟨DD0, Dg0, hD0⟩ := own_dv x2 (0 : Int32)
        obtain ⟨DD1, Dg1, hD1⟩ := own_dv x2 (1 : Int32)
        obtain ⟨DD2, Dg2, hD2⟩ := own_dv x2 (2 : Int32)
        obtain ⟨kk0, zz0, yy0, U0, ey0, DY0, A0, NA0, NB0, ez0, DZ0, BB0, VV0⟩ := own_step 4096 64 512 hR0 Dx0 Dx1 Dx2 Dx0 Dx1 Dx2 Dx0 Dx0 Db0 Dg0 (own_fc x0 x3 (3 : Int32) (0 : Int32)) (own_fc x0 x3 (3 : Int32) (1 : Int32)) (own_fc x0 x3 (3 : Int32) (2 : Int32)) Bx0 Bx1 Bx2 Bx0 Bb0 (own_coef x0 (0 : Int32)) (own_coef x0 (1 : Int32)) (own_coef x0 (2 : Int32)) (by decide) (by decide) Vx0 Vx1 Vx2 Vx0 Vb0 hD0
        obtain ⟨kk1, zz1, yy1, U1, ey1, DY1, A1, NA1, NB1, ez1, DZ1, BB1, VV1⟩ := own_step 106496 8 64 hR1 DZ0 Dx1 Dx2 DY0 Dx1 Dx2 Dx1 Dx1 Db1 Dg1 (own_fc x0 x3 (3 : Int32) (3 : Int32)) (own_fc x0 x3 (3 : Int32) (4 : Int32)) (own_fc x0 x3 (3 : Int32) (5 : Int32)) BB0 (Nat.le_trans Bx1 (by decide)) (Nat.le_trans Bx2 (by decide)) (Nat.le_trans Bx1 (by decide)) Bb1 (own_coef x0 (3 : Int32)) (own_coef x0 (4 : Int32)) (own_coef x0 (5 : Int32)) (by decide) (by decide) VV0 (Int.dvd_trans (by decide : (64 : Int) ∣ 512) Vx1) (Int.dvd_trans (by decide : (64 : Int) ∣ 512) Vx2) (Int.dvd_trans (by decide : (64 : Int) ∣ 512) Vx1) (Int.dvd_trans (by decide : (64 : Int) ∣ 512) Vb1) hD1
        obtain ⟨kk2, zz2, yy2, U2, ey2, DY2, A2, NA2, NB2, ez2, DZ2, BB2, VV2⟩ := own_step 2666496 1 8 hR2 DZ0 DZ1 Dx2 DY0 DY1 Dx2 Dx2 Dx2 Db2 Dg2 (own_fc x0 x3 (3 : Int32) (6 : Int32)) (own_fc x0 x3 (3 : Int32) (7 : Int32)) (own_fc x0 x3 (3 : Int32) (8 : Int32)) (Nat.le_trans BB0 (by decide)) BB1 (Nat.le_trans Bx2 (by decide)) (Nat.le_trans Bx2 (by decide)) Bb2 (own_coef x0 (6 : Int32)) (own_coef x0 (7 : Int32)) (own_coef x0 (8 : Int32)) (by decide) (by decide) (Int.dvd_trans (by decide : (8 : Int) ∣ 64) VV0) VV1 (Int.dvd_trans (by decide : (8 : Int) ∣ 512) Vx2) (Int.dvd_trans (by decide : (8 : Int) ∣ 512) Vx2) (Int.dvd_trans (by decide : (8 : Int) ∣ 512) Vb2) hD2
        refine g_iload C 428 at_426 rfl rfl ?_
        refine g_ifN C 431 at_428 (feq ((by decide) : ¬ ((1 : Int32) = (0 : Int32)))).1 rfl ?_
        refine g_iload C 433 at_431 rfl rfl ?_
        refine g_ifN C 436 at_433 (tlt ((by decide) : (0 : Int32) < (3 : Int32))).2.2.2 rfl ?_
        refine g_aload C 438 at_436 rfl rfl rfl ?_
        refine g_iconst C 439 (0 : Int32) at_438 rfl rfl ?_
        refine g_aload C 441 at_439 rfl rfl rfl ?_
        refine g_aload C 443 at_441 rfl rfl rfl ?_
        refine g_lloadN C 444 at_443 rfl rfl ?_
        refine g_iload C 446 at_444 rfl rfl ?_
        refine g_iload C 448 at_446 rfl rfl ?_
        refine g_static C 451 0 (argsL := [(.ref ay), (.int (0 : Int32)), (.ref ab), (.ref ag), (.long x0), (.int x3), (.int (3 : Int32))]) (St := []) (con_upd0 l Z a0 C.2.2.1 h0 (kc, IA Z .int (ints (own_c (P3 ++ R1 ++ R2)))) (kv, DA Z (own_v (P3 ++ R1 ++ R2))) (ks, IA Z .int (ints [(0 : Int32), (Int32.ofNat P3.length), (Int32.ofNat (P3 ++ R1).length), (Int32.ofNat (P3 ++ R1 ++ R2).length)])) (p1, OB Z a0 "com/example/libplanar/libplanar/SparseMatrix" [("com/example/libplanar/libplanar/SparseMatrix", "rows", "I", (.int (3 : Int32))), ("com/example/libplanar/libplanar/SparseMatrix", "columnCount", "I", (.int (3 : Int32))), ("com/example/libplanar/libplanar/SparseMatrix", "rowStart", "[I", (.ref ks)), ("com/example/libplanar/libplanar/SparseMatrix", "columns", "[I", (.ref kc)), ("com/example/libplanar/libplanar/SparseMatrix", "values", "[D", (.ref kv))]) (ax, DA Z [(f_small x1 (3 : Int32)), (f_small x1 (4 : Int32)), (f_small x1 (5 : Int32))]) ab ay ag (f_small x1 (0 : Int32)) (f_small x1 (1 : Int32)) (f_small x1 (2 : Int32)) (f_small x1 (3 : Int32)) (f_small x1 (4 : Int32)) (f_small x1 (5 : Int32)) (f_dv x2 (0 : Int32)) (f_dv x2 (1 : Int32)) (f_dv x2 (2 : Int32)) x0 x3 (3 : Int32) U0) (List.mem_of_getElem? (i := 43) rfl) (List.mem_of_getElem? (i := 44) rfl) (List.mem_of_getElem? (i := 4) rfl) (List.mem_of_getElem? (i := 45) rfl) (by decide) at_448 rfl rfl (lenOf (ps := [(.array .double), .int, (.array .double), (.array .double), .long, .int, .int]) (r := none) (by decide) rfl) rfl (Nat.le_of_eq rfl) (by decide) (by decide) (by decide) (by decide) ?_
        rintro _ _ ⟨rfl, rfl⟩
        show Go _ _ _ _ _ _ _ _ _ _ _ _ [(kc, IA Z .int (ints (own_c (P3 ++ R1 ++ R2)))), (kv, DA Z (own_v (P3 ++ R1 ++ R2))), (ks, IA Z .int (ints [(0 : Int32), (Int32.ofNat P3.length), (Int32.ofNat (P3 ++ R1).length), (Int32.ofNat (P3 ++ R1 ++ R2).length)])), (p1, OB Z a0 "com/example/libplanar/libplanar/SparseMatrix" [("com/example/libplanar/libplanar/SparseMatrix", "rows", "I", (.int (3 : Int32))), ("com/example/libplanar/libplanar/SparseMatrix", "columnCount", "I", (.int (3 : Int32))), ("com/example/libplanar/libplanar/SparseMatrix", "rowStart", "[I", (.ref ks)), ("com/example/libplanar/libplanar/SparseMatrix", "columns", "[I", (.ref kc)), ("com/example/libplanar/libplanar/SparseMatrix", "values", "[D", (.ref kv))]), (ab, DA Z [(f_small x1 (0 : Int32)), (f_small x1 (1 : Int32)), (f_small x1 (2 : Int32))]), (ax, DA Z [(f_small x1 (3 : Int32)), (f_small x1 (4 : Int32)), (f_small x1 (5 : Int32))]), (ay, DA Z [(own_upd (f_c x0 x3 (3 : Int32) (0 : Int32)) (f_c x0 x3 (3 : Int32) (1 : Int32)) (f_c x0 x3 (3 : Int32) (2 : Int32)) (f_small x1 (3 : Int32)) (f_small x1 (4 : Int32)) (f_small x1 (5 : Int32)) (f_small x1 (0 : Int32)) (f_dv x2 (0 : Int32)) (f_small x1 (3 : Int32))), (f_small x1 (4 : Int32)), (f_small x1 (5 : Int32))]), (ag, DA Z [(f_dv x2 (0 : Int32)), (f_dv x2 (1 : Int32)), (f_dv x2 (2 : Int32))])] 8 39 451 #[.val (.long x0), .second, .val (.int x1), .val (.int x2), .val (.int x3), .val (.int (3 : Int32)), .val (.int (1 : Int32)), .val (.ref kc), .val (.ref kv), .val (.ref ks), .val (.int (Int32.ofNat (P3 ++ R1 ++ R2).length)), .val (.ref p1), .val (.ref ab), .val (.ref ax), .val (.ref ay), .val (.ref ag)] []
        rw [ey0]
        show Go _ _ _ _ _ _ _ _ _ _ _ _ [(kc, IA Z .int (ints (own_c (P3 ++ R1 ++ R2)))), (kv, DA Z (own_v (P3 ++ R1 ++ R2))), (ks, IA Z .int (ints [(0 : Int32), (Int32.ofNat P3.length), (Int32.ofNat (P3 ++ R1).length), (Int32.ofNat (P3 ++ R1 ++ R2).length)])), (p1, OB Z a0 "com/example/libplanar/libplanar/SparseMatrix" [("com/example/libplanar/libplanar/SparseMatrix", "rows", "I", (.int (3 : Int32))), ("com/example/libplanar/libplanar/SparseMatrix", "columnCount", "I", (.int (3 : Int32))), ("com/example/libplanar/libplanar/SparseMatrix", "rowStart", "[I", (.ref ks)), ("com/example/libplanar/libplanar/SparseMatrix", "columns", "[I", (.ref kc)), ("com/example/libplanar/libplanar/SparseMatrix", "values", "[D", (.ref kv))]), (ab, DA Z [(f_small x1 (0 : Int32)), (f_small x1 (1 : Int32)), (f_small x1 (2 : Int32))]), (ax, DA Z [(f_small x1 (3 : Int32)), (f_small x1 (4 : Int32)), (f_small x1 (5 : Int32))]), (ay, DA Z [yy0, (f_small x1 (4 : Int32)), (f_small x1 (5 : Int32))]), (ag, DA Z [(f_dv x2 (0 : Int32)), (f_dv x2 (1 : Int32)), (f_dv x2 (2 : Int32))])] 8 39 451 #[.val (.long x0), .second, .val (.int x1), .val (.int x2), .val (.int x3), .val (.int (3 : Int32)), .val (.int (1 : Int32)), .val (.ref kc), .val (.ref kv), .val (.ref ks), .val (.int (Int32.ofNat (P3 ++ R1 ++ R2).length)), .val (.ref p1), .val (.ref ab), .val (.ref ax), .val (.ref ay), .val (.ref ag)] []
        refine g_iload C 453 at_451 rfl rfl ?_
        refine g_iconst C 454 (1 : Int32) at_453 rfl rfl ?_
        refine g_icN C 457 at_454 (tlt ((by decide) : (1 : Int32) < (3 : Int32))).2.2.2 rfl ?_
        refine g_aload C 459 at_457 rfl rfl rfl ?_
        refine g_iconst C 460 (1 : Int32) at_459 rfl rfl ?_
        refine g_aload C 462 at_460 rfl rfl rfl ?_
        refine g_aload C 464 at_462 rfl rfl rfl ?_
        refine g_lloadN C 465 at_464 rfl rfl ?_
        refine g_iload C 467 at_465 rfl rfl ?_
        refine g_iload C 469 at_467 rfl rfl ?_
        refine g_static C 472 0 (argsL := [(.ref ay), (.int (1 : Int32)), (.ref ab), (.ref ag), (.long x0), (.int x3), (.int (3 : Int32))]) (St := []) (con_upd1 l Z a0 C.2.2.1 h0 (kc, IA Z .int (ints (own_c (P3 ++ R1 ++ R2)))) (kv, DA Z (own_v (P3 ++ R1 ++ R2))) (ks, IA Z .int (ints [(0 : Int32), (Int32.ofNat P3.length), (Int32.ofNat (P3 ++ R1).length), (Int32.ofNat (P3 ++ R1 ++ R2).length)])) (p1, OB Z a0 "com/example/libplanar/libplanar/SparseMatrix" [("com/example/libplanar/libplanar/SparseMatrix", "rows", "I", (.int (3 : Int32))), ("com/example/libplanar/libplanar/SparseMatrix", "columnCount", "I", (.int (3 : Int32))), ("com/example/libplanar/libplanar/SparseMatrix", "rowStart", "[I", (.ref ks)), ("com/example/libplanar/libplanar/SparseMatrix", "columns", "[I", (.ref kc)), ("com/example/libplanar/libplanar/SparseMatrix", "values", "[D", (.ref kv))]) (ax, DA Z [(f_small x1 (3 : Int32)), (f_small x1 (4 : Int32)), (f_small x1 (5 : Int32))]) ab ay ag (f_small x1 (0 : Int32)) (f_small x1 (1 : Int32)) (f_small x1 (2 : Int32)) yy0 (f_small x1 (4 : Int32)) (f_small x1 (5 : Int32)) (f_dv x2 (0 : Int32)) (f_dv x2 (1 : Int32)) (f_dv x2 (2 : Int32)) x0 x3 (3 : Int32) U1) (List.mem_of_getElem? (i := 43) rfl) (List.mem_of_getElem? (i := 44) rfl) (List.mem_of_getElem? (i := 4) rfl) (List.mem_of_getElem? (i := 45) rfl) (by decide) at_469 rfl rfl (lenOf (ps := [(.array .double), .int, (.array .double), (.array .double), .long, .int, .int]) (r := none) (by decide) rfl) rfl (Nat.le_of_eq rfl) (by decide) (by decide) (by decide) (by decide) ?_
        rintro _ _ ⟨rfl, rfl⟩
        show Go _ _ _ _ _ _ _ _ _ _ _ _ [(kc, IA Z .int (ints (own_c (P3 ++ R1 ++ R2)))), (kv, DA Z (own_v (P3 ++ R1 ++ R2))), (ks, IA Z .int (ints [(0 : Int32), (Int32.ofNat P3.length), (Int32.ofNat (P3 ++ R1).length), (Int32.ofNat (P3 ++ R1 ++ R2).length)])), (p1, OB Z a0 "com/example/libplanar/libplanar/SparseMatrix" [("com/example/libplanar/libplanar/SparseMatrix", "rows", "I", (.int (3 : Int32))), ("com/example/libplanar/libplanar/SparseMatrix", "columnCount", "I", (.int (3 : Int32))), ("com/example/libplanar/libplanar/SparseMatrix", "rowStart", "[I", (.ref ks)), ("com/example/libplanar/libplanar/SparseMatrix", "columns", "[I", (.ref kc)), ("com/example/libplanar/libplanar/SparseMatrix", "values", "[D", (.ref kv))]), (ab, DA Z [(f_small x1 (0 : Int32)), (f_small x1 (1 : Int32)), (f_small x1 (2 : Int32))]), (ax, DA Z [(f_small x1 (3 : Int32)), (f_small x1 (4 : Int32)), (f_small x1 (5 : Int32))]), (ay, DA Z [yy0, (own_upd (f_c x0 x3 (3 : Int32) (3 : Int32)) (f_c x0 x3 (3 : Int32) (4 : Int32)) (f_c x0 x3 (3 : Int32) (5 : Int32)) yy0 (f_small x1 (4 : Int32)) (f_small x1 (5 : Int32)) (f_small x1 (1 : Int32)) (f_dv x2 (1 : Int32)) (f_small x1 (4 : Int32))), (f_small x1 (5 : Int32))]), (ag, DA Z [(f_dv x2 (0 : Int32)), (f_dv x2 (1 : Int32)), (f_dv x2 (2 : Int32))])] 8 39 472 #[.val (.long x0), .second, .val (.int x1), .val (.int x2), .val (.int x3), .val (.int (3 : Int32)), .val (.int (1 : Int32)), .val (.ref kc), .val (.ref kv), .val (.ref ks), .val (.int (Int32.ofNat (P3 ++ R1 ++ R2).length)), .val (.ref p1), .val (.ref ab), .val (.ref ax), .val (.ref ay), .val (.ref ag)] []
        rw [ey1]
        show Go _ _ _ _ _ _ _ _ _ _ _ _ [(kc, IA Z .int (ints (own_c (P3 ++ R1 ++ R2)))), (kv, DA Z (own_v (P3 ++ R1 ++ R2))), (ks, IA Z .int (ints [(0 : Int32), (Int32.ofNat P3.length), (Int32.ofNat (P3 ++ R1).length), (Int32.ofNat (P3 ++ R1 ++ R2).length)])), (p1, OB Z a0 "com/example/libplanar/libplanar/SparseMatrix" [("com/example/libplanar/libplanar/SparseMatrix", "rows", "I", (.int (3 : Int32))), ("com/example/libplanar/libplanar/SparseMatrix", "columnCount", "I", (.int (3 : Int32))), ("com/example/libplanar/libplanar/SparseMatrix", "rowStart", "[I", (.ref ks)), ("com/example/libplanar/libplanar/SparseMatrix", "columns", "[I", (.ref kc)), ("com/example/libplanar/libplanar/SparseMatrix", "values", "[D", (.ref kv))]), (ab, DA Z [(f_small x1 (0 : Int32)), (f_small x1 (1 : Int32)), (f_small x1 (2 : Int32))]), (ax, DA Z [(f_small x1 (3 : Int32)), (f_small x1 (4 : Int32)), (f_small x1 (5 : Int32))]), (ay, DA Z [yy0, yy1, (f_small x1 (5 : Int32))]), (ag, DA Z [(f_dv x2 (0 : Int32)), (f_dv x2 (1 : Int32)), (f_dv x2 (2 : Int32))])] 8 39 472 #[.val (.long x0), .second, .val (.int x1), .val (.int x2), .val (.int x3), .val (.int (3 : Int32)), .val (.int (1 : Int32)), .val (.ref kc), .val (.ref kv), .val (.ref ks), .val (.int (Int32.ofNat (P3 ++ R1 ++ R2).length)), .val (.ref p1), .val (.ref ab), .val (.ref ax), .val (.ref ay), .val (.ref ag)] []
        refine g_iload C 474 at_472 rfl rfl ?_
        refine g_iconst C 475 (2 : Int32) at_474 rfl rfl ?_
        refine g_icN C 478 at_475 (tlt ((by decide) : (2 : Int32) < (3 : Int32))).2.2.2 rfl ?_
        refine g_aload C 480 at_478 rfl rfl rfl ?_
        refine g_iconst C 481 (2 : Int32) at_480 rfl rfl ?_
        refine g_aload C 483 at_481 rfl rfl rfl ?_
        refine g_aload C 485 at_483 rfl rfl rfl ?_
        refine g_lloadN C 486 at_485 rfl rfl ?_
        refine g_iload C 488 at_486 rfl rfl ?_
        refine g_iload C 490 at_488 rfl rfl ?_
        refine g_static C 493 0 (argsL := [(.ref ay), (.int (2 : Int32)), (.ref ab), (.ref ag), (.long x0), (.int x3), (.int (3 : Int32))]) (St := []) (con_upd2 l Z a0 C.2.2.1 h0 (kc, IA Z .int (ints (own_c (P3 ++ R1 ++ R2)))) (kv, DA Z (own_v (P3 ++ R1 ++ R2))) (ks, IA Z .int (ints [(0 : Int32), (Int32.ofNat P3.length), (Int32.ofNat (P3 ++ R1).length), (Int32.ofNat (P3 ++ R1 ++ R2).length)])) (p1, OB Z a0 "com/example/libplanar/libplanar/SparseMatrix" [("com/example/libplanar/libplanar/SparseMatrix", "rows", "I", (.int (3 : Int32))), ("com/example/libplanar/libplanar/SparseMatrix", "columnCount", "I", (.int (3 : Int32))), ("com/example/libplanar/libplanar/SparseMatrix", "rowStart", "[I", (.ref ks)), ("com/example/libplanar/libplanar/SparseMatrix", "columns", "[I", (.ref kc)), ("com/example/libplanar/libplanar/SparseMatrix", "values", "[D", (.ref kv))]) (ax, DA Z [(f_small x1 (3 : Int32)), (f_small x1 (4 : Int32)), (f_small x1 (5 : Int32))]) ab ay ag (f_small x1 (0 : Int32)) (f_small x1 (1 : Int32)) (f_small x1 (2 : Int32)) yy0 yy1 (f_small x1 (5 : Int32)) (f_dv x2 (0 : Int32)) (f_dv x2 (1 : Int32)) (f_dv x2 (2 : Int32)) x0 x3 (3 : Int32) U2) (List.mem_of_getElem? (i := 43) rfl) (List.mem_of_getElem? (i := 44) rfl) (List.mem_of_getElem? (i := 4) rfl) (List.mem_of_getElem? (i := 45) rfl) (by decide) at_490 rfl rfl (lenOf (ps := [(.array .double), .int, (.array .double), (.array .double), .long, .int, .int]) (r := none) (by decide) rfl) rfl (Nat.le_of_eq rfl) (by decide) (by decide) (by decide) (by decide) ?_
        rintro _ _ ⟨rfl, rfl⟩
        show Go _ _ _ _ _ _ _ _ _ _ _ _ [(kc, IA Z .int (ints (own_c (P3 ++ R1 ++ R2)))), (kv, DA Z (own_v (P3 ++ R1 ++ R2))), (ks, IA Z .int (ints [(0 : Int32), (Int32.ofNat P3.length), (Int32.ofNat (P3 ++ R1).length), (Int32.ofNat (P3 ++ R1 ++ R2).length)])), (p1, OB Z a0 "com/example/libplanar/libplanar/SparseMatrix" [("com/example/libplanar/libplanar/SparseMatrix", "rows", "I", (.int (3 : Int32))), ("com/example/libplanar/libplanar/SparseMatrix", "columnCount", "I", (.int (3 : Int32))), ("com/example/libplanar/libplanar/SparseMatrix", "rowStart", "[I", (.ref ks)), ("com/example/libplanar/libplanar/SparseMatrix", "columns", "[I", (.ref kc)), ("com/example/libplanar/libplanar/SparseMatrix", "values", "[D", (.ref kv))]), (ab, DA Z [(f_small x1 (0 : Int32)), (f_small x1 (1 : Int32)), (f_small x1 (2 : Int32))]), (ax, DA Z [(f_small x1 (3 : Int32)), (f_small x1 (4 : Int32)), (f_small x1 (5 : Int32))]), (ay, DA Z [yy0, yy1, (own_upd (f_c x0 x3 (3 : Int32) (6 : Int32)) (f_c x0 x3 (3 : Int32) (7 : Int32)) (f_c x0 x3 (3 : Int32) (8 : Int32)) yy0 yy1 (f_small x1 (5 : Int32)) (f_small x1 (2 : Int32)) (f_dv x2 (2 : Int32)) (f_small x1 (5 : Int32)))]), (ag, DA Z [(f_dv x2 (0 : Int32)), (f_dv x2 (1 : Int32)), (f_dv x2 (2 : Int32))])] 8 39 493 #[.val (.long x0), .second, .val (.int x1), .val (.int x2), .val (.int x3), .val (.int (3 : Int32)), .val (.int (1 : Int32)), .val (.ref kc), .val (.ref kv), .val (.ref ks), .val (.int (Int32.ofNat (P3 ++ R1 ++ R2).length)), .val (.ref p1), .val (.ref ab), .val (.ref ax), .val (.ref ay), .val (.ref ag)] []
        rw [ey2]
        show Go _ _ _ _ _ _ _ _ _ _ _ _ [(kc, IA Z .int (ints (own_c (P3 ++ R1 ++ R2)))), (kv, DA Z (own_v (P3 ++ R1 ++ R2))), (ks, IA Z .int (ints [(0 : Int32), (Int32.ofNat P3.length), (Int32.ofNat (P3 ++ R1).length), (Int32.ofNat (P3 ++ R1 ++ R2).length)])), (p1, OB Z a0 "com/example/libplanar/libplanar/SparseMatrix" [("com/example/libplanar/libplanar/SparseMatrix", "rows", "I", (.int (3 : Int32))), ("com/example/libplanar/libplanar/SparseMatrix", "columnCount", "I", (.int (3 : Int32))), ("com/example/libplanar/libplanar/SparseMatrix", "rowStart", "[I", (.ref ks)), ("com/example/libplanar/libplanar/SparseMatrix", "columns", "[I", (.ref kc)), ("com/example/libplanar/libplanar/SparseMatrix", "values", "[D", (.ref kv))]), (ab, DA Z [(f_small x1 (0 : Int32)), (f_small x1 (1 : Int32)), (f_small x1 (2 : Int32))]), (ax, DA Z [(f_small x1 (3 : Int32)), (f_small x1 (4 : Int32)), (f_small x1 (5 : Int32))]), (ay, DA Z [yy0, yy1, yy2]), (ag, DA Z [(f_dv x2 (0 : Int32)), (f_dv x2 (1 : Int32)), (f_dv x2 (2 : Int32))])] 8 39 493 #[.val (.long x0), .second, .val (.int x1), .val (.int x2), .val (.int x3), .val (.int (3 : Int32)), .val (.int (1 : Int32)), .val (.ref kc), .val (.ref kv), .val (.ref ks), .val (.int (Int32.ofNat (P3 ++ R1 ++ R2).length)), .val (.ref p1), .val (.ref ab), .val (.ref ax), .val (.ref ay), .val (.ref ag)] []
        refine g_goto C 558 at_493 (by decide) (by decide) ?_
        refine g_aload C 560 at_558 rfl rfl rfl ?_
        refine g_aload C 562 at_560 rfl rfl rfl ?_
        refine g_aload C 564 at_562 rfl rfl rfl ?_
        refine g_aload C 566 at_564 rfl rfl rfl ?_
        refine g_iload C 568 at_566 rfl rfl ?_
        refine g_virtual C 571 0 (i := 3) (argsL := [(.ref ag), (.ref ab), (.ref ax), (.int (1 : Int32))]) (St := []) rfl (con_gs31 l Z a0 C.2.2.1 h0 kc kv ks p1 ab ax ag (ay, DA Z [yy0, yy1, yy2]) P3 R1 R2 (f_small x1 (0 : Int32)) (f_small x1 (1 : Int32)) (f_small x1 (2 : Int32)) (f_small x1 (3 : Int32)) (f_small x1 (4 : Int32)) (f_small x1 (5 : Int32)) (f_dv x2 (0 : Int32)) (f_dv x2 (1 : Int32)) (f_dv x2 (2 : Int32)) zz0 zz1 zz2 hl9 A0 NA0 NB0 ez0 A1 NA1 NB1 ez1 A2 NA2 NB2 ez2) (List.mem_of_getElem? (i := 38) rfl) (List.mem_of_getElem? (i := 39) rfl) (List.mem_of_getElem? (i := 41) rfl) (List.mem_of_getElem? (i := 40) rfl) (List.mem_of_getElem? (i := 15) rfl) (List.mem_of_getElem? (i := 42) rfl) (by decide) at_568 rfl rfl (lenOf (ps := [(.array .double), (.array .double), (.array .double), .boolean]) (r := none) (by decide) rfl) rfl (Nat.le_of_eq rfl) (by decide) (by decide) (by decide) (by decide) ?_
        rintro _ _ ⟨rfl, rfl⟩
        show Go _ _ _ _ _ _ _ _ _ _ _ _ [(kc, IA Z .int (ints (own_c (P3 ++ R1 ++ R2)))), (kv, DA Z (own_v (P3 ++ R1 ++ R2))), (ks, IA Z .int (ints [(0 : Int32), (Int32.ofNat P3.length), (Int32.ofNat (P3 ++ R1).length), (Int32.ofNat (P3 ++ R1 ++ R2).length)])), (p1, OB Z a0 "com/example/libplanar/libplanar/SparseMatrix" [("com/example/libplanar/libplanar/SparseMatrix", "rows", "I", (.int (3 : Int32))), ("com/example/libplanar/libplanar/SparseMatrix", "columnCount", "I", (.int (3 : Int32))), ("com/example/libplanar/libplanar/SparseMatrix", "rowStart", "[I", (.ref ks)), ("com/example/libplanar/libplanar/SparseMatrix", "columns", "[I", (.ref kc)), ("com/example/libplanar/libplanar/SparseMatrix", "values", "[D", (.ref kv))]), (ab, DA Z [(f_small x1 (0 : Int32)), (f_small x1 (1 : Int32)), (f_small x1 (2 : Int32))]), (ax, DA Z [zz0, zz1, zz2]), (ay, DA Z [yy0, yy1, yy2]), (ag, DA Z [(f_dv x2 (0 : Int32)), (f_dv x2 (1 : Int32)), (f_dv x2 (2 : Int32))])] 8 39 571 #[.val (.long x0), .second, .val (.int x1), .val (.int x2), .val (.int x3), .val (.int (3 : Int32)), .val (.int (1 : Int32)), .val (.ref kc), .val (.ref kv), .val (.ref ks), .val (.int (Int32.ofNat (P3 ++ R1 ++ R2).length)), .val (.ref p1), .val (.ref ab), .val (.ref ax), .val (.ref ay), .val (.ref ag)] []
        refine g_aload C 573 at_571 rfl rfl rfl ?_
        refine g_iconst C 574 (0 : Int32) at_573 rfl rfl ?_
        refine g_daload C 575 (i := 5) rfl at_574 rfl (by decide) zz0 rfl ?_
        refine g_aload C 577 at_575 rfl rfl rfl ?_
        refine g_iconst C 578 (0 : Int32) at_577 rfl rfl ?_
        refine g_daload C 579 (i := 6) rfl at_578 rfl (by decide) yy0 rfl ?_
        refine g_dcmp C 580 at_579 rfl ?_
        refine g_ifN C 583 at_580 (teq ((DV.eq DZ0 DY0 _) : (cmpValue (FP.dcmp zz0 yy0) .l) = (0 : Int32))).2 rfl ?_
        refine g_aload C 585 at_583 rfl rfl rfl ?_
        refine g_iconst C 586 (1 : Int32) at_585 rfl rfl ?_
        refine g_daload C 587 (i := 5) rfl at_586 rfl (by decide) zz1 rfl ?_
        refine g_aload C 589 at_587 rfl rfl rfl ?_
        refine g_iconst C 590 (1 : Int32) at_589 rfl rfl ?_
        refine g_daload C 591 (i := 6) rfl at_590 rfl (by decide) yy1 rfl ?_
        refine g_dcmp C 592 at_591 rfl ?_
        refine g_ifN C 595 at_592 (teq ((DV.eq DZ1 DY1 _) : (cmpValue (FP.dcmp zz1 yy1) .l) = (0 : Int32))).2 rfl ?_
        refine g_aload C 597 at_595 rfl rfl rfl ?_
        refine g_iconst C 598 (2 : Int32) at_597 rfl rfl ?_
        refine g_daload C 599 (i := 5) rfl at_598 rfl (by decide) zz2 rfl ?_
        refine g_aload C 601 at_599 rfl rfl rfl ?_
        refine g_iconst C 602 (2 : Int32) at_601 rfl rfl ?_
        refine g_daload C 603 (i := 6) rfl at_602 rfl (by decide) yy2 rfl ?_
        refine g_dcmp C 604 at_603 rfl ?_
        refine g_ifN C 607 at_604 (teq ((DV.eq DZ2 DY2 _) : (cmpValue (FP.dcmp zz2 yy2) .l) = (0 : Int32))).2 rfl ?_
        refine g_iconst C 608 (1 : Int32) at_607 rfl rfl ?_
        refine g_goto C 612 at_608 (by decide) (by decide) ?_
        exact g_nret C (by simp) (z' := (1 : Int32)) (by decide) at_612 (by decide) (by decide) rfl
  by_cases c1 : (((x3.toUInt32 >>> ((2 : Int32) &&& 31).toUInt32).toInt32) &&& (1 : Int32)) = (0 : Int32)
  · refine g_ifY C 19 at_12 (teq c1).1 (by decide) (by decide) ?_
    refine g_iconst C 20 (0 : Int32) at_19 rfl rfl ?_
    exact J3 _ (by rw [if_pos c1])
  · refine g_ifN C 15 at_12 (feq c1).1 rfl ?_
    refine g_iconst C 16 (1 : Int32) at_15 rfl rfl ?_
    refine g_goto C 20 at_16 (by decide) (by decide) ?_
    exact J3 _ (by rw [if_neg c1])
set_option maxRecDepth 65536 in
set_option maxHeartbeats 40000000 in
theorem comes_1 {Post : Tables → Env → Array Value → State → Outcome → State → Prop} (hpost : ∀ tb e args s v u, (limb_1_1.after args s (.returned v) u = true ∧ limb_1_2.after args s (.returned v) u = true ∧ True) → FrameEnd s (.returned v) u (Jvm.fieldLocs frame_1_writes args s ++ Jvm.arrayLocs frame_1_arrays args s ++ Jvm.staticLocs frame_1_statics s) 24 192 → Post tb e args s (.returned v) u) :
    ArmFor flags0 classFile x code maxLocals ret World_1 tables_1 room_1 Calls_1 rest_1 Pre_1 Post := by
  intro l hfl _ _ p e ha hc hk s m args below hf hA hF happ hP
  obtain ⟨hcalls, hrest, hpre⟩ := hP
  obtain ⟨-, -, -, hnamed, -, -, -, hat⟩ := (Spec.applies_iff hf).mp happ
  obtain ⟨hg, hn⟩ := and_e (Cond.before_iff.mp (show (Jvm.Cond.and given_1 narrow_1).before args s = true from hpre))
  obtain ⟨hcount, hg0⟩ := and_e hg
  obtain ⟨gi0, hg1⟩ := and_e hg0
  obtain ⟨gi1, hg2⟩ := and_e hg1
  obtain ⟨gi2, hg3⟩ := and_e hg2
  have gi3 := hg3
  obtain ⟨w0, w1, w2, w3, rfl⟩ : ∃ w0 w1 w2 w3 : Value, args = #[w0, w1, w2, w3] := by
    have hs : args.size = 4 := by simpa [Cond.value, given_1] using hcount
    obtain ⟨L⟩ := args
    match L, hs with
    | [w0, w1, w2, w3], _ => exact ⟨w0, w1, w2, w3, rfl⟩
  have hw := fun d (hd : d ∈ tables_1) => atoms_spec (ws := Jvm.Cond.code x code maxLocals ret :: tables_1) hat d (List.mem_cons_of_mem _ hd)
  have hfit : Fit s := fun {y c} hc i hi => by
    obtain ⟨ha, rfl⟩ := Array.getElem?_eq_some_iff.mp hc
    have q := List.all_eq_true.mp ((Array.all_eq_true_iff_forall_mem.mp hF) _ (Array.getElem_mem ha)) i (List.mem_range.mpr hi)
    simpa [Array.getElem?_eq_getElem hi] using q
  obtain ⟨i0, ei0⟩ := isL_v gi0
  obtain rfl : w0 = (.long i0) := Option.some.inj ei0
  obtain ⟨i1, ei1⟩ := is_v gi1
  obtain rfl : w1 = (.int i1) := Option.some.inj ei1
  obtain ⟨i2, ei2⟩ := is_v gi2
  obtain rfl : w2 = (.int i2) := Option.some.inj ei2
  obtain ⟨i3, ei3⟩ := is_v gi3
  obtain rfl : w3 = (.int i3) := Option.some.inj ei3
  obtain ⟨n, o, h1, h2, h3, _, L, rfl, ⟨ds', rfl, -, N⟩, hq⟩ := con_law l s _ hw s.heap i0 i1 i2 i3 s.heap (Wld.nil _) tables_1 p e ha hc hk s m _ below hf ((Spec.applies_iff_loose hf).mp happ).1 ⟨rfl, State.Warmed39.refl s, rfl⟩ trivial
  refine ⟨n, _, h1, h2, h3, hpost _ _ _ _ _ _ ⟨Cond.after_iff.mpr rfl, Cond.after_iff.mpr (eq_i res_at (Term.int_eval (1)) rfl), trivial⟩ ⟨hq.1, hq.2.1, (hq.2.2.sift fun y hy => Or.inr (N y hy)).mono (by decide) (by decide)⟩⟩
theorem main_1_1 : Claimed_1_1 := comes_1 fun _ _ _ _ _ _ h hF => ⟨h.1, hF⟩
theorem main_1_2 : Claimed_1_2 := comes_1 fun _ _ _ _ _ _ h hF => ⟨h.2.1, hF⟩
end Jvm.Pilot.@@N@@
namespace Jvm.Pilot.@@N@@
open Jvm Jvm.ClassFile Sem Op Lib Jvm.Free Jvm.Stand Jvm.Pilot.@@N@@.Jvm.D
/-! MADE BY PROGRAM (witnessworld.py) out of the Statement's table words and the real class files: 9 classes; the members and pool entries that the words name. The judged class is class 1, her method 1. -/
namespace start1
open Jvm.ClassFile
def u (s : String) : CpInfo := .utf8 (stringToUtf16 s)
/-- a pool by its gaps: so many unusable entries, then the entry; so many at the end -/
def gap : Nat → List CpInfo → List CpInfo
  | 0, r => r
  | n + 1, r => .unusable :: gap n r
def poolList (es : List (Nat × CpInfo)) (last : Nat) : List CpInfo := es.foldr (fun e r => gap e.1 (e.2 :: r)) (gap last [])
def pool (es : List (Nat × CpInfo)) (last : Nat) : Array CpInfo := ⟨poolList es last⟩
def fileOf (pool : Array CpInfo) (this : Nat) (attrs : Array Attribute := #[]) (ms : Array MethodInfo := #[]) (fl : Nat := 33) (sup : Nat := 0) (ifs : Array Nat := #[]) (fds : Array FieldInfo := #[]) : ClassFile where
  minorVersion := 0
  majorVersion := 65
  constantPool := pool
  accessFlags := fl
  thisClass := this
  superClass := sup
  interfaces := ifs
  fields := fds
  methods := ms
  attributes := attrs
def plain (name : String) (sup : Option ClassId) : Class where
  name := name
  kind := .ordinary
  loader := none
  accessFlags := 33
  super := sup
  interfaces := #[]
  cf := none
  fields := #[]
  methods := #[]
  instanceTypes := #[]
  staticTypes := #[]
  resolved := #[]
  callSites := []
  init := .initialized
  statics := none
  mirror := none

def pool0 : Array CpInfo := pool [(5, u "<init>"), (0, u "()V"), (1, .class_ 10), (1, u "java/lang/Object")] 113

def k0c0 : Code := { maxStack := 0, maxLocals := 1, code := object_method_1_code, exceptionTable := #[], attributes := #[] }
def k0m0 : Method := { name := "<init>", desc := "()V", sig := { parameters := [], returnType := none }, accessFlags := 1, code := some k0c0 }
/-- java/lang/Object -/
def k0 : Class := { plain "java/lang/Object" none with
  accessFlags := 33
  interfaces := #[]
  cf := some (fileOf pool0 8 #[] #[{ accessFlags := 1, nameIndex := 5, descriptorIndex := 6, attributes := #[] }] 33 0 #[] #[])
  fields := #[]
  methods := #[k0m0]
  instanceTypes := #[]
  staticTypes := #[]
  resolved := Array.replicate 124 none
  statics := none }

def pool1 : Array CpInfo := pool [(2, .class_ 4), (1, u "java/lang/Object"), (0, u "<init>"), (0, u "()V"), (0, .methodref 8 9), (0, .class_ 10), (0, .nameAndType 11 12), (0, u "com/example/libplanar/libplanar/SparseMatrixGaussSeidelPinLaw"), (0, u "on"), (0, u "(III)Z"), (0, .methodref 8 14), (0, .nameAndType 15 16), (0, u "coef"), (0, u "(JI)I"), (0, .methodref 8 18), (0, .nameAndType 19 20), (0, u "put"), (0, u "([I[DIZII)I"), (0, .class_ 22), (0, u "com/example/libplanar/libplanar/SparseMatrix"), (0, .methodref 21 24), (0, .nameAndType 5 25), (0, u "(II[I[I[D)V"), (0, .methodref 8 27), (0, .nameAndType 28 29), (0, u "small"), (0, u "(II)D"), (0, .methodref 8 31), (0, .nameAndType 32 29), (0, u "dv"), (0, .methodref 8 34), (0, .nameAndType 35 36), (0, u "upd"), (0, u "([DI[D[DJII)V"), (0, .methodref 21 38), (0, .nameAndType 39 40), (0, u "gaussSeidel"), (0, u "([D[D[DZ)V"), (0, .long 15), (1, .methodref 8 44), (0, .nameAndType 45 46), (0, u "c"), (0, u "(JIII)D"), (2, u "law"), (0, u "(JIII)Z")] 7

def k1m0 : Method := { name := "<init>", desc := "()V", sig := { parameters := [], returnType := none }, accessFlags := 1, code := none }
def k1c1 : Code := { maxStack := 8, maxLocals := 16, code := code, exceptionTable := #[], attributes := #[] }
def k1m1 : Method := { name := "law", desc := "(JIII)Z", sig := { parameters := [.long, .int, .int, .int], returnType := some .boolean }, accessFlags := 9, code := some k1c1 }
def k1c2 : Code := { maxStack := 4, maxLocals := 3, code := method_3_code, exceptionTable := #[], attributes := #[] }
def k1m2 : Method := { name := "coef", desc := "(JI)I", sig := { parameters := [.long, .int], returnType := some .int }, accessFlags := 10, code := some k1c2 }
def k1c3 : Code := { maxStack := 3, maxLocals := 3, code := method_4_code, exceptionTable := #[], attributes := #[] }
def k1m3 : Method := { name := "on", desc := "(III)Z", sig := { parameters := [.int, .int, .int], returnType := some .boolean }, accessFlags := 10, code := some k1c3 }
def k1c4 : Code := { maxStack := 3, maxLocals := 2, code := method_5_code, exceptionTable := #[], attributes := #[] }
def k1m4 : Method := { name := "small", desc := "(II)D", sig := { parameters := [.int, .int], returnType := some .double }, accessFlags := 10, code := some k1c4 }
def k1c5 : Code := { maxStack := 3, maxLocals := 4, code := method_6_code, exceptionTable := #[], attributes := #[] }
def k1m5 : Method := { name := "dv", desc := "(II)D", sig := { parameters := [.int, .int], returnType := some .double }, accessFlags := 10, code := some k1c5 }
def k1c6 : Code := { maxStack := 4, maxLocals := 6, code := method_7_code, exceptionTable := #[], attributes := #[] }
def k1m6 : Method := { name := "put", desc := "([I[DIZII)I", sig := { parameters := [(.array .int), (.array .double), .int, .boolean, .int, .int], returnType := some .int }, accessFlags := 10, code := some k1c6 }
def k1c7 : Code := { maxStack := 3, maxLocals := 5, code := method_8_code, exceptionTable := #[], attributes := #[] }
def k1m7 : Method := { name := "c", desc := "(JIII)D", sig := { parameters := [.long, .int, .int, .int], returnType := some .double }, accessFlags := 10, code := some k1c7 }
def k1c8 : Code := { maxStack := 10, maxLocals := 10, code := method_9_code, exceptionTable := #[], attributes := #[] }
def k1m8 : Method := { name := "upd", desc := "([DI[D[DJII)V", sig := { parameters := [(.array .double), .int, (.array .double), (.array .double), .long, .int, .int], returnType := none }, accessFlags := 10, code := some k1c8 }
/-- com/example/libplanar/libplanar/SparseMatrixGaussSeidelPinLaw -/
def k1 : Class := { plain "com/example/libplanar/libplanar/SparseMatrixGaussSeidelPinLaw" (some 0) with
  accessFlags := 49
  interfaces := #[]
  cf := some (fileOf pool1 8 #[] #[{ accessFlags := 1, nameIndex := 5, descriptorIndex := 6, attributes := #[] }, { accessFlags := 9, nameIndex := 49, descriptorIndex := 50, attributes := #[] }, { accessFlags := 10, nameIndex := 15, descriptorIndex := 16, attributes := #[] }, { accessFlags := 10, nameIndex := 11, descriptorIndex := 12, attributes := #[] }, { accessFlags := 10, nameIndex := 28, descriptorIndex := 29, attributes := #[] }, { accessFlags := 10, nameIndex := 32, descriptorIndex := 29, attributes := #[] }, { accessFlags := 10, nameIndex := 19, descriptorIndex := 20, attributes := #[] }, { accessFlags := 10, nameIndex := 45, descriptorIndex := 46, attributes := #[] }, { accessFlags := 10, nameIndex := 35, descriptorIndex := 36, attributes := #[] }] 49 2 #[] #[])
  fields := #[]
  methods := #[k1m0, k1m1, k1m2, k1m3, k1m4, k1m5, k1m6, k1m7, k1m8]
  instanceTypes := #[]
  staticTypes := #[]
  resolved := Array.replicate 58 none
  statics := none }

def pool2 : Array CpInfo := pool [(1, .methodref 2 3), (0, .class_ 4), (0, .nameAndType 5 6), (0, u "java/lang/Object"), (0, u "<init>"), (0, u "()V"), (0, .fieldref 8 9), (0, .class_ 10), (0, .nameAndType 11 12), (0, u "com/example/libplanar/libplanar/SparseMatrix"), (0, u "rows"), (0, u "I"), (0, .fieldref 8 14), (0, .nameAndType 15 12), (0, u "columnCount"), (0, .fieldref 8 17), (0, .nameAndType 18 19), (0, u "rowStart"), (0, u "[I"), (0, .fieldref 8 21), (0, .nameAndType 22 19), (0, u "columns"), (0, .fieldref 8 24), (0, .nameAndType 25 26), (0, u "values"), (0, u "[D"), (10, u "(II[I[I[D)V"), (41, u "gaussSeidel"), (0, u "([D[D[DZ)V")] 5

def k2c0 : Code := { maxStack := 2, maxLocals := 6, code := prog_91_method_1_code, exceptionTable := #[], attributes := #[] }
def k2m0 : Method := { name := "<init>", desc := "(II[I[I[D)V", sig := { parameters := [.int, .int, (.array .int), (.array .int), (.array .double)], returnType := none }, accessFlags := 0, code := some k2c0 }
def k2c1 : Code := { maxStack := 8, maxLocals := 10, code := prog_91_method_15_code, exceptionTable := #[], attributes := #[] }
def k2m1 : Method := { name := "gaussSeidel", desc := "([D[D[DZ)V", sig := { parameters := [(.array .double), (.array .double), (.array .double), .boolean], returnType := none }, accessFlags := 0, code := some k2c1 }
/-- com/example/libplanar/libplanar/SparseMatrix -/
def k2 : Class := { plain "com/example/libplanar/libplanar/SparseMatrix" (some 0) with
  accessFlags := 48
  interfaces := #[]
  cf := some (fileOf pool2 8 #[] #[{ accessFlags := 0, nameIndex := 5, descriptorIndex := 37, attributes := #[] }, { accessFlags := 0, nameIndex := 79, descriptorIndex := 80, attributes := #[] }] 48 2 #[] #[{ accessFlags := 18, nameIndex := 11, descriptorIndex := 12, attributes := #[] }, { accessFlags := 18, nameIndex := 15, descriptorIndex := 12, attributes := #[] }, { accessFlags := 18, nameIndex := 18, descriptorIndex := 19, attributes := #[] }, { accessFlags := 18, nameIndex := 22, descriptorIndex := 19, attributes := #[] }, { accessFlags := 18, nameIndex := 25, descriptorIndex := 26, attributes := #[] }])
  fields := #[{ name := "rows", type := .int, accessFlags := 18, slot := 0, constantValue := 0 }, { name := "columnCount", type := .int, accessFlags := 18, slot := 1, constantValue := 0 }, { name := "rowStart", type := (.array .int), accessFlags := 18, slot := 2, constantValue := 0 }, { name := "columns", type := (.array .int), accessFlags := 18, slot := 3, constantValue := 0 }, { name := "values", type := (.array .double), accessFlags := 18, slot := 4, constantValue := 0 }]
  methods := #[k2m0, k2m1]
  instanceTypes := #[.int, .int, (.array .int), (.array .int), (.array .double)]
  staticTypes := #[]
  resolved := Array.replicate 86 none
  statics := none }

def pool3 : Array CpInfo := pool [(1, u "java/lang/Cloneable"), (0, .class_ 1), (0, u "java/lang/Object"), (0, .class_ 3)] 3

/-- java/lang/Cloneable -/
def k3 : Class := { plain "java/lang/Cloneable" (some 0) with
  accessFlags := 1537
  interfaces := #[]
  cf := some (fileOf pool3 2 #[] #[] 1537 4 #[] #[])
  fields := #[]
  methods := #[]
  instanceTypes := #[]
  staticTypes := #[]
  resolved := Array.replicate 8 none
  statics := none }

def pool4 : Array CpInfo := pool [(1, u "java/io/Serializable"), (0, .class_ 1), (0, u "java/lang/Object"), (0, .class_ 3)] 3

/-- java/io/Serializable -/
def k4 : Class := { plain "java/io/Serializable" (some 0) with
  accessFlags := 1537
  interfaces := #[]
  cf := some (fileOf pool4 2 #[] #[] 1537 4 #[] #[])
  fields := #[]
  methods := #[]
  instanceTypes := #[]
  staticTypes := #[]
  resolved := Array.replicate 8 none
  statics := none }

/-- the primitive byte -/
def k5 : Class := { plain "byte" none with kind := .primitive 'B', accessFlags := 0x411 }
/-- [B -/
def k6 : Class := { plain "[B" (some 0) with kind := .array 5 .byte, interfaces := #[3, 4], accessFlags := 1041 }

/-- the primitive int -/
def k7 : Class := { plain "int" none with kind := .primitive 'I', accessFlags := 0x411 }
/-- [I -/
def k8 : Class := { plain "[I" (some 0) with kind := .array 7 .int, interfaces := #[3, 4], accessFlags := 1041 }

/-- the primitive double, [D -/
def k9 : Class := { plain "double" none with kind := .primitive 'D', accessFlags := 0x411 }
def k10 : Class := { plain "[D" (some 0) with kind := .array 9 .double, interfaces := #[3, 4], accessFlags := 1041 }

def heap : Heap := #[]
def classes : Array Class := #[k0, k1, k2, k3, k4, k5, k6, k7, k8, k9, k10]
def interned : List (Array UInt16 × Addr) := []
def slotsUsed : Nat := 0
def theMethod : MethodId := ⟨1, 1⟩
def args0 : Array Value := #[.long 305419896, .int 11259375, .int 83, .int 4095]
def aboutOver (below : List Frame) : State where
  vm := { classes := classes, interned := interned.toArray }
  heap := heap
  slotsUsed := slotsUsed
  threads := #[{ frames := .invoking theMethod args0 :: below }]
def below0 : List Frame := [.native { method := ⟨0, 0⟩, args := #[] }]
def about1 : State := aboutOver below0
def p0 : Program := .bare "" "" ""
def e0 : Env := launch0.env 0 0 0
theorem w_frames : about1.frames = Frame.invoking theMethod args0 :: below0 := rfl
set_option maxRecDepth 65536 in
theorem w_args : argsFit about1.vm theMethod args0 = true := by decide +kernel
set_option maxRecDepth 65536 in
theorem w_heap : heapFits about1 = true := by decide +kernel
set_option maxRecDepth 65536 in
theorem w_runnable : about1.curStatus? = some .runnable := by decide +kernel
set_option maxRecDepth 65536 in
theorem w_alone : about1.alone = true := by decide +kernel
set_option maxRecDepth 65536 in
theorem w_named : about1.methodNamed? x = some theMethod := by decide +kernel
set_option maxRecDepth 65536 in
theorem w_hears : about1.hears theMethod below0 = true := by decide +kernel
set_option maxRecDepth 65536 in
theorem w_ripe : about1.ripe theMethod args0 below0 = true := by decide +kernel
theorem w_running : about1.status = .running := rfl
set_option maxRecDepth 65536 in
theorem w_room : about1.hasRoom e0.platform room_1 = true :=
  launch0.hasRoom_least _ room_1 (by decide +kernel) (by decide +kernel) (by decide +kernel) (by decide +kernel) (by decide +kernel) (by decide +kernel)
theorem allAtoms_all (ts : List Jvm.Cond) (a : Array Jvm.Value) (st : Jvm.State) : (allAtoms ts).before a st = ts.all (fun c => c.before a st) := by
  induction ts with
  | nil => rfl
  | cons c t ih =>
    show (Jvm.Cond.and c (allAtoms t)).before a st = _
    rw [Jvm.Cond.before_and, ih, List.all_cons]
def words1 : List Jvm.Cond := Jvm.Cond.code x code maxLocals ret :: tables_1
/-- a 'code' word, met by the world's own term for the bytes: nothing is compared byte by byte -/
theorem code_word {y : MethodName} {bytes : ByteArray} {mx : Nat} {rt : Option FieldType} {a : Array Value} {s : State} {m : MethodId} {meth : Method} {c : Code} (h1 : s.methodNamed? y = some m) (h2 : s.vm.method? m = some meth) (h3 : meth.code = some c) (h4 : c.code = bytes)
    (h5 : (c.maxLocals == mx && c.exceptionTable.isEmpty && decide (c.maxStack ≤ mostOperands) && decide (meth.sig.returnType = rt) && !meth.locks && decide (parseMethodDescriptor y.desc = some meth.sig)) = true) : (Jvm.Cond.code y bytes mx rt).before a s = true := by
  simp only [Bool.and_eq_true, beq_iff_eq, Bool.not_eq_true', decide_eq_true_eq] at h5
  obtain ⟨⟨⟨⟨⟨g1, g2⟩, g3⟩, g4⟩, g5⟩, g6⟩ := h5
  simp [Cond.before, Cond.holds, Cond.value, h1, h2, h3, h4, g1, g2, g3, g4, g5, g6]
def isCode : Jvm.Cond → Bool
  | .code _ _ _ _ => true
  | _ => false
theorem all_split {L : List Jvm.Cond} {P : Jvm.Cond → Bool} (h1 : L.all (fun c => isCode c || P c) = true) (h2 : ∀ c ∈ L.filter isCode, P c = true) : L.all P = true := by
  refine List.all_eq_true.mpr fun c hc => ?_
  have h := List.all_eq_true.mp h1 c hc
  rcases Bool.eq_false_or_eq_true (isCode c) with hi | hi
  · exact h2 c (List.mem_filter.mpr ⟨hc, hi⟩)
  · simpa [hi] using h
set_option maxRecDepth 65536 in
theorem w_c0 : (Jvm.Cond.code x code maxLocals ret).before args0 about1 = true := code_word (m := ⟨1, 1⟩) (meth := k1m1) (c := k1c1) (by decide +kernel) rfl rfl rfl (by decide +kernel)
set_option maxRecDepth 65536 in
theorem w_c1 : (Jvm.Cond.code ({ cls := "com/example/libplanar/libplanar/SparseMatrixGaussSeidelPinLaw", name := "on", desc := "(III)Z" } : Jvm.MethodName) method_4_code (3 : Nat) (Option.some Jvm.ClassFile.FieldType.boolean)).before args0 about1 = true := code_word (m := ⟨1, 3⟩) (meth := k1m3) (c := k1c3) (by decide +kernel) rfl rfl rfl (by decide +kernel)
set_option maxRecDepth 65536 in
theorem w_c2 : (Jvm.Cond.code ({ cls := "com/example/libplanar/libplanar/SparseMatrixGaussSeidelPinLaw", name := "coef", desc := "(JI)I" } : Jvm.MethodName) method_3_code (3 : Nat) (Option.some Jvm.ClassFile.FieldType.int)).before args0 about1 = true := code_word (m := ⟨1, 2⟩) (meth := k1m2) (c := k1c2) (by decide +kernel) rfl rfl rfl (by decide +kernel)
set_option maxRecDepth 65536 in
theorem w_c3 : (Jvm.Cond.code ({ cls := "com/example/libplanar/libplanar/SparseMatrixGaussSeidelPinLaw", name := "put", desc := "([I[DIZII)I" } : Jvm.MethodName) method_7_code (6 : Nat) (Option.some Jvm.ClassFile.FieldType.int)).before args0 about1 = true := code_word (m := ⟨1, 6⟩) (meth := k1m6) (c := k1c6) (by decide +kernel) rfl rfl rfl (by decide +kernel)
set_option maxRecDepth 65536 in
theorem w_c4 : (Jvm.Cond.code ({ cls := "com/example/libplanar/libplanar/SparseMatrix", name := "<init>", desc := "(II[I[I[D)V" } : Jvm.MethodName) prog_91_method_1_code (6 : Nat) (Option.none : Option Jvm.ClassFile.FieldType)).before args0 about1 = true := code_word (m := ⟨2, 0⟩) (meth := k2m0) (c := k2c0) (by decide +kernel) rfl rfl rfl (by decide +kernel)
set_option maxRecDepth 65536 in
theorem w_c5 : (Jvm.Cond.code ({ cls := "java/lang/Object", name := "<init>", desc := "()V" } : Jvm.MethodName) object_method_1_code (1 : Nat) (Option.none : Option Jvm.ClassFile.FieldType)).before args0 about1 = true := code_word (m := ⟨0, 0⟩) (meth := k0m0) (c := k0c0) (by decide +kernel) rfl rfl rfl (by decide +kernel)
set_option maxRecDepth 65536 in
theorem w_c6 : (Jvm.Cond.code ({ cls := "com/example/libplanar/libplanar/SparseMatrixGaussSeidelPinLaw", name := "small", desc := "(II)D" } : Jvm.MethodName) method_5_code (2 : Nat) (Option.some Jvm.ClassFile.FieldType.double)).before args0 about1 = true := code_word (m := ⟨1, 4⟩) (meth := k1m4) (c := k1c4) (by decide +kernel) rfl rfl rfl (by decide +kernel)
set_option maxRecDepth 65536 in
theorem w_c7 : (Jvm.Cond.code ({ cls := "com/example/libplanar/libplanar/SparseMatrixGaussSeidelPinLaw", name := "dv", desc := "(II)D" } : Jvm.MethodName) method_6_code (4 : Nat) (Option.some Jvm.ClassFile.FieldType.double)).before args0 about1 = true := code_word (m := ⟨1, 5⟩) (meth := k1m5) (c := k1c5) (by decide +kernel) rfl rfl rfl (by decide +kernel)
set_option maxRecDepth 65536 in
theorem w_c8 : (Jvm.Cond.code ({ cls := "com/example/libplanar/libplanar/SparseMatrix", name := "gaussSeidel", desc := "([D[D[DZ)V" } : Jvm.MethodName) prog_91_method_15_code (10 : Nat) (Option.none : Option Jvm.ClassFile.FieldType)).before args0 about1 = true := code_word (m := ⟨2, 1⟩) (meth := k2m1) (c := k2c1) (by decide +kernel) rfl rfl rfl (by decide +kernel)
set_option maxRecDepth 65536 in
theorem w_c9 : (Jvm.Cond.code ({ cls := "com/example/libplanar/libplanar/SparseMatrixGaussSeidelPinLaw", name := "upd", desc := "([DI[D[DJII)V" } : Jvm.MethodName) method_9_code (10 : Nat) (Option.none : Option Jvm.ClassFile.FieldType)).before args0 about1 = true := code_word (m := ⟨1, 8⟩) (meth := k1m8) (c := k1c8) (by decide +kernel) rfl rfl rfl (by decide +kernel)
set_option maxRecDepth 65536 in
theorem w_c10 : (Jvm.Cond.code ({ cls := "com/example/libplanar/libplanar/SparseMatrixGaussSeidelPinLaw", name := "c", desc := "(JIII)D" } : Jvm.MethodName) method_8_code (5 : Nat) (Option.some Jvm.ClassFile.FieldType.double)).before args0 about1 = true := code_word (m := ⟨1, 7⟩) (meth := k1m7) (c := k1c7) (by decide +kernel) rfl rfl rfl (by decide +kernel)
def codes1 : List Jvm.Cond := [Jvm.Cond.code x code maxLocals ret, Jvm.Cond.code ({ cls := "com/example/libplanar/libplanar/SparseMatrixGaussSeidelPinLaw", name := "on", desc := "(III)Z" } : Jvm.MethodName) method_4_code (3 : Nat) (Option.some Jvm.ClassFile.FieldType.boolean), Jvm.Cond.code ({ cls := "com/example/libplanar/libplanar/SparseMatrixGaussSeidelPinLaw", name := "coef", desc := "(JI)I" } : Jvm.MethodName) method_3_code (3 : Nat) (Option.some Jvm.ClassFile.FieldType.int), Jvm.Cond.code ({ cls := "com/example/libplanar/libplanar/SparseMatrixGaussSeidelPinLaw", name := "put", desc := "([I[DIZII)I" } : Jvm.MethodName) method_7_code (6 : Nat) (Option.some Jvm.ClassFile.FieldType.int), Jvm.Cond.code ({ cls := "com/example/libplanar/libplanar/SparseMatrix", name := "<init>", desc := "(II[I[I[D)V" } : Jvm.MethodName) prog_91_method_1_code (6 : Nat) (Option.none : Option Jvm.ClassFile.FieldType), Jvm.Cond.code ({ cls := "java/lang/Object", name := "<init>", desc := "()V" } : Jvm.MethodName) object_method_1_code (1 : Nat) (Option.none : Option Jvm.ClassFile.FieldType), Jvm.Cond.code ({ cls := "com/example/libplanar/libplanar/SparseMatrixGaussSeidelPinLaw", name := "small", desc := "(II)D" } : Jvm.MethodName) method_5_code (2 : Nat) (Option.some Jvm.ClassFile.FieldType.double), Jvm.Cond.code ({ cls := "com/example/libplanar/libplanar/SparseMatrixGaussSeidelPinLaw", name := "dv", desc := "(II)D" } : Jvm.MethodName) method_6_code (4 : Nat) (Option.some Jvm.ClassFile.FieldType.double), Jvm.Cond.code ({ cls := "com/example/libplanar/libplanar/SparseMatrix", name := "gaussSeidel", desc := "([D[D[DZ)V" } : Jvm.MethodName) prog_91_method_15_code (10 : Nat) (Option.none : Option Jvm.ClassFile.FieldType), Jvm.Cond.code ({ cls := "com/example/libplanar/libplanar/SparseMatrixGaussSeidelPinLaw", name := "upd", desc := "([DI[D[DJII)V" } : Jvm.MethodName) method_9_code (10 : Nat) (Option.none : Option Jvm.ClassFile.FieldType), Jvm.Cond.code ({ cls := "com/example/libplanar/libplanar/SparseMatrixGaussSeidelPinLaw", name := "c", desc := "(JIII)D" } : Jvm.MethodName) method_8_code (5 : Nat) (Option.some Jvm.ClassFile.FieldType.double)]
set_option maxRecDepth 65536 in
theorem codes_eq : words1.filter isCode = codes1 := rfl
theorem w_codes : ∀ c ∈ words1.filter isCode, c.before args0 about1 = true := by
  rw [codes_eq]
  intro c hc
  simp only [codes1, List.mem_cons, List.not_mem_nil, or_false] at hc
  rcases hc with rfl | rfl | rfl | rfl | rfl | rfl | rfl | rfl | rfl | rfl | rfl
  · exact w_c0
  · exact w_c1
  · exact w_c2
  · exact w_c3
  · exact w_c4
  · exact w_c5
  · exact w_c6
  · exact w_c7
  · exact w_c8
  · exact w_c9
  · exact w_c10
set_option maxRecDepth 65536 in
theorem w_t1 : (words1.take 24).all (fun c => isCode c || c.before args0 about1) = true := by decide +kernel
set_option maxRecDepth 65536 in
theorem w_t2 : ((words1.drop 24).take 24).all (fun c => isCode c || c.before args0 about1) = true := by decide +kernel
set_option maxRecDepth 65536 in
theorem w_t3 : ((words1.drop 24).drop 24).all (fun c => isCode c || c.before args0 about1) = true := by decide +kernel
theorem w_tables : (allAtoms (Jvm.Cond.code x code maxLocals ret :: tables_1)).before args0 about1 = true := by
  rw [allAtoms_all]
  show words1.all (fun c => c.before args0 about1) = true
  refine all_split ?_ w_codes
  rw [← List.take_append_drop 24 words1, List.all_append, w_t1, ← List.take_append_drop 24 (words1.drop 24), List.all_append, w_t2, w_t3]
  rfl
set_option maxRecDepth 65536 in
theorem w_case : (Jvm.Cond.and given_1 narrow_1).before args0 about1 = true := by decide +kernel
theorem w_applies : (headSpec (Jvm.Cond.code x code maxLocals ret :: tables_1) room_1).applies x e0.platform about1 = true :=
  (Spec.applies_iff w_frames).mpr ⟨w_running, w_runnable, w_alone, w_named, w_hears, w_ripe, w_room, w_tables⟩
theorem atStart : AtStart classFile x code maxLocals ret World_1 tables_1 room_1 Calls_1 rest_1 Pre_1 launch0 p0 e0 about1 theMethod args0 below0 :=
  ⟨lists_1, trivial, launch0.admits_env _ _ _, launch0.least_env, fairChoices_fair.cas, fairChoices_fair.clock, w_frames, w_args, w_heap, w_applies, trivial, trivial, w_case⟩
end start1
theorem witness_1 : WitnessClaimed_1 := ⟨start1.p0, start1.e0, start1.about1, start1.theMethod, start1.args0, start1.below0, start1.atStart⟩
end Jvm.Pilot.@@N@@
