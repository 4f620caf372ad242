import JvmDerived
import JvmDerived.Pilot.@@N@@Statement
import JvmDerived.Pilot.@@N@@Code
set_option linter.unusedVariables false
set_option linter.unusedSimpArgs false
namespace Jvm.RoadKit
open Sem ClassFile Op Lib Jvm.Stand Jvm.Free Jvm.LawKit
section New
variable {p : Program} {l : Launch} {e : Env} {R : Room} {s : State} {m : MethodId} {args : Array Value} {below : List Frame} {meth : Method} {c : Code} {T : State} {locs : List Loc} {cells slots : Nat}
theorem retI (X : Stand p l e R s m args below meth c T locs cells slots) (hx : p.tables.exec = Jvm.exec) {pc : Nat} {Ls : Array Slot} {z : Int32} {rest : List Value} (hret : meth.sig.returnType = some .int) (hd : decode c.code pc = .ok (.ireturn, 1)) {fs : List Frame}
    (hl : ∀ (f : JFrame) (acts : List Action), f.method = m → f.locked = none → f.entered = [] → (doReturn e (T.setTop f) acts (some (.int z))).1 = T.setFrames fs) : Steps p.tables e below (T.setTop (mkF m pc Ls (.int z :: rest))) (T.setFrames fs) := by
  have hm' : T.vm.method? m = some meth := X.method'
  have hn : narrow .int (.int z) = .int z := rfl
  show Steps p.tables e below (T.setTop { method := m, pc := pc, locals := Ls, stack := _ :: rest, locked := none }) _
  jvm_step X.here [X.here.top, hx, hd, hm', hret, hn]
  first | (intro acts; rw [hl _ acts rfl rfl rfl]) | rw [hl _ _ rfl rfl rfl]
  exact Steps.refl _
end New
end Jvm.RoadKit
namespace Jvm.Pilot.@@N@@
open Jvm Jvm.ClassFile Sem Op Lib Jvm.Free Jvm.Stand Jvm.LawKit Jvm.RoadKit Bundle Jvm.Pilot.@@N@@.Jvm.D
def own_QR (r : Option Value) (h0 : Heap) (n0 : Nat) (v : Option Value) (h : Heap) (L : List Loc) : Prop := v = r ∧ Fr n0 L ∧ h = h0
/-! own: an array of ints or longs by its length and its values -/
def own_AI (Z : State) (h : Heap) (a : Addr) (N : Nat) (f : Nat → Int32) : Prop := ∃ c : Cell, Arr Z h a c .int ∧ c.slots.size = N ∧ ∀ j, j < N → c.slots[j]? = some (.int (f j))
def own_AJ (Z : State) (h : Heap) (a : Addr) (N : Nat) (f : Nat → Int64) : Prop := ∃ c : Cell, Arr Z h a c .long ∧ c.slots.size = N ∧ ∀ j, j < N → c.slots[j]? = some (.long (f j))
def own_up {α : Type} (f : Nat → α) (i : Nat) (v : α) : Nat → α := fun j => if j = i then v else f j
theorem own_up_hit {α : Type} (f : Nat → α) (i : Nat) (v : α) : own_up f i v i = v := if_pos rfl
theorem own_up_miss {α : Type} (f : Nat → α) {i j : Nat} (v : α) (q : ¬ j = i) : own_up f i v j = f j := if_neg q
theorem own_up_same {α : Type} {f : Nat → α} {i : Nat} {v : α} (q : f i = v) : own_up f i v = f := by
  funext j
  unfold own_up
  by_cases h : j = i
  · rw [if_pos h, h, q]
  · rw [if_neg h]
theorem own_AI_ext {Z : State} {h h' : Heap} {a : Addr} {N : Nat} {f : Nat → Int32} (F : own_AI Z h a N f) (E : Ext h h') : own_AI Z h' a N f := by obtain ⟨c, A, r⟩ := F; exact ⟨c, A.ext E, r⟩
theorem own_AJ_ext {Z : State} {h h' : Heap} {a : Addr} {N : Nat} {f : Nat → Int64} (F : own_AJ Z h a N f) (E : Ext h h') : own_AJ Z h' a N f := by obtain ⟨c, A, r⟩ := F; exact ⟨c, A.ext E, r⟩
theorem own_AI_other {Z : State} {h h' : Heap} {a b : Addr} {N sl : Nat} {v : Value} {f : Nat → Int32} (F : own_AI Z h a N f) (W : Wr h h' b sl v) (q : a ≠ b) : own_AI Z h' a N f := by obtain ⟨c, A, r⟩ := F; exact ⟨c, A.other W q, r⟩
theorem own_AJ_other {Z : State} {h h' : Heap} {a b : Addr} {N sl : Nat} {v : Value} {f : Nat → Int64} (F : own_AJ Z h a N f) (W : Wr h h' b sl v) (q : a ≠ b) : own_AJ Z h' a N f := by obtain ⟨c, A, r⟩ := F; exact ⟨c, A.other W q, r⟩
theorem own_AI_keep {Z : State} {h h' : Heap} {a : Addr} {N : Nat} {ws : List Addr} {f : Nat → Int32} (F : own_AI Z h a N f) (K : Keep h h' ws) (q : a ∉ ws) : own_AI Z h' a N f := by obtain ⟨c, A, r⟩ := F; exact ⟨c, ⟨K.2.1 a c A.1 q, A.2⟩, r⟩
theorem own_AJ_keep {Z : State} {h h' : Heap} {a : Addr} {N : Nat} {ws : List Addr} {f : Nat → Int64} (F : own_AJ Z h a N f) (K : Keep h h' ws) (q : a ∉ ws) : own_AJ Z h' a N f := by obtain ⟨c, A, r⟩ := F; exact ⟨c, ⟨K.2.1 a c A.1 q, A.2⟩, r⟩
theorem own_AI_lt {Z : State} {h : Heap} {a : Addr} {N : Nat} {f : Nat → Int32} (F : own_AI Z h a N f) : a < h.size := by obtain ⟨c, A, r⟩ := F; exact A.lt
theorem own_AJ_lt {Z : State} {h : Heap} {a : Addr} {N : Nat} {f : Nat → Int64} (F : own_AJ Z h a N f) : a < h.size := by obtain ⟨c, A, r⟩ := F; exact A.lt
theorem own_AI_congr {Z : State} {h : Heap} {a : Addr} {N : Nat} {f g : Nat → Int32} (F : own_AI Z h a N f) (q : ∀ j, j < N → f j = g j) : own_AI Z h a N g := by
  obtain ⟨c, A, S, H⟩ := F; exact ⟨c, A, S, fun j hj => by rw [← q j hj]; exact H j hj⟩
theorem own_AJ_congr {Z : State} {h : Heap} {a : Addr} {N : Nat} {f g : Nat → Int64} (F : own_AJ Z h a N f) (q : ∀ j, j < N → f j = g j) : own_AJ Z h a N g := by
  obtain ⟨c, A, S, H⟩ := F; exact ⟨c, A, S, fun j hj => by rw [← q j hj]; exact H j hj⟩
theorem own_AI_new {Z : State} {h : Heap} {a : Addr} {k : ClassId} {z : Int32} {N : Nat} (A : Arr Z h a (newA k .int z) .int) (hN : z.toNatClampNeg = N) : own_AI Z h a N (fun _ => (0 : Int32)) := by
  subst hN
  refine ⟨_, A, sz_new _ _ _, fun j hj => ?_⟩
  show (Array.replicate z.toNatClampNeg (defaultValue .int))[j]? = _
  rw [Array.getElem?_replicate, if_pos hj]
  rfl
theorem own_AJ_new {Z : State} {h : Heap} {a : Addr} {k : ClassId} {z : Int32} {N : Nat} (A : Arr Z h a (newA k .long z) .long) (hN : z.toNatClampNeg = N) : own_AJ Z h a N (fun _ => (0 : Int64)) := by
  subst hN
  refine ⟨_, A, sz_new _ _ _, fun j hj => ?_⟩
  show (Array.replicate z.toNatClampNeg (defaultValue .long))[j]? = _
  rw [Array.getElem?_replicate, if_pos hj]
  rfl
theorem own_clamp {j : Int32} {i : Nat} (hj : j.toInt = (i : Int)) : j.toNatClampNeg = i := by
  show j.toInt.toNat = i
  rw [hj]; rfl
theorem own_in {j : Int32} {i N n : Nat} (hj : j.toInt = (i : Int)) (S : n = N) (hi : i < N) : ¬ (j < 0 ∨ n ≤ j.toNatClampNeg) := by
  rw [own_clamp hj, S, Int32.lt_iff_toInt_lt, hj]
  have e0 : (0 : Int32).toInt = 0 := rfl
  omega
section OwnArr
variable {p : Program} {l : Launch} {e : Env} {R : Room} {s : State} {m : MethodId} {args : Array Value} {below : List Frame} {meth : Method} {c : Code} {T : State} {locs : List Loc} {cells slots : Nat} {Z : State} {h : Heap}
theorem own_ldI (X : Stand p l e R s m args below meth c T locs cells slots) (hx : p.tables.exec = Jvm.exec) (hZ : Z.Warmed39 s.vm) (eT : T.heap = h) {a : Addr} {N : Nat} {f : Nat → Int32} (A : own_AI Z h a N f) {j : Int32} {i : Nat} (hj : j.toInt = (i : Int)) (hi : i < N) {g : JFrame} (hg : g.method = m) {rest : List Value} (hs : g.stack = .int j :: .ref a :: rest) (hd : decode c.code g.pc = .ok (.iaload, 1)) :
    ∀ target, Steps p.tables e below (T.setTop { g with pc := g.pc + 1, stack := .int (f i) :: rest }) target → Steps p.tables e below (T.setTop g) target := by
  obtain ⟨cl, Ar, S, H⟩ := A
  intro target k
  exact X.iaload hx (v := .int (f i)) (by rw [eT]; exact Ar.1) (State.isArrayOf_alike hZ.alike Ar.2.1) Ar.2.2 (own_in hj S hi) (by rw [own_clamp hj]; exact H i hi) hg hs hd target k
theorem own_ldJ (X : Stand p l e R s m args below meth c T locs cells slots) (hx : p.tables.exec = Jvm.exec) (hZ : Z.Warmed39 s.vm) (eT : T.heap = h) {a : Addr} {N : Nat} {f : Nat → Int64} (A : own_AJ Z h a N f) {j : Int32} {i : Nat} (hj : j.toInt = (i : Int)) (hi : i < N) {g : JFrame} (hg : g.method = m) {rest : List Value} (hs : g.stack = .int j :: .ref a :: rest) (hd : decode c.code g.pc = .ok (.laload, 1)) :
    ∀ target, Steps p.tables e below (T.setTop { g with pc := g.pc + 1, stack := .long (f i) :: rest }) target → Steps p.tables e below (T.setTop g) target := by
  obtain ⟨cl, Ar, S, H⟩ := A
  intro target k
  exact X.laload hx (v := .long (f i)) (by rw [eT]; exact Ar.1) (State.isArrayOf_alike hZ.alike Ar.2.1) Ar.2.2 (own_in hj S hi) (by rw [own_clamp hj]; exact H i hi) hg hs hd target k
theorem own_stI (X : Stand p l e R s m args below meth c T locs cells slots) (hx : p.tables.exec = Jvm.exec) (hZ : Z.Warmed39 s.vm) (eT : T.heap = h) {a : Addr} {N : Nat} {f : Nat → Int32} (A : own_AI Z h a N f) {j x : Int32} {i : Nat} (hj : j.toInt = (i : Int)) (hi : i < N) {g : JFrame} (hg : g.method = m) {rest : List Value} (hs : g.stack = .int x :: .int j :: .ref a :: rest) (hd : decode c.code g.pc = .ok (.iastore, 1)) :
    ∃ T' h', Stand p l e R s m args below meth c T' (locs ++ [⟨a, j.toNatClampNeg⟩]) cells slots ∧ T'.heap = h' ∧ Wr h h' a j.toNatClampNeg (.int x) ∧ own_AI Z h' a N (own_up f i x) ∧ ∀ target, Steps p.tables e below (T'.setTop { g with pc := g.pc + 1, stack := rest }) target → Steps p.tables e below (T.setTop g) target := by
  obtain ⟨cl, Ar, S, H⟩ := A
  obtain ⟨T', h', X', e', W, st⟩ := stI X hx hZ eT Ar (own_in hj S hi) hg hs hd
  refine ⟨T', h', X', e', W, ⟨_, Ar.same W, by rw [sz_set]; exact S, fun k hk => ?_⟩, st⟩
  rw [own_clamp hj]
  show (cl.slots.setIfInBounds i (.int x))[k]? = _
  unfold own_up
  by_cases q : k = i
  · rw [if_pos q, q, Array.getElem?_setIfInBounds, if_pos rfl, if_pos (by omega)]
  · rw [if_neg q, Array.getElem?_setIfInBounds_ne (fun z => q z.symm)]
    exact H k hk
theorem own_stJ (X : Stand p l e R s m args below meth c T locs cells slots) (hx : p.tables.exec = Jvm.exec) (hZ : Z.Warmed39 s.vm) (eT : T.heap = h) {a : Addr} {N : Nat} {f : Nat → Int64} (A : own_AJ Z h a N f) {j : Int32} {x : Int64} {i : Nat} (hj : j.toInt = (i : Int)) (hi : i < N) {g : JFrame} (hg : g.method = m) {rest : List Value} (hs : g.stack = .long x :: .int j :: .ref a :: rest) (hd : decode c.code g.pc = .ok (.lastore, 1)) :
    ∃ T' h', Stand p l e R s m args below meth c T' (locs ++ [⟨a, j.toNatClampNeg⟩]) cells slots ∧ T'.heap = h' ∧ Wr h h' a j.toNatClampNeg (.long x) ∧ own_AJ Z h' a N (own_up f i x) ∧ ∀ target, Steps p.tables e below (T'.setTop { g with pc := g.pc + 1, stack := rest }) target → Steps p.tables e below (T.setTop g) target := by
  obtain ⟨cl, Ar, S, H⟩ := A
  obtain ⟨T', h', X', e', W, st⟩ := stJ X hx hZ eT Ar (own_in hj S hi) hg hs hd
  refine ⟨T', h', X', e', W, ⟨_, Ar.same W, by rw [sz_set]; exact S, fun k hk => ?_⟩, st⟩
  rw [own_clamp hj]
  show (cl.slots.setIfInBounds i (.long x))[k]? = _
  unfold own_up
  by_cases q : k = i
  · rw [if_pos q, q, Array.getElem?_setIfInBounds, if_pos rfl, if_pos (by omega)]
  · rw [if_neg q, Array.getElem?_setIfInBounds_ne (fun z => q z.symm)]
    exact H k hk
end OwnArr
/-! own: the locals by what is known of them (stale slots are left unsaid) -/
def own_wf (l : Array Slot) : Prop :=
  (∀ (i : Nat) (v : Value), l[i]? = some (.val v) → v.category = 2 → l[i + 1]? = some .second) ∧
  (∀ (i : Nat), l[i]? = some .second → ∃ (j : Nat) (v : Value), i = j + 1 ∧ l[j]? = some (.val v) ∧ v.category = 2)
def own_Lv (n : Nat) (l : Array Slot) (vs : List (Nat × Value)) : Prop := l.size = n ∧ own_wf l ∧ ∀ q ∈ vs, l[q.1]? = some (.val q.2)
theorem own_Lv_get {n : Nat} {l : Array Slot} {vs : List (Nat × Value)} (h : own_Lv n l vs) (i : Nat) {k : Nat} {v : Value} (q : vs[i]? = some (k, v)) : l[k]? = some (.val v) := h.2.2 (k, v) (List.mem_of_getElem? q)
theorem own_Lv_pick {n : Nat} {l : Array Slot} {vs vs' : List (Nat × Value)} (h : own_Lv n l vs) (is : List Nat) (q : is.map (fun i => vs[i]?) = vs'.map some) : own_Lv n l vs' := by
  refine ⟨h.1, h.2.1, fun w hw => h.2.2 w ?_⟩
  have h1 : some w ∈ vs'.map some := List.mem_map.mpr ⟨w, hw, rfl⟩
  rw [← q] at h1
  obtain ⟨i, -, hi⟩ := List.mem_map.mp h1
  exact List.mem_of_getElem? hi
theorem own_gs (l : Array Slot) {i : Nat} (j : Nat) (x : Slot) (hi : i < l.size) : (l.setIfInBounds i x)[j]? = if j = i then some x else l[j]? := by
  by_cases h : j = i
  · subst h
    rw [if_pos rfl, Array.getElem?_setIfInBounds, if_pos rfl, if_pos hi]
  · rw [if_neg h, Array.getElem?_setIfInBounds_ne (fun q => h q.symm)]
theorem own_setAt {l : Array Slot} {i : Nat} (x : Slot) (hi : i < l.size) : setAt l i x = some (l.setIfInBounds i x) := by
  unfold setAt; rw [if_pos hi]
theorem own_szs (l : Array Slot) (i : Nat) (x : Slot) : (l.setIfInBounds i x).size = l.size := Array.size_setIfInBounds
/-- the first half of a store: afterwards nothing hangs on the place k -/
theorem own_clear {l : Array Slot} (hw : own_wf l) {k : Nat} (hk : k < l.size) (v : Value) :
    ∃ l1 : Array Slot, storeLocals l k v = storeSelf l1 k v ∧ l1.size = l.size ∧
      (∀ (i : Nat) (w : Value), i ≠ k → l[i]? = some (.val w) → ¬ (i + 1 = k ∧ w.category = 2) → l1[i]? = some (.val w)) ∧
      (∀ (i : Nat) (w : Value), i ≠ k → l1[i]? = some (.val w) → w.category = 2 → l1[i + 1]? = some .second ∧ i + 1 ≠ k) ∧
      (∀ (i : Nat), i ≠ k → l1[i]? = some .second → ∃ (j : Nat) (w : Value), i = j + 1 ∧ j ≠ k ∧ l1[j]? = some (.val w) ∧ w.category = 2) := by
  obtain ⟨w1, w2⟩ := hw
  have hget : l[k]? = some l[k] := Array.getElem?_eq_getElem hk
  rcases hs : l[k] with _ | _ | old
  · -- unset
    rw [hs] at hget
    refine ⟨l, by simp [storeLocals, hget], rfl, fun i w _ h _ => h, fun i w _ h hc => ⟨w1 i w h hc, fun q => ?_⟩, fun i hi h => ?_⟩
    · have := w1 i w h hc; rw [q, hget] at this; cases this
    · obtain ⟨j, w, e, h1, h2⟩ := w2 i h
      exact ⟨j, w, e, (fun q => by rw [q, hget] at h1; cases h1), h1, h2⟩
  · -- second
    rw [hs] at hget
    obtain ⟨j0, w0, e0, h0, c0⟩ := w2 k hget
    have hj0 : j0 < l.size := by omega
    have hk1 : k - 1 = j0 := by omega
    refine ⟨l.setIfInBounds j0 .unset, by simp [storeLocals, hget, hk1, own_setAt .unset hj0], own_szs _ _ _, fun i w hi h hn => ?_, fun i w hi h hc => ?_, fun i hi h => ?_⟩
    · rw [own_gs l i .unset hj0, if_neg]
      · exact h
      · intro q; subst q; rw [h0] at h; cases h; exact hn ⟨e0.symm, c0⟩
    · rw [own_gs l i .unset hj0] at h
      by_cases q : i = j0
      · rw [if_pos q] at h; cases h
      · rw [if_neg q] at h
        have h3 := w1 i w h hc
        rw [own_gs l (i + 1) .unset hj0, if_neg]
        · exact ⟨h3, fun z => q (by omega)⟩
        · intro z; rw [z, h0] at h3; cases h3
    · rw [own_gs l i .unset hj0] at h
      by_cases q : i = j0
      · rw [if_pos q] at h; cases h
      · rw [if_neg q] at h
        obtain ⟨j, w, e, h1, h2⟩ := w2 i h
        have hjk : j ≠ k := fun z => by rw [z, hget] at h1; cases h1
        have hjj : j ≠ j0 := fun z => hi (by omega)
        exact ⟨j, w, e, hjk, by rw [own_gs l j .unset hj0, if_neg hjj]; exact h1, h2⟩
  · rw [hs] at hget
    by_cases hc0 : old.category = 2
    · have h0 := w1 k old hget hc0
      have hk2 : k + 1 < l.size := (Array.getElem?_eq_some_iff.mp h0).1
      refine ⟨l.setIfInBounds (k + 1) .unset, by simp [storeLocals, hget, hc0, own_setAt .unset hk2], own_szs _ _ _, fun i w hi h hn => ?_, fun i w hi h hc => ?_, fun i hi h => ?_⟩
      · rw [own_gs l i .unset hk2, if_neg]
        · exact h
        · intro q; rw [q, h0] at h; cases h
      · rw [own_gs l i .unset hk2] at h
        by_cases q : i = k + 1
        · rw [if_pos q] at h; cases h
        · rw [if_neg q] at h
          have h3 := w1 i w h hc
          have hn : i + 1 ≠ k := fun z => by rw [z, hget] at h3; cases h3
          rw [own_gs l (i + 1) .unset hk2, if_neg (by omega)]
          exact ⟨h3, hn⟩
      · rw [own_gs l i .unset hk2] at h
        by_cases q : i = k + 1
        · rw [if_pos q] at h; cases h
        · rw [if_neg q] at h
          obtain ⟨j, w, e, h1, h2⟩ := w2 i h
          have hjk : j ≠ k := fun z => q (by omega)
          have hjk1 : j ≠ k + 1 := fun z => by rw [z, h0] at h1; cases h1
          exact ⟨j, w, e, hjk, by rw [own_gs l j .unset hk2, if_neg hjk1]; exact h1, h2⟩
    · refine ⟨l, by simp [storeLocals, hget, hc0], rfl, fun i w _ h _ => h, fun i w _ h hc => ⟨w1 i w h hc, fun q => ?_⟩, fun i hi h => ?_⟩
      · have := w1 i w h hc; rw [q, hget] at this; cases this
      · obtain ⟨j, w, e, h1, h2⟩ := w2 i h
        exact ⟨j, w, e, (fun q => by rw [q, hget] at h1; cases h1; exact hc0 h2), h1, h2⟩
def own_keep1 (k : Nat) (q : Nat × Value) : Bool := !(Nat.beq q.1 k) && !(Nat.beq (q.1 + 1) k && Nat.beq q.2.category 2)
def own_keep2 (k : Nat) (q : Nat × Value) : Bool := !(Nat.beq q.1 k) && !(Nat.beq q.1 (k + 1)) && !(Nat.beq (q.1 + 1) k && Nat.beq q.2.category 2)
theorem own_keep1_iff {k : Nat} {q : Nat × Value} (h : own_keep1 k q = true) : q.1 ≠ k ∧ ¬ (q.1 + 1 = k ∧ q.2.category = 2) := by
  simp only [own_keep1, Bool.and_eq_true, Bool.not_eq_true', Bool.and_eq_false_iff, ← Bool.not_eq_true, Nat.beq_eq] at h
  omega
theorem own_keep2_iff {k : Nat} {q : Nat × Value} (h : own_keep2 k q = true) : q.1 ≠ k ∧ q.1 ≠ k + 1 ∧ ¬ (q.1 + 1 = k ∧ q.2.category = 2) := by
  simp only [own_keep2, Bool.and_eq_true, Bool.not_eq_true', Bool.and_eq_false_iff, ← Bool.not_eq_true, Nat.beq_eq] at h
  omega
theorem own_Lv_st1 {n : Nat} {l : Array Slot} {vs : List (Nat × Value)} (h : own_Lv n l vs) {k : Nat} {v : Value} (hk : k < n) (hv : v.category = 1) :
    ∃ l' : Array Slot, storeLocals l k v = some l' ∧ own_Lv n l' ((k, v) :: vs.filter (own_keep1 k)) := by
  obtain ⟨hn, hw, hl⟩ := h
  subst hn
  obtain ⟨l1, e1, s1, a1, a2, a3⟩ := own_clear hw hk v
  have hk1 : k < l1.size := by omega
  refine ⟨l1.setIfInBounds k (.val v), ?_, by rw [own_szs]; exact s1, ⟨fun i w h hc => ?_, fun i h => ?_⟩, fun q hq => ?_⟩
  · rw [e1]; simp [storeSelf, own_setAt (.val v) hk1, hv]
  · rw [own_gs l1 i _ hk1] at h
    by_cases q : i = k
    · rw [if_pos q] at h; cases h; omega
    · rw [if_neg q] at h
      obtain ⟨h1, h2⟩ := a2 i w q h hc
      rw [own_gs l1 (i + 1) _ hk1, if_neg h2]; exact h1
  · rw [own_gs l1 i _ hk1] at h
    by_cases q : i = k
    · rw [if_pos q] at h; cases h
    · rw [if_neg q] at h
      obtain ⟨j, w, e, h1, h2, h3⟩ := a3 i q h
      exact ⟨j, w, e, by rw [own_gs l1 j _ hk1, if_neg h1]; exact h2, h3⟩
  · rcases List.mem_cons.mp hq with rfl | hq
    · rw [own_gs l1 _ _ hk1, if_pos rfl]
    · obtain ⟨hq1, hq2⟩ := List.mem_filter.mp hq
      obtain ⟨h1, h2⟩ := own_keep1_iff hq2
      rw [own_gs l1 _ _ hk1, if_neg h1]
      exact a1 q.1 q.2 h1 (hl q hq1) h2
theorem own_Lv_st2 {n : Nat} {l : Array Slot} {vs : List (Nat × Value)} (h : own_Lv n l vs) {k : Nat} {v : Value} (hk : k + 1 < n) (hv : v.category = 2) :
    ∃ l' : Array Slot, storeLocals l k v = some l' ∧ own_Lv n l' ((k, v) :: vs.filter (own_keep2 k)) := by
  obtain ⟨hn, hw, hl⟩ := h
  subst hn
  obtain ⟨l1, e1, s1, a1, a2, a3⟩ := own_clear hw (by omega : k < l.size) v
  have hk1 : k < l1.size := by omega
  have hk2 : k + 1 < l1.size := by omega
  have hk3 : k + 1 < (l1.setIfInBounds k (.val v)).size := by rw [own_szs]; exact hk2
  have g1 : (l1.setIfInBounds k (.val v))[k + 1]? = l1[k + 1]? := by rw [own_gs l1 _ _ hk1, if_neg (by omega)]
  by_cases hc : ∃ u : Value, l1[k + 1]? = some (.val u) ∧ u.category = 2
  · obtain ⟨u, hu, cu⟩ := hc
    obtain ⟨h0, -⟩ := a2 (k + 1) u (by omega) hu cu
    have hk4 : k + 1 + 1 < l1.size := (Array.getElem?_eq_some_iff.mp h0).1
    have hk5 : k + 2 < (l1.setIfInBounds k (.val v)).size := by rw [own_szs]; exact hk4
    have hk6 : k + 1 < ((l1.setIfInBounds k (.val v)).setIfInBounds (k + 2) .unset).size := by rw [own_szs]; exact hk3
    have gg : ∀ j, (((l1.setIfInBounds k (.val v)).setIfInBounds (k + 2) .unset).setIfInBounds (k + 1) .second)[j]? = if j = k + 1 then some .second else if j = k + 2 then some .unset else if j = k then some (.val v) else l1[j]? := fun j => by
      rw [own_gs _ j _ hk6, own_gs _ j _ hk5, own_gs _ j _ hk1]
    refine ⟨((l1.setIfInBounds k (.val v)).setIfInBounds (k + 2) .unset).setIfInBounds (k + 1) .second, ?_, by rw [own_szs, own_szs, own_szs]; exact s1, ⟨fun i w h hcw => ?_, fun i h => ?_⟩, fun q hq => ?_⟩
    · rw [e1]
      simp only [storeSelf, own_setAt (.val v) hk1, Option.bind_eq_bind, Option.bind_some, hv, if_true, g1, hu, cu, own_setAt .unset hk5, own_setAt .second hk6]
    · rw [gg] at h
      rw [gg]
      by_cases q1 : i = k + 1
      · rw [if_pos q1] at h; cases h
      · rw [if_neg q1] at h
        by_cases q2 : i = k + 2
        · rw [if_pos q2] at h; cases h
        · rw [if_neg q2] at h
          by_cases q3 : i = k
          · rw [if_pos (by omega)]
          · rw [if_neg q3] at h
            obtain ⟨h1, h2⟩ := a2 i w q3 h hcw
            rw [if_neg (by omega), if_neg (by omega), if_neg h2]; exact h1
    · rw [gg] at h
      by_cases q1 : i = k + 1
      · exact ⟨k, v, q1, by rw [gg, if_neg (by omega), if_neg (by omega), if_pos rfl], hv⟩
      · rw [if_neg q1] at h
        by_cases q2 : i = k + 2
        · rw [if_pos q2] at h; cases h
        · rw [if_neg q2] at h
          by_cases q3 : i = k
          · rw [if_pos q3] at h; cases h
          · rw [if_neg q3] at h
            obtain ⟨j, w, e, h1, h2, h3⟩ := a3 i q3 h
            have hj2 : j ≠ k + 2 := fun z => by rw [z] at h2; rw [show k + 2 = k + 1 + 1 from rfl, h0] at h2; cases h2
            exact ⟨j, w, e, by rw [gg, if_neg (by omega), if_neg hj2, if_neg h1]; exact h2, h3⟩
    · rw [gg]
      rcases List.mem_cons.mp hq with rfl | hq
      · rw [if_neg (by omega), if_neg (by omega), if_pos rfl]
      · obtain ⟨hq1, hq2⟩ := List.mem_filter.mp hq
        obtain ⟨h1, h2, h3⟩ := own_keep2_iff hq2
        have h4 := a1 q.1 q.2 h1 (hl q hq1) h3
        have h5 : q.1 ≠ k + 2 := fun z => by rw [z] at h4; rw [show k + 2 = k + 1 + 1 from rfl, h0] at h4; cases h4
        rw [if_neg h2, if_neg h5, if_neg h1]; exact h4
  · have gg : ∀ j, ((l1.setIfInBounds k (.val v)).setIfInBounds (k + 1) .second)[j]? = if j = k + 1 then some .second else if j = k then some (.val v) else l1[j]? := fun j => by
      rw [own_gs _ j _ hk3, own_gs _ j _ hk1]
    refine ⟨(l1.setIfInBounds k (.val v)).setIfInBounds (k + 1) .second, ?_, by rw [own_szs, own_szs]; exact s1, ⟨fun i w h hcw => ?_, fun i h => ?_⟩, fun q hq => ?_⟩
    · rw [e1]
      have g2 : l1[k + 1]? = some l1[k + 1] := Array.getElem?_eq_getElem hk2
      simp only [storeSelf, own_setAt (.val v) hk1, Option.bind_eq_bind, Option.bind_some, hv, if_true, g1]
      rcases hs : l1[k + 1] with _ | _ | old
      · rw [hs] at g2; simp only [g2, Option.bind_some, own_setAt .second hk3]
      · rw [hs] at g2; simp only [g2, Option.bind_some, own_setAt .second hk3]
      · rw [hs] at g2
        have ho : ¬ old.category = 2 := fun z => hc ⟨old, g2, z⟩
        simp only [g2, Option.bind_some, ho, if_false, own_setAt .second hk3]
    · rw [gg] at h
      rw [gg]
      by_cases q1 : i = k + 1
      · rw [if_pos q1] at h; cases h
      · rw [if_neg q1] at h
        by_cases q3 : i = k
        · rw [if_pos (by omega)]
        · rw [if_neg q3] at h
          obtain ⟨h1, h2⟩ := a2 i w q3 h hcw
          rw [if_neg (by omega), if_neg h2]; exact h1
    · rw [gg] at h
      by_cases q1 : i = k + 1
      · exact ⟨k, v, q1, by rw [gg, if_neg (by omega), if_pos rfl], hv⟩
      · rw [if_neg q1] at h
        by_cases q3 : i = k
        · rw [if_pos q3] at h; cases h
        · rw [if_neg q3] at h
          obtain ⟨j, w, e, h1, h2, h3⟩ := a3 i q3 h
          have hj2 : j ≠ k + 1 := fun z => hc ⟨w, by rw [← z]; exact h2, h3⟩
          exact ⟨j, w, e, by rw [gg, if_neg hj2, if_neg h1]; exact h2, h3⟩
    · rw [gg]
      rcases List.mem_cons.mp hq with rfl | hq
      · rw [if_neg (by omega), if_pos rfl]
      · obtain ⟨hq1, hq2⟩ := List.mem_filter.mp hq
        obtain ⟨h1, h2, h3⟩ := own_keep2_iff hq2
        rw [if_neg h2, if_neg h1]; exact a1 q.1 q.2 h1 (hl q hq1) h3
theorem own_Lv_nil (n : Nat) : own_Lv n (Array.replicate n .unset) [] := by
  refine ⟨Array.size_replicate, ⟨fun i v h => ?_, fun i h => ?_⟩, fun q hq => by cases hq⟩
  · rw [Array.getElem?_replicate] at h; split at h <;> cases h
  · rw [Array.getElem?_replicate] at h; split at h <;> cases h
theorem own_Lv_s1 {n : Nat} {l l' : Array Slot} {vs : List (Nat × Value)} (h : own_Lv n l vs) {k : Nat} {v : Value} (hk : k < n) (hv : v.category = 1) (hs : storeLocals l k v = some l') : own_Lv n l' ((k, v) :: vs.filter (own_keep1 k)) := by
  obtain ⟨l2, h1, h2⟩ := own_Lv_st1 h hk hv
  rw [hs] at h1; cases h1; exact h2
theorem own_Lv_s2 {n : Nat} {l l' : Array Slot} {vs : List (Nat × Value)} (h : own_Lv n l vs) {k : Nat} {v : Value} (hk : k + 1 < n) (hv : v.category = 2) (hs : storeLocals l k v = some l') : own_Lv n l' ((k, v) :: vs.filter (own_keep2 k)) := by
  obtain ⟨l2, h1, h2⟩ := own_Lv_st2 h hk hv
  rw [hs] at h1; cases h1; exact h2
/-! own: from a state to a state within one body, the locals by what is known of them -/
def own_St (p : Program) (l : Launch) (e : Env) (R : Room) (s : State) (m : MethodId) (args : Array Value) (below : List Frame) (meth : Method) (c : Code) (n n0 : Nat) (T : State) (ls : Array Slot) (vs : List (Nat × Value)) (P : Heap → Prop) : Prop :=
  ∃ locs, Stand p l e R s m args below meth c T locs 0 0 ∧ Fr n0 locs ∧ own_Lv n ls vs ∧ P T.heap
def own_To (p : Program) (l : Launch) (e : Env) (R : Room) (s : State) (m : MethodId) (args : Array Value) (below : List Frame) (meth : Method) (c : Code) (n n0 : Nat) (T : State) (F : JFrame) (pc : Nat) (vs : List (Nat × Value)) (P : Heap → Prop) : Prop :=
  ∃ T' ls', own_St p l e R s m args below meth c n n0 T' ls' vs P ∧ ∀ target, Steps p.tables e below (T'.setTop (mkF m pc ls' [])) target → Steps p.tables e below (T.setTop F) target
theorem own_To_trans {p : Program} {l : Launch} {e : Env} {R : Room} {s : State} {m : MethodId} {args : Array Value} {below : List Frame} {meth : Method} {c : Code} {n n0 : Nat} {T : State} {F : JFrame} {pc pc' : Nat} {vs vs' : List (Nat × Value)} {P P' : Heap → Prop}
    (h : own_To p l e R s m args below meth c n n0 T F pc vs P)
    (k : ∀ T' ls', own_St p l e R s m args below meth c n n0 T' ls' vs P → own_To p l e R s m args below meth c n n0 T' (mkF m pc ls' []) pc' vs' P') :
    own_To p l e R s m args below meth c n n0 T F pc' vs' P' := by
  obtain ⟨T1, l1, S1, g1⟩ := h
  obtain ⟨T2, l2, S2, g2⟩ := k T1 l1 S1
  exact ⟨T2, l2, S2, fun t q => g1 t (g2 t q)⟩
/-- a loop of n turns -/
theorem own_loop {p : Program} {l : Launch} {e : Env} {R : Room} {s : State} {m : MethodId} {args : Array Value} {below : List Frame} {meth : Method} {c : Code} {n n0 : Nat} {pc : Nat} (vs : Nat → List (Nat × Value)) (P : Nat → Heap → Prop) {N : Nat}
    (turn : ∀ i, i < N → ∀ T ls, own_St p l e R s m args below meth c n n0 T ls (vs i) (P i) → own_To p l e R s m args below meth c n n0 T (mkF m pc ls []) pc (vs (i + 1)) (P (i + 1))) :
    ∀ k i, i + k = N → ∀ T ls, own_St p l e R s m args below meth c n n0 T ls (vs i) (P i) → own_To p l e R s m args below meth c n n0 T (mkF m pc ls []) pc (vs N) (P N) := by
  intro k
  induction k with
  | zero =>
    intro i hi T ls S
    obtain rfl : i = N := by omega
    exact ⟨T, ls, S, fun t q => q⟩
  | succ k ih =>
    intro i hi T ls S
    exact own_To_trans (turn i (by omega) T ls S) fun T' ls' S' => ih (i + 1) (by omega) T' ls' S'
def own_i (i : Nat) : Int32 := Int32.ofNat i
theorem own_i_toInt {i : Nat} (h : i < 2147483648) : (own_i i).toInt = (i : Int) := by
  unfold own_i
  rw [Int32.toInt_ofNat_of_lt (by omega)]
theorem own_i_succ (i : Nat) : own_i (i + 1) = own_i i + (1 : Int32) := by
  unfold own_i
  rw [Int32.ofNat_add]
  rfl
theorem own_i_lt {i n : Nat} {k : Int32} (hi : i < 2147483648) (hk : k.toInt = (n : Int)) : own_i i < k ↔ i < n := by
  rw [Int32.lt_iff_toInt_lt, own_i_toInt hi, hk]
  omega
def own_sum : Nat → (Nat → Int64) → Int64
  | 0, _ => 0
  | n + 1, g => own_sum n g + g n
section OwnLen
variable {p : Program} {l : Launch} {e : Env} {R : Room} {s : State} {m : MethodId} {args : Array Value} {below : List Frame} {meth : Method} {c : Code} {T : State} {locs : List Loc} {cells slots : Nat} {Z : State} {h : Heap}
theorem own_lenI (X : Stand p l e R s m args below meth c T locs cells slots) (hx : p.tables.exec = Jvm.exec) (hZ : Z.Warmed39 s.vm) (eT : T.heap = h) {a : Addr} {N : Nat} {f : Nat → Int32} (A : own_AI Z h a N f) {g : JFrame} (hg : g.method = m) {rest : List Value} (hs : g.stack = .ref a :: rest) (hd : decode c.code g.pc = .ok (.arraylength, 1)) :
    ∀ target, Steps p.tables e below (T.setTop { g with pc := g.pc + 1, stack := .int (own_i N) :: rest }) target → Steps p.tables e below (T.setTop g) target := by
  obtain ⟨cl, Ar, S, H⟩ := A
  intro target k
  refine X.arraylength hx (cell := cl) (by rw [eT]; exact Ar.1) (State.isArrayOf_alike hZ.alike Ar.2.1) hg hs hd target ?_
  rw [S]; exact k
theorem own_lenJ (X : Stand p l e R s m args below meth c T locs cells slots) (hx : p.tables.exec = Jvm.exec) (hZ : Z.Warmed39 s.vm) (eT : T.heap = h) {a : Addr} {N : Nat} {f : Nat → Int64} (A : own_AJ Z h a N f) {g : JFrame} (hg : g.method = m) {rest : List Value} (hs : g.stack = .ref a :: rest) (hd : decode c.code g.pc = .ok (.arraylength, 1)) :
    ∀ target, Steps p.tables e below (T.setTop { g with pc := g.pc + 1, stack := .int (own_i N) :: rest }) target → Steps p.tables e below (T.setTop g) target := by
  obtain ⟨cl, Ar, S, H⟩ := A
  intro target k
  refine X.arraylength hx (cell := cl) (by rw [eT]; exact Ar.1) (State.isArrayOf_alike hZ.alike Ar.2.1) hg hs hd target ?_
  rw [S]; exact k
end OwnLen
def own_ne (a : Addr) (A : Nat → Addr) : Prop := (∀ i, i < 7 → a ≠ A i) ∧ ∀ i j, i < 7 → j < 7 → i ≠ j → A i ≠ A j
def own_B (Z : State) (a : Addr) (A : Nat → Addr) (N : Nat) (f : Nat → Int32) (r k : Int32) (g1 g2 g3 g4 g5 g6 : Nat → Int64) (h : Heap) : Prop :=
  Exa Z h a "quartess/quartet/Anchors" ∧ Fld Z h a "quartess/quartet/Anchors" "cells" "[I" (.ref (A 0)) ∧ Fld Z h a "quartess/quartet/Anchors" "rowSums" "[J" (.ref (A 1)) ∧ Fld Z h a "quartess/quartet/Anchors" "rowSquares" "[J" (.ref (A 2)) ∧ Fld Z h a "quartess/quartet/Anchors" "rowRest" "[J" (.ref (A 3)) ∧ Fld Z h a "quartess/quartet/Anchors" "columnSums" "[J" (.ref (A 4)) ∧ Fld Z h a "quartess/quartet/Anchors" "columnSquares" "[J" (.ref (A 5)) ∧ Fld Z h a "quartess/quartet/Anchors" "columnRest" "[J" (.ref (A 6)) ∧ Fld Z h a "quartess/quartet/Anchors" "rows" "I" (.int r) ∧ Fld Z h a "quartess/quartet/Anchors" "columns" "I" (.int k) ∧ own_AI Z h (A 0) N f ∧ own_AJ Z h (A 1) 4 g1 ∧ own_AJ Z h (A 2) 4 g2 ∧ own_AJ Z h (A 3) 4 g3 ∧ own_AJ Z h (A 4) 4 g4 ∧ own_AJ Z h (A 5) 4 g5 ∧ own_AJ Z h (A 6) 4 g6
theorem own_B_E {Z : State} {a : Addr} {A : Nat → Addr} {N : Nat} {f : Nat → Int32} {r k : Int32} {g1 g2 g3 g4 g5 g6 : Nat → Int64} {h : Heap} (B : own_B Z a A N f r k g1 g2 g3 g4 g5 g6 h) : Exa Z h a "quartess/quartet/Anchors" := B.1
theorem own_B_cells {Z : State} {a : Addr} {A : Nat → Addr} {N : Nat} {f : Nat → Int32} {r k : Int32} {g1 g2 g3 g4 g5 g6 : Nat → Int64} {h : Heap} (B : own_B Z a A N f r k g1 g2 g3 g4 g5 g6 h) : Fld Z h a "quartess/quartet/Anchors" "cells" "[I" (.ref (A 0)) := B.2.1
theorem own_B_rowSums {Z : State} {a : Addr} {A : Nat → Addr} {N : Nat} {f : Nat → Int32} {r k : Int32} {g1 g2 g3 g4 g5 g6 : Nat → Int64} {h : Heap} (B : own_B Z a A N f r k g1 g2 g3 g4 g5 g6 h) : Fld Z h a "quartess/quartet/Anchors" "rowSums" "[J" (.ref (A 1)) := B.2.2.1
theorem own_B_rowSquares {Z : State} {a : Addr} {A : Nat → Addr} {N : Nat} {f : Nat → Int32} {r k : Int32} {g1 g2 g3 g4 g5 g6 : Nat → Int64} {h : Heap} (B : own_B Z a A N f r k g1 g2 g3 g4 g5 g6 h) : Fld Z h a "quartess/quartet/Anchors" "rowSquares" "[J" (.ref (A 2)) := B.2.2.2.1
theorem own_B_rowRest {Z : State} {a : Addr} {A : Nat → Addr} {N : Nat} {f : Nat → Int32} {r k : Int32} {g1 g2 g3 g4 g5 g6 : Nat → Int64} {h : Heap} (B : own_B Z a A N f r k g1 g2 g3 g4 g5 g6 h) : Fld Z h a "quartess/quartet/Anchors" "rowRest" "[J" (.ref (A 3)) := B.2.2.2.2.1
theorem own_B_columnSums {Z : State} {a : Addr} {A : Nat → Addr} {N : Nat} {f : Nat → Int32} {r k : Int32} {g1 g2 g3 g4 g5 g6 : Nat → Int64} {h : Heap} (B : own_B Z a A N f r k g1 g2 g3 g4 g5 g6 h) : Fld Z h a "quartess/quartet/Anchors" "columnSums" "[J" (.ref (A 4)) := B.2.2.2.2.2.1
theorem own_B_columnSquares {Z : State} {a : Addr} {A : Nat → Addr} {N : Nat} {f : Nat → Int32} {r k : Int32} {g1 g2 g3 g4 g5 g6 : Nat → Int64} {h : Heap} (B : own_B Z a A N f r k g1 g2 g3 g4 g5 g6 h) : Fld Z h a "quartess/quartet/Anchors" "columnSquares" "[J" (.ref (A 5)) := B.2.2.2.2.2.2.1
theorem own_B_columnRest {Z : State} {a : Addr} {A : Nat → Addr} {N : Nat} {f : Nat → Int32} {r k : Int32} {g1 g2 g3 g4 g5 g6 : Nat → Int64} {h : Heap} (B : own_B Z a A N f r k g1 g2 g3 g4 g5 g6 h) : Fld Z h a "quartess/quartet/Anchors" "columnRest" "[J" (.ref (A 6)) := B.2.2.2.2.2.2.2.1
theorem own_B_rows {Z : State} {a : Addr} {A : Nat → Addr} {N : Nat} {f : Nat → Int32} {r k : Int32} {g1 g2 g3 g4 g5 g6 : Nat → Int64} {h : Heap} (B : own_B Z a A N f r k g1 g2 g3 g4 g5 g6 h) : Fld Z h a "quartess/quartet/Anchors" "rows" "I" (.int r) := B.2.2.2.2.2.2.2.2.1
theorem own_B_columns {Z : State} {a : Addr} {A : Nat → Addr} {N : Nat} {f : Nat → Int32} {r k : Int32} {g1 g2 g3 g4 g5 g6 : Nat → Int64} {h : Heap} (B : own_B Z a A N f r k g1 g2 g3 g4 g5 g6 h) : Fld Z h a "quartess/quartet/Anchors" "columns" "I" (.int k) := B.2.2.2.2.2.2.2.2.2.1
theorem own_B_v0 {Z : State} {a : Addr} {A : Nat → Addr} {N : Nat} {f : Nat → Int32} {r k : Int32} {g1 g2 g3 g4 g5 g6 : Nat → Int64} {h : Heap} (B : own_B Z a A N f r k g1 g2 g3 g4 g5 g6 h) : own_AI Z h (A 0) N f := B.2.2.2.2.2.2.2.2.2.2.1
theorem own_B_v1 {Z : State} {a : Addr} {A : Nat → Addr} {N : Nat} {f : Nat → Int32} {r k : Int32} {g1 g2 g3 g4 g5 g6 : Nat → Int64} {h : Heap} (B : own_B Z a A N f r k g1 g2 g3 g4 g5 g6 h) : own_AJ Z h (A 1) 4 g1 := B.2.2.2.2.2.2.2.2.2.2.2.1
theorem own_B_v2 {Z : State} {a : Addr} {A : Nat → Addr} {N : Nat} {f : Nat → Int32} {r k : Int32} {g1 g2 g3 g4 g5 g6 : Nat → Int64} {h : Heap} (B : own_B Z a A N f r k g1 g2 g3 g4 g5 g6 h) : own_AJ Z h (A 2) 4 g2 := B.2.2.2.2.2.2.2.2.2.2.2.2.1
theorem own_B_v3 {Z : State} {a : Addr} {A : Nat → Addr} {N : Nat} {f : Nat → Int32} {r k : Int32} {g1 g2 g3 g4 g5 g6 : Nat → Int64} {h : Heap} (B : own_B Z a A N f r k g1 g2 g3 g4 g5 g6 h) : own_AJ Z h (A 3) 4 g3 := B.2.2.2.2.2.2.2.2.2.2.2.2.2.1
theorem own_B_v4 {Z : State} {a : Addr} {A : Nat → Addr} {N : Nat} {f : Nat → Int32} {r k : Int32} {g1 g2 g3 g4 g5 g6 : Nat → Int64} {h : Heap} (B : own_B Z a A N f r k g1 g2 g3 g4 g5 g6 h) : own_AJ Z h (A 4) 4 g4 := B.2.2.2.2.2.2.2.2.2.2.2.2.2.2.1
theorem own_B_v5 {Z : State} {a : Addr} {A : Nat → Addr} {N : Nat} {f : Nat → Int32} {r k : Int32} {g1 g2 g3 g4 g5 g6 : Nat → Int64} {h : Heap} (B : own_B Z a A N f r k g1 g2 g3 g4 g5 g6 h) : own_AJ Z h (A 5) 4 g5 := B.2.2.2.2.2.2.2.2.2.2.2.2.2.2.2.1
theorem own_B_v6 {Z : State} {a : Addr} {A : Nat → Addr} {N : Nat} {f : Nat → Int32} {r k : Int32} {g1 g2 g3 g4 g5 g6 : Nat → Int64} {h : Heap} (B : own_B Z a A N f r k g1 g2 g3 g4 g5 g6 h) : own_AJ Z h (A 6) 4 g6 := B.2.2.2.2.2.2.2.2.2.2.2.2.2.2.2.2
theorem own_B_st1 {Z : State} {a : Addr} {A : Nat → Addr} {N : Nat} {f : Nat → Int32} {r k : Int32} {g1 g2 g3 g4 g5 g6 : Nat → Int64} {h : Heap} {h' : Heap} {sl : Nat} {v : Value} {x : Nat → Int64} (hA : own_ne a A) (B : own_B Z a A N f r k g1 g2 g3 g4 g5 g6 h) (W : Wr h h' (A 1) sl v) (V : own_AJ Z h' (A 1) 4 x) : own_B Z a A N f r k x g2 g3 g4 g5 g6 h' :=
  ⟨(own_B_E B).wr W, (own_B_cells B).other W (Or.inl (hA.1 1 (by decide))), (own_B_rowSums B).other W (Or.inl (hA.1 1 (by decide))), (own_B_rowSquares B).other W (Or.inl (hA.1 1 (by decide))), (own_B_rowRest B).other W (Or.inl (hA.1 1 (by decide))), (own_B_columnSums B).other W (Or.inl (hA.1 1 (by decide))), (own_B_columnSquares B).other W (Or.inl (hA.1 1 (by decide))), (own_B_columnRest B).other W (Or.inl (hA.1 1 (by decide))), (own_B_rows B).other W (Or.inl (hA.1 1 (by decide))), (own_B_columns B).other W (Or.inl (hA.1 1 (by decide))), own_AI_other (own_B_v0 B) W (hA.2 0 1 (by decide) (by decide) (by decide)), V, own_AJ_other (own_B_v2 B) W (hA.2 2 1 (by decide) (by decide) (by decide)), own_AJ_other (own_B_v3 B) W (hA.2 3 1 (by decide) (by decide) (by decide)), own_AJ_other (own_B_v4 B) W (hA.2 4 1 (by decide) (by decide) (by decide)), own_AJ_other (own_B_v5 B) W (hA.2 5 1 (by decide) (by decide) (by decide)), own_AJ_other (own_B_v6 B) W (hA.2 6 1 (by decide) (by decide) (by decide))⟩
theorem own_B_st2 {Z : State} {a : Addr} {A : Nat → Addr} {N : Nat} {f : Nat → Int32} {r k : Int32} {g1 g2 g3 g4 g5 g6 : Nat → Int64} {h : Heap} {h' : Heap} {sl : Nat} {v : Value} {x : Nat → Int64} (hA : own_ne a A) (B : own_B Z a A N f r k g1 g2 g3 g4 g5 g6 h) (W : Wr h h' (A 2) sl v) (V : own_AJ Z h' (A 2) 4 x) : own_B Z a A N f r k g1 x g3 g4 g5 g6 h' :=
  ⟨(own_B_E B).wr W, (own_B_cells B).other W (Or.inl (hA.1 2 (by decide))), (own_B_rowSums B).other W (Or.inl (hA.1 2 (by decide))), (own_B_rowSquares B).other W (Or.inl (hA.1 2 (by decide))), (own_B_rowRest B).other W (Or.inl (hA.1 2 (by decide))), (own_B_columnSums B).other W (Or.inl (hA.1 2 (by decide))), (own_B_columnSquares B).other W (Or.inl (hA.1 2 (by decide))), (own_B_columnRest B).other W (Or.inl (hA.1 2 (by decide))), (own_B_rows B).other W (Or.inl (hA.1 2 (by decide))), (own_B_columns B).other W (Or.inl (hA.1 2 (by decide))), own_AI_other (own_B_v0 B) W (hA.2 0 2 (by decide) (by decide) (by decide)), own_AJ_other (own_B_v1 B) W (hA.2 1 2 (by decide) (by decide) (by decide)), V, own_AJ_other (own_B_v3 B) W (hA.2 3 2 (by decide) (by decide) (by decide)), own_AJ_other (own_B_v4 B) W (hA.2 4 2 (by decide) (by decide) (by decide)), own_AJ_other (own_B_v5 B) W (hA.2 5 2 (by decide) (by decide) (by decide)), own_AJ_other (own_B_v6 B) W (hA.2 6 2 (by decide) (by decide) (by decide))⟩
theorem own_B_st3 {Z : State} {a : Addr} {A : Nat → Addr} {N : Nat} {f : Nat → Int32} {r k : Int32} {g1 g2 g3 g4 g5 g6 : Nat → Int64} {h : Heap} {h' : Heap} {sl : Nat} {v : Value} {x : Nat → Int64} (hA : own_ne a A) (B : own_B Z a A N f r k g1 g2 g3 g4 g5 g6 h) (W : Wr h h' (A 3) sl v) (V : own_AJ Z h' (A 3) 4 x) : own_B Z a A N f r k g1 g2 x g4 g5 g6 h' :=
  ⟨(own_B_E B).wr W, (own_B_cells B).other W (Or.inl (hA.1 3 (by decide))), (own_B_rowSums B).other W (Or.inl (hA.1 3 (by decide))), (own_B_rowSquares B).other W (Or.inl (hA.1 3 (by decide))), (own_B_rowRest B).other W (Or.inl (hA.1 3 (by decide))), (own_B_columnSums B).other W (Or.inl (hA.1 3 (by decide))), (own_B_columnSquares B).other W (Or.inl (hA.1 3 (by decide))), (own_B_columnRest B).other W (Or.inl (hA.1 3 (by decide))), (own_B_rows B).other W (Or.inl (hA.1 3 (by decide))), (own_B_columns B).other W (Or.inl (hA.1 3 (by decide))), own_AI_other (own_B_v0 B) W (hA.2 0 3 (by decide) (by decide) (by decide)), own_AJ_other (own_B_v1 B) W (hA.2 1 3 (by decide) (by decide) (by decide)), own_AJ_other (own_B_v2 B) W (hA.2 2 3 (by decide) (by decide) (by decide)), V, own_AJ_other (own_B_v4 B) W (hA.2 4 3 (by decide) (by decide) (by decide)), own_AJ_other (own_B_v5 B) W (hA.2 5 3 (by decide) (by decide) (by decide)), own_AJ_other (own_B_v6 B) W (hA.2 6 3 (by decide) (by decide) (by decide))⟩
theorem own_B_st4 {Z : State} {a : Addr} {A : Nat → Addr} {N : Nat} {f : Nat → Int32} {r k : Int32} {g1 g2 g3 g4 g5 g6 : Nat → Int64} {h : Heap} {h' : Heap} {sl : Nat} {v : Value} {x : Nat → Int64} (hA : own_ne a A) (B : own_B Z a A N f r k g1 g2 g3 g4 g5 g6 h) (W : Wr h h' (A 4) sl v) (V : own_AJ Z h' (A 4) 4 x) : own_B Z a A N f r k g1 g2 g3 x g5 g6 h' :=
  ⟨(own_B_E B).wr W, (own_B_cells B).other W (Or.inl (hA.1 4 (by decide))), (own_B_rowSums B).other W (Or.inl (hA.1 4 (by decide))), (own_B_rowSquares B).other W (Or.inl (hA.1 4 (by decide))), (own_B_rowRest B).other W (Or.inl (hA.1 4 (by decide))), (own_B_columnSums B).other W (Or.inl (hA.1 4 (by decide))), (own_B_columnSquares B).other W (Or.inl (hA.1 4 (by decide))), (own_B_columnRest B).other W (Or.inl (hA.1 4 (by decide))), (own_B_rows B).other W (Or.inl (hA.1 4 (by decide))), (own_B_columns B).other W (Or.inl (hA.1 4 (by decide))), own_AI_other (own_B_v0 B) W (hA.2 0 4 (by decide) (by decide) (by decide)), own_AJ_other (own_B_v1 B) W (hA.2 1 4 (by decide) (by decide) (by decide)), own_AJ_other (own_B_v2 B) W (hA.2 2 4 (by decide) (by decide) (by decide)), own_AJ_other (own_B_v3 B) W (hA.2 3 4 (by decide) (by decide) (by decide)), V, own_AJ_other (own_B_v5 B) W (hA.2 5 4 (by decide) (by decide) (by decide)), own_AJ_other (own_B_v6 B) W (hA.2 6 4 (by decide) (by decide) (by decide))⟩
theorem own_B_st5 {Z : State} {a : Addr} {A : Nat → Addr} {N : Nat} {f : Nat → Int32} {r k : Int32} {g1 g2 g3 g4 g5 g6 : Nat → Int64} {h : Heap} {h' : Heap} {sl : Nat} {v : Value} {x : Nat → Int64} (hA : own_ne a A) (B : own_B Z a A N f r k g1 g2 g3 g4 g5 g6 h) (W : Wr h h' (A 5) sl v) (V : own_AJ Z h' (A 5) 4 x) : own_B Z a A N f r k g1 g2 g3 g4 x g6 h' :=
  ⟨(own_B_E B).wr W, (own_B_cells B).other W (Or.inl (hA.1 5 (by decide))), (own_B_rowSums B).other W (Or.inl (hA.1 5 (by decide))), (own_B_rowSquares B).other W (Or.inl (hA.1 5 (by decide))), (own_B_rowRest B).other W (Or.inl (hA.1 5 (by decide))), (own_B_columnSums B).other W (Or.inl (hA.1 5 (by decide))), (own_B_columnSquares B).other W (Or.inl (hA.1 5 (by decide))), (own_B_columnRest B).other W (Or.inl (hA.1 5 (by decide))), (own_B_rows B).other W (Or.inl (hA.1 5 (by decide))), (own_B_columns B).other W (Or.inl (hA.1 5 (by decide))), own_AI_other (own_B_v0 B) W (hA.2 0 5 (by decide) (by decide) (by decide)), own_AJ_other (own_B_v1 B) W (hA.2 1 5 (by decide) (by decide) (by decide)), own_AJ_other (own_B_v2 B) W (hA.2 2 5 (by decide) (by decide) (by decide)), own_AJ_other (own_B_v3 B) W (hA.2 3 5 (by decide) (by decide) (by decide)), own_AJ_other (own_B_v4 B) W (hA.2 4 5 (by decide) (by decide) (by decide)), V, own_AJ_other (own_B_v6 B) W (hA.2 6 5 (by decide) (by decide) (by decide))⟩
theorem own_B_st6 {Z : State} {a : Addr} {A : Nat → Addr} {N : Nat} {f : Nat → Int32} {r k : Int32} {g1 g2 g3 g4 g5 g6 : Nat → Int64} {h : Heap} {h' : Heap} {sl : Nat} {v : Value} {x : Nat → Int64} (hA : own_ne a A) (B : own_B Z a A N f r k g1 g2 g3 g4 g5 g6 h) (W : Wr h h' (A 6) sl v) (V : own_AJ Z h' (A 6) 4 x) : own_B Z a A N f r k g1 g2 g3 g4 g5 x h' :=
  ⟨(own_B_E B).wr W, (own_B_cells B).other W (Or.inl (hA.1 6 (by decide))), (own_B_rowSums B).other W (Or.inl (hA.1 6 (by decide))), (own_B_rowSquares B).other W (Or.inl (hA.1 6 (by decide))), (own_B_rowRest B).other W (Or.inl (hA.1 6 (by decide))), (own_B_columnSums B).other W (Or.inl (hA.1 6 (by decide))), (own_B_columnSquares B).other W (Or.inl (hA.1 6 (by decide))), (own_B_columnRest B).other W (Or.inl (hA.1 6 (by decide))), (own_B_rows B).other W (Or.inl (hA.1 6 (by decide))), (own_B_columns B).other W (Or.inl (hA.1 6 (by decide))), own_AI_other (own_B_v0 B) W (hA.2 0 6 (by decide) (by decide) (by decide)), own_AJ_other (own_B_v1 B) W (hA.2 1 6 (by decide) (by decide) (by decide)), own_AJ_other (own_B_v2 B) W (hA.2 2 6 (by decide) (by decide) (by decide)), own_AJ_other (own_B_v3 B) W (hA.2 3 6 (by decide) (by decide) (by decide)), own_AJ_other (own_B_v4 B) W (hA.2 4 6 (by decide) (by decide) (by decide)), own_AJ_other (own_B_v5 B) W (hA.2 5 6 (by decide) (by decide) (by decide)), V⟩
theorem own_B_keep {Z : State} {a : Addr} {A : Nat → Addr} {N : Nat} {f : Nat → Int32} {r k : Int32} {g1 g2 g3 g4 g5 g6 : Nat → Int64} {h : Heap} {h' : Heap} {ws : List Addr} (K : Keep h h' ws) (B : own_B Z a A N f r k g1 g2 g3 g4 g5 g6 h) (q : a ∉ ws) (q0 : A 0 ∉ ws) (V1 : own_AJ Z h' (A 1) 4 g1) (V2 : own_AJ Z h' (A 2) 4 g2) (V3 : own_AJ Z h' (A 3) 4 g3) (V4 : own_AJ Z h' (A 4) 4 g4) (V5 : own_AJ Z h' (A 5) 4 g5) (V6 : own_AJ Z h' (A 6) 4 g6) : own_B Z a A N f r k g1 g2 g3 g4 g5 g6 h' :=
  ⟨(own_B_E B).keep K, (own_B_cells B).keep K q, (own_B_rowSums B).keep K q, (own_B_rowSquares B).keep K q, (own_B_rowRest B).keep K q, (own_B_columnSums B).keep K q, (own_B_columnSquares B).keep K q, (own_B_columnRest B).keep K q, (own_B_rows B).keep K q, (own_B_columns B).keep K q, own_AI_keep (own_B_v0 B) K q0, V1, V2, V3, V4, V5, V6⟩
theorem own_B_sz {Z : State} {a : Addr} {A : Nat → Addr} {N : Nat} {f : Nat → Int32} {r k : Int32} {g1 g2 g3 g4 g5 g6 : Nat → Int64} {h : Heap} {n0 : Nat} (B : own_B Z a A N f r k g1 g2 g3 g4 g5 g6 h) (q : n0 ≤ a) : n0 ≤ h.size := Nat.le_trans q (Nat.le_of_lt (own_B_E B).lt)
def own_z : Nat → Int64 := fun _ => (0 : Int64)
def own_cel (f : Nat → Int32) (C i j : Nat) : Int64 := (f (i * C + j)).toInt64
def own_cel2 (f : Nat → Int32) (C i j : Nat) : Int64 := own_cel f C i j * own_cel f C i j
theorem own_sum_succ (n : Nat) (g : Nat → Int64) : own_sum (n + 1) g = own_sum n g + g n := rfl
def own_rs (f : Nat → Int32) (C i : Nat) : Int64 := own_sum C (own_cel f C i)
def own_rq (f : Nat → Int32) (C i : Nat) : Int64 := own_sum C (own_cel2 f C i)
def own_rs2 (f : Nat → Int32) (C i : Nat) : Int64 := own_rs f C i * own_rs f C i
def own_pre (g : Nat → Int64) (i : Nat) : Nat → Int64 := fun x => if x < i then g x else (0 : Int64)
theorem own_pre_up (g : Nat → Int64) (i : Nat) : own_up (own_pre g i) i (g i) = own_pre g (i + 1) := by
  funext x
  unfold own_up own_pre
  by_cases h : x = i
  · subst h; rw [if_pos rfl, if_pos (Nat.lt_succ_self x)]
  · rw [if_neg h]
    by_cases h2 : x < i
    · rw [if_pos h2, if_pos (by omega)]
    · rw [if_neg h2, if_neg (by omega)]
theorem own_pre_0 (g : Nat → Int64) : own_pre g 0 = own_z := by
  funext x
  unfold own_pre own_z
  rw [if_neg (Nat.not_lt_zero x)]
def own_cs (g : Nat → Nat → Int64) (C i j : Nat) : Nat → Int64 := fun x => if x < C then own_sum (if x < j then i + 1 else i) (fun y => g y x) else (0 : Int64)
theorem own_cs_0 (g : Nat → Nat → Int64) (C : Nat) : own_cs g C 0 0 = own_z := by
  funext x
  unfold own_cs own_z
  rw [if_neg (Nat.not_lt_zero x)]
  by_cases h : x < C
  · rw [if_pos h]; rfl
  · rw [if_neg h]
theorem own_cs_up (g : Nat → Nat → Int64) {C j : Nat} (i : Nat) (hj : j < C) : own_up (own_cs g C i j) j (own_cs g C i j j + g i j) = own_cs g C i (j + 1) := by
  funext x
  unfold own_up
  by_cases h : x = j
  · subst h
    rw [if_pos rfl]
    unfold own_cs
    rw [if_pos hj, if_pos hj, if_neg (Nat.lt_irrefl x), if_pos (Nat.lt_succ_self x)]
    rfl
  · rw [if_neg h]
    unfold own_cs
    by_cases h2 : x < C
    · rw [if_pos h2, if_pos h2]
      by_cases h3 : x < j
      · rw [if_pos h3, if_pos (by omega)]
      · rw [if_neg h3, if_neg (by omega)]
    · rw [if_neg h2, if_neg h2]
theorem own_cs_next (g : Nat → Nat → Int64) (C i : Nat) : own_cs g C i C = own_cs g C (i + 1) 0 := by
  funext x
  unfold own_cs
  by_cases h2 : x < C
  · rw [if_pos h2, if_pos h2, if_pos h2, if_neg (Nat.not_lt_zero x)]
  · rw [if_neg h2, if_neg h2]
def own_sqf (g : Nat → Int64) (x : Nat) : Int64 := g x * g x
def own_dot (g h : Nat → Int64) (x : Nat) : Int64 := g x * h x
def own_G1 (f : Nat → Int32) (R C : Nat) : Nat → Int64 := own_pre (own_rs f C) R
def own_G2 (f : Nat → Int32) (R C : Nat) : Nat → Int64 := own_pre (own_rq f C) R
def own_G4 (f : Nat → Int32) (R C : Nat) : Nat → Int64 := own_cs (own_cel f C) C R 0
def own_G5 (f : Nat → Int32) (R C : Nat) : Nat → Int64 := own_cs (own_cel2 f C) C R 0
def own_sq (f : Nat → Int32) (R C : Nat) : Int64 := own_sum R (own_rq f C)
def own_rss (f : Nat → Int32) (R C : Nat) : Int64 := own_sum R (own_rs2 f C)
def own_css (f : Nat → Int32) (R C : Nat) : Int64 := own_sum C (own_sqf (own_G4 f R C))
def own_rr (f : Nat → Int32) (R C i : Nat) : Int64 := (own_css f R C - ((2 : Int64) * own_sum C (own_dot (own_G4 f R C) (own_cel f C i)))) + own_G2 f R C i
def own_col (f : Nat → Int32) (C j i : Nat) : Int64 := own_cel f C i j
def own_cr (f : Nat → Int32) (R C j : Nat) : Int64 := (own_rss f R C - ((2 : Int64) * own_sum R (own_dot (own_G1 f R C) (own_col f C j)))) + own_G5 f R C j
def own_G3 (f : Nat → Int32) (R C : Nat) : Nat → Int64 := own_pre (own_rr f R C) R
def own_G6 (f : Nat → Int32) (R C : Nat) : Nat → Int64 := own_pre (own_cr f R C) C
def own_pairs (x : Int64) : Int64 := (x * (x - (1 : Int64))) / (2 : Int64)
def own_rest (f : Nat → Int32) (R C : Nat) (q : Int64) (i j : Nat) : Int64 := ((q - own_G1 f R C i) - own_G4 f R C j) + own_cel f C i j
def own_sr (f : Nat → Int32) (R C i j : Nat) : Int64 := own_G6 f R C j - ((own_G1 f R C i - own_cel f C i j) * (own_G1 f R C i - own_cel f C i j))
def own_sc (f : Nat → Int32) (R C i j : Nat) : Int64 := own_G3 f R C i - ((own_G4 f R C j - own_cel f C i j) * (own_G4 f R C j - own_cel f C i j))
def own_sm (f : Nat → Int32) (R C i j : Nat) : Int64 := ((own_sq f R C - own_G2 f R C i) - own_G5 f R C j) + (own_cel f C i j * own_cel f C i j)
def own_pv (f : Nat → Int32) (R C : Nat) (q : Int64) (i j : Nat) : Int64 := ((((own_rest f R C q i j * own_rest f R C q i j) - own_sr f R C i j) - own_sc f R C i j) + own_sm f R C i j) / (2 : Int64)
def own_term (f : Nat → Int32) (R C : Nat) (q : Int64) (i j : Nat) : Int64 := if (lcmpW (own_cel f C i j) (2 : Int64)) < (0 : Int32) then (0 : Int64) else own_pairs (own_cel f C i j) * own_pv f R C q i j
def own_line (f : Nat → Int32) (R C : Nat) (q : Int64) (i : Nat) : Int64 := own_sum C (own_term f R C q i)
def own_gen (f : Nat → Int32) (R C : Nat) (q : Int64) : Int64 := own_sum R (own_line f R C q)
theorem own_idx {i j R C N : Nat} {k : Int32} (hk : k.toInt = (C : Int)) (hC : C ≤ 4) (hi : i < R) (hR : R ≤ 4) (hj : j < C) : ((own_i i * k) + own_i j).toInt = ((i * C + j : Nat) : Int) := by
  have h1 : (own_i i).toInt = (i : Int) := own_i_toInt (by omega)
  have h2 : (own_i j).toInt = (j : Int) := own_i_toInt (by omega)
  have hb : i * C ≤ 3 * 4 := Nat.mul_le_mul (by omega) hC
  have h3 : (own_i i * k).toInt = ((own_i i).toInt * k.toInt).bmod (2 ^ 32) := Int32.toInt_mul _ _
  rw [h1, hk, ← Int.natCast_mul, Int.bmod_eq_of_le (by omega) (by omega)] at h3
  have h4 : ((own_i i * k) + own_i j).toInt = ((own_i i * k).toInt + (own_i j).toInt).bmod (2 ^ 32) := Int32.toInt_add _ _
  rw [h3, h2, Int.bmod_eq_of_le (by omega) (by omega)] at h4
  rw [h4]
  omega
theorem own_inN {i j R C N : Nat} (hi : i < R) (hj : j < C) (hN : R * C ≤ N) : i * C + j < N := by
  have h1 : (i + 1) * C ≤ R * C := Nat.mul_le_mul_right C hi
  rw [Nat.add_mul, Nat.one_mul] at h1
  omega
theorem d8_0 : decode prog_20_method_6_code 0 = .ok (.lload_n 0, 1) := by decide +kernel
theorem d8_1 : decode prog_20_method_6_code 1 = .ok (.lload_n 0, 1) := by decide +kernel
theorem d8_2 : decode prog_20_method_6_code 2 = .ok (.lmul, 1) := by decide +kernel
theorem d8_3 : decode prog_20_method_6_code 3 = .ok (.lreturn, 1) := by decide +kernel
theorem pn_8 : plainName "quartess/quartet/Anchors" = true := by first | (simp [plainName, overriddenIn]; done) | decide +kernel
theorem ef_8 (m : MethodId) (x0 : Int64) : entryFrame m #[(.long x0)] 2 = mkF m 0 #[.val (.long x0), .second] [] := by first | (simp [entryFrame, mkF, argsToLocals, Value.category]; done) | rfl
def Q8 (Z : State) (q1 : Int64) (h0 : Heap) (n0 : Nat) (v : Option Value) (h : Heap) (L : List Loc) : Prop := v = some (.long (q1 * q1)) ∧ Fr n0 L ∧ h = h0
set_option maxRecDepth 65536 in
set_option maxHeartbeats 40000000 in
theorem rm8 (l : Launch) (Z : State) (a0 : Array Value) (hw : ∀ d ∈ tables_1, d.before a0 Z = true) (ws : List Jvm.Cond) (q1 : Int64) (h0 : Heap) (n0 : Nat) (Z0 : n0 ≤ h0.size) :
    MetFree l (⟨"quartess/quartet/Anchors", "square", "(J)J"⟩ : MethodName) (head1 (Jvm.Cond.code (⟨"quartess/quartet/Anchors", "square", "(J)J"⟩ : MethodName) prog_20_method_6_code 2 (some .long) :: ws) ({ frames := 0, cells := 0, slots := 0, locals := 0 } : Room)) (fun a U => a = #[(.long q1)] ∧ Z.Warmed39 U.vm ∧ U.heap = h0) (fun _ _ _ _ _ => True) (fun _ U o U' => ∃ v L, o = .returned v ∧ Q8 Z q1 h0 n0 v U'.heap L ∧ FrameEnd U o U' L ({ frames := 0, cells := 0, slots := 0, locals := 0 } : Room).cells ({ frames := 0, cells := 0, slots := 0, locals := 0 } : Room).slots) := by
  refine MetFree.of_bodySF (plainFor_of_name pn_8) hisR ?_
  intro p e s m args below meth c s₁ Bd hml0 hP hK
  obtain ⟨rfl, hZ, hh⟩ := hP
  have hx := Bd.exec
  have hby := Bd.bytes
  have hml : c.maxLocals = 2 := hml0
  have hown : s.vm.findClass "quartess/quartet/Anchors" = some m.cls := findClass_of_methodNamed Bd.named
  have hnm := (name_of_methodNamed Bd.named Bd.method).1
  have X0 : Stand p l e ({ frames := 0, cells := 0, slots := 0, locals := 0 } : Room) s m #[(.long q1)] below meth c s₁ [] 0 0 := Stand.of_body Bd
  have e0 : s₁.heap = h0 := by rw [← hh, Bd.state]; rfl
  have N0 := Fr.nil n0
  have pre0 : ∀ t, Steps p.tables e below (s₁.setTop (mkF m 0 #[.val (.long q1), .second] [])) t → Steps p.tables e below (s₁.setTop (entryFrame m #[(.long q1)] 2)) t := fun t k => castTop (ef_8 m q1) k
  obtain ⟨fs, hr, hrun, hended, hW, hsame⟩ := X0.leave (v := some (.long (q1 * q1))) (fun h => by rw [Bd.returns] at h; cases h)
  refine ⟨_, _, pre0 _ ?_, hrun, hended, _, _, rfl, ?_, ⟨_, rfl⟩, hW, hsame.mono (by decide) (by decide)⟩
  · show Steps p.tables e below (s₁.setTop (mkF m 0 #[.val (.long q1), .second] [])) _
    refine XS.lloadN X0.here hx rfl (hb hby d8_0) rfl ?_
    show Steps p.tables e below (s₁.setTop (mkF m 1 #[.val (.long q1), .second] [(.long q1)])) _
    refine XS.lloadN X0.here hx rfl (hb hby d8_1) rfl ?_
    show Steps p.tables e below (s₁.setTop (mkF m 2 #[.val (.long q1), .second] [(.long q1), (.long q1)])) _
    refine XS.lmul X0.here hx rfl (hb hby d8_2) rfl ?_
    show Steps p.tables e below (s₁.setTop (mkF m 3 #[.val (.long q1), .second] [(.long (q1 * q1))])) _
    jvm_step X0.here [X0.here.top, hx, (hb hby d8_3), X0.method', Bd.returns, narrow]
    first | (intro acts; rw [hr _ acts rfl rfl rfl]) | rw [hr _ _ rfl rfl rfl]
    exact Steps.refl _
  · show Q8 Z q1 h0 n0 _ s₁.heap _
    rw [e0]
    exact ⟨rfl, N0, rfl⟩
theorem d9_0 : decode prog_20_method_5_code 0 = .ok (.lload_n 0, 1) := by decide +kernel
theorem d9_1 : decode prog_20_method_5_code 1 = .ok (.lload_n 0, 1) := by decide +kernel
theorem d9_2 : decode prog_20_method_5_code 2 = .ok (.lconst 1, 1) := by decide +kernel
theorem d9_3 : decode prog_20_method_5_code 3 = .ok (.lsub, 1) := by decide +kernel
theorem d9_4 : decode prog_20_method_5_code 4 = .ok (.lmul, 1) := by decide +kernel
theorem d9_5 : decode prog_20_method_5_code 5 = .ok (.ldc2_w 55, 3) := by decide +kernel
theorem d9_8 : decode prog_20_method_5_code 8 = .ok (.ldiv, 1) := by decide +kernel
theorem d9_9 : decode prog_20_method_5_code 9 = .ok (.lreturn, 1) := by decide +kernel
theorem pn_9 : plainName "quartess/quartet/Anchors" = true := by first | (simp [plainName, overriddenIn]; done) | decide +kernel
theorem ef_9 (m : MethodId) (x0 : Int64) : entryFrame m #[(.long x0)] 2 = mkF m 0 #[.val (.long x0), .second] [] := by first | (simp [entryFrame, mkF, argsToLocals, Value.category]; done) | rfl
def Q9 (Z : State) (q1 : Int64) (h0 : Heap) (n0 : Nat) (v : Option Value) (h : Heap) (L : List Loc) : Prop := v = some (.long ((q1 * (q1 - (1 : Int64))) / (2 : Int64))) ∧ Fr n0 L ∧ h = h0
set_option maxRecDepth 65536 in
set_option maxHeartbeats 40000000 in
theorem rm9 (l : Launch) (Z : State) (a0 : Array Value) (hw : ∀ d ∈ tables_1, d.before a0 Z = true) (ws : List Jvm.Cond) (q1 : Int64) (h0 : Heap) (n0 : Nat) (Z0 : n0 ≤ h0.size) :
    MetFree l (⟨"quartess/quartet/Anchors", "pairs", "(J)J"⟩ : MethodName) (head1 (Jvm.Cond.code (⟨"quartess/quartet/Anchors", "pairs", "(J)J"⟩ : MethodName) prog_20_method_5_code 2 (some .long) :: ws) ({ frames := 0, cells := 0, slots := 0, locals := 0 } : Room)) (fun a U => a = #[(.long q1)] ∧ Z.Warmed39 U.vm ∧ U.heap = h0) (fun _ _ _ _ _ => True) (fun _ U o U' => ∃ v L, o = .returned v ∧ Q9 Z q1 h0 n0 v U'.heap L ∧ FrameEnd U o U' L ({ frames := 0, cells := 0, slots := 0, locals := 0 } : Room).cells ({ frames := 0, cells := 0, slots := 0, locals := 0 } : Room).slots) := by
  refine MetFree.of_bodySF (plainFor_of_name pn_9) hisR ?_
  intro p e s m args below meth c s₁ Bd hml0 hP hK
  obtain ⟨rfl, hZ, hh⟩ := hP
  have hx := Bd.exec
  have hby := Bd.bytes
  have hml : c.maxLocals = 2 := hml0
  have hown : s.vm.findClass "quartess/quartet/Anchors" = some m.cls := findClass_of_methodNamed Bd.named
  have hnm := (name_of_methodNamed Bd.named Bd.method).1
  have X0 : Stand p l e ({ frames := 0, cells := 0, slots := 0, locals := 0 } : Room) s m #[(.long q1)] below meth c s₁ [] 0 0 := Stand.of_body Bd
  have e0 : s₁.heap = h0 := by rw [← hh, Bd.state]; rfl
  have N0 := Fr.nil n0
  have pre0 : ∀ t, Steps p.tables e below (s₁.setTop (mkF m 0 #[.val (.long q1), .second] [])) t → Steps p.tables e below (s₁.setTop (entryFrame m #[(.long q1)] 2)) t := fun t k => castTop (ef_9 m q1) k
  obtain ⟨fs, hr, hrun, hended, hW, hsame⟩ := X0.leave (v := some (.long ((q1 * (q1 - (1 : Int64))) / (2 : Int64)))) (fun h => by rw [Bd.returns] at h; cases h)
  refine ⟨_, _, pre0 _ ?_, hrun, hended, _, _, rfl, ?_, ⟨_, rfl⟩, hW, hsame.mono (by decide) (by decide)⟩
  · show Steps p.tables e below (s₁.setTop (mkF m 0 #[.val (.long q1), .second] [])) _
    refine XS.lloadN X0.here hx rfl (hb hby d9_0) rfl ?_
    show Steps p.tables e below (s₁.setTop (mkF m 1 #[.val (.long q1), .second] [(.long q1)])) _
    refine XS.lloadN X0.here hx rfl (hb hby d9_1) rfl ?_
    show Steps p.tables e below (s₁.setTop (mkF m 2 #[.val (.long q1), .second] [(.long q1), (.long q1)])) _
    refine XS.lconst X0.here hx rfl (hb hby d9_2) ?_
    show Steps p.tables e below (s₁.setTop (mkF m 3 #[.val (.long q1), .second] [(.long (1 : Int64)), (.long q1), (.long q1)])) _
    refine XS.lsub X0.here hx rfl (hb hby d9_3) rfl ?_
    show Steps p.tables e below (s₁.setTop (mkF m 4 #[.val (.long q1), .second] [(.long (q1 - (1 : Int64))), (.long q1)])) _
    refine XS.lmul X0.here hx rfl (hb hby d9_4) rfl ?_
    show Steps p.tables e below (s₁.setTop (mkF m 5 #[.val (.long q1), .second] [(.long (q1 * (q1 - (1 : Int64))))])) _
    refine X0.ldc2Long hx hown (mvT hZ (hw _ (List.mem_of_getElem? (i := 51) rfl))) (g := (mkF m 5 #[.val (.long q1), .second] [(.long (q1 * (q1 - (1 : Int64))))])) rfl (hb hby d9_5) _ ?_
    show Steps p.tables e below (s₁.setTop (mkF m 8 #[.val (.long q1), .second] [(.long (2 : Int64)), (.long (q1 * (q1 - (1 : Int64))))])) _
    refine XS.ldiv X0.here hx rfl (hb hby d9_8) rfl (by decide) ?_
    show Steps p.tables e below (s₁.setTop (mkF m 9 #[.val (.long q1), .second] [(.long ((q1 * (q1 - (1 : Int64))) / (2 : Int64)))])) _
    jvm_step X0.here [X0.here.top, hx, (hb hby d9_9), X0.method', Bd.returns, narrow]
    first | (intro acts; rw [hr _ acts rfl rfl rfl]) | rw [hr _ _ rfl rfl rfl]
    exact Steps.refl _
  · show Q9 Z q1 h0 n0 _ s₁.heap _
    rw [e0]
    exact ⟨rfl, N0, rfl⟩
theorem d4_0 : decode jdk_29_method_28_code 0 = .ok (.iload_n 0, 1) := by decide +kernel
theorem d4_1 : decode jdk_29_method_28_code 1 = .ok (.i2l, 1) := by decide +kernel
theorem d4_2 : decode jdk_29_method_28_code 2 = .ok (.iload_n 1, 1) := by decide +kernel
theorem d4_3 : decode jdk_29_method_28_code 3 = .ok (.i2l, 1) := by decide +kernel
theorem d4_4 : decode jdk_29_method_28_code 4 = .ok (.lmul, 1) := by decide +kernel
theorem d4_5 : decode jdk_29_method_28_code 5 = .ok (.lstore_n 2, 1) := by decide +kernel
theorem d4_6 : decode jdk_29_method_28_code 6 = .ok (.lload_n 2, 1) := by decide +kernel
theorem d4_7 : decode jdk_29_method_28_code 7 = .ok (.l2i, 1) := by decide +kernel
theorem d4_8 : decode jdk_29_method_28_code 8 = .ok (.i2l, 1) := by decide +kernel
theorem d4_9 : decode jdk_29_method_28_code 9 = .ok (.lload_n 2, 1) := by decide +kernel
theorem d4_10 : decode jdk_29_method_28_code 10 = .ok (.lcmp, 1) := by decide +kernel
theorem d4_11 : decode jdk_29_method_28_code 11 = .ok (.ifCond .eq 13, 3) := by decide +kernel
theorem d4_24 : decode jdk_29_method_28_code 24 = .ok (.lload_n 2, 1) := by decide +kernel
theorem d4_25 : decode jdk_29_method_28_code 25 = .ok (.l2i, 1) := by decide +kernel
theorem d4_26 : decode jdk_29_method_28_code 26 = .ok (.ireturn, 1) := by decide +kernel
theorem ef_4 (m : MethodId) (x0 : Int32) (x1 : Int32) : entryFrame m #[(.int x0), (.int x1)] 4 = mkF m 0 #[.val (.int x0), .val (.int x1), .unset, .unset] [] := by first | (simp [entryFrame, mkF, argsToLocals, Value.category]; done) | rfl
def Q4 (Z : State) (p1 : Int32) (p2 : Int32) (h0 : Heap) (n0 : Nat) (v : Option Value) (h : Heap) (L : List Loc) : Prop := v = some (.int (((p1.toInt64) * (p2.toInt64)).toInt32)) ∧ Fr n0 L ∧ h = h0
set_option maxRecDepth 65536 in
set_option maxHeartbeats 40000000 in
theorem rm4 (l : Launch) (Z : State) (a0 : Array Value) (hw : ∀ d ∈ tables_1, d.before a0 Z = true) (ws : List Jvm.Cond) (p1 : Int32) (p2 : Int32) (h0 : Heap) (n0 : Nat) (Z0 : n0 ≤ h0.size) (hc11 : (lcmpW ((((p1.toInt64) * (p2.toInt64)).toInt32).toInt64) ((p1.toInt64) * (p2.toInt64))) = (0 : Int32)) :
    MetFree l (⟨"java/lang/Math", "multiplyExact", "(II)I"⟩ : MethodName) (head1 (Jvm.Cond.code (⟨"java/lang/Math", "multiplyExact", "(II)I"⟩ : MethodName) jdk_29_method_28_code 4 (some .int) :: ws) ({ frames := 0, cells := 0, slots := 0, locals := 0 } : Room)) (fun a U => a = #[(.int p1), (.int p2)] ∧ Z.Warmed39 U.vm ∧ U.heap = h0) (fun _ _ _ _ _ => True) (fun _ U o U' => ∃ v L, o = .returned v ∧ Q4 Z p1 p2 h0 n0 v U'.heap L ∧ FrameEnd U o U' L ({ frames := 0, cells := 0, slots := 0, locals := 0 } : Room).cells ({ frames := 0, cells := 0, slots := 0, locals := 0 } : Room).slots) := by
  refine MetFree.of_bodySF (Jvm.Free.JP.mathPlain rfl (by decide +kernel)) hisR ?_
  intro p e s m args below meth c s₁ Bd hml0 hP hK
  obtain ⟨rfl, hZ, hh⟩ := hP
  have hx := Bd.exec
  have hby := Bd.bytes
  have hml : c.maxLocals = 4 := hml0
  have hown : s.vm.findClass "java/lang/Math" = some m.cls := findClass_of_methodNamed Bd.named
  have hnm := (name_of_methodNamed Bd.named Bd.method).1
  have X0 : Stand p l e ({ frames := 0, cells := 0, slots := 0, locals := 0 } : Room) s m #[(.int p1), (.int p2)] below meth c s₁ [] 0 0 := Stand.of_body Bd
  have e0 : s₁.heap = h0 := by rw [← hh, Bd.state]; rfl
  have N0 := Fr.nil n0
  have pre0 : ∀ t, Steps p.tables e below (s₁.setTop (mkF m 0 #[.val (.int p1), .val (.int p2), .unset, .unset] [])) t → Steps p.tables e below (s₁.setTop (entryFrame m #[(.int p1), (.int p2)] 4)) t := fun t k => castTop (ef_4 m p1 p2) k
  obtain ⟨fs, hr, hrun, hended, hW, hsame⟩ := X0.leave (v := some (.int (((p1.toInt64) * (p2.toInt64)).toInt32))) (fun h => by rw [Bd.returns] at h; cases h)
  refine ⟨_, _, pre0 _ ?_, hrun, hended, _, _, rfl, ?_, ⟨_, rfl⟩, hW, hsame.mono (by decide) (by decide)⟩
  · show Steps p.tables e below (s₁.setTop (mkF m 0 #[.val (.int p1), .val (.int p2), .unset, .unset] [])) _
    refine XS.iloadN X0.here hx rfl (hb hby d4_0) rfl ?_
    show Steps p.tables e below (s₁.setTop (mkF m 1 #[.val (.int p1), .val (.int p2), .unset, .unset] [(.int p1)])) _
    refine XS.i2l X0.here hx rfl (hb hby d4_1) rfl ?_
    show Steps p.tables e below (s₁.setTop (mkF m 2 #[.val (.int p1), .val (.int p2), .unset, .unset] [(.long (p1.toInt64))])) _
    refine XS.iloadN X0.here hx rfl (hb hby d4_2) rfl ?_
    show Steps p.tables e below (s₁.setTop (mkF m 3 #[.val (.int p1), .val (.int p2), .unset, .unset] [(.int p2), (.long (p1.toInt64))])) _
    refine XS.i2l X0.here hx rfl (hb hby d4_3) rfl ?_
    show Steps p.tables e below (s₁.setTop (mkF m 4 #[.val (.int p1), .val (.int p2), .unset, .unset] [(.long (p2.toInt64)), (.long (p1.toInt64))])) _
    refine XS.lmul X0.here hx rfl (hb hby d4_4) rfl ?_
    show Steps p.tables e below (s₁.setTop (mkF m 5 #[.val (.int p1), .val (.int p2), .unset, .unset] [(.long ((p1.toInt64) * (p2.toInt64)))])) _
    refine XS.lstoreN X0.here hx rfl (hb hby d4_5) rfl (l' := #[.val (.int p1), .val (.int p2), .val (.long ((p1.toInt64) * (p2.toInt64))), .second]) rfl ?_
    show Steps p.tables e below (s₁.setTop (mkF m 6 #[.val (.int p1), .val (.int p2), .val (.long ((p1.toInt64) * (p2.toInt64))), .second] [])) _
    refine XS.lloadN X0.here hx rfl (hb hby d4_6) rfl ?_
    show Steps p.tables e below (s₁.setTop (mkF m 7 #[.val (.int p1), .val (.int p2), .val (.long ((p1.toInt64) * (p2.toInt64))), .second] [(.long ((p1.toInt64) * (p2.toInt64)))])) _
    refine XS.l2i X0.here hx rfl (hb hby d4_7) rfl ?_
    show Steps p.tables e below (s₁.setTop (mkF m 8 #[.val (.int p1), .val (.int p2), .val (.long ((p1.toInt64) * (p2.toInt64))), .second] [(.int (((p1.toInt64) * (p2.toInt64)).toInt32))])) _
    refine XS.i2l X0.here hx rfl (hb hby d4_8) rfl ?_
    show Steps p.tables e below (s₁.setTop (mkF m 9 #[.val (.int p1), .val (.int p2), .val (.long ((p1.toInt64) * (p2.toInt64))), .second] [(.long ((((p1.toInt64) * (p2.toInt64)).toInt32).toInt64))])) _
    refine XS.lloadN X0.here hx rfl (hb hby d4_9) rfl ?_
    show Steps p.tables e below (s₁.setTop (mkF m 10 #[.val (.int p1), .val (.int p2), .val (.long ((p1.toInt64) * (p2.toInt64))), .second] [(.long ((p1.toInt64) * (p2.toInt64))), (.long ((((p1.toInt64) * (p2.toInt64)).toInt32).toInt64))])) _
    refine XS.lcmp X0.here hx rfl (hb hby d4_10) rfl ?_
    show Steps p.tables e below (s₁.setTop (mkF m 11 #[.val (.int p1), .val (.int p2), .val (.long ((p1.toInt64) * (p2.toInt64))), .second] [(.int (lcmpW ((((p1.toInt64) * (p2.toInt64)).toInt32).toInt64) ((p1.toInt64) * (p2.toInt64))))])) _
    refine XS.ifYes X0.here hx rfl (pc0 := 11) (pc' := 24) rfl (hb hby d4_11) rfl ((if0 _ _).trans (teq hc11).1) (by decide) (by decide) ?_
    show Steps p.tables e below (s₁.setTop (mkF m 24 #[.val (.int p1), .val (.int p2), .val (.long ((p1.toInt64) * (p2.toInt64))), .second] [])) _
    refine XS.lloadN X0.here hx rfl (hb hby d4_24) rfl ?_
    show Steps p.tables e below (s₁.setTop (mkF m 25 #[.val (.int p1), .val (.int p2), .val (.long ((p1.toInt64) * (p2.toInt64))), .second] [(.long ((p1.toInt64) * (p2.toInt64)))])) _
    refine XS.l2i X0.here hx rfl (hb hby d4_25) rfl ?_
    show Steps p.tables e below (s₁.setTop (mkF m 26 #[.val (.int p1), .val (.int p2), .val (.long ((p1.toInt64) * (p2.toInt64))), .second] [(.int (((p1.toInt64) * (p2.toInt64)).toInt32))])) _
    exact retI X0 hx Bd.returns (hb hby d4_26) hr      -- retI stands in the head ('lawwalk <made dir>' prints it)
  · show Q4 Z p1 p2 h0 n0 _ s₁.heap _
    rw [e0]
    exact ⟨rfl, N0, rfl⟩
theorem d7_0 : decode jdk_65_method_30_code 0 = .ok (.iload_n 1, 1) := by decide +kernel
theorem d7_1 : decode jdk_65_method_30_code 1 = .ok (.iload_n 2, 1) := by decide +kernel
theorem d7_2 : decode jdk_65_method_30_code 2 = .ok (.if_icmp .le 44, 3) := by decide +kernel
theorem d7_46 : decode jdk_65_method_30_code 46 = .ok (.iload_n 1, 1) := by decide +kernel
theorem d7_47 : decode jdk_65_method_30_code 47 = .ok (.ifCond .ge 12, 3) := by decide +kernel
theorem d7_59 : decode jdk_65_method_30_code 59 = .ok (.iload_n 2, 1) := by decide +kernel
theorem d7_60 : decode jdk_65_method_30_code 60 = .ok (.iload_n 0, 1) := by decide +kernel
theorem d7_61 : decode jdk_65_method_30_code 61 = .ok (.if_icmp .le 12, 3) := by decide +kernel
theorem d7_73 : decode jdk_65_method_30_code 73 = .ok (.return_, 1) := by decide +kernel
theorem pn_7 : plainName "java/util/Arrays" = true := by first | (simp [plainName, overriddenIn]; done) | decide +kernel
theorem ef_7 (m : MethodId) (x0 : Int32) (x1 : Int32) (x2 : Int32) : entryFrame m #[(.int x0), (.int x1), (.int x2)] 3 = mkF m 0 #[.val (.int x0), .val (.int x1), .val (.int x2)] [] := by first | (simp [entryFrame, mkF, argsToLocals, Value.category]; done) | rfl
def Q7 (Z : State) (p1 : Int32) (p2 : Int32) (p3 : Int32) (h0 : Heap) (n0 : Nat) (v : Option Value) (h : Heap) (L : List Loc) : Prop := v = none ∧ Fr n0 L ∧ h = h0
set_option maxRecDepth 65536 in
set_option maxHeartbeats 40000000 in
theorem rm7 (l : Launch) (Z : State) (a0 : Array Value) (hw : ∀ d ∈ tables_1, d.before a0 Z = true) (ws : List Jvm.Cond) (p1 : Int32) (p2 : Int32) (p3 : Int32) (h0 : Heap) (n0 : Nat) (Z0 : n0 ≤ h0.size) (hc2 : ¬ (p3 < p2)) (hc47 : ¬ (p2 < (0 : Int32))) (hc61 : ¬ (p1 < p3)) :
    MetFree l (⟨"java/util/Arrays", "rangeCheck", "(III)V"⟩ : MethodName) (head1 (Jvm.Cond.code (⟨"java/util/Arrays", "rangeCheck", "(III)V"⟩ : MethodName) jdk_65_method_30_code 3 none :: ws) ({ frames := 0, cells := 0, slots := 0, locals := 0 } : Room)) (fun a U => a = #[(.int p1), (.int p2), (.int p3)] ∧ Z.Warmed39 U.vm ∧ U.heap = h0) (fun _ _ _ _ _ => True) (fun _ U o U' => ∃ v L, o = .returned v ∧ Q7 Z p1 p2 p3 h0 n0 v U'.heap L ∧ FrameEnd U o U' L ({ frames := 0, cells := 0, slots := 0, locals := 0 } : Room).cells ({ frames := 0, cells := 0, slots := 0, locals := 0 } : Room).slots) := by
  refine MetFree.of_bodySF (plainFor_of_name pn_7) hisR ?_
  intro p e s m args below meth c s₁ Bd hml0 hP hK
  obtain ⟨rfl, hZ, hh⟩ := hP
  have hx := Bd.exec
  have hby := Bd.bytes
  have hml : c.maxLocals = 3 := hml0
  have hown : s.vm.findClass "java/util/Arrays" = some m.cls := findClass_of_methodNamed Bd.named
  have hnm := (name_of_methodNamed Bd.named Bd.method).1
  have X0 : Stand p l e ({ frames := 0, cells := 0, slots := 0, locals := 0 } : Room) s m #[(.int p1), (.int p2), (.int p3)] below meth c s₁ [] 0 0 := Stand.of_body Bd
  have e0 : s₁.heap = h0 := by rw [← hh, Bd.state]; rfl
  have N0 := Fr.nil n0
  have pre0 : ∀ t, Steps p.tables e below (s₁.setTop (mkF m 0 #[.val (.int p1), .val (.int p2), .val (.int p3)] [])) t → Steps p.tables e below (s₁.setTop (entryFrame m #[(.int p1), (.int p2), (.int p3)] 3)) t := fun t k => castTop (ef_7 m p1 p2 p3) k
  obtain ⟨fs, hr, hrun, hended, hW, hsame⟩ := X0.leave (v := none) (fun _ => rfl)
  refine ⟨_, _, pre0 _ ?_, hrun, hended, _, _, rfl, ?_, ⟨_, rfl⟩, hW, hsame.mono (by decide) (by decide)⟩
  · show Steps p.tables e below (s₁.setTop (mkF m 0 #[.val (.int p1), .val (.int p2), .val (.int p3)] [])) _
    refine XS.iloadN X0.here hx rfl (hb hby d7_0) rfl ?_
    show Steps p.tables e below (s₁.setTop (mkF m 1 #[.val (.int p1), .val (.int p2), .val (.int p3)] [(.int p2)])) _
    refine XS.iloadN X0.here hx rfl (hb hby d7_1) rfl ?_
    show Steps p.tables e below (s₁.setTop (mkF m 2 #[.val (.int p1), .val (.int p2), .val (.int p3)] [(.int p3), (.int p2)])) _
    refine XS.icmpYes X0.here hx rfl (pc0 := 2) (pc' := 46) rfl (hb hby d7_2) rfl (flt hc2).2.2.2 (by decide) (by decide) ?_
    show Steps p.tables e below (s₁.setTop (mkF m 46 #[.val (.int p1), .val (.int p2), .val (.int p3)] [])) _
    refine XS.iloadN X0.here hx rfl (hb hby d7_46) rfl ?_
    show Steps p.tables e below (s₁.setTop (mkF m 47 #[.val (.int p1), .val (.int p2), .val (.int p3)] [(.int p2)])) _
    refine XS.ifYes X0.here hx rfl (pc0 := 47) (pc' := 59) rfl (hb hby d7_47) rfl ((if0 _ _).trans (flt hc47).2.1) (by decide) (by decide) ?_
    show Steps p.tables e below (s₁.setTop (mkF m 59 #[.val (.int p1), .val (.int p2), .val (.int p3)] [])) _
    refine XS.iloadN X0.here hx rfl (hb hby d7_59) rfl ?_
    show Steps p.tables e below (s₁.setTop (mkF m 60 #[.val (.int p1), .val (.int p2), .val (.int p3)] [(.int p3)])) _
    refine XS.iloadN X0.here hx rfl (hb hby d7_60) rfl ?_
    show Steps p.tables e below (s₁.setTop (mkF m 61 #[.val (.int p1), .val (.int p2), .val (.int p3)] [(.int p1), (.int p3)])) _
    refine XS.icmpYes X0.here hx rfl (pc0 := 61) (pc' := 73) rfl (hb hby d7_61) rfl (flt hc61).2.2.2 (by decide) (by decide) ?_
    show Steps p.tables e below (s₁.setTop (mkF m 73 #[.val (.int p1), .val (.int p2), .val (.int p3)] [])) _
    exact X0.returnOut hx Bd.returns (hb hby d7_73) hr
  · show Q7 Z p1 p2 p3 h0 n0 _ s₁.heap _
    rw [e0]
    exact ⟨rfl, N0, rfl⟩
theorem d6_0 : decode jdk_65_method_102_code 0 = .ok (.aload_n 0, 1) := by decide +kernel
theorem d6_1 : decode jdk_65_method_102_code 1 = .ok (.arraylength, 1) := by decide +kernel
theorem d6_2 : decode jdk_65_method_102_code 2 = .ok (.iload_n 1, 1) := by decide +kernel
theorem d6_3 : decode jdk_65_method_102_code 3 = .ok (.iload_n 2, 1) := by decide +kernel
theorem d6_4 : decode jdk_65_method_102_code 4 = .ok (.invokestatic 13, 3) := by decide +kernel
theorem d6_7 : decode jdk_65_method_102_code 7 = .ok (.iload_n 1, 1) := by decide +kernel
theorem d6_8 : decode jdk_65_method_102_code 8 = .ok (.istore 5, 2) := by decide +kernel
theorem d6_10 : decode jdk_65_method_102_code 10 = .ok (.iload 5, 2) := by decide +kernel
theorem d6_12 : decode jdk_65_method_102_code 12 = .ok (.iload_n 2, 1) := by decide +kernel
theorem d6_13 : decode jdk_65_method_102_code 13 = .ok (.if_icmp .ge 14, 3) := by decide +kernel
theorem d6_16 : decode jdk_65_method_102_code 16 = .ok (.aload_n 0, 1) := by decide +kernel
theorem d6_17 : decode jdk_65_method_102_code 17 = .ok (.iload 5, 2) := by decide +kernel
theorem d6_19 : decode jdk_65_method_102_code 19 = .ok (.lload_n 3, 1) := by decide +kernel
theorem d6_20 : decode jdk_65_method_102_code 20 = .ok (.lastore, 1) := by decide +kernel
theorem d6_21 : decode jdk_65_method_102_code 21 = .ok (.iinc 5 1, 3) := by decide +kernel
theorem d6_24 : decode jdk_65_method_102_code 24 = .ok (.goto (-14), 3) := by decide +kernel
theorem d6_27 : decode jdk_65_method_102_code 27 = .ok (.return_, 1) := by decide +kernel
def own_RF : Room := ({ frames := 1, cells := 0, slots := 0, locals := 14 } : Room)
def own_Cf (p : Program) (s : State) (m : MethodId) (c : Code) (Z : State) (a0 : Array Value) (n0 : Nat) (a : Addr) (k : Int32) (C : Nat) : Prop :=
  p.tables.exec = Jvm.exec ∧ Z.Warmed39 s.vm ∧ (∀ d ∈ tables_1, d.before a0 Z = true) ∧ c.code = jdk_65_method_102_code ∧ c.maxLocals = 6 ∧ s.vm.findClass "java/util/Arrays" = some m.cls ∧ n0 ≤ a ∧ k.toInt = (C : Int) ∧ C ≤ 4
def own_PF (Z : State) (h0 : Heap) (a : Addr) (h : Heap) : Prop := own_AJ Z h a 4 own_z ∧ Keep h0 h [a]
theorem own_z_up (i : Nat) : own_up own_z i (0 : Int64) = own_z := own_up_same rfl
set_option maxRecDepth 65536 in
set_option maxHeartbeats 40000000 in
theorem tF1 {p : Program} {l : Launch} {e : Env} {s : State} {m : MethodId} {args : Array Value} {below : List Frame} {meth : Method} {c : Code} {Z : State} {a0 : Array Value} {n0 : Nat} {a : Addr} {k : Int32} {C : Nat} {h0 : Heap} (cx : own_Cf p s m c Z a0 n0 a k C) {i : Nat} (hi : i < C) {T0 : State} {ls0 : Array Slot} (S0 : own_St p l e own_RF s m args below meth c 6 n0 T0 ls0 [(0, (.ref a)), (1, (.int (0 : Int32))), (2, (.int k)), (3, (.long (0 : Int64))), (5, (.int (own_i i)))] (own_PF Z h0 a)) :
    own_To p l e own_RF s m args below meth c 6 n0 T0 (mkF m 10 ls0 []) 10 [(0, (.ref a)), (1, (.int (0 : Int32))), (2, (.int k)), (3, (.long (0 : Int64))), (5, (.int (own_i (i + 1))))] (own_PF Z h0 a) := by
  obtain ⟨hx, hZ, hw, hby, hml, hown, hn0, hC, lC⟩ := cx
  obtain ⟨lc0, X0, N0, Lv0, B0⟩ := S0
  obtain ⟨V0, K0⟩ := B0
  obtain ⟨T11, h11, X11, e11, W11, V11, st11⟩ := own_stJ X0 hx hZ rfl (V0) (own_i_toInt (by omega)) (by omega) (g := (mkF m 20 ls0 [(.long (0 : Int64)), (.int (own_i i)), (.ref a)])) rfl rfl (hb hby d6_20)
  have N11 := Fr.snoc X11 N0 (hn0)
  have Vn : own_AJ Z h11 a 4 own_z := by rw [← own_z_up i]; exact V11
  have Kn : Keep h0 h11 [a] := K0.wr W11 (Or.inl (List.mem_of_getElem? (i := 0) rfl))
  obtain ⟨ls12, sl12, Lw12⟩ := own_Lv_st1 Lv0 (k := 5) (v := (.int ((own_i i) + (1 : Int32)))) (by decide) rfl
  have Lv12 : own_Lv 6 ls12 [(5, (.int (own_i (i + 1)))), (0, (.ref a)), (1, (.int (0 : Int32))), (2, (.int k)), (3, (.long (0 : Int64)))] := by rw [own_i_succ i]; exact Lw12
  have Lv13 : own_Lv 6 ls12 [(0, (.ref a)), (1, (.int (0 : Int32))), (2, (.int k)), (3, (.long (0 : Int64))), (5, (.int (own_i (i + 1))))] := own_Lv_pick Lv12 [1, 2, 3, 4, 0] rfl
  refine ⟨T11, ls12, ⟨_, X11, N11, Lv13, by rw [e11]; exact ⟨Vn, Kn⟩⟩, fun target kt => ?_⟩
  show Steps p.tables e below (T0.setTop (mkF m 10 ls0 [])) _
  refine XS.iload X0.here hx rfl (hb hby d6_10) (own_Lv_get Lv0 4 rfl) ?_
  show Steps p.tables e below (T0.setTop (mkF m 12 ls0 [(.int (own_i i))])) _
  refine XS.iloadN X0.here hx rfl (hb hby d6_12) (own_Lv_get Lv0 2 rfl) ?_
  show Steps p.tables e below (T0.setTop (mkF m 13 ls0 [(.int k), (.int (own_i i))])) _
  refine XS.icmpNo X0.here hx rfl (hb hby d6_13) rfl (tlt ((own_i_lt (by omega) hC).mpr hi : (own_i i) < k)).2.1 ?_
  show Steps p.tables e below (T0.setTop (mkF m 16 ls0 [])) _
  refine XS.aloadN X0.here hx rfl (hb hby d6_16) (own_Lv_get Lv0 0 rfl) rfl ?_
  show Steps p.tables e below (T0.setTop (mkF m 17 ls0 [(.ref a)])) _
  refine XS.iload X0.here hx rfl (hb hby d6_17) (own_Lv_get Lv0 4 rfl) ?_
  show Steps p.tables e below (T0.setTop (mkF m 19 ls0 [(.int (own_i i)), (.ref a)])) _
  refine XS.lloadN X0.here hx rfl (hb hby d6_19) (own_Lv_get Lv0 3 rfl) ?_
  show Steps p.tables e below (T0.setTop (mkF m 20 ls0 [(.long (0 : Int64)), (.int (own_i i)), (.ref a)])) _
  refine st11 _ ?_
  show Steps p.tables e below (T11.setTop (mkF m 21 ls0 [])) _
  refine XS.iinc X11.here hx rfl (hb hby d6_21) (own_Lv_get Lv0 4 rfl) (l' := ls12) sl12 ?_
  show Steps p.tables e below (T11.setTop (mkF m 24 ls12 [])) _
  refine XS.goto X11.here hx rfl (pc0 := 24) (pc' := 10) rfl (hb hby d6_24) (by decide) (by decide) ?_
  exact kt
set_option maxRecDepth 65536 in
set_option maxHeartbeats 40000000 in
theorem tF2 {p : Program} {l : Launch} {e : Env} {s : State} {m : MethodId} {args : Array Value} {below : List Frame} {meth : Method} {c : Code} {Z : State} {a0 : Array Value} {n0 : Nat} {a : Addr} {k : Int32} {C : Nat} {h0 : Heap} (cx : own_Cf p s m c Z a0 n0 a k C)  {T0 : State} {ls0 : Array Slot} (S0 : own_St p l e own_RF s m args below meth c 6 n0 T0 ls0 [(0, (.ref a)), (1, (.int (0 : Int32))), (2, (.int k)), (3, (.long (0 : Int64))), (5, (.int (own_i C)))] (own_PF Z h0 a)) :
    own_To p l e own_RF s m args below meth c 6 n0 T0 (mkF m 10 ls0 []) 27 [(0, (.ref a))] (own_PF Z h0 a) := by
  obtain ⟨hx, hZ, hw, hby, hml, hown, hn0, hC, lC⟩ := cx
  obtain ⟨lc0, X0, N0, Lv0, B0⟩ := S0
  obtain ⟨V0, K0⟩ := B0
  have Lv11 : own_Lv 6 ls0 [(0, (.ref a))] := own_Lv_pick Lv0 [0] rfl
  refine ⟨T0, ls0, ⟨_, X0, N0, Lv11, ⟨V0, K0⟩⟩, fun target kt => ?_⟩
  show Steps p.tables e below (T0.setTop (mkF m 10 ls0 [])) _
  refine XS.iload X0.here hx rfl (hb hby d6_10) (own_Lv_get Lv0 4 rfl) ?_
  show Steps p.tables e below (T0.setTop (mkF m 12 ls0 [(.int (own_i C))])) _
  refine XS.iloadN X0.here hx rfl (hb hby d6_12) (own_Lv_get Lv0 2 rfl) ?_
  show Steps p.tables e below (T0.setTop (mkF m 13 ls0 [(.int k), (.int (own_i C))])) _
  refine XS.icmpYes X0.here hx rfl (pc0 := 13) (pc' := 27) rfl (hb hby d6_13) rfl (flt (fun w => Nat.lt_irrefl C ((own_i_lt (by omega) hC).mp w) : ¬ ((own_i C) < k))).2.1 (by decide) (by decide) ?_
  exact kt
def own_Q6 (Z : State) (a : Addr) (h0 : Heap) (n0 : Nat) (v : Option Value) (h : Heap) (L : List Loc) : Prop := v = none ∧ Fr n0 L ∧ own_AJ Z h a 4 own_z ∧ Keep h0 h [a]
theorem own_pn6 : plainName "java/util/Arrays" = true := by first | (simp [plainName, overriddenIn]; done) | decide +kernel
theorem own_pd_LIIIRV : parseMethodDescriptor "(III)V" = some ⟨[.int, .int, .int], none⟩ := by decide +kernel
theorem own_ef6 (m : MethodId) (x0 : Addr)  (x2 : Int32)  : entryFrame m #[(.ref x0), (.int (0 : Int32)), (.int x2), (.long (0 : Int64))] 6 = mkF m 0 #[.val (.ref x0), .val (.int (0 : Int32)), .val (.int x2), .val (.long (0 : Int64)), .second, .unset] [] := by first | (simp [entryFrame, mkF, argsToLocals, Value.category]; done) | rfl
set_option maxRecDepth 65536 in
set_option maxHeartbeats 40000000 in
theorem rm6 (l : Launch) (Z : State) (a0 : Array Value) (hw : ∀ d ∈ tables_1, d.before a0 Z = true) (ws : List Jvm.Cond) (a : Addr) (k : Int32) (C : Nat) (h0 : Heap) (n0 : Nat) (Z0 : n0 ≤ h0.size) (V0 : own_AJ Z h0 a 4 own_z) (hn0 : n0 ≤ a) (hC : k.toInt = (C : Int)) (lC : C ≤ 4) :
    MetFree l (⟨"java/util/Arrays", "fill", "([JIIJ)V"⟩ : MethodName) (head1 (Jvm.Cond.code (⟨"java/util/Arrays", "fill", "([JIIJ)V"⟩ : MethodName) jdk_65_method_102_code 6 none :: ws) own_RF) (fun aa U => aa = #[(.ref a), (.int (0 : Int32)), (.int k), (.long (0 : Int64))] ∧ Z.Warmed39 U.vm ∧ U.heap = h0) (fun _ _ _ _ _ => True) (fun _ U o U' => ∃ v L, o = .returned v ∧ own_Q6 Z a h0 n0 v U'.heap L ∧ FrameEnd U o U' L own_RF.cells own_RF.slots) := by
  refine MetFree.of_bodySF (plainFor_of_name own_pn6) hisR ?_
  intro p e s m args below meth c s₁ Bd hml0 hP hK
  obtain ⟨rfl, hZ, hh⟩ := hP
  have hx := Bd.exec
  have hby := Bd.bytes
  have hml : c.maxLocals = 6 := hml0
  have hown : s.vm.findClass "java/util/Arrays" = some m.cls := findClass_of_methodNamed Bd.named
  have hnm := (name_of_methodNamed Bd.named Bd.method).1
  have X0 : Stand p l e own_RF s m #[(.ref a), (.int (0 : Int32)), (.int k), (.long (0 : Int64))] below meth c s₁ [] 0 0 := Stand.of_body Bd
  have e0 : s₁.heap = h0 := by rw [← hh, Bd.state]; rfl
  have N0 := Fr.nil n0
  have pre0 : ∀ t, Steps p.tables e below (s₁.setTop (mkF m 0 #[.val (.ref a), .val (.int (0 : Int32)), .val (.int k), .val (.long (0 : Int64)), .second, .unset] [])) t → Steps p.tables e below (s₁.setTop (entryFrame m #[(.ref a), (.int (0 : Int32)), (.int k), (.long (0 : Int64))] 6)) t := fun tt kk => castTop (own_ef6 m a k) kk
  have Lv0 : own_Lv 6 #[.val (.ref a), .val (.int (0 : Int32)), .val (.int k), .val (.long (0 : Int64)), .second, .unset] [(3, (.long (0 : Int64))), (2, (.int k)), (1, (.int (0 : Int32))), (0, (.ref a))] := own_Lv_s2 (own_Lv_s1 (own_Lv_s1 (own_Lv_s1 (own_Lv_nil 6) (k := 0) (v := (.ref a)) (by decide) rfl rfl) (k := 1) (v := (.int (0 : Int32))) (by decide) rfl rfl) (k := 2) (v := (.int k)) (by decide) rfl rfl) (k := 3) (v := (.long (0 : Int64))) (by decide) rfl rfl
  have e04 : (own_i 4).toInt = (4 : Int) := by decide
  have e00 : (0 : Int32).toInt = (0 : Int) := by decide
  obtain ⟨_, _, ⟨T11, L11, k11, n11⟩, -, X11, ⟨Lc11, hQ11, l11, y11, z11⟩, st11⟩ := Jvm.LawKit.callS X0 hx (y := (⟨"java/util/Arrays", "rangeCheck", "(III)V"⟩ : MethodName)) hown (mvT hZ (hw _ (List.mem_of_getElem? (i := 48) rfl))) (mvT hZ (hw _ (List.mem_of_getElem? (i := 49) rfl))) (mvT hZ (hw _ (List.mem_of_getElem? (i := 46) rfl))) (mvT hZ (hw _ (List.mem_of_getElem? (i := 50) rfl))) (by decide) (backOf (W := 0) (rm7 l Z a0 hw [] (own_i 4) (0 : Int32) k h0 n0 Z0 (by rw [Int32.lt_iff_toInt_lt]; omega) (by rw [Int32.lt_iff_toInt_lt]; omega) (by rw [Int32.lt_iff_toInt_lt]; omega)) hZ (hw _ (List.mem_of_getElem? (i := 50) rfl)) (hw _ (List.mem_of_getElem? (i := 46) rfl)) (by decide) (by decide)) (g := (mkF m 4 #[.val (.ref a), .val (.int (0 : Int32)), .val (.int k), .val (.long (0 : Int64)), .second, .unset] [(.int k), (.int (0 : Int32)), (.int (own_i 4))])) rfl (by rw [hml]; exact Lv0.1) (argsL := [(.int (own_i 4)), (.int (0 : Int32)), (.int k)]) (rest := []) (lenOf own_pd_LIIIRV rfl) rfl (by show 2 * 0 + _ ≤ _; exact Nat.le_of_eq rfl) (hb hby d6_4) (fun _ _ => ⟨rfl, e0, (by decide : 0 + 0 ≤ _), (by decide : 0 + 0 ≤ _)⟩)
  dsimp only [Pt.U, Pt.locs, Pt.cells, Pt.slots] at X11 l11 y11 z11 st11 hQ11
  subst l11 y11 z11
  obtain ⟨rfl, N11q, hq11⟩ := hQ11
  have N11 := Fr.app N0 N11q
  have P11 : own_PF Z h0 a T11.heap := by rw [hq11]; exact ⟨V0, Keep.refl h0 [a]⟩
  obtain ⟨ls12, sl12, Lw12⟩ := own_Lv_st1 Lv0 (k := 5) (v := (.int (0 : Int32))) (by decide) rfl
  have Lv12 : own_Lv 6 ls12 [(5, (.int (own_i 0))), (3, (.long (0 : Int64))), (2, (.int k)), (1, (.int (0 : Int32))), (0, (.ref a))] := Lw12
  have Lv13 : own_Lv 6 ls12 [(0, (.ref a)), (1, (.int (0 : Int32))), (2, (.int k)), (3, (.long (0 : Int64))), (5, (.int (own_i 0)))] := own_Lv_pick Lv12 [4, 3, 2, 1, 0] rfl
  obtain ⟨T14, ls14, ⟨lc14, X14, N14, Lv14, Pl14⟩, st14⟩ := own_loop (pc := 10) (fun i => [(0, (.ref a)), (1, (.int (0 : Int32))), (2, (.int k)), (3, (.long (0 : Int64))), (5, (.int (own_i i)))]) (fun _ => own_PF Z h0 a) (N := C) (fun i hi T ls S => tF1 (cx := ⟨hx, hZ, hw, hby, hml, hown, hn0, hC, lC⟩) hi S) C 0 (Nat.zero_add C) T11 ls12 ⟨_, X11, N11, Lv13, P11⟩
  obtain ⟨T15, ls15, ⟨lc15, X15, N15, Lv15, Pl15⟩, st15⟩ := tF2 (cx := ⟨hx, hZ, hw, hby, hml, hown, hn0, hC, lC⟩) ⟨_, X14, N14, Lv14, Pl14⟩
  obtain ⟨fs, hr, hrun, hended, hW, hsame⟩ := X15.leave (v := none) (fun _ => rfl)
  refine ⟨_, _, pre0 _ ?_, hrun, hended, _, _, rfl, ?_, ⟨_, rfl⟩, hW, hsame.mono (by decide) (by decide)⟩
  · show Steps p.tables e below (s₁.setTop (mkF m 0 #[.val (.ref a), .val (.int (0 : Int32)), .val (.int k), .val (.long (0 : Int64)), .second, .unset] [])) _
    refine XS.aloadN X0.here hx rfl (hb hby d6_0) (own_Lv_get Lv0 3 rfl) rfl ?_
    show Steps p.tables e below (s₁.setTop (mkF m 1 #[.val (.ref a), .val (.int (0 : Int32)), .val (.int k), .val (.long (0 : Int64)), .second, .unset] [(.ref a)])) _
    refine own_lenJ X0 hx hZ e0 V0 (g := (mkF m 1 #[.val (.ref a), .val (.int (0 : Int32)), .val (.int k), .val (.long (0 : Int64)), .second, .unset] [(.ref a)])) rfl rfl (hb hby d6_1) _ ?_
    show Steps p.tables e below (s₁.setTop (mkF m 2 #[.val (.ref a), .val (.int (0 : Int32)), .val (.int k), .val (.long (0 : Int64)), .second, .unset] [(.int (own_i 4))])) _
    refine XS.iloadN X0.here hx rfl (hb hby d6_2) (own_Lv_get Lv0 2 rfl) ?_
    show Steps p.tables e below (s₁.setTop (mkF m 3 #[.val (.ref a), .val (.int (0 : Int32)), .val (.int k), .val (.long (0 : Int64)), .second, .unset] [(.int (0 : Int32)), (.int (own_i 4))])) _
    refine XS.iloadN X0.here hx rfl (hb hby d6_3) (own_Lv_get Lv0 1 rfl) ?_
    show Steps p.tables e below (s₁.setTop (mkF m 4 #[.val (.ref a), .val (.int (0 : Int32)), .val (.int k), .val (.long (0 : Int64)), .second, .unset] [(.int k), (.int (0 : Int32)), (.int (own_i 4))])) _
    refine st11 _ ?_
    show Steps p.tables e below (T11.setTop (mkF m 7 #[.val (.ref a), .val (.int (0 : Int32)), .val (.int k), .val (.long (0 : Int64)), .second, .unset] [])) _
    refine XS.iloadN X11.here hx rfl (hb hby d6_7) (own_Lv_get Lv0 2 rfl) ?_
    show Steps p.tables e below (T11.setTop (mkF m 8 #[.val (.ref a), .val (.int (0 : Int32)), .val (.int k), .val (.long (0 : Int64)), .second, .unset] [(.int (0 : Int32))])) _
    refine XS.istore X11.here hx rfl (hb hby d6_8) rfl (l' := ls12) sl12 ?_
    show Steps p.tables e below (T11.setTop (mkF m 10 ls12 [])) _
    refine st14 _ ?_
    show Steps p.tables e below (T14.setTop (mkF m 10 ls14 [])) _
    refine st15 _ ?_
    show Steps p.tables e below (T15.setTop (mkF m 27 ls15 [])) _
    exact X15.returnOut hx Bd.returns (hb hby d6_27) hr
  · show own_Q6 Z a h0 n0 _ T15.heap _
    exact ⟨rfl, N15, Pl15.1, Pl15.2⟩
theorem d10_0 : decode prog_20_method_4_code 0 = .ok (.aload_n 0, 1) := by decide +kernel
theorem d10_1 : decode prog_20_method_4_code 1 = .ok (.getfield 7, 3) := by decide +kernel
theorem d10_4 : decode prog_20_method_4_code 4 = .ok (.iconst 0, 1) := by decide +kernel
theorem d10_5 : decode prog_20_method_4_code 5 = .ok (.iaload, 1) := by decide +kernel
theorem d10_6 : decode prog_20_method_4_code 6 = .ok (.i2l, 1) := by decide +kernel
theorem d10_7 : decode prog_20_method_4_code 7 = .ok (.lstore_n 1, 1) := by decide +kernel
theorem d10_8 : decode prog_20_method_4_code 8 = .ok (.aload_n 0, 1) := by decide +kernel
theorem d10_9 : decode prog_20_method_4_code 9 = .ok (.getfield 7, 3) := by decide +kernel
theorem d10_12 : decode prog_20_method_4_code 12 = .ok (.iconst 1, 1) := by decide +kernel
theorem d10_13 : decode prog_20_method_4_code 13 = .ok (.iaload, 1) := by decide +kernel
theorem d10_14 : decode prog_20_method_4_code 14 = .ok (.i2l, 1) := by decide +kernel
theorem d10_15 : decode prog_20_method_4_code 15 = .ok (.lstore_n 3, 1) := by decide +kernel
theorem d10_16 : decode prog_20_method_4_code 16 = .ok (.aload_n 0, 1) := by decide +kernel
theorem d10_17 : decode prog_20_method_4_code 17 = .ok (.getfield 7, 3) := by decide +kernel
theorem d10_20 : decode prog_20_method_4_code 20 = .ok (.iconst 2, 1) := by decide +kernel
theorem d10_21 : decode prog_20_method_4_code 21 = .ok (.iaload, 1) := by decide +kernel
theorem d10_22 : decode prog_20_method_4_code 22 = .ok (.i2l, 1) := by decide +kernel
theorem d10_23 : decode prog_20_method_4_code 23 = .ok (.lstore 5, 2) := by decide +kernel
theorem d10_25 : decode prog_20_method_4_code 25 = .ok (.aload_n 0, 1) := by decide +kernel
theorem d10_26 : decode prog_20_method_4_code 26 = .ok (.getfield 7, 3) := by decide +kernel
theorem d10_29 : decode prog_20_method_4_code 29 = .ok (.iconst 3, 1) := by decide +kernel
theorem d10_30 : decode prog_20_method_4_code 30 = .ok (.iaload, 1) := by decide +kernel
theorem d10_31 : decode prog_20_method_4_code 31 = .ok (.i2l, 1) := by decide +kernel
theorem d10_32 : decode prog_20_method_4_code 32 = .ok (.lstore 7, 2) := by decide +kernel
theorem d10_34 : decode prog_20_method_4_code 34 = .ok (.aload_n 0, 1) := by decide +kernel
theorem d10_35 : decode prog_20_method_4_code 35 = .ok (.getfield 7, 3) := by decide +kernel
theorem d10_38 : decode prog_20_method_4_code 38 = .ok (.iconst 4, 1) := by decide +kernel
theorem d10_39 : decode prog_20_method_4_code 39 = .ok (.iaload, 1) := by decide +kernel
theorem d10_40 : decode prog_20_method_4_code 40 = .ok (.i2l, 1) := by decide +kernel
theorem d10_41 : decode prog_20_method_4_code 41 = .ok (.lstore 9, 2) := by decide +kernel
theorem d10_43 : decode prog_20_method_4_code 43 = .ok (.aload_n 0, 1) := by decide +kernel
theorem d10_44 : decode prog_20_method_4_code 44 = .ok (.getfield 7, 3) := by decide +kernel
theorem d10_47 : decode prog_20_method_4_code 47 = .ok (.iconst 5, 1) := by decide +kernel
theorem d10_48 : decode prog_20_method_4_code 48 = .ok (.iaload, 1) := by decide +kernel
theorem d10_49 : decode prog_20_method_4_code 49 = .ok (.i2l, 1) := by decide +kernel
theorem d10_50 : decode prog_20_method_4_code 50 = .ok (.lstore 11, 2) := by decide +kernel
theorem d10_52 : decode prog_20_method_4_code 52 = .ok (.aload_n 0, 1) := by decide +kernel
theorem d10_53 : decode prog_20_method_4_code 53 = .ok (.getfield 7, 3) := by decide +kernel
theorem d10_56 : decode prog_20_method_4_code 56 = .ok (.bipush 6, 2) := by decide +kernel
theorem d10_58 : decode prog_20_method_4_code 58 = .ok (.iaload, 1) := by decide +kernel
theorem d10_59 : decode prog_20_method_4_code 59 = .ok (.i2l, 1) := by decide +kernel
theorem d10_60 : decode prog_20_method_4_code 60 = .ok (.lstore 13, 2) := by decide +kernel
theorem d10_62 : decode prog_20_method_4_code 62 = .ok (.aload_n 0, 1) := by decide +kernel
theorem d10_63 : decode prog_20_method_4_code 63 = .ok (.getfield 7, 3) := by decide +kernel
theorem d10_66 : decode prog_20_method_4_code 66 = .ok (.bipush 7, 2) := by decide +kernel
theorem d10_68 : decode prog_20_method_4_code 68 = .ok (.iaload, 1) := by decide +kernel
theorem d10_69 : decode prog_20_method_4_code 69 = .ok (.i2l, 1) := by decide +kernel
theorem d10_70 : decode prog_20_method_4_code 70 = .ok (.lstore 15, 2) := by decide +kernel
theorem d10_72 : decode prog_20_method_4_code 72 = .ok (.aload_n 0, 1) := by decide +kernel
theorem d10_73 : decode prog_20_method_4_code 73 = .ok (.getfield 7, 3) := by decide +kernel
theorem d10_76 : decode prog_20_method_4_code 76 = .ok (.bipush 8, 2) := by decide +kernel
theorem d10_78 : decode prog_20_method_4_code 78 = .ok (.iaload, 1) := by decide +kernel
theorem d10_79 : decode prog_20_method_4_code 79 = .ok (.i2l, 1) := by decide +kernel
theorem d10_80 : decode prog_20_method_4_code 80 = .ok (.lstore 17, 2) := by decide +kernel
theorem d10_82 : decode prog_20_method_4_code 82 = .ok (.lload_n 1, 1) := by decide +kernel
theorem d10_83 : decode prog_20_method_4_code 83 = .ok (.invokestatic 61, 3) := by decide +kernel
theorem d10_86 : decode prog_20_method_4_code 86 = .ok (.lload 9, 2) := by decide +kernel
theorem d10_88 : decode prog_20_method_4_code 88 = .ok (.lload 17, 2) := by decide +kernel
theorem d10_90 : decode prog_20_method_4_code 90 = .ok (.lmul, 1) := by decide +kernel
theorem d10_91 : decode prog_20_method_4_code 91 = .ok (.lload 11, 2) := by decide +kernel
theorem d10_93 : decode prog_20_method_4_code 93 = .ok (.lload 15, 2) := by decide +kernel
theorem d10_95 : decode prog_20_method_4_code 95 = .ok (.lmul, 1) := by decide +kernel
theorem d10_96 : decode prog_20_method_4_code 96 = .ok (.ladd, 1) := by decide +kernel
theorem d10_97 : decode prog_20_method_4_code 97 = .ok (.lmul, 1) := by decide +kernel
theorem d10_98 : decode prog_20_method_4_code 98 = .ok (.lload_n 3, 1) := by decide +kernel
theorem d10_99 : decode prog_20_method_4_code 99 = .ok (.invokestatic 61, 3) := by decide +kernel
theorem d10_102 : decode prog_20_method_4_code 102 = .ok (.lload 7, 2) := by decide +kernel
theorem d10_104 : decode prog_20_method_4_code 104 = .ok (.lload 17, 2) := by decide +kernel
theorem d10_106 : decode prog_20_method_4_code 106 = .ok (.lmul, 1) := by decide +kernel
theorem d10_107 : decode prog_20_method_4_code 107 = .ok (.lload 11, 2) := by decide +kernel
theorem d10_109 : decode prog_20_method_4_code 109 = .ok (.lload 13, 2) := by decide +kernel
theorem d10_111 : decode prog_20_method_4_code 111 = .ok (.lmul, 1) := by decide +kernel
theorem d10_112 : decode prog_20_method_4_code 112 = .ok (.ladd, 1) := by decide +kernel
theorem d10_113 : decode prog_20_method_4_code 113 = .ok (.lmul, 1) := by decide +kernel
theorem d10_114 : decode prog_20_method_4_code 114 = .ok (.ladd, 1) := by decide +kernel
theorem d10_115 : decode prog_20_method_4_code 115 = .ok (.lload 5, 2) := by decide +kernel
theorem d10_117 : decode prog_20_method_4_code 117 = .ok (.invokestatic 61, 3) := by decide +kernel
theorem d10_120 : decode prog_20_method_4_code 120 = .ok (.lload 7, 2) := by decide +kernel
theorem d10_122 : decode prog_20_method_4_code 122 = .ok (.lload 15, 2) := by decide +kernel
theorem d10_124 : decode prog_20_method_4_code 124 = .ok (.lmul, 1) := by decide +kernel
theorem d10_125 : decode prog_20_method_4_code 125 = .ok (.lload 9, 2) := by decide +kernel
theorem d10_127 : decode prog_20_method_4_code 127 = .ok (.lload 13, 2) := by decide +kernel
theorem d10_129 : decode prog_20_method_4_code 129 = .ok (.lmul, 1) := by decide +kernel
theorem d10_130 : decode prog_20_method_4_code 130 = .ok (.ladd, 1) := by decide +kernel
theorem d10_131 : decode prog_20_method_4_code 131 = .ok (.lmul, 1) := by decide +kernel
theorem d10_132 : decode prog_20_method_4_code 132 = .ok (.ladd, 1) := by decide +kernel
theorem d10_133 : decode prog_20_method_4_code 133 = .ok (.lload 7, 2) := by decide +kernel
theorem d10_135 : decode prog_20_method_4_code 135 = .ok (.invokestatic 61, 3) := by decide +kernel
theorem d10_138 : decode prog_20_method_4_code 138 = .ok (.lload_n 3, 1) := by decide +kernel
theorem d10_139 : decode prog_20_method_4_code 139 = .ok (.lload 17, 2) := by decide +kernel
theorem d10_141 : decode prog_20_method_4_code 141 = .ok (.lmul, 1) := by decide +kernel
theorem d10_142 : decode prog_20_method_4_code 142 = .ok (.lload 5, 2) := by decide +kernel
theorem d10_144 : decode prog_20_method_4_code 144 = .ok (.lload 15, 2) := by decide +kernel
theorem d10_146 : decode prog_20_method_4_code 146 = .ok (.lmul, 1) := by decide +kernel
theorem d10_147 : decode prog_20_method_4_code 147 = .ok (.ladd, 1) := by decide +kernel
theorem d10_148 : decode prog_20_method_4_code 148 = .ok (.lmul, 1) := by decide +kernel
theorem d10_149 : decode prog_20_method_4_code 149 = .ok (.ladd, 1) := by decide +kernel
theorem d10_150 : decode prog_20_method_4_code 150 = .ok (.lload 9, 2) := by decide +kernel
theorem d10_152 : decode prog_20_method_4_code 152 = .ok (.invokestatic 61, 3) := by decide +kernel
theorem d10_155 : decode prog_20_method_4_code 155 = .ok (.lload_n 1, 1) := by decide +kernel
theorem d10_156 : decode prog_20_method_4_code 156 = .ok (.lload 17, 2) := by decide +kernel
theorem d10_158 : decode prog_20_method_4_code 158 = .ok (.lmul, 1) := by decide +kernel
theorem d10_159 : decode prog_20_method_4_code 159 = .ok (.lload 5, 2) := by decide +kernel
theorem d10_161 : decode prog_20_method_4_code 161 = .ok (.lload 13, 2) := by decide +kernel
theorem d10_163 : decode prog_20_method_4_code 163 = .ok (.lmul, 1) := by decide +kernel
theorem d10_164 : decode prog_20_method_4_code 164 = .ok (.ladd, 1) := by decide +kernel
theorem d10_165 : decode prog_20_method_4_code 165 = .ok (.lmul, 1) := by decide +kernel
theorem d10_166 : decode prog_20_method_4_code 166 = .ok (.ladd, 1) := by decide +kernel
theorem d10_167 : decode prog_20_method_4_code 167 = .ok (.lload 11, 2) := by decide +kernel
theorem d10_169 : decode prog_20_method_4_code 169 = .ok (.invokestatic 61, 3) := by decide +kernel
theorem d10_172 : decode prog_20_method_4_code 172 = .ok (.lload_n 1, 1) := by decide +kernel
theorem d10_173 : decode prog_20_method_4_code 173 = .ok (.lload 15, 2) := by decide +kernel
theorem d10_175 : decode prog_20_method_4_code 175 = .ok (.lmul, 1) := by decide +kernel
theorem d10_176 : decode prog_20_method_4_code 176 = .ok (.lload_n 3, 1) := by decide +kernel
theorem d10_177 : decode prog_20_method_4_code 177 = .ok (.lload 13, 2) := by decide +kernel
theorem d10_179 : decode prog_20_method_4_code 179 = .ok (.lmul, 1) := by decide +kernel
theorem d10_180 : decode prog_20_method_4_code 180 = .ok (.ladd, 1) := by decide +kernel
theorem d10_181 : decode prog_20_method_4_code 181 = .ok (.lmul, 1) := by decide +kernel
theorem d10_182 : decode prog_20_method_4_code 182 = .ok (.ladd, 1) := by decide +kernel
theorem d10_183 : decode prog_20_method_4_code 183 = .ok (.lload 13, 2) := by decide +kernel
theorem d10_185 : decode prog_20_method_4_code 185 = .ok (.invokestatic 61, 3) := by decide +kernel
theorem d10_188 : decode prog_20_method_4_code 188 = .ok (.lload_n 3, 1) := by decide +kernel
theorem d10_189 : decode prog_20_method_4_code 189 = .ok (.lload 11, 2) := by decide +kernel
theorem d10_191 : decode prog_20_method_4_code 191 = .ok (.lmul, 1) := by decide +kernel
theorem d10_192 : decode prog_20_method_4_code 192 = .ok (.lload 5, 2) := by decide +kernel
theorem d10_194 : decode prog_20_method_4_code 194 = .ok (.lload 9, 2) := by decide +kernel
theorem d10_196 : decode prog_20_method_4_code 196 = .ok (.lmul, 1) := by decide +kernel
theorem d10_197 : decode prog_20_method_4_code 197 = .ok (.ladd, 1) := by decide +kernel
theorem d10_198 : decode prog_20_method_4_code 198 = .ok (.lmul, 1) := by decide +kernel
theorem d10_199 : decode prog_20_method_4_code 199 = .ok (.ladd, 1) := by decide +kernel
theorem d10_200 : decode prog_20_method_4_code 200 = .ok (.lload 15, 2) := by decide +kernel
theorem d10_202 : decode prog_20_method_4_code 202 = .ok (.invokestatic 61, 3) := by decide +kernel
theorem d10_205 : decode prog_20_method_4_code 205 = .ok (.lload_n 1, 1) := by decide +kernel
theorem d10_206 : decode prog_20_method_4_code 206 = .ok (.lload 11, 2) := by decide +kernel
theorem d10_208 : decode prog_20_method_4_code 208 = .ok (.lmul, 1) := by decide +kernel
theorem d10_209 : decode prog_20_method_4_code 209 = .ok (.lload 5, 2) := by decide +kernel
theorem d10_211 : decode prog_20_method_4_code 211 = .ok (.lload 7, 2) := by decide +kernel
theorem d10_213 : decode prog_20_method_4_code 213 = .ok (.lmul, 1) := by decide +kernel
theorem d10_214 : decode prog_20_method_4_code 214 = .ok (.ladd, 1) := by decide +kernel
theorem d10_215 : decode prog_20_method_4_code 215 = .ok (.lmul, 1) := by decide +kernel
theorem d10_216 : decode prog_20_method_4_code 216 = .ok (.ladd, 1) := by decide +kernel
theorem d10_217 : decode prog_20_method_4_code 217 = .ok (.lload 17, 2) := by decide +kernel
theorem d10_219 : decode prog_20_method_4_code 219 = .ok (.invokestatic 61, 3) := by decide +kernel
theorem d10_222 : decode prog_20_method_4_code 222 = .ok (.lload_n 1, 1) := by decide +kernel
theorem d10_223 : decode prog_20_method_4_code 223 = .ok (.lload 9, 2) := by decide +kernel
theorem d10_225 : decode prog_20_method_4_code 225 = .ok (.lmul, 1) := by decide +kernel
theorem d10_226 : decode prog_20_method_4_code 226 = .ok (.lload_n 3, 1) := by decide +kernel
theorem d10_227 : decode prog_20_method_4_code 227 = .ok (.lload 7, 2) := by decide +kernel
theorem d10_229 : decode prog_20_method_4_code 229 = .ok (.lmul, 1) := by decide +kernel
theorem d10_230 : decode prog_20_method_4_code 230 = .ok (.ladd, 1) := by decide +kernel
theorem d10_231 : decode prog_20_method_4_code 231 = .ok (.lmul, 1) := by decide +kernel
theorem d10_232 : decode prog_20_method_4_code 232 = .ok (.ladd, 1) := by decide +kernel
theorem d10_233 : decode prog_20_method_4_code 233 = .ok (.lreturn, 1) := by decide +kernel
def own_c (f : Nat → Int32) (i : Nat) : Int64 := (f i).toInt64
theorem own_pnK : plainName "quartess/quartet/Anchors" = true := by first | (simp [plainName, overriddenIn]; done) | decide +kernel
def own_acc0 (f : Nat → Int32) : Int64 := (own_pairs (own_c f 0) * (((own_c f 4) * (own_c f 8)) + ((own_c f 5) * (own_c f 7))))
def own_acc1 (f : Nat → Int32) : Int64 := (own_acc0 f + (own_pairs (own_c f 1) * (((own_c f 3) * (own_c f 8)) + ((own_c f 5) * (own_c f 6)))))
def own_acc2 (f : Nat → Int32) : Int64 := (own_acc1 f + (own_pairs (own_c f 2) * (((own_c f 3) * (own_c f 7)) + ((own_c f 4) * (own_c f 6)))))
def own_acc3 (f : Nat → Int32) : Int64 := (own_acc2 f + (own_pairs (own_c f 3) * (((own_c f 1) * (own_c f 8)) + ((own_c f 2) * (own_c f 7)))))
def own_acc4 (f : Nat → Int32) : Int64 := (own_acc3 f + (own_pairs (own_c f 4) * (((own_c f 0) * (own_c f 8)) + ((own_c f 2) * (own_c f 6)))))
def own_acc5 (f : Nat → Int32) : Int64 := (own_acc4 f + (own_pairs (own_c f 5) * (((own_c f 0) * (own_c f 7)) + ((own_c f 1) * (own_c f 6)))))
def own_acc6 (f : Nat → Int32) : Int64 := (own_acc5 f + (own_pairs (own_c f 6) * (((own_c f 1) * (own_c f 5)) + ((own_c f 2) * (own_c f 4)))))
def own_acc7 (f : Nat → Int32) : Int64 := (own_acc6 f + (own_pairs (own_c f 7) * (((own_c f 0) * (own_c f 5)) + ((own_c f 2) * (own_c f 3)))))
def own_acc8 (f : Nat → Int32) : Int64 := (own_acc7 f + (own_pairs (own_c f 8) * (((own_c f 0) * (own_c f 4)) + ((own_c f 1) * (own_c f 3)))))
def own_three (f : Nat → Int32) : Int64 := own_acc8 f
theorem own_pd_LJRJ : parseMethodDescriptor "(J)J" = some ⟨[.long], some .long⟩ := by decide +kernel
theorem own_ef10 (m : MethodId) (x0 : Addr) : entryFrame m #[(.ref x0)] 19 = mkF m 0 #[.val (.ref x0), .unset, .unset, .unset, .unset, .unset, .unset, .unset, .unset, .unset, .unset, .unset, .unset, .unset, .unset, .unset, .unset, .unset, .unset] [] := by first | (simp [entryFrame, mkF, argsToLocals, Value.category]; done) | rfl
set_option maxRecDepth 65536 in
set_option maxHeartbeats 40000000 in
theorem rm10 (l : Launch) (Z : State) (a0 : Array Value) (hw : ∀ d ∈ tables_1, d.before a0 Z = true) (ws : List Jvm.Cond) (a : Addr) (A : Nat → Addr) (N : Nat) (f : Nat → Int32) (r k : Int32) (g1 g2 g3 g4 g5 g6 : Nat → Int64) (h0 : Heap) (n0 : Nat) (Z0 : n0 ≤ h0.size) (B0 : own_B Z a A N f r k g1 g2 g3 g4 g5 g6 h0) (h9 : 9 ≤ N) :
    MetFree l (⟨"quartess/quartet/Anchors", "countThreeByThree", "()J"⟩ : MethodName) (head1 (Jvm.Cond.code (⟨"quartess/quartet/Anchors", "countThreeByThree", "()J"⟩ : MethodName) prog_20_method_4_code 19 (some .long) :: ws) ({ frames := 1, cells := 0, slots := 0, locals := 20 } : Room)) (fun aa U => aa = #[(.ref a)] ∧ Z.Warmed39 U.vm ∧ U.heap = h0) (fun _ _ _ _ _ => True) (fun _ U o U' => ∃ v L, o = .returned v ∧ own_QR (some (.long (own_three f))) h0 n0 v U'.heap L ∧ FrameEnd U o U' L ({ frames := 1, cells := 0, slots := 0, locals := 20 } : Room).cells ({ frames := 1, cells := 0, slots := 0, locals := 20 } : Room).slots) := by
  refine MetFree.of_bodySF (plainFor_of_name own_pnK) hisR ?_
  intro p e s m args below meth c s₁ Bd hml0 hP hK
  obtain ⟨rfl, hZ, hh⟩ := hP
  have hx := Bd.exec
  have hby := Bd.bytes
  have hml : c.maxLocals = 19 := hml0
  have hown : s.vm.findClass "quartess/quartet/Anchors" = some m.cls := findClass_of_methodNamed Bd.named
  have hnm := (name_of_methodNamed Bd.named Bd.method).1
  have X0 : Stand p l e ({ frames := 1, cells := 0, slots := 0, locals := 20 } : Room) s m #[(.ref a)] below meth c s₁ [] 0 0 := Stand.of_body Bd
  have e0 : s₁.heap = h0 := by rw [← hh, Bd.state]; rfl
  have N0 := Fr.nil n0
  have pre0 : ∀ t, Steps p.tables e below (s₁.setTop (mkF m 0 #[.val (.ref a), .unset, .unset, .unset, .unset, .unset, .unset, .unset, .unset, .unset, .unset, .unset, .unset, .unset, .unset, .unset, .unset, .unset, .unset] [])) t → Steps p.tables e below (s₁.setTop (entryFrame m #[(.ref a)] 19)) t := fun tt kk => castTop (own_ef10 m a) kk
  have hq0 : s₁.heap = h0 := e0
  obtain ⟨T11, X11, e11, st11⟩ := getF X0 hx hZ hown (host := "") (Or.inl (hw _ (List.mem_of_getElem? (i := 11) rfl))) Via.refl e0 ((own_B_cells B0)) (g := (mkF m 1 #[.val (.ref a), .unset, .unset, .unset, .unset, .unset, .unset, .unset, .unset, .unset, .unset, .unset, .unset, .unset, .unset, .unset, .unset, .unset, .unset] [(.ref a)])) rfl rfl (hb hby d10_1)
  obtain ⟨T12, X12, e12, st12⟩ := getF X11 hx hZ hown (host := "") (Or.inl (hw _ (List.mem_of_getElem? (i := 11) rfl))) Via.refl e11 ((own_B_cells B0)) (g := (mkF m 9 #[.val (.ref a), .val (.long (own_c f 0)), .second, .unset, .unset, .unset, .unset, .unset, .unset, .unset, .unset, .unset, .unset, .unset, .unset, .unset, .unset, .unset, .unset] [(.ref a)])) rfl rfl (hb hby d10_9)
  obtain ⟨T13, X13, e13, st13⟩ := getF X12 hx hZ hown (host := "") (Or.inl (hw _ (List.mem_of_getElem? (i := 11) rfl))) Via.refl e12 ((own_B_cells B0)) (g := (mkF m 17 #[.val (.ref a), .val (.long (own_c f 0)), .second, .val (.long (own_c f 1)), .second, .unset, .unset, .unset, .unset, .unset, .unset, .unset, .unset, .unset, .unset, .unset, .unset, .unset, .unset] [(.ref a)])) rfl rfl (hb hby d10_17)
  obtain ⟨T14, X14, e14, st14⟩ := getF X13 hx hZ hown (host := "") (Or.inl (hw _ (List.mem_of_getElem? (i := 11) rfl))) Via.refl e13 ((own_B_cells B0)) (g := (mkF m 26 #[.val (.ref a), .val (.long (own_c f 0)), .second, .val (.long (own_c f 1)), .second, .val (.long (own_c f 2)), .second, .unset, .unset, .unset, .unset, .unset, .unset, .unset, .unset, .unset, .unset, .unset, .unset] [(.ref a)])) rfl rfl (hb hby d10_26)
  obtain ⟨T15, X15, e15, st15⟩ := getF X14 hx hZ hown (host := "") (Or.inl (hw _ (List.mem_of_getElem? (i := 11) rfl))) Via.refl e14 ((own_B_cells B0)) (g := (mkF m 35 #[.val (.ref a), .val (.long (own_c f 0)), .second, .val (.long (own_c f 1)), .second, .val (.long (own_c f 2)), .second, .val (.long (own_c f 3)), .second, .unset, .unset, .unset, .unset, .unset, .unset, .unset, .unset, .unset, .unset] [(.ref a)])) rfl rfl (hb hby d10_35)
  obtain ⟨T16, X16, e16, st16⟩ := getF X15 hx hZ hown (host := "") (Or.inl (hw _ (List.mem_of_getElem? (i := 11) rfl))) Via.refl e15 ((own_B_cells B0)) (g := (mkF m 44 #[.val (.ref a), .val (.long (own_c f 0)), .second, .val (.long (own_c f 1)), .second, .val (.long (own_c f 2)), .second, .val (.long (own_c f 3)), .second, .val (.long (own_c f 4)), .second, .unset, .unset, .unset, .unset, .unset, .unset, .unset, .unset] [(.ref a)])) rfl rfl (hb hby d10_44)
  obtain ⟨T17, X17, e17, st17⟩ := getF X16 hx hZ hown (host := "") (Or.inl (hw _ (List.mem_of_getElem? (i := 11) rfl))) Via.refl e16 ((own_B_cells B0)) (g := (mkF m 53 #[.val (.ref a), .val (.long (own_c f 0)), .second, .val (.long (own_c f 1)), .second, .val (.long (own_c f 2)), .second, .val (.long (own_c f 3)), .second, .val (.long (own_c f 4)), .second, .val (.long (own_c f 5)), .second, .unset, .unset, .unset, .unset, .unset, .unset] [(.ref a)])) rfl rfl (hb hby d10_53)
  obtain ⟨T18, X18, e18, st18⟩ := getF X17 hx hZ hown (host := "") (Or.inl (hw _ (List.mem_of_getElem? (i := 11) rfl))) Via.refl e17 ((own_B_cells B0)) (g := (mkF m 63 #[.val (.ref a), .val (.long (own_c f 0)), .second, .val (.long (own_c f 1)), .second, .val (.long (own_c f 2)), .second, .val (.long (own_c f 3)), .second, .val (.long (own_c f 4)), .second, .val (.long (own_c f 5)), .second, .val (.long (own_c f 6)), .second, .unset, .unset, .unset, .unset] [(.ref a)])) rfl rfl (hb hby d10_63)
  obtain ⟨T19, X19, e19, st19⟩ := getF X18 hx hZ hown (host := "") (Or.inl (hw _ (List.mem_of_getElem? (i := 11) rfl))) Via.refl e18 ((own_B_cells B0)) (g := (mkF m 73 #[.val (.ref a), .val (.long (own_c f 0)), .second, .val (.long (own_c f 1)), .second, .val (.long (own_c f 2)), .second, .val (.long (own_c f 3)), .second, .val (.long (own_c f 4)), .second, .val (.long (own_c f 5)), .second, .val (.long (own_c f 6)), .second, .val (.long (own_c f 7)), .second, .unset, .unset] [(.ref a)])) rfl rfl (hb hby d10_73)
  obtain ⟨_, _, ⟨T20, L20, k20, n20⟩, -, X20, ⟨Lc20, hQ20, l20, y20, z20⟩, st20⟩ := Jvm.LawKit.callS X19 hx (y := (⟨"quartess/quartet/Anchors", "pairs", "(J)J"⟩ : MethodName)) hown (mvT hZ (hw _ (List.mem_of_getElem? (i := 57) rfl))) (mvT hZ (hw _ (List.mem_of_getElem? (i := 58) rfl))) (mvT hZ (hw _ (List.mem_of_getElem? (i := 3) rfl))) (mvT hZ (hw _ (List.mem_of_getElem? (i := 59) rfl))) (by decide) (backOf (W := 0) (rm9 l Z a0 hw [] (own_c f 0) h0 n0 Z0) hZ (hw _ (List.mem_of_getElem? (i := 59) rfl)) (hw _ (List.mem_of_getElem? (i := 3) rfl)) (by decide) (by decide)) (g := (mkF m 83 #[.val (.ref a), .val (.long (own_c f 0)), .second, .val (.long (own_c f 1)), .second, .val (.long (own_c f 2)), .second, .val (.long (own_c f 3)), .second, .val (.long (own_c f 4)), .second, .val (.long (own_c f 5)), .second, .val (.long (own_c f 6)), .second, .val (.long (own_c f 7)), .second, .val (.long (own_c f 8)), .second] [(.long (own_c f 0))])) rfl (by rw [hml]; rfl) (argsL := [(.long (own_c f 0))]) (rest := []) (lenOf own_pd_LJRJ rfl) rfl (by show 2 * 0 + _ ≤ _; exact Nat.le_of_eq rfl) (hb hby d10_83) (fun _ _ => ⟨rfl, e19, (by decide : 0 + 0 ≤ _), (by decide : 0 + 0 ≤ _)⟩)
  dsimp only [Pt.U, Pt.locs, Pt.cells, Pt.slots] at X20 l20 y20 z20 st20 hQ20
  subst l20 y20 z20
  obtain ⟨rfl, N20q, hq20⟩ := hQ20
  have N20 := Fr.app N0 N20q
  obtain ⟨_, _, ⟨T21, L21, k21, n21⟩, -, X21, ⟨Lc21, hQ21, l21, y21, z21⟩, st21⟩ := Jvm.LawKit.callS X20 hx (y := (⟨"quartess/quartet/Anchors", "pairs", "(J)J"⟩ : MethodName)) hown (mvT hZ (hw _ (List.mem_of_getElem? (i := 57) rfl))) (mvT hZ (hw _ (List.mem_of_getElem? (i := 58) rfl))) (mvT hZ (hw _ (List.mem_of_getElem? (i := 3) rfl))) (mvT hZ (hw _ (List.mem_of_getElem? (i := 59) rfl))) (by decide) (backOf (W := 2) (rm9 l Z a0 hw [] (own_c f 1) T20.heap n0 (by rw [hq20]; exact Z0)) hZ (hw _ (List.mem_of_getElem? (i := 59) rfl)) (hw _ (List.mem_of_getElem? (i := 3) rfl)) (by decide) (by decide)) (g := (mkF m 99 #[.val (.ref a), .val (.long (own_c f 0)), .second, .val (.long (own_c f 1)), .second, .val (.long (own_c f 2)), .second, .val (.long (own_c f 3)), .second, .val (.long (own_c f 4)), .second, .val (.long (own_c f 5)), .second, .val (.long (own_c f 6)), .second, .val (.long (own_c f 7)), .second, .val (.long (own_c f 8)), .second] [(.long (own_c f 1)), (.long (own_acc0 f))])) rfl (by rw [hml]; rfl) (argsL := [(.long (own_c f 1))]) (rest := [(.long (own_acc0 f))]) (lenOf own_pd_LJRJ rfl) rfl (by show 2 * 0 + _ ≤ _; exact Nat.le_of_eq rfl) (hb hby d10_99) (fun _ _ => ⟨rfl, rfl, (by decide : 0 + 0 ≤ _), (by decide : 0 + 0 ≤ _)⟩)
  dsimp only [Pt.U, Pt.locs, Pt.cells, Pt.slots] at X21 l21 y21 z21 st21 hQ21
  subst l21 y21 z21
  obtain ⟨rfl, N21q, hp21⟩ := hQ21
  have N21 := Fr.app N20 N21q
  have hq21 : T21.heap = h0 := hp21.trans hq20
  obtain ⟨_, _, ⟨T22, L22, k22, n22⟩, -, X22, ⟨Lc22, hQ22, l22, y22, z22⟩, st22⟩ := Jvm.LawKit.callS X21 hx (y := (⟨"quartess/quartet/Anchors", "pairs", "(J)J"⟩ : MethodName)) hown (mvT hZ (hw _ (List.mem_of_getElem? (i := 57) rfl))) (mvT hZ (hw _ (List.mem_of_getElem? (i := 58) rfl))) (mvT hZ (hw _ (List.mem_of_getElem? (i := 3) rfl))) (mvT hZ (hw _ (List.mem_of_getElem? (i := 59) rfl))) (by decide) (backOf (W := 2) (rm9 l Z a0 hw [] (own_c f 2) T21.heap n0 (by rw [hq21]; exact Z0)) hZ (hw _ (List.mem_of_getElem? (i := 59) rfl)) (hw _ (List.mem_of_getElem? (i := 3) rfl)) (by decide) (by decide)) (g := (mkF m 117 #[.val (.ref a), .val (.long (own_c f 0)), .second, .val (.long (own_c f 1)), .second, .val (.long (own_c f 2)), .second, .val (.long (own_c f 3)), .second, .val (.long (own_c f 4)), .second, .val (.long (own_c f 5)), .second, .val (.long (own_c f 6)), .second, .val (.long (own_c f 7)), .second, .val (.long (own_c f 8)), .second] [(.long (own_c f 2)), (.long (own_acc1 f))])) rfl (by rw [hml]; rfl) (argsL := [(.long (own_c f 2))]) (rest := [(.long (own_acc1 f))]) (lenOf own_pd_LJRJ rfl) rfl (by show 2 * 0 + _ ≤ _; exact Nat.le_of_eq rfl) (hb hby d10_117) (fun _ _ => ⟨rfl, rfl, (by decide : 0 + 0 ≤ _), (by decide : 0 + 0 ≤ _)⟩)
  dsimp only [Pt.U, Pt.locs, Pt.cells, Pt.slots] at X22 l22 y22 z22 st22 hQ22
  subst l22 y22 z22
  obtain ⟨rfl, N22q, hp22⟩ := hQ22
  have N22 := Fr.app N21 N22q
  have hq22 : T22.heap = h0 := hp22.trans hq21
  obtain ⟨_, _, ⟨T23, L23, k23, n23⟩, -, X23, ⟨Lc23, hQ23, l23, y23, z23⟩, st23⟩ := Jvm.LawKit.callS X22 hx (y := (⟨"quartess/quartet/Anchors", "pairs", "(J)J"⟩ : MethodName)) hown (mvT hZ (hw _ (List.mem_of_getElem? (i := 57) rfl))) (mvT hZ (hw _ (List.mem_of_getElem? (i := 58) rfl))) (mvT hZ (hw _ (List.mem_of_getElem? (i := 3) rfl))) (mvT hZ (hw _ (List.mem_of_getElem? (i := 59) rfl))) (by decide) (backOf (W := 2) (rm9 l Z a0 hw [] (own_c f 3) T22.heap n0 (by rw [hq22]; exact Z0)) hZ (hw _ (List.mem_of_getElem? (i := 59) rfl)) (hw _ (List.mem_of_getElem? (i := 3) rfl)) (by decide) (by decide)) (g := (mkF m 135 #[.val (.ref a), .val (.long (own_c f 0)), .second, .val (.long (own_c f 1)), .second, .val (.long (own_c f 2)), .second, .val (.long (own_c f 3)), .second, .val (.long (own_c f 4)), .second, .val (.long (own_c f 5)), .second, .val (.long (own_c f 6)), .second, .val (.long (own_c f 7)), .second, .val (.long (own_c f 8)), .second] [(.long (own_c f 3)), (.long (own_acc2 f))])) rfl (by rw [hml]; rfl) (argsL := [(.long (own_c f 3))]) (rest := [(.long (own_acc2 f))]) (lenOf own_pd_LJRJ rfl) rfl (by show 2 * 0 + _ ≤ _; exact Nat.le_of_eq rfl) (hb hby d10_135) (fun _ _ => ⟨rfl, rfl, (by decide : 0 + 0 ≤ _), (by decide : 0 + 0 ≤ _)⟩)
  dsimp only [Pt.U, Pt.locs, Pt.cells, Pt.slots] at X23 l23 y23 z23 st23 hQ23
  subst l23 y23 z23
  obtain ⟨rfl, N23q, hp23⟩ := hQ23
  have N23 := Fr.app N22 N23q
  have hq23 : T23.heap = h0 := hp23.trans hq22
  obtain ⟨_, _, ⟨T24, L24, k24, n24⟩, -, X24, ⟨Lc24, hQ24, l24, y24, z24⟩, st24⟩ := Jvm.LawKit.callS X23 hx (y := (⟨"quartess/quartet/Anchors", "pairs", "(J)J"⟩ : MethodName)) hown (mvT hZ (hw _ (List.mem_of_getElem? (i := 57) rfl))) (mvT hZ (hw _ (List.mem_of_getElem? (i := 58) rfl))) (mvT hZ (hw _ (List.mem_of_getElem? (i := 3) rfl))) (mvT hZ (hw _ (List.mem_of_getElem? (i := 59) rfl))) (by decide) (backOf (W := 2) (rm9 l Z a0 hw [] (own_c f 4) T23.heap n0 (by rw [hq23]; exact Z0)) hZ (hw _ (List.mem_of_getElem? (i := 59) rfl)) (hw _ (List.mem_of_getElem? (i := 3) rfl)) (by decide) (by decide)) (g := (mkF m 152 #[.val (.ref a), .val (.long (own_c f 0)), .second, .val (.long (own_c f 1)), .second, .val (.long (own_c f 2)), .second, .val (.long (own_c f 3)), .second, .val (.long (own_c f 4)), .second, .val (.long (own_c f 5)), .second, .val (.long (own_c f 6)), .second, .val (.long (own_c f 7)), .second, .val (.long (own_c f 8)), .second] [(.long (own_c f 4)), (.long (own_acc3 f))])) rfl (by rw [hml]; rfl) (argsL := [(.long (own_c f 4))]) (rest := [(.long (own_acc3 f))]) (lenOf own_pd_LJRJ rfl) rfl (by show 2 * 0 + _ ≤ _; exact Nat.le_of_eq rfl) (hb hby d10_152) (fun _ _ => ⟨rfl, rfl, (by decide : 0 + 0 ≤ _), (by decide : 0 + 0 ≤ _)⟩)
  dsimp only [Pt.U, Pt.locs, Pt.cells, Pt.slots] at X24 l24 y24 z24 st24 hQ24
  subst l24 y24 z24
  obtain ⟨rfl, N24q, hp24⟩ := hQ24
  have N24 := Fr.app N23 N24q
  have hq24 : T24.heap = h0 := hp24.trans hq23
  obtain ⟨_, _, ⟨T25, L25, k25, n25⟩, -, X25, ⟨Lc25, hQ25, l25, y25, z25⟩, st25⟩ := Jvm.LawKit.callS X24 hx (y := (⟨"quartess/quartet/Anchors", "pairs", "(J)J"⟩ : MethodName)) hown (mvT hZ (hw _ (List.mem_of_getElem? (i := 57) rfl))) (mvT hZ (hw _ (List.mem_of_getElem? (i := 58) rfl))) (mvT hZ (hw _ (List.mem_of_getElem? (i := 3) rfl))) (mvT hZ (hw _ (List.mem_of_getElem? (i := 59) rfl))) (by decide) (backOf (W := 2) (rm9 l Z a0 hw [] (own_c f 5) T24.heap n0 (by rw [hq24]; exact Z0)) hZ (hw _ (List.mem_of_getElem? (i := 59) rfl)) (hw _ (List.mem_of_getElem? (i := 3) rfl)) (by decide) (by decide)) (g := (mkF m 169 #[.val (.ref a), .val (.long (own_c f 0)), .second, .val (.long (own_c f 1)), .second, .val (.long (own_c f 2)), .second, .val (.long (own_c f 3)), .second, .val (.long (own_c f 4)), .second, .val (.long (own_c f 5)), .second, .val (.long (own_c f 6)), .second, .val (.long (own_c f 7)), .second, .val (.long (own_c f 8)), .second] [(.long (own_c f 5)), (.long (own_acc4 f))])) rfl (by rw [hml]; rfl) (argsL := [(.long (own_c f 5))]) (rest := [(.long (own_acc4 f))]) (lenOf own_pd_LJRJ rfl) rfl (by show 2 * 0 + _ ≤ _; exact Nat.le_of_eq rfl) (hb hby d10_169) (fun _ _ => ⟨rfl, rfl, (by decide : 0 + 0 ≤ _), (by decide : 0 + 0 ≤ _)⟩)
  dsimp only [Pt.U, Pt.locs, Pt.cells, Pt.slots] at X25 l25 y25 z25 st25 hQ25
  subst l25 y25 z25
  obtain ⟨rfl, N25q, hp25⟩ := hQ25
  have N25 := Fr.app N24 N25q
  have hq25 : T25.heap = h0 := hp25.trans hq24
  obtain ⟨_, _, ⟨T26, L26, k26, n26⟩, -, X26, ⟨Lc26, hQ26, l26, y26, z26⟩, st26⟩ := Jvm.LawKit.callS X25 hx (y := (⟨"quartess/quartet/Anchors", "pairs", "(J)J"⟩ : MethodName)) hown (mvT hZ (hw _ (List.mem_of_getElem? (i := 57) rfl))) (mvT hZ (hw _ (List.mem_of_getElem? (i := 58) rfl))) (mvT hZ (hw _ (List.mem_of_getElem? (i := 3) rfl))) (mvT hZ (hw _ (List.mem_of_getElem? (i := 59) rfl))) (by decide) (backOf (W := 2) (rm9 l Z a0 hw [] (own_c f 6) T25.heap n0 (by rw [hq25]; exact Z0)) hZ (hw _ (List.mem_of_getElem? (i := 59) rfl)) (hw _ (List.mem_of_getElem? (i := 3) rfl)) (by decide) (by decide)) (g := (mkF m 185 #[.val (.ref a), .val (.long (own_c f 0)), .second, .val (.long (own_c f 1)), .second, .val (.long (own_c f 2)), .second, .val (.long (own_c f 3)), .second, .val (.long (own_c f 4)), .second, .val (.long (own_c f 5)), .second, .val (.long (own_c f 6)), .second, .val (.long (own_c f 7)), .second, .val (.long (own_c f 8)), .second] [(.long (own_c f 6)), (.long (own_acc5 f))])) rfl (by rw [hml]; rfl) (argsL := [(.long (own_c f 6))]) (rest := [(.long (own_acc5 f))]) (lenOf own_pd_LJRJ rfl) rfl (by show 2 * 0 + _ ≤ _; exact Nat.le_of_eq rfl) (hb hby d10_185) (fun _ _ => ⟨rfl, rfl, (by decide : 0 + 0 ≤ _), (by decide : 0 + 0 ≤ _)⟩)
  dsimp only [Pt.U, Pt.locs, Pt.cells, Pt.slots] at X26 l26 y26 z26 st26 hQ26
  subst l26 y26 z26
  obtain ⟨rfl, N26q, hp26⟩ := hQ26
  have N26 := Fr.app N25 N26q
  have hq26 : T26.heap = h0 := hp26.trans hq25
  obtain ⟨_, _, ⟨T27, L27, k27, n27⟩, -, X27, ⟨Lc27, hQ27, l27, y27, z27⟩, st27⟩ := Jvm.LawKit.callS X26 hx (y := (⟨"quartess/quartet/Anchors", "pairs", "(J)J"⟩ : MethodName)) hown (mvT hZ (hw _ (List.mem_of_getElem? (i := 57) rfl))) (mvT hZ (hw _ (List.mem_of_getElem? (i := 58) rfl))) (mvT hZ (hw _ (List.mem_of_getElem? (i := 3) rfl))) (mvT hZ (hw _ (List.mem_of_getElem? (i := 59) rfl))) (by decide) (backOf (W := 2) (rm9 l Z a0 hw [] (own_c f 7) T26.heap n0 (by rw [hq26]; exact Z0)) hZ (hw _ (List.mem_of_getElem? (i := 59) rfl)) (hw _ (List.mem_of_getElem? (i := 3) rfl)) (by decide) (by decide)) (g := (mkF m 202 #[.val (.ref a), .val (.long (own_c f 0)), .second, .val (.long (own_c f 1)), .second, .val (.long (own_c f 2)), .second, .val (.long (own_c f 3)), .second, .val (.long (own_c f 4)), .second, .val (.long (own_c f 5)), .second, .val (.long (own_c f 6)), .second, .val (.long (own_c f 7)), .second, .val (.long (own_c f 8)), .second] [(.long (own_c f 7)), (.long (own_acc6 f))])) rfl (by rw [hml]; rfl) (argsL := [(.long (own_c f 7))]) (rest := [(.long (own_acc6 f))]) (lenOf own_pd_LJRJ rfl) rfl (by show 2 * 0 + _ ≤ _; exact Nat.le_of_eq rfl) (hb hby d10_202) (fun _ _ => ⟨rfl, rfl, (by decide : 0 + 0 ≤ _), (by decide : 0 + 0 ≤ _)⟩)
  dsimp only [Pt.U, Pt.locs, Pt.cells, Pt.slots] at X27 l27 y27 z27 st27 hQ27
  subst l27 y27 z27
  obtain ⟨rfl, N27q, hp27⟩ := hQ27
  have N27 := Fr.app N26 N27q
  have hq27 : T27.heap = h0 := hp27.trans hq26
  obtain ⟨_, _, ⟨T28, L28, k28, n28⟩, -, X28, ⟨Lc28, hQ28, l28, y28, z28⟩, st28⟩ := Jvm.LawKit.callS X27 hx (y := (⟨"quartess/quartet/Anchors", "pairs", "(J)J"⟩ : MethodName)) hown (mvT hZ (hw _ (List.mem_of_getElem? (i := 57) rfl))) (mvT hZ (hw _ (List.mem_of_getElem? (i := 58) rfl))) (mvT hZ (hw _ (List.mem_of_getElem? (i := 3) rfl))) (mvT hZ (hw _ (List.mem_of_getElem? (i := 59) rfl))) (by decide) (backOf (W := 2) (rm9 l Z a0 hw [] (own_c f 8) T27.heap n0 (by rw [hq27]; exact Z0)) hZ (hw _ (List.mem_of_getElem? (i := 59) rfl)) (hw _ (List.mem_of_getElem? (i := 3) rfl)) (by decide) (by decide)) (g := (mkF m 219 #[.val (.ref a), .val (.long (own_c f 0)), .second, .val (.long (own_c f 1)), .second, .val (.long (own_c f 2)), .second, .val (.long (own_c f 3)), .second, .val (.long (own_c f 4)), .second, .val (.long (own_c f 5)), .second, .val (.long (own_c f 6)), .second, .val (.long (own_c f 7)), .second, .val (.long (own_c f 8)), .second] [(.long (own_c f 8)), (.long (own_acc7 f))])) rfl (by rw [hml]; rfl) (argsL := [(.long (own_c f 8))]) (rest := [(.long (own_acc7 f))]) (lenOf own_pd_LJRJ rfl) rfl (by show 2 * 0 + _ ≤ _; exact Nat.le_of_eq rfl) (hb hby d10_219) (fun _ _ => ⟨rfl, rfl, (by decide : 0 + 0 ≤ _), (by decide : 0 + 0 ≤ _)⟩)
  dsimp only [Pt.U, Pt.locs, Pt.cells, Pt.slots] at X28 l28 y28 z28 st28 hQ28
  subst l28 y28 z28
  obtain ⟨rfl, N28q, hp28⟩ := hQ28
  have N28 := Fr.app N27 N28q
  have hq28 : T28.heap = h0 := hp28.trans hq27
  obtain ⟨fs, hr, hrun, hended, hW, hsame⟩ := X28.leave (v := some (.long (own_three f))) (fun h => by rw [Bd.returns] at h; cases h)
  refine ⟨_, _, pre0 _ ?_, hrun, hended, _, _, rfl, ?_, ⟨_, rfl⟩, hW, hsame.mono (by decide) (by decide)⟩
  · show Steps p.tables e below (s₁.setTop (mkF m 0 #[.val (.ref a), .unset, .unset, .unset, .unset, .unset, .unset, .unset, .unset, .unset, .unset, .unset, .unset, .unset, .unset, .unset, .unset, .unset, .unset] [])) _
    refine XS.aloadN X0.here hx rfl (hb hby d10_0) rfl rfl ?_
    show Steps p.tables e below (s₁.setTop (mkF m 1 #[.val (.ref a), .unset, .unset, .unset, .unset, .unset, .unset, .unset, .unset, .unset, .unset, .unset, .unset, .unset, .unset, .unset, .unset, .unset, .unset] [(.ref a)])) _
    refine st11 _ ?_
    show Steps p.tables e below (T11.setTop (mkF m 4 #[.val (.ref a), .unset, .unset, .unset, .unset, .unset, .unset, .unset, .unset, .unset, .unset, .unset, .unset, .unset, .unset, .unset, .unset, .unset, .unset] [(.ref (A 0))])) _
    refine XS.iconst X11.here hx rfl (hb hby d10_4) ?_
    show Steps p.tables e below (T11.setTop (mkF m 5 #[.val (.ref a), .unset, .unset, .unset, .unset, .unset, .unset, .unset, .unset, .unset, .unset, .unset, .unset, .unset, .unset, .unset, .unset, .unset, .unset] [(.int (0 : Int32)), (.ref (A 0))])) _
    refine own_ldI X11 hx hZ e11 (own_B_v0 B0) (i := 0) (rfl) (by omega) (g := (mkF m 5 #[.val (.ref a), .unset, .unset, .unset, .unset, .unset, .unset, .unset, .unset, .unset, .unset, .unset, .unset, .unset, .unset, .unset, .unset, .unset, .unset] [(.int (0 : Int32)), (.ref (A 0))])) rfl rfl (hb hby d10_5) _ ?_
    show Steps p.tables e below (T11.setTop (mkF m 6 #[.val (.ref a), .unset, .unset, .unset, .unset, .unset, .unset, .unset, .unset, .unset, .unset, .unset, .unset, .unset, .unset, .unset, .unset, .unset, .unset] [(.int (f 0))])) _
    refine XS.i2l X11.here hx rfl (hb hby d10_6) rfl ?_
    show Steps p.tables e below (T11.setTop (mkF m 7 #[.val (.ref a), .unset, .unset, .unset, .unset, .unset, .unset, .unset, .unset, .unset, .unset, .unset, .unset, .unset, .unset, .unset, .unset, .unset, .unset] [(.long ((f 0).toInt64))])) _
    refine XS.lstoreN X11.here hx rfl (hb hby d10_7) rfl (l' := #[.val (.ref a), .val (.long ((f 0).toInt64)), .second, .unset, .unset, .unset, .unset, .unset, .unset, .unset, .unset, .unset, .unset, .unset, .unset, .unset, .unset, .unset, .unset]) rfl ?_
    show Steps p.tables e below (T11.setTop (mkF m 8 #[.val (.ref a), .val (.long (own_c f 0)), .second, .unset, .unset, .unset, .unset, .unset, .unset, .unset, .unset, .unset, .unset, .unset, .unset, .unset, .unset, .unset, .unset] [])) _
    refine XS.aloadN X11.here hx rfl (hb hby d10_8) rfl rfl ?_
    show Steps p.tables e below (T11.setTop (mkF m 9 #[.val (.ref a), .val (.long (own_c f 0)), .second, .unset, .unset, .unset, .unset, .unset, .unset, .unset, .unset, .unset, .unset, .unset, .unset, .unset, .unset, .unset, .unset] [(.ref a)])) _
    refine st12 _ ?_
    show Steps p.tables e below (T12.setTop (mkF m 12 #[.val (.ref a), .val (.long (own_c f 0)), .second, .unset, .unset, .unset, .unset, .unset, .unset, .unset, .unset, .unset, .unset, .unset, .unset, .unset, .unset, .unset, .unset] [(.ref (A 0))])) _
    refine XS.iconst X12.here hx rfl (hb hby d10_12) ?_
    show Steps p.tables e below (T12.setTop (mkF m 13 #[.val (.ref a), .val (.long (own_c f 0)), .second, .unset, .unset, .unset, .unset, .unset, .unset, .unset, .unset, .unset, .unset, .unset, .unset, .unset, .unset, .unset, .unset] [(.int (1 : Int32)), (.ref (A 0))])) _
    refine own_ldI X12 hx hZ e12 (own_B_v0 B0) (i := 1) (rfl) (by omega) (g := (mkF m 13 #[.val (.ref a), .val (.long (own_c f 0)), .second, .unset, .unset, .unset, .unset, .unset, .unset, .unset, .unset, .unset, .unset, .unset, .unset, .unset, .unset, .unset, .unset] [(.int (1 : Int32)), (.ref (A 0))])) rfl rfl (hb hby d10_13) _ ?_
    show Steps p.tables e below (T12.setTop (mkF m 14 #[.val (.ref a), .val (.long (own_c f 0)), .second, .unset, .unset, .unset, .unset, .unset, .unset, .unset, .unset, .unset, .unset, .unset, .unset, .unset, .unset, .unset, .unset] [(.int (f 1))])) _
    refine XS.i2l X12.here hx rfl (hb hby d10_14) rfl ?_
    show Steps p.tables e below (T12.setTop (mkF m 15 #[.val (.ref a), .val (.long (own_c f 0)), .second, .unset, .unset, .unset, .unset, .unset, .unset, .unset, .unset, .unset, .unset, .unset, .unset, .unset, .unset, .unset, .unset] [(.long ((f 1).toInt64))])) _
    refine XS.lstoreN X12.here hx rfl (hb hby d10_15) rfl (l' := #[.val (.ref a), .val (.long (own_c f 0)), .second, .val (.long ((f 1).toInt64)), .second, .unset, .unset, .unset, .unset, .unset, .unset, .unset, .unset, .unset, .unset, .unset, .unset, .unset, .unset]) rfl ?_
    show Steps p.tables e below (T12.setTop (mkF m 16 #[.val (.ref a), .val (.long (own_c f 0)), .second, .val (.long (own_c f 1)), .second, .unset, .unset, .unset, .unset, .unset, .unset, .unset, .unset, .unset, .unset, .unset, .unset, .unset, .unset] [])) _
    refine XS.aloadN X12.here hx rfl (hb hby d10_16) rfl rfl ?_
    show Steps p.tables e below (T12.setTop (mkF m 17 #[.val (.ref a), .val (.long (own_c f 0)), .second, .val (.long (own_c f 1)), .second, .unset, .unset, .unset, .unset, .unset, .unset, .unset, .unset, .unset, .unset, .unset, .unset, .unset, .unset] [(.ref a)])) _
    refine st13 _ ?_
    show Steps p.tables e below (T13.setTop (mkF m 20 #[.val (.ref a), .val (.long (own_c f 0)), .second, .val (.long (own_c f 1)), .second, .unset, .unset, .unset, .unset, .unset, .unset, .unset, .unset, .unset, .unset, .unset, .unset, .unset, .unset] [(.ref (A 0))])) _
    refine XS.iconst X13.here hx rfl (hb hby d10_20) ?_
    show Steps p.tables e below (T13.setTop (mkF m 21 #[.val (.ref a), .val (.long (own_c f 0)), .second, .val (.long (own_c f 1)), .second, .unset, .unset, .unset, .unset, .unset, .unset, .unset, .unset, .unset, .unset, .unset, .unset, .unset, .unset] [(.int (2 : Int32)), (.ref (A 0))])) _
    refine own_ldI X13 hx hZ e13 (own_B_v0 B0) (i := 2) (rfl) (by omega) (g := (mkF m 21 #[.val (.ref a), .val (.long (own_c f 0)), .second, .val (.long (own_c f 1)), .second, .unset, .unset, .unset, .unset, .unset, .unset, .unset, .unset, .unset, .unset, .unset, .unset, .unset, .unset] [(.int (2 : Int32)), (.ref (A 0))])) rfl rfl (hb hby d10_21) _ ?_
    show Steps p.tables e below (T13.setTop (mkF m 22 #[.val (.ref a), .val (.long (own_c f 0)), .second, .val (.long (own_c f 1)), .second, .unset, .unset, .unset, .unset, .unset, .unset, .unset, .unset, .unset, .unset, .unset, .unset, .unset, .unset] [(.int (f 2))])) _
    refine XS.i2l X13.here hx rfl (hb hby d10_22) rfl ?_
    show Steps p.tables e below (T13.setTop (mkF m 23 #[.val (.ref a), .val (.long (own_c f 0)), .second, .val (.long (own_c f 1)), .second, .unset, .unset, .unset, .unset, .unset, .unset, .unset, .unset, .unset, .unset, .unset, .unset, .unset, .unset] [(.long ((f 2).toInt64))])) _
    refine XS.lstore X13.here hx rfl (hb hby d10_23) rfl (l' := #[.val (.ref a), .val (.long (own_c f 0)), .second, .val (.long (own_c f 1)), .second, .val (.long ((f 2).toInt64)), .second, .unset, .unset, .unset, .unset, .unset, .unset, .unset, .unset, .unset, .unset, .unset, .unset]) rfl ?_
    show Steps p.tables e below (T13.setTop (mkF m 25 #[.val (.ref a), .val (.long (own_c f 0)), .second, .val (.long (own_c f 1)), .second, .val (.long (own_c f 2)), .second, .unset, .unset, .unset, .unset, .unset, .unset, .unset, .unset, .unset, .unset, .unset, .unset] [])) _
    refine XS.aloadN X13.here hx rfl (hb hby d10_25) rfl rfl ?_
    show Steps p.tables e below (T13.setTop (mkF m 26 #[.val (.ref a), .val (.long (own_c f 0)), .second, .val (.long (own_c f 1)), .second, .val (.long (own_c f 2)), .second, .unset, .unset, .unset, .unset, .unset, .unset, .unset, .unset, .unset, .unset, .unset, .unset] [(.ref a)])) _
    refine st14 _ ?_
    show Steps p.tables e below (T14.setTop (mkF m 29 #[.val (.ref a), .val (.long (own_c f 0)), .second, .val (.long (own_c f 1)), .second, .val (.long (own_c f 2)), .second, .unset, .unset, .unset, .unset, .unset, .unset, .unset, .unset, .unset, .unset, .unset, .unset] [(.ref (A 0))])) _
    refine XS.iconst X14.here hx rfl (hb hby d10_29) ?_
    show Steps p.tables e below (T14.setTop (mkF m 30 #[.val (.ref a), .val (.long (own_c f 0)), .second, .val (.long (own_c f 1)), .second, .val (.long (own_c f 2)), .second, .unset, .unset, .unset, .unset, .unset, .unset, .unset, .unset, .unset, .unset, .unset, .unset] [(.int (3 : Int32)), (.ref (A 0))])) _
    refine own_ldI X14 hx hZ e14 (own_B_v0 B0) (i := 3) (rfl) (by omega) (g := (mkF m 30 #[.val (.ref a), .val (.long (own_c f 0)), .second, .val (.long (own_c f 1)), .second, .val (.long (own_c f 2)), .second, .unset, .unset, .unset, .unset, .unset, .unset, .unset, .unset, .unset, .unset, .unset, .unset] [(.int (3 : Int32)), (.ref (A 0))])) rfl rfl (hb hby d10_30) _ ?_
    show Steps p.tables e below (T14.setTop (mkF m 31 #[.val (.ref a), .val (.long (own_c f 0)), .second, .val (.long (own_c f 1)), .second, .val (.long (own_c f 2)), .second, .unset, .unset, .unset, .unset, .unset, .unset, .unset, .unset, .unset, .unset, .unset, .unset] [(.int (f 3))])) _
    refine XS.i2l X14.here hx rfl (hb hby d10_31) rfl ?_
    show Steps p.tables e below (T14.setTop (mkF m 32 #[.val (.ref a), .val (.long (own_c f 0)), .second, .val (.long (own_c f 1)), .second, .val (.long (own_c f 2)), .second, .unset, .unset, .unset, .unset, .unset, .unset, .unset, .unset, .unset, .unset, .unset, .unset] [(.long ((f 3).toInt64))])) _
    refine XS.lstore X14.here hx rfl (hb hby d10_32) rfl (l' := #[.val (.ref a), .val (.long (own_c f 0)), .second, .val (.long (own_c f 1)), .second, .val (.long (own_c f 2)), .second, .val (.long ((f 3).toInt64)), .second, .unset, .unset, .unset, .unset, .unset, .unset, .unset, .unset, .unset, .unset]) rfl ?_
    show Steps p.tables e below (T14.setTop (mkF m 34 #[.val (.ref a), .val (.long (own_c f 0)), .second, .val (.long (own_c f 1)), .second, .val (.long (own_c f 2)), .second, .val (.long (own_c f 3)), .second, .unset, .unset, .unset, .unset, .unset, .unset, .unset, .unset, .unset, .unset] [])) _
    refine XS.aloadN X14.here hx rfl (hb hby d10_34) rfl rfl ?_
    show Steps p.tables e below (T14.setTop (mkF m 35 #[.val (.ref a), .val (.long (own_c f 0)), .second, .val (.long (own_c f 1)), .second, .val (.long (own_c f 2)), .second, .val (.long (own_c f 3)), .second, .unset, .unset, .unset, .unset, .unset, .unset, .unset, .unset, .unset, .unset] [(.ref a)])) _
    refine st15 _ ?_
    show Steps p.tables e below (T15.setTop (mkF m 38 #[.val (.ref a), .val (.long (own_c f 0)), .second, .val (.long (own_c f 1)), .second, .val (.long (own_c f 2)), .second, .val (.long (own_c f 3)), .second, .unset, .unset, .unset, .unset, .unset, .unset, .unset, .unset, .unset, .unset] [(.ref (A 0))])) _
    refine XS.iconst X15.here hx rfl (hb hby d10_38) ?_
    show Steps p.tables e below (T15.setTop (mkF m 39 #[.val (.ref a), .val (.long (own_c f 0)), .second, .val (.long (own_c f 1)), .second, .val (.long (own_c f 2)), .second, .val (.long (own_c f 3)), .second, .unset, .unset, .unset, .unset, .unset, .unset, .unset, .unset, .unset, .unset] [(.int (4 : Int32)), (.ref (A 0))])) _
    refine own_ldI X15 hx hZ e15 (own_B_v0 B0) (i := 4) (rfl) (by omega) (g := (mkF m 39 #[.val (.ref a), .val (.long (own_c f 0)), .second, .val (.long (own_c f 1)), .second, .val (.long (own_c f 2)), .second, .val (.long (own_c f 3)), .second, .unset, .unset, .unset, .unset, .unset, .unset, .unset, .unset, .unset, .unset] [(.int (4 : Int32)), (.ref (A 0))])) rfl rfl (hb hby d10_39) _ ?_
    show Steps p.tables e below (T15.setTop (mkF m 40 #[.val (.ref a), .val (.long (own_c f 0)), .second, .val (.long (own_c f 1)), .second, .val (.long (own_c f 2)), .second, .val (.long (own_c f 3)), .second, .unset, .unset, .unset, .unset, .unset, .unset, .unset, .unset, .unset, .unset] [(.int (f 4))])) _
    refine XS.i2l X15.here hx rfl (hb hby d10_40) rfl ?_
    show Steps p.tables e below (T15.setTop (mkF m 41 #[.val (.ref a), .val (.long (own_c f 0)), .second, .val (.long (own_c f 1)), .second, .val (.long (own_c f 2)), .second, .val (.long (own_c f 3)), .second, .unset, .unset, .unset, .unset, .unset, .unset, .unset, .unset, .unset, .unset] [(.long ((f 4).toInt64))])) _
    refine XS.lstore X15.here hx rfl (hb hby d10_41) rfl (l' := #[.val (.ref a), .val (.long (own_c f 0)), .second, .val (.long (own_c f 1)), .second, .val (.long (own_c f 2)), .second, .val (.long (own_c f 3)), .second, .val (.long ((f 4).toInt64)), .second, .unset, .unset, .unset, .unset, .unset, .unset, .unset, .unset]) rfl ?_
    show Steps p.tables e below (T15.setTop (mkF m 43 #[.val (.ref a), .val (.long (own_c f 0)), .second, .val (.long (own_c f 1)), .second, .val (.long (own_c f 2)), .second, .val (.long (own_c f 3)), .second, .val (.long (own_c f 4)), .second, .unset, .unset, .unset, .unset, .unset, .unset, .unset, .unset] [])) _
    refine XS.aloadN X15.here hx rfl (hb hby d10_43) rfl rfl ?_
    show Steps p.tables e below (T15.setTop (mkF m 44 #[.val (.ref a), .val (.long (own_c f 0)), .second, .val (.long (own_c f 1)), .second, .val (.long (own_c f 2)), .second, .val (.long (own_c f 3)), .second, .val (.long (own_c f 4)), .second, .unset, .unset, .unset, .unset, .unset, .unset, .unset, .unset] [(.ref a)])) _
    refine st16 _ ?_
    show Steps p.tables e below (T16.setTop (mkF m 47 #[.val (.ref a), .val (.long (own_c f 0)), .second, .val (.long (own_c f 1)), .second, .val (.long (own_c f 2)), .second, .val (.long (own_c f 3)), .second, .val (.long (own_c f 4)), .second, .unset, .unset, .unset, .unset, .unset, .unset, .unset, .unset] [(.ref (A 0))])) _
    refine XS.iconst X16.here hx rfl (hb hby d10_47) ?_
    show Steps p.tables e below (T16.setTop (mkF m 48 #[.val (.ref a), .val (.long (own_c f 0)), .second, .val (.long (own_c f 1)), .second, .val (.long (own_c f 2)), .second, .val (.long (own_c f 3)), .second, .val (.long (own_c f 4)), .second, .unset, .unset, .unset, .unset, .unset, .unset, .unset, .unset] [(.int (5 : Int32)), (.ref (A 0))])) _
    refine own_ldI X16 hx hZ e16 (own_B_v0 B0) (i := 5) (rfl) (by omega) (g := (mkF m 48 #[.val (.ref a), .val (.long (own_c f 0)), .second, .val (.long (own_c f 1)), .second, .val (.long (own_c f 2)), .second, .val (.long (own_c f 3)), .second, .val (.long (own_c f 4)), .second, .unset, .unset, .unset, .unset, .unset, .unset, .unset, .unset] [(.int (5 : Int32)), (.ref (A 0))])) rfl rfl (hb hby d10_48) _ ?_
    show Steps p.tables e below (T16.setTop (mkF m 49 #[.val (.ref a), .val (.long (own_c f 0)), .second, .val (.long (own_c f 1)), .second, .val (.long (own_c f 2)), .second, .val (.long (own_c f 3)), .second, .val (.long (own_c f 4)), .second, .unset, .unset, .unset, .unset, .unset, .unset, .unset, .unset] [(.int (f 5))])) _
    refine XS.i2l X16.here hx rfl (hb hby d10_49) rfl ?_
    show Steps p.tables e below (T16.setTop (mkF m 50 #[.val (.ref a), .val (.long (own_c f 0)), .second, .val (.long (own_c f 1)), .second, .val (.long (own_c f 2)), .second, .val (.long (own_c f 3)), .second, .val (.long (own_c f 4)), .second, .unset, .unset, .unset, .unset, .unset, .unset, .unset, .unset] [(.long ((f 5).toInt64))])) _
    refine XS.lstore X16.here hx rfl (hb hby d10_50) rfl (l' := #[.val (.ref a), .val (.long (own_c f 0)), .second, .val (.long (own_c f 1)), .second, .val (.long (own_c f 2)), .second, .val (.long (own_c f 3)), .second, .val (.long (own_c f 4)), .second, .val (.long ((f 5).toInt64)), .second, .unset, .unset, .unset, .unset, .unset, .unset]) rfl ?_
    show Steps p.tables e below (T16.setTop (mkF m 52 #[.val (.ref a), .val (.long (own_c f 0)), .second, .val (.long (own_c f 1)), .second, .val (.long (own_c f 2)), .second, .val (.long (own_c f 3)), .second, .val (.long (own_c f 4)), .second, .val (.long (own_c f 5)), .second, .unset, .unset, .unset, .unset, .unset, .unset] [])) _
    refine XS.aloadN X16.here hx rfl (hb hby d10_52) rfl rfl ?_
    show Steps p.tables e below (T16.setTop (mkF m 53 #[.val (.ref a), .val (.long (own_c f 0)), .second, .val (.long (own_c f 1)), .second, .val (.long (own_c f 2)), .second, .val (.long (own_c f 3)), .second, .val (.long (own_c f 4)), .second, .val (.long (own_c f 5)), .second, .unset, .unset, .unset, .unset, .unset, .unset] [(.ref a)])) _
    refine st17 _ ?_
    show Steps p.tables e below (T17.setTop (mkF m 56 #[.val (.ref a), .val (.long (own_c f 0)), .second, .val (.long (own_c f 1)), .second, .val (.long (own_c f 2)), .second, .val (.long (own_c f 3)), .second, .val (.long (own_c f 4)), .second, .val (.long (own_c f 5)), .second, .unset, .unset, .unset, .unset, .unset, .unset] [(.ref (A 0))])) _
    refine XS.bipush X17.here hx rfl (hb hby d10_56) ?_
    show Steps p.tables e below (T17.setTop (mkF m 58 #[.val (.ref a), .val (.long (own_c f 0)), .second, .val (.long (own_c f 1)), .second, .val (.long (own_c f 2)), .second, .val (.long (own_c f 3)), .second, .val (.long (own_c f 4)), .second, .val (.long (own_c f 5)), .second, .unset, .unset, .unset, .unset, .unset, .unset] [(.int (6 : Int32)), (.ref (A 0))])) _
    refine own_ldI X17 hx hZ e17 (own_B_v0 B0) (i := 6) (rfl) (by omega) (g := (mkF m 58 #[.val (.ref a), .val (.long (own_c f 0)), .second, .val (.long (own_c f 1)), .second, .val (.long (own_c f 2)), .second, .val (.long (own_c f 3)), .second, .val (.long (own_c f 4)), .second, .val (.long (own_c f 5)), .second, .unset, .unset, .unset, .unset, .unset, .unset] [(.int (6 : Int32)), (.ref (A 0))])) rfl rfl (hb hby d10_58) _ ?_
    show Steps p.tables e below (T17.setTop (mkF m 59 #[.val (.ref a), .val (.long (own_c f 0)), .second, .val (.long (own_c f 1)), .second, .val (.long (own_c f 2)), .second, .val (.long (own_c f 3)), .second, .val (.long (own_c f 4)), .second, .val (.long (own_c f 5)), .second, .unset, .unset, .unset, .unset, .unset, .unset] [(.int (f 6))])) _
    refine XS.i2l X17.here hx rfl (hb hby d10_59) rfl ?_
    show Steps p.tables e below (T17.setTop (mkF m 60 #[.val (.ref a), .val (.long (own_c f 0)), .second, .val (.long (own_c f 1)), .second, .val (.long (own_c f 2)), .second, .val (.long (own_c f 3)), .second, .val (.long (own_c f 4)), .second, .val (.long (own_c f 5)), .second, .unset, .unset, .unset, .unset, .unset, .unset] [(.long ((f 6).toInt64))])) _
    refine XS.lstore X17.here hx rfl (hb hby d10_60) rfl (l' := #[.val (.ref a), .val (.long (own_c f 0)), .second, .val (.long (own_c f 1)), .second, .val (.long (own_c f 2)), .second, .val (.long (own_c f 3)), .second, .val (.long (own_c f 4)), .second, .val (.long (own_c f 5)), .second, .val (.long ((f 6).toInt64)), .second, .unset, .unset, .unset, .unset]) rfl ?_
    show Steps p.tables e below (T17.setTop (mkF m 62 #[.val (.ref a), .val (.long (own_c f 0)), .second, .val (.long (own_c f 1)), .second, .val (.long (own_c f 2)), .second, .val (.long (own_c f 3)), .second, .val (.long (own_c f 4)), .second, .val (.long (own_c f 5)), .second, .val (.long (own_c f 6)), .second, .unset, .unset, .unset, .unset] [])) _
    refine XS.aloadN X17.here hx rfl (hb hby d10_62) rfl rfl ?_
    show Steps p.tables e below (T17.setTop (mkF m 63 #[.val (.ref a), .val (.long (own_c f 0)), .second, .val (.long (own_c f 1)), .second, .val (.long (own_c f 2)), .second, .val (.long (own_c f 3)), .second, .val (.long (own_c f 4)), .second, .val (.long (own_c f 5)), .second, .val (.long (own_c f 6)), .second, .unset, .unset, .unset, .unset] [(.ref a)])) _
    refine st18 _ ?_
    show Steps p.tables e below (T18.setTop (mkF m 66 #[.val (.ref a), .val (.long (own_c f 0)), .second, .val (.long (own_c f 1)), .second, .val (.long (own_c f 2)), .second, .val (.long (own_c f 3)), .second, .val (.long (own_c f 4)), .second, .val (.long (own_c f 5)), .second, .val (.long (own_c f 6)), .second, .unset, .unset, .unset, .unset] [(.ref (A 0))])) _
    refine XS.bipush X18.here hx rfl (hb hby d10_66) ?_
    show Steps p.tables e below (T18.setTop (mkF m 68 #[.val (.ref a), .val (.long (own_c f 0)), .second, .val (.long (own_c f 1)), .second, .val (.long (own_c f 2)), .second, .val (.long (own_c f 3)), .second, .val (.long (own_c f 4)), .second, .val (.long (own_c f 5)), .second, .val (.long (own_c f 6)), .second, .unset, .unset, .unset, .unset] [(.int (7 : Int32)), (.ref (A 0))])) _
    refine own_ldI X18 hx hZ e18 (own_B_v0 B0) (i := 7) (rfl) (by omega) (g := (mkF m 68 #[.val (.ref a), .val (.long (own_c f 0)), .second, .val (.long (own_c f 1)), .second, .val (.long (own_c f 2)), .second, .val (.long (own_c f 3)), .second, .val (.long (own_c f 4)), .second, .val (.long (own_c f 5)), .second, .val (.long (own_c f 6)), .second, .unset, .unset, .unset, .unset] [(.int (7 : Int32)), (.ref (A 0))])) rfl rfl (hb hby d10_68) _ ?_
    show Steps p.tables e below (T18.setTop (mkF m 69 #[.val (.ref a), .val (.long (own_c f 0)), .second, .val (.long (own_c f 1)), .second, .val (.long (own_c f 2)), .second, .val (.long (own_c f 3)), .second, .val (.long (own_c f 4)), .second, .val (.long (own_c f 5)), .second, .val (.long (own_c f 6)), .second, .unset, .unset, .unset, .unset] [(.int (f 7))])) _
    refine XS.i2l X18.here hx rfl (hb hby d10_69) rfl ?_
    show Steps p.tables e below (T18.setTop (mkF m 70 #[.val (.ref a), .val (.long (own_c f 0)), .second, .val (.long (own_c f 1)), .second, .val (.long (own_c f 2)), .second, .val (.long (own_c f 3)), .second, .val (.long (own_c f 4)), .second, .val (.long (own_c f 5)), .second, .val (.long (own_c f 6)), .second, .unset, .unset, .unset, .unset] [(.long ((f 7).toInt64))])) _
    refine XS.lstore X18.here hx rfl (hb hby d10_70) rfl (l' := #[.val (.ref a), .val (.long (own_c f 0)), .second, .val (.long (own_c f 1)), .second, .val (.long (own_c f 2)), .second, .val (.long (own_c f 3)), .second, .val (.long (own_c f 4)), .second, .val (.long (own_c f 5)), .second, .val (.long (own_c f 6)), .second, .val (.long ((f 7).toInt64)), .second, .unset, .unset]) rfl ?_
    show Steps p.tables e below (T18.setTop (mkF m 72 #[.val (.ref a), .val (.long (own_c f 0)), .second, .val (.long (own_c f 1)), .second, .val (.long (own_c f 2)), .second, .val (.long (own_c f 3)), .second, .val (.long (own_c f 4)), .second, .val (.long (own_c f 5)), .second, .val (.long (own_c f 6)), .second, .val (.long (own_c f 7)), .second, .unset, .unset] [])) _
    refine XS.aloadN X18.here hx rfl (hb hby d10_72) rfl rfl ?_
    show Steps p.tables e below (T18.setTop (mkF m 73 #[.val (.ref a), .val (.long (own_c f 0)), .second, .val (.long (own_c f 1)), .second, .val (.long (own_c f 2)), .second, .val (.long (own_c f 3)), .second, .val (.long (own_c f 4)), .second, .val (.long (own_c f 5)), .second, .val (.long (own_c f 6)), .second, .val (.long (own_c f 7)), .second, .unset, .unset] [(.ref a)])) _
    refine st19 _ ?_
    show Steps p.tables e below (T19.setTop (mkF m 76 #[.val (.ref a), .val (.long (own_c f 0)), .second, .val (.long (own_c f 1)), .second, .val (.long (own_c f 2)), .second, .val (.long (own_c f 3)), .second, .val (.long (own_c f 4)), .second, .val (.long (own_c f 5)), .second, .val (.long (own_c f 6)), .second, .val (.long (own_c f 7)), .second, .unset, .unset] [(.ref (A 0))])) _
    refine XS.bipush X19.here hx rfl (hb hby d10_76) ?_
    show Steps p.tables e below (T19.setTop (mkF m 78 #[.val (.ref a), .val (.long (own_c f 0)), .second, .val (.long (own_c f 1)), .second, .val (.long (own_c f 2)), .second, .val (.long (own_c f 3)), .second, .val (.long (own_c f 4)), .second, .val (.long (own_c f 5)), .second, .val (.long (own_c f 6)), .second, .val (.long (own_c f 7)), .second, .unset, .unset] [(.int (8 : Int32)), (.ref (A 0))])) _
    refine own_ldI X19 hx hZ e19 (own_B_v0 B0) (i := 8) (rfl) (by omega) (g := (mkF m 78 #[.val (.ref a), .val (.long (own_c f 0)), .second, .val (.long (own_c f 1)), .second, .val (.long (own_c f 2)), .second, .val (.long (own_c f 3)), .second, .val (.long (own_c f 4)), .second, .val (.long (own_c f 5)), .second, .val (.long (own_c f 6)), .second, .val (.long (own_c f 7)), .second, .unset, .unset] [(.int (8 : Int32)), (.ref (A 0))])) rfl rfl (hb hby d10_78) _ ?_
    show Steps p.tables e below (T19.setTop (mkF m 79 #[.val (.ref a), .val (.long (own_c f 0)), .second, .val (.long (own_c f 1)), .second, .val (.long (own_c f 2)), .second, .val (.long (own_c f 3)), .second, .val (.long (own_c f 4)), .second, .val (.long (own_c f 5)), .second, .val (.long (own_c f 6)), .second, .val (.long (own_c f 7)), .second, .unset, .unset] [(.int (f 8))])) _
    refine XS.i2l X19.here hx rfl (hb hby d10_79) rfl ?_
    show Steps p.tables e below (T19.setTop (mkF m 80 #[.val (.ref a), .val (.long (own_c f 0)), .second, .val (.long (own_c f 1)), .second, .val (.long (own_c f 2)), .second, .val (.long (own_c f 3)), .second, .val (.long (own_c f 4)), .second, .val (.long (own_c f 5)), .second, .val (.long (own_c f 6)), .second, .val (.long (own_c f 7)), .second, .unset, .unset] [(.long ((f 8).toInt64))])) _
    refine XS.lstore X19.here hx rfl (hb hby d10_80) rfl (l' := #[.val (.ref a), .val (.long (own_c f 0)), .second, .val (.long (own_c f 1)), .second, .val (.long (own_c f 2)), .second, .val (.long (own_c f 3)), .second, .val (.long (own_c f 4)), .second, .val (.long (own_c f 5)), .second, .val (.long (own_c f 6)), .second, .val (.long (own_c f 7)), .second, .val (.long ((f 8).toInt64)), .second]) rfl ?_
    show Steps p.tables e below (T19.setTop (mkF m 82 #[.val (.ref a), .val (.long (own_c f 0)), .second, .val (.long (own_c f 1)), .second, .val (.long (own_c f 2)), .second, .val (.long (own_c f 3)), .second, .val (.long (own_c f 4)), .second, .val (.long (own_c f 5)), .second, .val (.long (own_c f 6)), .second, .val (.long (own_c f 7)), .second, .val (.long (own_c f 8)), .second] [])) _
    refine XS.lloadN X19.here hx rfl (hb hby d10_82) rfl ?_
    show Steps p.tables e below (T19.setTop (mkF m 83 #[.val (.ref a), .val (.long (own_c f 0)), .second, .val (.long (own_c f 1)), .second, .val (.long (own_c f 2)), .second, .val (.long (own_c f 3)), .second, .val (.long (own_c f 4)), .second, .val (.long (own_c f 5)), .second, .val (.long (own_c f 6)), .second, .val (.long (own_c f 7)), .second, .val (.long (own_c f 8)), .second] [(.long (own_c f 0))])) _
    refine st20 _ ?_
    show Steps p.tables e below (T20.setTop (mkF m 86 #[.val (.ref a), .val (.long (own_c f 0)), .second, .val (.long (own_c f 1)), .second, .val (.long (own_c f 2)), .second, .val (.long (own_c f 3)), .second, .val (.long (own_c f 4)), .second, .val (.long (own_c f 5)), .second, .val (.long (own_c f 6)), .second, .val (.long (own_c f 7)), .second, .val (.long (own_c f 8)), .second] [(.long (own_pairs (own_c f 0)))])) _
    refine XS.lload X20.here hx rfl (hb hby d10_86) rfl ?_
    show Steps p.tables e below (T20.setTop (mkF m 88 #[.val (.ref a), .val (.long (own_c f 0)), .second, .val (.long (own_c f 1)), .second, .val (.long (own_c f 2)), .second, .val (.long (own_c f 3)), .second, .val (.long (own_c f 4)), .second, .val (.long (own_c f 5)), .second, .val (.long (own_c f 6)), .second, .val (.long (own_c f 7)), .second, .val (.long (own_c f 8)), .second] [(.long (own_c f 4)), (.long (own_pairs (own_c f 0)))])) _
    refine XS.lload X20.here hx rfl (hb hby d10_88) rfl ?_
    show Steps p.tables e below (T20.setTop (mkF m 90 #[.val (.ref a), .val (.long (own_c f 0)), .second, .val (.long (own_c f 1)), .second, .val (.long (own_c f 2)), .second, .val (.long (own_c f 3)), .second, .val (.long (own_c f 4)), .second, .val (.long (own_c f 5)), .second, .val (.long (own_c f 6)), .second, .val (.long (own_c f 7)), .second, .val (.long (own_c f 8)), .second] [(.long (own_c f 8)), (.long (own_c f 4)), (.long (own_pairs (own_c f 0)))])) _
    refine XS.lmul X20.here hx rfl (hb hby d10_90) rfl ?_
    show Steps p.tables e below (T20.setTop (mkF m 91 #[.val (.ref a), .val (.long (own_c f 0)), .second, .val (.long (own_c f 1)), .second, .val (.long (own_c f 2)), .second, .val (.long (own_c f 3)), .second, .val (.long (own_c f 4)), .second, .val (.long (own_c f 5)), .second, .val (.long (own_c f 6)), .second, .val (.long (own_c f 7)), .second, .val (.long (own_c f 8)), .second] [(.long ((own_c f 4) * (own_c f 8))), (.long (own_pairs (own_c f 0)))])) _
    refine XS.lload X20.here hx rfl (hb hby d10_91) rfl ?_
    show Steps p.tables e below (T20.setTop (mkF m 93 #[.val (.ref a), .val (.long (own_c f 0)), .second, .val (.long (own_c f 1)), .second, .val (.long (own_c f 2)), .second, .val (.long (own_c f 3)), .second, .val (.long (own_c f 4)), .second, .val (.long (own_c f 5)), .second, .val (.long (own_c f 6)), .second, .val (.long (own_c f 7)), .second, .val (.long (own_c f 8)), .second] [(.long (own_c f 5)), (.long ((own_c f 4) * (own_c f 8))), (.long (own_pairs (own_c f 0)))])) _
    refine XS.lload X20.here hx rfl (hb hby d10_93) rfl ?_
    show Steps p.tables e below (T20.setTop (mkF m 95 #[.val (.ref a), .val (.long (own_c f 0)), .second, .val (.long (own_c f 1)), .second, .val (.long (own_c f 2)), .second, .val (.long (own_c f 3)), .second, .val (.long (own_c f 4)), .second, .val (.long (own_c f 5)), .second, .val (.long (own_c f 6)), .second, .val (.long (own_c f 7)), .second, .val (.long (own_c f 8)), .second] [(.long (own_c f 7)), (.long (own_c f 5)), (.long ((own_c f 4) * (own_c f 8))), (.long (own_pairs (own_c f 0)))])) _
    refine XS.lmul X20.here hx rfl (hb hby d10_95) rfl ?_
    show Steps p.tables e below (T20.setTop (mkF m 96 #[.val (.ref a), .val (.long (own_c f 0)), .second, .val (.long (own_c f 1)), .second, .val (.long (own_c f 2)), .second, .val (.long (own_c f 3)), .second, .val (.long (own_c f 4)), .second, .val (.long (own_c f 5)), .second, .val (.long (own_c f 6)), .second, .val (.long (own_c f 7)), .second, .val (.long (own_c f 8)), .second] [(.long ((own_c f 5) * (own_c f 7))), (.long ((own_c f 4) * (own_c f 8))), (.long (own_pairs (own_c f 0)))])) _
    refine XS.ladd X20.here hx rfl (hb hby d10_96) rfl ?_
    show Steps p.tables e below (T20.setTop (mkF m 97 #[.val (.ref a), .val (.long (own_c f 0)), .second, .val (.long (own_c f 1)), .second, .val (.long (own_c f 2)), .second, .val (.long (own_c f 3)), .second, .val (.long (own_c f 4)), .second, .val (.long (own_c f 5)), .second, .val (.long (own_c f 6)), .second, .val (.long (own_c f 7)), .second, .val (.long (own_c f 8)), .second] [(.long (((own_c f 4) * (own_c f 8)) + ((own_c f 5) * (own_c f 7)))), (.long (own_pairs (own_c f 0)))])) _
    refine XS.lmul X20.here hx rfl (hb hby d10_97) rfl ?_
    show Steps p.tables e below (T20.setTop (mkF m 98 #[.val (.ref a), .val (.long (own_c f 0)), .second, .val (.long (own_c f 1)), .second, .val (.long (own_c f 2)), .second, .val (.long (own_c f 3)), .second, .val (.long (own_c f 4)), .second, .val (.long (own_c f 5)), .second, .val (.long (own_c f 6)), .second, .val (.long (own_c f 7)), .second, .val (.long (own_c f 8)), .second] [(.long ((own_pairs (own_c f 0)) * (((own_c f 4) * (own_c f 8)) + ((own_c f 5) * (own_c f 7)))))])) _
    refine XS.lloadN X20.here hx rfl (hb hby d10_98) rfl ?_
    show Steps p.tables e below (T20.setTop (mkF m 99 #[.val (.ref a), .val (.long (own_c f 0)), .second, .val (.long (own_c f 1)), .second, .val (.long (own_c f 2)), .second, .val (.long (own_c f 3)), .second, .val (.long (own_c f 4)), .second, .val (.long (own_c f 5)), .second, .val (.long (own_c f 6)), .second, .val (.long (own_c f 7)), .second, .val (.long (own_c f 8)), .second] [(.long (own_c f 1)), (.long (own_acc0 f))])) _
    refine st21 _ ?_
    show Steps p.tables e below (T21.setTop (mkF m 102 #[.val (.ref a), .val (.long (own_c f 0)), .second, .val (.long (own_c f 1)), .second, .val (.long (own_c f 2)), .second, .val (.long (own_c f 3)), .second, .val (.long (own_c f 4)), .second, .val (.long (own_c f 5)), .second, .val (.long (own_c f 6)), .second, .val (.long (own_c f 7)), .second, .val (.long (own_c f 8)), .second] [(.long (own_pairs (own_c f 1))), (.long (own_acc0 f))])) _
    refine XS.lload X21.here hx rfl (hb hby d10_102) rfl ?_
    show Steps p.tables e below (T21.setTop (mkF m 104 #[.val (.ref a), .val (.long (own_c f 0)), .second, .val (.long (own_c f 1)), .second, .val (.long (own_c f 2)), .second, .val (.long (own_c f 3)), .second, .val (.long (own_c f 4)), .second, .val (.long (own_c f 5)), .second, .val (.long (own_c f 6)), .second, .val (.long (own_c f 7)), .second, .val (.long (own_c f 8)), .second] [(.long (own_c f 3)), (.long (own_pairs (own_c f 1))), (.long (own_acc0 f))])) _
    refine XS.lload X21.here hx rfl (hb hby d10_104) rfl ?_
    show Steps p.tables e below (T21.setTop (mkF m 106 #[.val (.ref a), .val (.long (own_c f 0)), .second, .val (.long (own_c f 1)), .second, .val (.long (own_c f 2)), .second, .val (.long (own_c f 3)), .second, .val (.long (own_c f 4)), .second, .val (.long (own_c f 5)), .second, .val (.long (own_c f 6)), .second, .val (.long (own_c f 7)), .second, .val (.long (own_c f 8)), .second] [(.long (own_c f 8)), (.long (own_c f 3)), (.long (own_pairs (own_c f 1))), (.long (own_acc0 f))])) _
    refine XS.lmul X21.here hx rfl (hb hby d10_106) rfl ?_
    show Steps p.tables e below (T21.setTop (mkF m 107 #[.val (.ref a), .val (.long (own_c f 0)), .second, .val (.long (own_c f 1)), .second, .val (.long (own_c f 2)), .second, .val (.long (own_c f 3)), .second, .val (.long (own_c f 4)), .second, .val (.long (own_c f 5)), .second, .val (.long (own_c f 6)), .second, .val (.long (own_c f 7)), .second, .val (.long (own_c f 8)), .second] [(.long ((own_c f 3) * (own_c f 8))), (.long (own_pairs (own_c f 1))), (.long (own_acc0 f))])) _
    refine XS.lload X21.here hx rfl (hb hby d10_107) rfl ?_
    show Steps p.tables e below (T21.setTop (mkF m 109 #[.val (.ref a), .val (.long (own_c f 0)), .second, .val (.long (own_c f 1)), .second, .val (.long (own_c f 2)), .second, .val (.long (own_c f 3)), .second, .val (.long (own_c f 4)), .second, .val (.long (own_c f 5)), .second, .val (.long (own_c f 6)), .second, .val (.long (own_c f 7)), .second, .val (.long (own_c f 8)), .second] [(.long (own_c f 5)), (.long ((own_c f 3) * (own_c f 8))), (.long (own_pairs (own_c f 1))), (.long (own_acc0 f))])) _
    refine XS.lload X21.here hx rfl (hb hby d10_109) rfl ?_
    show Steps p.tables e below (T21.setTop (mkF m 111 #[.val (.ref a), .val (.long (own_c f 0)), .second, .val (.long (own_c f 1)), .second, .val (.long (own_c f 2)), .second, .val (.long (own_c f 3)), .second, .val (.long (own_c f 4)), .second, .val (.long (own_c f 5)), .second, .val (.long (own_c f 6)), .second, .val (.long (own_c f 7)), .second, .val (.long (own_c f 8)), .second] [(.long (own_c f 6)), (.long (own_c f 5)), (.long ((own_c f 3) * (own_c f 8))), (.long (own_pairs (own_c f 1))), (.long (own_acc0 f))])) _
    refine XS.lmul X21.here hx rfl (hb hby d10_111) rfl ?_
    show Steps p.tables e below (T21.setTop (mkF m 112 #[.val (.ref a), .val (.long (own_c f 0)), .second, .val (.long (own_c f 1)), .second, .val (.long (own_c f 2)), .second, .val (.long (own_c f 3)), .second, .val (.long (own_c f 4)), .second, .val (.long (own_c f 5)), .second, .val (.long (own_c f 6)), .second, .val (.long (own_c f 7)), .second, .val (.long (own_c f 8)), .second] [(.long ((own_c f 5) * (own_c f 6))), (.long ((own_c f 3) * (own_c f 8))), (.long (own_pairs (own_c f 1))), (.long (own_acc0 f))])) _
    refine XS.ladd X21.here hx rfl (hb hby d10_112) rfl ?_
    show Steps p.tables e below (T21.setTop (mkF m 113 #[.val (.ref a), .val (.long (own_c f 0)), .second, .val (.long (own_c f 1)), .second, .val (.long (own_c f 2)), .second, .val (.long (own_c f 3)), .second, .val (.long (own_c f 4)), .second, .val (.long (own_c f 5)), .second, .val (.long (own_c f 6)), .second, .val (.long (own_c f 7)), .second, .val (.long (own_c f 8)), .second] [(.long (((own_c f 3) * (own_c f 8)) + ((own_c f 5) * (own_c f 6)))), (.long (own_pairs (own_c f 1))), (.long (own_acc0 f))])) _
    refine XS.lmul X21.here hx rfl (hb hby d10_113) rfl ?_
    show Steps p.tables e below (T21.setTop (mkF m 114 #[.val (.ref a), .val (.long (own_c f 0)), .second, .val (.long (own_c f 1)), .second, .val (.long (own_c f 2)), .second, .val (.long (own_c f 3)), .second, .val (.long (own_c f 4)), .second, .val (.long (own_c f 5)), .second, .val (.long (own_c f 6)), .second, .val (.long (own_c f 7)), .second, .val (.long (own_c f 8)), .second] [(.long ((own_pairs (own_c f 1)) * (((own_c f 3) * (own_c f 8)) + ((own_c f 5) * (own_c f 6))))), (.long (own_acc0 f))])) _
    refine XS.ladd X21.here hx rfl (hb hby d10_114) rfl ?_
    show Steps p.tables e below (T21.setTop (mkF m 115 #[.val (.ref a), .val (.long (own_c f 0)), .second, .val (.long (own_c f 1)), .second, .val (.long (own_c f 2)), .second, .val (.long (own_c f 3)), .second, .val (.long (own_c f 4)), .second, .val (.long (own_c f 5)), .second, .val (.long (own_c f 6)), .second, .val (.long (own_c f 7)), .second, .val (.long (own_c f 8)), .second] [(.long ((own_acc0 f) + ((own_pairs (own_c f 1)) * (((own_c f 3) * (own_c f 8)) + ((own_c f 5) * (own_c f 6))))))])) _
    refine XS.lload X21.here hx rfl (hb hby d10_115) rfl ?_
    show Steps p.tables e below (T21.setTop (mkF m 117 #[.val (.ref a), .val (.long (own_c f 0)), .second, .val (.long (own_c f 1)), .second, .val (.long (own_c f 2)), .second, .val (.long (own_c f 3)), .second, .val (.long (own_c f 4)), .second, .val (.long (own_c f 5)), .second, .val (.long (own_c f 6)), .second, .val (.long (own_c f 7)), .second, .val (.long (own_c f 8)), .second] [(.long (own_c f 2)), (.long (own_acc1 f))])) _
    refine st22 _ ?_
    show Steps p.tables e below (T22.setTop (mkF m 120 #[.val (.ref a), .val (.long (own_c f 0)), .second, .val (.long (own_c f 1)), .second, .val (.long (own_c f 2)), .second, .val (.long (own_c f 3)), .second, .val (.long (own_c f 4)), .second, .val (.long (own_c f 5)), .second, .val (.long (own_c f 6)), .second, .val (.long (own_c f 7)), .second, .val (.long (own_c f 8)), .second] [(.long (own_pairs (own_c f 2))), (.long (own_acc1 f))])) _
    refine XS.lload X22.here hx rfl (hb hby d10_120) rfl ?_
    show Steps p.tables e below (T22.setTop (mkF m 122 #[.val (.ref a), .val (.long (own_c f 0)), .second, .val (.long (own_c f 1)), .second, .val (.long (own_c f 2)), .second, .val (.long (own_c f 3)), .second, .val (.long (own_c f 4)), .second, .val (.long (own_c f 5)), .second, .val (.long (own_c f 6)), .second, .val (.long (own_c f 7)), .second, .val (.long (own_c f 8)), .second] [(.long (own_c f 3)), (.long (own_pairs (own_c f 2))), (.long (own_acc1 f))])) _
    refine XS.lload X22.here hx rfl (hb hby d10_122) rfl ?_
    show Steps p.tables e below (T22.setTop (mkF m 124 #[.val (.ref a), .val (.long (own_c f 0)), .second, .val (.long (own_c f 1)), .second, .val (.long (own_c f 2)), .second, .val (.long (own_c f 3)), .second, .val (.long (own_c f 4)), .second, .val (.long (own_c f 5)), .second, .val (.long (own_c f 6)), .second, .val (.long (own_c f 7)), .second, .val (.long (own_c f 8)), .second] [(.long (own_c f 7)), (.long (own_c f 3)), (.long (own_pairs (own_c f 2))), (.long (own_acc1 f))])) _
    refine XS.lmul X22.here hx rfl (hb hby d10_124) rfl ?_
    show Steps p.tables e below (T22.setTop (mkF m 125 #[.val (.ref a), .val (.long (own_c f 0)), .second, .val (.long (own_c f 1)), .second, .val (.long (own_c f 2)), .second, .val (.long (own_c f 3)), .second, .val (.long (own_c f 4)), .second, .val (.long (own_c f 5)), .second, .val (.long (own_c f 6)), .second, .val (.long (own_c f 7)), .second, .val (.long (own_c f 8)), .second] [(.long ((own_c f 3) * (own_c f 7))), (.long (own_pairs (own_c f 2))), (.long (own_acc1 f))])) _
    refine XS.lload X22.here hx rfl (hb hby d10_125) rfl ?_
    show Steps p.tables e below (T22.setTop (mkF m 127 #[.val (.ref a), .val (.long (own_c f 0)), .second, .val (.long (own_c f 1)), .second, .val (.long (own_c f 2)), .second, .val (.long (own_c f 3)), .second, .val (.long (own_c f 4)), .second, .val (.long (own_c f 5)), .second, .val (.long (own_c f 6)), .second, .val (.long (own_c f 7)), .second, .val (.long (own_c f 8)), .second] [(.long (own_c f 4)), (.long ((own_c f 3) * (own_c f 7))), (.long (own_pairs (own_c f 2))), (.long (own_acc1 f))])) _
    refine XS.lload X22.here hx rfl (hb hby d10_127) rfl ?_
    show Steps p.tables e below (T22.setTop (mkF m 129 #[.val (.ref a), .val (.long (own_c f 0)), .second, .val (.long (own_c f 1)), .second, .val (.long (own_c f 2)), .second, .val (.long (own_c f 3)), .second, .val (.long (own_c f 4)), .second, .val (.long (own_c f 5)), .second, .val (.long (own_c f 6)), .second, .val (.long (own_c f 7)), .second, .val (.long (own_c f 8)), .second] [(.long (own_c f 6)), (.long (own_c f 4)), (.long ((own_c f 3) * (own_c f 7))), (.long (own_pairs (own_c f 2))), (.long (own_acc1 f))])) _
    refine XS.lmul X22.here hx rfl (hb hby d10_129) rfl ?_
    show Steps p.tables e below (T22.setTop (mkF m 130 #[.val (.ref a), .val (.long (own_c f 0)), .second, .val (.long (own_c f 1)), .second, .val (.long (own_c f 2)), .second, .val (.long (own_c f 3)), .second, .val (.long (own_c f 4)), .second, .val (.long (own_c f 5)), .second, .val (.long (own_c f 6)), .second, .val (.long (own_c f 7)), .second, .val (.long (own_c f 8)), .second] [(.long ((own_c f 4) * (own_c f 6))), (.long ((own_c f 3) * (own_c f 7))), (.long (own_pairs (own_c f 2))), (.long (own_acc1 f))])) _
    refine XS.ladd X22.here hx rfl (hb hby d10_130) rfl ?_
    show Steps p.tables e below (T22.setTop (mkF m 131 #[.val (.ref a), .val (.long (own_c f 0)), .second, .val (.long (own_c f 1)), .second, .val (.long (own_c f 2)), .second, .val (.long (own_c f 3)), .second, .val (.long (own_c f 4)), .second, .val (.long (own_c f 5)), .second, .val (.long (own_c f 6)), .second, .val (.long (own_c f 7)), .second, .val (.long (own_c f 8)), .second] [(.long (((own_c f 3) * (own_c f 7)) + ((own_c f 4) * (own_c f 6)))), (.long (own_pairs (own_c f 2))), (.long (own_acc1 f))])) _
    refine XS.lmul X22.here hx rfl (hb hby d10_131) rfl ?_
    show Steps p.tables e below (T22.setTop (mkF m 132 #[.val (.ref a), .val (.long (own_c f 0)), .second, .val (.long (own_c f 1)), .second, .val (.long (own_c f 2)), .second, .val (.long (own_c f 3)), .second, .val (.long (own_c f 4)), .second, .val (.long (own_c f 5)), .second, .val (.long (own_c f 6)), .second, .val (.long (own_c f 7)), .second, .val (.long (own_c f 8)), .second] [(.long ((own_pairs (own_c f 2)) * (((own_c f 3) * (own_c f 7)) + ((own_c f 4) * (own_c f 6))))), (.long (own_acc1 f))])) _
    refine XS.ladd X22.here hx rfl (hb hby d10_132) rfl ?_
    show Steps p.tables e below (T22.setTop (mkF m 133 #[.val (.ref a), .val (.long (own_c f 0)), .second, .val (.long (own_c f 1)), .second, .val (.long (own_c f 2)), .second, .val (.long (own_c f 3)), .second, .val (.long (own_c f 4)), .second, .val (.long (own_c f 5)), .second, .val (.long (own_c f 6)), .second, .val (.long (own_c f 7)), .second, .val (.long (own_c f 8)), .second] [(.long ((own_acc1 f) + ((own_pairs (own_c f 2)) * (((own_c f 3) * (own_c f 7)) + ((own_c f 4) * (own_c f 6))))))])) _
    refine XS.lload X22.here hx rfl (hb hby d10_133) rfl ?_
    show Steps p.tables e below (T22.setTop (mkF m 135 #[.val (.ref a), .val (.long (own_c f 0)), .second, .val (.long (own_c f 1)), .second, .val (.long (own_c f 2)), .second, .val (.long (own_c f 3)), .second, .val (.long (own_c f 4)), .second, .val (.long (own_c f 5)), .second, .val (.long (own_c f 6)), .second, .val (.long (own_c f 7)), .second, .val (.long (own_c f 8)), .second] [(.long (own_c f 3)), (.long (own_acc2 f))])) _
    refine st23 _ ?_
    show Steps p.tables e below (T23.setTop (mkF m 138 #[.val (.ref a), .val (.long (own_c f 0)), .second, .val (.long (own_c f 1)), .second, .val (.long (own_c f 2)), .second, .val (.long (own_c f 3)), .second, .val (.long (own_c f 4)), .second, .val (.long (own_c f 5)), .second, .val (.long (own_c f 6)), .second, .val (.long (own_c f 7)), .second, .val (.long (own_c f 8)), .second] [(.long (own_pairs (own_c f 3))), (.long (own_acc2 f))])) _
    refine XS.lloadN X23.here hx rfl (hb hby d10_138) rfl ?_
    show Steps p.tables e below (T23.setTop (mkF m 139 #[.val (.ref a), .val (.long (own_c f 0)), .second, .val (.long (own_c f 1)), .second, .val (.long (own_c f 2)), .second, .val (.long (own_c f 3)), .second, .val (.long (own_c f 4)), .second, .val (.long (own_c f 5)), .second, .val (.long (own_c f 6)), .second, .val (.long (own_c f 7)), .second, .val (.long (own_c f 8)), .second] [(.long (own_c f 1)), (.long (own_pairs (own_c f 3))), (.long (own_acc2 f))])) _
    refine XS.lload X23.here hx rfl (hb hby d10_139) rfl ?_
    show Steps p.tables e below (T23.setTop (mkF m 141 #[.val (.ref a), .val (.long (own_c f 0)), .second, .val (.long (own_c f 1)), .second, .val (.long (own_c f 2)), .second, .val (.long (own_c f 3)), .second, .val (.long (own_c f 4)), .second, .val (.long (own_c f 5)), .second, .val (.long (own_c f 6)), .second, .val (.long (own_c f 7)), .second, .val (.long (own_c f 8)), .second] [(.long (own_c f 8)), (.long (own_c f 1)), (.long (own_pairs (own_c f 3))), (.long (own_acc2 f))])) _
    refine XS.lmul X23.here hx rfl (hb hby d10_141) rfl ?_
    show Steps p.tables e below (T23.setTop (mkF m 142 #[.val (.ref a), .val (.long (own_c f 0)), .second, .val (.long (own_c f 1)), .second, .val (.long (own_c f 2)), .second, .val (.long (own_c f 3)), .second, .val (.long (own_c f 4)), .second, .val (.long (own_c f 5)), .second, .val (.long (own_c f 6)), .second, .val (.long (own_c f 7)), .second, .val (.long (own_c f 8)), .second] [(.long ((own_c f 1) * (own_c f 8))), (.long (own_pairs (own_c f 3))), (.long (own_acc2 f))])) _
    refine XS.lload X23.here hx rfl (hb hby d10_142) rfl ?_
    show Steps p.tables e below (T23.setTop (mkF m 144 #[.val (.ref a), .val (.long (own_c f 0)), .second, .val (.long (own_c f 1)), .second, .val (.long (own_c f 2)), .second, .val (.long (own_c f 3)), .second, .val (.long (own_c f 4)), .second, .val (.long (own_c f 5)), .second, .val (.long (own_c f 6)), .second, .val (.long (own_c f 7)), .second, .val (.long (own_c f 8)), .second] [(.long (own_c f 2)), (.long ((own_c f 1) * (own_c f 8))), (.long (own_pairs (own_c f 3))), (.long (own_acc2 f))])) _
    refine XS.lload X23.here hx rfl (hb hby d10_144) rfl ?_
    show Steps p.tables e below (T23.setTop (mkF m 146 #[.val (.ref a), .val (.long (own_c f 0)), .second, .val (.long (own_c f 1)), .second, .val (.long (own_c f 2)), .second, .val (.long (own_c f 3)), .second, .val (.long (own_c f 4)), .second, .val (.long (own_c f 5)), .second, .val (.long (own_c f 6)), .second, .val (.long (own_c f 7)), .second, .val (.long (own_c f 8)), .second] [(.long (own_c f 7)), (.long (own_c f 2)), (.long ((own_c f 1) * (own_c f 8))), (.long (own_pairs (own_c f 3))), (.long (own_acc2 f))])) _
    refine XS.lmul X23.here hx rfl (hb hby d10_146) rfl ?_
    show Steps p.tables e below (T23.setTop (mkF m 147 #[.val (.ref a), .val (.long (own_c f 0)), .second, .val (.long (own_c f 1)), .second, .val (.long (own_c f 2)), .second, .val (.long (own_c f 3)), .second, .val (.long (own_c f 4)), .second, .val (.long (own_c f 5)), .second, .val (.long (own_c f 6)), .second, .val (.long (own_c f 7)), .second, .val (.long (own_c f 8)), .second] [(.long ((own_c f 2) * (own_c f 7))), (.long ((own_c f 1) * (own_c f 8))), (.long (own_pairs (own_c f 3))), (.long (own_acc2 f))])) _
    refine XS.ladd X23.here hx rfl (hb hby d10_147) rfl ?_
    show Steps p.tables e below (T23.setTop (mkF m 148 #[.val (.ref a), .val (.long (own_c f 0)), .second, .val (.long (own_c f 1)), .second, .val (.long (own_c f 2)), .second, .val (.long (own_c f 3)), .second, .val (.long (own_c f 4)), .second, .val (.long (own_c f 5)), .second, .val (.long (own_c f 6)), .second, .val (.long (own_c f 7)), .second, .val (.long (own_c f 8)), .second] [(.long (((own_c f 1) * (own_c f 8)) + ((own_c f 2) * (own_c f 7)))), (.long (own_pairs (own_c f 3))), (.long (own_acc2 f))])) _
    refine XS.lmul X23.here hx rfl (hb hby d10_148) rfl ?_
    show Steps p.tables e below (T23.setTop (mkF m 149 #[.val (.ref a), .val (.long (own_c f 0)), .second, .val (.long (own_c f 1)), .second, .val (.long (own_c f 2)), .second, .val (.long (own_c f 3)), .second, .val (.long (own_c f 4)), .second, .val (.long (own_c f 5)), .second, .val (.long (own_c f 6)), .second, .val (.long (own_c f 7)), .second, .val (.long (own_c f 8)), .second] [(.long ((own_pairs (own_c f 3)) * (((own_c f 1) * (own_c f 8)) + ((own_c f 2) * (own_c f 7))))), (.long (own_acc2 f))])) _
    refine XS.ladd X23.here hx rfl (hb hby d10_149) rfl ?_
    show Steps p.tables e below (T23.setTop (mkF m 150 #[.val (.ref a), .val (.long (own_c f 0)), .second, .val (.long (own_c f 1)), .second, .val (.long (own_c f 2)), .second, .val (.long (own_c f 3)), .second, .val (.long (own_c f 4)), .second, .val (.long (own_c f 5)), .second, .val (.long (own_c f 6)), .second, .val (.long (own_c f 7)), .second, .val (.long (own_c f 8)), .second] [(.long ((own_acc2 f) + ((own_pairs (own_c f 3)) * (((own_c f 1) * (own_c f 8)) + ((own_c f 2) * (own_c f 7))))))])) _
    refine XS.lload X23.here hx rfl (hb hby d10_150) rfl ?_
    show Steps p.tables e below (T23.setTop (mkF m 152 #[.val (.ref a), .val (.long (own_c f 0)), .second, .val (.long (own_c f 1)), .second, .val (.long (own_c f 2)), .second, .val (.long (own_c f 3)), .second, .val (.long (own_c f 4)), .second, .val (.long (own_c f 5)), .second, .val (.long (own_c f 6)), .second, .val (.long (own_c f 7)), .second, .val (.long (own_c f 8)), .second] [(.long (own_c f 4)), (.long (own_acc3 f))])) _
    refine st24 _ ?_
    show Steps p.tables e below (T24.setTop (mkF m 155 #[.val (.ref a), .val (.long (own_c f 0)), .second, .val (.long (own_c f 1)), .second, .val (.long (own_c f 2)), .second, .val (.long (own_c f 3)), .second, .val (.long (own_c f 4)), .second, .val (.long (own_c f 5)), .second, .val (.long (own_c f 6)), .second, .val (.long (own_c f 7)), .second, .val (.long (own_c f 8)), .second] [(.long (own_pairs (own_c f 4))), (.long (own_acc3 f))])) _
    refine XS.lloadN X24.here hx rfl (hb hby d10_155) rfl ?_
    show Steps p.tables e below (T24.setTop (mkF m 156 #[.val (.ref a), .val (.long (own_c f 0)), .second, .val (.long (own_c f 1)), .second, .val (.long (own_c f 2)), .second, .val (.long (own_c f 3)), .second, .val (.long (own_c f 4)), .second, .val (.long (own_c f 5)), .second, .val (.long (own_c f 6)), .second, .val (.long (own_c f 7)), .second, .val (.long (own_c f 8)), .second] [(.long (own_c f 0)), (.long (own_pairs (own_c f 4))), (.long (own_acc3 f))])) _
    refine XS.lload X24.here hx rfl (hb hby d10_156) rfl ?_
    show Steps p.tables e below (T24.setTop (mkF m 158 #[.val (.ref a), .val (.long (own_c f 0)), .second, .val (.long (own_c f 1)), .second, .val (.long (own_c f 2)), .second, .val (.long (own_c f 3)), .second, .val (.long (own_c f 4)), .second, .val (.long (own_c f 5)), .second, .val (.long (own_c f 6)), .second, .val (.long (own_c f 7)), .second, .val (.long (own_c f 8)), .second] [(.long (own_c f 8)), (.long (own_c f 0)), (.long (own_pairs (own_c f 4))), (.long (own_acc3 f))])) _
    refine XS.lmul X24.here hx rfl (hb hby d10_158) rfl ?_
    show Steps p.tables e below (T24.setTop (mkF m 159 #[.val (.ref a), .val (.long (own_c f 0)), .second, .val (.long (own_c f 1)), .second, .val (.long (own_c f 2)), .second, .val (.long (own_c f 3)), .second, .val (.long (own_c f 4)), .second, .val (.long (own_c f 5)), .second, .val (.long (own_c f 6)), .second, .val (.long (own_c f 7)), .second, .val (.long (own_c f 8)), .second] [(.long ((own_c f 0) * (own_c f 8))), (.long (own_pairs (own_c f 4))), (.long (own_acc3 f))])) _
    refine XS.lload X24.here hx rfl (hb hby d10_159) rfl ?_
    show Steps p.tables e below (T24.setTop (mkF m 161 #[.val (.ref a), .val (.long (own_c f 0)), .second, .val (.long (own_c f 1)), .second, .val (.long (own_c f 2)), .second, .val (.long (own_c f 3)), .second, .val (.long (own_c f 4)), .second, .val (.long (own_c f 5)), .second, .val (.long (own_c f 6)), .second, .val (.long (own_c f 7)), .second, .val (.long (own_c f 8)), .second] [(.long (own_c f 2)), (.long ((own_c f 0) * (own_c f 8))), (.long (own_pairs (own_c f 4))), (.long (own_acc3 f))])) _
    refine XS.lload X24.here hx rfl (hb hby d10_161) rfl ?_
    show Steps p.tables e below (T24.setTop (mkF m 163 #[.val (.ref a), .val (.long (own_c f 0)), .second, .val (.long (own_c f 1)), .second, .val (.long (own_c f 2)), .second, .val (.long (own_c f 3)), .second, .val (.long (own_c f 4)), .second, .val (.long (own_c f 5)), .second, .val (.long (own_c f 6)), .second, .val (.long (own_c f 7)), .second, .val (.long (own_c f 8)), .second] [(.long (own_c f 6)), (.long (own_c f 2)), (.long ((own_c f 0) * (own_c f 8))), (.long (own_pairs (own_c f 4))), (.long (own_acc3 f))])) _
    refine XS.lmul X24.here hx rfl (hb hby d10_163) rfl ?_
    show Steps p.tables e below (T24.setTop (mkF m 164 #[.val (.ref a), .val (.long (own_c f 0)), .second, .val (.long (own_c f 1)), .second, .val (.long (own_c f 2)), .second, .val (.long (own_c f 3)), .second, .val (.long (own_c f 4)), .second, .val (.long (own_c f 5)), .second, .val (.long (own_c f 6)), .second, .val (.long (own_c f 7)), .second, .val (.long (own_c f 8)), .second] [(.long ((own_c f 2) * (own_c f 6))), (.long ((own_c f 0) * (own_c f 8))), (.long (own_pairs (own_c f 4))), (.long (own_acc3 f))])) _
    refine XS.ladd X24.here hx rfl (hb hby d10_164) rfl ?_
    show Steps p.tables e below (T24.setTop (mkF m 165 #[.val (.ref a), .val (.long (own_c f 0)), .second, .val (.long (own_c f 1)), .second, .val (.long (own_c f 2)), .second, .val (.long (own_c f 3)), .second, .val (.long (own_c f 4)), .second, .val (.long (own_c f 5)), .second, .val (.long (own_c f 6)), .second, .val (.long (own_c f 7)), .second, .val (.long (own_c f 8)), .second] [(.long (((own_c f 0) * (own_c f 8)) + ((own_c f 2) * (own_c f 6)))), (.long (own_pairs (own_c f 4))), (.long (own_acc3 f))])) _
    refine XS.lmul X24.here hx rfl (hb hby d10_165) rfl ?_
    show Steps p.tables e below (T24.setTop (mkF m 166 #[.val (.ref a), .val (.long (own_c f 0)), .second, .val (.long (own_c f 1)), .second, .val (.long (own_c f 2)), .second, .val (.long (own_c f 3)), .second, .val (.long (own_c f 4)), .second, .val (.long (own_c f 5)), .second, .val (.long (own_c f 6)), .second, .val (.long (own_c f 7)), .second, .val (.long (own_c f 8)), .second] [(.long ((own_pairs (own_c f 4)) * (((own_c f 0) * (own_c f 8)) + ((own_c f 2) * (own_c f 6))))), (.long (own_acc3 f))])) _
    refine XS.ladd X24.here hx rfl (hb hby d10_166) rfl ?_
    show Steps p.tables e below (T24.setTop (mkF m 167 #[.val (.ref a), .val (.long (own_c f 0)), .second, .val (.long (own_c f 1)), .second, .val (.long (own_c f 2)), .second, .val (.long (own_c f 3)), .second, .val (.long (own_c f 4)), .second, .val (.long (own_c f 5)), .second, .val (.long (own_c f 6)), .second, .val (.long (own_c f 7)), .second, .val (.long (own_c f 8)), .second] [(.long ((own_acc3 f) + ((own_pairs (own_c f 4)) * (((own_c f 0) * (own_c f 8)) + ((own_c f 2) * (own_c f 6))))))])) _
    refine XS.lload X24.here hx rfl (hb hby d10_167) rfl ?_
    show Steps p.tables e below (T24.setTop (mkF m 169 #[.val (.ref a), .val (.long (own_c f 0)), .second, .val (.long (own_c f 1)), .second, .val (.long (own_c f 2)), .second, .val (.long (own_c f 3)), .second, .val (.long (own_c f 4)), .second, .val (.long (own_c f 5)), .second, .val (.long (own_c f 6)), .second, .val (.long (own_c f 7)), .second, .val (.long (own_c f 8)), .second] [(.long (own_c f 5)), (.long (own_acc4 f))])) _
    refine st25 _ ?_
    show Steps p.tables e below (T25.setTop (mkF m 172 #[.val (.ref a), .val (.long (own_c f 0)), .second, .val (.long (own_c f 1)), .second, .val (.long (own_c f 2)), .second, .val (.long (own_c f 3)), .second, .val (.long (own_c f 4)), .second, .val (.long (own_c f 5)), .second, .val (.long (own_c f 6)), .second, .val (.long (own_c f 7)), .second, .val (.long (own_c f 8)), .second] [(.long (own_pairs (own_c f 5))), (.long (own_acc4 f))])) _
    refine XS.lloadN X25.here hx rfl (hb hby d10_172) rfl ?_
    show Steps p.tables e below (T25.setTop (mkF m 173 #[.val (.ref a), .val (.long (own_c f 0)), .second, .val (.long (own_c f 1)), .second, .val (.long (own_c f 2)), .second, .val (.long (own_c f 3)), .second, .val (.long (own_c f 4)), .second, .val (.long (own_c f 5)), .second, .val (.long (own_c f 6)), .second, .val (.long (own_c f 7)), .second, .val (.long (own_c f 8)), .second] [(.long (own_c f 0)), (.long (own_pairs (own_c f 5))), (.long (own_acc4 f))])) _
    refine XS.lload X25.here hx rfl (hb hby d10_173) rfl ?_
    show Steps p.tables e below (T25.setTop (mkF m 175 #[.val (.ref a), .val (.long (own_c f 0)), .second, .val (.long (own_c f 1)), .second, .val (.long (own_c f 2)), .second, .val (.long (own_c f 3)), .second, .val (.long (own_c f 4)), .second, .val (.long (own_c f 5)), .second, .val (.long (own_c f 6)), .second, .val (.long (own_c f 7)), .second, .val (.long (own_c f 8)), .second] [(.long (own_c f 7)), (.long (own_c f 0)), (.long (own_pairs (own_c f 5))), (.long (own_acc4 f))])) _
    refine XS.lmul X25.here hx rfl (hb hby d10_175) rfl ?_
    show Steps p.tables e below (T25.setTop (mkF m 176 #[.val (.ref a), .val (.long (own_c f 0)), .second, .val (.long (own_c f 1)), .second, .val (.long (own_c f 2)), .second, .val (.long (own_c f 3)), .second, .val (.long (own_c f 4)), .second, .val (.long (own_c f 5)), .second, .val (.long (own_c f 6)), .second, .val (.long (own_c f 7)), .second, .val (.long (own_c f 8)), .second] [(.long ((own_c f 0) * (own_c f 7))), (.long (own_pairs (own_c f 5))), (.long (own_acc4 f))])) _
    refine XS.lloadN X25.here hx rfl (hb hby d10_176) rfl ?_
    show Steps p.tables e below (T25.setTop (mkF m 177 #[.val (.ref a), .val (.long (own_c f 0)), .second, .val (.long (own_c f 1)), .second, .val (.long (own_c f 2)), .second, .val (.long (own_c f 3)), .second, .val (.long (own_c f 4)), .second, .val (.long (own_c f 5)), .second, .val (.long (own_c f 6)), .second, .val (.long (own_c f 7)), .second, .val (.long (own_c f 8)), .second] [(.long (own_c f 1)), (.long ((own_c f 0) * (own_c f 7))), (.long (own_pairs (own_c f 5))), (.long (own_acc4 f))])) _
    refine XS.lload X25.here hx rfl (hb hby d10_177) rfl ?_
    show Steps p.tables e below (T25.setTop (mkF m 179 #[.val (.ref a), .val (.long (own_c f 0)), .second, .val (.long (own_c f 1)), .second, .val (.long (own_c f 2)), .second, .val (.long (own_c f 3)), .second, .val (.long (own_c f 4)), .second, .val (.long (own_c f 5)), .second, .val (.long (own_c f 6)), .second, .val (.long (own_c f 7)), .second, .val (.long (own_c f 8)), .second] [(.long (own_c f 6)), (.long (own_c f 1)), (.long ((own_c f 0) * (own_c f 7))), (.long (own_pairs (own_c f 5))), (.long (own_acc4 f))])) _
    refine XS.lmul X25.here hx rfl (hb hby d10_179) rfl ?_
    show Steps p.tables e below (T25.setTop (mkF m 180 #[.val (.ref a), .val (.long (own_c f 0)), .second, .val (.long (own_c f 1)), .second, .val (.long (own_c f 2)), .second, .val (.long (own_c f 3)), .second, .val (.long (own_c f 4)), .second, .val (.long (own_c f 5)), .second, .val (.long (own_c f 6)), .second, .val (.long (own_c f 7)), .second, .val (.long (own_c f 8)), .second] [(.long ((own_c f 1) * (own_c f 6))), (.long ((own_c f 0) * (own_c f 7))), (.long (own_pairs (own_c f 5))), (.long (own_acc4 f))])) _
    refine XS.ladd X25.here hx rfl (hb hby d10_180) rfl ?_
    show Steps p.tables e below (T25.setTop (mkF m 181 #[.val (.ref a), .val (.long (own_c f 0)), .second, .val (.long (own_c f 1)), .second, .val (.long (own_c f 2)), .second, .val (.long (own_c f 3)), .second, .val (.long (own_c f 4)), .second, .val (.long (own_c f 5)), .second, .val (.long (own_c f 6)), .second, .val (.long (own_c f 7)), .second, .val (.long (own_c f 8)), .second] [(.long (((own_c f 0) * (own_c f 7)) + ((own_c f 1) * (own_c f 6)))), (.long (own_pairs (own_c f 5))), (.long (own_acc4 f))])) _
    refine XS.lmul X25.here hx rfl (hb hby d10_181) rfl ?_
    show Steps p.tables e below (T25.setTop (mkF m 182 #[.val (.ref a), .val (.long (own_c f 0)), .second, .val (.long (own_c f 1)), .second, .val (.long (own_c f 2)), .second, .val (.long (own_c f 3)), .second, .val (.long (own_c f 4)), .second, .val (.long (own_c f 5)), .second, .val (.long (own_c f 6)), .second, .val (.long (own_c f 7)), .second, .val (.long (own_c f 8)), .second] [(.long ((own_pairs (own_c f 5)) * (((own_c f 0) * (own_c f 7)) + ((own_c f 1) * (own_c f 6))))), (.long (own_acc4 f))])) _
    refine XS.ladd X25.here hx rfl (hb hby d10_182) rfl ?_
    show Steps p.tables e below (T25.setTop (mkF m 183 #[.val (.ref a), .val (.long (own_c f 0)), .second, .val (.long (own_c f 1)), .second, .val (.long (own_c f 2)), .second, .val (.long (own_c f 3)), .second, .val (.long (own_c f 4)), .second, .val (.long (own_c f 5)), .second, .val (.long (own_c f 6)), .second, .val (.long (own_c f 7)), .second, .val (.long (own_c f 8)), .second] [(.long ((own_acc4 f) + ((own_pairs (own_c f 5)) * (((own_c f 0) * (own_c f 7)) + ((own_c f 1) * (own_c f 6))))))])) _
    refine XS.lload X25.here hx rfl (hb hby d10_183) rfl ?_
    show Steps p.tables e below (T25.setTop (mkF m 185 #[.val (.ref a), .val (.long (own_c f 0)), .second, .val (.long (own_c f 1)), .second, .val (.long (own_c f 2)), .second, .val (.long (own_c f 3)), .second, .val (.long (own_c f 4)), .second, .val (.long (own_c f 5)), .second, .val (.long (own_c f 6)), .second, .val (.long (own_c f 7)), .second, .val (.long (own_c f 8)), .second] [(.long (own_c f 6)), (.long (own_acc5 f))])) _
    refine st26 _ ?_
    show Steps p.tables e below (T26.setTop (mkF m 188 #[.val (.ref a), .val (.long (own_c f 0)), .second, .val (.long (own_c f 1)), .second, .val (.long (own_c f 2)), .second, .val (.long (own_c f 3)), .second, .val (.long (own_c f 4)), .second, .val (.long (own_c f 5)), .second, .val (.long (own_c f 6)), .second, .val (.long (own_c f 7)), .second, .val (.long (own_c f 8)), .second] [(.long (own_pairs (own_c f 6))), (.long (own_acc5 f))])) _
    refine XS.lloadN X26.here hx rfl (hb hby d10_188) rfl ?_
    show Steps p.tables e below (T26.setTop (mkF m 189 #[.val (.ref a), .val (.long (own_c f 0)), .second, .val (.long (own_c f 1)), .second, .val (.long (own_c f 2)), .second, .val (.long (own_c f 3)), .second, .val (.long (own_c f 4)), .second, .val (.long (own_c f 5)), .second, .val (.long (own_c f 6)), .second, .val (.long (own_c f 7)), .second, .val (.long (own_c f 8)), .second] [(.long (own_c f 1)), (.long (own_pairs (own_c f 6))), (.long (own_acc5 f))])) _
    refine XS.lload X26.here hx rfl (hb hby d10_189) rfl ?_
    show Steps p.tables e below (T26.setTop (mkF m 191 #[.val (.ref a), .val (.long (own_c f 0)), .second, .val (.long (own_c f 1)), .second, .val (.long (own_c f 2)), .second, .val (.long (own_c f 3)), .second, .val (.long (own_c f 4)), .second, .val (.long (own_c f 5)), .second, .val (.long (own_c f 6)), .second, .val (.long (own_c f 7)), .second, .val (.long (own_c f 8)), .second] [(.long (own_c f 5)), (.long (own_c f 1)), (.long (own_pairs (own_c f 6))), (.long (own_acc5 f))])) _
    refine XS.lmul X26.here hx rfl (hb hby d10_191) rfl ?_
    show Steps p.tables e below (T26.setTop (mkF m 192 #[.val (.ref a), .val (.long (own_c f 0)), .second, .val (.long (own_c f 1)), .second, .val (.long (own_c f 2)), .second, .val (.long (own_c f 3)), .second, .val (.long (own_c f 4)), .second, .val (.long (own_c f 5)), .second, .val (.long (own_c f 6)), .second, .val (.long (own_c f 7)), .second, .val (.long (own_c f 8)), .second] [(.long ((own_c f 1) * (own_c f 5))), (.long (own_pairs (own_c f 6))), (.long (own_acc5 f))])) _
    refine XS.lload X26.here hx rfl (hb hby d10_192) rfl ?_
    show Steps p.tables e below (T26.setTop (mkF m 194 #[.val (.ref a), .val (.long (own_c f 0)), .second, .val (.long (own_c f 1)), .second, .val (.long (own_c f 2)), .second, .val (.long (own_c f 3)), .second, .val (.long (own_c f 4)), .second, .val (.long (own_c f 5)), .second, .val (.long (own_c f 6)), .second, .val (.long (own_c f 7)), .second, .val (.long (own_c f 8)), .second] [(.long (own_c f 2)), (.long ((own_c f 1) * (own_c f 5))), (.long (own_pairs (own_c f 6))), (.long (own_acc5 f))])) _
    refine XS.lload X26.here hx rfl (hb hby d10_194) rfl ?_
    show Steps p.tables e below (T26.setTop (mkF m 196 #[.val (.ref a), .val (.long (own_c f 0)), .second, .val (.long (own_c f 1)), .second, .val (.long (own_c f 2)), .second, .val (.long (own_c f 3)), .second, .val (.long (own_c f 4)), .second, .val (.long (own_c f 5)), .second, .val (.long (own_c f 6)), .second, .val (.long (own_c f 7)), .second, .val (.long (own_c f 8)), .second] [(.long (own_c f 4)), (.long (own_c f 2)), (.long ((own_c f 1) * (own_c f 5))), (.long (own_pairs (own_c f 6))), (.long (own_acc5 f))])) _
    refine XS.lmul X26.here hx rfl (hb hby d10_196) rfl ?_
    show Steps p.tables e below (T26.setTop (mkF m 197 #[.val (.ref a), .val (.long (own_c f 0)), .second, .val (.long (own_c f 1)), .second, .val (.long (own_c f 2)), .second, .val (.long (own_c f 3)), .second, .val (.long (own_c f 4)), .second, .val (.long (own_c f 5)), .second, .val (.long (own_c f 6)), .second, .val (.long (own_c f 7)), .second, .val (.long (own_c f 8)), .second] [(.long ((own_c f 2) * (own_c f 4))), (.long ((own_c f 1) * (own_c f 5))), (.long (own_pairs (own_c f 6))), (.long (own_acc5 f))])) _
    refine XS.ladd X26.here hx rfl (hb hby d10_197) rfl ?_
    show Steps p.tables e below (T26.setTop (mkF m 198 #[.val (.ref a), .val (.long (own_c f 0)), .second, .val (.long (own_c f 1)), .second, .val (.long (own_c f 2)), .second, .val (.long (own_c f 3)), .second, .val (.long (own_c f 4)), .second, .val (.long (own_c f 5)), .second, .val (.long (own_c f 6)), .second, .val (.long (own_c f 7)), .second, .val (.long (own_c f 8)), .second] [(.long (((own_c f 1) * (own_c f 5)) + ((own_c f 2) * (own_c f 4)))), (.long (own_pairs (own_c f 6))), (.long (own_acc5 f))])) _
    refine XS.lmul X26.here hx rfl (hb hby d10_198) rfl ?_
    show Steps p.tables e below (T26.setTop (mkF m 199 #[.val (.ref a), .val (.long (own_c f 0)), .second, .val (.long (own_c f 1)), .second, .val (.long (own_c f 2)), .second, .val (.long (own_c f 3)), .second, .val (.long (own_c f 4)), .second, .val (.long (own_c f 5)), .second, .val (.long (own_c f 6)), .second, .val (.long (own_c f 7)), .second, .val (.long (own_c f 8)), .second] [(.long ((own_pairs (own_c f 6)) * (((own_c f 1) * (own_c f 5)) + ((own_c f 2) * (own_c f 4))))), (.long (own_acc5 f))])) _
    refine XS.ladd X26.here hx rfl (hb hby d10_199) rfl ?_
    show Steps p.tables e below (T26.setTop (mkF m 200 #[.val (.ref a), .val (.long (own_c f 0)), .second, .val (.long (own_c f 1)), .second, .val (.long (own_c f 2)), .second, .val (.long (own_c f 3)), .second, .val (.long (own_c f 4)), .second, .val (.long (own_c f 5)), .second, .val (.long (own_c f 6)), .second, .val (.long (own_c f 7)), .second, .val (.long (own_c f 8)), .second] [(.long ((own_acc5 f) + ((own_pairs (own_c f 6)) * (((own_c f 1) * (own_c f 5)) + ((own_c f 2) * (own_c f 4))))))])) _
    refine XS.lload X26.here hx rfl (hb hby d10_200) rfl ?_
    show Steps p.tables e below (T26.setTop (mkF m 202 #[.val (.ref a), .val (.long (own_c f 0)), .second, .val (.long (own_c f 1)), .second, .val (.long (own_c f 2)), .second, .val (.long (own_c f 3)), .second, .val (.long (own_c f 4)), .second, .val (.long (own_c f 5)), .second, .val (.long (own_c f 6)), .second, .val (.long (own_c f 7)), .second, .val (.long (own_c f 8)), .second] [(.long (own_c f 7)), (.long (own_acc6 f))])) _
    refine st27 _ ?_
    show Steps p.tables e below (T27.setTop (mkF m 205 #[.val (.ref a), .val (.long (own_c f 0)), .second, .val (.long (own_c f 1)), .second, .val (.long (own_c f 2)), .second, .val (.long (own_c f 3)), .second, .val (.long (own_c f 4)), .second, .val (.long (own_c f 5)), .second, .val (.long (own_c f 6)), .second, .val (.long (own_c f 7)), .second, .val (.long (own_c f 8)), .second] [(.long (own_pairs (own_c f 7))), (.long (own_acc6 f))])) _
    refine XS.lloadN X27.here hx rfl (hb hby d10_205) rfl ?_
    show Steps p.tables e below (T27.setTop (mkF m 206 #[.val (.ref a), .val (.long (own_c f 0)), .second, .val (.long (own_c f 1)), .second, .val (.long (own_c f 2)), .second, .val (.long (own_c f 3)), .second, .val (.long (own_c f 4)), .second, .val (.long (own_c f 5)), .second, .val (.long (own_c f 6)), .second, .val (.long (own_c f 7)), .second, .val (.long (own_c f 8)), .second] [(.long (own_c f 0)), (.long (own_pairs (own_c f 7))), (.long (own_acc6 f))])) _
    refine XS.lload X27.here hx rfl (hb hby d10_206) rfl ?_
    show Steps p.tables e below (T27.setTop (mkF m 208 #[.val (.ref a), .val (.long (own_c f 0)), .second, .val (.long (own_c f 1)), .second, .val (.long (own_c f 2)), .second, .val (.long (own_c f 3)), .second, .val (.long (own_c f 4)), .second, .val (.long (own_c f 5)), .second, .val (.long (own_c f 6)), .second, .val (.long (own_c f 7)), .second, .val (.long (own_c f 8)), .second] [(.long (own_c f 5)), (.long (own_c f 0)), (.long (own_pairs (own_c f 7))), (.long (own_acc6 f))])) _
    refine XS.lmul X27.here hx rfl (hb hby d10_208) rfl ?_
    show Steps p.tables e below (T27.setTop (mkF m 209 #[.val (.ref a), .val (.long (own_c f 0)), .second, .val (.long (own_c f 1)), .second, .val (.long (own_c f 2)), .second, .val (.long (own_c f 3)), .second, .val (.long (own_c f 4)), .second, .val (.long (own_c f 5)), .second, .val (.long (own_c f 6)), .second, .val (.long (own_c f 7)), .second, .val (.long (own_c f 8)), .second] [(.long ((own_c f 0) * (own_c f 5))), (.long (own_pairs (own_c f 7))), (.long (own_acc6 f))])) _
    refine XS.lload X27.here hx rfl (hb hby d10_209) rfl ?_
    show Steps p.tables e below (T27.setTop (mkF m 211 #[.val (.ref a), .val (.long (own_c f 0)), .second, .val (.long (own_c f 1)), .second, .val (.long (own_c f 2)), .second, .val (.long (own_c f 3)), .second, .val (.long (own_c f 4)), .second, .val (.long (own_c f 5)), .second, .val (.long (own_c f 6)), .second, .val (.long (own_c f 7)), .second, .val (.long (own_c f 8)), .second] [(.long (own_c f 2)), (.long ((own_c f 0) * (own_c f 5))), (.long (own_pairs (own_c f 7))), (.long (own_acc6 f))])) _
    refine XS.lload X27.here hx rfl (hb hby d10_211) rfl ?_
    show Steps p.tables e below (T27.setTop (mkF m 213 #[.val (.ref a), .val (.long (own_c f 0)), .second, .val (.long (own_c f 1)), .second, .val (.long (own_c f 2)), .second, .val (.long (own_c f 3)), .second, .val (.long (own_c f 4)), .second, .val (.long (own_c f 5)), .second, .val (.long (own_c f 6)), .second, .val (.long (own_c f 7)), .second, .val (.long (own_c f 8)), .second] [(.long (own_c f 3)), (.long (own_c f 2)), (.long ((own_c f 0) * (own_c f 5))), (.long (own_pairs (own_c f 7))), (.long (own_acc6 f))])) _
    refine XS.lmul X27.here hx rfl (hb hby d10_213) rfl ?_
    show Steps p.tables e below (T27.setTop (mkF m 214 #[.val (.ref a), .val (.long (own_c f 0)), .second, .val (.long (own_c f 1)), .second, .val (.long (own_c f 2)), .second, .val (.long (own_c f 3)), .second, .val (.long (own_c f 4)), .second, .val (.long (own_c f 5)), .second, .val (.long (own_c f 6)), .second, .val (.long (own_c f 7)), .second, .val (.long (own_c f 8)), .second] [(.long ((own_c f 2) * (own_c f 3))), (.long ((own_c f 0) * (own_c f 5))), (.long (own_pairs (own_c f 7))), (.long (own_acc6 f))])) _
    refine XS.ladd X27.here hx rfl (hb hby d10_214) rfl ?_
    show Steps p.tables e below (T27.setTop (mkF m 215 #[.val (.ref a), .val (.long (own_c f 0)), .second, .val (.long (own_c f 1)), .second, .val (.long (own_c f 2)), .second, .val (.long (own_c f 3)), .second, .val (.long (own_c f 4)), .second, .val (.long (own_c f 5)), .second, .val (.long (own_c f 6)), .second, .val (.long (own_c f 7)), .second, .val (.long (own_c f 8)), .second] [(.long (((own_c f 0) * (own_c f 5)) + ((own_c f 2) * (own_c f 3)))), (.long (own_pairs (own_c f 7))), (.long (own_acc6 f))])) _
    refine XS.lmul X27.here hx rfl (hb hby d10_215) rfl ?_
    show Steps p.tables e below (T27.setTop (mkF m 216 #[.val (.ref a), .val (.long (own_c f 0)), .second, .val (.long (own_c f 1)), .second, .val (.long (own_c f 2)), .second, .val (.long (own_c f 3)), .second, .val (.long (own_c f 4)), .second, .val (.long (own_c f 5)), .second, .val (.long (own_c f 6)), .second, .val (.long (own_c f 7)), .second, .val (.long (own_c f 8)), .second] [(.long ((own_pairs (own_c f 7)) * (((own_c f 0) * (own_c f 5)) + ((own_c f 2) * (own_c f 3))))), (.long (own_acc6 f))])) _
    refine XS.ladd X27.here hx rfl (hb hby d10_216) rfl ?_
    show Steps p.tables e below (T27.setTop (mkF m 217 #[.val (.ref a), .val (.long (own_c f 0)), .second, .val (.long (own_c f 1)), .second, .val (.long (own_c f 2)), .second, .val (.long (own_c f 3)), .second, .val (.long (own_c f 4)), .second, .val (.long (own_c f 5)), .second, .val (.long (own_c f 6)), .second, .val (.long (own_c f 7)), .second, .val (.long (own_c f 8)), .second] [(.long ((own_acc6 f) + ((own_pairs (own_c f 7)) * (((own_c f 0) * (own_c f 5)) + ((own_c f 2) * (own_c f 3))))))])) _
    refine XS.lload X27.here hx rfl (hb hby d10_217) rfl ?_
    show Steps p.tables e below (T27.setTop (mkF m 219 #[.val (.ref a), .val (.long (own_c f 0)), .second, .val (.long (own_c f 1)), .second, .val (.long (own_c f 2)), .second, .val (.long (own_c f 3)), .second, .val (.long (own_c f 4)), .second, .val (.long (own_c f 5)), .second, .val (.long (own_c f 6)), .second, .val (.long (own_c f 7)), .second, .val (.long (own_c f 8)), .second] [(.long (own_c f 8)), (.long (own_acc7 f))])) _
    refine st28 _ ?_
    show Steps p.tables e below (T28.setTop (mkF m 222 #[.val (.ref a), .val (.long (own_c f 0)), .second, .val (.long (own_c f 1)), .second, .val (.long (own_c f 2)), .second, .val (.long (own_c f 3)), .second, .val (.long (own_c f 4)), .second, .val (.long (own_c f 5)), .second, .val (.long (own_c f 6)), .second, .val (.long (own_c f 7)), .second, .val (.long (own_c f 8)), .second] [(.long (own_pairs (own_c f 8))), (.long (own_acc7 f))])) _
    refine XS.lloadN X28.here hx rfl (hb hby d10_222) rfl ?_
    show Steps p.tables e below (T28.setTop (mkF m 223 #[.val (.ref a), .val (.long (own_c f 0)), .second, .val (.long (own_c f 1)), .second, .val (.long (own_c f 2)), .second, .val (.long (own_c f 3)), .second, .val (.long (own_c f 4)), .second, .val (.long (own_c f 5)), .second, .val (.long (own_c f 6)), .second, .val (.long (own_c f 7)), .second, .val (.long (own_c f 8)), .second] [(.long (own_c f 0)), (.long (own_pairs (own_c f 8))), (.long (own_acc7 f))])) _
    refine XS.lload X28.here hx rfl (hb hby d10_223) rfl ?_
    show Steps p.tables e below (T28.setTop (mkF m 225 #[.val (.ref a), .val (.long (own_c f 0)), .second, .val (.long (own_c f 1)), .second, .val (.long (own_c f 2)), .second, .val (.long (own_c f 3)), .second, .val (.long (own_c f 4)), .second, .val (.long (own_c f 5)), .second, .val (.long (own_c f 6)), .second, .val (.long (own_c f 7)), .second, .val (.long (own_c f 8)), .second] [(.long (own_c f 4)), (.long (own_c f 0)), (.long (own_pairs (own_c f 8))), (.long (own_acc7 f))])) _
    refine XS.lmul X28.here hx rfl (hb hby d10_225) rfl ?_
    show Steps p.tables e below (T28.setTop (mkF m 226 #[.val (.ref a), .val (.long (own_c f 0)), .second, .val (.long (own_c f 1)), .second, .val (.long (own_c f 2)), .second, .val (.long (own_c f 3)), .second, .val (.long (own_c f 4)), .second, .val (.long (own_c f 5)), .second, .val (.long (own_c f 6)), .second, .val (.long (own_c f 7)), .second, .val (.long (own_c f 8)), .second] [(.long ((own_c f 0) * (own_c f 4))), (.long (own_pairs (own_c f 8))), (.long (own_acc7 f))])) _
    refine XS.lloadN X28.here hx rfl (hb hby d10_226) rfl ?_
    show Steps p.tables e below (T28.setTop (mkF m 227 #[.val (.ref a), .val (.long (own_c f 0)), .second, .val (.long (own_c f 1)), .second, .val (.long (own_c f 2)), .second, .val (.long (own_c f 3)), .second, .val (.long (own_c f 4)), .second, .val (.long (own_c f 5)), .second, .val (.long (own_c f 6)), .second, .val (.long (own_c f 7)), .second, .val (.long (own_c f 8)), .second] [(.long (own_c f 1)), (.long ((own_c f 0) * (own_c f 4))), (.long (own_pairs (own_c f 8))), (.long (own_acc7 f))])) _
    refine XS.lload X28.here hx rfl (hb hby d10_227) rfl ?_
    show Steps p.tables e below (T28.setTop (mkF m 229 #[.val (.ref a), .val (.long (own_c f 0)), .second, .val (.long (own_c f 1)), .second, .val (.long (own_c f 2)), .second, .val (.long (own_c f 3)), .second, .val (.long (own_c f 4)), .second, .val (.long (own_c f 5)), .second, .val (.long (own_c f 6)), .second, .val (.long (own_c f 7)), .second, .val (.long (own_c f 8)), .second] [(.long (own_c f 3)), (.long (own_c f 1)), (.long ((own_c f 0) * (own_c f 4))), (.long (own_pairs (own_c f 8))), (.long (own_acc7 f))])) _
    refine XS.lmul X28.here hx rfl (hb hby d10_229) rfl ?_
    show Steps p.tables e below (T28.setTop (mkF m 230 #[.val (.ref a), .val (.long (own_c f 0)), .second, .val (.long (own_c f 1)), .second, .val (.long (own_c f 2)), .second, .val (.long (own_c f 3)), .second, .val (.long (own_c f 4)), .second, .val (.long (own_c f 5)), .second, .val (.long (own_c f 6)), .second, .val (.long (own_c f 7)), .second, .val (.long (own_c f 8)), .second] [(.long ((own_c f 1) * (own_c f 3))), (.long ((own_c f 0) * (own_c f 4))), (.long (own_pairs (own_c f 8))), (.long (own_acc7 f))])) _
    refine XS.ladd X28.here hx rfl (hb hby d10_230) rfl ?_
    show Steps p.tables e below (T28.setTop (mkF m 231 #[.val (.ref a), .val (.long (own_c f 0)), .second, .val (.long (own_c f 1)), .second, .val (.long (own_c f 2)), .second, .val (.long (own_c f 3)), .second, .val (.long (own_c f 4)), .second, .val (.long (own_c f 5)), .second, .val (.long (own_c f 6)), .second, .val (.long (own_c f 7)), .second, .val (.long (own_c f 8)), .second] [(.long (((own_c f 0) * (own_c f 4)) + ((own_c f 1) * (own_c f 3)))), (.long (own_pairs (own_c f 8))), (.long (own_acc7 f))])) _
    refine XS.lmul X28.here hx rfl (hb hby d10_231) rfl ?_
    show Steps p.tables e below (T28.setTop (mkF m 232 #[.val (.ref a), .val (.long (own_c f 0)), .second, .val (.long (own_c f 1)), .second, .val (.long (own_c f 2)), .second, .val (.long (own_c f 3)), .second, .val (.long (own_c f 4)), .second, .val (.long (own_c f 5)), .second, .val (.long (own_c f 6)), .second, .val (.long (own_c f 7)), .second, .val (.long (own_c f 8)), .second] [(.long ((own_pairs (own_c f 8)) * (((own_c f 0) * (own_c f 4)) + ((own_c f 1) * (own_c f 3))))), (.long (own_acc7 f))])) _
    refine XS.ladd X28.here hx rfl (hb hby d10_232) rfl ?_
    show Steps p.tables e below (T28.setTop (mkF m 233 #[.val (.ref a), .val (.long (own_c f 0)), .second, .val (.long (own_c f 1)), .second, .val (.long (own_c f 2)), .second, .val (.long (own_c f 3)), .second, .val (.long (own_c f 4)), .second, .val (.long (own_c f 5)), .second, .val (.long (own_c f 6)), .second, .val (.long (own_c f 7)), .second, .val (.long (own_c f 8)), .second] [(.long (own_three f))])) _
    exact X28.lreturnOut hx Bd.returns (hb hby d10_233) hr
  · show own_QR (some (.long (own_three f))) h0 n0 _ T28.heap _
    exact ⟨rfl, N28, hq28⟩
theorem d5_0 : decode prog_20_method_3_code 0 = .ok (.aload_n 0, 1) := by decide +kernel
theorem d5_1 : decode prog_20_method_3_code 1 = .ok (.getfield 32, 3) := by decide +kernel
theorem d5_4 : decode prog_20_method_3_code 4 = .ok (.iconst 3, 1) := by decide +kernel
theorem d5_5 : decode prog_20_method_3_code 5 = .ok (.if_icmp .ne 16, 3) := by decide +kernel
theorem d5_8 : decode prog_20_method_3_code 8 = .ok (.aload_n 0, 1) := by decide +kernel
theorem d5_9 : decode prog_20_method_3_code 9 = .ok (.getfield 36, 3) := by decide +kernel
theorem d5_12 : decode prog_20_method_3_code 12 = .ok (.iconst 3, 1) := by decide +kernel
theorem d5_13 : decode prog_20_method_3_code 13 = .ok (.if_icmp .ne 8, 3) := by decide +kernel
theorem d5_16 : decode prog_20_method_3_code 16 = .ok (.aload_n 0, 1) := by decide +kernel
theorem d5_17 : decode prog_20_method_3_code 17 = .ok (.invokevirtual 45, 3) := by decide +kernel
theorem d5_20 : decode prog_20_method_3_code 20 = .ok (.lreturn, 1) := by decide +kernel
theorem d5_21 : decode prog_20_method_3_code 21 = .ok (.lconst 0, 1) := by decide +kernel
theorem d5_22 : decode prog_20_method_3_code 22 = .ok (.lstore_n 3, 1) := by decide +kernel
theorem d5_23 : decode prog_20_method_3_code 23 = .ok (.lconst 0, 1) := by decide +kernel
theorem d5_24 : decode prog_20_method_3_code 24 = .ok (.lstore 5, 2) := by decide +kernel
theorem d5_26 : decode prog_20_method_3_code 26 = .ok (.lconst 0, 1) := by decide +kernel
theorem d5_27 : decode prog_20_method_3_code 27 = .ok (.lstore 7, 2) := by decide +kernel
theorem d5_29 : decode prog_20_method_3_code 29 = .ok (.aload_n 0, 1) := by decide +kernel
theorem d5_30 : decode prog_20_method_3_code 30 = .ok (.getfield 23, 3) := by decide +kernel
theorem d5_33 : decode prog_20_method_3_code 33 = .ok (.iconst 0, 1) := by decide +kernel
theorem d5_34 : decode prog_20_method_3_code 34 = .ok (.aload_n 0, 1) := by decide +kernel
theorem d5_35 : decode prog_20_method_3_code 35 = .ok (.getfield 36, 3) := by decide +kernel
theorem d5_38 : decode prog_20_method_3_code 38 = .ok (.lconst 0, 1) := by decide +kernel
theorem d5_39 : decode prog_20_method_3_code 39 = .ok (.invokestatic 49, 3) := by decide +kernel
theorem d5_42 : decode prog_20_method_3_code 42 = .ok (.aload_n 0, 1) := by decide +kernel
theorem d5_43 : decode prog_20_method_3_code 43 = .ok (.getfield 26, 3) := by decide +kernel
theorem d5_46 : decode prog_20_method_3_code 46 = .ok (.iconst 0, 1) := by decide +kernel
theorem d5_47 : decode prog_20_method_3_code 47 = .ok (.aload_n 0, 1) := by decide +kernel
theorem d5_48 : decode prog_20_method_3_code 48 = .ok (.getfield 36, 3) := by decide +kernel
theorem d5_51 : decode prog_20_method_3_code 51 = .ok (.lconst 0, 1) := by decide +kernel
theorem d5_52 : decode prog_20_method_3_code 52 = .ok (.invokestatic 49, 3) := by decide +kernel
theorem d5_55 : decode prog_20_method_3_code 55 = .ok (.iconst 0, 1) := by decide +kernel
theorem d5_56 : decode prog_20_method_3_code 56 = .ok (.istore 9, 2) := by decide +kernel
theorem d5_58 : decode prog_20_method_3_code 58 = .ok (.iload 9, 2) := by decide +kernel
theorem d5_60 : decode prog_20_method_3_code 60 = .ok (.aload_n 0, 1) := by decide +kernel
theorem d5_61 : decode prog_20_method_3_code 61 = .ok (.getfield 32, 3) := by decide +kernel
theorem d5_64 : decode prog_20_method_3_code 64 = .ok (.if_icmp .ge 128, 3) := by decide +kernel
theorem d5_67 : decode prog_20_method_3_code 67 = .ok (.lconst 0, 1) := by decide +kernel
theorem d5_68 : decode prog_20_method_3_code 68 = .ok (.lstore 10, 2) := by decide +kernel
theorem d5_70 : decode prog_20_method_3_code 70 = .ok (.lconst 0, 1) := by decide +kernel
theorem d5_71 : decode prog_20_method_3_code 71 = .ok (.lstore 12, 2) := by decide +kernel
theorem d5_73 : decode prog_20_method_3_code 73 = .ok (.iconst 0, 1) := by decide +kernel
theorem d5_74 : decode prog_20_method_3_code 74 = .ok (.istore 14, 2) := by decide +kernel
theorem d5_76 : decode prog_20_method_3_code 76 = .ok (.iload 14, 2) := by decide +kernel
theorem d5_78 : decode prog_20_method_3_code 78 = .ok (.aload_n 0, 1) := by decide +kernel
theorem d5_79 : decode prog_20_method_3_code 79 = .ok (.getfield 36, 3) := by decide +kernel
theorem d5_82 : decode prog_20_method_3_code 82 = .ok (.if_icmp .ge 71, 3) := by decide +kernel
theorem d5_85 : decode prog_20_method_3_code 85 = .ok (.aload_n 0, 1) := by decide +kernel
theorem d5_86 : decode prog_20_method_3_code 86 = .ok (.getfield 7, 3) := by decide +kernel
theorem d5_89 : decode prog_20_method_3_code 89 = .ok (.iload 9, 2) := by decide +kernel
theorem d5_91 : decode prog_20_method_3_code 91 = .ok (.aload_n 0, 1) := by decide +kernel
theorem d5_92 : decode prog_20_method_3_code 92 = .ok (.getfield 36, 3) := by decide +kernel
theorem d5_95 : decode prog_20_method_3_code 95 = .ok (.imul, 1) := by decide +kernel
theorem d5_96 : decode prog_20_method_3_code 96 = .ok (.iload 14, 2) := by decide +kernel
theorem d5_98 : decode prog_20_method_3_code 98 = .ok (.iadd, 1) := by decide +kernel
theorem d5_99 : decode prog_20_method_3_code 99 = .ok (.iaload, 1) := by decide +kernel
theorem d5_100 : decode prog_20_method_3_code 100 = .ok (.i2l, 1) := by decide +kernel
theorem d5_101 : decode prog_20_method_3_code 101 = .ok (.lstore 15, 2) := by decide +kernel
theorem d5_103 : decode prog_20_method_3_code 103 = .ok (.lload 10, 2) := by decide +kernel
theorem d5_105 : decode prog_20_method_3_code 105 = .ok (.lload 15, 2) := by decide +kernel
theorem d5_107 : decode prog_20_method_3_code 107 = .ok (.ladd, 1) := by decide +kernel
theorem d5_108 : decode prog_20_method_3_code 108 = .ok (.lstore 10, 2) := by decide +kernel
theorem d5_110 : decode prog_20_method_3_code 110 = .ok (.lload 12, 2) := by decide +kernel
theorem d5_112 : decode prog_20_method_3_code 112 = .ok (.lload 15, 2) := by decide +kernel
theorem d5_114 : decode prog_20_method_3_code 114 = .ok (.lload 15, 2) := by decide +kernel
theorem d5_116 : decode prog_20_method_3_code 116 = .ok (.lmul, 1) := by decide +kernel
theorem d5_117 : decode prog_20_method_3_code 117 = .ok (.ladd, 1) := by decide +kernel
theorem d5_118 : decode prog_20_method_3_code 118 = .ok (.lstore 12, 2) := by decide +kernel
theorem d5_120 : decode prog_20_method_3_code 120 = .ok (.aload_n 0, 1) := by decide +kernel
theorem d5_121 : decode prog_20_method_3_code 121 = .ok (.getfield 23, 3) := by decide +kernel
theorem d5_124 : decode prog_20_method_3_code 124 = .ok (.iload 14, 2) := by decide +kernel
theorem d5_126 : decode prog_20_method_3_code 126 = .ok (.dup2, 1) := by decide +kernel
theorem d5_127 : decode prog_20_method_3_code 127 = .ok (.laload, 1) := by decide +kernel
theorem d5_128 : decode prog_20_method_3_code 128 = .ok (.lload 15, 2) := by decide +kernel
theorem d5_130 : decode prog_20_method_3_code 130 = .ok (.ladd, 1) := by decide +kernel
theorem d5_131 : decode prog_20_method_3_code 131 = .ok (.lastore, 1) := by decide +kernel
theorem d5_132 : decode prog_20_method_3_code 132 = .ok (.aload_n 0, 1) := by decide +kernel
theorem d5_133 : decode prog_20_method_3_code 133 = .ok (.getfield 26, 3) := by decide +kernel
theorem d5_136 : decode prog_20_method_3_code 136 = .ok (.iload 14, 2) := by decide +kernel
theorem d5_138 : decode prog_20_method_3_code 138 = .ok (.dup2, 1) := by decide +kernel
theorem d5_139 : decode prog_20_method_3_code 139 = .ok (.laload, 1) := by decide +kernel
theorem d5_140 : decode prog_20_method_3_code 140 = .ok (.lload 15, 2) := by decide +kernel
theorem d5_142 : decode prog_20_method_3_code 142 = .ok (.lload 15, 2) := by decide +kernel
theorem d5_144 : decode prog_20_method_3_code 144 = .ok (.lmul, 1) := by decide +kernel
theorem d5_145 : decode prog_20_method_3_code 145 = .ok (.ladd, 1) := by decide +kernel
theorem d5_146 : decode prog_20_method_3_code 146 = .ok (.lastore, 1) := by decide +kernel
theorem d5_147 : decode prog_20_method_3_code 147 = .ok (.iinc 14 1, 3) := by decide +kernel
theorem d5_150 : decode prog_20_method_3_code 150 = .ok (.goto (-74), 3) := by decide +kernel
theorem d5_153 : decode prog_20_method_3_code 153 = .ok (.aload_n 0, 1) := by decide +kernel
theorem d5_154 : decode prog_20_method_3_code 154 = .ok (.getfield 13, 3) := by decide +kernel
theorem d5_157 : decode prog_20_method_3_code 157 = .ok (.iload 9, 2) := by decide +kernel
theorem d5_159 : decode prog_20_method_3_code 159 = .ok (.lload 10, 2) := by decide +kernel
theorem d5_161 : decode prog_20_method_3_code 161 = .ok (.lastore, 1) := by decide +kernel
theorem d5_162 : decode prog_20_method_3_code 162 = .ok (.aload_n 0, 1) := by decide +kernel
theorem d5_163 : decode prog_20_method_3_code 163 = .ok (.getfield 17, 3) := by decide +kernel
theorem d5_166 : decode prog_20_method_3_code 166 = .ok (.iload 9, 2) := by decide +kernel
theorem d5_168 : decode prog_20_method_3_code 168 = .ok (.lload 12, 2) := by decide +kernel
theorem d5_170 : decode prog_20_method_3_code 170 = .ok (.lastore, 1) := by decide +kernel
theorem d5_171 : decode prog_20_method_3_code 171 = .ok (.lload_n 3, 1) := by decide +kernel
theorem d5_172 : decode prog_20_method_3_code 172 = .ok (.lload 12, 2) := by decide +kernel
theorem d5_174 : decode prog_20_method_3_code 174 = .ok (.ladd, 1) := by decide +kernel
theorem d5_175 : decode prog_20_method_3_code 175 = .ok (.lstore_n 3, 1) := by decide +kernel
theorem d5_176 : decode prog_20_method_3_code 176 = .ok (.lload 5, 2) := by decide +kernel
theorem d5_178 : decode prog_20_method_3_code 178 = .ok (.lload 10, 2) := by decide +kernel
theorem d5_180 : decode prog_20_method_3_code 180 = .ok (.lload 10, 2) := by decide +kernel
theorem d5_182 : decode prog_20_method_3_code 182 = .ok (.lmul, 1) := by decide +kernel
theorem d5_183 : decode prog_20_method_3_code 183 = .ok (.ladd, 1) := by decide +kernel
theorem d5_184 : decode prog_20_method_3_code 184 = .ok (.lstore 5, 2) := by decide +kernel
theorem d5_186 : decode prog_20_method_3_code 186 = .ok (.iinc 9 1, 3) := by decide +kernel
theorem d5_189 : decode prog_20_method_3_code 189 = .ok (.goto (-131), 3) := by decide +kernel
theorem d5_192 : decode prog_20_method_3_code 192 = .ok (.iconst 0, 1) := by decide +kernel
theorem d5_193 : decode prog_20_method_3_code 193 = .ok (.istore 9, 2) := by decide +kernel
theorem d5_195 : decode prog_20_method_3_code 195 = .ok (.iload 9, 2) := by decide +kernel
theorem d5_197 : decode prog_20_method_3_code 197 = .ok (.aload_n 0, 1) := by decide +kernel
theorem d5_198 : decode prog_20_method_3_code 198 = .ok (.getfield 36, 3) := by decide +kernel
theorem d5_201 : decode prog_20_method_3_code 201 = .ok (.if_icmp .ge 29, 3) := by decide +kernel
theorem d5_204 : decode prog_20_method_3_code 204 = .ok (.lload 7, 2) := by decide +kernel
theorem d5_206 : decode prog_20_method_3_code 206 = .ok (.aload_n 0, 1) := by decide +kernel
theorem d5_207 : decode prog_20_method_3_code 207 = .ok (.getfield 23, 3) := by decide +kernel
theorem d5_210 : decode prog_20_method_3_code 210 = .ok (.iload 9, 2) := by decide +kernel
theorem d5_212 : decode prog_20_method_3_code 212 = .ok (.laload, 1) := by decide +kernel
theorem d5_213 : decode prog_20_method_3_code 213 = .ok (.aload_n 0, 1) := by decide +kernel
theorem d5_214 : decode prog_20_method_3_code 214 = .ok (.getfield 23, 3) := by decide +kernel
theorem d5_217 : decode prog_20_method_3_code 217 = .ok (.iload 9, 2) := by decide +kernel
theorem d5_219 : decode prog_20_method_3_code 219 = .ok (.laload, 1) := by decide +kernel
theorem d5_220 : decode prog_20_method_3_code 220 = .ok (.lmul, 1) := by decide +kernel
theorem d5_221 : decode prog_20_method_3_code 221 = .ok (.ladd, 1) := by decide +kernel
theorem d5_222 : decode prog_20_method_3_code 222 = .ok (.lstore 7, 2) := by decide +kernel
theorem d5_224 : decode prog_20_method_3_code 224 = .ok (.iinc 9 1, 3) := by decide +kernel
theorem d5_227 : decode prog_20_method_3_code 227 = .ok (.goto (-32), 3) := by decide +kernel
theorem d5_230 : decode prog_20_method_3_code 230 = .ok (.iconst 0, 1) := by decide +kernel
theorem d5_231 : decode prog_20_method_3_code 231 = .ok (.istore 9, 2) := by decide +kernel
theorem d5_233 : decode prog_20_method_3_code 233 = .ok (.iload 9, 2) := by decide +kernel
theorem d5_235 : decode prog_20_method_3_code 235 = .ok (.aload_n 0, 1) := by decide +kernel
theorem d5_236 : decode prog_20_method_3_code 236 = .ok (.getfield 32, 3) := by decide +kernel
theorem d5_239 : decode prog_20_method_3_code 239 = .ok (.if_icmp .ge 83, 3) := by decide +kernel
theorem d5_242 : decode prog_20_method_3_code 242 = .ok (.lconst 0, 1) := by decide +kernel
theorem d5_243 : decode prog_20_method_3_code 243 = .ok (.lstore 10, 2) := by decide +kernel
theorem d5_245 : decode prog_20_method_3_code 245 = .ok (.iconst 0, 1) := by decide +kernel
theorem d5_246 : decode prog_20_method_3_code 246 = .ok (.istore 12, 2) := by decide +kernel
theorem d5_248 : decode prog_20_method_3_code 248 = .ok (.iload 12, 2) := by decide +kernel
theorem d5_250 : decode prog_20_method_3_code 250 = .ok (.aload_n 0, 1) := by decide +kernel
theorem d5_251 : decode prog_20_method_3_code 251 = .ok (.getfield 36, 3) := by decide +kernel
theorem d5_254 : decode prog_20_method_3_code 254 = .ok (.if_icmp .ge 38, 3) := by decide +kernel
theorem d5_257 : decode prog_20_method_3_code 257 = .ok (.lload 10, 2) := by decide +kernel
theorem d5_259 : decode prog_20_method_3_code 259 = .ok (.aload_n 0, 1) := by decide +kernel
theorem d5_260 : decode prog_20_method_3_code 260 = .ok (.getfield 23, 3) := by decide +kernel
theorem d5_263 : decode prog_20_method_3_code 263 = .ok (.iload 12, 2) := by decide +kernel
theorem d5_265 : decode prog_20_method_3_code 265 = .ok (.laload, 1) := by decide +kernel
theorem d5_266 : decode prog_20_method_3_code 266 = .ok (.aload_n 0, 1) := by decide +kernel
theorem d5_267 : decode prog_20_method_3_code 267 = .ok (.getfield 7, 3) := by decide +kernel
theorem d5_270 : decode prog_20_method_3_code 270 = .ok (.iload 9, 2) := by decide +kernel
theorem d5_272 : decode prog_20_method_3_code 272 = .ok (.aload_n 0, 1) := by decide +kernel
theorem d5_273 : decode prog_20_method_3_code 273 = .ok (.getfield 36, 3) := by decide +kernel
theorem d5_276 : decode prog_20_method_3_code 276 = .ok (.imul, 1) := by decide +kernel
theorem d5_277 : decode prog_20_method_3_code 277 = .ok (.iload 12, 2) := by decide +kernel
theorem d5_279 : decode prog_20_method_3_code 279 = .ok (.iadd, 1) := by decide +kernel
theorem d5_280 : decode prog_20_method_3_code 280 = .ok (.iaload, 1) := by decide +kernel
theorem d5_281 : decode prog_20_method_3_code 281 = .ok (.i2l, 1) := by decide +kernel
theorem d5_282 : decode prog_20_method_3_code 282 = .ok (.lmul, 1) := by decide +kernel
theorem d5_283 : decode prog_20_method_3_code 283 = .ok (.ladd, 1) := by decide +kernel
theorem d5_284 : decode prog_20_method_3_code 284 = .ok (.lstore 10, 2) := by decide +kernel
theorem d5_286 : decode prog_20_method_3_code 286 = .ok (.iinc 12 1, 3) := by decide +kernel
theorem d5_289 : decode prog_20_method_3_code 289 = .ok (.goto (-41), 3) := by decide +kernel
theorem d5_292 : decode prog_20_method_3_code 292 = .ok (.aload_n 0, 1) := by decide +kernel
theorem d5_293 : decode prog_20_method_3_code 293 = .ok (.getfield 20, 3) := by decide +kernel
theorem d5_296 : decode prog_20_method_3_code 296 = .ok (.iload 9, 2) := by decide +kernel
theorem d5_298 : decode prog_20_method_3_code 298 = .ok (.lload 7, 2) := by decide +kernel
theorem d5_300 : decode prog_20_method_3_code 300 = .ok (.ldc2_w 55, 3) := by decide +kernel
theorem d5_303 : decode prog_20_method_3_code 303 = .ok (.lload 10, 2) := by decide +kernel
theorem d5_305 : decode prog_20_method_3_code 305 = .ok (.lmul, 1) := by decide +kernel
theorem d5_306 : decode prog_20_method_3_code 306 = .ok (.lsub, 1) := by decide +kernel
theorem d5_307 : decode prog_20_method_3_code 307 = .ok (.aload_n 0, 1) := by decide +kernel
theorem d5_308 : decode prog_20_method_3_code 308 = .ok (.getfield 17, 3) := by decide +kernel
theorem d5_311 : decode prog_20_method_3_code 311 = .ok (.iload 9, 2) := by decide +kernel
theorem d5_313 : decode prog_20_method_3_code 313 = .ok (.laload, 1) := by decide +kernel
theorem d5_314 : decode prog_20_method_3_code 314 = .ok (.ladd, 1) := by decide +kernel
theorem d5_315 : decode prog_20_method_3_code 315 = .ok (.lastore, 1) := by decide +kernel
theorem d5_316 : decode prog_20_method_3_code 316 = .ok (.iinc 9 1, 3) := by decide +kernel
theorem d5_319 : decode prog_20_method_3_code 319 = .ok (.goto (-86), 3) := by decide +kernel
theorem d5_322 : decode prog_20_method_3_code 322 = .ok (.iconst 0, 1) := by decide +kernel
theorem d5_323 : decode prog_20_method_3_code 323 = .ok (.istore 9, 2) := by decide +kernel
theorem d5_325 : decode prog_20_method_3_code 325 = .ok (.iload 9, 2) := by decide +kernel
theorem d5_327 : decode prog_20_method_3_code 327 = .ok (.aload_n 0, 1) := by decide +kernel
theorem d5_328 : decode prog_20_method_3_code 328 = .ok (.getfield 36, 3) := by decide +kernel
theorem d5_331 : decode prog_20_method_3_code 331 = .ok (.if_icmp .ge 83, 3) := by decide +kernel
theorem d5_334 : decode prog_20_method_3_code 334 = .ok (.lconst 0, 1) := by decide +kernel
theorem d5_335 : decode prog_20_method_3_code 335 = .ok (.lstore 10, 2) := by decide +kernel
theorem d5_337 : decode prog_20_method_3_code 337 = .ok (.iconst 0, 1) := by decide +kernel
theorem d5_338 : decode prog_20_method_3_code 338 = .ok (.istore 12, 2) := by decide +kernel
theorem d5_340 : decode prog_20_method_3_code 340 = .ok (.iload 12, 2) := by decide +kernel
theorem d5_342 : decode prog_20_method_3_code 342 = .ok (.aload_n 0, 1) := by decide +kernel
theorem d5_343 : decode prog_20_method_3_code 343 = .ok (.getfield 32, 3) := by decide +kernel
theorem d5_346 : decode prog_20_method_3_code 346 = .ok (.if_icmp .ge 38, 3) := by decide +kernel
theorem d5_349 : decode prog_20_method_3_code 349 = .ok (.lload 10, 2) := by decide +kernel
theorem d5_351 : decode prog_20_method_3_code 351 = .ok (.aload_n 0, 1) := by decide +kernel
theorem d5_352 : decode prog_20_method_3_code 352 = .ok (.getfield 13, 3) := by decide +kernel
theorem d5_355 : decode prog_20_method_3_code 355 = .ok (.iload 12, 2) := by decide +kernel
theorem d5_357 : decode prog_20_method_3_code 357 = .ok (.laload, 1) := by decide +kernel
theorem d5_358 : decode prog_20_method_3_code 358 = .ok (.aload_n 0, 1) := by decide +kernel
theorem d5_359 : decode prog_20_method_3_code 359 = .ok (.getfield 7, 3) := by decide +kernel
theorem d5_362 : decode prog_20_method_3_code 362 = .ok (.iload 12, 2) := by decide +kernel
theorem d5_364 : decode prog_20_method_3_code 364 = .ok (.aload_n 0, 1) := by decide +kernel
theorem d5_365 : decode prog_20_method_3_code 365 = .ok (.getfield 36, 3) := by decide +kernel
theorem d5_368 : decode prog_20_method_3_code 368 = .ok (.imul, 1) := by decide +kernel
theorem d5_369 : decode prog_20_method_3_code 369 = .ok (.iload 9, 2) := by decide +kernel
theorem d5_371 : decode prog_20_method_3_code 371 = .ok (.iadd, 1) := by decide +kernel
theorem d5_372 : decode prog_20_method_3_code 372 = .ok (.iaload, 1) := by decide +kernel
theorem d5_373 : decode prog_20_method_3_code 373 = .ok (.i2l, 1) := by decide +kernel
theorem d5_374 : decode prog_20_method_3_code 374 = .ok (.lmul, 1) := by decide +kernel
theorem d5_375 : decode prog_20_method_3_code 375 = .ok (.ladd, 1) := by decide +kernel
theorem d5_376 : decode prog_20_method_3_code 376 = .ok (.lstore 10, 2) := by decide +kernel
theorem d5_378 : decode prog_20_method_3_code 378 = .ok (.iinc 12 1, 3) := by decide +kernel
theorem d5_381 : decode prog_20_method_3_code 381 = .ok (.goto (-41), 3) := by decide +kernel
theorem d5_384 : decode prog_20_method_3_code 384 = .ok (.aload_n 0, 1) := by decide +kernel
theorem d5_385 : decode prog_20_method_3_code 385 = .ok (.getfield 29, 3) := by decide +kernel
theorem d5_388 : decode prog_20_method_3_code 388 = .ok (.iload 9, 2) := by decide +kernel
theorem d5_390 : decode prog_20_method_3_code 390 = .ok (.lload 5, 2) := by decide +kernel
theorem d5_392 : decode prog_20_method_3_code 392 = .ok (.ldc2_w 55, 3) := by decide +kernel
theorem d5_395 : decode prog_20_method_3_code 395 = .ok (.lload 10, 2) := by decide +kernel
theorem d5_397 : decode prog_20_method_3_code 397 = .ok (.lmul, 1) := by decide +kernel
theorem d5_398 : decode prog_20_method_3_code 398 = .ok (.lsub, 1) := by decide +kernel
theorem d5_399 : decode prog_20_method_3_code 399 = .ok (.aload_n 0, 1) := by decide +kernel
theorem d5_400 : decode prog_20_method_3_code 400 = .ok (.getfield 26, 3) := by decide +kernel
theorem d5_403 : decode prog_20_method_3_code 403 = .ok (.iload 9, 2) := by decide +kernel
theorem d5_405 : decode prog_20_method_3_code 405 = .ok (.laload, 1) := by decide +kernel
theorem d5_406 : decode prog_20_method_3_code 406 = .ok (.ladd, 1) := by decide +kernel
theorem d5_407 : decode prog_20_method_3_code 407 = .ok (.lastore, 1) := by decide +kernel
theorem d5_408 : decode prog_20_method_3_code 408 = .ok (.iinc 9 1, 3) := by decide +kernel
theorem d5_411 : decode prog_20_method_3_code 411 = .ok (.goto (-86), 3) := by decide +kernel
theorem d5_414 : decode prog_20_method_3_code 414 = .ok (.lconst 0, 1) := by decide +kernel
theorem d5_415 : decode prog_20_method_3_code 415 = .ok (.lstore 9, 2) := by decide +kernel
theorem d5_417 : decode prog_20_method_3_code 417 = .ok (.iconst 0, 1) := by decide +kernel
theorem d5_418 : decode prog_20_method_3_code 418 = .ok (.istore 11, 2) := by decide +kernel
theorem d5_420 : decode prog_20_method_3_code 420 = .ok (.iload 11, 2) := by decide +kernel
theorem d5_422 : decode prog_20_method_3_code 422 = .ok (.aload_n 0, 1) := by decide +kernel
theorem d5_423 : decode prog_20_method_3_code 423 = .ok (.getfield 32, 3) := by decide +kernel
theorem d5_426 : decode prog_20_method_3_code 426 = .ok (.if_icmp .ge 183, 3) := by decide +kernel
theorem d5_429 : decode prog_20_method_3_code 429 = .ok (.iconst 0, 1) := by decide +kernel
theorem d5_430 : decode prog_20_method_3_code 430 = .ok (.istore 12, 2) := by decide +kernel
theorem d5_432 : decode prog_20_method_3_code 432 = .ok (.iload 12, 2) := by decide +kernel
theorem d5_434 : decode prog_20_method_3_code 434 = .ok (.aload_n 0, 1) := by decide +kernel
theorem d5_435 : decode prog_20_method_3_code 435 = .ok (.getfield 36, 3) := by decide +kernel
theorem d5_438 : decode prog_20_method_3_code 438 = .ok (.if_icmp .ge 165, 3) := by decide +kernel
theorem d5_441 : decode prog_20_method_3_code 441 = .ok (.aload_n 0, 1) := by decide +kernel
theorem d5_442 : decode prog_20_method_3_code 442 = .ok (.getfield 7, 3) := by decide +kernel
theorem d5_445 : decode prog_20_method_3_code 445 = .ok (.iload 11, 2) := by decide +kernel
theorem d5_447 : decode prog_20_method_3_code 447 = .ok (.aload_n 0, 1) := by decide +kernel
theorem d5_448 : decode prog_20_method_3_code 448 = .ok (.getfield 36, 3) := by decide +kernel
theorem d5_451 : decode prog_20_method_3_code 451 = .ok (.imul, 1) := by decide +kernel
theorem d5_452 : decode prog_20_method_3_code 452 = .ok (.iload 12, 2) := by decide +kernel
theorem d5_454 : decode prog_20_method_3_code 454 = .ok (.iadd, 1) := by decide +kernel
theorem d5_455 : decode prog_20_method_3_code 455 = .ok (.iaload, 1) := by decide +kernel
theorem d5_456 : decode prog_20_method_3_code 456 = .ok (.i2l, 1) := by decide +kernel
theorem d5_457 : decode prog_20_method_3_code 457 = .ok (.lstore 13, 2) := by decide +kernel
theorem d5_459 : decode prog_20_method_3_code 459 = .ok (.lload 13, 2) := by decide +kernel
theorem d5_461 : decode prog_20_method_3_code 461 = .ok (.ldc2_w 55, 3) := by decide +kernel
theorem d5_464 : decode prog_20_method_3_code 464 = .ok (.lcmp, 1) := by decide +kernel
theorem d5_465 : decode prog_20_method_3_code 465 = .ok (.ifCond .ge 6, 3) := by decide +kernel
theorem d5_468 : decode prog_20_method_3_code 468 = .ok (.goto 129, 3) := by decide +kernel
theorem d5_471 : decode prog_20_method_3_code 471 = .ok (.lload_n 1, 1) := by decide +kernel
theorem d5_472 : decode prog_20_method_3_code 472 = .ok (.aload_n 0, 1) := by decide +kernel
theorem d5_473 : decode prog_20_method_3_code 473 = .ok (.getfield 13, 3) := by decide +kernel
theorem d5_476 : decode prog_20_method_3_code 476 = .ok (.iload 11, 2) := by decide +kernel
theorem d5_478 : decode prog_20_method_3_code 478 = .ok (.laload, 1) := by decide +kernel
theorem d5_479 : decode prog_20_method_3_code 479 = .ok (.lsub, 1) := by decide +kernel
theorem d5_480 : decode prog_20_method_3_code 480 = .ok (.aload_n 0, 1) := by decide +kernel
theorem d5_481 : decode prog_20_method_3_code 481 = .ok (.getfield 23, 3) := by decide +kernel
theorem d5_484 : decode prog_20_method_3_code 484 = .ok (.iload 12, 2) := by decide +kernel
theorem d5_486 : decode prog_20_method_3_code 486 = .ok (.laload, 1) := by decide +kernel
theorem d5_487 : decode prog_20_method_3_code 487 = .ok (.lsub, 1) := by decide +kernel
theorem d5_488 : decode prog_20_method_3_code 488 = .ok (.lload 13, 2) := by decide +kernel
theorem d5_490 : decode prog_20_method_3_code 490 = .ok (.ladd, 1) := by decide +kernel
theorem d5_491 : decode prog_20_method_3_code 491 = .ok (.lstore 15, 2) := by decide +kernel
theorem d5_493 : decode prog_20_method_3_code 493 = .ok (.aload_n 0, 1) := by decide +kernel
theorem d5_494 : decode prog_20_method_3_code 494 = .ok (.getfield 29, 3) := by decide +kernel
theorem d5_497 : decode prog_20_method_3_code 497 = .ok (.iload 12, 2) := by decide +kernel
theorem d5_499 : decode prog_20_method_3_code 499 = .ok (.laload, 1) := by decide +kernel
theorem d5_500 : decode prog_20_method_3_code 500 = .ok (.aload_n 0, 1) := by decide +kernel
theorem d5_501 : decode prog_20_method_3_code 501 = .ok (.getfield 13, 3) := by decide +kernel
theorem d5_504 : decode prog_20_method_3_code 504 = .ok (.iload 11, 2) := by decide +kernel
theorem d5_506 : decode prog_20_method_3_code 506 = .ok (.laload, 1) := by decide +kernel
theorem d5_507 : decode prog_20_method_3_code 507 = .ok (.lload 13, 2) := by decide +kernel
theorem d5_509 : decode prog_20_method_3_code 509 = .ok (.lsub, 1) := by decide +kernel
theorem d5_510 : decode prog_20_method_3_code 510 = .ok (.invokestatic 57, 3) := by decide +kernel
theorem d5_513 : decode prog_20_method_3_code 513 = .ok (.lsub, 1) := by decide +kernel
theorem d5_514 : decode prog_20_method_3_code 514 = .ok (.lstore 17, 2) := by decide +kernel
theorem d5_516 : decode prog_20_method_3_code 516 = .ok (.aload_n 0, 1) := by decide +kernel
theorem d5_517 : decode prog_20_method_3_code 517 = .ok (.getfield 20, 3) := by decide +kernel
theorem d5_520 : decode prog_20_method_3_code 520 = .ok (.iload 11, 2) := by decide +kernel
theorem d5_522 : decode prog_20_method_3_code 522 = .ok (.laload, 1) := by decide +kernel
theorem d5_523 : decode prog_20_method_3_code 523 = .ok (.aload_n 0, 1) := by decide +kernel
theorem d5_524 : decode prog_20_method_3_code 524 = .ok (.getfield 23, 3) := by decide +kernel
theorem d5_527 : decode prog_20_method_3_code 527 = .ok (.iload 12, 2) := by decide +kernel
theorem d5_529 : decode prog_20_method_3_code 529 = .ok (.laload, 1) := by decide +kernel
theorem d5_530 : decode prog_20_method_3_code 530 = .ok (.lload 13, 2) := by decide +kernel
theorem d5_532 : decode prog_20_method_3_code 532 = .ok (.lsub, 1) := by decide +kernel
theorem d5_533 : decode prog_20_method_3_code 533 = .ok (.invokestatic 57, 3) := by decide +kernel
theorem d5_536 : decode prog_20_method_3_code 536 = .ok (.lsub, 1) := by decide +kernel
theorem d5_537 : decode prog_20_method_3_code 537 = .ok (.lstore 19, 2) := by decide +kernel
theorem d5_539 : decode prog_20_method_3_code 539 = .ok (.lload_n 3, 1) := by decide +kernel
theorem d5_540 : decode prog_20_method_3_code 540 = .ok (.aload_n 0, 1) := by decide +kernel
theorem d5_541 : decode prog_20_method_3_code 541 = .ok (.getfield 17, 3) := by decide +kernel
theorem d5_544 : decode prog_20_method_3_code 544 = .ok (.iload 11, 2) := by decide +kernel
theorem d5_546 : decode prog_20_method_3_code 546 = .ok (.laload, 1) := by decide +kernel
theorem d5_547 : decode prog_20_method_3_code 547 = .ok (.lsub, 1) := by decide +kernel
theorem d5_548 : decode prog_20_method_3_code 548 = .ok (.aload_n 0, 1) := by decide +kernel
theorem d5_549 : decode prog_20_method_3_code 549 = .ok (.getfield 26, 3) := by decide +kernel
theorem d5_552 : decode prog_20_method_3_code 552 = .ok (.iload 12, 2) := by decide +kernel
theorem d5_554 : decode prog_20_method_3_code 554 = .ok (.laload, 1) := by decide +kernel
theorem d5_555 : decode prog_20_method_3_code 555 = .ok (.lsub, 1) := by decide +kernel
theorem d5_556 : decode prog_20_method_3_code 556 = .ok (.lload 13, 2) := by decide +kernel
theorem d5_558 : decode prog_20_method_3_code 558 = .ok (.lload 13, 2) := by decide +kernel
theorem d5_560 : decode prog_20_method_3_code 560 = .ok (.lmul, 1) := by decide +kernel
theorem d5_561 : decode prog_20_method_3_code 561 = .ok (.ladd, 1) := by decide +kernel
theorem d5_562 : decode prog_20_method_3_code 562 = .ok (.lstore 21, 2) := by decide +kernel
theorem d5_564 : decode prog_20_method_3_code 564 = .ok (.lload 15, 2) := by decide +kernel
theorem d5_566 : decode prog_20_method_3_code 566 = .ok (.lload 15, 2) := by decide +kernel
theorem d5_568 : decode prog_20_method_3_code 568 = .ok (.lmul, 1) := by decide +kernel
theorem d5_569 : decode prog_20_method_3_code 569 = .ok (.lload 17, 2) := by decide +kernel
theorem d5_571 : decode prog_20_method_3_code 571 = .ok (.lsub, 1) := by decide +kernel
theorem d5_572 : decode prog_20_method_3_code 572 = .ok (.lload 19, 2) := by decide +kernel
theorem d5_574 : decode prog_20_method_3_code 574 = .ok (.lsub, 1) := by decide +kernel
theorem d5_575 : decode prog_20_method_3_code 575 = .ok (.lload 21, 2) := by decide +kernel
theorem d5_577 : decode prog_20_method_3_code 577 = .ok (.ladd, 1) := by decide +kernel
theorem d5_578 : decode prog_20_method_3_code 578 = .ok (.ldc2_w 55, 3) := by decide +kernel
theorem d5_581 : decode prog_20_method_3_code 581 = .ok (.ldiv, 1) := by decide +kernel
theorem d5_582 : decode prog_20_method_3_code 582 = .ok (.lstore 23, 2) := by decide +kernel
theorem d5_584 : decode prog_20_method_3_code 584 = .ok (.lload 9, 2) := by decide +kernel
theorem d5_586 : decode prog_20_method_3_code 586 = .ok (.lload 13, 2) := by decide +kernel
theorem d5_588 : decode prog_20_method_3_code 588 = .ok (.invokestatic 61, 3) := by decide +kernel
theorem d5_591 : decode prog_20_method_3_code 591 = .ok (.lload 23, 2) := by decide +kernel
theorem d5_593 : decode prog_20_method_3_code 593 = .ok (.lmul, 1) := by decide +kernel
theorem d5_594 : decode prog_20_method_3_code 594 = .ok (.ladd, 1) := by decide +kernel
theorem d5_595 : decode prog_20_method_3_code 595 = .ok (.lstore 9, 2) := by decide +kernel
theorem d5_597 : decode prog_20_method_3_code 597 = .ok (.iinc 12 1, 3) := by decide +kernel
theorem d5_600 : decode prog_20_method_3_code 600 = .ok (.goto (-168), 3) := by decide +kernel
theorem d5_603 : decode prog_20_method_3_code 603 = .ok (.iinc 11 1, 3) := by decide +kernel
theorem d5_606 : decode prog_20_method_3_code 606 = .ok (.goto (-186), 3) := by decide +kernel
theorem d5_609 : decode prog_20_method_3_code 609 = .ok (.lload 9, 2) := by decide +kernel
theorem d5_611 : decode prog_20_method_3_code 611 = .ok (.lreturn, 1) := by decide +kernel
def own_RC : Room := ({ frames := 3, cells := 0, slots := 0, locals := 80 } : Room)
def own_Cx (p : Program) (s : State) (m : MethodId) (c : Code) (Z : State) (a0 : Array Value) (n0 : Nat) (a : Addr) (A : Nat → Addr) (N : Nat) (r k : Int32) (R C : Nat) : Prop :=
  p.tables.exec = Jvm.exec ∧ Z.Warmed39 s.vm ∧ (∀ d ∈ tables_1, d.before a0 Z = true) ∧ c.code = prog_20_method_3_code ∧ c.maxLocals = 25 ∧ s.vm.findClass "quartess/quartet/Anchors" = some m.cls ∧ own_ne a A ∧ (n0 ≤ a ∧ ∀ i, i < 7 → n0 ≤ A i) ∧ r.toInt = (R : Int) ∧ k.toInt = (C : Int) ∧ R ≤ 4 ∧ C ≤ 4 ∧ R * C ≤ N
set_option maxRecDepth 65536 in
set_option maxHeartbeats 40000000 in
theorem tA1 {p : Program} {l : Launch} {e : Env} {s : State} {m : MethodId} {args : Array Value} {below : List Frame} {meth : Method} {c : Code} {Z : State} {a0 : Array Value} {n0 : Nat} {a : Addr} {A : Nat → Addr} {N : Nat} {f : Nat → Int32} {r k : Int32} {R C : Nat} {q : Int64} (cx : own_Cx p s m c Z a0 n0 a A N r k R C) {i j : Nat} (hi : i < R) (hj : j < C) {T0 : State} {ls0 : Array Slot} (S0 : own_St p l e own_RC s m args below meth c 25 n0 T0 ls0 [(0, (.ref a)), (1, (.long q)), (3, (.long (own_sum i (own_rq f C)))), (5, (.long (own_sum i (own_rs2 f C)))), (7, (.long (0 : Int64))), (9, (.int (own_i i))), (10, (.long (own_sum j (own_cel f C i)))), (12, (.long (own_sum j (own_cel2 f C i)))), (14, (.int (own_i j)))] (own_B Z a A N f r k (own_pre (own_rs f C) i) (own_pre (own_rq f C) i) own_z (own_cs (own_cel f C) C i j) (own_cs (own_cel2 f C) C i j) own_z)) :
    own_To p l e own_RC s m args below meth c 25 n0 T0 (mkF m 76 ls0 []) 76 [(0, (.ref a)), (1, (.long q)), (3, (.long (own_sum i (own_rq f C)))), (5, (.long (own_sum i (own_rs2 f C)))), (7, (.long (0 : Int64))), (9, (.int (own_i i))), (10, (.long (own_sum (j + 1) (own_cel f C i)))), (12, (.long (own_sum (j + 1) (own_cel2 f C i)))), (14, (.int (own_i (j + 1))))] (own_B Z a A N f r k (own_pre (own_rs f C) i) (own_pre (own_rq f C) i) own_z (own_cs (own_cel f C) C i (j + 1)) (own_cs (own_cel2 f C) C i (j + 1)) own_z) := by
  obtain ⟨hx, hZ, hw, hby, hml, hown, hA, hn0, hR, hC, lR, lC, hN⟩ := cx
  obtain ⟨lc0, X0, N0, Lv0, B0⟩ := S0
  obtain ⟨T11, X11, e11, st11⟩ := getF X0 hx hZ hown (host := "") (Or.inl (hw _ (List.mem_of_getElem? (i := 33) rfl))) Via.refl rfl ((own_B_columns B0)) (g := (mkF m 79 ls0 [(.ref a), (.int (own_i j))])) rfl rfl (hb hby d5_79)
  obtain ⟨T12, X12, e12, st12⟩ := getF X11 hx hZ hown (host := "") (Or.inl (hw _ (List.mem_of_getElem? (i := 11) rfl))) Via.refl e11 ((own_B_cells B0)) (g := (mkF m 86 ls0 [(.ref a)])) rfl rfl (hb hby d5_86)
  obtain ⟨T13, X13, e13, st13⟩ := getF X12 hx hZ hown (host := "") (Or.inl (hw _ (List.mem_of_getElem? (i := 33) rfl))) Via.refl e12 ((own_B_columns B0)) (g := (mkF m 92 ls0 [(.ref a), (.int (own_i i)), (.ref (A 0))])) rfl rfl (hb hby d5_92)
  obtain ⟨ls14, sl14, Lw14⟩ := own_Lv_st2 Lv0 (k := 15) (v := (.long ((f (i * C + j)).toInt64))) (by decide) rfl
  have Lv14 : own_Lv 25 ls14 [(15, (.long (own_cel f C i j))), (0, (.ref a)), (1, (.long q)), (3, (.long (own_sum i (own_rq f C)))), (5, (.long (own_sum i (own_rs2 f C)))), (7, (.long (0 : Int64))), (9, (.int (own_i i))), (10, (.long (own_sum j (own_cel f C i)))), (12, (.long (own_sum j (own_cel2 f C i)))), (14, (.int (own_i j)))] := Lw14
  obtain ⟨ls15, sl15, Lw15⟩ := own_Lv_st2 Lv14 (k := 10) (v := (.long ((own_sum j (own_cel f C i)) + (own_cel f C i j)))) (by decide) rfl
  have Lv15 : own_Lv 25 ls15 [(10, (.long (own_sum (j + 1) (own_cel f C i)))), (15, (.long (own_cel f C i j))), (0, (.ref a)), (1, (.long q)), (3, (.long (own_sum i (own_rq f C)))), (5, (.long (own_sum i (own_rs2 f C)))), (7, (.long (0 : Int64))), (9, (.int (own_i i))), (12, (.long (own_sum j (own_cel2 f C i)))), (14, (.int (own_i j)))] := by rw [own_sum_succ j (own_cel f C i)]; exact Lw15
  obtain ⟨ls16, sl16, Lw16⟩ := own_Lv_st2 Lv15 (k := 12) (v := (.long ((own_sum j (own_cel2 f C i)) + ((own_cel f C i j) * (own_cel f C i j))))) (by decide) rfl
  have Lv16 : own_Lv 25 ls16 [(12, (.long (own_sum (j + 1) (own_cel2 f C i)))), (10, (.long (own_sum (j + 1) (own_cel f C i)))), (15, (.long (own_cel f C i j))), (0, (.ref a)), (1, (.long q)), (3, (.long (own_sum i (own_rq f C)))), (5, (.long (own_sum i (own_rs2 f C)))), (7, (.long (0 : Int64))), (9, (.int (own_i i))), (14, (.int (own_i j)))] := by rw [own_sum_succ j (own_cel2 f C i)]; exact Lw16
  obtain ⟨T17, X17, e17, st17⟩ := getF X13 hx hZ hown (host := "") (Or.inl (hw _ (List.mem_of_getElem? (i := 20) rfl))) Via.refl e13 ((own_B_columnSums B0)) (g := (mkF m 121 ls16 [(.ref a)])) rfl rfl (hb hby d5_121)
  obtain ⟨T18, h18, X18, e18, W18, V18, st18⟩ := own_stJ X17 hx hZ e17 (own_B_v4 B0) (own_i_toInt (by omega)) (by omega) (g := (mkF m 131 ls16 [(.long ((own_cs (own_cel f C) C i j j) + (own_cel f C i j))), (.int (own_i j)), (.ref (A 4))])) rfl rfl (hb hby d5_131)
  have N18 := Fr.snoc X18 N0 (hn0.2 4 (by decide))
  have B18 := own_B_st4 hA B0 W18 V18
  obtain ⟨T19, X19, e19, st19⟩ := getF X18 hx hZ hown (host := "") (Or.inl (hw _ (List.mem_of_getElem? (i := 22) rfl))) Via.refl e18 ((own_B_columnSquares B18)) (g := (mkF m 133 ls16 [(.ref a)])) rfl rfl (hb hby d5_133)
  obtain ⟨T20, h20, X20, e20, W20, V20, st20⟩ := own_stJ X19 hx hZ e19 (own_B_v5 B18) (own_i_toInt (by omega)) (by omega) (g := (mkF m 146 ls16 [(.long ((own_cs (own_cel2 f C) C i j j) + ((own_cel f C i j) * (own_cel f C i j)))), (.int (own_i j)), (.ref (A 5))])) rfl rfl (hb hby d5_146)
  have N20 := Fr.snoc X20 N18 (hn0.2 5 (by decide))
  have B20 := own_B_st5 hA B18 W20 V20
  obtain ⟨ls21, sl21, Lw21⟩ := own_Lv_st1 Lv16 (k := 14) (v := (.int ((own_i j) + (1 : Int32)))) (by decide) rfl
  have Lv21 : own_Lv 25 ls21 [(14, (.int (own_i (j + 1)))), (12, (.long (own_sum (j + 1) (own_cel2 f C i)))), (10, (.long (own_sum (j + 1) (own_cel f C i)))), (15, (.long (own_cel f C i j))), (0, (.ref a)), (1, (.long q)), (3, (.long (own_sum i (own_rq f C)))), (5, (.long (own_sum i (own_rs2 f C)))), (7, (.long (0 : Int64))), (9, (.int (own_i i)))] := by rw [own_i_succ j]; exact Lw21
  have Lv22 : own_Lv 25 ls21 [(0, (.ref a)), (1, (.long q)), (3, (.long (own_sum i (own_rq f C)))), (5, (.long (own_sum i (own_rs2 f C)))), (7, (.long (0 : Int64))), (9, (.int (own_i i))), (10, (.long (own_sum (j + 1) (own_cel f C i)))), (12, (.long (own_sum (j + 1) (own_cel2 f C i)))), (14, (.int (own_i (j + 1))))] := own_Lv_pick Lv21 [4, 5, 6, 7, 8, 9, 2, 1, 0] rfl
  have Bc1 : own_B Z a A N f r k (own_pre (own_rs f C) i) (own_pre (own_rq f C) i) own_z (own_cs (own_cel f C) C i (j + 1)) (own_cs (own_cel2 f C) C i (j + 1)) own_z h20 := by rw [← own_cs_up (own_cel f C) i hj, ← own_cs_up (own_cel2 f C) i hj]; exact B20
  refine ⟨T20, ls21, ⟨_, X20, N20, Lv22, by rw [e20]; exact Bc1⟩, fun target kt => ?_⟩
  show Steps p.tables e below (T0.setTop (mkF m 76 ls0 [])) _
  refine XS.iload X0.here hx rfl (hb hby d5_76) (own_Lv_get Lv0 8 rfl) ?_
  show Steps p.tables e below (T0.setTop (mkF m 78 ls0 [(.int (own_i j))])) _
  refine XS.aloadN X0.here hx rfl (hb hby d5_78) (own_Lv_get Lv0 0 rfl) rfl ?_
  show Steps p.tables e below (T0.setTop (mkF m 79 ls0 [(.ref a), (.int (own_i j))])) _
  refine st11 _ ?_
  show Steps p.tables e below (T11.setTop (mkF m 82 ls0 [(.int k), (.int (own_i j))])) _
  refine XS.icmpNo X11.here hx rfl (hb hby d5_82) rfl (tlt ((own_i_lt (by omega) hC).mpr hj : (own_i j) < k)).2.1 ?_
  show Steps p.tables e below (T11.setTop (mkF m 85 ls0 [])) _
  refine XS.aloadN X11.here hx rfl (hb hby d5_85) (own_Lv_get Lv0 0 rfl) rfl ?_
  show Steps p.tables e below (T11.setTop (mkF m 86 ls0 [(.ref a)])) _
  refine st12 _ ?_
  show Steps p.tables e below (T12.setTop (mkF m 89 ls0 [(.ref (A 0))])) _
  refine XS.iload X12.here hx rfl (hb hby d5_89) (own_Lv_get Lv0 5 rfl) ?_
  show Steps p.tables e below (T12.setTop (mkF m 91 ls0 [(.int (own_i i)), (.ref (A 0))])) _
  refine XS.aloadN X12.here hx rfl (hb hby d5_91) (own_Lv_get Lv0 0 rfl) rfl ?_
  show Steps p.tables e below (T12.setTop (mkF m 92 ls0 [(.ref a), (.int (own_i i)), (.ref (A 0))])) _
  refine st13 _ ?_
  show Steps p.tables e below (T13.setTop (mkF m 95 ls0 [(.int k), (.int (own_i i)), (.ref (A 0))])) _
  refine XS.imul X13.here hx rfl (hb hby d5_95) rfl ?_
  show Steps p.tables e below (T13.setTop (mkF m 96 ls0 [(.int ((own_i i) * k)), (.ref (A 0))])) _
  refine XS.iload X13.here hx rfl (hb hby d5_96) (own_Lv_get Lv0 8 rfl) ?_
  show Steps p.tables e below (T13.setTop (mkF m 98 ls0 [(.int (own_i j)), (.int ((own_i i) * k)), (.ref (A 0))])) _
  refine XS.iadd X13.here hx rfl (hb hby d5_98) rfl ?_
  show Steps p.tables e below (T13.setTop (mkF m 99 ls0 [(.int (((own_i i) * k) + (own_i j))), (.ref (A 0))])) _
  refine own_ldI X13 hx hZ e13 (own_B_v0 B0) (own_idx (N := N) hC lC hi lR hj) (own_inN hi hj hN) (g := (mkF m 99 ls0 [(.int (((own_i i) * k) + (own_i j))), (.ref (A 0))])) rfl rfl (hb hby d5_99) _ ?_
  show Steps p.tables e below (T13.setTop (mkF m 100 ls0 [(.int (f (i * C + j)))])) _
  refine XS.i2l X13.here hx rfl (hb hby d5_100) rfl ?_
  show Steps p.tables e below (T13.setTop (mkF m 101 ls0 [(.long ((f (i * C + j)).toInt64))])) _
  refine XS.lstore X13.here hx rfl (hb hby d5_101) rfl (l' := ls14) sl14 ?_
  show Steps p.tables e below (T13.setTop (mkF m 103 ls14 [])) _
  refine XS.lload X13.here hx rfl (hb hby d5_103) (own_Lv_get Lv14 7 rfl) ?_
  show Steps p.tables e below (T13.setTop (mkF m 105 ls14 [(.long (own_sum j (own_cel f C i)))])) _
  refine XS.lload X13.here hx rfl (hb hby d5_105) (own_Lv_get Lv14 0 rfl) ?_
  show Steps p.tables e below (T13.setTop (mkF m 107 ls14 [(.long (own_cel f C i j)), (.long (own_sum j (own_cel f C i)))])) _
  refine XS.ladd X13.here hx rfl (hb hby d5_107) rfl ?_
  show Steps p.tables e below (T13.setTop (mkF m 108 ls14 [(.long ((own_sum j (own_cel f C i)) + (own_cel f C i j)))])) _
  refine XS.lstore X13.here hx rfl (hb hby d5_108) rfl (l' := ls15) sl15 ?_
  show Steps p.tables e below (T13.setTop (mkF m 110 ls15 [])) _
  refine XS.lload X13.here hx rfl (hb hby d5_110) (own_Lv_get Lv15 8 rfl) ?_
  show Steps p.tables e below (T13.setTop (mkF m 112 ls15 [(.long (own_sum j (own_cel2 f C i)))])) _
  refine XS.lload X13.here hx rfl (hb hby d5_112) (own_Lv_get Lv15 1 rfl) ?_
  show Steps p.tables e below (T13.setTop (mkF m 114 ls15 [(.long (own_cel f C i j)), (.long (own_sum j (own_cel2 f C i)))])) _
  refine XS.lload X13.here hx rfl (hb hby d5_114) (own_Lv_get Lv15 1 rfl) ?_
  show Steps p.tables e below (T13.setTop (mkF m 116 ls15 [(.long (own_cel f C i j)), (.long (own_cel f C i j)), (.long (own_sum j (own_cel2 f C i)))])) _
  refine XS.lmul X13.here hx rfl (hb hby d5_116) rfl ?_
  show Steps p.tables e below (T13.setTop (mkF m 117 ls15 [(.long ((own_cel f C i j) * (own_cel f C i j))), (.long (own_sum j (own_cel2 f C i)))])) _
  refine XS.ladd X13.here hx rfl (hb hby d5_117) rfl ?_
  show Steps p.tables e below (T13.setTop (mkF m 118 ls15 [(.long ((own_sum j (own_cel2 f C i)) + ((own_cel f C i j) * (own_cel f C i j))))])) _
  refine XS.lstore X13.here hx rfl (hb hby d5_118) rfl (l' := ls16) sl16 ?_
  show Steps p.tables e below (T13.setTop (mkF m 120 ls16 [])) _
  refine XS.aloadN X13.here hx rfl (hb hby d5_120) (own_Lv_get Lv16 3 rfl) rfl ?_
  show Steps p.tables e below (T13.setTop (mkF m 121 ls16 [(.ref a)])) _
  refine st17 _ ?_
  show Steps p.tables e below (T17.setTop (mkF m 124 ls16 [(.ref (A 4))])) _
  refine XS.iload X17.here hx rfl (hb hby d5_124) (own_Lv_get Lv16 9 rfl) ?_
  show Steps p.tables e below (T17.setTop (mkF m 126 ls16 [(.int (own_i j)), (.ref (A 4))])) _
  refine Jvm.Free.XT.dup2 X17.here hx rfl (hb hby d5_126) rfl rfl rfl ?_
  show Steps p.tables e below (T17.setTop (mkF m 127 ls16 [(.int (own_i j)), (.ref (A 4)), (.int (own_i j)), (.ref (A 4))])) _
  refine own_ldJ X17 hx hZ e17 (own_B_v4 B0) (own_i_toInt (by omega)) (by omega) (g := (mkF m 127 ls16 [(.int (own_i j)), (.ref (A 4)), (.int (own_i j)), (.ref (A 4))])) rfl rfl (hb hby d5_127) _ ?_
  show Steps p.tables e below (T17.setTop (mkF m 128 ls16 [(.long (own_cs (own_cel f C) C i j j)), (.int (own_i j)), (.ref (A 4))])) _
  refine XS.lload X17.here hx rfl (hb hby d5_128) (own_Lv_get Lv16 2 rfl) ?_
  show Steps p.tables e below (T17.setTop (mkF m 130 ls16 [(.long (own_cel f C i j)), (.long (own_cs (own_cel f C) C i j j)), (.int (own_i j)), (.ref (A 4))])) _
  refine XS.ladd X17.here hx rfl (hb hby d5_130) rfl ?_
  show Steps p.tables e below (T17.setTop (mkF m 131 ls16 [(.long ((own_cs (own_cel f C) C i j j) + (own_cel f C i j))), (.int (own_i j)), (.ref (A 4))])) _
  refine st18 _ ?_
  show Steps p.tables e below (T18.setTop (mkF m 132 ls16 [])) _
  refine XS.aloadN X18.here hx rfl (hb hby d5_132) (own_Lv_get Lv16 3 rfl) rfl ?_
  show Steps p.tables e below (T18.setTop (mkF m 133 ls16 [(.ref a)])) _
  refine st19 _ ?_
  show Steps p.tables e below (T19.setTop (mkF m 136 ls16 [(.ref (A 5))])) _
  refine XS.iload X19.here hx rfl (hb hby d5_136) (own_Lv_get Lv16 9 rfl) ?_
  show Steps p.tables e below (T19.setTop (mkF m 138 ls16 [(.int (own_i j)), (.ref (A 5))])) _
  refine Jvm.Free.XT.dup2 X19.here hx rfl (hb hby d5_138) rfl rfl rfl ?_
  show Steps p.tables e below (T19.setTop (mkF m 139 ls16 [(.int (own_i j)), (.ref (A 5)), (.int (own_i j)), (.ref (A 5))])) _
  refine own_ldJ X19 hx hZ e19 (own_B_v5 B18) (own_i_toInt (by omega)) (by omega) (g := (mkF m 139 ls16 [(.int (own_i j)), (.ref (A 5)), (.int (own_i j)), (.ref (A 5))])) rfl rfl (hb hby d5_139) _ ?_
  show Steps p.tables e below (T19.setTop (mkF m 140 ls16 [(.long (own_cs (own_cel2 f C) C i j j)), (.int (own_i j)), (.ref (A 5))])) _
  refine XS.lload X19.here hx rfl (hb hby d5_140) (own_Lv_get Lv16 2 rfl) ?_
  show Steps p.tables e below (T19.setTop (mkF m 142 ls16 [(.long (own_cel f C i j)), (.long (own_cs (own_cel2 f C) C i j j)), (.int (own_i j)), (.ref (A 5))])) _
  refine XS.lload X19.here hx rfl (hb hby d5_142) (own_Lv_get Lv16 2 rfl) ?_
  show Steps p.tables e below (T19.setTop (mkF m 144 ls16 [(.long (own_cel f C i j)), (.long (own_cel f C i j)), (.long (own_cs (own_cel2 f C) C i j j)), (.int (own_i j)), (.ref (A 5))])) _
  refine XS.lmul X19.here hx rfl (hb hby d5_144) rfl ?_
  show Steps p.tables e below (T19.setTop (mkF m 145 ls16 [(.long ((own_cel f C i j) * (own_cel f C i j))), (.long (own_cs (own_cel2 f C) C i j j)), (.int (own_i j)), (.ref (A 5))])) _
  refine XS.ladd X19.here hx rfl (hb hby d5_145) rfl ?_
  show Steps p.tables e below (T19.setTop (mkF m 146 ls16 [(.long ((own_cs (own_cel2 f C) C i j j) + ((own_cel f C i j) * (own_cel f C i j)))), (.int (own_i j)), (.ref (A 5))])) _
  refine st20 _ ?_
  show Steps p.tables e below (T20.setTop (mkF m 147 ls16 [])) _
  refine XS.iinc X20.here hx rfl (hb hby d5_147) (own_Lv_get Lv16 9 rfl) (l' := ls21) sl21 ?_
  show Steps p.tables e below (T20.setTop (mkF m 150 ls21 [])) _
  refine XS.goto X20.here hx rfl (pc0 := 150) (pc' := 76) rfl (hb hby d5_150) (by decide) (by decide) ?_
  exact kt
set_option maxRecDepth 65536 in
set_option maxHeartbeats 40000000 in
theorem tA2 {p : Program} {l : Launch} {e : Env} {s : State} {m : MethodId} {args : Array Value} {below : List Frame} {meth : Method} {c : Code} {Z : State} {a0 : Array Value} {n0 : Nat} {a : Addr} {A : Nat → Addr} {N : Nat} {f : Nat → Int32} {r k : Int32} {R C : Nat} {q : Int64} (cx : own_Cx p s m c Z a0 n0 a A N r k R C) {i : Nat} (hi : i < R) {T0 : State} {ls0 : Array Slot} (S0 : own_St p l e own_RC s m args below meth c 25 n0 T0 ls0 [(0, (.ref a)), (1, (.long q)), (3, (.long (own_sum i (own_rq f C)))), (5, (.long (own_sum i (own_rs2 f C)))), (7, (.long (0 : Int64))), (9, (.int (own_i i))), (10, (.long (own_sum C (own_cel f C i)))), (12, (.long (own_sum C (own_cel2 f C i)))), (14, (.int (own_i C)))] (own_B Z a A N f r k (own_pre (own_rs f C) i) (own_pre (own_rq f C) i) own_z (own_cs (own_cel f C) C i C) (own_cs (own_cel2 f C) C i C) own_z)) :
    own_To p l e own_RC s m args below meth c 25 n0 T0 (mkF m 76 ls0 []) 153 [(0, (.ref a)), (1, (.long q)), (3, (.long (own_sum i (own_rq f C)))), (5, (.long (own_sum i (own_rs2 f C)))), (7, (.long (0 : Int64))), (9, (.int (own_i i))), (10, (.long (own_sum C (own_cel f C i)))), (12, (.long (own_sum C (own_cel2 f C i))))] (own_B Z a A N f r k (own_pre (own_rs f C) i) (own_pre (own_rq f C) i) own_z (own_cs (own_cel f C) C i C) (own_cs (own_cel2 f C) C i C) own_z) := by
  obtain ⟨hx, hZ, hw, hby, hml, hown, hA, hn0, hR, hC, lR, lC, hN⟩ := cx
  obtain ⟨lc0, X0, N0, Lv0, B0⟩ := S0
  obtain ⟨T11, X11, e11, st11⟩ := getF X0 hx hZ hown (host := "") (Or.inl (hw _ (List.mem_of_getElem? (i := 33) rfl))) Via.refl rfl ((own_B_columns B0)) (g := (mkF m 79 ls0 [(.ref a), (.int (own_i C))])) rfl rfl (hb hby d5_79)
  have Lv12 : own_Lv 25 ls0 [(0, (.ref a)), (1, (.long q)), (3, (.long (own_sum i (own_rq f C)))), (5, (.long (own_sum i (own_rs2 f C)))), (7, (.long (0 : Int64))), (9, (.int (own_i i))), (10, (.long (own_sum C (own_cel f C i)))), (12, (.long (own_sum C (own_cel2 f C i))))] := own_Lv_pick Lv0 [0, 1, 2, 3, 4, 5, 6, 7] rfl
  refine ⟨T11, ls0, ⟨_, X11, N0, Lv12, by rw [e11]; exact B0⟩, fun target kt => ?_⟩
  show Steps p.tables e below (T0.setTop (mkF m 76 ls0 [])) _
  refine XS.iload X0.here hx rfl (hb hby d5_76) (own_Lv_get Lv0 8 rfl) ?_
  show Steps p.tables e below (T0.setTop (mkF m 78 ls0 [(.int (own_i C))])) _
  refine XS.aloadN X0.here hx rfl (hb hby d5_78) (own_Lv_get Lv0 0 rfl) rfl ?_
  show Steps p.tables e below (T0.setTop (mkF m 79 ls0 [(.ref a), (.int (own_i C))])) _
  refine st11 _ ?_
  show Steps p.tables e below (T11.setTop (mkF m 82 ls0 [(.int k), (.int (own_i C))])) _
  refine XS.icmpYes X11.here hx rfl (pc0 := 82) (pc' := 153) rfl (hb hby d5_82) rfl (flt (fun w => Nat.lt_irrefl C ((own_i_lt (by omega) hC).mp w) : ¬ ((own_i C) < k))).2.1 (by decide) (by decide) ?_
  exact kt
set_option maxRecDepth 65536 in
set_option maxHeartbeats 40000000 in
theorem tA3 {p : Program} {l : Launch} {e : Env} {s : State} {m : MethodId} {args : Array Value} {below : List Frame} {meth : Method} {c : Code} {Z : State} {a0 : Array Value} {n0 : Nat} {a : Addr} {A : Nat → Addr} {N : Nat} {f : Nat → Int32} {r k : Int32} {R C : Nat} {q : Int64} (cx : own_Cx p s m c Z a0 n0 a A N r k R C) {i : Nat} (hi : i < R) {T0 : State} {ls0 : Array Slot} (S0 : own_St p l e own_RC s m args below meth c 25 n0 T0 ls0 [(0, (.ref a)), (1, (.long q)), (3, (.long (own_sum i (own_rq f C)))), (5, (.long (own_sum i (own_rs2 f C)))), (7, (.long (0 : Int64))), (9, (.int (own_i i)))] (own_B Z a A N f r k (own_pre (own_rs f C) i) (own_pre (own_rq f C) i) own_z (own_cs (own_cel f C) C i 0) (own_cs (own_cel2 f C) C i 0) own_z)) :
    own_To p l e own_RC s m args below meth c 25 n0 T0 (mkF m 58 ls0 []) 58 [(0, (.ref a)), (1, (.long q)), (3, (.long (own_sum (i + 1) (own_rq f C)))), (5, (.long (own_sum (i + 1) (own_rs2 f C)))), (7, (.long (0 : Int64))), (9, (.int (own_i (i + 1))))] (own_B Z a A N f r k (own_pre (own_rs f C) (i + 1)) (own_pre (own_rq f C) (i + 1)) own_z (own_cs (own_cel f C) C (i + 1) 0) (own_cs (own_cel2 f C) C (i + 1) 0) own_z) := by
  obtain ⟨hx, hZ, hw, hby, hml, hown, hA, hn0, hR, hC, lR, lC, hN⟩ := cx
  obtain ⟨lc0, X0, N0, Lv0, B0⟩ := S0
  obtain ⟨T11, X11, e11, st11⟩ := getF X0 hx hZ hown (host := "") (Or.inl (hw _ (List.mem_of_getElem? (i := 31) rfl))) Via.refl rfl ((own_B_rows B0)) (g := (mkF m 61 ls0 [(.ref a), (.int (own_i i))])) rfl rfl (hb hby d5_61)
  obtain ⟨ls12, sl12, Lw12⟩ := own_Lv_st2 Lv0 (k := 10) (v := (.long (0 : Int64))) (by decide) rfl
  have Lv12 : own_Lv 25 ls12 [(10, (.long (own_sum 0 (own_cel f C i)))), (0, (.ref a)), (1, (.long q)), (3, (.long (own_sum i (own_rq f C)))), (5, (.long (own_sum i (own_rs2 f C)))), (7, (.long (0 : Int64))), (9, (.int (own_i i)))] := Lw12
  obtain ⟨ls13, sl13, Lw13⟩ := own_Lv_st2 Lv12 (k := 12) (v := (.long (0 : Int64))) (by decide) rfl
  have Lv13 : own_Lv 25 ls13 [(12, (.long (own_sum 0 (own_cel2 f C i)))), (10, (.long (own_sum 0 (own_cel f C i)))), (0, (.ref a)), (1, (.long q)), (3, (.long (own_sum i (own_rq f C)))), (5, (.long (own_sum i (own_rs2 f C)))), (7, (.long (0 : Int64))), (9, (.int (own_i i)))] := Lw13
  obtain ⟨ls14, sl14, Lw14⟩ := own_Lv_st1 Lv13 (k := 14) (v := (.int (0 : Int32))) (by decide) rfl
  have Lv14 : own_Lv 25 ls14 [(14, (.int (own_i 0))), (12, (.long (own_sum 0 (own_cel2 f C i)))), (10, (.long (own_sum 0 (own_cel f C i)))), (0, (.ref a)), (1, (.long q)), (3, (.long (own_sum i (own_rq f C)))), (5, (.long (own_sum i (own_rs2 f C)))), (7, (.long (0 : Int64))), (9, (.int (own_i i)))] := Lw14
  have Lv15 : own_Lv 25 ls14 [(0, (.ref a)), (1, (.long q)), (3, (.long (own_sum i (own_rq f C)))), (5, (.long (own_sum i (own_rs2 f C)))), (7, (.long (0 : Int64))), (9, (.int (own_i i))), (10, (.long (own_sum 0 (own_cel f C i)))), (12, (.long (own_sum 0 (own_cel2 f C i)))), (14, (.int (own_i 0)))] := own_Lv_pick Lv14 [3, 4, 5, 6, 7, 8, 2, 1, 0] rfl
  obtain ⟨T16, ls16, ⟨lc16, X16, N16, Lv16, Bl16⟩, st16⟩ := own_loop (pc := 76) (fun j => [(0, (.ref a)), (1, (.long q)), (3, (.long (own_sum i (own_rq f C)))), (5, (.long (own_sum i (own_rs2 f C)))), (7, (.long (0 : Int64))), (9, (.int (own_i i))), (10, (.long (own_sum j (own_cel f C i)))), (12, (.long (own_sum j (own_cel2 f C i)))), (14, (.int (own_i j)))]) (fun j => own_B Z a A N f r k (own_pre (own_rs f C) i) (own_pre (own_rq f C) i) own_z (own_cs (own_cel f C) C i j) (own_cs (own_cel2 f C) C i j) own_z) (N := C) (fun j hj T ls S => tA1 (cx := ⟨hx, hZ, hw, hby, hml, hown, hA, hn0, hR, hC, lR, lC, hN⟩) hi hj S) C 0 (Nat.zero_add C) T11 ls14 ⟨_, X11, N0, Lv15, (by rw [e11]; exact B0)⟩
  obtain ⟨T17, ls17, ⟨lc17, X17, N17, Lv17, Bl17⟩, st17⟩ := tA2 (cx := ⟨hx, hZ, hw, hby, hml, hown, hA, hn0, hR, hC, lR, lC, hN⟩) hi ⟨_, X16, N16, Lv16, Bl16⟩
  obtain ⟨T18, X18, e18, st18⟩ := getF X17 hx hZ hown (host := "") (Or.inl (hw _ (List.mem_of_getElem? (i := 14) rfl))) Via.refl rfl ((own_B_rowSums Bl17)) (g := (mkF m 154 ls17 [(.ref a)])) rfl rfl (hb hby d5_154)
  obtain ⟨T19, h19, X19, e19, W19, V19, st19⟩ := own_stJ X18 hx hZ e18 (own_B_v1 Bl17) (own_i_toInt (by omega)) (by omega) (g := (mkF m 161 ls17 [(.long (own_sum C (own_cel f C i))), (.int (own_i i)), (.ref (A 1))])) rfl rfl (hb hby d5_161)
  have N19 := Fr.snoc X19 N17 (hn0.2 1 (by decide))
  have B19 := own_B_st1 hA Bl17 W19 V19
  obtain ⟨T20, X20, e20, st20⟩ := getF X19 hx hZ hown (host := "") (Or.inl (hw _ (List.mem_of_getElem? (i := 16) rfl))) Via.refl e19 ((own_B_rowSquares B19)) (g := (mkF m 163 ls17 [(.ref a)])) rfl rfl (hb hby d5_163)
  obtain ⟨T21, h21, X21, e21, W21, V21, st21⟩ := own_stJ X20 hx hZ e20 (own_B_v2 B19) (own_i_toInt (by omega)) (by omega) (g := (mkF m 170 ls17 [(.long (own_sum C (own_cel2 f C i))), (.int (own_i i)), (.ref (A 2))])) rfl rfl (hb hby d5_170)
  have N21 := Fr.snoc X21 N19 (hn0.2 2 (by decide))
  have B21 := own_B_st2 hA B19 W21 V21
  obtain ⟨ls22, sl22, Lw22⟩ := own_Lv_st2 Lv17 (k := 3) (v := (.long ((own_sum i (own_rq f C)) + (own_sum C (own_cel2 f C i))))) (by decide) rfl
  have Lv22 : own_Lv 25 ls22 [(3, (.long (own_sum (i + 1) (own_rq f C)))), (0, (.ref a)), (1, (.long q)), (5, (.long (own_sum i (own_rs2 f C)))), (7, (.long (0 : Int64))), (9, (.int (own_i i))), (10, (.long (own_sum C (own_cel f C i)))), (12, (.long (own_sum C (own_cel2 f C i))))] := by rw [own_sum_succ i (own_rq f C)]; exact Lw22
  obtain ⟨ls23, sl23, Lw23⟩ := own_Lv_st2 Lv22 (k := 5) (v := (.long ((own_sum i (own_rs2 f C)) + ((own_sum C (own_cel f C i)) * (own_sum C (own_cel f C i)))))) (by decide) rfl
  have Lv23 : own_Lv 25 ls23 [(5, (.long (own_sum (i + 1) (own_rs2 f C)))), (3, (.long (own_sum (i + 1) (own_rq f C)))), (0, (.ref a)), (1, (.long q)), (7, (.long (0 : Int64))), (9, (.int (own_i i))), (10, (.long (own_sum C (own_cel f C i)))), (12, (.long (own_sum C (own_cel2 f C i))))] := by rw [own_sum_succ i (own_rs2 f C)]; exact Lw23
  obtain ⟨ls24, sl24, Lw24⟩ := own_Lv_st1 Lv23 (k := 9) (v := (.int ((own_i i) + (1 : Int32)))) (by decide) rfl
  have Lv24 : own_Lv 25 ls24 [(9, (.int (own_i (i + 1)))), (5, (.long (own_sum (i + 1) (own_rs2 f C)))), (3, (.long (own_sum (i + 1) (own_rq f C)))), (0, (.ref a)), (1, (.long q)), (7, (.long (0 : Int64))), (10, (.long (own_sum C (own_cel f C i)))), (12, (.long (own_sum C (own_cel2 f C i))))] := by rw [own_i_succ i]; exact Lw24
  have Lv25 : own_Lv 25 ls24 [(0, (.ref a)), (1, (.long q)), (3, (.long (own_sum (i + 1) (own_rq f C)))), (5, (.long (own_sum (i + 1) (own_rs2 f C)))), (7, (.long (0 : Int64))), (9, (.int (own_i (i + 1))))] := own_Lv_pick Lv24 [3, 4, 2, 1, 5, 0] rfl
  have Bc1 : own_B Z a A N f r k (own_pre (own_rs f C) (i + 1)) (own_pre (own_rq f C) (i + 1)) own_z (own_cs (own_cel f C) C (i + 1) 0) (own_cs (own_cel2 f C) C (i + 1) 0) own_z h21 := by rw [← own_pre_up (own_rs f C) i, ← own_pre_up (own_rq f C) i, ← own_cs_next (own_cel f C) C i, ← own_cs_next (own_cel2 f C) C i]; exact B21
  refine ⟨T21, ls24, ⟨_, X21, N21, Lv25, by rw [e21]; exact Bc1⟩, fun target kt => ?_⟩
  show Steps p.tables e below (T0.setTop (mkF m 58 ls0 [])) _
  refine XS.iload X0.here hx rfl (hb hby d5_58) (own_Lv_get Lv0 5 rfl) ?_
  show Steps p.tables e below (T0.setTop (mkF m 60 ls0 [(.int (own_i i))])) _
  refine XS.aloadN X0.here hx rfl (hb hby d5_60) (own_Lv_get Lv0 0 rfl) rfl ?_
  show Steps p.tables e below (T0.setTop (mkF m 61 ls0 [(.ref a), (.int (own_i i))])) _
  refine st11 _ ?_
  show Steps p.tables e below (T11.setTop (mkF m 64 ls0 [(.int r), (.int (own_i i))])) _
  refine XS.icmpNo X11.here hx rfl (hb hby d5_64) rfl (tlt ((own_i_lt (by omega) hR).mpr hi : (own_i i) < r)).2.1 ?_
  show Steps p.tables e below (T11.setTop (mkF m 67 ls0 [])) _
  refine XS.lconst X11.here hx rfl (hb hby d5_67) ?_
  show Steps p.tables e below (T11.setTop (mkF m 68 ls0 [(.long (0 : Int64))])) _
  refine XS.lstore X11.here hx rfl (hb hby d5_68) rfl (l' := ls12) sl12 ?_
  show Steps p.tables e below (T11.setTop (mkF m 70 ls12 [])) _
  refine XS.lconst X11.here hx rfl (hb hby d5_70) ?_
  show Steps p.tables e below (T11.setTop (mkF m 71 ls12 [(.long (0 : Int64))])) _
  refine XS.lstore X11.here hx rfl (hb hby d5_71) rfl (l' := ls13) sl13 ?_
  show Steps p.tables e below (T11.setTop (mkF m 73 ls13 [])) _
  refine XS.iconst X11.here hx rfl (hb hby d5_73) ?_
  show Steps p.tables e below (T11.setTop (mkF m 74 ls13 [(.int (0 : Int32))])) _
  refine XS.istore X11.here hx rfl (hb hby d5_74) rfl (l' := ls14) sl14 ?_
  show Steps p.tables e below (T11.setTop (mkF m 76 ls14 [])) _
  refine st16 _ ?_
  show Steps p.tables e below (T16.setTop (mkF m 76 ls16 [])) _
  refine st17 _ ?_
  show Steps p.tables e below (T17.setTop (mkF m 153 ls17 [])) _
  refine XS.aloadN X17.here hx rfl (hb hby d5_153) (own_Lv_get Lv17 0 rfl) rfl ?_
  show Steps p.tables e below (T17.setTop (mkF m 154 ls17 [(.ref a)])) _
  refine st18 _ ?_
  show Steps p.tables e below (T18.setTop (mkF m 157 ls17 [(.ref (A 1))])) _
  refine XS.iload X18.here hx rfl (hb hby d5_157) (own_Lv_get Lv17 5 rfl) ?_
  show Steps p.tables e below (T18.setTop (mkF m 159 ls17 [(.int (own_i i)), (.ref (A 1))])) _
  refine XS.lload X18.here hx rfl (hb hby d5_159) (own_Lv_get Lv17 6 rfl) ?_
  show Steps p.tables e below (T18.setTop (mkF m 161 ls17 [(.long (own_sum C (own_cel f C i))), (.int (own_i i)), (.ref (A 1))])) _
  refine st19 _ ?_
  show Steps p.tables e below (T19.setTop (mkF m 162 ls17 [])) _
  refine XS.aloadN X19.here hx rfl (hb hby d5_162) (own_Lv_get Lv17 0 rfl) rfl ?_
  show Steps p.tables e below (T19.setTop (mkF m 163 ls17 [(.ref a)])) _
  refine st20 _ ?_
  show Steps p.tables e below (T20.setTop (mkF m 166 ls17 [(.ref (A 2))])) _
  refine XS.iload X20.here hx rfl (hb hby d5_166) (own_Lv_get Lv17 5 rfl) ?_
  show Steps p.tables e below (T20.setTop (mkF m 168 ls17 [(.int (own_i i)), (.ref (A 2))])) _
  refine XS.lload X20.here hx rfl (hb hby d5_168) (own_Lv_get Lv17 7 rfl) ?_
  show Steps p.tables e below (T20.setTop (mkF m 170 ls17 [(.long (own_sum C (own_cel2 f C i))), (.int (own_i i)), (.ref (A 2))])) _
  refine st21 _ ?_
  show Steps p.tables e below (T21.setTop (mkF m 171 ls17 [])) _
  refine XS.lloadN X21.here hx rfl (hb hby d5_171) (own_Lv_get Lv17 2 rfl) ?_
  show Steps p.tables e below (T21.setTop (mkF m 172 ls17 [(.long (own_sum i (own_rq f C)))])) _
  refine XS.lload X21.here hx rfl (hb hby d5_172) (own_Lv_get Lv17 7 rfl) ?_
  show Steps p.tables e below (T21.setTop (mkF m 174 ls17 [(.long (own_sum C (own_cel2 f C i))), (.long (own_sum i (own_rq f C)))])) _
  refine XS.ladd X21.here hx rfl (hb hby d5_174) rfl ?_
  show Steps p.tables e below (T21.setTop (mkF m 175 ls17 [(.long ((own_sum i (own_rq f C)) + (own_sum C (own_cel2 f C i))))])) _
  refine XS.lstoreN X21.here hx rfl (hb hby d5_175) rfl (l' := ls22) sl22 ?_
  show Steps p.tables e below (T21.setTop (mkF m 176 ls22 [])) _
  refine XS.lload X21.here hx rfl (hb hby d5_176) (own_Lv_get Lv22 3 rfl) ?_
  show Steps p.tables e below (T21.setTop (mkF m 178 ls22 [(.long (own_sum i (own_rs2 f C)))])) _
  refine XS.lload X21.here hx rfl (hb hby d5_178) (own_Lv_get Lv22 6 rfl) ?_
  show Steps p.tables e below (T21.setTop (mkF m 180 ls22 [(.long (own_sum C (own_cel f C i))), (.long (own_sum i (own_rs2 f C)))])) _
  refine XS.lload X21.here hx rfl (hb hby d5_180) (own_Lv_get Lv22 6 rfl) ?_
  show Steps p.tables e below (T21.setTop (mkF m 182 ls22 [(.long (own_sum C (own_cel f C i))), (.long (own_sum C (own_cel f C i))), (.long (own_sum i (own_rs2 f C)))])) _
  refine XS.lmul X21.here hx rfl (hb hby d5_182) rfl ?_
  show Steps p.tables e below (T21.setTop (mkF m 183 ls22 [(.long ((own_sum C (own_cel f C i)) * (own_sum C (own_cel f C i)))), (.long (own_sum i (own_rs2 f C)))])) _
  refine XS.ladd X21.here hx rfl (hb hby d5_183) rfl ?_
  show Steps p.tables e below (T21.setTop (mkF m 184 ls22 [(.long ((own_sum i (own_rs2 f C)) + ((own_sum C (own_cel f C i)) * (own_sum C (own_cel f C i)))))])) _
  refine XS.lstore X21.here hx rfl (hb hby d5_184) rfl (l' := ls23) sl23 ?_
  show Steps p.tables e below (T21.setTop (mkF m 186 ls23 [])) _
  refine XS.iinc X21.here hx rfl (hb hby d5_186) (own_Lv_get Lv23 5 rfl) (l' := ls24) sl24 ?_
  show Steps p.tables e below (T21.setTop (mkF m 189 ls24 [])) _
  refine XS.goto X21.here hx rfl (pc0 := 189) (pc' := 58) rfl (hb hby d5_189) (by decide) (by decide) ?_
  exact kt
set_option maxRecDepth 65536 in
set_option maxHeartbeats 40000000 in
theorem tA4 {p : Program} {l : Launch} {e : Env} {s : State} {m : MethodId} {args : Array Value} {below : List Frame} {meth : Method} {c : Code} {Z : State} {a0 : Array Value} {n0 : Nat} {a : Addr} {A : Nat → Addr} {N : Nat} {f : Nat → Int32} {r k : Int32} {R C : Nat} {q : Int64} (cx : own_Cx p s m c Z a0 n0 a A N r k R C)  {T0 : State} {ls0 : Array Slot} (S0 : own_St p l e own_RC s m args below meth c 25 n0 T0 ls0 [(0, (.ref a)), (1, (.long q)), (3, (.long (own_sum R (own_rq f C)))), (5, (.long (own_sum R (own_rs2 f C)))), (7, (.long (0 : Int64))), (9, (.int (own_i R)))] (own_B Z a A N f r k (own_pre (own_rs f C) R) (own_pre (own_rq f C) R) own_z (own_cs (own_cel f C) C R 0) (own_cs (own_cel2 f C) C R 0) own_z)) :
    own_To p l e own_RC s m args below meth c 25 n0 T0 (mkF m 58 ls0 []) 195 [(0, (.ref a)), (1, (.long q)), (3, (.long (own_sq f R C))), (5, (.long (own_rss f R C))), (7, (.long (own_sum 0 (own_sqf (own_G4 f R C))))), (9, (.int (own_i 0)))] (own_B Z a A N f r k (own_G1 f R C) (own_G2 f R C) own_z (own_G4 f R C) (own_G5 f R C) own_z) := by
  obtain ⟨hx, hZ, hw, hby, hml, hown, hA, hn0, hR, hC, lR, lC, hN⟩ := cx
  obtain ⟨lc0, X0, N0, Lv0, B0⟩ := S0
  obtain ⟨T11, X11, e11, st11⟩ := getF X0 hx hZ hown (host := "") (Or.inl (hw _ (List.mem_of_getElem? (i := 31) rfl))) Via.refl rfl ((own_B_rows B0)) (g := (mkF m 61 ls0 [(.ref a), (.int (own_i R))])) rfl rfl (hb hby d5_61)
  obtain ⟨ls12, sl12, Lw12⟩ := own_Lv_st1 Lv0 (k := 9) (v := (.int (0 : Int32))) (by decide) rfl
  have Lv12 : own_Lv 25 ls12 [(9, (.int (own_i 0))), (0, (.ref a)), (1, (.long q)), (3, (.long (own_sum R (own_rq f C)))), (5, (.long (own_sum R (own_rs2 f C)))), (7, (.long (0 : Int64)))] := Lw12
  have Lv13 : own_Lv 25 ls12 [(0, (.ref a)), (1, (.long q)), (3, (.long (own_sq f R C))), (5, (.long (own_rss f R C))), (7, (.long (own_sum 0 (own_sqf (own_G4 f R C))))), (9, (.int (own_i 0)))] := own_Lv_pick Lv12 [1, 2, 3, 4, 5, 0] rfl
  refine ⟨T11, ls12, ⟨_, X11, N0, Lv13, by rw [e11]; exact B0⟩, fun target kt => ?_⟩
  show Steps p.tables e below (T0.setTop (mkF m 58 ls0 [])) _
  refine XS.iload X0.here hx rfl (hb hby d5_58) (own_Lv_get Lv0 5 rfl) ?_
  show Steps p.tables e below (T0.setTop (mkF m 60 ls0 [(.int (own_i R))])) _
  refine XS.aloadN X0.here hx rfl (hb hby d5_60) (own_Lv_get Lv0 0 rfl) rfl ?_
  show Steps p.tables e below (T0.setTop (mkF m 61 ls0 [(.ref a), (.int (own_i R))])) _
  refine st11 _ ?_
  show Steps p.tables e below (T11.setTop (mkF m 64 ls0 [(.int r), (.int (own_i R))])) _
  refine XS.icmpYes X11.here hx rfl (pc0 := 64) (pc' := 192) rfl (hb hby d5_64) rfl (flt (fun w => Nat.lt_irrefl R ((own_i_lt (by omega) hR).mp w) : ¬ ((own_i R) < r))).2.1 (by decide) (by decide) ?_
  show Steps p.tables e below (T11.setTop (mkF m 192 ls0 [])) _
  refine XS.iconst X11.here hx rfl (hb hby d5_192) ?_
  show Steps p.tables e below (T11.setTop (mkF m 193 ls0 [(.int (0 : Int32))])) _
  refine XS.istore X11.here hx rfl (hb hby d5_193) rfl (l' := ls12) sl12 ?_
  exact kt
set_option maxRecDepth 65536 in
set_option maxHeartbeats 40000000 in
theorem tB1 {p : Program} {l : Launch} {e : Env} {s : State} {m : MethodId} {args : Array Value} {below : List Frame} {meth : Method} {c : Code} {Z : State} {a0 : Array Value} {n0 : Nat} {a : Addr} {A : Nat → Addr} {N : Nat} {f : Nat → Int32} {r k : Int32} {R C : Nat} {q : Int64} (cx : own_Cx p s m c Z a0 n0 a A N r k R C) {j : Nat} (hj : j < C) {T0 : State} {ls0 : Array Slot} (S0 : own_St p l e own_RC s m args below meth c 25 n0 T0 ls0 [(0, (.ref a)), (1, (.long q)), (3, (.long (own_sq f R C))), (5, (.long (own_rss f R C))), (7, (.long (own_sum j (own_sqf (own_G4 f R C))))), (9, (.int (own_i j)))] (own_B Z a A N f r k (own_G1 f R C) (own_G2 f R C) own_z (own_G4 f R C) (own_G5 f R C) own_z)) :
    own_To p l e own_RC s m args below meth c 25 n0 T0 (mkF m 195 ls0 []) 195 [(0, (.ref a)), (1, (.long q)), (3, (.long (own_sq f R C))), (5, (.long (own_rss f R C))), (7, (.long (own_sum (j + 1) (own_sqf (own_G4 f R C))))), (9, (.int (own_i (j + 1))))] (own_B Z a A N f r k (own_G1 f R C) (own_G2 f R C) own_z (own_G4 f R C) (own_G5 f R C) own_z) := by
  obtain ⟨hx, hZ, hw, hby, hml, hown, hA, hn0, hR, hC, lR, lC, hN⟩ := cx
  obtain ⟨lc0, X0, N0, Lv0, B0⟩ := S0
  obtain ⟨T11, X11, e11, st11⟩ := getF X0 hx hZ hown (host := "") (Or.inl (hw _ (List.mem_of_getElem? (i := 33) rfl))) Via.refl rfl ((own_B_columns B0)) (g := (mkF m 198 ls0 [(.ref a), (.int (own_i j))])) rfl rfl (hb hby d5_198)
  obtain ⟨T12, X12, e12, st12⟩ := getF X11 hx hZ hown (host := "") (Or.inl (hw _ (List.mem_of_getElem? (i := 20) rfl))) Via.refl e11 ((own_B_columnSums B0)) (g := (mkF m 207 ls0 [(.ref a), (.long (own_sum j (own_sqf (own_G4 f R C))))])) rfl rfl (hb hby d5_207)
  obtain ⟨T13, X13, e13, st13⟩ := getF X12 hx hZ hown (host := "") (Or.inl (hw _ (List.mem_of_getElem? (i := 20) rfl))) Via.refl e12 ((own_B_columnSums B0)) (g := (mkF m 214 ls0 [(.ref a), (.long (own_G4 f R C j)), (.long (own_sum j (own_sqf (own_G4 f R C))))])) rfl rfl (hb hby d5_214)
  obtain ⟨ls14, sl14, Lw14⟩ := own_Lv_st2 Lv0 (k := 7) (v := (.long ((own_sum j (own_sqf (own_G4 f R C))) + ((own_G4 f R C j) * (own_G4 f R C j))))) (by decide) rfl
  have Lv14 : own_Lv 25 ls14 [(7, (.long (own_sum (j + 1) (own_sqf (own_G4 f R C))))), (0, (.ref a)), (1, (.long q)), (3, (.long (own_sq f R C))), (5, (.long (own_rss f R C))), (9, (.int (own_i j)))] := by rw [own_sum_succ j (own_sqf (own_G4 f R C))]; exact Lw14
  obtain ⟨ls15, sl15, Lw15⟩ := own_Lv_st1 Lv14 (k := 9) (v := (.int ((own_i j) + (1 : Int32)))) (by decide) rfl
  have Lv15 : own_Lv 25 ls15 [(9, (.int (own_i (j + 1)))), (7, (.long (own_sum (j + 1) (own_sqf (own_G4 f R C))))), (0, (.ref a)), (1, (.long q)), (3, (.long (own_sq f R C))), (5, (.long (own_rss f R C)))] := by rw [own_i_succ j]; exact Lw15
  have Lv16 : own_Lv 25 ls15 [(0, (.ref a)), (1, (.long q)), (3, (.long (own_sq f R C))), (5, (.long (own_rss f R C))), (7, (.long (own_sum (j + 1) (own_sqf (own_G4 f R C))))), (9, (.int (own_i (j + 1))))] := own_Lv_pick Lv15 [2, 3, 4, 5, 1, 0] rfl
  refine ⟨T13, ls15, ⟨_, X13, N0, Lv16, by rw [e13]; exact B0⟩, fun target kt => ?_⟩
  show Steps p.tables e below (T0.setTop (mkF m 195 ls0 [])) _
  refine XS.iload X0.here hx rfl (hb hby d5_195) (own_Lv_get Lv0 5 rfl) ?_
  show Steps p.tables e below (T0.setTop (mkF m 197 ls0 [(.int (own_i j))])) _
  refine XS.aloadN X0.here hx rfl (hb hby d5_197) (own_Lv_get Lv0 0 rfl) rfl ?_
  show Steps p.tables e below (T0.setTop (mkF m 198 ls0 [(.ref a), (.int (own_i j))])) _
  refine st11 _ ?_
  show Steps p.tables e below (T11.setTop (mkF m 201 ls0 [(.int k), (.int (own_i j))])) _
  refine XS.icmpNo X11.here hx rfl (hb hby d5_201) rfl (tlt ((own_i_lt (by omega) hC).mpr hj : (own_i j) < k)).2.1 ?_
  show Steps p.tables e below (T11.setTop (mkF m 204 ls0 [])) _
  refine XS.lload X11.here hx rfl (hb hby d5_204) (own_Lv_get Lv0 4 rfl) ?_
  show Steps p.tables e below (T11.setTop (mkF m 206 ls0 [(.long (own_sum j (own_sqf (own_G4 f R C))))])) _
  refine XS.aloadN X11.here hx rfl (hb hby d5_206) (own_Lv_get Lv0 0 rfl) rfl ?_
  show Steps p.tables e below (T11.setTop (mkF m 207 ls0 [(.ref a), (.long (own_sum j (own_sqf (own_G4 f R C))))])) _
  refine st12 _ ?_
  show Steps p.tables e below (T12.setTop (mkF m 210 ls0 [(.ref (A 4)), (.long (own_sum j (own_sqf (own_G4 f R C))))])) _
  refine XS.iload X12.here hx rfl (hb hby d5_210) (own_Lv_get Lv0 5 rfl) ?_
  show Steps p.tables e below (T12.setTop (mkF m 212 ls0 [(.int (own_i j)), (.ref (A 4)), (.long (own_sum j (own_sqf (own_G4 f R C))))])) _
  refine own_ldJ X12 hx hZ e12 (own_B_v4 B0) (own_i_toInt (by omega)) (by omega) (g := (mkF m 212 ls0 [(.int (own_i j)), (.ref (A 4)), (.long (own_sum j (own_sqf (own_G4 f R C))))])) rfl rfl (hb hby d5_212) _ ?_
  show Steps p.tables e below (T12.setTop (mkF m 213 ls0 [(.long (own_G4 f R C j)), (.long (own_sum j (own_sqf (own_G4 f R C))))])) _
  refine XS.aloadN X12.here hx rfl (hb hby d5_213) (own_Lv_get Lv0 0 rfl) rfl ?_
  show Steps p.tables e below (T12.setTop (mkF m 214 ls0 [(.ref a), (.long (own_G4 f R C j)), (.long (own_sum j (own_sqf (own_G4 f R C))))])) _
  refine st13 _ ?_
  show Steps p.tables e below (T13.setTop (mkF m 217 ls0 [(.ref (A 4)), (.long (own_G4 f R C j)), (.long (own_sum j (own_sqf (own_G4 f R C))))])) _
  refine XS.iload X13.here hx rfl (hb hby d5_217) (own_Lv_get Lv0 5 rfl) ?_
  show Steps p.tables e below (T13.setTop (mkF m 219 ls0 [(.int (own_i j)), (.ref (A 4)), (.long (own_G4 f R C j)), (.long (own_sum j (own_sqf (own_G4 f R C))))])) _
  refine own_ldJ X13 hx hZ e13 (own_B_v4 B0) (own_i_toInt (by omega)) (by omega) (g := (mkF m 219 ls0 [(.int (own_i j)), (.ref (A 4)), (.long (own_G4 f R C j)), (.long (own_sum j (own_sqf (own_G4 f R C))))])) rfl rfl (hb hby d5_219) _ ?_
  show Steps p.tables e below (T13.setTop (mkF m 220 ls0 [(.long (own_G4 f R C j)), (.long (own_G4 f R C j)), (.long (own_sum j (own_sqf (own_G4 f R C))))])) _
  refine XS.lmul X13.here hx rfl (hb hby d5_220) rfl ?_
  show Steps p.tables e below (T13.setTop (mkF m 221 ls0 [(.long ((own_G4 f R C j) * (own_G4 f R C j))), (.long (own_sum j (own_sqf (own_G4 f R C))))])) _
  refine XS.ladd X13.here hx rfl (hb hby d5_221) rfl ?_
  show Steps p.tables e below (T13.setTop (mkF m 222 ls0 [(.long ((own_sum j (own_sqf (own_G4 f R C))) + ((own_G4 f R C j) * (own_G4 f R C j))))])) _
  refine XS.lstore X13.here hx rfl (hb hby d5_222) rfl (l' := ls14) sl14 ?_
  show Steps p.tables e below (T13.setTop (mkF m 224 ls14 [])) _
  refine XS.iinc X13.here hx rfl (hb hby d5_224) (own_Lv_get Lv14 5 rfl) (l' := ls15) sl15 ?_
  show Steps p.tables e below (T13.setTop (mkF m 227 ls15 [])) _
  refine XS.goto X13.here hx rfl (pc0 := 227) (pc' := 195) rfl (hb hby d5_227) (by decide) (by decide) ?_
  exact kt
set_option maxRecDepth 65536 in
set_option maxHeartbeats 40000000 in
theorem tB2 {p : Program} {l : Launch} {e : Env} {s : State} {m : MethodId} {args : Array Value} {below : List Frame} {meth : Method} {c : Code} {Z : State} {a0 : Array Value} {n0 : Nat} {a : Addr} {A : Nat → Addr} {N : Nat} {f : Nat → Int32} {r k : Int32} {R C : Nat} {q : Int64} (cx : own_Cx p s m c Z a0 n0 a A N r k R C)  {T0 : State} {ls0 : Array Slot} (S0 : own_St p l e own_RC s m args below meth c 25 n0 T0 ls0 [(0, (.ref a)), (1, (.long q)), (3, (.long (own_sq f R C))), (5, (.long (own_rss f R C))), (7, (.long (own_sum C (own_sqf (own_G4 f R C))))), (9, (.int (own_i C)))] (own_B Z a A N f r k (own_G1 f R C) (own_G2 f R C) own_z (own_G4 f R C) (own_G5 f R C) own_z)) :
    own_To p l e own_RC s m args below meth c 25 n0 T0 (mkF m 195 ls0 []) 233 [(0, (.ref a)), (1, (.long q)), (3, (.long (own_sq f R C))), (5, (.long (own_rss f R C))), (7, (.long (own_css f R C))), (9, (.int (own_i 0)))] (own_B Z a A N f r k (own_G1 f R C) (own_G2 f R C) (own_pre (own_rr f R C) 0) (own_G4 f R C) (own_G5 f R C) own_z) := by
  obtain ⟨hx, hZ, hw, hby, hml, hown, hA, hn0, hR, hC, lR, lC, hN⟩ := cx
  obtain ⟨lc0, X0, N0, Lv0, B0⟩ := S0
  obtain ⟨T11, X11, e11, st11⟩ := getF X0 hx hZ hown (host := "") (Or.inl (hw _ (List.mem_of_getElem? (i := 33) rfl))) Via.refl rfl ((own_B_columns B0)) (g := (mkF m 198 ls0 [(.ref a), (.int (own_i C))])) rfl rfl (hb hby d5_198)
  obtain ⟨ls12, sl12, Lw12⟩ := own_Lv_st1 Lv0 (k := 9) (v := (.int (0 : Int32))) (by decide) rfl
  have Lv12 : own_Lv 25 ls12 [(9, (.int (own_i 0))), (0, (.ref a)), (1, (.long q)), (3, (.long (own_sq f R C))), (5, (.long (own_rss f R C))), (7, (.long (own_sum C (own_sqf (own_G4 f R C)))))] := Lw12
  have Lv13 : own_Lv 25 ls12 [(0, (.ref a)), (1, (.long q)), (3, (.long (own_sq f R C))), (5, (.long (own_rss f R C))), (7, (.long (own_css f R C))), (9, (.int (own_i 0)))] := own_Lv_pick Lv12 [1, 2, 3, 4, 5, 0] rfl
  have Bc1 : own_B Z a A N f r k (own_G1 f R C) (own_G2 f R C) (own_pre (own_rr f R C) 0) (own_G4 f R C) (own_G5 f R C) own_z T0.heap := by rw [own_pre_0]; exact B0
  refine ⟨T11, ls12, ⟨_, X11, N0, Lv13, by rw [e11]; exact Bc1⟩, fun target kt => ?_⟩
  show Steps p.tables e below (T0.setTop (mkF m 195 ls0 [])) _
  refine XS.iload X0.here hx rfl (hb hby d5_195) (own_Lv_get Lv0 5 rfl) ?_
  show Steps p.tables e below (T0.setTop (mkF m 197 ls0 [(.int (own_i C))])) _
  refine XS.aloadN X0.here hx rfl (hb hby d5_197) (own_Lv_get Lv0 0 rfl) rfl ?_
  show Steps p.tables e below (T0.setTop (mkF m 198 ls0 [(.ref a), (.int (own_i C))])) _
  refine st11 _ ?_
  show Steps p.tables e below (T11.setTop (mkF m 201 ls0 [(.int k), (.int (own_i C))])) _
  refine XS.icmpYes X11.here hx rfl (pc0 := 201) (pc' := 230) rfl (hb hby d5_201) rfl (flt (fun w => Nat.lt_irrefl C ((own_i_lt (by omega) hC).mp w) : ¬ ((own_i C) < k))).2.1 (by decide) (by decide) ?_
  show Steps p.tables e below (T11.setTop (mkF m 230 ls0 [])) _
  refine XS.iconst X11.here hx rfl (hb hby d5_230) ?_
  show Steps p.tables e below (T11.setTop (mkF m 231 ls0 [(.int (0 : Int32))])) _
  refine XS.istore X11.here hx rfl (hb hby d5_231) rfl (l' := ls12) sl12 ?_
  exact kt
set_option maxRecDepth 65536 in
set_option maxHeartbeats 40000000 in
theorem tC1 {p : Program} {l : Launch} {e : Env} {s : State} {m : MethodId} {args : Array Value} {below : List Frame} {meth : Method} {c : Code} {Z : State} {a0 : Array Value} {n0 : Nat} {a : Addr} {A : Nat → Addr} {N : Nat} {f : Nat → Int32} {r k : Int32} {R C : Nat} {q : Int64} (cx : own_Cx p s m c Z a0 n0 a A N r k R C) {i j : Nat} (hi : i < R) (hj : j < C) {T0 : State} {ls0 : Array Slot} (S0 : own_St p l e own_RC s m args below meth c 25 n0 T0 ls0 [(0, (.ref a)), (1, (.long q)), (3, (.long (own_sq f R C))), (5, (.long (own_rss f R C))), (7, (.long (own_css f R C))), (9, (.int (own_i i))), (10, (.long (own_sum j (own_dot (own_G4 f R C) (own_cel f C i))))), (12, (.int (own_i j)))] (own_B Z a A N f r k (own_G1 f R C) (own_G2 f R C) (own_pre (own_rr f R C) i) (own_G4 f R C) (own_G5 f R C) own_z)) :
    own_To p l e own_RC s m args below meth c 25 n0 T0 (mkF m 248 ls0 []) 248 [(0, (.ref a)), (1, (.long q)), (3, (.long (own_sq f R C))), (5, (.long (own_rss f R C))), (7, (.long (own_css f R C))), (9, (.int (own_i i))), (10, (.long (own_sum (j + 1) (own_dot (own_G4 f R C) (own_cel f C i))))), (12, (.int (own_i (j + 1))))] (own_B Z a A N f r k (own_G1 f R C) (own_G2 f R C) (own_pre (own_rr f R C) i) (own_G4 f R C) (own_G5 f R C) own_z) := by
  obtain ⟨hx, hZ, hw, hby, hml, hown, hA, hn0, hR, hC, lR, lC, hN⟩ := cx
  obtain ⟨lc0, X0, N0, Lv0, B0⟩ := S0
  obtain ⟨T11, X11, e11, st11⟩ := getF X0 hx hZ hown (host := "") (Or.inl (hw _ (List.mem_of_getElem? (i := 33) rfl))) Via.refl rfl ((own_B_columns B0)) (g := (mkF m 251 ls0 [(.ref a), (.int (own_i j))])) rfl rfl (hb hby d5_251)
  obtain ⟨T12, X12, e12, st12⟩ := getF X11 hx hZ hown (host := "") (Or.inl (hw _ (List.mem_of_getElem? (i := 20) rfl))) Via.refl e11 ((own_B_columnSums B0)) (g := (mkF m 260 ls0 [(.ref a), (.long (own_sum j (own_dot (own_G4 f R C) (own_cel f C i))))])) rfl rfl (hb hby d5_260)
  obtain ⟨T13, X13, e13, st13⟩ := getF X12 hx hZ hown (host := "") (Or.inl (hw _ (List.mem_of_getElem? (i := 11) rfl))) Via.refl e12 ((own_B_cells B0)) (g := (mkF m 267 ls0 [(.ref a), (.long (own_G4 f R C j)), (.long (own_sum j (own_dot (own_G4 f R C) (own_cel f C i))))])) rfl rfl (hb hby d5_267)
  obtain ⟨T14, X14, e14, st14⟩ := getF X13 hx hZ hown (host := "") (Or.inl (hw _ (List.mem_of_getElem? (i := 33) rfl))) Via.refl e13 ((own_B_columns B0)) (g := (mkF m 273 ls0 [(.ref a), (.int (own_i i)), (.ref (A 0)), (.long (own_G4 f R C j)), (.long (own_sum j (own_dot (own_G4 f R C) (own_cel f C i))))])) rfl rfl (hb hby d5_273)
  obtain ⟨ls15, sl15, Lw15⟩ := own_Lv_st2 Lv0 (k := 10) (v := (.long ((own_sum j (own_dot (own_G4 f R C) (own_cel f C i))) + ((own_G4 f R C j) * ((f (i * C + j)).toInt64))))) (by decide) rfl
  have Lv15 : own_Lv 25 ls15 [(10, (.long (own_sum (j + 1) (own_dot (own_G4 f R C) (own_cel f C i))))), (0, (.ref a)), (1, (.long q)), (3, (.long (own_sq f R C))), (5, (.long (own_rss f R C))), (7, (.long (own_css f R C))), (9, (.int (own_i i))), (12, (.int (own_i j)))] := by rw [own_sum_succ j (own_dot (own_G4 f R C) (own_cel f C i))]; exact Lw15
  obtain ⟨ls16, sl16, Lw16⟩ := own_Lv_st1 Lv15 (k := 12) (v := (.int ((own_i j) + (1 : Int32)))) (by decide) rfl
  have Lv16 : own_Lv 25 ls16 [(12, (.int (own_i (j + 1)))), (10, (.long (own_sum (j + 1) (own_dot (own_G4 f R C) (own_cel f C i))))), (0, (.ref a)), (1, (.long q)), (3, (.long (own_sq f R C))), (5, (.long (own_rss f R C))), (7, (.long (own_css f R C))), (9, (.int (own_i i)))] := by rw [own_i_succ j]; exact Lw16
  have Lv17 : own_Lv 25 ls16 [(0, (.ref a)), (1, (.long q)), (3, (.long (own_sq f R C))), (5, (.long (own_rss f R C))), (7, (.long (own_css f R C))), (9, (.int (own_i i))), (10, (.long (own_sum (j + 1) (own_dot (own_G4 f R C) (own_cel f C i))))), (12, (.int (own_i (j + 1))))] := own_Lv_pick Lv16 [2, 3, 4, 5, 6, 7, 1, 0] rfl
  refine ⟨T14, ls16, ⟨_, X14, N0, Lv17, by rw [e14]; exact B0⟩, fun target kt => ?_⟩
  show Steps p.tables e below (T0.setTop (mkF m 248 ls0 [])) _
  refine XS.iload X0.here hx rfl (hb hby d5_248) (own_Lv_get Lv0 7 rfl) ?_
  show Steps p.tables e below (T0.setTop (mkF m 250 ls0 [(.int (own_i j))])) _
  refine XS.aloadN X0.here hx rfl (hb hby d5_250) (own_Lv_get Lv0 0 rfl) rfl ?_
  show Steps p.tables e below (T0.setTop (mkF m 251 ls0 [(.ref a), (.int (own_i j))])) _
  refine st11 _ ?_
  show Steps p.tables e below (T11.setTop (mkF m 254 ls0 [(.int k), (.int (own_i j))])) _
  refine XS.icmpNo X11.here hx rfl (hb hby d5_254) rfl (tlt ((own_i_lt (by omega) hC).mpr hj : (own_i j) < k)).2.1 ?_
  show Steps p.tables e below (T11.setTop (mkF m 257 ls0 [])) _
  refine XS.lload X11.here hx rfl (hb hby d5_257) (own_Lv_get Lv0 6 rfl) ?_
  show Steps p.tables e below (T11.setTop (mkF m 259 ls0 [(.long (own_sum j (own_dot (own_G4 f R C) (own_cel f C i))))])) _
  refine XS.aloadN X11.here hx rfl (hb hby d5_259) (own_Lv_get Lv0 0 rfl) rfl ?_
  show Steps p.tables e below (T11.setTop (mkF m 260 ls0 [(.ref a), (.long (own_sum j (own_dot (own_G4 f R C) (own_cel f C i))))])) _
  refine st12 _ ?_
  show Steps p.tables e below (T12.setTop (mkF m 263 ls0 [(.ref (A 4)), (.long (own_sum j (own_dot (own_G4 f R C) (own_cel f C i))))])) _
  refine XS.iload X12.here hx rfl (hb hby d5_263) (own_Lv_get Lv0 7 rfl) ?_
  show Steps p.tables e below (T12.setTop (mkF m 265 ls0 [(.int (own_i j)), (.ref (A 4)), (.long (own_sum j (own_dot (own_G4 f R C) (own_cel f C i))))])) _
  refine own_ldJ X12 hx hZ e12 (own_B_v4 B0) (own_i_toInt (by omega)) (by omega) (g := (mkF m 265 ls0 [(.int (own_i j)), (.ref (A 4)), (.long (own_sum j (own_dot (own_G4 f R C) (own_cel f C i))))])) rfl rfl (hb hby d5_265) _ ?_
  show Steps p.tables e below (T12.setTop (mkF m 266 ls0 [(.long (own_G4 f R C j)), (.long (own_sum j (own_dot (own_G4 f R C) (own_cel f C i))))])) _
  refine XS.aloadN X12.here hx rfl (hb hby d5_266) (own_Lv_get Lv0 0 rfl) rfl ?_
  show Steps p.tables e below (T12.setTop (mkF m 267 ls0 [(.ref a), (.long (own_G4 f R C j)), (.long (own_sum j (own_dot (own_G4 f R C) (own_cel f C i))))])) _
  refine st13 _ ?_
  show Steps p.tables e below (T13.setTop (mkF m 270 ls0 [(.ref (A 0)), (.long (own_G4 f R C j)), (.long (own_sum j (own_dot (own_G4 f R C) (own_cel f C i))))])) _
  refine XS.iload X13.here hx rfl (hb hby d5_270) (own_Lv_get Lv0 5 rfl) ?_
  show Steps p.tables e below (T13.setTop (mkF m 272 ls0 [(.int (own_i i)), (.ref (A 0)), (.long (own_G4 f R C j)), (.long (own_sum j (own_dot (own_G4 f R C) (own_cel f C i))))])) _
  refine XS.aloadN X13.here hx rfl (hb hby d5_272) (own_Lv_get Lv0 0 rfl) rfl ?_
  show Steps p.tables e below (T13.setTop (mkF m 273 ls0 [(.ref a), (.int (own_i i)), (.ref (A 0)), (.long (own_G4 f R C j)), (.long (own_sum j (own_dot (own_G4 f R C) (own_cel f C i))))])) _
  refine st14 _ ?_
  show Steps p.tables e below (T14.setTop (mkF m 276 ls0 [(.int k), (.int (own_i i)), (.ref (A 0)), (.long (own_G4 f R C j)), (.long (own_sum j (own_dot (own_G4 f R C) (own_cel f C i))))])) _
  refine XS.imul X14.here hx rfl (hb hby d5_276) rfl ?_
  show Steps p.tables e below (T14.setTop (mkF m 277 ls0 [(.int ((own_i i) * k)), (.ref (A 0)), (.long (own_G4 f R C j)), (.long (own_sum j (own_dot (own_G4 f R C) (own_cel f C i))))])) _
  refine XS.iload X14.here hx rfl (hb hby d5_277) (own_Lv_get Lv0 7 rfl) ?_
  show Steps p.tables e below (T14.setTop (mkF m 279 ls0 [(.int (own_i j)), (.int ((own_i i) * k)), (.ref (A 0)), (.long (own_G4 f R C j)), (.long (own_sum j (own_dot (own_G4 f R C) (own_cel f C i))))])) _
  refine XS.iadd X14.here hx rfl (hb hby d5_279) rfl ?_
  show Steps p.tables e below (T14.setTop (mkF m 280 ls0 [(.int (((own_i i) * k) + (own_i j))), (.ref (A 0)), (.long (own_G4 f R C j)), (.long (own_sum j (own_dot (own_G4 f R C) (own_cel f C i))))])) _
  refine own_ldI X14 hx hZ e14 (own_B_v0 B0) (own_idx (N := N) hC lC hi lR hj) (own_inN hi hj hN) (g := (mkF m 280 ls0 [(.int (((own_i i) * k) + (own_i j))), (.ref (A 0)), (.long (own_G4 f R C j)), (.long (own_sum j (own_dot (own_G4 f R C) (own_cel f C i))))])) rfl rfl (hb hby d5_280) _ ?_
  show Steps p.tables e below (T14.setTop (mkF m 281 ls0 [(.int (f (i * C + j))), (.long (own_G4 f R C j)), (.long (own_sum j (own_dot (own_G4 f R C) (own_cel f C i))))])) _
  refine XS.i2l X14.here hx rfl (hb hby d5_281) rfl ?_
  show Steps p.tables e below (T14.setTop (mkF m 282 ls0 [(.long ((f (i * C + j)).toInt64)), (.long (own_G4 f R C j)), (.long (own_sum j (own_dot (own_G4 f R C) (own_cel f C i))))])) _
  refine XS.lmul X14.here hx rfl (hb hby d5_282) rfl ?_
  show Steps p.tables e below (T14.setTop (mkF m 283 ls0 [(.long ((own_G4 f R C j) * ((f (i * C + j)).toInt64))), (.long (own_sum j (own_dot (own_G4 f R C) (own_cel f C i))))])) _
  refine XS.ladd X14.here hx rfl (hb hby d5_283) rfl ?_
  show Steps p.tables e below (T14.setTop (mkF m 284 ls0 [(.long ((own_sum j (own_dot (own_G4 f R C) (own_cel f C i))) + ((own_G4 f R C j) * ((f (i * C + j)).toInt64))))])) _
  refine XS.lstore X14.here hx rfl (hb hby d5_284) rfl (l' := ls15) sl15 ?_
  show Steps p.tables e below (T14.setTop (mkF m 286 ls15 [])) _
  refine XS.iinc X14.here hx rfl (hb hby d5_286) (own_Lv_get Lv15 7 rfl) (l' := ls16) sl16 ?_
  show Steps p.tables e below (T14.setTop (mkF m 289 ls16 [])) _
  refine XS.goto X14.here hx rfl (pc0 := 289) (pc' := 248) rfl (hb hby d5_289) (by decide) (by decide) ?_
  exact kt
set_option maxRecDepth 65536 in
set_option maxHeartbeats 40000000 in
theorem tC2 {p : Program} {l : Launch} {e : Env} {s : State} {m : MethodId} {args : Array Value} {below : List Frame} {meth : Method} {c : Code} {Z : State} {a0 : Array Value} {n0 : Nat} {a : Addr} {A : Nat → Addr} {N : Nat} {f : Nat → Int32} {r k : Int32} {R C : Nat} {q : Int64} (cx : own_Cx p s m c Z a0 n0 a A N r k R C) {i : Nat} (hi : i < R) {T0 : State} {ls0 : Array Slot} (S0 : own_St p l e own_RC s m args below meth c 25 n0 T0 ls0 [(0, (.ref a)), (1, (.long q)), (3, (.long (own_sq f R C))), (5, (.long (own_rss f R C))), (7, (.long (own_css f R C))), (9, (.int (own_i i)))] (own_B Z a A N f r k (own_G1 f R C) (own_G2 f R C) (own_pre (own_rr f R C) i) (own_G4 f R C) (own_G5 f R C) own_z)) :
    own_To p l e own_RC s m args below meth c 25 n0 T0 (mkF m 233 ls0 []) 233 [(0, (.ref a)), (1, (.long q)), (3, (.long (own_sq f R C))), (5, (.long (own_rss f R C))), (7, (.long (own_css f R C))), (9, (.int (own_i (i + 1))))] (own_B Z a A N f r k (own_G1 f R C) (own_G2 f R C) (own_pre (own_rr f R C) (i + 1)) (own_G4 f R C) (own_G5 f R C) own_z) := by
  obtain ⟨hx, hZ, hw, hby, hml, hown, hA, hn0, hR, hC, lR, lC, hN⟩ := cx
  obtain ⟨lc0, X0, N0, Lv0, B0⟩ := S0
  obtain ⟨T11, X11, e11, st11⟩ := getF X0 hx hZ hown (host := "") (Or.inl (hw _ (List.mem_of_getElem? (i := 31) rfl))) Via.refl rfl ((own_B_rows B0)) (g := (mkF m 236 ls0 [(.ref a), (.int (own_i i))])) rfl rfl (hb hby d5_236)
  obtain ⟨ls12, sl12, Lw12⟩ := own_Lv_st2 Lv0 (k := 10) (v := (.long (0 : Int64))) (by decide) rfl
  have Lv12 : own_Lv 25 ls12 [(10, (.long (own_sum 0 (own_dot (own_G4 f R C) (own_cel f C i))))), (0, (.ref a)), (1, (.long q)), (3, (.long (own_sq f R C))), (5, (.long (own_rss f R C))), (7, (.long (own_css f R C))), (9, (.int (own_i i)))] := Lw12
  obtain ⟨ls13, sl13, Lw13⟩ := own_Lv_st1 Lv12 (k := 12) (v := (.int (0 : Int32))) (by decide) rfl
  have Lv13 : own_Lv 25 ls13 [(12, (.int (own_i 0))), (10, (.long (own_sum 0 (own_dot (own_G4 f R C) (own_cel f C i))))), (0, (.ref a)), (1, (.long q)), (3, (.long (own_sq f R C))), (5, (.long (own_rss f R C))), (7, (.long (own_css f R C))), (9, (.int (own_i i)))] := Lw13
  have Lv14 : own_Lv 25 ls13 [(0, (.ref a)), (1, (.long q)), (3, (.long (own_sq f R C))), (5, (.long (own_rss f R C))), (7, (.long (own_css f R C))), (9, (.int (own_i i))), (10, (.long (own_sum 0 (own_dot (own_G4 f R C) (own_cel f C i))))), (12, (.int (own_i 0)))] := own_Lv_pick Lv13 [2, 3, 4, 5, 6, 7, 1, 0] rfl
  obtain ⟨T15, ls15, ⟨lc15, X15, N15, Lv15, Bl15⟩, st15⟩ := own_loop (pc := 248) (fun j => [(0, (.ref a)), (1, (.long q)), (3, (.long (own_sq f R C))), (5, (.long (own_rss f R C))), (7, (.long (own_css f R C))), (9, (.int (own_i i))), (10, (.long (own_sum j (own_dot (own_G4 f R C) (own_cel f C i))))), (12, (.int (own_i j)))]) (fun j => own_B Z a A N f r k (own_G1 f R C) (own_G2 f R C) (own_pre (own_rr f R C) i) (own_G4 f R C) (own_G5 f R C) own_z) (N := C) (fun j hj T ls S => tC1 (cx := ⟨hx, hZ, hw, hby, hml, hown, hA, hn0, hR, hC, lR, lC, hN⟩) hi hj S) C 0 (Nat.zero_add C) T11 ls13 ⟨_, X11, N0, Lv14, (by rw [e11]; exact B0)⟩
  obtain ⟨T16, X16, e16, st16⟩ := getF X15 hx hZ hown (host := "") (Or.inl (hw _ (List.mem_of_getElem? (i := 33) rfl))) Via.refl rfl ((own_B_columns Bl15)) (g := (mkF m 251 ls15 [(.ref a), (.int (own_i C))])) rfl rfl (hb hby d5_251)
  obtain ⟨T17, X17, e17, st17⟩ := getF X16 hx hZ hown (host := "") (Or.inl (hw _ (List.mem_of_getElem? (i := 18) rfl))) Via.refl e16 ((own_B_rowRest Bl15)) (g := (mkF m 293 ls15 [(.ref a)])) rfl rfl (hb hby d5_293)
  obtain ⟨T18, X18, e18, st18⟩ := getF X17 hx hZ hown (host := "") (Or.inl (hw _ (List.mem_of_getElem? (i := 16) rfl))) Via.refl e17 ((own_B_rowSquares Bl15)) (g := (mkF m 308 ls15 [(.ref a), (.long ((own_css f R C) - ((2 : Int64) * (own_sum C (own_dot (own_G4 f R C) (own_cel f C i)))))), (.int (own_i i)), (.ref (A 3))])) rfl rfl (hb hby d5_308)
  obtain ⟨T19, h19, X19, e19, W19, V19, st19⟩ := own_stJ X18 hx hZ e18 (own_B_v3 Bl15) (own_i_toInt (by omega)) (by omega) (g := (mkF m 315 ls15 [(.long (((own_css f R C) - ((2 : Int64) * (own_sum C (own_dot (own_G4 f R C) (own_cel f C i))))) + (own_G2 f R C i))), (.int (own_i i)), (.ref (A 3))])) rfl rfl (hb hby d5_315)
  have N19 := Fr.snoc X19 N15 (hn0.2 3 (by decide))
  have B19 := own_B_st3 hA Bl15 W19 V19
  obtain ⟨ls20, sl20, Lw20⟩ := own_Lv_st1 Lv15 (k := 9) (v := (.int ((own_i i) + (1 : Int32)))) (by decide) rfl
  have Lv20 : own_Lv 25 ls20 [(9, (.int (own_i (i + 1)))), (0, (.ref a)), (1, (.long q)), (3, (.long (own_sq f R C))), (5, (.long (own_rss f R C))), (7, (.long (own_css f R C))), (10, (.long (own_sum C (own_dot (own_G4 f R C) (own_cel f C i))))), (12, (.int (own_i C)))] := by rw [own_i_succ i]; exact Lw20
  have Lv21 : own_Lv 25 ls20 [(0, (.ref a)), (1, (.long q)), (3, (.long (own_sq f R C))), (5, (.long (own_rss f R C))), (7, (.long (own_css f R C))), (9, (.int (own_i (i + 1))))] := own_Lv_pick Lv20 [1, 2, 3, 4, 5, 0] rfl
  have Bc1 : own_B Z a A N f r k (own_G1 f R C) (own_G2 f R C) (own_pre (own_rr f R C) (i + 1)) (own_G4 f R C) (own_G5 f R C) own_z h19 := by rw [← own_pre_up (own_rr f R C) i]; exact B19
  refine ⟨T19, ls20, ⟨_, X19, N19, Lv21, by rw [e19]; exact Bc1⟩, fun target kt => ?_⟩
  show Steps p.tables e below (T0.setTop (mkF m 233 ls0 [])) _
  refine XS.iload X0.here hx rfl (hb hby d5_233) (own_Lv_get Lv0 5 rfl) ?_
  show Steps p.tables e below (T0.setTop (mkF m 235 ls0 [(.int (own_i i))])) _
  refine XS.aloadN X0.here hx rfl (hb hby d5_235) (own_Lv_get Lv0 0 rfl) rfl ?_
  show Steps p.tables e below (T0.setTop (mkF m 236 ls0 [(.ref a), (.int (own_i i))])) _
  refine st11 _ ?_
  show Steps p.tables e below (T11.setTop (mkF m 239 ls0 [(.int r), (.int (own_i i))])) _
  refine XS.icmpNo X11.here hx rfl (hb hby d5_239) rfl (tlt ((own_i_lt (by omega) hR).mpr hi : (own_i i) < r)).2.1 ?_
  show Steps p.tables e below (T11.setTop (mkF m 242 ls0 [])) _
  refine XS.lconst X11.here hx rfl (hb hby d5_242) ?_
  show Steps p.tables e below (T11.setTop (mkF m 243 ls0 [(.long (0 : Int64))])) _
  refine XS.lstore X11.here hx rfl (hb hby d5_243) rfl (l' := ls12) sl12 ?_
  show Steps p.tables e below (T11.setTop (mkF m 245 ls12 [])) _
  refine XS.iconst X11.here hx rfl (hb hby d5_245) ?_
  show Steps p.tables e below (T11.setTop (mkF m 246 ls12 [(.int (0 : Int32))])) _
  refine XS.istore X11.here hx rfl (hb hby d5_246) rfl (l' := ls13) sl13 ?_
  show Steps p.tables e below (T11.setTop (mkF m 248 ls13 [])) _
  refine st15 _ ?_
  show Steps p.tables e below (T15.setTop (mkF m 248 ls15 [])) _
  refine XS.iload X15.here hx rfl (hb hby d5_248) (own_Lv_get Lv15 7 rfl) ?_
  show Steps p.tables e below (T15.setTop (mkF m 250 ls15 [(.int (own_i C))])) _
  refine XS.aloadN X15.here hx rfl (hb hby d5_250) (own_Lv_get Lv15 0 rfl) rfl ?_
  show Steps p.tables e below (T15.setTop (mkF m 251 ls15 [(.ref a), (.int (own_i C))])) _
  refine st16 _ ?_
  show Steps p.tables e below (T16.setTop (mkF m 254 ls15 [(.int k), (.int (own_i C))])) _
  refine XS.icmpYes X16.here hx rfl (pc0 := 254) (pc' := 292) rfl (hb hby d5_254) rfl (flt (fun w => Nat.lt_irrefl C ((own_i_lt (by omega) hC).mp w) : ¬ ((own_i C) < k))).2.1 (by decide) (by decide) ?_
  show Steps p.tables e below (T16.setTop (mkF m 292 ls15 [])) _
  refine XS.aloadN X16.here hx rfl (hb hby d5_292) (own_Lv_get Lv15 0 rfl) rfl ?_
  show Steps p.tables e below (T16.setTop (mkF m 293 ls15 [(.ref a)])) _
  refine st17 _ ?_
  show Steps p.tables e below (T17.setTop (mkF m 296 ls15 [(.ref (A 3))])) _
  refine XS.iload X17.here hx rfl (hb hby d5_296) (own_Lv_get Lv15 5 rfl) ?_
  show Steps p.tables e below (T17.setTop (mkF m 298 ls15 [(.int (own_i i)), (.ref (A 3))])) _
  refine XS.lload X17.here hx rfl (hb hby d5_298) (own_Lv_get Lv15 4 rfl) ?_
  show Steps p.tables e below (T17.setTop (mkF m 300 ls15 [(.long (own_css f R C)), (.int (own_i i)), (.ref (A 3))])) _
  refine X17.ldc2Long hx hown (mvT hZ (hw _ (List.mem_of_getElem? (i := 51) rfl))) (g := (mkF m 300 ls15 [(.long (own_css f R C)), (.int (own_i i)), (.ref (A 3))])) rfl (hb hby d5_300) _ ?_
  show Steps p.tables e below (T17.setTop (mkF m 303 ls15 [(.long (2 : Int64)), (.long (own_css f R C)), (.int (own_i i)), (.ref (A 3))])) _
  refine XS.lload X17.here hx rfl (hb hby d5_303) (own_Lv_get Lv15 6 rfl) ?_
  show Steps p.tables e below (T17.setTop (mkF m 305 ls15 [(.long (own_sum C (own_dot (own_G4 f R C) (own_cel f C i)))), (.long (2 : Int64)), (.long (own_css f R C)), (.int (own_i i)), (.ref (A 3))])) _
  refine XS.lmul X17.here hx rfl (hb hby d5_305) rfl ?_
  show Steps p.tables e below (T17.setTop (mkF m 306 ls15 [(.long ((2 : Int64) * (own_sum C (own_dot (own_G4 f R C) (own_cel f C i))))), (.long (own_css f R C)), (.int (own_i i)), (.ref (A 3))])) _
  refine XS.lsub X17.here hx rfl (hb hby d5_306) rfl ?_
  show Steps p.tables e below (T17.setTop (mkF m 307 ls15 [(.long ((own_css f R C) - ((2 : Int64) * (own_sum C (own_dot (own_G4 f R C) (own_cel f C i)))))), (.int (own_i i)), (.ref (A 3))])) _
  refine XS.aloadN X17.here hx rfl (hb hby d5_307) (own_Lv_get Lv15 0 rfl) rfl ?_
  show Steps p.tables e below (T17.setTop (mkF m 308 ls15 [(.ref a), (.long ((own_css f R C) - ((2 : Int64) * (own_sum C (own_dot (own_G4 f R C) (own_cel f C i)))))), (.int (own_i i)), (.ref (A 3))])) _
  refine st18 _ ?_
  show Steps p.tables e below (T18.setTop (mkF m 311 ls15 [(.ref (A 2)), (.long ((own_css f R C) - ((2 : Int64) * (own_sum C (own_dot (own_G4 f R C) (own_cel f C i)))))), (.int (own_i i)), (.ref (A 3))])) _
  refine XS.iload X18.here hx rfl (hb hby d5_311) (own_Lv_get Lv15 5 rfl) ?_
  show Steps p.tables e below (T18.setTop (mkF m 313 ls15 [(.int (own_i i)), (.ref (A 2)), (.long ((own_css f R C) - ((2 : Int64) * (own_sum C (own_dot (own_G4 f R C) (own_cel f C i)))))), (.int (own_i i)), (.ref (A 3))])) _
  refine own_ldJ X18 hx hZ e18 (own_B_v2 Bl15) (own_i_toInt (by omega)) (by omega) (g := (mkF m 313 ls15 [(.int (own_i i)), (.ref (A 2)), (.long ((own_css f R C) - ((2 : Int64) * (own_sum C (own_dot (own_G4 f R C) (own_cel f C i)))))), (.int (own_i i)), (.ref (A 3))])) rfl rfl (hb hby d5_313) _ ?_
  show Steps p.tables e below (T18.setTop (mkF m 314 ls15 [(.long (own_G2 f R C i)), (.long ((own_css f R C) - ((2 : Int64) * (own_sum C (own_dot (own_G4 f R C) (own_cel f C i)))))), (.int (own_i i)), (.ref (A 3))])) _
  refine XS.ladd X18.here hx rfl (hb hby d5_314) rfl ?_
  show Steps p.tables e below (T18.setTop (mkF m 315 ls15 [(.long (((own_css f R C) - ((2 : Int64) * (own_sum C (own_dot (own_G4 f R C) (own_cel f C i))))) + (own_G2 f R C i))), (.int (own_i i)), (.ref (A 3))])) _
  refine st19 _ ?_
  show Steps p.tables e below (T19.setTop (mkF m 316 ls15 [])) _
  refine XS.iinc X19.here hx rfl (hb hby d5_316) (own_Lv_get Lv15 5 rfl) (l' := ls20) sl20 ?_
  show Steps p.tables e below (T19.setTop (mkF m 319 ls20 [])) _
  refine XS.goto X19.here hx rfl (pc0 := 319) (pc' := 233) rfl (hb hby d5_319) (by decide) (by decide) ?_
  exact kt
set_option maxRecDepth 65536 in
set_option maxHeartbeats 40000000 in
theorem tC3 {p : Program} {l : Launch} {e : Env} {s : State} {m : MethodId} {args : Array Value} {below : List Frame} {meth : Method} {c : Code} {Z : State} {a0 : Array Value} {n0 : Nat} {a : Addr} {A : Nat → Addr} {N : Nat} {f : Nat → Int32} {r k : Int32} {R C : Nat} {q : Int64} (cx : own_Cx p s m c Z a0 n0 a A N r k R C)  {T0 : State} {ls0 : Array Slot} (S0 : own_St p l e own_RC s m args below meth c 25 n0 T0 ls0 [(0, (.ref a)), (1, (.long q)), (3, (.long (own_sq f R C))), (5, (.long (own_rss f R C))), (7, (.long (own_css f R C))), (9, (.int (own_i R)))] (own_B Z a A N f r k (own_G1 f R C) (own_G2 f R C) (own_pre (own_rr f R C) R) (own_G4 f R C) (own_G5 f R C) own_z)) :
    own_To p l e own_RC s m args below meth c 25 n0 T0 (mkF m 233 ls0 []) 325 [(0, (.ref a)), (1, (.long q)), (3, (.long (own_sq f R C))), (5, (.long (own_rss f R C))), (7, (.long (own_css f R C))), (9, (.int (own_i 0)))] (own_B Z a A N f r k (own_G1 f R C) (own_G2 f R C) (own_G3 f R C) (own_G4 f R C) (own_G5 f R C) (own_pre (own_cr f R C) 0)) := by
  obtain ⟨hx, hZ, hw, hby, hml, hown, hA, hn0, hR, hC, lR, lC, hN⟩ := cx
  obtain ⟨lc0, X0, N0, Lv0, B0⟩ := S0
  obtain ⟨T11, X11, e11, st11⟩ := getF X0 hx hZ hown (host := "") (Or.inl (hw _ (List.mem_of_getElem? (i := 31) rfl))) Via.refl rfl ((own_B_rows B0)) (g := (mkF m 236 ls0 [(.ref a), (.int (own_i R))])) rfl rfl (hb hby d5_236)
  obtain ⟨ls12, sl12, Lw12⟩ := own_Lv_st1 Lv0 (k := 9) (v := (.int (0 : Int32))) (by decide) rfl
  have Lv12 : own_Lv 25 ls12 [(9, (.int (own_i 0))), (0, (.ref a)), (1, (.long q)), (3, (.long (own_sq f R C))), (5, (.long (own_rss f R C))), (7, (.long (own_css f R C)))] := Lw12
  have Lv13 : own_Lv 25 ls12 [(0, (.ref a)), (1, (.long q)), (3, (.long (own_sq f R C))), (5, (.long (own_rss f R C))), (7, (.long (own_css f R C))), (9, (.int (own_i 0)))] := own_Lv_pick Lv12 [1, 2, 3, 4, 5, 0] rfl
  have Bc1 : own_B Z a A N f r k (own_G1 f R C) (own_G2 f R C) (own_G3 f R C) (own_G4 f R C) (own_G5 f R C) (own_pre (own_cr f R C) 0) T0.heap := by rw [own_pre_0]; exact B0
  refine ⟨T11, ls12, ⟨_, X11, N0, Lv13, by rw [e11]; exact Bc1⟩, fun target kt => ?_⟩
  show Steps p.tables e below (T0.setTop (mkF m 233 ls0 [])) _
  refine XS.iload X0.here hx rfl (hb hby d5_233) (own_Lv_get Lv0 5 rfl) ?_
  show Steps p.tables e below (T0.setTop (mkF m 235 ls0 [(.int (own_i R))])) _
  refine XS.aloadN X0.here hx rfl (hb hby d5_235) (own_Lv_get Lv0 0 rfl) rfl ?_
  show Steps p.tables e below (T0.setTop (mkF m 236 ls0 [(.ref a), (.int (own_i R))])) _
  refine st11 _ ?_
  show Steps p.tables e below (T11.setTop (mkF m 239 ls0 [(.int r), (.int (own_i R))])) _
  refine XS.icmpYes X11.here hx rfl (pc0 := 239) (pc' := 322) rfl (hb hby d5_239) rfl (flt (fun w => Nat.lt_irrefl R ((own_i_lt (by omega) hR).mp w) : ¬ ((own_i R) < r))).2.1 (by decide) (by decide) ?_
  show Steps p.tables e below (T11.setTop (mkF m 322 ls0 [])) _
  refine XS.iconst X11.here hx rfl (hb hby d5_322) ?_
  show Steps p.tables e below (T11.setTop (mkF m 323 ls0 [(.int (0 : Int32))])) _
  refine XS.istore X11.here hx rfl (hb hby d5_323) rfl (l' := ls12) sl12 ?_
  exact kt
set_option maxRecDepth 65536 in
set_option maxHeartbeats 40000000 in
theorem tD1 {p : Program} {l : Launch} {e : Env} {s : State} {m : MethodId} {args : Array Value} {below : List Frame} {meth : Method} {c : Code} {Z : State} {a0 : Array Value} {n0 : Nat} {a : Addr} {A : Nat → Addr} {N : Nat} {f : Nat → Int32} {r k : Int32} {R C : Nat} {q : Int64} (cx : own_Cx p s m c Z a0 n0 a A N r k R C) {i j : Nat} (hj : j < C) (hi : i < R) {T0 : State} {ls0 : Array Slot} (S0 : own_St p l e own_RC s m args below meth c 25 n0 T0 ls0 [(0, (.ref a)), (1, (.long q)), (3, (.long (own_sq f R C))), (5, (.long (own_rss f R C))), (7, (.long (own_css f R C))), (9, (.int (own_i j))), (10, (.long (own_sum i (own_dot (own_G1 f R C) (own_col f C j))))), (12, (.int (own_i i)))] (own_B Z a A N f r k (own_G1 f R C) (own_G2 f R C) (own_G3 f R C) (own_G4 f R C) (own_G5 f R C) (own_pre (own_cr f R C) j))) :
    own_To p l e own_RC s m args below meth c 25 n0 T0 (mkF m 340 ls0 []) 340 [(0, (.ref a)), (1, (.long q)), (3, (.long (own_sq f R C))), (5, (.long (own_rss f R C))), (7, (.long (own_css f R C))), (9, (.int (own_i j))), (10, (.long (own_sum (i + 1) (own_dot (own_G1 f R C) (own_col f C j))))), (12, (.int (own_i (i + 1))))] (own_B Z a A N f r k (own_G1 f R C) (own_G2 f R C) (own_G3 f R C) (own_G4 f R C) (own_G5 f R C) (own_pre (own_cr f R C) j)) := by
  obtain ⟨hx, hZ, hw, hby, hml, hown, hA, hn0, hR, hC, lR, lC, hN⟩ := cx
  obtain ⟨lc0, X0, N0, Lv0, B0⟩ := S0
  obtain ⟨T11, X11, e11, st11⟩ := getF X0 hx hZ hown (host := "") (Or.inl (hw _ (List.mem_of_getElem? (i := 31) rfl))) Via.refl rfl ((own_B_rows B0)) (g := (mkF m 343 ls0 [(.ref a), (.int (own_i i))])) rfl rfl (hb hby d5_343)
  obtain ⟨T12, X12, e12, st12⟩ := getF X11 hx hZ hown (host := "") (Or.inl (hw _ (List.mem_of_getElem? (i := 14) rfl))) Via.refl e11 ((own_B_rowSums B0)) (g := (mkF m 352 ls0 [(.ref a), (.long (own_sum i (own_dot (own_G1 f R C) (own_col f C j))))])) rfl rfl (hb hby d5_352)
  obtain ⟨T13, X13, e13, st13⟩ := getF X12 hx hZ hown (host := "") (Or.inl (hw _ (List.mem_of_getElem? (i := 11) rfl))) Via.refl e12 ((own_B_cells B0)) (g := (mkF m 359 ls0 [(.ref a), (.long (own_G1 f R C i)), (.long (own_sum i (own_dot (own_G1 f R C) (own_col f C j))))])) rfl rfl (hb hby d5_359)
  obtain ⟨T14, X14, e14, st14⟩ := getF X13 hx hZ hown (host := "") (Or.inl (hw _ (List.mem_of_getElem? (i := 33) rfl))) Via.refl e13 ((own_B_columns B0)) (g := (mkF m 365 ls0 [(.ref a), (.int (own_i i)), (.ref (A 0)), (.long (own_G1 f R C i)), (.long (own_sum i (own_dot (own_G1 f R C) (own_col f C j))))])) rfl rfl (hb hby d5_365)
  obtain ⟨ls15, sl15, Lw15⟩ := own_Lv_st2 Lv0 (k := 10) (v := (.long ((own_sum i (own_dot (own_G1 f R C) (own_col f C j))) + ((own_G1 f R C i) * ((f (i * C + j)).toInt64))))) (by decide) rfl
  have Lv15 : own_Lv 25 ls15 [(10, (.long (own_sum (i + 1) (own_dot (own_G1 f R C) (own_col f C j))))), (0, (.ref a)), (1, (.long q)), (3, (.long (own_sq f R C))), (5, (.long (own_rss f R C))), (7, (.long (own_css f R C))), (9, (.int (own_i j))), (12, (.int (own_i i)))] := by rw [own_sum_succ i (own_dot (own_G1 f R C) (own_col f C j))]; exact Lw15
  obtain ⟨ls16, sl16, Lw16⟩ := own_Lv_st1 Lv15 (k := 12) (v := (.int ((own_i i) + (1 : Int32)))) (by decide) rfl
  have Lv16 : own_Lv 25 ls16 [(12, (.int (own_i (i + 1)))), (10, (.long (own_sum (i + 1) (own_dot (own_G1 f R C) (own_col f C j))))), (0, (.ref a)), (1, (.long q)), (3, (.long (own_sq f R C))), (5, (.long (own_rss f R C))), (7, (.long (own_css f R C))), (9, (.int (own_i j)))] := by rw [own_i_succ i]; exact Lw16
  have Lv17 : own_Lv 25 ls16 [(0, (.ref a)), (1, (.long q)), (3, (.long (own_sq f R C))), (5, (.long (own_rss f R C))), (7, (.long (own_css f R C))), (9, (.int (own_i j))), (10, (.long (own_sum (i + 1) (own_dot (own_G1 f R C) (own_col f C j))))), (12, (.int (own_i (i + 1))))] := own_Lv_pick Lv16 [2, 3, 4, 5, 6, 7, 1, 0] rfl
  refine ⟨T14, ls16, ⟨_, X14, N0, Lv17, by rw [e14]; exact B0⟩, fun target kt => ?_⟩
  show Steps p.tables e below (T0.setTop (mkF m 340 ls0 [])) _
  refine XS.iload X0.here hx rfl (hb hby d5_340) (own_Lv_get Lv0 7 rfl) ?_
  show Steps p.tables e below (T0.setTop (mkF m 342 ls0 [(.int (own_i i))])) _
  refine XS.aloadN X0.here hx rfl (hb hby d5_342) (own_Lv_get Lv0 0 rfl) rfl ?_
  show Steps p.tables e below (T0.setTop (mkF m 343 ls0 [(.ref a), (.int (own_i i))])) _
  refine st11 _ ?_
  show Steps p.tables e below (T11.setTop (mkF m 346 ls0 [(.int r), (.int (own_i i))])) _
  refine XS.icmpNo X11.here hx rfl (hb hby d5_346) rfl (tlt ((own_i_lt (by omega) hR).mpr hi : (own_i i) < r)).2.1 ?_
  show Steps p.tables e below (T11.setTop (mkF m 349 ls0 [])) _
  refine XS.lload X11.here hx rfl (hb hby d5_349) (own_Lv_get Lv0 6 rfl) ?_
  show Steps p.tables e below (T11.setTop (mkF m 351 ls0 [(.long (own_sum i (own_dot (own_G1 f R C) (own_col f C j))))])) _
  refine XS.aloadN X11.here hx rfl (hb hby d5_351) (own_Lv_get Lv0 0 rfl) rfl ?_
  show Steps p.tables e below (T11.setTop (mkF m 352 ls0 [(.ref a), (.long (own_sum i (own_dot (own_G1 f R C) (own_col f C j))))])) _
  refine st12 _ ?_
  show Steps p.tables e below (T12.setTop (mkF m 355 ls0 [(.ref (A 1)), (.long (own_sum i (own_dot (own_G1 f R C) (own_col f C j))))])) _
  refine XS.iload X12.here hx rfl (hb hby d5_355) (own_Lv_get Lv0 7 rfl) ?_
  show Steps p.tables e below (T12.setTop (mkF m 357 ls0 [(.int (own_i i)), (.ref (A 1)), (.long (own_sum i (own_dot (own_G1 f R C) (own_col f C j))))])) _
  refine own_ldJ X12 hx hZ e12 (own_B_v1 B0) (own_i_toInt (by omega)) (by omega) (g := (mkF m 357 ls0 [(.int (own_i i)), (.ref (A 1)), (.long (own_sum i (own_dot (own_G1 f R C) (own_col f C j))))])) rfl rfl (hb hby d5_357) _ ?_
  show Steps p.tables e below (T12.setTop (mkF m 358 ls0 [(.long (own_G1 f R C i)), (.long (own_sum i (own_dot (own_G1 f R C) (own_col f C j))))])) _
  refine XS.aloadN X12.here hx rfl (hb hby d5_358) (own_Lv_get Lv0 0 rfl) rfl ?_
  show Steps p.tables e below (T12.setTop (mkF m 359 ls0 [(.ref a), (.long (own_G1 f R C i)), (.long (own_sum i (own_dot (own_G1 f R C) (own_col f C j))))])) _
  refine st13 _ ?_
  show Steps p.tables e below (T13.setTop (mkF m 362 ls0 [(.ref (A 0)), (.long (own_G1 f R C i)), (.long (own_sum i (own_dot (own_G1 f R C) (own_col f C j))))])) _
  refine XS.iload X13.here hx rfl (hb hby d5_362) (own_Lv_get Lv0 7 rfl) ?_
  show Steps p.tables e below (T13.setTop (mkF m 364 ls0 [(.int (own_i i)), (.ref (A 0)), (.long (own_G1 f R C i)), (.long (own_sum i (own_dot (own_G1 f R C) (own_col f C j))))])) _
  refine XS.aloadN X13.here hx rfl (hb hby d5_364) (own_Lv_get Lv0 0 rfl) rfl ?_
  show Steps p.tables e below (T13.setTop (mkF m 365 ls0 [(.ref a), (.int (own_i i)), (.ref (A 0)), (.long (own_G1 f R C i)), (.long (own_sum i (own_dot (own_G1 f R C) (own_col f C j))))])) _
  refine st14 _ ?_
  show Steps p.tables e below (T14.setTop (mkF m 368 ls0 [(.int k), (.int (own_i i)), (.ref (A 0)), (.long (own_G1 f R C i)), (.long (own_sum i (own_dot (own_G1 f R C) (own_col f C j))))])) _
  refine XS.imul X14.here hx rfl (hb hby d5_368) rfl ?_
  show Steps p.tables e below (T14.setTop (mkF m 369 ls0 [(.int ((own_i i) * k)), (.ref (A 0)), (.long (own_G1 f R C i)), (.long (own_sum i (own_dot (own_G1 f R C) (own_col f C j))))])) _
  refine XS.iload X14.here hx rfl (hb hby d5_369) (own_Lv_get Lv0 5 rfl) ?_
  show Steps p.tables e below (T14.setTop (mkF m 371 ls0 [(.int (own_i j)), (.int ((own_i i) * k)), (.ref (A 0)), (.long (own_G1 f R C i)), (.long (own_sum i (own_dot (own_G1 f R C) (own_col f C j))))])) _
  refine XS.iadd X14.here hx rfl (hb hby d5_371) rfl ?_
  show Steps p.tables e below (T14.setTop (mkF m 372 ls0 [(.int (((own_i i) * k) + (own_i j))), (.ref (A 0)), (.long (own_G1 f R C i)), (.long (own_sum i (own_dot (own_G1 f R C) (own_col f C j))))])) _
  refine own_ldI X14 hx hZ e14 (own_B_v0 B0) (own_idx (N := N) hC lC hi lR hj) (own_inN hi hj hN) (g := (mkF m 372 ls0 [(.int (((own_i i) * k) + (own_i j))), (.ref (A 0)), (.long (own_G1 f R C i)), (.long (own_sum i (own_dot (own_G1 f R C) (own_col f C j))))])) rfl rfl (hb hby d5_372) _ ?_
  show Steps p.tables e below (T14.setTop (mkF m 373 ls0 [(.int (f (i * C + j))), (.long (own_G1 f R C i)), (.long (own_sum i (own_dot (own_G1 f R C) (own_col f C j))))])) _
  refine XS.i2l X14.here hx rfl (hb hby d5_373) rfl ?_
  show Steps p.tables e below (T14.setTop (mkF m 374 ls0 [(.long ((f (i * C + j)).toInt64)), (.long (own_G1 f R C i)), (.long (own_sum i (own_dot (own_G1 f R C) (own_col f C j))))])) _
  refine XS.lmul X14.here hx rfl (hb hby d5_374) rfl ?_
  show Steps p.tables e below (T14.setTop (mkF m 375 ls0 [(.long ((own_G1 f R C i) * ((f (i * C + j)).toInt64))), (.long (own_sum i (own_dot (own_G1 f R C) (own_col f C j))))])) _
  refine XS.ladd X14.here hx rfl (hb hby d5_375) rfl ?_
  show Steps p.tables e below (T14.setTop (mkF m 376 ls0 [(.long ((own_sum i (own_dot (own_G1 f R C) (own_col f C j))) + ((own_G1 f R C i) * ((f (i * C + j)).toInt64))))])) _
  refine XS.lstore X14.here hx rfl (hb hby d5_376) rfl (l' := ls15) sl15 ?_
  show Steps p.tables e below (T14.setTop (mkF m 378 ls15 [])) _
  refine XS.iinc X14.here hx rfl (hb hby d5_378) (own_Lv_get Lv15 7 rfl) (l' := ls16) sl16 ?_
  show Steps p.tables e below (T14.setTop (mkF m 381 ls16 [])) _
  refine XS.goto X14.here hx rfl (pc0 := 381) (pc' := 340) rfl (hb hby d5_381) (by decide) (by decide) ?_
  exact kt
set_option maxRecDepth 65536 in
set_option maxHeartbeats 40000000 in
theorem tD2 {p : Program} {l : Launch} {e : Env} {s : State} {m : MethodId} {args : Array Value} {below : List Frame} {meth : Method} {c : Code} {Z : State} {a0 : Array Value} {n0 : Nat} {a : Addr} {A : Nat → Addr} {N : Nat} {f : Nat → Int32} {r k : Int32} {R C : Nat} {q : Int64} (cx : own_Cx p s m c Z a0 n0 a A N r k R C) {j : Nat} (hj : j < C) {T0 : State} {ls0 : Array Slot} (S0 : own_St p l e own_RC s m args below meth c 25 n0 T0 ls0 [(0, (.ref a)), (1, (.long q)), (3, (.long (own_sq f R C))), (5, (.long (own_rss f R C))), (7, (.long (own_css f R C))), (9, (.int (own_i j)))] (own_B Z a A N f r k (own_G1 f R C) (own_G2 f R C) (own_G3 f R C) (own_G4 f R C) (own_G5 f R C) (own_pre (own_cr f R C) j))) :
    own_To p l e own_RC s m args below meth c 25 n0 T0 (mkF m 325 ls0 []) 325 [(0, (.ref a)), (1, (.long q)), (3, (.long (own_sq f R C))), (5, (.long (own_rss f R C))), (7, (.long (own_css f R C))), (9, (.int (own_i (j + 1))))] (own_B Z a A N f r k (own_G1 f R C) (own_G2 f R C) (own_G3 f R C) (own_G4 f R C) (own_G5 f R C) (own_pre (own_cr f R C) (j + 1))) := by
  obtain ⟨hx, hZ, hw, hby, hml, hown, hA, hn0, hR, hC, lR, lC, hN⟩ := cx
  obtain ⟨lc0, X0, N0, Lv0, B0⟩ := S0
  obtain ⟨T11, X11, e11, st11⟩ := getF X0 hx hZ hown (host := "") (Or.inl (hw _ (List.mem_of_getElem? (i := 33) rfl))) Via.refl rfl ((own_B_columns B0)) (g := (mkF m 328 ls0 [(.ref a), (.int (own_i j))])) rfl rfl (hb hby d5_328)
  obtain ⟨ls12, sl12, Lw12⟩ := own_Lv_st2 Lv0 (k := 10) (v := (.long (0 : Int64))) (by decide) rfl
  have Lv12 : own_Lv 25 ls12 [(10, (.long (own_sum 0 (own_dot (own_G1 f R C) (own_col f C j))))), (0, (.ref a)), (1, (.long q)), (3, (.long (own_sq f R C))), (5, (.long (own_rss f R C))), (7, (.long (own_css f R C))), (9, (.int (own_i j)))] := Lw12
  obtain ⟨ls13, sl13, Lw13⟩ := own_Lv_st1 Lv12 (k := 12) (v := (.int (0 : Int32))) (by decide) rfl
  have Lv13 : own_Lv 25 ls13 [(12, (.int (own_i 0))), (10, (.long (own_sum 0 (own_dot (own_G1 f R C) (own_col f C j))))), (0, (.ref a)), (1, (.long q)), (3, (.long (own_sq f R C))), (5, (.long (own_rss f R C))), (7, (.long (own_css f R C))), (9, (.int (own_i j)))] := Lw13
  have Lv14 : own_Lv 25 ls13 [(0, (.ref a)), (1, (.long q)), (3, (.long (own_sq f R C))), (5, (.long (own_rss f R C))), (7, (.long (own_css f R C))), (9, (.int (own_i j))), (10, (.long (own_sum 0 (own_dot (own_G1 f R C) (own_col f C j))))), (12, (.int (own_i 0)))] := own_Lv_pick Lv13 [2, 3, 4, 5, 6, 7, 1, 0] rfl
  obtain ⟨T15, ls15, ⟨lc15, X15, N15, Lv15, Bl15⟩, st15⟩ := own_loop (pc := 340) (fun i => [(0, (.ref a)), (1, (.long q)), (3, (.long (own_sq f R C))), (5, (.long (own_rss f R C))), (7, (.long (own_css f R C))), (9, (.int (own_i j))), (10, (.long (own_sum i (own_dot (own_G1 f R C) (own_col f C j))))), (12, (.int (own_i i)))]) (fun i => own_B Z a A N f r k (own_G1 f R C) (own_G2 f R C) (own_G3 f R C) (own_G4 f R C) (own_G5 f R C) (own_pre (own_cr f R C) j)) (N := R) (fun i hi T ls S => tD1 (cx := ⟨hx, hZ, hw, hby, hml, hown, hA, hn0, hR, hC, lR, lC, hN⟩) hj hi S) R 0 (Nat.zero_add R) T11 ls13 ⟨_, X11, N0, Lv14, (by rw [e11]; exact B0)⟩
  obtain ⟨T16, X16, e16, st16⟩ := getF X15 hx hZ hown (host := "") (Or.inl (hw _ (List.mem_of_getElem? (i := 31) rfl))) Via.refl rfl ((own_B_rows Bl15)) (g := (mkF m 343 ls15 [(.ref a), (.int (own_i R))])) rfl rfl (hb hby d5_343)
  obtain ⟨T17, X17, e17, st17⟩ := getF X16 hx hZ hown (host := "") (Or.inl (hw _ (List.mem_of_getElem? (i := 24) rfl))) Via.refl e16 ((own_B_columnRest Bl15)) (g := (mkF m 385 ls15 [(.ref a)])) rfl rfl (hb hby d5_385)
  obtain ⟨T18, X18, e18, st18⟩ := getF X17 hx hZ hown (host := "") (Or.inl (hw _ (List.mem_of_getElem? (i := 22) rfl))) Via.refl e17 ((own_B_columnSquares Bl15)) (g := (mkF m 400 ls15 [(.ref a), (.long ((own_rss f R C) - ((2 : Int64) * (own_sum R (own_dot (own_G1 f R C) (own_col f C j)))))), (.int (own_i j)), (.ref (A 6))])) rfl rfl (hb hby d5_400)
  obtain ⟨T19, h19, X19, e19, W19, V19, st19⟩ := own_stJ X18 hx hZ e18 (own_B_v6 Bl15) (own_i_toInt (by omega)) (by omega) (g := (mkF m 407 ls15 [(.long (((own_rss f R C) - ((2 : Int64) * (own_sum R (own_dot (own_G1 f R C) (own_col f C j))))) + (own_G5 f R C j))), (.int (own_i j)), (.ref (A 6))])) rfl rfl (hb hby d5_407)
  have N19 := Fr.snoc X19 N15 (hn0.2 6 (by decide))
  have B19 := own_B_st6 hA Bl15 W19 V19
  obtain ⟨ls20, sl20, Lw20⟩ := own_Lv_st1 Lv15 (k := 9) (v := (.int ((own_i j) + (1 : Int32)))) (by decide) rfl
  have Lv20 : own_Lv 25 ls20 [(9, (.int (own_i (j + 1)))), (0, (.ref a)), (1, (.long q)), (3, (.long (own_sq f R C))), (5, (.long (own_rss f R C))), (7, (.long (own_css f R C))), (10, (.long (own_sum R (own_dot (own_G1 f R C) (own_col f C j))))), (12, (.int (own_i R)))] := by rw [own_i_succ j]; exact Lw20
  have Lv21 : own_Lv 25 ls20 [(0, (.ref a)), (1, (.long q)), (3, (.long (own_sq f R C))), (5, (.long (own_rss f R C))), (7, (.long (own_css f R C))), (9, (.int (own_i (j + 1))))] := own_Lv_pick Lv20 [1, 2, 3, 4, 5, 0] rfl
  have Bc1 : own_B Z a A N f r k (own_G1 f R C) (own_G2 f R C) (own_G3 f R C) (own_G4 f R C) (own_G5 f R C) (own_pre (own_cr f R C) (j + 1)) h19 := by rw [← own_pre_up (own_cr f R C) j]; exact B19
  refine ⟨T19, ls20, ⟨_, X19, N19, Lv21, by rw [e19]; exact Bc1⟩, fun target kt => ?_⟩
  show Steps p.tables e below (T0.setTop (mkF m 325 ls0 [])) _
  refine XS.iload X0.here hx rfl (hb hby d5_325) (own_Lv_get Lv0 5 rfl) ?_
  show Steps p.tables e below (T0.setTop (mkF m 327 ls0 [(.int (own_i j))])) _
  refine XS.aloadN X0.here hx rfl (hb hby d5_327) (own_Lv_get Lv0 0 rfl) rfl ?_
  show Steps p.tables e below (T0.setTop (mkF m 328 ls0 [(.ref a), (.int (own_i j))])) _
  refine st11 _ ?_
  show Steps p.tables e below (T11.setTop (mkF m 331 ls0 [(.int k), (.int (own_i j))])) _
  refine XS.icmpNo X11.here hx rfl (hb hby d5_331) rfl (tlt ((own_i_lt (by omega) hC).mpr hj : (own_i j) < k)).2.1 ?_
  show Steps p.tables e below (T11.setTop (mkF m 334 ls0 [])) _
  refine XS.lconst X11.here hx rfl (hb hby d5_334) ?_
  show Steps p.tables e below (T11.setTop (mkF m 335 ls0 [(.long (0 : Int64))])) _
  refine XS.lstore X11.here hx rfl (hb hby d5_335) rfl (l' := ls12) sl12 ?_
  show Steps p.tables e below (T11.setTop (mkF m 337 ls12 [])) _
  refine XS.iconst X11.here hx rfl (hb hby d5_337) ?_
  show Steps p.tables e below (T11.setTop (mkF m 338 ls12 [(.int (0 : Int32))])) _
  refine XS.istore X11.here hx rfl (hb hby d5_338) rfl (l' := ls13) sl13 ?_
  show Steps p.tables e below (T11.setTop (mkF m 340 ls13 [])) _
  refine st15 _ ?_
  show Steps p.tables e below (T15.setTop (mkF m 340 ls15 [])) _
  refine XS.iload X15.here hx rfl (hb hby d5_340) (own_Lv_get Lv15 7 rfl) ?_
  show Steps p.tables e below (T15.setTop (mkF m 342 ls15 [(.int (own_i R))])) _
  refine XS.aloadN X15.here hx rfl (hb hby d5_342) (own_Lv_get Lv15 0 rfl) rfl ?_
  show Steps p.tables e below (T15.setTop (mkF m 343 ls15 [(.ref a), (.int (own_i R))])) _
  refine st16 _ ?_
  show Steps p.tables e below (T16.setTop (mkF m 346 ls15 [(.int r), (.int (own_i R))])) _
  refine XS.icmpYes X16.here hx rfl (pc0 := 346) (pc' := 384) rfl (hb hby d5_346) rfl (flt (fun w => Nat.lt_irrefl R ((own_i_lt (by omega) hR).mp w) : ¬ ((own_i R) < r))).2.1 (by decide) (by decide) ?_
  show Steps p.tables e below (T16.setTop (mkF m 384 ls15 [])) _
  refine XS.aloadN X16.here hx rfl (hb hby d5_384) (own_Lv_get Lv15 0 rfl) rfl ?_
  show Steps p.tables e below (T16.setTop (mkF m 385 ls15 [(.ref a)])) _
  refine st17 _ ?_
  show Steps p.tables e below (T17.setTop (mkF m 388 ls15 [(.ref (A 6))])) _
  refine XS.iload X17.here hx rfl (hb hby d5_388) (own_Lv_get Lv15 5 rfl) ?_
  show Steps p.tables e below (T17.setTop (mkF m 390 ls15 [(.int (own_i j)), (.ref (A 6))])) _
  refine XS.lload X17.here hx rfl (hb hby d5_390) (own_Lv_get Lv15 3 rfl) ?_
  show Steps p.tables e below (T17.setTop (mkF m 392 ls15 [(.long (own_rss f R C)), (.int (own_i j)), (.ref (A 6))])) _
  refine X17.ldc2Long hx hown (mvT hZ (hw _ (List.mem_of_getElem? (i := 51) rfl))) (g := (mkF m 392 ls15 [(.long (own_rss f R C)), (.int (own_i j)), (.ref (A 6))])) rfl (hb hby d5_392) _ ?_
  show Steps p.tables e below (T17.setTop (mkF m 395 ls15 [(.long (2 : Int64)), (.long (own_rss f R C)), (.int (own_i j)), (.ref (A 6))])) _
  refine XS.lload X17.here hx rfl (hb hby d5_395) (own_Lv_get Lv15 6 rfl) ?_
  show Steps p.tables e below (T17.setTop (mkF m 397 ls15 [(.long (own_sum R (own_dot (own_G1 f R C) (own_col f C j)))), (.long (2 : Int64)), (.long (own_rss f R C)), (.int (own_i j)), (.ref (A 6))])) _
  refine XS.lmul X17.here hx rfl (hb hby d5_397) rfl ?_
  show Steps p.tables e below (T17.setTop (mkF m 398 ls15 [(.long ((2 : Int64) * (own_sum R (own_dot (own_G1 f R C) (own_col f C j))))), (.long (own_rss f R C)), (.int (own_i j)), (.ref (A 6))])) _
  refine XS.lsub X17.here hx rfl (hb hby d5_398) rfl ?_
  show Steps p.tables e below (T17.setTop (mkF m 399 ls15 [(.long ((own_rss f R C) - ((2 : Int64) * (own_sum R (own_dot (own_G1 f R C) (own_col f C j)))))), (.int (own_i j)), (.ref (A 6))])) _
  refine XS.aloadN X17.here hx rfl (hb hby d5_399) (own_Lv_get Lv15 0 rfl) rfl ?_
  show Steps p.tables e below (T17.setTop (mkF m 400 ls15 [(.ref a), (.long ((own_rss f R C) - ((2 : Int64) * (own_sum R (own_dot (own_G1 f R C) (own_col f C j)))))), (.int (own_i j)), (.ref (A 6))])) _
  refine st18 _ ?_
  show Steps p.tables e below (T18.setTop (mkF m 403 ls15 [(.ref (A 5)), (.long ((own_rss f R C) - ((2 : Int64) * (own_sum R (own_dot (own_G1 f R C) (own_col f C j)))))), (.int (own_i j)), (.ref (A 6))])) _
  refine XS.iload X18.here hx rfl (hb hby d5_403) (own_Lv_get Lv15 5 rfl) ?_
  show Steps p.tables e below (T18.setTop (mkF m 405 ls15 [(.int (own_i j)), (.ref (A 5)), (.long ((own_rss f R C) - ((2 : Int64) * (own_sum R (own_dot (own_G1 f R C) (own_col f C j)))))), (.int (own_i j)), (.ref (A 6))])) _
  refine own_ldJ X18 hx hZ e18 (own_B_v5 Bl15) (own_i_toInt (by omega)) (by omega) (g := (mkF m 405 ls15 [(.int (own_i j)), (.ref (A 5)), (.long ((own_rss f R C) - ((2 : Int64) * (own_sum R (own_dot (own_G1 f R C) (own_col f C j)))))), (.int (own_i j)), (.ref (A 6))])) rfl rfl (hb hby d5_405) _ ?_
  show Steps p.tables e below (T18.setTop (mkF m 406 ls15 [(.long (own_G5 f R C j)), (.long ((own_rss f R C) - ((2 : Int64) * (own_sum R (own_dot (own_G1 f R C) (own_col f C j)))))), (.int (own_i j)), (.ref (A 6))])) _
  refine XS.ladd X18.here hx rfl (hb hby d5_406) rfl ?_
  show Steps p.tables e below (T18.setTop (mkF m 407 ls15 [(.long (((own_rss f R C) - ((2 : Int64) * (own_sum R (own_dot (own_G1 f R C) (own_col f C j))))) + (own_G5 f R C j))), (.int (own_i j)), (.ref (A 6))])) _
  refine st19 _ ?_
  show Steps p.tables e below (T19.setTop (mkF m 408 ls15 [])) _
  refine XS.iinc X19.here hx rfl (hb hby d5_408) (own_Lv_get Lv15 5 rfl) (l' := ls20) sl20 ?_
  show Steps p.tables e below (T19.setTop (mkF m 411 ls20 [])) _
  refine XS.goto X19.here hx rfl (pc0 := 411) (pc' := 325) rfl (hb hby d5_411) (by decide) (by decide) ?_
  exact kt
set_option maxRecDepth 65536 in
set_option maxHeartbeats 40000000 in
theorem tD3 {p : Program} {l : Launch} {e : Env} {s : State} {m : MethodId} {args : Array Value} {below : List Frame} {meth : Method} {c : Code} {Z : State} {a0 : Array Value} {n0 : Nat} {a : Addr} {A : Nat → Addr} {N : Nat} {f : Nat → Int32} {r k : Int32} {R C : Nat} {q : Int64} (cx : own_Cx p s m c Z a0 n0 a A N r k R C)  {T0 : State} {ls0 : Array Slot} (S0 : own_St p l e own_RC s m args below meth c 25 n0 T0 ls0 [(0, (.ref a)), (1, (.long q)), (3, (.long (own_sq f R C))), (5, (.long (own_rss f R C))), (7, (.long (own_css f R C))), (9, (.int (own_i C)))] (own_B Z a A N f r k (own_G1 f R C) (own_G2 f R C) (own_G3 f R C) (own_G4 f R C) (own_G5 f R C) (own_pre (own_cr f R C) C))) :
    own_To p l e own_RC s m args below meth c 25 n0 T0 (mkF m 325 ls0 []) 420 [(0, (.ref a)), (1, (.long q)), (3, (.long (own_sq f R C))), (5, (.long (own_rss f R C))), (7, (.long (own_css f R C))), (9, (.long (own_sum 0 (own_line f R C q)))), (11, (.int (own_i 0)))] (own_B Z a A N f r k (own_G1 f R C) (own_G2 f R C) (own_G3 f R C) (own_G4 f R C) (own_G5 f R C) (own_G6 f R C)) := by
  obtain ⟨hx, hZ, hw, hby, hml, hown, hA, hn0, hR, hC, lR, lC, hN⟩ := cx
  obtain ⟨lc0, X0, N0, Lv0, B0⟩ := S0
  obtain ⟨T11, X11, e11, st11⟩ := getF X0 hx hZ hown (host := "") (Or.inl (hw _ (List.mem_of_getElem? (i := 33) rfl))) Via.refl rfl ((own_B_columns B0)) (g := (mkF m 328 ls0 [(.ref a), (.int (own_i C))])) rfl rfl (hb hby d5_328)
  obtain ⟨ls12, sl12, Lw12⟩ := own_Lv_st2 Lv0 (k := 9) (v := (.long (0 : Int64))) (by decide) rfl
  have Lv12 : own_Lv 25 ls12 [(9, (.long (own_sum 0 (own_line f R C q)))), (0, (.ref a)), (1, (.long q)), (3, (.long (own_sq f R C))), (5, (.long (own_rss f R C))), (7, (.long (own_css f R C)))] := Lw12
  obtain ⟨ls13, sl13, Lw13⟩ := own_Lv_st1 Lv12 (k := 11) (v := (.int (0 : Int32))) (by decide) rfl
  have Lv13 : own_Lv 25 ls13 [(11, (.int (own_i 0))), (9, (.long (own_sum 0 (own_line f R C q)))), (0, (.ref a)), (1, (.long q)), (3, (.long (own_sq f R C))), (5, (.long (own_rss f R C))), (7, (.long (own_css f R C)))] := Lw13
  have Lv14 : own_Lv 25 ls13 [(0, (.ref a)), (1, (.long q)), (3, (.long (own_sq f R C))), (5, (.long (own_rss f R C))), (7, (.long (own_css f R C))), (9, (.long (own_sum 0 (own_line f R C q)))), (11, (.int (own_i 0)))] := own_Lv_pick Lv13 [2, 3, 4, 5, 6, 1, 0] rfl
  refine ⟨T11, ls13, ⟨_, X11, N0, Lv14, by rw [e11]; exact B0⟩, fun target kt => ?_⟩
  show Steps p.tables e below (T0.setTop (mkF m 325 ls0 [])) _
  refine XS.iload X0.here hx rfl (hb hby d5_325) (own_Lv_get Lv0 5 rfl) ?_
  show Steps p.tables e below (T0.setTop (mkF m 327 ls0 [(.int (own_i C))])) _
  refine XS.aloadN X0.here hx rfl (hb hby d5_327) (own_Lv_get Lv0 0 rfl) rfl ?_
  show Steps p.tables e below (T0.setTop (mkF m 328 ls0 [(.ref a), (.int (own_i C))])) _
  refine st11 _ ?_
  show Steps p.tables e below (T11.setTop (mkF m 331 ls0 [(.int k), (.int (own_i C))])) _
  refine XS.icmpYes X11.here hx rfl (pc0 := 331) (pc' := 414) rfl (hb hby d5_331) rfl (flt (fun w => Nat.lt_irrefl C ((own_i_lt (by omega) hC).mp w) : ¬ ((own_i C) < k))).2.1 (by decide) (by decide) ?_
  show Steps p.tables e below (T11.setTop (mkF m 414 ls0 [])) _
  refine XS.lconst X11.here hx rfl (hb hby d5_414) ?_
  show Steps p.tables e below (T11.setTop (mkF m 415 ls0 [(.long (0 : Int64))])) _
  refine XS.lstore X11.here hx rfl (hb hby d5_415) rfl (l' := ls12) sl12 ?_
  show Steps p.tables e below (T11.setTop (mkF m 417 ls12 [])) _
  refine XS.iconst X11.here hx rfl (hb hby d5_417) ?_
  show Steps p.tables e below (T11.setTop (mkF m 418 ls12 [(.int (0 : Int32))])) _
  refine XS.istore X11.here hx rfl (hb hby d5_418) rfl (l' := ls13) sl13 ?_
  exact kt
set_option maxRecDepth 65536 in
set_option maxHeartbeats 40000000 in
theorem tE1 {p : Program} {l : Launch} {e : Env} {s : State} {m : MethodId} {args : Array Value} {below : List Frame} {meth : Method} {c : Code} {Z : State} {a0 : Array Value} {n0 : Nat} {a : Addr} {A : Nat → Addr} {N : Nat} {f : Nat → Int32} {r k : Int32} {R C : Nat} {q : Int64} (cx : own_Cx p s m c Z a0 n0 a A N r k R C) {i j : Nat} (hi : i < R) (hj : j < C) (hm : (lcmpW (own_cel f C i j) (2 : Int64)) < (0 : Int32)) {T0 : State} {ls0 : Array Slot} (S0 : own_St p l e own_RC s m args below meth c 25 n0 T0 ls0 [(0, (.ref a)), (1, (.long q)), (3, (.long (own_sq f R C))), (5, (.long (own_rss f R C))), (7, (.long (own_css f R C))), (9, (.long (own_sum i (own_line f R C q) + own_sum j (own_term f R C q i)))), (11, (.int (own_i i))), (12, (.int (own_i j)))] (own_B Z a A N f r k (own_G1 f R C) (own_G2 f R C) (own_G3 f R C) (own_G4 f R C) (own_G5 f R C) (own_G6 f R C))) :
    own_To p l e own_RC s m args below meth c 25 n0 T0 (mkF m 432 ls0 []) 432 [(0, (.ref a)), (1, (.long q)), (3, (.long (own_sq f R C))), (5, (.long (own_rss f R C))), (7, (.long (own_css f R C))), (9, (.long (own_sum i (own_line f R C q) + own_sum (j + 1) (own_term f R C q i)))), (11, (.int (own_i i))), (12, (.int (own_i (j + 1))))] (own_B Z a A N f r k (own_G1 f R C) (own_G2 f R C) (own_G3 f R C) (own_G4 f R C) (own_G5 f R C) (own_G6 f R C)) := by
  obtain ⟨hx, hZ, hw, hby, hml, hown, hA, hn0, hR, hC, lR, lC, hN⟩ := cx
  obtain ⟨lc0, X0, N0, Lv0, B0⟩ := S0
  obtain ⟨T11, X11, e11, st11⟩ := getF X0 hx hZ hown (host := "") (Or.inl (hw _ (List.mem_of_getElem? (i := 33) rfl))) Via.refl rfl ((own_B_columns B0)) (g := (mkF m 435 ls0 [(.ref a), (.int (own_i j))])) rfl rfl (hb hby d5_435)
  obtain ⟨T12, X12, e12, st12⟩ := getF X11 hx hZ hown (host := "") (Or.inl (hw _ (List.mem_of_getElem? (i := 11) rfl))) Via.refl e11 ((own_B_cells B0)) (g := (mkF m 442 ls0 [(.ref a)])) rfl rfl (hb hby d5_442)
  obtain ⟨T13, X13, e13, st13⟩ := getF X12 hx hZ hown (host := "") (Or.inl (hw _ (List.mem_of_getElem? (i := 33) rfl))) Via.refl e12 ((own_B_columns B0)) (g := (mkF m 448 ls0 [(.ref a), (.int (own_i i)), (.ref (A 0))])) rfl rfl (hb hby d5_448)
  obtain ⟨ls14, sl14, Lw14⟩ := own_Lv_st2 Lv0 (k := 13) (v := (.long ((f (i * C + j)).toInt64))) (by decide) rfl
  have Lv14 : own_Lv 25 ls14 [(13, (.long (own_cel f C i j))), (0, (.ref a)), (1, (.long q)), (3, (.long (own_sq f R C))), (5, (.long (own_rss f R C))), (7, (.long (own_css f R C))), (9, (.long (own_sum i (own_line f R C q) + own_sum j (own_term f R C q i)))), (11, (.int (own_i i))), (12, (.int (own_i j)))] := Lw14
  have hz : own_term f R C q i j = (0 : Int64) := if_pos hm
  have hs : (own_sum i (own_line f R C q) + own_sum (j + 1) (own_term f R C q i)) = own_sum i (own_line f R C q) + own_sum j (own_term f R C q i) := by rw [own_sum_succ j (own_term f R C q i), hz, Int64.add_zero]
  obtain ⟨ls15, sl15, Lw15⟩ := own_Lv_st1 Lv14 (k := 12) (v := (.int ((own_i j) + (1 : Int32)))) (by decide) rfl
  have Lv15 : own_Lv 25 ls15 [(12, (.int (own_i (j + 1)))), (13, (.long (own_cel f C i j))), (0, (.ref a)), (1, (.long q)), (3, (.long (own_sq f R C))), (5, (.long (own_rss f R C))), (7, (.long (own_css f R C))), (9, (.long (own_sum i (own_line f R C q) + own_sum j (own_term f R C q i)))), (11, (.int (own_i i)))] := by rw [own_i_succ j]; exact Lw15
  have Lv17 : own_Lv 25 ls15 [(0, (.ref a)), (1, (.long q)), (3, (.long (own_sq f R C))), (5, (.long (own_rss f R C))), (7, (.long (own_css f R C))), (9, (.long (own_sum i (own_line f R C q) + own_sum j (own_term f R C q i)))), (11, (.int (own_i i))), (12, (.int (own_i (j + 1))))] := own_Lv_pick Lv15 [2, 3, 4, 5, 6, 7, 8, 0] rfl
  have Lv16 : own_Lv 25 ls15 [(0, (.ref a)), (1, (.long q)), (3, (.long (own_sq f R C))), (5, (.long (own_rss f R C))), (7, (.long (own_css f R C))), (9, (.long (own_sum i (own_line f R C q) + own_sum (j + 1) (own_term f R C q i)))), (11, (.int (own_i i))), (12, (.int (own_i (j + 1))))] := by rw [hs]; exact Lv17
  refine ⟨T13, ls15, ⟨_, X13, N0, Lv16, by rw [e13]; exact B0⟩, fun target kt => ?_⟩
  show Steps p.tables e below (T0.setTop (mkF m 432 ls0 [])) _
  refine XS.iload X0.here hx rfl (hb hby d5_432) (own_Lv_get Lv0 7 rfl) ?_
  show Steps p.tables e below (T0.setTop (mkF m 434 ls0 [(.int (own_i j))])) _
  refine XS.aloadN X0.here hx rfl (hb hby d5_434) (own_Lv_get Lv0 0 rfl) rfl ?_
  show Steps p.tables e below (T0.setTop (mkF m 435 ls0 [(.ref a), (.int (own_i j))])) _
  refine st11 _ ?_
  show Steps p.tables e below (T11.setTop (mkF m 438 ls0 [(.int k), (.int (own_i j))])) _
  refine XS.icmpNo X11.here hx rfl (hb hby d5_438) rfl (tlt ((own_i_lt (by omega) hC).mpr hj : (own_i j) < k)).2.1 ?_
  show Steps p.tables e below (T11.setTop (mkF m 441 ls0 [])) _
  refine XS.aloadN X11.here hx rfl (hb hby d5_441) (own_Lv_get Lv0 0 rfl) rfl ?_
  show Steps p.tables e below (T11.setTop (mkF m 442 ls0 [(.ref a)])) _
  refine st12 _ ?_
  show Steps p.tables e below (T12.setTop (mkF m 445 ls0 [(.ref (A 0))])) _
  refine XS.iload X12.here hx rfl (hb hby d5_445) (own_Lv_get Lv0 6 rfl) ?_
  show Steps p.tables e below (T12.setTop (mkF m 447 ls0 [(.int (own_i i)), (.ref (A 0))])) _
  refine XS.aloadN X12.here hx rfl (hb hby d5_447) (own_Lv_get Lv0 0 rfl) rfl ?_
  show Steps p.tables e below (T12.setTop (mkF m 448 ls0 [(.ref a), (.int (own_i i)), (.ref (A 0))])) _
  refine st13 _ ?_
  show Steps p.tables e below (T13.setTop (mkF m 451 ls0 [(.int k), (.int (own_i i)), (.ref (A 0))])) _
  refine XS.imul X13.here hx rfl (hb hby d5_451) rfl ?_
  show Steps p.tables e below (T13.setTop (mkF m 452 ls0 [(.int ((own_i i) * k)), (.ref (A 0))])) _
  refine XS.iload X13.here hx rfl (hb hby d5_452) (own_Lv_get Lv0 7 rfl) ?_
  show Steps p.tables e below (T13.setTop (mkF m 454 ls0 [(.int (own_i j)), (.int ((own_i i) * k)), (.ref (A 0))])) _
  refine XS.iadd X13.here hx rfl (hb hby d5_454) rfl ?_
  show Steps p.tables e below (T13.setTop (mkF m 455 ls0 [(.int (((own_i i) * k) + (own_i j))), (.ref (A 0))])) _
  refine own_ldI X13 hx hZ e13 (own_B_v0 B0) (own_idx (N := N) hC lC hi lR hj) (own_inN hi hj hN) (g := (mkF m 455 ls0 [(.int (((own_i i) * k) + (own_i j))), (.ref (A 0))])) rfl rfl (hb hby d5_455) _ ?_
  show Steps p.tables e below (T13.setTop (mkF m 456 ls0 [(.int (f (i * C + j)))])) _
  refine XS.i2l X13.here hx rfl (hb hby d5_456) rfl ?_
  show Steps p.tables e below (T13.setTop (mkF m 457 ls0 [(.long ((f (i * C + j)).toInt64))])) _
  refine XS.lstore X13.here hx rfl (hb hby d5_457) rfl (l' := ls14) sl14 ?_
  show Steps p.tables e below (T13.setTop (mkF m 459 ls14 [])) _
  refine XS.lload X13.here hx rfl (hb hby d5_459) (own_Lv_get Lv14 0 rfl) ?_
  show Steps p.tables e below (T13.setTop (mkF m 461 ls14 [(.long (own_cel f C i j))])) _
  refine X13.ldc2Long hx hown (mvT hZ (hw _ (List.mem_of_getElem? (i := 51) rfl))) (g := (mkF m 461 ls14 [(.long (own_cel f C i j))])) rfl (hb hby d5_461) _ ?_
  show Steps p.tables e below (T13.setTop (mkF m 464 ls14 [(.long (2 : Int64)), (.long (own_cel f C i j))])) _
  refine XS.lcmp X13.here hx rfl (hb hby d5_464) rfl ?_
  show Steps p.tables e below (T13.setTop (mkF m 465 ls14 [(.int (lcmpW (own_cel f C i j) (2 : Int64)))])) _
  refine XS.ifNo X13.here hx rfl (hb hby d5_465) rfl ((if0 _ _).trans (tlt (hm : (lcmpW (own_cel f C i j) (2 : Int64)) < (0 : Int32))).2.1) ?_
  show Steps p.tables e below (T13.setTop (mkF m 468 ls14 [])) _
  refine XS.goto X13.here hx rfl (pc0 := 468) (pc' := 597) rfl (hb hby d5_468) (by decide) (by decide) ?_
  show Steps p.tables e below (T13.setTop (mkF m 597 ls14 [])) _
  refine XS.iinc X13.here hx rfl (hb hby d5_597) (own_Lv_get Lv14 8 rfl) (l' := ls15) sl15 ?_
  show Steps p.tables e below (T13.setTop (mkF m 600 ls15 [])) _
  refine XS.goto X13.here hx rfl (pc0 := 600) (pc' := 432) rfl (hb hby d5_600) (by decide) (by decide) ?_
  exact kt
set_option maxRecDepth 65536 in
set_option maxHeartbeats 40000000 in
theorem tE2 {p : Program} {l : Launch} {e : Env} {s : State} {m : MethodId} {args : Array Value} {below : List Frame} {meth : Method} {c : Code} {Z : State} {a0 : Array Value} {n0 : Nat} {a : Addr} {A : Nat → Addr} {N : Nat} {f : Nat → Int32} {r k : Int32} {R C : Nat} {q : Int64} (cx : own_Cx p s m c Z a0 n0 a A N r k R C) {i j : Nat} (hi : i < R) (hj : j < C) (hm : ¬ ((lcmpW (own_cel f C i j) (2 : Int64)) < (0 : Int32))) {T0 : State} {ls0 : Array Slot} (S0 : own_St p l e own_RC s m args below meth c 25 n0 T0 ls0 [(0, (.ref a)), (1, (.long q)), (3, (.long (own_sq f R C))), (5, (.long (own_rss f R C))), (7, (.long (own_css f R C))), (9, (.long (own_sum i (own_line f R C q) + own_sum j (own_term f R C q i)))), (11, (.int (own_i i))), (12, (.int (own_i j)))] (own_B Z a A N f r k (own_G1 f R C) (own_G2 f R C) (own_G3 f R C) (own_G4 f R C) (own_G5 f R C) (own_G6 f R C))) :
    own_To p l e own_RC s m args below meth c 25 n0 T0 (mkF m 432 ls0 []) 432 [(0, (.ref a)), (1, (.long q)), (3, (.long (own_sq f R C))), (5, (.long (own_rss f R C))), (7, (.long (own_css f R C))), (9, (.long (own_sum i (own_line f R C q) + own_sum (j + 1) (own_term f R C q i)))), (11, (.int (own_i i))), (12, (.int (own_i (j + 1))))] (own_B Z a A N f r k (own_G1 f R C) (own_G2 f R C) (own_G3 f R C) (own_G4 f R C) (own_G5 f R C) (own_G6 f R C)) := by
  obtain ⟨hx, hZ, hw, hby, hml, hown, hA, hn0, hR, hC, lR, lC, hN⟩ := cx
  obtain ⟨lc0, X0, N0, Lv0, B0⟩ := S0
  obtain ⟨T11, X11, e11, st11⟩ := getF X0 hx hZ hown (host := "") (Or.inl (hw _ (List.mem_of_getElem? (i := 33) rfl))) Via.refl rfl ((own_B_columns B0)) (g := (mkF m 435 ls0 [(.ref a), (.int (own_i j))])) rfl rfl (hb hby d5_435)
  obtain ⟨T12, X12, e12, st12⟩ := getF X11 hx hZ hown (host := "") (Or.inl (hw _ (List.mem_of_getElem? (i := 11) rfl))) Via.refl e11 ((own_B_cells B0)) (g := (mkF m 442 ls0 [(.ref a)])) rfl rfl (hb hby d5_442)
  obtain ⟨T13, X13, e13, st13⟩ := getF X12 hx hZ hown (host := "") (Or.inl (hw _ (List.mem_of_getElem? (i := 33) rfl))) Via.refl e12 ((own_B_columns B0)) (g := (mkF m 448 ls0 [(.ref a), (.int (own_i i)), (.ref (A 0))])) rfl rfl (hb hby d5_448)
  obtain ⟨ls14, sl14, Lw14⟩ := own_Lv_st2 Lv0 (k := 13) (v := (.long ((f (i * C + j)).toInt64))) (by decide) rfl
  have Lv14 : own_Lv 25 ls14 [(13, (.long (own_cel f C i j))), (0, (.ref a)), (1, (.long q)), (3, (.long (own_sq f R C))), (5, (.long (own_rss f R C))), (7, (.long (own_css f R C))), (9, (.long (own_sum i (own_line f R C q) + own_sum j (own_term f R C q i)))), (11, (.int (own_i i))), (12, (.int (own_i j)))] := Lw14
  obtain ⟨T15, X15, e15, st15⟩ := getF X13 hx hZ hown (host := "") (Or.inl (hw _ (List.mem_of_getElem? (i := 14) rfl))) Via.refl e13 ((own_B_rowSums B0)) (g := (mkF m 473 ls14 [(.ref a), (.long q)])) rfl rfl (hb hby d5_473)
  obtain ⟨T16, X16, e16, st16⟩ := getF X15 hx hZ hown (host := "") (Or.inl (hw _ (List.mem_of_getElem? (i := 20) rfl))) Via.refl e15 ((own_B_columnSums B0)) (g := (mkF m 481 ls14 [(.ref a), (.long (q - (own_G1 f R C i)))])) rfl rfl (hb hby d5_481)
  obtain ⟨ls17, sl17, Lw17⟩ := own_Lv_st2 Lv14 (k := 15) (v := (.long (((q - (own_G1 f R C i)) - (own_G4 f R C j)) + (own_cel f C i j)))) (by decide) rfl
  have Lv17 : own_Lv 25 ls17 [(15, (.long (own_rest f R C q i j))), (13, (.long (own_cel f C i j))), (0, (.ref a)), (1, (.long q)), (3, (.long (own_sq f R C))), (5, (.long (own_rss f R C))), (7, (.long (own_css f R C))), (9, (.long (own_sum i (own_line f R C q) + own_sum j (own_term f R C q i)))), (11, (.int (own_i i))), (12, (.int (own_i j)))] := Lw17
  obtain ⟨T18, X18, e18, st18⟩ := getF X16 hx hZ hown (host := "") (Or.inl (hw _ (List.mem_of_getElem? (i := 24) rfl))) Via.refl e16 ((own_B_columnRest B0)) (g := (mkF m 494 ls17 [(.ref a)])) rfl rfl (hb hby d5_494)
  obtain ⟨T19, X19, e19, st19⟩ := getF X18 hx hZ hown (host := "") (Or.inl (hw _ (List.mem_of_getElem? (i := 14) rfl))) Via.refl e18 ((own_B_rowSums B0)) (g := (mkF m 501 ls17 [(.ref a), (.long (own_G6 f R C j))])) rfl rfl (hb hby d5_501)
  obtain ⟨_, _, ⟨T20, L20, k20, n20⟩, -, X20, ⟨Lc20, hQ20, l20, y20, z20⟩, st20⟩ := Jvm.LawKit.callS X19 hx (y := (⟨"quartess/quartet/Anchors", "square", "(J)J"⟩ : MethodName)) hown (mvT hZ (hw _ (List.mem_of_getElem? (i := 54) rfl))) (mvT hZ (hw _ (List.mem_of_getElem? (i := 55) rfl))) (mvT hZ (hw _ (List.mem_of_getElem? (i := 3) rfl))) (mvT hZ (hw _ (List.mem_of_getElem? (i := 56) rfl))) (by decide) (backOf (W := 2) (rm8 l Z a0 hw [] (own_G1 f R C i - (own_cel f C i j)) T0.heap n0 (own_B_sz B0 hn0.1)) hZ (hw _ (List.mem_of_getElem? (i := 56) rfl)) (hw _ (List.mem_of_getElem? (i := 3) rfl)) (by decide) (by decide)) (g := (mkF m 510 ls17 [(.long ((own_G1 f R C i) - (own_cel f C i j))), (.long (own_G6 f R C j))])) rfl (by rw [hml]; exact Lv17.1) (argsL := [(.long ((own_G1 f R C i) - (own_cel f C i j)))]) (rest := [(.long (own_G6 f R C j))]) (lenOf own_pd_LJRJ rfl) rfl (by show 2 * 0 + _ ≤ _; exact Nat.le_of_eq rfl) (hb hby d5_510) (fun _ _ => ⟨rfl, e19, (by decide : 0 + 0 ≤ _), (by decide : 0 + 0 ≤ _)⟩)
  dsimp only [Pt.U, Pt.locs, Pt.cells, Pt.slots] at X20 l20 y20 z20 st20 hQ20
  subst l20 y20 z20
  obtain ⟨rfl, N20q, hq20⟩ := hQ20
  have N20 := Fr.app N0 N20q
  have Bq20 : own_B Z a A N f r k (own_G1 f R C) (own_G2 f R C) (own_G3 f R C) (own_G4 f R C) (own_G5 f R C) (own_G6 f R C) T20.heap := by rw [hq20]; exact B0
  obtain ⟨ls21, sl21, Lw21⟩ := own_Lv_st2 Lv17 (k := 17) (v := (.long ((own_G6 f R C j) - ((own_G1 f R C i - (own_cel f C i j)) * (own_G1 f R C i - (own_cel f C i j)))))) (by decide) rfl
  have Lv21 : own_Lv 25 ls21 [(17, (.long (own_sr f R C i j))), (15, (.long (own_rest f R C q i j))), (13, (.long (own_cel f C i j))), (0, (.ref a)), (1, (.long q)), (3, (.long (own_sq f R C))), (5, (.long (own_rss f R C))), (7, (.long (own_css f R C))), (9, (.long (own_sum i (own_line f R C q) + own_sum j (own_term f R C q i)))), (11, (.int (own_i i))), (12, (.int (own_i j)))] := Lw21
  obtain ⟨T22, X22, e22, st22⟩ := getF X20 hx hZ hown (host := "") (Or.inl (hw _ (List.mem_of_getElem? (i := 18) rfl))) Via.refl rfl ((own_B_rowRest Bq20)) (g := (mkF m 517 ls21 [(.ref a)])) rfl rfl (hb hby d5_517)
  obtain ⟨T23, X23, e23, st23⟩ := getF X22 hx hZ hown (host := "") (Or.inl (hw _ (List.mem_of_getElem? (i := 20) rfl))) Via.refl e22 ((own_B_columnSums Bq20)) (g := (mkF m 524 ls21 [(.ref a), (.long (own_G3 f R C i))])) rfl rfl (hb hby d5_524)
  obtain ⟨_, _, ⟨T24, L24, k24, n24⟩, -, X24, ⟨Lc24, hQ24, l24, y24, z24⟩, st24⟩ := Jvm.LawKit.callS X23 hx (y := (⟨"quartess/quartet/Anchors", "square", "(J)J"⟩ : MethodName)) hown (mvT hZ (hw _ (List.mem_of_getElem? (i := 54) rfl))) (mvT hZ (hw _ (List.mem_of_getElem? (i := 55) rfl))) (mvT hZ (hw _ (List.mem_of_getElem? (i := 3) rfl))) (mvT hZ (hw _ (List.mem_of_getElem? (i := 56) rfl))) (by decide) (backOf (W := 2) (rm8 l Z a0 hw [] (own_G4 f R C j - (own_cel f C i j)) T20.heap n0 (own_B_sz Bq20 hn0.1)) hZ (hw _ (List.mem_of_getElem? (i := 56) rfl)) (hw _ (List.mem_of_getElem? (i := 3) rfl)) (by decide) (by decide)) (g := (mkF m 533 ls21 [(.long ((own_G4 f R C j) - (own_cel f C i j))), (.long (own_G3 f R C i))])) rfl (by rw [hml]; exact Lv21.1) (argsL := [(.long ((own_G4 f R C j) - (own_cel f C i j)))]) (rest := [(.long (own_G3 f R C i))]) (lenOf own_pd_LJRJ rfl) rfl (by show 2 * 0 + _ ≤ _; exact Nat.le_of_eq rfl) (hb hby d5_533) (fun _ _ => ⟨rfl, e23, (by decide : 0 + 0 ≤ _), (by decide : 0 + 0 ≤ _)⟩)
  dsimp only [Pt.U, Pt.locs, Pt.cells, Pt.slots] at X24 l24 y24 z24 st24 hQ24
  subst l24 y24 z24
  obtain ⟨rfl, N24q, hq24⟩ := hQ24
  have N24 := Fr.app N20 N24q
  have Bq24 : own_B Z a A N f r k (own_G1 f R C) (own_G2 f R C) (own_G3 f R C) (own_G4 f R C) (own_G5 f R C) (own_G6 f R C) T24.heap := by rw [hq24]; exact Bq20
  obtain ⟨ls25, sl25, Lw25⟩ := own_Lv_st2 Lv21 (k := 19) (v := (.long ((own_G3 f R C i) - ((own_G4 f R C j - (own_cel f C i j)) * (own_G4 f R C j - (own_cel f C i j)))))) (by decide) rfl
  have Lv25 : own_Lv 25 ls25 [(19, (.long (own_sc f R C i j))), (17, (.long (own_sr f R C i j))), (15, (.long (own_rest f R C q i j))), (13, (.long (own_cel f C i j))), (0, (.ref a)), (1, (.long q)), (3, (.long (own_sq f R C))), (5, (.long (own_rss f R C))), (7, (.long (own_css f R C))), (9, (.long (own_sum i (own_line f R C q) + own_sum j (own_term f R C q i)))), (11, (.int (own_i i))), (12, (.int (own_i j)))] := Lw25
  obtain ⟨T26, X26, e26, st26⟩ := getF X24 hx hZ hown (host := "") (Or.inl (hw _ (List.mem_of_getElem? (i := 16) rfl))) Via.refl rfl ((own_B_rowSquares Bq24)) (g := (mkF m 541 ls25 [(.ref a), (.long (own_sq f R C))])) rfl rfl (hb hby d5_541)
  obtain ⟨T27, X27, e27, st27⟩ := getF X26 hx hZ hown (host := "") (Or.inl (hw _ (List.mem_of_getElem? (i := 22) rfl))) Via.refl e26 ((own_B_columnSquares Bq24)) (g := (mkF m 549 ls25 [(.ref a), (.long ((own_sq f R C) - (own_G2 f R C i)))])) rfl rfl (hb hby d5_549)
  obtain ⟨ls28, sl28, Lw28⟩ := own_Lv_st2 Lv25 (k := 21) (v := (.long ((((own_sq f R C) - (own_G2 f R C i)) - (own_G5 f R C j)) + ((own_cel f C i j) * (own_cel f C i j))))) (by decide) rfl
  have Lv28 : own_Lv 25 ls28 [(21, (.long (own_sm f R C i j))), (19, (.long (own_sc f R C i j))), (17, (.long (own_sr f R C i j))), (15, (.long (own_rest f R C q i j))), (13, (.long (own_cel f C i j))), (0, (.ref a)), (1, (.long q)), (3, (.long (own_sq f R C))), (5, (.long (own_rss f R C))), (7, (.long (own_css f R C))), (9, (.long (own_sum i (own_line f R C q) + own_sum j (own_term f R C q i)))), (11, (.int (own_i i))), (12, (.int (own_i j)))] := Lw28
  obtain ⟨ls29, sl29, Lw29⟩ := own_Lv_st2 Lv28 (k := 23) (v := (.long ((((((own_rest f R C q i j) * (own_rest f R C q i j)) - (own_sr f R C i j)) - (own_sc f R C i j)) + (own_sm f R C i j)) / (2 : Int64)))) (by decide) rfl
  have Lv29 : own_Lv 25 ls29 [(23, (.long (own_pv f R C q i j))), (21, (.long (own_sm f R C i j))), (19, (.long (own_sc f R C i j))), (17, (.long (own_sr f R C i j))), (15, (.long (own_rest f R C q i j))), (13, (.long (own_cel f C i j))), (0, (.ref a)), (1, (.long q)), (3, (.long (own_sq f R C))), (5, (.long (own_rss f R C))), (7, (.long (own_css f R C))), (9, (.long (own_sum i (own_line f R C q) + own_sum j (own_term f R C q i)))), (11, (.int (own_i i))), (12, (.int (own_i j)))] := Lw29
  obtain ⟨_, _, ⟨T30, L30, k30, n30⟩, -, X30, ⟨Lc30, hQ30, l30, y30, z30⟩, st30⟩ := Jvm.LawKit.callS X27 hx (y := (⟨"quartess/quartet/Anchors", "pairs", "(J)J"⟩ : MethodName)) hown (mvT hZ (hw _ (List.mem_of_getElem? (i := 57) rfl))) (mvT hZ (hw _ (List.mem_of_getElem? (i := 58) rfl))) (mvT hZ (hw _ (List.mem_of_getElem? (i := 3) rfl))) (mvT hZ (hw _ (List.mem_of_getElem? (i := 59) rfl))) (by decide) (backOf (W := 2) (rm9 l Z a0 hw [] (own_cel f C i j) T24.heap n0 (own_B_sz Bq24 hn0.1)) hZ (hw _ (List.mem_of_getElem? (i := 59) rfl)) (hw _ (List.mem_of_getElem? (i := 3) rfl)) (by decide) (by decide)) (g := (mkF m 588 ls29 [(.long (own_cel f C i j)), (.long (own_sum i (own_line f R C q) + own_sum j (own_term f R C q i)))])) rfl (by rw [hml]; exact Lv29.1) (argsL := [(.long (own_cel f C i j))]) (rest := [(.long (own_sum i (own_line f R C q) + own_sum j (own_term f R C q i)))]) (lenOf own_pd_LJRJ rfl) rfl (by show 2 * 0 + _ ≤ _; exact Nat.le_of_eq rfl) (hb hby d5_588) (fun _ _ => ⟨rfl, e27, (by decide : 0 + 0 ≤ _), (by decide : 0 + 0 ≤ _)⟩)
  dsimp only [Pt.U, Pt.locs, Pt.cells, Pt.slots] at X30 l30 y30 z30 st30 hQ30
  subst l30 y30 z30
  obtain ⟨rfl, N30q, hq30⟩ := hQ30
  have N30 := Fr.app N24 N30q
  have Bq30 : own_B Z a A N f r k (own_G1 f R C) (own_G2 f R C) (own_G3 f R C) (own_G4 f R C) (own_G5 f R C) (own_G6 f R C) T30.heap := by rw [hq30]; exact Bq24
  have hz : own_term f R C q i j = own_pairs (own_cel f C i j) * own_pv f R C q i j := if_neg hm
  have hs : (own_sum i (own_line f R C q) + own_sum (j + 1) (own_term f R C q i)) = (own_sum i (own_line f R C q) + own_sum j (own_term f R C q i)) + (own_pairs (own_cel f C i j) * own_pv f R C q i j) := by rw [own_sum_succ j (own_term f R C q i), hz, Int64.add_assoc]
  obtain ⟨ls31, sl31, Lw31⟩ := own_Lv_st2 Lv29 (k := 9) (v := (.long ((own_sum i (own_line f R C q) + own_sum j (own_term f R C q i)) + ((own_pairs (own_cel f C i j)) * (own_pv f R C q i j))))) (by decide) rfl
  have Lv31 : own_Lv 25 ls31 [(9, (.long (own_sum i (own_line f R C q) + own_sum (j + 1) (own_term f R C q i)))), (23, (.long (own_pv f R C q i j))), (21, (.long (own_sm f R C i j))), (19, (.long (own_sc f R C i j))), (17, (.long (own_sr f R C i j))), (15, (.long (own_rest f R C q i j))), (13, (.long (own_cel f C i j))), (0, (.ref a)), (1, (.long q)), (3, (.long (own_sq f R C))), (5, (.long (own_rss f R C))), (7, (.long (own_css f R C))), (11, (.int (own_i i))), (12, (.int (own_i j)))] := by rw [hs]; exact Lw31
  obtain ⟨ls32, sl32, Lw32⟩ := own_Lv_st1 Lv31 (k := 12) (v := (.int ((own_i j) + (1 : Int32)))) (by decide) rfl
  have Lv32 : own_Lv 25 ls32 [(12, (.int (own_i (j + 1)))), (9, (.long (own_sum i (own_line f R C q) + own_sum (j + 1) (own_term f R C q i)))), (23, (.long (own_pv f R C q i j))), (21, (.long (own_sm f R C i j))), (19, (.long (own_sc f R C i j))), (17, (.long (own_sr f R C i j))), (15, (.long (own_rest f R C q i j))), (13, (.long (own_cel f C i j))), (0, (.ref a)), (1, (.long q)), (3, (.long (own_sq f R C))), (5, (.long (own_rss f R C))), (7, (.long (own_css f R C))), (11, (.int (own_i i)))] := by rw [own_i_succ j]; exact Lw32
  have Lv33 : own_Lv 25 ls32 [(0, (.ref a)), (1, (.long q)), (3, (.long (own_sq f R C))), (5, (.long (own_rss f R C))), (7, (.long (own_css f R C))), (9, (.long (own_sum i (own_line f R C q) + own_sum (j + 1) (own_term f R C q i)))), (11, (.int (own_i i))), (12, (.int (own_i (j + 1))))] := own_Lv_pick Lv32 [8, 9, 10, 11, 12, 1, 13, 0] rfl
  refine ⟨T30, ls32, ⟨_, X30, N30, Lv33, Bq30⟩, fun target kt => ?_⟩
  show Steps p.tables e below (T0.setTop (mkF m 432 ls0 [])) _
  refine XS.iload X0.here hx rfl (hb hby d5_432) (own_Lv_get Lv0 7 rfl) ?_
  show Steps p.tables e below (T0.setTop (mkF m 434 ls0 [(.int (own_i j))])) _
  refine XS.aloadN X0.here hx rfl (hb hby d5_434) (own_Lv_get Lv0 0 rfl) rfl ?_
  show Steps p.tables e below (T0.setTop (mkF m 435 ls0 [(.ref a), (.int (own_i j))])) _
  refine st11 _ ?_
  show Steps p.tables e below (T11.setTop (mkF m 438 ls0 [(.int k), (.int (own_i j))])) _
  refine XS.icmpNo X11.here hx rfl (hb hby d5_438) rfl (tlt ((own_i_lt (by omega) hC).mpr hj : (own_i j) < k)).2.1 ?_
  show Steps p.tables e below (T11.setTop (mkF m 441 ls0 [])) _
  refine XS.aloadN X11.here hx rfl (hb hby d5_441) (own_Lv_get Lv0 0 rfl) rfl ?_
  show Steps p.tables e below (T11.setTop (mkF m 442 ls0 [(.ref a)])) _
  refine st12 _ ?_
  show Steps p.tables e below (T12.setTop (mkF m 445 ls0 [(.ref (A 0))])) _
  refine XS.iload X12.here hx rfl (hb hby d5_445) (own_Lv_get Lv0 6 rfl) ?_
  show Steps p.tables e below (T12.setTop (mkF m 447 ls0 [(.int (own_i i)), (.ref (A 0))])) _
  refine XS.aloadN X12.here hx rfl (hb hby d5_447) (own_Lv_get Lv0 0 rfl) rfl ?_
  show Steps p.tables e below (T12.setTop (mkF m 448 ls0 [(.ref a), (.int (own_i i)), (.ref (A 0))])) _
  refine st13 _ ?_
  show Steps p.tables e below (T13.setTop (mkF m 451 ls0 [(.int k), (.int (own_i i)), (.ref (A 0))])) _
  refine XS.imul X13.here hx rfl (hb hby d5_451) rfl ?_
  show Steps p.tables e below (T13.setTop (mkF m 452 ls0 [(.int ((own_i i) * k)), (.ref (A 0))])) _
  refine XS.iload X13.here hx rfl (hb hby d5_452) (own_Lv_get Lv0 7 rfl) ?_
  show Steps p.tables e below (T13.setTop (mkF m 454 ls0 [(.int (own_i j)), (.int ((own_i i) * k)), (.ref (A 0))])) _
  refine XS.iadd X13.here hx rfl (hb hby d5_454) rfl ?_
  show Steps p.tables e below (T13.setTop (mkF m 455 ls0 [(.int (((own_i i) * k) + (own_i j))), (.ref (A 0))])) _
  refine own_ldI X13 hx hZ e13 (own_B_v0 B0) (own_idx (N := N) hC lC hi lR hj) (own_inN hi hj hN) (g := (mkF m 455 ls0 [(.int (((own_i i) * k) + (own_i j))), (.ref (A 0))])) rfl rfl (hb hby d5_455) _ ?_
  show Steps p.tables e below (T13.setTop (mkF m 456 ls0 [(.int (f (i * C + j)))])) _
  refine XS.i2l X13.here hx rfl (hb hby d5_456) rfl ?_
  show Steps p.tables e below (T13.setTop (mkF m 457 ls0 [(.long ((f (i * C + j)).toInt64))])) _
  refine XS.lstore X13.here hx rfl (hb hby d5_457) rfl (l' := ls14) sl14 ?_
  show Steps p.tables e below (T13.setTop (mkF m 459 ls14 [])) _
  refine XS.lload X13.here hx rfl (hb hby d5_459) (own_Lv_get Lv14 0 rfl) ?_
  show Steps p.tables e below (T13.setTop (mkF m 461 ls14 [(.long (own_cel f C i j))])) _
  refine X13.ldc2Long hx hown (mvT hZ (hw _ (List.mem_of_getElem? (i := 51) rfl))) (g := (mkF m 461 ls14 [(.long (own_cel f C i j))])) rfl (hb hby d5_461) _ ?_
  show Steps p.tables e below (T13.setTop (mkF m 464 ls14 [(.long (2 : Int64)), (.long (own_cel f C i j))])) _
  refine XS.lcmp X13.here hx rfl (hb hby d5_464) rfl ?_
  show Steps p.tables e below (T13.setTop (mkF m 465 ls14 [(.int (lcmpW (own_cel f C i j) (2 : Int64)))])) _
  refine XS.ifYes X13.here hx rfl (pc0 := 465) (pc' := 471) rfl (hb hby d5_465) rfl ((if0 _ _).trans (flt (hm : ¬ ((lcmpW (own_cel f C i j) (2 : Int64)) < (0 : Int32)))).2.1) (by decide) (by decide) ?_
  show Steps p.tables e below (T13.setTop (mkF m 471 ls14 [])) _
  refine XS.lloadN X13.here hx rfl (hb hby d5_471) (own_Lv_get Lv14 2 rfl) ?_
  show Steps p.tables e below (T13.setTop (mkF m 472 ls14 [(.long q)])) _
  refine XS.aloadN X13.here hx rfl (hb hby d5_472) (own_Lv_get Lv14 1 rfl) rfl ?_
  show Steps p.tables e below (T13.setTop (mkF m 473 ls14 [(.ref a), (.long q)])) _
  refine st15 _ ?_
  show Steps p.tables e below (T15.setTop (mkF m 476 ls14 [(.ref (A 1)), (.long q)])) _
  refine XS.iload X15.here hx rfl (hb hby d5_476) (own_Lv_get Lv14 7 rfl) ?_
  show Steps p.tables e below (T15.setTop (mkF m 478 ls14 [(.int (own_i i)), (.ref (A 1)), (.long q)])) _
  refine own_ldJ X15 hx hZ e15 (own_B_v1 B0) (own_i_toInt (by omega)) (by omega) (g := (mkF m 478 ls14 [(.int (own_i i)), (.ref (A 1)), (.long q)])) rfl rfl (hb hby d5_478) _ ?_
  show Steps p.tables e below (T15.setTop (mkF m 479 ls14 [(.long (own_G1 f R C i)), (.long q)])) _
  refine XS.lsub X15.here hx rfl (hb hby d5_479) rfl ?_
  show Steps p.tables e below (T15.setTop (mkF m 480 ls14 [(.long (q - (own_G1 f R C i)))])) _
  refine XS.aloadN X15.here hx rfl (hb hby d5_480) (own_Lv_get Lv14 1 rfl) rfl ?_
  show Steps p.tables e below (T15.setTop (mkF m 481 ls14 [(.ref a), (.long (q - (own_G1 f R C i)))])) _
  refine st16 _ ?_
  show Steps p.tables e below (T16.setTop (mkF m 484 ls14 [(.ref (A 4)), (.long (q - (own_G1 f R C i)))])) _
  refine XS.iload X16.here hx rfl (hb hby d5_484) (own_Lv_get Lv14 8 rfl) ?_
  show Steps p.tables e below (T16.setTop (mkF m 486 ls14 [(.int (own_i j)), (.ref (A 4)), (.long (q - (own_G1 f R C i)))])) _
  refine own_ldJ X16 hx hZ e16 (own_B_v4 B0) (own_i_toInt (by omega)) (by omega) (g := (mkF m 486 ls14 [(.int (own_i j)), (.ref (A 4)), (.long (q - (own_G1 f R C i)))])) rfl rfl (hb hby d5_486) _ ?_
  show Steps p.tables e below (T16.setTop (mkF m 487 ls14 [(.long (own_G4 f R C j)), (.long (q - (own_G1 f R C i)))])) _
  refine XS.lsub X16.here hx rfl (hb hby d5_487) rfl ?_
  show Steps p.tables e below (T16.setTop (mkF m 488 ls14 [(.long ((q - (own_G1 f R C i)) - (own_G4 f R C j)))])) _
  refine XS.lload X16.here hx rfl (hb hby d5_488) (own_Lv_get Lv14 0 rfl) ?_
  show Steps p.tables e below (T16.setTop (mkF m 490 ls14 [(.long (own_cel f C i j)), (.long ((q - (own_G1 f R C i)) - (own_G4 f R C j)))])) _
  refine XS.ladd X16.here hx rfl (hb hby d5_490) rfl ?_
  show Steps p.tables e below (T16.setTop (mkF m 491 ls14 [(.long (((q - (own_G1 f R C i)) - (own_G4 f R C j)) + (own_cel f C i j)))])) _
  refine XS.lstore X16.here hx rfl (hb hby d5_491) rfl (l' := ls17) sl17 ?_
  show Steps p.tables e below (T16.setTop (mkF m 493 ls17 [])) _
  refine XS.aloadN X16.here hx rfl (hb hby d5_493) (own_Lv_get Lv17 2 rfl) rfl ?_
  show Steps p.tables e below (T16.setTop (mkF m 494 ls17 [(.ref a)])) _
  refine st18 _ ?_
  show Steps p.tables e below (T18.setTop (mkF m 497 ls17 [(.ref (A 6))])) _
  refine XS.iload X18.here hx rfl (hb hby d5_497) (own_Lv_get Lv17 9 rfl) ?_
  show Steps p.tables e below (T18.setTop (mkF m 499 ls17 [(.int (own_i j)), (.ref (A 6))])) _
  refine own_ldJ X18 hx hZ e18 (own_B_v6 B0) (own_i_toInt (by omega)) (by omega) (g := (mkF m 499 ls17 [(.int (own_i j)), (.ref (A 6))])) rfl rfl (hb hby d5_499) _ ?_
  show Steps p.tables e below (T18.setTop (mkF m 500 ls17 [(.long (own_G6 f R C j))])) _
  refine XS.aloadN X18.here hx rfl (hb hby d5_500) (own_Lv_get Lv17 2 rfl) rfl ?_
  show Steps p.tables e below (T18.setTop (mkF m 501 ls17 [(.ref a), (.long (own_G6 f R C j))])) _
  refine st19 _ ?_
  show Steps p.tables e below (T19.setTop (mkF m 504 ls17 [(.ref (A 1)), (.long (own_G6 f R C j))])) _
  refine XS.iload X19.here hx rfl (hb hby d5_504) (own_Lv_get Lv17 8 rfl) ?_
  show Steps p.tables e below (T19.setTop (mkF m 506 ls17 [(.int (own_i i)), (.ref (A 1)), (.long (own_G6 f R C j))])) _
  refine own_ldJ X19 hx hZ e19 (own_B_v1 B0) (own_i_toInt (by omega)) (by omega) (g := (mkF m 506 ls17 [(.int (own_i i)), (.ref (A 1)), (.long (own_G6 f R C j))])) rfl rfl (hb hby d5_506) _ ?_
  show Steps p.tables e below (T19.setTop (mkF m 507 ls17 [(.long (own_G1 f R C i)), (.long (own_G6 f R C j))])) _
  refine XS.lload X19.here hx rfl (hb hby d5_507) (own_Lv_get Lv17 1 rfl) ?_
  show Steps p.tables e below (T19.setTop (mkF m 509 ls17 [(.long (own_cel f C i j)), (.long (own_G1 f R C i)), (.long (own_G6 f R C j))])) _
  refine XS.lsub X19.here hx rfl (hb hby d5_509) rfl ?_
  show Steps p.tables e below (T19.setTop (mkF m 510 ls17 [(.long ((own_G1 f R C i) - (own_cel f C i j))), (.long (own_G6 f R C j))])) _
  refine st20 _ ?_
  show Steps p.tables e below (T20.setTop (mkF m 513 ls17 [(.long ((own_G1 f R C i - (own_cel f C i j)) * (own_G1 f R C i - (own_cel f C i j)))), (.long (own_G6 f R C j))])) _
  refine XS.lsub X20.here hx rfl (hb hby d5_513) rfl ?_
  show Steps p.tables e below (T20.setTop (mkF m 514 ls17 [(.long ((own_G6 f R C j) - ((own_G1 f R C i - (own_cel f C i j)) * (own_G1 f R C i - (own_cel f C i j)))))])) _
  refine XS.lstore X20.here hx rfl (hb hby d5_514) rfl (l' := ls21) sl21 ?_
  show Steps p.tables e below (T20.setTop (mkF m 516 ls21 [])) _
  refine XS.aloadN X20.here hx rfl (hb hby d5_516) (own_Lv_get Lv21 3 rfl) rfl ?_
  show Steps p.tables e below (T20.setTop (mkF m 517 ls21 [(.ref a)])) _
  refine st22 _ ?_
  show Steps p.tables e below (T22.setTop (mkF m 520 ls21 [(.ref (A 3))])) _
  refine XS.iload X22.here hx rfl (hb hby d5_520) (own_Lv_get Lv21 9 rfl) ?_
  show Steps p.tables e below (T22.setTop (mkF m 522 ls21 [(.int (own_i i)), (.ref (A 3))])) _
  refine own_ldJ X22 hx hZ e22 (own_B_v3 Bq20) (own_i_toInt (by omega)) (by omega) (g := (mkF m 522 ls21 [(.int (own_i i)), (.ref (A 3))])) rfl rfl (hb hby d5_522) _ ?_
  show Steps p.tables e below (T22.setTop (mkF m 523 ls21 [(.long (own_G3 f R C i))])) _
  refine XS.aloadN X22.here hx rfl (hb hby d5_523) (own_Lv_get Lv21 3 rfl) rfl ?_
  show Steps p.tables e below (T22.setTop (mkF m 524 ls21 [(.ref a), (.long (own_G3 f R C i))])) _
  refine st23 _ ?_
  show Steps p.tables e below (T23.setTop (mkF m 527 ls21 [(.ref (A 4)), (.long (own_G3 f R C i))])) _
  refine XS.iload X23.here hx rfl (hb hby d5_527) (own_Lv_get Lv21 10 rfl) ?_
  show Steps p.tables e below (T23.setTop (mkF m 529 ls21 [(.int (own_i j)), (.ref (A 4)), (.long (own_G3 f R C i))])) _
  refine own_ldJ X23 hx hZ e23 (own_B_v4 Bq20) (own_i_toInt (by omega)) (by omega) (g := (mkF m 529 ls21 [(.int (own_i j)), (.ref (A 4)), (.long (own_G3 f R C i))])) rfl rfl (hb hby d5_529) _ ?_
  show Steps p.tables e below (T23.setTop (mkF m 530 ls21 [(.long (own_G4 f R C j)), (.long (own_G3 f R C i))])) _
  refine XS.lload X23.here hx rfl (hb hby d5_530) (own_Lv_get Lv21 2 rfl) ?_
  show Steps p.tables e below (T23.setTop (mkF m 532 ls21 [(.long (own_cel f C i j)), (.long (own_G4 f R C j)), (.long (own_G3 f R C i))])) _
  refine XS.lsub X23.here hx rfl (hb hby d5_532) rfl ?_
  show Steps p.tables e below (T23.setTop (mkF m 533 ls21 [(.long ((own_G4 f R C j) - (own_cel f C i j))), (.long (own_G3 f R C i))])) _
  refine st24 _ ?_
  show Steps p.tables e below (T24.setTop (mkF m 536 ls21 [(.long ((own_G4 f R C j - (own_cel f C i j)) * (own_G4 f R C j - (own_cel f C i j)))), (.long (own_G3 f R C i))])) _
  refine XS.lsub X24.here hx rfl (hb hby d5_536) rfl ?_
  show Steps p.tables e below (T24.setTop (mkF m 537 ls21 [(.long ((own_G3 f R C i) - ((own_G4 f R C j - (own_cel f C i j)) * (own_G4 f R C j - (own_cel f C i j)))))])) _
  refine XS.lstore X24.here hx rfl (hb hby d5_537) rfl (l' := ls25) sl25 ?_
  show Steps p.tables e below (T24.setTop (mkF m 539 ls25 [])) _
  refine XS.lloadN X24.here hx rfl (hb hby d5_539) (own_Lv_get Lv25 6 rfl) ?_
  show Steps p.tables e below (T24.setTop (mkF m 540 ls25 [(.long (own_sq f R C))])) _
  refine XS.aloadN X24.here hx rfl (hb hby d5_540) (own_Lv_get Lv25 4 rfl) rfl ?_
  show Steps p.tables e below (T24.setTop (mkF m 541 ls25 [(.ref a), (.long (own_sq f R C))])) _
  refine st26 _ ?_
  show Steps p.tables e below (T26.setTop (mkF m 544 ls25 [(.ref (A 2)), (.long (own_sq f R C))])) _
  refine XS.iload X26.here hx rfl (hb hby d5_544) (own_Lv_get Lv25 10 rfl) ?_
  show Steps p.tables e below (T26.setTop (mkF m 546 ls25 [(.int (own_i i)), (.ref (A 2)), (.long (own_sq f R C))])) _
  refine own_ldJ X26 hx hZ e26 (own_B_v2 Bq24) (own_i_toInt (by omega)) (by omega) (g := (mkF m 546 ls25 [(.int (own_i i)), (.ref (A 2)), (.long (own_sq f R C))])) rfl rfl (hb hby d5_546) _ ?_
  show Steps p.tables e below (T26.setTop (mkF m 547 ls25 [(.long (own_G2 f R C i)), (.long (own_sq f R C))])) _
  refine XS.lsub X26.here hx rfl (hb hby d5_547) rfl ?_
  show Steps p.tables e below (T26.setTop (mkF m 548 ls25 [(.long ((own_sq f R C) - (own_G2 f R C i)))])) _
  refine XS.aloadN X26.here hx rfl (hb hby d5_548) (own_Lv_get Lv25 4 rfl) rfl ?_
  show Steps p.tables e below (T26.setTop (mkF m 549 ls25 [(.ref a), (.long ((own_sq f R C) - (own_G2 f R C i)))])) _
  refine st27 _ ?_
  show Steps p.tables e below (T27.setTop (mkF m 552 ls25 [(.ref (A 5)), (.long ((own_sq f R C) - (own_G2 f R C i)))])) _
  refine XS.iload X27.here hx rfl (hb hby d5_552) (own_Lv_get Lv25 11 rfl) ?_
  show Steps p.tables e below (T27.setTop (mkF m 554 ls25 [(.int (own_i j)), (.ref (A 5)), (.long ((own_sq f R C) - (own_G2 f R C i)))])) _
  refine own_ldJ X27 hx hZ e27 (own_B_v5 Bq24) (own_i_toInt (by omega)) (by omega) (g := (mkF m 554 ls25 [(.int (own_i j)), (.ref (A 5)), (.long ((own_sq f R C) - (own_G2 f R C i)))])) rfl rfl (hb hby d5_554) _ ?_
  show Steps p.tables e below (T27.setTop (mkF m 555 ls25 [(.long (own_G5 f R C j)), (.long ((own_sq f R C) - (own_G2 f R C i)))])) _
  refine XS.lsub X27.here hx rfl (hb hby d5_555) rfl ?_
  show Steps p.tables e below (T27.setTop (mkF m 556 ls25 [(.long (((own_sq f R C) - (own_G2 f R C i)) - (own_G5 f R C j)))])) _
  refine XS.lload X27.here hx rfl (hb hby d5_556) (own_Lv_get Lv25 3 rfl) ?_
  show Steps p.tables e below (T27.setTop (mkF m 558 ls25 [(.long (own_cel f C i j)), (.long (((own_sq f R C) - (own_G2 f R C i)) - (own_G5 f R C j)))])) _
  refine XS.lload X27.here hx rfl (hb hby d5_558) (own_Lv_get Lv25 3 rfl) ?_
  show Steps p.tables e below (T27.setTop (mkF m 560 ls25 [(.long (own_cel f C i j)), (.long (own_cel f C i j)), (.long (((own_sq f R C) - (own_G2 f R C i)) - (own_G5 f R C j)))])) _
  refine XS.lmul X27.here hx rfl (hb hby d5_560) rfl ?_
  show Steps p.tables e below (T27.setTop (mkF m 561 ls25 [(.long ((own_cel f C i j) * (own_cel f C i j))), (.long (((own_sq f R C) - (own_G2 f R C i)) - (own_G5 f R C j)))])) _
  refine XS.ladd X27.here hx rfl (hb hby d5_561) rfl ?_
  show Steps p.tables e below (T27.setTop (mkF m 562 ls25 [(.long ((((own_sq f R C) - (own_G2 f R C i)) - (own_G5 f R C j)) + ((own_cel f C i j) * (own_cel f C i j))))])) _
  refine XS.lstore X27.here hx rfl (hb hby d5_562) rfl (l' := ls28) sl28 ?_
  show Steps p.tables e below (T27.setTop (mkF m 564 ls28 [])) _
  refine XS.lload X27.here hx rfl (hb hby d5_564) (own_Lv_get Lv28 3 rfl) ?_
  show Steps p.tables e below (T27.setTop (mkF m 566 ls28 [(.long (own_rest f R C q i j))])) _
  refine XS.lload X27.here hx rfl (hb hby d5_566) (own_Lv_get Lv28 3 rfl) ?_
  show Steps p.tables e below (T27.setTop (mkF m 568 ls28 [(.long (own_rest f R C q i j)), (.long (own_rest f R C q i j))])) _
  refine XS.lmul X27.here hx rfl (hb hby d5_568) rfl ?_
  show Steps p.tables e below (T27.setTop (mkF m 569 ls28 [(.long ((own_rest f R C q i j) * (own_rest f R C q i j)))])) _
  refine XS.lload X27.here hx rfl (hb hby d5_569) (own_Lv_get Lv28 2 rfl) ?_
  show Steps p.tables e below (T27.setTop (mkF m 571 ls28 [(.long (own_sr f R C i j)), (.long ((own_rest f R C q i j) * (own_rest f R C q i j)))])) _
  refine XS.lsub X27.here hx rfl (hb hby d5_571) rfl ?_
  show Steps p.tables e below (T27.setTop (mkF m 572 ls28 [(.long (((own_rest f R C q i j) * (own_rest f R C q i j)) - (own_sr f R C i j)))])) _
  refine XS.lload X27.here hx rfl (hb hby d5_572) (own_Lv_get Lv28 1 rfl) ?_
  show Steps p.tables e below (T27.setTop (mkF m 574 ls28 [(.long (own_sc f R C i j)), (.long (((own_rest f R C q i j) * (own_rest f R C q i j)) - (own_sr f R C i j)))])) _
  refine XS.lsub X27.here hx rfl (hb hby d5_574) rfl ?_
  show Steps p.tables e below (T27.setTop (mkF m 575 ls28 [(.long ((((own_rest f R C q i j) * (own_rest f R C q i j)) - (own_sr f R C i j)) - (own_sc f R C i j)))])) _
  refine XS.lload X27.here hx rfl (hb hby d5_575) (own_Lv_get Lv28 0 rfl) ?_
  show Steps p.tables e below (T27.setTop (mkF m 577 ls28 [(.long (own_sm f R C i j)), (.long ((((own_rest f R C q i j) * (own_rest f R C q i j)) - (own_sr f R C i j)) - (own_sc f R C i j)))])) _
  refine XS.ladd X27.here hx rfl (hb hby d5_577) rfl ?_
  show Steps p.tables e below (T27.setTop (mkF m 578 ls28 [(.long (((((own_rest f R C q i j) * (own_rest f R C q i j)) - (own_sr f R C i j)) - (own_sc f R C i j)) + (own_sm f R C i j)))])) _
  refine X27.ldc2Long hx hown (mvT hZ (hw _ (List.mem_of_getElem? (i := 51) rfl))) (g := (mkF m 578 ls28 [(.long (((((own_rest f R C q i j) * (own_rest f R C q i j)) - (own_sr f R C i j)) - (own_sc f R C i j)) + (own_sm f R C i j)))])) rfl (hb hby d5_578) _ ?_
  show Steps p.tables e below (T27.setTop (mkF m 581 ls28 [(.long (2 : Int64)), (.long (((((own_rest f R C q i j) * (own_rest f R C q i j)) - (own_sr f R C i j)) - (own_sc f R C i j)) + (own_sm f R C i j)))])) _
  refine XS.ldiv X27.here hx rfl (hb hby d5_581) rfl (by decide) ?_
  show Steps p.tables e below (T27.setTop (mkF m 582 ls28 [(.long ((((((own_rest f R C q i j) * (own_rest f R C q i j)) - (own_sr f R C i j)) - (own_sc f R C i j)) + (own_sm f R C i j)) / (2 : Int64)))])) _
  refine XS.lstore X27.here hx rfl (hb hby d5_582) rfl (l' := ls29) sl29 ?_
  show Steps p.tables e below (T27.setTop (mkF m 584 ls29 [])) _
  refine XS.lload X27.here hx rfl (hb hby d5_584) (own_Lv_get Lv29 11 rfl) ?_
  show Steps p.tables e below (T27.setTop (mkF m 586 ls29 [(.long (own_sum i (own_line f R C q) + own_sum j (own_term f R C q i)))])) _
  refine XS.lload X27.here hx rfl (hb hby d5_586) (own_Lv_get Lv29 5 rfl) ?_
  show Steps p.tables e below (T27.setTop (mkF m 588 ls29 [(.long (own_cel f C i j)), (.long (own_sum i (own_line f R C q) + own_sum j (own_term f R C q i)))])) _
  refine st30 _ ?_
  show Steps p.tables e below (T30.setTop (mkF m 591 ls29 [(.long (own_pairs (own_cel f C i j))), (.long (own_sum i (own_line f R C q) + own_sum j (own_term f R C q i)))])) _
  refine XS.lload X30.here hx rfl (hb hby d5_591) (own_Lv_get Lv29 0 rfl) ?_
  show Steps p.tables e below (T30.setTop (mkF m 593 ls29 [(.long (own_pv f R C q i j)), (.long (own_pairs (own_cel f C i j))), (.long (own_sum i (own_line f R C q) + own_sum j (own_term f R C q i)))])) _
  refine XS.lmul X30.here hx rfl (hb hby d5_593) rfl ?_
  show Steps p.tables e below (T30.setTop (mkF m 594 ls29 [(.long ((own_pairs (own_cel f C i j)) * (own_pv f R C q i j))), (.long (own_sum i (own_line f R C q) + own_sum j (own_term f R C q i)))])) _
  refine XS.ladd X30.here hx rfl (hb hby d5_594) rfl ?_
  show Steps p.tables e below (T30.setTop (mkF m 595 ls29 [(.long ((own_sum i (own_line f R C q) + own_sum j (own_term f R C q i)) + ((own_pairs (own_cel f C i j)) * (own_pv f R C q i j))))])) _
  refine XS.lstore X30.here hx rfl (hb hby d5_595) rfl (l' := ls31) sl31 ?_
  show Steps p.tables e below (T30.setTop (mkF m 597 ls31 [])) _
  refine XS.iinc X30.here hx rfl (hb hby d5_597) (own_Lv_get Lv31 13 rfl) (l' := ls32) sl32 ?_
  show Steps p.tables e below (T30.setTop (mkF m 600 ls32 [])) _
  refine XS.goto X30.here hx rfl (pc0 := 600) (pc' := 432) rfl (hb hby d5_600) (by decide) (by decide) ?_
  exact kt
set_option maxRecDepth 65536 in
set_option maxHeartbeats 40000000 in
theorem tE3 {p : Program} {l : Launch} {e : Env} {s : State} {m : MethodId} {args : Array Value} {below : List Frame} {meth : Method} {c : Code} {Z : State} {a0 : Array Value} {n0 : Nat} {a : Addr} {A : Nat → Addr} {N : Nat} {f : Nat → Int32} {r k : Int32} {R C : Nat} {q : Int64} (cx : own_Cx p s m c Z a0 n0 a A N r k R C) {i j : Nat} (hi : i < R) (hj : j < C) {T0 : State} {ls0 : Array Slot} (S0 : own_St p l e own_RC s m args below meth c 25 n0 T0 ls0 [(0, (.ref a)), (1, (.long q)), (3, (.long (own_sq f R C))), (5, (.long (own_rss f R C))), (7, (.long (own_css f R C))), (9, (.long (own_sum i (own_line f R C q) + own_sum j (own_term f R C q i)))), (11, (.int (own_i i))), (12, (.int (own_i j)))] (own_B Z a A N f r k (own_G1 f R C) (own_G2 f R C) (own_G3 f R C) (own_G4 f R C) (own_G5 f R C) (own_G6 f R C))) :
    own_To p l e own_RC s m args below meth c 25 n0 T0 (mkF m 432 ls0 []) 432 [(0, (.ref a)), (1, (.long q)), (3, (.long (own_sq f R C))), (5, (.long (own_rss f R C))), (7, (.long (own_css f R C))), (9, (.long (own_sum i (own_line f R C q) + own_sum (j + 1) (own_term f R C q i)))), (11, (.int (own_i i))), (12, (.int (own_i (j + 1))))] (own_B Z a A N f r k (own_G1 f R C) (own_G2 f R C) (own_G3 f R C) (own_G4 f R C) (own_G5 f R C) (own_G6 f R C)) := by
  by_cases hm : (lcmpW (own_cel f C i j) (2 : Int64)) < (0 : Int32)
  · exact tE1 cx hi hj hm S0
  · exact tE2 cx hi hj hm S0
set_option maxRecDepth 65536 in
set_option maxHeartbeats 40000000 in
theorem tE4 {p : Program} {l : Launch} {e : Env} {s : State} {m : MethodId} {args : Array Value} {below : List Frame} {meth : Method} {c : Code} {Z : State} {a0 : Array Value} {n0 : Nat} {a : Addr} {A : Nat → Addr} {N : Nat} {f : Nat → Int32} {r k : Int32} {R C : Nat} {q : Int64} (cx : own_Cx p s m c Z a0 n0 a A N r k R C) {i : Nat} (hi : i < R) {T0 : State} {ls0 : Array Slot} (S0 : own_St p l e own_RC s m args below meth c 25 n0 T0 ls0 [(0, (.ref a)), (1, (.long q)), (3, (.long (own_sq f R C))), (5, (.long (own_rss f R C))), (7, (.long (own_css f R C))), (9, (.long (own_sum i (own_line f R C q)))), (11, (.int (own_i i)))] (own_B Z a A N f r k (own_G1 f R C) (own_G2 f R C) (own_G3 f R C) (own_G4 f R C) (own_G5 f R C) (own_G6 f R C))) :
    own_To p l e own_RC s m args below meth c 25 n0 T0 (mkF m 420 ls0 []) 420 [(0, (.ref a)), (1, (.long q)), (3, (.long (own_sq f R C))), (5, (.long (own_rss f R C))), (7, (.long (own_css f R C))), (9, (.long (own_sum (i + 1) (own_line f R C q)))), (11, (.int (own_i (i + 1))))] (own_B Z a A N f r k (own_G1 f R C) (own_G2 f R C) (own_G3 f R C) (own_G4 f R C) (own_G5 f R C) (own_G6 f R C)) := by
  obtain ⟨hx, hZ, hw, hby, hml, hown, hA, hn0, hR, hC, lR, lC, hN⟩ := cx
  obtain ⟨lc0, X0, N0, Lv0, B0⟩ := S0
  obtain ⟨T11, X11, e11, st11⟩ := getF X0 hx hZ hown (host := "") (Or.inl (hw _ (List.mem_of_getElem? (i := 31) rfl))) Via.refl rfl ((own_B_rows B0)) (g := (mkF m 423 ls0 [(.ref a), (.int (own_i i))])) rfl rfl (hb hby d5_423)
  obtain ⟨ls12, sl12, Lw12⟩ := own_Lv_st1 Lv0 (k := 12) (v := (.int (0 : Int32))) (by decide) rfl
  have Lv12 : own_Lv 25 ls12 [(12, (.int (own_i 0))), (0, (.ref a)), (1, (.long q)), (3, (.long (own_sq f R C))), (5, (.long (own_rss f R C))), (7, (.long (own_css f R C))), (9, (.long (own_sum i (own_line f R C q)))), (11, (.int (own_i i)))] := Lw12
  have Lv13 : own_Lv 25 ls12 [(0, (.ref a)), (1, (.long q)), (3, (.long (own_sq f R C))), (5, (.long (own_rss f R C))), (7, (.long (own_css f R C))), (9, (.long (own_sum i (own_line f R C q)))), (11, (.int (own_i i))), (12, (.int (own_i 0)))] := own_Lv_pick Lv12 [1, 2, 3, 4, 5, 6, 7, 0] rfl
  have Lv14 : own_Lv 25 ls12 [(0, (.ref a)), (1, (.long q)), (3, (.long (own_sq f R C))), (5, (.long (own_rss f R C))), (7, (.long (own_css f R C))), (9, (.long (own_sum i (own_line f R C q) + own_sum 0 (own_term f R C q i)))), (11, (.int (own_i i))), (12, (.int (own_i 0)))] := by rw [show own_sum 0 (own_term f R C q i) = (0 : Int64) from rfl, Int64.add_zero]; exact Lv13
  obtain ⟨T15, ls15, ⟨lc15, X15, N15, Lv15, Bl15⟩, st15⟩ := own_loop (pc := 432) (fun j => [(0, (.ref a)), (1, (.long q)), (3, (.long (own_sq f R C))), (5, (.long (own_rss f R C))), (7, (.long (own_css f R C))), (9, (.long (own_sum i (own_line f R C q) + own_sum j (own_term f R C q i)))), (11, (.int (own_i i))), (12, (.int (own_i j)))]) (fun j => own_B Z a A N f r k (own_G1 f R C) (own_G2 f R C) (own_G3 f R C) (own_G4 f R C) (own_G5 f R C) (own_G6 f R C)) (N := C) (fun j hj T ls S => tE3 (cx := ⟨hx, hZ, hw, hby, hml, hown, hA, hn0, hR, hC, lR, lC, hN⟩) hi hj S) C 0 (Nat.zero_add C) T11 ls12 ⟨_, X11, N0, Lv14, (by rw [e11]; exact B0)⟩
  obtain ⟨T16, X16, e16, st16⟩ := getF X15 hx hZ hown (host := "") (Or.inl (hw _ (List.mem_of_getElem? (i := 33) rfl))) Via.refl rfl ((own_B_columns Bl15)) (g := (mkF m 435 ls15 [(.ref a), (.int (own_i C))])) rfl rfl (hb hby d5_435)
  obtain ⟨ls17, sl17, Lw17⟩ := own_Lv_st1 Lv15 (k := 11) (v := (.int ((own_i i) + (1 : Int32)))) (by decide) rfl
  have Lv17 : own_Lv 25 ls17 [(11, (.int (own_i (i + 1)))), (0, (.ref a)), (1, (.long q)), (3, (.long (own_sq f R C))), (5, (.long (own_rss f R C))), (7, (.long (own_css f R C))), (9, (.long (own_sum i (own_line f R C q) + own_sum C (own_term f R C q i)))), (12, (.int (own_i C)))] := by rw [own_i_succ i]; exact Lw17
  have Lv18 : own_Lv 25 ls17 [(0, (.ref a)), (1, (.long q)), (3, (.long (own_sq f R C))), (5, (.long (own_rss f R C))), (7, (.long (own_css f R C))), (9, (.long (own_sum i (own_line f R C q) + own_sum C (own_term f R C q i)))), (11, (.int (own_i (i + 1))))] := own_Lv_pick Lv17 [1, 2, 3, 4, 5, 6, 0] rfl
  have Lv19 : own_Lv 25 ls17 [(0, (.ref a)), (1, (.long q)), (3, (.long (own_sq f R C))), (5, (.long (own_rss f R C))), (7, (.long (own_css f R C))), (9, (.long (own_sum (i + 1) (own_line f R C q)))), (11, (.int (own_i (i + 1))))] := by rw [own_sum_succ i (own_line f R C q)]; exact Lv18
  refine ⟨T16, ls17, ⟨_, X16, N15, Lv19, by rw [e16]; exact Bl15⟩, fun target kt => ?_⟩
  show Steps p.tables e below (T0.setTop (mkF m 420 ls0 [])) _
  refine XS.iload X0.here hx rfl (hb hby d5_420) (own_Lv_get Lv0 6 rfl) ?_
  show Steps p.tables e below (T0.setTop (mkF m 422 ls0 [(.int (own_i i))])) _
  refine XS.aloadN X0.here hx rfl (hb hby d5_422) (own_Lv_get Lv0 0 rfl) rfl ?_
  show Steps p.tables e below (T0.setTop (mkF m 423 ls0 [(.ref a), (.int (own_i i))])) _
  refine st11 _ ?_
  show Steps p.tables e below (T11.setTop (mkF m 426 ls0 [(.int r), (.int (own_i i))])) _
  refine XS.icmpNo X11.here hx rfl (hb hby d5_426) rfl (tlt ((own_i_lt (by omega) hR).mpr hi : (own_i i) < r)).2.1 ?_
  show Steps p.tables e below (T11.setTop (mkF m 429 ls0 [])) _
  refine XS.iconst X11.here hx rfl (hb hby d5_429) ?_
  show Steps p.tables e below (T11.setTop (mkF m 430 ls0 [(.int (0 : Int32))])) _
  refine XS.istore X11.here hx rfl (hb hby d5_430) rfl (l' := ls12) sl12 ?_
  show Steps p.tables e below (T11.setTop (mkF m 432 ls12 [])) _
  refine st15 _ ?_
  show Steps p.tables e below (T15.setTop (mkF m 432 ls15 [])) _
  refine XS.iload X15.here hx rfl (hb hby d5_432) (own_Lv_get Lv15 7 rfl) ?_
  show Steps p.tables e below (T15.setTop (mkF m 434 ls15 [(.int (own_i C))])) _
  refine XS.aloadN X15.here hx rfl (hb hby d5_434) (own_Lv_get Lv15 0 rfl) rfl ?_
  show Steps p.tables e below (T15.setTop (mkF m 435 ls15 [(.ref a), (.int (own_i C))])) _
  refine st16 _ ?_
  show Steps p.tables e below (T16.setTop (mkF m 438 ls15 [(.int k), (.int (own_i C))])) _
  refine XS.icmpYes X16.here hx rfl (pc0 := 438) (pc' := 603) rfl (hb hby d5_438) rfl (flt (fun w => Nat.lt_irrefl C ((own_i_lt (by omega) hC).mp w) : ¬ ((own_i C) < k))).2.1 (by decide) (by decide) ?_
  show Steps p.tables e below (T16.setTop (mkF m 603 ls15 [])) _
  refine XS.iinc X16.here hx rfl (hb hby d5_603) (own_Lv_get Lv15 6 rfl) (l' := ls17) sl17 ?_
  show Steps p.tables e below (T16.setTop (mkF m 606 ls17 [])) _
  refine XS.goto X16.here hx rfl (pc0 := 606) (pc' := 420) rfl (hb hby d5_606) (by decide) (by decide) ?_
  exact kt
set_option maxRecDepth 65536 in
set_option maxHeartbeats 40000000 in
theorem tE5 {p : Program} {l : Launch} {e : Env} {s : State} {m : MethodId} {args : Array Value} {below : List Frame} {meth : Method} {c : Code} {Z : State} {a0 : Array Value} {n0 : Nat} {a : Addr} {A : Nat → Addr} {N : Nat} {f : Nat → Int32} {r k : Int32} {R C : Nat} {q : Int64} (cx : own_Cx p s m c Z a0 n0 a A N r k R C)  {T0 : State} {ls0 : Array Slot} (S0 : own_St p l e own_RC s m args below meth c 25 n0 T0 ls0 [(0, (.ref a)), (1, (.long q)), (3, (.long (own_sq f R C))), (5, (.long (own_rss f R C))), (7, (.long (own_css f R C))), (9, (.long (own_sum R (own_line f R C q)))), (11, (.int (own_i R)))] (own_B Z a A N f r k (own_G1 f R C) (own_G2 f R C) (own_G3 f R C) (own_G4 f R C) (own_G5 f R C) (own_G6 f R C))) :
    own_To p l e own_RC s m args below meth c 25 n0 T0 (mkF m 420 ls0 []) 609 [(9, (.long (own_gen f R C q)))] (own_B Z a A N f r k (own_G1 f R C) (own_G2 f R C) (own_G3 f R C) (own_G4 f R C) (own_G5 f R C) (own_G6 f R C)) := by
  obtain ⟨hx, hZ, hw, hby, hml, hown, hA, hn0, hR, hC, lR, lC, hN⟩ := cx
  obtain ⟨lc0, X0, N0, Lv0, B0⟩ := S0
  obtain ⟨T11, X11, e11, st11⟩ := getF X0 hx hZ hown (host := "") (Or.inl (hw _ (List.mem_of_getElem? (i := 31) rfl))) Via.refl rfl ((own_B_rows B0)) (g := (mkF m 423 ls0 [(.ref a), (.int (own_i R))])) rfl rfl (hb hby d5_423)
  have Lv12 : own_Lv 25 ls0 [(9, (.long (own_gen f R C q)))] := own_Lv_pick Lv0 [5] rfl
  refine ⟨T11, ls0, ⟨_, X11, N0, Lv12, by rw [e11]; exact B0⟩, fun target kt => ?_⟩
  show Steps p.tables e below (T0.setTop (mkF m 420 ls0 [])) _
  refine XS.iload X0.here hx rfl (hb hby d5_420) (own_Lv_get Lv0 6 rfl) ?_
  show Steps p.tables e below (T0.setTop (mkF m 422 ls0 [(.int (own_i R))])) _
  refine XS.aloadN X0.here hx rfl (hb hby d5_422) (own_Lv_get Lv0 0 rfl) rfl ?_
  show Steps p.tables e below (T0.setTop (mkF m 423 ls0 [(.ref a), (.int (own_i R))])) _
  refine st11 _ ?_
  show Steps p.tables e below (T11.setTop (mkF m 426 ls0 [(.int r), (.int (own_i R))])) _
  refine XS.icmpYes X11.here hx rfl (pc0 := 426) (pc' := 609) rfl (hb hby d5_426) rfl (flt (fun w => Nat.lt_irrefl R ((own_i_lt (by omega) hR).mp w) : ¬ ((own_i R) < r))).2.1 (by decide) (by decide) ?_
  exact kt
set_option maxRecDepth 65536 in
set_option maxHeartbeats 40000000 in
theorem tS1 {p : Program} {l : Launch} {e : Env} {s : State} {m : MethodId} {args : Array Value} {below : List Frame} {meth : Method} {c : Code} {Z : State} {a0 : Array Value} {n0 : Nat} {a : Addr} {A : Nat → Addr} {N : Nat} {f : Nat → Int32} {r k : Int32} {R C : Nat} {q : Int64} (cx : own_Cx p s m c Z a0 n0 a A N r k R C) (hr3 : ¬ (r = (3 : Int32))) {T0 : State} {ls0 : Array Slot} (S0 : own_St p l e own_RC s m args below meth c 25 n0 T0 ls0 [(1, (.long q)), (0, (.ref a))] (own_B Z a A N f r k own_z own_z own_z own_z own_z own_z)) :
    own_To p l e own_RC s m args below meth c 25 n0 T0 (mkF m 0 ls0 []) 21 [(1, (.long q)), (0, (.ref a))] (own_B Z a A N f r k own_z own_z own_z own_z own_z own_z) := by
  obtain ⟨hx, hZ, hw, hby, hml, hown, hA, hn0, hR, hC, lR, lC, hN⟩ := cx
  obtain ⟨lc0, X0, N0, Lv0, B0⟩ := S0
  obtain ⟨T11, X11, e11, st11⟩ := getF X0 hx hZ hown (host := "") (Or.inl (hw _ (List.mem_of_getElem? (i := 31) rfl))) Via.refl rfl ((own_B_rows B0)) (g := (mkF m 1 ls0 [(.ref a)])) rfl rfl (hb hby d5_1)
  refine ⟨T11, ls0, ⟨_, X11, N0, Lv0, by rw [e11]; exact B0⟩, fun target kt => ?_⟩
  show Steps p.tables e below (T0.setTop (mkF m 0 ls0 [])) _
  refine XS.aloadN X0.here hx rfl (hb hby d5_0) (own_Lv_get Lv0 1 rfl) rfl ?_
  show Steps p.tables e below (T0.setTop (mkF m 1 ls0 [(.ref a)])) _
  refine st11 _ ?_
  show Steps p.tables e below (T11.setTop (mkF m 4 ls0 [(.int r)])) _
  refine XS.iconst X11.here hx rfl (hb hby d5_4) ?_
  show Steps p.tables e below (T11.setTop (mkF m 5 ls0 [(.int (3 : Int32)), (.int r)])) _
  refine XS.icmpYes X11.here hx rfl (pc0 := 5) (pc' := 21) rfl (hb hby d5_5) rfl (feq (hr3 : ¬ (r = (3 : Int32)))).2 (by decide) (by decide) ?_
  exact kt
set_option maxRecDepth 65536 in
set_option maxHeartbeats 40000000 in
theorem tS2 {p : Program} {l : Launch} {e : Env} {s : State} {m : MethodId} {args : Array Value} {below : List Frame} {meth : Method} {c : Code} {Z : State} {a0 : Array Value} {n0 : Nat} {a : Addr} {A : Nat → Addr} {N : Nat} {f : Nat → Int32} {r k : Int32} {R C : Nat} {q : Int64} (cx : own_Cx p s m c Z a0 n0 a A N r k R C) (hr3 : r = (3 : Int32)) (hk3 : ¬ (k = (3 : Int32))) {T0 : State} {ls0 : Array Slot} (S0 : own_St p l e own_RC s m args below meth c 25 n0 T0 ls0 [(1, (.long q)), (0, (.ref a))] (own_B Z a A N f r k own_z own_z own_z own_z own_z own_z)) :
    own_To p l e own_RC s m args below meth c 25 n0 T0 (mkF m 0 ls0 []) 21 [(1, (.long q)), (0, (.ref a))] (own_B Z a A N f r k own_z own_z own_z own_z own_z own_z) := by
  obtain ⟨hx, hZ, hw, hby, hml, hown, hA, hn0, hR, hC, lR, lC, hN⟩ := cx
  obtain ⟨lc0, X0, N0, Lv0, B0⟩ := S0
  obtain ⟨T11, X11, e11, st11⟩ := getF X0 hx hZ hown (host := "") (Or.inl (hw _ (List.mem_of_getElem? (i := 31) rfl))) Via.refl rfl ((own_B_rows B0)) (g := (mkF m 1 ls0 [(.ref a)])) rfl rfl (hb hby d5_1)
  obtain ⟨T12, X12, e12, st12⟩ := getF X11 hx hZ hown (host := "") (Or.inl (hw _ (List.mem_of_getElem? (i := 33) rfl))) Via.refl e11 ((own_B_columns B0)) (g := (mkF m 9 ls0 [(.ref a)])) rfl rfl (hb hby d5_9)
  refine ⟨T12, ls0, ⟨_, X12, N0, Lv0, by rw [e12]; exact B0⟩, fun target kt => ?_⟩
  show Steps p.tables e below (T0.setTop (mkF m 0 ls0 [])) _
  refine XS.aloadN X0.here hx rfl (hb hby d5_0) (own_Lv_get Lv0 1 rfl) rfl ?_
  show Steps p.tables e below (T0.setTop (mkF m 1 ls0 [(.ref a)])) _
  refine st11 _ ?_
  show Steps p.tables e below (T11.setTop (mkF m 4 ls0 [(.int r)])) _
  refine XS.iconst X11.here hx rfl (hb hby d5_4) ?_
  show Steps p.tables e below (T11.setTop (mkF m 5 ls0 [(.int (3 : Int32)), (.int r)])) _
  refine XS.icmpNo X11.here hx rfl (hb hby d5_5) rfl (teq (hr3 : r = (3 : Int32))).2 ?_
  show Steps p.tables e below (T11.setTop (mkF m 8 ls0 [])) _
  refine XS.aloadN X11.here hx rfl (hb hby d5_8) (own_Lv_get Lv0 1 rfl) rfl ?_
  show Steps p.tables e below (T11.setTop (mkF m 9 ls0 [(.ref a)])) _
  refine st12 _ ?_
  show Steps p.tables e below (T12.setTop (mkF m 12 ls0 [(.int k)])) _
  refine XS.iconst X12.here hx rfl (hb hby d5_12) ?_
  show Steps p.tables e below (T12.setTop (mkF m 13 ls0 [(.int (3 : Int32)), (.int k)])) _
  refine XS.icmpYes X12.here hx rfl (pc0 := 13) (pc' := 21) rfl (hb hby d5_13) rfl (feq (hk3 : ¬ (k = (3 : Int32)))).2 (by decide) (by decide) ?_
  exact kt
theorem own_pd_LAJIIJRV : parseMethodDescriptor "([JIIJ)V" = some ⟨[(.array .long), .int, .int, .long], none⟩ := by decide +kernel
set_option maxRecDepth 65536 in
set_option maxHeartbeats 40000000 in
theorem tS3 {p : Program} {l : Launch} {e : Env} {s : State} {m : MethodId} {args : Array Value} {below : List Frame} {meth : Method} {c : Code} {Z : State} {a0 : Array Value} {n0 : Nat} {a : Addr} {A : Nat → Addr} {N : Nat} {f : Nat → Int32} {r k : Int32} {R C : Nat} {q : Int64} (cx : own_Cx p s m c Z a0 n0 a A N r k R C)  {T0 : State} {ls0 : Array Slot} (S0 : own_St p l e own_RC s m args below meth c 25 n0 T0 ls0 [(1, (.long q)), (0, (.ref a))] (own_B Z a A N f r k own_z own_z own_z own_z own_z own_z)) :
    own_To p l e own_RC s m args below meth c 25 n0 T0 (mkF m 21 ls0 []) 58 [(0, (.ref a)), (1, (.long q)), (3, (.long (own_sum 0 (own_rq f C)))), (5, (.long (own_sum 0 (own_rs2 f C)))), (7, (.long (0 : Int64))), (9, (.int (own_i 0)))] (own_B Z a A N f r k (own_pre (own_rs f C) 0) (own_pre (own_rq f C) 0) own_z (own_cs (own_cel f C) C 0 0) (own_cs (own_cel2 f C) C 0 0) own_z) := by
  obtain ⟨hx, hZ, hw, hby, hml, hown, hA, hn0, hR, hC, lR, lC, hN⟩ := cx
  obtain ⟨lc0, X0, N0, Lv0, B0⟩ := S0
  obtain ⟨ls11, sl11, Lw11⟩ := own_Lv_st2 Lv0 (k := 3) (v := (.long (0 : Int64))) (by decide) rfl
  have Lv11 : own_Lv 25 ls11 [(3, (.long (own_sum 0 (own_rq f C)))), (1, (.long q)), (0, (.ref a))] := Lw11
  obtain ⟨ls12, sl12, Lw12⟩ := own_Lv_st2 Lv11 (k := 5) (v := (.long (0 : Int64))) (by decide) rfl
  have Lv12 : own_Lv 25 ls12 [(5, (.long (own_sum 0 (own_rs2 f C)))), (3, (.long (own_sum 0 (own_rq f C)))), (1, (.long q)), (0, (.ref a))] := Lw12
  obtain ⟨ls13, sl13, Lw13⟩ := own_Lv_st2 Lv12 (k := 7) (v := (.long (0 : Int64))) (by decide) rfl
  have Lv13 : own_Lv 25 ls13 [(7, (.long (0 : Int64))), (5, (.long (own_sum 0 (own_rs2 f C)))), (3, (.long (own_sum 0 (own_rq f C)))), (1, (.long q)), (0, (.ref a))] := Lw13
  obtain ⟨T14, X14, e14, st14⟩ := getF X0 hx hZ hown (host := "") (Or.inl (hw _ (List.mem_of_getElem? (i := 20) rfl))) Via.refl rfl ((own_B_columnSums B0)) (g := (mkF m 30 ls13 [(.ref a)])) rfl rfl (hb hby d5_30)
  obtain ⟨T15, X15, e15, st15⟩ := getF X14 hx hZ hown (host := "") (Or.inl (hw _ (List.mem_of_getElem? (i := 33) rfl))) Via.refl e14 ((own_B_columns B0)) (g := (mkF m 35 ls13 [(.ref a), (.int (0 : Int32)), (.ref (A 4))])) rfl rfl (hb hby d5_35)
  obtain ⟨_, _, ⟨T16, L16, k16, n16⟩, -, X16, ⟨Lc16, hQ16, l16, y16, z16⟩, st16⟩ := Jvm.LawKit.callS X15 hx (y := (⟨"java/util/Arrays", "fill", "([JIIJ)V"⟩ : MethodName)) hown (mvT hZ (hw _ (List.mem_of_getElem? (i := 44) rfl))) (mvT hZ (hw _ (List.mem_of_getElem? (i := 45) rfl))) (mvT hZ (hw _ (List.mem_of_getElem? (i := 46) rfl))) (mvT hZ (hw _ (List.mem_of_getElem? (i := 47) rfl))) (by decide) (backOf (W := 0) (rm6 l Z a0 hw [] (A 4) k C T0.heap n0 (own_B_sz B0 hn0.1) (own_B_v4 B0) (hn0.2 4 (by decide)) hC lC) hZ (hw _ (List.mem_of_getElem? (i := 47) rfl)) (hw _ (List.mem_of_getElem? (i := 46) rfl)) (by decide) (by decide)) (g := (mkF m 39 ls13 [(.long (0 : Int64)), (.int k), (.int (0 : Int32)), (.ref (A 4))])) rfl (by rw [hml]; exact Lv13.1) (argsL := [(.ref (A 4)), (.int (0 : Int32)), (.int k), (.long (0 : Int64))]) (rest := []) (lenOf own_pd_LAJIIJRV rfl) rfl (by show 2 * 0 + _ ≤ _; exact Nat.le_of_eq rfl) (hb hby d5_39) (fun _ _ => ⟨rfl, e15, (by decide : 0 + 0 ≤ _), (by decide : 0 + 0 ≤ _)⟩)
  dsimp only [Pt.U, Pt.locs, Pt.cells, Pt.slots] at X16 l16 y16 z16 st16 hQ16
  subst l16 y16 z16
  obtain ⟨rfl, N16q, Vf16, Kf16⟩ := hQ16
  have N16 := Fr.app N0 N16q
  have Bf16 : own_B Z a A N f r k own_z own_z own_z own_z own_z own_z T16.heap := own_B_keep Kf16 B0 (fun w => hA.1 4 (by decide) (List.mem_singleton.mp w)) (fun w => hA.2 0 4 (by decide) (by decide) (by decide) (List.mem_singleton.mp w)) (own_AJ_keep (own_B_v1 B0) Kf16 (fun w => hA.2 1 4 (by decide) (by decide) (by decide) (List.mem_singleton.mp w))) (own_AJ_keep (own_B_v2 B0) Kf16 (fun w => hA.2 2 4 (by decide) (by decide) (by decide) (List.mem_singleton.mp w))) (own_AJ_keep (own_B_v3 B0) Kf16 (fun w => hA.2 3 4 (by decide) (by decide) (by decide) (List.mem_singleton.mp w))) Vf16 (own_AJ_keep (own_B_v5 B0) Kf16 (fun w => hA.2 5 4 (by decide) (by decide) (by decide) (List.mem_singleton.mp w))) (own_AJ_keep (own_B_v6 B0) Kf16 (fun w => hA.2 6 4 (by decide) (by decide) (by decide) (List.mem_singleton.mp w)))
  obtain ⟨T17, X17, e17, st17⟩ := getF X16 hx hZ hown (host := "") (Or.inl (hw _ (List.mem_of_getElem? (i := 22) rfl))) Via.refl rfl ((own_B_columnSquares Bf16)) (g := (mkF m 43 ls13 [(.ref a)])) rfl rfl (hb hby d5_43)
  obtain ⟨T18, X18, e18, st18⟩ := getF X17 hx hZ hown (host := "") (Or.inl (hw _ (List.mem_of_getElem? (i := 33) rfl))) Via.refl e17 ((own_B_columns Bf16)) (g := (mkF m 48 ls13 [(.ref a), (.int (0 : Int32)), (.ref (A 5))])) rfl rfl (hb hby d5_48)
  obtain ⟨_, _, ⟨T19, L19, k19, n19⟩, -, X19, ⟨Lc19, hQ19, l19, y19, z19⟩, st19⟩ := Jvm.LawKit.callS X18 hx (y := (⟨"java/util/Arrays", "fill", "([JIIJ)V"⟩ : MethodName)) hown (mvT hZ (hw _ (List.mem_of_getElem? (i := 44) rfl))) (mvT hZ (hw _ (List.mem_of_getElem? (i := 45) rfl))) (mvT hZ (hw _ (List.mem_of_getElem? (i := 46) rfl))) (mvT hZ (hw _ (List.mem_of_getElem? (i := 47) rfl))) (by decide) (backOf (W := 0) (rm6 l Z a0 hw [] (A 5) k C T16.heap n0 (own_B_sz Bf16 hn0.1) (own_B_v5 Bf16) (hn0.2 5 (by decide)) hC lC) hZ (hw _ (List.mem_of_getElem? (i := 47) rfl)) (hw _ (List.mem_of_getElem? (i := 46) rfl)) (by decide) (by decide)) (g := (mkF m 52 ls13 [(.long (0 : Int64)), (.int k), (.int (0 : Int32)), (.ref (A 5))])) rfl (by rw [hml]; exact Lv13.1) (argsL := [(.ref (A 5)), (.int (0 : Int32)), (.int k), (.long (0 : Int64))]) (rest := []) (lenOf own_pd_LAJIIJRV rfl) rfl (by show 2 * 0 + _ ≤ _; exact Nat.le_of_eq rfl) (hb hby d5_52) (fun _ _ => ⟨rfl, e18, (by decide : 0 + 0 ≤ _), (by decide : 0 + 0 ≤ _)⟩)
  dsimp only [Pt.U, Pt.locs, Pt.cells, Pt.slots] at X19 l19 y19 z19 st19 hQ19
  subst l19 y19 z19
  obtain ⟨rfl, N19q, Vf19, Kf19⟩ := hQ19
  have N19 := Fr.app N16 N19q
  have Bf19 : own_B Z a A N f r k own_z own_z own_z own_z own_z own_z T19.heap := own_B_keep Kf19 Bf16 (fun w => hA.1 5 (by decide) (List.mem_singleton.mp w)) (fun w => hA.2 0 5 (by decide) (by decide) (by decide) (List.mem_singleton.mp w)) (own_AJ_keep (own_B_v1 Bf16) Kf19 (fun w => hA.2 1 5 (by decide) (by decide) (by decide) (List.mem_singleton.mp w))) (own_AJ_keep (own_B_v2 Bf16) Kf19 (fun w => hA.2 2 5 (by decide) (by decide) (by decide) (List.mem_singleton.mp w))) (own_AJ_keep (own_B_v3 Bf16) Kf19 (fun w => hA.2 3 5 (by decide) (by decide) (by decide) (List.mem_singleton.mp w))) (own_AJ_keep (own_B_v4 Bf16) Kf19 (fun w => hA.2 4 5 (by decide) (by decide) (by decide) (List.mem_singleton.mp w))) Vf19 (own_AJ_keep (own_B_v6 Bf16) Kf19 (fun w => hA.2 6 5 (by decide) (by decide) (by decide) (List.mem_singleton.mp w)))
  obtain ⟨ls20, sl20, Lw20⟩ := own_Lv_st1 Lv13 (k := 9) (v := (.int (0 : Int32))) (by decide) rfl
  have Lv20 : own_Lv 25 ls20 [(9, (.int (own_i 0))), (7, (.long (0 : Int64))), (5, (.long (own_sum 0 (own_rs2 f C)))), (3, (.long (own_sum 0 (own_rq f C)))), (1, (.long q)), (0, (.ref a))] := Lw20
  have Lv21 : own_Lv 25 ls20 [(0, (.ref a)), (1, (.long q)), (3, (.long (own_sum 0 (own_rq f C)))), (5, (.long (own_sum 0 (own_rs2 f C)))), (7, (.long (0 : Int64))), (9, (.int (own_i 0)))] := own_Lv_pick Lv20 [5, 4, 3, 2, 1, 0] rfl
  have Bc1 : own_B Z a A N f r k (own_pre (own_rs f C) 0) (own_pre (own_rq f C) 0) own_z (own_cs (own_cel f C) C 0 0) (own_cs (own_cel2 f C) C 0 0) own_z T19.heap := by rw [own_pre_0, own_pre_0, own_cs_0, own_cs_0]; exact Bf19
  refine ⟨T19, ls20, ⟨_, X19, N19, Lv21, Bc1⟩, fun target kt => ?_⟩
  show Steps p.tables e below (T0.setTop (mkF m 21 ls0 [])) _
  refine XS.lconst X0.here hx rfl (hb hby d5_21) ?_
  show Steps p.tables e below (T0.setTop (mkF m 22 ls0 [(.long (0 : Int64))])) _
  refine XS.lstoreN X0.here hx rfl (hb hby d5_22) rfl (l' := ls11) sl11 ?_
  show Steps p.tables e below (T0.setTop (mkF m 23 ls11 [])) _
  refine XS.lconst X0.here hx rfl (hb hby d5_23) ?_
  show Steps p.tables e below (T0.setTop (mkF m 24 ls11 [(.long (0 : Int64))])) _
  refine XS.lstore X0.here hx rfl (hb hby d5_24) rfl (l' := ls12) sl12 ?_
  show Steps p.tables e below (T0.setTop (mkF m 26 ls12 [])) _
  refine XS.lconst X0.here hx rfl (hb hby d5_26) ?_
  show Steps p.tables e below (T0.setTop (mkF m 27 ls12 [(.long (0 : Int64))])) _
  refine XS.lstore X0.here hx rfl (hb hby d5_27) rfl (l' := ls13) sl13 ?_
  show Steps p.tables e below (T0.setTop (mkF m 29 ls13 [])) _
  refine XS.aloadN X0.here hx rfl (hb hby d5_29) (own_Lv_get Lv13 4 rfl) rfl ?_
  show Steps p.tables e below (T0.setTop (mkF m 30 ls13 [(.ref a)])) _
  refine st14 _ ?_
  show Steps p.tables e below (T14.setTop (mkF m 33 ls13 [(.ref (A 4))])) _
  refine XS.iconst X14.here hx rfl (hb hby d5_33) ?_
  show Steps p.tables e below (T14.setTop (mkF m 34 ls13 [(.int (0 : Int32)), (.ref (A 4))])) _
  refine XS.aloadN X14.here hx rfl (hb hby d5_34) (own_Lv_get Lv13 4 rfl) rfl ?_
  show Steps p.tables e below (T14.setTop (mkF m 35 ls13 [(.ref a), (.int (0 : Int32)), (.ref (A 4))])) _
  refine st15 _ ?_
  show Steps p.tables e below (T15.setTop (mkF m 38 ls13 [(.int k), (.int (0 : Int32)), (.ref (A 4))])) _
  refine XS.lconst X15.here hx rfl (hb hby d5_38) ?_
  show Steps p.tables e below (T15.setTop (mkF m 39 ls13 [(.long (0 : Int64)), (.int k), (.int (0 : Int32)), (.ref (A 4))])) _
  refine st16 _ ?_
  show Steps p.tables e below (T16.setTop (mkF m 42 ls13 [])) _
  refine XS.aloadN X16.here hx rfl (hb hby d5_42) (own_Lv_get Lv13 4 rfl) rfl ?_
  show Steps p.tables e below (T16.setTop (mkF m 43 ls13 [(.ref a)])) _
  refine st17 _ ?_
  show Steps p.tables e below (T17.setTop (mkF m 46 ls13 [(.ref (A 5))])) _
  refine XS.iconst X17.here hx rfl (hb hby d5_46) ?_
  show Steps p.tables e below (T17.setTop (mkF m 47 ls13 [(.int (0 : Int32)), (.ref (A 5))])) _
  refine XS.aloadN X17.here hx rfl (hb hby d5_47) (own_Lv_get Lv13 4 rfl) rfl ?_
  show Steps p.tables e below (T17.setTop (mkF m 48 ls13 [(.ref a), (.int (0 : Int32)), (.ref (A 5))])) _
  refine st18 _ ?_
  show Steps p.tables e below (T18.setTop (mkF m 51 ls13 [(.int k), (.int (0 : Int32)), (.ref (A 5))])) _
  refine XS.lconst X18.here hx rfl (hb hby d5_51) ?_
  show Steps p.tables e below (T18.setTop (mkF m 52 ls13 [(.long (0 : Int64)), (.int k), (.int (0 : Int32)), (.ref (A 5))])) _
  refine st19 _ ?_
  show Steps p.tables e below (T19.setTop (mkF m 55 ls13 [])) _
  refine XS.iconst X19.here hx rfl (hb hby d5_55) ?_
  show Steps p.tables e below (T19.setTop (mkF m 56 ls13 [(.int (0 : Int32))])) _
  refine XS.istore X19.here hx rfl (hb hby d5_56) rfl (l' := ls20) sl20 ?_
  exact kt
def own_count (f : Nat → Int32) (R C : Nat) (q : Int64) : Int64 := if R = 3 ∧ C = 3 then own_three f else own_gen f R C q
def own_Q5 (x : Int64) (h0 : Heap) (n0 : Nat) (v : Option Value) (h : Heap) (L : List Loc) : Prop := v = some (.long x) ∧ Fr n0 L
theorem own_pd_LRJ : parseMethodDescriptor "()J" = some ⟨[], some .long⟩ := by decide +kernel
theorem own_ef5 (m : MethodId) (x0 : Addr) (x1 : Int64) : entryFrame m #[(.ref x0), (.long x1)] 25 = mkF m 0 #[.val (.ref x0), .val (.long x1), .second, .unset, .unset, .unset, .unset, .unset, .unset, .unset, .unset, .unset, .unset, .unset, .unset, .unset, .unset, .unset, .unset, .unset, .unset, .unset, .unset, .unset, .unset] [] := by first | (simp [entryFrame, mkF, argsToLocals, Value.category]; done) | rfl
set_option maxRecDepth 65536 in
set_option maxHeartbeats 40000000 in
theorem rm5_33 (l : Launch) (Z : State) (a0 : Array Value) (hw : ∀ d ∈ tables_1, d.before a0 Z = true) (ws : List Jvm.Cond) (a : Addr) (A : Nat → Addr) (N : Nat) (f : Nat → Int32) (r k : Int32) (R C : Nat) (q : Int64) (h0 : Heap) (n0 : Nat) (Z0 : n0 ≤ h0.size) (B0 : own_B Z a A N f r k own_z own_z own_z own_z own_z own_z h0) (hA : own_ne a A) (hn0 : n0 ≤ a ∧ ∀ i, i < 7 → n0 ≤ A i) (hR : r.toInt = (R : Int)) (hC : k.toInt = (C : Int)) (lR : R ≤ 4) (lC : C ≤ 4) (hN : R * C ≤ N) (hr3 : r = (3 : Int32)) (hk3 : k = (3 : Int32)) (h9 : 9 ≤ N) :
    MetFree l (⟨"quartess/quartet/Anchors", "count", "(J)J"⟩ : MethodName) (head1 (Jvm.Cond.code (⟨"quartess/quartet/Anchors", "count", "(J)J"⟩ : MethodName) prog_20_method_3_code 25 (some .long) :: ws) own_RC) (fun aa U => aa = #[(.ref a), (.long q)] ∧ Z.Warmed39 U.vm ∧ U.heap = h0) (fun _ _ _ _ _ => True) (fun _ U o U' => ∃ v L, o = .returned v ∧ own_Q5 (own_three f) h0 n0 v U'.heap L ∧ FrameEnd U o U' L own_RC.cells own_RC.slots) := by
  refine MetFree.of_bodySF (plainFor_of_name own_pnK) hisR ?_
  intro p e s m args below meth c s₁ Bd hml0 hP hK
  obtain ⟨rfl, hZ, hh⟩ := hP
  have hx := Bd.exec
  have hby := Bd.bytes
  have hml : c.maxLocals = 25 := hml0
  have hown : s.vm.findClass "quartess/quartet/Anchors" = some m.cls := findClass_of_methodNamed Bd.named
  have hnm := (name_of_methodNamed Bd.named Bd.method).1
  have X0 : Stand p l e own_RC s m #[(.ref a), (.long q)] below meth c s₁ [] 0 0 := Stand.of_body Bd
  have e0 : s₁.heap = h0 := by rw [← hh, Bd.state]; rfl
  have N0 := Fr.nil n0
  have pre0 : ∀ t, Steps p.tables e below (s₁.setTop (mkF m 0 #[.val (.ref a), .val (.long q), .second, .unset, .unset, .unset, .unset, .unset, .unset, .unset, .unset, .unset, .unset, .unset, .unset, .unset, .unset, .unset, .unset, .unset, .unset, .unset, .unset, .unset, .unset] [])) t → Steps p.tables e below (s₁.setTop (entryFrame m #[(.ref a), (.long q)] 25)) t := fun tt kk => castTop (own_ef5 m a q) kk
  obtain ⟨T11, X11, e11, st11⟩ := getF X0 hx hZ hown (host := "") (Or.inl (hw _ (List.mem_of_getElem? (i := 31) rfl))) Via.refl e0 ((own_B_rows B0)) (g := (mkF m 1 #[.val (.ref a), .val (.long q), .second, .unset, .unset, .unset, .unset, .unset, .unset, .unset, .unset, .unset, .unset, .unset, .unset, .unset, .unset, .unset, .unset, .unset, .unset, .unset, .unset, .unset, .unset] [(.ref a)])) rfl rfl (hb hby d5_1)
  obtain ⟨T12, X12, e12, st12⟩ := getF X11 hx hZ hown (host := "") (Or.inl (hw _ (List.mem_of_getElem? (i := 33) rfl))) Via.refl e11 ((own_B_columns B0)) (g := (mkF m 9 #[.val (.ref a), .val (.long q), .second, .unset, .unset, .unset, .unset, .unset, .unset, .unset, .unset, .unset, .unset, .unset, .unset, .unset, .unset, .unset, .unset, .unset, .unset, .unset, .unset, .unset, .unset] [(.ref a)])) rfl rfl (hb hby d5_9)
  obtain ⟨c2, r2, m2, -, -, hm2, -, kP, hkP, hkPi⟩ := Cond.selects_spec (mvT (args := #[]) hZ (hw _ (List.mem_of_getElem? (i := 29) rfl)))
  have hmc : m2.cls = m.cls := Option.some.inj ((findClass_of_methodNamed hm2).symm.trans hown)
  rw [hmc] at hkP
  obtain ⟨cq13, q13, q13'⟩ := (own_B_E B0).cell
  obtain ⟨_, _, ⟨T13, L13, k13, n13⟩, -, X13, ⟨Lc13, hQ13, l13, y13, z13⟩, st13⟩ := X12.privateBack hx (y := (⟨"quartess/quartet/Anchors", "countThreeByThree", "()J"⟩ : MethodName)) hown (mvT hZ (hw _ (List.mem_of_getElem? (i := 60) rfl))) (mvT hZ (hw _ (List.mem_of_getElem? (i := 61) rfl))) (Jvm.Stand.selects_self_of_private hown hkP hkPi (Cond.privateMethod_at (mvP hZ (hw _ (List.mem_of_getElem? (i := 62) rfl)) (args := #[]))) (mvT hZ (hw _ (List.mem_of_getElem? (i := 61) rfl))) (by decide)) (Cond.privateMethod_at (mvP hZ (hw _ (List.mem_of_getElem? (i := 62) rfl)) (args := #[]))) (mvT hZ (hw _ (List.mem_of_getElem? (i := 63) rfl))) (by decide) (backOf (W := 0) (rm10 l Z a0 hw [] a A N f r k own_z own_z own_z own_z own_z own_z h0 n0 Z0 B0 h9) hZ (hw _ (List.mem_of_getElem? (i := 63) rfl)) (hw _ (List.mem_of_getElem? (i := 3) rfl)) (by decide) (by decide)) (g := (mkF m 17 #[.val (.ref a), .val (.long q), .second, .unset, .unset, .unset, .unset, .unset, .unset, .unset, .unset, .unset, .unset, .unset, .unset, .unset, .unset, .unset, .unset, .unset, .unset, .unset, .unset, .unset, .unset] [(.ref a)])) rfl (by rw [hml]; rfl) (Steps.refl _) (a := a) (by rw [e12]; exact q13) q13' (argsL := []) (rest := []) (lenOf own_pd_LRJ rfl) rfl (by show 2 * 0 + _ ≤ _; exact Nat.le_of_eq rfl) (hb hby d5_17) (fun _ _ => ⟨rfl, e12, (by decide : 0 + 0 ≤ _), (by decide : 0 + 0 ≤ _)⟩)
  dsimp only [Pt.U, Pt.locs, Pt.cells, Pt.slots] at X13 l13 y13 z13 st13 hQ13
  subst l13 y13 z13
  obtain ⟨rfl, N13q, hq13⟩ := hQ13
  have N13 := Fr.app N0 N13q
  obtain ⟨fs, hr, hrun, hended, hW, hsame⟩ := X13.leave (v := some (.long (own_three f))) (fun h => by rw [Bd.returns] at h; cases h)
  refine ⟨_, _, pre0 _ ?_, hrun, hended, _, _, rfl, ?_, ⟨_, rfl⟩, hW, hsame.mono (by decide) (by decide)⟩
  · show Steps p.tables e below (s₁.setTop (mkF m 0 #[.val (.ref a), .val (.long q), .second, .unset, .unset, .unset, .unset, .unset, .unset, .unset, .unset, .unset, .unset, .unset, .unset, .unset, .unset, .unset, .unset, .unset, .unset, .unset, .unset, .unset, .unset] [])) _
    refine XS.aloadN X0.here hx rfl (hb hby d5_0) rfl rfl ?_
    show Steps p.tables e below (s₁.setTop (mkF m 1 #[.val (.ref a), .val (.long q), .second, .unset, .unset, .unset, .unset, .unset, .unset, .unset, .unset, .unset, .unset, .unset, .unset, .unset, .unset, .unset, .unset, .unset, .unset, .unset, .unset, .unset, .unset] [(.ref a)])) _
    refine st11 _ ?_
    show Steps p.tables e below (T11.setTop (mkF m 4 #[.val (.ref a), .val (.long q), .second, .unset, .unset, .unset, .unset, .unset, .unset, .unset, .unset, .unset, .unset, .unset, .unset, .unset, .unset, .unset, .unset, .unset, .unset, .unset, .unset, .unset, .unset] [(.int r)])) _
    refine XS.iconst X11.here hx rfl (hb hby d5_4) ?_
    show Steps p.tables e below (T11.setTop (mkF m 5 #[.val (.ref a), .val (.long q), .second, .unset, .unset, .unset, .unset, .unset, .unset, .unset, .unset, .unset, .unset, .unset, .unset, .unset, .unset, .unset, .unset, .unset, .unset, .unset, .unset, .unset, .unset] [(.int (3 : Int32)), (.int r)])) _
    refine XS.icmpNo X11.here hx rfl (hb hby d5_5) rfl (teq (hr3 : r = (3 : Int32))).2 ?_
    show Steps p.tables e below (T11.setTop (mkF m 8 #[.val (.ref a), .val (.long q), .second, .unset, .unset, .unset, .unset, .unset, .unset, .unset, .unset, .unset, .unset, .unset, .unset, .unset, .unset, .unset, .unset, .unset, .unset, .unset, .unset, .unset, .unset] [])) _
    refine XS.aloadN X11.here hx rfl (hb hby d5_8) rfl rfl ?_
    show Steps p.tables e below (T11.setTop (mkF m 9 #[.val (.ref a), .val (.long q), .second, .unset, .unset, .unset, .unset, .unset, .unset, .unset, .unset, .unset, .unset, .unset, .unset, .unset, .unset, .unset, .unset, .unset, .unset, .unset, .unset, .unset, .unset] [(.ref a)])) _
    refine st12 _ ?_
    show Steps p.tables e below (T12.setTop (mkF m 12 #[.val (.ref a), .val (.long q), .second, .unset, .unset, .unset, .unset, .unset, .unset, .unset, .unset, .unset, .unset, .unset, .unset, .unset, .unset, .unset, .unset, .unset, .unset, .unset, .unset, .unset, .unset] [(.int k)])) _
    refine XS.iconst X12.here hx rfl (hb hby d5_12) ?_
    show Steps p.tables e below (T12.setTop (mkF m 13 #[.val (.ref a), .val (.long q), .second, .unset, .unset, .unset, .unset, .unset, .unset, .unset, .unset, .unset, .unset, .unset, .unset, .unset, .unset, .unset, .unset, .unset, .unset, .unset, .unset, .unset, .unset] [(.int (3 : Int32)), (.int k)])) _
    refine XS.icmpNo X12.here hx rfl (hb hby d5_13) rfl (teq (hk3 : k = (3 : Int32))).2 ?_
    show Steps p.tables e below (T12.setTop (mkF m 16 #[.val (.ref a), .val (.long q), .second, .unset, .unset, .unset, .unset, .unset, .unset, .unset, .unset, .unset, .unset, .unset, .unset, .unset, .unset, .unset, .unset, .unset, .unset, .unset, .unset, .unset, .unset] [])) _
    refine XS.aloadN X12.here hx rfl (hb hby d5_16) rfl rfl ?_
    show Steps p.tables e below (T12.setTop (mkF m 17 #[.val (.ref a), .val (.long q), .second, .unset, .unset, .unset, .unset, .unset, .unset, .unset, .unset, .unset, .unset, .unset, .unset, .unset, .unset, .unset, .unset, .unset, .unset, .unset, .unset, .unset, .unset] [(.ref a)])) _
    refine st13.trans ?_
    show Steps p.tables e below (T13.setTop (mkF m 20 #[.val (.ref a), .val (.long q), .second, .unset, .unset, .unset, .unset, .unset, .unset, .unset, .unset, .unset, .unset, .unset, .unset, .unset, .unset, .unset, .unset, .unset, .unset, .unset, .unset, .unset, .unset] [(.long (own_three f))])) _
    exact X13.lreturnOut hx Bd.returns (hb hby d5_20) hr
  · show own_Q5 (own_three f) h0 n0 _ T13.heap _
    exact ⟨rfl, N13⟩
theorem own_ef5b (m : MethodId) (x0 : Addr) (x1 : Int64) : entryFrame m #[(.ref x0), (.long x1)] 25 = mkF m 0 #[.val (.ref x0), .val (.long x1), .second, .unset, .unset, .unset, .unset, .unset, .unset, .unset, .unset, .unset, .unset, .unset, .unset, .unset, .unset, .unset, .unset, .unset, .unset, .unset, .unset, .unset, .unset] [] := by first | (simp [entryFrame, mkF, argsToLocals, Value.category]; done) | rfl
set_option maxRecDepth 65536 in
set_option maxHeartbeats 40000000 in
theorem rm5_g (l : Launch) (Z : State) (a0 : Array Value) (hw : ∀ d ∈ tables_1, d.before a0 Z = true) (ws : List Jvm.Cond) (a : Addr) (A : Nat → Addr) (N : Nat) (f : Nat → Int32) (r k : Int32) (R C : Nat) (q : Int64) (h0 : Heap) (n0 : Nat) (Z0 : n0 ≤ h0.size) (B0 : own_B Z a A N f r k own_z own_z own_z own_z own_z own_z h0) (hA : own_ne a A) (hn0 : n0 ≤ a ∧ ∀ i, i < 7 → n0 ≤ A i) (hR : r.toInt = (R : Int)) (hC : k.toInt = (C : Int)) (lR : R ≤ 4) (lC : C ≤ 4) (hN : R * C ≤ N) (hrk : ¬ (r = (3 : Int32) ∧ k = (3 : Int32))) :
    MetFree l (⟨"quartess/quartet/Anchors", "count", "(J)J"⟩ : MethodName) (head1 (Jvm.Cond.code (⟨"quartess/quartet/Anchors", "count", "(J)J"⟩ : MethodName) prog_20_method_3_code 25 (some .long) :: ws) own_RC) (fun aa U => aa = #[(.ref a), (.long q)] ∧ Z.Warmed39 U.vm ∧ U.heap = h0) (fun _ _ _ _ _ => True) (fun _ U o U' => ∃ v L, o = .returned v ∧ own_Q5 (own_gen f R C q) h0 n0 v U'.heap L ∧ FrameEnd U o U' L own_RC.cells own_RC.slots) := by
  refine MetFree.of_bodySF (plainFor_of_name own_pnK) hisR ?_
  intro p e s m args below meth c s₁ Bd hml0 hP hK
  obtain ⟨rfl, hZ, hh⟩ := hP
  have hx := Bd.exec
  have hby := Bd.bytes
  have hml : c.maxLocals = 25 := hml0
  have hown : s.vm.findClass "quartess/quartet/Anchors" = some m.cls := findClass_of_methodNamed Bd.named
  have hnm := (name_of_methodNamed Bd.named Bd.method).1
  have X0 : Stand p l e own_RC s m #[(.ref a), (.long q)] below meth c s₁ [] 0 0 := Stand.of_body Bd
  have e0 : s₁.heap = h0 := by rw [← hh, Bd.state]; rfl
  have N0 := Fr.nil n0
  have pre0 : ∀ t, Steps p.tables e below (s₁.setTop (mkF m 0 #[.val (.ref a), .val (.long q), .second, .unset, .unset, .unset, .unset, .unset, .unset, .unset, .unset, .unset, .unset, .unset, .unset, .unset, .unset, .unset, .unset, .unset, .unset, .unset, .unset, .unset, .unset] [])) t → Steps p.tables e below (s₁.setTop (entryFrame m #[(.ref a), (.long q)] 25)) t := fun tt kk => castTop (own_ef5b m a q) kk
  have Lv0 : own_Lv 25 #[.val (.ref a), .val (.long q), .second, .unset, .unset, .unset, .unset, .unset, .unset, .unset, .unset, .unset, .unset, .unset, .unset, .unset, .unset, .unset, .unset, .unset, .unset, .unset, .unset, .unset, .unset] [(1, (.long q)), (0, (.ref a))] := own_Lv_s2 (own_Lv_s1 (own_Lv_nil 25) (k := 0) (v := (.ref a)) (by decide) rfl rfl) (k := 1) (v := (.long q)) (by decide) rfl rfl
  have cx : own_Cx p s m c Z a0 n0 a A N r k R C := ⟨hx, hZ, hw, hby, hml, hown, hA, hn0, hR, hC, lR, lC, hN⟩
  have S0 : own_St p l e own_RC s m #[(.ref a), (.long q)] below meth c 25 n0 s₁ #[.val (.ref a), .val (.long q), .second, .unset, .unset, .unset, .unset, .unset, .unset, .unset, .unset, .unset, .unset, .unset, .unset, .unset, .unset, .unset, .unset, .unset, .unset, .unset, .unset, .unset, .unset] [(1, (.long q)), (0, (.ref a))] (own_B Z a A N f r k own_z own_z own_z own_z own_z own_z) := ⟨_, X0, N0, Lv0, by rw [e0]; exact B0⟩
  have G0 : own_To p l e own_RC s m #[(.ref a), (.long q)] below meth c 25 n0 s₁ (mkF m 0 #[.val (.ref a), .val (.long q), .second, .unset, .unset, .unset, .unset, .unset, .unset, .unset, .unset, .unset, .unset, .unset, .unset, .unset, .unset, .unset, .unset, .unset, .unset, .unset, .unset, .unset, .unset] []) 21 [(1, (.long q)), (0, (.ref a))] (own_B Z a A N f r k own_z own_z own_z own_z own_z own_z) := by
    by_cases hr3 : r = (3 : Int32)
    · exact tS2 cx hr3 (fun w => hrk ⟨hr3, w⟩) S0
    · exact tS1 cx hr3 S0
  obtain ⟨T11, ls11, ⟨lc11, X11, N11, Lv11, Bl11⟩, st11⟩ := G0
  obtain ⟨T12, ls12, ⟨lc12, X12, N12, Lv12, Bl12⟩, st12⟩ := tS3 cx ⟨_, X11, N11, Lv11, Bl11⟩
  obtain ⟨T13, ls13, ⟨lc13, X13, N13, Lv13, Bl13⟩, st13⟩ := own_loop (pc := 58) (fun i => [(0, (.ref a)), (1, (.long q)), (3, (.long (own_sum i (own_rq f C)))), (5, (.long (own_sum i (own_rs2 f C)))), (7, (.long (0 : Int64))), (9, (.int (own_i i)))]) (fun i => own_B Z a A N f r k (own_pre (own_rs f C) i) (own_pre (own_rq f C) i) own_z (own_cs (own_cel f C) C i 0) (own_cs (own_cel2 f C) C i 0) own_z) (N := R) (fun i hi T ls S => tA3 cx hi S) R 0 (Nat.zero_add R) T12 ls12 ⟨_, X12, N12, Lv12, Bl12⟩
  obtain ⟨T14, ls14, ⟨lc14, X14, N14, Lv14, Bl14⟩, st14⟩ := tA4 cx ⟨_, X13, N13, Lv13, Bl13⟩
  obtain ⟨T15, ls15, ⟨lc15, X15, N15, Lv15, Bl15⟩, st15⟩ := own_loop (pc := 195) (fun j => [(0, (.ref a)), (1, (.long q)), (3, (.long (own_sq f R C))), (5, (.long (own_rss f R C))), (7, (.long (own_sum j (own_sqf (own_G4 f R C))))), (9, (.int (own_i j)))]) (fun j => own_B Z a A N f r k (own_G1 f R C) (own_G2 f R C) own_z (own_G4 f R C) (own_G5 f R C) own_z) (N := C) (fun j hj T ls S => tB1 cx hj S) C 0 (Nat.zero_add C) T14 ls14 ⟨_, X14, N14, Lv14, Bl14⟩
  obtain ⟨T16, ls16, ⟨lc16, X16, N16, Lv16, Bl16⟩, st16⟩ := tB2 cx ⟨_, X15, N15, Lv15, Bl15⟩
  obtain ⟨T17, ls17, ⟨lc17, X17, N17, Lv17, Bl17⟩, st17⟩ := own_loop (pc := 233) (fun i => [(0, (.ref a)), (1, (.long q)), (3, (.long (own_sq f R C))), (5, (.long (own_rss f R C))), (7, (.long (own_css f R C))), (9, (.int (own_i i)))]) (fun i => own_B Z a A N f r k (own_G1 f R C) (own_G2 f R C) (own_pre (own_rr f R C) i) (own_G4 f R C) (own_G5 f R C) own_z) (N := R) (fun i hi T ls S => tC2 cx hi S) R 0 (Nat.zero_add R) T16 ls16 ⟨_, X16, N16, Lv16, Bl16⟩
  obtain ⟨T18, ls18, ⟨lc18, X18, N18, Lv18, Bl18⟩, st18⟩ := tC3 cx ⟨_, X17, N17, Lv17, Bl17⟩
  obtain ⟨T19, ls19, ⟨lc19, X19, N19, Lv19, Bl19⟩, st19⟩ := own_loop (pc := 325) (fun j => [(0, (.ref a)), (1, (.long q)), (3, (.long (own_sq f R C))), (5, (.long (own_rss f R C))), (7, (.long (own_css f R C))), (9, (.int (own_i j)))]) (fun j => own_B Z a A N f r k (own_G1 f R C) (own_G2 f R C) (own_G3 f R C) (own_G4 f R C) (own_G5 f R C) (own_pre (own_cr f R C) j)) (N := C) (fun j hj T ls S => tD2 cx hj S) C 0 (Nat.zero_add C) T18 ls18 ⟨_, X18, N18, Lv18, Bl18⟩
  obtain ⟨T20, ls20, ⟨lc20, X20, N20, Lv20, Bl20⟩, st20⟩ := tD3 cx ⟨_, X19, N19, Lv19, Bl19⟩
  obtain ⟨T21, ls21, ⟨lc21, X21, N21, Lv21, Bl21⟩, st21⟩ := own_loop (pc := 420) (fun i => [(0, (.ref a)), (1, (.long q)), (3, (.long (own_sq f R C))), (5, (.long (own_rss f R C))), (7, (.long (own_css f R C))), (9, (.long (own_sum i (own_line f R C q)))), (11, (.int (own_i i)))]) (fun i => own_B Z a A N f r k (own_G1 f R C) (own_G2 f R C) (own_G3 f R C) (own_G4 f R C) (own_G5 f R C) (own_G6 f R C)) (N := R) (fun i hi T ls S => tE4 cx hi S) R 0 (Nat.zero_add R) T20 ls20 ⟨_, X20, N20, Lv20, Bl20⟩
  obtain ⟨T22, ls22, ⟨lc22, X22, N22, Lv22, Bl22⟩, st22⟩ := tE5 cx ⟨_, X21, N21, Lv21, Bl21⟩
  obtain ⟨fs, hr, hrun, hended, hW, hsame⟩ := X22.leave (v := some (.long (own_gen f R C q))) (fun h => by rw [Bd.returns] at h; cases h)
  refine ⟨_, _, pre0 _ ?_, hrun, hended, _, _, rfl, ?_, ⟨_, rfl⟩, hW, hsame.mono (by decide) (by decide)⟩
  · show Steps p.tables e below (s₁.setTop (mkF m 0 #[.val (.ref a), .val (.long q), .second, .unset, .unset, .unset, .unset, .unset, .unset, .unset, .unset, .unset, .unset, .unset, .unset, .unset, .unset, .unset, .unset, .unset, .unset, .unset, .unset, .unset, .unset] [])) _
    refine st11 _ ?_
    show Steps p.tables e below (T11.setTop (mkF m 21 ls11 [])) _
    refine st12 _ ?_
    show Steps p.tables e below (T12.setTop (mkF m 58 ls12 [])) _
    refine st13 _ ?_
    show Steps p.tables e below (T13.setTop (mkF m 58 ls13 [])) _
    refine st14 _ ?_
    show Steps p.tables e below (T14.setTop (mkF m 195 ls14 [])) _
    refine st15 _ ?_
    show Steps p.tables e below (T15.setTop (mkF m 195 ls15 [])) _
    refine st16 _ ?_
    show Steps p.tables e below (T16.setTop (mkF m 233 ls16 [])) _
    refine st17 _ ?_
    show Steps p.tables e below (T17.setTop (mkF m 233 ls17 [])) _
    refine st18 _ ?_
    show Steps p.tables e below (T18.setTop (mkF m 325 ls18 [])) _
    refine st19 _ ?_
    show Steps p.tables e below (T19.setTop (mkF m 325 ls19 [])) _
    refine st20 _ ?_
    show Steps p.tables e below (T20.setTop (mkF m 420 ls20 [])) _
    refine st21 _ ?_
    show Steps p.tables e below (T21.setTop (mkF m 420 ls21 [])) _
    refine st22 _ ?_
    show Steps p.tables e below (T22.setTop (mkF m 609 ls22 [])) _
    refine XS.lload X22.here hx rfl (hb hby d5_609) (own_Lv_get Lv22 0 rfl) ?_
    show Steps p.tables e below (T22.setTop (mkF m 611 ls22 [(.long (own_gen f R C q))])) _
    exact X22.lreturnOut hx Bd.returns (hb hby d5_611) hr
  · show own_Q5 (own_gen f R C q) h0 n0 _ T22.heap _
    exact ⟨rfl, N22⟩
theorem own_ef5c (m : MethodId) (x0 : Addr) (x1 : Int64) : entryFrame m #[(.ref x0), (.long x1)] 25 = mkF m 0 #[.val (.ref x0), .val (.long x1), .second, .unset, .unset, .unset, .unset, .unset, .unset, .unset, .unset, .unset, .unset, .unset, .unset, .unset, .unset, .unset, .unset, .unset, .unset, .unset, .unset, .unset, .unset] [] := by first | (simp [entryFrame, mkF, argsToLocals, Value.category]; done) | rfl
set_option maxRecDepth 65536 in
set_option maxHeartbeats 40000000 in
theorem rm5 (l : Launch) (Z : State) (a0 : Array Value) (hw : ∀ d ∈ tables_1, d.before a0 Z = true) (ws : List Jvm.Cond) (a : Addr) (A : Nat → Addr) (N : Nat) (f : Nat → Int32) (r k : Int32) (R C : Nat) (q : Int64) (h0 : Heap) (n0 : Nat) (Z0 : n0 ≤ h0.size) (B0 : own_B Z a A N f r k own_z own_z own_z own_z own_z own_z h0) (hA : own_ne a A) (hn0 : n0 ≤ a ∧ ∀ i, i < 7 → n0 ≤ A i) (hR : r.toInt = (R : Int)) (hC : k.toInt = (C : Int)) (lR : R ≤ 4) (lC : C ≤ 4) (hN : R * C ≤ N) :
    MetFree l (⟨"quartess/quartet/Anchors", "count", "(J)J"⟩ : MethodName) (head1 (Jvm.Cond.code (⟨"quartess/quartet/Anchors", "count", "(J)J"⟩ : MethodName) prog_20_method_3_code 25 (some .long) :: ws) own_RC) (fun aa U => aa = #[(.ref a), (.long q)] ∧ Z.Warmed39 U.vm ∧ U.heap = h0) (fun _ _ _ _ _ => True) (fun _ U o U' => ∃ v L, o = .returned v ∧ own_Q5 (own_count f R C q) h0 n0 v U'.heap L ∧ FrameEnd U o U' L own_RC.cells own_RC.slots) := by
  have h3 : ∀ (x : Int32) (X : Nat), x.toInt = (X : Int) → (x = (3 : Int32) ↔ X = 3) := fun x X hx => by
    constructor
    · intro w; subst w
      have e3 : (3 : Int32).toInt = 3 := by decide
      omega
    · intro w; subst w
      exact Int32.toInt_inj.mp (by rw [hx]; rfl)
  by_cases hrk : r = (3 : Int32) ∧ k = (3 : Int32)
  · have w1 := (h3 r R hR).mp hrk.1
    have w2 := (h3 k C hC).mp hrk.2
    rw [show own_count f R C q = own_three f from if_pos ⟨w1, w2⟩]
    exact rm5_33 l Z a0 hw ws a A N f r k R C q h0 n0 Z0 B0 hA hn0 hR hC lR lC hN hrk.1 hrk.2 (by subst w1 w2; exact hN)
  · rw [show own_count f R C q = own_gen f R C q from if_neg (fun w => hrk ⟨(h3 r R hR).mpr w.1, (h3 k C hC).mpr w.2⟩)]
    exact rm5_g l Z a0 hw ws a A N f r k R C q h0 n0 Z0 B0 hA hn0 hR hC lR lC hN hrk
def own_zi : Nat → Int32 := fun _ => (0 : Int32)
theorem own_B_pr {Z : State} {a : Addr} {A : Nat → Addr} {N : Nat} {f : Nat → Int32} {r k : Int32} {g1 g2 g3 g4 g5 g6 : Nat → Int64} {h : Heap} {a0 : Array Value} (hw : ∀ d ∈ tables_1, d.before a0 Z = true) {h' : Heap} {x : Int32} (hA : own_ne a A) (B : own_B Z a A N f r k g1 g2 g3 g4 g5 g6 h) (W : Wr h h' a (Jvm.RoadKit.slotOf Z "quartess/quartet/Anchors" "rows" "I") (.int x)) : own_B Z a A N f x k g1 g2 g3 g4 g5 g6 h' :=
  ⟨(own_B_E B).wr W, (own_B_cells B).other W (Or.inr (slot_ne (Or.inl (hw _ (List.mem_of_getElem? (i := 12) rfl))) (Or.inl (hw _ (List.mem_of_getElem? (i := 32) rfl))) (by decide) (t := (.array .int)) (t' := .int) (by decide) (by decide))), (own_B_rowSums B).other W (Or.inr (slot_ne (Or.inr (hw _ (List.mem_of_getElem? (i := 15) rfl))) (Or.inl (hw _ (List.mem_of_getElem? (i := 32) rfl))) (by decide) (t := (.array .long)) (t' := .int) (by decide) (by decide))), (own_B_rowSquares B).other W (Or.inr (slot_ne (Or.inr (hw _ (List.mem_of_getElem? (i := 17) rfl))) (Or.inl (hw _ (List.mem_of_getElem? (i := 32) rfl))) (by decide) (t := (.array .long)) (t' := .int) (by decide) (by decide))), (own_B_rowRest B).other W (Or.inr (slot_ne (Or.inr (hw _ (List.mem_of_getElem? (i := 19) rfl))) (Or.inl (hw _ (List.mem_of_getElem? (i := 32) rfl))) (by decide) (t := (.array .long)) (t' := .int) (by decide) (by decide))), (own_B_columnSums B).other W (Or.inr (slot_ne (Or.inr (hw _ (List.mem_of_getElem? (i := 21) rfl))) (Or.inl (hw _ (List.mem_of_getElem? (i := 32) rfl))) (by decide) (t := (.array .long)) (t' := .int) (by decide) (by decide))), (own_B_columnSquares B).other W (Or.inr (slot_ne (Or.inr (hw _ (List.mem_of_getElem? (i := 23) rfl))) (Or.inl (hw _ (List.mem_of_getElem? (i := 32) rfl))) (by decide) (t := (.array .long)) (t' := .int) (by decide) (by decide))), (own_B_columnRest B).other W (Or.inr (slot_ne (Or.inr (hw _ (List.mem_of_getElem? (i := 25) rfl))) (Or.inl (hw _ (List.mem_of_getElem? (i := 32) rfl))) (by decide) (t := (.array .long)) (t' := .int) (by decide) (by decide))), (own_B_rows B).same W, (own_B_columns B).other W (Or.inr (slot_ne (Or.inl (hw _ (List.mem_of_getElem? (i := 34) rfl))) (Or.inl (hw _ (List.mem_of_getElem? (i := 32) rfl))) (by decide) (t := .int) (t' := .int) (by decide) (by decide))), own_AI_other (own_B_v0 B) W (Ne.symm (hA.1 0 (by decide))), own_AJ_other (own_B_v1 B) W (Ne.symm (hA.1 1 (by decide))), own_AJ_other (own_B_v2 B) W (Ne.symm (hA.1 2 (by decide))), own_AJ_other (own_B_v3 B) W (Ne.symm (hA.1 3 (by decide))), own_AJ_other (own_B_v4 B) W (Ne.symm (hA.1 4 (by decide))), own_AJ_other (own_B_v5 B) W (Ne.symm (hA.1 5 (by decide))), own_AJ_other (own_B_v6 B) W (Ne.symm (hA.1 6 (by decide)))⟩
theorem own_B_pc {Z : State} {a : Addr} {A : Nat → Addr} {N : Nat} {f : Nat → Int32} {r k : Int32} {g1 g2 g3 g4 g5 g6 : Nat → Int64} {h : Heap} {a0 : Array Value} (hw : ∀ d ∈ tables_1, d.before a0 Z = true) {h' : Heap} {x : Int32} (hA : own_ne a A) (B : own_B Z a A N f r k g1 g2 g3 g4 g5 g6 h) (W : Wr h h' a (Jvm.RoadKit.slotOf Z "quartess/quartet/Anchors" "columns" "I") (.int x)) : own_B Z a A N f r x g1 g2 g3 g4 g5 g6 h' :=
  ⟨(own_B_E B).wr W, (own_B_cells B).other W (Or.inr (slot_ne (Or.inl (hw _ (List.mem_of_getElem? (i := 12) rfl))) (Or.inl (hw _ (List.mem_of_getElem? (i := 34) rfl))) (by decide) (t := (.array .int)) (t' := .int) (by decide) (by decide))), (own_B_rowSums B).other W (Or.inr (slot_ne (Or.inr (hw _ (List.mem_of_getElem? (i := 15) rfl))) (Or.inl (hw _ (List.mem_of_getElem? (i := 34) rfl))) (by decide) (t := (.array .long)) (t' := .int) (by decide) (by decide))), (own_B_rowSquares B).other W (Or.inr (slot_ne (Or.inr (hw _ (List.mem_of_getElem? (i := 17) rfl))) (Or.inl (hw _ (List.mem_of_getElem? (i := 34) rfl))) (by decide) (t := (.array .long)) (t' := .int) (by decide) (by decide))), (own_B_rowRest B).other W (Or.inr (slot_ne (Or.inr (hw _ (List.mem_of_getElem? (i := 19) rfl))) (Or.inl (hw _ (List.mem_of_getElem? (i := 34) rfl))) (by decide) (t := (.array .long)) (t' := .int) (by decide) (by decide))), (own_B_columnSums B).other W (Or.inr (slot_ne (Or.inr (hw _ (List.mem_of_getElem? (i := 21) rfl))) (Or.inl (hw _ (List.mem_of_getElem? (i := 34) rfl))) (by decide) (t := (.array .long)) (t' := .int) (by decide) (by decide))), (own_B_columnSquares B).other W (Or.inr (slot_ne (Or.inr (hw _ (List.mem_of_getElem? (i := 23) rfl))) (Or.inl (hw _ (List.mem_of_getElem? (i := 34) rfl))) (by decide) (t := (.array .long)) (t' := .int) (by decide) (by decide))), (own_B_columnRest B).other W (Or.inr (slot_ne (Or.inr (hw _ (List.mem_of_getElem? (i := 25) rfl))) (Or.inl (hw _ (List.mem_of_getElem? (i := 34) rfl))) (by decide) (t := (.array .long)) (t' := .int) (by decide) (by decide))), (own_B_rows B).other W (Or.inr (slot_ne (Or.inl (hw _ (List.mem_of_getElem? (i := 32) rfl))) (Or.inl (hw _ (List.mem_of_getElem? (i := 34) rfl))) (by decide) (t := .int) (t' := .int) (by decide) (by decide))), (own_B_columns B).same W, own_AI_other (own_B_v0 B) W (Ne.symm (hA.1 0 (by decide))), own_AJ_other (own_B_v1 B) W (Ne.symm (hA.1 1 (by decide))), own_AJ_other (own_B_v2 B) W (Ne.symm (hA.1 2 (by decide))), own_AJ_other (own_B_v3 B) W (Ne.symm (hA.1 3 (by decide))), own_AJ_other (own_B_v4 B) W (Ne.symm (hA.1 4 (by decide))), own_AJ_other (own_B_v5 B) W (Ne.symm (hA.1 5 (by decide))), own_AJ_other (own_B_v6 B) W (Ne.symm (hA.1 6 (by decide)))⟩
theorem own_B_ext {Z : State} {a : Addr} {A : Nat → Addr} {N : Nat} {f : Nat → Int32} {r k : Int32} {g1 g2 g3 g4 g5 g6 : Nat → Int64} {h : Heap} {h' : Heap} (B : own_B Z a A N f r k g1 g2 g3 g4 g5 g6 h) (E : Ext h h') : own_B Z a A N f r k g1 g2 g3 g4 g5 g6 h' :=
  ⟨(own_B_E B).ext E, (own_B_cells B).ext E, (own_B_rowSums B).ext E, (own_B_rowSquares B).ext E, (own_B_rowRest B).ext E, (own_B_columnSums B).ext E, (own_B_columnSquares B).ext E, (own_B_columnRest B).ext E, (own_B_rows B).ext E, (own_B_columns B).ext E, own_AI_ext (own_B_v0 B) E, own_AJ_ext (own_B_v1 B) E, own_AJ_ext (own_B_v2 B) E, own_AJ_ext (own_B_v3 B) E, own_AJ_ext (own_B_v4 B) E, own_AJ_ext (own_B_v5 B) E, own_AJ_ext (own_B_v6 B) E⟩
theorem own_B_pu {Z : State} {a : Addr} {A : Nat → Addr} {N : Nat} {f : Nat → Int32} {r k : Int32} {g1 g2 g3 g4 g5 g6 : Nat → Int64} {h : Heap} {a0 : Array Value} (hw : ∀ d ∈ tables_1, d.before a0 Z = true) {h' : Heap} {b : Addr} {M : Nat} {u : Nat → Int32} (hA : own_ne a A) (hb : a ≠ b) (B : own_B Z a A N f r k g1 g2 g3 g4 g5 g6 h) (V : own_AI Z h b M u) (W : Wr h h' a (Jvm.RoadKit.slotOf Z "quartess/quartet/Anchors" "cells" "[I") (.ref b)) : own_B Z a (own_up A 0 b) M u r k g1 g2 g3 g4 g5 g6 h' :=
  ⟨(own_B_E B).wr W, (own_B_cells B).same W, (own_B_rowSums B).other W (Or.inr (slot_ne (Or.inr (hw _ (List.mem_of_getElem? (i := 15) rfl))) (Or.inl (hw _ (List.mem_of_getElem? (i := 12) rfl))) (by decide) (t := (.array .long)) (t' := (.array .int)) (by decide) (by decide))), (own_B_rowSquares B).other W (Or.inr (slot_ne (Or.inr (hw _ (List.mem_of_getElem? (i := 17) rfl))) (Or.inl (hw _ (List.mem_of_getElem? (i := 12) rfl))) (by decide) (t := (.array .long)) (t' := (.array .int)) (by decide) (by decide))), (own_B_rowRest B).other W (Or.inr (slot_ne (Or.inr (hw _ (List.mem_of_getElem? (i := 19) rfl))) (Or.inl (hw _ (List.mem_of_getElem? (i := 12) rfl))) (by decide) (t := (.array .long)) (t' := (.array .int)) (by decide) (by decide))), (own_B_columnSums B).other W (Or.inr (slot_ne (Or.inr (hw _ (List.mem_of_getElem? (i := 21) rfl))) (Or.inl (hw _ (List.mem_of_getElem? (i := 12) rfl))) (by decide) (t := (.array .long)) (t' := (.array .int)) (by decide) (by decide))), (own_B_columnSquares B).other W (Or.inr (slot_ne (Or.inr (hw _ (List.mem_of_getElem? (i := 23) rfl))) (Or.inl (hw _ (List.mem_of_getElem? (i := 12) rfl))) (by decide) (t := (.array .long)) (t' := (.array .int)) (by decide) (by decide))), (own_B_columnRest B).other W (Or.inr (slot_ne (Or.inr (hw _ (List.mem_of_getElem? (i := 25) rfl))) (Or.inl (hw _ (List.mem_of_getElem? (i := 12) rfl))) (by decide) (t := (.array .long)) (t' := (.array .int)) (by decide) (by decide))), (own_B_rows B).other W (Or.inr (slot_ne (Or.inl (hw _ (List.mem_of_getElem? (i := 32) rfl))) (Or.inl (hw _ (List.mem_of_getElem? (i := 12) rfl))) (by decide) (t := .int) (t' := (.array .int)) (by decide) (by decide))), (own_B_columns B).other W (Or.inr (slot_ne (Or.inl (hw _ (List.mem_of_getElem? (i := 34) rfl))) (Or.inl (hw _ (List.mem_of_getElem? (i := 12) rfl))) (by decide) (t := .int) (t' := (.array .int)) (by decide) (by decide))), own_AI_other V W (Ne.symm hb), (show own_AJ Z h' (A 1) 4 g1 from own_AJ_other (own_B_v1 B) W (Ne.symm (hA.1 1 (by decide)))), (show own_AJ Z h' (A 2) 4 g2 from own_AJ_other (own_B_v2 B) W (Ne.symm (hA.1 2 (by decide)))), (show own_AJ Z h' (A 3) 4 g3 from own_AJ_other (own_B_v3 B) W (Ne.symm (hA.1 3 (by decide)))), (show own_AJ Z h' (A 4) 4 g4 from own_AJ_other (own_B_v4 B) W (Ne.symm (hA.1 4 (by decide)))), (show own_AJ Z h' (A 5) 4 g5 from own_AJ_other (own_B_v5 B) W (Ne.symm (hA.1 5 (by decide)))), (show own_AJ Z h' (A 6) 4 g6 from own_AJ_other (own_B_v6 B) W (Ne.symm (hA.1 6 (by decide))))⟩
theorem own_B_lt {Z : State} {a : Addr} {A : Nat → Addr} {N : Nat} {f : Nat → Int32} {r k : Int32} {g1 g2 g3 g4 g5 g6 : Nat → Int64} {h : Heap} (B : own_B Z a A N f r k g1 g2 g3 g4 g5 g6 h) : ∀ i, i < 7 → A i < h.size := by
  intro i hi
  have q : i = 0 ∨ i = 1 ∨ i = 2 ∨ i = 3 ∨ i = 4 ∨ i = 5 ∨ i = 6 := by omega
  rcases q with rfl | rfl | rfl | rfl | rfl | rfl | rfl
  · exact own_AI_lt (own_B_v0 B)
  · exact own_AJ_lt (own_B_v1 B)
  · exact own_AJ_lt (own_B_v2 B)
  · exact own_AJ_lt (own_B_v3 B)
  · exact own_AJ_lt (own_B_v4 B)
  · exact own_AJ_lt (own_B_v5 B)
  · exact own_AJ_lt (own_B_v6 B)
theorem own_ne_up {a b : Addr} {A : Nat → Addr} (hA : own_ne a A) (h1 : a < b) (h2 : ∀ i, i < 7 → A i < b) : own_ne a (own_up A 0 b) := by
  refine ⟨fun i hi => ?_, fun i j hi hj hne => ?_⟩
  · unfold own_up
    by_cases q : i = 0
    · rw [if_pos q]; exact Nat.ne_of_lt h1
    · rw [if_neg q]; exact hA.1 i hi
  · unfold own_up
    by_cases q : i = 0
    · by_cases w : j = 0
      · exact absurd (q.trans w.symm) hne
      · rw [if_pos q, if_neg w]; exact Nat.ne_of_gt (h2 j hj)
    · by_cases w : j = 0
      · rw [if_neg q, if_pos w]; exact Nat.ne_of_lt (h2 i hi)
      · rw [if_neg q, if_neg w]; exact hA.2 i j hi hj hne
theorem own_i64 (x : Int32) : x.toInt64.toInt = x.toInt := Int32.toInt_toInt64 x
theorem own_mul64 {x y : Int32} {X Y : Nat} (hx : x.toInt = (X : Int)) (hy : y.toInt = (Y : Int)) (lX : X ≤ 4) (lY : Y ≤ 4) : ((x.toInt64) * (y.toInt64)).toInt = ((X * Y : Nat) : Int) := by
  have hb : X * Y ≤ 4 * 4 := Nat.mul_le_mul lX lY
  have h3 : ((x.toInt64) * (y.toInt64)).toInt = (x.toInt64.toInt * y.toInt64.toInt).bmod (2 ^ 64) := Int64.toInt_mul _ _
  rw [own_i64, own_i64, hx, hy, ← Int.natCast_mul, Int.bmod_eq_of_le (by omega) (by omega)] at h3
  exact h3
theorem own_mul32 {x y : Int32} {X Y : Nat} (hx : x.toInt = (X : Int)) (hy : y.toInt = (Y : Int)) (lX : X ≤ 4) (lY : Y ≤ 4) : (x * y).toInt = ((X * Y : Nat) : Int) := by
  have hb : X * Y ≤ 4 * 4 := Nat.mul_le_mul lX lY
  have h3 : (x * y).toInt = (x.toInt * y.toInt).bmod (2 ^ 32) := Int32.toInt_mul _ _
  rw [hx, hy, ← Int.natCast_mul, Int.bmod_eq_of_le (by omega) (by omega)] at h3
  exact h3
theorem own_prod {x y : Int32} {X Y : Nat} (hx : x.toInt = (X : Int)) (hy : y.toInt = (Y : Int)) (lX : X ≤ 4) (lY : Y ≤ 4) : (((x.toInt64) * (y.toInt64)).toInt32).toInt = ((X * Y : Nat) : Int) := by
  have hb : X * Y ≤ 4 * 4 := Nat.mul_le_mul lX lY
  have h1 := own_mul64 hx hy lX lY
  have h2 : (((x.toInt64) * (y.toInt64)).toInt32).toInt = (((x.toInt64) * (y.toInt64)).toInt).bmod (2 ^ 32) := Int64.toInt_toInt32 _
  rw [h2, h1, Int.bmod_eq_of_le (by omega) (by omega)]
theorem own_cmp {x y : Int32} {X Y N : Nat} (hx : x.toInt = (X : Int)) (hy : y.toInt = (Y : Int)) (lX : X ≤ 4) (lY : Y ≤ 4) (lN : N ≤ 16) : (lcmpW ((own_i N).toInt64) ((x.toInt64) * (y.toInt64))) < (0 : Int32) ↔ N < X * Y := by
  rw [lw_lt, Int64.lt_iff_toInt_lt, own_i64, own_mul64 hx hy lX lY, own_i_toInt (by omega)]
  omega
theorem own_exact {x y : Int32} {X Y : Nat} (hx : x.toInt = (X : Int)) (hy : y.toInt = (Y : Int)) (lX : X ≤ 4) (lY : Y ≤ 4) : (lcmpW ((((x.toInt64) * (y.toInt64)).toInt32).toInt64) ((x.toInt64) * (y.toInt64))) = (0 : Int32) := by
  rw [lw_eq]
  exact Int64.toInt_inj.mp (by rw [own_i64, own_prod hx hy lX lY, own_mul64 hx hy lX lY])
theorem d3_0 : decode prog_20_method_2_code 0 = .ok (.aload_n 0, 1) := by decide +kernel
theorem d3_1 : decode prog_20_method_2_code 1 = .ok (.iload_n 1, 1) := by decide +kernel
theorem d3_2 : decode prog_20_method_2_code 2 = .ok (.putfield 32, 3) := by decide +kernel
theorem d3_5 : decode prog_20_method_2_code 5 = .ok (.aload_n 0, 1) := by decide +kernel
theorem d3_6 : decode prog_20_method_2_code 6 = .ok (.iload_n 2, 1) := by decide +kernel
theorem d3_7 : decode prog_20_method_2_code 7 = .ok (.putfield 36, 3) := by decide +kernel
theorem d3_10 : decode prog_20_method_2_code 10 = .ok (.aload_n 0, 1) := by decide +kernel
theorem d3_11 : decode prog_20_method_2_code 11 = .ok (.getfield 7, 3) := by decide +kernel
theorem d3_14 : decode prog_20_method_2_code 14 = .ok (.arraylength, 1) := by decide +kernel
theorem d3_15 : decode prog_20_method_2_code 15 = .ok (.i2l, 1) := by decide +kernel
theorem d3_16 : decode prog_20_method_2_code 16 = .ok (.iload_n 1, 1) := by decide +kernel
theorem d3_17 : decode prog_20_method_2_code 17 = .ok (.i2l, 1) := by decide +kernel
theorem d3_18 : decode prog_20_method_2_code 18 = .ok (.iload_n 2, 1) := by decide +kernel
theorem d3_19 : decode prog_20_method_2_code 19 = .ok (.i2l, 1) := by decide +kernel
theorem d3_20 : decode prog_20_method_2_code 20 = .ok (.lmul, 1) := by decide +kernel
theorem d3_21 : decode prog_20_method_2_code 21 = .ok (.lcmp, 1) := by decide +kernel
theorem d3_22 : decode prog_20_method_2_code 22 = .ok (.ifCond .ge 14, 3) := by decide +kernel
theorem d3_25 : decode prog_20_method_2_code 25 = .ok (.aload_n 0, 1) := by decide +kernel
theorem d3_26 : decode prog_20_method_2_code 26 = .ok (.iload_n 1, 1) := by decide +kernel
theorem d3_27 : decode prog_20_method_2_code 27 = .ok (.iload_n 2, 1) := by decide +kernel
theorem d3_28 : decode prog_20_method_2_code 28 = .ok (.invokestatic 39, 3) := by decide +kernel
theorem d3_31 : decode prog_20_method_2_code 31 = .ok (.newarray .int, 2) := by decide +kernel
theorem d3_33 : decode prog_20_method_2_code 33 = .ok (.putfield 7, 3) := by decide +kernel
theorem d3_36 : decode prog_20_method_2_code 36 = .ok (.aload_n 0, 1) := by decide +kernel
theorem d3_37 : decode prog_20_method_2_code 37 = .ok (.getfield 7, 3) := by decide +kernel
theorem d3_40 : decode prog_20_method_2_code 40 = .ok (.areturn, 1) := by decide +kernel
def own_Q3 (Z : State) (a : Addr) (A : Nat → Addr) (N : Nat) (r k : Int32) (R C : Nat) (h0 : Heap) (n0 : Nat) (v : Option Value) (h : Heap) (L : List Loc) : Prop :=
  ∃ (A' : Nat → Addr) (N' : Nat), v = some (.ref (A' 0)) ∧ Fr n0 L ∧ own_ne a A' ∧ (n0 ≤ a ∧ ∀ i, i < 7 → n0 ≤ A' i) ∧ own_B Z a A' N' own_zi r k own_z own_z own_z own_z own_z own_z h ∧ R * C ≤ N' ∧ N' ≤ 16 ∧ (R * C ≤ N → A' 0 = A 0)
theorem own_ef3t (m : MethodId) (x0 : Addr) (x1 : Int32) (x2 : Int32) : entryFrame m #[(.ref x0), (.int x1), (.int x2)] 3 = mkF m 0 #[.val (.ref x0), .val (.int x1), .val (.int x2)] [] := by first | (simp [entryFrame, mkF, argsToLocals, Value.category]; done) | rfl
set_option maxRecDepth 65536 in
set_option maxHeartbeats 40000000 in
theorem rm3_t (l : Launch) (Z : State) (a0 : Array Value) (hw : ∀ d ∈ tables_1, d.before a0 Z = true) (ws : List Jvm.Cond) (a : Addr) (A : Nat → Addr) (N : Nat) (r0 k0 p2 p3 : Int32) (R C : Nat) (h0 : Heap) (n0 : Nat) (Z0 : n0 ≤ h0.size) (B0 : own_B Z a A N own_zi r0 k0 own_z own_z own_z own_z own_z own_z h0) (hA : own_ne a A) (hn0 : n0 ≤ a ∧ ∀ i, i < 7 → n0 ≤ A i) (hR : p2.toInt = (R : Int)) (hC : p3.toInt = (C : Int)) (lR : R ≤ 4) (lC : C ≤ 4) (lN : N ≤ 16) (hle : R * C ≤ N) :
    MetFree l (⟨"quartess/quartet/Anchors", "cells", "(II)[I"⟩ : MethodName) (head1 (Jvm.Cond.code (⟨"quartess/quartet/Anchors", "cells", "(II)[I"⟩ : MethodName) prog_20_method_2_code 3 (some (.array .int)) :: ws) ({ frames := 1, cells := 1, slots := 16, locals := 20 } : Room)) (fun aa U => aa = #[(.ref a), (.int p2), (.int p3)] ∧ Z.Warmed39 U.vm ∧ U.heap = h0) (fun _ _ _ _ _ => True) (fun _ U o U' => ∃ v L, o = .returned v ∧ own_Q3 Z a A N p2 p3 R C h0 n0 v U'.heap L ∧ FrameEnd U o U' L ({ frames := 1, cells := 1, slots := 16, locals := 20 } : Room).cells ({ frames := 1, cells := 1, slots := 16, locals := 20 } : Room).slots) := by
  refine MetFree.of_bodySF (plainFor_of_name own_pnK) hisR ?_
  intro p e s m args below meth c s₁ Bd hml0 hP hK
  obtain ⟨rfl, hZ, hh⟩ := hP
  have hx := Bd.exec
  have hby := Bd.bytes
  have hml : c.maxLocals = 3 := hml0
  have hown : s.vm.findClass "quartess/quartet/Anchors" = some m.cls := findClass_of_methodNamed Bd.named
  have hnm := (name_of_methodNamed Bd.named Bd.method).1
  have X0 : Stand p l e ({ frames := 1, cells := 1, slots := 16, locals := 20 } : Room) s m #[(.ref a), (.int p2), (.int p3)] below meth c s₁ [] 0 0 := Stand.of_body Bd
  have e0 : s₁.heap = h0 := by rw [← hh, Bd.state]; rfl
  have N0 := Fr.nil n0
  have pre0 : ∀ t, Steps p.tables e below (s₁.setTop (mkF m 0 #[.val (.ref a), .val (.int p2), .val (.int p3)] [])) t → Steps p.tables e below (s₁.setTop (entryFrame m #[(.ref a), (.int p2), (.int p3)] 3)) t := fun tt kk => castTop (own_ef3t m a p2 p3) kk
  obtain ⟨T11, h11, X11, e11, W11, st11⟩ := putF X0 hx hZ hown (host := "") (Or.inl (hw _ (List.mem_of_getElem? (i := 31) rfl))) Via.refl e0 (own_B_rows B0) (own_B_E B0) (Or.inl (hw _ (List.mem_of_getElem? (i := 32) rfl))) (hw _ (List.mem_of_getElem? (i := 2) rfl)) (ty := .int) (by decide) rfl rfl (g := (mkF m 2 #[.val (.ref a), .val (.int p2), .val (.int p3)] [(.int p2), (.ref a)])) rfl rfl (hb hby d3_2)
  have N11 := Fr.snoc X11 N0 (hn0.1)
  have B1 := own_B_pr hw hA B0 W11
  obtain ⟨T12, h12, X12, e12, W12, st12⟩ := putF X11 hx hZ hown (host := "") (Or.inl (hw _ (List.mem_of_getElem? (i := 33) rfl))) Via.refl e11 (own_B_columns B1) (own_B_E B1) (Or.inl (hw _ (List.mem_of_getElem? (i := 34) rfl))) (hw _ (List.mem_of_getElem? (i := 2) rfl)) (ty := .int) (by decide) rfl rfl (g := (mkF m 7 #[.val (.ref a), .val (.int p2), .val (.int p3)] [(.int p3), (.ref a)])) rfl rfl (hb hby d3_7)
  have N12 := Fr.snoc X12 N11 (hn0.1)
  have B2 := own_B_pc hw hA B1 W12
  obtain ⟨T13, X13, e13, st13⟩ := getF X12 hx hZ hown (host := "") (Or.inl (hw _ (List.mem_of_getElem? (i := 11) rfl))) Via.refl e12 ((own_B_cells B2)) (g := (mkF m 11 #[.val (.ref a), .val (.int p2), .val (.int p3)] [(.ref a)])) rfl rfl (hb hby d3_11)
  obtain ⟨T14, X14, e14, st14⟩ := getF X13 hx hZ hown (host := "") (Or.inl (hw _ (List.mem_of_getElem? (i := 11) rfl))) Via.refl e13 ((own_B_cells B2)) (g := (mkF m 37 #[.val (.ref a), .val (.int p2), .val (.int p3)] [(.ref a)])) rfl rfl (hb hby d3_37)
  obtain ⟨fs, hr, hrun, hended, hW, hsame⟩ := X14.leave (v := some (.ref (A 0))) (fun h => by rw [Bd.returns] at h; cases h)
  refine ⟨_, _, pre0 _ ?_, hrun, hended, _, _, rfl, ?_, ⟨_, rfl⟩, hW, hsame.mono (by decide) (by decide)⟩
  · show Steps p.tables e below (s₁.setTop (mkF m 0 #[.val (.ref a), .val (.int p2), .val (.int p3)] [])) _
    refine XS.aloadN X0.here hx rfl (hb hby d3_0) rfl rfl ?_
    show Steps p.tables e below (s₁.setTop (mkF m 1 #[.val (.ref a), .val (.int p2), .val (.int p3)] [(.ref a)])) _
    refine XS.iloadN X0.here hx rfl (hb hby d3_1) rfl ?_
    show Steps p.tables e below (s₁.setTop (mkF m 2 #[.val (.ref a), .val (.int p2), .val (.int p3)] [(.int p2), (.ref a)])) _
    refine st11 _ ?_
    show Steps p.tables e below (T11.setTop (mkF m 5 #[.val (.ref a), .val (.int p2), .val (.int p3)] [])) _
    refine XS.aloadN X11.here hx rfl (hb hby d3_5) rfl rfl ?_
    show Steps p.tables e below (T11.setTop (mkF m 6 #[.val (.ref a), .val (.int p2), .val (.int p3)] [(.ref a)])) _
    refine XS.iloadN X11.here hx rfl (hb hby d3_6) rfl ?_
    show Steps p.tables e below (T11.setTop (mkF m 7 #[.val (.ref a), .val (.int p2), .val (.int p3)] [(.int p3), (.ref a)])) _
    refine st12 _ ?_
    show Steps p.tables e below (T12.setTop (mkF m 10 #[.val (.ref a), .val (.int p2), .val (.int p3)] [])) _
    refine XS.aloadN X12.here hx rfl (hb hby d3_10) rfl rfl ?_
    show Steps p.tables e below (T12.setTop (mkF m 11 #[.val (.ref a), .val (.int p2), .val (.int p3)] [(.ref a)])) _
    refine st13 _ ?_
    show Steps p.tables e below (T13.setTop (mkF m 14 #[.val (.ref a), .val (.int p2), .val (.int p3)] [(.ref (A 0))])) _
    refine own_lenI X13 hx hZ e13 (own_B_v0 B2) (g := (mkF m 14 #[.val (.ref a), .val (.int p2), .val (.int p3)] [(.ref (A 0))])) rfl rfl (hb hby d3_14) _ ?_
    show Steps p.tables e below (T13.setTop (mkF m 15 #[.val (.ref a), .val (.int p2), .val (.int p3)] [(.int (own_i N))])) _
    refine XS.i2l X13.here hx rfl (hb hby d3_15) rfl ?_
    show Steps p.tables e below (T13.setTop (mkF m 16 #[.val (.ref a), .val (.int p2), .val (.int p3)] [(.long ((own_i N).toInt64))])) _
    refine XS.iloadN X13.here hx rfl (hb hby d3_16) rfl ?_
    show Steps p.tables e below (T13.setTop (mkF m 17 #[.val (.ref a), .val (.int p2), .val (.int p3)] [(.int p2), (.long ((own_i N).toInt64))])) _
    refine XS.i2l X13.here hx rfl (hb hby d3_17) rfl ?_
    show Steps p.tables e below (T13.setTop (mkF m 18 #[.val (.ref a), .val (.int p2), .val (.int p3)] [(.long (p2.toInt64)), (.long ((own_i N).toInt64))])) _
    refine XS.iloadN X13.here hx rfl (hb hby d3_18) rfl ?_
    show Steps p.tables e below (T13.setTop (mkF m 19 #[.val (.ref a), .val (.int p2), .val (.int p3)] [(.int p3), (.long (p2.toInt64)), (.long ((own_i N).toInt64))])) _
    refine XS.i2l X13.here hx rfl (hb hby d3_19) rfl ?_
    show Steps p.tables e below (T13.setTop (mkF m 20 #[.val (.ref a), .val (.int p2), .val (.int p3)] [(.long (p3.toInt64)), (.long (p2.toInt64)), (.long ((own_i N).toInt64))])) _
    refine XS.lmul X13.here hx rfl (hb hby d3_20) rfl ?_
    show Steps p.tables e below (T13.setTop (mkF m 21 #[.val (.ref a), .val (.int p2), .val (.int p3)] [(.long ((p2.toInt64) * (p3.toInt64))), (.long ((own_i N).toInt64))])) _
    refine XS.lcmp X13.here hx rfl (hb hby d3_21) rfl ?_
    show Steps p.tables e below (T13.setTop (mkF m 22 #[.val (.ref a), .val (.int p2), .val (.int p3)] [(.int (lcmpW ((own_i N).toInt64) ((p2.toInt64) * (p3.toInt64))))])) _
    refine XS.ifYes X13.here hx rfl (pc0 := 22) (pc' := 36) rfl (hb hby d3_22) rfl ((if0 _ _).trans (flt (fun w => absurd ((own_cmp hR hC lR lC lN).mp w) (by omega) : ¬ ((lcmpW ((own_i N).toInt64) ((p2.toInt64) * (p3.toInt64))) < (0 : Int32)))).2.1) (by decide) (by decide) ?_
    show Steps p.tables e below (T13.setTop (mkF m 36 #[.val (.ref a), .val (.int p2), .val (.int p3)] [])) _
    refine XS.aloadN X13.here hx rfl (hb hby d3_36) rfl rfl ?_
    show Steps p.tables e below (T13.setTop (mkF m 37 #[.val (.ref a), .val (.int p2), .val (.int p3)] [(.ref a)])) _
    refine st14 _ ?_
    show Steps p.tables e below (T14.setTop (mkF m 40 #[.val (.ref a), .val (.int p2), .val (.int p3)] [(.ref (A 0))])) _
    jvm_step X14.here [X14.here.top, hx, (hb hby d3_40), X14.method', Bd.returns, Value.isRef, FieldType.isReference]
    first | (intro acts; rw [hr _ acts rfl rfl rfl]) | rw [hr _ _ rfl rfl rfl]
    exact Steps.refl _
  · show own_Q3 Z a A N p2 p3 R C h0 n0 _ T14.heap _
    rw [e14]
    exact ⟨A, N, rfl, N12, hA, hn0, B2, hle, lN, fun _ => rfl⟩
theorem own_pd_LIIRI : parseMethodDescriptor "(II)I" = some ⟨[.int, .int], some .int⟩ := by decide +kernel
theorem own_ef3f (m : MethodId) (x0 : Addr) (x1 : Int32) (x2 : Int32) : entryFrame m #[(.ref x0), (.int x1), (.int x2)] 3 = mkF m 0 #[.val (.ref x0), .val (.int x1), .val (.int x2)] [] := by first | (simp [entryFrame, mkF, argsToLocals, Value.category]; done) | rfl
set_option maxRecDepth 65536 in
set_option maxHeartbeats 40000000 in
theorem rm3_f (l : Launch) (Z : State) (a0 : Array Value) (hw : ∀ d ∈ tables_1, d.before a0 Z = true) (ws : List Jvm.Cond) (a : Addr) (A : Nat → Addr) (N : Nat) (r0 k0 p2 p3 : Int32) (R C : Nat) (h0 : Heap) (n0 : Nat) (Z0 : n0 ≤ h0.size) (B0 : own_B Z a A N own_zi r0 k0 own_z own_z own_z own_z own_z own_z h0) (hA : own_ne a A) (hn0 : n0 ≤ a ∧ ∀ i, i < 7 → n0 ≤ A i) (hR : p2.toInt = (R : Int)) (hC : p3.toInt = (C : Int)) (lR : R ≤ 4) (lC : C ≤ 4) (lN : N ≤ 16) (hlt : N < R * C) :
    MetFree l (⟨"quartess/quartet/Anchors", "cells", "(II)[I"⟩ : MethodName) (head1 (Jvm.Cond.code (⟨"quartess/quartet/Anchors", "cells", "(II)[I"⟩ : MethodName) prog_20_method_2_code 3 (some (.array .int)) :: ws) ({ frames := 1, cells := 1, slots := 16, locals := 20 } : Room)) (fun aa U => aa = #[(.ref a), (.int p2), (.int p3)] ∧ Z.Warmed39 U.vm ∧ U.heap = h0) (fun _ _ _ _ _ => True) (fun _ U o U' => ∃ v L, o = .returned v ∧ own_Q3 Z a A N p2 p3 R C h0 n0 v U'.heap L ∧ FrameEnd U o U' L ({ frames := 1, cells := 1, slots := 16, locals := 20 } : Room).cells ({ frames := 1, cells := 1, slots := 16, locals := 20 } : Room).slots) := by
  refine MetFree.of_bodySF (plainFor_of_name own_pnK) hisR ?_
  intro p e s m args below meth c s₁ Bd hml0 hP hK
  obtain ⟨rfl, hZ, hh⟩ := hP
  have hx := Bd.exec
  have hby := Bd.bytes
  have hml : c.maxLocals = 3 := hml0
  have hown : s.vm.findClass "quartess/quartet/Anchors" = some m.cls := findClass_of_methodNamed Bd.named
  have hnm := (name_of_methodNamed Bd.named Bd.method).1
  have X0 : Stand p l e ({ frames := 1, cells := 1, slots := 16, locals := 20 } : Room) s m #[(.ref a), (.int p2), (.int p3)] below meth c s₁ [] 0 0 := Stand.of_body Bd
  have e0 : s₁.heap = h0 := by rw [← hh, Bd.state]; rfl
  have N0 := Fr.nil n0
  have pre0 : ∀ t, Steps p.tables e below (s₁.setTop (mkF m 0 #[.val (.ref a), .val (.int p2), .val (.int p3)] [])) t → Steps p.tables e below (s₁.setTop (entryFrame m #[(.ref a), (.int p2), (.int p3)] 3)) t := fun tt kk => castTop (own_ef3f m a p2 p3) kk
  obtain ⟨T11, h11, X11, e11, W11, st11⟩ := putF X0 hx hZ hown (host := "") (Or.inl (hw _ (List.mem_of_getElem? (i := 31) rfl))) Via.refl e0 (own_B_rows B0) (own_B_E B0) (Or.inl (hw _ (List.mem_of_getElem? (i := 32) rfl))) (hw _ (List.mem_of_getElem? (i := 2) rfl)) (ty := .int) (by decide) rfl rfl (g := (mkF m 2 #[.val (.ref a), .val (.int p2), .val (.int p3)] [(.int p2), (.ref a)])) rfl rfl (hb hby d3_2)
  have N11 := Fr.snoc X11 N0 (hn0.1)
  have B1 := own_B_pr hw hA B0 W11
  obtain ⟨T12, h12, X12, e12, W12, st12⟩ := putF X11 hx hZ hown (host := "") (Or.inl (hw _ (List.mem_of_getElem? (i := 33) rfl))) Via.refl e11 (own_B_columns B1) (own_B_E B1) (Or.inl (hw _ (List.mem_of_getElem? (i := 34) rfl))) (hw _ (List.mem_of_getElem? (i := 2) rfl)) (ty := .int) (by decide) rfl rfl (g := (mkF m 7 #[.val (.ref a), .val (.int p2), .val (.int p3)] [(.int p3), (.ref a)])) rfl rfl (hb hby d3_7)
  have N12 := Fr.snoc X12 N11 (hn0.1)
  have B2 := own_B_pc hw hA B1 W12
  obtain ⟨T13, X13, e13, st13⟩ := getF X12 hx hZ hown (host := "") (Or.inl (hw _ (List.mem_of_getElem? (i := 11) rfl))) Via.refl e12 ((own_B_cells B2)) (g := (mkF m 11 #[.val (.ref a), .val (.int p2), .val (.int p3)] [(.ref a)])) rfl rfl (hb hby d3_11)
  obtain ⟨_, _, ⟨T14, L14, k14, n14⟩, -, X14, ⟨Lc14, hQ14, l14, y14, z14⟩, st14⟩ := Jvm.LawKit.callS X13 hx (y := (⟨"java/lang/Math", "multiplyExact", "(II)I"⟩ : MethodName)) hown (mvT hZ (hw _ (List.mem_of_getElem? (i := 35) rfl))) (mvT hZ (hw _ (List.mem_of_getElem? (i := 36) rfl))) (mvT hZ (hw _ (List.mem_of_getElem? (i := 37) rfl))) (mvT hZ (hw _ (List.mem_of_getElem? (i := 38) rfl))) (by decide) (backOf (W := 1) (rm4 l Z a0 hw [] p2 p3 h12 n0 (own_B_sz B2 hn0.1) (own_exact hR hC lR lC)) hZ (hw _ (List.mem_of_getElem? (i := 38) rfl)) (hw _ (List.mem_of_getElem? (i := 37) rfl)) (by decide) (by decide)) (g := (mkF m 28 #[.val (.ref a), .val (.int p2), .val (.int p3)] [(.int p3), (.int p2), (.ref a)])) rfl (by rw [hml]; rfl) (argsL := [(.int p2), (.int p3)]) (rest := [(.ref a)]) (lenOf own_pd_LIIRI rfl) rfl (by show 2 * 0 + _ ≤ _; exact Nat.le_of_eq rfl) (hb hby d3_28) (fun _ _ => ⟨rfl, e13, (by decide : 0 + 0 ≤ _), (by decide : 0 + 0 ≤ _)⟩)
  dsimp only [Pt.U, Pt.locs, Pt.cells, Pt.slots] at X14 l14 y14 z14 st14 hQ14
  subst l14 y14 z14
  obtain ⟨rfl, N14q, hq14⟩ := hQ14
  have N14 := Fr.app N12 N14q
  have B3 : own_B Z a A N own_zi p2 p3 own_z own_z own_z own_z own_z own_z T14.heap := by rw [hq14]; exact B2
  have hz := own_prod hR hC lR lC
  have hbb : R * C ≤ 4 * 4 := Nat.mul_le_mul lR lC
  obtain ⟨T15, h15, k15, X15, e15, E15, A15, st15⟩ := newP X14 hx hZ (hw _ (List.mem_of_getElem? (i := 10) rfl)) rfl (g := (mkF m 31 #[.val (.ref a), .val (.int p2), .val (.int p3)] [(.int (((p2.toInt64) * (p3.toInt64)).toInt32)), (.ref a)])) rfl (hb hby d3_31) rfl (by rw [Int32.lt_iff_toInt_lt, hz]; have e0 : (0 : Int32).toInt = 0 := rfl; omega) (cap := 16) (by rw [own_clamp hz]; omega) (by decide) (by decide) (by decide)
  obtain ⟨b15, g15⟩ : ∃ z, z = T14.heap.size := ⟨_, rfl⟩
  rw [← g15] at A15 st15
  have B4 := own_B_ext B3 E15
  have V4 : own_AI Z h15 b15 (R * C) own_zi := own_AI_new A15 (own_clamp hz)
  have ab : a < b15 := Nat.lt_of_lt_of_le (own_B_E B3).lt (Nat.le_of_eq g15.symm)
  have Ab : ∀ i, i < 7 → A i < b15 := fun i hi => Nat.lt_of_lt_of_le (own_B_lt B3 i hi) (Nat.le_of_eq g15.symm)
  obtain ⟨T16, h16, X16, e16, W16, st16⟩ := putF X15 hx hZ hown (host := "") (Or.inl (hw _ (List.mem_of_getElem? (i := 11) rfl))) Via.refl e15 (own_B_cells B4) (own_B_E B4) (Or.inl (hw _ (List.mem_of_getElem? (i := 12) rfl))) (hw _ (List.mem_of_getElem? (i := 2) rfl)) (ty := (.array .int)) (by decide) rfl rfl (g := (mkF m 33 #[.val (.ref a), .val (.int p2), .val (.int p3)] [(.ref b15), (.ref a)])) rfl rfl (hb hby d3_33)
  have N16 := Fr.snoc X16 N14 (hn0.1)
  have B5 := own_B_pu hw hA (Nat.ne_of_lt ab) B4 V4 W16
  obtain ⟨T17, X17, e17, st17⟩ := getF X16 hx hZ hown (host := "") (Or.inl (hw _ (List.mem_of_getElem? (i := 11) rfl))) Via.refl e16 ((own_B_cells B5)) (g := (mkF m 37 #[.val (.ref a), .val (.int p2), .val (.int p3)] [(.ref a)])) rfl rfl (hb hby d3_37)
  have hn5 : ∀ i, i < 7 → n0 ≤ own_up A 0 b15 i := by
    intro i hi
    unfold own_up
    by_cases q : i = 0
    · rw [if_pos q]; exact Nat.le_of_lt (Nat.lt_of_le_of_lt hn0.1 ab)
    · rw [if_neg q]; exact hn0.2 i hi
  obtain ⟨fs, hr, hrun, hended, hW, hsame⟩ := X17.leave (v := some (.ref b15)) (fun h => by rw [Bd.returns] at h; cases h)
  refine ⟨_, _, pre0 _ ?_, hrun, hended, _, _, rfl, ?_, ⟨_, rfl⟩, hW, hsame.mono (by decide) (by decide)⟩
  · show Steps p.tables e below (s₁.setTop (mkF m 0 #[.val (.ref a), .val (.int p2), .val (.int p3)] [])) _
    refine XS.aloadN X0.here hx rfl (hb hby d3_0) rfl rfl ?_
    show Steps p.tables e below (s₁.setTop (mkF m 1 #[.val (.ref a), .val (.int p2), .val (.int p3)] [(.ref a)])) _
    refine XS.iloadN X0.here hx rfl (hb hby d3_1) rfl ?_
    show Steps p.tables e below (s₁.setTop (mkF m 2 #[.val (.ref a), .val (.int p2), .val (.int p3)] [(.int p2), (.ref a)])) _
    refine st11 _ ?_
    show Steps p.tables e below (T11.setTop (mkF m 5 #[.val (.ref a), .val (.int p2), .val (.int p3)] [])) _
    refine XS.aloadN X11.here hx rfl (hb hby d3_5) rfl rfl ?_
    show Steps p.tables e below (T11.setTop (mkF m 6 #[.val (.ref a), .val (.int p2), .val (.int p3)] [(.ref a)])) _
    refine XS.iloadN X11.here hx rfl (hb hby d3_6) rfl ?_
    show Steps p.tables e below (T11.setTop (mkF m 7 #[.val (.ref a), .val (.int p2), .val (.int p3)] [(.int p3), (.ref a)])) _
    refine st12 _ ?_
    show Steps p.tables e below (T12.setTop (mkF m 10 #[.val (.ref a), .val (.int p2), .val (.int p3)] [])) _
    refine XS.aloadN X12.here hx rfl (hb hby d3_10) rfl rfl ?_
    show Steps p.tables e below (T12.setTop (mkF m 11 #[.val (.ref a), .val (.int p2), .val (.int p3)] [(.ref a)])) _
    refine st13 _ ?_
    show Steps p.tables e below (T13.setTop (mkF m 14 #[.val (.ref a), .val (.int p2), .val (.int p3)] [(.ref (A 0))])) _
    refine own_lenI X13 hx hZ e13 (own_B_v0 B2) (g := (mkF m 14 #[.val (.ref a), .val (.int p2), .val (.int p3)] [(.ref (A 0))])) rfl rfl (hb hby d3_14) _ ?_
    show Steps p.tables e below (T13.setTop (mkF m 15 #[.val (.ref a), .val (.int p2), .val (.int p3)] [(.int (own_i N))])) _
    refine XS.i2l X13.here hx rfl (hb hby d3_15) rfl ?_
    show Steps p.tables e below (T13.setTop (mkF m 16 #[.val (.ref a), .val (.int p2), .val (.int p3)] [(.long ((own_i N).toInt64))])) _
    refine XS.iloadN X13.here hx rfl (hb hby d3_16) rfl ?_
    show Steps p.tables e below (T13.setTop (mkF m 17 #[.val (.ref a), .val (.int p2), .val (.int p3)] [(.int p2), (.long ((own_i N).toInt64))])) _
    refine XS.i2l X13.here hx rfl (hb hby d3_17) rfl ?_
    show Steps p.tables e below (T13.setTop (mkF m 18 #[.val (.ref a), .val (.int p2), .val (.int p3)] [(.long (p2.toInt64)), (.long ((own_i N).toInt64))])) _
    refine XS.iloadN X13.here hx rfl (hb hby d3_18) rfl ?_
    show Steps p.tables e below (T13.setTop (mkF m 19 #[.val (.ref a), .val (.int p2), .val (.int p3)] [(.int p3), (.long (p2.toInt64)), (.long ((own_i N).toInt64))])) _
    refine XS.i2l X13.here hx rfl (hb hby d3_19) rfl ?_
    show Steps p.tables e below (T13.setTop (mkF m 20 #[.val (.ref a), .val (.int p2), .val (.int p3)] [(.long (p3.toInt64)), (.long (p2.toInt64)), (.long ((own_i N).toInt64))])) _
    refine XS.lmul X13.here hx rfl (hb hby d3_20) rfl ?_
    show Steps p.tables e below (T13.setTop (mkF m 21 #[.val (.ref a), .val (.int p2), .val (.int p3)] [(.long ((p2.toInt64) * (p3.toInt64))), (.long ((own_i N).toInt64))])) _
    refine XS.lcmp X13.here hx rfl (hb hby d3_21) rfl ?_
    show Steps p.tables e below (T13.setTop (mkF m 22 #[.val (.ref a), .val (.int p2), .val (.int p3)] [(.int (lcmpW ((own_i N).toInt64) ((p2.toInt64) * (p3.toInt64))))])) _
    refine XS.ifNo X13.here hx rfl (hb hby d3_22) rfl ((if0 _ _).trans (tlt ((own_cmp hR hC lR lC lN).mpr hlt : (lcmpW ((own_i N).toInt64) ((p2.toInt64) * (p3.toInt64))) < (0 : Int32))).2.1) ?_
    show Steps p.tables e below (T13.setTop (mkF m 25 #[.val (.ref a), .val (.int p2), .val (.int p3)] [])) _
    refine XS.aloadN X13.here hx rfl (hb hby d3_25) rfl rfl ?_
    show Steps p.tables e below (T13.setTop (mkF m 26 #[.val (.ref a), .val (.int p2), .val (.int p3)] [(.ref a)])) _
    refine XS.iloadN X13.here hx rfl (hb hby d3_26) rfl ?_
    show Steps p.tables e below (T13.setTop (mkF m 27 #[.val (.ref a), .val (.int p2), .val (.int p3)] [(.int p2), (.ref a)])) _
    refine XS.iloadN X13.here hx rfl (hb hby d3_27) rfl ?_
    show Steps p.tables e below (T13.setTop (mkF m 28 #[.val (.ref a), .val (.int p2), .val (.int p3)] [(.int p3), (.int p2), (.ref a)])) _
    refine st14 _ ?_
    show Steps p.tables e below (T14.setTop (mkF m 31 #[.val (.ref a), .val (.int p2), .val (.int p3)] [(.int (((p2.toInt64) * (p3.toInt64)).toInt32)), (.ref a)])) _
    refine st15 _ ?_
    show Steps p.tables e below (T15.setTop (mkF m 33 #[.val (.ref a), .val (.int p2), .val (.int p3)] [(.ref b15), (.ref a)])) _
    refine st16 _ ?_
    show Steps p.tables e below (T16.setTop (mkF m 36 #[.val (.ref a), .val (.int p2), .val (.int p3)] [])) _
    refine XS.aloadN X16.here hx rfl (hb hby d3_36) rfl rfl ?_
    show Steps p.tables e below (T16.setTop (mkF m 37 #[.val (.ref a), .val (.int p2), .val (.int p3)] [(.ref a)])) _
    refine st17 _ ?_
    show Steps p.tables e below (T17.setTop (mkF m 40 #[.val (.ref a), .val (.int p2), .val (.int p3)] [(.ref b15)])) _
    jvm_step X17.here [X17.here.top, hx, (hb hby d3_40), X17.method', Bd.returns, Value.isRef, FieldType.isReference]
    first | (intro acts; rw [hr _ acts rfl rfl rfl]) | rw [hr _ _ rfl rfl rfl]
    exact Steps.refl _
  · show own_Q3 Z a A N p2 p3 R C h0 n0 _ T17.heap _
    rw [e17]
    exact ⟨own_up A 0 b15, R * C, rfl, N16, own_ne_up hA ab Ab, ⟨hn0.1, hn5⟩, B5, Nat.le_refl _, by omega, fun q => absurd q (by omega)⟩
theorem own_ef3 (m : MethodId) (x0 : Addr) (x1 : Int32) (x2 : Int32) : entryFrame m #[(.ref x0), (.int x1), (.int x2)] 3 = mkF m 0 #[.val (.ref x0), .val (.int x1), .val (.int x2)] [] := by first | (simp [entryFrame, mkF, argsToLocals, Value.category]; done) | rfl
set_option maxRecDepth 65536 in
set_option maxHeartbeats 40000000 in
theorem rm3 (l : Launch) (Z : State) (a0 : Array Value) (hw : ∀ d ∈ tables_1, d.before a0 Z = true) (ws : List Jvm.Cond) (a : Addr) (A : Nat → Addr) (N : Nat) (r0 k0 p2 p3 : Int32) (R C : Nat) (h0 : Heap) (n0 : Nat) (Z0 : n0 ≤ h0.size) (B0 : own_B Z a A N own_zi r0 k0 own_z own_z own_z own_z own_z own_z h0) (hA : own_ne a A) (hn0 : n0 ≤ a ∧ ∀ i, i < 7 → n0 ≤ A i) (hR : p2.toInt = (R : Int)) (hC : p3.toInt = (C : Int)) (lR : R ≤ 4) (lC : C ≤ 4) (lN : N ≤ 16) :
    MetFree l (⟨"quartess/quartet/Anchors", "cells", "(II)[I"⟩ : MethodName) (head1 (Jvm.Cond.code (⟨"quartess/quartet/Anchors", "cells", "(II)[I"⟩ : MethodName) prog_20_method_2_code 3 (some (.array .int)) :: ws) ({ frames := 1, cells := 1, slots := 16, locals := 20 } : Room)) (fun aa U => aa = #[(.ref a), (.int p2), (.int p3)] ∧ Z.Warmed39 U.vm ∧ U.heap = h0) (fun _ _ _ _ _ => True) (fun _ U o U' => ∃ v L, o = .returned v ∧ own_Q3 Z a A N p2 p3 R C h0 n0 v U'.heap L ∧ FrameEnd U o U' L ({ frames := 1, cells := 1, slots := 16, locals := 20 } : Room).cells ({ frames := 1, cells := 1, slots := 16, locals := 20 } : Room).slots) := by
  by_cases hle : R * C ≤ N
  · exact rm3_t l Z a0 hw ws a A N r0 k0 p2 p3 R C h0 n0 Z0 B0 hA hn0 hR hC lR lC lN hle
  · exact rm3_f l Z a0 hw ws a A N r0 k0 p2 p3 R C h0 n0 Z0 B0 hA hn0 hR hC lR lC lN (by omega)
theorem d1_0 : decode prog_20_method_1_code 0 = .ok (.aload_n 0, 1) := by decide +kernel
theorem d1_1 : decode prog_20_method_1_code 1 = .ok (.invokespecial 1, 3) := by decide +kernel
theorem d1_4 : decode prog_20_method_1_code 4 = .ok (.aload_n 0, 1) := by decide +kernel
theorem d1_5 : decode prog_20_method_1_code 5 = .ok (.iconst 0, 1) := by decide +kernel
theorem d1_6 : decode prog_20_method_1_code 6 = .ok (.newarray .int, 2) := by decide +kernel
theorem d1_8 : decode prog_20_method_1_code 8 = .ok (.putfield 7, 3) := by decide +kernel
theorem d1_11 : decode prog_20_method_1_code 11 = .ok (.aload_n 0, 1) := by decide +kernel
theorem d1_12 : decode prog_20_method_1_code 12 = .ok (.iload_n 1, 1) := by decide +kernel
theorem d1_13 : decode prog_20_method_1_code 13 = .ok (.newarray .long, 2) := by decide +kernel
theorem d1_15 : decode prog_20_method_1_code 15 = .ok (.putfield 13, 3) := by decide +kernel
theorem d1_18 : decode prog_20_method_1_code 18 = .ok (.aload_n 0, 1) := by decide +kernel
theorem d1_19 : decode prog_20_method_1_code 19 = .ok (.iload_n 1, 1) := by decide +kernel
theorem d1_20 : decode prog_20_method_1_code 20 = .ok (.newarray .long, 2) := by decide +kernel
theorem d1_22 : decode prog_20_method_1_code 22 = .ok (.putfield 17, 3) := by decide +kernel
theorem d1_25 : decode prog_20_method_1_code 25 = .ok (.aload_n 0, 1) := by decide +kernel
theorem d1_26 : decode prog_20_method_1_code 26 = .ok (.iload_n 1, 1) := by decide +kernel
theorem d1_27 : decode prog_20_method_1_code 27 = .ok (.newarray .long, 2) := by decide +kernel
theorem d1_29 : decode prog_20_method_1_code 29 = .ok (.putfield 20, 3) := by decide +kernel
theorem d1_32 : decode prog_20_method_1_code 32 = .ok (.aload_n 0, 1) := by decide +kernel
theorem d1_33 : decode prog_20_method_1_code 33 = .ok (.iload_n 2, 1) := by decide +kernel
theorem d1_34 : decode prog_20_method_1_code 34 = .ok (.newarray .long, 2) := by decide +kernel
theorem d1_36 : decode prog_20_method_1_code 36 = .ok (.putfield 23, 3) := by decide +kernel
theorem d1_39 : decode prog_20_method_1_code 39 = .ok (.aload_n 0, 1) := by decide +kernel
theorem d1_40 : decode prog_20_method_1_code 40 = .ok (.iload_n 2, 1) := by decide +kernel
theorem d1_41 : decode prog_20_method_1_code 41 = .ok (.newarray .long, 2) := by decide +kernel
theorem d1_43 : decode prog_20_method_1_code 43 = .ok (.putfield 26, 3) := by decide +kernel
theorem d1_46 : decode prog_20_method_1_code 46 = .ok (.aload_n 0, 1) := by decide +kernel
theorem d1_47 : decode prog_20_method_1_code 47 = .ok (.iload_n 2, 1) := by decide +kernel
theorem d1_48 : decode prog_20_method_1_code 48 = .ok (.newarray .long, 2) := by decide +kernel
theorem d1_50 : decode prog_20_method_1_code 50 = .ok (.putfield 29, 3) := by decide +kernel
theorem d1_53 : decode prog_20_method_1_code 53 = .ok (.return_, 1) := by decide +kernel
def own_mkA (u s1 s2 s3 s4 s5 s6 : Nat) (i : Nat) : Nat := if i = 0 then u else if i = 1 then s1 else if i = 2 then s2 else if i = 3 then s3 else if i = 4 then s4 else if i = 5 then s5 else s6
theorem own_ne_mk {a u s1 s2 s3 s4 s5 s6 : Nat} (h : a < u ∧ u < s1 ∧ s1 < s2 ∧ s2 < s3 ∧ s3 < s4 ∧ s4 < s5 ∧ s5 < s6) : own_ne a (own_mkA u s1 s2 s3 s4 s5 s6) ∧ ∀ i, i < 7 → u ≤ own_mkA u s1 s2 s3 s4 s5 s6 i := by
  obtain ⟨h0, h1, h2, h3, h4, h5, h6⟩ := h
  have key : ∀ i, i < 7 → (i = 0 ∧ own_mkA u s1 s2 s3 s4 s5 s6 i = u) ∨ (i = 1 ∧ own_mkA u s1 s2 s3 s4 s5 s6 i = s1) ∨ (i = 2 ∧ own_mkA u s1 s2 s3 s4 s5 s6 i = s2) ∨ (i = 3 ∧ own_mkA u s1 s2 s3 s4 s5 s6 i = s3) ∨ (i = 4 ∧ own_mkA u s1 s2 s3 s4 s5 s6 i = s4) ∨ (i = 5 ∧ own_mkA u s1 s2 s3 s4 s5 s6 i = s5) ∨ (i = 6 ∧ own_mkA u s1 s2 s3 s4 s5 s6 i = s6) := by
    intro i hi
    have q : i = 0 ∨ i = 1 ∨ i = 2 ∨ i = 3 ∨ i = 4 ∨ i = 5 ∨ i = 6 := by omega
    rcases q with rfl | rfl | rfl | rfl | rfl | rfl | rfl
    · exact Or.inl ⟨rfl, rfl⟩
    · exact Or.inr (Or.inl ⟨rfl, rfl⟩)
    · exact Or.inr (Or.inr (Or.inl ⟨rfl, rfl⟩))
    · exact Or.inr (Or.inr (Or.inr (Or.inl ⟨rfl, rfl⟩)))
    · exact Or.inr (Or.inr (Or.inr (Or.inr (Or.inl ⟨rfl, rfl⟩))))
    · exact Or.inr (Or.inr (Or.inr (Or.inr (Or.inr (Or.inl ⟨rfl, rfl⟩)))))
    · exact Or.inr (Or.inr (Or.inr (Or.inr (Or.inr (Or.inr ⟨rfl, rfl⟩)))))
  refine ⟨⟨fun i hi => ?_, fun i j hi hj hne => ?_⟩, fun i hi => ?_⟩
  · have k1 := key i hi
    show ¬ (@Eq Nat a (own_mkA u s1 s2 s3 s4 s5 s6 i))
    generalize own_mkA u s1 s2 s3 s4 s5 s6 i = x at k1
    omega
  · have k1 := key i hi
    have k2 := key j hj
    show ¬ (@Eq Nat (own_mkA u s1 s2 s3 s4 s5 s6 i) (own_mkA u s1 s2 s3 s4 s5 s6 j))
    generalize own_mkA u s1 s2 s3 s4 s5 s6 i = x at k1
    generalize own_mkA u s1 s2 s3 s4 s5 s6 j = y at k2
    omega
  · have k1 := key i hi
    show @LE.le Nat _ u (own_mkA u s1 s2 s3 s4 s5 s6 i)
    generalize own_mkA u s1 s2 s3 s4 s5 s6 i = x at k1
    omega
def own_Q1 (Z : State) (a : Addr) (h0 : Heap) (n0 : Nat) (v : Option Value) (h : Heap) (L : List Loc) : Prop := v = none ∧ Fr n0 L ∧ ∃ A : Nat → Addr, own_ne a A ∧ (∀ i, i < 7 → n0 ≤ A i) ∧ own_B Z a A 0 own_zi (0 : Int32) (0 : Int32) own_z own_z own_z own_z own_z own_z h
theorem own_ef1 (m : MethodId) (x0 : Addr)  : entryFrame m #[(.ref x0), (.int (4 : Int32)), (.int (4 : Int32))] 3 = mkF m 0 #[.val (.ref x0), .val (.int (4 : Int32)), .val (.int (4 : Int32))] [] := by first | (simp [entryFrame, mkF, argsToLocals, Value.category]; done) | rfl
set_option maxRecDepth 65536 in
set_option maxHeartbeats 40000000 in
theorem rm1 (l : Launch) (Z : State) (a0 : Array Value) (hw : ∀ d ∈ tables_1, d.before a0 Z = true) (ws : List Jvm.Cond) (a : Addr) (h0 : Heap) (n0 : Nat) (Z0 : n0 ≤ h0.size) (E_a : Exa Z h0 a "quartess/quartet/Anchors") (g_a : n0 ≤ a) (F_cells : Fld Z h0 a "quartess/quartet/Anchors" "cells" "[I" .null) (F_rowSums : Fld Z h0 a "quartess/quartet/Anchors" "rowSums" "[J" .null) (F_rowSquares : Fld Z h0 a "quartess/quartet/Anchors" "rowSquares" "[J" .null) (F_rowRest : Fld Z h0 a "quartess/quartet/Anchors" "rowRest" "[J" .null) (F_columnSums : Fld Z h0 a "quartess/quartet/Anchors" "columnSums" "[J" .null) (F_columnSquares : Fld Z h0 a "quartess/quartet/Anchors" "columnSquares" "[J" .null) (F_columnRest : Fld Z h0 a "quartess/quartet/Anchors" "columnRest" "[J" .null) (F_rows : Fld Z h0 a "quartess/quartet/Anchors" "rows" "I" (.int (0 : Int32))) (F_columns : Fld Z h0 a "quartess/quartet/Anchors" "columns" "I" (.int (0 : Int32))) :
    MetFree l (⟨"quartess/quartet/Anchors", "<init>", "(II)V"⟩ : MethodName) (head1 (Jvm.Cond.code (⟨"quartess/quartet/Anchors", "<init>", "(II)V"⟩ : MethodName) prog_20_method_1_code 3 none :: ws) ({ frames := 1, cells := 7, slots := 24, locals := 12 } : Room)) (fun aa U => aa = #[(.ref a), (.int (4 : Int32)), (.int (4 : Int32))] ∧ Z.Warmed39 U.vm ∧ U.heap = h0) (fun _ _ _ _ _ => True) (fun _ U o U' => ∃ v L, o = .returned v ∧ own_Q1 Z a h0 n0 v U'.heap L ∧ FrameEnd U o U' L ({ frames := 1, cells := 7, slots := 24, locals := 12 } : Room).cells ({ frames := 1, cells := 7, slots := 24, locals := 12 } : Room).slots) := by
  refine MetFree.of_bodySF (plainFor_of_name own_pnK) hisR ?_
  intro p e s m args below meth c s₁ Bd hml0 hP hK
  obtain ⟨rfl, hZ, hh⟩ := hP
  have hx := Bd.exec
  have hby := Bd.bytes
  have hml : c.maxLocals = 3 := hml0
  have hown : s.vm.findClass "quartess/quartet/Anchors" = some m.cls := findClass_of_methodNamed Bd.named
  have hnm := (name_of_methodNamed Bd.named Bd.method).1
  have X0 : Stand p l e ({ frames := 1, cells := 7, slots := 24, locals := 12 } : Room) s m #[(.ref a), (.int (4 : Int32)), (.int (4 : Int32))] below meth c s₁ [] 0 0 := Stand.of_body Bd
  have e0 : s₁.heap = h0 := by rw [← hh, Bd.state]; rfl
  have N0 := Fr.nil n0
  have pre0 : ∀ t, Steps p.tables e below (s₁.setTop (mkF m 0 #[.val (.ref a), .val (.int (4 : Int32)), .val (.int (4 : Int32))] [])) t → Steps p.tables e below (s₁.setTop (entryFrame m #[(.ref a), (.int (4 : Int32)), (.int (4 : Int32))] 3)) t := fun tt kk => castTop (own_ef1 m a) kk
  obtain ⟨T11, X11, e11, st11⟩ := initO X0 hx hZ hown (hw _ (List.mem_of_getElem? (i := 7) rfl)) (hw _ (List.mem_of_getElem? (i := 8) rfl)) (hw _ (List.mem_of_getElem? (i := 9) rfl)) e0 (g := (mkF m 1 #[.val (.ref a), .val (.int (4 : Int32)), .val (.int (4 : Int32))] [(.ref a)])) rfl (by rw [hml]; rfl) rfl (hb hby d1_1) (by decide) (W := 0) (by show 2 * 0 + _ ≤ _; exact Nat.le_of_eq rfl) (by decide)
  obtain ⟨T12, h12, k12, X12, e12, E12, A12, st12⟩ := newP X11 hx hZ (hw _ (List.mem_of_getElem? (i := 10) rfl)) e11 (g := (mkF m 6 #[.val (.ref a), .val (.int (4 : Int32)), .val (.int (4 : Int32))] [(.int (0 : Int32)), (.ref a)])) rfl (hb hby d1_6) rfl (by decide) (cap := 0) (by decide) (by decide) (by decide) (by decide)
  obtain ⟨b12, g12⟩ : ∃ z, z = h0.size := ⟨_, rfl⟩
  rw [← g12] at A12 st12
  have ab12 : a < b12 := Nat.lt_of_lt_of_le E_a.lt (Nat.le_of_eq g12.symm)
  have V12_0 : own_AI Z h12 b12 0 own_zi := own_AI_new A12 (by decide)
  obtain ⟨T13, h13, X13, e13, W13, st13⟩ := putF X12 hx hZ hown (host := "") (Or.inl (hw _ (List.mem_of_getElem? (i := 11) rfl))) Via.refl e12 ((F_cells.ext E12)) ((E_a.ext E12)) (Or.inl (hw _ (List.mem_of_getElem? (i := 12) rfl))) (hw _ (List.mem_of_getElem? (i := 2) rfl)) (ty := (.array .int)) (by decide) rfl rfl (g := (mkF m 8 #[.val (.ref a), .val (.int (4 : Int32)), .val (.int (4 : Int32))] [(.ref b12), (.ref a)])) rfl rfl (hb hby d1_8)
  have N13 := Fr.snoc X13 N0 (g_a)
  have Ex13 : Exa Z h13 a "quartess/quartet/Anchors" := (E_a.ext E12).wr W13
  have F13_cells : Fld Z h13 a "quartess/quartet/Anchors" "cells" "[I" (.ref b12) := (F_cells.ext E12).same W13
  have F13_rowSums : Fld Z h13 a "quartess/quartet/Anchors" "rowSums" "[J" .null := (F_rowSums.ext E12).other W13 (Or.inr (slot_ne (Or.inr (hw _ (List.mem_of_getElem? (i := 15) rfl))) (Or.inl (hw _ (List.mem_of_getElem? (i := 12) rfl))) (by decide) (t := (.array .long)) (t' := (.array .int)) (by decide) (by decide)))
  have F13_rowSquares : Fld Z h13 a "quartess/quartet/Anchors" "rowSquares" "[J" .null := (F_rowSquares.ext E12).other W13 (Or.inr (slot_ne (Or.inr (hw _ (List.mem_of_getElem? (i := 17) rfl))) (Or.inl (hw _ (List.mem_of_getElem? (i := 12) rfl))) (by decide) (t := (.array .long)) (t' := (.array .int)) (by decide) (by decide)))
  have F13_rowRest : Fld Z h13 a "quartess/quartet/Anchors" "rowRest" "[J" .null := (F_rowRest.ext E12).other W13 (Or.inr (slot_ne (Or.inr (hw _ (List.mem_of_getElem? (i := 19) rfl))) (Or.inl (hw _ (List.mem_of_getElem? (i := 12) rfl))) (by decide) (t := (.array .long)) (t' := (.array .int)) (by decide) (by decide)))
  have F13_columnSums : Fld Z h13 a "quartess/quartet/Anchors" "columnSums" "[J" .null := (F_columnSums.ext E12).other W13 (Or.inr (slot_ne (Or.inr (hw _ (List.mem_of_getElem? (i := 21) rfl))) (Or.inl (hw _ (List.mem_of_getElem? (i := 12) rfl))) (by decide) (t := (.array .long)) (t' := (.array .int)) (by decide) (by decide)))
  have F13_columnSquares : Fld Z h13 a "quartess/quartet/Anchors" "columnSquares" "[J" .null := (F_columnSquares.ext E12).other W13 (Or.inr (slot_ne (Or.inr (hw _ (List.mem_of_getElem? (i := 23) rfl))) (Or.inl (hw _ (List.mem_of_getElem? (i := 12) rfl))) (by decide) (t := (.array .long)) (t' := (.array .int)) (by decide) (by decide)))
  have F13_columnRest : Fld Z h13 a "quartess/quartet/Anchors" "columnRest" "[J" .null := (F_columnRest.ext E12).other W13 (Or.inr (slot_ne (Or.inr (hw _ (List.mem_of_getElem? (i := 25) rfl))) (Or.inl (hw _ (List.mem_of_getElem? (i := 12) rfl))) (by decide) (t := (.array .long)) (t' := (.array .int)) (by decide) (by decide)))
  have F13_rows : Fld Z h13 a "quartess/quartet/Anchors" "rows" "I" (.int (0 : Int32)) := (F_rows.ext E12).other W13 (Or.inr (slot_ne (Or.inl (hw _ (List.mem_of_getElem? (i := 32) rfl))) (Or.inl (hw _ (List.mem_of_getElem? (i := 12) rfl))) (by decide) (t := .int) (t' := (.array .int)) (by decide) (by decide)))
  have F13_columns : Fld Z h13 a "quartess/quartet/Anchors" "columns" "I" (.int (0 : Int32)) := (F_columns.ext E12).other W13 (Or.inr (slot_ne (Or.inl (hw _ (List.mem_of_getElem? (i := 34) rfl))) (Or.inl (hw _ (List.mem_of_getElem? (i := 12) rfl))) (by decide) (t := .int) (t' := (.array .int)) (by decide) (by decide)))
  have V13_b12 : own_AI Z h13 b12 0 own_zi := own_AI_other V12_0 W13 (Nat.ne_of_gt ab12)
  obtain ⟨T14, h14, k14, X14, e14, E14, A14, st14⟩ := newP X13 hx hZ (hw _ (List.mem_of_getElem? (i := 13) rfl)) e13 (g := (mkF m 13 #[.val (.ref a), .val (.int (4 : Int32)), .val (.int (4 : Int32))] [(.int (4 : Int32)), (.ref a)])) rfl (hb hby d1_13) rfl (by decide) (cap := 4) (by decide) (by decide) (by decide) (by decide)
  obtain ⟨b14, g14⟩ : ∃ z, z = h13.size := ⟨_, rfl⟩
  rw [← g14] at A14 st14
  have ab14 : a < b14 := Nat.lt_of_lt_of_le Ex13.lt (Nat.le_of_eq g14.symm)
  have lt14 : b12 < b14 := Nat.lt_of_lt_of_le (own_AI_lt V13_b12) (Nat.le_of_eq g14.symm)
  have V14_0 : own_AJ Z h14 b14 4 own_z := own_AJ_new A14 (by decide)
  obtain ⟨T15, h15, X15, e15, W15, st15⟩ := putF X14 hx hZ hown (host := "") (Or.inl (hw _ (List.mem_of_getElem? (i := 14) rfl))) Via.refl e14 ((F13_rowSums.ext E14)) ((Ex13.ext E14)) (Or.inr ⟨(hw _ (List.mem_of_getElem? (i := 15) rfl)), rfl, hnm⟩) (hw _ (List.mem_of_getElem? (i := 2) rfl)) (ty := (.array .long)) (by decide) rfl rfl (g := (mkF m 15 #[.val (.ref a), .val (.int (4 : Int32)), .val (.int (4 : Int32))] [(.ref b14), (.ref a)])) rfl rfl (hb hby d1_15)
  have N15 := Fr.snoc X15 N13 (g_a)
  have Ex15 : Exa Z h15 a "quartess/quartet/Anchors" := (Ex13.ext E14).wr W15
  have F15_cells : Fld Z h15 a "quartess/quartet/Anchors" "cells" "[I" (.ref b12) := (F13_cells.ext E14).other W15 (Or.inr (slot_ne (Or.inl (hw _ (List.mem_of_getElem? (i := 12) rfl))) (Or.inr (hw _ (List.mem_of_getElem? (i := 15) rfl))) (by decide) (t := (.array .int)) (t' := (.array .long)) (by decide) (by decide)))
  have F15_rowSums : Fld Z h15 a "quartess/quartet/Anchors" "rowSums" "[J" (.ref b14) := (F13_rowSums.ext E14).same W15
  have F15_rowSquares : Fld Z h15 a "quartess/quartet/Anchors" "rowSquares" "[J" .null := (F13_rowSquares.ext E14).other W15 (Or.inr (slot_ne (Or.inr (hw _ (List.mem_of_getElem? (i := 17) rfl))) (Or.inr (hw _ (List.mem_of_getElem? (i := 15) rfl))) (by decide) (t := (.array .long)) (t' := (.array .long)) (by decide) (by decide)))
  have F15_rowRest : Fld Z h15 a "quartess/quartet/Anchors" "rowRest" "[J" .null := (F13_rowRest.ext E14).other W15 (Or.inr (slot_ne (Or.inr (hw _ (List.mem_of_getElem? (i := 19) rfl))) (Or.inr (hw _ (List.mem_of_getElem? (i := 15) rfl))) (by decide) (t := (.array .long)) (t' := (.array .long)) (by decide) (by decide)))
  have F15_columnSums : Fld Z h15 a "quartess/quartet/Anchors" "columnSums" "[J" .null := (F13_columnSums.ext E14).other W15 (Or.inr (slot_ne (Or.inr (hw _ (List.mem_of_getElem? (i := 21) rfl))) (Or.inr (hw _ (List.mem_of_getElem? (i := 15) rfl))) (by decide) (t := (.array .long)) (t' := (.array .long)) (by decide) (by decide)))
  have F15_columnSquares : Fld Z h15 a "quartess/quartet/Anchors" "columnSquares" "[J" .null := (F13_columnSquares.ext E14).other W15 (Or.inr (slot_ne (Or.inr (hw _ (List.mem_of_getElem? (i := 23) rfl))) (Or.inr (hw _ (List.mem_of_getElem? (i := 15) rfl))) (by decide) (t := (.array .long)) (t' := (.array .long)) (by decide) (by decide)))
  have F15_columnRest : Fld Z h15 a "quartess/quartet/Anchors" "columnRest" "[J" .null := (F13_columnRest.ext E14).other W15 (Or.inr (slot_ne (Or.inr (hw _ (List.mem_of_getElem? (i := 25) rfl))) (Or.inr (hw _ (List.mem_of_getElem? (i := 15) rfl))) (by decide) (t := (.array .long)) (t' := (.array .long)) (by decide) (by decide)))
  have F15_rows : Fld Z h15 a "quartess/quartet/Anchors" "rows" "I" (.int (0 : Int32)) := (F13_rows.ext E14).other W15 (Or.inr (slot_ne (Or.inl (hw _ (List.mem_of_getElem? (i := 32) rfl))) (Or.inr (hw _ (List.mem_of_getElem? (i := 15) rfl))) (by decide) (t := .int) (t' := (.array .long)) (by decide) (by decide)))
  have F15_columns : Fld Z h15 a "quartess/quartet/Anchors" "columns" "I" (.int (0 : Int32)) := (F13_columns.ext E14).other W15 (Or.inr (slot_ne (Or.inl (hw _ (List.mem_of_getElem? (i := 34) rfl))) (Or.inr (hw _ (List.mem_of_getElem? (i := 15) rfl))) (by decide) (t := .int) (t' := (.array .long)) (by decide) (by decide)))
  have V15_b12 : own_AI Z h15 b12 0 own_zi := own_AI_other (own_AI_ext V13_b12 E14) W15 (Nat.ne_of_gt ab12)
  have V15_b14 : own_AJ Z h15 b14 4 own_z := own_AJ_other V14_0 W15 (Nat.ne_of_gt ab14)
  obtain ⟨T16, h16, k16, X16, e16, E16, A16, st16⟩ := newP X15 hx hZ (hw _ (List.mem_of_getElem? (i := 13) rfl)) e15 (g := (mkF m 20 #[.val (.ref a), .val (.int (4 : Int32)), .val (.int (4 : Int32))] [(.int (4 : Int32)), (.ref a)])) rfl (hb hby d1_20) rfl (by decide) (cap := 4) (by decide) (by decide) (by decide) (by decide)
  obtain ⟨b16, g16⟩ : ∃ z, z = h15.size := ⟨_, rfl⟩
  rw [← g16] at A16 st16
  have ab16 : a < b16 := Nat.lt_of_lt_of_le Ex15.lt (Nat.le_of_eq g16.symm)
  have lt16 : b14 < b16 := Nat.lt_of_lt_of_le (own_AJ_lt V15_b14) (Nat.le_of_eq g16.symm)
  have V16_0 : own_AJ Z h16 b16 4 own_z := own_AJ_new A16 (by decide)
  obtain ⟨T17, h17, X17, e17, W17, st17⟩ := putF X16 hx hZ hown (host := "") (Or.inl (hw _ (List.mem_of_getElem? (i := 16) rfl))) Via.refl e16 ((F15_rowSquares.ext E16)) ((Ex15.ext E16)) (Or.inr ⟨(hw _ (List.mem_of_getElem? (i := 17) rfl)), rfl, hnm⟩) (hw _ (List.mem_of_getElem? (i := 2) rfl)) (ty := (.array .long)) (by decide) rfl rfl (g := (mkF m 22 #[.val (.ref a), .val (.int (4 : Int32)), .val (.int (4 : Int32))] [(.ref b16), (.ref a)])) rfl rfl (hb hby d1_22)
  have N17 := Fr.snoc X17 N15 (g_a)
  have Ex17 : Exa Z h17 a "quartess/quartet/Anchors" := (Ex15.ext E16).wr W17
  have F17_cells : Fld Z h17 a "quartess/quartet/Anchors" "cells" "[I" (.ref b12) := (F15_cells.ext E16).other W17 (Or.inr (slot_ne (Or.inl (hw _ (List.mem_of_getElem? (i := 12) rfl))) (Or.inr (hw _ (List.mem_of_getElem? (i := 17) rfl))) (by decide) (t := (.array .int)) (t' := (.array .long)) (by decide) (by decide)))
  have F17_rowSums : Fld Z h17 a "quartess/quartet/Anchors" "rowSums" "[J" (.ref b14) := (F15_rowSums.ext E16).other W17 (Or.inr (slot_ne (Or.inr (hw _ (List.mem_of_getElem? (i := 15) rfl))) (Or.inr (hw _ (List.mem_of_getElem? (i := 17) rfl))) (by decide) (t := (.array .long)) (t' := (.array .long)) (by decide) (by decide)))
  have F17_rowSquares : Fld Z h17 a "quartess/quartet/Anchors" "rowSquares" "[J" (.ref b16) := (F15_rowSquares.ext E16).same W17
  have F17_rowRest : Fld Z h17 a "quartess/quartet/Anchors" "rowRest" "[J" .null := (F15_rowRest.ext E16).other W17 (Or.inr (slot_ne (Or.inr (hw _ (List.mem_of_getElem? (i := 19) rfl))) (Or.inr (hw _ (List.mem_of_getElem? (i := 17) rfl))) (by decide) (t := (.array .long)) (t' := (.array .long)) (by decide) (by decide)))
  have F17_columnSums : Fld Z h17 a "quartess/quartet/Anchors" "columnSums" "[J" .null := (F15_columnSums.ext E16).other W17 (Or.inr (slot_ne (Or.inr (hw _ (List.mem_of_getElem? (i := 21) rfl))) (Or.inr (hw _ (List.mem_of_getElem? (i := 17) rfl))) (by decide) (t := (.array .long)) (t' := (.array .long)) (by decide) (by decide)))
  have F17_columnSquares : Fld Z h17 a "quartess/quartet/Anchors" "columnSquares" "[J" .null := (F15_columnSquares.ext E16).other W17 (Or.inr (slot_ne (Or.inr (hw _ (List.mem_of_getElem? (i := 23) rfl))) (Or.inr (hw _ (List.mem_of_getElem? (i := 17) rfl))) (by decide) (t := (.array .long)) (t' := (.array .long)) (by decide) (by decide)))
  have F17_columnRest : Fld Z h17 a "quartess/quartet/Anchors" "columnRest" "[J" .null := (F15_columnRest.ext E16).other W17 (Or.inr (slot_ne (Or.inr (hw _ (List.mem_of_getElem? (i := 25) rfl))) (Or.inr (hw _ (List.mem_of_getElem? (i := 17) rfl))) (by decide) (t := (.array .long)) (t' := (.array .long)) (by decide) (by decide)))
  have F17_rows : Fld Z h17 a "quartess/quartet/Anchors" "rows" "I" (.int (0 : Int32)) := (F15_rows.ext E16).other W17 (Or.inr (slot_ne (Or.inl (hw _ (List.mem_of_getElem? (i := 32) rfl))) (Or.inr (hw _ (List.mem_of_getElem? (i := 17) rfl))) (by decide) (t := .int) (t' := (.array .long)) (by decide) (by decide)))
  have F17_columns : Fld Z h17 a "quartess/quartet/Anchors" "columns" "I" (.int (0 : Int32)) := (F15_columns.ext E16).other W17 (Or.inr (slot_ne (Or.inl (hw _ (List.mem_of_getElem? (i := 34) rfl))) (Or.inr (hw _ (List.mem_of_getElem? (i := 17) rfl))) (by decide) (t := .int) (t' := (.array .long)) (by decide) (by decide)))
  have V17_b12 : own_AI Z h17 b12 0 own_zi := own_AI_other (own_AI_ext V15_b12 E16) W17 (Nat.ne_of_gt ab12)
  have V17_b14 : own_AJ Z h17 b14 4 own_z := own_AJ_other (own_AJ_ext V15_b14 E16) W17 (Nat.ne_of_gt ab14)
  have V17_b16 : own_AJ Z h17 b16 4 own_z := own_AJ_other V16_0 W17 (Nat.ne_of_gt ab16)
  obtain ⟨T18, h18, k18, X18, e18, E18, A18, st18⟩ := newP X17 hx hZ (hw _ (List.mem_of_getElem? (i := 13) rfl)) e17 (g := (mkF m 27 #[.val (.ref a), .val (.int (4 : Int32)), .val (.int (4 : Int32))] [(.int (4 : Int32)), (.ref a)])) rfl (hb hby d1_27) rfl (by decide) (cap := 4) (by decide) (by decide) (by decide) (by decide)
  obtain ⟨b18, g18⟩ : ∃ z, z = h17.size := ⟨_, rfl⟩
  rw [← g18] at A18 st18
  have ab18 : a < b18 := Nat.lt_of_lt_of_le Ex17.lt (Nat.le_of_eq g18.symm)
  have lt18 : b16 < b18 := Nat.lt_of_lt_of_le (own_AJ_lt V17_b16) (Nat.le_of_eq g18.symm)
  have V18_0 : own_AJ Z h18 b18 4 own_z := own_AJ_new A18 (by decide)
  obtain ⟨T19, h19, X19, e19, W19, st19⟩ := putF X18 hx hZ hown (host := "") (Or.inl (hw _ (List.mem_of_getElem? (i := 18) rfl))) Via.refl e18 ((F17_rowRest.ext E18)) ((Ex17.ext E18)) (Or.inr ⟨(hw _ (List.mem_of_getElem? (i := 19) rfl)), rfl, hnm⟩) (hw _ (List.mem_of_getElem? (i := 2) rfl)) (ty := (.array .long)) (by decide) rfl rfl (g := (mkF m 29 #[.val (.ref a), .val (.int (4 : Int32)), .val (.int (4 : Int32))] [(.ref b18), (.ref a)])) rfl rfl (hb hby d1_29)
  have N19 := Fr.snoc X19 N17 (g_a)
  have Ex19 : Exa Z h19 a "quartess/quartet/Anchors" := (Ex17.ext E18).wr W19
  have F19_cells : Fld Z h19 a "quartess/quartet/Anchors" "cells" "[I" (.ref b12) := (F17_cells.ext E18).other W19 (Or.inr (slot_ne (Or.inl (hw _ (List.mem_of_getElem? (i := 12) rfl))) (Or.inr (hw _ (List.mem_of_getElem? (i := 19) rfl))) (by decide) (t := (.array .int)) (t' := (.array .long)) (by decide) (by decide)))
  have F19_rowSums : Fld Z h19 a "quartess/quartet/Anchors" "rowSums" "[J" (.ref b14) := (F17_rowSums.ext E18).other W19 (Or.inr (slot_ne (Or.inr (hw _ (List.mem_of_getElem? (i := 15) rfl))) (Or.inr (hw _ (List.mem_of_getElem? (i := 19) rfl))) (by decide) (t := (.array .long)) (t' := (.array .long)) (by decide) (by decide)))
  have F19_rowSquares : Fld Z h19 a "quartess/quartet/Anchors" "rowSquares" "[J" (.ref b16) := (F17_rowSquares.ext E18).other W19 (Or.inr (slot_ne (Or.inr (hw _ (List.mem_of_getElem? (i := 17) rfl))) (Or.inr (hw _ (List.mem_of_getElem? (i := 19) rfl))) (by decide) (t := (.array .long)) (t' := (.array .long)) (by decide) (by decide)))
  have F19_rowRest : Fld Z h19 a "quartess/quartet/Anchors" "rowRest" "[J" (.ref b18) := (F17_rowRest.ext E18).same W19
  have F19_columnSums : Fld Z h19 a "quartess/quartet/Anchors" "columnSums" "[J" .null := (F17_columnSums.ext E18).other W19 (Or.inr (slot_ne (Or.inr (hw _ (List.mem_of_getElem? (i := 21) rfl))) (Or.inr (hw _ (List.mem_of_getElem? (i := 19) rfl))) (by decide) (t := (.array .long)) (t' := (.array .long)) (by decide) (by decide)))
  have F19_columnSquares : Fld Z h19 a "quartess/quartet/Anchors" "columnSquares" "[J" .null := (F17_columnSquares.ext E18).other W19 (Or.inr (slot_ne (Or.inr (hw _ (List.mem_of_getElem? (i := 23) rfl))) (Or.inr (hw _ (List.mem_of_getElem? (i := 19) rfl))) (by decide) (t := (.array .long)) (t' := (.array .long)) (by decide) (by decide)))
  have F19_columnRest : Fld Z h19 a "quartess/quartet/Anchors" "columnRest" "[J" .null := (F17_columnRest.ext E18).other W19 (Or.inr (slot_ne (Or.inr (hw _ (List.mem_of_getElem? (i := 25) rfl))) (Or.inr (hw _ (List.mem_of_getElem? (i := 19) rfl))) (by decide) (t := (.array .long)) (t' := (.array .long)) (by decide) (by decide)))
  have F19_rows : Fld Z h19 a "quartess/quartet/Anchors" "rows" "I" (.int (0 : Int32)) := (F17_rows.ext E18).other W19 (Or.inr (slot_ne (Or.inl (hw _ (List.mem_of_getElem? (i := 32) rfl))) (Or.inr (hw _ (List.mem_of_getElem? (i := 19) rfl))) (by decide) (t := .int) (t' := (.array .long)) (by decide) (by decide)))
  have F19_columns : Fld Z h19 a "quartess/quartet/Anchors" "columns" "I" (.int (0 : Int32)) := (F17_columns.ext E18).other W19 (Or.inr (slot_ne (Or.inl (hw _ (List.mem_of_getElem? (i := 34) rfl))) (Or.inr (hw _ (List.mem_of_getElem? (i := 19) rfl))) (by decide) (t := .int) (t' := (.array .long)) (by decide) (by decide)))
  have V19_b12 : own_AI Z h19 b12 0 own_zi := own_AI_other (own_AI_ext V17_b12 E18) W19 (Nat.ne_of_gt ab12)
  have V19_b14 : own_AJ Z h19 b14 4 own_z := own_AJ_other (own_AJ_ext V17_b14 E18) W19 (Nat.ne_of_gt ab14)
  have V19_b16 : own_AJ Z h19 b16 4 own_z := own_AJ_other (own_AJ_ext V17_b16 E18) W19 (Nat.ne_of_gt ab16)
  have V19_b18 : own_AJ Z h19 b18 4 own_z := own_AJ_other V18_0 W19 (Nat.ne_of_gt ab18)
  obtain ⟨T20, h20, k20, X20, e20, E20, A20, st20⟩ := newP X19 hx hZ (hw _ (List.mem_of_getElem? (i := 13) rfl)) e19 (g := (mkF m 34 #[.val (.ref a), .val (.int (4 : Int32)), .val (.int (4 : Int32))] [(.int (4 : Int32)), (.ref a)])) rfl (hb hby d1_34) rfl (by decide) (cap := 4) (by decide) (by decide) (by decide) (by decide)
  obtain ⟨b20, g20⟩ : ∃ z, z = h19.size := ⟨_, rfl⟩
  rw [← g20] at A20 st20
  have ab20 : a < b20 := Nat.lt_of_lt_of_le Ex19.lt (Nat.le_of_eq g20.symm)
  have lt20 : b18 < b20 := Nat.lt_of_lt_of_le (own_AJ_lt V19_b18) (Nat.le_of_eq g20.symm)
  have V20_0 : own_AJ Z h20 b20 4 own_z := own_AJ_new A20 (by decide)
  obtain ⟨T21, h21, X21, e21, W21, st21⟩ := putF X20 hx hZ hown (host := "") (Or.inl (hw _ (List.mem_of_getElem? (i := 20) rfl))) Via.refl e20 ((F19_columnSums.ext E20)) ((Ex19.ext E20)) (Or.inr ⟨(hw _ (List.mem_of_getElem? (i := 21) rfl)), rfl, hnm⟩) (hw _ (List.mem_of_getElem? (i := 2) rfl)) (ty := (.array .long)) (by decide) rfl rfl (g := (mkF m 36 #[.val (.ref a), .val (.int (4 : Int32)), .val (.int (4 : Int32))] [(.ref b20), (.ref a)])) rfl rfl (hb hby d1_36)
  have N21 := Fr.snoc X21 N19 (g_a)
  have Ex21 : Exa Z h21 a "quartess/quartet/Anchors" := (Ex19.ext E20).wr W21
  have F21_cells : Fld Z h21 a "quartess/quartet/Anchors" "cells" "[I" (.ref b12) := (F19_cells.ext E20).other W21 (Or.inr (slot_ne (Or.inl (hw _ (List.mem_of_getElem? (i := 12) rfl))) (Or.inr (hw _ (List.mem_of_getElem? (i := 21) rfl))) (by decide) (t := (.array .int)) (t' := (.array .long)) (by decide) (by decide)))
  have F21_rowSums : Fld Z h21 a "quartess/quartet/Anchors" "rowSums" "[J" (.ref b14) := (F19_rowSums.ext E20).other W21 (Or.inr (slot_ne (Or.inr (hw _ (List.mem_of_getElem? (i := 15) rfl))) (Or.inr (hw _ (List.mem_of_getElem? (i := 21) rfl))) (by decide) (t := (.array .long)) (t' := (.array .long)) (by decide) (by decide)))
  have F21_rowSquares : Fld Z h21 a "quartess/quartet/Anchors" "rowSquares" "[J" (.ref b16) := (F19_rowSquares.ext E20).other W21 (Or.inr (slot_ne (Or.inr (hw _ (List.mem_of_getElem? (i := 17) rfl))) (Or.inr (hw _ (List.mem_of_getElem? (i := 21) rfl))) (by decide) (t := (.array .long)) (t' := (.array .long)) (by decide) (by decide)))
  have F21_rowRest : Fld Z h21 a "quartess/quartet/Anchors" "rowRest" "[J" (.ref b18) := (F19_rowRest.ext E20).other W21 (Or.inr (slot_ne (Or.inr (hw _ (List.mem_of_getElem? (i := 19) rfl))) (Or.inr (hw _ (List.mem_of_getElem? (i := 21) rfl))) (by decide) (t := (.array .long)) (t' := (.array .long)) (by decide) (by decide)))
  have F21_columnSums : Fld Z h21 a "quartess/quartet/Anchors" "columnSums" "[J" (.ref b20) := (F19_columnSums.ext E20).same W21
  have F21_columnSquares : Fld Z h21 a "quartess/quartet/Anchors" "columnSquares" "[J" .null := (F19_columnSquares.ext E20).other W21 (Or.inr (slot_ne (Or.inr (hw _ (List.mem_of_getElem? (i := 23) rfl))) (Or.inr (hw _ (List.mem_of_getElem? (i := 21) rfl))) (by decide) (t := (.array .long)) (t' := (.array .long)) (by decide) (by decide)))
  have F21_columnRest : Fld Z h21 a "quartess/quartet/Anchors" "columnRest" "[J" .null := (F19_columnRest.ext E20).other W21 (Or.inr (slot_ne (Or.inr (hw _ (List.mem_of_getElem? (i := 25) rfl))) (Or.inr (hw _ (List.mem_of_getElem? (i := 21) rfl))) (by decide) (t := (.array .long)) (t' := (.array .long)) (by decide) (by decide)))
  have F21_rows : Fld Z h21 a "quartess/quartet/Anchors" "rows" "I" (.int (0 : Int32)) := (F19_rows.ext E20).other W21 (Or.inr (slot_ne (Or.inl (hw _ (List.mem_of_getElem? (i := 32) rfl))) (Or.inr (hw _ (List.mem_of_getElem? (i := 21) rfl))) (by decide) (t := .int) (t' := (.array .long)) (by decide) (by decide)))
  have F21_columns : Fld Z h21 a "quartess/quartet/Anchors" "columns" "I" (.int (0 : Int32)) := (F19_columns.ext E20).other W21 (Or.inr (slot_ne (Or.inl (hw _ (List.mem_of_getElem? (i := 34) rfl))) (Or.inr (hw _ (List.mem_of_getElem? (i := 21) rfl))) (by decide) (t := .int) (t' := (.array .long)) (by decide) (by decide)))
  have V21_b12 : own_AI Z h21 b12 0 own_zi := own_AI_other (own_AI_ext V19_b12 E20) W21 (Nat.ne_of_gt ab12)
  have V21_b14 : own_AJ Z h21 b14 4 own_z := own_AJ_other (own_AJ_ext V19_b14 E20) W21 (Nat.ne_of_gt ab14)
  have V21_b16 : own_AJ Z h21 b16 4 own_z := own_AJ_other (own_AJ_ext V19_b16 E20) W21 (Nat.ne_of_gt ab16)
  have V21_b18 : own_AJ Z h21 b18 4 own_z := own_AJ_other (own_AJ_ext V19_b18 E20) W21 (Nat.ne_of_gt ab18)
  have V21_b20 : own_AJ Z h21 b20 4 own_z := own_AJ_other V20_0 W21 (Nat.ne_of_gt ab20)
  obtain ⟨T22, h22, k22, X22, e22, E22, A22, st22⟩ := newP X21 hx hZ (hw _ (List.mem_of_getElem? (i := 13) rfl)) e21 (g := (mkF m 41 #[.val (.ref a), .val (.int (4 : Int32)), .val (.int (4 : Int32))] [(.int (4 : Int32)), (.ref a)])) rfl (hb hby d1_41) rfl (by decide) (cap := 4) (by decide) (by decide) (by decide) (by decide)
  obtain ⟨b22, g22⟩ : ∃ z, z = h21.size := ⟨_, rfl⟩
  rw [← g22] at A22 st22
  have ab22 : a < b22 := Nat.lt_of_lt_of_le Ex21.lt (Nat.le_of_eq g22.symm)
  have lt22 : b20 < b22 := Nat.lt_of_lt_of_le (own_AJ_lt V21_b20) (Nat.le_of_eq g22.symm)
  have V22_0 : own_AJ Z h22 b22 4 own_z := own_AJ_new A22 (by decide)
  obtain ⟨T23, h23, X23, e23, W23, st23⟩ := putF X22 hx hZ hown (host := "") (Or.inl (hw _ (List.mem_of_getElem? (i := 22) rfl))) Via.refl e22 ((F21_columnSquares.ext E22)) ((Ex21.ext E22)) (Or.inr ⟨(hw _ (List.mem_of_getElem? (i := 23) rfl)), rfl, hnm⟩) (hw _ (List.mem_of_getElem? (i := 2) rfl)) (ty := (.array .long)) (by decide) rfl rfl (g := (mkF m 43 #[.val (.ref a), .val (.int (4 : Int32)), .val (.int (4 : Int32))] [(.ref b22), (.ref a)])) rfl rfl (hb hby d1_43)
  have N23 := Fr.snoc X23 N21 (g_a)
  have Ex23 : Exa Z h23 a "quartess/quartet/Anchors" := (Ex21.ext E22).wr W23
  have F23_cells : Fld Z h23 a "quartess/quartet/Anchors" "cells" "[I" (.ref b12) := (F21_cells.ext E22).other W23 (Or.inr (slot_ne (Or.inl (hw _ (List.mem_of_getElem? (i := 12) rfl))) (Or.inr (hw _ (List.mem_of_getElem? (i := 23) rfl))) (by decide) (t := (.array .int)) (t' := (.array .long)) (by decide) (by decide)))
  have F23_rowSums : Fld Z h23 a "quartess/quartet/Anchors" "rowSums" "[J" (.ref b14) := (F21_rowSums.ext E22).other W23 (Or.inr (slot_ne (Or.inr (hw _ (List.mem_of_getElem? (i := 15) rfl))) (Or.inr (hw _ (List.mem_of_getElem? (i := 23) rfl))) (by decide) (t := (.array .long)) (t' := (.array .long)) (by decide) (by decide)))
  have F23_rowSquares : Fld Z h23 a "quartess/quartet/Anchors" "rowSquares" "[J" (.ref b16) := (F21_rowSquares.ext E22).other W23 (Or.inr (slot_ne (Or.inr (hw _ (List.mem_of_getElem? (i := 17) rfl))) (Or.inr (hw _ (List.mem_of_getElem? (i := 23) rfl))) (by decide) (t := (.array .long)) (t' := (.array .long)) (by decide) (by decide)))
  have F23_rowRest : Fld Z h23 a "quartess/quartet/Anchors" "rowRest" "[J" (.ref b18) := (F21_rowRest.ext E22).other W23 (Or.inr (slot_ne (Or.inr (hw _ (List.mem_of_getElem? (i := 19) rfl))) (Or.inr (hw _ (List.mem_of_getElem? (i := 23) rfl))) (by decide) (t := (.array .long)) (t' := (.array .long)) (by decide) (by decide)))
  have F23_columnSums : Fld Z h23 a "quartess/quartet/Anchors" "columnSums" "[J" (.ref b20) := (F21_columnSums.ext E22).other W23 (Or.inr (slot_ne (Or.inr (hw _ (List.mem_of_getElem? (i := 21) rfl))) (Or.inr (hw _ (List.mem_of_getElem? (i := 23) rfl))) (by decide) (t := (.array .long)) (t' := (.array .long)) (by decide) (by decide)))
  have F23_columnSquares : Fld Z h23 a "quartess/quartet/Anchors" "columnSquares" "[J" (.ref b22) := (F21_columnSquares.ext E22).same W23
  have F23_columnRest : Fld Z h23 a "quartess/quartet/Anchors" "columnRest" "[J" .null := (F21_columnRest.ext E22).other W23 (Or.inr (slot_ne (Or.inr (hw _ (List.mem_of_getElem? (i := 25) rfl))) (Or.inr (hw _ (List.mem_of_getElem? (i := 23) rfl))) (by decide) (t := (.array .long)) (t' := (.array .long)) (by decide) (by decide)))
  have F23_rows : Fld Z h23 a "quartess/quartet/Anchors" "rows" "I" (.int (0 : Int32)) := (F21_rows.ext E22).other W23 (Or.inr (slot_ne (Or.inl (hw _ (List.mem_of_getElem? (i := 32) rfl))) (Or.inr (hw _ (List.mem_of_getElem? (i := 23) rfl))) (by decide) (t := .int) (t' := (.array .long)) (by decide) (by decide)))
  have F23_columns : Fld Z h23 a "quartess/quartet/Anchors" "columns" "I" (.int (0 : Int32)) := (F21_columns.ext E22).other W23 (Or.inr (slot_ne (Or.inl (hw _ (List.mem_of_getElem? (i := 34) rfl))) (Or.inr (hw _ (List.mem_of_getElem? (i := 23) rfl))) (by decide) (t := .int) (t' := (.array .long)) (by decide) (by decide)))
  have V23_b12 : own_AI Z h23 b12 0 own_zi := own_AI_other (own_AI_ext V21_b12 E22) W23 (Nat.ne_of_gt ab12)
  have V23_b14 : own_AJ Z h23 b14 4 own_z := own_AJ_other (own_AJ_ext V21_b14 E22) W23 (Nat.ne_of_gt ab14)
  have V23_b16 : own_AJ Z h23 b16 4 own_z := own_AJ_other (own_AJ_ext V21_b16 E22) W23 (Nat.ne_of_gt ab16)
  have V23_b18 : own_AJ Z h23 b18 4 own_z := own_AJ_other (own_AJ_ext V21_b18 E22) W23 (Nat.ne_of_gt ab18)
  have V23_b20 : own_AJ Z h23 b20 4 own_z := own_AJ_other (own_AJ_ext V21_b20 E22) W23 (Nat.ne_of_gt ab20)
  have V23_b22 : own_AJ Z h23 b22 4 own_z := own_AJ_other V22_0 W23 (Nat.ne_of_gt ab22)
  obtain ⟨T24, h24, k24, X24, e24, E24, A24, st24⟩ := newP X23 hx hZ (hw _ (List.mem_of_getElem? (i := 13) rfl)) e23 (g := (mkF m 48 #[.val (.ref a), .val (.int (4 : Int32)), .val (.int (4 : Int32))] [(.int (4 : Int32)), (.ref a)])) rfl (hb hby d1_48) rfl (by decide) (cap := 4) (by decide) (by decide) (by decide) (by decide)
  obtain ⟨b24, g24⟩ : ∃ z, z = h23.size := ⟨_, rfl⟩
  rw [← g24] at A24 st24
  have ab24 : a < b24 := Nat.lt_of_lt_of_le Ex23.lt (Nat.le_of_eq g24.symm)
  have lt24 : b22 < b24 := Nat.lt_of_lt_of_le (own_AJ_lt V23_b22) (Nat.le_of_eq g24.symm)
  have V24_0 : own_AJ Z h24 b24 4 own_z := own_AJ_new A24 (by decide)
  obtain ⟨T25, h25, X25, e25, W25, st25⟩ := putF X24 hx hZ hown (host := "") (Or.inl (hw _ (List.mem_of_getElem? (i := 24) rfl))) Via.refl e24 ((F23_columnRest.ext E24)) ((Ex23.ext E24)) (Or.inr ⟨(hw _ (List.mem_of_getElem? (i := 25) rfl)), rfl, hnm⟩) (hw _ (List.mem_of_getElem? (i := 2) rfl)) (ty := (.array .long)) (by decide) rfl rfl (g := (mkF m 50 #[.val (.ref a), .val (.int (4 : Int32)), .val (.int (4 : Int32))] [(.ref b24), (.ref a)])) rfl rfl (hb hby d1_50)
  have N25 := Fr.snoc X25 N23 (g_a)
  have Ex25 : Exa Z h25 a "quartess/quartet/Anchors" := (Ex23.ext E24).wr W25
  have F25_cells : Fld Z h25 a "quartess/quartet/Anchors" "cells" "[I" (.ref b12) := (F23_cells.ext E24).other W25 (Or.inr (slot_ne (Or.inl (hw _ (List.mem_of_getElem? (i := 12) rfl))) (Or.inr (hw _ (List.mem_of_getElem? (i := 25) rfl))) (by decide) (t := (.array .int)) (t' := (.array .long)) (by decide) (by decide)))
  have F25_rowSums : Fld Z h25 a "quartess/quartet/Anchors" "rowSums" "[J" (.ref b14) := (F23_rowSums.ext E24).other W25 (Or.inr (slot_ne (Or.inr (hw _ (List.mem_of_getElem? (i := 15) rfl))) (Or.inr (hw _ (List.mem_of_getElem? (i := 25) rfl))) (by decide) (t := (.array .long)) (t' := (.array .long)) (by decide) (by decide)))
  have F25_rowSquares : Fld Z h25 a "quartess/quartet/Anchors" "rowSquares" "[J" (.ref b16) := (F23_rowSquares.ext E24).other W25 (Or.inr (slot_ne (Or.inr (hw _ (List.mem_of_getElem? (i := 17) rfl))) (Or.inr (hw _ (List.mem_of_getElem? (i := 25) rfl))) (by decide) (t := (.array .long)) (t' := (.array .long)) (by decide) (by decide)))
  have F25_rowRest : Fld Z h25 a "quartess/quartet/Anchors" "rowRest" "[J" (.ref b18) := (F23_rowRest.ext E24).other W25 (Or.inr (slot_ne (Or.inr (hw _ (List.mem_of_getElem? (i := 19) rfl))) (Or.inr (hw _ (List.mem_of_getElem? (i := 25) rfl))) (by decide) (t := (.array .long)) (t' := (.array .long)) (by decide) (by decide)))
  have F25_columnSums : Fld Z h25 a "quartess/quartet/Anchors" "columnSums" "[J" (.ref b20) := (F23_columnSums.ext E24).other W25 (Or.inr (slot_ne (Or.inr (hw _ (List.mem_of_getElem? (i := 21) rfl))) (Or.inr (hw _ (List.mem_of_getElem? (i := 25) rfl))) (by decide) (t := (.array .long)) (t' := (.array .long)) (by decide) (by decide)))
  have F25_columnSquares : Fld Z h25 a "quartess/quartet/Anchors" "columnSquares" "[J" (.ref b22) := (F23_columnSquares.ext E24).other W25 (Or.inr (slot_ne (Or.inr (hw _ (List.mem_of_getElem? (i := 23) rfl))) (Or.inr (hw _ (List.mem_of_getElem? (i := 25) rfl))) (by decide) (t := (.array .long)) (t' := (.array .long)) (by decide) (by decide)))
  have F25_columnRest : Fld Z h25 a "quartess/quartet/Anchors" "columnRest" "[J" (.ref b24) := (F23_columnRest.ext E24).same W25
  have F25_rows : Fld Z h25 a "quartess/quartet/Anchors" "rows" "I" (.int (0 : Int32)) := (F23_rows.ext E24).other W25 (Or.inr (slot_ne (Or.inl (hw _ (List.mem_of_getElem? (i := 32) rfl))) (Or.inr (hw _ (List.mem_of_getElem? (i := 25) rfl))) (by decide) (t := .int) (t' := (.array .long)) (by decide) (by decide)))
  have F25_columns : Fld Z h25 a "quartess/quartet/Anchors" "columns" "I" (.int (0 : Int32)) := (F23_columns.ext E24).other W25 (Or.inr (slot_ne (Or.inl (hw _ (List.mem_of_getElem? (i := 34) rfl))) (Or.inr (hw _ (List.mem_of_getElem? (i := 25) rfl))) (by decide) (t := .int) (t' := (.array .long)) (by decide) (by decide)))
  have V25_b12 : own_AI Z h25 b12 0 own_zi := own_AI_other (own_AI_ext V23_b12 E24) W25 (Nat.ne_of_gt ab12)
  have V25_b14 : own_AJ Z h25 b14 4 own_z := own_AJ_other (own_AJ_ext V23_b14 E24) W25 (Nat.ne_of_gt ab14)
  have V25_b16 : own_AJ Z h25 b16 4 own_z := own_AJ_other (own_AJ_ext V23_b16 E24) W25 (Nat.ne_of_gt ab16)
  have V25_b18 : own_AJ Z h25 b18 4 own_z := own_AJ_other (own_AJ_ext V23_b18 E24) W25 (Nat.ne_of_gt ab18)
  have V25_b20 : own_AJ Z h25 b20 4 own_z := own_AJ_other (own_AJ_ext V23_b20 E24) W25 (Nat.ne_of_gt ab20)
  have V25_b22 : own_AJ Z h25 b22 4 own_z := own_AJ_other (own_AJ_ext V23_b22 E24) W25 (Nat.ne_of_gt ab22)
  have V25_b24 : own_AJ Z h25 b24 4 own_z := own_AJ_other V24_0 W25 (Nat.ne_of_gt ab24)
  have hne := own_ne_mk (a := a) ⟨ab12, lt14, lt16, lt18, lt20, lt22, lt24⟩
  have Bn : own_B Z a (own_mkA b12 b14 b16 b18 b20 b22 b24) 0 own_zi (0 : Int32) (0 : Int32) own_z own_z own_z own_z own_z own_z h25 := ⟨Ex25, F25_cells, F25_rowSums, F25_rowSquares, F25_rowRest, F25_columnSums, F25_columnSquares, F25_columnRest, F25_rows, F25_columns, V25_b12, V25_b14, V25_b16, V25_b18, V25_b20, V25_b22, V25_b24⟩
  obtain ⟨fs, hr, hrun, hended, hW, hsame⟩ := X25.leave (v := none) (fun _ => rfl)
  refine ⟨_, _, pre0 _ ?_, hrun, hended, _, _, rfl, ?_, ⟨_, rfl⟩, hW, hsame.mono (by decide) (by decide)⟩
  · show Steps p.tables e below (s₁.setTop (mkF m 0 #[.val (.ref a), .val (.int (4 : Int32)), .val (.int (4 : Int32))] [])) _
    refine XS.aloadN X0.here hx rfl (hb hby d1_0) rfl rfl ?_
    show Steps p.tables e below (s₁.setTop (mkF m 1 #[.val (.ref a), .val (.int (4 : Int32)), .val (.int (4 : Int32))] [(.ref a)])) _
    refine st11 _ ?_
    show Steps p.tables e below (T11.setTop (mkF m 4 #[.val (.ref a), .val (.int (4 : Int32)), .val (.int (4 : Int32))] [])) _
    refine XS.aloadN X11.here hx rfl (hb hby d1_4) rfl rfl ?_
    show Steps p.tables e below (T11.setTop (mkF m 5 #[.val (.ref a), .val (.int (4 : Int32)), .val (.int (4 : Int32))] [(.ref a)])) _
    refine XS.iconst X11.here hx rfl (hb hby d1_5) ?_
    show Steps p.tables e below (T11.setTop (mkF m 6 #[.val (.ref a), .val (.int (4 : Int32)), .val (.int (4 : Int32))] [(.int (0 : Int32)), (.ref a)])) _
    refine st12 _ ?_
    show Steps p.tables e below (T12.setTop (mkF m 8 #[.val (.ref a), .val (.int (4 : Int32)), .val (.int (4 : Int32))] [(.ref b12), (.ref a)])) _
    refine st13 _ ?_
    show Steps p.tables e below (T13.setTop (mkF m 11 #[.val (.ref a), .val (.int (4 : Int32)), .val (.int (4 : Int32))] [])) _
    refine XS.aloadN X13.here hx rfl (hb hby d1_11) rfl rfl ?_
    show Steps p.tables e below (T13.setTop (mkF m 12 #[.val (.ref a), .val (.int (4 : Int32)), .val (.int (4 : Int32))] [(.ref a)])) _
    refine XS.iloadN X13.here hx rfl (hb hby d1_12) rfl ?_
    show Steps p.tables e below (T13.setTop (mkF m 13 #[.val (.ref a), .val (.int (4 : Int32)), .val (.int (4 : Int32))] [(.int (4 : Int32)), (.ref a)])) _
    refine st14 _ ?_
    show Steps p.tables e below (T14.setTop (mkF m 15 #[.val (.ref a), .val (.int (4 : Int32)), .val (.int (4 : Int32))] [(.ref b14), (.ref a)])) _
    refine st15 _ ?_
    show Steps p.tables e below (T15.setTop (mkF m 18 #[.val (.ref a), .val (.int (4 : Int32)), .val (.int (4 : Int32))] [])) _
    refine XS.aloadN X15.here hx rfl (hb hby d1_18) rfl rfl ?_
    show Steps p.tables e below (T15.setTop (mkF m 19 #[.val (.ref a), .val (.int (4 : Int32)), .val (.int (4 : Int32))] [(.ref a)])) _
    refine XS.iloadN X15.here hx rfl (hb hby d1_19) rfl ?_
    show Steps p.tables e below (T15.setTop (mkF m 20 #[.val (.ref a), .val (.int (4 : Int32)), .val (.int (4 : Int32))] [(.int (4 : Int32)), (.ref a)])) _
    refine st16 _ ?_
    show Steps p.tables e below (T16.setTop (mkF m 22 #[.val (.ref a), .val (.int (4 : Int32)), .val (.int (4 : Int32))] [(.ref b16), (.ref a)])) _
    refine st17 _ ?_
    show Steps p.tables e below (T17.setTop (mkF m 25 #[.val (.ref a), .val (.int (4 : Int32)), .val (.int (4 : Int32))] [])) _
    refine XS.aloadN X17.here hx rfl (hb hby d1_25) rfl rfl ?_
    show Steps p.tables e below (T17.setTop (mkF m 26 #[.val (.ref a), .val (.int (4 : Int32)), .val (.int (4 : Int32))] [(.ref a)])) _
    refine XS.iloadN X17.here hx rfl (hb hby d1_26) rfl ?_
    show Steps p.tables e below (T17.setTop (mkF m 27 #[.val (.ref a), .val (.int (4 : Int32)), .val (.int (4 : Int32))] [(.int (4 : Int32)), (.ref a)])) _
    refine st18 _ ?_
    show Steps p.tables e below (T18.setTop (mkF m 29 #[.val (.ref a), .val (.int (4 : Int32)), .val (.int (4 : Int32))] [(.ref b18), (.ref a)])) _
    refine st19 _ ?_
    show Steps p.tables e below (T19.setTop (mkF m 32 #[.val (.ref a), .val (.int (4 : Int32)), .val (.int (4 : Int32))] [])) _
    refine XS.aloadN X19.here hx rfl (hb hby d1_32) rfl rfl ?_
    show Steps p.tables e below (T19.setTop (mkF m 33 #[.val (.ref a), .val (.int (4 : Int32)), .val (.int (4 : Int32))] [(.ref a)])) _
    refine XS.iloadN X19.here hx rfl (hb hby d1_33) rfl ?_
    show Steps p.tables e below (T19.setTop (mkF m 34 #[.val (.ref a), .val (.int (4 : Int32)), .val (.int (4 : Int32))] [(.int (4 : Int32)), (.ref a)])) _
    refine st20 _ ?_
    show Steps p.tables e below (T20.setTop (mkF m 36 #[.val (.ref a), .val (.int (4 : Int32)), .val (.int (4 : Int32))] [(.ref b20), (.ref a)])) _
    refine st21 _ ?_
    show Steps p.tables e below (T21.setTop (mkF m 39 #[.val (.ref a), .val (.int (4 : Int32)), .val (.int (4 : Int32))] [])) _
    refine XS.aloadN X21.here hx rfl (hb hby d1_39) rfl rfl ?_
    show Steps p.tables e below (T21.setTop (mkF m 40 #[.val (.ref a), .val (.int (4 : Int32)), .val (.int (4 : Int32))] [(.ref a)])) _
    refine XS.iloadN X21.here hx rfl (hb hby d1_40) rfl ?_
    show Steps p.tables e below (T21.setTop (mkF m 41 #[.val (.ref a), .val (.int (4 : Int32)), .val (.int (4 : Int32))] [(.int (4 : Int32)), (.ref a)])) _
    refine st22 _ ?_
    show Steps p.tables e below (T22.setTop (mkF m 43 #[.val (.ref a), .val (.int (4 : Int32)), .val (.int (4 : Int32))] [(.ref b22), (.ref a)])) _
    refine st23 _ ?_
    show Steps p.tables e below (T23.setTop (mkF m 46 #[.val (.ref a), .val (.int (4 : Int32)), .val (.int (4 : Int32))] [])) _
    refine XS.aloadN X23.here hx rfl (hb hby d1_46) rfl rfl ?_
    show Steps p.tables e below (T23.setTop (mkF m 47 #[.val (.ref a), .val (.int (4 : Int32)), .val (.int (4 : Int32))] [(.ref a)])) _
    refine XS.iloadN X23.here hx rfl (hb hby d1_47) rfl ?_
    show Steps p.tables e below (T23.setTop (mkF m 48 #[.val (.ref a), .val (.int (4 : Int32)), .val (.int (4 : Int32))] [(.int (4 : Int32)), (.ref a)])) _
    refine st24 _ ?_
    show Steps p.tables e below (T24.setTop (mkF m 50 #[.val (.ref a), .val (.int (4 : Int32)), .val (.int (4 : Int32))] [(.ref b24), (.ref a)])) _
    refine st25 _ ?_
    show Steps p.tables e below (T25.setTop (mkF m 53 #[.val (.ref a), .val (.int (4 : Int32)), .val (.int (4 : Int32))] [])) _
    exact X25.returnOut hx Bd.returns (hb hby d1_53) hr
  · show own_Q1 Z a h0 n0 _ T25.heap _
    rw [e25]
    exact ⟨rfl, N25, (own_mkA b12 b14 b16 b18 b20 b22 b24), hne.1, fun i hi => Nat.le_trans (Nat.le_trans g_a (Nat.le_of_lt ab12)) (hne.2 i hi), Bn⟩
theorem own_B_st0 {Z : State} {a : Addr} {A : Nat → Addr} {N : Nat} {f : Nat → Int32} {r k : Int32} {g1 g2 g3 g4 g5 g6 : Nat → Int64} {h : Heap} {h' : Heap} {sl : Nat} {v : Value} {x : Nat → Int32} (hA : own_ne a A) (B : own_B Z a A N f r k g1 g2 g3 g4 g5 g6 h) (W : Wr h h' (A 0) sl v) (V : own_AI Z h' (A 0) N x) : own_B Z a A N x r k g1 g2 g3 g4 g5 g6 h' :=
  ⟨(own_B_E B).wr W, (own_B_cells B).other W (Or.inl (hA.1 0 (by decide))), (own_B_rowSums B).other W (Or.inl (hA.1 0 (by decide))), (own_B_rowSquares B).other W (Or.inl (hA.1 0 (by decide))), (own_B_rowRest B).other W (Or.inl (hA.1 0 (by decide))), (own_B_columnSums B).other W (Or.inl (hA.1 0 (by decide))), (own_B_columnSquares B).other W (Or.inl (hA.1 0 (by decide))), (own_B_columnRest B).other W (Or.inl (hA.1 0 (by decide))), (own_B_rows B).other W (Or.inl (hA.1 0 (by decide))), (own_B_columns B).other W (Or.inl (hA.1 0 (by decide))), V, own_AJ_other (own_B_v1 B) W (hA.2 1 0 (by decide) (by decide) (by decide)), own_AJ_other (own_B_v2 B) W (hA.2 2 0 (by decide) (by decide) (by decide)), own_AJ_other (own_B_v3 B) W (hA.2 3 0 (by decide) (by decide) (by decide)), own_AJ_other (own_B_v4 B) W (hA.2 4 0 (by decide) (by decide) (by decide)), own_AJ_other (own_B_v5 B) W (hA.2 5 0 (by decide) (by decide) (by decide)), own_AJ_other (own_B_v6 B) W (hA.2 6 0 (by decide) (by decide) (by decide))⟩
def own_r (p : Int32) : Int32 := (p &&& (2147483647 : Int32)) % (5 : Int32)
def own_mm (p : Int32) : Int64 := (p &&& (1023 : Int32)).toInt64
def own_big (x y : Int32) : Int32 := if x < (3 : Int32) then (0 : Int32) else (if y < (3 : Int32) then (0 : Int32) else (1 : Int32))
def own_exp (M : Int64) : Int64 := (((3 : Int64) * ((M * (M - (1 : Int64))) / (2 : Int64))) * M) * M
def own_f1 (M : Int64) : Nat → Int32 := own_up own_zi 0 (M.toInt32)
def own_f2 (M : Int64) (C : Nat) : Nat → Int32 := own_up (own_f1 M) (C + 1) (M.toInt32)
def own_f3 (M : Int64) (C : Nat) : Nat → Int32 := own_up (own_f2 M C) (2 * C + 2) (M.toInt32)
theorem own_mask (p k : Int32) (hk : 0 ≤ k.toInt) : 0 ≤ (p &&& k).toInt ∧ (p &&& k).toInt ≤ k.toInt := by
  have h1 : (p &&& k).toBitVec.toNat = p.toBitVec.toNat &&& k.toBitVec.toNat := BitVec.toNat_and _ _
  have h2 : p.toBitVec.toNat &&& k.toBitVec.toNat ≤ k.toBitVec.toNat := Nat.and_le_right
  have h3 : (p &&& k).toInt = (p &&& k).toBitVec.toInt := rfl
  have h4 := BitVec.toInt_eq_toNat_cond (p &&& k).toBitVec
  have h5 : k.toInt = k.toBitVec.toInt := rfl
  have h6 := BitVec.toInt_eq_toNat_cond k.toBitVec
  have h7 := k.toBitVec.isLt
  rw [h3, h4, h1]
  rw [h5, h6] at hk ⊢
  split at hk <;> split <;> omega
theorem own_r_rng (p : Int32) : ∃ R : Nat, (own_r p).toInt = (R : Int) ∧ R ≤ 4 := by
  have h := own_mask p 2147483647 (by decide)
  have h1 := (c_irem (p &&& (2147483647 : Int32)) (5 : Int32) 5 (by decide)).1 h.1
  refine ⟨(own_r p).toInt.toNat, ?_, ?_⟩
  · unfold own_r; rw [h1]; omega
  · unfold own_r; rw [h1]; omega
theorem own_mm_rng (p : Int32) : 0 ≤ (own_mm p).toInt ∧ (own_mm p).toInt ≤ 1023 := by
  have h := own_mask p 1023 (by decide)
  have e : (1023 : Int32).toInt = 1023 := by decide
  unfold own_mm
  rw [own_i64]
  omega
theorem own_lt3 {x : Int32} {X : Nat} (hx : x.toInt = (X : Int)) : x < (3 : Int32) ↔ X < 3 := by
  have e : (3 : Int32).toInt = 3 := by decide
  rw [Int32.lt_iff_toInt_lt, hx, e]
  omega
theorem own_len_ge {N X Y : Nat} {x y : Int32} (hx : x.toInt = (X : Int)) (hy : y.toInt = (Y : Int)) (lX : X ≤ 4) (lY : Y ≤ 4) (lN : N ≤ 16) : own_i N < (x * y) ↔ N < X * Y := by
  rw [Int32.lt_iff_toInt_lt, own_mul32 hx hy lX lY, own_i_toInt (by omega)]
  omega
theorem own_at1 {y : Int32} {Y : Nat} (hy : y.toInt = (Y : Int)) (lY : Y ≤ 4) : (y + (1 : Int32)).toInt = ((Y + 1 : Nat) : Int) := by
  have h4 : (y + (1 : Int32)).toInt = (y.toInt + (1 : Int32).toInt).bmod (2 ^ 32) := Int32.toInt_add _ _
  have e : (1 : Int32).toInt = 1 := by decide
  rw [e, hy, Int.bmod_eq_of_le (by omega) (by omega)] at h4
  omega
theorem own_at2 {y : Int32} {Y : Nat} (hy : y.toInt = (Y : Int)) (lY : Y ≤ 4) : (((2 : Int32) * y) + (2 : Int32)).toInt = ((2 * Y + 2 : Nat) : Int) := by
  have e : (2 : Int32).toInt = 2 := by decide
  have h3 : ((2 : Int32) * y).toInt = ((2 : Int32).toInt * y.toInt).bmod (2 ^ 32) := Int32.toInt_mul _ _
  rw [e, hy, Int.bmod_eq_of_le (by omega) (by omega)] at h3
  have h4 : (((2 : Int32) * y) + (2 : Int32)).toInt = (((2 : Int32) * y).toInt + (2 : Int32).toInt).bmod (2 ^ 32) := Int32.toInt_add _ _
  rw [h3, e, Int.bmod_eq_of_le (by omega) (by omega)] at h4
  omega
/-! the plain law -/
theorem own_big_iff {x y : Int32} {X Y : Nat} (hx : x.toInt = (X : Int)) (hy : y.toInt = (Y : Int)) (h : ¬ (own_big x y = (0 : Int32))) : 3 ≤ X ∧ 3 ≤ Y := by
  unfold own_big at h
  by_cases h1 : x < (3 : Int32)
  · rw [if_pos h1] at h; exact absurd rfl h
  · rw [if_neg h1] at h
    by_cases h2 : y < (3 : Int32)
    · rw [if_pos h2] at h; exact absurd rfl h
    · rw [own_lt3 hx] at h1
      rw [own_lt3 hy] at h2
      omega
theorem own_small_iff {x y : Int32} {X Y : Nat} (hx : x.toInt = (X : Int)) (hy : y.toInt = (Y : Int)) (h : own_big x y = (0 : Int32)) : ¬ (X = 3 ∧ Y = 3) := by
  unfold own_big at h
  intro q
  have h1 : ¬ (x < (3 : Int32)) := by rw [own_lt3 hx]; omega
  have h2 : ¬ (y < (3 : Int32)) := by rw [own_lt3 hy]; omega
  rw [if_neg h1, if_neg h2] at h
  exact absurd h (by decide)
theorem own_sum0 (n : Nat) (g : Nat → Int64) (h : ∀ i, i < n → g i = (0 : Int64)) : own_sum n g = (0 : Int64) := by
  induction n with
  | zero => rfl
  | succ n ih =>
    rw [own_sum_succ, ih (fun i hi => h i (by omega)), h n (by omega)]
    rfl
theorem own_main_small {R C : Nat} (h : ¬ (R = 3 ∧ C = 3)) : own_count own_zi R C (0 : Int64) = (0 : Int64) := by
  unfold own_count
  rw [if_neg h]
  refine own_sum0 R _ fun i _ => own_sum0 C _ fun j _ => ?_
  have hc : own_cel own_zi C i j = (0 : Int64) := by
    show (0 : Int32).toInt64 = (0 : Int64)
    decide
  unfold own_term
  rw [hc]
  exact if_pos (by decide)
theorem own_rt {M : Int64} (hM : 0 ≤ M.toInt ∧ M.toInt ≤ 1023) : M.toInt32.toInt64 = M := by
  refine Int64.toInt_inj.mp ?_
  have h2 : M.toInt32.toInt = M.toInt.bmod (2 ^ 32) := Int64.toInt_toInt32 _
  rw [own_i64, h2, Int.bmod_eq_of_le (by omega) (by omega)]
theorem own_three_mul (x : Int64) : (3 : Int64) * x = (x + x) + x := by
  have e : (3 : Int64) = (1 + 1) + 1 := by decide
  rw [e, Int64.add_mul, Int64.add_mul, Int64.one_mul]
theorem own_two_mul (x : Int64) : (2 : Int64) * x = x + x := by
  have e : (2 : Int64) = 1 + 1 := by decide
  rw [e, Int64.add_mul, Int64.one_mul]
theorem own_acan (x y : Int64) : (x + y) - y = x := Int64.add_sub_cancel x y
theorem own_rest3 (M : Int64) : ((((3 : Int64) * M) - M) - M) + M = M + M := by
  rw [own_three_mul, own_acan, own_acan]
theorem own_rr3 (S : Int64) : (((S + S) + S) - ((2 : Int64) * S)) + S = S + S := by
  rw [own_two_mul, Int64.add_comm (S + S) S, own_acan]
theorem own_same3 (S : Int64) : ((((S + S) + S) - S) - S) + S = S + S := by
  rw [own_acan, own_acan]
theorem own_sq3 (M : Int64) : (M + M) * (M + M) = ((M * M + M * M) + (M * M + M * M)) := by
  rw [Int64.add_mul, Int64.mul_add]
theorem own_half {M : Int64} (hM : 0 ≤ M.toInt ∧ M.toInt ≤ 1023) : (M * M + M * M) / (2 : Int64) = M * M := by
  have h0 : 0 ≤ M.toInt * M.toInt := Int.mul_nonneg hM.1 hM.1
  have h1 : M.toInt * M.toInt ≤ 1023 * 1023 := Int.mul_le_mul hM.2 hM.2 hM.1 (by decide)
  have h2 : (M * M).toInt = M.toInt * M.toInt := by
    have w : (M * M).toInt = (M.toInt * M.toInt).bmod (2 ^ 64) := Int64.toInt_mul _ _
    rw [w, Int.bmod_eq_of_le (by omega) (by omega)]
  have h3 : (M * M + M * M).toInt = M.toInt * M.toInt + M.toInt * M.toInt := by
    have w : (M * M + M * M).toInt = ((M * M).toInt + (M * M).toInt).bmod (2 ^ 64) := Int64.toInt_add _ _
    rw [w, h2, Int.bmod_eq_of_le (by omega) (by omega)]
  refine Int64.toInt_inj.mp ?_
  have e2 : (2 : Int64).toInt = 2 := by decide
  have h4 : ((M * M + M * M) / (2 : Int64)).toInt = ((M * M + M * M).toInt.tdiv (2 : Int64).toInt).bmod (2 ^ 64) := Int64.toInt_div _ _
  have h5 : (M.toInt * M.toInt + M.toInt * M.toInt).tdiv 2 = M.toInt * M.toInt := by
    rw [Int.tdiv_eq_ediv_of_nonneg (by omega)]
    omega
  rw [h4, h3, h2, e2, h5, Int.bmod_eq_of_le (by omega) (by omega)]
/-- what a cell on the diagonal gives -/
theorem own_pv3 {M : Int64} (hM : 0 ≤ M.toInt ∧ M.toInt ≤ 1023) :
    (((((((((3 : Int64) * M) - M) - M) + M) * (((((3 : Int64) * M) - M) - M) + M)) - (((((M * M + M * M) + M * M) - ((2 : Int64) * (M * M))) + M * M) - ((M - M) * (M - M)))) - (((((M * M + M * M) + M * M) - ((2 : Int64) * (M * M))) + M * M) - ((M - M) * (M - M)))) + (((((M * M + M * M) + M * M) - M * M) - M * M) + (M * M))) / (2 : Int64) = M * M := by
  rw [own_rest3, own_rr3, own_same3, own_sq3, Int64.sub_self, Int64.mul_zero, Int64.sub_zero, own_acan]
  rw [Int64.sub_self, Int64.zero_add]
  exact own_half hM
theorem own_exp3 (M : Int64) : own_exp M = ((own_pairs M * (M * M) + own_pairs M * (M * M)) + own_pairs M * (M * M)) := by
  show (((3 : Int64) * own_pairs M) * M) * M = _
  rw [own_three_mul, Int64.mul_assoc, Int64.add_mul, Int64.add_mul]
theorem own_lowM {M : Int64} (hM : 0 ≤ M.toInt ∧ M.toInt ≤ 1023) (h : (lcmpW M (2 : Int64)) < (0 : Int32)) : own_pairs M = (0 : Int64) := by
  have e2 : (2 : Int64).toInt = 2 := by decide
  rw [lw_lt, Int64.lt_iff_toInt_lt, e2] at h
  have q : M.toInt = 0 ∨ M.toInt = 1 := by omega
  rcases q with q | q
  · have w : M = (0 : Int64) := Int64.toInt_inj.mp (by rw [q]; decide)
    rw [w]; decide
  · have w : M = (1 : Int64) := Int64.toInt_inj.mp (by rw [q]; decide)
    rw [w]; decide
theorem own_z2 : (lcmpW (0 : Int64) (2 : Int64)) < (0 : Int32) := by decide
theorem own_pairs0 : own_pairs (0 : Int64) = (0 : Int64) := by decide
/-- the term of a cell on the diagonal, whatever M is -/
theorem own_termM {M x : Int64} (hM : 0 ≤ M.toInt ∧ M.toInt ≤ 1023) (hx : x = M * M) : (if (lcmpW M (2 : Int64)) < (0 : Int32) then (0 : Int64) else own_pairs M * x) = own_pairs M * (M * M) := by
  by_cases h : (lcmpW M (2 : Int64)) < (0 : Int32)
  · rw [if_pos h, own_lowM hM h, Int64.zero_mul]
  · rw [if_neg h, hx]
set_option maxRecDepth 65536 in
set_option maxHeartbeats 4000000 in
theorem own_gen_34 {f : Nat → Int32} {M : Int64} (hM : 0 ≤ M.toInt ∧ M.toInt ≤ 1023) (c00 : own_cel f 4 0 0 = M) (c01 : own_cel f 4 0 1 = (0 : Int64)) (c02 : own_cel f 4 0 2 = (0 : Int64)) (c03 : own_cel f 4 0 3 = (0 : Int64)) (c10 : own_cel f 4 1 0 = (0 : Int64)) (c11 : own_cel f 4 1 1 = M) (c12 : own_cel f 4 1 2 = (0 : Int64)) (c13 : own_cel f 4 1 3 = (0 : Int64)) (c20 : own_cel f 4 2 0 = (0 : Int64)) (c21 : own_cel f 4 2 1 = (0 : Int64)) (c22 : own_cel f 4 2 2 = M) (c23 : own_cel f 4 2 3 = (0 : Int64)) : own_gen f 3 4 ((3 : Int64) * M) = own_exp M := by
  have rs0 : own_rs f 4 0 = M := by
    show own_sum 4 (own_cel f 4 0) = _
    simp only [own_sum, c00, c01, c02, c03, Int64.zero_add, Int64.add_zero, Int64.mul_zero, Int64.zero_mul]
  have rq0 : own_rq f 4 0 = (M * M) := by
    show own_sum 4 (own_cel2 f 4 0) = _
    simp only [own_sum, own_cel2, c00, c01, c02, c03, Int64.zero_add, Int64.add_zero, Int64.mul_zero, Int64.zero_mul]
  have g1_0 : own_G1 f 3 4 0 = M := rs0
  have g2_0 : own_G2 f 3 4 0 = (M * M) := rq0
  have rs1 : own_rs f 4 1 = M := by
    show own_sum 4 (own_cel f 4 1) = _
    simp only [own_sum, c10, c11, c12, c13, Int64.zero_add, Int64.add_zero, Int64.mul_zero, Int64.zero_mul]
  have rq1 : own_rq f 4 1 = (M * M) := by
    show own_sum 4 (own_cel2 f 4 1) = _
    simp only [own_sum, own_cel2, c10, c11, c12, c13, Int64.zero_add, Int64.add_zero, Int64.mul_zero, Int64.zero_mul]
  have g1_1 : own_G1 f 3 4 1 = M := rs1
  have g2_1 : own_G2 f 3 4 1 = (M * M) := rq1
  have rs2 : own_rs f 4 2 = M := by
    show own_sum 4 (own_cel f 4 2) = _
    simp only [own_sum, c20, c21, c22, c23, Int64.zero_add, Int64.add_zero, Int64.mul_zero, Int64.zero_mul]
  have rq2 : own_rq f 4 2 = (M * M) := by
    show own_sum 4 (own_cel2 f 4 2) = _
    simp only [own_sum, own_cel2, c20, c21, c22, c23, Int64.zero_add, Int64.add_zero, Int64.mul_zero, Int64.zero_mul]
  have g1_2 : own_G1 f 3 4 2 = M := rs2
  have g2_2 : own_G2 f 3 4 2 = (M * M) := rq2
  have g4_0 : own_G4 f 3 4 0 = M := by
    show own_sum 3 (fun y => own_cel f 4 y 0) = _
    simp only [own_sum, c00, c10, c20, Int64.zero_add, Int64.add_zero, Int64.mul_zero, Int64.zero_mul]
  have g5_0 : own_G5 f 3 4 0 = (M * M) := by
    show own_sum 3 (fun y => own_cel2 f 4 y 0) = _
    simp only [own_sum, own_cel2, c00, c10, c20, Int64.zero_add, Int64.add_zero, Int64.mul_zero, Int64.zero_mul]
  have g4_1 : own_G4 f 3 4 1 = M := by
    show own_sum 3 (fun y => own_cel f 4 y 1) = _
    simp only [own_sum, c01, c11, c21, Int64.zero_add, Int64.add_zero, Int64.mul_zero, Int64.zero_mul]
  have g5_1 : own_G5 f 3 4 1 = (M * M) := by
    show own_sum 3 (fun y => own_cel2 f 4 y 1) = _
    simp only [own_sum, own_cel2, c01, c11, c21, Int64.zero_add, Int64.add_zero, Int64.mul_zero, Int64.zero_mul]
  have g4_2 : own_G4 f 3 4 2 = M := by
    show own_sum 3 (fun y => own_cel f 4 y 2) = _
    simp only [own_sum, c02, c12, c22, Int64.zero_add, Int64.add_zero, Int64.mul_zero, Int64.zero_mul]
  have g5_2 : own_G5 f 3 4 2 = (M * M) := by
    show own_sum 3 (fun y => own_cel2 f 4 y 2) = _
    simp only [own_sum, own_cel2, c02, c12, c22, Int64.zero_add, Int64.add_zero, Int64.mul_zero, Int64.zero_mul]
  have g4_3 : own_G4 f 3 4 3 = (0 : Int64) := by
    show own_sum 3 (fun y => own_cel f 4 y 3) = _
    simp only [own_sum, c03, c13, c23, Int64.zero_add, Int64.add_zero, Int64.mul_zero, Int64.zero_mul]
  have g5_3 : own_G5 f 3 4 3 = (0 : Int64) := by
    show own_sum 3 (fun y => own_cel2 f 4 y 3) = _
    simp only [own_sum, own_cel2, c03, c13, c23, Int64.zero_add, Int64.add_zero, Int64.mul_zero, Int64.zero_mul]
  have hsq : own_sq f 3 4 = ((M * M + M * M) + M * M) := by
    show own_sum 3 (own_rq f 4) = _
    simp only [own_sum, rq0, rq1, rq2, Int64.zero_add, Int64.add_zero, Int64.mul_zero, Int64.zero_mul]
  have hrss : own_rss f 3 4 = ((M * M + M * M) + M * M) := by
    show own_sum 3 (own_rs2 f 4) = _
    simp only [own_sum, own_rs2, rs0, rs1, rs2, Int64.zero_add, Int64.add_zero, Int64.mul_zero, Int64.zero_mul]
  have hcss : own_css f 3 4 = ((M * M + M * M) + M * M) := by
    show own_sum 4 (own_sqf (own_G4 f 3 4)) = _
    simp only [own_sum, own_sqf, g4_0, g4_1, g4_2, g4_3, Int64.zero_add, Int64.add_zero, Int64.mul_zero, Int64.zero_mul]
  have g3_0 : own_G3 f 3 4 0 = ((((M * M + M * M) + M * M) - ((2 : Int64) * (M * M))) + M * M) := by
    show (own_css f 3 4 - ((2 : Int64) * own_sum 4 (own_dot (own_G4 f 3 4) (own_cel f 4 0)))) + own_G2 f 3 4 0 = _
    simp only [own_sum, own_dot, hcss, g2_0, g4_0, g4_1, g4_2, g4_3, c00, c01, c02, c03, Int64.zero_add, Int64.add_zero, Int64.mul_zero, Int64.zero_mul]
  have g6_0 : own_G6 f 3 4 0 = ((((M * M + M * M) + M * M) - ((2 : Int64) * (M * M))) + M * M) := by
    show (own_rss f 3 4 - ((2 : Int64) * own_sum 3 (own_dot (own_G1 f 3 4) (own_col f 4 0)))) + own_G5 f 3 4 0 = _
    simp only [own_sum, own_dot, own_col, hrss, g5_0, g1_0, g1_1, g1_2, c00, c10, c20, Int64.zero_add, Int64.add_zero, Int64.mul_zero, Int64.zero_mul]
  have g3_1 : own_G3 f 3 4 1 = ((((M * M + M * M) + M * M) - ((2 : Int64) * (M * M))) + M * M) := by
    show (own_css f 3 4 - ((2 : Int64) * own_sum 4 (own_dot (own_G4 f 3 4) (own_cel f 4 1)))) + own_G2 f 3 4 1 = _
    simp only [own_sum, own_dot, hcss, g2_1, g4_0, g4_1, g4_2, g4_3, c10, c11, c12, c13, Int64.zero_add, Int64.add_zero, Int64.mul_zero, Int64.zero_mul]
  have g6_1 : own_G6 f 3 4 1 = ((((M * M + M * M) + M * M) - ((2 : Int64) * (M * M))) + M * M) := by
    show (own_rss f 3 4 - ((2 : Int64) * own_sum 3 (own_dot (own_G1 f 3 4) (own_col f 4 1)))) + own_G5 f 3 4 1 = _
    simp only [own_sum, own_dot, own_col, hrss, g5_1, g1_0, g1_1, g1_2, c01, c11, c21, Int64.zero_add, Int64.add_zero, Int64.mul_zero, Int64.zero_mul]
  have g3_2 : own_G3 f 3 4 2 = ((((M * M + M * M) + M * M) - ((2 : Int64) * (M * M))) + M * M) := by
    show (own_css f 3 4 - ((2 : Int64) * own_sum 4 (own_dot (own_G4 f 3 4) (own_cel f 4 2)))) + own_G2 f 3 4 2 = _
    simp only [own_sum, own_dot, hcss, g2_2, g4_0, g4_1, g4_2, g4_3, c20, c21, c22, c23, Int64.zero_add, Int64.add_zero, Int64.mul_zero, Int64.zero_mul]
  have g6_2 : own_G6 f 3 4 2 = ((((M * M + M * M) + M * M) - ((2 : Int64) * (M * M))) + M * M) := by
    show (own_rss f 3 4 - ((2 : Int64) * own_sum 3 (own_dot (own_G1 f 3 4) (own_col f 4 2)))) + own_G5 f 3 4 2 = _
    simp only [own_sum, own_dot, own_col, hrss, g5_2, g1_0, g1_1, g1_2, c02, c12, c22, Int64.zero_add, Int64.add_zero, Int64.mul_zero, Int64.zero_mul]
  have t00 : own_term f 3 4 ((3 : Int64) * M) 0 0 = own_pairs M * (M * M) := by
    unfold own_term
    rw [c00]
    refine own_termM hM ?_
    unfold own_pv own_rest own_sr own_sc own_sm
    rw [c00, g1_0, g2_0, g3_0, g4_0, g5_0, g6_0, hsq]
    exact own_pv3 hM
  have t01 : own_term f 3 4 ((3 : Int64) * M) 0 1 = (0 : Int64) := by
    unfold own_term
    rw [c01]
    exact if_pos own_z2
  have t02 : own_term f 3 4 ((3 : Int64) * M) 0 2 = (0 : Int64) := by
    unfold own_term
    rw [c02]
    exact if_pos own_z2
  have t03 : own_term f 3 4 ((3 : Int64) * M) 0 3 = (0 : Int64) := by
    unfold own_term
    rw [c03]
    exact if_pos own_z2
  have t10 : own_term f 3 4 ((3 : Int64) * M) 1 0 = (0 : Int64) := by
    unfold own_term
    rw [c10]
    exact if_pos own_z2
  have t11 : own_term f 3 4 ((3 : Int64) * M) 1 1 = own_pairs M * (M * M) := by
    unfold own_term
    rw [c11]
    refine own_termM hM ?_
    unfold own_pv own_rest own_sr own_sc own_sm
    rw [c11, g1_1, g2_1, g3_1, g4_1, g5_1, g6_1, hsq]
    exact own_pv3 hM
  have t12 : own_term f 3 4 ((3 : Int64) * M) 1 2 = (0 : Int64) := by
    unfold own_term
    rw [c12]
    exact if_pos own_z2
  have t13 : own_term f 3 4 ((3 : Int64) * M) 1 3 = (0 : Int64) := by
    unfold own_term
    rw [c13]
    exact if_pos own_z2
  have t20 : own_term f 3 4 ((3 : Int64) * M) 2 0 = (0 : Int64) := by
    unfold own_term
    rw [c20]
    exact if_pos own_z2
  have t21 : own_term f 3 4 ((3 : Int64) * M) 2 1 = (0 : Int64) := by
    unfold own_term
    rw [c21]
    exact if_pos own_z2
  have t22 : own_term f 3 4 ((3 : Int64) * M) 2 2 = own_pairs M * (M * M) := by
    unfold own_term
    rw [c22]
    refine own_termM hM ?_
    unfold own_pv own_rest own_sr own_sc own_sm
    rw [c22, g1_2, g2_2, g3_2, g4_2, g5_2, g6_2, hsq]
    exact own_pv3 hM
  have t23 : own_term f 3 4 ((3 : Int64) * M) 2 3 = (0 : Int64) := by
    unfold own_term
    rw [c23]
    exact if_pos own_z2
  rw [own_exp3]
  show own_sum 3 (own_line f 3 4 ((3 : Int64) * M)) = _
  simp only [own_sum, own_line, t00, t01, t02, t03, t10, t11, t12, t13, t20, t21, t22, t23, Int64.zero_add, Int64.add_zero, Int64.mul_zero, Int64.zero_mul]
set_option maxRecDepth 65536 in
set_option maxHeartbeats 4000000 in
theorem own_gen_43 {f : Nat → Int32} {M : Int64} (hM : 0 ≤ M.toInt ∧ M.toInt ≤ 1023) (c00 : own_cel f 3 0 0 = M) (c01 : own_cel f 3 0 1 = (0 : Int64)) (c02 : own_cel f 3 0 2 = (0 : Int64)) (c10 : own_cel f 3 1 0 = (0 : Int64)) (c11 : own_cel f 3 1 1 = M) (c12 : own_cel f 3 1 2 = (0 : Int64)) (c20 : own_cel f 3 2 0 = (0 : Int64)) (c21 : own_cel f 3 2 1 = (0 : Int64)) (c22 : own_cel f 3 2 2 = M) (c30 : own_cel f 3 3 0 = (0 : Int64)) (c31 : own_cel f 3 3 1 = (0 : Int64)) (c32 : own_cel f 3 3 2 = (0 : Int64)) : own_gen f 4 3 ((3 : Int64) * M) = own_exp M := by
  have rs0 : own_rs f 3 0 = M := by
    show own_sum 3 (own_cel f 3 0) = _
    simp only [own_sum, c00, c01, c02, Int64.zero_add, Int64.add_zero, Int64.mul_zero, Int64.zero_mul]
  have rq0 : own_rq f 3 0 = (M * M) := by
    show own_sum 3 (own_cel2 f 3 0) = _
    simp only [own_sum, own_cel2, c00, c01, c02, Int64.zero_add, Int64.add_zero, Int64.mul_zero, Int64.zero_mul]
  have g1_0 : own_G1 f 4 3 0 = M := rs0
  have g2_0 : own_G2 f 4 3 0 = (M * M) := rq0
  have rs1 : own_rs f 3 1 = M := by
    show own_sum 3 (own_cel f 3 1) = _
    simp only [own_sum, c10, c11, c12, Int64.zero_add, Int64.add_zero, Int64.mul_zero, Int64.zero_mul]
  have rq1 : own_rq f 3 1 = (M * M) := by
    show own_sum 3 (own_cel2 f 3 1) = _
    simp only [own_sum, own_cel2, c10, c11, c12, Int64.zero_add, Int64.add_zero, Int64.mul_zero, Int64.zero_mul]
  have g1_1 : own_G1 f 4 3 1 = M := rs1
  have g2_1 : own_G2 f 4 3 1 = (M * M) := rq1
  have rs2 : own_rs f 3 2 = M := by
    show own_sum 3 (own_cel f 3 2) = _
    simp only [own_sum, c20, c21, c22, Int64.zero_add, Int64.add_zero, Int64.mul_zero, Int64.zero_mul]
  have rq2 : own_rq f 3 2 = (M * M) := by
    show own_sum 3 (own_cel2 f 3 2) = _
    simp only [own_sum, own_cel2, c20, c21, c22, Int64.zero_add, Int64.add_zero, Int64.mul_zero, Int64.zero_mul]
  have g1_2 : own_G1 f 4 3 2 = M := rs2
  have g2_2 : own_G2 f 4 3 2 = (M * M) := rq2
  have rs3 : own_rs f 3 3 = (0 : Int64) := by
    show own_sum 3 (own_cel f 3 3) = _
    simp only [own_sum, c30, c31, c32, Int64.zero_add, Int64.add_zero, Int64.mul_zero, Int64.zero_mul]
  have rq3 : own_rq f 3 3 = (0 : Int64) := by
    show own_sum 3 (own_cel2 f 3 3) = _
    simp only [own_sum, own_cel2, c30, c31, c32, Int64.zero_add, Int64.add_zero, Int64.mul_zero, Int64.zero_mul]
  have g1_3 : own_G1 f 4 3 3 = (0 : Int64) := rs3
  have g2_3 : own_G2 f 4 3 3 = (0 : Int64) := rq3
  have g4_0 : own_G4 f 4 3 0 = M := by
    show own_sum 4 (fun y => own_cel f 3 y 0) = _
    simp only [own_sum, c00, c10, c20, c30, Int64.zero_add, Int64.add_zero, Int64.mul_zero, Int64.zero_mul]
  have g5_0 : own_G5 f 4 3 0 = (M * M) := by
    show own_sum 4 (fun y => own_cel2 f 3 y 0) = _
    simp only [own_sum, own_cel2, c00, c10, c20, c30, Int64.zero_add, Int64.add_zero, Int64.mul_zero, Int64.zero_mul]
  have g4_1 : own_G4 f 4 3 1 = M := by
    show own_sum 4 (fun y => own_cel f 3 y 1) = _
    simp only [own_sum, c01, c11, c21, c31, Int64.zero_add, Int64.add_zero, Int64.mul_zero, Int64.zero_mul]
  have g5_1 : own_G5 f 4 3 1 = (M * M) := by
    show own_sum 4 (fun y => own_cel2 f 3 y 1) = _
    simp only [own_sum, own_cel2, c01, c11, c21, c31, Int64.zero_add, Int64.add_zero, Int64.mul_zero, Int64.zero_mul]
  have g4_2 : own_G4 f 4 3 2 = M := by
    show own_sum 4 (fun y => own_cel f 3 y 2) = _
    simp only [own_sum, c02, c12, c22, c32, Int64.zero_add, Int64.add_zero, Int64.mul_zero, Int64.zero_mul]
  have g5_2 : own_G5 f 4 3 2 = (M * M) := by
    show own_sum 4 (fun y => own_cel2 f 3 y 2) = _
    simp only [own_sum, own_cel2, c02, c12, c22, c32, Int64.zero_add, Int64.add_zero, Int64.mul_zero, Int64.zero_mul]
  have hsq : own_sq f 4 3 = ((M * M + M * M) + M * M) := by
    show own_sum 4 (own_rq f 3) = _
    simp only [own_sum, rq0, rq1, rq2, rq3, Int64.zero_add, Int64.add_zero, Int64.mul_zero, Int64.zero_mul]
  have hrss : own_rss f 4 3 = ((M * M + M * M) + M * M) := by
    show own_sum 4 (own_rs2 f 3) = _
    simp only [own_sum, own_rs2, rs0, rs1, rs2, rs3, Int64.zero_add, Int64.add_zero, Int64.mul_zero, Int64.zero_mul]
  have hcss : own_css f 4 3 = ((M * M + M * M) + M * M) := by
    show own_sum 3 (own_sqf (own_G4 f 4 3)) = _
    simp only [own_sum, own_sqf, g4_0, g4_1, g4_2, Int64.zero_add, Int64.add_zero, Int64.mul_zero, Int64.zero_mul]
  have g3_0 : own_G3 f 4 3 0 = ((((M * M + M * M) + M * M) - ((2 : Int64) * (M * M))) + M * M) := by
    show (own_css f 4 3 - ((2 : Int64) * own_sum 3 (own_dot (own_G4 f 4 3) (own_cel f 3 0)))) + own_G2 f 4 3 0 = _
    simp only [own_sum, own_dot, hcss, g2_0, g4_0, g4_1, g4_2, c00, c01, c02, Int64.zero_add, Int64.add_zero, Int64.mul_zero, Int64.zero_mul]
  have g6_0 : own_G6 f 4 3 0 = ((((M * M + M * M) + M * M) - ((2 : Int64) * (M * M))) + M * M) := by
    show (own_rss f 4 3 - ((2 : Int64) * own_sum 4 (own_dot (own_G1 f 4 3) (own_col f 3 0)))) + own_G5 f 4 3 0 = _
    simp only [own_sum, own_dot, own_col, hrss, g5_0, g1_0, g1_1, g1_2, g1_3, c00, c10, c20, c30, Int64.zero_add, Int64.add_zero, Int64.mul_zero, Int64.zero_mul]
  have g3_1 : own_G3 f 4 3 1 = ((((M * M + M * M) + M * M) - ((2 : Int64) * (M * M))) + M * M) := by
    show (own_css f 4 3 - ((2 : Int64) * own_sum 3 (own_dot (own_G4 f 4 3) (own_cel f 3 1)))) + own_G2 f 4 3 1 = _
    simp only [own_sum, own_dot, hcss, g2_1, g4_0, g4_1, g4_2, c10, c11, c12, Int64.zero_add, Int64.add_zero, Int64.mul_zero, Int64.zero_mul]
  have g6_1 : own_G6 f 4 3 1 = ((((M * M + M * M) + M * M) - ((2 : Int64) * (M * M))) + M * M) := by
    show (own_rss f 4 3 - ((2 : Int64) * own_sum 4 (own_dot (own_G1 f 4 3) (own_col f 3 1)))) + own_G5 f 4 3 1 = _
    simp only [own_sum, own_dot, own_col, hrss, g5_1, g1_0, g1_1, g1_2, g1_3, c01, c11, c21, c31, Int64.zero_add, Int64.add_zero, Int64.mul_zero, Int64.zero_mul]
  have g3_2 : own_G3 f 4 3 2 = ((((M * M + M * M) + M * M) - ((2 : Int64) * (M * M))) + M * M) := by
    show (own_css f 4 3 - ((2 : Int64) * own_sum 3 (own_dot (own_G4 f 4 3) (own_cel f 3 2)))) + own_G2 f 4 3 2 = _
    simp only [own_sum, own_dot, hcss, g2_2, g4_0, g4_1, g4_2, c20, c21, c22, Int64.zero_add, Int64.add_zero, Int64.mul_zero, Int64.zero_mul]
  have g6_2 : own_G6 f 4 3 2 = ((((M * M + M * M) + M * M) - ((2 : Int64) * (M * M))) + M * M) := by
    show (own_rss f 4 3 - ((2 : Int64) * own_sum 4 (own_dot (own_G1 f 4 3) (own_col f 3 2)))) + own_G5 f 4 3 2 = _
    simp only [own_sum, own_dot, own_col, hrss, g5_2, g1_0, g1_1, g1_2, g1_3, c02, c12, c22, c32, Int64.zero_add, Int64.add_zero, Int64.mul_zero, Int64.zero_mul]
  have t00 : own_term f 4 3 ((3 : Int64) * M) 0 0 = own_pairs M * (M * M) := by
    unfold own_term
    rw [c00]
    refine own_termM hM ?_
    unfold own_pv own_rest own_sr own_sc own_sm
    rw [c00, g1_0, g2_0, g3_0, g4_0, g5_0, g6_0, hsq]
    exact own_pv3 hM
  have t01 : own_term f 4 3 ((3 : Int64) * M) 0 1 = (0 : Int64) := by
    unfold own_term
    rw [c01]
    exact if_pos own_z2
  have t02 : own_term f 4 3 ((3 : Int64) * M) 0 2 = (0 : Int64) := by
    unfold own_term
    rw [c02]
    exact if_pos own_z2
  have t10 : own_term f 4 3 ((3 : Int64) * M) 1 0 = (0 : Int64) := by
    unfold own_term
    rw [c10]
    exact if_pos own_z2
  have t11 : own_term f 4 3 ((3 : Int64) * M) 1 1 = own_pairs M * (M * M) := by
    unfold own_term
    rw [c11]
    refine own_termM hM ?_
    unfold own_pv own_rest own_sr own_sc own_sm
    rw [c11, g1_1, g2_1, g3_1, g4_1, g5_1, g6_1, hsq]
    exact own_pv3 hM
  have t12 : own_term f 4 3 ((3 : Int64) * M) 1 2 = (0 : Int64) := by
    unfold own_term
    rw [c12]
    exact if_pos own_z2
  have t20 : own_term f 4 3 ((3 : Int64) * M) 2 0 = (0 : Int64) := by
    unfold own_term
    rw [c20]
    exact if_pos own_z2
  have t21 : own_term f 4 3 ((3 : Int64) * M) 2 1 = (0 : Int64) := by
    unfold own_term
    rw [c21]
    exact if_pos own_z2
  have t22 : own_term f 4 3 ((3 : Int64) * M) 2 2 = own_pairs M * (M * M) := by
    unfold own_term
    rw [c22]
    refine own_termM hM ?_
    unfold own_pv own_rest own_sr own_sc own_sm
    rw [c22, g1_2, g2_2, g3_2, g4_2, g5_2, g6_2, hsq]
    exact own_pv3 hM
  have t30 : own_term f 4 3 ((3 : Int64) * M) 3 0 = (0 : Int64) := by
    unfold own_term
    rw [c30]
    exact if_pos own_z2
  have t31 : own_term f 4 3 ((3 : Int64) * M) 3 1 = (0 : Int64) := by
    unfold own_term
    rw [c31]
    exact if_pos own_z2
  have t32 : own_term f 4 3 ((3 : Int64) * M) 3 2 = (0 : Int64) := by
    unfold own_term
    rw [c32]
    exact if_pos own_z2
  rw [own_exp3]
  show own_sum 4 (own_line f 4 3 ((3 : Int64) * M)) = _
  simp only [own_sum, own_line, t00, t01, t02, t10, t11, t12, t20, t21, t22, t30, t31, t32, Int64.zero_add, Int64.add_zero, Int64.mul_zero, Int64.zero_mul]
set_option maxRecDepth 65536 in
set_option maxHeartbeats 4000000 in
theorem own_gen_44 {f : Nat → Int32} {M : Int64} (hM : 0 ≤ M.toInt ∧ M.toInt ≤ 1023) (c00 : own_cel f 4 0 0 = M) (c01 : own_cel f 4 0 1 = (0 : Int64)) (c02 : own_cel f 4 0 2 = (0 : Int64)) (c03 : own_cel f 4 0 3 = (0 : Int64)) (c10 : own_cel f 4 1 0 = (0 : Int64)) (c11 : own_cel f 4 1 1 = M) (c12 : own_cel f 4 1 2 = (0 : Int64)) (c13 : own_cel f 4 1 3 = (0 : Int64)) (c20 : own_cel f 4 2 0 = (0 : Int64)) (c21 : own_cel f 4 2 1 = (0 : Int64)) (c22 : own_cel f 4 2 2 = M) (c23 : own_cel f 4 2 3 = (0 : Int64)) (c30 : own_cel f 4 3 0 = (0 : Int64)) (c31 : own_cel f 4 3 1 = (0 : Int64)) (c32 : own_cel f 4 3 2 = (0 : Int64)) (c33 : own_cel f 4 3 3 = (0 : Int64)) : own_gen f 4 4 ((3 : Int64) * M) = own_exp M := by
  have rs0 : own_rs f 4 0 = M := by
    show own_sum 4 (own_cel f 4 0) = _
    simp only [own_sum, c00, c01, c02, c03, Int64.zero_add, Int64.add_zero, Int64.mul_zero, Int64.zero_mul]
  have rq0 : own_rq f 4 0 = (M * M) := by
    show own_sum 4 (own_cel2 f 4 0) = _
    simp only [own_sum, own_cel2, c00, c01, c02, c03, Int64.zero_add, Int64.add_zero, Int64.mul_zero, Int64.zero_mul]
  have g1_0 : own_G1 f 4 4 0 = M := rs0
  have g2_0 : own_G2 f 4 4 0 = (M * M) := rq0
  have rs1 : own_rs f 4 1 = M := by
    show own_sum 4 (own_cel f 4 1) = _
    simp only [own_sum, c10, c11, c12, c13, Int64.zero_add, Int64.add_zero, Int64.mul_zero, Int64.zero_mul]
  have rq1 : own_rq f 4 1 = (M * M) := by
    show own_sum 4 (own_cel2 f 4 1) = _
    simp only [own_sum, own_cel2, c10, c11, c12, c13, Int64.zero_add, Int64.add_zero, Int64.mul_zero, Int64.zero_mul]
  have g1_1 : own_G1 f 4 4 1 = M := rs1
  have g2_1 : own_G2 f 4 4 1 = (M * M) := rq1
  have rs2 : own_rs f 4 2 = M := by
    show own_sum 4 (own_cel f 4 2) = _
    simp only [own_sum, c20, c21, c22, c23, Int64.zero_add, Int64.add_zero, Int64.mul_zero, Int64.zero_mul]
  have rq2 : own_rq f 4 2 = (M * M) := by
    show own_sum 4 (own_cel2 f 4 2) = _
    simp only [own_sum, own_cel2, c20, c21, c22, c23, Int64.zero_add, Int64.add_zero, Int64.mul_zero, Int64.zero_mul]
  have g1_2 : own_G1 f 4 4 2 = M := rs2
  have g2_2 : own_G2 f 4 4 2 = (M * M) := rq2
  have rs3 : own_rs f 4 3 = (0 : Int64) := by
    show own_sum 4 (own_cel f 4 3) = _
    simp only [own_sum, c30, c31, c32, c33, Int64.zero_add, Int64.add_zero, Int64.mul_zero, Int64.zero_mul]
  have rq3 : own_rq f 4 3 = (0 : Int64) := by
    show own_sum 4 (own_cel2 f 4 3) = _
    simp only [own_sum, own_cel2, c30, c31, c32, c33, Int64.zero_add, Int64.add_zero, Int64.mul_zero, Int64.zero_mul]
  have g1_3 : own_G1 f 4 4 3 = (0 : Int64) := rs3
  have g2_3 : own_G2 f 4 4 3 = (0 : Int64) := rq3
  have g4_0 : own_G4 f 4 4 0 = M := by
    show own_sum 4 (fun y => own_cel f 4 y 0) = _
    simp only [own_sum, c00, c10, c20, c30, Int64.zero_add, Int64.add_zero, Int64.mul_zero, Int64.zero_mul]
  have g5_0 : own_G5 f 4 4 0 = (M * M) := by
    show own_sum 4 (fun y => own_cel2 f 4 y 0) = _
    simp only [own_sum, own_cel2, c00, c10, c20, c30, Int64.zero_add, Int64.add_zero, Int64.mul_zero, Int64.zero_mul]
  have g4_1 : own_G4 f 4 4 1 = M := by
    show own_sum 4 (fun y => own_cel f 4 y 1) = _
    simp only [own_sum, c01, c11, c21, c31, Int64.zero_add, Int64.add_zero, Int64.mul_zero, Int64.zero_mul]
  have g5_1 : own_G5 f 4 4 1 = (M * M) := by
    show own_sum 4 (fun y => own_cel2 f 4 y 1) = _
    simp only [own_sum, own_cel2, c01, c11, c21, c31, Int64.zero_add, Int64.add_zero, Int64.mul_zero, Int64.zero_mul]
  have g4_2 : own_G4 f 4 4 2 = M := by
    show own_sum 4 (fun y => own_cel f 4 y 2) = _
    simp only [own_sum, c02, c12, c22, c32, Int64.zero_add, Int64.add_zero, Int64.mul_zero, Int64.zero_mul]
  have g5_2 : own_G5 f 4 4 2 = (M * M) := by
    show own_sum 4 (fun y => own_cel2 f 4 y 2) = _
    simp only [own_sum, own_cel2, c02, c12, c22, c32, Int64.zero_add, Int64.add_zero, Int64.mul_zero, Int64.zero_mul]
  have g4_3 : own_G4 f 4 4 3 = (0 : Int64) := by
    show own_sum 4 (fun y => own_cel f 4 y 3) = _
    simp only [own_sum, c03, c13, c23, c33, Int64.zero_add, Int64.add_zero, Int64.mul_zero, Int64.zero_mul]
  have g5_3 : own_G5 f 4 4 3 = (0 : Int64) := by
    show own_sum 4 (fun y => own_cel2 f 4 y 3) = _
    simp only [own_sum, own_cel2, c03, c13, c23, c33, Int64.zero_add, Int64.add_zero, Int64.mul_zero, Int64.zero_mul]
  have hsq : own_sq f 4 4 = ((M * M + M * M) + M * M) := by
    show own_sum 4 (own_rq f 4) = _
    simp only [own_sum, rq0, rq1, rq2, rq3, Int64.zero_add, Int64.add_zero, Int64.mul_zero, Int64.zero_mul]
  have hrss : own_rss f 4 4 = ((M * M + M * M) + M * M) := by
    show own_sum 4 (own_rs2 f 4) = _
    simp only [own_sum, own_rs2, rs0, rs1, rs2, rs3, Int64.zero_add, Int64.add_zero, Int64.mul_zero, Int64.zero_mul]
  have hcss : own_css f 4 4 = ((M * M + M * M) + M * M) := by
    show own_sum 4 (own_sqf (own_G4 f 4 4)) = _
    simp only [own_sum, own_sqf, g4_0, g4_1, g4_2, g4_3, Int64.zero_add, Int64.add_zero, Int64.mul_zero, Int64.zero_mul]
  have g3_0 : own_G3 f 4 4 0 = ((((M * M + M * M) + M * M) - ((2 : Int64) * (M * M))) + M * M) := by
    show (own_css f 4 4 - ((2 : Int64) * own_sum 4 (own_dot (own_G4 f 4 4) (own_cel f 4 0)))) + own_G2 f 4 4 0 = _
    simp only [own_sum, own_dot, hcss, g2_0, g4_0, g4_1, g4_2, g4_3, c00, c01, c02, c03, Int64.zero_add, Int64.add_zero, Int64.mul_zero, Int64.zero_mul]
  have g6_0 : own_G6 f 4 4 0 = ((((M * M + M * M) + M * M) - ((2 : Int64) * (M * M))) + M * M) := by
    show (own_rss f 4 4 - ((2 : Int64) * own_sum 4 (own_dot (own_G1 f 4 4) (own_col f 4 0)))) + own_G5 f 4 4 0 = _
    simp only [own_sum, own_dot, own_col, hrss, g5_0, g1_0, g1_1, g1_2, g1_3, c00, c10, c20, c30, Int64.zero_add, Int64.add_zero, Int64.mul_zero, Int64.zero_mul]
  have g3_1 : own_G3 f 4 4 1 = ((((M * M + M * M) + M * M) - ((2 : Int64) * (M * M))) + M * M) := by
    show (own_css f 4 4 - ((2 : Int64) * own_sum 4 (own_dot (own_G4 f 4 4) (own_cel f 4 1)))) + own_G2 f 4 4 1 = _
    simp only [own_sum, own_dot, hcss, g2_1, g4_0, g4_1, g4_2, g4_3, c10, c11, c12, c13, Int64.zero_add, Int64.add_zero, Int64.mul_zero, Int64.zero_mul]
  have g6_1 : own_G6 f 4 4 1 = ((((M * M + M * M) + M * M) - ((2 : Int64) * (M * M))) + M * M) := by
    show (own_rss f 4 4 - ((2 : Int64) * own_sum 4 (own_dot (own_G1 f 4 4) (own_col f 4 1)))) + own_G5 f 4 4 1 = _
    simp only [own_sum, own_dot, own_col, hrss, g5_1, g1_0, g1_1, g1_2, g1_3, c01, c11, c21, c31, Int64.zero_add, Int64.add_zero, Int64.mul_zero, Int64.zero_mul]
  have g3_2 : own_G3 f 4 4 2 = ((((M * M + M * M) + M * M) - ((2 : Int64) * (M * M))) + M * M) := by
    show (own_css f 4 4 - ((2 : Int64) * own_sum 4 (own_dot (own_G4 f 4 4) (own_cel f 4 2)))) + own_G2 f 4 4 2 = _
    simp only [own_sum, own_dot, hcss, g2_2, g4_0, g4_1, g4_2, g4_3, c20, c21, c22, c23, Int64.zero_add, Int64.add_zero, Int64.mul_zero, Int64.zero_mul]
  have g6_2 : own_G6 f 4 4 2 = ((((M * M + M * M) + M * M) - ((2 : Int64) * (M * M))) + M * M) := by
    show (own_rss f 4 4 - ((2 : Int64) * own_sum 4 (own_dot (own_G1 f 4 4) (own_col f 4 2)))) + own_G5 f 4 4 2 = _
    simp only [own_sum, own_dot, own_col, hrss, g5_2, g1_0, g1_1, g1_2, g1_3, c02, c12, c22, c32, Int64.zero_add, Int64.add_zero, Int64.mul_zero, Int64.zero_mul]
  have t00 : own_term f 4 4 ((3 : Int64) * M) 0 0 = own_pairs M * (M * M) := by
    unfold own_term
    rw [c00]
    refine own_termM hM ?_
    unfold own_pv own_rest own_sr own_sc own_sm
    rw [c00, g1_0, g2_0, g3_0, g4_0, g5_0, g6_0, hsq]
    exact own_pv3 hM
  have t01 : own_term f 4 4 ((3 : Int64) * M) 0 1 = (0 : Int64) := by
    unfold own_term
    rw [c01]
    exact if_pos own_z2
  have t02 : own_term f 4 4 ((3 : Int64) * M) 0 2 = (0 : Int64) := by
    unfold own_term
    rw [c02]
    exact if_pos own_z2
  have t03 : own_term f 4 4 ((3 : Int64) * M) 0 3 = (0 : Int64) := by
    unfold own_term
    rw [c03]
    exact if_pos own_z2
  have t10 : own_term f 4 4 ((3 : Int64) * M) 1 0 = (0 : Int64) := by
    unfold own_term
    rw [c10]
    exact if_pos own_z2
  have t11 : own_term f 4 4 ((3 : Int64) * M) 1 1 = own_pairs M * (M * M) := by
    unfold own_term
    rw [c11]
    refine own_termM hM ?_
    unfold own_pv own_rest own_sr own_sc own_sm
    rw [c11, g1_1, g2_1, g3_1, g4_1, g5_1, g6_1, hsq]
    exact own_pv3 hM
  have t12 : own_term f 4 4 ((3 : Int64) * M) 1 2 = (0 : Int64) := by
    unfold own_term
    rw [c12]
    exact if_pos own_z2
  have t13 : own_term f 4 4 ((3 : Int64) * M) 1 3 = (0 : Int64) := by
    unfold own_term
    rw [c13]
    exact if_pos own_z2
  have t20 : own_term f 4 4 ((3 : Int64) * M) 2 0 = (0 : Int64) := by
    unfold own_term
    rw [c20]
    exact if_pos own_z2
  have t21 : own_term f 4 4 ((3 : Int64) * M) 2 1 = (0 : Int64) := by
    unfold own_term
    rw [c21]
    exact if_pos own_z2
  have t22 : own_term f 4 4 ((3 : Int64) * M) 2 2 = own_pairs M * (M * M) := by
    unfold own_term
    rw [c22]
    refine own_termM hM ?_
    unfold own_pv own_rest own_sr own_sc own_sm
    rw [c22, g1_2, g2_2, g3_2, g4_2, g5_2, g6_2, hsq]
    exact own_pv3 hM
  have t23 : own_term f 4 4 ((3 : Int64) * M) 2 3 = (0 : Int64) := by
    unfold own_term
    rw [c23]
    exact if_pos own_z2
  have t30 : own_term f 4 4 ((3 : Int64) * M) 3 0 = (0 : Int64) := by
    unfold own_term
    rw [c30]
    exact if_pos own_z2
  have t31 : own_term f 4 4 ((3 : Int64) * M) 3 1 = (0 : Int64) := by
    unfold own_term
    rw [c31]
    exact if_pos own_z2
  have t32 : own_term f 4 4 ((3 : Int64) * M) 3 2 = (0 : Int64) := by
    unfold own_term
    rw [c32]
    exact if_pos own_z2
  have t33 : own_term f 4 4 ((3 : Int64) * M) 3 3 = (0 : Int64) := by
    unfold own_term
    rw [c33]
    exact if_pos own_z2
  rw [own_exp3]
  show own_sum 4 (own_line f 4 4 ((3 : Int64) * M)) = _
  simp only [own_sum, own_line, t00, t01, t02, t03, t10, t11, t12, t13, t20, t21, t22, t23, t30, t31, t32, t33, Int64.zero_add, Int64.add_zero, Int64.mul_zero, Int64.zero_mul]
set_option maxRecDepth 65536 in
set_option maxHeartbeats 4000000 in
theorem own_three_v {f : Nat → Int32} {M : Int64} (c0 : own_c f 0 = M) (c1 : own_c f 1 = (0 : Int64)) (c2 : own_c f 2 = (0 : Int64)) (c3 : own_c f 3 = (0 : Int64)) (c4 : own_c f 4 = M) (c5 : own_c f 5 = (0 : Int64)) (c6 : own_c f 6 = (0 : Int64)) (c7 : own_c f 7 = (0 : Int64)) (c8 : own_c f 8 = M) : own_three f = own_exp M := by
  rw [own_exp3]
  unfold own_three own_acc8 own_acc7 own_acc6 own_acc5 own_acc4 own_acc3 own_acc2 own_acc1 own_acc0
  simp only [c0, c1, c2, c3, c4, c5, c6, c7, c8, own_pairs0, Int64.zero_add, Int64.add_zero, Int64.mul_zero, Int64.zero_mul]
theorem own_f3_at (M : Int64) (C x : Nat) : own_f3 M C x = if x = 2 * C + 2 then M.toInt32 else if x = C + 1 then M.toInt32 else if x = 0 then M.toInt32 else (0 : Int32) := rfl
theorem own_main_big {M : Int64} {R C : Nat} (hM : 0 ≤ M.toInt ∧ M.toInt ≤ 1023) (h : 3 ≤ R ∧ 3 ≤ C) (lR : R ≤ 4) (lC : C ≤ 4) : own_count (own_f3 M C) R C ((3 : Int64) * M) = own_exp M := by
  have ht := own_rt hM
  have hz : (0 : Int32).toInt64 = (0 : Int64) := by decide
  have q : (R = 3 ∨ R = 4) ∧ (C = 3 ∨ C = 4) := by omega
  obtain ⟨rfl | rfl, rfl | rfl⟩ := q
  · rw [show own_count (own_f3 M 3) 3 3 ((3 : Int64) * M) = own_three (own_f3 M 3) from if_pos ⟨rfl, rfl⟩]
    exact own_three_v ht hz hz hz ht hz hz hz ht
  · rw [show own_count (own_f3 M 4) 3 4 ((3 : Int64) * M) = own_gen (own_f3 M 4) 3 4 ((3 : Int64) * M) from if_neg (by decide)]
    exact own_gen_34 hM ht hz hz hz hz ht hz hz hz hz ht hz
  · rw [show own_count (own_f3 M 3) 4 3 ((3 : Int64) * M) = own_gen (own_f3 M 3) 4 3 ((3 : Int64) * M) from if_neg (by decide)]
    exact own_gen_43 hM ht hz hz hz ht hz hz hz ht hz hz hz
  · rw [show own_count (own_f3 M 4) 4 4 ((3 : Int64) * M) = own_gen (own_f3 M 4) 4 4 ((3 : Int64) * M) from if_neg (by decide)]
    exact own_gen_44 hM ht hz hz hz hz ht hz hz hz hz ht hz hz hz hz hz
set_option maxRecDepth 65536 in
set_option maxHeartbeats 40000000 in
theorem tn0_134_153 {p : Program} {l : Launch} {e : Env} {R : Room} {s : State} {m : MethodId} {args : Array Value} {below : List Frame} {meth : Method} {c : Code} {T0 : State} {locs : List Loc} {cells slots : Nat} {Z : State} {a0 : Array Value} {i0 : Int32} {i1 : Int32} {i2 : Int32} {i3 : Int32} {i4 : Int32} {i5 : Int32} {i6 : Int32} {i7 : Int32} {i8 : Int32} {j9 : Int64} {o11 : Addr} {o12 : Addr} {i13 : Int32} {o14 : Addr} (X0 : Stand p l e R s m args below meth c T0 locs cells slots) (hx : p.tables.exec = Jvm.exec) (hZ : Z.Warmed39 s.vm) (hw : ∀ d ∈ tables_1, d.before a0 Z = true) (hby : c.code = code) (hown : s.vm.findClass "quartess/quartet/AnchorsCellsPinLaw" = some m.cls) :
    ∀ target, Steps p.tables e below (T0.setTop (mkF m 153 #[.val (.int i0), .val (.int i1), .val (.int i2), .val (.int i3), .val (.int i4), .val (.int i5), .val (.int i6), .val (.int i7), .val (.int i8), .val (.long j9), .second, .val (.ref o11), .val (.ref o12), .val (.int i13), .val (.ref o14), .val (.int (if i7 < (3 : Int32) then (0 : Int32) else (if i8 < (3 : Int32) then (0 : Int32) else (1 : Int32)))), .unset, .unset, .unset, .unset] [])) target → Steps p.tables e below (T0.setTop (mkF m 134 #[.val (.int i0), .val (.int i1), .val (.int i2), .val (.int i3), .val (.int i4), .val (.int i5), .val (.int i6), .val (.int i7), .val (.int i8), .val (.long j9), .second, .val (.ref o11), .val (.ref o12), .val (.int i13), .val (.ref o14), .unset, .unset, .unset, .unset, .unset] [])) target := by
  intro target kt
  show Steps p.tables e below (T0.setTop (mkF m 134 #[.val (.int i0), .val (.int i1), .val (.int i2), .val (.int i3), .val (.int i4), .val (.int i5), .val (.int i6), .val (.int i7), .val (.int i8), .val (.long j9), .second, .val (.ref o11), .val (.ref o12), .val (.int i13), .val (.ref o14), .unset, .unset, .unset, .unset, .unset] [])) _
  refine XS.iload X0.here hx rfl (hb hby at_134) rfl ?_
  show Steps p.tables e below (T0.setTop (mkF m 136 #[.val (.int i0), .val (.int i1), .val (.int i2), .val (.int i3), .val (.int i4), .val (.int i5), .val (.int i6), .val (.int i7), .val (.int i8), .val (.long j9), .second, .val (.ref o11), .val (.ref o12), .val (.int i13), .val (.ref o14), .unset, .unset, .unset, .unset, .unset] [(.int i7)])) _
  refine XS.iconst X0.here hx rfl (hb hby at_136) ?_
  show Steps p.tables e below (T0.setTop (mkF m 137 #[.val (.int i0), .val (.int i1), .val (.int i2), .val (.int i3), .val (.int i4), .val (.int i5), .val (.int i6), .val (.int i7), .val (.int i8), .val (.long j9), .second, .val (.ref o11), .val (.ref o12), .val (.int i13), .val (.ref o14), .unset, .unset, .unset, .unset, .unset] [(.int (3 : Int32)), (.int i7)])) _
  by_cases hc137 : i7 < (3 : Int32)
  · refine XS.icmpYes X0.here hx rfl (pc0 := 137) (pc' := 150) rfl (hb hby at_137) rfl (tlt hc137).1 (by decide) (by decide) ?_
    show Steps p.tables e below (T0.setTop (mkF m 150 #[.val (.int i0), .val (.int i1), .val (.int i2), .val (.int i3), .val (.int i4), .val (.int i5), .val (.int i6), .val (.int i7), .val (.int i8), .val (.long j9), .second, .val (.ref o11), .val (.ref o12), .val (.int i13), .val (.ref o14), .unset, .unset, .unset, .unset, .unset] [])) _
    refine XS.iconst X0.here hx rfl (hb hby at_150) ?_
    show Steps p.tables e below (T0.setTop (mkF m 151 #[.val (.int i0), .val (.int i1), .val (.int i2), .val (.int i3), .val (.int i4), .val (.int i5), .val (.int i6), .val (.int i7), .val (.int i8), .val (.long j9), .second, .val (.ref o11), .val (.ref o12), .val (.int i13), .val (.ref o14), .unset, .unset, .unset, .unset, .unset] [(.int (0 : Int32))])) _
    refine XS.istore X0.here hx rfl (hb hby at_151) rfl (l' := #[.val (.int i0), .val (.int i1), .val (.int i2), .val (.int i3), .val (.int i4), .val (.int i5), .val (.int i6), .val (.int i7), .val (.int i8), .val (.long j9), .second, .val (.ref o11), .val (.ref o12), .val (.int i13), .val (.ref o14), .val (.int (0 : Int32)), .unset, .unset, .unset, .unset]) rfl ?_
    rw [if_pos hc137] at kt
    exact kt
  · refine XS.icmpNo X0.here hx rfl (hb hby at_137) rfl (flt hc137).1 ?_
    show Steps p.tables e below (T0.setTop (mkF m 140 #[.val (.int i0), .val (.int i1), .val (.int i2), .val (.int i3), .val (.int i4), .val (.int i5), .val (.int i6), .val (.int i7), .val (.int i8), .val (.long j9), .second, .val (.ref o11), .val (.ref o12), .val (.int i13), .val (.ref o14), .unset, .unset, .unset, .unset, .unset] [])) _
    refine XS.iload X0.here hx rfl (hb hby at_140) rfl ?_
    show Steps p.tables e below (T0.setTop (mkF m 142 #[.val (.int i0), .val (.int i1), .val (.int i2), .val (.int i3), .val (.int i4), .val (.int i5), .val (.int i6), .val (.int i7), .val (.int i8), .val (.long j9), .second, .val (.ref o11), .val (.ref o12), .val (.int i13), .val (.ref o14), .unset, .unset, .unset, .unset, .unset] [(.int i8)])) _
    refine XS.iconst X0.here hx rfl (hb hby at_142) ?_
    show Steps p.tables e below (T0.setTop (mkF m 143 #[.val (.int i0), .val (.int i1), .val (.int i2), .val (.int i3), .val (.int i4), .val (.int i5), .val (.int i6), .val (.int i7), .val (.int i8), .val (.long j9), .second, .val (.ref o11), .val (.ref o12), .val (.int i13), .val (.ref o14), .unset, .unset, .unset, .unset, .unset] [(.int (3 : Int32)), (.int i8)])) _
    by_cases hc143 : i8 < (3 : Int32)
    · refine XS.icmpYes X0.here hx rfl (pc0 := 143) (pc' := 150) rfl (hb hby at_143) rfl (tlt hc143).1 (by decide) (by decide) ?_
      show Steps p.tables e below (T0.setTop (mkF m 150 #[.val (.int i0), .val (.int i1), .val (.int i2), .val (.int i3), .val (.int i4), .val (.int i5), .val (.int i6), .val (.int i7), .val (.int i8), .val (.long j9), .second, .val (.ref o11), .val (.ref o12), .val (.int i13), .val (.ref o14), .unset, .unset, .unset, .unset, .unset] [])) _
      refine XS.iconst X0.here hx rfl (hb hby at_150) ?_
      show Steps p.tables e below (T0.setTop (mkF m 151 #[.val (.int i0), .val (.int i1), .val (.int i2), .val (.int i3), .val (.int i4), .val (.int i5), .val (.int i6), .val (.int i7), .val (.int i8), .val (.long j9), .second, .val (.ref o11), .val (.ref o12), .val (.int i13), .val (.ref o14), .unset, .unset, .unset, .unset, .unset] [(.int (0 : Int32))])) _
      refine XS.istore X0.here hx rfl (hb hby at_151) rfl (l' := #[.val (.int i0), .val (.int i1), .val (.int i2), .val (.int i3), .val (.int i4), .val (.int i5), .val (.int i6), .val (.int i7), .val (.int i8), .val (.long j9), .second, .val (.ref o11), .val (.ref o12), .val (.int i13), .val (.ref o14), .val (.int (0 : Int32)), .unset, .unset, .unset, .unset]) rfl ?_
      rw [if_neg hc137, if_pos hc143] at kt
      exact kt
    · refine XS.icmpNo X0.here hx rfl (hb hby at_143) rfl (flt hc143).1 ?_
      show Steps p.tables e below (T0.setTop (mkF m 146 #[.val (.int i0), .val (.int i1), .val (.int i2), .val (.int i3), .val (.int i4), .val (.int i5), .val (.int i6), .val (.int i7), .val (.int i8), .val (.long j9), .second, .val (.ref o11), .val (.ref o12), .val (.int i13), .val (.ref o14), .unset, .unset, .unset, .unset, .unset] [])) _
      refine XS.iconst X0.here hx rfl (hb hby at_146) ?_
      show Steps p.tables e below (T0.setTop (mkF m 147 #[.val (.int i0), .val (.int i1), .val (.int i2), .val (.int i3), .val (.int i4), .val (.int i5), .val (.int i6), .val (.int i7), .val (.int i8), .val (.long j9), .second, .val (.ref o11), .val (.ref o12), .val (.int i13), .val (.ref o14), .unset, .unset, .unset, .unset, .unset] [(.int (1 : Int32))])) _
      refine XS.goto X0.here hx rfl (pc0 := 147) (pc' := 151) rfl (hb hby at_147) (by decide) (by decide) ?_
      show Steps p.tables e below (T0.setTop (mkF m 151 #[.val (.int i0), .val (.int i1), .val (.int i2), .val (.int i3), .val (.int i4), .val (.int i5), .val (.int i6), .val (.int i7), .val (.int i8), .val (.long j9), .second, .val (.ref o11), .val (.ref o12), .val (.int i13), .val (.ref o14), .unset, .unset, .unset, .unset, .unset] [(.int (1 : Int32))])) _
      refine XS.istore X0.here hx rfl (hb hby at_151) rfl (l' := #[.val (.int i0), .val (.int i1), .val (.int i2), .val (.int i3), .val (.int i4), .val (.int i5), .val (.int i6), .val (.int i7), .val (.int i8), .val (.long j9), .second, .val (.ref o11), .val (.ref o12), .val (.int i13), .val (.ref o14), .val (.int (1 : Int32)), .unset, .unset, .unset, .unset]) rfl ?_
      rw [if_neg hc137, if_neg hc143] at kt
      exact kt
theorem own_pnL : plainName "quartess/quartet/AnchorsCellsPinLaw" = true := by first | (simp [plainName, overriddenIn]; done) | decide +kernel
theorem own_ef0 (m : MethodId) (x0 x1 x2 x3 x4 : Int32) : entryFrame m #[(.int x0), (.int x1), (.int x2), (.int x3), (.int x4)] maxLocals = mkF m 0 #[.val (.int x0), .val (.int x1), .val (.int x2), .val (.int x3), .val (.int x4), .unset, .unset, .unset, .unset, .unset, .unset, .unset, .unset, .unset, .unset, .unset, .unset, .unset, .unset, .unset] [] := by first | (simp [entryFrame, mkF, argsToLocals, Value.category, maxLocals]; done) | rfl
def Q0 (Z : State) (h0 : Heap) (n0 : Nat) (v : Option Value) (h : Heap) (L : List Loc) : Prop := v = some (.int (1 : Int32)) ∧ Fr n0 L
theorem own_pd_LIIRAI : parseMethodDescriptor "(II)[I" = some ⟨[.int, .int], some (.array .int)⟩ := by decide +kernel
theorem own_pd_LIIRV : parseMethodDescriptor "(II)V" = some ⟨[.int, .int], none⟩ := by decide +kernel
set_option maxRecDepth 65536 in
set_option maxHeartbeats 40000000 in
theorem rm0_b (l : Launch) (Z : State) (a0 : Array Value) (hw : ∀ d ∈ tables_1, d.before a0 Z = true) (ws : List Jvm.Cond) (p1 p2 p3 p4 p5 : Int32) (h0 : Heap) (n0 : Nat) (Z0 : n0 ≤ h0.size) (hb1 : ¬ (own_big (own_r p3) (own_r p4) = (0 : Int32))) :
    MetFree l x (head1 (Jvm.Cond.code x code maxLocals ret :: ws) room_1) (fun a U => a = #[(.int p1), (.int p2), (.int p3), (.int p4), (.int p5)] ∧ Z.Warmed39 U.vm ∧ U.heap = h0) (fun _ _ _ _ _ => True) (fun _ U o U' => ∃ v L, o = .returned v ∧ Q0 Z h0 n0 v U'.heap L ∧ FrameEnd U o U' L room_1.cells room_1.slots) := by
  refine MetFree.of_bodySF (plainFor_of_name own_pnL) hisR ?_
  intro p e s m args below meth c s₁ Bd hml0 hP hK
  obtain ⟨rfl, hZ, hh⟩ := hP
  have hx := Bd.exec
  have hby := Bd.bytes
  have hml : c.maxLocals = 20 := hml0
  have hown : s.vm.findClass "quartess/quartet/AnchorsCellsPinLaw" = some m.cls := findClass_of_methodNamed Bd.named
  have hnm := (name_of_methodNamed Bd.named Bd.method).1
  have X0 : Stand p l e room_1 s m #[(.int p1), (.int p2), (.int p3), (.int p4), (.int p5)] below meth c s₁ [] 0 0 := Stand.of_body Bd
  have e0 : s₁.heap = h0 := by rw [← hh, Bd.state]; rfl
  have N0 := Fr.nil n0
  have pre0 : ∀ t, Steps p.tables e below (s₁.setTop (mkF m 0 #[.val (.int p1), .val (.int p2), .val (.int p3), .val (.int p4), .val (.int p5), .unset, .unset, .unset, .unset, .unset, .unset, .unset, .unset, .unset, .unset, .unset, .unset, .unset, .unset, .unset] [])) t → Steps p.tables e below (s₁.setTop (entryFrame m #[(.int p1), (.int p2), (.int p3), (.int p4), (.int p5)] maxLocals)) t := fun t k => castTop (own_ef0 m p1 p2 p3 p4 p5) k
  obtain ⟨R1, hR1, lR1⟩ := own_r_rng p1
  obtain ⟨C1, hC1, lC1⟩ := own_r_rng p2
  obtain ⟨R2, hR2, lR2⟩ := own_r_rng p3
  obtain ⟨C2, hC2, lC2⟩ := own_r_rng p4
  obtain ⟨T11, h11, X11, e11, E11, A11, D11, -, st11⟩ := newO X0 hx hZ hown (hw _ (List.mem_of_getElem? (i := 1) rfl)) (hw _ (List.mem_of_getElem? (i := 2) rfl)) (hw _ (List.mem_of_getElem? (i := 3) rfl)) e0 (g := (mkF m 41 #[.val (.int p1), .val (.int p2), .val (.int p3), .val (.int p4), .val (.int p5), .val (.int (own_r p1)), .val (.int (own_r p2)), .val (.int (own_r p3)), .val (.int (own_r p4)), .val (.long (own_mm p5)), .second, .unset, .unset, .unset, .unset, .unset, .unset, .unset, .unset, .unset] [])) rfl (hb hby at_41) (by decide) (by decide)
  obtain ⟨b11, g11⟩ : ∃ z, z = h0.size := ⟨_, rfl⟩
  rw [← g11] at A11 D11 st11
  have F_cells_11 : Fld Z h11 b11 "quartess/quartet/Anchors" "cells" "[I" .null := D11 (Or.inl (hw _ (List.mem_of_getElem? (i := 12) rfl))) (ty := (.array .int)) (by decide)
  have F_rowSums_11 : Fld Z h11 b11 "quartess/quartet/Anchors" "rowSums" "[J" .null := D11 (Or.inr (hw _ (List.mem_of_getElem? (i := 15) rfl))) (ty := (.array .long)) (by decide)
  have F_rowSquares_11 : Fld Z h11 b11 "quartess/quartet/Anchors" "rowSquares" "[J" .null := D11 (Or.inr (hw _ (List.mem_of_getElem? (i := 17) rfl))) (ty := (.array .long)) (by decide)
  have F_rowRest_11 : Fld Z h11 b11 "quartess/quartet/Anchors" "rowRest" "[J" .null := D11 (Or.inr (hw _ (List.mem_of_getElem? (i := 19) rfl))) (ty := (.array .long)) (by decide)
  have F_columnSums_11 : Fld Z h11 b11 "quartess/quartet/Anchors" "columnSums" "[J" .null := D11 (Or.inr (hw _ (List.mem_of_getElem? (i := 21) rfl))) (ty := (.array .long)) (by decide)
  have F_columnSquares_11 : Fld Z h11 b11 "quartess/quartet/Anchors" "columnSquares" "[J" .null := D11 (Or.inr (hw _ (List.mem_of_getElem? (i := 23) rfl))) (ty := (.array .long)) (by decide)
  have F_columnRest_11 : Fld Z h11 b11 "quartess/quartet/Anchors" "columnRest" "[J" .null := D11 (Or.inr (hw _ (List.mem_of_getElem? (i := 25) rfl))) (ty := (.array .long)) (by decide)
  have F_rows_11 : Fld Z h11 b11 "quartess/quartet/Anchors" "rows" "I" (.int (0 : Int32)) := D11 (Or.inl (hw _ (List.mem_of_getElem? (i := 32) rfl))) (ty := .int) (by decide)
  have F_columns_11 : Fld Z h11 b11 "quartess/quartet/Anchors" "columns" "I" (.int (0 : Int32)) := D11 (Or.inl (hw _ (List.mem_of_getElem? (i := 34) rfl))) (ty := .int) (by decide)
  have Zn : n0 ≤ h11.size := Nat.le_trans Z0 E11.1
  have gl : n0 ≤ b11 := Nat.le_trans Z0 (Nat.le_of_eq g11.symm)
  obtain ⟨_, _, ⟨T12, L12, k12, n12⟩, -, X12, ⟨Lc12, hQ12, l12, y12, z12⟩, st12⟩ := X11.specialBack hx (y := (⟨"quartess/quartet/Anchors", "<init>", "(II)V"⟩ : MethodName)) rfl hown (mvT hZ (hw _ (List.mem_of_getElem? (i := 4) rfl))) (mvT hZ (hw _ (List.mem_of_getElem? (i := 5) rfl))) (mvT hZ (hw _ (List.mem_of_getElem? (i := 6) rfl))) (by decide) (backOf (W := 1) (rm1 l Z a0 hw [] b11 h11 n0 Zn A11 gl F_cells_11 F_rowSums_11 F_rowSquares_11 F_rowRest_11 F_columnSums_11 F_columnSquares_11 F_columnRest_11 F_rows_11 F_columns_11) hZ (hw _ (List.mem_of_getElem? (i := 6) rfl)) (hw _ (List.mem_of_getElem? (i := 3) rfl)) (by decide) (by decide)) (g := (mkF m 47 #[.val (.int p1), .val (.int p2), .val (.int p3), .val (.int p4), .val (.int p5), .val (.int (own_r p1)), .val (.int (own_r p2)), .val (.int (own_r p3)), .val (.int (own_r p4)), .val (.long (own_mm p5)), .second, .unset, .unset, .unset, .unset, .unset, .unset, .unset, .unset, .unset] [(.int (4 : Int32)), (.int (4 : Int32)), (.ref b11), (.ref b11)])) rfl (by rw [hml]; rfl) (Steps.refl _) (a := b11) (argsL := [(.int (4 : Int32)), (.int (4 : Int32))]) (rest := [(.ref b11)]) (lenOf own_pd_LIIRV rfl) rfl (by show 2 * 0 + _ ≤ _; exact Nat.le_of_eq rfl) (hb hby at_47) (fun _ _ => ⟨rfl, e11, (by decide : 1 + 7 ≤ _), (by decide : 9 + 24 ≤ _)⟩)
  dsimp only [Pt.U, Pt.locs, Pt.cells, Pt.slots] at X12 l12 y12 z12 st12 hQ12
  subst l12 y12 z12
  obtain ⟨rfl, N12q, A12, hA12, hn12, B12⟩ := hQ12
  have N12 := Fr.app N0 N12q
  obtain ⟨cq13, kq13, q13a, q13b, q13c⟩ := isOf hZ rfl (show Exa Z T12.heap b11 "quartess/quartet/Anchors" from own_B_E B12)
  obtain ⟨_, _, ⟨T13, L13, k13, n13⟩, -, X13, ⟨Lc13, hQ13, l13, y13, z13⟩, st13⟩ := X12.virtualBack hx (y := (⟨"quartess/quartet/Anchors", "cells", "(II)[I"⟩ : MethodName)) (z := (⟨"quartess/quartet/Anchors", "cells", "(II)[I"⟩ : MethodName)) hown (mvT hZ (hw _ (List.mem_of_getElem? (i := 26) rfl))) (mvT hZ (hw _ (List.mem_of_getElem? (i := 27) rfl))) (notFace_of_selects (args := #[]) (mvT hZ (hw _ (List.mem_of_getElem? (i := 29) rfl)))) (mvT hZ (hw _ (List.mem_of_getElem? (i := 29) rfl))) (mvT hZ (hw _ (List.mem_of_getElem? (i := 28) rfl))) (by decide) (backOf (W := 0) (rm3 l Z a0 hw [] b11 A12 0 (0 : Int32) (0 : Int32) (own_r p1) (own_r p2) R1 C1 T12.heap n0 (own_B_sz B12 gl) B12 hA12 ⟨gl, hn12⟩ hR1 hC1 lR1 lC1 (by decide)) hZ (hw _ (List.mem_of_getElem? (i := 30) rfl)) (hw _ (List.mem_of_getElem? (i := 3) rfl)) (by decide) (by decide)) q13a q13c (g := (mkF m 58 #[.val (.int p1), .val (.int p2), .val (.int p3), .val (.int p4), .val (.int p5), .val (.int (own_r p1)), .val (.int (own_r p2)), .val (.int (own_r p3)), .val (.int (own_r p4)), .val (.long (own_mm p5)), .second, .val (.ref b11), .unset, .unset, .unset, .unset, .unset, .unset, .unset, .unset] [(.int (own_r p2)), (.int (own_r p1)), (.ref b11)])) rfl (by rw [hml]; rfl) (Steps.refl _) (argsL := [(.int (own_r p1)), (.int (own_r p2))]) (rest := []) (lenOf own_pd_LIIRAI rfl) rfl (by show 2 * 0 + _ ≤ _; exact Nat.le_of_eq rfl) (hb hby at_58) (fun _ _ => ⟨rfl, rfl, (by decide : 8 + 1 ≤ _), (by decide : 33 + 16 ≤ _)⟩)
  dsimp only [Pt.U, Pt.locs, Pt.cells, Pt.slots] at X13 l13 y13 z13 st13 hQ13
  subst l13 y13 z13
  obtain ⟨A13, M13, rfl, N13q, hA13, hn13, B13, le13, lm13, eq13⟩ := hQ13
  have N13 := Fr.app N12 N13q
  obtain ⟨cq14, kq14, q14a, q14b, q14c⟩ := isOf hZ rfl (show Exa Z T13.heap b11 "quartess/quartet/Anchors" from own_B_E B13)
  obtain ⟨_, _, ⟨T14, L14, k14, n14⟩, -, X14, ⟨Lc14, hQ14, l14, y14, z14⟩, st14⟩ := X13.virtualBack hx (y := (⟨"quartess/quartet/Anchors", "cells", "(II)[I"⟩ : MethodName)) (z := (⟨"quartess/quartet/Anchors", "cells", "(II)[I"⟩ : MethodName)) hown (mvT hZ (hw _ (List.mem_of_getElem? (i := 26) rfl))) (mvT hZ (hw _ (List.mem_of_getElem? (i := 27) rfl))) (notFace_of_selects (args := #[]) (mvT hZ (hw _ (List.mem_of_getElem? (i := 29) rfl)))) (mvT hZ (hw _ (List.mem_of_getElem? (i := 29) rfl))) (mvT hZ (hw _ (List.mem_of_getElem? (i := 28) rfl))) (by decide) (backOf (W := 0) (rm3 l Z a0 hw [] b11 A13 M13 (own_r p1) (own_r p2) (own_r p3) (own_r p4) R2 C2 T13.heap n0 (own_B_sz B13 gl) B13 hA13 hn13 hR2 hC2 lR2 lC2 lm13) hZ (hw _ (List.mem_of_getElem? (i := 30) rfl)) (hw _ (List.mem_of_getElem? (i := 3) rfl)) (by decide) (by decide)) q14a q14c (g := (mkF m 92 #[.val (.int p1), .val (.int p2), .val (.int p3), .val (.int p4), .val (.int p5), .val (.int (own_r p1)), .val (.int (own_r p2)), .val (.int (own_r p3)), .val (.int (own_r p4)), .val (.long (own_mm p5)), .second, .val (.ref b11), .val (.ref (A13 0)), .val (.int (own_i M13)), .unset, .unset, .unset, .unset, .unset, .unset] [(.int (own_r p4)), (.int (own_r p3)), (.ref b11)])) rfl (by rw [hml]; rfl) (Steps.refl _) (argsL := [(.int (own_r p3)), (.int (own_r p4))]) (rest := []) (lenOf own_pd_LIIRAI rfl) rfl (by show 2 * 0 + _ ≤ _; exact Nat.le_of_eq rfl) (hb hby at_92) (fun _ _ => ⟨rfl, rfl, (by decide : 9 + 1 ≤ _), (by decide : 49 + 16 ≤ _)⟩)
  dsimp only [Pt.U, Pt.locs, Pt.cells, Pt.slots] at X14 l14 y14 z14 st14 hQ14
  subst l14 y14 z14
  obtain ⟨A14, M14, rfl, N14q, hA14, hn14, B14, le14, lm14, eq14⟩ := hQ14
  have N14 := Fr.app N13 N14q
  have br : ∀ target, Steps p.tables e below (T14.setTop (mkF m 134 #[.val (.int p1), .val (.int p2), .val (.int p3), .val (.int p4), .val (.int p5), .val (.int (own_r p1)), .val (.int (own_r p2)), .val (.int (own_r p3)), .val (.int (own_r p4)), .val (.long (own_mm p5)), .second, .val (.ref b11), .val (.ref (A13 0)), .val (.int (own_i M13)), .val (.ref (A14 0)), .unset, .unset, .unset, .unset, .unset] [])) target → Steps p.tables e below (T14.setTop (mkF m 122 #[.val (.int p1), .val (.int p2), .val (.int p3), .val (.int p4), .val (.int p5), .val (.int (own_r p1)), .val (.int (own_r p2)), .val (.int (own_r p3)), .val (.int (own_r p4)), .val (.long (own_mm p5)), .second, .val (.ref b11), .val (.ref (A13 0)), .val (.int (own_i M13)), .val (.ref (A14 0)), .unset, .unset, .unset, .unset, .unset] [(.int ((own_r p3) * (own_r p4))), (.int (own_i M13))])) target := by
    intro target kt
    by_cases hc122 : (own_i M13) < ((own_r p3) * (own_r p4))
    · refine XS.icmpYes X14.here hx rfl (pc0 := 122) (pc' := 134) rfl (hb hby at_122) rfl (tlt hc122).1 (by decide) (by decide) ?_
      exact kt
    · refine XS.icmpNo X14.here hx rfl (hb hby at_122) rfl (flt hc122).1 ?_
      show Steps p.tables e below (T14.setTop (mkF m 125 #[.val (.int p1), .val (.int p2), .val (.int p3), .val (.int p4), .val (.int p5), .val (.int (own_r p1)), .val (.int (own_r p2)), .val (.int (own_r p3)), .val (.int (own_r p4)), .val (.long (own_mm p5)), .second, .val (.ref b11), .val (.ref (A13 0)), .val (.int (own_i M13)), .val (.ref (A14 0)), .unset, .unset, .unset, .unset, .unset] [])) _
      refine XS.aload X14.here hx rfl (hb hby at_125) rfl rfl ?_
      show Steps p.tables e below (T14.setTop (mkF m 127 #[.val (.int p1), .val (.int p2), .val (.int p3), .val (.int p4), .val (.int p5), .val (.int (own_r p1)), .val (.int (own_r p2)), .val (.int (own_r p3)), .val (.int (own_r p4)), .val (.long (own_mm p5)), .second, .val (.ref b11), .val (.ref (A13 0)), .val (.int (own_i M13)), .val (.ref (A14 0)), .unset, .unset, .unset, .unset, .unset] [(.ref (A14 0))])) _
      refine XS.aload X14.here hx rfl (hb hby at_127) rfl rfl ?_
      show Steps p.tables e below (T14.setTop (mkF m 129 #[.val (.int p1), .val (.int p2), .val (.int p3), .val (.int p4), .val (.int p5), .val (.int (own_r p1)), .val (.int (own_r p2)), .val (.int (own_r p3)), .val (.int (own_r p4)), .val (.long (own_mm p5)), .second, .val (.ref b11), .val (.ref (A13 0)), .val (.int (own_i M13)), .val (.ref (A14 0)), .unset, .unset, .unset, .unset, .unset] [(.ref (A13 0)), (.ref (A14 0))])) _
      have hsame : A14 0 = A13 0 := eq14 (by have w : ¬ (M13 < R2 * C2) := fun z => hc122 ((own_len_ge hR2 hC2 lR2 lC2 lm13).mpr z); omega)
      refine Jvm.RoadKit.acmp (g := (mkF m 129 #[.val (.int p1), .val (.int p2), .val (.int p3), .val (.int p4), .val (.int p5), .val (.int (own_r p1)), .val (.int (own_r p2)), .val (.int (own_r p3)), .val (.int (own_r p4)), .val (.long (own_mm p5)), .second, .val (.ref b11), .val (.ref (A13 0)), .val (.int (own_i M13)), .val (.ref (A14 0)), .unset, .unset, .unset, .unset, .unset] [(.ref (A13 0)), (.ref (A14 0))])) X14 hx rfl rfl rfl (pc0 := 129) (pc' := 134) (same := true) rfl (hb hby at_129) rfl (decide_eq_true (congrArg Value.ref hsame)) (by decide) (by decide) ?_
      exact kt
  have hRC : 3 ≤ R2 ∧ 3 ≤ C2 := own_big_iff hR2 hC2 hb1
  have hRR : R2 * C2 ≤ M14 := le14
  have hCC : R2 * C2 ≥ 3 * C2 := Nat.mul_le_mul_right C2 hRC.1
  obtain ⟨T15, h15, X15, e15, W15, V15, st15⟩ := own_stI X14 hx hZ rfl (own_B_v0 B14) (i := 0) (rfl) (by omega) (g := (mkF m 170 #[.val (.int p1), .val (.int p2), .val (.int p3), .val (.int p4), .val (.int p5), .val (.int (own_r p1)), .val (.int (own_r p2)), .val (.int (own_r p3)), .val (.int (own_r p4)), .val (.long (own_mm p5)), .second, .val (.ref b11), .val (.ref (A13 0)), .val (.int (own_i M13)), .val (.ref (A14 0)), .val (.int (own_big (own_r p3) (own_r p4))), .val (.long (0 : Int64)), .second, .val (.long (0 : Int64)), .second] [(.int ((own_mm p5).toInt32)), (.int (0 : Int32)), (.ref (A14 0))])) rfl rfl (hb hby at_170)
  have N15 := Fr.snoc X15 N14 (hn14.2 0 (by decide))
  have Ba : own_B Z b11 A14 M14 (own_f1 (own_mm p5)) (own_r p3) (own_r p4) own_z own_z own_z own_z own_z own_z h15 := own_B_st0 hA14 B14 W15 V15
  obtain ⟨T16, h16, X16, e16, W16, V16, st16⟩ := own_stI X15 hx hZ e15 (own_B_v0 Ba) (own_at1 hC2 lC2) (by omega) (g := (mkF m 180 #[.val (.int p1), .val (.int p2), .val (.int p3), .val (.int p4), .val (.int p5), .val (.int (own_r p1)), .val (.int (own_r p2)), .val (.int (own_r p3)), .val (.int (own_r p4)), .val (.long (own_mm p5)), .second, .val (.ref b11), .val (.ref (A13 0)), .val (.int (own_i M13)), .val (.ref (A14 0)), .val (.int (own_big (own_r p3) (own_r p4))), .val (.long (0 : Int64)), .second, .val (.long (0 : Int64)), .second] [(.int ((own_mm p5).toInt32)), (.int ((own_r p4) + (1 : Int32))), (.ref (A14 0))])) rfl rfl (hb hby at_180)
  have N16 := Fr.snoc X16 N15 (hn14.2 0 (by decide))
  have Bb : own_B Z b11 A14 M14 (own_f2 (own_mm p5) C2) (own_r p3) (own_r p4) own_z own_z own_z own_z own_z own_z h16 := own_B_st0 hA14 Ba W16 V16
  obtain ⟨T17, h17, X17, e17, W17, V17, st17⟩ := own_stI X16 hx hZ e16 (own_B_v0 Bb) (own_at2 hC2 lC2) (by omega) (g := (mkF m 192 #[.val (.int p1), .val (.int p2), .val (.int p3), .val (.int p4), .val (.int p5), .val (.int (own_r p1)), .val (.int (own_r p2)), .val (.int (own_r p3)), .val (.int (own_r p4)), .val (.long (own_mm p5)), .second, .val (.ref b11), .val (.ref (A13 0)), .val (.int (own_i M13)), .val (.ref (A14 0)), .val (.int (own_big (own_r p3) (own_r p4))), .val (.long (0 : Int64)), .second, .val (.long (0 : Int64)), .second] [(.int ((own_mm p5).toInt32)), (.int (((2 : Int32) * (own_r p4)) + (2 : Int32))), (.ref (A14 0))])) rfl rfl (hb hby at_192)
  have N17 := Fr.snoc X17 N16 (hn14.2 0 (by decide))
  have Bd3 : own_B Z b11 A14 M14 (own_f3 (own_mm p5) C2) (own_r p3) (own_r p4) own_z own_z own_z own_z own_z own_z h17 := own_B_st0 hA14 Bb W17 V17
  obtain ⟨cq18, kq18, q18a, q18b, q18c⟩ := isOf hZ rfl (show Exa Z T17.heap b11 "quartess/quartet/Anchors" from (by rw [e17]; exact own_B_E Bd3))
  obtain ⟨_, _, ⟨T18, L18, k18, n18⟩, -, X18, ⟨Lc18, hQ18, l18, y18, z18⟩, st18⟩ := X17.virtualBack hx (y := (⟨"quartess/quartet/Anchors", "count", "(J)J"⟩ : MethodName)) (z := (⟨"quartess/quartet/Anchors", "count", "(J)J"⟩ : MethodName)) hown (mvT hZ (hw _ (List.mem_of_getElem? (i := 39) rfl))) (mvT hZ (hw _ (List.mem_of_getElem? (i := 40) rfl))) (notFace_of_selects (args := #[]) (mvT hZ (hw _ (List.mem_of_getElem? (i := 42) rfl)))) (mvT hZ (hw _ (List.mem_of_getElem? (i := 42) rfl))) (mvT hZ (hw _ (List.mem_of_getElem? (i := 41) rfl))) (by decide) (backOf (W := 0) (rm5 l Z a0 hw [] b11 A14 M14 (own_f3 (own_mm p5) C2) (own_r p3) (own_r p4) R2 C2 ((3 : Int64) * (own_mm p5)) h17 n0 (own_B_sz Bd3 gl) Bd3 hA14 hn14 hR2 hC2 lR2 lC2 le14) hZ (hw _ (List.mem_of_getElem? (i := 43) rfl)) (hw _ (List.mem_of_getElem? (i := 3) rfl)) (by decide) (by decide)) q18a q18c (g := (mkF m 228 #[.val (.int p1), .val (.int p2), .val (.int p3), .val (.int p4), .val (.int p5), .val (.int (own_r p1)), .val (.int (own_r p2)), .val (.int (own_r p3)), .val (.int (own_r p4)), .val (.long (own_mm p5)), .second, .val (.ref b11), .val (.ref (A13 0)), .val (.int (own_i M13)), .val (.ref (A14 0)), .val (.int (own_big (own_r p3) (own_r p4))), .val (.long ((3 : Int64) * (own_mm p5))), .second, .val (.long (own_exp (own_mm p5))), .second] [(.long ((3 : Int64) * (own_mm p5))), (.ref b11)])) rfl (by rw [hml]; rfl) (Steps.refl _) (argsL := [(.long ((3 : Int64) * (own_mm p5)))]) (rest := []) (lenOf own_pd_LJRJ rfl) rfl (by show 2 * 0 + _ ≤ _; exact Nat.le_of_eq rfl) (hb hby at_228) (fun _ _ => ⟨rfl, e17, (by decide : 10 + 0 ≤ _), (by decide : 65 + 0 ≤ _)⟩)
  dsimp only [Pt.U, Pt.locs, Pt.cells, Pt.slots] at X18 l18 y18 z18 st18 hQ18
  subst l18 y18 z18
  obtain ⟨rfl, N18q⟩ := hQ18
  have N18 := Fr.app N17 N18q
  obtain ⟨fs, hr, hrun, hended, hW, hsame⟩ := X18.leave (v := some (.int (1 : Int32))) (fun h => by rw [Bd.returns] at h; cases h)
  refine ⟨_, _, pre0 _ ?_, hrun, hended, _, _, rfl, ?_, ⟨_, rfl⟩, hW, hsame.mono (by decide) (by decide)⟩
  · show Steps p.tables e below (s₁.setTop (mkF m 0 #[.val (.int p1), .val (.int p2), .val (.int p3), .val (.int p4), .val (.int p5), .unset, .unset, .unset, .unset, .unset, .unset, .unset, .unset, .unset, .unset, .unset, .unset, .unset, .unset, .unset] [])) _
    refine XS.iloadN X0.here hx rfl (hb hby at_0) rfl ?_
    show Steps p.tables e below (s₁.setTop (mkF m 1 #[.val (.int p1), .val (.int p2), .val (.int p3), .val (.int p4), .val (.int p5), .unset, .unset, .unset, .unset, .unset, .unset, .unset, .unset, .unset, .unset, .unset, .unset, .unset, .unset, .unset] [(.int p1)])) _
    refine X0.ldcInt hx hown (mvT hZ (hw _ (List.mem_of_getElem? (i := 0) rfl))) (g := (mkF m 1 #[.val (.int p1), .val (.int p2), .val (.int p3), .val (.int p4), .val (.int p5), .unset, .unset, .unset, .unset, .unset, .unset, .unset, .unset, .unset, .unset, .unset, .unset, .unset, .unset, .unset] [(.int p1)])) rfl (hb hby at_1) _ ?_
    show Steps p.tables e below (s₁.setTop (mkF m 3 #[.val (.int p1), .val (.int p2), .val (.int p3), .val (.int p4), .val (.int p5), .unset, .unset, .unset, .unset, .unset, .unset, .unset, .unset, .unset, .unset, .unset, .unset, .unset, .unset, .unset] [(.int (2147483647 : Int32)), (.int p1)])) _
    refine XS.iand X0.here hx rfl (hb hby at_3) rfl ?_
    show Steps p.tables e below (s₁.setTop (mkF m 4 #[.val (.int p1), .val (.int p2), .val (.int p3), .val (.int p4), .val (.int p5), .unset, .unset, .unset, .unset, .unset, .unset, .unset, .unset, .unset, .unset, .unset, .unset, .unset, .unset, .unset] [(.int (p1 &&& (2147483647 : Int32)))])) _
    refine XS.iconst X0.here hx rfl (hb hby at_4) ?_
    show Steps p.tables e below (s₁.setTop (mkF m 5 #[.val (.int p1), .val (.int p2), .val (.int p3), .val (.int p4), .val (.int p5), .unset, .unset, .unset, .unset, .unset, .unset, .unset, .unset, .unset, .unset, .unset, .unset, .unset, .unset, .unset] [(.int (5 : Int32)), (.int (p1 &&& (2147483647 : Int32)))])) _
    refine iremM X0 hx rfl (hb hby at_5) rfl (by decide) ?_
    show Steps p.tables e below (s₁.setTop (mkF m 6 #[.val (.int p1), .val (.int p2), .val (.int p3), .val (.int p4), .val (.int p5), .unset, .unset, .unset, .unset, .unset, .unset, .unset, .unset, .unset, .unset, .unset, .unset, .unset, .unset, .unset] [(.int ((p1 &&& (2147483647 : Int32)) % (5 : Int32)))])) _
    refine XS.istore X0.here hx rfl (hb hby at_6) rfl (l' := #[.val (.int p1), .val (.int p2), .val (.int p3), .val (.int p4), .val (.int p5), .val (.int ((p1 &&& (2147483647 : Int32)) % (5 : Int32))), .unset, .unset, .unset, .unset, .unset, .unset, .unset, .unset, .unset, .unset, .unset, .unset, .unset, .unset]) rfl ?_
    show Steps p.tables e below (s₁.setTop (mkF m 8 #[.val (.int p1), .val (.int p2), .val (.int p3), .val (.int p4), .val (.int p5), .val (.int (own_r p1)), .unset, .unset, .unset, .unset, .unset, .unset, .unset, .unset, .unset, .unset, .unset, .unset, .unset, .unset] [])) _
    refine XS.iloadN X0.here hx rfl (hb hby at_8) rfl ?_
    show Steps p.tables e below (s₁.setTop (mkF m 9 #[.val (.int p1), .val (.int p2), .val (.int p3), .val (.int p4), .val (.int p5), .val (.int (own_r p1)), .unset, .unset, .unset, .unset, .unset, .unset, .unset, .unset, .unset, .unset, .unset, .unset, .unset, .unset] [(.int p2)])) _
    refine X0.ldcInt hx hown (mvT hZ (hw _ (List.mem_of_getElem? (i := 0) rfl))) (g := (mkF m 9 #[.val (.int p1), .val (.int p2), .val (.int p3), .val (.int p4), .val (.int p5), .val (.int (own_r p1)), .unset, .unset, .unset, .unset, .unset, .unset, .unset, .unset, .unset, .unset, .unset, .unset, .unset, .unset] [(.int p2)])) rfl (hb hby at_9) _ ?_
    show Steps p.tables e below (s₁.setTop (mkF m 11 #[.val (.int p1), .val (.int p2), .val (.int p3), .val (.int p4), .val (.int p5), .val (.int (own_r p1)), .unset, .unset, .unset, .unset, .unset, .unset, .unset, .unset, .unset, .unset, .unset, .unset, .unset, .unset] [(.int (2147483647 : Int32)), (.int p2)])) _
    refine XS.iand X0.here hx rfl (hb hby at_11) rfl ?_
    show Steps p.tables e below (s₁.setTop (mkF m 12 #[.val (.int p1), .val (.int p2), .val (.int p3), .val (.int p4), .val (.int p5), .val (.int (own_r p1)), .unset, .unset, .unset, .unset, .unset, .unset, .unset, .unset, .unset, .unset, .unset, .unset, .unset, .unset] [(.int (p2 &&& (2147483647 : Int32)))])) _
    refine XS.iconst X0.here hx rfl (hb hby at_12) ?_
    show Steps p.tables e below (s₁.setTop (mkF m 13 #[.val (.int p1), .val (.int p2), .val (.int p3), .val (.int p4), .val (.int p5), .val (.int (own_r p1)), .unset, .unset, .unset, .unset, .unset, .unset, .unset, .unset, .unset, .unset, .unset, .unset, .unset, .unset] [(.int (5 : Int32)), (.int (p2 &&& (2147483647 : Int32)))])) _
    refine iremM X0 hx rfl (hb hby at_13) rfl (by decide) ?_
    show Steps p.tables e below (s₁.setTop (mkF m 14 #[.val (.int p1), .val (.int p2), .val (.int p3), .val (.int p4), .val (.int p5), .val (.int (own_r p1)), .unset, .unset, .unset, .unset, .unset, .unset, .unset, .unset, .unset, .unset, .unset, .unset, .unset, .unset] [(.int ((p2 &&& (2147483647 : Int32)) % (5 : Int32)))])) _
    refine XS.istore X0.here hx rfl (hb hby at_14) rfl (l' := #[.val (.int p1), .val (.int p2), .val (.int p3), .val (.int p4), .val (.int p5), .val (.int (own_r p1)), .val (.int ((p2 &&& (2147483647 : Int32)) % (5 : Int32))), .unset, .unset, .unset, .unset, .unset, .unset, .unset, .unset, .unset, .unset, .unset, .unset, .unset]) rfl ?_
    show Steps p.tables e below (s₁.setTop (mkF m 16 #[.val (.int p1), .val (.int p2), .val (.int p3), .val (.int p4), .val (.int p5), .val (.int (own_r p1)), .val (.int (own_r p2)), .unset, .unset, .unset, .unset, .unset, .unset, .unset, .unset, .unset, .unset, .unset, .unset, .unset] [])) _
    refine XS.iloadN X0.here hx rfl (hb hby at_16) rfl ?_
    show Steps p.tables e below (s₁.setTop (mkF m 17 #[.val (.int p1), .val (.int p2), .val (.int p3), .val (.int p4), .val (.int p5), .val (.int (own_r p1)), .val (.int (own_r p2)), .unset, .unset, .unset, .unset, .unset, .unset, .unset, .unset, .unset, .unset, .unset, .unset, .unset] [(.int p3)])) _
    refine X0.ldcInt hx hown (mvT hZ (hw _ (List.mem_of_getElem? (i := 0) rfl))) (g := (mkF m 17 #[.val (.int p1), .val (.int p2), .val (.int p3), .val (.int p4), .val (.int p5), .val (.int (own_r p1)), .val (.int (own_r p2)), .unset, .unset, .unset, .unset, .unset, .unset, .unset, .unset, .unset, .unset, .unset, .unset, .unset] [(.int p3)])) rfl (hb hby at_17) _ ?_
    show Steps p.tables e below (s₁.setTop (mkF m 19 #[.val (.int p1), .val (.int p2), .val (.int p3), .val (.int p4), .val (.int p5), .val (.int (own_r p1)), .val (.int (own_r p2)), .unset, .unset, .unset, .unset, .unset, .unset, .unset, .unset, .unset, .unset, .unset, .unset, .unset] [(.int (2147483647 : Int32)), (.int p3)])) _
    refine XS.iand X0.here hx rfl (hb hby at_19) rfl ?_
    show Steps p.tables e below (s₁.setTop (mkF m 20 #[.val (.int p1), .val (.int p2), .val (.int p3), .val (.int p4), .val (.int p5), .val (.int (own_r p1)), .val (.int (own_r p2)), .unset, .unset, .unset, .unset, .unset, .unset, .unset, .unset, .unset, .unset, .unset, .unset, .unset] [(.int (p3 &&& (2147483647 : Int32)))])) _
    refine XS.iconst X0.here hx rfl (hb hby at_20) ?_
    show Steps p.tables e below (s₁.setTop (mkF m 21 #[.val (.int p1), .val (.int p2), .val (.int p3), .val (.int p4), .val (.int p5), .val (.int (own_r p1)), .val (.int (own_r p2)), .unset, .unset, .unset, .unset, .unset, .unset, .unset, .unset, .unset, .unset, .unset, .unset, .unset] [(.int (5 : Int32)), (.int (p3 &&& (2147483647 : Int32)))])) _
    refine iremM X0 hx rfl (hb hby at_21) rfl (by decide) ?_
    show Steps p.tables e below (s₁.setTop (mkF m 22 #[.val (.int p1), .val (.int p2), .val (.int p3), .val (.int p4), .val (.int p5), .val (.int (own_r p1)), .val (.int (own_r p2)), .unset, .unset, .unset, .unset, .unset, .unset, .unset, .unset, .unset, .unset, .unset, .unset, .unset] [(.int ((p3 &&& (2147483647 : Int32)) % (5 : Int32)))])) _
    refine XS.istore X0.here hx rfl (hb hby at_22) rfl (l' := #[.val (.int p1), .val (.int p2), .val (.int p3), .val (.int p4), .val (.int p5), .val (.int (own_r p1)), .val (.int (own_r p2)), .val (.int ((p3 &&& (2147483647 : Int32)) % (5 : Int32))), .unset, .unset, .unset, .unset, .unset, .unset, .unset, .unset, .unset, .unset, .unset, .unset]) rfl ?_
    show Steps p.tables e below (s₁.setTop (mkF m 24 #[.val (.int p1), .val (.int p2), .val (.int p3), .val (.int p4), .val (.int p5), .val (.int (own_r p1)), .val (.int (own_r p2)), .val (.int (own_r p3)), .unset, .unset, .unset, .unset, .unset, .unset, .unset, .unset, .unset, .unset, .unset, .unset] [])) _
    refine XS.iloadN X0.here hx rfl (hb hby at_24) rfl ?_
    show Steps p.tables e below (s₁.setTop (mkF m 25 #[.val (.int p1), .val (.int p2), .val (.int p3), .val (.int p4), .val (.int p5), .val (.int (own_r p1)), .val (.int (own_r p2)), .val (.int (own_r p3)), .unset, .unset, .unset, .unset, .unset, .unset, .unset, .unset, .unset, .unset, .unset, .unset] [(.int p4)])) _
    refine X0.ldcInt hx hown (mvT hZ (hw _ (List.mem_of_getElem? (i := 0) rfl))) (g := (mkF m 25 #[.val (.int p1), .val (.int p2), .val (.int p3), .val (.int p4), .val (.int p5), .val (.int (own_r p1)), .val (.int (own_r p2)), .val (.int (own_r p3)), .unset, .unset, .unset, .unset, .unset, .unset, .unset, .unset, .unset, .unset, .unset, .unset] [(.int p4)])) rfl (hb hby at_25) _ ?_
    show Steps p.tables e below (s₁.setTop (mkF m 27 #[.val (.int p1), .val (.int p2), .val (.int p3), .val (.int p4), .val (.int p5), .val (.int (own_r p1)), .val (.int (own_r p2)), .val (.int (own_r p3)), .unset, .unset, .unset, .unset, .unset, .unset, .unset, .unset, .unset, .unset, .unset, .unset] [(.int (2147483647 : Int32)), (.int p4)])) _
    refine XS.iand X0.here hx rfl (hb hby at_27) rfl ?_
    show Steps p.tables e below (s₁.setTop (mkF m 28 #[.val (.int p1), .val (.int p2), .val (.int p3), .val (.int p4), .val (.int p5), .val (.int (own_r p1)), .val (.int (own_r p2)), .val (.int (own_r p3)), .unset, .unset, .unset, .unset, .unset, .unset, .unset, .unset, .unset, .unset, .unset, .unset] [(.int (p4 &&& (2147483647 : Int32)))])) _
    refine XS.iconst X0.here hx rfl (hb hby at_28) ?_
    show Steps p.tables e below (s₁.setTop (mkF m 29 #[.val (.int p1), .val (.int p2), .val (.int p3), .val (.int p4), .val (.int p5), .val (.int (own_r p1)), .val (.int (own_r p2)), .val (.int (own_r p3)), .unset, .unset, .unset, .unset, .unset, .unset, .unset, .unset, .unset, .unset, .unset, .unset] [(.int (5 : Int32)), (.int (p4 &&& (2147483647 : Int32)))])) _
    refine iremM X0 hx rfl (hb hby at_29) rfl (by decide) ?_
    show Steps p.tables e below (s₁.setTop (mkF m 30 #[.val (.int p1), .val (.int p2), .val (.int p3), .val (.int p4), .val (.int p5), .val (.int (own_r p1)), .val (.int (own_r p2)), .val (.int (own_r p3)), .unset, .unset, .unset, .unset, .unset, .unset, .unset, .unset, .unset, .unset, .unset, .unset] [(.int ((p4 &&& (2147483647 : Int32)) % (5 : Int32)))])) _
    refine XS.istore X0.here hx rfl (hb hby at_30) rfl (l' := #[.val (.int p1), .val (.int p2), .val (.int p3), .val (.int p4), .val (.int p5), .val (.int (own_r p1)), .val (.int (own_r p2)), .val (.int (own_r p3)), .val (.int ((p4 &&& (2147483647 : Int32)) % (5 : Int32))), .unset, .unset, .unset, .unset, .unset, .unset, .unset, .unset, .unset, .unset, .unset]) rfl ?_
    show Steps p.tables e below (s₁.setTop (mkF m 32 #[.val (.int p1), .val (.int p2), .val (.int p3), .val (.int p4), .val (.int p5), .val (.int (own_r p1)), .val (.int (own_r p2)), .val (.int (own_r p3)), .val (.int (own_r p4)), .unset, .unset, .unset, .unset, .unset, .unset, .unset, .unset, .unset, .unset, .unset] [])) _
    refine XS.iload X0.here hx rfl (hb hby at_32) rfl ?_
    show Steps p.tables e below (s₁.setTop (mkF m 34 #[.val (.int p1), .val (.int p2), .val (.int p3), .val (.int p4), .val (.int p5), .val (.int (own_r p1)), .val (.int (own_r p2)), .val (.int (own_r p3)), .val (.int (own_r p4)), .unset, .unset, .unset, .unset, .unset, .unset, .unset, .unset, .unset, .unset, .unset] [(.int p5)])) _
    refine XS.sipush X0.here hx rfl (hb hby at_34) ?_
    show Steps p.tables e below (s₁.setTop (mkF m 37 #[.val (.int p1), .val (.int p2), .val (.int p3), .val (.int p4), .val (.int p5), .val (.int (own_r p1)), .val (.int (own_r p2)), .val (.int (own_r p3)), .val (.int (own_r p4)), .unset, .unset, .unset, .unset, .unset, .unset, .unset, .unset, .unset, .unset, .unset] [(.int (1023 : Int32)), (.int p5)])) _
    refine XS.iand X0.here hx rfl (hb hby at_37) rfl ?_
    show Steps p.tables e below (s₁.setTop (mkF m 38 #[.val (.int p1), .val (.int p2), .val (.int p3), .val (.int p4), .val (.int p5), .val (.int (own_r p1)), .val (.int (own_r p2)), .val (.int (own_r p3)), .val (.int (own_r p4)), .unset, .unset, .unset, .unset, .unset, .unset, .unset, .unset, .unset, .unset, .unset] [(.int (p5 &&& (1023 : Int32)))])) _
    refine XS.i2l X0.here hx rfl (hb hby at_38) rfl ?_
    show Steps p.tables e below (s₁.setTop (mkF m 39 #[.val (.int p1), .val (.int p2), .val (.int p3), .val (.int p4), .val (.int p5), .val (.int (own_r p1)), .val (.int (own_r p2)), .val (.int (own_r p3)), .val (.int (own_r p4)), .unset, .unset, .unset, .unset, .unset, .unset, .unset, .unset, .unset, .unset, .unset] [(.long ((p5 &&& (1023 : Int32)).toInt64))])) _
    refine XS.lstore X0.here hx rfl (hb hby at_39) rfl (l' := #[.val (.int p1), .val (.int p2), .val (.int p3), .val (.int p4), .val (.int p5), .val (.int (own_r p1)), .val (.int (own_r p2)), .val (.int (own_r p3)), .val (.int (own_r p4)), .val (.long ((p5 &&& (1023 : Int32)).toInt64)), .second, .unset, .unset, .unset, .unset, .unset, .unset, .unset, .unset, .unset]) rfl ?_
    show Steps p.tables e below (s₁.setTop (mkF m 41 #[.val (.int p1), .val (.int p2), .val (.int p3), .val (.int p4), .val (.int p5), .val (.int (own_r p1)), .val (.int (own_r p2)), .val (.int (own_r p3)), .val (.int (own_r p4)), .val (.long (own_mm p5)), .second, .unset, .unset, .unset, .unset, .unset, .unset, .unset, .unset, .unset] [])) _
    refine st11 _ ?_
    show Steps p.tables e below (T11.setTop (mkF m 44 #[.val (.int p1), .val (.int p2), .val (.int p3), .val (.int p4), .val (.int p5), .val (.int (own_r p1)), .val (.int (own_r p2)), .val (.int (own_r p3)), .val (.int (own_r p4)), .val (.long (own_mm p5)), .second, .unset, .unset, .unset, .unset, .unset, .unset, .unset, .unset, .unset] [(.ref b11)])) _
    refine XS.dup X11.here hx rfl (hb hby at_44) rfl rfl ?_
    show Steps p.tables e below (T11.setTop (mkF m 45 #[.val (.int p1), .val (.int p2), .val (.int p3), .val (.int p4), .val (.int p5), .val (.int (own_r p1)), .val (.int (own_r p2)), .val (.int (own_r p3)), .val (.int (own_r p4)), .val (.long (own_mm p5)), .second, .unset, .unset, .unset, .unset, .unset, .unset, .unset, .unset, .unset] [(.ref b11), (.ref b11)])) _
    refine XS.iconst X11.here hx rfl (hb hby at_45) ?_
    show Steps p.tables e below (T11.setTop (mkF m 46 #[.val (.int p1), .val (.int p2), .val (.int p3), .val (.int p4), .val (.int p5), .val (.int (own_r p1)), .val (.int (own_r p2)), .val (.int (own_r p3)), .val (.int (own_r p4)), .val (.long (own_mm p5)), .second, .unset, .unset, .unset, .unset, .unset, .unset, .unset, .unset, .unset] [(.int (4 : Int32)), (.ref b11), (.ref b11)])) _
    refine XS.iconst X11.here hx rfl (hb hby at_46) ?_
    show Steps p.tables e below (T11.setTop (mkF m 47 #[.val (.int p1), .val (.int p2), .val (.int p3), .val (.int p4), .val (.int p5), .val (.int (own_r p1)), .val (.int (own_r p2)), .val (.int (own_r p3)), .val (.int (own_r p4)), .val (.long (own_mm p5)), .second, .unset, .unset, .unset, .unset, .unset, .unset, .unset, .unset, .unset] [(.int (4 : Int32)), (.int (4 : Int32)), (.ref b11), (.ref b11)])) _
    refine st12.trans ?_
    show Steps p.tables e below (T12.setTop (mkF m 50 #[.val (.int p1), .val (.int p2), .val (.int p3), .val (.int p4), .val (.int p5), .val (.int (own_r p1)), .val (.int (own_r p2)), .val (.int (own_r p3)), .val (.int (own_r p4)), .val (.long (own_mm p5)), .second, .unset, .unset, .unset, .unset, .unset, .unset, .unset, .unset, .unset] [(.ref b11)])) _
    refine XS.astore X12.here hx rfl (hb hby at_50) rfl rfl (l' := #[.val (.int p1), .val (.int p2), .val (.int p3), .val (.int p4), .val (.int p5), .val (.int (own_r p1)), .val (.int (own_r p2)), .val (.int (own_r p3)), .val (.int (own_r p4)), .val (.long (own_mm p5)), .second, .val (.ref b11), .unset, .unset, .unset, .unset, .unset, .unset, .unset, .unset]) rfl ?_
    show Steps p.tables e below (T12.setTop (mkF m 52 #[.val (.int p1), .val (.int p2), .val (.int p3), .val (.int p4), .val (.int p5), .val (.int (own_r p1)), .val (.int (own_r p2)), .val (.int (own_r p3)), .val (.int (own_r p4)), .val (.long (own_mm p5)), .second, .val (.ref b11), .unset, .unset, .unset, .unset, .unset, .unset, .unset, .unset] [])) _
    refine XS.aload X12.here hx rfl (hb hby at_52) rfl rfl ?_
    show Steps p.tables e below (T12.setTop (mkF m 54 #[.val (.int p1), .val (.int p2), .val (.int p3), .val (.int p4), .val (.int p5), .val (.int (own_r p1)), .val (.int (own_r p2)), .val (.int (own_r p3)), .val (.int (own_r p4)), .val (.long (own_mm p5)), .second, .val (.ref b11), .unset, .unset, .unset, .unset, .unset, .unset, .unset, .unset] [(.ref b11)])) _
    refine XS.iload X12.here hx rfl (hb hby at_54) rfl ?_
    show Steps p.tables e below (T12.setTop (mkF m 56 #[.val (.int p1), .val (.int p2), .val (.int p3), .val (.int p4), .val (.int p5), .val (.int (own_r p1)), .val (.int (own_r p2)), .val (.int (own_r p3)), .val (.int (own_r p4)), .val (.long (own_mm p5)), .second, .val (.ref b11), .unset, .unset, .unset, .unset, .unset, .unset, .unset, .unset] [(.int (own_r p1)), (.ref b11)])) _
    refine XS.iload X12.here hx rfl (hb hby at_56) rfl ?_
    show Steps p.tables e below (T12.setTop (mkF m 58 #[.val (.int p1), .val (.int p2), .val (.int p3), .val (.int p4), .val (.int p5), .val (.int (own_r p1)), .val (.int (own_r p2)), .val (.int (own_r p3)), .val (.int (own_r p4)), .val (.long (own_mm p5)), .second, .val (.ref b11), .unset, .unset, .unset, .unset, .unset, .unset, .unset, .unset] [(.int (own_r p2)), (.int (own_r p1)), (.ref b11)])) _
    refine st13.trans ?_
    show Steps p.tables e below (T13.setTop (mkF m 61 #[.val (.int p1), .val (.int p2), .val (.int p3), .val (.int p4), .val (.int p5), .val (.int (own_r p1)), .val (.int (own_r p2)), .val (.int (own_r p3)), .val (.int (own_r p4)), .val (.long (own_mm p5)), .second, .val (.ref b11), .unset, .unset, .unset, .unset, .unset, .unset, .unset, .unset] [(.ref (A13 0))])) _
    refine XS.astore X13.here hx rfl (hb hby at_61) rfl rfl (l' := #[.val (.int p1), .val (.int p2), .val (.int p3), .val (.int p4), .val (.int p5), .val (.int (own_r p1)), .val (.int (own_r p2)), .val (.int (own_r p3)), .val (.int (own_r p4)), .val (.long (own_mm p5)), .second, .val (.ref b11), .val (.ref (A13 0)), .unset, .unset, .unset, .unset, .unset, .unset, .unset]) rfl ?_
    show Steps p.tables e below (T13.setTop (mkF m 63 #[.val (.int p1), .val (.int p2), .val (.int p3), .val (.int p4), .val (.int p5), .val (.int (own_r p1)), .val (.int (own_r p2)), .val (.int (own_r p3)), .val (.int (own_r p4)), .val (.long (own_mm p5)), .second, .val (.ref b11), .val (.ref (A13 0)), .unset, .unset, .unset, .unset, .unset, .unset, .unset] [])) _
    refine XS.aload X13.here hx rfl (hb hby at_63) rfl rfl ?_
    show Steps p.tables e below (T13.setTop (mkF m 65 #[.val (.int p1), .val (.int p2), .val (.int p3), .val (.int p4), .val (.int p5), .val (.int (own_r p1)), .val (.int (own_r p2)), .val (.int (own_r p3)), .val (.int (own_r p4)), .val (.long (own_mm p5)), .second, .val (.ref b11), .val (.ref (A13 0)), .unset, .unset, .unset, .unset, .unset, .unset, .unset] [(.ref (A13 0))])) _
    refine XS.ifnullNo X13.here hx rfl (hb hby at_65) rfl ?_
    show Steps p.tables e below (T13.setTop (mkF m 68 #[.val (.int p1), .val (.int p2), .val (.int p3), .val (.int p4), .val (.int p5), .val (.int (own_r p1)), .val (.int (own_r p2)), .val (.int (own_r p3)), .val (.int (own_r p4)), .val (.long (own_mm p5)), .second, .val (.ref b11), .val (.ref (A13 0)), .unset, .unset, .unset, .unset, .unset, .unset, .unset] [])) _
    refine XS.aload X13.here hx rfl (hb hby at_68) rfl rfl ?_
    show Steps p.tables e below (T13.setTop (mkF m 70 #[.val (.int p1), .val (.int p2), .val (.int p3), .val (.int p4), .val (.int p5), .val (.int (own_r p1)), .val (.int (own_r p2)), .val (.int (own_r p3)), .val (.int (own_r p4)), .val (.long (own_mm p5)), .second, .val (.ref b11), .val (.ref (A13 0)), .unset, .unset, .unset, .unset, .unset, .unset, .unset] [(.ref (A13 0))])) _
    refine own_lenI X13 hx hZ rfl (own_B_v0 B13) (g := (mkF m 70 #[.val (.int p1), .val (.int p2), .val (.int p3), .val (.int p4), .val (.int p5), .val (.int (own_r p1)), .val (.int (own_r p2)), .val (.int (own_r p3)), .val (.int (own_r p4)), .val (.long (own_mm p5)), .second, .val (.ref b11), .val (.ref (A13 0)), .unset, .unset, .unset, .unset, .unset, .unset, .unset] [(.ref (A13 0))])) rfl rfl (hb hby at_70) _ ?_
    show Steps p.tables e below (T13.setTop (mkF m 71 #[.val (.int p1), .val (.int p2), .val (.int p3), .val (.int p4), .val (.int p5), .val (.int (own_r p1)), .val (.int (own_r p2)), .val (.int (own_r p3)), .val (.int (own_r p4)), .val (.long (own_mm p5)), .second, .val (.ref b11), .val (.ref (A13 0)), .unset, .unset, .unset, .unset, .unset, .unset, .unset] [(.int (own_i M13))])) _
    refine XS.iload X13.here hx rfl (hb hby at_71) rfl ?_
    show Steps p.tables e below (T13.setTop (mkF m 73 #[.val (.int p1), .val (.int p2), .val (.int p3), .val (.int p4), .val (.int p5), .val (.int (own_r p1)), .val (.int (own_r p2)), .val (.int (own_r p3)), .val (.int (own_r p4)), .val (.long (own_mm p5)), .second, .val (.ref b11), .val (.ref (A13 0)), .unset, .unset, .unset, .unset, .unset, .unset, .unset] [(.int (own_r p1)), (.int (own_i M13))])) _
    refine XS.iload X13.here hx rfl (hb hby at_73) rfl ?_
    show Steps p.tables e below (T13.setTop (mkF m 75 #[.val (.int p1), .val (.int p2), .val (.int p3), .val (.int p4), .val (.int p5), .val (.int (own_r p1)), .val (.int (own_r p2)), .val (.int (own_r p3)), .val (.int (own_r p4)), .val (.long (own_mm p5)), .second, .val (.ref b11), .val (.ref (A13 0)), .unset, .unset, .unset, .unset, .unset, .unset, .unset] [(.int (own_r p2)), (.int (own_r p1)), (.int (own_i M13))])) _
    refine XS.imul X13.here hx rfl (hb hby at_75) rfl ?_
    show Steps p.tables e below (T13.setTop (mkF m 76 #[.val (.int p1), .val (.int p2), .val (.int p3), .val (.int p4), .val (.int p5), .val (.int (own_r p1)), .val (.int (own_r p2)), .val (.int (own_r p3)), .val (.int (own_r p4)), .val (.long (own_mm p5)), .second, .val (.ref b11), .val (.ref (A13 0)), .unset, .unset, .unset, .unset, .unset, .unset, .unset] [(.int ((own_r p1) * (own_r p2))), (.int (own_i M13))])) _
    refine XS.icmpYes X13.here hx rfl (pc0 := 76) (pc' := 81) rfl (hb hby at_76) rfl (flt (fun w => absurd ((own_len_ge hR1 hC1 lR1 lC1 lm13).mp w) (by omega) : ¬ ((own_i M13) < ((own_r p1) * (own_r p2))))).2.1 (by decide) (by decide) ?_
    show Steps p.tables e below (T13.setTop (mkF m 81 #[.val (.int p1), .val (.int p2), .val (.int p3), .val (.int p4), .val (.int p5), .val (.int (own_r p1)), .val (.int (own_r p2)), .val (.int (own_r p3)), .val (.int (own_r p4)), .val (.long (own_mm p5)), .second, .val (.ref b11), .val (.ref (A13 0)), .unset, .unset, .unset, .unset, .unset, .unset, .unset] [])) _
    refine XS.aload X13.here hx rfl (hb hby at_81) rfl rfl ?_
    show Steps p.tables e below (T13.setTop (mkF m 83 #[.val (.int p1), .val (.int p2), .val (.int p3), .val (.int p4), .val (.int p5), .val (.int (own_r p1)), .val (.int (own_r p2)), .val (.int (own_r p3)), .val (.int (own_r p4)), .val (.long (own_mm p5)), .second, .val (.ref b11), .val (.ref (A13 0)), .unset, .unset, .unset, .unset, .unset, .unset, .unset] [(.ref (A13 0))])) _
    refine own_lenI X13 hx hZ rfl (own_B_v0 B13) (g := (mkF m 83 #[.val (.int p1), .val (.int p2), .val (.int p3), .val (.int p4), .val (.int p5), .val (.int (own_r p1)), .val (.int (own_r p2)), .val (.int (own_r p3)), .val (.int (own_r p4)), .val (.long (own_mm p5)), .second, .val (.ref b11), .val (.ref (A13 0)), .unset, .unset, .unset, .unset, .unset, .unset, .unset] [(.ref (A13 0))])) rfl rfl (hb hby at_83) _ ?_
    show Steps p.tables e below (T13.setTop (mkF m 84 #[.val (.int p1), .val (.int p2), .val (.int p3), .val (.int p4), .val (.int p5), .val (.int (own_r p1)), .val (.int (own_r p2)), .val (.int (own_r p3)), .val (.int (own_r p4)), .val (.long (own_mm p5)), .second, .val (.ref b11), .val (.ref (A13 0)), .unset, .unset, .unset, .unset, .unset, .unset, .unset] [(.int (own_i M13))])) _
    refine XS.istore X13.here hx rfl (hb hby at_84) rfl (l' := #[.val (.int p1), .val (.int p2), .val (.int p3), .val (.int p4), .val (.int p5), .val (.int (own_r p1)), .val (.int (own_r p2)), .val (.int (own_r p3)), .val (.int (own_r p4)), .val (.long (own_mm p5)), .second, .val (.ref b11), .val (.ref (A13 0)), .val (.int (own_i M13)), .unset, .unset, .unset, .unset, .unset, .unset]) rfl ?_
    show Steps p.tables e below (T13.setTop (mkF m 86 #[.val (.int p1), .val (.int p2), .val (.int p3), .val (.int p4), .val (.int p5), .val (.int (own_r p1)), .val (.int (own_r p2)), .val (.int (own_r p3)), .val (.int (own_r p4)), .val (.long (own_mm p5)), .second, .val (.ref b11), .val (.ref (A13 0)), .val (.int (own_i M13)), .unset, .unset, .unset, .unset, .unset, .unset] [])) _
    refine XS.aload X13.here hx rfl (hb hby at_86) rfl rfl ?_
    show Steps p.tables e below (T13.setTop (mkF m 88 #[.val (.int p1), .val (.int p2), .val (.int p3), .val (.int p4), .val (.int p5), .val (.int (own_r p1)), .val (.int (own_r p2)), .val (.int (own_r p3)), .val (.int (own_r p4)), .val (.long (own_mm p5)), .second, .val (.ref b11), .val (.ref (A13 0)), .val (.int (own_i M13)), .unset, .unset, .unset, .unset, .unset, .unset] [(.ref b11)])) _
    refine XS.iload X13.here hx rfl (hb hby at_88) rfl ?_
    show Steps p.tables e below (T13.setTop (mkF m 90 #[.val (.int p1), .val (.int p2), .val (.int p3), .val (.int p4), .val (.int p5), .val (.int (own_r p1)), .val (.int (own_r p2)), .val (.int (own_r p3)), .val (.int (own_r p4)), .val (.long (own_mm p5)), .second, .val (.ref b11), .val (.ref (A13 0)), .val (.int (own_i M13)), .unset, .unset, .unset, .unset, .unset, .unset] [(.int (own_r p3)), (.ref b11)])) _
    refine XS.iload X13.here hx rfl (hb hby at_90) rfl ?_
    show Steps p.tables e below (T13.setTop (mkF m 92 #[.val (.int p1), .val (.int p2), .val (.int p3), .val (.int p4), .val (.int p5), .val (.int (own_r p1)), .val (.int (own_r p2)), .val (.int (own_r p3)), .val (.int (own_r p4)), .val (.long (own_mm p5)), .second, .val (.ref b11), .val (.ref (A13 0)), .val (.int (own_i M13)), .unset, .unset, .unset, .unset, .unset, .unset] [(.int (own_r p4)), (.int (own_r p3)), (.ref b11)])) _
    refine st14.trans ?_
    show Steps p.tables e below (T14.setTop (mkF m 95 #[.val (.int p1), .val (.int p2), .val (.int p3), .val (.int p4), .val (.int p5), .val (.int (own_r p1)), .val (.int (own_r p2)), .val (.int (own_r p3)), .val (.int (own_r p4)), .val (.long (own_mm p5)), .second, .val (.ref b11), .val (.ref (A13 0)), .val (.int (own_i M13)), .unset, .unset, .unset, .unset, .unset, .unset] [(.ref (A14 0))])) _
    refine XS.astore X14.here hx rfl (hb hby at_95) rfl rfl (l' := #[.val (.int p1), .val (.int p2), .val (.int p3), .val (.int p4), .val (.int p5), .val (.int (own_r p1)), .val (.int (own_r p2)), .val (.int (own_r p3)), .val (.int (own_r p4)), .val (.long (own_mm p5)), .second, .val (.ref b11), .val (.ref (A13 0)), .val (.int (own_i M13)), .val (.ref (A14 0)), .unset, .unset, .unset, .unset, .unset]) rfl ?_
    show Steps p.tables e below (T14.setTop (mkF m 97 #[.val (.int p1), .val (.int p2), .val (.int p3), .val (.int p4), .val (.int p5), .val (.int (own_r p1)), .val (.int (own_r p2)), .val (.int (own_r p3)), .val (.int (own_r p4)), .val (.long (own_mm p5)), .second, .val (.ref b11), .val (.ref (A13 0)), .val (.int (own_i M13)), .val (.ref (A14 0)), .unset, .unset, .unset, .unset, .unset] [])) _
    refine XS.aload X14.here hx rfl (hb hby at_97) rfl rfl ?_
    show Steps p.tables e below (T14.setTop (mkF m 99 #[.val (.int p1), .val (.int p2), .val (.int p3), .val (.int p4), .val (.int p5), .val (.int (own_r p1)), .val (.int (own_r p2)), .val (.int (own_r p3)), .val (.int (own_r p4)), .val (.long (own_mm p5)), .second, .val (.ref b11), .val (.ref (A13 0)), .val (.int (own_i M13)), .val (.ref (A14 0)), .unset, .unset, .unset, .unset, .unset] [(.ref (A14 0))])) _
    refine XS.ifnullNo X14.here hx rfl (hb hby at_99) rfl ?_
    show Steps p.tables e below (T14.setTop (mkF m 102 #[.val (.int p1), .val (.int p2), .val (.int p3), .val (.int p4), .val (.int p5), .val (.int (own_r p1)), .val (.int (own_r p2)), .val (.int (own_r p3)), .val (.int (own_r p4)), .val (.long (own_mm p5)), .second, .val (.ref b11), .val (.ref (A13 0)), .val (.int (own_i M13)), .val (.ref (A14 0)), .unset, .unset, .unset, .unset, .unset] [])) _
    refine XS.aload X14.here hx rfl (hb hby at_102) rfl rfl ?_
    show Steps p.tables e below (T14.setTop (mkF m 104 #[.val (.int p1), .val (.int p2), .val (.int p3), .val (.int p4), .val (.int p5), .val (.int (own_r p1)), .val (.int (own_r p2)), .val (.int (own_r p3)), .val (.int (own_r p4)), .val (.long (own_mm p5)), .second, .val (.ref b11), .val (.ref (A13 0)), .val (.int (own_i M13)), .val (.ref (A14 0)), .unset, .unset, .unset, .unset, .unset] [(.ref (A14 0))])) _
    refine own_lenI X14 hx hZ rfl (own_B_v0 B14) (g := (mkF m 104 #[.val (.int p1), .val (.int p2), .val (.int p3), .val (.int p4), .val (.int p5), .val (.int (own_r p1)), .val (.int (own_r p2)), .val (.int (own_r p3)), .val (.int (own_r p4)), .val (.long (own_mm p5)), .second, .val (.ref b11), .val (.ref (A13 0)), .val (.int (own_i M13)), .val (.ref (A14 0)), .unset, .unset, .unset, .unset, .unset] [(.ref (A14 0))])) rfl rfl (hb hby at_104) _ ?_
    show Steps p.tables e below (T14.setTop (mkF m 105 #[.val (.int p1), .val (.int p2), .val (.int p3), .val (.int p4), .val (.int p5), .val (.int (own_r p1)), .val (.int (own_r p2)), .val (.int (own_r p3)), .val (.int (own_r p4)), .val (.long (own_mm p5)), .second, .val (.ref b11), .val (.ref (A13 0)), .val (.int (own_i M13)), .val (.ref (A14 0)), .unset, .unset, .unset, .unset, .unset] [(.int (own_i M14))])) _
    refine XS.iload X14.here hx rfl (hb hby at_105) rfl ?_
    show Steps p.tables e below (T14.setTop (mkF m 107 #[.val (.int p1), .val (.int p2), .val (.int p3), .val (.int p4), .val (.int p5), .val (.int (own_r p1)), .val (.int (own_r p2)), .val (.int (own_r p3)), .val (.int (own_r p4)), .val (.long (own_mm p5)), .second, .val (.ref b11), .val (.ref (A13 0)), .val (.int (own_i M13)), .val (.ref (A14 0)), .unset, .unset, .unset, .unset, .unset] [(.int (own_r p3)), (.int (own_i M14))])) _
    refine XS.iload X14.here hx rfl (hb hby at_107) rfl ?_
    show Steps p.tables e below (T14.setTop (mkF m 109 #[.val (.int p1), .val (.int p2), .val (.int p3), .val (.int p4), .val (.int p5), .val (.int (own_r p1)), .val (.int (own_r p2)), .val (.int (own_r p3)), .val (.int (own_r p4)), .val (.long (own_mm p5)), .second, .val (.ref b11), .val (.ref (A13 0)), .val (.int (own_i M13)), .val (.ref (A14 0)), .unset, .unset, .unset, .unset, .unset] [(.int (own_r p4)), (.int (own_r p3)), (.int (own_i M14))])) _
    refine XS.imul X14.here hx rfl (hb hby at_109) rfl ?_
    show Steps p.tables e below (T14.setTop (mkF m 110 #[.val (.int p1), .val (.int p2), .val (.int p3), .val (.int p4), .val (.int p5), .val (.int (own_r p1)), .val (.int (own_r p2)), .val (.int (own_r p3)), .val (.int (own_r p4)), .val (.long (own_mm p5)), .second, .val (.ref b11), .val (.ref (A13 0)), .val (.int (own_i M13)), .val (.ref (A14 0)), .unset, .unset, .unset, .unset, .unset] [(.int ((own_r p3) * (own_r p4))), (.int (own_i M14))])) _
    refine XS.icmpYes X14.here hx rfl (pc0 := 110) (pc' := 115) rfl (hb hby at_110) rfl (flt (fun w => absurd ((own_len_ge hR2 hC2 lR2 lC2 lm14).mp w) (by omega) : ¬ ((own_i M14) < ((own_r p3) * (own_r p4))))).2.1 (by decide) (by decide) ?_
    show Steps p.tables e below (T14.setTop (mkF m 115 #[.val (.int p1), .val (.int p2), .val (.int p3), .val (.int p4), .val (.int p5), .val (.int (own_r p1)), .val (.int (own_r p2)), .val (.int (own_r p3)), .val (.int (own_r p4)), .val (.long (own_mm p5)), .second, .val (.ref b11), .val (.ref (A13 0)), .val (.int (own_i M13)), .val (.ref (A14 0)), .unset, .unset, .unset, .unset, .unset] [])) _
    refine XS.iload X14.here hx rfl (hb hby at_115) rfl ?_
    show Steps p.tables e below (T14.setTop (mkF m 117 #[.val (.int p1), .val (.int p2), .val (.int p3), .val (.int p4), .val (.int p5), .val (.int (own_r p1)), .val (.int (own_r p2)), .val (.int (own_r p3)), .val (.int (own_r p4)), .val (.long (own_mm p5)), .second, .val (.ref b11), .val (.ref (A13 0)), .val (.int (own_i M13)), .val (.ref (A14 0)), .unset, .unset, .unset, .unset, .unset] [(.int (own_i M13))])) _
    refine XS.iload X14.here hx rfl (hb hby at_117) rfl ?_
    show Steps p.tables e below (T14.setTop (mkF m 119 #[.val (.int p1), .val (.int p2), .val (.int p3), .val (.int p4), .val (.int p5), .val (.int (own_r p1)), .val (.int (own_r p2)), .val (.int (own_r p3)), .val (.int (own_r p4)), .val (.long (own_mm p5)), .second, .val (.ref b11), .val (.ref (A13 0)), .val (.int (own_i M13)), .val (.ref (A14 0)), .unset, .unset, .unset, .unset, .unset] [(.int (own_r p3)), (.int (own_i M13))])) _
    refine XS.iload X14.here hx rfl (hb hby at_119) rfl ?_
    show Steps p.tables e below (T14.setTop (mkF m 121 #[.val (.int p1), .val (.int p2), .val (.int p3), .val (.int p4), .val (.int p5), .val (.int (own_r p1)), .val (.int (own_r p2)), .val (.int (own_r p3)), .val (.int (own_r p4)), .val (.long (own_mm p5)), .second, .val (.ref b11), .val (.ref (A13 0)), .val (.int (own_i M13)), .val (.ref (A14 0)), .unset, .unset, .unset, .unset, .unset] [(.int (own_r p4)), (.int (own_r p3)), (.int (own_i M13))])) _
    refine XS.imul X14.here hx rfl (hb hby at_121) rfl ?_
    show Steps p.tables e below (T14.setTop (mkF m 122 #[.val (.int p1), .val (.int p2), .val (.int p3), .val (.int p4), .val (.int p5), .val (.int (own_r p1)), .val (.int (own_r p2)), .val (.int (own_r p3)), .val (.int (own_r p4)), .val (.long (own_mm p5)), .second, .val (.ref b11), .val (.ref (A13 0)), .val (.int (own_i M13)), .val (.ref (A14 0)), .unset, .unset, .unset, .unset, .unset] [(.int ((own_r p3) * (own_r p4))), (.int (own_i M13))])) _
    refine br _ ?_
    show Steps p.tables e below (T14.setTop (mkF m 134 #[.val (.int p1), .val (.int p2), .val (.int p3), .val (.int p4), .val (.int p5), .val (.int (own_r p1)), .val (.int (own_r p2)), .val (.int (own_r p3)), .val (.int (own_r p4)), .val (.long (own_mm p5)), .second, .val (.ref b11), .val (.ref (A13 0)), .val (.int (own_i M13)), .val (.ref (A14 0)), .unset, .unset, .unset, .unset, .unset] [])) _
    refine tn0_134_153 X14 hx hZ hw hby hown _ ?_
    show Steps p.tables e below (T14.setTop (mkF m 153 #[.val (.int p1), .val (.int p2), .val (.int p3), .val (.int p4), .val (.int p5), .val (.int (own_r p1)), .val (.int (own_r p2)), .val (.int (own_r p3)), .val (.int (own_r p4)), .val (.long (own_mm p5)), .second, .val (.ref b11), .val (.ref (A13 0)), .val (.int (own_i M13)), .val (.ref (A14 0)), .val (.int (own_big (own_r p3) (own_r p4))), .unset, .unset, .unset, .unset] [])) _
    refine XS.lconst X14.here hx rfl (hb hby at_153) ?_
    show Steps p.tables e below (T14.setTop (mkF m 154 #[.val (.int p1), .val (.int p2), .val (.int p3), .val (.int p4), .val (.int p5), .val (.int (own_r p1)), .val (.int (own_r p2)), .val (.int (own_r p3)), .val (.int (own_r p4)), .val (.long (own_mm p5)), .second, .val (.ref b11), .val (.ref (A13 0)), .val (.int (own_i M13)), .val (.ref (A14 0)), .val (.int (own_big (own_r p3) (own_r p4))), .unset, .unset, .unset, .unset] [(.long (0 : Int64))])) _
    refine XS.lstore X14.here hx rfl (hb hby at_154) rfl (l' := #[.val (.int p1), .val (.int p2), .val (.int p3), .val (.int p4), .val (.int p5), .val (.int (own_r p1)), .val (.int (own_r p2)), .val (.int (own_r p3)), .val (.int (own_r p4)), .val (.long (own_mm p5)), .second, .val (.ref b11), .val (.ref (A13 0)), .val (.int (own_i M13)), .val (.ref (A14 0)), .val (.int (own_big (own_r p3) (own_r p4))), .val (.long (0 : Int64)), .second, .unset, .unset]) rfl ?_
    show Steps p.tables e below (T14.setTop (mkF m 156 #[.val (.int p1), .val (.int p2), .val (.int p3), .val (.int p4), .val (.int p5), .val (.int (own_r p1)), .val (.int (own_r p2)), .val (.int (own_r p3)), .val (.int (own_r p4)), .val (.long (own_mm p5)), .second, .val (.ref b11), .val (.ref (A13 0)), .val (.int (own_i M13)), .val (.ref (A14 0)), .val (.int (own_big (own_r p3) (own_r p4))), .val (.long (0 : Int64)), .second, .unset, .unset] [])) _
    refine XS.lconst X14.here hx rfl (hb hby at_156) ?_
    show Steps p.tables e below (T14.setTop (mkF m 157 #[.val (.int p1), .val (.int p2), .val (.int p3), .val (.int p4), .val (.int p5), .val (.int (own_r p1)), .val (.int (own_r p2)), .val (.int (own_r p3)), .val (.int (own_r p4)), .val (.long (own_mm p5)), .second, .val (.ref b11), .val (.ref (A13 0)), .val (.int (own_i M13)), .val (.ref (A14 0)), .val (.int (own_big (own_r p3) (own_r p4))), .val (.long (0 : Int64)), .second, .unset, .unset] [(.long (0 : Int64))])) _
    refine XS.lstore X14.here hx rfl (hb hby at_157) rfl (l' := #[.val (.int p1), .val (.int p2), .val (.int p3), .val (.int p4), .val (.int p5), .val (.int (own_r p1)), .val (.int (own_r p2)), .val (.int (own_r p3)), .val (.int (own_r p4)), .val (.long (own_mm p5)), .second, .val (.ref b11), .val (.ref (A13 0)), .val (.int (own_i M13)), .val (.ref (A14 0)), .val (.int (own_big (own_r p3) (own_r p4))), .val (.long (0 : Int64)), .second, .val (.long (0 : Int64)), .second]) rfl ?_
    show Steps p.tables e below (T14.setTop (mkF m 159 #[.val (.int p1), .val (.int p2), .val (.int p3), .val (.int p4), .val (.int p5), .val (.int (own_r p1)), .val (.int (own_r p2)), .val (.int (own_r p3)), .val (.int (own_r p4)), .val (.long (own_mm p5)), .second, .val (.ref b11), .val (.ref (A13 0)), .val (.int (own_i M13)), .val (.ref (A14 0)), .val (.int (own_big (own_r p3) (own_r p4))), .val (.long (0 : Int64)), .second, .val (.long (0 : Int64)), .second] [])) _
    refine XS.iload X14.here hx rfl (hb hby at_159) rfl ?_
    show Steps p.tables e below (T14.setTop (mkF m 161 #[.val (.int p1), .val (.int p2), .val (.int p3), .val (.int p4), .val (.int p5), .val (.int (own_r p1)), .val (.int (own_r p2)), .val (.int (own_r p3)), .val (.int (own_r p4)), .val (.long (own_mm p5)), .second, .val (.ref b11), .val (.ref (A13 0)), .val (.int (own_i M13)), .val (.ref (A14 0)), .val (.int (own_big (own_r p3) (own_r p4))), .val (.long (0 : Int64)), .second, .val (.long (0 : Int64)), .second] [(.int (own_big (own_r p3) (own_r p4)))])) _
    refine XS.ifNo X14.here hx rfl (hb hby at_161) rfl ((if0 _ _).trans (feq (hb1 : ¬ ((own_big (own_r p3) (own_r p4)) = (0 : Int32)))).1) ?_
    show Steps p.tables e below (T14.setTop (mkF m 164 #[.val (.int p1), .val (.int p2), .val (.int p3), .val (.int p4), .val (.int p5), .val (.int (own_r p1)), .val (.int (own_r p2)), .val (.int (own_r p3)), .val (.int (own_r p4)), .val (.long (own_mm p5)), .second, .val (.ref b11), .val (.ref (A13 0)), .val (.int (own_i M13)), .val (.ref (A14 0)), .val (.int (own_big (own_r p3) (own_r p4))), .val (.long (0 : Int64)), .second, .val (.long (0 : Int64)), .second] [])) _
    refine XS.aload X14.here hx rfl (hb hby at_164) rfl rfl ?_
    show Steps p.tables e below (T14.setTop (mkF m 166 #[.val (.int p1), .val (.int p2), .val (.int p3), .val (.int p4), .val (.int p5), .val (.int (own_r p1)), .val (.int (own_r p2)), .val (.int (own_r p3)), .val (.int (own_r p4)), .val (.long (own_mm p5)), .second, .val (.ref b11), .val (.ref (A13 0)), .val (.int (own_i M13)), .val (.ref (A14 0)), .val (.int (own_big (own_r p3) (own_r p4))), .val (.long (0 : Int64)), .second, .val (.long (0 : Int64)), .second] [(.ref (A14 0))])) _
    refine XS.iconst X14.here hx rfl (hb hby at_166) ?_
    show Steps p.tables e below (T14.setTop (mkF m 167 #[.val (.int p1), .val (.int p2), .val (.int p3), .val (.int p4), .val (.int p5), .val (.int (own_r p1)), .val (.int (own_r p2)), .val (.int (own_r p3)), .val (.int (own_r p4)), .val (.long (own_mm p5)), .second, .val (.ref b11), .val (.ref (A13 0)), .val (.int (own_i M13)), .val (.ref (A14 0)), .val (.int (own_big (own_r p3) (own_r p4))), .val (.long (0 : Int64)), .second, .val (.long (0 : Int64)), .second] [(.int (0 : Int32)), (.ref (A14 0))])) _
    refine XS.lload X14.here hx rfl (hb hby at_167) rfl ?_
    show Steps p.tables e below (T14.setTop (mkF m 169 #[.val (.int p1), .val (.int p2), .val (.int p3), .val (.int p4), .val (.int p5), .val (.int (own_r p1)), .val (.int (own_r p2)), .val (.int (own_r p3)), .val (.int (own_r p4)), .val (.long (own_mm p5)), .second, .val (.ref b11), .val (.ref (A13 0)), .val (.int (own_i M13)), .val (.ref (A14 0)), .val (.int (own_big (own_r p3) (own_r p4))), .val (.long (0 : Int64)), .second, .val (.long (0 : Int64)), .second] [(.long (own_mm p5)), (.int (0 : Int32)), (.ref (A14 0))])) _
    refine XS.l2i X14.here hx rfl (hb hby at_169) rfl ?_
    show Steps p.tables e below (T14.setTop (mkF m 170 #[.val (.int p1), .val (.int p2), .val (.int p3), .val (.int p4), .val (.int p5), .val (.int (own_r p1)), .val (.int (own_r p2)), .val (.int (own_r p3)), .val (.int (own_r p4)), .val (.long (own_mm p5)), .second, .val (.ref b11), .val (.ref (A13 0)), .val (.int (own_i M13)), .val (.ref (A14 0)), .val (.int (own_big (own_r p3) (own_r p4))), .val (.long (0 : Int64)), .second, .val (.long (0 : Int64)), .second] [(.int ((own_mm p5).toInt32)), (.int (0 : Int32)), (.ref (A14 0))])) _
    refine st15 _ ?_
    show Steps p.tables e below (T15.setTop (mkF m 171 #[.val (.int p1), .val (.int p2), .val (.int p3), .val (.int p4), .val (.int p5), .val (.int (own_r p1)), .val (.int (own_r p2)), .val (.int (own_r p3)), .val (.int (own_r p4)), .val (.long (own_mm p5)), .second, .val (.ref b11), .val (.ref (A13 0)), .val (.int (own_i M13)), .val (.ref (A14 0)), .val (.int (own_big (own_r p3) (own_r p4))), .val (.long (0 : Int64)), .second, .val (.long (0 : Int64)), .second] [])) _
    refine XS.aload X15.here hx rfl (hb hby at_171) rfl rfl ?_
    show Steps p.tables e below (T15.setTop (mkF m 173 #[.val (.int p1), .val (.int p2), .val (.int p3), .val (.int p4), .val (.int p5), .val (.int (own_r p1)), .val (.int (own_r p2)), .val (.int (own_r p3)), .val (.int (own_r p4)), .val (.long (own_mm p5)), .second, .val (.ref b11), .val (.ref (A13 0)), .val (.int (own_i M13)), .val (.ref (A14 0)), .val (.int (own_big (own_r p3) (own_r p4))), .val (.long (0 : Int64)), .second, .val (.long (0 : Int64)), .second] [(.ref (A14 0))])) _
    refine XS.iload X15.here hx rfl (hb hby at_173) rfl ?_
    show Steps p.tables e below (T15.setTop (mkF m 175 #[.val (.int p1), .val (.int p2), .val (.int p3), .val (.int p4), .val (.int p5), .val (.int (own_r p1)), .val (.int (own_r p2)), .val (.int (own_r p3)), .val (.int (own_r p4)), .val (.long (own_mm p5)), .second, .val (.ref b11), .val (.ref (A13 0)), .val (.int (own_i M13)), .val (.ref (A14 0)), .val (.int (own_big (own_r p3) (own_r p4))), .val (.long (0 : Int64)), .second, .val (.long (0 : Int64)), .second] [(.int (own_r p4)), (.ref (A14 0))])) _
    refine XS.iconst X15.here hx rfl (hb hby at_175) ?_
    show Steps p.tables e below (T15.setTop (mkF m 176 #[.val (.int p1), .val (.int p2), .val (.int p3), .val (.int p4), .val (.int p5), .val (.int (own_r p1)), .val (.int (own_r p2)), .val (.int (own_r p3)), .val (.int (own_r p4)), .val (.long (own_mm p5)), .second, .val (.ref b11), .val (.ref (A13 0)), .val (.int (own_i M13)), .val (.ref (A14 0)), .val (.int (own_big (own_r p3) (own_r p4))), .val (.long (0 : Int64)), .second, .val (.long (0 : Int64)), .second] [(.int (1 : Int32)), (.int (own_r p4)), (.ref (A14 0))])) _
    refine XS.iadd X15.here hx rfl (hb hby at_176) rfl ?_
    show Steps p.tables e below (T15.setTop (mkF m 177 #[.val (.int p1), .val (.int p2), .val (.int p3), .val (.int p4), .val (.int p5), .val (.int (own_r p1)), .val (.int (own_r p2)), .val (.int (own_r p3)), .val (.int (own_r p4)), .val (.long (own_mm p5)), .second, .val (.ref b11), .val (.ref (A13 0)), .val (.int (own_i M13)), .val (.ref (A14 0)), .val (.int (own_big (own_r p3) (own_r p4))), .val (.long (0 : Int64)), .second, .val (.long (0 : Int64)), .second] [(.int ((own_r p4) + (1 : Int32))), (.ref (A14 0))])) _
    refine XS.lload X15.here hx rfl (hb hby at_177) rfl ?_
    show Steps p.tables e below (T15.setTop (mkF m 179 #[.val (.int p1), .val (.int p2), .val (.int p3), .val (.int p4), .val (.int p5), .val (.int (own_r p1)), .val (.int (own_r p2)), .val (.int (own_r p3)), .val (.int (own_r p4)), .val (.long (own_mm p5)), .second, .val (.ref b11), .val (.ref (A13 0)), .val (.int (own_i M13)), .val (.ref (A14 0)), .val (.int (own_big (own_r p3) (own_r p4))), .val (.long (0 : Int64)), .second, .val (.long (0 : Int64)), .second] [(.long (own_mm p5)), (.int ((own_r p4) + (1 : Int32))), (.ref (A14 0))])) _
    refine XS.l2i X15.here hx rfl (hb hby at_179) rfl ?_
    show Steps p.tables e below (T15.setTop (mkF m 180 #[.val (.int p1), .val (.int p2), .val (.int p3), .val (.int p4), .val (.int p5), .val (.int (own_r p1)), .val (.int (own_r p2)), .val (.int (own_r p3)), .val (.int (own_r p4)), .val (.long (own_mm p5)), .second, .val (.ref b11), .val (.ref (A13 0)), .val (.int (own_i M13)), .val (.ref (A14 0)), .val (.int (own_big (own_r p3) (own_r p4))), .val (.long (0 : Int64)), .second, .val (.long (0 : Int64)), .second] [(.int ((own_mm p5).toInt32)), (.int ((own_r p4) + (1 : Int32))), (.ref (A14 0))])) _
    refine st16 _ ?_
    show Steps p.tables e below (T16.setTop (mkF m 181 #[.val (.int p1), .val (.int p2), .val (.int p3), .val (.int p4), .val (.int p5), .val (.int (own_r p1)), .val (.int (own_r p2)), .val (.int (own_r p3)), .val (.int (own_r p4)), .val (.long (own_mm p5)), .second, .val (.ref b11), .val (.ref (A13 0)), .val (.int (own_i M13)), .val (.ref (A14 0)), .val (.int (own_big (own_r p3) (own_r p4))), .val (.long (0 : Int64)), .second, .val (.long (0 : Int64)), .second] [])) _
    refine XS.aload X16.here hx rfl (hb hby at_181) rfl rfl ?_
    show Steps p.tables e below (T16.setTop (mkF m 183 #[.val (.int p1), .val (.int p2), .val (.int p3), .val (.int p4), .val (.int p5), .val (.int (own_r p1)), .val (.int (own_r p2)), .val (.int (own_r p3)), .val (.int (own_r p4)), .val (.long (own_mm p5)), .second, .val (.ref b11), .val (.ref (A13 0)), .val (.int (own_i M13)), .val (.ref (A14 0)), .val (.int (own_big (own_r p3) (own_r p4))), .val (.long (0 : Int64)), .second, .val (.long (0 : Int64)), .second] [(.ref (A14 0))])) _
    refine XS.iconst X16.here hx rfl (hb hby at_183) ?_
    show Steps p.tables e below (T16.setTop (mkF m 184 #[.val (.int p1), .val (.int p2), .val (.int p3), .val (.int p4), .val (.int p5), .val (.int (own_r p1)), .val (.int (own_r p2)), .val (.int (own_r p3)), .val (.int (own_r p4)), .val (.long (own_mm p5)), .second, .val (.ref b11), .val (.ref (A13 0)), .val (.int (own_i M13)), .val (.ref (A14 0)), .val (.int (own_big (own_r p3) (own_r p4))), .val (.long (0 : Int64)), .second, .val (.long (0 : Int64)), .second] [(.int (2 : Int32)), (.ref (A14 0))])) _
    refine XS.iload X16.here hx rfl (hb hby at_184) rfl ?_
    show Steps p.tables e below (T16.setTop (mkF m 186 #[.val (.int p1), .val (.int p2), .val (.int p3), .val (.int p4), .val (.int p5), .val (.int (own_r p1)), .val (.int (own_r p2)), .val (.int (own_r p3)), .val (.int (own_r p4)), .val (.long (own_mm p5)), .second, .val (.ref b11), .val (.ref (A13 0)), .val (.int (own_i M13)), .val (.ref (A14 0)), .val (.int (own_big (own_r p3) (own_r p4))), .val (.long (0 : Int64)), .second, .val (.long (0 : Int64)), .second] [(.int (own_r p4)), (.int (2 : Int32)), (.ref (A14 0))])) _
    refine XS.imul X16.here hx rfl (hb hby at_186) rfl ?_
    show Steps p.tables e below (T16.setTop (mkF m 187 #[.val (.int p1), .val (.int p2), .val (.int p3), .val (.int p4), .val (.int p5), .val (.int (own_r p1)), .val (.int (own_r p2)), .val (.int (own_r p3)), .val (.int (own_r p4)), .val (.long (own_mm p5)), .second, .val (.ref b11), .val (.ref (A13 0)), .val (.int (own_i M13)), .val (.ref (A14 0)), .val (.int (own_big (own_r p3) (own_r p4))), .val (.long (0 : Int64)), .second, .val (.long (0 : Int64)), .second] [(.int ((2 : Int32) * (own_r p4))), (.ref (A14 0))])) _
    refine XS.iconst X16.here hx rfl (hb hby at_187) ?_
    show Steps p.tables e below (T16.setTop (mkF m 188 #[.val (.int p1), .val (.int p2), .val (.int p3), .val (.int p4), .val (.int p5), .val (.int (own_r p1)), .val (.int (own_r p2)), .val (.int (own_r p3)), .val (.int (own_r p4)), .val (.long (own_mm p5)), .second, .val (.ref b11), .val (.ref (A13 0)), .val (.int (own_i M13)), .val (.ref (A14 0)), .val (.int (own_big (own_r p3) (own_r p4))), .val (.long (0 : Int64)), .second, .val (.long (0 : Int64)), .second] [(.int (2 : Int32)), (.int ((2 : Int32) * (own_r p4))), (.ref (A14 0))])) _
    refine XS.iadd X16.here hx rfl (hb hby at_188) rfl ?_
    show Steps p.tables e below (T16.setTop (mkF m 189 #[.val (.int p1), .val (.int p2), .val (.int p3), .val (.int p4), .val (.int p5), .val (.int (own_r p1)), .val (.int (own_r p2)), .val (.int (own_r p3)), .val (.int (own_r p4)), .val (.long (own_mm p5)), .second, .val (.ref b11), .val (.ref (A13 0)), .val (.int (own_i M13)), .val (.ref (A14 0)), .val (.int (own_big (own_r p3) (own_r p4))), .val (.long (0 : Int64)), .second, .val (.long (0 : Int64)), .second] [(.int (((2 : Int32) * (own_r p4)) + (2 : Int32))), (.ref (A14 0))])) _
    refine XS.lload X16.here hx rfl (hb hby at_189) rfl ?_
    show Steps p.tables e below (T16.setTop (mkF m 191 #[.val (.int p1), .val (.int p2), .val (.int p3), .val (.int p4), .val (.int p5), .val (.int (own_r p1)), .val (.int (own_r p2)), .val (.int (own_r p3)), .val (.int (own_r p4)), .val (.long (own_mm p5)), .second, .val (.ref b11), .val (.ref (A13 0)), .val (.int (own_i M13)), .val (.ref (A14 0)), .val (.int (own_big (own_r p3) (own_r p4))), .val (.long (0 : Int64)), .second, .val (.long (0 : Int64)), .second] [(.long (own_mm p5)), (.int (((2 : Int32) * (own_r p4)) + (2 : Int32))), (.ref (A14 0))])) _
    refine XS.l2i X16.here hx rfl (hb hby at_191) rfl ?_
    show Steps p.tables e below (T16.setTop (mkF m 192 #[.val (.int p1), .val (.int p2), .val (.int p3), .val (.int p4), .val (.int p5), .val (.int (own_r p1)), .val (.int (own_r p2)), .val (.int (own_r p3)), .val (.int (own_r p4)), .val (.long (own_mm p5)), .second, .val (.ref b11), .val (.ref (A13 0)), .val (.int (own_i M13)), .val (.ref (A14 0)), .val (.int (own_big (own_r p3) (own_r p4))), .val (.long (0 : Int64)), .second, .val (.long (0 : Int64)), .second] [(.int ((own_mm p5).toInt32)), (.int (((2 : Int32) * (own_r p4)) + (2 : Int32))), (.ref (A14 0))])) _
    refine st17 _ ?_
    show Steps p.tables e below (T17.setTop (mkF m 193 #[.val (.int p1), .val (.int p2), .val (.int p3), .val (.int p4), .val (.int p5), .val (.int (own_r p1)), .val (.int (own_r p2)), .val (.int (own_r p3)), .val (.int (own_r p4)), .val (.long (own_mm p5)), .second, .val (.ref b11), .val (.ref (A13 0)), .val (.int (own_i M13)), .val (.ref (A14 0)), .val (.int (own_big (own_r p3) (own_r p4))), .val (.long (0 : Int64)), .second, .val (.long (0 : Int64)), .second] [])) _
    refine X17.ldc2Long hx hown (mvT hZ (hw _ (List.mem_of_getElem? (i := 52) rfl))) (g := (mkF m 193 #[.val (.int p1), .val (.int p2), .val (.int p3), .val (.int p4), .val (.int p5), .val (.int (own_r p1)), .val (.int (own_r p2)), .val (.int (own_r p3)), .val (.int (own_r p4)), .val (.long (own_mm p5)), .second, .val (.ref b11), .val (.ref (A13 0)), .val (.int (own_i M13)), .val (.ref (A14 0)), .val (.int (own_big (own_r p3) (own_r p4))), .val (.long (0 : Int64)), .second, .val (.long (0 : Int64)), .second] [])) rfl (hb hby at_193) _ ?_
    show Steps p.tables e below (T17.setTop (mkF m 196 #[.val (.int p1), .val (.int p2), .val (.int p3), .val (.int p4), .val (.int p5), .val (.int (own_r p1)), .val (.int (own_r p2)), .val (.int (own_r p3)), .val (.int (own_r p4)), .val (.long (own_mm p5)), .second, .val (.ref b11), .val (.ref (A13 0)), .val (.int (own_i M13)), .val (.ref (A14 0)), .val (.int (own_big (own_r p3) (own_r p4))), .val (.long (0 : Int64)), .second, .val (.long (0 : Int64)), .second] [(.long (3 : Int64))])) _
    refine XS.lload X17.here hx rfl (hb hby at_196) rfl ?_
    show Steps p.tables e below (T17.setTop (mkF m 198 #[.val (.int p1), .val (.int p2), .val (.int p3), .val (.int p4), .val (.int p5), .val (.int (own_r p1)), .val (.int (own_r p2)), .val (.int (own_r p3)), .val (.int (own_r p4)), .val (.long (own_mm p5)), .second, .val (.ref b11), .val (.ref (A13 0)), .val (.int (own_i M13)), .val (.ref (A14 0)), .val (.int (own_big (own_r p3) (own_r p4))), .val (.long (0 : Int64)), .second, .val (.long (0 : Int64)), .second] [(.long (own_mm p5)), (.long (3 : Int64))])) _
    refine XS.lmul X17.here hx rfl (hb hby at_198) rfl ?_
    show Steps p.tables e below (T17.setTop (mkF m 199 #[.val (.int p1), .val (.int p2), .val (.int p3), .val (.int p4), .val (.int p5), .val (.int (own_r p1)), .val (.int (own_r p2)), .val (.int (own_r p3)), .val (.int (own_r p4)), .val (.long (own_mm p5)), .second, .val (.ref b11), .val (.ref (A13 0)), .val (.int (own_i M13)), .val (.ref (A14 0)), .val (.int (own_big (own_r p3) (own_r p4))), .val (.long (0 : Int64)), .second, .val (.long (0 : Int64)), .second] [(.long ((3 : Int64) * (own_mm p5)))])) _
    refine XS.lstore X17.here hx rfl (hb hby at_199) rfl (l' := #[.val (.int p1), .val (.int p2), .val (.int p3), .val (.int p4), .val (.int p5), .val (.int (own_r p1)), .val (.int (own_r p2)), .val (.int (own_r p3)), .val (.int (own_r p4)), .val (.long (own_mm p5)), .second, .val (.ref b11), .val (.ref (A13 0)), .val (.int (own_i M13)), .val (.ref (A14 0)), .val (.int (own_big (own_r p3) (own_r p4))), .val (.long ((3 : Int64) * (own_mm p5))), .second, .val (.long (0 : Int64)), .second]) rfl ?_
    show Steps p.tables e below (T17.setTop (mkF m 201 #[.val (.int p1), .val (.int p2), .val (.int p3), .val (.int p4), .val (.int p5), .val (.int (own_r p1)), .val (.int (own_r p2)), .val (.int (own_r p3)), .val (.int (own_r p4)), .val (.long (own_mm p5)), .second, .val (.ref b11), .val (.ref (A13 0)), .val (.int (own_i M13)), .val (.ref (A14 0)), .val (.int (own_big (own_r p3) (own_r p4))), .val (.long ((3 : Int64) * (own_mm p5))), .second, .val (.long (0 : Int64)), .second] [])) _
    refine X17.ldc2Long hx hown (mvT hZ (hw _ (List.mem_of_getElem? (i := 52) rfl))) (g := (mkF m 201 #[.val (.int p1), .val (.int p2), .val (.int p3), .val (.int p4), .val (.int p5), .val (.int (own_r p1)), .val (.int (own_r p2)), .val (.int (own_r p3)), .val (.int (own_r p4)), .val (.long (own_mm p5)), .second, .val (.ref b11), .val (.ref (A13 0)), .val (.int (own_i M13)), .val (.ref (A14 0)), .val (.int (own_big (own_r p3) (own_r p4))), .val (.long ((3 : Int64) * (own_mm p5))), .second, .val (.long (0 : Int64)), .second] [])) rfl (hb hby at_201) _ ?_
    show Steps p.tables e below (T17.setTop (mkF m 204 #[.val (.int p1), .val (.int p2), .val (.int p3), .val (.int p4), .val (.int p5), .val (.int (own_r p1)), .val (.int (own_r p2)), .val (.int (own_r p3)), .val (.int (own_r p4)), .val (.long (own_mm p5)), .second, .val (.ref b11), .val (.ref (A13 0)), .val (.int (own_i M13)), .val (.ref (A14 0)), .val (.int (own_big (own_r p3) (own_r p4))), .val (.long ((3 : Int64) * (own_mm p5))), .second, .val (.long (0 : Int64)), .second] [(.long (3 : Int64))])) _
    refine XS.lload X17.here hx rfl (hb hby at_204) rfl ?_
    show Steps p.tables e below (T17.setTop (mkF m 206 #[.val (.int p1), .val (.int p2), .val (.int p3), .val (.int p4), .val (.int p5), .val (.int (own_r p1)), .val (.int (own_r p2)), .val (.int (own_r p3)), .val (.int (own_r p4)), .val (.long (own_mm p5)), .second, .val (.ref b11), .val (.ref (A13 0)), .val (.int (own_i M13)), .val (.ref (A14 0)), .val (.int (own_big (own_r p3) (own_r p4))), .val (.long ((3 : Int64) * (own_mm p5))), .second, .val (.long (0 : Int64)), .second] [(.long (own_mm p5)), (.long (3 : Int64))])) _
    refine XS.lload X17.here hx rfl (hb hby at_206) rfl ?_
    show Steps p.tables e below (T17.setTop (mkF m 208 #[.val (.int p1), .val (.int p2), .val (.int p3), .val (.int p4), .val (.int p5), .val (.int (own_r p1)), .val (.int (own_r p2)), .val (.int (own_r p3)), .val (.int (own_r p4)), .val (.long (own_mm p5)), .second, .val (.ref b11), .val (.ref (A13 0)), .val (.int (own_i M13)), .val (.ref (A14 0)), .val (.int (own_big (own_r p3) (own_r p4))), .val (.long ((3 : Int64) * (own_mm p5))), .second, .val (.long (0 : Int64)), .second] [(.long (own_mm p5)), (.long (own_mm p5)), (.long (3 : Int64))])) _
    refine XS.lconst X17.here hx rfl (hb hby at_208) ?_
    show Steps p.tables e below (T17.setTop (mkF m 209 #[.val (.int p1), .val (.int p2), .val (.int p3), .val (.int p4), .val (.int p5), .val (.int (own_r p1)), .val (.int (own_r p2)), .val (.int (own_r p3)), .val (.int (own_r p4)), .val (.long (own_mm p5)), .second, .val (.ref b11), .val (.ref (A13 0)), .val (.int (own_i M13)), .val (.ref (A14 0)), .val (.int (own_big (own_r p3) (own_r p4))), .val (.long ((3 : Int64) * (own_mm p5))), .second, .val (.long (0 : Int64)), .second] [(.long (1 : Int64)), (.long (own_mm p5)), (.long (own_mm p5)), (.long (3 : Int64))])) _
    refine XS.lsub X17.here hx rfl (hb hby at_209) rfl ?_
    show Steps p.tables e below (T17.setTop (mkF m 210 #[.val (.int p1), .val (.int p2), .val (.int p3), .val (.int p4), .val (.int p5), .val (.int (own_r p1)), .val (.int (own_r p2)), .val (.int (own_r p3)), .val (.int (own_r p4)), .val (.long (own_mm p5)), .second, .val (.ref b11), .val (.ref (A13 0)), .val (.int (own_i M13)), .val (.ref (A14 0)), .val (.int (own_big (own_r p3) (own_r p4))), .val (.long ((3 : Int64) * (own_mm p5))), .second, .val (.long (0 : Int64)), .second] [(.long ((own_mm p5) - (1 : Int64))), (.long (own_mm p5)), (.long (3 : Int64))])) _
    refine XS.lmul X17.here hx rfl (hb hby at_210) rfl ?_
    show Steps p.tables e below (T17.setTop (mkF m 211 #[.val (.int p1), .val (.int p2), .val (.int p3), .val (.int p4), .val (.int p5), .val (.int (own_r p1)), .val (.int (own_r p2)), .val (.int (own_r p3)), .val (.int (own_r p4)), .val (.long (own_mm p5)), .second, .val (.ref b11), .val (.ref (A13 0)), .val (.int (own_i M13)), .val (.ref (A14 0)), .val (.int (own_big (own_r p3) (own_r p4))), .val (.long ((3 : Int64) * (own_mm p5))), .second, .val (.long (0 : Int64)), .second] [(.long ((own_mm p5) * ((own_mm p5) - (1 : Int64)))), (.long (3 : Int64))])) _
    refine X17.ldc2Long hx hown (mvT hZ (hw _ (List.mem_of_getElem? (i := 53) rfl))) (g := (mkF m 211 #[.val (.int p1), .val (.int p2), .val (.int p3), .val (.int p4), .val (.int p5), .val (.int (own_r p1)), .val (.int (own_r p2)), .val (.int (own_r p3)), .val (.int (own_r p4)), .val (.long (own_mm p5)), .second, .val (.ref b11), .val (.ref (A13 0)), .val (.int (own_i M13)), .val (.ref (A14 0)), .val (.int (own_big (own_r p3) (own_r p4))), .val (.long ((3 : Int64) * (own_mm p5))), .second, .val (.long (0 : Int64)), .second] [(.long ((own_mm p5) * ((own_mm p5) - (1 : Int64)))), (.long (3 : Int64))])) rfl (hb hby at_211) _ ?_
    show Steps p.tables e below (T17.setTop (mkF m 214 #[.val (.int p1), .val (.int p2), .val (.int p3), .val (.int p4), .val (.int p5), .val (.int (own_r p1)), .val (.int (own_r p2)), .val (.int (own_r p3)), .val (.int (own_r p4)), .val (.long (own_mm p5)), .second, .val (.ref b11), .val (.ref (A13 0)), .val (.int (own_i M13)), .val (.ref (A14 0)), .val (.int (own_big (own_r p3) (own_r p4))), .val (.long ((3 : Int64) * (own_mm p5))), .second, .val (.long (0 : Int64)), .second] [(.long (2 : Int64)), (.long ((own_mm p5) * ((own_mm p5) - (1 : Int64)))), (.long (3 : Int64))])) _
    refine XS.ldiv X17.here hx rfl (hb hby at_214) rfl (by decide) ?_
    show Steps p.tables e below (T17.setTop (mkF m 215 #[.val (.int p1), .val (.int p2), .val (.int p3), .val (.int p4), .val (.int p5), .val (.int (own_r p1)), .val (.int (own_r p2)), .val (.int (own_r p3)), .val (.int (own_r p4)), .val (.long (own_mm p5)), .second, .val (.ref b11), .val (.ref (A13 0)), .val (.int (own_i M13)), .val (.ref (A14 0)), .val (.int (own_big (own_r p3) (own_r p4))), .val (.long ((3 : Int64) * (own_mm p5))), .second, .val (.long (0 : Int64)), .second] [(.long (((own_mm p5) * ((own_mm p5) - (1 : Int64))) / (2 : Int64))), (.long (3 : Int64))])) _
    refine XS.lmul X17.here hx rfl (hb hby at_215) rfl ?_
    show Steps p.tables e below (T17.setTop (mkF m 216 #[.val (.int p1), .val (.int p2), .val (.int p3), .val (.int p4), .val (.int p5), .val (.int (own_r p1)), .val (.int (own_r p2)), .val (.int (own_r p3)), .val (.int (own_r p4)), .val (.long (own_mm p5)), .second, .val (.ref b11), .val (.ref (A13 0)), .val (.int (own_i M13)), .val (.ref (A14 0)), .val (.int (own_big (own_r p3) (own_r p4))), .val (.long ((3 : Int64) * (own_mm p5))), .second, .val (.long (0 : Int64)), .second] [(.long ((3 : Int64) * (((own_mm p5) * ((own_mm p5) - (1 : Int64))) / (2 : Int64))))])) _
    refine XS.lload X17.here hx rfl (hb hby at_216) rfl ?_
    show Steps p.tables e below (T17.setTop (mkF m 218 #[.val (.int p1), .val (.int p2), .val (.int p3), .val (.int p4), .val (.int p5), .val (.int (own_r p1)), .val (.int (own_r p2)), .val (.int (own_r p3)), .val (.int (own_r p4)), .val (.long (own_mm p5)), .second, .val (.ref b11), .val (.ref (A13 0)), .val (.int (own_i M13)), .val (.ref (A14 0)), .val (.int (own_big (own_r p3) (own_r p4))), .val (.long ((3 : Int64) * (own_mm p5))), .second, .val (.long (0 : Int64)), .second] [(.long (own_mm p5)), (.long ((3 : Int64) * (((own_mm p5) * ((own_mm p5) - (1 : Int64))) / (2 : Int64))))])) _
    refine XS.lmul X17.here hx rfl (hb hby at_218) rfl ?_
    show Steps p.tables e below (T17.setTop (mkF m 219 #[.val (.int p1), .val (.int p2), .val (.int p3), .val (.int p4), .val (.int p5), .val (.int (own_r p1)), .val (.int (own_r p2)), .val (.int (own_r p3)), .val (.int (own_r p4)), .val (.long (own_mm p5)), .second, .val (.ref b11), .val (.ref (A13 0)), .val (.int (own_i M13)), .val (.ref (A14 0)), .val (.int (own_big (own_r p3) (own_r p4))), .val (.long ((3 : Int64) * (own_mm p5))), .second, .val (.long (0 : Int64)), .second] [(.long (((3 : Int64) * (((own_mm p5) * ((own_mm p5) - (1 : Int64))) / (2 : Int64))) * (own_mm p5)))])) _
    refine XS.lload X17.here hx rfl (hb hby at_219) rfl ?_
    show Steps p.tables e below (T17.setTop (mkF m 221 #[.val (.int p1), .val (.int p2), .val (.int p3), .val (.int p4), .val (.int p5), .val (.int (own_r p1)), .val (.int (own_r p2)), .val (.int (own_r p3)), .val (.int (own_r p4)), .val (.long (own_mm p5)), .second, .val (.ref b11), .val (.ref (A13 0)), .val (.int (own_i M13)), .val (.ref (A14 0)), .val (.int (own_big (own_r p3) (own_r p4))), .val (.long ((3 : Int64) * (own_mm p5))), .second, .val (.long (0 : Int64)), .second] [(.long (own_mm p5)), (.long (((3 : Int64) * (((own_mm p5) * ((own_mm p5) - (1 : Int64))) / (2 : Int64))) * (own_mm p5)))])) _
    refine XS.lmul X17.here hx rfl (hb hby at_221) rfl ?_
    show Steps p.tables e below (T17.setTop (mkF m 222 #[.val (.int p1), .val (.int p2), .val (.int p3), .val (.int p4), .val (.int p5), .val (.int (own_r p1)), .val (.int (own_r p2)), .val (.int (own_r p3)), .val (.int (own_r p4)), .val (.long (own_mm p5)), .second, .val (.ref b11), .val (.ref (A13 0)), .val (.int (own_i M13)), .val (.ref (A14 0)), .val (.int (own_big (own_r p3) (own_r p4))), .val (.long ((3 : Int64) * (own_mm p5))), .second, .val (.long (0 : Int64)), .second] [(.long ((((3 : Int64) * (((own_mm p5) * ((own_mm p5) - (1 : Int64))) / (2 : Int64))) * (own_mm p5)) * (own_mm p5)))])) _
    refine XS.lstore X17.here hx rfl (hb hby at_222) rfl (l' := #[.val (.int p1), .val (.int p2), .val (.int p3), .val (.int p4), .val (.int p5), .val (.int (own_r p1)), .val (.int (own_r p2)), .val (.int (own_r p3)), .val (.int (own_r p4)), .val (.long (own_mm p5)), .second, .val (.ref b11), .val (.ref (A13 0)), .val (.int (own_i M13)), .val (.ref (A14 0)), .val (.int (own_big (own_r p3) (own_r p4))), .val (.long ((3 : Int64) * (own_mm p5))), .second, .val (.long ((((3 : Int64) * (((own_mm p5) * ((own_mm p5) - (1 : Int64))) / (2 : Int64))) * (own_mm p5)) * (own_mm p5))), .second]) rfl ?_
    show Steps p.tables e below (T17.setTop (mkF m 224 #[.val (.int p1), .val (.int p2), .val (.int p3), .val (.int p4), .val (.int p5), .val (.int (own_r p1)), .val (.int (own_r p2)), .val (.int (own_r p3)), .val (.int (own_r p4)), .val (.long (own_mm p5)), .second, .val (.ref b11), .val (.ref (A13 0)), .val (.int (own_i M13)), .val (.ref (A14 0)), .val (.int (own_big (own_r p3) (own_r p4))), .val (.long ((3 : Int64) * (own_mm p5))), .second, .val (.long (own_exp (own_mm p5))), .second] [])) _
    refine XS.aload X17.here hx rfl (hb hby at_224) rfl rfl ?_
    show Steps p.tables e below (T17.setTop (mkF m 226 #[.val (.int p1), .val (.int p2), .val (.int p3), .val (.int p4), .val (.int p5), .val (.int (own_r p1)), .val (.int (own_r p2)), .val (.int (own_r p3)), .val (.int (own_r p4)), .val (.long (own_mm p5)), .second, .val (.ref b11), .val (.ref (A13 0)), .val (.int (own_i M13)), .val (.ref (A14 0)), .val (.int (own_big (own_r p3) (own_r p4))), .val (.long ((3 : Int64) * (own_mm p5))), .second, .val (.long (own_exp (own_mm p5))), .second] [(.ref b11)])) _
    refine XS.lload X17.here hx rfl (hb hby at_226) rfl ?_
    show Steps p.tables e below (T17.setTop (mkF m 228 #[.val (.int p1), .val (.int p2), .val (.int p3), .val (.int p4), .val (.int p5), .val (.int (own_r p1)), .val (.int (own_r p2)), .val (.int (own_r p3)), .val (.int (own_r p4)), .val (.long (own_mm p5)), .second, .val (.ref b11), .val (.ref (A13 0)), .val (.int (own_i M13)), .val (.ref (A14 0)), .val (.int (own_big (own_r p3) (own_r p4))), .val (.long ((3 : Int64) * (own_mm p5))), .second, .val (.long (own_exp (own_mm p5))), .second] [(.long ((3 : Int64) * (own_mm p5))), (.ref b11)])) _
    refine st18.trans ?_
    show Steps p.tables e below (T18.setTop (mkF m 231 #[.val (.int p1), .val (.int p2), .val (.int p3), .val (.int p4), .val (.int p5), .val (.int (own_r p1)), .val (.int (own_r p2)), .val (.int (own_r p3)), .val (.int (own_r p4)), .val (.long (own_mm p5)), .second, .val (.ref b11), .val (.ref (A13 0)), .val (.int (own_i M13)), .val (.ref (A14 0)), .val (.int (own_big (own_r p3) (own_r p4))), .val (.long ((3 : Int64) * (own_mm p5))), .second, .val (.long (own_exp (own_mm p5))), .second] [(.long (own_count (own_f3 (own_mm p5) C2) R2 C2 ((3 : Int64) * (own_mm p5))))])) _
    refine XS.lload X18.here hx rfl (hb hby at_231) rfl ?_
    show Steps p.tables e below (T18.setTop (mkF m 233 #[.val (.int p1), .val (.int p2), .val (.int p3), .val (.int p4), .val (.int p5), .val (.int (own_r p1)), .val (.int (own_r p2)), .val (.int (own_r p3)), .val (.int (own_r p4)), .val (.long (own_mm p5)), .second, .val (.ref b11), .val (.ref (A13 0)), .val (.int (own_i M13)), .val (.ref (A14 0)), .val (.int (own_big (own_r p3) (own_r p4))), .val (.long ((3 : Int64) * (own_mm p5))), .second, .val (.long (own_exp (own_mm p5))), .second] [(.long (own_exp (own_mm p5))), (.long (own_count (own_f3 (own_mm p5) C2) R2 C2 ((3 : Int64) * (own_mm p5))))])) _
    refine XS.lcmp X18.here hx rfl (hb hby at_233) rfl ?_
    show Steps p.tables e below (T18.setTop (mkF m 234 #[.val (.int p1), .val (.int p2), .val (.int p3), .val (.int p4), .val (.int p5), .val (.int (own_r p1)), .val (.int (own_r p2)), .val (.int (own_r p3)), .val (.int (own_r p4)), .val (.long (own_mm p5)), .second, .val (.ref b11), .val (.ref (A13 0)), .val (.int (own_i M13)), .val (.ref (A14 0)), .val (.int (own_big (own_r p3) (own_r p4))), .val (.long ((3 : Int64) * (own_mm p5))), .second, .val (.long (own_exp (own_mm p5))), .second] [(.int (lcmpW (own_count (own_f3 (own_mm p5) C2) R2 C2 ((3 : Int64) * (own_mm p5))) (own_exp (own_mm p5))))])) _
    refine XS.ifNo X18.here hx rfl (hb hby at_234) rfl ((if0 _ _).trans (teq ((lw_eq _ _).mpr (own_main_big (own_mm_rng p5) hRC lR2 lC2) : (lcmpW (own_count (own_f3 (own_mm p5) C2) R2 C2 ((3 : Int64) * (own_mm p5))) (own_exp (own_mm p5))) = (0 : Int32))).2) ?_
    show Steps p.tables e below (T18.setTop (mkF m 237 #[.val (.int p1), .val (.int p2), .val (.int p3), .val (.int p4), .val (.int p5), .val (.int (own_r p1)), .val (.int (own_r p2)), .val (.int (own_r p3)), .val (.int (own_r p4)), .val (.long (own_mm p5)), .second, .val (.ref b11), .val (.ref (A13 0)), .val (.int (own_i M13)), .val (.ref (A14 0)), .val (.int (own_big (own_r p3) (own_r p4))), .val (.long ((3 : Int64) * (own_mm p5))), .second, .val (.long (own_exp (own_mm p5))), .second] [])) _
    refine XS.iconst X18.here hx rfl (hb hby at_237) ?_
    show Steps p.tables e below (T18.setTop (mkF m 238 #[.val (.int p1), .val (.int p2), .val (.int p3), .val (.int p4), .val (.int p5), .val (.int (own_r p1)), .val (.int (own_r p2)), .val (.int (own_r p3)), .val (.int (own_r p4)), .val (.long (own_mm p5)), .second, .val (.ref b11), .val (.ref (A13 0)), .val (.int (own_i M13)), .val (.ref (A14 0)), .val (.int (own_big (own_r p3) (own_r p4))), .val (.long ((3 : Int64) * (own_mm p5))), .second, .val (.long (own_exp (own_mm p5))), .second] [(.int (1 : Int32))])) _
    refine XS.goto X18.here hx rfl (pc0 := 238) (pc' := 242) rfl (hb hby at_238) (by decide) (by decide) ?_
    show Steps p.tables e below (T18.setTop (mkF m 242 #[.val (.int p1), .val (.int p2), .val (.int p3), .val (.int p4), .val (.int p5), .val (.int (own_r p1)), .val (.int (own_r p2)), .val (.int (own_r p3)), .val (.int (own_r p4)), .val (.long (own_mm p5)), .second, .val (.ref b11), .val (.ref (A13 0)), .val (.int (own_i M13)), .val (.ref (A14 0)), .val (.int (own_big (own_r p3) (own_r p4))), .val (.long ((3 : Int64) * (own_mm p5))), .second, .val (.long (own_exp (own_mm p5))), .second] [(.int (1 : Int32))])) _
    exact retN X18 hx (t := .boolean) Bd.returns (by simp) (hb hby at_242) hr
  · show Q0 Z h0 n0 _ T18.heap _
    exact ⟨rfl, N18⟩
set_option maxRecDepth 65536 in
set_option maxHeartbeats 40000000 in
theorem rm0_s (l : Launch) (Z : State) (a0 : Array Value) (hw : ∀ d ∈ tables_1, d.before a0 Z = true) (ws : List Jvm.Cond) (p1 p2 p3 p4 p5 : Int32) (h0 : Heap) (n0 : Nat) (Z0 : n0 ≤ h0.size) (hb1 : own_big (own_r p3) (own_r p4) = (0 : Int32)) :
    MetFree l x (head1 (Jvm.Cond.code x code maxLocals ret :: ws) room_1) (fun a U => a = #[(.int p1), (.int p2), (.int p3), (.int p4), (.int p5)] ∧ Z.Warmed39 U.vm ∧ U.heap = h0) (fun _ _ _ _ _ => True) (fun _ U o U' => ∃ v L, o = .returned v ∧ Q0 Z h0 n0 v U'.heap L ∧ FrameEnd U o U' L room_1.cells room_1.slots) := by
  refine MetFree.of_bodySF (plainFor_of_name own_pnL) hisR ?_
  intro p e s m args below meth c s₁ Bd hml0 hP hK
  obtain ⟨rfl, hZ, hh⟩ := hP
  have hx := Bd.exec
  have hby := Bd.bytes
  have hml : c.maxLocals = 20 := hml0
  have hown : s.vm.findClass "quartess/quartet/AnchorsCellsPinLaw" = some m.cls := findClass_of_methodNamed Bd.named
  have hnm := (name_of_methodNamed Bd.named Bd.method).1
  have X0 : Stand p l e room_1 s m #[(.int p1), (.int p2), (.int p3), (.int p4), (.int p5)] below meth c s₁ [] 0 0 := Stand.of_body Bd
  have e0 : s₁.heap = h0 := by rw [← hh, Bd.state]; rfl
  have N0 := Fr.nil n0
  have pre0 : ∀ t, Steps p.tables e below (s₁.setTop (mkF m 0 #[.val (.int p1), .val (.int p2), .val (.int p3), .val (.int p4), .val (.int p5), .unset, .unset, .unset, .unset, .unset, .unset, .unset, .unset, .unset, .unset, .unset, .unset, .unset, .unset, .unset] [])) t → Steps p.tables e below (s₁.setTop (entryFrame m #[(.int p1), (.int p2), (.int p3), (.int p4), (.int p5)] maxLocals)) t := fun t k => castTop (own_ef0 m p1 p2 p3 p4 p5) k
  obtain ⟨R1, hR1, lR1⟩ := own_r_rng p1
  obtain ⟨C1, hC1, lC1⟩ := own_r_rng p2
  obtain ⟨R2, hR2, lR2⟩ := own_r_rng p3
  obtain ⟨C2, hC2, lC2⟩ := own_r_rng p4
  obtain ⟨T11, h11, X11, e11, E11, A11, D11, -, st11⟩ := newO X0 hx hZ hown (hw _ (List.mem_of_getElem? (i := 1) rfl)) (hw _ (List.mem_of_getElem? (i := 2) rfl)) (hw _ (List.mem_of_getElem? (i := 3) rfl)) e0 (g := (mkF m 41 #[.val (.int p1), .val (.int p2), .val (.int p3), .val (.int p4), .val (.int p5), .val (.int (own_r p1)), .val (.int (own_r p2)), .val (.int (own_r p3)), .val (.int (own_r p4)), .val (.long (own_mm p5)), .second, .unset, .unset, .unset, .unset, .unset, .unset, .unset, .unset, .unset] [])) rfl (hb hby at_41) (by decide) (by decide)
  obtain ⟨b11, g11⟩ : ∃ z, z = h0.size := ⟨_, rfl⟩
  rw [← g11] at A11 D11 st11
  have F_cells_11 : Fld Z h11 b11 "quartess/quartet/Anchors" "cells" "[I" .null := D11 (Or.inl (hw _ (List.mem_of_getElem? (i := 12) rfl))) (ty := (.array .int)) (by decide)
  have F_rowSums_11 : Fld Z h11 b11 "quartess/quartet/Anchors" "rowSums" "[J" .null := D11 (Or.inr (hw _ (List.mem_of_getElem? (i := 15) rfl))) (ty := (.array .long)) (by decide)
  have F_rowSquares_11 : Fld Z h11 b11 "quartess/quartet/Anchors" "rowSquares" "[J" .null := D11 (Or.inr (hw _ (List.mem_of_getElem? (i := 17) rfl))) (ty := (.array .long)) (by decide)
  have F_rowRest_11 : Fld Z h11 b11 "quartess/quartet/Anchors" "rowRest" "[J" .null := D11 (Or.inr (hw _ (List.mem_of_getElem? (i := 19) rfl))) (ty := (.array .long)) (by decide)
  have F_columnSums_11 : Fld Z h11 b11 "quartess/quartet/Anchors" "columnSums" "[J" .null := D11 (Or.inr (hw _ (List.mem_of_getElem? (i := 21) rfl))) (ty := (.array .long)) (by decide)
  have F_columnSquares_11 : Fld Z h11 b11 "quartess/quartet/Anchors" "columnSquares" "[J" .null := D11 (Or.inr (hw _ (List.mem_of_getElem? (i := 23) rfl))) (ty := (.array .long)) (by decide)
  have F_columnRest_11 : Fld Z h11 b11 "quartess/quartet/Anchors" "columnRest" "[J" .null := D11 (Or.inr (hw _ (List.mem_of_getElem? (i := 25) rfl))) (ty := (.array .long)) (by decide)
  have F_rows_11 : Fld Z h11 b11 "quartess/quartet/Anchors" "rows" "I" (.int (0 : Int32)) := D11 (Or.inl (hw _ (List.mem_of_getElem? (i := 32) rfl))) (ty := .int) (by decide)
  have F_columns_11 : Fld Z h11 b11 "quartess/quartet/Anchors" "columns" "I" (.int (0 : Int32)) := D11 (Or.inl (hw _ (List.mem_of_getElem? (i := 34) rfl))) (ty := .int) (by decide)
  have Zn : n0 ≤ h11.size := Nat.le_trans Z0 E11.1
  have gl : n0 ≤ b11 := Nat.le_trans Z0 (Nat.le_of_eq g11.symm)
  obtain ⟨_, _, ⟨T12, L12, k12, n12⟩, -, X12, ⟨Lc12, hQ12, l12, y12, z12⟩, st12⟩ := X11.specialBack hx (y := (⟨"quartess/quartet/Anchors", "<init>", "(II)V"⟩ : MethodName)) rfl hown (mvT hZ (hw _ (List.mem_of_getElem? (i := 4) rfl))) (mvT hZ (hw _ (List.mem_of_getElem? (i := 5) rfl))) (mvT hZ (hw _ (List.mem_of_getElem? (i := 6) rfl))) (by decide) (backOf (W := 1) (rm1 l Z a0 hw [] b11 h11 n0 Zn A11 gl F_cells_11 F_rowSums_11 F_rowSquares_11 F_rowRest_11 F_columnSums_11 F_columnSquares_11 F_columnRest_11 F_rows_11 F_columns_11) hZ (hw _ (List.mem_of_getElem? (i := 6) rfl)) (hw _ (List.mem_of_getElem? (i := 3) rfl)) (by decide) (by decide)) (g := (mkF m 47 #[.val (.int p1), .val (.int p2), .val (.int p3), .val (.int p4), .val (.int p5), .val (.int (own_r p1)), .val (.int (own_r p2)), .val (.int (own_r p3)), .val (.int (own_r p4)), .val (.long (own_mm p5)), .second, .unset, .unset, .unset, .unset, .unset, .unset, .unset, .unset, .unset] [(.int (4 : Int32)), (.int (4 : Int32)), (.ref b11), (.ref b11)])) rfl (by rw [hml]; rfl) (Steps.refl _) (a := b11) (argsL := [(.int (4 : Int32)), (.int (4 : Int32))]) (rest := [(.ref b11)]) (lenOf own_pd_LIIRV rfl) rfl (by show 2 * 0 + _ ≤ _; exact Nat.le_of_eq rfl) (hb hby at_47) (fun _ _ => ⟨rfl, e11, (by decide : 1 + 7 ≤ _), (by decide : 9 + 24 ≤ _)⟩)
  dsimp only [Pt.U, Pt.locs, Pt.cells, Pt.slots] at X12 l12 y12 z12 st12 hQ12
  subst l12 y12 z12
  obtain ⟨rfl, N12q, A12, hA12, hn12, B12⟩ := hQ12
  have N12 := Fr.app N0 N12q
  obtain ⟨cq13, kq13, q13a, q13b, q13c⟩ := isOf hZ rfl (show Exa Z T12.heap b11 "quartess/quartet/Anchors" from own_B_E B12)
  obtain ⟨_, _, ⟨T13, L13, k13, n13⟩, -, X13, ⟨Lc13, hQ13, l13, y13, z13⟩, st13⟩ := X12.virtualBack hx (y := (⟨"quartess/quartet/Anchors", "cells", "(II)[I"⟩ : MethodName)) (z := (⟨"quartess/quartet/Anchors", "cells", "(II)[I"⟩ : MethodName)) hown (mvT hZ (hw _ (List.mem_of_getElem? (i := 26) rfl))) (mvT hZ (hw _ (List.mem_of_getElem? (i := 27) rfl))) (notFace_of_selects (args := #[]) (mvT hZ (hw _ (List.mem_of_getElem? (i := 29) rfl)))) (mvT hZ (hw _ (List.mem_of_getElem? (i := 29) rfl))) (mvT hZ (hw _ (List.mem_of_getElem? (i := 28) rfl))) (by decide) (backOf (W := 0) (rm3 l Z a0 hw [] b11 A12 0 (0 : Int32) (0 : Int32) (own_r p1) (own_r p2) R1 C1 T12.heap n0 (own_B_sz B12 gl) B12 hA12 ⟨gl, hn12⟩ hR1 hC1 lR1 lC1 (by decide)) hZ (hw _ (List.mem_of_getElem? (i := 30) rfl)) (hw _ (List.mem_of_getElem? (i := 3) rfl)) (by decide) (by decide)) q13a q13c (g := (mkF m 58 #[.val (.int p1), .val (.int p2), .val (.int p3), .val (.int p4), .val (.int p5), .val (.int (own_r p1)), .val (.int (own_r p2)), .val (.int (own_r p3)), .val (.int (own_r p4)), .val (.long (own_mm p5)), .second, .val (.ref b11), .unset, .unset, .unset, .unset, .unset, .unset, .unset, .unset] [(.int (own_r p2)), (.int (own_r p1)), (.ref b11)])) rfl (by rw [hml]; rfl) (Steps.refl _) (argsL := [(.int (own_r p1)), (.int (own_r p2))]) (rest := []) (lenOf own_pd_LIIRAI rfl) rfl (by show 2 * 0 + _ ≤ _; exact Nat.le_of_eq rfl) (hb hby at_58) (fun _ _ => ⟨rfl, rfl, (by decide : 8 + 1 ≤ _), (by decide : 33 + 16 ≤ _)⟩)
  dsimp only [Pt.U, Pt.locs, Pt.cells, Pt.slots] at X13 l13 y13 z13 st13 hQ13
  subst l13 y13 z13
  obtain ⟨A13, M13, rfl, N13q, hA13, hn13, B13, le13, lm13, eq13⟩ := hQ13
  have N13 := Fr.app N12 N13q
  obtain ⟨cq14, kq14, q14a, q14b, q14c⟩ := isOf hZ rfl (show Exa Z T13.heap b11 "quartess/quartet/Anchors" from own_B_E B13)
  obtain ⟨_, _, ⟨T14, L14, k14, n14⟩, -, X14, ⟨Lc14, hQ14, l14, y14, z14⟩, st14⟩ := X13.virtualBack hx (y := (⟨"quartess/quartet/Anchors", "cells", "(II)[I"⟩ : MethodName)) (z := (⟨"quartess/quartet/Anchors", "cells", "(II)[I"⟩ : MethodName)) hown (mvT hZ (hw _ (List.mem_of_getElem? (i := 26) rfl))) (mvT hZ (hw _ (List.mem_of_getElem? (i := 27) rfl))) (notFace_of_selects (args := #[]) (mvT hZ (hw _ (List.mem_of_getElem? (i := 29) rfl)))) (mvT hZ (hw _ (List.mem_of_getElem? (i := 29) rfl))) (mvT hZ (hw _ (List.mem_of_getElem? (i := 28) rfl))) (by decide) (backOf (W := 0) (rm3 l Z a0 hw [] b11 A13 M13 (own_r p1) (own_r p2) (own_r p3) (own_r p4) R2 C2 T13.heap n0 (own_B_sz B13 gl) B13 hA13 hn13 hR2 hC2 lR2 lC2 lm13) hZ (hw _ (List.mem_of_getElem? (i := 30) rfl)) (hw _ (List.mem_of_getElem? (i := 3) rfl)) (by decide) (by decide)) q14a q14c (g := (mkF m 92 #[.val (.int p1), .val (.int p2), .val (.int p3), .val (.int p4), .val (.int p5), .val (.int (own_r p1)), .val (.int (own_r p2)), .val (.int (own_r p3)), .val (.int (own_r p4)), .val (.long (own_mm p5)), .second, .val (.ref b11), .val (.ref (A13 0)), .val (.int (own_i M13)), .unset, .unset, .unset, .unset, .unset, .unset] [(.int (own_r p4)), (.int (own_r p3)), (.ref b11)])) rfl (by rw [hml]; rfl) (Steps.refl _) (argsL := [(.int (own_r p3)), (.int (own_r p4))]) (rest := []) (lenOf own_pd_LIIRAI rfl) rfl (by show 2 * 0 + _ ≤ _; exact Nat.le_of_eq rfl) (hb hby at_92) (fun _ _ => ⟨rfl, rfl, (by decide : 9 + 1 ≤ _), (by decide : 49 + 16 ≤ _)⟩)
  dsimp only [Pt.U, Pt.locs, Pt.cells, Pt.slots] at X14 l14 y14 z14 st14 hQ14
  subst l14 y14 z14
  obtain ⟨A14, M14, rfl, N14q, hA14, hn14, B14, le14, lm14, eq14⟩ := hQ14
  have N14 := Fr.app N13 N14q
  have br : ∀ target, Steps p.tables e below (T14.setTop (mkF m 134 #[.val (.int p1), .val (.int p2), .val (.int p3), .val (.int p4), .val (.int p5), .val (.int (own_r p1)), .val (.int (own_r p2)), .val (.int (own_r p3)), .val (.int (own_r p4)), .val (.long (own_mm p5)), .second, .val (.ref b11), .val (.ref (A13 0)), .val (.int (own_i M13)), .val (.ref (A14 0)), .unset, .unset, .unset, .unset, .unset] [])) target → Steps p.tables e below (T14.setTop (mkF m 122 #[.val (.int p1), .val (.int p2), .val (.int p3), .val (.int p4), .val (.int p5), .val (.int (own_r p1)), .val (.int (own_r p2)), .val (.int (own_r p3)), .val (.int (own_r p4)), .val (.long (own_mm p5)), .second, .val (.ref b11), .val (.ref (A13 0)), .val (.int (own_i M13)), .val (.ref (A14 0)), .unset, .unset, .unset, .unset, .unset] [(.int ((own_r p3) * (own_r p4))), (.int (own_i M13))])) target := by
    intro target kt
    by_cases hc122 : (own_i M13) < ((own_r p3) * (own_r p4))
    · refine XS.icmpYes X14.here hx rfl (pc0 := 122) (pc' := 134) rfl (hb hby at_122) rfl (tlt hc122).1 (by decide) (by decide) ?_
      exact kt
    · refine XS.icmpNo X14.here hx rfl (hb hby at_122) rfl (flt hc122).1 ?_
      show Steps p.tables e below (T14.setTop (mkF m 125 #[.val (.int p1), .val (.int p2), .val (.int p3), .val (.int p4), .val (.int p5), .val (.int (own_r p1)), .val (.int (own_r p2)), .val (.int (own_r p3)), .val (.int (own_r p4)), .val (.long (own_mm p5)), .second, .val (.ref b11), .val (.ref (A13 0)), .val (.int (own_i M13)), .val (.ref (A14 0)), .unset, .unset, .unset, .unset, .unset] [])) _
      refine XS.aload X14.here hx rfl (hb hby at_125) rfl rfl ?_
      show Steps p.tables e below (T14.setTop (mkF m 127 #[.val (.int p1), .val (.int p2), .val (.int p3), .val (.int p4), .val (.int p5), .val (.int (own_r p1)), .val (.int (own_r p2)), .val (.int (own_r p3)), .val (.int (own_r p4)), .val (.long (own_mm p5)), .second, .val (.ref b11), .val (.ref (A13 0)), .val (.int (own_i M13)), .val (.ref (A14 0)), .unset, .unset, .unset, .unset, .unset] [(.ref (A14 0))])) _
      refine XS.aload X14.here hx rfl (hb hby at_127) rfl rfl ?_
      show Steps p.tables e below (T14.setTop (mkF m 129 #[.val (.int p1), .val (.int p2), .val (.int p3), .val (.int p4), .val (.int p5), .val (.int (own_r p1)), .val (.int (own_r p2)), .val (.int (own_r p3)), .val (.int (own_r p4)), .val (.long (own_mm p5)), .second, .val (.ref b11), .val (.ref (A13 0)), .val (.int (own_i M13)), .val (.ref (A14 0)), .unset, .unset, .unset, .unset, .unset] [(.ref (A13 0)), (.ref (A14 0))])) _
      have hsame : A14 0 = A13 0 := eq14 (by have w : ¬ (M13 < R2 * C2) := fun z => hc122 ((own_len_ge hR2 hC2 lR2 lC2 lm13).mpr z); omega)
      refine Jvm.RoadKit.acmp (g := (mkF m 129 #[.val (.int p1), .val (.int p2), .val (.int p3), .val (.int p4), .val (.int p5), .val (.int (own_r p1)), .val (.int (own_r p2)), .val (.int (own_r p3)), .val (.int (own_r p4)), .val (.long (own_mm p5)), .second, .val (.ref b11), .val (.ref (A13 0)), .val (.int (own_i M13)), .val (.ref (A14 0)), .unset, .unset, .unset, .unset, .unset] [(.ref (A13 0)), (.ref (A14 0))])) X14 hx rfl rfl rfl (pc0 := 129) (pc' := 134) (same := true) rfl (hb hby at_129) rfl (decide_eq_true (congrArg Value.ref hsame)) (by decide) (by decide) ?_
      exact kt
  obtain ⟨cq15, kq15, q15a, q15b, q15c⟩ := isOf hZ rfl (show Exa Z T14.heap b11 "quartess/quartet/Anchors" from (own_B_E B14))
  obtain ⟨_, _, ⟨T15, L15, k15, n15⟩, -, X15, ⟨Lc15, hQ15, l15, y15, z15⟩, st15⟩ := X14.virtualBack hx (y := (⟨"quartess/quartet/Anchors", "count", "(J)J"⟩ : MethodName)) (z := (⟨"quartess/quartet/Anchors", "count", "(J)J"⟩ : MethodName)) hown (mvT hZ (hw _ (List.mem_of_getElem? (i := 39) rfl))) (mvT hZ (hw _ (List.mem_of_getElem? (i := 40) rfl))) (notFace_of_selects (args := #[]) (mvT hZ (hw _ (List.mem_of_getElem? (i := 42) rfl)))) (mvT hZ (hw _ (List.mem_of_getElem? (i := 42) rfl))) (mvT hZ (hw _ (List.mem_of_getElem? (i := 41) rfl))) (by decide) (backOf (W := 0) (rm5 l Z a0 hw [] b11 A14 M14 own_zi (own_r p3) (own_r p4) R2 C2 (0 : Int64) T14.heap n0 (own_B_sz B14 gl) B14 hA14 hn14 hR2 hC2 lR2 lC2 le14) hZ (hw _ (List.mem_of_getElem? (i := 43) rfl)) (hw _ (List.mem_of_getElem? (i := 3) rfl)) (by decide) (by decide)) q15a q15c (g := (mkF m 228 #[.val (.int p1), .val (.int p2), .val (.int p3), .val (.int p4), .val (.int p5), .val (.int (own_r p1)), .val (.int (own_r p2)), .val (.int (own_r p3)), .val (.int (own_r p4)), .val (.long (own_mm p5)), .second, .val (.ref b11), .val (.ref (A13 0)), .val (.int (own_i M13)), .val (.ref (A14 0)), .val (.int (own_big (own_r p3) (own_r p4))), .val (.long (0 : Int64)), .second, .val (.long (0 : Int64)), .second] [(.long (0 : Int64)), (.ref b11)])) rfl (by rw [hml]; rfl) (Steps.refl _) (argsL := [(.long (0 : Int64))]) (rest := []) (lenOf own_pd_LJRJ rfl) rfl (by show 2 * 0 + _ ≤ _; exact Nat.le_of_eq rfl) (hb hby at_228) (fun _ _ => ⟨rfl, rfl, (by decide : 10 + 0 ≤ _), (by decide : 65 + 0 ≤ _)⟩)
  dsimp only [Pt.U, Pt.locs, Pt.cells, Pt.slots] at X15 l15 y15 z15 st15 hQ15
  subst l15 y15 z15
  obtain ⟨rfl, N15q⟩ := hQ15
  have N15 := Fr.app N14 N15q
  obtain ⟨fs, hr, hrun, hended, hW, hsame⟩ := X15.leave (v := some (.int (1 : Int32))) (fun h => by rw [Bd.returns] at h; cases h)
  refine ⟨_, _, pre0 _ ?_, hrun, hended, _, _, rfl, ?_, ⟨_, rfl⟩, hW, hsame.mono (by decide) (by decide)⟩
  · show Steps p.tables e below (s₁.setTop (mkF m 0 #[.val (.int p1), .val (.int p2), .val (.int p3), .val (.int p4), .val (.int p5), .unset, .unset, .unset, .unset, .unset, .unset, .unset, .unset, .unset, .unset, .unset, .unset, .unset, .unset, .unset] [])) _
    refine XS.iloadN X0.here hx rfl (hb hby at_0) rfl ?_
    show Steps p.tables e below (s₁.setTop (mkF m 1 #[.val (.int p1), .val (.int p2), .val (.int p3), .val (.int p4), .val (.int p5), .unset, .unset, .unset, .unset, .unset, .unset, .unset, .unset, .unset, .unset, .unset, .unset, .unset, .unset, .unset] [(.int p1)])) _
    refine X0.ldcInt hx hown (mvT hZ (hw _ (List.mem_of_getElem? (i := 0) rfl))) (g := (mkF m 1 #[.val (.int p1), .val (.int p2), .val (.int p3), .val (.int p4), .val (.int p5), .unset, .unset, .unset, .unset, .unset, .unset, .unset, .unset, .unset, .unset, .unset, .unset, .unset, .unset, .unset] [(.int p1)])) rfl (hb hby at_1) _ ?_
    show Steps p.tables e below (s₁.setTop (mkF m 3 #[.val (.int p1), .val (.int p2), .val (.int p3), .val (.int p4), .val (.int p5), .unset, .unset, .unset, .unset, .unset, .unset, .unset, .unset, .unset, .unset, .unset, .unset, .unset, .unset, .unset] [(.int (2147483647 : Int32)), (.int p1)])) _
    refine XS.iand X0.here hx rfl (hb hby at_3) rfl ?_
    show Steps p.tables e below (s₁.setTop (mkF m 4 #[.val (.int p1), .val (.int p2), .val (.int p3), .val (.int p4), .val (.int p5), .unset, .unset, .unset, .unset, .unset, .unset, .unset, .unset, .unset, .unset, .unset, .unset, .unset, .unset, .unset] [(.int (p1 &&& (2147483647 : Int32)))])) _
    refine XS.iconst X0.here hx rfl (hb hby at_4) ?_
    show Steps p.tables e below (s₁.setTop (mkF m 5 #[.val (.int p1), .val (.int p2), .val (.int p3), .val (.int p4), .val (.int p5), .unset, .unset, .unset, .unset, .unset, .unset, .unset, .unset, .unset, .unset, .unset, .unset, .unset, .unset, .unset] [(.int (5 : Int32)), (.int (p1 &&& (2147483647 : Int32)))])) _
    refine iremM X0 hx rfl (hb hby at_5) rfl (by decide) ?_
    show Steps p.tables e below (s₁.setTop (mkF m 6 #[.val (.int p1), .val (.int p2), .val (.int p3), .val (.int p4), .val (.int p5), .unset, .unset, .unset, .unset, .unset, .unset, .unset, .unset, .unset, .unset, .unset, .unset, .unset, .unset, .unset] [(.int ((p1 &&& (2147483647 : Int32)) % (5 : Int32)))])) _
    refine XS.istore X0.here hx rfl (hb hby at_6) rfl (l' := #[.val (.int p1), .val (.int p2), .val (.int p3), .val (.int p4), .val (.int p5), .val (.int ((p1 &&& (2147483647 : Int32)) % (5 : Int32))), .unset, .unset, .unset, .unset, .unset, .unset, .unset, .unset, .unset, .unset, .unset, .unset, .unset, .unset]) rfl ?_
    show Steps p.tables e below (s₁.setTop (mkF m 8 #[.val (.int p1), .val (.int p2), .val (.int p3), .val (.int p4), .val (.int p5), .val (.int (own_r p1)), .unset, .unset, .unset, .unset, .unset, .unset, .unset, .unset, .unset, .unset, .unset, .unset, .unset, .unset] [])) _
    refine XS.iloadN X0.here hx rfl (hb hby at_8) rfl ?_
    show Steps p.tables e below (s₁.setTop (mkF m 9 #[.val (.int p1), .val (.int p2), .val (.int p3), .val (.int p4), .val (.int p5), .val (.int (own_r p1)), .unset, .unset, .unset, .unset, .unset, .unset, .unset, .unset, .unset, .unset, .unset, .unset, .unset, .unset] [(.int p2)])) _
    refine X0.ldcInt hx hown (mvT hZ (hw _ (List.mem_of_getElem? (i := 0) rfl))) (g := (mkF m 9 #[.val (.int p1), .val (.int p2), .val (.int p3), .val (.int p4), .val (.int p5), .val (.int (own_r p1)), .unset, .unset, .unset, .unset, .unset, .unset, .unset, .unset, .unset, .unset, .unset, .unset, .unset, .unset] [(.int p2)])) rfl (hb hby at_9) _ ?_
    show Steps p.tables e below (s₁.setTop (mkF m 11 #[.val (.int p1), .val (.int p2), .val (.int p3), .val (.int p4), .val (.int p5), .val (.int (own_r p1)), .unset, .unset, .unset, .unset, .unset, .unset, .unset, .unset, .unset, .unset, .unset, .unset, .unset, .unset] [(.int (2147483647 : Int32)), (.int p2)])) _
    refine XS.iand X0.here hx rfl (hb hby at_11) rfl ?_
    show Steps p.tables e below (s₁.setTop (mkF m 12 #[.val (.int p1), .val (.int p2), .val (.int p3), .val (.int p4), .val (.int p5), .val (.int (own_r p1)), .unset, .unset, .unset, .unset, .unset, .unset, .unset, .unset, .unset, .unset, .unset, .unset, .unset, .unset] [(.int (p2 &&& (2147483647 : Int32)))])) _
    refine XS.iconst X0.here hx rfl (hb hby at_12) ?_
    show Steps p.tables e below (s₁.setTop (mkF m 13 #[.val (.int p1), .val (.int p2), .val (.int p3), .val (.int p4), .val (.int p5), .val (.int (own_r p1)), .unset, .unset, .unset, .unset, .unset, .unset, .unset, .unset, .unset, .unset, .unset, .unset, .unset, .unset] [(.int (5 : Int32)), (.int (p2 &&& (2147483647 : Int32)))])) _
    refine iremM X0 hx rfl (hb hby at_13) rfl (by decide) ?_
    show Steps p.tables e below (s₁.setTop (mkF m 14 #[.val (.int p1), .val (.int p2), .val (.int p3), .val (.int p4), .val (.int p5), .val (.int (own_r p1)), .unset, .unset, .unset, .unset, .unset, .unset, .unset, .unset, .unset, .unset, .unset, .unset, .unset, .unset] [(.int ((p2 &&& (2147483647 : Int32)) % (5 : Int32)))])) _
    refine XS.istore X0.here hx rfl (hb hby at_14) rfl (l' := #[.val (.int p1), .val (.int p2), .val (.int p3), .val (.int p4), .val (.int p5), .val (.int (own_r p1)), .val (.int ((p2 &&& (2147483647 : Int32)) % (5 : Int32))), .unset, .unset, .unset, .unset, .unset, .unset, .unset, .unset, .unset, .unset, .unset, .unset, .unset]) rfl ?_
    show Steps p.tables e below (s₁.setTop (mkF m 16 #[.val (.int p1), .val (.int p2), .val (.int p3), .val (.int p4), .val (.int p5), .val (.int (own_r p1)), .val (.int (own_r p2)), .unset, .unset, .unset, .unset, .unset, .unset, .unset, .unset, .unset, .unset, .unset, .unset, .unset] [])) _
    refine XS.iloadN X0.here hx rfl (hb hby at_16) rfl ?_
    show Steps p.tables e below (s₁.setTop (mkF m 17 #[.val (.int p1), .val (.int p2), .val (.int p3), .val (.int p4), .val (.int p5), .val (.int (own_r p1)), .val (.int (own_r p2)), .unset, .unset, .unset, .unset, .unset, .unset, .unset, .unset, .unset, .unset, .unset, .unset, .unset] [(.int p3)])) _
    refine X0.ldcInt hx hown (mvT hZ (hw _ (List.mem_of_getElem? (i := 0) rfl))) (g := (mkF m 17 #[.val (.int p1), .val (.int p2), .val (.int p3), .val (.int p4), .val (.int p5), .val (.int (own_r p1)), .val (.int (own_r p2)), .unset, .unset, .unset, .unset, .unset, .unset, .unset, .unset, .unset, .unset, .unset, .unset, .unset] [(.int p3)])) rfl (hb hby at_17) _ ?_
    show Steps p.tables e below (s₁.setTop (mkF m 19 #[.val (.int p1), .val (.int p2), .val (.int p3), .val (.int p4), .val (.int p5), .val (.int (own_r p1)), .val (.int (own_r p2)), .unset, .unset, .unset, .unset, .unset, .unset, .unset, .unset, .unset, .unset, .unset, .unset, .unset] [(.int (2147483647 : Int32)), (.int p3)])) _
    refine XS.iand X0.here hx rfl (hb hby at_19) rfl ?_
    show Steps p.tables e below (s₁.setTop (mkF m 20 #[.val (.int p1), .val (.int p2), .val (.int p3), .val (.int p4), .val (.int p5), .val (.int (own_r p1)), .val (.int (own_r p2)), .unset, .unset, .unset, .unset, .unset, .unset, .unset, .unset, .unset, .unset, .unset, .unset, .unset] [(.int (p3 &&& (2147483647 : Int32)))])) _
    refine XS.iconst X0.here hx rfl (hb hby at_20) ?_
    show Steps p.tables e below (s₁.setTop (mkF m 21 #[.val (.int p1), .val (.int p2), .val (.int p3), .val (.int p4), .val (.int p5), .val (.int (own_r p1)), .val (.int (own_r p2)), .unset, .unset, .unset, .unset, .unset, .unset, .unset, .unset, .unset, .unset, .unset, .unset, .unset] [(.int (5 : Int32)), (.int (p3 &&& (2147483647 : Int32)))])) _
    refine iremM X0 hx rfl (hb hby at_21) rfl (by decide) ?_
    show Steps p.tables e below (s₁.setTop (mkF m 22 #[.val (.int p1), .val (.int p2), .val (.int p3), .val (.int p4), .val (.int p5), .val (.int (own_r p1)), .val (.int (own_r p2)), .unset, .unset, .unset, .unset, .unset, .unset, .unset, .unset, .unset, .unset, .unset, .unset, .unset] [(.int ((p3 &&& (2147483647 : Int32)) % (5 : Int32)))])) _
    refine XS.istore X0.here hx rfl (hb hby at_22) rfl (l' := #[.val (.int p1), .val (.int p2), .val (.int p3), .val (.int p4), .val (.int p5), .val (.int (own_r p1)), .val (.int (own_r p2)), .val (.int ((p3 &&& (2147483647 : Int32)) % (5 : Int32))), .unset, .unset, .unset, .unset, .unset, .unset, .unset, .unset, .unset, .unset, .unset, .unset]) rfl ?_
    show Steps p.tables e below (s₁.setTop (mkF m 24 #[.val (.int p1), .val (.int p2), .val (.int p3), .val (.int p4), .val (.int p5), .val (.int (own_r p1)), .val (.int (own_r p2)), .val (.int (own_r p3)), .unset, .unset, .unset, .unset, .unset, .unset, .unset, .unset, .unset, .unset, .unset, .unset] [])) _
    refine XS.iloadN X0.here hx rfl (hb hby at_24) rfl ?_
    show Steps p.tables e below (s₁.setTop (mkF m 25 #[.val (.int p1), .val (.int p2), .val (.int p3), .val (.int p4), .val (.int p5), .val (.int (own_r p1)), .val (.int (own_r p2)), .val (.int (own_r p3)), .unset, .unset, .unset, .unset, .unset, .unset, .unset, .unset, .unset, .unset, .unset, .unset] [(.int p4)])) _
    refine X0.ldcInt hx hown (mvT hZ (hw _ (List.mem_of_getElem? (i := 0) rfl))) (g := (mkF m 25 #[.val (.int p1), .val (.int p2), .val (.int p3), .val (.int p4), .val (.int p5), .val (.int (own_r p1)), .val (.int (own_r p2)), .val (.int (own_r p3)), .unset, .unset, .unset, .unset, .unset, .unset, .unset, .unset, .unset, .unset, .unset, .unset] [(.int p4)])) rfl (hb hby at_25) _ ?_
    show Steps p.tables e below (s₁.setTop (mkF m 27 #[.val (.int p1), .val (.int p2), .val (.int p3), .val (.int p4), .val (.int p5), .val (.int (own_r p1)), .val (.int (own_r p2)), .val (.int (own_r p3)), .unset, .unset, .unset, .unset, .unset, .unset, .unset, .unset, .unset, .unset, .unset, .unset] [(.int (2147483647 : Int32)), (.int p4)])) _
    refine XS.iand X0.here hx rfl (hb hby at_27) rfl ?_
    show Steps p.tables e below (s₁.setTop (mkF m 28 #[.val (.int p1), .val (.int p2), .val (.int p3), .val (.int p4), .val (.int p5), .val (.int (own_r p1)), .val (.int (own_r p2)), .val (.int (own_r p3)), .unset, .unset, .unset, .unset, .unset, .unset, .unset, .unset, .unset, .unset, .unset, .unset] [(.int (p4 &&& (2147483647 : Int32)))])) _
    refine XS.iconst X0.here hx rfl (hb hby at_28) ?_
    show Steps p.tables e below (s₁.setTop (mkF m 29 #[.val (.int p1), .val (.int p2), .val (.int p3), .val (.int p4), .val (.int p5), .val (.int (own_r p1)), .val (.int (own_r p2)), .val (.int (own_r p3)), .unset, .unset, .unset, .unset, .unset, .unset, .unset, .unset, .unset, .unset, .unset, .unset] [(.int (5 : Int32)), (.int (p4 &&& (2147483647 : Int32)))])) _
    refine iremM X0 hx rfl (hb hby at_29) rfl (by decide) ?_
    show Steps p.tables e below (s₁.setTop (mkF m 30 #[.val (.int p1), .val (.int p2), .val (.int p3), .val (.int p4), .val (.int p5), .val (.int (own_r p1)), .val (.int (own_r p2)), .val (.int (own_r p3)), .unset, .unset, .unset, .unset, .unset, .unset, .unset, .unset, .unset, .unset, .unset, .unset] [(.int ((p4 &&& (2147483647 : Int32)) % (5 : Int32)))])) _
    refine XS.istore X0.here hx rfl (hb hby at_30) rfl (l' := #[.val (.int p1), .val (.int p2), .val (.int p3), .val (.int p4), .val (.int p5), .val (.int (own_r p1)), .val (.int (own_r p2)), .val (.int (own_r p3)), .val (.int ((p4 &&& (2147483647 : Int32)) % (5 : Int32))), .unset, .unset, .unset, .unset, .unset, .unset, .unset, .unset, .unset, .unset, .unset]) rfl ?_
    show Steps p.tables e below (s₁.setTop (mkF m 32 #[.val (.int p1), .val (.int p2), .val (.int p3), .val (.int p4), .val (.int p5), .val (.int (own_r p1)), .val (.int (own_r p2)), .val (.int (own_r p3)), .val (.int (own_r p4)), .unset, .unset, .unset, .unset, .unset, .unset, .unset, .unset, .unset, .unset, .unset] [])) _
    refine XS.iload X0.here hx rfl (hb hby at_32) rfl ?_
    show Steps p.tables e below (s₁.setTop (mkF m 34 #[.val (.int p1), .val (.int p2), .val (.int p3), .val (.int p4), .val (.int p5), .val (.int (own_r p1)), .val (.int (own_r p2)), .val (.int (own_r p3)), .val (.int (own_r p4)), .unset, .unset, .unset, .unset, .unset, .unset, .unset, .unset, .unset, .unset, .unset] [(.int p5)])) _
    refine XS.sipush X0.here hx rfl (hb hby at_34) ?_
    show Steps p.tables e below (s₁.setTop (mkF m 37 #[.val (.int p1), .val (.int p2), .val (.int p3), .val (.int p4), .val (.int p5), .val (.int (own_r p1)), .val (.int (own_r p2)), .val (.int (own_r p3)), .val (.int (own_r p4)), .unset, .unset, .unset, .unset, .unset, .unset, .unset, .unset, .unset, .unset, .unset] [(.int (1023 : Int32)), (.int p5)])) _
    refine XS.iand X0.here hx rfl (hb hby at_37) rfl ?_
    show Steps p.tables e below (s₁.setTop (mkF m 38 #[.val (.int p1), .val (.int p2), .val (.int p3), .val (.int p4), .val (.int p5), .val (.int (own_r p1)), .val (.int (own_r p2)), .val (.int (own_r p3)), .val (.int (own_r p4)), .unset, .unset, .unset, .unset, .unset, .unset, .unset, .unset, .unset, .unset, .unset] [(.int (p5 &&& (1023 : Int32)))])) _
    refine XS.i2l X0.here hx rfl (hb hby at_38) rfl ?_
    show Steps p.tables e below (s₁.setTop (mkF m 39 #[.val (.int p1), .val (.int p2), .val (.int p3), .val (.int p4), .val (.int p5), .val (.int (own_r p1)), .val (.int (own_r p2)), .val (.int (own_r p3)), .val (.int (own_r p4)), .unset, .unset, .unset, .unset, .unset, .unset, .unset, .unset, .unset, .unset, .unset] [(.long ((p5 &&& (1023 : Int32)).toInt64))])) _
    refine XS.lstore X0.here hx rfl (hb hby at_39) rfl (l' := #[.val (.int p1), .val (.int p2), .val (.int p3), .val (.int p4), .val (.int p5), .val (.int (own_r p1)), .val (.int (own_r p2)), .val (.int (own_r p3)), .val (.int (own_r p4)), .val (.long ((p5 &&& (1023 : Int32)).toInt64)), .second, .unset, .unset, .unset, .unset, .unset, .unset, .unset, .unset, .unset]) rfl ?_
    show Steps p.tables e below (s₁.setTop (mkF m 41 #[.val (.int p1), .val (.int p2), .val (.int p3), .val (.int p4), .val (.int p5), .val (.int (own_r p1)), .val (.int (own_r p2)), .val (.int (own_r p3)), .val (.int (own_r p4)), .val (.long (own_mm p5)), .second, .unset, .unset, .unset, .unset, .unset, .unset, .unset, .unset, .unset] [])) _
    refine st11 _ ?_
    show Steps p.tables e below (T11.setTop (mkF m 44 #[.val (.int p1), .val (.int p2), .val (.int p3), .val (.int p4), .val (.int p5), .val (.int (own_r p1)), .val (.int (own_r p2)), .val (.int (own_r p3)), .val (.int (own_r p4)), .val (.long (own_mm p5)), .second, .unset, .unset, .unset, .unset, .unset, .unset, .unset, .unset, .unset] [(.ref b11)])) _
    refine XS.dup X11.here hx rfl (hb hby at_44) rfl rfl ?_
    show Steps p.tables e below (T11.setTop (mkF m 45 #[.val (.int p1), .val (.int p2), .val (.int p3), .val (.int p4), .val (.int p5), .val (.int (own_r p1)), .val (.int (own_r p2)), .val (.int (own_r p3)), .val (.int (own_r p4)), .val (.long (own_mm p5)), .second, .unset, .unset, .unset, .unset, .unset, .unset, .unset, .unset, .unset] [(.ref b11), (.ref b11)])) _
    refine XS.iconst X11.here hx rfl (hb hby at_45) ?_
    show Steps p.tables e below (T11.setTop (mkF m 46 #[.val (.int p1), .val (.int p2), .val (.int p3), .val (.int p4), .val (.int p5), .val (.int (own_r p1)), .val (.int (own_r p2)), .val (.int (own_r p3)), .val (.int (own_r p4)), .val (.long (own_mm p5)), .second, .unset, .unset, .unset, .unset, .unset, .unset, .unset, .unset, .unset] [(.int (4 : Int32)), (.ref b11), (.ref b11)])) _
    refine XS.iconst X11.here hx rfl (hb hby at_46) ?_
    show Steps p.tables e below (T11.setTop (mkF m 47 #[.val (.int p1), .val (.int p2), .val (.int p3), .val (.int p4), .val (.int p5), .val (.int (own_r p1)), .val (.int (own_r p2)), .val (.int (own_r p3)), .val (.int (own_r p4)), .val (.long (own_mm p5)), .second, .unset, .unset, .unset, .unset, .unset, .unset, .unset, .unset, .unset] [(.int (4 : Int32)), (.int (4 : Int32)), (.ref b11), (.ref b11)])) _
    refine st12.trans ?_
    show Steps p.tables e below (T12.setTop (mkF m 50 #[.val (.int p1), .val (.int p2), .val (.int p3), .val (.int p4), .val (.int p5), .val (.int (own_r p1)), .val (.int (own_r p2)), .val (.int (own_r p3)), .val (.int (own_r p4)), .val (.long (own_mm p5)), .second, .unset, .unset, .unset, .unset, .unset, .unset, .unset, .unset, .unset] [(.ref b11)])) _
    refine XS.astore X12.here hx rfl (hb hby at_50) rfl rfl (l' := #[.val (.int p1), .val (.int p2), .val (.int p3), .val (.int p4), .val (.int p5), .val (.int (own_r p1)), .val (.int (own_r p2)), .val (.int (own_r p3)), .val (.int (own_r p4)), .val (.long (own_mm p5)), .second, .val (.ref b11), .unset, .unset, .unset, .unset, .unset, .unset, .unset, .unset]) rfl ?_
    show Steps p.tables e below (T12.setTop (mkF m 52 #[.val (.int p1), .val (.int p2), .val (.int p3), .val (.int p4), .val (.int p5), .val (.int (own_r p1)), .val (.int (own_r p2)), .val (.int (own_r p3)), .val (.int (own_r p4)), .val (.long (own_mm p5)), .second, .val (.ref b11), .unset, .unset, .unset, .unset, .unset, .unset, .unset, .unset] [])) _
    refine XS.aload X12.here hx rfl (hb hby at_52) rfl rfl ?_
    show Steps p.tables e below (T12.setTop (mkF m 54 #[.val (.int p1), .val (.int p2), .val (.int p3), .val (.int p4), .val (.int p5), .val (.int (own_r p1)), .val (.int (own_r p2)), .val (.int (own_r p3)), .val (.int (own_r p4)), .val (.long (own_mm p5)), .second, .val (.ref b11), .unset, .unset, .unset, .unset, .unset, .unset, .unset, .unset] [(.ref b11)])) _
    refine XS.iload X12.here hx rfl (hb hby at_54) rfl ?_
    show Steps p.tables e below (T12.setTop (mkF m 56 #[.val (.int p1), .val (.int p2), .val (.int p3), .val (.int p4), .val (.int p5), .val (.int (own_r p1)), .val (.int (own_r p2)), .val (.int (own_r p3)), .val (.int (own_r p4)), .val (.long (own_mm p5)), .second, .val (.ref b11), .unset, .unset, .unset, .unset, .unset, .unset, .unset, .unset] [(.int (own_r p1)), (.ref b11)])) _
    refine XS.iload X12.here hx rfl (hb hby at_56) rfl ?_
    show Steps p.tables e below (T12.setTop (mkF m 58 #[.val (.int p1), .val (.int p2), .val (.int p3), .val (.int p4), .val (.int p5), .val (.int (own_r p1)), .val (.int (own_r p2)), .val (.int (own_r p3)), .val (.int (own_r p4)), .val (.long (own_mm p5)), .second, .val (.ref b11), .unset, .unset, .unset, .unset, .unset, .unset, .unset, .unset] [(.int (own_r p2)), (.int (own_r p1)), (.ref b11)])) _
    refine st13.trans ?_
    show Steps p.tables e below (T13.setTop (mkF m 61 #[.val (.int p1), .val (.int p2), .val (.int p3), .val (.int p4), .val (.int p5), .val (.int (own_r p1)), .val (.int (own_r p2)), .val (.int (own_r p3)), .val (.int (own_r p4)), .val (.long (own_mm p5)), .second, .val (.ref b11), .unset, .unset, .unset, .unset, .unset, .unset, .unset, .unset] [(.ref (A13 0))])) _
    refine XS.astore X13.here hx rfl (hb hby at_61) rfl rfl (l' := #[.val (.int p1), .val (.int p2), .val (.int p3), .val (.int p4), .val (.int p5), .val (.int (own_r p1)), .val (.int (own_r p2)), .val (.int (own_r p3)), .val (.int (own_r p4)), .val (.long (own_mm p5)), .second, .val (.ref b11), .val (.ref (A13 0)), .unset, .unset, .unset, .unset, .unset, .unset, .unset]) rfl ?_
    show Steps p.tables e below (T13.setTop (mkF m 63 #[.val (.int p1), .val (.int p2), .val (.int p3), .val (.int p4), .val (.int p5), .val (.int (own_r p1)), .val (.int (own_r p2)), .val (.int (own_r p3)), .val (.int (own_r p4)), .val (.long (own_mm p5)), .second, .val (.ref b11), .val (.ref (A13 0)), .unset, .unset, .unset, .unset, .unset, .unset, .unset] [])) _
    refine XS.aload X13.here hx rfl (hb hby at_63) rfl rfl ?_
    show Steps p.tables e below (T13.setTop (mkF m 65 #[.val (.int p1), .val (.int p2), .val (.int p3), .val (.int p4), .val (.int p5), .val (.int (own_r p1)), .val (.int (own_r p2)), .val (.int (own_r p3)), .val (.int (own_r p4)), .val (.long (own_mm p5)), .second, .val (.ref b11), .val (.ref (A13 0)), .unset, .unset, .unset, .unset, .unset, .unset, .unset] [(.ref (A13 0))])) _
    refine XS.ifnullNo X13.here hx rfl (hb hby at_65) rfl ?_
    show Steps p.tables e below (T13.setTop (mkF m 68 #[.val (.int p1), .val (.int p2), .val (.int p3), .val (.int p4), .val (.int p5), .val (.int (own_r p1)), .val (.int (own_r p2)), .val (.int (own_r p3)), .val (.int (own_r p4)), .val (.long (own_mm p5)), .second, .val (.ref b11), .val (.ref (A13 0)), .unset, .unset, .unset, .unset, .unset, .unset, .unset] [])) _
    refine XS.aload X13.here hx rfl (hb hby at_68) rfl rfl ?_
    show Steps p.tables e below (T13.setTop (mkF m 70 #[.val (.int p1), .val (.int p2), .val (.int p3), .val (.int p4), .val (.int p5), .val (.int (own_r p1)), .val (.int (own_r p2)), .val (.int (own_r p3)), .val (.int (own_r p4)), .val (.long (own_mm p5)), .second, .val (.ref b11), .val (.ref (A13 0)), .unset, .unset, .unset, .unset, .unset, .unset, .unset] [(.ref (A13 0))])) _
    refine own_lenI X13 hx hZ rfl (own_B_v0 B13) (g := (mkF m 70 #[.val (.int p1), .val (.int p2), .val (.int p3), .val (.int p4), .val (.int p5), .val (.int (own_r p1)), .val (.int (own_r p2)), .val (.int (own_r p3)), .val (.int (own_r p4)), .val (.long (own_mm p5)), .second, .val (.ref b11), .val (.ref (A13 0)), .unset, .unset, .unset, .unset, .unset, .unset, .unset] [(.ref (A13 0))])) rfl rfl (hb hby at_70) _ ?_
    show Steps p.tables e below (T13.setTop (mkF m 71 #[.val (.int p1), .val (.int p2), .val (.int p3), .val (.int p4), .val (.int p5), .val (.int (own_r p1)), .val (.int (own_r p2)), .val (.int (own_r p3)), .val (.int (own_r p4)), .val (.long (own_mm p5)), .second, .val (.ref b11), .val (.ref (A13 0)), .unset, .unset, .unset, .unset, .unset, .unset, .unset] [(.int (own_i M13))])) _
    refine XS.iload X13.here hx rfl (hb hby at_71) rfl ?_
    show Steps p.tables e below (T13.setTop (mkF m 73 #[.val (.int p1), .val (.int p2), .val (.int p3), .val (.int p4), .val (.int p5), .val (.int (own_r p1)), .val (.int (own_r p2)), .val (.int (own_r p3)), .val (.int (own_r p4)), .val (.long (own_mm p5)), .second, .val (.ref b11), .val (.ref (A13 0)), .unset, .unset, .unset, .unset, .unset, .unset, .unset] [(.int (own_r p1)), (.int (own_i M13))])) _
    refine XS.iload X13.here hx rfl (hb hby at_73) rfl ?_
    show Steps p.tables e below (T13.setTop (mkF m 75 #[.val (.int p1), .val (.int p2), .val (.int p3), .val (.int p4), .val (.int p5), .val (.int (own_r p1)), .val (.int (own_r p2)), .val (.int (own_r p3)), .val (.int (own_r p4)), .val (.long (own_mm p5)), .second, .val (.ref b11), .val (.ref (A13 0)), .unset, .unset, .unset, .unset, .unset, .unset, .unset] [(.int (own_r p2)), (.int (own_r p1)), (.int (own_i M13))])) _
    refine XS.imul X13.here hx rfl (hb hby at_75) rfl ?_
    show Steps p.tables e below (T13.setTop (mkF m 76 #[.val (.int p1), .val (.int p2), .val (.int p3), .val (.int p4), .val (.int p5), .val (.int (own_r p1)), .val (.int (own_r p2)), .val (.int (own_r p3)), .val (.int (own_r p4)), .val (.long (own_mm p5)), .second, .val (.ref b11), .val (.ref (A13 0)), .unset, .unset, .unset, .unset, .unset, .unset, .unset] [(.int ((own_r p1) * (own_r p2))), (.int (own_i M13))])) _
    refine XS.icmpYes X13.here hx rfl (pc0 := 76) (pc' := 81) rfl (hb hby at_76) rfl (flt (fun w => absurd ((own_len_ge hR1 hC1 lR1 lC1 lm13).mp w) (by omega) : ¬ ((own_i M13) < ((own_r p1) * (own_r p2))))).2.1 (by decide) (by decide) ?_
    show Steps p.tables e below (T13.setTop (mkF m 81 #[.val (.int p1), .val (.int p2), .val (.int p3), .val (.int p4), .val (.int p5), .val (.int (own_r p1)), .val (.int (own_r p2)), .val (.int (own_r p3)), .val (.int (own_r p4)), .val (.long (own_mm p5)), .second, .val (.ref b11), .val (.ref (A13 0)), .unset, .unset, .unset, .unset, .unset, .unset, .unset] [])) _
    refine XS.aload X13.here hx rfl (hb hby at_81) rfl rfl ?_
    show Steps p.tables e below (T13.setTop (mkF m 83 #[.val (.int p1), .val (.int p2), .val (.int p3), .val (.int p4), .val (.int p5), .val (.int (own_r p1)), .val (.int (own_r p2)), .val (.int (own_r p3)), .val (.int (own_r p4)), .val (.long (own_mm p5)), .second, .val (.ref b11), .val (.ref (A13 0)), .unset, .unset, .unset, .unset, .unset, .unset, .unset] [(.ref (A13 0))])) _
    refine own_lenI X13 hx hZ rfl (own_B_v0 B13) (g := (mkF m 83 #[.val (.int p1), .val (.int p2), .val (.int p3), .val (.int p4), .val (.int p5), .val (.int (own_r p1)), .val (.int (own_r p2)), .val (.int (own_r p3)), .val (.int (own_r p4)), .val (.long (own_mm p5)), .second, .val (.ref b11), .val (.ref (A13 0)), .unset, .unset, .unset, .unset, .unset, .unset, .unset] [(.ref (A13 0))])) rfl rfl (hb hby at_83) _ ?_
    show Steps p.tables e below (T13.setTop (mkF m 84 #[.val (.int p1), .val (.int p2), .val (.int p3), .val (.int p4), .val (.int p5), .val (.int (own_r p1)), .val (.int (own_r p2)), .val (.int (own_r p3)), .val (.int (own_r p4)), .val (.long (own_mm p5)), .second, .val (.ref b11), .val (.ref (A13 0)), .unset, .unset, .unset, .unset, .unset, .unset, .unset] [(.int (own_i M13))])) _
    refine XS.istore X13.here hx rfl (hb hby at_84) rfl (l' := #[.val (.int p1), .val (.int p2), .val (.int p3), .val (.int p4), .val (.int p5), .val (.int (own_r p1)), .val (.int (own_r p2)), .val (.int (own_r p3)), .val (.int (own_r p4)), .val (.long (own_mm p5)), .second, .val (.ref b11), .val (.ref (A13 0)), .val (.int (own_i M13)), .unset, .unset, .unset, .unset, .unset, .unset]) rfl ?_
    show Steps p.tables e below (T13.setTop (mkF m 86 #[.val (.int p1), .val (.int p2), .val (.int p3), .val (.int p4), .val (.int p5), .val (.int (own_r p1)), .val (.int (own_r p2)), .val (.int (own_r p3)), .val (.int (own_r p4)), .val (.long (own_mm p5)), .second, .val (.ref b11), .val (.ref (A13 0)), .val (.int (own_i M13)), .unset, .unset, .unset, .unset, .unset, .unset] [])) _
    refine XS.aload X13.here hx rfl (hb hby at_86) rfl rfl ?_
    show Steps p.tables e below (T13.setTop (mkF m 88 #[.val (.int p1), .val (.int p2), .val (.int p3), .val (.int p4), .val (.int p5), .val (.int (own_r p1)), .val (.int (own_r p2)), .val (.int (own_r p3)), .val (.int (own_r p4)), .val (.long (own_mm p5)), .second, .val (.ref b11), .val (.ref (A13 0)), .val (.int (own_i M13)), .unset, .unset, .unset, .unset, .unset, .unset] [(.ref b11)])) _
    refine XS.iload X13.here hx rfl (hb hby at_88) rfl ?_
    show Steps p.tables e below (T13.setTop (mkF m 90 #[.val (.int p1), .val (.int p2), .val (.int p3), .val (.int p4), .val (.int p5), .val (.int (own_r p1)), .val (.int (own_r p2)), .val (.int (own_r p3)), .val (.int (own_r p4)), .val (.long (own_mm p5)), .second, .val (.ref b11), .val (.ref (A13 0)), .val (.int (own_i M13)), .unset, .unset, .unset, .unset, .unset, .unset] [(.int (own_r p3)), (.ref b11)])) _
    refine XS.iload X13.here hx rfl (hb hby at_90) rfl ?_
    show Steps p.tables e below (T13.setTop (mkF m 92 #[.val (.int p1), .val (.int p2), .val (.int p3), .val (.int p4), .val (.int p5), .val (.int (own_r p1)), .val (.int (own_r p2)), .val (.int (own_r p3)), .val (.int (own_r p4)), .val (.long (own_mm p5)), .second, .val (.ref b11), .val (.ref (A13 0)), .val (.int (own_i M13)), .unset, .unset, .unset, .unset, .unset, .unset] [(.int (own_r p4)), (.int (own_r p3)), (.ref b11)])) _
    refine st14.trans ?_
    show Steps p.tables e below (T14.setTop (mkF m 95 #[.val (.int p1), .val (.int p2), .val (.int p3), .val (.int p4), .val (.int p5), .val (.int (own_r p1)), .val (.int (own_r p2)), .val (.int (own_r p3)), .val (.int (own_r p4)), .val (.long (own_mm p5)), .second, .val (.ref b11), .val (.ref (A13 0)), .val (.int (own_i M13)), .unset, .unset, .unset, .unset, .unset, .unset] [(.ref (A14 0))])) _
    refine XS.astore X14.here hx rfl (hb hby at_95) rfl rfl (l' := #[.val (.int p1), .val (.int p2), .val (.int p3), .val (.int p4), .val (.int p5), .val (.int (own_r p1)), .val (.int (own_r p2)), .val (.int (own_r p3)), .val (.int (own_r p4)), .val (.long (own_mm p5)), .second, .val (.ref b11), .val (.ref (A13 0)), .val (.int (own_i M13)), .val (.ref (A14 0)), .unset, .unset, .unset, .unset, .unset]) rfl ?_
    show Steps p.tables e below (T14.setTop (mkF m 97 #[.val (.int p1), .val (.int p2), .val (.int p3), .val (.int p4), .val (.int p5), .val (.int (own_r p1)), .val (.int (own_r p2)), .val (.int (own_r p3)), .val (.int (own_r p4)), .val (.long (own_mm p5)), .second, .val (.ref b11), .val (.ref (A13 0)), .val (.int (own_i M13)), .val (.ref (A14 0)), .unset, .unset, .unset, .unset, .unset] [])) _
    refine XS.aload X14.here hx rfl (hb hby at_97) rfl rfl ?_
    show Steps p.tables e below (T14.setTop (mkF m 99 #[.val (.int p1), .val (.int p2), .val (.int p3), .val (.int p4), .val (.int p5), .val (.int (own_r p1)), .val (.int (own_r p2)), .val (.int (own_r p3)), .val (.int (own_r p4)), .val (.long (own_mm p5)), .second, .val (.ref b11), .val (.ref (A13 0)), .val (.int (own_i M13)), .val (.ref (A14 0)), .unset, .unset, .unset, .unset, .unset] [(.ref (A14 0))])) _
    refine XS.ifnullNo X14.here hx rfl (hb hby at_99) rfl ?_
    show Steps p.tables e below (T14.setTop (mkF m 102 #[.val (.int p1), .val (.int p2), .val (.int p3), .val (.int p4), .val (.int p5), .val (.int (own_r p1)), .val (.int (own_r p2)), .val (.int (own_r p3)), .val (.int (own_r p4)), .val (.long (own_mm p5)), .second, .val (.ref b11), .val (.ref (A13 0)), .val (.int (own_i M13)), .val (.ref (A14 0)), .unset, .unset, .unset, .unset, .unset] [])) _
    refine XS.aload X14.here hx rfl (hb hby at_102) rfl rfl ?_
    show Steps p.tables e below (T14.setTop (mkF m 104 #[.val (.int p1), .val (.int p2), .val (.int p3), .val (.int p4), .val (.int p5), .val (.int (own_r p1)), .val (.int (own_r p2)), .val (.int (own_r p3)), .val (.int (own_r p4)), .val (.long (own_mm p5)), .second, .val (.ref b11), .val (.ref (A13 0)), .val (.int (own_i M13)), .val (.ref (A14 0)), .unset, .unset, .unset, .unset, .unset] [(.ref (A14 0))])) _
    refine own_lenI X14 hx hZ rfl (own_B_v0 B14) (g := (mkF m 104 #[.val (.int p1), .val (.int p2), .val (.int p3), .val (.int p4), .val (.int p5), .val (.int (own_r p1)), .val (.int (own_r p2)), .val (.int (own_r p3)), .val (.int (own_r p4)), .val (.long (own_mm p5)), .second, .val (.ref b11), .val (.ref (A13 0)), .val (.int (own_i M13)), .val (.ref (A14 0)), .unset, .unset, .unset, .unset, .unset] [(.ref (A14 0))])) rfl rfl (hb hby at_104) _ ?_
    show Steps p.tables e below (T14.setTop (mkF m 105 #[.val (.int p1), .val (.int p2), .val (.int p3), .val (.int p4), .val (.int p5), .val (.int (own_r p1)), .val (.int (own_r p2)), .val (.int (own_r p3)), .val (.int (own_r p4)), .val (.long (own_mm p5)), .second, .val (.ref b11), .val (.ref (A13 0)), .val (.int (own_i M13)), .val (.ref (A14 0)), .unset, .unset, .unset, .unset, .unset] [(.int (own_i M14))])) _
    refine XS.iload X14.here hx rfl (hb hby at_105) rfl ?_
    show Steps p.tables e below (T14.setTop (mkF m 107 #[.val (.int p1), .val (.int p2), .val (.int p3), .val (.int p4), .val (.int p5), .val (.int (own_r p1)), .val (.int (own_r p2)), .val (.int (own_r p3)), .val (.int (own_r p4)), .val (.long (own_mm p5)), .second, .val (.ref b11), .val (.ref (A13 0)), .val (.int (own_i M13)), .val (.ref (A14 0)), .unset, .unset, .unset, .unset, .unset] [(.int (own_r p3)), (.int (own_i M14))])) _
    refine XS.iload X14.here hx rfl (hb hby at_107) rfl ?_
    show Steps p.tables e below (T14.setTop (mkF m 109 #[.val (.int p1), .val (.int p2), .val (.int p3), .val (.int p4), .val (.int p5), .val (.int (own_r p1)), .val (.int (own_r p2)), .val (.int (own_r p3)), .val (.int (own_r p4)), .val (.long (own_mm p5)), .second, .val (.ref b11), .val (.ref (A13 0)), .val (.int (own_i M13)), .val (.ref (A14 0)), .unset, .unset, .unset, .unset, .unset] [(.int (own_r p4)), (.int (own_r p3)), (.int (own_i M14))])) _
    refine XS.imul X14.here hx rfl (hb hby at_109) rfl ?_
    show Steps p.tables e below (T14.setTop (mkF m 110 #[.val (.int p1), .val (.int p2), .val (.int p3), .val (.int p4), .val (.int p5), .val (.int (own_r p1)), .val (.int (own_r p2)), .val (.int (own_r p3)), .val (.int (own_r p4)), .val (.long (own_mm p5)), .second, .val (.ref b11), .val (.ref (A13 0)), .val (.int (own_i M13)), .val (.ref (A14 0)), .unset, .unset, .unset, .unset, .unset] [(.int ((own_r p3) * (own_r p4))), (.int (own_i M14))])) _
    refine XS.icmpYes X14.here hx rfl (pc0 := 110) (pc' := 115) rfl (hb hby at_110) rfl (flt (fun w => absurd ((own_len_ge hR2 hC2 lR2 lC2 lm14).mp w) (by omega) : ¬ ((own_i M14) < ((own_r p3) * (own_r p4))))).2.1 (by decide) (by decide) ?_
    show Steps p.tables e below (T14.setTop (mkF m 115 #[.val (.int p1), .val (.int p2), .val (.int p3), .val (.int p4), .val (.int p5), .val (.int (own_r p1)), .val (.int (own_r p2)), .val (.int (own_r p3)), .val (.int (own_r p4)), .val (.long (own_mm p5)), .second, .val (.ref b11), .val (.ref (A13 0)), .val (.int (own_i M13)), .val (.ref (A14 0)), .unset, .unset, .unset, .unset, .unset] [])) _
    refine XS.iload X14.here hx rfl (hb hby at_115) rfl ?_
    show Steps p.tables e below (T14.setTop (mkF m 117 #[.val (.int p1), .val (.int p2), .val (.int p3), .val (.int p4), .val (.int p5), .val (.int (own_r p1)), .val (.int (own_r p2)), .val (.int (own_r p3)), .val (.int (own_r p4)), .val (.long (own_mm p5)), .second, .val (.ref b11), .val (.ref (A13 0)), .val (.int (own_i M13)), .val (.ref (A14 0)), .unset, .unset, .unset, .unset, .unset] [(.int (own_i M13))])) _
    refine XS.iload X14.here hx rfl (hb hby at_117) rfl ?_
    show Steps p.tables e below (T14.setTop (mkF m 119 #[.val (.int p1), .val (.int p2), .val (.int p3), .val (.int p4), .val (.int p5), .val (.int (own_r p1)), .val (.int (own_r p2)), .val (.int (own_r p3)), .val (.int (own_r p4)), .val (.long (own_mm p5)), .second, .val (.ref b11), .val (.ref (A13 0)), .val (.int (own_i M13)), .val (.ref (A14 0)), .unset, .unset, .unset, .unset, .unset] [(.int (own_r p3)), (.int (own_i M13))])) _
    refine XS.iload X14.here hx rfl (hb hby at_119) rfl ?_
    show Steps p.tables e below (T14.setTop (mkF m 121 #[.val (.int p1), .val (.int p2), .val (.int p3), .val (.int p4), .val (.int p5), .val (.int (own_r p1)), .val (.int (own_r p2)), .val (.int (own_r p3)), .val (.int (own_r p4)), .val (.long (own_mm p5)), .second, .val (.ref b11), .val (.ref (A13 0)), .val (.int (own_i M13)), .val (.ref (A14 0)), .unset, .unset, .unset, .unset, .unset] [(.int (own_r p4)), (.int (own_r p3)), (.int (own_i M13))])) _
    refine XS.imul X14.here hx rfl (hb hby at_121) rfl ?_
    show Steps p.tables e below (T14.setTop (mkF m 122 #[.val (.int p1), .val (.int p2), .val (.int p3), .val (.int p4), .val (.int p5), .val (.int (own_r p1)), .val (.int (own_r p2)), .val (.int (own_r p3)), .val (.int (own_r p4)), .val (.long (own_mm p5)), .second, .val (.ref b11), .val (.ref (A13 0)), .val (.int (own_i M13)), .val (.ref (A14 0)), .unset, .unset, .unset, .unset, .unset] [(.int ((own_r p3) * (own_r p4))), (.int (own_i M13))])) _
    refine br _ ?_
    show Steps p.tables e below (T14.setTop (mkF m 134 #[.val (.int p1), .val (.int p2), .val (.int p3), .val (.int p4), .val (.int p5), .val (.int (own_r p1)), .val (.int (own_r p2)), .val (.int (own_r p3)), .val (.int (own_r p4)), .val (.long (own_mm p5)), .second, .val (.ref b11), .val (.ref (A13 0)), .val (.int (own_i M13)), .val (.ref (A14 0)), .unset, .unset, .unset, .unset, .unset] [])) _
    refine tn0_134_153 X14 hx hZ hw hby hown _ ?_
    show Steps p.tables e below (T14.setTop (mkF m 153 #[.val (.int p1), .val (.int p2), .val (.int p3), .val (.int p4), .val (.int p5), .val (.int (own_r p1)), .val (.int (own_r p2)), .val (.int (own_r p3)), .val (.int (own_r p4)), .val (.long (own_mm p5)), .second, .val (.ref b11), .val (.ref (A13 0)), .val (.int (own_i M13)), .val (.ref (A14 0)), .val (.int (own_big (own_r p3) (own_r p4))), .unset, .unset, .unset, .unset] [])) _
    refine XS.lconst X14.here hx rfl (hb hby at_153) ?_
    show Steps p.tables e below (T14.setTop (mkF m 154 #[.val (.int p1), .val (.int p2), .val (.int p3), .val (.int p4), .val (.int p5), .val (.int (own_r p1)), .val (.int (own_r p2)), .val (.int (own_r p3)), .val (.int (own_r p4)), .val (.long (own_mm p5)), .second, .val (.ref b11), .val (.ref (A13 0)), .val (.int (own_i M13)), .val (.ref (A14 0)), .val (.int (own_big (own_r p3) (own_r p4))), .unset, .unset, .unset, .unset] [(.long (0 : Int64))])) _
    refine XS.lstore X14.here hx rfl (hb hby at_154) rfl (l' := #[.val (.int p1), .val (.int p2), .val (.int p3), .val (.int p4), .val (.int p5), .val (.int (own_r p1)), .val (.int (own_r p2)), .val (.int (own_r p3)), .val (.int (own_r p4)), .val (.long (own_mm p5)), .second, .val (.ref b11), .val (.ref (A13 0)), .val (.int (own_i M13)), .val (.ref (A14 0)), .val (.int (own_big (own_r p3) (own_r p4))), .val (.long (0 : Int64)), .second, .unset, .unset]) rfl ?_
    show Steps p.tables e below (T14.setTop (mkF m 156 #[.val (.int p1), .val (.int p2), .val (.int p3), .val (.int p4), .val (.int p5), .val (.int (own_r p1)), .val (.int (own_r p2)), .val (.int (own_r p3)), .val (.int (own_r p4)), .val (.long (own_mm p5)), .second, .val (.ref b11), .val (.ref (A13 0)), .val (.int (own_i M13)), .val (.ref (A14 0)), .val (.int (own_big (own_r p3) (own_r p4))), .val (.long (0 : Int64)), .second, .unset, .unset] [])) _
    refine XS.lconst X14.here hx rfl (hb hby at_156) ?_
    show Steps p.tables e below (T14.setTop (mkF m 157 #[.val (.int p1), .val (.int p2), .val (.int p3), .val (.int p4), .val (.int p5), .val (.int (own_r p1)), .val (.int (own_r p2)), .val (.int (own_r p3)), .val (.int (own_r p4)), .val (.long (own_mm p5)), .second, .val (.ref b11), .val (.ref (A13 0)), .val (.int (own_i M13)), .val (.ref (A14 0)), .val (.int (own_big (own_r p3) (own_r p4))), .val (.long (0 : Int64)), .second, .unset, .unset] [(.long (0 : Int64))])) _
    refine XS.lstore X14.here hx rfl (hb hby at_157) rfl (l' := #[.val (.int p1), .val (.int p2), .val (.int p3), .val (.int p4), .val (.int p5), .val (.int (own_r p1)), .val (.int (own_r p2)), .val (.int (own_r p3)), .val (.int (own_r p4)), .val (.long (own_mm p5)), .second, .val (.ref b11), .val (.ref (A13 0)), .val (.int (own_i M13)), .val (.ref (A14 0)), .val (.int (own_big (own_r p3) (own_r p4))), .val (.long (0 : Int64)), .second, .val (.long (0 : Int64)), .second]) rfl ?_
    show Steps p.tables e below (T14.setTop (mkF m 159 #[.val (.int p1), .val (.int p2), .val (.int p3), .val (.int p4), .val (.int p5), .val (.int (own_r p1)), .val (.int (own_r p2)), .val (.int (own_r p3)), .val (.int (own_r p4)), .val (.long (own_mm p5)), .second, .val (.ref b11), .val (.ref (A13 0)), .val (.int (own_i M13)), .val (.ref (A14 0)), .val (.int (own_big (own_r p3) (own_r p4))), .val (.long (0 : Int64)), .second, .val (.long (0 : Int64)), .second] [])) _
    refine XS.iload X14.here hx rfl (hb hby at_159) rfl ?_
    show Steps p.tables e below (T14.setTop (mkF m 161 #[.val (.int p1), .val (.int p2), .val (.int p3), .val (.int p4), .val (.int p5), .val (.int (own_r p1)), .val (.int (own_r p2)), .val (.int (own_r p3)), .val (.int (own_r p4)), .val (.long (own_mm p5)), .second, .val (.ref b11), .val (.ref (A13 0)), .val (.int (own_i M13)), .val (.ref (A14 0)), .val (.int (own_big (own_r p3) (own_r p4))), .val (.long (0 : Int64)), .second, .val (.long (0 : Int64)), .second] [(.int (own_big (own_r p3) (own_r p4)))])) _
    refine XS.ifYes X14.here hx rfl (pc0 := 161) (pc' := 224) rfl (hb hby at_161) rfl ((if0 _ _).trans (teq (hb1 : (own_big (own_r p3) (own_r p4)) = (0 : Int32))).1) (by decide) (by decide) ?_
    show Steps p.tables e below (T14.setTop (mkF m 224 #[.val (.int p1), .val (.int p2), .val (.int p3), .val (.int p4), .val (.int p5), .val (.int (own_r p1)), .val (.int (own_r p2)), .val (.int (own_r p3)), .val (.int (own_r p4)), .val (.long (own_mm p5)), .second, .val (.ref b11), .val (.ref (A13 0)), .val (.int (own_i M13)), .val (.ref (A14 0)), .val (.int (own_big (own_r p3) (own_r p4))), .val (.long (0 : Int64)), .second, .val (.long (0 : Int64)), .second] [])) _
    refine XS.aload X14.here hx rfl (hb hby at_224) rfl rfl ?_
    show Steps p.tables e below (T14.setTop (mkF m 226 #[.val (.int p1), .val (.int p2), .val (.int p3), .val (.int p4), .val (.int p5), .val (.int (own_r p1)), .val (.int (own_r p2)), .val (.int (own_r p3)), .val (.int (own_r p4)), .val (.long (own_mm p5)), .second, .val (.ref b11), .val (.ref (A13 0)), .val (.int (own_i M13)), .val (.ref (A14 0)), .val (.int (own_big (own_r p3) (own_r p4))), .val (.long (0 : Int64)), .second, .val (.long (0 : Int64)), .second] [(.ref b11)])) _
    refine XS.lload X14.here hx rfl (hb hby at_226) rfl ?_
    show Steps p.tables e below (T14.setTop (mkF m 228 #[.val (.int p1), .val (.int p2), .val (.int p3), .val (.int p4), .val (.int p5), .val (.int (own_r p1)), .val (.int (own_r p2)), .val (.int (own_r p3)), .val (.int (own_r p4)), .val (.long (own_mm p5)), .second, .val (.ref b11), .val (.ref (A13 0)), .val (.int (own_i M13)), .val (.ref (A14 0)), .val (.int (own_big (own_r p3) (own_r p4))), .val (.long (0 : Int64)), .second, .val (.long (0 : Int64)), .second] [(.long (0 : Int64)), (.ref b11)])) _
    refine st15.trans ?_
    show Steps p.tables e below (T15.setTop (mkF m 231 #[.val (.int p1), .val (.int p2), .val (.int p3), .val (.int p4), .val (.int p5), .val (.int (own_r p1)), .val (.int (own_r p2)), .val (.int (own_r p3)), .val (.int (own_r p4)), .val (.long (own_mm p5)), .second, .val (.ref b11), .val (.ref (A13 0)), .val (.int (own_i M13)), .val (.ref (A14 0)), .val (.int (own_big (own_r p3) (own_r p4))), .val (.long (0 : Int64)), .second, .val (.long (0 : Int64)), .second] [(.long (own_count own_zi R2 C2 (0 : Int64)))])) _
    refine XS.lload X15.here hx rfl (hb hby at_231) rfl ?_
    show Steps p.tables e below (T15.setTop (mkF m 233 #[.val (.int p1), .val (.int p2), .val (.int p3), .val (.int p4), .val (.int p5), .val (.int (own_r p1)), .val (.int (own_r p2)), .val (.int (own_r p3)), .val (.int (own_r p4)), .val (.long (own_mm p5)), .second, .val (.ref b11), .val (.ref (A13 0)), .val (.int (own_i M13)), .val (.ref (A14 0)), .val (.int (own_big (own_r p3) (own_r p4))), .val (.long (0 : Int64)), .second, .val (.long (0 : Int64)), .second] [(.long (0 : Int64)), (.long (own_count own_zi R2 C2 (0 : Int64)))])) _
    refine XS.lcmp X15.here hx rfl (hb hby at_233) rfl ?_
    show Steps p.tables e below (T15.setTop (mkF m 234 #[.val (.int p1), .val (.int p2), .val (.int p3), .val (.int p4), .val (.int p5), .val (.int (own_r p1)), .val (.int (own_r p2)), .val (.int (own_r p3)), .val (.int (own_r p4)), .val (.long (own_mm p5)), .second, .val (.ref b11), .val (.ref (A13 0)), .val (.int (own_i M13)), .val (.ref (A14 0)), .val (.int (own_big (own_r p3) (own_r p4))), .val (.long (0 : Int64)), .second, .val (.long (0 : Int64)), .second] [(.int (lcmpW (own_count own_zi R2 C2 (0 : Int64)) (0 : Int64)))])) _
    refine XS.ifNo X15.here hx rfl (hb hby at_234) rfl ((if0 _ _).trans (teq ((lw_eq _ _).mpr (own_main_small (own_small_iff hR2 hC2 hb1)) : (lcmpW (own_count own_zi R2 C2 (0 : Int64)) (0 : Int64)) = (0 : Int32))).2) ?_
    show Steps p.tables e below (T15.setTop (mkF m 237 #[.val (.int p1), .val (.int p2), .val (.int p3), .val (.int p4), .val (.int p5), .val (.int (own_r p1)), .val (.int (own_r p2)), .val (.int (own_r p3)), .val (.int (own_r p4)), .val (.long (own_mm p5)), .second, .val (.ref b11), .val (.ref (A13 0)), .val (.int (own_i M13)), .val (.ref (A14 0)), .val (.int (own_big (own_r p3) (own_r p4))), .val (.long (0 : Int64)), .second, .val (.long (0 : Int64)), .second] [])) _
    refine XS.iconst X15.here hx rfl (hb hby at_237) ?_
    show Steps p.tables e below (T15.setTop (mkF m 238 #[.val (.int p1), .val (.int p2), .val (.int p3), .val (.int p4), .val (.int p5), .val (.int (own_r p1)), .val (.int (own_r p2)), .val (.int (own_r p3)), .val (.int (own_r p4)), .val (.long (own_mm p5)), .second, .val (.ref b11), .val (.ref (A13 0)), .val (.int (own_i M13)), .val (.ref (A14 0)), .val (.int (own_big (own_r p3) (own_r p4))), .val (.long (0 : Int64)), .second, .val (.long (0 : Int64)), .second] [(.int (1 : Int32))])) _
    refine XS.goto X15.here hx rfl (pc0 := 238) (pc' := 242) rfl (hb hby at_238) (by decide) (by decide) ?_
    show Steps p.tables e below (T15.setTop (mkF m 242 #[.val (.int p1), .val (.int p2), .val (.int p3), .val (.int p4), .val (.int p5), .val (.int (own_r p1)), .val (.int (own_r p2)), .val (.int (own_r p3)), .val (.int (own_r p4)), .val (.long (own_mm p5)), .second, .val (.ref b11), .val (.ref (A13 0)), .val (.int (own_i M13)), .val (.ref (A14 0)), .val (.int (own_big (own_r p3) (own_r p4))), .val (.long (0 : Int64)), .second, .val (.long (0 : Int64)), .second] [(.int (1 : Int32))])) _
    exact retN X15 hx (t := .boolean) Bd.returns (by simp) (hb hby at_242) hr
  · show Q0 Z h0 n0 _ T15.heap _
    exact ⟨rfl, N15⟩
set_option maxRecDepth 65536 in
set_option maxHeartbeats 40000000 in
theorem rm0 (l : Launch) (Z : State) (a0 : Array Value) (hw : ∀ d ∈ tables_1, d.before a0 Z = true) (ws : List Jvm.Cond) (p1 p2 p3 p4 p5 : Int32) (h0 : Heap) (n0 : Nat) (Z0 : n0 ≤ h0.size) :
    MetFree l x (head1 (Jvm.Cond.code x code maxLocals ret :: ws) room_1) (fun a U => a = #[(.int p1), (.int p2), (.int p3), (.int p4), (.int p5)] ∧ Z.Warmed39 U.vm ∧ U.heap = h0) (fun _ _ _ _ _ => True) (fun _ U o U' => ∃ v L, o = .returned v ∧ Q0 Z h0 n0 v U'.heap L ∧ FrameEnd U o U' L room_1.cells room_1.slots) := by
  by_cases hb1 : own_big (own_r p3) (own_r p4) = (0 : Int32)
  · exact rm0_s l Z a0 hw ws p1 p2 p3 p4 p5 h0 n0 Z0 hb1
  · exact rm0_b l Z a0 hw ws p1 p2 p3 p4 p5 h0 n0 Z0 hb1
set_option maxRecDepth 65536 in
set_option maxHeartbeats 40000000 in
theorem comes_1 {Post : Tables → Env → Array Value → State → Outcome → State → Prop} (hpost : ∀ tb e args s v u, (limb_1_1.after args s (.returned v) u = true ∧ limb_1_2.after args s (.returned v) u = true ∧ True) → FrameEnd s (.returned v) u (Jvm.fieldLocs frame_1_writes args s ++ Jvm.arrayLocs frame_1_arrays args s ++ Jvm.staticLocs frame_1_statics s) 32 192 → Post tb e args s (.returned v) u) :
    ArmFor flags0 classFile x code maxLocals ret World_1 tables_1 room_1 Calls_1 rest_1 Pre_1 Post := by
  intro l hfl _ _ p e ha hc hk s m args below hf hA hF happ hP
  obtain ⟨hcalls, hrest, hpre⟩ := hP
  obtain ⟨-, -, -, hnamed, -, -, -, hat⟩ := (Spec.applies_iff hf).mp happ
  obtain ⟨hg, hn⟩ := and_e (Cond.before_iff.mp (show (Jvm.Cond.and given_1 narrow_1).before args s = true from hpre))
  obtain ⟨g18, g19⟩ := and_e hg
  obtain ⟨g20, g21⟩ := and_e g19
  obtain ⟨g22, g23⟩ := and_e g21
  obtain ⟨g24, g25⟩ := and_e g23
  obtain ⟨g26, g27⟩ := and_e g25
  obtain ⟨w0, w1, w2, w3, w4, rfl⟩ : ∃ w0 w1 w2 w3 w4 : Value, args = #[w0, w1, w2, w3, w4] := by
    have hs : args.size = 5 := by simpa [Cond.value, given_1] using g18
    obtain ⟨L⟩ := args
    match L, hs with
    | [w0, w1, w2, w3, w4], _ => exact ⟨w0, w1, w2, w3, w4, rfl⟩
  have hw := fun d (hd : d ∈ tables_1) => atoms_spec (ws := Jvm.Cond.code x code maxLocals ret :: tables_1) hat d (List.mem_cons_of_mem _ hd)
  have hfit : Fit s := fun {y c} hc i hi => by
    obtain ⟨ha, rfl⟩ := Array.getElem?_eq_some_iff.mp hc
    have q := List.all_eq_true.mp ((Array.all_eq_true_iff_forall_mem.mp hF) _ (Array.getElem_mem ha)) i (List.mem_range.mpr hi)
    simpa [Array.getElem?_eq_getElem hi] using q
  obtain ⟨i0, ei0⟩ := is_v g20
  obtain rfl : w0 = (.int i0) := Option.some.inj ei0
  obtain ⟨i1, ei1⟩ := is_v g22
  obtain rfl : w1 = (.int i1) := Option.some.inj ei1
  obtain ⟨i2, ei2⟩ := is_v g24
  obtain rfl : w2 = (.int i2) := Option.some.inj ei2
  obtain ⟨i3, ei3⟩ := is_v g26
  obtain rfl : w3 = (.int i3) := Option.some.inj ei3
  obtain ⟨i4, ei4⟩ := is_v g27
  obtain rfl : w4 = (.int i4) := Option.some.inj ei4
  obtain ⟨n, o, h1, h2, h3, _, L, rfl, ⟨rfl, N⟩, hq⟩ := rm0 l s _ hw tables_1 i0 i1 i2 i3 i4 s.heap s.heap.size (Nat.le_refl _) p e ha hc hk s m _ below hf ((Spec.applies_iff_loose hf).mp happ).1 ⟨rfl, State.Warmed39.refl s, rfl⟩ trivial
  refine ⟨n, _, h1, h2, h3, hpost _ _ _ _ _ _ ⟨Cond.after_iff.mpr rfl, Cond.after_iff.mpr (eq_i res_at (Term.int_eval (1)) rfl), trivial⟩ ⟨hq.1, hq.2.1, (hq.2.2.sift fun y hy => Or.inr (N y hy)).mono (by decide) (by decide)⟩⟩
theorem main_1_1 : Claimed_1_1 := comes_1 fun _ _ _ _ _ _ h hF => ⟨h.1, hF⟩
theorem main_1_2 : Claimed_1_2 := comes_1 fun _ _ _ _ _ _ h hF => ⟨h.2.1, hF⟩
end Jvm.Pilot.@@N@@
namespace Jvm.Pilot.@@N@@
open Jvm Jvm.ClassFile Sem Op Lib Jvm.Free Jvm.Stand Jvm.Pilot.@@N@@.Jvm.D
/-! MADE BY PROGRAM (witnessworld.py) out of the Statement's table words and the real class files: 13 classes; the members and pool entries that the words name. The judged class is class 1, her method 1. -/
namespace start1
open Jvm.ClassFile
def u (s : String) : CpInfo := .utf8 (stringToUtf16 s)
/-- a pool by its gaps: so many unusable entries, then the entry; so many at the end -/
def gap : Nat → List CpInfo → List CpInfo
  | 0, r => r
  | n + 1, r => .unusable :: gap n r
def poolList (es : List (Nat × CpInfo)) (last : Nat) : List CpInfo := es.foldr (fun e r => gap e.1 (e.2 :: r)) (gap last [])
def pool (es : List (Nat × CpInfo)) (last : Nat) : Array CpInfo := ⟨poolList es last⟩
def fileOf (pool : Array CpInfo) (this : Nat) (attrs : Array Attribute := #[]) (ms : Array MethodInfo := #[]) (fl : Nat := 33) (sup : Nat := 0) (ifs : Array Nat := #[]) (fds : Array FieldInfo := #[]) : ClassFile where
  minorVersion := 0
  majorVersion := 65
  constantPool := pool
  accessFlags := fl
  thisClass := this
  superClass := sup
  interfaces := ifs
  fields := fds
  methods := ms
  attributes := attrs
def plain (name : String) (sup : Option ClassId) : Class where
  name := name
  kind := .ordinary
  loader := none
  accessFlags := 33
  super := sup
  interfaces := #[]
  cf := none
  fields := #[]
  methods := #[]
  instanceTypes := #[]
  staticTypes := #[]
  resolved := #[]
  callSites := []
  init := .initialized
  statics := none
  mirror := none

def pool0 : Array CpInfo := pool [(5, u "<init>"), (0, u "()V"), (1, .class_ 10), (1, u "java/lang/Object")] 113

def k0c0 : Code := { maxStack := 0, maxLocals := 1, code := object_method_1_code, exceptionTable := #[], attributes := #[] }
def k0m0 : Method := { name := "<init>", desc := "()V", sig := { parameters := [], returnType := none }, accessFlags := 1, code := some k0c0 }
/-- java/lang/Object -/
def k0 : Class := { plain "java/lang/Object" none with
  accessFlags := 33
  interfaces := #[]
  cf := some (fileOf pool0 8 #[] #[{ accessFlags := 1, nameIndex := 5, descriptorIndex := 6, attributes := #[] }] 33 0 #[] #[])
  fields := #[]
  methods := #[k0m0]
  instanceTypes := #[]
  staticTypes := #[]
  resolved := Array.replicate 124 none
  statics := none }

def pool1 : Array CpInfo := pool [(2, .class_ 4), (1, u "java/lang/Object"), (0, u "<init>"), (0, u "()V"), (0, .integer 2147483647), (0, .class_ 9), (0, u "quartess/quartet/Anchors"), (0, .methodref 8 11), (0, .nameAndType 5 12), (0, u "(II)V"), (0, .methodref 8 14), (0, .nameAndType 15 16), (0, u "cells"), (0, u "(II)[I"), (0, .long 3), (1, .long 2), (1, .methodref 8 22), (0, .nameAndType 23 24), (0, u "count"), (0, u "(J)J"), (0, .class_ 26), (0, u "quartess/quartet/AnchorsCellsPinLaw"), (2, u "law"), (0, u "(IIIII)Z")] 5

def k1m0 : Method := { name := "<init>", desc := "()V", sig := { parameters := [], returnType := none }, accessFlags := 1, code := none }
def k1c1 : Code := { maxStack := 8, maxLocals := 20, code := code, exceptionTable := #[], attributes := #[] }
def k1m1 : Method := { name := "law", desc := "(IIIII)Z", sig := { parameters := [.int, .int, .int, .int, .int], returnType := some .boolean }, accessFlags := 9, code := some k1c1 }
/-- quartess/quartet/AnchorsCellsPinLaw -/
def k1 : Class := { plain "quartess/quartet/AnchorsCellsPinLaw" (some 0) with
  accessFlags := 49
  interfaces := #[]
  cf := some (fileOf pool1 25 #[] #[{ accessFlags := 1, nameIndex := 5, descriptorIndex := 6, attributes := #[] }, { accessFlags := 9, nameIndex := 29, descriptorIndex := 30, attributes := #[] }] 49 2 #[] #[])
  fields := #[]
  methods := #[k1m0, k1m1]
  instanceTypes := #[]
  staticTypes := #[]
  resolved := Array.replicate 36 none
  statics := none }

def pool2 : Array CpInfo := pool [(1, .methodref 2 3), (0, .class_ 4), (0, .nameAndType 5 6), (0, u "java/lang/Object"), (0, u "<init>"), (0, u "()V"), (0, .fieldref 8 9), (0, .class_ 10), (0, .nameAndType 11 12), (0, u "quartess/quartet/Anchors"), (0, u "cells"), (0, u "[I"), (0, .fieldref 8 14), (0, .nameAndType 15 16), (0, u "rowSums"), (0, u "[J"), (0, .fieldref 8 18), (0, .nameAndType 19 16), (0, u "rowSquares"), (0, .fieldref 8 21), (0, .nameAndType 22 16), (0, u "rowRest"), (0, .fieldref 8 24), (0, .nameAndType 25 16), (0, u "columnSums"), (0, .fieldref 8 27), (0, .nameAndType 28 16), (0, u "columnSquares"), (0, .fieldref 8 30), (0, .nameAndType 31 16), (0, u "columnRest"), (0, .fieldref 8 33), (0, .nameAndType 34 35), (0, u "rows"), (0, u "I"), (0, .fieldref 8 37), (0, .nameAndType 38 35), (0, u "columns"), (0, .methodref 40 41), (0, .class_ 42), (0, .nameAndType 43 44), (0, u "java/lang/Math"), (0, u "multiplyExact"), (0, u "(II)I"), (0, .methodref 8 46), (0, .nameAndType 47 48), (0, u "countThreeByThree"), (0, u "()J"), (0, .methodref 50 51), (0, .class_ 52), (0, .nameAndType 53 54), (0, u "java/util/Arrays"), (0, u "fill"), (0, u "([JIIJ)V"), (0, .long 2), (1, .methodref 8 58), (0, .nameAndType 59 60), (0, u "square"), (0, u "(J)J"), (0, .methodref 8 62), (0, .nameAndType 63 60), (0, u "pairs"), (0, u "(II)V"), (2, u "(II)[I"), (1, u "count")] 2

def k2c0 : Code := { maxStack := 2, maxLocals := 3, code := prog_20_method_1_code, exceptionTable := #[], attributes := #[] }
def k2m0 : Method := { name := "<init>", desc := "(II)V", sig := { parameters := [.int, .int], returnType := none }, accessFlags := 0, code := some k2c0 }
def k2c1 : Code := { maxStack := 6, maxLocals := 3, code := prog_20_method_2_code, exceptionTable := #[], attributes := #[] }
def k2m1 : Method := { name := "cells", desc := "(II)[I", sig := { parameters := [.int, .int], returnType := some (.array .int) }, accessFlags := 0, code := some k2c1 }
def k2c2 : Code := { maxStack := 8, maxLocals := 25, code := prog_20_method_3_code, exceptionTable := #[], attributes := #[] }
def k2m2 : Method := { name := "count", desc := "(J)J", sig := { parameters := [.long], returnType := some .long }, accessFlags := 0, code := some k2c2 }
def k2c3 : Code := { maxStack := 10, maxLocals := 19, code := prog_20_method_4_code, exceptionTable := #[], attributes := #[] }
def k2m3 : Method := { name := "countThreeByThree", desc := "()J", sig := { parameters := [], returnType := some .long }, accessFlags := 2, code := some k2c3 }
def k2c4 : Code := { maxStack := 6, maxLocals := 2, code := prog_20_method_5_code, exceptionTable := #[], attributes := #[] }
def k2m4 : Method := { name := "pairs", desc := "(J)J", sig := { parameters := [.long], returnType := some .long }, accessFlags := 10, code := some k2c4 }
def k2c5 : Code := { maxStack := 4, maxLocals := 2, code := prog_20_method_6_code, exceptionTable := #[], attributes := #[] }
def k2m5 : Method := { name := "square", desc := "(J)J", sig := { parameters := [.long], returnType := some .long }, accessFlags := 10, code := some k2c5 }
/-- quartess/quartet/Anchors -/
def k2 : Class := { plain "quartess/quartet/Anchors" (some 0) with
  accessFlags := 48
  interfaces := #[]
  cf := some (fileOf pool2 8 #[] #[{ accessFlags := 0, nameIndex := 5, descriptorIndex := 64, attributes := #[] }, { accessFlags := 0, nameIndex := 11, descriptorIndex := 67, attributes := #[] }, { accessFlags := 0, nameIndex := 69, descriptorIndex := 60, attributes := #[] }, { accessFlags := 2, nameIndex := 47, descriptorIndex := 48, attributes := #[] }, { accessFlags := 10, nameIndex := 63, descriptorIndex := 60, attributes := #[] }, { accessFlags := 10, nameIndex := 59, descriptorIndex := 60, attributes := #[] }] 48 2 #[] #[{ accessFlags := 2, nameIndex := 11, descriptorIndex := 12, attributes := #[] }, { accessFlags := 18, nameIndex := 15, descriptorIndex := 16, attributes := #[] }, { accessFlags := 18, nameIndex := 19, descriptorIndex := 16, attributes := #[] }, { accessFlags := 18, nameIndex := 22, descriptorIndex := 16, attributes := #[] }, { accessFlags := 18, nameIndex := 25, descriptorIndex := 16, attributes := #[] }, { accessFlags := 18, nameIndex := 28, descriptorIndex := 16, attributes := #[] }, { accessFlags := 18, nameIndex := 31, descriptorIndex := 16, attributes := #[] }, { accessFlags := 2, nameIndex := 34, descriptorIndex := 35, attributes := #[] }, { accessFlags := 2, nameIndex := 38, descriptorIndex := 35, attributes := #[] }])
  fields := #[{ name := "cells", type := (.array .int), accessFlags := 2, slot := 0, constantValue := 0 }, { name := "rowSums", type := (.array .long), accessFlags := 18, slot := 1, constantValue := 0 }, { name := "rowSquares", type := (.array .long), accessFlags := 18, slot := 2, constantValue := 0 }, { name := "rowRest", type := (.array .long), accessFlags := 18, slot := 3, constantValue := 0 }, { name := "columnSums", type := (.array .long), accessFlags := 18, slot := 4, constantValue := 0 }, { name := "columnSquares", type := (.array .long), accessFlags := 18, slot := 5, constantValue := 0 }, { name := "columnRest", type := (.array .long), accessFlags := 18, slot := 6, constantValue := 0 }, { name := "rows", type := .int, accessFlags := 2, slot := 7, constantValue := 0 }, { name := "columns", type := .int, accessFlags := 2, slot := 8, constantValue := 0 }]
  methods := #[k2m0, k2m1, k2m2, k2m3, k2m4, k2m5]
  instanceTypes := #[(.array .int), (.array .long), (.array .long), (.array .long), (.array .long), (.array .long), (.array .long), .int, .int]
  staticTypes := #[]
  resolved := Array.replicate 72 none
  statics := none }

def pool3 : Array CpInfo := pool [(1, .class_ 2), (0, u "java/lang/Math"), (1, .class_ 6), (1, u "java/lang/Object"), (0, u "<init>"), (0, u "()V"), (89, .class_ 100), (1, u "java/lang/Math$RandomNumberGeneratorHolder"), (19, u "multiplyExact"), (51, u "negativeZeroFloatBits"), (0, u "J"), (2, u "negativeZeroDoubleBits"), (68, u "$assertionsDisabled"), (0, u "Z"), (88, u "(II)I"), (2, u "twoToTheDoubleScaleDown"), (0, u "D"), (4, u "twoToTheDoubleScaleUp"), (9, u "E"), (3, u "PI"), (2, u "TAU"), (2, u "DEGREES_TO_RADIANS"), (0, u "RADIANS_TO_DEGREES")] 94

def k3m0 : Method := { name := "<init>", desc := "()V", sig := { parameters := [], returnType := none }, accessFlags := 2, code := none }
def k3c1 : Code := { maxStack := 4, maxLocals := 4, code := jdk_29_method_28_code, exceptionTable := #[], attributes := #[] }
def k3m1 : Method := { name := "multiplyExact", desc := "(II)I", sig := { parameters := [.int, .int], returnType := some .int }, accessFlags := 9, code := some k3c1 }
/-- java/lang/Math -/
def k3 : Class := { plain "java/lang/Math" (some 0) with
  accessFlags := 49
  interfaces := #[]
  cf := some (fileOf pool3 1 #[.nestMembers #[98]] #[{ accessFlags := 2, nameIndex := 7, descriptorIndex := 8, attributes := #[] }, { accessFlags := 9, nameIndex := 120, descriptorIndex := 335, attributes := #[] }] 49 4 #[] #[{ accessFlags := 25, nameIndex := 354, descriptorIndex := 339, attributes := #[] }, { accessFlags := 25, nameIndex := 358, descriptorIndex := 339, attributes := #[] }, { accessFlags := 25, nameIndex := 361, descriptorIndex := 339, attributes := #[] }, { accessFlags := 26, nameIndex := 364, descriptorIndex := 339, attributes := #[] }, { accessFlags := 26, nameIndex := 365, descriptorIndex := 339, attributes := #[] }, { accessFlags := 26, nameIndex := 172, descriptorIndex := 173, attributes := #[] }, { accessFlags := 26, nameIndex := 176, descriptorIndex := 173, attributes := #[] }, { accessFlags := 8, nameIndex := 344, descriptorIndex := 339, attributes := #[] }, { accessFlags := 8, nameIndex := 338, descriptorIndex := 339, attributes := #[] }, { accessFlags := 4120, nameIndex := 245, descriptorIndex := 246, attributes := #[] }])
  fields := #[{ name := "E", type := .double, accessFlags := 25, slot := 0, constantValue := 0 }, { name := "PI", type := .double, accessFlags := 25, slot := 1, constantValue := 0 }, { name := "TAU", type := .double, accessFlags := 25, slot := 2, constantValue := 0 }, { name := "DEGREES_TO_RADIANS", type := .double, accessFlags := 26, slot := 3, constantValue := 0 }, { name := "RADIANS_TO_DEGREES", type := .double, accessFlags := 26, slot := 4, constantValue := 0 }, { name := "negativeZeroFloatBits", type := .long, accessFlags := 26, slot := 5, constantValue := 0 }, { name := "negativeZeroDoubleBits", type := .long, accessFlags := 26, slot := 6, constantValue := 0 }, { name := "twoToTheDoubleScaleUp", type := .double, accessFlags := 8, slot := 7, constantValue := 0 }, { name := "twoToTheDoubleScaleDown", type := .double, accessFlags := 8, slot := 8, constantValue := 0 }, { name := "$assertionsDisabled", type := .boolean, accessFlags := 4120, slot := 9, constantValue := 0 }]
  methods := #[k3m0, k3m1]
  instanceTypes := #[]
  staticTypes := #[.double, .double, .double, .double, .double, .long, .long, .double, .double, .boolean]
  resolved := Array.replicate 460 none
  statics := none }

def pool4 : Array CpInfo := pool [(2, .class_ 4), (1, u "java/lang/Object"), (0, u "<init>"), (0, u "()V"), (6, .methodref 14 15), (0, .class_ 16), (0, .nameAndType 17 18), (0, u "java/util/Arrays"), (0, u "rangeCheck"), (0, u "(III)V"), (55, .class_ 76), (1, u "java/util/Arrays$NaturalOrder"), (36, .class_ 115), (1, u "java/util/Arrays$LegacyMergeSort"), (1, u "Z"), (257, .class_ 376), (0, u "java/util/Arrays$ArrayList"), (68, u "$assertionsDisabled"), (269, u "MIN_ARRAY_SORT_GRAN"), (0, u "I"), (2, u "INSERTIONSORT_THRESHOLD"), (120, u "fill"), (3, u "([JIIJ)V"), (130, .class_ 976), (0, u "java/util/Arrays$ArrayItr")] 52

def k4m0 : Method := { name := "<init>", desc := "()V", sig := { parameters := [], returnType := none }, accessFlags := 2, code := none }
def k4c1 : Code := { maxStack := 4, maxLocals := 3, code := jdk_65_method_30_code, exceptionTable := #[], attributes := #[] }
def k4m1 : Method := { name := "rangeCheck", desc := "(III)V", sig := { parameters := [.int, .int, .int], returnType := none }, accessFlags := 8, code := some k4c1 }
def k4c2 : Code := { maxStack := 4, maxLocals := 6, code := jdk_65_method_102_code, exceptionTable := #[], attributes := #[] }
def k4m2 : Method := { name := "fill", desc := "([JIIJ)V", sig := { parameters := [(.array .long), .int, .int, .long], returnType := none }, accessFlags := 9, code := some k4c2 }
/-- java/util/Arrays -/
def k4 : Class := { plain "java/util/Arrays" (some 0) with
  accessFlags := 49
  interfaces := #[]
  cf := some (fileOf pool4 14 #[.nestMembers #[975, 375, 113, 74]] #[{ accessFlags := 2, nameIndex := 5, descriptorIndex := 6, attributes := #[] }, { accessFlags := 8, nameIndex := 17, descriptorIndex := 18, attributes := #[] }, { accessFlags := 9, nameIndex := 840, descriptorIndex := 844, attributes := #[] }] 49 2 #[] #[{ accessFlags := 26, nameIndex := 715, descriptorIndex := 716, attributes := #[] }, { accessFlags := 26, nameIndex := 719, descriptorIndex := 716, attributes := #[] }, { accessFlags := 4120, nameIndex := 445, descriptorIndex := 117, attributes := #[] }])
  fields := #[{ name := "MIN_ARRAY_SORT_GRAN", type := .int, accessFlags := 26, slot := 0, constantValue := 0 }, { name := "INSERTIONSORT_THRESHOLD", type := .int, accessFlags := 26, slot := 1, constantValue := 0 }, { name := "$assertionsDisabled", type := .boolean, accessFlags := 4120, slot := 2, constantValue := 0 }]
  methods := #[k4m0, k4m1, k4m2]
  instanceTypes := #[]
  staticTypes := #[.int, .int, .boolean]
  resolved := Array.replicate 1029 none
  statics := none }

def pool5 : Array CpInfo := pool [(1, u "java/lang/Cloneable"), (0, .class_ 1), (0, u "java/lang/Object"), (0, .class_ 3)] 3

/-- java/lang/Cloneable -/
def k5 : Class := { plain "java/lang/Cloneable" (some 0) with
  accessFlags := 1537
  interfaces := #[]
  cf := some (fileOf pool5 2 #[] #[] 1537 4 #[] #[])
  fields := #[]
  methods := #[]
  instanceTypes := #[]
  staticTypes := #[]
  resolved := Array.replicate 8 none
  statics := none }

def pool6 : Array CpInfo := pool [(1, u "java/io/Serializable"), (0, .class_ 1), (0, u "java/lang/Object"), (0, .class_ 3)] 3

/-- java/io/Serializable -/
def k6 : Class := { plain "java/io/Serializable" (some 0) with
  accessFlags := 1537
  interfaces := #[]
  cf := some (fileOf pool6 2 #[] #[] 1537 4 #[] #[])
  fields := #[]
  methods := #[]
  instanceTypes := #[]
  staticTypes := #[]
  resolved := Array.replicate 8 none
  statics := none }

/-- the primitive byte -/
def k7 : Class := { plain "byte" none with kind := .primitive 'B', accessFlags := 0x411 }
/-- [B -/
def k8 : Class := { plain "[B" (some 0) with kind := .array 7 .byte, interfaces := #[5, 6], accessFlags := 1041 }

/-- the primitive int -/
def k9 : Class := { plain "int" none with kind := .primitive 'I', accessFlags := 0x411 }
/-- [I -/
def k10 : Class := { plain "[I" (some 0) with kind := .array 9 .int, interfaces := #[5, 6], accessFlags := 1041 }

/-- the primitive long -/
def k11 : Class := { plain "long" none with kind := .primitive 'J', accessFlags := 0x411 }
/-- [J -/
def k12 : Class := { plain "[J" (some 0) with kind := .array 11 .long, interfaces := #[5, 6], accessFlags := 1041 }

def heap : Heap := #[]
def classes : Array Class := #[k0, k1, k2, k3, k4, k5, k6, k7, k8, k9, k10, k11, k12]
def interned : List (Array UInt16 × Addr) := []
def slotsUsed : Nat := 0
def theMethod : MethodId := ⟨1, 1⟩
def args0 : Array Value := #[.int 5, .int 7, .int 9, .int 1, .int 2]
def aboutOver (below : List Frame) : State where
  vm := { classes := classes, interned := interned.toArray }
  heap := heap
  slotsUsed := slotsUsed
  threads := #[{ frames := .invoking theMethod args0 :: below }]
def below0 : List Frame := [.native { method := ⟨0, 0⟩, args := #[] }]
def about1 : State := aboutOver below0
def p0 : Program := .bare "" "" ""
def e0 : Env := launch0.env 0 0 0
theorem w_frames : about1.frames = Frame.invoking theMethod args0 :: below0 := rfl
set_option maxRecDepth 65536 in
theorem w_args : argsFit about1.vm theMethod args0 = true := by decide +kernel
set_option maxRecDepth 65536 in
theorem w_heap : heapFits about1 = true := by decide +kernel
set_option maxRecDepth 65536 in
theorem w_runnable : about1.curStatus? = some .runnable := by decide +kernel
set_option maxRecDepth 65536 in
theorem w_alone : about1.alone = true := by decide +kernel
set_option maxRecDepth 65536 in
theorem w_named : about1.methodNamed? x = some theMethod := by decide +kernel
set_option maxRecDepth 65536 in
theorem w_hears : about1.hears theMethod below0 = true := by decide +kernel
set_option maxRecDepth 65536 in
theorem w_ripe : about1.ripe theMethod args0 below0 = true := by decide +kernel
theorem w_running : about1.status = .running := rfl
set_option maxRecDepth 65536 in
theorem w_room : about1.hasRoom e0.platform room_1 = true :=
  launch0.hasRoom_least _ room_1 (by decide +kernel) (by decide +kernel) (by decide +kernel) (by decide +kernel) (by decide +kernel) (by decide +kernel)
theorem allAtoms_all (ts : List Jvm.Cond) (a : Array Jvm.Value) (st : Jvm.State) : (allAtoms ts).before a st = ts.all (fun c => c.before a st) := by
  induction ts with
  | nil => rfl
  | cons c t ih =>
    show (Jvm.Cond.and c (allAtoms t)).before a st = _
    rw [Jvm.Cond.before_and, ih, List.all_cons]
def words1 : List Jvm.Cond := Jvm.Cond.code x code maxLocals ret :: tables_1
/-- a 'code' word, met by the world's own term for the bytes: nothing is compared byte by byte -/
theorem code_word {y : MethodName} {bytes : ByteArray} {mx : Nat} {rt : Option FieldType} {a : Array Value} {s : State} {m : MethodId} {meth : Method} {c : Code} (h1 : s.methodNamed? y = some m) (h2 : s.vm.method? m = some meth) (h3 : meth.code = some c) (h4 : c.code = bytes)
    (h5 : (c.maxLocals == mx && c.exceptionTable.isEmpty && decide (c.maxStack ≤ mostOperands) && decide (meth.sig.returnType = rt) && !meth.locks && decide (parseMethodDescriptor y.desc = some meth.sig)) = true) : (Jvm.Cond.code y bytes mx rt).before a s = true := by
  simp only [Bool.and_eq_true, beq_iff_eq, Bool.not_eq_true', decide_eq_true_eq] at h5
  obtain ⟨⟨⟨⟨⟨g1, g2⟩, g3⟩, g4⟩, g5⟩, g6⟩ := h5
  simp [Cond.before, Cond.holds, Cond.value, h1, h2, h3, h4, g1, g2, g3, g4, g5, g6]
def isCode : Jvm.Cond → Bool
  | .code _ _ _ _ => true
  | _ => false
theorem all_split {L : List Jvm.Cond} {P : Jvm.Cond → Bool} (h1 : L.all (fun c => isCode c || P c) = true) (h2 : ∀ c ∈ L.filter isCode, P c = true) : L.all P = true := by
  refine List.all_eq_true.mpr fun c hc => ?_
  have h := List.all_eq_true.mp h1 c hc
  rcases Bool.eq_false_or_eq_true (isCode c) with hi | hi
  · exact h2 c (List.mem_filter.mpr ⟨hc, hi⟩)
  · simpa [hi] using h
set_option maxRecDepth 65536 in
theorem w_c0 : (Jvm.Cond.code x code maxLocals ret).before args0 about1 = true := code_word (m := ⟨1, 1⟩) (meth := k1m1) (c := k1c1) (by decide +kernel) rfl rfl rfl (by decide +kernel)
set_option maxRecDepth 65536 in
theorem w_c1 : (Jvm.Cond.code ({ cls := "quartess/quartet/Anchors", name := "<init>", desc := "(II)V" } : Jvm.MethodName) prog_20_method_1_code (3 : Nat) (Option.none : Option Jvm.ClassFile.FieldType)).before args0 about1 = true := code_word (m := ⟨2, 0⟩) (meth := k2m0) (c := k2c0) (by decide +kernel) rfl rfl rfl (by decide +kernel)
set_option maxRecDepth 65536 in
theorem w_c2 : (Jvm.Cond.code ({ cls := "java/lang/Object", name := "<init>", desc := "()V" } : Jvm.MethodName) object_method_1_code (1 : Nat) (Option.none : Option Jvm.ClassFile.FieldType)).before args0 about1 = true := code_word (m := ⟨0, 0⟩) (meth := k0m0) (c := k0c0) (by decide +kernel) rfl rfl rfl (by decide +kernel)
set_option maxRecDepth 65536 in
theorem w_c3 : (Jvm.Cond.code ({ cls := "quartess/quartet/Anchors", name := "cells", desc := "(II)[I" } : Jvm.MethodName) prog_20_method_2_code (3 : Nat) (Option.some (Jvm.ClassFile.FieldType.array Jvm.ClassFile.FieldType.int))).before args0 about1 = true := code_word (m := ⟨2, 1⟩) (meth := k2m1) (c := k2c1) (by decide +kernel) rfl rfl rfl (by decide +kernel)
set_option maxRecDepth 65536 in
theorem w_c4 : (Jvm.Cond.code ({ cls := "java/lang/Math", name := "multiplyExact", desc := "(II)I" } : Jvm.MethodName) jdk_29_method_28_code (4 : Nat) (Option.some Jvm.ClassFile.FieldType.int)).before args0 about1 = true := code_word (m := ⟨3, 1⟩) (meth := k3m1) (c := k3c1) (by decide +kernel) rfl rfl rfl (by decide +kernel)
set_option maxRecDepth 65536 in
theorem w_c5 : (Jvm.Cond.code ({ cls := "quartess/quartet/Anchors", name := "count", desc := "(J)J" } : Jvm.MethodName) prog_20_method_3_code (25 : Nat) (Option.some Jvm.ClassFile.FieldType.long)).before args0 about1 = true := code_word (m := ⟨2, 2⟩) (meth := k2m2) (c := k2c2) (by decide +kernel) rfl rfl rfl (by decide +kernel)
set_option maxRecDepth 65536 in
theorem w_c6 : (Jvm.Cond.code ({ cls := "java/util/Arrays", name := "fill", desc := "([JIIJ)V" } : Jvm.MethodName) jdk_65_method_102_code (6 : Nat) (Option.none : Option Jvm.ClassFile.FieldType)).before args0 about1 = true := code_word (m := ⟨4, 2⟩) (meth := k4m2) (c := k4c2) (by decide +kernel) rfl rfl rfl (by decide +kernel)
set_option maxRecDepth 65536 in
theorem w_c7 : (Jvm.Cond.code ({ cls := "java/util/Arrays", name := "rangeCheck", desc := "(III)V" } : Jvm.MethodName) jdk_65_method_30_code (3 : Nat) (Option.none : Option Jvm.ClassFile.FieldType)).before args0 about1 = true := code_word (m := ⟨4, 1⟩) (meth := k4m1) (c := k4c1) (by decide +kernel) rfl rfl rfl (by decide +kernel)
set_option maxRecDepth 65536 in
theorem w_c8 : (Jvm.Cond.code ({ cls := "quartess/quartet/Anchors", name := "square", desc := "(J)J" } : Jvm.MethodName) prog_20_method_6_code (2 : Nat) (Option.some Jvm.ClassFile.FieldType.long)).before args0 about1 = true := code_word (m := ⟨2, 5⟩) (meth := k2m5) (c := k2c5) (by decide +kernel) rfl rfl rfl (by decide +kernel)
set_option maxRecDepth 65536 in
theorem w_c9 : (Jvm.Cond.code ({ cls := "quartess/quartet/Anchors", name := "pairs", desc := "(J)J" } : Jvm.MethodName) prog_20_method_5_code (2 : Nat) (Option.some Jvm.ClassFile.FieldType.long)).before args0 about1 = true := code_word (m := ⟨2, 4⟩) (meth := k2m4) (c := k2c4) (by decide +kernel) rfl rfl rfl (by decide +kernel)
set_option maxRecDepth 65536 in
theorem w_c10 : (Jvm.Cond.code ({ cls := "quartess/quartet/Anchors", name := "countThreeByThree", desc := "()J" } : Jvm.MethodName) prog_20_method_4_code (19 : Nat) (Option.some Jvm.ClassFile.FieldType.long)).before args0 about1 = true := code_word (m := ⟨2, 3⟩) (meth := k2m3) (c := k2c3) (by decide +kernel) rfl rfl rfl (by decide +kernel)
def codes1 : List Jvm.Cond := [Jvm.Cond.code x code maxLocals ret, Jvm.Cond.code ({ cls := "quartess/quartet/Anchors", name := "<init>", desc := "(II)V" } : Jvm.MethodName) prog_20_method_1_code (3 : Nat) (Option.none : Option Jvm.ClassFile.FieldType), Jvm.Cond.code ({ cls := "java/lang/Object", name := "<init>", desc := "()V" } : Jvm.MethodName) object_method_1_code (1 : Nat) (Option.none : Option Jvm.ClassFile.FieldType), Jvm.Cond.code ({ cls := "quartess/quartet/Anchors", name := "cells", desc := "(II)[I" } : Jvm.MethodName) prog_20_method_2_code (3 : Nat) (Option.some (Jvm.ClassFile.FieldType.array Jvm.ClassFile.FieldType.int)), Jvm.Cond.code ({ cls := "java/lang/Math", name := "multiplyExact", desc := "(II)I" } : Jvm.MethodName) jdk_29_method_28_code (4 : Nat) (Option.some Jvm.ClassFile.FieldType.int), Jvm.Cond.code ({ cls := "quartess/quartet/Anchors", name := "count", desc := "(J)J" } : Jvm.MethodName) prog_20_method_3_code (25 : Nat) (Option.some Jvm.ClassFile.FieldType.long), Jvm.Cond.code ({ cls := "java/util/Arrays", name := "fill", desc := "([JIIJ)V" } : Jvm.MethodName) jdk_65_method_102_code (6 : Nat) (Option.none : Option Jvm.ClassFile.FieldType), Jvm.Cond.code ({ cls := "java/util/Arrays", name := "rangeCheck", desc := "(III)V" } : Jvm.MethodName) jdk_65_method_30_code (3 : Nat) (Option.none : Option Jvm.ClassFile.FieldType), Jvm.Cond.code ({ cls := "quartess/quartet/Anchors", name := "square", desc := "(J)J" } : Jvm.MethodName) prog_20_method_6_code (2 : Nat) (Option.some Jvm.ClassFile.FieldType.long), Jvm.Cond.code ({ cls := "quartess/quartet/Anchors", name := "pairs", desc := "(J)J" } : Jvm.MethodName) prog_20_method_5_code (2 : Nat) (Option.some Jvm.ClassFile.FieldType.long), Jvm.Cond.code ({ cls := "quartess/quartet/Anchors", name := "countThreeByThree", desc := "()J" } : Jvm.MethodName) prog_20_method_4_code (19 : Nat) (Option.some Jvm.ClassFile.FieldType.long)]
set_option maxRecDepth 65536 in
theorem codes_eq : words1.filter isCode = codes1 := rfl
theorem w_codes : ∀ c ∈ words1.filter isCode, c.before args0 about1 = true := by
  rw [codes_eq]
  intro c hc
  simp only [codes1, List.mem_cons, List.not_mem_nil, or_false] at hc
  rcases hc with rfl | rfl | rfl | rfl | rfl | rfl | rfl | rfl | rfl | rfl | rfl
  · exact w_c0
  · exact w_c1
  · exact w_c2
  · exact w_c3
  · exact w_c4
  · exact w_c5
  · exact w_c6
  · exact w_c7
  · exact w_c8
  · exact w_c9
  · exact w_c10
set_option maxRecDepth 65536 in
theorem w_t1 : (words1.take 24).all (fun c => isCode c || c.before args0 about1) = true := by decide +kernel
set_option maxRecDepth 65536 in
theorem w_t2 : ((words1.drop 24).take 24).all (fun c => isCode c || c.before args0 about1) = true := by decide +kernel
set_option maxRecDepth 65536 in
theorem w_t3 : ((words1.drop 24).drop 24).all (fun c => isCode c || c.before args0 about1) = true := by decide +kernel
theorem w_tables : (allAtoms (Jvm.Cond.code x code maxLocals ret :: tables_1)).before args0 about1 = true := by
  rw [allAtoms_all]
  show words1.all (fun c => c.before args0 about1) = true
  refine all_split ?_ w_codes
  rw [← List.take_append_drop 24 words1, List.all_append, w_t1, ← List.take_append_drop 24 (words1.drop 24), List.all_append, w_t2, w_t3]
  rfl
set_option maxRecDepth 65536 in
theorem w_case : (Jvm.Cond.and given_1 narrow_1).before args0 about1 = true := by decide +kernel
theorem w_applies : (headSpec (Jvm.Cond.code x code maxLocals ret :: tables_1) room_1).applies x e0.platform about1 = true :=
  (Spec.applies_iff w_frames).mpr ⟨w_running, w_runnable, w_alone, w_named, w_hears, w_ripe, w_room, w_tables⟩
theorem atStart : AtStart classFile x code maxLocals ret World_1 tables_1 room_1 Calls_1 rest_1 Pre_1 launch0 p0 e0 about1 theMethod args0 below0 :=
  ⟨lists_1, trivial, launch0.admits_env _ _ _, launch0.least_env, fairChoices_fair.cas, fairChoices_fair.clock, w_frames, w_args, w_heap, w_applies, trivial, trivial, w_case⟩
end start1
theorem witness_1 : WitnessClaimed_1 := ⟨start1.p0, start1.e0, start1.about1, start1.theMethod, start1.args0, start1.below0, start1.atStart⟩
end Jvm.Pilot.@@N@@
