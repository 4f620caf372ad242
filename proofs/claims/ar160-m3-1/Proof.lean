import JvmDerived
import JvmDerived.Pilot.@@N@@Statement
import JvmDerived.Pilot.@@N@@Code
set_option linter.unusedVariables false
set_option linter.unusedSimpArgs false
namespace Jvm.RoadKit
open Sem ClassFile Op Lib Jvm.Stand Jvm.Free Jvm.LawKit
section New
variable {p : Program} {l : Launch} {e : Env} {R : Room} {s : State} {m : MethodId} {args : Array Value} {below : List Frame} {meth : Method} {c : Code} {T : State} {locs : List Loc} {cells slots : Nat}
theorem retI (X : Stand p l e R s m args below meth c T locs cells slots) (hx : p.tables.exec = Jvm.exec) {pc : Nat} {Ls : Array Slot} {z : Int32} {rest : List Value} (hret : meth.sig.returnType = some .int) (hd : decode c.code pc = .ok (.ireturn, 1)) {fs : List Frame}
    (hl : ∀ (f : JFrame) (acts : List Action), f.method = m → f.locked = none → f.entered = [] → (doReturn e (T.setTop f) acts (some (.int z))).1 = T.setFrames fs) : Steps p.tables e below (T.setTop (mkF m pc Ls (.int z :: rest))) (T.setFrames fs) := by
  have hm' : T.vm.method? m = some meth := X.method'
  have hn : narrow .int (.int z) = .int z := rfl
  show Steps p.tables e below (T.setTop { method := m, pc := pc, locals := Ls, stack := _ :: rest, locked := none }) _
  jvm_step X.here [X.here.top, hx, hd, hm', hret, hn]
  first | (intro acts; rw [hl _ acts rfl rfl rfl]) | rw [hl _ _ rfl rfl rfl]
  exact Steps.refl _
end New
end Jvm.RoadKit
namespace Jvm.Pilot.@@N@@
open Jvm Jvm.ClassFile Sem Op Lib Jvm.Free Jvm.Stand Jvm.LawKit Jvm.RoadKit Bundle Jvm.Pilot.@@N@@.Jvm.D
def own_QR (r : Option Value) (h0 : Heap) (n0 : Nat) (v : Option Value) (h : Heap) (L : List Loc) : Prop := v = r ∧ Fr n0 L ∧ h = h0
/-! own: an array of ints or longs by its length and its values -/
def own_AI (Z : State) (h : Heap) (a : Addr) (N : Nat) (f : Nat → Int32) : Prop := ∃ c : Cell, Arr Z h a c .int ∧ c.slots.size = N ∧ ∀ j, j < N → c.slots[j]? = some (.int (f j))
def own_AJ (Z : State) (h : Heap) (a : Addr) (N : Nat) (f : Nat → Int64) : Prop := ∃ c : Cell, Arr Z h a c .long ∧ c.slots.size = N ∧ ∀ j, j < N → c.slots[j]? = some (.long (f j))
def own_up {α : Type} (f : Nat → α) (i : Nat) (v : α) : Nat → α := fun j => if j = i then v else f j
theorem own_up_hit {α : Type} (f : Nat → α) (i : Nat) (v : α) : own_up f i v i = v := if_pos rfl
theorem own_up_miss {α : Type} (f : Nat → α) {i j : Nat} (v : α) (q : ¬ j = i) : own_up f i v j = f j := if_neg q
theorem own_up_same {α : Type} {f : Nat → α} {i : Nat} {v : α} (q : f i = v) : own_up f i v = f := by
  funext j
  unfold own_up
  by_cases h : j = i
  · rw [if_pos h, h, q]
  · rw [if_neg h]
theorem own_AI_ext {Z : State} {h h' : Heap} {a : Addr} {N : Nat} {f : Nat → Int32} (F : own_AI Z h a N f) (E : Ext h h') : own_AI Z h' a N f := by obtain ⟨c, A, r⟩ := F; exact ⟨c, A.ext E, r⟩
theorem own_AJ_ext {Z : State} {h h' : Heap} {a : Addr} {N : Nat} {f : Nat → Int64} (F : own_AJ Z h a N f) (E : Ext h h') : own_AJ Z h' a N f := by obtain ⟨c, A, r⟩ := F; exact ⟨c, A.ext E, r⟩
theorem own_AI_other {Z : State} {h h' : Heap} {a b : Addr} {N sl : Nat} {v : Value} {f : Nat → Int32} (F : own_AI Z h a N f) (W : Wr h h' b sl v) (q : a ≠ b) : own_AI Z h' a N f := by obtain ⟨c, A, r⟩ := F; exact ⟨c, A.other W q, r⟩
theorem own_AJ_other {Z : State} {h h' : Heap} {a b : Addr} {N sl : Nat} {v : Value} {f : Nat → Int64} (F : own_AJ Z h a N f) (W : Wr h h' b sl v) (q : a ≠ b) : own_AJ Z h' a N f := by obtain ⟨c, A, r⟩ := F; exact ⟨c, A.other W q, r⟩
theorem own_AI_keep {Z : State} {h h' : Heap} {a : Addr} {N : Nat} {ws : List Addr} {f : Nat → Int32} (F : own_AI Z h a N f) (K : Keep h h' ws) (q : a ∉ ws) : own_AI Z h' a N f := by obtain ⟨c, A, r⟩ := F; exact ⟨c, ⟨K.2.1 a c A.1 q, A.2⟩, r⟩
theorem own_AJ_keep {Z : State} {h h' : Heap} {a : Addr} {N : Nat} {ws : List Addr} {f : Nat → Int64} (F : own_AJ Z h a N f) (K : Keep h h' ws) (q : a ∉ ws) : own_AJ Z h' a N f := by obtain ⟨c, A, r⟩ := F; exact ⟨c, ⟨K.2.1 a c A.1 q, A.2⟩, r⟩
theorem own_AI_lt {Z : State} {h : Heap} {a : Addr} {N : Nat} {f : Nat → Int32} (F : own_AI Z h a N f) : a < h.size := by obtain ⟨c, A, r⟩ := F; exact A.lt
theorem own_AJ_lt {Z : State} {h : Heap} {a : Addr} {N : Nat} {f : Nat → Int64} (F : own_AJ Z h a N f) : a < h.size := by obtain ⟨c, A, r⟩ := F; exact A.lt
theorem own_AI_congr {Z : State} {h : Heap} {a : Addr} {N : Nat} {f g : Nat → Int32} (F : own_AI Z h a N f) (q : ∀ j, j < N → f j = g j) : own_AI Z h a N g := by
  obtain ⟨c, A, S, H⟩ := F; exact ⟨c, A, S, fun j hj => by rw [← q j hj]; exact H j hj⟩
theorem own_AJ_congr {Z : State} {h : Heap} {a : Addr} {N : Nat} {f g : Nat → Int64} (F : own_AJ Z h a N f) (q : ∀ j, j < N → f j = g j) : own_AJ Z h a N g := by
  obtain ⟨c, A, S, H⟩ := F; exact ⟨c, A, S, fun j hj => by rw [← q j hj]; exact H j hj⟩
theorem own_AI_new {Z : State} {h : Heap} {a : Addr} {k : ClassId} {z : Int32} {N : Nat} (A : Arr Z h a (newA k .int z) .int) (hN : z.toNatClampNeg = N) : own_AI Z h a N (fun _ => (0 : Int32)) := by
  subst hN
  refine ⟨_, A, sz_new _ _ _, fun j hj => ?_⟩
  show (Array.replicate z.toNatClampNeg (defaultValue .int))[j]? = _
  rw [Array.getElem?_replicate, if_pos hj]
  rfl
theorem own_AJ_new {Z : State} {h : Heap} {a : Addr} {k : ClassId} {z : Int32} {N : Nat} (A : Arr Z h a (newA k .long z) .long) (hN : z.toNatClampNeg = N) : own_AJ Z h a N (fun _ => (0 : Int64)) := by
  subst hN
  refine ⟨_, A, sz_new _ _ _, fun j hj => ?_⟩
  show (Array.replicate z.toNatClampNeg (defaultValue .long))[j]? = _
  rw [Array.getElem?_replicate, if_pos hj]
  rfl
theorem own_clamp {j : Int32} {i : Nat} (hj : j.toInt = (i : Int)) : j.toNatClampNeg = i := by
  show j.toInt.toNat = i
  rw [hj]; rfl
theorem own_in {j : Int32} {i N n : Nat} (hj : j.toInt = (i : Int)) (S : n = N) (hi : i < N) : ¬ (j < 0 ∨ n ≤ j.toNatClampNeg) := by
  rw [own_clamp hj, S, Int32.lt_iff_toInt_lt, hj]
  have e0 : (0 : Int32).toInt = 0 := rfl
  omega
section OwnArr
variable {p : Program} {l : Launch} {e : Env} {R : Room} {s : State} {m : MethodId} {args : Array Value} {below : List Frame} {meth : Method} {c : Code} {T : State} {locs : List Loc} {cells slots : Nat} {Z : State} {h : Heap}
theorem own_ldI (X : Stand p l e R s m args below meth c T locs cells slots) (hx : p.tables.exec = Jvm.exec) (hZ : Z.Warmed39 s.vm) (eT : T.heap = h) {a : Addr} {N : Nat} {f : Nat → Int32} (A : own_AI Z h a N f) {j : Int32} {i : Nat} (hj : j.toInt = (i : Int)) (hi : i < N) {g : JFrame} (hg : g.method = m) {rest : List Value} (hs : g.stack = .int j :: .ref a :: rest) (hd : decode c.code g.pc = .ok (.iaload, 1)) :
    ∀ target, Steps p.tables e below (T.setTop { g with pc := g.pc + 1, stack := .int (f i) :: rest }) target → Steps p.tables e below (T.setTop g) target := by
  obtain ⟨cl, Ar, S, H⟩ := A
  intro target k
  exact X.iaload hx (v := .int (f i)) (by rw [eT]; exact Ar.1) (State.isArrayOf_alike hZ.alike Ar.2.1) Ar.2.2 (own_in hj S hi) (by rw [own_clamp hj]; exact H i hi) hg hs hd target k
theorem own_ldJ (X : Stand p l e R s m args below meth c T locs cells slots) (hx : p.tables.exec = Jvm.exec) (hZ : Z.Warmed39 s.vm) (eT : T.heap = h) {a : Addr} {N : Nat} {f : Nat → Int64} (A : own_AJ Z h a N f) {j : Int32} {i : Nat} (hj : j.toInt = (i : Int)) (hi : i < N) {g : JFrame} (hg : g.method = m) {rest : List Value} (hs : g.stack = .int j :: .ref a :: rest) (hd : decode c.code g.pc = .ok (.laload, 1)) :
    ∀ target, Steps p.tables e below (T.setTop { g with pc := g.pc + 1, stack := .long (f i) :: rest }) target → Steps p.tables e below (T.setTop g) target := by
  obtain ⟨cl, Ar, S, H⟩ := A
  intro target k
  exact X.laload hx (v := .long (f i)) (by rw [eT]; exact Ar.1) (State.isArrayOf_alike hZ.alike Ar.2.1) Ar.2.2 (own_in hj S hi) (by rw [own_clamp hj]; exact H i hi) hg hs hd target k
theorem own_stI (X : Stand p l e R s m args below meth c T locs cells slots) (hx : p.tables.exec = Jvm.exec) (hZ : Z.Warmed39 s.vm) (eT : T.heap = h) {a : Addr} {N : Nat} {f : Nat → Int32} (A : own_AI Z h a N f) {j x : Int32} {i : Nat} (hj : j.toInt = (i : Int)) (hi : i < N) {g : JFrame} (hg : g.method = m) {rest : List Value} (hs : g.stack = .int x :: .int j :: .ref a :: rest) (hd : decode c.code g.pc = .ok (.iastore, 1)) :
    ∃ T' h', Stand p l e R s m args below meth c T' (locs ++ [⟨a, j.toNatClampNeg⟩]) cells slots ∧ T'.heap = h' ∧ Wr h h' a j.toNatClampNeg (.int x) ∧ own_AI Z h' a N (own_up f i x) ∧ ∀ target, Steps p.tables e below (T'.setTop { g with pc := g.pc + 1, stack := rest }) target → Steps p.tables e below (T.setTop g) target := by
  obtain ⟨cl, Ar, S, H⟩ := A
  obtain ⟨T', h', X', e', W, st⟩ := stI X hx hZ eT Ar (own_in hj S hi) hg hs hd
  refine ⟨T', h', X', e', W, ⟨_, Ar.same W, by rw [sz_set]; exact S, fun k hk => ?_⟩, st⟩
  rw [own_clamp hj]
  show (cl.slots.setIfInBounds i (.int x))[k]? = _
  unfold own_up
  by_cases q : k = i
  · rw [if_pos q, q, Array.getElem?_setIfInBounds, if_pos rfl, if_pos (by omega)]
  · rw [if_neg q, Array.getElem?_setIfInBounds_ne (fun z => q z.symm)]
    exact H k hk
theorem own_stJ (X : Stand p l e R s m args below meth c T locs cells slots) (hx : p.tables.exec = Jvm.exec) (hZ : Z.Warmed39 s.vm) (eT : T.heap = h) {a : Addr} {N : Nat} {f : Nat → Int64} (A : own_AJ Z h a N f) {j : Int32} {x : Int64} {i : Nat} (hj : j.toInt = (i : Int)) (hi : i < N) {g : JFrame} (hg : g.method = m) {rest : List Value} (hs : g.stack = .long x :: .int j :: .ref a :: rest) (hd : decode c.code g.pc = .ok (.lastore, 1)) :
    ∃ T' h', Stand p l e R s m args below meth c T' (locs ++ [⟨a, j.toNatClampNeg⟩]) cells slots ∧ T'.heap = h' ∧ Wr h h' a j.toNatClampNeg (.long x) ∧ own_AJ Z h' a N (own_up f i x) ∧ ∀ target, Steps p.tables e below (T'.setTop { g with pc := g.pc + 1, stack := rest }) target → Steps p.tables e below (T.setTop g) target := by
  obtain ⟨cl, Ar, S, H⟩ := A
  obtain ⟨T', h', X', e', W, st⟩ := stJ X hx hZ eT Ar (own_in hj S hi) hg hs hd
  refine ⟨T', h', X', e', W, ⟨_, Ar.same W, by rw [sz_set]; exact S, fun k hk => ?_⟩, st⟩
  rw [own_clamp hj]
  show (cl.slots.setIfInBounds i (.long x))[k]? = _
  unfold own_up
  by_cases q : k = i
  · rw [if_pos q, q, Array.getElem?_setIfInBounds, if_pos rfl, if_pos (by omega)]
  · rw [if_neg q, Array.getElem?_setIfInBounds_ne (fun z => q z.symm)]
    exact H k hk
end OwnArr
def own_C (Z : State) (h : Heap) (a u w : Addr) (f g : Nat → Int32) (n : Int32) : Prop := Exa Z h a "com/example/arbora/arbora/supertree/Changes" ∧ Fld Z h a "com/example/arbora/arbora/supertree/Changes" "listedIn" "[I" (.ref u) ∧ Fld Z h a "com/example/arbora/arbora/supertree/Changes" "listed" "[I" (.ref w) ∧ Fld Z h a "com/example/arbora/arbora/supertree/Changes" "size" "I" (.int n) ∧ own_AI Z h u 4 f ∧ own_AI Z h w 4 g ∧ a ≠ u ∧ a ≠ w ∧ u ≠ w
def own_r1 (p : Int32) : Int32 := (p &&& (1073741823 : Int32)) + (1 : Int32)
def own_r2 (p q : Int32) : Int32 := (own_r1 p + (1 : Int32)) + (q &&& (1073741822 : Int32))
def own_m (p : Int32) : Int32 := p &&& (3 : Int32)
theorem own_mask (p k : Int32) (hk : 0 ≤ k.toInt) : 0 ≤ (p &&& k).toInt ∧ (p &&& k).toInt ≤ k.toInt := by
  have h1 : (p &&& k).toBitVec.toNat = p.toBitVec.toNat &&& k.toBitVec.toNat := BitVec.toNat_and _ _
  have h2 : p.toBitVec.toNat &&& k.toBitVec.toNat ≤ k.toBitVec.toNat := Nat.and_le_right
  have h3 : (p &&& k).toInt = (p &&& k).toBitVec.toInt := rfl
  have h4 := BitVec.toInt_eq_toNat_cond (p &&& k).toBitVec
  have h5 : k.toInt = k.toBitVec.toInt := rfl
  have h6 := BitVec.toInt_eq_toNat_cond k.toBitVec
  have h7 := k.toBitVec.isLt
  rw [h3, h4, h1]
  rw [h5, h6] at hk ⊢
  split at hk <;> split <;> omega
theorem own_m_rng (p : Int32) : ∃ i : Nat, (own_m p).toInt = (i : Int) ∧ i < 4 := by
  have h := own_mask p 3 (by decide)
  have e : (3 : Int32).toInt = 3 := by decide
  refine ⟨(own_m p).toInt.toNat, ?_, ?_⟩
  · unfold own_m; omega
  · unfold own_m; omega
theorem own_r1_rng (p : Int32) : 1 ≤ (own_r1 p).toInt ∧ (own_r1 p).toInt ≤ 1073741824 := by
  have h := own_mask p 1073741823 (by decide)
  have e : (1073741823 : Int32).toInt = 1073741823 := by decide
  have e1 : (1 : Int32).toInt = 1 := by decide
  have h4 : ((p &&& (1073741823 : Int32)) + (1 : Int32)).toInt = ((p &&& (1073741823 : Int32)).toInt + (1 : Int32).toInt).bmod (2 ^ 32) := Int32.toInt_add _ _
  rw [e1, Int.bmod_eq_of_le (by omega) (by omega)] at h4
  unfold own_r1
  omega
theorem own_r2_ne (p q : Int32) : ¬ (own_r1 p = own_r2 p q) := by
  have h := own_mask q 1073741822 (by decide)
  have e : (1073741822 : Int32).toInt = 1073741822 := by decide
  have e1 : (1 : Int32).toInt = 1 := by decide
  have hr := own_r1_rng p
  have h4 : (own_r1 p + (1 : Int32)).toInt = ((own_r1 p).toInt + (1 : Int32).toInt).bmod (2 ^ 32) := Int32.toInt_add _ _
  rw [e1, Int.bmod_eq_of_le (by omega) (by omega)] at h4
  have h5 : ((own_r1 p + (1 : Int32)) + (q &&& (1073741822 : Int32))).toInt = ((own_r1 p + (1 : Int32)).toInt + (q &&& (1073741822 : Int32)).toInt).bmod (2 ^ 32) := Int32.toInt_add _ _
  rw [Int.bmod_eq_of_le (by omega) (by omega)] at h5
  intro hq
  have h6 : (own_r1 p).toInt = (own_r2 p q).toInt := by rw [← hq]
  unfold own_r2 at h6
  omega
theorem own_r1_ne0 (p : Int32) : ¬ ((0 : Int32) = own_r1 p) := by
  have hr := own_r1_rng p
  intro hq
  have h6 : (0 : Int32).toInt = (own_r1 p).toInt := by rw [← hq]
  have e0 : (0 : Int32).toInt = 0 := rfl
  omega
theorem own_pn : plainName "com/example/arbora/arbora/supertree/Changes" = true := by first | (simp [plainName, overriddenIn]; done) | decide +kernel
theorem d1_0 : decode prog_19_method_1_code 0 = .ok (.aload_n 0, 1) := by decide +kernel
theorem d1_1 : decode prog_19_method_1_code 1 = .ok (.invokespecial 1, 3) := by decide +kernel
theorem d1_4 : decode prog_19_method_1_code 4 = .ok (.aload_n 0, 1) := by decide +kernel
theorem d1_5 : decode prog_19_method_1_code 5 = .ok (.iload_n 1, 1) := by decide +kernel
theorem d1_6 : decode prog_19_method_1_code 6 = .ok (.newarray .int, 2) := by decide +kernel
theorem d1_8 : decode prog_19_method_1_code 8 = .ok (.putfield 7, 3) := by decide +kernel
theorem d1_11 : decode prog_19_method_1_code 11 = .ok (.aload_n 0, 1) := by decide +kernel
theorem d1_12 : decode prog_19_method_1_code 12 = .ok (.iload_n 1, 1) := by decide +kernel
theorem d1_13 : decode prog_19_method_1_code 13 = .ok (.newarray .int, 2) := by decide +kernel
theorem d1_15 : decode prog_19_method_1_code 15 = .ok (.putfield 13, 3) := by decide +kernel
theorem d1_18 : decode prog_19_method_1_code 18 = .ok (.return_, 1) := by decide +kernel
def own_Q1 (Z : State) (a1 : Addr) (h0 : Heap) (n0 : Nat) (v : Option Value) (h : Heap) (L : List Loc) : Prop := v = none ∧ Fr n0 L ∧ Keep h0 h [a1] ∧ ∃ u w : Addr, n0 ≤ u ∧ n0 ≤ w ∧ own_C Z h a1 u w (fun _ => (0 : Int32)) (fun _ => (0 : Int32)) (0 : Int32)
theorem own_ef1 (m : MethodId) (x0 : Addr)  : entryFrame m #[(.ref x0), (.int (4 : Int32))] 2 = mkF m 0 #[.val (.ref x0), .val (.int (4 : Int32))] [] := by first | (simp [entryFrame, mkF, argsToLocals, Value.category]; done) | rfl
set_option maxRecDepth 65536 in
set_option maxHeartbeats 40000000 in
theorem rm1 (l : Launch) (Z : State) (a0 : Array Value) (hw : ∀ d ∈ tables_1, d.before a0 Z = true) (ws : List Jvm.Cond) (a1 : Addr) (h0 : Heap) (n0 : Nat) (Z0 : n0 ≤ h0.size) (E_a1 : Exa Z h0 a1 "com/example/arbora/arbora/supertree/Changes") (Fu : Fld Z h0 a1 "com/example/arbora/arbora/supertree/Changes" "listedIn" "[I" .null) (Fw : Fld Z h0 a1 "com/example/arbora/arbora/supertree/Changes" "listed" "[I" .null) (Fs : Fld Z h0 a1 "com/example/arbora/arbora/supertree/Changes" "size" "I" (.int (0 : Int32))) (g_a1 : n0 ≤ a1) :
    MetFree l (⟨"com/example/arbora/arbora/supertree/Changes", "<init>", "(I)V"⟩ : MethodName) (head1 (Jvm.Cond.code (⟨"com/example/arbora/arbora/supertree/Changes", "<init>", "(I)V"⟩ : MethodName) prog_19_method_1_code 2 none :: ws) ({ frames := 1, cells := 2, slots := 8, locals := 12 } : Room)) (fun aa U => aa = #[(.ref a1), (.int (4 : Int32))] ∧ Z.Warmed39 U.vm ∧ U.heap = h0) (fun _ _ _ _ _ => True) (fun _ U o U' => ∃ v L, o = .returned v ∧ own_Q1 Z a1 h0 n0 v U'.heap L ∧ FrameEnd U o U' L ({ frames := 1, cells := 2, slots := 8, locals := 12 } : Room).cells ({ frames := 1, cells := 2, slots := 8, locals := 12 } : Room).slots) := by
  refine MetFree.of_bodySF (plainFor_of_name own_pn) hisR ?_
  intro p e s m args below meth c s₁ Bd hml0 hP hK
  obtain ⟨rfl, hZ, hh⟩ := hP
  have hx := Bd.exec
  have hby := Bd.bytes
  have hml : c.maxLocals = 2 := hml0
  have hown : s.vm.findClass "com/example/arbora/arbora/supertree/Changes" = some m.cls := findClass_of_methodNamed Bd.named
  have hnm := (name_of_methodNamed Bd.named Bd.method).1
  have X0 : Stand p l e ({ frames := 1, cells := 2, slots := 8, locals := 12 } : Room) s m #[(.ref a1), (.int (4 : Int32))] below meth c s₁ [] 0 0 := Stand.of_body Bd
  have e0 : s₁.heap = h0 := by rw [← hh, Bd.state]; rfl
  have N0 := Fr.nil n0
  have pre0 : ∀ t, Steps p.tables e below (s₁.setTop (mkF m 0 #[.val (.ref a1), .val (.int (4 : Int32))] [])) t → Steps p.tables e below (s₁.setTop (entryFrame m #[(.ref a1), (.int (4 : Int32))] 2)) t := fun tt kk => castTop (own_ef1 m a1) kk
  obtain ⟨T11, X11, e11, st11⟩ := initO X0 hx hZ hown (hw _ (List.mem_of_getElem? (i := 8) rfl)) (hw _ (List.mem_of_getElem? (i := 9) rfl)) (hw _ (List.mem_of_getElem? (i := 10) rfl)) e0 (g := (mkF m 1 #[.val (.ref a1), .val (.int (4 : Int32))] [(.ref a1)])) rfl (by rw [hml]; rfl) rfl (hb hby d1_1) (by decide) (W := 0) (by show 2 * 0 + _ ≤ _; exact Nat.le_of_eq rfl) (by decide)
  obtain ⟨T12, h12, k12, X12, e12, E12, A12, st12⟩ := newP X11 hx hZ (hw _ (List.mem_of_getElem? (i := 11) rfl)) e11 (g := (mkF m 6 #[.val (.ref a1), .val (.int (4 : Int32))] [(.int (4 : Int32)), (.ref a1)])) rfl (hb hby d1_6) rfl (by decide) (cap := 4) (by decide) (by decide) (by decide) (by decide)
  obtain ⟨b12, g12⟩ : ∃ z, z = h0.size := ⟨_, rfl⟩
  rw [← g12] at A12 st12
  have ne_a : a1 ≠ b12 := Nat.ne_of_lt (Nat.lt_of_lt_of_le E_a1.lt (Nat.le_of_eq g12.symm))
  have Va := own_AI_new (N := 4) A12 (by decide)
  obtain ⟨T13, h13, X13, e13, W13, st13⟩ := putF X12 hx hZ hown (host := "") (Or.inl (hw _ (List.mem_of_getElem? (i := 12) rfl))) Via.refl e12 (Fu.ext E12) (E_a1.ext E12) (Or.inr ⟨(hw _ (List.mem_of_getElem? (i := 13) rfl)), rfl, hnm⟩) (hw _ (List.mem_of_getElem? (i := 3) rfl)) (ty := (.array .int)) (by decide) rfl rfl (g := (mkF m 8 #[.val (.ref a1), .val (.int (4 : Int32))] [(.ref b12), (.ref a1)])) rfl rfl (hb hby d1_8)
  have N13 := Fr.snoc X13 N0 (g_a1)
  obtain ⟨T14, h14, k14, X14, e14, E14, A14, st14⟩ := newP X13 hx hZ (hw _ (List.mem_of_getElem? (i := 11) rfl)) e13 (g := (mkF m 13 #[.val (.ref a1), .val (.int (4 : Int32))] [(.int (4 : Int32)), (.ref a1)])) rfl (hb hby d1_13) rfl (by decide) (cap := 4) (by decide) (by decide) (by decide) (by decide)
  obtain ⟨b14, g14⟩ : ∃ z, z = h13.size := ⟨_, rfl⟩
  rw [← g14] at A14 st14
  have Eb := ((E_a1.ext E12).wr W13)
  have ne_b : a1 ≠ b14 := Nat.ne_of_lt (Nat.lt_of_lt_of_le Eb.lt (Nat.le_of_eq g14.symm))
  have Va2 := own_AI_other Va W13 (Ne.symm ne_a)
  have ne_ab : b12 ≠ b14 := Nat.ne_of_lt (Nat.lt_of_lt_of_le (own_AI_lt Va2) (Nat.le_of_eq g14.symm))
  have Vb := own_AI_new (N := 4) A14 (by decide)
  obtain ⟨T15, h15, X15, e15, W15, st15⟩ := putF X14 hx hZ hown (host := "") (Or.inl (hw _ (List.mem_of_getElem? (i := 14) rfl))) Via.refl e14 (((Fw.ext E12).other W13 (Or.inr (slot_ne (Or.inr (hw _ (List.mem_of_getElem? (i := 15) rfl))) (Or.inr (hw _ (List.mem_of_getElem? (i := 13) rfl))) (by decide) (t := (.array .int)) (t' := (.array .int)) (by decide) (by decide)))).ext E14) (Eb.ext E14) (Or.inr ⟨(hw _ (List.mem_of_getElem? (i := 15) rfl)), rfl, hnm⟩) (hw _ (List.mem_of_getElem? (i := 3) rfl)) (ty := (.array .int)) (by decide) rfl rfl (g := (mkF m 15 #[.val (.ref a1), .val (.int (4 : Int32))] [(.ref b14), (.ref a1)])) rfl rfl (hb hby d1_15)
  have N15 := Fr.snoc X15 N13 (g_a1)
  have K1 : Keep h0 h15 [a1] := ((((Keep.refl h0 [a1]).ext E12).wr W13 (Or.inl (List.mem_of_getElem? (i := 0) rfl))).ext E14).wr W15 (Or.inl (List.mem_of_getElem? (i := 0) rfl))
  have ga : n0 ≤ b12 := Nat.le_trans Z0 (Nat.le_of_eq g12.symm)
  have gb : n0 ≤ b14 := Nat.le_trans ga (Nat.le_of_lt (Nat.lt_of_lt_of_le (own_AI_lt Va2) (Nat.le_of_eq g14.symm)))
  have C1 : own_C Z h15 a1 b12 b14 (fun _ => (0 : Int32)) (fun _ => (0 : Int32)) (0 : Int32) := ⟨((Eb.ext E14).wr W15), ((((Fu.ext E12).same W13).ext E14).other W15 (Or.inr (slot_ne (Or.inr (hw _ (List.mem_of_getElem? (i := 13) rfl))) (Or.inr (hw _ (List.mem_of_getElem? (i := 15) rfl))) (by decide) (t := (.array .int)) (t' := (.array .int)) (by decide) (by decide)))), ((((Fw.ext E12).other W13 (Or.inr (slot_ne (Or.inr (hw _ (List.mem_of_getElem? (i := 15) rfl))) (Or.inr (hw _ (List.mem_of_getElem? (i := 13) rfl))) (by decide) (t := (.array .int)) (t' := (.array .int)) (by decide) (by decide)))).ext E14).same W15), ((((Fs.ext E12).other W13 (Or.inr (slot_ne (Or.inl (hw _ (List.mem_of_getElem? (i := 22) rfl))) (Or.inr (hw _ (List.mem_of_getElem? (i := 13) rfl))) (by decide) (t := .int) (t' := (.array .int)) (by decide) (by decide)))).ext E14).other W15 (Or.inr (slot_ne (Or.inl (hw _ (List.mem_of_getElem? (i := 22) rfl))) (Or.inr (hw _ (List.mem_of_getElem? (i := 15) rfl))) (by decide) (t := .int) (t' := (.array .int)) (by decide) (by decide)))), own_AI_other (own_AI_ext Va2 E14) W15 (Ne.symm ne_a), own_AI_other Vb W15 (Ne.symm ne_b), ne_a, ne_b, ne_ab⟩
  obtain ⟨fs, hr, hrun, hended, hW, hsame⟩ := X15.leave (v := none) (fun _ => rfl)
  refine ⟨_, _, pre0 _ ?_, hrun, hended, _, _, rfl, ?_, ⟨_, rfl⟩, hW, hsame.mono (by decide) (by decide)⟩
  · show Steps p.tables e below (s₁.setTop (mkF m 0 #[.val (.ref a1), .val (.int (4 : Int32))] [])) _
    refine XS.aloadN X0.here hx rfl (hb hby d1_0) rfl rfl ?_
    show Steps p.tables e below (s₁.setTop (mkF m 1 #[.val (.ref a1), .val (.int (4 : Int32))] [(.ref a1)])) _
    refine st11 _ ?_
    show Steps p.tables e below (T11.setTop (mkF m 4 #[.val (.ref a1), .val (.int (4 : Int32))] [])) _
    refine XS.aloadN X11.here hx rfl (hb hby d1_4) rfl rfl ?_
    show Steps p.tables e below (T11.setTop (mkF m 5 #[.val (.ref a1), .val (.int (4 : Int32))] [(.ref a1)])) _
    refine XS.iloadN X11.here hx rfl (hb hby d1_5) rfl ?_
    show Steps p.tables e below (T11.setTop (mkF m 6 #[.val (.ref a1), .val (.int (4 : Int32))] [(.int (4 : Int32)), (.ref a1)])) _
    refine st12 _ ?_
    show Steps p.tables e below (T12.setTop (mkF m 8 #[.val (.ref a1), .val (.int (4 : Int32))] [(.ref b12), (.ref a1)])) _
    refine st13 _ ?_
    show Steps p.tables e below (T13.setTop (mkF m 11 #[.val (.ref a1), .val (.int (4 : Int32))] [])) _
    refine XS.aloadN X13.here hx rfl (hb hby d1_11) rfl rfl ?_
    show Steps p.tables e below (T13.setTop (mkF m 12 #[.val (.ref a1), .val (.int (4 : Int32))] [(.ref a1)])) _
    refine XS.iloadN X13.here hx rfl (hb hby d1_12) rfl ?_
    show Steps p.tables e below (T13.setTop (mkF m 13 #[.val (.ref a1), .val (.int (4 : Int32))] [(.int (4 : Int32)), (.ref a1)])) _
    refine st14 _ ?_
    show Steps p.tables e below (T14.setTop (mkF m 15 #[.val (.ref a1), .val (.int (4 : Int32))] [(.ref b14), (.ref a1)])) _
    refine st15 _ ?_
    show Steps p.tables e below (T15.setTop (mkF m 18 #[.val (.ref a1), .val (.int (4 : Int32))] [])) _
    exact X15.returnOut hx Bd.returns (hb hby d1_18) hr
  · show own_Q1 Z a1 h0 n0 _ T15.heap _
    rw [e15]
    exact ⟨rfl, N15, K1, _, _, ga, gb, C1⟩
theorem d3_0 : decode prog_19_method_2_code 0 = .ok (.aload_n 0, 1) := by decide +kernel
theorem d3_1 : decode prog_19_method_2_code 1 = .ok (.getfield 7, 3) := by decide +kernel
theorem d3_4 : decode prog_19_method_2_code 4 = .ok (.iload_n 1, 1) := by decide +kernel
theorem d3_5 : decode prog_19_method_2_code 5 = .ok (.iaload, 1) := by decide +kernel
theorem d3_6 : decode prog_19_method_2_code 6 = .ok (.iload_n 2, 1) := by decide +kernel
theorem d3_7 : decode prog_19_method_2_code 7 = .ok (.if_icmp .ne 5, 3) := by decide +kernel
theorem d3_10 : decode prog_19_method_2_code 10 = .ok (.iconst 0, 1) := by decide +kernel
theorem d3_11 : decode prog_19_method_2_code 11 = .ok (.ireturn, 1) := by decide +kernel
theorem d3_12 : decode prog_19_method_2_code 12 = .ok (.aload_n 0, 1) := by decide +kernel
theorem d3_13 : decode prog_19_method_2_code 13 = .ok (.getfield 7, 3) := by decide +kernel
theorem d3_16 : decode prog_19_method_2_code 16 = .ok (.iload_n 1, 1) := by decide +kernel
theorem d3_17 : decode prog_19_method_2_code 17 = .ok (.iload_n 2, 1) := by decide +kernel
theorem d3_18 : decode prog_19_method_2_code 18 = .ok (.iastore, 1) := by decide +kernel
theorem d3_19 : decode prog_19_method_2_code 19 = .ok (.aload_n 0, 1) := by decide +kernel
theorem d3_20 : decode prog_19_method_2_code 20 = .ok (.getfield 13, 3) := by decide +kernel
theorem d3_23 : decode prog_19_method_2_code 23 = .ok (.aload_n 0, 1) := by decide +kernel
theorem d3_24 : decode prog_19_method_2_code 24 = .ok (.dup, 1) := by decide +kernel
theorem d3_25 : decode prog_19_method_2_code 25 = .ok (.getfield 16, 3) := by decide +kernel
theorem d3_28 : decode prog_19_method_2_code 28 = .ok (.dup_x1, 1) := by decide +kernel
theorem d3_29 : decode prog_19_method_2_code 29 = .ok (.iconst 1, 1) := by decide +kernel
theorem d3_30 : decode prog_19_method_2_code 30 = .ok (.iadd, 1) := by decide +kernel
theorem d3_31 : decode prog_19_method_2_code 31 = .ok (.putfield 16, 3) := by decide +kernel
theorem d3_34 : decode prog_19_method_2_code 34 = .ok (.iload_n 1, 1) := by decide +kernel
theorem d3_35 : decode prog_19_method_2_code 35 = .ok (.iastore, 1) := by decide +kernel
theorem d3_36 : decode prog_19_method_2_code 36 = .ok (.iconst 1, 1) := by decide +kernel
theorem d3_37 : decode prog_19_method_2_code 37 = .ok (.ireturn, 1) := by decide +kernel
def own_Q3 (Z : State) (a u w : Addr) (f g : Nat → Int32) (n t : Int32) (h0 : Heap) (n0 : Nat) (v : Option Value) (h : Heap) (L : List Loc) : Prop := v = some (.int t) ∧ Fr n0 L ∧ Keep h0 h [a, u, w] ∧ own_C Z h a u w f g n
theorem own_ef3_f (m : MethodId) (x0 : Addr) (x1 : Int32) (x2 : Int32) : entryFrame m #[(.ref x0), (.int x1), (.int x2)] 3 = mkF m 0 #[.val (.ref x0), .val (.int x1), .val (.int x2)] [] := by first | (simp [entryFrame, mkF, argsToLocals, Value.category]; done) | rfl
set_option maxRecDepth 65536 in
set_option maxHeartbeats 40000000 in
theorem rm3_f (l : Launch) (Z : State) (a0 : Array Value) (hw : ∀ d ∈ tables_1, d.before a0 Z = true) (ws : List Jvm.Cond) (a u w : Addr) (p2 p3 : Int32) (f g : Nat → Int32) (n : Int32) (i k : Nat)  (h0 : Heap) (n0 : Nat) (Z0 : n0 ≤ h0.size) (C0 : own_C Z h0 a u w f g n) (hp : p2.toInt = (i : Int)) (hi : i < 4) (hn : n.toInt = (k : Int)) (hk : k < 4) (g_a : n0 ≤ a) (g_u : n0 ≤ u) (g_w : n0 ≤ w) (hc7 : f i = p3) :
    MetFree l (⟨"com/example/arbora/arbora/supertree/Changes", "add", "(II)Z"⟩ : MethodName) (head1 (Jvm.Cond.code (⟨"com/example/arbora/arbora/supertree/Changes", "add", "(II)Z"⟩ : MethodName) prog_19_method_2_code 3 (some .boolean) :: ws) ({ frames := 0, cells := 0, slots := 0, locals := 0 } : Room)) (fun aa U => aa = #[(.ref a), (.int p2), (.int p3)] ∧ Z.Warmed39 U.vm ∧ U.heap = h0) (fun _ _ _ _ _ => True) (fun _ U o U' => ∃ v L, o = .returned v ∧ own_Q3 Z a u w f g n (0 : Int32) h0 n0 v U'.heap L ∧ FrameEnd U o U' L ({ frames := 0, cells := 0, slots := 0, locals := 0 } : Room).cells ({ frames := 0, cells := 0, slots := 0, locals := 0 } : Room).slots) := by
  refine MetFree.of_bodySF (plainFor_of_name own_pn) hisR ?_
  intro p e s m args below meth c s₁ Bd hml0 hP hK
  obtain ⟨rfl, hZ, hh⟩ := hP
  have hx := Bd.exec
  have hby := Bd.bytes
  have hml : c.maxLocals = 3 := hml0
  have hown : s.vm.findClass "com/example/arbora/arbora/supertree/Changes" = some m.cls := findClass_of_methodNamed Bd.named
  have hnm := (name_of_methodNamed Bd.named Bd.method).1
  have X0 : Stand p l e ({ frames := 0, cells := 0, slots := 0, locals := 0 } : Room) s m #[(.ref a), (.int p2), (.int p3)] below meth c s₁ [] 0 0 := Stand.of_body Bd
  have e0 : s₁.heap = h0 := by rw [← hh, Bd.state]; rfl
  have N0 := Fr.nil n0
  have pre0 : ∀ t, Steps p.tables e below (s₁.setTop (mkF m 0 #[.val (.ref a), .val (.int p2), .val (.int p3)] [])) t → Steps p.tables e below (s₁.setTop (entryFrame m #[(.ref a), (.int p2), (.int p3)] 3)) t := fun tt kk => castTop (own_ef3_f m a p2 p3) kk
  obtain ⟨Ce, Cu, Cw, Cs, Vu, Vw, nau, naw, nuw⟩ := C0
  obtain ⟨T11, X11, e11, st11⟩ := getF X0 hx hZ hown (host := "") (Or.inl (hw _ (List.mem_of_getElem? (i := 12) rfl))) Via.refl e0 (Cu) (g := (mkF m 1 #[.val (.ref a), .val (.int p2), .val (.int p3)] [(.ref a)])) rfl rfl (hb hby d3_1)
  obtain ⟨fs, hr, hrun, hended, hW, hsame⟩ := X11.leave (v := some (.int (0 : Int32))) (fun h => by rw [Bd.returns] at h; cases h)
  refine ⟨_, _, pre0 _ ?_, hrun, hended, _, _, rfl, ?_, ⟨_, rfl⟩, hW, hsame.mono (by decide) (by decide)⟩
  · show Steps p.tables e below (s₁.setTop (mkF m 0 #[.val (.ref a), .val (.int p2), .val (.int p3)] [])) _
    refine XS.aloadN X0.here hx rfl (hb hby d3_0) rfl rfl ?_
    show Steps p.tables e below (s₁.setTop (mkF m 1 #[.val (.ref a), .val (.int p2), .val (.int p3)] [(.ref a)])) _
    refine st11 _ ?_
    show Steps p.tables e below (T11.setTop (mkF m 4 #[.val (.ref a), .val (.int p2), .val (.int p3)] [(.ref u)])) _
    refine XS.iloadN X11.here hx rfl (hb hby d3_4) rfl ?_
    show Steps p.tables e below (T11.setTop (mkF m 5 #[.val (.ref a), .val (.int p2), .val (.int p3)] [(.int p2), (.ref u)])) _
    refine own_ldI X11 hx hZ e11 (Vu) (hp) (hi) (g := (mkF m 5 #[.val (.ref a), .val (.int p2), .val (.int p3)] [(.int p2), (.ref u)])) rfl rfl (hb hby d3_5) _ ?_
    show Steps p.tables e below (T11.setTop (mkF m 6 #[.val (.ref a), .val (.int p2), .val (.int p3)] [(.int (f i))])) _
    refine XS.iloadN X11.here hx rfl (hb hby d3_6) rfl ?_
    show Steps p.tables e below (T11.setTop (mkF m 7 #[.val (.ref a), .val (.int p2), .val (.int p3)] [(.int p3), (.int (f i))])) _
    refine XS.icmpNo X11.here hx rfl (hb hby d3_7) rfl (teq (hc7 : (f i) = p3)).2 ?_
    show Steps p.tables e below (T11.setTop (mkF m 10 #[.val (.ref a), .val (.int p2), .val (.int p3)] [])) _
    refine XS.iconst X11.here hx rfl (hb hby d3_10) ?_
    show Steps p.tables e below (T11.setTop (mkF m 11 #[.val (.ref a), .val (.int p2), .val (.int p3)] [(.int (0 : Int32))])) _
    exact retN X11 hx (t := .boolean) Bd.returns (by simp) (hb hby d3_11) hr
  · show own_Q3 Z a u w f g n (0 : Int32) h0 n0 _ T11.heap _
    rw [e11]
    exact ⟨rfl, N0, Keep.refl h0 [a, u, w], ⟨Ce, Cu, Cw, Cs, Vu, Vw, nau, naw, nuw⟩⟩
theorem own_ef3_t (m : MethodId) (x0 : Addr) (x1 : Int32) (x2 : Int32) : entryFrame m #[(.ref x0), (.int x1), (.int x2)] 3 = mkF m 0 #[.val (.ref x0), .val (.int x1), .val (.int x2)] [] := by first | (simp [entryFrame, mkF, argsToLocals, Value.category]; done) | rfl
set_option maxRecDepth 65536 in
set_option maxHeartbeats 40000000 in
theorem rm3_t (l : Launch) (Z : State) (a0 : Array Value) (hw : ∀ d ∈ tables_1, d.before a0 Z = true) (ws : List Jvm.Cond) (a u w : Addr) (p2 p3 : Int32) (f g : Nat → Int32) (n : Int32) (i k : Nat)  (h0 : Heap) (n0 : Nat) (Z0 : n0 ≤ h0.size) (C0 : own_C Z h0 a u w f g n) (hp : p2.toInt = (i : Int)) (hi : i < 4) (hn : n.toInt = (k : Int)) (hk : k < 4) (g_a : n0 ≤ a) (g_u : n0 ≤ u) (g_w : n0 ≤ w) (hc7 : ¬ (f i = p3)) :
    MetFree l (⟨"com/example/arbora/arbora/supertree/Changes", "add", "(II)Z"⟩ : MethodName) (head1 (Jvm.Cond.code (⟨"com/example/arbora/arbora/supertree/Changes", "add", "(II)Z"⟩ : MethodName) prog_19_method_2_code 3 (some .boolean) :: ws) ({ frames := 0, cells := 0, slots := 0, locals := 0 } : Room)) (fun aa U => aa = #[(.ref a), (.int p2), (.int p3)] ∧ Z.Warmed39 U.vm ∧ U.heap = h0) (fun _ _ _ _ _ => True) (fun _ U o U' => ∃ v L, o = .returned v ∧ own_Q3 Z a u w (own_up f i p3) (own_up g k p2) (n + (1 : Int32)) (1 : Int32) h0 n0 v U'.heap L ∧ FrameEnd U o U' L ({ frames := 0, cells := 0, slots := 0, locals := 0 } : Room).cells ({ frames := 0, cells := 0, slots := 0, locals := 0 } : Room).slots) := by
  refine MetFree.of_bodySF (plainFor_of_name own_pn) hisR ?_
  intro p e s m args below meth c s₁ Bd hml0 hP hK
  obtain ⟨rfl, hZ, hh⟩ := hP
  have hx := Bd.exec
  have hby := Bd.bytes
  have hml : c.maxLocals = 3 := hml0
  have hown : s.vm.findClass "com/example/arbora/arbora/supertree/Changes" = some m.cls := findClass_of_methodNamed Bd.named
  have hnm := (name_of_methodNamed Bd.named Bd.method).1
  have X0 : Stand p l e ({ frames := 0, cells := 0, slots := 0, locals := 0 } : Room) s m #[(.ref a), (.int p2), (.int p3)] below meth c s₁ [] 0 0 := Stand.of_body Bd
  have e0 : s₁.heap = h0 := by rw [← hh, Bd.state]; rfl
  have N0 := Fr.nil n0
  have pre0 : ∀ t, Steps p.tables e below (s₁.setTop (mkF m 0 #[.val (.ref a), .val (.int p2), .val (.int p3)] [])) t → Steps p.tables e below (s₁.setTop (entryFrame m #[(.ref a), (.int p2), (.int p3)] 3)) t := fun tt kk => castTop (own_ef3_t m a p2 p3) kk
  obtain ⟨Ce, Cu, Cw, Cs, Vu, Vw, nau, naw, nuw⟩ := C0
  obtain ⟨T11, X11, e11, st11⟩ := getF X0 hx hZ hown (host := "") (Or.inl (hw _ (List.mem_of_getElem? (i := 12) rfl))) Via.refl e0 (Cu) (g := (mkF m 1 #[.val (.ref a), .val (.int p2), .val (.int p3)] [(.ref a)])) rfl rfl (hb hby d3_1)
  obtain ⟨T12, X12, e12, st12⟩ := getF X11 hx hZ hown (host := "") (Or.inl (hw _ (List.mem_of_getElem? (i := 12) rfl))) Via.refl e11 (Cu) (g := (mkF m 13 #[.val (.ref a), .val (.int p2), .val (.int p3)] [(.ref a)])) rfl rfl (hb hby d3_13)
  obtain ⟨T13, h13, X13, e13, W13, V13, st13⟩ := own_stI X12 hx hZ e12 (Vu) (hp) (hi) (g := (mkF m 18 #[.val (.ref a), .val (.int p2), .val (.int p3)] [(.int p3), (.int p2), (.ref u)])) rfl rfl (hb hby d3_18)
  have N13 := Fr.snoc X13 N0 (g_u)
  obtain ⟨T14, X14, e14, st14⟩ := getF X13 hx hZ hown (host := "") (Or.inl (hw _ (List.mem_of_getElem? (i := 14) rfl))) Via.refl e13 (Cw.other W13 (Or.inl nau)) (g := (mkF m 20 #[.val (.ref a), .val (.int p2), .val (.int p3)] [(.ref a)])) rfl rfl (hb hby d3_20)
  obtain ⟨T15, X15, e15, st15⟩ := getF X14 hx hZ hown (host := "") (Or.inl (hw _ (List.mem_of_getElem? (i := 21) rfl))) Via.refl e14 (Cs.other W13 (Or.inl nau)) (g := (mkF m 25 #[.val (.ref a), .val (.int p2), .val (.int p3)] [(.ref a), (.ref a), (.ref w)])) rfl rfl (hb hby d3_25)
  obtain ⟨T16, h16, X16, e16, W16, st16⟩ := putF X15 hx hZ hown (host := "") (Or.inl (hw _ (List.mem_of_getElem? (i := 21) rfl))) Via.refl e15 (Cs.other W13 (Or.inl nau)) (Ce.wr W13) (Or.inl (hw _ (List.mem_of_getElem? (i := 22) rfl))) (hw _ (List.mem_of_getElem? (i := 3) rfl)) (ty := .int) (by decide) rfl rfl (g := (mkF m 31 #[.val (.ref a), .val (.int p2), .val (.int p3)] [(.int (n + (1 : Int32))), (.ref a), (.int n), (.ref w)])) rfl rfl (hb hby d3_31)
  have N16 := Fr.snoc X16 N13 (g_a)
  obtain ⟨T17, h17, X17, e17, W17, V17, st17⟩ := own_stI X16 hx hZ e16 (own_AI_other (own_AI_other Vw W13 (Ne.symm nuw)) W16 (Ne.symm naw)) (hn) (hk) (g := (mkF m 35 #[.val (.ref a), .val (.int p2), .val (.int p3)] [(.int p2), (.int n), (.ref w)])) rfl rfl (hb hby d3_35)
  have N17 := Fr.snoc X17 N16 (g_w)
  have K1 : Keep h0 h17 [a, u, w] := (((Keep.refl h0 [a, u, w]).wr W13 (Or.inl (List.mem_of_getElem? (i := 1) rfl))).wr W16 (Or.inl (List.mem_of_getElem? (i := 0) rfl))).wr W17 (Or.inl (List.mem_of_getElem? (i := 2) rfl))
  have C1 : own_C Z h17 a u w (own_up f i p3) (own_up g k p2) (n + (1 : Int32)) := ⟨(((Ce.wr W13).wr W16).wr W17), (((Cu.other W13 (Or.inl nau)).other W16 (Or.inr (slot_ne (Or.inr (hw _ (List.mem_of_getElem? (i := 13) rfl))) (Or.inl (hw _ (List.mem_of_getElem? (i := 22) rfl))) (by decide) (t := (.array .int)) (t' := .int) (by decide) (by decide)))).other W17 (Or.inl naw)), (((Cw.other W13 (Or.inl nau)).other W16 (Or.inr (slot_ne (Or.inr (hw _ (List.mem_of_getElem? (i := 15) rfl))) (Or.inl (hw _ (List.mem_of_getElem? (i := 22) rfl))) (by decide) (t := (.array .int)) (t' := .int) (by decide) (by decide)))).other W17 (Or.inl naw)), (((Cs.other W13 (Or.inl nau)).same W16).other W17 (Or.inl naw)), own_AI_other (own_AI_other V13 W16 (Ne.symm nau)) W17 nuw, V17, nau, naw, nuw⟩
  obtain ⟨fs, hr, hrun, hended, hW, hsame⟩ := X17.leave (v := some (.int (1 : Int32))) (fun h => by rw [Bd.returns] at h; cases h)
  refine ⟨_, _, pre0 _ ?_, hrun, hended, _, _, rfl, ?_, ⟨_, rfl⟩, hW, hsame.mono (by decide) (by decide)⟩
  · show Steps p.tables e below (s₁.setTop (mkF m 0 #[.val (.ref a), .val (.int p2), .val (.int p3)] [])) _
    refine XS.aloadN X0.here hx rfl (hb hby d3_0) rfl rfl ?_
    show Steps p.tables e below (s₁.setTop (mkF m 1 #[.val (.ref a), .val (.int p2), .val (.int p3)] [(.ref a)])) _
    refine st11 _ ?_
    show Steps p.tables e below (T11.setTop (mkF m 4 #[.val (.ref a), .val (.int p2), .val (.int p3)] [(.ref u)])) _
    refine XS.iloadN X11.here hx rfl (hb hby d3_4) rfl ?_
    show Steps p.tables e below (T11.setTop (mkF m 5 #[.val (.ref a), .val (.int p2), .val (.int p3)] [(.int p2), (.ref u)])) _
    refine own_ldI X11 hx hZ e11 (Vu) (hp) (hi) (g := (mkF m 5 #[.val (.ref a), .val (.int p2), .val (.int p3)] [(.int p2), (.ref u)])) rfl rfl (hb hby d3_5) _ ?_
    show Steps p.tables e below (T11.setTop (mkF m 6 #[.val (.ref a), .val (.int p2), .val (.int p3)] [(.int (f i))])) _
    refine XS.iloadN X11.here hx rfl (hb hby d3_6) rfl ?_
    show Steps p.tables e below (T11.setTop (mkF m 7 #[.val (.ref a), .val (.int p2), .val (.int p3)] [(.int p3), (.int (f i))])) _
    refine XS.icmpYes X11.here hx rfl (pc0 := 7) (pc' := 12) rfl (hb hby d3_7) rfl (feq (hc7 : ¬ ((f i) = p3))).2 (by decide) (by decide) ?_
    show Steps p.tables e below (T11.setTop (mkF m 12 #[.val (.ref a), .val (.int p2), .val (.int p3)] [])) _
    refine XS.aloadN X11.here hx rfl (hb hby d3_12) rfl rfl ?_
    show Steps p.tables e below (T11.setTop (mkF m 13 #[.val (.ref a), .val (.int p2), .val (.int p3)] [(.ref a)])) _
    refine st12 _ ?_
    show Steps p.tables e below (T12.setTop (mkF m 16 #[.val (.ref a), .val (.int p2), .val (.int p3)] [(.ref u)])) _
    refine XS.iloadN X12.here hx rfl (hb hby d3_16) rfl ?_
    show Steps p.tables e below (T12.setTop (mkF m 17 #[.val (.ref a), .val (.int p2), .val (.int p3)] [(.int p2), (.ref u)])) _
    refine XS.iloadN X12.here hx rfl (hb hby d3_17) rfl ?_
    show Steps p.tables e below (T12.setTop (mkF m 18 #[.val (.ref a), .val (.int p2), .val (.int p3)] [(.int p3), (.int p2), (.ref u)])) _
    refine st13 _ ?_
    show Steps p.tables e below (T13.setTop (mkF m 19 #[.val (.ref a), .val (.int p2), .val (.int p3)] [])) _
    refine XS.aloadN X13.here hx rfl (hb hby d3_19) rfl rfl ?_
    show Steps p.tables e below (T13.setTop (mkF m 20 #[.val (.ref a), .val (.int p2), .val (.int p3)] [(.ref a)])) _
    refine st14 _ ?_
    show Steps p.tables e below (T14.setTop (mkF m 23 #[.val (.ref a), .val (.int p2), .val (.int p3)] [(.ref w)])) _
    refine XS.aloadN X14.here hx rfl (hb hby d3_23) rfl rfl ?_
    show Steps p.tables e below (T14.setTop (mkF m 24 #[.val (.ref a), .val (.int p2), .val (.int p3)] [(.ref a), (.ref w)])) _
    refine XS.dup X14.here hx rfl (hb hby d3_24) rfl rfl ?_
    show Steps p.tables e below (T14.setTop (mkF m 25 #[.val (.ref a), .val (.int p2), .val (.int p3)] [(.ref a), (.ref a), (.ref w)])) _
    refine st15 _ ?_
    show Steps p.tables e below (T15.setTop (mkF m 28 #[.val (.ref a), .val (.int p2), .val (.int p3)] [(.int n), (.ref a), (.ref w)])) _
    refine XS.dupX1 X15.here hx rfl (hb hby d3_28) rfl rfl rfl ?_
    show Steps p.tables e below (T15.setTop (mkF m 29 #[.val (.ref a), .val (.int p2), .val (.int p3)] [(.int n), (.ref a), (.int n), (.ref w)])) _
    refine XS.iconst X15.here hx rfl (hb hby d3_29) ?_
    show Steps p.tables e below (T15.setTop (mkF m 30 #[.val (.ref a), .val (.int p2), .val (.int p3)] [(.int (1 : Int32)), (.int n), (.ref a), (.int n), (.ref w)])) _
    refine XS.iadd X15.here hx rfl (hb hby d3_30) rfl ?_
    show Steps p.tables e below (T15.setTop (mkF m 31 #[.val (.ref a), .val (.int p2), .val (.int p3)] [(.int (n + (1 : Int32))), (.ref a), (.int n), (.ref w)])) _
    refine st16 _ ?_
    show Steps p.tables e below (T16.setTop (mkF m 34 #[.val (.ref a), .val (.int p2), .val (.int p3)] [(.int n), (.ref w)])) _
    refine XS.iloadN X16.here hx rfl (hb hby d3_34) rfl ?_
    show Steps p.tables e below (T16.setTop (mkF m 35 #[.val (.ref a), .val (.int p2), .val (.int p3)] [(.int p2), (.int n), (.ref w)])) _
    refine st17 _ ?_
    show Steps p.tables e below (T17.setTop (mkF m 36 #[.val (.ref a), .val (.int p2), .val (.int p3)] [])) _
    refine XS.iconst X17.here hx rfl (hb hby d3_36) ?_
    show Steps p.tables e below (T17.setTop (mkF m 37 #[.val (.ref a), .val (.int p2), .val (.int p3)] [(.int (1 : Int32))])) _
    exact retN X17 hx (t := .boolean) Bd.returns (by simp) (hb hby d3_37) hr
  · show own_Q3 Z a u w (own_up f i p3) (own_up g k p2) (n + (1 : Int32)) (1 : Int32) h0 n0 _ T17.heap _
    rw [e17]
    exact ⟨rfl, N17, K1, C1⟩
theorem own_ef3 (m : MethodId) (x0 : Addr) (x1 : Int32) (x2 : Int32) : entryFrame m #[(.ref x0), (.int x1), (.int x2)] 3 = mkF m 0 #[.val (.ref x0), .val (.int x1), .val (.int x2)] [] := by first | (simp [entryFrame, mkF, argsToLocals, Value.category]; done) | rfl
set_option maxRecDepth 65536 in
set_option maxHeartbeats 40000000 in
theorem rm3 (l : Launch) (Z : State) (a0 : Array Value) (hw : ∀ d ∈ tables_1, d.before a0 Z = true) (ws : List Jvm.Cond) (a u w : Addr) (p2 p3 : Int32) (f g : Nat → Int32) (n : Int32) (i k : Nat) (f1 g1 : Nat → Int32) (n1 t1 : Int32) (h0 : Heap) (n0 : Nat) (Z0 : n0 ≤ h0.size) (C0 : own_C Z h0 a u w f g n) (hp : p2.toInt = (i : Int)) (hi : i < 4) (hn : n.toInt = (k : Int)) (hk : k < 4) (g_a : n0 ≤ a) (g_u : n0 ≤ u) (g_w : n0 ≤ w) (hhit : f i = p3 → t1 = 0 ∧ f1 = f ∧ g1 = g ∧ n1 = n) (hmiss : ¬ (f i = p3) → t1 = 1 ∧ f1 = own_up f i p3 ∧ g1 = own_up g k p2 ∧ n1 = n + (1 : Int32)) :
    MetFree l (⟨"com/example/arbora/arbora/supertree/Changes", "add", "(II)Z"⟩ : MethodName) (head1 (Jvm.Cond.code (⟨"com/example/arbora/arbora/supertree/Changes", "add", "(II)Z"⟩ : MethodName) prog_19_method_2_code 3 (some .boolean) :: ws) ({ frames := 0, cells := 0, slots := 0, locals := 0 } : Room)) (fun aa U => aa = #[(.ref a), (.int p2), (.int p3)] ∧ Z.Warmed39 U.vm ∧ U.heap = h0) (fun _ _ _ _ _ => True) (fun _ U o U' => ∃ v L, o = .returned v ∧ own_Q3 Z a u w f1 g1 n1 t1 h0 n0 v U'.heap L ∧ FrameEnd U o U' L ({ frames := 0, cells := 0, slots := 0, locals := 0 } : Room).cells ({ frames := 0, cells := 0, slots := 0, locals := 0 } : Room).slots) := by
  by_cases hc : f i = p3
  · obtain ⟨rfl, rfl, rfl, rfl⟩ := hhit hc
    exact rm3_f l Z a0 hw ws a u w p2 p3 f1 g1 n1 i k h0 n0 Z0 C0 hp hi hn hk g_a g_u g_w hc
  · obtain ⟨rfl, rfl, rfl, rfl⟩ := hmiss hc
    exact rm3_t l Z a0 hw ws a u w p2 p3 f g n i k h0 n0 Z0 C0 hp hi hn hk g_a g_u g_w hc
theorem d4_0 : decode prog_19_method_3_code 0 = .ok (.aload_n 0, 1) := by decide +kernel
theorem d4_1 : decode prog_19_method_3_code 1 = .ok (.getfield 16, 3) := by decide +kernel
theorem d4_4 : decode prog_19_method_3_code 4 = .ok (.ireturn, 1) := by decide +kernel
theorem own_ef4 (m : MethodId) (x0 : Addr) : entryFrame m #[(.ref x0)] 1 = mkF m 0 #[.val (.ref x0)] [] := by first | (simp [entryFrame, mkF, argsToLocals, Value.category]; done) | rfl
set_option maxRecDepth 65536 in
set_option maxHeartbeats 40000000 in
theorem rm4 (l : Launch) (Z : State) (a0 : Array Value) (hw : ∀ d ∈ tables_1, d.before a0 Z = true) (ws : List Jvm.Cond) (a u w : Addr) (f g : Nat → Int32) (n : Int32) (h0 : Heap) (n0 : Nat) (Z0 : n0 ≤ h0.size) (C0 : own_C Z h0 a u w f g n) :
    MetFree l (⟨"com/example/arbora/arbora/supertree/Changes", "size", "()I"⟩ : MethodName) (head1 (Jvm.Cond.code (⟨"com/example/arbora/arbora/supertree/Changes", "size", "()I"⟩ : MethodName) prog_19_method_3_code 1 (some .int) :: ws) ({ frames := 0, cells := 0, slots := 0, locals := 0 } : Room)) (fun aa U => aa = #[(.ref a)] ∧ Z.Warmed39 U.vm ∧ U.heap = h0) (fun _ _ _ _ _ => True) (fun _ U o U' => ∃ v L, o = .returned v ∧ own_QR (some (.int n)) h0 n0 v U'.heap L ∧ FrameEnd U o U' L ({ frames := 0, cells := 0, slots := 0, locals := 0 } : Room).cells ({ frames := 0, cells := 0, slots := 0, locals := 0 } : Room).slots) := by
  refine MetFree.of_bodySF (plainFor_of_name own_pn) hisR ?_
  intro p e s m args below meth c s₁ Bd hml0 hP hK
  obtain ⟨rfl, hZ, hh⟩ := hP
  have hx := Bd.exec
  have hby := Bd.bytes
  have hml : c.maxLocals = 1 := hml0
  have hown : s.vm.findClass "com/example/arbora/arbora/supertree/Changes" = some m.cls := findClass_of_methodNamed Bd.named
  have hnm := (name_of_methodNamed Bd.named Bd.method).1
  have X0 : Stand p l e ({ frames := 0, cells := 0, slots := 0, locals := 0 } : Room) s m #[(.ref a)] below meth c s₁ [] 0 0 := Stand.of_body Bd
  have e0 : s₁.heap = h0 := by rw [← hh, Bd.state]; rfl
  have N0 := Fr.nil n0
  have pre0 : ∀ t, Steps p.tables e below (s₁.setTop (mkF m 0 #[.val (.ref a)] [])) t → Steps p.tables e below (s₁.setTop (entryFrame m #[(.ref a)] 1)) t := fun tt kk => castTop (own_ef4 m a) kk
  obtain ⟨Ce, Cu, Cw, Cs, Vu, Vw, nau, naw, nuw⟩ := C0
  obtain ⟨T11, X11, e11, st11⟩ := getF X0 hx hZ hown (host := "") (Or.inl (hw _ (List.mem_of_getElem? (i := 21) rfl))) Via.refl e0 (Cs) (g := (mkF m 1 #[.val (.ref a)] [(.ref a)])) rfl rfl (hb hby d4_1)
  obtain ⟨fs, hr, hrun, hended, hW, hsame⟩ := X11.leave (v := some (.int n)) (fun h => by rw [Bd.returns] at h; cases h)
  refine ⟨_, _, pre0 _ ?_, hrun, hended, _, _, rfl, ?_, ⟨_, rfl⟩, hW, hsame.mono (by decide) (by decide)⟩
  · show Steps p.tables e below (s₁.setTop (mkF m 0 #[.val (.ref a)] [])) _
    refine XS.aloadN X0.here hx rfl (hb hby d4_0) rfl rfl ?_
    show Steps p.tables e below (s₁.setTop (mkF m 1 #[.val (.ref a)] [(.ref a)])) _
    refine st11 _ ?_
    show Steps p.tables e below (T11.setTop (mkF m 4 #[.val (.ref a)] [(.int n)])) _
    exact retI X11 hx Bd.returns (hb hby d4_4) hr
  · show own_QR (some (.int n)) h0 n0 _ T11.heap _
    rw [e11]
    exact ⟨rfl, N0, rfl⟩
theorem d5_0 : decode prog_19_method_4_code 0 = .ok (.aload_n 0, 1) := by decide +kernel
theorem d5_1 : decode prog_19_method_4_code 1 = .ok (.getfield 13, 3) := by decide +kernel
theorem d5_4 : decode prog_19_method_4_code 4 = .ok (.iload_n 1, 1) := by decide +kernel
theorem d5_5 : decode prog_19_method_4_code 5 = .ok (.iaload, 1) := by decide +kernel
theorem d5_6 : decode prog_19_method_4_code 6 = .ok (.ireturn, 1) := by decide +kernel
theorem own_ef5 (m : MethodId) (x0 : Addr) (x1 : Int32) : entryFrame m #[(.ref x0), (.int x1)] 2 = mkF m 0 #[.val (.ref x0), .val (.int x1)] [] := by first | (simp [entryFrame, mkF, argsToLocals, Value.category]; done) | rfl
set_option maxRecDepth 65536 in
set_option maxHeartbeats 40000000 in
theorem rm5 (l : Launch) (Z : State) (a0 : Array Value) (hw : ∀ d ∈ tables_1, d.before a0 Z = true) (ws : List Jvm.Cond) (a u w : Addr) (p2 : Int32) (f g : Nat → Int32) (n : Int32) (i : Nat) (h0 : Heap) (n0 : Nat) (Z0 : n0 ≤ h0.size) (C0 : own_C Z h0 a u w f g n) (hp : p2.toInt = (i : Int)) (hi : i < 4) :
    MetFree l (⟨"com/example/arbora/arbora/supertree/Changes", "get", "(I)I"⟩ : MethodName) (head1 (Jvm.Cond.code (⟨"com/example/arbora/arbora/supertree/Changes", "get", "(I)I"⟩ : MethodName) prog_19_method_4_code 2 (some .int) :: ws) ({ frames := 0, cells := 0, slots := 0, locals := 0 } : Room)) (fun aa U => aa = #[(.ref a), (.int p2)] ∧ Z.Warmed39 U.vm ∧ U.heap = h0) (fun _ _ _ _ _ => True) (fun _ U o U' => ∃ v L, o = .returned v ∧ own_QR (some (.int (g i))) h0 n0 v U'.heap L ∧ FrameEnd U o U' L ({ frames := 0, cells := 0, slots := 0, locals := 0 } : Room).cells ({ frames := 0, cells := 0, slots := 0, locals := 0 } : Room).slots) := by
  refine MetFree.of_bodySF (plainFor_of_name own_pn) hisR ?_
  intro p e s m args below meth c s₁ Bd hml0 hP hK
  obtain ⟨rfl, hZ, hh⟩ := hP
  have hx := Bd.exec
  have hby := Bd.bytes
  have hml : c.maxLocals = 2 := hml0
  have hown : s.vm.findClass "com/example/arbora/arbora/supertree/Changes" = some m.cls := findClass_of_methodNamed Bd.named
  have hnm := (name_of_methodNamed Bd.named Bd.method).1
  have X0 : Stand p l e ({ frames := 0, cells := 0, slots := 0, locals := 0 } : Room) s m #[(.ref a), (.int p2)] below meth c s₁ [] 0 0 := Stand.of_body Bd
  have e0 : s₁.heap = h0 := by rw [← hh, Bd.state]; rfl
  have N0 := Fr.nil n0
  have pre0 : ∀ t, Steps p.tables e below (s₁.setTop (mkF m 0 #[.val (.ref a), .val (.int p2)] [])) t → Steps p.tables e below (s₁.setTop (entryFrame m #[(.ref a), (.int p2)] 2)) t := fun tt kk => castTop (own_ef5 m a p2) kk
  obtain ⟨Ce, Cu, Cw, Cs, Vu, Vw, nau, naw, nuw⟩ := C0
  obtain ⟨T11, X11, e11, st11⟩ := getF X0 hx hZ hown (host := "") (Or.inl (hw _ (List.mem_of_getElem? (i := 14) rfl))) Via.refl e0 (Cw) (g := (mkF m 1 #[.val (.ref a), .val (.int p2)] [(.ref a)])) rfl rfl (hb hby d5_1)
  obtain ⟨fs, hr, hrun, hended, hW, hsame⟩ := X11.leave (v := some (.int (g i))) (fun h => by rw [Bd.returns] at h; cases h)
  refine ⟨_, _, pre0 _ ?_, hrun, hended, _, _, rfl, ?_, ⟨_, rfl⟩, hW, hsame.mono (by decide) (by decide)⟩
  · show Steps p.tables e below (s₁.setTop (mkF m 0 #[.val (.ref a), .val (.int p2)] [])) _
    refine XS.aloadN X0.here hx rfl (hb hby d5_0) rfl rfl ?_
    show Steps p.tables e below (s₁.setTop (mkF m 1 #[.val (.ref a), .val (.int p2)] [(.ref a)])) _
    refine st11 _ ?_
    show Steps p.tables e below (T11.setTop (mkF m 4 #[.val (.ref a), .val (.int p2)] [(.ref w)])) _
    refine XS.iloadN X11.here hx rfl (hb hby d5_4) rfl ?_
    show Steps p.tables e below (T11.setTop (mkF m 5 #[.val (.ref a), .val (.int p2)] [(.int p2), (.ref w)])) _
    refine own_ldI X11 hx hZ e11 (Vw) (hp) (hi) (g := (mkF m 5 #[.val (.ref a), .val (.int p2)] [(.int p2), (.ref w)])) rfl rfl (hb hby d5_5) _ ?_
    show Steps p.tables e below (T11.setTop (mkF m 6 #[.val (.ref a), .val (.int p2)] [(.int (g i))])) _
    exact retI X11 hx Bd.returns (hb hby d5_6) hr
  · show own_QR (some (.int (g i))) h0 n0 _ T11.heap _
    rw [e11]
    exact ⟨rfl, N0, rfl⟩
theorem d6_0 : decode prog_19_method_5_code 0 = .ok (.aload_n 0, 1) := by decide +kernel
theorem d6_1 : decode prog_19_method_5_code 1 = .ok (.iconst 0, 1) := by decide +kernel
theorem d6_2 : decode prog_19_method_5_code 2 = .ok (.putfield 16, 3) := by decide +kernel
theorem d6_5 : decode prog_19_method_5_code 5 = .ok (.return_, 1) := by decide +kernel
def own_Q6 (Z : State) (a u w : Addr) (f g : Nat → Int32) (h0 : Heap) (n0 : Nat) (v : Option Value) (h : Heap) (L : List Loc) : Prop := v = none ∧ Fr n0 L ∧ Keep h0 h [a] ∧ own_C Z h a u w f g (0 : Int32)
theorem own_ef6 (m : MethodId) (x0 : Addr) : entryFrame m #[(.ref x0)] 1 = mkF m 0 #[.val (.ref x0)] [] := by first | (simp [entryFrame, mkF, argsToLocals, Value.category]; done) | rfl
set_option maxRecDepth 65536 in
set_option maxHeartbeats 40000000 in
theorem rm6 (l : Launch) (Z : State) (a0 : Array Value) (hw : ∀ d ∈ tables_1, d.before a0 Z = true) (ws : List Jvm.Cond) (a u w : Addr) (f g : Nat → Int32) (n : Int32) (h0 : Heap) (n0 : Nat) (Z0 : n0 ≤ h0.size) (C0 : own_C Z h0 a u w f g n) (g_a : n0 ≤ a) :
    MetFree l (⟨"com/example/arbora/arbora/supertree/Changes", "clear", "()V"⟩ : MethodName) (head1 (Jvm.Cond.code (⟨"com/example/arbora/arbora/supertree/Changes", "clear", "()V"⟩ : MethodName) prog_19_method_5_code 1 none :: ws) ({ frames := 0, cells := 0, slots := 0, locals := 0 } : Room)) (fun aa U => aa = #[(.ref a)] ∧ Z.Warmed39 U.vm ∧ U.heap = h0) (fun _ _ _ _ _ => True) (fun _ U o U' => ∃ v L, o = .returned v ∧ own_Q6 Z a u w f g h0 n0 v U'.heap L ∧ FrameEnd U o U' L ({ frames := 0, cells := 0, slots := 0, locals := 0 } : Room).cells ({ frames := 0, cells := 0, slots := 0, locals := 0 } : Room).slots) := by
  refine MetFree.of_bodySF (plainFor_of_name own_pn) hisR ?_
  intro p e s m args below meth c s₁ Bd hml0 hP hK
  obtain ⟨rfl, hZ, hh⟩ := hP
  have hx := Bd.exec
  have hby := Bd.bytes
  have hml : c.maxLocals = 1 := hml0
  have hown : s.vm.findClass "com/example/arbora/arbora/supertree/Changes" = some m.cls := findClass_of_methodNamed Bd.named
  have hnm := (name_of_methodNamed Bd.named Bd.method).1
  have X0 : Stand p l e ({ frames := 0, cells := 0, slots := 0, locals := 0 } : Room) s m #[(.ref a)] below meth c s₁ [] 0 0 := Stand.of_body Bd
  have e0 : s₁.heap = h0 := by rw [← hh, Bd.state]; rfl
  have N0 := Fr.nil n0
  have pre0 : ∀ t, Steps p.tables e below (s₁.setTop (mkF m 0 #[.val (.ref a)] [])) t → Steps p.tables e below (s₁.setTop (entryFrame m #[(.ref a)] 1)) t := fun tt kk => castTop (own_ef6 m a) kk
  obtain ⟨Ce, Cu, Cw, Cs, Vu, Vw, nau, naw, nuw⟩ := C0
  obtain ⟨T11, h11, X11, e11, W11, st11⟩ := putF X0 hx hZ hown (host := "") (Or.inl (hw _ (List.mem_of_getElem? (i := 21) rfl))) Via.refl e0 (Cs) (Ce) (Or.inl (hw _ (List.mem_of_getElem? (i := 22) rfl))) (hw _ (List.mem_of_getElem? (i := 3) rfl)) (ty := .int) (by decide) rfl rfl (g := (mkF m 2 #[.val (.ref a)] [(.int (0 : Int32)), (.ref a)])) rfl rfl (hb hby d6_2)
  have N11 := Fr.snoc X11 N0 (g_a)
  have K1 : Keep h0 h11 [a] := (Keep.refl h0 [a]).wr W11 (Or.inl (List.mem_of_getElem? (i := 0) rfl))
  have C1 : own_C Z h11 a u w f g (0 : Int32) := ⟨Ce.wr W11, Cu.other W11 (Or.inr (slot_ne (Or.inr (hw _ (List.mem_of_getElem? (i := 13) rfl))) (Or.inl (hw _ (List.mem_of_getElem? (i := 22) rfl))) (by decide) (t := (.array .int)) (t' := .int) (by decide) (by decide))), Cw.other W11 (Or.inr (slot_ne (Or.inr (hw _ (List.mem_of_getElem? (i := 15) rfl))) (Or.inl (hw _ (List.mem_of_getElem? (i := 22) rfl))) (by decide) (t := (.array .int)) (t' := .int) (by decide) (by decide))), Cs.same W11, own_AI_other Vu W11 (Ne.symm nau), own_AI_other Vw W11 (Ne.symm naw), nau, naw, nuw⟩
  obtain ⟨fs, hr, hrun, hended, hW, hsame⟩ := X11.leave (v := none) (fun _ => rfl)
  refine ⟨_, _, pre0 _ ?_, hrun, hended, _, _, rfl, ?_, ⟨_, rfl⟩, hW, hsame.mono (by decide) (by decide)⟩
  · show Steps p.tables e below (s₁.setTop (mkF m 0 #[.val (.ref a)] [])) _
    refine XS.aloadN X0.here hx rfl (hb hby d6_0) rfl rfl ?_
    show Steps p.tables e below (s₁.setTop (mkF m 1 #[.val (.ref a)] [(.ref a)])) _
    refine XS.iconst X0.here hx rfl (hb hby d6_1) ?_
    show Steps p.tables e below (s₁.setTop (mkF m 2 #[.val (.ref a)] [(.int (0 : Int32)), (.ref a)])) _
    refine st11 _ ?_
    show Steps p.tables e below (T11.setTop (mkF m 5 #[.val (.ref a)] [])) _
    exact X11.returnOut hx Bd.returns (hb hby d6_5) hr
  · show own_Q6 Z a u w f g h0 n0 _ T11.heap _
    rw [e11]
    exact ⟨rfl, N11, K1, C1⟩
def own_f1 (ix : Nat) (r : Int32) : Nat → Int32 := own_up (fun _ => (0 : Int32)) ix r
def own_g1 (x : Int32) : Nat → Int32 := own_up (fun _ => (0 : Int32)) 0 x
def own_g2 (x y : Int32) : Nat → Int32 := if y = x then own_g1 x else own_up (own_g1 x) 1 y
def own_k2 (x y : Int32) : Nat := if y = x then 1 else 2
def own_n2 (x y : Int32) : Int32 := if y = x then (1 : Int32) else (2 : Int32)
def own_e2 (x y : Int32) : Int32 := if y = x then (0 : Int32) else (1 : Int32)
def own_e3 (x y z : Int32) : Int32 := if z = x then (0 : Int32) else (if z = y then (0 : Int32) else (1 : Int32))
def own_g3 (x y z : Int32) : Nat → Int32 := if z = x then own_g2 x y else (if z = y then own_g2 x y else own_up (own_g2 x y) (own_k2 x y) z)
def own_n3 (x y z : Int32) : Int32 := if z = x then own_n2 x y else (if z = y then own_n2 x y else own_n2 x y + (1 : Int32))
def own_k3 (x y z : Int32) : Nat := if z = x then own_k2 x y - 1 else (if z = y then own_k2 x y - 1 else own_k2 x y)
def own_es (a b : Int32) : Int32 := if a = (0 : Int32) then (if b = (0 : Int32) then (((1 : Int32) + (0 : Int32)) + (0 : Int32)) else (((1 : Int32) + (0 : Int32)) + (1 : Int32))) else (if b = (0 : Int32) then (((1 : Int32) + (1 : Int32)) + (0 : Int32)) else (((1 : Int32) + (1 : Int32)) + (1 : Int32)))
def own_el (x y z a b : Int32) : Int32 := if b = (0 : Int32) then (if a = (0 : Int32) then x else y) else z
theorem own_idx {x y : Int32} {i j : Nat} (hx : x.toInt = (i : Int)) (hy : y.toInt = (j : Int)) : j = i ↔ y = x := by
  constructor
  · intro q; subst q; exact Int32.toInt_inj.mp (by rw [hx, hy])
  · intro q; subst q; omega
theorem own_miss1 (p : Int32) (ix : Nat) : ¬ ((fun _ => (0 : Int32)) ix = own_r1 p) := own_r1_ne0 p
theorem own_hit2 {x y : Int32} {i j : Nat} (p : Int32) (hx : x.toInt = (i : Int)) (hy : y.toInt = (j : Int)) : own_f1 i (own_r1 p) j = own_r1 p ↔ y = x := by
  rw [← own_idx hx hy]
  unfold own_f1 own_up
  by_cases q : j = i
  · rw [if_pos q]; exact ⟨fun _ => q, fun _ => rfl⟩
  · rw [if_neg q]; exact ⟨fun z => absurd z (own_r1_ne0 p), fun z => absurd z q⟩
theorem own_hit3 {x y z : Int32} {i j k : Nat} (p : Int32) (hx : x.toInt = (i : Int)) (hy : y.toInt = (j : Int)) (hz : z.toInt = (k : Int)) : own_up (own_f1 i (own_r1 p)) j (own_r1 p) k = own_r1 p ↔ (z = x ∨ z = y) := by
  rw [← own_idx hy hz]
  unfold own_up
  by_cases q : k = j
  · rw [if_pos q]; exact ⟨fun _ => Or.inr q, fun _ => rfl⟩
  · rw [if_neg q, own_hit2 p hx hz]; exact ⟨Or.inl, fun z => z.elim id fun w => absurd w q⟩
theorem own_up2 (x y : Int32) : (own_n2 x y).toInt = (own_k2 x y : Int) := by
  unfold own_n2 own_k2
  by_cases q : y = x
  · rw [if_pos q, if_pos q]; rfl
  · rw [if_neg q, if_neg q]; rfl
theorem own_k2_lt (x y : Int32) : own_k2 x y < 4 ∧ 1 ≤ own_k2 x y := by
  unfold own_k2
  by_cases q : y = x
  · rw [if_pos q]; omega
  · rw [if_neg q]; omega
theorem own_size (x y z : Int32) : own_n3 x y z = own_es (own_e2 x y) (own_e3 x y z) := by
  unfold own_n3 own_es own_e2 own_e3 own_n2
  by_cases q1 : y = x
  · by_cases q2 : z = x
    · rw [if_pos q1, if_pos q1, if_pos q2, if_pos q2]; decide
    · by_cases q3 : z = y
      · exact absurd (q3.trans q1) q2
      · rw [if_pos q1, if_pos q1, if_neg q2, if_neg q2, if_neg q3, if_neg q3]; decide
  · by_cases q2 : z = x
    · rw [if_neg q1, if_neg q1, if_pos q2, if_pos q2]; decide
    · by_cases q3 : z = y
      · rw [if_neg q1, if_neg q1, if_neg q2, if_neg q2, if_pos q3, if_pos q3]; decide
      · rw [if_neg q1, if_neg q1, if_neg q2, if_neg q2, if_neg q3, if_neg q3]; decide
theorem own_first2 (x y : Int32) : own_g2 x y 0 = x := by
  unfold own_g2
  by_cases q1 : y = x
  · rw [if_pos q1]; rfl
  · rw [if_neg q1]; rfl
theorem own_first (x y z : Int32) : own_g3 x y z 0 = x := by
  have hk := own_k2_lt x y
  unfold own_g3
  by_cases q2 : z = x
  · rw [if_pos q2]; exact own_first2 x y
  · rw [if_neg q2]
    by_cases q3 : z = y
    · rw [if_pos q3]; exact own_first2 x y
    · rw [if_neg q3, own_up_miss _ _ (by omega)]; exact own_first2 x y
theorem own_last2 (x y : Int32) : own_g2 x y (own_k2 x y - 1) = if own_e2 x y = (0 : Int32) then x else y := by
  unfold own_g2 own_k2 own_e2
  by_cases q1 : y = x
  · rw [if_pos q1, if_pos q1, if_pos q1]; rfl
  · rw [if_neg q1, if_neg q1, if_neg q1]; rfl
theorem own_last (x y z : Int32) : own_g3 x y z (own_k3 x y z) = own_el x y z (own_e2 x y) (own_e3 x y z) := by
  unfold own_g3 own_k3 own_el own_e3
  by_cases q2 : z = x
  · rw [if_pos q2, if_pos q2, if_pos q2, own_last2]; rfl
  · by_cases q3 : z = y
    · rw [if_neg q2, if_neg q2, if_neg q2, if_pos q3, if_pos q3, if_pos q3, own_last2]; rfl
    · rw [if_neg q2, if_neg q2, if_neg q2, if_neg q3, if_neg q3, if_neg q3, own_up_hit]; rfl
theorem own_k3_lt (x y z : Int32) : own_k3 x y z < 4 := by
  have hk := own_k2_lt x y
  unfold own_k3
  split
  · omega
  · split <;> omega
theorem own_k3_es (x y z : Int32) : (own_es (own_e2 x y) (own_e3 x y z) - (1 : Int32)).toInt = (own_k3 x y z : Int) := by
  unfold own_es own_e2 own_e3 own_k3 own_k2
  by_cases q1 : y = x
  · by_cases q2 : z = x
    · rw [if_pos q1, if_pos q1, if_pos q2, if_pos q2]; decide
    · by_cases q3 : z = y
      · exact absurd (q3.trans q1) q2
      · rw [if_pos q1, if_pos q1, if_neg q2, if_neg q2, if_neg q3, if_neg q3]; decide
  · by_cases q2 : z = x
    · rw [if_neg q1, if_neg q1, if_pos q2, if_pos q2]; decide
    · by_cases q3 : z = y
      · rw [if_neg q1, if_neg q1, if_neg q2, if_neg q2, if_pos q3, if_pos q3]; decide
      · rw [if_neg q1, if_neg q1, if_neg q2, if_neg q2, if_neg q3, if_neg q3]; decide
theorem own_one_ne : ¬ ((1 : Int32) = (0 : Int32)) := by decide
theorem own_miss4 {y z : Int32} {i j k : Nat} (p q : Int32) : ¬ (own_up (own_up (own_f1 i (own_r1 p)) j (own_r1 p)) k (own_r1 p) j = own_r2 p q) := by
  have e : own_up (own_up (own_f1 i (own_r1 p)) j (own_r1 p)) k (own_r1 p) j = own_r1 p := by
    unfold own_up
    by_cases h : j = k
    · rw [if_pos h]
    · rw [if_neg h, if_pos rfl]
  rw [e]
  exact own_r2_ne p q
set_option maxRecDepth 65536 in
set_option maxHeartbeats 40000000 in
theorem tn0_78_92 {p : Program} {l : Launch} {e : Env} {R : Room} {s : State} {m : MethodId} {args : Array Value} {below : List Frame} {meth : Method} {c : Code} {T0 : State} {locs : List Loc} {cells slots : Nat} {Z : State} {a0 : Array Value} {i0 : Int32} {i1 : Int32} {i2 : Int32} {i3 : Int32} {i4 : Int32} {i5 : Int32} {i6 : Int32} {i7 : Int32} {i8 : Int32} {i9 : Int32} {o10 : Addr} {i11 : Int32} {i12 : Int32} {i13 : Int32} (X0 : Stand p l e R s m args below meth c T0 locs cells slots) (hx : p.tables.exec = Jvm.exec) (hZ : Z.Warmed39 s.vm) (hw : ∀ d ∈ tables_1, d.before a0 Z = true) (hby : c.code = code) (hown : s.vm.findClass "com/example/arbora/arbora/supertree/ChangesAddPinLaw" = some m.cls) :
    ∀ target, Steps p.tables e below (T0.setTop (mkF m 92 #[.val (.int i0), .val (.int i1), .val (.int i2), .val (.int i3), .val (.int i4), .val (.int i5), .val (.int i6), .val (.int i7), .val (.int i8), .val (.int i9), .val (.ref o10), .val (.int i11), .val (.int i12), .val (.int i13), .val (.int (if i8 = i7 then (0 : Int32) else (1 : Int32))), .unset, .unset, .unset, .unset, .unset, .unset] [])) target → Steps p.tables e below (T0.setTop (mkF m 78 #[.val (.int i0), .val (.int i1), .val (.int i2), .val (.int i3), .val (.int i4), .val (.int i5), .val (.int i6), .val (.int i7), .val (.int i8), .val (.int i9), .val (.ref o10), .val (.int i11), .val (.int i12), .val (.int i13), .unset, .unset, .unset, .unset, .unset, .unset, .unset] [])) target := by
  intro target kt
  show Steps p.tables e below (T0.setTop (mkF m 78 #[.val (.int i0), .val (.int i1), .val (.int i2), .val (.int i3), .val (.int i4), .val (.int i5), .val (.int i6), .val (.int i7), .val (.int i8), .val (.int i9), .val (.ref o10), .val (.int i11), .val (.int i12), .val (.int i13), .unset, .unset, .unset, .unset, .unset, .unset, .unset] [])) _
  refine XS.iload X0.here hx rfl (hb hby at_78) rfl ?_
  show Steps p.tables e below (T0.setTop (mkF m 80 #[.val (.int i0), .val (.int i1), .val (.int i2), .val (.int i3), .val (.int i4), .val (.int i5), .val (.int i6), .val (.int i7), .val (.int i8), .val (.int i9), .val (.ref o10), .val (.int i11), .val (.int i12), .val (.int i13), .unset, .unset, .unset, .unset, .unset, .unset, .unset] [(.int i8)])) _
  refine XS.iload X0.here hx rfl (hb hby at_80) rfl ?_
  show Steps p.tables e below (T0.setTop (mkF m 82 #[.val (.int i0), .val (.int i1), .val (.int i2), .val (.int i3), .val (.int i4), .val (.int i5), .val (.int i6), .val (.int i7), .val (.int i8), .val (.int i9), .val (.ref o10), .val (.int i11), .val (.int i12), .val (.int i13), .unset, .unset, .unset, .unset, .unset, .unset, .unset] [(.int i7), (.int i8)])) _
  by_cases hc82 : i8 = i7
  · refine XS.icmpYes X0.here hx rfl (pc0 := 82) (pc' := 89) rfl (hb hby at_82) rfl (teq hc82).1 (by decide) (by decide) ?_
    show Steps p.tables e below (T0.setTop (mkF m 89 #[.val (.int i0), .val (.int i1), .val (.int i2), .val (.int i3), .val (.int i4), .val (.int i5), .val (.int i6), .val (.int i7), .val (.int i8), .val (.int i9), .val (.ref o10), .val (.int i11), .val (.int i12), .val (.int i13), .unset, .unset, .unset, .unset, .unset, .unset, .unset] [])) _
    refine XS.iconst X0.here hx rfl (hb hby at_89) ?_
    show Steps p.tables e below (T0.setTop (mkF m 90 #[.val (.int i0), .val (.int i1), .val (.int i2), .val (.int i3), .val (.int i4), .val (.int i5), .val (.int i6), .val (.int i7), .val (.int i8), .val (.int i9), .val (.ref o10), .val (.int i11), .val (.int i12), .val (.int i13), .unset, .unset, .unset, .unset, .unset, .unset, .unset] [(.int (0 : Int32))])) _
    refine XS.istore X0.here hx rfl (hb hby at_90) rfl (l' := #[.val (.int i0), .val (.int i1), .val (.int i2), .val (.int i3), .val (.int i4), .val (.int i5), .val (.int i6), .val (.int i7), .val (.int i8), .val (.int i9), .val (.ref o10), .val (.int i11), .val (.int i12), .val (.int i13), .val (.int (0 : Int32)), .unset, .unset, .unset, .unset, .unset, .unset]) rfl ?_
    rw [if_pos hc82] at kt
    exact kt
  · refine XS.icmpNo X0.here hx rfl (hb hby at_82) rfl (feq hc82).1 ?_
    show Steps p.tables e below (T0.setTop (mkF m 85 #[.val (.int i0), .val (.int i1), .val (.int i2), .val (.int i3), .val (.int i4), .val (.int i5), .val (.int i6), .val (.int i7), .val (.int i8), .val (.int i9), .val (.ref o10), .val (.int i11), .val (.int i12), .val (.int i13), .unset, .unset, .unset, .unset, .unset, .unset, .unset] [])) _
    refine XS.iconst X0.here hx rfl (hb hby at_85) ?_
    show Steps p.tables e below (T0.setTop (mkF m 86 #[.val (.int i0), .val (.int i1), .val (.int i2), .val (.int i3), .val (.int i4), .val (.int i5), .val (.int i6), .val (.int i7), .val (.int i8), .val (.int i9), .val (.ref o10), .val (.int i11), .val (.int i12), .val (.int i13), .unset, .unset, .unset, .unset, .unset, .unset, .unset] [(.int (1 : Int32))])) _
    refine XS.goto X0.here hx rfl (pc0 := 86) (pc' := 90) rfl (hb hby at_86) (by decide) (by decide) ?_
    show Steps p.tables e below (T0.setTop (mkF m 90 #[.val (.int i0), .val (.int i1), .val (.int i2), .val (.int i3), .val (.int i4), .val (.int i5), .val (.int i6), .val (.int i7), .val (.int i8), .val (.int i9), .val (.ref o10), .val (.int i11), .val (.int i12), .val (.int i13), .unset, .unset, .unset, .unset, .unset, .unset, .unset] [(.int (1 : Int32))])) _
    refine XS.istore X0.here hx rfl (hb hby at_90) rfl (l' := #[.val (.int i0), .val (.int i1), .val (.int i2), .val (.int i3), .val (.int i4), .val (.int i5), .val (.int i6), .val (.int i7), .val (.int i8), .val (.int i9), .val (.ref o10), .val (.int i11), .val (.int i12), .val (.int i13), .val (.int (1 : Int32)), .unset, .unset, .unset, .unset, .unset, .unset]) rfl ?_
    rw [if_neg hc82] at kt
    exact kt
set_option maxRecDepth 65536 in
set_option maxHeartbeats 40000000 in
theorem tn0_92_113 {p : Program} {l : Launch} {e : Env} {R : Room} {s : State} {m : MethodId} {args : Array Value} {below : List Frame} {meth : Method} {c : Code} {T0 : State} {locs : List Loc} {cells slots : Nat} {Z : State} {a0 : Array Value} {i0 : Int32} {i1 : Int32} {i2 : Int32} {i3 : Int32} {i4 : Int32} {i5 : Int32} {i6 : Int32} {i7 : Int32} {i8 : Int32} {i9 : Int32} {o10 : Addr} {i11 : Int32} {i12 : Int32} {i13 : Int32} {i14 : Int32} (X0 : Stand p l e R s m args below meth c T0 locs cells slots) (hx : p.tables.exec = Jvm.exec) (hZ : Z.Warmed39 s.vm) (hw : ∀ d ∈ tables_1, d.before a0 Z = true) (hby : c.code = code) (hown : s.vm.findClass "com/example/arbora/arbora/supertree/ChangesAddPinLaw" = some m.cls) :
    ∀ target, Steps p.tables e below (T0.setTop (mkF m 113 #[.val (.int i0), .val (.int i1), .val (.int i2), .val (.int i3), .val (.int i4), .val (.int i5), .val (.int i6), .val (.int i7), .val (.int i8), .val (.int i9), .val (.ref o10), .val (.int i11), .val (.int i12), .val (.int i13), .val (.int i14), .val (.int (if i9 = i7 then (0 : Int32) else (if i9 = i8 then (0 : Int32) else (1 : Int32)))), .unset, .unset, .unset, .unset, .unset] [])) target → Steps p.tables e below (T0.setTop (mkF m 92 #[.val (.int i0), .val (.int i1), .val (.int i2), .val (.int i3), .val (.int i4), .val (.int i5), .val (.int i6), .val (.int i7), .val (.int i8), .val (.int i9), .val (.ref o10), .val (.int i11), .val (.int i12), .val (.int i13), .val (.int i14), .unset, .unset, .unset, .unset, .unset, .unset] [])) target := by
  intro target kt
  show Steps p.tables e below (T0.setTop (mkF m 92 #[.val (.int i0), .val (.int i1), .val (.int i2), .val (.int i3), .val (.int i4), .val (.int i5), .val (.int i6), .val (.int i7), .val (.int i8), .val (.int i9), .val (.ref o10), .val (.int i11), .val (.int i12), .val (.int i13), .val (.int i14), .unset, .unset, .unset, .unset, .unset, .unset] [])) _
  refine XS.iload X0.here hx rfl (hb hby at_92) rfl ?_
  show Steps p.tables e below (T0.setTop (mkF m 94 #[.val (.int i0), .val (.int i1), .val (.int i2), .val (.int i3), .val (.int i4), .val (.int i5), .val (.int i6), .val (.int i7), .val (.int i8), .val (.int i9), .val (.ref o10), .val (.int i11), .val (.int i12), .val (.int i13), .val (.int i14), .unset, .unset, .unset, .unset, .unset, .unset] [(.int i9)])) _
  refine XS.iload X0.here hx rfl (hb hby at_94) rfl ?_
  show Steps p.tables e below (T0.setTop (mkF m 96 #[.val (.int i0), .val (.int i1), .val (.int i2), .val (.int i3), .val (.int i4), .val (.int i5), .val (.int i6), .val (.int i7), .val (.int i8), .val (.int i9), .val (.ref o10), .val (.int i11), .val (.int i12), .val (.int i13), .val (.int i14), .unset, .unset, .unset, .unset, .unset, .unset] [(.int i7), (.int i9)])) _
  by_cases hc96 : i9 = i7
  · refine XS.icmpYes X0.here hx rfl (pc0 := 96) (pc' := 110) rfl (hb hby at_96) rfl (teq hc96).1 (by decide) (by decide) ?_
    show Steps p.tables e below (T0.setTop (mkF m 110 #[.val (.int i0), .val (.int i1), .val (.int i2), .val (.int i3), .val (.int i4), .val (.int i5), .val (.int i6), .val (.int i7), .val (.int i8), .val (.int i9), .val (.ref o10), .val (.int i11), .val (.int i12), .val (.int i13), .val (.int i14), .unset, .unset, .unset, .unset, .unset, .unset] [])) _
    refine XS.iconst X0.here hx rfl (hb hby at_110) ?_
    show Steps p.tables e below (T0.setTop (mkF m 111 #[.val (.int i0), .val (.int i1), .val (.int i2), .val (.int i3), .val (.int i4), .val (.int i5), .val (.int i6), .val (.int i7), .val (.int i8), .val (.int i9), .val (.ref o10), .val (.int i11), .val (.int i12), .val (.int i13), .val (.int i14), .unset, .unset, .unset, .unset, .unset, .unset] [(.int (0 : Int32))])) _
    refine XS.istore X0.here hx rfl (hb hby at_111) rfl (l' := #[.val (.int i0), .val (.int i1), .val (.int i2), .val (.int i3), .val (.int i4), .val (.int i5), .val (.int i6), .val (.int i7), .val (.int i8), .val (.int i9), .val (.ref o10), .val (.int i11), .val (.int i12), .val (.int i13), .val (.int i14), .val (.int (0 : Int32)), .unset, .unset, .unset, .unset, .unset]) rfl ?_
    rw [if_pos hc96] at kt
    exact kt
  · refine XS.icmpNo X0.here hx rfl (hb hby at_96) rfl (feq hc96).1 ?_
    show Steps p.tables e below (T0.setTop (mkF m 99 #[.val (.int i0), .val (.int i1), .val (.int i2), .val (.int i3), .val (.int i4), .val (.int i5), .val (.int i6), .val (.int i7), .val (.int i8), .val (.int i9), .val (.ref o10), .val (.int i11), .val (.int i12), .val (.int i13), .val (.int i14), .unset, .unset, .unset, .unset, .unset, .unset] [])) _
    refine XS.iload X0.here hx rfl (hb hby at_99) rfl ?_
    show Steps p.tables e below (T0.setTop (mkF m 101 #[.val (.int i0), .val (.int i1), .val (.int i2), .val (.int i3), .val (.int i4), .val (.int i5), .val (.int i6), .val (.int i7), .val (.int i8), .val (.int i9), .val (.ref o10), .val (.int i11), .val (.int i12), .val (.int i13), .val (.int i14), .unset, .unset, .unset, .unset, .unset, .unset] [(.int i9)])) _
    refine XS.iload X0.here hx rfl (hb hby at_101) rfl ?_
    show Steps p.tables e below (T0.setTop (mkF m 103 #[.val (.int i0), .val (.int i1), .val (.int i2), .val (.int i3), .val (.int i4), .val (.int i5), .val (.int i6), .val (.int i7), .val (.int i8), .val (.int i9), .val (.ref o10), .val (.int i11), .val (.int i12), .val (.int i13), .val (.int i14), .unset, .unset, .unset, .unset, .unset, .unset] [(.int i8), (.int i9)])) _
    by_cases hc103 : i9 = i8
    · refine XS.icmpYes X0.here hx rfl (pc0 := 103) (pc' := 110) rfl (hb hby at_103) rfl (teq hc103).1 (by decide) (by decide) ?_
      show Steps p.tables e below (T0.setTop (mkF m 110 #[.val (.int i0), .val (.int i1), .val (.int i2), .val (.int i3), .val (.int i4), .val (.int i5), .val (.int i6), .val (.int i7), .val (.int i8), .val (.int i9), .val (.ref o10), .val (.int i11), .val (.int i12), .val (.int i13), .val (.int i14), .unset, .unset, .unset, .unset, .unset, .unset] [])) _
      refine XS.iconst X0.here hx rfl (hb hby at_110) ?_
      show Steps p.tables e below (T0.setTop (mkF m 111 #[.val (.int i0), .val (.int i1), .val (.int i2), .val (.int i3), .val (.int i4), .val (.int i5), .val (.int i6), .val (.int i7), .val (.int i8), .val (.int i9), .val (.ref o10), .val (.int i11), .val (.int i12), .val (.int i13), .val (.int i14), .unset, .unset, .unset, .unset, .unset, .unset] [(.int (0 : Int32))])) _
      refine XS.istore X0.here hx rfl (hb hby at_111) rfl (l' := #[.val (.int i0), .val (.int i1), .val (.int i2), .val (.int i3), .val (.int i4), .val (.int i5), .val (.int i6), .val (.int i7), .val (.int i8), .val (.int i9), .val (.ref o10), .val (.int i11), .val (.int i12), .val (.int i13), .val (.int i14), .val (.int (0 : Int32)), .unset, .unset, .unset, .unset, .unset]) rfl ?_
      rw [if_neg hc96, if_pos hc103] at kt
      exact kt
    · refine XS.icmpNo X0.here hx rfl (hb hby at_103) rfl (feq hc103).1 ?_
      show Steps p.tables e below (T0.setTop (mkF m 106 #[.val (.int i0), .val (.int i1), .val (.int i2), .val (.int i3), .val (.int i4), .val (.int i5), .val (.int i6), .val (.int i7), .val (.int i8), .val (.int i9), .val (.ref o10), .val (.int i11), .val (.int i12), .val (.int i13), .val (.int i14), .unset, .unset, .unset, .unset, .unset, .unset] [])) _
      refine XS.iconst X0.here hx rfl (hb hby at_106) ?_
      show Steps p.tables e below (T0.setTop (mkF m 107 #[.val (.int i0), .val (.int i1), .val (.int i2), .val (.int i3), .val (.int i4), .val (.int i5), .val (.int i6), .val (.int i7), .val (.int i8), .val (.int i9), .val (.ref o10), .val (.int i11), .val (.int i12), .val (.int i13), .val (.int i14), .unset, .unset, .unset, .unset, .unset, .unset] [(.int (1 : Int32))])) _
      refine XS.goto X0.here hx rfl (pc0 := 107) (pc' := 111) rfl (hb hby at_107) (by decide) (by decide) ?_
      show Steps p.tables e below (T0.setTop (mkF m 111 #[.val (.int i0), .val (.int i1), .val (.int i2), .val (.int i3), .val (.int i4), .val (.int i5), .val (.int i6), .val (.int i7), .val (.int i8), .val (.int i9), .val (.ref o10), .val (.int i11), .val (.int i12), .val (.int i13), .val (.int i14), .unset, .unset, .unset, .unset, .unset, .unset] [(.int (1 : Int32))])) _
      refine XS.istore X0.here hx rfl (hb hby at_111) rfl (l' := #[.val (.int i0), .val (.int i1), .val (.int i2), .val (.int i3), .val (.int i4), .val (.int i5), .val (.int i6), .val (.int i7), .val (.int i8), .val (.int i9), .val (.ref o10), .val (.int i11), .val (.int i12), .val (.int i13), .val (.int i14), .val (.int (1 : Int32)), .unset, .unset, .unset, .unset, .unset]) rfl ?_
      rw [if_neg hc96, if_neg hc103] at kt
      exact kt
set_option maxRecDepth 65536 in
set_option maxHeartbeats 40000000 in
theorem tn0_113_138 {p : Program} {l : Launch} {e : Env} {R : Room} {s : State} {m : MethodId} {args : Array Value} {below : List Frame} {meth : Method} {c : Code} {T0 : State} {locs : List Loc} {cells slots : Nat} {Z : State} {a0 : Array Value} {i0 : Int32} {i1 : Int32} {i2 : Int32} {i3 : Int32} {i4 : Int32} {i5 : Int32} {i6 : Int32} {i7 : Int32} {i8 : Int32} {i9 : Int32} {o10 : Addr} {i11 : Int32} {i12 : Int32} {i13 : Int32} {i14 : Int32} {i15 : Int32} (X0 : Stand p l e R s m args below meth c T0 locs cells slots) (hx : p.tables.exec = Jvm.exec) (hZ : Z.Warmed39 s.vm) (hw : ∀ d ∈ tables_1, d.before a0 Z = true) (hby : c.code = code) (hown : s.vm.findClass "com/example/arbora/arbora/supertree/ChangesAddPinLaw" = some m.cls) :
    ∀ target, Steps p.tables e below (T0.setTop (mkF m 138 #[.val (.int i0), .val (.int i1), .val (.int i2), .val (.int i3), .val (.int i4), .val (.int i5), .val (.int i6), .val (.int i7), .val (.int i8), .val (.int i9), .val (.ref o10), .val (.int i11), .val (.int i12), .val (.int i13), .val (.int i14), .val (.int i15), .val (.int (if i14 = (0 : Int32) then (if i15 = (0 : Int32) then (((1 : Int32) + (0 : Int32)) + (0 : Int32)) else (((1 : Int32) + (0 : Int32)) + (1 : Int32))) else (if i15 = (0 : Int32) then (((1 : Int32) + (1 : Int32)) + (0 : Int32)) else (((1 : Int32) + (1 : Int32)) + (1 : Int32))))), .unset, .unset, .unset, .unset] [])) target → Steps p.tables e below (T0.setTop (mkF m 113 #[.val (.int i0), .val (.int i1), .val (.int i2), .val (.int i3), .val (.int i4), .val (.int i5), .val (.int i6), .val (.int i7), .val (.int i8), .val (.int i9), .val (.ref o10), .val (.int i11), .val (.int i12), .val (.int i13), .val (.int i14), .val (.int i15), .unset, .unset, .unset, .unset, .unset] [])) target := by
  intro target kt
  show Steps p.tables e below (T0.setTop (mkF m 113 #[.val (.int i0), .val (.int i1), .val (.int i2), .val (.int i3), .val (.int i4), .val (.int i5), .val (.int i6), .val (.int i7), .val (.int i8), .val (.int i9), .val (.ref o10), .val (.int i11), .val (.int i12), .val (.int i13), .val (.int i14), .val (.int i15), .unset, .unset, .unset, .unset, .unset] [])) _
  refine XS.iconst X0.here hx rfl (hb hby at_113) ?_
  show Steps p.tables e below (T0.setTop (mkF m 114 #[.val (.int i0), .val (.int i1), .val (.int i2), .val (.int i3), .val (.int i4), .val (.int i5), .val (.int i6), .val (.int i7), .val (.int i8), .val (.int i9), .val (.ref o10), .val (.int i11), .val (.int i12), .val (.int i13), .val (.int i14), .val (.int i15), .unset, .unset, .unset, .unset, .unset] [(.int (1 : Int32))])) _
  refine XS.iload X0.here hx rfl (hb hby at_114) rfl ?_
  show Steps p.tables e below (T0.setTop (mkF m 116 #[.val (.int i0), .val (.int i1), .val (.int i2), .val (.int i3), .val (.int i4), .val (.int i5), .val (.int i6), .val (.int i7), .val (.int i8), .val (.int i9), .val (.ref o10), .val (.int i11), .val (.int i12), .val (.int i13), .val (.int i14), .val (.int i15), .unset, .unset, .unset, .unset, .unset] [(.int i14), (.int (1 : Int32))])) _
  by_cases hc116 : i14 = (0 : Int32)
  · refine XS.ifYes X0.here hx rfl (pc0 := 116) (pc' := 123) rfl (hb hby at_116) rfl ((if0 _ _).trans (teq hc116).1) (by decide) (by decide) ?_
    show Steps p.tables e below (T0.setTop (mkF m 123 #[.val (.int i0), .val (.int i1), .val (.int i2), .val (.int i3), .val (.int i4), .val (.int i5), .val (.int i6), .val (.int i7), .val (.int i8), .val (.int i9), .val (.ref o10), .val (.int i11), .val (.int i12), .val (.int i13), .val (.int i14), .val (.int i15), .unset, .unset, .unset, .unset, .unset] [(.int (1 : Int32))])) _
    refine XS.iconst X0.here hx rfl (hb hby at_123) ?_
    show Steps p.tables e below (T0.setTop (mkF m 124 #[.val (.int i0), .val (.int i1), .val (.int i2), .val (.int i3), .val (.int i4), .val (.int i5), .val (.int i6), .val (.int i7), .val (.int i8), .val (.int i9), .val (.ref o10), .val (.int i11), .val (.int i12), .val (.int i13), .val (.int i14), .val (.int i15), .unset, .unset, .unset, .unset, .unset] [(.int (0 : Int32)), (.int (1 : Int32))])) _
    refine XS.iadd X0.here hx rfl (hb hby at_124) rfl ?_
    show Steps p.tables e below (T0.setTop (mkF m 125 #[.val (.int i0), .val (.int i1), .val (.int i2), .val (.int i3), .val (.int i4), .val (.int i5), .val (.int i6), .val (.int i7), .val (.int i8), .val (.int i9), .val (.ref o10), .val (.int i11), .val (.int i12), .val (.int i13), .val (.int i14), .val (.int i15), .unset, .unset, .unset, .unset, .unset] [(.int ((1 : Int32) + (0 : Int32)))])) _
    refine XS.iload X0.here hx rfl (hb hby at_125) rfl ?_
    show Steps p.tables e below (T0.setTop (mkF m 127 #[.val (.int i0), .val (.int i1), .val (.int i2), .val (.int i3), .val (.int i4), .val (.int i5), .val (.int i6), .val (.int i7), .val (.int i8), .val (.int i9), .val (.ref o10), .val (.int i11), .val (.int i12), .val (.int i13), .val (.int i14), .val (.int i15), .unset, .unset, .unset, .unset, .unset] [(.int i15), (.int ((1 : Int32) + (0 : Int32)))])) _
    by_cases hc127 : i15 = (0 : Int32)
    · refine XS.ifYes X0.here hx rfl (pc0 := 127) (pc' := 134) rfl (hb hby at_127) rfl ((if0 _ _).trans (teq hc127).1) (by decide) (by decide) ?_
      show Steps p.tables e below (T0.setTop (mkF m 134 #[.val (.int i0), .val (.int i1), .val (.int i2), .val (.int i3), .val (.int i4), .val (.int i5), .val (.int i6), .val (.int i7), .val (.int i8), .val (.int i9), .val (.ref o10), .val (.int i11), .val (.int i12), .val (.int i13), .val (.int i14), .val (.int i15), .unset, .unset, .unset, .unset, .unset] [(.int ((1 : Int32) + (0 : Int32)))])) _
      refine XS.iconst X0.here hx rfl (hb hby at_134) ?_
      show Steps p.tables e below (T0.setTop (mkF m 135 #[.val (.int i0), .val (.int i1), .val (.int i2), .val (.int i3), .val (.int i4), .val (.int i5), .val (.int i6), .val (.int i7), .val (.int i8), .val (.int i9), .val (.ref o10), .val (.int i11), .val (.int i12), .val (.int i13), .val (.int i14), .val (.int i15), .unset, .unset, .unset, .unset, .unset] [(.int (0 : Int32)), (.int ((1 : Int32) + (0 : Int32)))])) _
      refine XS.iadd X0.here hx rfl (hb hby at_135) rfl ?_
      show Steps p.tables e below (T0.setTop (mkF m 136 #[.val (.int i0), .val (.int i1), .val (.int i2), .val (.int i3), .val (.int i4), .val (.int i5), .val (.int i6), .val (.int i7), .val (.int i8), .val (.int i9), .val (.ref o10), .val (.int i11), .val (.int i12), .val (.int i13), .val (.int i14), .val (.int i15), .unset, .unset, .unset, .unset, .unset] [(.int (((1 : Int32) + (0 : Int32)) + (0 : Int32)))])) _
      refine XS.istore X0.here hx rfl (hb hby at_136) rfl (l' := #[.val (.int i0), .val (.int i1), .val (.int i2), .val (.int i3), .val (.int i4), .val (.int i5), .val (.int i6), .val (.int i7), .val (.int i8), .val (.int i9), .val (.ref o10), .val (.int i11), .val (.int i12), .val (.int i13), .val (.int i14), .val (.int i15), .val (.int (((1 : Int32) + (0 : Int32)) + (0 : Int32))), .unset, .unset, .unset, .unset]) rfl ?_
      rw [if_pos hc116, if_pos hc127] at kt
      exact kt
    · refine XS.ifNo X0.here hx rfl (hb hby at_127) rfl ((if0 _ _).trans (feq hc127).1) ?_
      show Steps p.tables e below (T0.setTop (mkF m 130 #[.val (.int i0), .val (.int i1), .val (.int i2), .val (.int i3), .val (.int i4), .val (.int i5), .val (.int i6), .val (.int i7), .val (.int i8), .val (.int i9), .val (.ref o10), .val (.int i11), .val (.int i12), .val (.int i13), .val (.int i14), .val (.int i15), .unset, .unset, .unset, .unset, .unset] [(.int ((1 : Int32) + (0 : Int32)))])) _
      refine XS.iconst X0.here hx rfl (hb hby at_130) ?_
      show Steps p.tables e below (T0.setTop (mkF m 131 #[.val (.int i0), .val (.int i1), .val (.int i2), .val (.int i3), .val (.int i4), .val (.int i5), .val (.int i6), .val (.int i7), .val (.int i8), .val (.int i9), .val (.ref o10), .val (.int i11), .val (.int i12), .val (.int i13), .val (.int i14), .val (.int i15), .unset, .unset, .unset, .unset, .unset] [(.int (1 : Int32)), (.int ((1 : Int32) + (0 : Int32)))])) _
      refine XS.goto X0.here hx rfl (pc0 := 131) (pc' := 135) rfl (hb hby at_131) (by decide) (by decide) ?_
      show Steps p.tables e below (T0.setTop (mkF m 135 #[.val (.int i0), .val (.int i1), .val (.int i2), .val (.int i3), .val (.int i4), .val (.int i5), .val (.int i6), .val (.int i7), .val (.int i8), .val (.int i9), .val (.ref o10), .val (.int i11), .val (.int i12), .val (.int i13), .val (.int i14), .val (.int i15), .unset, .unset, .unset, .unset, .unset] [(.int (1 : Int32)), (.int ((1 : Int32) + (0 : Int32)))])) _
      refine XS.iadd X0.here hx rfl (hb hby at_135) rfl ?_
      show Steps p.tables e below (T0.setTop (mkF m 136 #[.val (.int i0), .val (.int i1), .val (.int i2), .val (.int i3), .val (.int i4), .val (.int i5), .val (.int i6), .val (.int i7), .val (.int i8), .val (.int i9), .val (.ref o10), .val (.int i11), .val (.int i12), .val (.int i13), .val (.int i14), .val (.int i15), .unset, .unset, .unset, .unset, .unset] [(.int (((1 : Int32) + (0 : Int32)) + (1 : Int32)))])) _
      refine XS.istore X0.here hx rfl (hb hby at_136) rfl (l' := #[.val (.int i0), .val (.int i1), .val (.int i2), .val (.int i3), .val (.int i4), .val (.int i5), .val (.int i6), .val (.int i7), .val (.int i8), .val (.int i9), .val (.ref o10), .val (.int i11), .val (.int i12), .val (.int i13), .val (.int i14), .val (.int i15), .val (.int (((1 : Int32) + (0 : Int32)) + (1 : Int32))), .unset, .unset, .unset, .unset]) rfl ?_
      rw [if_pos hc116, if_neg hc127] at kt
      exact kt
  · refine XS.ifNo X0.here hx rfl (hb hby at_116) rfl ((if0 _ _).trans (feq hc116).1) ?_
    show Steps p.tables e below (T0.setTop (mkF m 119 #[.val (.int i0), .val (.int i1), .val (.int i2), .val (.int i3), .val (.int i4), .val (.int i5), .val (.int i6), .val (.int i7), .val (.int i8), .val (.int i9), .val (.ref o10), .val (.int i11), .val (.int i12), .val (.int i13), .val (.int i14), .val (.int i15), .unset, .unset, .unset, .unset, .unset] [(.int (1 : Int32))])) _
    refine XS.iconst X0.here hx rfl (hb hby at_119) ?_
    show Steps p.tables e below (T0.setTop (mkF m 120 #[.val (.int i0), .val (.int i1), .val (.int i2), .val (.int i3), .val (.int i4), .val (.int i5), .val (.int i6), .val (.int i7), .val (.int i8), .val (.int i9), .val (.ref o10), .val (.int i11), .val (.int i12), .val (.int i13), .val (.int i14), .val (.int i15), .unset, .unset, .unset, .unset, .unset] [(.int (1 : Int32)), (.int (1 : Int32))])) _
    refine XS.goto X0.here hx rfl (pc0 := 120) (pc' := 124) rfl (hb hby at_120) (by decide) (by decide) ?_
    show Steps p.tables e below (T0.setTop (mkF m 124 #[.val (.int i0), .val (.int i1), .val (.int i2), .val (.int i3), .val (.int i4), .val (.int i5), .val (.int i6), .val (.int i7), .val (.int i8), .val (.int i9), .val (.ref o10), .val (.int i11), .val (.int i12), .val (.int i13), .val (.int i14), .val (.int i15), .unset, .unset, .unset, .unset, .unset] [(.int (1 : Int32)), (.int (1 : Int32))])) _
    refine XS.iadd X0.here hx rfl (hb hby at_124) rfl ?_
    show Steps p.tables e below (T0.setTop (mkF m 125 #[.val (.int i0), .val (.int i1), .val (.int i2), .val (.int i3), .val (.int i4), .val (.int i5), .val (.int i6), .val (.int i7), .val (.int i8), .val (.int i9), .val (.ref o10), .val (.int i11), .val (.int i12), .val (.int i13), .val (.int i14), .val (.int i15), .unset, .unset, .unset, .unset, .unset] [(.int ((1 : Int32) + (1 : Int32)))])) _
    refine XS.iload X0.here hx rfl (hb hby at_125) rfl ?_
    show Steps p.tables e below (T0.setTop (mkF m 127 #[.val (.int i0), .val (.int i1), .val (.int i2), .val (.int i3), .val (.int i4), .val (.int i5), .val (.int i6), .val (.int i7), .val (.int i8), .val (.int i9), .val (.ref o10), .val (.int i11), .val (.int i12), .val (.int i13), .val (.int i14), .val (.int i15), .unset, .unset, .unset, .unset, .unset] [(.int i15), (.int ((1 : Int32) + (1 : Int32)))])) _
    by_cases hc127 : i15 = (0 : Int32)
    · refine XS.ifYes X0.here hx rfl (pc0 := 127) (pc' := 134) rfl (hb hby at_127) rfl ((if0 _ _).trans (teq hc127).1) (by decide) (by decide) ?_
      show Steps p.tables e below (T0.setTop (mkF m 134 #[.val (.int i0), .val (.int i1), .val (.int i2), .val (.int i3), .val (.int i4), .val (.int i5), .val (.int i6), .val (.int i7), .val (.int i8), .val (.int i9), .val (.ref o10), .val (.int i11), .val (.int i12), .val (.int i13), .val (.int i14), .val (.int i15), .unset, .unset, .unset, .unset, .unset] [(.int ((1 : Int32) + (1 : Int32)))])) _
      refine XS.iconst X0.here hx rfl (hb hby at_134) ?_
      show Steps p.tables e below (T0.setTop (mkF m 135 #[.val (.int i0), .val (.int i1), .val (.int i2), .val (.int i3), .val (.int i4), .val (.int i5), .val (.int i6), .val (.int i7), .val (.int i8), .val (.int i9), .val (.ref o10), .val (.int i11), .val (.int i12), .val (.int i13), .val (.int i14), .val (.int i15), .unset, .unset, .unset, .unset, .unset] [(.int (0 : Int32)), (.int ((1 : Int32) + (1 : Int32)))])) _
      refine XS.iadd X0.here hx rfl (hb hby at_135) rfl ?_
      show Steps p.tables e below (T0.setTop (mkF m 136 #[.val (.int i0), .val (.int i1), .val (.int i2), .val (.int i3), .val (.int i4), .val (.int i5), .val (.int i6), .val (.int i7), .val (.int i8), .val (.int i9), .val (.ref o10), .val (.int i11), .val (.int i12), .val (.int i13), .val (.int i14), .val (.int i15), .unset, .unset, .unset, .unset, .unset] [(.int (((1 : Int32) + (1 : Int32)) + (0 : Int32)))])) _
      refine XS.istore X0.here hx rfl (hb hby at_136) rfl (l' := #[.val (.int i0), .val (.int i1), .val (.int i2), .val (.int i3), .val (.int i4), .val (.int i5), .val (.int i6), .val (.int i7), .val (.int i8), .val (.int i9), .val (.ref o10), .val (.int i11), .val (.int i12), .val (.int i13), .val (.int i14), .val (.int i15), .val (.int (((1 : Int32) + (1 : Int32)) + (0 : Int32))), .unset, .unset, .unset, .unset]) rfl ?_
      rw [if_neg hc116, if_pos hc127] at kt
      exact kt
    · refine XS.ifNo X0.here hx rfl (hb hby at_127) rfl ((if0 _ _).trans (feq hc127).1) ?_
      show Steps p.tables e below (T0.setTop (mkF m 130 #[.val (.int i0), .val (.int i1), .val (.int i2), .val (.int i3), .val (.int i4), .val (.int i5), .val (.int i6), .val (.int i7), .val (.int i8), .val (.int i9), .val (.ref o10), .val (.int i11), .val (.int i12), .val (.int i13), .val (.int i14), .val (.int i15), .unset, .unset, .unset, .unset, .unset] [(.int ((1 : Int32) + (1 : Int32)))])) _
      refine XS.iconst X0.here hx rfl (hb hby at_130) ?_
      show Steps p.tables e below (T0.setTop (mkF m 131 #[.val (.int i0), .val (.int i1), .val (.int i2), .val (.int i3), .val (.int i4), .val (.int i5), .val (.int i6), .val (.int i7), .val (.int i8), .val (.int i9), .val (.ref o10), .val (.int i11), .val (.int i12), .val (.int i13), .val (.int i14), .val (.int i15), .unset, .unset, .unset, .unset, .unset] [(.int (1 : Int32)), (.int ((1 : Int32) + (1 : Int32)))])) _
      refine XS.goto X0.here hx rfl (pc0 := 131) (pc' := 135) rfl (hb hby at_131) (by decide) (by decide) ?_
      show Steps p.tables e below (T0.setTop (mkF m 135 #[.val (.int i0), .val (.int i1), .val (.int i2), .val (.int i3), .val (.int i4), .val (.int i5), .val (.int i6), .val (.int i7), .val (.int i8), .val (.int i9), .val (.ref o10), .val (.int i11), .val (.int i12), .val (.int i13), .val (.int i14), .val (.int i15), .unset, .unset, .unset, .unset, .unset] [(.int (1 : Int32)), (.int ((1 : Int32) + (1 : Int32)))])) _
      refine XS.iadd X0.here hx rfl (hb hby at_135) rfl ?_
      show Steps p.tables e below (T0.setTop (mkF m 136 #[.val (.int i0), .val (.int i1), .val (.int i2), .val (.int i3), .val (.int i4), .val (.int i5), .val (.int i6), .val (.int i7), .val (.int i8), .val (.int i9), .val (.ref o10), .val (.int i11), .val (.int i12), .val (.int i13), .val (.int i14), .val (.int i15), .unset, .unset, .unset, .unset, .unset] [(.int (((1 : Int32) + (1 : Int32)) + (1 : Int32)))])) _
      refine XS.istore X0.here hx rfl (hb hby at_136) rfl (l' := #[.val (.int i0), .val (.int i1), .val (.int i2), .val (.int i3), .val (.int i4), .val (.int i5), .val (.int i6), .val (.int i7), .val (.int i8), .val (.int i9), .val (.ref o10), .val (.int i11), .val (.int i12), .val (.int i13), .val (.int i14), .val (.int i15), .val (.int (((1 : Int32) + (1 : Int32)) + (1 : Int32))), .unset, .unset, .unset, .unset]) rfl ?_
      rw [if_neg hc116, if_neg hc127] at kt
      exact kt
set_option maxRecDepth 65536 in
set_option maxHeartbeats 40000000 in
theorem tn0_138_162 {p : Program} {l : Launch} {e : Env} {R : Room} {s : State} {m : MethodId} {args : Array Value} {below : List Frame} {meth : Method} {c : Code} {T0 : State} {locs : List Loc} {cells slots : Nat} {Z : State} {a0 : Array Value} {i0 : Int32} {i1 : Int32} {i2 : Int32} {i3 : Int32} {i4 : Int32} {i5 : Int32} {i6 : Int32} {i7 : Int32} {i8 : Int32} {i9 : Int32} {o10 : Addr} {i11 : Int32} {i12 : Int32} {i13 : Int32} {i14 : Int32} {i15 : Int32} {i16 : Int32} (X0 : Stand p l e R s m args below meth c T0 locs cells slots) (hx : p.tables.exec = Jvm.exec) (hZ : Z.Warmed39 s.vm) (hw : ∀ d ∈ tables_1, d.before a0 Z = true) (hby : c.code = code) (hown : s.vm.findClass "com/example/arbora/arbora/supertree/ChangesAddPinLaw" = some m.cls) :
    ∀ target, Steps p.tables e below (T0.setTop (mkF m 162 #[.val (.int i0), .val (.int i1), .val (.int i2), .val (.int i3), .val (.int i4), .val (.int i5), .val (.int i6), .val (.int i7), .val (.int i8), .val (.int i9), .val (.ref o10), .val (.int i11), .val (.int i12), .val (.int i13), .val (.int i14), .val (.int i15), .val (.int i16), .val (.int (if i15 = (0 : Int32) then (if i14 = (0 : Int32) then i7 else i8) else i9)), .unset, .unset, .unset] [])) target → Steps p.tables e below (T0.setTop (mkF m 138 #[.val (.int i0), .val (.int i1), .val (.int i2), .val (.int i3), .val (.int i4), .val (.int i5), .val (.int i6), .val (.int i7), .val (.int i8), .val (.int i9), .val (.ref o10), .val (.int i11), .val (.int i12), .val (.int i13), .val (.int i14), .val (.int i15), .val (.int i16), .unset, .unset, .unset, .unset] [])) target := by
  intro target kt
  show Steps p.tables e below (T0.setTop (mkF m 138 #[.val (.int i0), .val (.int i1), .val (.int i2), .val (.int i3), .val (.int i4), .val (.int i5), .val (.int i6), .val (.int i7), .val (.int i8), .val (.int i9), .val (.ref o10), .val (.int i11), .val (.int i12), .val (.int i13), .val (.int i14), .val (.int i15), .val (.int i16), .unset, .unset, .unset, .unset] [])) _
  refine XS.iload X0.here hx rfl (hb hby at_138) rfl ?_
  show Steps p.tables e below (T0.setTop (mkF m 140 #[.val (.int i0), .val (.int i1), .val (.int i2), .val (.int i3), .val (.int i4), .val (.int i5), .val (.int i6), .val (.int i7), .val (.int i8), .val (.int i9), .val (.ref o10), .val (.int i11), .val (.int i12), .val (.int i13), .val (.int i14), .val (.int i15), .val (.int i16), .unset, .unset, .unset, .unset] [(.int i15)])) _
  by_cases hc140 : i15 = (0 : Int32)
  · refine XS.ifYes X0.here hx rfl (pc0 := 140) (pc' := 148) rfl (hb hby at_140) rfl ((if0 _ _).trans (teq hc140).1) (by decide) (by decide) ?_
    show Steps p.tables e below (T0.setTop (mkF m 148 #[.val (.int i0), .val (.int i1), .val (.int i2), .val (.int i3), .val (.int i4), .val (.int i5), .val (.int i6), .val (.int i7), .val (.int i8), .val (.int i9), .val (.ref o10), .val (.int i11), .val (.int i12), .val (.int i13), .val (.int i14), .val (.int i15), .val (.int i16), .unset, .unset, .unset, .unset] [])) _
    refine XS.iload X0.here hx rfl (hb hby at_148) rfl ?_
    show Steps p.tables e below (T0.setTop (mkF m 150 #[.val (.int i0), .val (.int i1), .val (.int i2), .val (.int i3), .val (.int i4), .val (.int i5), .val (.int i6), .val (.int i7), .val (.int i8), .val (.int i9), .val (.ref o10), .val (.int i11), .val (.int i12), .val (.int i13), .val (.int i14), .val (.int i15), .val (.int i16), .unset, .unset, .unset, .unset] [(.int i14)])) _
    by_cases hc150 : i14 = (0 : Int32)
    · refine XS.ifYes X0.here hx rfl (pc0 := 150) (pc' := 158) rfl (hb hby at_150) rfl ((if0 _ _).trans (teq hc150).1) (by decide) (by decide) ?_
      show Steps p.tables e below (T0.setTop (mkF m 158 #[.val (.int i0), .val (.int i1), .val (.int i2), .val (.int i3), .val (.int i4), .val (.int i5), .val (.int i6), .val (.int i7), .val (.int i8), .val (.int i9), .val (.ref o10), .val (.int i11), .val (.int i12), .val (.int i13), .val (.int i14), .val (.int i15), .val (.int i16), .unset, .unset, .unset, .unset] [])) _
      refine XS.iload X0.here hx rfl (hb hby at_158) rfl ?_
      show Steps p.tables e below (T0.setTop (mkF m 160 #[.val (.int i0), .val (.int i1), .val (.int i2), .val (.int i3), .val (.int i4), .val (.int i5), .val (.int i6), .val (.int i7), .val (.int i8), .val (.int i9), .val (.ref o10), .val (.int i11), .val (.int i12), .val (.int i13), .val (.int i14), .val (.int i15), .val (.int i16), .unset, .unset, .unset, .unset] [(.int i7)])) _
      refine XS.istore X0.here hx rfl (hb hby at_160) rfl (l' := #[.val (.int i0), .val (.int i1), .val (.int i2), .val (.int i3), .val (.int i4), .val (.int i5), .val (.int i6), .val (.int i7), .val (.int i8), .val (.int i9), .val (.ref o10), .val (.int i11), .val (.int i12), .val (.int i13), .val (.int i14), .val (.int i15), .val (.int i16), .val (.int i7), .unset, .unset, .unset]) rfl ?_
      rw [if_pos hc140, if_pos hc150] at kt
      exact kt
    · refine XS.ifNo X0.here hx rfl (hb hby at_150) rfl ((if0 _ _).trans (feq hc150).1) ?_
      show Steps p.tables e below (T0.setTop (mkF m 153 #[.val (.int i0), .val (.int i1), .val (.int i2), .val (.int i3), .val (.int i4), .val (.int i5), .val (.int i6), .val (.int i7), .val (.int i8), .val (.int i9), .val (.ref o10), .val (.int i11), .val (.int i12), .val (.int i13), .val (.int i14), .val (.int i15), .val (.int i16), .unset, .unset, .unset, .unset] [])) _
      refine XS.iload X0.here hx rfl (hb hby at_153) rfl ?_
      show Steps p.tables e below (T0.setTop (mkF m 155 #[.val (.int i0), .val (.int i1), .val (.int i2), .val (.int i3), .val (.int i4), .val (.int i5), .val (.int i6), .val (.int i7), .val (.int i8), .val (.int i9), .val (.ref o10), .val (.int i11), .val (.int i12), .val (.int i13), .val (.int i14), .val (.int i15), .val (.int i16), .unset, .unset, .unset, .unset] [(.int i8)])) _
      refine XS.goto X0.here hx rfl (pc0 := 155) (pc' := 160) rfl (hb hby at_155) (by decide) (by decide) ?_
      show Steps p.tables e below (T0.setTop (mkF m 160 #[.val (.int i0), .val (.int i1), .val (.int i2), .val (.int i3), .val (.int i4), .val (.int i5), .val (.int i6), .val (.int i7), .val (.int i8), .val (.int i9), .val (.ref o10), .val (.int i11), .val (.int i12), .val (.int i13), .val (.int i14), .val (.int i15), .val (.int i16), .unset, .unset, .unset, .unset] [(.int i8)])) _
      refine XS.istore X0.here hx rfl (hb hby at_160) rfl (l' := #[.val (.int i0), .val (.int i1), .val (.int i2), .val (.int i3), .val (.int i4), .val (.int i5), .val (.int i6), .val (.int i7), .val (.int i8), .val (.int i9), .val (.ref o10), .val (.int i11), .val (.int i12), .val (.int i13), .val (.int i14), .val (.int i15), .val (.int i16), .val (.int i8), .unset, .unset, .unset]) rfl ?_
      rw [if_pos hc140, if_neg hc150] at kt
      exact kt
  · refine XS.ifNo X0.here hx rfl (hb hby at_140) rfl ((if0 _ _).trans (feq hc140).1) ?_
    show Steps p.tables e below (T0.setTop (mkF m 143 #[.val (.int i0), .val (.int i1), .val (.int i2), .val (.int i3), .val (.int i4), .val (.int i5), .val (.int i6), .val (.int i7), .val (.int i8), .val (.int i9), .val (.ref o10), .val (.int i11), .val (.int i12), .val (.int i13), .val (.int i14), .val (.int i15), .val (.int i16), .unset, .unset, .unset, .unset] [])) _
    refine XS.iload X0.here hx rfl (hb hby at_143) rfl ?_
    show Steps p.tables e below (T0.setTop (mkF m 145 #[.val (.int i0), .val (.int i1), .val (.int i2), .val (.int i3), .val (.int i4), .val (.int i5), .val (.int i6), .val (.int i7), .val (.int i8), .val (.int i9), .val (.ref o10), .val (.int i11), .val (.int i12), .val (.int i13), .val (.int i14), .val (.int i15), .val (.int i16), .unset, .unset, .unset, .unset] [(.int i9)])) _
    refine XS.goto X0.here hx rfl (pc0 := 145) (pc' := 160) rfl (hb hby at_145) (by decide) (by decide) ?_
    show Steps p.tables e below (T0.setTop (mkF m 160 #[.val (.int i0), .val (.int i1), .val (.int i2), .val (.int i3), .val (.int i4), .val (.int i5), .val (.int i6), .val (.int i7), .val (.int i8), .val (.int i9), .val (.ref o10), .val (.int i11), .val (.int i12), .val (.int i13), .val (.int i14), .val (.int i15), .val (.int i16), .unset, .unset, .unset, .unset] [(.int i9)])) _
    refine XS.istore X0.here hx rfl (hb hby at_160) rfl (l' := #[.val (.int i0), .val (.int i1), .val (.int i2), .val (.int i3), .val (.int i4), .val (.int i5), .val (.int i6), .val (.int i7), .val (.int i8), .val (.int i9), .val (.ref o10), .val (.int i11), .val (.int i12), .val (.int i13), .val (.int i14), .val (.int i15), .val (.int i16), .val (.int i9), .unset, .unset, .unset]) rfl ?_
    rw [if_neg hc140] at kt
    exact kt
theorem own_pd_LIIRZ : parseMethodDescriptor "(II)Z" = some ⟨[.int, .int], some .boolean⟩ := by decide +kernel
theorem own_pd_LIRI : parseMethodDescriptor "(I)I" = some ⟨[.int], some .int⟩ := by decide +kernel
theorem own_pd_LIRV : parseMethodDescriptor "(I)V" = some ⟨[.int], none⟩ := by decide +kernel
theorem own_pd_LRI : parseMethodDescriptor "()I" = some ⟨[], some .int⟩ := by decide +kernel
theorem own_pd_LRV : parseMethodDescriptor "()V" = some ⟨[], none⟩ := by decide +kernel
theorem pn_0 : plainName "com/example/arbora/arbora/supertree/ChangesAddPinLaw" = true := by first | (simp [plainName, overriddenIn]; done) | decide +kernel
theorem pd_0_0 : parseMethodDescriptor "(I)V" = some ⟨[.int], none⟩ := by decide +kernel
theorem pd_0_2 : parseMethodDescriptor "(II)Z" = some ⟨[.int, .int], some .boolean⟩ := by decide +kernel
theorem pd_0_3 : parseMethodDescriptor "()I" = some ⟨[], some .int⟩ := by decide +kernel
theorem pd_0_4 : parseMethodDescriptor "(I)I" = some ⟨[.int], some .int⟩ := by decide +kernel
theorem pd_0_1 : parseMethodDescriptor "()V" = some ⟨[], none⟩ := by decide +kernel
theorem ef_0 (m : MethodId) (x0 : Int32) (x1 : Int32) (x2 : Int32) (x3 : Int32) (x4 : Int32) : entryFrame m #[(.int x0), (.int x1), (.int x2), (.int x3), (.int x4)] maxLocals = mkF m 0 #[.val (.int x0), .val (.int x1), .val (.int x2), .val (.int x3), .val (.int x4), .unset, .unset, .unset, .unset, .unset, .unset, .unset, .unset, .unset, .unset, .unset, .unset, .unset, .unset, .unset, .unset] [] := by first | (simp [entryFrame, mkF, argsToLocals, Value.category, maxLocals]; done) | rfl
def Q0 (Z : State) (p1 : Int32) (p2 : Int32) (p3 : Int32) (p4 : Int32) (p5 : Int32) (h0 : Heap) (n0 : Nat) (v : Option Value) (h : Heap) (L : List Loc) : Prop := v = some (.int (1 : Int32)) ∧ Fr n0 L
set_option maxRecDepth 65536 in
set_option maxHeartbeats 40000000 in
theorem rm0 (l : Launch) (Z : State) (a0 : Array Value) (hw : ∀ d ∈ tables_1, d.before a0 Z = true) (ws : List Jvm.Cond) (p1 : Int32) (p2 : Int32) (p3 : Int32) (p4 : Int32) (p5 : Int32) (h0 : Heap) (n0 : Nat) (Z0 : n0 ≤ h0.size) :
    MetFree l x (head1 (Jvm.Cond.code x code maxLocals ret :: ws) room_1) (fun a U => a = #[(.int p1), (.int p2), (.int p3), (.int p4), (.int p5)] ∧ Z.Warmed39 U.vm ∧ U.heap = h0) (fun _ _ _ _ _ => True) (fun _ U o U' => ∃ v L, o = .returned v ∧ Q0 Z p1 p2 p3 p4 p5 h0 n0 v U'.heap L ∧ FrameEnd U o U' L room_1.cells room_1.slots) := by
  refine MetFree.of_bodySF (plainFor_of_name pn_0) hisR ?_
  intro p e s m args below meth c s₁ Bd hml0 hP hK
  obtain ⟨rfl, hZ, hh⟩ := hP
  have hx := Bd.exec
  have hby := Bd.bytes
  have hml : c.maxLocals = 21 := hml0
  have hown : s.vm.findClass "com/example/arbora/arbora/supertree/ChangesAddPinLaw" = some m.cls := findClass_of_methodNamed Bd.named
  have hnm := (name_of_methodNamed Bd.named Bd.method).1
  have X0 : Stand p l e room_1 s m #[(.int p1), (.int p2), (.int p3), (.int p4), (.int p5)] below meth c s₁ [] 0 0 := Stand.of_body Bd
  have e0 : s₁.heap = h0 := by rw [← hh, Bd.state]; rfl
  have N0 := Fr.nil n0
  have pre0 : ∀ t, Steps p.tables e below (s₁.setTop (mkF m 0 #[.val (.int p1), .val (.int p2), .val (.int p3), .val (.int p4), .val (.int p5), .unset, .unset, .unset, .unset, .unset, .unset, .unset, .unset, .unset, .unset, .unset, .unset, .unset, .unset, .unset, .unset] [])) t → Steps p.tables e below (s₁.setTop (entryFrame m #[(.int p1), (.int p2), (.int p3), (.int p4), (.int p5)] maxLocals)) t := fun t k => castTop (ef_0 m p1 p2 p3 p4 p5) k
  obtain ⟨ix, hix, lix⟩ := own_m_rng p3
  obtain ⟨iy, hiy, liy⟩ := own_m_rng p4
  obtain ⟨iz, hiz, liz⟩ := own_m_rng p5
  obtain ⟨T11, h11, X11, e11, E11, A11, D11, -, st11⟩ := newO X0 hx hZ hown (hw _ (List.mem_of_getElem? (i := 2) rfl)) (hw _ (List.mem_of_getElem? (i := 3) rfl)) (hw _ (List.mem_of_getElem? (i := 4) rfl)) e0 (g := (mkF m 35 #[.val (.int p1), .val (.int p2), .val (.int p3), .val (.int p4), .val (.int p5), .val (.int (own_r1 p1)), .val (.int (own_r2 p1 p2)), .val (.int (own_m p3)), .val (.int (own_m p4)), .val (.int (own_m p5)), .unset, .unset, .unset, .unset, .unset, .unset, .unset, .unset, .unset, .unset, .unset] [])) rfl (hb hby at_35) (by decide) (by decide)
  obtain ⟨b11, g11⟩ : ∃ z, z = h0.size := ⟨_, rfl⟩
  rw [← g11] at A11 D11 st11
  have F_listedIn_11 : Fld Z h11 b11 "com/example/arbora/arbora/supertree/Changes" "listedIn" "[I" .null := D11 (Or.inr (hw _ (List.mem_of_getElem? (i := 13) rfl))) (ty := (.array .int)) (by decide)
  have F_listed_11 : Fld Z h11 b11 "com/example/arbora/arbora/supertree/Changes" "listed" "[I" .null := D11 (Or.inr (hw _ (List.mem_of_getElem? (i := 15) rfl))) (ty := (.array .int)) (by decide)
  have F_size_11 : Fld Z h11 b11 "com/example/arbora/arbora/supertree/Changes" "size" "I" (.int (0 : Int32)) := D11 (Or.inl (hw _ (List.mem_of_getElem? (i := 22) rfl))) (ty := .int) (by decide)
  have Zn11 : n0 ≤ h11.size := Nat.le_trans Z0 E11.1
  have gl : n0 ≤ b11 := Nat.le_trans Z0 (Nat.le_of_eq g11.symm)
  obtain ⟨_, _, ⟨T12, L12, k12, n12⟩, -, X12, ⟨Lc12, hQ12, l12, y12, z12⟩, st12⟩ := X11.specialBack hx (y := (⟨"com/example/arbora/arbora/supertree/Changes", "<init>", "(I)V"⟩ : MethodName)) rfl hown (mvT hZ (hw _ (List.mem_of_getElem? (i := 5) rfl))) (mvT hZ (hw _ (List.mem_of_getElem? (i := 6) rfl))) (mvT hZ (hw _ (List.mem_of_getElem? (i := 7) rfl))) (by decide) (backOf (W := 1) (rm1 l Z a0 hw [] b11 h11 n0 Zn11 A11 F_listedIn_11 F_listed_11 F_size_11 gl) hZ (hw _ (List.mem_of_getElem? (i := 7) rfl)) (hw _ (List.mem_of_getElem? (i := 4) rfl)) (by decide) (by decide)) (g := (mkF m 40 #[.val (.int p1), .val (.int p2), .val (.int p3), .val (.int p4), .val (.int p5), .val (.int (own_r1 p1)), .val (.int (own_r2 p1 p2)), .val (.int (own_m p3)), .val (.int (own_m p4)), .val (.int (own_m p5)), .unset, .unset, .unset, .unset, .unset, .unset, .unset, .unset, .unset, .unset, .unset] [(.int (4 : Int32)), (.ref b11), (.ref b11)])) rfl (by rw [hml]; rfl) (Steps.refl _) (a := b11) (argsL := [(.int (4 : Int32))]) (rest := [(.ref b11)]) (lenOf own_pd_LIRV rfl) rfl (by show 2 * 0 + _ ≤ _; exact Nat.le_of_eq rfl) (hb hby at_40) (fun _ _ => ⟨rfl, e11, (by decide : 1 + 2 ≤ _), (by decide : 3 + 8 ≤ _)⟩)
  dsimp only [Pt.U, Pt.locs, Pt.cells, Pt.slots] at X12 l12 y12 z12 st12 hQ12
  subst l12 y12 z12
  obtain ⟨rfl, N12q, K12, u, w, gu, gw, C12⟩ := hQ12
  have N12 := Fr.app N0 N12q
  have Z12 : n0 ≤ T12.heap.size := Nat.le_trans Zn11 K12.1
  obtain ⟨cq13, kq13, q13a, q13b, q13c⟩ := isOf hZ rfl (show Exa Z T12.heap b11 "com/example/arbora/arbora/supertree/Changes" from C12.1)
  obtain ⟨_, _, ⟨T13, L13, k13, n13⟩, -, X13, ⟨Lc13, hQ13, l13, y13, z13⟩, st13⟩ := X12.virtualBack hx (y := (⟨"com/example/arbora/arbora/supertree/Changes", "add", "(II)Z"⟩ : MethodName)) (z := (⟨"com/example/arbora/arbora/supertree/Changes", "add", "(II)Z"⟩ : MethodName)) hown (mvT hZ (hw _ (List.mem_of_getElem? (i := 16) rfl))) (mvT hZ (hw _ (List.mem_of_getElem? (i := 17) rfl))) (notFace_of_selects (args := #[]) (mvT hZ (hw _ (List.mem_of_getElem? (i := 19) rfl)))) (mvT hZ (hw _ (List.mem_of_getElem? (i := 19) rfl))) (mvT hZ (hw _ (List.mem_of_getElem? (i := 18) rfl))) (by decide) (backOf (W := 0) (rm3 l Z a0 hw [] b11 u w (own_m p3) (own_r1 p1) (fun _ => (0 : Int32)) (fun _ => (0 : Int32)) (0 : Int32) ix 0 (own_f1 ix (own_r1 p1)) (own_g1 (own_m p3)) (1 : Int32) (1 : Int32) T12.heap n0 Z12 C12 (hix) (lix) (rfl) (by decide) gl gu gw (fun q => absurd q (own_miss1 p1 ix)) (fun _ => ⟨rfl, rfl, rfl, rfl⟩)) hZ (hw _ (List.mem_of_getElem? (i := 20) rfl)) (hw _ (List.mem_of_getElem? (i := 4) rfl)) (by decide) (by decide)) q13a q13c (g := (mkF m 51 #[.val (.int p1), .val (.int p2), .val (.int p3), .val (.int p4), .val (.int p5), .val (.int (own_r1 p1)), .val (.int (own_r2 p1 p2)), .val (.int (own_m p3)), .val (.int (own_m p4)), .val (.int (own_m p5)), .val (.ref b11), .unset, .unset, .unset, .unset, .unset, .unset, .unset, .unset, .unset, .unset] [(.int (own_r1 p1)), (.int (own_m p3)), (.ref b11)])) rfl (by rw [hml]; rfl) (Steps.refl _) (argsL := [(.int (own_m p3)), (.int (own_r1 p1))]) (rest := []) (lenOf own_pd_LIIRZ rfl) rfl (by show 2 * 0 + _ ≤ _; exact Nat.le_of_eq rfl) (hb hby at_51) (fun _ _ => ⟨rfl, rfl, (by decide : 3 + 0 ≤ _), (by decide : 11 + 0 ≤ _)⟩)
  dsimp only [Pt.U, Pt.locs, Pt.cells, Pt.slots] at X13 l13 y13 z13 st13 hQ13
  subst l13 y13 z13
  obtain ⟨rfl, N13q, K13, C13⟩ := hQ13
  have N13 := Fr.app N12 N13q
  have Z13 : n0 ≤ T13.heap.size := Nat.le_trans Z12 K13.1
  obtain ⟨cq14, kq14, q14a, q14b, q14c⟩ := isOf hZ rfl (show Exa Z T13.heap b11 "com/example/arbora/arbora/supertree/Changes" from C13.1)
  obtain ⟨_, _, ⟨T14, L14, k14, n14⟩, -, X14, ⟨Lc14, hQ14, l14, y14, z14⟩, st14⟩ := X13.virtualBack hx (y := (⟨"com/example/arbora/arbora/supertree/Changes", "add", "(II)Z"⟩ : MethodName)) (z := (⟨"com/example/arbora/arbora/supertree/Changes", "add", "(II)Z"⟩ : MethodName)) hown (mvT hZ (hw _ (List.mem_of_getElem? (i := 16) rfl))) (mvT hZ (hw _ (List.mem_of_getElem? (i := 17) rfl))) (notFace_of_selects (args := #[]) (mvT hZ (hw _ (List.mem_of_getElem? (i := 19) rfl)))) (mvT hZ (hw _ (List.mem_of_getElem? (i := 19) rfl))) (mvT hZ (hw _ (List.mem_of_getElem? (i := 18) rfl))) (by decide) (backOf (W := 0) (rm3 l Z a0 hw [] b11 u w (own_m p4) (own_r1 p1) (own_f1 ix (own_r1 p1)) (own_g1 (own_m p3)) (1 : Int32) iy 1 (own_up (own_f1 ix (own_r1 p1)) iy (own_r1 p1)) (own_g2 (own_m p3) (own_m p4)) (own_n2 (own_m p3) (own_m p4)) (own_e2 (own_m p3) (own_m p4)) T13.heap n0 Z13 C13 (hiy) (liy) (rfl) (by decide) gl gu gw (fun q => ⟨if_pos ((own_hit2 p1 hix hiy).mp q), own_up_same q, if_pos ((own_hit2 p1 hix hiy).mp q), if_pos ((own_hit2 p1 hix hiy).mp q)⟩) (fun q => ⟨if_neg (fun z => q ((own_hit2 p1 hix hiy).mpr z)), rfl, if_neg (fun z => q ((own_hit2 p1 hix hiy).mpr z)), if_neg (fun z => q ((own_hit2 p1 hix hiy).mpr z))⟩)) hZ (hw _ (List.mem_of_getElem? (i := 20) rfl)) (hw _ (List.mem_of_getElem? (i := 4) rfl)) (by decide) (by decide)) q14a q14c (g := (mkF m 62 #[.val (.int p1), .val (.int p2), .val (.int p3), .val (.int p4), .val (.int p5), .val (.int (own_r1 p1)), .val (.int (own_r2 p1 p2)), .val (.int (own_m p3)), .val (.int (own_m p4)), .val (.int (own_m p5)), .val (.ref b11), .val (.int (1 : Int32)), .unset, .unset, .unset, .unset, .unset, .unset, .unset, .unset, .unset] [(.int (own_r1 p1)), (.int (own_m p4)), (.ref b11)])) rfl (by rw [hml]; rfl) (Steps.refl _) (argsL := [(.int (own_m p4)), (.int (own_r1 p1))]) (rest := []) (lenOf own_pd_LIIRZ rfl) rfl (by show 2 * 0 + _ ≤ _; exact Nat.le_of_eq rfl) (hb hby at_62) (fun _ _ => ⟨rfl, rfl, (by decide : 3 + 0 ≤ _), (by decide : 11 + 0 ≤ _)⟩)
  dsimp only [Pt.U, Pt.locs, Pt.cells, Pt.slots] at X14 l14 y14 z14 st14 hQ14
  subst l14 y14 z14
  obtain ⟨rfl, N14q, K14, C14⟩ := hQ14
  have N14 := Fr.app N13 N14q
  have Z14 : n0 ≤ T14.heap.size := Nat.le_trans Z13 K14.1
  have hit3 : (own_up (own_f1 ix (own_r1 p1)) iy (own_r1 p1)) iz = (own_r1 p1) → (own_e3 (own_m p3) (own_m p4) (own_m p5)) = 0 ∧ (own_up (own_up (own_f1 ix (own_r1 p1)) iy (own_r1 p1)) iz (own_r1 p1)) = (own_up (own_f1 ix (own_r1 p1)) iy (own_r1 p1)) ∧ (own_g3 (own_m p3) (own_m p4) (own_m p5)) = (own_g2 (own_m p3) (own_m p4)) ∧ (own_n3 (own_m p3) (own_m p4) (own_m p5)) = (own_n2 (own_m p3) (own_m p4)) := by
    intro q
    have q2 := (own_hit3 p1 hix hiy hiz).mp q
    refine ⟨?_, own_up_same q, ?_, ?_⟩
    · unfold own_e3; rcases q2 with w | w
      · rw [if_pos w]
      · by_cases v : (own_m p5) = (own_m p3)
        · rw [if_pos v]
        · rw [if_neg v, if_pos w]
    · unfold own_g3; rcases q2 with w | w
      · rw [if_pos w]
      · by_cases v : (own_m p5) = (own_m p3)
        · rw [if_pos v]
        · rw [if_neg v, if_pos w]
    · unfold own_n3; rcases q2 with w | w
      · rw [if_pos w]
      · by_cases v : (own_m p5) = (own_m p3)
        · rw [if_pos v]
        · rw [if_neg v, if_pos w]
  have miss3 : ¬ ((own_up (own_f1 ix (own_r1 p1)) iy (own_r1 p1)) iz = (own_r1 p1)) → (own_e3 (own_m p3) (own_m p4) (own_m p5)) = 1 ∧ (own_up (own_up (own_f1 ix (own_r1 p1)) iy (own_r1 p1)) iz (own_r1 p1)) = own_up (own_up (own_f1 ix (own_r1 p1)) iy (own_r1 p1)) iz (own_r1 p1) ∧ (own_g3 (own_m p3) (own_m p4) (own_m p5)) = own_up (own_g2 (own_m p3) (own_m p4)) (own_k2 (own_m p3) (own_m p4)) (own_m p5) ∧ (own_n3 (own_m p3) (own_m p4) (own_m p5)) = (own_n2 (own_m p3) (own_m p4)) + (1 : Int32) := by
    intro q
    have q2 : ¬ ((own_m p5) = (own_m p3)) := fun w => q ((own_hit3 p1 hix hiy hiz).mpr (Or.inl w))
    have q3 : ¬ ((own_m p5) = (own_m p4)) := fun w => q ((own_hit3 p1 hix hiy hiz).mpr (Or.inr w))
    refine ⟨?_, rfl, ?_, ?_⟩
    · unfold own_e3; rw [if_neg q2, if_neg q3]
    · unfold own_g3; rw [if_neg q2, if_neg q3]
    · unfold own_n3; rw [if_neg q2, if_neg q3]
  obtain ⟨cq15, kq15, q15a, q15b, q15c⟩ := isOf hZ rfl (show Exa Z T14.heap b11 "com/example/arbora/arbora/supertree/Changes" from C14.1)
  obtain ⟨_, _, ⟨T15, L15, k15, n15⟩, -, X15, ⟨Lc15, hQ15, l15, y15, z15⟩, st15⟩ := X14.virtualBack hx (y := (⟨"com/example/arbora/arbora/supertree/Changes", "add", "(II)Z"⟩ : MethodName)) (z := (⟨"com/example/arbora/arbora/supertree/Changes", "add", "(II)Z"⟩ : MethodName)) hown (mvT hZ (hw _ (List.mem_of_getElem? (i := 16) rfl))) (mvT hZ (hw _ (List.mem_of_getElem? (i := 17) rfl))) (notFace_of_selects (args := #[]) (mvT hZ (hw _ (List.mem_of_getElem? (i := 19) rfl)))) (mvT hZ (hw _ (List.mem_of_getElem? (i := 19) rfl))) (mvT hZ (hw _ (List.mem_of_getElem? (i := 18) rfl))) (by decide) (backOf (W := 0) (rm3 l Z a0 hw [] b11 u w (own_m p5) (own_r1 p1) (own_up (own_f1 ix (own_r1 p1)) iy (own_r1 p1)) (own_g2 (own_m p3) (own_m p4)) (own_n2 (own_m p3) (own_m p4)) iz (own_k2 (own_m p3) (own_m p4)) (own_up (own_up (own_f1 ix (own_r1 p1)) iy (own_r1 p1)) iz (own_r1 p1)) (own_g3 (own_m p3) (own_m p4) (own_m p5)) (own_n3 (own_m p3) (own_m p4) (own_m p5)) (own_e3 (own_m p3) (own_m p4) (own_m p5)) T14.heap n0 Z14 C14 (hiz) (liz) (own_up2 _ _) ((own_k2_lt _ _).1) gl gu gw (hit3) (miss3)) hZ (hw _ (List.mem_of_getElem? (i := 20) rfl)) (hw _ (List.mem_of_getElem? (i := 4) rfl)) (by decide) (by decide)) q15a q15c (g := (mkF m 73 #[.val (.int p1), .val (.int p2), .val (.int p3), .val (.int p4), .val (.int p5), .val (.int (own_r1 p1)), .val (.int (own_r2 p1 p2)), .val (.int (own_m p3)), .val (.int (own_m p4)), .val (.int (own_m p5)), .val (.ref b11), .val (.int (1 : Int32)), .val (.int (own_e2 (own_m p3) (own_m p4))), .unset, .unset, .unset, .unset, .unset, .unset, .unset, .unset] [(.int (own_r1 p1)), (.int (own_m p5)), (.ref b11)])) rfl (by rw [hml]; rfl) (Steps.refl _) (argsL := [(.int (own_m p5)), (.int (own_r1 p1))]) (rest := []) (lenOf own_pd_LIIRZ rfl) rfl (by show 2 * 0 + _ ≤ _; exact Nat.le_of_eq rfl) (hb hby at_73) (fun _ _ => ⟨rfl, rfl, (by decide : 3 + 0 ≤ _), (by decide : 11 + 0 ≤ _)⟩)
  dsimp only [Pt.U, Pt.locs, Pt.cells, Pt.slots] at X15 l15 y15 z15 st15 hQ15
  subst l15 y15 z15
  obtain ⟨rfl, N15q, K15, C15⟩ := hQ15
  have N15 := Fr.app N14 N15q
  have Z15 : n0 ≤ T15.heap.size := Nat.le_trans Z14 K15.1
  obtain ⟨cq16, kq16, q16a, q16b, q16c⟩ := isOf hZ rfl (show Exa Z T15.heap b11 "com/example/arbora/arbora/supertree/Changes" from C15.1)
  obtain ⟨_, _, ⟨T16, L16, k16, n16⟩, -, X16, ⟨Lc16, hQ16, l16, y16, z16⟩, st16⟩ := X15.virtualBack hx (y := (⟨"com/example/arbora/arbora/supertree/Changes", "size", "()I"⟩ : MethodName)) (z := (⟨"com/example/arbora/arbora/supertree/Changes", "size", "()I"⟩ : MethodName)) hown (mvT hZ (hw _ (List.mem_of_getElem? (i := 23) rfl))) (mvT hZ (hw _ (List.mem_of_getElem? (i := 24) rfl))) (notFace_of_selects (args := #[]) (mvT hZ (hw _ (List.mem_of_getElem? (i := 26) rfl)))) (mvT hZ (hw _ (List.mem_of_getElem? (i := 26) rfl))) (mvT hZ (hw _ (List.mem_of_getElem? (i := 25) rfl))) (by decide) (backOf (W := 0) (rm4 l Z a0 hw [] b11 u w (own_up (own_up (own_f1 ix (own_r1 p1)) iy (own_r1 p1)) iz (own_r1 p1)) (own_g3 (own_m p3) (own_m p4) (own_m p5)) (own_n3 (own_m p3) (own_m p4) (own_m p5)) T15.heap n0 Z15 C15) hZ (hw _ (List.mem_of_getElem? (i := 27) rfl)) (hw _ (List.mem_of_getElem? (i := 4) rfl)) (by decide) (by decide)) q16a q16c (g := (mkF m 183 #[.val (.int p1), .val (.int p2), .val (.int p3), .val (.int p4), .val (.int p5), .val (.int (own_r1 p1)), .val (.int (own_r2 p1 p2)), .val (.int (own_m p3)), .val (.int (own_m p4)), .val (.int (own_m p5)), .val (.ref b11), .val (.int (1 : Int32)), .val (.int (own_e2 (own_m p3) (own_m p4))), .val (.int (own_e3 (own_m p3) (own_m p4) (own_m p5))), .val (.int (own_e2 (own_m p3) (own_m p4))), .val (.int (own_e3 (own_m p3) (own_m p4) (own_m p5))), .val (.int (own_es (own_e2 (own_m p3) (own_m p4)) (own_e3 (own_m p3) (own_m p4) (own_m p5)))), .val (.int (own_el (own_m p3) (own_m p4) (own_m p5) (own_e2 (own_m p3) (own_m p4)) (own_e3 (own_m p3) (own_m p4) (own_m p5)))), .unset, .unset, .unset] [(.ref b11)])) rfl (by rw [hml]; rfl) (Steps.refl _) (argsL := []) (rest := []) (lenOf own_pd_LRI rfl) rfl (by show 2 * 0 + _ ≤ _; exact Nat.le_of_eq rfl) (hb hby at_183) (fun _ _ => ⟨rfl, rfl, (by decide : 3 + 0 ≤ _), (by decide : 11 + 0 ≤ _)⟩)
  dsimp only [Pt.U, Pt.locs, Pt.cells, Pt.slots] at X16 l16 y16 z16 st16 hQ16
  subst l16 y16 z16
  obtain ⟨rfl, N16q, hq16⟩ := hQ16
  have N16 := Fr.app N15 N16q
  have Z16 : n0 ≤ T16.heap.size := by rw [hq16]; exact Z15
  have C16 : own_C Z T16.heap b11 u w (own_up (own_up (own_f1 ix (own_r1 p1)) iy (own_r1 p1)) iz (own_r1 p1)) (own_g3 (own_m p3) (own_m p4) (own_m p5)) (own_n3 (own_m p3) (own_m p4) (own_m p5)) := by rw [hq16]; exact C15
  obtain ⟨cq17, kq17, q17a, q17b, q17c⟩ := isOf hZ rfl (show Exa Z T16.heap b11 "com/example/arbora/arbora/supertree/Changes" from C16.1)
  obtain ⟨_, _, ⟨T17, L17, k17, n17⟩, -, X17, ⟨Lc17, hQ17, l17, y17, z17⟩, st17⟩ := X16.virtualBack hx (y := (⟨"com/example/arbora/arbora/supertree/Changes", "get", "(I)I"⟩ : MethodName)) (z := (⟨"com/example/arbora/arbora/supertree/Changes", "get", "(I)I"⟩ : MethodName)) hown (mvT hZ (hw _ (List.mem_of_getElem? (i := 28) rfl))) (mvT hZ (hw _ (List.mem_of_getElem? (i := 29) rfl))) (notFace_of_selects (args := #[]) (mvT hZ (hw _ (List.mem_of_getElem? (i := 31) rfl)))) (mvT hZ (hw _ (List.mem_of_getElem? (i := 31) rfl))) (mvT hZ (hw _ (List.mem_of_getElem? (i := 30) rfl))) (by decide) (backOf (W := 0) (rm5 l Z a0 hw [] b11 u w (0 : Int32) (own_up (own_up (own_f1 ix (own_r1 p1)) iy (own_r1 p1)) iz (own_r1 p1)) (own_g3 (own_m p3) (own_m p4) (own_m p5)) (own_n3 (own_m p3) (own_m p4) (own_m p5)) 0 T16.heap n0 Z16 C16 rfl (by decide)) hZ (hw _ (List.mem_of_getElem? (i := 32) rfl)) (hw _ (List.mem_of_getElem? (i := 4) rfl)) (by decide) (by decide)) q17a q17c (g := (mkF m 194 #[.val (.int p1), .val (.int p2), .val (.int p3), .val (.int p4), .val (.int p5), .val (.int (own_r1 p1)), .val (.int (own_r2 p1 p2)), .val (.int (own_m p3)), .val (.int (own_m p4)), .val (.int (own_m p5)), .val (.ref b11), .val (.int (1 : Int32)), .val (.int (own_e2 (own_m p3) (own_m p4))), .val (.int (own_e3 (own_m p3) (own_m p4) (own_m p5))), .val (.int (own_e2 (own_m p3) (own_m p4))), .val (.int (own_e3 (own_m p3) (own_m p4) (own_m p5))), .val (.int (own_es (own_e2 (own_m p3) (own_m p4)) (own_e3 (own_m p3) (own_m p4) (own_m p5)))), .val (.int (own_el (own_m p3) (own_m p4) (own_m p5) (own_e2 (own_m p3) (own_m p4)) (own_e3 (own_m p3) (own_m p4) (own_m p5)))), .unset, .unset, .unset] [(.int (0 : Int32)), (.ref b11)])) rfl (by rw [hml]; rfl) (Steps.refl _) (argsL := [(.int (0 : Int32))]) (rest := []) (lenOf own_pd_LIRI rfl) rfl (by show 2 * 0 + _ ≤ _; exact Nat.le_of_eq rfl) (hb hby at_194) (fun _ _ => ⟨rfl, rfl, (by decide : 3 + 0 ≤ _), (by decide : 11 + 0 ≤ _)⟩)
  dsimp only [Pt.U, Pt.locs, Pt.cells, Pt.slots] at X17 l17 y17 z17 st17 hQ17
  subst l17 y17 z17
  obtain ⟨rfl, N17q, hq17⟩ := hQ17
  have N17 := Fr.app N16 N17q
  have Z17 : n0 ≤ T17.heap.size := by rw [hq17]; exact Z16
  have C17 : own_C Z T17.heap b11 u w (own_up (own_up (own_f1 ix (own_r1 p1)) iy (own_r1 p1)) iz (own_r1 p1)) (own_g3 (own_m p3) (own_m p4) (own_m p5)) (own_n3 (own_m p3) (own_m p4) (own_m p5)) := by rw [hq17]; exact C16
  obtain ⟨cq18, kq18, q18a, q18b, q18c⟩ := isOf hZ rfl (show Exa Z T17.heap b11 "com/example/arbora/arbora/supertree/Changes" from C17.1)
  obtain ⟨_, _, ⟨T18, L18, k18, n18⟩, -, X18, ⟨Lc18, hQ18, l18, y18, z18⟩, st18⟩ := X17.virtualBack hx (y := (⟨"com/example/arbora/arbora/supertree/Changes", "get", "(I)I"⟩ : MethodName)) (z := (⟨"com/example/arbora/arbora/supertree/Changes", "get", "(I)I"⟩ : MethodName)) hown (mvT hZ (hw _ (List.mem_of_getElem? (i := 28) rfl))) (mvT hZ (hw _ (List.mem_of_getElem? (i := 29) rfl))) (notFace_of_selects (args := #[]) (mvT hZ (hw _ (List.mem_of_getElem? (i := 31) rfl)))) (mvT hZ (hw _ (List.mem_of_getElem? (i := 31) rfl))) (mvT hZ (hw _ (List.mem_of_getElem? (i := 30) rfl))) (by decide) (backOf (W := 0) (rm5 l Z a0 hw [] b11 u w ((own_es (own_e2 (own_m p3) (own_m p4)) (own_e3 (own_m p3) (own_m p4) (own_m p5))) - (1 : Int32)) (own_up (own_up (own_f1 ix (own_r1 p1)) iy (own_r1 p1)) iz (own_r1 p1)) (own_g3 (own_m p3) (own_m p4) (own_m p5)) (own_n3 (own_m p3) (own_m p4) (own_m p5)) (own_k3 (own_m p3) (own_m p4) (own_m p5)) T17.heap n0 Z17 C17 (own_k3_es _ _ _) (own_k3_lt _ _ _)) hZ (hw _ (List.mem_of_getElem? (i := 32) rfl)) (hw _ (List.mem_of_getElem? (i := 4) rfl)) (by decide) (by decide)) q18a q18c (g := (mkF m 208 #[.val (.int p1), .val (.int p2), .val (.int p3), .val (.int p4), .val (.int p5), .val (.int (own_r1 p1)), .val (.int (own_r2 p1 p2)), .val (.int (own_m p3)), .val (.int (own_m p4)), .val (.int (own_m p5)), .val (.ref b11), .val (.int (1 : Int32)), .val (.int (own_e2 (own_m p3) (own_m p4))), .val (.int (own_e3 (own_m p3) (own_m p4) (own_m p5))), .val (.int (own_e2 (own_m p3) (own_m p4))), .val (.int (own_e3 (own_m p3) (own_m p4) (own_m p5))), .val (.int (own_es (own_e2 (own_m p3) (own_m p4)) (own_e3 (own_m p3) (own_m p4) (own_m p5)))), .val (.int (own_el (own_m p3) (own_m p4) (own_m p5) (own_e2 (own_m p3) (own_m p4)) (own_e3 (own_m p3) (own_m p4) (own_m p5)))), .unset, .unset, .unset] [(.int ((own_es (own_e2 (own_m p3) (own_m p4)) (own_e3 (own_m p3) (own_m p4) (own_m p5))) - (1 : Int32))), (.ref b11)])) rfl (by rw [hml]; rfl) (Steps.refl _) (argsL := [(.int ((own_es (own_e2 (own_m p3) (own_m p4)) (own_e3 (own_m p3) (own_m p4) (own_m p5))) - (1 : Int32)))]) (rest := []) (lenOf own_pd_LIRI rfl) rfl (by show 2 * 0 + _ ≤ _; exact Nat.le_of_eq rfl) (hb hby at_208) (fun _ _ => ⟨rfl, rfl, (by decide : 3 + 0 ≤ _), (by decide : 11 + 0 ≤ _)⟩)
  dsimp only [Pt.U, Pt.locs, Pt.cells, Pt.slots] at X18 l18 y18 z18 st18 hQ18
  subst l18 y18 z18
  obtain ⟨rfl, N18q, hq18⟩ := hQ18
  have N18 := Fr.app N17 N18q
  have Z18 : n0 ≤ T18.heap.size := by rw [hq18]; exact Z17
  have C18 : own_C Z T18.heap b11 u w (own_up (own_up (own_f1 ix (own_r1 p1)) iy (own_r1 p1)) iz (own_r1 p1)) (own_g3 (own_m p3) (own_m p4) (own_m p5)) (own_n3 (own_m p3) (own_m p4) (own_m p5)) := by rw [hq18]; exact C17
  obtain ⟨cq19, kq19, q19a, q19b, q19c⟩ := isOf hZ rfl (show Exa Z T18.heap b11 "com/example/arbora/arbora/supertree/Changes" from C18.1)
  obtain ⟨_, _, ⟨T19, L19, k19, n19⟩, -, X19, ⟨Lc19, hQ19, l19, y19, z19⟩, st19⟩ := X18.virtualBack hx (y := (⟨"com/example/arbora/arbora/supertree/Changes", "clear", "()V"⟩ : MethodName)) (z := (⟨"com/example/arbora/arbora/supertree/Changes", "clear", "()V"⟩ : MethodName)) hown (mvT hZ (hw _ (List.mem_of_getElem? (i := 33) rfl))) (mvT hZ (hw _ (List.mem_of_getElem? (i := 34) rfl))) (notFace_of_selects (args := #[]) (mvT hZ (hw _ (List.mem_of_getElem? (i := 36) rfl)))) (mvT hZ (hw _ (List.mem_of_getElem? (i := 36) rfl))) (mvT hZ (hw _ (List.mem_of_getElem? (i := 35) rfl))) (by decide) (backOf (W := 0) (rm6 l Z a0 hw [] b11 u w (own_up (own_up (own_f1 ix (own_r1 p1)) iy (own_r1 p1)) iz (own_r1 p1)) (own_g3 (own_m p3) (own_m p4) (own_m p5)) (own_n3 (own_m p3) (own_m p4) (own_m p5)) T18.heap n0 Z18 C18 gl) hZ (hw _ (List.mem_of_getElem? (i := 37) rfl)) (hw _ (List.mem_of_getElem? (i := 4) rfl)) (by decide) (by decide)) q19a q19c (g := (mkF m 225 #[.val (.int p1), .val (.int p2), .val (.int p3), .val (.int p4), .val (.int p5), .val (.int (own_r1 p1)), .val (.int (own_r2 p1 p2)), .val (.int (own_m p3)), .val (.int (own_m p4)), .val (.int (own_m p5)), .val (.ref b11), .val (.int (1 : Int32)), .val (.int (own_e2 (own_m p3) (own_m p4))), .val (.int (own_e3 (own_m p3) (own_m p4) (own_m p5))), .val (.int (own_e2 (own_m p3) (own_m p4))), .val (.int (own_e3 (own_m p3) (own_m p4) (own_m p5))), .val (.int (own_es (own_e2 (own_m p3) (own_m p4)) (own_e3 (own_m p3) (own_m p4) (own_m p5)))), .val (.int (own_el (own_m p3) (own_m p4) (own_m p5) (own_e2 (own_m p3) (own_m p4)) (own_e3 (own_m p3) (own_m p4) (own_m p5)))), .val (.int (1 : Int32)), .unset, .unset] [(.ref b11)])) rfl (by rw [hml]; rfl) (Steps.refl _) (argsL := []) (rest := []) (lenOf own_pd_LRV rfl) rfl (by show 2 * 0 + _ ≤ _; exact Nat.le_of_eq rfl) (hb hby at_225) (fun _ _ => ⟨rfl, rfl, (by decide : 3 + 0 ≤ _), (by decide : 11 + 0 ≤ _)⟩)
  dsimp only [Pt.U, Pt.locs, Pt.cells, Pt.slots] at X19 l19 y19 z19 st19 hQ19
  subst l19 y19 z19
  obtain ⟨rfl, N19q, K19, C19⟩ := hQ19
  have N19 := Fr.app N18 N19q
  have Z19 : n0 ≤ T19.heap.size := Nat.le_trans Z18 K19.1
  obtain ⟨cq20, kq20, q20a, q20b, q20c⟩ := isOf hZ rfl (show Exa Z T19.heap b11 "com/example/arbora/arbora/supertree/Changes" from C19.1)
  obtain ⟨_, _, ⟨T20, L20, k20, n20⟩, -, X20, ⟨Lc20, hQ20, l20, y20, z20⟩, st20⟩ := X19.virtualBack hx (y := (⟨"com/example/arbora/arbora/supertree/Changes", "add", "(II)Z"⟩ : MethodName)) (z := (⟨"com/example/arbora/arbora/supertree/Changes", "add", "(II)Z"⟩ : MethodName)) hown (mvT hZ (hw _ (List.mem_of_getElem? (i := 16) rfl))) (mvT hZ (hw _ (List.mem_of_getElem? (i := 17) rfl))) (notFace_of_selects (args := #[]) (mvT hZ (hw _ (List.mem_of_getElem? (i := 19) rfl)))) (mvT hZ (hw _ (List.mem_of_getElem? (i := 19) rfl))) (mvT hZ (hw _ (List.mem_of_getElem? (i := 18) rfl))) (by decide) (backOf (W := 0) (rm3 l Z a0 hw [] b11 u w (own_m p4) (own_r2 p1 p2) (own_up (own_up (own_f1 ix (own_r1 p1)) iy (own_r1 p1)) iz (own_r1 p1)) (own_g3 (own_m p3) (own_m p4) (own_m p5)) (0 : Int32) iy 0 (own_up (own_up (own_up (own_f1 ix (own_r1 p1)) iy (own_r1 p1)) iz (own_r1 p1)) iy (own_r2 p1 p2)) (own_up (own_g3 (own_m p3) (own_m p4) (own_m p5)) 0 (own_m p4)) (1 : Int32) (1 : Int32) T19.heap n0 Z19 C19 (hiy) (liy) (rfl) (by decide) gl gu gw (fun q => absurd q (own_miss4 (y := p1) (z := p1) p1 p2)) (fun _ => ⟨rfl, rfl, rfl, rfl⟩)) hZ (hw _ (List.mem_of_getElem? (i := 20) rfl)) (hw _ (List.mem_of_getElem? (i := 4) rfl)) (by decide) (by decide)) q20a q20c (g := (mkF m 234 #[.val (.int p1), .val (.int p2), .val (.int p3), .val (.int p4), .val (.int p5), .val (.int (own_r1 p1)), .val (.int (own_r2 p1 p2)), .val (.int (own_m p3)), .val (.int (own_m p4)), .val (.int (own_m p5)), .val (.ref b11), .val (.int (1 : Int32)), .val (.int (own_e2 (own_m p3) (own_m p4))), .val (.int (own_e3 (own_m p3) (own_m p4) (own_m p5))), .val (.int (own_e2 (own_m p3) (own_m p4))), .val (.int (own_e3 (own_m p3) (own_m p4) (own_m p5))), .val (.int (own_es (own_e2 (own_m p3) (own_m p4)) (own_e3 (own_m p3) (own_m p4) (own_m p5)))), .val (.int (own_el (own_m p3) (own_m p4) (own_m p5) (own_e2 (own_m p3) (own_m p4)) (own_e3 (own_m p3) (own_m p4) (own_m p5)))), .val (.int (1 : Int32)), .unset, .unset] [(.int (own_r2 p1 p2)), (.int (own_m p4)), (.ref b11)])) rfl (by rw [hml]; rfl) (Steps.refl _) (argsL := [(.int (own_m p4)), (.int (own_r2 p1 p2))]) (rest := []) (lenOf own_pd_LIIRZ rfl) rfl (by show 2 * 0 + _ ≤ _; exact Nat.le_of_eq rfl) (hb hby at_234) (fun _ _ => ⟨rfl, rfl, (by decide : 3 + 0 ≤ _), (by decide : 11 + 0 ≤ _)⟩)
  dsimp only [Pt.U, Pt.locs, Pt.cells, Pt.slots] at X20 l20 y20 z20 st20 hQ20
  subst l20 y20 z20
  obtain ⟨rfl, N20q, K20, C20⟩ := hQ20
  have N20 := Fr.app N19 N20q
  have Z20 : n0 ≤ T20.heap.size := Nat.le_trans Z19 K20.1
  obtain ⟨cq21, kq21, q21a, q21b, q21c⟩ := isOf hZ rfl (show Exa Z T20.heap b11 "com/example/arbora/arbora/supertree/Changes" from C20.1)
  obtain ⟨_, _, ⟨T21, L21, k21, n21⟩, -, X21, ⟨Lc21, hQ21, l21, y21, z21⟩, st21⟩ := X20.virtualBack hx (y := (⟨"com/example/arbora/arbora/supertree/Changes", "size", "()I"⟩ : MethodName)) (z := (⟨"com/example/arbora/arbora/supertree/Changes", "size", "()I"⟩ : MethodName)) hown (mvT hZ (hw _ (List.mem_of_getElem? (i := 23) rfl))) (mvT hZ (hw _ (List.mem_of_getElem? (i := 24) rfl))) (notFace_of_selects (args := #[]) (mvT hZ (hw _ (List.mem_of_getElem? (i := 26) rfl)))) (mvT hZ (hw _ (List.mem_of_getElem? (i := 26) rfl))) (mvT hZ (hw _ (List.mem_of_getElem? (i := 25) rfl))) (by decide) (backOf (W := 0) (rm4 l Z a0 hw [] b11 u w (own_up (own_up (own_up (own_f1 ix (own_r1 p1)) iy (own_r1 p1)) iz (own_r1 p1)) iy (own_r2 p1 p2)) (own_up (own_g3 (own_m p3) (own_m p4) (own_m p5)) 0 (own_m p4)) (1 : Int32) T20.heap n0 Z20 C20) hZ (hw _ (List.mem_of_getElem? (i := 27) rfl)) (hw _ (List.mem_of_getElem? (i := 4) rfl)) (by decide) (by decide)) q21a q21c (g := (mkF m 246 #[.val (.int p1), .val (.int p2), .val (.int p3), .val (.int p4), .val (.int p5), .val (.int (own_r1 p1)), .val (.int (own_r2 p1 p2)), .val (.int (own_m p3)), .val (.int (own_m p4)), .val (.int (own_m p5)), .val (.ref b11), .val (.int (1 : Int32)), .val (.int (own_e2 (own_m p3) (own_m p4))), .val (.int (own_e3 (own_m p3) (own_m p4) (own_m p5))), .val (.int (own_e2 (own_m p3) (own_m p4))), .val (.int (own_e3 (own_m p3) (own_m p4) (own_m p5))), .val (.int (own_es (own_e2 (own_m p3) (own_m p4)) (own_e3 (own_m p3) (own_m p4) (own_m p5)))), .val (.int (own_el (own_m p3) (own_m p4) (own_m p5) (own_e2 (own_m p3) (own_m p4)) (own_e3 (own_m p3) (own_m p4) (own_m p5)))), .val (.int (1 : Int32)), .val (.int (1 : Int32)), .unset] [(.ref b11)])) rfl (by rw [hml]; rfl) (Steps.refl _) (argsL := []) (rest := []) (lenOf own_pd_LRI rfl) rfl (by show 2 * 0 + _ ≤ _; exact Nat.le_of_eq rfl) (hb hby at_246) (fun _ _ => ⟨rfl, rfl, (by decide : 3 + 0 ≤ _), (by decide : 11 + 0 ≤ _)⟩)
  dsimp only [Pt.U, Pt.locs, Pt.cells, Pt.slots] at X21 l21 y21 z21 st21 hQ21
  subst l21 y21 z21
  obtain ⟨rfl, N21q, hq21⟩ := hQ21
  have N21 := Fr.app N20 N21q
  have Z21 : n0 ≤ T21.heap.size := by rw [hq21]; exact Z20
  have C21 : own_C Z T21.heap b11 u w (own_up (own_up (own_up (own_f1 ix (own_r1 p1)) iy (own_r1 p1)) iz (own_r1 p1)) iy (own_r2 p1 p2)) (own_up (own_g3 (own_m p3) (own_m p4) (own_m p5)) 0 (own_m p4)) (1 : Int32) := by rw [hq21]; exact C20
  obtain ⟨cq22, kq22, q22a, q22b, q22c⟩ := isOf hZ rfl (show Exa Z T21.heap b11 "com/example/arbora/arbora/supertree/Changes" from C21.1)
  obtain ⟨_, _, ⟨T22, L22, k22, n22⟩, -, X22, ⟨Lc22, hQ22, l22, y22, z22⟩, st22⟩ := X21.virtualBack hx (y := (⟨"com/example/arbora/arbora/supertree/Changes", "get", "(I)I"⟩ : MethodName)) (z := (⟨"com/example/arbora/arbora/supertree/Changes", "get", "(I)I"⟩ : MethodName)) hown (mvT hZ (hw _ (List.mem_of_getElem? (i := 28) rfl))) (mvT hZ (hw _ (List.mem_of_getElem? (i := 29) rfl))) (notFace_of_selects (args := #[]) (mvT hZ (hw _ (List.mem_of_getElem? (i := 31) rfl)))) (mvT hZ (hw _ (List.mem_of_getElem? (i := 31) rfl))) (mvT hZ (hw _ (List.mem_of_getElem? (i := 30) rfl))) (by decide) (backOf (W := 0) (rm5 l Z a0 hw [] b11 u w (0 : Int32) (own_up (own_up (own_up (own_f1 ix (own_r1 p1)) iy (own_r1 p1)) iz (own_r1 p1)) iy (own_r2 p1 p2)) (own_up (own_g3 (own_m p3) (own_m p4) (own_m p5)) 0 (own_m p4)) (1 : Int32) 0 T21.heap n0 Z21 C21 rfl (by decide)) hZ (hw _ (List.mem_of_getElem? (i := 32) rfl)) (hw _ (List.mem_of_getElem? (i := 4) rfl)) (by decide) (by decide)) q22a q22c (g := (mkF m 256 #[.val (.int p1), .val (.int p2), .val (.int p3), .val (.int p4), .val (.int p5), .val (.int (own_r1 p1)), .val (.int (own_r2 p1 p2)), .val (.int (own_m p3)), .val (.int (own_m p4)), .val (.int (own_m p5)), .val (.ref b11), .val (.int (1 : Int32)), .val (.int (own_e2 (own_m p3) (own_m p4))), .val (.int (own_e3 (own_m p3) (own_m p4) (own_m p5))), .val (.int (own_e2 (own_m p3) (own_m p4))), .val (.int (own_e3 (own_m p3) (own_m p4) (own_m p5))), .val (.int (own_es (own_e2 (own_m p3) (own_m p4)) (own_e3 (own_m p3) (own_m p4) (own_m p5)))), .val (.int (own_el (own_m p3) (own_m p4) (own_m p5) (own_e2 (own_m p3) (own_m p4)) (own_e3 (own_m p3) (own_m p4) (own_m p5)))), .val (.int (1 : Int32)), .val (.int (1 : Int32)), .unset] [(.int (0 : Int32)), (.ref b11)])) rfl (by rw [hml]; rfl) (Steps.refl _) (argsL := [(.int (0 : Int32))]) (rest := []) (lenOf own_pd_LIRI rfl) rfl (by show 2 * 0 + _ ≤ _; exact Nat.le_of_eq rfl) (hb hby at_256) (fun _ _ => ⟨rfl, rfl, (by decide : 3 + 0 ≤ _), (by decide : 11 + 0 ≤ _)⟩)
  dsimp only [Pt.U, Pt.locs, Pt.cells, Pt.slots] at X22 l22 y22 z22 st22 hQ22
  subst l22 y22 z22
  obtain ⟨rfl, N22q, hq22⟩ := hQ22
  have N22 := Fr.app N21 N22q
  have Z22 : n0 ≤ T22.heap.size := by rw [hq22]; exact Z21
  obtain ⟨fs, hr, hrun, hended, hW, hsame⟩ := X22.leave (v := some (.int (1 : Int32))) (fun h => by rw [Bd.returns] at h; cases h)
  refine ⟨_, _, pre0 _ ?_, hrun, hended, _, _, rfl, ?_, ⟨_, rfl⟩, hW, hsame.mono (by decide) (by decide)⟩
  · show Steps p.tables e below (s₁.setTop (mkF m 0 #[.val (.int p1), .val (.int p2), .val (.int p3), .val (.int p4), .val (.int p5), .unset, .unset, .unset, .unset, .unset, .unset, .unset, .unset, .unset, .unset, .unset, .unset, .unset, .unset, .unset, .unset] [])) _
    refine XS.iloadN X0.here hx rfl (hb hby at_0) rfl ?_
    show Steps p.tables e below (s₁.setTop (mkF m 1 #[.val (.int p1), .val (.int p2), .val (.int p3), .val (.int p4), .val (.int p5), .unset, .unset, .unset, .unset, .unset, .unset, .unset, .unset, .unset, .unset, .unset, .unset, .unset, .unset, .unset, .unset] [(.int p1)])) _
    refine X0.ldcInt hx hown (mvT hZ (hw _ (List.mem_of_getElem? (i := 0) rfl))) (g := (mkF m 1 #[.val (.int p1), .val (.int p2), .val (.int p3), .val (.int p4), .val (.int p5), .unset, .unset, .unset, .unset, .unset, .unset, .unset, .unset, .unset, .unset, .unset, .unset, .unset, .unset, .unset, .unset] [(.int p1)])) rfl (hb hby at_1) _ ?_
    show Steps p.tables e below (s₁.setTop (mkF m 3 #[.val (.int p1), .val (.int p2), .val (.int p3), .val (.int p4), .val (.int p5), .unset, .unset, .unset, .unset, .unset, .unset, .unset, .unset, .unset, .unset, .unset, .unset, .unset, .unset, .unset, .unset] [(.int (1073741823 : Int32)), (.int p1)])) _
    refine XS.iand X0.here hx rfl (hb hby at_3) rfl ?_
    show Steps p.tables e below (s₁.setTop (mkF m 4 #[.val (.int p1), .val (.int p2), .val (.int p3), .val (.int p4), .val (.int p5), .unset, .unset, .unset, .unset, .unset, .unset, .unset, .unset, .unset, .unset, .unset, .unset, .unset, .unset, .unset, .unset] [(.int (p1 &&& (1073741823 : Int32)))])) _
    refine XS.iconst X0.here hx rfl (hb hby at_4) ?_
    show Steps p.tables e below (s₁.setTop (mkF m 5 #[.val (.int p1), .val (.int p2), .val (.int p3), .val (.int p4), .val (.int p5), .unset, .unset, .unset, .unset, .unset, .unset, .unset, .unset, .unset, .unset, .unset, .unset, .unset, .unset, .unset, .unset] [(.int (1 : Int32)), (.int (p1 &&& (1073741823 : Int32)))])) _
    refine XS.iadd X0.here hx rfl (hb hby at_5) rfl ?_
    show Steps p.tables e below (s₁.setTop (mkF m 6 #[.val (.int p1), .val (.int p2), .val (.int p3), .val (.int p4), .val (.int p5), .unset, .unset, .unset, .unset, .unset, .unset, .unset, .unset, .unset, .unset, .unset, .unset, .unset, .unset, .unset, .unset] [(.int ((p1 &&& (1073741823 : Int32)) + (1 : Int32)))])) _
    refine XS.istore X0.here hx rfl (hb hby at_6) rfl (l' := #[.val (.int p1), .val (.int p2), .val (.int p3), .val (.int p4), .val (.int p5), .val (.int ((p1 &&& (1073741823 : Int32)) + (1 : Int32))), .unset, .unset, .unset, .unset, .unset, .unset, .unset, .unset, .unset, .unset, .unset, .unset, .unset, .unset, .unset]) rfl ?_
    show Steps p.tables e below (s₁.setTop (mkF m 8 #[.val (.int p1), .val (.int p2), .val (.int p3), .val (.int p4), .val (.int p5), .val (.int (own_r1 p1)), .unset, .unset, .unset, .unset, .unset, .unset, .unset, .unset, .unset, .unset, .unset, .unset, .unset, .unset, .unset] [])) _
    refine XS.iload X0.here hx rfl (hb hby at_8) rfl ?_
    show Steps p.tables e below (s₁.setTop (mkF m 10 #[.val (.int p1), .val (.int p2), .val (.int p3), .val (.int p4), .val (.int p5), .val (.int (own_r1 p1)), .unset, .unset, .unset, .unset, .unset, .unset, .unset, .unset, .unset, .unset, .unset, .unset, .unset, .unset, .unset] [(.int (own_r1 p1))])) _
    refine XS.iconst X0.here hx rfl (hb hby at_10) ?_
    show Steps p.tables e below (s₁.setTop (mkF m 11 #[.val (.int p1), .val (.int p2), .val (.int p3), .val (.int p4), .val (.int p5), .val (.int (own_r1 p1)), .unset, .unset, .unset, .unset, .unset, .unset, .unset, .unset, .unset, .unset, .unset, .unset, .unset, .unset, .unset] [(.int (1 : Int32)), (.int (own_r1 p1))])) _
    refine XS.iadd X0.here hx rfl (hb hby at_11) rfl ?_
    show Steps p.tables e below (s₁.setTop (mkF m 12 #[.val (.int p1), .val (.int p2), .val (.int p3), .val (.int p4), .val (.int p5), .val (.int (own_r1 p1)), .unset, .unset, .unset, .unset, .unset, .unset, .unset, .unset, .unset, .unset, .unset, .unset, .unset, .unset, .unset] [(.int ((own_r1 p1) + (1 : Int32)))])) _
    refine XS.iloadN X0.here hx rfl (hb hby at_12) rfl ?_
    show Steps p.tables e below (s₁.setTop (mkF m 13 #[.val (.int p1), .val (.int p2), .val (.int p3), .val (.int p4), .val (.int p5), .val (.int (own_r1 p1)), .unset, .unset, .unset, .unset, .unset, .unset, .unset, .unset, .unset, .unset, .unset, .unset, .unset, .unset, .unset] [(.int p2), (.int ((own_r1 p1) + (1 : Int32)))])) _
    refine X0.ldcInt hx hown (mvT hZ (hw _ (List.mem_of_getElem? (i := 1) rfl))) (g := (mkF m 13 #[.val (.int p1), .val (.int p2), .val (.int p3), .val (.int p4), .val (.int p5), .val (.int (own_r1 p1)), .unset, .unset, .unset, .unset, .unset, .unset, .unset, .unset, .unset, .unset, .unset, .unset, .unset, .unset, .unset] [(.int p2), (.int ((own_r1 p1) + (1 : Int32)))])) rfl (hb hby at_13) _ ?_
    show Steps p.tables e below (s₁.setTop (mkF m 15 #[.val (.int p1), .val (.int p2), .val (.int p3), .val (.int p4), .val (.int p5), .val (.int (own_r1 p1)), .unset, .unset, .unset, .unset, .unset, .unset, .unset, .unset, .unset, .unset, .unset, .unset, .unset, .unset, .unset] [(.int (1073741822 : Int32)), (.int p2), (.int ((own_r1 p1) + (1 : Int32)))])) _
    refine XS.iand X0.here hx rfl (hb hby at_15) rfl ?_
    show Steps p.tables e below (s₁.setTop (mkF m 16 #[.val (.int p1), .val (.int p2), .val (.int p3), .val (.int p4), .val (.int p5), .val (.int (own_r1 p1)), .unset, .unset, .unset, .unset, .unset, .unset, .unset, .unset, .unset, .unset, .unset, .unset, .unset, .unset, .unset] [(.int (p2 &&& (1073741822 : Int32))), (.int ((own_r1 p1) + (1 : Int32)))])) _
    refine XS.iadd X0.here hx rfl (hb hby at_16) rfl ?_
    show Steps p.tables e below (s₁.setTop (mkF m 17 #[.val (.int p1), .val (.int p2), .val (.int p3), .val (.int p4), .val (.int p5), .val (.int (own_r1 p1)), .unset, .unset, .unset, .unset, .unset, .unset, .unset, .unset, .unset, .unset, .unset, .unset, .unset, .unset, .unset] [(.int (((own_r1 p1) + (1 : Int32)) + (p2 &&& (1073741822 : Int32))))])) _
    refine XS.istore X0.here hx rfl (hb hby at_17) rfl (l' := #[.val (.int p1), .val (.int p2), .val (.int p3), .val (.int p4), .val (.int p5), .val (.int (own_r1 p1)), .val (.int (((own_r1 p1) + (1 : Int32)) + (p2 &&& (1073741822 : Int32)))), .unset, .unset, .unset, .unset, .unset, .unset, .unset, .unset, .unset, .unset, .unset, .unset, .unset, .unset]) rfl ?_
    show Steps p.tables e below (s₁.setTop (mkF m 19 #[.val (.int p1), .val (.int p2), .val (.int p3), .val (.int p4), .val (.int p5), .val (.int (own_r1 p1)), .val (.int (own_r2 p1 p2)), .unset, .unset, .unset, .unset, .unset, .unset, .unset, .unset, .unset, .unset, .unset, .unset, .unset, .unset] [])) _
    refine XS.iloadN X0.here hx rfl (hb hby at_19) rfl ?_
    show Steps p.tables e below (s₁.setTop (mkF m 20 #[.val (.int p1), .val (.int p2), .val (.int p3), .val (.int p4), .val (.int p5), .val (.int (own_r1 p1)), .val (.int (own_r2 p1 p2)), .unset, .unset, .unset, .unset, .unset, .unset, .unset, .unset, .unset, .unset, .unset, .unset, .unset, .unset] [(.int p3)])) _
    refine XS.iconst X0.here hx rfl (hb hby at_20) ?_
    show Steps p.tables e below (s₁.setTop (mkF m 21 #[.val (.int p1), .val (.int p2), .val (.int p3), .val (.int p4), .val (.int p5), .val (.int (own_r1 p1)), .val (.int (own_r2 p1 p2)), .unset, .unset, .unset, .unset, .unset, .unset, .unset, .unset, .unset, .unset, .unset, .unset, .unset, .unset] [(.int (3 : Int32)), (.int p3)])) _
    refine XS.iand X0.here hx rfl (hb hby at_21) rfl ?_
    show Steps p.tables e below (s₁.setTop (mkF m 22 #[.val (.int p1), .val (.int p2), .val (.int p3), .val (.int p4), .val (.int p5), .val (.int (own_r1 p1)), .val (.int (own_r2 p1 p2)), .unset, .unset, .unset, .unset, .unset, .unset, .unset, .unset, .unset, .unset, .unset, .unset, .unset, .unset] [(.int (p3 &&& (3 : Int32)))])) _
    refine XS.istore X0.here hx rfl (hb hby at_22) rfl (l' := #[.val (.int p1), .val (.int p2), .val (.int p3), .val (.int p4), .val (.int p5), .val (.int (own_r1 p1)), .val (.int (own_r2 p1 p2)), .val (.int (p3 &&& (3 : Int32))), .unset, .unset, .unset, .unset, .unset, .unset, .unset, .unset, .unset, .unset, .unset, .unset, .unset]) rfl ?_
    show Steps p.tables e below (s₁.setTop (mkF m 24 #[.val (.int p1), .val (.int p2), .val (.int p3), .val (.int p4), .val (.int p5), .val (.int (own_r1 p1)), .val (.int (own_r2 p1 p2)), .val (.int (own_m p3)), .unset, .unset, .unset, .unset, .unset, .unset, .unset, .unset, .unset, .unset, .unset, .unset, .unset] [])) _
    refine XS.iloadN X0.here hx rfl (hb hby at_24) rfl ?_
    show Steps p.tables e below (s₁.setTop (mkF m 25 #[.val (.int p1), .val (.int p2), .val (.int p3), .val (.int p4), .val (.int p5), .val (.int (own_r1 p1)), .val (.int (own_r2 p1 p2)), .val (.int (own_m p3)), .unset, .unset, .unset, .unset, .unset, .unset, .unset, .unset, .unset, .unset, .unset, .unset, .unset] [(.int p4)])) _
    refine XS.iconst X0.here hx rfl (hb hby at_25) ?_
    show Steps p.tables e below (s₁.setTop (mkF m 26 #[.val (.int p1), .val (.int p2), .val (.int p3), .val (.int p4), .val (.int p5), .val (.int (own_r1 p1)), .val (.int (own_r2 p1 p2)), .val (.int (own_m p3)), .unset, .unset, .unset, .unset, .unset, .unset, .unset, .unset, .unset, .unset, .unset, .unset, .unset] [(.int (3 : Int32)), (.int p4)])) _
    refine XS.iand X0.here hx rfl (hb hby at_26) rfl ?_
    show Steps p.tables e below (s₁.setTop (mkF m 27 #[.val (.int p1), .val (.int p2), .val (.int p3), .val (.int p4), .val (.int p5), .val (.int (own_r1 p1)), .val (.int (own_r2 p1 p2)), .val (.int (own_m p3)), .unset, .unset, .unset, .unset, .unset, .unset, .unset, .unset, .unset, .unset, .unset, .unset, .unset] [(.int (p4 &&& (3 : Int32)))])) _
    refine XS.istore X0.here hx rfl (hb hby at_27) rfl (l' := #[.val (.int p1), .val (.int p2), .val (.int p3), .val (.int p4), .val (.int p5), .val (.int (own_r1 p1)), .val (.int (own_r2 p1 p2)), .val (.int (own_m p3)), .val (.int (p4 &&& (3 : Int32))), .unset, .unset, .unset, .unset, .unset, .unset, .unset, .unset, .unset, .unset, .unset, .unset]) rfl ?_
    show Steps p.tables e below (s₁.setTop (mkF m 29 #[.val (.int p1), .val (.int p2), .val (.int p3), .val (.int p4), .val (.int p5), .val (.int (own_r1 p1)), .val (.int (own_r2 p1 p2)), .val (.int (own_m p3)), .val (.int (own_m p4)), .unset, .unset, .unset, .unset, .unset, .unset, .unset, .unset, .unset, .unset, .unset, .unset] [])) _
    refine XS.iload X0.here hx rfl (hb hby at_29) rfl ?_
    show Steps p.tables e below (s₁.setTop (mkF m 31 #[.val (.int p1), .val (.int p2), .val (.int p3), .val (.int p4), .val (.int p5), .val (.int (own_r1 p1)), .val (.int (own_r2 p1 p2)), .val (.int (own_m p3)), .val (.int (own_m p4)), .unset, .unset, .unset, .unset, .unset, .unset, .unset, .unset, .unset, .unset, .unset, .unset] [(.int p5)])) _
    refine XS.iconst X0.here hx rfl (hb hby at_31) ?_
    show Steps p.tables e below (s₁.setTop (mkF m 32 #[.val (.int p1), .val (.int p2), .val (.int p3), .val (.int p4), .val (.int p5), .val (.int (own_r1 p1)), .val (.int (own_r2 p1 p2)), .val (.int (own_m p3)), .val (.int (own_m p4)), .unset, .unset, .unset, .unset, .unset, .unset, .unset, .unset, .unset, .unset, .unset, .unset] [(.int (3 : Int32)), (.int p5)])) _
    refine XS.iand X0.here hx rfl (hb hby at_32) rfl ?_
    show Steps p.tables e below (s₁.setTop (mkF m 33 #[.val (.int p1), .val (.int p2), .val (.int p3), .val (.int p4), .val (.int p5), .val (.int (own_r1 p1)), .val (.int (own_r2 p1 p2)), .val (.int (own_m p3)), .val (.int (own_m p4)), .unset, .unset, .unset, .unset, .unset, .unset, .unset, .unset, .unset, .unset, .unset, .unset] [(.int (p5 &&& (3 : Int32)))])) _
    refine XS.istore X0.here hx rfl (hb hby at_33) rfl (l' := #[.val (.int p1), .val (.int p2), .val (.int p3), .val (.int p4), .val (.int p5), .val (.int (own_r1 p1)), .val (.int (own_r2 p1 p2)), .val (.int (own_m p3)), .val (.int (own_m p4)), .val (.int (p5 &&& (3 : Int32))), .unset, .unset, .unset, .unset, .unset, .unset, .unset, .unset, .unset, .unset, .unset]) rfl ?_
    show Steps p.tables e below (s₁.setTop (mkF m 35 #[.val (.int p1), .val (.int p2), .val (.int p3), .val (.int p4), .val (.int p5), .val (.int (own_r1 p1)), .val (.int (own_r2 p1 p2)), .val (.int (own_m p3)), .val (.int (own_m p4)), .val (.int (own_m p5)), .unset, .unset, .unset, .unset, .unset, .unset, .unset, .unset, .unset, .unset, .unset] [])) _
    refine st11 _ ?_
    show Steps p.tables e below (T11.setTop (mkF m 38 #[.val (.int p1), .val (.int p2), .val (.int p3), .val (.int p4), .val (.int p5), .val (.int (own_r1 p1)), .val (.int (own_r2 p1 p2)), .val (.int (own_m p3)), .val (.int (own_m p4)), .val (.int (own_m p5)), .unset, .unset, .unset, .unset, .unset, .unset, .unset, .unset, .unset, .unset, .unset] [(.ref b11)])) _
    refine XS.dup X11.here hx rfl (hb hby at_38) rfl rfl ?_
    show Steps p.tables e below (T11.setTop (mkF m 39 #[.val (.int p1), .val (.int p2), .val (.int p3), .val (.int p4), .val (.int p5), .val (.int (own_r1 p1)), .val (.int (own_r2 p1 p2)), .val (.int (own_m p3)), .val (.int (own_m p4)), .val (.int (own_m p5)), .unset, .unset, .unset, .unset, .unset, .unset, .unset, .unset, .unset, .unset, .unset] [(.ref b11), (.ref b11)])) _
    refine XS.iconst X11.here hx rfl (hb hby at_39) ?_
    show Steps p.tables e below (T11.setTop (mkF m 40 #[.val (.int p1), .val (.int p2), .val (.int p3), .val (.int p4), .val (.int p5), .val (.int (own_r1 p1)), .val (.int (own_r2 p1 p2)), .val (.int (own_m p3)), .val (.int (own_m p4)), .val (.int (own_m p5)), .unset, .unset, .unset, .unset, .unset, .unset, .unset, .unset, .unset, .unset, .unset] [(.int (4 : Int32)), (.ref b11), (.ref b11)])) _
    refine st12.trans ?_
    show Steps p.tables e below (T12.setTop (mkF m 43 #[.val (.int p1), .val (.int p2), .val (.int p3), .val (.int p4), .val (.int p5), .val (.int (own_r1 p1)), .val (.int (own_r2 p1 p2)), .val (.int (own_m p3)), .val (.int (own_m p4)), .val (.int (own_m p5)), .unset, .unset, .unset, .unset, .unset, .unset, .unset, .unset, .unset, .unset, .unset] [(.ref b11)])) _
    refine XS.astore X12.here hx rfl (hb hby at_43) rfl rfl (l' := #[.val (.int p1), .val (.int p2), .val (.int p3), .val (.int p4), .val (.int p5), .val (.int (own_r1 p1)), .val (.int (own_r2 p1 p2)), .val (.int (own_m p3)), .val (.int (own_m p4)), .val (.int (own_m p5)), .val (.ref b11), .unset, .unset, .unset, .unset, .unset, .unset, .unset, .unset, .unset, .unset]) rfl ?_
    show Steps p.tables e below (T12.setTop (mkF m 45 #[.val (.int p1), .val (.int p2), .val (.int p3), .val (.int p4), .val (.int p5), .val (.int (own_r1 p1)), .val (.int (own_r2 p1 p2)), .val (.int (own_m p3)), .val (.int (own_m p4)), .val (.int (own_m p5)), .val (.ref b11), .unset, .unset, .unset, .unset, .unset, .unset, .unset, .unset, .unset, .unset] [])) _
    refine XS.aload X12.here hx rfl (hb hby at_45) rfl rfl ?_
    show Steps p.tables e below (T12.setTop (mkF m 47 #[.val (.int p1), .val (.int p2), .val (.int p3), .val (.int p4), .val (.int p5), .val (.int (own_r1 p1)), .val (.int (own_r2 p1 p2)), .val (.int (own_m p3)), .val (.int (own_m p4)), .val (.int (own_m p5)), .val (.ref b11), .unset, .unset, .unset, .unset, .unset, .unset, .unset, .unset, .unset, .unset] [(.ref b11)])) _
    refine XS.iload X12.here hx rfl (hb hby at_47) rfl ?_
    show Steps p.tables e below (T12.setTop (mkF m 49 #[.val (.int p1), .val (.int p2), .val (.int p3), .val (.int p4), .val (.int p5), .val (.int (own_r1 p1)), .val (.int (own_r2 p1 p2)), .val (.int (own_m p3)), .val (.int (own_m p4)), .val (.int (own_m p5)), .val (.ref b11), .unset, .unset, .unset, .unset, .unset, .unset, .unset, .unset, .unset, .unset] [(.int (own_m p3)), (.ref b11)])) _
    refine XS.iload X12.here hx rfl (hb hby at_49) rfl ?_
    show Steps p.tables e below (T12.setTop (mkF m 51 #[.val (.int p1), .val (.int p2), .val (.int p3), .val (.int p4), .val (.int p5), .val (.int (own_r1 p1)), .val (.int (own_r2 p1 p2)), .val (.int (own_m p3)), .val (.int (own_m p4)), .val (.int (own_m p5)), .val (.ref b11), .unset, .unset, .unset, .unset, .unset, .unset, .unset, .unset, .unset, .unset] [(.int (own_r1 p1)), (.int (own_m p3)), (.ref b11)])) _
    refine st13.trans ?_
    show Steps p.tables e below (T13.setTop (mkF m 54 #[.val (.int p1), .val (.int p2), .val (.int p3), .val (.int p4), .val (.int p5), .val (.int (own_r1 p1)), .val (.int (own_r2 p1 p2)), .val (.int (own_m p3)), .val (.int (own_m p4)), .val (.int (own_m p5)), .val (.ref b11), .unset, .unset, .unset, .unset, .unset, .unset, .unset, .unset, .unset, .unset] [(.int (1 : Int32))])) _
    refine XS.istore X13.here hx rfl (hb hby at_54) rfl (l' := #[.val (.int p1), .val (.int p2), .val (.int p3), .val (.int p4), .val (.int p5), .val (.int (own_r1 p1)), .val (.int (own_r2 p1 p2)), .val (.int (own_m p3)), .val (.int (own_m p4)), .val (.int (own_m p5)), .val (.ref b11), .val (.int (1 : Int32)), .unset, .unset, .unset, .unset, .unset, .unset, .unset, .unset, .unset]) rfl ?_
    show Steps p.tables e below (T13.setTop (mkF m 56 #[.val (.int p1), .val (.int p2), .val (.int p3), .val (.int p4), .val (.int p5), .val (.int (own_r1 p1)), .val (.int (own_r2 p1 p2)), .val (.int (own_m p3)), .val (.int (own_m p4)), .val (.int (own_m p5)), .val (.ref b11), .val (.int (1 : Int32)), .unset, .unset, .unset, .unset, .unset, .unset, .unset, .unset, .unset] [])) _
    refine XS.aload X13.here hx rfl (hb hby at_56) rfl rfl ?_
    show Steps p.tables e below (T13.setTop (mkF m 58 #[.val (.int p1), .val (.int p2), .val (.int p3), .val (.int p4), .val (.int p5), .val (.int (own_r1 p1)), .val (.int (own_r2 p1 p2)), .val (.int (own_m p3)), .val (.int (own_m p4)), .val (.int (own_m p5)), .val (.ref b11), .val (.int (1 : Int32)), .unset, .unset, .unset, .unset, .unset, .unset, .unset, .unset, .unset] [(.ref b11)])) _
    refine XS.iload X13.here hx rfl (hb hby at_58) rfl ?_
    show Steps p.tables e below (T13.setTop (mkF m 60 #[.val (.int p1), .val (.int p2), .val (.int p3), .val (.int p4), .val (.int p5), .val (.int (own_r1 p1)), .val (.int (own_r2 p1 p2)), .val (.int (own_m p3)), .val (.int (own_m p4)), .val (.int (own_m p5)), .val (.ref b11), .val (.int (1 : Int32)), .unset, .unset, .unset, .unset, .unset, .unset, .unset, .unset, .unset] [(.int (own_m p4)), (.ref b11)])) _
    refine XS.iload X13.here hx rfl (hb hby at_60) rfl ?_
    show Steps p.tables e below (T13.setTop (mkF m 62 #[.val (.int p1), .val (.int p2), .val (.int p3), .val (.int p4), .val (.int p5), .val (.int (own_r1 p1)), .val (.int (own_r2 p1 p2)), .val (.int (own_m p3)), .val (.int (own_m p4)), .val (.int (own_m p5)), .val (.ref b11), .val (.int (1 : Int32)), .unset, .unset, .unset, .unset, .unset, .unset, .unset, .unset, .unset] [(.int (own_r1 p1)), (.int (own_m p4)), (.ref b11)])) _
    refine st14.trans ?_
    show Steps p.tables e below (T14.setTop (mkF m 65 #[.val (.int p1), .val (.int p2), .val (.int p3), .val (.int p4), .val (.int p5), .val (.int (own_r1 p1)), .val (.int (own_r2 p1 p2)), .val (.int (own_m p3)), .val (.int (own_m p4)), .val (.int (own_m p5)), .val (.ref b11), .val (.int (1 : Int32)), .unset, .unset, .unset, .unset, .unset, .unset, .unset, .unset, .unset] [(.int (own_e2 (own_m p3) (own_m p4)))])) _
    refine XS.istore X14.here hx rfl (hb hby at_65) rfl (l' := #[.val (.int p1), .val (.int p2), .val (.int p3), .val (.int p4), .val (.int p5), .val (.int (own_r1 p1)), .val (.int (own_r2 p1 p2)), .val (.int (own_m p3)), .val (.int (own_m p4)), .val (.int (own_m p5)), .val (.ref b11), .val (.int (1 : Int32)), .val (.int (own_e2 (own_m p3) (own_m p4))), .unset, .unset, .unset, .unset, .unset, .unset, .unset, .unset]) rfl ?_
    show Steps p.tables e below (T14.setTop (mkF m 67 #[.val (.int p1), .val (.int p2), .val (.int p3), .val (.int p4), .val (.int p5), .val (.int (own_r1 p1)), .val (.int (own_r2 p1 p2)), .val (.int (own_m p3)), .val (.int (own_m p4)), .val (.int (own_m p5)), .val (.ref b11), .val (.int (1 : Int32)), .val (.int (own_e2 (own_m p3) (own_m p4))), .unset, .unset, .unset, .unset, .unset, .unset, .unset, .unset] [])) _
    refine XS.aload X14.here hx rfl (hb hby at_67) rfl rfl ?_
    show Steps p.tables e below (T14.setTop (mkF m 69 #[.val (.int p1), .val (.int p2), .val (.int p3), .val (.int p4), .val (.int p5), .val (.int (own_r1 p1)), .val (.int (own_r2 p1 p2)), .val (.int (own_m p3)), .val (.int (own_m p4)), .val (.int (own_m p5)), .val (.ref b11), .val (.int (1 : Int32)), .val (.int (own_e2 (own_m p3) (own_m p4))), .unset, .unset, .unset, .unset, .unset, .unset, .unset, .unset] [(.ref b11)])) _
    refine XS.iload X14.here hx rfl (hb hby at_69) rfl ?_
    show Steps p.tables e below (T14.setTop (mkF m 71 #[.val (.int p1), .val (.int p2), .val (.int p3), .val (.int p4), .val (.int p5), .val (.int (own_r1 p1)), .val (.int (own_r2 p1 p2)), .val (.int (own_m p3)), .val (.int (own_m p4)), .val (.int (own_m p5)), .val (.ref b11), .val (.int (1 : Int32)), .val (.int (own_e2 (own_m p3) (own_m p4))), .unset, .unset, .unset, .unset, .unset, .unset, .unset, .unset] [(.int (own_m p5)), (.ref b11)])) _
    refine XS.iload X14.here hx rfl (hb hby at_71) rfl ?_
    show Steps p.tables e below (T14.setTop (mkF m 73 #[.val (.int p1), .val (.int p2), .val (.int p3), .val (.int p4), .val (.int p5), .val (.int (own_r1 p1)), .val (.int (own_r2 p1 p2)), .val (.int (own_m p3)), .val (.int (own_m p4)), .val (.int (own_m p5)), .val (.ref b11), .val (.int (1 : Int32)), .val (.int (own_e2 (own_m p3) (own_m p4))), .unset, .unset, .unset, .unset, .unset, .unset, .unset, .unset] [(.int (own_r1 p1)), (.int (own_m p5)), (.ref b11)])) _
    refine st15.trans ?_
    show Steps p.tables e below (T15.setTop (mkF m 76 #[.val (.int p1), .val (.int p2), .val (.int p3), .val (.int p4), .val (.int p5), .val (.int (own_r1 p1)), .val (.int (own_r2 p1 p2)), .val (.int (own_m p3)), .val (.int (own_m p4)), .val (.int (own_m p5)), .val (.ref b11), .val (.int (1 : Int32)), .val (.int (own_e2 (own_m p3) (own_m p4))), .unset, .unset, .unset, .unset, .unset, .unset, .unset, .unset] [(.int (own_e3 (own_m p3) (own_m p4) (own_m p5)))])) _
    refine XS.istore X15.here hx rfl (hb hby at_76) rfl (l' := #[.val (.int p1), .val (.int p2), .val (.int p3), .val (.int p4), .val (.int p5), .val (.int (own_r1 p1)), .val (.int (own_r2 p1 p2)), .val (.int (own_m p3)), .val (.int (own_m p4)), .val (.int (own_m p5)), .val (.ref b11), .val (.int (1 : Int32)), .val (.int (own_e2 (own_m p3) (own_m p4))), .val (.int (own_e3 (own_m p3) (own_m p4) (own_m p5))), .unset, .unset, .unset, .unset, .unset, .unset, .unset]) rfl ?_
    show Steps p.tables e below (T15.setTop (mkF m 78 #[.val (.int p1), .val (.int p2), .val (.int p3), .val (.int p4), .val (.int p5), .val (.int (own_r1 p1)), .val (.int (own_r2 p1 p2)), .val (.int (own_m p3)), .val (.int (own_m p4)), .val (.int (own_m p5)), .val (.ref b11), .val (.int (1 : Int32)), .val (.int (own_e2 (own_m p3) (own_m p4))), .val (.int (own_e3 (own_m p3) (own_m p4) (own_m p5))), .unset, .unset, .unset, .unset, .unset, .unset, .unset] [])) _
    refine tn0_78_92 X15 hx hZ hw hby hown _ ?_
    show Steps p.tables e below (T15.setTop (mkF m 92 #[.val (.int p1), .val (.int p2), .val (.int p3), .val (.int p4), .val (.int p5), .val (.int (own_r1 p1)), .val (.int (own_r2 p1 p2)), .val (.int (own_m p3)), .val (.int (own_m p4)), .val (.int (own_m p5)), .val (.ref b11), .val (.int (1 : Int32)), .val (.int (own_e2 (own_m p3) (own_m p4))), .val (.int (own_e3 (own_m p3) (own_m p4) (own_m p5))), .val (.int (own_e2 (own_m p3) (own_m p4))), .unset, .unset, .unset, .unset, .unset, .unset] [])) _
    refine tn0_92_113 X15 hx hZ hw hby hown _ ?_
    show Steps p.tables e below (T15.setTop (mkF m 113 #[.val (.int p1), .val (.int p2), .val (.int p3), .val (.int p4), .val (.int p5), .val (.int (own_r1 p1)), .val (.int (own_r2 p1 p2)), .val (.int (own_m p3)), .val (.int (own_m p4)), .val (.int (own_m p5)), .val (.ref b11), .val (.int (1 : Int32)), .val (.int (own_e2 (own_m p3) (own_m p4))), .val (.int (own_e3 (own_m p3) (own_m p4) (own_m p5))), .val (.int (own_e2 (own_m p3) (own_m p4))), .val (.int (own_e3 (own_m p3) (own_m p4) (own_m p5))), .unset, .unset, .unset, .unset, .unset] [])) _
    refine tn0_113_138 X15 hx hZ hw hby hown _ ?_
    show Steps p.tables e below (T15.setTop (mkF m 138 #[.val (.int p1), .val (.int p2), .val (.int p3), .val (.int p4), .val (.int p5), .val (.int (own_r1 p1)), .val (.int (own_r2 p1 p2)), .val (.int (own_m p3)), .val (.int (own_m p4)), .val (.int (own_m p5)), .val (.ref b11), .val (.int (1 : Int32)), .val (.int (own_e2 (own_m p3) (own_m p4))), .val (.int (own_e3 (own_m p3) (own_m p4) (own_m p5))), .val (.int (own_e2 (own_m p3) (own_m p4))), .val (.int (own_e3 (own_m p3) (own_m p4) (own_m p5))), .val (.int (own_es (own_e2 (own_m p3) (own_m p4)) (own_e3 (own_m p3) (own_m p4) (own_m p5)))), .unset, .unset, .unset, .unset] [])) _
    refine tn0_138_162 X15 hx hZ hw hby hown _ ?_
    show Steps p.tables e below (T15.setTop (mkF m 162 #[.val (.int p1), .val (.int p2), .val (.int p3), .val (.int p4), .val (.int p5), .val (.int (own_r1 p1)), .val (.int (own_r2 p1 p2)), .val (.int (own_m p3)), .val (.int (own_m p4)), .val (.int (own_m p5)), .val (.ref b11), .val (.int (1 : Int32)), .val (.int (own_e2 (own_m p3) (own_m p4))), .val (.int (own_e3 (own_m p3) (own_m p4) (own_m p5))), .val (.int (own_e2 (own_m p3) (own_m p4))), .val (.int (own_e3 (own_m p3) (own_m p4) (own_m p5))), .val (.int (own_es (own_e2 (own_m p3) (own_m p4)) (own_e3 (own_m p3) (own_m p4) (own_m p5)))), .val (.int (own_el (own_m p3) (own_m p4) (own_m p5) (own_e2 (own_m p3) (own_m p4)) (own_e3 (own_m p3) (own_m p4) (own_m p5)))), .unset, .unset, .unset] [])) _
    refine XS.iload X15.here hx rfl (hb hby at_162) rfl ?_
    show Steps p.tables e below (T15.setTop (mkF m 164 #[.val (.int p1), .val (.int p2), .val (.int p3), .val (.int p4), .val (.int p5), .val (.int (own_r1 p1)), .val (.int (own_r2 p1 p2)), .val (.int (own_m p3)), .val (.int (own_m p4)), .val (.int (own_m p5)), .val (.ref b11), .val (.int (1 : Int32)), .val (.int (own_e2 (own_m p3) (own_m p4))), .val (.int (own_e3 (own_m p3) (own_m p4) (own_m p5))), .val (.int (own_e2 (own_m p3) (own_m p4))), .val (.int (own_e3 (own_m p3) (own_m p4) (own_m p5))), .val (.int (own_es (own_e2 (own_m p3) (own_m p4)) (own_e3 (own_m p3) (own_m p4) (own_m p5)))), .val (.int (own_el (own_m p3) (own_m p4) (own_m p5) (own_e2 (own_m p3) (own_m p4)) (own_e3 (own_m p3) (own_m p4) (own_m p5)))), .unset, .unset, .unset] [(.int (1 : Int32))])) _
    refine XS.ifNo X15.here hx rfl (hb hby at_164) rfl ((if0 _ _).trans (feq (own_one_ne : ¬ ((1 : Int32) = (0 : Int32)))).1) ?_
    show Steps p.tables e below (T15.setTop (mkF m 167 #[.val (.int p1), .val (.int p2), .val (.int p3), .val (.int p4), .val (.int p5), .val (.int (own_r1 p1)), .val (.int (own_r2 p1 p2)), .val (.int (own_m p3)), .val (.int (own_m p4)), .val (.int (own_m p5)), .val (.ref b11), .val (.int (1 : Int32)), .val (.int (own_e2 (own_m p3) (own_m p4))), .val (.int (own_e3 (own_m p3) (own_m p4) (own_m p5))), .val (.int (own_e2 (own_m p3) (own_m p4))), .val (.int (own_e3 (own_m p3) (own_m p4) (own_m p5))), .val (.int (own_es (own_e2 (own_m p3) (own_m p4)) (own_e3 (own_m p3) (own_m p4) (own_m p5)))), .val (.int (own_el (own_m p3) (own_m p4) (own_m p5) (own_e2 (own_m p3) (own_m p4)) (own_e3 (own_m p3) (own_m p4) (own_m p5)))), .unset, .unset, .unset] [])) _
    refine XS.iload X15.here hx rfl (hb hby at_167) rfl ?_
    show Steps p.tables e below (T15.setTop (mkF m 169 #[.val (.int p1), .val (.int p2), .val (.int p3), .val (.int p4), .val (.int p5), .val (.int (own_r1 p1)), .val (.int (own_r2 p1 p2)), .val (.int (own_m p3)), .val (.int (own_m p4)), .val (.int (own_m p5)), .val (.ref b11), .val (.int (1 : Int32)), .val (.int (own_e2 (own_m p3) (own_m p4))), .val (.int (own_e3 (own_m p3) (own_m p4) (own_m p5))), .val (.int (own_e2 (own_m p3) (own_m p4))), .val (.int (own_e3 (own_m p3) (own_m p4) (own_m p5))), .val (.int (own_es (own_e2 (own_m p3) (own_m p4)) (own_e3 (own_m p3) (own_m p4) (own_m p5)))), .val (.int (own_el (own_m p3) (own_m p4) (own_m p5) (own_e2 (own_m p3) (own_m p4)) (own_e3 (own_m p3) (own_m p4) (own_m p5)))), .unset, .unset, .unset] [(.int (own_e2 (own_m p3) (own_m p4)))])) _
    refine XS.iload X15.here hx rfl (hb hby at_169) rfl ?_
    show Steps p.tables e below (T15.setTop (mkF m 171 #[.val (.int p1), .val (.int p2), .val (.int p3), .val (.int p4), .val (.int p5), .val (.int (own_r1 p1)), .val (.int (own_r2 p1 p2)), .val (.int (own_m p3)), .val (.int (own_m p4)), .val (.int (own_m p5)), .val (.ref b11), .val (.int (1 : Int32)), .val (.int (own_e2 (own_m p3) (own_m p4))), .val (.int (own_e3 (own_m p3) (own_m p4) (own_m p5))), .val (.int (own_e2 (own_m p3) (own_m p4))), .val (.int (own_e3 (own_m p3) (own_m p4) (own_m p5))), .val (.int (own_es (own_e2 (own_m p3) (own_m p4)) (own_e3 (own_m p3) (own_m p4) (own_m p5)))), .val (.int (own_el (own_m p3) (own_m p4) (own_m p5) (own_e2 (own_m p3) (own_m p4)) (own_e3 (own_m p3) (own_m p4) (own_m p5)))), .unset, .unset, .unset] [(.int (own_e2 (own_m p3) (own_m p4))), (.int (own_e2 (own_m p3) (own_m p4)))])) _
    refine XS.icmpNo X15.here hx rfl (hb hby at_171) rfl (teq (rfl : (own_e2 (own_m p3) (own_m p4)) = (own_e2 (own_m p3) (own_m p4)))).2 ?_
    show Steps p.tables e below (T15.setTop (mkF m 174 #[.val (.int p1), .val (.int p2), .val (.int p3), .val (.int p4), .val (.int p5), .val (.int (own_r1 p1)), .val (.int (own_r2 p1 p2)), .val (.int (own_m p3)), .val (.int (own_m p4)), .val (.int (own_m p5)), .val (.ref b11), .val (.int (1 : Int32)), .val (.int (own_e2 (own_m p3) (own_m p4))), .val (.int (own_e3 (own_m p3) (own_m p4) (own_m p5))), .val (.int (own_e2 (own_m p3) (own_m p4))), .val (.int (own_e3 (own_m p3) (own_m p4) (own_m p5))), .val (.int (own_es (own_e2 (own_m p3) (own_m p4)) (own_e3 (own_m p3) (own_m p4) (own_m p5)))), .val (.int (own_el (own_m p3) (own_m p4) (own_m p5) (own_e2 (own_m p3) (own_m p4)) (own_e3 (own_m p3) (own_m p4) (own_m p5)))), .unset, .unset, .unset] [])) _
    refine XS.iload X15.here hx rfl (hb hby at_174) rfl ?_
    show Steps p.tables e below (T15.setTop (mkF m 176 #[.val (.int p1), .val (.int p2), .val (.int p3), .val (.int p4), .val (.int p5), .val (.int (own_r1 p1)), .val (.int (own_r2 p1 p2)), .val (.int (own_m p3)), .val (.int (own_m p4)), .val (.int (own_m p5)), .val (.ref b11), .val (.int (1 : Int32)), .val (.int (own_e2 (own_m p3) (own_m p4))), .val (.int (own_e3 (own_m p3) (own_m p4) (own_m p5))), .val (.int (own_e2 (own_m p3) (own_m p4))), .val (.int (own_e3 (own_m p3) (own_m p4) (own_m p5))), .val (.int (own_es (own_e2 (own_m p3) (own_m p4)) (own_e3 (own_m p3) (own_m p4) (own_m p5)))), .val (.int (own_el (own_m p3) (own_m p4) (own_m p5) (own_e2 (own_m p3) (own_m p4)) (own_e3 (own_m p3) (own_m p4) (own_m p5)))), .unset, .unset, .unset] [(.int (own_e3 (own_m p3) (own_m p4) (own_m p5)))])) _
    refine XS.iload X15.here hx rfl (hb hby at_176) rfl ?_
    show Steps p.tables e below (T15.setTop (mkF m 178 #[.val (.int p1), .val (.int p2), .val (.int p3), .val (.int p4), .val (.int p5), .val (.int (own_r1 p1)), .val (.int (own_r2 p1 p2)), .val (.int (own_m p3)), .val (.int (own_m p4)), .val (.int (own_m p5)), .val (.ref b11), .val (.int (1 : Int32)), .val (.int (own_e2 (own_m p3) (own_m p4))), .val (.int (own_e3 (own_m p3) (own_m p4) (own_m p5))), .val (.int (own_e2 (own_m p3) (own_m p4))), .val (.int (own_e3 (own_m p3) (own_m p4) (own_m p5))), .val (.int (own_es (own_e2 (own_m p3) (own_m p4)) (own_e3 (own_m p3) (own_m p4) (own_m p5)))), .val (.int (own_el (own_m p3) (own_m p4) (own_m p5) (own_e2 (own_m p3) (own_m p4)) (own_e3 (own_m p3) (own_m p4) (own_m p5)))), .unset, .unset, .unset] [(.int (own_e3 (own_m p3) (own_m p4) (own_m p5))), (.int (own_e3 (own_m p3) (own_m p4) (own_m p5)))])) _
    refine XS.icmpNo X15.here hx rfl (hb hby at_178) rfl (teq (rfl : (own_e3 (own_m p3) (own_m p4) (own_m p5)) = (own_e3 (own_m p3) (own_m p4) (own_m p5)))).2 ?_
    show Steps p.tables e below (T15.setTop (mkF m 181 #[.val (.int p1), .val (.int p2), .val (.int p3), .val (.int p4), .val (.int p5), .val (.int (own_r1 p1)), .val (.int (own_r2 p1 p2)), .val (.int (own_m p3)), .val (.int (own_m p4)), .val (.int (own_m p5)), .val (.ref b11), .val (.int (1 : Int32)), .val (.int (own_e2 (own_m p3) (own_m p4))), .val (.int (own_e3 (own_m p3) (own_m p4) (own_m p5))), .val (.int (own_e2 (own_m p3) (own_m p4))), .val (.int (own_e3 (own_m p3) (own_m p4) (own_m p5))), .val (.int (own_es (own_e2 (own_m p3) (own_m p4)) (own_e3 (own_m p3) (own_m p4) (own_m p5)))), .val (.int (own_el (own_m p3) (own_m p4) (own_m p5) (own_e2 (own_m p3) (own_m p4)) (own_e3 (own_m p3) (own_m p4) (own_m p5)))), .unset, .unset, .unset] [])) _
    refine XS.aload X15.here hx rfl (hb hby at_181) rfl rfl ?_
    show Steps p.tables e below (T15.setTop (mkF m 183 #[.val (.int p1), .val (.int p2), .val (.int p3), .val (.int p4), .val (.int p5), .val (.int (own_r1 p1)), .val (.int (own_r2 p1 p2)), .val (.int (own_m p3)), .val (.int (own_m p4)), .val (.int (own_m p5)), .val (.ref b11), .val (.int (1 : Int32)), .val (.int (own_e2 (own_m p3) (own_m p4))), .val (.int (own_e3 (own_m p3) (own_m p4) (own_m p5))), .val (.int (own_e2 (own_m p3) (own_m p4))), .val (.int (own_e3 (own_m p3) (own_m p4) (own_m p5))), .val (.int (own_es (own_e2 (own_m p3) (own_m p4)) (own_e3 (own_m p3) (own_m p4) (own_m p5)))), .val (.int (own_el (own_m p3) (own_m p4) (own_m p5) (own_e2 (own_m p3) (own_m p4)) (own_e3 (own_m p3) (own_m p4) (own_m p5)))), .unset, .unset, .unset] [(.ref b11)])) _
    refine st16.trans ?_
    show Steps p.tables e below (T16.setTop (mkF m 186 #[.val (.int p1), .val (.int p2), .val (.int p3), .val (.int p4), .val (.int p5), .val (.int (own_r1 p1)), .val (.int (own_r2 p1 p2)), .val (.int (own_m p3)), .val (.int (own_m p4)), .val (.int (own_m p5)), .val (.ref b11), .val (.int (1 : Int32)), .val (.int (own_e2 (own_m p3) (own_m p4))), .val (.int (own_e3 (own_m p3) (own_m p4) (own_m p5))), .val (.int (own_e2 (own_m p3) (own_m p4))), .val (.int (own_e3 (own_m p3) (own_m p4) (own_m p5))), .val (.int (own_es (own_e2 (own_m p3) (own_m p4)) (own_e3 (own_m p3) (own_m p4) (own_m p5)))), .val (.int (own_el (own_m p3) (own_m p4) (own_m p5) (own_e2 (own_m p3) (own_m p4)) (own_e3 (own_m p3) (own_m p4) (own_m p5)))), .unset, .unset, .unset] [(.int (own_n3 (own_m p3) (own_m p4) (own_m p5)))])) _
    refine XS.iload X16.here hx rfl (hb hby at_186) rfl ?_
    show Steps p.tables e below (T16.setTop (mkF m 188 #[.val (.int p1), .val (.int p2), .val (.int p3), .val (.int p4), .val (.int p5), .val (.int (own_r1 p1)), .val (.int (own_r2 p1 p2)), .val (.int (own_m p3)), .val (.int (own_m p4)), .val (.int (own_m p5)), .val (.ref b11), .val (.int (1 : Int32)), .val (.int (own_e2 (own_m p3) (own_m p4))), .val (.int (own_e3 (own_m p3) (own_m p4) (own_m p5))), .val (.int (own_e2 (own_m p3) (own_m p4))), .val (.int (own_e3 (own_m p3) (own_m p4) (own_m p5))), .val (.int (own_es (own_e2 (own_m p3) (own_m p4)) (own_e3 (own_m p3) (own_m p4) (own_m p5)))), .val (.int (own_el (own_m p3) (own_m p4) (own_m p5) (own_e2 (own_m p3) (own_m p4)) (own_e3 (own_m p3) (own_m p4) (own_m p5)))), .unset, .unset, .unset] [(.int (own_es (own_e2 (own_m p3) (own_m p4)) (own_e3 (own_m p3) (own_m p4) (own_m p5)))), (.int (own_n3 (own_m p3) (own_m p4) (own_m p5)))])) _
    refine XS.icmpNo X16.here hx rfl (hb hby at_188) rfl (teq (own_size _ _ _ : (own_n3 (own_m p3) (own_m p4) (own_m p5)) = (own_es (own_e2 (own_m p3) (own_m p4)) (own_e3 (own_m p3) (own_m p4) (own_m p5))))).2 ?_
    show Steps p.tables e below (T16.setTop (mkF m 191 #[.val (.int p1), .val (.int p2), .val (.int p3), .val (.int p4), .val (.int p5), .val (.int (own_r1 p1)), .val (.int (own_r2 p1 p2)), .val (.int (own_m p3)), .val (.int (own_m p4)), .val (.int (own_m p5)), .val (.ref b11), .val (.int (1 : Int32)), .val (.int (own_e2 (own_m p3) (own_m p4))), .val (.int (own_e3 (own_m p3) (own_m p4) (own_m p5))), .val (.int (own_e2 (own_m p3) (own_m p4))), .val (.int (own_e3 (own_m p3) (own_m p4) (own_m p5))), .val (.int (own_es (own_e2 (own_m p3) (own_m p4)) (own_e3 (own_m p3) (own_m p4) (own_m p5)))), .val (.int (own_el (own_m p3) (own_m p4) (own_m p5) (own_e2 (own_m p3) (own_m p4)) (own_e3 (own_m p3) (own_m p4) (own_m p5)))), .unset, .unset, .unset] [])) _
    refine XS.aload X16.here hx rfl (hb hby at_191) rfl rfl ?_
    show Steps p.tables e below (T16.setTop (mkF m 193 #[.val (.int p1), .val (.int p2), .val (.int p3), .val (.int p4), .val (.int p5), .val (.int (own_r1 p1)), .val (.int (own_r2 p1 p2)), .val (.int (own_m p3)), .val (.int (own_m p4)), .val (.int (own_m p5)), .val (.ref b11), .val (.int (1 : Int32)), .val (.int (own_e2 (own_m p3) (own_m p4))), .val (.int (own_e3 (own_m p3) (own_m p4) (own_m p5))), .val (.int (own_e2 (own_m p3) (own_m p4))), .val (.int (own_e3 (own_m p3) (own_m p4) (own_m p5))), .val (.int (own_es (own_e2 (own_m p3) (own_m p4)) (own_e3 (own_m p3) (own_m p4) (own_m p5)))), .val (.int (own_el (own_m p3) (own_m p4) (own_m p5) (own_e2 (own_m p3) (own_m p4)) (own_e3 (own_m p3) (own_m p4) (own_m p5)))), .unset, .unset, .unset] [(.ref b11)])) _
    refine XS.iconst X16.here hx rfl (hb hby at_193) ?_
    show Steps p.tables e below (T16.setTop (mkF m 194 #[.val (.int p1), .val (.int p2), .val (.int p3), .val (.int p4), .val (.int p5), .val (.int (own_r1 p1)), .val (.int (own_r2 p1 p2)), .val (.int (own_m p3)), .val (.int (own_m p4)), .val (.int (own_m p5)), .val (.ref b11), .val (.int (1 : Int32)), .val (.int (own_e2 (own_m p3) (own_m p4))), .val (.int (own_e3 (own_m p3) (own_m p4) (own_m p5))), .val (.int (own_e2 (own_m p3) (own_m p4))), .val (.int (own_e3 (own_m p3) (own_m p4) (own_m p5))), .val (.int (own_es (own_e2 (own_m p3) (own_m p4)) (own_e3 (own_m p3) (own_m p4) (own_m p5)))), .val (.int (own_el (own_m p3) (own_m p4) (own_m p5) (own_e2 (own_m p3) (own_m p4)) (own_e3 (own_m p3) (own_m p4) (own_m p5)))), .unset, .unset, .unset] [(.int (0 : Int32)), (.ref b11)])) _
    refine st17.trans ?_
    show Steps p.tables e below (T17.setTop (mkF m 197 #[.val (.int p1), .val (.int p2), .val (.int p3), .val (.int p4), .val (.int p5), .val (.int (own_r1 p1)), .val (.int (own_r2 p1 p2)), .val (.int (own_m p3)), .val (.int (own_m p4)), .val (.int (own_m p5)), .val (.ref b11), .val (.int (1 : Int32)), .val (.int (own_e2 (own_m p3) (own_m p4))), .val (.int (own_e3 (own_m p3) (own_m p4) (own_m p5))), .val (.int (own_e2 (own_m p3) (own_m p4))), .val (.int (own_e3 (own_m p3) (own_m p4) (own_m p5))), .val (.int (own_es (own_e2 (own_m p3) (own_m p4)) (own_e3 (own_m p3) (own_m p4) (own_m p5)))), .val (.int (own_el (own_m p3) (own_m p4) (own_m p5) (own_e2 (own_m p3) (own_m p4)) (own_e3 (own_m p3) (own_m p4) (own_m p5)))), .unset, .unset, .unset] [(.int ((own_g3 (own_m p3) (own_m p4) (own_m p5)) 0))])) _
    refine XS.iload X17.here hx rfl (hb hby at_197) rfl ?_
    show Steps p.tables e below (T17.setTop (mkF m 199 #[.val (.int p1), .val (.int p2), .val (.int p3), .val (.int p4), .val (.int p5), .val (.int (own_r1 p1)), .val (.int (own_r2 p1 p2)), .val (.int (own_m p3)), .val (.int (own_m p4)), .val (.int (own_m p5)), .val (.ref b11), .val (.int (1 : Int32)), .val (.int (own_e2 (own_m p3) (own_m p4))), .val (.int (own_e3 (own_m p3) (own_m p4) (own_m p5))), .val (.int (own_e2 (own_m p3) (own_m p4))), .val (.int (own_e3 (own_m p3) (own_m p4) (own_m p5))), .val (.int (own_es (own_e2 (own_m p3) (own_m p4)) (own_e3 (own_m p3) (own_m p4) (own_m p5)))), .val (.int (own_el (own_m p3) (own_m p4) (own_m p5) (own_e2 (own_m p3) (own_m p4)) (own_e3 (own_m p3) (own_m p4) (own_m p5)))), .unset, .unset, .unset] [(.int (own_m p3)), (.int ((own_g3 (own_m p3) (own_m p4) (own_m p5)) 0))])) _
    refine XS.icmpNo X17.here hx rfl (hb hby at_199) rfl (teq (own_first _ _ _ : ((own_g3 (own_m p3) (own_m p4) (own_m p5)) 0) = (own_m p3))).2 ?_
    show Steps p.tables e below (T17.setTop (mkF m 202 #[.val (.int p1), .val (.int p2), .val (.int p3), .val (.int p4), .val (.int p5), .val (.int (own_r1 p1)), .val (.int (own_r2 p1 p2)), .val (.int (own_m p3)), .val (.int (own_m p4)), .val (.int (own_m p5)), .val (.ref b11), .val (.int (1 : Int32)), .val (.int (own_e2 (own_m p3) (own_m p4))), .val (.int (own_e3 (own_m p3) (own_m p4) (own_m p5))), .val (.int (own_e2 (own_m p3) (own_m p4))), .val (.int (own_e3 (own_m p3) (own_m p4) (own_m p5))), .val (.int (own_es (own_e2 (own_m p3) (own_m p4)) (own_e3 (own_m p3) (own_m p4) (own_m p5)))), .val (.int (own_el (own_m p3) (own_m p4) (own_m p5) (own_e2 (own_m p3) (own_m p4)) (own_e3 (own_m p3) (own_m p4) (own_m p5)))), .unset, .unset, .unset] [])) _
    refine XS.aload X17.here hx rfl (hb hby at_202) rfl rfl ?_
    show Steps p.tables e below (T17.setTop (mkF m 204 #[.val (.int p1), .val (.int p2), .val (.int p3), .val (.int p4), .val (.int p5), .val (.int (own_r1 p1)), .val (.int (own_r2 p1 p2)), .val (.int (own_m p3)), .val (.int (own_m p4)), .val (.int (own_m p5)), .val (.ref b11), .val (.int (1 : Int32)), .val (.int (own_e2 (own_m p3) (own_m p4))), .val (.int (own_e3 (own_m p3) (own_m p4) (own_m p5))), .val (.int (own_e2 (own_m p3) (own_m p4))), .val (.int (own_e3 (own_m p3) (own_m p4) (own_m p5))), .val (.int (own_es (own_e2 (own_m p3) (own_m p4)) (own_e3 (own_m p3) (own_m p4) (own_m p5)))), .val (.int (own_el (own_m p3) (own_m p4) (own_m p5) (own_e2 (own_m p3) (own_m p4)) (own_e3 (own_m p3) (own_m p4) (own_m p5)))), .unset, .unset, .unset] [(.ref b11)])) _
    refine XS.iload X17.here hx rfl (hb hby at_204) rfl ?_
    show Steps p.tables e below (T17.setTop (mkF m 206 #[.val (.int p1), .val (.int p2), .val (.int p3), .val (.int p4), .val (.int p5), .val (.int (own_r1 p1)), .val (.int (own_r2 p1 p2)), .val (.int (own_m p3)), .val (.int (own_m p4)), .val (.int (own_m p5)), .val (.ref b11), .val (.int (1 : Int32)), .val (.int (own_e2 (own_m p3) (own_m p4))), .val (.int (own_e3 (own_m p3) (own_m p4) (own_m p5))), .val (.int (own_e2 (own_m p3) (own_m p4))), .val (.int (own_e3 (own_m p3) (own_m p4) (own_m p5))), .val (.int (own_es (own_e2 (own_m p3) (own_m p4)) (own_e3 (own_m p3) (own_m p4) (own_m p5)))), .val (.int (own_el (own_m p3) (own_m p4) (own_m p5) (own_e2 (own_m p3) (own_m p4)) (own_e3 (own_m p3) (own_m p4) (own_m p5)))), .unset, .unset, .unset] [(.int (own_es (own_e2 (own_m p3) (own_m p4)) (own_e3 (own_m p3) (own_m p4) (own_m p5)))), (.ref b11)])) _
    refine XS.iconst X17.here hx rfl (hb hby at_206) ?_
    show Steps p.tables e below (T17.setTop (mkF m 207 #[.val (.int p1), .val (.int p2), .val (.int p3), .val (.int p4), .val (.int p5), .val (.int (own_r1 p1)), .val (.int (own_r2 p1 p2)), .val (.int (own_m p3)), .val (.int (own_m p4)), .val (.int (own_m p5)), .val (.ref b11), .val (.int (1 : Int32)), .val (.int (own_e2 (own_m p3) (own_m p4))), .val (.int (own_e3 (own_m p3) (own_m p4) (own_m p5))), .val (.int (own_e2 (own_m p3) (own_m p4))), .val (.int (own_e3 (own_m p3) (own_m p4) (own_m p5))), .val (.int (own_es (own_e2 (own_m p3) (own_m p4)) (own_e3 (own_m p3) (own_m p4) (own_m p5)))), .val (.int (own_el (own_m p3) (own_m p4) (own_m p5) (own_e2 (own_m p3) (own_m p4)) (own_e3 (own_m p3) (own_m p4) (own_m p5)))), .unset, .unset, .unset] [(.int (1 : Int32)), (.int (own_es (own_e2 (own_m p3) (own_m p4)) (own_e3 (own_m p3) (own_m p4) (own_m p5)))), (.ref b11)])) _
    refine XS.isub X17.here hx rfl (hb hby at_207) rfl ?_
    show Steps p.tables e below (T17.setTop (mkF m 208 #[.val (.int p1), .val (.int p2), .val (.int p3), .val (.int p4), .val (.int p5), .val (.int (own_r1 p1)), .val (.int (own_r2 p1 p2)), .val (.int (own_m p3)), .val (.int (own_m p4)), .val (.int (own_m p5)), .val (.ref b11), .val (.int (1 : Int32)), .val (.int (own_e2 (own_m p3) (own_m p4))), .val (.int (own_e3 (own_m p3) (own_m p4) (own_m p5))), .val (.int (own_e2 (own_m p3) (own_m p4))), .val (.int (own_e3 (own_m p3) (own_m p4) (own_m p5))), .val (.int (own_es (own_e2 (own_m p3) (own_m p4)) (own_e3 (own_m p3) (own_m p4) (own_m p5)))), .val (.int (own_el (own_m p3) (own_m p4) (own_m p5) (own_e2 (own_m p3) (own_m p4)) (own_e3 (own_m p3) (own_m p4) (own_m p5)))), .unset, .unset, .unset] [(.int ((own_es (own_e2 (own_m p3) (own_m p4)) (own_e3 (own_m p3) (own_m p4) (own_m p5))) - (1 : Int32))), (.ref b11)])) _
    refine st18.trans ?_
    show Steps p.tables e below (T18.setTop (mkF m 211 #[.val (.int p1), .val (.int p2), .val (.int p3), .val (.int p4), .val (.int p5), .val (.int (own_r1 p1)), .val (.int (own_r2 p1 p2)), .val (.int (own_m p3)), .val (.int (own_m p4)), .val (.int (own_m p5)), .val (.ref b11), .val (.int (1 : Int32)), .val (.int (own_e2 (own_m p3) (own_m p4))), .val (.int (own_e3 (own_m p3) (own_m p4) (own_m p5))), .val (.int (own_e2 (own_m p3) (own_m p4))), .val (.int (own_e3 (own_m p3) (own_m p4) (own_m p5))), .val (.int (own_es (own_e2 (own_m p3) (own_m p4)) (own_e3 (own_m p3) (own_m p4) (own_m p5)))), .val (.int (own_el (own_m p3) (own_m p4) (own_m p5) (own_e2 (own_m p3) (own_m p4)) (own_e3 (own_m p3) (own_m p4) (own_m p5)))), .unset, .unset, .unset] [(.int ((own_g3 (own_m p3) (own_m p4) (own_m p5)) (own_k3 (own_m p3) (own_m p4) (own_m p5))))])) _
    refine XS.iload X18.here hx rfl (hb hby at_211) rfl ?_
    show Steps p.tables e below (T18.setTop (mkF m 213 #[.val (.int p1), .val (.int p2), .val (.int p3), .val (.int p4), .val (.int p5), .val (.int (own_r1 p1)), .val (.int (own_r2 p1 p2)), .val (.int (own_m p3)), .val (.int (own_m p4)), .val (.int (own_m p5)), .val (.ref b11), .val (.int (1 : Int32)), .val (.int (own_e2 (own_m p3) (own_m p4))), .val (.int (own_e3 (own_m p3) (own_m p4) (own_m p5))), .val (.int (own_e2 (own_m p3) (own_m p4))), .val (.int (own_e3 (own_m p3) (own_m p4) (own_m p5))), .val (.int (own_es (own_e2 (own_m p3) (own_m p4)) (own_e3 (own_m p3) (own_m p4) (own_m p5)))), .val (.int (own_el (own_m p3) (own_m p4) (own_m p5) (own_e2 (own_m p3) (own_m p4)) (own_e3 (own_m p3) (own_m p4) (own_m p5)))), .unset, .unset, .unset] [(.int (own_el (own_m p3) (own_m p4) (own_m p5) (own_e2 (own_m p3) (own_m p4)) (own_e3 (own_m p3) (own_m p4) (own_m p5)))), (.int ((own_g3 (own_m p3) (own_m p4) (own_m p5)) (own_k3 (own_m p3) (own_m p4) (own_m p5))))])) _
    refine XS.icmpNo X18.here hx rfl (hb hby at_213) rfl (teq (own_last _ _ _ : ((own_g3 (own_m p3) (own_m p4) (own_m p5)) (own_k3 (own_m p3) (own_m p4) (own_m p5))) = (own_el (own_m p3) (own_m p4) (own_m p5) (own_e2 (own_m p3) (own_m p4)) (own_e3 (own_m p3) (own_m p4) (own_m p5))))).2 ?_
    show Steps p.tables e below (T18.setTop (mkF m 216 #[.val (.int p1), .val (.int p2), .val (.int p3), .val (.int p4), .val (.int p5), .val (.int (own_r1 p1)), .val (.int (own_r2 p1 p2)), .val (.int (own_m p3)), .val (.int (own_m p4)), .val (.int (own_m p5)), .val (.ref b11), .val (.int (1 : Int32)), .val (.int (own_e2 (own_m p3) (own_m p4))), .val (.int (own_e3 (own_m p3) (own_m p4) (own_m p5))), .val (.int (own_e2 (own_m p3) (own_m p4))), .val (.int (own_e3 (own_m p3) (own_m p4) (own_m p5))), .val (.int (own_es (own_e2 (own_m p3) (own_m p4)) (own_e3 (own_m p3) (own_m p4) (own_m p5)))), .val (.int (own_el (own_m p3) (own_m p4) (own_m p5) (own_e2 (own_m p3) (own_m p4)) (own_e3 (own_m p3) (own_m p4) (own_m p5)))), .unset, .unset, .unset] [])) _
    refine XS.iconst X18.here hx rfl (hb hby at_216) ?_
    show Steps p.tables e below (T18.setTop (mkF m 217 #[.val (.int p1), .val (.int p2), .val (.int p3), .val (.int p4), .val (.int p5), .val (.int (own_r1 p1)), .val (.int (own_r2 p1 p2)), .val (.int (own_m p3)), .val (.int (own_m p4)), .val (.int (own_m p5)), .val (.ref b11), .val (.int (1 : Int32)), .val (.int (own_e2 (own_m p3) (own_m p4))), .val (.int (own_e3 (own_m p3) (own_m p4) (own_m p5))), .val (.int (own_e2 (own_m p3) (own_m p4))), .val (.int (own_e3 (own_m p3) (own_m p4) (own_m p5))), .val (.int (own_es (own_e2 (own_m p3) (own_m p4)) (own_e3 (own_m p3) (own_m p4) (own_m p5)))), .val (.int (own_el (own_m p3) (own_m p4) (own_m p5) (own_e2 (own_m p3) (own_m p4)) (own_e3 (own_m p3) (own_m p4) (own_m p5)))), .unset, .unset, .unset] [(.int (1 : Int32))])) _
    refine XS.goto X18.here hx rfl (pc0 := 217) (pc' := 221) rfl (hb hby at_217) (by decide) (by decide) ?_
    show Steps p.tables e below (T18.setTop (mkF m 221 #[.val (.int p1), .val (.int p2), .val (.int p3), .val (.int p4), .val (.int p5), .val (.int (own_r1 p1)), .val (.int (own_r2 p1 p2)), .val (.int (own_m p3)), .val (.int (own_m p4)), .val (.int (own_m p5)), .val (.ref b11), .val (.int (1 : Int32)), .val (.int (own_e2 (own_m p3) (own_m p4))), .val (.int (own_e3 (own_m p3) (own_m p4) (own_m p5))), .val (.int (own_e2 (own_m p3) (own_m p4))), .val (.int (own_e3 (own_m p3) (own_m p4) (own_m p5))), .val (.int (own_es (own_e2 (own_m p3) (own_m p4)) (own_e3 (own_m p3) (own_m p4) (own_m p5)))), .val (.int (own_el (own_m p3) (own_m p4) (own_m p5) (own_e2 (own_m p3) (own_m p4)) (own_e3 (own_m p3) (own_m p4) (own_m p5)))), .unset, .unset, .unset] [(.int (1 : Int32))])) _
    refine XS.istore X18.here hx rfl (hb hby at_221) rfl (l' := #[.val (.int p1), .val (.int p2), .val (.int p3), .val (.int p4), .val (.int p5), .val (.int (own_r1 p1)), .val (.int (own_r2 p1 p2)), .val (.int (own_m p3)), .val (.int (own_m p4)), .val (.int (own_m p5)), .val (.ref b11), .val (.int (1 : Int32)), .val (.int (own_e2 (own_m p3) (own_m p4))), .val (.int (own_e3 (own_m p3) (own_m p4) (own_m p5))), .val (.int (own_e2 (own_m p3) (own_m p4))), .val (.int (own_e3 (own_m p3) (own_m p4) (own_m p5))), .val (.int (own_es (own_e2 (own_m p3) (own_m p4)) (own_e3 (own_m p3) (own_m p4) (own_m p5)))), .val (.int (own_el (own_m p3) (own_m p4) (own_m p5) (own_e2 (own_m p3) (own_m p4)) (own_e3 (own_m p3) (own_m p4) (own_m p5)))), .val (.int (1 : Int32)), .unset, .unset]) rfl ?_
    show Steps p.tables e below (T18.setTop (mkF m 223 #[.val (.int p1), .val (.int p2), .val (.int p3), .val (.int p4), .val (.int p5), .val (.int (own_r1 p1)), .val (.int (own_r2 p1 p2)), .val (.int (own_m p3)), .val (.int (own_m p4)), .val (.int (own_m p5)), .val (.ref b11), .val (.int (1 : Int32)), .val (.int (own_e2 (own_m p3) (own_m p4))), .val (.int (own_e3 (own_m p3) (own_m p4) (own_m p5))), .val (.int (own_e2 (own_m p3) (own_m p4))), .val (.int (own_e3 (own_m p3) (own_m p4) (own_m p5))), .val (.int (own_es (own_e2 (own_m p3) (own_m p4)) (own_e3 (own_m p3) (own_m p4) (own_m p5)))), .val (.int (own_el (own_m p3) (own_m p4) (own_m p5) (own_e2 (own_m p3) (own_m p4)) (own_e3 (own_m p3) (own_m p4) (own_m p5)))), .val (.int (1 : Int32)), .unset, .unset] [])) _
    refine XS.aload X18.here hx rfl (hb hby at_223) rfl rfl ?_
    show Steps p.tables e below (T18.setTop (mkF m 225 #[.val (.int p1), .val (.int p2), .val (.int p3), .val (.int p4), .val (.int p5), .val (.int (own_r1 p1)), .val (.int (own_r2 p1 p2)), .val (.int (own_m p3)), .val (.int (own_m p4)), .val (.int (own_m p5)), .val (.ref b11), .val (.int (1 : Int32)), .val (.int (own_e2 (own_m p3) (own_m p4))), .val (.int (own_e3 (own_m p3) (own_m p4) (own_m p5))), .val (.int (own_e2 (own_m p3) (own_m p4))), .val (.int (own_e3 (own_m p3) (own_m p4) (own_m p5))), .val (.int (own_es (own_e2 (own_m p3) (own_m p4)) (own_e3 (own_m p3) (own_m p4) (own_m p5)))), .val (.int (own_el (own_m p3) (own_m p4) (own_m p5) (own_e2 (own_m p3) (own_m p4)) (own_e3 (own_m p3) (own_m p4) (own_m p5)))), .val (.int (1 : Int32)), .unset, .unset] [(.ref b11)])) _
    refine st19.trans ?_
    show Steps p.tables e below (T19.setTop (mkF m 228 #[.val (.int p1), .val (.int p2), .val (.int p3), .val (.int p4), .val (.int p5), .val (.int (own_r1 p1)), .val (.int (own_r2 p1 p2)), .val (.int (own_m p3)), .val (.int (own_m p4)), .val (.int (own_m p5)), .val (.ref b11), .val (.int (1 : Int32)), .val (.int (own_e2 (own_m p3) (own_m p4))), .val (.int (own_e3 (own_m p3) (own_m p4) (own_m p5))), .val (.int (own_e2 (own_m p3) (own_m p4))), .val (.int (own_e3 (own_m p3) (own_m p4) (own_m p5))), .val (.int (own_es (own_e2 (own_m p3) (own_m p4)) (own_e3 (own_m p3) (own_m p4) (own_m p5)))), .val (.int (own_el (own_m p3) (own_m p4) (own_m p5) (own_e2 (own_m p3) (own_m p4)) (own_e3 (own_m p3) (own_m p4) (own_m p5)))), .val (.int (1 : Int32)), .unset, .unset] [])) _
    refine XS.aload X19.here hx rfl (hb hby at_228) rfl rfl ?_
    show Steps p.tables e below (T19.setTop (mkF m 230 #[.val (.int p1), .val (.int p2), .val (.int p3), .val (.int p4), .val (.int p5), .val (.int (own_r1 p1)), .val (.int (own_r2 p1 p2)), .val (.int (own_m p3)), .val (.int (own_m p4)), .val (.int (own_m p5)), .val (.ref b11), .val (.int (1 : Int32)), .val (.int (own_e2 (own_m p3) (own_m p4))), .val (.int (own_e3 (own_m p3) (own_m p4) (own_m p5))), .val (.int (own_e2 (own_m p3) (own_m p4))), .val (.int (own_e3 (own_m p3) (own_m p4) (own_m p5))), .val (.int (own_es (own_e2 (own_m p3) (own_m p4)) (own_e3 (own_m p3) (own_m p4) (own_m p5)))), .val (.int (own_el (own_m p3) (own_m p4) (own_m p5) (own_e2 (own_m p3) (own_m p4)) (own_e3 (own_m p3) (own_m p4) (own_m p5)))), .val (.int (1 : Int32)), .unset, .unset] [(.ref b11)])) _
    refine XS.iload X19.here hx rfl (hb hby at_230) rfl ?_
    show Steps p.tables e below (T19.setTop (mkF m 232 #[.val (.int p1), .val (.int p2), .val (.int p3), .val (.int p4), .val (.int p5), .val (.int (own_r1 p1)), .val (.int (own_r2 p1 p2)), .val (.int (own_m p3)), .val (.int (own_m p4)), .val (.int (own_m p5)), .val (.ref b11), .val (.int (1 : Int32)), .val (.int (own_e2 (own_m p3) (own_m p4))), .val (.int (own_e3 (own_m p3) (own_m p4) (own_m p5))), .val (.int (own_e2 (own_m p3) (own_m p4))), .val (.int (own_e3 (own_m p3) (own_m p4) (own_m p5))), .val (.int (own_es (own_e2 (own_m p3) (own_m p4)) (own_e3 (own_m p3) (own_m p4) (own_m p5)))), .val (.int (own_el (own_m p3) (own_m p4) (own_m p5) (own_e2 (own_m p3) (own_m p4)) (own_e3 (own_m p3) (own_m p4) (own_m p5)))), .val (.int (1 : Int32)), .unset, .unset] [(.int (own_m p4)), (.ref b11)])) _
    refine XS.iload X19.here hx rfl (hb hby at_232) rfl ?_
    show Steps p.tables e below (T19.setTop (mkF m 234 #[.val (.int p1), .val (.int p2), .val (.int p3), .val (.int p4), .val (.int p5), .val (.int (own_r1 p1)), .val (.int (own_r2 p1 p2)), .val (.int (own_m p3)), .val (.int (own_m p4)), .val (.int (own_m p5)), .val (.ref b11), .val (.int (1 : Int32)), .val (.int (own_e2 (own_m p3) (own_m p4))), .val (.int (own_e3 (own_m p3) (own_m p4) (own_m p5))), .val (.int (own_e2 (own_m p3) (own_m p4))), .val (.int (own_e3 (own_m p3) (own_m p4) (own_m p5))), .val (.int (own_es (own_e2 (own_m p3) (own_m p4)) (own_e3 (own_m p3) (own_m p4) (own_m p5)))), .val (.int (own_el (own_m p3) (own_m p4) (own_m p5) (own_e2 (own_m p3) (own_m p4)) (own_e3 (own_m p3) (own_m p4) (own_m p5)))), .val (.int (1 : Int32)), .unset, .unset] [(.int (own_r2 p1 p2)), (.int (own_m p4)), (.ref b11)])) _
    refine st20.trans ?_
    show Steps p.tables e below (T20.setTop (mkF m 237 #[.val (.int p1), .val (.int p2), .val (.int p3), .val (.int p4), .val (.int p5), .val (.int (own_r1 p1)), .val (.int (own_r2 p1 p2)), .val (.int (own_m p3)), .val (.int (own_m p4)), .val (.int (own_m p5)), .val (.ref b11), .val (.int (1 : Int32)), .val (.int (own_e2 (own_m p3) (own_m p4))), .val (.int (own_e3 (own_m p3) (own_m p4) (own_m p5))), .val (.int (own_e2 (own_m p3) (own_m p4))), .val (.int (own_e3 (own_m p3) (own_m p4) (own_m p5))), .val (.int (own_es (own_e2 (own_m p3) (own_m p4)) (own_e3 (own_m p3) (own_m p4) (own_m p5)))), .val (.int (own_el (own_m p3) (own_m p4) (own_m p5) (own_e2 (own_m p3) (own_m p4)) (own_e3 (own_m p3) (own_m p4) (own_m p5)))), .val (.int (1 : Int32)), .unset, .unset] [(.int (1 : Int32))])) _
    refine XS.istore X20.here hx rfl (hb hby at_237) rfl (l' := #[.val (.int p1), .val (.int p2), .val (.int p3), .val (.int p4), .val (.int p5), .val (.int (own_r1 p1)), .val (.int (own_r2 p1 p2)), .val (.int (own_m p3)), .val (.int (own_m p4)), .val (.int (own_m p5)), .val (.ref b11), .val (.int (1 : Int32)), .val (.int (own_e2 (own_m p3) (own_m p4))), .val (.int (own_e3 (own_m p3) (own_m p4) (own_m p5))), .val (.int (own_e2 (own_m p3) (own_m p4))), .val (.int (own_e3 (own_m p3) (own_m p4) (own_m p5))), .val (.int (own_es (own_e2 (own_m p3) (own_m p4)) (own_e3 (own_m p3) (own_m p4) (own_m p5)))), .val (.int (own_el (own_m p3) (own_m p4) (own_m p5) (own_e2 (own_m p3) (own_m p4)) (own_e3 (own_m p3) (own_m p4) (own_m p5)))), .val (.int (1 : Int32)), .val (.int (1 : Int32)), .unset]) rfl ?_
    show Steps p.tables e below (T20.setTop (mkF m 239 #[.val (.int p1), .val (.int p2), .val (.int p3), .val (.int p4), .val (.int p5), .val (.int (own_r1 p1)), .val (.int (own_r2 p1 p2)), .val (.int (own_m p3)), .val (.int (own_m p4)), .val (.int (own_m p5)), .val (.ref b11), .val (.int (1 : Int32)), .val (.int (own_e2 (own_m p3) (own_m p4))), .val (.int (own_e3 (own_m p3) (own_m p4) (own_m p5))), .val (.int (own_e2 (own_m p3) (own_m p4))), .val (.int (own_e3 (own_m p3) (own_m p4) (own_m p5))), .val (.int (own_es (own_e2 (own_m p3) (own_m p4)) (own_e3 (own_m p3) (own_m p4) (own_m p5)))), .val (.int (own_el (own_m p3) (own_m p4) (own_m p5) (own_e2 (own_m p3) (own_m p4)) (own_e3 (own_m p3) (own_m p4) (own_m p5)))), .val (.int (1 : Int32)), .val (.int (1 : Int32)), .unset] [])) _
    refine XS.iload X20.here hx rfl (hb hby at_239) rfl ?_
    show Steps p.tables e below (T20.setTop (mkF m 241 #[.val (.int p1), .val (.int p2), .val (.int p3), .val (.int p4), .val (.int p5), .val (.int (own_r1 p1)), .val (.int (own_r2 p1 p2)), .val (.int (own_m p3)), .val (.int (own_m p4)), .val (.int (own_m p5)), .val (.ref b11), .val (.int (1 : Int32)), .val (.int (own_e2 (own_m p3) (own_m p4))), .val (.int (own_e3 (own_m p3) (own_m p4) (own_m p5))), .val (.int (own_e2 (own_m p3) (own_m p4))), .val (.int (own_e3 (own_m p3) (own_m p4) (own_m p5))), .val (.int (own_es (own_e2 (own_m p3) (own_m p4)) (own_e3 (own_m p3) (own_m p4) (own_m p5)))), .val (.int (own_el (own_m p3) (own_m p4) (own_m p5) (own_e2 (own_m p3) (own_m p4)) (own_e3 (own_m p3) (own_m p4) (own_m p5)))), .val (.int (1 : Int32)), .val (.int (1 : Int32)), .unset] [(.int (1 : Int32))])) _
    refine XS.ifNo X20.here hx rfl (hb hby at_241) rfl ((if0 _ _).trans (feq (own_one_ne : ¬ ((1 : Int32) = (0 : Int32)))).1) ?_
    show Steps p.tables e below (T20.setTop (mkF m 244 #[.val (.int p1), .val (.int p2), .val (.int p3), .val (.int p4), .val (.int p5), .val (.int (own_r1 p1)), .val (.int (own_r2 p1 p2)), .val (.int (own_m p3)), .val (.int (own_m p4)), .val (.int (own_m p5)), .val (.ref b11), .val (.int (1 : Int32)), .val (.int (own_e2 (own_m p3) (own_m p4))), .val (.int (own_e3 (own_m p3) (own_m p4) (own_m p5))), .val (.int (own_e2 (own_m p3) (own_m p4))), .val (.int (own_e3 (own_m p3) (own_m p4) (own_m p5))), .val (.int (own_es (own_e2 (own_m p3) (own_m p4)) (own_e3 (own_m p3) (own_m p4) (own_m p5)))), .val (.int (own_el (own_m p3) (own_m p4) (own_m p5) (own_e2 (own_m p3) (own_m p4)) (own_e3 (own_m p3) (own_m p4) (own_m p5)))), .val (.int (1 : Int32)), .val (.int (1 : Int32)), .unset] [])) _
    refine XS.aload X20.here hx rfl (hb hby at_244) rfl rfl ?_
    show Steps p.tables e below (T20.setTop (mkF m 246 #[.val (.int p1), .val (.int p2), .val (.int p3), .val (.int p4), .val (.int p5), .val (.int (own_r1 p1)), .val (.int (own_r2 p1 p2)), .val (.int (own_m p3)), .val (.int (own_m p4)), .val (.int (own_m p5)), .val (.ref b11), .val (.int (1 : Int32)), .val (.int (own_e2 (own_m p3) (own_m p4))), .val (.int (own_e3 (own_m p3) (own_m p4) (own_m p5))), .val (.int (own_e2 (own_m p3) (own_m p4))), .val (.int (own_e3 (own_m p3) (own_m p4) (own_m p5))), .val (.int (own_es (own_e2 (own_m p3) (own_m p4)) (own_e3 (own_m p3) (own_m p4) (own_m p5)))), .val (.int (own_el (own_m p3) (own_m p4) (own_m p5) (own_e2 (own_m p3) (own_m p4)) (own_e3 (own_m p3) (own_m p4) (own_m p5)))), .val (.int (1 : Int32)), .val (.int (1 : Int32)), .unset] [(.ref b11)])) _
    refine st21.trans ?_
    show Steps p.tables e below (T21.setTop (mkF m 249 #[.val (.int p1), .val (.int p2), .val (.int p3), .val (.int p4), .val (.int p5), .val (.int (own_r1 p1)), .val (.int (own_r2 p1 p2)), .val (.int (own_m p3)), .val (.int (own_m p4)), .val (.int (own_m p5)), .val (.ref b11), .val (.int (1 : Int32)), .val (.int (own_e2 (own_m p3) (own_m p4))), .val (.int (own_e3 (own_m p3) (own_m p4) (own_m p5))), .val (.int (own_e2 (own_m p3) (own_m p4))), .val (.int (own_e3 (own_m p3) (own_m p4) (own_m p5))), .val (.int (own_es (own_e2 (own_m p3) (own_m p4)) (own_e3 (own_m p3) (own_m p4) (own_m p5)))), .val (.int (own_el (own_m p3) (own_m p4) (own_m p5) (own_e2 (own_m p3) (own_m p4)) (own_e3 (own_m p3) (own_m p4) (own_m p5)))), .val (.int (1 : Int32)), .val (.int (1 : Int32)), .unset] [(.int (1 : Int32))])) _
    refine XS.iconst X21.here hx rfl (hb hby at_249) ?_
    show Steps p.tables e below (T21.setTop (mkF m 250 #[.val (.int p1), .val (.int p2), .val (.int p3), .val (.int p4), .val (.int p5), .val (.int (own_r1 p1)), .val (.int (own_r2 p1 p2)), .val (.int (own_m p3)), .val (.int (own_m p4)), .val (.int (own_m p5)), .val (.ref b11), .val (.int (1 : Int32)), .val (.int (own_e2 (own_m p3) (own_m p4))), .val (.int (own_e3 (own_m p3) (own_m p4) (own_m p5))), .val (.int (own_e2 (own_m p3) (own_m p4))), .val (.int (own_e3 (own_m p3) (own_m p4) (own_m p5))), .val (.int (own_es (own_e2 (own_m p3) (own_m p4)) (own_e3 (own_m p3) (own_m p4) (own_m p5)))), .val (.int (own_el (own_m p3) (own_m p4) (own_m p5) (own_e2 (own_m p3) (own_m p4)) (own_e3 (own_m p3) (own_m p4) (own_m p5)))), .val (.int (1 : Int32)), .val (.int (1 : Int32)), .unset] [(.int (1 : Int32)), (.int (1 : Int32))])) _
    refine XS.icmpNo X21.here hx rfl (hb hby at_250) rfl (teq (rfl : (1 : Int32) = (1 : Int32))).2 ?_
    show Steps p.tables e below (T21.setTop (mkF m 253 #[.val (.int p1), .val (.int p2), .val (.int p3), .val (.int p4), .val (.int p5), .val (.int (own_r1 p1)), .val (.int (own_r2 p1 p2)), .val (.int (own_m p3)), .val (.int (own_m p4)), .val (.int (own_m p5)), .val (.ref b11), .val (.int (1 : Int32)), .val (.int (own_e2 (own_m p3) (own_m p4))), .val (.int (own_e3 (own_m p3) (own_m p4) (own_m p5))), .val (.int (own_e2 (own_m p3) (own_m p4))), .val (.int (own_e3 (own_m p3) (own_m p4) (own_m p5))), .val (.int (own_es (own_e2 (own_m p3) (own_m p4)) (own_e3 (own_m p3) (own_m p4) (own_m p5)))), .val (.int (own_el (own_m p3) (own_m p4) (own_m p5) (own_e2 (own_m p3) (own_m p4)) (own_e3 (own_m p3) (own_m p4) (own_m p5)))), .val (.int (1 : Int32)), .val (.int (1 : Int32)), .unset] [])) _
    refine XS.aload X21.here hx rfl (hb hby at_253) rfl rfl ?_
    show Steps p.tables e below (T21.setTop (mkF m 255 #[.val (.int p1), .val (.int p2), .val (.int p3), .val (.int p4), .val (.int p5), .val (.int (own_r1 p1)), .val (.int (own_r2 p1 p2)), .val (.int (own_m p3)), .val (.int (own_m p4)), .val (.int (own_m p5)), .val (.ref b11), .val (.int (1 : Int32)), .val (.int (own_e2 (own_m p3) (own_m p4))), .val (.int (own_e3 (own_m p3) (own_m p4) (own_m p5))), .val (.int (own_e2 (own_m p3) (own_m p4))), .val (.int (own_e3 (own_m p3) (own_m p4) (own_m p5))), .val (.int (own_es (own_e2 (own_m p3) (own_m p4)) (own_e3 (own_m p3) (own_m p4) (own_m p5)))), .val (.int (own_el (own_m p3) (own_m p4) (own_m p5) (own_e2 (own_m p3) (own_m p4)) (own_e3 (own_m p3) (own_m p4) (own_m p5)))), .val (.int (1 : Int32)), .val (.int (1 : Int32)), .unset] [(.ref b11)])) _
    refine XS.iconst X21.here hx rfl (hb hby at_255) ?_
    show Steps p.tables e below (T21.setTop (mkF m 256 #[.val (.int p1), .val (.int p2), .val (.int p3), .val (.int p4), .val (.int p5), .val (.int (own_r1 p1)), .val (.int (own_r2 p1 p2)), .val (.int (own_m p3)), .val (.int (own_m p4)), .val (.int (own_m p5)), .val (.ref b11), .val (.int (1 : Int32)), .val (.int (own_e2 (own_m p3) (own_m p4))), .val (.int (own_e3 (own_m p3) (own_m p4) (own_m p5))), .val (.int (own_e2 (own_m p3) (own_m p4))), .val (.int (own_e3 (own_m p3) (own_m p4) (own_m p5))), .val (.int (own_es (own_e2 (own_m p3) (own_m p4)) (own_e3 (own_m p3) (own_m p4) (own_m p5)))), .val (.int (own_el (own_m p3) (own_m p4) (own_m p5) (own_e2 (own_m p3) (own_m p4)) (own_e3 (own_m p3) (own_m p4) (own_m p5)))), .val (.int (1 : Int32)), .val (.int (1 : Int32)), .unset] [(.int (0 : Int32)), (.ref b11)])) _
    refine st22.trans ?_
    show Steps p.tables e below (T22.setTop (mkF m 259 #[.val (.int p1), .val (.int p2), .val (.int p3), .val (.int p4), .val (.int p5), .val (.int (own_r1 p1)), .val (.int (own_r2 p1 p2)), .val (.int (own_m p3)), .val (.int (own_m p4)), .val (.int (own_m p5)), .val (.ref b11), .val (.int (1 : Int32)), .val (.int (own_e2 (own_m p3) (own_m p4))), .val (.int (own_e3 (own_m p3) (own_m p4) (own_m p5))), .val (.int (own_e2 (own_m p3) (own_m p4))), .val (.int (own_e3 (own_m p3) (own_m p4) (own_m p5))), .val (.int (own_es (own_e2 (own_m p3) (own_m p4)) (own_e3 (own_m p3) (own_m p4) (own_m p5)))), .val (.int (own_el (own_m p3) (own_m p4) (own_m p5) (own_e2 (own_m p3) (own_m p4)) (own_e3 (own_m p3) (own_m p4) (own_m p5)))), .val (.int (1 : Int32)), .val (.int (1 : Int32)), .unset] [(.int ((own_up (own_g3 (own_m p3) (own_m p4) (own_m p5)) 0 (own_m p4)) 0))])) _
    refine XS.iload X22.here hx rfl (hb hby at_259) rfl ?_
    show Steps p.tables e below (T22.setTop (mkF m 261 #[.val (.int p1), .val (.int p2), .val (.int p3), .val (.int p4), .val (.int p5), .val (.int (own_r1 p1)), .val (.int (own_r2 p1 p2)), .val (.int (own_m p3)), .val (.int (own_m p4)), .val (.int (own_m p5)), .val (.ref b11), .val (.int (1 : Int32)), .val (.int (own_e2 (own_m p3) (own_m p4))), .val (.int (own_e3 (own_m p3) (own_m p4) (own_m p5))), .val (.int (own_e2 (own_m p3) (own_m p4))), .val (.int (own_e3 (own_m p3) (own_m p4) (own_m p5))), .val (.int (own_es (own_e2 (own_m p3) (own_m p4)) (own_e3 (own_m p3) (own_m p4) (own_m p5)))), .val (.int (own_el (own_m p3) (own_m p4) (own_m p5) (own_e2 (own_m p3) (own_m p4)) (own_e3 (own_m p3) (own_m p4) (own_m p5)))), .val (.int (1 : Int32)), .val (.int (1 : Int32)), .unset] [(.int (own_m p4)), (.int ((own_up (own_g3 (own_m p3) (own_m p4) (own_m p5)) 0 (own_m p4)) 0))])) _
    refine XS.icmpNo X22.here hx rfl (hb hby at_261) rfl (teq (own_up_hit _ _ _ : ((own_up (own_g3 (own_m p3) (own_m p4) (own_m p5)) 0 (own_m p4)) 0) = (own_m p4))).2 ?_
    show Steps p.tables e below (T22.setTop (mkF m 264 #[.val (.int p1), .val (.int p2), .val (.int p3), .val (.int p4), .val (.int p5), .val (.int (own_r1 p1)), .val (.int (own_r2 p1 p2)), .val (.int (own_m p3)), .val (.int (own_m p4)), .val (.int (own_m p5)), .val (.ref b11), .val (.int (1 : Int32)), .val (.int (own_e2 (own_m p3) (own_m p4))), .val (.int (own_e3 (own_m p3) (own_m p4) (own_m p5))), .val (.int (own_e2 (own_m p3) (own_m p4))), .val (.int (own_e3 (own_m p3) (own_m p4) (own_m p5))), .val (.int (own_es (own_e2 (own_m p3) (own_m p4)) (own_e3 (own_m p3) (own_m p4) (own_m p5)))), .val (.int (own_el (own_m p3) (own_m p4) (own_m p5) (own_e2 (own_m p3) (own_m p4)) (own_e3 (own_m p3) (own_m p4) (own_m p5)))), .val (.int (1 : Int32)), .val (.int (1 : Int32)), .unset] [])) _
    refine XS.iconst X22.here hx rfl (hb hby at_264) ?_
    show Steps p.tables e below (T22.setTop (mkF m 265 #[.val (.int p1), .val (.int p2), .val (.int p3), .val (.int p4), .val (.int p5), .val (.int (own_r1 p1)), .val (.int (own_r2 p1 p2)), .val (.int (own_m p3)), .val (.int (own_m p4)), .val (.int (own_m p5)), .val (.ref b11), .val (.int (1 : Int32)), .val (.int (own_e2 (own_m p3) (own_m p4))), .val (.int (own_e3 (own_m p3) (own_m p4) (own_m p5))), .val (.int (own_e2 (own_m p3) (own_m p4))), .val (.int (own_e3 (own_m p3) (own_m p4) (own_m p5))), .val (.int (own_es (own_e2 (own_m p3) (own_m p4)) (own_e3 (own_m p3) (own_m p4) (own_m p5)))), .val (.int (own_el (own_m p3) (own_m p4) (own_m p5) (own_e2 (own_m p3) (own_m p4)) (own_e3 (own_m p3) (own_m p4) (own_m p5)))), .val (.int (1 : Int32)), .val (.int (1 : Int32)), .unset] [(.int (1 : Int32))])) _
    refine XS.goto X22.here hx rfl (pc0 := 265) (pc' := 269) rfl (hb hby at_265) (by decide) (by decide) ?_
    show Steps p.tables e below (T22.setTop (mkF m 269 #[.val (.int p1), .val (.int p2), .val (.int p3), .val (.int p4), .val (.int p5), .val (.int (own_r1 p1)), .val (.int (own_r2 p1 p2)), .val (.int (own_m p3)), .val (.int (own_m p4)), .val (.int (own_m p5)), .val (.ref b11), .val (.int (1 : Int32)), .val (.int (own_e2 (own_m p3) (own_m p4))), .val (.int (own_e3 (own_m p3) (own_m p4) (own_m p5))), .val (.int (own_e2 (own_m p3) (own_m p4))), .val (.int (own_e3 (own_m p3) (own_m p4) (own_m p5))), .val (.int (own_es (own_e2 (own_m p3) (own_m p4)) (own_e3 (own_m p3) (own_m p4) (own_m p5)))), .val (.int (own_el (own_m p3) (own_m p4) (own_m p5) (own_e2 (own_m p3) (own_m p4)) (own_e3 (own_m p3) (own_m p4) (own_m p5)))), .val (.int (1 : Int32)), .val (.int (1 : Int32)), .unset] [(.int (1 : Int32))])) _
    refine XS.istore X22.here hx rfl (hb hby at_269) rfl (l' := #[.val (.int p1), .val (.int p2), .val (.int p3), .val (.int p4), .val (.int p5), .val (.int (own_r1 p1)), .val (.int (own_r2 p1 p2)), .val (.int (own_m p3)), .val (.int (own_m p4)), .val (.int (own_m p5)), .val (.ref b11), .val (.int (1 : Int32)), .val (.int (own_e2 (own_m p3) (own_m p4))), .val (.int (own_e3 (own_m p3) (own_m p4) (own_m p5))), .val (.int (own_e2 (own_m p3) (own_m p4))), .val (.int (own_e3 (own_m p3) (own_m p4) (own_m p5))), .val (.int (own_es (own_e2 (own_m p3) (own_m p4)) (own_e3 (own_m p3) (own_m p4) (own_m p5)))), .val (.int (own_el (own_m p3) (own_m p4) (own_m p5) (own_e2 (own_m p3) (own_m p4)) (own_e3 (own_m p3) (own_m p4) (own_m p5)))), .val (.int (1 : Int32)), .val (.int (1 : Int32)), .val (.int (1 : Int32))]) rfl ?_
    show Steps p.tables e below (T22.setTop (mkF m 271 #[.val (.int p1), .val (.int p2), .val (.int p3), .val (.int p4), .val (.int p5), .val (.int (own_r1 p1)), .val (.int (own_r2 p1 p2)), .val (.int (own_m p3)), .val (.int (own_m p4)), .val (.int (own_m p5)), .val (.ref b11), .val (.int (1 : Int32)), .val (.int (own_e2 (own_m p3) (own_m p4))), .val (.int (own_e3 (own_m p3) (own_m p4) (own_m p5))), .val (.int (own_e2 (own_m p3) (own_m p4))), .val (.int (own_e3 (own_m p3) (own_m p4) (own_m p5))), .val (.int (own_es (own_e2 (own_m p3) (own_m p4)) (own_e3 (own_m p3) (own_m p4) (own_m p5)))), .val (.int (own_el (own_m p3) (own_m p4) (own_m p5) (own_e2 (own_m p3) (own_m p4)) (own_e3 (own_m p3) (own_m p4) (own_m p5)))), .val (.int (1 : Int32)), .val (.int (1 : Int32)), .val (.int (1 : Int32))] [])) _
    refine XS.iload X22.here hx rfl (hb hby at_271) rfl ?_
    show Steps p.tables e below (T22.setTop (mkF m 273 #[.val (.int p1), .val (.int p2), .val (.int p3), .val (.int p4), .val (.int p5), .val (.int (own_r1 p1)), .val (.int (own_r2 p1 p2)), .val (.int (own_m p3)), .val (.int (own_m p4)), .val (.int (own_m p5)), .val (.ref b11), .val (.int (1 : Int32)), .val (.int (own_e2 (own_m p3) (own_m p4))), .val (.int (own_e3 (own_m p3) (own_m p4) (own_m p5))), .val (.int (own_e2 (own_m p3) (own_m p4))), .val (.int (own_e3 (own_m p3) (own_m p4) (own_m p5))), .val (.int (own_es (own_e2 (own_m p3) (own_m p4)) (own_e3 (own_m p3) (own_m p4) (own_m p5)))), .val (.int (own_el (own_m p3) (own_m p4) (own_m p5) (own_e2 (own_m p3) (own_m p4)) (own_e3 (own_m p3) (own_m p4) (own_m p5)))), .val (.int (1 : Int32)), .val (.int (1 : Int32)), .val (.int (1 : Int32))] [(.int (1 : Int32))])) _
    refine XS.ifNo X22.here hx rfl (hb hby at_273) rfl ((if0 _ _).trans (feq (own_one_ne : ¬ ((1 : Int32) = (0 : Int32)))).1) ?_
    show Steps p.tables e below (T22.setTop (mkF m 276 #[.val (.int p1), .val (.int p2), .val (.int p3), .val (.int p4), .val (.int p5), .val (.int (own_r1 p1)), .val (.int (own_r2 p1 p2)), .val (.int (own_m p3)), .val (.int (own_m p4)), .val (.int (own_m p5)), .val (.ref b11), .val (.int (1 : Int32)), .val (.int (own_e2 (own_m p3) (own_m p4))), .val (.int (own_e3 (own_m p3) (own_m p4) (own_m p5))), .val (.int (own_e2 (own_m p3) (own_m p4))), .val (.int (own_e3 (own_m p3) (own_m p4) (own_m p5))), .val (.int (own_es (own_e2 (own_m p3) (own_m p4)) (own_e3 (own_m p3) (own_m p4) (own_m p5)))), .val (.int (own_el (own_m p3) (own_m p4) (own_m p5) (own_e2 (own_m p3) (own_m p4)) (own_e3 (own_m p3) (own_m p4) (own_m p5)))), .val (.int (1 : Int32)), .val (.int (1 : Int32)), .val (.int (1 : Int32))] [])) _
    refine XS.iload X22.here hx rfl (hb hby at_276) rfl ?_
    show Steps p.tables e below (T22.setTop (mkF m 278 #[.val (.int p1), .val (.int p2), .val (.int p3), .val (.int p4), .val (.int p5), .val (.int (own_r1 p1)), .val (.int (own_r2 p1 p2)), .val (.int (own_m p3)), .val (.int (own_m p4)), .val (.int (own_m p5)), .val (.ref b11), .val (.int (1 : Int32)), .val (.int (own_e2 (own_m p3) (own_m p4))), .val (.int (own_e3 (own_m p3) (own_m p4) (own_m p5))), .val (.int (own_e2 (own_m p3) (own_m p4))), .val (.int (own_e3 (own_m p3) (own_m p4) (own_m p5))), .val (.int (own_es (own_e2 (own_m p3) (own_m p4)) (own_e3 (own_m p3) (own_m p4) (own_m p5)))), .val (.int (own_el (own_m p3) (own_m p4) (own_m p5) (own_e2 (own_m p3) (own_m p4)) (own_e3 (own_m p3) (own_m p4) (own_m p5)))), .val (.int (1 : Int32)), .val (.int (1 : Int32)), .val (.int (1 : Int32))] [(.int (1 : Int32))])) _
    refine XS.ifNo X22.here hx rfl (hb hby at_278) rfl ((if0 _ _).trans (feq (own_one_ne : ¬ ((1 : Int32) = (0 : Int32)))).1) ?_
    show Steps p.tables e below (T22.setTop (mkF m 281 #[.val (.int p1), .val (.int p2), .val (.int p3), .val (.int p4), .val (.int p5), .val (.int (own_r1 p1)), .val (.int (own_r2 p1 p2)), .val (.int (own_m p3)), .val (.int (own_m p4)), .val (.int (own_m p5)), .val (.ref b11), .val (.int (1 : Int32)), .val (.int (own_e2 (own_m p3) (own_m p4))), .val (.int (own_e3 (own_m p3) (own_m p4) (own_m p5))), .val (.int (own_e2 (own_m p3) (own_m p4))), .val (.int (own_e3 (own_m p3) (own_m p4) (own_m p5))), .val (.int (own_es (own_e2 (own_m p3) (own_m p4)) (own_e3 (own_m p3) (own_m p4) (own_m p5)))), .val (.int (own_el (own_m p3) (own_m p4) (own_m p5) (own_e2 (own_m p3) (own_m p4)) (own_e3 (own_m p3) (own_m p4) (own_m p5)))), .val (.int (1 : Int32)), .val (.int (1 : Int32)), .val (.int (1 : Int32))] [])) _
    refine XS.iconst X22.here hx rfl (hb hby at_281) ?_
    show Steps p.tables e below (T22.setTop (mkF m 282 #[.val (.int p1), .val (.int p2), .val (.int p3), .val (.int p4), .val (.int p5), .val (.int (own_r1 p1)), .val (.int (own_r2 p1 p2)), .val (.int (own_m p3)), .val (.int (own_m p4)), .val (.int (own_m p5)), .val (.ref b11), .val (.int (1 : Int32)), .val (.int (own_e2 (own_m p3) (own_m p4))), .val (.int (own_e3 (own_m p3) (own_m p4) (own_m p5))), .val (.int (own_e2 (own_m p3) (own_m p4))), .val (.int (own_e3 (own_m p3) (own_m p4) (own_m p5))), .val (.int (own_es (own_e2 (own_m p3) (own_m p4)) (own_e3 (own_m p3) (own_m p4) (own_m p5)))), .val (.int (own_el (own_m p3) (own_m p4) (own_m p5) (own_e2 (own_m p3) (own_m p4)) (own_e3 (own_m p3) (own_m p4) (own_m p5)))), .val (.int (1 : Int32)), .val (.int (1 : Int32)), .val (.int (1 : Int32))] [(.int (1 : Int32))])) _
    refine XS.goto X22.here hx rfl (pc0 := 282) (pc' := 286) rfl (hb hby at_282) (by decide) (by decide) ?_
    show Steps p.tables e below (T22.setTop (mkF m 286 #[.val (.int p1), .val (.int p2), .val (.int p3), .val (.int p4), .val (.int p5), .val (.int (own_r1 p1)), .val (.int (own_r2 p1 p2)), .val (.int (own_m p3)), .val (.int (own_m p4)), .val (.int (own_m p5)), .val (.ref b11), .val (.int (1 : Int32)), .val (.int (own_e2 (own_m p3) (own_m p4))), .val (.int (own_e3 (own_m p3) (own_m p4) (own_m p5))), .val (.int (own_e2 (own_m p3) (own_m p4))), .val (.int (own_e3 (own_m p3) (own_m p4) (own_m p5))), .val (.int (own_es (own_e2 (own_m p3) (own_m p4)) (own_e3 (own_m p3) (own_m p4) (own_m p5)))), .val (.int (own_el (own_m p3) (own_m p4) (own_m p5) (own_e2 (own_m p3) (own_m p4)) (own_e3 (own_m p3) (own_m p4) (own_m p5)))), .val (.int (1 : Int32)), .val (.int (1 : Int32)), .val (.int (1 : Int32))] [(.int (1 : Int32))])) _
    exact retN X22 hx (t := .boolean) Bd.returns (by simp) (hb hby at_286) hr
  · show Q0 Z p1 p2 p3 p4 p5 h0 n0 _ T22.heap _
    exact ⟨rfl, N22⟩
set_option maxRecDepth 65536 in
set_option maxHeartbeats 40000000 in
theorem comes_1 {Post : Tables → Env → Array Value → State → Outcome → State → Prop} (hpost : ∀ tb e args s v u, (limb_1_1.after args s (.returned v) u = true ∧ limb_1_2.after args s (.returned v) u = true ∧ True) → FrameEnd s (.returned v) u (Jvm.fieldLocs frame_1_writes args s ++ Jvm.arrayLocs frame_1_arrays args s ++ Jvm.staticLocs frame_1_statics s) 16 128 → Post tb e args s (.returned v) u) :
    ArmFor flags0 classFile x code maxLocals ret World_1 tables_1 room_1 Calls_1 rest_1 Pre_1 Post := by
  intro l hfl _ _ p e ha hc hk s m args below hf hA hF happ hP
  obtain ⟨hcalls, hrest, hpre⟩ := hP
  obtain ⟨-, -, -, hnamed, -, -, -, hat⟩ := (Spec.applies_iff hf).mp happ
  obtain ⟨hg, hn⟩ := and_e (Cond.before_iff.mp (show (Jvm.Cond.and given_1 narrow_1).before args s = true from hpre))
  obtain ⟨g18, g19⟩ := and_e hg
  obtain ⟨g20, g21⟩ := and_e g19
  obtain ⟨g22, g23⟩ := and_e g21
  obtain ⟨g24, g25⟩ := and_e g23
  obtain ⟨g26, g27⟩ := and_e g25
  obtain ⟨w0, w1, w2, w3, w4, rfl⟩ : ∃ w0 w1 w2 w3 w4 : Value, args = #[w0, w1, w2, w3, w4] := by
    have hs : args.size = 5 := by simpa [Cond.value, given_1] using g18
    obtain ⟨L⟩ := args
    match L, hs with
    | [w0, w1, w2, w3, w4], _ => exact ⟨w0, w1, w2, w3, w4, rfl⟩
  have hw := fun d (hd : d ∈ tables_1) => atoms_spec (ws := Jvm.Cond.code x code maxLocals ret :: tables_1) hat d (List.mem_cons_of_mem _ hd)
  have hfit : Fit s := fun {y c} hc i hi => by
    obtain ⟨ha, rfl⟩ := Array.getElem?_eq_some_iff.mp hc
    have q := List.all_eq_true.mp ((Array.all_eq_true_iff_forall_mem.mp hF) _ (Array.getElem_mem ha)) i (List.mem_range.mpr hi)
    simpa [Array.getElem?_eq_getElem hi] using q
  obtain ⟨i0, ei0⟩ := is_v g20
  obtain rfl : w0 = (.int i0) := Option.some.inj ei0
  obtain ⟨i1, ei1⟩ := is_v g22
  obtain rfl : w1 = (.int i1) := Option.some.inj ei1
  obtain ⟨i2, ei2⟩ := is_v g24
  obtain rfl : w2 = (.int i2) := Option.some.inj ei2
  obtain ⟨i3, ei3⟩ := is_v g26
  obtain rfl : w3 = (.int i3) := Option.some.inj ei3
  obtain ⟨i4, ei4⟩ := is_v g27
  obtain rfl : w4 = (.int i4) := Option.some.inj ei4
  obtain ⟨n, o, h1, h2, h3, _, L, rfl, ⟨rfl, N⟩, hq⟩ := rm0 l s _ hw tables_1 i0 i1 i2 i3 i4 s.heap s.heap.size (Nat.le_refl _) p e ha hc hk s m _ below hf ((Spec.applies_iff_loose hf).mp happ).1 ⟨rfl, State.Warmed39.refl s, rfl⟩ trivial
  refine ⟨n, _, h1, h2, h3, hpost _ _ _ _ _ _ ⟨Cond.after_iff.mpr rfl, Cond.after_iff.mpr (eq_i res_at (Term.int_eval (1)) rfl), trivial⟩ ⟨hq.1, hq.2.1, (hq.2.2.sift fun y hy => Or.inr (N y hy)).mono (by decide) (by decide)⟩⟩
theorem main_1_1 : Claimed_1_1 := comes_1 fun _ _ _ _ _ _ h hF => ⟨h.1, hF⟩
theorem main_1_2 : Claimed_1_2 := comes_1 fun _ _ _ _ _ _ h hF => ⟨h.2.1, hF⟩
end Jvm.Pilot.@@N@@
namespace Jvm.Pilot.@@N@@
open Jvm Jvm.ClassFile Sem Op Lib Jvm.Free Jvm.Stand Jvm.Pilot.@@N@@.Jvm.D
/-! MADE BY PROGRAM (witnessworld.py) out of the Statement's table words and the real class files: 9 classes; the members and pool entries that the words name. The judged class is class 1, her method 1. -/
namespace start1
open Jvm.ClassFile
def u (s : String) : CpInfo := .utf8 (stringToUtf16 s)
/-- a pool by its gaps: so many unusable entries, then the entry; so many at the end -/
def gap : Nat → List CpInfo → List CpInfo
  | 0, r => r
  | n + 1, r => .unusable :: gap n r
def poolList (es : List (Nat × CpInfo)) (last : Nat) : List CpInfo := es.foldr (fun e r => gap e.1 (e.2 :: r)) (gap last [])
def pool (es : List (Nat × CpInfo)) (last : Nat) : Array CpInfo := ⟨poolList es last⟩
def fileOf (pool : Array CpInfo) (this : Nat) (attrs : Array Attribute := #[]) (ms : Array MethodInfo := #[]) (fl : Nat := 33) (sup : Nat := 0) (ifs : Array Nat := #[]) (fds : Array FieldInfo := #[]) : ClassFile where
  minorVersion := 0
  majorVersion := 65
  constantPool := pool
  accessFlags := fl
  thisClass := this
  superClass := sup
  interfaces := ifs
  fields := fds
  methods := ms
  attributes := attrs
def plain (name : String) (sup : Option ClassId) : Class where
  name := name
  kind := .ordinary
  loader := none
  accessFlags := 33
  super := sup
  interfaces := #[]
  cf := none
  fields := #[]
  methods := #[]
  instanceTypes := #[]
  staticTypes := #[]
  resolved := #[]
  callSites := []
  init := .initialized
  statics := none
  mirror := none

def pool0 : Array CpInfo := pool [(5, u "<init>"), (0, u "()V"), (1, .class_ 10), (1, u "java/lang/Object")] 113

def k0c0 : Code := { maxStack := 0, maxLocals := 1, code := object_method_1_code, exceptionTable := #[], attributes := #[] }
def k0m0 : Method := { name := "<init>", desc := "()V", sig := { parameters := [], returnType := none }, accessFlags := 1, code := some k0c0 }
/-- java/lang/Object -/
def k0 : Class := { plain "java/lang/Object" none with
  accessFlags := 33
  interfaces := #[]
  cf := some (fileOf pool0 8 #[] #[{ accessFlags := 1, nameIndex := 5, descriptorIndex := 6, attributes := #[] }] 33 0 #[] #[])
  fields := #[]
  methods := #[k0m0]
  instanceTypes := #[]
  staticTypes := #[]
  resolved := Array.replicate 124 none
  statics := none }

def pool1 : Array CpInfo := pool [(2, .class_ 4), (1, u "java/lang/Object"), (0, u "<init>"), (0, u "()V"), (0, .integer 1073741823), (0, .integer 1073741822), (0, .class_ 10), (0, u "com/example/arbora/arbora/supertree/Changes"), (0, .methodref 9 12), (0, .nameAndType 5 13), (0, u "(I)V"), (0, .methodref 9 15), (0, .nameAndType 16 17), (0, u "add"), (0, u "(II)Z"), (0, .methodref 9 19), (0, .nameAndType 20 21), (0, u "size"), (0, u "()I"), (0, .methodref 9 23), (0, .nameAndType 24 25), (0, u "get"), (0, u "(I)I"), (0, .methodref 9 27), (0, .nameAndType 28 6), (0, u "clear"), (0, .class_ 30), (0, u "com/example/arbora/arbora/supertree/ChangesAddPinLaw"), (2, u "law"), (0, u "(IIIII)Z")] 3

def k1m0 : Method := { name := "<init>", desc := "()V", sig := { parameters := [], returnType := none }, accessFlags := 1, code := none }
def k1c1 : Code := { maxStack := 3, maxLocals := 21, code := code, exceptionTable := #[], attributes := #[] }
def k1m1 : Method := { name := "law", desc := "(IIIII)Z", sig := { parameters := [.int, .int, .int, .int, .int], returnType := some .boolean }, accessFlags := 9, code := some k1c1 }
/-- com/example/arbora/arbora/supertree/ChangesAddPinLaw -/
def k1 : Class := { plain "com/example/arbora/arbora/supertree/ChangesAddPinLaw" (some 0) with
  accessFlags := 49
  interfaces := #[]
  cf := some (fileOf pool1 29 #[] #[{ accessFlags := 1, nameIndex := 5, descriptorIndex := 6, attributes := #[] }, { accessFlags := 9, nameIndex := 33, descriptorIndex := 34, attributes := #[] }] 49 2 #[] #[])
  fields := #[]
  methods := #[k1m0, k1m1]
  instanceTypes := #[]
  staticTypes := #[]
  resolved := Array.replicate 38 none
  statics := none }

def pool2 : Array CpInfo := pool [(1, .methodref 2 3), (0, .class_ 4), (0, .nameAndType 5 6), (0, u "java/lang/Object"), (0, u "<init>"), (0, u "()V"), (0, .fieldref 8 9), (0, .class_ 10), (0, .nameAndType 11 12), (0, u "com/example/arbora/arbora/supertree/Changes"), (0, u "listedIn"), (0, u "[I"), (0, .fieldref 8 14), (0, .nameAndType 15 12), (0, u "listed"), (0, .fieldref 8 17), (0, .nameAndType 18 19), (0, u "size"), (0, u "I"), (6, u "(I)V"), (2, u "add"), (0, u "(II)Z"), (1, u "()I"), (0, u "get"), (0, u "(I)I"), (0, u "clear")] 3

def k2c0 : Code := { maxStack := 2, maxLocals := 2, code := prog_19_method_1_code, exceptionTable := #[], attributes := #[] }
def k2m0 : Method := { name := "<init>", desc := "(I)V", sig := { parameters := [.int], returnType := none }, accessFlags := 0, code := some k2c0 }
def k2c1 : Code := { maxStack := 5, maxLocals := 3, code := prog_19_method_2_code, exceptionTable := #[], attributes := #[] }
def k2m1 : Method := { name := "add", desc := "(II)Z", sig := { parameters := [.int, .int], returnType := some .boolean }, accessFlags := 0, code := some k2c1 }
def k2c2 : Code := { maxStack := 1, maxLocals := 1, code := prog_19_method_3_code, exceptionTable := #[], attributes := #[] }
def k2m2 : Method := { name := "size", desc := "()I", sig := { parameters := [], returnType := some .int }, accessFlags := 0, code := some k2c2 }
def k2c3 : Code := { maxStack := 2, maxLocals := 2, code := prog_19_method_4_code, exceptionTable := #[], attributes := #[] }
def k2m3 : Method := { name := "get", desc := "(I)I", sig := { parameters := [.int], returnType := some .int }, accessFlags := 0, code := some k2c3 }
def k2c4 : Code := { maxStack := 2, maxLocals := 1, code := prog_19_method_5_code, exceptionTable := #[], attributes := #[] }
def k2m4 : Method := { name := "clear", desc := "()V", sig := { parameters := [], returnType := none }, accessFlags := 0, code := some k2c4 }
/-- com/example/arbora/arbora/supertree/Changes -/
def k2 : Class := { plain "com/example/arbora/arbora/supertree/Changes" (some 0) with
  accessFlags := 48
  interfaces := #[]
  cf := some (fileOf pool2 8 #[] #[{ accessFlags := 0, nameIndex := 5, descriptorIndex := 26, attributes := #[] }, { accessFlags := 0, nameIndex := 29, descriptorIndex := 30, attributes := #[] }, { accessFlags := 0, nameIndex := 18, descriptorIndex := 32, attributes := #[] }, { accessFlags := 0, nameIndex := 33, descriptorIndex := 34, attributes := #[] }, { accessFlags := 0, nameIndex := 35, descriptorIndex := 6, attributes := #[] }] 48 2 #[] #[{ accessFlags := 18, nameIndex := 11, descriptorIndex := 12, attributes := #[] }, { accessFlags := 18, nameIndex := 15, descriptorIndex := 12, attributes := #[] }, { accessFlags := 2, nameIndex := 18, descriptorIndex := 19, attributes := #[] }])
  fields := #[{ name := "listedIn", type := (.array .int), accessFlags := 18, slot := 0, constantValue := 0 }, { name := "listed", type := (.array .int), accessFlags := 18, slot := 1, constantValue := 0 }, { name := "size", type := .int, accessFlags := 2, slot := 2, constantValue := 0 }]
  methods := #[k2m0, k2m1, k2m2, k2m3, k2m4]
  instanceTypes := #[(.array .int), (.array .int), .int]
  staticTypes := #[]
  resolved := Array.replicate 39 none
  statics := none }

def pool3 : Array CpInfo := pool [(1, u "java/lang/Cloneable"), (0, .class_ 1), (0, u "java/lang/Object"), (0, .class_ 3)] 3

/-- java/lang/Cloneable -/
def k3 : Class := { plain "java/lang/Cloneable" (some 0) with
  accessFlags := 1537
  interfaces := #[]
  cf := some (fileOf pool3 2 #[] #[] 1537 4 #[] #[])
  fields := #[]
  methods := #[]
  instanceTypes := #[]
  staticTypes := #[]
  resolved := Array.replicate 8 none
  statics := none }

def pool4 : Array CpInfo := pool [(1, u "java/io/Serializable"), (0, .class_ 1), (0, u "java/lang/Object"), (0, .class_ 3)] 3

/-- java/io/Serializable -/
def k4 : Class := { plain "java/io/Serializable" (some 0) with
  accessFlags := 1537
  interfaces := #[]
  cf := some (fileOf pool4 2 #[] #[] 1537 4 #[] #[])
  fields := #[]
  methods := #[]
  instanceTypes := #[]
  staticTypes := #[]
  resolved := Array.replicate 8 none
  statics := none }

/-- the primitive byte -/
def k5 : Class := { plain "byte" none with kind := .primitive 'B', accessFlags := 0x411 }
/-- [B -/
def k6 : Class := { plain "[B" (some 0) with kind := .array 5 .byte, interfaces := #[3, 4], accessFlags := 1041 }

/-- the primitive int -/
def k7 : Class := { plain "int" none with kind := .primitive 'I', accessFlags := 0x411 }
/-- [I -/
def k8 : Class := { plain "[I" (some 0) with kind := .array 7 .int, interfaces := #[3, 4], accessFlags := 1041 }

def heap : Heap := #[]
def classes : Array Class := #[k0, k1, k2, k3, k4, k5, k6, k7, k8]
def interned : List (Array UInt16 × Addr) := []
def slotsUsed : Nat := 0
def theMethod : MethodId := ⟨1, 1⟩
def args0 : Array Value := #[.int 5, .int 7, .int 9, .int 1, .int 2]
def aboutOver (below : List Frame) : State where
  vm := { classes := classes, interned := interned.toArray }
  heap := heap
  slotsUsed := slotsUsed
  threads := #[{ frames := .invoking theMethod args0 :: below }]
def below0 : List Frame := [.native { method := ⟨0, 0⟩, args := #[] }]
def about1 : State := aboutOver below0
def p0 : Program := .bare "" "" ""
def e0 : Env := launch0.env 0 0 0
theorem w_frames : about1.frames = Frame.invoking theMethod args0 :: below0 := rfl
set_option maxRecDepth 65536 in
theorem w_args : argsFit about1.vm theMethod args0 = true := by decide +kernel
set_option maxRecDepth 65536 in
theorem w_heap : heapFits about1 = true := by decide +kernel
set_option maxRecDepth 65536 in
theorem w_runnable : about1.curStatus? = some .runnable := by decide +kernel
set_option maxRecDepth 65536 in
theorem w_alone : about1.alone = true := by decide +kernel
set_option maxRecDepth 65536 in
theorem w_named : about1.methodNamed? x = some theMethod := by decide +kernel
set_option maxRecDepth 65536 in
theorem w_hears : about1.hears theMethod below0 = true := by decide +kernel
set_option maxRecDepth 65536 in
theorem w_ripe : about1.ripe theMethod args0 below0 = true := by decide +kernel
theorem w_running : about1.status = .running := rfl
set_option maxRecDepth 65536 in
theorem w_room : about1.hasRoom e0.platform room_1 = true :=
  launch0.hasRoom_least _ room_1 (by decide +kernel) (by decide +kernel) (by decide +kernel) (by decide +kernel) (by decide +kernel) (by decide +kernel)
theorem allAtoms_all (ts : List Jvm.Cond) (a : Array Jvm.Value) (st : Jvm.State) : (allAtoms ts).before a st = ts.all (fun c => c.before a st) := by
  induction ts with
  | nil => rfl
  | cons c t ih =>
    show (Jvm.Cond.and c (allAtoms t)).before a st = _
    rw [Jvm.Cond.before_and, ih, List.all_cons]
def words1 : List Jvm.Cond := Jvm.Cond.code x code maxLocals ret :: tables_1
/-- a 'code' word, met by the world's own term for the bytes: nothing is compared byte by byte -/
theorem code_word {y : MethodName} {bytes : ByteArray} {mx : Nat} {rt : Option FieldType} {a : Array Value} {s : State} {m : MethodId} {meth : Method} {c : Code} (h1 : s.methodNamed? y = some m) (h2 : s.vm.method? m = some meth) (h3 : meth.code = some c) (h4 : c.code = bytes)
    (h5 : (c.maxLocals == mx && c.exceptionTable.isEmpty && decide (c.maxStack ≤ mostOperands) && decide (meth.sig.returnType = rt) && !meth.locks && decide (parseMethodDescriptor y.desc = some meth.sig)) = true) : (Jvm.Cond.code y bytes mx rt).before a s = true := by
  simp only [Bool.and_eq_true, beq_iff_eq, Bool.not_eq_true', decide_eq_true_eq] at h5
  obtain ⟨⟨⟨⟨⟨g1, g2⟩, g3⟩, g4⟩, g5⟩, g6⟩ := h5
  simp [Cond.before, Cond.holds, Cond.value, h1, h2, h3, h4, g1, g2, g3, g4, g5, g6]
def isCode : Jvm.Cond → Bool
  | .code _ _ _ _ => true
  | _ => false
theorem all_split {L : List Jvm.Cond} {P : Jvm.Cond → Bool} (h1 : L.all (fun c => isCode c || P c) = true) (h2 : ∀ c ∈ L.filter isCode, P c = true) : L.all P = true := by
  refine List.all_eq_true.mpr fun c hc => ?_
  have h := List.all_eq_true.mp h1 c hc
  rcases Bool.eq_false_or_eq_true (isCode c) with hi | hi
  · exact h2 c (List.mem_filter.mpr ⟨hc, hi⟩)
  · simpa [hi] using h
set_option maxRecDepth 65536 in
theorem w_c0 : (Jvm.Cond.code x code maxLocals ret).before args0 about1 = true := code_word (m := ⟨1, 1⟩) (meth := k1m1) (c := k1c1) (by decide +kernel) rfl rfl rfl (by decide +kernel)
set_option maxRecDepth 65536 in
theorem w_c1 : (Jvm.Cond.code ({ cls := "com/example/arbora/arbora/supertree/Changes", name := "<init>", desc := "(I)V" } : Jvm.MethodName) prog_19_method_1_code (2 : Nat) (Option.none : Option Jvm.ClassFile.FieldType)).before args0 about1 = true := code_word (m := ⟨2, 0⟩) (meth := k2m0) (c := k2c0) (by decide +kernel) rfl rfl rfl (by decide +kernel)
set_option maxRecDepth 65536 in
theorem w_c2 : (Jvm.Cond.code ({ cls := "java/lang/Object", name := "<init>", desc := "()V" } : Jvm.MethodName) object_method_1_code (1 : Nat) (Option.none : Option Jvm.ClassFile.FieldType)).before args0 about1 = true := code_word (m := ⟨0, 0⟩) (meth := k0m0) (c := k0c0) (by decide +kernel) rfl rfl rfl (by decide +kernel)
set_option maxRecDepth 65536 in
theorem w_c3 : (Jvm.Cond.code ({ cls := "com/example/arbora/arbora/supertree/Changes", name := "add", desc := "(II)Z" } : Jvm.MethodName) prog_19_method_2_code (3 : Nat) (Option.some Jvm.ClassFile.FieldType.boolean)).before args0 about1 = true := code_word (m := ⟨2, 1⟩) (meth := k2m1) (c := k2c1) (by decide +kernel) rfl rfl rfl (by decide +kernel)
set_option maxRecDepth 65536 in
theorem w_c4 : (Jvm.Cond.code ({ cls := "com/example/arbora/arbora/supertree/Changes", name := "size", desc := "()I" } : Jvm.MethodName) prog_19_method_3_code (1 : Nat) (Option.some Jvm.ClassFile.FieldType.int)).before args0 about1 = true := code_word (m := ⟨2, 2⟩) (meth := k2m2) (c := k2c2) (by decide +kernel) rfl rfl rfl (by decide +kernel)
set_option maxRecDepth 65536 in
theorem w_c5 : (Jvm.Cond.code ({ cls := "com/example/arbora/arbora/supertree/Changes", name := "get", desc := "(I)I" } : Jvm.MethodName) prog_19_method_4_code (2 : Nat) (Option.some Jvm.ClassFile.FieldType.int)).before args0 about1 = true := code_word (m := ⟨2, 3⟩) (meth := k2m3) (c := k2c3) (by decide +kernel) rfl rfl rfl (by decide +kernel)
set_option maxRecDepth 65536 in
theorem w_c6 : (Jvm.Cond.code ({ cls := "com/example/arbora/arbora/supertree/Changes", name := "clear", desc := "()V" } : Jvm.MethodName) prog_19_method_5_code (1 : Nat) (Option.none : Option Jvm.ClassFile.FieldType)).before args0 about1 = true := code_word (m := ⟨2, 4⟩) (meth := k2m4) (c := k2c4) (by decide +kernel) rfl rfl rfl (by decide +kernel)
def codes1 : List Jvm.Cond := [Jvm.Cond.code x code maxLocals ret, Jvm.Cond.code ({ cls := "com/example/arbora/arbora/supertree/Changes", name := "<init>", desc := "(I)V" } : Jvm.MethodName) prog_19_method_1_code (2 : Nat) (Option.none : Option Jvm.ClassFile.FieldType), Jvm.Cond.code ({ cls := "java/lang/Object", name := "<init>", desc := "()V" } : Jvm.MethodName) object_method_1_code (1 : Nat) (Option.none : Option Jvm.ClassFile.FieldType), Jvm.Cond.code ({ cls := "com/example/arbora/arbora/supertree/Changes", name := "add", desc := "(II)Z" } : Jvm.MethodName) prog_19_method_2_code (3 : Nat) (Option.some Jvm.ClassFile.FieldType.boolean), Jvm.Cond.code ({ cls := "com/example/arbora/arbora/supertree/Changes", name := "size", desc := "()I" } : Jvm.MethodName) prog_19_method_3_code (1 : Nat) (Option.some Jvm.ClassFile.FieldType.int), Jvm.Cond.code ({ cls := "com/example/arbora/arbora/supertree/Changes", name := "get", desc := "(I)I" } : Jvm.MethodName) prog_19_method_4_code (2 : Nat) (Option.some Jvm.ClassFile.FieldType.int), Jvm.Cond.code ({ cls := "com/example/arbora/arbora/supertree/Changes", name := "clear", desc := "()V" } : Jvm.MethodName) prog_19_method_5_code (1 : Nat) (Option.none : Option Jvm.ClassFile.FieldType)]
set_option maxRecDepth 65536 in
theorem codes_eq : words1.filter isCode = codes1 := rfl
theorem w_codes : ∀ c ∈ words1.filter isCode, c.before args0 about1 = true := by
  rw [codes_eq]
  intro c hc
  simp only [codes1, List.mem_cons, List.not_mem_nil, or_false] at hc
  rcases hc with rfl | rfl | rfl | rfl | rfl | rfl | rfl
  · exact w_c0
  · exact w_c1
  · exact w_c2
  · exact w_c3
  · exact w_c4
  · exact w_c5
  · exact w_c6
set_option maxRecDepth 65536 in
theorem w_t1 : (words1.take 24).all (fun c => isCode c || c.before args0 about1) = true := by decide +kernel
set_option maxRecDepth 65536 in
theorem w_t2 : (words1.drop 24).all (fun c => isCode c || c.before args0 about1) = true := by decide +kernel
theorem w_tables : (allAtoms (Jvm.Cond.code x code maxLocals ret :: tables_1)).before args0 about1 = true := by
  rw [allAtoms_all]
  show words1.all (fun c => c.before args0 about1) = true
  refine all_split ?_ w_codes
  rw [← List.take_append_drop 24 words1, List.all_append, w_t1, w_t2]
  rfl
set_option maxRecDepth 65536 in
theorem w_case : (Jvm.Cond.and given_1 narrow_1).before args0 about1 = true := by decide +kernel
theorem w_applies : (headSpec (Jvm.Cond.code x code maxLocals ret :: tables_1) room_1).applies x e0.platform about1 = true :=
  (Spec.applies_iff w_frames).mpr ⟨w_running, w_runnable, w_alone, w_named, w_hears, w_ripe, w_room, w_tables⟩
theorem atStart : AtStart classFile x code maxLocals ret World_1 tables_1 room_1 Calls_1 rest_1 Pre_1 launch0 p0 e0 about1 theMethod args0 below0 :=
  ⟨lists_1, trivial, launch0.admits_env _ _ _, launch0.least_env, fairChoices_fair.cas, fairChoices_fair.clock, w_frames, w_args, w_heap, w_applies, trivial, trivial, w_case⟩
end start1
theorem witness_1 : WitnessClaimed_1 := ⟨start1.p0, start1.e0, start1.about1, start1.theMethod, start1.args0, start1.below0, start1.atStart⟩
end Jvm.Pilot.@@N@@
