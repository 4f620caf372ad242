import JvmDerived
import JvmDerived.Pilot.@@N@@Statement
import JvmDerived.Pilot.@@N@@Code
set_option linter.unusedVariables false
set_option linter.unusedSimpArgs false
namespace Jvm.RoadKit
open Sem ClassFile Op Lib Jvm.Stand Jvm.Free Jvm.LawKit
section New
variable {p : Program} {l : Launch} {e : Env} {R : Room} {s : State} {m : MethodId} {args : Array Value} {below : List Frame} {meth : Method} {c : Code} {T : State} {locs : List Loc} {cells slots : Nat}
theorem retI (X : Stand p l e R s m args below meth c T locs cells slots) (hx : p.tables.exec = Jvm.exec) {pc : Nat} {Ls : Array Slot} {z : Int32} {rest : List Value} (hret : meth.sig.returnType = some .int) (hd : decode c.code pc = .ok (.ireturn, 1)) {fs : List Frame}
    (hl : ∀ (f : JFrame) (acts : List Action), f.method = m → f.locked = none → f.entered = [] → (doReturn e (T.setTop f) acts (some (.int z))).1 = T.setFrames fs) : Steps p.tables e below (T.setTop (mkF m pc Ls (.int z :: rest))) (T.setFrames fs) := by
  have hm' : T.vm.method? m = some meth := X.method'
  have hn : narrow .int (.int z) = .int z := rfl
  show Steps p.tables e below (T.setTop { method := m, pc := pc, locals := Ls, stack := _ :: rest, locked := none }) _
  jvm_step X.here [X.here.top, hx, hd, hm', hret, hn]
  first | (intro acts; rw [hl _ acts rfl rfl rfl]) | rw [hl _ _ rfl rfl rfl]
  exact Steps.refl _
end New
end Jvm.RoadKit
namespace Jvm.Pilot.@@N@@
open Jvm Jvm.ClassFile Sem Op Lib Jvm.Free Jvm.Stand Jvm.LawKit Jvm.RoadKit Bundle Jvm.Pilot.@@N@@.Jvm.D
def own_over (c : Int32) (w : Int64) (x : Int32) : Int32 := if (65535 : Int32) < c then 1 else if (0 : Int32) < lcmpW w (x.toInt64) then 1 else 0
def own_b1 (i : Int32) : Int32 := if (i &&& (1 : Int32)) = (0 : Int32) then (0 : Int32) else (1 : Int32)
def own_b2 (i : Int32) : Int32 := if (i &&& (2 : Int32)) = (0 : Int32) then (0 : Int32) else (1 : Int32)
def own_d (i : Int32) : Int32 := (i &&& (7 : Int32)) - (4 : Int32)
def own_c (b i d : Int32) : Int32 := if b = (0 : Int32) then i else ((65535 : Int32) + d)
def own_w (b : Int32) (j : Int64) (x d : Int32) : Int64 := if b = (0 : Int32) then j else ((x.toInt64) + (d.toInt64))
def own_cp (b i d : Int32) : Int32 := if b = (0 : Int32) then (if i < (65536 : Int32) then (0 : Int32) else (1 : Int32)) else (if (0 : Int32) < d then (1 : Int32) else (0 : Int32))
def own_lp (b : Int32) (j : Int64) (x d : Int32) : Int32 := if b = (0 : Int32) then (if (lcmpW j ((x.toInt64) + (1 : Int64))) < (0 : Int32) then (0 : Int32) else (1 : Int32)) else (if (0 : Int32) < d then (1 : Int32) else (0 : Int32))
def own_or (a b : Int32) : Int32 := if a = (0 : Int32) then (if b = (0 : Int32) then (0 : Int32) else (1 : Int32)) else (1 : Int32)
theorem own_d_rng (i : Int32) : -4 ≤ (own_d i).toInt ∧ (own_d i).toInt ≤ 3 := by
  have h1 : (i &&& (7 : Int32)).toBitVec.toNat = i.toBitVec.toNat &&& 7 := rfl
  have h2 : i.toBitVec.toNat &&& 7 ≤ 7 := Nat.and_le_right
  have h3 : (i &&& (7 : Int32)).toInt = (i &&& (7 : Int32)).toBitVec.toInt := rfl
  have h4 := BitVec.toInt_eq_toNat_cond (i &&& (7 : Int32)).toBitVec
  have h5 : 0 ≤ (i &&& (7 : Int32)).toInt ∧ (i &&& (7 : Int32)).toInt ≤ 7 := by
    rw [h3, h4, h1]
    split <;> omega
  unfold own_d
  generalize (i &&& (7 : Int32)) = w at h5
  have h6 : (w - (4 : Int32)).toInt = (w.toInt - (4 : Int32).toInt).bmod (2 ^ 32) := Int32.toInt_sub w 4
  have h7 : (4 : Int32).toInt = 4 := by decide
  rw [h6, h7, Int.bmod_eq_of_le (by omega) (by omega)]
  omega
theorem own_i64 (x : Int32) : x.toInt64.toInt = x.toInt := Int32.toInt_toInt64 x
theorem own_bnd (x : Int32) : -2147483648 ≤ x.toInt ∧ x.toInt ≤ 2147483647 := by
  have h1 := x.minValue_le_toInt
  have h2 := x.toInt_le
  constructor
  · exact h1
  · exact h2
theorem own_part1 (b i d : Int32) (hd : -4 ≤ d.toInt ∧ d.toInt ≤ 3) : ((65535 : Int32) < own_c b i d) ↔ ¬ (own_cp b i d = 0) := by
  have h1 : (65535 : Int32).toInt = 65535 := by decide
  have h2 : (65536 : Int32).toInt = 65536 := by decide
  have h3 : (0 : Int32).toInt = 0 := by decide
  have hn : ¬ ((1 : Int32) = 0) := by decide
  unfold own_c own_cp
  by_cases hb : b = (0 : Int32)
  · rw [if_pos hb, if_pos hb]
    by_cases hi : i < (65536 : Int32)
    · rw [if_pos hi]
      rw [Int32.lt_iff_toInt_lt] at hi ⊢
      simp only [not_true_eq_false, iff_false]
      omega
    · rw [if_neg hi]
      rw [Int32.lt_iff_toInt_lt] at hi ⊢
      simp only [hn, not_false_eq_true, iff_true]
      omega
  · rw [if_neg hb, if_neg hb]
    have h4 : ((65535 : Int32) + d).toInt = ((65535 : Int32).toInt + d.toInt).bmod (2 ^ 32) := Int32.toInt_add _ _
    rw [h1, Int.bmod_eq_of_le (by omega) (by omega)] at h4
    by_cases hi : (0 : Int32) < d
    · rw [if_pos hi]
      rw [Int32.lt_iff_toInt_lt] at hi ⊢
      simp only [hn, not_false_eq_true, iff_true]
      omega
    · rw [if_neg hi]
      rw [Int32.lt_iff_toInt_lt] at hi ⊢
      simp only [not_true_eq_false, iff_false]
      omega
theorem own_part2 (b : Int32) (j : Int64) (x d : Int32) (hd : -4 ≤ d.toInt ∧ d.toInt ≤ 3) : ((0 : Int32) < lcmpW (own_w b j x d) (x.toInt64)) ↔ ¬ (own_lp b j x d = 0) := by
  have h1 : (1 : Int64).toInt = 1 := by decide
  have h3 : (0 : Int32).toInt = 0 := by decide
  have hn : ¬ ((1 : Int32) = 0) := by decide
  have hx := own_bnd x
  rw [lw_gt, Int64.lt_iff_toInt_lt, own_i64]
  unfold own_w own_lp
  by_cases hb : b = (0 : Int32)
  · rw [if_pos hb, if_pos hb]
    have h4 : (x.toInt64 + (1 : Int64)).toInt = (x.toInt64.toInt + (1 : Int64).toInt).bmod (2 ^ 64) := Int64.toInt_add _ _
    rw [h1, own_i64, Int.bmod_eq_of_le (by omega) (by omega)] at h4
    by_cases hi : (lcmpW j ((x.toInt64) + (1 : Int64))) < (0 : Int32)
    · rw [if_pos hi]
      rw [lw_lt, Int64.lt_iff_toInt_lt, h4] at hi
      simp only [not_true_eq_false, iff_false]
      omega
    · rw [if_neg hi]
      rw [lw_lt, Int64.lt_iff_toInt_lt, h4] at hi
      simp only [hn, not_false_eq_true, iff_true]
      omega
  · rw [if_neg hb, if_neg hb]
    have h4 : (x.toInt64 + d.toInt64).toInt = (x.toInt64.toInt + d.toInt64.toInt).bmod (2 ^ 64) := Int64.toInt_add _ _
    rw [own_i64, own_i64, Int.bmod_eq_of_le (by omega) (by omega)] at h4
    by_cases hi : (0 : Int32) < d
    · rw [if_pos hi]
      rw [Int32.lt_iff_toInt_lt] at hi
      simp only [hn, not_false_eq_true, iff_true]
      omega
    · rw [if_neg hi]
      rw [Int32.lt_iff_toInt_lt] at hi
      simp only [not_true_eq_false, iff_false]
      omega
theorem own_all (b i d b' : Int32) (j : Int64) (x d' : Int32) (hd : -4 ≤ d.toInt ∧ d.toInt ≤ 3) (hd' : -4 ≤ d'.toInt ∧ d'.toInt ≤ 3) :
    own_over (own_c b i d) (own_w b' j x d') x = own_or (own_cp b i d) (own_lp b' j x d') := by
  have h1 := own_part1 b i d hd
  have h2 := own_part2 b' j x d' hd'
  unfold own_over own_or
  by_cases p1 : own_cp b i d = 0
  · rw [if_neg (fun q => h1.mp q p1), if_pos p1]
    by_cases p2 : own_lp b' j x d' = 0
    · rw [if_neg (fun q => h2.mp q p2), if_pos p2]
    · rw [if_pos (h2.mpr p2), if_neg p2]
  · rw [if_pos (h1.mpr p1), if_neg p1]
theorem d1_0 : decode prog_81_method_4_code 0 = .ok (.iload_n 0, 1) := by decide +kernel
theorem d1_1 : decode prog_81_method_4_code 1 = .ok (.ldc 58, 2) := by decide +kernel
theorem d1_3 : decode prog_81_method_4_code 3 = .ok (.if_icmp .gt 10, 3) := by decide +kernel
theorem d1_13 : decode prog_81_method_4_code 13 = .ok (.iconst 1, 1) := by decide +kernel
theorem d1_14 : decode prog_81_method_4_code 14 = .ok (.goto 4, 3) := by decide +kernel
theorem d1_18 : decode prog_81_method_4_code 18 = .ok (.ireturn, 1) := by decide +kernel
theorem pn_1 : plainName "com/example/signpost/signpost/wire/ServiceReply" = true := by first | (simp [plainName, overriddenIn]; done) | decide +kernel
theorem ef_1 (m : MethodId) (x0 : Int32) (x1 : Int64) (x2 : Int32) : entryFrame m #[(.int x0), (.long x1), (.int x2)] 4 = mkF m 0 #[.val (.int x0), .val (.long x1), .second, .val (.int x2)] [] := by first | (simp [entryFrame, mkF, argsToLocals, Value.category]; done) | rfl
theorem d1_6 : decode prog_81_method_4_code 6 = .ok (.lload_n 1, 1) := by decide +kernel
theorem d1_7 : decode prog_81_method_4_code 7 = .ok (.iload_n 3, 1) := by decide +kernel
theorem d1_8 : decode prog_81_method_4_code 8 = .ok (.i2l, 1) := by decide +kernel
theorem d1_9 : decode prog_81_method_4_code 9 = .ok (.lcmp, 1) := by decide +kernel
theorem d1_10 : decode prog_81_method_4_code 10 = .ok (.ifCond .le 7, 3) := by decide +kernel
theorem d1_17 : decode prog_81_method_4_code 17 = .ok (.iconst 0, 1) := by decide +kernel
def Q1 (Z : State) (p1 : Int32) (q2 : Int64) (p3 : Int32) (h0 : Heap) (n0 : Nat) (v : Option Value) (h : Heap) (L : List Loc) : Prop := v = some (.int (own_over p1 q2 p3)) ∧ Fr n0 L ∧ h = h0
set_option maxRecDepth 65536 in
set_option maxHeartbeats 40000000 in
theorem rm1_t (l : Launch) (Z : State) (a0 : Array Value) (hw : ∀ d ∈ tables_1, d.before a0 Z = true) (ws : List Jvm.Cond) (p1 : Int32) (q2 : Int64) (p3 : Int32) (h0 : Heap) (n0 : Nat) (Z0 : n0 ≤ h0.size) (hc3 : (65535 : Int32) < p1) :
    MetFree l (⟨"com/example/signpost/signpost/wire/ServiceReply", "overfills", "(IJI)Z"⟩ : MethodName) (head1 (Jvm.Cond.code (⟨"com/example/signpost/signpost/wire/ServiceReply", "overfills", "(IJI)Z"⟩ : MethodName) prog_81_method_4_code 4 (some .boolean) :: ws) ({ frames := 0, cells := 0, slots := 0, locals := 0 } : Room)) (fun a U => a = #[(.int p1), (.long q2), (.int p3)] ∧ Z.Warmed39 U.vm ∧ U.heap = h0) (fun _ _ _ _ _ => True) (fun _ U o U' => ∃ v L, o = .returned v ∧ Q1 Z p1 q2 p3 h0 n0 v U'.heap L ∧ FrameEnd U o U' L ({ frames := 0, cells := 0, slots := 0, locals := 0 } : Room).cells ({ frames := 0, cells := 0, slots := 0, locals := 0 } : Room).slots) := by
  refine MetFree.of_bodySF (plainFor_of_name pn_1) hisR ?_
  intro p e s m args below meth c s₁ Bd hml0 hP hK
  obtain ⟨rfl, hZ, hh⟩ := hP
  have hx := Bd.exec
  have hby := Bd.bytes
  have hml : c.maxLocals = 4 := hml0
  have hown : s.vm.findClass "com/example/signpost/signpost/wire/ServiceReply" = some m.cls := findClass_of_methodNamed Bd.named
  have hnm := (name_of_methodNamed Bd.named Bd.method).1
  have X0 : Stand p l e ({ frames := 0, cells := 0, slots := 0, locals := 0 } : Room) s m #[(.int p1), (.long q2), (.int p3)] below meth c s₁ [] 0 0 := Stand.of_body Bd
  have e0 : s₁.heap = h0 := by rw [← hh, Bd.state]; rfl
  have N0 := Fr.nil n0
  have pre0 : ∀ t, Steps p.tables e below (s₁.setTop (mkF m 0 #[.val (.int p1), .val (.long q2), .second, .val (.int p3)] [])) t → Steps p.tables e below (s₁.setTop (entryFrame m #[(.int p1), (.long q2), (.int p3)] 4)) t := fun t k => castTop (ef_1 m p1 q2 p3) k
  obtain ⟨fs, hr, hrun, hended, hW, hsame⟩ := X0.leave (v := some (.int (1 : Int32))) (fun h => by rw [Bd.returns] at h; cases h)
  refine ⟨_, _, pre0 _ ?_, hrun, hended, _, _, rfl, ?_, ⟨_, rfl⟩, hW, hsame.mono (by decide) (by decide)⟩
  · show Steps p.tables e below (s₁.setTop (mkF m 0 #[.val (.int p1), .val (.long q2), .second, .val (.int p3)] [])) _
    refine XS.iloadN X0.here hx rfl (hb hby d1_0) rfl ?_
    show Steps p.tables e below (s₁.setTop (mkF m 1 #[.val (.int p1), .val (.long q2), .second, .val (.int p3)] [(.int p1)])) _
    refine X0.ldcInt hx hown (mvT hZ (hw _ (List.mem_of_getElem? (i := 5) rfl))) (g := (mkF m 1 #[.val (.int p1), .val (.long q2), .second, .val (.int p3)] [(.int p1)])) rfl (hb hby d1_1) _ ?_
    show Steps p.tables e below (s₁.setTop (mkF m 3 #[.val (.int p1), .val (.long q2), .second, .val (.int p3)] [(.int (65535 : Int32)), (.int p1)])) _
    refine XS.icmpYes X0.here hx rfl (pc0 := 3) (pc' := 13) rfl (hb hby d1_3) rfl (tlt hc3).2.2.1 (by decide) (by decide) ?_
    show Steps p.tables e below (s₁.setTop (mkF m 13 #[.val (.int p1), .val (.long q2), .second, .val (.int p3)] [])) _
    refine XS.iconst X0.here hx rfl (hb hby d1_13) ?_
    show Steps p.tables e below (s₁.setTop (mkF m 14 #[.val (.int p1), .val (.long q2), .second, .val (.int p3)] [(.int (1 : Int32))])) _
    refine XS.goto X0.here hx rfl (pc0 := 14) (pc' := 18) rfl (hb hby d1_14) (by decide) (by decide) ?_
    show Steps p.tables e below (s₁.setTop (mkF m 18 #[.val (.int p1), .val (.long q2), .second, .val (.int p3)] [(.int (1 : Int32))])) _
    exact retN X0 hx (t := .boolean) Bd.returns (by simp) (hb hby d1_18) hr
  · show Q1 Z p1 q2 p3 h0 n0 _ s₁.heap _
    rw [e0]
    exact ⟨by unfold own_over; rw [if_pos hc3], N0, rfl⟩
set_option maxRecDepth 65536 in
set_option maxHeartbeats 40000000 in
theorem rm1_ft (l : Launch) (Z : State) (a0 : Array Value) (hw : ∀ d ∈ tables_1, d.before a0 Z = true) (ws : List Jvm.Cond) (p1 : Int32) (q2 : Int64) (p3 : Int32) (h0 : Heap) (n0 : Nat) (Z0 : n0 ≤ h0.size) (hc3 : ¬ ((65535 : Int32) < p1)) (hc10 : ¬ ((0 : Int32) < (lcmpW q2 (p3.toInt64)))) :
    MetFree l (⟨"com/example/signpost/signpost/wire/ServiceReply", "overfills", "(IJI)Z"⟩ : MethodName) (head1 (Jvm.Cond.code (⟨"com/example/signpost/signpost/wire/ServiceReply", "overfills", "(IJI)Z"⟩ : MethodName) prog_81_method_4_code 4 (some .boolean) :: ws) ({ frames := 0, cells := 0, slots := 0, locals := 0 } : Room)) (fun a U => a = #[(.int p1), (.long q2), (.int p3)] ∧ Z.Warmed39 U.vm ∧ U.heap = h0) (fun _ _ _ _ _ => True) (fun _ U o U' => ∃ v L, o = .returned v ∧ Q1 Z p1 q2 p3 h0 n0 v U'.heap L ∧ FrameEnd U o U' L ({ frames := 0, cells := 0, slots := 0, locals := 0 } : Room).cells ({ frames := 0, cells := 0, slots := 0, locals := 0 } : Room).slots) := by
  refine MetFree.of_bodySF (plainFor_of_name pn_1) hisR ?_
  intro p e s m args below meth c s₁ Bd hml0 hP hK
  obtain ⟨rfl, hZ, hh⟩ := hP
  have hx := Bd.exec
  have hby := Bd.bytes
  have hml : c.maxLocals = 4 := hml0
  have hown : s.vm.findClass "com/example/signpost/signpost/wire/ServiceReply" = some m.cls := findClass_of_methodNamed Bd.named
  have hnm := (name_of_methodNamed Bd.named Bd.method).1
  have X0 : Stand p l e ({ frames := 0, cells := 0, slots := 0, locals := 0 } : Room) s m #[(.int p1), (.long q2), (.int p3)] below meth c s₁ [] 0 0 := Stand.of_body Bd
  have e0 : s₁.heap = h0 := by rw [← hh, Bd.state]; rfl
  have N0 := Fr.nil n0
  have pre0 : ∀ t, Steps p.tables e below (s₁.setTop (mkF m 0 #[.val (.int p1), .val (.long q2), .second, .val (.int p3)] [])) t → Steps p.tables e below (s₁.setTop (entryFrame m #[(.int p1), (.long q2), (.int p3)] 4)) t := fun t k => castTop (ef_1 m p1 q2 p3) k
  obtain ⟨fs, hr, hrun, hended, hW, hsame⟩ := X0.leave (v := some (.int (0 : Int32))) (fun h => by rw [Bd.returns] at h; cases h)
  refine ⟨_, _, pre0 _ ?_, hrun, hended, _, _, rfl, ?_, ⟨_, rfl⟩, hW, hsame.mono (by decide) (by decide)⟩
  · show Steps p.tables e below (s₁.setTop (mkF m 0 #[.val (.int p1), .val (.long q2), .second, .val (.int p3)] [])) _
    refine XS.iloadN X0.here hx rfl (hb hby d1_0) rfl ?_
    show Steps p.tables e below (s₁.setTop (mkF m 1 #[.val (.int p1), .val (.long q2), .second, .val (.int p3)] [(.int p1)])) _
    refine X0.ldcInt hx hown (mvT hZ (hw _ (List.mem_of_getElem? (i := 5) rfl))) (g := (mkF m 1 #[.val (.int p1), .val (.long q2), .second, .val (.int p3)] [(.int p1)])) rfl (hb hby d1_1) _ ?_
    show Steps p.tables e below (s₁.setTop (mkF m 3 #[.val (.int p1), .val (.long q2), .second, .val (.int p3)] [(.int (65535 : Int32)), (.int p1)])) _
    refine XS.icmpNo X0.here hx rfl (hb hby d1_3) rfl (flt hc3).2.2.1 ?_
    show Steps p.tables e below (s₁.setTop (mkF m 6 #[.val (.int p1), .val (.long q2), .second, .val (.int p3)] [])) _
    refine XS.lloadN X0.here hx rfl (hb hby d1_6) rfl ?_
    show Steps p.tables e below (s₁.setTop (mkF m 7 #[.val (.int p1), .val (.long q2), .second, .val (.int p3)] [(.long q2)])) _
    refine XS.iloadN X0.here hx rfl (hb hby d1_7) rfl ?_
    show Steps p.tables e below (s₁.setTop (mkF m 8 #[.val (.int p1), .val (.long q2), .second, .val (.int p3)] [(.int p3), (.long q2)])) _
    refine XS.i2l X0.here hx rfl (hb hby d1_8) rfl ?_
    show Steps p.tables e below (s₁.setTop (mkF m 9 #[.val (.int p1), .val (.long q2), .second, .val (.int p3)] [(.long (p3.toInt64)), (.long q2)])) _
    refine XS.lcmp X0.here hx rfl (hb hby d1_9) rfl ?_
    show Steps p.tables e below (s₁.setTop (mkF m 10 #[.val (.int p1), .val (.long q2), .second, .val (.int p3)] [(.int (lcmpW q2 (p3.toInt64)))])) _
    refine XS.ifYes X0.here hx rfl (pc0 := 10) (pc' := 17) rfl (hb hby d1_10) rfl ((if0 _ _).trans (flt hc10).2.2.2) (by decide) (by decide) ?_
    show Steps p.tables e below (s₁.setTop (mkF m 17 #[.val (.int p1), .val (.long q2), .second, .val (.int p3)] [])) _
    refine XS.iconst X0.here hx rfl (hb hby d1_17) ?_
    show Steps p.tables e below (s₁.setTop (mkF m 18 #[.val (.int p1), .val (.long q2), .second, .val (.int p3)] [(.int (0 : Int32))])) _
    exact retN X0 hx (t := .boolean) Bd.returns (by simp) (hb hby d1_18) hr
  · show Q1 Z p1 q2 p3 h0 n0 _ s₁.heap _
    rw [e0]
    exact ⟨by unfold own_over; rw [if_neg hc3, if_neg hc10], N0, rfl⟩
set_option maxRecDepth 65536 in
set_option maxHeartbeats 40000000 in
theorem rm1_ff (l : Launch) (Z : State) (a0 : Array Value) (hw : ∀ d ∈ tables_1, d.before a0 Z = true) (ws : List Jvm.Cond) (p1 : Int32) (q2 : Int64) (p3 : Int32) (h0 : Heap) (n0 : Nat) (Z0 : n0 ≤ h0.size) (hc3 : ¬ ((65535 : Int32) < p1)) (hc10 : (0 : Int32) < (lcmpW q2 (p3.toInt64))) :
    MetFree l (⟨"com/example/signpost/signpost/wire/ServiceReply", "overfills", "(IJI)Z"⟩ : MethodName) (head1 (Jvm.Cond.code (⟨"com/example/signpost/signpost/wire/ServiceReply", "overfills", "(IJI)Z"⟩ : MethodName) prog_81_method_4_code 4 (some .boolean) :: ws) ({ frames := 0, cells := 0, slots := 0, locals := 0 } : Room)) (fun a U => a = #[(.int p1), (.long q2), (.int p3)] ∧ Z.Warmed39 U.vm ∧ U.heap = h0) (fun _ _ _ _ _ => True) (fun _ U o U' => ∃ v L, o = .returned v ∧ Q1 Z p1 q2 p3 h0 n0 v U'.heap L ∧ FrameEnd U o U' L ({ frames := 0, cells := 0, slots := 0, locals := 0 } : Room).cells ({ frames := 0, cells := 0, slots := 0, locals := 0 } : Room).slots) := by
  refine MetFree.of_bodySF (plainFor_of_name pn_1) hisR ?_
  intro p e s m args below meth c s₁ Bd hml0 hP hK
  obtain ⟨rfl, hZ, hh⟩ := hP
  have hx := Bd.exec
  have hby := Bd.bytes
  have hml : c.maxLocals = 4 := hml0
  have hown : s.vm.findClass "com/example/signpost/signpost/wire/ServiceReply" = some m.cls := findClass_of_methodNamed Bd.named
  have hnm := (name_of_methodNamed Bd.named Bd.method).1
  have X0 : Stand p l e ({ frames := 0, cells := 0, slots := 0, locals := 0 } : Room) s m #[(.int p1), (.long q2), (.int p3)] below meth c s₁ [] 0 0 := Stand.of_body Bd
  have e0 : s₁.heap = h0 := by rw [← hh, Bd.state]; rfl
  have N0 := Fr.nil n0
  have pre0 : ∀ t, Steps p.tables e below (s₁.setTop (mkF m 0 #[.val (.int p1), .val (.long q2), .second, .val (.int p3)] [])) t → Steps p.tables e below (s₁.setTop (entryFrame m #[(.int p1), (.long q2), (.int p3)] 4)) t := fun t k => castTop (ef_1 m p1 q2 p3) k
  obtain ⟨fs, hr, hrun, hended, hW, hsame⟩ := X0.leave (v := some (.int (1 : Int32))) (fun h => by rw [Bd.returns] at h; cases h)
  refine ⟨_, _, pre0 _ ?_, hrun, hended, _, _, rfl, ?_, ⟨_, rfl⟩, hW, hsame.mono (by decide) (by decide)⟩
  · show Steps p.tables e below (s₁.setTop (mkF m 0 #[.val (.int p1), .val (.long q2), .second, .val (.int p3)] [])) _
    refine XS.iloadN X0.here hx rfl (hb hby d1_0) rfl ?_
    show Steps p.tables e below (s₁.setTop (mkF m 1 #[.val (.int p1), .val (.long q2), .second, .val (.int p3)] [(.int p1)])) _
    refine X0.ldcInt hx hown (mvT hZ (hw _ (List.mem_of_getElem? (i := 5) rfl))) (g := (mkF m 1 #[.val (.int p1), .val (.long q2), .second, .val (.int p3)] [(.int p1)])) rfl (hb hby d1_1) _ ?_
    show Steps p.tables e below (s₁.setTop (mkF m 3 #[.val (.int p1), .val (.long q2), .second, .val (.int p3)] [(.int (65535 : Int32)), (.int p1)])) _
    refine XS.icmpNo X0.here hx rfl (hb hby d1_3) rfl (flt hc3).2.2.1 ?_
    show Steps p.tables e below (s₁.setTop (mkF m 6 #[.val (.int p1), .val (.long q2), .second, .val (.int p3)] [])) _
    refine XS.lloadN X0.here hx rfl (hb hby d1_6) rfl ?_
    show Steps p.tables e below (s₁.setTop (mkF m 7 #[.val (.int p1), .val (.long q2), .second, .val (.int p3)] [(.long q2)])) _
    refine XS.iloadN X0.here hx rfl (hb hby d1_7) rfl ?_
    show Steps p.tables e below (s₁.setTop (mkF m 8 #[.val (.int p1), .val (.long q2), .second, .val (.int p3)] [(.int p3), (.long q2)])) _
    refine XS.i2l X0.here hx rfl (hb hby d1_8) rfl ?_
    show Steps p.tables e below (s₁.setTop (mkF m 9 #[.val (.int p1), .val (.long q2), .second, .val (.int p3)] [(.long (p3.toInt64)), (.long q2)])) _
    refine XS.lcmp X0.here hx rfl (hb hby d1_9) rfl ?_
    show Steps p.tables e below (s₁.setTop (mkF m 10 #[.val (.int p1), .val (.long q2), .second, .val (.int p3)] [(.int (lcmpW q2 (p3.toInt64)))])) _
    refine XS.ifNo X0.here hx rfl (hb hby d1_10) rfl ((if0 _ _).trans (tlt hc10).2.2.2) ?_
    show Steps p.tables e below (s₁.setTop (mkF m 13 #[.val (.int p1), .val (.long q2), .second, .val (.int p3)] [])) _
    refine XS.iconst X0.here hx rfl (hb hby d1_13) ?_
    show Steps p.tables e below (s₁.setTop (mkF m 14 #[.val (.int p1), .val (.long q2), .second, .val (.int p3)] [(.int (1 : Int32))])) _
    refine XS.goto X0.here hx rfl (pc0 := 14) (pc' := 18) rfl (hb hby d1_14) (by decide) (by decide) ?_
    show Steps p.tables e below (s₁.setTop (mkF m 18 #[.val (.int p1), .val (.long q2), .second, .val (.int p3)] [(.int (1 : Int32))])) _
    exact retN X0 hx (t := .boolean) Bd.returns (by simp) (hb hby d1_18) hr
  · show Q1 Z p1 q2 p3 h0 n0 _ s₁.heap _
    rw [e0]
    exact ⟨by unfold own_over; rw [if_neg hc3, if_pos hc10], N0, rfl⟩
set_option maxRecDepth 65536 in
set_option maxHeartbeats 40000000 in
theorem rm1 (l : Launch) (Z : State) (a0 : Array Value) (hw : ∀ d ∈ tables_1, d.before a0 Z = true) (ws : List Jvm.Cond) (p1 : Int32) (q2 : Int64) (p3 : Int32) (h0 : Heap) (n0 : Nat) (Z0 : n0 ≤ h0.size) :
    MetFree l (⟨"com/example/signpost/signpost/wire/ServiceReply", "overfills", "(IJI)Z"⟩ : MethodName) (head1 (Jvm.Cond.code (⟨"com/example/signpost/signpost/wire/ServiceReply", "overfills", "(IJI)Z"⟩ : MethodName) prog_81_method_4_code 4 (some .boolean) :: ws) ({ frames := 0, cells := 0, slots := 0, locals := 0 } : Room)) (fun a U => a = #[(.int p1), (.long q2), (.int p3)] ∧ Z.Warmed39 U.vm ∧ U.heap = h0) (fun _ _ _ _ _ => True) (fun _ U o U' => ∃ v L, o = .returned v ∧ Q1 Z p1 q2 p3 h0 n0 v U'.heap L ∧ FrameEnd U o U' L ({ frames := 0, cells := 0, slots := 0, locals := 0 } : Room).cells ({ frames := 0, cells := 0, slots := 0, locals := 0 } : Room).slots) := by
  by_cases h3 : (65535 : Int32) < p1
  · exact rm1_t l Z a0 hw ws p1 q2 p3 h0 n0 Z0 h3
  · by_cases h10 : (0 : Int32) < lcmpW q2 (p3.toInt64)
    · exact rm1_ff l Z a0 hw ws p1 q2 p3 h0 n0 Z0 h3 h10
    · exact rm1_ft l Z a0 hw ws p1 q2 p3 h0 n0 Z0 h3 h10
set_option maxRecDepth 65536 in
set_option maxHeartbeats 40000000 in
theorem tn0_0_14 {p : Program} {l : Launch} {e : Env} {R : Room} {s : State} {m : MethodId} {args : Array Value} {below : List Frame} {meth : Method} {c : Code} {T0 : State} {locs : List Loc} {cells slots : Nat} {Z : State} {a0 : Array Value} {i0 : Int32} {j1 : Int64} {i3 : Int32} {i4 : Int32} {i5 : Int32} {i6 : Int32} (X0 : Stand p l e R s m args below meth c T0 locs cells slots) (hx : p.tables.exec = Jvm.exec) (hZ : Z.Warmed39 s.vm) (hw : ∀ d ∈ tables_1, d.before a0 Z = true) (hby : c.code = code) (hown : s.vm.findClass "com/example/signpost/signpost/wire/ServiceReplyOverfillsPinLaw" = some m.cls) :
    ∀ target, Steps p.tables e below (T0.setTop (mkF m 14 #[.val (.int i0), .val (.long j1), .second, .val (.int i3), .val (.int i4), .val (.int i5), .val (.int i6), .val (.int (if (i4 &&& (1 : Int32)) = (0 : Int32) then (0 : Int32) else (1 : Int32))), .unset, .unset, .unset, .unset, .unset, .unset, .unset, .unset] [])) target → Steps p.tables e below (T0.setTop (mkF m 0 #[.val (.int i0), .val (.long j1), .second, .val (.int i3), .val (.int i4), .val (.int i5), .val (.int i6), .unset, .unset, .unset, .unset, .unset, .unset, .unset, .unset, .unset] [])) target := by
  intro target kt
  show Steps p.tables e below (T0.setTop (mkF m 0 #[.val (.int i0), .val (.long j1), .second, .val (.int i3), .val (.int i4), .val (.int i5), .val (.int i6), .unset, .unset, .unset, .unset, .unset, .unset, .unset, .unset, .unset] [])) _
  refine XS.iload X0.here hx rfl (hb hby at_0) rfl ?_
  show Steps p.tables e below (T0.setTop (mkF m 2 #[.val (.int i0), .val (.long j1), .second, .val (.int i3), .val (.int i4), .val (.int i5), .val (.int i6), .unset, .unset, .unset, .unset, .unset, .unset, .unset, .unset, .unset] [(.int i4)])) _
  refine XS.iconst X0.here hx rfl (hb hby at_2) ?_
  show Steps p.tables e below (T0.setTop (mkF m 3 #[.val (.int i0), .val (.long j1), .second, .val (.int i3), .val (.int i4), .val (.int i5), .val (.int i6), .unset, .unset, .unset, .unset, .unset, .unset, .unset, .unset, .unset] [(.int (1 : Int32)), (.int i4)])) _
  refine XS.iand X0.here hx rfl (hb hby at_3) rfl ?_
  show Steps p.tables e below (T0.setTop (mkF m 4 #[.val (.int i0), .val (.long j1), .second, .val (.int i3), .val (.int i4), .val (.int i5), .val (.int i6), .unset, .unset, .unset, .unset, .unset, .unset, .unset, .unset, .unset] [(.int (i4 &&& (1 : Int32)))])) _
  by_cases hc4 : (i4 &&& (1 : Int32)) = (0 : Int32)
  · refine XS.ifYes X0.here hx rfl (pc0 := 4) (pc' := 11) rfl (hb hby at_4) rfl ((if0 _ _).trans (teq hc4).1) (by decide) (by decide) ?_
    show Steps p.tables e below (T0.setTop (mkF m 11 #[.val (.int i0), .val (.long j1), .second, .val (.int i3), .val (.int i4), .val (.int i5), .val (.int i6), .unset, .unset, .unset, .unset, .unset, .unset, .unset, .unset, .unset] [])) _
    refine XS.iconst X0.here hx rfl (hb hby at_11) ?_
    show Steps p.tables e below (T0.setTop (mkF m 12 #[.val (.int i0), .val (.long j1), .second, .val (.int i3), .val (.int i4), .val (.int i5), .val (.int i6), .unset, .unset, .unset, .unset, .unset, .unset, .unset, .unset, .unset] [(.int (0 : Int32))])) _
    refine XS.istore X0.here hx rfl (hb hby at_12) rfl (l' := #[.val (.int i0), .val (.long j1), .second, .val (.int i3), .val (.int i4), .val (.int i5), .val (.int i6), .val (.int (0 : Int32)), .unset, .unset, .unset, .unset, .unset, .unset, .unset, .unset]) rfl ?_
    rw [if_pos hc4] at kt
    exact kt
  · refine XS.ifNo X0.here hx rfl (hb hby at_4) rfl ((if0 _ _).trans (feq hc4).1) ?_
    show Steps p.tables e below (T0.setTop (mkF m 7 #[.val (.int i0), .val (.long j1), .second, .val (.int i3), .val (.int i4), .val (.int i5), .val (.int i6), .unset, .unset, .unset, .unset, .unset, .unset, .unset, .unset, .unset] [])) _
    refine XS.iconst X0.here hx rfl (hb hby at_7) ?_
    show Steps p.tables e below (T0.setTop (mkF m 8 #[.val (.int i0), .val (.long j1), .second, .val (.int i3), .val (.int i4), .val (.int i5), .val (.int i6), .unset, .unset, .unset, .unset, .unset, .unset, .unset, .unset, .unset] [(.int (1 : Int32))])) _
    refine XS.goto X0.here hx rfl (pc0 := 8) (pc' := 12) rfl (hb hby at_8) (by decide) (by decide) ?_
    show Steps p.tables e below (T0.setTop (mkF m 12 #[.val (.int i0), .val (.long j1), .second, .val (.int i3), .val (.int i4), .val (.int i5), .val (.int i6), .unset, .unset, .unset, .unset, .unset, .unset, .unset, .unset, .unset] [(.int (1 : Int32))])) _
    refine XS.istore X0.here hx rfl (hb hby at_12) rfl (l' := #[.val (.int i0), .val (.long j1), .second, .val (.int i3), .val (.int i4), .val (.int i5), .val (.int i6), .val (.int (1 : Int32)), .unset, .unset, .unset, .unset, .unset, .unset, .unset, .unset]) rfl ?_
    rw [if_neg hc4] at kt
    exact kt
set_option maxRecDepth 65536 in
set_option maxHeartbeats 40000000 in
theorem tn0_14_28 {p : Program} {l : Launch} {e : Env} {R : Room} {s : State} {m : MethodId} {args : Array Value} {below : List Frame} {meth : Method} {c : Code} {T0 : State} {locs : List Loc} {cells slots : Nat} {Z : State} {a0 : Array Value} {i0 : Int32} {j1 : Int64} {i3 : Int32} {i4 : Int32} {i5 : Int32} {i6 : Int32} {i7 : Int32} (X0 : Stand p l e R s m args below meth c T0 locs cells slots) (hx : p.tables.exec = Jvm.exec) (hZ : Z.Warmed39 s.vm) (hw : ∀ d ∈ tables_1, d.before a0 Z = true) (hby : c.code = code) (hown : s.vm.findClass "com/example/signpost/signpost/wire/ServiceReplyOverfillsPinLaw" = some m.cls) :
    ∀ target, Steps p.tables e below (T0.setTop (mkF m 28 #[.val (.int i0), .val (.long j1), .second, .val (.int i3), .val (.int i4), .val (.int i5), .val (.int i6), .val (.int i7), .val (.int (if (i4 &&& (2 : Int32)) = (0 : Int32) then (0 : Int32) else (1 : Int32))), .unset, .unset, .unset, .unset, .unset, .unset, .unset] [])) target → Steps p.tables e below (T0.setTop (mkF m 14 #[.val (.int i0), .val (.long j1), .second, .val (.int i3), .val (.int i4), .val (.int i5), .val (.int i6), .val (.int i7), .unset, .unset, .unset, .unset, .unset, .unset, .unset, .unset] [])) target := by
  intro target kt
  show Steps p.tables e below (T0.setTop (mkF m 14 #[.val (.int i0), .val (.long j1), .second, .val (.int i3), .val (.int i4), .val (.int i5), .val (.int i6), .val (.int i7), .unset, .unset, .unset, .unset, .unset, .unset, .unset, .unset] [])) _
  refine XS.iload X0.here hx rfl (hb hby at_14) rfl ?_
  show Steps p.tables e below (T0.setTop (mkF m 16 #[.val (.int i0), .val (.long j1), .second, .val (.int i3), .val (.int i4), .val (.int i5), .val (.int i6), .val (.int i7), .unset, .unset, .unset, .unset, .unset, .unset, .unset, .unset] [(.int i4)])) _
  refine XS.iconst X0.here hx rfl (hb hby at_16) ?_
  show Steps p.tables e below (T0.setTop (mkF m 17 #[.val (.int i0), .val (.long j1), .second, .val (.int i3), .val (.int i4), .val (.int i5), .val (.int i6), .val (.int i7), .unset, .unset, .unset, .unset, .unset, .unset, .unset, .unset] [(.int (2 : Int32)), (.int i4)])) _
  refine XS.iand X0.here hx rfl (hb hby at_17) rfl ?_
  show Steps p.tables e below (T0.setTop (mkF m 18 #[.val (.int i0), .val (.long j1), .second, .val (.int i3), .val (.int i4), .val (.int i5), .val (.int i6), .val (.int i7), .unset, .unset, .unset, .unset, .unset, .unset, .unset, .unset] [(.int (i4 &&& (2 : Int32)))])) _
  by_cases hc18 : (i4 &&& (2 : Int32)) = (0 : Int32)
  · refine XS.ifYes X0.here hx rfl (pc0 := 18) (pc' := 25) rfl (hb hby at_18) rfl ((if0 _ _).trans (teq hc18).1) (by decide) (by decide) ?_
    show Steps p.tables e below (T0.setTop (mkF m 25 #[.val (.int i0), .val (.long j1), .second, .val (.int i3), .val (.int i4), .val (.int i5), .val (.int i6), .val (.int i7), .unset, .unset, .unset, .unset, .unset, .unset, .unset, .unset] [])) _
    refine XS.iconst X0.here hx rfl (hb hby at_25) ?_
    show Steps p.tables e below (T0.setTop (mkF m 26 #[.val (.int i0), .val (.long j1), .second, .val (.int i3), .val (.int i4), .val (.int i5), .val (.int i6), .val (.int i7), .unset, .unset, .unset, .unset, .unset, .unset, .unset, .unset] [(.int (0 : Int32))])) _
    refine XS.istore X0.here hx rfl (hb hby at_26) rfl (l' := #[.val (.int i0), .val (.long j1), .second, .val (.int i3), .val (.int i4), .val (.int i5), .val (.int i6), .val (.int i7), .val (.int (0 : Int32)), .unset, .unset, .unset, .unset, .unset, .unset, .unset]) rfl ?_
    rw [if_pos hc18] at kt
    exact kt
  · refine XS.ifNo X0.here hx rfl (hb hby at_18) rfl ((if0 _ _).trans (feq hc18).1) ?_
    show Steps p.tables e below (T0.setTop (mkF m 21 #[.val (.int i0), .val (.long j1), .second, .val (.int i3), .val (.int i4), .val (.int i5), .val (.int i6), .val (.int i7), .unset, .unset, .unset, .unset, .unset, .unset, .unset, .unset] [])) _
    refine XS.iconst X0.here hx rfl (hb hby at_21) ?_
    show Steps p.tables e below (T0.setTop (mkF m 22 #[.val (.int i0), .val (.long j1), .second, .val (.int i3), .val (.int i4), .val (.int i5), .val (.int i6), .val (.int i7), .unset, .unset, .unset, .unset, .unset, .unset, .unset, .unset] [(.int (1 : Int32))])) _
    refine XS.goto X0.here hx rfl (pc0 := 22) (pc' := 26) rfl (hb hby at_22) (by decide) (by decide) ?_
    show Steps p.tables e below (T0.setTop (mkF m 26 #[.val (.int i0), .val (.long j1), .second, .val (.int i3), .val (.int i4), .val (.int i5), .val (.int i6), .val (.int i7), .unset, .unset, .unset, .unset, .unset, .unset, .unset, .unset] [(.int (1 : Int32))])) _
    refine XS.istore X0.here hx rfl (hb hby at_26) rfl (l' := #[.val (.int i0), .val (.long j1), .second, .val (.int i3), .val (.int i4), .val (.int i5), .val (.int i6), .val (.int i7), .val (.int (1 : Int32)), .unset, .unset, .unset, .unset, .unset, .unset, .unset]) rfl ?_
    rw [if_neg hc18] at kt
    exact kt
set_option maxRecDepth 65536 in
set_option maxHeartbeats 40000000 in
theorem tn0_28_46 {p : Program} {l : Launch} {e : Env} {R : Room} {s : State} {m : MethodId} {args : Array Value} {below : List Frame} {meth : Method} {c : Code} {T0 : State} {locs : List Loc} {cells slots : Nat} {Z : State} {a0 : Array Value} {i0 : Int32} {j1 : Int64} {i3 : Int32} {i4 : Int32} {i5 : Int32} {i6 : Int32} {i7 : Int32} {i8 : Int32} (X0 : Stand p l e R s m args below meth c T0 locs cells slots) (hx : p.tables.exec = Jvm.exec) (hZ : Z.Warmed39 s.vm) (hw : ∀ d ∈ tables_1, d.before a0 Z = true) (hby : c.code = code) (hown : s.vm.findClass "com/example/signpost/signpost/wire/ServiceReplyOverfillsPinLaw" = some m.cls) :
    ∀ target, Steps p.tables e below (T0.setTop (mkF m 46 #[.val (.int i0), .val (.long j1), .second, .val (.int i3), .val (.int i4), .val (.int i5), .val (.int i6), .val (.int i7), .val (.int i8), .val (.int ((i5 &&& (7 : Int32)) - (4 : Int32))), .val (.int ((i6 &&& (7 : Int32)) - (4 : Int32))), .unset, .unset, .unset, .unset, .unset] [])) target → Steps p.tables e below (T0.setTop (mkF m 28 #[.val (.int i0), .val (.long j1), .second, .val (.int i3), .val (.int i4), .val (.int i5), .val (.int i6), .val (.int i7), .val (.int i8), .unset, .unset, .unset, .unset, .unset, .unset, .unset] [])) target := by
  intro target kt
  show Steps p.tables e below (T0.setTop (mkF m 28 #[.val (.int i0), .val (.long j1), .second, .val (.int i3), .val (.int i4), .val (.int i5), .val (.int i6), .val (.int i7), .val (.int i8), .unset, .unset, .unset, .unset, .unset, .unset, .unset] [])) _
  refine XS.iload X0.here hx rfl (hb hby at_28) rfl ?_
  show Steps p.tables e below (T0.setTop (mkF m 30 #[.val (.int i0), .val (.long j1), .second, .val (.int i3), .val (.int i4), .val (.int i5), .val (.int i6), .val (.int i7), .val (.int i8), .unset, .unset, .unset, .unset, .unset, .unset, .unset] [(.int i5)])) _
  refine XS.bipush X0.here hx rfl (hb hby at_30) ?_
  show Steps p.tables e below (T0.setTop (mkF m 32 #[.val (.int i0), .val (.long j1), .second, .val (.int i3), .val (.int i4), .val (.int i5), .val (.int i6), .val (.int i7), .val (.int i8), .unset, .unset, .unset, .unset, .unset, .unset, .unset] [(.int (7 : Int32)), (.int i5)])) _
  refine XS.iand X0.here hx rfl (hb hby at_32) rfl ?_
  show Steps p.tables e below (T0.setTop (mkF m 33 #[.val (.int i0), .val (.long j1), .second, .val (.int i3), .val (.int i4), .val (.int i5), .val (.int i6), .val (.int i7), .val (.int i8), .unset, .unset, .unset, .unset, .unset, .unset, .unset] [(.int (i5 &&& (7 : Int32)))])) _
  refine XS.iconst X0.here hx rfl (hb hby at_33) ?_
  show Steps p.tables e below (T0.setTop (mkF m 34 #[.val (.int i0), .val (.long j1), .second, .val (.int i3), .val (.int i4), .val (.int i5), .val (.int i6), .val (.int i7), .val (.int i8), .unset, .unset, .unset, .unset, .unset, .unset, .unset] [(.int (4 : Int32)), (.int (i5 &&& (7 : Int32)))])) _
  refine XS.isub X0.here hx rfl (hb hby at_34) rfl ?_
  show Steps p.tables e below (T0.setTop (mkF m 35 #[.val (.int i0), .val (.long j1), .second, .val (.int i3), .val (.int i4), .val (.int i5), .val (.int i6), .val (.int i7), .val (.int i8), .unset, .unset, .unset, .unset, .unset, .unset, .unset] [(.int ((i5 &&& (7 : Int32)) - (4 : Int32)))])) _
  refine XS.istore X0.here hx rfl (hb hby at_35) rfl (l' := #[.val (.int i0), .val (.long j1), .second, .val (.int i3), .val (.int i4), .val (.int i5), .val (.int i6), .val (.int i7), .val (.int i8), .val (.int ((i5 &&& (7 : Int32)) - (4 : Int32))), .unset, .unset, .unset, .unset, .unset, .unset]) rfl ?_
  show Steps p.tables e below (T0.setTop (mkF m 37 #[.val (.int i0), .val (.long j1), .second, .val (.int i3), .val (.int i4), .val (.int i5), .val (.int i6), .val (.int i7), .val (.int i8), .val (.int ((i5 &&& (7 : Int32)) - (4 : Int32))), .unset, .unset, .unset, .unset, .unset, .unset] [])) _
  refine XS.iload X0.here hx rfl (hb hby at_37) rfl ?_
  show Steps p.tables e below (T0.setTop (mkF m 39 #[.val (.int i0), .val (.long j1), .second, .val (.int i3), .val (.int i4), .val (.int i5), .val (.int i6), .val (.int i7), .val (.int i8), .val (.int ((i5 &&& (7 : Int32)) - (4 : Int32))), .unset, .unset, .unset, .unset, .unset, .unset] [(.int i6)])) _
  refine XS.bipush X0.here hx rfl (hb hby at_39) ?_
  show Steps p.tables e below (T0.setTop (mkF m 41 #[.val (.int i0), .val (.long j1), .second, .val (.int i3), .val (.int i4), .val (.int i5), .val (.int i6), .val (.int i7), .val (.int i8), .val (.int ((i5 &&& (7 : Int32)) - (4 : Int32))), .unset, .unset, .unset, .unset, .unset, .unset] [(.int (7 : Int32)), (.int i6)])) _
  refine XS.iand X0.here hx rfl (hb hby at_41) rfl ?_
  show Steps p.tables e below (T0.setTop (mkF m 42 #[.val (.int i0), .val (.long j1), .second, .val (.int i3), .val (.int i4), .val (.int i5), .val (.int i6), .val (.int i7), .val (.int i8), .val (.int ((i5 &&& (7 : Int32)) - (4 : Int32))), .unset, .unset, .unset, .unset, .unset, .unset] [(.int (i6 &&& (7 : Int32)))])) _
  refine XS.iconst X0.here hx rfl (hb hby at_42) ?_
  show Steps p.tables e below (T0.setTop (mkF m 43 #[.val (.int i0), .val (.long j1), .second, .val (.int i3), .val (.int i4), .val (.int i5), .val (.int i6), .val (.int i7), .val (.int i8), .val (.int ((i5 &&& (7 : Int32)) - (4 : Int32))), .unset, .unset, .unset, .unset, .unset, .unset] [(.int (4 : Int32)), (.int (i6 &&& (7 : Int32)))])) _
  refine XS.isub X0.here hx rfl (hb hby at_43) rfl ?_
  show Steps p.tables e below (T0.setTop (mkF m 44 #[.val (.int i0), .val (.long j1), .second, .val (.int i3), .val (.int i4), .val (.int i5), .val (.int i6), .val (.int i7), .val (.int i8), .val (.int ((i5 &&& (7 : Int32)) - (4 : Int32))), .unset, .unset, .unset, .unset, .unset, .unset] [(.int ((i6 &&& (7 : Int32)) - (4 : Int32)))])) _
  refine XS.istore X0.here hx rfl (hb hby at_44) rfl (l' := #[.val (.int i0), .val (.long j1), .second, .val (.int i3), .val (.int i4), .val (.int i5), .val (.int i6), .val (.int i7), .val (.int i8), .val (.int ((i5 &&& (7 : Int32)) - (4 : Int32))), .val (.int ((i6 &&& (7 : Int32)) - (4 : Int32))), .unset, .unset, .unset, .unset, .unset]) rfl ?_
  exact kt
set_option maxRecDepth 65536 in
set_option maxHeartbeats 40000000 in
theorem tn0_46_62 {p : Program} {l : Launch} {e : Env} {R : Room} {s : State} {m : MethodId} {args : Array Value} {below : List Frame} {meth : Method} {c : Code} {T0 : State} {locs : List Loc} {cells slots : Nat} {Z : State} {a0 : Array Value} {i0 : Int32} {j1 : Int64} {i3 : Int32} {i4 : Int32} {i5 : Int32} {i6 : Int32} {i7 : Int32} {i8 : Int32} {i9 : Int32} {i10 : Int32} (X0 : Stand p l e R s m args below meth c T0 locs cells slots) (hx : p.tables.exec = Jvm.exec) (hZ : Z.Warmed39 s.vm) (hw : ∀ d ∈ tables_1, d.before a0 Z = true) (hby : c.code = code) (hown : s.vm.findClass "com/example/signpost/signpost/wire/ServiceReplyOverfillsPinLaw" = some m.cls) :
    ∀ target, Steps p.tables e below (T0.setTop (mkF m 62 #[.val (.int i0), .val (.long j1), .second, .val (.int i3), .val (.int i4), .val (.int i5), .val (.int i6), .val (.int i7), .val (.int i8), .val (.int i9), .val (.int i10), .val (.int (if i7 = (0 : Int32) then i0 else ((65535 : Int32) + i9))), .unset, .unset, .unset, .unset] [])) target → Steps p.tables e below (T0.setTop (mkF m 46 #[.val (.int i0), .val (.long j1), .second, .val (.int i3), .val (.int i4), .val (.int i5), .val (.int i6), .val (.int i7), .val (.int i8), .val (.int i9), .val (.int i10), .unset, .unset, .unset, .unset, .unset] [])) target := by
  intro target kt
  show Steps p.tables e below (T0.setTop (mkF m 46 #[.val (.int i0), .val (.long j1), .second, .val (.int i3), .val (.int i4), .val (.int i5), .val (.int i6), .val (.int i7), .val (.int i8), .val (.int i9), .val (.int i10), .unset, .unset, .unset, .unset, .unset] [])) _
  refine XS.iload X0.here hx rfl (hb hby at_46) rfl ?_
  show Steps p.tables e below (T0.setTop (mkF m 48 #[.val (.int i0), .val (.long j1), .second, .val (.int i3), .val (.int i4), .val (.int i5), .val (.int i6), .val (.int i7), .val (.int i8), .val (.int i9), .val (.int i10), .unset, .unset, .unset, .unset, .unset] [(.int i7)])) _
  by_cases hc48 : i7 = (0 : Int32)
  · refine XS.ifYes X0.here hx rfl (pc0 := 48) (pc' := 59) rfl (hb hby at_48) rfl ((if0 _ _).trans (teq hc48).1) (by decide) (by decide) ?_
    show Steps p.tables e below (T0.setTop (mkF m 59 #[.val (.int i0), .val (.long j1), .second, .val (.int i3), .val (.int i4), .val (.int i5), .val (.int i6), .val (.int i7), .val (.int i8), .val (.int i9), .val (.int i10), .unset, .unset, .unset, .unset, .unset] [])) _
    refine XS.iloadN X0.here hx rfl (hb hby at_59) rfl ?_
    show Steps p.tables e below (T0.setTop (mkF m 60 #[.val (.int i0), .val (.long j1), .second, .val (.int i3), .val (.int i4), .val (.int i5), .val (.int i6), .val (.int i7), .val (.int i8), .val (.int i9), .val (.int i10), .unset, .unset, .unset, .unset, .unset] [(.int i0)])) _
    refine XS.istore X0.here hx rfl (hb hby at_60) rfl (l' := #[.val (.int i0), .val (.long j1), .second, .val (.int i3), .val (.int i4), .val (.int i5), .val (.int i6), .val (.int i7), .val (.int i8), .val (.int i9), .val (.int i10), .val (.int i0), .unset, .unset, .unset, .unset]) rfl ?_
    rw [if_pos hc48] at kt
    exact kt
  · refine XS.ifNo X0.here hx rfl (hb hby at_48) rfl ((if0 _ _).trans (feq hc48).1) ?_
    show Steps p.tables e below (T0.setTop (mkF m 51 #[.val (.int i0), .val (.long j1), .second, .val (.int i3), .val (.int i4), .val (.int i5), .val (.int i6), .val (.int i7), .val (.int i8), .val (.int i9), .val (.int i10), .unset, .unset, .unset, .unset, .unset] [])) _
    refine X0.ldcInt hx hown (mvT hZ (hw _ (List.mem_of_getElem? (i := 6) rfl))) (g := (mkF m 51 #[.val (.int i0), .val (.long j1), .second, .val (.int i3), .val (.int i4), .val (.int i5), .val (.int i6), .val (.int i7), .val (.int i8), .val (.int i9), .val (.int i10), .unset, .unset, .unset, .unset, .unset] [])) rfl (hb hby at_51) _ ?_
    show Steps p.tables e below (T0.setTop (mkF m 53 #[.val (.int i0), .val (.long j1), .second, .val (.int i3), .val (.int i4), .val (.int i5), .val (.int i6), .val (.int i7), .val (.int i8), .val (.int i9), .val (.int i10), .unset, .unset, .unset, .unset, .unset] [(.int (65535 : Int32))])) _
    refine XS.iload X0.here hx rfl (hb hby at_53) rfl ?_
    show Steps p.tables e below (T0.setTop (mkF m 55 #[.val (.int i0), .val (.long j1), .second, .val (.int i3), .val (.int i4), .val (.int i5), .val (.int i6), .val (.int i7), .val (.int i8), .val (.int i9), .val (.int i10), .unset, .unset, .unset, .unset, .unset] [(.int i9), (.int (65535 : Int32))])) _
    refine XS.iadd X0.here hx rfl (hb hby at_55) rfl ?_
    show Steps p.tables e below (T0.setTop (mkF m 56 #[.val (.int i0), .val (.long j1), .second, .val (.int i3), .val (.int i4), .val (.int i5), .val (.int i6), .val (.int i7), .val (.int i8), .val (.int i9), .val (.int i10), .unset, .unset, .unset, .unset, .unset] [(.int ((65535 : Int32) + i9))])) _
    refine XS.goto X0.here hx rfl (pc0 := 56) (pc' := 60) rfl (hb hby at_56) (by decide) (by decide) ?_
    show Steps p.tables e below (T0.setTop (mkF m 60 #[.val (.int i0), .val (.long j1), .second, .val (.int i3), .val (.int i4), .val (.int i5), .val (.int i6), .val (.int i7), .val (.int i8), .val (.int i9), .val (.int i10), .unset, .unset, .unset, .unset, .unset] [(.int ((65535 : Int32) + i9))])) _
    refine XS.istore X0.here hx rfl (hb hby at_60) rfl (l' := #[.val (.int i0), .val (.long j1), .second, .val (.int i3), .val (.int i4), .val (.int i5), .val (.int i6), .val (.int i7), .val (.int i8), .val (.int i9), .val (.int i10), .val (.int ((65535 : Int32) + i9)), .unset, .unset, .unset, .unset]) rfl ?_
    rw [if_neg hc48] at kt
    exact kt
set_option maxRecDepth 65536 in
set_option maxHeartbeats 40000000 in
theorem tn0_62_79 {p : Program} {l : Launch} {e : Env} {R : Room} {s : State} {m : MethodId} {args : Array Value} {below : List Frame} {meth : Method} {c : Code} {T0 : State} {locs : List Loc} {cells slots : Nat} {Z : State} {a0 : Array Value} {i0 : Int32} {j1 : Int64} {i3 : Int32} {i4 : Int32} {i5 : Int32} {i6 : Int32} {i7 : Int32} {i8 : Int32} {i9 : Int32} {i10 : Int32} {i11 : Int32} (X0 : Stand p l e R s m args below meth c T0 locs cells slots) (hx : p.tables.exec = Jvm.exec) (hZ : Z.Warmed39 s.vm) (hw : ∀ d ∈ tables_1, d.before a0 Z = true) (hby : c.code = code) (hown : s.vm.findClass "com/example/signpost/signpost/wire/ServiceReplyOverfillsPinLaw" = some m.cls) :
    ∀ target, Steps p.tables e below (T0.setTop (mkF m 79 #[.val (.int i0), .val (.long j1), .second, .val (.int i3), .val (.int i4), .val (.int i5), .val (.int i6), .val (.int i7), .val (.int i8), .val (.int i9), .val (.int i10), .val (.int i11), .val (.long (if i8 = (0 : Int32) then j1 else ((i3.toInt64) + (i10.toInt64)))), .second, .unset, .unset] [])) target → Steps p.tables e below (T0.setTop (mkF m 62 #[.val (.int i0), .val (.long j1), .second, .val (.int i3), .val (.int i4), .val (.int i5), .val (.int i6), .val (.int i7), .val (.int i8), .val (.int i9), .val (.int i10), .val (.int i11), .unset, .unset, .unset, .unset] [])) target := by
  intro target kt
  show Steps p.tables e below (T0.setTop (mkF m 62 #[.val (.int i0), .val (.long j1), .second, .val (.int i3), .val (.int i4), .val (.int i5), .val (.int i6), .val (.int i7), .val (.int i8), .val (.int i9), .val (.int i10), .val (.int i11), .unset, .unset, .unset, .unset] [])) _
  refine XS.iload X0.here hx rfl (hb hby at_62) rfl ?_
  show Steps p.tables e below (T0.setTop (mkF m 64 #[.val (.int i0), .val (.long j1), .second, .val (.int i3), .val (.int i4), .val (.int i5), .val (.int i6), .val (.int i7), .val (.int i8), .val (.int i9), .val (.int i10), .val (.int i11), .unset, .unset, .unset, .unset] [(.int i8)])) _
  by_cases hc64 : i8 = (0 : Int32)
  · refine XS.ifYes X0.here hx rfl (pc0 := 64) (pc' := 76) rfl (hb hby at_64) rfl ((if0 _ _).trans (teq hc64).1) (by decide) (by decide) ?_
    show Steps p.tables e below (T0.setTop (mkF m 76 #[.val (.int i0), .val (.long j1), .second, .val (.int i3), .val (.int i4), .val (.int i5), .val (.int i6), .val (.int i7), .val (.int i8), .val (.int i9), .val (.int i10), .val (.int i11), .unset, .unset, .unset, .unset] [])) _
    refine XS.lloadN X0.here hx rfl (hb hby at_76) rfl ?_
    show Steps p.tables e below (T0.setTop (mkF m 77 #[.val (.int i0), .val (.long j1), .second, .val (.int i3), .val (.int i4), .val (.int i5), .val (.int i6), .val (.int i7), .val (.int i8), .val (.int i9), .val (.int i10), .val (.int i11), .unset, .unset, .unset, .unset] [(.long j1)])) _
    refine XS.lstore X0.here hx rfl (hb hby at_77) rfl (l' := #[.val (.int i0), .val (.long j1), .second, .val (.int i3), .val (.int i4), .val (.int i5), .val (.int i6), .val (.int i7), .val (.int i8), .val (.int i9), .val (.int i10), .val (.int i11), .val (.long j1), .second, .unset, .unset]) rfl ?_
    rw [if_pos hc64] at kt
    exact kt
  · refine XS.ifNo X0.here hx rfl (hb hby at_64) rfl ((if0 _ _).trans (feq hc64).1) ?_
    show Steps p.tables e below (T0.setTop (mkF m 67 #[.val (.int i0), .val (.long j1), .second, .val (.int i3), .val (.int i4), .val (.int i5), .val (.int i6), .val (.int i7), .val (.int i8), .val (.int i9), .val (.int i10), .val (.int i11), .unset, .unset, .unset, .unset] [])) _
    refine XS.iloadN X0.here hx rfl (hb hby at_67) rfl ?_
    show Steps p.tables e below (T0.setTop (mkF m 68 #[.val (.int i0), .val (.long j1), .second, .val (.int i3), .val (.int i4), .val (.int i5), .val (.int i6), .val (.int i7), .val (.int i8), .val (.int i9), .val (.int i10), .val (.int i11), .unset, .unset, .unset, .unset] [(.int i3)])) _
    refine XS.i2l X0.here hx rfl (hb hby at_68) rfl ?_
    show Steps p.tables e below (T0.setTop (mkF m 69 #[.val (.int i0), .val (.long j1), .second, .val (.int i3), .val (.int i4), .val (.int i5), .val (.int i6), .val (.int i7), .val (.int i8), .val (.int i9), .val (.int i10), .val (.int i11), .unset, .unset, .unset, .unset] [(.long (i3.toInt64))])) _
    refine XS.iload X0.here hx rfl (hb hby at_69) rfl ?_
    show Steps p.tables e below (T0.setTop (mkF m 71 #[.val (.int i0), .val (.long j1), .second, .val (.int i3), .val (.int i4), .val (.int i5), .val (.int i6), .val (.int i7), .val (.int i8), .val (.int i9), .val (.int i10), .val (.int i11), .unset, .unset, .unset, .unset] [(.int i10), (.long (i3.toInt64))])) _
    refine XS.i2l X0.here hx rfl (hb hby at_71) rfl ?_
    show Steps p.tables e below (T0.setTop (mkF m 72 #[.val (.int i0), .val (.long j1), .second, .val (.int i3), .val (.int i4), .val (.int i5), .val (.int i6), .val (.int i7), .val (.int i8), .val (.int i9), .val (.int i10), .val (.int i11), .unset, .unset, .unset, .unset] [(.long (i10.toInt64)), (.long (i3.toInt64))])) _
    refine XS.ladd X0.here hx rfl (hb hby at_72) rfl ?_
    show Steps p.tables e below (T0.setTop (mkF m 73 #[.val (.int i0), .val (.long j1), .second, .val (.int i3), .val (.int i4), .val (.int i5), .val (.int i6), .val (.int i7), .val (.int i8), .val (.int i9), .val (.int i10), .val (.int i11), .unset, .unset, .unset, .unset] [(.long ((i3.toInt64) + (i10.toInt64)))])) _
    refine XS.goto X0.here hx rfl (pc0 := 73) (pc' := 77) rfl (hb hby at_73) (by decide) (by decide) ?_
    show Steps p.tables e below (T0.setTop (mkF m 77 #[.val (.int i0), .val (.long j1), .second, .val (.int i3), .val (.int i4), .val (.int i5), .val (.int i6), .val (.int i7), .val (.int i8), .val (.int i9), .val (.int i10), .val (.int i11), .unset, .unset, .unset, .unset] [(.long ((i3.toInt64) + (i10.toInt64)))])) _
    refine XS.lstore X0.here hx rfl (hb hby at_77) rfl (l' := #[.val (.int i0), .val (.long j1), .second, .val (.int i3), .val (.int i4), .val (.int i5), .val (.int i6), .val (.int i7), .val (.int i8), .val (.int i9), .val (.int i10), .val (.int i11), .val (.long ((i3.toInt64) + (i10.toInt64))), .second, .unset, .unset]) rfl ?_
    rw [if_neg hc64] at kt
    exact kt
set_option maxRecDepth 65536 in
set_option maxHeartbeats 40000000 in
theorem tn0_79_110 {p : Program} {l : Launch} {e : Env} {R : Room} {s : State} {m : MethodId} {args : Array Value} {below : List Frame} {meth : Method} {c : Code} {T0 : State} {locs : List Loc} {cells slots : Nat} {Z : State} {a0 : Array Value} {i0 : Int32} {j1 : Int64} {i3 : Int32} {i4 : Int32} {i5 : Int32} {i6 : Int32} {i7 : Int32} {i8 : Int32} {i9 : Int32} {i10 : Int32} {i11 : Int32} {j12 : Int64} (X0 : Stand p l e R s m args below meth c T0 locs cells slots) (hx : p.tables.exec = Jvm.exec) (hZ : Z.Warmed39 s.vm) (hw : ∀ d ∈ tables_1, d.before a0 Z = true) (hby : c.code = code) (hown : s.vm.findClass "com/example/signpost/signpost/wire/ServiceReplyOverfillsPinLaw" = some m.cls) :
    ∀ target, Steps p.tables e below (T0.setTop (mkF m 110 #[.val (.int i0), .val (.long j1), .second, .val (.int i3), .val (.int i4), .val (.int i5), .val (.int i6), .val (.int i7), .val (.int i8), .val (.int i9), .val (.int i10), .val (.int i11), .val (.long j12), .second, .val (.int (if i7 = (0 : Int32) then (if i0 < (65536 : Int32) then (0 : Int32) else (1 : Int32)) else (if (0 : Int32) < i9 then (1 : Int32) else (0 : Int32)))), .unset] [])) target → Steps p.tables e below (T0.setTop (mkF m 79 #[.val (.int i0), .val (.long j1), .second, .val (.int i3), .val (.int i4), .val (.int i5), .val (.int i6), .val (.int i7), .val (.int i8), .val (.int i9), .val (.int i10), .val (.int i11), .val (.long j12), .second, .unset, .unset] [])) target := by
  intro target kt
  show Steps p.tables e below (T0.setTop (mkF m 79 #[.val (.int i0), .val (.long j1), .second, .val (.int i3), .val (.int i4), .val (.int i5), .val (.int i6), .val (.int i7), .val (.int i8), .val (.int i9), .val (.int i10), .val (.int i11), .val (.long j12), .second, .unset, .unset] [])) _
  refine XS.iload X0.here hx rfl (hb hby at_79) rfl ?_
  show Steps p.tables e below (T0.setTop (mkF m 81 #[.val (.int i0), .val (.long j1), .second, .val (.int i3), .val (.int i4), .val (.int i5), .val (.int i6), .val (.int i7), .val (.int i8), .val (.int i9), .val (.int i10), .val (.int i11), .val (.long j12), .second, .unset, .unset] [(.int i7)])) _
  by_cases hc81 : i7 = (0 : Int32)
  · refine XS.ifYes X0.here hx rfl (pc0 := 81) (pc' := 97) rfl (hb hby at_81) rfl ((if0 _ _).trans (teq hc81).1) (by decide) (by decide) ?_
    show Steps p.tables e below (T0.setTop (mkF m 97 #[.val (.int i0), .val (.long j1), .second, .val (.int i3), .val (.int i4), .val (.int i5), .val (.int i6), .val (.int i7), .val (.int i8), .val (.int i9), .val (.int i10), .val (.int i11), .val (.long j12), .second, .unset, .unset] [])) _
    refine XS.iloadN X0.here hx rfl (hb hby at_97) rfl ?_
    show Steps p.tables e below (T0.setTop (mkF m 98 #[.val (.int i0), .val (.long j1), .second, .val (.int i3), .val (.int i4), .val (.int i5), .val (.int i6), .val (.int i7), .val (.int i8), .val (.int i9), .val (.int i10), .val (.int i11), .val (.long j12), .second, .unset, .unset] [(.int i0)])) _
    refine X0.ldcInt hx hown (mvT hZ (hw _ (List.mem_of_getElem? (i := 0) rfl))) (g := (mkF m 98 #[.val (.int i0), .val (.long j1), .second, .val (.int i3), .val (.int i4), .val (.int i5), .val (.int i6), .val (.int i7), .val (.int i8), .val (.int i9), .val (.int i10), .val (.int i11), .val (.long j12), .second, .unset, .unset] [(.int i0)])) rfl (hb hby at_98) _ ?_
    show Steps p.tables e below (T0.setTop (mkF m 100 #[.val (.int i0), .val (.long j1), .second, .val (.int i3), .val (.int i4), .val (.int i5), .val (.int i6), .val (.int i7), .val (.int i8), .val (.int i9), .val (.int i10), .val (.int i11), .val (.long j12), .second, .unset, .unset] [(.int (65536 : Int32)), (.int i0)])) _
    by_cases hc100 : i0 < (65536 : Int32)
    · refine XS.icmpYes X0.here hx rfl (pc0 := 100) (pc' := 107) rfl (hb hby at_100) rfl (tlt hc100).1 (by decide) (by decide) ?_
      show Steps p.tables e below (T0.setTop (mkF m 107 #[.val (.int i0), .val (.long j1), .second, .val (.int i3), .val (.int i4), .val (.int i5), .val (.int i6), .val (.int i7), .val (.int i8), .val (.int i9), .val (.int i10), .val (.int i11), .val (.long j12), .second, .unset, .unset] [])) _
      refine XS.iconst X0.here hx rfl (hb hby at_107) ?_
      show Steps p.tables e below (T0.setTop (mkF m 108 #[.val (.int i0), .val (.long j1), .second, .val (.int i3), .val (.int i4), .val (.int i5), .val (.int i6), .val (.int i7), .val (.int i8), .val (.int i9), .val (.int i10), .val (.int i11), .val (.long j12), .second, .unset, .unset] [(.int (0 : Int32))])) _
      refine XS.istore X0.here hx rfl (hb hby at_108) rfl (l' := #[.val (.int i0), .val (.long j1), .second, .val (.int i3), .val (.int i4), .val (.int i5), .val (.int i6), .val (.int i7), .val (.int i8), .val (.int i9), .val (.int i10), .val (.int i11), .val (.long j12), .second, .val (.int (0 : Int32)), .unset]) rfl ?_
      rw [if_pos hc81, if_pos hc100] at kt
      exact kt
    · refine XS.icmpNo X0.here hx rfl (hb hby at_100) rfl (flt hc100).1 ?_
      show Steps p.tables e below (T0.setTop (mkF m 103 #[.val (.int i0), .val (.long j1), .second, .val (.int i3), .val (.int i4), .val (.int i5), .val (.int i6), .val (.int i7), .val (.int i8), .val (.int i9), .val (.int i10), .val (.int i11), .val (.long j12), .second, .unset, .unset] [])) _
      refine XS.iconst X0.here hx rfl (hb hby at_103) ?_
      show Steps p.tables e below (T0.setTop (mkF m 104 #[.val (.int i0), .val (.long j1), .second, .val (.int i3), .val (.int i4), .val (.int i5), .val (.int i6), .val (.int i7), .val (.int i8), .val (.int i9), .val (.int i10), .val (.int i11), .val (.long j12), .second, .unset, .unset] [(.int (1 : Int32))])) _
      refine XS.goto X0.here hx rfl (pc0 := 104) (pc' := 108) rfl (hb hby at_104) (by decide) (by decide) ?_
      show Steps p.tables e below (T0.setTop (mkF m 108 #[.val (.int i0), .val (.long j1), .second, .val (.int i3), .val (.int i4), .val (.int i5), .val (.int i6), .val (.int i7), .val (.int i8), .val (.int i9), .val (.int i10), .val (.int i11), .val (.long j12), .second, .unset, .unset] [(.int (1 : Int32))])) _
      refine XS.istore X0.here hx rfl (hb hby at_108) rfl (l' := #[.val (.int i0), .val (.long j1), .second, .val (.int i3), .val (.int i4), .val (.int i5), .val (.int i6), .val (.int i7), .val (.int i8), .val (.int i9), .val (.int i10), .val (.int i11), .val (.long j12), .second, .val (.int (1 : Int32)), .unset]) rfl ?_
      rw [if_pos hc81, if_neg hc100] at kt
      exact kt
  · refine XS.ifNo X0.here hx rfl (hb hby at_81) rfl ((if0 _ _).trans (feq hc81).1) ?_
    show Steps p.tables e below (T0.setTop (mkF m 84 #[.val (.int i0), .val (.long j1), .second, .val (.int i3), .val (.int i4), .val (.int i5), .val (.int i6), .val (.int i7), .val (.int i8), .val (.int i9), .val (.int i10), .val (.int i11), .val (.long j12), .second, .unset, .unset] [])) _
    refine XS.iload X0.here hx rfl (hb hby at_84) rfl ?_
    show Steps p.tables e below (T0.setTop (mkF m 86 #[.val (.int i0), .val (.long j1), .second, .val (.int i3), .val (.int i4), .val (.int i5), .val (.int i6), .val (.int i7), .val (.int i8), .val (.int i9), .val (.int i10), .val (.int i11), .val (.long j12), .second, .unset, .unset] [(.int i9)])) _
    by_cases hc86 : (0 : Int32) < i9
    · refine XS.ifNo X0.here hx rfl (hb hby at_86) rfl ((if0 _ _).trans (tlt hc86).2.2.2) ?_
      show Steps p.tables e below (T0.setTop (mkF m 89 #[.val (.int i0), .val (.long j1), .second, .val (.int i3), .val (.int i4), .val (.int i5), .val (.int i6), .val (.int i7), .val (.int i8), .val (.int i9), .val (.int i10), .val (.int i11), .val (.long j12), .second, .unset, .unset] [])) _
      refine XS.iconst X0.here hx rfl (hb hby at_89) ?_
      show Steps p.tables e below (T0.setTop (mkF m 90 #[.val (.int i0), .val (.long j1), .second, .val (.int i3), .val (.int i4), .val (.int i5), .val (.int i6), .val (.int i7), .val (.int i8), .val (.int i9), .val (.int i10), .val (.int i11), .val (.long j12), .second, .unset, .unset] [(.int (1 : Int32))])) _
      refine XS.goto X0.here hx rfl (pc0 := 90) (pc' := 108) rfl (hb hby at_90) (by decide) (by decide) ?_
      show Steps p.tables e below (T0.setTop (mkF m 108 #[.val (.int i0), .val (.long j1), .second, .val (.int i3), .val (.int i4), .val (.int i5), .val (.int i6), .val (.int i7), .val (.int i8), .val (.int i9), .val (.int i10), .val (.int i11), .val (.long j12), .second, .unset, .unset] [(.int (1 : Int32))])) _
      refine XS.istore X0.here hx rfl (hb hby at_108) rfl (l' := #[.val (.int i0), .val (.long j1), .second, .val (.int i3), .val (.int i4), .val (.int i5), .val (.int i6), .val (.int i7), .val (.int i8), .val (.int i9), .val (.int i10), .val (.int i11), .val (.long j12), .second, .val (.int (1 : Int32)), .unset]) rfl ?_
      rw [if_neg hc81, if_pos hc86] at kt
      exact kt
    · refine XS.ifYes X0.here hx rfl (pc0 := 86) (pc' := 93) rfl (hb hby at_86) rfl ((if0 _ _).trans (flt hc86).2.2.2) (by decide) (by decide) ?_
      show Steps p.tables e below (T0.setTop (mkF m 93 #[.val (.int i0), .val (.long j1), .second, .val (.int i3), .val (.int i4), .val (.int i5), .val (.int i6), .val (.int i7), .val (.int i8), .val (.int i9), .val (.int i10), .val (.int i11), .val (.long j12), .second, .unset, .unset] [])) _
      refine XS.iconst X0.here hx rfl (hb hby at_93) ?_
      show Steps p.tables e below (T0.setTop (mkF m 94 #[.val (.int i0), .val (.long j1), .second, .val (.int i3), .val (.int i4), .val (.int i5), .val (.int i6), .val (.int i7), .val (.int i8), .val (.int i9), .val (.int i10), .val (.int i11), .val (.long j12), .second, .unset, .unset] [(.int (0 : Int32))])) _
      refine XS.goto X0.here hx rfl (pc0 := 94) (pc' := 108) rfl (hb hby at_94) (by decide) (by decide) ?_
      show Steps p.tables e below (T0.setTop (mkF m 108 #[.val (.int i0), .val (.long j1), .second, .val (.int i3), .val (.int i4), .val (.int i5), .val (.int i6), .val (.int i7), .val (.int i8), .val (.int i9), .val (.int i10), .val (.int i11), .val (.long j12), .second, .unset, .unset] [(.int (0 : Int32))])) _
      refine XS.istore X0.here hx rfl (hb hby at_108) rfl (l' := #[.val (.int i0), .val (.long j1), .second, .val (.int i3), .val (.int i4), .val (.int i5), .val (.int i6), .val (.int i7), .val (.int i8), .val (.int i9), .val (.int i10), .val (.int i11), .val (.long j12), .second, .val (.int (0 : Int32)), .unset]) rfl ?_
      rw [if_neg hc81, if_neg hc86] at kt
      exact kt
set_option maxRecDepth 65536 in
set_option maxHeartbeats 40000000 in
theorem tn0_110_144 {p : Program} {l : Launch} {e : Env} {R : Room} {s : State} {m : MethodId} {args : Array Value} {below : List Frame} {meth : Method} {c : Code} {T0 : State} {locs : List Loc} {cells slots : Nat} {Z : State} {a0 : Array Value} {i0 : Int32} {j1 : Int64} {i3 : Int32} {i4 : Int32} {i5 : Int32} {i6 : Int32} {i7 : Int32} {i8 : Int32} {i9 : Int32} {i10 : Int32} {i11 : Int32} {j12 : Int64} {i14 : Int32} (X0 : Stand p l e R s m args below meth c T0 locs cells slots) (hx : p.tables.exec = Jvm.exec) (hZ : Z.Warmed39 s.vm) (hw : ∀ d ∈ tables_1, d.before a0 Z = true) (hby : c.code = code) (hown : s.vm.findClass "com/example/signpost/signpost/wire/ServiceReplyOverfillsPinLaw" = some m.cls) :
    ∀ target, Steps p.tables e below (T0.setTop (mkF m 144 #[.val (.int i0), .val (.long j1), .second, .val (.int i3), .val (.int i4), .val (.int i5), .val (.int i6), .val (.int i7), .val (.int i8), .val (.int i9), .val (.int i10), .val (.int i11), .val (.long j12), .second, .val (.int i14), .val (.int (if i8 = (0 : Int32) then (if (lcmpW j1 ((i3.toInt64) + (1 : Int64))) < (0 : Int32) then (0 : Int32) else (1 : Int32)) else (if (0 : Int32) < i10 then (1 : Int32) else (0 : Int32))))] [])) target → Steps p.tables e below (T0.setTop (mkF m 110 #[.val (.int i0), .val (.long j1), .second, .val (.int i3), .val (.int i4), .val (.int i5), .val (.int i6), .val (.int i7), .val (.int i8), .val (.int i9), .val (.int i10), .val (.int i11), .val (.long j12), .second, .val (.int i14), .unset] [])) target := by
  intro target kt
  show Steps p.tables e below (T0.setTop (mkF m 110 #[.val (.int i0), .val (.long j1), .second, .val (.int i3), .val (.int i4), .val (.int i5), .val (.int i6), .val (.int i7), .val (.int i8), .val (.int i9), .val (.int i10), .val (.int i11), .val (.long j12), .second, .val (.int i14), .unset] [])) _
  refine XS.iload X0.here hx rfl (hb hby at_110) rfl ?_
  show Steps p.tables e below (T0.setTop (mkF m 112 #[.val (.int i0), .val (.long j1), .second, .val (.int i3), .val (.int i4), .val (.int i5), .val (.int i6), .val (.int i7), .val (.int i8), .val (.int i9), .val (.int i10), .val (.int i11), .val (.long j12), .second, .val (.int i14), .unset] [(.int i8)])) _
  by_cases hc112 : i8 = (0 : Int32)
  · refine XS.ifYes X0.here hx rfl (pc0 := 112) (pc' := 128) rfl (hb hby at_112) rfl ((if0 _ _).trans (teq hc112).1) (by decide) (by decide) ?_
    show Steps p.tables e below (T0.setTop (mkF m 128 #[.val (.int i0), .val (.long j1), .second, .val (.int i3), .val (.int i4), .val (.int i5), .val (.int i6), .val (.int i7), .val (.int i8), .val (.int i9), .val (.int i10), .val (.int i11), .val (.long j12), .second, .val (.int i14), .unset] [])) _
    refine XS.lloadN X0.here hx rfl (hb hby at_128) rfl ?_
    show Steps p.tables e below (T0.setTop (mkF m 129 #[.val (.int i0), .val (.long j1), .second, .val (.int i3), .val (.int i4), .val (.int i5), .val (.int i6), .val (.int i7), .val (.int i8), .val (.int i9), .val (.int i10), .val (.int i11), .val (.long j12), .second, .val (.int i14), .unset] [(.long j1)])) _
    refine XS.iloadN X0.here hx rfl (hb hby at_129) rfl ?_
    show Steps p.tables e below (T0.setTop (mkF m 130 #[.val (.int i0), .val (.long j1), .second, .val (.int i3), .val (.int i4), .val (.int i5), .val (.int i6), .val (.int i7), .val (.int i8), .val (.int i9), .val (.int i10), .val (.int i11), .val (.long j12), .second, .val (.int i14), .unset] [(.int i3), (.long j1)])) _
    refine XS.i2l X0.here hx rfl (hb hby at_130) rfl ?_
    show Steps p.tables e below (T0.setTop (mkF m 131 #[.val (.int i0), .val (.long j1), .second, .val (.int i3), .val (.int i4), .val (.int i5), .val (.int i6), .val (.int i7), .val (.int i8), .val (.int i9), .val (.int i10), .val (.int i11), .val (.long j12), .second, .val (.int i14), .unset] [(.long (i3.toInt64)), (.long j1)])) _
    refine XS.lconst X0.here hx rfl (hb hby at_131) ?_
    show Steps p.tables e below (T0.setTop (mkF m 132 #[.val (.int i0), .val (.long j1), .second, .val (.int i3), .val (.int i4), .val (.int i5), .val (.int i6), .val (.int i7), .val (.int i8), .val (.int i9), .val (.int i10), .val (.int i11), .val (.long j12), .second, .val (.int i14), .unset] [(.long (1 : Int64)), (.long (i3.toInt64)), (.long j1)])) _
    refine XS.ladd X0.here hx rfl (hb hby at_132) rfl ?_
    show Steps p.tables e below (T0.setTop (mkF m 133 #[.val (.int i0), .val (.long j1), .second, .val (.int i3), .val (.int i4), .val (.int i5), .val (.int i6), .val (.int i7), .val (.int i8), .val (.int i9), .val (.int i10), .val (.int i11), .val (.long j12), .second, .val (.int i14), .unset] [(.long ((i3.toInt64) + (1 : Int64))), (.long j1)])) _
    refine XS.lcmp X0.here hx rfl (hb hby at_133) rfl ?_
    show Steps p.tables e below (T0.setTop (mkF m 134 #[.val (.int i0), .val (.long j1), .second, .val (.int i3), .val (.int i4), .val (.int i5), .val (.int i6), .val (.int i7), .val (.int i8), .val (.int i9), .val (.int i10), .val (.int i11), .val (.long j12), .second, .val (.int i14), .unset] [(.int (lcmpW j1 ((i3.toInt64) + (1 : Int64))))])) _
    by_cases hc134 : (lcmpW j1 ((i3.toInt64) + (1 : Int64))) < (0 : Int32)
    · refine XS.ifYes X0.here hx rfl (pc0 := 134) (pc' := 141) rfl (hb hby at_134) rfl ((if0 _ _).trans (tlt hc134).1) (by decide) (by decide) ?_
      show Steps p.tables e below (T0.setTop (mkF m 141 #[.val (.int i0), .val (.long j1), .second, .val (.int i3), .val (.int i4), .val (.int i5), .val (.int i6), .val (.int i7), .val (.int i8), .val (.int i9), .val (.int i10), .val (.int i11), .val (.long j12), .second, .val (.int i14), .unset] [])) _
      refine XS.iconst X0.here hx rfl (hb hby at_141) ?_
      show Steps p.tables e below (T0.setTop (mkF m 142 #[.val (.int i0), .val (.long j1), .second, .val (.int i3), .val (.int i4), .val (.int i5), .val (.int i6), .val (.int i7), .val (.int i8), .val (.int i9), .val (.int i10), .val (.int i11), .val (.long j12), .second, .val (.int i14), .unset] [(.int (0 : Int32))])) _
      refine XS.istore X0.here hx rfl (hb hby at_142) rfl (l' := #[.val (.int i0), .val (.long j1), .second, .val (.int i3), .val (.int i4), .val (.int i5), .val (.int i6), .val (.int i7), .val (.int i8), .val (.int i9), .val (.int i10), .val (.int i11), .val (.long j12), .second, .val (.int i14), .val (.int (0 : Int32))]) rfl ?_
      rw [if_pos hc112, if_pos hc134] at kt
      exact kt
    · refine XS.ifNo X0.here hx rfl (hb hby at_134) rfl ((if0 _ _).trans (flt hc134).1) ?_
      show Steps p.tables e below (T0.setTop (mkF m 137 #[.val (.int i0), .val (.long j1), .second, .val (.int i3), .val (.int i4), .val (.int i5), .val (.int i6), .val (.int i7), .val (.int i8), .val (.int i9), .val (.int i10), .val (.int i11), .val (.long j12), .second, .val (.int i14), .unset] [])) _
      refine XS.iconst X0.here hx rfl (hb hby at_137) ?_
      show Steps p.tables e below (T0.setTop (mkF m 138 #[.val (.int i0), .val (.long j1), .second, .val (.int i3), .val (.int i4), .val (.int i5), .val (.int i6), .val (.int i7), .val (.int i8), .val (.int i9), .val (.int i10), .val (.int i11), .val (.long j12), .second, .val (.int i14), .unset] [(.int (1 : Int32))])) _
      refine XS.goto X0.here hx rfl (pc0 := 138) (pc' := 142) rfl (hb hby at_138) (by decide) (by decide) ?_
      show Steps p.tables e below (T0.setTop (mkF m 142 #[.val (.int i0), .val (.long j1), .second, .val (.int i3), .val (.int i4), .val (.int i5), .val (.int i6), .val (.int i7), .val (.int i8), .val (.int i9), .val (.int i10), .val (.int i11), .val (.long j12), .second, .val (.int i14), .unset] [(.int (1 : Int32))])) _
      refine XS.istore X0.here hx rfl (hb hby at_142) rfl (l' := #[.val (.int i0), .val (.long j1), .second, .val (.int i3), .val (.int i4), .val (.int i5), .val (.int i6), .val (.int i7), .val (.int i8), .val (.int i9), .val (.int i10), .val (.int i11), .val (.long j12), .second, .val (.int i14), .val (.int (1 : Int32))]) rfl ?_
      rw [if_pos hc112, if_neg hc134] at kt
      exact kt
  · refine XS.ifNo X0.here hx rfl (hb hby at_112) rfl ((if0 _ _).trans (feq hc112).1) ?_
    show Steps p.tables e below (T0.setTop (mkF m 115 #[.val (.int i0), .val (.long j1), .second, .val (.int i3), .val (.int i4), .val (.int i5), .val (.int i6), .val (.int i7), .val (.int i8), .val (.int i9), .val (.int i10), .val (.int i11), .val (.long j12), .second, .val (.int i14), .unset] [])) _
    refine XS.iload X0.here hx rfl (hb hby at_115) rfl ?_
    show Steps p.tables e below (T0.setTop (mkF m 117 #[.val (.int i0), .val (.long j1), .second, .val (.int i3), .val (.int i4), .val (.int i5), .val (.int i6), .val (.int i7), .val (.int i8), .val (.int i9), .val (.int i10), .val (.int i11), .val (.long j12), .second, .val (.int i14), .unset] [(.int i10)])) _
    by_cases hc117 : (0 : Int32) < i10
    · refine XS.ifNo X0.here hx rfl (hb hby at_117) rfl ((if0 _ _).trans (tlt hc117).2.2.2) ?_
      show Steps p.tables e below (T0.setTop (mkF m 120 #[.val (.int i0), .val (.long j1), .second, .val (.int i3), .val (.int i4), .val (.int i5), .val (.int i6), .val (.int i7), .val (.int i8), .val (.int i9), .val (.int i10), .val (.int i11), .val (.long j12), .second, .val (.int i14), .unset] [])) _
      refine XS.iconst X0.here hx rfl (hb hby at_120) ?_
      show Steps p.tables e below (T0.setTop (mkF m 121 #[.val (.int i0), .val (.long j1), .second, .val (.int i3), .val (.int i4), .val (.int i5), .val (.int i6), .val (.int i7), .val (.int i8), .val (.int i9), .val (.int i10), .val (.int i11), .val (.long j12), .second, .val (.int i14), .unset] [(.int (1 : Int32))])) _
      refine XS.goto X0.here hx rfl (pc0 := 121) (pc' := 142) rfl (hb hby at_121) (by decide) (by decide) ?_
      show Steps p.tables e below (T0.setTop (mkF m 142 #[.val (.int i0), .val (.long j1), .second, .val (.int i3), .val (.int i4), .val (.int i5), .val (.int i6), .val (.int i7), .val (.int i8), .val (.int i9), .val (.int i10), .val (.int i11), .val (.long j12), .second, .val (.int i14), .unset] [(.int (1 : Int32))])) _
      refine XS.istore X0.here hx rfl (hb hby at_142) rfl (l' := #[.val (.int i0), .val (.long j1), .second, .val (.int i3), .val (.int i4), .val (.int i5), .val (.int i6), .val (.int i7), .val (.int i8), .val (.int i9), .val (.int i10), .val (.int i11), .val (.long j12), .second, .val (.int i14), .val (.int (1 : Int32))]) rfl ?_
      rw [if_neg hc112, if_pos hc117] at kt
      exact kt
    · refine XS.ifYes X0.here hx rfl (pc0 := 117) (pc' := 124) rfl (hb hby at_117) rfl ((if0 _ _).trans (flt hc117).2.2.2) (by decide) (by decide) ?_
      show Steps p.tables e below (T0.setTop (mkF m 124 #[.val (.int i0), .val (.long j1), .second, .val (.int i3), .val (.int i4), .val (.int i5), .val (.int i6), .val (.int i7), .val (.int i8), .val (.int i9), .val (.int i10), .val (.int i11), .val (.long j12), .second, .val (.int i14), .unset] [])) _
      refine XS.iconst X0.here hx rfl (hb hby at_124) ?_
      show Steps p.tables e below (T0.setTop (mkF m 125 #[.val (.int i0), .val (.long j1), .second, .val (.int i3), .val (.int i4), .val (.int i5), .val (.int i6), .val (.int i7), .val (.int i8), .val (.int i9), .val (.int i10), .val (.int i11), .val (.long j12), .second, .val (.int i14), .unset] [(.int (0 : Int32))])) _
      refine XS.goto X0.here hx rfl (pc0 := 125) (pc' := 142) rfl (hb hby at_125) (by decide) (by decide) ?_
      show Steps p.tables e below (T0.setTop (mkF m 142 #[.val (.int i0), .val (.long j1), .second, .val (.int i3), .val (.int i4), .val (.int i5), .val (.int i6), .val (.int i7), .val (.int i8), .val (.int i9), .val (.int i10), .val (.int i11), .val (.long j12), .second, .val (.int i14), .unset] [(.int (0 : Int32))])) _
      refine XS.istore X0.here hx rfl (hb hby at_142) rfl (l' := #[.val (.int i0), .val (.long j1), .second, .val (.int i3), .val (.int i4), .val (.int i5), .val (.int i6), .val (.int i7), .val (.int i8), .val (.int i9), .val (.int i10), .val (.int i11), .val (.long j12), .second, .val (.int i14), .val (.int (0 : Int32))]) rfl ?_
      rw [if_neg hc112, if_neg hc117] at kt
      exact kt
set_option maxRecDepth 65536 in
set_option maxHeartbeats 40000000 in
theorem tn0_152_167 {p : Program} {l : Launch} {e : Env} {R : Room} {s : State} {m : MethodId} {args : Array Value} {below : List Frame} {meth : Method} {c : Code} {T0 : State} {locs : List Loc} {cells slots : Nat} {Z : State} {a0 : Array Value} {i0 : Int32} {j1 : Int64} {i3 : Int32} {i4 : Int32} {i5 : Int32} {i6 : Int32} {i7 : Int32} {i8 : Int32} {i9 : Int32} {i10 : Int32} {i11 : Int32} {j12 : Int64} {i14 : Int32} {i15 : Int32} {u0 : Int32} (X0 : Stand p l e R s m args below meth c T0 locs cells slots) (hx : p.tables.exec = Jvm.exec) (hZ : Z.Warmed39 s.vm) (hw : ∀ d ∈ tables_1, d.before a0 Z = true) (hby : c.code = code) (hown : s.vm.findClass "com/example/signpost/signpost/wire/ServiceReplyOverfillsPinLaw" = some m.cls) :
    ∀ target, Steps p.tables e below (T0.setTop (mkF m 167 #[.val (.int i0), .val (.long j1), .second, .val (.int i3), .val (.int i4), .val (.int i5), .val (.int i6), .val (.int i7), .val (.int i8), .val (.int i9), .val (.int i10), .val (.int i11), .val (.long j12), .second, .val (.int i14), .val (.int i15)] [(.int (if i14 = (0 : Int32) then (if i15 = (0 : Int32) then (0 : Int32) else (1 : Int32)) else (1 : Int32))), (.int u0)])) target → Steps p.tables e below (T0.setTop (mkF m 152 #[.val (.int i0), .val (.long j1), .second, .val (.int i3), .val (.int i4), .val (.int i5), .val (.int i6), .val (.int i7), .val (.int i8), .val (.int i9), .val (.int i10), .val (.int i11), .val (.long j12), .second, .val (.int i14), .val (.int i15)] [(.int u0)])) target := by
  intro target kt
  show Steps p.tables e below (T0.setTop (mkF m 152 #[.val (.int i0), .val (.long j1), .second, .val (.int i3), .val (.int i4), .val (.int i5), .val (.int i6), .val (.int i7), .val (.int i8), .val (.int i9), .val (.int i10), .val (.int i11), .val (.long j12), .second, .val (.int i14), .val (.int i15)] [(.int u0)])) _
  refine XS.iload X0.here hx rfl (hb hby at_152) rfl ?_
  show Steps p.tables e below (T0.setTop (mkF m 154 #[.val (.int i0), .val (.long j1), .second, .val (.int i3), .val (.int i4), .val (.int i5), .val (.int i6), .val (.int i7), .val (.int i8), .val (.int i9), .val (.int i10), .val (.int i11), .val (.long j12), .second, .val (.int i14), .val (.int i15)] [(.int i14), (.int u0)])) _
  by_cases hc154 : i14 = (0 : Int32)
  · refine XS.ifNo X0.here hx rfl (hb hby at_154) rfl ((if0 _ _).trans (teq hc154).2) ?_
    show Steps p.tables e below (T0.setTop (mkF m 157 #[.val (.int i0), .val (.long j1), .second, .val (.int i3), .val (.int i4), .val (.int i5), .val (.int i6), .val (.int i7), .val (.int i8), .val (.int i9), .val (.int i10), .val (.int i11), .val (.long j12), .second, .val (.int i14), .val (.int i15)] [(.int u0)])) _
    refine XS.iload X0.here hx rfl (hb hby at_157) rfl ?_
    show Steps p.tables e below (T0.setTop (mkF m 159 #[.val (.int i0), .val (.long j1), .second, .val (.int i3), .val (.int i4), .val (.int i5), .val (.int i6), .val (.int i7), .val (.int i8), .val (.int i9), .val (.int i10), .val (.int i11), .val (.long j12), .second, .val (.int i14), .val (.int i15)] [(.int i15), (.int u0)])) _
    by_cases hc159 : i15 = (0 : Int32)
    · refine XS.ifYes X0.here hx rfl (pc0 := 159) (pc' := 166) rfl (hb hby at_159) rfl ((if0 _ _).trans (teq hc159).1) (by decide) (by decide) ?_
      show Steps p.tables e below (T0.setTop (mkF m 166 #[.val (.int i0), .val (.long j1), .second, .val (.int i3), .val (.int i4), .val (.int i5), .val (.int i6), .val (.int i7), .val (.int i8), .val (.int i9), .val (.int i10), .val (.int i11), .val (.long j12), .second, .val (.int i14), .val (.int i15)] [(.int u0)])) _
      refine XS.iconst X0.here hx rfl (hb hby at_166) ?_
      rw [if_pos hc154, if_pos hc159] at kt
      exact kt
    · refine XS.ifNo X0.here hx rfl (hb hby at_159) rfl ((if0 _ _).trans (feq hc159).1) ?_
      show Steps p.tables e below (T0.setTop (mkF m 162 #[.val (.int i0), .val (.long j1), .second, .val (.int i3), .val (.int i4), .val (.int i5), .val (.int i6), .val (.int i7), .val (.int i8), .val (.int i9), .val (.int i10), .val (.int i11), .val (.long j12), .second, .val (.int i14), .val (.int i15)] [(.int u0)])) _
      refine XS.iconst X0.here hx rfl (hb hby at_162) ?_
      show Steps p.tables e below (T0.setTop (mkF m 163 #[.val (.int i0), .val (.long j1), .second, .val (.int i3), .val (.int i4), .val (.int i5), .val (.int i6), .val (.int i7), .val (.int i8), .val (.int i9), .val (.int i10), .val (.int i11), .val (.long j12), .second, .val (.int i14), .val (.int i15)] [(.int (1 : Int32)), (.int u0)])) _
      refine XS.goto X0.here hx rfl (pc0 := 163) (pc' := 167) rfl (hb hby at_163) (by decide) (by decide) ?_
      rw [if_pos hc154, if_neg hc159] at kt
      exact kt
  · refine XS.ifYes X0.here hx rfl (pc0 := 154) (pc' := 162) rfl (hb hby at_154) rfl ((if0 _ _).trans (feq hc154).2) (by decide) (by decide) ?_
    show Steps p.tables e below (T0.setTop (mkF m 162 #[.val (.int i0), .val (.long j1), .second, .val (.int i3), .val (.int i4), .val (.int i5), .val (.int i6), .val (.int i7), .val (.int i8), .val (.int i9), .val (.int i10), .val (.int i11), .val (.long j12), .second, .val (.int i14), .val (.int i15)] [(.int u0)])) _
    refine XS.iconst X0.here hx rfl (hb hby at_162) ?_
    show Steps p.tables e below (T0.setTop (mkF m 163 #[.val (.int i0), .val (.long j1), .second, .val (.int i3), .val (.int i4), .val (.int i5), .val (.int i6), .val (.int i7), .val (.int i8), .val (.int i9), .val (.int i10), .val (.int i11), .val (.long j12), .second, .val (.int i14), .val (.int i15)] [(.int (1 : Int32)), (.int u0)])) _
    refine XS.goto X0.here hx rfl (pc0 := 163) (pc' := 167) rfl (hb hby at_163) (by decide) (by decide) ?_
    rw [if_neg hc154] at kt
    exact kt
theorem pn_0 : plainName "com/example/signpost/signpost/wire/ServiceReplyOverfillsPinLaw" = true := by first | (simp [plainName, overriddenIn]; done) | decide +kernel
theorem pd_0_0 : parseMethodDescriptor "(IJI)Z" = some ⟨[.int, .long, .int], some .boolean⟩ := by decide +kernel
theorem ef_0 (m : MethodId) (x0 : Int32) (x1 : Int64) (x2 : Int32) (x3 : Int32) (x4 : Int32) (x5 : Int32) : entryFrame m #[(.int x0), (.long x1), (.int x2), (.int x3), (.int x4), (.int x5)] maxLocals = mkF m 0 #[.val (.int x0), .val (.long x1), .second, .val (.int x2), .val (.int x3), .val (.int x4), .val (.int x5), .unset, .unset, .unset, .unset, .unset, .unset, .unset, .unset, .unset] [] := by first | (simp [entryFrame, mkF, argsToLocals, Value.category, maxLocals]; done) | rfl
def Q0 (Z : State) (p1 : Int32) (q2 : Int64) (p3 : Int32) (p4 : Int32) (p5 : Int32) (p6 : Int32) (h0 : Heap) (n0 : Nat) (v : Option Value) (h : Heap) (L : List Loc) : Prop := v = some (.int (1 : Int32)) ∧ Fr n0 L
set_option maxRecDepth 65536 in
set_option maxHeartbeats 40000000 in
theorem rm0 (l : Launch) (Z : State) (a0 : Array Value) (hw : ∀ d ∈ tables_1, d.before a0 Z = true) (ws : List Jvm.Cond) (p1 : Int32) (q2 : Int64) (p3 : Int32) (p4 : Int32) (p5 : Int32) (p6 : Int32) (h0 : Heap) (n0 : Nat) (Z0 : n0 ≤ h0.size) :
    MetFree l x (head1 (Jvm.Cond.code x code maxLocals ret :: ws) room_1) (fun a U => a = #[(.int p1), (.long q2), (.int p3), (.int p4), (.int p5), (.int p6)] ∧ Z.Warmed39 U.vm ∧ U.heap = h0) (fun _ _ _ _ _ => True) (fun _ U o U' => ∃ v L, o = .returned v ∧ Q0 Z p1 q2 p3 p4 p5 p6 h0 n0 v U'.heap L ∧ FrameEnd U o U' L room_1.cells room_1.slots) := by
  refine MetFree.of_bodySF (plainFor_of_name pn_0) hisR ?_
  intro p e s m args below meth c s₁ Bd hml0 hP hK
  obtain ⟨rfl, hZ, hh⟩ := hP
  have hx := Bd.exec
  have hby := Bd.bytes
  have hml : c.maxLocals = 16 := hml0
  have hown : s.vm.findClass "com/example/signpost/signpost/wire/ServiceReplyOverfillsPinLaw" = some m.cls := findClass_of_methodNamed Bd.named
  have hnm := (name_of_methodNamed Bd.named Bd.method).1
  have X0 : Stand p l e room_1 s m #[(.int p1), (.long q2), (.int p3), (.int p4), (.int p5), (.int p6)] below meth c s₁ [] 0 0 := Stand.of_body Bd
  have e0 : s₁.heap = h0 := by rw [← hh, Bd.state]; rfl
  have N0 := Fr.nil n0
  have pre0 : ∀ t, Steps p.tables e below (s₁.setTop (mkF m 0 #[.val (.int p1), .val (.long q2), .second, .val (.int p3), .val (.int p4), .val (.int p5), .val (.int p6), .unset, .unset, .unset, .unset, .unset, .unset, .unset, .unset, .unset] [])) t → Steps p.tables e below (s₁.setTop (entryFrame m #[(.int p1), (.long q2), (.int p3), (.int p4), (.int p5), (.int p6)] maxLocals)) t := fun t k => castTop (ef_0 m p1 q2 p3 p4 p5 p6) k
  obtain ⟨_, _, ⟨T2, L2, k2, n2⟩, -, X2, ⟨Lc2, hQ2, l2, y2, z2⟩, st2⟩ := Jvm.LawKit.callS X0 hx (y := (⟨"com/example/signpost/signpost/wire/ServiceReply", "overfills", "(IJI)Z"⟩ : MethodName)) hown (mvT hZ (hw _ (List.mem_of_getElem? (i := 1) rfl))) (mvT hZ (hw _ (List.mem_of_getElem? (i := 2) rfl))) (mvT hZ (hw _ (List.mem_of_getElem? (i := 3) rfl))) (mvT hZ (hw _ (List.mem_of_getElem? (i := 4) rfl))) (by decide) (backOf (W := 0) (rm1 l Z a0 hw [] (own_c (own_b1 p4) p1 (own_d p5)) (own_w (own_b2 p4) q2 p3 (own_d p6)) p3 h0 n0 Z0) hZ (hw _ (List.mem_of_getElem? (i := 4) rfl)) (hw _ (List.mem_of_getElem? (i := 3) rfl)) (by decide) (by decide)) (g := (mkF m 149 #[.val (.int p1), .val (.long q2), .second, .val (.int p3), .val (.int p4), .val (.int p5), .val (.int p6), .val (.int (own_b1 p4)), .val (.int (own_b2 p4)), .val (.int (own_d p5)), .val (.int (own_d p6)), .val (.int (own_c (own_b1 p4) p1 (own_d p5))), .val (.long (own_w (own_b2 p4) q2 p3 (own_d p6))), .second, .val (.int (own_cp (own_b1 p4) p1 (own_d p5))), .val (.int (own_lp (own_b2 p4) q2 p3 (own_d p6)))] [(.int p3), (.long (own_w (own_b2 p4) q2 p3 (own_d p6))), (.int (own_c (own_b1 p4) p1 (own_d p5)))])) rfl (by rw [hml]; rfl) (argsL := [(.int (own_c (own_b1 p4) p1 (own_d p5))), (.long (own_w (own_b2 p4) q2 p3 (own_d p6))), (.int p3)]) (rest := []) (lenOf pd_0_0 rfl) rfl (by show 2 * 0 + _ ≤ _; exact Nat.le_of_eq rfl) (hb hby at_149) (fun _ _ => ⟨rfl, e0, (by decide : 0 + 0 ≤ _), (by decide : 0 + 0 ≤ _)⟩)
  dsimp only [Pt.U, Pt.locs, Pt.cells, Pt.slots] at X2 l2 y2 z2 st2 hQ2
  subst l2 y2 z2
  obtain ⟨rfl, N2q, -⟩ := hQ2
  have N2 := Fr.app N0 N2q
  obtain ⟨fs, hr, hrun, hended, hW, hsame⟩ := X2.leave (v := some (.int (1 : Int32))) (fun h => by rw [Bd.returns] at h; cases h)
  refine ⟨_, _, pre0 _ ?_, hrun, hended, _, _, rfl, ?_, ⟨_, rfl⟩, hW, hsame.mono (by decide) (by decide)⟩
  · show Steps p.tables e below (s₁.setTop (mkF m 0 #[.val (.int p1), .val (.long q2), .second, .val (.int p3), .val (.int p4), .val (.int p5), .val (.int p6), .unset, .unset, .unset, .unset, .unset, .unset, .unset, .unset, .unset] [])) _
    refine tn0_0_14 X0 hx hZ hw hby hown _ ?_
    show Steps p.tables e below (s₁.setTop (mkF m 14 #[.val (.int p1), .val (.long q2), .second, .val (.int p3), .val (.int p4), .val (.int p5), .val (.int p6), .val (.int (own_b1 p4)), .unset, .unset, .unset, .unset, .unset, .unset, .unset, .unset] [])) _
    refine tn0_14_28 X0 hx hZ hw hby hown _ ?_
    show Steps p.tables e below (s₁.setTop (mkF m 28 #[.val (.int p1), .val (.long q2), .second, .val (.int p3), .val (.int p4), .val (.int p5), .val (.int p6), .val (.int (own_b1 p4)), .val (.int (own_b2 p4)), .unset, .unset, .unset, .unset, .unset, .unset, .unset] [])) _
    refine tn0_28_46 X0 hx hZ hw hby hown _ ?_
    show Steps p.tables e below (s₁.setTop (mkF m 46 #[.val (.int p1), .val (.long q2), .second, .val (.int p3), .val (.int p4), .val (.int p5), .val (.int p6), .val (.int (own_b1 p4)), .val (.int (own_b2 p4)), .val (.int (own_d p5)), .val (.int (own_d p6)), .unset, .unset, .unset, .unset, .unset] [])) _
    refine tn0_46_62 X0 hx hZ hw hby hown _ ?_
    show Steps p.tables e below (s₁.setTop (mkF m 62 #[.val (.int p1), .val (.long q2), .second, .val (.int p3), .val (.int p4), .val (.int p5), .val (.int p6), .val (.int (own_b1 p4)), .val (.int (own_b2 p4)), .val (.int (own_d p5)), .val (.int (own_d p6)), .val (.int (own_c (own_b1 p4) p1 (own_d p5))), .unset, .unset, .unset, .unset] [])) _
    refine tn0_62_79 X0 hx hZ hw hby hown _ ?_
    show Steps p.tables e below (s₁.setTop (mkF m 79 #[.val (.int p1), .val (.long q2), .second, .val (.int p3), .val (.int p4), .val (.int p5), .val (.int p6), .val (.int (own_b1 p4)), .val (.int (own_b2 p4)), .val (.int (own_d p5)), .val (.int (own_d p6)), .val (.int (own_c (own_b1 p4) p1 (own_d p5))), .val (.long (own_w (own_b2 p4) q2 p3 (own_d p6))), .second, .unset, .unset] [])) _
    refine tn0_79_110 X0 hx hZ hw hby hown _ ?_
    show Steps p.tables e below (s₁.setTop (mkF m 110 #[.val (.int p1), .val (.long q2), .second, .val (.int p3), .val (.int p4), .val (.int p5), .val (.int p6), .val (.int (own_b1 p4)), .val (.int (own_b2 p4)), .val (.int (own_d p5)), .val (.int (own_d p6)), .val (.int (own_c (own_b1 p4) p1 (own_d p5))), .val (.long (own_w (own_b2 p4) q2 p3 (own_d p6))), .second, .val (.int (own_cp (own_b1 p4) p1 (own_d p5))), .unset] [])) _
    refine tn0_110_144 X0 hx hZ hw hby hown _ ?_
    show Steps p.tables e below (s₁.setTop (mkF m 144 #[.val (.int p1), .val (.long q2), .second, .val (.int p3), .val (.int p4), .val (.int p5), .val (.int p6), .val (.int (own_b1 p4)), .val (.int (own_b2 p4)), .val (.int (own_d p5)), .val (.int (own_d p6)), .val (.int (own_c (own_b1 p4) p1 (own_d p5))), .val (.long (own_w (own_b2 p4) q2 p3 (own_d p6))), .second, .val (.int (own_cp (own_b1 p4) p1 (own_d p5))), .val (.int (own_lp (own_b2 p4) q2 p3 (own_d p6)))] [])) _
    refine XS.iload X0.here hx rfl (hb hby at_144) rfl ?_
    show Steps p.tables e below (s₁.setTop (mkF m 146 #[.val (.int p1), .val (.long q2), .second, .val (.int p3), .val (.int p4), .val (.int p5), .val (.int p6), .val (.int (own_b1 p4)), .val (.int (own_b2 p4)), .val (.int (own_d p5)), .val (.int (own_d p6)), .val (.int (own_c (own_b1 p4) p1 (own_d p5))), .val (.long (own_w (own_b2 p4) q2 p3 (own_d p6))), .second, .val (.int (own_cp (own_b1 p4) p1 (own_d p5))), .val (.int (own_lp (own_b2 p4) q2 p3 (own_d p6)))] [(.int (own_c (own_b1 p4) p1 (own_d p5)))])) _
    refine XS.lload X0.here hx rfl (hb hby at_146) rfl ?_
    show Steps p.tables e below (s₁.setTop (mkF m 148 #[.val (.int p1), .val (.long q2), .second, .val (.int p3), .val (.int p4), .val (.int p5), .val (.int p6), .val (.int (own_b1 p4)), .val (.int (own_b2 p4)), .val (.int (own_d p5)), .val (.int (own_d p6)), .val (.int (own_c (own_b1 p4) p1 (own_d p5))), .val (.long (own_w (own_b2 p4) q2 p3 (own_d p6))), .second, .val (.int (own_cp (own_b1 p4) p1 (own_d p5))), .val (.int (own_lp (own_b2 p4) q2 p3 (own_d p6)))] [(.long (own_w (own_b2 p4) q2 p3 (own_d p6))), (.int (own_c (own_b1 p4) p1 (own_d p5)))])) _
    refine XS.iloadN X0.here hx rfl (hb hby at_148) rfl ?_
    show Steps p.tables e below (s₁.setTop (mkF m 149 #[.val (.int p1), .val (.long q2), .second, .val (.int p3), .val (.int p4), .val (.int p5), .val (.int p6), .val (.int (own_b1 p4)), .val (.int (own_b2 p4)), .val (.int (own_d p5)), .val (.int (own_d p6)), .val (.int (own_c (own_b1 p4) p1 (own_d p5))), .val (.long (own_w (own_b2 p4) q2 p3 (own_d p6))), .second, .val (.int (own_cp (own_b1 p4) p1 (own_d p5))), .val (.int (own_lp (own_b2 p4) q2 p3 (own_d p6)))] [(.int p3), (.long (own_w (own_b2 p4) q2 p3 (own_d p6))), (.int (own_c (own_b1 p4) p1 (own_d p5)))])) _
    refine st2 _ ?_
    show Steps p.tables e below (T2.setTop (mkF m 152 #[.val (.int p1), .val (.long q2), .second, .val (.int p3), .val (.int p4), .val (.int p5), .val (.int p6), .val (.int (own_b1 p4)), .val (.int (own_b2 p4)), .val (.int (own_d p5)), .val (.int (own_d p6)), .val (.int (own_c (own_b1 p4) p1 (own_d p5))), .val (.long (own_w (own_b2 p4) q2 p3 (own_d p6))), .second, .val (.int (own_cp (own_b1 p4) p1 (own_d p5))), .val (.int (own_lp (own_b2 p4) q2 p3 (own_d p6)))] [(.int (own_over (own_c (own_b1 p4) p1 (own_d p5)) (own_w (own_b2 p4) q2 p3 (own_d p6)) p3))])) _
    refine tn0_152_167 X2 hx hZ hw hby hown _ ?_
    show Steps p.tables e below (T2.setTop (mkF m 167 #[.val (.int p1), .val (.long q2), .second, .val (.int p3), .val (.int p4), .val (.int p5), .val (.int p6), .val (.int (own_b1 p4)), .val (.int (own_b2 p4)), .val (.int (own_d p5)), .val (.int (own_d p6)), .val (.int (own_c (own_b1 p4) p1 (own_d p5))), .val (.long (own_w (own_b2 p4) q2 p3 (own_d p6))), .second, .val (.int (own_cp (own_b1 p4) p1 (own_d p5))), .val (.int (own_lp (own_b2 p4) q2 p3 (own_d p6)))] [(.int (own_or (own_cp (own_b1 p4) p1 (own_d p5)) (own_lp (own_b2 p4) q2 p3 (own_d p6)))), (.int (own_over (own_c (own_b1 p4) p1 (own_d p5)) (own_w (own_b2 p4) q2 p3 (own_d p6)) p3))])) _
    refine XS.icmpNo X2.here hx rfl (hb hby at_167) rfl (teq (own_all _ _ _ _ _ _ _ (own_d_rng _) (own_d_rng _) : (own_over (own_c (own_b1 p4) p1 (own_d p5)) (own_w (own_b2 p4) q2 p3 (own_d p6)) p3) = (own_or (own_cp (own_b1 p4) p1 (own_d p5)) (own_lp (own_b2 p4) q2 p3 (own_d p6))))).2 ?_
    show Steps p.tables e below (T2.setTop (mkF m 170 #[.val (.int p1), .val (.long q2), .second, .val (.int p3), .val (.int p4), .val (.int p5), .val (.int p6), .val (.int (own_b1 p4)), .val (.int (own_b2 p4)), .val (.int (own_d p5)), .val (.int (own_d p6)), .val (.int (own_c (own_b1 p4) p1 (own_d p5))), .val (.long (own_w (own_b2 p4) q2 p3 (own_d p6))), .second, .val (.int (own_cp (own_b1 p4) p1 (own_d p5))), .val (.int (own_lp (own_b2 p4) q2 p3 (own_d p6)))] [])) _
    refine XS.iconst X2.here hx rfl (hb hby at_170) ?_
    show Steps p.tables e below (T2.setTop (mkF m 171 #[.val (.int p1), .val (.long q2), .second, .val (.int p3), .val (.int p4), .val (.int p5), .val (.int p6), .val (.int (own_b1 p4)), .val (.int (own_b2 p4)), .val (.int (own_d p5)), .val (.int (own_d p6)), .val (.int (own_c (own_b1 p4) p1 (own_d p5))), .val (.long (own_w (own_b2 p4) q2 p3 (own_d p6))), .second, .val (.int (own_cp (own_b1 p4) p1 (own_d p5))), .val (.int (own_lp (own_b2 p4) q2 p3 (own_d p6)))] [(.int (1 : Int32))])) _
    refine XS.goto X2.here hx rfl (pc0 := 171) (pc' := 175) rfl (hb hby at_171) (by decide) (by decide) ?_
    show Steps p.tables e below (T2.setTop (mkF m 175 #[.val (.int p1), .val (.long q2), .second, .val (.int p3), .val (.int p4), .val (.int p5), .val (.int p6), .val (.int (own_b1 p4)), .val (.int (own_b2 p4)), .val (.int (own_d p5)), .val (.int (own_d p6)), .val (.int (own_c (own_b1 p4) p1 (own_d p5))), .val (.long (own_w (own_b2 p4) q2 p3 (own_d p6))), .second, .val (.int (own_cp (own_b1 p4) p1 (own_d p5))), .val (.int (own_lp (own_b2 p4) q2 p3 (own_d p6)))] [(.int (1 : Int32))])) _
    exact retN X2 hx (t := .boolean) Bd.returns (by simp) (hb hby at_175) hr
  · show Q0 Z p1 q2 p3 p4 p5 p6 h0 n0 _ T2.heap _
    exact ⟨rfl, N2⟩
set_option maxRecDepth 65536 in
set_option maxHeartbeats 40000000 in
theorem comes_1 {Post : Tables → Env → Array Value → State → Outcome → State → Prop} (hpost : ∀ tb e args s v u, (limb_1_1.after args s (.returned v) u = true ∧ limb_1_2.after args s (.returned v) u = true ∧ True) → FrameEnd s (.returned v) u (Jvm.fieldLocs frame_1_writes args s ++ Jvm.arrayLocs frame_1_arrays args s ++ Jvm.staticLocs frame_1_statics s) 0 0 → Post tb e args s (.returned v) u) :
    ArmFor flags0 classFile x code maxLocals ret World_1 tables_1 room_1 Calls_1 rest_1 Pre_1 Post := by
  intro l hfl _ _ p e ha hc hk s m args below hf hA hF happ hP
  obtain ⟨hcalls, hrest, hpre⟩ := hP
  obtain ⟨-, -, -, hnamed, -, -, -, hat⟩ := (Spec.applies_iff hf).mp happ
  obtain ⟨hg, hn⟩ := and_e (Cond.before_iff.mp (show (Jvm.Cond.and given_1 narrow_1).before args s = true from hpre))
  obtain ⟨g8, g9⟩ := and_e hg
  obtain ⟨g10, g11⟩ := and_e g9
  obtain ⟨g12, g13⟩ := and_e g11
  obtain ⟨g14, g15⟩ := and_e g13
  obtain ⟨g16, g17⟩ := and_e g15
  obtain ⟨g18, g19⟩ := and_e g17
  obtain ⟨w0, w1, w2, w3, w4, w5, rfl⟩ : ∃ w0 w1 w2 w3 w4 w5 : Value, args = #[w0, w1, w2, w3, w4, w5] := by
    have hs : args.size = 6 := by simpa [Cond.value, given_1] using g8
    obtain ⟨L⟩ := args
    match L, hs with
    | [w0, w1, w2, w3, w4, w5], _ => exact ⟨w0, w1, w2, w3, w4, w5, rfl⟩
  have hw := fun d (hd : d ∈ tables_1) => atoms_spec (ws := Jvm.Cond.code x code maxLocals ret :: tables_1) hat d (List.mem_cons_of_mem _ hd)
  have hfit : Fit s := fun {y c} hc i hi => by
    obtain ⟨ha, rfl⟩ := Array.getElem?_eq_some_iff.mp hc
    have q := List.all_eq_true.mp ((Array.all_eq_true_iff_forall_mem.mp hF) _ (Array.getElem_mem ha)) i (List.mem_range.mpr hi)
    simpa [Array.getElem?_eq_getElem hi] using q
  obtain ⟨i0, ei0⟩ := is_v g10
  obtain rfl : w0 = (.int i0) := Option.some.inj ei0
  obtain ⟨i1, ei1⟩ := isL_v g12
  obtain rfl : w1 = (.long i1) := Option.some.inj ei1
  obtain ⟨i2, ei2⟩ := is_v g14
  obtain rfl : w2 = (.int i2) := Option.some.inj ei2
  obtain ⟨i3, ei3⟩ := is_v g16
  obtain rfl : w3 = (.int i3) := Option.some.inj ei3
  obtain ⟨i4, ei4⟩ := is_v g18
  obtain rfl : w4 = (.int i4) := Option.some.inj ei4
  obtain ⟨i5, ei5⟩ := is_v g19
  obtain rfl : w5 = (.int i5) := Option.some.inj ei5
  obtain ⟨n, o, h1, h2, h3, _, L, rfl, ⟨rfl, N⟩, hq⟩ := rm0 l s _ hw tables_1 i0 i1 i2 i3 i4 i5 s.heap s.heap.size (Nat.le_refl _) p e ha hc hk s m _ below hf ((Spec.applies_iff_loose hf).mp happ).1 ⟨rfl, State.Warmed39.refl s, rfl⟩ trivial
  refine ⟨n, _, h1, h2, h3, hpost _ _ _ _ _ _ ⟨Cond.after_iff.mpr rfl, Cond.after_iff.mpr (eq_i res_at (Term.int_eval (1)) rfl), trivial⟩ ⟨hq.1, hq.2.1, (hq.2.2.sift fun y hy => Or.inr (N y hy)).mono (by decide) (by decide)⟩⟩
theorem main_1_1 : Claimed_1_1 := comes_1 fun _ _ _ _ _ _ h hF => ⟨h.1, hF⟩
theorem main_1_2 : Claimed_1_2 := comes_1 fun _ _ _ _ _ _ h hF => ⟨h.2.1, hF⟩
end Jvm.Pilot.@@N@@
namespace Jvm.Pilot.@@N@@
open Jvm Jvm.ClassFile Sem Op Lib Jvm.Free Jvm.Stand Jvm.Pilot.@@N@@.Jvm.D
/-! MADE BY PROGRAM (witnessworld.py) out of the Statement's table words and the real class files: 11 classes; the members and pool entries that the words name. The judged class is class 1, her method 1. -/
namespace start1
open Jvm.ClassFile
def u (s : String) : CpInfo := .utf8 (stringToUtf16 s)
/-- a pool by its gaps: so many unusable entries, then the entry; so many at the end -/
def gap : Nat → List CpInfo → List CpInfo
  | 0, r => r
  | n + 1, r => .unusable :: gap n r
def poolList (es : List (Nat × CpInfo)) (last : Nat) : List CpInfo := es.foldr (fun e r => gap e.1 (e.2 :: r)) (gap last [])
def pool (es : List (Nat × CpInfo)) (last : Nat) : Array CpInfo := ⟨poolList es last⟩
def fileOf (pool : Array CpInfo) (this : Nat) (attrs : Array Attribute := #[]) (ms : Array MethodInfo := #[]) (fl : Nat := 33) (sup : Nat := 0) (ifs : Array Nat := #[]) (fds : Array FieldInfo := #[]) : ClassFile where
  minorVersion := 0
  majorVersion := 65
  constantPool := pool
  accessFlags := fl
  thisClass := this
  superClass := sup
  interfaces := ifs
  fields := fds
  methods := ms
  attributes := attrs
def plain (name : String) (sup : Option ClassId) : Class where
  name := name
  kind := .ordinary
  loader := none
  accessFlags := 33
  super := sup
  interfaces := #[]
  cf := none
  fields := #[]
  methods := #[]
  instanceTypes := #[]
  staticTypes := #[]
  resolved := #[]
  callSites := []
  init := .initialized
  statics := none
  mirror := none

def pool0 : Array CpInfo := pool [(5, u "<init>"), (0, u "()V"), (1, .class_ 10), (1, u "java/lang/Object")] 113

def k0m0 : Method := { name := "<init>", desc := "()V", sig := { parameters := [], returnType := none }, accessFlags := 1, code := none }
/-- java/lang/Object -/
def k0 : Class := { plain "java/lang/Object" none with
  accessFlags := 33
  interfaces := #[]
  cf := some (fileOf pool0 8 #[] #[{ accessFlags := 1, nameIndex := 5, descriptorIndex := 6, attributes := #[] }] 33 0 #[] #[])
  fields := #[]
  methods := #[k0m0]
  instanceTypes := #[]
  staticTypes := #[]
  resolved := Array.replicate 124 none
  statics := none }

def pool1 : Array CpInfo := pool [(2, .class_ 4), (1, u "java/lang/Object"), (0, u "<init>"), (0, u "()V"), (0, .integer 65535), (0, .integer 65536), (0, .methodref 10 11), (0, .class_ 12), (0, .nameAndType 13 14), (0, u "com/example/signpost/signpost/wire/ServiceReply"), (0, u "overfills"), (0, u "(IJI)Z"), (0, .class_ 16), (0, u "com/example/signpost/signpost/wire/ServiceReplyOverfillsPinLaw"), (2, u "law"), (0, u "(IJIIII)Z")] 3

def k1m0 : Method := { name := "<init>", desc := "()V", sig := { parameters := [], returnType := none }, accessFlags := 2, code := none }
def k1c1 : Code := { maxStack := 6, maxLocals := 16, code := code, exceptionTable := #[], attributes := #[] }
def k1m1 : Method := { name := "law", desc := "(IJIIII)Z", sig := { parameters := [.int, .long, .int, .int, .int, .int], returnType := some .boolean }, accessFlags := 9, code := some k1c1 }
/-- com/example/signpost/signpost/wire/ServiceReplyOverfillsPinLaw -/
def k1 : Class := { plain "com/example/signpost/signpost/wire/ServiceReplyOverfillsPinLaw" (some 0) with
  accessFlags := 49
  interfaces := #[]
  cf := some (fileOf pool1 15 #[] #[{ accessFlags := 2, nameIndex := 5, descriptorIndex := 6, attributes := #[] }, { accessFlags := 9, nameIndex := 19, descriptorIndex := 20, attributes := #[] }] 49 2 #[] #[])
  fields := #[]
  methods := #[k1m0, k1m1]
  instanceTypes := #[]
  staticTypes := #[]
  resolved := Array.replicate 24 none
  statics := none }

def pool2 : Array CpInfo := pool [(2, .class_ 4), (1, u "java/lang/Object"), (0, u "<init>"), (0, u "()V"), (0, .class_ 8), (0, u "java/lang/Record")] 13

def k2m0 : Method := { name := "<init>", desc := "()V", sig := { parameters := [], returnType := none }, accessFlags := 4, code := none }
/-- java/lang/Record -/
def k2 : Class := { plain "java/lang/Record" (some 0) with
  accessFlags := 1057
  interfaces := #[]
  cf := some (fileOf pool2 7 #[] #[{ accessFlags := 4, nameIndex := 5, descriptorIndex := 6, attributes := #[] }] 1057 2 #[] #[])
  fields := #[]
  methods := #[k2m0]
  instanceTypes := #[]
  staticTypes := #[]
  resolved := Array.replicate 22 none
  statics := none }

def pool3 : Array CpInfo := pool [(1, .class_ 2), (0, u "com/example/signpost/signpost/wire/Reply"), (0, .class_ 4), (0, u "java/lang/Object")] 8

/-- com/example/signpost/signpost/wire/Reply -/
def k3 : Class := { plain "com/example/signpost/signpost/wire/Reply" (some 0) with
  accessFlags := 1537
  interfaces := #[]
  cf := some (fileOf pool3 1 #[] #[] 1537 3 #[] #[])
  fields := #[]
  methods := #[]
  instanceTypes := #[]
  staticTypes := #[]
  resolved := Array.replicate 13 none
  statics := none }

def pool4 : Array CpInfo := pool [(2, .class_ 4), (1, u "java/lang/Record"), (9, .class_ 16), (1, u "com/example/signpost/signpost/wire/ServiceReply"), (0, u "xid"), (0, u "I"), (2, u "language"), (0, u "Ljava/lang/String;"), (2, u "errorCode"), (2, u "entries"), (0, u "Ljava/util/List;"), (2, u "overflow"), (0, u "Z"), (24, .integer 65535), (94, .class_ 154), (0, u "com/example/signpost/signpost/wire/Reply"), (2, u "MAX_COUNT"), (10, u "overfills"), (0, u "(IJI)Z")] 33

def k4c0 : Code := { maxStack := 4, maxLocals := 4, code := prog_81_method_4_code, exceptionTable := #[], attributes := #[] }
def k4m0 : Method := { name := "overfills", desc := "(IJI)Z", sig := { parameters := [.int, .long, .int], returnType := some .boolean }, accessFlags := 9, code := some k4c0 }
/-- com/example/signpost/signpost/wire/ServiceReply -/
def k4 : Class := { plain "com/example/signpost/signpost/wire/ServiceReply" (some 2) with
  accessFlags := 49
  interfaces := #[3]
  cf := some (fileOf pool4 14 #[] #[{ accessFlags := 9, nameIndex := 168, descriptorIndex := 169, attributes := #[] }] 49 2 #[153] #[{ accessFlags := 18, nameIndex := 17, descriptorIndex := 18, attributes := #[] }, { accessFlags := 18, nameIndex := 21, descriptorIndex := 22, attributes := #[] }, { accessFlags := 18, nameIndex := 25, descriptorIndex := 18, attributes := #[] }, { accessFlags := 18, nameIndex := 28, descriptorIndex := 29, attributes := #[] }, { accessFlags := 18, nameIndex := 32, descriptorIndex := 33, attributes := #[] }, { accessFlags := 26, nameIndex := 157, descriptorIndex := 18, attributes := #[] }])
  fields := #[{ name := "xid", type := .int, accessFlags := 18, slot := 0, constantValue := 0 }, { name := "language", type := (.object "java/lang/String"), accessFlags := 18, slot := 1, constantValue := 0 }, { name := "errorCode", type := .int, accessFlags := 18, slot := 2, constantValue := 0 }, { name := "entries", type := (.object "java/util/List"), accessFlags := 18, slot := 3, constantValue := 0 }, { name := "overflow", type := .boolean, accessFlags := 18, slot := 4, constantValue := 0 }, { name := "MAX_COUNT", type := .int, accessFlags := 26, slot := 0, constantValue := 0 }]
  methods := #[k4m0]
  instanceTypes := #[.int, (.object "java/lang/String"), .int, (.object "java/util/List"), .boolean]
  staticTypes := #[.int]
  resolved := Array.replicate 203 none
  statics := none }

def pool5 : Array CpInfo := pool [(1, u "java/lang/Cloneable"), (0, .class_ 1), (0, u "java/lang/Object"), (0, .class_ 3)] 3

/-- java/lang/Cloneable -/
def k5 : Class := { plain "java/lang/Cloneable" (some 0) with
  accessFlags := 1537
  interfaces := #[]
  cf := some (fileOf pool5 2 #[] #[] 1537 4 #[] #[])
  fields := #[]
  methods := #[]
  instanceTypes := #[]
  staticTypes := #[]
  resolved := Array.replicate 8 none
  statics := none }

def pool6 : Array CpInfo := pool [(1, u "java/io/Serializable"), (0, .class_ 1), (0, u "java/lang/Object"), (0, .class_ 3)] 3

/-- java/io/Serializable -/
def k6 : Class := { plain "java/io/Serializable" (some 0) with
  accessFlags := 1537
  interfaces := #[]
  cf := some (fileOf pool6 2 #[] #[] 1537 4 #[] #[])
  fields := #[]
  methods := #[]
  instanceTypes := #[]
  staticTypes := #[]
  resolved := Array.replicate 8 none
  statics := none }

/-- the primitive byte -/
def k7 : Class := { plain "byte" none with kind := .primitive 'B', accessFlags := 0x411 }
/-- [B -/
def k8 : Class := { plain "[B" (some 0) with kind := .array 7 .byte, interfaces := #[5, 6], accessFlags := 1041 }

/-- the primitive int -/
def k9 : Class := { plain "int" none with kind := .primitive 'I', accessFlags := 0x411 }
/-- [I -/
def k10 : Class := { plain "[I" (some 0) with kind := .array 9 .int, interfaces := #[5, 6], accessFlags := 1041 }

def heap : Heap := #[]
def classes : Array Class := #[k0, k1, k2, k3, k4, k5, k6, k7, k8, k9, k10]
def interned : List (Array UInt16 × Addr) := []
def slotsUsed : Nat := 0
def theMethod : MethodId := ⟨1, 1⟩
def args0 : Array Value := #[.int 5, .long 7, .int 9, .int 1, .int 2, .int 3]
def aboutOver (below : List Frame) : State where
  vm := { classes := classes, interned := interned.toArray }
  heap := heap
  slotsUsed := slotsUsed
  threads := #[{ frames := .invoking theMethod args0 :: below }]
def below0 : List Frame := [.native { method := ⟨0, 0⟩, args := #[] }]
def about1 : State := aboutOver below0
def p0 : Program := .bare "" "" ""
def e0 : Env := launch0.env 0 0 0
theorem w_frames : about1.frames = Frame.invoking theMethod args0 :: below0 := rfl
set_option maxRecDepth 65536 in
theorem w_args : argsFit about1.vm theMethod args0 = true := by decide +kernel
set_option maxRecDepth 65536 in
theorem w_heap : heapFits about1 = true := by decide +kernel
set_option maxRecDepth 65536 in
theorem w_runnable : about1.curStatus? = some .runnable := by decide +kernel
set_option maxRecDepth 65536 in
theorem w_alone : about1.alone = true := by decide +kernel
set_option maxRecDepth 65536 in
theorem w_named : about1.methodNamed? x = some theMethod := by decide +kernel
set_option maxRecDepth 65536 in
theorem w_hears : about1.hears theMethod below0 = true := by decide +kernel
set_option maxRecDepth 65536 in
theorem w_ripe : about1.ripe theMethod args0 below0 = true := by decide +kernel
theorem w_running : about1.status = .running := rfl
set_option maxRecDepth 65536 in
theorem w_room : about1.hasRoom e0.platform room_1 = true :=
  launch0.hasRoom_least _ room_1 (by decide +kernel) (by decide +kernel) (by decide +kernel) (by decide +kernel) (by decide +kernel) (by decide +kernel)
theorem allAtoms_all (ts : List Jvm.Cond) (a : Array Jvm.Value) (st : Jvm.State) : (allAtoms ts).before a st = ts.all (fun c => c.before a st) := by
  induction ts with
  | nil => rfl
  | cons c t ih =>
    show (Jvm.Cond.and c (allAtoms t)).before a st = _
    rw [Jvm.Cond.before_and, ih, List.all_cons]
def words1 : List Jvm.Cond := Jvm.Cond.code x code maxLocals ret :: tables_1
/-- a 'code' word, met by the world's own term for the bytes: nothing is compared byte by byte -/
theorem code_word {y : MethodName} {bytes : ByteArray} {mx : Nat} {rt : Option FieldType} {a : Array Value} {s : State} {m : MethodId} {meth : Method} {c : Code} (h1 : s.methodNamed? y = some m) (h2 : s.vm.method? m = some meth) (h3 : meth.code = some c) (h4 : c.code = bytes)
    (h5 : (c.maxLocals == mx && c.exceptionTable.isEmpty && decide (c.maxStack ≤ mostOperands) && decide (meth.sig.returnType = rt) && !meth.locks && decide (parseMethodDescriptor y.desc = some meth.sig)) = true) : (Jvm.Cond.code y bytes mx rt).before a s = true := by
  simp only [Bool.and_eq_true, beq_iff_eq, Bool.not_eq_true', decide_eq_true_eq] at h5
  obtain ⟨⟨⟨⟨⟨g1, g2⟩, g3⟩, g4⟩, g5⟩, g6⟩ := h5
  simp [Cond.before, Cond.holds, Cond.value, h1, h2, h3, h4, g1, g2, g3, g4, g5, g6]
def isCode : Jvm.Cond → Bool
  | .code _ _ _ _ => true
  | _ => false
theorem all_split {L : List Jvm.Cond} {P : Jvm.Cond → Bool} (h1 : L.all (fun c => isCode c || P c) = true) (h2 : ∀ c ∈ L.filter isCode, P c = true) : L.all P = true := by
  refine List.all_eq_true.mpr fun c hc => ?_
  have h := List.all_eq_true.mp h1 c hc
  rcases Bool.eq_false_or_eq_true (isCode c) with hi | hi
  · exact h2 c (List.mem_filter.mpr ⟨hc, hi⟩)
  · simpa [hi] using h
set_option maxRecDepth 65536 in
theorem w_c0 : (Jvm.Cond.code x code maxLocals ret).before args0 about1 = true := code_word (m := ⟨1, 1⟩) (meth := k1m1) (c := k1c1) (by decide +kernel) rfl rfl rfl (by decide +kernel)
set_option maxRecDepth 65536 in
theorem w_c1 : (Jvm.Cond.code ({ cls := "com/example/signpost/signpost/wire/ServiceReply", name := "overfills", desc := "(IJI)Z" } : Jvm.MethodName) prog_81_method_4_code (4 : Nat) (Option.some Jvm.ClassFile.FieldType.boolean)).before args0 about1 = true := code_word (m := ⟨4, 0⟩) (meth := k4m0) (c := k4c0) (by decide +kernel) rfl rfl rfl (by decide +kernel)
def codes1 : List Jvm.Cond := [Jvm.Cond.code x code maxLocals ret, Jvm.Cond.code ({ cls := "com/example/signpost/signpost/wire/ServiceReply", name := "overfills", desc := "(IJI)Z" } : Jvm.MethodName) prog_81_method_4_code (4 : Nat) (Option.some Jvm.ClassFile.FieldType.boolean)]
set_option maxRecDepth 65536 in
theorem codes_eq : words1.filter isCode = codes1 := rfl
theorem w_codes : ∀ c ∈ words1.filter isCode, c.before args0 about1 = true := by
  rw [codes_eq]
  intro c hc
  simp only [codes1, List.mem_cons, List.not_mem_nil, or_false] at hc
  rcases hc with rfl | rfl
  · exact w_c0
  · exact w_c1
set_option maxRecDepth 65536 in
theorem w_t1 : words1.all (fun c => isCode c || c.before args0 about1) = true := by decide +kernel
theorem w_tables : (allAtoms (Jvm.Cond.code x code maxLocals ret :: tables_1)).before args0 about1 = true := by
  rw [allAtoms_all]
  show words1.all (fun c => c.before args0 about1) = true
  refine all_split ?_ w_codes
  rw [w_t1]
set_option maxRecDepth 65536 in
theorem w_case : (Jvm.Cond.and given_1 narrow_1).before args0 about1 = true := by decide +kernel
theorem w_applies : (headSpec (Jvm.Cond.code x code maxLocals ret :: tables_1) room_1).applies x e0.platform about1 = true :=
  (Spec.applies_iff w_frames).mpr ⟨w_running, w_runnable, w_alone, w_named, w_hears, w_ripe, w_room, w_tables⟩
theorem atStart : AtStart classFile x code maxLocals ret World_1 tables_1 room_1 Calls_1 rest_1 Pre_1 launch0 p0 e0 about1 theMethod args0 below0 :=
  ⟨lists_1, trivial, launch0.admits_env _ _ _, launch0.least_env, fairChoices_fair.cas, fairChoices_fair.clock, w_frames, w_args, w_heap, w_applies, trivial, trivial, w_case⟩
end start1
theorem witness_1 : WitnessClaimed_1 := ⟨start1.p0, start1.e0, start1.about1, start1.theMethod, start1.args0, start1.below0, start1.atStart⟩
end Jvm.Pilot.@@N@@
