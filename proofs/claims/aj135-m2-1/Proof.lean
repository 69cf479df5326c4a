import JvmDerived
import JvmDerived.Pilot.@@N@@Statement
import JvmDerived.Pilot.@@N@@Code
set_option linter.unusedVariables false
set_option linter.unusedSimpArgs false
@@BLOCK:NumsL.lean.txt@@
namespace Jvm.RoadKit
open Sem ClassFile Op Lib Jvm.Stand Jvm.Free Jvm.LawKit
section New
variable {p : Program} {l : Launch} {e : Env} {R : Room} {s : State} {m : MethodId} {args : Array Value} {below : List Frame} {meth : Method} {c : Code} {T : State} {locs : List Loc} {cells slots : Nat}
theorem retI (X : Stand p l e R s m args below meth c T locs cells slots) (hx : p.tables.exec = Jvm.exec) {pc : Nat} {Ls : Array Slot} {z : Int32} {rest : List Value} (hret : meth.sig.returnType = some .int) (hd : decode c.code pc = .ok (.ireturn, 1)) {fs : List Frame}
    (hl : ∀ (f : JFrame) (acts : List Action), f.method = m → f.locked = none → f.entered = [] → (doReturn e (T.setTop f) acts (some (.int z))).1 = T.setFrames fs) : Steps p.tables e below (T.setTop (mkF m pc Ls (.int z :: rest))) (T.setFrames fs) := by
  have hm' : T.vm.method? m = some meth := X.method'
  have hn : narrow .int (.int z) = .int z := rfl
  show Steps p.tables e below (T.setTop { method := m, pc := pc, locals := Ls, stack := _ :: rest, locked := none }) _
  jvm_step X.here [X.here.top, hx, hd, hm', hret, hn]
  first | (intro acts; rw [hl _ acts rfl rfl rfl]) | rw [hl _ _ rfl rfl rfl]
  exact Steps.refl _
end New
end Jvm.RoadKit
namespace Jvm.Pilot.@@N@@
open Jvm Jvm.ClassFile Sem Op Lib Jvm.Free Jvm.Stand Jvm.LawKit Jvm.RoadKit Bundle Jvm.Pilot.@@N@@.Jvm.D
open Jvm.Free.XT (ushr ushrL cmpL)
/-- from the frame g over the state T the run comes to a return of which Q holds; K cells and N slots are made at the most -/
def Go (p : Program) (e : Env) (below : List Frame) (s : State) (Q : Option Value → Heap → List Loc → Prop) (K N : Nat) (T : State) (g : JFrame) : Prop :=
  ∃ s₂ o, Steps p.tables e below (T.setTop g) s₂ ∧ s₂.status = .running ∧ Ended s₂ below o ∧ ∃ v L, o = .returned v ∧ Q v s₂.heap L ∧ FrameEnd s o s₂ L K N
section Own
variable {p : Program} {l : Launch} {e : Env} {R : Room} {s : State} {m : MethodId} {args : Array Value} {below : List Frame} {meth : Method} {c : Code} {T T' : State} {locs : List Loc} {cells slots K N : Nat} {Q : Option Value → Heap → List Loc → Prop} {g : JFrame}
theorem Go.st (g' : JFrame) (k : ∀ t, Steps p.tables e below (T'.setTop g') t → Steps p.tables e below (T.setTop g) t) (h : Go p e below s Q K N T' g') : Go p e below s Q K N T g := by
  obtain ⟨s₂, o, h1, h2⟩ := h
  exact ⟨s₂, o, k _ h1, h2⟩
theorem Go.of_eq {g' : JFrame} (q : g = g') (h : Go p e below s Q K N T g') : Go p e below s Q K N T g := q ▸ h
theorem Go.retZ (X : Stand p l e R s m args below meth c T locs cells slots) (hx : p.tables.exec = Jvm.exec) (hlk : meth.locks = false) {pc : Nat} {Ls : Array Slot} {z : Int32} {rest : List Value} {t : FieldType} (ht : t = .boolean ∨ t = .byte ∨ t = .char ∨ t = .short) (hret : meth.sig.returnType = some t) (hd : decode c.code pc = .ok (.ireturn, 1))
    (hq : Q (some (.int (nar t z))) T.heap locs) (hk : cells ≤ K) (hn : slots ≤ N) : Go p e below s Q K N T (mkF m pc Ls (.int z :: rest)) := by
  obtain ⟨fs, hr, hrun, hended, hW, hsame⟩ := X.leave (v := some (.int (nar t z))) (fun h => by rw [hret] at h; cases h) hlk
  exact ⟨_, _, retN X hx hret ht hd hr, hrun, hended, _, _, rfl, hq, ⟨_, rfl⟩, hW, hsame.mono hk hn⟩
theorem Go.retI (X : Stand p l e R s m args below meth c T locs cells slots) (hx : p.tables.exec = Jvm.exec) (hlk : meth.locks = false) {pc : Nat} {Ls : Array Slot} {z : Int32} {rest : List Value} (hret : meth.sig.returnType = some .int) (hd : decode c.code pc = .ok (.ireturn, 1))
    (hq : Q (some (.int z)) T.heap locs) (hk : cells ≤ K) (hn : slots ≤ N) : Go p e below s Q K N T (mkF m pc Ls (.int z :: rest)) := by
  obtain ⟨fs, hr, hrun, hended, hW, hsame⟩ := X.leave (v := some (.int z)) (fun h => by rw [hret] at h; cases h) hlk
  exact ⟨_, _, RoadKit.retI X hx hret hd hr, hrun, hended, _, _, rfl, hq, ⟨_, rfl⟩, hW, hsame.mono hk hn⟩
theorem Go.retJ (X : Stand p l e R s m args below meth c T locs cells slots) (hx : p.tables.exec = Jvm.exec) (hlk : meth.locks = false) {pc : Nat} {Ls : Array Slot} {z : Int64} (hret : meth.sig.returnType = some .long) (hd : decode c.code pc = .ok (.lreturn, 1))
    (hq : Q (some (.long z)) T.heap locs) (hk : cells ≤ K) (hn : slots ≤ N) : Go p e below s Q K N T (mkF m pc Ls [.long z]) := by
  obtain ⟨fs, hr, hrun, hended, hW, hsame⟩ := X.leave (v := some (.long z)) (fun h => by rw [hret] at h; cases h) hlk
  exact ⟨_, _, X.lreturnOut hx hret hd hr, hrun, hended, _, _, rfl, hq, ⟨_, rfl⟩, hW, hsame.mono hk hn⟩
theorem Go.retV (X : Stand p l e R s m args below meth c T locs cells slots) (hx : p.tables.exec = Jvm.exec) (hlk : meth.locks = false) {pc : Nat} {Ls : Array Slot} (hret : meth.sig.returnType = none) (hd : decode c.code pc = .ok (.return_, 1))
    (hq : Q none T.heap locs) (hk : cells ≤ K) (hn : slots ≤ N) : Go p e below s Q K N T (mkF m pc Ls []) := by
  obtain ⟨fs, hr, hrun, hended, hW, hsame⟩ := X.leave (v := none) (fun _ => rfl) hlk
  exact ⟨_, _, X.returnOut hx hret hd hr, hrun, hended, _, _, rfl, hq, ⟨_, rfl⟩, hW, hsame.mono hk hn⟩
end Own
theorem own_c1 {x y : Int64} (h : y < x) : cmpL x y = 1 := by unfold cmpL; rw [if_pos h]
theorem own_c0 {x y : Int64} (h : x = y) : cmpL x y = 0 := by unfold cmpL; rw [if_neg (by subst h; exact Int64.lt_irrefl), if_pos h]
theorem own_cm {x y : Int64} (h : x < y) : cmpL x y = -1 := by unfold cmpL; rw [if_neg (Int64.lt_asymm h), if_neg (Int64.ne_of_lt h)]
theorem own_tri (x y : Int64) : x < y ∨ x = y ∨ y < x := by
  rcases Int.lt_trichotomy x.toInt y.toInt with h | h | h
  · exact Or.inl (Int64.lt_iff_toInt_lt.mpr h)
  · exact Or.inr (Or.inl (Int64.toInt_inj.mp h))
  · exact Or.inr (Or.inr (Int64.lt_iff_toInt_lt.mpr h))
theorem own_llT {x y : Int64} (h : x < y) : ifCond.holds .lt (cmpL x y) = true ∧ ifCond.holds .ge (cmpL x y) = false := by rw [own_cm h]; decide
theorem own_llF {x y : Int64} (h : ¬ x < y) : ifCond.holds .lt (cmpL x y) = false ∧ ifCond.holds .ge (cmpL x y) = true := by
  rcases own_tri x y with q | q | q
  · exact absurd q h
  · rw [own_c0 q]; decide
  · rw [own_c1 q]; decide
theorem own_lgT {x y : Int64} (h : y < x) : ifCond.holds .gt (cmpL x y) = true ∧ ifCond.holds .le (cmpL x y) = false := by rw [own_c1 h]; decide
theorem own_lgF {x y : Int64} (h : ¬ y < x) : ifCond.holds .gt (cmpL x y) = false ∧ ifCond.holds .le (cmpL x y) = true := by
  rcases own_tri x y with q | q | q
  · rw [own_cm q]; decide
  · rw [own_c0 q]; decide
  · exact absurd q h
theorem own_leT {x y : Int64} (h : x = y) : ifCond.holds .eq (cmpL x y) = true ∧ ifCond.holds .ne (cmpL x y) = false := by rw [own_c0 h]; decide
theorem own_leF {x y : Int64} (h : ¬ x = y) : ifCond.holds .eq (cmpL x y) = false ∧ ifCond.holds .ne (cmpL x y) = true := by
  rcases own_tri x y with q | q | q
  · rw [own_cm q]; decide
  · exact absurd q h
  · rw [own_c1 q]; decide
theorem own_chr (x : Int32) : 0 ≤ (x.toUInt32.toUInt16.toUInt32.toInt32).toInt ∧ (x.toUInt32.toUInt16.toUInt32.toInt32).toInt < 65536 := by
  have h : ∀ u : UInt16, (u.toUInt32.toInt32).toInt = u.toNat := fun u => by
    have hu := u.toNat_lt
    show ((u.toUInt32).toBitVec).toInt = _
    have hm : (u.toUInt32).toBitVec.toNat = u.toNat := by
      show (u.toUInt32).toNat = _
      simp
    rw [BitVec.toInt_eq_toNat_cond, hm, if_pos (by omega)]
  have h2 := (x.toUInt32.toUInt16).toNat_lt
  rw [h]; omega
theorem own_small (n : Nat) (c : Int32) (h0 : 0 ≤ c.toInt) (h1 : c.toInt < n) (hn : n ≤ 2147483647) : ∃ k : Fin n, c = Int32.ofNat k.val := by
  refine ⟨⟨c.toInt.toNat, by omega⟩, Int32.toInt_inj.mp ?_⟩
  rw [Int32.toInt_ofNat_of_lt (by show c.toInt.toNat < _; omega)]
  show _ = ((c.toInt.toNat : Nat) : Int)
  omega
theorem own_i2l_ne {x : Int32} (h : ¬ x = (0 : Int32)) : x.toInt64 ≠ 0 := fun q => h (Int32.toInt_inj.mp (by
  have := congrArg Int64.toInt q
  rw [Int32.toInt_toInt64] at this
  rw [this]; decide))
theorem pn_0 : plainName "com/example/nearpath/nearpath/query/Costs" = true := by first | (simp [plainName, overriddenIn]; done) | decide +kernel
theorem d1_0 : decode prog_43_method_3_code 0 = .ok (.iload_n 2, 1) := by decide +kernel
theorem d1_1 : decode prog_43_method_3_code 1 = .ok (.ifCond .ne 7, 3) := by decide +kernel
theorem d1_4 : decode prog_43_method_3_code 4 = .ok (.lconst 0, 1) := by decide +kernel
theorem d1_5 : decode prog_43_method_3_code 5 = .ok (.goto 24, 3) := by decide +kernel
theorem d1_8 : decode prog_43_method_3_code 8 = .ok (.lload_n 0, 1) := by decide +kernel
theorem d1_9 : decode prog_43_method_3_code 9 = .ok (.ldc2_w 9, 3) := by decide +kernel
theorem d1_12 : decode prog_43_method_3_code 12 = .ok (.iload_n 2, 1) := by decide +kernel
theorem d1_13 : decode prog_43_method_3_code 13 = .ok (.i2l, 1) := by decide +kernel
theorem d1_14 : decode prog_43_method_3_code 14 = .ok (.ldiv, 1) := by decide +kernel
theorem d1_15 : decode prog_43_method_3_code 15 = .ok (.lcmp, 1) := by decide +kernel
theorem d1_16 : decode prog_43_method_3_code 16 = .ok (.ifCond .le 9, 3) := by decide +kernel
theorem d1_19 : decode prog_43_method_3_code 19 = .ok (.ldc2_w 11, 3) := by decide +kernel
theorem d1_22 : decode prog_43_method_3_code 22 = .ok (.goto 7, 3) := by decide +kernel
theorem d1_25 : decode prog_43_method_3_code 25 = .ok (.lload_n 0, 1) := by decide +kernel
theorem d1_26 : decode prog_43_method_3_code 26 = .ok (.iload_n 2, 1) := by decide +kernel
theorem d1_27 : decode prog_43_method_3_code 27 = .ok (.i2l, 1) := by decide +kernel
theorem d1_28 : decode prog_43_method_3_code 28 = .ok (.lmul, 1) := by decide +kernel
theorem d1_29 : decode prog_43_method_3_code 29 = .ok (.lreturn, 1) := by decide +kernel
theorem ef_1 (m : MethodId) (p0 : Int64) (p1 : Int32) : entryFrame m #[(.long p0), (.int p1)] 3 = (mkF m 0 #[.val (.long p0), .second, .val (.int p1)] []) := by first | (simp [entryFrame, mkF, argsToLocals, Value.category]; done) | rfl
def f_1 (p0 : Int64) (p1 : Int32) : Int64 := (if p1 = (0 : Int32) then (0 : Int64) else (if ((4611686018427387904 : Int64) / (p1.toInt64)) < p0 then (4611686018427387905 : Int64) else (p0 * (p1.toInt64))))
def Q_1 (p0 : Int64) (p1 : Int32) (h0 : Heap) (n0 : Nat) (v : Option Value) (h : Heap) (L : List Loc) : Prop := v = some (.long (f_1 p0 p1)) ∧ Fr n0 L ∧ h = h0
set_option maxRecDepth 65536 in
set_option maxHeartbeats 40000000 in
theorem rm_1 (l : Launch) (Z : State) (a0 : Array Value) (hw : ∀ d ∈ tables_1, d.before a0 Z = true) (ws : List Jvm.Cond) (p0 : Int64) (p1 : Int32) (h0 : Heap) (n0 : Nat) (Z0 : n0 ≤ h0.size) :
    MetFree l (⟨"com/example/nearpath/nearpath/query/Costs", "times", "(JI)J"⟩ : MethodName) (head1 (Jvm.Cond.code (⟨"com/example/nearpath/nearpath/query/Costs", "times", "(JI)J"⟩ : MethodName) prog_43_method_3_code 3 (some .long) :: ws) ({ frames := 0, cells := 0, slots := 0, locals := 0 } : Room)) (fun a U => a = #[(.long p0), (.int p1)] ∧ Z.Warmed39 U.vm ∧ U.heap = h0) (fun _ _ _ _ _ => True) (fun _ U o U' => ∃ v L, o = .returned v ∧ Q_1 p0 p1 h0 n0 v U'.heap L ∧ FrameEnd U o U' L ({ frames := 0, cells := 0, slots := 0, locals := 0 } : Room).cells ({ frames := 0, cells := 0, slots := 0, locals := 0 } : Room).slots) := by
  refine MetFree.of_bodySF (plainFor_of_name pn_0) hisR ?_
  intro p e s m args below meth c s₁ Bd hml0 hP hK
  obtain ⟨rfl, hZ, hh⟩ := hP
  have hx := Bd.exec
  have hby := Bd.bytes
  have hml : c.maxLocals = 3 := hml0
  have hown : s.vm.findClass "com/example/nearpath/nearpath/query/Costs" = some m.cls := findClass_of_methodNamed Bd.named
  have X0 : Stand p l e ({ frames := 0, cells := 0, slots := 0, locals := 0 } : Room) s m #[(.long p0), (.int p1)] below meth c s₁ [] 0 0 := Stand.of_body Bd
  have e0 : s₁.heap = h0 := by rw [← hh, Bd.state]; rfl
  have N0 := Fr.nil n0
  show Go p e below s (Q_1 p0 p1 h0 n0) 0 0 s₁ (entryFrame m #[(.long p0), (.int p1)] 3)
  refine Go.of_eq (ef_1 m p0 p1) ?_
  refine Go.st (mkF m 1 #[.val (.long p0), .second, .val (.int p1)] [(.int p1)]) (fun _ k => XS.iloadN X0.here hx rfl (hb hby d1_0) rfl k) ?_
  by_cases hc1_1 : p1 = (0 : Int32)
  ·
    refine Go.st (mkF m 4 #[.val (.long p0), .second, .val (.int p1)] []) (fun _ k => XS.ifNo X0.here hx rfl (hb hby d1_1) rfl ((if0 _ _).trans (teq hc1_1).2) k) ?_
    refine Go.st (mkF m 5 #[.val (.long p0), .second, .val (.int p1)] [(.long (0 : Int64))]) (fun _ k => XT.lconst X0.here hx rfl (hb hby d1_4) k) ?_
    refine Go.st (mkF m 29 #[.val (.long p0), .second, .val (.int p1)] [(.long (0 : Int64))]) (fun _ k => XS.goto X0.here hx rfl (pc0 := 5) (pc' := 29) rfl (hb hby d1_5) (by decide) (by decide) k) ?_
    exact Go.retJ X0 hx Bd.notSynchronized Bd.returns (hb hby d1_29) ⟨congrArg (fun z => some (Value.long z)) (show (0 : Int64) = f_1 p0 p1 from by unfold f_1; rw [if_pos hc1_1]; first | done | rfl), N0, e0⟩ (by decide) (by decide)
  ·
    refine Go.st (mkF m 8 #[.val (.long p0), .second, .val (.int p1)] []) (fun _ k => XS.ifYes X0.here hx rfl (pc0 := 1) (pc' := 8) rfl (hb hby d1_1) rfl ((if0 _ _).trans (feq hc1_1).2) (by decide) (by decide) k) ?_
    refine Go.st (mkF m 9 #[.val (.long p0), .second, .val (.int p1)] [(.long p0)]) (fun _ k => XT.lloadN X0.here hx rfl (hb hby d1_8) rfl k) ?_
    refine Go.st (mkF m 12 #[.val (.long p0), .second, .val (.int p1)] [(.long (4611686018427387904 : Int64)), (.long p0)]) (fun _ k => X0.ldc2Long hx hown (mvT hZ (hw _ (List.mem_of_getElem? (i := 9) rfl))) (g := (mkF m 9 #[.val (.long p0), .second, .val (.int p1)] [(.long p0)])) rfl (hb hby d1_9) _ k) ?_
    refine Go.st (mkF m 13 #[.val (.long p0), .second, .val (.int p1)] [(.int p1), (.long (4611686018427387904 : Int64)), (.long p0)]) (fun _ k => XS.iloadN X0.here hx rfl (hb hby d1_12) rfl k) ?_
    refine Go.st (mkF m 14 #[.val (.long p0), .second, .val (.int p1)] [(.long (p1.toInt64)), (.long (4611686018427387904 : Int64)), (.long p0)]) (fun _ k => XT.i2l X0.here hx rfl (hb hby d1_13) rfl k) ?_
    refine Go.st (mkF m 15 #[.val (.long p0), .second, .val (.int p1)] [(.long ((4611686018427387904 : Int64) / (p1.toInt64))), (.long p0)]) (fun _ k => XT.ldiv X0.here hx rfl (hb hby d1_14) rfl (own_i2l_ne hc1_1) k) ?_
    refine Go.st (mkF m 16 #[.val (.long p0), .second, .val (.int p1)] [(.int (cmpL p0 ((4611686018427387904 : Int64) / (p1.toInt64))))]) (fun _ k => XT.lcmp X0.here hx rfl (hb hby d1_15) rfl k) ?_
    by_cases hc16_2 : ((4611686018427387904 : Int64) / (p1.toInt64)) < p0
    ·
      refine Go.st (mkF m 19 #[.val (.long p0), .second, .val (.int p1)] []) (fun _ k => XS.ifNo X0.here hx rfl (hb hby d1_16) rfl (own_lgT hc16_2).2 k) ?_
      refine Go.st (mkF m 22 #[.val (.long p0), .second, .val (.int p1)] [(.long (4611686018427387905 : Int64))]) (fun _ k => X0.ldc2Long hx hown (mvT hZ (hw _ (List.mem_of_getElem? (i := 11) rfl))) (g := (mkF m 19 #[.val (.long p0), .second, .val (.int p1)] [])) rfl (hb hby d1_19) _ k) ?_
      refine Go.st (mkF m 29 #[.val (.long p0), .second, .val (.int p1)] [(.long (4611686018427387905 : Int64))]) (fun _ k => XS.goto X0.here hx rfl (pc0 := 22) (pc' := 29) rfl (hb hby d1_22) (by decide) (by decide) k) ?_
      exact Go.retJ X0 hx Bd.notSynchronized Bd.returns (hb hby d1_29) ⟨congrArg (fun z => some (Value.long z)) (show (4611686018427387905 : Int64) = f_1 p0 p1 from by unfold f_1; rw [if_neg hc1_1, if_pos hc16_2]; first | done | rfl), N0, e0⟩ (by decide) (by decide)
    ·
      refine Go.st (mkF m 25 #[.val (.long p0), .second, .val (.int p1)] []) (fun _ k => XS.ifYes X0.here hx rfl (pc0 := 16) (pc' := 25) rfl (hb hby d1_16) rfl (own_lgF hc16_2).2 (by decide) (by decide) k) ?_
      refine Go.st (mkF m 26 #[.val (.long p0), .second, .val (.int p1)] [(.long p0)]) (fun _ k => XT.lloadN X0.here hx rfl (hb hby d1_25) rfl k) ?_
      refine Go.st (mkF m 27 #[.val (.long p0), .second, .val (.int p1)] [(.int p1), (.long p0)]) (fun _ k => XS.iloadN X0.here hx rfl (hb hby d1_26) rfl k) ?_
      refine Go.st (mkF m 28 #[.val (.long p0), .second, .val (.int p1)] [(.long (p1.toInt64)), (.long p0)]) (fun _ k => XT.i2l X0.here hx rfl (hb hby d1_27) rfl k) ?_
      refine Go.st (mkF m 29 #[.val (.long p0), .second, .val (.int p1)] [(.long (p0 * (p1.toInt64)))]) (fun _ k => XT.lmul X0.here hx rfl (hb hby d1_28) rfl k) ?_
      exact Go.retJ X0 hx Bd.notSynchronized Bd.returns (hb hby d1_29) ⟨congrArg (fun z => some (Value.long z)) (show (p0 * (p1.toInt64)) = f_1 p0 p1 from by unfold f_1; rw [if_neg hc1_1, if_neg hc16_2]; first | done | rfl), N0, e0⟩ (by decide) (by decide)
theorem pd_0 : parseMethodDescriptor "(JI)J" = some ⟨[.long, .int], some .long⟩ := by decide +kernel
theorem pn_1 : plainName "com/example/nearpath/nearpath/query/CostsTimesPinLaw" = true := by first | (simp [plainName, overriddenIn]; done) | decide +kernel
theorem ef_0 (m : MethodId) (p0 : Int64) (p1 : Int32) (p2 : Int32) : entryFrame m #[(.long p0), (.int p1), (.int p2)] maxLocals = (mkF m 0 #[.val (.long p0), .second, .val (.int p1), .val (.int p2), .unset, .unset, .unset, .unset, .unset, .unset, .unset, .unset, .unset, .unset, .unset, .unset, .unset, .unset, .unset, .unset, .unset, .unset, .unset, .unset] []) := by first | (simp [entryFrame, mkF, argsToLocals, Value.category, maxLocals]; done) | rfl
def v_cost (p0 : Int64) (p2 : Int32) : Int64 := (ushrL ((p0 &&& (9223372036854775807 : Int64)) - ((p0 &&& (9223372036854775807 : Int64)) / (4611686018427387906 : Int64)) * (4611686018427387906 : Int64)) (p2 &&& (63 : Int32)))
def v_count (p1 : Int32) (p2 : Int32) : Int32 := (ushr (p1 &&& (2147483647 : Int32)) ((ushr p2 (6 : Int32)) &&& (31 : Int32)))
def v_hi (p0 : Int64) (p2 : Int32) : Int64 := (ushrL (v_cost p0 p2) (31 : Int32))
def v_lo (p0 : Int64) (p2 : Int32) : Int64 := ((v_cost p0 p2) &&& (2147483647 : Int64))
def v_h (p0 : Int64) (p1 : Int32) (p2 : Int32) : Int64 := (((v_count p1 p2).toInt64) * (v_hi p0 p2))
def v_l (p0 : Int64) (p1 : Int32) (p2 : Int32) : Int64 := (((v_count p1 p2).toInt64) * (v_lo p0 p2))
def v_top (p0 : Int64) (p1 : Int32) (p2 : Int32) : Int64 := ((v_h p0 p1 p2) + (ushrL (v_l p0 p1 p2) (31 : Int32)))
def v_bottom (p0 : Int64) (p1 : Int32) (p2 : Int32) : Int64 := ((v_l p0 p1 p2) &&& (2147483647 : Int64))
def v_within (p0 : Int64) (p1 : Int32) (p2 : Int32) : Int32 := (if (v_top p0 p1 p2) < (2147483648 : Int64) then (1 : Int32) else (if (v_top p0 p1 p2) = (2147483648 : Int64) then (if (v_bottom p0 p1 p2) = (0 : Int64) then (1 : Int32) else (0 : Int32)) else (0 : Int32)))
def v_expected (p0 : Int64) (p1 : Int32) (p2 : Int32) : Int64 := (if (v_within p0 p1 p2) = (0 : Int32) then (4611686018427387905 : Int64) else (((v_top p0 p1 p2) <<< (((31 : Int32)).toInt64 &&& 63)) + (v_bottom p0 p1 p2)))
def f_0 (p0 : Int64) (p1 : Int32) (p2 : Int32) : Int32 := (if (f_1 (v_cost p0 p2) (v_count p1 p2)) = (v_expected p0 p1 p2) then (1 : Int32) else (0 : Int32))
def Q_0 (p0 : Int64) (p1 : Int32) (p2 : Int32) (h0 : Heap) (n0 : Nat) (v : Option Value) (h : Heap) (L : List Loc) : Prop := v = some (.int (f_0 p0 p1 p2)) ∧ Fr n0 L ∧ h = h0
set_option maxRecDepth 65536 in
set_option maxHeartbeats 40000000 in
theorem rm_0 (l : Launch) (Z : State) (a0 : Array Value) (hw : ∀ d ∈ tables_1, d.before a0 Z = true) (ws : List Jvm.Cond) (p0 : Int64) (p1 : Int32) (p2 : Int32) (h0 : Heap) (n0 : Nat) (Z0 : n0 ≤ h0.size) :
    MetFree l x (head1 (Jvm.Cond.code x code maxLocals ret :: ws) room_1) (fun a U => a = #[(.long p0), (.int p1), (.int p2)] ∧ Z.Warmed39 U.vm ∧ U.heap = h0) (fun _ _ _ _ _ => True) (fun _ U o U' => ∃ v L, o = .returned v ∧ Q_0 p0 p1 p2 h0 n0 v U'.heap L ∧ FrameEnd U o U' L 0 0) := by
  refine MetFree.of_bodySF (plainFor_of_name pn_1) hisR ?_
  intro p e s m args below meth c s₁ Bd hml0 hP hK
  obtain ⟨rfl, hZ, hh⟩ := hP
  have hx := Bd.exec
  have hby := Bd.bytes
  have hml : c.maxLocals = 24 := hml0
  have hown : s.vm.findClass "com/example/nearpath/nearpath/query/CostsTimesPinLaw" = some m.cls := findClass_of_methodNamed Bd.named
  have X0 : Stand p l e room_1 s m #[(.long p0), (.int p1), (.int p2)] below meth c s₁ [] 0 0 := Stand.of_body Bd
  have e0 : s₁.heap = h0 := by rw [← hh, Bd.state]; rfl
  have N0 := Fr.nil n0
  show Go p e below s (Q_0 p0 p1 p2 h0 n0) 0 0 s₁ (entryFrame m #[(.long p0), (.int p1), (.int p2)] maxLocals)
  refine Go.of_eq (ef_0 m p0 p1 p2) ?_
  refine Go.st (mkF m 1 #[.val (.long p0), .second, .val (.int p1), .val (.int p2), .unset, .unset, .unset, .unset, .unset, .unset, .unset, .unset, .unset, .unset, .unset, .unset, .unset, .unset, .unset, .unset, .unset, .unset, .unset, .unset] [(.long p0)]) (fun _ k => XT.lloadN X0.here hx rfl (hb hby at_0) rfl k) ?_
  refine Go.st (mkF m 4 #[.val (.long p0), .second, .val (.int p1), .val (.int p2), .unset, .unset, .unset, .unset, .unset, .unset, .unset, .unset, .unset, .unset, .unset, .unset, .unset, .unset, .unset, .unset, .unset, .unset, .unset, .unset] [(.long (9223372036854775807 : Int64)), (.long p0)]) (fun _ k => X0.ldc2Long hx hown (mvT hZ (hw _ (List.mem_of_getElem? (i := 0) rfl))) (g := (mkF m 1 #[.val (.long p0), .second, .val (.int p1), .val (.int p2), .unset, .unset, .unset, .unset, .unset, .unset, .unset, .unset, .unset, .unset, .unset, .unset, .unset, .unset, .unset, .unset, .unset, .unset, .unset, .unset] [(.long p0)])) rfl (hb hby at_1) _ k) ?_
  refine Go.st (mkF m 5 #[.val (.long p0), .second, .val (.int p1), .val (.int p2), .unset, .unset, .unset, .unset, .unset, .unset, .unset, .unset, .unset, .unset, .unset, .unset, .unset, .unset, .unset, .unset, .unset, .unset, .unset, .unset] [(.long (p0 &&& (9223372036854775807 : Int64)))]) (fun _ k => XT.land X0.here hx rfl (hb hby at_4) rfl k) ?_
  refine Go.st (mkF m 8 #[.val (.long p0), .second, .val (.int p1), .val (.int p2), .unset, .unset, .unset, .unset, .unset, .unset, .unset, .unset, .unset, .unset, .unset, .unset, .unset, .unset, .unset, .unset, .unset, .unset, .unset, .unset] [(.long (4611686018427387906 : Int64)), (.long (p0 &&& (9223372036854775807 : Int64)))]) (fun _ k => X0.ldc2Long hx hown (mvT hZ (hw _ (List.mem_of_getElem? (i := 1) rfl))) (g := (mkF m 5 #[.val (.long p0), .second, .val (.int p1), .val (.int p2), .unset, .unset, .unset, .unset, .unset, .unset, .unset, .unset, .unset, .unset, .unset, .unset, .unset, .unset, .unset, .unset, .unset, .unset, .unset, .unset] [(.long (p0 &&& (9223372036854775807 : Int64)))])) rfl (hb hby at_5) _ k) ?_
  refine Go.st (mkF m 9 #[.val (.long p0), .second, .val (.int p1), .val (.int p2), .unset, .unset, .unset, .unset, .unset, .unset, .unset, .unset, .unset, .unset, .unset, .unset, .unset, .unset, .unset, .unset, .unset, .unset, .unset, .unset] [(.long ((p0 &&& (9223372036854775807 : Int64)) - ((p0 &&& (9223372036854775807 : Int64)) / (4611686018427387906 : Int64)) * (4611686018427387906 : Int64)))]) (fun _ k => XT.lrem X0.here hx rfl (hb hby at_8) rfl (by decide) k) ?_
  refine Go.st (mkF m 10 #[.val (.long p0), .second, .val (.int p1), .val (.int p2), .unset, .unset, .unset, .unset, .unset, .unset, .unset, .unset, .unset, .unset, .unset, .unset, .unset, .unset, .unset, .unset, .unset, .unset, .unset, .unset] [(.int p2), (.long ((p0 &&& (9223372036854775807 : Int64)) - ((p0 &&& (9223372036854775807 : Int64)) / (4611686018427387906 : Int64)) * (4611686018427387906 : Int64)))]) (fun _ k => XS.iloadN X0.here hx rfl (hb hby at_9) rfl k) ?_
  refine Go.st (mkF m 12 #[.val (.long p0), .second, .val (.int p1), .val (.int p2), .unset, .unset, .unset, .unset, .unset, .unset, .unset, .unset, .unset, .unset, .unset, .unset, .unset, .unset, .unset, .unset, .unset, .unset, .unset, .unset] [(.int (63 : Int32)), (.int p2), (.long ((p0 &&& (9223372036854775807 : Int64)) - ((p0 &&& (9223372036854775807 : Int64)) / (4611686018427387906 : Int64)) * (4611686018427387906 : Int64)))]) (fun _ k => XS.bipush X0.here hx rfl (hb hby at_10) k) ?_
  refine Go.st (mkF m 13 #[.val (.long p0), .second, .val (.int p1), .val (.int p2), .unset, .unset, .unset, .unset, .unset, .unset, .unset, .unset, .unset, .unset, .unset, .unset, .unset, .unset, .unset, .unset, .unset, .unset, .unset, .unset] [(.int (p2 &&& (63 : Int32))), (.long ((p0 &&& (9223372036854775807 : Int64)) - ((p0 &&& (9223372036854775807 : Int64)) / (4611686018427387906 : Int64)) * (4611686018427387906 : Int64)))]) (fun _ k => XS.iand X0.here hx rfl (hb hby at_12) rfl k) ?_
  refine Go.st (mkF m 14 #[.val (.long p0), .second, .val (.int p1), .val (.int p2), .unset, .unset, .unset, .unset, .unset, .unset, .unset, .unset, .unset, .unset, .unset, .unset, .unset, .unset, .unset, .unset, .unset, .unset, .unset, .unset] [(.long (ushrL ((p0 &&& (9223372036854775807 : Int64)) - ((p0 &&& (9223372036854775807 : Int64)) / (4611686018427387906 : Int64)) * (4611686018427387906 : Int64)) (p2 &&& (63 : Int32))))]) (fun _ k => XT.lushr X0.here hx rfl (hb hby at_13) rfl k) ?_
  refine Go.st (mkF m 16 #[.val (.long p0), .second, .val (.int p1), .val (.int p2), .val (.long (v_cost p0 p2)), .second, .unset, .unset, .unset, .unset, .unset, .unset, .unset, .unset, .unset, .unset, .unset, .unset, .unset, .unset, .unset, .unset, .unset, .unset] []) (fun _ k => XT.lstore X0.here hx rfl (hb hby at_14) rfl (l' := #[.val (.long p0), .second, .val (.int p1), .val (.int p2), .val (.long (v_cost p0 p2)), .second, .unset, .unset, .unset, .unset, .unset, .unset, .unset, .unset, .unset, .unset, .unset, .unset, .unset, .unset, .unset, .unset, .unset, .unset]) rfl k) ?_
  refine Go.st (mkF m 17 #[.val (.long p0), .second, .val (.int p1), .val (.int p2), .val (.long (v_cost p0 p2)), .second, .unset, .unset, .unset, .unset, .unset, .unset, .unset, .unset, .unset, .unset, .unset, .unset, .unset, .unset, .unset, .unset, .unset, .unset] [(.int p1)]) (fun _ k => XS.iloadN X0.here hx rfl (hb hby at_16) rfl k) ?_
  refine Go.st (mkF m 19 #[.val (.long p0), .second, .val (.int p1), .val (.int p2), .val (.long (v_cost p0 p2)), .second, .unset, .unset, .unset, .unset, .unset, .unset, .unset, .unset, .unset, .unset, .unset, .unset, .unset, .unset, .unset, .unset, .unset, .unset] [(.int (2147483647 : Int32)), (.int p1)]) (fun _ k => X0.ldcInt hx hown (mvT hZ (hw _ (List.mem_of_getElem? (i := 2) rfl))) (g := (mkF m 17 #[.val (.long p0), .second, .val (.int p1), .val (.int p2), .val (.long (v_cost p0 p2)), .second, .unset, .unset, .unset, .unset, .unset, .unset, .unset, .unset, .unset, .unset, .unset, .unset, .unset, .unset, .unset, .unset, .unset, .unset] [(.int p1)])) rfl (hb hby at_17) _ k) ?_
  refine Go.st (mkF m 20 #[.val (.long p0), .second, .val (.int p1), .val (.int p2), .val (.long (v_cost p0 p2)), .second, .unset, .unset, .unset, .unset, .unset, .unset, .unset, .unset, .unset, .unset, .unset, .unset, .unset, .unset, .unset, .unset, .unset, .unset] [(.int (p1 &&& (2147483647 : Int32)))]) (fun _ k => XS.iand X0.here hx rfl (hb hby at_19) rfl k) ?_
  refine Go.st (mkF m 21 #[.val (.long p0), .second, .val (.int p1), .val (.int p2), .val (.long (v_cost p0 p2)), .second, .unset, .unset, .unset, .unset, .unset, .unset, .unset, .unset, .unset, .unset, .unset, .unset, .unset, .unset, .unset, .unset, .unset, .unset] [(.int p2), (.int (p1 &&& (2147483647 : Int32)))]) (fun _ k => XS.iloadN X0.here hx rfl (hb hby at_20) rfl k) ?_
  refine Go.st (mkF m 23 #[.val (.long p0), .second, .val (.int p1), .val (.int p2), .val (.long (v_cost p0 p2)), .second, .unset, .unset, .unset, .unset, .unset, .unset, .unset, .unset, .unset, .unset, .unset, .unset, .unset, .unset, .unset, .unset, .unset, .unset] [(.int (6 : Int32)), (.int p2), (.int (p1 &&& (2147483647 : Int32)))]) (fun _ k => XS.bipush X0.here hx rfl (hb hby at_21) k) ?_
  refine Go.st (mkF m 24 #[.val (.long p0), .second, .val (.int p1), .val (.int p2), .val (.long (v_cost p0 p2)), .second, .unset, .unset, .unset, .unset, .unset, .unset, .unset, .unset, .unset, .unset, .unset, .unset, .unset, .unset, .unset, .unset, .unset, .unset] [(.int (ushr p2 (6 : Int32))), (.int (p1 &&& (2147483647 : Int32)))]) (fun _ k => XT.iushr X0.here hx rfl (hb hby at_23) rfl k) ?_
  refine Go.st (mkF m 26 #[.val (.long p0), .second, .val (.int p1), .val (.int p2), .val (.long (v_cost p0 p2)), .second, .unset, .unset, .unset, .unset, .unset, .unset, .unset, .unset, .unset, .unset, .unset, .unset, .unset, .unset, .unset, .unset, .unset, .unset] [(.int (31 : Int32)), (.int (ushr p2 (6 : Int32))), (.int (p1 &&& (2147483647 : Int32)))]) (fun _ k => XS.bipush X0.here hx rfl (hb hby at_24) k) ?_
  refine Go.st (mkF m 27 #[.val (.long p0), .second, .val (.int p1), .val (.int p2), .val (.long (v_cost p0 p2)), .second, .unset, .unset, .unset, .unset, .unset, .unset, .unset, .unset, .unset, .unset, .unset, .unset, .unset, .unset, .unset, .unset, .unset, .unset] [(.int ((ushr p2 (6 : Int32)) &&& (31 : Int32))), (.int (p1 &&& (2147483647 : Int32)))]) (fun _ k => XS.iand X0.here hx rfl (hb hby at_26) rfl k) ?_
  refine Go.st (mkF m 28 #[.val (.long p0), .second, .val (.int p1), .val (.int p2), .val (.long (v_cost p0 p2)), .second, .unset, .unset, .unset, .unset, .unset, .unset, .unset, .unset, .unset, .unset, .unset, .unset, .unset, .unset, .unset, .unset, .unset, .unset] [(.int (ushr (p1 &&& (2147483647 : Int32)) ((ushr p2 (6 : Int32)) &&& (31 : Int32))))]) (fun _ k => XT.iushr X0.here hx rfl (hb hby at_27) rfl k) ?_
  refine Go.st (mkF m 30 #[.val (.long p0), .second, .val (.int p1), .val (.int p2), .val (.long (v_cost p0 p2)), .second, .val (.int (v_count p1 p2)), .unset, .unset, .unset, .unset, .unset, .unset, .unset, .unset, .unset, .unset, .unset, .unset, .unset, .unset, .unset, .unset, .unset] []) (fun _ k => XS.istore X0.here hx rfl (hb hby at_28) rfl (l' := #[.val (.long p0), .second, .val (.int p1), .val (.int p2), .val (.long (v_cost p0 p2)), .second, .val (.int (v_count p1 p2)), .unset, .unset, .unset, .unset, .unset, .unset, .unset, .unset, .unset, .unset, .unset, .unset, .unset, .unset, .unset, .unset, .unset]) rfl k) ?_
  refine Go.st (mkF m 32 #[.val (.long p0), .second, .val (.int p1), .val (.int p2), .val (.long (v_cost p0 p2)), .second, .val (.int (v_count p1 p2)), .unset, .unset, .unset, .unset, .unset, .unset, .unset, .unset, .unset, .unset, .unset, .unset, .unset, .unset, .unset, .unset, .unset] [(.long (v_cost p0 p2))]) (fun _ k => XT.lload X0.here hx rfl (hb hby at_30) rfl k) ?_
  refine Go.st (mkF m 34 #[.val (.long p0), .second, .val (.int p1), .val (.int p2), .val (.long (v_cost p0 p2)), .second, .val (.int (v_count p1 p2)), .unset, .unset, .unset, .unset, .unset, .unset, .unset, .unset, .unset, .unset, .unset, .unset, .unset, .unset, .unset, .unset, .unset] [(.int (31 : Int32)), (.long (v_cost p0 p2))]) (fun _ k => XS.bipush X0.here hx rfl (hb hby at_32) k) ?_
  refine Go.st (mkF m 35 #[.val (.long p0), .second, .val (.int p1), .val (.int p2), .val (.long (v_cost p0 p2)), .second, .val (.int (v_count p1 p2)), .unset, .unset, .unset, .unset, .unset, .unset, .unset, .unset, .unset, .unset, .unset, .unset, .unset, .unset, .unset, .unset, .unset] [(.long (ushrL (v_cost p0 p2) (31 : Int32)))]) (fun _ k => XT.lushr X0.here hx rfl (hb hby at_34) rfl k) ?_
  refine Go.st (mkF m 37 #[.val (.long p0), .second, .val (.int p1), .val (.int p2), .val (.long (v_cost p0 p2)), .second, .val (.int (v_count p1 p2)), .val (.long (v_hi p0 p2)), .second, .unset, .unset, .unset, .unset, .unset, .unset, .unset, .unset, .unset, .unset, .unset, .unset, .unset, .unset, .unset] []) (fun _ k => XT.lstore X0.here hx rfl (hb hby at_35) rfl (l' := #[.val (.long p0), .second, .val (.int p1), .val (.int p2), .val (.long (v_cost p0 p2)), .second, .val (.int (v_count p1 p2)), .val (.long (v_hi p0 p2)), .second, .unset, .unset, .unset, .unset, .unset, .unset, .unset, .unset, .unset, .unset, .unset, .unset, .unset, .unset, .unset]) rfl k) ?_
  refine Go.st (mkF m 39 #[.val (.long p0), .second, .val (.int p1), .val (.int p2), .val (.long (v_cost p0 p2)), .second, .val (.int (v_count p1 p2)), .val (.long (v_hi p0 p2)), .second, .unset, .unset, .unset, .unset, .unset, .unset, .unset, .unset, .unset, .unset, .unset, .unset, .unset, .unset, .unset] [(.long (v_cost p0 p2))]) (fun _ k => XT.lload X0.here hx rfl (hb hby at_37) rfl k) ?_
  refine Go.st (mkF m 42 #[.val (.long p0), .second, .val (.int p1), .val (.int p2), .val (.long (v_cost p0 p2)), .second, .val (.int (v_count p1 p2)), .val (.long (v_hi p0 p2)), .second, .unset, .unset, .unset, .unset, .unset, .unset, .unset, .unset, .unset, .unset, .unset, .unset, .unset, .unset, .unset] [(.long (2147483647 : Int64)), (.long (v_cost p0 p2))]) (fun _ k => X0.ldc2Long hx hown (mvT hZ (hw _ (List.mem_of_getElem? (i := 3) rfl))) (g := (mkF m 39 #[.val (.long p0), .second, .val (.int p1), .val (.int p2), .val (.long (v_cost p0 p2)), .second, .val (.int (v_count p1 p2)), .val (.long (v_hi p0 p2)), .second, .unset, .unset, .unset, .unset, .unset, .unset, .unset, .unset, .unset, .unset, .unset, .unset, .unset, .unset, .unset] [(.long (v_cost p0 p2))])) rfl (hb hby at_39) _ k) ?_
  refine Go.st (mkF m 43 #[.val (.long p0), .second, .val (.int p1), .val (.int p2), .val (.long (v_cost p0 p2)), .second, .val (.int (v_count p1 p2)), .val (.long (v_hi p0 p2)), .second, .unset, .unset, .unset, .unset, .unset, .unset, .unset, .unset, .unset, .unset, .unset, .unset, .unset, .unset, .unset] [(.long ((v_cost p0 p2) &&& (2147483647 : Int64)))]) (fun _ k => XT.land X0.here hx rfl (hb hby at_42) rfl k) ?_
  refine Go.st (mkF m 45 #[.val (.long p0), .second, .val (.int p1), .val (.int p2), .val (.long (v_cost p0 p2)), .second, .val (.int (v_count p1 p2)), .val (.long (v_hi p0 p2)), .second, .val (.long (v_lo p0 p2)), .second, .unset, .unset, .unset, .unset, .unset, .unset, .unset, .unset, .unset, .unset, .unset, .unset, .unset] []) (fun _ k => XT.lstore X0.here hx rfl (hb hby at_43) rfl (l' := #[.val (.long p0), .second, .val (.int p1), .val (.int p2), .val (.long (v_cost p0 p2)), .second, .val (.int (v_count p1 p2)), .val (.long (v_hi p0 p2)), .second, .val (.long (v_lo p0 p2)), .second, .unset, .unset, .unset, .unset, .unset, .unset, .unset, .unset, .unset, .unset, .unset, .unset, .unset]) rfl k) ?_
  refine Go.st (mkF m 47 #[.val (.long p0), .second, .val (.int p1), .val (.int p2), .val (.long (v_cost p0 p2)), .second, .val (.int (v_count p1 p2)), .val (.long (v_hi p0 p2)), .second, .val (.long (v_lo p0 p2)), .second, .unset, .unset, .unset, .unset, .unset, .unset, .unset, .unset, .unset, .unset, .unset, .unset, .unset] [(.int (v_count p1 p2))]) (fun _ k => XS.iload X0.here hx rfl (hb hby at_45) rfl k) ?_
  refine Go.st (mkF m 48 #[.val (.long p0), .second, .val (.int p1), .val (.int p2), .val (.long (v_cost p0 p2)), .second, .val (.int (v_count p1 p2)), .val (.long (v_hi p0 p2)), .second, .val (.long (v_lo p0 p2)), .second, .unset, .unset, .unset, .unset, .unset, .unset, .unset, .unset, .unset, .unset, .unset, .unset, .unset] [(.long ((v_count p1 p2).toInt64))]) (fun _ k => XT.i2l X0.here hx rfl (hb hby at_47) rfl k) ?_
  refine Go.st (mkF m 50 #[.val (.long p0), .second, .val (.int p1), .val (.int p2), .val (.long (v_cost p0 p2)), .second, .val (.int (v_count p1 p2)), .val (.long (v_hi p0 p2)), .second, .val (.long (v_lo p0 p2)), .second, .unset, .unset, .unset, .unset, .unset, .unset, .unset, .unset, .unset, .unset, .unset, .unset, .unset] [(.long (v_hi p0 p2)), (.long ((v_count p1 p2).toInt64))]) (fun _ k => XT.lload X0.here hx rfl (hb hby at_48) rfl k) ?_
  refine Go.st (mkF m 51 #[.val (.long p0), .second, .val (.int p1), .val (.int p2), .val (.long (v_cost p0 p2)), .second, .val (.int (v_count p1 p2)), .val (.long (v_hi p0 p2)), .second, .val (.long (v_lo p0 p2)), .second, .unset, .unset, .unset, .unset, .unset, .unset, .unset, .unset, .unset, .unset, .unset, .unset, .unset] [(.long (((v_count p1 p2).toInt64) * (v_hi p0 p2)))]) (fun _ k => XT.lmul X0.here hx rfl (hb hby at_50) rfl k) ?_
  refine Go.st (mkF m 53 #[.val (.long p0), .second, .val (.int p1), .val (.int p2), .val (.long (v_cost p0 p2)), .second, .val (.int (v_count p1 p2)), .val (.long (v_hi p0 p2)), .second, .val (.long (v_lo p0 p2)), .second, .val (.long (v_h p0 p1 p2)), .second, .unset, .unset, .unset, .unset, .unset, .unset, .unset, .unset, .unset, .unset, .unset] []) (fun _ k => XT.lstore X0.here hx rfl (hb hby at_51) rfl (l' := #[.val (.long p0), .second, .val (.int p1), .val (.int p2), .val (.long (v_cost p0 p2)), .second, .val (.int (v_count p1 p2)), .val (.long (v_hi p0 p2)), .second, .val (.long (v_lo p0 p2)), .second, .val (.long (v_h p0 p1 p2)), .second, .unset, .unset, .unset, .unset, .unset, .unset, .unset, .unset, .unset, .unset, .unset]) rfl k) ?_
  refine Go.st (mkF m 55 #[.val (.long p0), .second, .val (.int p1), .val (.int p2), .val (.long (v_cost p0 p2)), .second, .val (.int (v_count p1 p2)), .val (.long (v_hi p0 p2)), .second, .val (.long (v_lo p0 p2)), .second, .val (.long (v_h p0 p1 p2)), .second, .unset, .unset, .unset, .unset, .unset, .unset, .unset, .unset, .unset, .unset, .unset] [(.int (v_count p1 p2))]) (fun _ k => XS.iload X0.here hx rfl (hb hby at_53) rfl k) ?_
  refine Go.st (mkF m 56 #[.val (.long p0), .second, .val (.int p1), .val (.int p2), .val (.long (v_cost p0 p2)), .second, .val (.int (v_count p1 p2)), .val (.long (v_hi p0 p2)), .second, .val (.long (v_lo p0 p2)), .second, .val (.long (v_h p0 p1 p2)), .second, .unset, .unset, .unset, .unset, .unset, .unset, .unset, .unset, .unset, .unset, .unset] [(.long ((v_count p1 p2).toInt64))]) (fun _ k => XT.i2l X0.here hx rfl (hb hby at_55) rfl k) ?_
  refine Go.st (mkF m 58 #[.val (.long p0), .second, .val (.int p1), .val (.int p2), .val (.long (v_cost p0 p2)), .second, .val (.int (v_count p1 p2)), .val (.long (v_hi p0 p2)), .second, .val (.long (v_lo p0 p2)), .second, .val (.long (v_h p0 p1 p2)), .second, .unset, .unset, .unset, .unset, .unset, .unset, .unset, .unset, .unset, .unset, .unset] [(.long (v_lo p0 p2)), (.long ((v_count p1 p2).toInt64))]) (fun _ k => XT.lload X0.here hx rfl (hb hby at_56) rfl k) ?_
  refine Go.st (mkF m 59 #[.val (.long p0), .second, .val (.int p1), .val (.int p2), .val (.long (v_cost p0 p2)), .second, .val (.int (v_count p1 p2)), .val (.long (v_hi p0 p2)), .second, .val (.long (v_lo p0 p2)), .second, .val (.long (v_h p0 p1 p2)), .second, .unset, .unset, .unset, .unset, .unset, .unset, .unset, .unset, .unset, .unset, .unset] [(.long (((v_count p1 p2).toInt64) * (v_lo p0 p2)))]) (fun _ k => XT.lmul X0.here hx rfl (hb hby at_58) rfl k) ?_
  refine Go.st (mkF m 61 #[.val (.long p0), .second, .val (.int p1), .val (.int p2), .val (.long (v_cost p0 p2)), .second, .val (.int (v_count p1 p2)), .val (.long (v_hi p0 p2)), .second, .val (.long (v_lo p0 p2)), .second, .val (.long (v_h p0 p1 p2)), .second, .val (.long (v_l p0 p1 p2)), .second, .unset, .unset, .unset, .unset, .unset, .unset, .unset, .unset, .unset] []) (fun _ k => XT.lstore X0.here hx rfl (hb hby at_59) rfl (l' := #[.val (.long p0), .second, .val (.int p1), .val (.int p2), .val (.long (v_cost p0 p2)), .second, .val (.int (v_count p1 p2)), .val (.long (v_hi p0 p2)), .second, .val (.long (v_lo p0 p2)), .second, .val (.long (v_h p0 p1 p2)), .second, .val (.long (v_l p0 p1 p2)), .second, .unset, .unset, .unset, .unset, .unset, .unset, .unset, .unset, .unset]) rfl k) ?_
  refine Go.st (mkF m 63 #[.val (.long p0), .second, .val (.int p1), .val (.int p2), .val (.long (v_cost p0 p2)), .second, .val (.int (v_count p1 p2)), .val (.long (v_hi p0 p2)), .second, .val (.long (v_lo p0 p2)), .second, .val (.long (v_h p0 p1 p2)), .second, .val (.long (v_l p0 p1 p2)), .second, .unset, .unset, .unset, .unset, .unset, .unset, .unset, .unset, .unset] [(.long (v_h p0 p1 p2))]) (fun _ k => XT.lload X0.here hx rfl (hb hby at_61) rfl k) ?_
  refine Go.st (mkF m 65 #[.val (.long p0), .second, .val (.int p1), .val (.int p2), .val (.long (v_cost p0 p2)), .second, .val (.int (v_count p1 p2)), .val (.long (v_hi p0 p2)), .second, .val (.long (v_lo p0 p2)), .second, .val (.long (v_h p0 p1 p2)), .second, .val (.long (v_l p0 p1 p2)), .second, .unset, .unset, .unset, .unset, .unset, .unset, .unset, .unset, .unset] [(.long (v_l p0 p1 p2)), (.long (v_h p0 p1 p2))]) (fun _ k => XT.lload X0.here hx rfl (hb hby at_63) rfl k) ?_
  refine Go.st (mkF m 67 #[.val (.long p0), .second, .val (.int p1), .val (.int p2), .val (.long (v_cost p0 p2)), .second, .val (.int (v_count p1 p2)), .val (.long (v_hi p0 p2)), .second, .val (.long (v_lo p0 p2)), .second, .val (.long (v_h p0 p1 p2)), .second, .val (.long (v_l p0 p1 p2)), .second, .unset, .unset, .unset, .unset, .unset, .unset, .unset, .unset, .unset] [(.int (31 : Int32)), (.long (v_l p0 p1 p2)), (.long (v_h p0 p1 p2))]) (fun _ k => XS.bipush X0.here hx rfl (hb hby at_65) k) ?_
  refine Go.st (mkF m 68 #[.val (.long p0), .second, .val (.int p1), .val (.int p2), .val (.long (v_cost p0 p2)), .second, .val (.int (v_count p1 p2)), .val (.long (v_hi p0 p2)), .second, .val (.long (v_lo p0 p2)), .second, .val (.long (v_h p0 p1 p2)), .second, .val (.long (v_l p0 p1 p2)), .second, .unset, .unset, .unset, .unset, .unset, .unset, .unset, .unset, .unset] [(.long (ushrL (v_l p0 p1 p2) (31 : Int32))), (.long (v_h p0 p1 p2))]) (fun _ k => XT.lushr X0.here hx rfl (hb hby at_67) rfl k) ?_
  refine Go.st (mkF m 69 #[.val (.long p0), .second, .val (.int p1), .val (.int p2), .val (.long (v_cost p0 p2)), .second, .val (.int (v_count p1 p2)), .val (.long (v_hi p0 p2)), .second, .val (.long (v_lo p0 p2)), .second, .val (.long (v_h p0 p1 p2)), .second, .val (.long (v_l p0 p1 p2)), .second, .unset, .unset, .unset, .unset, .unset, .unset, .unset, .unset, .unset] [(.long ((v_h p0 p1 p2) + (ushrL (v_l p0 p1 p2) (31 : Int32))))]) (fun _ k => XT.ladd X0.here hx rfl (hb hby at_68) rfl k) ?_
  refine Go.st (mkF m 71 #[.val (.long p0), .second, .val (.int p1), .val (.int p2), .val (.long (v_cost p0 p2)), .second, .val (.int (v_count p1 p2)), .val (.long (v_hi p0 p2)), .second, .val (.long (v_lo p0 p2)), .second, .val (.long (v_h p0 p1 p2)), .second, .val (.long (v_l p0 p1 p2)), .second, .val (.long (v_top p0 p1 p2)), .second, .unset, .unset, .unset, .unset, .unset, .unset, .unset] []) (fun _ k => XT.lstore X0.here hx rfl (hb hby at_69) rfl (l' := #[.val (.long p0), .second, .val (.int p1), .val (.int p2), .val (.long (v_cost p0 p2)), .second, .val (.int (v_count p1 p2)), .val (.long (v_hi p0 p2)), .second, .val (.long (v_lo p0 p2)), .second, .val (.long (v_h p0 p1 p2)), .second, .val (.long (v_l p0 p1 p2)), .second, .val (.long (v_top p0 p1 p2)), .second, .unset, .unset, .unset, .unset, .unset, .unset, .unset]) rfl k) ?_
  refine Go.st (mkF m 73 #[.val (.long p0), .second, .val (.int p1), .val (.int p2), .val (.long (v_cost p0 p2)), .second, .val (.int (v_count p1 p2)), .val (.long (v_hi p0 p2)), .second, .val (.long (v_lo p0 p2)), .second, .val (.long (v_h p0 p1 p2)), .second, .val (.long (v_l p0 p1 p2)), .second, .val (.long (v_top p0 p1 p2)), .second, .unset, .unset, .unset, .unset, .unset, .unset, .unset] [(.long (v_l p0 p1 p2))]) (fun _ k => XT.lload X0.here hx rfl (hb hby at_71) rfl k) ?_
  refine Go.st (mkF m 76 #[.val (.long p0), .second, .val (.int p1), .val (.int p2), .val (.long (v_cost p0 p2)), .second, .val (.int (v_count p1 p2)), .val (.long (v_hi p0 p2)), .second, .val (.long (v_lo p0 p2)), .second, .val (.long (v_h p0 p1 p2)), .second, .val (.long (v_l p0 p1 p2)), .second, .val (.long (v_top p0 p1 p2)), .second, .unset, .unset, .unset, .unset, .unset, .unset, .unset] [(.long (2147483647 : Int64)), (.long (v_l p0 p1 p2))]) (fun _ k => X0.ldc2Long hx hown (mvT hZ (hw _ (List.mem_of_getElem? (i := 3) rfl))) (g := (mkF m 73 #[.val (.long p0), .second, .val (.int p1), .val (.int p2), .val (.long (v_cost p0 p2)), .second, .val (.int (v_count p1 p2)), .val (.long (v_hi p0 p2)), .second, .val (.long (v_lo p0 p2)), .second, .val (.long (v_h p0 p1 p2)), .second, .val (.long (v_l p0 p1 p2)), .second, .val (.long (v_top p0 p1 p2)), .second, .unset, .unset, .unset, .unset, .unset, .unset, .unset] [(.long (v_l p0 p1 p2))])) rfl (hb hby at_73) _ k) ?_
  refine Go.st (mkF m 77 #[.val (.long p0), .second, .val (.int p1), .val (.int p2), .val (.long (v_cost p0 p2)), .second, .val (.int (v_count p1 p2)), .val (.long (v_hi p0 p2)), .second, .val (.long (v_lo p0 p2)), .second, .val (.long (v_h p0 p1 p2)), .second, .val (.long (v_l p0 p1 p2)), .second, .val (.long (v_top p0 p1 p2)), .second, .unset, .unset, .unset, .unset, .unset, .unset, .unset] [(.long ((v_l p0 p1 p2) &&& (2147483647 : Int64)))]) (fun _ k => XT.land X0.here hx rfl (hb hby at_76) rfl k) ?_
  refine Go.st (mkF m 79 #[.val (.long p0), .second, .val (.int p1), .val (.int p2), .val (.long (v_cost p0 p2)), .second, .val (.int (v_count p1 p2)), .val (.long (v_hi p0 p2)), .second, .val (.long (v_lo p0 p2)), .second, .val (.long (v_h p0 p1 p2)), .second, .val (.long (v_l p0 p1 p2)), .second, .val (.long (v_top p0 p1 p2)), .second, .val (.long (v_bottom p0 p1 p2)), .second, .unset, .unset, .unset, .unset, .unset] []) (fun _ k => XT.lstore X0.here hx rfl (hb hby at_77) rfl (l' := #[.val (.long p0), .second, .val (.int p1), .val (.int p2), .val (.long (v_cost p0 p2)), .second, .val (.int (v_count p1 p2)), .val (.long (v_hi p0 p2)), .second, .val (.long (v_lo p0 p2)), .second, .val (.long (v_h p0 p1 p2)), .second, .val (.long (v_l p0 p1 p2)), .second, .val (.long (v_top p0 p1 p2)), .second, .val (.long (v_bottom p0 p1 p2)), .second, .unset, .unset, .unset, .unset, .unset]) rfl k) ?_
  refine Go.st (mkF m 82 #[.val (.long p0), .second, .val (.int p1), .val (.int p2), .val (.long (v_cost p0 p2)), .second, .val (.int (v_count p1 p2)), .val (.long (v_hi p0 p2)), .second, .val (.long (v_lo p0 p2)), .second, .val (.long (v_h p0 p1 p2)), .second, .val (.long (v_l p0 p1 p2)), .second, .val (.long (v_top p0 p1 p2)), .second, .val (.long (v_bottom p0 p1 p2)), .second, .unset, .unset, .unset, .unset, .unset] [(.long (2147483648 : Int64))]) (fun _ k => X0.ldc2Long hx hown (mvT hZ (hw _ (List.mem_of_getElem? (i := 4) rfl))) (g := (mkF m 79 #[.val (.long p0), .second, .val (.int p1), .val (.int p2), .val (.long (v_cost p0 p2)), .second, .val (.int (v_count p1 p2)), .val (.long (v_hi p0 p2)), .second, .val (.long (v_lo p0 p2)), .second, .val (.long (v_h p0 p1 p2)), .second, .val (.long (v_l p0 p1 p2)), .second, .val (.long (v_top p0 p1 p2)), .second, .val (.long (v_bottom p0 p1 p2)), .second, .unset, .unset, .unset, .unset, .unset] [])) rfl (hb hby at_79) _ k) ?_
  refine Go.st (mkF m 84 #[.val (.long p0), .second, .val (.int p1), .val (.int p2), .val (.long (v_cost p0 p2)), .second, .val (.int (v_count p1 p2)), .val (.long (v_hi p0 p2)), .second, .val (.long (v_lo p0 p2)), .second, .val (.long (v_h p0 p1 p2)), .second, .val (.long (v_l p0 p1 p2)), .second, .val (.long (v_top p0 p1 p2)), .second, .val (.long (v_bottom p0 p1 p2)), .second, .val (.long (2147483648 : Int64)), .second, .unset, .unset, .unset] []) (fun _ k => XT.lstore X0.here hx rfl (hb hby at_82) rfl (l' := #[.val (.long p0), .second, .val (.int p1), .val (.int p2), .val (.long (v_cost p0 p2)), .second, .val (.int (v_count p1 p2)), .val (.long (v_hi p0 p2)), .second, .val (.long (v_lo p0 p2)), .second, .val (.long (v_h p0 p1 p2)), .second, .val (.long (v_l p0 p1 p2)), .second, .val (.long (v_top p0 p1 p2)), .second, .val (.long (v_bottom p0 p1 p2)), .second, .val (.long (2147483648 : Int64)), .second, .unset, .unset, .unset]) rfl k) ?_
  refine Go.st (mkF m 86 #[.val (.long p0), .second, .val (.int p1), .val (.int p2), .val (.long (v_cost p0 p2)), .second, .val (.int (v_count p1 p2)), .val (.long (v_hi p0 p2)), .second, .val (.long (v_lo p0 p2)), .second, .val (.long (v_h p0 p1 p2)), .second, .val (.long (v_l p0 p1 p2)), .second, .val (.long (v_top p0 p1 p2)), .second, .val (.long (v_bottom p0 p1 p2)), .second, .val (.long (2147483648 : Int64)), .second, .unset, .unset, .unset] [(.long (v_top p0 p1 p2))]) (fun _ k => XT.lload X0.here hx rfl (hb hby at_84) rfl k) ?_
  refine Go.st (mkF m 88 #[.val (.long p0), .second, .val (.int p1), .val (.int p2), .val (.long (v_cost p0 p2)), .second, .val (.int (v_count p1 p2)), .val (.long (v_hi p0 p2)), .second, .val (.long (v_lo p0 p2)), .second, .val (.long (v_h p0 p1 p2)), .second, .val (.long (v_l p0 p1 p2)), .second, .val (.long (v_top p0 p1 p2)), .second, .val (.long (v_bottom p0 p1 p2)), .second, .val (.long (2147483648 : Int64)), .second, .unset, .unset, .unset] [(.long (2147483648 : Int64)), (.long (v_top p0 p1 p2))]) (fun _ k => XT.lload X0.here hx rfl (hb hby at_86) rfl k) ?_
  refine Go.st (mkF m 89 #[.val (.long p0), .second, .val (.int p1), .val (.int p2), .val (.long (v_cost p0 p2)), .second, .val (.int (v_count p1 p2)), .val (.long (v_hi p0 p2)), .second, .val (.long (v_lo p0 p2)), .second, .val (.long (v_h p0 p1 p2)), .second, .val (.long (v_l p0 p1 p2)), .second, .val (.long (v_top p0 p1 p2)), .second, .val (.long (v_bottom p0 p1 p2)), .second, .val (.long (2147483648 : Int64)), .second, .unset, .unset, .unset] [(.int (cmpL (v_top p0 p1 p2) (2147483648 : Int64)))]) (fun _ k => XT.lcmp X0.here hx rfl (hb hby at_88) rfl k) ?_
  have J89 : Go p e below s (Q_0 p0 p1 p2 h0 n0) 0 0 s₁ (mkF m 112 #[.val (.long p0), .second, .val (.int p1), .val (.int p2), .val (.long (v_cost p0 p2)), .second, .val (.int (v_count p1 p2)), .val (.long (v_hi p0 p2)), .second, .val (.long (v_lo p0 p2)), .second, .val (.long (v_h p0 p1 p2)), .second, .val (.long (v_l p0 p1 p2)), .second, .val (.long (v_top p0 p1 p2)), .second, .val (.long (v_bottom p0 p1 p2)), .second, .val (.long (2147483648 : Int64)), .second, .unset, .unset, .unset] [(.int (v_within p0 p1 p2))]) := by
    refine Go.st (mkF m 114 #[.val (.long p0), .second, .val (.int p1), .val (.int p2), .val (.long (v_cost p0 p2)), .second, .val (.int (v_count p1 p2)), .val (.long (v_hi p0 p2)), .second, .val (.long (v_lo p0 p2)), .second, .val (.long (v_h p0 p1 p2)), .second, .val (.long (v_l p0 p1 p2)), .second, .val (.long (v_top p0 p1 p2)), .second, .val (.long (v_bottom p0 p1 p2)), .second, .val (.long (2147483648 : Int64)), .second, .val (.int (v_within p0 p1 p2)), .unset, .unset] []) (fun _ k => XS.istore X0.here hx rfl (hb hby at_112) rfl (l' := #[.val (.long p0), .second, .val (.int p1), .val (.int p2), .val (.long (v_cost p0 p2)), .second, .val (.int (v_count p1 p2)), .val (.long (v_hi p0 p2)), .second, .val (.long (v_lo p0 p2)), .second, .val (.long (v_h p0 p1 p2)), .second, .val (.long (v_l p0 p1 p2)), .second, .val (.long (v_top p0 p1 p2)), .second, .val (.long (v_bottom p0 p1 p2)), .second, .val (.long (2147483648 : Int64)), .second, .val (.int (v_within p0 p1 p2)), .unset, .unset]) rfl k) ?_
    refine Go.st (mkF m 116 #[.val (.long p0), .second, .val (.int p1), .val (.int p2), .val (.long (v_cost p0 p2)), .second, .val (.int (v_count p1 p2)), .val (.long (v_hi p0 p2)), .second, .val (.long (v_lo p0 p2)), .second, .val (.long (v_h p0 p1 p2)), .second, .val (.long (v_l p0 p1 p2)), .second, .val (.long (v_top p0 p1 p2)), .second, .val (.long (v_bottom p0 p1 p2)), .second, .val (.long (2147483648 : Int64)), .second, .val (.int (v_within p0 p1 p2)), .unset, .unset] [(.int (v_within p0 p1 p2))]) (fun _ k => XS.iload X0.here hx rfl (hb hby at_114) rfl k) ?_
    have J116 : Go p e below s (Q_0 p0 p1 p2 h0 n0) 0 0 s₁ (mkF m 133 #[.val (.long p0), .second, .val (.int p1), .val (.int p2), .val (.long (v_cost p0 p2)), .second, .val (.int (v_count p1 p2)), .val (.long (v_hi p0 p2)), .second, .val (.long (v_lo p0 p2)), .second, .val (.long (v_h p0 p1 p2)), .second, .val (.long (v_l p0 p1 p2)), .second, .val (.long (v_top p0 p1 p2)), .second, .val (.long (v_bottom p0 p1 p2)), .second, .val (.long (2147483648 : Int64)), .second, .val (.int (v_within p0 p1 p2)), .unset, .unset] [(.long (v_expected p0 p1 p2))]) := by
      refine Go.st (mkF m 135 #[.val (.long p0), .second, .val (.int p1), .val (.int p2), .val (.long (v_cost p0 p2)), .second, .val (.int (v_count p1 p2)), .val (.long (v_hi p0 p2)), .second, .val (.long (v_lo p0 p2)), .second, .val (.long (v_h p0 p1 p2)), .second, .val (.long (v_l p0 p1 p2)), .second, .val (.long (v_top p0 p1 p2)), .second, .val (.long (v_bottom p0 p1 p2)), .second, .val (.long (2147483648 : Int64)), .second, .val (.int (v_within p0 p1 p2)), .val (.long (v_expected p0 p1 p2)), .second] []) (fun _ k => XT.lstore X0.here hx rfl (hb hby at_133) rfl (l' := #[.val (.long p0), .second, .val (.int p1), .val (.int p2), .val (.long (v_cost p0 p2)), .second, .val (.int (v_count p1 p2)), .val (.long (v_hi p0 p2)), .second, .val (.long (v_lo p0 p2)), .second, .val (.long (v_h p0 p1 p2)), .second, .val (.long (v_l p0 p1 p2)), .second, .val (.long (v_top p0 p1 p2)), .second, .val (.long (v_bottom p0 p1 p2)), .second, .val (.long (2147483648 : Int64)), .second, .val (.int (v_within p0 p1 p2)), .val (.long (v_expected p0 p1 p2)), .second]) rfl k) ?_
      refine Go.st (mkF m 137 #[.val (.long p0), .second, .val (.int p1), .val (.int p2), .val (.long (v_cost p0 p2)), .second, .val (.int (v_count p1 p2)), .val (.long (v_hi p0 p2)), .second, .val (.long (v_lo p0 p2)), .second, .val (.long (v_h p0 p1 p2)), .second, .val (.long (v_l p0 p1 p2)), .second, .val (.long (v_top p0 p1 p2)), .second, .val (.long (v_bottom p0 p1 p2)), .second, .val (.long (2147483648 : Int64)), .second, .val (.int (v_within p0 p1 p2)), .val (.long (v_expected p0 p1 p2)), .second] [(.long (v_cost p0 p2))]) (fun _ k => XT.lload X0.here hx rfl (hb hby at_135) rfl k) ?_
      refine Go.st (mkF m 139 #[.val (.long p0), .second, .val (.int p1), .val (.int p2), .val (.long (v_cost p0 p2)), .second, .val (.int (v_count p1 p2)), .val (.long (v_hi p0 p2)), .second, .val (.long (v_lo p0 p2)), .second, .val (.long (v_h p0 p1 p2)), .second, .val (.long (v_l p0 p1 p2)), .second, .val (.long (v_top p0 p1 p2)), .second, .val (.long (v_bottom p0 p1 p2)), .second, .val (.long (2147483648 : Int64)), .second, .val (.int (v_within p0 p1 p2)), .val (.long (v_expected p0 p1 p2)), .second] [(.int (v_count p1 p2)), (.long (v_cost p0 p2))]) (fun _ k => XS.iload X0.here hx rfl (hb hby at_137) rfl k) ?_
      obtain ⟨_, _, ⟨T3, L3, k3, n3⟩, -, X3, ⟨Lc3, hQ3, l3, y3, z3⟩, st3⟩ := Jvm.LawKit.callS X0 hx (y := (⟨"com/example/nearpath/nearpath/query/Costs", "times", "(JI)J"⟩ : MethodName)) hown (mvT hZ (hw _ (List.mem_of_getElem? (i := 5) rfl))) (mvT hZ (hw _ (List.mem_of_getElem? (i := 6) rfl))) (mvT hZ (hw _ (List.mem_of_getElem? (i := 7) rfl))) (mvT hZ (hw _ (List.mem_of_getElem? (i := 8) rfl))) (by decide) (backOf (W := 0) (rm_1 l Z a0 hw [] (v_cost p0 p2) (v_count p1 p2) h0 n0 Z0) hZ (hw _ (List.mem_of_getElem? (i := 8) rfl)) (hw _ (List.mem_of_getElem? (i := 7) rfl)) (by decide) (by decide)) (g := (mkF m 139 #[.val (.long p0), .second, .val (.int p1), .val (.int p2), .val (.long (v_cost p0 p2)), .second, .val (.int (v_count p1 p2)), .val (.long (v_hi p0 p2)), .second, .val (.long (v_lo p0 p2)), .second, .val (.long (v_h p0 p1 p2)), .second, .val (.long (v_l p0 p1 p2)), .second, .val (.long (v_top p0 p1 p2)), .second, .val (.long (v_bottom p0 p1 p2)), .second, .val (.long (2147483648 : Int64)), .second, .val (.int (v_within p0 p1 p2)), .val (.long (v_expected p0 p1 p2)), .second] [(.int (v_count p1 p2)), (.long (v_cost p0 p2))])) rfl (by rw [hml]; rfl) (argsL := [(.long (v_cost p0 p2)), (.int (v_count p1 p2))]) (rest := []) (lenOf pd_0 rfl) rfl (by show 2 * 0 + _ ≤ _; exact Nat.le_of_eq rfl) (hb hby at_139) (fun _ _ => ⟨rfl, e0, (by decide : 0 + 0 ≤ _), (by decide : 0 + 0 ≤ _)⟩)
      dsimp only [Pt.U, Pt.locs, Pt.cells, Pt.slots] at X3 l3 y3 z3 st3 hQ3
      subst l3 y3 z3
      obtain ⟨rfl, N3q, e3⟩ := hQ3
      have N3 := Fr.app N0 N3q
      refine Go.st (mkF m 142 #[.val (.long p0), .second, .val (.int p1), .val (.int p2), .val (.long (v_cost p0 p2)), .second, .val (.int (v_count p1 p2)), .val (.long (v_hi p0 p2)), .second, .val (.long (v_lo p0 p2)), .second, .val (.long (v_h p0 p1 p2)), .second, .val (.long (v_l p0 p1 p2)), .second, .val (.long (v_top p0 p1 p2)), .second, .val (.long (v_bottom p0 p1 p2)), .second, .val (.long (2147483648 : Int64)), .second, .val (.int (v_within p0 p1 p2)), .val (.long (v_expected p0 p1 p2)), .second] [(.long (f_1 (v_cost p0 p2) (v_count p1 p2)))]) (fun _ k => st3 _ k) ?_
      refine Go.st (mkF m 144 #[.val (.long p0), .second, .val (.int p1), .val (.int p2), .val (.long (v_cost p0 p2)), .second, .val (.int (v_count p1 p2)), .val (.long (v_hi p0 p2)), .second, .val (.long (v_lo p0 p2)), .second, .val (.long (v_h p0 p1 p2)), .second, .val (.long (v_l p0 p1 p2)), .second, .val (.long (v_top p0 p1 p2)), .second, .val (.long (v_bottom p0 p1 p2)), .second, .val (.long (2147483648 : Int64)), .second, .val (.int (v_within p0 p1 p2)), .val (.long (v_expected p0 p1 p2)), .second] [(.long (v_expected p0 p1 p2)), (.long (f_1 (v_cost p0 p2) (v_count p1 p2)))]) (fun _ k => XT.lload X3.here hx rfl (hb hby at_142) rfl k) ?_
      refine Go.st (mkF m 145 #[.val (.long p0), .second, .val (.int p1), .val (.int p2), .val (.long (v_cost p0 p2)), .second, .val (.int (v_count p1 p2)), .val (.long (v_hi p0 p2)), .second, .val (.long (v_lo p0 p2)), .second, .val (.long (v_h p0 p1 p2)), .second, .val (.long (v_l p0 p1 p2)), .second, .val (.long (v_top p0 p1 p2)), .second, .val (.long (v_bottom p0 p1 p2)), .second, .val (.long (2147483648 : Int64)), .second, .val (.int (v_within p0 p1 p2)), .val (.long (v_expected p0 p1 p2)), .second] [(.int (cmpL (f_1 (v_cost p0 p2) (v_count p1 p2)) (v_expected p0 p1 p2)))]) (fun _ k => XT.lcmp X3.here hx rfl (hb hby at_144) rfl k) ?_
      by_cases hc145_4 : (f_1 (v_cost p0 p2) (v_count p1 p2)) = (v_expected p0 p1 p2)
      ·
        refine Go.st (mkF m 148 #[.val (.long p0), .second, .val (.int p1), .val (.int p2), .val (.long (v_cost p0 p2)), .second, .val (.int (v_count p1 p2)), .val (.long (v_hi p0 p2)), .second, .val (.long (v_lo p0 p2)), .second, .val (.long (v_h p0 p1 p2)), .second, .val (.long (v_l p0 p1 p2)), .second, .val (.long (v_top p0 p1 p2)), .second, .val (.long (v_bottom p0 p1 p2)), .second, .val (.long (2147483648 : Int64)), .second, .val (.int (v_within p0 p1 p2)), .val (.long (v_expected p0 p1 p2)), .second] []) (fun _ k => XS.ifNo X3.here hx rfl (hb hby at_145) rfl (own_leT hc145_4).2 k) ?_
        refine Go.st (mkF m 149 #[.val (.long p0), .second, .val (.int p1), .val (.int p2), .val (.long (v_cost p0 p2)), .second, .val (.int (v_count p1 p2)), .val (.long (v_hi p0 p2)), .second, .val (.long (v_lo p0 p2)), .second, .val (.long (v_h p0 p1 p2)), .second, .val (.long (v_l p0 p1 p2)), .second, .val (.long (v_top p0 p1 p2)), .second, .val (.long (v_bottom p0 p1 p2)), .second, .val (.long (2147483648 : Int64)), .second, .val (.int (v_within p0 p1 p2)), .val (.long (v_expected p0 p1 p2)), .second] [(.int (1 : Int32))]) (fun _ k => XS.iconst X3.here hx rfl (hb hby at_148) k) ?_
        refine Go.st (mkF m 153 #[.val (.long p0), .second, .val (.int p1), .val (.int p2), .val (.long (v_cost p0 p2)), .second, .val (.int (v_count p1 p2)), .val (.long (v_hi p0 p2)), .second, .val (.long (v_lo p0 p2)), .second, .val (.long (v_h p0 p1 p2)), .second, .val (.long (v_l p0 p1 p2)), .second, .val (.long (v_top p0 p1 p2)), .second, .val (.long (v_bottom p0 p1 p2)), .second, .val (.long (2147483648 : Int64)), .second, .val (.int (v_within p0 p1 p2)), .val (.long (v_expected p0 p1 p2)), .second] [(.int (1 : Int32))]) (fun _ k => XS.goto X3.here hx rfl (pc0 := 149) (pc' := 153) rfl (hb hby at_149) (by decide) (by decide) k) ?_
        exact Go.retZ X3 hx Bd.notSynchronized (t := .boolean) (by simp) Bd.returns (hb hby at_153) ⟨congrArg (fun z => some (Value.int z)) (show nar .boolean (1 : Int32) = f_0 p0 p1 p2 from by unfold f_0; rw [if_pos hc145_4]; first | done | rfl), N3, e3⟩ (by decide) (by decide)
      ·
        refine Go.st (mkF m 152 #[.val (.long p0), .second, .val (.int p1), .val (.int p2), .val (.long (v_cost p0 p2)), .second, .val (.int (v_count p1 p2)), .val (.long (v_hi p0 p2)), .second, .val (.long (v_lo p0 p2)), .second, .val (.long (v_h p0 p1 p2)), .second, .val (.long (v_l p0 p1 p2)), .second, .val (.long (v_top p0 p1 p2)), .second, .val (.long (v_bottom p0 p1 p2)), .second, .val (.long (2147483648 : Int64)), .second, .val (.int (v_within p0 p1 p2)), .val (.long (v_expected p0 p1 p2)), .second] []) (fun _ k => XS.ifYes X3.here hx rfl (pc0 := 145) (pc' := 152) rfl (hb hby at_145) rfl (own_leF hc145_4).2 (by decide) (by decide) k) ?_
        refine Go.st (mkF m 153 #[.val (.long p0), .second, .val (.int p1), .val (.int p2), .val (.long (v_cost p0 p2)), .second, .val (.int (v_count p1 p2)), .val (.long (v_hi p0 p2)), .second, .val (.long (v_lo p0 p2)), .second, .val (.long (v_h p0 p1 p2)), .second, .val (.long (v_l p0 p1 p2)), .second, .val (.long (v_top p0 p1 p2)), .second, .val (.long (v_bottom p0 p1 p2)), .second, .val (.long (2147483648 : Int64)), .second, .val (.int (v_within p0 p1 p2)), .val (.long (v_expected p0 p1 p2)), .second] [(.int (0 : Int32))]) (fun _ k => XS.iconst X3.here hx rfl (hb hby at_152) k) ?_
        exact Go.retZ X3 hx Bd.notSynchronized (t := .boolean) (by simp) Bd.returns (hb hby at_153) ⟨congrArg (fun z => some (Value.int z)) (show nar .boolean (0 : Int32) = f_0 p0 p1 p2 from by unfold f_0; rw [if_neg hc145_4]; first | done | rfl), N3, e3⟩ (by decide) (by decide)
    by_cases hc116_2 : (v_within p0 p1 p2) = (0 : Int32)
    ·
      refine Go.st (mkF m 130 #[.val (.long p0), .second, .val (.int p1), .val (.int p2), .val (.long (v_cost p0 p2)), .second, .val (.int (v_count p1 p2)), .val (.long (v_hi p0 p2)), .second, .val (.long (v_lo p0 p2)), .second, .val (.long (v_h p0 p1 p2)), .second, .val (.long (v_l p0 p1 p2)), .second, .val (.long (v_top p0 p1 p2)), .second, .val (.long (v_bottom p0 p1 p2)), .second, .val (.long (2147483648 : Int64)), .second, .val (.int (v_within p0 p1 p2)), .unset, .unset] []) (fun _ k => XS.ifYes X0.here hx rfl (pc0 := 116) (pc' := 130) rfl (hb hby at_116) rfl ((if0 _ _).trans (teq hc116_2).1) (by decide) (by decide) k) ?_
      refine Go.st (mkF m 133 #[.val (.long p0), .second, .val (.int p1), .val (.int p2), .val (.long (v_cost p0 p2)), .second, .val (.int (v_count p1 p2)), .val (.long (v_hi p0 p2)), .second, .val (.long (v_lo p0 p2)), .second, .val (.long (v_h p0 p1 p2)), .second, .val (.long (v_l p0 p1 p2)), .second, .val (.long (v_top p0 p1 p2)), .second, .val (.long (v_bottom p0 p1 p2)), .second, .val (.long (2147483648 : Int64)), .second, .val (.int (v_within p0 p1 p2)), .unset, .unset] [(.long (4611686018427387905 : Int64))]) (fun _ k => X0.ldc2Long hx hown (mvT hZ (hw _ (List.mem_of_getElem? (i := 10) rfl))) (g := (mkF m 130 #[.val (.long p0), .second, .val (.int p1), .val (.int p2), .val (.long (v_cost p0 p2)), .second, .val (.int (v_count p1 p2)), .val (.long (v_hi p0 p2)), .second, .val (.long (v_lo p0 p2)), .second, .val (.long (v_h p0 p1 p2)), .second, .val (.long (v_l p0 p1 p2)), .second, .val (.long (v_top p0 p1 p2)), .second, .val (.long (v_bottom p0 p1 p2)), .second, .val (.long (2147483648 : Int64)), .second, .val (.int (v_within p0 p1 p2)), .unset, .unset] [])) rfl (hb hby at_130) _ k) ?_
      rw [show (v_expected p0 p1 p2) = (4611686018427387905 : Int64) from by unfold v_expected; rw [if_pos hc116_2]] at J116
      exact J116
    ·
      refine Go.st (mkF m 119 #[.val (.long p0), .second, .val (.int p1), .val (.int p2), .val (.long (v_cost p0 p2)), .second, .val (.int (v_count p1 p2)), .val (.long (v_hi p0 p2)), .second, .val (.long (v_lo p0 p2)), .second, .val (.long (v_h p0 p1 p2)), .second, .val (.long (v_l p0 p1 p2)), .second, .val (.long (v_top p0 p1 p2)), .second, .val (.long (v_bottom p0 p1 p2)), .second, .val (.long (2147483648 : Int64)), .second, .val (.int (v_within p0 p1 p2)), .unset, .unset] []) (fun _ k => XS.ifNo X0.here hx rfl (hb hby at_116) rfl ((if0 _ _).trans (feq hc116_2).1) k) ?_
      refine Go.st (mkF m 121 #[.val (.long p0), .second, .val (.int p1), .val (.int p2), .val (.long (v_cost p0 p2)), .second, .val (.int (v_count p1 p2)), .val (.long (v_hi p0 p2)), .second, .val (.long (v_lo p0 p2)), .second, .val (.long (v_h p0 p1 p2)), .second, .val (.long (v_l p0 p1 p2)), .second, .val (.long (v_top p0 p1 p2)), .second, .val (.long (v_bottom p0 p1 p2)), .second, .val (.long (2147483648 : Int64)), .second, .val (.int (v_within p0 p1 p2)), .unset, .unset] [(.long (v_top p0 p1 p2))]) (fun _ k => XT.lload X0.here hx rfl (hb hby at_119) rfl k) ?_
      refine Go.st (mkF m 123 #[.val (.long p0), .second, .val (.int p1), .val (.int p2), .val (.long (v_cost p0 p2)), .second, .val (.int (v_count p1 p2)), .val (.long (v_hi p0 p2)), .second, .val (.long (v_lo p0 p2)), .second, .val (.long (v_h p0 p1 p2)), .second, .val (.long (v_l p0 p1 p2)), .second, .val (.long (v_top p0 p1 p2)), .second, .val (.long (v_bottom p0 p1 p2)), .second, .val (.long (2147483648 : Int64)), .second, .val (.int (v_within p0 p1 p2)), .unset, .unset] [(.int (31 : Int32)), (.long (v_top p0 p1 p2))]) (fun _ k => XS.bipush X0.here hx rfl (hb hby at_121) k) ?_
      refine Go.st (mkF m 124 #[.val (.long p0), .second, .val (.int p1), .val (.int p2), .val (.long (v_cost p0 p2)), .second, .val (.int (v_count p1 p2)), .val (.long (v_hi p0 p2)), .second, .val (.long (v_lo p0 p2)), .second, .val (.long (v_h p0 p1 p2)), .second, .val (.long (v_l p0 p1 p2)), .second, .val (.long (v_top p0 p1 p2)), .second, .val (.long (v_bottom p0 p1 p2)), .second, .val (.long (2147483648 : Int64)), .second, .val (.int (v_within p0 p1 p2)), .unset, .unset] [(.long ((v_top p0 p1 p2) <<< (((31 : Int32)).toInt64 &&& 63)))]) (fun _ k => XT.lshl X0.here hx rfl (hb hby at_123) rfl k) ?_
      refine Go.st (mkF m 126 #[.val (.long p0), .second, .val (.int p1), .val (.int p2), .val (.long (v_cost p0 p2)), .second, .val (.int (v_count p1 p2)), .val (.long (v_hi p0 p2)), .second, .val (.long (v_lo p0 p2)), .second, .val (.long (v_h p0 p1 p2)), .second, .val (.long (v_l p0 p1 p2)), .second, .val (.long (v_top p0 p1 p2)), .second, .val (.long (v_bottom p0 p1 p2)), .second, .val (.long (2147483648 : Int64)), .second, .val (.int (v_within p0 p1 p2)), .unset, .unset] [(.long (v_bottom p0 p1 p2)), (.long ((v_top p0 p1 p2) <<< (((31 : Int32)).toInt64 &&& 63)))]) (fun _ k => XT.lload X0.here hx rfl (hb hby at_124) rfl k) ?_
      refine Go.st (mkF m 127 #[.val (.long p0), .second, .val (.int p1), .val (.int p2), .val (.long (v_cost p0 p2)), .second, .val (.int (v_count p1 p2)), .val (.long (v_hi p0 p2)), .second, .val (.long (v_lo p0 p2)), .second, .val (.long (v_h p0 p1 p2)), .second, .val (.long (v_l p0 p1 p2)), .second, .val (.long (v_top p0 p1 p2)), .second, .val (.long (v_bottom p0 p1 p2)), .second, .val (.long (2147483648 : Int64)), .second, .val (.int (v_within p0 p1 p2)), .unset, .unset] [(.long (((v_top p0 p1 p2) <<< (((31 : Int32)).toInt64 &&& 63)) + (v_bottom p0 p1 p2)))]) (fun _ k => XT.ladd X0.here hx rfl (hb hby at_126) rfl k) ?_
      refine Go.st (mkF m 133 #[.val (.long p0), .second, .val (.int p1), .val (.int p2), .val (.long (v_cost p0 p2)), .second, .val (.int (v_count p1 p2)), .val (.long (v_hi p0 p2)), .second, .val (.long (v_lo p0 p2)), .second, .val (.long (v_h p0 p1 p2)), .second, .val (.long (v_l p0 p1 p2)), .second, .val (.long (v_top p0 p1 p2)), .second, .val (.long (v_bottom p0 p1 p2)), .second, .val (.long (2147483648 : Int64)), .second, .val (.int (v_within p0 p1 p2)), .unset, .unset] [(.long (((v_top p0 p1 p2) <<< (((31 : Int32)).toInt64 &&& 63)) + (v_bottom p0 p1 p2)))]) (fun _ k => XS.goto X0.here hx rfl (pc0 := 127) (pc' := 133) rfl (hb hby at_127) (by decide) (by decide) k) ?_
      rw [show (v_expected p0 p1 p2) = (((v_top p0 p1 p2) <<< (((31 : Int32)).toInt64 &&& 63)) + (v_bottom p0 p1 p2)) from by unfold v_expected; rw [if_neg hc116_2]] at J116
      exact J116
  by_cases hc89_1 : (v_top p0 p1 p2) < (2147483648 : Int64)
  ·
    refine Go.st (mkF m 107 #[.val (.long p0), .second, .val (.int p1), .val (.int p2), .val (.long (v_cost p0 p2)), .second, .val (.int (v_count p1 p2)), .val (.long (v_hi p0 p2)), .second, .val (.long (v_lo p0 p2)), .second, .val (.long (v_h p0 p1 p2)), .second, .val (.long (v_l p0 p1 p2)), .second, .val (.long (v_top p0 p1 p2)), .second, .val (.long (v_bottom p0 p1 p2)), .second, .val (.long (2147483648 : Int64)), .second, .unset, .unset, .unset] []) (fun _ k => XS.ifYes X0.here hx rfl (pc0 := 89) (pc' := 107) rfl (hb hby at_89) rfl (own_llT hc89_1).1 (by decide) (by decide) k) ?_
    refine Go.st (mkF m 108 #[.val (.long p0), .second, .val (.int p1), .val (.int p2), .val (.long (v_cost p0 p2)), .second, .val (.int (v_count p1 p2)), .val (.long (v_hi p0 p2)), .second, .val (.long (v_lo p0 p2)), .second, .val (.long (v_h p0 p1 p2)), .second, .val (.long (v_l p0 p1 p2)), .second, .val (.long (v_top p0 p1 p2)), .second, .val (.long (v_bottom p0 p1 p2)), .second, .val (.long (2147483648 : Int64)), .second, .unset, .unset, .unset] [(.int (1 : Int32))]) (fun _ k => XS.iconst X0.here hx rfl (hb hby at_107) k) ?_
    refine Go.st (mkF m 112 #[.val (.long p0), .second, .val (.int p1), .val (.int p2), .val (.long (v_cost p0 p2)), .second, .val (.int (v_count p1 p2)), .val (.long (v_hi p0 p2)), .second, .val (.long (v_lo p0 p2)), .second, .val (.long (v_h p0 p1 p2)), .second, .val (.long (v_l p0 p1 p2)), .second, .val (.long (v_top p0 p1 p2)), .second, .val (.long (v_bottom p0 p1 p2)), .second, .val (.long (2147483648 : Int64)), .second, .unset, .unset, .unset] [(.int (1 : Int32))]) (fun _ k => XS.goto X0.here hx rfl (pc0 := 108) (pc' := 112) rfl (hb hby at_108) (by decide) (by decide) k) ?_
    rw [show (v_within p0 p1 p2) = (1 : Int32) from by unfold v_within; rw [if_pos hc89_1]] at J89
    exact J89
  ·
    refine Go.st (mkF m 92 #[.val (.long p0), .second, .val (.int p1), .val (.int p2), .val (.long (v_cost p0 p2)), .second, .val (.int (v_count p1 p2)), .val (.long (v_hi p0 p2)), .second, .val (.long (v_lo p0 p2)), .second, .val (.long (v_h p0 p1 p2)), .second, .val (.long (v_l p0 p1 p2)), .second, .val (.long (v_top p0 p1 p2)), .second, .val (.long (v_bottom p0 p1 p2)), .second, .val (.long (2147483648 : Int64)), .second, .unset, .unset, .unset] []) (fun _ k => XS.ifNo X0.here hx rfl (hb hby at_89) rfl (own_llF hc89_1).1 k) ?_
    refine Go.st (mkF m 94 #[.val (.long p0), .second, .val (.int p1), .val (.int p2), .val (.long (v_cost p0 p2)), .second, .val (.int (v_count p1 p2)), .val (.long (v_hi p0 p2)), .second, .val (.long (v_lo p0 p2)), .second, .val (.long (v_h p0 p1 p2)), .second, .val (.long (v_l p0 p1 p2)), .second, .val (.long (v_top p0 p1 p2)), .second, .val (.long (v_bottom p0 p1 p2)), .second, .val (.long (2147483648 : Int64)), .second, .unset, .unset, .unset] [(.long (v_top p0 p1 p2))]) (fun _ k => XT.lload X0.here hx rfl (hb hby at_92) rfl k) ?_
    refine Go.st (mkF m 96 #[.val (.long p0), .second, .val (.int p1), .val (.int p2), .val (.long (v_cost p0 p2)), .second, .val (.int (v_count p1 p2)), .val (.long (v_hi p0 p2)), .second, .val (.long (v_lo p0 p2)), .second, .val (.long (v_h p0 p1 p2)), .second, .val (.long (v_l p0 p1 p2)), .second, .val (.long (v_top p0 p1 p2)), .second, .val (.long (v_bottom p0 p1 p2)), .second, .val (.long (2147483648 : Int64)), .second, .unset, .unset, .unset] [(.long (2147483648 : Int64)), (.long (v_top p0 p1 p2))]) (fun _ k => XT.lload X0.here hx rfl (hb hby at_94) rfl k) ?_
    refine Go.st (mkF m 97 #[.val (.long p0), .second, .val (.int p1), .val (.int p2), .val (.long (v_cost p0 p2)), .second, .val (.int (v_count p1 p2)), .val (.long (v_hi p0 p2)), .second, .val (.long (v_lo p0 p2)), .second, .val (.long (v_h p0 p1 p2)), .second, .val (.long (v_l p0 p1 p2)), .second, .val (.long (v_top p0 p1 p2)), .second, .val (.long (v_bottom p0 p1 p2)), .second, .val (.long (2147483648 : Int64)), .second, .unset, .unset, .unset] [(.int (cmpL (v_top p0 p1 p2) (2147483648 : Int64)))]) (fun _ k => XT.lcmp X0.here hx rfl (hb hby at_96) rfl k) ?_
    by_cases hc97_5 : (v_top p0 p1 p2) = (2147483648 : Int64)
    ·
      refine Go.st (mkF m 100 #[.val (.long p0), .second, .val (.int p1), .val (.int p2), .val (.long (v_cost p0 p2)), .second, .val (.int (v_count p1 p2)), .val (.long (v_hi p0 p2)), .second, .val (.long (v_lo p0 p2)), .second, .val (.long (v_h p0 p1 p2)), .second, .val (.long (v_l p0 p1 p2)), .second, .val (.long (v_top p0 p1 p2)), .second, .val (.long (v_bottom p0 p1 p2)), .second, .val (.long (2147483648 : Int64)), .second, .unset, .unset, .unset] []) (fun _ k => XS.ifNo X0.here hx rfl (hb hby at_97) rfl (own_leT hc97_5).2 k) ?_
      refine Go.st (mkF m 102 #[.val (.long p0), .second, .val (.int p1), .val (.int p2), .val (.long (v_cost p0 p2)), .second, .val (.int (v_count p1 p2)), .val (.long (v_hi p0 p2)), .second, .val (.long (v_lo p0 p2)), .second, .val (.long (v_h p0 p1 p2)), .second, .val (.long (v_l p0 p1 p2)), .second, .val (.long (v_top p0 p1 p2)), .second, .val (.long (v_bottom p0 p1 p2)), .second, .val (.long (2147483648 : Int64)), .second, .unset, .unset, .unset] [(.long (v_bottom p0 p1 p2))]) (fun _ k => XT.lload X0.here hx rfl (hb hby at_100) rfl k) ?_
      refine Go.st (mkF m 103 #[.val (.long p0), .second, .val (.int p1), .val (.int p2), .val (.long (v_cost p0 p2)), .second, .val (.int (v_count p1 p2)), .val (.long (v_hi p0 p2)), .second, .val (.long (v_lo p0 p2)), .second, .val (.long (v_h p0 p1 p2)), .second, .val (.long (v_l p0 p1 p2)), .second, .val (.long (v_top p0 p1 p2)), .second, .val (.long (v_bottom p0 p1 p2)), .second, .val (.long (2147483648 : Int64)), .second, .unset, .unset, .unset] [(.long (0 : Int64)), (.long (v_bottom p0 p1 p2))]) (fun _ k => XT.lconst X0.here hx rfl (hb hby at_102) k) ?_
      refine Go.st (mkF m 104 #[.val (.long p0), .second, .val (.int p1), .val (.int p2), .val (.long (v_cost p0 p2)), .second, .val (.int (v_count p1 p2)), .val (.long (v_hi p0 p2)), .second, .val (.long (v_lo p0 p2)), .second, .val (.long (v_h p0 p1 p2)), .second, .val (.long (v_l p0 p1 p2)), .second, .val (.long (v_top p0 p1 p2)), .second, .val (.long (v_bottom p0 p1 p2)), .second, .val (.long (2147483648 : Int64)), .second, .unset, .unset, .unset] [(.int (cmpL (v_bottom p0 p1 p2) (0 : Int64)))]) (fun _ k => XT.lcmp X0.here hx rfl (hb hby at_103) rfl k) ?_
      by_cases hc104_6 : (v_bottom p0 p1 p2) = (0 : Int64)
      ·
        refine Go.st (mkF m 107 #[.val (.long p0), .second, .val (.int p1), .val (.int p2), .val (.long (v_cost p0 p2)), .second, .val (.int (v_count p1 p2)), .val (.long (v_hi p0 p2)), .second, .val (.long (v_lo p0 p2)), .second, .val (.long (v_h p0 p1 p2)), .second, .val (.long (v_l p0 p1 p2)), .second, .val (.long (v_top p0 p1 p2)), .second, .val (.long (v_bottom p0 p1 p2)), .second, .val (.long (2147483648 : Int64)), .second, .unset, .unset, .unset] []) (fun _ k => XS.ifNo X0.here hx rfl (hb hby at_104) rfl (own_leT hc104_6).2 k) ?_
        refine Go.st (mkF m 108 #[.val (.long p0), .second, .val (.int p1), .val (.int p2), .val (.long (v_cost p0 p2)), .second, .val (.int (v_count p1 p2)), .val (.long (v_hi p0 p2)), .second, .val (.long (v_lo p0 p2)), .second, .val (.long (v_h p0 p1 p2)), .second, .val (.long (v_l p0 p1 p2)), .second, .val (.long (v_top p0 p1 p2)), .second, .val (.long (v_bottom p0 p1 p2)), .second, .val (.long (2147483648 : Int64)), .second, .unset, .unset, .unset] [(.int (1 : Int32))]) (fun _ k => XS.iconst X0.here hx rfl (hb hby at_107) k) ?_
        refine Go.st (mkF m 112 #[.val (.long p0), .second, .val (.int p1), .val (.int p2), .val (.long (v_cost p0 p2)), .second, .val (.int (v_count p1 p2)), .val (.long (v_hi p0 p2)), .second, .val (.long (v_lo p0 p2)), .second, .val (.long (v_h p0 p1 p2)), .second, .val (.long (v_l p0 p1 p2)), .second, .val (.long (v_top p0 p1 p2)), .second, .val (.long (v_bottom p0 p1 p2)), .second, .val (.long (2147483648 : Int64)), .second, .unset, .unset, .unset] [(.int (1 : Int32))]) (fun _ k => XS.goto X0.here hx rfl (pc0 := 108) (pc' := 112) rfl (hb hby at_108) (by decide) (by decide) k) ?_
        rw [show (v_within p0 p1 p2) = (1 : Int32) from by unfold v_within; rw [if_neg hc89_1, if_pos hc97_5, if_pos hc104_6]] at J89
        exact J89
      ·
        refine Go.st (mkF m 111 #[.val (.long p0), .second, .val (.int p1), .val (.int p2), .val (.long (v_cost p0 p2)), .second, .val (.int (v_count p1 p2)), .val (.long (v_hi p0 p2)), .second, .val (.long (v_lo p0 p2)), .second, .val (.long (v_h p0 p1 p2)), .second, .val (.long (v_l p0 p1 p2)), .second, .val (.long (v_top p0 p1 p2)), .second, .val (.long (v_bottom p0 p1 p2)), .second, .val (.long (2147483648 : Int64)), .second, .unset, .unset, .unset] []) (fun _ k => XS.ifYes X0.here hx rfl (pc0 := 104) (pc' := 111) rfl (hb hby at_104) rfl (own_leF hc104_6).2 (by decide) (by decide) k) ?_
        refine Go.st (mkF m 112 #[.val (.long p0), .second, .val (.int p1), .val (.int p2), .val (.long (v_cost p0 p2)), .second, .val (.int (v_count p1 p2)), .val (.long (v_hi p0 p2)), .second, .val (.long (v_lo p0 p2)), .second, .val (.long (v_h p0 p1 p2)), .second, .val (.long (v_l p0 p1 p2)), .second, .val (.long (v_top p0 p1 p2)), .second, .val (.long (v_bottom p0 p1 p2)), .second, .val (.long (2147483648 : Int64)), .second, .unset, .unset, .unset] [(.int (0 : Int32))]) (fun _ k => XS.iconst X0.here hx rfl (hb hby at_111) k) ?_
        rw [show (v_within p0 p1 p2) = (0 : Int32) from by unfold v_within; rw [if_neg hc89_1, if_pos hc97_5, if_neg hc104_6]] at J89
        exact J89
    ·
      refine Go.st (mkF m 111 #[.val (.long p0), .second, .val (.int p1), .val (.int p2), .val (.long (v_cost p0 p2)), .second, .val (.int (v_count p1 p2)), .val (.long (v_hi p0 p2)), .second, .val (.long (v_lo p0 p2)), .second, .val (.long (v_h p0 p1 p2)), .second, .val (.long (v_l p0 p1 p2)), .second, .val (.long (v_top p0 p1 p2)), .second, .val (.long (v_bottom p0 p1 p2)), .second, .val (.long (2147483648 : Int64)), .second, .unset, .unset, .unset] []) (fun _ k => XS.ifYes X0.here hx rfl (pc0 := 97) (pc' := 111) rfl (hb hby at_97) rfl (own_leF hc97_5).2 (by decide) (by decide) k) ?_
      refine Go.st (mkF m 112 #[.val (.long p0), .second, .val (.int p1), .val (.int p2), .val (.long (v_cost p0 p2)), .second, .val (.int (v_count p1 p2)), .val (.long (v_hi p0 p2)), .second, .val (.long (v_lo p0 p2)), .second, .val (.long (v_h p0 p1 p2)), .second, .val (.long (v_l p0 p1 p2)), .second, .val (.long (v_top p0 p1 p2)), .second, .val (.long (v_bottom p0 p1 p2)), .second, .val (.long (2147483648 : Int64)), .second, .unset, .unset, .unset] [(.int (0 : Int32))]) (fun _ k => XS.iconst X0.here hx rfl (hb hby at_111) k) ?_
      rw [show (v_within p0 p1 p2) = (0 : Int32) from by unfold v_within; rw [if_neg hc89_1, if_neg hc97_5]] at J89
      exact J89
theorem own_k64 : ∀ k : Fin 64, ((Int32.ofNat k.val).toInt64.toUInt64 &&& Int64.toUInt64 63).toNat = k.val := by decide +kernel
theorem own_k32 : ∀ k : Fin 32, ((Int32.ofNat k.val &&& 31).toUInt32).toNat = k.val := by decide +kernel
theorem own_p64 : ∀ k : Fin 64, 0 ≤ (2 : Int) ^ k.val := by decide +kernel
theorem own_p32 : ∀ k : Fin 32, 0 ≤ (2 : Int) ^ k.val := by decide +kernel
theorem own_cost (p0 : Int64) (p2 : Int32) : 0 ≤ (v_cost p0 p2).toInt ∧ (v_cost p0 p2).toInt ≤ 4611686018427387905 := by
  have e1 : (p0 &&& (9223372036854775807 : Int64)).toInt = p0.toInt % 2 ^ 63 := Jvm.Kit.i64_mask _ _ (k := 63) (by decide) (by decide)
  have e2 : (p2 &&& (63 : Int32)).toInt = p2.toInt % 2 ^ 6 := Jvm.Kit.i32_mask _ _ (k := 6) (by decide) (by decide)
  have e3 : (4611686018427387906 : Int64).toInt = 4611686018427387906 := by decide
  obtain ⟨k, hk⟩ := own_small 64 (p2 &&& (63 : Int32)) (by omega) (by omega) (by decide)
  have r := Jvm.Kit.i64_rem_nonneg (x := p0 &&& (9223372036854775807 : Int64)) (y := (4611686018427387906 : Int64)) (by omega)
  rw [e3] at r
  have v : (v_cost p0 p2).toInt = ((p0 &&& (9223372036854775807 : Int64)) - ((p0 &&& (9223372036854775807 : Int64)) / (4611686018427387906 : Int64)) * (4611686018427387906 : Int64)).toInt / 2 ^ k.val := by
    unfold v_cost; rw [hk]
    exact Jvm.Kit.i64_lushr (Jvm.Kit.i64_nonneg.mpr (by rw [r]; omega)) (own_k64 k) (by omega)
  rw [r] at v
  have h0 : 0 ≤ (p0 &&& (9223372036854775807 : Int64)).toInt % 4611686018427387906 := by omega
  have h1 := Int.ediv_nonneg h0 (own_p64 k)
  have h2 := Int.ediv_le_self ((2 : Int) ^ k.val) h0
  rw [v]
  omega
theorem own_count (p1 p2 : Int32) : 0 ≤ (v_count p1 p2).toInt := by
  have e1 : (p1 &&& (2147483647 : Int32)).toInt = p1.toInt % 2 ^ 31 := Jvm.Kit.i32_mask _ _ (k := 31) (by decide) (by decide)
  have e2 : (ushr p2 (6 : Int32) &&& (31 : Int32)).toInt = (ushr p2 (6 : Int32)).toInt % 2 ^ 5 := Jvm.Kit.i32_mask _ _ (k := 5) (by decide) (by decide)
  obtain ⟨k, hk⟩ := own_small 32 (ushr p2 (6 : Int32) &&& (31 : Int32)) (by omega) (by omega) (by decide)
  have v : (v_count p1 p2).toInt = (p1 &&& (2147483647 : Int32)).toInt / 2 ^ k.val := by
    unfold v_count; rw [hk]
    exact Jvm.Kit.i32_iushr (Jvm.Kit.i32_nonneg.mpr (by rw [e1]; omega)) (own_k32 k) (by omega)
  rw [v]
  exact Int.ediv_nonneg (by omega) (own_p32 k)
def own_top (a : Int64) (b : Int32) : Int64 := ((b.toInt64) * (ushrL a (31 : Int32))) + (ushrL ((b.toInt64) * (a &&& (2147483647 : Int64))) (31 : Int32))
def own_bot (a : Int64) (b : Int32) : Int64 := ((b.toInt64) * (a &&& (2147483647 : Int64))) &&& (2147483647 : Int64)
def own_exp (a : Int64) (b : Int32) : Int64 := (if (if (own_top a b) < (2147483648 : Int64) then (1 : Int32) else (if (own_top a b) = (2147483648 : Int64) then (if (own_bot a b) = (0 : Int64) then (1 : Int32) else (0 : Int32)) else (0 : Int32))) = (0 : Int32) then (4611686018427387905 : Int64) else (((own_top a b) <<< (((31 : Int32)).toInt64 &&& 63)) + (own_bot a b)))
theorem own_prod (a : Int64) (b : Int32) (ha : 0 ≤ a.toInt) (ha' : a.toInt ≤ 4611686018427387905) (hb : 0 ≤ b.toInt) :
    (own_top a b).toInt * 2147483648 + (own_bot a b).toInt = a.toInt * b.toInt ∧ 0 ≤ (own_bot a b).toInt ∧ (own_bot a b).toInt < 2147483648 ∧ 0 ≤ (own_top a b).toInt := by
  have hb' := b.toInt_lt
  have b64 : b.toInt64.toInt = b.toInt := Int32.toInt_toInt64 b
  have hi : (ushrL a (31 : Int32)).toInt = a.toInt / 2 ^ 31 := Jvm.Kit.i64_lushr (Jvm.Kit.i64_nonneg.mpr ha) (by decide) (by decide)
  have lo : (a &&& (2147483647 : Int64)).toInt = a.toInt % 2 ^ 31 := Jvm.Kit.i64_mask _ _ (k := 31) (by decide) (by decide)
  have dm : a.toInt = 2147483648 * (ushrL a (31 : Int32)).toInt + (a &&& (2147483647 : Int64)).toInt := by rw [hi, lo]; omega
  have h1 : 0 ≤ (ushrL a (31 : Int32)).toInt ∧ (ushrL a (31 : Int32)).toInt ≤ 2147483648 := by rw [hi]; omega
  have l1 : 0 ≤ (a &&& (2147483647 : Int64)).toInt ∧ (a &&& (2147483647 : Int64)).toInt < 2147483648 := by rw [lo]; omega
  have bh0 : 0 ≤ b.toInt * (ushrL a (31 : Int32)).toInt := Int.mul_nonneg hb h1.1
  have bl0 : 0 ≤ b.toInt * (a &&& (2147483647 : Int64)).toInt := Int.mul_nonneg hb l1.1
  have bh1 : b.toInt * (ushrL a (31 : Int32)).toInt ≤ 2147483647 * (ushrL a (31 : Int32)).toInt := Int.mul_le_mul_of_nonneg_right (by omega) h1.1
  have bl1 : b.toInt * (a &&& (2147483647 : Int64)).toInt ≤ 2147483647 * (a &&& (2147483647 : Int64)).toInt := Int.mul_le_mul_of_nonneg_right (by omega) l1.1
  have H : (b.toInt64 * (ushrL a (31 : Int32))).toInt = b.toInt * (ushrL a (31 : Int32)).toInt := by
    rw [Jvm.Kit.i64_mul (by rw [b64]; omega) (by rw [b64]; omega), b64]
  have L : (b.toInt64 * (a &&& (2147483647 : Int64))).toInt = b.toInt * (a &&& (2147483647 : Int64)).toInt := by
    rw [Jvm.Kit.i64_mul (by rw [b64]; omega) (by rw [b64]; omega), b64]
  have Ls : (ushrL (b.toInt64 * (a &&& (2147483647 : Int64))) (31 : Int32)).toInt = (b.toInt * (a &&& (2147483647 : Int64)).toInt) / 2 ^ 31 := by
    rw [← L]; exact Jvm.Kit.i64_lushr (Jvm.Kit.i64_nonneg.mpr (by rw [L]; exact bl0)) (by decide) (by decide)
  have bot : (own_bot a b).toInt = (b.toInt * (a &&& (2147483647 : Int64)).toInt) % 2 ^ 31 := by
    rw [← L]; exact Jvm.Kit.i64_mask _ _ (k := 31) (by decide) (by decide)
  have top : (own_top a b).toInt = b.toInt * (ushrL a (31 : Int32)).toInt + (b.toInt * (a &&& (2147483647 : Int64)).toInt) / 2 ^ 31 := by
    unfold own_top
    rw [Jvm.Kit.i64_add (by rw [H, Ls]; omega) (by rw [H, Ls]; omega), H, Ls]
  have ab : a.toInt * b.toInt = 2147483648 * (b.toInt * (ushrL a (31 : Int32)).toInt) + b.toInt * (a &&& (2147483647 : Int64)).toInt := by
    rw [Int.mul_comm a.toInt b.toInt]
    conv => lhs; rw [dm]
    rw [Int.mul_add, Int.mul_left_comm]
  rw [ab, bot, top]
  generalize b.toInt * (ushrL a (31 : Int32)).toInt = u at *
  generalize b.toInt * (a &&& (2147483647 : Int64)).toInt = w at *
  omega
theorem own_eq (a : Int64) (b : Int32) (ha : 0 ≤ a.toInt) (ha' : a.toInt ≤ 4611686018427387905) (hb : 0 ≤ b.toInt) : f_1 a b = own_exp a b := by
  obtain ⟨hp, hb0, hb1, ht⟩ := own_prod a b ha ha' hb
  have b64 : b.toInt64.toInt = b.toInt := Int32.toInt_toInt64 b
  have hb' := b.toInt_lt
  have e0 : (0 : Int64).toInt = 0 := by decide
  have e31 : (2147483648 : Int64).toInt = 2147483648 := by decide
  have e62 : (4611686018427387904 : Int64).toInt = 4611686018427387904 := by decide
  have dv : ((4611686018427387904 : Int64) / b.toInt64).toInt = 4611686018427387904 / b.toInt := by
    rw [Jvm.Kit.i64_div (by rw [e62]; omega), e62, b64, Int.tdiv_eq_ediv_of_nonneg (by decide)]
  unfold f_1 own_exp
  by_cases hle : a.toInt * b.toInt ≤ 4611686018427387904
  · have sum : ((own_top a b) <<< (((31 : Int32)).toInt64 &&& 63) + (own_bot a b)).toInt = a.toInt * b.toInt := by
      have s := Jvm.Kit.i64_shl (own_top a b) (((31 : Int32)).toInt64 &&& 63) (k := 31) (by decide) (by omega) (by omega)
      rw [Jvm.Kit.i64_add (by rw [s]; omega) (by rw [s]; omega), s]
      omega
    have w : (if (own_top a b) < (2147483648 : Int64) then (1 : Int32) else (if (own_top a b) = (2147483648 : Int64) then (if (own_bot a b) = (0 : Int64) then (1 : Int32) else (0 : Int32)) else (0 : Int32))) = 1 := by
      by_cases h1 : (own_top a b) < (2147483648 : Int64)
      · rw [if_pos h1]
      · have h1' : ¬ (own_top a b).toInt < (2147483648 : Int64).toInt := fun q => h1 (Int64.lt_iff_toInt_lt.mpr q)
        rw [e31] at h1'
        rw [if_neg h1, if_pos (Int64.toInt_inj.mp (by omega)), if_pos (Int64.toInt_inj.mp (by omega))]
    rw [w, if_neg (show ¬ (1 : Int32) = 0 by decide)]
    apply Int64.toInt_inj.mp
    rw [sum]
    by_cases hz : b = 0
    · subst hz; rw [if_pos rfl]; show (0 : Int64).toInt = a.toInt * (0 : Int32).toInt
      have : (0 : Int32).toInt = 0 := by decide
      rw [this, e0]; omega
    · have hz' : ¬ b.toInt = 0 := fun q => hz (Int32.toInt_inj.mp (by rw [q]; decide))
      rw [if_neg hz, if_neg (fun q => by
        have q' := Int64.lt_iff_toInt_lt.mp q
        rw [dv] at q'
        have := (Int.le_ediv_iff_mul_le (a := a.toInt) (b := 4611686018427387904) (show 0 < b.toInt by omega)).mpr hle
        omega)]
      have nn : 0 ≤ a.toInt * b.toInt := Int.mul_nonneg ha hb
      rw [Jvm.Kit.i64_mul (by rw [b64]; omega) (by rw [b64]; omega), b64]
  · have w : (if (own_top a b) < (2147483648 : Int64) then (1 : Int32) else (if (own_top a b) = (2147483648 : Int64) then (if (own_bot a b) = (0 : Int64) then (1 : Int32) else (0 : Int32)) else (0 : Int32))) = 0 := by
      have h1 : ¬ (own_top a b) < (2147483648 : Int64) := fun q => by
        have q' := Int64.lt_iff_toInt_lt.mp q
        rw [e31] at q'; omega
      rw [if_neg h1]
      by_cases h2 : (own_top a b) = (2147483648 : Int64)
      · rw [if_pos h2]
        have h2' : (own_top a b).toInt = 2147483648 := by rw [h2]; exact e31
        rw [if_neg (fun q => by
          have : (own_bot a b).toInt = 0 := by rw [q]; exact e0
          omega)]
      · rw [if_neg h2]
    rw [w, if_pos (show (0 : Int32) = 0 from rfl)]
    have hz : ¬ b = 0 := fun q => by
      subst q
      have : (0 : Int32).toInt = 0 := by decide
      rw [this] at hle; omega
    have hz' : ¬ b.toInt = 0 := fun q => hz (Int32.toInt_inj.mp (by rw [q]; decide))
    rw [if_neg hz, if_pos (Int64.lt_iff_toInt_lt.mpr (by
      rw [dv]
      have := (Int.le_ediv_iff_mul_le (a := a.toInt) (b := 4611686018427387904) (show 0 < b.toInt by omega))
      omega))]
theorem own_law (x : Int64) (y z : Int32) : f_0 x y z = 1 := by
  unfold f_0
  rw [if_pos (show f_1 (v_cost x z) (v_count y z) = v_expected x y z from own_eq _ _ (own_cost x z).1 (own_cost x z).2 (own_count y z))]
set_option maxRecDepth 65536 in
set_option maxHeartbeats 40000000 in
theorem comes_1 {Post : Tables → Env → Array Value → State → Outcome → State → Prop} (hpost : ∀ tb e args s v u, (limb_1_1.after args s (.returned v) u = true ∧ limb_1_2.after args s (.returned v) u = true ∧ True) → FrameEnd s (.returned v) u (Jvm.fieldLocs frame_1_writes args s ++ Jvm.arrayLocs frame_1_arrays args s ++ Jvm.staticLocs frame_1_statics s) 0 0 → Post tb e args s (.returned v) u) :
    ArmFor flags0 classFile x code maxLocals ret World_1 tables_1 room_1 Calls_1 rest_1 Pre_1 Post := by
  intro l hfl _ _ p e ha hc hk s m args below hf hA hF happ hP
  obtain ⟨hcalls, hrest, hpre⟩ := hP
  obtain ⟨-, -, -, hnamed, -, -, -, hat⟩ := (Spec.applies_iff hf).mp happ
  obtain ⟨hg, hn⟩ := and_e (Cond.before_iff.mp (show (Jvm.Cond.and given_1 narrow_1).before args s = true from hpre))
  obtain ⟨h1, g0⟩ := and_e hg
  obtain ⟨a0, g1⟩ := and_e g0
  obtain ⟨a1, g2⟩ := and_e g1
  obtain ⟨w0, w1, w2, rfl⟩ : ∃ w0 w1 w2 : Value, args = #[w0, w1, w2] := by
    have hs : args.size = 3 := by simpa [Cond.value, given_1] using h1
    obtain ⟨L⟩ := args
    match L, hs with
    | [w0, w1, w2], _ => exact ⟨w0, w1, w2, rfl⟩
  have hw := fun d (hd : d ∈ tables_1) => atoms_spec (ws := Jvm.Cond.code x code maxLocals ret :: tables_1) hat d (List.mem_cons_of_mem _ hd)
  obtain ⟨i0, e0⟩ := isL_v a0
  obtain rfl : w0 = (.long i0) := Option.some.inj e0
  obtain ⟨i1, e1⟩ := is_v a1
  obtain rfl : w1 = (.int i1) := Option.some.inj e1
  obtain ⟨i2, e2⟩ := is_v g2
  obtain rfl : w2 = (.int i2) := Option.some.inj e2
  obtain ⟨n, o, h1, h2, h3, _, L, rfl, ⟨rfl, N, _⟩, hq⟩ := rm_0 l s _ hw tables_1 i0 i1 i2 s.heap s.heap.size (Nat.le_refl _) p e ha hc hk s m _ below hf ((Spec.applies_iff_loose hf).mp happ).1 ⟨rfl, State.Warmed39.refl s, rfl⟩ trivial
  have ht : f_0 i0 i1 i2 = 1 := own_law i0 i1 i2
  rw [ht] at h3 hq
  refine ⟨n, _, h1, h2, h3, hpost _ _ _ _ _ _ ⟨Cond.after_iff.mpr rfl, Cond.after_iff.mpr (eq_i res_at (Term.int_eval (1)) rfl), trivial⟩ ⟨hq.1, hq.2.1, (hq.2.2.sift fun y hy => Or.inr (N y hy)).mono (by decide) (by decide)⟩⟩
theorem main_1_1 : Claimed_1_1 := comes_1 fun _ _ _ _ _ _ h hF => ⟨h.1, hF⟩
theorem main_1_2 : Claimed_1_2 := comes_1 fun _ _ _ _ _ _ h hF => ⟨h.2.1, hF⟩
end Jvm.Pilot.@@N@@
namespace Jvm.Pilot.@@N@@
open Jvm Jvm.ClassFile Sem Op Lib Jvm.Free Jvm.Stand Jvm.Pilot.@@N@@.Jvm.D
/-! MADE BY PROGRAM (witnessworld.py) out of the Statement's table words and the real class files: 9 classes; the members and pool entries that the words name. The judged class is class 1, her method 1. -/
namespace start1
open Jvm.ClassFile
def u (s : String) : CpInfo := .utf8 (stringToUtf16 s)
/-- a pool by its gaps: so many unusable entries, then the entry; so many at the end -/
def gap : Nat → List CpInfo → List CpInfo
  | 0, r => r
  | n + 1, r => .unusable :: gap n r
def poolList (es : List (Nat × CpInfo)) (last : Nat) : List CpInfo := es.foldr (fun e r => gap e.1 (e.2 :: r)) (gap last [])
def pool (es : List (Nat × CpInfo)) (last : Nat) : Array CpInfo := ⟨poolList es last⟩
def fileOf (pool : Array CpInfo) (this : Nat) (attrs : Array Attribute := #[]) (ms : Array MethodInfo := #[]) (fl : Nat := 33) (sup : Nat := 0) (ifs : Array Nat := #[]) (fds : Array FieldInfo := #[]) : ClassFile where
  minorVersion := 0
  majorVersion := 65
  constantPool := pool
  accessFlags := fl
  thisClass := this
  superClass := sup
  interfaces := ifs
  fields := fds
  methods := ms
  attributes := attrs
def plain (name : String) (sup : Option ClassId) : Class where
  name := name
  kind := .ordinary
  loader := none
  accessFlags := 33
  super := sup
  interfaces := #[]
  cf := none
  fields := #[]
  methods := #[]
  instanceTypes := #[]
  staticTypes := #[]
  resolved := #[]
  callSites := []
  init := .initialized
  statics := none
  mirror := none

def pool0 : Array CpInfo := pool [(5, u "<init>"), (0, u "()V"), (1, .class_ 10), (1, u "java/lang/Object")] 113

def k0m0 : Method := { name := "<init>", desc := "()V", sig := { parameters := [], returnType := none }, accessFlags := 1, code := none }
/-- java/lang/Object -/
def k0 : Class := { plain "java/lang/Object" none with
  accessFlags := 33
  interfaces := #[]
  cf := some (fileOf pool0 8 #[] #[{ accessFlags := 1, nameIndex := 5, descriptorIndex := 6, attributes := #[] }] 33 0 #[] #[])
  fields := #[]
  methods := #[k0m0]
  instanceTypes := #[]
  staticTypes := #[]
  resolved := Array.replicate 124 none
  statics := none }

def pool1 : Array CpInfo := pool [(2, .class_ 4), (1, u "java/lang/Object"), (0, u "<init>"), (0, u "()V"), (2, .long 9223372036854775807), (1, .class_ 12), (0, u "com/example/nearpath/nearpath/query/Costs"), (0, .long 4611686018427387906), (1, .integer 2147483647), (0, .long 2147483647), (1, .long 2147483648), (1, .long 4611686018427387905), (1, .methodref 11 23), (0, .nameAndType 24 25), (0, u "times"), (0, u "(JI)J"), (0, .class_ 27), (0, u "com/example/nearpath/nearpath/query/CostsTimesPinLaw"), (2, u "law"), (0, u "(JII)Z")] 3

def k1m0 : Method := { name := "<init>", desc := "()V", sig := { parameters := [], returnType := none }, accessFlags := 2, code := none }
def k1c1 : Code := { maxStack := 5, maxLocals := 24, code := code, exceptionTable := #[], attributes := #[] }
def k1m1 : Method := { name := "law", desc := "(JII)Z", sig := { parameters := [.long, .int, .int], returnType := some .boolean }, accessFlags := 9, code := some k1c1 }
/-- com/example/nearpath/nearpath/query/CostsTimesPinLaw -/
def k1 : Class := { plain "com/example/nearpath/nearpath/query/CostsTimesPinLaw" (some 0) with
  accessFlags := 49
  interfaces := #[]
  cf := some (fileOf pool1 26 #[] #[{ accessFlags := 2, nameIndex := 5, descriptorIndex := 6, attributes := #[] }, { accessFlags := 9, nameIndex := 30, descriptorIndex := 31, attributes := #[] }] 49 2 #[] #[])
  fields := #[]
  methods := #[k1m0, k1m1]
  instanceTypes := #[]
  staticTypes := #[]
  resolved := Array.replicate 35 none
  statics := none }

def pool2 : Array CpInfo := pool [(1, .class_ 2), (0, u "com/example/nearpath/nearpath/query/Costs"), (1, .class_ 6), (1, u "java/lang/Object"), (0, u "<init>"), (0, u "()V"), (0, .long 4611686018427387904), (1, .long 4611686018427387905), (58, u "LIMIT"), (0, u "J"), (1, u "OVER"), (5, u "times"), (0, u "(JI)J")] 35

def k2m0 : Method := { name := "<init>", desc := "()V", sig := { parameters := [], returnType := none }, accessFlags := 2, code := none }
def k2c1 : Code := { maxStack := 6, maxLocals := 3, code := prog_43_method_3_code, exceptionTable := #[], attributes := #[] }
def k2m1 : Method := { name := "times", desc := "(JI)J", sig := { parameters := [.long, .int], returnType := some .long }, accessFlags := 9, code := some k2c1 }
/-- com/example/nearpath/nearpath/query/Costs -/
def k2 : Class := { plain "com/example/nearpath/nearpath/query/Costs" (some 0) with
  accessFlags := 49
  interfaces := #[]
  cf := some (fileOf pool2 1 #[] #[{ accessFlags := 2, nameIndex := 7, descriptorIndex := 8, attributes := #[] }, { accessFlags := 9, nameIndex := 79, descriptorIndex := 80, attributes := #[] }] 49 4 #[] #[{ accessFlags := 25, nameIndex := 70, descriptorIndex := 71, attributes := #[] }, { accessFlags := 25, nameIndex := 73, descriptorIndex := 71, attributes := #[] }])
  fields := #[{ name := "LIMIT", type := .long, accessFlags := 25, slot := 0, constantValue := 0 }, { name := "OVER", type := .long, accessFlags := 25, slot := 1, constantValue := 0 }]
  methods := #[k2m0, k2m1]
  instanceTypes := #[]
  staticTypes := #[.long, .long]
  resolved := Array.replicate 116 none
  statics := none }

def pool3 : Array CpInfo := pool [(1, u "java/lang/Cloneable"), (0, .class_ 1), (0, u "java/lang/Object"), (0, .class_ 3)] 3

/-- java/lang/Cloneable -/
def k3 : Class := { plain "java/lang/Cloneable" (some 0) with
  accessFlags := 1537
  interfaces := #[]
  cf := some (fileOf pool3 2 #[] #[] 1537 4 #[] #[])
  fields := #[]
  methods := #[]
  instanceTypes := #[]
  staticTypes := #[]
  resolved := Array.replicate 8 none
  statics := none }

def pool4 : Array CpInfo := pool [(1, u "java/io/Serializable"), (0, .class_ 1), (0, u "java/lang/Object"), (0, .class_ 3)] 3

/-- java/io/Serializable -/
def k4 : Class := { plain "java/io/Serializable" (some 0) with
  accessFlags := 1537
  interfaces := #[]
  cf := some (fileOf pool4 2 #[] #[] 1537 4 #[] #[])
  fields := #[]
  methods := #[]
  instanceTypes := #[]
  staticTypes := #[]
  resolved := Array.replicate 8 none
  statics := none }

/-- the primitive byte -/
def k5 : Class := { plain "byte" none with kind := .primitive 'B', accessFlags := 0x411 }
/-- [B -/
def k6 : Class := { plain "[B" (some 0) with kind := .array 5 .byte, interfaces := #[3, 4], accessFlags := 1041 }

/-- the primitive int -/
def k7 : Class := { plain "int" none with kind := .primitive 'I', accessFlags := 0x411 }
/-- [I -/
def k8 : Class := { plain "[I" (some 0) with kind := .array 7 .int, interfaces := #[3, 4], accessFlags := 1041 }

def heap : Heap := #[]
def classes : Array Class := #[k0, k1, k2, k3, k4, k5, k6, k7, k8]
def interned : List (Array UInt16 × Addr) := []
def slotsUsed : Nat := 0
def theMethod : MethodId := ⟨1, 1⟩
def args0 : Array Value := #[.long 5, .int 300, .int 7]
def aboutOver (below : List Frame) : State where
  vm := { classes := classes, interned := interned.toArray }
  heap := heap
  slotsUsed := slotsUsed
  threads := #[{ frames := .invoking theMethod args0 :: below }]
def below0 : List Frame := [.native { method := ⟨0, 0⟩, args := #[] }]
def about1 : State := aboutOver below0
def p0 : Program := .bare "" "" ""
def e0 : Env := launch0.env 0 0 0
theorem w_frames : about1.frames = Frame.invoking theMethod args0 :: below0 := rfl
set_option maxRecDepth 65536 in
theorem w_args : argsFit about1.vm theMethod args0 = true := by decide +kernel
set_option maxRecDepth 65536 in
theorem w_heap : heapFits about1 = true := by decide +kernel
set_option maxRecDepth 65536 in
theorem w_runnable : about1.curStatus? = some .runnable := by decide +kernel
set_option maxRecDepth 65536 in
theorem w_alone : about1.alone = true := by decide +kernel
set_option maxRecDepth 65536 in
theorem w_named : about1.methodNamed? x = some theMethod := by decide +kernel
set_option maxRecDepth 65536 in
theorem w_hears : about1.hears theMethod below0 = true := by decide +kernel
set_option maxRecDepth 65536 in
theorem w_ripe : about1.ripe theMethod args0 below0 = true := by decide +kernel
theorem w_running : about1.status = .running := rfl
set_option maxRecDepth 65536 in
theorem w_room : about1.hasRoom e0.platform room_1 = true :=
  launch0.hasRoom_least _ room_1 (by decide +kernel) (by decide +kernel) (by decide +kernel) (by decide +kernel) (by decide +kernel) (by decide +kernel)
theorem allAtoms_all (ts : List Jvm.Cond) (a : Array Jvm.Value) (st : Jvm.State) : (allAtoms ts).before a st = ts.all (fun c => c.before a st) := by
  induction ts with
  | nil => rfl
  | cons c t ih =>
    show (Jvm.Cond.and c (allAtoms t)).before a st = _
    rw [Jvm.Cond.before_and, ih, List.all_cons]
def words1 : List Jvm.Cond := Jvm.Cond.code x code maxLocals ret :: tables_1
/-- a 'code' word, met by the world's own term for the bytes: nothing is compared byte by byte -/
theorem code_word {y : MethodName} {bytes : ByteArray} {mx : Nat} {rt : Option FieldType} {a : Array Value} {s : State} {m : MethodId} {meth : Method} {c : Code} (h1 : s.methodNamed? y = some m) (h2 : s.vm.method? m = some meth) (h3 : meth.code = some c) (h4 : c.code = bytes)
    (h5 : (c.maxLocals == mx && c.exceptionTable.isEmpty && decide (c.maxStack ≤ mostOperands) && decide (meth.sig.returnType = rt) && !meth.locks && decide (parseMethodDescriptor y.desc = some meth.sig)) = true) : (Jvm.Cond.code y bytes mx rt).before a s = true := by
  simp only [Bool.and_eq_true, beq_iff_eq, Bool.not_eq_true', decide_eq_true_eq] at h5
  obtain ⟨⟨⟨⟨⟨g1, g2⟩, g3⟩, g4⟩, g5⟩, g6⟩ := h5
  simp [Cond.before, Cond.holds, Cond.value, h1, h2, h3, h4, g1, g2, g3, g4, g5, g6]
def isCode : Jvm.Cond → Bool
  | .code _ _ _ _ => true
  | _ => false
theorem all_split {L : List Jvm.Cond} {P : Jvm.Cond → Bool} (h1 : L.all (fun c => isCode c || P c) = true) (h2 : ∀ c ∈ L.filter isCode, P c = true) : L.all P = true := by
  refine List.all_eq_true.mpr fun c hc => ?_
  have h := List.all_eq_true.mp h1 c hc
  rcases Bool.eq_false_or_eq_true (isCode c) with hi | hi
  · exact h2 c (List.mem_filter.mpr ⟨hc, hi⟩)
  · simpa [hi] using h
set_option maxRecDepth 65536 in
theorem w_c0 : (Jvm.Cond.code x code maxLocals ret).before args0 about1 = true := code_word (m := ⟨1, 1⟩) (meth := k1m1) (c := k1c1) (by decide +kernel) rfl rfl rfl (by decide +kernel)
set_option maxRecDepth 65536 in
theorem w_c1 : (Jvm.Cond.code ({ cls := "com/example/nearpath/nearpath/query/Costs", name := "times", desc := "(JI)J" } : Jvm.MethodName) prog_43_method_3_code (3 : Nat) (Option.some Jvm.ClassFile.FieldType.long)).before args0 about1 = true := code_word (m := ⟨2, 1⟩) (meth := k2m1) (c := k2c1) (by decide +kernel) rfl rfl rfl (by decide +kernel)
def codes1 : List Jvm.Cond := [Jvm.Cond.code x code maxLocals ret, Jvm.Cond.code ({ cls := "com/example/nearpath/nearpath/query/Costs", name := "times", desc := "(JI)J" } : Jvm.MethodName) prog_43_method_3_code (3 : Nat) (Option.some Jvm.ClassFile.FieldType.long)]
set_option maxRecDepth 65536 in
theorem codes_eq : words1.filter isCode = codes1 := rfl
theorem w_codes : ∀ c ∈ words1.filter isCode, c.before args0 about1 = true := by
  rw [codes_eq]
  intro c hc
  simp only [codes1, List.mem_cons, List.not_mem_nil, or_false] at hc
  rcases hc with rfl | rfl
  · exact w_c0
  · exact w_c1
set_option maxRecDepth 65536 in
theorem w_t1 : words1.all (fun c => isCode c || c.before args0 about1) = true := by decide +kernel
theorem w_tables : (allAtoms (Jvm.Cond.code x code maxLocals ret :: tables_1)).before args0 about1 = true := by
  rw [allAtoms_all]
  show words1.all (fun c => c.before args0 about1) = true
  refine all_split ?_ w_codes
  rw [w_t1]
set_option maxRecDepth 65536 in
theorem w_case : (Jvm.Cond.and given_1 narrow_1).before args0 about1 = true := by decide +kernel
theorem w_applies : (headSpec (Jvm.Cond.code x code maxLocals ret :: tables_1) room_1).applies x e0.platform about1 = true :=
  (Spec.applies_iff w_frames).mpr ⟨w_running, w_runnable, w_alone, w_named, w_hears, w_ripe, w_room, w_tables⟩
theorem atStart : AtStart classFile x code maxLocals ret World_1 tables_1 room_1 Calls_1 rest_1 Pre_1 launch0 p0 e0 about1 theMethod args0 below0 :=
  ⟨lists_1, trivial, launch0.admits_env _ _ _, launch0.least_env, fairChoices_fair.cas, fairChoices_fair.clock, w_frames, w_args, w_heap, w_applies, trivial, trivial, w_case⟩
end start1
theorem witness_1 : WitnessClaimed_1 := ⟨start1.p0, start1.e0, start1.about1, start1.theMethod, start1.args0, start1.below0, start1.atStart⟩
end Jvm.Pilot.@@N@@
