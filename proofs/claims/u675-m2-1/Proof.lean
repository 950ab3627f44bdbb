import JvmDerived
import JvmDerived.Pilot.@@N@@Statement
import JvmDerived.Pilot.@@N@@Code
set_option linter.unusedVariables false
set_option linter.unusedSimpArgs false
namespace Jvm.RoadKit
open Sem ClassFile Op Lib Jvm.Stand Jvm.Free Jvm.LawKit
section New
variable {p : Program} {l : Launch} {e : Env} {R : Room} {s : State} {m : MethodId} {args : Array Value} {below : List Frame} {meth : Method} {c : Code} {T : State} {locs : List Loc} {cells slots : Nat}
theorem retI (X : Stand p l e R s m args below meth c T locs cells slots) (hx : p.tables.exec = Jvm.exec) {pc : Nat} {Ls : Array Slot} {z : Int32} {rest : List Value} (hret : meth.sig.returnType = some .int) (hd : decode c.code pc = .ok (.ireturn, 1)) {fs : List Frame}
    (hl : ∀ (f : JFrame) (acts : List Action), f.method = m → f.locked = none → f.entered = [] → (doReturn e (T.setTop f) acts (some (.int z))).1 = T.setFrames fs) : Steps p.tables e below (T.setTop (mkF m pc Ls (.int z :: rest))) (T.setFrames fs) := by
  have hm' : T.vm.method? m = some meth := X.method'
  have hn : narrow .int (.int z) = .int z := rfl
  show Steps p.tables e below (T.setTop { method := m, pc := pc, locals := Ls, stack := _ :: rest, locked := none }) _
  jvm_step X.here [X.here.top, hx, hd, hm', hret, hn]
  first | (intro acts; rw [hl _ acts rfl rfl rfl]) | rw [hl _ _ rfl rfl rfl]
  exact Steps.refl _
end New
end Jvm.RoadKit
namespace Jvm.Pilot.@@N@@
open Jvm Jvm.ClassFile Sem Op Lib Jvm.Free Jvm.Stand Jvm.LawKit Jvm.RoadKit Bundle Jvm.Pilot.@@N@@.Jvm.D
/-- what is left of a run from the state A: it comes to an end, returns, and leaves what Q says -/
def OwnG (tb : Tables) (e : Env) (below : List Frame) (s : State) (R : Room) (Q : Option Value → Heap → List Loc → Prop) (A : State) : Prop :=
  ∃ s₂ o, Steps tb e below A s₂ ∧ s₂.status = .running ∧ Ended s₂ below o ∧ ∃ v L, o = .returned v ∧ Q v s₂.heap L ∧ FrameEnd s o s₂ L R.cells R.slots
theorem OwnG.go {tb : Tables} {e : Env} {below : List Frame} {s : State} {R : Room} {Q : Option Value → Heap → List Loc → Prop} {A B : State} (st : ∀ t, Steps tb e below A t → Steps tb e below B t) (h : OwnG tb e below s R Q A) : OwnG tb e below s R Q B := by
  obtain ⟨s₂, o, h1, h2⟩ := h
  exact ⟨s₂, o, st _ h1, h2⟩
theorem own_stand {p : Program} {l : Launch} {e : Env} {R : Room} {s : State} {m : MethodId} {args : Array Value} {below : List Frame} {meth : Method} {c : Code} {T : State} {locs : List Loc} {k n k' n' : Nat} (X : Stand p l e R s m args below meth c T locs k n) (h1 : k ≤ k') (h2 : n ≤ n') : Stand p l e R s m args below meth c T locs k' n' :=
  { X with same := X.same.mono h1 h2 }
/-- what isValidLength answers -/
def own_valid (n : Int32) : Int32 := if n = 0 then 1 else if n < 5 then 0 else if 16 < n then 0 else 1
/-- what the law expects -/
def own_exp (n : Int32) : Int32 := if n < 0 then 0 else if n < 32 then (if ((((131041 : Int32).toUInt32 >>> (n &&& 31).toUInt32).toInt32) &&& (1 : Int32)) = 0 then 0 else 1) else 0
theorem own_small {n : Int32} (h0 : ¬ n < 0) (h1 : n < 32) : ∃ k : Fin 32, n = Int32.ofNat k.val := by
  rw [Int32.lt_iff_toInt_lt] at h0 h1
  have e0 : (0 : Int32).toInt = 0 := rfl
  have e1 : (32 : Int32).toInt = 32 := rfl
  refine ⟨⟨n.toInt.toNat, by omega⟩, ?_⟩
  apply Int32.toInt_inj.mp
  rw [Int32.toInt_ofNat_of_lt (by show n.toInt.toNat < _; omega)]
  show n.toInt = (n.toInt.toNat : Int)
  omega
theorem own_fin : ∀ k : Fin 32, own_valid (Int32.ofNat k.val) = own_exp (Int32.ofNat k.val) := by decide +kernel
theorem own_law (n : Int32) : own_valid n = own_exp n := by
  by_cases h0 : n < 0
  · have a1 : ¬ n = 0 := fun q => by subst q; exact absurd h0 (by decide)
    have a2 : n < 5 := by
      rw [Int32.lt_iff_toInt_lt] at h0 ⊢
      have e0 : (0 : Int32).toInt = 0 := rfl
      have e1 : (5 : Int32).toInt = 5 := rfl
      omega
    simp [own_valid, own_exp, h0, a1, a2]
  · by_cases h1 : n < 32
    · obtain ⟨k, rfl⟩ := own_small h0 h1
      exact own_fin k
    · have e0 : (0 : Int32).toInt = 0 := rfl
      have e1 : (32 : Int32).toInt = 32 := rfl
      have e2 : (16 : Int32).toInt = 16 := rfl
      have e3 : (5 : Int32).toInt = 5 := rfl
      have a1 : ¬ n = 0 := fun q => by subst q; exact absurd (by decide : (0 : Int32) < 32) h1
      have a2 : ¬ n < 5 := by rw [Int32.lt_iff_toInt_lt] at h1 ⊢; omega
      have a3 : 16 < n := by rw [Int32.lt_iff_toInt_lt] at h1 ⊢; omega
      simp [own_valid, own_exp, h0, h1, a1, a2, a3]
theorem pd_1 : parseMethodDescriptor "(I)Z" = some ⟨[.int], some .boolean⟩ := by decide +kernel
theorem d1_0 : decode prog_67_method_3_code 0 = .ok (.iload_n 0, 1) := by decide +kernel
theorem d1_1 : decode prog_67_method_3_code 1 = .ok (.ifCond .eq 14, 3) := by decide +kernel
theorem d1_4 : decode prog_67_method_3_code 4 = .ok (.iload_n 0, 1) := by decide +kernel
theorem d1_5 : decode prog_67_method_3_code 5 = .ok (.iconst 5, 1) := by decide +kernel
theorem d1_6 : decode prog_67_method_3_code 6 = .ok (.if_icmp .lt 13, 3) := by decide +kernel
theorem d1_9 : decode prog_67_method_3_code 9 = .ok (.iload_n 0, 1) := by decide +kernel
theorem d1_10 : decode prog_67_method_3_code 10 = .ok (.bipush 16, 2) := by decide +kernel
theorem d1_12 : decode prog_67_method_3_code 12 = .ok (.if_icmp .gt 7, 3) := by decide +kernel
theorem d1_15 : decode prog_67_method_3_code 15 = .ok (.iconst 1, 1) := by decide +kernel
theorem d1_16 : decode prog_67_method_3_code 16 = .ok (.goto 4, 3) := by decide +kernel
theorem d1_19 : decode prog_67_method_3_code 19 = .ok (.iconst 0, 1) := by decide +kernel
theorem d1_20 : decode prog_67_method_3_code 20 = .ok (.ireturn, 1) := by decide +kernel
theorem pn_1 : plainName "com/example/ruledo/ruledo/rules/AidReference" = true := by first | (simp [plainName, overriddenIn]; done) | decide +kernel
theorem ef_1 (m : MethodId) (x0 : Int32) : entryFrame m #[(.int x0)] 1 = mkF m 0 #[.val (.int x0)] [] := by first | (simp [entryFrame, mkF, argsToLocals, Value.category]; done) | rfl
def Q1 (Z : State) (p1 : Int32) (h0 : Heap) (n0 : Nat) (v : Option Value) (h : Heap) (L : List Loc) : Prop := v = some (.int (own_valid p1)) ∧ Fr n0 L ∧ h = h0
set_option maxRecDepth 65536 in
set_option maxHeartbeats 40000000 in
theorem rm1 (l : Launch) (Z : State) (a0 : Array Value) (hw : ∀ d ∈ tables_1, d.before a0 Z = true) (ws : List Jvm.Cond) (p1 : Int32) (h0 : Heap) (n0 : Nat) (Z0 : n0 ≤ h0.size)  :
    MetFree l (⟨"com/example/ruledo/ruledo/rules/AidReference", "isValidLength", "(I)Z"⟩ : MethodName) (head1 (Jvm.Cond.code (⟨"com/example/ruledo/ruledo/rules/AidReference", "isValidLength", "(I)Z"⟩ : MethodName) prog_67_method_3_code 1 (some .boolean) :: ws) ({ frames := 0, cells := 0, slots := 0, locals := 0 } : Room)) (fun a U => a = #[(.int p1)] ∧ Z.Warmed39 U.vm ∧ U.heap = h0) (fun _ _ _ _ _ => True) (fun _ U o U' => ∃ v L, o = .returned v ∧ (Q1 Z p1 h0 n0) v U'.heap L ∧ FrameEnd U o U' L ({ frames := 0, cells := 0, slots := 0, locals := 0 } : Room).cells ({ frames := 0, cells := 0, slots := 0, locals := 0 } : Room).slots) := by
  refine MetFree.of_bodySF (plainFor_of_name pn_1) hisR ?_
  intro p e s m args below meth c s₁ Bd hml0 hP hK
  obtain ⟨rfl, hZ, hh⟩ := hP
  have hx := Bd.exec
  have hby := Bd.bytes
  have hml : c.maxLocals = 1 := hml0
  have hown : s.vm.findClass "com/example/ruledo/ruledo/rules/AidReference" = some m.cls := findClass_of_methodNamed Bd.named
  have hnm := (name_of_methodNamed Bd.named Bd.method).1
  have X0 : Stand p l e ({ frames := 0, cells := 0, slots := 0, locals := 0 } : Room) s m #[(.int p1)] below meth c s₁ [] 0 0 := Stand.of_body Bd
  have e0 : s₁.heap = h0 := by rw [← hh, Bd.state]; rfl
  have N0 := Fr.nil n0
  show OwnG p.tables e below s ({ frames := 0, cells := 0, slots := 0, locals := 0 } : Room) (Q1 Z p1 h0 n0) (s₁.setTop (entryFrame m #[(.int p1)] 1))
  refine OwnG.go (fun tz kz => castTop (ef_1 m p1) kz) ?_
  show OwnG _ _ _ _ _ _ (s₁.setTop (mkF m 0 #[.val (.int p1)] []))
  refine OwnG.go (fun _ kz => XS.iloadN X0.here hx rfl (hb hby d1_0) rfl kz) ?_
  show OwnG _ _ _ _ _ _ (s₁.setTop (mkF m 1 #[.val (.int p1)] [(.int p1)]))
  by_cases c1 : p1 = (0 : Int32)
  · have _u := ()
    refine OwnG.go (fun _ kz => XS.ifYes X0.here hx rfl (pc0 := 1) (pc' := 15) rfl (hb hby d1_1) rfl ((if0 _ _).trans (teq c1).1) (by decide) (by decide) kz) ?_
    show OwnG _ _ _ _ _ _ (s₁.setTop (mkF m 15 #[.val (.int p1)] []))
    refine OwnG.go (fun _ kz => XS.iconst X0.here hx rfl (hb hby d1_15) kz) ?_
    show OwnG _ _ _ _ _ _ (s₁.setTop (mkF m 16 #[.val (.int p1)] [(.int (1 : Int32))]))
    refine OwnG.go (fun _ kz => XS.goto X0.here hx rfl (pc0 := 16) (pc' := 20) rfl (hb hby d1_16) (by decide) (by decide) kz) ?_
    show OwnG _ _ _ _ _ _ (s₁.setTop (mkF m 20 #[.val (.int p1)] [(.int (1 : Int32))]))
    obtain ⟨fs, hr, hrun, hended, hW, hsame⟩ := X0.leave (v := some (.int (1 : Int32))) (fun h => by rw [Bd.returns] at h; cases h)
    refine ⟨_, _, retN X0 hx (t := .boolean) Bd.returns (by simp) (hb hby d1_20) hr, hrun, hended, _, _, rfl, ?_, ⟨_, rfl⟩, hW, hsame.mono (by decide) (by decide)⟩
    show (Q1 Z p1 h0 n0) _ s₁.heap _
    rw [e0]
    exact ⟨by simp [own_valid, c1], N0, rfl⟩
  · have _u := ()
    refine OwnG.go (fun _ kz => XS.ifNo X0.here hx rfl (hb hby d1_1) rfl ((if0 _ _).trans (feq c1).1) kz) ?_
    show OwnG _ _ _ _ _ _ (s₁.setTop (mkF m 4 #[.val (.int p1)] []))
    refine OwnG.go (fun _ kz => XS.iloadN X0.here hx rfl (hb hby d1_4) rfl kz) ?_
    show OwnG _ _ _ _ _ _ (s₁.setTop (mkF m 5 #[.val (.int p1)] [(.int p1)]))
    refine OwnG.go (fun _ kz => XS.iconst X0.here hx rfl (hb hby d1_5) kz) ?_
    show OwnG _ _ _ _ _ _ (s₁.setTop (mkF m 6 #[.val (.int p1)] [(.int (5 : Int32)), (.int p1)]))
    by_cases c2 : p1 < (5 : Int32)
    · have _u := ()
      refine OwnG.go (fun _ kz => XS.icmpYes X0.here hx rfl (pc0 := 6) (pc' := 19) rfl (hb hby d1_6) rfl (tlt c2).1 (by decide) (by decide) kz) ?_
      show OwnG _ _ _ _ _ _ (s₁.setTop (mkF m 19 #[.val (.int p1)] []))
      refine OwnG.go (fun _ kz => XS.iconst X0.here hx rfl (hb hby d1_19) kz) ?_
      show OwnG _ _ _ _ _ _ (s₁.setTop (mkF m 20 #[.val (.int p1)] [(.int (0 : Int32))]))
      obtain ⟨fs, hr, hrun, hended, hW, hsame⟩ := X0.leave (v := some (.int (0 : Int32))) (fun h => by rw [Bd.returns] at h; cases h)
      refine ⟨_, _, retN X0 hx (t := .boolean) Bd.returns (by simp) (hb hby d1_20) hr, hrun, hended, _, _, rfl, ?_, ⟨_, rfl⟩, hW, hsame.mono (by decide) (by decide)⟩
      show (Q1 Z p1 h0 n0) _ s₁.heap _
      rw [e0]
      exact ⟨by simp [own_valid, c1, c2], N0, rfl⟩
    · have _u := ()
      refine OwnG.go (fun _ kz => XS.icmpNo X0.here hx rfl (hb hby d1_6) rfl (flt c2).1 kz) ?_
      show OwnG _ _ _ _ _ _ (s₁.setTop (mkF m 9 #[.val (.int p1)] []))
      refine OwnG.go (fun _ kz => XS.iloadN X0.here hx rfl (hb hby d1_9) rfl kz) ?_
      show OwnG _ _ _ _ _ _ (s₁.setTop (mkF m 10 #[.val (.int p1)] [(.int p1)]))
      refine OwnG.go (fun _ kz => XS.bipush X0.here hx rfl (hb hby d1_10) kz) ?_
      show OwnG _ _ _ _ _ _ (s₁.setTop (mkF m 12 #[.val (.int p1)] [(.int (16 : Int32)), (.int p1)]))
      by_cases c3 : (16 : Int32) < p1
      · have _u := ()
        refine OwnG.go (fun _ kz => XS.icmpYes X0.here hx rfl (pc0 := 12) (pc' := 19) rfl (hb hby d1_12) rfl (tlt c3).2.2.1 (by decide) (by decide) kz) ?_
        show OwnG _ _ _ _ _ _ (s₁.setTop (mkF m 19 #[.val (.int p1)] []))
        refine OwnG.go (fun _ kz => XS.iconst X0.here hx rfl (hb hby d1_19) kz) ?_
        show OwnG _ _ _ _ _ _ (s₁.setTop (mkF m 20 #[.val (.int p1)] [(.int (0 : Int32))]))
        obtain ⟨fs, hr, hrun, hended, hW, hsame⟩ := X0.leave (v := some (.int (0 : Int32))) (fun h => by rw [Bd.returns] at h; cases h)
        refine ⟨_, _, retN X0 hx (t := .boolean) Bd.returns (by simp) (hb hby d1_20) hr, hrun, hended, _, _, rfl, ?_, ⟨_, rfl⟩, hW, hsame.mono (by decide) (by decide)⟩
        show (Q1 Z p1 h0 n0) _ s₁.heap _
        rw [e0]
        exact ⟨by simp [own_valid, c1, c2, c3], N0, rfl⟩
      · have _u := ()
        refine OwnG.go (fun _ kz => XS.icmpNo X0.here hx rfl (hb hby d1_12) rfl (flt c3).2.2.1 kz) ?_
        show OwnG _ _ _ _ _ _ (s₁.setTop (mkF m 15 #[.val (.int p1)] []))
        refine OwnG.go (fun _ kz => XS.iconst X0.here hx rfl (hb hby d1_15) kz) ?_
        show OwnG _ _ _ _ _ _ (s₁.setTop (mkF m 16 #[.val (.int p1)] [(.int (1 : Int32))]))
        refine OwnG.go (fun _ kz => XS.goto X0.here hx rfl (pc0 := 16) (pc' := 20) rfl (hb hby d1_16) (by decide) (by decide) kz) ?_
        show OwnG _ _ _ _ _ _ (s₁.setTop (mkF m 20 #[.val (.int p1)] [(.int (1 : Int32))]))
        obtain ⟨fs, hr, hrun, hended, hW, hsame⟩ := X0.leave (v := some (.int (1 : Int32))) (fun h => by rw [Bd.returns] at h; cases h)
        refine ⟨_, _, retN X0 hx (t := .boolean) Bd.returns (by simp) (hb hby d1_20) hr, hrun, hended, _, _, rfl, ?_, ⟨_, rfl⟩, hW, hsame.mono (by decide) (by decide)⟩
        show (Q1 Z p1 h0 n0) _ s₁.heap _
        rw [e0]
        exact ⟨by simp [own_valid, c1, c2, c3], N0, rfl⟩
theorem pn_0 : plainName "com/example/ruledo/ruledo/rules/AidReferenceIsValidLengthPinLaw" = true := by first | (simp [plainName, overriddenIn]; done) | decide +kernel
theorem ef_0 (m : MethodId) (x0 : Int32) : entryFrame m #[(.int x0)] maxLocals = mkF m 0 #[.val (.int x0), .unset] [] := by first | (simp [entryFrame, mkF, argsToLocals, Value.category, maxLocals]; done) | rfl
def Q0 (Z : State) (p1 : Int32) (h0 : Heap) (n0 : Nat) (v : Option Value) (h : Heap) (L : List Loc) : Prop := v = some (.int (1 : Int32)) ∧ Fr n0 L
set_option maxRecDepth 65536 in
set_option maxHeartbeats 40000000 in
theorem rm0 (l : Launch) (Z : State) (a0 : Array Value) (hw : ∀ d ∈ tables_1, d.before a0 Z = true) (ws : List Jvm.Cond) (p1 : Int32) (h0 : Heap) (n0 : Nat) (Z0 : n0 ≤ h0.size)  :
    MetFree l x (head1 (Jvm.Cond.code x code maxLocals ret :: ws) room_1) (fun a U => a = #[(.int p1)] ∧ Z.Warmed39 U.vm ∧ U.heap = h0) (fun _ _ _ _ _ => True) (fun _ U o U' => ∃ v L, o = .returned v ∧ (Q0 Z p1 h0 n0) v U'.heap L ∧ FrameEnd U o U' L room_1.cells room_1.slots) := by
  refine MetFree.of_bodySF (plainFor_of_name pn_0) hisR ?_
  intro p e s m args below meth c s₁ Bd hml0 hP hK
  obtain ⟨rfl, hZ, hh⟩ := hP
  have hx := Bd.exec
  have hby := Bd.bytes
  have hml : c.maxLocals = 2 := hml0
  have hown : s.vm.findClass "com/example/ruledo/ruledo/rules/AidReferenceIsValidLengthPinLaw" = some m.cls := findClass_of_methodNamed Bd.named
  have hnm := (name_of_methodNamed Bd.named Bd.method).1
  have X0 : Stand p l e room_1 s m #[(.int p1)] below meth c s₁ [] 0 0 := Stand.of_body Bd
  have e0 : s₁.heap = h0 := by rw [← hh, Bd.state]; rfl
  have N0 := Fr.nil n0
  have B25 : ∀ b : Int32, b = own_exp p1 → OwnG p.tables e below s room_1 (Q0 Z p1 h0 n0) (s₁.setTop (mkF m 25 #[.val (.int p1), .val (.int b)] [])) := by
    intro b hb1
    refine OwnG.go (fun _ kz => XS.iloadN X0.here hx rfl (hb hby at_25) rfl kz) ?_
    show OwnG _ _ _ _ _ _ (s₁.setTop (mkF m 26 #[.val (.int p1), .val (.int b)] [(.int p1)]))
    obtain ⟨_, _, ⟨T1, L1, k1, n1⟩, -, X1, ⟨Lc1, hQ1, l1, y1, z1⟩, st1⟩ := Jvm.LawKit.callS X0 hx (y := (⟨"com/example/ruledo/ruledo/rules/AidReference", "isValidLength", "(I)Z"⟩ : MethodName)) hown (mvT hZ (hw _ (List.mem_of_getElem? (i := 1) rfl))) (mvT hZ (hw _ (List.mem_of_getElem? (i := 2) rfl))) (mvT hZ (hw _ (List.mem_of_getElem? (i := 3) rfl))) (mvT hZ (hw _ (List.mem_of_getElem? (i := 4) rfl))) (by decide) (backOf (W := 0) (rm1 l Z a0 hw [] p1 h0 n0 Z0) hZ (hw _ (List.mem_of_getElem? (i := 4) rfl)) (hw _ (List.mem_of_getElem? (i := 3) rfl)) (by decide) (by decide)) (g := (mkF m 26 #[.val (.int p1), .val (.int b)] [(.int p1)])) rfl (by rw [hml]; rfl) (argsL := [(.int p1)]) (rest := []) (lenOf pd_1 rfl) rfl (by show 2 * 0 + _ ≤ _; exact Nat.le_of_eq rfl) (hb hby at_26) (fun _ _ => ⟨rfl, e0, (by decide : 0 + 0 ≤ _), (by decide : 0 + 0 ≤ _)⟩)
    dsimp only [Pt.U, Pt.locs, Pt.cells, Pt.slots] at X1 l1 y1 z1 st1 hQ1
    subst l1 y1 z1
    obtain ⟨rfl, N1q, hh1⟩ := hQ1
    have N1 := Fr.app N0 N1q
    refine OwnG.go (fun tz kz => st1 tz kz) ?_
    show OwnG _ _ _ _ _ _ (T1.setTop (mkF m 29 #[.val (.int p1), .val (.int b)] [(.int (own_valid p1))]))
    refine OwnG.go (fun _ kz => XS.iloadN X1.here hx rfl (hb hby at_29) rfl kz) ?_
    show OwnG _ _ _ _ _ _ (T1.setTop (mkF m 30 #[.val (.int p1), .val (.int b)] [(.int b), (.int (own_valid p1))]))
    refine OwnG.go (fun _ kz => XS.icmpNo X1.here hx rfl (hb hby at_30) rfl (teq (by rw [hb1]; exact own_law p1 : own_valid p1 = b)).2 kz) ?_
    show OwnG _ _ _ _ _ _ (T1.setTop (mkF m 33 #[.val (.int p1), .val (.int b)] []))
    refine OwnG.go (fun _ kz => XS.iconst X1.here hx rfl (hb hby at_33) kz) ?_
    show OwnG _ _ _ _ _ _ (T1.setTop (mkF m 34 #[.val (.int p1), .val (.int b)] [(.int (1 : Int32))]))
    refine OwnG.go (fun _ kz => XS.goto X1.here hx rfl (pc0 := 34) (pc' := 38) rfl (hb hby at_34) (by decide) (by decide) kz) ?_
    show OwnG _ _ _ _ _ _ (T1.setTop (mkF m 38 #[.val (.int p1), .val (.int b)] [(.int (1 : Int32))]))
    obtain ⟨fs, hr, hrun, hended, hW, hsame⟩ := X1.leave (v := some (.int (1 : Int32))) (fun h => by rw [Bd.returns] at h; cases h)
    refine ⟨_, _, retN X1 hx (t := .boolean) Bd.returns (by simp) (hb hby at_38) hr, hrun, hended, _, _, rfl, ?_, ⟨_, rfl⟩, hW, hsame.mono (by decide) (by decide)⟩
    show (Q0 Z p1 h0 n0) _ T1.heap _
    exact ⟨rfl, N1⟩
  show OwnG p.tables e below s room_1 (Q0 Z p1 h0 n0) (s₁.setTop (entryFrame m #[(.int p1)] maxLocals))
  refine OwnG.go (fun tz kz => castTop (ef_0 m p1) kz) ?_
  show OwnG _ _ _ _ _ _ (s₁.setTop (mkF m 0 #[.val (.int p1), .unset] []))
  refine OwnG.go (fun _ kz => XS.iloadN X0.here hx rfl (hb hby at_0) rfl kz) ?_
  show OwnG _ _ _ _ _ _ (s₁.setTop (mkF m 1 #[.val (.int p1), .unset] [(.int p1)]))
  by_cases c1 : p1 < (0 : Int32)
  · have _u := ()
    refine OwnG.go (fun _ kz => XS.ifYes X0.here hx rfl (pc0 := 1) (pc' := 23) rfl (hb hby at_1) rfl ((if0 _ _).trans (tlt c1).1) (by decide) (by decide) kz) ?_
    show OwnG _ _ _ _ _ _ (s₁.setTop (mkF m 23 #[.val (.int p1), .unset] []))
    refine OwnG.go (fun _ kz => XS.iconst X0.here hx rfl (hb hby at_23) kz) ?_
    show OwnG _ _ _ _ _ _ (s₁.setTop (mkF m 24 #[.val (.int p1), .unset] [(.int (0 : Int32))]))
    refine OwnG.go (fun _ kz => XS.istoreN X0.here hx rfl (hb hby at_24) rfl (l' := #[.val (.int p1), .val (.int (0 : Int32))]) rfl kz) ?_
    show OwnG _ _ _ _ _ _ (s₁.setTop (mkF m 25 #[.val (.int p1), .val (.int (0 : Int32))] []))
    exact B25 _ (by rw [own_exp, if_pos c1])
  · have _u := ()
    refine OwnG.go (fun _ kz => XS.ifNo X0.here hx rfl (hb hby at_1) rfl ((if0 _ _).trans (flt c1).1) kz) ?_
    show OwnG _ _ _ _ _ _ (s₁.setTop (mkF m 4 #[.val (.int p1), .unset] []))
    refine OwnG.go (fun _ kz => XS.iloadN X0.here hx rfl (hb hby at_4) rfl kz) ?_
    show OwnG _ _ _ _ _ _ (s₁.setTop (mkF m 5 #[.val (.int p1), .unset] [(.int p1)]))
    refine OwnG.go (fun _ kz => XS.bipush X0.here hx rfl (hb hby at_5) kz) ?_
    show OwnG _ _ _ _ _ _ (s₁.setTop (mkF m 7 #[.val (.int p1), .unset] [(.int (32 : Int32)), (.int p1)]))
    by_cases c2 : p1 < (32 : Int32)
    · have _u := ()
      refine OwnG.go (fun _ kz => XS.icmpNo X0.here hx rfl (hb hby at_7) rfl (tlt c2).2.1 kz) ?_
      show OwnG _ _ _ _ _ _ (s₁.setTop (mkF m 10 #[.val (.int p1), .unset] []))
      refine OwnG.go (fun _ kz => X0.ldcInt hx hown (mvT hZ (hw _ (List.mem_of_getElem? (i := 0) rfl))) (g := (mkF m 10 #[.val (.int p1), .unset] [])) rfl (hb hby at_10) _ kz) ?_
      show OwnG _ _ _ _ _ _ (s₁.setTop (mkF m 12 #[.val (.int p1), .unset] [(.int (131041 : Int32))]))
      refine OwnG.go (fun _ kz => XS.iloadN X0.here hx rfl (hb hby at_12) rfl kz) ?_
      show OwnG _ _ _ _ _ _ (s₁.setTop (mkF m 13 #[.val (.int p1), .unset] [(.int p1), (.int (131041 : Int32))]))
      refine OwnG.go (fun _ kz => XS.iushr X0.here hx rfl (hb hby at_13) rfl kz) ?_
      show OwnG _ _ _ _ _ _ (s₁.setTop (mkF m 14 #[.val (.int p1), .unset] [(.int (((131041 : Int32).toUInt32 >>> (p1 &&& 31).toUInt32).toInt32))]))
      refine OwnG.go (fun _ kz => XS.iconst X0.here hx rfl (hb hby at_14) kz) ?_
      show OwnG _ _ _ _ _ _ (s₁.setTop (mkF m 15 #[.val (.int p1), .unset] [(.int (1 : Int32)), (.int (((131041 : Int32).toUInt32 >>> (p1 &&& 31).toUInt32).toInt32))]))
      refine OwnG.go (fun _ kz => XS.iand X0.here hx rfl (hb hby at_15) rfl kz) ?_
      show OwnG _ _ _ _ _ _ (s₁.setTop (mkF m 16 #[.val (.int p1), .unset] [(.int ((((131041 : Int32).toUInt32 >>> (p1 &&& 31).toUInt32).toInt32) &&& (1 : Int32)))]))
      by_cases c3 : ((((131041 : Int32).toUInt32 >>> (p1 &&& 31).toUInt32).toInt32) &&& (1 : Int32)) = (0 : Int32)
      · have _u := ()
        refine OwnG.go (fun _ kz => XS.ifYes X0.here hx rfl (pc0 := 16) (pc' := 23) rfl (hb hby at_16) rfl ((if0 _ _).trans (teq c3).1) (by decide) (by decide) kz) ?_
        show OwnG _ _ _ _ _ _ (s₁.setTop (mkF m 23 #[.val (.int p1), .unset] []))
        refine OwnG.go (fun _ kz => XS.iconst X0.here hx rfl (hb hby at_23) kz) ?_
        show OwnG _ _ _ _ _ _ (s₁.setTop (mkF m 24 #[.val (.int p1), .unset] [(.int (0 : Int32))]))
        refine OwnG.go (fun _ kz => XS.istoreN X0.here hx rfl (hb hby at_24) rfl (l' := #[.val (.int p1), .val (.int (0 : Int32))]) rfl kz) ?_
        show OwnG _ _ _ _ _ _ (s₁.setTop (mkF m 25 #[.val (.int p1), .val (.int (0 : Int32))] []))
        exact B25 _ (by rw [own_exp, if_neg c1, if_pos c2, if_pos c3])
      · have _u := ()
        refine OwnG.go (fun _ kz => XS.ifNo X0.here hx rfl (hb hby at_16) rfl ((if0 _ _).trans (feq c3).1) kz) ?_
        show OwnG _ _ _ _ _ _ (s₁.setTop (mkF m 19 #[.val (.int p1), .unset] []))
        refine OwnG.go (fun _ kz => XS.iconst X0.here hx rfl (hb hby at_19) kz) ?_
        show OwnG _ _ _ _ _ _ (s₁.setTop (mkF m 20 #[.val (.int p1), .unset] [(.int (1 : Int32))]))
        refine OwnG.go (fun _ kz => XS.goto X0.here hx rfl (pc0 := 20) (pc' := 24) rfl (hb hby at_20) (by decide) (by decide) kz) ?_
        show OwnG _ _ _ _ _ _ (s₁.setTop (mkF m 24 #[.val (.int p1), .unset] [(.int (1 : Int32))]))
        refine OwnG.go (fun _ kz => XS.istoreN X0.here hx rfl (hb hby at_24) rfl (l' := #[.val (.int p1), .val (.int (1 : Int32))]) rfl kz) ?_
        show OwnG _ _ _ _ _ _ (s₁.setTop (mkF m 25 #[.val (.int p1), .val (.int (1 : Int32))] []))
        exact B25 _ (by rw [own_exp, if_neg c1, if_pos c2, if_neg c3])
    · have _u := ()
      refine OwnG.go (fun _ kz => XS.icmpYes X0.here hx rfl (pc0 := 7) (pc' := 23) rfl (hb hby at_7) rfl (flt c2).2.1 (by decide) (by decide) kz) ?_
      show OwnG _ _ _ _ _ _ (s₁.setTop (mkF m 23 #[.val (.int p1), .unset] []))
      refine OwnG.go (fun _ kz => XS.iconst X0.here hx rfl (hb hby at_23) kz) ?_
      show OwnG _ _ _ _ _ _ (s₁.setTop (mkF m 24 #[.val (.int p1), .unset] [(.int (0 : Int32))]))
      refine OwnG.go (fun _ kz => XS.istoreN X0.here hx rfl (hb hby at_24) rfl (l' := #[.val (.int p1), .val (.int (0 : Int32))]) rfl kz) ?_
      show OwnG _ _ _ _ _ _ (s₁.setTop (mkF m 25 #[.val (.int p1), .val (.int (0 : Int32))] []))
      exact B25 _ (by rw [own_exp, if_neg c1, if_neg c2])
set_option maxRecDepth 65536 in
set_option maxHeartbeats 40000000 in
theorem comes_1 {Post : Tables → Env → Array Value → State → Outcome → State → Prop} (hpost : ∀ tb e args s v u, (limb_1_1.after args s (.returned v) u = true ∧ limb_1_2.after args s (.returned v) u = true ∧ True) → FrameEnd s (.returned v) u (Jvm.fieldLocs frame_1_writes args s ++ Jvm.arrayLocs frame_1_arrays args s ++ Jvm.staticLocs frame_1_statics s) 0 0 → Post tb e args s (.returned v) u) :
    ArmFor flags0 classFile x code maxLocals ret World_1 tables_1 room_1 Calls_1 rest_1 Pre_1 Post := by
  intro l hfl _ _ p e ha hc hk s m args below hf hA hF happ hP
  obtain ⟨hcalls, hrest, hpre⟩ := hP
  obtain ⟨-, -, -, hnamed, -, -, -, hat⟩ := (Spec.applies_iff hf).mp happ
  obtain ⟨hg, hn⟩ := and_e (Cond.before_iff.mp (show (Jvm.Cond.and given_1 narrow_1).before args s = true from hpre))
  obtain ⟨g0, gr0⟩ := and_e hg
  obtain ⟨w0, rfl⟩ : ∃ w0 : Value, args = #[w0] := by
    have hs : args.size = 1 := by simpa [Cond.value, given_1] using g0
    obtain ⟨L⟩ := args
    match L, hs with
    | [w0], _ => exact ⟨w0, rfl⟩
  have hw := fun d (hd : d ∈ tables_1) => atoms_spec (ws := Jvm.Cond.code x code maxLocals ret :: tables_1) hat d (List.mem_cons_of_mem _ hd)
  obtain ⟨i0, ei0⟩ := is_v gr0
  obtain rfl : w0 = (.int i0) := Option.some.inj ei0
  obtain ⟨n, o, h1, h2, h3, _, L, rfl, ⟨rfl, N⟩, hq⟩ := rm0 l s _ hw tables_1 i0 s.heap s.heap.size (Nat.le_refl _) p e ha hc hk s m _ below hf ((Spec.applies_iff_loose hf).mp happ).1 ⟨rfl, State.Warmed39.refl s, rfl⟩ trivial
  refine ⟨n, _, h1, h2, h3, hpost _ _ _ _ _ _ ⟨Cond.after_iff.mpr rfl, Cond.after_iff.mpr (eq_i res_at (Term.int_eval (1)) rfl), trivial⟩ ⟨hq.1, hq.2.1, (hq.2.2.sift fun y hy => Or.inr (N y hy)).mono (by decide) (by decide)⟩⟩
theorem main_1_1 : Claimed_1_1 := comes_1 fun _ _ _ _ _ _ h hF => ⟨h.1, hF⟩
theorem main_1_2 : Claimed_1_2 := comes_1 fun _ _ _ _ _ _ h hF => ⟨h.2.1, hF⟩
end Jvm.Pilot.@@N@@
namespace Jvm.Pilot.@@N@@
open Jvm Jvm.ClassFile Sem Op Lib Jvm.Free Jvm.Stand Jvm.Pilot.@@N@@.Jvm.D
/-! MADE BY PROGRAM (witnessworld.py) out of the Statement's table words and the real class files: 9 classes; the members and pool entries that the words name. The judged class is class 1, her method 1. -/
namespace start1
open Jvm.ClassFile
def u (s : String) : CpInfo := .utf8 (stringToUtf16 s)
/-- a pool by its gaps: so many unusable entries, then the entry; so many at the end -/
def gap : Nat → List CpInfo → List CpInfo
  | 0, r => r
  | n + 1, r => .unusable :: gap n r
def poolList (es : List (Nat × CpInfo)) (last : Nat) : List CpInfo := es.foldr (fun e r => gap e.1 (e.2 :: r)) (gap last [])
def pool (es : List (Nat × CpInfo)) (last : Nat) : Array CpInfo := ⟨poolList es last⟩
def fileOf (pool : Array CpInfo) (this : Nat) (attrs : Array Attribute := #[]) (ms : Array MethodInfo := #[]) (fl : Nat := 33) (sup : Nat := 0) (ifs : Array Nat := #[]) (fds : Array FieldInfo := #[]) : ClassFile where
  minorVersion := 0
  majorVersion := 65
  constantPool := pool
  accessFlags := fl
  thisClass := this
  superClass := sup
  interfaces := ifs
  fields := fds
  methods := ms
  attributes := attrs
def plain (name : String) (sup : Option ClassId) : Class where
  name := name
  kind := .ordinary
  loader := none
  accessFlags := 33
  super := sup
  interfaces := #[]
  cf := none
  fields := #[]
  methods := #[]
  instanceTypes := #[]
  staticTypes := #[]
  resolved := #[]
  callSites := []
  init := .initialized
  statics := none
  mirror := none

def pool0 : Array CpInfo := pool [(5, u "<init>"), (0, u "()V"), (1, .class_ 10), (1, u "java/lang/Object")] 113

def k0m0 : Method := { name := "<init>", desc := "()V", sig := { parameters := [], returnType := none }, accessFlags := 1, code := none }
/-- java/lang/Object -/
def k0 : Class := { plain "java/lang/Object" none with
  accessFlags := 33
  interfaces := #[]
  cf := some (fileOf pool0 8 #[] #[{ accessFlags := 1, nameIndex := 5, descriptorIndex := 6, attributes := #[] }] 33 0 #[] #[])
  fields := #[]
  methods := #[k0m0]
  instanceTypes := #[]
  staticTypes := #[]
  resolved := Array.replicate 124 none
  statics := none }

def pool1 : Array CpInfo := pool [(2, .class_ 4), (1, u "java/lang/Object"), (0, u "<init>"), (0, u "()V"), (0, .class_ 8), (0, u "com/example/ruledo/ruledo/rules/AidReferenceIsValidLengthPinLaw"), (0, .integer 131041), (0, .methodref 11 12), (0, .class_ 13), (0, .nameAndType 14 15), (0, u "com/example/ruledo/ruledo/rules/AidReference"), (0, u "isValidLength"), (0, u "(I)Z"), (0, u "VALID_TABLE"), (0, u "I"), (3, u "law")] 3

def k1m0 : Method := { name := "<init>", desc := "()V", sig := { parameters := [], returnType := none }, accessFlags := 1, code := none }
def k1c1 : Code := { maxStack := 2, maxLocals := 2, code := code, exceptionTable := #[], attributes := #[] }
def k1m1 : Method := { name := "law", desc := "(I)Z", sig := { parameters := [.int], returnType := some .boolean }, accessFlags := 9, code := some k1c1 }
/-- com/example/ruledo/ruledo/rules/AidReferenceIsValidLengthPinLaw -/
def k1 : Class := { plain "com/example/ruledo/ruledo/rules/AidReferenceIsValidLengthPinLaw" (some 0) with
  accessFlags := 49
  interfaces := #[]
  cf := some (fileOf pool1 7 #[] #[{ accessFlags := 1, nameIndex := 5, descriptorIndex := 6, attributes := #[] }, { accessFlags := 9, nameIndex := 21, descriptorIndex := 15, attributes := #[] }] 49 2 #[] #[{ accessFlags := 26, nameIndex := 16, descriptorIndex := 17, attributes := #[] }])
  fields := #[{ name := "VALID_TABLE", type := .int, accessFlags := 26, slot := 0, constantValue := 0 }]
  methods := #[k1m0, k1m1]
  instanceTypes := #[]
  staticTypes := #[.int]
  resolved := Array.replicate 25 none
  statics := none }

def pool2 : Array CpInfo := pool [(2, .class_ 4), (1, u "java/lang/Object"), (3, .class_ 10), (1, u "com/example/ruledo/ruledo/rules/AidReference"), (0, u "aid"), (0, u "[B"), (17, u "IMPLICIT"), (0, u "Lcom/example/ruledo/ruledo/rules/AidReference;"), (2, u "OTHER"), (2, u "CARRIER"), (23, u "INVALID_LENGTH"), (0, u "Ljava/lang/String;"), (3, u "MIN_LENGTH"), (0, u "I"), (1, u "MAX_LENGTH"), (5, u "isValidLength"), (0, u "(I)Z")] 24

def k2c0 : Code := { maxStack := 2, maxLocals := 1, code := prog_67_method_3_code, exceptionTable := #[], attributes := #[] }
def k2m0 : Method := { name := "isValidLength", desc := "(I)Z", sig := { parameters := [.int], returnType := some .boolean }, accessFlags := 9, code := some k2c0 }
/-- com/example/ruledo/ruledo/rules/AidReference -/
def k2 : Class := { plain "com/example/ruledo/ruledo/rules/AidReference" (some 0) with
  accessFlags := 49
  interfaces := #[]
  cf := some (fileOf pool2 8 #[] #[{ accessFlags := 9, nameIndex := 75, descriptorIndex := 76, attributes := #[] }] 49 2 #[] #[{ accessFlags := 25, nameIndex := 30, descriptorIndex := 31, attributes := #[] }, { accessFlags := 25, nameIndex := 34, descriptorIndex := 31, attributes := #[] }, { accessFlags := 25, nameIndex := 37, descriptorIndex := 31, attributes := #[] }, { accessFlags := 25, nameIndex := 61, descriptorIndex := 62, attributes := #[] }, { accessFlags := 26, nameIndex := 66, descriptorIndex := 67, attributes := #[] }, { accessFlags := 26, nameIndex := 69, descriptorIndex := 67, attributes := #[] }, { accessFlags := 18, nameIndex := 11, descriptorIndex := 12, attributes := #[] }])
  fields := #[{ name := "IMPLICIT", type := (.object "com/example/ruledo/ruledo/rules/AidReference"), accessFlags := 25, slot := 0, constantValue := 0 }, { name := "OTHER", type := (.object "com/example/ruledo/ruledo/rules/AidReference"), accessFlags := 25, slot := 1, constantValue := 0 }, { name := "CARRIER", type := (.object "com/example/ruledo/ruledo/rules/AidReference"), accessFlags := 25, slot := 2, constantValue := 0 }, { name := "INVALID_LENGTH", type := (.object "java/lang/String"), accessFlags := 25, slot := 3, constantValue := 0 }, { name := "MIN_LENGTH", type := .int, accessFlags := 26, slot := 4, constantValue := 0 }, { name := "MAX_LENGTH", type := .int, accessFlags := 26, slot := 5, constantValue := 0 }, { name := "aid", type := (.array .byte), accessFlags := 18, slot := 0, constantValue := 0 }]
  methods := #[k2m0]
  instanceTypes := #[(.array .byte)]
  staticTypes := #[(.object "com/example/ruledo/ruledo/rules/AidReference"), (.object "com/example/ruledo/ruledo/rules/AidReference"), (.object "com/example/ruledo/ruledo/rules/AidReference"), (.object "java/lang/String"), .int, .int]
  resolved := Array.replicate 101 none
  statics := none }

def pool3 : Array CpInfo := pool [(1, u "java/lang/Cloneable"), (0, .class_ 1), (0, u "java/lang/Object"), (0, .class_ 3)] 3

/-- java/lang/Cloneable -/
def k3 : Class := { plain "java/lang/Cloneable" (some 0) with
  accessFlags := 1537
  interfaces := #[]
  cf := some (fileOf pool3 2 #[] #[] 1537 4 #[] #[])
  fields := #[]
  methods := #[]
  instanceTypes := #[]
  staticTypes := #[]
  resolved := Array.replicate 8 none
  statics := none }

def pool4 : Array CpInfo := pool [(1, u "java/io/Serializable"), (0, .class_ 1), (0, u "java/lang/Object"), (0, .class_ 3)] 3

/-- java/io/Serializable -/
def k4 : Class := { plain "java/io/Serializable" (some 0) with
  accessFlags := 1537
  interfaces := #[]
  cf := some (fileOf pool4 2 #[] #[] 1537 4 #[] #[])
  fields := #[]
  methods := #[]
  instanceTypes := #[]
  staticTypes := #[]
  resolved := Array.replicate 8 none
  statics := none }

/-- the primitive byte -/
def k5 : Class := { plain "byte" none with kind := .primitive 'B', accessFlags := 0x411 }
/-- [B -/
def k6 : Class := { plain "[B" (some 0) with kind := .array 5 .byte, interfaces := #[3, 4], accessFlags := 1041 }

/-- the primitive int -/
def k7 : Class := { plain "int" none with kind := .primitive 'I', accessFlags := 0x411 }
/-- [I -/
def k8 : Class := { plain "[I" (some 0) with kind := .array 7 .int, interfaces := #[3, 4], accessFlags := 1041 }

def heap : Heap := #[]
def classes : Array Class := #[k0, k1, k2, k3, k4, k5, k6, k7, k8]
def interned : List (Array UInt16 × Addr) := []
def slotsUsed : Nat := 0
def theMethod : MethodId := ⟨1, 1⟩
def args0 : Array Value := #[.int 5]
def aboutOver (below : List Frame) : State where
  vm := { classes := classes, interned := interned.toArray }
  heap := heap
  slotsUsed := slotsUsed
  threads := #[{ frames := .invoking theMethod args0 :: below }]
def below0 : List Frame := [.native { method := ⟨0, 0⟩, args := #[] }]
def about1 : State := aboutOver below0
def p0 : Program := .bare "" "" ""
def e0 : Env := launch0.env 0 0 0
theorem w_frames : about1.frames = Frame.invoking theMethod args0 :: below0 := rfl
set_option maxRecDepth 65536 in
theorem w_args : argsFit about1.vm theMethod args0 = true := by decide +kernel
set_option maxRecDepth 65536 in
theorem w_heap : heapFits about1 = true := by decide +kernel
set_option maxRecDepth 65536 in
theorem w_runnable : about1.curStatus? = some .runnable := by decide +kernel
set_option maxRecDepth 65536 in
theorem w_alone : about1.alone = true := by decide +kernel
set_option maxRecDepth 65536 in
theorem w_named : about1.methodNamed? x = some theMethod := by decide +kernel
set_option maxRecDepth 65536 in
theorem w_hears : about1.hears theMethod below0 = true := by decide +kernel
set_option maxRecDepth 65536 in
theorem w_ripe : about1.ripe theMethod args0 below0 = true := by decide +kernel
theorem w_running : about1.status = .running := rfl
set_option maxRecDepth 65536 in
theorem w_room : about1.hasRoom e0.platform room_1 = true :=
  launch0.hasRoom_least _ room_1 (by decide +kernel) (by decide +kernel) (by decide +kernel) (by decide +kernel) (by decide +kernel) (by decide +kernel)
theorem allAtoms_all (ts : List Jvm.Cond) (a : Array Jvm.Value) (st : Jvm.State) : (allAtoms ts).before a st = ts.all (fun c => c.before a st) := by
  induction ts with
  | nil => rfl
  | cons c t ih =>
    show (Jvm.Cond.and c (allAtoms t)).before a st = _
    rw [Jvm.Cond.before_and, ih, List.all_cons]
def words1 : List Jvm.Cond := Jvm.Cond.code x code maxLocals ret :: tables_1
/-- a 'code' word, met by the world's own term for the bytes: nothing is compared byte by byte -/
theorem code_word {y : MethodName} {bytes : ByteArray} {mx : Nat} {rt : Option FieldType} {a : Array Value} {s : State} {m : MethodId} {meth : Method} {c : Code} (h1 : s.methodNamed? y = some m) (h2 : s.vm.method? m = some meth) (h3 : meth.code = some c) (h4 : c.code = bytes)
    (h5 : (c.maxLocals == mx && c.exceptionTable.isEmpty && decide (c.maxStack ≤ mostOperands) && decide (meth.sig.returnType = rt) && !meth.locks && decide (parseMethodDescriptor y.desc = some meth.sig)) = true) : (Jvm.Cond.code y bytes mx rt).before a s = true := by
  simp only [Bool.and_eq_true, beq_iff_eq, Bool.not_eq_true', decide_eq_true_eq] at h5
  obtain ⟨⟨⟨⟨⟨g1, g2⟩, g3⟩, g4⟩, g5⟩, g6⟩ := h5
  simp [Cond.before, Cond.holds, Cond.value, h1, h2, h3, h4, g1, g2, g3, g4, g5, g6]
def isCode : Jvm.Cond → Bool
  | .code _ _ _ _ => true
  | _ => false
theorem all_split {L : List Jvm.Cond} {P : Jvm.Cond → Bool} (h1 : L.all (fun c => isCode c || P c) = true) (h2 : ∀ c ∈ L.filter isCode, P c = true) : L.all P = true := by
  refine List.all_eq_true.mpr fun c hc => ?_
  have h := List.all_eq_true.mp h1 c hc
  rcases Bool.eq_false_or_eq_true (isCode c) with hi | hi
  · exact h2 c (List.mem_filter.mpr ⟨hc, hi⟩)
  · simpa [hi] using h
set_option maxRecDepth 65536 in
theorem w_c0 : (Jvm.Cond.code x code maxLocals ret).before args0 about1 = true := code_word (m := ⟨1, 1⟩) (meth := k1m1) (c := k1c1) (by decide +kernel) rfl rfl rfl (by decide +kernel)
set_option maxRecDepth 65536 in
theorem w_c1 : (Jvm.Cond.code ({ cls := "com/example/ruledo/ruledo/rules/AidReference", name := "isValidLength", desc := "(I)Z" } : Jvm.MethodName) prog_67_method_3_code (1 : Nat) (Option.some Jvm.ClassFile.FieldType.boolean)).before args0 about1 = true := code_word (m := ⟨2, 0⟩) (meth := k2m0) (c := k2c0) (by decide +kernel) rfl rfl rfl (by decide +kernel)
def codes1 : List Jvm.Cond := [Jvm.Cond.code x code maxLocals ret, Jvm.Cond.code ({ cls := "com/example/ruledo/ruledo/rules/AidReference", name := "isValidLength", desc := "(I)Z" } : Jvm.MethodName) prog_67_method_3_code (1 : Nat) (Option.some Jvm.ClassFile.FieldType.boolean)]
set_option maxRecDepth 65536 in
theorem codes_eq : words1.filter isCode = codes1 := rfl
theorem w_codes : ∀ c ∈ words1.filter isCode, c.before args0 about1 = true := by
  rw [codes_eq]
  intro c hc
  simp only [codes1, List.mem_cons, List.not_mem_nil, or_false] at hc
  rcases hc with rfl | rfl
  · exact w_c0
  · exact w_c1
set_option maxRecDepth 65536 in
theorem w_t1 : words1.all (fun c => isCode c || c.before args0 about1) = true := by decide +kernel
theorem w_tables : (allAtoms (Jvm.Cond.code x code maxLocals ret :: tables_1)).before args0 about1 = true := by
  rw [allAtoms_all]
  show words1.all (fun c => c.before args0 about1) = true
  refine all_split ?_ w_codes
  rw [w_t1]
set_option maxRecDepth 65536 in
theorem w_case : (Jvm.Cond.and given_1 narrow_1).before args0 about1 = true := by decide +kernel
theorem w_applies : (headSpec (Jvm.Cond.code x code maxLocals ret :: tables_1) room_1).applies x e0.platform about1 = true :=
  (Spec.applies_iff w_frames).mpr ⟨w_running, w_runnable, w_alone, w_named, w_hears, w_ripe, w_room, w_tables⟩
theorem atStart : AtStart classFile x code maxLocals ret World_1 tables_1 room_1 Calls_1 rest_1 Pre_1 launch0 p0 e0 about1 theMethod args0 below0 :=
  ⟨lists_1, trivial, launch0.admits_env _ _ _, launch0.least_env, fairChoices_fair.cas, fairChoices_fair.clock, w_frames, w_args, w_heap, w_applies, trivial, trivial, w_case⟩
end start1
theorem witness_1 : WitnessClaimed_1 := ⟨start1.p0, start1.e0, start1.about1, start1.theMethod, start1.args0, start1.below0, start1.atStart⟩
end Jvm.Pilot.@@N@@
