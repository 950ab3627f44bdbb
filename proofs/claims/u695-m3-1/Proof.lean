import JvmDerived
import JvmDerived.Pilot.@@N@@Statement
import JvmDerived.Pilot.@@N@@Code
set_option linter.unusedVariables false
set_option linter.unusedSimpArgs false
namespace Jvm.RoadKit
open Sem ClassFile Op Lib Jvm.Stand Jvm.Free Jvm.LawKit
section New
variable {p : Program} {l : Launch} {e : Env} {R : Room} {s : State} {m : MethodId} {args : Array Value} {below : List Frame} {meth : Method} {c : Code} {T : State} {locs : List Loc} {cells slots : Nat}
theorem retI (X : Stand p l e R s m args below meth c T locs cells slots) (hx : p.tables.exec = Jvm.exec) {pc : Nat} {Ls : Array Slot} {z : Int32} {rest : List Value} (hret : meth.sig.returnType = some .int) (hd : decode c.code pc = .ok (.ireturn, 1)) {fs : List Frame}
    (hl : ∀ (f : JFrame) (acts : List Action), f.method = m → f.locked = none → f.entered = [] → (doReturn e (T.setTop f) acts (some (.int z))).1 = T.setFrames fs) : Steps p.tables e below (T.setTop (mkF m pc Ls (.int z :: rest))) (T.setFrames fs) := by
  have hm' : T.vm.method? m = some meth := X.method'
  have hn : narrow .int (.int z) = .int z := rfl
  show Steps p.tables e below (T.setTop { method := m, pc := pc, locals := Ls, stack := _ :: rest, locked := none }) _
  jvm_step X.here [X.here.top, hx, hd, hm', hret, hn]
  first | (intro acts; rw [hl _ acts rfl rfl rfl]) | rw [hl _ _ rfl rfl rfl]
  exact Steps.refl _
end New
end Jvm.RoadKit
namespace Jvm.Pilot.@@N@@
open Jvm Jvm.ClassFile Sem Op Lib Jvm.Free Jvm.Stand Jvm.LawKit Jvm.RoadKit Bundle Jvm.Pilot.@@N@@.Jvm.D
/-- what is left of a run from the state A: it comes to an end, returns, and leaves what Q says -/
def OwnG (tb : Tables) (e : Env) (below : List Frame) (s : State) (R : Room) (Q : Option Value → Heap → List Loc → Prop) (A : State) : Prop :=
  ∃ s₂ o, Steps tb e below A s₂ ∧ s₂.status = .running ∧ Ended s₂ below o ∧ ∃ v L, o = .returned v ∧ Q v s₂.heap L ∧ FrameEnd s o s₂ L R.cells R.slots
theorem OwnG.go {tb : Tables} {e : Env} {below : List Frame} {s : State} {R : Room} {Q : Option Value → Heap → List Loc → Prop} {A B : State} (st : ∀ t, Steps tb e below A t → Steps tb e below B t) (h : OwnG tb e below s R Q A) : OwnG tb e below s R Q B := by
  obtain ⟨s₂, o, h1, h2⟩ := h
  exact ⟨s₂, o, st _ h1, h2⟩
theorem own_stand {p : Program} {l : Launch} {e : Env} {R : Room} {s : State} {m : MethodId} {args : Array Value} {below : List Frame} {meth : Method} {c : Code} {T : State} {locs : List Loc} {k n k' n' : Nat} (X : Stand p l e R s m args below meth c T locs k n) (h1 : k ≤ k') (h2 : n ≤ n') : Stand p l e R s m args below meth c T locs k' n' :=
  { X with same := X.same.mono h1 h2 }
def own_en (D M : Int32) : Int32 := if D < M then 1 else 0
def own_ed (D M : Int32) : Int32 := if D < M then D + (1 : Int32) else D
theorem own_cmp {D M : Int32} (h0 : 0 ≤ D.toInt) (h : D.toInt < 100) : M.toInt64 < D.toInt64 + (1 : Int64) ↔ ¬ D < M := by
  rw [Int64.lt_iff_toInt_lt, Int32.lt_iff_toInt_lt, Int64.toInt_add, Int32.toInt_toInt64, Int32.toInt_toInt64, show (1 : Int64).toInt = 1 from rfl, Int.bmod_eq_of_le (by omega) (by omega)]
  omega
theorem own_inc {D : Int32} (h0 : 0 ≤ D.toInt) (h : D.toInt < 100) : (D + (1 : Int32)).toInt = D.toInt + 1 := by
  rw [Int32.toInt_add, show (1 : Int32).toInt = 1 from rfl, Int.bmod_eq_of_le (by omega) (by omega)]
theorem own_dec {D : Int32} (h0 : 0 < D) (h : D.toInt < 100) : 0 ≤ (D - (1 : Int32)).toInt ∧ (D - (1 : Int32)).toInt ≤ D.toInt + 1 := by
  rw [Int32.lt_iff_toInt_lt, show (0 : Int32).toInt = 0 from rfl] at h0
  rw [Int32.toInt_sub, show (1 : Int32).toInt = 1 from rfl, Int.bmod_eq_of_le (by omega) (by omega)]
  omega
theorem own_11 : ((1 : Int32) &&& (1 : Int32)) = 1 := by decide
theorem pd_1 : parseMethodDescriptor "(I)V" = some ⟨[.int], none⟩ := by decide +kernel
theorem pd_2 : parseMethodDescriptor "()V" = some ⟨[], none⟩ := by decide +kernel
theorem pd_3 : parseMethodDescriptor "(Lcom/example/octavo/octavo/oer/Nesting;[IJI)Z" = some ⟨[(.object "com/example/octavo/octavo/oer/Nesting"), (.array .int), .long, .int], some .boolean⟩ := by decide +kernel
theorem pd_4 : parseMethodDescriptor "()Z" = some ⟨[], some .boolean⟩ := by decide +kernel
theorem pd_5 : parseMethodDescriptor "()V" = some ⟨[], none⟩ := by decide +kernel
theorem d1_0 : decode prog_22_method_1_code 0 = .ok (.aload_n 0, 1) := by decide +kernel
theorem d1_1 : decode prog_22_method_1_code 1 = .ok (.invokespecial 1, 3) := by decide +kernel
theorem d1_4 : decode prog_22_method_1_code 4 = .ok (.aload_n 0, 1) := by decide +kernel
theorem d1_5 : decode prog_22_method_1_code 5 = .ok (.iload_n 1, 1) := by decide +kernel
theorem d1_6 : decode prog_22_method_1_code 6 = .ok (.putfield 7, 3) := by decide +kernel
theorem d1_9 : decode prog_22_method_1_code 9 = .ok (.return_, 1) := by decide +kernel
theorem pn_1 : plainName "com/example/octavo/octavo/oer/Nesting" = true := by first | (simp [plainName, overriddenIn]; done) | decide +kernel
theorem ef_1 (m : MethodId) (x0 : Addr) (x1 : Int32) : entryFrame m #[(.ref x0), (.int x1)] 2 = mkF m 0 #[.val (.ref x0), .val (.int x1)] [] := by first | (simp [entryFrame, mkF, argsToLocals, Value.category]; done) | rfl
def Q1 (Z : State) (a1 : Addr) (p2 : Int32) (h0 : Heap) (n0 : Nat) (v : Option Value) (h : Heap) (L : List Loc) : Prop := v = none ∧ Fr n0 L ∧ Keep h0 h [a1] ∧ Exa Z h a1 "com/example/octavo/octavo/oer/Nesting" ∧ Fld Z h a1 "com/example/octavo/octavo/oer/Nesting" "maxDepth" "I" (.int p2) ∧ Fld Z h a1 "com/example/octavo/octavo/oer/Nesting" "depth" "I" (.int (0 : Int32))
set_option maxRecDepth 65536 in
set_option maxHeartbeats 40000000 in
theorem rm1 (l : Launch) (Z : State) (a0 : Array Value) (hw : ∀ d ∈ tables_1, d.before a0 Z = true) (ws : List Jvm.Cond) (a1 : Addr) (p2 : Int32) (h0 : Heap) (n0 : Nat) (Z0 : n0 ≤ h0.size) (E1 : Exa Z h0 a1 "com/example/octavo/octavo/oer/Nesting") (F1 : Fld Z h0 a1 "com/example/octavo/octavo/oer/Nesting" "maxDepth" "I" (.int (0 : Int32))) (F2 : Fld Z h0 a1 "com/example/octavo/octavo/oer/Nesting" "depth" "I" (.int (0 : Int32))) (g1 : n0 ≤ a1) :
    MetFree l (⟨"com/example/octavo/octavo/oer/Nesting", "<init>", "(I)V"⟩ : MethodName) (head1 (Jvm.Cond.code (⟨"com/example/octavo/octavo/oer/Nesting", "<init>", "(I)V"⟩ : MethodName) prog_22_method_1_code 2 none :: ws) ({ frames := 1, cells := 0, slots := 0, locals := 12 } : Room)) (fun a U => a = #[(.ref a1), (.int p2)] ∧ Z.Warmed39 U.vm ∧ U.heap = h0) (fun _ _ _ _ _ => True) (fun _ U o U' => ∃ v L, o = .returned v ∧ (Q1 Z a1 p2 h0 n0) v U'.heap L ∧ FrameEnd U o U' L ({ frames := 1, cells := 0, slots := 0, locals := 12 } : Room).cells ({ frames := 1, cells := 0, slots := 0, locals := 12 } : Room).slots) := by
  refine MetFree.of_bodySF (plainFor_of_name pn_1) hisR ?_
  intro p e s m args below meth c s₁ Bd hml0 hP hK
  obtain ⟨rfl, hZ, hh⟩ := hP
  have hx := Bd.exec
  have hby := Bd.bytes
  have hml : c.maxLocals = 2 := hml0
  have hown : s.vm.findClass "com/example/octavo/octavo/oer/Nesting" = some m.cls := (findClass_of_methodNamed Bd.named :)
  have hnm := (name_of_methodNamed Bd.named Bd.method).1
  have X0 : Stand p l e ({ frames := 1, cells := 0, slots := 0, locals := 12 } : Room) s m #[(.ref a1), (.int p2)] below meth c s₁ [] 0 0 := Stand.of_body Bd
  have e0 : s₁.heap = h0 := by rw [← hh, Bd.state]; rfl
  have N0 := Fr.nil n0
  show OwnG p.tables e below s ({ frames := 1, cells := 0, slots := 0, locals := 12 } : Room) (Q1 Z a1 p2 h0 n0) (s₁.setTop (entryFrame m #[(.ref a1), (.int p2)] 2))
  refine OwnG.go (fun tz kz => castTop (ef_1 m a1 p2) kz) ?_
  show OwnG _ _ _ _ _ _ (s₁.setTop (mkF m 0 #[.val (.ref a1), .val (.int p2)] []))
  refine OwnG.go (fun _ kz => XS.aloadN X0.here hx rfl (hb hby d1_0) rfl rfl kz) ?_
  show OwnG _ _ _ _ _ _ (s₁.setTop (mkF m 1 #[.val (.ref a1), .val (.int p2)] [(.ref a1)]))
  obtain ⟨T1, X1, e1, st1⟩ := initO X0 hx hZ hown (hw _ (List.mem_of_getElem? (i := 6) rfl)) (hw _ (List.mem_of_getElem? (i := 7) rfl)) (hw _ (List.mem_of_getElem? (i := 8) rfl)) e0 (g := (mkF m 1 #[.val (.ref a1), .val (.int p2)] [(.ref a1)])) rfl (by rw [hml]; rfl) rfl (hb hby d1_1) (by decide) (W := 0) (by show 2 * 0 + _ ≤ _; exact Nat.le_of_eq rfl) (by decide)
  refine OwnG.go st1 ?_
  show OwnG _ _ _ _ _ _ (T1.setTop (mkF m 4 #[.val (.ref a1), .val (.int p2)] []))
  refine OwnG.go (fun _ kz => XS.aloadN X1.here hx rfl (hb hby d1_4) rfl rfl kz) ?_
  show OwnG _ _ _ _ _ _ (T1.setTop (mkF m 5 #[.val (.ref a1), .val (.int p2)] [(.ref a1)]))
  refine OwnG.go (fun _ kz => XS.iloadN X1.here hx rfl (hb hby d1_5) rfl kz) ?_
  show OwnG _ _ _ _ _ _ (T1.setTop (mkF m 6 #[.val (.ref a1), .val (.int p2)] [(.int p2), (.ref a1)]))
  obtain ⟨T2, h2, X2, e2, W2, st2⟩ := putF X1 hx hZ hown (host := "") (Or.inl (hw _ (List.mem_of_getElem? (i := 9) rfl))) Via.refl e1 F1 E1 (Or.inr ⟨(hw _ (List.mem_of_getElem? (i := 10) rfl)), rfl, hnm⟩) (hw _ (List.mem_of_getElem? (i := 1) rfl)) (ty := .int) (by decide) rfl rfl (g := (mkF m 6 #[.val (.ref a1), .val (.int p2)] [(.int p2), (.ref a1)])) rfl rfl (hb hby d1_6)
  have Fw2 := F1.same W2
  have N2 := Fr.snoc X2 N0 g1
  refine OwnG.go st2 ?_
  show OwnG _ _ _ _ _ _ (T2.setTop (mkF m 9 #[.val (.ref a1), .val (.int p2)] []))
  obtain ⟨fs, hr, hrun, hended, hW, hsame⟩ := X2.leave (v := none) (fun _ => rfl)
  refine ⟨_, _, X2.returnOut hx Bd.returns (hb hby d1_9) hr, hrun, hended, _, _, rfl, ?_, ⟨_, rfl⟩, hW, hsame.mono (by decide) (by decide)⟩
  show (Q1 Z a1 p2 h0 n0) _ T2.heap _
  rw [e2]
  exact ⟨rfl, N2, (Keep.refl h0 [a1]).wr W2 (Or.inl (List.mem_of_getElem? (i := 0) rfl)), E1.wr W2, Fw2, F2.other W2 (Or.inr (slot_ne (Or.inl (hw _ (List.mem_of_getElem? (i := 22) rfl))) (Or.inr (hw _ (List.mem_of_getElem? (i := 10) rfl))) (by decide) (t := .int) (t' := .int) (by decide) (by decide)))⟩
theorem d4_0 : decode prog_22_method_2_code 0 = .ok (.aload_n 0, 1) := by decide +kernel
theorem d4_1 : decode prog_22_method_2_code 1 = .ok (.getfield 13, 3) := by decide +kernel
theorem d4_4 : decode prog_22_method_2_code 4 = .ok (.aload_n 0, 1) := by decide +kernel
theorem d4_5 : decode prog_22_method_2_code 5 = .ok (.getfield 7, 3) := by decide +kernel
theorem d4_8 : decode prog_22_method_2_code 8 = .ok (.if_icmp .ge 7, 3) := by decide +kernel
theorem d4_11 : decode prog_22_method_2_code 11 = .ok (.iconst 1, 1) := by decide +kernel
theorem d4_12 : decode prog_22_method_2_code 12 = .ok (.goto 4, 3) := by decide +kernel
theorem d4_15 : decode prog_22_method_2_code 15 = .ok (.iconst 0, 1) := by decide +kernel
theorem d4_16 : decode prog_22_method_2_code 16 = .ok (.istore_n 1, 1) := by decide +kernel
theorem d4_17 : decode prog_22_method_2_code 17 = .ok (.iload_n 1, 1) := by decide +kernel
theorem d4_18 : decode prog_22_method_2_code 18 = .ok (.ifCond .eq 13, 3) := by decide +kernel
theorem d4_21 : decode prog_22_method_2_code 21 = .ok (.aload_n 0, 1) := by decide +kernel
theorem d4_22 : decode prog_22_method_2_code 22 = .ok (.dup, 1) := by decide +kernel
theorem d4_23 : decode prog_22_method_2_code 23 = .ok (.getfield 13, 3) := by decide +kernel
theorem d4_26 : decode prog_22_method_2_code 26 = .ok (.iconst 1, 1) := by decide +kernel
theorem d4_27 : decode prog_22_method_2_code 27 = .ok (.iadd, 1) := by decide +kernel
theorem d4_28 : decode prog_22_method_2_code 28 = .ok (.putfield 13, 3) := by decide +kernel
theorem d4_31 : decode prog_22_method_2_code 31 = .ok (.iload_n 1, 1) := by decide +kernel
theorem d4_32 : decode prog_22_method_2_code 32 = .ok (.ireturn, 1) := by decide +kernel
theorem pn_4 : plainName "com/example/octavo/octavo/oer/Nesting" = true := by first | (simp [plainName, overriddenIn]; done) | decide +kernel
theorem ef_4 (m : MethodId) (x0 : Addr) : entryFrame m #[(.ref x0)] 2 = mkF m 0 #[.val (.ref x0), .unset] [] := by first | (simp [entryFrame, mkF, argsToLocals, Value.category]; done) | rfl
def Q4 (Z : State) (a1 : Addr) (M D : Int32) (h0 : Heap) (n0 : Nat) (v : Option Value) (h : Heap) (L : List Loc) : Prop := v = some (.int (own_en D M)) ∧ Fr n0 L ∧ Keep h0 h [a1] ∧ Exa Z h a1 "com/example/octavo/octavo/oer/Nesting" ∧ Fld Z h a1 "com/example/octavo/octavo/oer/Nesting" "maxDepth" "I" (.int M) ∧ Fld Z h a1 "com/example/octavo/octavo/oer/Nesting" "depth" "I" (.int (own_ed D M))
set_option maxRecDepth 65536 in
set_option maxHeartbeats 40000000 in
theorem rm4 (l : Launch) (Z : State) (a0 : Array Value) (hw : ∀ d ∈ tables_1, d.before a0 Z = true) (ws : List Jvm.Cond) (a1 : Addr) (M D : Int32) (h0 : Heap) (n0 : Nat) (Z0 : n0 ≤ h0.size) (E1 : Exa Z h0 a1 "com/example/octavo/octavo/oer/Nesting") (F1 : Fld Z h0 a1 "com/example/octavo/octavo/oer/Nesting" "maxDepth" "I" (.int M)) (F2 : Fld Z h0 a1 "com/example/octavo/octavo/oer/Nesting" "depth" "I" (.int D)) (g1 : n0 ≤ a1) :
    MetFree l (⟨"com/example/octavo/octavo/oer/Nesting", "enter", "()Z"⟩ : MethodName) (head1 (Jvm.Cond.code (⟨"com/example/octavo/octavo/oer/Nesting", "enter", "()Z"⟩ : MethodName) prog_22_method_2_code 2 (some .boolean) :: ws) ({ frames := 0, cells := 0, slots := 0, locals := 0 } : Room)) (fun a U => a = #[(.ref a1)] ∧ Z.Warmed39 U.vm ∧ U.heap = h0) (fun _ _ _ _ _ => True) (fun _ U o U' => ∃ v L, o = .returned v ∧ (Q4 Z a1 M D h0 n0) v U'.heap L ∧ FrameEnd U o U' L ({ frames := 0, cells := 0, slots := 0, locals := 0 } : Room).cells ({ frames := 0, cells := 0, slots := 0, locals := 0 } : Room).slots) := by
  refine MetFree.of_bodySF (plainFor_of_name pn_4) hisR ?_
  intro p e s m args below meth c s₁ Bd hml0 hP hK
  obtain ⟨rfl, hZ, hh⟩ := hP
  have hx := Bd.exec
  have hby := Bd.bytes
  have hml : c.maxLocals = 2 := hml0
  have hown : s.vm.findClass "com/example/octavo/octavo/oer/Nesting" = some m.cls := (findClass_of_methodNamed Bd.named :)
  have hnm := (name_of_methodNamed Bd.named Bd.method).1
  have X0 : Stand p l e ({ frames := 0, cells := 0, slots := 0, locals := 0 } : Room) s m #[(.ref a1)] below meth c s₁ [] 0 0 := Stand.of_body Bd
  have e0 : s₁.heap = h0 := by rw [← hh, Bd.state]; rfl
  have N0 := Fr.nil n0
  show OwnG p.tables e below s ({ frames := 0, cells := 0, slots := 0, locals := 0 } : Room) (Q4 Z a1 M D h0 n0) (s₁.setTop (entryFrame m #[(.ref a1)] 2))
  refine OwnG.go (fun tz kz => castTop (ef_4 m a1) kz) ?_
  show OwnG _ _ _ _ _ _ (s₁.setTop (mkF m 0 #[.val (.ref a1), .unset] []))
  refine OwnG.go (fun _ kz => XS.aloadN X0.here hx rfl (hb hby d4_0) rfl rfl kz) ?_
  show OwnG _ _ _ _ _ _ (s₁.setTop (mkF m 1 #[.val (.ref a1), .unset] [(.ref a1)]))
  obtain ⟨T1, X1, e1, st1⟩ := getF X0 hx hZ hown (host := "") (Or.inl (hw _ (List.mem_of_getElem? (i := 21) rfl))) Via.refl e0 F2 (g := (mkF m 1 #[.val (.ref a1), .unset] [(.ref a1)])) rfl rfl (hb hby d4_1)
  refine OwnG.go st1 ?_
  show OwnG _ _ _ _ _ _ (T1.setTop (mkF m 4 #[.val (.ref a1), .unset] [(.int D)]))
  refine OwnG.go (fun _ kz => XS.aloadN X1.here hx rfl (hb hby d4_4) rfl rfl kz) ?_
  show OwnG _ _ _ _ _ _ (T1.setTop (mkF m 5 #[.val (.ref a1), .unset] [(.ref a1), (.int D)]))
  obtain ⟨T2, X2, e2, st2⟩ := getF X1 hx hZ hown (host := "") (Or.inl (hw _ (List.mem_of_getElem? (i := 9) rfl))) Via.refl e1 F1 (g := (mkF m 5 #[.val (.ref a1), .unset] [(.ref a1), (.int D)])) rfl rfl (hb hby d4_5)
  refine OwnG.go st2 ?_
  show OwnG _ _ _ _ _ _ (T2.setTop (mkF m 8 #[.val (.ref a1), .unset] [(.int M), (.int D)]))
  by_cases c1 : D < M
  · have _u := ()
    refine OwnG.go (fun _ kz => XS.icmpNo X2.here hx rfl (hb hby d4_8) rfl (tlt c1).2.1 kz) ?_
    show OwnG _ _ _ _ _ _ (T2.setTop (mkF m 11 #[.val (.ref a1), .unset] []))
    refine OwnG.go (fun _ kz => XS.iconst X2.here hx rfl (hb hby d4_11) kz) ?_
    show OwnG _ _ _ _ _ _ (T2.setTop (mkF m 12 #[.val (.ref a1), .unset] [(.int (1 : Int32))]))
    refine OwnG.go (fun _ kz => XS.goto X2.here hx rfl (pc0 := 12) (pc' := 16) rfl (hb hby d4_12) (by decide) (by decide) kz) ?_
    show OwnG _ _ _ _ _ _ (T2.setTop (mkF m 16 #[.val (.ref a1), .unset] [(.int (1 : Int32))]))
    refine OwnG.go (fun _ kz => XS.istoreN X2.here hx rfl (hb hby d4_16) rfl (l' := #[.val (.ref a1), .val (.int (1 : Int32))]) rfl kz) ?_
    show OwnG _ _ _ _ _ _ (T2.setTop (mkF m 17 #[.val (.ref a1), .val (.int (1 : Int32))] []))
    refine OwnG.go (fun _ kz => XS.iloadN X2.here hx rfl (hb hby d4_17) rfl kz) ?_
    show OwnG _ _ _ _ _ _ (T2.setTop (mkF m 18 #[.val (.ref a1), .val (.int (1 : Int32))] [(.int (1 : Int32))]))
    refine OwnG.go (fun _ kz => XS.ifNo X2.here hx rfl (hb hby d4_18) rfl ((if0 _ _).trans (feq (by decide)).1) kz) ?_
    show OwnG _ _ _ _ _ _ (T2.setTop (mkF m 21 #[.val (.ref a1), .val (.int (1 : Int32))] []))
    refine OwnG.go (fun _ kz => XS.aloadN X2.here hx rfl (hb hby d4_21) rfl rfl kz) ?_
    show OwnG _ _ _ _ _ _ (T2.setTop (mkF m 22 #[.val (.ref a1), .val (.int (1 : Int32))] [(.ref a1)]))
    refine OwnG.go (fun _ kz => XS.dup X2.here hx rfl (hb hby d4_22) rfl rfl kz) ?_
    show OwnG _ _ _ _ _ _ (T2.setTop (mkF m 23 #[.val (.ref a1), .val (.int (1 : Int32))] [(.ref a1), (.ref a1)]))
    obtain ⟨T3, X3, e3, st3⟩ := getF X2 hx hZ hown (host := "") (Or.inl (hw _ (List.mem_of_getElem? (i := 21) rfl))) Via.refl e2 F2 (g := (mkF m 23 #[.val (.ref a1), .val (.int (1 : Int32))] [(.ref a1), (.ref a1)])) rfl rfl (hb hby d4_23)
    refine OwnG.go st3 ?_
    show OwnG _ _ _ _ _ _ (T3.setTop (mkF m 26 #[.val (.ref a1), .val (.int (1 : Int32))] [(.int D), (.ref a1)]))
    refine OwnG.go (fun _ kz => XS.iconst X3.here hx rfl (hb hby d4_26) kz) ?_
    show OwnG _ _ _ _ _ _ (T3.setTop (mkF m 27 #[.val (.ref a1), .val (.int (1 : Int32))] [(.int (1 : Int32)), (.int D), (.ref a1)]))
    refine OwnG.go (fun _ kz => XS.iadd X3.here hx rfl (hb hby d4_27) rfl kz) ?_
    show OwnG _ _ _ _ _ _ (T3.setTop (mkF m 28 #[.val (.ref a1), .val (.int (1 : Int32))] [(.int (D + (1 : Int32))), (.ref a1)]))
    obtain ⟨T4, h4, X4, e4, W4, st4⟩ := putF X3 hx hZ hown (host := "") (Or.inl (hw _ (List.mem_of_getElem? (i := 21) rfl))) Via.refl e3 F2 E1 (Or.inl (hw _ (List.mem_of_getElem? (i := 22) rfl))) (hw _ (List.mem_of_getElem? (i := 1) rfl)) (ty := .int) (by decide) rfl rfl (g := (mkF m 28 #[.val (.ref a1), .val (.int (1 : Int32))] [(.int (D + (1 : Int32))), (.ref a1)])) rfl rfl (hb hby d4_28)
    have Fw4 := F2.same W4
    have N4 := Fr.snoc X4 N0 g1
    refine OwnG.go st4 ?_
    show OwnG _ _ _ _ _ _ (T4.setTop (mkF m 31 #[.val (.ref a1), .val (.int (1 : Int32))] []))
    refine OwnG.go (fun _ kz => XS.iloadN X4.here hx rfl (hb hby d4_31) rfl kz) ?_
    show OwnG _ _ _ _ _ _ (T4.setTop (mkF m 32 #[.val (.ref a1), .val (.int (1 : Int32))] [(.int (1 : Int32))]))
    have ev1 : own_en D M = 1 := by simp [own_en, c1]
    have ev2 : own_ed D M = D + (1 : Int32) := by simp [own_ed, c1]
    obtain ⟨fs, hr, hrun, hended, hW, hsame⟩ := X4.leave (v := some (.int (1 : Int32))) (fun h => by rw [Bd.returns] at h; cases h)
    refine ⟨_, _, retN X4 hx (t := .boolean) Bd.returns (by simp) (hb hby d4_32) hr, hrun, hended, _, _, rfl, ?_, ⟨_, rfl⟩, hW, hsame.mono (by decide) (by decide)⟩
    show (Q4 Z a1 M D h0 n0) _ T4.heap _
    rw [e4]
    exact ⟨by rw [ev1], N4, (Keep.refl h0 [a1]).wr W4 (Or.inl (List.mem_of_getElem? (i := 0) rfl)), E1.wr W4, F1.other W4 (Or.inr (slot_ne (Or.inr (hw _ (List.mem_of_getElem? (i := 10) rfl))) (Or.inl (hw _ (List.mem_of_getElem? (i := 22) rfl))) (by decide) (t := .int) (t' := .int) (by decide) (by decide))), by rw [ev2]; exact Fw4⟩
  · have _u := ()
    refine OwnG.go (fun _ kz => XS.icmpYes X2.here hx rfl (pc0 := 8) (pc' := 15) rfl (hb hby d4_8) rfl (flt c1).2.1 (by decide) (by decide) kz) ?_
    show OwnG _ _ _ _ _ _ (T2.setTop (mkF m 15 #[.val (.ref a1), .unset] []))
    refine OwnG.go (fun _ kz => XS.iconst X2.here hx rfl (hb hby d4_15) kz) ?_
    show OwnG _ _ _ _ _ _ (T2.setTop (mkF m 16 #[.val (.ref a1), .unset] [(.int (0 : Int32))]))
    refine OwnG.go (fun _ kz => XS.istoreN X2.here hx rfl (hb hby d4_16) rfl (l' := #[.val (.ref a1), .val (.int (0 : Int32))]) rfl kz) ?_
    show OwnG _ _ _ _ _ _ (T2.setTop (mkF m 17 #[.val (.ref a1), .val (.int (0 : Int32))] []))
    refine OwnG.go (fun _ kz => XS.iloadN X2.here hx rfl (hb hby d4_17) rfl kz) ?_
    show OwnG _ _ _ _ _ _ (T2.setTop (mkF m 18 #[.val (.ref a1), .val (.int (0 : Int32))] [(.int (0 : Int32))]))
    refine OwnG.go (fun _ kz => XS.ifYes X2.here hx rfl (pc0 := 18) (pc' := 31) rfl (hb hby d4_18) rfl ((if0 _ _).trans (teq rfl).1) (by decide) (by decide) kz) ?_
    show OwnG _ _ _ _ _ _ (T2.setTop (mkF m 31 #[.val (.ref a1), .val (.int (0 : Int32))] []))
    refine OwnG.go (fun _ kz => XS.iloadN X2.here hx rfl (hb hby d4_31) rfl kz) ?_
    show OwnG _ _ _ _ _ _ (T2.setTop (mkF m 32 #[.val (.ref a1), .val (.int (0 : Int32))] [(.int (0 : Int32))]))
    have ev1 : own_en D M = 0 := by simp [own_en, c1]
    have ev2 : own_ed D M = D := by simp [own_ed, c1]
    obtain ⟨fs, hr, hrun, hended, hW, hsame⟩ := X2.leave (v := some (.int (0 : Int32))) (fun h => by rw [Bd.returns] at h; cases h)
    refine ⟨_, _, retN X2 hx (t := .boolean) Bd.returns (by simp) (hb hby d4_32) hr, hrun, hended, _, _, rfl, ?_, ⟨_, rfl⟩, hW, hsame.mono (by decide) (by decide)⟩
    show (Q4 Z a1 M D h0 n0) _ T2.heap _
    rw [e2]
    exact ⟨by rw [ev1], N0, Keep.refl h0 [a1], E1, F1, by rw [ev2]; exact F2⟩
theorem d5_0 : decode prog_22_method_3_code 0 = .ok (.aload_n 0, 1) := by decide +kernel
theorem d5_1 : decode prog_22_method_3_code 1 = .ok (.dup, 1) := by decide +kernel
theorem d5_2 : decode prog_22_method_3_code 2 = .ok (.getfield 13, 3) := by decide +kernel
theorem d5_5 : decode prog_22_method_3_code 5 = .ok (.iconst 1, 1) := by decide +kernel
theorem d5_6 : decode prog_22_method_3_code 6 = .ok (.isub, 1) := by decide +kernel
theorem d5_7 : decode prog_22_method_3_code 7 = .ok (.putfield 13, 3) := by decide +kernel
theorem d5_10 : decode prog_22_method_3_code 10 = .ok (.return_, 1) := by decide +kernel
theorem pn_5 : plainName "com/example/octavo/octavo/oer/Nesting" = true := by first | (simp [plainName, overriddenIn]; done) | decide +kernel
theorem ef_5 (m : MethodId) (x0 : Addr) : entryFrame m #[(.ref x0)] 1 = mkF m 0 #[.val (.ref x0)] [] := by first | (simp [entryFrame, mkF, argsToLocals, Value.category]; done) | rfl
def Q5 (Z : State) (a1 : Addr) (M D : Int32) (h0 : Heap) (n0 : Nat) (v : Option Value) (h : Heap) (L : List Loc) : Prop := v = none ∧ Fr n0 L ∧ Keep h0 h [a1] ∧ Exa Z h a1 "com/example/octavo/octavo/oer/Nesting" ∧ Fld Z h a1 "com/example/octavo/octavo/oer/Nesting" "maxDepth" "I" (.int M) ∧ Fld Z h a1 "com/example/octavo/octavo/oer/Nesting" "depth" "I" (.int (D - (1 : Int32)))
set_option maxRecDepth 65536 in
set_option maxHeartbeats 40000000 in
theorem rm5 (l : Launch) (Z : State) (a0 : Array Value) (hw : ∀ d ∈ tables_1, d.before a0 Z = true) (ws : List Jvm.Cond) (a1 : Addr) (M D : Int32) (h0 : Heap) (n0 : Nat) (Z0 : n0 ≤ h0.size) (E1 : Exa Z h0 a1 "com/example/octavo/octavo/oer/Nesting") (F1 : Fld Z h0 a1 "com/example/octavo/octavo/oer/Nesting" "maxDepth" "I" (.int M)) (F2 : Fld Z h0 a1 "com/example/octavo/octavo/oer/Nesting" "depth" "I" (.int D)) (g1 : n0 ≤ a1) :
    MetFree l (⟨"com/example/octavo/octavo/oer/Nesting", "leave", "()V"⟩ : MethodName) (head1 (Jvm.Cond.code (⟨"com/example/octavo/octavo/oer/Nesting", "leave", "()V"⟩ : MethodName) prog_22_method_3_code 1 none :: ws) ({ frames := 0, cells := 0, slots := 0, locals := 0 } : Room)) (fun a U => a = #[(.ref a1)] ∧ Z.Warmed39 U.vm ∧ U.heap = h0) (fun _ _ _ _ _ => True) (fun _ U o U' => ∃ v L, o = .returned v ∧ (Q5 Z a1 M D h0 n0) v U'.heap L ∧ FrameEnd U o U' L ({ frames := 0, cells := 0, slots := 0, locals := 0 } : Room).cells ({ frames := 0, cells := 0, slots := 0, locals := 0 } : Room).slots) := by
  refine MetFree.of_bodySF (plainFor_of_name pn_5) hisR ?_
  intro p e s m args below meth c s₁ Bd hml0 hP hK
  obtain ⟨rfl, hZ, hh⟩ := hP
  have hx := Bd.exec
  have hby := Bd.bytes
  have hml : c.maxLocals = 1 := hml0
  have hown : s.vm.findClass "com/example/octavo/octavo/oer/Nesting" = some m.cls := (findClass_of_methodNamed Bd.named :)
  have hnm := (name_of_methodNamed Bd.named Bd.method).1
  have X0 : Stand p l e ({ frames := 0, cells := 0, slots := 0, locals := 0 } : Room) s m #[(.ref a1)] below meth c s₁ [] 0 0 := Stand.of_body Bd
  have e0 : s₁.heap = h0 := by rw [← hh, Bd.state]; rfl
  have N0 := Fr.nil n0
  show OwnG p.tables e below s ({ frames := 0, cells := 0, slots := 0, locals := 0 } : Room) (Q5 Z a1 M D h0 n0) (s₁.setTop (entryFrame m #[(.ref a1)] 1))
  refine OwnG.go (fun tz kz => castTop (ef_5 m a1) kz) ?_
  show OwnG _ _ _ _ _ _ (s₁.setTop (mkF m 0 #[.val (.ref a1)] []))
  refine OwnG.go (fun _ kz => XS.aloadN X0.here hx rfl (hb hby d5_0) rfl rfl kz) ?_
  show OwnG _ _ _ _ _ _ (s₁.setTop (mkF m 1 #[.val (.ref a1)] [(.ref a1)]))
  refine OwnG.go (fun _ kz => XS.dup X0.here hx rfl (hb hby d5_1) rfl rfl kz) ?_
  show OwnG _ _ _ _ _ _ (s₁.setTop (mkF m 2 #[.val (.ref a1)] [(.ref a1), (.ref a1)]))
  obtain ⟨T1, X1, e1, st1⟩ := getF X0 hx hZ hown (host := "") (Or.inl (hw _ (List.mem_of_getElem? (i := 21) rfl))) Via.refl e0 F2 (g := (mkF m 2 #[.val (.ref a1)] [(.ref a1), (.ref a1)])) rfl rfl (hb hby d5_2)
  refine OwnG.go st1 ?_
  show OwnG _ _ _ _ _ _ (T1.setTop (mkF m 5 #[.val (.ref a1)] [(.int D), (.ref a1)]))
  refine OwnG.go (fun _ kz => XS.iconst X1.here hx rfl (hb hby d5_5) kz) ?_
  show OwnG _ _ _ _ _ _ (T1.setTop (mkF m 6 #[.val (.ref a1)] [(.int (1 : Int32)), (.int D), (.ref a1)]))
  refine OwnG.go (fun _ kz => XS.isub X1.here hx rfl (hb hby d5_6) rfl kz) ?_
  show OwnG _ _ _ _ _ _ (T1.setTop (mkF m 7 #[.val (.ref a1)] [(.int (D - (1 : Int32))), (.ref a1)]))
  obtain ⟨T2, h2, X2, e2, W2, st2⟩ := putF X1 hx hZ hown (host := "") (Or.inl (hw _ (List.mem_of_getElem? (i := 21) rfl))) Via.refl e1 F2 E1 (Or.inl (hw _ (List.mem_of_getElem? (i := 22) rfl))) (hw _ (List.mem_of_getElem? (i := 1) rfl)) (ty := .int) (by decide) rfl rfl (g := (mkF m 7 #[.val (.ref a1)] [(.int (D - (1 : Int32))), (.ref a1)])) rfl rfl (hb hby d5_7)
  have Fw2 := F2.same W2
  have N2 := Fr.snoc X2 N0 g1
  refine OwnG.go st2 ?_
  show OwnG _ _ _ _ _ _ (T2.setTop (mkF m 10 #[.val (.ref a1)] []))
  obtain ⟨fs, hr, hrun, hended, hW, hsame⟩ := X2.leave (v := none) (fun _ => rfl)
  refine ⟨_, _, X2.returnOut hx Bd.returns (hb hby d5_10) hr, hrun, hended, _, _, rfl, ?_, ⟨_, rfl⟩, hW, hsame.mono (by decide) (by decide)⟩
  show (Q5 Z a1 M D h0 n0) _ T2.heap _
  rw [e2]
  exact ⟨rfl, N2, (Keep.refl h0 [a1]).wr W2 (Or.inl (List.mem_of_getElem? (i := 0) rfl)), E1.wr W2, F1.other W2 (Or.inr (slot_ne (Or.inr (hw _ (List.mem_of_getElem? (i := 10) rfl))) (Or.inl (hw _ (List.mem_of_getElem? (i := 22) rfl))) (by decide) (t := .int) (t' := .int) (by decide) (by decide))), Fw2⟩
theorem d3_0 : decode method_2_code 0 = .ok (.iload 4, 2) := by decide +kernel
theorem d3_2 : decode method_2_code 2 = .ok (.ifCond .ne 23, 3) := by decide +kernel
theorem d3_5 : decode method_2_code 5 = .ok (.aload_n 1, 1) := by decide +kernel
theorem d3_6 : decode method_2_code 6 = .ok (.iconst 0, 1) := by decide +kernel
theorem d3_7 : decode method_2_code 7 = .ok (.iaload, 1) := by decide +kernel
theorem d3_8 : decode method_2_code 8 = .ok (.ifCond .le 17, 3) := by decide +kernel
theorem d3_11 : decode method_2_code 11 = .ok (.aload_n 0, 1) := by decide +kernel
theorem d3_12 : decode method_2_code 12 = .ok (.invokevirtual 7, 3) := by decide +kernel
theorem d3_15 : decode method_2_code 15 = .ok (.aload_n 1, 1) := by decide +kernel
theorem d3_16 : decode method_2_code 16 = .ok (.iconst 0, 1) := by decide +kernel
theorem d3_17 : decode method_2_code 17 = .ok (.aload_n 1, 1) := by decide +kernel
theorem d3_18 : decode method_2_code 18 = .ok (.iconst 0, 1) := by decide +kernel
theorem d3_19 : decode method_2_code 19 = .ok (.iaload, 1) := by decide +kernel
theorem d3_20 : decode method_2_code 20 = .ok (.iconst 1, 1) := by decide +kernel
theorem d3_21 : decode method_2_code 21 = .ok (.isub, 1) := by decide +kernel
theorem d3_22 : decode method_2_code 22 = .ok (.iastore, 1) := by decide +kernel
theorem d3_23 : decode method_2_code 23 = .ok (.iconst 1, 1) := by decide +kernel
theorem d3_24 : decode method_2_code 24 = .ok (.ireturn, 1) := by decide +kernel
theorem d3_25 : decode method_2_code 25 = .ok (.aload_n 1, 1) := by decide +kernel
theorem d3_26 : decode method_2_code 26 = .ok (.iconst 0, 1) := by decide +kernel
theorem d3_27 : decode method_2_code 27 = .ok (.iaload, 1) := by decide +kernel
theorem d3_28 : decode method_2_code 28 = .ok (.i2l, 1) := by decide +kernel
theorem d3_29 : decode method_2_code 29 = .ok (.lconst 1, 1) := by decide +kernel
theorem d3_30 : decode method_2_code 30 = .ok (.ladd, 1) := by decide +kernel
theorem d3_31 : decode method_2_code 31 = .ok (.lload_n 2, 1) := by decide +kernel
theorem d3_32 : decode method_2_code 32 = .ok (.lcmp, 1) := by decide +kernel
theorem d3_33 : decode method_2_code 33 = .ok (.ifCond .gt 7, 3) := by decide +kernel
theorem d3_36 : decode method_2_code 36 = .ok (.iconst 1, 1) := by decide +kernel
theorem d3_37 : decode method_2_code 37 = .ok (.goto 4, 3) := by decide +kernel
theorem d3_40 : decode method_2_code 40 = .ok (.iconst 0, 1) := by decide +kernel
theorem d3_41 : decode method_2_code 41 = .ok (.istore 5, 2) := by decide +kernel
theorem d3_43 : decode method_2_code 43 = .ok (.aload_n 0, 1) := by decide +kernel
theorem d3_44 : decode method_2_code 44 = .ok (.invokevirtual 12, 3) := by decide +kernel
theorem d3_47 : decode method_2_code 47 = .ok (.istore 6, 2) := by decide +kernel
theorem d3_49 : decode method_2_code 49 = .ok (.iload 5, 2) := by decide +kernel
theorem d3_51 : decode method_2_code 51 = .ok (.ifCond .eq 11, 3) := by decide +kernel
theorem d3_54 : decode method_2_code 54 = .ok (.aload_n 1, 1) := by decide +kernel
theorem d3_55 : decode method_2_code 55 = .ok (.iconst 0, 1) := by decide +kernel
theorem d3_56 : decode method_2_code 56 = .ok (.aload_n 1, 1) := by decide +kernel
theorem d3_57 : decode method_2_code 57 = .ok (.iconst 0, 1) := by decide +kernel
theorem d3_58 : decode method_2_code 58 = .ok (.iaload, 1) := by decide +kernel
theorem d3_59 : decode method_2_code 59 = .ok (.iconst 1, 1) := by decide +kernel
theorem d3_60 : decode method_2_code 60 = .ok (.iadd, 1) := by decide +kernel
theorem d3_61 : decode method_2_code 61 = .ok (.iastore, 1) := by decide +kernel
theorem d3_62 : decode method_2_code 62 = .ok (.iload 6, 2) := by decide +kernel
theorem d3_64 : decode method_2_code 64 = .ok (.iload 5, 2) := by decide +kernel
theorem d3_66 : decode method_2_code 66 = .ok (.if_icmp .ne 7, 3) := by decide +kernel
theorem d3_69 : decode method_2_code 69 = .ok (.iconst 1, 1) := by decide +kernel
theorem d3_70 : decode method_2_code 70 = .ok (.goto 4, 3) := by decide +kernel
theorem d3_73 : decode method_2_code 73 = .ok (.iconst 0, 1) := by decide +kernel
theorem d3_74 : decode method_2_code 74 = .ok (.ireturn, 1) := by decide +kernel
theorem pn_3 : plainName "com/example/octavo/octavo/oer/NestingEnterPinLaw" = true := by first | (simp [plainName, overriddenIn]; done) | decide +kernel
theorem ef_3 (m : MethodId) (x0 : Addr) (x1 : Addr) (x2 : Int64) (x3 : Int32) : entryFrame m #[(.ref x0), (.ref x1), (.long x2), (.int x3)] 7 = mkF m 0 #[.val (.ref x0), .val (.ref x1), .val (.long x2), .second, .val (.int x3), .unset, .unset] [] := by first | (simp [entryFrame, mkF, argsToLocals, Value.category]; done) | rfl
def Q3 (Z : State) (a1 a2 : Addr) (M : Int32) (p4 : Int32) (D : Int32) (kk : ClassId) (h0 : Heap) (n0 : Nat) (v : Option Value) (h : Heap) (L : List Loc) : Prop := v = some (.int (1 : Int32)) ∧ Fr n0 L ∧ Keep h0 h [a1, a2] ∧ Exa Z h a1 "com/example/octavo/octavo/oer/Nesting" ∧ Fld Z h a1 "com/example/octavo/octavo/oer/Nesting" "maxDepth" "I" (.int M) ∧ ∃ D' : Int32, 0 ≤ D'.toInt ∧ D'.toInt ≤ D.toInt + 1 ∧ Fld Z h a1 "com/example/octavo/octavo/oer/Nesting" "depth" "I" (.int D') ∧ Arv Z h a2 kk .int (1 : Int32) [.int D'] (.int (0 : Int32))
set_option maxRecDepth 65536 in
set_option maxHeartbeats 40000000 in
theorem rm3 (l : Launch) (Z : State) (a0 : Array Value) (hw : ∀ d ∈ tables_1, d.before a0 Z = true) (ws : List Jvm.Cond) (a1 a2 : Addr) (M : Int32) (p4 : Int32) (D : Int32) (kk : ClassId) (h0 : Heap) (n0 : Nat) (Z0 : n0 ≤ h0.size) (E1 : Exa Z h0 a1 "com/example/octavo/octavo/oer/Nesting") (F1 : Fld Z h0 a1 "com/example/octavo/octavo/oer/Nesting" "maxDepth" "I" (.int M)) (F2 : Fld Z h0 a1 "com/example/octavo/octavo/oer/Nesting" "depth" "I" (.int D)) (V1 : Arv Z h0 a2 kk .int (1 : Int32) [.int D] (.int (0 : Int32))) (g1 : n0 ≤ a1) (g2 : n0 ≤ a2) (ne : a1 ≠ a2) (hl : 0 ≤ D.toInt) (hu : D.toInt < 100) :
    MetFree l (⟨"com/example/octavo/octavo/oer/NestingEnterPinLaw", "step", "(Lcom/example/octavo/octavo/oer/Nesting;[IJI)Z"⟩ : MethodName) (head1 (Jvm.Cond.code (⟨"com/example/octavo/octavo/oer/NestingEnterPinLaw", "step", "(Lcom/example/octavo/octavo/oer/Nesting;[IJI)Z"⟩ : MethodName) method_2_code 7 (some .boolean) :: ws) ({ frames := 1, cells := 0, slots := 0, locals := 13 } : Room)) (fun a U => a = #[(.ref a1), (.ref a2), (.long (Int32.toInt64 M)), (.int p4)] ∧ Z.Warmed39 U.vm ∧ U.heap = h0) (fun _ _ _ _ _ => True) (fun _ U o U' => ∃ v L, o = .returned v ∧ (Q3 Z a1 a2 M p4 D kk h0 n0) v U'.heap L ∧ FrameEnd U o U' L ({ frames := 1, cells := 0, slots := 0, locals := 13 } : Room).cells ({ frames := 1, cells := 0, slots := 0, locals := 13 } : Room).slots) := by
  refine MetFree.of_bodySF (plainFor_of_name pn_3) hisR ?_
  intro p e s m args below meth c s₁ Bd hml0 hP hK
  obtain ⟨rfl, hZ, hh⟩ := hP
  have hx := Bd.exec
  have hby := Bd.bytes
  have hml : c.maxLocals = 7 := hml0
  have hown : s.vm.findClass "com/example/octavo/octavo/oer/NestingEnterPinLaw" = some m.cls := (findClass_of_methodNamed Bd.named :)
  have hnm := (name_of_methodNamed Bd.named Bd.method).1
  have X0 : Stand p l e ({ frames := 1, cells := 0, slots := 0, locals := 13 } : Room) s m #[(.ref a1), (.ref a2), (.long (Int32.toInt64 M)), (.int p4)] below meth c s₁ [] 0 0 := Stand.of_body Bd
  have e0 : s₁.heap = h0 := by rw [← hh, Bd.state]; rfl
  have N0 := Fr.nil n0
  obtain ⟨cl0, Ar0, qa0, Sa0, Na0, Ha0, Ga0⟩ := id V1
  have hin0 : ¬ ((0 : Int32) < 0 ∨ cl0.slots.size ≤ ((0 : Int32)).toNatClampNeg) := inb_of Sa0 ⟨by decide, by decide⟩
  have B25 : OwnG p.tables e below s ({ frames := 1, cells := 0, slots := 0, locals := 13 } : Room) (Q3 Z a1 a2 M p4 D kk h0 n0) (s₁.setTop (mkF m 25 #[.val (.ref a1), .val (.ref a2), .val (.long (Int32.toInt64 M)), .second, .val (.int p4), .unset, .unset] [])) := by
    show OwnG _ _ _ _ _ _ (s₁.setTop (mkF m 25 #[.val (.ref a1), .val (.ref a2), .val (.long (Int32.toInt64 M)), .second, .val (.int p4), .unset, .unset] []))
    refine OwnG.go (fun _ kz => XS.aloadN X0.here hx rfl (hb hby d3_25) rfl rfl kz) ?_
    show OwnG _ _ _ _ _ _ (s₁.setTop (mkF m 26 #[.val (.ref a1), .val (.ref a2), .val (.long (Int32.toInt64 M)), .second, .val (.int p4), .unset, .unset] [(.ref a2)]))
    refine OwnG.go (fun _ kz => XS.iconst X0.here hx rfl (hb hby d3_26) kz) ?_
    show OwnG _ _ _ _ _ _ (s₁.setTop (mkF m 27 #[.val (.ref a1), .val (.ref a2), .val (.long (Int32.toInt64 M)), .second, .val (.int p4), .unset, .unset] [(.int (0 : Int32)), (.ref a2)]))
    refine OwnG.go (fun _ kz => X0.iaload hx (j := (0 : Int32)) (v := (.int D)) (by rw [e0]; exact Ar0.1) (State.isArrayOf_alike hZ.alike Ar0.2.1) Ar0.2.2 hin0 (Has.at Ha0 hin0 rfl) (g := (mkF m 27 #[.val (.ref a1), .val (.ref a2), .val (.long (Int32.toInt64 M)), .second, .val (.int p4), .unset, .unset] [(.int (0 : Int32)), (.ref a2)])) rfl rfl (hb hby d3_27) _ kz) ?_
    show OwnG _ _ _ _ _ _ (s₁.setTop (mkF m 28 #[.val (.ref a1), .val (.ref a2), .val (.long (Int32.toInt64 M)), .second, .val (.int p4), .unset, .unset] [(.int D)]))
    refine OwnG.go (fun _ kz => XS.i2l X0.here hx rfl (hb hby d3_28) rfl kz) ?_
    show OwnG _ _ _ _ _ _ (s₁.setTop (mkF m 29 #[.val (.ref a1), .val (.ref a2), .val (.long (Int32.toInt64 M)), .second, .val (.int p4), .unset, .unset] [(.long (D.toInt64))]))
    refine OwnG.go (fun _ kz => XS.lconst X0.here hx rfl (hb hby d3_29) kz) ?_
    show OwnG _ _ _ _ _ _ (s₁.setTop (mkF m 30 #[.val (.ref a1), .val (.ref a2), .val (.long (Int32.toInt64 M)), .second, .val (.int p4), .unset, .unset] [(.long (1 : Int64)), (.long (D.toInt64))]))
    refine OwnG.go (fun _ kz => XS.ladd X0.here hx rfl (hb hby d3_30) rfl kz) ?_
    show OwnG _ _ _ _ _ _ (s₁.setTop (mkF m 31 #[.val (.ref a1), .val (.ref a2), .val (.long (Int32.toInt64 M)), .second, .val (.int p4), .unset, .unset] [(.long ((D.toInt64) + (1 : Int64)))]))
    refine OwnG.go (fun _ kz => XS.lloadN X0.here hx rfl (hb hby d3_31) rfl kz) ?_
    show OwnG _ _ _ _ _ _ (s₁.setTop (mkF m 32 #[.val (.ref a1), .val (.ref a2), .val (.long (Int32.toInt64 M)), .second, .val (.int p4), .unset, .unset] [(.long (Int32.toInt64 M)), (.long ((D.toInt64) + (1 : Int64)))]))
    refine OwnG.go (fun _ kz => XS.lcmp X0.here hx rfl (hb hby d3_32) rfl kz) ?_
    show OwnG _ _ _ _ _ _ (s₁.setTop (mkF m 33 #[.val (.ref a1), .val (.ref a2), .val (.long (Int32.toInt64 M)), .second, .val (.int p4), .unset, .unset] [(.int (lcmpW ((D.toInt64) + (1 : Int64)) (Int32.toInt64 M)))]))
    by_cases c3 : (0 : Int32) < (lcmpW ((D.toInt64) + (1 : Int64)) (Int32.toInt64 M))
    · have _u := ()
      refine OwnG.go (fun _ kz => XS.ifYes X0.here hx rfl (pc0 := 33) (pc' := 40) rfl (hb hby d3_33) rfl ((if0 _ _).trans (tlt c3).2.2.1) (by decide) (by decide) kz) ?_
      show OwnG _ _ _ _ _ _ (s₁.setTop (mkF m 40 #[.val (.ref a1), .val (.ref a2), .val (.long (Int32.toInt64 M)), .second, .val (.int p4), .unset, .unset] []))
      have c3' : ¬ D < M := (own_cmp hl hu).mp ((lw_gt _ _).mp c3)
      refine OwnG.go (fun _ kz => XS.iconst X0.here hx rfl (hb hby d3_40) kz) ?_
      show OwnG _ _ _ _ _ _ (s₁.setTop (mkF m 41 #[.val (.ref a1), .val (.ref a2), .val (.long (Int32.toInt64 M)), .second, .val (.int p4), .unset, .unset] [(.int (0 : Int32))]))
      refine OwnG.go (fun _ kz => XS.istore X0.here hx rfl (hb hby d3_41) rfl (l' := #[.val (.ref a1), .val (.ref a2), .val (.long (Int32.toInt64 M)), .second, .val (.int p4), .val (.int (0 : Int32)), .unset]) rfl kz) ?_
      show OwnG _ _ _ _ _ _ (s₁.setTop (mkF m 43 #[.val (.ref a1), .val (.ref a2), .val (.long (Int32.toInt64 M)), .second, .val (.int p4), .val (.int (0 : Int32)), .unset] []))
      refine OwnG.go (fun _ kz => XS.aloadN X0.here hx rfl (hb hby d3_43) rfl rfl kz) ?_
      show OwnG _ _ _ _ _ _ (s₁.setTop (mkF m 44 #[.val (.ref a1), .val (.ref a2), .val (.long (Int32.toInt64 M)), .second, .val (.int p4), .val (.int (0 : Int32)), .unset] [(.ref a1)]))
      obtain ⟨cq1, kq1, q1a, q1b, q1c⟩ := isOf hZ e0 E1
      obtain ⟨_, _, ⟨T1, L1, k1, n1⟩, -, X1, ⟨Lc1, hQ1, l1, y1, z1⟩, st1⟩ := X0.virtualBack hx (y := (⟨"com/example/octavo/octavo/oer/Nesting", "enter", "()Z"⟩ : MethodName)) (z := (⟨"com/example/octavo/octavo/oer/Nesting", "enter", "()Z"⟩ : MethodName)) hown (mvT hZ (hw _ (List.mem_of_getElem? (i := 16) rfl))) (mvT hZ (hw _ (List.mem_of_getElem? (i := 17) rfl))) (notFace_of_selects (args := #[]) (mvT hZ (hw _ (List.mem_of_getElem? (i := 19) rfl)))) (mvT hZ (hw _ (List.mem_of_getElem? (i := 19) rfl))) (mvT hZ (hw _ (List.mem_of_getElem? (i := 18) rfl))) (by decide) (backOf (W := 0) (rm4 l Z a0 hw [] a1 M D h0 n0 Z0 E1 F1 F2 g1) hZ (hw _ (List.mem_of_getElem? (i := 20) rfl)) (hw _ (List.mem_of_getElem? (i := 2) rfl)) (by decide) (by decide)) q1a q1c (g := (mkF m 44 #[.val (.ref a1), .val (.ref a2), .val (.long (Int32.toInt64 M)), .second, .val (.int p4), .val (.int (0 : Int32)), .unset] [(.ref a1)])) rfl (by rw [hml]; rfl) (Steps.refl _) (argsL := []) (rest := []) (lenOf pd_4 rfl) rfl (by show 2 * 0 + _ ≤ _; exact Nat.le_of_eq rfl) (hb hby d3_44) (fun _ _ => ⟨rfl, e0, (by decide : 0 + 0 ≤ _), (by decide : 0 + 0 ≤ _)⟩)
      dsimp only [Pt.U, Pt.locs, Pt.cells, Pt.slots] at X1 l1 y1 z1 st1 hQ1
      subst l1 y1 z1
      obtain ⟨rfl, N1q, K1, Ex1, Fm1, Fd1⟩ := hQ1
      have N1 := Fr.app N0 N1q
      refine OwnG.go (fun tz kz => st1.trans kz) ?_
      show OwnG _ _ _ _ _ _ (T1.setTop (mkF m 47 #[.val (.ref a1), .val (.ref a2), .val (.long (Int32.toInt64 M)), .second, .val (.int p4), .val (.int (0 : Int32)), .unset] [(.int (own_en D M))]))
      have ev1 : own_en D M = 0 := by simp [own_en, c3']
      have ev2 : own_ed D M = D := by simp [own_ed, c3']
      rw [ev2] at Fd1
      refine OwnG.go (fun _ kz => XS.istore X1.here hx rfl (hb hby d3_47) rfl (l' := #[.val (.ref a1), .val (.ref a2), .val (.long (Int32.toInt64 M)), .second, .val (.int p4), .val (.int (0 : Int32)), .val (.int (own_en D M))]) rfl kz) ?_
      show OwnG _ _ _ _ _ _ (T1.setTop (mkF m 49 #[.val (.ref a1), .val (.ref a2), .val (.long (Int32.toInt64 M)), .second, .val (.int p4), .val (.int (0 : Int32)), .val (.int (own_en D M))] []))
      refine OwnG.go (fun _ kz => XS.iload X1.here hx rfl (hb hby d3_49) rfl kz) ?_
      show OwnG _ _ _ _ _ _ (T1.setTop (mkF m 51 #[.val (.ref a1), .val (.ref a2), .val (.long (Int32.toInt64 M)), .second, .val (.int p4), .val (.int (0 : Int32)), .val (.int (own_en D M))] [(.int (0 : Int32))]))
      refine OwnG.go (fun _ kz => XS.ifYes X1.here hx rfl (pc0 := 51) (pc' := 62) rfl (hb hby d3_51) rfl ((if0 _ _).trans (teq rfl).1) (by decide) (by decide) kz) ?_
      show OwnG _ _ _ _ _ _ (T1.setTop (mkF m 62 #[.val (.ref a1), .val (.ref a2), .val (.long (Int32.toInt64 M)), .second, .val (.int p4), .val (.int (0 : Int32)), .val (.int (own_en D M))] []))
      refine OwnG.go (fun _ kz => XS.iload X1.here hx rfl (hb hby d3_62) rfl kz) ?_
      show OwnG _ _ _ _ _ _ (T1.setTop (mkF m 64 #[.val (.ref a1), .val (.ref a2), .val (.long (Int32.toInt64 M)), .second, .val (.int p4), .val (.int (0 : Int32)), .val (.int (own_en D M))] [(.int (own_en D M))]))
      refine OwnG.go (fun _ kz => XS.iload X1.here hx rfl (hb hby d3_64) rfl kz) ?_
      show OwnG _ _ _ _ _ _ (T1.setTop (mkF m 66 #[.val (.ref a1), .val (.ref a2), .val (.long (Int32.toInt64 M)), .second, .val (.int p4), .val (.int (0 : Int32)), .val (.int (own_en D M))] [(.int (0 : Int32)), (.int (own_en D M))]))
      refine OwnG.go (fun _ kz => XS.icmpNo X1.here hx rfl (hb hby d3_66) rfl (teq ev1).2 kz) ?_
      show OwnG _ _ _ _ _ _ (T1.setTop (mkF m 69 #[.val (.ref a1), .val (.ref a2), .val (.long (Int32.toInt64 M)), .second, .val (.int p4), .val (.int (0 : Int32)), .val (.int (own_en D M))] []))
      refine OwnG.go (fun _ kz => XS.iconst X1.here hx rfl (hb hby d3_69) kz) ?_
      show OwnG _ _ _ _ _ _ (T1.setTop (mkF m 70 #[.val (.ref a1), .val (.ref a2), .val (.long (Int32.toInt64 M)), .second, .val (.int p4), .val (.int (0 : Int32)), .val (.int (own_en D M))] [(.int (1 : Int32))]))
      refine OwnG.go (fun _ kz => XS.goto X1.here hx rfl (pc0 := 70) (pc' := 74) rfl (hb hby d3_70) (by decide) (by decide) kz) ?_
      show OwnG _ _ _ _ _ _ (T1.setTop (mkF m 74 #[.val (.ref a1), .val (.ref a2), .val (.long (Int32.toInt64 M)), .second, .val (.int p4), .val (.int (0 : Int32)), .val (.int (own_en D M))] [(.int (1 : Int32))]))
      obtain ⟨fs, hr, hrun, hended, hW, hsame⟩ := X1.leave (v := some (.int (1 : Int32))) (fun h => by rw [Bd.returns] at h; cases h)
      refine ⟨_, _, retN X1 hx (t := .boolean) Bd.returns (by simp) (hb hby d3_74) hr, hrun, hended, _, _, rfl, ?_, ⟨_, rfl⟩, hW, hsame.mono (by decide) (by decide)⟩
      show (Q3 Z a1 a2 M p4 D kk h0 n0) _ T1.heap _
      exact ⟨rfl, N1, (Keep.refl h0 [a1, a2]).trans K1 (allS (Or.inl (List.mem_of_getElem? (i := 0) rfl)) all0), Ex1, Fm1, D, hl, by omega, Fd1, V1.keep K1 (ninS (Ne.symm ne) nin0)⟩
    · have _u := ()
      refine OwnG.go (fun _ kz => XS.ifNo X0.here hx rfl (hb hby d3_33) rfl ((if0 _ _).trans (flt c3).2.2.1) kz) ?_
      show OwnG _ _ _ _ _ _ (s₁.setTop (mkF m 36 #[.val (.ref a1), .val (.ref a2), .val (.long (Int32.toInt64 M)), .second, .val (.int p4), .unset, .unset] []))
      have c3' : D < M := Decidable.byContradiction fun q => c3 ((lw_gt _ _).mpr ((own_cmp hl hu).mpr q))
      refine OwnG.go (fun _ kz => XS.iconst X0.here hx rfl (hb hby d3_36) kz) ?_
      show OwnG _ _ _ _ _ _ (s₁.setTop (mkF m 37 #[.val (.ref a1), .val (.ref a2), .val (.long (Int32.toInt64 M)), .second, .val (.int p4), .unset, .unset] [(.int (1 : Int32))]))
      refine OwnG.go (fun _ kz => XS.goto X0.here hx rfl (pc0 := 37) (pc' := 41) rfl (hb hby d3_37) (by decide) (by decide) kz) ?_
      show OwnG _ _ _ _ _ _ (s₁.setTop (mkF m 41 #[.val (.ref a1), .val (.ref a2), .val (.long (Int32.toInt64 M)), .second, .val (.int p4), .unset, .unset] [(.int (1 : Int32))]))
      refine OwnG.go (fun _ kz => XS.istore X0.here hx rfl (hb hby d3_41) rfl (l' := #[.val (.ref a1), .val (.ref a2), .val (.long (Int32.toInt64 M)), .second, .val (.int p4), .val (.int (1 : Int32)), .unset]) rfl kz) ?_
      show OwnG _ _ _ _ _ _ (s₁.setTop (mkF m 43 #[.val (.ref a1), .val (.ref a2), .val (.long (Int32.toInt64 M)), .second, .val (.int p4), .val (.int (1 : Int32)), .unset] []))
      refine OwnG.go (fun _ kz => XS.aloadN X0.here hx rfl (hb hby d3_43) rfl rfl kz) ?_
      show OwnG _ _ _ _ _ _ (s₁.setTop (mkF m 44 #[.val (.ref a1), .val (.ref a2), .val (.long (Int32.toInt64 M)), .second, .val (.int p4), .val (.int (1 : Int32)), .unset] [(.ref a1)]))
      obtain ⟨cq2, kq2, q2a, q2b, q2c⟩ := isOf hZ e0 E1
      obtain ⟨_, _, ⟨T2, L2, k2, n2⟩, -, X2, ⟨Lc2, hQ2, l2, y2, z2⟩, st2⟩ := X0.virtualBack hx (y := (⟨"com/example/octavo/octavo/oer/Nesting", "enter", "()Z"⟩ : MethodName)) (z := (⟨"com/example/octavo/octavo/oer/Nesting", "enter", "()Z"⟩ : MethodName)) hown (mvT hZ (hw _ (List.mem_of_getElem? (i := 16) rfl))) (mvT hZ (hw _ (List.mem_of_getElem? (i := 17) rfl))) (notFace_of_selects (args := #[]) (mvT hZ (hw _ (List.mem_of_getElem? (i := 19) rfl)))) (mvT hZ (hw _ (List.mem_of_getElem? (i := 19) rfl))) (mvT hZ (hw _ (List.mem_of_getElem? (i := 18) rfl))) (by decide) (backOf (W := 0) (rm4 l Z a0 hw [] a1 M D h0 n0 Z0 E1 F1 F2 g1) hZ (hw _ (List.mem_of_getElem? (i := 20) rfl)) (hw _ (List.mem_of_getElem? (i := 2) rfl)) (by decide) (by decide)) q2a q2c (g := (mkF m 44 #[.val (.ref a1), .val (.ref a2), .val (.long (Int32.toInt64 M)), .second, .val (.int p4), .val (.int (1 : Int32)), .unset] [(.ref a1)])) rfl (by rw [hml]; rfl) (Steps.refl _) (argsL := []) (rest := []) (lenOf pd_4 rfl) rfl (by show 2 * 0 + _ ≤ _; exact Nat.le_of_eq rfl) (hb hby d3_44) (fun _ _ => ⟨rfl, e0, (by decide : 0 + 0 ≤ _), (by decide : 0 + 0 ≤ _)⟩)
      dsimp only [Pt.U, Pt.locs, Pt.cells, Pt.slots] at X2 l2 y2 z2 st2 hQ2
      subst l2 y2 z2
      obtain ⟨rfl, N2q, K2, Ex2, Fm2, Fd2⟩ := hQ2
      have N2 := Fr.app N0 N2q
      refine OwnG.go (fun tz kz => st2.trans kz) ?_
      show OwnG _ _ _ _ _ _ (T2.setTop (mkF m 47 #[.val (.ref a1), .val (.ref a2), .val (.long (Int32.toInt64 M)), .second, .val (.int p4), .val (.int (1 : Int32)), .unset] [(.int (own_en D M))]))
      have ev1 : own_en D M = 1 := by simp [own_en, c3']
      have ev2 : own_ed D M = D + (1 : Int32) := by simp [own_ed, c3']
      rw [ev2] at Fd2
      refine OwnG.go (fun _ kz => XS.istore X2.here hx rfl (hb hby d3_47) rfl (l' := #[.val (.ref a1), .val (.ref a2), .val (.long (Int32.toInt64 M)), .second, .val (.int p4), .val (.int (1 : Int32)), .val (.int (own_en D M))]) rfl kz) ?_
      show OwnG _ _ _ _ _ _ (T2.setTop (mkF m 49 #[.val (.ref a1), .val (.ref a2), .val (.long (Int32.toInt64 M)), .second, .val (.int p4), .val (.int (1 : Int32)), .val (.int (own_en D M))] []))
      refine OwnG.go (fun _ kz => XS.iload X2.here hx rfl (hb hby d3_49) rfl kz) ?_
      show OwnG _ _ _ _ _ _ (T2.setTop (mkF m 51 #[.val (.ref a1), .val (.ref a2), .val (.long (Int32.toInt64 M)), .second, .val (.int p4), .val (.int (1 : Int32)), .val (.int (own_en D M))] [(.int (1 : Int32))]))
      refine OwnG.go (fun _ kz => XS.ifNo X2.here hx rfl (hb hby d3_51) rfl ((if0 _ _).trans (feq (by decide)).1) kz) ?_
      show OwnG _ _ _ _ _ _ (T2.setTop (mkF m 54 #[.val (.ref a1), .val (.ref a2), .val (.long (Int32.toInt64 M)), .second, .val (.int p4), .val (.int (1 : Int32)), .val (.int (own_en D M))] []))
      refine OwnG.go (fun _ kz => XS.aloadN X2.here hx rfl (hb hby d3_54) rfl rfl kz) ?_
      show OwnG _ _ _ _ _ _ (T2.setTop (mkF m 55 #[.val (.ref a1), .val (.ref a2), .val (.long (Int32.toInt64 M)), .second, .val (.int p4), .val (.int (1 : Int32)), .val (.int (own_en D M))] [(.ref a2)]))
      refine OwnG.go (fun _ kz => XS.iconst X2.here hx rfl (hb hby d3_55) kz) ?_
      show OwnG _ _ _ _ _ _ (T2.setTop (mkF m 56 #[.val (.ref a1), .val (.ref a2), .val (.long (Int32.toInt64 M)), .second, .val (.int p4), .val (.int (1 : Int32)), .val (.int (own_en D M))] [(.int (0 : Int32)), (.ref a2)]))
      refine OwnG.go (fun _ kz => XS.aloadN X2.here hx rfl (hb hby d3_56) rfl rfl kz) ?_
      show OwnG _ _ _ _ _ _ (T2.setTop (mkF m 57 #[.val (.ref a1), .val (.ref a2), .val (.long (Int32.toInt64 M)), .second, .val (.int p4), .val (.int (1 : Int32)), .val (.int (own_en D M))] [(.ref a2), (.int (0 : Int32)), (.ref a2)]))
      refine OwnG.go (fun _ kz => XS.iconst X2.here hx rfl (hb hby d3_57) kz) ?_
      show OwnG _ _ _ _ _ _ (T2.setTop (mkF m 58 #[.val (.ref a1), .val (.ref a2), .val (.long (Int32.toInt64 M)), .second, .val (.int p4), .val (.int (1 : Int32)), .val (.int (own_en D M))] [(.int (0 : Int32)), (.ref a2), (.int (0 : Int32)), (.ref a2)]))
      obtain ⟨cl1, Ar1, qa1, Sa1, Na1, Ha1, Ga1⟩ := id (V1.keep K2 (ninS (Ne.symm ne) nin0))
      have hin1 : ¬ ((0 : Int32) < 0 ∨ cl1.slots.size ≤ ((0 : Int32)).toNatClampNeg) := inb_of Sa1 ⟨by decide, by decide⟩
      refine OwnG.go (fun _ kz => X2.iaload hx (j := (0 : Int32)) (v := (.int D)) (by rw [(rfl : T2.heap = T2.heap)]; exact Ar1.1) (State.isArrayOf_alike hZ.alike Ar1.2.1) Ar1.2.2 hin1 (Has.at Ha1 hin1 rfl) (g := (mkF m 58 #[.val (.ref a1), .val (.ref a2), .val (.long (Int32.toInt64 M)), .second, .val (.int p4), .val (.int (1 : Int32)), .val (.int (own_en D M))] [(.int (0 : Int32)), (.ref a2), (.int (0 : Int32)), (.ref a2)])) rfl rfl (hb hby d3_58) _ kz) ?_
      show OwnG _ _ _ _ _ _ (T2.setTop (mkF m 59 #[.val (.ref a1), .val (.ref a2), .val (.long (Int32.toInt64 M)), .second, .val (.int p4), .val (.int (1 : Int32)), .val (.int (own_en D M))] [(.int D), (.int (0 : Int32)), (.ref a2)]))
      refine OwnG.go (fun _ kz => XS.iconst X2.here hx rfl (hb hby d3_59) kz) ?_
      show OwnG _ _ _ _ _ _ (T2.setTop (mkF m 60 #[.val (.ref a1), .val (.ref a2), .val (.long (Int32.toInt64 M)), .second, .val (.int p4), .val (.int (1 : Int32)), .val (.int (own_en D M))] [(.int (1 : Int32)), (.int D), (.int (0 : Int32)), (.ref a2)]))
      refine OwnG.go (fun _ kz => XS.iadd X2.here hx rfl (hb hby d3_60) rfl kz) ?_
      show OwnG _ _ _ _ _ _ (T2.setTop (mkF m 61 #[.val (.ref a1), .val (.ref a2), .val (.long (Int32.toInt64 M)), .second, .val (.int p4), .val (.int (1 : Int32)), .val (.int (own_en D M))] [(.int (D + (1 : Int32))), (.int (0 : Int32)), (.ref a2)]))
      obtain ⟨T3, h3, X3, e3, W3, st3⟩ := stI X2 hx hZ (rfl : T2.heap = T2.heap) Ar1 (j := (0 : Int32)) hin1 (g := (mkF m 61 #[.val (.ref a1), .val (.ref a2), .val (.long (Int32.toInt64 M)), .second, .val (.int p4), .val (.int (1 : Int32)), .val (.int (own_en D M))] [(.int (D + (1 : Int32))), (.int (0 : Int32)), (.ref a2)])) rfl rfl (hb hby d3_61)
      have N3 := Fr.snoc X3 N2 g2
      refine OwnG.go st3 ?_
      show OwnG _ _ _ _ _ _ (T3.setTop (mkF m 62 #[.val (.ref a1), .val (.ref a2), .val (.long (Int32.toInt64 M)), .second, .val (.int p4), .val (.int (1 : Int32)), .val (.int (own_en D M))] []))
      have Vn := Arv.set Ar1 qa1 Sa1 Na1 Ha1 Ga1 rfl W3 0 rfl (Nat.le_of_ble_eq_true rfl)
      refine OwnG.go (fun _ kz => XS.iload X3.here hx rfl (hb hby d3_62) rfl kz) ?_
      show OwnG _ _ _ _ _ _ (T3.setTop (mkF m 64 #[.val (.ref a1), .val (.ref a2), .val (.long (Int32.toInt64 M)), .second, .val (.int p4), .val (.int (1 : Int32)), .val (.int (own_en D M))] [(.int (own_en D M))]))
      refine OwnG.go (fun _ kz => XS.iload X3.here hx rfl (hb hby d3_64) rfl kz) ?_
      show OwnG _ _ _ _ _ _ (T3.setTop (mkF m 66 #[.val (.ref a1), .val (.ref a2), .val (.long (Int32.toInt64 M)), .second, .val (.int p4), .val (.int (1 : Int32)), .val (.int (own_en D M))] [(.int (1 : Int32)), (.int (own_en D M))]))
      refine OwnG.go (fun _ kz => XS.icmpNo X3.here hx rfl (hb hby d3_66) rfl (teq ev1).2 kz) ?_
      show OwnG _ _ _ _ _ _ (T3.setTop (mkF m 69 #[.val (.ref a1), .val (.ref a2), .val (.long (Int32.toInt64 M)), .second, .val (.int p4), .val (.int (1 : Int32)), .val (.int (own_en D M))] []))
      refine OwnG.go (fun _ kz => XS.iconst X3.here hx rfl (hb hby d3_69) kz) ?_
      show OwnG _ _ _ _ _ _ (T3.setTop (mkF m 70 #[.val (.ref a1), .val (.ref a2), .val (.long (Int32.toInt64 M)), .second, .val (.int p4), .val (.int (1 : Int32)), .val (.int (own_en D M))] [(.int (1 : Int32))]))
      refine OwnG.go (fun _ kz => XS.goto X3.here hx rfl (pc0 := 70) (pc' := 74) rfl (hb hby d3_70) (by decide) (by decide) kz) ?_
      show OwnG _ _ _ _ _ _ (T3.setTop (mkF m 74 #[.val (.ref a1), .val (.ref a2), .val (.long (Int32.toInt64 M)), .second, .val (.int p4), .val (.int (1 : Int32)), .val (.int (own_en D M))] [(.int (1 : Int32))]))
      obtain ⟨fs, hr, hrun, hended, hW, hsame⟩ := X3.leave (v := some (.int (1 : Int32))) (fun h => by rw [Bd.returns] at h; cases h)
      refine ⟨_, _, retN X3 hx (t := .boolean) Bd.returns (by simp) (hb hby d3_74) hr, hrun, hended, _, _, rfl, ?_, ⟨_, rfl⟩, hW, hsame.mono (by decide) (by decide)⟩
      show (Q3 Z a1 a2 M p4 D kk h0 n0) _ T3.heap _
      rw [e3]
      exact ⟨rfl, N3, ((Keep.refl h0 [a1, a2]).trans K2 (allS (Or.inl (List.mem_of_getElem? (i := 0) rfl)) all0)).wr W3 (Or.inl (List.mem_of_getElem? (i := 1) rfl)), Ex2.wr W3, Fm2.other W3 (Or.inl ne), D + (1 : Int32), by rw [own_inc hl hu]; omega, by rw [own_inc hl hu]; omega, Fd2.other W3 (Or.inl ne), Vn⟩
  show OwnG p.tables e below s ({ frames := 1, cells := 0, slots := 0, locals := 13 } : Room) (Q3 Z a1 a2 M p4 D kk h0 n0) (s₁.setTop (entryFrame m #[(.ref a1), (.ref a2), (.long (Int32.toInt64 M)), (.int p4)] 7))
  refine OwnG.go (fun tz kz => castTop (ef_3 m a1 a2 (Int32.toInt64 M) p4) kz) ?_
  show OwnG _ _ _ _ _ _ (s₁.setTop (mkF m 0 #[.val (.ref a1), .val (.ref a2), .val (.long (Int32.toInt64 M)), .second, .val (.int p4), .unset, .unset] []))
  refine OwnG.go (fun _ kz => XS.iload X0.here hx rfl (hb hby d3_0) rfl kz) ?_
  show OwnG _ _ _ _ _ _ (s₁.setTop (mkF m 2 #[.val (.ref a1), .val (.ref a2), .val (.long (Int32.toInt64 M)), .second, .val (.int p4), .unset, .unset] [(.int p4)]))
  by_cases c1 : p4 = (0 : Int32)
  · have _u := ()
    refine OwnG.go (fun _ kz => XS.ifNo X0.here hx rfl (hb hby d3_2) rfl ((if0 _ _).trans (teq c1).2) kz) ?_
    show OwnG _ _ _ _ _ _ (s₁.setTop (mkF m 5 #[.val (.ref a1), .val (.ref a2), .val (.long (Int32.toInt64 M)), .second, .val (.int p4), .unset, .unset] []))
    refine OwnG.go (fun _ kz => XS.aloadN X0.here hx rfl (hb hby d3_5) rfl rfl kz) ?_
    show OwnG _ _ _ _ _ _ (s₁.setTop (mkF m 6 #[.val (.ref a1), .val (.ref a2), .val (.long (Int32.toInt64 M)), .second, .val (.int p4), .unset, .unset] [(.ref a2)]))
    refine OwnG.go (fun _ kz => XS.iconst X0.here hx rfl (hb hby d3_6) kz) ?_
    show OwnG _ _ _ _ _ _ (s₁.setTop (mkF m 7 #[.val (.ref a1), .val (.ref a2), .val (.long (Int32.toInt64 M)), .second, .val (.int p4), .unset, .unset] [(.int (0 : Int32)), (.ref a2)]))
    refine OwnG.go (fun _ kz => X0.iaload hx (j := (0 : Int32)) (v := (.int D)) (by rw [e0]; exact Ar0.1) (State.isArrayOf_alike hZ.alike Ar0.2.1) Ar0.2.2 hin0 (Has.at Ha0 hin0 rfl) (g := (mkF m 7 #[.val (.ref a1), .val (.ref a2), .val (.long (Int32.toInt64 M)), .second, .val (.int p4), .unset, .unset] [(.int (0 : Int32)), (.ref a2)])) rfl rfl (hb hby d3_7) _ kz) ?_
    show OwnG _ _ _ _ _ _ (s₁.setTop (mkF m 8 #[.val (.ref a1), .val (.ref a2), .val (.long (Int32.toInt64 M)), .second, .val (.int p4), .unset, .unset] [(.int D)]))
    by_cases c2 : (0 : Int32) < D
    · have _u := ()
      refine OwnG.go (fun _ kz => XS.ifNo X0.here hx rfl (hb hby d3_8) rfl ((if0 _ _).trans (tlt c2).2.2.2) kz) ?_
      show OwnG _ _ _ _ _ _ (s₁.setTop (mkF m 11 #[.val (.ref a1), .val (.ref a2), .val (.long (Int32.toInt64 M)), .second, .val (.int p4), .unset, .unset] []))
      refine OwnG.go (fun _ kz => XS.aloadN X0.here hx rfl (hb hby d3_11) rfl rfl kz) ?_
      show OwnG _ _ _ _ _ _ (s₁.setTop (mkF m 12 #[.val (.ref a1), .val (.ref a2), .val (.long (Int32.toInt64 M)), .second, .val (.int p4), .unset, .unset] [(.ref a1)]))
      obtain ⟨cq4, kq4, q4a, q4b, q4c⟩ := isOf hZ e0 E1
      obtain ⟨_, _, ⟨T4, L4, k4, n4⟩, -, X4, ⟨Lc4, hQ4, l4, y4, z4⟩, st4⟩ := X0.virtualBack hx (y := (⟨"com/example/octavo/octavo/oer/Nesting", "leave", "()V"⟩ : MethodName)) (z := (⟨"com/example/octavo/octavo/oer/Nesting", "leave", "()V"⟩ : MethodName)) hown (mvT hZ (hw _ (List.mem_of_getElem? (i := 23) rfl))) (mvT hZ (hw _ (List.mem_of_getElem? (i := 24) rfl))) (notFace_of_selects (args := #[]) (mvT hZ (hw _ (List.mem_of_getElem? (i := 26) rfl)))) (mvT hZ (hw _ (List.mem_of_getElem? (i := 26) rfl))) (mvT hZ (hw _ (List.mem_of_getElem? (i := 25) rfl))) (by decide) (backOf (W := 0) (rm5 l Z a0 hw [] a1 M D h0 n0 Z0 E1 F1 F2 g1) hZ (hw _ (List.mem_of_getElem? (i := 27) rfl)) (hw _ (List.mem_of_getElem? (i := 2) rfl)) (by decide) (by decide)) q4a q4c (g := (mkF m 12 #[.val (.ref a1), .val (.ref a2), .val (.long (Int32.toInt64 M)), .second, .val (.int p4), .unset, .unset] [(.ref a1)])) rfl (by rw [hml]; rfl) (Steps.refl _) (argsL := []) (rest := []) (lenOf pd_5 rfl) rfl (by show 2 * 0 + _ ≤ _; exact Nat.le_of_eq rfl) (hb hby d3_12) (fun _ _ => ⟨rfl, e0, (by decide : 0 + 0 ≤ _), (by decide : 0 + 0 ≤ _)⟩)
      dsimp only [Pt.U, Pt.locs, Pt.cells, Pt.slots] at X4 l4 y4 z4 st4 hQ4
      subst l4 y4 z4
      obtain ⟨rfl, N4q, K4, Ex4, Fm4, Fd4⟩ := hQ4
      have N4 := Fr.app N0 N4q
      refine OwnG.go (fun tz kz => st4.trans kz) ?_
      show OwnG _ _ _ _ _ _ (T4.setTop (mkF m 15 #[.val (.ref a1), .val (.ref a2), .val (.long (Int32.toInt64 M)), .second, .val (.int p4), .unset, .unset] []))
      refine OwnG.go (fun _ kz => XS.aloadN X4.here hx rfl (hb hby d3_15) rfl rfl kz) ?_
      show OwnG _ _ _ _ _ _ (T4.setTop (mkF m 16 #[.val (.ref a1), .val (.ref a2), .val (.long (Int32.toInt64 M)), .second, .val (.int p4), .unset, .unset] [(.ref a2)]))
      refine OwnG.go (fun _ kz => XS.iconst X4.here hx rfl (hb hby d3_16) kz) ?_
      show OwnG _ _ _ _ _ _ (T4.setTop (mkF m 17 #[.val (.ref a1), .val (.ref a2), .val (.long (Int32.toInt64 M)), .second, .val (.int p4), .unset, .unset] [(.int (0 : Int32)), (.ref a2)]))
      refine OwnG.go (fun _ kz => XS.aloadN X4.here hx rfl (hb hby d3_17) rfl rfl kz) ?_
      show OwnG _ _ _ _ _ _ (T4.setTop (mkF m 18 #[.val (.ref a1), .val (.ref a2), .val (.long (Int32.toInt64 M)), .second, .val (.int p4), .unset, .unset] [(.ref a2), (.int (0 : Int32)), (.ref a2)]))
      refine OwnG.go (fun _ kz => XS.iconst X4.here hx rfl (hb hby d3_18) kz) ?_
      show OwnG _ _ _ _ _ _ (T4.setTop (mkF m 19 #[.val (.ref a1), .val (.ref a2), .val (.long (Int32.toInt64 M)), .second, .val (.int p4), .unset, .unset] [(.int (0 : Int32)), (.ref a2), (.int (0 : Int32)), (.ref a2)]))
      obtain ⟨cl1, Ar1, qa1, Sa1, Na1, Ha1, Ga1⟩ := id (V1.keep K4 (ninS (Ne.symm ne) nin0))
      have hin1 : ¬ ((0 : Int32) < 0 ∨ cl1.slots.size ≤ ((0 : Int32)).toNatClampNeg) := inb_of Sa1 ⟨by decide, by decide⟩
      refine OwnG.go (fun _ kz => X4.iaload hx (j := (0 : Int32)) (v := (.int D)) (by rw [(rfl : T4.heap = T4.heap)]; exact Ar1.1) (State.isArrayOf_alike hZ.alike Ar1.2.1) Ar1.2.2 hin1 (Has.at Ha1 hin1 rfl) (g := (mkF m 19 #[.val (.ref a1), .val (.ref a2), .val (.long (Int32.toInt64 M)), .second, .val (.int p4), .unset, .unset] [(.int (0 : Int32)), (.ref a2), (.int (0 : Int32)), (.ref a2)])) rfl rfl (hb hby d3_19) _ kz) ?_
      show OwnG _ _ _ _ _ _ (T4.setTop (mkF m 20 #[.val (.ref a1), .val (.ref a2), .val (.long (Int32.toInt64 M)), .second, .val (.int p4), .unset, .unset] [(.int D), (.int (0 : Int32)), (.ref a2)]))
      refine OwnG.go (fun _ kz => XS.iconst X4.here hx rfl (hb hby d3_20) kz) ?_
      show OwnG _ _ _ _ _ _ (T4.setTop (mkF m 21 #[.val (.ref a1), .val (.ref a2), .val (.long (Int32.toInt64 M)), .second, .val (.int p4), .unset, .unset] [(.int (1 : Int32)), (.int D), (.int (0 : Int32)), (.ref a2)]))
      refine OwnG.go (fun _ kz => XS.isub X4.here hx rfl (hb hby d3_21) rfl kz) ?_
      show OwnG _ _ _ _ _ _ (T4.setTop (mkF m 22 #[.val (.ref a1), .val (.ref a2), .val (.long (Int32.toInt64 M)), .second, .val (.int p4), .unset, .unset] [(.int (D - (1 : Int32))), (.int (0 : Int32)), (.ref a2)]))
      obtain ⟨T5, h5, X5, e5, W5, st5⟩ := stI X4 hx hZ (rfl : T4.heap = T4.heap) Ar1 (j := (0 : Int32)) hin1 (g := (mkF m 22 #[.val (.ref a1), .val (.ref a2), .val (.long (Int32.toInt64 M)), .second, .val (.int p4), .unset, .unset] [(.int (D - (1 : Int32))), (.int (0 : Int32)), (.ref a2)])) rfl rfl (hb hby d3_22)
      have N5 := Fr.snoc X5 N4 g2
      refine OwnG.go st5 ?_
      show OwnG _ _ _ _ _ _ (T5.setTop (mkF m 23 #[.val (.ref a1), .val (.ref a2), .val (.long (Int32.toInt64 M)), .second, .val (.int p4), .unset, .unset] []))
      have Vn := Arv.set Ar1 qa1 Sa1 Na1 Ha1 Ga1 rfl W5 0 rfl (Nat.le_of_ble_eq_true rfl)
      refine OwnG.go (fun _ kz => XS.iconst X5.here hx rfl (hb hby d3_23) kz) ?_
      show OwnG _ _ _ _ _ _ (T5.setTop (mkF m 24 #[.val (.ref a1), .val (.ref a2), .val (.long (Int32.toInt64 M)), .second, .val (.int p4), .unset, .unset] [(.int (1 : Int32))]))
      obtain ⟨fs, hr, hrun, hended, hW, hsame⟩ := X5.leave (v := some (.int (1 : Int32))) (fun h => by rw [Bd.returns] at h; cases h)
      refine ⟨_, _, retN X5 hx (t := .boolean) Bd.returns (by simp) (hb hby d3_24) hr, hrun, hended, _, _, rfl, ?_, ⟨_, rfl⟩, hW, hsame.mono (by decide) (by decide)⟩
      show (Q3 Z a1 a2 M p4 D kk h0 n0) _ T5.heap _
      rw [e5]
      exact ⟨rfl, N5, ((Keep.refl h0 [a1, a2]).trans K4 (allS (Or.inl (List.mem_of_getElem? (i := 0) rfl)) all0)).wr W5 (Or.inl (List.mem_of_getElem? (i := 1) rfl)), Ex4.wr W5, Fm4.other W5 (Or.inl ne), D - (1 : Int32), (own_dec c2 hu).1, (own_dec c2 hu).2, Fd4.other W5 (Or.inl ne), Vn⟩
    · have _u := ()
      refine OwnG.go (fun _ kz => XS.ifYes X0.here hx rfl (pc0 := 8) (pc' := 25) rfl (hb hby d3_8) rfl ((if0 _ _).trans (flt c2).2.2.2) (by decide) (by decide) kz) ?_
      show OwnG _ _ _ _ _ _ (s₁.setTop (mkF m 25 #[.val (.ref a1), .val (.ref a2), .val (.long (Int32.toInt64 M)), .second, .val (.int p4), .unset, .unset] []))
      exact B25
  · have _u := ()
    refine OwnG.go (fun _ kz => XS.ifYes X0.here hx rfl (pc0 := 2) (pc' := 25) rfl (hb hby d3_2) rfl ((if0 _ _).trans (feq c1).2) (by decide) (by decide) kz) ?_
    show OwnG _ _ _ _ _ _ (s₁.setTop (mkF m 25 #[.val (.ref a1), .val (.ref a2), .val (.long (Int32.toInt64 M)), .second, .val (.int p4), .unset, .unset] []))
    exact B25
theorem pn_0 : plainName "com/example/octavo/octavo/oer/NestingEnterPinLaw" = true := by first | (simp [plainName, overriddenIn]; done) | decide +kernel
theorem ef_0 (m : MethodId) (x0 : Int32) (x1 : Int32) : entryFrame m #[(.int x0), (.int x1)] maxLocals = mkF m 0 #[.val (.int x0), .val (.int x1), .unset, .unset, .unset, .unset] [] := by first | (simp [entryFrame, mkF, argsToLocals, Value.category, maxLocals]; done) | rfl
def Q0 (Z : State) (p1 : Int32) (p2 : Int32) (h0 : Heap) (n0 : Nat) (v : Option Value) (h : Heap) (L : List Loc) : Prop := v = some (.int (1 : Int32)) ∧ Fr n0 L
set_option maxRecDepth 65536 in
set_option maxHeartbeats 40000000 in
theorem rm0 (l : Launch) (Z : State) (a0 : Array Value) (hw : ∀ d ∈ tables_1, d.before a0 Z = true) (ws : List Jvm.Cond) (p1 : Int32) (p2 : Int32) (h0 : Heap) (n0 : Nat) (Z0 : n0 ≤ h0.size)  :
    MetFree l x (head1 (Jvm.Cond.code x code maxLocals ret :: ws) room_1) (fun a U => a = #[(.int p1), (.int p2)] ∧ Z.Warmed39 U.vm ∧ U.heap = h0) (fun _ _ _ _ _ => True) (fun _ U o U' => ∃ v L, o = .returned v ∧ (Q0 Z p1 p2 h0 n0) v U'.heap L ∧ FrameEnd U o U' L room_1.cells room_1.slots) := by
  refine MetFree.of_bodySF (plainFor_of_name pn_0) hisR ?_
  intro p e s m args below meth c s₁ Bd hml0 hP hK
  obtain ⟨rfl, hZ, hh⟩ := hP
  have hx := Bd.exec
  have hby := Bd.bytes
  have hml : c.maxLocals = 6 := hml0
  have hown : s.vm.findClass "com/example/octavo/octavo/oer/NestingEnterPinLaw" = some m.cls := (findClass_of_methodNamed Bd.named :)
  have hnm := (name_of_methodNamed Bd.named Bd.method).1
  have X0 : Stand p l e room_1 s m #[(.int p1), (.int p2)] below meth c s₁ [] 0 0 := Stand.of_body Bd
  have e0 : s₁.heap = h0 := by rw [← hh, Bd.state]; rfl
  have N0 := Fr.nil n0
  have B19 : ∀ M : Int32, OwnG p.tables e below s room_1 (Q0 Z p1 p2 h0 n0) (s₁.setTop (mkF m 19 #[.val (.int p1), .val (.int p2), .unset, .unset, .unset, .unset] [(.int M)])) := by
    intro M
    show OwnG _ _ _ _ _ _ (s₁.setTop (mkF m 19 #[.val (.int p1), .val (.int p2), .unset, .unset, .unset, .unset] [(.int M)]))
    refine OwnG.go (fun _ kz => XS.istoreN X0.here hx rfl (hb hby at_19) rfl (l' := #[.val (.int p1), .val (.int p2), .val (.int M), .unset, .unset, .unset]) rfl kz) ?_
    show OwnG _ _ _ _ _ _ (s₁.setTop (mkF m 20 #[.val (.int p1), .val (.int p2), .val (.int M), .unset, .unset, .unset] []))
    obtain ⟨T1, h1, X1, e1, E1, A1, D1, -, st1⟩ := newO X0 hx hZ hown (hw _ (List.mem_of_getElem? (i := 0) rfl)) (hw _ (List.mem_of_getElem? (i := 1) rfl)) (hw _ (List.mem_of_getElem? (i := 2) rfl)) e0 (g := (mkF m 20 #[.val (.int p1), .val (.int p2), .val (.int M), .unset, .unset, .unset] [])) rfl (hb hby at_20) (by decide) (by decide)
    obtain ⟨b1, g1⟩ : ∃ z, z = h0.size := ⟨_, rfl⟩
    rw [← g1] at A1 D1 st1
    refine OwnG.go st1 ?_
    show OwnG _ _ _ _ _ _ (T1.setTop (mkF m 23 #[.val (.int p1), .val (.int p2), .val (.int M), .unset, .unset, .unset] [(.ref b1)]))
    have F_maxDepth_b1 : Fld Z h1 b1 "com/example/octavo/octavo/oer/Nesting" "maxDepth" "I" (.int (0 : Int32)) := D1 (Or.inr (hw _ (List.mem_of_getElem? (i := 10) rfl))) (ty := .int) (by decide)
    have F_depth_b1 : Fld Z h1 b1 "com/example/octavo/octavo/oer/Nesting" "depth" "I" (.int (0 : Int32)) := D1 (Or.inl (hw _ (List.mem_of_getElem? (i := 22) rfl))) (ty := .int) (by decide)
    have go : n0 ≤ b1 := Nat.le_trans Z0 (Nat.le_of_eq g1.symm)
    have Z1 : n0 ≤ h1.size := Nat.le_trans Z0 E1.1
    refine OwnG.go (fun _ kz => XS.dup X1.here hx rfl (hb hby at_23) rfl rfl kz) ?_
    show OwnG _ _ _ _ _ _ (T1.setTop (mkF m 24 #[.val (.int p1), .val (.int p2), .val (.int M), .unset, .unset, .unset] [(.ref b1), (.ref b1)]))
    refine OwnG.go (fun _ kz => XS.iloadN X1.here hx rfl (hb hby at_24) rfl kz) ?_
    show OwnG _ _ _ _ _ _ (T1.setTop (mkF m 25 #[.val (.int p1), .val (.int p2), .val (.int M), .unset, .unset, .unset] [(.int M), (.ref b1), (.ref b1)]))
    obtain ⟨_, _, ⟨T2, L2, k2, n2⟩, -, X2, ⟨Lc2, hQ2, l2, y2, z2⟩, st2⟩ := X1.specialBack hx (y := (⟨"com/example/octavo/octavo/oer/Nesting", "<init>", "(I)V"⟩ : MethodName)) rfl hown (mvT hZ (hw _ (List.mem_of_getElem? (i := 3) rfl))) (mvT hZ (hw _ (List.mem_of_getElem? (i := 4) rfl))) (mvT hZ (hw _ (List.mem_of_getElem? (i := 5) rfl))) (by decide) (backOf (W := 1) (rm1 l Z a0 hw [] b1 M h1 n0 Z1 A1 F_maxDepth_b1 F_depth_b1 go) hZ (hw _ (List.mem_of_getElem? (i := 5) rfl)) (hw _ (List.mem_of_getElem? (i := 2) rfl)) (by decide) (by decide)) (g := (mkF m 25 #[.val (.int p1), .val (.int p2), .val (.int M), .unset, .unset, .unset] [(.int M), (.ref b1), (.ref b1)])) rfl (by rw [hml]; rfl) (Steps.refl _) (a := b1) (argsL := [(.int M)]) (rest := [(.ref b1)]) (lenOf pd_1 rfl) rfl (by show 2 * 0 + _ ≤ _; exact Nat.le_of_eq rfl) (hb hby at_25) (fun _ _ => ⟨rfl, e1, (by decide : 1 + 0 ≤ _), (by decide : 2 + 0 ≤ _)⟩)
    dsimp only [Pt.U, Pt.locs, Pt.cells, Pt.slots] at X2 l2 y2 z2 st2 hQ2
    subst l2 y2 z2
    obtain ⟨rfl, N2q, K2, Ex2, Fm2, Fd2⟩ := hQ2
    have N2 := Fr.app N0 N2q
    refine OwnG.go (fun tz kz => st2.trans kz) ?_
    show OwnG _ _ _ _ _ _ (T2.setTop (mkF m 28 #[.val (.int p1), .val (.int p2), .val (.int M), .unset, .unset, .unset] [(.ref b1)]))
    have Z2 : n0 ≤ T2.heap.size := Nat.le_trans Z1 K2.1
    refine OwnG.go (fun _ kz => XS.astoreN X2.here hx rfl (hb hby at_28) rfl rfl (l' := #[.val (.int p1), .val (.int p2), .val (.int M), .val (.ref b1), .unset, .unset]) rfl kz) ?_
    show OwnG _ _ _ _ _ _ (T2.setTop (mkF m 29 #[.val (.int p1), .val (.int p2), .val (.int M), .val (.ref b1), .unset, .unset] []))
    refine OwnG.go (fun _ kz => XS.iconst X2.here hx rfl (hb hby at_29) kz) ?_
    show OwnG _ _ _ _ _ _ (T2.setTop (mkF m 30 #[.val (.int p1), .val (.int p2), .val (.int M), .val (.ref b1), .unset, .unset] [(.int (1 : Int32))]))
    obtain ⟨T3, h3, k3, X3, e3, E3, A3, st3⟩ := newP X2 hx hZ (hw _ (List.mem_of_getElem? (i := 11) rfl)) (rfl : T2.heap = T2.heap) (g := (mkF m 30 #[.val (.int p1), .val (.int p2), .val (.int M), .val (.ref b1), .unset, .unset] [(.int (1 : Int32))])) rfl (hb hby at_30) rfl (by decide) (cap := 1) (by decide) (by decide) (by decide) (by decide)
    obtain ⟨b3, g3⟩ : ∃ z, z = T2.heap.size := ⟨_, rfl⟩
    rw [← g3] at A3 st3
    refine OwnG.go st3 ?_
    show OwnG _ _ _ _ _ _ (T3.setTop (mkF m 32 #[.val (.int p1), .val (.int p2), .val (.int M), .val (.ref b1), .unset, .unset] [(.ref b3)]))
    have ga : n0 ≤ b3 := Nat.le_trans Z2 (Nat.le_of_eq g3.symm)
    have ne : b1 ≠ b3 := Nat.ne_of_lt (Nat.lt_of_lt_of_le Ex2.lt (Nat.le_of_eq g3.symm))
    have Z3 : n0 ≤ h3.size := Nat.le_trans Z2 E3.1
    have V3 : Arv Z h3 b3 k3 .int (1 : Int32) [.int (0 : Int32)] (.int (0 : Int32)) := (Arv.new A3 (by decide)).pad (pad_rep [] (.int (0 : Int32)) 1)
    have Ex3 := Ex2.ext E3
    have Fm3 := Fm2.ext E3
    have Fd3 := Fd2.ext E3
    have hl3 : 0 ≤ (0 : Int32).toInt := by decide
    have hu3 : (0 : Int32).toInt ≤ 0 := by decide
    refine OwnG.go (fun _ kz => XS.astore X3.here hx rfl (hb hby at_32) rfl rfl (l' := #[.val (.int p1), .val (.int p2), .val (.int M), .val (.ref b1), .val (.ref b3), .unset]) rfl kz) ?_
    show OwnG _ _ _ _ _ _ (T3.setTop (mkF m 34 #[.val (.int p1), .val (.int p2), .val (.int M), .val (.ref b1), .val (.ref b3), .unset] []))
    refine OwnG.go (fun _ kz => XS.aloadN X3.here hx rfl (hb hby at_34) rfl rfl kz) ?_
    show OwnG _ _ _ _ _ _ (T3.setTop (mkF m 35 #[.val (.int p1), .val (.int p2), .val (.int M), .val (.ref b1), .val (.ref b3), .unset] [(.ref b1)]))
    refine OwnG.go (fun _ kz => XS.aload X3.here hx rfl (hb hby at_35) rfl rfl kz) ?_
    show OwnG _ _ _ _ _ _ (T3.setTop (mkF m 37 #[.val (.int p1), .val (.int p2), .val (.int M), .val (.ref b1), .val (.ref b3), .unset] [(.ref b3), (.ref b1)]))
    refine OwnG.go (fun _ kz => XS.iloadN X3.here hx rfl (hb hby at_37) rfl kz) ?_
    show OwnG _ _ _ _ _ _ (T3.setTop (mkF m 38 #[.val (.int p1), .val (.int p2), .val (.int M), .val (.ref b1), .val (.ref b3), .unset] [(.int M), (.ref b3), (.ref b1)]))
    refine OwnG.go (fun _ kz => XS.i2l X3.here hx rfl (hb hby at_38) rfl kz) ?_
    show OwnG _ _ _ _ _ _ (T3.setTop (mkF m 39 #[.val (.int p1), .val (.int p2), .val (.int M), .val (.ref b1), .val (.ref b3), .unset] [(.long (M.toInt64)), (.ref b3), (.ref b1)]))
    refine OwnG.go (fun _ kz => XS.iloadN X3.here hx rfl (hb hby at_39) rfl kz) ?_
    show OwnG _ _ _ _ _ _ (T3.setTop (mkF m 40 #[.val (.int p1), .val (.int p2), .val (.int M), .val (.ref b1), .val (.ref b3), .unset] [(.int p2), (.long (M.toInt64)), (.ref b3), (.ref b1)]))
    refine OwnG.go (fun _ kz => XS.iconst X3.here hx rfl (hb hby at_40) kz) ?_
    show OwnG _ _ _ _ _ _ (T3.setTop (mkF m 41 #[.val (.int p1), .val (.int p2), .val (.int M), .val (.ref b1), .val (.ref b3), .unset] [(.int (1 : Int32)), (.int p2), (.long (M.toInt64)), (.ref b3), (.ref b1)]))
    refine OwnG.go (fun _ kz => XS.iand X3.here hx rfl (hb hby at_41) rfl kz) ?_
    show OwnG _ _ _ _ _ _ (T3.setTop (mkF m 42 #[.val (.int p1), .val (.int p2), .val (.int M), .val (.ref b1), .val (.ref b3), .unset] [(.int (p2 &&& (1 : Int32))), (.long (M.toInt64)), (.ref b3), (.ref b1)]))
    obtain ⟨_, _, ⟨T4, L4, k4, n4⟩, -, X4, ⟨Lc4, hQ4, l4, y4, z4⟩, st4⟩ := Jvm.LawKit.callS X3 hx (y := (⟨"com/example/octavo/octavo/oer/NestingEnterPinLaw", "step", "(Lcom/example/octavo/octavo/oer/Nesting;[IJI)Z"⟩ : MethodName)) hown (mvT hZ (hw _ (List.mem_of_getElem? (i := 12) rfl))) (mvT hZ (hw _ (List.mem_of_getElem? (i := 13) rfl))) (mvT hZ (hw _ (List.mem_of_getElem? (i := 14) rfl))) (mvT hZ (hw _ (List.mem_of_getElem? (i := 15) rfl))) (by decide) (backOf (W := 0) (rm3 l Z a0 hw [] b1 b3 M (p2 &&& (1 : Int32)) (0 : Int32) k3 h3 n0 Z3 Ex3 Fm3 Fd3 V3 go ga ne hl3 (by have := hu3; omega)) hZ (hw _ (List.mem_of_getElem? (i := 15) rfl)) (hw _ (List.mem_of_getElem? (i := 14) rfl)) (by decide) (by decide)) (g := (mkF m 42 #[.val (.int p1), .val (.int p2), .val (.int M), .val (.ref b1), .val (.ref b3), .unset] [(.int (p2 &&& (1 : Int32))), (.long (M.toInt64)), (.ref b3), (.ref b1)])) rfl (by rw [hml]; rfl) (argsL := [(.ref b1), (.ref b3), (.long (M.toInt64)), (.int (p2 &&& (1 : Int32)))]) (rest := []) (lenOf pd_3 rfl) rfl (by show 2 * 0 + _ ≤ _; exact Nat.le_of_eq rfl) (hb hby at_42) (fun _ _ => ⟨rfl, e3, (by decide : 2 + 0 ≤ _), (by decide : 3 + 0 ≤ _)⟩)
    dsimp only [Pt.U, Pt.locs, Pt.cells, Pt.slots] at X4 l4 y4 z4 st4 hQ4
    subst l4 y4 z4
    obtain ⟨rfl, N4q, K4, Ex4, Fm4, Dn4, hl4, hq4, Fd4, V4⟩ := hQ4
    have N4 := Fr.app N2 N4q
    refine OwnG.go (fun tz kz => st4 tz kz) ?_
    show OwnG _ _ _ _ _ _ (T4.setTop (mkF m 45 #[.val (.int p1), .val (.int p2), .val (.int M), .val (.ref b1), .val (.ref b3), .unset] [(.int (1 : Int32))]))
    have Z4 : n0 ≤ T4.heap.size := Nat.le_trans Z3 K4.1
    have hu4 : Dn4.toInt ≤ 1 := by have := hu3; omega
    refine OwnG.go (fun _ kz => XS.istore X4.here hx rfl (hb hby at_45) rfl (l' := #[.val (.int p1), .val (.int p2), .val (.int M), .val (.ref b1), .val (.ref b3), .val (.int (1 : Int32))]) rfl kz) ?_
    show OwnG _ _ _ _ _ _ (T4.setTop (mkF m 47 #[.val (.int p1), .val (.int p2), .val (.int M), .val (.ref b1), .val (.ref b3), .val (.int (1 : Int32))] []))
    refine OwnG.go (fun _ kz => XS.iload X4.here hx rfl (hb hby at_47) rfl kz) ?_
    show OwnG _ _ _ _ _ _ (T4.setTop (mkF m 49 #[.val (.int p1), .val (.int p2), .val (.int M), .val (.ref b1), .val (.ref b3), .val (.int (1 : Int32))] [(.int (1 : Int32))]))
    refine OwnG.go (fun _ kz => XS.aloadN X4.here hx rfl (hb hby at_49) rfl rfl kz) ?_
    show OwnG _ _ _ _ _ _ (T4.setTop (mkF m 50 #[.val (.int p1), .val (.int p2), .val (.int M), .val (.ref b1), .val (.ref b3), .val (.int (1 : Int32))] [(.ref b1), (.int (1 : Int32))]))
    refine OwnG.go (fun _ kz => XS.aload X4.here hx rfl (hb hby at_50) rfl rfl kz) ?_
    show OwnG _ _ _ _ _ _ (T4.setTop (mkF m 52 #[.val (.int p1), .val (.int p2), .val (.int M), .val (.ref b1), .val (.ref b3), .val (.int (1 : Int32))] [(.ref b3), (.ref b1), (.int (1 : Int32))]))
    refine OwnG.go (fun _ kz => XS.iloadN X4.here hx rfl (hb hby at_52) rfl kz) ?_
    show OwnG _ _ _ _ _ _ (T4.setTop (mkF m 53 #[.val (.int p1), .val (.int p2), .val (.int M), .val (.ref b1), .val (.ref b3), .val (.int (1 : Int32))] [(.int M), (.ref b3), (.ref b1), (.int (1 : Int32))]))
    refine OwnG.go (fun _ kz => XS.i2l X4.here hx rfl (hb hby at_53) rfl kz) ?_
    show OwnG _ _ _ _ _ _ (T4.setTop (mkF m 54 #[.val (.int p1), .val (.int p2), .val (.int M), .val (.ref b1), .val (.ref b3), .val (.int (1 : Int32))] [(.long (M.toInt64)), (.ref b3), (.ref b1), (.int (1 : Int32))]))
    refine OwnG.go (fun _ kz => XS.iloadN X4.here hx rfl (hb hby at_54) rfl kz) ?_
    show OwnG _ _ _ _ _ _ (T4.setTop (mkF m 55 #[.val (.int p1), .val (.int p2), .val (.int M), .val (.ref b1), .val (.ref b3), .val (.int (1 : Int32))] [(.int p2), (.long (M.toInt64)), (.ref b3), (.ref b1), (.int (1 : Int32))]))
    refine OwnG.go (fun _ kz => XS.iconst X4.here hx rfl (hb hby at_55) kz) ?_
    show OwnG _ _ _ _ _ _ (T4.setTop (mkF m 56 #[.val (.int p1), .val (.int p2), .val (.int M), .val (.ref b1), .val (.ref b3), .val (.int (1 : Int32))] [(.int (1 : Int32)), (.int p2), (.long (M.toInt64)), (.ref b3), (.ref b1), (.int (1 : Int32))]))
    refine OwnG.go (fun _ kz => XS.iushr X4.here hx rfl (hb hby at_56) rfl kz) ?_
    show OwnG _ _ _ _ _ _ (T4.setTop (mkF m 57 #[.val (.int p1), .val (.int p2), .val (.int M), .val (.ref b1), .val (.ref b3), .val (.int (1 : Int32))] [(.int ((p2.toUInt32 >>> ((1 : Int32) &&& 31).toUInt32).toInt32)), (.long (M.toInt64)), (.ref b3), (.ref b1), (.int (1 : Int32))]))
    refine OwnG.go (fun _ kz => XS.iconst X4.here hx rfl (hb hby at_57) kz) ?_
    show OwnG _ _ _ _ _ _ (T4.setTop (mkF m 58 #[.val (.int p1), .val (.int p2), .val (.int M), .val (.ref b1), .val (.ref b3), .val (.int (1 : Int32))] [(.int (1 : Int32)), (.int ((p2.toUInt32 >>> ((1 : Int32) &&& 31).toUInt32).toInt32)), (.long (M.toInt64)), (.ref b3), (.ref b1), (.int (1 : Int32))]))
    refine OwnG.go (fun _ kz => XS.iand X4.here hx rfl (hb hby at_58) rfl kz) ?_
    show OwnG _ _ _ _ _ _ (T4.setTop (mkF m 59 #[.val (.int p1), .val (.int p2), .val (.int M), .val (.ref b1), .val (.ref b3), .val (.int (1 : Int32))] [(.int (((p2.toUInt32 >>> ((1 : Int32) &&& 31).toUInt32).toInt32) &&& (1 : Int32))), (.long (M.toInt64)), (.ref b3), (.ref b1), (.int (1 : Int32))]))
    obtain ⟨_, _, ⟨T5, L5, k5, n5⟩, -, X5, ⟨Lc5, hQ5, l5, y5, z5⟩, st5⟩ := Jvm.LawKit.callS X4 hx (y := (⟨"com/example/octavo/octavo/oer/NestingEnterPinLaw", "step", "(Lcom/example/octavo/octavo/oer/Nesting;[IJI)Z"⟩ : MethodName)) hown (mvT hZ (hw _ (List.mem_of_getElem? (i := 12) rfl))) (mvT hZ (hw _ (List.mem_of_getElem? (i := 13) rfl))) (mvT hZ (hw _ (List.mem_of_getElem? (i := 14) rfl))) (mvT hZ (hw _ (List.mem_of_getElem? (i := 15) rfl))) (by decide) (backOf (W := 1) (rm3 l Z a0 hw [] b1 b3 M (((p2.toUInt32 >>> ((1 : Int32) &&& 31).toUInt32).toInt32) &&& (1 : Int32)) Dn4 k3 T4.heap n0 Z4 Ex4 Fm4 Fd4 V4 go ga ne hl4 (by have := hu4; omega)) hZ (hw _ (List.mem_of_getElem? (i := 15) rfl)) (hw _ (List.mem_of_getElem? (i := 14) rfl)) (by decide) (by decide)) (g := (mkF m 59 #[.val (.int p1), .val (.int p2), .val (.int M), .val (.ref b1), .val (.ref b3), .val (.int (1 : Int32))] [(.int (((p2.toUInt32 >>> ((1 : Int32) &&& 31).toUInt32).toInt32) &&& (1 : Int32))), (.long (M.toInt64)), (.ref b3), (.ref b1), (.int (1 : Int32))])) rfl (by rw [hml]; rfl) (argsL := [(.ref b1), (.ref b3), (.long (M.toInt64)), (.int (((p2.toUInt32 >>> ((1 : Int32) &&& 31).toUInt32).toInt32) &&& (1 : Int32)))]) (rest := [(.int (1 : Int32))]) (lenOf pd_3 rfl) rfl (by show 2 * 0 + _ ≤ _; exact Nat.le_of_eq rfl) (hb hby at_59) (fun _ _ => ⟨rfl, (rfl : T4.heap = T4.heap), (by decide : 2 + 0 ≤ _), (by decide : 3 + 0 ≤ _)⟩)
    dsimp only [Pt.U, Pt.locs, Pt.cells, Pt.slots] at X5 l5 y5 z5 st5 hQ5
    subst l5 y5 z5
    obtain ⟨rfl, N5q, K5, Ex5, Fm5, Dn5, hl5, hq5, Fd5, V5⟩ := hQ5
    have N5 := Fr.app N4 N5q
    refine OwnG.go (fun tz kz => st5 tz kz) ?_
    show OwnG _ _ _ _ _ _ (T5.setTop (mkF m 62 #[.val (.int p1), .val (.int p2), .val (.int M), .val (.ref b1), .val (.ref b3), .val (.int (1 : Int32))] [(.int (1 : Int32)), (.int (1 : Int32))]))
    have Z5 : n0 ≤ T5.heap.size := Nat.le_trans Z4 K5.1
    have hu5 : Dn5.toInt ≤ 2 := by have := hu4; omega
    refine OwnG.go (fun _ kz => XS.iand X5.here hx rfl (hb hby at_62) rfl kz) ?_
    show OwnG _ _ _ _ _ _ (T5.setTop (mkF m 63 #[.val (.int p1), .val (.int p2), .val (.int M), .val (.ref b1), .val (.ref b3), .val (.int (1 : Int32))] [(.int ((1 : Int32) &&& (1 : Int32)))]))
    rw [own_11]
    show OwnG _ _ _ _ _ _ (T5.setTop (mkF m 63 #[.val (.int p1), .val (.int p2), .val (.int M), .val (.ref b1), .val (.ref b3), .val (.int (1 : Int32))] [(.int (1 : Int32))]))
    refine OwnG.go (fun _ kz => XS.istore X5.here hx rfl (hb hby at_63) rfl (l' := #[.val (.int p1), .val (.int p2), .val (.int M), .val (.ref b1), .val (.ref b3), .val (.int (1 : Int32))]) rfl kz) ?_
    show OwnG _ _ _ _ _ _ (T5.setTop (mkF m 65 #[.val (.int p1), .val (.int p2), .val (.int M), .val (.ref b1), .val (.ref b3), .val (.int (1 : Int32))] []))
    refine OwnG.go (fun _ kz => XS.iload X5.here hx rfl (hb hby at_65) rfl kz) ?_
    show OwnG _ _ _ _ _ _ (T5.setTop (mkF m 67 #[.val (.int p1), .val (.int p2), .val (.int M), .val (.ref b1), .val (.ref b3), .val (.int (1 : Int32))] [(.int (1 : Int32))]))
    refine OwnG.go (fun _ kz => XS.aloadN X5.here hx rfl (hb hby at_67) rfl rfl kz) ?_
    show OwnG _ _ _ _ _ _ (T5.setTop (mkF m 68 #[.val (.int p1), .val (.int p2), .val (.int M), .val (.ref b1), .val (.ref b3), .val (.int (1 : Int32))] [(.ref b1), (.int (1 : Int32))]))
    refine OwnG.go (fun _ kz => XS.aload X5.here hx rfl (hb hby at_68) rfl rfl kz) ?_
    show OwnG _ _ _ _ _ _ (T5.setTop (mkF m 70 #[.val (.int p1), .val (.int p2), .val (.int M), .val (.ref b1), .val (.ref b3), .val (.int (1 : Int32))] [(.ref b3), (.ref b1), (.int (1 : Int32))]))
    refine OwnG.go (fun _ kz => XS.iloadN X5.here hx rfl (hb hby at_70) rfl kz) ?_
    show OwnG _ _ _ _ _ _ (T5.setTop (mkF m 71 #[.val (.int p1), .val (.int p2), .val (.int M), .val (.ref b1), .val (.ref b3), .val (.int (1 : Int32))] [(.int M), (.ref b3), (.ref b1), (.int (1 : Int32))]))
    refine OwnG.go (fun _ kz => XS.i2l X5.here hx rfl (hb hby at_71) rfl kz) ?_
    show OwnG _ _ _ _ _ _ (T5.setTop (mkF m 72 #[.val (.int p1), .val (.int p2), .val (.int M), .val (.ref b1), .val (.ref b3), .val (.int (1 : Int32))] [(.long (M.toInt64)), (.ref b3), (.ref b1), (.int (1 : Int32))]))
    refine OwnG.go (fun _ kz => XS.iloadN X5.here hx rfl (hb hby at_72) rfl kz) ?_
    show OwnG _ _ _ _ _ _ (T5.setTop (mkF m 73 #[.val (.int p1), .val (.int p2), .val (.int M), .val (.ref b1), .val (.ref b3), .val (.int (1 : Int32))] [(.int p2), (.long (M.toInt64)), (.ref b3), (.ref b1), (.int (1 : Int32))]))
    refine OwnG.go (fun _ kz => XS.iconst X5.here hx rfl (hb hby at_73) kz) ?_
    show OwnG _ _ _ _ _ _ (T5.setTop (mkF m 74 #[.val (.int p1), .val (.int p2), .val (.int M), .val (.ref b1), .val (.ref b3), .val (.int (1 : Int32))] [(.int (2 : Int32)), (.int p2), (.long (M.toInt64)), (.ref b3), (.ref b1), (.int (1 : Int32))]))
    refine OwnG.go (fun _ kz => XS.iushr X5.here hx rfl (hb hby at_74) rfl kz) ?_
    show OwnG _ _ _ _ _ _ (T5.setTop (mkF m 75 #[.val (.int p1), .val (.int p2), .val (.int M), .val (.ref b1), .val (.ref b3), .val (.int (1 : Int32))] [(.int ((p2.toUInt32 >>> ((2 : Int32) &&& 31).toUInt32).toInt32)), (.long (M.toInt64)), (.ref b3), (.ref b1), (.int (1 : Int32))]))
    refine OwnG.go (fun _ kz => XS.iconst X5.here hx rfl (hb hby at_75) kz) ?_
    show OwnG _ _ _ _ _ _ (T5.setTop (mkF m 76 #[.val (.int p1), .val (.int p2), .val (.int M), .val (.ref b1), .val (.ref b3), .val (.int (1 : Int32))] [(.int (1 : Int32)), (.int ((p2.toUInt32 >>> ((2 : Int32) &&& 31).toUInt32).toInt32)), (.long (M.toInt64)), (.ref b3), (.ref b1), (.int (1 : Int32))]))
    refine OwnG.go (fun _ kz => XS.iand X5.here hx rfl (hb hby at_76) rfl kz) ?_
    show OwnG _ _ _ _ _ _ (T5.setTop (mkF m 77 #[.val (.int p1), .val (.int p2), .val (.int M), .val (.ref b1), .val (.ref b3), .val (.int (1 : Int32))] [(.int (((p2.toUInt32 >>> ((2 : Int32) &&& 31).toUInt32).toInt32) &&& (1 : Int32))), (.long (M.toInt64)), (.ref b3), (.ref b1), (.int (1 : Int32))]))
    obtain ⟨_, _, ⟨T6, L6, k6, n6⟩, -, X6, ⟨Lc6, hQ6, l6, y6, z6⟩, st6⟩ := Jvm.LawKit.callS X5 hx (y := (⟨"com/example/octavo/octavo/oer/NestingEnterPinLaw", "step", "(Lcom/example/octavo/octavo/oer/Nesting;[IJI)Z"⟩ : MethodName)) hown (mvT hZ (hw _ (List.mem_of_getElem? (i := 12) rfl))) (mvT hZ (hw _ (List.mem_of_getElem? (i := 13) rfl))) (mvT hZ (hw _ (List.mem_of_getElem? (i := 14) rfl))) (mvT hZ (hw _ (List.mem_of_getElem? (i := 15) rfl))) (by decide) (backOf (W := 1) (rm3 l Z a0 hw [] b1 b3 M (((p2.toUInt32 >>> ((2 : Int32) &&& 31).toUInt32).toInt32) &&& (1 : Int32)) Dn5 k3 T5.heap n0 Z5 Ex5 Fm5 Fd5 V5 go ga ne hl5 (by have := hu5; omega)) hZ (hw _ (List.mem_of_getElem? (i := 15) rfl)) (hw _ (List.mem_of_getElem? (i := 14) rfl)) (by decide) (by decide)) (g := (mkF m 77 #[.val (.int p1), .val (.int p2), .val (.int M), .val (.ref b1), .val (.ref b3), .val (.int (1 : Int32))] [(.int (((p2.toUInt32 >>> ((2 : Int32) &&& 31).toUInt32).toInt32) &&& (1 : Int32))), (.long (M.toInt64)), (.ref b3), (.ref b1), (.int (1 : Int32))])) rfl (by rw [hml]; rfl) (argsL := [(.ref b1), (.ref b3), (.long (M.toInt64)), (.int (((p2.toUInt32 >>> ((2 : Int32) &&& 31).toUInt32).toInt32) &&& (1 : Int32)))]) (rest := [(.int (1 : Int32))]) (lenOf pd_3 rfl) rfl (by show 2 * 0 + _ ≤ _; exact Nat.le_of_eq rfl) (hb hby at_77) (fun _ _ => ⟨rfl, (rfl : T5.heap = T5.heap), (by decide : 2 + 0 ≤ _), (by decide : 3 + 0 ≤ _)⟩)
    dsimp only [Pt.U, Pt.locs, Pt.cells, Pt.slots] at X6 l6 y6 z6 st6 hQ6
    subst l6 y6 z6
    obtain ⟨rfl, N6q, K6, Ex6, Fm6, Dn6, hl6, hq6, Fd6, V6⟩ := hQ6
    have N6 := Fr.app N5 N6q
    refine OwnG.go (fun tz kz => st6 tz kz) ?_
    show OwnG _ _ _ _ _ _ (T6.setTop (mkF m 80 #[.val (.int p1), .val (.int p2), .val (.int M), .val (.ref b1), .val (.ref b3), .val (.int (1 : Int32))] [(.int (1 : Int32)), (.int (1 : Int32))]))
    have Z6 : n0 ≤ T6.heap.size := Nat.le_trans Z5 K6.1
    have hu6 : Dn6.toInt ≤ 3 := by have := hu5; omega
    refine OwnG.go (fun _ kz => XS.iand X6.here hx rfl (hb hby at_80) rfl kz) ?_
    show OwnG _ _ _ _ _ _ (T6.setTop (mkF m 81 #[.val (.int p1), .val (.int p2), .val (.int M), .val (.ref b1), .val (.ref b3), .val (.int (1 : Int32))] [(.int ((1 : Int32) &&& (1 : Int32)))]))
    rw [own_11]
    show OwnG _ _ _ _ _ _ (T6.setTop (mkF m 81 #[.val (.int p1), .val (.int p2), .val (.int M), .val (.ref b1), .val (.ref b3), .val (.int (1 : Int32))] [(.int (1 : Int32))]))
    refine OwnG.go (fun _ kz => XS.istore X6.here hx rfl (hb hby at_81) rfl (l' := #[.val (.int p1), .val (.int p2), .val (.int M), .val (.ref b1), .val (.ref b3), .val (.int (1 : Int32))]) rfl kz) ?_
    show OwnG _ _ _ _ _ _ (T6.setTop (mkF m 83 #[.val (.int p1), .val (.int p2), .val (.int M), .val (.ref b1), .val (.ref b3), .val (.int (1 : Int32))] []))
    refine OwnG.go (fun _ kz => XS.iload X6.here hx rfl (hb hby at_83) rfl kz) ?_
    show OwnG _ _ _ _ _ _ (T6.setTop (mkF m 85 #[.val (.int p1), .val (.int p2), .val (.int M), .val (.ref b1), .val (.ref b3), .val (.int (1 : Int32))] [(.int (1 : Int32))]))
    refine OwnG.go (fun _ kz => XS.aloadN X6.here hx rfl (hb hby at_85) rfl rfl kz) ?_
    show OwnG _ _ _ _ _ _ (T6.setTop (mkF m 86 #[.val (.int p1), .val (.int p2), .val (.int M), .val (.ref b1), .val (.ref b3), .val (.int (1 : Int32))] [(.ref b1), (.int (1 : Int32))]))
    refine OwnG.go (fun _ kz => XS.aload X6.here hx rfl (hb hby at_86) rfl rfl kz) ?_
    show OwnG _ _ _ _ _ _ (T6.setTop (mkF m 88 #[.val (.int p1), .val (.int p2), .val (.int M), .val (.ref b1), .val (.ref b3), .val (.int (1 : Int32))] [(.ref b3), (.ref b1), (.int (1 : Int32))]))
    refine OwnG.go (fun _ kz => XS.iloadN X6.here hx rfl (hb hby at_88) rfl kz) ?_
    show OwnG _ _ _ _ _ _ (T6.setTop (mkF m 89 #[.val (.int p1), .val (.int p2), .val (.int M), .val (.ref b1), .val (.ref b3), .val (.int (1 : Int32))] [(.int M), (.ref b3), (.ref b1), (.int (1 : Int32))]))
    refine OwnG.go (fun _ kz => XS.i2l X6.here hx rfl (hb hby at_89) rfl kz) ?_
    show OwnG _ _ _ _ _ _ (T6.setTop (mkF m 90 #[.val (.int p1), .val (.int p2), .val (.int M), .val (.ref b1), .val (.ref b3), .val (.int (1 : Int32))] [(.long (M.toInt64)), (.ref b3), (.ref b1), (.int (1 : Int32))]))
    refine OwnG.go (fun _ kz => XS.iloadN X6.here hx rfl (hb hby at_90) rfl kz) ?_
    show OwnG _ _ _ _ _ _ (T6.setTop (mkF m 91 #[.val (.int p1), .val (.int p2), .val (.int M), .val (.ref b1), .val (.ref b3), .val (.int (1 : Int32))] [(.int p2), (.long (M.toInt64)), (.ref b3), (.ref b1), (.int (1 : Int32))]))
    refine OwnG.go (fun _ kz => XS.iconst X6.here hx rfl (hb hby at_91) kz) ?_
    show OwnG _ _ _ _ _ _ (T6.setTop (mkF m 92 #[.val (.int p1), .val (.int p2), .val (.int M), .val (.ref b1), .val (.ref b3), .val (.int (1 : Int32))] [(.int (3 : Int32)), (.int p2), (.long (M.toInt64)), (.ref b3), (.ref b1), (.int (1 : Int32))]))
    refine OwnG.go (fun _ kz => XS.iushr X6.here hx rfl (hb hby at_92) rfl kz) ?_
    show OwnG _ _ _ _ _ _ (T6.setTop (mkF m 93 #[.val (.int p1), .val (.int p2), .val (.int M), .val (.ref b1), .val (.ref b3), .val (.int (1 : Int32))] [(.int ((p2.toUInt32 >>> ((3 : Int32) &&& 31).toUInt32).toInt32)), (.long (M.toInt64)), (.ref b3), (.ref b1), (.int (1 : Int32))]))
    refine OwnG.go (fun _ kz => XS.iconst X6.here hx rfl (hb hby at_93) kz) ?_
    show OwnG _ _ _ _ _ _ (T6.setTop (mkF m 94 #[.val (.int p1), .val (.int p2), .val (.int M), .val (.ref b1), .val (.ref b3), .val (.int (1 : Int32))] [(.int (1 : Int32)), (.int ((p2.toUInt32 >>> ((3 : Int32) &&& 31).toUInt32).toInt32)), (.long (M.toInt64)), (.ref b3), (.ref b1), (.int (1 : Int32))]))
    refine OwnG.go (fun _ kz => XS.iand X6.here hx rfl (hb hby at_94) rfl kz) ?_
    show OwnG _ _ _ _ _ _ (T6.setTop (mkF m 95 #[.val (.int p1), .val (.int p2), .val (.int M), .val (.ref b1), .val (.ref b3), .val (.int (1 : Int32))] [(.int (((p2.toUInt32 >>> ((3 : Int32) &&& 31).toUInt32).toInt32) &&& (1 : Int32))), (.long (M.toInt64)), (.ref b3), (.ref b1), (.int (1 : Int32))]))
    obtain ⟨_, _, ⟨T7, L7, k7, n7⟩, -, X7, ⟨Lc7, hQ7, l7, y7, z7⟩, st7⟩ := Jvm.LawKit.callS X6 hx (y := (⟨"com/example/octavo/octavo/oer/NestingEnterPinLaw", "step", "(Lcom/example/octavo/octavo/oer/Nesting;[IJI)Z"⟩ : MethodName)) hown (mvT hZ (hw _ (List.mem_of_getElem? (i := 12) rfl))) (mvT hZ (hw _ (List.mem_of_getElem? (i := 13) rfl))) (mvT hZ (hw _ (List.mem_of_getElem? (i := 14) rfl))) (mvT hZ (hw _ (List.mem_of_getElem? (i := 15) rfl))) (by decide) (backOf (W := 1) (rm3 l Z a0 hw [] b1 b3 M (((p2.toUInt32 >>> ((3 : Int32) &&& 31).toUInt32).toInt32) &&& (1 : Int32)) Dn6 k3 T6.heap n0 Z6 Ex6 Fm6 Fd6 V6 go ga ne hl6 (by have := hu6; omega)) hZ (hw _ (List.mem_of_getElem? (i := 15) rfl)) (hw _ (List.mem_of_getElem? (i := 14) rfl)) (by decide) (by decide)) (g := (mkF m 95 #[.val (.int p1), .val (.int p2), .val (.int M), .val (.ref b1), .val (.ref b3), .val (.int (1 : Int32))] [(.int (((p2.toUInt32 >>> ((3 : Int32) &&& 31).toUInt32).toInt32) &&& (1 : Int32))), (.long (M.toInt64)), (.ref b3), (.ref b1), (.int (1 : Int32))])) rfl (by rw [hml]; rfl) (argsL := [(.ref b1), (.ref b3), (.long (M.toInt64)), (.int (((p2.toUInt32 >>> ((3 : Int32) &&& 31).toUInt32).toInt32) &&& (1 : Int32)))]) (rest := [(.int (1 : Int32))]) (lenOf pd_3 rfl) rfl (by show 2 * 0 + _ ≤ _; exact Nat.le_of_eq rfl) (hb hby at_95) (fun _ _ => ⟨rfl, (rfl : T6.heap = T6.heap), (by decide : 2 + 0 ≤ _), (by decide : 3 + 0 ≤ _)⟩)
    dsimp only [Pt.U, Pt.locs, Pt.cells, Pt.slots] at X7 l7 y7 z7 st7 hQ7
    subst l7 y7 z7
    obtain ⟨rfl, N7q, K7, Ex7, Fm7, Dn7, hl7, hq7, Fd7, V7⟩ := hQ7
    have N7 := Fr.app N6 N7q
    refine OwnG.go (fun tz kz => st7 tz kz) ?_
    show OwnG _ _ _ _ _ _ (T7.setTop (mkF m 98 #[.val (.int p1), .val (.int p2), .val (.int M), .val (.ref b1), .val (.ref b3), .val (.int (1 : Int32))] [(.int (1 : Int32)), (.int (1 : Int32))]))
    have Z7 : n0 ≤ T7.heap.size := Nat.le_trans Z6 K7.1
    have hu7 : Dn7.toInt ≤ 4 := by have := hu6; omega
    refine OwnG.go (fun _ kz => XS.iand X7.here hx rfl (hb hby at_98) rfl kz) ?_
    show OwnG _ _ _ _ _ _ (T7.setTop (mkF m 99 #[.val (.int p1), .val (.int p2), .val (.int M), .val (.ref b1), .val (.ref b3), .val (.int (1 : Int32))] [(.int ((1 : Int32) &&& (1 : Int32)))]))
    rw [own_11]
    show OwnG _ _ _ _ _ _ (T7.setTop (mkF m 99 #[.val (.int p1), .val (.int p2), .val (.int M), .val (.ref b1), .val (.ref b3), .val (.int (1 : Int32))] [(.int (1 : Int32))]))
    refine OwnG.go (fun _ kz => XS.istore X7.here hx rfl (hb hby at_99) rfl (l' := #[.val (.int p1), .val (.int p2), .val (.int M), .val (.ref b1), .val (.ref b3), .val (.int (1 : Int32))]) rfl kz) ?_
    show OwnG _ _ _ _ _ _ (T7.setTop (mkF m 101 #[.val (.int p1), .val (.int p2), .val (.int M), .val (.ref b1), .val (.ref b3), .val (.int (1 : Int32))] []))
    refine OwnG.go (fun _ kz => XS.iload X7.here hx rfl (hb hby at_101) rfl kz) ?_
    show OwnG _ _ _ _ _ _ (T7.setTop (mkF m 103 #[.val (.int p1), .val (.int p2), .val (.int M), .val (.ref b1), .val (.ref b3), .val (.int (1 : Int32))] [(.int (1 : Int32))]))
    refine OwnG.go (fun _ kz => XS.aloadN X7.here hx rfl (hb hby at_103) rfl rfl kz) ?_
    show OwnG _ _ _ _ _ _ (T7.setTop (mkF m 104 #[.val (.int p1), .val (.int p2), .val (.int M), .val (.ref b1), .val (.ref b3), .val (.int (1 : Int32))] [(.ref b1), (.int (1 : Int32))]))
    refine OwnG.go (fun _ kz => XS.aload X7.here hx rfl (hb hby at_104) rfl rfl kz) ?_
    show OwnG _ _ _ _ _ _ (T7.setTop (mkF m 106 #[.val (.int p1), .val (.int p2), .val (.int M), .val (.ref b1), .val (.ref b3), .val (.int (1 : Int32))] [(.ref b3), (.ref b1), (.int (1 : Int32))]))
    refine OwnG.go (fun _ kz => XS.iloadN X7.here hx rfl (hb hby at_106) rfl kz) ?_
    show OwnG _ _ _ _ _ _ (T7.setTop (mkF m 107 #[.val (.int p1), .val (.int p2), .val (.int M), .val (.ref b1), .val (.ref b3), .val (.int (1 : Int32))] [(.int M), (.ref b3), (.ref b1), (.int (1 : Int32))]))
    refine OwnG.go (fun _ kz => XS.i2l X7.here hx rfl (hb hby at_107) rfl kz) ?_
    show OwnG _ _ _ _ _ _ (T7.setTop (mkF m 108 #[.val (.int p1), .val (.int p2), .val (.int M), .val (.ref b1), .val (.ref b3), .val (.int (1 : Int32))] [(.long (M.toInt64)), (.ref b3), (.ref b1), (.int (1 : Int32))]))
    refine OwnG.go (fun _ kz => XS.iloadN X7.here hx rfl (hb hby at_108) rfl kz) ?_
    show OwnG _ _ _ _ _ _ (T7.setTop (mkF m 109 #[.val (.int p1), .val (.int p2), .val (.int M), .val (.ref b1), .val (.ref b3), .val (.int (1 : Int32))] [(.int p2), (.long (M.toInt64)), (.ref b3), (.ref b1), (.int (1 : Int32))]))
    refine OwnG.go (fun _ kz => XS.iconst X7.here hx rfl (hb hby at_109) kz) ?_
    show OwnG _ _ _ _ _ _ (T7.setTop (mkF m 110 #[.val (.int p1), .val (.int p2), .val (.int M), .val (.ref b1), .val (.ref b3), .val (.int (1 : Int32))] [(.int (4 : Int32)), (.int p2), (.long (M.toInt64)), (.ref b3), (.ref b1), (.int (1 : Int32))]))
    refine OwnG.go (fun _ kz => XS.iushr X7.here hx rfl (hb hby at_110) rfl kz) ?_
    show OwnG _ _ _ _ _ _ (T7.setTop (mkF m 111 #[.val (.int p1), .val (.int p2), .val (.int M), .val (.ref b1), .val (.ref b3), .val (.int (1 : Int32))] [(.int ((p2.toUInt32 >>> ((4 : Int32) &&& 31).toUInt32).toInt32)), (.long (M.toInt64)), (.ref b3), (.ref b1), (.int (1 : Int32))]))
    refine OwnG.go (fun _ kz => XS.iconst X7.here hx rfl (hb hby at_111) kz) ?_
    show OwnG _ _ _ _ _ _ (T7.setTop (mkF m 112 #[.val (.int p1), .val (.int p2), .val (.int M), .val (.ref b1), .val (.ref b3), .val (.int (1 : Int32))] [(.int (1 : Int32)), (.int ((p2.toUInt32 >>> ((4 : Int32) &&& 31).toUInt32).toInt32)), (.long (M.toInt64)), (.ref b3), (.ref b1), (.int (1 : Int32))]))
    refine OwnG.go (fun _ kz => XS.iand X7.here hx rfl (hb hby at_112) rfl kz) ?_
    show OwnG _ _ _ _ _ _ (T7.setTop (mkF m 113 #[.val (.int p1), .val (.int p2), .val (.int M), .val (.ref b1), .val (.ref b3), .val (.int (1 : Int32))] [(.int (((p2.toUInt32 >>> ((4 : Int32) &&& 31).toUInt32).toInt32) &&& (1 : Int32))), (.long (M.toInt64)), (.ref b3), (.ref b1), (.int (1 : Int32))]))
    obtain ⟨_, _, ⟨T8, L8, k8, n8⟩, -, X8, ⟨Lc8, hQ8, l8, y8, z8⟩, st8⟩ := Jvm.LawKit.callS X7 hx (y := (⟨"com/example/octavo/octavo/oer/NestingEnterPinLaw", "step", "(Lcom/example/octavo/octavo/oer/Nesting;[IJI)Z"⟩ : MethodName)) hown (mvT hZ (hw _ (List.mem_of_getElem? (i := 12) rfl))) (mvT hZ (hw _ (List.mem_of_getElem? (i := 13) rfl))) (mvT hZ (hw _ (List.mem_of_getElem? (i := 14) rfl))) (mvT hZ (hw _ (List.mem_of_getElem? (i := 15) rfl))) (by decide) (backOf (W := 1) (rm3 l Z a0 hw [] b1 b3 M (((p2.toUInt32 >>> ((4 : Int32) &&& 31).toUInt32).toInt32) &&& (1 : Int32)) Dn7 k3 T7.heap n0 Z7 Ex7 Fm7 Fd7 V7 go ga ne hl7 (by have := hu7; omega)) hZ (hw _ (List.mem_of_getElem? (i := 15) rfl)) (hw _ (List.mem_of_getElem? (i := 14) rfl)) (by decide) (by decide)) (g := (mkF m 113 #[.val (.int p1), .val (.int p2), .val (.int M), .val (.ref b1), .val (.ref b3), .val (.int (1 : Int32))] [(.int (((p2.toUInt32 >>> ((4 : Int32) &&& 31).toUInt32).toInt32) &&& (1 : Int32))), (.long (M.toInt64)), (.ref b3), (.ref b1), (.int (1 : Int32))])) rfl (by rw [hml]; rfl) (argsL := [(.ref b1), (.ref b3), (.long (M.toInt64)), (.int (((p2.toUInt32 >>> ((4 : Int32) &&& 31).toUInt32).toInt32) &&& (1 : Int32)))]) (rest := [(.int (1 : Int32))]) (lenOf pd_3 rfl) rfl (by show 2 * 0 + _ ≤ _; exact Nat.le_of_eq rfl) (hb hby at_113) (fun _ _ => ⟨rfl, (rfl : T7.heap = T7.heap), (by decide : 2 + 0 ≤ _), (by decide : 3 + 0 ≤ _)⟩)
    dsimp only [Pt.U, Pt.locs, Pt.cells, Pt.slots] at X8 l8 y8 z8 st8 hQ8
    subst l8 y8 z8
    obtain ⟨rfl, N8q, K8, Ex8, Fm8, Dn8, hl8, hq8, Fd8, V8⟩ := hQ8
    have N8 := Fr.app N7 N8q
    refine OwnG.go (fun tz kz => st8 tz kz) ?_
    show OwnG _ _ _ _ _ _ (T8.setTop (mkF m 116 #[.val (.int p1), .val (.int p2), .val (.int M), .val (.ref b1), .val (.ref b3), .val (.int (1 : Int32))] [(.int (1 : Int32)), (.int (1 : Int32))]))
    have Z8 : n0 ≤ T8.heap.size := Nat.le_trans Z7 K8.1
    have hu8 : Dn8.toInt ≤ 5 := by have := hu7; omega
    refine OwnG.go (fun _ kz => XS.iand X8.here hx rfl (hb hby at_116) rfl kz) ?_
    show OwnG _ _ _ _ _ _ (T8.setTop (mkF m 117 #[.val (.int p1), .val (.int p2), .val (.int M), .val (.ref b1), .val (.ref b3), .val (.int (1 : Int32))] [(.int ((1 : Int32) &&& (1 : Int32)))]))
    rw [own_11]
    show OwnG _ _ _ _ _ _ (T8.setTop (mkF m 117 #[.val (.int p1), .val (.int p2), .val (.int M), .val (.ref b1), .val (.ref b3), .val (.int (1 : Int32))] [(.int (1 : Int32))]))
    refine OwnG.go (fun _ kz => XS.istore X8.here hx rfl (hb hby at_117) rfl (l' := #[.val (.int p1), .val (.int p2), .val (.int M), .val (.ref b1), .val (.ref b3), .val (.int (1 : Int32))]) rfl kz) ?_
    show OwnG _ _ _ _ _ _ (T8.setTop (mkF m 119 #[.val (.int p1), .val (.int p2), .val (.int M), .val (.ref b1), .val (.ref b3), .val (.int (1 : Int32))] []))
    refine OwnG.go (fun _ kz => XS.iload X8.here hx rfl (hb hby at_119) rfl kz) ?_
    show OwnG _ _ _ _ _ _ (T8.setTop (mkF m 121 #[.val (.int p1), .val (.int p2), .val (.int M), .val (.ref b1), .val (.ref b3), .val (.int (1 : Int32))] [(.int (1 : Int32))]))
    refine OwnG.go (fun _ kz => XS.aloadN X8.here hx rfl (hb hby at_121) rfl rfl kz) ?_
    show OwnG _ _ _ _ _ _ (T8.setTop (mkF m 122 #[.val (.int p1), .val (.int p2), .val (.int M), .val (.ref b1), .val (.ref b3), .val (.int (1 : Int32))] [(.ref b1), (.int (1 : Int32))]))
    refine OwnG.go (fun _ kz => XS.aload X8.here hx rfl (hb hby at_122) rfl rfl kz) ?_
    show OwnG _ _ _ _ _ _ (T8.setTop (mkF m 124 #[.val (.int p1), .val (.int p2), .val (.int M), .val (.ref b1), .val (.ref b3), .val (.int (1 : Int32))] [(.ref b3), (.ref b1), (.int (1 : Int32))]))
    refine OwnG.go (fun _ kz => XS.iloadN X8.here hx rfl (hb hby at_124) rfl kz) ?_
    show OwnG _ _ _ _ _ _ (T8.setTop (mkF m 125 #[.val (.int p1), .val (.int p2), .val (.int M), .val (.ref b1), .val (.ref b3), .val (.int (1 : Int32))] [(.int M), (.ref b3), (.ref b1), (.int (1 : Int32))]))
    refine OwnG.go (fun _ kz => XS.i2l X8.here hx rfl (hb hby at_125) rfl kz) ?_
    show OwnG _ _ _ _ _ _ (T8.setTop (mkF m 126 #[.val (.int p1), .val (.int p2), .val (.int M), .val (.ref b1), .val (.ref b3), .val (.int (1 : Int32))] [(.long (M.toInt64)), (.ref b3), (.ref b1), (.int (1 : Int32))]))
    refine OwnG.go (fun _ kz => XS.iloadN X8.here hx rfl (hb hby at_126) rfl kz) ?_
    show OwnG _ _ _ _ _ _ (T8.setTop (mkF m 127 #[.val (.int p1), .val (.int p2), .val (.int M), .val (.ref b1), .val (.ref b3), .val (.int (1 : Int32))] [(.int p2), (.long (M.toInt64)), (.ref b3), (.ref b1), (.int (1 : Int32))]))
    refine OwnG.go (fun _ kz => XS.iconst X8.here hx rfl (hb hby at_127) kz) ?_
    show OwnG _ _ _ _ _ _ (T8.setTop (mkF m 128 #[.val (.int p1), .val (.int p2), .val (.int M), .val (.ref b1), .val (.ref b3), .val (.int (1 : Int32))] [(.int (5 : Int32)), (.int p2), (.long (M.toInt64)), (.ref b3), (.ref b1), (.int (1 : Int32))]))
    refine OwnG.go (fun _ kz => XS.iushr X8.here hx rfl (hb hby at_128) rfl kz) ?_
    show OwnG _ _ _ _ _ _ (T8.setTop (mkF m 129 #[.val (.int p1), .val (.int p2), .val (.int M), .val (.ref b1), .val (.ref b3), .val (.int (1 : Int32))] [(.int ((p2.toUInt32 >>> ((5 : Int32) &&& 31).toUInt32).toInt32)), (.long (M.toInt64)), (.ref b3), (.ref b1), (.int (1 : Int32))]))
    refine OwnG.go (fun _ kz => XS.iconst X8.here hx rfl (hb hby at_129) kz) ?_
    show OwnG _ _ _ _ _ _ (T8.setTop (mkF m 130 #[.val (.int p1), .val (.int p2), .val (.int M), .val (.ref b1), .val (.ref b3), .val (.int (1 : Int32))] [(.int (1 : Int32)), (.int ((p2.toUInt32 >>> ((5 : Int32) &&& 31).toUInt32).toInt32)), (.long (M.toInt64)), (.ref b3), (.ref b1), (.int (1 : Int32))]))
    refine OwnG.go (fun _ kz => XS.iand X8.here hx rfl (hb hby at_130) rfl kz) ?_
    show OwnG _ _ _ _ _ _ (T8.setTop (mkF m 131 #[.val (.int p1), .val (.int p2), .val (.int M), .val (.ref b1), .val (.ref b3), .val (.int (1 : Int32))] [(.int (((p2.toUInt32 >>> ((5 : Int32) &&& 31).toUInt32).toInt32) &&& (1 : Int32))), (.long (M.toInt64)), (.ref b3), (.ref b1), (.int (1 : Int32))]))
    obtain ⟨_, _, ⟨T9, L9, k9, n9⟩, -, X9, ⟨Lc9, hQ9, l9, y9, z9⟩, st9⟩ := Jvm.LawKit.callS X8 hx (y := (⟨"com/example/octavo/octavo/oer/NestingEnterPinLaw", "step", "(Lcom/example/octavo/octavo/oer/Nesting;[IJI)Z"⟩ : MethodName)) hown (mvT hZ (hw _ (List.mem_of_getElem? (i := 12) rfl))) (mvT hZ (hw _ (List.mem_of_getElem? (i := 13) rfl))) (mvT hZ (hw _ (List.mem_of_getElem? (i := 14) rfl))) (mvT hZ (hw _ (List.mem_of_getElem? (i := 15) rfl))) (by decide) (backOf (W := 1) (rm3 l Z a0 hw [] b1 b3 M (((p2.toUInt32 >>> ((5 : Int32) &&& 31).toUInt32).toInt32) &&& (1 : Int32)) Dn8 k3 T8.heap n0 Z8 Ex8 Fm8 Fd8 V8 go ga ne hl8 (by have := hu8; omega)) hZ (hw _ (List.mem_of_getElem? (i := 15) rfl)) (hw _ (List.mem_of_getElem? (i := 14) rfl)) (by decide) (by decide)) (g := (mkF m 131 #[.val (.int p1), .val (.int p2), .val (.int M), .val (.ref b1), .val (.ref b3), .val (.int (1 : Int32))] [(.int (((p2.toUInt32 >>> ((5 : Int32) &&& 31).toUInt32).toInt32) &&& (1 : Int32))), (.long (M.toInt64)), (.ref b3), (.ref b1), (.int (1 : Int32))])) rfl (by rw [hml]; rfl) (argsL := [(.ref b1), (.ref b3), (.long (M.toInt64)), (.int (((p2.toUInt32 >>> ((5 : Int32) &&& 31).toUInt32).toInt32) &&& (1 : Int32)))]) (rest := [(.int (1 : Int32))]) (lenOf pd_3 rfl) rfl (by show 2 * 0 + _ ≤ _; exact Nat.le_of_eq rfl) (hb hby at_131) (fun _ _ => ⟨rfl, (rfl : T8.heap = T8.heap), (by decide : 2 + 0 ≤ _), (by decide : 3 + 0 ≤ _)⟩)
    dsimp only [Pt.U, Pt.locs, Pt.cells, Pt.slots] at X9 l9 y9 z9 st9 hQ9
    subst l9 y9 z9
    obtain ⟨rfl, N9q, K9, Ex9, Fm9, Dn9, hl9, hq9, Fd9, V9⟩ := hQ9
    have N9 := Fr.app N8 N9q
    refine OwnG.go (fun tz kz => st9 tz kz) ?_
    show OwnG _ _ _ _ _ _ (T9.setTop (mkF m 134 #[.val (.int p1), .val (.int p2), .val (.int M), .val (.ref b1), .val (.ref b3), .val (.int (1 : Int32))] [(.int (1 : Int32)), (.int (1 : Int32))]))
    have Z9 : n0 ≤ T9.heap.size := Nat.le_trans Z8 K9.1
    have hu9 : Dn9.toInt ≤ 6 := by have := hu8; omega
    refine OwnG.go (fun _ kz => XS.iand X9.here hx rfl (hb hby at_134) rfl kz) ?_
    show OwnG _ _ _ _ _ _ (T9.setTop (mkF m 135 #[.val (.int p1), .val (.int p2), .val (.int M), .val (.ref b1), .val (.ref b3), .val (.int (1 : Int32))] [(.int ((1 : Int32) &&& (1 : Int32)))]))
    rw [own_11]
    show OwnG _ _ _ _ _ _ (T9.setTop (mkF m 135 #[.val (.int p1), .val (.int p2), .val (.int M), .val (.ref b1), .val (.ref b3), .val (.int (1 : Int32))] [(.int (1 : Int32))]))
    refine OwnG.go (fun _ kz => XS.istore X9.here hx rfl (hb hby at_135) rfl (l' := #[.val (.int p1), .val (.int p2), .val (.int M), .val (.ref b1), .val (.ref b3), .val (.int (1 : Int32))]) rfl kz) ?_
    show OwnG _ _ _ _ _ _ (T9.setTop (mkF m 137 #[.val (.int p1), .val (.int p2), .val (.int M), .val (.ref b1), .val (.ref b3), .val (.int (1 : Int32))] []))
    refine OwnG.go (fun _ kz => XS.iload X9.here hx rfl (hb hby at_137) rfl kz) ?_
    show OwnG _ _ _ _ _ _ (T9.setTop (mkF m 139 #[.val (.int p1), .val (.int p2), .val (.int M), .val (.ref b1), .val (.ref b3), .val (.int (1 : Int32))] [(.int (1 : Int32))]))
    obtain ⟨fs, hr, hrun, hended, hW, hsame⟩ := X9.leave (v := some (.int (1 : Int32))) (fun h => by rw [Bd.returns] at h; cases h)
    refine ⟨_, _, retN X9 hx (t := .boolean) Bd.returns (by simp) (hb hby at_139) hr, hrun, hended, _, _, rfl, ?_, ⟨_, rfl⟩, hW, hsame.mono (by decide) (by decide)⟩
    show (Q0 Z p1 p2 h0 n0) _ T9.heap _
    exact ⟨rfl, N9⟩
  show OwnG p.tables e below s room_1 (Q0 Z p1 p2 h0 n0) (s₁.setTop (entryFrame m #[(.int p1), (.int p2)] maxLocals))
  refine OwnG.go (fun tz kz => castTop (ef_0 m p1 p2) kz) ?_
  show OwnG _ _ _ _ _ _ (s₁.setTop (mkF m 0 #[.val (.int p1), .val (.int p2), .unset, .unset, .unset, .unset] []))
  refine OwnG.go (fun _ kz => XS.iloadN X0.here hx rfl (hb hby at_0) rfl kz) ?_
  show OwnG _ _ _ _ _ _ (s₁.setTop (mkF m 1 #[.val (.int p1), .val (.int p2), .unset, .unset, .unset, .unset] [(.int p2)]))
  refine OwnG.go (fun _ kz => XS.bipush X0.here hx rfl (hb hby at_1) kz) ?_
  show OwnG _ _ _ _ _ _ (s₁.setTop (mkF m 3 #[.val (.int p1), .val (.int p2), .unset, .unset, .unset, .unset] [(.int (8 : Int32)), (.int p2)]))
  refine OwnG.go (fun _ kz => XS.iushr X0.here hx rfl (hb hby at_3) rfl kz) ?_
  show OwnG _ _ _ _ _ _ (s₁.setTop (mkF m 4 #[.val (.int p1), .val (.int p2), .unset, .unset, .unset, .unset] [(.int ((p2.toUInt32 >>> ((8 : Int32) &&& 31).toUInt32).toInt32))]))
  refine OwnG.go (fun _ kz => XS.iconst X0.here hx rfl (hb hby at_4) kz) ?_
  show OwnG _ _ _ _ _ _ (s₁.setTop (mkF m 5 #[.val (.int p1), .val (.int p2), .unset, .unset, .unset, .unset] [(.int (1 : Int32)), (.int ((p2.toUInt32 >>> ((8 : Int32) &&& 31).toUInt32).toInt32))]))
  refine OwnG.go (fun _ kz => XS.iand X0.here hx rfl (hb hby at_5) rfl kz) ?_
  show OwnG _ _ _ _ _ _ (s₁.setTop (mkF m 6 #[.val (.int p1), .val (.int p2), .unset, .unset, .unset, .unset] [(.int (((p2.toUInt32 >>> ((8 : Int32) &&& 31).toUInt32).toInt32) &&& (1 : Int32)))]))
  by_cases c1 : (((p2.toUInt32 >>> ((8 : Int32) &&& 31).toUInt32).toInt32) &&& (1 : Int32)) = (0 : Int32)
  · have _u := ()
    refine OwnG.go (fun _ kz => XS.ifYes X0.here hx rfl (pc0 := 6) (pc' := 13) rfl (hb hby at_6) rfl ((if0 _ _).trans (teq c1).1) (by decide) (by decide) kz) ?_
    show OwnG _ _ _ _ _ _ (s₁.setTop (mkF m 13 #[.val (.int p1), .val (.int p2), .unset, .unset, .unset, .unset] []))
    refine OwnG.go (fun _ kz => XS.iloadN X0.here hx rfl (hb hby at_13) rfl kz) ?_
    show OwnG _ _ _ _ _ _ (s₁.setTop (mkF m 14 #[.val (.int p1), .val (.int p2), .unset, .unset, .unset, .unset] [(.int p1)]))
    refine OwnG.go (fun _ kz => XS.bipush X0.here hx rfl (hb hby at_14) kz) ?_
    show OwnG _ _ _ _ _ _ (s₁.setTop (mkF m 16 #[.val (.int p1), .val (.int p2), .unset, .unset, .unset, .unset] [(.int (7 : Int32)), (.int p1)]))
    refine OwnG.go (fun _ kz => XS.iand X0.here hx rfl (hb hby at_16) rfl kz) ?_
    show OwnG _ _ _ _ _ _ (s₁.setTop (mkF m 17 #[.val (.int p1), .val (.int p2), .unset, .unset, .unset, .unset] [(.int (p1 &&& (7 : Int32)))]))
    refine OwnG.go (fun _ kz => XS.iconst X0.here hx rfl (hb hby at_17) kz) ?_
    show OwnG _ _ _ _ _ _ (s₁.setTop (mkF m 18 #[.val (.int p1), .val (.int p2), .unset, .unset, .unset, .unset] [(.int (2 : Int32)), (.int (p1 &&& (7 : Int32)))]))
    refine OwnG.go (fun _ kz => XS.isub X0.here hx rfl (hb hby at_18) rfl kz) ?_
    show OwnG _ _ _ _ _ _ (s₁.setTop (mkF m 19 #[.val (.int p1), .val (.int p2), .unset, .unset, .unset, .unset] [(.int ((p1 &&& (7 : Int32)) - (2 : Int32)))]))
    exact B19 _
  · have _u := ()
    refine OwnG.go (fun _ kz => XS.ifNo X0.here hx rfl (hb hby at_6) rfl ((if0 _ _).trans (feq c1).1) kz) ?_
    show OwnG _ _ _ _ _ _ (s₁.setTop (mkF m 9 #[.val (.int p1), .val (.int p2), .unset, .unset, .unset, .unset] []))
    refine OwnG.go (fun _ kz => XS.iloadN X0.here hx rfl (hb hby at_9) rfl kz) ?_
    show OwnG _ _ _ _ _ _ (s₁.setTop (mkF m 10 #[.val (.int p1), .val (.int p2), .unset, .unset, .unset, .unset] [(.int p1)]))
    refine OwnG.go (fun _ kz => XS.goto X0.here hx rfl (pc0 := 10) (pc' := 19) rfl (hb hby at_10) (by decide) (by decide) kz) ?_
    show OwnG _ _ _ _ _ _ (s₁.setTop (mkF m 19 #[.val (.int p1), .val (.int p2), .unset, .unset, .unset, .unset] [(.int p1)]))
    exact B19 _
set_option maxRecDepth 65536 in
set_option maxHeartbeats 40000000 in
theorem comes_1 {Post : Tables → Env → Array Value → State → Outcome → State → Prop} (hpost : ∀ tb e args s v u, (limb_1_1.after args s (.returned v) u = true ∧ limb_1_2.after args s (.returned v) u = true ∧ True) → FrameEnd s (.returned v) u (Jvm.fieldLocs frame_1_writes args s ++ Jvm.arrayLocs frame_1_arrays args s ++ Jvm.staticLocs frame_1_statics s) 16 128 → Post tb e args s (.returned v) u) :
    ArmFor flags0 classFile x code maxLocals ret World_1 tables_1 room_1 Calls_1 rest_1 Pre_1 Post := by
  intro l hfl _ _ p e ha hc hk s m args below hf hA hF happ hP
  obtain ⟨hcalls, hrest, hpre⟩ := hP
  obtain ⟨-, -, -, hnamed, -, -, -, hat⟩ := (Spec.applies_iff hf).mp happ
  obtain ⟨hg, hn⟩ := and_e (Cond.before_iff.mp (show (Jvm.Cond.and given_1 narrow_1).before args s = true from hpre))
  obtain ⟨g0, gr0⟩ := and_e hg
  obtain ⟨ga0, gr1⟩ := and_e gr0
  obtain ⟨w0, w1, rfl⟩ : ∃ w0 w1 : Value, args = #[w0, w1] := by
    have hs : args.size = 2 := by simpa [Cond.value, given_1] using g0
    obtain ⟨L⟩ := args
    match L, hs with
    | [w0, w1], _ => exact ⟨w0, w1, rfl⟩
  have hw := fun d (hd : d ∈ tables_1) => atoms_spec (ws := Jvm.Cond.code x code maxLocals ret :: tables_1) hat d (List.mem_cons_of_mem _ hd)
  obtain ⟨i0, ei0⟩ := is_v ga0
  obtain rfl : w0 = (.int i0) := Option.some.inj ei0
  obtain ⟨i1, ei1⟩ := is_v gr1
  obtain rfl : w1 = (.int i1) := Option.some.inj ei1
  obtain ⟨n, o, h1, h2, h3, _, L, rfl, ⟨rfl, N⟩, hq⟩ := rm0 l s _ hw tables_1 i0 i1 s.heap s.heap.size (Nat.le_refl _) p e ha hc hk s m _ below hf ((Spec.applies_iff_loose hf).mp happ).1 ⟨rfl, State.Warmed39.refl s, rfl⟩ trivial
  refine ⟨n, _, h1, h2, h3, hpost _ _ _ _ _ _ ⟨Cond.after_iff.mpr rfl, Cond.after_iff.mpr (eq_i res_at (Term.int_eval (1)) rfl), trivial⟩ ⟨hq.1, hq.2.1, (hq.2.2.sift fun y hy => Or.inr (N y hy)).mono (by decide) (by decide)⟩⟩
theorem main_1_1 : Claimed_1_1 := comes_1 fun _ _ _ _ _ _ h hF => ⟨h.1, hF⟩
theorem main_1_2 : Claimed_1_2 := comes_1 fun _ _ _ _ _ _ h hF => ⟨h.2.1, hF⟩
end Jvm.Pilot.@@N@@
namespace Jvm.Pilot.@@N@@
open Jvm Jvm.ClassFile Sem Op Lib Jvm.Free Jvm.Stand Jvm.Pilot.@@N@@.Jvm.D
/-! MADE BY PROGRAM (witnessworld.py) out of the Statement's table words and the real class files: 9 classes; the members and pool entries that the words name. The judged class is class 1, her method 2. -/
namespace start1
open Jvm.ClassFile
def u (s : String) : CpInfo := .utf8 (stringToUtf16 s)
/-- a pool by its gaps: so many unusable entries, then the entry; so many at the end -/
def gap : Nat → List CpInfo → List CpInfo
  | 0, r => r
  | n + 1, r => .unusable :: gap n r
def poolList (es : List (Nat × CpInfo)) (last : Nat) : List CpInfo := es.foldr (fun e r => gap e.1 (e.2 :: r)) (gap last [])
def pool (es : List (Nat × CpInfo)) (last : Nat) : Array CpInfo := ⟨poolList es last⟩
def fileOf (pool : Array CpInfo) (this : Nat) (attrs : Array Attribute := #[]) (ms : Array MethodInfo := #[]) (fl : Nat := 33) (sup : Nat := 0) (ifs : Array Nat := #[]) (fds : Array FieldInfo := #[]) : ClassFile where
  minorVersion := 0
  majorVersion := 65
  constantPool := pool
  accessFlags := fl
  thisClass := this
  superClass := sup
  interfaces := ifs
  fields := fds
  methods := ms
  attributes := attrs
def plain (name : String) (sup : Option ClassId) : Class where
  name := name
  kind := .ordinary
  loader := none
  accessFlags := 33
  super := sup
  interfaces := #[]
  cf := none
  fields := #[]
  methods := #[]
  instanceTypes := #[]
  staticTypes := #[]
  resolved := #[]
  callSites := []
  init := .initialized
  statics := none
  mirror := none

def pool0 : Array CpInfo := pool [(5, u "<init>"), (0, u "()V"), (1, .class_ 10), (1, u "java/lang/Object")] 113

def k0c0 : Code := { maxStack := 0, maxLocals := 1, code := object_method_1_code, exceptionTable := #[], attributes := #[] }
def k0m0 : Method := { name := "<init>", desc := "()V", sig := { parameters := [], returnType := none }, accessFlags := 1, code := some k0c0 }
/-- java/lang/Object -/
def k0 : Class := { plain "java/lang/Object" none with
  accessFlags := 33
  interfaces := #[]
  cf := some (fileOf pool0 8 #[] #[{ accessFlags := 1, nameIndex := 5, descriptorIndex := 6, attributes := #[] }] 33 0 #[] #[])
  fields := #[]
  methods := #[k0m0]
  instanceTypes := #[]
  staticTypes := #[]
  resolved := Array.replicate 124 none
  statics := none }

def pool1 : Array CpInfo := pool [(2, .class_ 4), (1, u "java/lang/Object"), (0, u "<init>"), (0, u "()V"), (0, .methodref 8 9), (0, .class_ 10), (0, .nameAndType 11 6), (0, u "com/example/octavo/octavo/oer/Nesting"), (0, u "leave"), (0, .methodref 8 13), (0, .nameAndType 14 15), (0, u "enter"), (0, u "()Z"), (0, .methodref 8 17), (0, .nameAndType 5 18), (0, u "(I)V"), (0, .methodref 20 21), (0, .class_ 22), (0, .nameAndType 23 24), (0, u "com/example/octavo/octavo/oer/NestingEnterPinLaw"), (0, u "step"), (0, u "(Lcom/example/octavo/octavo/oer/Nesting;[IJI)Z"), (3, u "law"), (0, u "(II)Z")] 2

def k1m0 : Method := { name := "<init>", desc := "()V", sig := { parameters := [], returnType := none }, accessFlags := 1, code := none }
def k1c1 : Code := { maxStack := 4, maxLocals := 7, code := method_2_code, exceptionTable := #[], attributes := #[] }
def k1m1 : Method := { name := "step", desc := "(Lcom/example/octavo/octavo/oer/Nesting;[IJI)Z", sig := { parameters := [(.object "com/example/octavo/octavo/oer/Nesting"), (.array .int), .long, .int], returnType := some .boolean }, accessFlags := 10, code := some k1c1 }
def k1c2 : Code := { maxStack := 7, maxLocals := 6, code := code, exceptionTable := #[], attributes := #[] }
def k1m2 : Method := { name := "law", desc := "(II)Z", sig := { parameters := [.int, .int], returnType := some .boolean }, accessFlags := 9, code := some k1c2 }
/-- com/example/octavo/octavo/oer/NestingEnterPinLaw -/
def k1 : Class := { plain "com/example/octavo/octavo/oer/NestingEnterPinLaw" (some 0) with
  accessFlags := 49
  interfaces := #[]
  cf := some (fileOf pool1 20 #[] #[{ accessFlags := 1, nameIndex := 5, descriptorIndex := 6, attributes := #[] }, { accessFlags := 10, nameIndex := 23, descriptorIndex := 24, attributes := #[] }, { accessFlags := 9, nameIndex := 28, descriptorIndex := 29, attributes := #[] }] 49 2 #[] #[])
  fields := #[]
  methods := #[k1m0, k1m1, k1m2]
  instanceTypes := #[]
  staticTypes := #[]
  resolved := Array.replicate 32 none
  statics := none }

def pool2 : Array CpInfo := pool [(1, .methodref 2 3), (0, .class_ 4), (0, .nameAndType 5 6), (0, u "java/lang/Object"), (0, u "<init>"), (0, u "()V"), (0, .fieldref 8 9), (0, .class_ 10), (0, .nameAndType 11 12), (0, u "com/example/octavo/octavo/oer/Nesting"), (0, u "maxDepth"), (0, u "I"), (0, .fieldref 8 14), (0, .nameAndType 15 12), (0, u "depth"), (2, u "(I)V"), (6, u "enter"), (0, u "()Z"), (1, u "leave")] 21

def k2c0 : Code := { maxStack := 2, maxLocals := 2, code := prog_22_method_1_code, exceptionTable := #[], attributes := #[] }
def k2m0 : Method := { name := "<init>", desc := "(I)V", sig := { parameters := [.int], returnType := none }, accessFlags := 0, code := some k2c0 }
def k2c1 : Code := { maxStack := 3, maxLocals := 2, code := prog_22_method_2_code, exceptionTable := #[], attributes := #[] }
def k2m1 : Method := { name := "enter", desc := "()Z", sig := { parameters := [], returnType := some .boolean }, accessFlags := 0, code := some k2c1 }
def k2c2 : Code := { maxStack := 3, maxLocals := 1, code := prog_22_method_3_code, exceptionTable := #[], attributes := #[] }
def k2m2 : Method := { name := "leave", desc := "()V", sig := { parameters := [], returnType := none }, accessFlags := 0, code := some k2c2 }
/-- com/example/octavo/octavo/oer/Nesting -/
def k2 : Class := { plain "com/example/octavo/octavo/oer/Nesting" (some 0) with
  accessFlags := 48
  interfaces := #[]
  cf := some (fileOf pool2 8 #[] #[{ accessFlags := 0, nameIndex := 5, descriptorIndex := 18, attributes := #[] }, { accessFlags := 0, nameIndex := 25, descriptorIndex := 26, attributes := #[] }, { accessFlags := 0, nameIndex := 28, descriptorIndex := 6, attributes := #[] }] 48 2 #[] #[{ accessFlags := 18, nameIndex := 11, descriptorIndex := 12, attributes := #[] }, { accessFlags := 2, nameIndex := 15, descriptorIndex := 12, attributes := #[] }])
  fields := #[{ name := "maxDepth", type := .int, accessFlags := 18, slot := 0, constantValue := 0 }, { name := "depth", type := .int, accessFlags := 2, slot := 1, constantValue := 0 }]
  methods := #[k2m0, k2m1, k2m2]
  instanceTypes := #[.int, .int]
  staticTypes := #[]
  resolved := Array.replicate 50 none
  statics := none }

def pool3 : Array CpInfo := pool [(1, u "java/lang/Cloneable"), (0, .class_ 1), (0, u "java/lang/Object"), (0, .class_ 3)] 3

/-- java/lang/Cloneable -/
def k3 : Class := { plain "java/lang/Cloneable" (some 0) with
  accessFlags := 1537
  interfaces := #[]
  cf := some (fileOf pool3 2 #[] #[] 1537 4 #[] #[])
  fields := #[]
  methods := #[]
  instanceTypes := #[]
  staticTypes := #[]
  resolved := Array.replicate 8 none
  statics := none }

def pool4 : Array CpInfo := pool [(1, u "java/io/Serializable"), (0, .class_ 1), (0, u "java/lang/Object"), (0, .class_ 3)] 3

/-- java/io/Serializable -/
def k4 : Class := { plain "java/io/Serializable" (some 0) with
  accessFlags := 1537
  interfaces := #[]
  cf := some (fileOf pool4 2 #[] #[] 1537 4 #[] #[])
  fields := #[]
  methods := #[]
  instanceTypes := #[]
  staticTypes := #[]
  resolved := Array.replicate 8 none
  statics := none }

/-- the primitive byte -/
def k5 : Class := { plain "byte" none with kind := .primitive 'B', accessFlags := 0x411 }
/-- [B -/
def k6 : Class := { plain "[B" (some 0) with kind := .array 5 .byte, interfaces := #[3, 4], accessFlags := 1041 }

/-- the primitive int -/
def k7 : Class := { plain "int" none with kind := .primitive 'I', accessFlags := 0x411 }
/-- [I -/
def k8 : Class := { plain "[I" (some 0) with kind := .array 7 .int, interfaces := #[3, 4], accessFlags := 1041 }

def heap : Heap := #[]
def classes : Array Class := #[k0, k1, k2, k3, k4, k5, k6, k7, k8]
def interned : List (Array UInt16 × Addr) := []
def slotsUsed : Nat := 0
def theMethod : MethodId := ⟨1, 2⟩
def args0 : Array Value := #[.int 5, .int 7]
def aboutOver (below : List Frame) : State where
  vm := { classes := classes, interned := interned.toArray }
  heap := heap
  slotsUsed := slotsUsed
  threads := #[{ frames := .invoking theMethod args0 :: below }]
def below0 : List Frame := [.native { method := ⟨0, 0⟩, args := #[] }]
def about1 : State := aboutOver below0
def p0 : Program := .bare "" "" ""
def e0 : Env := launch0.env 0 0 0
theorem w_frames : about1.frames = Frame.invoking theMethod args0 :: below0 := rfl
set_option maxRecDepth 65536 in
theorem w_args : argsFit about1.vm theMethod args0 = true := by decide +kernel
set_option maxRecDepth 65536 in
theorem w_heap : heapFits about1 = true := by decide +kernel
set_option maxRecDepth 65536 in
theorem w_runnable : about1.curStatus? = some .runnable := by decide +kernel
set_option maxRecDepth 65536 in
theorem w_alone : about1.alone = true := by decide +kernel
set_option maxRecDepth 65536 in
theorem w_named : about1.methodNamed? x = some theMethod := by decide +kernel
set_option maxRecDepth 65536 in
theorem w_hears : about1.hears theMethod below0 = true := by decide +kernel
set_option maxRecDepth 65536 in
theorem w_ripe : about1.ripe theMethod args0 below0 = true := by decide +kernel
theorem w_running : about1.status = .running := rfl
set_option maxRecDepth 65536 in
theorem w_room : about1.hasRoom e0.platform room_1 = true :=
  launch0.hasRoom_least _ room_1 (by decide +kernel) (by decide +kernel) (by decide +kernel) (by decide +kernel) (by decide +kernel) (by decide +kernel)
theorem allAtoms_all (ts : List Jvm.Cond) (a : Array Jvm.Value) (st : Jvm.State) : (allAtoms ts).before a st = ts.all (fun c => c.before a st) := by
  induction ts with
  | nil => rfl
  | cons c t ih =>
    show (Jvm.Cond.and c (allAtoms t)).before a st = _
    rw [Jvm.Cond.before_and, ih, List.all_cons]
def words1 : List Jvm.Cond := Jvm.Cond.code x code maxLocals ret :: tables_1
/-- a 'code' word, met by the world's own term for the bytes: nothing is compared byte by byte -/
theorem code_word {y : MethodName} {bytes : ByteArray} {mx : Nat} {rt : Option FieldType} {a : Array Value} {s : State} {m : MethodId} {meth : Method} {c : Code} (h1 : s.methodNamed? y = some m) (h2 : s.vm.method? m = some meth) (h3 : meth.code = some c) (h4 : c.code = bytes)
    (h5 : (c.maxLocals == mx && c.exceptionTable.isEmpty && decide (c.maxStack ≤ mostOperands) && decide (meth.sig.returnType = rt) && !meth.locks && decide (parseMethodDescriptor y.desc = some meth.sig)) = true) : (Jvm.Cond.code y bytes mx rt).before a s = true := by
  simp only [Bool.and_eq_true, beq_iff_eq, Bool.not_eq_true', decide_eq_true_eq] at h5
  obtain ⟨⟨⟨⟨⟨g1, g2⟩, g3⟩, g4⟩, g5⟩, g6⟩ := h5
  simp [Cond.before, Cond.holds, Cond.value, h1, h2, h3, h4, g1, g2, g3, g4, g5, g6]
def isCode : Jvm.Cond → Bool
  | .code _ _ _ _ => true
  | _ => false
theorem all_split {L : List Jvm.Cond} {P : Jvm.Cond → Bool} (h1 : L.all (fun c => isCode c || P c) = true) (h2 : ∀ c ∈ L.filter isCode, P c = true) : L.all P = true := by
  refine List.all_eq_true.mpr fun c hc => ?_
  have h := List.all_eq_true.mp h1 c hc
  rcases Bool.eq_false_or_eq_true (isCode c) with hi | hi
  · exact h2 c (List.mem_filter.mpr ⟨hc, hi⟩)
  · simpa [hi] using h
set_option maxRecDepth 65536 in
theorem w_c0 : (Jvm.Cond.code x code maxLocals ret).before args0 about1 = true := code_word (m := ⟨1, 2⟩) (meth := k1m2) (c := k1c2) (by decide +kernel) rfl rfl rfl (by decide +kernel)
set_option maxRecDepth 65536 in
theorem w_c1 : (Jvm.Cond.code ({ cls := "com/example/octavo/octavo/oer/Nesting", name := "<init>", desc := "(I)V" } : Jvm.MethodName) prog_22_method_1_code (2 : Nat) (Option.none : Option Jvm.ClassFile.FieldType)).before args0 about1 = true := code_word (m := ⟨2, 0⟩) (meth := k2m0) (c := k2c0) (by decide +kernel) rfl rfl rfl (by decide +kernel)
set_option maxRecDepth 65536 in
theorem w_c2 : (Jvm.Cond.code ({ cls := "java/lang/Object", name := "<init>", desc := "()V" } : Jvm.MethodName) object_method_1_code (1 : Nat) (Option.none : Option Jvm.ClassFile.FieldType)).before args0 about1 = true := code_word (m := ⟨0, 0⟩) (meth := k0m0) (c := k0c0) (by decide +kernel) rfl rfl rfl (by decide +kernel)
set_option maxRecDepth 65536 in
theorem w_c3 : (Jvm.Cond.code ({ cls := "com/example/octavo/octavo/oer/NestingEnterPinLaw", name := "step", desc := "(Lcom/example/octavo/octavo/oer/Nesting;[IJI)Z" } : Jvm.MethodName) method_2_code (7 : Nat) (Option.some Jvm.ClassFile.FieldType.boolean)).before args0 about1 = true := code_word (m := ⟨1, 1⟩) (meth := k1m1) (c := k1c1) (by decide +kernel) rfl rfl rfl (by decide +kernel)
set_option maxRecDepth 65536 in
theorem w_c4 : (Jvm.Cond.code ({ cls := "com/example/octavo/octavo/oer/Nesting", name := "enter", desc := "()Z" } : Jvm.MethodName) prog_22_method_2_code (2 : Nat) (Option.some Jvm.ClassFile.FieldType.boolean)).before args0 about1 = true := code_word (m := ⟨2, 1⟩) (meth := k2m1) (c := k2c1) (by decide +kernel) rfl rfl rfl (by decide +kernel)
set_option maxRecDepth 65536 in
theorem w_c5 : (Jvm.Cond.code ({ cls := "com/example/octavo/octavo/oer/Nesting", name := "leave", desc := "()V" } : Jvm.MethodName) prog_22_method_3_code (1 : Nat) (Option.none : Option Jvm.ClassFile.FieldType)).before args0 about1 = true := code_word (m := ⟨2, 2⟩) (meth := k2m2) (c := k2c2) (by decide +kernel) rfl rfl rfl (by decide +kernel)
def codes1 : List Jvm.Cond := [Jvm.Cond.code x code maxLocals ret, Jvm.Cond.code ({ cls := "com/example/octavo/octavo/oer/Nesting", name := "<init>", desc := "(I)V" } : Jvm.MethodName) prog_22_method_1_code (2 : Nat) (Option.none : Option Jvm.ClassFile.FieldType), Jvm.Cond.code ({ cls := "java/lang/Object", name := "<init>", desc := "()V" } : Jvm.MethodName) object_method_1_code (1 : Nat) (Option.none : Option Jvm.ClassFile.FieldType), Jvm.Cond.code ({ cls := "com/example/octavo/octavo/oer/NestingEnterPinLaw", name := "step", desc := "(Lcom/example/octavo/octavo/oer/Nesting;[IJI)Z" } : Jvm.MethodName) method_2_code (7 : Nat) (Option.some Jvm.ClassFile.FieldType.boolean), Jvm.Cond.code ({ cls := "com/example/octavo/octavo/oer/Nesting", name := "enter", desc := "()Z" } : Jvm.MethodName) prog_22_method_2_code (2 : Nat) (Option.some Jvm.ClassFile.FieldType.boolean), Jvm.Cond.code ({ cls := "com/example/octavo/octavo/oer/Nesting", name := "leave", desc := "()V" } : Jvm.MethodName) prog_22_method_3_code (1 : Nat) (Option.none : Option Jvm.ClassFile.FieldType)]
set_option maxRecDepth 65536 in
theorem codes_eq : words1.filter isCode = codes1 := rfl
theorem w_codes : ∀ c ∈ words1.filter isCode, c.before args0 about1 = true := by
  rw [codes_eq]
  intro c hc
  simp only [codes1, List.mem_cons, List.not_mem_nil, or_false] at hc
  rcases hc with rfl | rfl | rfl | rfl | rfl | rfl
  · exact w_c0
  · exact w_c1
  · exact w_c2
  · exact w_c3
  · exact w_c4
  · exact w_c5
set_option maxRecDepth 65536 in
theorem w_t1 : (words1.take 24).all (fun c => isCode c || c.before args0 about1) = true := by decide +kernel
set_option maxRecDepth 65536 in
theorem w_t2 : (words1.drop 24).all (fun c => isCode c || c.before args0 about1) = true := by decide +kernel
theorem w_tables : (allAtoms (Jvm.Cond.code x code maxLocals ret :: tables_1)).before args0 about1 = true := by
  rw [allAtoms_all]
  show words1.all (fun c => c.before args0 about1) = true
  refine all_split ?_ w_codes
  rw [← List.take_append_drop 24 words1, List.all_append, w_t1, w_t2]
  rfl
set_option maxRecDepth 65536 in
theorem w_case : (Jvm.Cond.and given_1 narrow_1).before args0 about1 = true := by decide +kernel
theorem w_applies : (headSpec (Jvm.Cond.code x code maxLocals ret :: tables_1) room_1).applies x e0.platform about1 = true :=
  (Spec.applies_iff w_frames).mpr ⟨w_running, w_runnable, w_alone, w_named, w_hears, w_ripe, w_room, w_tables⟩
theorem atStart : AtStart classFile x code maxLocals ret World_1 tables_1 room_1 Calls_1 rest_1 Pre_1 launch0 p0 e0 about1 theMethod args0 below0 :=
  ⟨lists_1, trivial, launch0.admits_env _ _ _, launch0.least_env, fairChoices_fair.cas, fairChoices_fair.clock, w_frames, w_args, w_heap, w_applies, trivial, trivial, w_case⟩
end start1
theorem witness_1 : WitnessClaimed_1 := ⟨start1.p0, start1.e0, start1.about1, start1.theMethod, start1.args0, start1.below0, start1.atStart⟩
end Jvm.Pilot.@@N@@
