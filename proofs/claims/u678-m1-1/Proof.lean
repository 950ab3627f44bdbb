import JvmDerived
import JvmDerived.Pilot.@@N@@Statement
import JvmDerived.Pilot.@@N@@Code
set_option linter.unusedVariables false
set_option linter.unusedSimpArgs false
namespace Jvm.RoadKit
open Sem ClassFile Op Lib Jvm.Stand Jvm.Free Jvm.LawKit
section New
variable {p : Program} {l : Launch} {e : Env} {R : Room} {s : State} {m : MethodId} {args : Array Value} {below : List Frame} {meth : Method} {c : Code} {T : State} {locs : List Loc} {cells slots : Nat}
theorem retI (X : Stand p l e R s m args below meth c T locs cells slots) (hx : p.tables.exec = Jvm.exec) {pc : Nat} {Ls : Array Slot} {z : Int32} {rest : List Value} (hret : meth.sig.returnType = some .int) (hd : decode c.code pc = .ok (.ireturn, 1)) {fs : List Frame}
    (hl : ∀ (f : JFrame) (acts : List Action), f.method = m → f.locked = none → f.entered = [] → (doReturn e (T.setTop f) acts (some (.int z))).1 = T.setFrames fs) : Steps p.tables e below (T.setTop (mkF m pc Ls (.int z :: rest))) (T.setFrames fs) := by
  have hm' : T.vm.method? m = some meth := X.method'
  have hn : narrow .int (.int z) = .int z := rfl
  show Steps p.tables e below (T.setTop { method := m, pc := pc, locals := Ls, stack := _ :: rest, locked := none }) _
  jvm_step X.here [X.here.top, hx, hd, hm', hret, hn]
  first | (intro acts; rw [hl _ acts rfl rfl rfl]) | rw [hl _ _ rfl rfl rfl]
  exact Steps.refl _
end New
end Jvm.RoadKit
namespace Jvm.Pilot.@@N@@
open Jvm Jvm.ClassFile Sem Op Lib Jvm.Free Jvm.Stand Jvm.LawKit Jvm.RoadKit Bundle Jvm.Pilot.@@N@@.Jvm.D
/-- what is left of a run from the state A: it comes to an end, returns, and leaves what Q says -/
def OwnG (tb : Tables) (e : Env) (below : List Frame) (s : State) (R : Room) (Q : Option Value → Heap → List Loc → Prop) (A : State) : Prop :=
  ∃ s₂ o, Steps tb e below A s₂ ∧ s₂.status = .running ∧ Ended s₂ below o ∧ ∃ v L, o = .returned v ∧ Q v s₂.heap L ∧ FrameEnd s o s₂ L R.cells R.slots
theorem OwnG.go {tb : Tables} {e : Env} {below : List Frame} {s : State} {R : Room} {Q : Option Value → Heap → List Loc → Prop} {A B : State} (st : ∀ t, Steps tb e below A t → Steps tb e below B t) (h : OwnG tb e below s R Q A) : OwnG tb e below s R Q B := by
  obtain ⟨s₂, o, h1, h2⟩ := h
  exact ⟨s₂, o, st _ h1, h2⟩
theorem own_stand {p : Program} {l : Launch} {e : Env} {R : Room} {s : State} {m : MethodId} {args : Array Value} {below : List Frame} {meth : Method} {c : Code} {T : State} {locs : List Loc} {k n k' n' : Nat} (X : Stand p l e R s m args below meth c T locs k n) (h1 : k ≤ k') (h2 : n ≤ n') : Stand p l e R s m args below meth c T locs k' n' :=
  { X with same := X.same.mono h1 h2 }
def own_op (u : Int64) : Int32 := if 0 < u then (if u % 100 = 0 then 1 else 0) else 0
theorem own_z64 : (0 : Int64).toInt = 0 := rfl
theorem own_h64 : (100 : Int64).toInt = 100 := rfl
theorem own_whole {u : Int64} (h : 0 < u) : (u / 100) * 100 = u ↔ u % 100 = 0 := by
  rw [Int64.lt_iff_toInt_lt, own_z64] at h
  rw [← Int64.toInt_inj, ← Int64.toInt_inj, Int64.toInt_mul, Int64.toInt_div, Int64.toInt_mod, own_z64, own_h64]
  have hb := Int64.toInt_lt u
  rw [Int.tdiv_eq_ediv_of_nonneg (by omega), Int.tmod_eq_emod_of_nonneg (by omega)]
  have e : (u.toInt / 100).bmod (2 ^ 64) = u.toInt / 100 := Int.bmod_eq_of_le (by omega) (by omega)
  rw [e, Int.bmod_eq_of_le (by omega) (by omega)]
  omega
theorem own_rem (r : Int32) : 0 ≤ ((r &&& (2147483647 : Int32)) % (100 : Int32)).toInt ∧ ((r &&& (2147483647 : Int32)) % (100 : Int32)).toInt < 100 := by
  have h0 : 0 ≤ (r &&& (2147483647 : Int32)).toInt := by
    rw [← Int32.toInt_toBitVec, Int32.toBitVec_and]
    have : (r.toBitVec &&& (2147483647 : Int32).toBitVec).msb = false := by
      rw [BitVec.msb_and, show (2147483647 : Int32).toBitVec.msb = false from by decide, Bool.and_false]
    rw [BitVec.toInt_eq_toNat_of_msb this]
    omega
  rw [Int32.toInt_mod, show (100 : Int32).toInt = 100 from rfl, Int.tmod_eq_emod_of_nonneg h0]
  omega
theorem own_cents (q : Int64) : (q >>> ((8 : Int32) &&& 0x3f).toInt64).toInt = q.toInt / 256 := by
  rw [show ((8 : Int32) &&& 0x3f).toInt64 = 8 from by decide, ← Int64.toInt_toBitVec, Int64.toBitVec_shiftRight]
  show (q.toBitVec.sshiftRight 8).toInt = _
  rw [BitVec.toInt_sshiftRight, Int.shiftRight_eq_div_pow]
  rfl
theorem own_units (q : Int64) (r : Int32) : ((q >>> ((8 : Int32) &&& 0x3f).toInt64) * (100 : Int64) + ((r &&& (2147483647 : Int32)) % (100 : Int32)).toInt64).toInt = (q >>> ((8 : Int32) &&& 0x3f).toInt64).toInt * 100 + ((r &&& (2147483647 : Int32)) % (100 : Int32)).toInt := by
  have h1 := own_rem r
  have h2 := own_cents q
  have h3 := Int64.toInt_lt q
  have h4 := Int64.le_toInt q
  rw [Int64.toInt_add, Int64.toInt_mul, Int32.toInt_toInt64, own_h64]
  have e : ((q >>> ((8 : Int32) &&& 0x3f).toInt64).toInt * 100).bmod (2 ^ 64) = (q >>> ((8 : Int32) &&& 0x3f).toInt64).toInt * 100 := Int.bmod_eq_of_le (by omega) (by omega)
  rw [e, Int.bmod_eq_of_le (by omega) (by omega)]
theorem own_built_f (q : Int64) (r : Int32) (h : ¬ ((r &&& (2147483647 : Int32)) % (100 : Int32)) = 0) : own_op ((q >>> ((8 : Int32) &&& 0x3f).toInt64) * (100 : Int64) + ((r &&& (2147483647 : Int32)) % (100 : Int32)).toInt64) = 0 := by
  have hu := own_units q r
  have h1 := own_rem r
  rw [← Int32.toInt_inj, show (0 : Int32).toInt = 0 from rfl] at h
  generalize hU : ((q >>> ((8 : Int32) &&& 0x3f).toInt64) * (100 : Int64) + ((r &&& (2147483647 : Int32)) % (100 : Int32)).toInt64) = U at hu ⊢
  unfold own_op
  split
  · rename_i hp
    rw [Int64.lt_iff_toInt_lt, own_z64] at hp
    rw [if_neg]
    rw [← Int64.toInt_inj, Int64.toInt_mod, own_z64, own_h64, Int.tmod_eq_emod_of_nonneg (by omega)]
    omega
  · rfl
theorem own_built_t (q : Int64) (r : Int32) (h : ((r &&& (2147483647 : Int32)) % (100 : Int32)) = 0) : own_op ((q >>> ((8 : Int32) &&& 0x3f).toInt64) * (100 : Int64) + ((r &&& (2147483647 : Int32)) % (100 : Int32)).toInt64) = if 0 < (q >>> ((8 : Int32) &&& 0x3f).toInt64) then 1 else 0 := by
  have hu := own_units q r
  have h1 := own_rem r
  rw [← Int32.toInt_inj, show (0 : Int32).toInt = 0 from rfl] at h
  generalize hU : ((q >>> ((8 : Int32) &&& 0x3f).toInt64) * (100 : Int64) + ((r &&& (2147483647 : Int32)) % (100 : Int32)).toInt64) = U at hu ⊢
  generalize (q >>> ((8 : Int32) &&& 0x3f).toInt64) = c at hu ⊢
  unfold own_op
  by_cases hp : 0 < c
  · have hp' := hp
    rw [Int64.lt_iff_toInt_lt, own_z64] at hp'
    have hU : 0 < U := by rw [Int64.lt_iff_toInt_lt, own_z64]; omega
    rw [if_pos hU, if_pos hp, if_pos]
    rw [← Int64.toInt_inj, Int64.toInt_mod, own_z64, own_h64, Int.tmod_eq_emod_of_nonneg (by omega)]
    omega
  · have hp' := hp
    rw [Int64.lt_iff_toInt_lt, own_z64] at hp'
    have hU : ¬ 0 < U := by rw [Int64.lt_iff_toInt_lt, own_z64]; omega
    rw [if_neg hU, if_neg hp]
theorem own_lrem (x : Int64) : x - x / (100 : Int64) * (100 : Int64) = x % (100 : Int64) := by
  apply Int64.toInt_inj.mp
  have h1 := Int64.toInt_lt x
  have h2 := Int64.le_toInt x
  have h3 := Int.mul_tdiv_add_tmod x.toInt 100
  have h4 := Int.tmod_lt_of_pos x.toInt (show (0 : Int) < 100 by decide)
  have h5 := Int.lt_tmod_of_pos x.toInt (show (0 : Int) < 100 by decide)
  rw [Int64.toInt_sub, Int64.toInt_mul, Int64.toInt_div, Int64.toInt_mod, show (100 : Int64).toInt = 100 from rfl]
  generalize x.toInt.tdiv 100 = t at h3 ⊢
  generalize x.toInt.tmod 100 = r at h3 h4 h5 ⊢
  generalize x.toInt = a at h1 h2 h3 ⊢
  have e1 : t.bmod (2 ^ 64) = t := Int.bmod_eq_of_le (by omega) (by omega)
  rw [e1, Int.sub_bmod_bmod, Int.bmod_eq_of_le (by omega) (by omega)]
  omega
theorem pd_1 : parseMethodDescriptor "(J)V" = some ⟨[.long], none⟩ := by decide +kernel
theorem pd_2 : parseMethodDescriptor "()V" = some ⟨[], none⟩ := by decide +kernel
theorem pd_3 : parseMethodDescriptor "()V" = some ⟨[], none⟩ := by decide +kernel
theorem pd_4 : parseMethodDescriptor "()Z" = some ⟨[], some .boolean⟩ := by decide +kernel
theorem d2_0 : decode jdk_30_method_1_code 0 = .ok (.aload_n 0, 1) := by decide +kernel
theorem d2_1 : decode jdk_30_method_1_code 1 = .ok (.invokespecial 1, 3) := by decide +kernel
theorem d2_4 : decode jdk_30_method_1_code 4 = .ok (.return_, 1) := by decide +kernel
theorem pn_2 : plainName "java/lang/Record" = true := by first | (simp [plainName, overriddenIn]; done) | decide +kernel
theorem ef_2 (m : MethodId) (x0 : Addr) : entryFrame m #[(.ref x0)] 1 = mkF m 0 #[.val (.ref x0)] [] := by first | (simp [entryFrame, mkF, argsToLocals, Value.category]; done) | rfl
def Q2 (Z : State) (a1 : Addr) (h0 : Heap) (n0 : Nat) (v : Option Value) (h : Heap) (L : List Loc) : Prop := v = none ∧ Fr n0 L ∧ h = h0
set_option maxRecDepth 65536 in
set_option maxHeartbeats 40000000 in
theorem rm2 (l : Launch) (Z : State) (a0 : Array Value) (hw : ∀ d ∈ tables_1, d.before a0 Z = true) (ws : List Jvm.Cond) (a1 : Addr) (h0 : Heap) (n0 : Nat) (Z0 : n0 ≤ h0.size)  :
    MetFree l (⟨"java/lang/Record", "<init>", "()V"⟩ : MethodName) (head1 (Jvm.Cond.code (⟨"java/lang/Record", "<init>", "()V"⟩ : MethodName) jdk_30_method_1_code 1 none :: ws) ({ frames := 1, cells := 0, slots := 0, locals := 12 } : Room)) (fun a U => a = #[(.ref a1)] ∧ Z.Warmed39 U.vm ∧ U.heap = h0) (fun _ _ _ _ _ => True) (fun _ U o U' => ∃ v L, o = .returned v ∧ (Q2 Z a1 h0 n0) v U'.heap L ∧ FrameEnd U o U' L ({ frames := 1, cells := 0, slots := 0, locals := 12 } : Room).cells ({ frames := 1, cells := 0, slots := 0, locals := 12 } : Room).slots) := by
  refine MetFree.of_bodySF (plainFor_of_name pn_2) hisR ?_
  intro p e s m args below meth c s₁ Bd hml0 hP hK
  obtain ⟨rfl, hZ, hh⟩ := hP
  have hx := Bd.exec
  have hby := Bd.bytes
  have hml : c.maxLocals = 1 := hml0
  have hown : s.vm.findClass "java/lang/Record" = some m.cls := (findClass_of_methodNamed Bd.named :)
  have hnm := (name_of_methodNamed Bd.named Bd.method).1
  have X0 : Stand p l e ({ frames := 1, cells := 0, slots := 0, locals := 12 } : Room) s m #[(.ref a1)] below meth c s₁ [] 0 0 := Stand.of_body Bd
  have e0 : s₁.heap = h0 := by rw [← hh, Bd.state]; rfl
  have N0 := Fr.nil n0
  show OwnG p.tables e below s ({ frames := 1, cells := 0, slots := 0, locals := 12 } : Room) (Q2 Z a1 h0 n0) (s₁.setTop (entryFrame m #[(.ref a1)] 1))
  refine OwnG.go (fun tz kz => castTop (ef_2 m a1) kz) ?_
  show OwnG _ _ _ _ _ _ (s₁.setTop (mkF m 0 #[.val (.ref a1)] []))
  refine OwnG.go (fun _ kz => XS.aloadN X0.here hx rfl (hb hby d2_0) rfl rfl kz) ?_
  show OwnG _ _ _ _ _ _ (s₁.setTop (mkF m 1 #[.val (.ref a1)] [(.ref a1)]))
  obtain ⟨T1, X1, e1, st1⟩ := initO X0 hx hZ hown (hw _ (List.mem_of_getElem? (i := 11) rfl)) (hw _ (List.mem_of_getElem? (i := 12) rfl)) (hw _ (List.mem_of_getElem? (i := 13) rfl)) e0 (g := (mkF m 1 #[.val (.ref a1)] [(.ref a1)])) rfl (by rw [hml]; rfl) rfl (hb hby d2_1) (by decide) (W := 0) (by show 2 * 0 + _ ≤ _; exact Nat.le_of_eq rfl) (by decide)
  refine OwnG.go st1 ?_
  show OwnG _ _ _ _ _ _ (T1.setTop (mkF m 4 #[.val (.ref a1)] []))
  obtain ⟨fs, hr, hrun, hended, hW, hsame⟩ := X1.leave (v := none) (fun _ => rfl)
  refine ⟨_, _, X1.returnOut hx Bd.returns (hb hby d2_4) hr, hrun, hended, _, _, rfl, ?_, ⟨_, rfl⟩, hW, hsame.mono (by decide) (by decide)⟩
  show (Q2 Z a1 h0 n0) _ T1.heap _
  rw [e1]
  exact ⟨rfl, N0, rfl⟩
theorem d1_0 : decode prog_32_method_1_code 0 = .ok (.aload_n 0, 1) := by decide +kernel
theorem d1_1 : decode prog_32_method_1_code 1 = .ok (.invokespecial 1, 3) := by decide +kernel
theorem d1_4 : decode prog_32_method_1_code 4 = .ok (.aload_n 0, 1) := by decide +kernel
theorem d1_5 : decode prog_32_method_1_code 5 = .ok (.lload_n 1, 1) := by decide +kernel
theorem d1_6 : decode prog_32_method_1_code 6 = .ok (.putfield 7, 3) := by decide +kernel
theorem d1_9 : decode prog_32_method_1_code 9 = .ok (.return_, 1) := by decide +kernel
theorem pn_1 : plainName "com/example/restbook/restbook/model/Price" = true := by first | (simp [plainName, overriddenIn]; done) | decide +kernel
theorem ef_1 (m : MethodId) (x0 : Addr) (x1 : Int64) : entryFrame m #[(.ref x0), (.long x1)] 3 = mkF m 0 #[.val (.ref x0), .val (.long x1), .second] [] := by first | (simp [entryFrame, mkF, argsToLocals, Value.category]; done) | rfl
def Q1 (Z : State) (a1 : Addr) (q2 : Int64) (u1 : Value) (h0 : Heap) (n0 : Nat) (v : Option Value) (h : Heap) (L : List Loc) : Prop := v = none ∧ Fr n0 L ∧ Keep h0 h [a1] ∧ Exa Z h a1 "com/example/restbook/restbook/model/Price" ∧ Fld Z h a1 "com/example/restbook/restbook/model/Price" "units" "J" (.long q2)
set_option maxRecDepth 65536 in
set_option maxHeartbeats 40000000 in
theorem rm1 (l : Launch) (Z : State) (a0 : Array Value) (hw : ∀ d ∈ tables_1, d.before a0 Z = true) (ws : List Jvm.Cond) (a1 : Addr) (q2 : Int64) (u1 : Value) (h0 : Heap) (n0 : Nat) (Z0 : n0 ≤ h0.size) (E1 : Exa Z h0 a1 "com/example/restbook/restbook/model/Price") (F1 : Fld Z h0 a1 "com/example/restbook/restbook/model/Price" "units" "J" u1) (g1 : n0 ≤ a1) :
    MetFree l (⟨"com/example/restbook/restbook/model/Price", "<init>", "(J)V"⟩ : MethodName) (head1 (Jvm.Cond.code (⟨"com/example/restbook/restbook/model/Price", "<init>", "(J)V"⟩ : MethodName) prog_32_method_1_code 3 none :: ws) ({ frames := 2, cells := 0, slots := 0, locals := 24 } : Room)) (fun a U => a = #[(.ref a1), (.long q2)] ∧ Z.Warmed39 U.vm ∧ U.heap = h0) (fun _ _ _ _ _ => True) (fun _ U o U' => ∃ v L, o = .returned v ∧ (Q1 Z a1 q2 u1 h0 n0) v U'.heap L ∧ FrameEnd U o U' L ({ frames := 2, cells := 0, slots := 0, locals := 24 } : Room).cells ({ frames := 2, cells := 0, slots := 0, locals := 24 } : Room).slots) := by
  refine MetFree.of_bodySF (plainFor_of_name pn_1) hisR ?_
  intro p e s m args below meth c s₁ Bd hml0 hP hK
  obtain ⟨rfl, hZ, hh⟩ := hP
  have hx := Bd.exec
  have hby := Bd.bytes
  have hml : c.maxLocals = 3 := hml0
  have hown : s.vm.findClass "com/example/restbook/restbook/model/Price" = some m.cls := (findClass_of_methodNamed Bd.named :)
  have hnm := (name_of_methodNamed Bd.named Bd.method).1
  have X0 : Stand p l e ({ frames := 2, cells := 0, slots := 0, locals := 24 } : Room) s m #[(.ref a1), (.long q2)] below meth c s₁ [] 0 0 := Stand.of_body Bd
  have e0 : s₁.heap = h0 := by rw [← hh, Bd.state]; rfl
  have N0 := Fr.nil n0
  show OwnG p.tables e below s ({ frames := 2, cells := 0, slots := 0, locals := 24 } : Room) (Q1 Z a1 q2 u1 h0 n0) (s₁.setTop (entryFrame m #[(.ref a1), (.long q2)] 3))
  refine OwnG.go (fun tz kz => castTop (ef_1 m a1 q2) kz) ?_
  show OwnG _ _ _ _ _ _ (s₁.setTop (mkF m 0 #[.val (.ref a1), .val (.long q2), .second] []))
  refine OwnG.go (fun _ kz => XS.aloadN X0.here hx rfl (hb hby d1_0) rfl rfl kz) ?_
  show OwnG _ _ _ _ _ _ (s₁.setTop (mkF m 1 #[.val (.ref a1), .val (.long q2), .second] [(.ref a1)]))
  obtain ⟨_, _, ⟨T1, L1, k1, n1⟩, -, X1, ⟨Lc1, hQ1, l1, y1, z1⟩, st1⟩ := X0.specialBack hx (y := (⟨"java/lang/Record", "<init>", "()V"⟩ : MethodName)) rfl hown (mvT hZ (hw _ (List.mem_of_getElem? (i := 6) rfl))) (mvT hZ (hw _ (List.mem_of_getElem? (i := 7) rfl))) (mvT hZ (hw _ (List.mem_of_getElem? (i := 10) rfl))) (by decide) (backOf (W := 0) (rm2 l Z a0 hw [] a1 h0 n0 Z0) hZ (hw _ (List.mem_of_getElem? (i := 10) rfl)) (hw _ (List.mem_of_getElem? (i := 9) rfl)) (by decide) (by decide)) (g := (mkF m 1 #[.val (.ref a1), .val (.long q2), .second] [(.ref a1)])) rfl (by rw [hml]; rfl) (Steps.refl _) (a := a1) (argsL := []) (rest := []) (lenOf pd_2 rfl) rfl (by show 2 * 0 + _ ≤ _; exact Nat.le_of_eq rfl) (hb hby d1_1) (fun _ _ => ⟨rfl, e0, (by decide : 0 + 0 ≤ _), (by decide : 0 + 0 ≤ _)⟩)
  dsimp only [Pt.U, Pt.locs, Pt.cells, Pt.slots] at X1 l1 y1 z1 st1 hQ1
  subst l1 y1 z1
  obtain ⟨rfl, N1q, hh1⟩ := hQ1
  have N1 := Fr.app N0 N1q
  refine OwnG.go (fun tz kz => st1.trans kz) ?_
  show OwnG _ _ _ _ _ _ (T1.setTop (mkF m 4 #[.val (.ref a1), .val (.long q2), .second] []))
  refine OwnG.go (fun _ kz => XS.aloadN X1.here hx rfl (hb hby d1_4) rfl rfl kz) ?_
  show OwnG _ _ _ _ _ _ (T1.setTop (mkF m 5 #[.val (.ref a1), .val (.long q2), .second] [(.ref a1)]))
  refine OwnG.go (fun _ kz => XS.lloadN X1.here hx rfl (hb hby d1_5) rfl kz) ?_
  show OwnG _ _ _ _ _ _ (T1.setTop (mkF m 6 #[.val (.ref a1), .val (.long q2), .second] [(.long q2), (.ref a1)]))
  obtain ⟨T2, h2, X2, e2, W2, st2⟩ := putF X1 hx hZ hown (host := "") (Or.inl (hw _ (List.mem_of_getElem? (i := 14) rfl))) Via.refl hh1 F1 E1 (Or.inr ⟨(hw _ (List.mem_of_getElem? (i := 15) rfl)), rfl, hnm⟩) (hw _ (List.mem_of_getElem? (i := 1) rfl)) (ty := .long) (by decide) rfl rfl (g := (mkF m 6 #[.val (.ref a1), .val (.long q2), .second] [(.long q2), (.ref a1)])) rfl rfl (hb hby d1_6)
  have Fw2 := F1.same W2
  have N2 := Fr.snoc X2 N1 g1
  refine OwnG.go st2 ?_
  show OwnG _ _ _ _ _ _ (T2.setTop (mkF m 9 #[.val (.ref a1), .val (.long q2), .second] []))
  obtain ⟨fs, hr, hrun, hended, hW, hsame⟩ := X2.leave (v := none) (fun _ => rfl)
  refine ⟨_, _, X2.returnOut hx Bd.returns (hb hby d1_9) hr, hrun, hended, _, _, rfl, ?_, ⟨_, rfl⟩, hW, hsame.mono (by decide) (by decide)⟩
  show (Q1 Z a1 q2 u1 h0 n0) _ T2.heap _
  rw [e2]
  exact ⟨rfl, N2, (Keep.refl h0 [a1]).wr W2 (Or.inl (List.mem_of_getElem? (i := 0) rfl)), E1.wr W2, Fw2⟩
theorem d4_0 : decode prog_32_method_3_code 0 = .ok (.aload_n 0, 1) := by decide +kernel
theorem d4_1 : decode prog_32_method_3_code 1 = .ok (.getfield 7, 3) := by decide +kernel
theorem d4_4 : decode prog_32_method_3_code 4 = .ok (.lconst 0, 1) := by decide +kernel
theorem d4_5 : decode prog_32_method_3_code 5 = .ok (.lcmp, 1) := by decide +kernel
theorem d4_6 : decode prog_32_method_3_code 6 = .ok (.ifCond .le 20, 3) := by decide +kernel
theorem d4_9 : decode prog_32_method_3_code 9 = .ok (.aload_n 0, 1) := by decide +kernel
theorem d4_10 : decode prog_32_method_3_code 10 = .ok (.getfield 7, 3) := by decide +kernel
theorem d4_13 : decode prog_32_method_3_code 13 = .ok (.ldc2_w 22, 3) := by decide +kernel
theorem d4_16 : decode prog_32_method_3_code 16 = .ok (.lrem, 1) := by decide +kernel
theorem d4_17 : decode prog_32_method_3_code 17 = .ok (.lconst 0, 1) := by decide +kernel
theorem d4_18 : decode prog_32_method_3_code 18 = .ok (.lcmp, 1) := by decide +kernel
theorem d4_19 : decode prog_32_method_3_code 19 = .ok (.ifCond .ne 7, 3) := by decide +kernel
theorem d4_22 : decode prog_32_method_3_code 22 = .ok (.iconst 1, 1) := by decide +kernel
theorem d4_23 : decode prog_32_method_3_code 23 = .ok (.goto 4, 3) := by decide +kernel
theorem d4_26 : decode prog_32_method_3_code 26 = .ok (.iconst 0, 1) := by decide +kernel
theorem d4_27 : decode prog_32_method_3_code 27 = .ok (.ireturn, 1) := by decide +kernel
theorem pn_4 : plainName "com/example/restbook/restbook/model/Price" = true := by first | (simp [plainName, overriddenIn]; done) | decide +kernel
theorem ef_4 (m : MethodId) (x0 : Addr) : entryFrame m #[(.ref x0)] 1 = mkF m 0 #[.val (.ref x0)] [] := by first | (simp [entryFrame, mkF, argsToLocals, Value.category]; done) | rfl
def Q4 (Z : State) (a1 : Addr) (q2 : Int64) (h0 : Heap) (n0 : Nat) (v : Option Value) (h : Heap) (L : List Loc) : Prop := v = some (.int (own_op q2)) ∧ Fr n0 L ∧ h = h0
set_option maxRecDepth 65536 in
set_option maxHeartbeats 40000000 in
theorem rm4 (l : Launch) (Z : State) (a0 : Array Value) (hw : ∀ d ∈ tables_1, d.before a0 Z = true) (ws : List Jvm.Cond) (a1 : Addr) (q2 : Int64) (h0 : Heap) (n0 : Nat) (Z0 : n0 ≤ h0.size) (F1 : Fld Z h0 a1 "com/example/restbook/restbook/model/Price" "units" "J" (.long q2)) :
    MetFree l (⟨"com/example/restbook/restbook/model/Price", "isOrderPrice", "()Z"⟩ : MethodName) (head1 (Jvm.Cond.code (⟨"com/example/restbook/restbook/model/Price", "isOrderPrice", "()Z"⟩ : MethodName) prog_32_method_3_code 1 (some .boolean) :: ws) ({ frames := 0, cells := 0, slots := 0, locals := 0 } : Room)) (fun a U => a = #[(.ref a1)] ∧ Z.Warmed39 U.vm ∧ U.heap = h0) (fun _ _ _ _ _ => True) (fun _ U o U' => ∃ v L, o = .returned v ∧ (Q4 Z a1 q2 h0 n0) v U'.heap L ∧ FrameEnd U o U' L ({ frames := 0, cells := 0, slots := 0, locals := 0 } : Room).cells ({ frames := 0, cells := 0, slots := 0, locals := 0 } : Room).slots) := by
  refine MetFree.of_bodySF (plainFor_of_name pn_4) hisR ?_
  intro p e s m args below meth c s₁ Bd hml0 hP hK
  obtain ⟨rfl, hZ, hh⟩ := hP
  have hx := Bd.exec
  have hby := Bd.bytes
  have hml : c.maxLocals = 1 := hml0
  have hown : s.vm.findClass "com/example/restbook/restbook/model/Price" = some m.cls := (findClass_of_methodNamed Bd.named :)
  have hnm := (name_of_methodNamed Bd.named Bd.method).1
  have X0 : Stand p l e ({ frames := 0, cells := 0, slots := 0, locals := 0 } : Room) s m #[(.ref a1)] below meth c s₁ [] 0 0 := Stand.of_body Bd
  have e0 : s₁.heap = h0 := by rw [← hh, Bd.state]; rfl
  have N0 := Fr.nil n0
  show OwnG p.tables e below s ({ frames := 0, cells := 0, slots := 0, locals := 0 } : Room) (Q4 Z a1 q2 h0 n0) (s₁.setTop (entryFrame m #[(.ref a1)] 1))
  refine OwnG.go (fun tz kz => castTop (ef_4 m a1) kz) ?_
  show OwnG _ _ _ _ _ _ (s₁.setTop (mkF m 0 #[.val (.ref a1)] []))
  refine OwnG.go (fun _ kz => XS.aloadN X0.here hx rfl (hb hby d4_0) rfl rfl kz) ?_
  show OwnG _ _ _ _ _ _ (s₁.setTop (mkF m 1 #[.val (.ref a1)] [(.ref a1)]))
  obtain ⟨T1, X1, e1, st1⟩ := getF X0 hx hZ hown (host := "") (Or.inl (hw _ (List.mem_of_getElem? (i := 14) rfl))) Via.refl e0 F1 (g := (mkF m 1 #[.val (.ref a1)] [(.ref a1)])) rfl rfl (hb hby d4_1)
  refine OwnG.go st1 ?_
  show OwnG _ _ _ _ _ _ (T1.setTop (mkF m 4 #[.val (.ref a1)] [(.long q2)]))
  refine OwnG.go (fun _ kz => XS.lconst X1.here hx rfl (hb hby d4_4) kz) ?_
  show OwnG _ _ _ _ _ _ (T1.setTop (mkF m 5 #[.val (.ref a1)] [(.long (0 : Int64)), (.long q2)]))
  refine OwnG.go (fun _ kz => XS.lcmp X1.here hx rfl (hb hby d4_5) rfl kz) ?_
  show OwnG _ _ _ _ _ _ (T1.setTop (mkF m 6 #[.val (.ref a1)] [(.int (lcmpW q2 (0 : Int64)))]))
  by_cases c1 : (0 : Int32) < (lcmpW q2 (0 : Int64))
  · have _u := ()
    refine OwnG.go (fun _ kz => XS.ifNo X1.here hx rfl (hb hby d4_6) rfl ((if0 _ _).trans (tlt c1).2.2.2) kz) ?_
    show OwnG _ _ _ _ _ _ (T1.setTop (mkF m 9 #[.val (.ref a1)] []))
    have c1' := (lw_gt _ _).mp c1
    refine OwnG.go (fun _ kz => XS.aloadN X1.here hx rfl (hb hby d4_9) rfl rfl kz) ?_
    show OwnG _ _ _ _ _ _ (T1.setTop (mkF m 10 #[.val (.ref a1)] [(.ref a1)]))
    obtain ⟨T2, X2, e2, st2⟩ := getF X1 hx hZ hown (host := "") (Or.inl (hw _ (List.mem_of_getElem? (i := 14) rfl))) Via.refl e1 F1 (g := (mkF m 10 #[.val (.ref a1)] [(.ref a1)])) rfl rfl (hb hby d4_10)
    refine OwnG.go st2 ?_
    show OwnG _ _ _ _ _ _ (T2.setTop (mkF m 13 #[.val (.ref a1)] [(.long q2)]))
    refine OwnG.go (fun _ kz => X2.ldc2Long hx hown (mvT hZ (hw _ (List.mem_of_getElem? (i := 22) rfl))) (g := (mkF m 13 #[.val (.ref a1)] [(.long q2)])) rfl (hb hby d4_13) _ kz) ?_
    show OwnG _ _ _ _ _ _ (T2.setTop (mkF m 16 #[.val (.ref a1)] [(.long (100 : Int64)), (.long q2)]))
    refine OwnG.go (fun _ kz => XS.lrem X2.here hx rfl (hb hby d4_16) rfl (by decide) kz) ?_
    rw [own_lrem]
    show OwnG _ _ _ _ _ _ (T2.setTop (mkF m 17 #[.val (.ref a1)] [(.long (q2 % (100 : Int64)))]))
    refine OwnG.go (fun _ kz => XS.lconst X2.here hx rfl (hb hby d4_17) kz) ?_
    show OwnG _ _ _ _ _ _ (T2.setTop (mkF m 18 #[.val (.ref a1)] [(.long (0 : Int64)), (.long (q2 % (100 : Int64)))]))
    refine OwnG.go (fun _ kz => XS.lcmp X2.here hx rfl (hb hby d4_18) rfl kz) ?_
    show OwnG _ _ _ _ _ _ (T2.setTop (mkF m 19 #[.val (.ref a1)] [(.int (lcmpW (q2 % (100 : Int64)) (0 : Int64)))]))
    by_cases c2 : (lcmpW (q2 % (100 : Int64)) (0 : Int64)) = (0 : Int32)
    · have _u := ()
      refine OwnG.go (fun _ kz => XS.ifNo X2.here hx rfl (hb hby d4_19) rfl ((if0 _ _).trans (teq c2).2) kz) ?_
      show OwnG _ _ _ _ _ _ (T2.setTop (mkF m 22 #[.val (.ref a1)] []))
      have c2' := (lw_eq _ _).mp c2
      refine OwnG.go (fun _ kz => XS.iconst X2.here hx rfl (hb hby d4_22) kz) ?_
      show OwnG _ _ _ _ _ _ (T2.setTop (mkF m 23 #[.val (.ref a1)] [(.int (1 : Int32))]))
      refine OwnG.go (fun _ kz => XS.goto X2.here hx rfl (pc0 := 23) (pc' := 27) rfl (hb hby d4_23) (by decide) (by decide) kz) ?_
      show OwnG _ _ _ _ _ _ (T2.setTop (mkF m 27 #[.val (.ref a1)] [(.int (1 : Int32))]))
      obtain ⟨fs, hr, hrun, hended, hW, hsame⟩ := X2.leave (v := some (.int (1 : Int32))) (fun h => by rw [Bd.returns] at h; cases h)
      refine ⟨_, _, retN X2 hx (t := .boolean) Bd.returns (by simp) (hb hby d4_27) hr, hrun, hended, _, _, rfl, ?_, ⟨_, rfl⟩, hW, hsame.mono (by decide) (by decide)⟩
      show (Q4 Z a1 q2 h0 n0) _ T2.heap _
      rw [e2]
      exact ⟨by simp [own_op, c1', c2'], N0, rfl⟩
    · have _u := ()
      refine OwnG.go (fun _ kz => XS.ifYes X2.here hx rfl (pc0 := 19) (pc' := 26) rfl (hb hby d4_19) rfl ((if0 _ _).trans (feq c2).2) (by decide) (by decide) kz) ?_
      show OwnG _ _ _ _ _ _ (T2.setTop (mkF m 26 #[.val (.ref a1)] []))
      have c2' : ¬ q2 % 100 = 0 := fun q => c2 ((lw_eq _ _).mpr q)
      refine OwnG.go (fun _ kz => XS.iconst X2.here hx rfl (hb hby d4_26) kz) ?_
      show OwnG _ _ _ _ _ _ (T2.setTop (mkF m 27 #[.val (.ref a1)] [(.int (0 : Int32))]))
      obtain ⟨fs, hr, hrun, hended, hW, hsame⟩ := X2.leave (v := some (.int (0 : Int32))) (fun h => by rw [Bd.returns] at h; cases h)
      refine ⟨_, _, retN X2 hx (t := .boolean) Bd.returns (by simp) (hb hby d4_27) hr, hrun, hended, _, _, rfl, ?_, ⟨_, rfl⟩, hW, hsame.mono (by decide) (by decide)⟩
      show (Q4 Z a1 q2 h0 n0) _ T2.heap _
      rw [e2]
      exact ⟨by simp [own_op, c1', c2'], N0, rfl⟩
  · have _u := ()
    refine OwnG.go (fun _ kz => XS.ifYes X1.here hx rfl (pc0 := 6) (pc' := 26) rfl (hb hby d4_6) rfl ((if0 _ _).trans (flt c1).2.2.2) (by decide) (by decide) kz) ?_
    show OwnG _ _ _ _ _ _ (T1.setTop (mkF m 26 #[.val (.ref a1)] []))
    have c1' : ¬ 0 < q2 := fun q => c1 ((lw_gt _ _).mpr q)
    refine OwnG.go (fun _ kz => XS.iconst X1.here hx rfl (hb hby d4_26) kz) ?_
    show OwnG _ _ _ _ _ _ (T1.setTop (mkF m 27 #[.val (.ref a1)] [(.int (0 : Int32))]))
    obtain ⟨fs, hr, hrun, hended, hW, hsame⟩ := X1.leave (v := some (.int (0 : Int32))) (fun h => by rw [Bd.returns] at h; cases h)
    refine ⟨_, _, retN X1 hx (t := .boolean) Bd.returns (by simp) (hb hby d4_27) hr, hrun, hended, _, _, rfl, ?_, ⟨_, rfl⟩, hW, hsame.mono (by decide) (by decide)⟩
    show (Q4 Z a1 q2 h0 n0) _ T1.heap _
    rw [e1]
    exact ⟨by simp [own_op, c1'], N0, rfl⟩
theorem pn_0 : plainName "com/example/restbook/restbook/model/PriceIsOrderPricePinLaw" = true := by first | (simp [plainName, overriddenIn]; done) | decide +kernel
theorem ef_0 (m : MethodId) (x0 : Int64) (x1 : Int64) (x2 : Int32) : entryFrame m #[(.long x0), (.long x1), (.int x2)] maxLocals = mkF m 0 #[.val (.long x0), .second, .val (.long x1), .second, .val (.int x2), .unset, .unset, .unset, .unset, .unset, .unset, .unset, .unset, .unset, .unset, .unset] [] := by first | (simp [entryFrame, mkF, argsToLocals, Value.category, maxLocals]; done) | rfl
def Q0 (Z : State) (q1 : Int64) (q2 : Int64) (p3 : Int32) (h0 : Heap) (n0 : Nat) (v : Option Value) (h : Heap) (L : List Loc) : Prop := v = some (.int (1 : Int32)) ∧ Fr n0 L
set_option maxRecDepth 65536 in
set_option maxHeartbeats 40000000 in
theorem rm0 (l : Launch) (Z : State) (a0 : Array Value) (hw : ∀ d ∈ tables_1, d.before a0 Z = true) (ws : List Jvm.Cond) (q1 : Int64) (q2 : Int64) (p3 : Int32) (h0 : Heap) (n0 : Nat) (Z0 : n0 ≤ h0.size)  :
    MetFree l x (head1 (Jvm.Cond.code x code maxLocals ret :: ws) room_1) (fun a U => a = #[(.long q1), (.long q2), (.int p3)] ∧ Z.Warmed39 U.vm ∧ U.heap = h0) (fun _ _ _ _ _ => True) (fun _ U o U' => ∃ v L, o = .returned v ∧ (Q0 Z q1 q2 p3 h0 n0) v U'.heap L ∧ FrameEnd U o U' L room_1.cells room_1.slots) := by
  refine MetFree.of_bodySF (plainFor_of_name pn_0) hisR ?_
  intro p e s m args below meth c s₁ Bd hml0 hP hK
  obtain ⟨rfl, hZ, hh⟩ := hP
  have hx := Bd.exec
  have hby := Bd.bytes
  have hml : c.maxLocals = 16 := hml0
  have hown : s.vm.findClass "com/example/restbook/restbook/model/PriceIsOrderPricePinLaw" = some m.cls := (findClass_of_methodNamed Bd.named :)
  have hnm := (name_of_methodNamed Bd.named Bd.method).1
  have X0 : Stand p l e room_1 s m #[(.long q1), (.long q2), (.int p3)] below meth c s₁ [] 0 0 := Stand.of_body Bd
  have e0 : s₁.heap = h0 := by rw [← hh, Bd.state]; rfl
  have N0 := Fr.nil n0
  show OwnG p.tables e below s room_1 (Q0 Z q1 q2 p3 h0 n0) (s₁.setTop (entryFrame m #[(.long q1), (.long q2), (.int p3)] maxLocals))
  refine OwnG.go (fun tz kz => castTop (ef_0 m q1 q2 p3) kz) ?_
  show OwnG _ _ _ _ _ _ (s₁.setTop (mkF m 0 #[.val (.long q1), .second, .val (.long q2), .second, .val (.int p3), .unset, .unset, .unset, .unset, .unset, .unset, .unset, .unset, .unset, .unset, .unset] []))
  obtain ⟨T1, h1, X1, e1, E1, A1, D1, -, st1⟩ := newO X0 hx hZ hown (hw _ (List.mem_of_getElem? (i := 0) rfl)) (hw _ (List.mem_of_getElem? (i := 1) rfl)) (hw _ (List.mem_of_getElem? (i := 2) rfl)) e0 (g := (mkF m 0 #[.val (.long q1), .second, .val (.long q2), .second, .val (.int p3), .unset, .unset, .unset, .unset, .unset, .unset, .unset, .unset, .unset, .unset, .unset] [])) rfl (hb hby at_0) (by decide) (by decide)
  obtain ⟨b1, g1⟩ : ∃ z, z = h0.size := ⟨_, rfl⟩
  rw [← g1] at A1 D1 st1
  refine OwnG.go st1 ?_
  show OwnG _ _ _ _ _ _ (T1.setTop (mkF m 3 #[.val (.long q1), .second, .val (.long q2), .second, .val (.int p3), .unset, .unset, .unset, .unset, .unset, .unset, .unset, .unset, .unset, .unset, .unset] [(.ref b1)]))
  have F_units_b1 : Fld Z h1 b1 "com/example/restbook/restbook/model/Price" "units" "J" (.long (0 : Int64)) := D1 (Or.inr (hw _ (List.mem_of_getElem? (i := 15) rfl))) (ty := .long) (by decide)
  have gb1 : n0 ≤ b1 := Nat.le_trans Z0 (Nat.le_of_eq g1.symm)
  have Z1 : n0 ≤ h1.size := Nat.le_trans Z0 E1.1
  refine OwnG.go (fun _ kz => XS.dup X1.here hx rfl (hb hby at_3) rfl rfl kz) ?_
  show OwnG _ _ _ _ _ _ (T1.setTop (mkF m 4 #[.val (.long q1), .second, .val (.long q2), .second, .val (.int p3), .unset, .unset, .unset, .unset, .unset, .unset, .unset, .unset, .unset, .unset, .unset] [(.ref b1), (.ref b1)]))
  refine OwnG.go (fun _ kz => XS.lloadN X1.here hx rfl (hb hby at_4) rfl kz) ?_
  show OwnG _ _ _ _ _ _ (T1.setTop (mkF m 5 #[.val (.long q1), .second, .val (.long q2), .second, .val (.int p3), .unset, .unset, .unset, .unset, .unset, .unset, .unset, .unset, .unset, .unset, .unset] [(.long q1), (.ref b1), (.ref b1)]))
  obtain ⟨_, _, ⟨T2, L2, k2, n2⟩, -, X2, ⟨Lc2, hQ2, l2, y2, z2⟩, st2⟩ := X1.specialBack hx (y := (⟨"com/example/restbook/restbook/model/Price", "<init>", "(J)V"⟩ : MethodName)) rfl hown (mvT hZ (hw _ (List.mem_of_getElem? (i := 3) rfl))) (mvT hZ (hw _ (List.mem_of_getElem? (i := 4) rfl))) (mvT hZ (hw _ (List.mem_of_getElem? (i := 5) rfl))) (by decide) (backOf (W := 1) (rm1 l Z a0 hw [] b1 q1 (.long (0 : Int64)) h1 n0 Z1 A1 F_units_b1 gb1) hZ (hw _ (List.mem_of_getElem? (i := 5) rfl)) (hw _ (List.mem_of_getElem? (i := 2) rfl)) (by decide) (by decide)) (g := (mkF m 5 #[.val (.long q1), .second, .val (.long q2), .second, .val (.int p3), .unset, .unset, .unset, .unset, .unset, .unset, .unset, .unset, .unset, .unset, .unset] [(.long q1), (.ref b1), (.ref b1)])) rfl (by rw [hml]; rfl) (Steps.refl _) (a := b1) (argsL := [(.long q1)]) (rest := [(.ref b1)]) (lenOf pd_1 rfl) rfl (by show 2 * 0 + _ ≤ _; exact Nat.le_of_eq rfl) (hb hby at_5) (fun _ _ => ⟨rfl, e1, (by decide : 1 + 0 ≤ _), (by decide : 1 + 0 ≤ _)⟩)
  dsimp only [Pt.U, Pt.locs, Pt.cells, Pt.slots] at X2 l2 y2 z2 st2 hQ2
  subst l2 y2 z2
  obtain ⟨rfl, N2q, K2, Ex2, Fu2⟩ := hQ2
  have N2 := Fr.app N0 N2q
  refine OwnG.go (fun tz kz => st2.trans kz) ?_
  show OwnG _ _ _ _ _ _ (T2.setTop (mkF m 8 #[.val (.long q1), .second, .val (.long q2), .second, .val (.int p3), .unset, .unset, .unset, .unset, .unset, .unset, .unset, .unset, .unset, .unset, .unset] [(.ref b1)]))
  have Z2 : n0 ≤ T2.heap.size := Nat.le_trans Z1 K2.1
  refine OwnG.go (fun _ kz => XS.astore X2.here hx rfl (hb hby at_8) rfl rfl (l' := #[.val (.long q1), .second, .val (.long q2), .second, .val (.int p3), .val (.ref b1), .unset, .unset, .unset, .unset, .unset, .unset, .unset, .unset, .unset, .unset]) rfl kz) ?_
  show OwnG _ _ _ _ _ _ (T2.setTop (mkF m 10 #[.val (.long q1), .second, .val (.long q2), .second, .val (.int p3), .val (.ref b1), .unset, .unset, .unset, .unset, .unset, .unset, .unset, .unset, .unset, .unset] []))
  refine OwnG.go (fun _ kz => XS.lloadN X2.here hx rfl (hb hby at_10) rfl kz) ?_
  show OwnG _ _ _ _ _ _ (T2.setTop (mkF m 11 #[.val (.long q1), .second, .val (.long q2), .second, .val (.int p3), .val (.ref b1), .unset, .unset, .unset, .unset, .unset, .unset, .unset, .unset, .unset, .unset] [(.long q1)]))
  refine OwnG.go (fun _ kz => XS.lconst X2.here hx rfl (hb hby at_11) kz) ?_
  show OwnG _ _ _ _ _ _ (T2.setTop (mkF m 12 #[.val (.long q1), .second, .val (.long q2), .second, .val (.int p3), .val (.ref b1), .unset, .unset, .unset, .unset, .unset, .unset, .unset, .unset, .unset, .unset] [(.long (0 : Int64)), (.long q1)]))
  refine OwnG.go (fun _ kz => XS.lcmp X2.here hx rfl (hb hby at_12) rfl kz) ?_
  show OwnG _ _ _ _ _ _ (T2.setTop (mkF m 13 #[.val (.long q1), .second, .val (.long q2), .second, .val (.int p3), .val (.ref b1), .unset, .unset, .unset, .unset, .unset, .unset, .unset, .unset, .unset, .unset] [(.int (lcmpW q1 (0 : Int64)))]))
  have B37 : ∀ b : Int32, b = own_op q1 → OwnG p.tables e below s room_1 (Q0 Z q1 q2 p3 h0 n0) (T2.setTop (mkF m 37 #[.val (.long q1), .second, .val (.long q2), .second, .val (.int p3), .val (.ref b1), .val (.int b), .unset, .unset, .unset, .unset, .unset, .unset, .unset, .unset, .unset] [])) := by
    intro b hb1
    refine OwnG.go (fun _ kz => XS.aload X2.here hx rfl (hb hby at_37) rfl rfl kz) ?_
    show OwnG _ _ _ _ _ _ (T2.setTop (mkF m 39 #[.val (.long q1), .second, .val (.long q2), .second, .val (.int p3), .val (.ref b1), .val (.int b), .unset, .unset, .unset, .unset, .unset, .unset, .unset, .unset, .unset] [(.ref b1)]))
    obtain ⟨cq3, kq3, q3a, q3b, q3c⟩ := isOf hZ (rfl : T2.heap = T2.heap) Ex2
    obtain ⟨_, _, ⟨T3, L3, k3, n3⟩, -, X3, ⟨Lc3, hQ3, l3, y3, z3⟩, st3⟩ := X2.virtualBack hx (y := (⟨"com/example/restbook/restbook/model/Price", "isOrderPrice", "()Z"⟩ : MethodName)) (z := (⟨"com/example/restbook/restbook/model/Price", "isOrderPrice", "()Z"⟩ : MethodName)) hown (mvT hZ (hw _ (List.mem_of_getElem? (i := 17) rfl))) (mvT hZ (hw _ (List.mem_of_getElem? (i := 18) rfl))) (notFace_of_selects (args := #[]) (mvT hZ (hw _ (List.mem_of_getElem? (i := 20) rfl)))) (mvT hZ (hw _ (List.mem_of_getElem? (i := 20) rfl))) (mvT hZ (hw _ (List.mem_of_getElem? (i := 19) rfl))) (by decide) (backOf (W := 0) (rm4 l Z a0 hw [] b1 q1 T2.heap n0 Z2 Fu2) hZ (hw _ (List.mem_of_getElem? (i := 21) rfl)) (hw _ (List.mem_of_getElem? (i := 2) rfl)) (by decide) (by decide)) q3a q3c (g := (mkF m 39 #[.val (.long q1), .second, .val (.long q2), .second, .val (.int p3), .val (.ref b1), .val (.int b), .unset, .unset, .unset, .unset, .unset, .unset, .unset, .unset, .unset] [(.ref b1)])) rfl (by rw [hml]; rfl) (Steps.refl _) (argsL := []) (rest := []) (lenOf pd_4 rfl) rfl (by show 2 * 0 + _ ≤ _; exact Nat.le_of_eq rfl) (hb hby at_39) (fun _ _ => ⟨rfl, (rfl : T2.heap = T2.heap), (by decide : 1 + 0 ≤ _), (by decide : 1 + 0 ≤ _)⟩)
    dsimp only [Pt.U, Pt.locs, Pt.cells, Pt.slots] at X3 l3 y3 z3 st3 hQ3
    subst l3 y3 z3
    obtain ⟨rfl, N3q, hh3⟩ := hQ3
    have N3 := Fr.app N2 N3q
    refine OwnG.go (fun tz kz => st3.trans kz) ?_
    show OwnG _ _ _ _ _ _ (T3.setTop (mkF m 42 #[.val (.long q1), .second, .val (.long q2), .second, .val (.int p3), .val (.ref b1), .val (.int b), .unset, .unset, .unset, .unset, .unset, .unset, .unset, .unset, .unset] [(.int (own_op q1))]))
    refine OwnG.go (fun _ kz => XS.iload X3.here hx rfl (hb hby at_42) rfl kz) ?_
    show OwnG _ _ _ _ _ _ (T3.setTop (mkF m 44 #[.val (.long q1), .second, .val (.long q2), .second, .val (.int p3), .val (.ref b1), .val (.int b), .unset, .unset, .unset, .unset, .unset, .unset, .unset, .unset, .unset] [(.int b), (.int (own_op q1))]))
    refine OwnG.go (fun _ kz => XS.icmpNo X3.here hx rfl (hb hby at_44) rfl (teq (hb1.symm : own_op q1 = b)).2 kz) ?_
    show OwnG _ _ _ _ _ _ (T3.setTop (mkF m 47 #[.val (.long q1), .second, .val (.long q2), .second, .val (.int p3), .val (.ref b1), .val (.int b), .unset, .unset, .unset, .unset, .unset, .unset, .unset, .unset, .unset] []))
    refine OwnG.go (fun _ kz => XS.iconst X3.here hx rfl (hb hby at_47) kz) ?_
    show OwnG _ _ _ _ _ _ (T3.setTop (mkF m 48 #[.val (.long q1), .second, .val (.long q2), .second, .val (.int p3), .val (.ref b1), .val (.int b), .unset, .unset, .unset, .unset, .unset, .unset, .unset, .unset, .unset] [(.int (1 : Int32))]))
    refine OwnG.go (fun _ kz => XS.goto X3.here hx rfl (pc0 := 48) (pc' := 52) rfl (hb hby at_48) (by decide) (by decide) kz) ?_
    show OwnG _ _ _ _ _ _ (T3.setTop (mkF m 52 #[.val (.long q1), .second, .val (.long q2), .second, .val (.int p3), .val (.ref b1), .val (.int b), .unset, .unset, .unset, .unset, .unset, .unset, .unset, .unset, .unset] [(.int (1 : Int32))]))
    refine OwnG.go (fun _ kz => XS.istore X3.here hx rfl (hb hby at_52) rfl (l' := #[.val (.long q1), .second, .val (.long q2), .second, .val (.int p3), .val (.ref b1), .val (.int b), .val (.int (1 : Int32)), .unset, .unset, .unset, .unset, .unset, .unset, .unset, .unset]) rfl kz) ?_
    show OwnG _ _ _ _ _ _ (T3.setTop (mkF m 54 #[.val (.long q1), .second, .val (.long q2), .second, .val (.int p3), .val (.ref b1), .val (.int b), .val (.int (1 : Int32)), .unset, .unset, .unset, .unset, .unset, .unset, .unset, .unset] []))
    refine OwnG.go (fun _ kz => XS.lloadN X3.here hx rfl (hb hby at_54) rfl kz) ?_
    show OwnG _ _ _ _ _ _ (T3.setTop (mkF m 55 #[.val (.long q1), .second, .val (.long q2), .second, .val (.int p3), .val (.ref b1), .val (.int b), .val (.int (1 : Int32)), .unset, .unset, .unset, .unset, .unset, .unset, .unset, .unset] [(.long q2)]))
    refine OwnG.go (fun _ kz => XS.bipush X3.here hx rfl (hb hby at_55) kz) ?_
    show OwnG _ _ _ _ _ _ (T3.setTop (mkF m 57 #[.val (.long q1), .second, .val (.long q2), .second, .val (.int p3), .val (.ref b1), .val (.int b), .val (.int (1 : Int32)), .unset, .unset, .unset, .unset, .unset, .unset, .unset, .unset] [(.int (8 : Int32)), (.long q2)]))
    refine OwnG.go (fun _ kz => XS.lshr X3.here hx rfl (hb hby at_57) rfl kz) ?_
    show OwnG _ _ _ _ _ _ (T3.setTop (mkF m 58 #[.val (.long q1), .second, .val (.long q2), .second, .val (.int p3), .val (.ref b1), .val (.int b), .val (.int (1 : Int32)), .unset, .unset, .unset, .unset, .unset, .unset, .unset, .unset] [(.long (q2 >>> ((8 : Int32) &&& 0x3f).toInt64))]))
    refine OwnG.go (fun _ kz => XS.lstore X3.here hx rfl (hb hby at_58) rfl (l' := #[.val (.long q1), .second, .val (.long q2), .second, .val (.int p3), .val (.ref b1), .val (.int b), .val (.int (1 : Int32)), .val (.long (q2 >>> ((8 : Int32) &&& 0x3f).toInt64)), .second, .unset, .unset, .unset, .unset, .unset, .unset]) rfl kz) ?_
    show OwnG _ _ _ _ _ _ (T3.setTop (mkF m 60 #[.val (.long q1), .second, .val (.long q2), .second, .val (.int p3), .val (.ref b1), .val (.int b), .val (.int (1 : Int32)), .val (.long (q2 >>> ((8 : Int32) &&& 0x3f).toInt64)), .second, .unset, .unset, .unset, .unset, .unset, .unset] []))
    refine OwnG.go (fun _ kz => XS.iload X3.here hx rfl (hb hby at_60) rfl kz) ?_
    show OwnG _ _ _ _ _ _ (T3.setTop (mkF m 62 #[.val (.long q1), .second, .val (.long q2), .second, .val (.int p3), .val (.ref b1), .val (.int b), .val (.int (1 : Int32)), .val (.long (q2 >>> ((8 : Int32) &&& 0x3f).toInt64)), .second, .unset, .unset, .unset, .unset, .unset, .unset] [(.int p3)]))
    refine OwnG.go (fun _ kz => X3.ldcInt hx hown (mvT hZ (hw _ (List.mem_of_getElem? (i := 23) rfl))) (g := (mkF m 62 #[.val (.long q1), .second, .val (.long q2), .second, .val (.int p3), .val (.ref b1), .val (.int b), .val (.int (1 : Int32)), .val (.long (q2 >>> ((8 : Int32) &&& 0x3f).toInt64)), .second, .unset, .unset, .unset, .unset, .unset, .unset] [(.int p3)])) rfl (hb hby at_62) _ kz) ?_
    show OwnG _ _ _ _ _ _ (T3.setTop (mkF m 64 #[.val (.long q1), .second, .val (.long q2), .second, .val (.int p3), .val (.ref b1), .val (.int b), .val (.int (1 : Int32)), .val (.long (q2 >>> ((8 : Int32) &&& 0x3f).toInt64)), .second, .unset, .unset, .unset, .unset, .unset, .unset] [(.int (2147483647 : Int32)), (.int p3)]))
    refine OwnG.go (fun _ kz => XS.iand X3.here hx rfl (hb hby at_64) rfl kz) ?_
    show OwnG _ _ _ _ _ _ (T3.setTop (mkF m 65 #[.val (.long q1), .second, .val (.long q2), .second, .val (.int p3), .val (.ref b1), .val (.int b), .val (.int (1 : Int32)), .val (.long (q2 >>> ((8 : Int32) &&& 0x3f).toInt64)), .second, .unset, .unset, .unset, .unset, .unset, .unset] [(.int (p3 &&& (2147483647 : Int32)))]))
    refine OwnG.go (fun _ kz => XS.bipush X3.here hx rfl (hb hby at_65) kz) ?_
    show OwnG _ _ _ _ _ _ (T3.setTop (mkF m 67 #[.val (.long q1), .second, .val (.long q2), .second, .val (.int p3), .val (.ref b1), .val (.int b), .val (.int (1 : Int32)), .val (.long (q2 >>> ((8 : Int32) &&& 0x3f).toInt64)), .second, .unset, .unset, .unset, .unset, .unset, .unset] [(.int (100 : Int32)), (.int (p3 &&& (2147483647 : Int32)))]))
    refine OwnG.go (fun _ kz => iremM X3 hx rfl (hb hby at_67) rfl (by decide) kz) ?_
    show OwnG _ _ _ _ _ _ (T3.setTop (mkF m 68 #[.val (.long q1), .second, .val (.long q2), .second, .val (.int p3), .val (.ref b1), .val (.int b), .val (.int (1 : Int32)), .val (.long (q2 >>> ((8 : Int32) &&& 0x3f).toInt64)), .second, .unset, .unset, .unset, .unset, .unset, .unset] [(.int ((p3 &&& (2147483647 : Int32)) % (100 : Int32)))]))
    refine OwnG.go (fun _ kz => XS.istore X3.here hx rfl (hb hby at_68) rfl (l' := #[.val (.long q1), .second, .val (.long q2), .second, .val (.int p3), .val (.ref b1), .val (.int b), .val (.int (1 : Int32)), .val (.long (q2 >>> ((8 : Int32) &&& 0x3f).toInt64)), .second, .val (.int ((p3 &&& (2147483647 : Int32)) % (100 : Int32))), .unset, .unset, .unset, .unset, .unset]) rfl kz) ?_
    show OwnG _ _ _ _ _ _ (T3.setTop (mkF m 70 #[.val (.long q1), .second, .val (.long q2), .second, .val (.int p3), .val (.ref b1), .val (.int b), .val (.int (1 : Int32)), .val (.long (q2 >>> ((8 : Int32) &&& 0x3f).toInt64)), .second, .val (.int ((p3 &&& (2147483647 : Int32)) % (100 : Int32))), .unset, .unset, .unset, .unset, .unset] []))
    refine OwnG.go (fun _ kz => XS.lload X3.here hx rfl (hb hby at_70) rfl kz) ?_
    show OwnG _ _ _ _ _ _ (T3.setTop (mkF m 72 #[.val (.long q1), .second, .val (.long q2), .second, .val (.int p3), .val (.ref b1), .val (.int b), .val (.int (1 : Int32)), .val (.long (q2 >>> ((8 : Int32) &&& 0x3f).toInt64)), .second, .val (.int ((p3 &&& (2147483647 : Int32)) % (100 : Int32))), .unset, .unset, .unset, .unset, .unset] [(.long (q2 >>> ((8 : Int32) &&& 0x3f).toInt64))]))
    refine OwnG.go (fun _ kz => X3.ldc2Long hx hown (mvT hZ (hw _ (List.mem_of_getElem? (i := 16) rfl))) (g := (mkF m 72 #[.val (.long q1), .second, .val (.long q2), .second, .val (.int p3), .val (.ref b1), .val (.int b), .val (.int (1 : Int32)), .val (.long (q2 >>> ((8 : Int32) &&& 0x3f).toInt64)), .second, .val (.int ((p3 &&& (2147483647 : Int32)) % (100 : Int32))), .unset, .unset, .unset, .unset, .unset] [(.long (q2 >>> ((8 : Int32) &&& 0x3f).toInt64))])) rfl (hb hby at_72) _ kz) ?_
    show OwnG _ _ _ _ _ _ (T3.setTop (mkF m 75 #[.val (.long q1), .second, .val (.long q2), .second, .val (.int p3), .val (.ref b1), .val (.int b), .val (.int (1 : Int32)), .val (.long (q2 >>> ((8 : Int32) &&& 0x3f).toInt64)), .second, .val (.int ((p3 &&& (2147483647 : Int32)) % (100 : Int32))), .unset, .unset, .unset, .unset, .unset] [(.long (100 : Int64)), (.long (q2 >>> ((8 : Int32) &&& 0x3f).toInt64))]))
    refine OwnG.go (fun _ kz => XS.lmul X3.here hx rfl (hb hby at_75) rfl kz) ?_
    show OwnG _ _ _ _ _ _ (T3.setTop (mkF m 76 #[.val (.long q1), .second, .val (.long q2), .second, .val (.int p3), .val (.ref b1), .val (.int b), .val (.int (1 : Int32)), .val (.long (q2 >>> ((8 : Int32) &&& 0x3f).toInt64)), .second, .val (.int ((p3 &&& (2147483647 : Int32)) % (100 : Int32))), .unset, .unset, .unset, .unset, .unset] [(.long ((q2 >>> ((8 : Int32) &&& 0x3f).toInt64) * (100 : Int64)))]))
    refine OwnG.go (fun _ kz => XS.iload X3.here hx rfl (hb hby at_76) rfl kz) ?_
    show OwnG _ _ _ _ _ _ (T3.setTop (mkF m 78 #[.val (.long q1), .second, .val (.long q2), .second, .val (.int p3), .val (.ref b1), .val (.int b), .val (.int (1 : Int32)), .val (.long (q2 >>> ((8 : Int32) &&& 0x3f).toInt64)), .second, .val (.int ((p3 &&& (2147483647 : Int32)) % (100 : Int32))), .unset, .unset, .unset, .unset, .unset] [(.int ((p3 &&& (2147483647 : Int32)) % (100 : Int32))), (.long ((q2 >>> ((8 : Int32) &&& 0x3f).toInt64) * (100 : Int64)))]))
    refine OwnG.go (fun _ kz => XS.i2l X3.here hx rfl (hb hby at_78) rfl kz) ?_
    show OwnG _ _ _ _ _ _ (T3.setTop (mkF m 79 #[.val (.long q1), .second, .val (.long q2), .second, .val (.int p3), .val (.ref b1), .val (.int b), .val (.int (1 : Int32)), .val (.long (q2 >>> ((8 : Int32) &&& 0x3f).toInt64)), .second, .val (.int ((p3 &&& (2147483647 : Int32)) % (100 : Int32))), .unset, .unset, .unset, .unset, .unset] [(.long (((p3 &&& (2147483647 : Int32)) % (100 : Int32)).toInt64)), (.long ((q2 >>> ((8 : Int32) &&& 0x3f).toInt64) * (100 : Int64)))]))
    refine OwnG.go (fun _ kz => XS.ladd X3.here hx rfl (hb hby at_79) rfl kz) ?_
    show OwnG _ _ _ _ _ _ (T3.setTop (mkF m 80 #[.val (.long q1), .second, .val (.long q2), .second, .val (.int p3), .val (.ref b1), .val (.int b), .val (.int (1 : Int32)), .val (.long (q2 >>> ((8 : Int32) &&& 0x3f).toInt64)), .second, .val (.int ((p3 &&& (2147483647 : Int32)) % (100 : Int32))), .unset, .unset, .unset, .unset, .unset] [(.long (((q2 >>> ((8 : Int32) &&& 0x3f).toInt64) * (100 : Int64)) + (((p3 &&& (2147483647 : Int32)) % (100 : Int32)).toInt64)))]))
    refine OwnG.go (fun _ kz => XS.lstore X3.here hx rfl (hb hby at_80) rfl (l' := #[.val (.long q1), .second, .val (.long q2), .second, .val (.int p3), .val (.ref b1), .val (.int b), .val (.int (1 : Int32)), .val (.long (q2 >>> ((8 : Int32) &&& 0x3f).toInt64)), .second, .val (.int ((p3 &&& (2147483647 : Int32)) % (100 : Int32))), .val (.long (((q2 >>> ((8 : Int32) &&& 0x3f).toInt64) * (100 : Int64)) + (((p3 &&& (2147483647 : Int32)) % (100 : Int32)).toInt64))), .second, .unset, .unset, .unset]) rfl kz) ?_
    show OwnG _ _ _ _ _ _ (T3.setTop (mkF m 82 #[.val (.long q1), .second, .val (.long q2), .second, .val (.int p3), .val (.ref b1), .val (.int b), .val (.int (1 : Int32)), .val (.long (q2 >>> ((8 : Int32) &&& 0x3f).toInt64)), .second, .val (.int ((p3 &&& (2147483647 : Int32)) % (100 : Int32))), .val (.long (((q2 >>> ((8 : Int32) &&& 0x3f).toInt64) * (100 : Int64)) + (((p3 &&& (2147483647 : Int32)) % (100 : Int32)).toInt64))), .second, .unset, .unset, .unset] []))
    obtain ⟨T4, h4, X4, e4, E4, A4, D4, -, st4⟩ := newO X3 hx hZ hown (hw _ (List.mem_of_getElem? (i := 0) rfl)) (hw _ (List.mem_of_getElem? (i := 1) rfl)) (hw _ (List.mem_of_getElem? (i := 2) rfl)) hh3 (g := (mkF m 82 #[.val (.long q1), .second, .val (.long q2), .second, .val (.int p3), .val (.ref b1), .val (.int b), .val (.int (1 : Int32)), .val (.long (q2 >>> ((8 : Int32) &&& 0x3f).toInt64)), .second, .val (.int ((p3 &&& (2147483647 : Int32)) % (100 : Int32))), .val (.long (((q2 >>> ((8 : Int32) &&& 0x3f).toInt64) * (100 : Int64)) + (((p3 &&& (2147483647 : Int32)) % (100 : Int32)).toInt64))), .second, .unset, .unset, .unset] [])) rfl (hb hby at_82) (by decide) (by decide)
    obtain ⟨b4, g4⟩ : ∃ z, z = T2.heap.size := ⟨_, rfl⟩
    rw [← g4] at A4 D4 st4
    refine OwnG.go st4 ?_
    show OwnG _ _ _ _ _ _ (T4.setTop (mkF m 85 #[.val (.long q1), .second, .val (.long q2), .second, .val (.int p3), .val (.ref b1), .val (.int b), .val (.int (1 : Int32)), .val (.long (q2 >>> ((8 : Int32) &&& 0x3f).toInt64)), .second, .val (.int ((p3 &&& (2147483647 : Int32)) % (100 : Int32))), .val (.long (((q2 >>> ((8 : Int32) &&& 0x3f).toInt64) * (100 : Int64)) + (((p3 &&& (2147483647 : Int32)) % (100 : Int32)).toInt64))), .second, .unset, .unset, .unset] [(.ref b4)]))
    have F_units_b4 : Fld Z h4 b4 "com/example/restbook/restbook/model/Price" "units" "J" (.long (0 : Int64)) := D4 (Or.inr (hw _ (List.mem_of_getElem? (i := 15) rfl))) (ty := .long) (by decide)
    have gb4 : n0 ≤ b4 := Nat.le_trans Z2 (Nat.le_of_eq g4.symm)
    have Z4 : n0 ≤ h4.size := Nat.le_trans Z2 E4.1
    refine OwnG.go (fun _ kz => XS.dup X4.here hx rfl (hb hby at_85) rfl rfl kz) ?_
    show OwnG _ _ _ _ _ _ (T4.setTop (mkF m 86 #[.val (.long q1), .second, .val (.long q2), .second, .val (.int p3), .val (.ref b1), .val (.int b), .val (.int (1 : Int32)), .val (.long (q2 >>> ((8 : Int32) &&& 0x3f).toInt64)), .second, .val (.int ((p3 &&& (2147483647 : Int32)) % (100 : Int32))), .val (.long (((q2 >>> ((8 : Int32) &&& 0x3f).toInt64) * (100 : Int64)) + (((p3 &&& (2147483647 : Int32)) % (100 : Int32)).toInt64))), .second, .unset, .unset, .unset] [(.ref b4), (.ref b4)]))
    refine OwnG.go (fun _ kz => XS.lload X4.here hx rfl (hb hby at_86) rfl kz) ?_
    show OwnG _ _ _ _ _ _ (T4.setTop (mkF m 88 #[.val (.long q1), .second, .val (.long q2), .second, .val (.int p3), .val (.ref b1), .val (.int b), .val (.int (1 : Int32)), .val (.long (q2 >>> ((8 : Int32) &&& 0x3f).toInt64)), .second, .val (.int ((p3 &&& (2147483647 : Int32)) % (100 : Int32))), .val (.long (((q2 >>> ((8 : Int32) &&& 0x3f).toInt64) * (100 : Int64)) + (((p3 &&& (2147483647 : Int32)) % (100 : Int32)).toInt64))), .second, .unset, .unset, .unset] [(.long (((q2 >>> ((8 : Int32) &&& 0x3f).toInt64) * (100 : Int64)) + (((p3 &&& (2147483647 : Int32)) % (100 : Int32)).toInt64))), (.ref b4), (.ref b4)]))
    obtain ⟨_, _, ⟨T5, L5, k5, n5⟩, -, X5, ⟨Lc5, hQ5, l5, y5, z5⟩, st5⟩ := X4.specialBack hx (y := (⟨"com/example/restbook/restbook/model/Price", "<init>", "(J)V"⟩ : MethodName)) rfl hown (mvT hZ (hw _ (List.mem_of_getElem? (i := 3) rfl))) (mvT hZ (hw _ (List.mem_of_getElem? (i := 4) rfl))) (mvT hZ (hw _ (List.mem_of_getElem? (i := 5) rfl))) (by decide) (backOf (W := 1) (rm1 l Z a0 hw [] b4 (((q2 >>> ((8 : Int32) &&& 0x3f).toInt64) * (100 : Int64)) + (((p3 &&& (2147483647 : Int32)) % (100 : Int32)).toInt64)) (.long (0 : Int64)) h4 n0 Z4 A4 F_units_b4 gb4) hZ (hw _ (List.mem_of_getElem? (i := 5) rfl)) (hw _ (List.mem_of_getElem? (i := 2) rfl)) (by decide) (by decide)) (g := (mkF m 88 #[.val (.long q1), .second, .val (.long q2), .second, .val (.int p3), .val (.ref b1), .val (.int b), .val (.int (1 : Int32)), .val (.long (q2 >>> ((8 : Int32) &&& 0x3f).toInt64)), .second, .val (.int ((p3 &&& (2147483647 : Int32)) % (100 : Int32))), .val (.long (((q2 >>> ((8 : Int32) &&& 0x3f).toInt64) * (100 : Int64)) + (((p3 &&& (2147483647 : Int32)) % (100 : Int32)).toInt64))), .second, .unset, .unset, .unset] [(.long (((q2 >>> ((8 : Int32) &&& 0x3f).toInt64) * (100 : Int64)) + (((p3 &&& (2147483647 : Int32)) % (100 : Int32)).toInt64))), (.ref b4), (.ref b4)])) rfl (by rw [hml]; rfl) (Steps.refl _) (a := b4) (argsL := [(.long (((q2 >>> ((8 : Int32) &&& 0x3f).toInt64) * (100 : Int64)) + (((p3 &&& (2147483647 : Int32)) % (100 : Int32)).toInt64)))]) (rest := [(.ref b4)]) (lenOf pd_1 rfl) rfl (by show 2 * 0 + _ ≤ _; exact Nat.le_of_eq rfl) (hb hby at_88) (fun _ _ => ⟨rfl, e4, (by decide : 2 + 0 ≤ _), (by decide : 2 + 0 ≤ _)⟩)
    dsimp only [Pt.U, Pt.locs, Pt.cells, Pt.slots] at X5 l5 y5 z5 st5 hQ5
    subst l5 y5 z5
    obtain ⟨rfl, N5q, K5, Ex5, Fu5⟩ := hQ5
    have N5 := Fr.app N3 N5q
    refine OwnG.go (fun tz kz => st5.trans kz) ?_
    show OwnG _ _ _ _ _ _ (T5.setTop (mkF m 91 #[.val (.long q1), .second, .val (.long q2), .second, .val (.int p3), .val (.ref b1), .val (.int b), .val (.int (1 : Int32)), .val (.long (q2 >>> ((8 : Int32) &&& 0x3f).toInt64)), .second, .val (.int ((p3 &&& (2147483647 : Int32)) % (100 : Int32))), .val (.long (((q2 >>> ((8 : Int32) &&& 0x3f).toInt64) * (100 : Int64)) + (((p3 &&& (2147483647 : Int32)) % (100 : Int32)).toInt64))), .second, .unset, .unset, .unset] [(.ref b4)]))
    have Z5 : n0 ≤ T5.heap.size := Nat.le_trans Z4 K5.1
    refine OwnG.go (fun _ kz => XS.astore X5.here hx rfl (hb hby at_91) rfl rfl (l' := #[.val (.long q1), .second, .val (.long q2), .second, .val (.int p3), .val (.ref b1), .val (.int b), .val (.int (1 : Int32)), .val (.long (q2 >>> ((8 : Int32) &&& 0x3f).toInt64)), .second, .val (.int ((p3 &&& (2147483647 : Int32)) % (100 : Int32))), .val (.long (((q2 >>> ((8 : Int32) &&& 0x3f).toInt64) * (100 : Int64)) + (((p3 &&& (2147483647 : Int32)) % (100 : Int32)).toInt64))), .second, .val (.ref b4), .unset, .unset]) rfl kz) ?_
    show OwnG _ _ _ _ _ _ (T5.setTop (mkF m 93 #[.val (.long q1), .second, .val (.long q2), .second, .val (.int p3), .val (.ref b1), .val (.int b), .val (.int (1 : Int32)), .val (.long (q2 >>> ((8 : Int32) &&& 0x3f).toInt64)), .second, .val (.int ((p3 &&& (2147483647 : Int32)) % (100 : Int32))), .val (.long (((q2 >>> ((8 : Int32) &&& 0x3f).toInt64) * (100 : Int64)) + (((p3 &&& (2147483647 : Int32)) % (100 : Int32)).toInt64))), .second, .val (.ref b4), .unset, .unset] []))
    refine OwnG.go (fun _ kz => XS.iload X5.here hx rfl (hb hby at_93) rfl kz) ?_
    show OwnG _ _ _ _ _ _ (T5.setTop (mkF m 95 #[.val (.long q1), .second, .val (.long q2), .second, .val (.int p3), .val (.ref b1), .val (.int b), .val (.int (1 : Int32)), .val (.long (q2 >>> ((8 : Int32) &&& 0x3f).toInt64)), .second, .val (.int ((p3 &&& (2147483647 : Int32)) % (100 : Int32))), .val (.long (((q2 >>> ((8 : Int32) &&& 0x3f).toInt64) * (100 : Int64)) + (((p3 &&& (2147483647 : Int32)) % (100 : Int32)).toInt64))), .second, .val (.ref b4), .unset, .unset] [(.int ((p3 &&& (2147483647 : Int32)) % (100 : Int32)))]))
    have B112 : ∀ b' : Int32, b' = own_op (((q2 >>> ((8 : Int32) &&& 0x3f).toInt64) * (100 : Int64)) + (((p3 &&& (2147483647 : Int32)) % (100 : Int32)).toInt64)) → OwnG p.tables e below s room_1 (Q0 Z q1 q2 p3 h0 n0) (T5.setTop (mkF m 112 #[.val (.long q1), .second, .val (.long q2), .second, .val (.int p3), .val (.ref b1), .val (.int b), .val (.int (1 : Int32)), .val (.long (q2 >>> ((8 : Int32) &&& 0x3f).toInt64)), .second, .val (.int ((p3 &&& (2147483647 : Int32)) % (100 : Int32))), .val (.long (((q2 >>> ((8 : Int32) &&& 0x3f).toInt64) * (100 : Int64)) + (((p3 &&& (2147483647 : Int32)) % (100 : Int32)).toInt64))), .second, .val (.ref b4), .val (.int b'), .unset] [])) := by
      intro b' hb2
      refine OwnG.go (fun _ kz => XS.aload X5.here hx rfl (hb hby at_112) rfl rfl kz) ?_
      show OwnG _ _ _ _ _ _ (T5.setTop (mkF m 114 #[.val (.long q1), .second, .val (.long q2), .second, .val (.int p3), .val (.ref b1), .val (.int b), .val (.int (1 : Int32)), .val (.long (q2 >>> ((8 : Int32) &&& 0x3f).toInt64)), .second, .val (.int ((p3 &&& (2147483647 : Int32)) % (100 : Int32))), .val (.long (((q2 >>> ((8 : Int32) &&& 0x3f).toInt64) * (100 : Int64)) + (((p3 &&& (2147483647 : Int32)) % (100 : Int32)).toInt64))), .second, .val (.ref b4), .val (.int b'), .unset] [(.ref b4)]))
      obtain ⟨cq6, kq6, q6a, q6b, q6c⟩ := isOf hZ (rfl : T5.heap = T5.heap) Ex5
      obtain ⟨_, _, ⟨T6, L6, k6, n6⟩, -, X6, ⟨Lc6, hQ6, l6, y6, z6⟩, st6⟩ := X5.virtualBack hx (y := (⟨"com/example/restbook/restbook/model/Price", "isOrderPrice", "()Z"⟩ : MethodName)) (z := (⟨"com/example/restbook/restbook/model/Price", "isOrderPrice", "()Z"⟩ : MethodName)) hown (mvT hZ (hw _ (List.mem_of_getElem? (i := 17) rfl))) (mvT hZ (hw _ (List.mem_of_getElem? (i := 18) rfl))) (notFace_of_selects (args := #[]) (mvT hZ (hw _ (List.mem_of_getElem? (i := 20) rfl)))) (mvT hZ (hw _ (List.mem_of_getElem? (i := 20) rfl))) (mvT hZ (hw _ (List.mem_of_getElem? (i := 19) rfl))) (by decide) (backOf (W := 0) (rm4 l Z a0 hw [] b4 (((q2 >>> ((8 : Int32) &&& 0x3f).toInt64) * (100 : Int64)) + (((p3 &&& (2147483647 : Int32)) % (100 : Int32)).toInt64)) T5.heap n0 Z5 Fu5) hZ (hw _ (List.mem_of_getElem? (i := 21) rfl)) (hw _ (List.mem_of_getElem? (i := 2) rfl)) (by decide) (by decide)) q6a q6c (g := (mkF m 114 #[.val (.long q1), .second, .val (.long q2), .second, .val (.int p3), .val (.ref b1), .val (.int b), .val (.int (1 : Int32)), .val (.long (q2 >>> ((8 : Int32) &&& 0x3f).toInt64)), .second, .val (.int ((p3 &&& (2147483647 : Int32)) % (100 : Int32))), .val (.long (((q2 >>> ((8 : Int32) &&& 0x3f).toInt64) * (100 : Int64)) + (((p3 &&& (2147483647 : Int32)) % (100 : Int32)).toInt64))), .second, .val (.ref b4), .val (.int b'), .unset] [(.ref b4)])) rfl (by rw [hml]; rfl) (Steps.refl _) (argsL := []) (rest := []) (lenOf pd_4 rfl) rfl (by show 2 * 0 + _ ≤ _; exact Nat.le_of_eq rfl) (hb hby at_114) (fun _ _ => ⟨rfl, (rfl : T5.heap = T5.heap), (by decide : 2 + 0 ≤ _), (by decide : 2 + 0 ≤ _)⟩)
      dsimp only [Pt.U, Pt.locs, Pt.cells, Pt.slots] at X6 l6 y6 z6 st6 hQ6
      subst l6 y6 z6
      obtain ⟨rfl, N6q, hh6⟩ := hQ6
      have N6 := Fr.app N5 N6q
      refine OwnG.go (fun tz kz => st6.trans kz) ?_
      show OwnG _ _ _ _ _ _ (T6.setTop (mkF m 117 #[.val (.long q1), .second, .val (.long q2), .second, .val (.int p3), .val (.ref b1), .val (.int b), .val (.int (1 : Int32)), .val (.long (q2 >>> ((8 : Int32) &&& 0x3f).toInt64)), .second, .val (.int ((p3 &&& (2147483647 : Int32)) % (100 : Int32))), .val (.long (((q2 >>> ((8 : Int32) &&& 0x3f).toInt64) * (100 : Int64)) + (((p3 &&& (2147483647 : Int32)) % (100 : Int32)).toInt64))), .second, .val (.ref b4), .val (.int b'), .unset] [(.int (own_op (((q2 >>> ((8 : Int32) &&& 0x3f).toInt64) * (100 : Int64)) + (((p3 &&& (2147483647 : Int32)) % (100 : Int32)).toInt64))))]))
      refine OwnG.go (fun _ kz => XS.iload X6.here hx rfl (hb hby at_117) rfl kz) ?_
      show OwnG _ _ _ _ _ _ (T6.setTop (mkF m 119 #[.val (.long q1), .second, .val (.long q2), .second, .val (.int p3), .val (.ref b1), .val (.int b), .val (.int (1 : Int32)), .val (.long (q2 >>> ((8 : Int32) &&& 0x3f).toInt64)), .second, .val (.int ((p3 &&& (2147483647 : Int32)) % (100 : Int32))), .val (.long (((q2 >>> ((8 : Int32) &&& 0x3f).toInt64) * (100 : Int64)) + (((p3 &&& (2147483647 : Int32)) % (100 : Int32)).toInt64))), .second, .val (.ref b4), .val (.int b'), .unset] [(.int b'), (.int (own_op (((q2 >>> ((8 : Int32) &&& 0x3f).toInt64) * (100 : Int64)) + (((p3 &&& (2147483647 : Int32)) % (100 : Int32)).toInt64))))]))
      refine OwnG.go (fun _ kz => XS.icmpNo X6.here hx rfl (hb hby at_119) rfl (teq (hb2.symm : own_op (((q2 >>> ((8 : Int32) &&& 0x3f).toInt64) * (100 : Int64)) + (((p3 &&& (2147483647 : Int32)) % (100 : Int32)).toInt64)) = b')).2 kz) ?_
      show OwnG _ _ _ _ _ _ (T6.setTop (mkF m 122 #[.val (.long q1), .second, .val (.long q2), .second, .val (.int p3), .val (.ref b1), .val (.int b), .val (.int (1 : Int32)), .val (.long (q2 >>> ((8 : Int32) &&& 0x3f).toInt64)), .second, .val (.int ((p3 &&& (2147483647 : Int32)) % (100 : Int32))), .val (.long (((q2 >>> ((8 : Int32) &&& 0x3f).toInt64) * (100 : Int64)) + (((p3 &&& (2147483647 : Int32)) % (100 : Int32)).toInt64))), .second, .val (.ref b4), .val (.int b'), .unset] []))
      refine OwnG.go (fun _ kz => XS.iconst X6.here hx rfl (hb hby at_122) kz) ?_
      show OwnG _ _ _ _ _ _ (T6.setTop (mkF m 123 #[.val (.long q1), .second, .val (.long q2), .second, .val (.int p3), .val (.ref b1), .val (.int b), .val (.int (1 : Int32)), .val (.long (q2 >>> ((8 : Int32) &&& 0x3f).toInt64)), .second, .val (.int ((p3 &&& (2147483647 : Int32)) % (100 : Int32))), .val (.long (((q2 >>> ((8 : Int32) &&& 0x3f).toInt64) * (100 : Int64)) + (((p3 &&& (2147483647 : Int32)) % (100 : Int32)).toInt64))), .second, .val (.ref b4), .val (.int b'), .unset] [(.int (1 : Int32))]))
      refine OwnG.go (fun _ kz => XS.goto X6.here hx rfl (pc0 := 123) (pc' := 127) rfl (hb hby at_123) (by decide) (by decide) kz) ?_
      show OwnG _ _ _ _ _ _ (T6.setTop (mkF m 127 #[.val (.long q1), .second, .val (.long q2), .second, .val (.int p3), .val (.ref b1), .val (.int b), .val (.int (1 : Int32)), .val (.long (q2 >>> ((8 : Int32) &&& 0x3f).toInt64)), .second, .val (.int ((p3 &&& (2147483647 : Int32)) % (100 : Int32))), .val (.long (((q2 >>> ((8 : Int32) &&& 0x3f).toInt64) * (100 : Int64)) + (((p3 &&& (2147483647 : Int32)) % (100 : Int32)).toInt64))), .second, .val (.ref b4), .val (.int b'), .unset] [(.int (1 : Int32))]))
      refine OwnG.go (fun _ kz => XS.istore X6.here hx rfl (hb hby at_127) rfl (l' := #[.val (.long q1), .second, .val (.long q2), .second, .val (.int p3), .val (.ref b1), .val (.int b), .val (.int (1 : Int32)), .val (.long (q2 >>> ((8 : Int32) &&& 0x3f).toInt64)), .second, .val (.int ((p3 &&& (2147483647 : Int32)) % (100 : Int32))), .val (.long (((q2 >>> ((8 : Int32) &&& 0x3f).toInt64) * (100 : Int64)) + (((p3 &&& (2147483647 : Int32)) % (100 : Int32)).toInt64))), .second, .val (.ref b4), .val (.int b'), .val (.int (1 : Int32))]) rfl kz) ?_
      show OwnG _ _ _ _ _ _ (T6.setTop (mkF m 129 #[.val (.long q1), .second, .val (.long q2), .second, .val (.int p3), .val (.ref b1), .val (.int b), .val (.int (1 : Int32)), .val (.long (q2 >>> ((8 : Int32) &&& 0x3f).toInt64)), .second, .val (.int ((p3 &&& (2147483647 : Int32)) % (100 : Int32))), .val (.long (((q2 >>> ((8 : Int32) &&& 0x3f).toInt64) * (100 : Int64)) + (((p3 &&& (2147483647 : Int32)) % (100 : Int32)).toInt64))), .second, .val (.ref b4), .val (.int b'), .val (.int (1 : Int32))] []))
      refine OwnG.go (fun _ kz => XS.iload X6.here hx rfl (hb hby at_129) rfl kz) ?_
      show OwnG _ _ _ _ _ _ (T6.setTop (mkF m 131 #[.val (.long q1), .second, .val (.long q2), .second, .val (.int p3), .val (.ref b1), .val (.int b), .val (.int (1 : Int32)), .val (.long (q2 >>> ((8 : Int32) &&& 0x3f).toInt64)), .second, .val (.int ((p3 &&& (2147483647 : Int32)) % (100 : Int32))), .val (.long (((q2 >>> ((8 : Int32) &&& 0x3f).toInt64) * (100 : Int64)) + (((p3 &&& (2147483647 : Int32)) % (100 : Int32)).toInt64))), .second, .val (.ref b4), .val (.int b'), .val (.int (1 : Int32))] [(.int (1 : Int32))]))
      refine OwnG.go (fun _ kz => XS.ifNo X6.here hx rfl (hb hby at_131) rfl ((if0 _ _).trans (feq (by decide)).1) kz) ?_
      show OwnG _ _ _ _ _ _ (T6.setTop (mkF m 134 #[.val (.long q1), .second, .val (.long q2), .second, .val (.int p3), .val (.ref b1), .val (.int b), .val (.int (1 : Int32)), .val (.long (q2 >>> ((8 : Int32) &&& 0x3f).toInt64)), .second, .val (.int ((p3 &&& (2147483647 : Int32)) % (100 : Int32))), .val (.long (((q2 >>> ((8 : Int32) &&& 0x3f).toInt64) * (100 : Int64)) + (((p3 &&& (2147483647 : Int32)) % (100 : Int32)).toInt64))), .second, .val (.ref b4), .val (.int b'), .val (.int (1 : Int32))] []))
      refine OwnG.go (fun _ kz => XS.iload X6.here hx rfl (hb hby at_134) rfl kz) ?_
      show OwnG _ _ _ _ _ _ (T6.setTop (mkF m 136 #[.val (.long q1), .second, .val (.long q2), .second, .val (.int p3), .val (.ref b1), .val (.int b), .val (.int (1 : Int32)), .val (.long (q2 >>> ((8 : Int32) &&& 0x3f).toInt64)), .second, .val (.int ((p3 &&& (2147483647 : Int32)) % (100 : Int32))), .val (.long (((q2 >>> ((8 : Int32) &&& 0x3f).toInt64) * (100 : Int64)) + (((p3 &&& (2147483647 : Int32)) % (100 : Int32)).toInt64))), .second, .val (.ref b4), .val (.int b'), .val (.int (1 : Int32))] [(.int (1 : Int32))]))
      refine OwnG.go (fun _ kz => XS.ifNo X6.here hx rfl (hb hby at_136) rfl ((if0 _ _).trans (feq (by decide)).1) kz) ?_
      show OwnG _ _ _ _ _ _ (T6.setTop (mkF m 139 #[.val (.long q1), .second, .val (.long q2), .second, .val (.int p3), .val (.ref b1), .val (.int b), .val (.int (1 : Int32)), .val (.long (q2 >>> ((8 : Int32) &&& 0x3f).toInt64)), .second, .val (.int ((p3 &&& (2147483647 : Int32)) % (100 : Int32))), .val (.long (((q2 >>> ((8 : Int32) &&& 0x3f).toInt64) * (100 : Int64)) + (((p3 &&& (2147483647 : Int32)) % (100 : Int32)).toInt64))), .second, .val (.ref b4), .val (.int b'), .val (.int (1 : Int32))] []))
      refine OwnG.go (fun _ kz => XS.iconst X6.here hx rfl (hb hby at_139) kz) ?_
      show OwnG _ _ _ _ _ _ (T6.setTop (mkF m 140 #[.val (.long q1), .second, .val (.long q2), .second, .val (.int p3), .val (.ref b1), .val (.int b), .val (.int (1 : Int32)), .val (.long (q2 >>> ((8 : Int32) &&& 0x3f).toInt64)), .second, .val (.int ((p3 &&& (2147483647 : Int32)) % (100 : Int32))), .val (.long (((q2 >>> ((8 : Int32) &&& 0x3f).toInt64) * (100 : Int64)) + (((p3 &&& (2147483647 : Int32)) % (100 : Int32)).toInt64))), .second, .val (.ref b4), .val (.int b'), .val (.int (1 : Int32))] [(.int (1 : Int32))]))
      refine OwnG.go (fun _ kz => XS.goto X6.here hx rfl (pc0 := 140) (pc' := 144) rfl (hb hby at_140) (by decide) (by decide) kz) ?_
      show OwnG _ _ _ _ _ _ (T6.setTop (mkF m 144 #[.val (.long q1), .second, .val (.long q2), .second, .val (.int p3), .val (.ref b1), .val (.int b), .val (.int (1 : Int32)), .val (.long (q2 >>> ((8 : Int32) &&& 0x3f).toInt64)), .second, .val (.int ((p3 &&& (2147483647 : Int32)) % (100 : Int32))), .val (.long (((q2 >>> ((8 : Int32) &&& 0x3f).toInt64) * (100 : Int64)) + (((p3 &&& (2147483647 : Int32)) % (100 : Int32)).toInt64))), .second, .val (.ref b4), .val (.int b'), .val (.int (1 : Int32))] [(.int (1 : Int32))]))
      obtain ⟨fs, hr, hrun, hended, hW, hsame⟩ := X6.leave (v := some (.int (1 : Int32))) (fun h => by rw [Bd.returns] at h; cases h)
      refine ⟨_, _, retN X6 hx (t := .boolean) Bd.returns (by simp) (hb hby at_144) hr, hrun, hended, _, _, rfl, ?_, ⟨_, rfl⟩, hW, hsame.mono (by decide) (by decide)⟩
      show (Q0 Z q1 q2 p3 h0 n0) _ T6.heap _
      rw [hh6]
      exact ⟨rfl, N6⟩
    by_cases c3 : ((p3 &&& (2147483647 : Int32)) % (100 : Int32)) = (0 : Int32)
    · have _u := ()
      refine OwnG.go (fun _ kz => XS.ifNo X5.here hx rfl (hb hby at_95) rfl ((if0 _ _).trans (teq c3).2) kz) ?_
      show OwnG _ _ _ _ _ _ (T5.setTop (mkF m 98 #[.val (.long q1), .second, .val (.long q2), .second, .val (.int p3), .val (.ref b1), .val (.int b), .val (.int (1 : Int32)), .val (.long (q2 >>> ((8 : Int32) &&& 0x3f).toInt64)), .second, .val (.int ((p3 &&& (2147483647 : Int32)) % (100 : Int32))), .val (.long (((q2 >>> ((8 : Int32) &&& 0x3f).toInt64) * (100 : Int64)) + (((p3 &&& (2147483647 : Int32)) % (100 : Int32)).toInt64))), .second, .val (.ref b4), .unset, .unset] []))
      refine OwnG.go (fun _ kz => XS.lload X5.here hx rfl (hb hby at_98) rfl kz) ?_
      show OwnG _ _ _ _ _ _ (T5.setTop (mkF m 100 #[.val (.long q1), .second, .val (.long q2), .second, .val (.int p3), .val (.ref b1), .val (.int b), .val (.int (1 : Int32)), .val (.long (q2 >>> ((8 : Int32) &&& 0x3f).toInt64)), .second, .val (.int ((p3 &&& (2147483647 : Int32)) % (100 : Int32))), .val (.long (((q2 >>> ((8 : Int32) &&& 0x3f).toInt64) * (100 : Int64)) + (((p3 &&& (2147483647 : Int32)) % (100 : Int32)).toInt64))), .second, .val (.ref b4), .unset, .unset] [(.long (q2 >>> ((8 : Int32) &&& 0x3f).toInt64))]))
      refine OwnG.go (fun _ kz => XS.lconst X5.here hx rfl (hb hby at_100) kz) ?_
      show OwnG _ _ _ _ _ _ (T5.setTop (mkF m 101 #[.val (.long q1), .second, .val (.long q2), .second, .val (.int p3), .val (.ref b1), .val (.int b), .val (.int (1 : Int32)), .val (.long (q2 >>> ((8 : Int32) &&& 0x3f).toInt64)), .second, .val (.int ((p3 &&& (2147483647 : Int32)) % (100 : Int32))), .val (.long (((q2 >>> ((8 : Int32) &&& 0x3f).toInt64) * (100 : Int64)) + (((p3 &&& (2147483647 : Int32)) % (100 : Int32)).toInt64))), .second, .val (.ref b4), .unset, .unset] [(.long (0 : Int64)), (.long (q2 >>> ((8 : Int32) &&& 0x3f).toInt64))]))
      refine OwnG.go (fun _ kz => XS.lcmp X5.here hx rfl (hb hby at_101) rfl kz) ?_
      show OwnG _ _ _ _ _ _ (T5.setTop (mkF m 102 #[.val (.long q1), .second, .val (.long q2), .second, .val (.int p3), .val (.ref b1), .val (.int b), .val (.int (1 : Int32)), .val (.long (q2 >>> ((8 : Int32) &&& 0x3f).toInt64)), .second, .val (.int ((p3 &&& (2147483647 : Int32)) % (100 : Int32))), .val (.long (((q2 >>> ((8 : Int32) &&& 0x3f).toInt64) * (100 : Int64)) + (((p3 &&& (2147483647 : Int32)) % (100 : Int32)).toInt64))), .second, .val (.ref b4), .unset, .unset] [(.int (lcmpW (q2 >>> ((8 : Int32) &&& 0x3f).toInt64) (0 : Int64)))]))
      by_cases c4 : (0 : Int32) < (lcmpW (q2 >>> ((8 : Int32) &&& 0x3f).toInt64) (0 : Int64))
      · have _u := ()
        refine OwnG.go (fun _ kz => XS.ifNo X5.here hx rfl (hb hby at_102) rfl ((if0 _ _).trans (tlt c4).2.2.2) kz) ?_
        show OwnG _ _ _ _ _ _ (T5.setTop (mkF m 105 #[.val (.long q1), .second, .val (.long q2), .second, .val (.int p3), .val (.ref b1), .val (.int b), .val (.int (1 : Int32)), .val (.long (q2 >>> ((8 : Int32) &&& 0x3f).toInt64)), .second, .val (.int ((p3 &&& (2147483647 : Int32)) % (100 : Int32))), .val (.long (((q2 >>> ((8 : Int32) &&& 0x3f).toInt64) * (100 : Int64)) + (((p3 &&& (2147483647 : Int32)) % (100 : Int32)).toInt64))), .second, .val (.ref b4), .unset, .unset] []))
        refine OwnG.go (fun _ kz => XS.iconst X5.here hx rfl (hb hby at_105) kz) ?_
        show OwnG _ _ _ _ _ _ (T5.setTop (mkF m 106 #[.val (.long q1), .second, .val (.long q2), .second, .val (.int p3), .val (.ref b1), .val (.int b), .val (.int (1 : Int32)), .val (.long (q2 >>> ((8 : Int32) &&& 0x3f).toInt64)), .second, .val (.int ((p3 &&& (2147483647 : Int32)) % (100 : Int32))), .val (.long (((q2 >>> ((8 : Int32) &&& 0x3f).toInt64) * (100 : Int64)) + (((p3 &&& (2147483647 : Int32)) % (100 : Int32)).toInt64))), .second, .val (.ref b4), .unset, .unset] [(.int (1 : Int32))]))
        refine OwnG.go (fun _ kz => XS.goto X5.here hx rfl (pc0 := 106) (pc' := 110) rfl (hb hby at_106) (by decide) (by decide) kz) ?_
        show OwnG _ _ _ _ _ _ (T5.setTop (mkF m 110 #[.val (.long q1), .second, .val (.long q2), .second, .val (.int p3), .val (.ref b1), .val (.int b), .val (.int (1 : Int32)), .val (.long (q2 >>> ((8 : Int32) &&& 0x3f).toInt64)), .second, .val (.int ((p3 &&& (2147483647 : Int32)) % (100 : Int32))), .val (.long (((q2 >>> ((8 : Int32) &&& 0x3f).toInt64) * (100 : Int64)) + (((p3 &&& (2147483647 : Int32)) % (100 : Int32)).toInt64))), .second, .val (.ref b4), .unset, .unset] [(.int (1 : Int32))]))
        refine OwnG.go (fun _ kz => XS.istore X5.here hx rfl (hb hby at_110) rfl (l' := #[.val (.long q1), .second, .val (.long q2), .second, .val (.int p3), .val (.ref b1), .val (.int b), .val (.int (1 : Int32)), .val (.long (q2 >>> ((8 : Int32) &&& 0x3f).toInt64)), .second, .val (.int ((p3 &&& (2147483647 : Int32)) % (100 : Int32))), .val (.long (((q2 >>> ((8 : Int32) &&& 0x3f).toInt64) * (100 : Int64)) + (((p3 &&& (2147483647 : Int32)) % (100 : Int32)).toInt64))), .second, .val (.ref b4), .val (.int (1 : Int32)), .unset]) rfl kz) ?_
        show OwnG _ _ _ _ _ _ (T5.setTop (mkF m 112 #[.val (.long q1), .second, .val (.long q2), .second, .val (.int p3), .val (.ref b1), .val (.int b), .val (.int (1 : Int32)), .val (.long (q2 >>> ((8 : Int32) &&& 0x3f).toInt64)), .second, .val (.int ((p3 &&& (2147483647 : Int32)) % (100 : Int32))), .val (.long (((q2 >>> ((8 : Int32) &&& 0x3f).toInt64) * (100 : Int64)) + (((p3 &&& (2147483647 : Int32)) % (100 : Int32)).toInt64))), .second, .val (.ref b4), .val (.int (1 : Int32)), .unset] []))
        exact B112 _ (by rw [own_built_t q2 p3 c3, if_pos ((lw_gt _ _).mp c4)])
      · have _u := ()
        refine OwnG.go (fun _ kz => XS.ifYes X5.here hx rfl (pc0 := 102) (pc' := 109) rfl (hb hby at_102) rfl ((if0 _ _).trans (flt c4).2.2.2) (by decide) (by decide) kz) ?_
        show OwnG _ _ _ _ _ _ (T5.setTop (mkF m 109 #[.val (.long q1), .second, .val (.long q2), .second, .val (.int p3), .val (.ref b1), .val (.int b), .val (.int (1 : Int32)), .val (.long (q2 >>> ((8 : Int32) &&& 0x3f).toInt64)), .second, .val (.int ((p3 &&& (2147483647 : Int32)) % (100 : Int32))), .val (.long (((q2 >>> ((8 : Int32) &&& 0x3f).toInt64) * (100 : Int64)) + (((p3 &&& (2147483647 : Int32)) % (100 : Int32)).toInt64))), .second, .val (.ref b4), .unset, .unset] []))
        refine OwnG.go (fun _ kz => XS.iconst X5.here hx rfl (hb hby at_109) kz) ?_
        show OwnG _ _ _ _ _ _ (T5.setTop (mkF m 110 #[.val (.long q1), .second, .val (.long q2), .second, .val (.int p3), .val (.ref b1), .val (.int b), .val (.int (1 : Int32)), .val (.long (q2 >>> ((8 : Int32) &&& 0x3f).toInt64)), .second, .val (.int ((p3 &&& (2147483647 : Int32)) % (100 : Int32))), .val (.long (((q2 >>> ((8 : Int32) &&& 0x3f).toInt64) * (100 : Int64)) + (((p3 &&& (2147483647 : Int32)) % (100 : Int32)).toInt64))), .second, .val (.ref b4), .unset, .unset] [(.int (0 : Int32))]))
        refine OwnG.go (fun _ kz => XS.istore X5.here hx rfl (hb hby at_110) rfl (l' := #[.val (.long q1), .second, .val (.long q2), .second, .val (.int p3), .val (.ref b1), .val (.int b), .val (.int (1 : Int32)), .val (.long (q2 >>> ((8 : Int32) &&& 0x3f).toInt64)), .second, .val (.int ((p3 &&& (2147483647 : Int32)) % (100 : Int32))), .val (.long (((q2 >>> ((8 : Int32) &&& 0x3f).toInt64) * (100 : Int64)) + (((p3 &&& (2147483647 : Int32)) % (100 : Int32)).toInt64))), .second, .val (.ref b4), .val (.int (0 : Int32)), .unset]) rfl kz) ?_
        show OwnG _ _ _ _ _ _ (T5.setTop (mkF m 112 #[.val (.long q1), .second, .val (.long q2), .second, .val (.int p3), .val (.ref b1), .val (.int b), .val (.int (1 : Int32)), .val (.long (q2 >>> ((8 : Int32) &&& 0x3f).toInt64)), .second, .val (.int ((p3 &&& (2147483647 : Int32)) % (100 : Int32))), .val (.long (((q2 >>> ((8 : Int32) &&& 0x3f).toInt64) * (100 : Int64)) + (((p3 &&& (2147483647 : Int32)) % (100 : Int32)).toInt64))), .second, .val (.ref b4), .val (.int (0 : Int32)), .unset] []))
        exact B112 _ (by rw [own_built_t q2 p3 c3, if_neg (fun q => c4 ((lw_gt _ _).mpr q))])
    · have _u := ()
      refine OwnG.go (fun _ kz => XS.ifYes X5.here hx rfl (pc0 := 95) (pc' := 109) rfl (hb hby at_95) rfl ((if0 _ _).trans (feq c3).2) (by decide) (by decide) kz) ?_
      show OwnG _ _ _ _ _ _ (T5.setTop (mkF m 109 #[.val (.long q1), .second, .val (.long q2), .second, .val (.int p3), .val (.ref b1), .val (.int b), .val (.int (1 : Int32)), .val (.long (q2 >>> ((8 : Int32) &&& 0x3f).toInt64)), .second, .val (.int ((p3 &&& (2147483647 : Int32)) % (100 : Int32))), .val (.long (((q2 >>> ((8 : Int32) &&& 0x3f).toInt64) * (100 : Int64)) + (((p3 &&& (2147483647 : Int32)) % (100 : Int32)).toInt64))), .second, .val (.ref b4), .unset, .unset] []))
      refine OwnG.go (fun _ kz => XS.iconst X5.here hx rfl (hb hby at_109) kz) ?_
      show OwnG _ _ _ _ _ _ (T5.setTop (mkF m 110 #[.val (.long q1), .second, .val (.long q2), .second, .val (.int p3), .val (.ref b1), .val (.int b), .val (.int (1 : Int32)), .val (.long (q2 >>> ((8 : Int32) &&& 0x3f).toInt64)), .second, .val (.int ((p3 &&& (2147483647 : Int32)) % (100 : Int32))), .val (.long (((q2 >>> ((8 : Int32) &&& 0x3f).toInt64) * (100 : Int64)) + (((p3 &&& (2147483647 : Int32)) % (100 : Int32)).toInt64))), .second, .val (.ref b4), .unset, .unset] [(.int (0 : Int32))]))
      refine OwnG.go (fun _ kz => XS.istore X5.here hx rfl (hb hby at_110) rfl (l' := #[.val (.long q1), .second, .val (.long q2), .second, .val (.int p3), .val (.ref b1), .val (.int b), .val (.int (1 : Int32)), .val (.long (q2 >>> ((8 : Int32) &&& 0x3f).toInt64)), .second, .val (.int ((p3 &&& (2147483647 : Int32)) % (100 : Int32))), .val (.long (((q2 >>> ((8 : Int32) &&& 0x3f).toInt64) * (100 : Int64)) + (((p3 &&& (2147483647 : Int32)) % (100 : Int32)).toInt64))), .second, .val (.ref b4), .val (.int (0 : Int32)), .unset]) rfl kz) ?_
      show OwnG _ _ _ _ _ _ (T5.setTop (mkF m 112 #[.val (.long q1), .second, .val (.long q2), .second, .val (.int p3), .val (.ref b1), .val (.int b), .val (.int (1 : Int32)), .val (.long (q2 >>> ((8 : Int32) &&& 0x3f).toInt64)), .second, .val (.int ((p3 &&& (2147483647 : Int32)) % (100 : Int32))), .val (.long (((q2 >>> ((8 : Int32) &&& 0x3f).toInt64) * (100 : Int64)) + (((p3 &&& (2147483647 : Int32)) % (100 : Int32)).toInt64))), .second, .val (.ref b4), .val (.int (0 : Int32)), .unset] []))
      exact B112 _ (own_built_f q2 p3 c3).symm
  by_cases c1 : (0 : Int32) < (lcmpW q1 (0 : Int64))
  · have _u := ()
    refine OwnG.go (fun _ kz => XS.ifNo X2.here hx rfl (hb hby at_13) rfl ((if0 _ _).trans (tlt c1).2.2.2) kz) ?_
    show OwnG _ _ _ _ _ _ (T2.setTop (mkF m 16 #[.val (.long q1), .second, .val (.long q2), .second, .val (.int p3), .val (.ref b1), .unset, .unset, .unset, .unset, .unset, .unset, .unset, .unset, .unset, .unset] []))
    refine OwnG.go (fun _ kz => XS.lloadN X2.here hx rfl (hb hby at_16) rfl kz) ?_
    show OwnG _ _ _ _ _ _ (T2.setTop (mkF m 17 #[.val (.long q1), .second, .val (.long q2), .second, .val (.int p3), .val (.ref b1), .unset, .unset, .unset, .unset, .unset, .unset, .unset, .unset, .unset, .unset] [(.long q1)]))
    refine OwnG.go (fun _ kz => X2.ldc2Long hx hown (mvT hZ (hw _ (List.mem_of_getElem? (i := 16) rfl))) (g := (mkF m 17 #[.val (.long q1), .second, .val (.long q2), .second, .val (.int p3), .val (.ref b1), .unset, .unset, .unset, .unset, .unset, .unset, .unset, .unset, .unset, .unset] [(.long q1)])) rfl (hb hby at_17) _ kz) ?_
    show OwnG _ _ _ _ _ _ (T2.setTop (mkF m 20 #[.val (.long q1), .second, .val (.long q2), .second, .val (.int p3), .val (.ref b1), .unset, .unset, .unset, .unset, .unset, .unset, .unset, .unset, .unset, .unset] [(.long (100 : Int64)), (.long q1)]))
    refine OwnG.go (fun _ kz => XS.ldiv X2.here hx rfl (hb hby at_20) rfl (by decide) kz) ?_
    show OwnG _ _ _ _ _ _ (T2.setTop (mkF m 21 #[.val (.long q1), .second, .val (.long q2), .second, .val (.int p3), .val (.ref b1), .unset, .unset, .unset, .unset, .unset, .unset, .unset, .unset, .unset, .unset] [(.long (q1 / (100 : Int64)))]))
    refine OwnG.go (fun _ kz => X2.ldc2Long hx hown (mvT hZ (hw _ (List.mem_of_getElem? (i := 16) rfl))) (g := (mkF m 21 #[.val (.long q1), .second, .val (.long q2), .second, .val (.int p3), .val (.ref b1), .unset, .unset, .unset, .unset, .unset, .unset, .unset, .unset, .unset, .unset] [(.long (q1 / (100 : Int64)))])) rfl (hb hby at_21) _ kz) ?_
    show OwnG _ _ _ _ _ _ (T2.setTop (mkF m 24 #[.val (.long q1), .second, .val (.long q2), .second, .val (.int p3), .val (.ref b1), .unset, .unset, .unset, .unset, .unset, .unset, .unset, .unset, .unset, .unset] [(.long (100 : Int64)), (.long (q1 / (100 : Int64)))]))
    refine OwnG.go (fun _ kz => XS.lmul X2.here hx rfl (hb hby at_24) rfl kz) ?_
    show OwnG _ _ _ _ _ _ (T2.setTop (mkF m 25 #[.val (.long q1), .second, .val (.long q2), .second, .val (.int p3), .val (.ref b1), .unset, .unset, .unset, .unset, .unset, .unset, .unset, .unset, .unset, .unset] [(.long ((q1 / (100 : Int64)) * (100 : Int64)))]))
    refine OwnG.go (fun _ kz => XS.lloadN X2.here hx rfl (hb hby at_25) rfl kz) ?_
    show OwnG _ _ _ _ _ _ (T2.setTop (mkF m 26 #[.val (.long q1), .second, .val (.long q2), .second, .val (.int p3), .val (.ref b1), .unset, .unset, .unset, .unset, .unset, .unset, .unset, .unset, .unset, .unset] [(.long q1), (.long ((q1 / (100 : Int64)) * (100 : Int64)))]))
    refine OwnG.go (fun _ kz => XS.lcmp X2.here hx rfl (hb hby at_26) rfl kz) ?_
    show OwnG _ _ _ _ _ _ (T2.setTop (mkF m 27 #[.val (.long q1), .second, .val (.long q2), .second, .val (.int p3), .val (.ref b1), .unset, .unset, .unset, .unset, .unset, .unset, .unset, .unset, .unset, .unset] [(.int (lcmpW ((q1 / (100 : Int64)) * (100 : Int64)) q1))]))
    by_cases c2 : (lcmpW ((q1 / (100 : Int64)) * (100 : Int64)) q1) = (0 : Int32)
    · have _u := ()
      refine OwnG.go (fun _ kz => XS.ifNo X2.here hx rfl (hb hby at_27) rfl ((if0 _ _).trans (teq c2).2) kz) ?_
      show OwnG _ _ _ _ _ _ (T2.setTop (mkF m 30 #[.val (.long q1), .second, .val (.long q2), .second, .val (.int p3), .val (.ref b1), .unset, .unset, .unset, .unset, .unset, .unset, .unset, .unset, .unset, .unset] []))
      refine OwnG.go (fun _ kz => XS.iconst X2.here hx rfl (hb hby at_30) kz) ?_
      show OwnG _ _ _ _ _ _ (T2.setTop (mkF m 31 #[.val (.long q1), .second, .val (.long q2), .second, .val (.int p3), .val (.ref b1), .unset, .unset, .unset, .unset, .unset, .unset, .unset, .unset, .unset, .unset] [(.int (1 : Int32))]))
      refine OwnG.go (fun _ kz => XS.goto X2.here hx rfl (pc0 := 31) (pc' := 35) rfl (hb hby at_31) (by decide) (by decide) kz) ?_
      show OwnG _ _ _ _ _ _ (T2.setTop (mkF m 35 #[.val (.long q1), .second, .val (.long q2), .second, .val (.int p3), .val (.ref b1), .unset, .unset, .unset, .unset, .unset, .unset, .unset, .unset, .unset, .unset] [(.int (1 : Int32))]))
      refine OwnG.go (fun _ kz => XS.istore X2.here hx rfl (hb hby at_35) rfl (l' := #[.val (.long q1), .second, .val (.long q2), .second, .val (.int p3), .val (.ref b1), .val (.int (1 : Int32)), .unset, .unset, .unset, .unset, .unset, .unset, .unset, .unset, .unset]) rfl kz) ?_
      show OwnG _ _ _ _ _ _ (T2.setTop (mkF m 37 #[.val (.long q1), .second, .val (.long q2), .second, .val (.int p3), .val (.ref b1), .val (.int (1 : Int32)), .unset, .unset, .unset, .unset, .unset, .unset, .unset, .unset, .unset] []))
      exact B37 _ (by have a1 := (lw_gt _ _).mp c1; have a2 := (own_whole a1).mp ((lw_eq _ _).mp c2); simp [own_op, a1, a2])
    · have _u := ()
      refine OwnG.go (fun _ kz => XS.ifYes X2.here hx rfl (pc0 := 27) (pc' := 34) rfl (hb hby at_27) rfl ((if0 _ _).trans (feq c2).2) (by decide) (by decide) kz) ?_
      show OwnG _ _ _ _ _ _ (T2.setTop (mkF m 34 #[.val (.long q1), .second, .val (.long q2), .second, .val (.int p3), .val (.ref b1), .unset, .unset, .unset, .unset, .unset, .unset, .unset, .unset, .unset, .unset] []))
      refine OwnG.go (fun _ kz => XS.iconst X2.here hx rfl (hb hby at_34) kz) ?_
      show OwnG _ _ _ _ _ _ (T2.setTop (mkF m 35 #[.val (.long q1), .second, .val (.long q2), .second, .val (.int p3), .val (.ref b1), .unset, .unset, .unset, .unset, .unset, .unset, .unset, .unset, .unset, .unset] [(.int (0 : Int32))]))
      refine OwnG.go (fun _ kz => XS.istore X2.here hx rfl (hb hby at_35) rfl (l' := #[.val (.long q1), .second, .val (.long q2), .second, .val (.int p3), .val (.ref b1), .val (.int (0 : Int32)), .unset, .unset, .unset, .unset, .unset, .unset, .unset, .unset, .unset]) rfl kz) ?_
      show OwnG _ _ _ _ _ _ (T2.setTop (mkF m 37 #[.val (.long q1), .second, .val (.long q2), .second, .val (.int p3), .val (.ref b1), .val (.int (0 : Int32)), .unset, .unset, .unset, .unset, .unset, .unset, .unset, .unset, .unset] []))
      exact B37 _ (by have a1 := (lw_gt _ _).mp c1; have a2 : ¬ q1 % 100 = 0 := fun q => c2 ((lw_eq _ _).mpr ((own_whole a1).mpr q)); simp [own_op, a1, a2])
  · have _u := ()
    refine OwnG.go (fun _ kz => XS.ifYes X2.here hx rfl (pc0 := 13) (pc' := 34) rfl (hb hby at_13) rfl ((if0 _ _).trans (flt c1).2.2.2) (by decide) (by decide) kz) ?_
    show OwnG _ _ _ _ _ _ (T2.setTop (mkF m 34 #[.val (.long q1), .second, .val (.long q2), .second, .val (.int p3), .val (.ref b1), .unset, .unset, .unset, .unset, .unset, .unset, .unset, .unset, .unset, .unset] []))
    refine OwnG.go (fun _ kz => XS.iconst X2.here hx rfl (hb hby at_34) kz) ?_
    show OwnG _ _ _ _ _ _ (T2.setTop (mkF m 35 #[.val (.long q1), .second, .val (.long q2), .second, .val (.int p3), .val (.ref b1), .unset, .unset, .unset, .unset, .unset, .unset, .unset, .unset, .unset, .unset] [(.int (0 : Int32))]))
    refine OwnG.go (fun _ kz => XS.istore X2.here hx rfl (hb hby at_35) rfl (l' := #[.val (.long q1), .second, .val (.long q2), .second, .val (.int p3), .val (.ref b1), .val (.int (0 : Int32)), .unset, .unset, .unset, .unset, .unset, .unset, .unset, .unset, .unset]) rfl kz) ?_
    show OwnG _ _ _ _ _ _ (T2.setTop (mkF m 37 #[.val (.long q1), .second, .val (.long q2), .second, .val (.int p3), .val (.ref b1), .val (.int (0 : Int32)), .unset, .unset, .unset, .unset, .unset, .unset, .unset, .unset, .unset] []))
    exact B37 _ (by have a1 : ¬ 0 < q1 := fun q => c1 ((lw_gt _ _).mpr q); simp [own_op, a1])
set_option maxRecDepth 65536 in
set_option maxHeartbeats 40000000 in
theorem comes_1 {Post : Tables → Env → Array Value → State → Outcome → State → Prop} (hpost : ∀ tb e args s v u, (limb_1_1.after args s (.returned v) u = true ∧ limb_1_2.after args s (.returned v) u = true ∧ True) → FrameEnd s (.returned v) u (Jvm.fieldLocs frame_1_writes args s ++ Jvm.arrayLocs frame_1_arrays args s ++ Jvm.staticLocs frame_1_statics s) 16 128 → Post tb e args s (.returned v) u) :
    ArmFor flags0 classFile x code maxLocals ret World_1 tables_1 room_1 Calls_1 rest_1 Pre_1 Post := by
  intro l hfl _ _ p e ha hc hk s m args below hf hA hF happ hP
  obtain ⟨hcalls, hrest, hpre⟩ := hP
  obtain ⟨-, -, -, hnamed, -, -, -, hat⟩ := (Spec.applies_iff hf).mp happ
  obtain ⟨hg, hn⟩ := and_e (Cond.before_iff.mp (show (Jvm.Cond.and given_1 narrow_1).before args s = true from hpre))
  obtain ⟨g0, gr0⟩ := and_e hg
  obtain ⟨ga0, gr1⟩ := and_e gr0
  obtain ⟨ga1, gr2⟩ := and_e gr1
  obtain ⟨w0, w1, w2, rfl⟩ : ∃ w0 w1 w2 : Value, args = #[w0, w1, w2] := by
    have hs : args.size = 3 := by simpa [Cond.value, given_1] using g0
    obtain ⟨L⟩ := args
    match L, hs with
    | [w0, w1, w2], _ => exact ⟨w0, w1, w2, rfl⟩
  have hw := fun d (hd : d ∈ tables_1) => atoms_spec (ws := Jvm.Cond.code x code maxLocals ret :: tables_1) hat d (List.mem_cons_of_mem _ hd)
  obtain ⟨i0, ei0⟩ := isL_v ga0
  obtain rfl : w0 = (.long i0) := Option.some.inj ei0
  obtain ⟨i1, ei1⟩ := isL_v ga1
  obtain rfl : w1 = (.long i1) := Option.some.inj ei1
  obtain ⟨i2, ei2⟩ := is_v gr2
  obtain rfl : w2 = (.int i2) := Option.some.inj ei2
  obtain ⟨n, o, h1, h2, h3, _, L, rfl, ⟨rfl, N⟩, hq⟩ := rm0 l s _ hw tables_1 i0 i1 i2 s.heap s.heap.size (Nat.le_refl _) p e ha hc hk s m _ below hf ((Spec.applies_iff_loose hf).mp happ).1 ⟨rfl, State.Warmed39.refl s, rfl⟩ trivial
  refine ⟨n, _, h1, h2, h3, hpost _ _ _ _ _ _ ⟨Cond.after_iff.mpr rfl, Cond.after_iff.mpr (eq_i res_at (Term.int_eval (1)) rfl), trivial⟩ ⟨hq.1, hq.2.1, (hq.2.2.sift fun y hy => Or.inr (N y hy)).mono (by decide) (by decide)⟩⟩
theorem main_1_1 : Claimed_1_1 := comes_1 fun _ _ _ _ _ _ h hF => ⟨h.1, hF⟩
theorem main_1_2 : Claimed_1_2 := comes_1 fun _ _ _ _ _ _ h hF => ⟨h.2.1, hF⟩
end Jvm.Pilot.@@N@@
namespace Jvm.Pilot.@@N@@
open Jvm Jvm.ClassFile Sem Op Lib Jvm.Free Jvm.Stand Jvm.Pilot.@@N@@.Jvm.D
/-! MADE BY PROGRAM (witnessworld.py) out of the Statement's table words and the real class files: 11 classes; the members and pool entries that the words name. The judged class is class 1, her method 1. -/
namespace start1
open Jvm.ClassFile
def u (s : String) : CpInfo := .utf8 (stringToUtf16 s)
/-- a pool by its gaps: so many unusable entries, then the entry; so many at the end -/
def gap : Nat → List CpInfo → List CpInfo
  | 0, r => r
  | n + 1, r => .unusable :: gap n r
def poolList (es : List (Nat × CpInfo)) (last : Nat) : List CpInfo := es.foldr (fun e r => gap e.1 (e.2 :: r)) (gap last [])
def pool (es : List (Nat × CpInfo)) (last : Nat) : Array CpInfo := ⟨poolList es last⟩
def fileOf (pool : Array CpInfo) (this : Nat) (attrs : Array Attribute := #[]) (ms : Array MethodInfo := #[]) (fl : Nat := 33) (sup : Nat := 0) (ifs : Array Nat := #[]) (fds : Array FieldInfo := #[]) : ClassFile where
  minorVersion := 0
  majorVersion := 65
  constantPool := pool
  accessFlags := fl
  thisClass := this
  superClass := sup
  interfaces := ifs
  fields := fds
  methods := ms
  attributes := attrs
def plain (name : String) (sup : Option ClassId) : Class where
  name := name
  kind := .ordinary
  loader := none
  accessFlags := 33
  super := sup
  interfaces := #[]
  cf := none
  fields := #[]
  methods := #[]
  instanceTypes := #[]
  staticTypes := #[]
  resolved := #[]
  callSites := []
  init := .initialized
  statics := none
  mirror := none

def pool0 : Array CpInfo := pool [(5, u "<init>"), (0, u "()V"), (1, .class_ 10), (1, u "java/lang/Object")] 113

def k0c0 : Code := { maxStack := 0, maxLocals := 1, code := object_method_1_code, exceptionTable := #[], attributes := #[] }
def k0m0 : Method := { name := "<init>", desc := "()V", sig := { parameters := [], returnType := none }, accessFlags := 1, code := some k0c0 }
/-- java/lang/Object -/
def k0 : Class := { plain "java/lang/Object" none with
  accessFlags := 33
  interfaces := #[]
  cf := some (fileOf pool0 8 #[] #[{ accessFlags := 1, nameIndex := 5, descriptorIndex := 6, attributes := #[] }] 33 0 #[] #[])
  fields := #[]
  methods := #[k0m0]
  instanceTypes := #[]
  staticTypes := #[]
  resolved := Array.replicate 124 none
  statics := none }

def pool1 : Array CpInfo := pool [(2, .class_ 4), (1, u "java/lang/Object"), (0, u "<init>"), (0, u "()V"), (0, .class_ 8), (0, u "com/example/restbook/restbook/model/Price"), (0, .methodref 7 10), (0, .nameAndType 5 11), (0, u "(J)V"), (0, .long 100), (1, .methodref 7 15), (0, .nameAndType 16 17), (0, u "isOrderPrice"), (0, u "()Z"), (0, .integer 2147483647), (0, .class_ 20), (0, u "com/example/restbook/restbook/model/PriceIsOrderPricePinLaw"), (2, u "law"), (0, u "(JJI)Z")] 3

def k1m0 : Method := { name := "<init>", desc := "()V", sig := { parameters := [], returnType := none }, accessFlags := 2, code := none }
def k1c1 : Code := { maxStack := 4, maxLocals := 16, code := code, exceptionTable := #[], attributes := #[] }
def k1m1 : Method := { name := "law", desc := "(JJI)Z", sig := { parameters := [.long, .long, .int], returnType := some .boolean }, accessFlags := 9, code := some k1c1 }
/-- com/example/restbook/restbook/model/PriceIsOrderPricePinLaw -/
def k1 : Class := { plain "com/example/restbook/restbook/model/PriceIsOrderPricePinLaw" (some 0) with
  accessFlags := 49
  interfaces := #[]
  cf := some (fileOf pool1 19 #[] #[{ accessFlags := 2, nameIndex := 5, descriptorIndex := 6, attributes := #[] }, { accessFlags := 9, nameIndex := 23, descriptorIndex := 24, attributes := #[] }] 49 2 #[] #[])
  fields := #[]
  methods := #[k1m0, k1m1]
  instanceTypes := #[]
  staticTypes := #[]
  resolved := Array.replicate 28 none
  statics := none }

def pool2 : Array CpInfo := pool [(1, .methodref 2 3), (0, .class_ 4), (0, .nameAndType 5 6), (0, u "java/lang/Object"), (0, u "<init>"), (0, u "()V"), (0, .class_ 8), (0, u "java/lang/Record")] 13

def k2c0 : Code := { maxStack := 1, maxLocals := 1, code := jdk_30_method_1_code, exceptionTable := #[], attributes := #[] }
def k2m0 : Method := { name := "<init>", desc := "()V", sig := { parameters := [], returnType := none }, accessFlags := 4, code := some k2c0 }
/-- java/lang/Record -/
def k2 : Class := { plain "java/lang/Record" (some 0) with
  accessFlags := 1057
  interfaces := #[]
  cf := some (fileOf pool2 7 #[] #[{ accessFlags := 4, nameIndex := 5, descriptorIndex := 6, attributes := #[] }] 1057 2 #[] #[])
  fields := #[]
  methods := #[k2m0]
  instanceTypes := #[]
  staticTypes := #[]
  resolved := Array.replicate 22 none
  statics := none }

def pool3 : Array CpInfo := pool [(1, .class_ 2), (0, u "java/lang/Comparable"), (0, .class_ 4), (0, u "java/lang/Object")] 7

/-- java/lang/Comparable -/
def k3 : Class := { plain "java/lang/Comparable" (some 0) with
  accessFlags := 1537
  interfaces := #[]
  cf := some (fileOf pool3 1 #[] #[] 1537 3 #[] #[])
  fields := #[]
  methods := #[]
  instanceTypes := #[]
  staticTypes := #[]
  resolved := Array.replicate 12 none
  statics := none }

def pool4 : Array CpInfo := pool [(1, .methodref 2 3), (0, .class_ 4), (0, .nameAndType 5 6), (0, u "java/lang/Record"), (0, u "<init>"), (0, u "()V"), (0, .fieldref 8 9), (0, .class_ 10), (0, .nameAndType 11 12), (0, u "com/example/restbook/restbook/model/Price"), (0, u "units"), (0, u "J"), (8, u "(J)V"), (0, .long 100), (53, .class_ 77), (0, u "java/lang/Comparable"), (0, u "CENT"), (1, u "SCALE"), (0, u "I"), (1, u "CENTS"), (5, u "isOrderPrice"), (0, u "()Z")] 26

def k4c0 : Code := { maxStack := 3, maxLocals := 3, code := prog_32_method_1_code, exceptionTable := #[], attributes := #[] }
def k4m0 : Method := { name := "<init>", desc := "(J)V", sig := { parameters := [.long], returnType := none }, accessFlags := 1, code := some k4c0 }
def k4c1 : Code := { maxStack := 4, maxLocals := 1, code := prog_32_method_3_code, exceptionTable := #[], attributes := #[] }
def k4m1 : Method := { name := "isOrderPrice", desc := "()Z", sig := { parameters := [], returnType := some .boolean }, accessFlags := 1, code := some k4c1 }
/-- com/example/restbook/restbook/model/Price -/
def k4 : Class := { plain "com/example/restbook/restbook/model/Price" (some 2) with
  accessFlags := 49
  interfaces := #[3]
  cf := some (fileOf pool4 8 #[] #[{ accessFlags := 1, nameIndex := 5, descriptorIndex := 21, attributes := #[] }, { accessFlags := 1, nameIndex := 89, descriptorIndex := 90, attributes := #[] }] 49 2 #[76] #[{ accessFlags := 18, nameIndex := 11, descriptorIndex := 12, attributes := #[] }, { accessFlags := 25, nameIndex := 78, descriptorIndex := 12, attributes := #[] }, { accessFlags := 25, nameIndex := 80, descriptorIndex := 81, attributes := #[] }, { accessFlags := 26, nameIndex := 83, descriptorIndex := 81, attributes := #[] }])
  fields := #[{ name := "units", type := .long, accessFlags := 18, slot := 0, constantValue := 0 }, { name := "CENT", type := .long, accessFlags := 25, slot := 0, constantValue := 0 }, { name := "SCALE", type := .int, accessFlags := 25, slot := 1, constantValue := 0 }, { name := "CENTS", type := .int, accessFlags := 26, slot := 2, constantValue := 0 }]
  methods := #[k4m0, k4m1]
  instanceTypes := #[.long]
  staticTypes := #[.long, .int, .int]
  resolved := Array.replicate 117 none
  statics := none }

def pool5 : Array CpInfo := pool [(1, u "java/lang/Cloneable"), (0, .class_ 1), (0, u "java/lang/Object"), (0, .class_ 3)] 3

/-- java/lang/Cloneable -/
def k5 : Class := { plain "java/lang/Cloneable" (some 0) with
  accessFlags := 1537
  interfaces := #[]
  cf := some (fileOf pool5 2 #[] #[] 1537 4 #[] #[])
  fields := #[]
  methods := #[]
  instanceTypes := #[]
  staticTypes := #[]
  resolved := Array.replicate 8 none
  statics := none }

def pool6 : Array CpInfo := pool [(1, u "java/io/Serializable"), (0, .class_ 1), (0, u "java/lang/Object"), (0, .class_ 3)] 3

/-- java/io/Serializable -/
def k6 : Class := { plain "java/io/Serializable" (some 0) with
  accessFlags := 1537
  interfaces := #[]
  cf := some (fileOf pool6 2 #[] #[] 1537 4 #[] #[])
  fields := #[]
  methods := #[]
  instanceTypes := #[]
  staticTypes := #[]
  resolved := Array.replicate 8 none
  statics := none }

/-- the primitive byte -/
def k7 : Class := { plain "byte" none with kind := .primitive 'B', accessFlags := 0x411 }
/-- [B -/
def k8 : Class := { plain "[B" (some 0) with kind := .array 7 .byte, interfaces := #[5, 6], accessFlags := 1041 }

/-- the primitive int -/
def k9 : Class := { plain "int" none with kind := .primitive 'I', accessFlags := 0x411 }
/-- [I -/
def k10 : Class := { plain "[I" (some 0) with kind := .array 9 .int, interfaces := #[5, 6], accessFlags := 1041 }

def heap : Heap := #[]
def classes : Array Class := #[k0, k1, k2, k3, k4, k5, k6, k7, k8, k9, k10]
def interned : List (Array UInt16 × Addr) := []
def slotsUsed : Nat := 0
def theMethod : MethodId := ⟨1, 1⟩
def args0 : Array Value := #[.long 500, .long 300, .int 7]
def aboutOver (below : List Frame) : State where
  vm := { classes := classes, interned := interned.toArray }
  heap := heap
  slotsUsed := slotsUsed
  threads := #[{ frames := .invoking theMethod args0 :: below }]
def below0 : List Frame := [.native { method := ⟨0, 0⟩, args := #[] }]
def about1 : State := aboutOver below0
def p0 : Program := .bare "" "" ""
def e0 : Env := launch0.env 0 0 0
theorem w_frames : about1.frames = Frame.invoking theMethod args0 :: below0 := rfl
set_option maxRecDepth 65536 in
theorem w_args : argsFit about1.vm theMethod args0 = true := by decide +kernel
set_option maxRecDepth 65536 in
theorem w_heap : heapFits about1 = true := by decide +kernel
set_option maxRecDepth 65536 in
theorem w_runnable : about1.curStatus? = some .runnable := by decide +kernel
set_option maxRecDepth 65536 in
theorem w_alone : about1.alone = true := by decide +kernel
set_option maxRecDepth 65536 in
theorem w_named : about1.methodNamed? x = some theMethod := by decide +kernel
set_option maxRecDepth 65536 in
theorem w_hears : about1.hears theMethod below0 = true := by decide +kernel
set_option maxRecDepth 65536 in
theorem w_ripe : about1.ripe theMethod args0 below0 = true := by decide +kernel
theorem w_running : about1.status = .running := rfl
set_option maxRecDepth 65536 in
theorem w_room : about1.hasRoom e0.platform room_1 = true :=
  launch0.hasRoom_least _ room_1 (by decide +kernel) (by decide +kernel) (by decide +kernel) (by decide +kernel) (by decide +kernel) (by decide +kernel)
theorem allAtoms_all (ts : List Jvm.Cond) (a : Array Jvm.Value) (st : Jvm.State) : (allAtoms ts).before a st = ts.all (fun c => c.before a st) := by
  induction ts with
  | nil => rfl
  | cons c t ih =>
    show (Jvm.Cond.and c (allAtoms t)).before a st = _
    rw [Jvm.Cond.before_and, ih, List.all_cons]
def words1 : List Jvm.Cond := Jvm.Cond.code x code maxLocals ret :: tables_1
/-- a 'code' word, met by the world's own term for the bytes: nothing is compared byte by byte -/
theorem code_word {y : MethodName} {bytes : ByteArray} {mx : Nat} {rt : Option FieldType} {a : Array Value} {s : State} {m : MethodId} {meth : Method} {c : Code} (h1 : s.methodNamed? y = some m) (h2 : s.vm.method? m = some meth) (h3 : meth.code = some c) (h4 : c.code = bytes)
    (h5 : (c.maxLocals == mx && c.exceptionTable.isEmpty && decide (c.maxStack ≤ mostOperands) && decide (meth.sig.returnType = rt) && !meth.locks && decide (parseMethodDescriptor y.desc = some meth.sig)) = true) : (Jvm.Cond.code y bytes mx rt).before a s = true := by
  simp only [Bool.and_eq_true, beq_iff_eq, Bool.not_eq_true', decide_eq_true_eq] at h5
  obtain ⟨⟨⟨⟨⟨g1, g2⟩, g3⟩, g4⟩, g5⟩, g6⟩ := h5
  simp [Cond.before, Cond.holds, Cond.value, h1, h2, h3, h4, g1, g2, g3, g4, g5, g6]
def isCode : Jvm.Cond → Bool
  | .code _ _ _ _ => true
  | _ => false
theorem all_split {L : List Jvm.Cond} {P : Jvm.Cond → Bool} (h1 : L.all (fun c => isCode c || P c) = true) (h2 : ∀ c ∈ L.filter isCode, P c = true) : L.all P = true := by
  refine List.all_eq_true.mpr fun c hc => ?_
  have h := List.all_eq_true.mp h1 c hc
  rcases Bool.eq_false_or_eq_true (isCode c) with hi | hi
  · exact h2 c (List.mem_filter.mpr ⟨hc, hi⟩)
  · simpa [hi] using h
set_option maxRecDepth 65536 in
theorem w_c0 : (Jvm.Cond.code x code maxLocals ret).before args0 about1 = true := code_word (m := ⟨1, 1⟩) (meth := k1m1) (c := k1c1) (by decide +kernel) rfl rfl rfl (by decide +kernel)
set_option maxRecDepth 65536 in
theorem w_c1 : (Jvm.Cond.code ({ cls := "com/example/restbook/restbook/model/Price", name := "<init>", desc := "(J)V" } : Jvm.MethodName) prog_32_method_1_code (3 : Nat) (Option.none : Option Jvm.ClassFile.FieldType)).before args0 about1 = true := code_word (m := ⟨4, 0⟩) (meth := k4m0) (c := k4c0) (by decide +kernel) rfl rfl rfl (by decide +kernel)
set_option maxRecDepth 65536 in
theorem w_c2 : (Jvm.Cond.code ({ cls := "java/lang/Record", name := "<init>", desc := "()V" } : Jvm.MethodName) jdk_30_method_1_code (1 : Nat) (Option.none : Option Jvm.ClassFile.FieldType)).before args0 about1 = true := code_word (m := ⟨2, 0⟩) (meth := k2m0) (c := k2c0) (by decide +kernel) rfl rfl rfl (by decide +kernel)
set_option maxRecDepth 65536 in
theorem w_c3 : (Jvm.Cond.code ({ cls := "java/lang/Object", name := "<init>", desc := "()V" } : Jvm.MethodName) object_method_1_code (1 : Nat) (Option.none : Option Jvm.ClassFile.FieldType)).before args0 about1 = true := code_word (m := ⟨0, 0⟩) (meth := k0m0) (c := k0c0) (by decide +kernel) rfl rfl rfl (by decide +kernel)
set_option maxRecDepth 65536 in
theorem w_c4 : (Jvm.Cond.code ({ cls := "com/example/restbook/restbook/model/Price", name := "isOrderPrice", desc := "()Z" } : Jvm.MethodName) prog_32_method_3_code (1 : Nat) (Option.some Jvm.ClassFile.FieldType.boolean)).before args0 about1 = true := code_word (m := ⟨4, 1⟩) (meth := k4m1) (c := k4c1) (by decide +kernel) rfl rfl rfl (by decide +kernel)
def codes1 : List Jvm.Cond := [Jvm.Cond.code x code maxLocals ret, Jvm.Cond.code ({ cls := "com/example/restbook/restbook/model/Price", name := "<init>", desc := "(J)V" } : Jvm.MethodName) prog_32_method_1_code (3 : Nat) (Option.none : Option Jvm.ClassFile.FieldType), Jvm.Cond.code ({ cls := "java/lang/Record", name := "<init>", desc := "()V" } : Jvm.MethodName) jdk_30_method_1_code (1 : Nat) (Option.none : Option Jvm.ClassFile.FieldType), Jvm.Cond.code ({ cls := "java/lang/Object", name := "<init>", desc := "()V" } : Jvm.MethodName) object_method_1_code (1 : Nat) (Option.none : Option Jvm.ClassFile.FieldType), Jvm.Cond.code ({ cls := "com/example/restbook/restbook/model/Price", name := "isOrderPrice", desc := "()Z" } : Jvm.MethodName) prog_32_method_3_code (1 : Nat) (Option.some Jvm.ClassFile.FieldType.boolean)]
set_option maxRecDepth 65536 in
theorem codes_eq : words1.filter isCode = codes1 := rfl
theorem w_codes : ∀ c ∈ words1.filter isCode, c.before args0 about1 = true := by
  rw [codes_eq]
  intro c hc
  simp only [codes1, List.mem_cons, List.not_mem_nil, or_false] at hc
  rcases hc with rfl | rfl | rfl | rfl | rfl
  · exact w_c0
  · exact w_c1
  · exact w_c2
  · exact w_c3
  · exact w_c4
set_option maxRecDepth 65536 in
theorem w_t1 : (words1.take 24).all (fun c => isCode c || c.before args0 about1) = true := by decide +kernel
set_option maxRecDepth 65536 in
theorem w_t2 : (words1.drop 24).all (fun c => isCode c || c.before args0 about1) = true := by decide +kernel
theorem w_tables : (allAtoms (Jvm.Cond.code x code maxLocals ret :: tables_1)).before args0 about1 = true := by
  rw [allAtoms_all]
  show words1.all (fun c => c.before args0 about1) = true
  refine all_split ?_ w_codes
  rw [← List.take_append_drop 24 words1, List.all_append, w_t1, w_t2]
  rfl
set_option maxRecDepth 65536 in
theorem w_case : (Jvm.Cond.and given_1 narrow_1).before args0 about1 = true := by decide +kernel
theorem w_applies : (headSpec (Jvm.Cond.code x code maxLocals ret :: tables_1) room_1).applies x e0.platform about1 = true :=
  (Spec.applies_iff w_frames).mpr ⟨w_running, w_runnable, w_alone, w_named, w_hears, w_ripe, w_room, w_tables⟩
theorem atStart : AtStart classFile x code maxLocals ret World_1 tables_1 room_1 Calls_1 rest_1 Pre_1 launch0 p0 e0 about1 theMethod args0 below0 :=
  ⟨lists_1, trivial, launch0.admits_env _ _ _, launch0.least_env, fairChoices_fair.cas, fairChoices_fair.clock, w_frames, w_args, w_heap, w_applies, trivial, trivial, w_case⟩
end start1
theorem witness_1 : WitnessClaimed_1 := ⟨start1.p0, start1.e0, start1.about1, start1.theMethod, start1.args0, start1.below0, start1.atStart⟩
end Jvm.Pilot.@@N@@
