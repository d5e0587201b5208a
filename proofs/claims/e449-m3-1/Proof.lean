import JvmDerived
import JvmDerived.Pilot.@@N@@Statement
import JvmDerived.Pilot.@@N@@Code
set_option linter.unusedVariables false
set_option linter.unusedSimpArgs false
namespace Jvm.RoadKit
open Sem ClassFile Op Lib Jvm.Stand Jvm.Free Jvm.LawKit
section New
variable {p : Program} {l : Launch} {e : Env} {R : Room} {s : State} {m : MethodId} {args : Array Value} {below : List Frame} {meth : Method} {c : Code} {T : State} {locs : List Loc} {cells slots : Nat}
theorem retI (X : Stand p l e R s m args below meth c T locs cells slots) (hx : p.tables.exec = Jvm.exec) {pc : Nat} {Ls : Array Slot} {z : Int32} {rest : List Value} (hret : meth.sig.returnType = some .int) (hd : decode c.code pc = .ok (.ireturn, 1)) {fs : List Frame}
    (hl : ∀ (f : JFrame) (acts : List Action), f.method = m → f.locked = none → f.entered = [] → (doReturn e (T.setTop f) acts (some (.int z))).1 = T.setFrames fs) : Steps p.tables e below (T.setTop (mkF m pc Ls (.int z :: rest))) (T.setFrames fs) := by
  have hm' : T.vm.method? m = some meth := X.method'
  have hn : narrow .int (.int z) = .int z := rfl
  show Steps p.tables e below (T.setTop { method := m, pc := pc, locals := Ls, stack := _ :: rest, locked := none }) _
  jvm_step X.here [X.here.top, hx, hd, hm', hret, hn]
  first | (intro acts; rw [hl _ acts rfl rfl rfl]) | rw [hl _ _ rfl rfl rfl]
  exact Steps.refl _
end New
end Jvm.RoadKit
namespace Jvm.Pilot.@@N@@
open Jvm Jvm.ClassFile Sem Op Lib Jvm.Free Jvm.Stand Jvm.LawKit Jvm.RoadKit Bundle Jvm.Pilot.@@N@@.Jvm.D
/-! ## the plain law: doubles that are whole numbers -/
theorem own_neg1 : FP.Core.DInt (-1) 13830554455654793216 := by
  show FP.Core.Whole (-1) (FP.Core.val64 13830554455654793216)
  rw [show FP.Core.val64 13830554455654793216 = .fin true (2 ^ 52) (-52) by decide +kernel]
  show FP.Core.signed true (2 ^ 52 * 2 ^ (-52 : Int).toNat) = (-1) * ((2 ^ (-(-52 : Int)).toNat : Nat) : Int)
  decide +kernel
theorem own_qfin : Fl.Fin64 13830554455654793216 := by unfold Fl.Fin64; decide
theorem own_nn (a : Int32) : Fl.NoNaN64 (FP.dmul (FP.i2d a) (13830554455654793216 : UInt64)) := Fl.dmul_out (Fl.i2d_fin a) own_qfin
/-- the law's double and its long are one whole number -/
theorem own_x (a na : Int32) : FP.Core.DInt (if na = 0 then a.toInt64 else -a.toInt64).toInt (if na = 0 then FP.i2d a else FP.dmul (FP.i2d a) (13830554455654793216 : UInt64)) := by
  have h1 := a.toInt_lt
  have h2 := a.le_toInt
  have h3 : a.toInt64.toInt = a.toInt := Int32.toInt_toInt64 a
  by_cases h : na = 0
  · rw [if_pos h, if_pos h, h3]; exact FP.Core.i2d_int a
  · rw [if_neg h, if_neg h, FP.Core.int64_neg (by rw [h3]; omega), h3]
    have q := FP.Core.dmul_int (FP.Core.i2d_int a) own_neg1 (by omega)
    rw [show a.toInt * -1 = -a.toInt by omega] at q
    exact q
/-- what a comparison of two whole doubles pushes -/
theorem own_cmp {i j : Int} {x y : UInt64} (hx : FP.Core.DInt i x) (hy : FP.Core.DInt j y) (o : CmpOp) : cmpValue (FP.dcmp x y) o = if i < j then -1 else if j < i then 1 else 0 := by
  have h : FP.dcmp x y = some (compare i j) := FP.Core.dcmp_int hx hy
  rw [h, FP.Core.compare_ite]
  by_cases h1 : i < j
  · rw [if_pos h1, if_pos h1]; rfl
  · rw [if_neg h1, if_neg h1]
    by_cases h2 : i = j
    · rw [if_pos h2, if_neg (by omega)]; rfl
    · rw [if_neg h2, if_pos (by omega)]; rfl
theorem own_three (x y : Int64) : ((if x < y then -1 else if y < x then 1 else 0 : Int32) = -1) ∨ ((if x < y then -1 else if y < x then 1 else 0 : Int32) = 0) ∨ ((if x < y then -1 else if y < x then 1 else 0 : Int32) = 1) := by
  split
  · exact Or.inl rfl
  · split
    · exact Or.inr (Or.inr rfl)
    · exact Or.inr (Or.inl rfl)
theorem own_lc_eq (x y : Int64) : XT.cmpL x y = if y < x then 1 else if x = y then 0 else -1 := rfl
theorem own_lt {x y : Int64} (h : x < y) : XT.cmpL x y < 0 := by
  have h' := Int64.lt_iff_toInt_lt.mp h
  rw [own_lc_eq, if_neg (fun q => by have := Int64.lt_iff_toInt_lt.mp q; omega), if_neg (fun q => by rw [q] at h'; omega)]; decide
theorem own_nlt {x y : Int64} (h : ¬ x < y) : ¬ XT.cmpL x y < 0 := by
  have h' : ¬ x.toInt < y.toInt := fun q => h (Int64.lt_iff_toInt_lt.mpr q)
  rw [own_lc_eq]
  by_cases h1 : y < x
  · rw [if_pos h1]; decide
  · have h2 : ¬ y.toInt < x.toInt := fun q => h1 (Int64.lt_iff_toInt_lt.mpr q)
    rw [if_neg h1, if_pos (Int64.toInt_inj.mp (by omega))]; decide
theorem own_gt {x y : Int64} (h : y < x) : 0 < XT.cmpL x y := by rw [own_lc_eq, if_pos h]; decide
theorem own_ngt {x y : Int64} (h : ¬ y < x) : ¬ 0 < XT.cmpL x y := by
  rw [own_lc_eq, if_neg h]
  split <;> decide
/-! ## Float.order -/
theorem d1_0 : decode prog_10_method_9_code 0 = .ok (.dload_n 0, 1) := by decide +kernel
theorem d1_1 : decode prog_10_method_9_code 1 = .ok (.dload_n 2, 1) := by decide +kernel
theorem d1_2 : decode prog_10_method_9_code 2 = .ok (.dcmp .g, 1) := by decide +kernel
theorem d1_3 : decode prog_10_method_9_code 3 = .ok (.ifCond .ge 9, 3) := by decide +kernel
theorem d1_6 : decode prog_10_method_9_code 6 = .ok (.iconst (-1), 1) := by decide +kernel
theorem d1_7 : decode prog_10_method_9_code 7 = .ok (.istore 4, 2) := by decide +kernel
theorem d1_9 : decode prog_10_method_9_code 9 = .ok (.goto 18, 3) := by decide +kernel
theorem d1_12 : decode prog_10_method_9_code 12 = .ok (.dload_n 0, 1) := by decide +kernel
theorem d1_13 : decode prog_10_method_9_code 13 = .ok (.dload_n 2, 1) := by decide +kernel
theorem d1_14 : decode prog_10_method_9_code 14 = .ok (.dcmp .l, 1) := by decide +kernel
theorem d1_15 : decode prog_10_method_9_code 15 = .ok (.ifCond .le 9, 3) := by decide +kernel
theorem d1_18 : decode prog_10_method_9_code 18 = .ok (.iconst 1, 1) := by decide +kernel
theorem d1_19 : decode prog_10_method_9_code 19 = .ok (.istore 4, 2) := by decide +kernel
theorem d1_21 : decode prog_10_method_9_code 21 = .ok (.goto 6, 3) := by decide +kernel
theorem d1_24 : decode prog_10_method_9_code 24 = .ok (.iconst 0, 1) := by decide +kernel
theorem d1_25 : decode prog_10_method_9_code 25 = .ok (.istore 4, 2) := by decide +kernel
theorem d1_27 : decode prog_10_method_9_code 27 = .ok (.iload 4, 2) := by decide +kernel
theorem d1_29 : decode prog_10_method_9_code 29 = .ok (.ireturn, 1) := by decide +kernel
theorem pn1 : plainName "ceylon/language/Float" = true := by first | (simp [plainName, overriddenIn]; done) | decide +kernel
theorem pd1 : parseMethodDescriptor "(DD)I" = some ⟨[.double, .double], (some .int)⟩ := by decide +kernel
theorem ef1 (m : MethodId) (x : UInt64) (y : UInt64) : entryFrame m #[(.double x), (.double y)] 5 = mkF m 0 #[.val (.double x), .second, .val (.double y), .second, .unset] [] := by first | (simp [entryFrame, mkF, argsToLocals, Value.category]; done) | rfl
def Q1 (Z : State) (x y : UInt64) (r : Int32) (h0 : Heap) (n0 : Nat) (v : Option Value) (h : Heap) (L : List Loc) : Prop := v = some (.int r) ∧ Fr n0 L ∧ h = h0
set_option maxRecDepth 65536 in
set_option maxHeartbeats 40000000 in
theorem rm1 (l : Launch) (Z : State) (a0 : Array Value) (hw : ∀ d ∈ tables_1, d.before a0 Z = true) (ws : List Jvm.Cond) (x y : UInt64) (r : Int32) (h0 : Heap) (n0 : Nat) (Z0 : n0 ≤ h0.size) (hg : cmpValue (FP.dcmp x y) .g = r) (hl : cmpValue (FP.dcmp x y) .l = r) (h3 : r = -1 ∨ r = 0 ∨ r = 1) :
    MetFree l (⟨"ceylon/language/Float", "order", "(DD)I"⟩ : MethodName) (head1 (Jvm.Cond.code (⟨"ceylon/language/Float", "order", "(DD)I"⟩ : MethodName) prog_10_method_9_code 5 (some .int) :: ws) ({ frames := 0, cells := 0, slots := 0, locals := 0 } : Room)) (fun aa U => aa = #[(.double x), (.double y)] ∧ Z.Warmed39 U.vm ∧ U.heap = h0) (fun _ _ _ _ _ => True) (fun _ U o U' => ∃ v L, o = .returned v ∧ Q1 Z x y r h0 n0 v U'.heap L ∧ FrameEnd U o U' L ({ frames := 0, cells := 0, slots := 0, locals := 0 } : Room).cells ({ frames := 0, cells := 0, slots := 0, locals := 0 } : Room).slots) := by
  refine MetFree.of_bodySF (plainFor_of_name pn1) hisR ?_
  intro p e s m args below meth c s₁ Bd hml0 hP hK
  obtain ⟨rfl, hZ, hh⟩ := hP
  have hx := Bd.exec
  have hby := Bd.bytes
  have hml : c.maxLocals = 5 := hml0
  have hown : s.vm.findClass "ceylon/language/Float" = some m.cls := findClass_of_methodNamed Bd.named
  have hnm := (name_of_methodNamed Bd.named Bd.method).1
  have X0 : Stand p l e ({ frames := 0, cells := 0, slots := 0, locals := 0 } : Room) s m #[(.double x), (.double y)] below meth c s₁ [] 0 0 := Stand.of_body Bd
  have e0 : s₁.heap = h0 := by rw [← hh, Bd.state]; rfl
  have N0 := Fr.nil n0
  have pre0 : ∀ t, Steps p.tables e below (s₁.setTop (mkF m 0 #[.val (.double x), .second, .val (.double y), .second, .unset] [])) t → Steps p.tables e below (s₁.setTop (entryFrame m #[(.double x), (.double y)] 5)) t := fun t k => castTop (ef1 m x y) k
  obtain ⟨fs, hr, hrun, hended, hW, hsame⟩ := X0.leave (v := some (.int r)) (fun h => by rw [Bd.returns] at h; cases h)
  refine ⟨_, _, pre0 _ ?_, hrun, hended, _, _, rfl, ?_, ⟨_, rfl⟩, hW, hsame.mono (by decide) (by decide)⟩
  · rcases h3 with rfl | rfl | rfl
    · show Steps p.tables e below (s₁.setTop (mkF m 0 #[.val (.double x), .second, .val (.double y), .second, .unset] [])) _
      refine XS.dloadN X0.here hx rfl (hb hby d1_0) rfl ?_
      show Steps p.tables e below (s₁.setTop (mkF m 1 #[.val (.double x), .second, .val (.double y), .second, .unset] [(.double x)])) _
      refine XS.dloadN X0.here hx rfl (hb hby d1_1) rfl ?_
      show Steps p.tables e below (s₁.setTop (mkF m 2 #[.val (.double x), .second, .val (.double y), .second, .unset] [(.double y), (.double x)])) _
      refine XS.dcmpS X0.here hx rfl (hb hby d1_2) rfl hg ?_
      show Steps p.tables e below (s₁.setTop (mkF m 3 #[.val (.double x), .second, .val (.double y), .second, .unset] [(.int (-1 : Int32))])) _
      refine XS.ifNo X0.here hx rfl (hb hby d1_3) rfl (by decide) ?_
      show Steps p.tables e below (s₁.setTop (mkF m 6 #[.val (.double x), .second, .val (.double y), .second, .unset] [])) _
      refine XS.iconst X0.here hx rfl (hb hby d1_6) ?_
      show Steps p.tables e below (s₁.setTop (mkF m 7 #[.val (.double x), .second, .val (.double y), .second, .unset] [(.int (-1 : Int32))])) _
      refine XS.istore X0.here hx rfl (hb hby d1_7) rfl (l' := #[.val (.double x), .second, .val (.double y), .second, .val (.int (-1 : Int32))]) rfl ?_
      show Steps p.tables e below (s₁.setTop (mkF m 9 #[.val (.double x), .second, .val (.double y), .second, .val (.int (-1 : Int32))] [])) _
      refine XS.goto X0.here hx rfl (pc0 := 9) (pc' := 27) rfl (hb hby d1_9) (by decide) (by decide) ?_
      show Steps p.tables e below (s₁.setTop (mkF m 27 #[.val (.double x), .second, .val (.double y), .second, .val (.int (-1 : Int32))] [])) _
      refine XS.iload X0.here hx rfl (hb hby d1_27) rfl ?_
      show Steps p.tables e below (s₁.setTop (mkF m 29 #[.val (.double x), .second, .val (.double y), .second, .val (.int (-1 : Int32))] [(.int (-1 : Int32))])) _
      exact retI X0 hx Bd.returns (hb hby d1_29) hr
    · show Steps p.tables e below (s₁.setTop (mkF m 0 #[.val (.double x), .second, .val (.double y), .second, .unset] [])) _
      refine XS.dloadN X0.here hx rfl (hb hby d1_0) rfl ?_
      show Steps p.tables e below (s₁.setTop (mkF m 1 #[.val (.double x), .second, .val (.double y), .second, .unset] [(.double x)])) _
      refine XS.dloadN X0.here hx rfl (hb hby d1_1) rfl ?_
      show Steps p.tables e below (s₁.setTop (mkF m 2 #[.val (.double x), .second, .val (.double y), .second, .unset] [(.double y), (.double x)])) _
      refine XS.dcmpS X0.here hx rfl (hb hby d1_2) rfl hg ?_
      show Steps p.tables e below (s₁.setTop (mkF m 3 #[.val (.double x), .second, .val (.double y), .second, .unset] [(.int (0 : Int32))])) _
      refine XS.ifYes X0.here hx rfl (pc0 := 3) (pc' := 12) rfl (hb hby d1_3) rfl (by decide) (by decide) (by decide) ?_
      show Steps p.tables e below (s₁.setTop (mkF m 12 #[.val (.double x), .second, .val (.double y), .second, .unset] [])) _
      refine XS.dloadN X0.here hx rfl (hb hby d1_12) rfl ?_
      show Steps p.tables e below (s₁.setTop (mkF m 13 #[.val (.double x), .second, .val (.double y), .second, .unset] [(.double x)])) _
      refine XS.dloadN X0.here hx rfl (hb hby d1_13) rfl ?_
      show Steps p.tables e below (s₁.setTop (mkF m 14 #[.val (.double x), .second, .val (.double y), .second, .unset] [(.double y), (.double x)])) _
      refine XS.dcmpS X0.here hx rfl (hb hby d1_14) rfl hl ?_
      show Steps p.tables e below (s₁.setTop (mkF m 15 #[.val (.double x), .second, .val (.double y), .second, .unset] [(.int (0 : Int32))])) _
      refine XS.ifYes X0.here hx rfl (pc0 := 15) (pc' := 24) rfl (hb hby d1_15) rfl (by decide) (by decide) (by decide) ?_
      show Steps p.tables e below (s₁.setTop (mkF m 24 #[.val (.double x), .second, .val (.double y), .second, .unset] [])) _
      refine XS.iconst X0.here hx rfl (hb hby d1_24) ?_
      show Steps p.tables e below (s₁.setTop (mkF m 25 #[.val (.double x), .second, .val (.double y), .second, .unset] [(.int (0 : Int32))])) _
      refine XS.istore X0.here hx rfl (hb hby d1_25) rfl (l' := #[.val (.double x), .second, .val (.double y), .second, .val (.int (0 : Int32))]) rfl ?_
      show Steps p.tables e below (s₁.setTop (mkF m 27 #[.val (.double x), .second, .val (.double y), .second, .val (.int (0 : Int32))] [])) _
      refine XS.iload X0.here hx rfl (hb hby d1_27) rfl ?_
      show Steps p.tables e below (s₁.setTop (mkF m 29 #[.val (.double x), .second, .val (.double y), .second, .val (.int (0 : Int32))] [(.int (0 : Int32))])) _
      exact retI X0 hx Bd.returns (hb hby d1_29) hr
    · show Steps p.tables e below (s₁.setTop (mkF m 0 #[.val (.double x), .second, .val (.double y), .second, .unset] [])) _
      refine XS.dloadN X0.here hx rfl (hb hby d1_0) rfl ?_
      show Steps p.tables e below (s₁.setTop (mkF m 1 #[.val (.double x), .second, .val (.double y), .second, .unset] [(.double x)])) _
      refine XS.dloadN X0.here hx rfl (hb hby d1_1) rfl ?_
      show Steps p.tables e below (s₁.setTop (mkF m 2 #[.val (.double x), .second, .val (.double y), .second, .unset] [(.double y), (.double x)])) _
      refine XS.dcmpS X0.here hx rfl (hb hby d1_2) rfl hg ?_
      show Steps p.tables e below (s₁.setTop (mkF m 3 #[.val (.double x), .second, .val (.double y), .second, .unset] [(.int (1 : Int32))])) _
      refine XS.ifYes X0.here hx rfl (pc0 := 3) (pc' := 12) rfl (hb hby d1_3) rfl (by decide) (by decide) (by decide) ?_
      show Steps p.tables e below (s₁.setTop (mkF m 12 #[.val (.double x), .second, .val (.double y), .second, .unset] [])) _
      refine XS.dloadN X0.here hx rfl (hb hby d1_12) rfl ?_
      show Steps p.tables e below (s₁.setTop (mkF m 13 #[.val (.double x), .second, .val (.double y), .second, .unset] [(.double x)])) _
      refine XS.dloadN X0.here hx rfl (hb hby d1_13) rfl ?_
      show Steps p.tables e below (s₁.setTop (mkF m 14 #[.val (.double x), .second, .val (.double y), .second, .unset] [(.double y), (.double x)])) _
      refine XS.dcmpS X0.here hx rfl (hb hby d1_14) rfl hl ?_
      show Steps p.tables e below (s₁.setTop (mkF m 15 #[.val (.double x), .second, .val (.double y), .second, .unset] [(.int (1 : Int32))])) _
      refine XS.ifNo X0.here hx rfl (hb hby d1_15) rfl (by decide) ?_
      show Steps p.tables e below (s₁.setTop (mkF m 18 #[.val (.double x), .second, .val (.double y), .second, .unset] [])) _
      refine XS.iconst X0.here hx rfl (hb hby d1_18) ?_
      show Steps p.tables e below (s₁.setTop (mkF m 19 #[.val (.double x), .second, .val (.double y), .second, .unset] [(.int (1 : Int32))])) _
      refine XS.istore X0.here hx rfl (hb hby d1_19) rfl (l' := #[.val (.double x), .second, .val (.double y), .second, .val (.int (1 : Int32))]) rfl ?_
      show Steps p.tables e below (s₁.setTop (mkF m 21 #[.val (.double x), .second, .val (.double y), .second, .val (.int (1 : Int32))] [])) _
      refine XS.goto X0.here hx rfl (pc0 := 21) (pc' := 27) rfl (hb hby d1_21) (by decide) (by decide) ?_
      show Steps p.tables e below (s₁.setTop (mkF m 27 #[.val (.double x), .second, .val (.double y), .second, .val (.int (1 : Int32))] [])) _
      refine XS.iload X0.here hx rfl (hb hby d1_27) rfl ?_
      show Steps p.tables e below (s₁.setTop (mkF m 29 #[.val (.double x), .second, .val (.double y), .second, .val (.int (1 : Int32))] [(.int (1 : Int32))])) _
      exact retI X0 hx Bd.returns (hb hby d1_29) hr
  · show Q1 Z x y r h0 n0 _ s₁.heap _
    rw [e0]
    exact ⟨rfl, N0, rfl⟩
/-! ## the law -/
theorem pn0 : plainName "ceylon/language/FloatOrderPinLaw" = true := by first | (simp [plainName, overriddenIn]; done) | decide +kernel
theorem ef0 (m : MethodId) (x0 : Int32) (x1 : Int32) (x2 : Int32) : entryFrame m #[(.int x0), (.int x1), (.int x2)] maxLocals = mkF m 0 #[.val (.int x0), .val (.int x1), .val (.int x2), .unset, .unset, .unset, .unset, .unset, .unset, .unset, .unset, .unset, .unset, .unset] [] := by first | (simp [entryFrame, mkF, argsToLocals, Value.category, maxLocals]; done) | rfl
def Q0 (Z : State) (p1 p2 p3 : Int32) (h0 : Heap) (n0 : Nat) (v : Option Value) (h : Heap) (L : List Loc) : Prop := v = some (.int 1) ∧ Fr n0 L
set_option maxRecDepth 65536 in
set_option maxHeartbeats 40000000 in
theorem rm0 (l : Launch) (Z : State) (a0 : Array Value) (hw : ∀ d ∈ tables_1, d.before a0 Z = true) (ws : List Jvm.Cond) (p1 p2 p3 : Int32) (h0 : Heap) (n0 : Nat) (Z0 : n0 ≤ h0.size)  :
    MetFree l x (head1 (Jvm.Cond.code x code maxLocals ret :: ws) room_1) (fun aa U => aa = #[(.int p1), (.int p2), (.int p3)] ∧ Z.Warmed39 U.vm ∧ U.heap = h0) (fun _ _ _ _ _ => True) (fun _ U o U' => ∃ v L, o = .returned v ∧ Q0 Z p1 p2 p3 h0 n0 v U'.heap L ∧ FrameEnd U o U' L room_1.cells room_1.slots) := by
  refine MetFree.of_bodySF (plainFor_of_name pn0) hisR ?_
  intro p e s m args below meth c s₁ Bd hml0 hP hK
  obtain ⟨rfl, hZ, hh⟩ := hP
  have hx := Bd.exec
  have hby := Bd.bytes
  have hml : c.maxLocals = 14 := hml0
  have hown : s.vm.findClass "ceylon/language/FloatOrderPinLaw" = some m.cls := findClass_of_methodNamed Bd.named
  have hnm := (name_of_methodNamed Bd.named Bd.method).1
  have X0 : Stand p l e room_1 s m #[(.int p1), (.int p2), (.int p3)] below meth c s₁ [] 0 0 := Stand.of_body Bd
  have e0 : s₁.heap = h0 := by rw [← hh, Bd.state]; rfl
  have N0 := Fr.nil n0
  have pre0 : ∀ t, Steps p.tables e below (s₁.setTop (mkF m 0 #[.val (.int p1), .val (.int p2), .val (.int p3), .unset, .unset, .unset, .unset, .unset, .unset, .unset, .unset, .unset, .unset, .unset] [])) t → Steps p.tables e below (s₁.setTop (entryFrame m #[(.int p1), (.int p2), (.int p3)] maxLocals)) t := fun t k => castTop (ef0 m p1 p2 p3) k
  obtain ⟨na, h_na⟩ : ∃ z : Int32, z = (if (p3 &&& (1 : Int32)) = 0 then 0 else 1) := ⟨_, rfl⟩
  obtain ⟨nb, h_nb⟩ : ∃ z : Int32, z = (if (p3 &&& (2 : Int32)) = 0 then 0 else 1) := ⟨_, rfl⟩
  obtain ⟨dx, h_dx⟩ : ∃ z : UInt64, z = (if na = 0 then FP.i2d p1 else FP.dmul (FP.i2d p1) (13830554455654793216 : UInt64)) := ⟨_, rfl⟩
  obtain ⟨dy, h_dy⟩ : ∃ z : UInt64, z = (if nb = 0 then FP.i2d p2 else FP.dmul (FP.i2d p2) (13830554455654793216 : UInt64)) := ⟨_, rfl⟩
  obtain ⟨va, h_va⟩ : ∃ z : Int64, z = (if na = 0 then p1.toInt64 else -p1.toInt64) := ⟨_, rfl⟩
  obtain ⟨vb, h_vb⟩ : ∃ z : Int64, z = (if nb = 0 then p2.toInt64 else -p2.toInt64) := ⟨_, rfl⟩
  obtain ⟨ex, h_ex⟩ : ∃ z : Int32, z = (if va < vb then -1 else if vb < va then 1 else 0) := ⟨_, rfl⟩
  have S1 : ∀ target, Steps p.tables e below (s₁.setTop (mkF m 12 #[.val (.int p1), .val (.int p2), .val (.int p3), .val (.int na), .unset, .unset, .unset, .unset, .unset, .unset, .unset, .unset, .unset, .unset] [])) target → Steps p.tables e below (s₁.setTop (mkF m 0 #[.val (.int p1), .val (.int p2), .val (.int p3), .unset, .unset, .unset, .unset, .unset, .unset, .unset, .unset, .unset, .unset, .unset] [])) target := by
    intro target kk
    by_cases c : (p3 &&& (1 : Int32)) = 0
    · rw [if_pos c] at h_na; subst h_na
      show Steps p.tables e below (s₁.setTop (mkF m 0 #[.val (.int p1), .val (.int p2), .val (.int p3), .unset, .unset, .unset, .unset, .unset, .unset, .unset, .unset, .unset, .unset, .unset] [])) _
      refine XS.iloadN X0.here hx rfl (hb hby at_0) rfl ?_
      show Steps p.tables e below (s₁.setTop (mkF m 1 #[.val (.int p1), .val (.int p2), .val (.int p3), .unset, .unset, .unset, .unset, .unset, .unset, .unset, .unset, .unset, .unset, .unset] [(.int p3)])) _
      refine XS.iconst X0.here hx rfl (hb hby at_1) ?_
      show Steps p.tables e below (s₁.setTop (mkF m 2 #[.val (.int p1), .val (.int p2), .val (.int p3), .unset, .unset, .unset, .unset, .unset, .unset, .unset, .unset, .unset, .unset, .unset] [(.int (1 : Int32)), (.int p3)])) _
      refine XS.iand X0.here hx rfl (hb hby at_2) rfl ?_
      show Steps p.tables e below (s₁.setTop (mkF m 3 #[.val (.int p1), .val (.int p2), .val (.int p3), .unset, .unset, .unset, .unset, .unset, .unset, .unset, .unset, .unset, .unset, .unset] [(.int (p3 &&& (1 : Int32)))])) _
      refine XS.ifYes X0.here hx rfl (pc0 := 3) (pc' := 10) rfl (hb hby at_3) rfl ((if0 _ _).trans (teq c).1) (by decide) (by decide) ?_
      show Steps p.tables e below (s₁.setTop (mkF m 10 #[.val (.int p1), .val (.int p2), .val (.int p3), .unset, .unset, .unset, .unset, .unset, .unset, .unset, .unset, .unset, .unset, .unset] [])) _
      refine XS.iconst X0.here hx rfl (hb hby at_10) ?_
      show Steps p.tables e below (s₁.setTop (mkF m 11 #[.val (.int p1), .val (.int p2), .val (.int p3), .unset, .unset, .unset, .unset, .unset, .unset, .unset, .unset, .unset, .unset, .unset] [(.int (0 : Int32))])) _
      refine XS.istoreN X0.here hx rfl (hb hby at_11) rfl (l' := #[.val (.int p1), .val (.int p2), .val (.int p3), .val (.int (0 : Int32)), .unset, .unset, .unset, .unset, .unset, .unset, .unset, .unset, .unset, .unset]) rfl ?_
      show Steps p.tables e below (s₁.setTop (mkF m 12 #[.val (.int p1), .val (.int p2), .val (.int p3), .val (.int (0 : Int32)), .unset, .unset, .unset, .unset, .unset, .unset, .unset, .unset, .unset, .unset] [])) _
      exact kk
    · rw [if_neg c] at h_na; subst h_na
      show Steps p.tables e below (s₁.setTop (mkF m 0 #[.val (.int p1), .val (.int p2), .val (.int p3), .unset, .unset, .unset, .unset, .unset, .unset, .unset, .unset, .unset, .unset, .unset] [])) _
      refine XS.iloadN X0.here hx rfl (hb hby at_0) rfl ?_
      show Steps p.tables e below (s₁.setTop (mkF m 1 #[.val (.int p1), .val (.int p2), .val (.int p3), .unset, .unset, .unset, .unset, .unset, .unset, .unset, .unset, .unset, .unset, .unset] [(.int p3)])) _
      refine XS.iconst X0.here hx rfl (hb hby at_1) ?_
      show Steps p.tables e below (s₁.setTop (mkF m 2 #[.val (.int p1), .val (.int p2), .val (.int p3), .unset, .unset, .unset, .unset, .unset, .unset, .unset, .unset, .unset, .unset, .unset] [(.int (1 : Int32)), (.int p3)])) _
      refine XS.iand X0.here hx rfl (hb hby at_2) rfl ?_
      show Steps p.tables e below (s₁.setTop (mkF m 3 #[.val (.int p1), .val (.int p2), .val (.int p3), .unset, .unset, .unset, .unset, .unset, .unset, .unset, .unset, .unset, .unset, .unset] [(.int (p3 &&& (1 : Int32)))])) _
      refine XS.ifNo X0.here hx rfl (hb hby at_3) rfl ((if0 _ _).trans (feq c).1) ?_
      show Steps p.tables e below (s₁.setTop (mkF m 6 #[.val (.int p1), .val (.int p2), .val (.int p3), .unset, .unset, .unset, .unset, .unset, .unset, .unset, .unset, .unset, .unset, .unset] [])) _
      refine XS.iconst X0.here hx rfl (hb hby at_6) ?_
      show Steps p.tables e below (s₁.setTop (mkF m 7 #[.val (.int p1), .val (.int p2), .val (.int p3), .unset, .unset, .unset, .unset, .unset, .unset, .unset, .unset, .unset, .unset, .unset] [(.int (1 : Int32))])) _
      refine XS.goto X0.here hx rfl (pc0 := 7) (pc' := 11) rfl (hb hby at_7) (by decide) (by decide) ?_
      show Steps p.tables e below (s₁.setTop (mkF m 11 #[.val (.int p1), .val (.int p2), .val (.int p3), .unset, .unset, .unset, .unset, .unset, .unset, .unset, .unset, .unset, .unset, .unset] [(.int (1 : Int32))])) _
      refine XS.istoreN X0.here hx rfl (hb hby at_11) rfl (l' := #[.val (.int p1), .val (.int p2), .val (.int p3), .val (.int (1 : Int32)), .unset, .unset, .unset, .unset, .unset, .unset, .unset, .unset, .unset, .unset]) rfl ?_
      show Steps p.tables e below (s₁.setTop (mkF m 12 #[.val (.int p1), .val (.int p2), .val (.int p3), .val (.int (1 : Int32)), .unset, .unset, .unset, .unset, .unset, .unset, .unset, .unset, .unset, .unset] [])) _
      exact kk
  have S2 : ∀ target, Steps p.tables e below (s₁.setTop (mkF m 25 #[.val (.int p1), .val (.int p2), .val (.int p3), .val (.int na), .val (.int nb), .unset, .unset, .unset, .unset, .unset, .unset, .unset, .unset, .unset] [])) target → Steps p.tables e below (s₁.setTop (mkF m 12 #[.val (.int p1), .val (.int p2), .val (.int p3), .val (.int na), .unset, .unset, .unset, .unset, .unset, .unset, .unset, .unset, .unset, .unset] [])) target := by
    intro target kk
    by_cases c : (p3 &&& (2 : Int32)) = 0
    · rw [if_pos c] at h_nb; subst h_nb
      show Steps p.tables e below (s₁.setTop (mkF m 12 #[.val (.int p1), .val (.int p2), .val (.int p3), .val (.int na), .unset, .unset, .unset, .unset, .unset, .unset, .unset, .unset, .unset, .unset] [])) _
      refine XS.iloadN X0.here hx rfl (hb hby at_12) rfl ?_
      show Steps p.tables e below (s₁.setTop (mkF m 13 #[.val (.int p1), .val (.int p2), .val (.int p3), .val (.int na), .unset, .unset, .unset, .unset, .unset, .unset, .unset, .unset, .unset, .unset] [(.int p3)])) _
      refine XS.iconst X0.here hx rfl (hb hby at_13) ?_
      show Steps p.tables e below (s₁.setTop (mkF m 14 #[.val (.int p1), .val (.int p2), .val (.int p3), .val (.int na), .unset, .unset, .unset, .unset, .unset, .unset, .unset, .unset, .unset, .unset] [(.int (2 : Int32)), (.int p3)])) _
      refine XS.iand X0.here hx rfl (hb hby at_14) rfl ?_
      show Steps p.tables e below (s₁.setTop (mkF m 15 #[.val (.int p1), .val (.int p2), .val (.int p3), .val (.int na), .unset, .unset, .unset, .unset, .unset, .unset, .unset, .unset, .unset, .unset] [(.int (p3 &&& (2 : Int32)))])) _
      refine XS.ifYes X0.here hx rfl (pc0 := 15) (pc' := 22) rfl (hb hby at_15) rfl ((if0 _ _).trans (teq c).1) (by decide) (by decide) ?_
      show Steps p.tables e below (s₁.setTop (mkF m 22 #[.val (.int p1), .val (.int p2), .val (.int p3), .val (.int na), .unset, .unset, .unset, .unset, .unset, .unset, .unset, .unset, .unset, .unset] [])) _
      refine XS.iconst X0.here hx rfl (hb hby at_22) ?_
      show Steps p.tables e below (s₁.setTop (mkF m 23 #[.val (.int p1), .val (.int p2), .val (.int p3), .val (.int na), .unset, .unset, .unset, .unset, .unset, .unset, .unset, .unset, .unset, .unset] [(.int (0 : Int32))])) _
      refine XS.istore X0.here hx rfl (hb hby at_23) rfl (l' := #[.val (.int p1), .val (.int p2), .val (.int p3), .val (.int na), .val (.int (0 : Int32)), .unset, .unset, .unset, .unset, .unset, .unset, .unset, .unset, .unset]) rfl ?_
      show Steps p.tables e below (s₁.setTop (mkF m 25 #[.val (.int p1), .val (.int p2), .val (.int p3), .val (.int na), .val (.int (0 : Int32)), .unset, .unset, .unset, .unset, .unset, .unset, .unset, .unset, .unset] [])) _
      exact kk
    · rw [if_neg c] at h_nb; subst h_nb
      show Steps p.tables e below (s₁.setTop (mkF m 12 #[.val (.int p1), .val (.int p2), .val (.int p3), .val (.int na), .unset, .unset, .unset, .unset, .unset, .unset, .unset, .unset, .unset, .unset] [])) _
      refine XS.iloadN X0.here hx rfl (hb hby at_12) rfl ?_
      show Steps p.tables e below (s₁.setTop (mkF m 13 #[.val (.int p1), .val (.int p2), .val (.int p3), .val (.int na), .unset, .unset, .unset, .unset, .unset, .unset, .unset, .unset, .unset, .unset] [(.int p3)])) _
      refine XS.iconst X0.here hx rfl (hb hby at_13) ?_
      show Steps p.tables e below (s₁.setTop (mkF m 14 #[.val (.int p1), .val (.int p2), .val (.int p3), .val (.int na), .unset, .unset, .unset, .unset, .unset, .unset, .unset, .unset, .unset, .unset] [(.int (2 : Int32)), (.int p3)])) _
      refine XS.iand X0.here hx rfl (hb hby at_14) rfl ?_
      show Steps p.tables e below (s₁.setTop (mkF m 15 #[.val (.int p1), .val (.int p2), .val (.int p3), .val (.int na), .unset, .unset, .unset, .unset, .unset, .unset, .unset, .unset, .unset, .unset] [(.int (p3 &&& (2 : Int32)))])) _
      refine XS.ifNo X0.here hx rfl (hb hby at_15) rfl ((if0 _ _).trans (feq c).1) ?_
      show Steps p.tables e below (s₁.setTop (mkF m 18 #[.val (.int p1), .val (.int p2), .val (.int p3), .val (.int na), .unset, .unset, .unset, .unset, .unset, .unset, .unset, .unset, .unset, .unset] [])) _
      refine XS.iconst X0.here hx rfl (hb hby at_18) ?_
      show Steps p.tables e below (s₁.setTop (mkF m 19 #[.val (.int p1), .val (.int p2), .val (.int p3), .val (.int na), .unset, .unset, .unset, .unset, .unset, .unset, .unset, .unset, .unset, .unset] [(.int (1 : Int32))])) _
      refine XS.goto X0.here hx rfl (pc0 := 19) (pc' := 23) rfl (hb hby at_19) (by decide) (by decide) ?_
      show Steps p.tables e below (s₁.setTop (mkF m 23 #[.val (.int p1), .val (.int p2), .val (.int p3), .val (.int na), .unset, .unset, .unset, .unset, .unset, .unset, .unset, .unset, .unset, .unset] [(.int (1 : Int32))])) _
      refine XS.istore X0.here hx rfl (hb hby at_23) rfl (l' := #[.val (.int p1), .val (.int p2), .val (.int p3), .val (.int na), .val (.int (1 : Int32)), .unset, .unset, .unset, .unset, .unset, .unset, .unset, .unset, .unset]) rfl ?_
      show Steps p.tables e below (s₁.setTop (mkF m 25 #[.val (.int p1), .val (.int p2), .val (.int p3), .val (.int na), .val (.int (1 : Int32)), .unset, .unset, .unset, .unset, .unset, .unset, .unset, .unset, .unset] [])) _
      exact kk
  have S3 : ∀ target, Steps p.tables e below (s₁.setTop (mkF m 41 #[.val (.int p1), .val (.int p2), .val (.int p3), .val (.int na), .val (.int nb), .val (.double dx), .second, .unset, .unset, .unset, .unset, .unset, .unset, .unset] [])) target → Steps p.tables e below (s₁.setTop (mkF m 25 #[.val (.int p1), .val (.int p2), .val (.int p3), .val (.int na), .val (.int nb), .unset, .unset, .unset, .unset, .unset, .unset, .unset, .unset, .unset] [])) target := by
    intro target kk
    by_cases c : na = 0
    · rw [if_pos c] at h_dx; subst h_dx
      show Steps p.tables e below (s₁.setTop (mkF m 25 #[.val (.int p1), .val (.int p2), .val (.int p3), .val (.int na), .val (.int nb), .unset, .unset, .unset, .unset, .unset, .unset, .unset, .unset, .unset] [])) _
      refine XS.iloadN X0.here hx rfl (hb hby at_25) rfl ?_
      show Steps p.tables e below (s₁.setTop (mkF m 26 #[.val (.int p1), .val (.int p2), .val (.int p3), .val (.int na), .val (.int nb), .unset, .unset, .unset, .unset, .unset, .unset, .unset, .unset, .unset] [(.int p1)])) _
      refine XS.i2dS X0.here hx rfl (hb hby at_26) rfl rfl ?_
      show Steps p.tables e below (s₁.setTop (mkF m 27 #[.val (.int p1), .val (.int p2), .val (.int p3), .val (.int na), .val (.int nb), .unset, .unset, .unset, .unset, .unset, .unset, .unset, .unset, .unset] [(.double (FP.i2d p1))])) _
      refine XS.dstore X0.here hx rfl (hb hby at_27) rfl (l' := #[.val (.int p1), .val (.int p2), .val (.int p3), .val (.int na), .val (.int nb), .val (.double (FP.i2d p1)), .second, .unset, .unset, .unset, .unset, .unset, .unset, .unset]) rfl ?_
      show Steps p.tables e below (s₁.setTop (mkF m 29 #[.val (.int p1), .val (.int p2), .val (.int p3), .val (.int na), .val (.int nb), .val (.double (FP.i2d p1)), .second, .unset, .unset, .unset, .unset, .unset, .unset, .unset] [])) _
      refine XS.iloadN X0.here hx rfl (hb hby at_29) rfl ?_
      show Steps p.tables e below (s₁.setTop (mkF m 30 #[.val (.int p1), .val (.int p2), .val (.int p3), .val (.int na), .val (.int nb), .val (.double (FP.i2d p1)), .second, .unset, .unset, .unset, .unset, .unset, .unset, .unset] [(.int na)])) _
      refine XS.ifYes X0.here hx rfl (pc0 := 30) (pc' := 41) rfl (hb hby at_30) rfl ((if0 _ _).trans (teq c).1) (by decide) (by decide) ?_
      show Steps p.tables e below (s₁.setTop (mkF m 41 #[.val (.int p1), .val (.int p2), .val (.int p3), .val (.int na), .val (.int nb), .val (.double (FP.i2d p1)), .second, .unset, .unset, .unset, .unset, .unset, .unset, .unset] [])) _
      exact kk
    · rw [if_neg c] at h_dx; subst h_dx
      show Steps p.tables e below (s₁.setTop (mkF m 25 #[.val (.int p1), .val (.int p2), .val (.int p3), .val (.int na), .val (.int nb), .unset, .unset, .unset, .unset, .unset, .unset, .unset, .unset, .unset] [])) _
      refine XS.iloadN X0.here hx rfl (hb hby at_25) rfl ?_
      show Steps p.tables e below (s₁.setTop (mkF m 26 #[.val (.int p1), .val (.int p2), .val (.int p3), .val (.int na), .val (.int nb), .unset, .unset, .unset, .unset, .unset, .unset, .unset, .unset, .unset] [(.int p1)])) _
      refine XS.i2dS X0.here hx rfl (hb hby at_26) rfl rfl ?_
      show Steps p.tables e below (s₁.setTop (mkF m 27 #[.val (.int p1), .val (.int p2), .val (.int p3), .val (.int na), .val (.int nb), .unset, .unset, .unset, .unset, .unset, .unset, .unset, .unset, .unset] [(.double (FP.i2d p1))])) _
      refine XS.dstore X0.here hx rfl (hb hby at_27) rfl (l' := #[.val (.int p1), .val (.int p2), .val (.int p3), .val (.int na), .val (.int nb), .val (.double (FP.i2d p1)), .second, .unset, .unset, .unset, .unset, .unset, .unset, .unset]) rfl ?_
      show Steps p.tables e below (s₁.setTop (mkF m 29 #[.val (.int p1), .val (.int p2), .val (.int p3), .val (.int na), .val (.int nb), .val (.double (FP.i2d p1)), .second, .unset, .unset, .unset, .unset, .unset, .unset, .unset] [])) _
      refine XS.iloadN X0.here hx rfl (hb hby at_29) rfl ?_
      show Steps p.tables e below (s₁.setTop (mkF m 30 #[.val (.int p1), .val (.int p2), .val (.int p3), .val (.int na), .val (.int nb), .val (.double (FP.i2d p1)), .second, .unset, .unset, .unset, .unset, .unset, .unset, .unset] [(.int na)])) _
      refine XS.ifNo X0.here hx rfl (hb hby at_30) rfl ((if0 _ _).trans (feq c).1) ?_
      show Steps p.tables e below (s₁.setTop (mkF m 33 #[.val (.int p1), .val (.int p2), .val (.int p3), .val (.int na), .val (.int nb), .val (.double (FP.i2d p1)), .second, .unset, .unset, .unset, .unset, .unset, .unset, .unset] [])) _
      refine XS.dload X0.here hx rfl (hb hby at_33) rfl ?_
      show Steps p.tables e below (s₁.setTop (mkF m 35 #[.val (.int p1), .val (.int p2), .val (.int p3), .val (.int na), .val (.int nb), .val (.double (FP.i2d p1)), .second, .unset, .unset, .unset, .unset, .unset, .unset, .unset] [(.double (FP.i2d p1))])) _
      refine X0.ldc2DoubleC hx hown (mvT hZ (hw _ (List.mem_of_getElem? (i := 0) rfl))) (g := (mkF m 35 #[.val (.int p1), .val (.int p2), .val (.int p3), .val (.int na), .val (.int nb), .val (.double (FP.i2d p1)), .second, .unset, .unset, .unset, .unset, .unset, .unset, .unset] [(.double (FP.i2d p1))])) rfl (hb hby at_35) _ ?_
      show Steps p.tables e below (s₁.setTop (mkF m 38 #[.val (.int p1), .val (.int p2), .val (.int p3), .val (.int na), .val (.int nb), .val (.double (FP.i2d p1)), .second, .unset, .unset, .unset, .unset, .unset, .unset, .unset] [(.double (13830554455654793216 : UInt64)), (.double (FP.i2d p1))])) _
      refine XS.dmulS X0.here hx rfl (hb hby at_38) rfl (own_nn p1) rfl ?_
      show Steps p.tables e below (s₁.setTop (mkF m 39 #[.val (.int p1), .val (.int p2), .val (.int p3), .val (.int na), .val (.int nb), .val (.double (FP.i2d p1)), .second, .unset, .unset, .unset, .unset, .unset, .unset, .unset] [(.double (FP.dmul (FP.i2d p1) (13830554455654793216 : UInt64)))])) _
      refine XS.dstore X0.here hx rfl (hb hby at_39) rfl (l' := #[.val (.int p1), .val (.int p2), .val (.int p3), .val (.int na), .val (.int nb), .val (.double (FP.dmul (FP.i2d p1) (13830554455654793216 : UInt64))), .second, .unset, .unset, .unset, .unset, .unset, .unset, .unset]) rfl ?_
      show Steps p.tables e below (s₁.setTop (mkF m 41 #[.val (.int p1), .val (.int p2), .val (.int p3), .val (.int na), .val (.int nb), .val (.double (FP.dmul (FP.i2d p1) (13830554455654793216 : UInt64))), .second, .unset, .unset, .unset, .unset, .unset, .unset, .unset] [])) _
      exact kk
  have S4 : ∀ target, Steps p.tables e below (s₁.setTop (mkF m 58 #[.val (.int p1), .val (.int p2), .val (.int p3), .val (.int na), .val (.int nb), .val (.double dx), .second, .val (.double dy), .second, .unset, .unset, .unset, .unset, .unset] [])) target → Steps p.tables e below (s₁.setTop (mkF m 41 #[.val (.int p1), .val (.int p2), .val (.int p3), .val (.int na), .val (.int nb), .val (.double dx), .second, .unset, .unset, .unset, .unset, .unset, .unset, .unset] [])) target := by
    intro target kk
    by_cases c : nb = 0
    · rw [if_pos c] at h_dy; subst h_dy
      show Steps p.tables e below (s₁.setTop (mkF m 41 #[.val (.int p1), .val (.int p2), .val (.int p3), .val (.int na), .val (.int nb), .val (.double dx), .second, .unset, .unset, .unset, .unset, .unset, .unset, .unset] [])) _
      refine XS.iloadN X0.here hx rfl (hb hby at_41) rfl ?_
      show Steps p.tables e below (s₁.setTop (mkF m 42 #[.val (.int p1), .val (.int p2), .val (.int p3), .val (.int na), .val (.int nb), .val (.double dx), .second, .unset, .unset, .unset, .unset, .unset, .unset, .unset] [(.int p2)])) _
      refine XS.i2dS X0.here hx rfl (hb hby at_42) rfl rfl ?_
      show Steps p.tables e below (s₁.setTop (mkF m 43 #[.val (.int p1), .val (.int p2), .val (.int p3), .val (.int na), .val (.int nb), .val (.double dx), .second, .unset, .unset, .unset, .unset, .unset, .unset, .unset] [(.double (FP.i2d p2))])) _
      refine XS.dstore X0.here hx rfl (hb hby at_43) rfl (l' := #[.val (.int p1), .val (.int p2), .val (.int p3), .val (.int na), .val (.int nb), .val (.double dx), .second, .val (.double (FP.i2d p2)), .second, .unset, .unset, .unset, .unset, .unset]) rfl ?_
      show Steps p.tables e below (s₁.setTop (mkF m 45 #[.val (.int p1), .val (.int p2), .val (.int p3), .val (.int na), .val (.int nb), .val (.double dx), .second, .val (.double (FP.i2d p2)), .second, .unset, .unset, .unset, .unset, .unset] [])) _
      refine XS.iload X0.here hx rfl (hb hby at_45) rfl ?_
      show Steps p.tables e below (s₁.setTop (mkF m 47 #[.val (.int p1), .val (.int p2), .val (.int p3), .val (.int na), .val (.int nb), .val (.double dx), .second, .val (.double (FP.i2d p2)), .second, .unset, .unset, .unset, .unset, .unset] [(.int nb)])) _
      refine XS.ifYes X0.here hx rfl (pc0 := 47) (pc' := 58) rfl (hb hby at_47) rfl ((if0 _ _).trans (teq c).1) (by decide) (by decide) ?_
      show Steps p.tables e below (s₁.setTop (mkF m 58 #[.val (.int p1), .val (.int p2), .val (.int p3), .val (.int na), .val (.int nb), .val (.double dx), .second, .val (.double (FP.i2d p2)), .second, .unset, .unset, .unset, .unset, .unset] [])) _
      exact kk
    · rw [if_neg c] at h_dy; subst h_dy
      show Steps p.tables e below (s₁.setTop (mkF m 41 #[.val (.int p1), .val (.int p2), .val (.int p3), .val (.int na), .val (.int nb), .val (.double dx), .second, .unset, .unset, .unset, .unset, .unset, .unset, .unset] [])) _
      refine XS.iloadN X0.here hx rfl (hb hby at_41) rfl ?_
      show Steps p.tables e below (s₁.setTop (mkF m 42 #[.val (.int p1), .val (.int p2), .val (.int p3), .val (.int na), .val (.int nb), .val (.double dx), .second, .unset, .unset, .unset, .unset, .unset, .unset, .unset] [(.int p2)])) _
      refine XS.i2dS X0.here hx rfl (hb hby at_42) rfl rfl ?_
      show Steps p.tables e below (s₁.setTop (mkF m 43 #[.val (.int p1), .val (.int p2), .val (.int p3), .val (.int na), .val (.int nb), .val (.double dx), .second, .unset, .unset, .unset, .unset, .unset, .unset, .unset] [(.double (FP.i2d p2))])) _
      refine XS.dstore X0.here hx rfl (hb hby at_43) rfl (l' := #[.val (.int p1), .val (.int p2), .val (.int p3), .val (.int na), .val (.int nb), .val (.double dx), .second, .val (.double (FP.i2d p2)), .second, .unset, .unset, .unset, .unset, .unset]) rfl ?_
      show Steps p.tables e below (s₁.setTop (mkF m 45 #[.val (.int p1), .val (.int p2), .val (.int p3), .val (.int na), .val (.int nb), .val (.double dx), .second, .val (.double (FP.i2d p2)), .second, .unset, .unset, .unset, .unset, .unset] [])) _
      refine XS.iload X0.here hx rfl (hb hby at_45) rfl ?_
      show Steps p.tables e below (s₁.setTop (mkF m 47 #[.val (.int p1), .val (.int p2), .val (.int p3), .val (.int na), .val (.int nb), .val (.double dx), .second, .val (.double (FP.i2d p2)), .second, .unset, .unset, .unset, .unset, .unset] [(.int nb)])) _
      refine XS.ifNo X0.here hx rfl (hb hby at_47) rfl ((if0 _ _).trans (feq c).1) ?_
      show Steps p.tables e below (s₁.setTop (mkF m 50 #[.val (.int p1), .val (.int p2), .val (.int p3), .val (.int na), .val (.int nb), .val (.double dx), .second, .val (.double (FP.i2d p2)), .second, .unset, .unset, .unset, .unset, .unset] [])) _
      refine XS.dload X0.here hx rfl (hb hby at_50) rfl ?_
      show Steps p.tables e below (s₁.setTop (mkF m 52 #[.val (.int p1), .val (.int p2), .val (.int p3), .val (.int na), .val (.int nb), .val (.double dx), .second, .val (.double (FP.i2d p2)), .second, .unset, .unset, .unset, .unset, .unset] [(.double (FP.i2d p2))])) _
      refine X0.ldc2DoubleC hx hown (mvT hZ (hw _ (List.mem_of_getElem? (i := 0) rfl))) (g := (mkF m 52 #[.val (.int p1), .val (.int p2), .val (.int p3), .val (.int na), .val (.int nb), .val (.double dx), .second, .val (.double (FP.i2d p2)), .second, .unset, .unset, .unset, .unset, .unset] [(.double (FP.i2d p2))])) rfl (hb hby at_52) _ ?_
      show Steps p.tables e below (s₁.setTop (mkF m 55 #[.val (.int p1), .val (.int p2), .val (.int p3), .val (.int na), .val (.int nb), .val (.double dx), .second, .val (.double (FP.i2d p2)), .second, .unset, .unset, .unset, .unset, .unset] [(.double (13830554455654793216 : UInt64)), (.double (FP.i2d p2))])) _
      refine XS.dmulS X0.here hx rfl (hb hby at_55) rfl (own_nn p2) rfl ?_
      show Steps p.tables e below (s₁.setTop (mkF m 56 #[.val (.int p1), .val (.int p2), .val (.int p3), .val (.int na), .val (.int nb), .val (.double dx), .second, .val (.double (FP.i2d p2)), .second, .unset, .unset, .unset, .unset, .unset] [(.double (FP.dmul (FP.i2d p2) (13830554455654793216 : UInt64)))])) _
      refine XS.dstore X0.here hx rfl (hb hby at_56) rfl (l' := #[.val (.int p1), .val (.int p2), .val (.int p3), .val (.int na), .val (.int nb), .val (.double dx), .second, .val (.double (FP.dmul (FP.i2d p2) (13830554455654793216 : UInt64))), .second, .unset, .unset, .unset, .unset, .unset]) rfl ?_
      show Steps p.tables e below (s₁.setTop (mkF m 58 #[.val (.int p1), .val (.int p2), .val (.int p3), .val (.int na), .val (.int nb), .val (.double dx), .second, .val (.double (FP.dmul (FP.i2d p2) (13830554455654793216 : UInt64))), .second, .unset, .unset, .unset, .unset, .unset] [])) _
      exact kk
  have S5 : ∀ target, Steps p.tables e below (s₁.setTop (mkF m 72 #[.val (.int p1), .val (.int p2), .val (.int p3), .val (.int na), .val (.int nb), .val (.double dx), .second, .val (.double dy), .second, .val (.long va), .second, .unset, .unset, .unset] [])) target → Steps p.tables e below (s₁.setTop (mkF m 58 #[.val (.int p1), .val (.int p2), .val (.int p3), .val (.int na), .val (.int nb), .val (.double dx), .second, .val (.double dy), .second, .unset, .unset, .unset, .unset, .unset] [])) target := by
    intro target kk
    by_cases c : na = 0
    · rw [if_pos c] at h_va; subst h_va
      show Steps p.tables e below (s₁.setTop (mkF m 58 #[.val (.int p1), .val (.int p2), .val (.int p3), .val (.int na), .val (.int nb), .val (.double dx), .second, .val (.double dy), .second, .unset, .unset, .unset, .unset, .unset] [])) _
      refine XS.iloadN X0.here hx rfl (hb hby at_58) rfl ?_
      show Steps p.tables e below (s₁.setTop (mkF m 59 #[.val (.int p1), .val (.int p2), .val (.int p3), .val (.int na), .val (.int nb), .val (.double dx), .second, .val (.double dy), .second, .unset, .unset, .unset, .unset, .unset] [(.int na)])) _
      refine XS.ifYes X0.here hx rfl (pc0 := 59) (pc' := 68) rfl (hb hby at_59) rfl ((if0 _ _).trans (teq c).1) (by decide) (by decide) ?_
      show Steps p.tables e below (s₁.setTop (mkF m 68 #[.val (.int p1), .val (.int p2), .val (.int p3), .val (.int na), .val (.int nb), .val (.double dx), .second, .val (.double dy), .second, .unset, .unset, .unset, .unset, .unset] [])) _
      refine XS.iloadN X0.here hx rfl (hb hby at_68) rfl ?_
      show Steps p.tables e below (s₁.setTop (mkF m 69 #[.val (.int p1), .val (.int p2), .val (.int p3), .val (.int na), .val (.int nb), .val (.double dx), .second, .val (.double dy), .second, .unset, .unset, .unset, .unset, .unset] [(.int p1)])) _
      refine XT.i2l X0.here hx rfl (hb hby at_69) rfl ?_
      show Steps p.tables e below (s₁.setTop (mkF m 70 #[.val (.int p1), .val (.int p2), .val (.int p3), .val (.int na), .val (.int nb), .val (.double dx), .second, .val (.double dy), .second, .unset, .unset, .unset, .unset, .unset] [(.long (p1.toInt64))])) _
      refine XT.lstore X0.here hx rfl (hb hby at_70) rfl (l' := #[.val (.int p1), .val (.int p2), .val (.int p3), .val (.int na), .val (.int nb), .val (.double dx), .second, .val (.double dy), .second, .val (.long (p1.toInt64)), .second, .unset, .unset, .unset]) rfl ?_
      show Steps p.tables e below (s₁.setTop (mkF m 72 #[.val (.int p1), .val (.int p2), .val (.int p3), .val (.int na), .val (.int nb), .val (.double dx), .second, .val (.double dy), .second, .val (.long (p1.toInt64)), .second, .unset, .unset, .unset] [])) _
      exact kk
    · rw [if_neg c] at h_va; subst h_va
      show Steps p.tables e below (s₁.setTop (mkF m 58 #[.val (.int p1), .val (.int p2), .val (.int p3), .val (.int na), .val (.int nb), .val (.double dx), .second, .val (.double dy), .second, .unset, .unset, .unset, .unset, .unset] [])) _
      refine XS.iloadN X0.here hx rfl (hb hby at_58) rfl ?_
      show Steps p.tables e below (s₁.setTop (mkF m 59 #[.val (.int p1), .val (.int p2), .val (.int p3), .val (.int na), .val (.int nb), .val (.double dx), .second, .val (.double dy), .second, .unset, .unset, .unset, .unset, .unset] [(.int na)])) _
      refine XS.ifNo X0.here hx rfl (hb hby at_59) rfl ((if0 _ _).trans (feq c).1) ?_
      show Steps p.tables e below (s₁.setTop (mkF m 62 #[.val (.int p1), .val (.int p2), .val (.int p3), .val (.int na), .val (.int nb), .val (.double dx), .second, .val (.double dy), .second, .unset, .unset, .unset, .unset, .unset] [])) _
      refine XS.iloadN X0.here hx rfl (hb hby at_62) rfl ?_
      show Steps p.tables e below (s₁.setTop (mkF m 63 #[.val (.int p1), .val (.int p2), .val (.int p3), .val (.int na), .val (.int nb), .val (.double dx), .second, .val (.double dy), .second, .unset, .unset, .unset, .unset, .unset] [(.int p1)])) _
      refine XT.i2l X0.here hx rfl (hb hby at_63) rfl ?_
      show Steps p.tables e below (s₁.setTop (mkF m 64 #[.val (.int p1), .val (.int p2), .val (.int p3), .val (.int na), .val (.int nb), .val (.double dx), .second, .val (.double dy), .second, .unset, .unset, .unset, .unset, .unset] [(.long (p1.toInt64))])) _
      refine XT.lneg X0.here hx rfl (hb hby at_64) rfl ?_
      show Steps p.tables e below (s₁.setTop (mkF m 65 #[.val (.int p1), .val (.int p2), .val (.int p3), .val (.int na), .val (.int nb), .val (.double dx), .second, .val (.double dy), .second, .unset, .unset, .unset, .unset, .unset] [(.long (-(p1.toInt64)))])) _
      refine XS.goto X0.here hx rfl (pc0 := 65) (pc' := 70) rfl (hb hby at_65) (by decide) (by decide) ?_
      show Steps p.tables e below (s₁.setTop (mkF m 70 #[.val (.int p1), .val (.int p2), .val (.int p3), .val (.int na), .val (.int nb), .val (.double dx), .second, .val (.double dy), .second, .unset, .unset, .unset, .unset, .unset] [(.long (-(p1.toInt64)))])) _
      refine XT.lstore X0.here hx rfl (hb hby at_70) rfl (l' := #[.val (.int p1), .val (.int p2), .val (.int p3), .val (.int na), .val (.int nb), .val (.double dx), .second, .val (.double dy), .second, .val (.long (-(p1.toInt64))), .second, .unset, .unset, .unset]) rfl ?_
      show Steps p.tables e below (s₁.setTop (mkF m 72 #[.val (.int p1), .val (.int p2), .val (.int p3), .val (.int na), .val (.int nb), .val (.double dx), .second, .val (.double dy), .second, .val (.long (-(p1.toInt64))), .second, .unset, .unset, .unset] [])) _
      exact kk
  have S6 : ∀ target, Steps p.tables e below (s₁.setTop (mkF m 87 #[.val (.int p1), .val (.int p2), .val (.int p3), .val (.int na), .val (.int nb), .val (.double dx), .second, .val (.double dy), .second, .val (.long va), .second, .val (.long vb), .second, .unset] [])) target → Steps p.tables e below (s₁.setTop (mkF m 72 #[.val (.int p1), .val (.int p2), .val (.int p3), .val (.int na), .val (.int nb), .val (.double dx), .second, .val (.double dy), .second, .val (.long va), .second, .unset, .unset, .unset] [])) target := by
    intro target kk
    by_cases c : nb = 0
    · rw [if_pos c] at h_vb; subst h_vb
      show Steps p.tables e below (s₁.setTop (mkF m 72 #[.val (.int p1), .val (.int p2), .val (.int p3), .val (.int na), .val (.int nb), .val (.double dx), .second, .val (.double dy), .second, .val (.long va), .second, .unset, .unset, .unset] [])) _
      refine XS.iload X0.here hx rfl (hb hby at_72) rfl ?_
      show Steps p.tables e below (s₁.setTop (mkF m 74 #[.val (.int p1), .val (.int p2), .val (.int p3), .val (.int na), .val (.int nb), .val (.double dx), .second, .val (.double dy), .second, .val (.long va), .second, .unset, .unset, .unset] [(.int nb)])) _
      refine XS.ifYes X0.here hx rfl (pc0 := 74) (pc' := 83) rfl (hb hby at_74) rfl ((if0 _ _).trans (teq c).1) (by decide) (by decide) ?_
      show Steps p.tables e below (s₁.setTop (mkF m 83 #[.val (.int p1), .val (.int p2), .val (.int p3), .val (.int na), .val (.int nb), .val (.double dx), .second, .val (.double dy), .second, .val (.long va), .second, .unset, .unset, .unset] [])) _
      refine XS.iloadN X0.here hx rfl (hb hby at_83) rfl ?_
      show Steps p.tables e below (s₁.setTop (mkF m 84 #[.val (.int p1), .val (.int p2), .val (.int p3), .val (.int na), .val (.int nb), .val (.double dx), .second, .val (.double dy), .second, .val (.long va), .second, .unset, .unset, .unset] [(.int p2)])) _
      refine XT.i2l X0.here hx rfl (hb hby at_84) rfl ?_
      show Steps p.tables e below (s₁.setTop (mkF m 85 #[.val (.int p1), .val (.int p2), .val (.int p3), .val (.int na), .val (.int nb), .val (.double dx), .second, .val (.double dy), .second, .val (.long va), .second, .unset, .unset, .unset] [(.long (p2.toInt64))])) _
      refine XT.lstore X0.here hx rfl (hb hby at_85) rfl (l' := #[.val (.int p1), .val (.int p2), .val (.int p3), .val (.int na), .val (.int nb), .val (.double dx), .second, .val (.double dy), .second, .val (.long va), .second, .val (.long (p2.toInt64)), .second, .unset]) rfl ?_
      show Steps p.tables e below (s₁.setTop (mkF m 87 #[.val (.int p1), .val (.int p2), .val (.int p3), .val (.int na), .val (.int nb), .val (.double dx), .second, .val (.double dy), .second, .val (.long va), .second, .val (.long (p2.toInt64)), .second, .unset] [])) _
      exact kk
    · rw [if_neg c] at h_vb; subst h_vb
      show Steps p.tables e below (s₁.setTop (mkF m 72 #[.val (.int p1), .val (.int p2), .val (.int p3), .val (.int na), .val (.int nb), .val (.double dx), .second, .val (.double dy), .second, .val (.long va), .second, .unset, .unset, .unset] [])) _
      refine XS.iload X0.here hx rfl (hb hby at_72) rfl ?_
      show Steps p.tables e below (s₁.setTop (mkF m 74 #[.val (.int p1), .val (.int p2), .val (.int p3), .val (.int na), .val (.int nb), .val (.double dx), .second, .val (.double dy), .second, .val (.long va), .second, .unset, .unset, .unset] [(.int nb)])) _
      refine XS.ifNo X0.here hx rfl (hb hby at_74) rfl ((if0 _ _).trans (feq c).1) ?_
      show Steps p.tables e below (s₁.setTop (mkF m 77 #[.val (.int p1), .val (.int p2), .val (.int p3), .val (.int na), .val (.int nb), .val (.double dx), .second, .val (.double dy), .second, .val (.long va), .second, .unset, .unset, .unset] [])) _
      refine XS.iloadN X0.here hx rfl (hb hby at_77) rfl ?_
      show Steps p.tables e below (s₁.setTop (mkF m 78 #[.val (.int p1), .val (.int p2), .val (.int p3), .val (.int na), .val (.int nb), .val (.double dx), .second, .val (.double dy), .second, .val (.long va), .second, .unset, .unset, .unset] [(.int p2)])) _
      refine XT.i2l X0.here hx rfl (hb hby at_78) rfl ?_
      show Steps p.tables e below (s₁.setTop (mkF m 79 #[.val (.int p1), .val (.int p2), .val (.int p3), .val (.int na), .val (.int nb), .val (.double dx), .second, .val (.double dy), .second, .val (.long va), .second, .unset, .unset, .unset] [(.long (p2.toInt64))])) _
      refine XT.lneg X0.here hx rfl (hb hby at_79) rfl ?_
      show Steps p.tables e below (s₁.setTop (mkF m 80 #[.val (.int p1), .val (.int p2), .val (.int p3), .val (.int na), .val (.int nb), .val (.double dx), .second, .val (.double dy), .second, .val (.long va), .second, .unset, .unset, .unset] [(.long (-(p2.toInt64)))])) _
      refine XS.goto X0.here hx rfl (pc0 := 80) (pc' := 85) rfl (hb hby at_80) (by decide) (by decide) ?_
      show Steps p.tables e below (s₁.setTop (mkF m 85 #[.val (.int p1), .val (.int p2), .val (.int p3), .val (.int na), .val (.int nb), .val (.double dx), .second, .val (.double dy), .second, .val (.long va), .second, .unset, .unset, .unset] [(.long (-(p2.toInt64)))])) _
      refine XT.lstore X0.here hx rfl (hb hby at_85) rfl (l' := #[.val (.int p1), .val (.int p2), .val (.int p3), .val (.int na), .val (.int nb), .val (.double dx), .second, .val (.double dy), .second, .val (.long va), .second, .val (.long (-(p2.toInt64))), .second, .unset]) rfl ?_
      show Steps p.tables e below (s₁.setTop (mkF m 87 #[.val (.int p1), .val (.int p2), .val (.int p3), .val (.int na), .val (.int nb), .val (.double dx), .second, .val (.double dy), .second, .val (.long va), .second, .val (.long (-(p2.toInt64))), .second, .unset] [])) _
      exact kk
  have S7 : ∀ target, Steps p.tables e below (s₁.setTop (mkF m 118 #[.val (.int p1), .val (.int p2), .val (.int p3), .val (.int na), .val (.int nb), .val (.double dx), .second, .val (.double dy), .second, .val (.long va), .second, .val (.long vb), .second, .val (.int ex)] [])) target → Steps p.tables e below (s₁.setTop (mkF m 87 #[.val (.int p1), .val (.int p2), .val (.int p3), .val (.int na), .val (.int nb), .val (.double dx), .second, .val (.double dy), .second, .val (.long va), .second, .val (.long vb), .second, .unset] [])) target := by
    intro target kk
    by_cases c : va < vb
    · rw [if_pos c] at h_ex; subst h_ex
      show Steps p.tables e below (s₁.setTop (mkF m 87 #[.val (.int p1), .val (.int p2), .val (.int p3), .val (.int na), .val (.int nb), .val (.double dx), .second, .val (.double dy), .second, .val (.long va), .second, .val (.long vb), .second, .unset] [])) _
      refine XT.lload X0.here hx rfl (hb hby at_87) rfl ?_
      show Steps p.tables e below (s₁.setTop (mkF m 89 #[.val (.int p1), .val (.int p2), .val (.int p3), .val (.int na), .val (.int nb), .val (.double dx), .second, .val (.double dy), .second, .val (.long va), .second, .val (.long vb), .second, .unset] [(.long va)])) _
      refine XT.lload X0.here hx rfl (hb hby at_89) rfl ?_
      show Steps p.tables e below (s₁.setTop (mkF m 91 #[.val (.int p1), .val (.int p2), .val (.int p3), .val (.int na), .val (.int nb), .val (.double dx), .second, .val (.double dy), .second, .val (.long va), .second, .val (.long vb), .second, .unset] [(.long vb), (.long va)])) _
      refine XT.lcmp X0.here hx rfl (hb hby at_91) rfl ?_
      show Steps p.tables e below (s₁.setTop (mkF m 92 #[.val (.int p1), .val (.int p2), .val (.int p3), .val (.int na), .val (.int nb), .val (.double dx), .second, .val (.double dy), .second, .val (.long va), .second, .val (.long vb), .second, .unset] [(.int (XT.cmpL va vb))])) _
      refine XS.ifNo X0.here hx rfl (hb hby at_92) rfl ((if0 _ _).trans (tlt (own_lt c)).2.1) ?_
      show Steps p.tables e below (s₁.setTop (mkF m 95 #[.val (.int p1), .val (.int p2), .val (.int p3), .val (.int na), .val (.int nb), .val (.double dx), .second, .val (.double dy), .second, .val (.long va), .second, .val (.long vb), .second, .unset] [])) _
      refine XS.iconst X0.here hx rfl (hb hby at_95) ?_
      show Steps p.tables e below (s₁.setTop (mkF m 96 #[.val (.int p1), .val (.int p2), .val (.int p3), .val (.int na), .val (.int nb), .val (.double dx), .second, .val (.double dy), .second, .val (.long va), .second, .val (.long vb), .second, .unset] [(.int (-1 : Int32))])) _
      refine XS.istore X0.here hx rfl (hb hby at_96) rfl (l' := #[.val (.int p1), .val (.int p2), .val (.int p3), .val (.int na), .val (.int nb), .val (.double dx), .second, .val (.double dy), .second, .val (.long va), .second, .val (.long vb), .second, .val (.int (-1 : Int32))]) rfl ?_
      show Steps p.tables e below (s₁.setTop (mkF m 98 #[.val (.int p1), .val (.int p2), .val (.int p3), .val (.int na), .val (.int nb), .val (.double dx), .second, .val (.double dy), .second, .val (.long va), .second, .val (.long vb), .second, .val (.int (-1 : Int32))] [])) _
      refine XS.goto X0.here hx rfl (pc0 := 98) (pc' := 118) rfl (hb hby at_98) (by decide) (by decide) ?_
      show Steps p.tables e below (s₁.setTop (mkF m 118 #[.val (.int p1), .val (.int p2), .val (.int p3), .val (.int na), .val (.int nb), .val (.double dx), .second, .val (.double dy), .second, .val (.long va), .second, .val (.long vb), .second, .val (.int (-1 : Int32))] [])) _
      exact kk
    · rw [if_neg c] at h_ex
      by_cases d : vb < va
      · rw [if_pos d] at h_ex; subst h_ex
        show Steps p.tables e below (s₁.setTop (mkF m 87 #[.val (.int p1), .val (.int p2), .val (.int p3), .val (.int na), .val (.int nb), .val (.double dx), .second, .val (.double dy), .second, .val (.long va), .second, .val (.long vb), .second, .unset] [])) _
        refine XT.lload X0.here hx rfl (hb hby at_87) rfl ?_
        show Steps p.tables e below (s₁.setTop (mkF m 89 #[.val (.int p1), .val (.int p2), .val (.int p3), .val (.int na), .val (.int nb), .val (.double dx), .second, .val (.double dy), .second, .val (.long va), .second, .val (.long vb), .second, .unset] [(.long va)])) _
        refine XT.lload X0.here hx rfl (hb hby at_89) rfl ?_
        show Steps p.tables e below (s₁.setTop (mkF m 91 #[.val (.int p1), .val (.int p2), .val (.int p3), .val (.int na), .val (.int nb), .val (.double dx), .second, .val (.double dy), .second, .val (.long va), .second, .val (.long vb), .second, .unset] [(.long vb), (.long va)])) _
        refine XT.lcmp X0.here hx rfl (hb hby at_91) rfl ?_
        show Steps p.tables e below (s₁.setTop (mkF m 92 #[.val (.int p1), .val (.int p2), .val (.int p3), .val (.int na), .val (.int nb), .val (.double dx), .second, .val (.double dy), .second, .val (.long va), .second, .val (.long vb), .second, .unset] [(.int (XT.cmpL va vb))])) _
        refine XS.ifYes X0.here hx rfl (pc0 := 92) (pc' := 101) rfl (hb hby at_92) rfl ((if0 _ _).trans (flt (own_nlt c)).2.1) (by decide) (by decide) ?_
        show Steps p.tables e below (s₁.setTop (mkF m 101 #[.val (.int p1), .val (.int p2), .val (.int p3), .val (.int na), .val (.int nb), .val (.double dx), .second, .val (.double dy), .second, .val (.long va), .second, .val (.long vb), .second, .unset] [])) _
        refine XT.lload X0.here hx rfl (hb hby at_101) rfl ?_
        show Steps p.tables e below (s₁.setTop (mkF m 103 #[.val (.int p1), .val (.int p2), .val (.int p3), .val (.int na), .val (.int nb), .val (.double dx), .second, .val (.double dy), .second, .val (.long va), .second, .val (.long vb), .second, .unset] [(.long va)])) _
        refine XT.lload X0.here hx rfl (hb hby at_103) rfl ?_
        show Steps p.tables e below (s₁.setTop (mkF m 105 #[.val (.int p1), .val (.int p2), .val (.int p3), .val (.int na), .val (.int nb), .val (.double dx), .second, .val (.double dy), .second, .val (.long va), .second, .val (.long vb), .second, .unset] [(.long vb), (.long va)])) _
        refine XT.lcmp X0.here hx rfl (hb hby at_105) rfl ?_
        show Steps p.tables e below (s₁.setTop (mkF m 106 #[.val (.int p1), .val (.int p2), .val (.int p3), .val (.int na), .val (.int nb), .val (.double dx), .second, .val (.double dy), .second, .val (.long va), .second, .val (.long vb), .second, .unset] [(.int (XT.cmpL va vb))])) _
        refine XS.ifNo X0.here hx rfl (hb hby at_106) rfl ((if0 _ _).trans (tlt (own_gt d)).2.2.2) ?_
        show Steps p.tables e below (s₁.setTop (mkF m 109 #[.val (.int p1), .val (.int p2), .val (.int p3), .val (.int na), .val (.int nb), .val (.double dx), .second, .val (.double dy), .second, .val (.long va), .second, .val (.long vb), .second, .unset] [])) _
        refine XS.iconst X0.here hx rfl (hb hby at_109) ?_
        show Steps p.tables e below (s₁.setTop (mkF m 110 #[.val (.int p1), .val (.int p2), .val (.int p3), .val (.int na), .val (.int nb), .val (.double dx), .second, .val (.double dy), .second, .val (.long va), .second, .val (.long vb), .second, .unset] [(.int (1 : Int32))])) _
        refine XS.istore X0.here hx rfl (hb hby at_110) rfl (l' := #[.val (.int p1), .val (.int p2), .val (.int p3), .val (.int na), .val (.int nb), .val (.double dx), .second, .val (.double dy), .second, .val (.long va), .second, .val (.long vb), .second, .val (.int (1 : Int32))]) rfl ?_
        show Steps p.tables e below (s₁.setTop (mkF m 112 #[.val (.int p1), .val (.int p2), .val (.int p3), .val (.int na), .val (.int nb), .val (.double dx), .second, .val (.double dy), .second, .val (.long va), .second, .val (.long vb), .second, .val (.int (1 : Int32))] [])) _
        refine XS.goto X0.here hx rfl (pc0 := 112) (pc' := 118) rfl (hb hby at_112) (by decide) (by decide) ?_
        show Steps p.tables e below (s₁.setTop (mkF m 118 #[.val (.int p1), .val (.int p2), .val (.int p3), .val (.int na), .val (.int nb), .val (.double dx), .second, .val (.double dy), .second, .val (.long va), .second, .val (.long vb), .second, .val (.int (1 : Int32))] [])) _
        exact kk
      · rw [if_neg d] at h_ex; subst h_ex
        show Steps p.tables e below (s₁.setTop (mkF m 87 #[.val (.int p1), .val (.int p2), .val (.int p3), .val (.int na), .val (.int nb), .val (.double dx), .second, .val (.double dy), .second, .val (.long va), .second, .val (.long vb), .second, .unset] [])) _
        refine XT.lload X0.here hx rfl (hb hby at_87) rfl ?_
        show Steps p.tables e below (s₁.setTop (mkF m 89 #[.val (.int p1), .val (.int p2), .val (.int p3), .val (.int na), .val (.int nb), .val (.double dx), .second, .val (.double dy), .second, .val (.long va), .second, .val (.long vb), .second, .unset] [(.long va)])) _
        refine XT.lload X0.here hx rfl (hb hby at_89) rfl ?_
        show Steps p.tables e below (s₁.setTop (mkF m 91 #[.val (.int p1), .val (.int p2), .val (.int p3), .val (.int na), .val (.int nb), .val (.double dx), .second, .val (.double dy), .second, .val (.long va), .second, .val (.long vb), .second, .unset] [(.long vb), (.long va)])) _
        refine XT.lcmp X0.here hx rfl (hb hby at_91) rfl ?_
        show Steps p.tables e below (s₁.setTop (mkF m 92 #[.val (.int p1), .val (.int p2), .val (.int p3), .val (.int na), .val (.int nb), .val (.double dx), .second, .val (.double dy), .second, .val (.long va), .second, .val (.long vb), .second, .unset] [(.int (XT.cmpL va vb))])) _
        refine XS.ifYes X0.here hx rfl (pc0 := 92) (pc' := 101) rfl (hb hby at_92) rfl ((if0 _ _).trans (flt (own_nlt c)).2.1) (by decide) (by decide) ?_
        show Steps p.tables e below (s₁.setTop (mkF m 101 #[.val (.int p1), .val (.int p2), .val (.int p3), .val (.int na), .val (.int nb), .val (.double dx), .second, .val (.double dy), .second, .val (.long va), .second, .val (.long vb), .second, .unset] [])) _
        refine XT.lload X0.here hx rfl (hb hby at_101) rfl ?_
        show Steps p.tables e below (s₁.setTop (mkF m 103 #[.val (.int p1), .val (.int p2), .val (.int p3), .val (.int na), .val (.int nb), .val (.double dx), .second, .val (.double dy), .second, .val (.long va), .second, .val (.long vb), .second, .unset] [(.long va)])) _
        refine XT.lload X0.here hx rfl (hb hby at_103) rfl ?_
        show Steps p.tables e below (s₁.setTop (mkF m 105 #[.val (.int p1), .val (.int p2), .val (.int p3), .val (.int na), .val (.int nb), .val (.double dx), .second, .val (.double dy), .second, .val (.long va), .second, .val (.long vb), .second, .unset] [(.long vb), (.long va)])) _
        refine XT.lcmp X0.here hx rfl (hb hby at_105) rfl ?_
        show Steps p.tables e below (s₁.setTop (mkF m 106 #[.val (.int p1), .val (.int p2), .val (.int p3), .val (.int na), .val (.int nb), .val (.double dx), .second, .val (.double dy), .second, .val (.long va), .second, .val (.long vb), .second, .unset] [(.int (XT.cmpL va vb))])) _
        refine XS.ifYes X0.here hx rfl (pc0 := 106) (pc' := 115) rfl (hb hby at_106) rfl ((if0 _ _).trans (flt (own_ngt d)).2.2.2) (by decide) (by decide) ?_
        show Steps p.tables e below (s₁.setTop (mkF m 115 #[.val (.int p1), .val (.int p2), .val (.int p3), .val (.int na), .val (.int nb), .val (.double dx), .second, .val (.double dy), .second, .val (.long va), .second, .val (.long vb), .second, .unset] [])) _
        refine XS.iconst X0.here hx rfl (hb hby at_115) ?_
        show Steps p.tables e below (s₁.setTop (mkF m 116 #[.val (.int p1), .val (.int p2), .val (.int p3), .val (.int na), .val (.int nb), .val (.double dx), .second, .val (.double dy), .second, .val (.long va), .second, .val (.long vb), .second, .unset] [(.int (0 : Int32))])) _
        refine XS.istore X0.here hx rfl (hb hby at_116) rfl (l' := #[.val (.int p1), .val (.int p2), .val (.int p3), .val (.int na), .val (.int nb), .val (.double dx), .second, .val (.double dy), .second, .val (.long va), .second, .val (.long vb), .second, .val (.int (0 : Int32))]) rfl ?_
        show Steps p.tables e below (s₁.setTop (mkF m 118 #[.val (.int p1), .val (.int p2), .val (.int p3), .val (.int na), .val (.int nb), .val (.double dx), .second, .val (.double dy), .second, .val (.long va), .second, .val (.long vb), .second, .val (.int (0 : Int32))] [])) _
        exact kk
  have hx1 : FP.Core.DInt va.toInt dx := by rw [h_va, h_dx]; exact own_x p1 na
  have hy1 : FP.Core.DInt vb.toInt dy := by rw [h_vb, h_dy]; exact own_x p2 nb
  have hc (op : CmpOp) : cmpValue (FP.dcmp dx dy) op = ex := by
    rw [own_cmp hx1 hy1, h_ex]; simp only [Int64.lt_iff_toInt_lt]
  have h3 : ex = -1 ∨ ex = 0 ∨ ex = 1 := by rw [h_ex]; exact own_three va vb
  obtain ⟨_, _, ⟨T1, L1, k1, n1⟩, -, X1, ⟨Lc1, hQ1, l1, y1, z1⟩, st1⟩ := Jvm.LawKit.callS X0 hx (y := (⟨"ceylon/language/Float", "order", "(DD)I"⟩ : MethodName)) hown (mvT hZ (hw _ (List.mem_of_getElem? (i := 1) rfl))) (mvT hZ (hw _ (List.mem_of_getElem? (i := 2) rfl))) (mvT hZ (hw _ (List.mem_of_getElem? (i := 3) rfl))) (mvT hZ (hw _ (List.mem_of_getElem? (i := 4) rfl))) (by decide) (backOf (W := 0) (rm1 l Z a0 hw [] dx dy ex h0 n0 Z0 (hc .g) (hc .l) h3) hZ (hw _ (List.mem_of_getElem? (i := 4) rfl)) (hw _ (List.mem_of_getElem? (i := 3) rfl)) (by decide) (by decide)) (g := (mkF m 122 #[.val (.int p1), .val (.int p2), .val (.int p3), .val (.int na), .val (.int nb), .val (.double dx), .second, .val (.double dy), .second, .val (.long va), .second, .val (.long vb), .second, .val (.int ex)] [(.double dy), (.double dx)])) rfl (by rw [hml]; rfl) (argsL := [(.double dx), (.double dy)]) (rest := []) (lenOf pd1 rfl) rfl (by show 2 * 0 + _ ≤ _; exact Nat.le_of_eq rfl) (hb hby at_122) (fun _ _ => ⟨rfl, e0, (by decide : 0 + 0 ≤ _), (by decide : 0 + 0 ≤ _)⟩)
  dsimp only [Pt.U, Pt.locs, Pt.cells, Pt.slots] at X1 l1 y1 z1 st1 hQ1
  subst l1 y1 z1
  obtain ⟨rfl, N1, e1⟩ := hQ1
  have M1 := Fr.app N0 N1
  obtain ⟨fs, hr, hrun, hended, hW, hsame⟩ := X1.leave (v := some (.int (1 : Int32))) (fun h => by rw [Bd.returns] at h; cases h)
  refine ⟨_, _, pre0 _ ?_, hrun, hended, _, _, rfl, ?_, ⟨_, rfl⟩, hW, hsame.mono (by decide) (by decide)⟩
  · refine S1 _ (S2 _ (S3 _ (S4 _ (S5 _ (S6 _ (S7 _ ?_))))))
    show Steps p.tables e below (s₁.setTop (mkF m 118 #[.val (.int p1), .val (.int p2), .val (.int p3), .val (.int na), .val (.int nb), .val (.double dx), .second, .val (.double dy), .second, .val (.long va), .second, .val (.long vb), .second, .val (.int ex)] [])) _
    refine XS.dload X0.here hx rfl (hb hby at_118) rfl ?_
    show Steps p.tables e below (s₁.setTop (mkF m 120 #[.val (.int p1), .val (.int p2), .val (.int p3), .val (.int na), .val (.int nb), .val (.double dx), .second, .val (.double dy), .second, .val (.long va), .second, .val (.long vb), .second, .val (.int ex)] [(.double dx)])) _
    refine XS.dload X0.here hx rfl (hb hby at_120) rfl ?_
    show Steps p.tables e below (s₁.setTop (mkF m 122 #[.val (.int p1), .val (.int p2), .val (.int p3), .val (.int na), .val (.int nb), .val (.double dx), .second, .val (.double dy), .second, .val (.long va), .second, .val (.long vb), .second, .val (.int ex)] [(.double dy), (.double dx)])) _
    refine st1 _ ?_
    show Steps p.tables e below (T1.setTop (mkF m 125 #[.val (.int p1), .val (.int p2), .val (.int p3), .val (.int na), .val (.int nb), .val (.double dx), .second, .val (.double dy), .second, .val (.long va), .second, .val (.long vb), .second, .val (.int ex)] [(.int ex)])) _
    refine XS.iload X1.here hx rfl (hb hby at_125) rfl ?_
    show Steps p.tables e below (T1.setTop (mkF m 127 #[.val (.int p1), .val (.int p2), .val (.int p3), .val (.int na), .val (.int nb), .val (.double dx), .second, .val (.double dy), .second, .val (.long va), .second, .val (.long vb), .second, .val (.int ex)] [(.int ex), (.int ex)])) _
    refine XS.icmpNo X1.here hx rfl (hb hby at_127) rfl (teq (rfl : ex = ex)).2 ?_
    show Steps p.tables e below (T1.setTop (mkF m 130 #[.val (.int p1), .val (.int p2), .val (.int p3), .val (.int na), .val (.int nb), .val (.double dx), .second, .val (.double dy), .second, .val (.long va), .second, .val (.long vb), .second, .val (.int ex)] [])) _
    refine XS.iconst X1.here hx rfl (hb hby at_130) ?_
    show Steps p.tables e below (T1.setTop (mkF m 131 #[.val (.int p1), .val (.int p2), .val (.int p3), .val (.int na), .val (.int nb), .val (.double dx), .second, .val (.double dy), .second, .val (.long va), .second, .val (.long vb), .second, .val (.int ex)] [(.int (1 : Int32))])) _
    refine XS.goto X1.here hx rfl (pc0 := 131) (pc' := 135) rfl (hb hby at_131) (by decide) (by decide) ?_
    show Steps p.tables e below (T1.setTop (mkF m 135 #[.val (.int p1), .val (.int p2), .val (.int p3), .val (.int na), .val (.int nb), .val (.double dx), .second, .val (.double dy), .second, .val (.long va), .second, .val (.long vb), .second, .val (.int ex)] [(.int (1 : Int32))])) _
    exact retN X1 hx (t := .boolean) Bd.returns (by simp) (hb hby at_135) hr
  · show Q0 Z p1 p2 p3 h0 n0 _ T1.heap _
    exact ⟨rfl, M1⟩
set_option maxRecDepth 65536 in
set_option maxHeartbeats 40000000 in
theorem comes_1 {Post : Tables → Env → Array Value → State → Outcome → State → Prop} (hpost : ∀ tb e args s v u, (limb_1_1.after args s (.returned v) u = true ∧ limb_1_2.after args s (.returned v) u = true ∧ True) → FrameEnd s (.returned v) u (Jvm.fieldLocs frame_1_writes args s ++ Jvm.arrayLocs frame_1_arrays args s ++ Jvm.staticLocs frame_1_statics s) 0 0 → Post tb e args s (.returned v) u) :
    ArmFor flags0 classFile x code maxLocals ret World_1 tables_1 room_1 Calls_1 rest_1 Pre_1 Post := by
  intro l hfl _ _ p e ha hc hk s m args below hf hA hF happ hP
  obtain ⟨hcalls, hrest, hpre⟩ := hP
  obtain ⟨-, -, -, hnamed, -, -, -, hat⟩ := (Spec.applies_iff hf).mp happ
  obtain ⟨hg, hn⟩ := and_e (Cond.before_iff.mp (show (Jvm.Cond.and given_1 narrow_1).before args s = true from hpre))
  obtain ⟨h1, g0⟩ := and_e hg
  obtain ⟨q0, g1⟩ := and_e g0
  obtain ⟨q1, g2⟩ := and_e g1
  have q2 := g2
  obtain ⟨w0, w1, w2, rfl⟩ : ∃ w0 w1 w2 : Value, args = #[w0, w1, w2] := by
    have hs : args.size = 3 := by simpa [Cond.value, given_1] using h1
    obtain ⟨L⟩ := args
    match L, hs with
    | [w0, w1, w2], _ => exact ⟨w0, w1, w2, rfl⟩
  have hw := fun d (hd : d ∈ tables_1) => atoms_spec (ws := Jvm.Cond.code x code maxLocals ret :: tables_1) hat d (List.mem_cons_of_mem _ hd)
  obtain ⟨i0, v0⟩ := is_v q0
  obtain rfl : w0 = (.int i0) := Option.some.inj v0
  obtain ⟨i1, v1⟩ := is_v q1
  obtain rfl : w1 = (.int i1) := Option.some.inj v1
  obtain ⟨i2, v2⟩ := is_v q2
  obtain rfl : w2 = (.int i2) := Option.some.inj v2
  obtain ⟨n, o, h1, h2, h3, _, L, rfl, ⟨rfl, N⟩, hq⟩ := rm0 l s _ hw tables_1 i0 i1 i2 s.heap s.heap.size (Nat.le_refl _) p e ha hc hk s m _ below hf ((Spec.applies_iff_loose hf).mp happ).1 ⟨rfl, State.Warmed39.refl s, rfl⟩ trivial
  refine ⟨n, _, h1, h2, h3, hpost _ _ _ _ _ _ ⟨Cond.after_iff.mpr rfl, Cond.after_iff.mpr (eq_i res_at (Term.int_eval (1)) rfl), trivial⟩ ⟨hq.1, hq.2.1, (hq.2.2.sift fun y hy => Or.inr (N y hy)).mono (by decide) (by decide)⟩⟩
theorem main_1_1 : Claimed_1_1 := comes_1 fun _ _ _ _ _ _ h hF => ⟨h.1, hF⟩
theorem main_1_2 : Claimed_1_2 := comes_1 fun _ _ _ _ _ _ h hF => ⟨h.2.1, hF⟩
end Jvm.Pilot.@@N@@
namespace Jvm.Pilot.@@N@@
open Jvm Jvm.ClassFile Sem Op Lib Jvm.Free Jvm.Stand Jvm.Pilot.@@N@@.Jvm.D
/-! MADE BY PROGRAM (witnessworld.py) out of the Statement's table words and the real class files: 7 classes; the members and pool entries that the words name. The judged class is class 1, her method 1. -/
namespace start1
open Jvm.ClassFile
def u (s : String) : CpInfo := .utf8 (stringToUtf16 s)
/-- a pool by its gaps: so many unusable entries, then the entry; so many at the end -/
def gap : Nat → List CpInfo → List CpInfo
  | 0, r => r
  | n + 1, r => .unusable :: gap n r
def poolList (es : List (Nat × CpInfo)) (last : Nat) : List CpInfo := es.foldr (fun e r => gap e.1 (e.2 :: r)) (gap last [])
def pool (es : List (Nat × CpInfo)) (last : Nat) : Array CpInfo := ⟨poolList es last⟩
def fileOf (pool : Array CpInfo) (this : Nat) (attrs : Array Attribute := #[]) (ms : Array MethodInfo := #[]) (fl : Nat := 33) (sup : Nat := 0) (ifs : Array Nat := #[]) (fds : Array FieldInfo := #[]) : ClassFile where
  minorVersion := 0
  majorVersion := 65
  constantPool := pool
  accessFlags := fl
  thisClass := this
  superClass := sup
  interfaces := ifs
  fields := fds
  methods := ms
  attributes := attrs
def plain (name : String) (sup : Option ClassId) : Class where
  name := name
  kind := .ordinary
  loader := none
  accessFlags := 33
  super := sup
  interfaces := #[]
  cf := none
  fields := #[]
  methods := #[]
  instanceTypes := #[]
  staticTypes := #[]
  resolved := #[]
  callSites := []
  init := .initialized
  statics := none
  mirror := none

def pool0 : Array CpInfo := pool [(5, u "<init>"), (0, u "()V"), (1, .class_ 10), (1, u "java/lang/Object")] 113

def k0m0 : Method := { name := "<init>", desc := "()V", sig := { parameters := [], returnType := none }, accessFlags := 1, code := none }
/-- java/lang/Object -/
def k0 : Class := { plain "java/lang/Object" none with
  accessFlags := 33
  interfaces := #[]
  cf := some (fileOf pool0 8 #[] #[{ accessFlags := 1, nameIndex := 5, descriptorIndex := 6, attributes := #[] }] 33 0 #[] #[])
  fields := #[]
  methods := #[k0m0]
  instanceTypes := #[]
  staticTypes := #[]
  resolved := Array.replicate 124 none
  statics := none }

def pool1 : Array CpInfo := pool [(2, .class_ 4), (1, u "java/lang/Object"), (0, u "<init>"), (0, u "()V"), (0, .double 13830554455654793216), (1, .methodref 10 11), (0, .class_ 12), (0, .nameAndType 13 14), (0, u "ceylon/language/Float"), (0, u "order"), (0, u "(DD)I"), (0, .class_ 16), (0, u "ceylon/language/FloatOrderPinLaw"), (2, u "law"), (0, u "(III)Z")] 3

def k1m0 : Method := { name := "<init>", desc := "()V", sig := { parameters := [], returnType := none }, accessFlags := 2, code := none }
def k1c1 : Code := { maxStack := 4, maxLocals := 14, code := code, exceptionTable := #[], attributes := #[] }
def k1m1 : Method := { name := "law", desc := "(III)Z", sig := { parameters := [.int, .int, .int], returnType := some .boolean }, accessFlags := 9, code := some k1c1 }
/-- ceylon/language/FloatOrderPinLaw -/
def k1 : Class := { plain "ceylon/language/FloatOrderPinLaw" (some 0) with
  accessFlags := 49
  interfaces := #[]
  cf := some (fileOf pool1 15 #[] #[{ accessFlags := 2, nameIndex := 5, descriptorIndex := 6, attributes := #[] }, { accessFlags := 9, nameIndex := 19, descriptorIndex := 20, attributes := #[] }] 49 2 #[] #[])
  fields := #[]
  methods := #[k1m0, k1m1]
  instanceTypes := #[]
  staticTypes := #[]
  resolved := Array.replicate 24 none
  statics := none }

def pool2 : Array CpInfo := pool [(2, .class_ 4), (1, u "java/lang/Object"), (3, .class_ 10), (1, u "ceylon/language/Float"), (0, u "value"), (0, u "D"), (5, u "SHORTEST_IN_THE_JDK"), (0, u "Z"), (31, u "SMALLEST_PLAIN"), (0, u "Ljava/math/BigDecimal;"), (6, u "LARGEST_PLAIN"), (134, u "MOST_SIGNIFICANT_DIGITS"), (0, u "I"), (2, u "TWO_TO_THE_63"), (7, u "order"), (0, u "(DD)I")] 23

def k2c0 : Code := { maxStack := 4, maxLocals := 5, code := prog_10_method_9_code, exceptionTable := #[], attributes := #[] }
def k2m0 : Method := { name := "order", desc := "(DD)I", sig := { parameters := [.double, .double], returnType := some .int }, accessFlags := 9, code := some k2c0 }
/-- ceylon/language/Float -/
def k2 : Class := { plain "ceylon/language/Float" (some 0) with
  accessFlags := 49
  interfaces := #[]
  cf := some (fileOf pool2 8 #[] #[{ accessFlags := 9, nameIndex := 206, descriptorIndex := 207, attributes := #[] }] 49 2 #[] #[{ accessFlags := 26, nameIndex := 194, descriptorIndex := 195, attributes := #[] }, { accessFlags := 26, nameIndex := 51, descriptorIndex := 52, attributes := #[] }, { accessFlags := 26, nameIndex := 59, descriptorIndex := 52, attributes := #[] }, { accessFlags := 26, nameIndex := 18, descriptorIndex := 19, attributes := #[] }, { accessFlags := 26, nameIndex := 198, descriptorIndex := 12, attributes := #[] }, { accessFlags := 18, nameIndex := 11, descriptorIndex := 12, attributes := #[] }])
  fields := #[{ name := "MOST_SIGNIFICANT_DIGITS", type := .int, accessFlags := 26, slot := 0, constantValue := 0 }, { name := "SMALLEST_PLAIN", type := (.object "java/math/BigDecimal"), accessFlags := 26, slot := 1, constantValue := 0 }, { name := "LARGEST_PLAIN", type := (.object "java/math/BigDecimal"), accessFlags := 26, slot := 2, constantValue := 0 }, { name := "SHORTEST_IN_THE_JDK", type := .boolean, accessFlags := 26, slot := 3, constantValue := 0 }, { name := "TWO_TO_THE_63", type := .double, accessFlags := 26, slot := 4, constantValue := 0 }, { name := "value", type := .double, accessFlags := 18, slot := 0, constantValue := 0 }]
  methods := #[k2m0]
  instanceTypes := #[.double]
  staticTypes := #[.int, (.object "java/math/BigDecimal"), (.object "java/math/BigDecimal"), .boolean, .double]
  resolved := Array.replicate 231 none
  statics := none }

def pool3 : Array CpInfo := pool [(1, u "java/lang/Cloneable"), (0, .class_ 1), (0, u "java/lang/Object"), (0, .class_ 3)] 3

/-- java/lang/Cloneable -/
def k3 : Class := { plain "java/lang/Cloneable" (some 0) with
  accessFlags := 1537
  interfaces := #[]
  cf := some (fileOf pool3 2 #[] #[] 1537 4 #[] #[])
  fields := #[]
  methods := #[]
  instanceTypes := #[]
  staticTypes := #[]
  resolved := Array.replicate 8 none
  statics := none }

def pool4 : Array CpInfo := pool [(1, u "java/io/Serializable"), (0, .class_ 1), (0, u "java/lang/Object"), (0, .class_ 3)] 3

/-- java/io/Serializable -/
def k4 : Class := { plain "java/io/Serializable" (some 0) with
  accessFlags := 1537
  interfaces := #[]
  cf := some (fileOf pool4 2 #[] #[] 1537 4 #[] #[])
  fields := #[]
  methods := #[]
  instanceTypes := #[]
  staticTypes := #[]
  resolved := Array.replicate 8 none
  statics := none }

/-- the primitive byte -/
def k5 : Class := { plain "byte" none with kind := .primitive 'B', accessFlags := 0x411 }
/-- [B -/
def k6 : Class := { plain "[B" (some 0) with kind := .array 5 .byte, interfaces := #[3, 4], accessFlags := 1041 }

def heap : Heap := #[]
def classes : Array Class := #[k0, k1, k2, k3, k4, k5, k6]
def interned : List (Array UInt16 × Addr) := []
def slotsUsed : Nat := 0
def theMethod : MethodId := ⟨1, 1⟩
def args0 : Array Value := #[.int 5, .int 7, .int 0]
def aboutOver (below : List Frame) : State where
  vm := { classes := classes, interned := interned.toArray }
  heap := heap
  slotsUsed := slotsUsed
  threads := #[{ frames := .invoking theMethod args0 :: below }]
def below0 : List Frame := [.native { method := ⟨0, 0⟩, args := #[] }]
def about1 : State := aboutOver below0
def p0 : Program := .bare "" "" ""
def e0 : Env := launch0.env 0 0 0
theorem w_frames : about1.frames = Frame.invoking theMethod args0 :: below0 := rfl
set_option maxRecDepth 65536 in
theorem w_args : argsFit about1.vm theMethod args0 = true := by decide +kernel
set_option maxRecDepth 65536 in
theorem w_heap : heapFits about1 = true := by decide +kernel
set_option maxRecDepth 65536 in
theorem w_runnable : about1.curStatus? = some .runnable := by decide +kernel
set_option maxRecDepth 65536 in
theorem w_alone : about1.alone = true := by decide +kernel
set_option maxRecDepth 65536 in
theorem w_named : about1.methodNamed? x = some theMethod := by decide +kernel
set_option maxRecDepth 65536 in
theorem w_hears : about1.hears theMethod below0 = true := by decide +kernel
set_option maxRecDepth 65536 in
theorem w_ripe : about1.ripe theMethod args0 below0 = true := by decide +kernel
theorem w_running : about1.status = .running := rfl
set_option maxRecDepth 65536 in
theorem w_room : about1.hasRoom e0.platform room_1 = true :=
  launch0.hasRoom_least _ room_1 (by decide +kernel) (by decide +kernel) (by decide +kernel) (by decide +kernel) (by decide +kernel) (by decide +kernel)
theorem allAtoms_all (ts : List Jvm.Cond) (a : Array Jvm.Value) (st : Jvm.State) : (allAtoms ts).before a st = ts.all (fun c => c.before a st) := by
  induction ts with
  | nil => rfl
  | cons c t ih =>
    show (Jvm.Cond.and c (allAtoms t)).before a st = _
    rw [Jvm.Cond.before_and, ih, List.all_cons]
def words1 : List Jvm.Cond := Jvm.Cond.code x code maxLocals ret :: tables_1
/-- a 'code' word, met by the world's own term for the bytes: nothing is compared byte by byte -/
theorem code_word {y : MethodName} {bytes : ByteArray} {mx : Nat} {rt : Option FieldType} {a : Array Value} {s : State} {m : MethodId} {meth : Method} {c : Code} (h1 : s.methodNamed? y = some m) (h2 : s.vm.method? m = some meth) (h3 : meth.code = some c) (h4 : c.code = bytes)
    (h5 : (c.maxLocals == mx && c.exceptionTable.isEmpty && decide (c.maxStack ≤ mostOperands) && decide (meth.sig.returnType = rt) && !meth.locks && decide (parseMethodDescriptor y.desc = some meth.sig)) = true) : (Jvm.Cond.code y bytes mx rt).before a s = true := by
  simp only [Bool.and_eq_true, beq_iff_eq, Bool.not_eq_true', decide_eq_true_eq] at h5
  obtain ⟨⟨⟨⟨⟨g1, g2⟩, g3⟩, g4⟩, g5⟩, g6⟩ := h5
  simp [Cond.before, Cond.holds, Cond.value, h1, h2, h3, h4, g1, g2, g3, g4, g5, g6]
def isCode : Jvm.Cond → Bool
  | .code _ _ _ _ => true
  | _ => false
theorem all_split {L : List Jvm.Cond} {P : Jvm.Cond → Bool} (h1 : L.all (fun c => isCode c || P c) = true) (h2 : ∀ c ∈ L.filter isCode, P c = true) : L.all P = true := by
  refine List.all_eq_true.mpr fun c hc => ?_
  have h := List.all_eq_true.mp h1 c hc
  rcases Bool.eq_false_or_eq_true (isCode c) with hi | hi
  · exact h2 c (List.mem_filter.mpr ⟨hc, hi⟩)
  · simpa [hi] using h
set_option maxRecDepth 65536 in
theorem w_c0 : (Jvm.Cond.code x code maxLocals ret).before args0 about1 = true := code_word (m := ⟨1, 1⟩) (meth := k1m1) (c := k1c1) (by decide +kernel) rfl rfl rfl (by decide +kernel)
set_option maxRecDepth 65536 in
theorem w_c1 : (Jvm.Cond.code ({ cls := "ceylon/language/Float", name := "order", desc := "(DD)I" } : Jvm.MethodName) prog_10_method_9_code (5 : Nat) (Option.some Jvm.ClassFile.FieldType.int)).before args0 about1 = true := code_word (m := ⟨2, 0⟩) (meth := k2m0) (c := k2c0) (by decide +kernel) rfl rfl rfl (by decide +kernel)
def codes1 : List Jvm.Cond := [Jvm.Cond.code x code maxLocals ret, Jvm.Cond.code ({ cls := "ceylon/language/Float", name := "order", desc := "(DD)I" } : Jvm.MethodName) prog_10_method_9_code (5 : Nat) (Option.some Jvm.ClassFile.FieldType.int)]
set_option maxRecDepth 65536 in
theorem codes_eq : words1.filter isCode = codes1 := rfl
theorem w_codes : ∀ c ∈ words1.filter isCode, c.before args0 about1 = true := by
  rw [codes_eq]
  intro c hc
  simp only [codes1, List.mem_cons, List.not_mem_nil, or_false] at hc
  rcases hc with rfl | rfl
  · exact w_c0
  · exact w_c1
set_option maxRecDepth 65536 in
theorem w_t1 : words1.all (fun c => isCode c || c.before args0 about1) = true := by decide +kernel
theorem w_tables : (allAtoms (Jvm.Cond.code x code maxLocals ret :: tables_1)).before args0 about1 = true := by
  rw [allAtoms_all]
  show words1.all (fun c => c.before args0 about1) = true
  refine all_split ?_ w_codes
  rw [w_t1]
set_option maxRecDepth 65536 in
theorem w_case : (Jvm.Cond.and given_1 narrow_1).before args0 about1 = true := by decide +kernel
theorem w_applies : (headSpec (Jvm.Cond.code x code maxLocals ret :: tables_1) room_1).applies x e0.platform about1 = true :=
  (Spec.applies_iff w_frames).mpr ⟨w_running, w_runnable, w_alone, w_named, w_hears, w_ripe, w_room, w_tables⟩
theorem atStart : AtStart classFile x code maxLocals ret World_1 tables_1 room_1 Calls_1 rest_1 Pre_1 launch0 p0 e0 about1 theMethod args0 below0 :=
  ⟨lists_1, trivial, launch0.admits_env _ _ _, launch0.least_env, fairChoices_fair.cas, fairChoices_fair.clock, w_frames, w_args, w_heap, w_applies, trivial, trivial, w_case⟩
end start1
theorem witness_1 : WitnessClaimed_1 := ⟨start1.p0, start1.e0, start1.about1, start1.theMethod, start1.args0, start1.below0, start1.atStart⟩
end Jvm.Pilot.@@N@@
