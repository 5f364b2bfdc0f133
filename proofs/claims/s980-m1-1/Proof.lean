import JvmDerived
import JvmDerived.Pilot.@@N@@Statement
import JvmDerived.Pilot.@@N@@Code
set_option linter.unusedVariables false
set_option linter.unusedSimpArgs false
namespace Jvm.RoadKit
open Sem ClassFile Op Lib Jvm.Stand Jvm.Free Jvm.LawKit
section New
variable {p : Program} {l : Launch} {e : Env} {R : Room} {s : State} {m : MethodId} {args : Array Value} {below : List Frame} {meth : Method} {c : Code} {T : State} {locs : List Loc} {cells slots : Nat}
theorem retI (X : Stand p l e R s m args below meth c T locs cells slots) (hx : p.tables.exec = Jvm.exec) {pc : Nat} {Ls : Array Slot} {z : Int32} {rest : List Value} (hret : meth.sig.returnType = some .int) (hd : decode c.code pc = .ok (.ireturn, 1)) {fs : List Frame}
    (hl : ∀ (f : JFrame) (acts : List Action), f.method = m → f.locked = none → f.entered = [] → (doReturn e (T.setTop f) acts (some (.int z))).1 = T.setFrames fs) : Steps p.tables e below (T.setTop (mkF m pc Ls (.int z :: rest))) (T.setFrames fs) := by
  have hm' : T.vm.method? m = some meth := X.method'
  have hn : narrow .int (.int z) = .int z := rfl
  show Steps p.tables e below (T.setTop { method := m, pc := pc, locals := Ls, stack := _ :: rest, locked := none }) _
  jvm_step X.here [X.here.top, hx, hd, hm', hret, hn]
  first | (intro acts; rw [hl _ acts rfl rfl rfl]) | rw [hl _ _ rfl rfl rfl]
  exact Steps.refl _
end New
end Jvm.RoadKit
namespace Jvm.Pilot.@@N@@
open Jvm Jvm.ClassFile Sem Op Lib Jvm.Free Jvm.Stand Jvm.LawKit Jvm.RoadKit Bundle Jvm.Pilot.@@N@@.Jvm.D

/-- Java's x >>> k -/
def own_sh (x k : Int32) : Int32 := ((x.toUInt32 >>> (k &&& 31).toUInt32).toInt32)
def own_f16 (x : Int32) : Int32 := x ^^^ own_sh x 16
def own_f13 (x : Int32) : Int32 := x ^^^ own_sh x 13
def own_g13 (x : Int32) : Int32 := (x ^^^ own_sh x 13) ^^^ own_sh x 26
def own_s1 (x : Int32) : Int32 := own_f16 x * (-2048144789)
def own_s2 (x : Int32) : Int32 := own_f13 (own_s1 x) * (-1028477387)
def own_mix (x : Int32) : Int32 := own_f16 (own_s2 x)
def own_tag (x : Int32) : Int32 := if own_mix x = 0 ∨ own_mix x = 1 then own_mix x + 2 else own_mix x
def own_nt (c x : Int32) : Int32 := x * (2 - c * x)
def own_i1 (c : Int32) : Int32 := own_nt c c
def own_i2 (c : Int32) : Int32 := own_nt c (own_i1 c)
def own_i3 (c : Int32) : Int32 := own_nt c (own_i2 c)
def own_i4 (c : Int32) : Int32 := own_nt c (own_i3 c)
def own_inv (c : Int32) : Int32 := own_nt c (own_i4 c)
def own_u1 (x : Int32) : Int32 := own_f16 x * own_inv (-1028477387)
def own_u2 (x : Int32) : Int32 := own_g13 (own_u1 x) * own_inv (-2048144789)
def own_unmix (x : Int32) : Int32 := own_f16 (own_u2 x)
theorem own_bv16 (x : Int32) : (own_sh x 16).toBitVec = x.toBitVec >>> 16 := rfl
theorem own_bv13 (x : Int32) : (own_sh x 13).toBitVec = x.toBitVec >>> 13 := rfl
theorem own_bv26 (x : Int32) : (own_sh x 26).toBitVec = x.toBitVec >>> 26 := rfl
theorem own_ff16 (x : Int32) : own_f16 (own_f16 x) = x := by
  apply Int32.toBitVec_inj.mp
  unfold own_f16
  rw [Int32.toBitVec_xor, own_bv16, Int32.toBitVec_xor, own_bv16]
  apply BitVec.eq_of_getLsbD_eq
  intro i hi
  simp only [BitVec.getLsbD_xor, BitVec.getLsbD_ushiftRight]
  rw [BitVec.getLsbD_of_ge x.toBitVec (16 + (16 + i)) (by omega)]
  simp
theorem own_gf13 (x : Int32) : own_g13 (own_f13 x) = x := by
  apply Int32.toBitVec_inj.mp
  unfold own_g13 own_f13
  rw [Int32.toBitVec_xor, Int32.toBitVec_xor, own_bv13, own_bv26, Int32.toBitVec_xor, own_bv13]
  apply BitVec.eq_of_getLsbD_eq
  intro i hi
  simp only [BitVec.getLsbD_xor, BitVec.getLsbD_ushiftRight]
  rw [BitVec.getLsbD_of_ge x.toBitVec (13 + (26 + i)) (by omega), show 13 + (13 + i) = 26 + i by omega]
  cases x.toBitVec.getLsbD i <;> cases x.toBitVec.getLsbD (13 + i) <;> cases x.toBitVec.getLsbD (26 + i) <;> rfl
theorem own_back (x : Int32) : own_unmix (own_mix x) = x := by
  have c1 : ((-1028477387 : Int32)) * own_inv (-1028477387) = 1 := by decide +kernel
  have c2 : ((-2048144789 : Int32)) * own_inv (-2048144789) = 1 := by decide +kernel
  unfold own_unmix own_u2 own_u1 own_mix
  rw [own_ff16]
  unfold own_s2
  rw [Int32.mul_assoc, c1, Int32.mul_one, own_gf13]
  unfold own_s1
  rw [Int32.mul_assoc, c2, Int32.mul_one, own_ff16]
theorem own_tag_a {x : Int32} (h : own_mix x = 0 ∨ own_mix x = 1) : own_tag x = own_mix x + 2 := if_pos h
theorem own_tag_b {x : Int32} (h : ¬ (own_mix x = 0 ∨ own_mix x = 1)) : own_tag x = own_mix x := if_neg h
theorem own_t0 (x : Int32) : ¬ own_tag x = 0 := by
  by_cases h : own_mix x = 0 ∨ own_mix x = 1
  · rw [own_tag_a h]; rcases h with h | h <;> rw [h] <;> decide
  · rw [own_tag_b h]; exact fun q => h (Or.inl q)
theorem own_t1 (x : Int32) : ¬ own_tag x = 1 := by
  by_cases h : own_mix x = 0 ∨ own_mix x = 1
  · rw [own_tag_a h]; rcases h with h | h <;> rw [h] <;> decide
  · rw [own_tag_b h]; exact fun q => h (Or.inr q)
theorem own_t2 (x : Int32) : own_unmix (own_tag x) = x ∨ ((own_tag x = 2 ∨ own_tag x = 3) ∧ own_unmix (own_tag x - 2) = x) := by
  by_cases h : own_mix x = 0 ∨ own_mix x = 1
  · refine Or.inr ⟨?_, ?_⟩
    · rw [own_tag_a h]; rcases h with h | h <;> rw [h]
      · exact Or.inl (by decide)
      · exact Or.inr (by decide)
    · have e : own_tag x - 2 = own_mix x := by
        rw [own_tag_a h]; rcases h with h | h <;> rw [h] <;> decide
      rw [e, own_back]
  · rw [own_tag_b h, own_back]; exact Or.inl rfl

theorem d3_0 : decode method_3_code 0 = .ok (.iload_n 0, 1) := by decide +kernel
theorem d3_1 : decode method_3_code 1 = .ok (.istore_n 1, 1) := by decide +kernel
theorem d3_2 : decode method_3_code 2 = .ok (.iload_n 1, 1) := by decide +kernel
theorem d3_3 : decode method_3_code 3 = .ok (.iconst 2, 1) := by decide +kernel
theorem d3_4 : decode method_3_code 4 = .ok (.iload_n 0, 1) := by decide +kernel
theorem d3_5 : decode method_3_code 5 = .ok (.iload_n 1, 1) := by decide +kernel
theorem d3_6 : decode method_3_code 6 = .ok (.imul, 1) := by decide +kernel
theorem d3_7 : decode method_3_code 7 = .ok (.isub, 1) := by decide +kernel
theorem d3_8 : decode method_3_code 8 = .ok (.imul, 1) := by decide +kernel
theorem d3_9 : decode method_3_code 9 = .ok (.istore_n 1, 1) := by decide +kernel
theorem d3_10 : decode method_3_code 10 = .ok (.iload_n 1, 1) := by decide +kernel
theorem d3_11 : decode method_3_code 11 = .ok (.iconst 2, 1) := by decide +kernel
theorem d3_12 : decode method_3_code 12 = .ok (.iload_n 0, 1) := by decide +kernel
theorem d3_13 : decode method_3_code 13 = .ok (.iload_n 1, 1) := by decide +kernel
theorem d3_14 : decode method_3_code 14 = .ok (.imul, 1) := by decide +kernel
theorem d3_15 : decode method_3_code 15 = .ok (.isub, 1) := by decide +kernel
theorem d3_16 : decode method_3_code 16 = .ok (.imul, 1) := by decide +kernel
theorem d3_17 : decode method_3_code 17 = .ok (.istore_n 1, 1) := by decide +kernel
theorem d3_18 : decode method_3_code 18 = .ok (.iload_n 1, 1) := by decide +kernel
theorem d3_19 : decode method_3_code 19 = .ok (.iconst 2, 1) := by decide +kernel
theorem d3_20 : decode method_3_code 20 = .ok (.iload_n 0, 1) := by decide +kernel
theorem d3_21 : decode method_3_code 21 = .ok (.iload_n 1, 1) := by decide +kernel
theorem d3_22 : decode method_3_code 22 = .ok (.imul, 1) := by decide +kernel
theorem d3_23 : decode method_3_code 23 = .ok (.isub, 1) := by decide +kernel
theorem d3_24 : decode method_3_code 24 = .ok (.imul, 1) := by decide +kernel
theorem d3_25 : decode method_3_code 25 = .ok (.istore_n 1, 1) := by decide +kernel
theorem d3_26 : decode method_3_code 26 = .ok (.iload_n 1, 1) := by decide +kernel
theorem d3_27 : decode method_3_code 27 = .ok (.iconst 2, 1) := by decide +kernel
theorem d3_28 : decode method_3_code 28 = .ok (.iload_n 0, 1) := by decide +kernel
theorem d3_29 : decode method_3_code 29 = .ok (.iload_n 1, 1) := by decide +kernel
theorem d3_30 : decode method_3_code 30 = .ok (.imul, 1) := by decide +kernel
theorem d3_31 : decode method_3_code 31 = .ok (.isub, 1) := by decide +kernel
theorem d3_32 : decode method_3_code 32 = .ok (.imul, 1) := by decide +kernel
theorem d3_33 : decode method_3_code 33 = .ok (.istore_n 1, 1) := by decide +kernel
theorem d3_34 : decode method_3_code 34 = .ok (.iload_n 1, 1) := by decide +kernel
theorem d3_35 : decode method_3_code 35 = .ok (.iconst 2, 1) := by decide +kernel
theorem d3_36 : decode method_3_code 36 = .ok (.iload_n 0, 1) := by decide +kernel
theorem d3_37 : decode method_3_code 37 = .ok (.iload_n 1, 1) := by decide +kernel
theorem d3_38 : decode method_3_code 38 = .ok (.imul, 1) := by decide +kernel
theorem d3_39 : decode method_3_code 39 = .ok (.isub, 1) := by decide +kernel
theorem d3_40 : decode method_3_code 40 = .ok (.imul, 1) := by decide +kernel
theorem d3_41 : decode method_3_code 41 = .ok (.istore_n 1, 1) := by decide +kernel
theorem d3_42 : decode method_3_code 42 = .ok (.iload_n 1, 1) := by decide +kernel
theorem d3_43 : decode method_3_code 43 = .ok (.ireturn, 1) := by decide +kernel
theorem pn_3 : plainName "com/example/affinary/affinary/KeyIndexTagPinLaw" = true := by first | (simp [plainName, overriddenIn]; done) | decide +kernel
theorem ef_3 (m : MethodId) (x0 : Int32) : entryFrame m #[(.int x0)] 2 = mkF m 0 #[.val (.int x0), .unset] [] := by first | (simp [entryFrame, mkF, argsToLocals, Value.category]; done) | rfl
def Q3 (Z : State) (p1 : Int32) (h0 : Heap) (n0 : Nat) (v : Option Value) (h : Heap) (L : List Loc) : Prop := v = some (.int (own_inv p1)) ∧ Fr n0 L ∧ h = h0
set_option maxRecDepth 65536 in
set_option maxHeartbeats 40000000 in
theorem rm3 (l : Launch) (Z : State) (a0 : Array Value) (hw : ∀ d ∈ tables_1, d.before a0 Z = true) (ws : List Jvm.Cond) (p1 : Int32) (h0 : Heap) (n0 : Nat) (Z0 : n0 ≤ h0.size) :
    MetFree l (⟨"com/example/affinary/affinary/KeyIndexTagPinLaw", "inverse", "(I)I"⟩ : MethodName) (head1 (Jvm.Cond.code (⟨"com/example/affinary/affinary/KeyIndexTagPinLaw", "inverse", "(I)I"⟩ : MethodName) method_3_code 2 (some .int) :: ws) ({ frames := 0, cells := 0, slots := 0, locals := 0 } : Room)) (fun a U => a = #[(.int p1)] ∧ Z.Warmed39 U.vm ∧ U.heap = h0) (fun _ _ _ _ _ => True) (fun _ U o U' => ∃ v L, o = .returned v ∧ Q3 Z p1 h0 n0 v U'.heap L ∧ FrameEnd U o U' L ({ frames := 0, cells := 0, slots := 0, locals := 0 } : Room).cells ({ frames := 0, cells := 0, slots := 0, locals := 0 } : Room).slots) := by
  refine MetFree.of_bodySF (plainFor_of_name pn_3) hisR ?_
  intro p e s m args below meth c s₁ Bd hml0 hP hK
  obtain ⟨rfl, hZ, hh⟩ := hP
  have hx := Bd.exec
  have hby := Bd.bytes
  have hml : c.maxLocals = 2 := hml0
  have hown : s.vm.findClass "com/example/affinary/affinary/KeyIndexTagPinLaw" = some m.cls := findClass_of_methodNamed Bd.named
  have hnm := (name_of_methodNamed Bd.named Bd.method).1
  have X0 : Stand p l e ({ frames := 0, cells := 0, slots := 0, locals := 0 } : Room) s m #[(.int p1)] below meth c s₁ [] 0 0 := Stand.of_body Bd
  have e0 : s₁.heap = h0 := by rw [← hh, Bd.state]; rfl
  have N0 := Fr.nil n0
  have pre0 : ∀ t, Steps p.tables e below (s₁.setTop (mkF m 0 #[.val (.int p1), .unset] [])) t → Steps p.tables e below (s₁.setTop (entryFrame m #[(.int p1)] 2)) t := fun t k => castTop (ef_3 m p1) k
  obtain ⟨fs, hr, hrun, hended, hW, hsame⟩ := X0.leave (v := some (.int (own_inv p1))) (fun h => by rw [Bd.returns] at h; cases h)
  refine ⟨_, _, pre0 _ ?_, hrun, hended, _, _, rfl, ?_, ⟨_, rfl⟩, hW, hsame.mono (by decide) (by decide)⟩
  · show Steps p.tables e below (s₁.setTop (mkF m 0 #[.val (.int p1), .unset] [])) _
    refine XS.iloadN X0.here hx rfl (hb hby d3_0) rfl ?_
    show Steps p.tables e below (s₁.setTop (mkF m 1 #[.val (.int p1), .unset] [(.int p1)])) _
    refine XS.istoreN X0.here hx rfl (hb hby d3_1) rfl (l' := #[.val (.int p1), .val (.int p1)]) rfl ?_
    show Steps p.tables e below (s₁.setTop (mkF m 2 #[.val (.int p1), .val (.int p1)] [])) _
    refine XS.iloadN X0.here hx rfl (hb hby d3_2) rfl ?_
    show Steps p.tables e below (s₁.setTop (mkF m 3 #[.val (.int p1), .val (.int p1)] [(.int p1)])) _
    refine XS.iconst X0.here hx rfl (hb hby d3_3) ?_
    show Steps p.tables e below (s₁.setTop (mkF m 4 #[.val (.int p1), .val (.int p1)] [(.int (2 : Int32)), (.int p1)])) _
    refine XS.iloadN X0.here hx rfl (hb hby d3_4) rfl ?_
    show Steps p.tables e below (s₁.setTop (mkF m 5 #[.val (.int p1), .val (.int p1)] [(.int p1), (.int (2 : Int32)), (.int p1)])) _
    refine XS.iloadN X0.here hx rfl (hb hby d3_5) rfl ?_
    show Steps p.tables e below (s₁.setTop (mkF m 6 #[.val (.int p1), .val (.int p1)] [(.int p1), (.int p1), (.int (2 : Int32)), (.int p1)])) _
    refine XS.imul X0.here hx rfl (hb hby d3_6) rfl ?_
    show Steps p.tables e below (s₁.setTop (mkF m 7 #[.val (.int p1), .val (.int p1)] [(.int (p1 * p1)), (.int (2 : Int32)), (.int p1)])) _
    refine XS.isub X0.here hx rfl (hb hby d3_7) rfl ?_
    show Steps p.tables e below (s₁.setTop (mkF m 8 #[.val (.int p1), .val (.int p1)] [(.int ((2 : Int32) - (p1 * p1))), (.int p1)])) _
    refine XS.imul X0.here hx rfl (hb hby d3_8) rfl ?_
    show Steps p.tables e below (s₁.setTop (mkF m 9 #[.val (.int p1), .val (.int p1)] [(.int (own_i1 p1))])) _
    refine XS.istoreN X0.here hx rfl (hb hby d3_9) rfl (l' := #[.val (.int p1), .val (.int (own_i1 p1))]) rfl ?_
    show Steps p.tables e below (s₁.setTop (mkF m 10 #[.val (.int p1), .val (.int (own_i1 p1))] [])) _
    refine XS.iloadN X0.here hx rfl (hb hby d3_10) rfl ?_
    show Steps p.tables e below (s₁.setTop (mkF m 11 #[.val (.int p1), .val (.int (own_i1 p1))] [(.int (own_i1 p1))])) _
    refine XS.iconst X0.here hx rfl (hb hby d3_11) ?_
    show Steps p.tables e below (s₁.setTop (mkF m 12 #[.val (.int p1), .val (.int (own_i1 p1))] [(.int (2 : Int32)), (.int (own_i1 p1))])) _
    refine XS.iloadN X0.here hx rfl (hb hby d3_12) rfl ?_
    show Steps p.tables e below (s₁.setTop (mkF m 13 #[.val (.int p1), .val (.int (own_i1 p1))] [(.int p1), (.int (2 : Int32)), (.int (own_i1 p1))])) _
    refine XS.iloadN X0.here hx rfl (hb hby d3_13) rfl ?_
    show Steps p.tables e below (s₁.setTop (mkF m 14 #[.val (.int p1), .val (.int (own_i1 p1))] [(.int (own_i1 p1)), (.int p1), (.int (2 : Int32)), (.int (own_i1 p1))])) _
    refine XS.imul X0.here hx rfl (hb hby d3_14) rfl ?_
    show Steps p.tables e below (s₁.setTop (mkF m 15 #[.val (.int p1), .val (.int (own_i1 p1))] [(.int (p1 * (own_i1 p1))), (.int (2 : Int32)), (.int (own_i1 p1))])) _
    refine XS.isub X0.here hx rfl (hb hby d3_15) rfl ?_
    show Steps p.tables e below (s₁.setTop (mkF m 16 #[.val (.int p1), .val (.int (own_i1 p1))] [(.int ((2 : Int32) - (p1 * (own_i1 p1)))), (.int (own_i1 p1))])) _
    refine XS.imul X0.here hx rfl (hb hby d3_16) rfl ?_
    show Steps p.tables e below (s₁.setTop (mkF m 17 #[.val (.int p1), .val (.int (own_i1 p1))] [(.int (own_i2 p1))])) _
    refine XS.istoreN X0.here hx rfl (hb hby d3_17) rfl (l' := #[.val (.int p1), .val (.int (own_i2 p1))]) rfl ?_
    show Steps p.tables e below (s₁.setTop (mkF m 18 #[.val (.int p1), .val (.int (own_i2 p1))] [])) _
    refine XS.iloadN X0.here hx rfl (hb hby d3_18) rfl ?_
    show Steps p.tables e below (s₁.setTop (mkF m 19 #[.val (.int p1), .val (.int (own_i2 p1))] [(.int (own_i2 p1))])) _
    refine XS.iconst X0.here hx rfl (hb hby d3_19) ?_
    show Steps p.tables e below (s₁.setTop (mkF m 20 #[.val (.int p1), .val (.int (own_i2 p1))] [(.int (2 : Int32)), (.int (own_i2 p1))])) _
    refine XS.iloadN X0.here hx rfl (hb hby d3_20) rfl ?_
    show Steps p.tables e below (s₁.setTop (mkF m 21 #[.val (.int p1), .val (.int (own_i2 p1))] [(.int p1), (.int (2 : Int32)), (.int (own_i2 p1))])) _
    refine XS.iloadN X0.here hx rfl (hb hby d3_21) rfl ?_
    show Steps p.tables e below (s₁.setTop (mkF m 22 #[.val (.int p1), .val (.int (own_i2 p1))] [(.int (own_i2 p1)), (.int p1), (.int (2 : Int32)), (.int (own_i2 p1))])) _
    refine XS.imul X0.here hx rfl (hb hby d3_22) rfl ?_
    show Steps p.tables e below (s₁.setTop (mkF m 23 #[.val (.int p1), .val (.int (own_i2 p1))] [(.int (p1 * (own_i2 p1))), (.int (2 : Int32)), (.int (own_i2 p1))])) _
    refine XS.isub X0.here hx rfl (hb hby d3_23) rfl ?_
    show Steps p.tables e below (s₁.setTop (mkF m 24 #[.val (.int p1), .val (.int (own_i2 p1))] [(.int ((2 : Int32) - (p1 * (own_i2 p1)))), (.int (own_i2 p1))])) _
    refine XS.imul X0.here hx rfl (hb hby d3_24) rfl ?_
    show Steps p.tables e below (s₁.setTop (mkF m 25 #[.val (.int p1), .val (.int (own_i2 p1))] [(.int (own_i3 p1))])) _
    refine XS.istoreN X0.here hx rfl (hb hby d3_25) rfl (l' := #[.val (.int p1), .val (.int (own_i3 p1))]) rfl ?_
    show Steps p.tables e below (s₁.setTop (mkF m 26 #[.val (.int p1), .val (.int (own_i3 p1))] [])) _
    refine XS.iloadN X0.here hx rfl (hb hby d3_26) rfl ?_
    show Steps p.tables e below (s₁.setTop (mkF m 27 #[.val (.int p1), .val (.int (own_i3 p1))] [(.int (own_i3 p1))])) _
    refine XS.iconst X0.here hx rfl (hb hby d3_27) ?_
    show Steps p.tables e below (s₁.setTop (mkF m 28 #[.val (.int p1), .val (.int (own_i3 p1))] [(.int (2 : Int32)), (.int (own_i3 p1))])) _
    refine XS.iloadN X0.here hx rfl (hb hby d3_28) rfl ?_
    show Steps p.tables e below (s₁.setTop (mkF m 29 #[.val (.int p1), .val (.int (own_i3 p1))] [(.int p1), (.int (2 : Int32)), (.int (own_i3 p1))])) _
    refine XS.iloadN X0.here hx rfl (hb hby d3_29) rfl ?_
    show Steps p.tables e below (s₁.setTop (mkF m 30 #[.val (.int p1), .val (.int (own_i3 p1))] [(.int (own_i3 p1)), (.int p1), (.int (2 : Int32)), (.int (own_i3 p1))])) _
    refine XS.imul X0.here hx rfl (hb hby d3_30) rfl ?_
    show Steps p.tables e below (s₁.setTop (mkF m 31 #[.val (.int p1), .val (.int (own_i3 p1))] [(.int (p1 * (own_i3 p1))), (.int (2 : Int32)), (.int (own_i3 p1))])) _
    refine XS.isub X0.here hx rfl (hb hby d3_31) rfl ?_
    show Steps p.tables e below (s₁.setTop (mkF m 32 #[.val (.int p1), .val (.int (own_i3 p1))] [(.int ((2 : Int32) - (p1 * (own_i3 p1)))), (.int (own_i3 p1))])) _
    refine XS.imul X0.here hx rfl (hb hby d3_32) rfl ?_
    show Steps p.tables e below (s₁.setTop (mkF m 33 #[.val (.int p1), .val (.int (own_i3 p1))] [(.int (own_i4 p1))])) _
    refine XS.istoreN X0.here hx rfl (hb hby d3_33) rfl (l' := #[.val (.int p1), .val (.int (own_i4 p1))]) rfl ?_
    show Steps p.tables e below (s₁.setTop (mkF m 34 #[.val (.int p1), .val (.int (own_i4 p1))] [])) _
    refine XS.iloadN X0.here hx rfl (hb hby d3_34) rfl ?_
    show Steps p.tables e below (s₁.setTop (mkF m 35 #[.val (.int p1), .val (.int (own_i4 p1))] [(.int (own_i4 p1))])) _
    refine XS.iconst X0.here hx rfl (hb hby d3_35) ?_
    show Steps p.tables e below (s₁.setTop (mkF m 36 #[.val (.int p1), .val (.int (own_i4 p1))] [(.int (2 : Int32)), (.int (own_i4 p1))])) _
    refine XS.iloadN X0.here hx rfl (hb hby d3_36) rfl ?_
    show Steps p.tables e below (s₁.setTop (mkF m 37 #[.val (.int p1), .val (.int (own_i4 p1))] [(.int p1), (.int (2 : Int32)), (.int (own_i4 p1))])) _
    refine XS.iloadN X0.here hx rfl (hb hby d3_37) rfl ?_
    show Steps p.tables e below (s₁.setTop (mkF m 38 #[.val (.int p1), .val (.int (own_i4 p1))] [(.int (own_i4 p1)), (.int p1), (.int (2 : Int32)), (.int (own_i4 p1))])) _
    refine XS.imul X0.here hx rfl (hb hby d3_38) rfl ?_
    show Steps p.tables e below (s₁.setTop (mkF m 39 #[.val (.int p1), .val (.int (own_i4 p1))] [(.int (p1 * (own_i4 p1))), (.int (2 : Int32)), (.int (own_i4 p1))])) _
    refine XS.isub X0.here hx rfl (hb hby d3_39) rfl ?_
    show Steps p.tables e below (s₁.setTop (mkF m 40 #[.val (.int p1), .val (.int (own_i4 p1))] [(.int ((2 : Int32) - (p1 * (own_i4 p1)))), (.int (own_i4 p1))])) _
    refine XS.imul X0.here hx rfl (hb hby d3_40) rfl ?_
    show Steps p.tables e below (s₁.setTop (mkF m 41 #[.val (.int p1), .val (.int (own_i4 p1))] [(.int (own_inv p1))])) _
    refine XS.istoreN X0.here hx rfl (hb hby d3_41) rfl (l' := #[.val (.int p1), .val (.int (own_inv p1))]) rfl ?_
    show Steps p.tables e below (s₁.setTop (mkF m 42 #[.val (.int p1), .val (.int (own_inv p1))] [])) _
    refine XS.iloadN X0.here hx rfl (hb hby d3_42) rfl ?_
    show Steps p.tables e below (s₁.setTop (mkF m 43 #[.val (.int p1), .val (.int (own_inv p1))] [(.int (own_inv p1))])) _
    exact retI X0 hx Bd.returns (hb hby d3_43) hr
  · show Q3 Z p1 h0 n0 _ s₁.heap _
    rw [e0]
    exact ⟨rfl, N0, rfl⟩
theorem d2_0 : decode method_4_code 0 = .ok (.iload_n 0, 1) := by decide +kernel
theorem d2_1 : decode method_4_code 1 = .ok (.iload_n 0, 1) := by decide +kernel
theorem d2_2 : decode method_4_code 2 = .ok (.bipush 16, 2) := by decide +kernel
theorem d2_4 : decode method_4_code 4 = .ok (.iushr, 1) := by decide +kernel
theorem d2_5 : decode method_4_code 5 = .ok (.ixor, 1) := by decide +kernel
theorem d2_6 : decode method_4_code 6 = .ok (.istore_n 1, 1) := by decide +kernel
theorem d2_7 : decode method_4_code 7 = .ok (.iload_n 1, 1) := by decide +kernel
theorem d2_8 : decode method_4_code 8 = .ok (.ldc 18, 2) := by decide +kernel
theorem d2_10 : decode method_4_code 10 = .ok (.invokestatic 19, 3) := by decide +kernel
theorem d2_13 : decode method_4_code 13 = .ok (.imul, 1) := by decide +kernel
theorem d2_14 : decode method_4_code 14 = .ok (.istore_n 1, 1) := by decide +kernel
theorem d2_15 : decode method_4_code 15 = .ok (.iload_n 1, 1) := by decide +kernel
theorem d2_16 : decode method_4_code 16 = .ok (.iload_n 1, 1) := by decide +kernel
theorem d2_17 : decode method_4_code 17 = .ok (.bipush 13, 2) := by decide +kernel
theorem d2_19 : decode method_4_code 19 = .ok (.iushr, 1) := by decide +kernel
theorem d2_20 : decode method_4_code 20 = .ok (.ixor, 1) := by decide +kernel
theorem d2_21 : decode method_4_code 21 = .ok (.iload_n 1, 1) := by decide +kernel
theorem d2_22 : decode method_4_code 22 = .ok (.bipush 26, 2) := by decide +kernel
theorem d2_24 : decode method_4_code 24 = .ok (.iushr, 1) := by decide +kernel
theorem d2_25 : decode method_4_code 25 = .ok (.ixor, 1) := by decide +kernel
theorem d2_26 : decode method_4_code 26 = .ok (.istore_n 1, 1) := by decide +kernel
theorem d2_27 : decode method_4_code 27 = .ok (.iload_n 1, 1) := by decide +kernel
theorem d2_28 : decode method_4_code 28 = .ok (.ldc 22, 2) := by decide +kernel
theorem d2_30 : decode method_4_code 30 = .ok (.invokestatic 19, 3) := by decide +kernel
theorem d2_33 : decode method_4_code 33 = .ok (.imul, 1) := by decide +kernel
theorem d2_34 : decode method_4_code 34 = .ok (.istore_n 1, 1) := by decide +kernel
theorem d2_35 : decode method_4_code 35 = .ok (.iload_n 1, 1) := by decide +kernel
theorem d2_36 : decode method_4_code 36 = .ok (.iload_n 1, 1) := by decide +kernel
theorem d2_37 : decode method_4_code 37 = .ok (.bipush 16, 2) := by decide +kernel
theorem d2_39 : decode method_4_code 39 = .ok (.iushr, 1) := by decide +kernel
theorem d2_40 : decode method_4_code 40 = .ok (.ixor, 1) := by decide +kernel
theorem d2_41 : decode method_4_code 41 = .ok (.istore_n 1, 1) := by decide +kernel
theorem d2_42 : decode method_4_code 42 = .ok (.iload_n 1, 1) := by decide +kernel
theorem d2_43 : decode method_4_code 43 = .ok (.ireturn, 1) := by decide +kernel
theorem own_pd0 : parseMethodDescriptor "(I)I" = some ⟨[.int], some .int⟩ := by decide +kernel
theorem pn_2 : plainName "com/example/affinary/affinary/KeyIndexTagPinLaw" = true := by first | (simp [plainName, overriddenIn]; done) | decide +kernel
theorem ef_2 (m : MethodId) (x0 : Int32) : entryFrame m #[(.int x0)] 2 = mkF m 0 #[.val (.int x0), .unset] [] := by first | (simp [entryFrame, mkF, argsToLocals, Value.category]; done) | rfl
def Q2 (Z : State) (p1 : Int32) (h0 : Heap) (n0 : Nat) (v : Option Value) (h : Heap) (L : List Loc) : Prop := v = some (.int (own_unmix p1)) ∧ Fr n0 L ∧ h = h0
set_option maxRecDepth 65536 in
set_option maxHeartbeats 40000000 in
theorem rm2 (l : Launch) (Z : State) (a0 : Array Value) (hw : ∀ d ∈ tables_1, d.before a0 Z = true) (ws : List Jvm.Cond) (p1 : Int32) (h0 : Heap) (n0 : Nat) (Z0 : n0 ≤ h0.size) :
    MetFree l (⟨"com/example/affinary/affinary/KeyIndexTagPinLaw", "unmix", "(I)I"⟩ : MethodName) (head1 (Jvm.Cond.code (⟨"com/example/affinary/affinary/KeyIndexTagPinLaw", "unmix", "(I)I"⟩ : MethodName) method_4_code 2 (some .int) :: ws) ({ frames := 1, cells := 0, slots := 0, locals := 14 } : Room)) (fun a U => a = #[(.int p1)] ∧ Z.Warmed39 U.vm ∧ U.heap = h0) (fun _ _ _ _ _ => True) (fun _ U o U' => ∃ v L, o = .returned v ∧ Q2 Z p1 h0 n0 v U'.heap L ∧ FrameEnd U o U' L ({ frames := 1, cells := 0, slots := 0, locals := 14 } : Room).cells ({ frames := 1, cells := 0, slots := 0, locals := 14 } : Room).slots) := by
  refine MetFree.of_bodySF (plainFor_of_name pn_2) hisR ?_
  intro p e s m args below meth c s₁ Bd hml0 hP hK
  obtain ⟨rfl, hZ, hh⟩ := hP
  have hx := Bd.exec
  have hby := Bd.bytes
  have hml : c.maxLocals = 2 := hml0
  have hown : s.vm.findClass "com/example/affinary/affinary/KeyIndexTagPinLaw" = some m.cls := findClass_of_methodNamed Bd.named
  have hnm := (name_of_methodNamed Bd.named Bd.method).1
  have X0 : Stand p l e ({ frames := 1, cells := 0, slots := 0, locals := 14 } : Room) s m #[(.int p1)] below meth c s₁ [] 0 0 := Stand.of_body Bd
  have e0 : s₁.heap = h0 := by rw [← hh, Bd.state]; rfl
  have N0 := Fr.nil n0
  have pre0 : ∀ t, Steps p.tables e below (s₁.setTop (mkF m 0 #[.val (.int p1), .unset] [])) t → Steps p.tables e below (s₁.setTop (entryFrame m #[(.int p1)] 2)) t := fun t k => castTop (ef_2 m p1) k
  obtain ⟨_, _, ⟨T2, L2, k2, n2⟩, -, X2, ⟨Lc2, hQ2, l2, y2, z2⟩, st2⟩ := Jvm.LawKit.callS X0 hx (y := (⟨"com/example/affinary/affinary/KeyIndexTagPinLaw", "inverse", "(I)I"⟩ : MethodName)) hown (mvT hZ (hw _ (List.mem_of_getElem? (i := 11) rfl))) (mvT hZ (hw _ (List.mem_of_getElem? (i := 12) rfl))) (mvT hZ (hw _ (List.mem_of_getElem? (i := 8) rfl))) (mvT hZ (hw _ (List.mem_of_getElem? (i := 13) rfl))) (by decide) (backOf (W := 1) (rm3 l Z a0 hw [] (-1028477387 : Int32) h0 n0 Z0) hZ (hw _ (List.mem_of_getElem? (i := 13) rfl)) (hw _ (List.mem_of_getElem? (i := 8) rfl)) (by decide) (by decide)) (g := (mkF m 10 #[.val (.int p1), .val (.int (own_f16 p1))] [(.int (-1028477387 : Int32)), (.int (own_f16 p1))])) rfl (by rw [hml]; rfl) (argsL := [(.int (-1028477387 : Int32))]) (rest := [(.int (own_f16 p1))]) (lenOf own_pd0 rfl) rfl (by show 2 * 0 + _ ≤ _; exact Nat.le_of_eq rfl) (hb hby d2_10) (fun _ _ => ⟨rfl, e0, (by decide : 0 + 0 ≤ _), (by decide : 0 + 0 ≤ _)⟩)
  dsimp only [Pt.U, Pt.locs, Pt.cells, Pt.slots] at X2 l2 y2 z2 st2 hQ2
  subst l2 y2 z2
  obtain ⟨rfl, N2q, e2⟩ := hQ2
  have N2 := Fr.app N0 N2q
  have Z2 : n0 ≤ T2.heap.size := by rw [e2]; exact Z0
  obtain ⟨_, _, ⟨T3, L3, k3, n3⟩, -, X3, ⟨Lc3, hQ3, l3, y3, z3⟩, st3⟩ := Jvm.LawKit.callS X2 hx (y := (⟨"com/example/affinary/affinary/KeyIndexTagPinLaw", "inverse", "(I)I"⟩ : MethodName)) hown (mvT hZ (hw _ (List.mem_of_getElem? (i := 11) rfl))) (mvT hZ (hw _ (List.mem_of_getElem? (i := 12) rfl))) (mvT hZ (hw _ (List.mem_of_getElem? (i := 8) rfl))) (mvT hZ (hw _ (List.mem_of_getElem? (i := 13) rfl))) (by decide) (backOf (W := 1) (rm3 l Z a0 hw [] (-2048144789 : Int32) T2.heap n0 Z2) hZ (hw _ (List.mem_of_getElem? (i := 13) rfl)) (hw _ (List.mem_of_getElem? (i := 8) rfl)) (by decide) (by decide)) (g := (mkF m 30 #[.val (.int p1), .val (.int (own_g13 (own_u1 p1)))] [(.int (-2048144789 : Int32)), (.int (own_g13 (own_u1 p1)))])) rfl (by rw [hml]; rfl) (argsL := [(.int (-2048144789 : Int32))]) (rest := [(.int (own_g13 (own_u1 p1)))]) (lenOf own_pd0 rfl) rfl (by show 2 * 0 + _ ≤ _; exact Nat.le_of_eq rfl) (hb hby d2_30) (fun _ _ => ⟨rfl, rfl, (by decide : 0 + 0 ≤ _), (by decide : 0 + 0 ≤ _)⟩)
  dsimp only [Pt.U, Pt.locs, Pt.cells, Pt.slots] at X3 l3 y3 z3 st3 hQ3
  subst l3 y3 z3
  obtain ⟨rfl, N3q, e3⟩ := hQ3
  have N3 := Fr.app N2 N3q
  obtain ⟨fs, hr, hrun, hended, hW, hsame⟩ := X3.leave (v := some (.int (own_unmix p1))) (fun h => by rw [Bd.returns] at h; cases h)
  refine ⟨_, _, pre0 _ ?_, hrun, hended, _, _, rfl, ?_, ⟨_, rfl⟩, hW, hsame.mono (by decide) (by decide)⟩
  · show Steps p.tables e below (s₁.setTop (mkF m 0 #[.val (.int p1), .unset] [])) _
    refine XS.iloadN X0.here hx rfl (hb hby d2_0) rfl ?_
    show Steps p.tables e below (s₁.setTop (mkF m 1 #[.val (.int p1), .unset] [(.int p1)])) _
    refine XS.iloadN X0.here hx rfl (hb hby d2_1) rfl ?_
    show Steps p.tables e below (s₁.setTop (mkF m 2 #[.val (.int p1), .unset] [(.int p1), (.int p1)])) _
    refine XS.bipush X0.here hx rfl (hb hby d2_2) ?_
    show Steps p.tables e below (s₁.setTop (mkF m 4 #[.val (.int p1), .unset] [(.int (16 : Int32)), (.int p1), (.int p1)])) _
    refine XS.iushr X0.here hx rfl (hb hby d2_4) rfl ?_
    show Steps p.tables e below (s₁.setTop (mkF m 5 #[.val (.int p1), .unset] [(.int (own_sh p1 16)), (.int p1)])) _
    refine XS.ixor X0.here hx rfl (hb hby d2_5) rfl ?_
    show Steps p.tables e below (s₁.setTop (mkF m 6 #[.val (.int p1), .unset] [(.int (own_f16 p1))])) _
    refine XS.istoreN X0.here hx rfl (hb hby d2_6) rfl (l' := #[.val (.int p1), .val (.int (own_f16 p1))]) rfl ?_
    show Steps p.tables e below (s₁.setTop (mkF m 7 #[.val (.int p1), .val (.int (own_f16 p1))] [])) _
    refine XS.iloadN X0.here hx rfl (hb hby d2_7) rfl ?_
    show Steps p.tables e below (s₁.setTop (mkF m 8 #[.val (.int p1), .val (.int (own_f16 p1))] [(.int (own_f16 p1))])) _
    refine X0.ldcInt hx hown (mvT hZ (hw _ (List.mem_of_getElem? (i := 10) rfl))) (g := (mkF m 8 #[.val (.int p1), .val (.int (own_f16 p1))] [(.int (own_f16 p1))])) rfl (hb hby d2_8) _ ?_
    show Steps p.tables e below (s₁.setTop (mkF m 10 #[.val (.int p1), .val (.int (own_f16 p1))] [(.int (-1028477387 : Int32)), (.int (own_f16 p1))])) _
    refine st2 _ ?_
    show Steps p.tables e below (T2.setTop (mkF m 13 #[.val (.int p1), .val (.int (own_f16 p1))] [(.int (own_inv (-1028477387 : Int32))), (.int (own_f16 p1))])) _
    refine XS.imul X2.here hx rfl (hb hby d2_13) rfl ?_
    show Steps p.tables e below (T2.setTop (mkF m 14 #[.val (.int p1), .val (.int (own_f16 p1))] [(.int (own_u1 p1))])) _
    refine XS.istoreN X2.here hx rfl (hb hby d2_14) rfl (l' := #[.val (.int p1), .val (.int (own_u1 p1))]) rfl ?_
    show Steps p.tables e below (T2.setTop (mkF m 15 #[.val (.int p1), .val (.int (own_u1 p1))] [])) _
    refine XS.iloadN X2.here hx rfl (hb hby d2_15) rfl ?_
    show Steps p.tables e below (T2.setTop (mkF m 16 #[.val (.int p1), .val (.int (own_u1 p1))] [(.int (own_u1 p1))])) _
    refine XS.iloadN X2.here hx rfl (hb hby d2_16) rfl ?_
    show Steps p.tables e below (T2.setTop (mkF m 17 #[.val (.int p1), .val (.int (own_u1 p1))] [(.int (own_u1 p1)), (.int (own_u1 p1))])) _
    refine XS.bipush X2.here hx rfl (hb hby d2_17) ?_
    show Steps p.tables e below (T2.setTop (mkF m 19 #[.val (.int p1), .val (.int (own_u1 p1))] [(.int (13 : Int32)), (.int (own_u1 p1)), (.int (own_u1 p1))])) _
    refine XS.iushr X2.here hx rfl (hb hby d2_19) rfl ?_
    show Steps p.tables e below (T2.setTop (mkF m 20 #[.val (.int p1), .val (.int (own_u1 p1))] [(.int (own_sh (own_u1 p1) 13)), (.int (own_u1 p1))])) _
    refine XS.ixor X2.here hx rfl (hb hby d2_20) rfl ?_
    show Steps p.tables e below (T2.setTop (mkF m 21 #[.val (.int p1), .val (.int (own_u1 p1))] [(.int ((own_u1 p1) ^^^ (own_sh (own_u1 p1) 13)))])) _
    refine XS.iloadN X2.here hx rfl (hb hby d2_21) rfl ?_
    show Steps p.tables e below (T2.setTop (mkF m 22 #[.val (.int p1), .val (.int (own_u1 p1))] [(.int (own_u1 p1)), (.int ((own_u1 p1) ^^^ (own_sh (own_u1 p1) 13)))])) _
    refine XS.bipush X2.here hx rfl (hb hby d2_22) ?_
    show Steps p.tables e below (T2.setTop (mkF m 24 #[.val (.int p1), .val (.int (own_u1 p1))] [(.int (26 : Int32)), (.int (own_u1 p1)), (.int ((own_u1 p1) ^^^ (own_sh (own_u1 p1) 13)))])) _
    refine XS.iushr X2.here hx rfl (hb hby d2_24) rfl ?_
    show Steps p.tables e below (T2.setTop (mkF m 25 #[.val (.int p1), .val (.int (own_u1 p1))] [(.int (own_sh (own_u1 p1) 26)), (.int ((own_u1 p1) ^^^ (own_sh (own_u1 p1) 13)))])) _
    refine XS.ixor X2.here hx rfl (hb hby d2_25) rfl ?_
    show Steps p.tables e below (T2.setTop (mkF m 26 #[.val (.int p1), .val (.int (own_u1 p1))] [(.int (own_g13 (own_u1 p1)))])) _
    refine XS.istoreN X2.here hx rfl (hb hby d2_26) rfl (l' := #[.val (.int p1), .val (.int (own_g13 (own_u1 p1)))]) rfl ?_
    show Steps p.tables e below (T2.setTop (mkF m 27 #[.val (.int p1), .val (.int (own_g13 (own_u1 p1)))] [])) _
    refine XS.iloadN X2.here hx rfl (hb hby d2_27) rfl ?_
    show Steps p.tables e below (T2.setTop (mkF m 28 #[.val (.int p1), .val (.int (own_g13 (own_u1 p1)))] [(.int (own_g13 (own_u1 p1)))])) _
    refine X2.ldcInt hx hown (mvT hZ (hw _ (List.mem_of_getElem? (i := 14) rfl))) (g := (mkF m 28 #[.val (.int p1), .val (.int (own_g13 (own_u1 p1)))] [(.int (own_g13 (own_u1 p1)))])) rfl (hb hby d2_28) _ ?_
    show Steps p.tables e below (T2.setTop (mkF m 30 #[.val (.int p1), .val (.int (own_g13 (own_u1 p1)))] [(.int (-2048144789 : Int32)), (.int (own_g13 (own_u1 p1)))])) _
    refine st3 _ ?_
    show Steps p.tables e below (T3.setTop (mkF m 33 #[.val (.int p1), .val (.int (own_g13 (own_u1 p1)))] [(.int (own_inv (-2048144789 : Int32))), (.int (own_g13 (own_u1 p1)))])) _
    refine XS.imul X3.here hx rfl (hb hby d2_33) rfl ?_
    show Steps p.tables e below (T3.setTop (mkF m 34 #[.val (.int p1), .val (.int (own_g13 (own_u1 p1)))] [(.int (own_u2 p1))])) _
    refine XS.istoreN X3.here hx rfl (hb hby d2_34) rfl (l' := #[.val (.int p1), .val (.int (own_u2 p1))]) rfl ?_
    show Steps p.tables e below (T3.setTop (mkF m 35 #[.val (.int p1), .val (.int (own_u2 p1))] [])) _
    refine XS.iloadN X3.here hx rfl (hb hby d2_35) rfl ?_
    show Steps p.tables e below (T3.setTop (mkF m 36 #[.val (.int p1), .val (.int (own_u2 p1))] [(.int (own_u2 p1))])) _
    refine XS.iloadN X3.here hx rfl (hb hby d2_36) rfl ?_
    show Steps p.tables e below (T3.setTop (mkF m 37 #[.val (.int p1), .val (.int (own_u2 p1))] [(.int (own_u2 p1)), (.int (own_u2 p1))])) _
    refine XS.bipush X3.here hx rfl (hb hby d2_37) ?_
    show Steps p.tables e below (T3.setTop (mkF m 39 #[.val (.int p1), .val (.int (own_u2 p1))] [(.int (16 : Int32)), (.int (own_u2 p1)), (.int (own_u2 p1))])) _
    refine XS.iushr X3.here hx rfl (hb hby d2_39) rfl ?_
    show Steps p.tables e below (T3.setTop (mkF m 40 #[.val (.int p1), .val (.int (own_u2 p1))] [(.int (own_sh (own_u2 p1) 16)), (.int (own_u2 p1))])) _
    refine XS.ixor X3.here hx rfl (hb hby d2_40) rfl ?_
    show Steps p.tables e below (T3.setTop (mkF m 41 #[.val (.int p1), .val (.int (own_u2 p1))] [(.int (own_unmix p1))])) _
    refine XS.istoreN X3.here hx rfl (hb hby d2_41) rfl (l' := #[.val (.int p1), .val (.int (own_unmix p1))]) rfl ?_
    show Steps p.tables e below (T3.setTop (mkF m 42 #[.val (.int p1), .val (.int (own_unmix p1))] [])) _
    refine XS.iloadN X3.here hx rfl (hb hby d2_42) rfl ?_
    show Steps p.tables e below (T3.setTop (mkF m 43 #[.val (.int p1), .val (.int (own_unmix p1))] [(.int (own_unmix p1))])) _
    exact retI X3 hx Bd.returns (hb hby d2_43) hr
  · show Q2 Z p1 h0 n0 _ T3.heap _
    exact ⟨rfl, N3, e3.trans e2⟩
theorem d1_0 : decode prog_226_method_16_code 0 = .ok (.iload_n 0, 1) := by decide +kernel
theorem d1_1 : decode prog_226_method_16_code 1 = .ok (.iload_n 0, 1) := by decide +kernel
theorem d1_2 : decode prog_226_method_16_code 2 = .ok (.bipush 16, 2) := by decide +kernel
theorem d1_4 : decode prog_226_method_16_code 4 = .ok (.iushr, 1) := by decide +kernel
theorem d1_5 : decode prog_226_method_16_code 5 = .ok (.ixor, 1) := by decide +kernel
theorem d1_6 : decode prog_226_method_16_code 6 = .ok (.ldc 157, 2) := by decide +kernel
theorem d1_8 : decode prog_226_method_16_code 8 = .ok (.imul, 1) := by decide +kernel
theorem d1_9 : decode prog_226_method_16_code 9 = .ok (.istore_n 1, 1) := by decide +kernel
theorem d1_10 : decode prog_226_method_16_code 10 = .ok (.iload_n 1, 1) := by decide +kernel
theorem d1_11 : decode prog_226_method_16_code 11 = .ok (.iload_n 1, 1) := by decide +kernel
theorem d1_12 : decode prog_226_method_16_code 12 = .ok (.bipush 13, 2) := by decide +kernel
theorem d1_14 : decode prog_226_method_16_code 14 = .ok (.iushr, 1) := by decide +kernel
theorem d1_15 : decode prog_226_method_16_code 15 = .ok (.ixor, 1) := by decide +kernel
theorem d1_16 : decode prog_226_method_16_code 16 = .ok (.ldc 158, 2) := by decide +kernel
theorem d1_18 : decode prog_226_method_16_code 18 = .ok (.imul, 1) := by decide +kernel
theorem d1_19 : decode prog_226_method_16_code 19 = .ok (.istore_n 1, 1) := by decide +kernel
theorem d1_20 : decode prog_226_method_16_code 20 = .ok (.iload_n 1, 1) := by decide +kernel
theorem d1_21 : decode prog_226_method_16_code 21 = .ok (.iload_n 1, 1) := by decide +kernel
theorem d1_22 : decode prog_226_method_16_code 22 = .ok (.bipush 16, 2) := by decide +kernel
theorem d1_24 : decode prog_226_method_16_code 24 = .ok (.iushr, 1) := by decide +kernel
theorem d1_25 : decode prog_226_method_16_code 25 = .ok (.ixor, 1) := by decide +kernel
theorem d1_26 : decode prog_226_method_16_code 26 = .ok (.istore_n 1, 1) := by decide +kernel
theorem d1_27 : decode prog_226_method_16_code 27 = .ok (.iload_n 1, 1) := by decide +kernel
theorem d1_28 : decode prog_226_method_16_code 28 = .ok (.ifCond .eq 8, 3) := by decide +kernel
theorem d1_31 : decode prog_226_method_16_code 31 = .ok (.iload_n 1, 1) := by decide +kernel
theorem d1_32 : decode prog_226_method_16_code 32 = .ok (.iconst 1, 1) := by decide +kernel
theorem d1_33 : decode prog_226_method_16_code 33 = .ok (.if_icmp .ne 9, 3) := by decide +kernel
theorem d1_36 : decode prog_226_method_16_code 36 = .ok (.iload_n 1, 1) := by decide +kernel
theorem d1_37 : decode prog_226_method_16_code 37 = .ok (.iconst 2, 1) := by decide +kernel
theorem d1_38 : decode prog_226_method_16_code 38 = .ok (.iadd, 1) := by decide +kernel
theorem d1_39 : decode prog_226_method_16_code 39 = .ok (.goto 4, 3) := by decide +kernel
theorem d1_42 : decode prog_226_method_16_code 42 = .ok (.iload_n 1, 1) := by decide +kernel
theorem d1_43 : decode prog_226_method_16_code 43 = .ok (.ireturn, 1) := by decide +kernel
theorem pn_1 : plainName "com/example/affinary/affinary/KeyIndex" = true := by first | (simp [plainName, overriddenIn]; done) | decide +kernel
theorem ef_1 (m : MethodId) (x0 : Int32) : entryFrame m #[(.int x0)] 2 = mkF m 0 #[.val (.int x0), .unset] [] := by first | (simp [entryFrame, mkF, argsToLocals, Value.category]; done) | rfl
def Q1 (Z : State) (p1 : Int32) (h0 : Heap) (n0 : Nat) (v : Option Value) (h : Heap) (L : List Loc) : Prop := v = some (.int (own_tag p1)) ∧ Fr n0 L ∧ h = h0
set_option maxRecDepth 65536 in
set_option maxHeartbeats 40000000 in
theorem rm1 (l : Launch) (Z : State) (a0 : Array Value) (hw : ∀ d ∈ tables_1, d.before a0 Z = true) (ws : List Jvm.Cond) (p1 : Int32) (h0 : Heap) (n0 : Nat) (Z0 : n0 ≤ h0.size) :
    MetFree l (⟨"com/example/affinary/affinary/KeyIndex", "tag", "(I)I"⟩ : MethodName) (head1 (Jvm.Cond.code (⟨"com/example/affinary/affinary/KeyIndex", "tag", "(I)I"⟩ : MethodName) prog_226_method_16_code 2 (some .int) :: ws) ({ frames := 0, cells := 0, slots := 0, locals := 0 } : Room)) (fun a U => a = #[(.int p1)] ∧ Z.Warmed39 U.vm ∧ U.heap = h0) (fun _ _ _ _ _ => True) (fun _ U o U' => ∃ v L, o = .returned v ∧ Q1 Z p1 h0 n0 v U'.heap L ∧ FrameEnd U o U' L ({ frames := 0, cells := 0, slots := 0, locals := 0 } : Room).cells ({ frames := 0, cells := 0, slots := 0, locals := 0 } : Room).slots) := by
  refine MetFree.of_bodySF (plainFor_of_name pn_1) hisR ?_
  intro p e s m args below meth c s₁ Bd hml0 hP hK
  obtain ⟨rfl, hZ, hh⟩ := hP
  have hx := Bd.exec
  have hby := Bd.bytes
  have hml : c.maxLocals = 2 := hml0
  have hown : s.vm.findClass "com/example/affinary/affinary/KeyIndex" = some m.cls := findClass_of_methodNamed Bd.named
  have hnm := (name_of_methodNamed Bd.named Bd.method).1
  have X0 : Stand p l e ({ frames := 0, cells := 0, slots := 0, locals := 0 } : Room) s m #[(.int p1)] below meth c s₁ [] 0 0 := Stand.of_body Bd
  have e0 : s₁.heap = h0 := by rw [← hh, Bd.state]; rfl
  have N0 := Fr.nil n0
  have pre0 : ∀ t, Steps p.tables e below (s₁.setTop (mkF m 0 #[.val (.int p1), .unset] [])) t → Steps p.tables e below (s₁.setTop (entryFrame m #[(.int p1)] 2)) t := fun t k => castTop (ef_1 m p1) k
  obtain ⟨fs, hr, hrun, hended, hW, hsame⟩ := X0.leave (v := some (.int (own_tag p1))) (fun h => by rw [Bd.returns] at h; cases h)
  refine ⟨_, _, pre0 _ ?_, hrun, hended, _, _, rfl, ?_, ⟨_, rfl⟩, hW, hsame.mono (by decide) (by decide)⟩
  · show Steps p.tables e below (s₁.setTop (mkF m 0 #[.val (.int p1), .unset] [])) _
    refine XS.iloadN X0.here hx rfl (hb hby d1_0) rfl ?_
    show Steps p.tables e below (s₁.setTop (mkF m 1 #[.val (.int p1), .unset] [(.int p1)])) _
    refine XS.iloadN X0.here hx rfl (hb hby d1_1) rfl ?_
    show Steps p.tables e below (s₁.setTop (mkF m 2 #[.val (.int p1), .unset] [(.int p1), (.int p1)])) _
    refine XS.bipush X0.here hx rfl (hb hby d1_2) ?_
    show Steps p.tables e below (s₁.setTop (mkF m 4 #[.val (.int p1), .unset] [(.int (16 : Int32)), (.int p1), (.int p1)])) _
    refine XS.iushr X0.here hx rfl (hb hby d1_4) rfl ?_
    show Steps p.tables e below (s₁.setTop (mkF m 5 #[.val (.int p1), .unset] [(.int (own_sh p1 16)), (.int p1)])) _
    refine XS.ixor X0.here hx rfl (hb hby d1_5) rfl ?_
    show Steps p.tables e below (s₁.setTop (mkF m 6 #[.val (.int p1), .unset] [(.int (own_f16 p1))])) _
    refine X0.ldcInt hx hown (mvT hZ (hw _ (List.mem_of_getElem? (i := 4) rfl))) (g := (mkF m 6 #[.val (.int p1), .unset] [(.int (own_f16 p1))])) rfl (hb hby d1_6) _ ?_
    show Steps p.tables e below (s₁.setTop (mkF m 8 #[.val (.int p1), .unset] [(.int (-2048144789 : Int32)), (.int (own_f16 p1))])) _
    refine XS.imul X0.here hx rfl (hb hby d1_8) rfl ?_
    show Steps p.tables e below (s₁.setTop (mkF m 9 #[.val (.int p1), .unset] [(.int (own_s1 p1))])) _
    refine XS.istoreN X0.here hx rfl (hb hby d1_9) rfl (l' := #[.val (.int p1), .val (.int (own_s1 p1))]) rfl ?_
    show Steps p.tables e below (s₁.setTop (mkF m 10 #[.val (.int p1), .val (.int (own_s1 p1))] [])) _
    refine XS.iloadN X0.here hx rfl (hb hby d1_10) rfl ?_
    show Steps p.tables e below (s₁.setTop (mkF m 11 #[.val (.int p1), .val (.int (own_s1 p1))] [(.int (own_s1 p1))])) _
    refine XS.iloadN X0.here hx rfl (hb hby d1_11) rfl ?_
    show Steps p.tables e below (s₁.setTop (mkF m 12 #[.val (.int p1), .val (.int (own_s1 p1))] [(.int (own_s1 p1)), (.int (own_s1 p1))])) _
    refine XS.bipush X0.here hx rfl (hb hby d1_12) ?_
    show Steps p.tables e below (s₁.setTop (mkF m 14 #[.val (.int p1), .val (.int (own_s1 p1))] [(.int (13 : Int32)), (.int (own_s1 p1)), (.int (own_s1 p1))])) _
    refine XS.iushr X0.here hx rfl (hb hby d1_14) rfl ?_
    show Steps p.tables e below (s₁.setTop (mkF m 15 #[.val (.int p1), .val (.int (own_s1 p1))] [(.int (own_sh (own_s1 p1) 13)), (.int (own_s1 p1))])) _
    refine XS.ixor X0.here hx rfl (hb hby d1_15) rfl ?_
    show Steps p.tables e below (s₁.setTop (mkF m 16 #[.val (.int p1), .val (.int (own_s1 p1))] [(.int (own_f13 (own_s1 p1)))])) _
    refine X0.ldcInt hx hown (mvT hZ (hw _ (List.mem_of_getElem? (i := 5) rfl))) (g := (mkF m 16 #[.val (.int p1), .val (.int (own_s1 p1))] [(.int (own_f13 (own_s1 p1)))])) rfl (hb hby d1_16) _ ?_
    show Steps p.tables e below (s₁.setTop (mkF m 18 #[.val (.int p1), .val (.int (own_s1 p1))] [(.int (-1028477387 : Int32)), (.int (own_f13 (own_s1 p1)))])) _
    refine XS.imul X0.here hx rfl (hb hby d1_18) rfl ?_
    show Steps p.tables e below (s₁.setTop (mkF m 19 #[.val (.int p1), .val (.int (own_s1 p1))] [(.int (own_s2 p1))])) _
    refine XS.istoreN X0.here hx rfl (hb hby d1_19) rfl (l' := #[.val (.int p1), .val (.int (own_s2 p1))]) rfl ?_
    show Steps p.tables e below (s₁.setTop (mkF m 20 #[.val (.int p1), .val (.int (own_s2 p1))] [])) _
    refine XS.iloadN X0.here hx rfl (hb hby d1_20) rfl ?_
    show Steps p.tables e below (s₁.setTop (mkF m 21 #[.val (.int p1), .val (.int (own_s2 p1))] [(.int (own_s2 p1))])) _
    refine XS.iloadN X0.here hx rfl (hb hby d1_21) rfl ?_
    show Steps p.tables e below (s₁.setTop (mkF m 22 #[.val (.int p1), .val (.int (own_s2 p1))] [(.int (own_s2 p1)), (.int (own_s2 p1))])) _
    refine XS.bipush X0.here hx rfl (hb hby d1_22) ?_
    show Steps p.tables e below (s₁.setTop (mkF m 24 #[.val (.int p1), .val (.int (own_s2 p1))] [(.int (16 : Int32)), (.int (own_s2 p1)), (.int (own_s2 p1))])) _
    refine XS.iushr X0.here hx rfl (hb hby d1_24) rfl ?_
    show Steps p.tables e below (s₁.setTop (mkF m 25 #[.val (.int p1), .val (.int (own_s2 p1))] [(.int (own_sh (own_s2 p1) 16)), (.int (own_s2 p1))])) _
    refine XS.ixor X0.here hx rfl (hb hby d1_25) rfl ?_
    show Steps p.tables e below (s₁.setTop (mkF m 26 #[.val (.int p1), .val (.int (own_s2 p1))] [(.int (own_mix p1))])) _
    refine XS.istoreN X0.here hx rfl (hb hby d1_26) rfl (l' := #[.val (.int p1), .val (.int (own_mix p1))]) rfl ?_
    show Steps p.tables e below (s₁.setTop (mkF m 27 #[.val (.int p1), .val (.int (own_mix p1))] [])) _
    refine XS.iloadN X0.here hx rfl (hb hby d1_27) rfl ?_
    show Steps p.tables e below (s₁.setTop (mkF m 28 #[.val (.int p1), .val (.int (own_mix p1))] [(.int (own_mix p1))])) _
    by_cases hc28 : (own_mix p1) = (0 : Int32)
    · refine XS.ifYes X0.here hx rfl (pc0 := 28) (pc' := 36) rfl (hb hby d1_28) rfl ((if0 _ _).trans (teq hc28).1) (by decide) (by decide) ?_
      show Steps p.tables e below (s₁.setTop (mkF m 36 #[.val (.int p1), .val (.int (own_mix p1))] [])) _
      refine XS.iloadN X0.here hx rfl (hb hby d1_36) rfl ?_
      show Steps p.tables e below (s₁.setTop (mkF m 37 #[.val (.int p1), .val (.int (own_mix p1))] [(.int (own_mix p1))])) _
      refine XS.iconst X0.here hx rfl (hb hby d1_37) ?_
      show Steps p.tables e below (s₁.setTop (mkF m 38 #[.val (.int p1), .val (.int (own_mix p1))] [(.int (2 : Int32)), (.int (own_mix p1))])) _
      refine XS.iadd X0.here hx rfl (hb hby d1_38) rfl ?_
      show Steps p.tables e below (s₁.setTop (mkF m 39 #[.val (.int p1), .val (.int (own_mix p1))] [(.int ((own_mix p1) + (2 : Int32)))])) _
      refine XS.goto X0.here hx rfl (pc0 := 39) (pc' := 43) rfl (hb hby d1_39) (by decide) (by decide) ?_
      rw [own_tag_a (by simp [*])] at hr
      show Steps p.tables e below (s₁.setTop (mkF m 43 #[.val (.int p1), .val (.int (own_mix p1))] [(.int ((own_mix p1) + (2 : Int32)))])) _
      exact retI X0 hx Bd.returns (hb hby d1_43) hr
    · refine XS.ifNo X0.here hx rfl (hb hby d1_28) rfl ((if0 _ _).trans (feq hc28).1) ?_
      show Steps p.tables e below (s₁.setTop (mkF m 31 #[.val (.int p1), .val (.int (own_mix p1))] [])) _
      refine XS.iloadN X0.here hx rfl (hb hby d1_31) rfl ?_
      show Steps p.tables e below (s₁.setTop (mkF m 32 #[.val (.int p1), .val (.int (own_mix p1))] [(.int (own_mix p1))])) _
      refine XS.iconst X0.here hx rfl (hb hby d1_32) ?_
      show Steps p.tables e below (s₁.setTop (mkF m 33 #[.val (.int p1), .val (.int (own_mix p1))] [(.int (1 : Int32)), (.int (own_mix p1))])) _
      by_cases hc33 : (own_mix p1) = (1 : Int32)
      · refine XS.icmpNo X0.here hx rfl (hb hby d1_33) rfl (teq hc33).2 ?_
        show Steps p.tables e below (s₁.setTop (mkF m 36 #[.val (.int p1), .val (.int (own_mix p1))] [])) _
        refine XS.iloadN X0.here hx rfl (hb hby d1_36) rfl ?_
        show Steps p.tables e below (s₁.setTop (mkF m 37 #[.val (.int p1), .val (.int (own_mix p1))] [(.int (own_mix p1))])) _
        refine XS.iconst X0.here hx rfl (hb hby d1_37) ?_
        show Steps p.tables e below (s₁.setTop (mkF m 38 #[.val (.int p1), .val (.int (own_mix p1))] [(.int (2 : Int32)), (.int (own_mix p1))])) _
        refine XS.iadd X0.here hx rfl (hb hby d1_38) rfl ?_
        show Steps p.tables e below (s₁.setTop (mkF m 39 #[.val (.int p1), .val (.int (own_mix p1))] [(.int ((own_mix p1) + (2 : Int32)))])) _
        refine XS.goto X0.here hx rfl (pc0 := 39) (pc' := 43) rfl (hb hby d1_39) (by decide) (by decide) ?_
        rw [own_tag_a (by simp [*])] at hr
        show Steps p.tables e below (s₁.setTop (mkF m 43 #[.val (.int p1), .val (.int (own_mix p1))] [(.int ((own_mix p1) + (2 : Int32)))])) _
        exact retI X0 hx Bd.returns (hb hby d1_43) hr
      · refine XS.icmpYes X0.here hx rfl (pc0 := 33) (pc' := 42) rfl (hb hby d1_33) rfl (feq hc33).2 (by decide) (by decide) ?_
        show Steps p.tables e below (s₁.setTop (mkF m 42 #[.val (.int p1), .val (.int (own_mix p1))] [])) _
        refine XS.iloadN X0.here hx rfl (hb hby d1_42) rfl ?_
        rw [own_tag_b (by simp [*])] at hr
        show Steps p.tables e below (s₁.setTop (mkF m 43 #[.val (.int p1), .val (.int (own_mix p1))] [(.int (own_mix p1))])) _
        exact retI X0 hx Bd.returns (hb hby d1_43) hr
  · show Q1 Z p1 h0 n0 _ s₁.heap _
    rw [e0]
    exact ⟨rfl, N0, rfl⟩
theorem pn_0 : plainName "com/example/affinary/affinary/KeyIndexTagPinLaw" = true := by first | (simp [plainName, overriddenIn]; done) | decide +kernel
theorem ef_0 (m : MethodId) (x0 : Int32) : entryFrame m #[(.int x0)] maxLocals = mkF m 0 #[.val (.int x0), .unset] [] := by first | (simp [entryFrame, mkF, argsToLocals, Value.category, maxLocals]; done) | rfl
def Q0 (Z : State) (p1 : Int32) (h0 : Heap) (n0 : Nat) (v : Option Value) (h : Heap) (L : List Loc) : Prop := v = some (.int (1 : Int32)) ∧ Fr n0 L
set_option maxRecDepth 65536 in
set_option maxHeartbeats 40000000 in
theorem rm0 (l : Launch) (Z : State) (a0 : Array Value) (hw : ∀ d ∈ tables_1, d.before a0 Z = true) (ws : List Jvm.Cond) (p1 : Int32) (h0 : Heap) (n0 : Nat) (Z0 : n0 ≤ h0.size) :
    MetFree l x (head1 (Jvm.Cond.code x code maxLocals ret :: ws) room_1) (fun a U => a = #[(.int p1)] ∧ Z.Warmed39 U.vm ∧ U.heap = h0) (fun _ _ _ _ _ => True) (fun _ U o U' => ∃ v L, o = .returned v ∧ Q0 Z p1 h0 n0 v U'.heap L ∧ FrameEnd U o U' L room_1.cells room_1.slots) := by
  refine MetFree.of_bodySF (plainFor_of_name pn_0) hisR ?_
  intro p e s m args below meth c s₁ Bd hml0 hP hK
  obtain ⟨rfl, hZ, hh⟩ := hP
  have hx := Bd.exec
  have hby := Bd.bytes
  have hml : c.maxLocals = 2 := hml0
  have hown : s.vm.findClass "com/example/affinary/affinary/KeyIndexTagPinLaw" = some m.cls := findClass_of_methodNamed Bd.named
  have hnm := (name_of_methodNamed Bd.named Bd.method).1
  have X0 : Stand p l e room_1 s m #[(.int p1)] below meth c s₁ [] 0 0 := Stand.of_body Bd
  have e0 : s₁.heap = h0 := by rw [← hh, Bd.state]; rfl
  have N0 := Fr.nil n0
  have pre0 : ∀ t, Steps p.tables e below (s₁.setTop (mkF m 0 #[.val (.int p1), .unset] [])) t → Steps p.tables e below (s₁.setTop (entryFrame m #[(.int p1)] maxLocals)) t := fun t k => castTop (ef_0 m p1) k
  obtain ⟨_, _, ⟨T2, L2, k2, n2⟩, -, X2, ⟨Lc2, hQ2, l2, y2, z2⟩, st2⟩ := Jvm.LawKit.callS X0 hx (y := (⟨"com/example/affinary/affinary/KeyIndex", "tag", "(I)I"⟩ : MethodName)) hown (mvT hZ (hw _ (List.mem_of_getElem? (i := 0) rfl))) (mvT hZ (hw _ (List.mem_of_getElem? (i := 1) rfl))) (mvT hZ (hw _ (List.mem_of_getElem? (i := 2) rfl))) (mvT hZ (hw _ (List.mem_of_getElem? (i := 3) rfl))) (by decide) (backOf (W := 0) (rm1 l Z a0 hw [] p1 h0 n0 Z0) hZ (hw _ (List.mem_of_getElem? (i := 3) rfl)) (hw _ (List.mem_of_getElem? (i := 2) rfl)) (by decide) (by decide)) (g := (mkF m 1 #[.val (.int p1), .unset] [(.int p1)])) rfl (by rw [hml]; rfl) (argsL := [(.int p1)]) (rest := []) (lenOf own_pd0 rfl) rfl (by show 2 * 0 + _ ≤ _; exact Nat.le_of_eq rfl) (hb hby at_1) (fun _ _ => ⟨rfl, e0, (by decide : 0 + 0 ≤ _), (by decide : 0 + 0 ≤ _)⟩)
  dsimp only [Pt.U, Pt.locs, Pt.cells, Pt.slots] at X2 l2 y2 z2 st2 hQ2
  subst l2 y2 z2
  obtain ⟨rfl, N2q, e2⟩ := hQ2
  have N2 := Fr.app N0 N2q
  have Z2 : n0 ≤ T2.heap.size := by rw [e2]; exact Z0
  by_cases hA : own_tag p1 = 2 ∨ own_tag p1 = 3
  · obtain ⟨_, _, ⟨T3, L3, k3, n3⟩, -, X3, ⟨Lc3, hQ3, l3, y3, z3⟩, st3⟩ := Jvm.LawKit.callS X2 hx (y := (⟨"com/example/affinary/affinary/KeyIndexTagPinLaw", "unmix", "(I)I"⟩ : MethodName)) hown (mvT hZ (hw _ (List.mem_of_getElem? (i := 6) rfl))) (mvT hZ (hw _ (List.mem_of_getElem? (i := 7) rfl))) (mvT hZ (hw _ (List.mem_of_getElem? (i := 8) rfl))) (mvT hZ (hw _ (List.mem_of_getElem? (i := 9) rfl))) (by decide) (backOf (W := 0) (rm2 l Z a0 hw [] (own_tag p1) T2.heap n0 Z2) hZ (hw _ (List.mem_of_getElem? (i := 9) rfl)) (hw _ (List.mem_of_getElem? (i := 8) rfl)) (by decide) (by decide)) (g := (mkF m 27 #[.val (.int p1), .val (.int (own_tag p1))] [(.int (own_tag p1))])) rfl (by rw [hml]; rfl) (argsL := [(.int (own_tag p1))]) (rest := []) (lenOf own_pd0 rfl) rfl (by show 2 * 0 + _ ≤ _; exact Nat.le_of_eq rfl) (hb hby at_27) (fun _ _ => ⟨rfl, rfl, (by decide : 0 + 0 ≤ _), (by decide : 0 + 0 ≤ _)⟩)
    dsimp only [Pt.U, Pt.locs, Pt.cells, Pt.slots] at X3 l3 y3 z3 st3 hQ3
    subst l3 y3 z3
    obtain ⟨rfl, N3q, e3⟩ := hQ3
    have N3 := Fr.app N2 N3q
    by_cases hU : own_unmix (own_tag p1) = p1
    · obtain ⟨fs, hr, hrun, hended, hW, hsame⟩ := X3.leave (v := some (.int (1 : Int32))) (fun h => by rw [Bd.returns] at h; cases h)
      refine ⟨_, _, pre0 _ ?_, hrun, hended, _, _, rfl, ?_, ⟨_, rfl⟩, hW, hsame.mono (by decide) (by decide)⟩
      · show Steps p.tables e below (s₁.setTop (mkF m 0 #[.val (.int p1), .unset] [])) _
        refine XS.iloadN X0.here hx rfl (hb hby at_0) rfl ?_
        show Steps p.tables e below (s₁.setTop (mkF m 1 #[.val (.int p1), .unset] [(.int p1)])) _
        refine st2 _ ?_
        show Steps p.tables e below (T2.setTop (mkF m 4 #[.val (.int p1), .unset] [(.int (own_tag p1))])) _
        refine XS.istoreN X2.here hx rfl (hb hby at_4) rfl (l' := #[.val (.int p1), .val (.int (own_tag p1))]) rfl ?_
        show Steps p.tables e below (T2.setTop (mkF m 5 #[.val (.int p1), .val (.int (own_tag p1))] [])) _
        refine XS.iloadN X2.here hx rfl (hb hby at_5) rfl ?_
        show Steps p.tables e below (T2.setTop (mkF m 6 #[.val (.int p1), .val (.int (own_tag p1))] [(.int (own_tag p1))])) _
        refine XS.ifNo X2.here hx rfl (hb hby at_6) rfl ((if0 _ _).trans (feq (own_t0 p1)).1) ?_
        show Steps p.tables e below (T2.setTop (mkF m 9 #[.val (.int p1), .val (.int (own_tag p1))] [])) _
        refine XS.iloadN X2.here hx rfl (hb hby at_9) rfl ?_
        show Steps p.tables e below (T2.setTop (mkF m 10 #[.val (.int p1), .val (.int (own_tag p1))] [(.int (own_tag p1))])) _
        refine XS.iconst X2.here hx rfl (hb hby at_10) ?_
        show Steps p.tables e below (T2.setTop (mkF m 11 #[.val (.int p1), .val (.int (own_tag p1))] [(.int (1 : Int32)), (.int (own_tag p1))])) _
        refine XS.icmpYes X2.here hx rfl (pc0 := 11) (pc' := 16) rfl (hb hby at_11) rfl (feq (own_t1 p1)).2 (by decide) (by decide) ?_
        show Steps p.tables e below (T2.setTop (mkF m 16 #[.val (.int p1), .val (.int (own_tag p1))] [])) _
        refine XS.iloadN X2.here hx rfl (hb hby at_16) rfl ?_
        show Steps p.tables e below (T2.setTop (mkF m 17 #[.val (.int p1), .val (.int (own_tag p1))] [(.int (own_tag p1))])) _
        refine XS.iconst X2.here hx rfl (hb hby at_17) ?_
        show Steps p.tables e below (T2.setTop (mkF m 18 #[.val (.int p1), .val (.int (own_tag p1))] [(.int (2 : Int32)), (.int (own_tag p1))])) _
        by_cases hc18 : (own_tag p1) = (2 : Int32)
        · refine XS.icmpYes X2.here hx rfl (pc0 := 18) (pc' := 26) rfl (hb hby at_18) rfl (teq hc18).1 (by decide) (by decide) ?_
          show Steps p.tables e below (T2.setTop (mkF m 26 #[.val (.int p1), .val (.int (own_tag p1))] [])) _
          refine XS.iloadN X2.here hx rfl (hb hby at_26) rfl ?_
          show Steps p.tables e below (T2.setTop (mkF m 27 #[.val (.int p1), .val (.int (own_tag p1))] [(.int (own_tag p1))])) _
          refine st3 _ ?_
          show Steps p.tables e below (T3.setTop (mkF m 30 #[.val (.int p1), .val (.int (own_tag p1))] [(.int (own_unmix (own_tag p1)))])) _
          refine XS.iloadN X3.here hx rfl (hb hby at_30) rfl ?_
          show Steps p.tables e below (T3.setTop (mkF m 31 #[.val (.int p1), .val (.int (own_tag p1))] [(.int p1), (.int (own_unmix (own_tag p1)))])) _
          refine XS.icmpYes X3.here hx rfl (pc0 := 31) (pc' := 44) rfl (hb hby at_31) rfl (teq hU).1 (by decide) (by decide) ?_
          show Steps p.tables e below (T3.setTop (mkF m 44 #[.val (.int p1), .val (.int (own_tag p1))] [])) _
          refine XS.iconst X3.here hx rfl (hb hby at_44) ?_
          show Steps p.tables e below (T3.setTop (mkF m 45 #[.val (.int p1), .val (.int (own_tag p1))] [(.int (1 : Int32))])) _
          refine XS.goto X3.here hx rfl (pc0 := 45) (pc' := 49) rfl (hb hby at_45) (by decide) (by decide) ?_
          show Steps p.tables e below (T3.setTop (mkF m 49 #[.val (.int p1), .val (.int (own_tag p1))] [(.int (1 : Int32))])) _
          exact retN X3 hx (t := .boolean) Bd.returns (by simp) (hb hby at_49) hr
        · refine XS.icmpNo X2.here hx rfl (hb hby at_18) rfl (feq hc18).1 ?_
          show Steps p.tables e below (T2.setTop (mkF m 21 #[.val (.int p1), .val (.int (own_tag p1))] [])) _
          refine XS.iloadN X2.here hx rfl (hb hby at_21) rfl ?_
          show Steps p.tables e below (T2.setTop (mkF m 22 #[.val (.int p1), .val (.int (own_tag p1))] [(.int (own_tag p1))])) _
          refine XS.iconst X2.here hx rfl (hb hby at_22) ?_
          show Steps p.tables e below (T2.setTop (mkF m 23 #[.val (.int p1), .val (.int (own_tag p1))] [(.int (3 : Int32)), (.int (own_tag p1))])) _
          refine XS.icmpNo X2.here hx rfl (hb hby at_23) rfl (teq (hA.resolve_left hc18)).2 ?_
          show Steps p.tables e below (T2.setTop (mkF m 26 #[.val (.int p1), .val (.int (own_tag p1))] [])) _
          refine XS.iloadN X2.here hx rfl (hb hby at_26) rfl ?_
          show Steps p.tables e below (T2.setTop (mkF m 27 #[.val (.int p1), .val (.int (own_tag p1))] [(.int (own_tag p1))])) _
          refine st3 _ ?_
          show Steps p.tables e below (T3.setTop (mkF m 30 #[.val (.int p1), .val (.int (own_tag p1))] [(.int (own_unmix (own_tag p1)))])) _
          refine XS.iloadN X3.here hx rfl (hb hby at_30) rfl ?_
          show Steps p.tables e below (T3.setTop (mkF m 31 #[.val (.int p1), .val (.int (own_tag p1))] [(.int p1), (.int (own_unmix (own_tag p1)))])) _
          refine XS.icmpYes X3.here hx rfl (pc0 := 31) (pc' := 44) rfl (hb hby at_31) rfl (teq hU).1 (by decide) (by decide) ?_
          show Steps p.tables e below (T3.setTop (mkF m 44 #[.val (.int p1), .val (.int (own_tag p1))] [])) _
          refine XS.iconst X3.here hx rfl (hb hby at_44) ?_
          show Steps p.tables e below (T3.setTop (mkF m 45 #[.val (.int p1), .val (.int (own_tag p1))] [(.int (1 : Int32))])) _
          refine XS.goto X3.here hx rfl (pc0 := 45) (pc' := 49) rfl (hb hby at_45) (by decide) (by decide) ?_
          show Steps p.tables e below (T3.setTop (mkF m 49 #[.val (.int p1), .val (.int (own_tag p1))] [(.int (1 : Int32))])) _
          exact retN X3 hx (t := .boolean) Bd.returns (by simp) (hb hby at_49) hr
      · show Q0 Z p1 h0 n0 _ T3.heap _
        exact ⟨rfl, N3⟩
    · have hV : own_unmix (own_tag p1 - 2) = p1 := ((own_t2 p1).resolve_left hU).2
      have Z3 : n0 ≤ T3.heap.size := by rw [e3]; exact Z2
      obtain ⟨_, _, ⟨T4, L4, k4, n4⟩, -, X4, ⟨Lc4, hQ4, l4, y4, z4⟩, st4⟩ := Jvm.LawKit.callS X3 hx (y := (⟨"com/example/affinary/affinary/KeyIndexTagPinLaw", "unmix", "(I)I"⟩ : MethodName)) hown (mvT hZ (hw _ (List.mem_of_getElem? (i := 6) rfl))) (mvT hZ (hw _ (List.mem_of_getElem? (i := 7) rfl))) (mvT hZ (hw _ (List.mem_of_getElem? (i := 8) rfl))) (mvT hZ (hw _ (List.mem_of_getElem? (i := 9) rfl))) (by decide) (backOf (W := 0) (rm2 l Z a0 hw [] (own_tag p1 - 2) T3.heap n0 Z3) hZ (hw _ (List.mem_of_getElem? (i := 9) rfl)) (hw _ (List.mem_of_getElem? (i := 8) rfl)) (by decide) (by decide)) (g := (mkF m 37 #[.val (.int p1), .val (.int (own_tag p1))] [(.int (own_tag p1 - 2))])) rfl (by rw [hml]; rfl) (argsL := [(.int (own_tag p1 - 2))]) (rest := []) (lenOf own_pd0 rfl) rfl (by show 2 * 0 + _ ≤ _; exact Nat.le_of_eq rfl) (hb hby at_37) (fun _ _ => ⟨rfl, rfl, (by decide : 0 + 0 ≤ _), (by decide : 0 + 0 ≤ _)⟩)
      dsimp only [Pt.U, Pt.locs, Pt.cells, Pt.slots] at X4 l4 y4 z4 st4 hQ4
      subst l4 y4 z4
      obtain ⟨rfl, N4q, e4⟩ := hQ4
      have N4 := Fr.app N3 N4q
      obtain ⟨fs, hr, hrun, hended, hW, hsame⟩ := X4.leave (v := some (.int (1 : Int32))) (fun h => by rw [Bd.returns] at h; cases h)
      refine ⟨_, _, pre0 _ ?_, hrun, hended, _, _, rfl, ?_, ⟨_, rfl⟩, hW, hsame.mono (by decide) (by decide)⟩
      · show Steps p.tables e below (s₁.setTop (mkF m 0 #[.val (.int p1), .unset] [])) _
        refine XS.iloadN X0.here hx rfl (hb hby at_0) rfl ?_
        show Steps p.tables e below (s₁.setTop (mkF m 1 #[.val (.int p1), .unset] [(.int p1)])) _
        refine st2 _ ?_
        show Steps p.tables e below (T2.setTop (mkF m 4 #[.val (.int p1), .unset] [(.int (own_tag p1))])) _
        refine XS.istoreN X2.here hx rfl (hb hby at_4) rfl (l' := #[.val (.int p1), .val (.int (own_tag p1))]) rfl ?_
        show Steps p.tables e below (T2.setTop (mkF m 5 #[.val (.int p1), .val (.int (own_tag p1))] [])) _
        refine XS.iloadN X2.here hx rfl (hb hby at_5) rfl ?_
        show Steps p.tables e below (T2.setTop (mkF m 6 #[.val (.int p1), .val (.int (own_tag p1))] [(.int (own_tag p1))])) _
        refine XS.ifNo X2.here hx rfl (hb hby at_6) rfl ((if0 _ _).trans (feq (own_t0 p1)).1) ?_
        show Steps p.tables e below (T2.setTop (mkF m 9 #[.val (.int p1), .val (.int (own_tag p1))] [])) _
        refine XS.iloadN X2.here hx rfl (hb hby at_9) rfl ?_
        show Steps p.tables e below (T2.setTop (mkF m 10 #[.val (.int p1), .val (.int (own_tag p1))] [(.int (own_tag p1))])) _
        refine XS.iconst X2.here hx rfl (hb hby at_10) ?_
        show Steps p.tables e below (T2.setTop (mkF m 11 #[.val (.int p1), .val (.int (own_tag p1))] [(.int (1 : Int32)), (.int (own_tag p1))])) _
        refine XS.icmpYes X2.here hx rfl (pc0 := 11) (pc' := 16) rfl (hb hby at_11) rfl (feq (own_t1 p1)).2 (by decide) (by decide) ?_
        show Steps p.tables e below (T2.setTop (mkF m 16 #[.val (.int p1), .val (.int (own_tag p1))] [])) _
        refine XS.iloadN X2.here hx rfl (hb hby at_16) rfl ?_
        show Steps p.tables e below (T2.setTop (mkF m 17 #[.val (.int p1), .val (.int (own_tag p1))] [(.int (own_tag p1))])) _
        refine XS.iconst X2.here hx rfl (hb hby at_17) ?_
        show Steps p.tables e below (T2.setTop (mkF m 18 #[.val (.int p1), .val (.int (own_tag p1))] [(.int (2 : Int32)), (.int (own_tag p1))])) _
        by_cases hc18 : (own_tag p1) = (2 : Int32)
        · refine XS.icmpYes X2.here hx rfl (pc0 := 18) (pc' := 26) rfl (hb hby at_18) rfl (teq hc18).1 (by decide) (by decide) ?_
          show Steps p.tables e below (T2.setTop (mkF m 26 #[.val (.int p1), .val (.int (own_tag p1))] [])) _
          refine XS.iloadN X2.here hx rfl (hb hby at_26) rfl ?_
          show Steps p.tables e below (T2.setTop (mkF m 27 #[.val (.int p1), .val (.int (own_tag p1))] [(.int (own_tag p1))])) _
          refine st3 _ ?_
          show Steps p.tables e below (T3.setTop (mkF m 30 #[.val (.int p1), .val (.int (own_tag p1))] [(.int (own_unmix (own_tag p1)))])) _
          refine XS.iloadN X3.here hx rfl (hb hby at_30) rfl ?_
          show Steps p.tables e below (T3.setTop (mkF m 31 #[.val (.int p1), .val (.int (own_tag p1))] [(.int p1), (.int (own_unmix (own_tag p1)))])) _
          refine XS.icmpNo X3.here hx rfl (hb hby at_31) rfl (feq hU).1 ?_
          show Steps p.tables e below (T3.setTop (mkF m 34 #[.val (.int p1), .val (.int (own_tag p1))] [])) _
          refine XS.iloadN X3.here hx rfl (hb hby at_34) rfl ?_
          show Steps p.tables e below (T3.setTop (mkF m 35 #[.val (.int p1), .val (.int (own_tag p1))] [(.int (own_tag p1))])) _
          refine XS.iconst X3.here hx rfl (hb hby at_35) ?_
          show Steps p.tables e below (T3.setTop (mkF m 36 #[.val (.int p1), .val (.int (own_tag p1))] [(.int (2 : Int32)), (.int (own_tag p1))])) _
          refine XS.isub X3.here hx rfl (hb hby at_36) rfl ?_
          show Steps p.tables e below (T3.setTop (mkF m 37 #[.val (.int p1), .val (.int (own_tag p1))] [(.int (own_tag p1 - 2))])) _
          refine st4 _ ?_
          show Steps p.tables e below (T4.setTop (mkF m 40 #[.val (.int p1), .val (.int (own_tag p1))] [(.int (own_unmix (own_tag p1 - 2)))])) _
          refine XS.iloadN X4.here hx rfl (hb hby at_40) rfl ?_
          show Steps p.tables e below (T4.setTop (mkF m 41 #[.val (.int p1), .val (.int (own_tag p1))] [(.int p1), (.int (own_unmix (own_tag p1 - 2)))])) _
          refine XS.icmpNo X4.here hx rfl (hb hby at_41) rfl (teq hV).2 ?_
          show Steps p.tables e below (T4.setTop (mkF m 44 #[.val (.int p1), .val (.int (own_tag p1))] [])) _
          refine XS.iconst X4.here hx rfl (hb hby at_44) ?_
          show Steps p.tables e below (T4.setTop (mkF m 45 #[.val (.int p1), .val (.int (own_tag p1))] [(.int (1 : Int32))])) _
          refine XS.goto X4.here hx rfl (pc0 := 45) (pc' := 49) rfl (hb hby at_45) (by decide) (by decide) ?_
          show Steps p.tables e below (T4.setTop (mkF m 49 #[.val (.int p1), .val (.int (own_tag p1))] [(.int (1 : Int32))])) _
          exact retN X4 hx (t := .boolean) Bd.returns (by simp) (hb hby at_49) hr
        · refine XS.icmpNo X2.here hx rfl (hb hby at_18) rfl (feq hc18).1 ?_
          show Steps p.tables e below (T2.setTop (mkF m 21 #[.val (.int p1), .val (.int (own_tag p1))] [])) _
          refine XS.iloadN X2.here hx rfl (hb hby at_21) rfl ?_
          show Steps p.tables e below (T2.setTop (mkF m 22 #[.val (.int p1), .val (.int (own_tag p1))] [(.int (own_tag p1))])) _
          refine XS.iconst X2.here hx rfl (hb hby at_22) ?_
          show Steps p.tables e below (T2.setTop (mkF m 23 #[.val (.int p1), .val (.int (own_tag p1))] [(.int (3 : Int32)), (.int (own_tag p1))])) _
          refine XS.icmpNo X2.here hx rfl (hb hby at_23) rfl (teq (hA.resolve_left hc18)).2 ?_
          show Steps p.tables e below (T2.setTop (mkF m 26 #[.val (.int p1), .val (.int (own_tag p1))] [])) _
          refine XS.iloadN X2.here hx rfl (hb hby at_26) rfl ?_
          show Steps p.tables e below (T2.setTop (mkF m 27 #[.val (.int p1), .val (.int (own_tag p1))] [(.int (own_tag p1))])) _
          refine st3 _ ?_
          show Steps p.tables e below (T3.setTop (mkF m 30 #[.val (.int p1), .val (.int (own_tag p1))] [(.int (own_unmix (own_tag p1)))])) _
          refine XS.iloadN X3.here hx rfl (hb hby at_30) rfl ?_
          show Steps p.tables e below (T3.setTop (mkF m 31 #[.val (.int p1), .val (.int (own_tag p1))] [(.int p1), (.int (own_unmix (own_tag p1)))])) _
          refine XS.icmpNo X3.here hx rfl (hb hby at_31) rfl (feq hU).1 ?_
          show Steps p.tables e below (T3.setTop (mkF m 34 #[.val (.int p1), .val (.int (own_tag p1))] [])) _
          refine XS.iloadN X3.here hx rfl (hb hby at_34) rfl ?_
          show Steps p.tables e below (T3.setTop (mkF m 35 #[.val (.int p1), .val (.int (own_tag p1))] [(.int (own_tag p1))])) _
          refine XS.iconst X3.here hx rfl (hb hby at_35) ?_
          show Steps p.tables e below (T3.setTop (mkF m 36 #[.val (.int p1), .val (.int (own_tag p1))] [(.int (2 : Int32)), (.int (own_tag p1))])) _
          refine XS.isub X3.here hx rfl (hb hby at_36) rfl ?_
          show Steps p.tables e below (T3.setTop (mkF m 37 #[.val (.int p1), .val (.int (own_tag p1))] [(.int (own_tag p1 - 2))])) _
          refine st4 _ ?_
          show Steps p.tables e below (T4.setTop (mkF m 40 #[.val (.int p1), .val (.int (own_tag p1))] [(.int (own_unmix (own_tag p1 - 2)))])) _
          refine XS.iloadN X4.here hx rfl (hb hby at_40) rfl ?_
          show Steps p.tables e below (T4.setTop (mkF m 41 #[.val (.int p1), .val (.int (own_tag p1))] [(.int p1), (.int (own_unmix (own_tag p1 - 2)))])) _
          refine XS.icmpNo X4.here hx rfl (hb hby at_41) rfl (teq hV).2 ?_
          show Steps p.tables e below (T4.setTop (mkF m 44 #[.val (.int p1), .val (.int (own_tag p1))] [])) _
          refine XS.iconst X4.here hx rfl (hb hby at_44) ?_
          show Steps p.tables e below (T4.setTop (mkF m 45 #[.val (.int p1), .val (.int (own_tag p1))] [(.int (1 : Int32))])) _
          refine XS.goto X4.here hx rfl (pc0 := 45) (pc' := 49) rfl (hb hby at_45) (by decide) (by decide) ?_
          show Steps p.tables e below (T4.setTop (mkF m 49 #[.val (.int p1), .val (.int (own_tag p1))] [(.int (1 : Int32))])) _
          exact retN X4 hx (t := .boolean) Bd.returns (by simp) (hb hby at_49) hr
      · show Q0 Z p1 h0 n0 _ T4.heap _
        exact ⟨rfl, N4⟩
  · have hU : own_unmix (own_tag p1) = p1 := (own_t2 p1).resolve_right (fun q => hA q.1)
    obtain ⟨_, _, ⟨T3, L3, k3, n3⟩, -, X3, ⟨Lc3, hQ3, l3, y3, z3⟩, st3⟩ := Jvm.LawKit.callS X2 hx (y := (⟨"com/example/affinary/affinary/KeyIndexTagPinLaw", "unmix", "(I)I"⟩ : MethodName)) hown (mvT hZ (hw _ (List.mem_of_getElem? (i := 6) rfl))) (mvT hZ (hw _ (List.mem_of_getElem? (i := 7) rfl))) (mvT hZ (hw _ (List.mem_of_getElem? (i := 8) rfl))) (mvT hZ (hw _ (List.mem_of_getElem? (i := 9) rfl))) (by decide) (backOf (W := 0) (rm2 l Z a0 hw [] (own_tag p1) T2.heap n0 Z2) hZ (hw _ (List.mem_of_getElem? (i := 9) rfl)) (hw _ (List.mem_of_getElem? (i := 8) rfl)) (by decide) (by decide)) (g := (mkF m 51 #[.val (.int p1), .val (.int (own_tag p1))] [(.int (own_tag p1))])) rfl (by rw [hml]; rfl) (argsL := [(.int (own_tag p1))]) (rest := []) (lenOf own_pd0 rfl) rfl (by show 2 * 0 + _ ≤ _; exact Nat.le_of_eq rfl) (hb hby at_51) (fun _ _ => ⟨rfl, rfl, (by decide : 0 + 0 ≤ _), (by decide : 0 + 0 ≤ _)⟩)
    dsimp only [Pt.U, Pt.locs, Pt.cells, Pt.slots] at X3 l3 y3 z3 st3 hQ3
    subst l3 y3 z3
    obtain ⟨rfl, N3q, e3⟩ := hQ3
    have N3 := Fr.app N2 N3q
    obtain ⟨fs, hr, hrun, hended, hW, hsame⟩ := X3.leave (v := some (.int (1 : Int32))) (fun h => by rw [Bd.returns] at h; cases h)
    refine ⟨_, _, pre0 _ ?_, hrun, hended, _, _, rfl, ?_, ⟨_, rfl⟩, hW, hsame.mono (by decide) (by decide)⟩
    · show Steps p.tables e below (s₁.setTop (mkF m 0 #[.val (.int p1), .unset] [])) _
      refine XS.iloadN X0.here hx rfl (hb hby at_0) rfl ?_
      show Steps p.tables e below (s₁.setTop (mkF m 1 #[.val (.int p1), .unset] [(.int p1)])) _
      refine st2 _ ?_
      show Steps p.tables e below (T2.setTop (mkF m 4 #[.val (.int p1), .unset] [(.int (own_tag p1))])) _
      refine XS.istoreN X2.here hx rfl (hb hby at_4) rfl (l' := #[.val (.int p1), .val (.int (own_tag p1))]) rfl ?_
      show Steps p.tables e below (T2.setTop (mkF m 5 #[.val (.int p1), .val (.int (own_tag p1))] [])) _
      refine XS.iloadN X2.here hx rfl (hb hby at_5) rfl ?_
      show Steps p.tables e below (T2.setTop (mkF m 6 #[.val (.int p1), .val (.int (own_tag p1))] [(.int (own_tag p1))])) _
      refine XS.ifNo X2.here hx rfl (hb hby at_6) rfl ((if0 _ _).trans (feq (own_t0 p1)).1) ?_
      show Steps p.tables e below (T2.setTop (mkF m 9 #[.val (.int p1), .val (.int (own_tag p1))] [])) _
      refine XS.iloadN X2.here hx rfl (hb hby at_9) rfl ?_
      show Steps p.tables e below (T2.setTop (mkF m 10 #[.val (.int p1), .val (.int (own_tag p1))] [(.int (own_tag p1))])) _
      refine XS.iconst X2.here hx rfl (hb hby at_10) ?_
      show Steps p.tables e below (T2.setTop (mkF m 11 #[.val (.int p1), .val (.int (own_tag p1))] [(.int (1 : Int32)), (.int (own_tag p1))])) _
      refine XS.icmpYes X2.here hx rfl (pc0 := 11) (pc' := 16) rfl (hb hby at_11) rfl (feq (own_t1 p1)).2 (by decide) (by decide) ?_
      show Steps p.tables e below (T2.setTop (mkF m 16 #[.val (.int p1), .val (.int (own_tag p1))] [])) _
      refine XS.iloadN X2.here hx rfl (hb hby at_16) rfl ?_
      show Steps p.tables e below (T2.setTop (mkF m 17 #[.val (.int p1), .val (.int (own_tag p1))] [(.int (own_tag p1))])) _
      refine XS.iconst X2.here hx rfl (hb hby at_17) ?_
      show Steps p.tables e below (T2.setTop (mkF m 18 #[.val (.int p1), .val (.int (own_tag p1))] [(.int (2 : Int32)), (.int (own_tag p1))])) _
      refine XS.icmpNo X2.here hx rfl (hb hby at_18) rfl (feq (fun q => hA (Or.inl q))).1 ?_
      show Steps p.tables e below (T2.setTop (mkF m 21 #[.val (.int p1), .val (.int (own_tag p1))] [])) _
      refine XS.iloadN X2.here hx rfl (hb hby at_21) rfl ?_
      show Steps p.tables e below (T2.setTop (mkF m 22 #[.val (.int p1), .val (.int (own_tag p1))] [(.int (own_tag p1))])) _
      refine XS.iconst X2.here hx rfl (hb hby at_22) ?_
      show Steps p.tables e below (T2.setTop (mkF m 23 #[.val (.int p1), .val (.int (own_tag p1))] [(.int (3 : Int32)), (.int (own_tag p1))])) _
      refine XS.icmpYes X2.here hx rfl (pc0 := 23) (pc' := 50) rfl (hb hby at_23) rfl (feq (fun q => hA (Or.inr q))).2 (by decide) (by decide) ?_
      show Steps p.tables e below (T2.setTop (mkF m 50 #[.val (.int p1), .val (.int (own_tag p1))] [])) _
      refine XS.iloadN X2.here hx rfl (hb hby at_50) rfl ?_
      show Steps p.tables e below (T2.setTop (mkF m 51 #[.val (.int p1), .val (.int (own_tag p1))] [(.int (own_tag p1))])) _
      refine st3 _ ?_
      show Steps p.tables e below (T3.setTop (mkF m 54 #[.val (.int p1), .val (.int (own_tag p1))] [(.int (own_unmix (own_tag p1)))])) _
      refine XS.iloadN X3.here hx rfl (hb hby at_54) rfl ?_
      show Steps p.tables e below (T3.setTop (mkF m 55 #[.val (.int p1), .val (.int (own_tag p1))] [(.int p1), (.int (own_unmix (own_tag p1)))])) _
      refine XS.icmpNo X3.here hx rfl (hb hby at_55) rfl (teq hU).2 ?_
      show Steps p.tables e below (T3.setTop (mkF m 58 #[.val (.int p1), .val (.int (own_tag p1))] [])) _
      refine XS.iconst X3.here hx rfl (hb hby at_58) ?_
      show Steps p.tables e below (T3.setTop (mkF m 59 #[.val (.int p1), .val (.int (own_tag p1))] [(.int (1 : Int32))])) _
      refine XS.goto X3.here hx rfl (pc0 := 59) (pc' := 63) rfl (hb hby at_59) (by decide) (by decide) ?_
      show Steps p.tables e below (T3.setTop (mkF m 63 #[.val (.int p1), .val (.int (own_tag p1))] [(.int (1 : Int32))])) _
      exact retN X3 hx (t := .boolean) Bd.returns (by simp) (hb hby at_63) hr
    · show Q0 Z p1 h0 n0 _ T3.heap _
      exact ⟨rfl, N3⟩
set_option maxRecDepth 65536 in
set_option maxHeartbeats 40000000 in
theorem comes_1 {Post : Tables → Env → Array Value → State → Outcome → State → Prop} (hpost : ∀ tb e args s v u, (limb_1_1.after args s (.returned v) u = true ∧ limb_1_2.after args s (.returned v) u = true ∧ True) → FrameEnd s (.returned v) u (Jvm.fieldLocs frame_1_writes args s ++ Jvm.arrayLocs frame_1_arrays args s ++ Jvm.staticLocs frame_1_statics s) 0 0 → Post tb e args s (.returned v) u) :
    ArmFor flags0 classFile x code maxLocals ret World_1 tables_1 room_1 Calls_1 rest_1 Pre_1 Post := by
  intro l hfl _ _ p e ha hc hk s m args below hf hA hF happ hP
  obtain ⟨hcalls, hrest, hpre⟩ := hP
  obtain ⟨-, -, -, hnamed, -, -, -, hat⟩ := (Spec.applies_iff hf).mp happ
  obtain ⟨hg, hn⟩ := and_e (Cond.before_iff.mp (show (Jvm.Cond.and given_1 narrow_1).before args s = true from hpre))
  obtain ⟨g4, g5⟩ := and_e hg
  obtain ⟨w0, rfl⟩ : ∃ w0 : Value, args = #[w0] := by
    have hs : args.size = 1 := by simpa [Cond.value, given_1] using g4
    obtain ⟨L⟩ := args
    match L, hs with
    | [w0], _ => exact ⟨w0, rfl⟩
  have hw := fun d (hd : d ∈ tables_1) => atoms_spec (ws := Jvm.Cond.code x code maxLocals ret :: tables_1) hat d (List.mem_cons_of_mem _ hd)
  have hfit : Fit s := fun {y c} hc i hi => by
    obtain ⟨ha, rfl⟩ := Array.getElem?_eq_some_iff.mp hc
    have q := List.all_eq_true.mp ((Array.all_eq_true_iff_forall_mem.mp hF) _ (Array.getElem_mem ha)) i (List.mem_range.mpr hi)
    simpa [Array.getElem?_eq_getElem hi] using q
  obtain ⟨i0, ei0⟩ := is_v g5
  obtain rfl : w0 = (.int i0) := Option.some.inj ei0
  obtain ⟨n, o, h1, h2, h3, _, L, rfl, ⟨rfl, N⟩, hq⟩ := rm0 l s _ hw tables_1 i0 s.heap s.heap.size (Nat.le_refl _) p e ha hc hk s m _ below hf ((Spec.applies_iff_loose hf).mp happ).1 ⟨rfl, State.Warmed39.refl s, rfl⟩ trivial
  refine ⟨n, _, h1, h2, h3, hpost _ _ _ _ _ _ ⟨Cond.after_iff.mpr rfl, Cond.after_iff.mpr (eq_i res_at (Term.int_eval (1)) rfl), trivial⟩ ⟨hq.1, hq.2.1, (hq.2.2.sift fun y hy => Or.inr (N y hy)).mono (by decide) (by decide)⟩⟩
theorem main_1_1 : Claimed_1_1 := comes_1 fun _ _ _ _ _ _ h hF => ⟨h.1, hF⟩
theorem main_1_2 : Claimed_1_2 := comes_1 fun _ _ _ _ _ _ h hF => ⟨h.2.1, hF⟩
end Jvm.Pilot.@@N@@
namespace Jvm.Pilot.@@N@@
open Jvm Jvm.ClassFile Sem Op Lib Jvm.Free Jvm.Stand Jvm.Pilot.@@N@@.Jvm.D
/-! MADE BY PROGRAM (witnessworld.py) out of the Statement's table words and the real class files: 7 classes; the members and pool entries that the words name. The judged class is class 1, her method 1. -/
namespace start1
open Jvm.ClassFile
def u (s : String) : CpInfo := .utf8 (stringToUtf16 s)
/-- a pool by its gaps: so many unusable entries, then the entry; so many at the end -/
def gap : Nat → List CpInfo → List CpInfo
  | 0, r => r
  | n + 1, r => .unusable :: gap n r
def poolList (es : List (Nat × CpInfo)) (last : Nat) : List CpInfo := es.foldr (fun e r => gap e.1 (e.2 :: r)) (gap last [])
def pool (es : List (Nat × CpInfo)) (last : Nat) : Array CpInfo := ⟨poolList es last⟩
def fileOf (pool : Array CpInfo) (this : Nat) (attrs : Array Attribute := #[]) (ms : Array MethodInfo := #[]) (fl : Nat := 33) (sup : Nat := 0) (ifs : Array Nat := #[]) (fds : Array FieldInfo := #[]) : ClassFile where
  minorVersion := 0
  majorVersion := 65
  constantPool := pool
  accessFlags := fl
  thisClass := this
  superClass := sup
  interfaces := ifs
  fields := fds
  methods := ms
  attributes := attrs
def plain (name : String) (sup : Option ClassId) : Class where
  name := name
  kind := .ordinary
  loader := none
  accessFlags := 33
  super := sup
  interfaces := #[]
  cf := none
  fields := #[]
  methods := #[]
  instanceTypes := #[]
  staticTypes := #[]
  resolved := #[]
  callSites := []
  init := .initialized
  statics := none
  mirror := none

def pool0 : Array CpInfo := pool [(5, u "<init>"), (0, u "()V"), (1, .class_ 10), (1, u "java/lang/Object")] 113

def k0m0 : Method := { name := "<init>", desc := "()V", sig := { parameters := [], returnType := none }, accessFlags := 1, code := none }
/-- java/lang/Object -/
def k0 : Class := { plain "java/lang/Object" none with
  accessFlags := 33
  interfaces := #[]
  cf := some (fileOf pool0 8 #[] #[{ accessFlags := 1, nameIndex := 5, descriptorIndex := 6, attributes := #[] }] 33 0 #[] #[])
  fields := #[]
  methods := #[k0m0]
  instanceTypes := #[]
  staticTypes := #[]
  resolved := Array.replicate 124 none
  statics := none }

def pool1 : Array CpInfo := pool [(2, .class_ 4), (1, u "java/lang/Object"), (0, u "<init>"), (0, u "()V"), (0, .methodref 8 9), (0, .class_ 10), (0, .nameAndType 11 12), (0, u "com/example/affinary/affinary/KeyIndex"), (0, u "tag"), (0, u "(I)I"), (0, .methodref 14 15), (0, .class_ 16), (0, .nameAndType 17 12), (0, u "com/example/affinary/affinary/KeyIndexTagPinLaw"), (0, u "unmix"), (0, .integer 3266489909), (0, .methodref 14 20), (0, .nameAndType 21 12), (0, u "inverse"), (0, .integer 2246822507), (2, u "law"), (0, u "(I)Z")] 3

def k1m0 : Method := { name := "<init>", desc := "()V", sig := { parameters := [], returnType := none }, accessFlags := 2, code := none }
def k1c1 : Code := { maxStack := 2, maxLocals := 2, code := code, exceptionTable := #[], attributes := #[] }
def k1m1 : Method := { name := "law", desc := "(I)Z", sig := { parameters := [.int], returnType := some .boolean }, accessFlags := 9, code := some k1c1 }
def k1c2 : Code := { maxStack := 4, maxLocals := 2, code := method_3_code, exceptionTable := #[], attributes := #[] }
def k1m2 : Method := { name := "inverse", desc := "(I)I", sig := { parameters := [.int], returnType := some .int }, accessFlags := 10, code := some k1c2 }
def k1c3 : Code := { maxStack := 3, maxLocals := 2, code := method_4_code, exceptionTable := #[], attributes := #[] }
def k1m3 : Method := { name := "unmix", desc := "(I)I", sig := { parameters := [.int], returnType := some .int }, accessFlags := 10, code := some k1c3 }
/-- com/example/affinary/affinary/KeyIndexTagPinLaw -/
def k1 : Class := { plain "com/example/affinary/affinary/KeyIndexTagPinLaw" (some 0) with
  accessFlags := 49
  interfaces := #[]
  cf := some (fileOf pool1 14 #[] #[{ accessFlags := 2, nameIndex := 5, descriptorIndex := 6, attributes := #[] }, { accessFlags := 9, nameIndex := 25, descriptorIndex := 26, attributes := #[] }, { accessFlags := 10, nameIndex := 21, descriptorIndex := 12, attributes := #[] }, { accessFlags := 10, nameIndex := 17, descriptorIndex := 12, attributes := #[] }] 49 2 #[] #[])
  fields := #[]
  methods := #[k1m0, k1m1, k1m2, k1m3]
  instanceTypes := #[]
  staticTypes := #[]
  resolved := Array.replicate 30 none
  statics := none }

def pool2 : Array CpInfo := pool [(4, .class_ 6), (1, u "java/lang/Object"), (2, .class_ 10), (0, u "com/example/affinary/affinary/KeyIndex$Slots"), (0, .class_ 12), (0, u "com/example/affinary/affinary/KeyIndex"), (5, u "slots"), (0, u "Lcom/example/affinary/affinary/KeyIndex$Slots;"), (3, u "[I"), (4, u "positions"), (2, u "[Lcom/example/affinary/affinary/Collation;"), (2, u "collations"), (2, u "rows"), (0, u "Ljava/util/function/LongFunction;"), (22, u "tag"), (0, u "(I)I"), (16, u "crowded"), (0, u "Ljava/util/TreeMap;"), (28, u "I"), (12, .class_ 123), (0, u "com/example/affinary/affinary/KeyIndex$Entries"), (33, .integer 2246822507), (0, .integer 3266489909), (14, u "MOST_PROBES"), (2, u "MOST_TIES"), (1, u "FIRST_SLOTS"), (1, u "MOST_SLOTS"), (0, u "FREE"), (1, u "VACATED"), (1, u "NO_SLOT")] 43

def k2c0 : Code := { maxStack := 3, maxLocals := 2, code := prog_226_method_16_code, exceptionTable := #[], attributes := #[] }
def k2m0 : Method := { name := "tag", desc := "(I)I", sig := { parameters := [.int], returnType := some .int }, accessFlags := 8, code := some k2c0 }
/-- com/example/affinary/affinary/KeyIndex -/
def k2 : Class := { plain "com/example/affinary/affinary/KeyIndex" (some 0) with
  accessFlags := 48
  interfaces := #[]
  cf := some (fileOf pool2 11 #[.nestMembers #[122, 9]] #[{ accessFlags := 8, nameIndex := 61, descriptorIndex := 62, attributes := #[] }] 48 4 #[] #[{ accessFlags := 26, nameIndex := 173, descriptorIndex := 109, attributes := #[] }, { accessFlags := 26, nameIndex := 176, descriptorIndex := 109, attributes := #[] }, { accessFlags := 26, nameIndex := 178, descriptorIndex := 109, attributes := #[] }, { accessFlags := 26, nameIndex := 180, descriptorIndex := 109, attributes := #[] }, { accessFlags := 26, nameIndex := 181, descriptorIndex := 109, attributes := #[] }, { accessFlags := 26, nameIndex := 183, descriptorIndex := 109, attributes := #[] }, { accessFlags := 26, nameIndex := 185, descriptorIndex := 109, attributes := #[] }, { accessFlags := 18, nameIndex := 28, descriptorIndex := 23, attributes := #[] }, { accessFlags := 18, nameIndex := 34, descriptorIndex := 31, attributes := #[] }, { accessFlags := 18, nameIndex := 37, descriptorIndex := 38, attributes := #[] }, { accessFlags := 2, nameIndex := 18, descriptorIndex := 19, attributes := #[] }, { accessFlags := 2, nameIndex := 79, descriptorIndex := 80, attributes := #[] }])
  fields := #[{ name := "MOST_PROBES", type := .int, accessFlags := 26, slot := 0, constantValue := 0 }, { name := "MOST_TIES", type := .int, accessFlags := 26, slot := 1, constantValue := 0 }, { name := "FIRST_SLOTS", type := .int, accessFlags := 26, slot := 2, constantValue := 0 }, { name := "MOST_SLOTS", type := .int, accessFlags := 26, slot := 3, constantValue := 0 }, { name := "FREE", type := .int, accessFlags := 26, slot := 4, constantValue := 0 }, { name := "VACATED", type := .int, accessFlags := 26, slot := 5, constantValue := 0 }, { name := "NO_SLOT", type := .int, accessFlags := 26, slot := 6, constantValue := 0 }, { name := "positions", type := (.array .int), accessFlags := 18, slot := 0, constantValue := 0 }, { name := "collations", type := (.array (.object "com/example/affinary/affinary/Collation")), accessFlags := 18, slot := 1, constantValue := 0 }, { name := "rows", type := (.object "java/util/function/LongFunction"), accessFlags := 18, slot := 2, constantValue := 0 }, { name := "slots", type := (.object "com/example/affinary/affinary/KeyIndex$Slots"), accessFlags := 2, slot := 3, constantValue := 0 }, { name := "crowded", type := (.object "java/util/TreeMap"), accessFlags := 2, slot := 4, constantValue := 0 }]
  methods := #[k2m0]
  instanceTypes := #[(.array .int), (.array (.object "com/example/affinary/affinary/Collation")), (.object "java/util/function/LongFunction"), (.object "com/example/affinary/affinary/KeyIndex$Slots"), (.object "java/util/TreeMap")]
  staticTypes := #[.int, .int, .int, .int, .int, .int, .int]
  resolved := Array.replicate 229 none
  statics := none }

def pool3 : Array CpInfo := pool [(1, u "java/lang/Cloneable"), (0, .class_ 1), (0, u "java/lang/Object"), (0, .class_ 3)] 3

/-- java/lang/Cloneable -/
def k3 : Class := { plain "java/lang/Cloneable" (some 0) with
  accessFlags := 1537
  interfaces := #[]
  cf := some (fileOf pool3 2 #[] #[] 1537 4 #[] #[])
  fields := #[]
  methods := #[]
  instanceTypes := #[]
  staticTypes := #[]
  resolved := Array.replicate 8 none
  statics := none }

def pool4 : Array CpInfo := pool [(1, u "java/io/Serializable"), (0, .class_ 1), (0, u "java/lang/Object"), (0, .class_ 3)] 3

/-- java/io/Serializable -/
def k4 : Class := { plain "java/io/Serializable" (some 0) with
  accessFlags := 1537
  interfaces := #[]
  cf := some (fileOf pool4 2 #[] #[] 1537 4 #[] #[])
  fields := #[]
  methods := #[]
  instanceTypes := #[]
  staticTypes := #[]
  resolved := Array.replicate 8 none
  statics := none }

/-- the primitive byte -/
def k5 : Class := { plain "byte" none with kind := .primitive 'B', accessFlags := 0x411 }
/-- [B -/
def k6 : Class := { plain "[B" (some 0) with kind := .array 5 .byte, interfaces := #[3, 4], accessFlags := 1041 }

def heap : Heap := #[]
def classes : Array Class := #[k0, k1, k2, k3, k4, k5, k6]
def interned : List (Array UInt16 × Addr) := []
def slotsUsed : Nat := 0
def theMethod : MethodId := ⟨1, 1⟩
def args0 : Array Value := #[.int 5]
def aboutOver (below : List Frame) : State where
  vm := { classes := classes, interned := interned.toArray }
  heap := heap
  slotsUsed := slotsUsed
  threads := #[{ frames := .invoking theMethod args0 :: below }]
def below0 : List Frame := [.native { method := ⟨0, 0⟩, args := #[] }]
def about1 : State := aboutOver below0
def p0 : Program := .bare "" "" ""
def e0 : Env := launch0.env 0 0 0
theorem w_frames : about1.frames = Frame.invoking theMethod args0 :: below0 := rfl
set_option maxRecDepth 65536 in
theorem w_args : argsFit about1.vm theMethod args0 = true := by decide +kernel
set_option maxRecDepth 65536 in
theorem w_heap : heapFits about1 = true := by decide +kernel
set_option maxRecDepth 65536 in
theorem w_runnable : about1.curStatus? = some .runnable := by decide +kernel
set_option maxRecDepth 65536 in
theorem w_alone : about1.alone = true := by decide +kernel
set_option maxRecDepth 65536 in
theorem w_named : about1.methodNamed? x = some theMethod := by decide +kernel
set_option maxRecDepth 65536 in
theorem w_hears : about1.hears theMethod below0 = true := by decide +kernel
set_option maxRecDepth 65536 in
theorem w_ripe : about1.ripe theMethod args0 below0 = true := by decide +kernel
theorem w_running : about1.status = .running := rfl
set_option maxRecDepth 65536 in
theorem w_room : about1.hasRoom e0.platform room_1 = true :=
  launch0.hasRoom_least _ room_1 (by decide +kernel) (by decide +kernel) (by decide +kernel) (by decide +kernel) (by decide +kernel) (by decide +kernel)
theorem allAtoms_all (ts : List Jvm.Cond) (a : Array Jvm.Value) (st : Jvm.State) : (allAtoms ts).before a st = ts.all (fun c => c.before a st) := by
  induction ts with
  | nil => rfl
  | cons c t ih =>
    show (Jvm.Cond.and c (allAtoms t)).before a st = _
    rw [Jvm.Cond.before_and, ih, List.all_cons]
def words1 : List Jvm.Cond := Jvm.Cond.code x code maxLocals ret :: tables_1
/-- a 'code' word, met by the world's own term for the bytes: nothing is compared byte by byte -/
theorem code_word {y : MethodName} {bytes : ByteArray} {mx : Nat} {rt : Option FieldType} {a : Array Value} {s : State} {m : MethodId} {meth : Method} {c : Code} (h1 : s.methodNamed? y = some m) (h2 : s.vm.method? m = some meth) (h3 : meth.code = some c) (h4 : c.code = bytes)
    (h5 : (c.maxLocals == mx && c.exceptionTable.isEmpty && decide (c.maxStack ≤ mostOperands) && decide (meth.sig.returnType = rt) && !meth.locks && decide (parseMethodDescriptor y.desc = some meth.sig)) = true) : (Jvm.Cond.code y bytes mx rt).before a s = true := by
  simp only [Bool.and_eq_true, beq_iff_eq, Bool.not_eq_true', decide_eq_true_eq] at h5
  obtain ⟨⟨⟨⟨⟨g1, g2⟩, g3⟩, g4⟩, g5⟩, g6⟩ := h5
  simp [Cond.before, Cond.holds, Cond.value, h1, h2, h3, h4, g1, g2, g3, g4, g5, g6]
def isCode : Jvm.Cond → Bool
  | .code _ _ _ _ => true
  | _ => false
theorem all_split {L : List Jvm.Cond} {P : Jvm.Cond → Bool} (h1 : L.all (fun c => isCode c || P c) = true) (h2 : ∀ c ∈ L.filter isCode, P c = true) : L.all P = true := by
  refine List.all_eq_true.mpr fun c hc => ?_
  have h := List.all_eq_true.mp h1 c hc
  rcases Bool.eq_false_or_eq_true (isCode c) with hi | hi
  · exact h2 c (List.mem_filter.mpr ⟨hc, hi⟩)
  · simpa [hi] using h
set_option maxRecDepth 65536 in
theorem w_c0 : (Jvm.Cond.code x code maxLocals ret).before args0 about1 = true := code_word (m := ⟨1, 1⟩) (meth := k1m1) (c := k1c1) (by decide +kernel) rfl rfl rfl (by decide +kernel)
set_option maxRecDepth 65536 in
theorem w_c1 : (Jvm.Cond.code ({ cls := "com/example/affinary/affinary/KeyIndex", name := "tag", desc := "(I)I" } : Jvm.MethodName) prog_226_method_16_code (2 : Nat) (Option.some Jvm.ClassFile.FieldType.int)).before args0 about1 = true := code_word (m := ⟨2, 0⟩) (meth := k2m0) (c := k2c0) (by decide +kernel) rfl rfl rfl (by decide +kernel)
set_option maxRecDepth 65536 in
theorem w_c2 : (Jvm.Cond.code ({ cls := "com/example/affinary/affinary/KeyIndexTagPinLaw", name := "unmix", desc := "(I)I" } : Jvm.MethodName) method_4_code (2 : Nat) (Option.some Jvm.ClassFile.FieldType.int)).before args0 about1 = true := code_word (m := ⟨1, 3⟩) (meth := k1m3) (c := k1c3) (by decide +kernel) rfl rfl rfl (by decide +kernel)
set_option maxRecDepth 65536 in
theorem w_c3 : (Jvm.Cond.code ({ cls := "com/example/affinary/affinary/KeyIndexTagPinLaw", name := "inverse", desc := "(I)I" } : Jvm.MethodName) method_3_code (2 : Nat) (Option.some Jvm.ClassFile.FieldType.int)).before args0 about1 = true := code_word (m := ⟨1, 2⟩) (meth := k1m2) (c := k1c2) (by decide +kernel) rfl rfl rfl (by decide +kernel)
def codes1 : List Jvm.Cond := [Jvm.Cond.code x code maxLocals ret, Jvm.Cond.code ({ cls := "com/example/affinary/affinary/KeyIndex", name := "tag", desc := "(I)I" } : Jvm.MethodName) prog_226_method_16_code (2 : Nat) (Option.some Jvm.ClassFile.FieldType.int), Jvm.Cond.code ({ cls := "com/example/affinary/affinary/KeyIndexTagPinLaw", name := "unmix", desc := "(I)I" } : Jvm.MethodName) method_4_code (2 : Nat) (Option.some Jvm.ClassFile.FieldType.int), Jvm.Cond.code ({ cls := "com/example/affinary/affinary/KeyIndexTagPinLaw", name := "inverse", desc := "(I)I" } : Jvm.MethodName) method_3_code (2 : Nat) (Option.some Jvm.ClassFile.FieldType.int)]
set_option maxRecDepth 65536 in
theorem codes_eq : words1.filter isCode = codes1 := rfl
theorem w_codes : ∀ c ∈ words1.filter isCode, c.before args0 about1 = true := by
  rw [codes_eq]
  intro c hc
  simp only [codes1, List.mem_cons, List.not_mem_nil, or_false] at hc
  rcases hc with rfl | rfl | rfl | rfl
  · exact w_c0
  · exact w_c1
  · exact w_c2
  · exact w_c3
set_option maxRecDepth 65536 in
theorem w_t1 : words1.all (fun c => isCode c || c.before args0 about1) = true := by decide +kernel
theorem w_tables : (allAtoms (Jvm.Cond.code x code maxLocals ret :: tables_1)).before args0 about1 = true := by
  rw [allAtoms_all]
  show words1.all (fun c => c.before args0 about1) = true
  refine all_split ?_ w_codes
  rw [w_t1]
set_option maxRecDepth 65536 in
theorem w_case : (Jvm.Cond.and given_1 narrow_1).before args0 about1 = true := by decide +kernel
theorem w_applies : (headSpec (Jvm.Cond.code x code maxLocals ret :: tables_1) room_1).applies x e0.platform about1 = true :=
  (Spec.applies_iff w_frames).mpr ⟨w_running, w_runnable, w_alone, w_named, w_hears, w_ripe, w_room, w_tables⟩
theorem atStart : AtStart classFile x code maxLocals ret World_1 tables_1 room_1 Calls_1 rest_1 Pre_1 launch0 p0 e0 about1 theMethod args0 below0 :=
  ⟨lists_1, trivial, launch0.admits_env _ _ _, launch0.least_env, fairChoices_fair.cas, fairChoices_fair.clock, w_frames, w_args, w_heap, w_applies, trivial, trivial, w_case⟩
end start1
theorem witness_1 : WitnessClaimed_1 := ⟨start1.p0, start1.e0, start1.about1, start1.theMethod, start1.args0, start1.below0, start1.atStart⟩
end Jvm.Pilot.@@N@@
