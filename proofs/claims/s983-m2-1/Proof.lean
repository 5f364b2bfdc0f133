import JvmDerived
import JvmDerived.Pilot.@@N@@Statement
import JvmDerived.Pilot.@@N@@Code
set_option linter.unusedVariables false
set_option linter.unusedSimpArgs false
@@BLOCK:NumsL.lean.txt@@
namespace Jvm.RoadKit
open Sem ClassFile Op Lib Jvm.Stand Jvm.Free Jvm.LawKit
section New
variable {p : Program} {l : Launch} {e : Env} {R : Room} {s : State} {m : MethodId} {args : Array Value} {below : List Frame} {meth : Method} {c : Code} {T : State} {locs : List Loc} {cells slots : Nat}
theorem retI (X : Stand p l e R s m args below meth c T locs cells slots) (hx : p.tables.exec = Jvm.exec) {pc : Nat} {Ls : Array Slot} {z : Int32} {rest : List Value} (hret : meth.sig.returnType = some .int) (hd : decode c.code pc = .ok (.ireturn, 1)) {fs : List Frame}
    (hl : ∀ (f : JFrame) (acts : List Action), f.method = m → f.locked = none → f.entered = [] → (doReturn e (T.setTop f) acts (some (.int z))).1 = T.setFrames fs) : Steps p.tables e below (T.setTop (mkF m pc Ls (.int z :: rest))) (T.setFrames fs) := by
  have hm' : T.vm.method? m = some meth := X.method'
  have hn : narrow .int (.int z) = .int z := rfl
  show Steps p.tables e below (T.setTop { method := m, pc := pc, locals := Ls, stack := _ :: rest, locked := none }) _
  jvm_step X.here [X.here.top, hx, hd, hm', hret, hn]
  first | (intro acts; rw [hl _ acts rfl rfl rfl]) | rw [hl _ _ rfl rfl rfl]
  exact Steps.refl _
end New
end Jvm.RoadKit
namespace Jvm.Pilot.@@N@@
open Jvm Jvm.ClassFile Sem Op Lib Jvm.Free Jvm.Stand Jvm.LawKit Jvm.RoadKit Bundle Jvm.Pilot.@@N@@.Jvm.D

def own_lev : Nat → Int32
  | 0 => 0 | 1 => 0 | 2 => 1 | 3 => 2 | 4 => 2 | 5 => 3 | 6 => 4 | _ => 5
def own_idx (p : Int32) : Nat := if p = 0 then 0 else if p = 1 then 1 else if p = 2 then 2 else if p = 3 then 3 else if p = 4 then 4 else if p = 5 then 5 else if p = 6 then 6 else 7
def own_depth (p : Int32) : Int32 := if p < 2 then 0 else if p = 2 then 1 else if p < 5 then 2 else p - 2
def own_holds (i1 j1 v1 i2 j2 v2 : Int32) : Int32 := if i2 < i1 then 0 else if j1 < j2 then 0 else if v1 < v2 then 1 else 0
def own_r1 (p : Int32) : Int32 := p &&& 7
def own_r2 (p : Int32) : Int32 := ((p.toUInt32 >>> ((3 : Int32) &&& 31).toUInt32).toInt32) &&& 7
theorem own_idx_lt (p : Int32) : own_idx p < 8 := by
  unfold own_idx
  repeat' split
  all_goals decide
theorem own_small (p : Int32) : (p &&& 7) = 0 ∨ (p &&& 7) = 1 ∨ (p &&& 7) = 2 ∨ (p &&& 7) = 3 ∨ (p &&& 7) = 4 ∨ (p &&& 7) = 5 ∨ (p &&& 7) = 6 ∨ (p &&& 7) = 7 := by
  have h := Jvm.Kit.i32_mask p 7 (k := 3) (by decide) (by decide)
  have e0 : (0 : Int32).toInt = 0 := by decide
  have e1 : (1 : Int32).toInt = 1 := by decide
  have e2 : (2 : Int32).toInt = 2 := by decide
  have e3 : (3 : Int32).toInt = 3 := by decide
  have e4 : (4 : Int32).toInt = 4 := by decide
  have e5 : (5 : Int32).toInt = 5 := by decide
  have e6 : (6 : Int32).toInt = 6 := by decide
  have e7 : (7 : Int32).toInt = 7 := by decide
  simp only [← Int32.toInt_inj, e0, e1, e2, e3, e4, e5, e6, e7]
  omega
theorem own_depth_lev (p : Int32) : own_depth (p &&& 7) = own_lev (own_idx (p &&& 7)) := by
  rcases own_small p with h | h | h | h | h | h | h | h <;> rw [h] <;> decide
theorem own_dr1 (p : Int32) : own_lev (own_idx (own_r1 p)) = own_depth (own_r1 p) := (own_depth_lev p).symm
theorem own_dr2 (p : Int32) : own_lev (own_idx (own_r2 p)) = own_depth (own_r2 p) := (own_depth_lev _).symm
theorem own_h0 {i1 j1 v1 i2 j2 v2 : Int32} (h : i2 < i1) : own_holds i1 j1 v1 i2 j2 v2 = 0 := if_pos h
theorem own_h1 {i1 j1 v1 i2 j2 v2 : Int32} (h : ¬ i2 < i1) (k : j1 < j2) : own_holds i1 j1 v1 i2 j2 v2 = 0 := by unfold own_holds; rw [if_neg h, if_pos k]
theorem own_h2 {i1 j1 v1 i2 j2 v2 : Int32} (h : ¬ i2 < i1) (k : ¬ j1 < j2) (q : v1 < v2) : own_holds i1 j1 v1 i2 j2 v2 = 1 := by unfold own_holds; rw [if_neg h, if_neg k, if_pos q]
theorem own_h3 {i1 j1 v1 i2 j2 v2 : Int32} (h : ¬ i2 < i1) (k : ¬ j1 < j2) (q : ¬ v1 < v2) : own_holds i1 j1 v1 i2 j2 v2 = 0 := by unfold own_holds; rw [if_neg h, if_neg k, if_neg q]
theorem own_d0 {p : Int32} (h : p < 2) : own_depth p = 0 := if_pos h
theorem own_d1 {p : Int32} (h : ¬ p < 2) (k : p = 2) : own_depth p = 1 := by unfold own_depth; rw [if_neg h, if_pos k]
theorem own_d2 {p : Int32} (h : ¬ p < 2) (k : ¬ p = 2) (q : p < 5) : own_depth p = 2 := by unfold own_depth; rw [if_neg h, if_neg k, if_pos q]
theorem own_d3 {p : Int32} (h : ¬ p < 2) (k : ¬ p = 2) (q : ¬ p < 5) : own_depth p = p - 2 := by unfold own_depth; rw [if_neg h, if_neg k, if_neg q]
theorem own_sta {Z : State} {h h' : Heap} {C n d : String} {w : Value} (F : Sta Z h C n d w) (K : Keep h h' []) : Sta Z h' C n d w := by
  obtain ⟨cf, i, k, f, st, cell, h1, h2, h3, h4, h5, r⟩ := F
  exact ⟨cf, i, k, f, st, cell, h1, h2, h3, h4, K.2.1 st cell h5 nin0, r⟩
def own_Rk (Z : State) (h : Heap) (cs : Nat → Addr) : Prop := (Sta Z h "com/example/planwright/planwright/division/Rank" "ARTICLE" "Lcom/example/planwright/planwright/division/Rank;" (.ref (cs 0)) ∧ Sta Z h "com/example/planwright/planwright/division/Rank" "APPENDIX" "Lcom/example/planwright/planwright/division/Rank;" (.ref (cs 1)) ∧ Sta Z h "com/example/planwright/planwright/division/Rank" "SECTION" "Lcom/example/planwright/planwright/division/Rank;" (.ref (cs 2)) ∧ Sta Z h "com/example/planwright/planwright/division/Rank" "DEFINITION" "Lcom/example/planwright/planwright/division/Rank;" (.ref (cs 3)) ∧ Sta Z h "com/example/planwright/planwright/division/Rank" "NUMBERED_DEFINITION" "Lcom/example/planwright/planwright/division/Rank;" (.ref (cs 4)) ∧ Sta Z h "com/example/planwright/planwright/division/Rank" "PARAGRAPH" "Lcom/example/planwright/planwright/division/Rank;" (.ref (cs 5)) ∧ Sta Z h "com/example/planwright/planwright/division/Rank" "NUMBERED_PARAGRAPH" "Lcom/example/planwright/planwright/division/Rank;" (.ref (cs 6)) ∧ Sta Z h "com/example/planwright/planwright/division/Rank" "SUBPARAGRAPH" "Lcom/example/planwright/planwright/division/Rank;" (.ref (cs 7))) ∧ ∀ i, i < 8 → Exa Z h (cs i) "com/example/planwright/planwright/division/Rank" ∧ Fld Z h (cs i) "com/example/planwright/planwright/division/Rank" "level" "I" (.int (own_lev i))
theorem own_Rk_keep {Z : State} {h h' : Heap} {cs : Nat → Addr} (F : own_Rk Z h cs) (K : Keep h h' []) : own_Rk Z h' cs := by
  obtain ⟨⟨s0, s1, s2, s3, s4, s5, s6, s7⟩, r⟩ := F
  exact ⟨⟨own_sta s0 K, own_sta s1 K, own_sta s2 K, own_sta s3 K, own_sta s4 K, own_sta s5 K, own_sta s6 K, own_sta s7 K⟩, fun i hi => ⟨(r i hi).1.keep K, (r i hi).2.keep K nin0⟩⟩
theorem own_rk {Z : State} {args : Array Value} {N : String} {k : Int32} (h1 : (Jvm.Cond.exactly (Jvm.Term.static "com/example/planwright/planwright/division/Rank" N "Lcom/example/planwright/planwright/division/Rank;") "com/example/planwright/planwright/division/Rank").value args Z none Z [] = some true) (h2 : (Jvm.Cond.eq (Jvm.Term.field (Jvm.Term.static "com/example/planwright/planwright/division/Rank" N "Lcom/example/planwright/planwright/division/Rank;") "com/example/planwright/planwright/division/Rank" "level" "I") (Jvm.Term.int k)).value args Z none Z [] = some true) (wi : (Jvm.Cond.initialized "com/example/planwright/planwright/division/Rank").before args Z = true) (wl : (Jvm.Cond.laysStatic "com/example/planwright/planwright/division/Rank" N "Lcom/example/planwright/planwright/division/Rank;").before args Z = true) :
    ∃ a : Addr, Sta Z Z.heap "com/example/planwright/planwright/division/Rank" N "Lcom/example/planwright/planwright/division/Rank;" (.ref a) ∧ Exa Z Z.heap a "com/example/planwright/planwright/division/Rank" ∧ Fld Z Z.heap a "com/example/planwright/planwright/division/Rank" "level" "I" (.int k) := by
  obtain ⟨a, ev⟩ := exa_v h1
  have q := eqv_i (Term.int_eval k) h2
  rw [fld_at ev] at q
  exact ⟨a, Sta.start ev (Or.inr ⟨wi, wl⟩), Exa.start ev h1, Fld.start q⟩
theorem own_sub : ∀ d ∈ Bundle.stringAtoms, d ∈ tables_1 := by
  intro d hd
  simp only [Bundle.stringAtoms, List.mem_cons, List.not_mem_nil, or_false] at hd
  rcases hd with rfl | rfl | rfl | rfl | rfl | rfl | rfl
  · exact List.mem_of_getElem? (i := 11) rfl
  · exact List.mem_of_getElem? (i := 12) rfl
  · exact List.mem_of_getElem? (i := 13) rfl
  · exact List.mem_of_getElem? (i := 14) rfl
  · exact List.mem_of_getElem? (i := 15) rfl
  · exact List.mem_of_getElem? (i := 16) rfl
  · exact List.mem_of_getElem? (i := 17) rfl

theorem own_pd0 : parseMethodDescriptor "()V" = some ⟨[], none⟩ := by decide +kernel
theorem own_pd1 : parseMethodDescriptor "()I" = some ⟨[], some .int⟩ := by decide +kernel
theorem own_pd2 : parseMethodDescriptor "()Lcom/example/planwright/planwright/division/Rank;" = some ⟨[], some (.object "com/example/planwright/planwright/division/Rank")⟩ := by decide +kernel
theorem own_pd3 : parseMethodDescriptor "(I)Lcom/example/planwright/planwright/division/Rank;" = some ⟨[.int], some (.object "com/example/planwright/planwright/division/Rank")⟩ := by decide +kernel
theorem own_pd4 : parseMethodDescriptor "(Lcom/example/planwright/planwright/division/Rank;Ljava/lang/String;Ljava/lang/String;IIILjava/util/List;)V" = some ⟨[(.object "com/example/planwright/planwright/division/Rank"), (.object "java/lang/String"), (.object "java/lang/String"), .int, .int, .int, (.object "java/util/List")], none⟩ := by decide +kernel
theorem own_pd5 : parseMethodDescriptor "(Lcom/example/planwright/planwright/division/Division;)Z" = some ⟨[(.object "com/example/planwright/planwright/division/Division")], some .boolean⟩ := by decide +kernel
theorem own_pd6 : parseMethodDescriptor "(I)I" = some ⟨[.int], some .int⟩ := by decide +kernel
theorem d1_0 : decode method_2_code 0 = .ok (.iload_n 0, 1) := by decide +kernel
theorem d1_1 : decode method_2_code 1 = .ok (.ifCond .ne 7, 3) := by decide +kernel
theorem d1_4 : decode method_2_code 4 = .ok (.getstatic 7, 3) := by decide +kernel
theorem d1_7 : decode method_2_code 7 = .ok (.areturn, 1) := by decide +kernel
theorem d1_8 : decode method_2_code 8 = .ok (.iload_n 0, 1) := by decide +kernel
theorem d1_9 : decode method_2_code 9 = .ok (.iconst 1, 1) := by decide +kernel
theorem d1_10 : decode method_2_code 10 = .ok (.if_icmp .ne 7, 3) := by decide +kernel
theorem d1_13 : decode method_2_code 13 = .ok (.getstatic 13, 3) := by decide +kernel
theorem d1_16 : decode method_2_code 16 = .ok (.areturn, 1) := by decide +kernel
theorem d1_17 : decode method_2_code 17 = .ok (.iload_n 0, 1) := by decide +kernel
theorem d1_18 : decode method_2_code 18 = .ok (.iconst 2, 1) := by decide +kernel
theorem d1_19 : decode method_2_code 19 = .ok (.if_icmp .ne 7, 3) := by decide +kernel
theorem d1_22 : decode method_2_code 22 = .ok (.getstatic 16, 3) := by decide +kernel
theorem d1_25 : decode method_2_code 25 = .ok (.areturn, 1) := by decide +kernel
theorem d1_26 : decode method_2_code 26 = .ok (.iload_n 0, 1) := by decide +kernel
theorem d1_27 : decode method_2_code 27 = .ok (.iconst 3, 1) := by decide +kernel
theorem d1_28 : decode method_2_code 28 = .ok (.if_icmp .ne 7, 3) := by decide +kernel
theorem d1_31 : decode method_2_code 31 = .ok (.getstatic 19, 3) := by decide +kernel
theorem d1_34 : decode method_2_code 34 = .ok (.areturn, 1) := by decide +kernel
theorem d1_35 : decode method_2_code 35 = .ok (.iload_n 0, 1) := by decide +kernel
theorem d1_36 : decode method_2_code 36 = .ok (.iconst 4, 1) := by decide +kernel
theorem d1_37 : decode method_2_code 37 = .ok (.if_icmp .ne 7, 3) := by decide +kernel
theorem d1_40 : decode method_2_code 40 = .ok (.getstatic 22, 3) := by decide +kernel
theorem d1_43 : decode method_2_code 43 = .ok (.areturn, 1) := by decide +kernel
theorem d1_44 : decode method_2_code 44 = .ok (.iload_n 0, 1) := by decide +kernel
theorem d1_45 : decode method_2_code 45 = .ok (.iconst 5, 1) := by decide +kernel
theorem d1_46 : decode method_2_code 46 = .ok (.if_icmp .ne 7, 3) := by decide +kernel
theorem d1_49 : decode method_2_code 49 = .ok (.getstatic 25, 3) := by decide +kernel
theorem d1_52 : decode method_2_code 52 = .ok (.areturn, 1) := by decide +kernel
theorem d1_53 : decode method_2_code 53 = .ok (.iload_n 0, 1) := by decide +kernel
theorem d1_54 : decode method_2_code 54 = .ok (.bipush 6, 2) := by decide +kernel
theorem d1_56 : decode method_2_code 56 = .ok (.if_icmp .ne 7, 3) := by decide +kernel
theorem d1_59 : decode method_2_code 59 = .ok (.getstatic 28, 3) := by decide +kernel
theorem d1_62 : decode method_2_code 62 = .ok (.areturn, 1) := by decide +kernel
theorem d1_63 : decode method_2_code 63 = .ok (.getstatic 31, 3) := by decide +kernel
theorem d1_66 : decode method_2_code 66 = .ok (.areturn, 1) := by decide +kernel
theorem pn_1 : plainName "com/example/planwright/planwright/division/DivisionHoldsPinLaw" = true := by first | (simp [plainName, overriddenIn]; done) | decide +kernel
theorem ef_1 (m : MethodId) (x0 : Int32) : entryFrame m #[(.int x0)] 1 = mkF m 0 #[.val (.int x0)] [] := by first | (simp [entryFrame, mkF, argsToLocals, Value.category]; done) | rfl
def Q1 (Z : State) (p1 : Int32) (cs : Nat → Addr) (h0 : Heap) (n0 : Nat) (v : Option Value) (h : Heap) (L : List Loc) : Prop := v = some (.ref (cs (own_idx p1))) ∧ Fr n0 L ∧ h = h0
set_option maxRecDepth 65536 in
set_option maxHeartbeats 40000000 in
theorem rm1 (l : Launch) (Z : State) (a0 : Array Value) (hw : ∀ d ∈ tables_1, d.before a0 Z = true) (ws : List Jvm.Cond) (p1 : Int32) (cs : Nat → Addr) (h0 : Heap) (n0 : Nat) (Z0 : n0 ≤ h0.size) (hR : own_Rk Z h0 cs) :
    MetFree l (⟨"com/example/planwright/planwright/division/DivisionHoldsPinLaw", "rankOf", "(I)Lcom/example/planwright/planwright/division/Rank;"⟩ : MethodName) (head1 (Jvm.Cond.code (⟨"com/example/planwright/planwright/division/DivisionHoldsPinLaw", "rankOf", "(I)Lcom/example/planwright/planwright/division/Rank;"⟩ : MethodName) method_2_code 1 (some (.object "com/example/planwright/planwright/division/Rank")) :: ws) ({ frames := 0, cells := 0, slots := 0, locals := 0 } : Room)) (fun a U => a = #[(.int p1)] ∧ Z.Warmed39 U.vm ∧ U.heap = h0) (fun _ _ _ _ _ => True) (fun _ U o U' => ∃ v L, o = .returned v ∧ Q1 Z p1 cs h0 n0 v U'.heap L ∧ FrameEnd U o U' L ({ frames := 0, cells := 0, slots := 0, locals := 0 } : Room).cells ({ frames := 0, cells := 0, slots := 0, locals := 0 } : Room).slots) := by
  refine MetFree.of_bodySF (plainFor_of_name pn_1) hisR ?_
  intro p e s m args below meth c s₁ Bd hml0 hP hK
  obtain ⟨rfl, hZ, hh⟩ := hP
  have hx := Bd.exec
  have hby := Bd.bytes
  have hml : c.maxLocals = 1 := hml0
  have hown : s.vm.findClass "com/example/planwright/planwright/division/DivisionHoldsPinLaw" = some m.cls := findClass_of_methodNamed Bd.named
  have hnm := (name_of_methodNamed Bd.named Bd.method).1
  have X0 : Stand p l e ({ frames := 0, cells := 0, slots := 0, locals := 0 } : Room) s m #[(.int p1)] below meth c s₁ [] 0 0 := Stand.of_body Bd
  have e0 : s₁.heap = h0 := by rw [← hh, Bd.state]; rfl
  have N0 := Fr.nil n0
  have pre0 : ∀ t, Steps p.tables e below (s₁.setTop (mkF m 0 #[.val (.int p1)] [])) t → Steps p.tables e below (s₁.setTop (entryFrame m #[(.int p1)] 1)) t := fun t k => castTop (ef_1 m p1) k
  obtain ⟨⟨S0, S1, S2, S3, S4, S5, S6, S7⟩, -⟩ := hR
  by_cases k0 : p1 = 0
  · have hi : own_idx p1 = 0 := by unfold own_idx; rw [if_pos k0]
    obtain ⟨T2, X2, e2, st2⟩ := getS2 X0 hx hZ hown (host := "") (Or.inl (hw _ (List.mem_of_getElem? (i := 7) rfl))) Via.refl e0 S0 (g := (mkF m 4 #[.val (.int p1)] [])) rfl (hb hby d1_4)
    obtain ⟨fs, hr, hrun, hended, hW, hsame⟩ := X2.leave (v := some (.ref (cs (own_idx p1)))) (fun h => by rw [Bd.returns] at h; cases h)
    refine ⟨_, _, pre0 _ ?_, hrun, hended, _, _, rfl, ?_, ⟨_, rfl⟩, hW, hsame.mono (by decide) (by decide)⟩
    · show Steps p.tables e below (s₁.setTop (mkF m 0 #[.val (.int p1)] [])) _
      refine XS.iloadN X0.here hx rfl (hb hby d1_0) rfl ?_
      show Steps p.tables e below (s₁.setTop (mkF m 1 #[.val (.int p1)] [(.int p1)])) _
      refine XS.ifNo X0.here hx rfl (hb hby d1_1) rfl ((if0 _ _).trans (teq k0).2) ?_
      show Steps p.tables e below (s₁.setTop (mkF m 4 #[.val (.int p1)] [])) _
      refine st2 _ ?_
      show Steps p.tables e below (T2.setTop (mkF m 7 #[.val (.int p1)] [(.ref (cs 0))])) _
      rw [hi] at hr
      exact X2.areturnOut hx rfl Bd.returns rfl (hb hby d1_7) hr
    · show Q1 Z p1 cs h0 n0 _ T2.heap _
      rw [e2]
      exact ⟨rfl, N0, rfl⟩
  · skip
    by_cases k1 : p1 = 1
    · have hi : own_idx p1 = 1 := by unfold own_idx; rw [if_neg k0, if_pos k1]
      obtain ⟨T2, X2, e2, st2⟩ := getS2 X0 hx hZ hown (host := "") (Or.inl (hw _ (List.mem_of_getElem? (i := 105) rfl))) Via.refl e0 S1 (g := (mkF m 13 #[.val (.int p1)] [])) rfl (hb hby d1_13)
      obtain ⟨fs, hr, hrun, hended, hW, hsame⟩ := X2.leave (v := some (.ref (cs (own_idx p1)))) (fun h => by rw [Bd.returns] at h; cases h)
      refine ⟨_, _, pre0 _ ?_, hrun, hended, _, _, rfl, ?_, ⟨_, rfl⟩, hW, hsame.mono (by decide) (by decide)⟩
      · show Steps p.tables e below (s₁.setTop (mkF m 0 #[.val (.int p1)] [])) _
        refine XS.iloadN X0.here hx rfl (hb hby d1_0) rfl ?_
        show Steps p.tables e below (s₁.setTop (mkF m 1 #[.val (.int p1)] [(.int p1)])) _
        refine XS.ifYes X0.here hx rfl (pc0 := 1) (pc' := 8) rfl (hb hby d1_1) rfl ((if0 _ _).trans (feq k0).2) (by decide) (by decide) ?_
        show Steps p.tables e below (s₁.setTop (mkF m 8 #[.val (.int p1)] [])) _
        refine XS.iloadN X0.here hx rfl (hb hby d1_8) rfl ?_
        show Steps p.tables e below (s₁.setTop (mkF m 9 #[.val (.int p1)] [(.int p1)])) _
        refine XS.iconst X0.here hx rfl (hb hby d1_9) ?_
        show Steps p.tables e below (s₁.setTop (mkF m 10 #[.val (.int p1)] [(.int (1 : Int32)), (.int p1)])) _
        refine XS.icmpNo X0.here hx rfl (hb hby d1_10) rfl (teq k1).2 ?_
        show Steps p.tables e below (s₁.setTop (mkF m 13 #[.val (.int p1)] [])) _
        refine st2 _ ?_
        show Steps p.tables e below (T2.setTop (mkF m 16 #[.val (.int p1)] [(.ref (cs 1))])) _
        rw [hi] at hr
        exact X2.areturnOut hx rfl Bd.returns rfl (hb hby d1_16) hr
      · show Q1 Z p1 cs h0 n0 _ T2.heap _
        rw [e2]
        exact ⟨rfl, N0, rfl⟩
    · skip
      by_cases k2 : p1 = 2
      · have hi : own_idx p1 = 2 := by unfold own_idx; rw [if_neg k0, if_neg k1, if_pos k2]
        obtain ⟨T2, X2, e2, st2⟩ := getS2 X0 hx hZ hown (host := "") (Or.inl (hw _ (List.mem_of_getElem? (i := 101) rfl))) Via.refl e0 S2 (g := (mkF m 22 #[.val (.int p1)] [])) rfl (hb hby d1_22)
        obtain ⟨fs, hr, hrun, hended, hW, hsame⟩ := X2.leave (v := some (.ref (cs (own_idx p1)))) (fun h => by rw [Bd.returns] at h; cases h)
        refine ⟨_, _, pre0 _ ?_, hrun, hended, _, _, rfl, ?_, ⟨_, rfl⟩, hW, hsame.mono (by decide) (by decide)⟩
        · show Steps p.tables e below (s₁.setTop (mkF m 0 #[.val (.int p1)] [])) _
          refine XS.iloadN X0.here hx rfl (hb hby d1_0) rfl ?_
          show Steps p.tables e below (s₁.setTop (mkF m 1 #[.val (.int p1)] [(.int p1)])) _
          refine XS.ifYes X0.here hx rfl (pc0 := 1) (pc' := 8) rfl (hb hby d1_1) rfl ((if0 _ _).trans (feq k0).2) (by decide) (by decide) ?_
          show Steps p.tables e below (s₁.setTop (mkF m 8 #[.val (.int p1)] [])) _
          refine XS.iloadN X0.here hx rfl (hb hby d1_8) rfl ?_
          show Steps p.tables e below (s₁.setTop (mkF m 9 #[.val (.int p1)] [(.int p1)])) _
          refine XS.iconst X0.here hx rfl (hb hby d1_9) ?_
          show Steps p.tables e below (s₁.setTop (mkF m 10 #[.val (.int p1)] [(.int (1 : Int32)), (.int p1)])) _
          refine XS.icmpYes X0.here hx rfl (pc0 := 10) (pc' := 17) rfl (hb hby d1_10) rfl (feq k1).2 (by decide) (by decide) ?_
          show Steps p.tables e below (s₁.setTop (mkF m 17 #[.val (.int p1)] [])) _
          refine XS.iloadN X0.here hx rfl (hb hby d1_17) rfl ?_
          show Steps p.tables e below (s₁.setTop (mkF m 18 #[.val (.int p1)] [(.int p1)])) _
          refine XS.iconst X0.here hx rfl (hb hby d1_18) ?_
          show Steps p.tables e below (s₁.setTop (mkF m 19 #[.val (.int p1)] [(.int (2 : Int32)), (.int p1)])) _
          refine XS.icmpNo X0.here hx rfl (hb hby d1_19) rfl (teq k2).2 ?_
          show Steps p.tables e below (s₁.setTop (mkF m 22 #[.val (.int p1)] [])) _
          refine st2 _ ?_
          show Steps p.tables e below (T2.setTop (mkF m 25 #[.val (.int p1)] [(.ref (cs 2))])) _
          rw [hi] at hr
          exact X2.areturnOut hx rfl Bd.returns rfl (hb hby d1_25) hr
        · show Q1 Z p1 cs h0 n0 _ T2.heap _
          rw [e2]
          exact ⟨rfl, N0, rfl⟩
      · skip
        by_cases k3 : p1 = 3
        · have hi : own_idx p1 = 3 := by unfold own_idx; rw [if_neg k0, if_neg k1, if_neg k2, if_pos k3]
          obtain ⟨T2, X2, e2, st2⟩ := getS2 X0 hx hZ hown (host := "") (Or.inl (hw _ (List.mem_of_getElem? (i := 77) rfl))) Via.refl e0 S3 (g := (mkF m 31 #[.val (.int p1)] [])) rfl (hb hby d1_31)
          obtain ⟨fs, hr, hrun, hended, hW, hsame⟩ := X2.leave (v := some (.ref (cs (own_idx p1)))) (fun h => by rw [Bd.returns] at h; cases h)
          refine ⟨_, _, pre0 _ ?_, hrun, hended, _, _, rfl, ?_, ⟨_, rfl⟩, hW, hsame.mono (by decide) (by decide)⟩
          · show Steps p.tables e below (s₁.setTop (mkF m 0 #[.val (.int p1)] [])) _
            refine XS.iloadN X0.here hx rfl (hb hby d1_0) rfl ?_
            show Steps p.tables e below (s₁.setTop (mkF m 1 #[.val (.int p1)] [(.int p1)])) _
            refine XS.ifYes X0.here hx rfl (pc0 := 1) (pc' := 8) rfl (hb hby d1_1) rfl ((if0 _ _).trans (feq k0).2) (by decide) (by decide) ?_
            show Steps p.tables e below (s₁.setTop (mkF m 8 #[.val (.int p1)] [])) _
            refine XS.iloadN X0.here hx rfl (hb hby d1_8) rfl ?_
            show Steps p.tables e below (s₁.setTop (mkF m 9 #[.val (.int p1)] [(.int p1)])) _
            refine XS.iconst X0.here hx rfl (hb hby d1_9) ?_
            show Steps p.tables e below (s₁.setTop (mkF m 10 #[.val (.int p1)] [(.int (1 : Int32)), (.int p1)])) _
            refine XS.icmpYes X0.here hx rfl (pc0 := 10) (pc' := 17) rfl (hb hby d1_10) rfl (feq k1).2 (by decide) (by decide) ?_
            show Steps p.tables e below (s₁.setTop (mkF m 17 #[.val (.int p1)] [])) _
            refine XS.iloadN X0.here hx rfl (hb hby d1_17) rfl ?_
            show Steps p.tables e below (s₁.setTop (mkF m 18 #[.val (.int p1)] [(.int p1)])) _
            refine XS.iconst X0.here hx rfl (hb hby d1_18) ?_
            show Steps p.tables e below (s₁.setTop (mkF m 19 #[.val (.int p1)] [(.int (2 : Int32)), (.int p1)])) _
            refine XS.icmpYes X0.here hx rfl (pc0 := 19) (pc' := 26) rfl (hb hby d1_19) rfl (feq k2).2 (by decide) (by decide) ?_
            show Steps p.tables e below (s₁.setTop (mkF m 26 #[.val (.int p1)] [])) _
            refine XS.iloadN X0.here hx rfl (hb hby d1_26) rfl ?_
            show Steps p.tables e below (s₁.setTop (mkF m 27 #[.val (.int p1)] [(.int p1)])) _
            refine XS.iconst X0.here hx rfl (hb hby d1_27) ?_
            show Steps p.tables e below (s₁.setTop (mkF m 28 #[.val (.int p1)] [(.int (3 : Int32)), (.int p1)])) _
            refine XS.icmpNo X0.here hx rfl (hb hby d1_28) rfl (teq k3).2 ?_
            show Steps p.tables e below (s₁.setTop (mkF m 31 #[.val (.int p1)] [])) _
            refine st2 _ ?_
            show Steps p.tables e below (T2.setTop (mkF m 34 #[.val (.int p1)] [(.ref (cs 3))])) _
            rw [hi] at hr
            exact X2.areturnOut hx rfl Bd.returns rfl (hb hby d1_34) hr
          · show Q1 Z p1 cs h0 n0 _ T2.heap _
            rw [e2]
            exact ⟨rfl, N0, rfl⟩
        · skip
          by_cases k4 : p1 = 4
          · have hi : own_idx p1 = 4 := by unfold own_idx; rw [if_neg k0, if_neg k1, if_neg k2, if_neg k3, if_pos k4]
            obtain ⟨T2, X2, e2, st2⟩ := getS2 X0 hx hZ hown (host := "") (Or.inl (hw _ (List.mem_of_getElem? (i := 109) rfl))) Via.refl e0 S4 (g := (mkF m 40 #[.val (.int p1)] [])) rfl (hb hby d1_40)
            obtain ⟨fs, hr, hrun, hended, hW, hsame⟩ := X2.leave (v := some (.ref (cs (own_idx p1)))) (fun h => by rw [Bd.returns] at h; cases h)
            refine ⟨_, _, pre0 _ ?_, hrun, hended, _, _, rfl, ?_, ⟨_, rfl⟩, hW, hsame.mono (by decide) (by decide)⟩
            · show Steps p.tables e below (s₁.setTop (mkF m 0 #[.val (.int p1)] [])) _
              refine XS.iloadN X0.here hx rfl (hb hby d1_0) rfl ?_
              show Steps p.tables e below (s₁.setTop (mkF m 1 #[.val (.int p1)] [(.int p1)])) _
              refine XS.ifYes X0.here hx rfl (pc0 := 1) (pc' := 8) rfl (hb hby d1_1) rfl ((if0 _ _).trans (feq k0).2) (by decide) (by decide) ?_
              show Steps p.tables e below (s₁.setTop (mkF m 8 #[.val (.int p1)] [])) _
              refine XS.iloadN X0.here hx rfl (hb hby d1_8) rfl ?_
              show Steps p.tables e below (s₁.setTop (mkF m 9 #[.val (.int p1)] [(.int p1)])) _
              refine XS.iconst X0.here hx rfl (hb hby d1_9) ?_
              show Steps p.tables e below (s₁.setTop (mkF m 10 #[.val (.int p1)] [(.int (1 : Int32)), (.int p1)])) _
              refine XS.icmpYes X0.here hx rfl (pc0 := 10) (pc' := 17) rfl (hb hby d1_10) rfl (feq k1).2 (by decide) (by decide) ?_
              show Steps p.tables e below (s₁.setTop (mkF m 17 #[.val (.int p1)] [])) _
              refine XS.iloadN X0.here hx rfl (hb hby d1_17) rfl ?_
              show Steps p.tables e below (s₁.setTop (mkF m 18 #[.val (.int p1)] [(.int p1)])) _
              refine XS.iconst X0.here hx rfl (hb hby d1_18) ?_
              show Steps p.tables e below (s₁.setTop (mkF m 19 #[.val (.int p1)] [(.int (2 : Int32)), (.int p1)])) _
              refine XS.icmpYes X0.here hx rfl (pc0 := 19) (pc' := 26) rfl (hb hby d1_19) rfl (feq k2).2 (by decide) (by decide) ?_
              show Steps p.tables e below (s₁.setTop (mkF m 26 #[.val (.int p1)] [])) _
              refine XS.iloadN X0.here hx rfl (hb hby d1_26) rfl ?_
              show Steps p.tables e below (s₁.setTop (mkF m 27 #[.val (.int p1)] [(.int p1)])) _
              refine XS.iconst X0.here hx rfl (hb hby d1_27) ?_
              show Steps p.tables e below (s₁.setTop (mkF m 28 #[.val (.int p1)] [(.int (3 : Int32)), (.int p1)])) _
              refine XS.icmpYes X0.here hx rfl (pc0 := 28) (pc' := 35) rfl (hb hby d1_28) rfl (feq k3).2 (by decide) (by decide) ?_
              show Steps p.tables e below (s₁.setTop (mkF m 35 #[.val (.int p1)] [])) _
              refine XS.iloadN X0.here hx rfl (hb hby d1_35) rfl ?_
              show Steps p.tables e below (s₁.setTop (mkF m 36 #[.val (.int p1)] [(.int p1)])) _
              refine XS.iconst X0.here hx rfl (hb hby d1_36) ?_
              show Steps p.tables e below (s₁.setTop (mkF m 37 #[.val (.int p1)] [(.int (4 : Int32)), (.int p1)])) _
              refine XS.icmpNo X0.here hx rfl (hb hby d1_37) rfl (teq k4).2 ?_
              show Steps p.tables e below (s₁.setTop (mkF m 40 #[.val (.int p1)] [])) _
              refine st2 _ ?_
              show Steps p.tables e below (T2.setTop (mkF m 43 #[.val (.int p1)] [(.ref (cs 4))])) _
              rw [hi] at hr
              exact X2.areturnOut hx rfl Bd.returns rfl (hb hby d1_43) hr
            · show Q1 Z p1 cs h0 n0 _ T2.heap _
              rw [e2]
              exact ⟨rfl, N0, rfl⟩
          · skip
            by_cases k5 : p1 = 5
            · have hi : own_idx p1 = 5 := by unfold own_idx; rw [if_neg k0, if_neg k1, if_neg k2, if_neg k3, if_neg k4, if_pos k5]
              obtain ⟨T2, X2, e2, st2⟩ := getS2 X0 hx hZ hown (host := "") (Or.inl (hw _ (List.mem_of_getElem? (i := 107) rfl))) Via.refl e0 S5 (g := (mkF m 49 #[.val (.int p1)] [])) rfl (hb hby d1_49)
              obtain ⟨fs, hr, hrun, hended, hW, hsame⟩ := X2.leave (v := some (.ref (cs (own_idx p1)))) (fun h => by rw [Bd.returns] at h; cases h)
              refine ⟨_, _, pre0 _ ?_, hrun, hended, _, _, rfl, ?_, ⟨_, rfl⟩, hW, hsame.mono (by decide) (by decide)⟩
              · show Steps p.tables e below (s₁.setTop (mkF m 0 #[.val (.int p1)] [])) _
                refine XS.iloadN X0.here hx rfl (hb hby d1_0) rfl ?_
                show Steps p.tables e below (s₁.setTop (mkF m 1 #[.val (.int p1)] [(.int p1)])) _
                refine XS.ifYes X0.here hx rfl (pc0 := 1) (pc' := 8) rfl (hb hby d1_1) rfl ((if0 _ _).trans (feq k0).2) (by decide) (by decide) ?_
                show Steps p.tables e below (s₁.setTop (mkF m 8 #[.val (.int p1)] [])) _
                refine XS.iloadN X0.here hx rfl (hb hby d1_8) rfl ?_
                show Steps p.tables e below (s₁.setTop (mkF m 9 #[.val (.int p1)] [(.int p1)])) _
                refine XS.iconst X0.here hx rfl (hb hby d1_9) ?_
                show Steps p.tables e below (s₁.setTop (mkF m 10 #[.val (.int p1)] [(.int (1 : Int32)), (.int p1)])) _
                refine XS.icmpYes X0.here hx rfl (pc0 := 10) (pc' := 17) rfl (hb hby d1_10) rfl (feq k1).2 (by decide) (by decide) ?_
                show Steps p.tables e below (s₁.setTop (mkF m 17 #[.val (.int p1)] [])) _
                refine XS.iloadN X0.here hx rfl (hb hby d1_17) rfl ?_
                show Steps p.tables e below (s₁.setTop (mkF m 18 #[.val (.int p1)] [(.int p1)])) _
                refine XS.iconst X0.here hx rfl (hb hby d1_18) ?_
                show Steps p.tables e below (s₁.setTop (mkF m 19 #[.val (.int p1)] [(.int (2 : Int32)), (.int p1)])) _
                refine XS.icmpYes X0.here hx rfl (pc0 := 19) (pc' := 26) rfl (hb hby d1_19) rfl (feq k2).2 (by decide) (by decide) ?_
                show Steps p.tables e below (s₁.setTop (mkF m 26 #[.val (.int p1)] [])) _
                refine XS.iloadN X0.here hx rfl (hb hby d1_26) rfl ?_
                show Steps p.tables e below (s₁.setTop (mkF m 27 #[.val (.int p1)] [(.int p1)])) _
                refine XS.iconst X0.here hx rfl (hb hby d1_27) ?_
                show Steps p.tables e below (s₁.setTop (mkF m 28 #[.val (.int p1)] [(.int (3 : Int32)), (.int p1)])) _
                refine XS.icmpYes X0.here hx rfl (pc0 := 28) (pc' := 35) rfl (hb hby d1_28) rfl (feq k3).2 (by decide) (by decide) ?_
                show Steps p.tables e below (s₁.setTop (mkF m 35 #[.val (.int p1)] [])) _
                refine XS.iloadN X0.here hx rfl (hb hby d1_35) rfl ?_
                show Steps p.tables e below (s₁.setTop (mkF m 36 #[.val (.int p1)] [(.int p1)])) _
                refine XS.iconst X0.here hx rfl (hb hby d1_36) ?_
                show Steps p.tables e below (s₁.setTop (mkF m 37 #[.val (.int p1)] [(.int (4 : Int32)), (.int p1)])) _
                refine XS.icmpYes X0.here hx rfl (pc0 := 37) (pc' := 44) rfl (hb hby d1_37) rfl (feq k4).2 (by decide) (by decide) ?_
                show Steps p.tables e below (s₁.setTop (mkF m 44 #[.val (.int p1)] [])) _
                refine XS.iloadN X0.here hx rfl (hb hby d1_44) rfl ?_
                show Steps p.tables e below (s₁.setTop (mkF m 45 #[.val (.int p1)] [(.int p1)])) _
                refine XS.iconst X0.here hx rfl (hb hby d1_45) ?_
                show Steps p.tables e below (s₁.setTop (mkF m 46 #[.val (.int p1)] [(.int (5 : Int32)), (.int p1)])) _
                refine XS.icmpNo X0.here hx rfl (hb hby d1_46) rfl (teq k5).2 ?_
                show Steps p.tables e below (s₁.setTop (mkF m 49 #[.val (.int p1)] [])) _
                refine st2 _ ?_
                show Steps p.tables e below (T2.setTop (mkF m 52 #[.val (.int p1)] [(.ref (cs 5))])) _
                rw [hi] at hr
                exact X2.areturnOut hx rfl Bd.returns rfl (hb hby d1_52) hr
              · show Q1 Z p1 cs h0 n0 _ T2.heap _
                rw [e2]
                exact ⟨rfl, N0, rfl⟩
            · skip
              by_cases k6 : p1 = 6
              · have hi : own_idx p1 = 6 := by unfold own_idx; rw [if_neg k0, if_neg k1, if_neg k2, if_neg k3, if_neg k4, if_neg k5, if_pos k6]
                obtain ⟨T2, X2, e2, st2⟩ := getS2 X0 hx hZ hown (host := "") (Or.inl (hw _ (List.mem_of_getElem? (i := 103) rfl))) Via.refl e0 S6 (g := (mkF m 59 #[.val (.int p1)] [])) rfl (hb hby d1_59)
                obtain ⟨fs, hr, hrun, hended, hW, hsame⟩ := X2.leave (v := some (.ref (cs (own_idx p1)))) (fun h => by rw [Bd.returns] at h; cases h)
                refine ⟨_, _, pre0 _ ?_, hrun, hended, _, _, rfl, ?_, ⟨_, rfl⟩, hW, hsame.mono (by decide) (by decide)⟩
                · show Steps p.tables e below (s₁.setTop (mkF m 0 #[.val (.int p1)] [])) _
                  refine XS.iloadN X0.here hx rfl (hb hby d1_0) rfl ?_
                  show Steps p.tables e below (s₁.setTop (mkF m 1 #[.val (.int p1)] [(.int p1)])) _
                  refine XS.ifYes X0.here hx rfl (pc0 := 1) (pc' := 8) rfl (hb hby d1_1) rfl ((if0 _ _).trans (feq k0).2) (by decide) (by decide) ?_
                  show Steps p.tables e below (s₁.setTop (mkF m 8 #[.val (.int p1)] [])) _
                  refine XS.iloadN X0.here hx rfl (hb hby d1_8) rfl ?_
                  show Steps p.tables e below (s₁.setTop (mkF m 9 #[.val (.int p1)] [(.int p1)])) _
                  refine XS.iconst X0.here hx rfl (hb hby d1_9) ?_
                  show Steps p.tables e below (s₁.setTop (mkF m 10 #[.val (.int p1)] [(.int (1 : Int32)), (.int p1)])) _
                  refine XS.icmpYes X0.here hx rfl (pc0 := 10) (pc' := 17) rfl (hb hby d1_10) rfl (feq k1).2 (by decide) (by decide) ?_
                  show Steps p.tables e below (s₁.setTop (mkF m 17 #[.val (.int p1)] [])) _
                  refine XS.iloadN X0.here hx rfl (hb hby d1_17) rfl ?_
                  show Steps p.tables e below (s₁.setTop (mkF m 18 #[.val (.int p1)] [(.int p1)])) _
                  refine XS.iconst X0.here hx rfl (hb hby d1_18) ?_
                  show Steps p.tables e below (s₁.setTop (mkF m 19 #[.val (.int p1)] [(.int (2 : Int32)), (.int p1)])) _
                  refine XS.icmpYes X0.here hx rfl (pc0 := 19) (pc' := 26) rfl (hb hby d1_19) rfl (feq k2).2 (by decide) (by decide) ?_
                  show Steps p.tables e below (s₁.setTop (mkF m 26 #[.val (.int p1)] [])) _
                  refine XS.iloadN X0.here hx rfl (hb hby d1_26) rfl ?_
                  show Steps p.tables e below (s₁.setTop (mkF m 27 #[.val (.int p1)] [(.int p1)])) _
                  refine XS.iconst X0.here hx rfl (hb hby d1_27) ?_
                  show Steps p.tables e below (s₁.setTop (mkF m 28 #[.val (.int p1)] [(.int (3 : Int32)), (.int p1)])) _
                  refine XS.icmpYes X0.here hx rfl (pc0 := 28) (pc' := 35) rfl (hb hby d1_28) rfl (feq k3).2 (by decide) (by decide) ?_
                  show Steps p.tables e below (s₁.setTop (mkF m 35 #[.val (.int p1)] [])) _
                  refine XS.iloadN X0.here hx rfl (hb hby d1_35) rfl ?_
                  show Steps p.tables e below (s₁.setTop (mkF m 36 #[.val (.int p1)] [(.int p1)])) _
                  refine XS.iconst X0.here hx rfl (hb hby d1_36) ?_
                  show Steps p.tables e below (s₁.setTop (mkF m 37 #[.val (.int p1)] [(.int (4 : Int32)), (.int p1)])) _
                  refine XS.icmpYes X0.here hx rfl (pc0 := 37) (pc' := 44) rfl (hb hby d1_37) rfl (feq k4).2 (by decide) (by decide) ?_
                  show Steps p.tables e below (s₁.setTop (mkF m 44 #[.val (.int p1)] [])) _
                  refine XS.iloadN X0.here hx rfl (hb hby d1_44) rfl ?_
                  show Steps p.tables e below (s₁.setTop (mkF m 45 #[.val (.int p1)] [(.int p1)])) _
                  refine XS.iconst X0.here hx rfl (hb hby d1_45) ?_
                  show Steps p.tables e below (s₁.setTop (mkF m 46 #[.val (.int p1)] [(.int (5 : Int32)), (.int p1)])) _
                  refine XS.icmpYes X0.here hx rfl (pc0 := 46) (pc' := 53) rfl (hb hby d1_46) rfl (feq k5).2 (by decide) (by decide) ?_
                  show Steps p.tables e below (s₁.setTop (mkF m 53 #[.val (.int p1)] [])) _
                  refine XS.iloadN X0.here hx rfl (hb hby d1_53) rfl ?_
                  show Steps p.tables e below (s₁.setTop (mkF m 54 #[.val (.int p1)] [(.int p1)])) _
                  refine XS.bipush X0.here hx rfl (hb hby d1_54) ?_
                  show Steps p.tables e below (s₁.setTop (mkF m 56 #[.val (.int p1)] [(.int (6 : Int32)), (.int p1)])) _
                  refine XS.icmpNo X0.here hx rfl (hb hby d1_56) rfl (teq k6).2 ?_
                  show Steps p.tables e below (s₁.setTop (mkF m 59 #[.val (.int p1)] [])) _
                  refine st2 _ ?_
                  show Steps p.tables e below (T2.setTop (mkF m 62 #[.val (.int p1)] [(.ref (cs 6))])) _
                  rw [hi] at hr
                  exact X2.areturnOut hx rfl Bd.returns rfl (hb hby d1_62) hr
                · show Q1 Z p1 cs h0 n0 _ T2.heap _
                  rw [e2]
                  exact ⟨rfl, N0, rfl⟩
              · skip
                have hi : own_idx p1 = 7 := by unfold own_idx; rw [if_neg k0, if_neg k1, if_neg k2, if_neg k3, if_neg k4, if_neg k5, if_neg k6]
                obtain ⟨T2, X2, e2, st2⟩ := getS2 X0 hx hZ hown (host := "") (Or.inl (hw _ (List.mem_of_getElem? (i := 99) rfl))) Via.refl e0 S7 (g := (mkF m 63 #[.val (.int p1)] [])) rfl (hb hby d1_63)
                obtain ⟨fs, hr, hrun, hended, hW, hsame⟩ := X2.leave (v := some (.ref (cs (own_idx p1)))) (fun h => by rw [Bd.returns] at h; cases h)
                refine ⟨_, _, pre0 _ ?_, hrun, hended, _, _, rfl, ?_, ⟨_, rfl⟩, hW, hsame.mono (by decide) (by decide)⟩
                · show Steps p.tables e below (s₁.setTop (mkF m 0 #[.val (.int p1)] [])) _
                  refine XS.iloadN X0.here hx rfl (hb hby d1_0) rfl ?_
                  show Steps p.tables e below (s₁.setTop (mkF m 1 #[.val (.int p1)] [(.int p1)])) _
                  refine XS.ifYes X0.here hx rfl (pc0 := 1) (pc' := 8) rfl (hb hby d1_1) rfl ((if0 _ _).trans (feq k0).2) (by decide) (by decide) ?_
                  show Steps p.tables e below (s₁.setTop (mkF m 8 #[.val (.int p1)] [])) _
                  refine XS.iloadN X0.here hx rfl (hb hby d1_8) rfl ?_
                  show Steps p.tables e below (s₁.setTop (mkF m 9 #[.val (.int p1)] [(.int p1)])) _
                  refine XS.iconst X0.here hx rfl (hb hby d1_9) ?_
                  show Steps p.tables e below (s₁.setTop (mkF m 10 #[.val (.int p1)] [(.int (1 : Int32)), (.int p1)])) _
                  refine XS.icmpYes X0.here hx rfl (pc0 := 10) (pc' := 17) rfl (hb hby d1_10) rfl (feq k1).2 (by decide) (by decide) ?_
                  show Steps p.tables e below (s₁.setTop (mkF m 17 #[.val (.int p1)] [])) _
                  refine XS.iloadN X0.here hx rfl (hb hby d1_17) rfl ?_
                  show Steps p.tables e below (s₁.setTop (mkF m 18 #[.val (.int p1)] [(.int p1)])) _
                  refine XS.iconst X0.here hx rfl (hb hby d1_18) ?_
                  show Steps p.tables e below (s₁.setTop (mkF m 19 #[.val (.int p1)] [(.int (2 : Int32)), (.int p1)])) _
                  refine XS.icmpYes X0.here hx rfl (pc0 := 19) (pc' := 26) rfl (hb hby d1_19) rfl (feq k2).2 (by decide) (by decide) ?_
                  show Steps p.tables e below (s₁.setTop (mkF m 26 #[.val (.int p1)] [])) _
                  refine XS.iloadN X0.here hx rfl (hb hby d1_26) rfl ?_
                  show Steps p.tables e below (s₁.setTop (mkF m 27 #[.val (.int p1)] [(.int p1)])) _
                  refine XS.iconst X0.here hx rfl (hb hby d1_27) ?_
                  show Steps p.tables e below (s₁.setTop (mkF m 28 #[.val (.int p1)] [(.int (3 : Int32)), (.int p1)])) _
                  refine XS.icmpYes X0.here hx rfl (pc0 := 28) (pc' := 35) rfl (hb hby d1_28) rfl (feq k3).2 (by decide) (by decide) ?_
                  show Steps p.tables e below (s₁.setTop (mkF m 35 #[.val (.int p1)] [])) _
                  refine XS.iloadN X0.here hx rfl (hb hby d1_35) rfl ?_
                  show Steps p.tables e below (s₁.setTop (mkF m 36 #[.val (.int p1)] [(.int p1)])) _
                  refine XS.iconst X0.here hx rfl (hb hby d1_36) ?_
                  show Steps p.tables e below (s₁.setTop (mkF m 37 #[.val (.int p1)] [(.int (4 : Int32)), (.int p1)])) _
                  refine XS.icmpYes X0.here hx rfl (pc0 := 37) (pc' := 44) rfl (hb hby d1_37) rfl (feq k4).2 (by decide) (by decide) ?_
                  show Steps p.tables e below (s₁.setTop (mkF m 44 #[.val (.int p1)] [])) _
                  refine XS.iloadN X0.here hx rfl (hb hby d1_44) rfl ?_
                  show Steps p.tables e below (s₁.setTop (mkF m 45 #[.val (.int p1)] [(.int p1)])) _
                  refine XS.iconst X0.here hx rfl (hb hby d1_45) ?_
                  show Steps p.tables e below (s₁.setTop (mkF m 46 #[.val (.int p1)] [(.int (5 : Int32)), (.int p1)])) _
                  refine XS.icmpYes X0.here hx rfl (pc0 := 46) (pc' := 53) rfl (hb hby d1_46) rfl (feq k5).2 (by decide) (by decide) ?_
                  show Steps p.tables e below (s₁.setTop (mkF m 53 #[.val (.int p1)] [])) _
                  refine XS.iloadN X0.here hx rfl (hb hby d1_53) rfl ?_
                  show Steps p.tables e below (s₁.setTop (mkF m 54 #[.val (.int p1)] [(.int p1)])) _
                  refine XS.bipush X0.here hx rfl (hb hby d1_54) ?_
                  show Steps p.tables e below (s₁.setTop (mkF m 56 #[.val (.int p1)] [(.int (6 : Int32)), (.int p1)])) _
                  refine XS.icmpYes X0.here hx rfl (pc0 := 56) (pc' := 63) rfl (hb hby d1_56) rfl (feq k6).2 (by decide) (by decide) ?_
                  show Steps p.tables e below (s₁.setTop (mkF m 63 #[.val (.int p1)] [])) _
                  refine st2 _ ?_
                  show Steps p.tables e below (T2.setTop (mkF m 66 #[.val (.int p1)] [(.ref (cs 7))])) _
                  rw [hi] at hr
                  exact X2.areturnOut hx rfl Bd.returns rfl (hb hby d1_66) hr
                · show Q1 Z p1 cs h0 n0 _ T2.heap _
                  rw [e2]
                  exact ⟨rfl, N0, rfl⟩
theorem d4_0 : decode jdk_22_method_1_code 0 = .ok (.aload_n 0, 1) := by decide +kernel
theorem d4_1 : decode jdk_22_method_1_code 1 = .ok (.invokespecial 1, 3) := by decide +kernel
theorem d4_4 : decode jdk_22_method_1_code 4 = .ok (.return_, 1) := by decide +kernel
theorem pn_4 : plainName "java/util/AbstractCollection" = true := by first | (simp [plainName, overriddenIn]; done) | decide +kernel
theorem ef_4 (m : MethodId) (x0 : Addr) : entryFrame m #[(.ref x0)] 1 = mkF m 0 #[.val (.ref x0)] [] := by first | (simp [entryFrame, mkF, argsToLocals, Value.category]; done) | rfl
def Q4 (Z : State) (a1 : Addr) (h0 : Heap) (n0 : Nat) (v : Option Value) (h : Heap) (L : List Loc) : Prop := v = none ∧ Fr n0 L ∧ h = h0
set_option maxRecDepth 65536 in
set_option maxHeartbeats 40000000 in
theorem rm4 (l : Launch) (Z : State) (a0 : Array Value) (hw : ∀ d ∈ tables_1, d.before a0 Z = true) (ws : List Jvm.Cond) (a1 : Addr) (h0 : Heap) (n0 : Nat) (Z0 : n0 ≤ h0.size) :
    MetFree l (⟨"java/util/AbstractCollection", "<init>", "()V"⟩ : MethodName) (head1 (Jvm.Cond.code (⟨"java/util/AbstractCollection", "<init>", "()V"⟩ : MethodName) jdk_22_method_1_code 1 none :: ws) ({ frames := 1, cells := 0, slots := 0, locals := 12 } : Room)) (fun a U => a = #[(.ref a1)] ∧ Z.Warmed39 U.vm ∧ U.heap = h0) (fun _ _ _ _ _ => True) (fun _ U o U' => ∃ v L, o = .returned v ∧ Q4 Z a1 h0 n0 v U'.heap L ∧ FrameEnd U o U' L ({ frames := 1, cells := 0, slots := 0, locals := 12 } : Room).cells ({ frames := 1, cells := 0, slots := 0, locals := 12 } : Room).slots) := by
  refine MetFree.of_bodySF (plainFor_of_name pn_4) hisR ?_
  intro p e s m args below meth c s₁ Bd hml0 hP hK
  obtain ⟨rfl, hZ, hh⟩ := hP
  have hx := Bd.exec
  have hby := Bd.bytes
  have hml : c.maxLocals = 1 := hml0
  have hown : s.vm.findClass "java/util/AbstractCollection" = some m.cls := findClass_of_methodNamed Bd.named
  have hnm := (name_of_methodNamed Bd.named Bd.method).1
  have X0 : Stand p l e ({ frames := 1, cells := 0, slots := 0, locals := 12 } : Room) s m #[(.ref a1)] below meth c s₁ [] 0 0 := Stand.of_body Bd
  have e0 : s₁.heap = h0 := by rw [← hh, Bd.state]; rfl
  have N0 := Fr.nil n0
  have pre0 : ∀ t, Steps p.tables e below (s₁.setTop (mkF m 0 #[.val (.ref a1)] [])) t → Steps p.tables e below (s₁.setTop (entryFrame m #[(.ref a1)] 1)) t := fun t k => castTop (ef_4 m a1) k
  obtain ⟨T2, X2, e2, st2⟩ := initO X0 hx hZ hown (hw _ (List.mem_of_getElem? (i := 36) rfl)) (hw _ (List.mem_of_getElem? (i := 37) rfl)) (hw _ (List.mem_of_getElem? (i := 38) rfl)) e0 (g := (mkF m 1 #[.val (.ref a1)] [(.ref a1)])) rfl (by rw [hml]; rfl) rfl (hb hby d4_1) (by decide) (W := 0) (by show 2 * 0 + _ ≤ _; exact Nat.le_of_eq rfl) (by decide)
  obtain ⟨fs, hr, hrun, hended, hW, hsame⟩ := X2.leave (v := none) (fun _ => rfl)
  refine ⟨_, _, pre0 _ ?_, hrun, hended, _, _, rfl, ?_, ⟨_, rfl⟩, hW, hsame.mono (by decide) (by decide)⟩
  · show Steps p.tables e below (s₁.setTop (mkF m 0 #[.val (.ref a1)] [])) _
    refine XS.aloadN X0.here hx rfl (hb hby d4_0) rfl rfl ?_
    show Steps p.tables e below (s₁.setTop (mkF m 1 #[.val (.ref a1)] [(.ref a1)])) _
    refine st2 _ ?_
    show Steps p.tables e below (T2.setTop (mkF m 4 #[.val (.ref a1)] [])) _
    exact X2.returnOut hx Bd.returns (hb hby d4_4) hr
  · show Q4 Z a1 h0 n0 _ T2.heap _
    rw [e2]
    exact ⟨rfl, N0, rfl⟩
theorem d3_0 : decode jdk_39_method_1_code 0 = .ok (.aload_n 0, 1) := by decide +kernel
theorem d3_1 : decode jdk_39_method_1_code 1 = .ok (.invokespecial 1, 3) := by decide +kernel
theorem d3_4 : decode jdk_39_method_1_code 4 = .ok (.aload_n 0, 1) := by decide +kernel
theorem d3_5 : decode jdk_39_method_1_code 5 = .ok (.iconst 0, 1) := by decide +kernel
theorem d3_6 : decode jdk_39_method_1_code 6 = .ok (.putfield 7, 3) := by decide +kernel
theorem d3_9 : decode jdk_39_method_1_code 9 = .ok (.return_, 1) := by decide +kernel
theorem pn_3 : plainName "java/util/AbstractList" = true := by first | (simp [plainName, overriddenIn]; done) | decide +kernel
theorem ef_3 (m : MethodId) (x0 : Addr) : entryFrame m #[(.ref x0)] 1 = mkF m 0 #[.val (.ref x0)] [] := by first | (simp [entryFrame, mkF, argsToLocals, Value.category]; done) | rfl
def Q3 (Z : State) (a1 : Addr) (u2 : Value) (w : Addr) (h0 : Heap) (n0 : Nat) (v : Option Value) (h : Heap) (L : List Loc) : Prop := v = none ∧ Fr n0 L ∧ Keep h0 h [a1] ∧ Sta Z h "java/util/ArrayList" "DEFAULTCAPACITY_EMPTY_ELEMENTDATA" "[Ljava/lang/Object;" (.ref w) ∧ Fld Z h a1 "java/util/ArrayList" "elementData" "[Ljava/lang/Object;" u2
set_option maxRecDepth 65536 in
set_option maxHeartbeats 40000000 in
theorem rm3 (l : Launch) (Z : State) (a0 : Array Value) (hw : ∀ d ∈ tables_1, d.before a0 Z = true) (ws : List Jvm.Cond) (a1 : Addr) (u1 u2 : Value) (w : Addr) (h0 : Heap) (n0 : Nat) (Z0 : n0 ≤ h0.size) (E_a1 : Exa Z h0 a1 "java/util/ArrayList") (F_m : Fld Z h0 a1 "java/util/AbstractList" "modCount" "I" u1) (F_e : Fld Z h0 a1 "java/util/ArrayList" "elementData" "[Ljava/lang/Object;" u2) (S_d : Sta Z h0 "java/util/ArrayList" "DEFAULTCAPACITY_EMPTY_ELEMENTDATA" "[Ljava/lang/Object;" (.ref w)) (g_a1 : n0 ≤ a1) :
    MetFree l (⟨"java/util/AbstractList", "<init>", "()V"⟩ : MethodName) (head1 (Jvm.Cond.code (⟨"java/util/AbstractList", "<init>", "()V"⟩ : MethodName) jdk_39_method_1_code 1 none :: ws) ({ frames := 2, cells := 0, slots := 0, locals := 24 } : Room)) (fun a U => a = #[(.ref a1)] ∧ Z.Warmed39 U.vm ∧ U.heap = h0) (fun _ _ _ _ _ => True) (fun _ U o U' => ∃ v L, o = .returned v ∧ Q3 Z a1 u2 w h0 n0 v U'.heap L ∧ FrameEnd U o U' L ({ frames := 2, cells := 0, slots := 0, locals := 24 } : Room).cells ({ frames := 2, cells := 0, slots := 0, locals := 24 } : Room).slots) := by
  refine MetFree.of_bodySF (plainFor_of_name pn_3) hisR ?_
  intro p e s m args below meth c s₁ Bd hml0 hP hK
  obtain ⟨rfl, hZ, hh⟩ := hP
  have hx := Bd.exec
  have hby := Bd.bytes
  have hml : c.maxLocals = 1 := hml0
  have hown : s.vm.findClass "java/util/AbstractList" = some m.cls := findClass_of_methodNamed Bd.named
  have hnm := (name_of_methodNamed Bd.named Bd.method).1
  have X0 : Stand p l e ({ frames := 2, cells := 0, slots := 0, locals := 24 } : Room) s m #[(.ref a1)] below meth c s₁ [] 0 0 := Stand.of_body Bd
  have e0 : s₁.heap = h0 := by rw [← hh, Bd.state]; rfl
  have N0 := Fr.nil n0
  have pre0 : ∀ t, Steps p.tables e below (s₁.setTop (mkF m 0 #[.val (.ref a1)] [])) t → Steps p.tables e below (s₁.setTop (entryFrame m #[(.ref a1)] 1)) t := fun t k => castTop (ef_3 m a1) k
  obtain ⟨_, _, ⟨T2, L2, k2, n2⟩, -, X2, ⟨Lc2, hQ2, l2, y2, z2⟩, st2⟩ := X0.specialBack hx (y := (⟨"java/util/AbstractCollection", "<init>", "()V"⟩ : MethodName)) rfl hown (mvT hZ (hw _ (List.mem_of_getElem? (i := 30) rfl))) (mvT hZ (hw _ (List.mem_of_getElem? (i := 31) rfl))) (mvT hZ (hw _ (List.mem_of_getElem? (i := 35) rfl))) (by decide) (backOf (W := 0) (rm4 l Z a0 hw [] a1 h0 n0 Z0) hZ (hw _ (List.mem_of_getElem? (i := 35) rfl)) (hw _ (List.mem_of_getElem? (i := 34) rfl)) (by decide) (by decide)) (g := (mkF m 1 #[.val (.ref a1)] [(.ref a1)])) rfl (by rw [hml]; rfl) (Steps.refl _) (a := a1) (argsL := []) (rest := []) (lenOf own_pd0 rfl) rfl (by show 2 * 0 + _ ≤ _; exact Nat.le_of_eq rfl) (hb hby d3_1) (fun _ _ => ⟨rfl, e0, (by decide : 0 + 0 ≤ _), (by decide : 0 + 0 ≤ _)⟩)
  dsimp only [Pt.U, Pt.locs, Pt.cells, Pt.slots] at X2 l2 y2 z2 st2 hQ2
  subst l2 y2 z2
  obtain ⟨rfl, N2q, eh⟩ := hQ2
  have N2 := Fr.app N0 N2q
  obtain ⟨T3, h3, X3, e3, W3, st3⟩ := putF X2 hx hZ hown (host := "") (Or.inl (hw _ (List.mem_of_getElem? (i := 39) rfl))) Via.refl eh F_m E_a1 (Or.inl (hw _ (List.mem_of_getElem? (i := 40) rfl))) (hw _ (List.mem_of_getElem? (i := 19) rfl)) (ty := .int) (by decide) rfl rfl (g := (mkF m 6 #[.val (.ref a1)] [(.int (0 : Int32)), (.ref a1)])) rfl rfl (hb hby d3_6)
  have K3 : Keep h0 h3 [a1] := (Keep.refl h0 [a1]).wr W3 (Or.inl (List.mem_of_getElem? (i := 0) rfl))
  have N3 := Fr.snoc X3 N2 g_a1
  have S3 := Sta.wr W3 S_d
  have F3 := F_e.other W3 (Or.inr (slot_ne (Or.inl (hw _ (List.mem_of_getElem? (i := 43) rfl))) (Or.inl (hw _ (List.mem_of_getElem? (i := 40) rfl))) (by decide) (t := (.array (.object "java/lang/Object"))) (t' := .int) (by decide) (by decide)))
  obtain ⟨fs, hr, hrun, hended, hW, hsame⟩ := X3.leave (v := none) (fun _ => rfl)
  refine ⟨_, _, pre0 _ ?_, hrun, hended, _, _, rfl, ?_, ⟨_, rfl⟩, hW, hsame.mono (by decide) (by decide)⟩
  · show Steps p.tables e below (s₁.setTop (mkF m 0 #[.val (.ref a1)] [])) _
    refine XS.aloadN X0.here hx rfl (hb hby d3_0) rfl rfl ?_
    show Steps p.tables e below (s₁.setTop (mkF m 1 #[.val (.ref a1)] [(.ref a1)])) _
    refine st2.trans ?_
    show Steps p.tables e below (T2.setTop (mkF m 4 #[.val (.ref a1)] [])) _
    refine XS.aloadN X2.here hx rfl (hb hby d3_4) rfl rfl ?_
    show Steps p.tables e below (T2.setTop (mkF m 5 #[.val (.ref a1)] [(.ref a1)])) _
    refine XS.iconst X2.here hx rfl (hb hby d3_5) ?_
    show Steps p.tables e below (T2.setTop (mkF m 6 #[.val (.ref a1)] [(.int (0 : Int32)), (.ref a1)])) _
    refine st3 _ ?_
    show Steps p.tables e below (T3.setTop (mkF m 9 #[.val (.ref a1)] [])) _
    exact X3.returnOut hx Bd.returns (hb hby d3_9) hr
  · show Q3 Z a1 u2 w h0 n0 _ T3.heap _
    rw [e3]
    exact ⟨rfl, N3, K3, S3, F3⟩
theorem d2_0 : decode jdk_38_method_2_code 0 = .ok (.aload_n 0, 1) := by decide +kernel
theorem d2_1 : decode jdk_38_method_2_code 1 = .ok (.invokespecial 1, 3) := by decide +kernel
theorem d2_4 : decode jdk_38_method_2_code 4 = .ok (.aload_n 0, 1) := by decide +kernel
theorem d2_5 : decode jdk_38_method_2_code 5 = .ok (.getstatic 39, 3) := by decide +kernel
theorem d2_8 : decode jdk_38_method_2_code 8 = .ok (.putfield 9, 3) := by decide +kernel
theorem d2_11 : decode jdk_38_method_2_code 11 = .ok (.return_, 1) := by decide +kernel
theorem pn_2 : plainName "java/util/ArrayList" = true := by first | (simp [plainName, overriddenIn]; done) | decide +kernel
theorem ef_2 (m : MethodId) (x0 : Addr) : entryFrame m #[(.ref x0)] 1 = mkF m 0 #[.val (.ref x0)] [] := by first | (simp [entryFrame, mkF, argsToLocals, Value.category]; done) | rfl
def Q2 (Z : State) (a1 : Addr) (h0 : Heap) (n0 : Nat) (v : Option Value) (h : Heap) (L : List Loc) : Prop := v = none ∧ Fr n0 L ∧ Keep h0 h [a1]
set_option maxRecDepth 65536 in
set_option maxHeartbeats 40000000 in
theorem rm2 (l : Launch) (Z : State) (a0 : Array Value) (hw : ∀ d ∈ tables_1, d.before a0 Z = true) (ws : List Jvm.Cond) (a1 : Addr) (u1 u2 : Value) (w : Addr) (h0 : Heap) (n0 : Nat) (Z0 : n0 ≤ h0.size) (E_a1 : Exa Z h0 a1 "java/util/ArrayList") (F_m : Fld Z h0 a1 "java/util/AbstractList" "modCount" "I" u1) (F_e : Fld Z h0 a1 "java/util/ArrayList" "elementData" "[Ljava/lang/Object;" u2) (S_d : Sta Z h0 "java/util/ArrayList" "DEFAULTCAPACITY_EMPTY_ELEMENTDATA" "[Ljava/lang/Object;" (.ref w)) (g_a1 : n0 ≤ a1) :
    MetFree l (⟨"java/util/ArrayList", "<init>", "()V"⟩ : MethodName) (head1 (Jvm.Cond.code (⟨"java/util/ArrayList", "<init>", "()V"⟩ : MethodName) jdk_38_method_2_code 1 none :: ws) ({ frames := 3, cells := 0, slots := 0, locals := 36 } : Room)) (fun a U => a = #[(.ref a1)] ∧ Z.Warmed39 U.vm ∧ U.heap = h0) (fun _ _ _ _ _ => True) (fun _ U o U' => ∃ v L, o = .returned v ∧ Q2 Z a1 h0 n0 v U'.heap L ∧ FrameEnd U o U' L ({ frames := 3, cells := 0, slots := 0, locals := 36 } : Room).cells ({ frames := 3, cells := 0, slots := 0, locals := 36 } : Room).slots) := by
  refine MetFree.of_bodySF (plainFor_of_name pn_2) hisR ?_
  intro p e s m args below meth c s₁ Bd hml0 hP hK
  obtain ⟨rfl, hZ, hh⟩ := hP
  have hx := Bd.exec
  have hby := Bd.bytes
  have hml : c.maxLocals = 1 := hml0
  have hown : s.vm.findClass "java/util/ArrayList" = some m.cls := findClass_of_methodNamed Bd.named
  have hnm := (name_of_methodNamed Bd.named Bd.method).1
  have X0 : Stand p l e ({ frames := 3, cells := 0, slots := 0, locals := 36 } : Room) s m #[(.ref a1)] below meth c s₁ [] 0 0 := Stand.of_body Bd
  have e0 : s₁.heap = h0 := by rw [← hh, Bd.state]; rfl
  have N0 := Fr.nil n0
  have pre0 : ∀ t, Steps p.tables e below (s₁.setTop (mkF m 0 #[.val (.ref a1)] [])) t → Steps p.tables e below (s₁.setTop (entryFrame m #[(.ref a1)] 1)) t := fun t k => castTop (ef_2 m a1) k
  obtain ⟨_, _, ⟨T2, L2, k2, n2⟩, -, X2, ⟨Lc2, hQ2, l2, y2, z2⟩, st2⟩ := X0.specialBack hx (y := (⟨"java/util/AbstractList", "<init>", "()V"⟩ : MethodName)) rfl hown (mvT hZ (hw _ (List.mem_of_getElem? (i := 24) rfl))) (mvT hZ (hw _ (List.mem_of_getElem? (i := 25) rfl))) (mvT hZ (hw _ (List.mem_of_getElem? (i := 29) rfl))) (by decide) (backOf (W := 0) (rm3 l Z a0 hw [] a1 u1 u2 w h0 n0 Z0 E_a1 F_m F_e S_d g_a1) hZ (hw _ (List.mem_of_getElem? (i := 29) rfl)) (hw _ (List.mem_of_getElem? (i := 28) rfl)) (by decide) (by decide)) (g := (mkF m 1 #[.val (.ref a1)] [(.ref a1)])) rfl (by rw [hml]; rfl) (Steps.refl _) (a := a1) (argsL := []) (rest := []) (lenOf own_pd0 rfl) rfl (by show 2 * 0 + _ ≤ _; exact Nat.le_of_eq rfl) (hb hby d2_1) (fun _ _ => ⟨rfl, e0, (by decide : 0 + 0 ≤ _), (by decide : 0 + 0 ≤ _)⟩)
  dsimp only [Pt.U, Pt.locs, Pt.cells, Pt.slots] at X2 l2 y2 z2 st2 hQ2
  subst l2 y2 z2
  obtain ⟨rfl, N2q, K2, S2, F2⟩ := hQ2
  have N2 := Fr.app N0 N2q
  obtain ⟨T4, X4, e4, st4⟩ := getS2 X2 hx hZ hown (host := "") (Or.inl (hw _ (List.mem_of_getElem? (i := 41) rfl))) Via.refl rfl S2 (g := (mkF m 5 #[.val (.ref a1)] [(.ref a1)])) rfl (hb hby d2_5)
  obtain ⟨T5, h5, X5, e5, W5, st5⟩ := putF X4 hx hZ hown (host := "") (Or.inl (hw _ (List.mem_of_getElem? (i := 42) rfl))) Via.refl e4 F2 (E_a1.keep K2) (Or.inl (hw _ (List.mem_of_getElem? (i := 43) rfl))) (hw _ (List.mem_of_getElem? (i := 19) rfl)) (ty := (.array (.object "java/lang/Object"))) (by decide) rfl rfl (g := (mkF m 8 #[.val (.ref a1)] [(.ref w), (.ref a1)])) rfl rfl (hb hby d2_8)
  have K5 : Keep h0 h5 [a1] := K2.wr W5 (Or.inl (List.mem_of_getElem? (i := 0) rfl))
  have N5 := Fr.snoc X5 N2 g_a1
  obtain ⟨fs, hr, hrun, hended, hW, hsame⟩ := X5.leave (v := none) (fun _ => rfl)
  refine ⟨_, _, pre0 _ ?_, hrun, hended, _, _, rfl, ?_, ⟨_, rfl⟩, hW, hsame.mono (by decide) (by decide)⟩
  · show Steps p.tables e below (s₁.setTop (mkF m 0 #[.val (.ref a1)] [])) _
    refine XS.aloadN X0.here hx rfl (hb hby d2_0) rfl rfl ?_
    show Steps p.tables e below (s₁.setTop (mkF m 1 #[.val (.ref a1)] [(.ref a1)])) _
    refine st2.trans ?_
    show Steps p.tables e below (T2.setTop (mkF m 4 #[.val (.ref a1)] [])) _
    refine XS.aloadN X2.here hx rfl (hb hby d2_4) rfl rfl ?_
    show Steps p.tables e below (T2.setTop (mkF m 5 #[.val (.ref a1)] [(.ref a1)])) _
    refine st4 _ ?_
    show Steps p.tables e below (T4.setTop (mkF m 8 #[.val (.ref a1)] [(.ref w), (.ref a1)])) _
    refine st5 _ ?_
    show Steps p.tables e below (T5.setTop (mkF m 11 #[.val (.ref a1)] [])) _
    exact X5.returnOut hx Bd.returns (hb hby d2_11) hr
  · show Q2 Z a1 h0 n0 _ T5.heap _
    rw [e5]
    exact ⟨rfl, N5, K5⟩
theorem d7_0 : decode jdk_30_method_1_code 0 = .ok (.aload_n 0, 1) := by decide +kernel
theorem d7_1 : decode jdk_30_method_1_code 1 = .ok (.invokespecial 1, 3) := by decide +kernel
theorem d7_4 : decode jdk_30_method_1_code 4 = .ok (.return_, 1) := by decide +kernel
theorem pn_7 : plainName "java/lang/Record" = true := by first | (simp [plainName, overriddenIn]; done) | decide +kernel
theorem ef_7 (m : MethodId) (x0 : Addr) : entryFrame m #[(.ref x0)] 1 = mkF m 0 #[.val (.ref x0)] [] := by first | (simp [entryFrame, mkF, argsToLocals, Value.category]; done) | rfl
def Q7 (Z : State) (a1 : Addr) (h0 : Heap) (n0 : Nat) (v : Option Value) (h : Heap) (L : List Loc) : Prop := v = none ∧ Fr n0 L ∧ h = h0
set_option maxRecDepth 65536 in
set_option maxHeartbeats 40000000 in
theorem rm7 (l : Launch) (Z : State) (a0 : Array Value) (hw : ∀ d ∈ tables_1, d.before a0 Z = true) (ws : List Jvm.Cond) (a1 : Addr) (h0 : Heap) (n0 : Nat) (Z0 : n0 ≤ h0.size) :
    MetFree l (⟨"java/lang/Record", "<init>", "()V"⟩ : MethodName) (head1 (Jvm.Cond.code (⟨"java/lang/Record", "<init>", "()V"⟩ : MethodName) jdk_30_method_1_code 1 none :: ws) ({ frames := 1, cells := 0, slots := 0, locals := 12 } : Room)) (fun a U => a = #[(.ref a1)] ∧ Z.Warmed39 U.vm ∧ U.heap = h0) (fun _ _ _ _ _ => True) (fun _ U o U' => ∃ v L, o = .returned v ∧ Q7 Z a1 h0 n0 v U'.heap L ∧ FrameEnd U o U' L ({ frames := 1, cells := 0, slots := 0, locals := 12 } : Room).cells ({ frames := 1, cells := 0, slots := 0, locals := 12 } : Room).slots) := by
  refine MetFree.of_bodySF (plainFor_of_name pn_7) hisR ?_
  intro p e s m args below meth c s₁ Bd hml0 hP hK
  obtain ⟨rfl, hZ, hh⟩ := hP
  have hx := Bd.exec
  have hby := Bd.bytes
  have hml : c.maxLocals = 1 := hml0
  have hown : s.vm.findClass "java/lang/Record" = some m.cls := findClass_of_methodNamed Bd.named
  have hnm := (name_of_methodNamed Bd.named Bd.method).1
  have X0 : Stand p l e ({ frames := 1, cells := 0, slots := 0, locals := 12 } : Room) s m #[(.ref a1)] below meth c s₁ [] 0 0 := Stand.of_body Bd
  have e0 : s₁.heap = h0 := by rw [← hh, Bd.state]; rfl
  have N0 := Fr.nil n0
  have pre0 : ∀ t, Steps p.tables e below (s₁.setTop (mkF m 0 #[.val (.ref a1)] [])) t → Steps p.tables e below (s₁.setTop (entryFrame m #[(.ref a1)] 1)) t := fun t k => castTop (ef_7 m a1) k
  obtain ⟨T2, X2, e2, st2⟩ := initO X0 hx hZ hown (hw _ (List.mem_of_getElem? (i := 52) rfl)) (hw _ (List.mem_of_getElem? (i := 37) rfl)) (hw _ (List.mem_of_getElem? (i := 38) rfl)) e0 (g := (mkF m 1 #[.val (.ref a1)] [(.ref a1)])) rfl (by rw [hml]; rfl) rfl (hb hby d7_1) (by decide) (W := 0) (by show 2 * 0 + _ ≤ _; exact Nat.le_of_eq rfl) (by decide)
  obtain ⟨fs, hr, hrun, hended, hW, hsame⟩ := X2.leave (v := none) (fun _ => rfl)
  refine ⟨_, _, pre0 _ ?_, hrun, hended, _, _, rfl, ?_, ⟨_, rfl⟩, hW, hsame.mono (by decide) (by decide)⟩
  · show Steps p.tables e below (s₁.setTop (mkF m 0 #[.val (.ref a1)] [])) _
    refine XS.aloadN X0.here hx rfl (hb hby d7_0) rfl rfl ?_
    show Steps p.tables e below (s₁.setTop (mkF m 1 #[.val (.ref a1)] [(.ref a1)])) _
    refine st2 _ ?_
    show Steps p.tables e below (T2.setTop (mkF m 4 #[.val (.ref a1)] [])) _
    exact X2.returnOut hx Bd.returns (hb hby d7_4) hr
  · show Q7 Z a1 h0 n0 _ T2.heap _
    rw [e2]
    exact ⟨rfl, N0, rfl⟩
theorem d6_0 : decode prog_54_method_1_code 0 = .ok (.aload_n 0, 1) := by decide +kernel
theorem d6_1 : decode prog_54_method_1_code 1 = .ok (.invokespecial 1, 3) := by decide +kernel
theorem d6_4 : decode prog_54_method_1_code 4 = .ok (.aload_n 0, 1) := by decide +kernel
theorem d6_5 : decode prog_54_method_1_code 5 = .ok (.aload_n 1, 1) := by decide +kernel
theorem d6_6 : decode prog_54_method_1_code 6 = .ok (.putfield 7, 3) := by decide +kernel
theorem d6_9 : decode prog_54_method_1_code 9 = .ok (.aload_n 0, 1) := by decide +kernel
theorem d6_10 : decode prog_54_method_1_code 10 = .ok (.aload_n 2, 1) := by decide +kernel
theorem d6_11 : decode prog_54_method_1_code 11 = .ok (.putfield 13, 3) := by decide +kernel
theorem d6_14 : decode prog_54_method_1_code 14 = .ok (.aload_n 0, 1) := by decide +kernel
theorem d6_15 : decode prog_54_method_1_code 15 = .ok (.aload_n 3, 1) := by decide +kernel
theorem d6_16 : decode prog_54_method_1_code 16 = .ok (.putfield 17, 3) := by decide +kernel
theorem d6_19 : decode prog_54_method_1_code 19 = .ok (.aload_n 0, 1) := by decide +kernel
theorem d6_20 : decode prog_54_method_1_code 20 = .ok (.iload 4, 2) := by decide +kernel
theorem d6_22 : decode prog_54_method_1_code 22 = .ok (.putfield 20, 3) := by decide +kernel
theorem d6_25 : decode prog_54_method_1_code 25 = .ok (.aload_n 0, 1) := by decide +kernel
theorem d6_26 : decode prog_54_method_1_code 26 = .ok (.iload 5, 2) := by decide +kernel
theorem d6_28 : decode prog_54_method_1_code 28 = .ok (.putfield 24, 3) := by decide +kernel
theorem d6_31 : decode prog_54_method_1_code 31 = .ok (.aload_n 0, 1) := by decide +kernel
theorem d6_32 : decode prog_54_method_1_code 32 = .ok (.iload 6, 2) := by decide +kernel
theorem d6_34 : decode prog_54_method_1_code 34 = .ok (.putfield 27, 3) := by decide +kernel
theorem d6_37 : decode prog_54_method_1_code 37 = .ok (.aload_n 0, 1) := by decide +kernel
theorem d6_38 : decode prog_54_method_1_code 38 = .ok (.aload 7, 2) := by decide +kernel
theorem d6_40 : decode prog_54_method_1_code 40 = .ok (.putfield 30, 3) := by decide +kernel
theorem d6_43 : decode prog_54_method_1_code 43 = .ok (.return_, 1) := by decide +kernel
theorem pn_6 : plainName "com/example/planwright/planwright/division/Division" = true := by first | (simp [plainName, overriddenIn]; done) | decide +kernel
theorem pd_6_1 : parseMethodDescriptor "()V" = some ⟨[], none⟩ := by decide +kernel
theorem ef_6 (m : MethodId) (x0 : Addr) (x1 : Addr) (x2 : Addr) (x3 : Addr) (x4 : Int32) (x5 : Int32) (x6 : Int32) (x7 : Addr) : entryFrame m #[(.ref x0), (.ref x1), (.ref x2), (.ref x3), (.int x4), (.int x5), (.int x6), (.ref x7)] 8 = mkF m 0 #[.val (.ref x0), .val (.ref x1), .val (.ref x2), .val (.ref x3), .val (.int x4), .val (.int x5), .val (.int x6), .val (.ref x7)] [] := by first | (simp [entryFrame, mkF, argsToLocals, Value.category]; done) | rfl
def Q6 (Z : State) (a1 : Addr) (a2 : Addr) (a3 : Addr) (a4 : Addr) (p5 : Int32) (p6 : Int32) (p7 : Int32) (a8 : Addr) (u_rank_a1 : Value) (u_label_a1 : Value) (u_heading_a1 : Value) (u_start_a1 : Value) (u_textStart_a1 : Value) (u_end_a1 : Value) (u_children_a1 : Value) (h0 : Heap) (n0 : Nat) (v : Option Value) (h : Heap) (L : List Loc) : Prop := v = none ∧ Fr n0 L ∧ Keep h0 h [a1] ∧ Fld Z h a1 "com/example/planwright/planwright/division/Division" "rank" "Lcom/example/planwright/planwright/division/Rank;" (.ref a2) ∧ Fld Z h a1 "com/example/planwright/planwright/division/Division" "label" "Ljava/lang/String;" (.ref a3) ∧ Fld Z h a1 "com/example/planwright/planwright/division/Division" "heading" "Ljava/lang/String;" (.ref a4) ∧ Fld Z h a1 "com/example/planwright/planwright/division/Division" "start" "I" (.int p5) ∧ Fld Z h a1 "com/example/planwright/planwright/division/Division" "textStart" "I" (.int p6) ∧ Fld Z h a1 "com/example/planwright/planwright/division/Division" "end" "I" (.int p7) ∧ Fld Z h a1 "com/example/planwright/planwright/division/Division" "children" "Ljava/util/List;" (.ref a8)
set_option maxRecDepth 65536 in
set_option maxHeartbeats 40000000 in
theorem rm6 (l : Launch) (Z : State) (a0 : Array Value) (hw : ∀ d ∈ tables_1, d.before a0 Z = true) (ws : List Jvm.Cond) (a1 : Addr) (a2 : Addr) (a3 : Addr) (a4 : Addr) (p5 : Int32) (p6 : Int32) (p7 : Int32) (a8 : Addr) (u_rank_a1 : Value) (u_label_a1 : Value) (u_heading_a1 : Value) (u_start_a1 : Value) (u_textStart_a1 : Value) (u_end_a1 : Value) (u_children_a1 : Value) (h0 : Heap) (n0 : Nat) (Z0 : n0 ≤ h0.size) (E_a1 : Exa Z h0 a1 "com/example/planwright/planwright/division/Division") (F_rank_a1 : Fld Z h0 a1 "com/example/planwright/planwright/division/Division" "rank" "Lcom/example/planwright/planwright/division/Rank;" u_rank_a1) (g_a1 : n0 ≤ a1) (F_label_a1 : Fld Z h0 a1 "com/example/planwright/planwright/division/Division" "label" "Ljava/lang/String;" u_label_a1) (F_heading_a1 : Fld Z h0 a1 "com/example/planwright/planwright/division/Division" "heading" "Ljava/lang/String;" u_heading_a1) (F_start_a1 : Fld Z h0 a1 "com/example/planwright/planwright/division/Division" "start" "I" u_start_a1) (F_textStart_a1 : Fld Z h0 a1 "com/example/planwright/planwright/division/Division" "textStart" "I" u_textStart_a1) (F_end_a1 : Fld Z h0 a1 "com/example/planwright/planwright/division/Division" "end" "I" u_end_a1) (F_children_a1 : Fld Z h0 a1 "com/example/planwright/planwright/division/Division" "children" "Ljava/util/List;" u_children_a1) :
    MetFree l (⟨"com/example/planwright/planwright/division/Division", "<init>", "(Lcom/example/planwright/planwright/division/Rank;Ljava/lang/String;Ljava/lang/String;IIILjava/util/List;)V"⟩ : MethodName) (head1 (Jvm.Cond.code (⟨"com/example/planwright/planwright/division/Division", "<init>", "(Lcom/example/planwright/planwright/division/Rank;Ljava/lang/String;Ljava/lang/String;IIILjava/util/List;)V"⟩ : MethodName) prog_54_method_1_code 8 none :: ws) ({ frames := 2, cells := 0, slots := 0, locals := 24 } : Room)) (fun a U => a = #[(.ref a1), (.ref a2), (.ref a3), (.ref a4), (.int p5), (.int p6), (.int p7), (.ref a8)] ∧ Z.Warmed39 U.vm ∧ U.heap = h0) (fun _ _ _ _ _ => True) (fun _ U o U' => ∃ v L, o = .returned v ∧ Q6 Z a1 a2 a3 a4 p5 p6 p7 a8 u_rank_a1 u_label_a1 u_heading_a1 u_start_a1 u_textStart_a1 u_end_a1 u_children_a1 h0 n0 v U'.heap L ∧ FrameEnd U o U' L ({ frames := 2, cells := 0, slots := 0, locals := 24 } : Room).cells ({ frames := 2, cells := 0, slots := 0, locals := 24 } : Room).slots) := by
  refine MetFree.of_bodySF (plainFor_of_name pn_6) hisR ?_
  intro p e s m args below meth c s₁ Bd hml0 hP hK
  obtain ⟨rfl, hZ, hh⟩ := hP
  have hx := Bd.exec
  have hby := Bd.bytes
  have hml : c.maxLocals = 8 := hml0
  have hown : s.vm.findClass "com/example/planwright/planwright/division/Division" = some m.cls := findClass_of_methodNamed Bd.named
  have hnm := (name_of_methodNamed Bd.named Bd.method).1
  have X0 : Stand p l e ({ frames := 2, cells := 0, slots := 0, locals := 24 } : Room) s m #[(.ref a1), (.ref a2), (.ref a3), (.ref a4), (.int p5), (.int p6), (.int p7), (.ref a8)] below meth c s₁ [] 0 0 := Stand.of_body Bd
  have e0 : s₁.heap = h0 := by rw [← hh, Bd.state]; rfl
  have N0 := Fr.nil n0
  have pre0 : ∀ t, Steps p.tables e below (s₁.setTop (mkF m 0 #[.val (.ref a1), .val (.ref a2), .val (.ref a3), .val (.ref a4), .val (.int p5), .val (.int p6), .val (.int p7), .val (.ref a8)] [])) t → Steps p.tables e below (s₁.setTop (entryFrame m #[(.ref a1), (.ref a2), (.ref a3), (.ref a4), (.int p5), (.int p6), (.int p7), (.ref a8)] 8)) t := fun t k => castTop (ef_6 m a1 a2 a3 a4 p5 p6 p7 a8) k
  obtain ⟨_, _, ⟨T9, L9, k9, n9⟩, -, X9, ⟨Lc9, hQ9, l9, y9, z9⟩, st9⟩ := X0.specialBack hx (y := (⟨"java/lang/Record", "<init>", "()V"⟩ : MethodName)) rfl hown (mvT hZ (hw _ (List.mem_of_getElem? (i := 47) rfl))) (mvT hZ (hw _ (List.mem_of_getElem? (i := 48) rfl))) (mvT hZ (hw _ (List.mem_of_getElem? (i := 51) rfl))) (by decide) (backOf (W := 0) (rm7 l Z a0 hw [] a1 h0 n0 Z0) hZ (hw _ (List.mem_of_getElem? (i := 51) rfl)) (hw _ (List.mem_of_getElem? (i := 50) rfl)) (by decide) (by decide)) (g := (mkF m 1 #[.val (.ref a1), .val (.ref a2), .val (.ref a3), .val (.ref a4), .val (.int p5), .val (.int p6), .val (.int p7), .val (.ref a8)] [(.ref a1)])) rfl (by rw [hml]; rfl) (Steps.refl _) (a := a1) (argsL := []) (rest := []) (lenOf pd_6_1 rfl) rfl (by show 2 * 0 + _ ≤ _; exact Nat.le_of_eq rfl) (hb hby d6_1) (fun _ _ => ⟨rfl, e0, (by decide : 0 + 0 ≤ _), (by decide : 0 + 0 ≤ _)⟩)
  dsimp only [Pt.U, Pt.locs, Pt.cells, Pt.slots] at X9 l9 y9 z9 st9 hQ9
  subst l9 y9 z9
  obtain ⟨rfl, N9q, eh9⟩ := hQ9
  have N9 := Fr.app N0 N9q
  obtain ⟨T10, h10, X10, e10, W10, st10⟩ := putF X9 hx hZ hown (host := "") (Or.inl (hw _ (List.mem_of_getElem? (i := 53) rfl))) Via.refl eh9 F_rank_a1 E_a1 (Or.inr ⟨(hw _ (List.mem_of_getElem? (i := 54) rfl)), rfl, hnm⟩) (hw _ (List.mem_of_getElem? (i := 1) rfl)) (ty := (.object "com/example/planwright/planwright/division/Rank")) (by decide) rfl rfl (g := (mkF m 6 #[.val (.ref a1), .val (.ref a2), .val (.ref a3), .val (.ref a4), .val (.int p5), .val (.int p6), .val (.int p7), .val (.ref a8)] [(.ref a2), (.ref a1)])) rfl rfl (hb hby d6_6)
  have Fw10 := F_rank_a1.same W10
  have K10 : Keep h0 h10 [a1] := (Keep.refl h0 [a1]).wr W10 (Or.inl (List.mem_of_getElem? (i := 0) rfl))
  have N10 := Fr.snoc X10 N9 g_a1
  obtain ⟨T11, h11, X11, e11, W11, st11⟩ := putF X10 hx hZ hown (host := "") (Or.inl (hw _ (List.mem_of_getElem? (i := 55) rfl))) Via.refl e10 (F_label_a1.other W10 (Or.inr (slot_ne (Or.inr (hw _ (List.mem_of_getElem? (i := 56) rfl))) (Or.inr (hw _ (List.mem_of_getElem? (i := 54) rfl))) (by decide) (t := (.object "java/lang/String")) (t' := (.object "com/example/planwright/planwright/division/Rank")) (by decide) (by decide)))) (E_a1.wr W10) (Or.inr ⟨(hw _ (List.mem_of_getElem? (i := 56) rfl)), rfl, hnm⟩) (hw _ (List.mem_of_getElem? (i := 1) rfl)) (ty := (.object "java/lang/String")) (by decide) rfl rfl (g := (mkF m 11 #[.val (.ref a1), .val (.ref a2), .val (.ref a3), .val (.ref a4), .val (.int p5), .val (.int p6), .val (.int p7), .val (.ref a8)] [(.ref a3), (.ref a1)])) rfl rfl (hb hby d6_11)
  have Fw11 := (F_label_a1.other W10 (Or.inr (slot_ne (Or.inr (hw _ (List.mem_of_getElem? (i := 56) rfl))) (Or.inr (hw _ (List.mem_of_getElem? (i := 54) rfl))) (by decide) (t := (.object "java/lang/String")) (t' := (.object "com/example/planwright/planwright/division/Rank")) (by decide) (by decide)))).same W11
  have K11 : Keep h0 h11 [a1] := K10.wr W11 (Or.inl (List.mem_of_getElem? (i := 0) rfl))
  have N11 := Fr.snoc X11 N10 g_a1
  obtain ⟨T12, h12, X12, e12, W12, st12⟩ := putF X11 hx hZ hown (host := "") (Or.inl (hw _ (List.mem_of_getElem? (i := 57) rfl))) Via.refl e11 ((F_heading_a1.other W10 (Or.inr (slot_ne (Or.inr (hw _ (List.mem_of_getElem? (i := 58) rfl))) (Or.inr (hw _ (List.mem_of_getElem? (i := 54) rfl))) (by decide) (t := (.object "java/lang/String")) (t' := (.object "com/example/planwright/planwright/division/Rank")) (by decide) (by decide)))).other W11 (Or.inr (slot_ne (Or.inr (hw _ (List.mem_of_getElem? (i := 58) rfl))) (Or.inr (hw _ (List.mem_of_getElem? (i := 56) rfl))) (by decide) (t := (.object "java/lang/String")) (t' := (.object "java/lang/String")) (by decide) (by decide)))) ((E_a1.wr W10).wr W11) (Or.inr ⟨(hw _ (List.mem_of_getElem? (i := 58) rfl)), rfl, hnm⟩) (hw _ (List.mem_of_getElem? (i := 1) rfl)) (ty := (.object "java/lang/String")) (by decide) rfl rfl (g := (mkF m 16 #[.val (.ref a1), .val (.ref a2), .val (.ref a3), .val (.ref a4), .val (.int p5), .val (.int p6), .val (.int p7), .val (.ref a8)] [(.ref a4), (.ref a1)])) rfl rfl (hb hby d6_16)
  have Fw12 := ((F_heading_a1.other W10 (Or.inr (slot_ne (Or.inr (hw _ (List.mem_of_getElem? (i := 58) rfl))) (Or.inr (hw _ (List.mem_of_getElem? (i := 54) rfl))) (by decide) (t := (.object "java/lang/String")) (t' := (.object "com/example/planwright/planwright/division/Rank")) (by decide) (by decide)))).other W11 (Or.inr (slot_ne (Or.inr (hw _ (List.mem_of_getElem? (i := 58) rfl))) (Or.inr (hw _ (List.mem_of_getElem? (i := 56) rfl))) (by decide) (t := (.object "java/lang/String")) (t' := (.object "java/lang/String")) (by decide) (by decide)))).same W12
  have K12 : Keep h0 h12 [a1] := K11.wr W12 (Or.inl (List.mem_of_getElem? (i := 0) rfl))
  have N12 := Fr.snoc X12 N11 g_a1
  obtain ⟨T13, h13, X13, e13, W13, st13⟩ := putF X12 hx hZ hown (host := "") (Or.inl (hw _ (List.mem_of_getElem? (i := 59) rfl))) Via.refl e12 (((F_start_a1.other W10 (Or.inr (slot_ne (Or.inr (hw _ (List.mem_of_getElem? (i := 60) rfl))) (Or.inr (hw _ (List.mem_of_getElem? (i := 54) rfl))) (by decide) (t := .int) (t' := (.object "com/example/planwright/planwright/division/Rank")) (by decide) (by decide)))).other W11 (Or.inr (slot_ne (Or.inr (hw _ (List.mem_of_getElem? (i := 60) rfl))) (Or.inr (hw _ (List.mem_of_getElem? (i := 56) rfl))) (by decide) (t := .int) (t' := (.object "java/lang/String")) (by decide) (by decide)))).other W12 (Or.inr (slot_ne (Or.inr (hw _ (List.mem_of_getElem? (i := 60) rfl))) (Or.inr (hw _ (List.mem_of_getElem? (i := 58) rfl))) (by decide) (t := .int) (t' := (.object "java/lang/String")) (by decide) (by decide)))) (((E_a1.wr W10).wr W11).wr W12) (Or.inr ⟨(hw _ (List.mem_of_getElem? (i := 60) rfl)), rfl, hnm⟩) (hw _ (List.mem_of_getElem? (i := 1) rfl)) (ty := .int) (by decide) rfl rfl (g := (mkF m 22 #[.val (.ref a1), .val (.ref a2), .val (.ref a3), .val (.ref a4), .val (.int p5), .val (.int p6), .val (.int p7), .val (.ref a8)] [(.int p5), (.ref a1)])) rfl rfl (hb hby d6_22)
  have Fw13 := (((F_start_a1.other W10 (Or.inr (slot_ne (Or.inr (hw _ (List.mem_of_getElem? (i := 60) rfl))) (Or.inr (hw _ (List.mem_of_getElem? (i := 54) rfl))) (by decide) (t := .int) (t' := (.object "com/example/planwright/planwright/division/Rank")) (by decide) (by decide)))).other W11 (Or.inr (slot_ne (Or.inr (hw _ (List.mem_of_getElem? (i := 60) rfl))) (Or.inr (hw _ (List.mem_of_getElem? (i := 56) rfl))) (by decide) (t := .int) (t' := (.object "java/lang/String")) (by decide) (by decide)))).other W12 (Or.inr (slot_ne (Or.inr (hw _ (List.mem_of_getElem? (i := 60) rfl))) (Or.inr (hw _ (List.mem_of_getElem? (i := 58) rfl))) (by decide) (t := .int) (t' := (.object "java/lang/String")) (by decide) (by decide)))).same W13
  have K13 : Keep h0 h13 [a1] := K12.wr W13 (Or.inl (List.mem_of_getElem? (i := 0) rfl))
  have N13 := Fr.snoc X13 N12 g_a1
  obtain ⟨T14, h14, X14, e14, W14, st14⟩ := putF X13 hx hZ hown (host := "") (Or.inl (hw _ (List.mem_of_getElem? (i := 61) rfl))) Via.refl e13 ((((F_textStart_a1.other W10 (Or.inr (slot_ne (Or.inr (hw _ (List.mem_of_getElem? (i := 62) rfl))) (Or.inr (hw _ (List.mem_of_getElem? (i := 54) rfl))) (by decide) (t := .int) (t' := (.object "com/example/planwright/planwright/division/Rank")) (by decide) (by decide)))).other W11 (Or.inr (slot_ne (Or.inr (hw _ (List.mem_of_getElem? (i := 62) rfl))) (Or.inr (hw _ (List.mem_of_getElem? (i := 56) rfl))) (by decide) (t := .int) (t' := (.object "java/lang/String")) (by decide) (by decide)))).other W12 (Or.inr (slot_ne (Or.inr (hw _ (List.mem_of_getElem? (i := 62) rfl))) (Or.inr (hw _ (List.mem_of_getElem? (i := 58) rfl))) (by decide) (t := .int) (t' := (.object "java/lang/String")) (by decide) (by decide)))).other W13 (Or.inr (slot_ne (Or.inr (hw _ (List.mem_of_getElem? (i := 62) rfl))) (Or.inr (hw _ (List.mem_of_getElem? (i := 60) rfl))) (by decide) (t := .int) (t' := .int) (by decide) (by decide)))) ((((E_a1.wr W10).wr W11).wr W12).wr W13) (Or.inr ⟨(hw _ (List.mem_of_getElem? (i := 62) rfl)), rfl, hnm⟩) (hw _ (List.mem_of_getElem? (i := 1) rfl)) (ty := .int) (by decide) rfl rfl (g := (mkF m 28 #[.val (.ref a1), .val (.ref a2), .val (.ref a3), .val (.ref a4), .val (.int p5), .val (.int p6), .val (.int p7), .val (.ref a8)] [(.int p6), (.ref a1)])) rfl rfl (hb hby d6_28)
  have Fw14 := ((((F_textStart_a1.other W10 (Or.inr (slot_ne (Or.inr (hw _ (List.mem_of_getElem? (i := 62) rfl))) (Or.inr (hw _ (List.mem_of_getElem? (i := 54) rfl))) (by decide) (t := .int) (t' := (.object "com/example/planwright/planwright/division/Rank")) (by decide) (by decide)))).other W11 (Or.inr (slot_ne (Or.inr (hw _ (List.mem_of_getElem? (i := 62) rfl))) (Or.inr (hw _ (List.mem_of_getElem? (i := 56) rfl))) (by decide) (t := .int) (t' := (.object "java/lang/String")) (by decide) (by decide)))).other W12 (Or.inr (slot_ne (Or.inr (hw _ (List.mem_of_getElem? (i := 62) rfl))) (Or.inr (hw _ (List.mem_of_getElem? (i := 58) rfl))) (by decide) (t := .int) (t' := (.object "java/lang/String")) (by decide) (by decide)))).other W13 (Or.inr (slot_ne (Or.inr (hw _ (List.mem_of_getElem? (i := 62) rfl))) (Or.inr (hw _ (List.mem_of_getElem? (i := 60) rfl))) (by decide) (t := .int) (t' := .int) (by decide) (by decide)))).same W14
  have K14 : Keep h0 h14 [a1] := K13.wr W14 (Or.inl (List.mem_of_getElem? (i := 0) rfl))
  have N14 := Fr.snoc X14 N13 g_a1
  obtain ⟨T15, h15, X15, e15, W15, st15⟩ := putF X14 hx hZ hown (host := "") (Or.inl (hw _ (List.mem_of_getElem? (i := 63) rfl))) Via.refl e14 (((((F_end_a1.other W10 (Or.inr (slot_ne (Or.inr (hw _ (List.mem_of_getElem? (i := 64) rfl))) (Or.inr (hw _ (List.mem_of_getElem? (i := 54) rfl))) (by decide) (t := .int) (t' := (.object "com/example/planwright/planwright/division/Rank")) (by decide) (by decide)))).other W11 (Or.inr (slot_ne (Or.inr (hw _ (List.mem_of_getElem? (i := 64) rfl))) (Or.inr (hw _ (List.mem_of_getElem? (i := 56) rfl))) (by decide) (t := .int) (t' := (.object "java/lang/String")) (by decide) (by decide)))).other W12 (Or.inr (slot_ne (Or.inr (hw _ (List.mem_of_getElem? (i := 64) rfl))) (Or.inr (hw _ (List.mem_of_getElem? (i := 58) rfl))) (by decide) (t := .int) (t' := (.object "java/lang/String")) (by decide) (by decide)))).other W13 (Or.inr (slot_ne (Or.inr (hw _ (List.mem_of_getElem? (i := 64) rfl))) (Or.inr (hw _ (List.mem_of_getElem? (i := 60) rfl))) (by decide) (t := .int) (t' := .int) (by decide) (by decide)))).other W14 (Or.inr (slot_ne (Or.inr (hw _ (List.mem_of_getElem? (i := 64) rfl))) (Or.inr (hw _ (List.mem_of_getElem? (i := 62) rfl))) (by decide) (t := .int) (t' := .int) (by decide) (by decide)))) (((((E_a1.wr W10).wr W11).wr W12).wr W13).wr W14) (Or.inr ⟨(hw _ (List.mem_of_getElem? (i := 64) rfl)), rfl, hnm⟩) (hw _ (List.mem_of_getElem? (i := 1) rfl)) (ty := .int) (by decide) rfl rfl (g := (mkF m 34 #[.val (.ref a1), .val (.ref a2), .val (.ref a3), .val (.ref a4), .val (.int p5), .val (.int p6), .val (.int p7), .val (.ref a8)] [(.int p7), (.ref a1)])) rfl rfl (hb hby d6_34)
  have Fw15 := (((((F_end_a1.other W10 (Or.inr (slot_ne (Or.inr (hw _ (List.mem_of_getElem? (i := 64) rfl))) (Or.inr (hw _ (List.mem_of_getElem? (i := 54) rfl))) (by decide) (t := .int) (t' := (.object "com/example/planwright/planwright/division/Rank")) (by decide) (by decide)))).other W11 (Or.inr (slot_ne (Or.inr (hw _ (List.mem_of_getElem? (i := 64) rfl))) (Or.inr (hw _ (List.mem_of_getElem? (i := 56) rfl))) (by decide) (t := .int) (t' := (.object "java/lang/String")) (by decide) (by decide)))).other W12 (Or.inr (slot_ne (Or.inr (hw _ (List.mem_of_getElem? (i := 64) rfl))) (Or.inr (hw _ (List.mem_of_getElem? (i := 58) rfl))) (by decide) (t := .int) (t' := (.object "java/lang/String")) (by decide) (by decide)))).other W13 (Or.inr (slot_ne (Or.inr (hw _ (List.mem_of_getElem? (i := 64) rfl))) (Or.inr (hw _ (List.mem_of_getElem? (i := 60) rfl))) (by decide) (t := .int) (t' := .int) (by decide) (by decide)))).other W14 (Or.inr (slot_ne (Or.inr (hw _ (List.mem_of_getElem? (i := 64) rfl))) (Or.inr (hw _ (List.mem_of_getElem? (i := 62) rfl))) (by decide) (t := .int) (t' := .int) (by decide) (by decide)))).same W15
  have K15 : Keep h0 h15 [a1] := K14.wr W15 (Or.inl (List.mem_of_getElem? (i := 0) rfl))
  have N15 := Fr.snoc X15 N14 g_a1
  obtain ⟨T16, h16, X16, e16, W16, st16⟩ := putF X15 hx hZ hown (host := "") (Or.inl (hw _ (List.mem_of_getElem? (i := 65) rfl))) Via.refl e15 ((((((F_children_a1.other W10 (Or.inr (slot_ne (Or.inr (hw _ (List.mem_of_getElem? (i := 66) rfl))) (Or.inr (hw _ (List.mem_of_getElem? (i := 54) rfl))) (by decide) (t := (.object "java/util/List")) (t' := (.object "com/example/planwright/planwright/division/Rank")) (by decide) (by decide)))).other W11 (Or.inr (slot_ne (Or.inr (hw _ (List.mem_of_getElem? (i := 66) rfl))) (Or.inr (hw _ (List.mem_of_getElem? (i := 56) rfl))) (by decide) (t := (.object "java/util/List")) (t' := (.object "java/lang/String")) (by decide) (by decide)))).other W12 (Or.inr (slot_ne (Or.inr (hw _ (List.mem_of_getElem? (i := 66) rfl))) (Or.inr (hw _ (List.mem_of_getElem? (i := 58) rfl))) (by decide) (t := (.object "java/util/List")) (t' := (.object "java/lang/String")) (by decide) (by decide)))).other W13 (Or.inr (slot_ne (Or.inr (hw _ (List.mem_of_getElem? (i := 66) rfl))) (Or.inr (hw _ (List.mem_of_getElem? (i := 60) rfl))) (by decide) (t := (.object "java/util/List")) (t' := .int) (by decide) (by decide)))).other W14 (Or.inr (slot_ne (Or.inr (hw _ (List.mem_of_getElem? (i := 66) rfl))) (Or.inr (hw _ (List.mem_of_getElem? (i := 62) rfl))) (by decide) (t := (.object "java/util/List")) (t' := .int) (by decide) (by decide)))).other W15 (Or.inr (slot_ne (Or.inr (hw _ (List.mem_of_getElem? (i := 66) rfl))) (Or.inr (hw _ (List.mem_of_getElem? (i := 64) rfl))) (by decide) (t := (.object "java/util/List")) (t' := .int) (by decide) (by decide)))) ((((((E_a1.wr W10).wr W11).wr W12).wr W13).wr W14).wr W15) (Or.inr ⟨(hw _ (List.mem_of_getElem? (i := 66) rfl)), rfl, hnm⟩) (hw _ (List.mem_of_getElem? (i := 1) rfl)) (ty := (.object "java/util/List")) (by decide) rfl rfl (g := (mkF m 40 #[.val (.ref a1), .val (.ref a2), .val (.ref a3), .val (.ref a4), .val (.int p5), .val (.int p6), .val (.int p7), .val (.ref a8)] [(.ref a8), (.ref a1)])) rfl rfl (hb hby d6_40)
  have Fw16 := ((((((F_children_a1.other W10 (Or.inr (slot_ne (Or.inr (hw _ (List.mem_of_getElem? (i := 66) rfl))) (Or.inr (hw _ (List.mem_of_getElem? (i := 54) rfl))) (by decide) (t := (.object "java/util/List")) (t' := (.object "com/example/planwright/planwright/division/Rank")) (by decide) (by decide)))).other W11 (Or.inr (slot_ne (Or.inr (hw _ (List.mem_of_getElem? (i := 66) rfl))) (Or.inr (hw _ (List.mem_of_getElem? (i := 56) rfl))) (by decide) (t := (.object "java/util/List")) (t' := (.object "java/lang/String")) (by decide) (by decide)))).other W12 (Or.inr (slot_ne (Or.inr (hw _ (List.mem_of_getElem? (i := 66) rfl))) (Or.inr (hw _ (List.mem_of_getElem? (i := 58) rfl))) (by decide) (t := (.object "java/util/List")) (t' := (.object "java/lang/String")) (by decide) (by decide)))).other W13 (Or.inr (slot_ne (Or.inr (hw _ (List.mem_of_getElem? (i := 66) rfl))) (Or.inr (hw _ (List.mem_of_getElem? (i := 60) rfl))) (by decide) (t := (.object "java/util/List")) (t' := .int) (by decide) (by decide)))).other W14 (Or.inr (slot_ne (Or.inr (hw _ (List.mem_of_getElem? (i := 66) rfl))) (Or.inr (hw _ (List.mem_of_getElem? (i := 62) rfl))) (by decide) (t := (.object "java/util/List")) (t' := .int) (by decide) (by decide)))).other W15 (Or.inr (slot_ne (Or.inr (hw _ (List.mem_of_getElem? (i := 66) rfl))) (Or.inr (hw _ (List.mem_of_getElem? (i := 64) rfl))) (by decide) (t := (.object "java/util/List")) (t' := .int) (by decide) (by decide)))).same W16
  have K16 : Keep h0 h16 [a1] := K15.wr W16 (Or.inl (List.mem_of_getElem? (i := 0) rfl))
  have N16 := Fr.snoc X16 N15 g_a1
  obtain ⟨fs, hr, hrun, hended, hW, hsame⟩ := X16.leave (v := none) (fun _ => rfl)
  refine ⟨_, _, pre0 _ ?_, hrun, hended, _, _, rfl, ?_, ⟨_, rfl⟩, hW, hsame.mono (by decide) (by decide)⟩
  · show Steps p.tables e below (s₁.setTop (mkF m 0 #[.val (.ref a1), .val (.ref a2), .val (.ref a3), .val (.ref a4), .val (.int p5), .val (.int p6), .val (.int p7), .val (.ref a8)] [])) _
    refine XS.aloadN X0.here hx rfl (hb hby d6_0) rfl rfl ?_
    show Steps p.tables e below (s₁.setTop (mkF m 1 #[.val (.ref a1), .val (.ref a2), .val (.ref a3), .val (.ref a4), .val (.int p5), .val (.int p6), .val (.int p7), .val (.ref a8)] [(.ref a1)])) _
    refine st9.trans ?_
    show Steps p.tables e below (T9.setTop (mkF m 4 #[.val (.ref a1), .val (.ref a2), .val (.ref a3), .val (.ref a4), .val (.int p5), .val (.int p6), .val (.int p7), .val (.ref a8)] [])) _
    refine XS.aloadN X9.here hx rfl (hb hby d6_4) rfl rfl ?_
    show Steps p.tables e below (T9.setTop (mkF m 5 #[.val (.ref a1), .val (.ref a2), .val (.ref a3), .val (.ref a4), .val (.int p5), .val (.int p6), .val (.int p7), .val (.ref a8)] [(.ref a1)])) _
    refine XS.aloadN X9.here hx rfl (hb hby d6_5) rfl rfl ?_
    show Steps p.tables e below (T9.setTop (mkF m 6 #[.val (.ref a1), .val (.ref a2), .val (.ref a3), .val (.ref a4), .val (.int p5), .val (.int p6), .val (.int p7), .val (.ref a8)] [(.ref a2), (.ref a1)])) _
    refine st10 _ ?_
    show Steps p.tables e below (T10.setTop (mkF m 9 #[.val (.ref a1), .val (.ref a2), .val (.ref a3), .val (.ref a4), .val (.int p5), .val (.int p6), .val (.int p7), .val (.ref a8)] [])) _
    refine XS.aloadN X10.here hx rfl (hb hby d6_9) rfl rfl ?_
    show Steps p.tables e below (T10.setTop (mkF m 10 #[.val (.ref a1), .val (.ref a2), .val (.ref a3), .val (.ref a4), .val (.int p5), .val (.int p6), .val (.int p7), .val (.ref a8)] [(.ref a1)])) _
    refine XS.aloadN X10.here hx rfl (hb hby d6_10) rfl rfl ?_
    show Steps p.tables e below (T10.setTop (mkF m 11 #[.val (.ref a1), .val (.ref a2), .val (.ref a3), .val (.ref a4), .val (.int p5), .val (.int p6), .val (.int p7), .val (.ref a8)] [(.ref a3), (.ref a1)])) _
    refine st11 _ ?_
    show Steps p.tables e below (T11.setTop (mkF m 14 #[.val (.ref a1), .val (.ref a2), .val (.ref a3), .val (.ref a4), .val (.int p5), .val (.int p6), .val (.int p7), .val (.ref a8)] [])) _
    refine XS.aloadN X11.here hx rfl (hb hby d6_14) rfl rfl ?_
    show Steps p.tables e below (T11.setTop (mkF m 15 #[.val (.ref a1), .val (.ref a2), .val (.ref a3), .val (.ref a4), .val (.int p5), .val (.int p6), .val (.int p7), .val (.ref a8)] [(.ref a1)])) _
    refine XS.aloadN X11.here hx rfl (hb hby d6_15) rfl rfl ?_
    show Steps p.tables e below (T11.setTop (mkF m 16 #[.val (.ref a1), .val (.ref a2), .val (.ref a3), .val (.ref a4), .val (.int p5), .val (.int p6), .val (.int p7), .val (.ref a8)] [(.ref a4), (.ref a1)])) _
    refine st12 _ ?_
    show Steps p.tables e below (T12.setTop (mkF m 19 #[.val (.ref a1), .val (.ref a2), .val (.ref a3), .val (.ref a4), .val (.int p5), .val (.int p6), .val (.int p7), .val (.ref a8)] [])) _
    refine XS.aloadN X12.here hx rfl (hb hby d6_19) rfl rfl ?_
    show Steps p.tables e below (T12.setTop (mkF m 20 #[.val (.ref a1), .val (.ref a2), .val (.ref a3), .val (.ref a4), .val (.int p5), .val (.int p6), .val (.int p7), .val (.ref a8)] [(.ref a1)])) _
    refine XS.iload X12.here hx rfl (hb hby d6_20) rfl ?_
    show Steps p.tables e below (T12.setTop (mkF m 22 #[.val (.ref a1), .val (.ref a2), .val (.ref a3), .val (.ref a4), .val (.int p5), .val (.int p6), .val (.int p7), .val (.ref a8)] [(.int p5), (.ref a1)])) _
    refine st13 _ ?_
    show Steps p.tables e below (T13.setTop (mkF m 25 #[.val (.ref a1), .val (.ref a2), .val (.ref a3), .val (.ref a4), .val (.int p5), .val (.int p6), .val (.int p7), .val (.ref a8)] [])) _
    refine XS.aloadN X13.here hx rfl (hb hby d6_25) rfl rfl ?_
    show Steps p.tables e below (T13.setTop (mkF m 26 #[.val (.ref a1), .val (.ref a2), .val (.ref a3), .val (.ref a4), .val (.int p5), .val (.int p6), .val (.int p7), .val (.ref a8)] [(.ref a1)])) _
    refine XS.iload X13.here hx rfl (hb hby d6_26) rfl ?_
    show Steps p.tables e below (T13.setTop (mkF m 28 #[.val (.ref a1), .val (.ref a2), .val (.ref a3), .val (.ref a4), .val (.int p5), .val (.int p6), .val (.int p7), .val (.ref a8)] [(.int p6), (.ref a1)])) _
    refine st14 _ ?_
    show Steps p.tables e below (T14.setTop (mkF m 31 #[.val (.ref a1), .val (.ref a2), .val (.ref a3), .val (.ref a4), .val (.int p5), .val (.int p6), .val (.int p7), .val (.ref a8)] [])) _
    refine XS.aloadN X14.here hx rfl (hb hby d6_31) rfl rfl ?_
    show Steps p.tables e below (T14.setTop (mkF m 32 #[.val (.ref a1), .val (.ref a2), .val (.ref a3), .val (.ref a4), .val (.int p5), .val (.int p6), .val (.int p7), .val (.ref a8)] [(.ref a1)])) _
    refine XS.iload X14.here hx rfl (hb hby d6_32) rfl ?_
    show Steps p.tables e below (T14.setTop (mkF m 34 #[.val (.ref a1), .val (.ref a2), .val (.ref a3), .val (.ref a4), .val (.int p5), .val (.int p6), .val (.int p7), .val (.ref a8)] [(.int p7), (.ref a1)])) _
    refine st15 _ ?_
    show Steps p.tables e below (T15.setTop (mkF m 37 #[.val (.ref a1), .val (.ref a2), .val (.ref a3), .val (.ref a4), .val (.int p5), .val (.int p6), .val (.int p7), .val (.ref a8)] [])) _
    refine XS.aloadN X15.here hx rfl (hb hby d6_37) rfl rfl ?_
    show Steps p.tables e below (T15.setTop (mkF m 38 #[.val (.ref a1), .val (.ref a2), .val (.ref a3), .val (.ref a4), .val (.int p5), .val (.int p6), .val (.int p7), .val (.ref a8)] [(.ref a1)])) _
    refine XS.aload X15.here hx rfl (hb hby d6_38) rfl rfl ?_
    show Steps p.tables e below (T15.setTop (mkF m 40 #[.val (.ref a1), .val (.ref a2), .val (.ref a3), .val (.ref a4), .val (.int p5), .val (.int p6), .val (.int p7), .val (.ref a8)] [(.ref a8), (.ref a1)])) _
    refine st16 _ ?_
    show Steps p.tables e below (T16.setTop (mkF m 43 #[.val (.ref a1), .val (.ref a2), .val (.ref a3), .val (.ref a4), .val (.int p5), .val (.int p6), .val (.int p7), .val (.ref a8)] [])) _
    exact X16.returnOut hx Bd.returns (hb hby d6_43) hr
  · show Q6 Z a1 a2 a3 a4 p5 p6 p7 a8 u_rank_a1 u_label_a1 u_heading_a1 u_start_a1 u_textStart_a1 u_end_a1 u_children_a1 h0 n0 _ T16.heap _
    rw [e16]
    exact ⟨rfl, N16, K16, ((((((Fw10.other W11 (Or.inr (slot_ne (Or.inr (hw _ (List.mem_of_getElem? (i := 54) rfl))) (Or.inr (hw _ (List.mem_of_getElem? (i := 56) rfl))) (by decide) (t := (.object "com/example/planwright/planwright/division/Rank")) (t' := (.object "java/lang/String")) (by decide) (by decide)))).other W12 (Or.inr (slot_ne (Or.inr (hw _ (List.mem_of_getElem? (i := 54) rfl))) (Or.inr (hw _ (List.mem_of_getElem? (i := 58) rfl))) (by decide) (t := (.object "com/example/planwright/planwright/division/Rank")) (t' := (.object "java/lang/String")) (by decide) (by decide)))).other W13 (Or.inr (slot_ne (Or.inr (hw _ (List.mem_of_getElem? (i := 54) rfl))) (Or.inr (hw _ (List.mem_of_getElem? (i := 60) rfl))) (by decide) (t := (.object "com/example/planwright/planwright/division/Rank")) (t' := .int) (by decide) (by decide)))).other W14 (Or.inr (slot_ne (Or.inr (hw _ (List.mem_of_getElem? (i := 54) rfl))) (Or.inr (hw _ (List.mem_of_getElem? (i := 62) rfl))) (by decide) (t := (.object "com/example/planwright/planwright/division/Rank")) (t' := .int) (by decide) (by decide)))).other W15 (Or.inr (slot_ne (Or.inr (hw _ (List.mem_of_getElem? (i := 54) rfl))) (Or.inr (hw _ (List.mem_of_getElem? (i := 64) rfl))) (by decide) (t := (.object "com/example/planwright/planwright/division/Rank")) (t' := .int) (by decide) (by decide)))).other W16 (Or.inr (slot_ne (Or.inr (hw _ (List.mem_of_getElem? (i := 54) rfl))) (Or.inr (hw _ (List.mem_of_getElem? (i := 66) rfl))) (by decide) (t := (.object "com/example/planwright/planwright/division/Rank")) (t' := (.object "java/util/List")) (by decide) (by decide)))), (((((Fw11.other W12 (Or.inr (slot_ne (Or.inr (hw _ (List.mem_of_getElem? (i := 56) rfl))) (Or.inr (hw _ (List.mem_of_getElem? (i := 58) rfl))) (by decide) (t := (.object "java/lang/String")) (t' := (.object "java/lang/String")) (by decide) (by decide)))).other W13 (Or.inr (slot_ne (Or.inr (hw _ (List.mem_of_getElem? (i := 56) rfl))) (Or.inr (hw _ (List.mem_of_getElem? (i := 60) rfl))) (by decide) (t := (.object "java/lang/String")) (t' := .int) (by decide) (by decide)))).other W14 (Or.inr (slot_ne (Or.inr (hw _ (List.mem_of_getElem? (i := 56) rfl))) (Or.inr (hw _ (List.mem_of_getElem? (i := 62) rfl))) (by decide) (t := (.object "java/lang/String")) (t' := .int) (by decide) (by decide)))).other W15 (Or.inr (slot_ne (Or.inr (hw _ (List.mem_of_getElem? (i := 56) rfl))) (Or.inr (hw _ (List.mem_of_getElem? (i := 64) rfl))) (by decide) (t := (.object "java/lang/String")) (t' := .int) (by decide) (by decide)))).other W16 (Or.inr (slot_ne (Or.inr (hw _ (List.mem_of_getElem? (i := 56) rfl))) (Or.inr (hw _ (List.mem_of_getElem? (i := 66) rfl))) (by decide) (t := (.object "java/lang/String")) (t' := (.object "java/util/List")) (by decide) (by decide)))), ((((Fw12.other W13 (Or.inr (slot_ne (Or.inr (hw _ (List.mem_of_getElem? (i := 58) rfl))) (Or.inr (hw _ (List.mem_of_getElem? (i := 60) rfl))) (by decide) (t := (.object "java/lang/String")) (t' := .int) (by decide) (by decide)))).other W14 (Or.inr (slot_ne (Or.inr (hw _ (List.mem_of_getElem? (i := 58) rfl))) (Or.inr (hw _ (List.mem_of_getElem? (i := 62) rfl))) (by decide) (t := (.object "java/lang/String")) (t' := .int) (by decide) (by decide)))).other W15 (Or.inr (slot_ne (Or.inr (hw _ (List.mem_of_getElem? (i := 58) rfl))) (Or.inr (hw _ (List.mem_of_getElem? (i := 64) rfl))) (by decide) (t := (.object "java/lang/String")) (t' := .int) (by decide) (by decide)))).other W16 (Or.inr (slot_ne (Or.inr (hw _ (List.mem_of_getElem? (i := 58) rfl))) (Or.inr (hw _ (List.mem_of_getElem? (i := 66) rfl))) (by decide) (t := (.object "java/lang/String")) (t' := (.object "java/util/List")) (by decide) (by decide)))), (((Fw13.other W14 (Or.inr (slot_ne (Or.inr (hw _ (List.mem_of_getElem? (i := 60) rfl))) (Or.inr (hw _ (List.mem_of_getElem? (i := 62) rfl))) (by decide) (t := .int) (t' := .int) (by decide) (by decide)))).other W15 (Or.inr (slot_ne (Or.inr (hw _ (List.mem_of_getElem? (i := 60) rfl))) (Or.inr (hw _ (List.mem_of_getElem? (i := 64) rfl))) (by decide) (t := .int) (t' := .int) (by decide) (by decide)))).other W16 (Or.inr (slot_ne (Or.inr (hw _ (List.mem_of_getElem? (i := 60) rfl))) (Or.inr (hw _ (List.mem_of_getElem? (i := 66) rfl))) (by decide) (t := .int) (t' := (.object "java/util/List")) (by decide) (by decide)))), ((Fw14.other W15 (Or.inr (slot_ne (Or.inr (hw _ (List.mem_of_getElem? (i := 62) rfl))) (Or.inr (hw _ (List.mem_of_getElem? (i := 64) rfl))) (by decide) (t := .int) (t' := .int) (by decide) (by decide)))).other W16 (Or.inr (slot_ne (Or.inr (hw _ (List.mem_of_getElem? (i := 62) rfl))) (Or.inr (hw _ (List.mem_of_getElem? (i := 66) rfl))) (by decide) (t := .int) (t' := (.object "java/util/List")) (by decide) (by decide)))), (Fw15.other W16 (Or.inr (slot_ne (Or.inr (hw _ (List.mem_of_getElem? (i := 64) rfl))) (Or.inr (hw _ (List.mem_of_getElem? (i := 66) rfl))) (by decide) (t := .int) (t' := (.object "java/util/List")) (by decide) (by decide)))), Fw16⟩
theorem d9_0 : decode prog_54_method_11_code 0 = .ok (.aload_n 0, 1) := by decide +kernel
theorem d9_1 : decode prog_54_method_11_code 1 = .ok (.getfield 20, 3) := by decide +kernel
theorem d9_4 : decode prog_54_method_11_code 4 = .ok (.ireturn, 1) := by decide +kernel
theorem pn_9 : plainName "com/example/planwright/planwright/division/Division" = true := by first | (simp [plainName, overriddenIn]; done) | decide +kernel
theorem ef_9 (m : MethodId) (x0 : Addr) : entryFrame m #[(.ref x0)] 1 = mkF m 0 #[.val (.ref x0)] [] := by first | (simp [entryFrame, mkF, argsToLocals, Value.category]; done) | rfl
def Q9 (Z : State) (a1 : Addr) (w2 : Int32) (h0 : Heap) (n0 : Nat) (v : Option Value) (h : Heap) (L : List Loc) : Prop := v = some (.int w2) ∧ Fr n0 L ∧ h = h0
set_option maxRecDepth 65536 in
set_option maxHeartbeats 40000000 in
theorem rm9 (l : Launch) (Z : State) (a0 : Array Value) (hw : ∀ d ∈ tables_1, d.before a0 Z = true) (ws : List Jvm.Cond) (a1 : Addr) (w2 : Int32) (h0 : Heap) (n0 : Nat) (Z0 : n0 ≤ h0.size) (F_start_a1 : Fld Z h0 a1 "com/example/planwright/planwright/division/Division" "start" "I" (.int w2)) :
    MetFree l (⟨"com/example/planwright/planwright/division/Division", "start", "()I"⟩ : MethodName) (head1 (Jvm.Cond.code (⟨"com/example/planwright/planwright/division/Division", "start", "()I"⟩ : MethodName) prog_54_method_11_code 1 (some .int) :: ws) ({ frames := 0, cells := 0, slots := 0, locals := 0 } : Room)) (fun a U => a = #[(.ref a1)] ∧ Z.Warmed39 U.vm ∧ U.heap = h0) (fun _ _ _ _ _ => True) (fun _ U o U' => ∃ v L, o = .returned v ∧ Q9 Z a1 w2 h0 n0 v U'.heap L ∧ FrameEnd U o U' L ({ frames := 0, cells := 0, slots := 0, locals := 0 } : Room).cells ({ frames := 0, cells := 0, slots := 0, locals := 0 } : Room).slots) := by
  refine MetFree.of_bodySF (plainFor_of_name pn_9) hisR ?_
  intro p e s m args below meth c s₁ Bd hml0 hP hK
  obtain ⟨rfl, hZ, hh⟩ := hP
  have hx := Bd.exec
  have hby := Bd.bytes
  have hml : c.maxLocals = 1 := hml0
  have hown : s.vm.findClass "com/example/planwright/planwright/division/Division" = some m.cls := findClass_of_methodNamed Bd.named
  have hnm := (name_of_methodNamed Bd.named Bd.method).1
  have X0 : Stand p l e ({ frames := 0, cells := 0, slots := 0, locals := 0 } : Room) s m #[(.ref a1)] below meth c s₁ [] 0 0 := Stand.of_body Bd
  have e0 : s₁.heap = h0 := by rw [← hh, Bd.state]; rfl
  have N0 := Fr.nil n0
  have pre0 : ∀ t, Steps p.tables e below (s₁.setTop (mkF m 0 #[.val (.ref a1)] [])) t → Steps p.tables e below (s₁.setTop (entryFrame m #[(.ref a1)] 1)) t := fun t k => castTop (ef_9 m a1) k
  obtain ⟨T3, X3, e3, st3⟩ := getF X0 hx hZ hown (host := "") (Or.inl (hw _ (List.mem_of_getElem? (i := 59) rfl))) Via.refl e0 F_start_a1 (g := (mkF m 1 #[.val (.ref a1)] [(.ref a1)])) rfl rfl (hb hby d9_1)
  obtain ⟨fs, hr, hrun, hended, hW, hsame⟩ := X3.leave (v := some (.int w2)) (fun h => by rw [Bd.returns] at h; cases h)
  refine ⟨_, _, pre0 _ ?_, hrun, hended, _, _, rfl, ?_, ⟨_, rfl⟩, hW, hsame.mono (by decide) (by decide)⟩
  · show Steps p.tables e below (s₁.setTop (mkF m 0 #[.val (.ref a1)] [])) _
    refine XS.aloadN X0.here hx rfl (hb hby d9_0) rfl rfl ?_
    show Steps p.tables e below (s₁.setTop (mkF m 1 #[.val (.ref a1)] [(.ref a1)])) _
    refine st3 _ ?_
    show Steps p.tables e below (T3.setTop (mkF m 4 #[.val (.ref a1)] [(.int w2)])) _
    exact retI X3 hx Bd.returns (hb hby d9_4) hr
  · show Q9 Z a1 w2 h0 n0 _ T3.heap _
    rw [e3]
    exact ⟨rfl, N0, rfl⟩
theorem d11_0 : decode prog_54_method_13_code 0 = .ok (.aload_n 0, 1) := by decide +kernel
theorem d11_1 : decode prog_54_method_13_code 1 = .ok (.getfield 27, 3) := by decide +kernel
theorem d11_4 : decode prog_54_method_13_code 4 = .ok (.ireturn, 1) := by decide +kernel
theorem pn_11 : plainName "com/example/planwright/planwright/division/Division" = true := by first | (simp [plainName, overriddenIn]; done) | decide +kernel
theorem ef_11 (m : MethodId) (x0 : Addr) : entryFrame m #[(.ref x0)] 1 = mkF m 0 #[.val (.ref x0)] [] := by first | (simp [entryFrame, mkF, argsToLocals, Value.category]; done) | rfl
def Q11 (Z : State) (a1 : Addr) (w2 : Int32) (h0 : Heap) (n0 : Nat) (v : Option Value) (h : Heap) (L : List Loc) : Prop := v = some (.int w2) ∧ Fr n0 L ∧ h = h0
set_option maxRecDepth 65536 in
set_option maxHeartbeats 40000000 in
theorem rm11 (l : Launch) (Z : State) (a0 : Array Value) (hw : ∀ d ∈ tables_1, d.before a0 Z = true) (ws : List Jvm.Cond) (a1 : Addr) (w2 : Int32) (h0 : Heap) (n0 : Nat) (Z0 : n0 ≤ h0.size) (F_end_a1 : Fld Z h0 a1 "com/example/planwright/planwright/division/Division" "end" "I" (.int w2)) :
    MetFree l (⟨"com/example/planwright/planwright/division/Division", "end", "()I"⟩ : MethodName) (head1 (Jvm.Cond.code (⟨"com/example/planwright/planwright/division/Division", "end", "()I"⟩ : MethodName) prog_54_method_13_code 1 (some .int) :: ws) ({ frames := 0, cells := 0, slots := 0, locals := 0 } : Room)) (fun a U => a = #[(.ref a1)] ∧ Z.Warmed39 U.vm ∧ U.heap = h0) (fun _ _ _ _ _ => True) (fun _ U o U' => ∃ v L, o = .returned v ∧ Q11 Z a1 w2 h0 n0 v U'.heap L ∧ FrameEnd U o U' L ({ frames := 0, cells := 0, slots := 0, locals := 0 } : Room).cells ({ frames := 0, cells := 0, slots := 0, locals := 0 } : Room).slots) := by
  refine MetFree.of_bodySF (plainFor_of_name pn_11) hisR ?_
  intro p e s m args below meth c s₁ Bd hml0 hP hK
  obtain ⟨rfl, hZ, hh⟩ := hP
  have hx := Bd.exec
  have hby := Bd.bytes
  have hml : c.maxLocals = 1 := hml0
  have hown : s.vm.findClass "com/example/planwright/planwright/division/Division" = some m.cls := findClass_of_methodNamed Bd.named
  have hnm := (name_of_methodNamed Bd.named Bd.method).1
  have X0 : Stand p l e ({ frames := 0, cells := 0, slots := 0, locals := 0 } : Room) s m #[(.ref a1)] below meth c s₁ [] 0 0 := Stand.of_body Bd
  have e0 : s₁.heap = h0 := by rw [← hh, Bd.state]; rfl
  have N0 := Fr.nil n0
  have pre0 : ∀ t, Steps p.tables e below (s₁.setTop (mkF m 0 #[.val (.ref a1)] [])) t → Steps p.tables e below (s₁.setTop (entryFrame m #[(.ref a1)] 1)) t := fun t k => castTop (ef_11 m a1) k
  obtain ⟨T3, X3, e3, st3⟩ := getF X0 hx hZ hown (host := "") (Or.inl (hw _ (List.mem_of_getElem? (i := 63) rfl))) Via.refl e0 F_end_a1 (g := (mkF m 1 #[.val (.ref a1)] [(.ref a1)])) rfl rfl (hb hby d11_1)
  obtain ⟨fs, hr, hrun, hended, hW, hsame⟩ := X3.leave (v := some (.int w2)) (fun h => by rw [Bd.returns] at h; cases h)
  refine ⟨_, _, pre0 _ ?_, hrun, hended, _, _, rfl, ?_, ⟨_, rfl⟩, hW, hsame.mono (by decide) (by decide)⟩
  · show Steps p.tables e below (s₁.setTop (mkF m 0 #[.val (.ref a1)] [])) _
    refine XS.aloadN X0.here hx rfl (hb hby d11_0) rfl rfl ?_
    show Steps p.tables e below (s₁.setTop (mkF m 1 #[.val (.ref a1)] [(.ref a1)])) _
    refine st3 _ ?_
    show Steps p.tables e below (T3.setTop (mkF m 4 #[.val (.ref a1)] [(.int w2)])) _
    exact retI X3 hx Bd.returns (hb hby d11_4) hr
  · show Q11 Z a1 w2 h0 n0 _ T3.heap _
    rw [e3]
    exact ⟨rfl, N0, rfl⟩
theorem d12_0 : decode prog_54_method_8_code 0 = .ok (.aload_n 0, 1) := by decide +kernel
theorem d12_1 : decode prog_54_method_8_code 1 = .ok (.getfield 7, 3) := by decide +kernel
theorem d12_4 : decode prog_54_method_8_code 4 = .ok (.areturn, 1) := by decide +kernel
theorem pn_12 : plainName "com/example/planwright/planwright/division/Division" = true := by first | (simp [plainName, overriddenIn]; done) | decide +kernel
theorem ef_12 (m : MethodId) (x0 : Addr) : entryFrame m #[(.ref x0)] 1 = mkF m 0 #[.val (.ref x0)] [] := by first | (simp [entryFrame, mkF, argsToLocals, Value.category]; done) | rfl
def Q12 (Z : State) (a1 : Addr) (w2 : Addr) (h0 : Heap) (n0 : Nat) (v : Option Value) (h : Heap) (L : List Loc) : Prop := v = some (.ref w2) ∧ Fr n0 L ∧ h = h0
set_option maxRecDepth 65536 in
set_option maxHeartbeats 40000000 in
theorem rm12 (l : Launch) (Z : State) (a0 : Array Value) (hw : ∀ d ∈ tables_1, d.before a0 Z = true) (ws : List Jvm.Cond) (a1 : Addr) (w2 : Addr) (h0 : Heap) (n0 : Nat) (Z0 : n0 ≤ h0.size) (F_rank_a1 : Fld Z h0 a1 "com/example/planwright/planwright/division/Division" "rank" "Lcom/example/planwright/planwright/division/Rank;" (.ref w2)) :
    MetFree l (⟨"com/example/planwright/planwright/division/Division", "rank", "()Lcom/example/planwright/planwright/division/Rank;"⟩ : MethodName) (head1 (Jvm.Cond.code (⟨"com/example/planwright/planwright/division/Division", "rank", "()Lcom/example/planwright/planwright/division/Rank;"⟩ : MethodName) prog_54_method_8_code 1 (some (.object "com/example/planwright/planwright/division/Rank")) :: ws) ({ frames := 0, cells := 0, slots := 0, locals := 0 } : Room)) (fun a U => a = #[(.ref a1)] ∧ Z.Warmed39 U.vm ∧ U.heap = h0) (fun _ _ _ _ _ => True) (fun _ U o U' => ∃ v L, o = .returned v ∧ Q12 Z a1 w2 h0 n0 v U'.heap L ∧ FrameEnd U o U' L ({ frames := 0, cells := 0, slots := 0, locals := 0 } : Room).cells ({ frames := 0, cells := 0, slots := 0, locals := 0 } : Room).slots) := by
  refine MetFree.of_bodySF (plainFor_of_name pn_12) hisR ?_
  intro p e s m args below meth c s₁ Bd hml0 hP hK
  obtain ⟨rfl, hZ, hh⟩ := hP
  have hx := Bd.exec
  have hby := Bd.bytes
  have hml : c.maxLocals = 1 := hml0
  have hown : s.vm.findClass "com/example/planwright/planwright/division/Division" = some m.cls := findClass_of_methodNamed Bd.named
  have hnm := (name_of_methodNamed Bd.named Bd.method).1
  have X0 : Stand p l e ({ frames := 0, cells := 0, slots := 0, locals := 0 } : Room) s m #[(.ref a1)] below meth c s₁ [] 0 0 := Stand.of_body Bd
  have e0 : s₁.heap = h0 := by rw [← hh, Bd.state]; rfl
  have N0 := Fr.nil n0
  have pre0 : ∀ t, Steps p.tables e below (s₁.setTop (mkF m 0 #[.val (.ref a1)] [])) t → Steps p.tables e below (s₁.setTop (entryFrame m #[(.ref a1)] 1)) t := fun t k => castTop (ef_12 m a1) k
  obtain ⟨T3, X3, e3, st3⟩ := getF X0 hx hZ hown (host := "") (Or.inl (hw _ (List.mem_of_getElem? (i := 53) rfl))) Via.refl e0 F_rank_a1 (g := (mkF m 1 #[.val (.ref a1)] [(.ref a1)])) rfl rfl (hb hby d12_1)
  obtain ⟨fs, hr, hrun, hended, hW, hsame⟩ := X3.leave (v := some (.ref w2)) (fun h => by rw [Bd.returns] at h; cases h)
  refine ⟨_, _, pre0 _ ?_, hrun, hended, _, _, rfl, ?_, ⟨_, rfl⟩, hW, hsame.mono (by decide) (by decide)⟩
  · show Steps p.tables e below (s₁.setTop (mkF m 0 #[.val (.ref a1)] [])) _
    refine XS.aloadN X0.here hx rfl (hb hby d12_0) rfl rfl ?_
    show Steps p.tables e below (s₁.setTop (mkF m 1 #[.val (.ref a1)] [(.ref a1)])) _
    refine st3 _ ?_
    show Steps p.tables e below (T3.setTop (mkF m 4 #[.val (.ref a1)] [(.ref w2)])) _
    jvm_step X3.here [X3.here.top, hx, (hb hby d12_4), X3.method', Bd.returns, Value.isRef, FieldType.isReference]
    first | (intro acts; rw [hr _ acts rfl rfl rfl]) | rw [hr _ _ rfl rfl rfl]
    exact Steps.refl _
  · show Q12 Z a1 w2 h0 n0 _ T3.heap _
    rw [e3]
    exact ⟨rfl, N0, rfl⟩
theorem d13_0 : decode prog_72_method_4_code 0 = .ok (.aload_n 0, 1) := by decide +kernel
theorem d13_1 : decode prog_72_method_4_code 1 = .ok (.getfield 47, 3) := by decide +kernel
theorem d13_4 : decode prog_72_method_4_code 4 = .ok (.ireturn, 1) := by decide +kernel
theorem pn_13 : plainName "com/example/planwright/planwright/division/Rank" = true := by first | (simp [plainName, overriddenIn]; done) | decide +kernel
theorem ef_13 (m : MethodId) (x0 : Addr) : entryFrame m #[(.ref x0)] 1 = mkF m 0 #[.val (.ref x0)] [] := by first | (simp [entryFrame, mkF, argsToLocals, Value.category]; done) | rfl
def Q13 (Z : State) (a1 : Addr) (w2 : Int32) (h0 : Heap) (n0 : Nat) (v : Option Value) (h : Heap) (L : List Loc) : Prop := v = some (.int w2) ∧ Fr n0 L ∧ h = h0
set_option maxRecDepth 65536 in
set_option maxHeartbeats 40000000 in
theorem rm13 (l : Launch) (Z : State) (a0 : Array Value) (hw : ∀ d ∈ tables_1, d.before a0 Z = true) (ws : List Jvm.Cond) (a1 : Addr) (w2 : Int32) (h0 : Heap) (n0 : Nat) (Z0 : n0 ≤ h0.size) (F_level_a1 : Fld Z h0 a1 "com/example/planwright/planwright/division/Rank" "level" "I" (.int w2)) :
    MetFree l (⟨"com/example/planwright/planwright/division/Rank", "level", "()I"⟩ : MethodName) (head1 (Jvm.Cond.code (⟨"com/example/planwright/planwright/division/Rank", "level", "()I"⟩ : MethodName) prog_72_method_4_code 1 (some .int) :: ws) ({ frames := 0, cells := 0, slots := 0, locals := 0 } : Room)) (fun a U => a = #[(.ref a1)] ∧ Z.Warmed39 U.vm ∧ U.heap = h0) (fun _ _ _ _ _ => True) (fun _ U o U' => ∃ v L, o = .returned v ∧ Q13 Z a1 w2 h0 n0 v U'.heap L ∧ FrameEnd U o U' L ({ frames := 0, cells := 0, slots := 0, locals := 0 } : Room).cells ({ frames := 0, cells := 0, slots := 0, locals := 0 } : Room).slots) := by
  refine MetFree.of_bodySF (plainFor_of_name pn_13) hisR ?_
  intro p e s m args below meth c s₁ Bd hml0 hP hK
  obtain ⟨rfl, hZ, hh⟩ := hP
  have hx := Bd.exec
  have hby := Bd.bytes
  have hml : c.maxLocals = 1 := hml0
  have hown : s.vm.findClass "com/example/planwright/planwright/division/Rank" = some m.cls := findClass_of_methodNamed Bd.named
  have hnm := (name_of_methodNamed Bd.named Bd.method).1
  have X0 : Stand p l e ({ frames := 0, cells := 0, slots := 0, locals := 0 } : Room) s m #[(.ref a1)] below meth c s₁ [] 0 0 := Stand.of_body Bd
  have e0 : s₁.heap = h0 := by rw [← hh, Bd.state]; rfl
  have N0 := Fr.nil n0
  have pre0 : ∀ t, Steps p.tables e below (s₁.setTop (mkF m 0 #[.val (.ref a1)] [])) t → Steps p.tables e below (s₁.setTop (entryFrame m #[(.ref a1)] 1)) t := fun t k => castTop (ef_13 m a1) k
  obtain ⟨T3, X3, e3, st3⟩ := getF X0 hx hZ hown (host := "") (Or.inl (hw _ (List.mem_of_getElem? (i := 97) rfl))) Via.refl e0 F_level_a1 (g := (mkF m 1 #[.val (.ref a1)] [(.ref a1)])) rfl rfl (hb hby d13_1)
  obtain ⟨fs, hr, hrun, hended, hW, hsame⟩ := X3.leave (v := some (.int w2)) (fun h => by rw [Bd.returns] at h; cases h)
  refine ⟨_, _, pre0 _ ?_, hrun, hended, _, _, rfl, ?_, ⟨_, rfl⟩, hW, hsame.mono (by decide) (by decide)⟩
  · show Steps p.tables e below (s₁.setTop (mkF m 0 #[.val (.ref a1)] [])) _
    refine XS.aloadN X0.here hx rfl (hb hby d13_0) rfl rfl ?_
    show Steps p.tables e below (s₁.setTop (mkF m 1 #[.val (.ref a1)] [(.ref a1)])) _
    refine st3 _ ?_
    show Steps p.tables e below (T3.setTop (mkF m 4 #[.val (.ref a1)] [(.int w2)])) _
    exact retI X3 hx Bd.returns (hb hby d13_4) hr
  · show Q13 Z a1 w2 h0 n0 _ T3.heap _
    rw [e3]
    exact ⟨rfl, N0, rfl⟩
theorem d10_0 : decode method_3_code 0 = .ok (.iload_n 0, 1) := by decide +kernel
theorem d10_1 : decode method_3_code 1 = .ok (.iconst 2, 1) := by decide +kernel
theorem d10_2 : decode method_3_code 2 = .ok (.if_icmp .ge 5, 3) := by decide +kernel
theorem d10_5 : decode method_3_code 5 = .ok (.iconst 0, 1) := by decide +kernel
theorem d10_6 : decode method_3_code 6 = .ok (.ireturn, 1) := by decide +kernel
theorem d10_7 : decode method_3_code 7 = .ok (.iload_n 0, 1) := by decide +kernel
theorem d10_8 : decode method_3_code 8 = .ok (.iconst 2, 1) := by decide +kernel
theorem d10_9 : decode method_3_code 9 = .ok (.if_icmp .ne 5, 3) := by decide +kernel
theorem d10_12 : decode method_3_code 12 = .ok (.iconst 1, 1) := by decide +kernel
theorem d10_13 : decode method_3_code 13 = .ok (.ireturn, 1) := by decide +kernel
theorem d10_14 : decode method_3_code 14 = .ok (.iload_n 0, 1) := by decide +kernel
theorem d10_15 : decode method_3_code 15 = .ok (.iconst 5, 1) := by decide +kernel
theorem d10_16 : decode method_3_code 16 = .ok (.if_icmp .ge 5, 3) := by decide +kernel
theorem d10_19 : decode method_3_code 19 = .ok (.iconst 2, 1) := by decide +kernel
theorem d10_20 : decode method_3_code 20 = .ok (.ireturn, 1) := by decide +kernel
theorem d10_21 : decode method_3_code 21 = .ok (.iload_n 0, 1) := by decide +kernel
theorem d10_22 : decode method_3_code 22 = .ok (.iconst 2, 1) := by decide +kernel
theorem d10_23 : decode method_3_code 23 = .ok (.isub, 1) := by decide +kernel
theorem d10_24 : decode method_3_code 24 = .ok (.ireturn, 1) := by decide +kernel
theorem pn_10 : plainName "com/example/planwright/planwright/division/DivisionHoldsPinLaw" = true := by first | (simp [plainName, overriddenIn]; done) | decide +kernel
theorem ef_10 (m : MethodId) (x0 : Int32) : entryFrame m #[(.int x0)] 1 = mkF m 0 #[.val (.int x0)] [] := by first | (simp [entryFrame, mkF, argsToLocals, Value.category]; done) | rfl
def Q10 (Z : State) (p1 : Int32) (h0 : Heap) (n0 : Nat) (v : Option Value) (h : Heap) (L : List Loc) : Prop := v = some (.int (own_depth p1)) ∧ Fr n0 L ∧ h = h0
set_option maxRecDepth 65536 in
set_option maxHeartbeats 40000000 in
theorem rm10 (l : Launch) (Z : State) (a0 : Array Value) (hw : ∀ d ∈ tables_1, d.before a0 Z = true) (ws : List Jvm.Cond) (p1 : Int32) (h0 : Heap) (n0 : Nat) (Z0 : n0 ≤ h0.size) :
    MetFree l (⟨"com/example/planwright/planwright/division/DivisionHoldsPinLaw", "depth", "(I)I"⟩ : MethodName) (head1 (Jvm.Cond.code (⟨"com/example/planwright/planwright/division/DivisionHoldsPinLaw", "depth", "(I)I"⟩ : MethodName) method_3_code 1 (some .int) :: ws) ({ frames := 0, cells := 0, slots := 0, locals := 0 } : Room)) (fun a U => a = #[(.int p1)] ∧ Z.Warmed39 U.vm ∧ U.heap = h0) (fun _ _ _ _ _ => True) (fun _ U o U' => ∃ v L, o = .returned v ∧ Q10 Z p1 h0 n0 v U'.heap L ∧ FrameEnd U o U' L ({ frames := 0, cells := 0, slots := 0, locals := 0 } : Room).cells ({ frames := 0, cells := 0, slots := 0, locals := 0 } : Room).slots) := by
  refine MetFree.of_bodySF (plainFor_of_name pn_10) hisR ?_
  intro p e s m args below meth c s₁ Bd hml0 hP hK
  obtain ⟨rfl, hZ, hh⟩ := hP
  have hx := Bd.exec
  have hby := Bd.bytes
  have hml : c.maxLocals = 1 := hml0
  have hown : s.vm.findClass "com/example/planwright/planwright/division/DivisionHoldsPinLaw" = some m.cls := findClass_of_methodNamed Bd.named
  have hnm := (name_of_methodNamed Bd.named Bd.method).1
  have X0 : Stand p l e ({ frames := 0, cells := 0, slots := 0, locals := 0 } : Room) s m #[(.int p1)] below meth c s₁ [] 0 0 := Stand.of_body Bd
  have e0 : s₁.heap = h0 := by rw [← hh, Bd.state]; rfl
  have N0 := Fr.nil n0
  have pre0 : ∀ t, Steps p.tables e below (s₁.setTop (mkF m 0 #[.val (.int p1)] [])) t → Steps p.tables e below (s₁.setTop (entryFrame m #[(.int p1)] 1)) t := fun t k => castTop (ef_10 m p1) k
  obtain ⟨fs, hr, hrun, hended, hW, hsame⟩ := X0.leave (v := some (.int (own_depth p1))) (fun h => by rw [Bd.returns] at h; cases h)
  refine ⟨_, _, pre0 _ ?_, hrun, hended, _, _, rfl, ?_, ⟨_, rfl⟩, hW, hsame.mono (by decide) (by decide)⟩
  · show Steps p.tables e below (s₁.setTop (mkF m 0 #[.val (.int p1)] [])) _
    refine XS.iloadN X0.here hx rfl (hb hby d10_0) rfl ?_
    show Steps p.tables e below (s₁.setTop (mkF m 1 #[.val (.int p1)] [(.int p1)])) _
    refine XS.iconst X0.here hx rfl (hb hby d10_1) ?_
    show Steps p.tables e below (s₁.setTop (mkF m 2 #[.val (.int p1)] [(.int (2 : Int32)), (.int p1)])) _
    by_cases hc2 : p1 < (2 : Int32)
    · refine XS.icmpNo X0.here hx rfl (hb hby d10_2) rfl (tlt hc2).2.1 ?_
      show Steps p.tables e below (s₁.setTop (mkF m 5 #[.val (.int p1)] [])) _
      refine XS.iconst X0.here hx rfl (hb hby d10_5) ?_
      rw [own_d0 hc2] at hr
      show Steps p.tables e below (s₁.setTop (mkF m 6 #[.val (.int p1)] [(.int (0 : Int32))])) _
      exact retI X0 hx Bd.returns (hb hby d10_6) hr
    · refine XS.icmpYes X0.here hx rfl (pc0 := 2) (pc' := 7) rfl (hb hby d10_2) rfl (flt hc2).2.1 (by decide) (by decide) ?_
      show Steps p.tables e below (s₁.setTop (mkF m 7 #[.val (.int p1)] [])) _
      refine XS.iloadN X0.here hx rfl (hb hby d10_7) rfl ?_
      show Steps p.tables e below (s₁.setTop (mkF m 8 #[.val (.int p1)] [(.int p1)])) _
      refine XS.iconst X0.here hx rfl (hb hby d10_8) ?_
      show Steps p.tables e below (s₁.setTop (mkF m 9 #[.val (.int p1)] [(.int (2 : Int32)), (.int p1)])) _
      by_cases hc9 : p1 = (2 : Int32)
      · refine XS.icmpNo X0.here hx rfl (hb hby d10_9) rfl (teq hc9).2 ?_
        show Steps p.tables e below (s₁.setTop (mkF m 12 #[.val (.int p1)] [])) _
        refine XS.iconst X0.here hx rfl (hb hby d10_12) ?_
        rw [own_d1 hc2 hc9] at hr
        show Steps p.tables e below (s₁.setTop (mkF m 13 #[.val (.int p1)] [(.int (1 : Int32))])) _
        exact retI X0 hx Bd.returns (hb hby d10_13) hr
      · refine XS.icmpYes X0.here hx rfl (pc0 := 9) (pc' := 14) rfl (hb hby d10_9) rfl (feq hc9).2 (by decide) (by decide) ?_
        show Steps p.tables e below (s₁.setTop (mkF m 14 #[.val (.int p1)] [])) _
        refine XS.iloadN X0.here hx rfl (hb hby d10_14) rfl ?_
        show Steps p.tables e below (s₁.setTop (mkF m 15 #[.val (.int p1)] [(.int p1)])) _
        refine XS.iconst X0.here hx rfl (hb hby d10_15) ?_
        show Steps p.tables e below (s₁.setTop (mkF m 16 #[.val (.int p1)] [(.int (5 : Int32)), (.int p1)])) _
        by_cases hc16 : p1 < (5 : Int32)
        · refine XS.icmpNo X0.here hx rfl (hb hby d10_16) rfl (tlt hc16).2.1 ?_
          show Steps p.tables e below (s₁.setTop (mkF m 19 #[.val (.int p1)] [])) _
          refine XS.iconst X0.here hx rfl (hb hby d10_19) ?_
          rw [own_d2 hc2 hc9 hc16] at hr
          show Steps p.tables e below (s₁.setTop (mkF m 20 #[.val (.int p1)] [(.int (2 : Int32))])) _
          exact retI X0 hx Bd.returns (hb hby d10_20) hr
        · refine XS.icmpYes X0.here hx rfl (pc0 := 16) (pc' := 21) rfl (hb hby d10_16) rfl (flt hc16).2.1 (by decide) (by decide) ?_
          show Steps p.tables e below (s₁.setTop (mkF m 21 #[.val (.int p1)] [])) _
          refine XS.iloadN X0.here hx rfl (hb hby d10_21) rfl ?_
          show Steps p.tables e below (s₁.setTop (mkF m 22 #[.val (.int p1)] [(.int p1)])) _
          refine XS.iconst X0.here hx rfl (hb hby d10_22) ?_
          show Steps p.tables e below (s₁.setTop (mkF m 23 #[.val (.int p1)] [(.int (2 : Int32)), (.int p1)])) _
          refine XS.isub X0.here hx rfl (hb hby d10_23) rfl ?_
          rw [own_d3 hc2 hc9 hc16] at hr
          show Steps p.tables e below (s₁.setTop (mkF m 24 #[.val (.int p1)] [(.int (p1 - (2 : Int32)))])) _
          exact retI X0 hx Bd.returns (hb hby d10_24) hr
  · show Q10 Z p1 h0 n0 _ s₁.heap _
    rw [e0]
    exact ⟨rfl, N0, rfl⟩
theorem d8_0 : decode prog_54_method_3_code 0 = .ok (.aload_n 1, 1) := by decide +kernel
theorem d8_1 : decode prog_54_method_3_code 1 = .ok (.invokevirtual 74, 3) := by decide +kernel
theorem d8_4 : decode prog_54_method_3_code 4 = .ok (.aload_n 0, 1) := by decide +kernel
theorem d8_5 : decode prog_54_method_3_code 5 = .ok (.getfield 20, 3) := by decide +kernel
theorem d8_8 : decode prog_54_method_3_code 8 = .ok (.if_icmp .lt 35, 3) := by decide +kernel
theorem d8_11 : decode prog_54_method_3_code 11 = .ok (.aload_n 1, 1) := by decide +kernel
theorem d8_12 : decode prog_54_method_3_code 12 = .ok (.invokevirtual 76, 3) := by decide +kernel
theorem d8_15 : decode prog_54_method_3_code 15 = .ok (.aload_n 0, 1) := by decide +kernel
theorem d8_16 : decode prog_54_method_3_code 16 = .ok (.getfield 27, 3) := by decide +kernel
theorem d8_19 : decode prog_54_method_3_code 19 = .ok (.if_icmp .gt 24, 3) := by decide +kernel
theorem d8_22 : decode prog_54_method_3_code 22 = .ok (.aload_n 1, 1) := by decide +kernel
theorem d8_23 : decode prog_54_method_3_code 23 = .ok (.invokevirtual 78, 3) := by decide +kernel
theorem d8_26 : decode prog_54_method_3_code 26 = .ok (.invokevirtual 81, 3) := by decide +kernel
theorem d8_29 : decode prog_54_method_3_code 29 = .ok (.aload_n 0, 1) := by decide +kernel
theorem d8_30 : decode prog_54_method_3_code 30 = .ok (.getfield 7, 3) := by decide +kernel
theorem d8_33 : decode prog_54_method_3_code 33 = .ok (.invokevirtual 81, 3) := by decide +kernel
theorem d8_36 : decode prog_54_method_3_code 36 = .ok (.if_icmp .le 7, 3) := by decide +kernel
theorem d8_39 : decode prog_54_method_3_code 39 = .ok (.iconst 1, 1) := by decide +kernel
theorem d8_40 : decode prog_54_method_3_code 40 = .ok (.goto 4, 3) := by decide +kernel
theorem d8_43 : decode prog_54_method_3_code 43 = .ok (.iconst 0, 1) := by decide +kernel
theorem d8_44 : decode prog_54_method_3_code 44 = .ok (.ireturn, 1) := by decide +kernel
theorem pn_8 : plainName "com/example/planwright/planwright/division/Division" = true := by first | (simp [plainName, overriddenIn]; done) | decide +kernel
theorem ef_8 (m : MethodId) (x0 : Addr) (x1 : Addr) : entryFrame m #[(.ref x0), (.ref x1)] 2 = mkF m 0 #[.val (.ref x0), .val (.ref x1)] [] := by first | (simp [entryFrame, mkF, argsToLocals, Value.category]; done) | rfl
def Q8 (Z : State) (a1 a2 : Addr) (i1 j1 v1 i2 j2 v2 : Int32) (h0 : Heap) (n0 : Nat) (v : Option Value) (h : Heap) (L : List Loc) : Prop := v = some (.int (own_holds i1 j1 v1 i2 j2 v2)) ∧ Fr n0 L ∧ h = h0
set_option maxRecDepth 65536 in
set_option maxHeartbeats 40000000 in
theorem rm8 (l : Launch) (Z : State) (a0 : Array Value) (hw : ∀ d ∈ tables_1, d.before a0 Z = true) (ws : List Jvm.Cond) (a1 a2 : Addr) (i1 j1 v1 i2 j2 v2 : Int32) (r1 r2 : Addr) (h0 : Heap) (n0 : Nat) (Z0 : n0 ≤ h0.size) (E2 : Exa Z h0 a2 "com/example/planwright/planwright/division/Division") (Fs2 : Fld Z h0 a2 "com/example/planwright/planwright/division/Division" "start" "I" (.int i2)) (Fe2 : Fld Z h0 a2 "com/example/planwright/planwright/division/Division" "end" "I" (.int j2)) (Fr2 : Fld Z h0 a2 "com/example/planwright/planwright/division/Division" "rank" "Lcom/example/planwright/planwright/division/Rank;" (.ref r2)) (Fs1 : Fld Z h0 a1 "com/example/planwright/planwright/division/Division" "start" "I" (.int i1)) (Fe1 : Fld Z h0 a1 "com/example/planwright/planwright/division/Division" "end" "I" (.int j1)) (Fr1 : Fld Z h0 a1 "com/example/planwright/planwright/division/Division" "rank" "Lcom/example/planwright/planwright/division/Rank;" (.ref r1)) (EC2 : Exa Z h0 r2 "com/example/planwright/planwright/division/Rank") (FL2 : Fld Z h0 r2 "com/example/planwright/planwright/division/Rank" "level" "I" (.int v2)) (EC1 : Exa Z h0 r1 "com/example/planwright/planwright/division/Rank") (FL1 : Fld Z h0 r1 "com/example/planwright/planwright/division/Rank" "level" "I" (.int v1)) :
    MetFree l (⟨"com/example/planwright/planwright/division/Division", "holds", "(Lcom/example/planwright/planwright/division/Division;)Z"⟩ : MethodName) (head1 (Jvm.Cond.code (⟨"com/example/planwright/planwright/division/Division", "holds", "(Lcom/example/planwright/planwright/division/Division;)Z"⟩ : MethodName) prog_54_method_3_code 2 (some .boolean) :: ws) ({ frames := 1, cells := 0, slots := 0, locals := 13 } : Room)) (fun a U => a = #[(.ref a1), (.ref a2)] ∧ Z.Warmed39 U.vm ∧ U.heap = h0) (fun _ _ _ _ _ => True) (fun _ U o U' => ∃ v L, o = .returned v ∧ Q8 Z a1 a2 i1 j1 v1 i2 j2 v2 h0 n0 v U'.heap L ∧ FrameEnd U o U' L ({ frames := 1, cells := 0, slots := 0, locals := 13 } : Room).cells ({ frames := 1, cells := 0, slots := 0, locals := 13 } : Room).slots) := by
  refine MetFree.of_bodySF (plainFor_of_name pn_8) hisR ?_
  intro p e s m args below meth c s₁ Bd hml0 hP hK
  obtain ⟨rfl, hZ, hh⟩ := hP
  have hx := Bd.exec
  have hby := Bd.bytes
  have hml : c.maxLocals = 2 := hml0
  have hown : s.vm.findClass "com/example/planwright/planwright/division/Division" = some m.cls := findClass_of_methodNamed Bd.named
  have hnm := (name_of_methodNamed Bd.named Bd.method).1
  have X0 : Stand p l e ({ frames := 1, cells := 0, slots := 0, locals := 13 } : Room) s m #[(.ref a1), (.ref a2)] below meth c s₁ [] 0 0 := Stand.of_body Bd
  have e0 : s₁.heap = h0 := by rw [← hh, Bd.state]; rfl
  have N0 := Fr.nil n0
  have pre0 : ∀ t, Steps p.tables e below (s₁.setTop (mkF m 0 #[.val (.ref a1), .val (.ref a2)] [])) t → Steps p.tables e below (s₁.setTop (entryFrame m #[(.ref a1), (.ref a2)] 2)) t := fun t k => castTop (ef_8 m a1 a2) k
  obtain ⟨cq2, kq2, q2a, q2b, q2c⟩ := isOf hZ e0 E2
  obtain ⟨_, _, ⟨T2, L2, k2, n2⟩, -, X2, ⟨Lc2, hQ2, l2, y2, z2⟩, st2⟩ := X0.virtualBack hx (y := (⟨"com/example/planwright/planwright/division/Division", "start", "()I"⟩ : MethodName)) (z := (⟨"com/example/planwright/planwright/division/Division", "start", "()I"⟩ : MethodName)) hown (mvT hZ (hw _ (List.mem_of_getElem? (i := 72) rfl))) (mvT hZ (hw _ (List.mem_of_getElem? (i := 73) rfl))) (notFace_of_selects (args := #[]) (mvT hZ (hw _ (List.mem_of_getElem? (i := 75) rfl)))) (mvT hZ (hw _ (List.mem_of_getElem? (i := 75) rfl))) (mvT hZ (hw _ (List.mem_of_getElem? (i := 74) rfl))) (by decide) (backOf (W := 0) (rm9 l Z a0 hw [] a2 i2 h0 n0 Z0 Fs2) hZ (hw _ (List.mem_of_getElem? (i := 76) rfl)) (hw _ (List.mem_of_getElem? (i := 2) rfl)) (by decide) (by decide)) q2a q2c (g := (mkF m 1 #[.val (.ref a1), .val (.ref a2)] [(.ref a2)])) rfl (by rw [hml]; rfl) (Steps.refl _) (argsL := []) (rest := []) (lenOf own_pd1 rfl) rfl (by show 2 * 0 + _ ≤ _; exact Nat.le_of_eq rfl) (hb hby d8_1) (fun _ _ => ⟨rfl, e0, (by decide : 0 + 0 ≤ _), (by decide : 0 + 0 ≤ _)⟩)
  dsimp only [Pt.U, Pt.locs, Pt.cells, Pt.slots] at X2 l2 y2 z2 st2 hQ2
  subst l2 y2 z2
  obtain ⟨rfl, N2q, e2⟩ := hQ2
  have N2 := Fr.app N0 N2q
  obtain ⟨T3, X3, e3, st3⟩ := getF X2 hx hZ hown (host := "") (Or.inl (hw _ (List.mem_of_getElem? (i := 59) rfl))) Via.refl e2 Fs1 (g := (mkF m 5 #[.val (.ref a1), .val (.ref a2)] [(.ref a1), (.int i2)])) rfl rfl (hb hby d8_5)
  by_cases hA : i2 < i1
  · obtain ⟨fs, hr, hrun, hended, hW, hsame⟩ := X3.leave (v := some (.int (own_holds i1 j1 v1 i2 j2 v2))) (fun h => by rw [Bd.returns] at h; cases h)
    refine ⟨_, _, pre0 _ ?_, hrun, hended, _, _, rfl, ?_, ⟨_, rfl⟩, hW, hsame.mono (by decide) (by decide)⟩
    · show Steps p.tables e below (s₁.setTop (mkF m 0 #[.val (.ref a1), .val (.ref a2)] [])) _
      refine XS.aloadN X0.here hx rfl (hb hby d8_0) rfl rfl ?_
      show Steps p.tables e below (s₁.setTop (mkF m 1 #[.val (.ref a1), .val (.ref a2)] [(.ref a2)])) _
      refine st2.trans ?_
      show Steps p.tables e below (T2.setTop (mkF m 4 #[.val (.ref a1), .val (.ref a2)] [(.int i2)])) _
      refine XS.aloadN X2.here hx rfl (hb hby d8_4) rfl rfl ?_
      show Steps p.tables e below (T2.setTop (mkF m 5 #[.val (.ref a1), .val (.ref a2)] [(.ref a1), (.int i2)])) _
      refine st3 _ ?_
      show Steps p.tables e below (T3.setTop (mkF m 8 #[.val (.ref a1), .val (.ref a2)] [(.int i1), (.int i2)])) _
      refine XS.icmpYes X3.here hx rfl (pc0 := 8) (pc' := 43) rfl (hb hby d8_8) rfl (tlt hA).1 (by decide) (by decide) ?_
      show Steps p.tables e below (T3.setTop (mkF m 43 #[.val (.ref a1), .val (.ref a2)] [])) _
      refine XS.iconst X3.here hx rfl (hb hby d8_43) ?_
      rw [own_h0 hA] at hr
      show Steps p.tables e below (T3.setTop (mkF m 44 #[.val (.ref a1), .val (.ref a2)] [(.int (0 : Int32))])) _
      exact retN X3 hx (t := .boolean) Bd.returns (by simp) (hb hby d8_44) hr
    · show Q8 Z a1 a2 i1 j1 v1 i2 j2 v2 h0 n0 _ T3.heap _
      rw [e3]
      exact ⟨rfl, N2, rfl⟩
  · obtain ⟨cq4, kq4, q4a, q4b, q4c⟩ := isOf hZ e3 E2
    obtain ⟨_, _, ⟨T4, L4, k4, n4⟩, -, X4, ⟨Lc4, hQ4, l4, y4, z4⟩, st4⟩ := X3.virtualBack hx (y := (⟨"com/example/planwright/planwright/division/Division", "end", "()I"⟩ : MethodName)) (z := (⟨"com/example/planwright/planwright/division/Division", "end", "()I"⟩ : MethodName)) hown (mvT hZ (hw _ (List.mem_of_getElem? (i := 82) rfl))) (mvT hZ (hw _ (List.mem_of_getElem? (i := 83) rfl))) (notFace_of_selects (args := #[]) (mvT hZ (hw _ (List.mem_of_getElem? (i := 85) rfl)))) (mvT hZ (hw _ (List.mem_of_getElem? (i := 85) rfl))) (mvT hZ (hw _ (List.mem_of_getElem? (i := 84) rfl))) (by decide) (backOf (W := 0) (rm11 l Z a0 hw [] a2 j2 h0 n0 Z0 Fe2) hZ (hw _ (List.mem_of_getElem? (i := 86) rfl)) (hw _ (List.mem_of_getElem? (i := 2) rfl)) (by decide) (by decide)) q4a q4c (g := (mkF m 12 #[.val (.ref a1), .val (.ref a2)] [(.ref a2)])) rfl (by rw [hml]; rfl) (Steps.refl _) (argsL := []) (rest := []) (lenOf own_pd1 rfl) rfl (by show 2 * 0 + _ ≤ _; exact Nat.le_of_eq rfl) (hb hby d8_12) (fun _ _ => ⟨rfl, e3, (by decide : 0 + 0 ≤ _), (by decide : 0 + 0 ≤ _)⟩)
    dsimp only [Pt.U, Pt.locs, Pt.cells, Pt.slots] at X4 l4 y4 z4 st4 hQ4
    subst l4 y4 z4
    obtain ⟨rfl, N4q, e4⟩ := hQ4
    have N4 := Fr.app N2 N4q
    obtain ⟨T5, X5, e5, st5⟩ := getF X4 hx hZ hown (host := "") (Or.inl (hw _ (List.mem_of_getElem? (i := 63) rfl))) Via.refl e4 Fe1 (g := (mkF m 16 #[.val (.ref a1), .val (.ref a2)] [(.ref a1), (.int j2)])) rfl rfl (hb hby d8_16)
    by_cases hB : j1 < j2
    · obtain ⟨fs, hr, hrun, hended, hW, hsame⟩ := X5.leave (v := some (.int (own_holds i1 j1 v1 i2 j2 v2))) (fun h => by rw [Bd.returns] at h; cases h)
      refine ⟨_, _, pre0 _ ?_, hrun, hended, _, _, rfl, ?_, ⟨_, rfl⟩, hW, hsame.mono (by decide) (by decide)⟩
      · show Steps p.tables e below (s₁.setTop (mkF m 0 #[.val (.ref a1), .val (.ref a2)] [])) _
        refine XS.aloadN X0.here hx rfl (hb hby d8_0) rfl rfl ?_
        show Steps p.tables e below (s₁.setTop (mkF m 1 #[.val (.ref a1), .val (.ref a2)] [(.ref a2)])) _
        refine st2.trans ?_
        show Steps p.tables e below (T2.setTop (mkF m 4 #[.val (.ref a1), .val (.ref a2)] [(.int i2)])) _
        refine XS.aloadN X2.here hx rfl (hb hby d8_4) rfl rfl ?_
        show Steps p.tables e below (T2.setTop (mkF m 5 #[.val (.ref a1), .val (.ref a2)] [(.ref a1), (.int i2)])) _
        refine st3 _ ?_
        show Steps p.tables e below (T3.setTop (mkF m 8 #[.val (.ref a1), .val (.ref a2)] [(.int i1), (.int i2)])) _
        refine XS.icmpNo X3.here hx rfl (hb hby d8_8) rfl (flt hA).1 ?_
        show Steps p.tables e below (T3.setTop (mkF m 11 #[.val (.ref a1), .val (.ref a2)] [])) _
        refine XS.aloadN X3.here hx rfl (hb hby d8_11) rfl rfl ?_
        show Steps p.tables e below (T3.setTop (mkF m 12 #[.val (.ref a1), .val (.ref a2)] [(.ref a2)])) _
        refine st4.trans ?_
        show Steps p.tables e below (T4.setTop (mkF m 15 #[.val (.ref a1), .val (.ref a2)] [(.int j2)])) _
        refine XS.aloadN X4.here hx rfl (hb hby d8_15) rfl rfl ?_
        show Steps p.tables e below (T4.setTop (mkF m 16 #[.val (.ref a1), .val (.ref a2)] [(.ref a1), (.int j2)])) _
        refine st5 _ ?_
        show Steps p.tables e below (T5.setTop (mkF m 19 #[.val (.ref a1), .val (.ref a2)] [(.int j1), (.int j2)])) _
        refine XS.icmpYes X5.here hx rfl (pc0 := 19) (pc' := 43) rfl (hb hby d8_19) rfl (tlt hB).2.2.1 (by decide) (by decide) ?_
        show Steps p.tables e below (T5.setTop (mkF m 43 #[.val (.ref a1), .val (.ref a2)] [])) _
        refine XS.iconst X5.here hx rfl (hb hby d8_43) ?_
        rw [own_h1 hA hB] at hr
        show Steps p.tables e below (T5.setTop (mkF m 44 #[.val (.ref a1), .val (.ref a2)] [(.int (0 : Int32))])) _
        exact retN X5 hx (t := .boolean) Bd.returns (by simp) (hb hby d8_44) hr
      · show Q8 Z a1 a2 i1 j1 v1 i2 j2 v2 h0 n0 _ T5.heap _
        rw [e5]
        exact ⟨rfl, N4, rfl⟩
    · obtain ⟨cq6, kq6, q6a, q6b, q6c⟩ := isOf hZ e5 E2
      obtain ⟨_, _, ⟨T6, L6, k6, n6⟩, -, X6, ⟨Lc6, hQ6, l6, y6, z6⟩, st6⟩ := X5.virtualBack hx (y := (⟨"com/example/planwright/planwright/division/Division", "rank", "()Lcom/example/planwright/planwright/division/Rank;"⟩ : MethodName)) (z := (⟨"com/example/planwright/planwright/division/Division", "rank", "()Lcom/example/planwright/planwright/division/Rank;"⟩ : MethodName)) hown (mvT hZ (hw _ (List.mem_of_getElem? (i := 87) rfl))) (mvT hZ (hw _ (List.mem_of_getElem? (i := 88) rfl))) (notFace_of_selects (args := #[]) (mvT hZ (hw _ (List.mem_of_getElem? (i := 90) rfl)))) (mvT hZ (hw _ (List.mem_of_getElem? (i := 90) rfl))) (mvT hZ (hw _ (List.mem_of_getElem? (i := 89) rfl))) (by decide) (backOf (W := 0) (rm12 l Z a0 hw [] a2 r2 h0 n0 Z0 Fr2) hZ (hw _ (List.mem_of_getElem? (i := 91) rfl)) (hw _ (List.mem_of_getElem? (i := 2) rfl)) (by decide) (by decide)) q6a q6c (g := (mkF m 23 #[.val (.ref a1), .val (.ref a2)] [(.ref a2)])) rfl (by rw [hml]; rfl) (Steps.refl _) (argsL := []) (rest := []) (lenOf own_pd2 rfl) rfl (by show 2 * 0 + _ ≤ _; exact Nat.le_of_eq rfl) (hb hby d8_23) (fun _ _ => ⟨rfl, e5, (by decide : 0 + 0 ≤ _), (by decide : 0 + 0 ≤ _)⟩)
      dsimp only [Pt.U, Pt.locs, Pt.cells, Pt.slots] at X6 l6 y6 z6 st6 hQ6
      subst l6 y6 z6
      obtain ⟨rfl, N6q, e6⟩ := hQ6
      have N6 := Fr.app N4 N6q
      obtain ⟨cq7, kq7, q7a, q7b, q7c⟩ := isOf hZ e6 EC2
      obtain ⟨_, _, ⟨T7, L7, k7, n7⟩, -, X7, ⟨Lc7, hQ7, l7, y7, z7⟩, st7⟩ := X6.virtualBack hx (y := (⟨"com/example/planwright/planwright/division/Rank", "level", "()I"⟩ : MethodName)) (z := (⟨"com/example/planwright/planwright/division/Rank", "level", "()I"⟩ : MethodName)) hown (mvT hZ (hw _ (List.mem_of_getElem? (i := 92) rfl))) (mvT hZ (hw _ (List.mem_of_getElem? (i := 93) rfl))) (notFace_of_selects (args := #[]) (mvT hZ (hw _ (List.mem_of_getElem? (i := 95) rfl)))) (mvT hZ (hw _ (List.mem_of_getElem? (i := 95) rfl))) (mvT hZ (hw _ (List.mem_of_getElem? (i := 94) rfl))) (by decide) (backOf (W := 0) (rm13 l Z a0 hw [] r2 v2 h0 n0 Z0 FL2) hZ (hw _ (List.mem_of_getElem? (i := 96) rfl)) (hw _ (List.mem_of_getElem? (i := 8) rfl)) (by decide) (by decide)) q7a q7c (g := (mkF m 26 #[.val (.ref a1), .val (.ref a2)] [(.ref r2)])) rfl (by rw [hml]; rfl) (Steps.refl _) (argsL := []) (rest := []) (lenOf own_pd1 rfl) rfl (by show 2 * 0 + _ ≤ _; exact Nat.le_of_eq rfl) (hb hby d8_26) (fun _ _ => ⟨rfl, e6, (by decide : 0 + 0 ≤ _), (by decide : 0 + 0 ≤ _)⟩)
      dsimp only [Pt.U, Pt.locs, Pt.cells, Pt.slots] at X7 l7 y7 z7 st7 hQ7
      subst l7 y7 z7
      obtain ⟨rfl, N7q, e7⟩ := hQ7
      have N7 := Fr.app N6 N7q
      obtain ⟨T8, X8, e8, st8⟩ := getF X7 hx hZ hown (host := "") (Or.inl (hw _ (List.mem_of_getElem? (i := 53) rfl))) Via.refl e7 Fr1 (g := (mkF m 30 #[.val (.ref a1), .val (.ref a2)] [(.ref a1), (.int v2)])) rfl rfl (hb hby d8_30)
      obtain ⟨cq9, kq9, q9a, q9b, q9c⟩ := isOf hZ e8 EC1
      obtain ⟨_, _, ⟨T9, L9, k9, n9⟩, -, X9, ⟨Lc9, hQ9, l9, y9, z9⟩, st9⟩ := X8.virtualBack hx (y := (⟨"com/example/planwright/planwright/division/Rank", "level", "()I"⟩ : MethodName)) (z := (⟨"com/example/planwright/planwright/division/Rank", "level", "()I"⟩ : MethodName)) hown (mvT hZ (hw _ (List.mem_of_getElem? (i := 92) rfl))) (mvT hZ (hw _ (List.mem_of_getElem? (i := 93) rfl))) (notFace_of_selects (args := #[]) (mvT hZ (hw _ (List.mem_of_getElem? (i := 95) rfl)))) (mvT hZ (hw _ (List.mem_of_getElem? (i := 95) rfl))) (mvT hZ (hw _ (List.mem_of_getElem? (i := 94) rfl))) (by decide) (backOf (W := 1) (rm13 l Z a0 hw [] r1 v1 h0 n0 Z0 FL1) hZ (hw _ (List.mem_of_getElem? (i := 96) rfl)) (hw _ (List.mem_of_getElem? (i := 8) rfl)) (by decide) (by decide)) q9a q9c (g := (mkF m 33 #[.val (.ref a1), .val (.ref a2)] [(.ref r1), (.int v2)])) rfl (by rw [hml]; rfl) (Steps.refl _) (argsL := []) (rest := [(.int v2)]) (lenOf own_pd1 rfl) rfl (by show 2 * 0 + _ ≤ _; exact Nat.le_of_eq rfl) (hb hby d8_33) (fun _ _ => ⟨rfl, e8, (by decide : 0 + 0 ≤ _), (by decide : 0 + 0 ≤ _)⟩)
      dsimp only [Pt.U, Pt.locs, Pt.cells, Pt.slots] at X9 l9 y9 z9 st9 hQ9
      subst l9 y9 z9
      obtain ⟨rfl, N9q, e9⟩ := hQ9
      have N9 := Fr.app N7 N9q
      obtain ⟨fs, hr, hrun, hended, hW, hsame⟩ := X9.leave (v := some (.int (own_holds i1 j1 v1 i2 j2 v2))) (fun h => by rw [Bd.returns] at h; cases h)
      refine ⟨_, _, pre0 _ ?_, hrun, hended, _, _, rfl, ?_, ⟨_, rfl⟩, hW, hsame.mono (by decide) (by decide)⟩
      · show Steps p.tables e below (s₁.setTop (mkF m 0 #[.val (.ref a1), .val (.ref a2)] [])) _
        refine XS.aloadN X0.here hx rfl (hb hby d8_0) rfl rfl ?_
        show Steps p.tables e below (s₁.setTop (mkF m 1 #[.val (.ref a1), .val (.ref a2)] [(.ref a2)])) _
        refine st2.trans ?_
        show Steps p.tables e below (T2.setTop (mkF m 4 #[.val (.ref a1), .val (.ref a2)] [(.int i2)])) _
        refine XS.aloadN X2.here hx rfl (hb hby d8_4) rfl rfl ?_
        show Steps p.tables e below (T2.setTop (mkF m 5 #[.val (.ref a1), .val (.ref a2)] [(.ref a1), (.int i2)])) _
        refine st3 _ ?_
        show Steps p.tables e below (T3.setTop (mkF m 8 #[.val (.ref a1), .val (.ref a2)] [(.int i1), (.int i2)])) _
        refine XS.icmpNo X3.here hx rfl (hb hby d8_8) rfl (flt hA).1 ?_
        show Steps p.tables e below (T3.setTop (mkF m 11 #[.val (.ref a1), .val (.ref a2)] [])) _
        refine XS.aloadN X3.here hx rfl (hb hby d8_11) rfl rfl ?_
        show Steps p.tables e below (T3.setTop (mkF m 12 #[.val (.ref a1), .val (.ref a2)] [(.ref a2)])) _
        refine st4.trans ?_
        show Steps p.tables e below (T4.setTop (mkF m 15 #[.val (.ref a1), .val (.ref a2)] [(.int j2)])) _
        refine XS.aloadN X4.here hx rfl (hb hby d8_15) rfl rfl ?_
        show Steps p.tables e below (T4.setTop (mkF m 16 #[.val (.ref a1), .val (.ref a2)] [(.ref a1), (.int j2)])) _
        refine st5 _ ?_
        show Steps p.tables e below (T5.setTop (mkF m 19 #[.val (.ref a1), .val (.ref a2)] [(.int j1), (.int j2)])) _
        refine XS.icmpNo X5.here hx rfl (hb hby d8_19) rfl (flt hB).2.2.1 ?_
        show Steps p.tables e below (T5.setTop (mkF m 22 #[.val (.ref a1), .val (.ref a2)] [])) _
        refine XS.aloadN X5.here hx rfl (hb hby d8_22) rfl rfl ?_
        show Steps p.tables e below (T5.setTop (mkF m 23 #[.val (.ref a1), .val (.ref a2)] [(.ref a2)])) _
        refine st6.trans ?_
        show Steps p.tables e below (T6.setTop (mkF m 26 #[.val (.ref a1), .val (.ref a2)] [(.ref r2)])) _
        refine st7.trans ?_
        show Steps p.tables e below (T7.setTop (mkF m 29 #[.val (.ref a1), .val (.ref a2)] [(.int v2)])) _
        refine XS.aloadN X7.here hx rfl (hb hby d8_29) rfl rfl ?_
        show Steps p.tables e below (T7.setTop (mkF m 30 #[.val (.ref a1), .val (.ref a2)] [(.ref a1), (.int v2)])) _
        refine st8 _ ?_
        show Steps p.tables e below (T8.setTop (mkF m 33 #[.val (.ref a1), .val (.ref a2)] [(.ref r1), (.int v2)])) _
        refine st9.trans ?_
        show Steps p.tables e below (T9.setTop (mkF m 36 #[.val (.ref a1), .val (.ref a2)] [(.int v1), (.int v2)])) _
        by_cases hc36 : v1 < v2
        · refine XS.icmpNo X9.here hx rfl (hb hby d8_36) rfl (tlt hc36).2.2.2 ?_
          show Steps p.tables e below (T9.setTop (mkF m 39 #[.val (.ref a1), .val (.ref a2)] [])) _
          refine XS.iconst X9.here hx rfl (hb hby d8_39) ?_
          show Steps p.tables e below (T9.setTop (mkF m 40 #[.val (.ref a1), .val (.ref a2)] [(.int (1 : Int32))])) _
          refine XS.goto X9.here hx rfl (pc0 := 40) (pc' := 44) rfl (hb hby d8_40) (by decide) (by decide) ?_
          rw [own_h2 hA hB hc36] at hr
          show Steps p.tables e below (T9.setTop (mkF m 44 #[.val (.ref a1), .val (.ref a2)] [(.int (1 : Int32))])) _
          exact retN X9 hx (t := .boolean) Bd.returns (by simp) (hb hby d8_44) hr
        · refine XS.icmpYes X9.here hx rfl (pc0 := 36) (pc' := 43) rfl (hb hby d8_36) rfl (flt hc36).2.2.2 (by decide) (by decide) ?_
          show Steps p.tables e below (T9.setTop (mkF m 43 #[.val (.ref a1), .val (.ref a2)] [])) _
          refine XS.iconst X9.here hx rfl (hb hby d8_43) ?_
          rw [own_h3 hA hB hc36] at hr
          show Steps p.tables e below (T9.setTop (mkF m 44 #[.val (.ref a1), .val (.ref a2)] [(.int (0 : Int32))])) _
          exact retN X9 hx (t := .boolean) Bd.returns (by simp) (hb hby d8_44) hr
      · show Q8 Z a1 a2 i1 j1 v1 i2 j2 v2 h0 n0 _ T9.heap _
        rw [e9]
        exact ⟨rfl, N9, rfl⟩
theorem pn_0 : plainName "com/example/planwright/planwright/division/DivisionHoldsPinLaw" = true := by first | (simp [plainName, overriddenIn]; done) | decide +kernel
theorem ef_0 (m : MethodId) (x0 : Int32) (x1 : Int32) (x2 : Int32) (x3 : Int32) (x4 : Int32) : entryFrame m #[(.int x0), (.int x1), (.int x2), (.int x3), (.int x4)] maxLocals = mkF m 0 #[.val (.int x0), .val (.int x1), .val (.int x2), .val (.int x3), .val (.int x4), .unset, .unset, .unset, .unset, .unset] [] := by first | (simp [entryFrame, mkF, argsToLocals, Value.category, maxLocals]; done) | rfl
def Q0 (Z : State) (p1 p2 p3 p4 p5 : Int32) (h0 : Heap) (n0 : Nat) (v : Option Value) (h : Heap) (L : List Loc) : Prop := v = some (.int (1 : Int32)) ∧ Fr n0 L
set_option maxRecDepth 65536 in
set_option maxHeartbeats 40000000 in
theorem rm0 (l : Launch) (Z : State) (a0 : Array Value) (hw : ∀ d ∈ tables_1, d.before a0 Z = true) (ws : List Jvm.Cond) (p1 : Int32) (p2 : Int32) (p3 : Int32) (p4 : Int32) (p5 : Int32) (cs : Nat → Addr) (w : Addr) (h0 : Heap) (n0 : Nat) (Z0 : n0 ≤ h0.size) (hR : own_Rk Z h0 cs) (SD : Sta Z h0 "java/util/ArrayList" "DEFAULTCAPACITY_EMPTY_ELEMENTDATA" "[Ljava/lang/Object;" (.ref w)) :
    MetFree l x (head1 (Jvm.Cond.code x code maxLocals ret :: ws) room_1) (fun a U => a = #[(.int p1), (.int p2), (.int p3), (.int p4), (.int p5)] ∧ Z.Warmed39 U.vm ∧ U.heap = h0) (fun _ _ _ _ _ => True) (fun _ U o U' => ∃ v L, o = .returned v ∧ Q0 Z p1 p2 p3 p4 p5 h0 n0 v U'.heap L ∧ ReturnedEndW U o U' L room_1.cells room_1.slots) := by
  refine MetFree.of_bodySF (plainFor_of_name pn_0) hisR ?_
  intro p e s m args below meth c s₁ Bd hml0 hP hK
  obtain ⟨rfl, hZ, hh⟩ := hP
  have hx := Bd.exec
  have hby := Bd.bytes
  have hml : c.maxLocals = 10 := hml0
  have hown : s.vm.findClass "com/example/planwright/planwright/division/DivisionHoldsPinLaw" = some m.cls := findClass_of_methodNamed Bd.named
  have hnm := (name_of_methodNamed Bd.named Bd.method).1
  have X0 : Stand p l e room_1 s m #[(.int p1), (.int p2), (.int p3), (.int p4), (.int p5)] below meth c s₁ [] 0 0 := Stand.of_body Bd
  have e0 : s₁.heap = h0 := by rw [← hh, Bd.state]; rfl
  have N0 := Fr.nil n0
  have pre0 : ∀ t, Steps p.tables e below (s₁.setTop (mkF m 0 #[.val (.int p1), .val (.int p2), .val (.int p3), .val (.int p4), .val (.int p5), .unset, .unset, .unset, .unset, .unset] [])) t → Steps p.tables e below (s₁.setTop (entryFrame m #[(.int p1), (.int p2), (.int p3), (.int p4), (.int p5)] maxLocals)) t := fun t k => castTop (ef_0 m p1 p2 p3 p4 p5) k
  obtain ⟨T2, h2, X2, e2, E2, A2, D2, -, st2⟩ := newO X0 hx hZ hown (hw _ (List.mem_of_getElem? (i := 0) rfl)) (hw _ (List.mem_of_getElem? (i := 1) rfl)) (hw _ (List.mem_of_getElem? (i := 2) rfl)) e0 (g := (mkF m 14 #[.val (.int p1), .val (.int p2), .val (.int p3), .val (.int p4), .val (.int p5), .val (.int (own_r1 p1)), .val (.int (own_r2 p1)), .unset, .unset, .unset] [])) rfl (hb hby at_14) (by decide) (by decide)
  obtain ⟨b2, g2⟩ : ∃ z, z = h0.size := ⟨_, rfl⟩
  rw [← g2] at A2 D2 st2
  have F_rank_b2 : Fld Z h2 b2 "com/example/planwright/planwright/division/Division" "rank" "Lcom/example/planwright/planwright/division/Rank;" .null := D2 (Or.inr (hw _ (List.mem_of_getElem? (i := 54) rfl))) (ty := (.object "com/example/planwright/planwright/division/Rank")) (by decide)
  have F_label_b2 : Fld Z h2 b2 "com/example/planwright/planwright/division/Division" "label" "Ljava/lang/String;" .null := D2 (Or.inr (hw _ (List.mem_of_getElem? (i := 56) rfl))) (ty := (.object "java/lang/String")) (by decide)
  have F_heading_b2 : Fld Z h2 b2 "com/example/planwright/planwright/division/Division" "heading" "Ljava/lang/String;" .null := D2 (Or.inr (hw _ (List.mem_of_getElem? (i := 58) rfl))) (ty := (.object "java/lang/String")) (by decide)
  have F_start_b2 : Fld Z h2 b2 "com/example/planwright/planwright/division/Division" "start" "I" (.int (0 : Int32)) := D2 (Or.inr (hw _ (List.mem_of_getElem? (i := 60) rfl))) (ty := .int) (by decide)
  have F_textStart_b2 : Fld Z h2 b2 "com/example/planwright/planwright/division/Division" "textStart" "I" (.int (0 : Int32)) := D2 (Or.inr (hw _ (List.mem_of_getElem? (i := 62) rfl))) (ty := .int) (by decide)
  have F_end_b2 : Fld Z h2 b2 "com/example/planwright/planwright/division/Division" "end" "I" (.int (0 : Int32)) := D2 (Or.inr (hw _ (List.mem_of_getElem? (i := 64) rfl))) (ty := .int) (by decide)
  have F_children_b2 : Fld Z h2 b2 "com/example/planwright/planwright/division/Division" "children" "Ljava/util/List;" .null := D2 (Or.inr (hw _ (List.mem_of_getElem? (i := 66) rfl))) (ty := (.object "java/util/List")) (by decide)
  have K2 : Keep h0 h2 [] := (Keep.refl h0 []).ext E2
  have Z2 : n0 ≤ h2.size := Nat.le_trans Z0 K2.1
  have g_b2 : h0.size ≤ b2 := Nat.le_trans (Keep.refl h0 []).1 (Nat.le_of_eq g2.symm)
  obtain ⟨_, _, ⟨T3, L3, k3, n3⟩, -, X3, ⟨Lc3, hQ3, l3, y3, z3⟩, st3⟩ := Jvm.LawKit.callS X2 hx (y := (⟨"com/example/planwright/planwright/division/DivisionHoldsPinLaw", "rankOf", "(I)Lcom/example/planwright/planwright/division/Rank;"⟩ : MethodName)) hown (mvT hZ (hw _ (List.mem_of_getElem? (i := 3) rfl))) (mvT hZ (hw _ (List.mem_of_getElem? (i := 4) rfl))) (mvT hZ (hw _ (List.mem_of_getElem? (i := 5) rfl))) (mvT hZ (hw _ (List.mem_of_getElem? (i := 6) rfl))) (by decide) (backOf (W := 2) (rm1 l Z a0 hw [] (own_r1 p1) cs h2 n0 Z2 (own_Rk_keep hR K2)) hZ (hw _ (List.mem_of_getElem? (i := 6) rfl)) (hw _ (List.mem_of_getElem? (i := 5) rfl)) (by decide) (by decide)) (g := (mkF m 20 #[.val (.int p1), .val (.int p2), .val (.int p3), .val (.int p4), .val (.int p5), .val (.int (own_r1 p1)), .val (.int (own_r2 p1)), .unset, .unset, .unset] [(.int (own_r1 p1)), (.ref b2), (.ref b2)])) rfl (by rw [hml]; rfl) (argsL := [(.int (own_r1 p1))]) (rest := [(.ref b2), (.ref b2)]) (lenOf own_pd3 rfl) rfl (by show 2 * 0 + _ ≤ _; exact Nat.le_of_eq rfl) (hb hby at_20) (fun _ _ => ⟨rfl, e2, (by decide : 1 + 0 ≤ _), (by decide : 7 + 0 ≤ _)⟩)
  dsimp only [Pt.U, Pt.locs, Pt.cells, Pt.slots] at X3 l3 y3 z3 st3 hQ3
  subst l3 y3 z3
  obtain ⟨rfl, N3q, e3⟩ := hQ3
  have N3 := Fr.app N0 N3q
  obtain ⟨a4, T4, h4, k4, X4, e4, E4, hS, hk, hZ, hown, st4⟩ := ldcS (s := s) (vm0 := s.vm) X3 hx hZ hown (hw _ (List.mem_of_getElem? (i := 10) rfl)) (fun d hd => hw d (own_sub d hd)) e3 (State.WarmedH.since (State.WarmedH.refl s) 0) (Nat.zero_le _) (g := (mkF m 23 #[.val (.int p1), .val (.int p2), .val (.int p3), .val (.int p4), .val (.int p5), .val (.int (own_r1 p1)), .val (.int (own_r2 p1)), .unset, .unset, .unset] [(.ref (cs (own_idx (own_r1 p1)))), (.ref b2), (.ref b2)])) rfl (hb hby at_23) (n := 0) (by decide) (by decide) (by decide) (by decide)
  obtain ⟨a5, T5, h5, k5, X5, e5, E5, hS, hk, hZ, hown, st5⟩ := ldcS (s := s) (vm0 := T4.vm) X4 hx hZ hown (hw _ (List.mem_of_getElem? (i := 10) rfl)) (fun d hd => hw d (own_sub d hd)) e4 hS hk (g := (mkF m 25 #[.val (.int p1), .val (.int p2), .val (.int p3), .val (.int p4), .val (.int p5), .val (.int (own_r1 p1)), .val (.int (own_r2 p1)), .unset, .unset, .unset] [(.ref a4), (.ref (cs (own_idx (own_r1 p1)))), (.ref b2), (.ref b2)])) rfl (hb hby at_25) (n := 0) (by decide) (by decide) (by decide) (by decide)
  obtain ⟨T6, h6, X6, e6, E6, A6, D6, -, st6⟩ := newO X5 hx hZ hown (hw _ (List.mem_of_getElem? (i := 18) rfl)) (hw _ (List.mem_of_getElem? (i := 19) rfl)) (hw _ (List.mem_of_getElem? (i := 20) rfl)) e5 (g := (mkF m 30 #[.val (.int p1), .val (.int p2), .val (.int p3), .val (.int p4), .val (.int p5), .val (.int (own_r1 p1)), .val (.int (own_r2 p1)), .unset, .unset, .unset] [(.int p3), (.int p2), (.int p2), (.ref a5), (.ref a4), (.ref (cs (own_idx (own_r1 p1)))), (.ref b2), (.ref b2)])) rfl (hb hby at_30) (by decide) (by decide)
  obtain ⟨l6, g6⟩ : ∃ z, z = h5.size := ⟨_, rfl⟩
  rw [← g6] at A6 D6 st6
  have F_m6 : Fld Z h6 l6 "java/util/AbstractList" "modCount" "I" (.int (0 : Int32)) := D6 (Or.inl (hw _ (List.mem_of_getElem? (i := 40) rfl))) (ty := .int) (by decide)
  have F_e6 : Fld Z h6 l6 "java/util/ArrayList" "elementData" "[Ljava/lang/Object;" .null := D6 (Or.inl (hw _ (List.mem_of_getElem? (i := 43) rfl))) (ty := (.array (.object "java/lang/Object"))) (by decide)
  have KC6 : Keep h2 h6 [] := (((Keep.refl h2 []).ext E4).ext E5).ext E6
  have K6 : Keep h0 h6 [] := K2.trans KC6 all0
  have Z6 : n0 ≤ h6.size := Nat.le_trans Z0 K6.1
  have q_l6 : h2.size ≤ l6 := Nat.le_trans (((Keep.refl h2 []).ext E4).ext E5).1 (Nat.le_of_eq g6.symm)
  have g_l6 : h0.size ≤ l6 := Nat.le_trans K2.1 q_l6
  obtain ⟨_, _, ⟨T7, L7, k7, n7⟩, -, X7, ⟨Lc7, hQ7, l7, y7, z7⟩, st7⟩ := X6.specialBack hx (y := (⟨"java/util/ArrayList", "<init>", "()V"⟩ : MethodName)) rfl hown (mvT hZ (hw _ (List.mem_of_getElem? (i := 21) rfl))) (mvT hZ (hw _ (List.mem_of_getElem? (i := 22) rfl))) (mvT hZ (hw _ (List.mem_of_getElem? (i := 23) rfl))) (by decide) (backOf (W := 9) (rm2 l Z a0 hw [] l6 (.int 0) .null w h6 n0 Z6 A6 F_m6 F_e6 (own_sta SD K6) (Nat.le_trans Z0 g_l6)) hZ (hw _ (List.mem_of_getElem? (i := 23) rfl)) (hw _ (List.mem_of_getElem? (i := 20) rfl)) (by decide) (by decide)) (g := (mkF m 34 #[.val (.int p1), .val (.int p2), .val (.int p3), .val (.int p4), .val (.int p5), .val (.int (own_r1 p1)), .val (.int (own_r2 p1)), .unset, .unset, .unset] [(.ref l6), (.ref l6), (.int p3), (.int p2), (.int p2), (.ref a5), (.ref a4), (.ref (cs (own_idx (own_r1 p1)))), (.ref b2), (.ref b2)])) rfl (by rw [hml]; rfl) (Steps.refl _) (a := l6) (argsL := []) (rest := [(.ref l6), (.int p3), (.int p2), (.int p2), (.ref a5), (.ref a4), (.ref (cs (own_idx (own_r1 p1)))), (.ref b2), (.ref b2)]) (lenOf own_pd0 rfl) rfl (by show 2 * 0 + _ ≤ _; exact Nat.le_of_eq rfl) (hb hby at_34) (fun _ _ => ⟨rfl, e6, (by decide : 6 + 0 ≤ _), (by decide : 18 + 0 ≤ _)⟩)
  dsimp only [Pt.U, Pt.locs, Pt.cells, Pt.slots] at X7 l7 y7 z7 st7 hQ7
  subst l7 y7 z7
  obtain ⟨rfl, N7q, Kc7⟩ := hQ7
  have N7 := Fr.app N3 N7q
  have KC7 : Keep h2 T7.heap [] := KC6.trans Kc7 (allS (Or.inr q_l6) all0)
  have K7 : Keep h0 T7.heap [] := K2.trans KC7 all0
  have Z7 : n0 ≤ T7.heap.size := Nat.le_trans Z0 K7.1
  obtain ⟨_, _, ⟨T8, L8, k8, n8⟩, -, X8, ⟨Lc8, hQ8, l8, y8, z8⟩, st8⟩ := X7.specialBack hx (y := (⟨"com/example/planwright/planwright/division/Division", "<init>", "(Lcom/example/planwright/planwright/division/Rank;Ljava/lang/String;Ljava/lang/String;IIILjava/util/List;)V"⟩ : MethodName)) rfl hown (mvT hZ (hw _ (List.mem_of_getElem? (i := 44) rfl))) (mvT hZ (hw _ (List.mem_of_getElem? (i := 45) rfl))) (mvT hZ (hw _ (List.mem_of_getElem? (i := 46) rfl))) (by decide) (backOf (W := 1) (rm6 l Z a0 hw [] b2 (cs (own_idx (own_r1 p1))) a4 a5 p2 p2 p3 l6 .null .null .null (.int (0 : Int32)) (.int (0 : Int32)) (.int (0 : Int32)) .null T7.heap n0 Z7 (A2.keep KC7) (F_rank_b2.keep KC7 nin0) (Nat.le_trans Z0 g_b2) (F_label_b2.keep KC7 nin0) (F_heading_b2.keep KC7 nin0) (F_start_b2.keep KC7 nin0) (F_textStart_b2.keep KC7 nin0) (F_end_b2.keep KC7 nin0) (F_children_b2.keep KC7 nin0)) hZ (hw _ (List.mem_of_getElem? (i := 46) rfl)) (hw _ (List.mem_of_getElem? (i := 2) rfl)) (by decide) (by decide)) (g := (mkF m 37 #[.val (.int p1), .val (.int p2), .val (.int p3), .val (.int p4), .val (.int p5), .val (.int (own_r1 p1)), .val (.int (own_r2 p1)), .unset, .unset, .unset] [(.ref l6), (.int p3), (.int p2), (.int p2), (.ref a5), (.ref a4), (.ref (cs (own_idx (own_r1 p1)))), (.ref b2), (.ref b2)])) rfl (by rw [hml]; rfl) (Steps.refl _) (a := b2) (argsL := [(.ref (cs (own_idx (own_r1 p1)))), (.ref a4), (.ref a5), (.int p2), (.int p2), (.int p3), (.ref l6)]) (rest := [(.ref b2)]) (lenOf own_pd4 rfl) rfl (by show 2 * 0 + _ ≤ _; exact Nat.le_of_eq rfl) (hb hby at_37) (fun _ _ => ⟨rfl, rfl, (by decide : 6 + 0 ≤ _), (by decide : 18 + 0 ≤ _)⟩)
  dsimp only [Pt.U, Pt.locs, Pt.cells, Pt.slots] at X8 l8 y8 z8 st8 hQ8
  subst l8 y8 z8
  obtain ⟨rfl, N8q, Kd8, Fr8, -, -, Fs8, -, Fe8, -⟩ := hQ8
  have N8 := Fr.app N7 N8q
  have K8 : Keep h0 T8.heap [] := K7.trans Kd8 (allS (Or.inr g_b2) all0)
  have EX8 : Exa Z T8.heap b2 "com/example/planwright/planwright/division/Division" := (A2.keep KC7).keep Kd8
  have KB : h5.size ≤ T8.heap.size ∧ True := ⟨Nat.le_trans E6.1 (Nat.le_trans Kc7.1 Kd8.1), trivial⟩
  obtain ⟨T9, h9, X9, e9, E9, A9, D9, -, st9⟩ := newO X8 hx hZ hown (hw _ (List.mem_of_getElem? (i := 0) rfl)) (hw _ (List.mem_of_getElem? (i := 1) rfl)) (hw _ (List.mem_of_getElem? (i := 2) rfl)) rfl (g := (mkF m 42 #[.val (.int p1), .val (.int p2), .val (.int p3), .val (.int p4), .val (.int p5), .val (.int (own_r1 p1)), .val (.int (own_r2 p1)), .val (.ref b2), .unset, .unset] [])) rfl (hb hby at_42) (by decide) (by decide)
  obtain ⟨b9, g9⟩ : ∃ z, z = T8.heap.size := ⟨_, rfl⟩
  rw [← g9] at A9 D9 st9
  have F_rank_b9 : Fld Z h9 b9 "com/example/planwright/planwright/division/Division" "rank" "Lcom/example/planwright/planwright/division/Rank;" .null := D9 (Or.inr (hw _ (List.mem_of_getElem? (i := 54) rfl))) (ty := (.object "com/example/planwright/planwright/division/Rank")) (by decide)
  have F_label_b9 : Fld Z h9 b9 "com/example/planwright/planwright/division/Division" "label" "Ljava/lang/String;" .null := D9 (Or.inr (hw _ (List.mem_of_getElem? (i := 56) rfl))) (ty := (.object "java/lang/String")) (by decide)
  have F_heading_b9 : Fld Z h9 b9 "com/example/planwright/planwright/division/Division" "heading" "Ljava/lang/String;" .null := D9 (Or.inr (hw _ (List.mem_of_getElem? (i := 58) rfl))) (ty := (.object "java/lang/String")) (by decide)
  have F_start_b9 : Fld Z h9 b9 "com/example/planwright/planwright/division/Division" "start" "I" (.int (0 : Int32)) := D9 (Or.inr (hw _ (List.mem_of_getElem? (i := 60) rfl))) (ty := .int) (by decide)
  have F_textStart_b9 : Fld Z h9 b9 "com/example/planwright/planwright/division/Division" "textStart" "I" (.int (0 : Int32)) := D9 (Or.inr (hw _ (List.mem_of_getElem? (i := 62) rfl))) (ty := .int) (by decide)
  have F_end_b9 : Fld Z h9 b9 "com/example/planwright/planwright/division/Division" "end" "I" (.int (0 : Int32)) := D9 (Or.inr (hw _ (List.mem_of_getElem? (i := 64) rfl))) (ty := .int) (by decide)
  have F_children_b9 : Fld Z h9 b9 "com/example/planwright/planwright/division/Division" "children" "Ljava/util/List;" .null := D9 (Or.inr (hw _ (List.mem_of_getElem? (i := 66) rfl))) (ty := (.object "java/util/List")) (by decide)
  have K9 : Keep h0 h9 [] := K8.ext E9
  have Z9 : n0 ≤ h9.size := Nat.le_trans Z0 K9.1
  have g_b9 : h0.size ≤ b9 := Nat.le_trans K8.1 (Nat.le_of_eq g9.symm)
  obtain ⟨_, _, ⟨T10, L10, k10, n10⟩, -, X10, ⟨Lc10, hQ10, l10, y10, z10⟩, st10⟩ := Jvm.LawKit.callS X9 hx (y := (⟨"com/example/planwright/planwright/division/DivisionHoldsPinLaw", "rankOf", "(I)Lcom/example/planwright/planwright/division/Rank;"⟩ : MethodName)) hown (mvT hZ (hw _ (List.mem_of_getElem? (i := 3) rfl))) (mvT hZ (hw _ (List.mem_of_getElem? (i := 4) rfl))) (mvT hZ (hw _ (List.mem_of_getElem? (i := 5) rfl))) (mvT hZ (hw _ (List.mem_of_getElem? (i := 6) rfl))) (by decide) (backOf (W := 2) (rm1 l Z a0 hw [] (own_r2 p1) cs h9 n0 Z9 (own_Rk_keep hR K9)) hZ (hw _ (List.mem_of_getElem? (i := 6) rfl)) (hw _ (List.mem_of_getElem? (i := 5) rfl)) (by decide) (by decide)) (g := (mkF m 48 #[.val (.int p1), .val (.int p2), .val (.int p3), .val (.int p4), .val (.int p5), .val (.int (own_r1 p1)), .val (.int (own_r2 p1)), .val (.ref b2), .unset, .unset] [(.int (own_r2 p1)), (.ref b9), (.ref b9)])) rfl (by rw [hml]; rfl) (argsL := [(.int (own_r2 p1))]) (rest := [(.ref b9), (.ref b9)]) (lenOf own_pd3 rfl) rfl (by show 2 * 0 + _ ≤ _; exact Nat.le_of_eq rfl) (hb hby at_48) (fun _ _ => ⟨rfl, e9, (by decide : 7 + 0 ≤ _), (by decide : 25 + 0 ≤ _)⟩)
  dsimp only [Pt.U, Pt.locs, Pt.cells, Pt.slots] at X10 l10 y10 z10 st10 hQ10
  subst l10 y10 z10
  obtain ⟨rfl, N10q, e10⟩ := hQ10
  have N10 := Fr.app N8 N10q
  have hk9 : k5 ≤ h9.size := Nat.le_trans hk (Nat.le_trans KB.1 E9.1)
  obtain ⟨a11, T11, h11, k11, X11, e11, E11, hS, hk, hZ, hown, st11⟩ := ldcS (s := s) (vm0 := T5.vm) X10 hx hZ hown (hw _ (List.mem_of_getElem? (i := 10) rfl)) (fun d hd => hw d (own_sub d hd)) e10 hS hk9 (g := (mkF m 51 #[.val (.int p1), .val (.int p2), .val (.int p3), .val (.int p4), .val (.int p5), .val (.int (own_r1 p1)), .val (.int (own_r2 p1)), .val (.ref b2), .unset, .unset] [(.ref (cs (own_idx (own_r2 p1)))), (.ref b9), (.ref b9)])) rfl (hb hby at_51) (n := 0) (by decide) (by decide) (by decide) (by decide)
  obtain ⟨a12, T12, h12, k12, X12, e12, E12, hS, hk, hZ, hown, st12⟩ := ldcS (s := s) (vm0 := T11.vm) X11 hx hZ hown (hw _ (List.mem_of_getElem? (i := 10) rfl)) (fun d hd => hw d (own_sub d hd)) e11 hS hk (g := (mkF m 53 #[.val (.int p1), .val (.int p2), .val (.int p3), .val (.int p4), .val (.int p5), .val (.int (own_r1 p1)), .val (.int (own_r2 p1)), .val (.ref b2), .unset, .unset] [(.ref a11), (.ref (cs (own_idx (own_r2 p1)))), (.ref b9), (.ref b9)])) rfl (hb hby at_53) (n := 0) (by decide) (by decide) (by decide) (by decide)
  obtain ⟨T13, h13, X13, e13, E13, A13, D13, -, st13⟩ := newO X12 hx hZ hown (hw _ (List.mem_of_getElem? (i := 18) rfl)) (hw _ (List.mem_of_getElem? (i := 19) rfl)) (hw _ (List.mem_of_getElem? (i := 20) rfl)) e12 (g := (mkF m 59 #[.val (.int p1), .val (.int p2), .val (.int p3), .val (.int p4), .val (.int p5), .val (.int (own_r1 p1)), .val (.int (own_r2 p1)), .val (.ref b2), .unset, .unset] [(.int p5), (.int p4), (.int p4), (.ref a12), (.ref a11), (.ref (cs (own_idx (own_r2 p1)))), (.ref b9), (.ref b9)])) rfl (hb hby at_59) (by decide) (by decide)
  obtain ⟨l13, g13⟩ : ∃ z, z = h12.size := ⟨_, rfl⟩
  rw [← g13] at A13 D13 st13
  have F_m13 : Fld Z h13 l13 "java/util/AbstractList" "modCount" "I" (.int (0 : Int32)) := D13 (Or.inl (hw _ (List.mem_of_getElem? (i := 40) rfl))) (ty := .int) (by decide)
  have F_e13 : Fld Z h13 l13 "java/util/ArrayList" "elementData" "[Ljava/lang/Object;" .null := D13 (Or.inl (hw _ (List.mem_of_getElem? (i := 43) rfl))) (ty := (.array (.object "java/lang/Object"))) (by decide)
  have KC13 : Keep h9 h13 [] := (((Keep.refl h9 []).ext E11).ext E12).ext E13
  have K13 : Keep h0 h13 [] := K9.trans KC13 all0
  have Z13 : n0 ≤ h13.size := Nat.le_trans Z0 K13.1
  have q_l13 : h9.size ≤ l13 := Nat.le_trans (((Keep.refl h9 []).ext E11).ext E12).1 (Nat.le_of_eq g13.symm)
  have g_l13 : h0.size ≤ l13 := Nat.le_trans K9.1 q_l13
  obtain ⟨_, _, ⟨T14, L14, k14, n14⟩, -, X14, ⟨Lc14, hQ14, l14, y14, z14⟩, st14⟩ := X13.specialBack hx (y := (⟨"java/util/ArrayList", "<init>", "()V"⟩ : MethodName)) rfl hown (mvT hZ (hw _ (List.mem_of_getElem? (i := 21) rfl))) (mvT hZ (hw _ (List.mem_of_getElem? (i := 22) rfl))) (mvT hZ (hw _ (List.mem_of_getElem? (i := 23) rfl))) (by decide) (backOf (W := 9) (rm2 l Z a0 hw [] l13 (.int 0) .null w h13 n0 Z13 A13 F_m13 F_e13 (own_sta SD K13) (Nat.le_trans Z0 g_l13)) hZ (hw _ (List.mem_of_getElem? (i := 23) rfl)) (hw _ (List.mem_of_getElem? (i := 20) rfl)) (by decide) (by decide)) (g := (mkF m 63 #[.val (.int p1), .val (.int p2), .val (.int p3), .val (.int p4), .val (.int p5), .val (.int (own_r1 p1)), .val (.int (own_r2 p1)), .val (.ref b2), .unset, .unset] [(.ref l13), (.ref l13), (.int p5), (.int p4), (.int p4), (.ref a12), (.ref a11), (.ref (cs (own_idx (own_r2 p1)))), (.ref b9), (.ref b9)])) rfl (by rw [hml]; rfl) (Steps.refl _) (a := l13) (argsL := []) (rest := [(.ref l13), (.int p5), (.int p4), (.int p4), (.ref a12), (.ref a11), (.ref (cs (own_idx (own_r2 p1)))), (.ref b9), (.ref b9)]) (lenOf own_pd0 rfl) rfl (by show 2 * 0 + _ ≤ _; exact Nat.le_of_eq rfl) (hb hby at_63) (fun _ _ => ⟨rfl, e13, (by decide : 12 + 0 ≤ _), (by decide : 36 + 0 ≤ _)⟩)
  dsimp only [Pt.U, Pt.locs, Pt.cells, Pt.slots] at X14 l14 y14 z14 st14 hQ14
  subst l14 y14 z14
  obtain ⟨rfl, N14q, Kc14⟩ := hQ14
  have N14 := Fr.app N10 N14q
  have KC14 : Keep h9 T14.heap [] := KC13.trans Kc14 (allS (Or.inr q_l13) all0)
  have K14 : Keep h0 T14.heap [] := K9.trans KC14 all0
  have Z14 : n0 ≤ T14.heap.size := Nat.le_trans Z0 K14.1
  obtain ⟨_, _, ⟨T15, L15, k15, n15⟩, -, X15, ⟨Lc15, hQ15, l15, y15, z15⟩, st15⟩ := X14.specialBack hx (y := (⟨"com/example/planwright/planwright/division/Division", "<init>", "(Lcom/example/planwright/planwright/division/Rank;Ljava/lang/String;Ljava/lang/String;IIILjava/util/List;)V"⟩ : MethodName)) rfl hown (mvT hZ (hw _ (List.mem_of_getElem? (i := 44) rfl))) (mvT hZ (hw _ (List.mem_of_getElem? (i := 45) rfl))) (mvT hZ (hw _ (List.mem_of_getElem? (i := 46) rfl))) (by decide) (backOf (W := 1) (rm6 l Z a0 hw [] b9 (cs (own_idx (own_r2 p1))) a11 a12 p4 p4 p5 l13 .null .null .null (.int (0 : Int32)) (.int (0 : Int32)) (.int (0 : Int32)) .null T14.heap n0 Z14 (A9.keep KC14) (F_rank_b9.keep KC14 nin0) (Nat.le_trans Z0 g_b9) (F_label_b9.keep KC14 nin0) (F_heading_b9.keep KC14 nin0) (F_start_b9.keep KC14 nin0) (F_textStart_b9.keep KC14 nin0) (F_end_b9.keep KC14 nin0) (F_children_b9.keep KC14 nin0)) hZ (hw _ (List.mem_of_getElem? (i := 46) rfl)) (hw _ (List.mem_of_getElem? (i := 2) rfl)) (by decide) (by decide)) (g := (mkF m 66 #[.val (.int p1), .val (.int p2), .val (.int p3), .val (.int p4), .val (.int p5), .val (.int (own_r1 p1)), .val (.int (own_r2 p1)), .val (.ref b2), .unset, .unset] [(.ref l13), (.int p5), (.int p4), (.int p4), (.ref a12), (.ref a11), (.ref (cs (own_idx (own_r2 p1)))), (.ref b9), (.ref b9)])) rfl (by rw [hml]; rfl) (Steps.refl _) (a := b9) (argsL := [(.ref (cs (own_idx (own_r2 p1)))), (.ref a11), (.ref a12), (.int p4), (.int p4), (.int p5), (.ref l13)]) (rest := [(.ref b9)]) (lenOf own_pd4 rfl) rfl (by show 2 * 0 + _ ≤ _; exact Nat.le_of_eq rfl) (hb hby at_66) (fun _ _ => ⟨rfl, rfl, (by decide : 12 + 0 ≤ _), (by decide : 36 + 0 ≤ _)⟩)
  dsimp only [Pt.U, Pt.locs, Pt.cells, Pt.slots] at X15 l15 y15 z15 st15 hQ15
  subst l15 y15 z15
  obtain ⟨rfl, N15q, Kd15, Fr15, -, -, Fs15, -, Fe15, -⟩ := hQ15
  have N15 := Fr.app N14 N15q
  have K15 : Keep h0 T15.heap [] := K14.trans Kd15 (allS (Or.inr g_b9) all0)
  have EX15 : Exa Z T15.heap b9 "com/example/planwright/planwright/division/Division" := (A9.keep KC14).keep Kd15
  have KB : h12.size ≤ T15.heap.size ∧ True := ⟨Nat.le_trans E13.1 (Nat.le_trans Kc14.1 Kd15.1), trivial⟩
  have KO : Keep T8.heap T15.heap [] := ((((Keep.refl T8.heap []).ext E9).trans KC14 all0)).trans Kd15 (allS (Or.inr (Nat.le_of_eq g9.symm)) all0)
  have hR15 := own_Rk_keep hR K15
  have i1 := own_idx_lt (own_r1 p1)
  have i2 := own_idx_lt (own_r2 p1)
  have Z15 : n0 ≤ T15.heap.size := Nat.le_trans Z0 K15.1
  have Fr8' := Fr8.keep KO nin0
  have Fs8' := Fs8.keep KO nin0
  have Fe8' := Fe8.keep KO nin0
  have hk15 : k12 ≤ T15.heap.size := Nat.le_trans hk KB.1
  by_cases hA : p4 < p2
  · obtain ⟨cq18, kq18, q18a, q18b, q18c⟩ := isOf hZ rfl ((A2.keep KC7).keep Kd8 |>.keep KO)
    obtain ⟨_, _, ⟨T18, L18, k18, n18⟩, -, X18, ⟨Lc18, hQ18, l18, y18, z18⟩, st18⟩ := X15.virtualBack hx (y := (⟨"com/example/planwright/planwright/division/Division", "holds", "(Lcom/example/planwright/planwright/division/Division;)Z"⟩ : MethodName)) (z := (⟨"com/example/planwright/planwright/division/Division", "holds", "(Lcom/example/planwright/planwright/division/Division;)Z"⟩ : MethodName)) hown (mvT hZ (hw _ (List.mem_of_getElem? (i := 67) rfl))) (mvT hZ (hw _ (List.mem_of_getElem? (i := 68) rfl))) (notFace_of_selects (args := #[]) (mvT hZ (hw _ (List.mem_of_getElem? (i := 70) rfl)))) (mvT hZ (hw _ (List.mem_of_getElem? (i := 70) rfl))) (mvT hZ (hw _ (List.mem_of_getElem? (i := 69) rfl))) (by decide) (backOf (W := 0) (rm8 l Z a0 hw [] b2 b9 p2 p3 (own_lev (own_idx (own_r1 p1))) p4 p5 (own_lev (own_idx (own_r2 p1))) (cs (own_idx (own_r1 p1))) (cs (own_idx (own_r2 p1))) T15.heap n0 Z15 EX15 Fs15 Fe15 Fr15 Fs8' Fe8' Fr8' (hR15.2 _ i2).1 (hR15.2 _ i2).2 (hR15.2 _ i1).1 (hR15.2 _ i1).2) hZ (hw _ (List.mem_of_getElem? (i := 71) rfl)) (hw _ (List.mem_of_getElem? (i := 2) rfl)) (by decide) (by decide)) q18a q18c (g := (mkF m 118 #[.val (.int p1), .val (.int p2), .val (.int p3), .val (.int p4), .val (.int p5), .val (.int (own_r1 p1)), .val (.int (own_r2 p1)), .val (.ref b2), .val (.ref b9), .val (.int (0 : Int32))] [(.ref b9), (.ref b2)])) rfl (by rw [hml]; rfl) (Steps.refl _) (argsL := [(.ref b9)]) (rest := []) (lenOf own_pd5 rfl) rfl (by show 2 * 0 + _ ≤ _; exact Nat.le_of_eq rfl) (hb hby at_118) (fun _ _ => ⟨rfl, rfl, (by decide : 12 + 0 ≤ _), (by decide : 36 + 0 ≤ _)⟩)
    dsimp only [Pt.U, Pt.locs, Pt.cells, Pt.slots] at X18 l18 y18 z18 st18 hQ18
    subst l18 y18 z18
    obtain ⟨rfl, N18q, e18⟩ := hQ18
    have N18 := Fr.app N15 N18q
    have hk18 : k12 ≤ T18.heap.size := by rw [e18]; exact hk15
    have hv : (own_holds p2 p3 (own_lev (own_idx (own_r1 p1))) p4 p5 (own_lev (own_idx (own_r2 p1)))) = (0 : Int32) := own_h0 hA
    obtain ⟨fs, hr, hrun, hended, hEnd⟩ := X18.leaveW hS hk18 (v := some (.int (1 : Int32))) (fun h => by rw [Bd.returns] at h; cases h)
    refine ⟨_, _, pre0 _ ?_, hrun, hended, _, _, rfl, ?_, ⟨hEnd.1, hEnd.2.1, hEnd.2.2.1, hEnd.2.2.2.mono (by decide) (by decide)⟩⟩
    · show Steps p.tables e below (s₁.setTop (mkF m 0 #[.val (.int p1), .val (.int p2), .val (.int p3), .val (.int p4), .val (.int p5), .unset, .unset, .unset, .unset, .unset] [])) _
      refine XS.iloadN X0.here hx rfl (hb hby at_0) rfl ?_
      show Steps p.tables e below (s₁.setTop (mkF m 1 #[.val (.int p1), .val (.int p2), .val (.int p3), .val (.int p4), .val (.int p5), .unset, .unset, .unset, .unset, .unset] [(.int p1)])) _
      refine XS.bipush X0.here hx rfl (hb hby at_1) ?_
      show Steps p.tables e below (s₁.setTop (mkF m 3 #[.val (.int p1), .val (.int p2), .val (.int p3), .val (.int p4), .val (.int p5), .unset, .unset, .unset, .unset, .unset] [(.int (7 : Int32)), (.int p1)])) _
      refine XS.iand X0.here hx rfl (hb hby at_3) rfl ?_
      show Steps p.tables e below (s₁.setTop (mkF m 4 #[.val (.int p1), .val (.int p2), .val (.int p3), .val (.int p4), .val (.int p5), .unset, .unset, .unset, .unset, .unset] [(.int (own_r1 p1))])) _
      refine XS.istore X0.here hx rfl (hb hby at_4) rfl (l' := #[.val (.int p1), .val (.int p2), .val (.int p3), .val (.int p4), .val (.int p5), .val (.int (own_r1 p1)), .unset, .unset, .unset, .unset]) rfl ?_
      show Steps p.tables e below (s₁.setTop (mkF m 6 #[.val (.int p1), .val (.int p2), .val (.int p3), .val (.int p4), .val (.int p5), .val (.int (own_r1 p1)), .unset, .unset, .unset, .unset] [])) _
      refine XS.iloadN X0.here hx rfl (hb hby at_6) rfl ?_
      show Steps p.tables e below (s₁.setTop (mkF m 7 #[.val (.int p1), .val (.int p2), .val (.int p3), .val (.int p4), .val (.int p5), .val (.int (own_r1 p1)), .unset, .unset, .unset, .unset] [(.int p1)])) _
      refine XS.iconst X0.here hx rfl (hb hby at_7) ?_
      show Steps p.tables e below (s₁.setTop (mkF m 8 #[.val (.int p1), .val (.int p2), .val (.int p3), .val (.int p4), .val (.int p5), .val (.int (own_r1 p1)), .unset, .unset, .unset, .unset] [(.int (3 : Int32)), (.int p1)])) _
      refine XS.iushr X0.here hx rfl (hb hby at_8) rfl ?_
      show Steps p.tables e below (s₁.setTop (mkF m 9 #[.val (.int p1), .val (.int p2), .val (.int p3), .val (.int p4), .val (.int p5), .val (.int (own_r1 p1)), .unset, .unset, .unset, .unset] [(.int ((p1.toUInt32 >>> ((3 : Int32) &&& 31).toUInt32).toInt32))])) _
      refine XS.bipush X0.here hx rfl (hb hby at_9) ?_
      show Steps p.tables e below (s₁.setTop (mkF m 11 #[.val (.int p1), .val (.int p2), .val (.int p3), .val (.int p4), .val (.int p5), .val (.int (own_r1 p1)), .unset, .unset, .unset, .unset] [(.int (7 : Int32)), (.int ((p1.toUInt32 >>> ((3 : Int32) &&& 31).toUInt32).toInt32))])) _
      refine XS.iand X0.here hx rfl (hb hby at_11) rfl ?_
      show Steps p.tables e below (s₁.setTop (mkF m 12 #[.val (.int p1), .val (.int p2), .val (.int p3), .val (.int p4), .val (.int p5), .val (.int (own_r1 p1)), .unset, .unset, .unset, .unset] [(.int (own_r2 p1))])) _
      refine XS.istore X0.here hx rfl (hb hby at_12) rfl (l' := #[.val (.int p1), .val (.int p2), .val (.int p3), .val (.int p4), .val (.int p5), .val (.int (own_r1 p1)), .val (.int (own_r2 p1)), .unset, .unset, .unset]) rfl ?_
      show Steps p.tables e below (s₁.setTop (mkF m 14 #[.val (.int p1), .val (.int p2), .val (.int p3), .val (.int p4), .val (.int p5), .val (.int (own_r1 p1)), .val (.int (own_r2 p1)), .unset, .unset, .unset] [])) _
      refine st2 _ ?_
      show Steps p.tables e below (T2.setTop (mkF m 17 #[.val (.int p1), .val (.int p2), .val (.int p3), .val (.int p4), .val (.int p5), .val (.int (own_r1 p1)), .val (.int (own_r2 p1)), .unset, .unset, .unset] [(.ref b2)])) _
      refine XS.dup X2.here hx rfl (hb hby at_17) rfl rfl ?_
      show Steps p.tables e below (T2.setTop (mkF m 18 #[.val (.int p1), .val (.int p2), .val (.int p3), .val (.int p4), .val (.int p5), .val (.int (own_r1 p1)), .val (.int (own_r2 p1)), .unset, .unset, .unset] [(.ref b2), (.ref b2)])) _
      refine XS.iload X2.here hx rfl (hb hby at_18) rfl ?_
      show Steps p.tables e below (T2.setTop (mkF m 20 #[.val (.int p1), .val (.int p2), .val (.int p3), .val (.int p4), .val (.int p5), .val (.int (own_r1 p1)), .val (.int (own_r2 p1)), .unset, .unset, .unset] [(.int (own_r1 p1)), (.ref b2), (.ref b2)])) _
      refine st3 _ ?_
      show Steps p.tables e below (T3.setTop (mkF m 23 #[.val (.int p1), .val (.int p2), .val (.int p3), .val (.int p4), .val (.int p5), .val (.int (own_r1 p1)), .val (.int (own_r2 p1)), .unset, .unset, .unset] [(.ref (cs (own_idx (own_r1 p1)))), (.ref b2), (.ref b2)])) _
      refine st4 _ ?_
      show Steps p.tables e below (T4.setTop (mkF m 25 #[.val (.int p1), .val (.int p2), .val (.int p3), .val (.int p4), .val (.int p5), .val (.int (own_r1 p1)), .val (.int (own_r2 p1)), .unset, .unset, .unset] [(.ref a4), (.ref (cs (own_idx (own_r1 p1)))), (.ref b2), (.ref b2)])) _
      refine st5 _ ?_
      show Steps p.tables e below (T5.setTop (mkF m 27 #[.val (.int p1), .val (.int p2), .val (.int p3), .val (.int p4), .val (.int p5), .val (.int (own_r1 p1)), .val (.int (own_r2 p1)), .unset, .unset, .unset] [(.ref a5), (.ref a4), (.ref (cs (own_idx (own_r1 p1)))), (.ref b2), (.ref b2)])) _
      refine XS.iloadN X5.here hx rfl (hb hby at_27) rfl ?_
      show Steps p.tables e below (T5.setTop (mkF m 28 #[.val (.int p1), .val (.int p2), .val (.int p3), .val (.int p4), .val (.int p5), .val (.int (own_r1 p1)), .val (.int (own_r2 p1)), .unset, .unset, .unset] [(.int p2), (.ref a5), (.ref a4), (.ref (cs (own_idx (own_r1 p1)))), (.ref b2), (.ref b2)])) _
      refine XS.iloadN X5.here hx rfl (hb hby at_28) rfl ?_
      show Steps p.tables e below (T5.setTop (mkF m 29 #[.val (.int p1), .val (.int p2), .val (.int p3), .val (.int p4), .val (.int p5), .val (.int (own_r1 p1)), .val (.int (own_r2 p1)), .unset, .unset, .unset] [(.int p2), (.int p2), (.ref a5), (.ref a4), (.ref (cs (own_idx (own_r1 p1)))), (.ref b2), (.ref b2)])) _
      refine XS.iloadN X5.here hx rfl (hb hby at_29) rfl ?_
      show Steps p.tables e below (T5.setTop (mkF m 30 #[.val (.int p1), .val (.int p2), .val (.int p3), .val (.int p4), .val (.int p5), .val (.int (own_r1 p1)), .val (.int (own_r2 p1)), .unset, .unset, .unset] [(.int p3), (.int p2), (.int p2), (.ref a5), (.ref a4), (.ref (cs (own_idx (own_r1 p1)))), (.ref b2), (.ref b2)])) _
      refine st6 _ ?_
      show Steps p.tables e below (T6.setTop (mkF m 33 #[.val (.int p1), .val (.int p2), .val (.int p3), .val (.int p4), .val (.int p5), .val (.int (own_r1 p1)), .val (.int (own_r2 p1)), .unset, .unset, .unset] [(.ref l6), (.int p3), (.int p2), (.int p2), (.ref a5), (.ref a4), (.ref (cs (own_idx (own_r1 p1)))), (.ref b2), (.ref b2)])) _
      refine XS.dup X6.here hx rfl (hb hby at_33) rfl rfl ?_
      show Steps p.tables e below (T6.setTop (mkF m 34 #[.val (.int p1), .val (.int p2), .val (.int p3), .val (.int p4), .val (.int p5), .val (.int (own_r1 p1)), .val (.int (own_r2 p1)), .unset, .unset, .unset] [(.ref l6), (.ref l6), (.int p3), (.int p2), (.int p2), (.ref a5), (.ref a4), (.ref (cs (own_idx (own_r1 p1)))), (.ref b2), (.ref b2)])) _
      refine st7.trans ?_
      show Steps p.tables e below (T7.setTop (mkF m 37 #[.val (.int p1), .val (.int p2), .val (.int p3), .val (.int p4), .val (.int p5), .val (.int (own_r1 p1)), .val (.int (own_r2 p1)), .unset, .unset, .unset] [(.ref l6), (.int p3), (.int p2), (.int p2), (.ref a5), (.ref a4), (.ref (cs (own_idx (own_r1 p1)))), (.ref b2), (.ref b2)])) _
      refine st8.trans ?_
      show Steps p.tables e below (T8.setTop (mkF m 40 #[.val (.int p1), .val (.int p2), .val (.int p3), .val (.int p4), .val (.int p5), .val (.int (own_r1 p1)), .val (.int (own_r2 p1)), .unset, .unset, .unset] [(.ref b2)])) _
      refine XS.astore X8.here hx rfl (hb hby at_40) rfl rfl (l' := #[.val (.int p1), .val (.int p2), .val (.int p3), .val (.int p4), .val (.int p5), .val (.int (own_r1 p1)), .val (.int (own_r2 p1)), .val (.ref b2), .unset, .unset]) rfl ?_
      show Steps p.tables e below (T8.setTop (mkF m 42 #[.val (.int p1), .val (.int p2), .val (.int p3), .val (.int p4), .val (.int p5), .val (.int (own_r1 p1)), .val (.int (own_r2 p1)), .val (.ref b2), .unset, .unset] [])) _
      refine st9 _ ?_
      show Steps p.tables e below (T9.setTop (mkF m 45 #[.val (.int p1), .val (.int p2), .val (.int p3), .val (.int p4), .val (.int p5), .val (.int (own_r1 p1)), .val (.int (own_r2 p1)), .val (.ref b2), .unset, .unset] [(.ref b9)])) _
      refine XS.dup X9.here hx rfl (hb hby at_45) rfl rfl ?_
      show Steps p.tables e below (T9.setTop (mkF m 46 #[.val (.int p1), .val (.int p2), .val (.int p3), .val (.int p4), .val (.int p5), .val (.int (own_r1 p1)), .val (.int (own_r2 p1)), .val (.ref b2), .unset, .unset] [(.ref b9), (.ref b9)])) _
      refine XS.iload X9.here hx rfl (hb hby at_46) rfl ?_
      show Steps p.tables e below (T9.setTop (mkF m 48 #[.val (.int p1), .val (.int p2), .val (.int p3), .val (.int p4), .val (.int p5), .val (.int (own_r1 p1)), .val (.int (own_r2 p1)), .val (.ref b2), .unset, .unset] [(.int (own_r2 p1)), (.ref b9), (.ref b9)])) _
      refine st10 _ ?_
      show Steps p.tables e below (T10.setTop (mkF m 51 #[.val (.int p1), .val (.int p2), .val (.int p3), .val (.int p4), .val (.int p5), .val (.int (own_r1 p1)), .val (.int (own_r2 p1)), .val (.ref b2), .unset, .unset] [(.ref (cs (own_idx (own_r2 p1)))), (.ref b9), (.ref b9)])) _
      refine st11 _ ?_
      show Steps p.tables e below (T11.setTop (mkF m 53 #[.val (.int p1), .val (.int p2), .val (.int p3), .val (.int p4), .val (.int p5), .val (.int (own_r1 p1)), .val (.int (own_r2 p1)), .val (.ref b2), .unset, .unset] [(.ref a11), (.ref (cs (own_idx (own_r2 p1)))), (.ref b9), (.ref b9)])) _
      refine st12 _ ?_
      show Steps p.tables e below (T12.setTop (mkF m 55 #[.val (.int p1), .val (.int p2), .val (.int p3), .val (.int p4), .val (.int p5), .val (.int (own_r1 p1)), .val (.int (own_r2 p1)), .val (.ref b2), .unset, .unset] [(.ref a12), (.ref a11), (.ref (cs (own_idx (own_r2 p1)))), (.ref b9), (.ref b9)])) _
      refine XS.iloadN X12.here hx rfl (hb hby at_55) rfl ?_
      show Steps p.tables e below (T12.setTop (mkF m 56 #[.val (.int p1), .val (.int p2), .val (.int p3), .val (.int p4), .val (.int p5), .val (.int (own_r1 p1)), .val (.int (own_r2 p1)), .val (.ref b2), .unset, .unset] [(.int p4), (.ref a12), (.ref a11), (.ref (cs (own_idx (own_r2 p1)))), (.ref b9), (.ref b9)])) _
      refine XS.iloadN X12.here hx rfl (hb hby at_56) rfl ?_
      show Steps p.tables e below (T12.setTop (mkF m 57 #[.val (.int p1), .val (.int p2), .val (.int p3), .val (.int p4), .val (.int p5), .val (.int (own_r1 p1)), .val (.int (own_r2 p1)), .val (.ref b2), .unset, .unset] [(.int p4), (.int p4), (.ref a12), (.ref a11), (.ref (cs (own_idx (own_r2 p1)))), (.ref b9), (.ref b9)])) _
      refine XS.iload X12.here hx rfl (hb hby at_57) rfl ?_
      show Steps p.tables e below (T12.setTop (mkF m 59 #[.val (.int p1), .val (.int p2), .val (.int p3), .val (.int p4), .val (.int p5), .val (.int (own_r1 p1)), .val (.int (own_r2 p1)), .val (.ref b2), .unset, .unset] [(.int p5), (.int p4), (.int p4), (.ref a12), (.ref a11), (.ref (cs (own_idx (own_r2 p1)))), (.ref b9), (.ref b9)])) _
      refine st13 _ ?_
      show Steps p.tables e below (T13.setTop (mkF m 62 #[.val (.int p1), .val (.int p2), .val (.int p3), .val (.int p4), .val (.int p5), .val (.int (own_r1 p1)), .val (.int (own_r2 p1)), .val (.ref b2), .unset, .unset] [(.ref l13), (.int p5), (.int p4), (.int p4), (.ref a12), (.ref a11), (.ref (cs (own_idx (own_r2 p1)))), (.ref b9), (.ref b9)])) _
      refine XS.dup X13.here hx rfl (hb hby at_62) rfl rfl ?_
      show Steps p.tables e below (T13.setTop (mkF m 63 #[.val (.int p1), .val (.int p2), .val (.int p3), .val (.int p4), .val (.int p5), .val (.int (own_r1 p1)), .val (.int (own_r2 p1)), .val (.ref b2), .unset, .unset] [(.ref l13), (.ref l13), (.int p5), (.int p4), (.int p4), (.ref a12), (.ref a11), (.ref (cs (own_idx (own_r2 p1)))), (.ref b9), (.ref b9)])) _
      refine st14.trans ?_
      show Steps p.tables e below (T14.setTop (mkF m 66 #[.val (.int p1), .val (.int p2), .val (.int p3), .val (.int p4), .val (.int p5), .val (.int (own_r1 p1)), .val (.int (own_r2 p1)), .val (.ref b2), .unset, .unset] [(.ref l13), (.int p5), (.int p4), (.int p4), (.ref a12), (.ref a11), (.ref (cs (own_idx (own_r2 p1)))), (.ref b9), (.ref b9)])) _
      refine st15.trans ?_
      show Steps p.tables e below (T15.setTop (mkF m 69 #[.val (.int p1), .val (.int p2), .val (.int p3), .val (.int p4), .val (.int p5), .val (.int (own_r1 p1)), .val (.int (own_r2 p1)), .val (.ref b2), .unset, .unset] [(.ref b9)])) _
      refine XS.astore X15.here hx rfl (hb hby at_69) rfl rfl (l' := #[.val (.int p1), .val (.int p2), .val (.int p3), .val (.int p4), .val (.int p5), .val (.int (own_r1 p1)), .val (.int (own_r2 p1)), .val (.ref b2), .val (.ref b9), .unset]) rfl ?_
      show Steps p.tables e below (T15.setTop (mkF m 71 #[.val (.int p1), .val (.int p2), .val (.int p3), .val (.int p4), .val (.int p5), .val (.int (own_r1 p1)), .val (.int (own_r2 p1)), .val (.ref b2), .val (.ref b9), .unset] [])) _
      refine XS.iloadN X15.here hx rfl (hb hby at_71) rfl ?_
      show Steps p.tables e below (T15.setTop (mkF m 72 #[.val (.int p1), .val (.int p2), .val (.int p3), .val (.int p4), .val (.int p5), .val (.int (own_r1 p1)), .val (.int (own_r2 p1)), .val (.ref b2), .val (.ref b9), .unset] [(.int p4)])) _
      refine XS.iloadN X15.here hx rfl (hb hby at_72) rfl ?_
      show Steps p.tables e below (T15.setTop (mkF m 73 #[.val (.int p1), .val (.int p2), .val (.int p3), .val (.int p4), .val (.int p5), .val (.int (own_r1 p1)), .val (.int (own_r2 p1)), .val (.ref b2), .val (.ref b9), .unset] [(.int p2), (.int p4)])) _
      refine XS.icmpNo X15.here hx rfl (hb hby at_73) rfl (tlt hA).2.1 ?_
      show Steps p.tables e below (T15.setTop (mkF m 76 #[.val (.int p1), .val (.int p2), .val (.int p3), .val (.int p4), .val (.int p5), .val (.int (own_r1 p1)), .val (.int (own_r2 p1)), .val (.ref b2), .val (.ref b9), .unset] [])) _
      refine XS.iconst X15.here hx rfl (hb hby at_76) ?_
      show Steps p.tables e below (T15.setTop (mkF m 77 #[.val (.int p1), .val (.int p2), .val (.int p3), .val (.int p4), .val (.int p5), .val (.int (own_r1 p1)), .val (.int (own_r2 p1)), .val (.ref b2), .val (.ref b9), .unset] [(.int (0 : Int32))])) _
      refine XS.istore X15.here hx rfl (hb hby at_77) rfl (l' := #[.val (.int p1), .val (.int p2), .val (.int p3), .val (.int p4), .val (.int p5), .val (.int (own_r1 p1)), .val (.int (own_r2 p1)), .val (.ref b2), .val (.ref b9), .val (.int (0 : Int32))]) rfl ?_
      show Steps p.tables e below (T15.setTop (mkF m 79 #[.val (.int p1), .val (.int p2), .val (.int p3), .val (.int p4), .val (.int p5), .val (.int (own_r1 p1)), .val (.int (own_r2 p1)), .val (.ref b2), .val (.ref b9), .val (.int (0 : Int32))] [])) _
      refine XS.goto X15.here hx rfl (pc0 := 79) (pc' := 114) rfl (hb hby at_79) (by decide) (by decide) ?_
      show Steps p.tables e below (T15.setTop (mkF m 114 #[.val (.int p1), .val (.int p2), .val (.int p3), .val (.int p4), .val (.int p5), .val (.int (own_r1 p1)), .val (.int (own_r2 p1)), .val (.ref b2), .val (.ref b9), .val (.int (0 : Int32))] [])) _
      refine XS.aload X15.here hx rfl (hb hby at_114) rfl rfl ?_
      show Steps p.tables e below (T15.setTop (mkF m 116 #[.val (.int p1), .val (.int p2), .val (.int p3), .val (.int p4), .val (.int p5), .val (.int (own_r1 p1)), .val (.int (own_r2 p1)), .val (.ref b2), .val (.ref b9), .val (.int (0 : Int32))] [(.ref b2)])) _
      refine XS.aload X15.here hx rfl (hb hby at_116) rfl rfl ?_
      show Steps p.tables e below (T15.setTop (mkF m 118 #[.val (.int p1), .val (.int p2), .val (.int p3), .val (.int p4), .val (.int p5), .val (.int (own_r1 p1)), .val (.int (own_r2 p1)), .val (.ref b2), .val (.ref b9), .val (.int (0 : Int32))] [(.ref b9), (.ref b2)])) _
      refine st18.trans ?_
      show Steps p.tables e below (T18.setTop (mkF m 121 #[.val (.int p1), .val (.int p2), .val (.int p3), .val (.int p4), .val (.int p5), .val (.int (own_r1 p1)), .val (.int (own_r2 p1)), .val (.ref b2), .val (.ref b9), .val (.int (0 : Int32))] [(.int (own_holds p2 p3 (own_lev (own_idx (own_r1 p1))) p4 p5 (own_lev (own_idx (own_r2 p1)))))])) _
      refine XS.iload X18.here hx rfl (hb hby at_121) rfl ?_
      show Steps p.tables e below (T18.setTop (mkF m 123 #[.val (.int p1), .val (.int p2), .val (.int p3), .val (.int p4), .val (.int p5), .val (.int (own_r1 p1)), .val (.int (own_r2 p1)), .val (.ref b2), .val (.ref b9), .val (.int (0 : Int32))] [(.int (0 : Int32)), (.int (own_holds p2 p3 (own_lev (own_idx (own_r1 p1))) p4 p5 (own_lev (own_idx (own_r2 p1)))))])) _
      refine XS.icmpNo X18.here hx rfl (hb hby at_123) rfl (teq hv).2 ?_
      show Steps p.tables e below (T18.setTop (mkF m 126 #[.val (.int p1), .val (.int p2), .val (.int p3), .val (.int p4), .val (.int p5), .val (.int (own_r1 p1)), .val (.int (own_r2 p1)), .val (.ref b2), .val (.ref b9), .val (.int (0 : Int32))] [])) _
      refine XS.iconst X18.here hx rfl (hb hby at_126) ?_
      show Steps p.tables e below (T18.setTop (mkF m 127 #[.val (.int p1), .val (.int p2), .val (.int p3), .val (.int p4), .val (.int p5), .val (.int (own_r1 p1)), .val (.int (own_r2 p1)), .val (.ref b2), .val (.ref b9), .val (.int (0 : Int32))] [(.int (1 : Int32))])) _
      refine XS.goto X18.here hx rfl (pc0 := 127) (pc' := 131) rfl (hb hby at_127) (by decide) (by decide) ?_
      show Steps p.tables e below (T18.setTop (mkF m 131 #[.val (.int p1), .val (.int p2), .val (.int p3), .val (.int p4), .val (.int p5), .val (.int (own_r1 p1)), .val (.int (own_r2 p1)), .val (.ref b2), .val (.ref b9), .val (.int (0 : Int32))] [(.int (1 : Int32))])) _
      exact retN X18 hx (t := .boolean) Bd.returns (by simp) (hb hby at_131) hr
    · show Q0 Z p1 p2 p3 p4 p5 h0 n0 _ T18.heap _
      exact ⟨rfl, N18⟩
  · by_cases hB : p3 < p5
    · obtain ⟨cq18, kq18, q18a, q18b, q18c⟩ := isOf hZ rfl ((A2.keep KC7).keep Kd8 |>.keep KO)
      obtain ⟨_, _, ⟨T18, L18, k18, n18⟩, -, X18, ⟨Lc18, hQ18, l18, y18, z18⟩, st18⟩ := X15.virtualBack hx (y := (⟨"com/example/planwright/planwright/division/Division", "holds", "(Lcom/example/planwright/planwright/division/Division;)Z"⟩ : MethodName)) (z := (⟨"com/example/planwright/planwright/division/Division", "holds", "(Lcom/example/planwright/planwright/division/Division;)Z"⟩ : MethodName)) hown (mvT hZ (hw _ (List.mem_of_getElem? (i := 67) rfl))) (mvT hZ (hw _ (List.mem_of_getElem? (i := 68) rfl))) (notFace_of_selects (args := #[]) (mvT hZ (hw _ (List.mem_of_getElem? (i := 70) rfl)))) (mvT hZ (hw _ (List.mem_of_getElem? (i := 70) rfl))) (mvT hZ (hw _ (List.mem_of_getElem? (i := 69) rfl))) (by decide) (backOf (W := 0) (rm8 l Z a0 hw [] b2 b9 p2 p3 (own_lev (own_idx (own_r1 p1))) p4 p5 (own_lev (own_idx (own_r2 p1))) (cs (own_idx (own_r1 p1))) (cs (own_idx (own_r2 p1))) T15.heap n0 Z15 EX15 Fs15 Fe15 Fr15 Fs8' Fe8' Fr8' (hR15.2 _ i2).1 (hR15.2 _ i2).2 (hR15.2 _ i1).1 (hR15.2 _ i1).2) hZ (hw _ (List.mem_of_getElem? (i := 71) rfl)) (hw _ (List.mem_of_getElem? (i := 2) rfl)) (by decide) (by decide)) q18a q18c (g := (mkF m 118 #[.val (.int p1), .val (.int p2), .val (.int p3), .val (.int p4), .val (.int p5), .val (.int (own_r1 p1)), .val (.int (own_r2 p1)), .val (.ref b2), .val (.ref b9), .val (.int (0 : Int32))] [(.ref b9), (.ref b2)])) rfl (by rw [hml]; rfl) (Steps.refl _) (argsL := [(.ref b9)]) (rest := []) (lenOf own_pd5 rfl) rfl (by show 2 * 0 + _ ≤ _; exact Nat.le_of_eq rfl) (hb hby at_118) (fun _ _ => ⟨rfl, rfl, (by decide : 12 + 0 ≤ _), (by decide : 36 + 0 ≤ _)⟩)
      dsimp only [Pt.U, Pt.locs, Pt.cells, Pt.slots] at X18 l18 y18 z18 st18 hQ18
      subst l18 y18 z18
      obtain ⟨rfl, N18q, e18⟩ := hQ18
      have N18 := Fr.app N15 N18q
      have hk18 : k12 ≤ T18.heap.size := by rw [e18]; exact hk15
      have hv : (own_holds p2 p3 (own_lev (own_idx (own_r1 p1))) p4 p5 (own_lev (own_idx (own_r2 p1)))) = (0 : Int32) := own_h1 hA hB
      obtain ⟨fs, hr, hrun, hended, hEnd⟩ := X18.leaveW hS hk18 (v := some (.int (1 : Int32))) (fun h => by rw [Bd.returns] at h; cases h)
      refine ⟨_, _, pre0 _ ?_, hrun, hended, _, _, rfl, ?_, ⟨hEnd.1, hEnd.2.1, hEnd.2.2.1, hEnd.2.2.2.mono (by decide) (by decide)⟩⟩
      · show Steps p.tables e below (s₁.setTop (mkF m 0 #[.val (.int p1), .val (.int p2), .val (.int p3), .val (.int p4), .val (.int p5), .unset, .unset, .unset, .unset, .unset] [])) _
        refine XS.iloadN X0.here hx rfl (hb hby at_0) rfl ?_
        show Steps p.tables e below (s₁.setTop (mkF m 1 #[.val (.int p1), .val (.int p2), .val (.int p3), .val (.int p4), .val (.int p5), .unset, .unset, .unset, .unset, .unset] [(.int p1)])) _
        refine XS.bipush X0.here hx rfl (hb hby at_1) ?_
        show Steps p.tables e below (s₁.setTop (mkF m 3 #[.val (.int p1), .val (.int p2), .val (.int p3), .val (.int p4), .val (.int p5), .unset, .unset, .unset, .unset, .unset] [(.int (7 : Int32)), (.int p1)])) _
        refine XS.iand X0.here hx rfl (hb hby at_3) rfl ?_
        show Steps p.tables e below (s₁.setTop (mkF m 4 #[.val (.int p1), .val (.int p2), .val (.int p3), .val (.int p4), .val (.int p5), .unset, .unset, .unset, .unset, .unset] [(.int (own_r1 p1))])) _
        refine XS.istore X0.here hx rfl (hb hby at_4) rfl (l' := #[.val (.int p1), .val (.int p2), .val (.int p3), .val (.int p4), .val (.int p5), .val (.int (own_r1 p1)), .unset, .unset, .unset, .unset]) rfl ?_
        show Steps p.tables e below (s₁.setTop (mkF m 6 #[.val (.int p1), .val (.int p2), .val (.int p3), .val (.int p4), .val (.int p5), .val (.int (own_r1 p1)), .unset, .unset, .unset, .unset] [])) _
        refine XS.iloadN X0.here hx rfl (hb hby at_6) rfl ?_
        show Steps p.tables e below (s₁.setTop (mkF m 7 #[.val (.int p1), .val (.int p2), .val (.int p3), .val (.int p4), .val (.int p5), .val (.int (own_r1 p1)), .unset, .unset, .unset, .unset] [(.int p1)])) _
        refine XS.iconst X0.here hx rfl (hb hby at_7) ?_
        show Steps p.tables e below (s₁.setTop (mkF m 8 #[.val (.int p1), .val (.int p2), .val (.int p3), .val (.int p4), .val (.int p5), .val (.int (own_r1 p1)), .unset, .unset, .unset, .unset] [(.int (3 : Int32)), (.int p1)])) _
        refine XS.iushr X0.here hx rfl (hb hby at_8) rfl ?_
        show Steps p.tables e below (s₁.setTop (mkF m 9 #[.val (.int p1), .val (.int p2), .val (.int p3), .val (.int p4), .val (.int p5), .val (.int (own_r1 p1)), .unset, .unset, .unset, .unset] [(.int ((p1.toUInt32 >>> ((3 : Int32) &&& 31).toUInt32).toInt32))])) _
        refine XS.bipush X0.here hx rfl (hb hby at_9) ?_
        show Steps p.tables e below (s₁.setTop (mkF m 11 #[.val (.int p1), .val (.int p2), .val (.int p3), .val (.int p4), .val (.int p5), .val (.int (own_r1 p1)), .unset, .unset, .unset, .unset] [(.int (7 : Int32)), (.int ((p1.toUInt32 >>> ((3 : Int32) &&& 31).toUInt32).toInt32))])) _
        refine XS.iand X0.here hx rfl (hb hby at_11) rfl ?_
        show Steps p.tables e below (s₁.setTop (mkF m 12 #[.val (.int p1), .val (.int p2), .val (.int p3), .val (.int p4), .val (.int p5), .val (.int (own_r1 p1)), .unset, .unset, .unset, .unset] [(.int (own_r2 p1))])) _
        refine XS.istore X0.here hx rfl (hb hby at_12) rfl (l' := #[.val (.int p1), .val (.int p2), .val (.int p3), .val (.int p4), .val (.int p5), .val (.int (own_r1 p1)), .val (.int (own_r2 p1)), .unset, .unset, .unset]) rfl ?_
        show Steps p.tables e below (s₁.setTop (mkF m 14 #[.val (.int p1), .val (.int p2), .val (.int p3), .val (.int p4), .val (.int p5), .val (.int (own_r1 p1)), .val (.int (own_r2 p1)), .unset, .unset, .unset] [])) _
        refine st2 _ ?_
        show Steps p.tables e below (T2.setTop (mkF m 17 #[.val (.int p1), .val (.int p2), .val (.int p3), .val (.int p4), .val (.int p5), .val (.int (own_r1 p1)), .val (.int (own_r2 p1)), .unset, .unset, .unset] [(.ref b2)])) _
        refine XS.dup X2.here hx rfl (hb hby at_17) rfl rfl ?_
        show Steps p.tables e below (T2.setTop (mkF m 18 #[.val (.int p1), .val (.int p2), .val (.int p3), .val (.int p4), .val (.int p5), .val (.int (own_r1 p1)), .val (.int (own_r2 p1)), .unset, .unset, .unset] [(.ref b2), (.ref b2)])) _
        refine XS.iload X2.here hx rfl (hb hby at_18) rfl ?_
        show Steps p.tables e below (T2.setTop (mkF m 20 #[.val (.int p1), .val (.int p2), .val (.int p3), .val (.int p4), .val (.int p5), .val (.int (own_r1 p1)), .val (.int (own_r2 p1)), .unset, .unset, .unset] [(.int (own_r1 p1)), (.ref b2), (.ref b2)])) _
        refine st3 _ ?_
        show Steps p.tables e below (T3.setTop (mkF m 23 #[.val (.int p1), .val (.int p2), .val (.int p3), .val (.int p4), .val (.int p5), .val (.int (own_r1 p1)), .val (.int (own_r2 p1)), .unset, .unset, .unset] [(.ref (cs (own_idx (own_r1 p1)))), (.ref b2), (.ref b2)])) _
        refine st4 _ ?_
        show Steps p.tables e below (T4.setTop (mkF m 25 #[.val (.int p1), .val (.int p2), .val (.int p3), .val (.int p4), .val (.int p5), .val (.int (own_r1 p1)), .val (.int (own_r2 p1)), .unset, .unset, .unset] [(.ref a4), (.ref (cs (own_idx (own_r1 p1)))), (.ref b2), (.ref b2)])) _
        refine st5 _ ?_
        show Steps p.tables e below (T5.setTop (mkF m 27 #[.val (.int p1), .val (.int p2), .val (.int p3), .val (.int p4), .val (.int p5), .val (.int (own_r1 p1)), .val (.int (own_r2 p1)), .unset, .unset, .unset] [(.ref a5), (.ref a4), (.ref (cs (own_idx (own_r1 p1)))), (.ref b2), (.ref b2)])) _
        refine XS.iloadN X5.here hx rfl (hb hby at_27) rfl ?_
        show Steps p.tables e below (T5.setTop (mkF m 28 #[.val (.int p1), .val (.int p2), .val (.int p3), .val (.int p4), .val (.int p5), .val (.int (own_r1 p1)), .val (.int (own_r2 p1)), .unset, .unset, .unset] [(.int p2), (.ref a5), (.ref a4), (.ref (cs (own_idx (own_r1 p1)))), (.ref b2), (.ref b2)])) _
        refine XS.iloadN X5.here hx rfl (hb hby at_28) rfl ?_
        show Steps p.tables e below (T5.setTop (mkF m 29 #[.val (.int p1), .val (.int p2), .val (.int p3), .val (.int p4), .val (.int p5), .val (.int (own_r1 p1)), .val (.int (own_r2 p1)), .unset, .unset, .unset] [(.int p2), (.int p2), (.ref a5), (.ref a4), (.ref (cs (own_idx (own_r1 p1)))), (.ref b2), (.ref b2)])) _
        refine XS.iloadN X5.here hx rfl (hb hby at_29) rfl ?_
        show Steps p.tables e below (T5.setTop (mkF m 30 #[.val (.int p1), .val (.int p2), .val (.int p3), .val (.int p4), .val (.int p5), .val (.int (own_r1 p1)), .val (.int (own_r2 p1)), .unset, .unset, .unset] [(.int p3), (.int p2), (.int p2), (.ref a5), (.ref a4), (.ref (cs (own_idx (own_r1 p1)))), (.ref b2), (.ref b2)])) _
        refine st6 _ ?_
        show Steps p.tables e below (T6.setTop (mkF m 33 #[.val (.int p1), .val (.int p2), .val (.int p3), .val (.int p4), .val (.int p5), .val (.int (own_r1 p1)), .val (.int (own_r2 p1)), .unset, .unset, .unset] [(.ref l6), (.int p3), (.int p2), (.int p2), (.ref a5), (.ref a4), (.ref (cs (own_idx (own_r1 p1)))), (.ref b2), (.ref b2)])) _
        refine XS.dup X6.here hx rfl (hb hby at_33) rfl rfl ?_
        show Steps p.tables e below (T6.setTop (mkF m 34 #[.val (.int p1), .val (.int p2), .val (.int p3), .val (.int p4), .val (.int p5), .val (.int (own_r1 p1)), .val (.int (own_r2 p1)), .unset, .unset, .unset] [(.ref l6), (.ref l6), (.int p3), (.int p2), (.int p2), (.ref a5), (.ref a4), (.ref (cs (own_idx (own_r1 p1)))), (.ref b2), (.ref b2)])) _
        refine st7.trans ?_
        show Steps p.tables e below (T7.setTop (mkF m 37 #[.val (.int p1), .val (.int p2), .val (.int p3), .val (.int p4), .val (.int p5), .val (.int (own_r1 p1)), .val (.int (own_r2 p1)), .unset, .unset, .unset] [(.ref l6), (.int p3), (.int p2), (.int p2), (.ref a5), (.ref a4), (.ref (cs (own_idx (own_r1 p1)))), (.ref b2), (.ref b2)])) _
        refine st8.trans ?_
        show Steps p.tables e below (T8.setTop (mkF m 40 #[.val (.int p1), .val (.int p2), .val (.int p3), .val (.int p4), .val (.int p5), .val (.int (own_r1 p1)), .val (.int (own_r2 p1)), .unset, .unset, .unset] [(.ref b2)])) _
        refine XS.astore X8.here hx rfl (hb hby at_40) rfl rfl (l' := #[.val (.int p1), .val (.int p2), .val (.int p3), .val (.int p4), .val (.int p5), .val (.int (own_r1 p1)), .val (.int (own_r2 p1)), .val (.ref b2), .unset, .unset]) rfl ?_
        show Steps p.tables e below (T8.setTop (mkF m 42 #[.val (.int p1), .val (.int p2), .val (.int p3), .val (.int p4), .val (.int p5), .val (.int (own_r1 p1)), .val (.int (own_r2 p1)), .val (.ref b2), .unset, .unset] [])) _
        refine st9 _ ?_
        show Steps p.tables e below (T9.setTop (mkF m 45 #[.val (.int p1), .val (.int p2), .val (.int p3), .val (.int p4), .val (.int p5), .val (.int (own_r1 p1)), .val (.int (own_r2 p1)), .val (.ref b2), .unset, .unset] [(.ref b9)])) _
        refine XS.dup X9.here hx rfl (hb hby at_45) rfl rfl ?_
        show Steps p.tables e below (T9.setTop (mkF m 46 #[.val (.int p1), .val (.int p2), .val (.int p3), .val (.int p4), .val (.int p5), .val (.int (own_r1 p1)), .val (.int (own_r2 p1)), .val (.ref b2), .unset, .unset] [(.ref b9), (.ref b9)])) _
        refine XS.iload X9.here hx rfl (hb hby at_46) rfl ?_
        show Steps p.tables e below (T9.setTop (mkF m 48 #[.val (.int p1), .val (.int p2), .val (.int p3), .val (.int p4), .val (.int p5), .val (.int (own_r1 p1)), .val (.int (own_r2 p1)), .val (.ref b2), .unset, .unset] [(.int (own_r2 p1)), (.ref b9), (.ref b9)])) _
        refine st10 _ ?_
        show Steps p.tables e below (T10.setTop (mkF m 51 #[.val (.int p1), .val (.int p2), .val (.int p3), .val (.int p4), .val (.int p5), .val (.int (own_r1 p1)), .val (.int (own_r2 p1)), .val (.ref b2), .unset, .unset] [(.ref (cs (own_idx (own_r2 p1)))), (.ref b9), (.ref b9)])) _
        refine st11 _ ?_
        show Steps p.tables e below (T11.setTop (mkF m 53 #[.val (.int p1), .val (.int p2), .val (.int p3), .val (.int p4), .val (.int p5), .val (.int (own_r1 p1)), .val (.int (own_r2 p1)), .val (.ref b2), .unset, .unset] [(.ref a11), (.ref (cs (own_idx (own_r2 p1)))), (.ref b9), (.ref b9)])) _
        refine st12 _ ?_
        show Steps p.tables e below (T12.setTop (mkF m 55 #[.val (.int p1), .val (.int p2), .val (.int p3), .val (.int p4), .val (.int p5), .val (.int (own_r1 p1)), .val (.int (own_r2 p1)), .val (.ref b2), .unset, .unset] [(.ref a12), (.ref a11), (.ref (cs (own_idx (own_r2 p1)))), (.ref b9), (.ref b9)])) _
        refine XS.iloadN X12.here hx rfl (hb hby at_55) rfl ?_
        show Steps p.tables e below (T12.setTop (mkF m 56 #[.val (.int p1), .val (.int p2), .val (.int p3), .val (.int p4), .val (.int p5), .val (.int (own_r1 p1)), .val (.int (own_r2 p1)), .val (.ref b2), .unset, .unset] [(.int p4), (.ref a12), (.ref a11), (.ref (cs (own_idx (own_r2 p1)))), (.ref b9), (.ref b9)])) _
        refine XS.iloadN X12.here hx rfl (hb hby at_56) rfl ?_
        show Steps p.tables e below (T12.setTop (mkF m 57 #[.val (.int p1), .val (.int p2), .val (.int p3), .val (.int p4), .val (.int p5), .val (.int (own_r1 p1)), .val (.int (own_r2 p1)), .val (.ref b2), .unset, .unset] [(.int p4), (.int p4), (.ref a12), (.ref a11), (.ref (cs (own_idx (own_r2 p1)))), (.ref b9), (.ref b9)])) _
        refine XS.iload X12.here hx rfl (hb hby at_57) rfl ?_
        show Steps p.tables e below (T12.setTop (mkF m 59 #[.val (.int p1), .val (.int p2), .val (.int p3), .val (.int p4), .val (.int p5), .val (.int (own_r1 p1)), .val (.int (own_r2 p1)), .val (.ref b2), .unset, .unset] [(.int p5), (.int p4), (.int p4), (.ref a12), (.ref a11), (.ref (cs (own_idx (own_r2 p1)))), (.ref b9), (.ref b9)])) _
        refine st13 _ ?_
        show Steps p.tables e below (T13.setTop (mkF m 62 #[.val (.int p1), .val (.int p2), .val (.int p3), .val (.int p4), .val (.int p5), .val (.int (own_r1 p1)), .val (.int (own_r2 p1)), .val (.ref b2), .unset, .unset] [(.ref l13), (.int p5), (.int p4), (.int p4), (.ref a12), (.ref a11), (.ref (cs (own_idx (own_r2 p1)))), (.ref b9), (.ref b9)])) _
        refine XS.dup X13.here hx rfl (hb hby at_62) rfl rfl ?_
        show Steps p.tables e below (T13.setTop (mkF m 63 #[.val (.int p1), .val (.int p2), .val (.int p3), .val (.int p4), .val (.int p5), .val (.int (own_r1 p1)), .val (.int (own_r2 p1)), .val (.ref b2), .unset, .unset] [(.ref l13), (.ref l13), (.int p5), (.int p4), (.int p4), (.ref a12), (.ref a11), (.ref (cs (own_idx (own_r2 p1)))), (.ref b9), (.ref b9)])) _
        refine st14.trans ?_
        show Steps p.tables e below (T14.setTop (mkF m 66 #[.val (.int p1), .val (.int p2), .val (.int p3), .val (.int p4), .val (.int p5), .val (.int (own_r1 p1)), .val (.int (own_r2 p1)), .val (.ref b2), .unset, .unset] [(.ref l13), (.int p5), (.int p4), (.int p4), (.ref a12), (.ref a11), (.ref (cs (own_idx (own_r2 p1)))), (.ref b9), (.ref b9)])) _
        refine st15.trans ?_
        show Steps p.tables e below (T15.setTop (mkF m 69 #[.val (.int p1), .val (.int p2), .val (.int p3), .val (.int p4), .val (.int p5), .val (.int (own_r1 p1)), .val (.int (own_r2 p1)), .val (.ref b2), .unset, .unset] [(.ref b9)])) _
        refine XS.astore X15.here hx rfl (hb hby at_69) rfl rfl (l' := #[.val (.int p1), .val (.int p2), .val (.int p3), .val (.int p4), .val (.int p5), .val (.int (own_r1 p1)), .val (.int (own_r2 p1)), .val (.ref b2), .val (.ref b9), .unset]) rfl ?_
        show Steps p.tables e below (T15.setTop (mkF m 71 #[.val (.int p1), .val (.int p2), .val (.int p3), .val (.int p4), .val (.int p5), .val (.int (own_r1 p1)), .val (.int (own_r2 p1)), .val (.ref b2), .val (.ref b9), .unset] [])) _
        refine XS.iloadN X15.here hx rfl (hb hby at_71) rfl ?_
        show Steps p.tables e below (T15.setTop (mkF m 72 #[.val (.int p1), .val (.int p2), .val (.int p3), .val (.int p4), .val (.int p5), .val (.int (own_r1 p1)), .val (.int (own_r2 p1)), .val (.ref b2), .val (.ref b9), .unset] [(.int p4)])) _
        refine XS.iloadN X15.here hx rfl (hb hby at_72) rfl ?_
        show Steps p.tables e below (T15.setTop (mkF m 73 #[.val (.int p1), .val (.int p2), .val (.int p3), .val (.int p4), .val (.int p5), .val (.int (own_r1 p1)), .val (.int (own_r2 p1)), .val (.ref b2), .val (.ref b9), .unset] [(.int p2), (.int p4)])) _
        refine XS.icmpYes X15.here hx rfl (pc0 := 73) (pc' := 82) rfl (hb hby at_73) rfl (flt hA).2.1 (by decide) (by decide) ?_
        show Steps p.tables e below (T15.setTop (mkF m 82 #[.val (.int p1), .val (.int p2), .val (.int p3), .val (.int p4), .val (.int p5), .val (.int (own_r1 p1)), .val (.int (own_r2 p1)), .val (.ref b2), .val (.ref b9), .unset] [])) _
        refine XS.iload X15.here hx rfl (hb hby at_82) rfl ?_
        show Steps p.tables e below (T15.setTop (mkF m 84 #[.val (.int p1), .val (.int p2), .val (.int p3), .val (.int p4), .val (.int p5), .val (.int (own_r1 p1)), .val (.int (own_r2 p1)), .val (.ref b2), .val (.ref b9), .unset] [(.int p5)])) _
        refine XS.iloadN X15.here hx rfl (hb hby at_84) rfl ?_
        show Steps p.tables e below (T15.setTop (mkF m 85 #[.val (.int p1), .val (.int p2), .val (.int p3), .val (.int p4), .val (.int p5), .val (.int (own_r1 p1)), .val (.int (own_r2 p1)), .val (.ref b2), .val (.ref b9), .unset] [(.int p3), (.int p5)])) _
        refine XS.icmpNo X15.here hx rfl (hb hby at_85) rfl (tlt hB).2.2.2 ?_
        show Steps p.tables e below (T15.setTop (mkF m 88 #[.val (.int p1), .val (.int p2), .val (.int p3), .val (.int p4), .val (.int p5), .val (.int (own_r1 p1)), .val (.int (own_r2 p1)), .val (.ref b2), .val (.ref b9), .unset] [])) _
        refine XS.iconst X15.here hx rfl (hb hby at_88) ?_
        show Steps p.tables e below (T15.setTop (mkF m 89 #[.val (.int p1), .val (.int p2), .val (.int p3), .val (.int p4), .val (.int p5), .val (.int (own_r1 p1)), .val (.int (own_r2 p1)), .val (.ref b2), .val (.ref b9), .unset] [(.int (0 : Int32))])) _
        refine XS.istore X15.here hx rfl (hb hby at_89) rfl (l' := #[.val (.int p1), .val (.int p2), .val (.int p3), .val (.int p4), .val (.int p5), .val (.int (own_r1 p1)), .val (.int (own_r2 p1)), .val (.ref b2), .val (.ref b9), .val (.int (0 : Int32))]) rfl ?_
        show Steps p.tables e below (T15.setTop (mkF m 91 #[.val (.int p1), .val (.int p2), .val (.int p3), .val (.int p4), .val (.int p5), .val (.int (own_r1 p1)), .val (.int (own_r2 p1)), .val (.ref b2), .val (.ref b9), .val (.int (0 : Int32))] [])) _
        refine XS.goto X15.here hx rfl (pc0 := 91) (pc' := 114) rfl (hb hby at_91) (by decide) (by decide) ?_
        show Steps p.tables e below (T15.setTop (mkF m 114 #[.val (.int p1), .val (.int p2), .val (.int p3), .val (.int p4), .val (.int p5), .val (.int (own_r1 p1)), .val (.int (own_r2 p1)), .val (.ref b2), .val (.ref b9), .val (.int (0 : Int32))] [])) _
        refine XS.aload X15.here hx rfl (hb hby at_114) rfl rfl ?_
        show Steps p.tables e below (T15.setTop (mkF m 116 #[.val (.int p1), .val (.int p2), .val (.int p3), .val (.int p4), .val (.int p5), .val (.int (own_r1 p1)), .val (.int (own_r2 p1)), .val (.ref b2), .val (.ref b9), .val (.int (0 : Int32))] [(.ref b2)])) _
        refine XS.aload X15.here hx rfl (hb hby at_116) rfl rfl ?_
        show Steps p.tables e below (T15.setTop (mkF m 118 #[.val (.int p1), .val (.int p2), .val (.int p3), .val (.int p4), .val (.int p5), .val (.int (own_r1 p1)), .val (.int (own_r2 p1)), .val (.ref b2), .val (.ref b9), .val (.int (0 : Int32))] [(.ref b9), (.ref b2)])) _
        refine st18.trans ?_
        show Steps p.tables e below (T18.setTop (mkF m 121 #[.val (.int p1), .val (.int p2), .val (.int p3), .val (.int p4), .val (.int p5), .val (.int (own_r1 p1)), .val (.int (own_r2 p1)), .val (.ref b2), .val (.ref b9), .val (.int (0 : Int32))] [(.int (own_holds p2 p3 (own_lev (own_idx (own_r1 p1))) p4 p5 (own_lev (own_idx (own_r2 p1)))))])) _
        refine XS.iload X18.here hx rfl (hb hby at_121) rfl ?_
        show Steps p.tables e below (T18.setTop (mkF m 123 #[.val (.int p1), .val (.int p2), .val (.int p3), .val (.int p4), .val (.int p5), .val (.int (own_r1 p1)), .val (.int (own_r2 p1)), .val (.ref b2), .val (.ref b9), .val (.int (0 : Int32))] [(.int (0 : Int32)), (.int (own_holds p2 p3 (own_lev (own_idx (own_r1 p1))) p4 p5 (own_lev (own_idx (own_r2 p1)))))])) _
        refine XS.icmpNo X18.here hx rfl (hb hby at_123) rfl (teq hv).2 ?_
        show Steps p.tables e below (T18.setTop (mkF m 126 #[.val (.int p1), .val (.int p2), .val (.int p3), .val (.int p4), .val (.int p5), .val (.int (own_r1 p1)), .val (.int (own_r2 p1)), .val (.ref b2), .val (.ref b9), .val (.int (0 : Int32))] [])) _
        refine XS.iconst X18.here hx rfl (hb hby at_126) ?_
        show Steps p.tables e below (T18.setTop (mkF m 127 #[.val (.int p1), .val (.int p2), .val (.int p3), .val (.int p4), .val (.int p5), .val (.int (own_r1 p1)), .val (.int (own_r2 p1)), .val (.ref b2), .val (.ref b9), .val (.int (0 : Int32))] [(.int (1 : Int32))])) _
        refine XS.goto X18.here hx rfl (pc0 := 127) (pc' := 131) rfl (hb hby at_127) (by decide) (by decide) ?_
        show Steps p.tables e below (T18.setTop (mkF m 131 #[.val (.int p1), .val (.int p2), .val (.int p3), .val (.int p4), .val (.int p5), .val (.int (own_r1 p1)), .val (.int (own_r2 p1)), .val (.ref b2), .val (.ref b9), .val (.int (0 : Int32))] [(.int (1 : Int32))])) _
        exact retN X18 hx (t := .boolean) Bd.returns (by simp) (hb hby at_131) hr
      · show Q0 Z p1 p2 p3 p4 p5 h0 n0 _ T18.heap _
        exact ⟨rfl, N18⟩
    · obtain ⟨_, _, ⟨T16, L16, k16, n16⟩, -, X16, ⟨Lc16, hQ16, l16, y16, z16⟩, st16⟩ := Jvm.LawKit.callS X15 hx (y := (⟨"com/example/planwright/planwright/division/DivisionHoldsPinLaw", "depth", "(I)I"⟩ : MethodName)) hown (mvT hZ (hw _ (List.mem_of_getElem? (i := 79) rfl))) (mvT hZ (hw _ (List.mem_of_getElem? (i := 80) rfl))) (mvT hZ (hw _ (List.mem_of_getElem? (i := 5) rfl))) (mvT hZ (hw _ (List.mem_of_getElem? (i := 81) rfl))) (by decide) (backOf (W := 0) (rm10 l Z a0 hw [] (own_r2 p1) T15.heap n0 Z15) hZ (hw _ (List.mem_of_getElem? (i := 81) rfl)) (hw _ (List.mem_of_getElem? (i := 5) rfl)) (by decide) (by decide)) (g := (mkF m 96 #[.val (.int p1), .val (.int p2), .val (.int p3), .val (.int p4), .val (.int p5), .val (.int (own_r1 p1)), .val (.int (own_r2 p1)), .val (.ref b2), .val (.ref b9), .unset] [(.int (own_r2 p1))])) rfl (by rw [hml]; rfl) (argsL := [(.int (own_r2 p1))]) (rest := []) (lenOf own_pd6 rfl) rfl (by show 2 * 0 + _ ≤ _; exact Nat.le_of_eq rfl) (hb hby at_96) (fun _ _ => ⟨rfl, rfl, (by decide : 12 + 0 ≤ _), (by decide : 36 + 0 ≤ _)⟩)
      dsimp only [Pt.U, Pt.locs, Pt.cells, Pt.slots] at X16 l16 y16 z16 st16 hQ16
      subst l16 y16 z16
      obtain ⟨rfl, N16q, e16⟩ := hQ16
      have N16 := Fr.app N15 N16q
      obtain ⟨_, _, ⟨T17, L17, k17, n17⟩, -, X17, ⟨Lc17, hQ17, l17, y17, z17⟩, st17⟩ := Jvm.LawKit.callS X16 hx (y := (⟨"com/example/planwright/planwright/division/DivisionHoldsPinLaw", "depth", "(I)I"⟩ : MethodName)) hown (mvT hZ (hw _ (List.mem_of_getElem? (i := 79) rfl))) (mvT hZ (hw _ (List.mem_of_getElem? (i := 80) rfl))) (mvT hZ (hw _ (List.mem_of_getElem? (i := 5) rfl))) (mvT hZ (hw _ (List.mem_of_getElem? (i := 81) rfl))) (by decide) (backOf (W := 1) (rm10 l Z a0 hw [] (own_r1 p1) T15.heap n0 Z15) hZ (hw _ (List.mem_of_getElem? (i := 81) rfl)) (hw _ (List.mem_of_getElem? (i := 5) rfl)) (by decide) (by decide)) (g := (mkF m 101 #[.val (.int p1), .val (.int p2), .val (.int p3), .val (.int p4), .val (.int p5), .val (.int (own_r1 p1)), .val (.int (own_r2 p1)), .val (.ref b2), .val (.ref b9), .unset] [(.int (own_r1 p1)), (.int (own_depth (own_r2 p1)))])) rfl (by rw [hml]; rfl) (argsL := [(.int (own_r1 p1))]) (rest := [(.int (own_depth (own_r2 p1)))]) (lenOf own_pd6 rfl) rfl (by show 2 * 0 + _ ≤ _; exact Nat.le_of_eq rfl) (hb hby at_101) (fun _ _ => ⟨rfl, e16, (by decide : 12 + 0 ≤ _), (by decide : 36 + 0 ≤ _)⟩)
      dsimp only [Pt.U, Pt.locs, Pt.cells, Pt.slots] at X17 l17 y17 z17 st17 hQ17
      subst l17 y17 z17
      obtain ⟨rfl, N17q, e17⟩ := hQ17
      have N17 := Fr.app N16 N17q
      by_cases hD : own_depth (own_r1 p1) < own_depth (own_r2 p1)
      · obtain ⟨cq18, kq18, q18a, q18b, q18c⟩ := isOf hZ e17 ((A2.keep KC7).keep Kd8 |>.keep KO)
        obtain ⟨_, _, ⟨T18, L18, k18, n18⟩, -, X18, ⟨Lc18, hQ18, l18, y18, z18⟩, st18⟩ := X17.virtualBack hx (y := (⟨"com/example/planwright/planwright/division/Division", "holds", "(Lcom/example/planwright/planwright/division/Division;)Z"⟩ : MethodName)) (z := (⟨"com/example/planwright/planwright/division/Division", "holds", "(Lcom/example/planwright/planwright/division/Division;)Z"⟩ : MethodName)) hown (mvT hZ (hw _ (List.mem_of_getElem? (i := 67) rfl))) (mvT hZ (hw _ (List.mem_of_getElem? (i := 68) rfl))) (notFace_of_selects (args := #[]) (mvT hZ (hw _ (List.mem_of_getElem? (i := 70) rfl)))) (mvT hZ (hw _ (List.mem_of_getElem? (i := 70) rfl))) (mvT hZ (hw _ (List.mem_of_getElem? (i := 69) rfl))) (by decide) (backOf (W := 0) (rm8 l Z a0 hw [] b2 b9 p2 p3 (own_lev (own_idx (own_r1 p1))) p4 p5 (own_lev (own_idx (own_r2 p1))) (cs (own_idx (own_r1 p1))) (cs (own_idx (own_r2 p1))) T15.heap n0 Z15 EX15 Fs15 Fe15 Fr15 Fs8' Fe8' Fr8' (hR15.2 _ i2).1 (hR15.2 _ i2).2 (hR15.2 _ i1).1 (hR15.2 _ i1).2) hZ (hw _ (List.mem_of_getElem? (i := 71) rfl)) (hw _ (List.mem_of_getElem? (i := 2) rfl)) (by decide) (by decide)) q18a q18c (g := (mkF m 118 #[.val (.int p1), .val (.int p2), .val (.int p3), .val (.int p4), .val (.int p5), .val (.int (own_r1 p1)), .val (.int (own_r2 p1)), .val (.ref b2), .val (.ref b9), .val (.int (1 : Int32))] [(.ref b9), (.ref b2)])) rfl (by rw [hml]; rfl) (Steps.refl _) (argsL := [(.ref b9)]) (rest := []) (lenOf own_pd5 rfl) rfl (by show 2 * 0 + _ ≤ _; exact Nat.le_of_eq rfl) (hb hby at_118) (fun _ _ => ⟨rfl, e17, (by decide : 12 + 0 ≤ _), (by decide : 36 + 0 ≤ _)⟩)
        dsimp only [Pt.U, Pt.locs, Pt.cells, Pt.slots] at X18 l18 y18 z18 st18 hQ18
        subst l18 y18 z18
        obtain ⟨rfl, N18q, e18⟩ := hQ18
        have N18 := Fr.app N17 N18q
        have hk18 : k12 ≤ T18.heap.size := by rw [e18]; exact hk15
        have hv : (own_holds p2 p3 (own_lev (own_idx (own_r1 p1))) p4 p5 (own_lev (own_idx (own_r2 p1)))) = (1 : Int32) := own_h2 hA hB (by rw [own_dr1, own_dr2]; exact hD)
        obtain ⟨fs, hr, hrun, hended, hEnd⟩ := X18.leaveW hS hk18 (v := some (.int (1 : Int32))) (fun h => by rw [Bd.returns] at h; cases h)
        refine ⟨_, _, pre0 _ ?_, hrun, hended, _, _, rfl, ?_, ⟨hEnd.1, hEnd.2.1, hEnd.2.2.1, hEnd.2.2.2.mono (by decide) (by decide)⟩⟩
        · show Steps p.tables e below (s₁.setTop (mkF m 0 #[.val (.int p1), .val (.int p2), .val (.int p3), .val (.int p4), .val (.int p5), .unset, .unset, .unset, .unset, .unset] [])) _
          refine XS.iloadN X0.here hx rfl (hb hby at_0) rfl ?_
          show Steps p.tables e below (s₁.setTop (mkF m 1 #[.val (.int p1), .val (.int p2), .val (.int p3), .val (.int p4), .val (.int p5), .unset, .unset, .unset, .unset, .unset] [(.int p1)])) _
          refine XS.bipush X0.here hx rfl (hb hby at_1) ?_
          show Steps p.tables e below (s₁.setTop (mkF m 3 #[.val (.int p1), .val (.int p2), .val (.int p3), .val (.int p4), .val (.int p5), .unset, .unset, .unset, .unset, .unset] [(.int (7 : Int32)), (.int p1)])) _
          refine XS.iand X0.here hx rfl (hb hby at_3) rfl ?_
          show Steps p.tables e below (s₁.setTop (mkF m 4 #[.val (.int p1), .val (.int p2), .val (.int p3), .val (.int p4), .val (.int p5), .unset, .unset, .unset, .unset, .unset] [(.int (own_r1 p1))])) _
          refine XS.istore X0.here hx rfl (hb hby at_4) rfl (l' := #[.val (.int p1), .val (.int p2), .val (.int p3), .val (.int p4), .val (.int p5), .val (.int (own_r1 p1)), .unset, .unset, .unset, .unset]) rfl ?_
          show Steps p.tables e below (s₁.setTop (mkF m 6 #[.val (.int p1), .val (.int p2), .val (.int p3), .val (.int p4), .val (.int p5), .val (.int (own_r1 p1)), .unset, .unset, .unset, .unset] [])) _
          refine XS.iloadN X0.here hx rfl (hb hby at_6) rfl ?_
          show Steps p.tables e below (s₁.setTop (mkF m 7 #[.val (.int p1), .val (.int p2), .val (.int p3), .val (.int p4), .val (.int p5), .val (.int (own_r1 p1)), .unset, .unset, .unset, .unset] [(.int p1)])) _
          refine XS.iconst X0.here hx rfl (hb hby at_7) ?_
          show Steps p.tables e below (s₁.setTop (mkF m 8 #[.val (.int p1), .val (.int p2), .val (.int p3), .val (.int p4), .val (.int p5), .val (.int (own_r1 p1)), .unset, .unset, .unset, .unset] [(.int (3 : Int32)), (.int p1)])) _
          refine XS.iushr X0.here hx rfl (hb hby at_8) rfl ?_
          show Steps p.tables e below (s₁.setTop (mkF m 9 #[.val (.int p1), .val (.int p2), .val (.int p3), .val (.int p4), .val (.int p5), .val (.int (own_r1 p1)), .unset, .unset, .unset, .unset] [(.int ((p1.toUInt32 >>> ((3 : Int32) &&& 31).toUInt32).toInt32))])) _
          refine XS.bipush X0.here hx rfl (hb hby at_9) ?_
          show Steps p.tables e below (s₁.setTop (mkF m 11 #[.val (.int p1), .val (.int p2), .val (.int p3), .val (.int p4), .val (.int p5), .val (.int (own_r1 p1)), .unset, .unset, .unset, .unset] [(.int (7 : Int32)), (.int ((p1.toUInt32 >>> ((3 : Int32) &&& 31).toUInt32).toInt32))])) _
          refine XS.iand X0.here hx rfl (hb hby at_11) rfl ?_
          show Steps p.tables e below (s₁.setTop (mkF m 12 #[.val (.int p1), .val (.int p2), .val (.int p3), .val (.int p4), .val (.int p5), .val (.int (own_r1 p1)), .unset, .unset, .unset, .unset] [(.int (own_r2 p1))])) _
          refine XS.istore X0.here hx rfl (hb hby at_12) rfl (l' := #[.val (.int p1), .val (.int p2), .val (.int p3), .val (.int p4), .val (.int p5), .val (.int (own_r1 p1)), .val (.int (own_r2 p1)), .unset, .unset, .unset]) rfl ?_
          show Steps p.tables e below (s₁.setTop (mkF m 14 #[.val (.int p1), .val (.int p2), .val (.int p3), .val (.int p4), .val (.int p5), .val (.int (own_r1 p1)), .val (.int (own_r2 p1)), .unset, .unset, .unset] [])) _
          refine st2 _ ?_
          show Steps p.tables e below (T2.setTop (mkF m 17 #[.val (.int p1), .val (.int p2), .val (.int p3), .val (.int p4), .val (.int p5), .val (.int (own_r1 p1)), .val (.int (own_r2 p1)), .unset, .unset, .unset] [(.ref b2)])) _
          refine XS.dup X2.here hx rfl (hb hby at_17) rfl rfl ?_
          show Steps p.tables e below (T2.setTop (mkF m 18 #[.val (.int p1), .val (.int p2), .val (.int p3), .val (.int p4), .val (.int p5), .val (.int (own_r1 p1)), .val (.int (own_r2 p1)), .unset, .unset, .unset] [(.ref b2), (.ref b2)])) _
          refine XS.iload X2.here hx rfl (hb hby at_18) rfl ?_
          show Steps p.tables e below (T2.setTop (mkF m 20 #[.val (.int p1), .val (.int p2), .val (.int p3), .val (.int p4), .val (.int p5), .val (.int (own_r1 p1)), .val (.int (own_r2 p1)), .unset, .unset, .unset] [(.int (own_r1 p1)), (.ref b2), (.ref b2)])) _
          refine st3 _ ?_
          show Steps p.tables e below (T3.setTop (mkF m 23 #[.val (.int p1), .val (.int p2), .val (.int p3), .val (.int p4), .val (.int p5), .val (.int (own_r1 p1)), .val (.int (own_r2 p1)), .unset, .unset, .unset] [(.ref (cs (own_idx (own_r1 p1)))), (.ref b2), (.ref b2)])) _
          refine st4 _ ?_
          show Steps p.tables e below (T4.setTop (mkF m 25 #[.val (.int p1), .val (.int p2), .val (.int p3), .val (.int p4), .val (.int p5), .val (.int (own_r1 p1)), .val (.int (own_r2 p1)), .unset, .unset, .unset] [(.ref a4), (.ref (cs (own_idx (own_r1 p1)))), (.ref b2), (.ref b2)])) _
          refine st5 _ ?_
          show Steps p.tables e below (T5.setTop (mkF m 27 #[.val (.int p1), .val (.int p2), .val (.int p3), .val (.int p4), .val (.int p5), .val (.int (own_r1 p1)), .val (.int (own_r2 p1)), .unset, .unset, .unset] [(.ref a5), (.ref a4), (.ref (cs (own_idx (own_r1 p1)))), (.ref b2), (.ref b2)])) _
          refine XS.iloadN X5.here hx rfl (hb hby at_27) rfl ?_
          show Steps p.tables e below (T5.setTop (mkF m 28 #[.val (.int p1), .val (.int p2), .val (.int p3), .val (.int p4), .val (.int p5), .val (.int (own_r1 p1)), .val (.int (own_r2 p1)), .unset, .unset, .unset] [(.int p2), (.ref a5), (.ref a4), (.ref (cs (own_idx (own_r1 p1)))), (.ref b2), (.ref b2)])) _
          refine XS.iloadN X5.here hx rfl (hb hby at_28) rfl ?_
          show Steps p.tables e below (T5.setTop (mkF m 29 #[.val (.int p1), .val (.int p2), .val (.int p3), .val (.int p4), .val (.int p5), .val (.int (own_r1 p1)), .val (.int (own_r2 p1)), .unset, .unset, .unset] [(.int p2), (.int p2), (.ref a5), (.ref a4), (.ref (cs (own_idx (own_r1 p1)))), (.ref b2), (.ref b2)])) _
          refine XS.iloadN X5.here hx rfl (hb hby at_29) rfl ?_
          show Steps p.tables e below (T5.setTop (mkF m 30 #[.val (.int p1), .val (.int p2), .val (.int p3), .val (.int p4), .val (.int p5), .val (.int (own_r1 p1)), .val (.int (own_r2 p1)), .unset, .unset, .unset] [(.int p3), (.int p2), (.int p2), (.ref a5), (.ref a4), (.ref (cs (own_idx (own_r1 p1)))), (.ref b2), (.ref b2)])) _
          refine st6 _ ?_
          show Steps p.tables e below (T6.setTop (mkF m 33 #[.val (.int p1), .val (.int p2), .val (.int p3), .val (.int p4), .val (.int p5), .val (.int (own_r1 p1)), .val (.int (own_r2 p1)), .unset, .unset, .unset] [(.ref l6), (.int p3), (.int p2), (.int p2), (.ref a5), (.ref a4), (.ref (cs (own_idx (own_r1 p1)))), (.ref b2), (.ref b2)])) _
          refine XS.dup X6.here hx rfl (hb hby at_33) rfl rfl ?_
          show Steps p.tables e below (T6.setTop (mkF m 34 #[.val (.int p1), .val (.int p2), .val (.int p3), .val (.int p4), .val (.int p5), .val (.int (own_r1 p1)), .val (.int (own_r2 p1)), .unset, .unset, .unset] [(.ref l6), (.ref l6), (.int p3), (.int p2), (.int p2), (.ref a5), (.ref a4), (.ref (cs (own_idx (own_r1 p1)))), (.ref b2), (.ref b2)])) _
          refine st7.trans ?_
          show Steps p.tables e below (T7.setTop (mkF m 37 #[.val (.int p1), .val (.int p2), .val (.int p3), .val (.int p4), .val (.int p5), .val (.int (own_r1 p1)), .val (.int (own_r2 p1)), .unset, .unset, .unset] [(.ref l6), (.int p3), (.int p2), (.int p2), (.ref a5), (.ref a4), (.ref (cs (own_idx (own_r1 p1)))), (.ref b2), (.ref b2)])) _
          refine st8.trans ?_
          show Steps p.tables e below (T8.setTop (mkF m 40 #[.val (.int p1), .val (.int p2), .val (.int p3), .val (.int p4), .val (.int p5), .val (.int (own_r1 p1)), .val (.int (own_r2 p1)), .unset, .unset, .unset] [(.ref b2)])) _
          refine XS.astore X8.here hx rfl (hb hby at_40) rfl rfl (l' := #[.val (.int p1), .val (.int p2), .val (.int p3), .val (.int p4), .val (.int p5), .val (.int (own_r1 p1)), .val (.int (own_r2 p1)), .val (.ref b2), .unset, .unset]) rfl ?_
          show Steps p.tables e below (T8.setTop (mkF m 42 #[.val (.int p1), .val (.int p2), .val (.int p3), .val (.int p4), .val (.int p5), .val (.int (own_r1 p1)), .val (.int (own_r2 p1)), .val (.ref b2), .unset, .unset] [])) _
          refine st9 _ ?_
          show Steps p.tables e below (T9.setTop (mkF m 45 #[.val (.int p1), .val (.int p2), .val (.int p3), .val (.int p4), .val (.int p5), .val (.int (own_r1 p1)), .val (.int (own_r2 p1)), .val (.ref b2), .unset, .unset] [(.ref b9)])) _
          refine XS.dup X9.here hx rfl (hb hby at_45) rfl rfl ?_
          show Steps p.tables e below (T9.setTop (mkF m 46 #[.val (.int p1), .val (.int p2), .val (.int p3), .val (.int p4), .val (.int p5), .val (.int (own_r1 p1)), .val (.int (own_r2 p1)), .val (.ref b2), .unset, .unset] [(.ref b9), (.ref b9)])) _
          refine XS.iload X9.here hx rfl (hb hby at_46) rfl ?_
          show Steps p.tables e below (T9.setTop (mkF m 48 #[.val (.int p1), .val (.int p2), .val (.int p3), .val (.int p4), .val (.int p5), .val (.int (own_r1 p1)), .val (.int (own_r2 p1)), .val (.ref b2), .unset, .unset] [(.int (own_r2 p1)), (.ref b9), (.ref b9)])) _
          refine st10 _ ?_
          show Steps p.tables e below (T10.setTop (mkF m 51 #[.val (.int p1), .val (.int p2), .val (.int p3), .val (.int p4), .val (.int p5), .val (.int (own_r1 p1)), .val (.int (own_r2 p1)), .val (.ref b2), .unset, .unset] [(.ref (cs (own_idx (own_r2 p1)))), (.ref b9), (.ref b9)])) _
          refine st11 _ ?_
          show Steps p.tables e below (T11.setTop (mkF m 53 #[.val (.int p1), .val (.int p2), .val (.int p3), .val (.int p4), .val (.int p5), .val (.int (own_r1 p1)), .val (.int (own_r2 p1)), .val (.ref b2), .unset, .unset] [(.ref a11), (.ref (cs (own_idx (own_r2 p1)))), (.ref b9), (.ref b9)])) _
          refine st12 _ ?_
          show Steps p.tables e below (T12.setTop (mkF m 55 #[.val (.int p1), .val (.int p2), .val (.int p3), .val (.int p4), .val (.int p5), .val (.int (own_r1 p1)), .val (.int (own_r2 p1)), .val (.ref b2), .unset, .unset] [(.ref a12), (.ref a11), (.ref (cs (own_idx (own_r2 p1)))), (.ref b9), (.ref b9)])) _
          refine XS.iloadN X12.here hx rfl (hb hby at_55) rfl ?_
          show Steps p.tables e below (T12.setTop (mkF m 56 #[.val (.int p1), .val (.int p2), .val (.int p3), .val (.int p4), .val (.int p5), .val (.int (own_r1 p1)), .val (.int (own_r2 p1)), .val (.ref b2), .unset, .unset] [(.int p4), (.ref a12), (.ref a11), (.ref (cs (own_idx (own_r2 p1)))), (.ref b9), (.ref b9)])) _
          refine XS.iloadN X12.here hx rfl (hb hby at_56) rfl ?_
          show Steps p.tables e below (T12.setTop (mkF m 57 #[.val (.int p1), .val (.int p2), .val (.int p3), .val (.int p4), .val (.int p5), .val (.int (own_r1 p1)), .val (.int (own_r2 p1)), .val (.ref b2), .unset, .unset] [(.int p4), (.int p4), (.ref a12), (.ref a11), (.ref (cs (own_idx (own_r2 p1)))), (.ref b9), (.ref b9)])) _
          refine XS.iload X12.here hx rfl (hb hby at_57) rfl ?_
          show Steps p.tables e below (T12.setTop (mkF m 59 #[.val (.int p1), .val (.int p2), .val (.int p3), .val (.int p4), .val (.int p5), .val (.int (own_r1 p1)), .val (.int (own_r2 p1)), .val (.ref b2), .unset, .unset] [(.int p5), (.int p4), (.int p4), (.ref a12), (.ref a11), (.ref (cs (own_idx (own_r2 p1)))), (.ref b9), (.ref b9)])) _
          refine st13 _ ?_
          show Steps p.tables e below (T13.setTop (mkF m 62 #[.val (.int p1), .val (.int p2), .val (.int p3), .val (.int p4), .val (.int p5), .val (.int (own_r1 p1)), .val (.int (own_r2 p1)), .val (.ref b2), .unset, .unset] [(.ref l13), (.int p5), (.int p4), (.int p4), (.ref a12), (.ref a11), (.ref (cs (own_idx (own_r2 p1)))), (.ref b9), (.ref b9)])) _
          refine XS.dup X13.here hx rfl (hb hby at_62) rfl rfl ?_
          show Steps p.tables e below (T13.setTop (mkF m 63 #[.val (.int p1), .val (.int p2), .val (.int p3), .val (.int p4), .val (.int p5), .val (.int (own_r1 p1)), .val (.int (own_r2 p1)), .val (.ref b2), .unset, .unset] [(.ref l13), (.ref l13), (.int p5), (.int p4), (.int p4), (.ref a12), (.ref a11), (.ref (cs (own_idx (own_r2 p1)))), (.ref b9), (.ref b9)])) _
          refine st14.trans ?_
          show Steps p.tables e below (T14.setTop (mkF m 66 #[.val (.int p1), .val (.int p2), .val (.int p3), .val (.int p4), .val (.int p5), .val (.int (own_r1 p1)), .val (.int (own_r2 p1)), .val (.ref b2), .unset, .unset] [(.ref l13), (.int p5), (.int p4), (.int p4), (.ref a12), (.ref a11), (.ref (cs (own_idx (own_r2 p1)))), (.ref b9), (.ref b9)])) _
          refine st15.trans ?_
          show Steps p.tables e below (T15.setTop (mkF m 69 #[.val (.int p1), .val (.int p2), .val (.int p3), .val (.int p4), .val (.int p5), .val (.int (own_r1 p1)), .val (.int (own_r2 p1)), .val (.ref b2), .unset, .unset] [(.ref b9)])) _
          refine XS.astore X15.here hx rfl (hb hby at_69) rfl rfl (l' := #[.val (.int p1), .val (.int p2), .val (.int p3), .val (.int p4), .val (.int p5), .val (.int (own_r1 p1)), .val (.int (own_r2 p1)), .val (.ref b2), .val (.ref b9), .unset]) rfl ?_
          show Steps p.tables e below (T15.setTop (mkF m 71 #[.val (.int p1), .val (.int p2), .val (.int p3), .val (.int p4), .val (.int p5), .val (.int (own_r1 p1)), .val (.int (own_r2 p1)), .val (.ref b2), .val (.ref b9), .unset] [])) _
          refine XS.iloadN X15.here hx rfl (hb hby at_71) rfl ?_
          show Steps p.tables e below (T15.setTop (mkF m 72 #[.val (.int p1), .val (.int p2), .val (.int p3), .val (.int p4), .val (.int p5), .val (.int (own_r1 p1)), .val (.int (own_r2 p1)), .val (.ref b2), .val (.ref b9), .unset] [(.int p4)])) _
          refine XS.iloadN X15.here hx rfl (hb hby at_72) rfl ?_
          show Steps p.tables e below (T15.setTop (mkF m 73 #[.val (.int p1), .val (.int p2), .val (.int p3), .val (.int p4), .val (.int p5), .val (.int (own_r1 p1)), .val (.int (own_r2 p1)), .val (.ref b2), .val (.ref b9), .unset] [(.int p2), (.int p4)])) _
          refine XS.icmpYes X15.here hx rfl (pc0 := 73) (pc' := 82) rfl (hb hby at_73) rfl (flt hA).2.1 (by decide) (by decide) ?_
          show Steps p.tables e below (T15.setTop (mkF m 82 #[.val (.int p1), .val (.int p2), .val (.int p3), .val (.int p4), .val (.int p5), .val (.int (own_r1 p1)), .val (.int (own_r2 p1)), .val (.ref b2), .val (.ref b9), .unset] [])) _
          refine XS.iload X15.here hx rfl (hb hby at_82) rfl ?_
          show Steps p.tables e below (T15.setTop (mkF m 84 #[.val (.int p1), .val (.int p2), .val (.int p3), .val (.int p4), .val (.int p5), .val (.int (own_r1 p1)), .val (.int (own_r2 p1)), .val (.ref b2), .val (.ref b9), .unset] [(.int p5)])) _
          refine XS.iloadN X15.here hx rfl (hb hby at_84) rfl ?_
          show Steps p.tables e below (T15.setTop (mkF m 85 #[.val (.int p1), .val (.int p2), .val (.int p3), .val (.int p4), .val (.int p5), .val (.int (own_r1 p1)), .val (.int (own_r2 p1)), .val (.ref b2), .val (.ref b9), .unset] [(.int p3), (.int p5)])) _
          refine XS.icmpYes X15.here hx rfl (pc0 := 85) (pc' := 94) rfl (hb hby at_85) rfl (flt hB).2.2.2 (by decide) (by decide) ?_
          show Steps p.tables e below (T15.setTop (mkF m 94 #[.val (.int p1), .val (.int p2), .val (.int p3), .val (.int p4), .val (.int p5), .val (.int (own_r1 p1)), .val (.int (own_r2 p1)), .val (.ref b2), .val (.ref b9), .unset] [])) _
          refine XS.iload X15.here hx rfl (hb hby at_94) rfl ?_
          show Steps p.tables e below (T15.setTop (mkF m 96 #[.val (.int p1), .val (.int p2), .val (.int p3), .val (.int p4), .val (.int p5), .val (.int (own_r1 p1)), .val (.int (own_r2 p1)), .val (.ref b2), .val (.ref b9), .unset] [(.int (own_r2 p1))])) _
          refine st16 _ ?_
          show Steps p.tables e below (T16.setTop (mkF m 99 #[.val (.int p1), .val (.int p2), .val (.int p3), .val (.int p4), .val (.int p5), .val (.int (own_r1 p1)), .val (.int (own_r2 p1)), .val (.ref b2), .val (.ref b9), .unset] [(.int (own_depth (own_r2 p1)))])) _
          refine XS.iload X16.here hx rfl (hb hby at_99) rfl ?_
          show Steps p.tables e below (T16.setTop (mkF m 101 #[.val (.int p1), .val (.int p2), .val (.int p3), .val (.int p4), .val (.int p5), .val (.int (own_r1 p1)), .val (.int (own_r2 p1)), .val (.ref b2), .val (.ref b9), .unset] [(.int (own_r1 p1)), (.int (own_depth (own_r2 p1)))])) _
          refine st17 _ ?_
          show Steps p.tables e below (T17.setTop (mkF m 104 #[.val (.int p1), .val (.int p2), .val (.int p3), .val (.int p4), .val (.int p5), .val (.int (own_r1 p1)), .val (.int (own_r2 p1)), .val (.ref b2), .val (.ref b9), .unset] [(.int (own_depth (own_r1 p1))), (.int (own_depth (own_r2 p1)))])) _
          refine XS.icmpNo X17.here hx rfl (hb hby at_104) rfl (tlt hD).2.2.2 ?_
          show Steps p.tables e below (T17.setTop (mkF m 107 #[.val (.int p1), .val (.int p2), .val (.int p3), .val (.int p4), .val (.int p5), .val (.int (own_r1 p1)), .val (.int (own_r2 p1)), .val (.ref b2), .val (.ref b9), .unset] [])) _
          refine XS.iconst X17.here hx rfl (hb hby at_107) ?_
          show Steps p.tables e below (T17.setTop (mkF m 108 #[.val (.int p1), .val (.int p2), .val (.int p3), .val (.int p4), .val (.int p5), .val (.int (own_r1 p1)), .val (.int (own_r2 p1)), .val (.ref b2), .val (.ref b9), .unset] [(.int (1 : Int32))])) _
          refine XS.goto X17.here hx rfl (pc0 := 108) (pc' := 112) rfl (hb hby at_108) (by decide) (by decide) ?_
          show Steps p.tables e below (T17.setTop (mkF m 112 #[.val (.int p1), .val (.int p2), .val (.int p3), .val (.int p4), .val (.int p5), .val (.int (own_r1 p1)), .val (.int (own_r2 p1)), .val (.ref b2), .val (.ref b9), .unset] [(.int (1 : Int32))])) _
          refine XS.istore X17.here hx rfl (hb hby at_112) rfl (l' := #[.val (.int p1), .val (.int p2), .val (.int p3), .val (.int p4), .val (.int p5), .val (.int (own_r1 p1)), .val (.int (own_r2 p1)), .val (.ref b2), .val (.ref b9), .val (.int (1 : Int32))]) rfl ?_
          show Steps p.tables e below (T17.setTop (mkF m 114 #[.val (.int p1), .val (.int p2), .val (.int p3), .val (.int p4), .val (.int p5), .val (.int (own_r1 p1)), .val (.int (own_r2 p1)), .val (.ref b2), .val (.ref b9), .val (.int (1 : Int32))] [])) _
          refine XS.aload X17.here hx rfl (hb hby at_114) rfl rfl ?_
          show Steps p.tables e below (T17.setTop (mkF m 116 #[.val (.int p1), .val (.int p2), .val (.int p3), .val (.int p4), .val (.int p5), .val (.int (own_r1 p1)), .val (.int (own_r2 p1)), .val (.ref b2), .val (.ref b9), .val (.int (1 : Int32))] [(.ref b2)])) _
          refine XS.aload X17.here hx rfl (hb hby at_116) rfl rfl ?_
          show Steps p.tables e below (T17.setTop (mkF m 118 #[.val (.int p1), .val (.int p2), .val (.int p3), .val (.int p4), .val (.int p5), .val (.int (own_r1 p1)), .val (.int (own_r2 p1)), .val (.ref b2), .val (.ref b9), .val (.int (1 : Int32))] [(.ref b9), (.ref b2)])) _
          refine st18.trans ?_
          show Steps p.tables e below (T18.setTop (mkF m 121 #[.val (.int p1), .val (.int p2), .val (.int p3), .val (.int p4), .val (.int p5), .val (.int (own_r1 p1)), .val (.int (own_r2 p1)), .val (.ref b2), .val (.ref b9), .val (.int (1 : Int32))] [(.int (own_holds p2 p3 (own_lev (own_idx (own_r1 p1))) p4 p5 (own_lev (own_idx (own_r2 p1)))))])) _
          refine XS.iload X18.here hx rfl (hb hby at_121) rfl ?_
          show Steps p.tables e below (T18.setTop (mkF m 123 #[.val (.int p1), .val (.int p2), .val (.int p3), .val (.int p4), .val (.int p5), .val (.int (own_r1 p1)), .val (.int (own_r2 p1)), .val (.ref b2), .val (.ref b9), .val (.int (1 : Int32))] [(.int (1 : Int32)), (.int (own_holds p2 p3 (own_lev (own_idx (own_r1 p1))) p4 p5 (own_lev (own_idx (own_r2 p1)))))])) _
          refine XS.icmpNo X18.here hx rfl (hb hby at_123) rfl (teq hv).2 ?_
          show Steps p.tables e below (T18.setTop (mkF m 126 #[.val (.int p1), .val (.int p2), .val (.int p3), .val (.int p4), .val (.int p5), .val (.int (own_r1 p1)), .val (.int (own_r2 p1)), .val (.ref b2), .val (.ref b9), .val (.int (1 : Int32))] [])) _
          refine XS.iconst X18.here hx rfl (hb hby at_126) ?_
          show Steps p.tables e below (T18.setTop (mkF m 127 #[.val (.int p1), .val (.int p2), .val (.int p3), .val (.int p4), .val (.int p5), .val (.int (own_r1 p1)), .val (.int (own_r2 p1)), .val (.ref b2), .val (.ref b9), .val (.int (1 : Int32))] [(.int (1 : Int32))])) _
          refine XS.goto X18.here hx rfl (pc0 := 127) (pc' := 131) rfl (hb hby at_127) (by decide) (by decide) ?_
          show Steps p.tables e below (T18.setTop (mkF m 131 #[.val (.int p1), .val (.int p2), .val (.int p3), .val (.int p4), .val (.int p5), .val (.int (own_r1 p1)), .val (.int (own_r2 p1)), .val (.ref b2), .val (.ref b9), .val (.int (1 : Int32))] [(.int (1 : Int32))])) _
          exact retN X18 hx (t := .boolean) Bd.returns (by simp) (hb hby at_131) hr
        · show Q0 Z p1 p2 p3 p4 p5 h0 n0 _ T18.heap _
          exact ⟨rfl, N18⟩
      · obtain ⟨cq18, kq18, q18a, q18b, q18c⟩ := isOf hZ e17 ((A2.keep KC7).keep Kd8 |>.keep KO)
        obtain ⟨_, _, ⟨T18, L18, k18, n18⟩, -, X18, ⟨Lc18, hQ18, l18, y18, z18⟩, st18⟩ := X17.virtualBack hx (y := (⟨"com/example/planwright/planwright/division/Division", "holds", "(Lcom/example/planwright/planwright/division/Division;)Z"⟩ : MethodName)) (z := (⟨"com/example/planwright/planwright/division/Division", "holds", "(Lcom/example/planwright/planwright/division/Division;)Z"⟩ : MethodName)) hown (mvT hZ (hw _ (List.mem_of_getElem? (i := 67) rfl))) (mvT hZ (hw _ (List.mem_of_getElem? (i := 68) rfl))) (notFace_of_selects (args := #[]) (mvT hZ (hw _ (List.mem_of_getElem? (i := 70) rfl)))) (mvT hZ (hw _ (List.mem_of_getElem? (i := 70) rfl))) (mvT hZ (hw _ (List.mem_of_getElem? (i := 69) rfl))) (by decide) (backOf (W := 0) (rm8 l Z a0 hw [] b2 b9 p2 p3 (own_lev (own_idx (own_r1 p1))) p4 p5 (own_lev (own_idx (own_r2 p1))) (cs (own_idx (own_r1 p1))) (cs (own_idx (own_r2 p1))) T15.heap n0 Z15 EX15 Fs15 Fe15 Fr15 Fs8' Fe8' Fr8' (hR15.2 _ i2).1 (hR15.2 _ i2).2 (hR15.2 _ i1).1 (hR15.2 _ i1).2) hZ (hw _ (List.mem_of_getElem? (i := 71) rfl)) (hw _ (List.mem_of_getElem? (i := 2) rfl)) (by decide) (by decide)) q18a q18c (g := (mkF m 118 #[.val (.int p1), .val (.int p2), .val (.int p3), .val (.int p4), .val (.int p5), .val (.int (own_r1 p1)), .val (.int (own_r2 p1)), .val (.ref b2), .val (.ref b9), .val (.int (0 : Int32))] [(.ref b9), (.ref b2)])) rfl (by rw [hml]; rfl) (Steps.refl _) (argsL := [(.ref b9)]) (rest := []) (lenOf own_pd5 rfl) rfl (by show 2 * 0 + _ ≤ _; exact Nat.le_of_eq rfl) (hb hby at_118) (fun _ _ => ⟨rfl, e17, (by decide : 12 + 0 ≤ _), (by decide : 36 + 0 ≤ _)⟩)
        dsimp only [Pt.U, Pt.locs, Pt.cells, Pt.slots] at X18 l18 y18 z18 st18 hQ18
        subst l18 y18 z18
        obtain ⟨rfl, N18q, e18⟩ := hQ18
        have N18 := Fr.app N17 N18q
        have hk18 : k12 ≤ T18.heap.size := by rw [e18]; exact hk15
        have hv : (own_holds p2 p3 (own_lev (own_idx (own_r1 p1))) p4 p5 (own_lev (own_idx (own_r2 p1)))) = (0 : Int32) := own_h3 hA hB (by rw [own_dr1, own_dr2]; exact hD)
        obtain ⟨fs, hr, hrun, hended, hEnd⟩ := X18.leaveW hS hk18 (v := some (.int (1 : Int32))) (fun h => by rw [Bd.returns] at h; cases h)
        refine ⟨_, _, pre0 _ ?_, hrun, hended, _, _, rfl, ?_, ⟨hEnd.1, hEnd.2.1, hEnd.2.2.1, hEnd.2.2.2.mono (by decide) (by decide)⟩⟩
        · show Steps p.tables e below (s₁.setTop (mkF m 0 #[.val (.int p1), .val (.int p2), .val (.int p3), .val (.int p4), .val (.int p5), .unset, .unset, .unset, .unset, .unset] [])) _
          refine XS.iloadN X0.here hx rfl (hb hby at_0) rfl ?_
          show Steps p.tables e below (s₁.setTop (mkF m 1 #[.val (.int p1), .val (.int p2), .val (.int p3), .val (.int p4), .val (.int p5), .unset, .unset, .unset, .unset, .unset] [(.int p1)])) _
          refine XS.bipush X0.here hx rfl (hb hby at_1) ?_
          show Steps p.tables e below (s₁.setTop (mkF m 3 #[.val (.int p1), .val (.int p2), .val (.int p3), .val (.int p4), .val (.int p5), .unset, .unset, .unset, .unset, .unset] [(.int (7 : Int32)), (.int p1)])) _
          refine XS.iand X0.here hx rfl (hb hby at_3) rfl ?_
          show Steps p.tables e below (s₁.setTop (mkF m 4 #[.val (.int p1), .val (.int p2), .val (.int p3), .val (.int p4), .val (.int p5), .unset, .unset, .unset, .unset, .unset] [(.int (own_r1 p1))])) _
          refine XS.istore X0.here hx rfl (hb hby at_4) rfl (l' := #[.val (.int p1), .val (.int p2), .val (.int p3), .val (.int p4), .val (.int p5), .val (.int (own_r1 p1)), .unset, .unset, .unset, .unset]) rfl ?_
          show Steps p.tables e below (s₁.setTop (mkF m 6 #[.val (.int p1), .val (.int p2), .val (.int p3), .val (.int p4), .val (.int p5), .val (.int (own_r1 p1)), .unset, .unset, .unset, .unset] [])) _
          refine XS.iloadN X0.here hx rfl (hb hby at_6) rfl ?_
          show Steps p.tables e below (s₁.setTop (mkF m 7 #[.val (.int p1), .val (.int p2), .val (.int p3), .val (.int p4), .val (.int p5), .val (.int (own_r1 p1)), .unset, .unset, .unset, .unset] [(.int p1)])) _
          refine XS.iconst X0.here hx rfl (hb hby at_7) ?_
          show Steps p.tables e below (s₁.setTop (mkF m 8 #[.val (.int p1), .val (.int p2), .val (.int p3), .val (.int p4), .val (.int p5), .val (.int (own_r1 p1)), .unset, .unset, .unset, .unset] [(.int (3 : Int32)), (.int p1)])) _
          refine XS.iushr X0.here hx rfl (hb hby at_8) rfl ?_
          show Steps p.tables e below (s₁.setTop (mkF m 9 #[.val (.int p1), .val (.int p2), .val (.int p3), .val (.int p4), .val (.int p5), .val (.int (own_r1 p1)), .unset, .unset, .unset, .unset] [(.int ((p1.toUInt32 >>> ((3 : Int32) &&& 31).toUInt32).toInt32))])) _
          refine XS.bipush X0.here hx rfl (hb hby at_9) ?_
          show Steps p.tables e below (s₁.setTop (mkF m 11 #[.val (.int p1), .val (.int p2), .val (.int p3), .val (.int p4), .val (.int p5), .val (.int (own_r1 p1)), .unset, .unset, .unset, .unset] [(.int (7 : Int32)), (.int ((p1.toUInt32 >>> ((3 : Int32) &&& 31).toUInt32).toInt32))])) _
          refine XS.iand X0.here hx rfl (hb hby at_11) rfl ?_
          show Steps p.tables e below (s₁.setTop (mkF m 12 #[.val (.int p1), .val (.int p2), .val (.int p3), .val (.int p4), .val (.int p5), .val (.int (own_r1 p1)), .unset, .unset, .unset, .unset] [(.int (own_r2 p1))])) _
          refine XS.istore X0.here hx rfl (hb hby at_12) rfl (l' := #[.val (.int p1), .val (.int p2), .val (.int p3), .val (.int p4), .val (.int p5), .val (.int (own_r1 p1)), .val (.int (own_r2 p1)), .unset, .unset, .unset]) rfl ?_
          show Steps p.tables e below (s₁.setTop (mkF m 14 #[.val (.int p1), .val (.int p2), .val (.int p3), .val (.int p4), .val (.int p5), .val (.int (own_r1 p1)), .val (.int (own_r2 p1)), .unset, .unset, .unset] [])) _
          refine st2 _ ?_
          show Steps p.tables e below (T2.setTop (mkF m 17 #[.val (.int p1), .val (.int p2), .val (.int p3), .val (.int p4), .val (.int p5), .val (.int (own_r1 p1)), .val (.int (own_r2 p1)), .unset, .unset, .unset] [(.ref b2)])) _
          refine XS.dup X2.here hx rfl (hb hby at_17) rfl rfl ?_
          show Steps p.tables e below (T2.setTop (mkF m 18 #[.val (.int p1), .val (.int p2), .val (.int p3), .val (.int p4), .val (.int p5), .val (.int (own_r1 p1)), .val (.int (own_r2 p1)), .unset, .unset, .unset] [(.ref b2), (.ref b2)])) _
          refine XS.iload X2.here hx rfl (hb hby at_18) rfl ?_
          show Steps p.tables e below (T2.setTop (mkF m 20 #[.val (.int p1), .val (.int p2), .val (.int p3), .val (.int p4), .val (.int p5), .val (.int (own_r1 p1)), .val (.int (own_r2 p1)), .unset, .unset, .unset] [(.int (own_r1 p1)), (.ref b2), (.ref b2)])) _
          refine st3 _ ?_
          show Steps p.tables e below (T3.setTop (mkF m 23 #[.val (.int p1), .val (.int p2), .val (.int p3), .val (.int p4), .val (.int p5), .val (.int (own_r1 p1)), .val (.int (own_r2 p1)), .unset, .unset, .unset] [(.ref (cs (own_idx (own_r1 p1)))), (.ref b2), (.ref b2)])) _
          refine st4 _ ?_
          show Steps p.tables e below (T4.setTop (mkF m 25 #[.val (.int p1), .val (.int p2), .val (.int p3), .val (.int p4), .val (.int p5), .val (.int (own_r1 p1)), .val (.int (own_r2 p1)), .unset, .unset, .unset] [(.ref a4), (.ref (cs (own_idx (own_r1 p1)))), (.ref b2), (.ref b2)])) _
          refine st5 _ ?_
          show Steps p.tables e below (T5.setTop (mkF m 27 #[.val (.int p1), .val (.int p2), .val (.int p3), .val (.int p4), .val (.int p5), .val (.int (own_r1 p1)), .val (.int (own_r2 p1)), .unset, .unset, .unset] [(.ref a5), (.ref a4), (.ref (cs (own_idx (own_r1 p1)))), (.ref b2), (.ref b2)])) _
          refine XS.iloadN X5.here hx rfl (hb hby at_27) rfl ?_
          show Steps p.tables e below (T5.setTop (mkF m 28 #[.val (.int p1), .val (.int p2), .val (.int p3), .val (.int p4), .val (.int p5), .val (.int (own_r1 p1)), .val (.int (own_r2 p1)), .unset, .unset, .unset] [(.int p2), (.ref a5), (.ref a4), (.ref (cs (own_idx (own_r1 p1)))), (.ref b2), (.ref b2)])) _
          refine XS.iloadN X5.here hx rfl (hb hby at_28) rfl ?_
          show Steps p.tables e below (T5.setTop (mkF m 29 #[.val (.int p1), .val (.int p2), .val (.int p3), .val (.int p4), .val (.int p5), .val (.int (own_r1 p1)), .val (.int (own_r2 p1)), .unset, .unset, .unset] [(.int p2), (.int p2), (.ref a5), (.ref a4), (.ref (cs (own_idx (own_r1 p1)))), (.ref b2), (.ref b2)])) _
          refine XS.iloadN X5.here hx rfl (hb hby at_29) rfl ?_
          show Steps p.tables e below (T5.setTop (mkF m 30 #[.val (.int p1), .val (.int p2), .val (.int p3), .val (.int p4), .val (.int p5), .val (.int (own_r1 p1)), .val (.int (own_r2 p1)), .unset, .unset, .unset] [(.int p3), (.int p2), (.int p2), (.ref a5), (.ref a4), (.ref (cs (own_idx (own_r1 p1)))), (.ref b2), (.ref b2)])) _
          refine st6 _ ?_
          show Steps p.tables e below (T6.setTop (mkF m 33 #[.val (.int p1), .val (.int p2), .val (.int p3), .val (.int p4), .val (.int p5), .val (.int (own_r1 p1)), .val (.int (own_r2 p1)), .unset, .unset, .unset] [(.ref l6), (.int p3), (.int p2), (.int p2), (.ref a5), (.ref a4), (.ref (cs (own_idx (own_r1 p1)))), (.ref b2), (.ref b2)])) _
          refine XS.dup X6.here hx rfl (hb hby at_33) rfl rfl ?_
          show Steps p.tables e below (T6.setTop (mkF m 34 #[.val (.int p1), .val (.int p2), .val (.int p3), .val (.int p4), .val (.int p5), .val (.int (own_r1 p1)), .val (.int (own_r2 p1)), .unset, .unset, .unset] [(.ref l6), (.ref l6), (.int p3), (.int p2), (.int p2), (.ref a5), (.ref a4), (.ref (cs (own_idx (own_r1 p1)))), (.ref b2), (.ref b2)])) _
          refine st7.trans ?_
          show Steps p.tables e below (T7.setTop (mkF m 37 #[.val (.int p1), .val (.int p2), .val (.int p3), .val (.int p4), .val (.int p5), .val (.int (own_r1 p1)), .val (.int (own_r2 p1)), .unset, .unset, .unset] [(.ref l6), (.int p3), (.int p2), (.int p2), (.ref a5), (.ref a4), (.ref (cs (own_idx (own_r1 p1)))), (.ref b2), (.ref b2)])) _
          refine st8.trans ?_
          show Steps p.tables e below (T8.setTop (mkF m 40 #[.val (.int p1), .val (.int p2), .val (.int p3), .val (.int p4), .val (.int p5), .val (.int (own_r1 p1)), .val (.int (own_r2 p1)), .unset, .unset, .unset] [(.ref b2)])) _
          refine XS.astore X8.here hx rfl (hb hby at_40) rfl rfl (l' := #[.val (.int p1), .val (.int p2), .val (.int p3), .val (.int p4), .val (.int p5), .val (.int (own_r1 p1)), .val (.int (own_r2 p1)), .val (.ref b2), .unset, .unset]) rfl ?_
          show Steps p.tables e below (T8.setTop (mkF m 42 #[.val (.int p1), .val (.int p2), .val (.int p3), .val (.int p4), .val (.int p5), .val (.int (own_r1 p1)), .val (.int (own_r2 p1)), .val (.ref b2), .unset, .unset] [])) _
          refine st9 _ ?_
          show Steps p.tables e below (T9.setTop (mkF m 45 #[.val (.int p1), .val (.int p2), .val (.int p3), .val (.int p4), .val (.int p5), .val (.int (own_r1 p1)), .val (.int (own_r2 p1)), .val (.ref b2), .unset, .unset] [(.ref b9)])) _
          refine XS.dup X9.here hx rfl (hb hby at_45) rfl rfl ?_
          show Steps p.tables e below (T9.setTop (mkF m 46 #[.val (.int p1), .val (.int p2), .val (.int p3), .val (.int p4), .val (.int p5), .val (.int (own_r1 p1)), .val (.int (own_r2 p1)), .val (.ref b2), .unset, .unset] [(.ref b9), (.ref b9)])) _
          refine XS.iload X9.here hx rfl (hb hby at_46) rfl ?_
          show Steps p.tables e below (T9.setTop (mkF m 48 #[.val (.int p1), .val (.int p2), .val (.int p3), .val (.int p4), .val (.int p5), .val (.int (own_r1 p1)), .val (.int (own_r2 p1)), .val (.ref b2), .unset, .unset] [(.int (own_r2 p1)), (.ref b9), (.ref b9)])) _
          refine st10 _ ?_
          show Steps p.tables e below (T10.setTop (mkF m 51 #[.val (.int p1), .val (.int p2), .val (.int p3), .val (.int p4), .val (.int p5), .val (.int (own_r1 p1)), .val (.int (own_r2 p1)), .val (.ref b2), .unset, .unset] [(.ref (cs (own_idx (own_r2 p1)))), (.ref b9), (.ref b9)])) _
          refine st11 _ ?_
          show Steps p.tables e below (T11.setTop (mkF m 53 #[.val (.int p1), .val (.int p2), .val (.int p3), .val (.int p4), .val (.int p5), .val (.int (own_r1 p1)), .val (.int (own_r2 p1)), .val (.ref b2), .unset, .unset] [(.ref a11), (.ref (cs (own_idx (own_r2 p1)))), (.ref b9), (.ref b9)])) _
          refine st12 _ ?_
          show Steps p.tables e below (T12.setTop (mkF m 55 #[.val (.int p1), .val (.int p2), .val (.int p3), .val (.int p4), .val (.int p5), .val (.int (own_r1 p1)), .val (.int (own_r2 p1)), .val (.ref b2), .unset, .unset] [(.ref a12), (.ref a11), (.ref (cs (own_idx (own_r2 p1)))), (.ref b9), (.ref b9)])) _
          refine XS.iloadN X12.here hx rfl (hb hby at_55) rfl ?_
          show Steps p.tables e below (T12.setTop (mkF m 56 #[.val (.int p1), .val (.int p2), .val (.int p3), .val (.int p4), .val (.int p5), .val (.int (own_r1 p1)), .val (.int (own_r2 p1)), .val (.ref b2), .unset, .unset] [(.int p4), (.ref a12), (.ref a11), (.ref (cs (own_idx (own_r2 p1)))), (.ref b9), (.ref b9)])) _
          refine XS.iloadN X12.here hx rfl (hb hby at_56) rfl ?_
          show Steps p.tables e below (T12.setTop (mkF m 57 #[.val (.int p1), .val (.int p2), .val (.int p3), .val (.int p4), .val (.int p5), .val (.int (own_r1 p1)), .val (.int (own_r2 p1)), .val (.ref b2), .unset, .unset] [(.int p4), (.int p4), (.ref a12), (.ref a11), (.ref (cs (own_idx (own_r2 p1)))), (.ref b9), (.ref b9)])) _
          refine XS.iload X12.here hx rfl (hb hby at_57) rfl ?_
          show Steps p.tables e below (T12.setTop (mkF m 59 #[.val (.int p1), .val (.int p2), .val (.int p3), .val (.int p4), .val (.int p5), .val (.int (own_r1 p1)), .val (.int (own_r2 p1)), .val (.ref b2), .unset, .unset] [(.int p5), (.int p4), (.int p4), (.ref a12), (.ref a11), (.ref (cs (own_idx (own_r2 p1)))), (.ref b9), (.ref b9)])) _
          refine st13 _ ?_
          show Steps p.tables e below (T13.setTop (mkF m 62 #[.val (.int p1), .val (.int p2), .val (.int p3), .val (.int p4), .val (.int p5), .val (.int (own_r1 p1)), .val (.int (own_r2 p1)), .val (.ref b2), .unset, .unset] [(.ref l13), (.int p5), (.int p4), (.int p4), (.ref a12), (.ref a11), (.ref (cs (own_idx (own_r2 p1)))), (.ref b9), (.ref b9)])) _
          refine XS.dup X13.here hx rfl (hb hby at_62) rfl rfl ?_
          show Steps p.tables e below (T13.setTop (mkF m 63 #[.val (.int p1), .val (.int p2), .val (.int p3), .val (.int p4), .val (.int p5), .val (.int (own_r1 p1)), .val (.int (own_r2 p1)), .val (.ref b2), .unset, .unset] [(.ref l13), (.ref l13), (.int p5), (.int p4), (.int p4), (.ref a12), (.ref a11), (.ref (cs (own_idx (own_r2 p1)))), (.ref b9), (.ref b9)])) _
          refine st14.trans ?_
          show Steps p.tables e below (T14.setTop (mkF m 66 #[.val (.int p1), .val (.int p2), .val (.int p3), .val (.int p4), .val (.int p5), .val (.int (own_r1 p1)), .val (.int (own_r2 p1)), .val (.ref b2), .unset, .unset] [(.ref l13), (.int p5), (.int p4), (.int p4), (.ref a12), (.ref a11), (.ref (cs (own_idx (own_r2 p1)))), (.ref b9), (.ref b9)])) _
          refine st15.trans ?_
          show Steps p.tables e below (T15.setTop (mkF m 69 #[.val (.int p1), .val (.int p2), .val (.int p3), .val (.int p4), .val (.int p5), .val (.int (own_r1 p1)), .val (.int (own_r2 p1)), .val (.ref b2), .unset, .unset] [(.ref b9)])) _
          refine XS.astore X15.here hx rfl (hb hby at_69) rfl rfl (l' := #[.val (.int p1), .val (.int p2), .val (.int p3), .val (.int p4), .val (.int p5), .val (.int (own_r1 p1)), .val (.int (own_r2 p1)), .val (.ref b2), .val (.ref b9), .unset]) rfl ?_
          show Steps p.tables e below (T15.setTop (mkF m 71 #[.val (.int p1), .val (.int p2), .val (.int p3), .val (.int p4), .val (.int p5), .val (.int (own_r1 p1)), .val (.int (own_r2 p1)), .val (.ref b2), .val (.ref b9), .unset] [])) _
          refine XS.iloadN X15.here hx rfl (hb hby at_71) rfl ?_
          show Steps p.tables e below (T15.setTop (mkF m 72 #[.val (.int p1), .val (.int p2), .val (.int p3), .val (.int p4), .val (.int p5), .val (.int (own_r1 p1)), .val (.int (own_r2 p1)), .val (.ref b2), .val (.ref b9), .unset] [(.int p4)])) _
          refine XS.iloadN X15.here hx rfl (hb hby at_72) rfl ?_
          show Steps p.tables e below (T15.setTop (mkF m 73 #[.val (.int p1), .val (.int p2), .val (.int p3), .val (.int p4), .val (.int p5), .val (.int (own_r1 p1)), .val (.int (own_r2 p1)), .val (.ref b2), .val (.ref b9), .unset] [(.int p2), (.int p4)])) _
          refine XS.icmpYes X15.here hx rfl (pc0 := 73) (pc' := 82) rfl (hb hby at_73) rfl (flt hA).2.1 (by decide) (by decide) ?_
          show Steps p.tables e below (T15.setTop (mkF m 82 #[.val (.int p1), .val (.int p2), .val (.int p3), .val (.int p4), .val (.int p5), .val (.int (own_r1 p1)), .val (.int (own_r2 p1)), .val (.ref b2), .val (.ref b9), .unset] [])) _
          refine XS.iload X15.here hx rfl (hb hby at_82) rfl ?_
          show Steps p.tables e below (T15.setTop (mkF m 84 #[.val (.int p1), .val (.int p2), .val (.int p3), .val (.int p4), .val (.int p5), .val (.int (own_r1 p1)), .val (.int (own_r2 p1)), .val (.ref b2), .val (.ref b9), .unset] [(.int p5)])) _
          refine XS.iloadN X15.here hx rfl (hb hby at_84) rfl ?_
          show Steps p.tables e below (T15.setTop (mkF m 85 #[.val (.int p1), .val (.int p2), .val (.int p3), .val (.int p4), .val (.int p5), .val (.int (own_r1 p1)), .val (.int (own_r2 p1)), .val (.ref b2), .val (.ref b9), .unset] [(.int p3), (.int p5)])) _
          refine XS.icmpYes X15.here hx rfl (pc0 := 85) (pc' := 94) rfl (hb hby at_85) rfl (flt hB).2.2.2 (by decide) (by decide) ?_
          show Steps p.tables e below (T15.setTop (mkF m 94 #[.val (.int p1), .val (.int p2), .val (.int p3), .val (.int p4), .val (.int p5), .val (.int (own_r1 p1)), .val (.int (own_r2 p1)), .val (.ref b2), .val (.ref b9), .unset] [])) _
          refine XS.iload X15.here hx rfl (hb hby at_94) rfl ?_
          show Steps p.tables e below (T15.setTop (mkF m 96 #[.val (.int p1), .val (.int p2), .val (.int p3), .val (.int p4), .val (.int p5), .val (.int (own_r1 p1)), .val (.int (own_r2 p1)), .val (.ref b2), .val (.ref b9), .unset] [(.int (own_r2 p1))])) _
          refine st16 _ ?_
          show Steps p.tables e below (T16.setTop (mkF m 99 #[.val (.int p1), .val (.int p2), .val (.int p3), .val (.int p4), .val (.int p5), .val (.int (own_r1 p1)), .val (.int (own_r2 p1)), .val (.ref b2), .val (.ref b9), .unset] [(.int (own_depth (own_r2 p1)))])) _
          refine XS.iload X16.here hx rfl (hb hby at_99) rfl ?_
          show Steps p.tables e below (T16.setTop (mkF m 101 #[.val (.int p1), .val (.int p2), .val (.int p3), .val (.int p4), .val (.int p5), .val (.int (own_r1 p1)), .val (.int (own_r2 p1)), .val (.ref b2), .val (.ref b9), .unset] [(.int (own_r1 p1)), (.int (own_depth (own_r2 p1)))])) _
          refine st17 _ ?_
          show Steps p.tables e below (T17.setTop (mkF m 104 #[.val (.int p1), .val (.int p2), .val (.int p3), .val (.int p4), .val (.int p5), .val (.int (own_r1 p1)), .val (.int (own_r2 p1)), .val (.ref b2), .val (.ref b9), .unset] [(.int (own_depth (own_r1 p1))), (.int (own_depth (own_r2 p1)))])) _
          refine XS.icmpYes X17.here hx rfl (pc0 := 104) (pc' := 111) rfl (hb hby at_104) rfl (flt hD).2.2.2 (by decide) (by decide) ?_
          show Steps p.tables e below (T17.setTop (mkF m 111 #[.val (.int p1), .val (.int p2), .val (.int p3), .val (.int p4), .val (.int p5), .val (.int (own_r1 p1)), .val (.int (own_r2 p1)), .val (.ref b2), .val (.ref b9), .unset] [])) _
          refine XS.iconst X17.here hx rfl (hb hby at_111) ?_
          show Steps p.tables e below (T17.setTop (mkF m 112 #[.val (.int p1), .val (.int p2), .val (.int p3), .val (.int p4), .val (.int p5), .val (.int (own_r1 p1)), .val (.int (own_r2 p1)), .val (.ref b2), .val (.ref b9), .unset] [(.int (0 : Int32))])) _
          refine XS.istore X17.here hx rfl (hb hby at_112) rfl (l' := #[.val (.int p1), .val (.int p2), .val (.int p3), .val (.int p4), .val (.int p5), .val (.int (own_r1 p1)), .val (.int (own_r2 p1)), .val (.ref b2), .val (.ref b9), .val (.int (0 : Int32))]) rfl ?_
          show Steps p.tables e below (T17.setTop (mkF m 114 #[.val (.int p1), .val (.int p2), .val (.int p3), .val (.int p4), .val (.int p5), .val (.int (own_r1 p1)), .val (.int (own_r2 p1)), .val (.ref b2), .val (.ref b9), .val (.int (0 : Int32))] [])) _
          refine XS.aload X17.here hx rfl (hb hby at_114) rfl rfl ?_
          show Steps p.tables e below (T17.setTop (mkF m 116 #[.val (.int p1), .val (.int p2), .val (.int p3), .val (.int p4), .val (.int p5), .val (.int (own_r1 p1)), .val (.int (own_r2 p1)), .val (.ref b2), .val (.ref b9), .val (.int (0 : Int32))] [(.ref b2)])) _
          refine XS.aload X17.here hx rfl (hb hby at_116) rfl rfl ?_
          show Steps p.tables e below (T17.setTop (mkF m 118 #[.val (.int p1), .val (.int p2), .val (.int p3), .val (.int p4), .val (.int p5), .val (.int (own_r1 p1)), .val (.int (own_r2 p1)), .val (.ref b2), .val (.ref b9), .val (.int (0 : Int32))] [(.ref b9), (.ref b2)])) _
          refine st18.trans ?_
          show Steps p.tables e below (T18.setTop (mkF m 121 #[.val (.int p1), .val (.int p2), .val (.int p3), .val (.int p4), .val (.int p5), .val (.int (own_r1 p1)), .val (.int (own_r2 p1)), .val (.ref b2), .val (.ref b9), .val (.int (0 : Int32))] [(.int (own_holds p2 p3 (own_lev (own_idx (own_r1 p1))) p4 p5 (own_lev (own_idx (own_r2 p1)))))])) _
          refine XS.iload X18.here hx rfl (hb hby at_121) rfl ?_
          show Steps p.tables e below (T18.setTop (mkF m 123 #[.val (.int p1), .val (.int p2), .val (.int p3), .val (.int p4), .val (.int p5), .val (.int (own_r1 p1)), .val (.int (own_r2 p1)), .val (.ref b2), .val (.ref b9), .val (.int (0 : Int32))] [(.int (0 : Int32)), (.int (own_holds p2 p3 (own_lev (own_idx (own_r1 p1))) p4 p5 (own_lev (own_idx (own_r2 p1)))))])) _
          refine XS.icmpNo X18.here hx rfl (hb hby at_123) rfl (teq hv).2 ?_
          show Steps p.tables e below (T18.setTop (mkF m 126 #[.val (.int p1), .val (.int p2), .val (.int p3), .val (.int p4), .val (.int p5), .val (.int (own_r1 p1)), .val (.int (own_r2 p1)), .val (.ref b2), .val (.ref b9), .val (.int (0 : Int32))] [])) _
          refine XS.iconst X18.here hx rfl (hb hby at_126) ?_
          show Steps p.tables e below (T18.setTop (mkF m 127 #[.val (.int p1), .val (.int p2), .val (.int p3), .val (.int p4), .val (.int p5), .val (.int (own_r1 p1)), .val (.int (own_r2 p1)), .val (.ref b2), .val (.ref b9), .val (.int (0 : Int32))] [(.int (1 : Int32))])) _
          refine XS.goto X18.here hx rfl (pc0 := 127) (pc' := 131) rfl (hb hby at_127) (by decide) (by decide) ?_
          show Steps p.tables e below (T18.setTop (mkF m 131 #[.val (.int p1), .val (.int p2), .val (.int p3), .val (.int p4), .val (.int p5), .val (.int (own_r1 p1)), .val (.int (own_r2 p1)), .val (.ref b2), .val (.ref b9), .val (.int (0 : Int32))] [(.int (1 : Int32))])) _
          exact retN X18 hx (t := .boolean) Bd.returns (by simp) (hb hby at_131) hr
        · show Q0 Z p1 p2 p3 p4 p5 h0 n0 _ T18.heap _
          exact ⟨rfl, N18⟩
set_option maxRecDepth 65536 in
set_option maxHeartbeats 40000000 in
theorem comes_1 {Post : Tables → Env → Array Value → State → Outcome → State → Prop} (hpost : ∀ tb e args s v u, (limb_1_1.after args s (.returned v) u = true ∧ limb_1_2.after args s (.returned v) u = true ∧ True) → ReturnedEndW s (.returned v) u (Jvm.fieldLocs frame_1_writes args s ++ Jvm.arrayLocs frame_1_arrays args s ++ Jvm.staticLocs frame_1_statics s) 24 1152 → Post tb e args s (.returned v) u) :
    ArmFor flags0 classFile x code maxLocals ret World_1 tables_1 room_1 Calls_1 rest_1 Pre_1 Post := by
  intro l hfl _ _ p e ha hc hk s m args below hf hA hF happ hP
  obtain ⟨hcalls, hrest, hpre⟩ := hP
  obtain ⟨-, -, -, hnamed, -, -, -, hat⟩ := (Spec.applies_iff hf).mp happ
  obtain ⟨hg, hn⟩ := and_e (Cond.before_iff.mp (show (Jvm.Cond.and given_1 narrow_1).before args s = true from hpre))
  obtain ⟨g1, g2⟩ := and_e hg
  obtain ⟨h3, g3⟩ := and_e g2
  obtain ⟨h4, g4⟩ := and_e g3
  obtain ⟨h5, g5⟩ := and_e g4
  obtain ⟨h6, h7⟩ := and_e g5
  obtain ⟨w0, w1, w2, w3, w4, rfl⟩ : ∃ w0 w1 w2 w3 w4 : Value, args = #[w0, w1, w2, w3, w4] := by
    have hs : args.size = 5 := by simpa [Cond.value, given_1] using g1
    obtain ⟨L⟩ := args
    match L, hs with
    | [w0, w1, w2, w3, w4], _ => exact ⟨w0, w1, w2, w3, w4, rfl⟩
  have hw := fun d (hd : d ∈ tables_1) => atoms_spec (ws := Jvm.Cond.code x code maxLocals ret :: tables_1) hat d (List.mem_cons_of_mem _ hd)
  obtain ⟨x0, y0⟩ := and_e hn
  obtain ⟨x1, y1⟩ := and_e y0
  obtain ⟨x2, y2⟩ := and_e y1
  obtain ⟨x3, y3⟩ := and_e y2
  obtain ⟨x4, y4⟩ := and_e y3
  obtain ⟨x5, y5⟩ := and_e y4
  obtain ⟨x6, y6⟩ := and_e y5
  obtain ⟨x7, y7⟩ := and_e y6
  obtain ⟨x8, y8⟩ := and_e y7
  obtain ⟨x9, y9⟩ := and_e y8
  obtain ⟨x10, y10⟩ := and_e y9
  obtain ⟨x11, y11⟩ := and_e y10
  obtain ⟨x12, y12⟩ := and_e y11
  obtain ⟨x13, y13⟩ := and_e y12
  obtain ⟨x14, y14⟩ := and_e y13
  obtain ⟨c0, S0, E0, F0⟩ := own_rk x0 x2 (hw _ (List.mem_of_getElem? (i := 8) rfl)) (hw _ (List.mem_of_getElem? (i := 9) rfl))
  obtain ⟨c1, S1, E1, F1⟩ := own_rk x7 x8 (hw _ (List.mem_of_getElem? (i := 8) rfl)) (hw _ (List.mem_of_getElem? (i := 106) rfl))
  obtain ⟨c2, S2, E2, F2⟩ := own_rk x5 x9 (hw _ (List.mem_of_getElem? (i := 8) rfl)) (hw _ (List.mem_of_getElem? (i := 102) rfl))
  obtain ⟨c3, S3, E3, F3⟩ := own_rk x1 x3 (hw _ (List.mem_of_getElem? (i := 8) rfl)) (hw _ (List.mem_of_getElem? (i := 78) rfl))
  obtain ⟨c4, S4, E4, F4⟩ := own_rk x12 x14 (hw _ (List.mem_of_getElem? (i := 8) rfl)) (hw _ (List.mem_of_getElem? (i := 110) rfl))
  obtain ⟨c5, S5, E5, F5⟩ := own_rk x10 x11 (hw _ (List.mem_of_getElem? (i := 8) rfl)) (hw _ (List.mem_of_getElem? (i := 108) rfl))
  obtain ⟨c6, S6, E6, F6⟩ := own_rk x6 y14 (hw _ (List.mem_of_getElem? (i := 8) rfl)) (hw _ (List.mem_of_getElem? (i := 104) rfl))
  obtain ⟨c7, S7, E7, F7⟩ := own_rk x4 x13 (hw _ (List.mem_of_getElem? (i := 8) rfl)) (hw _ (List.mem_of_getElem? (i := 100) rfl))
  obtain ⟨hsets, hown0⟩ := atoms_of _ (rest_1_c_eq ▸ (show rest_1_c.before _ s = true from hrest))
  obtain ⟨w, evw⟩ := exa_v (Cond.before_iff.mp (hsets _ (List.mem_of_getElem? (i := 7) rfl)))
  have SD := Sta.start evw (Or.inr ⟨(hw _ (List.mem_of_getElem? (i := 20) rfl)), (hsets _ (List.mem_of_getElem? (i := 2) rfl))⟩)
  have hR : own_Rk s s.heap (fun i => match i with | 0 => c0 | 1 => c1 | 2 => c2 | 3 => c3 | 4 => c4 | 5 => c5 | 6 => c6 | _ => c7) := ⟨⟨S0, S1, S2, S3, S4, S5, S6, S7⟩, fun i hi => by
    match i, hi with
    | 0, _ => exact ⟨E0, F0⟩
    | 1, _ => exact ⟨E1, F1⟩
    | 2, _ => exact ⟨E2, F2⟩
    | 3, _ => exact ⟨E3, F3⟩
    | 4, _ => exact ⟨E4, F4⟩
    | 5, _ => exact ⟨E5, F5⟩
    | 6, _ => exact ⟨E6, F6⟩
    | 7, _ => exact ⟨E7, F7⟩⟩
  obtain ⟨i0, ei0⟩ := is_v h3
  obtain rfl : w0 = (.int i0) := Option.some.inj ei0
  obtain ⟨i1, ei1⟩ := is_v h4
  obtain rfl : w1 = (.int i1) := Option.some.inj ei1
  obtain ⟨i2, ei2⟩ := is_v h5
  obtain rfl : w2 = (.int i2) := Option.some.inj ei2
  obtain ⟨i3, ei3⟩ := is_v h6
  obtain rfl : w3 = (.int i3) := Option.some.inj ei3
  obtain ⟨i4, ei4⟩ := is_v h7
  obtain rfl : w4 = (.int i4) := Option.some.inj ei4
  obtain ⟨n, o, h1, h2, h3, _, L, rfl, ⟨rfl, N⟩, hq⟩ := rm0 l s _ hw tables_1 i0 i1 i2 i3 i4 _ w s.heap s.heap.size (Nat.le_refl _) hR SD p e ha hc hk s m _ below hf ((Spec.applies_iff_loose hf).mp happ).1 ⟨rfl, State.Warmed39.refl s, rfl⟩ trivial
  refine ⟨n, _, h1, h2, h3, hpost _ _ _ _ _ _ ⟨Cond.after_iff.mpr rfl, Cond.after_iff.mpr (eq_i res_at (Term.int_eval (1)) rfl), trivial⟩ ⟨hq.1, hq.2.1, hq.2.2.1, (hq.2.2.2.sift fun y hy => Or.inr (N y hy)).mono (by decide) (by decide)⟩⟩
theorem main_1_1 : Claimed_1_1 := comes_1 fun _ _ _ _ _ _ h hF => ⟨h.1, hF⟩
theorem main_1_2 : Claimed_1_2 := comes_1 fun _ _ _ _ _ _ h hF => ⟨h.2.1, hF⟩
end Jvm.Pilot.@@N@@
namespace Jvm.Pilot.@@N@@
open Jvm Jvm.ClassFile Sem Op Lib Jvm.Free Jvm.Stand Jvm.Pilot.@@N@@.Jvm.D
/-! MADE BY PROGRAM (witnessworld.py) out of the Statement's table words and the real class files: 26 classes; the members and pool entries that the words name. The judged class is class 1, her method 3. -/
namespace start1
open Jvm.ClassFile
def u (s : String) : CpInfo := .utf8 (stringToUtf16 s)
/-- a pool by its gaps: so many unusable entries, then the entry; so many at the end -/
def gap : Nat → List CpInfo → List CpInfo
  | 0, r => r
  | n + 1, r => .unusable :: gap n r
def poolList (es : List (Nat × CpInfo)) (last : Nat) : List CpInfo := es.foldr (fun e r => gap e.1 (e.2 :: r)) (gap last [])
def pool (es : List (Nat × CpInfo)) (last : Nat) : Array CpInfo := ⟨poolList es last⟩
def fileOf (pool : Array CpInfo) (this : Nat) (attrs : Array Attribute := #[]) (ms : Array MethodInfo := #[]) (fl : Nat := 33) (sup : Nat := 0) (ifs : Array Nat := #[]) (fds : Array FieldInfo := #[]) : ClassFile where
  minorVersion := 0
  majorVersion := 65
  constantPool := pool
  accessFlags := fl
  thisClass := this
  superClass := sup
  interfaces := ifs
  fields := fds
  methods := ms
  attributes := attrs
def plain (name : String) (sup : Option ClassId) : Class where
  name := name
  kind := .ordinary
  loader := none
  accessFlags := 33
  super := sup
  interfaces := #[]
  cf := none
  fields := #[]
  methods := #[]
  instanceTypes := #[]
  staticTypes := #[]
  resolved := #[]
  callSites := []
  init := .initialized
  statics := none
  mirror := none

def pool0 : Array CpInfo := pool [(5, u "<init>"), (0, u "()V"), (1, .class_ 10), (1, u "java/lang/Object")] 113

def k0c0 : Code := { maxStack := 0, maxLocals := 1, code := object_method_1_code, exceptionTable := #[], attributes := #[] }
def k0m0 : Method := { name := "<init>", desc := "()V", sig := { parameters := [], returnType := none }, accessFlags := 1, code := some k0c0 }
/-- java/lang/Object -/
def k0 : Class := { plain "java/lang/Object" none with
  accessFlags := 33
  interfaces := #[]
  cf := some (fileOf pool0 8 #[] #[{ accessFlags := 1, nameIndex := 5, descriptorIndex := 6, attributes := #[] }] 33 0 #[] #[])
  fields := #[]
  methods := #[k0m0]
  instanceTypes := #[]
  staticTypes := #[]
  resolved := Array.replicate 124 none
  statics := none }

def pool1 : Array CpInfo := pool [(2, .class_ 4), (0, .nameAndType 5 6), (0, u "java/lang/Object"), (0, u "<init>"), (0, u "()V"), (0, .fieldref 8 9), (0, .class_ 10), (0, .nameAndType 11 12), (0, u "com/example/planwright/planwright/division/Rank"), (0, u "ARTICLE"), (0, u "Lcom/example/planwright/planwright/division/Rank;"), (0, .fieldref 8 14), (0, .nameAndType 15 12), (0, u "APPENDIX"), (0, .fieldref 8 17), (0, .nameAndType 18 12), (0, u "SECTION"), (0, .fieldref 8 20), (0, .nameAndType 21 12), (0, u "DEFINITION"), (0, .fieldref 8 23), (0, .nameAndType 24 12), (0, u "NUMBERED_DEFINITION"), (0, .fieldref 8 26), (0, .nameAndType 27 12), (0, u "PARAGRAPH"), (0, .fieldref 8 29), (0, .nameAndType 30 12), (0, u "NUMBERED_PARAGRAPH"), (0, .fieldref 8 32), (0, .nameAndType 33 12), (0, u "SUBPARAGRAPH"), (0, .class_ 35), (0, u "com/example/planwright/planwright/division/Division"), (0, .methodref 37 38), (0, .class_ 39), (0, .nameAndType 40 41), (0, u "com/example/planwright/planwright/division/DivisionHoldsPinLaw"), (0, u "rankOf"), (0, u "(I)Lcom/example/planwright/planwright/division/Rank;"), (0, .string 43), (0, u ""), (0, .class_ 45), (0, u "java/util/ArrayList"), (0, .methodref 44 3), (0, .methodref 34 48), (0, .nameAndType 5 49), (0, u "(Lcom/example/planwright/planwright/division/Rank;Ljava/lang/String;Ljava/lang/String;IIILjava/util/List;)V"), (0, .methodref 37 51), (0, .nameAndType 52 53), (0, u "depth"), (0, u "(I)I"), (0, .methodref 34 55), (0, .nameAndType 56 57), (0, u "holds"), (0, u "(Lcom/example/planwright/planwright/division/Division;)Z"), (3, u "law"), (0, u "(IIIII)Z")] 2

def k1m0 : Method := { name := "<init>", desc := "()V", sig := { parameters := [], returnType := none }, accessFlags := 1, code := none }
def k1c1 : Code := { maxStack := 2, maxLocals := 1, code := method_2_code, exceptionTable := #[], attributes := #[] }
def k1m1 : Method := { name := "rankOf", desc := "(I)Lcom/example/planwright/planwright/division/Rank;", sig := { parameters := [.int], returnType := some (.object "com/example/planwright/planwright/division/Rank") }, accessFlags := 10, code := some k1c1 }
def k1c2 : Code := { maxStack := 2, maxLocals := 1, code := method_3_code, exceptionTable := #[], attributes := #[] }
def k1m2 : Method := { name := "depth", desc := "(I)I", sig := { parameters := [.int], returnType := some .int }, accessFlags := 10, code := some k1c2 }
def k1c3 : Code := { maxStack := 10, maxLocals := 10, code := code, exceptionTable := #[], attributes := #[] }
def k1m3 : Method := { name := "law", desc := "(IIIII)Z", sig := { parameters := [.int, .int, .int, .int, .int], returnType := some .boolean }, accessFlags := 9, code := some k1c3 }
/-- com/example/planwright/planwright/division/DivisionHoldsPinLaw -/
def k1 : Class := { plain "com/example/planwright/planwright/division/DivisionHoldsPinLaw" (some 0) with
  accessFlags := 49
  interfaces := #[]
  cf := some (fileOf pool1 37 #[] #[{ accessFlags := 1, nameIndex := 5, descriptorIndex := 6, attributes := #[] }, { accessFlags := 10, nameIndex := 40, descriptorIndex := 41, attributes := #[] }, { accessFlags := 10, nameIndex := 52, descriptorIndex := 53, attributes := #[] }, { accessFlags := 9, nameIndex := 61, descriptorIndex := 62, attributes := #[] }] 49 2 #[] #[])
  fields := #[]
  methods := #[k1m0, k1m1, k1m2, k1m3]
  instanceTypes := #[]
  staticTypes := #[]
  resolved := Array.replicate 65 none
  statics := none }

def pool2 : Array CpInfo := pool [(1, .methodref 2 3), (0, .class_ 4), (0, .nameAndType 5 6), (0, u "java/lang/Object"), (0, u "<init>"), (0, u "()V"), (0, .class_ 8), (0, u "java/lang/Record")] 13

def k2c0 : Code := { maxStack := 1, maxLocals := 1, code := jdk_30_method_1_code, exceptionTable := #[], attributes := #[] }
def k2m0 : Method := { name := "<init>", desc := "()V", sig := { parameters := [], returnType := none }, accessFlags := 4, code := some k2c0 }
/-- java/lang/Record -/
def k2 : Class := { plain "java/lang/Record" (some 0) with
  accessFlags := 1057
  interfaces := #[]
  cf := some (fileOf pool2 7 #[] #[{ accessFlags := 4, nameIndex := 5, descriptorIndex := 6, attributes := #[] }] 1057 2 #[] #[])
  fields := #[]
  methods := #[k2m0]
  instanceTypes := #[]
  staticTypes := #[]
  resolved := Array.replicate 22 none
  statics := none }

def pool3 : Array CpInfo := pool [(1, .methodref 2 3), (0, .class_ 4), (0, .nameAndType 5 6), (0, u "java/lang/Record"), (0, u "<init>"), (0, u "()V"), (0, .fieldref 8 9), (0, .class_ 10), (0, .nameAndType 11 12), (0, u "com/example/planwright/planwright/division/Division"), (0, u "rank"), (0, u "Lcom/example/planwright/planwright/division/Rank;"), (0, .fieldref 8 14), (0, .nameAndType 15 16), (0, u "label"), (0, u "Ljava/lang/String;"), (0, .fieldref 8 18), (0, .nameAndType 19 16), (0, u "heading"), (0, .fieldref 8 21), (0, .nameAndType 22 23), (0, u "start"), (0, u "I"), (0, .fieldref 8 25), (0, .nameAndType 26 23), (0, u "textStart"), (0, .fieldref 8 28), (0, .nameAndType 29 23), (0, u "end"), (0, .fieldref 8 31), (0, .nameAndType 32 33), (0, u "children"), (0, u "Ljava/util/List;"), (7, u "()I"), (31, u "(Lcom/example/planwright/planwright/division/Rank;Ljava/lang/String;Ljava/lang/String;IIILjava/util/List;)V"), (0, .methodref 8 75), (0, .nameAndType 22 41), (0, .methodref 8 77), (0, .nameAndType 29 41), (0, .methodref 8 79), (0, .nameAndType 11 80), (0, u "()Lcom/example/planwright/planwright/division/Rank;"), (0, .methodref 82 83), (0, .class_ 84), (0, .nameAndType 85 41), (0, u "com/example/planwright/planwright/division/Rank"), (0, u "level"), (38, u "holds"), (0, u "(Lcom/example/planwright/planwright/division/Division;)Z")] 31

def k3c0 : Code := { maxStack := 2, maxLocals := 8, code := prog_54_method_1_code, exceptionTable := #[], attributes := #[] }
def k3m0 : Method := { name := "<init>", desc := "(Lcom/example/planwright/planwright/division/Rank;Ljava/lang/String;Ljava/lang/String;IIILjava/util/List;)V", sig := { parameters := [(.object "com/example/planwright/planwright/division/Rank"), (.object "java/lang/String"), (.object "java/lang/String"), .int, .int, .int, (.object "java/util/List")], returnType := none }, accessFlags := 1, code := some k3c0 }
def k3c1 : Code := { maxStack := 2, maxLocals := 2, code := prog_54_method_3_code, exceptionTable := #[], attributes := #[] }
def k3m1 : Method := { name := "holds", desc := "(Lcom/example/planwright/planwright/division/Division;)Z", sig := { parameters := [(.object "com/example/planwright/planwright/division/Division")], returnType := some .boolean }, accessFlags := 1, code := some k3c1 }
def k3c2 : Code := { maxStack := 1, maxLocals := 1, code := prog_54_method_8_code, exceptionTable := #[], attributes := #[] }
def k3m2 : Method := { name := "rank", desc := "()Lcom/example/planwright/planwright/division/Rank;", sig := { parameters := [], returnType := some (.object "com/example/planwright/planwright/division/Rank") }, accessFlags := 1, code := some k3c2 }
def k3c3 : Code := { maxStack := 1, maxLocals := 1, code := prog_54_method_11_code, exceptionTable := #[], attributes := #[] }
def k3m3 : Method := { name := "start", desc := "()I", sig := { parameters := [], returnType := some .int }, accessFlags := 1, code := some k3c3 }
def k3c4 : Code := { maxStack := 1, maxLocals := 1, code := prog_54_method_13_code, exceptionTable := #[], attributes := #[] }
def k3m4 : Method := { name := "end", desc := "()I", sig := { parameters := [], returnType := some .int }, accessFlags := 1, code := some k3c4 }
/-- com/example/planwright/planwright/division/Division -/
def k3 : Class := { plain "com/example/planwright/planwright/division/Division" (some 2) with
  accessFlags := 49
  interfaces := #[]
  cf := some (fileOf pool3 8 #[] #[{ accessFlags := 1, nameIndex := 5, descriptorIndex := 73, attributes := #[] }, { accessFlags := 1, nameIndex := 124, descriptorIndex := 125, attributes := #[] }, { accessFlags := 1, nameIndex := 11, descriptorIndex := 80, attributes := #[] }, { accessFlags := 1, nameIndex := 22, descriptorIndex := 41, attributes := #[] }, { accessFlags := 1, nameIndex := 29, descriptorIndex := 41, attributes := #[] }] 49 2 #[] #[{ accessFlags := 18, nameIndex := 11, descriptorIndex := 12, attributes := #[] }, { accessFlags := 18, nameIndex := 15, descriptorIndex := 16, attributes := #[] }, { accessFlags := 18, nameIndex := 19, descriptorIndex := 16, attributes := #[] }, { accessFlags := 18, nameIndex := 22, descriptorIndex := 23, attributes := #[] }, { accessFlags := 18, nameIndex := 26, descriptorIndex := 23, attributes := #[] }, { accessFlags := 18, nameIndex := 29, descriptorIndex := 23, attributes := #[] }, { accessFlags := 18, nameIndex := 32, descriptorIndex := 33, attributes := #[] }])
  fields := #[{ name := "rank", type := (.object "com/example/planwright/planwright/division/Rank"), accessFlags := 18, slot := 0, constantValue := 0 }, { name := "label", type := (.object "java/lang/String"), accessFlags := 18, slot := 1, constantValue := 0 }, { name := "heading", type := (.object "java/lang/String"), accessFlags := 18, slot := 2, constantValue := 0 }, { name := "start", type := .int, accessFlags := 18, slot := 3, constantValue := 0 }, { name := "textStart", type := .int, accessFlags := 18, slot := 4, constantValue := 0 }, { name := "end", type := .int, accessFlags := 18, slot := 5, constantValue := 0 }, { name := "children", type := (.object "java/util/List"), accessFlags := 18, slot := 6, constantValue := 0 }]
  methods := #[k3m0, k3m1, k3m2, k3m3, k3m4]
  instanceTypes := #[(.object "com/example/planwright/planwright/division/Rank"), (.object "java/lang/String"), (.object "java/lang/String"), .int, .int, .int, (.object "java/util/List")]
  staticTypes := #[]
  resolved := Array.replicate 157 none
  statics := none }

def pool4 : Array CpInfo := pool [(1, .class_ 2), (0, u "java/lang/constant/Constable"), (0, .class_ 4), (0, u "java/lang/Object")] 6

/-- java/lang/constant/Constable -/
def k4 : Class := { plain "java/lang/constant/Constable" (some 0) with
  accessFlags := 1537
  interfaces := #[]
  cf := some (fileOf pool4 1 #[] #[] 1537 3 #[] #[])
  fields := #[]
  methods := #[]
  instanceTypes := #[]
  staticTypes := #[]
  resolved := Array.replicate 11 none
  statics := none }

def pool5 : Array CpInfo := pool [(1, .class_ 2), (0, u "java/lang/Comparable"), (0, .class_ 4), (0, u "java/lang/Object")] 7

/-- java/lang/Comparable -/
def k5 : Class := { plain "java/lang/Comparable" (some 0) with
  accessFlags := 1537
  interfaces := #[]
  cf := some (fileOf pool5 1 #[] #[] 1537 3 #[] #[])
  fields := #[]
  methods := #[]
  instanceTypes := #[]
  staticTypes := #[]
  resolved := Array.replicate 12 none
  statics := none }

def pool6 : Array CpInfo := pool [(1, .class_ 2), (0, u "java/io/Serializable"), (0, .class_ 4), (0, u "java/lang/Object")] 2

/-- java/io/Serializable -/
def k6 : Class := { plain "java/io/Serializable" (some 0) with
  accessFlags := 1537
  interfaces := #[]
  cf := some (fileOf pool6 1 #[] #[] 1537 3 #[] #[])
  fields := #[]
  methods := #[]
  instanceTypes := #[]
  staticTypes := #[]
  resolved := Array.replicate 7 none
  statics := none }

def pool7 : Array CpInfo := pool [(2, .class_ 4), (1, u "java/lang/Enum"), (0, u "name"), (0, u "Ljava/lang/String;"), (2, u "ordinal"), (0, u "I"), (1, .class_ 14), (1, u "java/lang/Object"), (4, u "hash"), (86, .class_ 108), (1, u "java/lang/Enum$EnumDesc"), (2, .class_ 112), (0, u "java/lang/constant/Constable"), (0, .class_ 114), (0, u "java/lang/Comparable"), (0, .class_ 116), (0, u "java/io/Serializable")] 87

/-- java/lang/Enum -/
def k7 : Class := { plain "java/lang/Enum" (some 0) with
  accessFlags := 1057
  interfaces := #[4, 5, 6]
  cf := some (fileOf pool7 2 #[.nestMembers #[106]] #[] 1057 12 #[111, 113, 115] #[{ accessFlags := 18, nameIndex := 5, descriptorIndex := 6, attributes := #[] }, { accessFlags := 18, nameIndex := 9, descriptorIndex := 10, attributes := #[] }, { accessFlags := 2, nameIndex := 19, descriptorIndex := 10, attributes := #[] }])
  fields := #[{ name := "name", type := (.object "java/lang/String"), accessFlags := 18, slot := 0, constantValue := 0 }, { name := "ordinal", type := .int, accessFlags := 18, slot := 1, constantValue := 0 }, { name := "hash", type := .int, accessFlags := 2, slot := 2, constantValue := 0 }]
  methods := #[]
  instanceTypes := #[(.object "java/lang/String"), .int, .int]
  staticTypes := #[]
  resolved := Array.replicate 204 none
  statics := none }

def pool8 : Array CpInfo := pool [(1, .class_ 2), (0, u "com/example/planwright/planwright/division/Rank"), (2, u "ARTICLE"), (0, u "Lcom/example/planwright/planwright/division/Rank;"), (2, u "APPENDIX"), (2, u "SECTION"), (2, u "DEFINITION"), (2, u "NUMBERED_DEFINITION"), (2, u "PARAGRAPH"), (2, u "NUMBERED_PARAGRAPH"), (2, u "SUBPARAGRAPH"), (2, u "$VALUES"), (0, u "[Lcom/example/planwright/planwright/division/Rank;"), (6, .class_ 40), (1, u "java/lang/Enum"), (6, .fieldref 1 48), (0, .nameAndType 49 50), (0, u "level"), (0, u "I"), (2, u "outlined"), (0, u "Z"), (2, u "beginsLine"), (22, u "()I")] 6

def k8c0 : Code := { maxStack := 1, maxLocals := 1, code := prog_72_method_4_code, exceptionTable := #[], attributes := #[] }
def k8m0 : Method := { name := "level", desc := "()I", sig := { parameters := [], returnType := some .int }, accessFlags := 1, code := some k8c0 }
/-- com/example/planwright/planwright/division/Rank -/
def k8 : Class := { plain "com/example/planwright/planwright/division/Rank" (some 7) with
  accessFlags := 16433
  interfaces := #[]
  cf := some (fileOf pool8 1 #[] #[{ accessFlags := 1, nameIndex := 49, descriptorIndex := 80, attributes := #[] }] 16433 38 #[] #[{ accessFlags := 16409, nameIndex := 5, descriptorIndex := 6, attributes := #[] }, { accessFlags := 16409, nameIndex := 9, descriptorIndex := 6, attributes := #[] }, { accessFlags := 16409, nameIndex := 12, descriptorIndex := 6, attributes := #[] }, { accessFlags := 16409, nameIndex := 15, descriptorIndex := 6, attributes := #[] }, { accessFlags := 16409, nameIndex := 18, descriptorIndex := 6, attributes := #[] }, { accessFlags := 16409, nameIndex := 21, descriptorIndex := 6, attributes := #[] }, { accessFlags := 16409, nameIndex := 24, descriptorIndex := 6, attributes := #[] }, { accessFlags := 16409, nameIndex := 27, descriptorIndex := 6, attributes := #[] }, { accessFlags := 18, nameIndex := 49, descriptorIndex := 50, attributes := #[] }, { accessFlags := 18, nameIndex := 53, descriptorIndex := 54, attributes := #[] }, { accessFlags := 18, nameIndex := 57, descriptorIndex := 54, attributes := #[] }, { accessFlags := 4122, nameIndex := 30, descriptorIndex := 31, attributes := #[] }])
  fields := #[{ name := "ARTICLE", type := (.object "com/example/planwright/planwright/division/Rank"), accessFlags := 16409, slot := 0, constantValue := 0 }, { name := "APPENDIX", type := (.object "com/example/planwright/planwright/division/Rank"), accessFlags := 16409, slot := 1, constantValue := 0 }, { name := "SECTION", type := (.object "com/example/planwright/planwright/division/Rank"), accessFlags := 16409, slot := 2, constantValue := 0 }, { name := "DEFINITION", type := (.object "com/example/planwright/planwright/division/Rank"), accessFlags := 16409, slot := 3, constantValue := 0 }, { name := "NUMBERED_DEFINITION", type := (.object "com/example/planwright/planwright/division/Rank"), accessFlags := 16409, slot := 4, constantValue := 0 }, { name := "PARAGRAPH", type := (.object "com/example/planwright/planwright/division/Rank"), accessFlags := 16409, slot := 5, constantValue := 0 }, { name := "NUMBERED_PARAGRAPH", type := (.object "com/example/planwright/planwright/division/Rank"), accessFlags := 16409, slot := 6, constantValue := 0 }, { name := "SUBPARAGRAPH", type := (.object "com/example/planwright/planwright/division/Rank"), accessFlags := 16409, slot := 7, constantValue := 0 }, { name := "level", type := .int, accessFlags := 18, slot := 3, constantValue := 0 }, { name := "outlined", type := .boolean, accessFlags := 18, slot := 4, constantValue := 0 }, { name := "beginsLine", type := .boolean, accessFlags := 18, slot := 5, constantValue := 0 }, { name := "$VALUES", type := (.array (.object "com/example/planwright/planwright/division/Rank")), accessFlags := 4122, slot := 8, constantValue := 0 }]
  methods := #[k8m0]
  instanceTypes := #[(.object "java/lang/String"), .int, .int, .int, .boolean, .boolean]
  staticTypes := #[(.object "com/example/planwright/planwright/division/Rank"), (.object "com/example/planwright/planwright/division/Rank"), (.object "com/example/planwright/planwright/division/Rank"), (.object "com/example/planwright/planwright/division/Rank"), (.object "com/example/planwright/planwright/division/Rank"), (.object "com/example/planwright/planwright/division/Rank"), (.object "com/example/planwright/planwright/division/Rank"), (.object "com/example/planwright/planwright/division/Rank"), (.array (.object "com/example/planwright/planwright/division/Rank"))]
  resolved := Array.replicate 87 none
  statics := some 0 }

def pool9 : Array CpInfo := pool [(2, .class_ 4), (1, u "java/lang/CharSequence"), (42, .class_ 48), (0, u "java/lang/CharSequence$1CodePointIterator"), (10, .class_ 60), (0, u "java/lang/CharSequence$1CharIterator"), (5, .class_ 67), (0, u "java/lang/Object")] 63

/-- java/lang/CharSequence -/
def k9 : Class := { plain "java/lang/CharSequence" (some 0) with
  accessFlags := 1537
  interfaces := #[]
  cf := some (fileOf pool9 2 #[.nestMembers #[47, 59]] #[] 1537 66 #[] #[])
  fields := #[]
  methods := #[]
  instanceTypes := #[]
  staticTypes := #[]
  resolved := Array.replicate 131 none
  statics := none }

def pool10 : Array CpInfo := pool [(1, .class_ 2), (0, u "java/lang/constant/ConstantDesc"), (0, .class_ 4), (0, u "java/lang/Object")] 32

/-- java/lang/constant/ConstantDesc -/
def k10 : Class := { plain "java/lang/constant/ConstantDesc" (some 0) with
  accessFlags := 1537
  interfaces := #[]
  cf := some (fileOf pool10 1 #[] #[] 1537 3 #[] #[])
  fields := #[]
  methods := #[]
  instanceTypes := #[]
  staticTypes := #[]
  resolved := Array.replicate 37 none
  statics := none }

def pool11 : Array CpInfo := pool [(2, .class_ 4), (1, u "java/lang/Object"), (0, u "<init>"), (0, u "()V"), (3, .class_ 12), (1, u "java/lang/String"), (0, u "value"), (0, u "[B"), (2, u "coder"), (0, u "B"), (2, u "hash"), (0, u "I"), (2, u "hashIsZero"), (0, u "Z"), (13, u "COMPACT_STRINGS"), (534, .class_ 576), (0, u "java/lang/CharSequence"), (22, u "CASE_INSENSITIVE_ORDER"), (0, u "Ljava/util/Comparator;"), (500, u "serialPersistentFields"), (0, u "[Ljava/io/ObjectStreamField;"), (0, .class_ 1104), (0, u "java/lang/String$CaseInsensitiveComparator"), (1, .class_ 1107), (0, u "java/io/Serializable"), (0, .class_ 1109), (0, u "java/lang/Comparable"), (0, .class_ 1111), (0, u "java/lang/constant/Constable"), (0, .class_ 1113), (0, u "java/lang/constant/ConstantDesc"), (2, u "serialVersionUID"), (0, u "J"), (3, u "REPL"), (0, u "C"), (2, u "LATIN1"), (1, u "UTF16")] 323

def k11m0 : Method := { name := "<init>", desc := "()V", sig := { parameters := [], returnType := none }, accessFlags := 1, code := none }
/-- java/lang/String -/
def k11 : Class := { plain "java/lang/String" (some 0) with
  accessFlags := 49
  interfaces := #[6, 5, 9, 4, 10]
  cf := some (fileOf pool11 10 #[.nestMembers #[1103]] #[{ accessFlags := 1, nameIndex := 5, descriptorIndex := 6, attributes := #[] }] 49 2 #[1106, 1108, 575, 1110, 1112] #[{ accessFlags := 18, nameIndex := 13, descriptorIndex := 14, attributes := #[] }, { accessFlags := 18, nameIndex := 17, descriptorIndex := 18, attributes := #[] }, { accessFlags := 2, nameIndex := 21, descriptorIndex := 22, attributes := #[] }, { accessFlags := 2, nameIndex := 25, descriptorIndex := 26, attributes := #[] }, { accessFlags := 26, nameIndex := 1116, descriptorIndex := 1117, attributes := #[] }, { accessFlags := 24, nameIndex := 40, descriptorIndex := 26, attributes := #[] }, { accessFlags := 26, nameIndex := 1101, descriptorIndex := 1102, attributes := #[] }, { accessFlags := 26, nameIndex := 1121, descriptorIndex := 1122, attributes := #[] }, { accessFlags := 25, nameIndex := 599, descriptorIndex := 600, attributes := #[] }, { accessFlags := 24, nameIndex := 1125, descriptorIndex := 18, attributes := #[] }, { accessFlags := 24, nameIndex := 1127, descriptorIndex := 18, attributes := #[] }])
  fields := #[{ name := "value", type := (.array .byte), accessFlags := 18, slot := 0, constantValue := 0 }, { name := "coder", type := .byte, accessFlags := 18, slot := 1, constantValue := 0 }, { name := "hash", type := .int, accessFlags := 2, slot := 2, constantValue := 0 }, { name := "hashIsZero", type := .boolean, accessFlags := 2, slot := 3, constantValue := 0 }, { name := "serialVersionUID", type := .long, accessFlags := 26, slot := 0, constantValue := 0 }, { name := "COMPACT_STRINGS", type := .boolean, accessFlags := 24, slot := 1, constantValue := 0 }, { name := "serialPersistentFields", type := (.array (.object "java/io/ObjectStreamField")), accessFlags := 26, slot := 2, constantValue := 0 }, { name := "REPL", type := .char, accessFlags := 26, slot := 3, constantValue := 0 }, { name := "CASE_INSENSITIVE_ORDER", type := (.object "java/util/Comparator"), accessFlags := 25, slot := 4, constantValue := 0 }, { name := "LATIN1", type := .byte, accessFlags := 24, slot := 5, constantValue := 0 }, { name := "UTF16", type := .byte, accessFlags := 24, slot := 6, constantValue := 0 }]
  methods := #[k11m0]
  instanceTypes := #[(.array .byte), .byte, .int, .boolean]
  staticTypes := #[.long, .boolean, (.array (.object "java/io/ObjectStreamField")), .char, (.object "java/util/Comparator"), .byte, .byte]
  resolved := Array.replicate 1451 none
  statics := none }

def pool12 : Array CpInfo := pool [(8, .class_ 10), (1, u "java/lang/Iterable"), (24, .class_ 36), (0, u "java/lang/Object")] 25

/-- java/lang/Iterable -/
def k12 : Class := { plain "java/lang/Iterable" (some 0) with
  accessFlags := 1537
  interfaces := #[]
  cf := some (fileOf pool12 8 #[] #[] 1537 35 #[] #[])
  fields := #[]
  methods := #[]
  instanceTypes := #[]
  staticTypes := #[]
  resolved := Array.replicate 62 none
  statics := none }

def pool13 : Array CpInfo := pool [(10, .class_ 12), (1, u "java/util/Collection"), (47, .class_ 61), (0, u "java/lang/Object"), (0, .class_ 63), (0, u "java/lang/Iterable")] 51

/-- java/util/Collection -/
def k13 : Class := { plain "java/util/Collection" (some 0) with
  accessFlags := 1537
  interfaces := #[12]
  cf := some (fileOf pool13 10 #[] #[] 1537 60 #[62] #[])
  fields := #[]
  methods := #[]
  instanceTypes := #[]
  staticTypes := #[]
  resolved := Array.replicate 115 none
  statics := none }

def pool14 : Array CpInfo := pool [(1, .methodref 2 3), (0, .class_ 4), (0, .nameAndType 5 6), (0, u "java/lang/Object"), (0, u "<init>"), (0, u "()V"), (1, .class_ 10), (1, u "java/util/AbstractCollection"), (66, .class_ 78), (0, u "java/util/Collection")] 81

def k14c0 : Code := { maxStack := 1, maxLocals := 1, code := jdk_22_method_1_code, exceptionTable := #[], attributes := #[] }
def k14m0 : Method := { name := "<init>", desc := "()V", sig := { parameters := [], returnType := none }, accessFlags := 4, code := some k14c0 }
/-- java/util/AbstractCollection -/
def k14 : Class := { plain "java/util/AbstractCollection" (some 0) with
  accessFlags := 1057
  interfaces := #[13]
  cf := some (fileOf pool14 8 #[] #[{ accessFlags := 4, nameIndex := 5, descriptorIndex := 6, attributes := #[] }] 1057 2 #[77] #[])
  fields := #[]
  methods := #[k14m0]
  instanceTypes := #[]
  staticTypes := #[]
  resolved := Array.replicate 160 none
  statics := none }

def pool15 : Array CpInfo := pool [(8, .class_ 10), (1, u "java/util/SequencedCollection"), (15, .class_ 27), (0, u "java/lang/Object"), (0, .class_ 29), (0, u "java/util/Collection")] 27

/-- java/util/SequencedCollection -/
def k15 : Class := { plain "java/util/SequencedCollection" (some 0) with
  accessFlags := 1537
  interfaces := #[13]
  cf := some (fileOf pool15 8 #[] #[] 1537 26 #[28] #[])
  fields := #[]
  methods := #[]
  instanceTypes := #[]
  staticTypes := #[]
  resolved := Array.replicate 57 none
  statics := none }

def pool16 : Array CpInfo := pool [(8, .class_ 10), (1, u "java/util/List"), (92, .class_ 104), (0, u "java/lang/Object"), (15, .class_ 121), (0, u "java/util/SequencedCollection")] 129

/-- java/util/List -/
def k16 : Class := { plain "java/util/List" (some 0) with
  accessFlags := 1537
  interfaces := #[15]
  cf := some (fileOf pool16 8 #[] #[] 1537 103 #[120] #[])
  fields := #[]
  methods := #[]
  instanceTypes := #[]
  staticTypes := #[]
  resolved := Array.replicate 251 none
  statics := none }

def pool17 : Array CpInfo := pool [(1, .methodref 2 3), (0, .class_ 4), (0, .nameAndType 5 6), (0, u "java/util/AbstractCollection"), (0, u "<init>"), (0, u "()V"), (0, .fieldref 8 9), (0, .class_ 10), (0, .nameAndType 11 12), (0, u "java/util/AbstractList"), (0, u "modCount"), (0, u "I"), (64, .class_ 78), (0, u "java/util/AbstractList$Itr"), (3, .class_ 83), (0, u "java/util/AbstractList$ListItr"), (9, .class_ 94), (0, u "java/util/AbstractList$RandomAccessSubList"), (3, .class_ 99), (0, u "java/util/AbstractList$SubList"), (33, .class_ 134), (0, u "java/util/List"), (73, .class_ 209), (0, u "java/util/AbstractList$SubList$1"), (0, .class_ 211), (0, u "java/util/AbstractList$RandomAccessSpliterator")] 6

def k17c0 : Code := { maxStack := 2, maxLocals := 1, code := jdk_39_method_1_code, exceptionTable := #[], attributes := #[] }
def k17m0 : Method := { name := "<init>", desc := "()V", sig := { parameters := [], returnType := none }, accessFlags := 4, code := some k17c0 }
/-- java/util/AbstractList -/
def k17 : Class := { plain "java/util/AbstractList" (some 14) with
  accessFlags := 1057
  interfaces := #[16]
  cf := some (fileOf pool17 8 #[.nestMembers #[93, 98, 208, 210, 82, 77]] #[{ accessFlags := 4, nameIndex := 5, descriptorIndex := 6, attributes := #[] }] 1057 2 #[133] #[{ accessFlags := 132, nameIndex := 11, descriptorIndex := 12, attributes := #[] }])
  fields := #[{ name := "modCount", type := .int, accessFlags := 132, slot := 0, constantValue := 0 }]
  methods := #[k17m0]
  instanceTypes := #[.int]
  staticTypes := #[]
  resolved := Array.replicate 218 none
  statics := none }

def pool18 : Array CpInfo := pool [(1, .class_ 2), (0, u "java/util/RandomAccess"), (0, .class_ 4), (0, u "java/lang/Object")] 2

/-- java/util/RandomAccess -/
def k18 : Class := { plain "java/util/RandomAccess" (some 0) with
  accessFlags := 1537
  interfaces := #[]
  cf := some (fileOf pool18 1 #[] #[] 1537 3 #[] #[])
  fields := #[]
  methods := #[]
  instanceTypes := #[]
  staticTypes := #[]
  resolved := Array.replicate 7 none
  statics := none }

def pool19 : Array CpInfo := pool [(1, .class_ 2), (0, u "java/lang/Cloneable"), (0, .class_ 4), (0, u "java/lang/Object")] 2

/-- java/lang/Cloneable -/
def k19 : Class := { plain "java/lang/Cloneable" (some 0) with
  accessFlags := 1537
  interfaces := #[]
  cf := some (fileOf pool19 1 #[] #[] 1537 3 #[] #[])
  fields := #[]
  methods := #[]
  instanceTypes := #[]
  staticTypes := #[]
  resolved := Array.replicate 7 none
  statics := none }

def pool20 : Array CpInfo := pool [(1, .methodref 2 3), (0, .class_ 4), (0, .nameAndType 5 6), (0, u "java/util/AbstractList"), (0, u "<init>"), (0, u "()V"), (2, .fieldref 10 11), (0, .class_ 12), (0, .nameAndType 13 14), (0, u "java/util/ArrayList"), (0, u "elementData"), (0, u "[Ljava/lang/Object;"), (2, u "EMPTY_ELEMENTDATA"), (21, .fieldref 10 40), (0, .nameAndType 41 14), (0, u "DEFAULTCAPACITY_EMPTY_ELEMENTDATA"), (8, u "size"), (0, u "I"), (96, .class_ 149), (0, u "java/util/List"), (112, .class_ 263), (0, u "java/util/ArrayList$ListItr"), (3, .class_ 268), (0, u "java/util/ArrayList$Itr"), (7, .class_ 277), (0, u "java/util/ArrayList$SubList"), (12, .class_ 291), (0, u "java/util/ArrayList$ArrayListSpliterator"), (37, .class_ 330), (0, u "java/util/RandomAccess"), (0, .class_ 332), (0, u "java/lang/Cloneable"), (0, .class_ 334), (0, u "java/io/Serializable"), (0, u "serialVersionUID"), (0, u "J"), (3, u "DEFAULT_CAPACITY"), (159, .class_ 501), (0, u "java/util/ArrayList$SubList$2"), (0, .class_ 503), (0, u "java/util/ArrayList$SubList$1")] 5

def k20c0 : Code := { maxStack := 2, maxLocals := 1, code := jdk_38_method_2_code, exceptionTable := #[], attributes := #[] }
def k20m0 : Method := { name := "<init>", desc := "()V", sig := { parameters := [], returnType := none }, accessFlags := 1, code := some k20c0 }
/-- java/util/ArrayList -/
def k20 : Class := { plain "java/util/ArrayList" (some 17) with
  accessFlags := 33
  interfaces := #[16, 18, 19, 6]
  cf := some (fileOf pool20 10 #[.nestMembers #[290, 276, 500, 502, 262, 267]] #[{ accessFlags := 1, nameIndex := 5, descriptorIndex := 6, attributes := #[] }] 33 2 #[148, 329, 331, 333] #[{ accessFlags := 26, nameIndex := 335, descriptorIndex := 336, attributes := #[] }, { accessFlags := 26, nameIndex := 340, descriptorIndex := 51, attributes := #[] }, { accessFlags := 26, nameIndex := 17, descriptorIndex := 14, attributes := #[] }, { accessFlags := 26, nameIndex := 41, descriptorIndex := 14, attributes := #[] }, { accessFlags := 128, nameIndex := 13, descriptorIndex := 14, attributes := #[] }, { accessFlags := 2, nameIndex := 50, descriptorIndex := 51, attributes := #[] }])
  fields := #[{ name := "serialVersionUID", type := .long, accessFlags := 26, slot := 0, constantValue := 0 }, { name := "DEFAULT_CAPACITY", type := .int, accessFlags := 26, slot := 1, constantValue := 0 }, { name := "EMPTY_ELEMENTDATA", type := (.array (.object "java/lang/Object")), accessFlags := 26, slot := 2, constantValue := 0 }, { name := "DEFAULTCAPACITY_EMPTY_ELEMENTDATA", type := (.array (.object "java/lang/Object")), accessFlags := 26, slot := 3, constantValue := 0 }, { name := "elementData", type := (.array (.object "java/lang/Object")), accessFlags := 128, slot := 1, constantValue := 0 }, { name := "size", type := .int, accessFlags := 2, slot := 2, constantValue := 0 }]
  methods := #[k20m0]
  instanceTypes := #[.int, (.array (.object "java/lang/Object")), .int]
  staticTypes := #[.long, .int, (.array (.object "java/lang/Object")), (.array (.object "java/lang/Object"))]
  resolved := Array.replicate 509 none
  statics := some 1 }

/-- the primitive byte -/
def k21 : Class := { plain "byte" none with kind := .primitive 'B', accessFlags := 0x411 }
/-- [B -/
def k22 : Class := { plain "[B" (some 0) with kind := .array 21 .byte, interfaces := #[19, 6], accessFlags := 1041 }

/-- the primitive int -/
def k23 : Class := { plain "int" none with kind := .primitive 'I', accessFlags := 0x411 }
/-- [I -/
def k24 : Class := { plain "[I" (some 0) with kind := .array 23 .int, interfaces := #[19, 6], accessFlags := 1041 }

/-- [Ljava/lang/Object; -/
def k25 : Class := { plain "[Ljava/lang/Object;" (some 0) with kind := .array 0 (.object "java/lang/Object"), interfaces := #[19, 6], accessFlags := 1041 }

def heap : Heap := #[{ cls := 8, slots := #[.ref 2, .ref 3, .ref 4, .ref 5, .ref 6, .ref 7, .ref 8, .ref 9, .null], vm := .statics 8 },
  { cls := 20, slots := #[.long 0, .int 0, .ref 10, .ref 11], vm := .statics 20 },
  { cls := 8, slots := #[.null, .int 0, .int 0, .int 0, .int 1, .int 1], vm := .none },
  { cls := 8, slots := #[.null, .int 1, .int 0, .int 0, .int 1, .int 1], vm := .none },
  { cls := 8, slots := #[.null, .int 2, .int 0, .int 1, .int 1, .int 1], vm := .none },
  { cls := 8, slots := #[.null, .int 3, .int 0, .int 2, .int 1, .int 1], vm := .none },
  { cls := 8, slots := #[.null, .int 4, .int 0, .int 2, .int 1, .int 1], vm := .none },
  { cls := 8, slots := #[.null, .int 5, .int 0, .int 3, .int 1, .int 1], vm := .none },
  { cls := 8, slots := #[.null, .int 6, .int 0, .int 4, .int 1, .int 1], vm := .none },
  { cls := 8, slots := #[.null, .int 7, .int 0, .int 5, .int 1, .int 1], vm := .none },
  { cls := 25, slots := #[], vm := .none },
  { cls := 25, slots := #[], vm := .none }]
def classes : Array Class := #[k0, k1, k2, k3, k4, k5, k6, k7, k8, k9, k10, k11, k12, k13, k14, k15, k16, k17, k18, k19, k20, k21, k22, k23, k24, k25]
def interned : List (Array UInt16 × Addr) := []
def slotsUsed : Nat := 61
def theMethod : MethodId := ⟨1, 3⟩
def args0 : Array Value := #[.int 5, .int 1, .int 2, .int 0, .int 3]
def aboutOver (below : List Frame) : State where
  vm := { classes := classes, interned := interned.toArray }
  heap := heap
  slotsUsed := slotsUsed
  threads := #[{ frames := .invoking theMethod args0 :: below }]
def below0 : List Frame := [.native { method := ⟨0, 0⟩, args := #[] }]
def about1 : State := aboutOver below0
def p0 : Program := .bare "" "" ""
def e0 : Env := launch0.env 0 0 0
theorem w_frames : about1.frames = Frame.invoking theMethod args0 :: below0 := rfl
set_option maxRecDepth 65536 in
theorem w_args : argsFit about1.vm theMethod args0 = true := by decide +kernel
set_option maxRecDepth 65536 in
theorem w_heap : heapFits about1 = true := by decide +kernel
set_option maxRecDepth 65536 in
theorem w_runnable : about1.curStatus? = some .runnable := by decide +kernel
set_option maxRecDepth 65536 in
theorem w_alone : about1.alone = true := by decide +kernel
set_option maxRecDepth 65536 in
theorem w_named : about1.methodNamed? x = some theMethod := by decide +kernel
set_option maxRecDepth 65536 in
theorem w_hears : about1.hears theMethod below0 = true := by decide +kernel
set_option maxRecDepth 65536 in
theorem w_ripe : about1.ripe theMethod args0 below0 = true := by decide +kernel
theorem w_running : about1.status = .running := rfl
set_option maxRecDepth 65536 in
theorem w_room : about1.hasRoom e0.platform room_1 = true :=
  launch0.hasRoom_least _ room_1 (by decide +kernel) (by decide +kernel) (by decide +kernel) (by decide +kernel) (by decide +kernel) (by decide +kernel)
theorem allAtoms_all (ts : List Jvm.Cond) (a : Array Jvm.Value) (st : Jvm.State) : (allAtoms ts).before a st = ts.all (fun c => c.before a st) := by
  induction ts with
  | nil => rfl
  | cons c t ih =>
    show (Jvm.Cond.and c (allAtoms t)).before a st = _
    rw [Jvm.Cond.before_and, ih, List.all_cons]
def words1 : List Jvm.Cond := Jvm.Cond.code x code maxLocals ret :: tables_1
/-- a 'code' word, met by the world's own term for the bytes: nothing is compared byte by byte -/
theorem code_word {y : MethodName} {bytes : ByteArray} {mx : Nat} {rt : Option FieldType} {a : Array Value} {s : State} {m : MethodId} {meth : Method} {c : Code} (h1 : s.methodNamed? y = some m) (h2 : s.vm.method? m = some meth) (h3 : meth.code = some c) (h4 : c.code = bytes)
    (h5 : (c.maxLocals == mx && c.exceptionTable.isEmpty && decide (c.maxStack ≤ mostOperands) && decide (meth.sig.returnType = rt) && !meth.locks && decide (parseMethodDescriptor y.desc = some meth.sig)) = true) : (Jvm.Cond.code y bytes mx rt).before a s = true := by
  simp only [Bool.and_eq_true, beq_iff_eq, Bool.not_eq_true', decide_eq_true_eq] at h5
  obtain ⟨⟨⟨⟨⟨g1, g2⟩, g3⟩, g4⟩, g5⟩, g6⟩ := h5
  simp [Cond.before, Cond.holds, Cond.value, h1, h2, h3, h4, g1, g2, g3, g4, g5, g6]
def isCode : Jvm.Cond → Bool
  | .code _ _ _ _ => true
  | _ => false
theorem all_split {L : List Jvm.Cond} {P : Jvm.Cond → Bool} (h1 : L.all (fun c => isCode c || P c) = true) (h2 : ∀ c ∈ L.filter isCode, P c = true) : L.all P = true := by
  refine List.all_eq_true.mpr fun c hc => ?_
  have h := List.all_eq_true.mp h1 c hc
  rcases Bool.eq_false_or_eq_true (isCode c) with hi | hi
  · exact h2 c (List.mem_filter.mpr ⟨hc, hi⟩)
  · simpa [hi] using h
set_option maxRecDepth 65536 in
theorem w_c0 : (Jvm.Cond.code x code maxLocals ret).before args0 about1 = true := code_word (m := ⟨1, 3⟩) (meth := k1m3) (c := k1c3) (by decide +kernel) rfl rfl rfl (by decide +kernel)
set_option maxRecDepth 65536 in
theorem w_c1 : (Jvm.Cond.code ({ cls := "com/example/planwright/planwright/division/DivisionHoldsPinLaw", name := "rankOf", desc := "(I)Lcom/example/planwright/planwright/division/Rank;" } : Jvm.MethodName) method_2_code (1 : Nat) (Option.some (Jvm.ClassFile.FieldType.object "com/example/planwright/planwright/division/Rank"))).before args0 about1 = true := code_word (m := ⟨1, 1⟩) (meth := k1m1) (c := k1c1) (by decide +kernel) rfl rfl rfl (by decide +kernel)
set_option maxRecDepth 65536 in
theorem w_c2 : (Jvm.Cond.code ({ cls := "java/util/ArrayList", name := "<init>", desc := "()V" } : Jvm.MethodName) jdk_38_method_2_code (1 : Nat) (Option.none : Option Jvm.ClassFile.FieldType)).before args0 about1 = true := code_word (m := ⟨20, 0⟩) (meth := k20m0) (c := k20c0) (by decide +kernel) rfl rfl rfl (by decide +kernel)
set_option maxRecDepth 65536 in
theorem w_c3 : (Jvm.Cond.code ({ cls := "java/util/AbstractList", name := "<init>", desc := "()V" } : Jvm.MethodName) jdk_39_method_1_code (1 : Nat) (Option.none : Option Jvm.ClassFile.FieldType)).before args0 about1 = true := code_word (m := ⟨17, 0⟩) (meth := k17m0) (c := k17c0) (by decide +kernel) rfl rfl rfl (by decide +kernel)
set_option maxRecDepth 65536 in
theorem w_c4 : (Jvm.Cond.code ({ cls := "java/util/AbstractCollection", name := "<init>", desc := "()V" } : Jvm.MethodName) jdk_22_method_1_code (1 : Nat) (Option.none : Option Jvm.ClassFile.FieldType)).before args0 about1 = true := code_word (m := ⟨14, 0⟩) (meth := k14m0) (c := k14c0) (by decide +kernel) rfl rfl rfl (by decide +kernel)
set_option maxRecDepth 65536 in
theorem w_c5 : (Jvm.Cond.code ({ cls := "java/lang/Object", name := "<init>", desc := "()V" } : Jvm.MethodName) object_method_1_code (1 : Nat) (Option.none : Option Jvm.ClassFile.FieldType)).before args0 about1 = true := code_word (m := ⟨0, 0⟩) (meth := k0m0) (c := k0c0) (by decide +kernel) rfl rfl rfl (by decide +kernel)
set_option maxRecDepth 65536 in
theorem w_c6 : (Jvm.Cond.code ({ cls := "com/example/planwright/planwright/division/Division", name := "<init>", desc := "(Lcom/example/planwright/planwright/division/Rank;Ljava/lang/String;Ljava/lang/String;IIILjava/util/List;)V" } : Jvm.MethodName) prog_54_method_1_code (8 : Nat) (Option.none : Option Jvm.ClassFile.FieldType)).before args0 about1 = true := code_word (m := ⟨3, 0⟩) (meth := k3m0) (c := k3c0) (by decide +kernel) rfl rfl rfl (by decide +kernel)
set_option maxRecDepth 65536 in
theorem w_c7 : (Jvm.Cond.code ({ cls := "java/lang/Record", name := "<init>", desc := "()V" } : Jvm.MethodName) jdk_30_method_1_code (1 : Nat) (Option.none : Option Jvm.ClassFile.FieldType)).before args0 about1 = true := code_word (m := ⟨2, 0⟩) (meth := k2m0) (c := k2c0) (by decide +kernel) rfl rfl rfl (by decide +kernel)
set_option maxRecDepth 65536 in
theorem w_c8 : (Jvm.Cond.code ({ cls := "com/example/planwright/planwright/division/Division", name := "holds", desc := "(Lcom/example/planwright/planwright/division/Division;)Z" } : Jvm.MethodName) prog_54_method_3_code (2 : Nat) (Option.some Jvm.ClassFile.FieldType.boolean)).before args0 about1 = true := code_word (m := ⟨3, 1⟩) (meth := k3m1) (c := k3c1) (by decide +kernel) rfl rfl rfl (by decide +kernel)
set_option maxRecDepth 65536 in
theorem w_c9 : (Jvm.Cond.code ({ cls := "com/example/planwright/planwright/division/Division", name := "start", desc := "()I" } : Jvm.MethodName) prog_54_method_11_code (1 : Nat) (Option.some Jvm.ClassFile.FieldType.int)).before args0 about1 = true := code_word (m := ⟨3, 3⟩) (meth := k3m3) (c := k3c3) (by decide +kernel) rfl rfl rfl (by decide +kernel)
set_option maxRecDepth 65536 in
theorem w_c10 : (Jvm.Cond.code ({ cls := "com/example/planwright/planwright/division/DivisionHoldsPinLaw", name := "depth", desc := "(I)I" } : Jvm.MethodName) method_3_code (1 : Nat) (Option.some Jvm.ClassFile.FieldType.int)).before args0 about1 = true := code_word (m := ⟨1, 2⟩) (meth := k1m2) (c := k1c2) (by decide +kernel) rfl rfl rfl (by decide +kernel)
set_option maxRecDepth 65536 in
theorem w_c11 : (Jvm.Cond.code ({ cls := "com/example/planwright/planwright/division/Division", name := "end", desc := "()I" } : Jvm.MethodName) prog_54_method_13_code (1 : Nat) (Option.some Jvm.ClassFile.FieldType.int)).before args0 about1 = true := code_word (m := ⟨3, 4⟩) (meth := k3m4) (c := k3c4) (by decide +kernel) rfl rfl rfl (by decide +kernel)
set_option maxRecDepth 65536 in
theorem w_c12 : (Jvm.Cond.code ({ cls := "com/example/planwright/planwright/division/Division", name := "rank", desc := "()Lcom/example/planwright/planwright/division/Rank;" } : Jvm.MethodName) prog_54_method_8_code (1 : Nat) (Option.some (Jvm.ClassFile.FieldType.object "com/example/planwright/planwright/division/Rank"))).before args0 about1 = true := code_word (m := ⟨3, 2⟩) (meth := k3m2) (c := k3c2) (by decide +kernel) rfl rfl rfl (by decide +kernel)
set_option maxRecDepth 65536 in
theorem w_c13 : (Jvm.Cond.code ({ cls := "com/example/planwright/planwright/division/Rank", name := "level", desc := "()I" } : Jvm.MethodName) prog_72_method_4_code (1 : Nat) (Option.some Jvm.ClassFile.FieldType.int)).before args0 about1 = true := code_word (m := ⟨8, 0⟩) (meth := k8m0) (c := k8c0) (by decide +kernel) rfl rfl rfl (by decide +kernel)
def codes1 : List Jvm.Cond := [Jvm.Cond.code x code maxLocals ret, Jvm.Cond.code ({ cls := "com/example/planwright/planwright/division/DivisionHoldsPinLaw", name := "rankOf", desc := "(I)Lcom/example/planwright/planwright/division/Rank;" } : Jvm.MethodName) method_2_code (1 : Nat) (Option.some (Jvm.ClassFile.FieldType.object "com/example/planwright/planwright/division/Rank")), Jvm.Cond.code ({ cls := "java/util/ArrayList", name := "<init>", desc := "()V" } : Jvm.MethodName) jdk_38_method_2_code (1 : Nat) (Option.none : Option Jvm.ClassFile.FieldType), Jvm.Cond.code ({ cls := "java/util/AbstractList", name := "<init>", desc := "()V" } : Jvm.MethodName) jdk_39_method_1_code (1 : Nat) (Option.none : Option Jvm.ClassFile.FieldType), Jvm.Cond.code ({ cls := "java/util/AbstractCollection", name := "<init>", desc := "()V" } : Jvm.MethodName) jdk_22_method_1_code (1 : Nat) (Option.none : Option Jvm.ClassFile.FieldType), Jvm.Cond.code ({ cls := "java/lang/Object", name := "<init>", desc := "()V" } : Jvm.MethodName) object_method_1_code (1 : Nat) (Option.none : Option Jvm.ClassFile.FieldType), Jvm.Cond.code ({ cls := "com/example/planwright/planwright/division/Division", name := "<init>", desc := "(Lcom/example/planwright/planwright/division/Rank;Ljava/lang/String;Ljava/lang/String;IIILjava/util/List;)V" } : Jvm.MethodName) prog_54_method_1_code (8 : Nat) (Option.none : Option Jvm.ClassFile.FieldType), Jvm.Cond.code ({ cls := "java/lang/Record", name := "<init>", desc := "()V" } : Jvm.MethodName) jdk_30_method_1_code (1 : Nat) (Option.none : Option Jvm.ClassFile.FieldType), Jvm.Cond.code ({ cls := "com/example/planwright/planwright/division/Division", name := "holds", desc := "(Lcom/example/planwright/planwright/division/Division;)Z" } : Jvm.MethodName) prog_54_method_3_code (2 : Nat) (Option.some Jvm.ClassFile.FieldType.boolean), Jvm.Cond.code ({ cls := "com/example/planwright/planwright/division/Division", name := "start", desc := "()I" } : Jvm.MethodName) prog_54_method_11_code (1 : Nat) (Option.some Jvm.ClassFile.FieldType.int), Jvm.Cond.code ({ cls := "com/example/planwright/planwright/division/DivisionHoldsPinLaw", name := "depth", desc := "(I)I" } : Jvm.MethodName) method_3_code (1 : Nat) (Option.some Jvm.ClassFile.FieldType.int), Jvm.Cond.code ({ cls := "com/example/planwright/planwright/division/Division", name := "end", desc := "()I" } : Jvm.MethodName) prog_54_method_13_code (1 : Nat) (Option.some Jvm.ClassFile.FieldType.int), Jvm.Cond.code ({ cls := "com/example/planwright/planwright/division/Division", name := "rank", desc := "()Lcom/example/planwright/planwright/division/Rank;" } : Jvm.MethodName) prog_54_method_8_code (1 : Nat) (Option.some (Jvm.ClassFile.FieldType.object "com/example/planwright/planwright/division/Rank")), Jvm.Cond.code ({ cls := "com/example/planwright/planwright/division/Rank", name := "level", desc := "()I" } : Jvm.MethodName) prog_72_method_4_code (1 : Nat) (Option.some Jvm.ClassFile.FieldType.int)]
set_option maxRecDepth 65536 in
theorem codes_eq : words1.filter isCode = codes1 := rfl
theorem w_codes : ∀ c ∈ words1.filter isCode, c.before args0 about1 = true := by
  rw [codes_eq]
  intro c hc
  simp only [codes1, List.mem_cons, List.not_mem_nil, or_false] at hc
  rcases hc with rfl | rfl | rfl | rfl | rfl | rfl | rfl | rfl | rfl | rfl | rfl | rfl | rfl | rfl
  · exact w_c0
  · exact w_c1
  · exact w_c2
  · exact w_c3
  · exact w_c4
  · exact w_c5
  · exact w_c6
  · exact w_c7
  · exact w_c8
  · exact w_c9
  · exact w_c10
  · exact w_c11
  · exact w_c12
  · exact w_c13
set_option maxRecDepth 65536 in
theorem w_t1 : (words1.take 24).all (fun c => isCode c || c.before args0 about1) = true := by decide +kernel
set_option maxRecDepth 65536 in
theorem w_t2 : ((words1.drop 24).take 24).all (fun c => isCode c || c.before args0 about1) = true := by decide +kernel
set_option maxRecDepth 65536 in
theorem w_t3 : (((words1.drop 24).drop 24).take 24).all (fun c => isCode c || c.before args0 about1) = true := by decide +kernel
set_option maxRecDepth 65536 in
theorem w_t4 : ((((words1.drop 24).drop 24).drop 24).take 24).all (fun c => isCode c || c.before args0 about1) = true := by decide +kernel
set_option maxRecDepth 65536 in
theorem w_t5 : ((((words1.drop 24).drop 24).drop 24).drop 24).all (fun c => isCode c || c.before args0 about1) = true := by decide +kernel
theorem w_tables : (allAtoms (Jvm.Cond.code x code maxLocals ret :: tables_1)).before args0 about1 = true := by
  rw [allAtoms_all]
  show words1.all (fun c => c.before args0 about1) = true
  refine all_split ?_ w_codes
  rw [← List.take_append_drop 24 words1, List.all_append, w_t1, ← List.take_append_drop 24 (words1.drop 24), List.all_append, w_t2, ← List.take_append_drop 24 ((words1.drop 24).drop 24), List.all_append, w_t3, ← List.take_append_drop 24 (((words1.drop 24).drop 24).drop 24), List.all_append, w_t4, w_t5]
  rfl
set_option maxRecDepth 65536 in
theorem w_rest : rest_1_c.before args0 about1 = true := by decide +kernel
set_option maxRecDepth 65536 in
theorem w_case : (Jvm.Cond.and given_1 narrow_1).before args0 about1 = true := by decide +kernel
theorem w_applies : (headSpec (Jvm.Cond.code x code maxLocals ret :: tables_1) room_1).applies x e0.platform about1 = true :=
  (Spec.applies_iff w_frames).mpr ⟨w_running, w_runnable, w_alone, w_named, w_hears, w_ripe, w_room, w_tables⟩
theorem atStart : AtStart classFile x code maxLocals ret World_1 tables_1 room_1 Calls_1 rest_1 Pre_1 launch0 p0 e0 about1 theMethod args0 below0 :=
  ⟨lists_1, trivial, launch0.admits_env _ _ _, launch0.least_env, fairChoices_fair.cas, fairChoices_fair.clock, w_frames, w_args, w_heap, w_applies, trivial, w_rest, w_case⟩
end start1
theorem witness_1 : WitnessClaimed_1 := ⟨start1.p0, start1.e0, start1.about1, start1.theMethod, start1.args0, start1.below0, start1.atStart⟩
end Jvm.Pilot.@@N@@
