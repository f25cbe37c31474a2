import JvmDerived
import JvmDerived.Pilot.@@N@@Statement
import JvmDerived.Pilot.@@N@@Code
set_option linter.unusedVariables false
set_option linter.unusedSimpArgs false
namespace Jvm.RoadKit
open Sem ClassFile Op Lib Jvm.Stand Jvm.Free Jvm.LawKit
section New
variable {p : Program} {l : Launch} {e : Env} {R : Room} {s : State} {m : MethodId} {args : Array Value} {below : List Frame} {meth : Method} {c : Code} {T : State} {locs : List Loc} {cells slots : Nat}
theorem retI (X : Stand p l e R s m args below meth c T locs cells slots) (hx : p.tables.exec = Jvm.exec) {pc : Nat} {Ls : Array Slot} {z : Int32} {rest : List Value} (hret : meth.sig.returnType = some .int) (hd : decode c.code pc = .ok (.ireturn, 1)) {fs : List Frame}
    (hl : ∀ (f : JFrame) (acts : List Action), f.method = m → f.locked = none → f.entered = [] → (doReturn e (T.setTop f) acts (some (.int z))).1 = T.setFrames fs) : Steps p.tables e below (T.setTop (mkF m pc Ls (.int z :: rest))) (T.setFrames fs) := by
  have hm' : T.vm.method? m = some meth := X.method'
  have hn : narrow .int (.int z) = .int z := rfl
  show Steps p.tables e below (T.setTop { method := m, pc := pc, locals := Ls, stack := _ :: rest, locked := none }) _
  jvm_step X.here [X.here.top, hx, hd, hm', hret, hn]
  first | (intro acts; rw [hl _ acts rfl rfl rfl]) | rw [hl _ _ rfl rfl rfl]
  exact Steps.refl _
end New
end Jvm.RoadKit
namespace Jvm.Pilot.@@N@@
open Jvm Jvm.ClassFile Sem Op Lib Jvm.Free Jvm.Stand Jvm.LawKit Jvm.RoadKit Bundle Jvm.Pilot.@@N@@.Jvm.D
def own_L (Z : State) (h : Heap) (a : Addr) (n : Nat) (K : Nat → Int64) : Prop := ∃ cl : Cell, Arr Z h a cl .long ∧ cl.slots.size = n ∧ ∀ j, j < n → cl.slots[j]? = some (.long (K j))
def own_I (Z : State) (h : Heap) (a : Addr) (n : Nat) (K : Nat → Int32) : Prop := ∃ cl : Cell, Arr Z h a cl .int ∧ cl.slots.size = n ∧ ∀ j, j < n → cl.slots[j]? = some (.int (K j))
section Own
variable {Z : State} {h h' : Heap} {a b : Addr} {n i : Nat} {v : Value} {ws : List Addr}
theorem own_L_lt {K : Nat → Int64} (F : own_L Z h a n K) : a < h.size := by obtain ⟨cl, A, r⟩ := F; exact A.lt
theorem own_L_ext {K : Nat → Int64} (F : own_L Z h a n K) (E : Ext h h') : own_L Z h' a n K := by obtain ⟨cl, A, r⟩ := F; exact ⟨cl, A.ext E, r⟩
theorem own_L_other {K : Nat → Int64} (F : own_L Z h a n K) (W : Wr h h' b i v) (q : a ≠ b) : own_L Z h' a n K := by obtain ⟨cl, A, r⟩ := F; exact ⟨cl, A.other W q, r⟩
theorem own_L_keep {K : Nat → Int64} (F : own_L Z h a n K) (E : Keep h h' ws) (q : a ∉ ws) : own_L Z h' a n K := by obtain ⟨cl, A, r⟩ := F; exact ⟨cl, ⟨E.2.1 a cl A.1 q, A.2⟩, r⟩
theorem own_L_set {K : Nat → Int64} {x : Int64} (F : own_L Z h a n K) (W : Wr h h' a i (.long x)) : own_L Z h' a n (fun j => if j = i then x else K j) := by
  obtain ⟨cl, A, r1, r2⟩ := F
  refine ⟨_, A.same W, by rw [sz_set]; exact r1, fun j hj => ?_⟩
  show (cl.slots.setIfInBounds i (.long x))[j]? = some (.long (if j = i then x else K j))
  by_cases q : j = i
  · subst q; rw [Array.getElem?_setIfInBounds_self_of_lt (by rw [r1]; exact hj), if_pos rfl]
  · rw [Array.getElem?_setIfInBounds_ne (Ne.symm q), if_neg q]; exact r2 j hj
theorem own_L_new {k : ClassId} {z : Int32} (A : Arr Z h a (newA k .long z) .long) (hz : z.toNatClampNeg = n) : own_L Z h a n (fun _ => 0) := by
  refine ⟨_, A, by rw [sz_new]; exact hz, fun j hj => ?_⟩
  subst hz; simp [newA, hj, defaultValue]
theorem own_L_to {K K' : Nat → Int64} (F : own_L Z h a n K) (q : ∀ j, j < n → K j = K' j) : own_L Z h a n K' := by
  obtain ⟨cl, A, r1, r2⟩ := F
  exact ⟨cl, A, r1, fun j hj => by rw [← q j hj]; exact r2 j hj⟩
theorem own_I_lt {K : Nat → Int32} (F : own_I Z h a n K) : a < h.size := by obtain ⟨cl, A, r⟩ := F; exact A.lt
theorem own_I_ext {K : Nat → Int32} (F : own_I Z h a n K) (E : Ext h h') : own_I Z h' a n K := by obtain ⟨cl, A, r⟩ := F; exact ⟨cl, A.ext E, r⟩
theorem own_I_other {K : Nat → Int32} (F : own_I Z h a n K) (W : Wr h h' b i v) (q : a ≠ b) : own_I Z h' a n K := by obtain ⟨cl, A, r⟩ := F; exact ⟨cl, A.other W q, r⟩
theorem own_I_keep {K : Nat → Int32} (F : own_I Z h a n K) (E : Keep h h' ws) (q : a ∉ ws) : own_I Z h' a n K := by obtain ⟨cl, A, r⟩ := F; exact ⟨cl, ⟨E.2.1 a cl A.1 q, A.2⟩, r⟩
theorem own_I_set {K : Nat → Int32} {x : Int32} (F : own_I Z h a n K) (W : Wr h h' a i (.int x)) : own_I Z h' a n (fun j => if j = i then x else K j) := by
  obtain ⟨cl, A, r1, r2⟩ := F
  refine ⟨_, A.same W, by rw [sz_set]; exact r1, fun j hj => ?_⟩
  show (cl.slots.setIfInBounds i (.int x))[j]? = some (.int (if j = i then x else K j))
  by_cases q : j = i
  · subst q; rw [Array.getElem?_setIfInBounds_self_of_lt (by rw [r1]; exact hj), if_pos rfl]
  · rw [Array.getElem?_setIfInBounds_ne (Ne.symm q), if_neg q]; exact r2 j hj
theorem own_I_new {k : ClassId} {z : Int32} (A : Arr Z h a (newA k .int z) .int) (hz : z.toNatClampNeg = n) : own_I Z h a n (fun _ => 0) := by
  refine ⟨_, A, by rw [sz_new]; exact hz, fun j hj => ?_⟩
  subst hz; simp [newA, hj, defaultValue]
theorem own_I_to {K K' : Nat → Int32} (F : own_I Z h a n K) (q : ∀ j, j < n → K j = K' j) : own_I Z h a n K' := by
  obtain ⟨cl, A, r1, r2⟩ := F
  exact ⟨cl, A, r1, fun j hj => by rw [← q j hj]; exact r2 j hj⟩
theorem own_nin {x y : Addr} (q : x ≠ y) : x ∉ [y] := fun hx => q (List.mem_singleton.mp hx)
/-- a place inside: j as an int, below n -/
theorem own_in {cl : Cell} {j : Int32} (S : cl.slots.size = n) (h0 : ¬ j < 0) (h1 : j.toNatClampNeg < n) : ¬ (j < 0 ∨ cl.slots.size ≤ j.toNatClampNeg) := fun q => q.elim h0 fun r => by omega
end Own
def QN (Z : State)  (h0 : Heap) (n0 : Nat) (v : Option Value) (h : Heap) (L : List Loc) : Prop := v = none ∧ Fr n0 L ∧ h = h0
def QI (Z : State) (r : Int32) (h0 : Heap) (n0 : Nat) (v : Option Value) (h : Heap) (L : List Loc) : Prop := v = some (.int r) ∧ Fr n0 L ∧ h = h0
def QL (Z : State) (r : Int64) (h0 : Heap) (n0 : Nat) (v : Option Value) (h : Heap) (L : List Loc) : Prop := v = some (.long r) ∧ Fr n0 L ∧ h = h0
/-- the map at m: its three arrays a (keys), b (used), v (values) -/
def own_tab (Z : State) (n0 : Nat) (h : Heap) (m a b v : Addr) (K : Nat → Int64) (U : Int64) (nv : Nat) (V : Nat → Int32) (sz : Int32) : Prop :=
  Exa Z h m "com/example/sectionary/sectionary/tables/LongKeyIntMap" ∧ Fld Z h m "com/example/sectionary/sectionary/tables/LongKeyTable" "keys" "[J" (.ref a) ∧ Fld Z h m "com/example/sectionary/sectionary/tables/LongKeyTable" "used" "[J" (.ref b) ∧ Fld Z h m "com/example/sectionary/sectionary/tables/LongKeyIntMap" "values" "[I" (.ref v) ∧ Fld Z h m "com/example/sectionary/sectionary/tables/LongKeyTable" "size" "I" (.int sz) ∧ own_L Z h a 64 K ∧ own_L Z h b 1 (fun _ => U) ∧ own_I Z h v nv V ∧ (n0 ≤ m ∧ n0 ≤ a ∧ n0 ≤ b ∧ n0 ≤ v) ∧ (m ≠ a ∧ m ≠ b ∧ m ≠ v ∧ a ≠ b ∧ a ≠ v ∧ b ≠ v)
def Q2 (Z : State) (a1 : Addr) (uv us : Value) (h0 : Heap) (n0 : Nat) (v : Option Value) (h : Heap) (L : List Loc) : Prop := v = none ∧ Fr n0 L ∧ Keep h0 h [a1] ∧ ∃ a b : Addr, Fld Z h a1 "com/example/sectionary/sectionary/tables/LongKeyTable" "keys" "[J" (.ref a) ∧ Fld Z h a1 "com/example/sectionary/sectionary/tables/LongKeyTable" "used" "[J" (.ref b) ∧ Fld Z h a1 "com/example/sectionary/sectionary/tables/LongKeyIntMap" "values" "[I" uv ∧ Fld Z h a1 "com/example/sectionary/sectionary/tables/LongKeyTable" "size" "I" us ∧ own_L Z h a 64 (fun _ => 0) ∧ own_L Z h b 1 (fun _ => 0) ∧ h0.size ≤ a ∧ h0.size ≤ b ∧ a ≠ b
theorem d2_0 : decode prog_96_method_1_code 0 = .ok (.aload_n 0, 1) := by decide +kernel
theorem d2_1 : decode prog_96_method_1_code 1 = .ok (.invokespecial 1, 3) := by decide +kernel
theorem d2_4 : decode prog_96_method_1_code 4 = .ok (.aload_n 0, 1) := by decide +kernel
theorem d2_5 : decode prog_96_method_1_code 5 = .ok (.bipush 64, 2) := by decide +kernel
theorem d2_7 : decode prog_96_method_1_code 7 = .ok (.newarray .long, 2) := by decide +kernel
theorem d2_9 : decode prog_96_method_1_code 9 = .ok (.putfield 9, 3) := by decide +kernel
theorem d2_12 : decode prog_96_method_1_code 12 = .ok (.aload_n 0, 1) := by decide +kernel
theorem d2_13 : decode prog_96_method_1_code 13 = .ok (.iconst 1, 1) := by decide +kernel
theorem d2_14 : decode prog_96_method_1_code 14 = .ok (.newarray .long, 2) := by decide +kernel
theorem d2_16 : decode prog_96_method_1_code 16 = .ok (.putfield 15, 3) := by decide +kernel
theorem d2_19 : decode prog_96_method_1_code 19 = .ok (.return_, 1) := by decide +kernel
theorem pn_2 : plainName "com/example/sectionary/sectionary/tables/LongKeyTable" = true := by first | (simp [plainName, overriddenIn]; done) | decide +kernel
theorem ef_2 (m : MethodId) (x0 : Addr) : entryFrame m #[(.ref x0)] 1 = mkF m 0 #[.val (.ref x0)] [] := by first | (simp [entryFrame, mkF, argsToLocals, Value.category]; done) | rfl
set_option maxRecDepth 65536 in
set_option maxHeartbeats 40000000 in
theorem rm2 (l : Launch) (Z : State) (a0 : Array Value) (hw : ∀ d ∈ tables_1, d.before a0 Z = true) (ws : List Jvm.Cond) (a1 : Addr) (u_keys_a1 : Value) (u_used_a1 uv us : Value) (h0 : Heap) (n0 : Nat) (Z0 : n0 ≤ h0.size) (E_a1 : Exa Z h0 a1 "com/example/sectionary/sectionary/tables/LongKeyIntMap") (F_keys_a1 : Fld Z h0 a1 "com/example/sectionary/sectionary/tables/LongKeyTable" "keys" "[J" u_keys_a1) (g_a1 : n0 ≤ a1) (F_used_a1 : Fld Z h0 a1 "com/example/sectionary/sectionary/tables/LongKeyTable" "used" "[J" u_used_a1) (F_v : Fld Z h0 a1 "com/example/sectionary/sectionary/tables/LongKeyIntMap" "values" "[I" uv) (F_s : Fld Z h0 a1 "com/example/sectionary/sectionary/tables/LongKeyTable" "size" "I" us) :
    MetFree l (⟨"com/example/sectionary/sectionary/tables/LongKeyTable", "<init>", "()V"⟩ : MethodName) (head1 (Jvm.Cond.code (⟨"com/example/sectionary/sectionary/tables/LongKeyTable", "<init>", "()V"⟩ : MethodName) prog_96_method_1_code 1 none :: ws) ({ frames := 1, cells := 2, slots := 65, locals := 12 } : Room)) (fun a Us => a = #[(.ref a1)] ∧ Z.Warmed39 Us.vm ∧ Us.heap = h0) (fun _ _ _ _ _ => True) (fun _ Us o Us' => ∃ v L, o = .returned v ∧ Q2 Z a1 uv us h0 n0 v Us'.heap L ∧ FrameEnd Us o Us' L ({ frames := 1, cells := 2, slots := 65, locals := 12 } : Room).cells ({ frames := 1, cells := 2, slots := 65, locals := 12 } : Room).slots) := by
  refine MetFree.of_bodySF (plainFor_of_name pn_2) hisR ?_
  intro p e s m args below meth c s₁ Bd hml0 hP hK
  obtain ⟨rfl, hZ, hh⟩ := hP
  have hx := Bd.exec
  have hby := Bd.bytes
  have hml : c.maxLocals = 1 := hml0
  have hown : s.vm.findClass "com/example/sectionary/sectionary/tables/LongKeyTable" = some m.cls := findClass_of_methodNamed Bd.named
  have hnm := (name_of_methodNamed Bd.named Bd.method).1
  have X0 : Stand p l e ({ frames := 1, cells := 2, slots := 65, locals := 12 } : Room) s m #[(.ref a1)] below meth c s₁ [] 0 0 := Stand.of_body Bd
  have e0 : s₁.heap = h0 := by rw [← hh, Bd.state]; rfl
  have N0 := Fr.nil n0
  have pre0 : ∀ t, Steps p.tables e below (s₁.setTop (mkF m 0 #[.val (.ref a1)] [])) t → Steps p.tables e below (s₁.setTop (entryFrame m #[(.ref a1)] 1)) t := fun t k => castTop (ef_2 m a1) k
  obtain ⟨T2, X2, e2, st2⟩ := initO X0 hx hZ hown (hw _ (List.mem_of_getElem? (i := 11) rfl)) (hw _ (List.mem_of_getElem? (i := 12) rfl)) (hw _ (List.mem_of_getElem? (i := 13) rfl)) e0 (g := (mkF m 1 #[.val (.ref a1)] [(.ref a1)])) rfl (by rw [hml]; rfl) rfl (hb hby d2_1) (by decide) (W := 0) (by show 2 * 0 + _ ≤ _; exact Nat.le_of_eq rfl) (by decide)
  obtain ⟨T3, h3, k3, X3, e3, E3, A3, st3⟩ := newP X2 hx hZ (hw _ (List.mem_of_getElem? (i := 14) rfl)) e2 (g := (mkF m 7 #[.val (.ref a1)] [(.int (64 : Int32)), (.ref a1)])) rfl (hb hby d2_7) rfl (by decide) (cap := 64) (by decide) (by decide) (by decide) (by decide)
  obtain ⟨b3, g3⟩ : ∃ z, z = h0.size := ⟨_, rfl⟩
  rw [← g3] at A3 st3
  have g_b3 : n0 ≤ b3 := Nat.le_trans Z0 (Nat.le_of_eq g3.symm)
  have sz_b3 : h0.size ≤ b3 := (Nat.le_trans (Keep.refl h0 [a1]).1 (Nat.le_of_eq g3.symm))
  have K3 : Keep h0 h3 [a1] := (Keep.refl h0 [a1]).ext E3
  obtain ⟨T4, h4, X4, e4, W4, st4⟩ := putF X3 hx hZ hown (host := "") (Or.inl (hw _ (List.mem_of_getElem? (i := 15) rfl))) Via.refl e3 (F_keys_a1.ext E3) (E_a1.ext E3) (Or.inl (hw _ (List.mem_of_getElem? (i := 16) rfl))) (hw _ (List.mem_of_getElem? (i := 1) rfl)) (ty := (.array .long)) (by decide) rfl rfl (g := (mkF m 9 #[.val (.ref a1)] [(.ref b3), (.ref a1)])) rfl rfl (hb hby d2_9)
  have Fw4 := (F_keys_a1.ext E3).same W4
  have K4 : Keep h0 h4 [a1] := K3.wr W4 (Or.inl (List.mem_of_getElem? (i := 0) rfl))
  have N4 := Fr.snoc X4 N0 g_a1
  obtain ⟨T5, h5, k5, X5, e5, E5, A5, st5⟩ := newP X4 hx hZ (hw _ (List.mem_of_getElem? (i := 14) rfl)) e4 (g := (mkF m 14 #[.val (.ref a1)] [(.int (1 : Int32)), (.ref a1)])) rfl (hb hby d2_14) rfl (by decide) (cap := 1) (by decide) (by decide) (by decide) (by decide)
  obtain ⟨b5, g5⟩ : ∃ z, z = h4.size := ⟨_, rfl⟩
  rw [← g5] at A5 st5
  have g_b5 : n0 ≤ b5 := Nat.le_trans (Nat.le_trans (Nat.le_trans Z0 E3.1) (Keep.of_wr W4).1) (Nat.le_of_eq g5.symm)
  have sz_b5 : h0.size ≤ b5 := (Nat.le_trans K4.1 (Nat.le_of_eq g5.symm))
  have K5 : Keep h0 h5 [a1] := K4.ext E5
  obtain ⟨T6, h6, X6, e6, W6, st6⟩ := putF X5 hx hZ hown (host := "") (Or.inl (hw _ (List.mem_of_getElem? (i := 17) rfl))) Via.refl e5 (((F_used_a1.ext E3).other W4 (Or.inr (slot_ne (Or.inl (hw _ (List.mem_of_getElem? (i := 18) rfl))) (Or.inl (hw _ (List.mem_of_getElem? (i := 16) rfl))) (by decide) (t := (.array .long)) (t' := (.array .long)) (by decide) (by decide)))).ext E5) (((E_a1.ext E3).wr W4).ext E5) (Or.inl (hw _ (List.mem_of_getElem? (i := 18) rfl))) (hw _ (List.mem_of_getElem? (i := 1) rfl)) (ty := (.array .long)) (by decide) rfl rfl (g := (mkF m 16 #[.val (.ref a1)] [(.ref b5), (.ref a1)])) rfl rfl (hb hby d2_16)
  have Fw6 := (((F_used_a1.ext E3).other W4 (Or.inr (slot_ne (Or.inl (hw _ (List.mem_of_getElem? (i := 18) rfl))) (Or.inl (hw _ (List.mem_of_getElem? (i := 16) rfl))) (by decide) (t := (.array .long)) (t' := (.array .long)) (by decide) (by decide)))).ext E5).same W6
  have K6 : Keep h0 h6 [a1] := K5.wr W6 (Or.inl (List.mem_of_getElem? (i := 0) rfl))
  have N6 := Fr.snoc X6 N4 g_a1
  obtain ⟨fs, hr, hrun, hended, hW, hsame⟩ := X6.leave (v := none) (fun _ => rfl)
  refine ⟨_, _, pre0 _ ?_, hrun, hended, _, _, rfl, ?_, ⟨_, rfl⟩, hW, hsame.mono (by decide) (by decide)⟩
  · show Steps p.tables e below (s₁.setTop (mkF m 0 #[.val (.ref a1)] [])) _
    refine XS.aloadN X0.here hx rfl (hb hby d2_0) rfl rfl ?_
    show Steps p.tables e below (s₁.setTop (mkF m 1 #[.val (.ref a1)] [(.ref a1)])) _
    refine st2 _ ?_
    show Steps p.tables e below (T2.setTop (mkF m 4 #[.val (.ref a1)] [])) _
    refine XS.aloadN X2.here hx rfl (hb hby d2_4) rfl rfl ?_
    show Steps p.tables e below (T2.setTop (mkF m 5 #[.val (.ref a1)] [(.ref a1)])) _
    refine XS.bipush X2.here hx rfl (hb hby d2_5) ?_
    show Steps p.tables e below (T2.setTop (mkF m 7 #[.val (.ref a1)] [(.int (64 : Int32)), (.ref a1)])) _
    refine st3 _ ?_
    show Steps p.tables e below (T3.setTop (mkF m 9 #[.val (.ref a1)] [(.ref b3), (.ref a1)])) _
    refine st4 _ ?_
    show Steps p.tables e below (T4.setTop (mkF m 12 #[.val (.ref a1)] [])) _
    refine XS.aloadN X4.here hx rfl (hb hby d2_12) rfl rfl ?_
    show Steps p.tables e below (T4.setTop (mkF m 13 #[.val (.ref a1)] [(.ref a1)])) _
    refine XS.iconst X4.here hx rfl (hb hby d2_13) ?_
    show Steps p.tables e below (T4.setTop (mkF m 14 #[.val (.ref a1)] [(.int (1 : Int32)), (.ref a1)])) _
    refine st5 _ ?_
    show Steps p.tables e below (T5.setTop (mkF m 16 #[.val (.ref a1)] [(.ref b5), (.ref a1)])) _
    refine st6 _ ?_
    show Steps p.tables e below (T6.setTop (mkF m 19 #[.val (.ref a1)] [])) _
    exact X6.returnOut hx Bd.returns (hb hby d2_19) hr
  · show Q2 Z a1 uv us h0 n0 _ T6.heap _
    rw [e6]
    exact ⟨rfl, N6, K6, b3, b5, (Fw4.ext E5).other W6 (Or.inr (slot_ne (Or.inl (hw _ (List.mem_of_getElem? (i := 16) rfl))) (Or.inl (hw _ (List.mem_of_getElem? (i := 18) rfl))) (by decide) (t := (.array .long)) (t' := (.array .long)) (by decide) (by decide))), Fw6, (((F_v.ext E3).other W4 (Or.inr (slot_ne (Or.inl (hw _ (List.mem_of_getElem? (i := 21) rfl))) (Or.inl (hw _ (List.mem_of_getElem? (i := 16) rfl))) (by decide) (t := (.array .int)) (t' := (.array .long)) (by decide) (by decide)))).ext E5).other W6 (Or.inr (slot_ne (Or.inl (hw _ (List.mem_of_getElem? (i := 21) rfl))) (Or.inl (hw _ (List.mem_of_getElem? (i := 18) rfl))) (by decide) (t := (.array .int)) (t' := (.array .long)) (by decide) (by decide))), (((F_s.ext E3).other W4 (Or.inr (slot_ne (Or.inl (hw _ (List.mem_of_getElem? (i := 57) rfl))) (Or.inl (hw _ (List.mem_of_getElem? (i := 16) rfl))) (by decide) (t := .int) (t' := (.array .long)) (by decide) (by decide)))).ext E5).other W6 (Or.inr (slot_ne (Or.inl (hw _ (List.mem_of_getElem? (i := 57) rfl))) (Or.inl (hw _ (List.mem_of_getElem? (i := 18) rfl))) (by decide) (t := .int) (t' := (.array .long)) (by decide) (by decide))), own_L_other (own_L_ext (own_L_other (own_L_new A3 rfl) W4 (Ne.symm (Nat.ne_of_lt (Nat.lt_of_lt_of_le E_a1.lt sz_b3)))) E5) W6 (Ne.symm (Nat.ne_of_lt (Nat.lt_of_lt_of_le E_a1.lt sz_b3))), own_L_other (own_L_new A5 rfl) W6 (Ne.symm (Nat.ne_of_lt (Nat.lt_of_lt_of_le E_a1.lt sz_b5))), sz_b3, sz_b5, Nat.ne_of_lt (Nat.lt_of_lt_of_le A3.lt (by rw [g5, W4.size]; exact Nat.le_refl _))⟩
def Q1 (Z : State) (a1 : Addr) (h0 : Heap) (n0 : Nat) (v : Option Value) (h : Heap) (L : List Loc) : Prop := v = none ∧ Fr n0 L ∧ Keep h0 h [a1] ∧ ∃ a b v : Addr, own_tab Z n0 h a1 a b v (fun _ => 0) 0 64 (fun _ => 0) 0
theorem d1_0 : decode prog_92_method_1_code 0 = .ok (.aload_n 0, 1) := by decide +kernel
theorem d1_1 : decode prog_92_method_1_code 1 = .ok (.invokespecial 1, 3) := by decide +kernel
theorem d1_4 : decode prog_92_method_1_code 4 = .ok (.aload_n 0, 1) := by decide +kernel
theorem d1_5 : decode prog_92_method_1_code 5 = .ok (.bipush 64, 2) := by decide +kernel
theorem d1_7 : decode prog_92_method_1_code 7 = .ok (.newarray .int, 2) := by decide +kernel
theorem d1_9 : decode prog_92_method_1_code 9 = .ok (.putfield 7, 3) := by decide +kernel
theorem d1_12 : decode prog_92_method_1_code 12 = .ok (.return_, 1) := by decide +kernel
theorem pn_1 : plainName "com/example/sectionary/sectionary/tables/LongKeyIntMap" = true := by first | (simp [plainName, overriddenIn]; done) | decide +kernel
theorem pd_1_0 : parseMethodDescriptor "()V" = some ⟨[], none⟩ := by decide +kernel
theorem ef_1 (m : MethodId) (x0 : Addr) : entryFrame m #[(.ref x0)] 1 = mkF m 0 #[.val (.ref x0)] [] := by first | (simp [entryFrame, mkF, argsToLocals, Value.category]; done) | rfl
set_option maxRecDepth 65536 in
set_option maxHeartbeats 40000000 in
theorem rm1 (l : Launch) (Z : State) (a0 : Array Value) (hw : ∀ d ∈ tables_1, d.before a0 Z = true) (ws : List Jvm.Cond) (a1 : Addr) (u_values_a1 uk uu : Value) (h0 : Heap) (n0 : Nat) (Z0 : n0 ≤ h0.size) (E_a1 : Exa Z h0 a1 "com/example/sectionary/sectionary/tables/LongKeyIntMap") (F_values_a1 : Fld Z h0 a1 "com/example/sectionary/sectionary/tables/LongKeyIntMap" "values" "[I" u_values_a1) (g_a1 : n0 ≤ a1) (F_k : Fld Z h0 a1 "com/example/sectionary/sectionary/tables/LongKeyTable" "keys" "[J" uk) (F_u : Fld Z h0 a1 "com/example/sectionary/sectionary/tables/LongKeyTable" "used" "[J" uu) (F_s : Fld Z h0 a1 "com/example/sectionary/sectionary/tables/LongKeyTable" "size" "I" (.int 0)) :
    MetFree l (⟨"com/example/sectionary/sectionary/tables/LongKeyIntMap", "<init>", "()V"⟩ : MethodName) (head1 (Jvm.Cond.code (⟨"com/example/sectionary/sectionary/tables/LongKeyIntMap", "<init>", "()V"⟩ : MethodName) prog_92_method_1_code 1 none :: ws) ({ frames := 2, cells := 3, slots := 129, locals := 24 } : Room)) (fun a Us => a = #[(.ref a1)] ∧ Z.Warmed39 Us.vm ∧ Us.heap = h0) (fun _ _ _ _ _ => True) (fun _ Us o Us' => ∃ v L, o = .returned v ∧ Q1 Z a1 h0 n0 v Us'.heap L ∧ FrameEnd Us o Us' L ({ frames := 2, cells := 3, slots := 129, locals := 24 } : Room).cells ({ frames := 2, cells := 3, slots := 129, locals := 24 } : Room).slots) := by
  refine MetFree.of_bodySF (plainFor_of_name pn_1) hisR ?_
  intro p e s m args below meth c s₁ Bd hml0 hP hK
  obtain ⟨rfl, hZ, hh⟩ := hP
  have hx := Bd.exec
  have hby := Bd.bytes
  have hml : c.maxLocals = 1 := hml0
  have hown : s.vm.findClass "com/example/sectionary/sectionary/tables/LongKeyIntMap" = some m.cls := findClass_of_methodNamed Bd.named
  have hnm := (name_of_methodNamed Bd.named Bd.method).1
  have X0 : Stand p l e ({ frames := 2, cells := 3, slots := 129, locals := 24 } : Room) s m #[(.ref a1)] below meth c s₁ [] 0 0 := Stand.of_body Bd
  have e0 : s₁.heap = h0 := by rw [← hh, Bd.state]; rfl
  have N0 := Fr.nil n0
  have pre0 : ∀ t, Steps p.tables e below (s₁.setTop (mkF m 0 #[.val (.ref a1)] [])) t → Steps p.tables e below (s₁.setTop (entryFrame m #[(.ref a1)] 1)) t := fun t k => castTop (ef_1 m a1) k
  obtain ⟨_, _, ⟨T2, L2, k2, n2⟩, -, X2, ⟨Lc2, hQ2, l2, y2, z2⟩, st2⟩ := X0.specialBack hx (y := (⟨"com/example/sectionary/sectionary/tables/LongKeyTable", "<init>", "()V"⟩ : MethodName)) rfl hown (mvT hZ (hw _ (List.mem_of_getElem? (i := 6) rfl))) (mvT hZ (hw _ (List.mem_of_getElem? (i := 7) rfl))) (mvT hZ (hw _ (List.mem_of_getElem? (i := 10) rfl))) (by decide) (backOf (W := 0) (rm2 l Z a0 hw [] a1 _ _ _ _ h0 n0 Z0 E_a1 F_k g_a1 F_u F_values_a1 F_s) hZ (hw _ (List.mem_of_getElem? (i := 10) rfl)) (hw _ (List.mem_of_getElem? (i := 9) rfl)) (by decide) (by decide)) (g := (mkF m 1 #[.val (.ref a1)] [(.ref a1)])) rfl (by rw [hml]; rfl) (Steps.refl _) (a := a1) (argsL := []) (rest := []) (lenOf pd_1_0 rfl) rfl (by show 2 * 0 + _ ≤ _; exact Nat.le_of_eq rfl) (hb hby d1_1) (fun _ _ => ⟨rfl, e0, (by decide : 0 + 2 ≤ _), (by decide : 0 + 65 ≤ _)⟩)
  dsimp only [Pt.U, Pt.locs, Pt.cells, Pt.slots] at X2 l2 y2 z2 st2 hQ2
  subst l2 y2 z2
  obtain ⟨rfl, N2q, Kc2, a, b, Fk, Fu, Fv, Fs, La, Lb, sa, sb, nab⟩ := hQ2
  have Zt2 : n0 ≤ T2.heap.size := Nat.le_trans Z0 Kc2.1
  have N2 := Fr.app N0 N2q
  obtain ⟨T3, h3, k3, X3, e3, E3, A3, st3⟩ := newP X2 hx hZ (hw _ (List.mem_of_getElem? (i := 19) rfl)) rfl (g := (mkF m 7 #[.val (.ref a1)] [(.int (64 : Int32)), (.ref a1)])) rfl (hb hby d1_7) rfl (by decide) (cap := 64) (by decide) (by decide) (by decide) (by decide)
  have Zh3 : n0 ≤ h3.size := Nat.le_trans Zt2 E3.1
  obtain ⟨b3, g3⟩ : ∃ z, z = T2.heap.size := ⟨_, rfl⟩
  rw [← g3] at A3 st3
  have g_b3 : n0 ≤ b3 := Nat.le_trans (Nat.le_trans Z0 Kc2.1) (Nat.le_of_eq g3.symm)
  obtain ⟨T4, h4, X4, e4, W4, st4⟩ := putF X3 hx hZ hown (host := "") (Or.inl (hw _ (List.mem_of_getElem? (i := 20) rfl))) Via.refl e3 (Fv.ext E3) ((E_a1.keep Kc2).ext E3) (Or.inl (hw _ (List.mem_of_getElem? (i := 21) rfl))) (hw _ (List.mem_of_getElem? (i := 1) rfl)) (ty := (.array .int)) (by decide) rfl rfl (g := (mkF m 9 #[.val (.ref a1)] [(.ref b3), (.ref a1)])) rfl rfl (hb hby d1_9)
  have Zh4 : n0 ≤ h4.size := Nat.le_trans Zh3 (Keep.of_wr W4).1
  have K4 : Keep h0 h4 [a1] := (Kc2.ext E3).wr W4 (Or.inl (List.mem_of_getElem? (i := 0) rfl))
  have Fw4 := (Fv.ext E3).same W4
  have N4 := Fr.snoc X4 N2 g_a1
  obtain ⟨fs, hr, hrun, hended, hW, hsame⟩ := X4.leave (v := none) (fun _ => rfl)
  refine ⟨_, _, pre0 _ ?_, hrun, hended, _, _, rfl, ?_, ⟨_, rfl⟩, hW, hsame.mono (by decide) (by decide)⟩
  · show Steps p.tables e below (s₁.setTop (mkF m 0 #[.val (.ref a1)] [])) _
    refine XS.aloadN X0.here hx rfl (hb hby d1_0) rfl rfl ?_
    show Steps p.tables e below (s₁.setTop (mkF m 1 #[.val (.ref a1)] [(.ref a1)])) _
    refine st2.trans ?_
    show Steps p.tables e below (T2.setTop (mkF m 4 #[.val (.ref a1)] [])) _
    refine XS.aloadN X2.here hx rfl (hb hby d1_4) rfl rfl ?_
    show Steps p.tables e below (T2.setTop (mkF m 5 #[.val (.ref a1)] [(.ref a1)])) _
    refine XS.bipush X2.here hx rfl (hb hby d1_5) ?_
    show Steps p.tables e below (T2.setTop (mkF m 7 #[.val (.ref a1)] [(.int (64 : Int32)), (.ref a1)])) _
    refine st3 _ ?_
    show Steps p.tables e below (T3.setTop (mkF m 9 #[.val (.ref a1)] [(.ref b3), (.ref a1)])) _
    refine st4 _ ?_
    show Steps p.tables e below (T4.setTop (mkF m 12 #[.val (.ref a1)] [])) _
    exact X4.returnOut hx Bd.returns (hb hby d1_12) hr
  · show Q1 Z a1 h0 n0 _ T4.heap _
    rw [e4]
    have la := E_a1.lt
    have gb : T2.heap.size ≤ b3 := Nat.le_of_eq g3.symm
    have n1a : a1 ≠ a := Nat.ne_of_lt (Nat.lt_of_lt_of_le la sa)
    have n1b : a1 ≠ b := Nat.ne_of_lt (Nat.lt_of_lt_of_le la sb)
    have n13 : a1 ≠ b3 := Nat.ne_of_lt (Nat.lt_of_lt_of_le (Nat.lt_of_lt_of_le la Kc2.1) gb)
    have na3 : a ≠ b3 := Nat.ne_of_lt (Nat.lt_of_lt_of_le (own_L_lt La) gb)
    have nb3 : b ≠ b3 := Nat.ne_of_lt (Nat.lt_of_lt_of_le (own_L_lt Lb) gb)
    exact ⟨rfl, N4, K4, a, b, b3, ((E_a1.keep Kc2).ext E3).wr W4, (Fk.ext E3).other W4 (Or.inr (slot_ne (Or.inl (hw _ (List.mem_of_getElem? (i := 16) rfl))) (Or.inl (hw _ (List.mem_of_getElem? (i := 21) rfl))) (by decide) (t := (.array .long)) (t' := (.array .int)) (by decide) (by decide))), (Fu.ext E3).other W4 (Or.inr (slot_ne (Or.inl (hw _ (List.mem_of_getElem? (i := 18) rfl))) (Or.inl (hw _ (List.mem_of_getElem? (i := 21) rfl))) (by decide) (t := (.array .long)) (t' := (.array .int)) (by decide) (by decide))), Fw4, (Fs.ext E3).other W4 (Or.inr (slot_ne (Or.inl (hw _ (List.mem_of_getElem? (i := 57) rfl))) (Or.inl (hw _ (List.mem_of_getElem? (i := 21) rfl))) (by decide) (t := .int) (t' := (.array .int)) (by decide) (by decide))), own_L_other (own_L_ext La E3) W4 (Ne.symm n1a), own_L_other (own_L_ext Lb E3) W4 (Ne.symm n1b), own_I_other (own_I_new A3 rfl) W4 (Ne.symm n13), ⟨g_a1, Nat.le_trans Z0 sa, Nat.le_trans Z0 sb, g_b3⟩, ⟨n1a, n1b, n13, nab, na3, nb3⟩⟩
def own_bit (i : Int32) : Int64 := (1 : Int64) <<< (i &&& 0x3f).toInt64
theorem d10_0 : decode prog_96_method_13_code 0 = .ok (.lconst 1, 1) := by decide +kernel
theorem d10_1 : decode prog_96_method_13_code 1 = .ok (.iload_n 0, 1) := by decide +kernel
theorem d10_2 : decode prog_96_method_13_code 2 = .ok (.lshl, 1) := by decide +kernel
theorem d10_3 : decode prog_96_method_13_code 3 = .ok (.lreturn, 1) := by decide +kernel
theorem pn_10 : plainName "com/example/sectionary/sectionary/tables/LongKeyTable" = true := by first | (simp [plainName, overriddenIn]; done) | decide +kernel
theorem ef_10 (m : MethodId) (x0 : Int32) : entryFrame m #[(.int x0)] 1 = mkF m 0 #[.val (.int x0)] [] := by first | (simp [entryFrame, mkF, argsToLocals, Value.category]; done) | rfl
set_option maxRecDepth 65536 in
set_option maxHeartbeats 40000000 in
theorem rm10 (l : Launch) (Z : State) (a0 : Array Value) (hw : ∀ d ∈ tables_1, d.before a0 Z = true) (ws : List Jvm.Cond) (p1 : Int32) (h0 : Heap) (n0 : Nat) (Z0 : n0 ≤ h0.size) :
    MetFree l (⟨"com/example/sectionary/sectionary/tables/LongKeyTable", "bit", "(I)J"⟩ : MethodName) (head1 (Jvm.Cond.code (⟨"com/example/sectionary/sectionary/tables/LongKeyTable", "bit", "(I)J"⟩ : MethodName) prog_96_method_13_code 1 (some .long) :: ws) ({ frames := 0, cells := 0, slots := 0, locals := 0 } : Room)) (fun a Us => a = #[(.int p1)] ∧ Z.Warmed39 Us.vm ∧ Us.heap = h0) (fun _ _ _ _ _ => True) (fun _ Us o Us' => ∃ v L, o = .returned v ∧ QL Z (own_bit p1) h0 n0 v Us'.heap L ∧ FrameEnd Us o Us' L ({ frames := 0, cells := 0, slots := 0, locals := 0 } : Room).cells ({ frames := 0, cells := 0, slots := 0, locals := 0 } : Room).slots) := by
  refine MetFree.of_bodySF (plainFor_of_name pn_10) hisR ?_
  intro p e s m args below meth c s₁ Bd hml0 hP hK
  obtain ⟨rfl, hZ, hh⟩ := hP
  have hx := Bd.exec
  have hby := Bd.bytes
  have hml : c.maxLocals = 1 := hml0
  have hown : s.vm.findClass "com/example/sectionary/sectionary/tables/LongKeyTable" = some m.cls := findClass_of_methodNamed Bd.named
  have hnm := (name_of_methodNamed Bd.named Bd.method).1
  have X0 : Stand p l e ({ frames := 0, cells := 0, slots := 0, locals := 0 } : Room) s m #[(.int p1)] below meth c s₁ [] 0 0 := Stand.of_body Bd
  have e0 : s₁.heap = h0 := by rw [← hh, Bd.state]; rfl
  have N0 := Fr.nil n0
  have pre0 : ∀ t, Steps p.tables e below (s₁.setTop (mkF m 0 #[.val (.int p1)] [])) t → Steps p.tables e below (s₁.setTop (entryFrame m #[(.int p1)] 1)) t := fun t k => castTop (ef_10 m p1) k
  obtain ⟨fs, hr, hrun, hended, hW, hsame⟩ := X0.leave (v := some (.long ((1 : Int64) <<< (p1 &&& 0x3f).toInt64))) (fun h => by rw [Bd.returns] at h; cases h)
  refine ⟨_, _, pre0 _ ?_, hrun, hended, _, _, rfl, ?_, ⟨_, rfl⟩, hW, hsame.mono (by decide) (by decide)⟩
  · show Steps p.tables e below (s₁.setTop (mkF m 0 #[.val (.int p1)] [])) _
    refine XS.lconst X0.here hx rfl (hb hby d10_0) ?_
    show Steps p.tables e below (s₁.setTop (mkF m 1 #[.val (.int p1)] [(.long (1 : Int64))])) _
    refine XS.iloadN X0.here hx rfl (hb hby d10_1) rfl ?_
    show Steps p.tables e below (s₁.setTop (mkF m 2 #[.val (.int p1)] [(.int p1), (.long (1 : Int64))])) _
    refine XS.lshl X0.here hx rfl (hb hby d10_2) rfl ?_
    show Steps p.tables e below (s₁.setTop (mkF m 3 #[.val (.int p1)] [(.long ((1 : Int64) <<< (p1 &&& 0x3f).toInt64))])) _
    exact X0.lreturnOut hx Bd.returns (hb hby d10_3) hr
  · show QL Z (own_bit p1) h0 n0 _ s₁.heap _
    rw [e0]
    exact ⟨rfl, N0, rfl⟩
def own_held (U : Int64) (i : Int32) : Int32 := if (lcmpW (U &&& own_bit i) (0 : Int64)) = (0 : Int32) then 0 else 1
theorem d9_0 : decode prog_96_method_5_code 0 = .ok (.aload_n 0, 1) := by decide +kernel
theorem d9_1 : decode prog_96_method_5_code 1 = .ok (.getfield 15, 3) := by decide +kernel
theorem d9_4 : decode prog_96_method_5_code 4 = .ok (.iload_n 1, 1) := by decide +kernel
theorem d9_5 : decode prog_96_method_5_code 5 = .ok (.bipush 64, 2) := by decide +kernel
theorem d9_7 : decode prog_96_method_5_code 7 = .ok (.idiv, 1) := by decide +kernel
theorem d9_8 : decode prog_96_method_5_code 8 = .ok (.laload, 1) := by decide +kernel
theorem d9_9 : decode prog_96_method_5_code 9 = .ok (.iload_n 1, 1) := by decide +kernel
theorem d9_10 : decode prog_96_method_5_code 10 = .ok (.invokestatic 37, 3) := by decide +kernel
theorem d9_13 : decode prog_96_method_5_code 13 = .ok (.land, 1) := by decide +kernel
theorem d9_14 : decode prog_96_method_5_code 14 = .ok (.lconst 0, 1) := by decide +kernel
theorem d9_15 : decode prog_96_method_5_code 15 = .ok (.lcmp, 1) := by decide +kernel
theorem d9_16 : decode prog_96_method_5_code 16 = .ok (.ifCond .eq 7, 3) := by decide +kernel
theorem d9_23 : decode prog_96_method_5_code 23 = .ok (.iconst 0, 1) := by decide +kernel
theorem d9_24 : decode prog_96_method_5_code 24 = .ok (.ireturn, 1) := by decide +kernel
theorem pn_9 : plainName "com/example/sectionary/sectionary/tables/LongKeyTable" = true := by first | (simp [plainName, overriddenIn]; done) | decide +kernel
theorem pd_9_5 : parseMethodDescriptor "(I)J" = some ⟨[.int], some .long⟩ := by decide +kernel
theorem ef_9 (m : MethodId) (x0 : Addr) (x1 : Int32) : entryFrame m #[(.ref x0), (.int x1)] 2 = mkF m 0 #[.val (.ref x0), .val (.int x1)] [] := by first | (simp [entryFrame, mkF, argsToLocals, Value.category]; done) | rfl
set_option maxRecDepth 65536 in
set_option maxHeartbeats 40000000 in
theorem rm9_0 (l : Launch) (Z : State) (a0 : Array Value) (hw : ∀ d ∈ tables_1, d.before a0 Z = true) (ws : List Jvm.Cond) (a1 : Addr) (p2 : Int32) (w3 : Addr) (w5 : Int64) (cl_w3 : Cell) (h0 : Heap) (n0 : Nat) (Z0 : n0 ≤ h0.size) (F_used_a1 : Fld Z h0 a1 "com/example/sectionary/sectionary/tables/LongKeyTable" "used" "[J" (.ref w3)) (Ar_w3 : Arr Z h0 w3 cl_w3 .long) (hin8 : ¬ ((p2 / (64 : Int32)) < 0 ∨ cl_w3.slots.size ≤ ((p2 / (64 : Int32))).toNatClampNeg)) (hat8 : cl_w3.slots[((p2 / (64 : Int32))).toNatClampNeg]? = some (.long w5)) (hnz7 : ¬ ((64 : Int32) = (0 : Int32))) (hk : ((lcmpW (w5 &&& own_bit p2) (0 : Int64)) = (0 : Int32))) :
    MetFree l (⟨"com/example/sectionary/sectionary/tables/LongKeyTable", "holds", "(I)Z"⟩ : MethodName) (head1 (Jvm.Cond.code (⟨"com/example/sectionary/sectionary/tables/LongKeyTable", "holds", "(I)Z"⟩ : MethodName) prog_96_method_5_code 2 (some .boolean) :: ws) ({ frames := 1, cells := 0, slots := 0, locals := 14 } : Room)) (fun a Us => a = #[(.ref a1), (.int p2)] ∧ Z.Warmed39 Us.vm ∧ Us.heap = h0) (fun _ _ _ _ _ => True) (fun _ Us o Us' => ∃ v L, o = .returned v ∧ QI Z (0 : Int32) h0 n0 v Us'.heap L ∧ FrameEnd Us o Us' L ({ frames := 1, cells := 0, slots := 0, locals := 14 } : Room).cells ({ frames := 1, cells := 0, slots := 0, locals := 14 } : Room).slots) := by
  refine MetFree.of_bodySF (plainFor_of_name pn_9) hisR ?_
  intro p e s m args below meth c s₁ Bd hml0 hP hK
  obtain ⟨rfl, hZ, hh⟩ := hP
  have hx := Bd.exec
  have hby := Bd.bytes
  have hml : c.maxLocals = 2 := hml0
  have hown : s.vm.findClass "com/example/sectionary/sectionary/tables/LongKeyTable" = some m.cls := findClass_of_methodNamed Bd.named
  have hnm := (name_of_methodNamed Bd.named Bd.method).1
  have X0 : Stand p l e ({ frames := 1, cells := 0, slots := 0, locals := 14 } : Room) s m #[(.ref a1), (.int p2)] below meth c s₁ [] 0 0 := Stand.of_body Bd
  have e0 : s₁.heap = h0 := by rw [← hh, Bd.state]; rfl
  have N0 := Fr.nil n0
  have pre0 : ∀ t, Steps p.tables e below (s₁.setTop (mkF m 0 #[.val (.ref a1), .val (.int p2)] [])) t → Steps p.tables e below (s₁.setTop (entryFrame m #[(.ref a1), (.int p2)] 2)) t := fun t k => castTop (ef_9 m a1 p2) k
  obtain ⟨T4, X4, e4, st4⟩ := getF X0 hx hZ hown (host := "") (Or.inl (hw _ (List.mem_of_getElem? (i := 17) rfl))) Via.refl e0 F_used_a1 (g := (mkF m 1 #[.val (.ref a1), .val (.int p2)] [(.ref a1)])) rfl rfl (hb hby d9_1)
  obtain ⟨_, _, ⟨T6, L6, k6, n6⟩, -, X6, ⟨Lc6, hQ6, l6, y6, z6⟩, st6⟩ := Jvm.LawKit.callS X4 hx (y := (⟨"com/example/sectionary/sectionary/tables/LongKeyTable", "bit", "(I)J"⟩ : MethodName)) hown (mvT hZ (hw _ (List.mem_of_getElem? (i := 53) rfl))) (mvT hZ (hw _ (List.mem_of_getElem? (i := 54) rfl))) (mvT hZ (hw _ (List.mem_of_getElem? (i := 9) rfl))) (mvT hZ (hw _ (List.mem_of_getElem? (i := 55) rfl))) (by decide) (backOf (W := 2) (rm10 l Z a0 hw [] p2  h0 n0 Z0 ) hZ (hw _ (List.mem_of_getElem? (i := 55) rfl)) (hw _ (List.mem_of_getElem? (i := 9) rfl)) (by decide) (by decide)) (g := (mkF m 10 #[.val (.ref a1), .val (.int p2)] [(.int p2), (.long w5)])) rfl (by rw [hml]; rfl) (argsL := [(.int p2)]) (rest := [(.long w5)]) (lenOf pd_9_5 rfl) rfl (by show 2 * 0 + _ ≤ _; exact Nat.le_of_eq rfl) (hb hby d9_10) (fun _ _ => ⟨rfl, e4, (by decide : 0 + 0 ≤ _), (by decide : 0 + 0 ≤ _)⟩)
  dsimp only [Pt.U, Pt.locs, Pt.cells, Pt.slots] at X6 l6 y6 z6 st6 hQ6
  subst l6 y6 z6
  obtain ⟨rfl, N6q, e6⟩ := hQ6
  have Kc6 : Keep h0 T6.heap [] := by rw [e6]; exact Keep.refl _ _
  have Zt6 : n0 ≤ T6.heap.size := Nat.le_trans Z0 Kc6.1
  have N6 := Fr.app N0 N6q
  obtain ⟨fs, hr, hrun, hended, hW, hsame⟩ := X6.leave (v := some (.int (0 : Int32))) (fun h => by rw [Bd.returns] at h; cases h)
  refine ⟨_, _, pre0 _ ?_, hrun, hended, _, _, rfl, ?_, ⟨_, rfl⟩, hW, hsame.mono (by decide) (by decide)⟩
  · show Steps p.tables e below (s₁.setTop (mkF m 0 #[.val (.ref a1), .val (.int p2)] [])) _
    refine XS.aloadN X0.here hx rfl (hb hby d9_0) rfl rfl ?_
    show Steps p.tables e below (s₁.setTop (mkF m 1 #[.val (.ref a1), .val (.int p2)] [(.ref a1)])) _
    refine st4 _ ?_
    show Steps p.tables e below (T4.setTop (mkF m 4 #[.val (.ref a1), .val (.int p2)] [(.ref w3)])) _
    refine XS.iloadN X4.here hx rfl (hb hby d9_4) rfl ?_
    show Steps p.tables e below (T4.setTop (mkF m 5 #[.val (.ref a1), .val (.int p2)] [(.int p2), (.ref w3)])) _
    refine XS.bipush X4.here hx rfl (hb hby d9_5) ?_
    show Steps p.tables e below (T4.setTop (mkF m 7 #[.val (.ref a1), .val (.int p2)] [(.int (64 : Int32)), (.int p2), (.ref w3)])) _
    refine XS.idiv X4.here hx rfl (hb hby d9_7) rfl hnz7 ?_
    show Steps p.tables e below (T4.setTop (mkF m 8 #[.val (.ref a1), .val (.int p2)] [(.int (p2 / (64 : Int32))), (.ref w3)])) _
    refine X4.laload hx (j := (p2 / (64 : Int32))) (v := (.long w5)) (by rw [e4]; exact Ar_w3.1) (State.isArrayOf_alike hZ.alike Ar_w3.2.1) Ar_w3.2.2 hin8 hat8 (g := (mkF m 8 #[.val (.ref a1), .val (.int p2)] [(.int (p2 / (64 : Int32))), (.ref w3)])) rfl rfl (hb hby d9_8) _ ?_
    show Steps p.tables e below (T4.setTop (mkF m 9 #[.val (.ref a1), .val (.int p2)] [(.long w5)])) _
    refine XS.iloadN X4.here hx rfl (hb hby d9_9) rfl ?_
    show Steps p.tables e below (T4.setTop (mkF m 10 #[.val (.ref a1), .val (.int p2)] [(.int p2), (.long w5)])) _
    refine st6 _ ?_
    show Steps p.tables e below (T6.setTop (mkF m 13 #[.val (.ref a1), .val (.int p2)] [(.long (own_bit p2)), (.long w5)])) _
    refine XS.land X6.here hx rfl (hb hby d9_13) rfl ?_
    show Steps p.tables e below (T6.setTop (mkF m 14 #[.val (.ref a1), .val (.int p2)] [(.long (w5 &&& (own_bit p2)))])) _
    refine XS.lconst X6.here hx rfl (hb hby d9_14) ?_
    show Steps p.tables e below (T6.setTop (mkF m 15 #[.val (.ref a1), .val (.int p2)] [(.long (0 : Int64)), (.long (w5 &&& (own_bit p2)))])) _
    refine XS.lcmp X6.here hx rfl (hb hby d9_15) rfl ?_
    show Steps p.tables e below (T6.setTop (mkF m 16 #[.val (.ref a1), .val (.int p2)] [(.int (lcmpW (w5 &&& (own_bit p2)) (0 : Int64)))])) _
    refine XS.ifYes X6.here hx rfl (pc0 := 16) (pc' := 23) rfl (hb hby d9_16) rfl ((if0 _ _).trans (teq (hk : (lcmpW (w5 &&& (own_bit p2)) (0 : Int64)) = (0 : Int32))).1) (by decide) (by decide) ?_
    show Steps p.tables e below (T6.setTop (mkF m 23 #[.val (.ref a1), .val (.int p2)] [])) _
    refine XS.iconst X6.here hx rfl (hb hby d9_23) ?_
    show Steps p.tables e below (T6.setTop (mkF m 24 #[.val (.ref a1), .val (.int p2)] [(.int (0 : Int32))])) _
    exact retN X6 hx (t := .boolean) Bd.returns (by simp) (hb hby d9_24) hr
  · show QI Z (0 : Int32) h0 n0 _ T6.heap _
    exact ⟨rfl, N6, e6⟩
theorem d9_19 : decode prog_96_method_5_code 19 = .ok (.iconst 1, 1) := by decide +kernel
theorem d9_20 : decode prog_96_method_5_code 20 = .ok (.goto 4, 3) := by decide +kernel
set_option maxRecDepth 65536 in
set_option maxHeartbeats 40000000 in
theorem rm9_1 (l : Launch) (Z : State) (a0 : Array Value) (hw : ∀ d ∈ tables_1, d.before a0 Z = true) (ws : List Jvm.Cond) (a1 : Addr) (p2 : Int32) (w3 : Addr) (w5 : Int64) (cl_w3 : Cell) (h0 : Heap) (n0 : Nat) (Z0 : n0 ≤ h0.size) (F_used_a1 : Fld Z h0 a1 "com/example/sectionary/sectionary/tables/LongKeyTable" "used" "[J" (.ref w3)) (Ar_w3 : Arr Z h0 w3 cl_w3 .long) (hin8 : ¬ ((p2 / (64 : Int32)) < 0 ∨ cl_w3.slots.size ≤ ((p2 / (64 : Int32))).toNatClampNeg)) (hat8 : cl_w3.slots[((p2 / (64 : Int32))).toNatClampNeg]? = some (.long w5)) (hnz7 : ¬ ((64 : Int32) = (0 : Int32))) (hk : ¬ ((lcmpW (w5 &&& own_bit p2) (0 : Int64)) = (0 : Int32))) :
    MetFree l (⟨"com/example/sectionary/sectionary/tables/LongKeyTable", "holds", "(I)Z"⟩ : MethodName) (head1 (Jvm.Cond.code (⟨"com/example/sectionary/sectionary/tables/LongKeyTable", "holds", "(I)Z"⟩ : MethodName) prog_96_method_5_code 2 (some .boolean) :: ws) ({ frames := 1, cells := 0, slots := 0, locals := 14 } : Room)) (fun a Us => a = #[(.ref a1), (.int p2)] ∧ Z.Warmed39 Us.vm ∧ Us.heap = h0) (fun _ _ _ _ _ => True) (fun _ Us o Us' => ∃ v L, o = .returned v ∧ QI Z (1 : Int32) h0 n0 v Us'.heap L ∧ FrameEnd Us o Us' L ({ frames := 1, cells := 0, slots := 0, locals := 14 } : Room).cells ({ frames := 1, cells := 0, slots := 0, locals := 14 } : Room).slots) := by
  refine MetFree.of_bodySF (plainFor_of_name pn_9) hisR ?_
  intro p e s m args below meth c s₁ Bd hml0 hP hK
  obtain ⟨rfl, hZ, hh⟩ := hP
  have hx := Bd.exec
  have hby := Bd.bytes
  have hml : c.maxLocals = 2 := hml0
  have hown : s.vm.findClass "com/example/sectionary/sectionary/tables/LongKeyTable" = some m.cls := findClass_of_methodNamed Bd.named
  have hnm := (name_of_methodNamed Bd.named Bd.method).1
  have X0 : Stand p l e ({ frames := 1, cells := 0, slots := 0, locals := 14 } : Room) s m #[(.ref a1), (.int p2)] below meth c s₁ [] 0 0 := Stand.of_body Bd
  have e0 : s₁.heap = h0 := by rw [← hh, Bd.state]; rfl
  have N0 := Fr.nil n0
  have pre0 : ∀ t, Steps p.tables e below (s₁.setTop (mkF m 0 #[.val (.ref a1), .val (.int p2)] [])) t → Steps p.tables e below (s₁.setTop (entryFrame m #[(.ref a1), (.int p2)] 2)) t := fun t k => castTop (ef_9 m a1 p2) k
  obtain ⟨T4, X4, e4, st4⟩ := getF X0 hx hZ hown (host := "") (Or.inl (hw _ (List.mem_of_getElem? (i := 17) rfl))) Via.refl e0 F_used_a1 (g := (mkF m 1 #[.val (.ref a1), .val (.int p2)] [(.ref a1)])) rfl rfl (hb hby d9_1)
  obtain ⟨_, _, ⟨T6, L6, k6, n6⟩, -, X6, ⟨Lc6, hQ6, l6, y6, z6⟩, st6⟩ := Jvm.LawKit.callS X4 hx (y := (⟨"com/example/sectionary/sectionary/tables/LongKeyTable", "bit", "(I)J"⟩ : MethodName)) hown (mvT hZ (hw _ (List.mem_of_getElem? (i := 53) rfl))) (mvT hZ (hw _ (List.mem_of_getElem? (i := 54) rfl))) (mvT hZ (hw _ (List.mem_of_getElem? (i := 9) rfl))) (mvT hZ (hw _ (List.mem_of_getElem? (i := 55) rfl))) (by decide) (backOf (W := 2) (rm10 l Z a0 hw [] p2  h0 n0 Z0 ) hZ (hw _ (List.mem_of_getElem? (i := 55) rfl)) (hw _ (List.mem_of_getElem? (i := 9) rfl)) (by decide) (by decide)) (g := (mkF m 10 #[.val (.ref a1), .val (.int p2)] [(.int p2), (.long w5)])) rfl (by rw [hml]; rfl) (argsL := [(.int p2)]) (rest := [(.long w5)]) (lenOf pd_9_5 rfl) rfl (by show 2 * 0 + _ ≤ _; exact Nat.le_of_eq rfl) (hb hby d9_10) (fun _ _ => ⟨rfl, e4, (by decide : 0 + 0 ≤ _), (by decide : 0 + 0 ≤ _)⟩)
  dsimp only [Pt.U, Pt.locs, Pt.cells, Pt.slots] at X6 l6 y6 z6 st6 hQ6
  subst l6 y6 z6
  obtain ⟨rfl, N6q, e6⟩ := hQ6
  have Kc6 : Keep h0 T6.heap [] := by rw [e6]; exact Keep.refl _ _
  have Zt6 : n0 ≤ T6.heap.size := Nat.le_trans Z0 Kc6.1
  have N6 := Fr.app N0 N6q
  obtain ⟨fs, hr, hrun, hended, hW, hsame⟩ := X6.leave (v := some (.int (1 : Int32))) (fun h => by rw [Bd.returns] at h; cases h)
  refine ⟨_, _, pre0 _ ?_, hrun, hended, _, _, rfl, ?_, ⟨_, rfl⟩, hW, hsame.mono (by decide) (by decide)⟩
  · show Steps p.tables e below (s₁.setTop (mkF m 0 #[.val (.ref a1), .val (.int p2)] [])) _
    refine XS.aloadN X0.here hx rfl (hb hby d9_0) rfl rfl ?_
    show Steps p.tables e below (s₁.setTop (mkF m 1 #[.val (.ref a1), .val (.int p2)] [(.ref a1)])) _
    refine st4 _ ?_
    show Steps p.tables e below (T4.setTop (mkF m 4 #[.val (.ref a1), .val (.int p2)] [(.ref w3)])) _
    refine XS.iloadN X4.here hx rfl (hb hby d9_4) rfl ?_
    show Steps p.tables e below (T4.setTop (mkF m 5 #[.val (.ref a1), .val (.int p2)] [(.int p2), (.ref w3)])) _
    refine XS.bipush X4.here hx rfl (hb hby d9_5) ?_
    show Steps p.tables e below (T4.setTop (mkF m 7 #[.val (.ref a1), .val (.int p2)] [(.int (64 : Int32)), (.int p2), (.ref w3)])) _
    refine XS.idiv X4.here hx rfl (hb hby d9_7) rfl hnz7 ?_
    show Steps p.tables e below (T4.setTop (mkF m 8 #[.val (.ref a1), .val (.int p2)] [(.int (p2 / (64 : Int32))), (.ref w3)])) _
    refine X4.laload hx (j := (p2 / (64 : Int32))) (v := (.long w5)) (by rw [e4]; exact Ar_w3.1) (State.isArrayOf_alike hZ.alike Ar_w3.2.1) Ar_w3.2.2 hin8 hat8 (g := (mkF m 8 #[.val (.ref a1), .val (.int p2)] [(.int (p2 / (64 : Int32))), (.ref w3)])) rfl rfl (hb hby d9_8) _ ?_
    show Steps p.tables e below (T4.setTop (mkF m 9 #[.val (.ref a1), .val (.int p2)] [(.long w5)])) _
    refine XS.iloadN X4.here hx rfl (hb hby d9_9) rfl ?_
    show Steps p.tables e below (T4.setTop (mkF m 10 #[.val (.ref a1), .val (.int p2)] [(.int p2), (.long w5)])) _
    refine st6 _ ?_
    show Steps p.tables e below (T6.setTop (mkF m 13 #[.val (.ref a1), .val (.int p2)] [(.long (own_bit p2)), (.long w5)])) _
    refine XS.land X6.here hx rfl (hb hby d9_13) rfl ?_
    show Steps p.tables e below (T6.setTop (mkF m 14 #[.val (.ref a1), .val (.int p2)] [(.long (w5 &&& (own_bit p2)))])) _
    refine XS.lconst X6.here hx rfl (hb hby d9_14) ?_
    show Steps p.tables e below (T6.setTop (mkF m 15 #[.val (.ref a1), .val (.int p2)] [(.long (0 : Int64)), (.long (w5 &&& (own_bit p2)))])) _
    refine XS.lcmp X6.here hx rfl (hb hby d9_15) rfl ?_
    show Steps p.tables e below (T6.setTop (mkF m 16 #[.val (.ref a1), .val (.int p2)] [(.int (lcmpW (w5 &&& (own_bit p2)) (0 : Int64)))])) _
    refine XS.ifNo X6.here hx rfl (hb hby d9_16) rfl ((if0 _ _).trans (feq (hk : ¬ ((lcmpW (w5 &&& (own_bit p2)) (0 : Int64)) = (0 : Int32)))).1) ?_
    show Steps p.tables e below (T6.setTop (mkF m 19 #[.val (.ref a1), .val (.int p2)] [])) _
    refine XS.iconst X6.here hx rfl (hb hby d9_19) ?_
    show Steps p.tables e below (T6.setTop (mkF m 20 #[.val (.ref a1), .val (.int p2)] [(.int (1 : Int32))])) _
    refine XS.goto X6.here hx rfl (pc0 := 20) (pc' := 24) rfl (hb hby d9_20) (by decide) (by decide) ?_
    show Steps p.tables e below (T6.setTop (mkF m 24 #[.val (.ref a1), .val (.int p2)] [(.int (1 : Int32))])) _
    exact retN X6 hx (t := .boolean) Bd.returns (by simp) (hb hby d9_24) hr
  · show QI Z (1 : Int32) h0 n0 _ T6.heap _
    exact ⟨rfl, N6, e6⟩
theorem rm9 (l : Launch) (Z : State) (a0 : Array Value) (hw : ∀ d ∈ tables_1, d.before a0 Z = true) (ws : List Jvm.Cond) (a1 : Addr) (p2 : Int32) (w3 : Addr) (U : Int64) (h0 : Heap) (n0 : Nat) (Z0 : n0 ≤ h0.size) (F_used_a1 : Fld Z h0 a1 "com/example/sectionary/sectionary/tables/LongKeyTable" "used" "[J" (.ref w3)) (Lu : own_L Z h0 w3 1 (fun _ => U)) (hi : p2 / (64 : Int32) = 0) :
    MetFree l (⟨"com/example/sectionary/sectionary/tables/LongKeyTable", "holds", "(I)Z"⟩ : MethodName) (head1 (Jvm.Cond.code (⟨"com/example/sectionary/sectionary/tables/LongKeyTable", "holds", "(I)Z"⟩ : MethodName) prog_96_method_5_code 2 (some .boolean) :: ws) ({ frames := 1, cells := 0, slots := 0, locals := 14 } : Room)) (fun a Us => a = #[(.ref a1), (.int p2)] ∧ Z.Warmed39 Us.vm ∧ Us.heap = h0) (fun _ _ _ _ _ => True) (fun _ Us o Us' => ∃ v L, o = .returned v ∧ QI Z (own_held U p2) h0 n0 v Us'.heap L ∧ FrameEnd Us o Us' L ({ frames := 1, cells := 0, slots := 0, locals := 14 } : Room).cells ({ frames := 1, cells := 0, slots := 0, locals := 14 } : Room).slots) := by
  obtain ⟨cl, A, S, H⟩ := Lu
  have hin : ¬ ((p2 / (64 : Int32)) < 0 ∨ cl.slots.size ≤ ((p2 / (64 : Int32))).toNatClampNeg) := by rw [hi]; exact own_in S (by decide) (by decide)
  have hat : cl.slots[((p2 / (64 : Int32))).toNatClampNeg]? = some (.long U) := by rw [hi]; exact H 0 (by decide)
  by_cases q : (lcmpW (U &&& own_bit p2) (0 : Int64)) = (0 : Int32)
  · have e : own_held U p2 = 0 := if_pos q
    rw [e]; exact rm9_0 l Z a0 hw ws a1 p2 w3 U cl h0 n0 Z0 F_used_a1 A hin hat (by decide) q
  · have e : own_held U p2 = 1 := if_neg q
    rw [e]; exact rm9_1 l Z a0 hw ws a1 p2 w3 U cl h0 n0 Z0 F_used_a1 A hin hat (by decide) q
theorem d8_0 : decode jdk_33_method_48_code 0 = .ok (.iload_n 0, 1) := by decide +kernel
theorem d8_1 : decode jdk_33_method_48_code 1 = .ok (.iconst (-1), 1) := by decide +kernel
theorem d8_2 : decode jdk_33_method_48_code 2 = .ok (.ixor, 1) := by decide +kernel
theorem d8_3 : decode jdk_33_method_48_code 3 = .ok (.iload_n 0, 1) := by decide +kernel
theorem d8_4 : decode jdk_33_method_48_code 4 = .ok (.iconst 1, 1) := by decide +kernel
theorem d8_5 : decode jdk_33_method_48_code 5 = .ok (.isub, 1) := by decide +kernel
theorem d8_6 : decode jdk_33_method_48_code 6 = .ok (.iand, 1) := by decide +kernel
theorem d8_7 : decode jdk_33_method_48_code 7 = .ok (.istore_n 0, 1) := by decide +kernel
theorem d8_8 : decode jdk_33_method_48_code 8 = .ok (.iload_n 0, 1) := by decide +kernel
theorem d8_9 : decode jdk_33_method_48_code 9 = .ok (.ifCond .gt 8, 3) := by decide +kernel
theorem d8_17 : decode jdk_33_method_48_code 17 = .ok (.iconst 1, 1) := by decide +kernel
theorem d8_18 : decode jdk_33_method_48_code 18 = .ok (.istore_n 1, 1) := by decide +kernel
theorem d8_19 : decode jdk_33_method_48_code 19 = .ok (.iload_n 0, 1) := by decide +kernel
theorem d8_20 : decode jdk_33_method_48_code 20 = .ok (.ldc_w 264, 3) := by decide +kernel
theorem d8_23 : decode jdk_33_method_48_code 23 = .ok (.if_icmp .le 11, 3) := by decide +kernel
theorem d8_34 : decode jdk_33_method_48_code 34 = .ok (.iload_n 0, 1) := by decide +kernel
theorem d8_35 : decode jdk_33_method_48_code 35 = .ok (.sipush 256, 3) := by decide +kernel
theorem d8_38 : decode jdk_33_method_48_code 38 = .ok (.if_icmp .le 11, 3) := by decide +kernel
theorem d8_49 : decode jdk_33_method_48_code 49 = .ok (.iload_n 0, 1) := by decide +kernel
theorem d8_50 : decode jdk_33_method_48_code 50 = .ok (.bipush 16, 2) := by decide +kernel
theorem d8_52 : decode jdk_33_method_48_code 52 = .ok (.if_icmp .le 10, 3) := by decide +kernel
theorem d8_55 : decode jdk_33_method_48_code 55 = .ok (.iinc 1 4, 3) := by decide +kernel
theorem d8_58 : decode jdk_33_method_48_code 58 = .ok (.iload_n 0, 1) := by decide +kernel
theorem d8_59 : decode jdk_33_method_48_code 59 = .ok (.iconst 4, 1) := by decide +kernel
theorem d8_60 : decode jdk_33_method_48_code 60 = .ok (.iushr, 1) := by decide +kernel
theorem d8_61 : decode jdk_33_method_48_code 61 = .ok (.istore_n 0, 1) := by decide +kernel
theorem d8_62 : decode jdk_33_method_48_code 62 = .ok (.iload_n 0, 1) := by decide +kernel
theorem d8_63 : decode jdk_33_method_48_code 63 = .ok (.iconst 4, 1) := by decide +kernel
theorem d8_64 : decode jdk_33_method_48_code 64 = .ok (.if_icmp .le 10, 3) := by decide +kernel
theorem d8_74 : decode jdk_33_method_48_code 74 = .ok (.iload_n 1, 1) := by decide +kernel
theorem d8_75 : decode jdk_33_method_48_code 75 = .ok (.iload_n 0, 1) := by decide +kernel
theorem d8_76 : decode jdk_33_method_48_code 76 = .ok (.iconst 1, 1) := by decide +kernel
theorem d8_77 : decode jdk_33_method_48_code 77 = .ok (.iushr, 1) := by decide +kernel
theorem d8_78 : decode jdk_33_method_48_code 78 = .ok (.iadd, 1) := by decide +kernel
theorem d8_79 : decode jdk_33_method_48_code 79 = .ok (.ireturn, 1) := by decide +kernel
theorem pn_8 : plainName "java/lang/Integer" = true := by first | (simp [plainName, overriddenIn]; done) | decide +kernel
theorem ef_8 (m : MethodId) (x0 : Int32) : entryFrame m #[(.int x0)] 2 = mkF m 0 #[.val (.int x0), .unset] [] := by first | (simp [entryFrame, mkF, argsToLocals, Value.category]; done) | rfl
set_option maxRecDepth 65536 in
set_option maxHeartbeats 40000000 in
theorem rm8_p (l : Launch) (Z : State) (a0 : Array Value) (hw : ∀ d ∈ tables_1, d.before a0 Z = true) (ws : List Jvm.Cond) (p1 : Int32) (h0 : Heap) (n0 : Nat) (Z0 : n0 ≤ h0.size) (hc9 : (0 : Int32) < ((p1 ^^^ (-1 : Int32)) &&& (p1 - (1 : Int32)))) (hc23 : ¬ ((65536 : Int32) < ((p1 ^^^ (-1 : Int32)) &&& (p1 - (1 : Int32))))) (hc38 : ¬ ((256 : Int32) < ((p1 ^^^ (-1 : Int32)) &&& (p1 - (1 : Int32))))) (hc52 : (16 : Int32) < ((p1 ^^^ (-1 : Int32)) &&& (p1 - (1 : Int32)))) (hc64 : ¬ ((4 : Int32) < ((((p1 ^^^ (-1 : Int32)) &&& (p1 - (1 : Int32))).toUInt32 >>> ((4 : Int32) &&& 31).toUInt32).toInt32))) :
    MetFree l (⟨"java/lang/Integer", "numberOfTrailingZeros", "(I)I"⟩ : MethodName) (head1 (Jvm.Cond.code (⟨"java/lang/Integer", "numberOfTrailingZeros", "(I)I"⟩ : MethodName) jdk_33_method_48_code 2 (some .int) :: ws) ({ frames := 0, cells := 0, slots := 0, locals := 0 } : Room)) (fun a Us => a = #[(.int p1)] ∧ Z.Warmed39 Us.vm ∧ Us.heap = h0) (fun _ _ _ _ _ => True) (fun _ Us o Us' => ∃ v L, o = .returned v ∧ QI Z (((1 : Int32) + (4 : Int32)) + ((((((p1 ^^^ (-1 : Int32)) &&& (p1 - (1 : Int32))).toUInt32 >>> ((4 : Int32) &&& 31).toUInt32).toInt32).toUInt32 >>> ((1 : Int32) &&& 31).toUInt32).toInt32)) h0 n0 v Us'.heap L ∧ FrameEnd Us o Us' L ({ frames := 0, cells := 0, slots := 0, locals := 0 } : Room).cells ({ frames := 0, cells := 0, slots := 0, locals := 0 } : Room).slots) := by
  refine MetFree.of_bodySF (plainFor_of_name pn_8) hisR ?_
  intro p e s m args below meth c s₁ Bd hml0 hP hK
  obtain ⟨rfl, hZ, hh⟩ := hP
  have hx := Bd.exec
  have hby := Bd.bytes
  have hml : c.maxLocals = 2 := hml0
  have hown : s.vm.findClass "java/lang/Integer" = some m.cls := findClass_of_methodNamed Bd.named
  have hnm := (name_of_methodNamed Bd.named Bd.method).1
  have X0 : Stand p l e ({ frames := 0, cells := 0, slots := 0, locals := 0 } : Room) s m #[(.int p1)] below meth c s₁ [] 0 0 := Stand.of_body Bd
  have e0 : s₁.heap = h0 := by rw [← hh, Bd.state]; rfl
  have N0 := Fr.nil n0
  have pre0 : ∀ t, Steps p.tables e below (s₁.setTop (mkF m 0 #[.val (.int p1), .unset] [])) t → Steps p.tables e below (s₁.setTop (entryFrame m #[(.int p1)] 2)) t := fun t k => castTop (ef_8 m p1) k
  obtain ⟨fs, hr, hrun, hended, hW, hsame⟩ := X0.leave (v := some (.int (((1 : Int32) + (4 : Int32)) + ((((((p1 ^^^ (-1 : Int32)) &&& (p1 - (1 : Int32))).toUInt32 >>> ((4 : Int32) &&& 31).toUInt32).toInt32).toUInt32 >>> ((1 : Int32) &&& 31).toUInt32).toInt32)))) (fun h => by rw [Bd.returns] at h; cases h)
  refine ⟨_, _, pre0 _ ?_, hrun, hended, _, _, rfl, ?_, ⟨_, rfl⟩, hW, hsame.mono (by decide) (by decide)⟩
  · show Steps p.tables e below (s₁.setTop (mkF m 0 #[.val (.int p1), .unset] [])) _
    refine XS.iloadN X0.here hx rfl (hb hby d8_0) rfl ?_
    show Steps p.tables e below (s₁.setTop (mkF m 1 #[.val (.int p1), .unset] [(.int p1)])) _
    refine XS.iconst X0.here hx rfl (hb hby d8_1) ?_
    show Steps p.tables e below (s₁.setTop (mkF m 2 #[.val (.int p1), .unset] [(.int (-1 : Int32)), (.int p1)])) _
    refine XS.ixor X0.here hx rfl (hb hby d8_2) rfl ?_
    show Steps p.tables e below (s₁.setTop (mkF m 3 #[.val (.int p1), .unset] [(.int (p1 ^^^ (-1 : Int32)))])) _
    refine XS.iloadN X0.here hx rfl (hb hby d8_3) rfl ?_
    show Steps p.tables e below (s₁.setTop (mkF m 4 #[.val (.int p1), .unset] [(.int p1), (.int (p1 ^^^ (-1 : Int32)))])) _
    refine XS.iconst X0.here hx rfl (hb hby d8_4) ?_
    show Steps p.tables e below (s₁.setTop (mkF m 5 #[.val (.int p1), .unset] [(.int (1 : Int32)), (.int p1), (.int (p1 ^^^ (-1 : Int32)))])) _
    refine XS.isub X0.here hx rfl (hb hby d8_5) rfl ?_
    show Steps p.tables e below (s₁.setTop (mkF m 6 #[.val (.int p1), .unset] [(.int (p1 - (1 : Int32))), (.int (p1 ^^^ (-1 : Int32)))])) _
    refine XS.iand X0.here hx rfl (hb hby d8_6) rfl ?_
    show Steps p.tables e below (s₁.setTop (mkF m 7 #[.val (.int p1), .unset] [(.int ((p1 ^^^ (-1 : Int32)) &&& (p1 - (1 : Int32))))])) _
    refine XS.istoreN X0.here hx rfl (hb hby d8_7) rfl (l' := #[.val (.int ((p1 ^^^ (-1 : Int32)) &&& (p1 - (1 : Int32)))), .unset]) rfl ?_
    show Steps p.tables e below (s₁.setTop (mkF m 8 #[.val (.int ((p1 ^^^ (-1 : Int32)) &&& (p1 - (1 : Int32)))), .unset] [])) _
    refine XS.iloadN X0.here hx rfl (hb hby d8_8) rfl ?_
    show Steps p.tables e below (s₁.setTop (mkF m 9 #[.val (.int ((p1 ^^^ (-1 : Int32)) &&& (p1 - (1 : Int32)))), .unset] [(.int ((p1 ^^^ (-1 : Int32)) &&& (p1 - (1 : Int32))))])) _
    refine XS.ifYes X0.here hx rfl (pc0 := 9) (pc' := 17) rfl (hb hby d8_9) rfl ((if0 _ _).trans (tlt hc9).2.2.1) (by decide) (by decide) ?_
    show Steps p.tables e below (s₁.setTop (mkF m 17 #[.val (.int ((p1 ^^^ (-1 : Int32)) &&& (p1 - (1 : Int32)))), .unset] [])) _
    refine XS.iconst X0.here hx rfl (hb hby d8_17) ?_
    show Steps p.tables e below (s₁.setTop (mkF m 18 #[.val (.int ((p1 ^^^ (-1 : Int32)) &&& (p1 - (1 : Int32)))), .unset] [(.int (1 : Int32))])) _
    refine XS.istoreN X0.here hx rfl (hb hby d8_18) rfl (l' := #[.val (.int ((p1 ^^^ (-1 : Int32)) &&& (p1 - (1 : Int32)))), .val (.int (1 : Int32))]) rfl ?_
    show Steps p.tables e below (s₁.setTop (mkF m 19 #[.val (.int ((p1 ^^^ (-1 : Int32)) &&& (p1 - (1 : Int32)))), .val (.int (1 : Int32))] [])) _
    refine XS.iloadN X0.here hx rfl (hb hby d8_19) rfl ?_
    show Steps p.tables e below (s₁.setTop (mkF m 20 #[.val (.int ((p1 ^^^ (-1 : Int32)) &&& (p1 - (1 : Int32)))), .val (.int (1 : Int32))] [(.int ((p1 ^^^ (-1 : Int32)) &&& (p1 - (1 : Int32))))])) _
    refine X0.ldcWI hx hown (mvT hZ (hw _ (List.mem_of_getElem? (i := 47) rfl))) rfl (hb hby d8_20) ?_
    show Steps p.tables e below (s₁.setTop (mkF m 23 #[.val (.int ((p1 ^^^ (-1 : Int32)) &&& (p1 - (1 : Int32)))), .val (.int (1 : Int32))] [(.int (65536 : Int32)), (.int ((p1 ^^^ (-1 : Int32)) &&& (p1 - (1 : Int32))))])) _
    refine XS.icmpYes X0.here hx rfl (pc0 := 23) (pc' := 34) rfl (hb hby d8_23) rfl (flt hc23).2.2.2 (by decide) (by decide) ?_
    show Steps p.tables e below (s₁.setTop (mkF m 34 #[.val (.int ((p1 ^^^ (-1 : Int32)) &&& (p1 - (1 : Int32)))), .val (.int (1 : Int32))] [])) _
    refine XS.iloadN X0.here hx rfl (hb hby d8_34) rfl ?_
    show Steps p.tables e below (s₁.setTop (mkF m 35 #[.val (.int ((p1 ^^^ (-1 : Int32)) &&& (p1 - (1 : Int32)))), .val (.int (1 : Int32))] [(.int ((p1 ^^^ (-1 : Int32)) &&& (p1 - (1 : Int32))))])) _
    refine XS.sipush X0.here hx rfl (hb hby d8_35) ?_
    show Steps p.tables e below (s₁.setTop (mkF m 38 #[.val (.int ((p1 ^^^ (-1 : Int32)) &&& (p1 - (1 : Int32)))), .val (.int (1 : Int32))] [(.int (256 : Int32)), (.int ((p1 ^^^ (-1 : Int32)) &&& (p1 - (1 : Int32))))])) _
    refine XS.icmpYes X0.here hx rfl (pc0 := 38) (pc' := 49) rfl (hb hby d8_38) rfl (flt hc38).2.2.2 (by decide) (by decide) ?_
    show Steps p.tables e below (s₁.setTop (mkF m 49 #[.val (.int ((p1 ^^^ (-1 : Int32)) &&& (p1 - (1 : Int32)))), .val (.int (1 : Int32))] [])) _
    refine XS.iloadN X0.here hx rfl (hb hby d8_49) rfl ?_
    show Steps p.tables e below (s₁.setTop (mkF m 50 #[.val (.int ((p1 ^^^ (-1 : Int32)) &&& (p1 - (1 : Int32)))), .val (.int (1 : Int32))] [(.int ((p1 ^^^ (-1 : Int32)) &&& (p1 - (1 : Int32))))])) _
    refine XS.bipush X0.here hx rfl (hb hby d8_50) ?_
    show Steps p.tables e below (s₁.setTop (mkF m 52 #[.val (.int ((p1 ^^^ (-1 : Int32)) &&& (p1 - (1 : Int32)))), .val (.int (1 : Int32))] [(.int (16 : Int32)), (.int ((p1 ^^^ (-1 : Int32)) &&& (p1 - (1 : Int32))))])) _
    refine XS.icmpNo X0.here hx rfl (hb hby d8_52) rfl (tlt hc52).2.2.2 ?_
    show Steps p.tables e below (s₁.setTop (mkF m 55 #[.val (.int ((p1 ^^^ (-1 : Int32)) &&& (p1 - (1 : Int32)))), .val (.int (1 : Int32))] [])) _
    refine XS.iinc X0.here hx rfl (hb hby d8_55) rfl (l' := #[.val (.int ((p1 ^^^ (-1 : Int32)) &&& (p1 - (1 : Int32)))), .val (.int ((1 : Int32) + (4 : Int32)))]) rfl ?_
    show Steps p.tables e below (s₁.setTop (mkF m 58 #[.val (.int ((p1 ^^^ (-1 : Int32)) &&& (p1 - (1 : Int32)))), .val (.int ((1 : Int32) + (4 : Int32)))] [])) _
    refine XS.iloadN X0.here hx rfl (hb hby d8_58) rfl ?_
    show Steps p.tables e below (s₁.setTop (mkF m 59 #[.val (.int ((p1 ^^^ (-1 : Int32)) &&& (p1 - (1 : Int32)))), .val (.int ((1 : Int32) + (4 : Int32)))] [(.int ((p1 ^^^ (-1 : Int32)) &&& (p1 - (1 : Int32))))])) _
    refine XS.iconst X0.here hx rfl (hb hby d8_59) ?_
    show Steps p.tables e below (s₁.setTop (mkF m 60 #[.val (.int ((p1 ^^^ (-1 : Int32)) &&& (p1 - (1 : Int32)))), .val (.int ((1 : Int32) + (4 : Int32)))] [(.int (4 : Int32)), (.int ((p1 ^^^ (-1 : Int32)) &&& (p1 - (1 : Int32))))])) _
    refine XS.iushr X0.here hx rfl (hb hby d8_60) rfl ?_
    show Steps p.tables e below (s₁.setTop (mkF m 61 #[.val (.int ((p1 ^^^ (-1 : Int32)) &&& (p1 - (1 : Int32)))), .val (.int ((1 : Int32) + (4 : Int32)))] [(.int ((((p1 ^^^ (-1 : Int32)) &&& (p1 - (1 : Int32))).toUInt32 >>> ((4 : Int32) &&& 31).toUInt32).toInt32))])) _
    refine XS.istoreN X0.here hx rfl (hb hby d8_61) rfl (l' := #[.val (.int ((((p1 ^^^ (-1 : Int32)) &&& (p1 - (1 : Int32))).toUInt32 >>> ((4 : Int32) &&& 31).toUInt32).toInt32)), .val (.int ((1 : Int32) + (4 : Int32)))]) rfl ?_
    show Steps p.tables e below (s₁.setTop (mkF m 62 #[.val (.int ((((p1 ^^^ (-1 : Int32)) &&& (p1 - (1 : Int32))).toUInt32 >>> ((4 : Int32) &&& 31).toUInt32).toInt32)), .val (.int ((1 : Int32) + (4 : Int32)))] [])) _
    refine XS.iloadN X0.here hx rfl (hb hby d8_62) rfl ?_
    show Steps p.tables e below (s₁.setTop (mkF m 63 #[.val (.int ((((p1 ^^^ (-1 : Int32)) &&& (p1 - (1 : Int32))).toUInt32 >>> ((4 : Int32) &&& 31).toUInt32).toInt32)), .val (.int ((1 : Int32) + (4 : Int32)))] [(.int ((((p1 ^^^ (-1 : Int32)) &&& (p1 - (1 : Int32))).toUInt32 >>> ((4 : Int32) &&& 31).toUInt32).toInt32))])) _
    refine XS.iconst X0.here hx rfl (hb hby d8_63) ?_
    show Steps p.tables e below (s₁.setTop (mkF m 64 #[.val (.int ((((p1 ^^^ (-1 : Int32)) &&& (p1 - (1 : Int32))).toUInt32 >>> ((4 : Int32) &&& 31).toUInt32).toInt32)), .val (.int ((1 : Int32) + (4 : Int32)))] [(.int (4 : Int32)), (.int ((((p1 ^^^ (-1 : Int32)) &&& (p1 - (1 : Int32))).toUInt32 >>> ((4 : Int32) &&& 31).toUInt32).toInt32))])) _
    refine XS.icmpYes X0.here hx rfl (pc0 := 64) (pc' := 74) rfl (hb hby d8_64) rfl (flt hc64).2.2.2 (by decide) (by decide) ?_
    show Steps p.tables e below (s₁.setTop (mkF m 74 #[.val (.int ((((p1 ^^^ (-1 : Int32)) &&& (p1 - (1 : Int32))).toUInt32 >>> ((4 : Int32) &&& 31).toUInt32).toInt32)), .val (.int ((1 : Int32) + (4 : Int32)))] [])) _
    refine XS.iloadN X0.here hx rfl (hb hby d8_74) rfl ?_
    show Steps p.tables e below (s₁.setTop (mkF m 75 #[.val (.int ((((p1 ^^^ (-1 : Int32)) &&& (p1 - (1 : Int32))).toUInt32 >>> ((4 : Int32) &&& 31).toUInt32).toInt32)), .val (.int ((1 : Int32) + (4 : Int32)))] [(.int ((1 : Int32) + (4 : Int32)))])) _
    refine XS.iloadN X0.here hx rfl (hb hby d8_75) rfl ?_
    show Steps p.tables e below (s₁.setTop (mkF m 76 #[.val (.int ((((p1 ^^^ (-1 : Int32)) &&& (p1 - (1 : Int32))).toUInt32 >>> ((4 : Int32) &&& 31).toUInt32).toInt32)), .val (.int ((1 : Int32) + (4 : Int32)))] [(.int ((((p1 ^^^ (-1 : Int32)) &&& (p1 - (1 : Int32))).toUInt32 >>> ((4 : Int32) &&& 31).toUInt32).toInt32)), (.int ((1 : Int32) + (4 : Int32)))])) _
    refine XS.iconst X0.here hx rfl (hb hby d8_76) ?_
    show Steps p.tables e below (s₁.setTop (mkF m 77 #[.val (.int ((((p1 ^^^ (-1 : Int32)) &&& (p1 - (1 : Int32))).toUInt32 >>> ((4 : Int32) &&& 31).toUInt32).toInt32)), .val (.int ((1 : Int32) + (4 : Int32)))] [(.int (1 : Int32)), (.int ((((p1 ^^^ (-1 : Int32)) &&& (p1 - (1 : Int32))).toUInt32 >>> ((4 : Int32) &&& 31).toUInt32).toInt32)), (.int ((1 : Int32) + (4 : Int32)))])) _
    refine XS.iushr X0.here hx rfl (hb hby d8_77) rfl ?_
    show Steps p.tables e below (s₁.setTop (mkF m 78 #[.val (.int ((((p1 ^^^ (-1 : Int32)) &&& (p1 - (1 : Int32))).toUInt32 >>> ((4 : Int32) &&& 31).toUInt32).toInt32)), .val (.int ((1 : Int32) + (4 : Int32)))] [(.int ((((((p1 ^^^ (-1 : Int32)) &&& (p1 - (1 : Int32))).toUInt32 >>> ((4 : Int32) &&& 31).toUInt32).toInt32).toUInt32 >>> ((1 : Int32) &&& 31).toUInt32).toInt32)), (.int ((1 : Int32) + (4 : Int32)))])) _
    refine XS.iadd X0.here hx rfl (hb hby d8_78) rfl ?_
    show Steps p.tables e below (s₁.setTop (mkF m 79 #[.val (.int ((((p1 ^^^ (-1 : Int32)) &&& (p1 - (1 : Int32))).toUInt32 >>> ((4 : Int32) &&& 31).toUInt32).toInt32)), .val (.int ((1 : Int32) + (4 : Int32)))] [(.int (((1 : Int32) + (4 : Int32)) + ((((((p1 ^^^ (-1 : Int32)) &&& (p1 - (1 : Int32))).toUInt32 >>> ((4 : Int32) &&& 31).toUInt32).toInt32).toUInt32 >>> ((1 : Int32) &&& 31).toUInt32).toInt32)))])) _
    exact retI X0 hx Bd.returns (hb hby d8_79) hr
  · show QI Z (((1 : Int32) + (4 : Int32)) + ((((((p1 ^^^ (-1 : Int32)) &&& (p1 - (1 : Int32))).toUInt32 >>> ((4 : Int32) &&& 31).toUInt32).toInt32).toUInt32 >>> ((1 : Int32) &&& 31).toUInt32).toInt32)) h0 n0 _ s₁.heap _
    rw [e0]
    exact ⟨rfl, N0, rfl⟩
theorem rm8 (l : Launch) (Z : State) (a0 : Array Value) (hw : ∀ d ∈ tables_1, d.before a0 Z = true) (ws : List Jvm.Cond) (h0 : Heap) (n0 : Nat) (Z0 : n0 ≤ h0.size) :
    MetFree l (⟨"java/lang/Integer", "numberOfTrailingZeros", "(I)I"⟩ : MethodName) (head1 (Jvm.Cond.code (⟨"java/lang/Integer", "numberOfTrailingZeros", "(I)I"⟩ : MethodName) jdk_33_method_48_code 2 (some .int) :: ws) ({ frames := 0, cells := 0, slots := 0, locals := 0 } : Room)) (fun a Us => a = #[(.int (64 : Int32))] ∧ Z.Warmed39 Us.vm ∧ Us.heap = h0) (fun _ _ _ _ _ => True) (fun _ Us o Us' => ∃ v L, o = .returned v ∧ QI Z 6 h0 n0 v Us'.heap L ∧ FrameEnd Us o Us' L ({ frames := 0, cells := 0, slots := 0, locals := 0 } : Room).cells ({ frames := 0, cells := 0, slots := 0, locals := 0 } : Room).slots) := rm8_p l Z a0 hw ws 64 h0 n0 Z0 (by decide) (by decide) (by decide) (by decide) (by decide)
def own_home (q : Int64) : Int32 := ((((q * (-7046029254386353131 : Int64)).toUInt64 >>> (((64 : Int32) - (6 : Int32)) &&& 0x3f).toInt64.toUInt64).toInt64).toInt32)
theorem d7_0 : decode prog_96_method_12_code 0 = .ok (.lload_n 1, 1) := by decide +kernel
theorem d7_1 : decode prog_96_method_12_code 1 = .ok (.ldc2_w 54, 3) := by decide +kernel
theorem d7_4 : decode prog_96_method_12_code 4 = .ok (.lmul, 1) := by decide +kernel
theorem d7_5 : decode prog_96_method_12_code 5 = .ok (.bipush 64, 2) := by decide +kernel
theorem d7_7 : decode prog_96_method_12_code 7 = .ok (.aload_n 0, 1) := by decide +kernel
theorem d7_8 : decode prog_96_method_12_code 8 = .ok (.getfield 9, 3) := by decide +kernel
theorem d7_11 : decode prog_96_method_12_code 11 = .ok (.arraylength, 1) := by decide +kernel
theorem d7_12 : decode prog_96_method_12_code 12 = .ok (.invokestatic 56, 3) := by decide +kernel
theorem d7_15 : decode prog_96_method_12_code 15 = .ok (.isub, 1) := by decide +kernel
theorem d7_16 : decode prog_96_method_12_code 16 = .ok (.lushr, 1) := by decide +kernel
theorem d7_17 : decode prog_96_method_12_code 17 = .ok (.l2i, 1) := by decide +kernel
theorem d7_18 : decode prog_96_method_12_code 18 = .ok (.ireturn, 1) := by decide +kernel
theorem pn_7 : plainName "com/example/sectionary/sectionary/tables/LongKeyTable" = true := by first | (simp [plainName, overriddenIn]; done) | decide +kernel
theorem pd_7_3 : parseMethodDescriptor "(I)I" = some ⟨[.int], some .int⟩ := by decide +kernel
theorem ef_7 (m : MethodId) (x0 : Addr) (x1 : Int64) : entryFrame m #[(.ref x0), (.long x1)] 3 = mkF m 0 #[.val (.ref x0), .val (.long x1), .second] [] := by first | (simp [entryFrame, mkF, argsToLocals, Value.category]; done) | rfl
set_option maxRecDepth 65536 in
set_option maxHeartbeats 40000000 in
theorem rm7_p (l : Launch) (Z : State) (a0 : Array Value) (hw : ∀ d ∈ tables_1, d.before a0 Z = true) (ws : List Jvm.Cond) (a1 : Addr) (q2 : Int64) (w3 : Addr) (cl_w3 : Cell) (h0 : Heap) (n0 : Nat) (Z0 : n0 ≤ h0.size) (F_keys_a1 : Fld Z h0 a1 "com/example/sectionary/sectionary/tables/LongKeyTable" "keys" "[J" (.ref w3)) (Ar_w3 : Arr Z h0 w3 cl_w3 .long) (S_w3 : cl_w3.slots.size = (64 : Int32).toNatClampNeg) (N_w3 : ¬ (64 : Int32) < 0) :
    MetFree l (⟨"com/example/sectionary/sectionary/tables/LongKeyTable", "home", "(J)I"⟩ : MethodName) (head1 (Jvm.Cond.code (⟨"com/example/sectionary/sectionary/tables/LongKeyTable", "home", "(J)I"⟩ : MethodName) prog_96_method_12_code 3 (some .int) :: ws) ({ frames := 1, cells := 0, slots := 0, locals := 16 } : Room)) (fun a Us => a = #[(.ref a1), (.long q2)] ∧ Z.Warmed39 Us.vm ∧ Us.heap = h0) (fun _ _ _ _ _ => True) (fun _ Us o Us' => ∃ v L, o = .returned v ∧ QI Z (own_home q2) h0 n0 v Us'.heap L ∧ FrameEnd Us o Us' L ({ frames := 1, cells := 0, slots := 0, locals := 16 } : Room).cells ({ frames := 1, cells := 0, slots := 0, locals := 16 } : Room).slots) := by
  refine MetFree.of_bodySF (plainFor_of_name pn_7) hisR ?_
  intro p e s m args below meth c s₁ Bd hml0 hP hK
  obtain ⟨rfl, hZ, hh⟩ := hP
  have hx := Bd.exec
  have hby := Bd.bytes
  have hml : c.maxLocals = 3 := hml0
  have hown : s.vm.findClass "com/example/sectionary/sectionary/tables/LongKeyTable" = some m.cls := findClass_of_methodNamed Bd.named
  have hnm := (name_of_methodNamed Bd.named Bd.method).1
  have X0 : Stand p l e ({ frames := 1, cells := 0, slots := 0, locals := 16 } : Room) s m #[(.ref a1), (.long q2)] below meth c s₁ [] 0 0 := Stand.of_body Bd
  have e0 : s₁.heap = h0 := by rw [← hh, Bd.state]; rfl
  have N0 := Fr.nil n0
  have pre0 : ∀ t, Steps p.tables e below (s₁.setTop (mkF m 0 #[.val (.ref a1), .val (.long q2), .second] [])) t → Steps p.tables e below (s₁.setTop (entryFrame m #[(.ref a1), (.long q2)] 3)) t := fun t k => castTop (ef_7 m a1 q2) k
  obtain ⟨T4, X4, e4, st4⟩ := getF X0 hx hZ hown (host := "") (Or.inl (hw _ (List.mem_of_getElem? (i := 15) rfl))) Via.refl e0 F_keys_a1 (g := (mkF m 8 #[.val (.ref a1), .val (.long q2), .second] [(.ref a1), (.int (64 : Int32)), (.long (q2 * (-7046029254386353131 : Int64)))])) rfl rfl (hb hby d7_8)
  obtain ⟨_, _, ⟨T5, L5, k5, n5⟩, -, X5, ⟨Lc5, hQ5, l5, y5, z5⟩, st5⟩ := Jvm.LawKit.callS X4 hx (y := (⟨"java/lang/Integer", "numberOfTrailingZeros", "(I)I"⟩ : MethodName)) hown (mvT hZ (hw _ (List.mem_of_getElem? (i := 43) rfl))) (mvT hZ (hw _ (List.mem_of_getElem? (i := 44) rfl))) (mvT hZ (hw _ (List.mem_of_getElem? (i := 45) rfl))) (mvT hZ (hw _ (List.mem_of_getElem? (i := 46) rfl))) (by decide) (backOf (W := 3) (rm8 l Z a0 hw []  h0 n0 Z0 ) hZ (hw _ (List.mem_of_getElem? (i := 46) rfl)) (hw _ (List.mem_of_getElem? (i := 45) rfl)) (by decide) (by decide)) (g := (mkF m 12 #[.val (.ref a1), .val (.long q2), .second] [(.int (64 : Int32)), (.int (64 : Int32)), (.long (q2 * (-7046029254386353131 : Int64)))])) rfl (by rw [hml]; rfl) (argsL := [(.int (64 : Int32))]) (rest := [(.int (64 : Int32)), (.long (q2 * (-7046029254386353131 : Int64)))]) (lenOf pd_7_3 rfl) rfl (by show 2 * 0 + _ ≤ _; exact Nat.le_of_eq rfl) (hb hby d7_12) (fun _ _ => ⟨rfl, e4, (by decide : 0 + 0 ≤ _), (by decide : 0 + 0 ≤ _)⟩)
  dsimp only [Pt.U, Pt.locs, Pt.cells, Pt.slots] at X5 l5 y5 z5 st5 hQ5
  subst l5 y5 z5
  obtain ⟨rfl, N5q, e5⟩ := hQ5
  have Kc5 : Keep h0 T5.heap [] := by rw [e5]; exact Keep.refl _ _
  have Zt5 : n0 ≤ T5.heap.size := Nat.le_trans Z0 Kc5.1
  have N5 := Fr.app N0 N5q
  obtain ⟨fs, hr, hrun, hended, hW, hsame⟩ := X5.leave (v := some (.int ((((q2 * (-7046029254386353131 : Int64)).toUInt64 >>> (((64 : Int32) - (6 : Int32)) &&& 0x3f).toInt64.toUInt64).toInt64).toInt32))) (fun h => by rw [Bd.returns] at h; cases h)
  refine ⟨_, _, pre0 _ ?_, hrun, hended, _, _, rfl, ?_, ⟨_, rfl⟩, hW, hsame.mono (by decide) (by decide)⟩
  · show Steps p.tables e below (s₁.setTop (mkF m 0 #[.val (.ref a1), .val (.long q2), .second] [])) _
    refine XS.lloadN X0.here hx rfl (hb hby d7_0) rfl ?_
    show Steps p.tables e below (s₁.setTop (mkF m 1 #[.val (.ref a1), .val (.long q2), .second] [(.long q2)])) _
    refine X0.ldc2Long hx hown (mvT hZ (hw _ (List.mem_of_getElem? (i := 42) rfl))) (g := (mkF m 1 #[.val (.ref a1), .val (.long q2), .second] [(.long q2)])) rfl (hb hby d7_1) _ ?_
    show Steps p.tables e below (s₁.setTop (mkF m 4 #[.val (.ref a1), .val (.long q2), .second] [(.long (-7046029254386353131 : Int64)), (.long q2)])) _
    refine XS.lmul X0.here hx rfl (hb hby d7_4) rfl ?_
    show Steps p.tables e below (s₁.setTop (mkF m 5 #[.val (.ref a1), .val (.long q2), .second] [(.long (q2 * (-7046029254386353131 : Int64)))])) _
    refine XS.bipush X0.here hx rfl (hb hby d7_5) ?_
    show Steps p.tables e below (s₁.setTop (mkF m 7 #[.val (.ref a1), .val (.long q2), .second] [(.int (64 : Int32)), (.long (q2 * (-7046029254386353131 : Int64)))])) _
    refine XS.aloadN X0.here hx rfl (hb hby d7_7) rfl rfl ?_
    show Steps p.tables e below (s₁.setTop (mkF m 8 #[.val (.ref a1), .val (.long q2), .second] [(.ref a1), (.int (64 : Int32)), (.long (q2 * (-7046029254386353131 : Int64)))])) _
    refine st4 _ ?_
    show Steps p.tables e below (T4.setTop (mkF m 11 #[.val (.ref a1), .val (.long q2), .second] [(.ref w3), (.int (64 : Int32)), (.long (q2 * (-7046029254386353131 : Int64)))])) _
    refine X4.arraylength hx (by rw [e4]; exact Ar_w3.1) (State.isArrayOf_alike hZ.alike Ar_w3.2.1) (g := (mkF m 11 #[.val (.ref a1), .val (.long q2), .second] [(.ref w3), (.int (64 : Int32)), (.long (q2 * (-7046029254386353131 : Int64)))])) rfl rfl (hb hby d7_11) _ ?_
    rw [len_of S_w3 N_w3]
    show Steps p.tables e below (T4.setTop (mkF m 12 #[.val (.ref a1), .val (.long q2), .second] [(.int (64 : Int32)), (.int (64 : Int32)), (.long (q2 * (-7046029254386353131 : Int64)))])) _
    refine st5 _ ?_
    show Steps p.tables e below (T5.setTop (mkF m 15 #[.val (.ref a1), .val (.long q2), .second] [(.int (6 : Int32)), (.int (64 : Int32)), (.long (q2 * (-7046029254386353131 : Int64)))])) _
    refine XS.isub X5.here hx rfl (hb hby d7_15) rfl ?_
    show Steps p.tables e below (T5.setTop (mkF m 16 #[.val (.ref a1), .val (.long q2), .second] [(.int ((64 : Int32) - (6 : Int32))), (.long (q2 * (-7046029254386353131 : Int64)))])) _
    refine XS.lushr X5.here hx rfl (hb hby d7_16) rfl ?_
    show Steps p.tables e below (T5.setTop (mkF m 17 #[.val (.ref a1), .val (.long q2), .second] [(.long (((q2 * (-7046029254386353131 : Int64)).toUInt64 >>> (((64 : Int32) - (6 : Int32)) &&& 0x3f).toInt64.toUInt64).toInt64))])) _
    refine XS.l2i X5.here hx rfl (hb hby d7_17) rfl ?_
    show Steps p.tables e below (T5.setTop (mkF m 18 #[.val (.ref a1), .val (.long q2), .second] [(.int ((((q2 * (-7046029254386353131 : Int64)).toUInt64 >>> (((64 : Int32) - (6 : Int32)) &&& 0x3f).toInt64.toUInt64).toInt64).toInt32))])) _
    exact retI X5 hx Bd.returns (hb hby d7_18) hr
  · show QI Z (own_home q2) h0 n0 _ T5.heap _
    exact ⟨rfl, N5, e5⟩
theorem rm7 (l : Launch) (Z : State) (a0 : Array Value) (hw : ∀ d ∈ tables_1, d.before a0 Z = true) (ws : List Jvm.Cond) (a1 : Addr) (q2 : Int64) (w3 : Addr) (K : Nat → Int64) (h0 : Heap) (n0 : Nat) (Z0 : n0 ≤ h0.size) (F_keys_a1 : Fld Z h0 a1 "com/example/sectionary/sectionary/tables/LongKeyTable" "keys" "[J" (.ref w3)) (Lk : own_L Z h0 w3 64 K) :
    MetFree l (⟨"com/example/sectionary/sectionary/tables/LongKeyTable", "home", "(J)I"⟩ : MethodName) (head1 (Jvm.Cond.code (⟨"com/example/sectionary/sectionary/tables/LongKeyTable", "home", "(J)I"⟩ : MethodName) prog_96_method_12_code 3 (some .int) :: ws) ({ frames := 1, cells := 0, slots := 0, locals := 16 } : Room)) (fun a Us => a = #[(.ref a1), (.long q2)] ∧ Z.Warmed39 Us.vm ∧ Us.heap = h0) (fun _ _ _ _ _ => True) (fun _ Us o Us' => ∃ v L, o = .returned v ∧ QI Z (own_home q2) h0 n0 v Us'.heap L ∧ FrameEnd Us o Us' L ({ frames := 1, cells := 0, slots := 0, locals := 16 } : Room).cells ({ frames := 1, cells := 0, slots := 0, locals := 16 } : Room).slots) := by
  obtain ⟨cl, A, S, H⟩ := Lk
  exact rm7_p l Z a0 hw ws a1 q2 w3 cl h0 n0 Z0 F_keys_a1 A S (by decide)
def own_nx (r : Int32) : Int32 := (r + (1 : Int32)) &&& ((64 : Int32) - (1 : Int32))
def own_ix (r : Int32) : Prop := ¬ r < 0 ∧ r.toNatClampNeg < 64 ∧ r / (64 : Int32) = 0
theorem own_ix_of {r : Int32} (h0 : 0 ≤ r.toInt) (h1 : r.toInt < 64) : own_ix r := by
  have k0 : (0 : Int32).toInt = 0 := by decide
  refine ⟨by rw [Int32.lt_iff_toInt_lt, k0]; omega, by simp only [Int32.toNatClampNeg]; omega, ?_⟩
  apply Int32.toInt_inj.mp
  rw [(c_idiv r 64 64 (by decide) (by decide)).1 h0, k0]
  omega
theorem own_home_ix (q : Int64) : own_ix (own_home q) := by
  have h1 := c_lushr (q * (-7046029254386353131 : Int64)) ((64 : Int32) - (6 : Int32)) 58 (by decide) (by decide)
  have h2 := Int.emod_nonneg (q * (-7046029254386353131 : Int64)).toInt (show (18446744073709551616 : Int) ≠ 0 by decide)
  have h3 := Int.emod_lt_of_pos (q * (-7046029254386353131 : Int64)).toInt (show (0 : Int) < 18446744073709551616 by decide)
  have k : ((2 ^ 58 : Nat) : Int) = 288230376151711744 := by decide
  rw [k] at h1
  have h4 := c_l2i ((((q * (-7046029254386353131 : Int64)).toUInt64 >>> (((64 : Int32) - (6 : Int32)) &&& 0x3f).toInt64.toUInt64).toInt64))
  have h5 := rng32 (own_home q)
  have h6 : own_home q = (((((q * (-7046029254386353131 : Int64)).toUInt64 >>> (((64 : Int32) - (6 : Int32)) &&& 0x3f).toInt64.toUInt64).toInt64).toInt32)) := rfl
  rw [← h6, h1] at h4
  apply own_ix_of <;> omega
theorem own_nx_ix (r : Int32) : own_ix (own_nx r) := by
  have h := c_mask (r + 1) 63 6 (by decide) (by decide)
  have e : own_nx r = (r + 1) &&& 63 := rfl
  rw [← e] at h
  have k : ((2 ^ 6 : Nat) : Int) = 64 := by decide
  rw [k] at h
  have h2 := Int.emod_nonneg (r + 1).toInt (show (64 : Int) ≠ 0 by decide)
  have h3 := Int.emod_lt_of_pos (r + 1).toInt (show (0 : Int) < 64 by decide)
  apply own_ix_of <;> omega
theorem d6_0 : decode prog_96_method_4_code 0 = .ok (.aload_n 0, 1) := by decide +kernel
theorem d6_1 : decode prog_96_method_4_code 1 = .ok (.getfield 9, 3) := by decide +kernel
theorem d6_4 : decode prog_96_method_4_code 4 = .ok (.arraylength, 1) := by decide +kernel
theorem d6_5 : decode prog_96_method_4_code 5 = .ok (.iconst 1, 1) := by decide +kernel
theorem d6_6 : decode prog_96_method_4_code 6 = .ok (.isub, 1) := by decide +kernel
theorem d6_7 : decode prog_96_method_4_code 7 = .ok (.istore_n 3, 1) := by decide +kernel
theorem d6_8 : decode prog_96_method_4_code 8 = .ok (.aload_n 0, 1) := by decide +kernel
theorem d6_9 : decode prog_96_method_4_code 9 = .ok (.lload_n 1, 1) := by decide +kernel
theorem d6_10 : decode prog_96_method_4_code 10 = .ok (.invokevirtual 30, 3) := by decide +kernel
theorem d6_13 : decode prog_96_method_4_code 13 = .ok (.istore 4, 2) := by decide +kernel
theorem d6_15 : decode prog_96_method_4_code 15 = .ok (.aload_n 0, 1) := by decide +kernel
theorem d6_16 : decode prog_96_method_4_code 16 = .ok (.iload 4, 2) := by decide +kernel
theorem d6_18 : decode prog_96_method_4_code 18 = .ok (.invokevirtual 26, 3) := by decide +kernel
theorem d6_21 : decode prog_96_method_4_code 21 = .ok (.ifCond .eq 26, 3) := by decide +kernel
theorem d6_47 : decode prog_96_method_4_code 47 = .ok (.iload 4, 2) := by decide +kernel
theorem d6_49 : decode prog_96_method_4_code 49 = .ok (.ireturn, 1) := by decide +kernel
theorem pn_6 : plainName "com/example/sectionary/sectionary/tables/LongKeyTable" = true := by first | (simp [plainName, overriddenIn]; done) | decide +kernel
theorem pd_6_2 : parseMethodDescriptor "(J)I" = some ⟨[.long], some .int⟩ := by decide +kernel
theorem pd_6_4 : parseMethodDescriptor "(I)Z" = some ⟨[.int], some .boolean⟩ := by decide +kernel
theorem ef_6 (m : MethodId) (x0 : Addr) (x1 : Int64) : entryFrame m #[(.ref x0), (.long x1)] 5 = mkF m 0 #[.val (.ref x0), .val (.long x1), .second, .unset, .unset] [] := by first | (simp [entryFrame, mkF, argsToLocals, Value.category]; done) | rfl
set_option maxRecDepth 65536 in
set_option maxHeartbeats 40000000 in
theorem rm6_t (l : Launch) (Z : State) (a0 : Array Value) (hw : ∀ d ∈ tables_1, d.before a0 Z = true) (ws : List Jvm.Cond) (a1 : Addr) (q2 : Int64) (w3 b : Addr) (K : Nat → Int64) (U : Int64) (h0 : Heap) (n0 : Nat) (Z0 : n0 ≤ h0.size) (E_a1 : Exa Z h0 a1 "com/example/sectionary/sectionary/tables/LongKeyIntMap") (F_keys_a1 : Fld Z h0 a1 "com/example/sectionary/sectionary/tables/LongKeyTable" "keys" "[J" (.ref w3)) (F_used : Fld Z h0 a1 "com/example/sectionary/sectionary/tables/LongKeyTable" "used" "[J" (.ref b)) (Lk : own_L Z h0 w3 64 K) (Lu : own_L Z h0 b 1 (fun _ => U)) (c1 : own_held U (own_home q2) = 0) :
    MetFree l (⟨"com/example/sectionary/sectionary/tables/LongKeyTable", "slot", "(J)I"⟩ : MethodName) (head1 (Jvm.Cond.code (⟨"com/example/sectionary/sectionary/tables/LongKeyTable", "slot", "(J)I"⟩ : MethodName) prog_96_method_4_code 5 (some .int) :: ws) ({ frames := 2, cells := 0, slots := 0, locals := 30 } : Room)) (fun a Us => a = #[(.ref a1), (.long q2)] ∧ Z.Warmed39 Us.vm ∧ Us.heap = h0) (fun _ _ _ _ _ => True) (fun _ Us o Us' => ∃ v L, o = .returned v ∧ QI Z (own_home q2) h0 n0 v Us'.heap L ∧ FrameEnd Us o Us' L ({ frames := 2, cells := 0, slots := 0, locals := 30 } : Room).cells ({ frames := 2, cells := 0, slots := 0, locals := 30 } : Room).slots) := by
  refine MetFree.of_bodySF (plainFor_of_name pn_6) hisR ?_
  intro p e s m args below meth c s₁ Bd hml0 hP hK
  obtain ⟨rfl, hZ, hh⟩ := hP
  have hx := Bd.exec
  have hby := Bd.bytes
  have hml : c.maxLocals = 5 := hml0
  have hown : s.vm.findClass "com/example/sectionary/sectionary/tables/LongKeyTable" = some m.cls := findClass_of_methodNamed Bd.named
  have hnm := (name_of_methodNamed Bd.named Bd.method).1
  have X0 : Stand p l e ({ frames := 2, cells := 0, slots := 0, locals := 30 } : Room) s m #[(.ref a1), (.long q2)] below meth c s₁ [] 0 0 := Stand.of_body Bd
  have e0 : s₁.heap = h0 := by rw [← hh, Bd.state]; rfl
  have N0 := Fr.nil n0
  obtain ⟨cX, rX, mX, -, -, q3, -, kP, hkP, hkPi⟩ := Cond.selects_spec (args := #[]) (mvT hZ (hw _ (List.mem_of_getElem? (i := 51) rfl)))
  obtain ⟨cl_w3, Ar_w3, S_w3, Hk⟩ := id Lk
  have N_w3 : ¬ (64 : Int32) < 0 := by decide
  have ix := own_home_ix q2
  have iy := own_nx_ix (own_home q2)
  have pre0 : ∀ t, Steps p.tables e below (s₁.setTop (mkF m 0 #[.val (.ref a1), .val (.long q2), .second, .unset, .unset] [])) t → Steps p.tables e below (s₁.setTop (entryFrame m #[(.ref a1), (.long q2)] 5)) t := fun t k => castTop (ef_6 m a1 q2) k
  obtain ⟨T4, X4, e4, st4⟩ := getF X0 hx hZ hown (host := "") (Or.inl (hw _ (List.mem_of_getElem? (i := 15) rfl))) Via.refl e0 F_keys_a1 (g := (mkF m 1 #[.val (.ref a1), .val (.long q2), .second, .unset, .unset] [(.ref a1)])) rfl rfl (hb hby d6_1)
  obtain ⟨cq5, q5, q5'⟩ := E_a1.cell
  obtain ⟨_, _, ⟨T5, L5, k5, n5⟩, -, X5, ⟨Lc5, hQ5, l5, y5, z5⟩, st5⟩ := X4.privateBack hx (y := (⟨"com/example/sectionary/sectionary/tables/LongKeyTable", "home", "(J)I"⟩ : MethodName)) hown (mvT hZ (hw _ (List.mem_of_getElem? (i := 38) rfl))) (mvT hZ (hw _ (List.mem_of_getElem? (i := 39) rfl))) (selects_self_of_private (show s.vm.findClass "com/example/sectionary/sectionary/tables/LongKeyTable" = some mX.cls from findClass_of_methodNamed q3) hkP hkPi (Cond.privateMethod_at (mvP hZ (hw _ (List.mem_of_getElem? (i := 40) rfl)) (args := #[]))) (mvT hZ (hw _ (List.mem_of_getElem? (i := 39) rfl))) (by decide)) (Cond.privateMethod_at (mvP hZ (hw _ (List.mem_of_getElem? (i := 40) rfl)) (args := #[]))) (mvT hZ (hw _ (List.mem_of_getElem? (i := 41) rfl))) (by decide) (backOf (W := 0) (rm7 l Z a0 hw [] a1 q2 w3 K h0 n0 Z0 F_keys_a1 Lk) hZ (hw _ (List.mem_of_getElem? (i := 41) rfl)) (hw _ (List.mem_of_getElem? (i := 9) rfl)) (by decide) (by decide)) (g := (mkF m 10 #[.val (.ref a1), .val (.long q2), .second, .val (.int ((64 : Int32) - (1 : Int32))), .unset] [(.long q2), (.ref a1)])) rfl (by rw [hml]; rfl) (Steps.refl _) (a := a1) (by rw [e4]; exact q5) q5' (argsL := [(.long q2)]) (rest := []) (lenOf pd_6_2 rfl) rfl (by show 2 * 0 + _ ≤ _; exact Nat.le_of_eq rfl) (hb hby d6_10) (fun _ _ => ⟨rfl, e4, (by decide : 0 + 0 ≤ _), (by decide : 0 + 0 ≤ _)⟩)
  dsimp only [Pt.U, Pt.locs, Pt.cells, Pt.slots] at X5 l5 y5 z5 st5 hQ5
  subst l5 y5 z5
  obtain ⟨rfl, N5q, e5⟩ := hQ5
  have Kc5 : Keep h0 T5.heap [] := by rw [e5]; exact Keep.refl _ _
  have Zt5 : n0 ≤ T5.heap.size := Nat.le_trans Z0 Kc5.1
  have N5 := Fr.app N0 N5q
  obtain ⟨cq6, kq6, q6a, q6b, q6c⟩ := isOf hZ rfl (E_a1.keep Kc5)
  obtain ⟨_, _, ⟨T6, L6, k6, n6⟩, -, X6, ⟨Lc6, hQ6, l6, y6, z6⟩, st6⟩ := X5.virtualBack hx (y := (⟨"com/example/sectionary/sectionary/tables/LongKeyTable", "holds", "(I)Z"⟩ : MethodName)) (z := (⟨"com/example/sectionary/sectionary/tables/LongKeyTable", "holds", "(I)Z"⟩ : MethodName)) hown (mvT hZ (hw _ (List.mem_of_getElem? (i := 48) rfl))) (mvT hZ (hw _ (List.mem_of_getElem? (i := 49) rfl))) (notFace_of_selects (args := #[]) (mvT hZ (hw _ (List.mem_of_getElem? (i := 51) rfl)))) (mvT hZ (hw _ (List.mem_of_getElem? (i := 51) rfl))) (mvT hZ (hw _ (List.mem_of_getElem? (i := 50) rfl))) (by decide) (backOf (W := 0) (rm9 l Z a0 hw [] a1 (own_home q2) b U T5.heap n0 Zt5 (by rw [e5]; exact F_used) (by rw [e5]; exact Lu) ix.2.2) hZ (hw _ (List.mem_of_getElem? (i := 52) rfl)) (hw _ (List.mem_of_getElem? (i := 9) rfl)) (by decide) (by decide)) q6a q6c (g := (mkF m 18 #[.val (.ref a1), .val (.long q2), .second, .val (.int ((64 : Int32) - (1 : Int32))), .val (.int (own_home q2))] [(.int (own_home q2)), (.ref a1)])) rfl (by rw [hml]; rfl) (Steps.refl _) (argsL := [(.int (own_home q2))]) (rest := []) (lenOf pd_6_4 rfl) rfl (by show 2 * 0 + _ ≤ _; exact Nat.le_of_eq rfl) (hb hby d6_18) (fun _ _ => ⟨rfl, rfl, (by decide : 0 + 0 ≤ _), (by decide : 0 + 0 ≤ _)⟩)
  dsimp only [Pt.U, Pt.locs, Pt.cells, Pt.slots] at X6 l6 y6 z6 st6 hQ6
  subst l6 y6 z6
  obtain ⟨rfl, N6q, e6⟩ := hQ6
  have Kc6 : Keep T5.heap T6.heap [] := by rw [e6]; exact Keep.refl _ _
  have Zt6 : n0 ≤ T6.heap.size := Nat.le_trans Zt5 Kc6.1
  have Ar_w7 : Arr Z T6.heap w3 cl_w3 .long := by rw [e6, e5]; exact Ar_w3
  have N6 := Fr.app N5 N6q
  obtain ⟨fs, hr, hrun, hended, hW, hsame⟩ := X6.leave (v := some (.int (own_home q2))) (fun h => by rw [Bd.returns] at h; cases h)
  refine ⟨_, _, pre0 _ ?_, hrun, hended, _, _, rfl, ?_, ⟨_, rfl⟩, hW, hsame.mono (by decide) (by decide)⟩
  · show Steps p.tables e below (s₁.setTop (mkF m 0 #[.val (.ref a1), .val (.long q2), .second, .unset, .unset] [])) _
    refine XS.aloadN X0.here hx rfl (hb hby d6_0) rfl rfl ?_
    show Steps p.tables e below (s₁.setTop (mkF m 1 #[.val (.ref a1), .val (.long q2), .second, .unset, .unset] [(.ref a1)])) _
    refine st4 _ ?_
    show Steps p.tables e below (T4.setTop (mkF m 4 #[.val (.ref a1), .val (.long q2), .second, .unset, .unset] [(.ref w3)])) _
    refine X4.arraylength hx (by rw [e4]; exact Ar_w3.1) (State.isArrayOf_alike hZ.alike Ar_w3.2.1) (g := (mkF m 4 #[.val (.ref a1), .val (.long q2), .second, .unset, .unset] [(.ref w3)])) rfl rfl (hb hby d6_4) _ ?_
    rw [len_of (z := (64 : Int32)) S_w3 N_w3]
    show Steps p.tables e below (T4.setTop (mkF m 5 #[.val (.ref a1), .val (.long q2), .second, .unset, .unset] [(.int (64 : Int32))])) _
    refine XS.iconst X4.here hx rfl (hb hby d6_5) ?_
    show Steps p.tables e below (T4.setTop (mkF m 6 #[.val (.ref a1), .val (.long q2), .second, .unset, .unset] [(.int (1 : Int32)), (.int (64 : Int32))])) _
    refine XS.isub X4.here hx rfl (hb hby d6_6) rfl ?_
    show Steps p.tables e below (T4.setTop (mkF m 7 #[.val (.ref a1), .val (.long q2), .second, .unset, .unset] [(.int ((64 : Int32) - (1 : Int32)))])) _
    refine XS.istoreN X4.here hx rfl (hb hby d6_7) rfl (l' := #[.val (.ref a1), .val (.long q2), .second, .val (.int ((64 : Int32) - (1 : Int32))), .unset]) rfl ?_
    show Steps p.tables e below (T4.setTop (mkF m 8 #[.val (.ref a1), .val (.long q2), .second, .val (.int ((64 : Int32) - (1 : Int32))), .unset] [])) _
    refine XS.aloadN X4.here hx rfl (hb hby d6_8) rfl rfl ?_
    show Steps p.tables e below (T4.setTop (mkF m 9 #[.val (.ref a1), .val (.long q2), .second, .val (.int ((64 : Int32) - (1 : Int32))), .unset] [(.ref a1)])) _
    refine XS.lloadN X4.here hx rfl (hb hby d6_9) rfl ?_
    show Steps p.tables e below (T4.setTop (mkF m 10 #[.val (.ref a1), .val (.long q2), .second, .val (.int ((64 : Int32) - (1 : Int32))), .unset] [(.long q2), (.ref a1)])) _
    refine st5.trans ?_
    show Steps p.tables e below (T5.setTop (mkF m 13 #[.val (.ref a1), .val (.long q2), .second, .val (.int ((64 : Int32) - (1 : Int32))), .unset] [(.int (own_home q2))])) _
    refine XS.istore X5.here hx rfl (hb hby d6_13) rfl (l' := #[.val (.ref a1), .val (.long q2), .second, .val (.int ((64 : Int32) - (1 : Int32))), .val (.int (own_home q2))]) rfl ?_
    show Steps p.tables e below (T5.setTop (mkF m 15 #[.val (.ref a1), .val (.long q2), .second, .val (.int ((64 : Int32) - (1 : Int32))), .val (.int (own_home q2))] [])) _
    refine XS.aloadN X5.here hx rfl (hb hby d6_15) rfl rfl ?_
    show Steps p.tables e below (T5.setTop (mkF m 16 #[.val (.ref a1), .val (.long q2), .second, .val (.int ((64 : Int32) - (1 : Int32))), .val (.int (own_home q2))] [(.ref a1)])) _
    refine XS.iload X5.here hx rfl (hb hby d6_16) rfl ?_
    show Steps p.tables e below (T5.setTop (mkF m 18 #[.val (.ref a1), .val (.long q2), .second, .val (.int ((64 : Int32) - (1 : Int32))), .val (.int (own_home q2))] [(.int (own_home q2)), (.ref a1)])) _
    refine st6.trans ?_
    show Steps p.tables e below (T6.setTop (mkF m 21 #[.val (.ref a1), .val (.long q2), .second, .val (.int ((64 : Int32) - (1 : Int32))), .val (.int (own_home q2))] [(.int (own_held U (own_home q2)))])) _
    refine XS.ifYes X6.here hx rfl (pc0 := 21) (pc' := 47) rfl (hb hby d6_21) rfl ((if0 _ _).trans (teq (c1 : (own_held U (own_home q2)) = (0 : Int32))).1) (by decide) (by decide) ?_
    show Steps p.tables e below (T6.setTop (mkF m 47 #[.val (.ref a1), .val (.long q2), .second, .val (.int ((64 : Int32) - (1 : Int32))), .val (.int (own_home q2))] [])) _
    refine XS.iload X6.here hx rfl (hb hby d6_47) rfl ?_
    show Steps p.tables e below (T6.setTop (mkF m 49 #[.val (.ref a1), .val (.long q2), .second, .val (.int ((64 : Int32) - (1 : Int32))), .val (.int (own_home q2))] [(.int (own_home q2))])) _
    exact retI X6 hx Bd.returns (hb hby d6_49) hr
  · show QI Z (own_home q2) h0 n0 _ T6.heap _
    exact ⟨rfl, N6, by rw [e6, e5]⟩
theorem d6_24 : decode prog_96_method_4_code 24 = .ok (.aload_n 0, 1) := by decide +kernel
theorem d6_25 : decode prog_96_method_4_code 25 = .ok (.getfield 9, 3) := by decide +kernel
theorem d6_28 : decode prog_96_method_4_code 28 = .ok (.iload 4, 2) := by decide +kernel
theorem d6_30 : decode prog_96_method_4_code 30 = .ok (.laload, 1) := by decide +kernel
theorem d6_31 : decode prog_96_method_4_code 31 = .ok (.lload_n 1, 1) := by decide +kernel
theorem d6_32 : decode prog_96_method_4_code 32 = .ok (.lcmp, 1) := by decide +kernel
theorem d6_33 : decode prog_96_method_4_code 33 = .ok (.ifCond .eq 14, 3) := by decide +kernel
set_option maxRecDepth 65536 in
set_option maxHeartbeats 40000000 in
theorem rm6_ft (l : Launch) (Z : State) (a0 : Array Value) (hw : ∀ d ∈ tables_1, d.before a0 Z = true) (ws : List Jvm.Cond) (a1 : Addr) (q2 : Int64) (w3 b : Addr) (K : Nat → Int64) (U : Int64) (h0 : Heap) (n0 : Nat) (Z0 : n0 ≤ h0.size) (E_a1 : Exa Z h0 a1 "com/example/sectionary/sectionary/tables/LongKeyIntMap") (F_keys_a1 : Fld Z h0 a1 "com/example/sectionary/sectionary/tables/LongKeyTable" "keys" "[J" (.ref w3)) (F_used : Fld Z h0 a1 "com/example/sectionary/sectionary/tables/LongKeyTable" "used" "[J" (.ref b)) (Lk : own_L Z h0 w3 64 K) (Lu : own_L Z h0 b 1 (fun _ => U)) (c1 : ¬ own_held U (own_home q2) = 0) (c2 : K (own_home q2).toNatClampNeg = q2) :
    MetFree l (⟨"com/example/sectionary/sectionary/tables/LongKeyTable", "slot", "(J)I"⟩ : MethodName) (head1 (Jvm.Cond.code (⟨"com/example/sectionary/sectionary/tables/LongKeyTable", "slot", "(J)I"⟩ : MethodName) prog_96_method_4_code 5 (some .int) :: ws) ({ frames := 2, cells := 0, slots := 0, locals := 30 } : Room)) (fun a Us => a = #[(.ref a1), (.long q2)] ∧ Z.Warmed39 Us.vm ∧ Us.heap = h0) (fun _ _ _ _ _ => True) (fun _ Us o Us' => ∃ v L, o = .returned v ∧ QI Z (own_home q2) h0 n0 v Us'.heap L ∧ FrameEnd Us o Us' L ({ frames := 2, cells := 0, slots := 0, locals := 30 } : Room).cells ({ frames := 2, cells := 0, slots := 0, locals := 30 } : Room).slots) := by
  refine MetFree.of_bodySF (plainFor_of_name pn_6) hisR ?_
  intro p e s m args below meth c s₁ Bd hml0 hP hK
  obtain ⟨rfl, hZ, hh⟩ := hP
  have hx := Bd.exec
  have hby := Bd.bytes
  have hml : c.maxLocals = 5 := hml0
  have hown : s.vm.findClass "com/example/sectionary/sectionary/tables/LongKeyTable" = some m.cls := findClass_of_methodNamed Bd.named
  have hnm := (name_of_methodNamed Bd.named Bd.method).1
  have X0 : Stand p l e ({ frames := 2, cells := 0, slots := 0, locals := 30 } : Room) s m #[(.ref a1), (.long q2)] below meth c s₁ [] 0 0 := Stand.of_body Bd
  have e0 : s₁.heap = h0 := by rw [← hh, Bd.state]; rfl
  have N0 := Fr.nil n0
  obtain ⟨cX, rX, mX, -, -, q3, -, kP, hkP, hkPi⟩ := Cond.selects_spec (args := #[]) (mvT hZ (hw _ (List.mem_of_getElem? (i := 51) rfl)))
  obtain ⟨cl_w3, Ar_w3, S_w3, Hk⟩ := id Lk
  have N_w3 : ¬ (64 : Int32) < 0 := by decide
  have ix := own_home_ix q2
  have iy := own_nx_ix (own_home q2)
  have pre0 : ∀ t, Steps p.tables e below (s₁.setTop (mkF m 0 #[.val (.ref a1), .val (.long q2), .second, .unset, .unset] [])) t → Steps p.tables e below (s₁.setTop (entryFrame m #[(.ref a1), (.long q2)] 5)) t := fun t k => castTop (ef_6 m a1 q2) k
  obtain ⟨T4, X4, e4, st4⟩ := getF X0 hx hZ hown (host := "") (Or.inl (hw _ (List.mem_of_getElem? (i := 15) rfl))) Via.refl e0 F_keys_a1 (g := (mkF m 1 #[.val (.ref a1), .val (.long q2), .second, .unset, .unset] [(.ref a1)])) rfl rfl (hb hby d6_1)
  obtain ⟨cq5, q5, q5'⟩ := E_a1.cell
  obtain ⟨_, _, ⟨T5, L5, k5, n5⟩, -, X5, ⟨Lc5, hQ5, l5, y5, z5⟩, st5⟩ := X4.privateBack hx (y := (⟨"com/example/sectionary/sectionary/tables/LongKeyTable", "home", "(J)I"⟩ : MethodName)) hown (mvT hZ (hw _ (List.mem_of_getElem? (i := 38) rfl))) (mvT hZ (hw _ (List.mem_of_getElem? (i := 39) rfl))) (selects_self_of_private (show s.vm.findClass "com/example/sectionary/sectionary/tables/LongKeyTable" = some mX.cls from findClass_of_methodNamed q3) hkP hkPi (Cond.privateMethod_at (mvP hZ (hw _ (List.mem_of_getElem? (i := 40) rfl)) (args := #[]))) (mvT hZ (hw _ (List.mem_of_getElem? (i := 39) rfl))) (by decide)) (Cond.privateMethod_at (mvP hZ (hw _ (List.mem_of_getElem? (i := 40) rfl)) (args := #[]))) (mvT hZ (hw _ (List.mem_of_getElem? (i := 41) rfl))) (by decide) (backOf (W := 0) (rm7 l Z a0 hw [] a1 q2 w3 K h0 n0 Z0 F_keys_a1 Lk) hZ (hw _ (List.mem_of_getElem? (i := 41) rfl)) (hw _ (List.mem_of_getElem? (i := 9) rfl)) (by decide) (by decide)) (g := (mkF m 10 #[.val (.ref a1), .val (.long q2), .second, .val (.int ((64 : Int32) - (1 : Int32))), .unset] [(.long q2), (.ref a1)])) rfl (by rw [hml]; rfl) (Steps.refl _) (a := a1) (by rw [e4]; exact q5) q5' (argsL := [(.long q2)]) (rest := []) (lenOf pd_6_2 rfl) rfl (by show 2 * 0 + _ ≤ _; exact Nat.le_of_eq rfl) (hb hby d6_10) (fun _ _ => ⟨rfl, e4, (by decide : 0 + 0 ≤ _), (by decide : 0 + 0 ≤ _)⟩)
  dsimp only [Pt.U, Pt.locs, Pt.cells, Pt.slots] at X5 l5 y5 z5 st5 hQ5
  subst l5 y5 z5
  obtain ⟨rfl, N5q, e5⟩ := hQ5
  have Kc5 : Keep h0 T5.heap [] := by rw [e5]; exact Keep.refl _ _
  have Zt5 : n0 ≤ T5.heap.size := Nat.le_trans Z0 Kc5.1
  have N5 := Fr.app N0 N5q
  obtain ⟨cq6, kq6, q6a, q6b, q6c⟩ := isOf hZ rfl (E_a1.keep Kc5)
  obtain ⟨_, _, ⟨T6, L6, k6, n6⟩, -, X6, ⟨Lc6, hQ6, l6, y6, z6⟩, st6⟩ := X5.virtualBack hx (y := (⟨"com/example/sectionary/sectionary/tables/LongKeyTable", "holds", "(I)Z"⟩ : MethodName)) (z := (⟨"com/example/sectionary/sectionary/tables/LongKeyTable", "holds", "(I)Z"⟩ : MethodName)) hown (mvT hZ (hw _ (List.mem_of_getElem? (i := 48) rfl))) (mvT hZ (hw _ (List.mem_of_getElem? (i := 49) rfl))) (notFace_of_selects (args := #[]) (mvT hZ (hw _ (List.mem_of_getElem? (i := 51) rfl)))) (mvT hZ (hw _ (List.mem_of_getElem? (i := 51) rfl))) (mvT hZ (hw _ (List.mem_of_getElem? (i := 50) rfl))) (by decide) (backOf (W := 0) (rm9 l Z a0 hw [] a1 (own_home q2) b U T5.heap n0 Zt5 (by rw [e5]; exact F_used) (by rw [e5]; exact Lu) ix.2.2) hZ (hw _ (List.mem_of_getElem? (i := 52) rfl)) (hw _ (List.mem_of_getElem? (i := 9) rfl)) (by decide) (by decide)) q6a q6c (g := (mkF m 18 #[.val (.ref a1), .val (.long q2), .second, .val (.int ((64 : Int32) - (1 : Int32))), .val (.int (own_home q2))] [(.int (own_home q2)), (.ref a1)])) rfl (by rw [hml]; rfl) (Steps.refl _) (argsL := [(.int (own_home q2))]) (rest := []) (lenOf pd_6_4 rfl) rfl (by show 2 * 0 + _ ≤ _; exact Nat.le_of_eq rfl) (hb hby d6_18) (fun _ _ => ⟨rfl, rfl, (by decide : 0 + 0 ≤ _), (by decide : 0 + 0 ≤ _)⟩)
  dsimp only [Pt.U, Pt.locs, Pt.cells, Pt.slots] at X6 l6 y6 z6 st6 hQ6
  subst l6 y6 z6
  obtain ⟨rfl, N6q, e6⟩ := hQ6
  have Kc6 : Keep T5.heap T6.heap [] := by rw [e6]; exact Keep.refl _ _
  have Zt6 : n0 ≤ T6.heap.size := Nat.le_trans Zt5 Kc6.1
  have Ar_w7 : Arr Z T6.heap w3 cl_w3 .long := by rw [e6, e5]; exact Ar_w3
  have N6 := Fr.app N5 N6q
  obtain ⟨T8, X8, e8, st8⟩ := getF X6 hx hZ hown (host := "") (Or.inl (hw _ (List.mem_of_getElem? (i := 15) rfl))) Via.refl rfl ((F_keys_a1.keep Kc5 (fun hx => nomatch hx)).keep Kc6 (fun hx => nomatch hx)) (g := (mkF m 25 #[.val (.ref a1), .val (.long q2), .second, .val (.int ((64 : Int32) - (1 : Int32))), .val (.int (own_home q2))] [(.ref a1)])) rfl rfl (hb hby d6_25)
  obtain ⟨fs, hr, hrun, hended, hW, hsame⟩ := X8.leave (v := some (.int (own_home q2))) (fun h => by rw [Bd.returns] at h; cases h)
  refine ⟨_, _, pre0 _ ?_, hrun, hended, _, _, rfl, ?_, ⟨_, rfl⟩, hW, hsame.mono (by decide) (by decide)⟩
  · show Steps p.tables e below (s₁.setTop (mkF m 0 #[.val (.ref a1), .val (.long q2), .second, .unset, .unset] [])) _
    refine XS.aloadN X0.here hx rfl (hb hby d6_0) rfl rfl ?_
    show Steps p.tables e below (s₁.setTop (mkF m 1 #[.val (.ref a1), .val (.long q2), .second, .unset, .unset] [(.ref a1)])) _
    refine st4 _ ?_
    show Steps p.tables e below (T4.setTop (mkF m 4 #[.val (.ref a1), .val (.long q2), .second, .unset, .unset] [(.ref w3)])) _
    refine X4.arraylength hx (by rw [e4]; exact Ar_w3.1) (State.isArrayOf_alike hZ.alike Ar_w3.2.1) (g := (mkF m 4 #[.val (.ref a1), .val (.long q2), .second, .unset, .unset] [(.ref w3)])) rfl rfl (hb hby d6_4) _ ?_
    rw [len_of (z := (64 : Int32)) S_w3 N_w3]
    show Steps p.tables e below (T4.setTop (mkF m 5 #[.val (.ref a1), .val (.long q2), .second, .unset, .unset] [(.int (64 : Int32))])) _
    refine XS.iconst X4.here hx rfl (hb hby d6_5) ?_
    show Steps p.tables e below (T4.setTop (mkF m 6 #[.val (.ref a1), .val (.long q2), .second, .unset, .unset] [(.int (1 : Int32)), (.int (64 : Int32))])) _
    refine XS.isub X4.here hx rfl (hb hby d6_6) rfl ?_
    show Steps p.tables e below (T4.setTop (mkF m 7 #[.val (.ref a1), .val (.long q2), .second, .unset, .unset] [(.int ((64 : Int32) - (1 : Int32)))])) _
    refine XS.istoreN X4.here hx rfl (hb hby d6_7) rfl (l' := #[.val (.ref a1), .val (.long q2), .second, .val (.int ((64 : Int32) - (1 : Int32))), .unset]) rfl ?_
    show Steps p.tables e below (T4.setTop (mkF m 8 #[.val (.ref a1), .val (.long q2), .second, .val (.int ((64 : Int32) - (1 : Int32))), .unset] [])) _
    refine XS.aloadN X4.here hx rfl (hb hby d6_8) rfl rfl ?_
    show Steps p.tables e below (T4.setTop (mkF m 9 #[.val (.ref a1), .val (.long q2), .second, .val (.int ((64 : Int32) - (1 : Int32))), .unset] [(.ref a1)])) _
    refine XS.lloadN X4.here hx rfl (hb hby d6_9) rfl ?_
    show Steps p.tables e below (T4.setTop (mkF m 10 #[.val (.ref a1), .val (.long q2), .second, .val (.int ((64 : Int32) - (1 : Int32))), .unset] [(.long q2), (.ref a1)])) _
    refine st5.trans ?_
    show Steps p.tables e below (T5.setTop (mkF m 13 #[.val (.ref a1), .val (.long q2), .second, .val (.int ((64 : Int32) - (1 : Int32))), .unset] [(.int (own_home q2))])) _
    refine XS.istore X5.here hx rfl (hb hby d6_13) rfl (l' := #[.val (.ref a1), .val (.long q2), .second, .val (.int ((64 : Int32) - (1 : Int32))), .val (.int (own_home q2))]) rfl ?_
    show Steps p.tables e below (T5.setTop (mkF m 15 #[.val (.ref a1), .val (.long q2), .second, .val (.int ((64 : Int32) - (1 : Int32))), .val (.int (own_home q2))] [])) _
    refine XS.aloadN X5.here hx rfl (hb hby d6_15) rfl rfl ?_
    show Steps p.tables e below (T5.setTop (mkF m 16 #[.val (.ref a1), .val (.long q2), .second, .val (.int ((64 : Int32) - (1 : Int32))), .val (.int (own_home q2))] [(.ref a1)])) _
    refine XS.iload X5.here hx rfl (hb hby d6_16) rfl ?_
    show Steps p.tables e below (T5.setTop (mkF m 18 #[.val (.ref a1), .val (.long q2), .second, .val (.int ((64 : Int32) - (1 : Int32))), .val (.int (own_home q2))] [(.int (own_home q2)), (.ref a1)])) _
    refine st6.trans ?_
    show Steps p.tables e below (T6.setTop (mkF m 21 #[.val (.ref a1), .val (.long q2), .second, .val (.int ((64 : Int32) - (1 : Int32))), .val (.int (own_home q2))] [(.int (own_held U (own_home q2)))])) _
    refine XS.ifNo X6.here hx rfl (hb hby d6_21) rfl ((if0 _ _).trans (feq (c1 : ¬ ((own_held U (own_home q2)) = (0 : Int32)))).1) ?_
    show Steps p.tables e below (T6.setTop (mkF m 24 #[.val (.ref a1), .val (.long q2), .second, .val (.int ((64 : Int32) - (1 : Int32))), .val (.int (own_home q2))] [])) _
    refine XS.aloadN X6.here hx rfl (hb hby d6_24) rfl rfl ?_
    show Steps p.tables e below (T6.setTop (mkF m 25 #[.val (.ref a1), .val (.long q2), .second, .val (.int ((64 : Int32) - (1 : Int32))), .val (.int (own_home q2))] [(.ref a1)])) _
    refine st8 _ ?_
    show Steps p.tables e below (T8.setTop (mkF m 28 #[.val (.ref a1), .val (.long q2), .second, .val (.int ((64 : Int32) - (1 : Int32))), .val (.int (own_home q2))] [(.ref w3)])) _
    refine XS.iload X8.here hx rfl (hb hby d6_28) rfl ?_
    show Steps p.tables e below (T8.setTop (mkF m 30 #[.val (.ref a1), .val (.long q2), .second, .val (.int ((64 : Int32) - (1 : Int32))), .val (.int (own_home q2))] [(.int (own_home q2)), (.ref w3)])) _
    refine X8.laload hx (j := (own_home q2)) (v := (.long (K (own_home q2).toNatClampNeg))) (by rw [e8]; exact Ar_w7.1) (State.isArrayOf_alike hZ.alike Ar_w7.2.1) Ar_w7.2.2 (own_in S_w3 ix.1 ix.2.1) (Hk _ ix.2.1) (g := (mkF m 30 #[.val (.ref a1), .val (.long q2), .second, .val (.int ((64 : Int32) - (1 : Int32))), .val (.int (own_home q2))] [(.int (own_home q2)), (.ref w3)])) rfl rfl (hb hby d6_30) _ ?_
    show Steps p.tables e below (T8.setTop (mkF m 31 #[.val (.ref a1), .val (.long q2), .second, .val (.int ((64 : Int32) - (1 : Int32))), .val (.int (own_home q2))] [(.long (K (own_home q2).toNatClampNeg))])) _
    refine XS.lloadN X8.here hx rfl (hb hby d6_31) rfl ?_
    show Steps p.tables e below (T8.setTop (mkF m 32 #[.val (.ref a1), .val (.long q2), .second, .val (.int ((64 : Int32) - (1 : Int32))), .val (.int (own_home q2))] [(.long q2), (.long (K (own_home q2).toNatClampNeg))])) _
    refine XS.lcmp X8.here hx rfl (hb hby d6_32) rfl ?_
    show Steps p.tables e below (T8.setTop (mkF m 33 #[.val (.ref a1), .val (.long q2), .second, .val (.int ((64 : Int32) - (1 : Int32))), .val (.int (own_home q2))] [(.int (lcmpW (K (own_home q2).toNatClampNeg) q2))])) _
    refine XS.ifYes X8.here hx rfl (pc0 := 33) (pc' := 47) rfl (hb hby d6_33) rfl ((if0 _ _).trans (teq ((lw_eq _ _).mpr c2)).1) (by decide) (by decide) ?_
    show Steps p.tables e below (T8.setTop (mkF m 47 #[.val (.ref a1), .val (.long q2), .second, .val (.int ((64 : Int32) - (1 : Int32))), .val (.int (own_home q2))] [])) _
    refine XS.iload X8.here hx rfl (hb hby d6_47) rfl ?_
    show Steps p.tables e below (T8.setTop (mkF m 49 #[.val (.ref a1), .val (.long q2), .second, .val (.int ((64 : Int32) - (1 : Int32))), .val (.int (own_home q2))] [(.int (own_home q2))])) _
    exact retI X8 hx Bd.returns (hb hby d6_49) hr
  · show QI Z (own_home q2) h0 n0 _ T8.heap _
    exact ⟨rfl, N6, by rw [e8, e6, e5]⟩
theorem d6_36 : decode prog_96_method_4_code 36 = .ok (.iload 4, 2) := by decide +kernel
theorem d6_38 : decode prog_96_method_4_code 38 = .ok (.iconst 1, 1) := by decide +kernel
theorem d6_39 : decode prog_96_method_4_code 39 = .ok (.iadd, 1) := by decide +kernel
theorem d6_40 : decode prog_96_method_4_code 40 = .ok (.iload_n 3, 1) := by decide +kernel
theorem d6_41 : decode prog_96_method_4_code 41 = .ok (.iand, 1) := by decide +kernel
theorem d6_42 : decode prog_96_method_4_code 42 = .ok (.istore 4, 2) := by decide +kernel
theorem d6_44 : decode prog_96_method_4_code 44 = .ok (.goto (-29), 3) := by decide +kernel
set_option maxRecDepth 65536 in
set_option maxHeartbeats 40000000 in
theorem rm6_fft (l : Launch) (Z : State) (a0 : Array Value) (hw : ∀ d ∈ tables_1, d.before a0 Z = true) (ws : List Jvm.Cond) (a1 : Addr) (q2 : Int64) (w3 b : Addr) (K : Nat → Int64) (U : Int64) (h0 : Heap) (n0 : Nat) (Z0 : n0 ≤ h0.size) (E_a1 : Exa Z h0 a1 "com/example/sectionary/sectionary/tables/LongKeyIntMap") (F_keys_a1 : Fld Z h0 a1 "com/example/sectionary/sectionary/tables/LongKeyTable" "keys" "[J" (.ref w3)) (F_used : Fld Z h0 a1 "com/example/sectionary/sectionary/tables/LongKeyTable" "used" "[J" (.ref b)) (Lk : own_L Z h0 w3 64 K) (Lu : own_L Z h0 b 1 (fun _ => U)) (c1 : ¬ own_held U (own_home q2) = 0) (c2 : ¬ K (own_home q2).toNatClampNeg = q2) (c3 : own_held U (own_nx (own_home q2)) = 0) :
    MetFree l (⟨"com/example/sectionary/sectionary/tables/LongKeyTable", "slot", "(J)I"⟩ : MethodName) (head1 (Jvm.Cond.code (⟨"com/example/sectionary/sectionary/tables/LongKeyTable", "slot", "(J)I"⟩ : MethodName) prog_96_method_4_code 5 (some .int) :: ws) ({ frames := 2, cells := 0, slots := 0, locals := 30 } : Room)) (fun a Us => a = #[(.ref a1), (.long q2)] ∧ Z.Warmed39 Us.vm ∧ Us.heap = h0) (fun _ _ _ _ _ => True) (fun _ Us o Us' => ∃ v L, o = .returned v ∧ QI Z (own_nx (own_home q2)) h0 n0 v Us'.heap L ∧ FrameEnd Us o Us' L ({ frames := 2, cells := 0, slots := 0, locals := 30 } : Room).cells ({ frames := 2, cells := 0, slots := 0, locals := 30 } : Room).slots) := by
  refine MetFree.of_bodySF (plainFor_of_name pn_6) hisR ?_
  intro p e s m args below meth c s₁ Bd hml0 hP hK
  obtain ⟨rfl, hZ, hh⟩ := hP
  have hx := Bd.exec
  have hby := Bd.bytes
  have hml : c.maxLocals = 5 := hml0
  have hown : s.vm.findClass "com/example/sectionary/sectionary/tables/LongKeyTable" = some m.cls := findClass_of_methodNamed Bd.named
  have hnm := (name_of_methodNamed Bd.named Bd.method).1
  have X0 : Stand p l e ({ frames := 2, cells := 0, slots := 0, locals := 30 } : Room) s m #[(.ref a1), (.long q2)] below meth c s₁ [] 0 0 := Stand.of_body Bd
  have e0 : s₁.heap = h0 := by rw [← hh, Bd.state]; rfl
  have N0 := Fr.nil n0
  obtain ⟨cX, rX, mX, -, -, q3, -, kP, hkP, hkPi⟩ := Cond.selects_spec (args := #[]) (mvT hZ (hw _ (List.mem_of_getElem? (i := 51) rfl)))
  obtain ⟨cl_w3, Ar_w3, S_w3, Hk⟩ := id Lk
  have N_w3 : ¬ (64 : Int32) < 0 := by decide
  have ix := own_home_ix q2
  have iy := own_nx_ix (own_home q2)
  have pre0 : ∀ t, Steps p.tables e below (s₁.setTop (mkF m 0 #[.val (.ref a1), .val (.long q2), .second, .unset, .unset] [])) t → Steps p.tables e below (s₁.setTop (entryFrame m #[(.ref a1), (.long q2)] 5)) t := fun t k => castTop (ef_6 m a1 q2) k
  obtain ⟨T4, X4, e4, st4⟩ := getF X0 hx hZ hown (host := "") (Or.inl (hw _ (List.mem_of_getElem? (i := 15) rfl))) Via.refl e0 F_keys_a1 (g := (mkF m 1 #[.val (.ref a1), .val (.long q2), .second, .unset, .unset] [(.ref a1)])) rfl rfl (hb hby d6_1)
  obtain ⟨cq5, q5, q5'⟩ := E_a1.cell
  obtain ⟨_, _, ⟨T5, L5, k5, n5⟩, -, X5, ⟨Lc5, hQ5, l5, y5, z5⟩, st5⟩ := X4.privateBack hx (y := (⟨"com/example/sectionary/sectionary/tables/LongKeyTable", "home", "(J)I"⟩ : MethodName)) hown (mvT hZ (hw _ (List.mem_of_getElem? (i := 38) rfl))) (mvT hZ (hw _ (List.mem_of_getElem? (i := 39) rfl))) (selects_self_of_private (show s.vm.findClass "com/example/sectionary/sectionary/tables/LongKeyTable" = some mX.cls from findClass_of_methodNamed q3) hkP hkPi (Cond.privateMethod_at (mvP hZ (hw _ (List.mem_of_getElem? (i := 40) rfl)) (args := #[]))) (mvT hZ (hw _ (List.mem_of_getElem? (i := 39) rfl))) (by decide)) (Cond.privateMethod_at (mvP hZ (hw _ (List.mem_of_getElem? (i := 40) rfl)) (args := #[]))) (mvT hZ (hw _ (List.mem_of_getElem? (i := 41) rfl))) (by decide) (backOf (W := 0) (rm7 l Z a0 hw [] a1 q2 w3 K h0 n0 Z0 F_keys_a1 Lk) hZ (hw _ (List.mem_of_getElem? (i := 41) rfl)) (hw _ (List.mem_of_getElem? (i := 9) rfl)) (by decide) (by decide)) (g := (mkF m 10 #[.val (.ref a1), .val (.long q2), .second, .val (.int ((64 : Int32) - (1 : Int32))), .unset] [(.long q2), (.ref a1)])) rfl (by rw [hml]; rfl) (Steps.refl _) (a := a1) (by rw [e4]; exact q5) q5' (argsL := [(.long q2)]) (rest := []) (lenOf pd_6_2 rfl) rfl (by show 2 * 0 + _ ≤ _; exact Nat.le_of_eq rfl) (hb hby d6_10) (fun _ _ => ⟨rfl, e4, (by decide : 0 + 0 ≤ _), (by decide : 0 + 0 ≤ _)⟩)
  dsimp only [Pt.U, Pt.locs, Pt.cells, Pt.slots] at X5 l5 y5 z5 st5 hQ5
  subst l5 y5 z5
  obtain ⟨rfl, N5q, e5⟩ := hQ5
  have Kc5 : Keep h0 T5.heap [] := by rw [e5]; exact Keep.refl _ _
  have Zt5 : n0 ≤ T5.heap.size := Nat.le_trans Z0 Kc5.1
  have N5 := Fr.app N0 N5q
  obtain ⟨cq6, kq6, q6a, q6b, q6c⟩ := isOf hZ rfl (E_a1.keep Kc5)
  obtain ⟨_, _, ⟨T6, L6, k6, n6⟩, -, X6, ⟨Lc6, hQ6, l6, y6, z6⟩, st6⟩ := X5.virtualBack hx (y := (⟨"com/example/sectionary/sectionary/tables/LongKeyTable", "holds", "(I)Z"⟩ : MethodName)) (z := (⟨"com/example/sectionary/sectionary/tables/LongKeyTable", "holds", "(I)Z"⟩ : MethodName)) hown (mvT hZ (hw _ (List.mem_of_getElem? (i := 48) rfl))) (mvT hZ (hw _ (List.mem_of_getElem? (i := 49) rfl))) (notFace_of_selects (args := #[]) (mvT hZ (hw _ (List.mem_of_getElem? (i := 51) rfl)))) (mvT hZ (hw _ (List.mem_of_getElem? (i := 51) rfl))) (mvT hZ (hw _ (List.mem_of_getElem? (i := 50) rfl))) (by decide) (backOf (W := 0) (rm9 l Z a0 hw [] a1 (own_home q2) b U T5.heap n0 Zt5 (by rw [e5]; exact F_used) (by rw [e5]; exact Lu) ix.2.2) hZ (hw _ (List.mem_of_getElem? (i := 52) rfl)) (hw _ (List.mem_of_getElem? (i := 9) rfl)) (by decide) (by decide)) q6a q6c (g := (mkF m 18 #[.val (.ref a1), .val (.long q2), .second, .val (.int ((64 : Int32) - (1 : Int32))), .val (.int (own_home q2))] [(.int (own_home q2)), (.ref a1)])) rfl (by rw [hml]; rfl) (Steps.refl _) (argsL := [(.int (own_home q2))]) (rest := []) (lenOf pd_6_4 rfl) rfl (by show 2 * 0 + _ ≤ _; exact Nat.le_of_eq rfl) (hb hby d6_18) (fun _ _ => ⟨rfl, rfl, (by decide : 0 + 0 ≤ _), (by decide : 0 + 0 ≤ _)⟩)
  dsimp only [Pt.U, Pt.locs, Pt.cells, Pt.slots] at X6 l6 y6 z6 st6 hQ6
  subst l6 y6 z6
  obtain ⟨rfl, N6q, e6⟩ := hQ6
  have Kc6 : Keep T5.heap T6.heap [] := by rw [e6]; exact Keep.refl _ _
  have Zt6 : n0 ≤ T6.heap.size := Nat.le_trans Zt5 Kc6.1
  have Ar_w7 : Arr Z T6.heap w3 cl_w3 .long := by rw [e6, e5]; exact Ar_w3
  have N6 := Fr.app N5 N6q
  obtain ⟨T8, X8, e8, st8⟩ := getF X6 hx hZ hown (host := "") (Or.inl (hw _ (List.mem_of_getElem? (i := 15) rfl))) Via.refl rfl ((F_keys_a1.keep Kc5 (fun hx => nomatch hx)).keep Kc6 (fun hx => nomatch hx)) (g := (mkF m 25 #[.val (.ref a1), .val (.long q2), .second, .val (.int ((64 : Int32) - (1 : Int32))), .val (.int (own_home q2))] [(.ref a1)])) rfl rfl (hb hby d6_25)
  obtain ⟨cq10, kq10, q10a, q10b, q10c⟩ := isOf hZ e8 ((E_a1.keep Kc5).keep Kc6)
  obtain ⟨_, _, ⟨T10, L10, k10, n10⟩, -, X10, ⟨Lc10, hQ10, l10, y10, z10⟩, st10⟩ := X8.virtualBack hx (y := (⟨"com/example/sectionary/sectionary/tables/LongKeyTable", "holds", "(I)Z"⟩ : MethodName)) (z := (⟨"com/example/sectionary/sectionary/tables/LongKeyTable", "holds", "(I)Z"⟩ : MethodName)) hown (mvT hZ (hw _ (List.mem_of_getElem? (i := 48) rfl))) (mvT hZ (hw _ (List.mem_of_getElem? (i := 49) rfl))) (notFace_of_selects (args := #[]) (mvT hZ (hw _ (List.mem_of_getElem? (i := 51) rfl)))) (mvT hZ (hw _ (List.mem_of_getElem? (i := 51) rfl))) (mvT hZ (hw _ (List.mem_of_getElem? (i := 50) rfl))) (by decide) (backOf (W := 0) (rm9 l Z a0 hw [] a1 (own_nx (own_home q2)) b U T6.heap n0 Zt6 (by rw [e6, e5]; exact F_used) (by rw [e6, e5]; exact Lu) iy.2.2) hZ (hw _ (List.mem_of_getElem? (i := 52) rfl)) (hw _ (List.mem_of_getElem? (i := 9) rfl)) (by decide) (by decide)) q10a q10c (g := (mkF m 18 #[.val (.ref a1), .val (.long q2), .second, .val (.int ((64 : Int32) - (1 : Int32))), .val (.int (own_nx (own_home q2)))] [(.int (own_nx (own_home q2))), (.ref a1)])) rfl (by rw [hml]; rfl) (Steps.refl _) (argsL := [(.int (own_nx (own_home q2)))]) (rest := []) (lenOf pd_6_4 rfl) rfl (by show 2 * 0 + _ ≤ _; exact Nat.le_of_eq rfl) (hb hby d6_18) (fun _ _ => ⟨rfl, e8, (by decide : 0 + 0 ≤ _), (by decide : 0 + 0 ≤ _)⟩)
  dsimp only [Pt.U, Pt.locs, Pt.cells, Pt.slots] at X10 l10 y10 z10 st10 hQ10
  subst l10 y10 z10
  obtain ⟨rfl, N10q, e10⟩ := hQ10
  have Kc10 : Keep T6.heap T10.heap [] := by rw [e10]; exact Keep.refl _ _
  have Zt10 : n0 ≤ T10.heap.size := Nat.le_trans Zt6 Kc10.1
  have Ar_w11 : Arr Z T10.heap w3 cl_w3 .long := by rw [e10, e6, e5]; exact Ar_w3
  have N10 := Fr.app N6 N10q
  obtain ⟨fs, hr, hrun, hended, hW, hsame⟩ := X10.leave (v := some (.int (own_nx (own_home q2)))) (fun h => by rw [Bd.returns] at h; cases h)
  refine ⟨_, _, pre0 _ ?_, hrun, hended, _, _, rfl, ?_, ⟨_, rfl⟩, hW, hsame.mono (by decide) (by decide)⟩
  · show Steps p.tables e below (s₁.setTop (mkF m 0 #[.val (.ref a1), .val (.long q2), .second, .unset, .unset] [])) _
    refine XS.aloadN X0.here hx rfl (hb hby d6_0) rfl rfl ?_
    show Steps p.tables e below (s₁.setTop (mkF m 1 #[.val (.ref a1), .val (.long q2), .second, .unset, .unset] [(.ref a1)])) _
    refine st4 _ ?_
    show Steps p.tables e below (T4.setTop (mkF m 4 #[.val (.ref a1), .val (.long q2), .second, .unset, .unset] [(.ref w3)])) _
    refine X4.arraylength hx (by rw [e4]; exact Ar_w3.1) (State.isArrayOf_alike hZ.alike Ar_w3.2.1) (g := (mkF m 4 #[.val (.ref a1), .val (.long q2), .second, .unset, .unset] [(.ref w3)])) rfl rfl (hb hby d6_4) _ ?_
    rw [len_of (z := (64 : Int32)) S_w3 N_w3]
    show Steps p.tables e below (T4.setTop (mkF m 5 #[.val (.ref a1), .val (.long q2), .second, .unset, .unset] [(.int (64 : Int32))])) _
    refine XS.iconst X4.here hx rfl (hb hby d6_5) ?_
    show Steps p.tables e below (T4.setTop (mkF m 6 #[.val (.ref a1), .val (.long q2), .second, .unset, .unset] [(.int (1 : Int32)), (.int (64 : Int32))])) _
    refine XS.isub X4.here hx rfl (hb hby d6_6) rfl ?_
    show Steps p.tables e below (T4.setTop (mkF m 7 #[.val (.ref a1), .val (.long q2), .second, .unset, .unset] [(.int ((64 : Int32) - (1 : Int32)))])) _
    refine XS.istoreN X4.here hx rfl (hb hby d6_7) rfl (l' := #[.val (.ref a1), .val (.long q2), .second, .val (.int ((64 : Int32) - (1 : Int32))), .unset]) rfl ?_
    show Steps p.tables e below (T4.setTop (mkF m 8 #[.val (.ref a1), .val (.long q2), .second, .val (.int ((64 : Int32) - (1 : Int32))), .unset] [])) _
    refine XS.aloadN X4.here hx rfl (hb hby d6_8) rfl rfl ?_
    show Steps p.tables e below (T4.setTop (mkF m 9 #[.val (.ref a1), .val (.long q2), .second, .val (.int ((64 : Int32) - (1 : Int32))), .unset] [(.ref a1)])) _
    refine XS.lloadN X4.here hx rfl (hb hby d6_9) rfl ?_
    show Steps p.tables e below (T4.setTop (mkF m 10 #[.val (.ref a1), .val (.long q2), .second, .val (.int ((64 : Int32) - (1 : Int32))), .unset] [(.long q2), (.ref a1)])) _
    refine st5.trans ?_
    show Steps p.tables e below (T5.setTop (mkF m 13 #[.val (.ref a1), .val (.long q2), .second, .val (.int ((64 : Int32) - (1 : Int32))), .unset] [(.int (own_home q2))])) _
    refine XS.istore X5.here hx rfl (hb hby d6_13) rfl (l' := #[.val (.ref a1), .val (.long q2), .second, .val (.int ((64 : Int32) - (1 : Int32))), .val (.int (own_home q2))]) rfl ?_
    show Steps p.tables e below (T5.setTop (mkF m 15 #[.val (.ref a1), .val (.long q2), .second, .val (.int ((64 : Int32) - (1 : Int32))), .val (.int (own_home q2))] [])) _
    refine XS.aloadN X5.here hx rfl (hb hby d6_15) rfl rfl ?_
    show Steps p.tables e below (T5.setTop (mkF m 16 #[.val (.ref a1), .val (.long q2), .second, .val (.int ((64 : Int32) - (1 : Int32))), .val (.int (own_home q2))] [(.ref a1)])) _
    refine XS.iload X5.here hx rfl (hb hby d6_16) rfl ?_
    show Steps p.tables e below (T5.setTop (mkF m 18 #[.val (.ref a1), .val (.long q2), .second, .val (.int ((64 : Int32) - (1 : Int32))), .val (.int (own_home q2))] [(.int (own_home q2)), (.ref a1)])) _
    refine st6.trans ?_
    show Steps p.tables e below (T6.setTop (mkF m 21 #[.val (.ref a1), .val (.long q2), .second, .val (.int ((64 : Int32) - (1 : Int32))), .val (.int (own_home q2))] [(.int (own_held U (own_home q2)))])) _
    refine XS.ifNo X6.here hx rfl (hb hby d6_21) rfl ((if0 _ _).trans (feq (c1 : ¬ ((own_held U (own_home q2)) = (0 : Int32)))).1) ?_
    show Steps p.tables e below (T6.setTop (mkF m 24 #[.val (.ref a1), .val (.long q2), .second, .val (.int ((64 : Int32) - (1 : Int32))), .val (.int (own_home q2))] [])) _
    refine XS.aloadN X6.here hx rfl (hb hby d6_24) rfl rfl ?_
    show Steps p.tables e below (T6.setTop (mkF m 25 #[.val (.ref a1), .val (.long q2), .second, .val (.int ((64 : Int32) - (1 : Int32))), .val (.int (own_home q2))] [(.ref a1)])) _
    refine st8 _ ?_
    show Steps p.tables e below (T8.setTop (mkF m 28 #[.val (.ref a1), .val (.long q2), .second, .val (.int ((64 : Int32) - (1 : Int32))), .val (.int (own_home q2))] [(.ref w3)])) _
    refine XS.iload X8.here hx rfl (hb hby d6_28) rfl ?_
    show Steps p.tables e below (T8.setTop (mkF m 30 #[.val (.ref a1), .val (.long q2), .second, .val (.int ((64 : Int32) - (1 : Int32))), .val (.int (own_home q2))] [(.int (own_home q2)), (.ref w3)])) _
    refine X8.laload hx (j := (own_home q2)) (v := (.long (K (own_home q2).toNatClampNeg))) (by rw [e8]; exact Ar_w7.1) (State.isArrayOf_alike hZ.alike Ar_w7.2.1) Ar_w7.2.2 (own_in S_w3 ix.1 ix.2.1) (Hk _ ix.2.1) (g := (mkF m 30 #[.val (.ref a1), .val (.long q2), .second, .val (.int ((64 : Int32) - (1 : Int32))), .val (.int (own_home q2))] [(.int (own_home q2)), (.ref w3)])) rfl rfl (hb hby d6_30) _ ?_
    show Steps p.tables e below (T8.setTop (mkF m 31 #[.val (.ref a1), .val (.long q2), .second, .val (.int ((64 : Int32) - (1 : Int32))), .val (.int (own_home q2))] [(.long (K (own_home q2).toNatClampNeg))])) _
    refine XS.lloadN X8.here hx rfl (hb hby d6_31) rfl ?_
    show Steps p.tables e below (T8.setTop (mkF m 32 #[.val (.ref a1), .val (.long q2), .second, .val (.int ((64 : Int32) - (1 : Int32))), .val (.int (own_home q2))] [(.long q2), (.long (K (own_home q2).toNatClampNeg))])) _
    refine XS.lcmp X8.here hx rfl (hb hby d6_32) rfl ?_
    show Steps p.tables e below (T8.setTop (mkF m 33 #[.val (.ref a1), .val (.long q2), .second, .val (.int ((64 : Int32) - (1 : Int32))), .val (.int (own_home q2))] [(.int (lcmpW (K (own_home q2).toNatClampNeg) q2))])) _
    refine XS.ifNo X8.here hx rfl (hb hby d6_33) rfl ((if0 _ _).trans (feq (fun z => c2 ((lw_eq _ _).mp z))).1) ?_
    show Steps p.tables e below (T8.setTop (mkF m 36 #[.val (.ref a1), .val (.long q2), .second, .val (.int ((64 : Int32) - (1 : Int32))), .val (.int (own_home q2))] [])) _
    refine XS.iload X8.here hx rfl (hb hby d6_36) rfl ?_
    show Steps p.tables e below (T8.setTop (mkF m 38 #[.val (.ref a1), .val (.long q2), .second, .val (.int ((64 : Int32) - (1 : Int32))), .val (.int (own_home q2))] [(.int (own_home q2))])) _
    refine XS.iconst X8.here hx rfl (hb hby d6_38) ?_
    show Steps p.tables e below (T8.setTop (mkF m 39 #[.val (.ref a1), .val (.long q2), .second, .val (.int ((64 : Int32) - (1 : Int32))), .val (.int (own_home q2))] [(.int (1 : Int32)), (.int (own_home q2))])) _
    refine XS.iadd X8.here hx rfl (hb hby d6_39) rfl ?_
    show Steps p.tables e below (T8.setTop (mkF m 40 #[.val (.ref a1), .val (.long q2), .second, .val (.int ((64 : Int32) - (1 : Int32))), .val (.int (own_home q2))] [(.int ((own_home q2) + (1 : Int32)))])) _
    refine XS.iloadN X8.here hx rfl (hb hby d6_40) rfl ?_
    show Steps p.tables e below (T8.setTop (mkF m 41 #[.val (.ref a1), .val (.long q2), .second, .val (.int ((64 : Int32) - (1 : Int32))), .val (.int (own_home q2))] [(.int ((64 : Int32) - (1 : Int32))), (.int ((own_home q2) + (1 : Int32)))])) _
    refine XS.iand X8.here hx rfl (hb hby d6_41) rfl ?_
    show Steps p.tables e below (T8.setTop (mkF m 42 #[.val (.ref a1), .val (.long q2), .second, .val (.int ((64 : Int32) - (1 : Int32))), .val (.int (own_home q2))] [(.int (own_nx (own_home q2)))])) _
    refine XS.istore X8.here hx rfl (hb hby d6_42) rfl (l' := #[.val (.ref a1), .val (.long q2), .second, .val (.int ((64 : Int32) - (1 : Int32))), .val (.int (own_nx (own_home q2)))]) rfl ?_
    show Steps p.tables e below (T8.setTop (mkF m 44 #[.val (.ref a1), .val (.long q2), .second, .val (.int ((64 : Int32) - (1 : Int32))), .val (.int (own_nx (own_home q2)))] [])) _
    refine XS.goto X8.here hx rfl (pc0 := 44) (pc' := 15) rfl (hb hby d6_44) (by decide) (by decide) ?_
    show Steps p.tables e below (T8.setTop (mkF m 15 #[.val (.ref a1), .val (.long q2), .second, .val (.int ((64 : Int32) - (1 : Int32))), .val (.int (own_nx (own_home q2)))] [])) _
    refine XS.aloadN X8.here hx rfl (hb hby d6_15) rfl rfl ?_
    show Steps p.tables e below (T8.setTop (mkF m 16 #[.val (.ref a1), .val (.long q2), .second, .val (.int ((64 : Int32) - (1 : Int32))), .val (.int (own_nx (own_home q2)))] [(.ref a1)])) _
    refine XS.iload X8.here hx rfl (hb hby d6_16) rfl ?_
    show Steps p.tables e below (T8.setTop (mkF m 18 #[.val (.ref a1), .val (.long q2), .second, .val (.int ((64 : Int32) - (1 : Int32))), .val (.int (own_nx (own_home q2)))] [(.int (own_nx (own_home q2))), (.ref a1)])) _
    refine st10.trans ?_
    show Steps p.tables e below (T10.setTop (mkF m 21 #[.val (.ref a1), .val (.long q2), .second, .val (.int ((64 : Int32) - (1 : Int32))), .val (.int (own_nx (own_home q2)))] [(.int (own_held U (own_nx (own_home q2))))])) _
    refine XS.ifYes X10.here hx rfl (pc0 := 21) (pc' := 47) rfl (hb hby d6_21) rfl ((if0 _ _).trans (teq (c3 : (own_held U (own_nx (own_home q2))) = (0 : Int32))).1) (by decide) (by decide) ?_
    show Steps p.tables e below (T10.setTop (mkF m 47 #[.val (.ref a1), .val (.long q2), .second, .val (.int ((64 : Int32) - (1 : Int32))), .val (.int (own_nx (own_home q2)))] [])) _
    refine XS.iload X10.here hx rfl (hb hby d6_47) rfl ?_
    show Steps p.tables e below (T10.setTop (mkF m 49 #[.val (.ref a1), .val (.long q2), .second, .val (.int ((64 : Int32) - (1 : Int32))), .val (.int (own_nx (own_home q2)))] [(.int (own_nx (own_home q2)))])) _
    exact retI X10 hx Bd.returns (hb hby d6_49) hr
  · show QI Z (own_nx (own_home q2)) h0 n0 _ T10.heap _
    exact ⟨rfl, N10, by rw [e10, e6, e5]⟩
set_option maxRecDepth 65536 in
set_option maxHeartbeats 40000000 in
theorem rm6_ffft (l : Launch) (Z : State) (a0 : Array Value) (hw : ∀ d ∈ tables_1, d.before a0 Z = true) (ws : List Jvm.Cond) (a1 : Addr) (q2 : Int64) (w3 b : Addr) (K : Nat → Int64) (U : Int64) (h0 : Heap) (n0 : Nat) (Z0 : n0 ≤ h0.size) (E_a1 : Exa Z h0 a1 "com/example/sectionary/sectionary/tables/LongKeyIntMap") (F_keys_a1 : Fld Z h0 a1 "com/example/sectionary/sectionary/tables/LongKeyTable" "keys" "[J" (.ref w3)) (F_used : Fld Z h0 a1 "com/example/sectionary/sectionary/tables/LongKeyTable" "used" "[J" (.ref b)) (Lk : own_L Z h0 w3 64 K) (Lu : own_L Z h0 b 1 (fun _ => U)) (c1 : ¬ own_held U (own_home q2) = 0) (c2 : ¬ K (own_home q2).toNatClampNeg = q2) (c3 : ¬ own_held U (own_nx (own_home q2)) = 0) (c4 : K (own_nx (own_home q2)).toNatClampNeg = q2) :
    MetFree l (⟨"com/example/sectionary/sectionary/tables/LongKeyTable", "slot", "(J)I"⟩ : MethodName) (head1 (Jvm.Cond.code (⟨"com/example/sectionary/sectionary/tables/LongKeyTable", "slot", "(J)I"⟩ : MethodName) prog_96_method_4_code 5 (some .int) :: ws) ({ frames := 2, cells := 0, slots := 0, locals := 30 } : Room)) (fun a Us => a = #[(.ref a1), (.long q2)] ∧ Z.Warmed39 Us.vm ∧ Us.heap = h0) (fun _ _ _ _ _ => True) (fun _ Us o Us' => ∃ v L, o = .returned v ∧ QI Z (own_nx (own_home q2)) h0 n0 v Us'.heap L ∧ FrameEnd Us o Us' L ({ frames := 2, cells := 0, slots := 0, locals := 30 } : Room).cells ({ frames := 2, cells := 0, slots := 0, locals := 30 } : Room).slots) := by
  refine MetFree.of_bodySF (plainFor_of_name pn_6) hisR ?_
  intro p e s m args below meth c s₁ Bd hml0 hP hK
  obtain ⟨rfl, hZ, hh⟩ := hP
  have hx := Bd.exec
  have hby := Bd.bytes
  have hml : c.maxLocals = 5 := hml0
  have hown : s.vm.findClass "com/example/sectionary/sectionary/tables/LongKeyTable" = some m.cls := findClass_of_methodNamed Bd.named
  have hnm := (name_of_methodNamed Bd.named Bd.method).1
  have X0 : Stand p l e ({ frames := 2, cells := 0, slots := 0, locals := 30 } : Room) s m #[(.ref a1), (.long q2)] below meth c s₁ [] 0 0 := Stand.of_body Bd
  have e0 : s₁.heap = h0 := by rw [← hh, Bd.state]; rfl
  have N0 := Fr.nil n0
  obtain ⟨cX, rX, mX, -, -, q3, -, kP, hkP, hkPi⟩ := Cond.selects_spec (args := #[]) (mvT hZ (hw _ (List.mem_of_getElem? (i := 51) rfl)))
  obtain ⟨cl_w3, Ar_w3, S_w3, Hk⟩ := id Lk
  have N_w3 : ¬ (64 : Int32) < 0 := by decide
  have ix := own_home_ix q2
  have iy := own_nx_ix (own_home q2)
  have pre0 : ∀ t, Steps p.tables e below (s₁.setTop (mkF m 0 #[.val (.ref a1), .val (.long q2), .second, .unset, .unset] [])) t → Steps p.tables e below (s₁.setTop (entryFrame m #[(.ref a1), (.long q2)] 5)) t := fun t k => castTop (ef_6 m a1 q2) k
  obtain ⟨T4, X4, e4, st4⟩ := getF X0 hx hZ hown (host := "") (Or.inl (hw _ (List.mem_of_getElem? (i := 15) rfl))) Via.refl e0 F_keys_a1 (g := (mkF m 1 #[.val (.ref a1), .val (.long q2), .second, .unset, .unset] [(.ref a1)])) rfl rfl (hb hby d6_1)
  obtain ⟨cq5, q5, q5'⟩ := E_a1.cell
  obtain ⟨_, _, ⟨T5, L5, k5, n5⟩, -, X5, ⟨Lc5, hQ5, l5, y5, z5⟩, st5⟩ := X4.privateBack hx (y := (⟨"com/example/sectionary/sectionary/tables/LongKeyTable", "home", "(J)I"⟩ : MethodName)) hown (mvT hZ (hw _ (List.mem_of_getElem? (i := 38) rfl))) (mvT hZ (hw _ (List.mem_of_getElem? (i := 39) rfl))) (selects_self_of_private (show s.vm.findClass "com/example/sectionary/sectionary/tables/LongKeyTable" = some mX.cls from findClass_of_methodNamed q3) hkP hkPi (Cond.privateMethod_at (mvP hZ (hw _ (List.mem_of_getElem? (i := 40) rfl)) (args := #[]))) (mvT hZ (hw _ (List.mem_of_getElem? (i := 39) rfl))) (by decide)) (Cond.privateMethod_at (mvP hZ (hw _ (List.mem_of_getElem? (i := 40) rfl)) (args := #[]))) (mvT hZ (hw _ (List.mem_of_getElem? (i := 41) rfl))) (by decide) (backOf (W := 0) (rm7 l Z a0 hw [] a1 q2 w3 K h0 n0 Z0 F_keys_a1 Lk) hZ (hw _ (List.mem_of_getElem? (i := 41) rfl)) (hw _ (List.mem_of_getElem? (i := 9) rfl)) (by decide) (by decide)) (g := (mkF m 10 #[.val (.ref a1), .val (.long q2), .second, .val (.int ((64 : Int32) - (1 : Int32))), .unset] [(.long q2), (.ref a1)])) rfl (by rw [hml]; rfl) (Steps.refl _) (a := a1) (by rw [e4]; exact q5) q5' (argsL := [(.long q2)]) (rest := []) (lenOf pd_6_2 rfl) rfl (by show 2 * 0 + _ ≤ _; exact Nat.le_of_eq rfl) (hb hby d6_10) (fun _ _ => ⟨rfl, e4, (by decide : 0 + 0 ≤ _), (by decide : 0 + 0 ≤ _)⟩)
  dsimp only [Pt.U, Pt.locs, Pt.cells, Pt.slots] at X5 l5 y5 z5 st5 hQ5
  subst l5 y5 z5
  obtain ⟨rfl, N5q, e5⟩ := hQ5
  have Kc5 : Keep h0 T5.heap [] := by rw [e5]; exact Keep.refl _ _
  have Zt5 : n0 ≤ T5.heap.size := Nat.le_trans Z0 Kc5.1
  have N5 := Fr.app N0 N5q
  obtain ⟨cq6, kq6, q6a, q6b, q6c⟩ := isOf hZ rfl (E_a1.keep Kc5)
  obtain ⟨_, _, ⟨T6, L6, k6, n6⟩, -, X6, ⟨Lc6, hQ6, l6, y6, z6⟩, st6⟩ := X5.virtualBack hx (y := (⟨"com/example/sectionary/sectionary/tables/LongKeyTable", "holds", "(I)Z"⟩ : MethodName)) (z := (⟨"com/example/sectionary/sectionary/tables/LongKeyTable", "holds", "(I)Z"⟩ : MethodName)) hown (mvT hZ (hw _ (List.mem_of_getElem? (i := 48) rfl))) (mvT hZ (hw _ (List.mem_of_getElem? (i := 49) rfl))) (notFace_of_selects (args := #[]) (mvT hZ (hw _ (List.mem_of_getElem? (i := 51) rfl)))) (mvT hZ (hw _ (List.mem_of_getElem? (i := 51) rfl))) (mvT hZ (hw _ (List.mem_of_getElem? (i := 50) rfl))) (by decide) (backOf (W := 0) (rm9 l Z a0 hw [] a1 (own_home q2) b U T5.heap n0 Zt5 (by rw [e5]; exact F_used) (by rw [e5]; exact Lu) ix.2.2) hZ (hw _ (List.mem_of_getElem? (i := 52) rfl)) (hw _ (List.mem_of_getElem? (i := 9) rfl)) (by decide) (by decide)) q6a q6c (g := (mkF m 18 #[.val (.ref a1), .val (.long q2), .second, .val (.int ((64 : Int32) - (1 : Int32))), .val (.int (own_home q2))] [(.int (own_home q2)), (.ref a1)])) rfl (by rw [hml]; rfl) (Steps.refl _) (argsL := [(.int (own_home q2))]) (rest := []) (lenOf pd_6_4 rfl) rfl (by show 2 * 0 + _ ≤ _; exact Nat.le_of_eq rfl) (hb hby d6_18) (fun _ _ => ⟨rfl, rfl, (by decide : 0 + 0 ≤ _), (by decide : 0 + 0 ≤ _)⟩)
  dsimp only [Pt.U, Pt.locs, Pt.cells, Pt.slots] at X6 l6 y6 z6 st6 hQ6
  subst l6 y6 z6
  obtain ⟨rfl, N6q, e6⟩ := hQ6
  have Kc6 : Keep T5.heap T6.heap [] := by rw [e6]; exact Keep.refl _ _
  have Zt6 : n0 ≤ T6.heap.size := Nat.le_trans Zt5 Kc6.1
  have Ar_w7 : Arr Z T6.heap w3 cl_w3 .long := by rw [e6, e5]; exact Ar_w3
  have N6 := Fr.app N5 N6q
  obtain ⟨T8, X8, e8, st8⟩ := getF X6 hx hZ hown (host := "") (Or.inl (hw _ (List.mem_of_getElem? (i := 15) rfl))) Via.refl rfl ((F_keys_a1.keep Kc5 (fun hx => nomatch hx)).keep Kc6 (fun hx => nomatch hx)) (g := (mkF m 25 #[.val (.ref a1), .val (.long q2), .second, .val (.int ((64 : Int32) - (1 : Int32))), .val (.int (own_home q2))] [(.ref a1)])) rfl rfl (hb hby d6_25)
  obtain ⟨cq10, kq10, q10a, q10b, q10c⟩ := isOf hZ e8 ((E_a1.keep Kc5).keep Kc6)
  obtain ⟨_, _, ⟨T10, L10, k10, n10⟩, -, X10, ⟨Lc10, hQ10, l10, y10, z10⟩, st10⟩ := X8.virtualBack hx (y := (⟨"com/example/sectionary/sectionary/tables/LongKeyTable", "holds", "(I)Z"⟩ : MethodName)) (z := (⟨"com/example/sectionary/sectionary/tables/LongKeyTable", "holds", "(I)Z"⟩ : MethodName)) hown (mvT hZ (hw _ (List.mem_of_getElem? (i := 48) rfl))) (mvT hZ (hw _ (List.mem_of_getElem? (i := 49) rfl))) (notFace_of_selects (args := #[]) (mvT hZ (hw _ (List.mem_of_getElem? (i := 51) rfl)))) (mvT hZ (hw _ (List.mem_of_getElem? (i := 51) rfl))) (mvT hZ (hw _ (List.mem_of_getElem? (i := 50) rfl))) (by decide) (backOf (W := 0) (rm9 l Z a0 hw [] a1 (own_nx (own_home q2)) b U T6.heap n0 Zt6 (by rw [e6, e5]; exact F_used) (by rw [e6, e5]; exact Lu) iy.2.2) hZ (hw _ (List.mem_of_getElem? (i := 52) rfl)) (hw _ (List.mem_of_getElem? (i := 9) rfl)) (by decide) (by decide)) q10a q10c (g := (mkF m 18 #[.val (.ref a1), .val (.long q2), .second, .val (.int ((64 : Int32) - (1 : Int32))), .val (.int (own_nx (own_home q2)))] [(.int (own_nx (own_home q2))), (.ref a1)])) rfl (by rw [hml]; rfl) (Steps.refl _) (argsL := [(.int (own_nx (own_home q2)))]) (rest := []) (lenOf pd_6_4 rfl) rfl (by show 2 * 0 + _ ≤ _; exact Nat.le_of_eq rfl) (hb hby d6_18) (fun _ _ => ⟨rfl, e8, (by decide : 0 + 0 ≤ _), (by decide : 0 + 0 ≤ _)⟩)
  dsimp only [Pt.U, Pt.locs, Pt.cells, Pt.slots] at X10 l10 y10 z10 st10 hQ10
  subst l10 y10 z10
  obtain ⟨rfl, N10q, e10⟩ := hQ10
  have Kc10 : Keep T6.heap T10.heap [] := by rw [e10]; exact Keep.refl _ _
  have Zt10 : n0 ≤ T10.heap.size := Nat.le_trans Zt6 Kc10.1
  have Ar_w11 : Arr Z T10.heap w3 cl_w3 .long := by rw [e10, e6, e5]; exact Ar_w3
  have N10 := Fr.app N6 N10q
  obtain ⟨T12, X12, e12, st12⟩ := getF X10 hx hZ hown (host := "") (Or.inl (hw _ (List.mem_of_getElem? (i := 15) rfl))) Via.refl rfl (((F_keys_a1.keep Kc5 (fun hx => nomatch hx)).keep Kc6 (fun hx => nomatch hx)).keep Kc10 (fun hx => nomatch hx)) (g := (mkF m 25 #[.val (.ref a1), .val (.long q2), .second, .val (.int ((64 : Int32) - (1 : Int32))), .val (.int (own_nx (own_home q2)))] [(.ref a1)])) rfl rfl (hb hby d6_25)
  obtain ⟨fs, hr, hrun, hended, hW, hsame⟩ := X12.leave (v := some (.int (own_nx (own_home q2)))) (fun h => by rw [Bd.returns] at h; cases h)
  refine ⟨_, _, pre0 _ ?_, hrun, hended, _, _, rfl, ?_, ⟨_, rfl⟩, hW, hsame.mono (by decide) (by decide)⟩
  · show Steps p.tables e below (s₁.setTop (mkF m 0 #[.val (.ref a1), .val (.long q2), .second, .unset, .unset] [])) _
    refine XS.aloadN X0.here hx rfl (hb hby d6_0) rfl rfl ?_
    show Steps p.tables e below (s₁.setTop (mkF m 1 #[.val (.ref a1), .val (.long q2), .second, .unset, .unset] [(.ref a1)])) _
    refine st4 _ ?_
    show Steps p.tables e below (T4.setTop (mkF m 4 #[.val (.ref a1), .val (.long q2), .second, .unset, .unset] [(.ref w3)])) _
    refine X4.arraylength hx (by rw [e4]; exact Ar_w3.1) (State.isArrayOf_alike hZ.alike Ar_w3.2.1) (g := (mkF m 4 #[.val (.ref a1), .val (.long q2), .second, .unset, .unset] [(.ref w3)])) rfl rfl (hb hby d6_4) _ ?_
    rw [len_of (z := (64 : Int32)) S_w3 N_w3]
    show Steps p.tables e below (T4.setTop (mkF m 5 #[.val (.ref a1), .val (.long q2), .second, .unset, .unset] [(.int (64 : Int32))])) _
    refine XS.iconst X4.here hx rfl (hb hby d6_5) ?_
    show Steps p.tables e below (T4.setTop (mkF m 6 #[.val (.ref a1), .val (.long q2), .second, .unset, .unset] [(.int (1 : Int32)), (.int (64 : Int32))])) _
    refine XS.isub X4.here hx rfl (hb hby d6_6) rfl ?_
    show Steps p.tables e below (T4.setTop (mkF m 7 #[.val (.ref a1), .val (.long q2), .second, .unset, .unset] [(.int ((64 : Int32) - (1 : Int32)))])) _
    refine XS.istoreN X4.here hx rfl (hb hby d6_7) rfl (l' := #[.val (.ref a1), .val (.long q2), .second, .val (.int ((64 : Int32) - (1 : Int32))), .unset]) rfl ?_
    show Steps p.tables e below (T4.setTop (mkF m 8 #[.val (.ref a1), .val (.long q2), .second, .val (.int ((64 : Int32) - (1 : Int32))), .unset] [])) _
    refine XS.aloadN X4.here hx rfl (hb hby d6_8) rfl rfl ?_
    show Steps p.tables e below (T4.setTop (mkF m 9 #[.val (.ref a1), .val (.long q2), .second, .val (.int ((64 : Int32) - (1 : Int32))), .unset] [(.ref a1)])) _
    refine XS.lloadN X4.here hx rfl (hb hby d6_9) rfl ?_
    show Steps p.tables e below (T4.setTop (mkF m 10 #[.val (.ref a1), .val (.long q2), .second, .val (.int ((64 : Int32) - (1 : Int32))), .unset] [(.long q2), (.ref a1)])) _
    refine st5.trans ?_
    show Steps p.tables e below (T5.setTop (mkF m 13 #[.val (.ref a1), .val (.long q2), .second, .val (.int ((64 : Int32) - (1 : Int32))), .unset] [(.int (own_home q2))])) _
    refine XS.istore X5.here hx rfl (hb hby d6_13) rfl (l' := #[.val (.ref a1), .val (.long q2), .second, .val (.int ((64 : Int32) - (1 : Int32))), .val (.int (own_home q2))]) rfl ?_
    show Steps p.tables e below (T5.setTop (mkF m 15 #[.val (.ref a1), .val (.long q2), .second, .val (.int ((64 : Int32) - (1 : Int32))), .val (.int (own_home q2))] [])) _
    refine XS.aloadN X5.here hx rfl (hb hby d6_15) rfl rfl ?_
    show Steps p.tables e below (T5.setTop (mkF m 16 #[.val (.ref a1), .val (.long q2), .second, .val (.int ((64 : Int32) - (1 : Int32))), .val (.int (own_home q2))] [(.ref a1)])) _
    refine XS.iload X5.here hx rfl (hb hby d6_16) rfl ?_
    show Steps p.tables e below (T5.setTop (mkF m 18 #[.val (.ref a1), .val (.long q2), .second, .val (.int ((64 : Int32) - (1 : Int32))), .val (.int (own_home q2))] [(.int (own_home q2)), (.ref a1)])) _
    refine st6.trans ?_
    show Steps p.tables e below (T6.setTop (mkF m 21 #[.val (.ref a1), .val (.long q2), .second, .val (.int ((64 : Int32) - (1 : Int32))), .val (.int (own_home q2))] [(.int (own_held U (own_home q2)))])) _
    refine XS.ifNo X6.here hx rfl (hb hby d6_21) rfl ((if0 _ _).trans (feq (c1 : ¬ ((own_held U (own_home q2)) = (0 : Int32)))).1) ?_
    show Steps p.tables e below (T6.setTop (mkF m 24 #[.val (.ref a1), .val (.long q2), .second, .val (.int ((64 : Int32) - (1 : Int32))), .val (.int (own_home q2))] [])) _
    refine XS.aloadN X6.here hx rfl (hb hby d6_24) rfl rfl ?_
    show Steps p.tables e below (T6.setTop (mkF m 25 #[.val (.ref a1), .val (.long q2), .second, .val (.int ((64 : Int32) - (1 : Int32))), .val (.int (own_home q2))] [(.ref a1)])) _
    refine st8 _ ?_
    show Steps p.tables e below (T8.setTop (mkF m 28 #[.val (.ref a1), .val (.long q2), .second, .val (.int ((64 : Int32) - (1 : Int32))), .val (.int (own_home q2))] [(.ref w3)])) _
    refine XS.iload X8.here hx rfl (hb hby d6_28) rfl ?_
    show Steps p.tables e below (T8.setTop (mkF m 30 #[.val (.ref a1), .val (.long q2), .second, .val (.int ((64 : Int32) - (1 : Int32))), .val (.int (own_home q2))] [(.int (own_home q2)), (.ref w3)])) _
    refine X8.laload hx (j := (own_home q2)) (v := (.long (K (own_home q2).toNatClampNeg))) (by rw [e8]; exact Ar_w7.1) (State.isArrayOf_alike hZ.alike Ar_w7.2.1) Ar_w7.2.2 (own_in S_w3 ix.1 ix.2.1) (Hk _ ix.2.1) (g := (mkF m 30 #[.val (.ref a1), .val (.long q2), .second, .val (.int ((64 : Int32) - (1 : Int32))), .val (.int (own_home q2))] [(.int (own_home q2)), (.ref w3)])) rfl rfl (hb hby d6_30) _ ?_
    show Steps p.tables e below (T8.setTop (mkF m 31 #[.val (.ref a1), .val (.long q2), .second, .val (.int ((64 : Int32) - (1 : Int32))), .val (.int (own_home q2))] [(.long (K (own_home q2).toNatClampNeg))])) _
    refine XS.lloadN X8.here hx rfl (hb hby d6_31) rfl ?_
    show Steps p.tables e below (T8.setTop (mkF m 32 #[.val (.ref a1), .val (.long q2), .second, .val (.int ((64 : Int32) - (1 : Int32))), .val (.int (own_home q2))] [(.long q2), (.long (K (own_home q2).toNatClampNeg))])) _
    refine XS.lcmp X8.here hx rfl (hb hby d6_32) rfl ?_
    show Steps p.tables e below (T8.setTop (mkF m 33 #[.val (.ref a1), .val (.long q2), .second, .val (.int ((64 : Int32) - (1 : Int32))), .val (.int (own_home q2))] [(.int (lcmpW (K (own_home q2).toNatClampNeg) q2))])) _
    refine XS.ifNo X8.here hx rfl (hb hby d6_33) rfl ((if0 _ _).trans (feq (fun z => c2 ((lw_eq _ _).mp z))).1) ?_
    show Steps p.tables e below (T8.setTop (mkF m 36 #[.val (.ref a1), .val (.long q2), .second, .val (.int ((64 : Int32) - (1 : Int32))), .val (.int (own_home q2))] [])) _
    refine XS.iload X8.here hx rfl (hb hby d6_36) rfl ?_
    show Steps p.tables e below (T8.setTop (mkF m 38 #[.val (.ref a1), .val (.long q2), .second, .val (.int ((64 : Int32) - (1 : Int32))), .val (.int (own_home q2))] [(.int (own_home q2))])) _
    refine XS.iconst X8.here hx rfl (hb hby d6_38) ?_
    show Steps p.tables e below (T8.setTop (mkF m 39 #[.val (.ref a1), .val (.long q2), .second, .val (.int ((64 : Int32) - (1 : Int32))), .val (.int (own_home q2))] [(.int (1 : Int32)), (.int (own_home q2))])) _
    refine XS.iadd X8.here hx rfl (hb hby d6_39) rfl ?_
    show Steps p.tables e below (T8.setTop (mkF m 40 #[.val (.ref a1), .val (.long q2), .second, .val (.int ((64 : Int32) - (1 : Int32))), .val (.int (own_home q2))] [(.int ((own_home q2) + (1 : Int32)))])) _
    refine XS.iloadN X8.here hx rfl (hb hby d6_40) rfl ?_
    show Steps p.tables e below (T8.setTop (mkF m 41 #[.val (.ref a1), .val (.long q2), .second, .val (.int ((64 : Int32) - (1 : Int32))), .val (.int (own_home q2))] [(.int ((64 : Int32) - (1 : Int32))), (.int ((own_home q2) + (1 : Int32)))])) _
    refine XS.iand X8.here hx rfl (hb hby d6_41) rfl ?_
    show Steps p.tables e below (T8.setTop (mkF m 42 #[.val (.ref a1), .val (.long q2), .second, .val (.int ((64 : Int32) - (1 : Int32))), .val (.int (own_home q2))] [(.int (own_nx (own_home q2)))])) _
    refine XS.istore X8.here hx rfl (hb hby d6_42) rfl (l' := #[.val (.ref a1), .val (.long q2), .second, .val (.int ((64 : Int32) - (1 : Int32))), .val (.int (own_nx (own_home q2)))]) rfl ?_
    show Steps p.tables e below (T8.setTop (mkF m 44 #[.val (.ref a1), .val (.long q2), .second, .val (.int ((64 : Int32) - (1 : Int32))), .val (.int (own_nx (own_home q2)))] [])) _
    refine XS.goto X8.here hx rfl (pc0 := 44) (pc' := 15) rfl (hb hby d6_44) (by decide) (by decide) ?_
    show Steps p.tables e below (T8.setTop (mkF m 15 #[.val (.ref a1), .val (.long q2), .second, .val (.int ((64 : Int32) - (1 : Int32))), .val (.int (own_nx (own_home q2)))] [])) _
    refine XS.aloadN X8.here hx rfl (hb hby d6_15) rfl rfl ?_
    show Steps p.tables e below (T8.setTop (mkF m 16 #[.val (.ref a1), .val (.long q2), .second, .val (.int ((64 : Int32) - (1 : Int32))), .val (.int (own_nx (own_home q2)))] [(.ref a1)])) _
    refine XS.iload X8.here hx rfl (hb hby d6_16) rfl ?_
    show Steps p.tables e below (T8.setTop (mkF m 18 #[.val (.ref a1), .val (.long q2), .second, .val (.int ((64 : Int32) - (1 : Int32))), .val (.int (own_nx (own_home q2)))] [(.int (own_nx (own_home q2))), (.ref a1)])) _
    refine st10.trans ?_
    show Steps p.tables e below (T10.setTop (mkF m 21 #[.val (.ref a1), .val (.long q2), .second, .val (.int ((64 : Int32) - (1 : Int32))), .val (.int (own_nx (own_home q2)))] [(.int (own_held U (own_nx (own_home q2))))])) _
    refine XS.ifNo X10.here hx rfl (hb hby d6_21) rfl ((if0 _ _).trans (feq (c3 : ¬ ((own_held U (own_nx (own_home q2))) = (0 : Int32)))).1) ?_
    show Steps p.tables e below (T10.setTop (mkF m 24 #[.val (.ref a1), .val (.long q2), .second, .val (.int ((64 : Int32) - (1 : Int32))), .val (.int (own_nx (own_home q2)))] [])) _
    refine XS.aloadN X10.here hx rfl (hb hby d6_24) rfl rfl ?_
    show Steps p.tables e below (T10.setTop (mkF m 25 #[.val (.ref a1), .val (.long q2), .second, .val (.int ((64 : Int32) - (1 : Int32))), .val (.int (own_nx (own_home q2)))] [(.ref a1)])) _
    refine st12 _ ?_
    show Steps p.tables e below (T12.setTop (mkF m 28 #[.val (.ref a1), .val (.long q2), .second, .val (.int ((64 : Int32) - (1 : Int32))), .val (.int (own_nx (own_home q2)))] [(.ref w3)])) _
    refine XS.iload X12.here hx rfl (hb hby d6_28) rfl ?_
    show Steps p.tables e below (T12.setTop (mkF m 30 #[.val (.ref a1), .val (.long q2), .second, .val (.int ((64 : Int32) - (1 : Int32))), .val (.int (own_nx (own_home q2)))] [(.int (own_nx (own_home q2))), (.ref w3)])) _
    refine X12.laload hx (j := (own_nx (own_home q2))) (v := (.long (K (own_nx (own_home q2)).toNatClampNeg))) (by rw [e12]; exact Ar_w11.1) (State.isArrayOf_alike hZ.alike Ar_w11.2.1) Ar_w11.2.2 (own_in S_w3 iy.1 iy.2.1) (Hk _ iy.2.1) (g := (mkF m 30 #[.val (.ref a1), .val (.long q2), .second, .val (.int ((64 : Int32) - (1 : Int32))), .val (.int (own_nx (own_home q2)))] [(.int (own_nx (own_home q2))), (.ref w3)])) rfl rfl (hb hby d6_30) _ ?_
    show Steps p.tables e below (T12.setTop (mkF m 31 #[.val (.ref a1), .val (.long q2), .second, .val (.int ((64 : Int32) - (1 : Int32))), .val (.int (own_nx (own_home q2)))] [(.long (K (own_nx (own_home q2)).toNatClampNeg))])) _
    refine XS.lloadN X12.here hx rfl (hb hby d6_31) rfl ?_
    show Steps p.tables e below (T12.setTop (mkF m 32 #[.val (.ref a1), .val (.long q2), .second, .val (.int ((64 : Int32) - (1 : Int32))), .val (.int (own_nx (own_home q2)))] [(.long q2), (.long (K (own_nx (own_home q2)).toNatClampNeg))])) _
    refine XS.lcmp X12.here hx rfl (hb hby d6_32) rfl ?_
    show Steps p.tables e below (T12.setTop (mkF m 33 #[.val (.ref a1), .val (.long q2), .second, .val (.int ((64 : Int32) - (1 : Int32))), .val (.int (own_nx (own_home q2)))] [(.int (lcmpW (K (own_nx (own_home q2)).toNatClampNeg) q2))])) _
    refine XS.ifYes X12.here hx rfl (pc0 := 33) (pc' := 47) rfl (hb hby d6_33) rfl ((if0 _ _).trans (teq ((lw_eq _ _).mpr c4)).1) (by decide) (by decide) ?_
    show Steps p.tables e below (T12.setTop (mkF m 47 #[.val (.ref a1), .val (.long q2), .second, .val (.int ((64 : Int32) - (1 : Int32))), .val (.int (own_nx (own_home q2)))] [])) _
    refine XS.iload X12.here hx rfl (hb hby d6_47) rfl ?_
    show Steps p.tables e below (T12.setTop (mkF m 49 #[.val (.ref a1), .val (.long q2), .second, .val (.int ((64 : Int32) - (1 : Int32))), .val (.int (own_nx (own_home q2)))] [(.int (own_nx (own_home q2)))])) _
    exact retI X12 hx Bd.returns (hb hby d6_49) hr
  · show QI Z (own_nx (own_home q2)) h0 n0 _ T12.heap _
    exact ⟨rfl, N10, by rw [e12, e10, e6, e5]⟩
def own_sl (K : Nat → Int64) (U q : Int64) (r : Int32) : Prop :=
  (r = own_home q ∧ (own_held U r = 0 ∨ (¬ own_held U r = 0 ∧ K r.toNatClampNeg = q))) ∨
  (¬ own_held U (own_home q) = 0 ∧ ¬ K (own_home q).toNatClampNeg = q ∧ r = own_nx (own_home q) ∧ (own_held U r = 0 ∨ (¬ own_held U r = 0 ∧ K r.toNatClampNeg = q)))
theorem own_sl_ix {K : Nat → Int64} {U q : Int64} {r : Int32} (h : own_sl K U q r) : own_ix r := by
  rcases h with ⟨rfl, -⟩ | ⟨-, -, rfl, -⟩
  · exact own_home_ix q
  · exact own_nx_ix _
theorem rm6 (l : Launch) (Z : State) (a0 : Array Value) (hw : ∀ d ∈ tables_1, d.before a0 Z = true) (ws : List Jvm.Cond) (a1 : Addr) (q2 : Int64) (w3 b : Addr) (K : Nat → Int64) (U : Int64) (h0 : Heap) (n0 : Nat) (Z0 : n0 ≤ h0.size) (E_a1 : Exa Z h0 a1 "com/example/sectionary/sectionary/tables/LongKeyIntMap") (F_keys_a1 : Fld Z h0 a1 "com/example/sectionary/sectionary/tables/LongKeyTable" "keys" "[J" (.ref w3)) (F_used : Fld Z h0 a1 "com/example/sectionary/sectionary/tables/LongKeyTable" "used" "[J" (.ref b)) (Lk : own_L Z h0 w3 64 K) (Lu : own_L Z h0 b 1 (fun _ => U)) (r : Int32) (hs : own_sl K U q2 r) :
    MetFree l (⟨"com/example/sectionary/sectionary/tables/LongKeyTable", "slot", "(J)I"⟩ : MethodName) (head1 (Jvm.Cond.code (⟨"com/example/sectionary/sectionary/tables/LongKeyTable", "slot", "(J)I"⟩ : MethodName) prog_96_method_4_code 5 (some .int) :: ws) ({ frames := 2, cells := 0, slots := 0, locals := 30 } : Room)) (fun a Us => a = #[(.ref a1), (.long q2)] ∧ Z.Warmed39 Us.vm ∧ Us.heap = h0) (fun _ _ _ _ _ => True) (fun _ Us o Us' => ∃ v L, o = .returned v ∧ QI Z r h0 n0 v Us'.heap L ∧ FrameEnd Us o Us' L ({ frames := 2, cells := 0, slots := 0, locals := 30 } : Room).cells ({ frames := 2, cells := 0, slots := 0, locals := 30 } : Room).slots) := by
  rcases hs with ⟨rfl, h | ⟨h, h2⟩⟩ | ⟨h, h2, rfl, h3 | ⟨h3, h4⟩⟩
  · exact rm6_t l Z a0 hw ws a1 q2 w3 b K U h0 n0 Z0 E_a1 F_keys_a1 F_used Lk Lu h
  · exact rm6_ft l Z a0 hw ws a1 q2 w3 b K U h0 n0 Z0 E_a1 F_keys_a1 F_used Lk Lu h h2
  · exact rm6_fft l Z a0 hw ws a1 q2 w3 b K U h0 n0 Z0 E_a1 F_keys_a1 F_used Lk Lu h h2 h3
  · exact rm6_ffft l Z a0 hw ws a1 q2 w3 b K U h0 n0 Z0 E_a1 F_keys_a1 F_used Lk Lu h h2 h3 h4
def Q5 (Z : State) (a1 w7 w11 vv : Addr) (K : Nat → Int64) (U : Int64) (nv : Nat) (V : Nat → Int32) (sz : Int32) (q : Int64) (r : Int32) (h0 : Heap) (n0 : Nat) (v : Option Value) (h : Heap) (L : List Loc) : Prop := v = some (.int r) ∧ Fr n0 L ∧ Keep h0 h [w7, w11, a1] ∧ own_tab Z n0 h a1 w7 w11 vv (fun j => if j = r.toNatClampNeg then q else K j) (U ||| own_bit r) nv V (sz + 1)
theorem d5_0 : decode prog_96_method_6_code 0 = .ok (.aload_n 0, 1) := by decide +kernel
theorem d5_1 : decode prog_96_method_6_code 1 = .ok (.lload_n 1, 1) := by decide +kernel
theorem d5_2 : decode prog_96_method_6_code 2 = .ok (.invokevirtual 22, 3) := by decide +kernel
theorem d5_5 : decode prog_96_method_6_code 5 = .ok (.istore_n 3, 1) := by decide +kernel
theorem d5_6 : decode prog_96_method_6_code 6 = .ok (.aload_n 0, 1) := by decide +kernel
theorem d5_7 : decode prog_96_method_6_code 7 = .ok (.iload_n 3, 1) := by decide +kernel
theorem d5_8 : decode prog_96_method_6_code 8 = .ok (.invokevirtual 26, 3) := by decide +kernel
theorem d5_11 : decode prog_96_method_6_code 11 = .ok (.ifCond .ne 64, 3) := by decide +kernel
theorem d5_14 : decode prog_96_method_6_code 14 = .ok (.iconst 4, 1) := by decide +kernel
theorem d5_15 : decode prog_96_method_6_code 15 = .ok (.aload_n 0, 1) := by decide +kernel
theorem d5_16 : decode prog_96_method_6_code 16 = .ok (.getfield 18, 3) := by decide +kernel
theorem d5_19 : decode prog_96_method_6_code 19 = .ok (.iconst 1, 1) := by decide +kernel
theorem d5_20 : decode prog_96_method_6_code 20 = .ok (.iadd, 1) := by decide +kernel
theorem d5_21 : decode prog_96_method_6_code 21 = .ok (.imul, 1) := by decide +kernel
theorem d5_22 : decode prog_96_method_6_code 22 = .ok (.iconst 3, 1) := by decide +kernel
theorem d5_23 : decode prog_96_method_6_code 23 = .ok (.aload_n 0, 1) := by decide +kernel
theorem d5_24 : decode prog_96_method_6_code 24 = .ok (.getfield 9, 3) := by decide +kernel
theorem d5_27 : decode prog_96_method_6_code 27 = .ok (.arraylength, 1) := by decide +kernel
theorem d5_28 : decode prog_96_method_6_code 28 = .ok (.imul, 1) := by decide +kernel
theorem d5_29 : decode prog_96_method_6_code 29 = .ok (.if_icmp .le 13, 3) := by decide +kernel
theorem d5_42 : decode prog_96_method_6_code 42 = .ok (.aload_n 0, 1) := by decide +kernel
theorem d5_43 : decode prog_96_method_6_code 43 = .ok (.getfield 9, 3) := by decide +kernel
theorem d5_46 : decode prog_96_method_6_code 46 = .ok (.iload_n 3, 1) := by decide +kernel
theorem d5_47 : decode prog_96_method_6_code 47 = .ok (.lload_n 1, 1) := by decide +kernel
theorem d5_48 : decode prog_96_method_6_code 48 = .ok (.lastore, 1) := by decide +kernel
theorem d5_49 : decode prog_96_method_6_code 49 = .ok (.aload_n 0, 1) := by decide +kernel
theorem d5_50 : decode prog_96_method_6_code 50 = .ok (.getfield 15, 3) := by decide +kernel
theorem d5_53 : decode prog_96_method_6_code 53 = .ok (.iload_n 3, 1) := by decide +kernel
theorem d5_54 : decode prog_96_method_6_code 54 = .ok (.bipush 64, 2) := by decide +kernel
theorem d5_56 : decode prog_96_method_6_code 56 = .ok (.idiv, 1) := by decide +kernel
theorem d5_57 : decode prog_96_method_6_code 57 = .ok (.dup2, 1) := by decide +kernel
theorem d5_58 : decode prog_96_method_6_code 58 = .ok (.laload, 1) := by decide +kernel
theorem d5_59 : decode prog_96_method_6_code 59 = .ok (.iload_n 3, 1) := by decide +kernel
theorem d5_60 : decode prog_96_method_6_code 60 = .ok (.invokestatic 37, 3) := by decide +kernel
theorem d5_63 : decode prog_96_method_6_code 63 = .ok (.lor, 1) := by decide +kernel
theorem d5_64 : decode prog_96_method_6_code 64 = .ok (.lastore, 1) := by decide +kernel
theorem d5_65 : decode prog_96_method_6_code 65 = .ok (.aload_n 0, 1) := by decide +kernel
theorem d5_66 : decode prog_96_method_6_code 66 = .ok (.dup, 1) := by decide +kernel
theorem d5_67 : decode prog_96_method_6_code 67 = .ok (.getfield 18, 3) := by decide +kernel
theorem d5_70 : decode prog_96_method_6_code 70 = .ok (.iconst 1, 1) := by decide +kernel
theorem d5_71 : decode prog_96_method_6_code 71 = .ok (.iadd, 1) := by decide +kernel
theorem d5_72 : decode prog_96_method_6_code 72 = .ok (.putfield 18, 3) := by decide +kernel
theorem d5_75 : decode prog_96_method_6_code 75 = .ok (.iload_n 3, 1) := by decide +kernel
theorem d5_76 : decode prog_96_method_6_code 76 = .ok (.ireturn, 1) := by decide +kernel
theorem pn_5 : plainName "com/example/sectionary/sectionary/tables/LongKeyTable" = true := by first | (simp [plainName, overriddenIn]; done) | decide +kernel
theorem pd_5_2 : parseMethodDescriptor "(J)I" = some ⟨[.long], some .int⟩ := by decide +kernel
theorem pd_5_4 : parseMethodDescriptor "(I)Z" = some ⟨[.int], some .boolean⟩ := by decide +kernel
theorem pd_5_5 : parseMethodDescriptor "(I)J" = some ⟨[.int], some .long⟩ := by decide +kernel
theorem ef_5 (m : MethodId) (x0 : Addr) (x1 : Int64) : entryFrame m #[(.ref x0), (.long x1)] 4 = mkF m 0 #[.val (.ref x0), .val (.long x1), .second, .unset] [] := by first | (simp [entryFrame, mkF, argsToLocals, Value.category]; done) | rfl
set_option maxRecDepth 65536 in
set_option maxHeartbeats 40000000 in
theorem rm5 (l : Launch) (Z : State) (a0 : Array Value) (hw : ∀ d ∈ tables_1, d.before a0 Z = true) (ws : List Jvm.Cond) (a1 : Addr) (q2 : Int64) (w7 w11 vv : Addr) (K : Nat → Int64) (U : Int64) (nv : Nat) (V : Nat → Int32) (sz : Int32) (r : Int32) (h0 : Heap) (n0 : Nat) (Z0 : n0 ≤ h0.size) (Tb : own_tab Z n0 h0 a1 w7 w11 vv K U nv V sz) (hs : own_sl K U q2 r) (hn : own_held U r = 0) (hc29 : ¬ ((3 : Int32) * (64 : Int32)) < ((4 : Int32) * (sz + (1 : Int32)))) :
    MetFree l (⟨"com/example/sectionary/sectionary/tables/LongKeyTable", "insert", "(J)I"⟩ : MethodName) (head1 (Jvm.Cond.code (⟨"com/example/sectionary/sectionary/tables/LongKeyTable", "insert", "(J)I"⟩ : MethodName) prog_96_method_6_code 4 (some .int) :: ws) ({ frames := 3, cells := 0, slots := 0, locals := 46 } : Room)) (fun a Us => a = #[(.ref a1), (.long q2)] ∧ Z.Warmed39 Us.vm ∧ Us.heap = h0) (fun _ _ _ _ _ => True) (fun _ Us o Us' => ∃ v L, o = .returned v ∧ Q5 Z a1 w7 w11 vv K U nv V sz q2 r h0 n0 v Us'.heap L ∧ FrameEnd Us o Us' L ({ frames := 3, cells := 0, slots := 0, locals := 46 } : Room).cells ({ frames := 3, cells := 0, slots := 0, locals := 46 } : Room).slots) := by
  refine MetFree.of_bodySF (plainFor_of_name pn_5) hisR ?_
  intro p e s m args below meth c s₁ Bd hml0 hP hK
  obtain ⟨rfl, hZ, hh⟩ := hP
  have hx := Bd.exec
  have hby := Bd.bytes
  have hml : c.maxLocals = 4 := hml0
  have hown : s.vm.findClass "com/example/sectionary/sectionary/tables/LongKeyTable" = some m.cls := findClass_of_methodNamed Bd.named
  have hnm := (name_of_methodNamed Bd.named Bd.method).1
  have X0 : Stand p l e ({ frames := 3, cells := 0, slots := 0, locals := 46 } : Room) s m #[(.ref a1), (.long q2)] below meth c s₁ [] 0 0 := Stand.of_body Bd
  have e0 : s₁.heap = h0 := by rw [← hh, Bd.state]; rfl
  have N0 := Fr.nil n0
  obtain ⟨E_a1, F_keys_a1, F_used_a1, F_values_a1, F_size_a1, Lk, Lu, Iv, ⟨g_a1, g_w7, g_w11, g_vv⟩, ⟨n17, n111, n1v, n711, n7v, n11v⟩⟩ := Tb
  obtain ⟨cl_w7, Ar7, S_w7, H7⟩ := id Lk
  obtain ⟨cl_w11, Ar11, S11, H11⟩ := id Lu
  have N_w7 : ¬ (64 : Int32) < 0 := by decide
  have hnz56 : ¬ ((64 : Int32) = (0 : Int32)) := by decide
  have ix := own_sl_ix hs
  have pre0 : ∀ t, Steps p.tables e below (s₁.setTop (mkF m 0 #[.val (.ref a1), .val (.long q2), .second, .unset] [])) t → Steps p.tables e below (s₁.setTop (entryFrame m #[(.ref a1), (.long q2)] 4)) t := fun t k => castTop (ef_5 m a1 q2) k
  obtain ⟨cq3, kq3, q3a, q3b, q3c⟩ := isOf hZ e0 E_a1
  obtain ⟨_, _, ⟨T3, L3, k3, n3⟩, -, X3, ⟨Lc3, hQ3, l3, y3, z3⟩, st3⟩ := X0.virtualBack hx (y := (⟨"com/example/sectionary/sectionary/tables/LongKeyTable", "slot", "(J)I"⟩ : MethodName)) (z := (⟨"com/example/sectionary/sectionary/tables/LongKeyTable", "slot", "(J)I"⟩ : MethodName)) hown (mvT hZ (hw _ (List.mem_of_getElem? (i := 33) rfl))) (mvT hZ (hw _ (List.mem_of_getElem? (i := 34) rfl))) (notFace_of_selects (args := #[]) (mvT hZ (hw _ (List.mem_of_getElem? (i := 36) rfl)))) (mvT hZ (hw _ (List.mem_of_getElem? (i := 36) rfl))) (mvT hZ (hw _ (List.mem_of_getElem? (i := 35) rfl))) (by decide) (backOf (W := 0) (rm6 l Z a0 hw [] a1 q2 w7 w11 K U h0 n0 Z0 E_a1 F_keys_a1 F_used_a1 Lk Lu r hs) hZ (hw _ (List.mem_of_getElem? (i := 37) rfl)) (hw _ (List.mem_of_getElem? (i := 9) rfl)) (by decide) (by decide)) q3a q3c (g := (mkF m 2 #[.val (.ref a1), .val (.long q2), .second, .unset] [(.long q2), (.ref a1)])) rfl (by rw [hml]; rfl) (Steps.refl _) (argsL := [(.long q2)]) (rest := []) (lenOf pd_5_2 rfl) rfl (by show 2 * 0 + _ ≤ _; exact Nat.le_of_eq rfl) (hb hby d5_2) (fun _ _ => ⟨rfl, e0, (by decide : 0 + 0 ≤ _), (by decide : 0 + 0 ≤ _)⟩)
  dsimp only [Pt.U, Pt.locs, Pt.cells, Pt.slots] at X3 l3 y3 z3 st3 hQ3
  subst l3 y3 z3
  obtain ⟨rfl, N3q, e3⟩ := hQ3
  have Kc3 : Keep h0 T3.heap [] := by rw [e3]; exact Keep.refl _ _
  have Zt3 : n0 ≤ T3.heap.size := Nat.le_trans Z0 Kc3.1
  have N3 := Fr.app N0 N3q
  obtain ⟨cq4, kq4, q4a, q4b, q4c⟩ := isOf hZ rfl (E_a1.keep Kc3)
  obtain ⟨_, _, ⟨T4, L4, k4, n4⟩, -, X4, ⟨Lc4, hQ4, l4, y4, z4⟩, st4⟩ := X3.virtualBack hx (y := (⟨"com/example/sectionary/sectionary/tables/LongKeyTable", "holds", "(I)Z"⟩ : MethodName)) (z := (⟨"com/example/sectionary/sectionary/tables/LongKeyTable", "holds", "(I)Z"⟩ : MethodName)) hown (mvT hZ (hw _ (List.mem_of_getElem? (i := 48) rfl))) (mvT hZ (hw _ (List.mem_of_getElem? (i := 49) rfl))) (notFace_of_selects (args := #[]) (mvT hZ (hw _ (List.mem_of_getElem? (i := 51) rfl)))) (mvT hZ (hw _ (List.mem_of_getElem? (i := 51) rfl))) (mvT hZ (hw _ (List.mem_of_getElem? (i := 50) rfl))) (by decide) (backOf (W := 0) (rm9 l Z a0 hw [] a1 r w11 U T3.heap n0 Zt3 (by rw [e3]; exact F_used_a1) (by rw [e3]; exact Lu) ix.2.2) hZ (hw _ (List.mem_of_getElem? (i := 52) rfl)) (hw _ (List.mem_of_getElem? (i := 9) rfl)) (by decide) (by decide)) q4a q4c (g := (mkF m 8 #[.val (.ref a1), .val (.long q2), .second, .val (.int r)] [(.int r), (.ref a1)])) rfl (by rw [hml]; rfl) (Steps.refl _) (argsL := [(.int r)]) (rest := []) (lenOf pd_5_4 rfl) rfl (by show 2 * 0 + _ ≤ _; exact Nat.le_of_eq rfl) (hb hby d5_8) (fun _ _ => ⟨rfl, rfl, (by decide : 0 + 0 ≤ _), (by decide : 0 + 0 ≤ _)⟩)
  dsimp only [Pt.U, Pt.locs, Pt.cells, Pt.slots] at X4 l4 y4 z4 st4 hQ4
  subst l4 y4 z4
  obtain ⟨rfl, N4q, e4⟩ := hQ4
  have Kc4 : Keep T3.heap T4.heap [] := by rw [e4]; exact Keep.refl _ _
  have Zt4 : n0 ≤ T4.heap.size := Nat.le_trans Zt3 Kc4.1
  have Ar_w7 : Arr Z T4.heap w7 cl_w7 .long := by rw [e4, e3]; exact Ar7
  have hin48 := own_in (j := r) S_w7 ix.1 ix.2.1
  have K4 : Keep h0 T4.heap [w7, w11, a1] := (Keep.trans (Keep.trans (Keep.refl h0 _) Kc3 (fun x hx => nomatch hx)) Kc4 (fun x hx => nomatch hx))
  have N4 := Fr.app N3 N4q
  obtain ⟨T6, X6, e6, st6⟩ := getF X4 hx hZ hown (host := "") (Or.inl (hw _ (List.mem_of_getElem? (i := 56) rfl))) Via.refl rfl ((F_size_a1.keep Kc3 (fun hx => nomatch hx)).keep Kc4 (fun hx => nomatch hx)) (g := (mkF m 16 #[.val (.ref a1), .val (.long q2), .second, .val (.int r)] [(.ref a1), (.int (4 : Int32))])) rfl rfl (hb hby d5_16)
  obtain ⟨T8, X8, e8, st8⟩ := getF X6 hx hZ hown (host := "") (Or.inl (hw _ (List.mem_of_getElem? (i := 15) rfl))) Via.refl e6 ((F_keys_a1.keep Kc3 (fun hx => nomatch hx)).keep Kc4 (fun hx => nomatch hx)) (g := (mkF m 24 #[.val (.ref a1), .val (.long q2), .second, .val (.int r)] [(.ref a1), (.int (3 : Int32)), (.int ((4 : Int32) * (sz + (1 : Int32))))])) rfl rfl (hb hby d5_24)
  obtain ⟨T9, X9, e9, st9⟩ := getF X8 hx hZ hown (host := "") (Or.inl (hw _ (List.mem_of_getElem? (i := 15) rfl))) Via.refl e8 ((F_keys_a1.keep Kc3 (fun hx => nomatch hx)).keep Kc4 (fun hx => nomatch hx)) (g := (mkF m 43 #[.val (.ref a1), .val (.long q2), .second, .val (.int r)] [(.ref a1)])) rfl rfl (hb hby d5_43)
  obtain ⟨T10, h10, X10, e10, W10, st10⟩ := stJ X9 hx hZ e9 Ar_w7 (j := r) hin48 (g := (mkF m 48 #[.val (.ref a1), .val (.long q2), .second, .val (.int r)] [(.long q2), (.int r), (.ref w7)])) rfl rfl (hb hby d5_48)
  have Zh10 : n0 ≤ h10.size := Nat.le_trans Zt4 (Keep.of_wr W10).1
  have N10 := Fr.snoc X10 N4 g_w7
  obtain ⟨T12, X12, e12, st12⟩ := getF X10 hx hZ hown (host := "") (Or.inl (hw _ (List.mem_of_getElem? (i := 17) rfl))) Via.refl e10 (((F_used_a1.keep Kc3 (fun hx => nomatch hx)).keep Kc4 (fun hx => nomatch hx)).other W10 (Or.inl n17)) (g := (mkF m 50 #[.val (.ref a1), .val (.long q2), .second, .val (.int r)] [(.ref a1)])) rfl rfl (hb hby d5_50)
  have Ar_w11 : Arr Z h10 w11 cl_w11 .long := (show Arr Z T4.heap w11 cl_w11 .long by rw [e4, e3]; exact Ar11).other W10 (Ne.symm n711)
  have hin58 : ¬ ((r / (64 : Int32)) < 0 ∨ cl_w11.slots.size ≤ ((r / (64 : Int32))).toNatClampNeg) := by rw [ix.2.2]; exact own_in S11 (by decide) (by decide)
  have hin64 := hin58
  have hat58 : cl_w11.slots[((r / (64 : Int32))).toNatClampNeg]? = some (.long U) := by rw [ix.2.2]; exact H11 0 (by decide)
  obtain ⟨_, _, ⟨T14, L14, k14, n14⟩, -, X14, ⟨Lc14, hQ14, l14, y14, z14⟩, st14⟩ := Jvm.LawKit.callS X12 hx (y := (⟨"com/example/sectionary/sectionary/tables/LongKeyTable", "bit", "(I)J"⟩ : MethodName)) hown (mvT hZ (hw _ (List.mem_of_getElem? (i := 53) rfl))) (mvT hZ (hw _ (List.mem_of_getElem? (i := 54) rfl))) (mvT hZ (hw _ (List.mem_of_getElem? (i := 9) rfl))) (mvT hZ (hw _ (List.mem_of_getElem? (i := 55) rfl))) (by decide) (backOf (W := 4) (rm10 l Z a0 hw [] r  h10 n0 Zh10 ) hZ (hw _ (List.mem_of_getElem? (i := 55) rfl)) (hw _ (List.mem_of_getElem? (i := 9) rfl)) (by decide) (by decide)) (g := (mkF m 60 #[.val (.ref a1), .val (.long q2), .second, .val (.int r)] [(.int r), (.long U), (.int (r / (64 : Int32))), (.ref w11)])) rfl (by rw [hml]; rfl) (argsL := [(.int r)]) (rest := [(.long U), (.int (r / (64 : Int32))), (.ref w11)]) (lenOf pd_5_5 rfl) rfl (by show 2 * 0 + _ ≤ _; exact Nat.le_of_eq rfl) (hb hby d5_60) (fun _ _ => ⟨rfl, e12, (by decide : 0 + 0 ≤ _), (by decide : 0 + 0 ≤ _)⟩)
  dsimp only [Pt.U, Pt.locs, Pt.cells, Pt.slots] at X14 l14 y14 z14 st14 hQ14
  subst l14 y14 z14
  obtain ⟨rfl, N14q, e14⟩ := hQ14
  have Kc14 : Keep h10 T14.heap [] := by rw [e14]; exact Keep.refl _ _
  have Zt14 : n0 ≤ T14.heap.size := Nat.le_trans Zh10 Kc14.1
  have Ar_w11b : Arr Z T14.heap w11 cl_w11 .long := by rw [e14]; exact Ar_w11
  have N14 := Fr.app N10 N14q
  obtain ⟨T15, h15, X15, e15, W15, st15⟩ := stJ X14 hx hZ rfl Ar_w11b (j := (r / (64 : Int32))) hin64 (g := (mkF m 64 #[.val (.ref a1), .val (.long q2), .second, .val (.int r)] [(.long (U ||| (own_bit r))), (.int (r / (64 : Int32))), (.ref w11)])) rfl rfl (hb hby d5_64)
  have Zh15 : n0 ≤ h15.size := Nat.le_trans Zt14 (Keep.of_wr W15).1
  have N15 := Fr.snoc X15 N14 g_w11
  obtain ⟨T17, X17, e17, st17⟩ := getF X15 hx hZ hown (host := "") (Or.inl (hw _ (List.mem_of_getElem? (i := 56) rfl))) Via.refl e15 (((((F_size_a1.keep Kc3 (fun hx => nomatch hx)).keep Kc4 (fun hx => nomatch hx)).other W10 (Or.inl n17)).keep Kc14 (fun hx => nomatch hx)).other W15 (Or.inl n111)) (g := (mkF m 67 #[.val (.ref a1), .val (.long q2), .second, .val (.int r)] [(.ref a1), (.ref a1)])) rfl rfl (hb hby d5_67)
  obtain ⟨T18, h18, X18, e18, W18, st18⟩ := putF X17 hx hZ hown (host := "") (Or.inl (hw _ (List.mem_of_getElem? (i := 56) rfl))) Via.refl e17 (((((F_size_a1.keep Kc3 (fun hx => nomatch hx)).keep Kc4 (fun hx => nomatch hx)).other W10 (Or.inl n17)).keep Kc14 (fun hx => nomatch hx)).other W15 (Or.inl n111)) (((((E_a1.keep Kc3).keep Kc4).wr W10).keep Kc14).wr W15) (Or.inl (hw _ (List.mem_of_getElem? (i := 57) rfl))) (hw _ (List.mem_of_getElem? (i := 1) rfl)) (ty := .int) (by decide) rfl rfl (g := (mkF m 72 #[.val (.ref a1), .val (.long q2), .second, .val (.int r)] [(.int (sz + (1 : Int32))), (.ref a1)])) rfl rfl (hb hby d5_72)
  have Zh18 : n0 ≤ h18.size := Nat.le_trans Zh15 (Keep.of_wr W18).1
  have Fw18 := (((((F_size_a1.keep Kc3 (fun hx => nomatch hx)).keep Kc4 (fun hx => nomatch hx)).other W10 (Or.inl n17)).keep Kc14 (fun hx => nomatch hx)).other W15 (Or.inl n111)).same W18
  have N18 := Fr.snoc X18 N15 g_a1
  obtain ⟨fs, hr, hrun, hended, hW, hsame⟩ := X18.leave (v := some (.int r)) (fun h => by rw [Bd.returns] at h; cases h)
  refine ⟨_, _, pre0 _ ?_, hrun, hended, _, _, rfl, ?_, ⟨_, rfl⟩, hW, hsame.mono (by decide) (by decide)⟩
  · show Steps p.tables e below (s₁.setTop (mkF m 0 #[.val (.ref a1), .val (.long q2), .second, .unset] [])) _
    refine XS.aloadN X0.here hx rfl (hb hby d5_0) rfl rfl ?_
    show Steps p.tables e below (s₁.setTop (mkF m 1 #[.val (.ref a1), .val (.long q2), .second, .unset] [(.ref a1)])) _
    refine XS.lloadN X0.here hx rfl (hb hby d5_1) rfl ?_
    show Steps p.tables e below (s₁.setTop (mkF m 2 #[.val (.ref a1), .val (.long q2), .second, .unset] [(.long q2), (.ref a1)])) _
    refine st3.trans ?_
    show Steps p.tables e below (T3.setTop (mkF m 5 #[.val (.ref a1), .val (.long q2), .second, .unset] [(.int r)])) _
    refine XS.istoreN X3.here hx rfl (hb hby d5_5) rfl (l' := #[.val (.ref a1), .val (.long q2), .second, .val (.int r)]) rfl ?_
    show Steps p.tables e below (T3.setTop (mkF m 6 #[.val (.ref a1), .val (.long q2), .second, .val (.int r)] [])) _
    refine XS.aloadN X3.here hx rfl (hb hby d5_6) rfl rfl ?_
    show Steps p.tables e below (T3.setTop (mkF m 7 #[.val (.ref a1), .val (.long q2), .second, .val (.int r)] [(.ref a1)])) _
    refine XS.iloadN X3.here hx rfl (hb hby d5_7) rfl ?_
    show Steps p.tables e below (T3.setTop (mkF m 8 #[.val (.ref a1), .val (.long q2), .second, .val (.int r)] [(.int r), (.ref a1)])) _
    refine st4.trans ?_
    show Steps p.tables e below (T4.setTop (mkF m 11 #[.val (.ref a1), .val (.long q2), .second, .val (.int r)] [(.int (own_held U r))])) _
    refine XS.ifNo X4.here hx rfl (hb hby d5_11) rfl ((if0 _ _).trans (teq (hn : (own_held U r) = (0 : Int32))).2) ?_
    show Steps p.tables e below (T4.setTop (mkF m 14 #[.val (.ref a1), .val (.long q2), .second, .val (.int r)] [])) _
    refine XS.iconst X4.here hx rfl (hb hby d5_14) ?_
    show Steps p.tables e below (T4.setTop (mkF m 15 #[.val (.ref a1), .val (.long q2), .second, .val (.int r)] [(.int (4 : Int32))])) _
    refine XS.aloadN X4.here hx rfl (hb hby d5_15) rfl rfl ?_
    show Steps p.tables e below (T4.setTop (mkF m 16 #[.val (.ref a1), .val (.long q2), .second, .val (.int r)] [(.ref a1), (.int (4 : Int32))])) _
    refine st6 _ ?_
    show Steps p.tables e below (T6.setTop (mkF m 19 #[.val (.ref a1), .val (.long q2), .second, .val (.int r)] [(.int sz), (.int (4 : Int32))])) _
    refine XS.iconst X6.here hx rfl (hb hby d5_19) ?_
    show Steps p.tables e below (T6.setTop (mkF m 20 #[.val (.ref a1), .val (.long q2), .second, .val (.int r)] [(.int (1 : Int32)), (.int sz), (.int (4 : Int32))])) _
    refine XS.iadd X6.here hx rfl (hb hby d5_20) rfl ?_
    show Steps p.tables e below (T6.setTop (mkF m 21 #[.val (.ref a1), .val (.long q2), .second, .val (.int r)] [(.int (sz + (1 : Int32))), (.int (4 : Int32))])) _
    refine XS.imul X6.here hx rfl (hb hby d5_21) rfl ?_
    show Steps p.tables e below (T6.setTop (mkF m 22 #[.val (.ref a1), .val (.long q2), .second, .val (.int r)] [(.int ((4 : Int32) * (sz + (1 : Int32))))])) _
    refine XS.iconst X6.here hx rfl (hb hby d5_22) ?_
    show Steps p.tables e below (T6.setTop (mkF m 23 #[.val (.ref a1), .val (.long q2), .second, .val (.int r)] [(.int (3 : Int32)), (.int ((4 : Int32) * (sz + (1 : Int32))))])) _
    refine XS.aloadN X6.here hx rfl (hb hby d5_23) rfl rfl ?_
    show Steps p.tables e below (T6.setTop (mkF m 24 #[.val (.ref a1), .val (.long q2), .second, .val (.int r)] [(.ref a1), (.int (3 : Int32)), (.int ((4 : Int32) * (sz + (1 : Int32))))])) _
    refine st8 _ ?_
    show Steps p.tables e below (T8.setTop (mkF m 27 #[.val (.ref a1), .val (.long q2), .second, .val (.int r)] [(.ref w7), (.int (3 : Int32)), (.int ((4 : Int32) * (sz + (1 : Int32))))])) _
    refine X8.arraylength hx (by rw [e8]; exact Ar_w7.1) (State.isArrayOf_alike hZ.alike Ar_w7.2.1) (g := (mkF m 27 #[.val (.ref a1), .val (.long q2), .second, .val (.int r)] [(.ref w7), (.int (3 : Int32)), (.int ((4 : Int32) * (sz + (1 : Int32))))])) rfl rfl (hb hby d5_27) _ ?_
    rw [len_of (z := (64 : Int32)) S_w7 N_w7]
    show Steps p.tables e below (T8.setTop (mkF m 28 #[.val (.ref a1), .val (.long q2), .second, .val (.int r)] [(.int (64 : Int32)), (.int (3 : Int32)), (.int ((4 : Int32) * (sz + (1 : Int32))))])) _
    refine XS.imul X8.here hx rfl (hb hby d5_28) rfl ?_
    show Steps p.tables e below (T8.setTop (mkF m 29 #[.val (.ref a1), .val (.long q2), .second, .val (.int r)] [(.int ((3 : Int32) * (64 : Int32))), (.int ((4 : Int32) * (sz + (1 : Int32))))])) _
    refine XS.icmpYes X8.here hx rfl (pc0 := 29) (pc' := 42) rfl (hb hby d5_29) rfl (flt hc29).2.2.2 (by decide) (by decide) ?_
    show Steps p.tables e below (T8.setTop (mkF m 42 #[.val (.ref a1), .val (.long q2), .second, .val (.int r)] [])) _
    refine XS.aloadN X8.here hx rfl (hb hby d5_42) rfl rfl ?_
    show Steps p.tables e below (T8.setTop (mkF m 43 #[.val (.ref a1), .val (.long q2), .second, .val (.int r)] [(.ref a1)])) _
    refine st9 _ ?_
    show Steps p.tables e below (T9.setTop (mkF m 46 #[.val (.ref a1), .val (.long q2), .second, .val (.int r)] [(.ref w7)])) _
    refine XS.iloadN X9.here hx rfl (hb hby d5_46) rfl ?_
    show Steps p.tables e below (T9.setTop (mkF m 47 #[.val (.ref a1), .val (.long q2), .second, .val (.int r)] [(.int r), (.ref w7)])) _
    refine XS.lloadN X9.here hx rfl (hb hby d5_47) rfl ?_
    show Steps p.tables e below (T9.setTop (mkF m 48 #[.val (.ref a1), .val (.long q2), .second, .val (.int r)] [(.long q2), (.int r), (.ref w7)])) _
    refine st10 _ ?_
    show Steps p.tables e below (T10.setTop (mkF m 49 #[.val (.ref a1), .val (.long q2), .second, .val (.int r)] [])) _
    refine XS.aloadN X10.here hx rfl (hb hby d5_49) rfl rfl ?_
    show Steps p.tables e below (T10.setTop (mkF m 50 #[.val (.ref a1), .val (.long q2), .second, .val (.int r)] [(.ref a1)])) _
    refine st12 _ ?_
    show Steps p.tables e below (T12.setTop (mkF m 53 #[.val (.ref a1), .val (.long q2), .second, .val (.int r)] [(.ref w11)])) _
    refine XS.iloadN X12.here hx rfl (hb hby d5_53) rfl ?_
    show Steps p.tables e below (T12.setTop (mkF m 54 #[.val (.ref a1), .val (.long q2), .second, .val (.int r)] [(.int r), (.ref w11)])) _
    refine XS.bipush X12.here hx rfl (hb hby d5_54) ?_
    show Steps p.tables e below (T12.setTop (mkF m 56 #[.val (.ref a1), .val (.long q2), .second, .val (.int r)] [(.int (64 : Int32)), (.int r), (.ref w11)])) _
    refine XS.idiv X12.here hx rfl (hb hby d5_56) rfl hnz56 ?_
    show Steps p.tables e below (T12.setTop (mkF m 57 #[.val (.ref a1), .val (.long q2), .second, .val (.int r)] [(.int (r / (64 : Int32))), (.ref w11)])) _
    jvm_step X12.here [X12.here.top, hx, (hb hby d5_57), Value.category]
    show Steps p.tables e below (T12.setTop (mkF m 58 #[.val (.ref a1), .val (.long q2), .second, .val (.int r)] [(.int (r / (64 : Int32))), (.ref w11), (.int (r / (64 : Int32))), (.ref w11)])) _
    refine X12.laload hx (j := (r / (64 : Int32))) (v := (.long U)) (by rw [e12]; exact Ar_w11.1) (State.isArrayOf_alike hZ.alike Ar_w11.2.1) Ar_w11.2.2 hin58 hat58 (g := (mkF m 58 #[.val (.ref a1), .val (.long q2), .second, .val (.int r)] [(.int (r / (64 : Int32))), (.ref w11), (.int (r / (64 : Int32))), (.ref w11)])) rfl rfl (hb hby d5_58) _ ?_
    show Steps p.tables e below (T12.setTop (mkF m 59 #[.val (.ref a1), .val (.long q2), .second, .val (.int r)] [(.long U), (.int (r / (64 : Int32))), (.ref w11)])) _
    refine XS.iloadN X12.here hx rfl (hb hby d5_59) rfl ?_
    show Steps p.tables e below (T12.setTop (mkF m 60 #[.val (.ref a1), .val (.long q2), .second, .val (.int r)] [(.int r), (.long U), (.int (r / (64 : Int32))), (.ref w11)])) _
    refine st14 _ ?_
    show Steps p.tables e below (T14.setTop (mkF m 63 #[.val (.ref a1), .val (.long q2), .second, .val (.int r)] [(.long (own_bit r)), (.long U), (.int (r / (64 : Int32))), (.ref w11)])) _
    refine XS.lor X14.here hx rfl (hb hby d5_63) rfl ?_
    show Steps p.tables e below (T14.setTop (mkF m 64 #[.val (.ref a1), .val (.long q2), .second, .val (.int r)] [(.long (U ||| (own_bit r))), (.int (r / (64 : Int32))), (.ref w11)])) _
    refine st15 _ ?_
    show Steps p.tables e below (T15.setTop (mkF m 65 #[.val (.ref a1), .val (.long q2), .second, .val (.int r)] [])) _
    refine XS.aloadN X15.here hx rfl (hb hby d5_65) rfl rfl ?_
    show Steps p.tables e below (T15.setTop (mkF m 66 #[.val (.ref a1), .val (.long q2), .second, .val (.int r)] [(.ref a1)])) _
    refine XS.dup X15.here hx rfl (hb hby d5_66) rfl rfl ?_
    show Steps p.tables e below (T15.setTop (mkF m 67 #[.val (.ref a1), .val (.long q2), .second, .val (.int r)] [(.ref a1), (.ref a1)])) _
    refine st17 _ ?_
    show Steps p.tables e below (T17.setTop (mkF m 70 #[.val (.ref a1), .val (.long q2), .second, .val (.int r)] [(.int sz), (.ref a1)])) _
    refine XS.iconst X17.here hx rfl (hb hby d5_70) ?_
    show Steps p.tables e below (T17.setTop (mkF m 71 #[.val (.ref a1), .val (.long q2), .second, .val (.int r)] [(.int (1 : Int32)), (.int sz), (.ref a1)])) _
    refine XS.iadd X17.here hx rfl (hb hby d5_71) rfl ?_
    show Steps p.tables e below (T17.setTop (mkF m 72 #[.val (.ref a1), .val (.long q2), .second, .val (.int r)] [(.int (sz + (1 : Int32))), (.ref a1)])) _
    refine st18 _ ?_
    show Steps p.tables e below (T18.setTop (mkF m 75 #[.val (.ref a1), .val (.long q2), .second, .val (.int r)] [])) _
    refine XS.iloadN X18.here hx rfl (hb hby d5_75) rfl ?_
    show Steps p.tables e below (T18.setTop (mkF m 76 #[.val (.ref a1), .val (.long q2), .second, .val (.int r)] [(.int r)])) _
    exact retI X18 hx Bd.returns (hb hby d5_76) hr
  · show Q5 Z a1 w7 w11 vv K U nv V sz q2 r h0 n0 _ T18.heap _
    rw [e18]
    have K18 : Keep h0 h18 [w7, w11, a1] := ((Keep.trans (K4.wr W10 (Or.inl (List.mem_of_getElem? (i := 0) rfl))) Kc14 (fun x hx => nomatch hx)).wr W15 (Or.inl (List.mem_of_getElem? (i := 1) rfl))).wr W18 (Or.inl (List.mem_of_getElem? (i := 2) rfl))
    have c4 : ∀ {x : Addr}, x ∉ ([] : List Addr) := fun hx => nomatch hx
    have Lk4 : own_L Z T4.heap w7 64 K := by rw [e4, e3]; exact Lk
    have Lu4 : own_L Z T4.heap w11 1 (fun _ => U) := by rw [e4, e3]; exact Lu
    have Iv4 : own_I Z T4.heap vv nv V := by rw [e4, e3]; exact Iv
    have mv : ∀ {C f d : String} {u : Value}, Fld Z h0 a1 C f d u → Fld Z h15 a1 C f d u := fun F => (((((F.keep Kc3 c4).keep Kc4 c4).other W10 (Or.inl n17)).keep Kc14 c4).other W15 (Or.inl n111))
    have E15 := ((((E_a1.keep Kc3).keep Kc4).wr W10).keep Kc14).wr W15
    have hz : (r / (64 : Int32)).toNatClampNeg = 0 := by rw [ix.2.2]; rfl
    have Lu18 : own_L Z h18 w11 1 (fun _ => U ||| own_bit r) := own_L_other (own_L_to (own_L_set (own_L_keep (own_L_other Lu4 W10 (Ne.symm n711)) Kc14 c4) W15) (fun j hj => by rw [hz]; exact if_pos (by omega))) W18 (Ne.symm n111)
    exact ⟨rfl, N18, K18, E15.wr W18, (mv F_keys_a1).other W18 (Or.inr (slot_ne (Or.inl (hw _ (List.mem_of_getElem? (i := 16) rfl))) (Or.inl (hw _ (List.mem_of_getElem? (i := 57) rfl))) (by decide) (t := (.array .long)) (t' := .int) (by decide) (by decide))), (mv F_used_a1).other W18 (Or.inr (slot_ne (Or.inl (hw _ (List.mem_of_getElem? (i := 18) rfl))) (Or.inl (hw _ (List.mem_of_getElem? (i := 57) rfl))) (by decide) (t := (.array .long)) (t' := .int) (by decide) (by decide))), (mv F_values_a1).other W18 (Or.inr (slot_ne (Or.inl (hw _ (List.mem_of_getElem? (i := 21) rfl))) (Or.inl (hw _ (List.mem_of_getElem? (i := 57) rfl))) (by decide) (t := (.array .int)) (t' := .int) (by decide) (by decide))), Fw18, own_L_other (own_L_other (own_L_keep (own_L_set Lk4 W10) Kc14 c4) W15 n711) W18 (Ne.symm n17), Lu18, own_I_other (own_I_other (own_I_keep (own_I_other Iv4 W10 (Ne.symm n7v)) Kc14 c4) W15 (Ne.symm n11v)) W18 (Ne.symm n1v), ⟨g_a1, g_w7, g_w11, g_vv⟩, ⟨n17, n111, n1v, n711, n7v, n11v⟩⟩
def Q4 (Z : State) (a1 w7 w11 vv : Addr) (K : Nat → Int64) (U : Int64) (V : Nat → Int32) (sz : Int32) (q : Int64) (x r : Int32) (h0 : Heap) (n0 : Nat) (v : Option Value) (h : Heap) (L : List Loc) : Prop := v = none ∧ Fr n0 L ∧ Keep h0 h [w7, w11, a1, vv] ∧ own_tab Z n0 h a1 w7 w11 vv (fun j => if j = r.toNatClampNeg then q else K j) (U ||| own_bit r) 64 (fun j => if j = r.toNatClampNeg then x else V j) (sz + 1)
theorem d4_0 : decode prog_92_method_3_code 0 = .ok (.aload_n 0, 1) := by decide +kernel
theorem d4_1 : decode prog_92_method_3_code 1 = .ok (.lload_n 1, 1) := by decide +kernel
theorem d4_2 : decode prog_92_method_3_code 2 = .ok (.invokevirtual 21, 3) := by decide +kernel
theorem d4_5 : decode prog_92_method_3_code 5 = .ok (.istore 4, 2) := by decide +kernel
theorem d4_7 : decode prog_92_method_3_code 7 = .ok (.aload_n 0, 1) := by decide +kernel
theorem d4_8 : decode prog_92_method_3_code 8 = .ok (.getfield 7, 3) := by decide +kernel
theorem d4_11 : decode prog_92_method_3_code 11 = .ok (.iload 4, 2) := by decide +kernel
theorem d4_13 : decode prog_92_method_3_code 13 = .ok (.iload_n 3, 1) := by decide +kernel
theorem d4_14 : decode prog_92_method_3_code 14 = .ok (.iastore, 1) := by decide +kernel
theorem d4_15 : decode prog_92_method_3_code 15 = .ok (.return_, 1) := by decide +kernel
theorem pn_4 : plainName "com/example/sectionary/sectionary/tables/LongKeyIntMap" = true := by first | (simp [plainName, overriddenIn]; done) | decide +kernel
theorem pd_4_2 : parseMethodDescriptor "(J)I" = some ⟨[.long], some .int⟩ := by decide +kernel
theorem ef_4 (m : MethodId) (x0 : Addr) (x1 : Int64) (x2 : Int32) : entryFrame m #[(.ref x0), (.long x1), (.int x2)] 5 = mkF m 0 #[.val (.ref x0), .val (.long x1), .second, .val (.int x2), .unset] [] := by first | (simp [entryFrame, mkF, argsToLocals, Value.category]; done) | rfl
set_option maxRecDepth 65536 in
set_option maxHeartbeats 40000000 in
theorem rm4 (l : Launch) (Z : State) (a0 : Array Value) (hw : ∀ d ∈ tables_1, d.before a0 Z = true) (ws : List Jvm.Cond) (a1 : Addr) (q2 : Int64) (p3 : Int32) (w7 w11 vv : Addr) (K : Nat → Int64) (U : Int64) (V : Nat → Int32) (sz : Int32) (r : Int32) (h0 : Heap) (n0 : Nat) (Z0 : n0 ≤ h0.size) (Tb : own_tab Z n0 h0 a1 w7 w11 vv K U 64 V sz) (hs : own_sl K U q2 r) (hn : own_held U r = 0) (hc29 : ¬ ((3 : Int32) * (64 : Int32)) < ((4 : Int32) * (sz + (1 : Int32)))) :
    MetFree l (⟨"com/example/sectionary/sectionary/tables/LongKeyIntMap", "put", "(JI)V"⟩ : MethodName) (head1 (Jvm.Cond.code (⟨"com/example/sectionary/sectionary/tables/LongKeyIntMap", "put", "(JI)V"⟩ : MethodName) prog_92_method_3_code 5 none :: ws) ({ frames := 4, cells := 0, slots := 0, locals := 61 } : Room)) (fun a Us => a = #[(.ref a1), (.long q2), (.int p3)] ∧ Z.Warmed39 Us.vm ∧ Us.heap = h0) (fun _ _ _ _ _ => True) (fun _ Us o Us' => ∃ v L, o = .returned v ∧ Q4 Z a1 w7 w11 vv K U V sz q2 p3 r h0 n0 v Us'.heap L ∧ FrameEnd Us o Us' L ({ frames := 4, cells := 0, slots := 0, locals := 61 } : Room).cells ({ frames := 4, cells := 0, slots := 0, locals := 61 } : Room).slots) := by
  refine MetFree.of_bodySF (plainFor_of_name pn_4) hisR ?_
  intro p e s m args below meth c s₁ Bd hml0 hP hK
  obtain ⟨rfl, hZ, hh⟩ := hP
  have hx := Bd.exec
  have hby := Bd.bytes
  have hml : c.maxLocals = 5 := hml0
  have hown : s.vm.findClass "com/example/sectionary/sectionary/tables/LongKeyIntMap" = some m.cls := findClass_of_methodNamed Bd.named
  have hnm := (name_of_methodNamed Bd.named Bd.method).1
  have X0 : Stand p l e ({ frames := 4, cells := 0, slots := 0, locals := 61 } : Room) s m #[(.ref a1), (.long q2), (.int p3)] below meth c s₁ [] 0 0 := Stand.of_body Bd
  have e0 : s₁.heap = h0 := by rw [← hh, Bd.state]; rfl
  have N0 := Fr.nil n0
  have E_a1 := Tb.1
  have ix := own_sl_ix hs
  have pre0 : ∀ t, Steps p.tables e below (s₁.setTop (mkF m 0 #[.val (.ref a1), .val (.long q2), .second, .val (.int p3), .unset] [])) t → Steps p.tables e below (s₁.setTop (entryFrame m #[(.ref a1), (.long q2), (.int p3)] 5)) t := fun t k => castTop (ef_4 m a1 q2 p3) k
  obtain ⟨cq4, kq4, q4a, q4b, q4c⟩ := isOf hZ e0 E_a1
  obtain ⟨_, _, ⟨T4, L4, k4, n4⟩, -, X4, ⟨Lc4, hQ4, l4, y4, z4⟩, st4⟩ := X0.virtualBackUp hx (owner := "com/example/sectionary/sectionary/tables/LongKeyTable") (x := (⟨"com/example/sectionary/sectionary/tables/LongKeyIntMap", "insert", "(J)I"⟩ : MethodName)) (y := (⟨"com/example/sectionary/sectionary/tables/LongKeyTable", "insert", "(J)I"⟩ : MethodName)) hown (mvT hZ (hw _ (List.mem_of_getElem? (i := 27) rfl))) (mvT hZ (hw _ (List.mem_of_getElem? (i := 28) rfl))) (mvT hZ (hw _ (List.mem_of_getElem? (i := 29) rfl))) (by decide) (mvT hZ (hw _ (List.mem_of_getElem? (i := 31) rfl))) (mvT hZ (hw _ (List.mem_of_getElem? (i := 30) rfl))) (backOf (W := 0) (rm5 l Z a0 hw [] a1 q2 w7 w11 vv K U 64 V sz r h0 n0 Z0 Tb hs hn hc29) hZ (hw _ (List.mem_of_getElem? (i := 32) rfl)) (hw _ (List.mem_of_getElem? (i := 9) rfl)) (by decide) (by decide)) q4a q4c (g := (mkF m 2 #[.val (.ref a1), .val (.long q2), .second, .val (.int p3), .unset] [(.long q2), (.ref a1)])) rfl (by rw [hml]; rfl) (Steps.refl _) (argsL := [(.long q2)]) (rest := []) (lenOf pd_4_2 rfl) rfl (by show 2 * 0 + _ ≤ _; exact Nat.le_of_eq rfl) (hb hby d4_2) (fun _ _ => ⟨rfl, e0, (by decide : 0 + 0 ≤ _), (by decide : 0 + 0 ≤ _)⟩)
  dsimp only [Pt.U, Pt.locs, Pt.cells, Pt.slots] at X4 l4 y4 z4 st4 hQ4
  subst l4 y4 z4
  obtain ⟨rfl, N4q, Kc4, Tb4⟩ := hQ4
  have Zt4 : n0 ≤ T4.heap.size := Nat.le_trans Z0 Kc4.1
  obtain ⟨E4, Fk4, Fu4, Fv4, Fs4, Lk4, Lu4, Iv4, ⟨g_a1, g_w7, g_w11, g_w5⟩, ⟨n17, n111, n1v, n711, n7v, n11v⟩⟩ := Tb4
  obtain ⟨cl_w5, Ar_w5, S5, H5⟩ := id Iv4
  have hin14 := own_in (j := r) S5 ix.1 ix.2.1
  have N4 := Fr.app N0 N4q
  obtain ⟨T6, X6, e6, st6⟩ := getF X4 hx hZ hown (host := "") (Or.inl (hw _ (List.mem_of_getElem? (i := 20) rfl))) Via.refl rfl Fv4 (g := (mkF m 8 #[.val (.ref a1), .val (.long q2), .second, .val (.int p3), .val (.int r)] [(.ref a1)])) rfl rfl (hb hby d4_8)
  obtain ⟨T7, h7, X7, e7, W7, st7⟩ := stI X6 hx hZ e6 Ar_w5 (j := r) hin14 (g := (mkF m 14 #[.val (.ref a1), .val (.long q2), .second, .val (.int p3), .val (.int r)] [(.int p3), (.int r), (.ref vv)])) rfl rfl (hb hby d4_14)
  have Zh7 : n0 ≤ h7.size := Nat.le_trans Zt4 (Keep.of_wr W7).1
  have N7 := Fr.snoc X7 N4 g_w5
  obtain ⟨fs, hr, hrun, hended, hW, hsame⟩ := X7.leave (v := none) (fun _ => rfl)
  refine ⟨_, _, pre0 _ ?_, hrun, hended, _, _, rfl, ?_, ⟨_, rfl⟩, hW, hsame.mono (by decide) (by decide)⟩
  · show Steps p.tables e below (s₁.setTop (mkF m 0 #[.val (.ref a1), .val (.long q2), .second, .val (.int p3), .unset] [])) _
    refine XS.aloadN X0.here hx rfl (hb hby d4_0) rfl rfl ?_
    show Steps p.tables e below (s₁.setTop (mkF m 1 #[.val (.ref a1), .val (.long q2), .second, .val (.int p3), .unset] [(.ref a1)])) _
    refine XS.lloadN X0.here hx rfl (hb hby d4_1) rfl ?_
    show Steps p.tables e below (s₁.setTop (mkF m 2 #[.val (.ref a1), .val (.long q2), .second, .val (.int p3), .unset] [(.long q2), (.ref a1)])) _
    refine st4.trans ?_
    show Steps p.tables e below (T4.setTop (mkF m 5 #[.val (.ref a1), .val (.long q2), .second, .val (.int p3), .unset] [(.int r)])) _
    refine XS.istore X4.here hx rfl (hb hby d4_5) rfl (l' := #[.val (.ref a1), .val (.long q2), .second, .val (.int p3), .val (.int r)]) rfl ?_
    show Steps p.tables e below (T4.setTop (mkF m 7 #[.val (.ref a1), .val (.long q2), .second, .val (.int p3), .val (.int r)] [])) _
    refine XS.aloadN X4.here hx rfl (hb hby d4_7) rfl rfl ?_
    show Steps p.tables e below (T4.setTop (mkF m 8 #[.val (.ref a1), .val (.long q2), .second, .val (.int p3), .val (.int r)] [(.ref a1)])) _
    refine st6 _ ?_
    show Steps p.tables e below (T6.setTop (mkF m 11 #[.val (.ref a1), .val (.long q2), .second, .val (.int p3), .val (.int r)] [(.ref vv)])) _
    refine XS.iload X6.here hx rfl (hb hby d4_11) rfl ?_
    show Steps p.tables e below (T6.setTop (mkF m 13 #[.val (.ref a1), .val (.long q2), .second, .val (.int p3), .val (.int r)] [(.int r), (.ref vv)])) _
    refine XS.iloadN X6.here hx rfl (hb hby d4_13) rfl ?_
    show Steps p.tables e below (T6.setTop (mkF m 14 #[.val (.ref a1), .val (.long q2), .second, .val (.int p3), .val (.int r)] [(.int p3), (.int r), (.ref vv)])) _
    refine st7 _ ?_
    show Steps p.tables e below (T7.setTop (mkF m 15 #[.val (.ref a1), .val (.long q2), .second, .val (.int p3), .val (.int r)] [])) _
    exact X7.returnOut hx Bd.returns (hb hby d4_15) hr
  · show Q4 Z a1 w7 w11 vv K U V sz q2 p3 r h0 n0 _ T7.heap _
    rw [e7]
    have K7 : Keep h0 h7 [w7, w11, a1, vv] := (Keep.trans (Keep.refl h0 _) Kc4 (fun x hx => Or.inl (by
      rcases List.mem_cons.mp hx with rfl | hx
      · exact List.mem_of_getElem? (i := 0) rfl
      rcases List.mem_cons.mp hx with rfl | hx
      · exact List.mem_of_getElem? (i := 1) rfl
      rw [List.mem_singleton.mp hx]; exact List.mem_of_getElem? (i := 2) rfl))).wr W7 (Or.inl (List.mem_of_getElem? (i := 3) rfl))
    exact ⟨rfl, N7, K7, E4.wr W7, Fk4.other W7 (Or.inl n1v), Fu4.other W7 (Or.inl n1v), Fv4.other W7 (Or.inl n1v), Fs4.other W7 (Or.inl n1v), own_L_other Lk4 W7 n7v, own_L_other Lu4 W7 n11v, own_I_set Iv4 W7, ⟨g_a1, g_w7, g_w11, g_w5⟩, ⟨n17, n111, n1v, n711, n7v, n11v⟩⟩
theorem d15_0 : decode prog_92_method_2_code 0 = .ok (.aload_n 0, 1) := by decide +kernel
theorem d15_1 : decode prog_92_method_2_code 1 = .ok (.lload_n 1, 1) := by decide +kernel
theorem d15_2 : decode prog_92_method_2_code 2 = .ok (.invokevirtual 13, 3) := by decide +kernel
theorem d15_5 : decode prog_92_method_2_code 5 = .ok (.istore 4, 2) := by decide +kernel
theorem d15_7 : decode prog_92_method_2_code 7 = .ok (.aload_n 0, 1) := by decide +kernel
theorem d15_8 : decode prog_92_method_2_code 8 = .ok (.iload 4, 2) := by decide +kernel
theorem d15_10 : decode prog_92_method_2_code 10 = .ok (.invokevirtual 17, 3) := by decide +kernel
theorem d15_13 : decode prog_92_method_2_code 13 = .ok (.ifCond .eq 13, 3) := by decide +kernel
theorem d15_16 : decode prog_92_method_2_code 16 = .ok (.aload_n 0, 1) := by decide +kernel
theorem d15_17 : decode prog_92_method_2_code 17 = .ok (.getfield 7, 3) := by decide +kernel
theorem d15_20 : decode prog_92_method_2_code 20 = .ok (.iload 4, 2) := by decide +kernel
theorem d15_22 : decode prog_92_method_2_code 22 = .ok (.iaload, 1) := by decide +kernel
theorem d15_23 : decode prog_92_method_2_code 23 = .ok (.goto 4, 3) := by decide +kernel
theorem d15_27 : decode prog_92_method_2_code 27 = .ok (.ireturn, 1) := by decide +kernel
theorem pn_15 : plainName "com/example/sectionary/sectionary/tables/LongKeyIntMap" = true := by first | (simp [plainName, overriddenIn]; done) | decide +kernel
theorem pd_15_2 : parseMethodDescriptor "(J)I" = some ⟨[.long], some .int⟩ := by decide +kernel
theorem pd_15_4 : parseMethodDescriptor "(I)Z" = some ⟨[.int], some .boolean⟩ := by decide +kernel
theorem ef_15 (m : MethodId) (x0 : Addr) (x1 : Int64) (x2 : Int32) : entryFrame m #[(.ref x0), (.long x1), (.int x2)] 5 = mkF m 0 #[.val (.ref x0), .val (.long x1), .second, .val (.int x2), .unset] [] := by first | (simp [entryFrame, mkF, argsToLocals, Value.category]; done) | rfl
set_option maxRecDepth 65536 in
set_option maxHeartbeats 40000000 in
theorem rm15 (l : Launch) (Z : State) (a0 : Array Value) (hw : ∀ d ∈ tables_1, d.before a0 Z = true) (ws : List Jvm.Cond) (a1 : Addr) (q2 : Int64) (p3 : Int32) (w7 w11 vv : Addr) (K : Nat → Int64) (U : Int64) (nv : Nat) (V : Nat → Int32) (sz : Int32) (r : Int32) (h0 : Heap) (n0 : Nat) (Z0 : n0 ≤ h0.size) (Tb : own_tab Z n0 h0 a1 w7 w11 vv K U nv V sz) (hs : own_sl K U q2 r) (hn : ¬ own_held U r = 0) (hv : 64 ≤ nv) :
    MetFree l (⟨"com/example/sectionary/sectionary/tables/LongKeyIntMap", "getOrDefault", "(JI)I"⟩ : MethodName) (head1 (Jvm.Cond.code (⟨"com/example/sectionary/sectionary/tables/LongKeyIntMap", "getOrDefault", "(JI)I"⟩ : MethodName) prog_92_method_2_code 5 (some .int) :: ws) ({ frames := 3, cells := 0, slots := 0, locals := 46 } : Room)) (fun a Us => a = #[(.ref a1), (.long q2), (.int p3)] ∧ Z.Warmed39 Us.vm ∧ Us.heap = h0) (fun _ _ _ _ _ => True) (fun _ Us o Us' => ∃ v L, o = .returned v ∧ QI Z (V r.toNatClampNeg) h0 n0 v Us'.heap L ∧ FrameEnd Us o Us' L ({ frames := 3, cells := 0, slots := 0, locals := 46 } : Room).cells ({ frames := 3, cells := 0, slots := 0, locals := 46 } : Room).slots) := by
  refine MetFree.of_bodySF (plainFor_of_name pn_15) hisR ?_
  intro p e s m args below meth c s₁ Bd hml0 hP hK
  obtain ⟨rfl, hZ, hh⟩ := hP
  have hx := Bd.exec
  have hby := Bd.bytes
  have hml : c.maxLocals = 5 := hml0
  have hown : s.vm.findClass "com/example/sectionary/sectionary/tables/LongKeyIntMap" = some m.cls := findClass_of_methodNamed Bd.named
  have hnm := (name_of_methodNamed Bd.named Bd.method).1
  have X0 : Stand p l e ({ frames := 3, cells := 0, slots := 0, locals := 46 } : Room) s m #[(.ref a1), (.long q2), (.int p3)] below meth c s₁ [] 0 0 := Stand.of_body Bd
  have e0 : s₁.heap = h0 := by rw [← hh, Bd.state]; rfl
  have N0 := Fr.nil n0
  obtain ⟨E_a1, F_keys_a1, F_used_a1, F_values_a1, F_size_a1, Lk, Lu, Iv, ⟨g_a1, g_w7, g_w11, g_vv⟩, ⟨n17, n111, n1v, n711, n7v, n11v⟩⟩ := Tb
  obtain ⟨cl_w6, Ar6, S6, H6⟩ := id Iv
  have ix := own_sl_ix hs
  have hin22 := own_in (j := r) S6 ix.1 (Nat.lt_of_lt_of_le ix.2.1 hv)
  have hat22 := H6 r.toNatClampNeg (Nat.lt_of_lt_of_le ix.2.1 hv)
  have pre0 : ∀ t, Steps p.tables e below (s₁.setTop (mkF m 0 #[.val (.ref a1), .val (.long q2), .second, .val (.int p3), .unset] [])) t → Steps p.tables e below (s₁.setTop (entryFrame m #[(.ref a1), (.long q2), (.int p3)] 5)) t := fun t k => castTop (ef_15 m a1 q2 p3) k
  obtain ⟨cq4, kq4, q4a, q4b, q4c⟩ := isOf hZ e0 E_a1
  obtain ⟨_, _, ⟨T4, L4, k4, n4⟩, -, X4, ⟨Lc4, hQ4, l4, y4, z4⟩, st4⟩ := X0.virtualBackUp hx (owner := "com/example/sectionary/sectionary/tables/LongKeyTable") (x := (⟨"com/example/sectionary/sectionary/tables/LongKeyIntMap", "slot", "(J)I"⟩ : MethodName)) (y := (⟨"com/example/sectionary/sectionary/tables/LongKeyTable", "slot", "(J)I"⟩ : MethodName)) hown (mvT hZ (hw _ (List.mem_of_getElem? (i := 85) rfl))) (mvT hZ (hw _ (List.mem_of_getElem? (i := 59) rfl))) (mvT hZ (hw _ (List.mem_of_getElem? (i := 34) rfl))) (by decide) (mvT hZ (hw _ (List.mem_of_getElem? (i := 60) rfl))) (mvT hZ (hw _ (List.mem_of_getElem? (i := 35) rfl))) (backOf (W := 0) (rm6 l Z a0 hw [] a1 q2 w7 w11 K U h0 n0 Z0 E_a1 F_keys_a1 F_used_a1 Lk Lu r hs) hZ (hw _ (List.mem_of_getElem? (i := 37) rfl)) (hw _ (List.mem_of_getElem? (i := 9) rfl)) (by decide) (by decide)) q4a q4c (g := (mkF m 2 #[.val (.ref a1), .val (.long q2), .second, .val (.int p3), .unset] [(.long q2), (.ref a1)])) rfl (by rw [hml]; rfl) (Steps.refl _) (argsL := [(.long q2)]) (rest := []) (lenOf pd_15_2 rfl) rfl (by show 2 * 0 + _ ≤ _; exact Nat.le_of_eq rfl) (hb hby d15_2) (fun _ _ => ⟨rfl, e0, (by decide : 0 + 0 ≤ _), (by decide : 0 + 0 ≤ _)⟩)
  dsimp only [Pt.U, Pt.locs, Pt.cells, Pt.slots] at X4 l4 y4 z4 st4 hQ4
  subst l4 y4 z4
  obtain ⟨rfl, N4q, e4⟩ := hQ4
  have Kc4 : Keep h0 T4.heap [] := by rw [e4]; exact Keep.refl _ _
  have Zt4 : n0 ≤ T4.heap.size := Nat.le_trans Z0 Kc4.1
  have N4 := Fr.app N0 N4q
  obtain ⟨cq5, kq5, q5a, q5b, q5c⟩ := isOf hZ rfl (E_a1.keep Kc4)
  obtain ⟨_, _, ⟨T5, L5, k5, n5⟩, -, X5, ⟨Lc5, hQ5, l5, y5, z5⟩, st5⟩ := X4.virtualBackUp hx (owner := "com/example/sectionary/sectionary/tables/LongKeyTable") (x := (⟨"com/example/sectionary/sectionary/tables/LongKeyIntMap", "holds", "(I)Z"⟩ : MethodName)) (y := (⟨"com/example/sectionary/sectionary/tables/LongKeyTable", "holds", "(I)Z"⟩ : MethodName)) hown (mvT hZ (hw _ (List.mem_of_getElem? (i := 86) rfl))) (mvT hZ (hw _ (List.mem_of_getElem? (i := 87) rfl))) (mvT hZ (hw _ (List.mem_of_getElem? (i := 49) rfl))) (by decide) (mvT hZ (hw _ (List.mem_of_getElem? (i := 88) rfl))) (mvT hZ (hw _ (List.mem_of_getElem? (i := 50) rfl))) (backOf (W := 0) (rm9 l Z a0 hw [] a1 r w11 U T4.heap n0 Zt4 (by rw [e4]; exact F_used_a1) (by rw [e4]; exact Lu) ix.2.2) hZ (hw _ (List.mem_of_getElem? (i := 52) rfl)) (hw _ (List.mem_of_getElem? (i := 9) rfl)) (by decide) (by decide)) q5a q5c (g := (mkF m 10 #[.val (.ref a1), .val (.long q2), .second, .val (.int p3), .val (.int r)] [(.int r), (.ref a1)])) rfl (by rw [hml]; rfl) (Steps.refl _) (argsL := [(.int r)]) (rest := []) (lenOf pd_15_4 rfl) rfl (by show 2 * 0 + _ ≤ _; exact Nat.le_of_eq rfl) (hb hby d15_10) (fun _ _ => ⟨rfl, rfl, (by decide : 0 + 0 ≤ _), (by decide : 0 + 0 ≤ _)⟩)
  dsimp only [Pt.U, Pt.locs, Pt.cells, Pt.slots] at X5 l5 y5 z5 st5 hQ5
  subst l5 y5 z5
  obtain ⟨rfl, N5q, e5⟩ := hQ5
  have Kc5 : Keep T4.heap T5.heap [] := by rw [e5]; exact Keep.refl _ _
  have Zt5 : n0 ≤ T5.heap.size := Nat.le_trans Zt4 Kc5.1
  have Ar_w6 : Arr Z T5.heap vv cl_w6 .int := by rw [e5, e4]; exact Ar6
  have N5 := Fr.app N4 N5q
  obtain ⟨T7, X7, e7, st7⟩ := getF X5 hx hZ hown (host := "") (Or.inl (hw _ (List.mem_of_getElem? (i := 20) rfl))) Via.refl rfl ((F_values_a1.keep Kc4 (fun hx => nomatch hx)).keep Kc5 (fun hx => nomatch hx)) (g := (mkF m 17 #[.val (.ref a1), .val (.long q2), .second, .val (.int p3), .val (.int r)] [(.ref a1)])) rfl rfl (hb hby d15_17)
  obtain ⟨fs, hr, hrun, hended, hW, hsame⟩ := X7.leave (v := some (.int (V r.toNatClampNeg))) (fun h => by rw [Bd.returns] at h; cases h)
  refine ⟨_, _, pre0 _ ?_, hrun, hended, _, _, rfl, ?_, ⟨_, rfl⟩, hW, hsame.mono (by decide) (by decide)⟩
  · show Steps p.tables e below (s₁.setTop (mkF m 0 #[.val (.ref a1), .val (.long q2), .second, .val (.int p3), .unset] [])) _
    refine XS.aloadN X0.here hx rfl (hb hby d15_0) rfl rfl ?_
    show Steps p.tables e below (s₁.setTop (mkF m 1 #[.val (.ref a1), .val (.long q2), .second, .val (.int p3), .unset] [(.ref a1)])) _
    refine XS.lloadN X0.here hx rfl (hb hby d15_1) rfl ?_
    show Steps p.tables e below (s₁.setTop (mkF m 2 #[.val (.ref a1), .val (.long q2), .second, .val (.int p3), .unset] [(.long q2), (.ref a1)])) _
    refine st4.trans ?_
    show Steps p.tables e below (T4.setTop (mkF m 5 #[.val (.ref a1), .val (.long q2), .second, .val (.int p3), .unset] [(.int r)])) _
    refine XS.istore X4.here hx rfl (hb hby d15_5) rfl (l' := #[.val (.ref a1), .val (.long q2), .second, .val (.int p3), .val (.int r)]) rfl ?_
    show Steps p.tables e below (T4.setTop (mkF m 7 #[.val (.ref a1), .val (.long q2), .second, .val (.int p3), .val (.int r)] [])) _
    refine XS.aloadN X4.here hx rfl (hb hby d15_7) rfl rfl ?_
    show Steps p.tables e below (T4.setTop (mkF m 8 #[.val (.ref a1), .val (.long q2), .second, .val (.int p3), .val (.int r)] [(.ref a1)])) _
    refine XS.iload X4.here hx rfl (hb hby d15_8) rfl ?_
    show Steps p.tables e below (T4.setTop (mkF m 10 #[.val (.ref a1), .val (.long q2), .second, .val (.int p3), .val (.int r)] [(.int r), (.ref a1)])) _
    refine st5.trans ?_
    show Steps p.tables e below (T5.setTop (mkF m 13 #[.val (.ref a1), .val (.long q2), .second, .val (.int p3), .val (.int r)] [(.int (own_held U r))])) _
    refine XS.ifNo X5.here hx rfl (hb hby d15_13) rfl ((if0 _ _).trans (feq (hn : ¬ ((own_held U r) = (0 : Int32)))).1) ?_
    show Steps p.tables e below (T5.setTop (mkF m 16 #[.val (.ref a1), .val (.long q2), .second, .val (.int p3), .val (.int r)] [])) _
    refine XS.aloadN X5.here hx rfl (hb hby d15_16) rfl rfl ?_
    show Steps p.tables e below (T5.setTop (mkF m 17 #[.val (.ref a1), .val (.long q2), .second, .val (.int p3), .val (.int r)] [(.ref a1)])) _
    refine st7 _ ?_
    show Steps p.tables e below (T7.setTop (mkF m 20 #[.val (.ref a1), .val (.long q2), .second, .val (.int p3), .val (.int r)] [(.ref vv)])) _
    refine XS.iload X7.here hx rfl (hb hby d15_20) rfl ?_
    show Steps p.tables e below (T7.setTop (mkF m 22 #[.val (.ref a1), .val (.long q2), .second, .val (.int p3), .val (.int r)] [(.int r), (.ref vv)])) _
    refine X7.iaload hx (j := r) (v := (.int (V r.toNatClampNeg))) (by rw [e7]; exact Ar_w6.1) (State.isArrayOf_alike hZ.alike Ar_w6.2.1) Ar_w6.2.2 hin22 hat22 (g := (mkF m 22 #[.val (.ref a1), .val (.long q2), .second, .val (.int p3), .val (.int r)] [(.int r), (.ref vv)])) rfl rfl (hb hby d15_22) _ ?_
    show Steps p.tables e below (T7.setTop (mkF m 23 #[.val (.ref a1), .val (.long q2), .second, .val (.int p3), .val (.int r)] [(.int (V r.toNatClampNeg))])) _
    refine XS.goto X7.here hx rfl (pc0 := 23) (pc' := 27) rfl (hb hby d15_23) (by decide) (by decide) ?_
    show Steps p.tables e below (T7.setTop (mkF m 27 #[.val (.ref a1), .val (.long q2), .second, .val (.int p3), .val (.int r)] [(.int (V r.toNatClampNeg))])) _
    exact retI X7 hx Bd.returns (hb hby d15_27) hr
  · show QI Z (V r.toNatClampNeg) h0 n0 _ T7.heap _
    exact ⟨rfl, N5, by rw [e7, e5, e4]⟩
def own_max (a b : Int32) : Int32 := if a < b then b else a
def own_min (a b : Int32) : Int32 := if b < a then b else a
def own_skip (x a b : Int32) : Int32 := if x < a then (if x < b then x else x + 1) else (if x + 1 < b then x + 1 else x + 1 + 1)
theorem d12_0 : decode jdk_29_method_65_code 0 = .ok (.iload_n 0, 1) := by decide +kernel
theorem d12_1 : decode jdk_29_method_65_code 1 = .ok (.iload_n 1, 1) := by decide +kernel
theorem d12_2 : decode jdk_29_method_65_code 2 = .ok (.if_icmp .lt 7, 3) := by decide +kernel
theorem d12_9 : decode jdk_29_method_65_code 9 = .ok (.iload_n 1, 1) := by decide +kernel
theorem d12_10 : decode jdk_29_method_65_code 10 = .ok (.ireturn, 1) := by decide +kernel
theorem ef_12 (m : MethodId) (x0 : Int32) (x1 : Int32) : entryFrame m #[(.int x0), (.int x1)] 2 = mkF m 0 #[.val (.int x0), .val (.int x1)] [] := by first | (simp [entryFrame, mkF, argsToLocals, Value.category]; done) | rfl
set_option maxRecDepth 65536 in
set_option maxHeartbeats 40000000 in
theorem rm12_t (l : Launch) (Z : State) (a0 : Array Value) (hw : ∀ d ∈ tables_1, d.before a0 Z = true) (ws : List Jvm.Cond) (p1 : Int32) (p2 : Int32) (h0 : Heap) (n0 : Nat) (Z0 : n0 ≤ h0.size) (hc2 : p1 < p2) :
    MetFree l (⟨"java/lang/Math", "max", "(II)I"⟩ : MethodName) (head1 (Jvm.Cond.code (⟨"java/lang/Math", "max", "(II)I"⟩ : MethodName) jdk_29_method_65_code 2 (some .int) :: ws) ({ frames := 0, cells := 0, slots := 0, locals := 0 } : Room)) (fun a Us => a = #[(.int p1), (.int p2)] ∧ Z.Warmed39 Us.vm ∧ Us.heap = h0) (fun _ _ _ _ _ => True) (fun _ Us o Us' => ∃ v L, o = .returned v ∧ QI Z p2 h0 n0 v Us'.heap L ∧ FrameEnd Us o Us' L ({ frames := 0, cells := 0, slots := 0, locals := 0 } : Room).cells ({ frames := 0, cells := 0, slots := 0, locals := 0 } : Room).slots) := by
  refine MetFree.of_bodySF (Jvm.Free.JP.mathPlain rfl (by decide +kernel)) hisR ?_
  intro p e s m args below meth c s₁ Bd hml0 hP hK
  obtain ⟨rfl, hZ, hh⟩ := hP
  have hx := Bd.exec
  have hby := Bd.bytes
  have hml : c.maxLocals = 2 := hml0
  have hown : s.vm.findClass "java/lang/Math" = some m.cls := findClass_of_methodNamed Bd.named
  have hnm := (name_of_methodNamed Bd.named Bd.method).1
  have X0 : Stand p l e ({ frames := 0, cells := 0, slots := 0, locals := 0 } : Room) s m #[(.int p1), (.int p2)] below meth c s₁ [] 0 0 := Stand.of_body Bd
  have e0 : s₁.heap = h0 := by rw [← hh, Bd.state]; rfl
  have N0 := Fr.nil n0
  have pre0 : ∀ t, Steps p.tables e below (s₁.setTop (mkF m 0 #[.val (.int p1), .val (.int p2)] [])) t → Steps p.tables e below (s₁.setTop (entryFrame m #[(.int p1), (.int p2)] 2)) t := fun t k => castTop (ef_12 m p1 p2) k
  obtain ⟨fs, hr, hrun, hended, hW, hsame⟩ := X0.leave (v := some (.int p2)) (fun h => by rw [Bd.returns] at h; cases h)
  refine ⟨_, _, pre0 _ ?_, hrun, hended, _, _, rfl, ?_, ⟨_, rfl⟩, hW, hsame.mono (by decide) (by decide)⟩
  · show Steps p.tables e below (s₁.setTop (mkF m 0 #[.val (.int p1), .val (.int p2)] [])) _
    refine XS.iloadN X0.here hx rfl (hb hby d12_0) rfl ?_
    show Steps p.tables e below (s₁.setTop (mkF m 1 #[.val (.int p1), .val (.int p2)] [(.int p1)])) _
    refine XS.iloadN X0.here hx rfl (hb hby d12_1) rfl ?_
    show Steps p.tables e below (s₁.setTop (mkF m 2 #[.val (.int p1), .val (.int p2)] [(.int p2), (.int p1)])) _
    refine XS.icmpYes X0.here hx rfl (pc0 := 2) (pc' := 9) rfl (hb hby d12_2) rfl (tlt hc2).1 (by decide) (by decide) ?_
    show Steps p.tables e below (s₁.setTop (mkF m 9 #[.val (.int p1), .val (.int p2)] [])) _
    refine XS.iloadN X0.here hx rfl (hb hby d12_9) rfl ?_
    show Steps p.tables e below (s₁.setTop (mkF m 10 #[.val (.int p1), .val (.int p2)] [(.int p2)])) _
    exact retI X0 hx Bd.returns (hb hby d12_10) hr
  · show QI Z p2 h0 n0 _ s₁.heap _
    rw [e0]
    exact ⟨rfl, N0, rfl⟩
theorem d12_5 : decode jdk_29_method_65_code 5 = .ok (.iload_n 0, 1) := by decide +kernel
theorem d12_6 : decode jdk_29_method_65_code 6 = .ok (.goto 4, 3) := by decide +kernel
set_option maxRecDepth 65536 in
set_option maxHeartbeats 40000000 in
theorem rm12_f (l : Launch) (Z : State) (a0 : Array Value) (hw : ∀ d ∈ tables_1, d.before a0 Z = true) (ws : List Jvm.Cond) (p1 : Int32) (p2 : Int32) (h0 : Heap) (n0 : Nat) (Z0 : n0 ≤ h0.size) (hc2 : ¬ (p1 < p2)) :
    MetFree l (⟨"java/lang/Math", "max", "(II)I"⟩ : MethodName) (head1 (Jvm.Cond.code (⟨"java/lang/Math", "max", "(II)I"⟩ : MethodName) jdk_29_method_65_code 2 (some .int) :: ws) ({ frames := 0, cells := 0, slots := 0, locals := 0 } : Room)) (fun a Us => a = #[(.int p1), (.int p2)] ∧ Z.Warmed39 Us.vm ∧ Us.heap = h0) (fun _ _ _ _ _ => True) (fun _ Us o Us' => ∃ v L, o = .returned v ∧ QI Z p1 h0 n0 v Us'.heap L ∧ FrameEnd Us o Us' L ({ frames := 0, cells := 0, slots := 0, locals := 0 } : Room).cells ({ frames := 0, cells := 0, slots := 0, locals := 0 } : Room).slots) := by
  refine MetFree.of_bodySF (Jvm.Free.JP.mathPlain rfl (by decide +kernel)) hisR ?_
  intro p e s m args below meth c s₁ Bd hml0 hP hK
  obtain ⟨rfl, hZ, hh⟩ := hP
  have hx := Bd.exec
  have hby := Bd.bytes
  have hml : c.maxLocals = 2 := hml0
  have hown : s.vm.findClass "java/lang/Math" = some m.cls := findClass_of_methodNamed Bd.named
  have hnm := (name_of_methodNamed Bd.named Bd.method).1
  have X0 : Stand p l e ({ frames := 0, cells := 0, slots := 0, locals := 0 } : Room) s m #[(.int p1), (.int p2)] below meth c s₁ [] 0 0 := Stand.of_body Bd
  have e0 : s₁.heap = h0 := by rw [← hh, Bd.state]; rfl
  have N0 := Fr.nil n0
  have pre0 : ∀ t, Steps p.tables e below (s₁.setTop (mkF m 0 #[.val (.int p1), .val (.int p2)] [])) t → Steps p.tables e below (s₁.setTop (entryFrame m #[(.int p1), (.int p2)] 2)) t := fun t k => castTop (ef_12 m p1 p2) k
  obtain ⟨fs, hr, hrun, hended, hW, hsame⟩ := X0.leave (v := some (.int p1)) (fun h => by rw [Bd.returns] at h; cases h)
  refine ⟨_, _, pre0 _ ?_, hrun, hended, _, _, rfl, ?_, ⟨_, rfl⟩, hW, hsame.mono (by decide) (by decide)⟩
  · show Steps p.tables e below (s₁.setTop (mkF m 0 #[.val (.int p1), .val (.int p2)] [])) _
    refine XS.iloadN X0.here hx rfl (hb hby d12_0) rfl ?_
    show Steps p.tables e below (s₁.setTop (mkF m 1 #[.val (.int p1), .val (.int p2)] [(.int p1)])) _
    refine XS.iloadN X0.here hx rfl (hb hby d12_1) rfl ?_
    show Steps p.tables e below (s₁.setTop (mkF m 2 #[.val (.int p1), .val (.int p2)] [(.int p2), (.int p1)])) _
    refine XS.icmpNo X0.here hx rfl (hb hby d12_2) rfl (flt hc2).1 ?_
    show Steps p.tables e below (s₁.setTop (mkF m 5 #[.val (.int p1), .val (.int p2)] [])) _
    refine XS.iloadN X0.here hx rfl (hb hby d12_5) rfl ?_
    show Steps p.tables e below (s₁.setTop (mkF m 6 #[.val (.int p1), .val (.int p2)] [(.int p1)])) _
    refine XS.goto X0.here hx rfl (pc0 := 6) (pc' := 10) rfl (hb hby d12_6) (by decide) (by decide) ?_
    show Steps p.tables e below (s₁.setTop (mkF m 10 #[.val (.int p1), .val (.int p2)] [(.int p1)])) _
    exact retI X0 hx Bd.returns (hb hby d12_10) hr
  · show QI Z p1 h0 n0 _ s₁.heap _
    rw [e0]
    exact ⟨rfl, N0, rfl⟩
theorem rm12 (l : Launch) (Z : State) (a0 : Array Value) (hw : ∀ d ∈ tables_1, d.before a0 Z = true) (ws : List Jvm.Cond) (p1 : Int32) (p2 : Int32) (h0 : Heap) (n0 : Nat) (Z0 : n0 ≤ h0.size) :
    MetFree l (⟨"java/lang/Math", "max", "(II)I"⟩ : MethodName) (head1 (Jvm.Cond.code (⟨"java/lang/Math", "max", "(II)I"⟩ : MethodName) jdk_29_method_65_code 2 (some .int) :: ws) ({ frames := 0, cells := 0, slots := 0, locals := 0 } : Room)) (fun a Us => a = #[(.int p1), (.int p2)] ∧ Z.Warmed39 Us.vm ∧ Us.heap = h0) (fun _ _ _ _ _ => True) (fun _ Us o Us' => ∃ v L, o = .returned v ∧ QI Z (own_max p1 p2) h0 n0 v Us'.heap L ∧ FrameEnd Us o Us' L ({ frames := 0, cells := 0, slots := 0, locals := 0 } : Room).cells ({ frames := 0, cells := 0, slots := 0, locals := 0 } : Room).slots) := by
  by_cases h : p1 < p2
  · have e : own_max p1 p2 = p2 := if_pos h
    rw [e]; exact rm12_t l Z a0 hw ws p1 p2 h0 n0 Z0 h
  · have e : own_max p1 p2 = p1 := if_neg h
    rw [e]; exact rm12_f l Z a0 hw ws p1 p2 h0 n0 Z0 h
theorem d11_0 : decode jdk_29_method_69_code 0 = .ok (.iload_n 0, 1) := by decide +kernel
theorem d11_1 : decode jdk_29_method_69_code 1 = .ok (.iload_n 1, 1) := by decide +kernel
theorem d11_2 : decode jdk_29_method_69_code 2 = .ok (.if_icmp .gt 7, 3) := by decide +kernel
theorem d11_9 : decode jdk_29_method_69_code 9 = .ok (.iload_n 1, 1) := by decide +kernel
theorem d11_10 : decode jdk_29_method_69_code 10 = .ok (.ireturn, 1) := by decide +kernel
theorem ef_11 (m : MethodId) (x0 : Int32) (x1 : Int32) : entryFrame m #[(.int x0), (.int x1)] 2 = mkF m 0 #[.val (.int x0), .val (.int x1)] [] := by first | (simp [entryFrame, mkF, argsToLocals, Value.category]; done) | rfl
set_option maxRecDepth 65536 in
set_option maxHeartbeats 40000000 in
theorem rm11_t (l : Launch) (Z : State) (a0 : Array Value) (hw : ∀ d ∈ tables_1, d.before a0 Z = true) (ws : List Jvm.Cond) (p1 : Int32) (p2 : Int32) (h0 : Heap) (n0 : Nat) (Z0 : n0 ≤ h0.size) (hc2 : p2 < p1) :
    MetFree l (⟨"java/lang/Math", "min", "(II)I"⟩ : MethodName) (head1 (Jvm.Cond.code (⟨"java/lang/Math", "min", "(II)I"⟩ : MethodName) jdk_29_method_69_code 2 (some .int) :: ws) ({ frames := 0, cells := 0, slots := 0, locals := 0 } : Room)) (fun a Us => a = #[(.int p1), (.int p2)] ∧ Z.Warmed39 Us.vm ∧ Us.heap = h0) (fun _ _ _ _ _ => True) (fun _ Us o Us' => ∃ v L, o = .returned v ∧ QI Z p2 h0 n0 v Us'.heap L ∧ FrameEnd Us o Us' L ({ frames := 0, cells := 0, slots := 0, locals := 0 } : Room).cells ({ frames := 0, cells := 0, slots := 0, locals := 0 } : Room).slots) := by
  refine MetFree.of_bodySF (Jvm.Free.JP.mathPlain rfl (by decide +kernel)) hisR ?_
  intro p e s m args below meth c s₁ Bd hml0 hP hK
  obtain ⟨rfl, hZ, hh⟩ := hP
  have hx := Bd.exec
  have hby := Bd.bytes
  have hml : c.maxLocals = 2 := hml0
  have hown : s.vm.findClass "java/lang/Math" = some m.cls := findClass_of_methodNamed Bd.named
  have hnm := (name_of_methodNamed Bd.named Bd.method).1
  have X0 : Stand p l e ({ frames := 0, cells := 0, slots := 0, locals := 0 } : Room) s m #[(.int p1), (.int p2)] below meth c s₁ [] 0 0 := Stand.of_body Bd
  have e0 : s₁.heap = h0 := by rw [← hh, Bd.state]; rfl
  have N0 := Fr.nil n0
  have pre0 : ∀ t, Steps p.tables e below (s₁.setTop (mkF m 0 #[.val (.int p1), .val (.int p2)] [])) t → Steps p.tables e below (s₁.setTop (entryFrame m #[(.int p1), (.int p2)] 2)) t := fun t k => castTop (ef_11 m p1 p2) k
  obtain ⟨fs, hr, hrun, hended, hW, hsame⟩ := X0.leave (v := some (.int p2)) (fun h => by rw [Bd.returns] at h; cases h)
  refine ⟨_, _, pre0 _ ?_, hrun, hended, _, _, rfl, ?_, ⟨_, rfl⟩, hW, hsame.mono (by decide) (by decide)⟩
  · show Steps p.tables e below (s₁.setTop (mkF m 0 #[.val (.int p1), .val (.int p2)] [])) _
    refine XS.iloadN X0.here hx rfl (hb hby d11_0) rfl ?_
    show Steps p.tables e below (s₁.setTop (mkF m 1 #[.val (.int p1), .val (.int p2)] [(.int p1)])) _
    refine XS.iloadN X0.here hx rfl (hb hby d11_1) rfl ?_
    show Steps p.tables e below (s₁.setTop (mkF m 2 #[.val (.int p1), .val (.int p2)] [(.int p2), (.int p1)])) _
    refine XS.icmpYes X0.here hx rfl (pc0 := 2) (pc' := 9) rfl (hb hby d11_2) rfl (tlt hc2).2.2.1 (by decide) (by decide) ?_
    show Steps p.tables e below (s₁.setTop (mkF m 9 #[.val (.int p1), .val (.int p2)] [])) _
    refine XS.iloadN X0.here hx rfl (hb hby d11_9) rfl ?_
    show Steps p.tables e below (s₁.setTop (mkF m 10 #[.val (.int p1), .val (.int p2)] [(.int p2)])) _
    exact retI X0 hx Bd.returns (hb hby d11_10) hr
  · show QI Z p2 h0 n0 _ s₁.heap _
    rw [e0]
    exact ⟨rfl, N0, rfl⟩
theorem d11_5 : decode jdk_29_method_69_code 5 = .ok (.iload_n 0, 1) := by decide +kernel
theorem d11_6 : decode jdk_29_method_69_code 6 = .ok (.goto 4, 3) := by decide +kernel
set_option maxRecDepth 65536 in
set_option maxHeartbeats 40000000 in
theorem rm11_f (l : Launch) (Z : State) (a0 : Array Value) (hw : ∀ d ∈ tables_1, d.before a0 Z = true) (ws : List Jvm.Cond) (p1 : Int32) (p2 : Int32) (h0 : Heap) (n0 : Nat) (Z0 : n0 ≤ h0.size) (hc2 : ¬ (p2 < p1)) :
    MetFree l (⟨"java/lang/Math", "min", "(II)I"⟩ : MethodName) (head1 (Jvm.Cond.code (⟨"java/lang/Math", "min", "(II)I"⟩ : MethodName) jdk_29_method_69_code 2 (some .int) :: ws) ({ frames := 0, cells := 0, slots := 0, locals := 0 } : Room)) (fun a Us => a = #[(.int p1), (.int p2)] ∧ Z.Warmed39 Us.vm ∧ Us.heap = h0) (fun _ _ _ _ _ => True) (fun _ Us o Us' => ∃ v L, o = .returned v ∧ QI Z p1 h0 n0 v Us'.heap L ∧ FrameEnd Us o Us' L ({ frames := 0, cells := 0, slots := 0, locals := 0 } : Room).cells ({ frames := 0, cells := 0, slots := 0, locals := 0 } : Room).slots) := by
  refine MetFree.of_bodySF (Jvm.Free.JP.mathPlain rfl (by decide +kernel)) hisR ?_
  intro p e s m args below meth c s₁ Bd hml0 hP hK
  obtain ⟨rfl, hZ, hh⟩ := hP
  have hx := Bd.exec
  have hby := Bd.bytes
  have hml : c.maxLocals = 2 := hml0
  have hown : s.vm.findClass "java/lang/Math" = some m.cls := findClass_of_methodNamed Bd.named
  have hnm := (name_of_methodNamed Bd.named Bd.method).1
  have X0 : Stand p l e ({ frames := 0, cells := 0, slots := 0, locals := 0 } : Room) s m #[(.int p1), (.int p2)] below meth c s₁ [] 0 0 := Stand.of_body Bd
  have e0 : s₁.heap = h0 := by rw [← hh, Bd.state]; rfl
  have N0 := Fr.nil n0
  have pre0 : ∀ t, Steps p.tables e below (s₁.setTop (mkF m 0 #[.val (.int p1), .val (.int p2)] [])) t → Steps p.tables e below (s₁.setTop (entryFrame m #[(.int p1), (.int p2)] 2)) t := fun t k => castTop (ef_11 m p1 p2) k
  obtain ⟨fs, hr, hrun, hended, hW, hsame⟩ := X0.leave (v := some (.int p1)) (fun h => by rw [Bd.returns] at h; cases h)
  refine ⟨_, _, pre0 _ ?_, hrun, hended, _, _, rfl, ?_, ⟨_, rfl⟩, hW, hsame.mono (by decide) (by decide)⟩
  · show Steps p.tables e below (s₁.setTop (mkF m 0 #[.val (.int p1), .val (.int p2)] [])) _
    refine XS.iloadN X0.here hx rfl (hb hby d11_0) rfl ?_
    show Steps p.tables e below (s₁.setTop (mkF m 1 #[.val (.int p1), .val (.int p2)] [(.int p1)])) _
    refine XS.iloadN X0.here hx rfl (hb hby d11_1) rfl ?_
    show Steps p.tables e below (s₁.setTop (mkF m 2 #[.val (.int p1), .val (.int p2)] [(.int p2), (.int p1)])) _
    refine XS.icmpNo X0.here hx rfl (hb hby d11_2) rfl (flt hc2).2.2.1 ?_
    show Steps p.tables e below (s₁.setTop (mkF m 5 #[.val (.int p1), .val (.int p2)] [])) _
    refine XS.iloadN X0.here hx rfl (hb hby d11_5) rfl ?_
    show Steps p.tables e below (s₁.setTop (mkF m 6 #[.val (.int p1), .val (.int p2)] [(.int p1)])) _
    refine XS.goto X0.here hx rfl (pc0 := 6) (pc' := 10) rfl (hb hby d11_6) (by decide) (by decide) ?_
    show Steps p.tables e below (s₁.setTop (mkF m 10 #[.val (.int p1), .val (.int p2)] [(.int p1)])) _
    exact retI X0 hx Bd.returns (hb hby d11_10) hr
  · show QI Z p1 h0 n0 _ s₁.heap _
    rw [e0]
    exact ⟨rfl, N0, rfl⟩
theorem rm11 (l : Launch) (Z : State) (a0 : Array Value) (hw : ∀ d ∈ tables_1, d.before a0 Z = true) (ws : List Jvm.Cond) (p1 : Int32) (p2 : Int32) (h0 : Heap) (n0 : Nat) (Z0 : n0 ≤ h0.size) :
    MetFree l (⟨"java/lang/Math", "min", "(II)I"⟩ : MethodName) (head1 (Jvm.Cond.code (⟨"java/lang/Math", "min", "(II)I"⟩ : MethodName) jdk_29_method_69_code 2 (some .int) :: ws) ({ frames := 0, cells := 0, slots := 0, locals := 0 } : Room)) (fun a Us => a = #[(.int p1), (.int p2)] ∧ Z.Warmed39 Us.vm ∧ Us.heap = h0) (fun _ _ _ _ _ => True) (fun _ Us o Us' => ∃ v L, o = .returned v ∧ QI Z (own_min p1 p2) h0 n0 v Us'.heap L ∧ FrameEnd Us o Us' L ({ frames := 0, cells := 0, slots := 0, locals := 0 } : Room).cells ({ frames := 0, cells := 0, slots := 0, locals := 0 } : Room).slots) := by
  by_cases h : p2 < p1
  · have e : own_min p1 p2 = p2 := if_pos h
    rw [e]; exact rm11_t l Z a0 hw ws p1 p2 h0 n0 Z0 h
  · have e : own_min p1 p2 = p1 := if_neg h
    rw [e]; exact rm11_f l Z a0 hw ws p1 p2 h0 n0 Z0 h
theorem d13_0 : decode method_2_code 0 = .ok (.iload_n 0, 1) := by decide +kernel
theorem d13_1 : decode method_2_code 1 = .ok (.istore_n 3, 1) := by decide +kernel
theorem d13_2 : decode method_2_code 2 = .ok (.iload_n 3, 1) := by decide +kernel
theorem d13_3 : decode method_2_code 3 = .ok (.iload_n 1, 1) := by decide +kernel
theorem d13_4 : decode method_2_code 4 = .ok (.if_icmp .lt 6, 3) := by decide +kernel
theorem d13_10 : decode method_2_code 10 = .ok (.iload_n 3, 1) := by decide +kernel
theorem d13_11 : decode method_2_code 11 = .ok (.iload_n 2, 1) := by decide +kernel
theorem d13_12 : decode method_2_code 12 = .ok (.if_icmp .lt 6, 3) := by decide +kernel
theorem d13_18 : decode method_2_code 18 = .ok (.iload_n 3, 1) := by decide +kernel
theorem d13_19 : decode method_2_code 19 = .ok (.ireturn, 1) := by decide +kernel
theorem pn_13 : plainName "com/example/sectionary/sectionary/tables/LongKeyIntMapGrowValuesPinLaw" = true := by first | (simp [plainName, overriddenIn]; done) | decide +kernel
theorem ef_13 (m : MethodId) (x0 : Int32) (x1 : Int32) (x2 : Int32) : entryFrame m #[(.int x0), (.int x1), (.int x2)] 4 = mkF m 0 #[.val (.int x0), .val (.int x1), .val (.int x2), .unset] [] := by first | (simp [entryFrame, mkF, argsToLocals, Value.category]; done) | rfl
set_option maxRecDepth 65536 in
set_option maxHeartbeats 40000000 in
theorem rm13_tt (l : Launch) (Z : State) (a0 : Array Value) (hw : ∀ d ∈ tables_1, d.before a0 Z = true) (ws : List Jvm.Cond) (p1 : Int32) (p2 : Int32) (p3 : Int32) (h0 : Heap) (n0 : Nat) (Z0 : n0 ≤ h0.size) (hc4 : p1 < p2) (hc12 : p1 < p3) :
    MetFree l (⟨"com/example/sectionary/sectionary/tables/LongKeyIntMapGrowValuesPinLaw", "skip2", "(III)I"⟩ : MethodName) (head1 (Jvm.Cond.code (⟨"com/example/sectionary/sectionary/tables/LongKeyIntMapGrowValuesPinLaw", "skip2", "(III)I"⟩ : MethodName) method_2_code 4 (some .int) :: ws) ({ frames := 0, cells := 0, slots := 0, locals := 0 } : Room)) (fun a Us => a = #[(.int p1), (.int p2), (.int p3)] ∧ Z.Warmed39 Us.vm ∧ Us.heap = h0) (fun _ _ _ _ _ => True) (fun _ Us o Us' => ∃ v L, o = .returned v ∧ QI Z p1 h0 n0 v Us'.heap L ∧ FrameEnd Us o Us' L ({ frames := 0, cells := 0, slots := 0, locals := 0 } : Room).cells ({ frames := 0, cells := 0, slots := 0, locals := 0 } : Room).slots) := by
  refine MetFree.of_bodySF (plainFor_of_name pn_13) hisR ?_
  intro p e s m args below meth c s₁ Bd hml0 hP hK
  obtain ⟨rfl, hZ, hh⟩ := hP
  have hx := Bd.exec
  have hby := Bd.bytes
  have hml : c.maxLocals = 4 := hml0
  have hown : s.vm.findClass "com/example/sectionary/sectionary/tables/LongKeyIntMapGrowValuesPinLaw" = some m.cls := findClass_of_methodNamed Bd.named
  have hnm := (name_of_methodNamed Bd.named Bd.method).1
  have X0 : Stand p l e ({ frames := 0, cells := 0, slots := 0, locals := 0 } : Room) s m #[(.int p1), (.int p2), (.int p3)] below meth c s₁ [] 0 0 := Stand.of_body Bd
  have e0 : s₁.heap = h0 := by rw [← hh, Bd.state]; rfl
  have N0 := Fr.nil n0
  have pre0 : ∀ t, Steps p.tables e below (s₁.setTop (mkF m 0 #[.val (.int p1), .val (.int p2), .val (.int p3), .unset] [])) t → Steps p.tables e below (s₁.setTop (entryFrame m #[(.int p1), (.int p2), (.int p3)] 4)) t := fun t k => castTop (ef_13 m p1 p2 p3) k
  obtain ⟨fs, hr, hrun, hended, hW, hsame⟩ := X0.leave (v := some (.int p1)) (fun h => by rw [Bd.returns] at h; cases h)
  refine ⟨_, _, pre0 _ ?_, hrun, hended, _, _, rfl, ?_, ⟨_, rfl⟩, hW, hsame.mono (by decide) (by decide)⟩
  · show Steps p.tables e below (s₁.setTop (mkF m 0 #[.val (.int p1), .val (.int p2), .val (.int p3), .unset] [])) _
    refine XS.iloadN X0.here hx rfl (hb hby d13_0) rfl ?_
    show Steps p.tables e below (s₁.setTop (mkF m 1 #[.val (.int p1), .val (.int p2), .val (.int p3), .unset] [(.int p1)])) _
    refine XS.istoreN X0.here hx rfl (hb hby d13_1) rfl (l' := #[.val (.int p1), .val (.int p2), .val (.int p3), .val (.int p1)]) rfl ?_
    show Steps p.tables e below (s₁.setTop (mkF m 2 #[.val (.int p1), .val (.int p2), .val (.int p3), .val (.int p1)] [])) _
    refine XS.iloadN X0.here hx rfl (hb hby d13_2) rfl ?_
    show Steps p.tables e below (s₁.setTop (mkF m 3 #[.val (.int p1), .val (.int p2), .val (.int p3), .val (.int p1)] [(.int p1)])) _
    refine XS.iloadN X0.here hx rfl (hb hby d13_3) rfl ?_
    show Steps p.tables e below (s₁.setTop (mkF m 4 #[.val (.int p1), .val (.int p2), .val (.int p3), .val (.int p1)] [(.int p2), (.int p1)])) _
    refine XS.icmpYes X0.here hx rfl (pc0 := 4) (pc' := 10) rfl (hb hby d13_4) rfl (tlt hc4).1 (by decide) (by decide) ?_
    show Steps p.tables e below (s₁.setTop (mkF m 10 #[.val (.int p1), .val (.int p2), .val (.int p3), .val (.int p1)] [])) _
    refine XS.iloadN X0.here hx rfl (hb hby d13_10) rfl ?_
    show Steps p.tables e below (s₁.setTop (mkF m 11 #[.val (.int p1), .val (.int p2), .val (.int p3), .val (.int p1)] [(.int p1)])) _
    refine XS.iloadN X0.here hx rfl (hb hby d13_11) rfl ?_
    show Steps p.tables e below (s₁.setTop (mkF m 12 #[.val (.int p1), .val (.int p2), .val (.int p3), .val (.int p1)] [(.int p3), (.int p1)])) _
    refine XS.icmpYes X0.here hx rfl (pc0 := 12) (pc' := 18) rfl (hb hby d13_12) rfl (tlt hc12).1 (by decide) (by decide) ?_
    show Steps p.tables e below (s₁.setTop (mkF m 18 #[.val (.int p1), .val (.int p2), .val (.int p3), .val (.int p1)] [])) _
    refine XS.iloadN X0.here hx rfl (hb hby d13_18) rfl ?_
    show Steps p.tables e below (s₁.setTop (mkF m 19 #[.val (.int p1), .val (.int p2), .val (.int p3), .val (.int p1)] [(.int p1)])) _
    exact retI X0 hx Bd.returns (hb hby d13_19) hr
  · show QI Z p1 h0 n0 _ s₁.heap _
    rw [e0]
    exact ⟨rfl, N0, rfl⟩
theorem d13_15 : decode method_2_code 15 = .ok (.iinc 3 1, 3) := by decide +kernel
set_option maxRecDepth 65536 in
set_option maxHeartbeats 40000000 in
theorem rm13_tf (l : Launch) (Z : State) (a0 : Array Value) (hw : ∀ d ∈ tables_1, d.before a0 Z = true) (ws : List Jvm.Cond) (p1 : Int32) (p2 : Int32) (p3 : Int32) (h0 : Heap) (n0 : Nat) (Z0 : n0 ≤ h0.size) (hc4 : p1 < p2) (hc12 : ¬ (p1 < p3)) :
    MetFree l (⟨"com/example/sectionary/sectionary/tables/LongKeyIntMapGrowValuesPinLaw", "skip2", "(III)I"⟩ : MethodName) (head1 (Jvm.Cond.code (⟨"com/example/sectionary/sectionary/tables/LongKeyIntMapGrowValuesPinLaw", "skip2", "(III)I"⟩ : MethodName) method_2_code 4 (some .int) :: ws) ({ frames := 0, cells := 0, slots := 0, locals := 0 } : Room)) (fun a Us => a = #[(.int p1), (.int p2), (.int p3)] ∧ Z.Warmed39 Us.vm ∧ Us.heap = h0) (fun _ _ _ _ _ => True) (fun _ Us o Us' => ∃ v L, o = .returned v ∧ QI Z (p1 + (1 : Int32)) h0 n0 v Us'.heap L ∧ FrameEnd Us o Us' L ({ frames := 0, cells := 0, slots := 0, locals := 0 } : Room).cells ({ frames := 0, cells := 0, slots := 0, locals := 0 } : Room).slots) := by
  refine MetFree.of_bodySF (plainFor_of_name pn_13) hisR ?_
  intro p e s m args below meth c s₁ Bd hml0 hP hK
  obtain ⟨rfl, hZ, hh⟩ := hP
  have hx := Bd.exec
  have hby := Bd.bytes
  have hml : c.maxLocals = 4 := hml0
  have hown : s.vm.findClass "com/example/sectionary/sectionary/tables/LongKeyIntMapGrowValuesPinLaw" = some m.cls := findClass_of_methodNamed Bd.named
  have hnm := (name_of_methodNamed Bd.named Bd.method).1
  have X0 : Stand p l e ({ frames := 0, cells := 0, slots := 0, locals := 0 } : Room) s m #[(.int p1), (.int p2), (.int p3)] below meth c s₁ [] 0 0 := Stand.of_body Bd
  have e0 : s₁.heap = h0 := by rw [← hh, Bd.state]; rfl
  have N0 := Fr.nil n0
  have pre0 : ∀ t, Steps p.tables e below (s₁.setTop (mkF m 0 #[.val (.int p1), .val (.int p2), .val (.int p3), .unset] [])) t → Steps p.tables e below (s₁.setTop (entryFrame m #[(.int p1), (.int p2), (.int p3)] 4)) t := fun t k => castTop (ef_13 m p1 p2 p3) k
  obtain ⟨fs, hr, hrun, hended, hW, hsame⟩ := X0.leave (v := some (.int (p1 + (1 : Int32)))) (fun h => by rw [Bd.returns] at h; cases h)
  refine ⟨_, _, pre0 _ ?_, hrun, hended, _, _, rfl, ?_, ⟨_, rfl⟩, hW, hsame.mono (by decide) (by decide)⟩
  · show Steps p.tables e below (s₁.setTop (mkF m 0 #[.val (.int p1), .val (.int p2), .val (.int p3), .unset] [])) _
    refine XS.iloadN X0.here hx rfl (hb hby d13_0) rfl ?_
    show Steps p.tables e below (s₁.setTop (mkF m 1 #[.val (.int p1), .val (.int p2), .val (.int p3), .unset] [(.int p1)])) _
    refine XS.istoreN X0.here hx rfl (hb hby d13_1) rfl (l' := #[.val (.int p1), .val (.int p2), .val (.int p3), .val (.int p1)]) rfl ?_
    show Steps p.tables e below (s₁.setTop (mkF m 2 #[.val (.int p1), .val (.int p2), .val (.int p3), .val (.int p1)] [])) _
    refine XS.iloadN X0.here hx rfl (hb hby d13_2) rfl ?_
    show Steps p.tables e below (s₁.setTop (mkF m 3 #[.val (.int p1), .val (.int p2), .val (.int p3), .val (.int p1)] [(.int p1)])) _
    refine XS.iloadN X0.here hx rfl (hb hby d13_3) rfl ?_
    show Steps p.tables e below (s₁.setTop (mkF m 4 #[.val (.int p1), .val (.int p2), .val (.int p3), .val (.int p1)] [(.int p2), (.int p1)])) _
    refine XS.icmpYes X0.here hx rfl (pc0 := 4) (pc' := 10) rfl (hb hby d13_4) rfl (tlt hc4).1 (by decide) (by decide) ?_
    show Steps p.tables e below (s₁.setTop (mkF m 10 #[.val (.int p1), .val (.int p2), .val (.int p3), .val (.int p1)] [])) _
    refine XS.iloadN X0.here hx rfl (hb hby d13_10) rfl ?_
    show Steps p.tables e below (s₁.setTop (mkF m 11 #[.val (.int p1), .val (.int p2), .val (.int p3), .val (.int p1)] [(.int p1)])) _
    refine XS.iloadN X0.here hx rfl (hb hby d13_11) rfl ?_
    show Steps p.tables e below (s₁.setTop (mkF m 12 #[.val (.int p1), .val (.int p2), .val (.int p3), .val (.int p1)] [(.int p3), (.int p1)])) _
    refine XS.icmpNo X0.here hx rfl (hb hby d13_12) rfl (flt hc12).1 ?_
    show Steps p.tables e below (s₁.setTop (mkF m 15 #[.val (.int p1), .val (.int p2), .val (.int p3), .val (.int p1)] [])) _
    refine XS.iinc X0.here hx rfl (hb hby d13_15) rfl (l' := #[.val (.int p1), .val (.int p2), .val (.int p3), .val (.int (p1 + (1 : Int32)))]) rfl ?_
    show Steps p.tables e below (s₁.setTop (mkF m 18 #[.val (.int p1), .val (.int p2), .val (.int p3), .val (.int (p1 + (1 : Int32)))] [])) _
    refine XS.iloadN X0.here hx rfl (hb hby d13_18) rfl ?_
    show Steps p.tables e below (s₁.setTop (mkF m 19 #[.val (.int p1), .val (.int p2), .val (.int p3), .val (.int (p1 + (1 : Int32)))] [(.int (p1 + (1 : Int32)))])) _
    exact retI X0 hx Bd.returns (hb hby d13_19) hr
  · show QI Z (p1 + (1 : Int32)) h0 n0 _ s₁.heap _
    rw [e0]
    exact ⟨rfl, N0, rfl⟩
theorem d13_7 : decode method_2_code 7 = .ok (.iinc 3 1, 3) := by decide +kernel
set_option maxRecDepth 65536 in
set_option maxHeartbeats 40000000 in
theorem rm13_ft (l : Launch) (Z : State) (a0 : Array Value) (hw : ∀ d ∈ tables_1, d.before a0 Z = true) (ws : List Jvm.Cond) (p1 : Int32) (p2 : Int32) (p3 : Int32) (h0 : Heap) (n0 : Nat) (Z0 : n0 ≤ h0.size) (hc4 : ¬ (p1 < p2)) (hc12 : (p1 + (1 : Int32)) < p3) :
    MetFree l (⟨"com/example/sectionary/sectionary/tables/LongKeyIntMapGrowValuesPinLaw", "skip2", "(III)I"⟩ : MethodName) (head1 (Jvm.Cond.code (⟨"com/example/sectionary/sectionary/tables/LongKeyIntMapGrowValuesPinLaw", "skip2", "(III)I"⟩ : MethodName) method_2_code 4 (some .int) :: ws) ({ frames := 0, cells := 0, slots := 0, locals := 0 } : Room)) (fun a Us => a = #[(.int p1), (.int p2), (.int p3)] ∧ Z.Warmed39 Us.vm ∧ Us.heap = h0) (fun _ _ _ _ _ => True) (fun _ Us o Us' => ∃ v L, o = .returned v ∧ QI Z (p1 + (1 : Int32)) h0 n0 v Us'.heap L ∧ FrameEnd Us o Us' L ({ frames := 0, cells := 0, slots := 0, locals := 0 } : Room).cells ({ frames := 0, cells := 0, slots := 0, locals := 0 } : Room).slots) := by
  refine MetFree.of_bodySF (plainFor_of_name pn_13) hisR ?_
  intro p e s m args below meth c s₁ Bd hml0 hP hK
  obtain ⟨rfl, hZ, hh⟩ := hP
  have hx := Bd.exec
  have hby := Bd.bytes
  have hml : c.maxLocals = 4 := hml0
  have hown : s.vm.findClass "com/example/sectionary/sectionary/tables/LongKeyIntMapGrowValuesPinLaw" = some m.cls := findClass_of_methodNamed Bd.named
  have hnm := (name_of_methodNamed Bd.named Bd.method).1
  have X0 : Stand p l e ({ frames := 0, cells := 0, slots := 0, locals := 0 } : Room) s m #[(.int p1), (.int p2), (.int p3)] below meth c s₁ [] 0 0 := Stand.of_body Bd
  have e0 : s₁.heap = h0 := by rw [← hh, Bd.state]; rfl
  have N0 := Fr.nil n0
  have pre0 : ∀ t, Steps p.tables e below (s₁.setTop (mkF m 0 #[.val (.int p1), .val (.int p2), .val (.int p3), .unset] [])) t → Steps p.tables e below (s₁.setTop (entryFrame m #[(.int p1), (.int p2), (.int p3)] 4)) t := fun t k => castTop (ef_13 m p1 p2 p3) k
  obtain ⟨fs, hr, hrun, hended, hW, hsame⟩ := X0.leave (v := some (.int (p1 + (1 : Int32)))) (fun h => by rw [Bd.returns] at h; cases h)
  refine ⟨_, _, pre0 _ ?_, hrun, hended, _, _, rfl, ?_, ⟨_, rfl⟩, hW, hsame.mono (by decide) (by decide)⟩
  · show Steps p.tables e below (s₁.setTop (mkF m 0 #[.val (.int p1), .val (.int p2), .val (.int p3), .unset] [])) _
    refine XS.iloadN X0.here hx rfl (hb hby d13_0) rfl ?_
    show Steps p.tables e below (s₁.setTop (mkF m 1 #[.val (.int p1), .val (.int p2), .val (.int p3), .unset] [(.int p1)])) _
    refine XS.istoreN X0.here hx rfl (hb hby d13_1) rfl (l' := #[.val (.int p1), .val (.int p2), .val (.int p3), .val (.int p1)]) rfl ?_
    show Steps p.tables e below (s₁.setTop (mkF m 2 #[.val (.int p1), .val (.int p2), .val (.int p3), .val (.int p1)] [])) _
    refine XS.iloadN X0.here hx rfl (hb hby d13_2) rfl ?_
    show Steps p.tables e below (s₁.setTop (mkF m 3 #[.val (.int p1), .val (.int p2), .val (.int p3), .val (.int p1)] [(.int p1)])) _
    refine XS.iloadN X0.here hx rfl (hb hby d13_3) rfl ?_
    show Steps p.tables e below (s₁.setTop (mkF m 4 #[.val (.int p1), .val (.int p2), .val (.int p3), .val (.int p1)] [(.int p2), (.int p1)])) _
    refine XS.icmpNo X0.here hx rfl (hb hby d13_4) rfl (flt hc4).1 ?_
    show Steps p.tables e below (s₁.setTop (mkF m 7 #[.val (.int p1), .val (.int p2), .val (.int p3), .val (.int p1)] [])) _
    refine XS.iinc X0.here hx rfl (hb hby d13_7) rfl (l' := #[.val (.int p1), .val (.int p2), .val (.int p3), .val (.int (p1 + (1 : Int32)))]) rfl ?_
    show Steps p.tables e below (s₁.setTop (mkF m 10 #[.val (.int p1), .val (.int p2), .val (.int p3), .val (.int (p1 + (1 : Int32)))] [])) _
    refine XS.iloadN X0.here hx rfl (hb hby d13_10) rfl ?_
    show Steps p.tables e below (s₁.setTop (mkF m 11 #[.val (.int p1), .val (.int p2), .val (.int p3), .val (.int (p1 + (1 : Int32)))] [(.int (p1 + (1 : Int32)))])) _
    refine XS.iloadN X0.here hx rfl (hb hby d13_11) rfl ?_
    show Steps p.tables e below (s₁.setTop (mkF m 12 #[.val (.int p1), .val (.int p2), .val (.int p3), .val (.int (p1 + (1 : Int32)))] [(.int p3), (.int (p1 + (1 : Int32)))])) _
    refine XS.icmpYes X0.here hx rfl (pc0 := 12) (pc' := 18) rfl (hb hby d13_12) rfl (tlt hc12).1 (by decide) (by decide) ?_
    show Steps p.tables e below (s₁.setTop (mkF m 18 #[.val (.int p1), .val (.int p2), .val (.int p3), .val (.int (p1 + (1 : Int32)))] [])) _
    refine XS.iloadN X0.here hx rfl (hb hby d13_18) rfl ?_
    show Steps p.tables e below (s₁.setTop (mkF m 19 #[.val (.int p1), .val (.int p2), .val (.int p3), .val (.int (p1 + (1 : Int32)))] [(.int (p1 + (1 : Int32)))])) _
    exact retI X0 hx Bd.returns (hb hby d13_19) hr
  · show QI Z (p1 + (1 : Int32)) h0 n0 _ s₁.heap _
    rw [e0]
    exact ⟨rfl, N0, rfl⟩
set_option maxRecDepth 65536 in
set_option maxHeartbeats 40000000 in
theorem rm13_ff (l : Launch) (Z : State) (a0 : Array Value) (hw : ∀ d ∈ tables_1, d.before a0 Z = true) (ws : List Jvm.Cond) (p1 : Int32) (p2 : Int32) (p3 : Int32) (h0 : Heap) (n0 : Nat) (Z0 : n0 ≤ h0.size) (hc4 : ¬ (p1 < p2)) (hc12 : ¬ ((p1 + (1 : Int32)) < p3)) :
    MetFree l (⟨"com/example/sectionary/sectionary/tables/LongKeyIntMapGrowValuesPinLaw", "skip2", "(III)I"⟩ : MethodName) (head1 (Jvm.Cond.code (⟨"com/example/sectionary/sectionary/tables/LongKeyIntMapGrowValuesPinLaw", "skip2", "(III)I"⟩ : MethodName) method_2_code 4 (some .int) :: ws) ({ frames := 0, cells := 0, slots := 0, locals := 0 } : Room)) (fun a Us => a = #[(.int p1), (.int p2), (.int p3)] ∧ Z.Warmed39 Us.vm ∧ Us.heap = h0) (fun _ _ _ _ _ => True) (fun _ Us o Us' => ∃ v L, o = .returned v ∧ QI Z ((p1 + (1 : Int32)) + (1 : Int32)) h0 n0 v Us'.heap L ∧ FrameEnd Us o Us' L ({ frames := 0, cells := 0, slots := 0, locals := 0 } : Room).cells ({ frames := 0, cells := 0, slots := 0, locals := 0 } : Room).slots) := by
  refine MetFree.of_bodySF (plainFor_of_name pn_13) hisR ?_
  intro p e s m args below meth c s₁ Bd hml0 hP hK
  obtain ⟨rfl, hZ, hh⟩ := hP
  have hx := Bd.exec
  have hby := Bd.bytes
  have hml : c.maxLocals = 4 := hml0
  have hown : s.vm.findClass "com/example/sectionary/sectionary/tables/LongKeyIntMapGrowValuesPinLaw" = some m.cls := findClass_of_methodNamed Bd.named
  have hnm := (name_of_methodNamed Bd.named Bd.method).1
  have X0 : Stand p l e ({ frames := 0, cells := 0, slots := 0, locals := 0 } : Room) s m #[(.int p1), (.int p2), (.int p3)] below meth c s₁ [] 0 0 := Stand.of_body Bd
  have e0 : s₁.heap = h0 := by rw [← hh, Bd.state]; rfl
  have N0 := Fr.nil n0
  have pre0 : ∀ t, Steps p.tables e below (s₁.setTop (mkF m 0 #[.val (.int p1), .val (.int p2), .val (.int p3), .unset] [])) t → Steps p.tables e below (s₁.setTop (entryFrame m #[(.int p1), (.int p2), (.int p3)] 4)) t := fun t k => castTop (ef_13 m p1 p2 p3) k
  obtain ⟨fs, hr, hrun, hended, hW, hsame⟩ := X0.leave (v := some (.int ((p1 + (1 : Int32)) + (1 : Int32)))) (fun h => by rw [Bd.returns] at h; cases h)
  refine ⟨_, _, pre0 _ ?_, hrun, hended, _, _, rfl, ?_, ⟨_, rfl⟩, hW, hsame.mono (by decide) (by decide)⟩
  · show Steps p.tables e below (s₁.setTop (mkF m 0 #[.val (.int p1), .val (.int p2), .val (.int p3), .unset] [])) _
    refine XS.iloadN X0.here hx rfl (hb hby d13_0) rfl ?_
    show Steps p.tables e below (s₁.setTop (mkF m 1 #[.val (.int p1), .val (.int p2), .val (.int p3), .unset] [(.int p1)])) _
    refine XS.istoreN X0.here hx rfl (hb hby d13_1) rfl (l' := #[.val (.int p1), .val (.int p2), .val (.int p3), .val (.int p1)]) rfl ?_
    show Steps p.tables e below (s₁.setTop (mkF m 2 #[.val (.int p1), .val (.int p2), .val (.int p3), .val (.int p1)] [])) _
    refine XS.iloadN X0.here hx rfl (hb hby d13_2) rfl ?_
    show Steps p.tables e below (s₁.setTop (mkF m 3 #[.val (.int p1), .val (.int p2), .val (.int p3), .val (.int p1)] [(.int p1)])) _
    refine XS.iloadN X0.here hx rfl (hb hby d13_3) rfl ?_
    show Steps p.tables e below (s₁.setTop (mkF m 4 #[.val (.int p1), .val (.int p2), .val (.int p3), .val (.int p1)] [(.int p2), (.int p1)])) _
    refine XS.icmpNo X0.here hx rfl (hb hby d13_4) rfl (flt hc4).1 ?_
    show Steps p.tables e below (s₁.setTop (mkF m 7 #[.val (.int p1), .val (.int p2), .val (.int p3), .val (.int p1)] [])) _
    refine XS.iinc X0.here hx rfl (hb hby d13_7) rfl (l' := #[.val (.int p1), .val (.int p2), .val (.int p3), .val (.int (p1 + (1 : Int32)))]) rfl ?_
    show Steps p.tables e below (s₁.setTop (mkF m 10 #[.val (.int p1), .val (.int p2), .val (.int p3), .val (.int (p1 + (1 : Int32)))] [])) _
    refine XS.iloadN X0.here hx rfl (hb hby d13_10) rfl ?_
    show Steps p.tables e below (s₁.setTop (mkF m 11 #[.val (.int p1), .val (.int p2), .val (.int p3), .val (.int (p1 + (1 : Int32)))] [(.int (p1 + (1 : Int32)))])) _
    refine XS.iloadN X0.here hx rfl (hb hby d13_11) rfl ?_
    show Steps p.tables e below (s₁.setTop (mkF m 12 #[.val (.int p1), .val (.int p2), .val (.int p3), .val (.int (p1 + (1 : Int32)))] [(.int p3), (.int (p1 + (1 : Int32)))])) _
    refine XS.icmpNo X0.here hx rfl (hb hby d13_12) rfl (flt hc12).1 ?_
    show Steps p.tables e below (s₁.setTop (mkF m 15 #[.val (.int p1), .val (.int p2), .val (.int p3), .val (.int (p1 + (1 : Int32)))] [])) _
    refine XS.iinc X0.here hx rfl (hb hby d13_15) rfl (l' := #[.val (.int p1), .val (.int p2), .val (.int p3), .val (.int ((p1 + (1 : Int32)) + (1 : Int32)))]) rfl ?_
    show Steps p.tables e below (s₁.setTop (mkF m 18 #[.val (.int p1), .val (.int p2), .val (.int p3), .val (.int ((p1 + (1 : Int32)) + (1 : Int32)))] [])) _
    refine XS.iloadN X0.here hx rfl (hb hby d13_18) rfl ?_
    show Steps p.tables e below (s₁.setTop (mkF m 19 #[.val (.int p1), .val (.int p2), .val (.int p3), .val (.int ((p1 + (1 : Int32)) + (1 : Int32)))] [(.int ((p1 + (1 : Int32)) + (1 : Int32)))])) _
    exact retI X0 hx Bd.returns (hb hby d13_19) hr
  · show QI Z ((p1 + (1 : Int32)) + (1 : Int32)) h0 n0 _ s₁.heap _
    rw [e0]
    exact ⟨rfl, N0, rfl⟩
theorem rm13 (l : Launch) (Z : State) (a0 : Array Value) (hw : ∀ d ∈ tables_1, d.before a0 Z = true) (ws : List Jvm.Cond) (p1 : Int32) (p2 : Int32) (p3 : Int32) (h0 : Heap) (n0 : Nat) (Z0 : n0 ≤ h0.size) :
    MetFree l (⟨"com/example/sectionary/sectionary/tables/LongKeyIntMapGrowValuesPinLaw", "skip2", "(III)I"⟩ : MethodName) (head1 (Jvm.Cond.code (⟨"com/example/sectionary/sectionary/tables/LongKeyIntMapGrowValuesPinLaw", "skip2", "(III)I"⟩ : MethodName) method_2_code 4 (some .int) :: ws) ({ frames := 0, cells := 0, slots := 0, locals := 0 } : Room)) (fun a Us => a = #[(.int p1), (.int p2), (.int p3)] ∧ Z.Warmed39 Us.vm ∧ Us.heap = h0) (fun _ _ _ _ _ => True) (fun _ Us o Us' => ∃ v L, o = .returned v ∧ QI Z (own_skip p1 p2 p3) h0 n0 v Us'.heap L ∧ FrameEnd Us o Us' L ({ frames := 0, cells := 0, slots := 0, locals := 0 } : Room).cells ({ frames := 0, cells := 0, slots := 0, locals := 0 } : Room).slots) := by
  by_cases h : p1 < p2
  · by_cases h2 : p1 < p3
    · have e : own_skip p1 p2 p3 = p1 := by simp [own_skip, h, h2]
      rw [e]; exact rm13_tt l Z a0 hw ws p1 p2 p3 h0 n0 Z0 h h2
    · have e : own_skip p1 p2 p3 = p1 + 1 := by simp [own_skip, h, h2]
      rw [e]; exact rm13_tf l Z a0 hw ws p1 p2 p3 h0 n0 Z0 h h2
  · by_cases h2 : p1 + 1 < p3
    · have e : own_skip p1 p2 p3 = p1 + 1 := by simp [own_skip, h, h2]
      rw [e]; exact rm13_ft l Z a0 hw ws p1 p2 p3 h0 n0 Z0 h h2
    · have e : own_skip p1 p2 p3 = p1 + 1 + 1 := by simp [own_skip, h, h2]
      rw [e]; exact rm13_ff l Z a0 hw ws p1 p2 p3 h0 n0 Z0 h h2
def own_gr (D : Nat → Int64) (V : Nat → Int32) : Nat → Nat → Int32
  | 0 => fun _ => 0
  | i + 1 => fun j => if ¬ D i < 0 ∧ j = (D i).toInt32.toNatClampNeg then V i else own_gr D V i j
theorem own_of64 : ∀ i : Fin 64, (Int32.ofNat i.val).toNatClampNeg = i.val ∧ ¬ Int32.ofNat i.val < 0 ∧ Int32.ofNat i.val < 64 := by decide +kernel
theorem d14_15 : decode prog_92_method_7_code 15 = .ok (.iload 4, 2) := by decide +kernel
theorem d14_17 : decode prog_92_method_7_code 17 = .ok (.aload_n 3, 1) := by decide +kernel
theorem d14_18 : decode prog_92_method_7_code 18 = .ok (.arraylength, 1) := by decide +kernel
theorem d14_19 : decode prog_92_method_7_code 19 = .ok (.if_icmp .ge 32, 3) := by decide +kernel
theorem d14_22 : decode prog_92_method_7_code 22 = .ok (.aload_n 1, 1) := by decide +kernel
theorem d14_23 : decode prog_92_method_7_code 23 = .ok (.iload 4, 2) := by decide +kernel
theorem d14_25 : decode prog_92_method_7_code 25 = .ok (.laload, 1) := by decide +kernel
theorem d14_26 : decode prog_92_method_7_code 26 = .ok (.lconst 0, 1) := by decide +kernel
theorem d14_27 : decode prog_92_method_7_code 27 = .ok (.lcmp, 1) := by decide +kernel
theorem d14_28 : decode prog_92_method_7_code 28 = .ok (.ifCond .lt 17, 3) := by decide +kernel
theorem d14_31 : decode prog_92_method_7_code 31 = .ok (.aload_n 0, 1) := by decide +kernel
theorem d14_32 : decode prog_92_method_7_code 32 = .ok (.getfield 7, 3) := by decide +kernel
theorem d14_35 : decode prog_92_method_7_code 35 = .ok (.aload_n 1, 1) := by decide +kernel
theorem d14_36 : decode prog_92_method_7_code 36 = .ok (.iload 4, 2) := by decide +kernel
theorem d14_38 : decode prog_92_method_7_code 38 = .ok (.laload, 1) := by decide +kernel
theorem d14_39 : decode prog_92_method_7_code 39 = .ok (.l2i, 1) := by decide +kernel
theorem d14_40 : decode prog_92_method_7_code 40 = .ok (.aload_n 3, 1) := by decide +kernel
theorem d14_41 : decode prog_92_method_7_code 41 = .ok (.iload 4, 2) := by decide +kernel
theorem d14_43 : decode prog_92_method_7_code 43 = .ok (.iaload, 1) := by decide +kernel
theorem d14_44 : decode prog_92_method_7_code 44 = .ok (.iastore, 1) := by decide +kernel
theorem d14_45 : decode prog_92_method_7_code 45 = .ok (.iinc 4 1, 3) := by decide +kernel
theorem d14_48 : decode prog_92_method_7_code 48 = .ok (.goto (-33), 3) := by decide +kernel
set_option maxRecDepth 65536 in
set_option maxHeartbeats 40000000 in
theorem tn_ff {p : Program} {l : Launch} {e : Env} {R : Room} {s : State} {m : MethodId} {args : Array Value} {below : List Frame} {meth : Method} {c : Code} {T0 : State} {locs : List Loc} {cells slots : Nat} {Z : State} {a0 : Array Value} {h0 : Heap} (o0 : Addr) (o1 : Addr) (s2 : Slot) (o3 : Addr) (i4 : Int32) (cl_o3 : Cell) (z_o3 : Int32) (w7 : Int64) (cl_o1 : Cell) (w5 : Addr) (w8 : Int32) (cl_w5 : Cell) (n0 : Nat)
    (X0 : Stand p l e R s m args below meth c T0 locs cells slots) (hx : p.tables.exec = Jvm.exec) (hZ : Z.Warmed39 s.vm) (hw : ∀ d ∈ tables_1, d.before a0 Z = true) (hby : c.code = prog_92_method_7_code) (hml : c.maxLocals = 5) (hown : s.vm.findClass "com/example/sectionary/sectionary/tables/LongKeyIntMap" = some m.cls) (e0 : T0.heap = h0) (Ar_o3 : Arr Z h0 o3 cl_o3 .int) (S_o3 : cl_o3.slots.size = z_o3.toNatClampNeg) (N_o3 : ¬ z_o3 < 0) (Ar_o1 : Arr Z h0 o1 cl_o1 .long) (hin25 : ¬ (i4 < 0 ∨ cl_o1.slots.size ≤ (i4).toNatClampNeg)) (hat25 : cl_o1.slots[(i4).toNatClampNeg]? = some (.long w7)) (F_values_o0 : Fld Z h0 o0 "com/example/sectionary/sectionary/tables/LongKeyIntMap" "values" "[I" (.ref w5)) (hin38 : ¬ (i4 < 0 ∨ cl_o1.slots.size ≤ (i4).toNatClampNeg)) (hat38 : cl_o1.slots[(i4).toNatClampNeg]? = some (.long w7)) (hin43 : ¬ (i4 < 0 ∨ cl_o3.slots.size ≤ (i4).toNatClampNeg)) (hat43 : cl_o3.slots[(i4).toNatClampNeg]? = some (.int w8)) (Ar_w5 : Arr Z h0 w5 cl_w5 .int) (hin44 : ¬ ((w7.toInt32) < 0 ∨ cl_w5.slots.size ≤ ((w7.toInt32)).toNatClampNeg)) (g_w5 : n0 ≤ w5) (N0 : Fr n0 locs) (hc19 : i4 < z_o3) (hc28 : ¬ ((lcmpW w7 (0 : Int64)) < (0 : Int32))) :
    ∃ (T' : State) (h' : Heap) (locs' : List Loc), Stand p l e R s m args below meth c T' locs' cells slots ∧ T'.heap = h' ∧ Fr n0 locs' ∧ Wr h0 h' w5 (w7.toInt32).toNatClampNeg (.int w8) ∧
      ∀ target, Steps p.tables e below (T'.setTop (mkF m 15 #[.val (.ref o0), .val (.ref o1), s2, .val (.ref o3), .val (.int (i4 + (1 : Int32)))] [])) target → Steps p.tables e below (T0.setTop (mkF m 15 #[.val (.ref o0), .val (.ref o1), s2, .val (.ref o3), .val (.int i4)] [])) target := by
  obtain ⟨T6, X6, e6, st6⟩ := getF X0 hx hZ hown (host := "") (Or.inl (hw _ (List.mem_of_getElem? (i := 20) rfl))) Via.refl e0 F_values_o0 (g := (mkF m 32 #[.val (.ref o0), .val (.ref o1), s2, .val (.ref o3), .val (.int i4)] [(.ref o0)])) rfl rfl (hb hby d14_32)
  obtain ⟨T9, h9, X9, e9, W9, st9⟩ := stI X6 hx hZ e6 Ar_w5 (j := (w7.toInt32)) hin44 (g := (mkF m 44 #[.val (.ref o0), .val (.ref o1), s2, .val (.ref o3), .val (.int i4)] [(.int w8), (.int (w7.toInt32)), (.ref w5)])) rfl rfl (hb hby d14_44)
  have N9 := Fr.snoc X9 N0 g_w5
  refine ⟨T9, _, _, X9, e9, N9, W9, fun target kt => ?_⟩
  show Steps p.tables e below (T0.setTop (mkF m 15 #[.val (.ref o0), .val (.ref o1), s2, .val (.ref o3), .val (.int i4)] [])) _
  refine XS.iload X0.here hx rfl (hb hby d14_15) rfl ?_
  show Steps p.tables e below (T0.setTop (mkF m 17 #[.val (.ref o0), .val (.ref o1), s2, .val (.ref o3), .val (.int i4)] [(.int i4)])) _
  refine XS.aloadN X0.here hx rfl (hb hby d14_17) rfl rfl ?_
  show Steps p.tables e below (T0.setTop (mkF m 18 #[.val (.ref o0), .val (.ref o1), s2, .val (.ref o3), .val (.int i4)] [(.ref o3), (.int i4)])) _
  refine X0.arraylength hx (by rw [e0]; exact Ar_o3.1) (State.isArrayOf_alike hZ.alike Ar_o3.2.1) (g := (mkF m 18 #[.val (.ref o0), .val (.ref o1), s2, .val (.ref o3), .val (.int i4)] [(.ref o3), (.int i4)])) rfl rfl (hb hby d14_18) _ ?_
  rw [len_of S_o3 N_o3]
  show Steps p.tables e below (T0.setTop (mkF m 19 #[.val (.ref o0), .val (.ref o1), s2, .val (.ref o3), .val (.int i4)] [(.int z_o3), (.int i4)])) _
  refine XS.icmpNo X0.here hx rfl (hb hby d14_19) rfl (tlt hc19).2.1 ?_
  show Steps p.tables e below (T0.setTop (mkF m 22 #[.val (.ref o0), .val (.ref o1), s2, .val (.ref o3), .val (.int i4)] [])) _
  refine XS.aloadN X0.here hx rfl (hb hby d14_22) rfl rfl ?_
  show Steps p.tables e below (T0.setTop (mkF m 23 #[.val (.ref o0), .val (.ref o1), s2, .val (.ref o3), .val (.int i4)] [(.ref o1)])) _
  refine XS.iload X0.here hx rfl (hb hby d14_23) rfl ?_
  show Steps p.tables e below (T0.setTop (mkF m 25 #[.val (.ref o0), .val (.ref o1), s2, .val (.ref o3), .val (.int i4)] [(.int i4), (.ref o1)])) _
  refine X0.laload hx (j := i4) (v := (.long w7)) (by rw [e0]; exact Ar_o1.1) (State.isArrayOf_alike hZ.alike Ar_o1.2.1) Ar_o1.2.2 hin25 hat25 (g := (mkF m 25 #[.val (.ref o0), .val (.ref o1), s2, .val (.ref o3), .val (.int i4)] [(.int i4), (.ref o1)])) rfl rfl (hb hby d14_25) _ ?_
  show Steps p.tables e below (T0.setTop (mkF m 26 #[.val (.ref o0), .val (.ref o1), s2, .val (.ref o3), .val (.int i4)] [(.long w7)])) _
  refine XS.lconst X0.here hx rfl (hb hby d14_26) ?_
  show Steps p.tables e below (T0.setTop (mkF m 27 #[.val (.ref o0), .val (.ref o1), s2, .val (.ref o3), .val (.int i4)] [(.long (0 : Int64)), (.long w7)])) _
  refine XS.lcmp X0.here hx rfl (hb hby d14_27) rfl ?_
  show Steps p.tables e below (T0.setTop (mkF m 28 #[.val (.ref o0), .val (.ref o1), s2, .val (.ref o3), .val (.int i4)] [(.int (lcmpW w7 (0 : Int64)))])) _
  refine XS.ifNo X0.here hx rfl (hb hby d14_28) rfl ((if0 _ _).trans (flt hc28).1) ?_
  show Steps p.tables e below (T0.setTop (mkF m 31 #[.val (.ref o0), .val (.ref o1), s2, .val (.ref o3), .val (.int i4)] [])) _
  refine XS.aloadN X0.here hx rfl (hb hby d14_31) rfl rfl ?_
  show Steps p.tables e below (T0.setTop (mkF m 32 #[.val (.ref o0), .val (.ref o1), s2, .val (.ref o3), .val (.int i4)] [(.ref o0)])) _
  refine st6 _ ?_
  show Steps p.tables e below (T6.setTop (mkF m 35 #[.val (.ref o0), .val (.ref o1), s2, .val (.ref o3), .val (.int i4)] [(.ref w5)])) _
  refine XS.aloadN X6.here hx rfl (hb hby d14_35) rfl rfl ?_
  show Steps p.tables e below (T6.setTop (mkF m 36 #[.val (.ref o0), .val (.ref o1), s2, .val (.ref o3), .val (.int i4)] [(.ref o1), (.ref w5)])) _
  refine XS.iload X6.here hx rfl (hb hby d14_36) rfl ?_
  show Steps p.tables e below (T6.setTop (mkF m 38 #[.val (.ref o0), .val (.ref o1), s2, .val (.ref o3), .val (.int i4)] [(.int i4), (.ref o1), (.ref w5)])) _
  refine X6.laload hx (j := i4) (v := (.long w7)) (by rw [e6]; exact Ar_o1.1) (State.isArrayOf_alike hZ.alike Ar_o1.2.1) Ar_o1.2.2 hin38 hat38 (g := (mkF m 38 #[.val (.ref o0), .val (.ref o1), s2, .val (.ref o3), .val (.int i4)] [(.int i4), (.ref o1), (.ref w5)])) rfl rfl (hb hby d14_38) _ ?_
  show Steps p.tables e below (T6.setTop (mkF m 39 #[.val (.ref o0), .val (.ref o1), s2, .val (.ref o3), .val (.int i4)] [(.long w7), (.ref w5)])) _
  refine XS.l2i X6.here hx rfl (hb hby d14_39) rfl ?_
  show Steps p.tables e below (T6.setTop (mkF m 40 #[.val (.ref o0), .val (.ref o1), s2, .val (.ref o3), .val (.int i4)] [(.int (w7.toInt32)), (.ref w5)])) _
  refine XS.aloadN X6.here hx rfl (hb hby d14_40) rfl rfl ?_
  show Steps p.tables e below (T6.setTop (mkF m 41 #[.val (.ref o0), .val (.ref o1), s2, .val (.ref o3), .val (.int i4)] [(.ref o3), (.int (w7.toInt32)), (.ref w5)])) _
  refine XS.iload X6.here hx rfl (hb hby d14_41) rfl ?_
  show Steps p.tables e below (T6.setTop (mkF m 43 #[.val (.ref o0), .val (.ref o1), s2, .val (.ref o3), .val (.int i4)] [(.int i4), (.ref o3), (.int (w7.toInt32)), (.ref w5)])) _
  refine X6.iaload hx (j := i4) (v := (.int w8)) (by rw [e6]; exact Ar_o3.1) (State.isArrayOf_alike hZ.alike Ar_o3.2.1) Ar_o3.2.2 hin43 hat43 (g := (mkF m 43 #[.val (.ref o0), .val (.ref o1), s2, .val (.ref o3), .val (.int i4)] [(.int i4), (.ref o3), (.int (w7.toInt32)), (.ref w5)])) rfl rfl (hb hby d14_43) _ ?_
  show Steps p.tables e below (T6.setTop (mkF m 44 #[.val (.ref o0), .val (.ref o1), s2, .val (.ref o3), .val (.int i4)] [(.int w8), (.int (w7.toInt32)), (.ref w5)])) _
  refine st9 _ ?_
  show Steps p.tables e below (T9.setTop (mkF m 45 #[.val (.ref o0), .val (.ref o1), s2, .val (.ref o3), .val (.int i4)] [])) _
  refine XS.iinc X9.here hx rfl (hb hby d14_45) rfl (l' := #[.val (.ref o0), .val (.ref o1), s2, .val (.ref o3), .val (.int (i4 + (1 : Int32)))]) rfl ?_
  show Steps p.tables e below (T9.setTop (mkF m 48 #[.val (.ref o0), .val (.ref o1), s2, .val (.ref o3), .val (.int (i4 + (1 : Int32)))] [])) _
  refine XS.goto X9.here hx rfl (pc0 := 48) (pc' := 15) rfl (hb hby d14_48) (by decide) (by decide) ?_
  exact kt
set_option maxRecDepth 65536 in
set_option maxHeartbeats 40000000 in
theorem tn_ft {p : Program} {l : Launch} {e : Env} {R : Room} {s : State} {m : MethodId} {args : Array Value} {below : List Frame} {meth : Method} {c : Code} {T0 : State} {locs : List Loc} {cells slots : Nat} {Z : State} {a0 : Array Value} {h0 : Heap} (s0 : Slot) (o1 : Addr) (s2 : Slot) (o3 : Addr) (i4 : Int32) (cl_o3 : Cell) (z_o3 : Int32) (w4 : Int64) (cl_o1 : Cell)
    (X0 : Stand p l e R s m args below meth c T0 locs cells slots) (hx : p.tables.exec = Jvm.exec) (hZ : Z.Warmed39 s.vm) (hw : ∀ d ∈ tables_1, d.before a0 Z = true) (hby : c.code = prog_92_method_7_code) (hml : c.maxLocals = 5) (hown : s.vm.findClass "com/example/sectionary/sectionary/tables/LongKeyIntMap" = some m.cls) (e0 : T0.heap = h0) (Ar_o3 : Arr Z h0 o3 cl_o3 .int) (S_o3 : cl_o3.slots.size = z_o3.toNatClampNeg) (N_o3 : ¬ z_o3 < 0) (Ar_o1 : Arr Z h0 o1 cl_o1 .long) (hin25 : ¬ (i4 < 0 ∨ cl_o1.slots.size ≤ (i4).toNatClampNeg)) (hat25 : cl_o1.slots[(i4).toNatClampNeg]? = some (.long w4)) (hc19 : i4 < z_o3) (hc28 : (lcmpW w4 (0 : Int64)) < (0 : Int32)) :
    ∃ (T' : State), Stand p l e R s m args below meth c T' locs cells slots ∧ T'.heap = h0 ∧
      ∀ target, Steps p.tables e below (T'.setTop (mkF m 15 #[s0, .val (.ref o1), s2, .val (.ref o3), .val (.int (i4 + (1 : Int32)))] [])) target → Steps p.tables e below (T0.setTop (mkF m 15 #[s0, .val (.ref o1), s2, .val (.ref o3), .val (.int i4)] [])) target := by
  refine ⟨T0, X0, e0, fun target kt => ?_⟩
  show Steps p.tables e below (T0.setTop (mkF m 15 #[s0, .val (.ref o1), s2, .val (.ref o3), .val (.int i4)] [])) _
  refine XS.iload X0.here hx rfl (hb hby d14_15) rfl ?_
  show Steps p.tables e below (T0.setTop (mkF m 17 #[s0, .val (.ref o1), s2, .val (.ref o3), .val (.int i4)] [(.int i4)])) _
  refine XS.aloadN X0.here hx rfl (hb hby d14_17) rfl rfl ?_
  show Steps p.tables e below (T0.setTop (mkF m 18 #[s0, .val (.ref o1), s2, .val (.ref o3), .val (.int i4)] [(.ref o3), (.int i4)])) _
  refine X0.arraylength hx (by rw [e0]; exact Ar_o3.1) (State.isArrayOf_alike hZ.alike Ar_o3.2.1) (g := (mkF m 18 #[s0, .val (.ref o1), s2, .val (.ref o3), .val (.int i4)] [(.ref o3), (.int i4)])) rfl rfl (hb hby d14_18) _ ?_
  rw [len_of S_o3 N_o3]
  show Steps p.tables e below (T0.setTop (mkF m 19 #[s0, .val (.ref o1), s2, .val (.ref o3), .val (.int i4)] [(.int z_o3), (.int i4)])) _
  refine XS.icmpNo X0.here hx rfl (hb hby d14_19) rfl (tlt hc19).2.1 ?_
  show Steps p.tables e below (T0.setTop (mkF m 22 #[s0, .val (.ref o1), s2, .val (.ref o3), .val (.int i4)] [])) _
  refine XS.aloadN X0.here hx rfl (hb hby d14_22) rfl rfl ?_
  show Steps p.tables e below (T0.setTop (mkF m 23 #[s0, .val (.ref o1), s2, .val (.ref o3), .val (.int i4)] [(.ref o1)])) _
  refine XS.iload X0.here hx rfl (hb hby d14_23) rfl ?_
  show Steps p.tables e below (T0.setTop (mkF m 25 #[s0, .val (.ref o1), s2, .val (.ref o3), .val (.int i4)] [(.int i4), (.ref o1)])) _
  refine X0.laload hx (j := i4) (v := (.long w4)) (by rw [e0]; exact Ar_o1.1) (State.isArrayOf_alike hZ.alike Ar_o1.2.1) Ar_o1.2.2 hin25 hat25 (g := (mkF m 25 #[s0, .val (.ref o1), s2, .val (.ref o3), .val (.int i4)] [(.int i4), (.ref o1)])) rfl rfl (hb hby d14_25) _ ?_
  show Steps p.tables e below (T0.setTop (mkF m 26 #[s0, .val (.ref o1), s2, .val (.ref o3), .val (.int i4)] [(.long w4)])) _
  refine XS.lconst X0.here hx rfl (hb hby d14_26) ?_
  show Steps p.tables e below (T0.setTop (mkF m 27 #[s0, .val (.ref o1), s2, .val (.ref o3), .val (.int i4)] [(.long (0 : Int64)), (.long w4)])) _
  refine XS.lcmp X0.here hx rfl (hb hby d14_27) rfl ?_
  show Steps p.tables e below (T0.setTop (mkF m 28 #[s0, .val (.ref o1), s2, .val (.ref o3), .val (.int i4)] [(.int (lcmpW w4 (0 : Int64)))])) _
  refine XS.ifYes X0.here hx rfl (pc0 := 28) (pc' := 45) rfl (hb hby d14_28) rfl ((if0 _ _).trans (tlt hc28).1) (by decide) (by decide) ?_
  show Steps p.tables e below (T0.setTop (mkF m 45 #[s0, .val (.ref o1), s2, .val (.ref o3), .val (.int i4)] [])) _
  refine XS.iinc X0.here hx rfl (hb hby d14_45) rfl (l' := #[s0, .val (.ref o1), s2, .val (.ref o3), .val (.int (i4 + (1 : Int32)))]) rfl ?_
  show Steps p.tables e below (T0.setTop (mkF m 48 #[s0, .val (.ref o1), s2, .val (.ref o3), .val (.int (i4 + (1 : Int32)))] [])) _
  refine XS.goto X0.here hx rfl (pc0 := 48) (pc' := 15) rfl (hb hby d14_48) (by decide) (by decide) ?_
  exact kt
set_option maxRecDepth 65536 in
set_option maxHeartbeats 40000000 in
theorem tn_t {p : Program} {l : Launch} {e : Env} {R : Room} {s : State} {m : MethodId} {args : Array Value} {below : List Frame} {meth : Method} {c : Code} {T0 : State} {locs : List Loc} {cells slots : Nat} {Z : State} {a0 : Array Value} {h0 : Heap} (s0 : Slot) (s1 : Slot) (s2 : Slot) (o3 : Addr) (i4 : Int32) (cl_o3 : Cell) (z_o3 : Int32)
    (X0 : Stand p l e R s m args below meth c T0 locs cells slots) (hx : p.tables.exec = Jvm.exec) (hZ : Z.Warmed39 s.vm) (hw : ∀ d ∈ tables_1, d.before a0 Z = true) (hby : c.code = prog_92_method_7_code) (hml : c.maxLocals = 5) (hown : s.vm.findClass "com/example/sectionary/sectionary/tables/LongKeyIntMap" = some m.cls) (e0 : T0.heap = h0) (Ar_o3 : Arr Z h0 o3 cl_o3 .int) (S_o3 : cl_o3.slots.size = z_o3.toNatClampNeg) (N_o3 : ¬ z_o3 < 0) (hc19 : ¬ (i4 < z_o3)) :
    ∃ (T' : State), Stand p l e R s m args below meth c T' locs cells slots ∧ T'.heap = h0 ∧
      ∀ target, Steps p.tables e below (T'.setTop (mkF m 51 #[s0, s1, s2, .val (.ref o3), .val (.int i4)] [])) target → Steps p.tables e below (T0.setTop (mkF m 15 #[s0, s1, s2, .val (.ref o3), .val (.int i4)] [])) target := by
  refine ⟨T0, X0, e0, fun target kt => ?_⟩
  show Steps p.tables e below (T0.setTop (mkF m 15 #[s0, s1, s2, .val (.ref o3), .val (.int i4)] [])) _
  refine XS.iload X0.here hx rfl (hb hby d14_15) rfl ?_
  show Steps p.tables e below (T0.setTop (mkF m 17 #[s0, s1, s2, .val (.ref o3), .val (.int i4)] [(.int i4)])) _
  refine XS.aloadN X0.here hx rfl (hb hby d14_17) rfl rfl ?_
  show Steps p.tables e below (T0.setTop (mkF m 18 #[s0, s1, s2, .val (.ref o3), .val (.int i4)] [(.ref o3), (.int i4)])) _
  refine X0.arraylength hx (by rw [e0]; exact Ar_o3.1) (State.isArrayOf_alike hZ.alike Ar_o3.2.1) (g := (mkF m 18 #[s0, s1, s2, .val (.ref o3), .val (.int i4)] [(.ref o3), (.int i4)])) rfl rfl (hb hby d14_18) _ ?_
  rw [len_of S_o3 N_o3]
  show Steps p.tables e below (T0.setTop (mkF m 19 #[s0, s1, s2, .val (.ref o3), .val (.int i4)] [(.int z_o3), (.int i4)])) _
  refine XS.icmpYes X0.here hx rfl (pc0 := 19) (pc' := 51) rfl (hb hby d14_19) rfl (flt hc19).2.1 (by decide) (by decide) ?_
  exact kt
theorem own_loop {p : Program} {l : Launch} {e : Env} {R : Room} {s : State} {m : MethodId} {args : Array Value} {below : List Frame} {meth : Method} {c : Code} {cells slots : Nat} {Z : State} {a0 : Array Value} (o0 o1 o3 b : Addr) (s2 : Slot) (D : Nat → Int64) (V : Nat → Int32) (nv n0 : Nat) (hs : Heap)
    (hx : p.tables.exec = Jvm.exec) (hZ : Z.Warmed39 s.vm) (hw : ∀ d ∈ tables_1, d.before a0 Z = true) (hby : c.code = prog_92_method_7_code) (hml : c.maxLocals = 5) (hown : s.vm.findClass "com/example/sectionary/sectionary/tables/LongKeyIntMap" = some m.cls)
    (Ld : own_L Z hs o1 64 D) (Iv : own_I Z hs o3 64 V) (Fv : Fld Z hs o0 "com/example/sectionary/sectionary/tables/LongKeyIntMap" "values" "[I" (.ref b)) (n0b : o0 ≠ b) (n1b : o1 ≠ b) (n3b : o3 ≠ b) (g_b : n0 ≤ b) (hD : ∀ i, i < 64 → ¬ D i < 0 → ¬ (D i).toInt32 < 0 ∧ (D i).toInt32.toNatClampNeg < nv) :
    ∀ (k i : Nat) (T0 : State) (h0 : Heap) (locs : List Loc), i + k = 64 → Stand p l e R s m args below meth c T0 locs cells slots → T0.heap = h0 → Fr n0 locs → Keep hs h0 [b] → own_I Z h0 b nv (own_gr D V i) →
      ∃ (T' : State) (h' : Heap) (locs' : List Loc), Stand p l e R s m args below meth c T' locs' cells slots ∧ T'.heap = h' ∧ Fr n0 locs' ∧ Keep hs h' [b] ∧ own_I Z h' b nv (own_gr D V 64) ∧
        ∀ target, Steps p.tables e below (T'.setTop (mkF m 51 #[.val (.ref o0), .val (.ref o1), s2, .val (.ref o3), .val (.int (Int32.ofNat 64))] [])) target → Steps p.tables e below (T0.setTop (mkF m 15 #[.val (.ref o0), .val (.ref o1), s2, .val (.ref o3), .val (.int (Int32.ofNat i))] [])) target := by
  intro k
  induction k with
  | zero =>
    intro i T0 h0 locs hi X0 e0 N K I
    have hi' : i = 64 := by omega
    subst hi'
    obtain ⟨cl3, A3, S3, H3⟩ := own_I_keep Iv K (own_nin n3b)
    obtain ⟨T1, X1, e1, st1⟩ := tn_t (.val (.ref o0)) (.val (.ref o1)) s2 o3 (Int32.ofNat 64) cl3 64 X0 hx hZ hw hby hml hown e0 A3 S3 (by decide) (by decide)
    exact ⟨T1, h0, locs, X1, e1, N, K, I, st1⟩
  | succ k ih =>
    intro i T0 h0 locs hi X0 e0 N K I
    have hi64 : i < 64 := by omega
    obtain ⟨q1, q2, q3⟩ := own_of64 ⟨i, hi64⟩
    dsimp only at q1 q2 q3
    obtain ⟨cl3, A3, S3, H3⟩ := own_I_keep Iv K (own_nin n3b)
    obtain ⟨cl1, A1, S1, H1⟩ := own_L_keep Ld K (own_nin n1b)
    have hin1 : ¬ (Int32.ofNat i < 0 ∨ cl1.slots.size ≤ (Int32.ofNat i).toNatClampNeg) := own_in S1 q2 (by rw [q1]; exact hi64)
    have hin3 : ¬ (Int32.ofNat i < 0 ∨ cl3.slots.size ≤ (Int32.ofNat i).toNatClampNeg) := own_in S3 q2 (by rw [q1]; exact hi64)
    have hat1 : cl1.slots[(Int32.ofNat i).toNatClampNeg]? = some (.long (D i)) := by rw [q1]; exact H1 i hi64
    have hat3 : cl3.slots[(Int32.ofNat i).toNatClampNeg]? = some (.int (V i)) := by rw [q1]; exact H3 i hi64
    by_cases hd : D i < 0
    · obtain ⟨T1, X1, e1, st1⟩ := tn_ft (.val (.ref o0)) o1 s2 o3 (Int32.ofNat i) cl3 64 (D i) cl1 X0 hx hZ hw hby hml hown e0 A3 S3 (by decide) A1 hin1 hat1 q3 ((lw_lt _ _).mpr hd)
      have I1 : own_I Z h0 b nv (own_gr D V (i + 1)) := own_I_to I fun j hj => by
        show _ = if _ then _ else _
        rw [if_neg (fun z => z.1 hd)]
      obtain ⟨T', h', L', X', e', N', K', I', st⟩ := ih (i + 1) T1 h0 locs (by omega) X1 e1 N K I1
      refine ⟨T', h', L', X', e', N', K', I', fun target h => st1 target ?_⟩
      have es : Int32.ofNat i + 1 = Int32.ofNat (i + 1) := by first | exact Int32.ofNat_succ i | exact (Int32.ofNat_succ i).symm
      rw [es]
      exact st target h
    · obtain ⟨d1, d2⟩ := hD i hi64 hd
      obtain ⟨clb, Ab, Sb, Hb⟩ := id I
      obtain ⟨T1, h1, L1, X1, e1, N1, W1, st1⟩ := tn_ff o0 o1 s2 o3 (Int32.ofNat i) cl3 64 (D i) cl1 b (V i) clb n0 X0 hx hZ hw hby hml hown e0 A3 S3 (by decide) A1 hin1 hat1 (Fv.keep K (own_nin n0b)) hin1 hat1 hin3 hat3 Ab (own_in Sb d1 d2) g_b N q3 (fun z => hd ((lw_lt _ _).mp z))
      have I1 : own_I Z h1 b nv (own_gr D V (i + 1)) := own_I_to (own_I_set I W1) fun j hj => by
        show _ = if _ then _ else _
        by_cases z : j = (D i).toInt32.toNatClampNeg
        · rw [if_pos z, if_pos ⟨hd, z⟩]
        · rw [if_neg z, if_neg (fun y => z y.2)]
      obtain ⟨T', h', L', X', e', N', K', I', st⟩ := ih (i + 1) T1 h1 L1 (by omega) X1 e1 N1 (K.wr W1 (Or.inl (List.mem_of_getElem? (i := 0) rfl))) I1
      refine ⟨T', h', L', X', e', N', K', I', fun target h => st1 target ?_⟩
      have es : Int32.ofNat i + 1 = Int32.ofNat (i + 1) := by first | exact Int32.ofNat_succ i | exact (Int32.ofNat_succ i).symm
      rw [es]
      exact st target h
def Q14 (Z : State) (a1 w7 w11 : Addr) (K : Nat → Int64) (U : Int64) (nv : Nat) (D : Nat → Int64) (V : Nat → Int32) (sz : Int32) (h0 : Heap) (n0 : Nat) (v : Option Value) (h : Heap) (L : List Loc) : Prop := v = none ∧ Fr n0 L ∧ Keep h0 h [a1] ∧ ∃ b : Addr, own_tab Z n0 h a1 w7 w11 b K U nv (own_gr D V 64) sz
theorem d14_0 : decode prog_92_method_7_code 0 = .ok (.aload_n 0, 1) := by decide +kernel
theorem d14_1 : decode prog_92_method_7_code 1 = .ok (.getfield 7, 3) := by decide +kernel
theorem d14_4 : decode prog_92_method_7_code 4 = .ok (.astore_n 3, 1) := by decide +kernel
theorem d14_5 : decode prog_92_method_7_code 5 = .ok (.aload_n 0, 1) := by decide +kernel
theorem d14_6 : decode prog_92_method_7_code 6 = .ok (.iload_n 2, 1) := by decide +kernel
theorem d14_7 : decode prog_92_method_7_code 7 = .ok (.newarray .int, 2) := by decide +kernel
theorem d14_9 : decode prog_92_method_7_code 9 = .ok (.putfield 7, 3) := by decide +kernel
theorem d14_12 : decode prog_92_method_7_code 12 = .ok (.iconst 0, 1) := by decide +kernel
theorem d14_13 : decode prog_92_method_7_code 13 = .ok (.istore 4, 2) := by decide +kernel
theorem d14_51 : decode prog_92_method_7_code 51 = .ok (.return_, 1) := by decide +kernel
theorem pn_14 : plainName "com/example/sectionary/sectionary/tables/LongKeyIntMap" = true := by first | (simp [plainName, overriddenIn]; done) | decide +kernel
theorem ef_14 (m : MethodId) (x0 : Addr) (x1 : Addr) (x2 : Int32) : entryFrame m #[(.ref x0), (.ref x1), (.int x2)] 5 = mkF m 0 #[.val (.ref x0), .val (.ref x1), .val (.int x2), .unset, .unset] [] := by first | (simp [entryFrame, mkF, argsToLocals, Value.category]; done) | rfl
set_option maxRecDepth 65536 in
set_option maxHeartbeats 40000000 in
theorem rm14 (l : Launch) (Z : State) (a0 : Array Value) (hw : ∀ d ∈ tables_1, d.before a0 Z = true) (ws : List Jvm.Cond) (a1 a2 : Addr) (p3 : Int32) (w7 w11 vv : Addr) (K : Nat → Int64) (U : Int64) (nv : Nat) (D : Nat → Int64) (V : Nat → Int32) (sz : Int32) (h0 : Heap) (n0 : Nat) (Z0 : n0 ≤ h0.size) (Tb : own_tab Z n0 h0 a1 w7 w11 vv K U 64 V sz) (Ld : own_L Z h0 a2 64 D) (n12 : a2 ≠ a1) (hp0 : ¬ p3 < 0) (hp1 : p3.toNatClampNeg = nv) (hp2 : nv ≤ 128) (hD : ∀ i, i < 64 → ¬ D i < 0 → ¬ (D i).toInt32 < 0 ∧ (D i).toInt32.toNatClampNeg < nv) :
    MetFree l (⟨"com/example/sectionary/sectionary/tables/LongKeyIntMap", "growValues", "([JI)V"⟩ : MethodName) (head1 (Jvm.Cond.code (⟨"com/example/sectionary/sectionary/tables/LongKeyIntMap", "growValues", "([JI)V"⟩ : MethodName) prog_92_method_7_code 5 none :: ws) ({ frames := 0, cells := 1, slots := 128, locals := 0 } : Room)) (fun a Us => a = #[(.ref a1), (.ref a2), (.int p3)] ∧ Z.Warmed39 Us.vm ∧ Us.heap = h0) (fun _ _ _ _ _ => True) (fun _ Us o Us' => ∃ v L, o = .returned v ∧ Q14 Z a1 w7 w11 K U nv D V sz h0 n0 v Us'.heap L ∧ FrameEnd Us o Us' L ({ frames := 0, cells := 1, slots := 128, locals := 0 } : Room).cells ({ frames := 0, cells := 1, slots := 128, locals := 0 } : Room).slots) := by
  refine MetFree.of_bodySF (plainFor_of_name pn_14) hisR ?_
  intro p e s m args below meth c s₁ Bd hml0 hP hK
  obtain ⟨rfl, hZ, hh⟩ := hP
  have hx := Bd.exec
  have hby := Bd.bytes
  have hml : c.maxLocals = 5 := hml0
  have hown : s.vm.findClass "com/example/sectionary/sectionary/tables/LongKeyIntMap" = some m.cls := findClass_of_methodNamed Bd.named
  have hnm := (name_of_methodNamed Bd.named Bd.method).1
  have X0 : Stand p l e ({ frames := 0, cells := 1, slots := 128, locals := 0 } : Room) s m #[(.ref a1), (.ref a2), (.int p3)] below meth c s₁ [] 0 0 := Stand.of_body Bd
  have e0 : s₁.heap = h0 := by rw [← hh, Bd.state]; rfl
  have N0 := Fr.nil n0
  obtain ⟨E_a1, F_keys_a1, F_used_a1, F_values_a1, F_size_a1, Lk, Lu, Iv, ⟨g_a1, g_w7, g_w11, g_vv⟩, ⟨n17, n111, n1v, n711, n7v, n11v⟩⟩ := Tb
  have pre0 : ∀ t, Steps p.tables e below (s₁.setTop (mkF m 0 #[.val (.ref a1), .val (.ref a2), .val (.int p3), .unset, .unset] [])) t → Steps p.tables e below (s₁.setTop (entryFrame m #[(.ref a1), (.ref a2), (.int p3)] 5)) t := fun t k => castTop (ef_14 m a1 a2 p3) k
  obtain ⟨T5, X5, e5, st5⟩ := getF X0 hx hZ hown (host := "") (Or.inl (hw _ (List.mem_of_getElem? (i := 20) rfl))) Via.refl e0 F_values_a1 (g := (mkF m 1 #[.val (.ref a1), .val (.ref a2), .val (.int p3), .unset, .unset] [(.ref a1)])) rfl rfl (hb hby d14_1)
  obtain ⟨T6, h6, k6, X6, e6, E6, A6, st6⟩ := newP X5 hx hZ (hw _ (List.mem_of_getElem? (i := 19) rfl)) e5 (g := (mkF m 7 #[.val (.ref a1), .val (.ref a2), .val (.int p3), .val (.ref vv), .unset] [(.int p3), (.ref a1)])) rfl (hb hby d14_7) rfl hp0 (cap := 128) (by rw [hp1]; exact hp2) (by decide) (by decide) (by decide)
  obtain ⟨b6, g6⟩ : ∃ z, z = h0.size := ⟨_, rfl⟩
  rw [← g6] at A6 st6
  have g_b6 : n0 ≤ b6 := Nat.le_trans Z0 (Nat.le_of_eq g6.symm)
  have sz_b6 : h0.size ≤ b6 := (Nat.le_trans (Keep.refl h0 [a1]).1 (Nat.le_of_eq g6.symm))
  have K6 : Keep h0 h6 [a1] := (Keep.refl h0 [a1]).ext E6
  obtain ⟨T7, h7, X7, e7, W7, st7⟩ := putF X6 hx hZ hown (host := "") (Or.inl (hw _ (List.mem_of_getElem? (i := 20) rfl))) Via.refl e6 (F_values_a1.ext E6) (E_a1.ext E6) (Or.inl (hw _ (List.mem_of_getElem? (i := 21) rfl))) (hw _ (List.mem_of_getElem? (i := 1) rfl)) (ty := (.array .int)) (by decide) rfl rfl (g := (mkF m 9 #[.val (.ref a1), .val (.ref a2), .val (.int p3), .val (.ref vv), .unset] [(.ref b6), (.ref a1)])) rfl rfl (hb hby d14_9)
  have Fw7 := (F_values_a1.ext E6).same W7
  have K7 : Keep h0 h7 [a1] := K6.wr W7 (Or.inl (List.mem_of_getElem? (i := 0) rfl))
  have N7 := Fr.snoc X7 N0 g_a1
  have l6 : ∀ x : Addr, x < h0.size → x ≠ b6 := fun x hx => Nat.ne_of_lt (Nat.lt_of_lt_of_le hx (Nat.le_of_eq g6.symm))
  have n16 := l6 a1 E_a1.lt
  have Ld7 := own_L_other (own_L_ext Ld E6) W7 n12
  have Iv7 := own_I_other (own_I_ext Iv E6) W7 (Ne.symm n1v)
  have Ib7 : own_I Z h7 b6 nv (own_gr D V 0) := own_I_other (own_I_new A6 hp1) W7 (Ne.symm n16)
  obtain ⟨TL, hL, LL, XL, eL, NL, KL, IL, stL⟩ := own_loop a1 a2 vv b6 (.val (.int p3)) D V nv n0 h7 hx hZ hw hby hml hown Ld7 Iv7 Fw7 n16 (l6 a2 (own_L_lt Ld)) (l6 vv (own_I_lt Iv)) g_b6 hD 64 0 T7 h7 _ (by omega) X7 e7 N7 (Keep.refl _ _) Ib7
  obtain ⟨fs, hr, hrun, hended, hW, hsame⟩ := XL.leave (v := none) (fun _ => rfl)
  refine ⟨_, _, pre0 _ ?_, hrun, hended, _, _, rfl, ?_, ⟨_, rfl⟩, hW, hsame.mono (by decide) (by decide)⟩
  · show Steps p.tables e below (s₁.setTop (mkF m 0 #[.val (.ref a1), .val (.ref a2), .val (.int p3), .unset, .unset] [])) _
    refine XS.aloadN X0.here hx rfl (hb hby d14_0) rfl rfl ?_
    show Steps p.tables e below (s₁.setTop (mkF m 1 #[.val (.ref a1), .val (.ref a2), .val (.int p3), .unset, .unset] [(.ref a1)])) _
    refine st5 _ ?_
    show Steps p.tables e below (T5.setTop (mkF m 4 #[.val (.ref a1), .val (.ref a2), .val (.int p3), .unset, .unset] [(.ref vv)])) _
    refine XS.astoreN X5.here hx rfl (hb hby d14_4) rfl rfl (l' := #[.val (.ref a1), .val (.ref a2), .val (.int p3), .val (.ref vv), .unset]) rfl ?_
    show Steps p.tables e below (T5.setTop (mkF m 5 #[.val (.ref a1), .val (.ref a2), .val (.int p3), .val (.ref vv), .unset] [])) _
    refine XS.aloadN X5.here hx rfl (hb hby d14_5) rfl rfl ?_
    show Steps p.tables e below (T5.setTop (mkF m 6 #[.val (.ref a1), .val (.ref a2), .val (.int p3), .val (.ref vv), .unset] [(.ref a1)])) _
    refine XS.iloadN X5.here hx rfl (hb hby d14_6) rfl ?_
    show Steps p.tables e below (T5.setTop (mkF m 7 #[.val (.ref a1), .val (.ref a2), .val (.int p3), .val (.ref vv), .unset] [(.int p3), (.ref a1)])) _
    refine st6 _ ?_
    show Steps p.tables e below (T6.setTop (mkF m 9 #[.val (.ref a1), .val (.ref a2), .val (.int p3), .val (.ref vv), .unset] [(.ref b6), (.ref a1)])) _
    refine st7 _ ?_
    show Steps p.tables e below (T7.setTop (mkF m 12 #[.val (.ref a1), .val (.ref a2), .val (.int p3), .val (.ref vv), .unset] [])) _
    refine XS.iconst X7.here hx rfl (hb hby d14_12) ?_
    show Steps p.tables e below (T7.setTop (mkF m 13 #[.val (.ref a1), .val (.ref a2), .val (.int p3), .val (.ref vv), .unset] [(.int (0 : Int32))])) _
    refine XS.istore X7.here hx rfl (hb hby d14_13) rfl (l' := #[.val (.ref a1), .val (.ref a2), .val (.int p3), .val (.ref vv), .val (.int (0 : Int32))]) rfl ?_
    show Steps p.tables e below (T7.setTop (mkF m 15 #[.val (.ref a1), .val (.ref a2), .val (.int p3), .val (.ref vv), .val (.int (0 : Int32))] [])) _
    refine stL _ ?_
    exact XL.returnOut hx Bd.returns (hb hby d14_51) hr
  · show Q14 Z a1 w7 w11 K U nv D V sz h0 n0 _ TL.heap _
    rw [eL]
    have mvF : ∀ {C f d : String} {u : Value}, Fld Z h7 a1 C f d u → Fld Z hL a1 C f d u := fun F => F.keep KL (own_nin n16)
    exact ⟨rfl, NL, Keep.trans K7 KL (fun x hx => Or.inr (by rw [List.mem_singleton.mp hx]; exact sz_b6)), b6, ((E_a1.ext E6).wr W7).keep KL, mvF ((F_keys_a1.ext E6).other W7 (Or.inr (slot_ne (Or.inl (hw _ (List.mem_of_getElem? (i := 16) rfl))) (Or.inl (hw _ (List.mem_of_getElem? (i := 21) rfl))) (by decide) (t := (.array .long)) (t' := (.array .int)) (by decide) (by decide)))), mvF ((F_used_a1.ext E6).other W7 (Or.inr (slot_ne (Or.inl (hw _ (List.mem_of_getElem? (i := 18) rfl))) (Or.inl (hw _ (List.mem_of_getElem? (i := 21) rfl))) (by decide) (t := (.array .long)) (t' := (.array .int)) (by decide) (by decide)))), mvF Fw7, mvF ((F_size_a1.ext E6).other W7 (Or.inr (slot_ne (Or.inl (hw _ (List.mem_of_getElem? (i := 57) rfl))) (Or.inl (hw _ (List.mem_of_getElem? (i := 21) rfl))) (by decide) (t := .int) (t' := (.array .int)) (by decide) (by decide)))), own_L_keep (own_L_other (own_L_ext Lk E6) W7 (Ne.symm n17)) KL (own_nin (l6 w7 (own_L_lt Lk))), own_L_keep (own_L_other (own_L_ext Lu E6) W7 (Ne.symm n111)) KL (own_nin (l6 w11 (own_L_lt Lu))), IL, ⟨g_a1, g_w7, g_w11, g_b6⟩, ⟨n17, n111, n16, n711, l6 w7 (own_L_lt Lk), l6 w11 (own_L_lt Lu)⟩⟩
def own_rm (x y : Int32) : Int32 := x % y
theorem own_rem (x y : Int32) : x - (x / y) * y = own_rm x y := by
  show _ = x % y
  apply Int32.toInt_inj.mp
  have h1 := Int32.le_toInt (x % y)
  have h2 := Int32.toInt_lt (x % y)
  rw [Int32.toInt_sub, Int32.toInt_mul, Int32.toInt_div, Int.bmod_mul_bmod, Int.sub_bmod_bmod, Int.mul_comm (x.toInt.tdiv y.toInt), ← Int.tmod_def, ← Int32.toInt_mod]
  exact Int.bmod_eq_of_le_mul_two (by omega) (by omega)
theorem own_irem {tb : Tables} [Ours tb] {e : Env} {below : List Frame} {T target : State} {m : MethodId} {c : Code} {g : JFrame} (h : At T m c below) (hx : tb.exec = Jvm.exec) (hg : g.method = m) {x y : Int32} {rest : List Value} (hd : decode c.code g.pc = .ok (.irem, 1)) (hs : g.stack = .int y :: .int x :: rest) (hy : ¬ y = 0)
    (hr : Steps tb e below (T.setTop { g with pc := g.pc + 1, stack := .int (own_rm x y) :: rest }) target) : Steps tb e below (T.setTop g) target := by
  refine XS.irem h hx hg hd hs hy ?_
  rw [own_rem]; exact hr
def own_x1 (t len : Int32) : Int32 := own_rm (t &&& (65535 : Int32)) (len - (2 : Int32))
def own_y (t len : Int32) : Int32 := own_rm ((t.toUInt32 >>> ((16 : Int32) &&& 31).toUInt32).toInt32) (len - (3 : Int32))
def own_md (sel : Int32) : Int32 := own_rm (((sel.toUInt32 >>> ((1 : Int32) &&& 31).toUInt32).toInt32) &&& (2147483647 : Int32)) (7 : Int32)
def own_w (x r1 r2 : Int32) : Int32 := own_skip x (own_min r1 r2) (own_max r1 r2)
def own_pick (md r1 r2 u1 u2 e1 e2 : Int32) : Prop :=
  if md = 0 then e1 = r1 ∧ e2 = r2 else if md = 1 then e1 = r2 ∧ e2 = r1 else if md = 2 then e1 = r1 ∧ e2 = u2 else if md = 3 then e1 = u1 ∧ e2 = r2 else if md = 4 then e1 = r2 ∧ e2 = u2 else if md = 5 then e1 = u1 ∧ e2 = r1 else e1 = u1 ∧ e2 = u2
def own_ex (e1 e2 r v1 v2 : Int32) : Int32 := if e1 = r then v1 else if e2 = r then v2 else 0
theorem os_tnL_t_91 {s0 : Slot} {s1 : Slot} {s2 : Slot} {s3 : Slot} {s4 : Slot} {s5 : Slot} {z6 : Value} {s7 : Slot} {s8 : Slot} {s9 : Slot} {s10 : Slot} {s11 : Slot} {s12 : Slot} {s13 : Slot} {s14 : Slot} {s15 : Slot} {s16 : Slot} {s17 : Slot} {s18 : Slot} {s19 : Slot} {s20 : Slot} {s21 : Slot} {s22 : Slot} {s23 : Slot} {s24 : Slot} {s25 : Slot} {v : Int32} (h : One s15) : storeLocals #[s0, s1, s2, s3, s4, s5, .val z6, s7, s8, s9, s10, s11, s12, s13, s14, s15, s16, s17, s18, s19, s20, s21, s22, s23, s24, s25] 15 (.int v) = some #[s0, s1, s2, s3, s4, s5, .val z6, s7, s8, s9, s10, s11, s12, s13, s14, .val (.int v), s16, s17, s18, s19, s20, s21, s22, s23, s24, s25] := by
  rcases h with rfl | ⟨w, rfl, hw⟩
  · rfl
  · cases w <;> first | rfl | (simp [Value.category] at hw)
set_option maxRecDepth 65536 in
set_option maxHeartbeats 40000000 in
theorem tnL_t {p : Program} {l : Launch} {e : Env} {R : Room} {s : State} {m : MethodId} {args : Array Value} {below : List Frame} {meth : Method} {c : Code} {T0 : State} {locs : List Loc} {cells slots : Nat} {Z : State} {a0 : Array Value} {h0 : Heap} (s0 : Slot) (s1 : Slot) (s2 : Slot) (s3 : Slot) (s4 : Slot) (s5 : Slot) (i6 : Int32) (s7 : Slot) (s8 : Slot) (s9 : Slot) (s10 : Slot) (s11 : Slot) (s12 : Slot) (s13 : Slot) (s14 : Slot) (s15 : Slot) (s16 : Slot) (s17 : Slot) (s18 : Slot) (s19 : Slot) (s20 : Slot) (s21 : Slot) (s22 : Slot) (s23 : Slot) (s24 : Slot) (s25 : Slot)
    (X0 : Stand p l e R s m args below meth c T0 locs cells slots) (hx : p.tables.exec = Jvm.exec) (hZ : Z.Warmed39 s.vm) (hw : ∀ d ∈ tables_1, d.before a0 Z = true) (hby : c.code = code) (hml : c.maxLocals = 26) (hown : s.vm.findClass "com/example/sectionary/sectionary/tables/LongKeyIntMapGrowValuesPinLaw" = some m.cls) (e0 : T0.heap = h0) (hs15 : One s15) (hc80 : (i6 &&& (1 : Int32)) = (0 : Int32)) :
    ∃ (T' : State), Stand p l e R s m args below meth c T' locs cells slots ∧ T'.heap = h0 ∧
      ∀ target, Steps p.tables e below (T'.setTop (mkF m 93 #[s0, s1, s2, s3, s4, s5, .val (.int i6), s7, s8, s9, s10, s11, s12, s13, s14, .val (.int (64 : Int32)), s16, s17, s18, s19, s20, s21, s22, s23, s24, s25] [])) target → Steps p.tables e below (T0.setTop (mkF m 76 #[s0, s1, s2, s3, s4, s5, .val (.int i6), s7, s8, s9, s10, s11, s12, s13, s14, s15, s16, s17, s18, s19, s20, s21, s22, s23, s24, s25] [])) target := by
  refine ⟨T0, X0, e0, fun target kt => ?_⟩
  show Steps p.tables e below (T0.setTop (mkF m 76 #[s0, s1, s2, s3, s4, s5, .val (.int i6), s7, s8, s9, s10, s11, s12, s13, s14, s15, s16, s17, s18, s19, s20, s21, s22, s23, s24, s25] [])) _
  refine XS.iload X0.here hx rfl (hb hby at_76) rfl ?_
  show Steps p.tables e below (T0.setTop (mkF m 78 #[s0, s1, s2, s3, s4, s5, .val (.int i6), s7, s8, s9, s10, s11, s12, s13, s14, s15, s16, s17, s18, s19, s20, s21, s22, s23, s24, s25] [(.int i6)])) _
  refine XS.iconst X0.here hx rfl (hb hby at_78) ?_
  show Steps p.tables e below (T0.setTop (mkF m 79 #[s0, s1, s2, s3, s4, s5, .val (.int i6), s7, s8, s9, s10, s11, s12, s13, s14, s15, s16, s17, s18, s19, s20, s21, s22, s23, s24, s25] [(.int (1 : Int32)), (.int i6)])) _
  refine XS.iand X0.here hx rfl (hb hby at_79) rfl ?_
  show Steps p.tables e below (T0.setTop (mkF m 80 #[s0, s1, s2, s3, s4, s5, .val (.int i6), s7, s8, s9, s10, s11, s12, s13, s14, s15, s16, s17, s18, s19, s20, s21, s22, s23, s24, s25] [(.int (i6 &&& (1 : Int32)))])) _
  refine XS.ifYes X0.here hx rfl (pc0 := 80) (pc' := 89) rfl (hb hby at_80) rfl ((if0 _ _).trans (teq hc80).1) (by decide) (by decide) ?_
  show Steps p.tables e below (T0.setTop (mkF m 89 #[s0, s1, s2, s3, s4, s5, .val (.int i6), s7, s8, s9, s10, s11, s12, s13, s14, s15, s16, s17, s18, s19, s20, s21, s22, s23, s24, s25] [])) _
  refine XS.bipush X0.here hx rfl (hb hby at_89) ?_
  show Steps p.tables e below (T0.setTop (mkF m 91 #[s0, s1, s2, s3, s4, s5, .val (.int i6), s7, s8, s9, s10, s11, s12, s13, s14, s15, s16, s17, s18, s19, s20, s21, s22, s23, s24, s25] [(.int (64 : Int32))])) _
  refine XS.istore X0.here hx rfl (hb hby at_91) rfl (l' := #[s0, s1, s2, s3, s4, s5, .val (.int i6), s7, s8, s9, s10, s11, s12, s13, s14, .val (.int (64 : Int32)), s16, s17, s18, s19, s20, s21, s22, s23, s24, s25]) (os_tnL_t_91 hs15) ?_
  exact kt
theorem os_tnL_f_91 {s0 : Slot} {s1 : Slot} {s2 : Slot} {s3 : Slot} {s4 : Slot} {s5 : Slot} {z6 : Value} {s7 : Slot} {s8 : Slot} {s9 : Slot} {s10 : Slot} {s11 : Slot} {s12 : Slot} {s13 : Slot} {s14 : Slot} {s15 : Slot} {s16 : Slot} {s17 : Slot} {s18 : Slot} {s19 : Slot} {s20 : Slot} {s21 : Slot} {s22 : Slot} {s23 : Slot} {s24 : Slot} {s25 : Slot} {v : Int32} (h : One s15) : storeLocals #[s0, s1, s2, s3, s4, s5, .val z6, s7, s8, s9, s10, s11, s12, s13, s14, s15, s16, s17, s18, s19, s20, s21, s22, s23, s24, s25] 15 (.int v) = some #[s0, s1, s2, s3, s4, s5, .val z6, s7, s8, s9, s10, s11, s12, s13, s14, .val (.int v), s16, s17, s18, s19, s20, s21, s22, s23, s24, s25] := by
  rcases h with rfl | ⟨w, rfl, hw⟩
  · rfl
  · cases w <;> first | rfl | (simp [Value.category] at hw)
set_option maxRecDepth 65536 in
set_option maxHeartbeats 40000000 in
theorem tnL_f {p : Program} {l : Launch} {e : Env} {R : Room} {s : State} {m : MethodId} {args : Array Value} {below : List Frame} {meth : Method} {c : Code} {T0 : State} {locs : List Loc} {cells slots : Nat} {Z : State} {a0 : Array Value} {h0 : Heap} (s0 : Slot) (s1 : Slot) (s2 : Slot) (s3 : Slot) (s4 : Slot) (s5 : Slot) (i6 : Int32) (s7 : Slot) (s8 : Slot) (s9 : Slot) (s10 : Slot) (s11 : Slot) (s12 : Slot) (s13 : Slot) (s14 : Slot) (s15 : Slot) (s16 : Slot) (s17 : Slot) (s18 : Slot) (s19 : Slot) (s20 : Slot) (s21 : Slot) (s22 : Slot) (s23 : Slot) (s24 : Slot) (s25 : Slot)
    (X0 : Stand p l e R s m args below meth c T0 locs cells slots) (hx : p.tables.exec = Jvm.exec) (hZ : Z.Warmed39 s.vm) (hw : ∀ d ∈ tables_1, d.before a0 Z = true) (hby : c.code = code) (hml : c.maxLocals = 26) (hown : s.vm.findClass "com/example/sectionary/sectionary/tables/LongKeyIntMapGrowValuesPinLaw" = some m.cls) (e0 : T0.heap = h0) (hs15 : One s15) (hc80 : ¬ ((i6 &&& (1 : Int32)) = (0 : Int32))) :
    ∃ (T' : State), Stand p l e R s m args below meth c T' locs cells slots ∧ T'.heap = h0 ∧
      ∀ target, Steps p.tables e below (T'.setTop (mkF m 93 #[s0, s1, s2, s3, s4, s5, .val (.int i6), s7, s8, s9, s10, s11, s12, s13, s14, .val (.int (128 : Int32)), s16, s17, s18, s19, s20, s21, s22, s23, s24, s25] [])) target → Steps p.tables e below (T0.setTop (mkF m 76 #[s0, s1, s2, s3, s4, s5, .val (.int i6), s7, s8, s9, s10, s11, s12, s13, s14, s15, s16, s17, s18, s19, s20, s21, s22, s23, s24, s25] [])) target := by
  refine ⟨T0, X0, e0, fun target kt => ?_⟩
  show Steps p.tables e below (T0.setTop (mkF m 76 #[s0, s1, s2, s3, s4, s5, .val (.int i6), s7, s8, s9, s10, s11, s12, s13, s14, s15, s16, s17, s18, s19, s20, s21, s22, s23, s24, s25] [])) _
  refine XS.iload X0.here hx rfl (hb hby at_76) rfl ?_
  show Steps p.tables e below (T0.setTop (mkF m 78 #[s0, s1, s2, s3, s4, s5, .val (.int i6), s7, s8, s9, s10, s11, s12, s13, s14, s15, s16, s17, s18, s19, s20, s21, s22, s23, s24, s25] [(.int i6)])) _
  refine XS.iconst X0.here hx rfl (hb hby at_78) ?_
  show Steps p.tables e below (T0.setTop (mkF m 79 #[s0, s1, s2, s3, s4, s5, .val (.int i6), s7, s8, s9, s10, s11, s12, s13, s14, s15, s16, s17, s18, s19, s20, s21, s22, s23, s24, s25] [(.int (1 : Int32)), (.int i6)])) _
  refine XS.iand X0.here hx rfl (hb hby at_79) rfl ?_
  show Steps p.tables e below (T0.setTop (mkF m 80 #[s0, s1, s2, s3, s4, s5, .val (.int i6), s7, s8, s9, s10, s11, s12, s13, s14, s15, s16, s17, s18, s19, s20, s21, s22, s23, s24, s25] [(.int (i6 &&& (1 : Int32)))])) _
  refine XS.ifNo X0.here hx rfl (hb hby at_80) rfl ((if0 _ _).trans (feq hc80).1) ?_
  show Steps p.tables e below (T0.setTop (mkF m 83 #[s0, s1, s2, s3, s4, s5, .val (.int i6), s7, s8, s9, s10, s11, s12, s13, s14, s15, s16, s17, s18, s19, s20, s21, s22, s23, s24, s25] [])) _
  refine XS.sipush X0.here hx rfl (hb hby at_83) ?_
  show Steps p.tables e below (T0.setTop (mkF m 86 #[s0, s1, s2, s3, s4, s5, .val (.int i6), s7, s8, s9, s10, s11, s12, s13, s14, s15, s16, s17, s18, s19, s20, s21, s22, s23, s24, s25] [(.int (128 : Int32))])) _
  refine XS.goto X0.here hx rfl (pc0 := 86) (pc' := 91) rfl (hb hby at_86) (by decide) (by decide) ?_
  show Steps p.tables e below (T0.setTop (mkF m 91 #[s0, s1, s2, s3, s4, s5, .val (.int i6), s7, s8, s9, s10, s11, s12, s13, s14, s15, s16, s17, s18, s19, s20, s21, s22, s23, s24, s25] [(.int (128 : Int32))])) _
  refine XS.istore X0.here hx rfl (hb hby at_91) rfl (l' := #[s0, s1, s2, s3, s4, s5, .val (.int i6), s7, s8, s9, s10, s11, s12, s13, s14, .val (.int (128 : Int32)), s16, s17, s18, s19, s20, s21, s22, s23, s24, s25]) (os_tnL_f_91 hs15) ?_
  exact kt
theorem own_segL {p : Program} {l : Launch} {e : Env} {R : Room} {s : State} {m : MethodId} {args : Array Value} {below : List Frame} {meth : Method} {c : Code} {T0 : State} {locs : List Loc} {cells slots : Nat} {Z : State} {a0 : Array Value} {h0 : Heap} (q1 q2 kb : Int64) (p3 p4 p5 p6 r1 r2 len yy e1 e2 f1 f2 : Int32) (b7 b17 : Addr)
    (X0 : Stand p l e R s m args below meth c T0 locs cells slots) (hx : p.tables.exec = Jvm.exec) (hZ : Z.Warmed39 s.vm) (hw : ∀ d ∈ tables_1, d.before a0 Z = true) (hby : c.code = code) (hml : c.maxLocals = 26) (hown : s.vm.findClass "com/example/sectionary/sectionary/tables/LongKeyIntMapGrowValuesPinLaw" = some m.cls) (e0 : T0.heap = h0) (hlen : len = if (p5 &&& (1 : Int32)) = 0 then 64 else 128) :
    ∃ (T' : State), Stand p l e R s m args below meth c T' locs cells slots ∧ T'.heap = h0 ∧
      ∀ target, Steps p.tables e below (T'.setTop (mkF m 93 #[.val (.long q1), .second, .val (.long q2), .second, .val (.int p3), .val (.int p4), .val (.int p5), .val (.int p6), .val (.long kb), .second, .val (.ref b7), .val (.int r1), .val (.int r2), .val (.int (own_min r1 r2)), .val (.int (own_max r1 r2)), .val (.int len), .unset, .unset, .unset, .unset, .unset, .unset, .unset, .unset, .unset, .unset] [])) target → Steps p.tables e below (T0.setTop (mkF m 76 #[.val (.long q1), .second, .val (.long q2), .second, .val (.int p3), .val (.int p4), .val (.int p5), .val (.int p6), .val (.long kb), .second, .val (.ref b7), .val (.int r1), .val (.int r2), .val (.int (own_min r1 r2)), .val (.int (own_max r1 r2)), .unset, .unset, .unset, .unset, .unset, .unset, .unset, .unset, .unset, .unset, .unset] [])) target := by
  by_cases h : (p5 &&& (1 : Int32)) = 0
  · rw [if_pos h] at hlen; subst hlen
    exact tnL_t (.val (.long q1)) .second (.val (.long q2)) .second (.val (.int p3)) (.val (.int p4)) p5 (.val (.int p6)) (.val (.long kb)) .second (.val (.ref b7)) (.val (.int r1)) (.val (.int r2)) (.val (.int (own_min r1 r2))) (.val (.int (own_max r1 r2))) .unset .unset .unset .unset .unset .unset .unset .unset .unset .unset .unset X0 hx hZ hw hby hml hown e0 One.u h
  · rw [if_neg h] at hlen; subst hlen
    exact tnL_f (.val (.long q1)) .second (.val (.long q2)) .second (.val (.int p3)) (.val (.int p4)) p5 (.val (.int p6)) (.val (.long kb)) .second (.val (.ref b7)) (.val (.int r1)) (.val (.int r2)) (.val (.int (own_min r1 r2))) (.val (.int (own_max r1 r2))) .unset .unset .unset .unset .unset .unset .unset .unset .unset .unset .unset X0 hx hZ hw hby hml hown e0 One.u h
set_option maxRecDepth 65536 in
set_option maxHeartbeats 40000000 in
theorem tnY_t {p : Program} {l : Launch} {e : Env} {R : Room} {s : State} {m : MethodId} {args : Array Value} {below : List Frame} {meth : Method} {c : Code} {T0 : State} {locs : List Loc} {cells slots : Nat} {Z : State} {a0 : Array Value} {h0 : Heap} (s0 : Slot) (s1 : Slot) (s2 : Slot) (s3 : Slot) (s4 : Slot) (s5 : Slot) (s6 : Slot) (s7 : Slot) (s8 : Slot) (s9 : Slot) (s10 : Slot) (s11 : Slot) (s12 : Slot) (s13 : Slot) (s14 : Slot) (s15 : Slot) (i16 : Int32) (s17 : Slot) (i18 : Int32) (s19 : Slot) (s20 : Slot) (s21 : Slot) (s22 : Slot) (s23 : Slot) (s24 : Slot) (s25 : Slot)
    (X0 : Stand p l e R s m args below meth c T0 locs cells slots) (hx : p.tables.exec = Jvm.exec) (hZ : Z.Warmed39 s.vm) (hw : ∀ d ∈ tables_1, d.before a0 Z = true) (hby : c.code = code) (hml : c.maxLocals = 26) (hown : s.vm.findClass "com/example/sectionary/sectionary/tables/LongKeyIntMapGrowValuesPinLaw" = some m.cls) (e0 : T0.heap = h0) (hc132 : i18 < i16) :
    ∃ (T' : State), Stand p l e R s m args below meth c T' locs cells slots ∧ T'.heap = h0 ∧
      ∀ target, Steps p.tables e below (T'.setTop (mkF m 138 #[s0, s1, s2, s3, s4, s5, s6, s7, s8, s9, s10, s11, s12, s13, s14, s15, .val (.int i16), s17, .val (.int i18), s19, s20, s21, s22, s23, s24, s25] [])) target → Steps p.tables e below (T0.setTop (mkF m 128 #[s0, s1, s2, s3, s4, s5, s6, s7, s8, s9, s10, s11, s12, s13, s14, s15, .val (.int i16), s17, .val (.int i18), s19, s20, s21, s22, s23, s24, s25] [])) target := by
  refine ⟨T0, X0, e0, fun target kt => ?_⟩
  show Steps p.tables e below (T0.setTop (mkF m 128 #[s0, s1, s2, s3, s4, s5, s6, s7, s8, s9, s10, s11, s12, s13, s14, s15, .val (.int i16), s17, .val (.int i18), s19, s20, s21, s22, s23, s24, s25] [])) _
  refine XS.iload X0.here hx rfl (hb hby at_128) rfl ?_
  show Steps p.tables e below (T0.setTop (mkF m 130 #[s0, s1, s2, s3, s4, s5, s6, s7, s8, s9, s10, s11, s12, s13, s14, s15, .val (.int i16), s17, .val (.int i18), s19, s20, s21, s22, s23, s24, s25] [(.int i18)])) _
  refine XS.iload X0.here hx rfl (hb hby at_130) rfl ?_
  show Steps p.tables e below (T0.setTop (mkF m 132 #[s0, s1, s2, s3, s4, s5, s6, s7, s8, s9, s10, s11, s12, s13, s14, s15, .val (.int i16), s17, .val (.int i18), s19, s20, s21, s22, s23, s24, s25] [(.int i16), (.int i18)])) _
  refine XS.icmpYes X0.here hx rfl (pc0 := 132) (pc' := 138) rfl (hb hby at_132) rfl (tlt hc132).1 (by decide) (by decide) ?_
  exact kt
set_option maxRecDepth 65536 in
set_option maxHeartbeats 40000000 in
theorem tnY_f {p : Program} {l : Launch} {e : Env} {R : Room} {s : State} {m : MethodId} {args : Array Value} {below : List Frame} {meth : Method} {c : Code} {T0 : State} {locs : List Loc} {cells slots : Nat} {Z : State} {a0 : Array Value} {h0 : Heap} (s0 : Slot) (s1 : Slot) (s2 : Slot) (s3 : Slot) (s4 : Slot) (s5 : Slot) (s6 : Slot) (s7 : Slot) (s8 : Slot) (s9 : Slot) (s10 : Slot) (s11 : Slot) (s12 : Slot) (s13 : Slot) (s14 : Slot) (s15 : Slot) (i16 : Int32) (s17 : Slot) (i18 : Int32) (s19 : Slot) (s20 : Slot) (s21 : Slot) (s22 : Slot) (s23 : Slot) (s24 : Slot) (s25 : Slot)
    (X0 : Stand p l e R s m args below meth c T0 locs cells slots) (hx : p.tables.exec = Jvm.exec) (hZ : Z.Warmed39 s.vm) (hw : ∀ d ∈ tables_1, d.before a0 Z = true) (hby : c.code = code) (hml : c.maxLocals = 26) (hown : s.vm.findClass "com/example/sectionary/sectionary/tables/LongKeyIntMapGrowValuesPinLaw" = some m.cls) (e0 : T0.heap = h0) (hc132 : ¬ (i18 < i16)) :
    ∃ (T' : State), Stand p l e R s m args below meth c T' locs cells slots ∧ T'.heap = h0 ∧
      ∀ target, Steps p.tables e below (T'.setTop (mkF m 138 #[s0, s1, s2, s3, s4, s5, s6, s7, s8, s9, s10, s11, s12, s13, s14, s15, .val (.int i16), s17, .val (.int (i18 + (1 : Int32))), s19, s20, s21, s22, s23, s24, s25] [])) target → Steps p.tables e below (T0.setTop (mkF m 128 #[s0, s1, s2, s3, s4, s5, s6, s7, s8, s9, s10, s11, s12, s13, s14, s15, .val (.int i16), s17, .val (.int i18), s19, s20, s21, s22, s23, s24, s25] [])) target := by
  refine ⟨T0, X0, e0, fun target kt => ?_⟩
  show Steps p.tables e below (T0.setTop (mkF m 128 #[s0, s1, s2, s3, s4, s5, s6, s7, s8, s9, s10, s11, s12, s13, s14, s15, .val (.int i16), s17, .val (.int i18), s19, s20, s21, s22, s23, s24, s25] [])) _
  refine XS.iload X0.here hx rfl (hb hby at_128) rfl ?_
  show Steps p.tables e below (T0.setTop (mkF m 130 #[s0, s1, s2, s3, s4, s5, s6, s7, s8, s9, s10, s11, s12, s13, s14, s15, .val (.int i16), s17, .val (.int i18), s19, s20, s21, s22, s23, s24, s25] [(.int i18)])) _
  refine XS.iload X0.here hx rfl (hb hby at_130) rfl ?_
  show Steps p.tables e below (T0.setTop (mkF m 132 #[s0, s1, s2, s3, s4, s5, s6, s7, s8, s9, s10, s11, s12, s13, s14, s15, .val (.int i16), s17, .val (.int i18), s19, s20, s21, s22, s23, s24, s25] [(.int i16), (.int i18)])) _
  refine XS.icmpNo X0.here hx rfl (hb hby at_132) rfl (flt hc132).1 ?_
  show Steps p.tables e below (T0.setTop (mkF m 135 #[s0, s1, s2, s3, s4, s5, s6, s7, s8, s9, s10, s11, s12, s13, s14, s15, .val (.int i16), s17, .val (.int i18), s19, s20, s21, s22, s23, s24, s25] [])) _
  refine XS.iinc X0.here hx rfl (hb hby at_135) rfl (l' := #[s0, s1, s2, s3, s4, s5, s6, s7, s8, s9, s10, s11, s12, s13, s14, s15, .val (.int i16), s17, .val (.int (i18 + (1 : Int32))), s19, s20, s21, s22, s23, s24, s25]) rfl ?_
  exact kt
theorem own_segY {p : Program} {l : Launch} {e : Env} {R : Room} {s : State} {m : MethodId} {args : Array Value} {below : List Frame} {meth : Method} {c : Code} {T0 : State} {locs : List Loc} {cells slots : Nat} {Z : State} {a0 : Array Value} {h0 : Heap} (q1 q2 kb : Int64) (p3 p4 p5 p6 r1 r2 len yy e1 e2 f1 f2 : Int32) (b7 b17 : Addr)
    (X0 : Stand p l e R s m args below meth c T0 locs cells slots) (hx : p.tables.exec = Jvm.exec) (hZ : Z.Warmed39 s.vm) (hw : ∀ d ∈ tables_1, d.before a0 Z = true) (hby : c.code = code) (hml : c.maxLocals = 26) (hown : s.vm.findClass "com/example/sectionary/sectionary/tables/LongKeyIntMapGrowValuesPinLaw" = some m.cls) (e0 : T0.heap = h0) (hyy : yy = if own_y p6 len < own_x1 p6 len then own_y p6 len else own_y p6 len + 1) :
    ∃ (T' : State), Stand p l e R s m args below meth c T' locs cells slots ∧ T'.heap = h0 ∧
      ∀ target, Steps p.tables e below (T'.setTop (mkF m 138 #[.val (.long q1), .second, .val (.long q2), .second, .val (.int p3), .val (.int p4), .val (.int p5), .val (.int p6), .val (.long kb), .second, .val (.ref b7), .val (.int r1), .val (.int r2), .val (.int (own_min r1 r2)), .val (.int (own_max r1 r2)), .val (.int len), .val (.int (own_x1 p6 len)), .val (.int (own_w (own_x1 p6 len) r1 r2)), .val (.int yy), .unset, .unset, .unset, .unset, .unset, .unset, .unset] [])) target → Steps p.tables e below (T0.setTop (mkF m 128 #[.val (.long q1), .second, .val (.long q2), .second, .val (.int p3), .val (.int p4), .val (.int p5), .val (.int p6), .val (.long kb), .second, .val (.ref b7), .val (.int r1), .val (.int r2), .val (.int (own_min r1 r2)), .val (.int (own_max r1 r2)), .val (.int len), .val (.int (own_x1 p6 len)), .val (.int (own_w (own_x1 p6 len) r1 r2)), .val (.int (own_y p6 len)), .unset, .unset, .unset, .unset, .unset, .unset, .unset] [])) target := by
  by_cases h : own_y p6 len < own_x1 p6 len
  · rw [if_pos h] at hyy; subst hyy
    exact tnY_t (.val (.long q1)) .second (.val (.long q2)) .second (.val (.int p3)) (.val (.int p4)) (.val (.int p5)) (.val (.int p6)) (.val (.long kb)) .second (.val (.ref b7)) (.val (.int r1)) (.val (.int r2)) (.val (.int (own_min r1 r2))) (.val (.int (own_max r1 r2))) (.val (.int len)) (own_x1 p6 len) (.val (.int (own_w (own_x1 p6 len) r1 r2))) (own_y p6 len) .unset .unset .unset .unset .unset .unset .unset X0 hx hZ hw hby hml hown e0 h
  · rw [if_neg h] at hyy; subst hyy
    exact tnY_f (.val (.long q1)) .second (.val (.long q2)) .second (.val (.int p3)) (.val (.int p4)) (.val (.int p5)) (.val (.int p6)) (.val (.long kb)) .second (.val (.ref b7)) (.val (.int r1)) (.val (.int r2)) (.val (.int (own_min r1 r2))) (.val (.int (own_max r1 r2))) (.val (.int len)) (own_x1 p6 len) (.val (.int (own_w (own_x1 p6 len) r1 r2))) (own_y p6 len) .unset .unset .unset .unset .unset .unset .unset X0 hx hZ hw hby hml hown e0 h
theorem os_tnE_0_168 {s0 : Slot} {s1 : Slot} {s2 : Slot} {s3 : Slot} {s4 : Slot} {s5 : Slot} {s6 : Slot} {s7 : Slot} {s8 : Slot} {s9 : Slot} {s10 : Slot} {z11 : Value} {z12 : Value} {s13 : Slot} {s14 : Slot} {s15 : Slot} {s16 : Slot} {s17 : Slot} {s18 : Slot} {s19 : Slot} {z20 : Value} {s21 : Slot} {s22 : Slot} {s23 : Slot} {s24 : Slot} {s25 : Slot} {v : Int32} (h : One s21) : storeLocals #[s0, s1, s2, s3, s4, s5, s6, s7, s8, s9, s10, .val z11, .val z12, s13, s14, s15, s16, s17, s18, s19, .val z20, s21, s22, s23, s24, s25] 21 (.int v) = some #[s0, s1, s2, s3, s4, s5, s6, s7, s8, s9, s10, .val z11, .val z12, s13, s14, s15, s16, s17, s18, s19, .val z20, .val (.int v), s22, s23, s24, s25] := by
  rcases h with rfl | ⟨w, rfl, hw⟩
  · rfl
  · cases w <;> first | rfl | (simp [Value.category] at hw)
theorem os_tnE_0_172 {s0 : Slot} {s1 : Slot} {s2 : Slot} {s3 : Slot} {s4 : Slot} {s5 : Slot} {s6 : Slot} {s7 : Slot} {s8 : Slot} {s9 : Slot} {s10 : Slot} {z11 : Value} {z12 : Value} {s13 : Slot} {s14 : Slot} {s15 : Slot} {s16 : Slot} {s17 : Slot} {s18 : Slot} {s19 : Slot} {z20 : Value} {z21 : Value} {s22 : Slot} {s23 : Slot} {s24 : Slot} {s25 : Slot} {v : Int32} (h : One s22) : storeLocals #[s0, s1, s2, s3, s4, s5, s6, s7, s8, s9, s10, .val z11, .val z12, s13, s14, s15, s16, s17, s18, s19, .val z20, .val z21, s22, s23, s24, s25] 22 (.int v) = some #[s0, s1, s2, s3, s4, s5, s6, s7, s8, s9, s10, .val z11, .val z12, s13, s14, s15, s16, s17, s18, s19, .val z20, .val z21, .val (.int v), s23, s24, s25] := by
  rcases h with rfl | ⟨w, rfl, hw⟩
  · rfl
  · cases w <;> first | rfl | (simp [Value.category] at hw)
set_option maxRecDepth 65536 in
set_option maxHeartbeats 40000000 in
theorem tnE_0 {p : Program} {l : Launch} {e : Env} {R : Room} {s : State} {m : MethodId} {args : Array Value} {below : List Frame} {meth : Method} {c : Code} {T0 : State} {locs : List Loc} {cells slots : Nat} {Z : State} {a0 : Array Value} {h0 : Heap} (s0 : Slot) (s1 : Slot) (s2 : Slot) (s3 : Slot) (s4 : Slot) (s5 : Slot) (s6 : Slot) (s7 : Slot) (s8 : Slot) (s9 : Slot) (s10 : Slot) (i11 : Int32) (i12 : Int32) (s13 : Slot) (s14 : Slot) (s15 : Slot) (s16 : Slot) (s17 : Slot) (s18 : Slot) (s19 : Slot) (i20 : Int32) (s21 : Slot) (s22 : Slot) (s23 : Slot) (s24 : Slot) (s25 : Slot)
    (X0 : Stand p l e R s m args below meth c T0 locs cells slots) (hx : p.tables.exec = Jvm.exec) (hZ : Z.Warmed39 s.vm) (hw : ∀ d ∈ tables_1, d.before a0 Z = true) (hby : c.code = code) (hml : c.maxLocals = 26) (hown : s.vm.findClass "com/example/sectionary/sectionary/tables/LongKeyIntMapGrowValuesPinLaw" = some m.cls) (e0 : T0.heap = h0) (hs21 : One s21) (hs22 : One s22) (hc163 : i20 = (0 : Int32)) :
    ∃ (T' : State), Stand p l e R s m args below meth c T' locs cells slots ∧ T'.heap = h0 ∧
      ∀ target, Steps p.tables e below (T'.setTop (mkF m 270 #[s0, s1, s2, s3, s4, s5, s6, s7, s8, s9, s10, .val (.int i11), .val (.int i12), s13, s14, s15, s16, s17, s18, s19, .val (.int i20), .val (.int i11), .val (.int i12), s23, s24, s25] [])) target → Steps p.tables e below (T0.setTop (mkF m 161 #[s0, s1, s2, s3, s4, s5, s6, s7, s8, s9, s10, .val (.int i11), .val (.int i12), s13, s14, s15, s16, s17, s18, s19, .val (.int i20), s21, s22, s23, s24, s25] [])) target := by
  refine ⟨T0, X0, e0, fun target kt => ?_⟩
  show Steps p.tables e below (T0.setTop (mkF m 161 #[s0, s1, s2, s3, s4, s5, s6, s7, s8, s9, s10, .val (.int i11), .val (.int i12), s13, s14, s15, s16, s17, s18, s19, .val (.int i20), s21, s22, s23, s24, s25] [])) _
  refine XS.iload X0.here hx rfl (hb hby at_161) rfl ?_
  show Steps p.tables e below (T0.setTop (mkF m 163 #[s0, s1, s2, s3, s4, s5, s6, s7, s8, s9, s10, .val (.int i11), .val (.int i12), s13, s14, s15, s16, s17, s18, s19, .val (.int i20), s21, s22, s23, s24, s25] [(.int i20)])) _
  refine XS.ifNo X0.here hx rfl (hb hby at_163) rfl ((if0 _ _).trans (teq hc163).2) ?_
  show Steps p.tables e below (T0.setTop (mkF m 166 #[s0, s1, s2, s3, s4, s5, s6, s7, s8, s9, s10, .val (.int i11), .val (.int i12), s13, s14, s15, s16, s17, s18, s19, .val (.int i20), s21, s22, s23, s24, s25] [])) _
  refine XS.iload X0.here hx rfl (hb hby at_166) rfl ?_
  show Steps p.tables e below (T0.setTop (mkF m 168 #[s0, s1, s2, s3, s4, s5, s6, s7, s8, s9, s10, .val (.int i11), .val (.int i12), s13, s14, s15, s16, s17, s18, s19, .val (.int i20), s21, s22, s23, s24, s25] [(.int i11)])) _
  refine XS.istore X0.here hx rfl (hb hby at_168) rfl (l' := #[s0, s1, s2, s3, s4, s5, s6, s7, s8, s9, s10, .val (.int i11), .val (.int i12), s13, s14, s15, s16, s17, s18, s19, .val (.int i20), .val (.int i11), s22, s23, s24, s25]) (os_tnE_0_168 hs21) ?_
  show Steps p.tables e below (T0.setTop (mkF m 170 #[s0, s1, s2, s3, s4, s5, s6, s7, s8, s9, s10, .val (.int i11), .val (.int i12), s13, s14, s15, s16, s17, s18, s19, .val (.int i20), .val (.int i11), s22, s23, s24, s25] [])) _
  refine XS.iload X0.here hx rfl (hb hby at_170) rfl ?_
  show Steps p.tables e below (T0.setTop (mkF m 172 #[s0, s1, s2, s3, s4, s5, s6, s7, s8, s9, s10, .val (.int i11), .val (.int i12), s13, s14, s15, s16, s17, s18, s19, .val (.int i20), .val (.int i11), s22, s23, s24, s25] [(.int i12)])) _
  refine XS.istore X0.here hx rfl (hb hby at_172) rfl (l' := #[s0, s1, s2, s3, s4, s5, s6, s7, s8, s9, s10, .val (.int i11), .val (.int i12), s13, s14, s15, s16, s17, s18, s19, .val (.int i20), .val (.int i11), .val (.int i12), s23, s24, s25]) (os_tnE_0_172 hs22) ?_
  show Steps p.tables e below (T0.setTop (mkF m 174 #[s0, s1, s2, s3, s4, s5, s6, s7, s8, s9, s10, .val (.int i11), .val (.int i12), s13, s14, s15, s16, s17, s18, s19, .val (.int i20), .val (.int i11), .val (.int i12), s23, s24, s25] [])) _
  refine XS.goto X0.here hx rfl (pc0 := 174) (pc' := 270) rfl (hb hby at_174) (by decide) (by decide) ?_
  exact kt
theorem os_tnE_1_185 {s0 : Slot} {s1 : Slot} {s2 : Slot} {s3 : Slot} {s4 : Slot} {s5 : Slot} {s6 : Slot} {s7 : Slot} {s8 : Slot} {s9 : Slot} {s10 : Slot} {z11 : Value} {z12 : Value} {s13 : Slot} {s14 : Slot} {s15 : Slot} {s16 : Slot} {s17 : Slot} {s18 : Slot} {s19 : Slot} {z20 : Value} {s21 : Slot} {s22 : Slot} {s23 : Slot} {s24 : Slot} {s25 : Slot} {v : Int32} (h : One s21) : storeLocals #[s0, s1, s2, s3, s4, s5, s6, s7, s8, s9, s10, .val z11, .val z12, s13, s14, s15, s16, s17, s18, s19, .val z20, s21, s22, s23, s24, s25] 21 (.int v) = some #[s0, s1, s2, s3, s4, s5, s6, s7, s8, s9, s10, .val z11, .val z12, s13, s14, s15, s16, s17, s18, s19, .val z20, .val (.int v), s22, s23, s24, s25] := by
  rcases h with rfl | ⟨w, rfl, hw⟩
  · rfl
  · cases w <;> first | rfl | (simp [Value.category] at hw)
theorem os_tnE_1_189 {s0 : Slot} {s1 : Slot} {s2 : Slot} {s3 : Slot} {s4 : Slot} {s5 : Slot} {s6 : Slot} {s7 : Slot} {s8 : Slot} {s9 : Slot} {s10 : Slot} {z11 : Value} {z12 : Value} {s13 : Slot} {s14 : Slot} {s15 : Slot} {s16 : Slot} {s17 : Slot} {s18 : Slot} {s19 : Slot} {z20 : Value} {z21 : Value} {s22 : Slot} {s23 : Slot} {s24 : Slot} {s25 : Slot} {v : Int32} (h : One s22) : storeLocals #[s0, s1, s2, s3, s4, s5, s6, s7, s8, s9, s10, .val z11, .val z12, s13, s14, s15, s16, s17, s18, s19, .val z20, .val z21, s22, s23, s24, s25] 22 (.int v) = some #[s0, s1, s2, s3, s4, s5, s6, s7, s8, s9, s10, .val z11, .val z12, s13, s14, s15, s16, s17, s18, s19, .val z20, .val z21, .val (.int v), s23, s24, s25] := by
  rcases h with rfl | ⟨w, rfl, hw⟩
  · rfl
  · cases w <;> first | rfl | (simp [Value.category] at hw)
set_option maxRecDepth 65536 in
set_option maxHeartbeats 40000000 in
theorem tnE_1 {p : Program} {l : Launch} {e : Env} {R : Room} {s : State} {m : MethodId} {args : Array Value} {below : List Frame} {meth : Method} {c : Code} {T0 : State} {locs : List Loc} {cells slots : Nat} {Z : State} {a0 : Array Value} {h0 : Heap} (s0 : Slot) (s1 : Slot) (s2 : Slot) (s3 : Slot) (s4 : Slot) (s5 : Slot) (s6 : Slot) (s7 : Slot) (s8 : Slot) (s9 : Slot) (s10 : Slot) (i11 : Int32) (i12 : Int32) (s13 : Slot) (s14 : Slot) (s15 : Slot) (s16 : Slot) (s17 : Slot) (s18 : Slot) (s19 : Slot) (i20 : Int32) (s21 : Slot) (s22 : Slot) (s23 : Slot) (s24 : Slot) (s25 : Slot)
    (X0 : Stand p l e R s m args below meth c T0 locs cells slots) (hx : p.tables.exec = Jvm.exec) (hZ : Z.Warmed39 s.vm) (hw : ∀ d ∈ tables_1, d.before a0 Z = true) (hby : c.code = code) (hml : c.maxLocals = 26) (hown : s.vm.findClass "com/example/sectionary/sectionary/tables/LongKeyIntMapGrowValuesPinLaw" = some m.cls) (e0 : T0.heap = h0) (hs21 : One s21) (hs22 : One s22) (hc163 : ¬ (i20 = (0 : Int32))) (hc180 : i20 = (1 : Int32)) :
    ∃ (T' : State), Stand p l e R s m args below meth c T' locs cells slots ∧ T'.heap = h0 ∧
      ∀ target, Steps p.tables e below (T'.setTop (mkF m 270 #[s0, s1, s2, s3, s4, s5, s6, s7, s8, s9, s10, .val (.int i11), .val (.int i12), s13, s14, s15, s16, s17, s18, s19, .val (.int i20), .val (.int i12), .val (.int i11), s23, s24, s25] [])) target → Steps p.tables e below (T0.setTop (mkF m 161 #[s0, s1, s2, s3, s4, s5, s6, s7, s8, s9, s10, .val (.int i11), .val (.int i12), s13, s14, s15, s16, s17, s18, s19, .val (.int i20), s21, s22, s23, s24, s25] [])) target := by
  refine ⟨T0, X0, e0, fun target kt => ?_⟩
  show Steps p.tables e below (T0.setTop (mkF m 161 #[s0, s1, s2, s3, s4, s5, s6, s7, s8, s9, s10, .val (.int i11), .val (.int i12), s13, s14, s15, s16, s17, s18, s19, .val (.int i20), s21, s22, s23, s24, s25] [])) _
  refine XS.iload X0.here hx rfl (hb hby at_161) rfl ?_
  show Steps p.tables e below (T0.setTop (mkF m 163 #[s0, s1, s2, s3, s4, s5, s6, s7, s8, s9, s10, .val (.int i11), .val (.int i12), s13, s14, s15, s16, s17, s18, s19, .val (.int i20), s21, s22, s23, s24, s25] [(.int i20)])) _
  refine XS.ifYes X0.here hx rfl (pc0 := 163) (pc' := 177) rfl (hb hby at_163) rfl ((if0 _ _).trans (feq hc163).2) (by decide) (by decide) ?_
  show Steps p.tables e below (T0.setTop (mkF m 177 #[s0, s1, s2, s3, s4, s5, s6, s7, s8, s9, s10, .val (.int i11), .val (.int i12), s13, s14, s15, s16, s17, s18, s19, .val (.int i20), s21, s22, s23, s24, s25] [])) _
  refine XS.iload X0.here hx rfl (hb hby at_177) rfl ?_
  show Steps p.tables e below (T0.setTop (mkF m 179 #[s0, s1, s2, s3, s4, s5, s6, s7, s8, s9, s10, .val (.int i11), .val (.int i12), s13, s14, s15, s16, s17, s18, s19, .val (.int i20), s21, s22, s23, s24, s25] [(.int i20)])) _
  refine XS.iconst X0.here hx rfl (hb hby at_179) ?_
  show Steps p.tables e below (T0.setTop (mkF m 180 #[s0, s1, s2, s3, s4, s5, s6, s7, s8, s9, s10, .val (.int i11), .val (.int i12), s13, s14, s15, s16, s17, s18, s19, .val (.int i20), s21, s22, s23, s24, s25] [(.int (1 : Int32)), (.int i20)])) _
  refine XS.icmpNo X0.here hx rfl (hb hby at_180) rfl (teq hc180).2 ?_
  show Steps p.tables e below (T0.setTop (mkF m 183 #[s0, s1, s2, s3, s4, s5, s6, s7, s8, s9, s10, .val (.int i11), .val (.int i12), s13, s14, s15, s16, s17, s18, s19, .val (.int i20), s21, s22, s23, s24, s25] [])) _
  refine XS.iload X0.here hx rfl (hb hby at_183) rfl ?_
  show Steps p.tables e below (T0.setTop (mkF m 185 #[s0, s1, s2, s3, s4, s5, s6, s7, s8, s9, s10, .val (.int i11), .val (.int i12), s13, s14, s15, s16, s17, s18, s19, .val (.int i20), s21, s22, s23, s24, s25] [(.int i12)])) _
  refine XS.istore X0.here hx rfl (hb hby at_185) rfl (l' := #[s0, s1, s2, s3, s4, s5, s6, s7, s8, s9, s10, .val (.int i11), .val (.int i12), s13, s14, s15, s16, s17, s18, s19, .val (.int i20), .val (.int i12), s22, s23, s24, s25]) (os_tnE_1_185 hs21) ?_
  show Steps p.tables e below (T0.setTop (mkF m 187 #[s0, s1, s2, s3, s4, s5, s6, s7, s8, s9, s10, .val (.int i11), .val (.int i12), s13, s14, s15, s16, s17, s18, s19, .val (.int i20), .val (.int i12), s22, s23, s24, s25] [])) _
  refine XS.iload X0.here hx rfl (hb hby at_187) rfl ?_
  show Steps p.tables e below (T0.setTop (mkF m 189 #[s0, s1, s2, s3, s4, s5, s6, s7, s8, s9, s10, .val (.int i11), .val (.int i12), s13, s14, s15, s16, s17, s18, s19, .val (.int i20), .val (.int i12), s22, s23, s24, s25] [(.int i11)])) _
  refine XS.istore X0.here hx rfl (hb hby at_189) rfl (l' := #[s0, s1, s2, s3, s4, s5, s6, s7, s8, s9, s10, .val (.int i11), .val (.int i12), s13, s14, s15, s16, s17, s18, s19, .val (.int i20), .val (.int i12), .val (.int i11), s23, s24, s25]) (os_tnE_1_189 hs22) ?_
  show Steps p.tables e below (T0.setTop (mkF m 191 #[s0, s1, s2, s3, s4, s5, s6, s7, s8, s9, s10, .val (.int i11), .val (.int i12), s13, s14, s15, s16, s17, s18, s19, .val (.int i20), .val (.int i12), .val (.int i11), s23, s24, s25] [])) _
  refine XS.goto X0.here hx rfl (pc0 := 191) (pc' := 270) rfl (hb hby at_191) (by decide) (by decide) ?_
  exact kt
theorem os_tnE_2_202 {s0 : Slot} {s1 : Slot} {s2 : Slot} {s3 : Slot} {s4 : Slot} {s5 : Slot} {s6 : Slot} {s7 : Slot} {s8 : Slot} {s9 : Slot} {s10 : Slot} {z11 : Value} {s12 : Slot} {s13 : Slot} {s14 : Slot} {s15 : Slot} {s16 : Slot} {s17 : Slot} {s18 : Slot} {z19 : Value} {z20 : Value} {s21 : Slot} {s22 : Slot} {s23 : Slot} {s24 : Slot} {s25 : Slot} {v : Int32} (h : One s21) : storeLocals #[s0, s1, s2, s3, s4, s5, s6, s7, s8, s9, s10, .val z11, s12, s13, s14, s15, s16, s17, s18, .val z19, .val z20, s21, s22, s23, s24, s25] 21 (.int v) = some #[s0, s1, s2, s3, s4, s5, s6, s7, s8, s9, s10, .val z11, s12, s13, s14, s15, s16, s17, s18, .val z19, .val z20, .val (.int v), s22, s23, s24, s25] := by
  rcases h with rfl | ⟨w, rfl, hw⟩
  · rfl
  · cases w <;> first | rfl | (simp [Value.category] at hw)
theorem os_tnE_2_206 {s0 : Slot} {s1 : Slot} {s2 : Slot} {s3 : Slot} {s4 : Slot} {s5 : Slot} {s6 : Slot} {s7 : Slot} {s8 : Slot} {s9 : Slot} {s10 : Slot} {z11 : Value} {s12 : Slot} {s13 : Slot} {s14 : Slot} {s15 : Slot} {s16 : Slot} {s17 : Slot} {s18 : Slot} {z19 : Value} {z20 : Value} {z21 : Value} {s22 : Slot} {s23 : Slot} {s24 : Slot} {s25 : Slot} {v : Int32} (h : One s22) : storeLocals #[s0, s1, s2, s3, s4, s5, s6, s7, s8, s9, s10, .val z11, s12, s13, s14, s15, s16, s17, s18, .val z19, .val z20, .val z21, s22, s23, s24, s25] 22 (.int v) = some #[s0, s1, s2, s3, s4, s5, s6, s7, s8, s9, s10, .val z11, s12, s13, s14, s15, s16, s17, s18, .val z19, .val z20, .val z21, .val (.int v), s23, s24, s25] := by
  rcases h with rfl | ⟨w, rfl, hw⟩
  · rfl
  · cases w <;> first | rfl | (simp [Value.category] at hw)
set_option maxRecDepth 65536 in
set_option maxHeartbeats 40000000 in
theorem tnE_2 {p : Program} {l : Launch} {e : Env} {R : Room} {s : State} {m : MethodId} {args : Array Value} {below : List Frame} {meth : Method} {c : Code} {T0 : State} {locs : List Loc} {cells slots : Nat} {Z : State} {a0 : Array Value} {h0 : Heap} (s0 : Slot) (s1 : Slot) (s2 : Slot) (s3 : Slot) (s4 : Slot) (s5 : Slot) (s6 : Slot) (s7 : Slot) (s8 : Slot) (s9 : Slot) (s10 : Slot) (i11 : Int32) (s12 : Slot) (s13 : Slot) (s14 : Slot) (s15 : Slot) (s16 : Slot) (s17 : Slot) (s18 : Slot) (i19 : Int32) (i20 : Int32) (s21 : Slot) (s22 : Slot) (s23 : Slot) (s24 : Slot) (s25 : Slot)
    (X0 : Stand p l e R s m args below meth c T0 locs cells slots) (hx : p.tables.exec = Jvm.exec) (hZ : Z.Warmed39 s.vm) (hw : ∀ d ∈ tables_1, d.before a0 Z = true) (hby : c.code = code) (hml : c.maxLocals = 26) (hown : s.vm.findClass "com/example/sectionary/sectionary/tables/LongKeyIntMapGrowValuesPinLaw" = some m.cls) (e0 : T0.heap = h0) (hs21 : One s21) (hs22 : One s22) (hc163 : ¬ (i20 = (0 : Int32))) (hc180 : ¬ (i20 = (1 : Int32))) (hc197 : i20 = (2 : Int32)) :
    ∃ (T' : State), Stand p l e R s m args below meth c T' locs cells slots ∧ T'.heap = h0 ∧
      ∀ target, Steps p.tables e below (T'.setTop (mkF m 270 #[s0, s1, s2, s3, s4, s5, s6, s7, s8, s9, s10, .val (.int i11), s12, s13, s14, s15, s16, s17, s18, .val (.int i19), .val (.int i20), .val (.int i11), .val (.int i19), s23, s24, s25] [])) target → Steps p.tables e below (T0.setTop (mkF m 161 #[s0, s1, s2, s3, s4, s5, s6, s7, s8, s9, s10, .val (.int i11), s12, s13, s14, s15, s16, s17, s18, .val (.int i19), .val (.int i20), s21, s22, s23, s24, s25] [])) target := by
  refine ⟨T0, X0, e0, fun target kt => ?_⟩
  show Steps p.tables e below (T0.setTop (mkF m 161 #[s0, s1, s2, s3, s4, s5, s6, s7, s8, s9, s10, .val (.int i11), s12, s13, s14, s15, s16, s17, s18, .val (.int i19), .val (.int i20), s21, s22, s23, s24, s25] [])) _
  refine XS.iload X0.here hx rfl (hb hby at_161) rfl ?_
  show Steps p.tables e below (T0.setTop (mkF m 163 #[s0, s1, s2, s3, s4, s5, s6, s7, s8, s9, s10, .val (.int i11), s12, s13, s14, s15, s16, s17, s18, .val (.int i19), .val (.int i20), s21, s22, s23, s24, s25] [(.int i20)])) _
  refine XS.ifYes X0.here hx rfl (pc0 := 163) (pc' := 177) rfl (hb hby at_163) rfl ((if0 _ _).trans (feq hc163).2) (by decide) (by decide) ?_
  show Steps p.tables e below (T0.setTop (mkF m 177 #[s0, s1, s2, s3, s4, s5, s6, s7, s8, s9, s10, .val (.int i11), s12, s13, s14, s15, s16, s17, s18, .val (.int i19), .val (.int i20), s21, s22, s23, s24, s25] [])) _
  refine XS.iload X0.here hx rfl (hb hby at_177) rfl ?_
  show Steps p.tables e below (T0.setTop (mkF m 179 #[s0, s1, s2, s3, s4, s5, s6, s7, s8, s9, s10, .val (.int i11), s12, s13, s14, s15, s16, s17, s18, .val (.int i19), .val (.int i20), s21, s22, s23, s24, s25] [(.int i20)])) _
  refine XS.iconst X0.here hx rfl (hb hby at_179) ?_
  show Steps p.tables e below (T0.setTop (mkF m 180 #[s0, s1, s2, s3, s4, s5, s6, s7, s8, s9, s10, .val (.int i11), s12, s13, s14, s15, s16, s17, s18, .val (.int i19), .val (.int i20), s21, s22, s23, s24, s25] [(.int (1 : Int32)), (.int i20)])) _
  refine XS.icmpYes X0.here hx rfl (pc0 := 180) (pc' := 194) rfl (hb hby at_180) rfl (feq hc180).2 (by decide) (by decide) ?_
  show Steps p.tables e below (T0.setTop (mkF m 194 #[s0, s1, s2, s3, s4, s5, s6, s7, s8, s9, s10, .val (.int i11), s12, s13, s14, s15, s16, s17, s18, .val (.int i19), .val (.int i20), s21, s22, s23, s24, s25] [])) _
  refine XS.iload X0.here hx rfl (hb hby at_194) rfl ?_
  show Steps p.tables e below (T0.setTop (mkF m 196 #[s0, s1, s2, s3, s4, s5, s6, s7, s8, s9, s10, .val (.int i11), s12, s13, s14, s15, s16, s17, s18, .val (.int i19), .val (.int i20), s21, s22, s23, s24, s25] [(.int i20)])) _
  refine XS.iconst X0.here hx rfl (hb hby at_196) ?_
  show Steps p.tables e below (T0.setTop (mkF m 197 #[s0, s1, s2, s3, s4, s5, s6, s7, s8, s9, s10, .val (.int i11), s12, s13, s14, s15, s16, s17, s18, .val (.int i19), .val (.int i20), s21, s22, s23, s24, s25] [(.int (2 : Int32)), (.int i20)])) _
  refine XS.icmpNo X0.here hx rfl (hb hby at_197) rfl (teq hc197).2 ?_
  show Steps p.tables e below (T0.setTop (mkF m 200 #[s0, s1, s2, s3, s4, s5, s6, s7, s8, s9, s10, .val (.int i11), s12, s13, s14, s15, s16, s17, s18, .val (.int i19), .val (.int i20), s21, s22, s23, s24, s25] [])) _
  refine XS.iload X0.here hx rfl (hb hby at_200) rfl ?_
  show Steps p.tables e below (T0.setTop (mkF m 202 #[s0, s1, s2, s3, s4, s5, s6, s7, s8, s9, s10, .val (.int i11), s12, s13, s14, s15, s16, s17, s18, .val (.int i19), .val (.int i20), s21, s22, s23, s24, s25] [(.int i11)])) _
  refine XS.istore X0.here hx rfl (hb hby at_202) rfl (l' := #[s0, s1, s2, s3, s4, s5, s6, s7, s8, s9, s10, .val (.int i11), s12, s13, s14, s15, s16, s17, s18, .val (.int i19), .val (.int i20), .val (.int i11), s22, s23, s24, s25]) (os_tnE_2_202 hs21) ?_
  show Steps p.tables e below (T0.setTop (mkF m 204 #[s0, s1, s2, s3, s4, s5, s6, s7, s8, s9, s10, .val (.int i11), s12, s13, s14, s15, s16, s17, s18, .val (.int i19), .val (.int i20), .val (.int i11), s22, s23, s24, s25] [])) _
  refine XS.iload X0.here hx rfl (hb hby at_204) rfl ?_
  show Steps p.tables e below (T0.setTop (mkF m 206 #[s0, s1, s2, s3, s4, s5, s6, s7, s8, s9, s10, .val (.int i11), s12, s13, s14, s15, s16, s17, s18, .val (.int i19), .val (.int i20), .val (.int i11), s22, s23, s24, s25] [(.int i19)])) _
  refine XS.istore X0.here hx rfl (hb hby at_206) rfl (l' := #[s0, s1, s2, s3, s4, s5, s6, s7, s8, s9, s10, .val (.int i11), s12, s13, s14, s15, s16, s17, s18, .val (.int i19), .val (.int i20), .val (.int i11), .val (.int i19), s23, s24, s25]) (os_tnE_2_206 hs22) ?_
  show Steps p.tables e below (T0.setTop (mkF m 208 #[s0, s1, s2, s3, s4, s5, s6, s7, s8, s9, s10, .val (.int i11), s12, s13, s14, s15, s16, s17, s18, .val (.int i19), .val (.int i20), .val (.int i11), .val (.int i19), s23, s24, s25] [])) _
  refine XS.goto X0.here hx rfl (pc0 := 208) (pc' := 270) rfl (hb hby at_208) (by decide) (by decide) ?_
  exact kt
theorem os_tnE_3_219 {s0 : Slot} {s1 : Slot} {s2 : Slot} {s3 : Slot} {s4 : Slot} {s5 : Slot} {s6 : Slot} {s7 : Slot} {s8 : Slot} {s9 : Slot} {s10 : Slot} {s11 : Slot} {z12 : Value} {s13 : Slot} {s14 : Slot} {s15 : Slot} {s16 : Slot} {z17 : Value} {s18 : Slot} {s19 : Slot} {z20 : Value} {s21 : Slot} {s22 : Slot} {s23 : Slot} {s24 : Slot} {s25 : Slot} {v : Int32} (h : One s21) : storeLocals #[s0, s1, s2, s3, s4, s5, s6, s7, s8, s9, s10, s11, .val z12, s13, s14, s15, s16, .val z17, s18, s19, .val z20, s21, s22, s23, s24, s25] 21 (.int v) = some #[s0, s1, s2, s3, s4, s5, s6, s7, s8, s9, s10, s11, .val z12, s13, s14, s15, s16, .val z17, s18, s19, .val z20, .val (.int v), s22, s23, s24, s25] := by
  rcases h with rfl | ⟨w, rfl, hw⟩
  · rfl
  · cases w <;> first | rfl | (simp [Value.category] at hw)
theorem os_tnE_3_223 {s0 : Slot} {s1 : Slot} {s2 : Slot} {s3 : Slot} {s4 : Slot} {s5 : Slot} {s6 : Slot} {s7 : Slot} {s8 : Slot} {s9 : Slot} {s10 : Slot} {s11 : Slot} {z12 : Value} {s13 : Slot} {s14 : Slot} {s15 : Slot} {s16 : Slot} {z17 : Value} {s18 : Slot} {s19 : Slot} {z20 : Value} {z21 : Value} {s22 : Slot} {s23 : Slot} {s24 : Slot} {s25 : Slot} {v : Int32} (h : One s22) : storeLocals #[s0, s1, s2, s3, s4, s5, s6, s7, s8, s9, s10, s11, .val z12, s13, s14, s15, s16, .val z17, s18, s19, .val z20, .val z21, s22, s23, s24, s25] 22 (.int v) = some #[s0, s1, s2, s3, s4, s5, s6, s7, s8, s9, s10, s11, .val z12, s13, s14, s15, s16, .val z17, s18, s19, .val z20, .val z21, .val (.int v), s23, s24, s25] := by
  rcases h with rfl | ⟨w, rfl, hw⟩
  · rfl
  · cases w <;> first | rfl | (simp [Value.category] at hw)
set_option maxRecDepth 65536 in
set_option maxHeartbeats 40000000 in
theorem tnE_3 {p : Program} {l : Launch} {e : Env} {R : Room} {s : State} {m : MethodId} {args : Array Value} {below : List Frame} {meth : Method} {c : Code} {T0 : State} {locs : List Loc} {cells slots : Nat} {Z : State} {a0 : Array Value} {h0 : Heap} (s0 : Slot) (s1 : Slot) (s2 : Slot) (s3 : Slot) (s4 : Slot) (s5 : Slot) (s6 : Slot) (s7 : Slot) (s8 : Slot) (s9 : Slot) (s10 : Slot) (s11 : Slot) (i12 : Int32) (s13 : Slot) (s14 : Slot) (s15 : Slot) (s16 : Slot) (i17 : Int32) (s18 : Slot) (s19 : Slot) (i20 : Int32) (s21 : Slot) (s22 : Slot) (s23 : Slot) (s24 : Slot) (s25 : Slot)
    (X0 : Stand p l e R s m args below meth c T0 locs cells slots) (hx : p.tables.exec = Jvm.exec) (hZ : Z.Warmed39 s.vm) (hw : ∀ d ∈ tables_1, d.before a0 Z = true) (hby : c.code = code) (hml : c.maxLocals = 26) (hown : s.vm.findClass "com/example/sectionary/sectionary/tables/LongKeyIntMapGrowValuesPinLaw" = some m.cls) (e0 : T0.heap = h0) (hs21 : One s21) (hs22 : One s22) (hc163 : ¬ (i20 = (0 : Int32))) (hc180 : ¬ (i20 = (1 : Int32))) (hc197 : ¬ (i20 = (2 : Int32))) (hc214 : i20 = (3 : Int32)) :
    ∃ (T' : State), Stand p l e R s m args below meth c T' locs cells slots ∧ T'.heap = h0 ∧
      ∀ target, Steps p.tables e below (T'.setTop (mkF m 270 #[s0, s1, s2, s3, s4, s5, s6, s7, s8, s9, s10, s11, .val (.int i12), s13, s14, s15, s16, .val (.int i17), s18, s19, .val (.int i20), .val (.int i17), .val (.int i12), s23, s24, s25] [])) target → Steps p.tables e below (T0.setTop (mkF m 161 #[s0, s1, s2, s3, s4, s5, s6, s7, s8, s9, s10, s11, .val (.int i12), s13, s14, s15, s16, .val (.int i17), s18, s19, .val (.int i20), s21, s22, s23, s24, s25] [])) target := by
  refine ⟨T0, X0, e0, fun target kt => ?_⟩
  show Steps p.tables e below (T0.setTop (mkF m 161 #[s0, s1, s2, s3, s4, s5, s6, s7, s8, s9, s10, s11, .val (.int i12), s13, s14, s15, s16, .val (.int i17), s18, s19, .val (.int i20), s21, s22, s23, s24, s25] [])) _
  refine XS.iload X0.here hx rfl (hb hby at_161) rfl ?_
  show Steps p.tables e below (T0.setTop (mkF m 163 #[s0, s1, s2, s3, s4, s5, s6, s7, s8, s9, s10, s11, .val (.int i12), s13, s14, s15, s16, .val (.int i17), s18, s19, .val (.int i20), s21, s22, s23, s24, s25] [(.int i20)])) _
  refine XS.ifYes X0.here hx rfl (pc0 := 163) (pc' := 177) rfl (hb hby at_163) rfl ((if0 _ _).trans (feq hc163).2) (by decide) (by decide) ?_
  show Steps p.tables e below (T0.setTop (mkF m 177 #[s0, s1, s2, s3, s4, s5, s6, s7, s8, s9, s10, s11, .val (.int i12), s13, s14, s15, s16, .val (.int i17), s18, s19, .val (.int i20), s21, s22, s23, s24, s25] [])) _
  refine XS.iload X0.here hx rfl (hb hby at_177) rfl ?_
  show Steps p.tables e below (T0.setTop (mkF m 179 #[s0, s1, s2, s3, s4, s5, s6, s7, s8, s9, s10, s11, .val (.int i12), s13, s14, s15, s16, .val (.int i17), s18, s19, .val (.int i20), s21, s22, s23, s24, s25] [(.int i20)])) _
  refine XS.iconst X0.here hx rfl (hb hby at_179) ?_
  show Steps p.tables e below (T0.setTop (mkF m 180 #[s0, s1, s2, s3, s4, s5, s6, s7, s8, s9, s10, s11, .val (.int i12), s13, s14, s15, s16, .val (.int i17), s18, s19, .val (.int i20), s21, s22, s23, s24, s25] [(.int (1 : Int32)), (.int i20)])) _
  refine XS.icmpYes X0.here hx rfl (pc0 := 180) (pc' := 194) rfl (hb hby at_180) rfl (feq hc180).2 (by decide) (by decide) ?_
  show Steps p.tables e below (T0.setTop (mkF m 194 #[s0, s1, s2, s3, s4, s5, s6, s7, s8, s9, s10, s11, .val (.int i12), s13, s14, s15, s16, .val (.int i17), s18, s19, .val (.int i20), s21, s22, s23, s24, s25] [])) _
  refine XS.iload X0.here hx rfl (hb hby at_194) rfl ?_
  show Steps p.tables e below (T0.setTop (mkF m 196 #[s0, s1, s2, s3, s4, s5, s6, s7, s8, s9, s10, s11, .val (.int i12), s13, s14, s15, s16, .val (.int i17), s18, s19, .val (.int i20), s21, s22, s23, s24, s25] [(.int i20)])) _
  refine XS.iconst X0.here hx rfl (hb hby at_196) ?_
  show Steps p.tables e below (T0.setTop (mkF m 197 #[s0, s1, s2, s3, s4, s5, s6, s7, s8, s9, s10, s11, .val (.int i12), s13, s14, s15, s16, .val (.int i17), s18, s19, .val (.int i20), s21, s22, s23, s24, s25] [(.int (2 : Int32)), (.int i20)])) _
  refine XS.icmpYes X0.here hx rfl (pc0 := 197) (pc' := 211) rfl (hb hby at_197) rfl (feq hc197).2 (by decide) (by decide) ?_
  show Steps p.tables e below (T0.setTop (mkF m 211 #[s0, s1, s2, s3, s4, s5, s6, s7, s8, s9, s10, s11, .val (.int i12), s13, s14, s15, s16, .val (.int i17), s18, s19, .val (.int i20), s21, s22, s23, s24, s25] [])) _
  refine XS.iload X0.here hx rfl (hb hby at_211) rfl ?_
  show Steps p.tables e below (T0.setTop (mkF m 213 #[s0, s1, s2, s3, s4, s5, s6, s7, s8, s9, s10, s11, .val (.int i12), s13, s14, s15, s16, .val (.int i17), s18, s19, .val (.int i20), s21, s22, s23, s24, s25] [(.int i20)])) _
  refine XS.iconst X0.here hx rfl (hb hby at_213) ?_
  show Steps p.tables e below (T0.setTop (mkF m 214 #[s0, s1, s2, s3, s4, s5, s6, s7, s8, s9, s10, s11, .val (.int i12), s13, s14, s15, s16, .val (.int i17), s18, s19, .val (.int i20), s21, s22, s23, s24, s25] [(.int (3 : Int32)), (.int i20)])) _
  refine XS.icmpNo X0.here hx rfl (hb hby at_214) rfl (teq hc214).2 ?_
  show Steps p.tables e below (T0.setTop (mkF m 217 #[s0, s1, s2, s3, s4, s5, s6, s7, s8, s9, s10, s11, .val (.int i12), s13, s14, s15, s16, .val (.int i17), s18, s19, .val (.int i20), s21, s22, s23, s24, s25] [])) _
  refine XS.iload X0.here hx rfl (hb hby at_217) rfl ?_
  show Steps p.tables e below (T0.setTop (mkF m 219 #[s0, s1, s2, s3, s4, s5, s6, s7, s8, s9, s10, s11, .val (.int i12), s13, s14, s15, s16, .val (.int i17), s18, s19, .val (.int i20), s21, s22, s23, s24, s25] [(.int i17)])) _
  refine XS.istore X0.here hx rfl (hb hby at_219) rfl (l' := #[s0, s1, s2, s3, s4, s5, s6, s7, s8, s9, s10, s11, .val (.int i12), s13, s14, s15, s16, .val (.int i17), s18, s19, .val (.int i20), .val (.int i17), s22, s23, s24, s25]) (os_tnE_3_219 hs21) ?_
  show Steps p.tables e below (T0.setTop (mkF m 221 #[s0, s1, s2, s3, s4, s5, s6, s7, s8, s9, s10, s11, .val (.int i12), s13, s14, s15, s16, .val (.int i17), s18, s19, .val (.int i20), .val (.int i17), s22, s23, s24, s25] [])) _
  refine XS.iload X0.here hx rfl (hb hby at_221) rfl ?_
  show Steps p.tables e below (T0.setTop (mkF m 223 #[s0, s1, s2, s3, s4, s5, s6, s7, s8, s9, s10, s11, .val (.int i12), s13, s14, s15, s16, .val (.int i17), s18, s19, .val (.int i20), .val (.int i17), s22, s23, s24, s25] [(.int i12)])) _
  refine XS.istore X0.here hx rfl (hb hby at_223) rfl (l' := #[s0, s1, s2, s3, s4, s5, s6, s7, s8, s9, s10, s11, .val (.int i12), s13, s14, s15, s16, .val (.int i17), s18, s19, .val (.int i20), .val (.int i17), .val (.int i12), s23, s24, s25]) (os_tnE_3_223 hs22) ?_
  show Steps p.tables e below (T0.setTop (mkF m 225 #[s0, s1, s2, s3, s4, s5, s6, s7, s8, s9, s10, s11, .val (.int i12), s13, s14, s15, s16, .val (.int i17), s18, s19, .val (.int i20), .val (.int i17), .val (.int i12), s23, s24, s25] [])) _
  refine XS.goto X0.here hx rfl (pc0 := 225) (pc' := 270) rfl (hb hby at_225) (by decide) (by decide) ?_
  exact kt
theorem os_tnE_4_236 {s0 : Slot} {s1 : Slot} {s2 : Slot} {s3 : Slot} {s4 : Slot} {s5 : Slot} {s6 : Slot} {s7 : Slot} {s8 : Slot} {s9 : Slot} {s10 : Slot} {s11 : Slot} {z12 : Value} {s13 : Slot} {s14 : Slot} {s15 : Slot} {s16 : Slot} {s17 : Slot} {s18 : Slot} {z19 : Value} {z20 : Value} {s21 : Slot} {s22 : Slot} {s23 : Slot} {s24 : Slot} {s25 : Slot} {v : Int32} (h : One s21) : storeLocals #[s0, s1, s2, s3, s4, s5, s6, s7, s8, s9, s10, s11, .val z12, s13, s14, s15, s16, s17, s18, .val z19, .val z20, s21, s22, s23, s24, s25] 21 (.int v) = some #[s0, s1, s2, s3, s4, s5, s6, s7, s8, s9, s10, s11, .val z12, s13, s14, s15, s16, s17, s18, .val z19, .val z20, .val (.int v), s22, s23, s24, s25] := by
  rcases h with rfl | ⟨w, rfl, hw⟩
  · rfl
  · cases w <;> first | rfl | (simp [Value.category] at hw)
theorem os_tnE_4_240 {s0 : Slot} {s1 : Slot} {s2 : Slot} {s3 : Slot} {s4 : Slot} {s5 : Slot} {s6 : Slot} {s7 : Slot} {s8 : Slot} {s9 : Slot} {s10 : Slot} {s11 : Slot} {z12 : Value} {s13 : Slot} {s14 : Slot} {s15 : Slot} {s16 : Slot} {s17 : Slot} {s18 : Slot} {z19 : Value} {z20 : Value} {z21 : Value} {s22 : Slot} {s23 : Slot} {s24 : Slot} {s25 : Slot} {v : Int32} (h : One s22) : storeLocals #[s0, s1, s2, s3, s4, s5, s6, s7, s8, s9, s10, s11, .val z12, s13, s14, s15, s16, s17, s18, .val z19, .val z20, .val z21, s22, s23, s24, s25] 22 (.int v) = some #[s0, s1, s2, s3, s4, s5, s6, s7, s8, s9, s10, s11, .val z12, s13, s14, s15, s16, s17, s18, .val z19, .val z20, .val z21, .val (.int v), s23, s24, s25] := by
  rcases h with rfl | ⟨w, rfl, hw⟩
  · rfl
  · cases w <;> first | rfl | (simp [Value.category] at hw)
set_option maxRecDepth 65536 in
set_option maxHeartbeats 40000000 in
theorem tnE_4 {p : Program} {l : Launch} {e : Env} {R : Room} {s : State} {m : MethodId} {args : Array Value} {below : List Frame} {meth : Method} {c : Code} {T0 : State} {locs : List Loc} {cells slots : Nat} {Z : State} {a0 : Array Value} {h0 : Heap} (s0 : Slot) (s1 : Slot) (s2 : Slot) (s3 : Slot) (s4 : Slot) (s5 : Slot) (s6 : Slot) (s7 : Slot) (s8 : Slot) (s9 : Slot) (s10 : Slot) (s11 : Slot) (i12 : Int32) (s13 : Slot) (s14 : Slot) (s15 : Slot) (s16 : Slot) (s17 : Slot) (s18 : Slot) (i19 : Int32) (i20 : Int32) (s21 : Slot) (s22 : Slot) (s23 : Slot) (s24 : Slot) (s25 : Slot)
    (X0 : Stand p l e R s m args below meth c T0 locs cells slots) (hx : p.tables.exec = Jvm.exec) (hZ : Z.Warmed39 s.vm) (hw : ∀ d ∈ tables_1, d.before a0 Z = true) (hby : c.code = code) (hml : c.maxLocals = 26) (hown : s.vm.findClass "com/example/sectionary/sectionary/tables/LongKeyIntMapGrowValuesPinLaw" = some m.cls) (e0 : T0.heap = h0) (hs21 : One s21) (hs22 : One s22) (hc163 : ¬ (i20 = (0 : Int32))) (hc180 : ¬ (i20 = (1 : Int32))) (hc197 : ¬ (i20 = (2 : Int32))) (hc214 : ¬ (i20 = (3 : Int32))) (hc231 : i20 = (4 : Int32)) :
    ∃ (T' : State), Stand p l e R s m args below meth c T' locs cells slots ∧ T'.heap = h0 ∧
      ∀ target, Steps p.tables e below (T'.setTop (mkF m 270 #[s0, s1, s2, s3, s4, s5, s6, s7, s8, s9, s10, s11, .val (.int i12), s13, s14, s15, s16, s17, s18, .val (.int i19), .val (.int i20), .val (.int i12), .val (.int i19), s23, s24, s25] [])) target → Steps p.tables e below (T0.setTop (mkF m 161 #[s0, s1, s2, s3, s4, s5, s6, s7, s8, s9, s10, s11, .val (.int i12), s13, s14, s15, s16, s17, s18, .val (.int i19), .val (.int i20), s21, s22, s23, s24, s25] [])) target := by
  refine ⟨T0, X0, e0, fun target kt => ?_⟩
  show Steps p.tables e below (T0.setTop (mkF m 161 #[s0, s1, s2, s3, s4, s5, s6, s7, s8, s9, s10, s11, .val (.int i12), s13, s14, s15, s16, s17, s18, .val (.int i19), .val (.int i20), s21, s22, s23, s24, s25] [])) _
  refine XS.iload X0.here hx rfl (hb hby at_161) rfl ?_
  show Steps p.tables e below (T0.setTop (mkF m 163 #[s0, s1, s2, s3, s4, s5, s6, s7, s8, s9, s10, s11, .val (.int i12), s13, s14, s15, s16, s17, s18, .val (.int i19), .val (.int i20), s21, s22, s23, s24, s25] [(.int i20)])) _
  refine XS.ifYes X0.here hx rfl (pc0 := 163) (pc' := 177) rfl (hb hby at_163) rfl ((if0 _ _).trans (feq hc163).2) (by decide) (by decide) ?_
  show Steps p.tables e below (T0.setTop (mkF m 177 #[s0, s1, s2, s3, s4, s5, s6, s7, s8, s9, s10, s11, .val (.int i12), s13, s14, s15, s16, s17, s18, .val (.int i19), .val (.int i20), s21, s22, s23, s24, s25] [])) _
  refine XS.iload X0.here hx rfl (hb hby at_177) rfl ?_
  show Steps p.tables e below (T0.setTop (mkF m 179 #[s0, s1, s2, s3, s4, s5, s6, s7, s8, s9, s10, s11, .val (.int i12), s13, s14, s15, s16, s17, s18, .val (.int i19), .val (.int i20), s21, s22, s23, s24, s25] [(.int i20)])) _
  refine XS.iconst X0.here hx rfl (hb hby at_179) ?_
  show Steps p.tables e below (T0.setTop (mkF m 180 #[s0, s1, s2, s3, s4, s5, s6, s7, s8, s9, s10, s11, .val (.int i12), s13, s14, s15, s16, s17, s18, .val (.int i19), .val (.int i20), s21, s22, s23, s24, s25] [(.int (1 : Int32)), (.int i20)])) _
  refine XS.icmpYes X0.here hx rfl (pc0 := 180) (pc' := 194) rfl (hb hby at_180) rfl (feq hc180).2 (by decide) (by decide) ?_
  show Steps p.tables e below (T0.setTop (mkF m 194 #[s0, s1, s2, s3, s4, s5, s6, s7, s8, s9, s10, s11, .val (.int i12), s13, s14, s15, s16, s17, s18, .val (.int i19), .val (.int i20), s21, s22, s23, s24, s25] [])) _
  refine XS.iload X0.here hx rfl (hb hby at_194) rfl ?_
  show Steps p.tables e below (T0.setTop (mkF m 196 #[s0, s1, s2, s3, s4, s5, s6, s7, s8, s9, s10, s11, .val (.int i12), s13, s14, s15, s16, s17, s18, .val (.int i19), .val (.int i20), s21, s22, s23, s24, s25] [(.int i20)])) _
  refine XS.iconst X0.here hx rfl (hb hby at_196) ?_
  show Steps p.tables e below (T0.setTop (mkF m 197 #[s0, s1, s2, s3, s4, s5, s6, s7, s8, s9, s10, s11, .val (.int i12), s13, s14, s15, s16, s17, s18, .val (.int i19), .val (.int i20), s21, s22, s23, s24, s25] [(.int (2 : Int32)), (.int i20)])) _
  refine XS.icmpYes X0.here hx rfl (pc0 := 197) (pc' := 211) rfl (hb hby at_197) rfl (feq hc197).2 (by decide) (by decide) ?_
  show Steps p.tables e below (T0.setTop (mkF m 211 #[s0, s1, s2, s3, s4, s5, s6, s7, s8, s9, s10, s11, .val (.int i12), s13, s14, s15, s16, s17, s18, .val (.int i19), .val (.int i20), s21, s22, s23, s24, s25] [])) _
  refine XS.iload X0.here hx rfl (hb hby at_211) rfl ?_
  show Steps p.tables e below (T0.setTop (mkF m 213 #[s0, s1, s2, s3, s4, s5, s6, s7, s8, s9, s10, s11, .val (.int i12), s13, s14, s15, s16, s17, s18, .val (.int i19), .val (.int i20), s21, s22, s23, s24, s25] [(.int i20)])) _
  refine XS.iconst X0.here hx rfl (hb hby at_213) ?_
  show Steps p.tables e below (T0.setTop (mkF m 214 #[s0, s1, s2, s3, s4, s5, s6, s7, s8, s9, s10, s11, .val (.int i12), s13, s14, s15, s16, s17, s18, .val (.int i19), .val (.int i20), s21, s22, s23, s24, s25] [(.int (3 : Int32)), (.int i20)])) _
  refine XS.icmpYes X0.here hx rfl (pc0 := 214) (pc' := 228) rfl (hb hby at_214) rfl (feq hc214).2 (by decide) (by decide) ?_
  show Steps p.tables e below (T0.setTop (mkF m 228 #[s0, s1, s2, s3, s4, s5, s6, s7, s8, s9, s10, s11, .val (.int i12), s13, s14, s15, s16, s17, s18, .val (.int i19), .val (.int i20), s21, s22, s23, s24, s25] [])) _
  refine XS.iload X0.here hx rfl (hb hby at_228) rfl ?_
  show Steps p.tables e below (T0.setTop (mkF m 230 #[s0, s1, s2, s3, s4, s5, s6, s7, s8, s9, s10, s11, .val (.int i12), s13, s14, s15, s16, s17, s18, .val (.int i19), .val (.int i20), s21, s22, s23, s24, s25] [(.int i20)])) _
  refine XS.iconst X0.here hx rfl (hb hby at_230) ?_
  show Steps p.tables e below (T0.setTop (mkF m 231 #[s0, s1, s2, s3, s4, s5, s6, s7, s8, s9, s10, s11, .val (.int i12), s13, s14, s15, s16, s17, s18, .val (.int i19), .val (.int i20), s21, s22, s23, s24, s25] [(.int (4 : Int32)), (.int i20)])) _
  refine XS.icmpNo X0.here hx rfl (hb hby at_231) rfl (teq hc231).2 ?_
  show Steps p.tables e below (T0.setTop (mkF m 234 #[s0, s1, s2, s3, s4, s5, s6, s7, s8, s9, s10, s11, .val (.int i12), s13, s14, s15, s16, s17, s18, .val (.int i19), .val (.int i20), s21, s22, s23, s24, s25] [])) _
  refine XS.iload X0.here hx rfl (hb hby at_234) rfl ?_
  show Steps p.tables e below (T0.setTop (mkF m 236 #[s0, s1, s2, s3, s4, s5, s6, s7, s8, s9, s10, s11, .val (.int i12), s13, s14, s15, s16, s17, s18, .val (.int i19), .val (.int i20), s21, s22, s23, s24, s25] [(.int i12)])) _
  refine XS.istore X0.here hx rfl (hb hby at_236) rfl (l' := #[s0, s1, s2, s3, s4, s5, s6, s7, s8, s9, s10, s11, .val (.int i12), s13, s14, s15, s16, s17, s18, .val (.int i19), .val (.int i20), .val (.int i12), s22, s23, s24, s25]) (os_tnE_4_236 hs21) ?_
  show Steps p.tables e below (T0.setTop (mkF m 238 #[s0, s1, s2, s3, s4, s5, s6, s7, s8, s9, s10, s11, .val (.int i12), s13, s14, s15, s16, s17, s18, .val (.int i19), .val (.int i20), .val (.int i12), s22, s23, s24, s25] [])) _
  refine XS.iload X0.here hx rfl (hb hby at_238) rfl ?_
  show Steps p.tables e below (T0.setTop (mkF m 240 #[s0, s1, s2, s3, s4, s5, s6, s7, s8, s9, s10, s11, .val (.int i12), s13, s14, s15, s16, s17, s18, .val (.int i19), .val (.int i20), .val (.int i12), s22, s23, s24, s25] [(.int i19)])) _
  refine XS.istore X0.here hx rfl (hb hby at_240) rfl (l' := #[s0, s1, s2, s3, s4, s5, s6, s7, s8, s9, s10, s11, .val (.int i12), s13, s14, s15, s16, s17, s18, .val (.int i19), .val (.int i20), .val (.int i12), .val (.int i19), s23, s24, s25]) (os_tnE_4_240 hs22) ?_
  show Steps p.tables e below (T0.setTop (mkF m 242 #[s0, s1, s2, s3, s4, s5, s6, s7, s8, s9, s10, s11, .val (.int i12), s13, s14, s15, s16, s17, s18, .val (.int i19), .val (.int i20), .val (.int i12), .val (.int i19), s23, s24, s25] [])) _
  refine XS.goto X0.here hx rfl (pc0 := 242) (pc' := 270) rfl (hb hby at_242) (by decide) (by decide) ?_
  exact kt
theorem os_tnE_5_253 {s0 : Slot} {s1 : Slot} {s2 : Slot} {s3 : Slot} {s4 : Slot} {s5 : Slot} {s6 : Slot} {s7 : Slot} {s8 : Slot} {s9 : Slot} {s10 : Slot} {z11 : Value} {s12 : Slot} {s13 : Slot} {s14 : Slot} {s15 : Slot} {s16 : Slot} {z17 : Value} {s18 : Slot} {s19 : Slot} {z20 : Value} {s21 : Slot} {s22 : Slot} {s23 : Slot} {s24 : Slot} {s25 : Slot} {v : Int32} (h : One s21) : storeLocals #[s0, s1, s2, s3, s4, s5, s6, s7, s8, s9, s10, .val z11, s12, s13, s14, s15, s16, .val z17, s18, s19, .val z20, s21, s22, s23, s24, s25] 21 (.int v) = some #[s0, s1, s2, s3, s4, s5, s6, s7, s8, s9, s10, .val z11, s12, s13, s14, s15, s16, .val z17, s18, s19, .val z20, .val (.int v), s22, s23, s24, s25] := by
  rcases h with rfl | ⟨w, rfl, hw⟩
  · rfl
  · cases w <;> first | rfl | (simp [Value.category] at hw)
theorem os_tnE_5_257 {s0 : Slot} {s1 : Slot} {s2 : Slot} {s3 : Slot} {s4 : Slot} {s5 : Slot} {s6 : Slot} {s7 : Slot} {s8 : Slot} {s9 : Slot} {s10 : Slot} {z11 : Value} {s12 : Slot} {s13 : Slot} {s14 : Slot} {s15 : Slot} {s16 : Slot} {z17 : Value} {s18 : Slot} {s19 : Slot} {z20 : Value} {z21 : Value} {s22 : Slot} {s23 : Slot} {s24 : Slot} {s25 : Slot} {v : Int32} (h : One s22) : storeLocals #[s0, s1, s2, s3, s4, s5, s6, s7, s8, s9, s10, .val z11, s12, s13, s14, s15, s16, .val z17, s18, s19, .val z20, .val z21, s22, s23, s24, s25] 22 (.int v) = some #[s0, s1, s2, s3, s4, s5, s6, s7, s8, s9, s10, .val z11, s12, s13, s14, s15, s16, .val z17, s18, s19, .val z20, .val z21, .val (.int v), s23, s24, s25] := by
  rcases h with rfl | ⟨w, rfl, hw⟩
  · rfl
  · cases w <;> first | rfl | (simp [Value.category] at hw)
set_option maxRecDepth 65536 in
set_option maxHeartbeats 40000000 in
theorem tnE_5 {p : Program} {l : Launch} {e : Env} {R : Room} {s : State} {m : MethodId} {args : Array Value} {below : List Frame} {meth : Method} {c : Code} {T0 : State} {locs : List Loc} {cells slots : Nat} {Z : State} {a0 : Array Value} {h0 : Heap} (s0 : Slot) (s1 : Slot) (s2 : Slot) (s3 : Slot) (s4 : Slot) (s5 : Slot) (s6 : Slot) (s7 : Slot) (s8 : Slot) (s9 : Slot) (s10 : Slot) (i11 : Int32) (s12 : Slot) (s13 : Slot) (s14 : Slot) (s15 : Slot) (s16 : Slot) (i17 : Int32) (s18 : Slot) (s19 : Slot) (i20 : Int32) (s21 : Slot) (s22 : Slot) (s23 : Slot) (s24 : Slot) (s25 : Slot)
    (X0 : Stand p l e R s m args below meth c T0 locs cells slots) (hx : p.tables.exec = Jvm.exec) (hZ : Z.Warmed39 s.vm) (hw : ∀ d ∈ tables_1, d.before a0 Z = true) (hby : c.code = code) (hml : c.maxLocals = 26) (hown : s.vm.findClass "com/example/sectionary/sectionary/tables/LongKeyIntMapGrowValuesPinLaw" = some m.cls) (e0 : T0.heap = h0) (hs21 : One s21) (hs22 : One s22) (hc163 : ¬ (i20 = (0 : Int32))) (hc180 : ¬ (i20 = (1 : Int32))) (hc197 : ¬ (i20 = (2 : Int32))) (hc214 : ¬ (i20 = (3 : Int32))) (hc231 : ¬ (i20 = (4 : Int32))) (hc248 : i20 = (5 : Int32)) :
    ∃ (T' : State), Stand p l e R s m args below meth c T' locs cells slots ∧ T'.heap = h0 ∧
      ∀ target, Steps p.tables e below (T'.setTop (mkF m 270 #[s0, s1, s2, s3, s4, s5, s6, s7, s8, s9, s10, .val (.int i11), s12, s13, s14, s15, s16, .val (.int i17), s18, s19, .val (.int i20), .val (.int i17), .val (.int i11), s23, s24, s25] [])) target → Steps p.tables e below (T0.setTop (mkF m 161 #[s0, s1, s2, s3, s4, s5, s6, s7, s8, s9, s10, .val (.int i11), s12, s13, s14, s15, s16, .val (.int i17), s18, s19, .val (.int i20), s21, s22, s23, s24, s25] [])) target := by
  refine ⟨T0, X0, e0, fun target kt => ?_⟩
  show Steps p.tables e below (T0.setTop (mkF m 161 #[s0, s1, s2, s3, s4, s5, s6, s7, s8, s9, s10, .val (.int i11), s12, s13, s14, s15, s16, .val (.int i17), s18, s19, .val (.int i20), s21, s22, s23, s24, s25] [])) _
  refine XS.iload X0.here hx rfl (hb hby at_161) rfl ?_
  show Steps p.tables e below (T0.setTop (mkF m 163 #[s0, s1, s2, s3, s4, s5, s6, s7, s8, s9, s10, .val (.int i11), s12, s13, s14, s15, s16, .val (.int i17), s18, s19, .val (.int i20), s21, s22, s23, s24, s25] [(.int i20)])) _
  refine XS.ifYes X0.here hx rfl (pc0 := 163) (pc' := 177) rfl (hb hby at_163) rfl ((if0 _ _).trans (feq hc163).2) (by decide) (by decide) ?_
  show Steps p.tables e below (T0.setTop (mkF m 177 #[s0, s1, s2, s3, s4, s5, s6, s7, s8, s9, s10, .val (.int i11), s12, s13, s14, s15, s16, .val (.int i17), s18, s19, .val (.int i20), s21, s22, s23, s24, s25] [])) _
  refine XS.iload X0.here hx rfl (hb hby at_177) rfl ?_
  show Steps p.tables e below (T0.setTop (mkF m 179 #[s0, s1, s2, s3, s4, s5, s6, s7, s8, s9, s10, .val (.int i11), s12, s13, s14, s15, s16, .val (.int i17), s18, s19, .val (.int i20), s21, s22, s23, s24, s25] [(.int i20)])) _
  refine XS.iconst X0.here hx rfl (hb hby at_179) ?_
  show Steps p.tables e below (T0.setTop (mkF m 180 #[s0, s1, s2, s3, s4, s5, s6, s7, s8, s9, s10, .val (.int i11), s12, s13, s14, s15, s16, .val (.int i17), s18, s19, .val (.int i20), s21, s22, s23, s24, s25] [(.int (1 : Int32)), (.int i20)])) _
  refine XS.icmpYes X0.here hx rfl (pc0 := 180) (pc' := 194) rfl (hb hby at_180) rfl (feq hc180).2 (by decide) (by decide) ?_
  show Steps p.tables e below (T0.setTop (mkF m 194 #[s0, s1, s2, s3, s4, s5, s6, s7, s8, s9, s10, .val (.int i11), s12, s13, s14, s15, s16, .val (.int i17), s18, s19, .val (.int i20), s21, s22, s23, s24, s25] [])) _
  refine XS.iload X0.here hx rfl (hb hby at_194) rfl ?_
  show Steps p.tables e below (T0.setTop (mkF m 196 #[s0, s1, s2, s3, s4, s5, s6, s7, s8, s9, s10, .val (.int i11), s12, s13, s14, s15, s16, .val (.int i17), s18, s19, .val (.int i20), s21, s22, s23, s24, s25] [(.int i20)])) _
  refine XS.iconst X0.here hx rfl (hb hby at_196) ?_
  show Steps p.tables e below (T0.setTop (mkF m 197 #[s0, s1, s2, s3, s4, s5, s6, s7, s8, s9, s10, .val (.int i11), s12, s13, s14, s15, s16, .val (.int i17), s18, s19, .val (.int i20), s21, s22, s23, s24, s25] [(.int (2 : Int32)), (.int i20)])) _
  refine XS.icmpYes X0.here hx rfl (pc0 := 197) (pc' := 211) rfl (hb hby at_197) rfl (feq hc197).2 (by decide) (by decide) ?_
  show Steps p.tables e below (T0.setTop (mkF m 211 #[s0, s1, s2, s3, s4, s5, s6, s7, s8, s9, s10, .val (.int i11), s12, s13, s14, s15, s16, .val (.int i17), s18, s19, .val (.int i20), s21, s22, s23, s24, s25] [])) _
  refine XS.iload X0.here hx rfl (hb hby at_211) rfl ?_
  show Steps p.tables e below (T0.setTop (mkF m 213 #[s0, s1, s2, s3, s4, s5, s6, s7, s8, s9, s10, .val (.int i11), s12, s13, s14, s15, s16, .val (.int i17), s18, s19, .val (.int i20), s21, s22, s23, s24, s25] [(.int i20)])) _
  refine XS.iconst X0.here hx rfl (hb hby at_213) ?_
  show Steps p.tables e below (T0.setTop (mkF m 214 #[s0, s1, s2, s3, s4, s5, s6, s7, s8, s9, s10, .val (.int i11), s12, s13, s14, s15, s16, .val (.int i17), s18, s19, .val (.int i20), s21, s22, s23, s24, s25] [(.int (3 : Int32)), (.int i20)])) _
  refine XS.icmpYes X0.here hx rfl (pc0 := 214) (pc' := 228) rfl (hb hby at_214) rfl (feq hc214).2 (by decide) (by decide) ?_
  show Steps p.tables e below (T0.setTop (mkF m 228 #[s0, s1, s2, s3, s4, s5, s6, s7, s8, s9, s10, .val (.int i11), s12, s13, s14, s15, s16, .val (.int i17), s18, s19, .val (.int i20), s21, s22, s23, s24, s25] [])) _
  refine XS.iload X0.here hx rfl (hb hby at_228) rfl ?_
  show Steps p.tables e below (T0.setTop (mkF m 230 #[s0, s1, s2, s3, s4, s5, s6, s7, s8, s9, s10, .val (.int i11), s12, s13, s14, s15, s16, .val (.int i17), s18, s19, .val (.int i20), s21, s22, s23, s24, s25] [(.int i20)])) _
  refine XS.iconst X0.here hx rfl (hb hby at_230) ?_
  show Steps p.tables e below (T0.setTop (mkF m 231 #[s0, s1, s2, s3, s4, s5, s6, s7, s8, s9, s10, .val (.int i11), s12, s13, s14, s15, s16, .val (.int i17), s18, s19, .val (.int i20), s21, s22, s23, s24, s25] [(.int (4 : Int32)), (.int i20)])) _
  refine XS.icmpYes X0.here hx rfl (pc0 := 231) (pc' := 245) rfl (hb hby at_231) rfl (feq hc231).2 (by decide) (by decide) ?_
  show Steps p.tables e below (T0.setTop (mkF m 245 #[s0, s1, s2, s3, s4, s5, s6, s7, s8, s9, s10, .val (.int i11), s12, s13, s14, s15, s16, .val (.int i17), s18, s19, .val (.int i20), s21, s22, s23, s24, s25] [])) _
  refine XS.iload X0.here hx rfl (hb hby at_245) rfl ?_
  show Steps p.tables e below (T0.setTop (mkF m 247 #[s0, s1, s2, s3, s4, s5, s6, s7, s8, s9, s10, .val (.int i11), s12, s13, s14, s15, s16, .val (.int i17), s18, s19, .val (.int i20), s21, s22, s23, s24, s25] [(.int i20)])) _
  refine XS.iconst X0.here hx rfl (hb hby at_247) ?_
  show Steps p.tables e below (T0.setTop (mkF m 248 #[s0, s1, s2, s3, s4, s5, s6, s7, s8, s9, s10, .val (.int i11), s12, s13, s14, s15, s16, .val (.int i17), s18, s19, .val (.int i20), s21, s22, s23, s24, s25] [(.int (5 : Int32)), (.int i20)])) _
  refine XS.icmpNo X0.here hx rfl (hb hby at_248) rfl (teq hc248).2 ?_
  show Steps p.tables e below (T0.setTop (mkF m 251 #[s0, s1, s2, s3, s4, s5, s6, s7, s8, s9, s10, .val (.int i11), s12, s13, s14, s15, s16, .val (.int i17), s18, s19, .val (.int i20), s21, s22, s23, s24, s25] [])) _
  refine XS.iload X0.here hx rfl (hb hby at_251) rfl ?_
  show Steps p.tables e below (T0.setTop (mkF m 253 #[s0, s1, s2, s3, s4, s5, s6, s7, s8, s9, s10, .val (.int i11), s12, s13, s14, s15, s16, .val (.int i17), s18, s19, .val (.int i20), s21, s22, s23, s24, s25] [(.int i17)])) _
  refine XS.istore X0.here hx rfl (hb hby at_253) rfl (l' := #[s0, s1, s2, s3, s4, s5, s6, s7, s8, s9, s10, .val (.int i11), s12, s13, s14, s15, s16, .val (.int i17), s18, s19, .val (.int i20), .val (.int i17), s22, s23, s24, s25]) (os_tnE_5_253 hs21) ?_
  show Steps p.tables e below (T0.setTop (mkF m 255 #[s0, s1, s2, s3, s4, s5, s6, s7, s8, s9, s10, .val (.int i11), s12, s13, s14, s15, s16, .val (.int i17), s18, s19, .val (.int i20), .val (.int i17), s22, s23, s24, s25] [])) _
  refine XS.iload X0.here hx rfl (hb hby at_255) rfl ?_
  show Steps p.tables e below (T0.setTop (mkF m 257 #[s0, s1, s2, s3, s4, s5, s6, s7, s8, s9, s10, .val (.int i11), s12, s13, s14, s15, s16, .val (.int i17), s18, s19, .val (.int i20), .val (.int i17), s22, s23, s24, s25] [(.int i11)])) _
  refine XS.istore X0.here hx rfl (hb hby at_257) rfl (l' := #[s0, s1, s2, s3, s4, s5, s6, s7, s8, s9, s10, .val (.int i11), s12, s13, s14, s15, s16, .val (.int i17), s18, s19, .val (.int i20), .val (.int i17), .val (.int i11), s23, s24, s25]) (os_tnE_5_257 hs22) ?_
  show Steps p.tables e below (T0.setTop (mkF m 259 #[s0, s1, s2, s3, s4, s5, s6, s7, s8, s9, s10, .val (.int i11), s12, s13, s14, s15, s16, .val (.int i17), s18, s19, .val (.int i20), .val (.int i17), .val (.int i11), s23, s24, s25] [])) _
  refine XS.goto X0.here hx rfl (pc0 := 259) (pc' := 270) rfl (hb hby at_259) (by decide) (by decide) ?_
  exact kt
theorem os_tnE_6_264 {s0 : Slot} {s1 : Slot} {s2 : Slot} {s3 : Slot} {s4 : Slot} {s5 : Slot} {s6 : Slot} {s7 : Slot} {s8 : Slot} {s9 : Slot} {s10 : Slot} {s11 : Slot} {s12 : Slot} {s13 : Slot} {s14 : Slot} {s15 : Slot} {s16 : Slot} {z17 : Value} {s18 : Slot} {z19 : Value} {z20 : Value} {s21 : Slot} {s22 : Slot} {s23 : Slot} {s24 : Slot} {s25 : Slot} {v : Int32} (h : One s21) : storeLocals #[s0, s1, s2, s3, s4, s5, s6, s7, s8, s9, s10, s11, s12, s13, s14, s15, s16, .val z17, s18, .val z19, .val z20, s21, s22, s23, s24, s25] 21 (.int v) = some #[s0, s1, s2, s3, s4, s5, s6, s7, s8, s9, s10, s11, s12, s13, s14, s15, s16, .val z17, s18, .val z19, .val z20, .val (.int v), s22, s23, s24, s25] := by
  rcases h with rfl | ⟨w, rfl, hw⟩
  · rfl
  · cases w <;> first | rfl | (simp [Value.category] at hw)
theorem os_tnE_6_268 {s0 : Slot} {s1 : Slot} {s2 : Slot} {s3 : Slot} {s4 : Slot} {s5 : Slot} {s6 : Slot} {s7 : Slot} {s8 : Slot} {s9 : Slot} {s10 : Slot} {s11 : Slot} {s12 : Slot} {s13 : Slot} {s14 : Slot} {s15 : Slot} {s16 : Slot} {z17 : Value} {s18 : Slot} {z19 : Value} {z20 : Value} {z21 : Value} {s22 : Slot} {s23 : Slot} {s24 : Slot} {s25 : Slot} {v : Int32} (h : One s22) : storeLocals #[s0, s1, s2, s3, s4, s5, s6, s7, s8, s9, s10, s11, s12, s13, s14, s15, s16, .val z17, s18, .val z19, .val z20, .val z21, s22, s23, s24, s25] 22 (.int v) = some #[s0, s1, s2, s3, s4, s5, s6, s7, s8, s9, s10, s11, s12, s13, s14, s15, s16, .val z17, s18, .val z19, .val z20, .val z21, .val (.int v), s23, s24, s25] := by
  rcases h with rfl | ⟨w, rfl, hw⟩
  · rfl
  · cases w <;> first | rfl | (simp [Value.category] at hw)
set_option maxRecDepth 65536 in
set_option maxHeartbeats 40000000 in
theorem tnE_6 {p : Program} {l : Launch} {e : Env} {R : Room} {s : State} {m : MethodId} {args : Array Value} {below : List Frame} {meth : Method} {c : Code} {T0 : State} {locs : List Loc} {cells slots : Nat} {Z : State} {a0 : Array Value} {h0 : Heap} (s0 : Slot) (s1 : Slot) (s2 : Slot) (s3 : Slot) (s4 : Slot) (s5 : Slot) (s6 : Slot) (s7 : Slot) (s8 : Slot) (s9 : Slot) (s10 : Slot) (s11 : Slot) (s12 : Slot) (s13 : Slot) (s14 : Slot) (s15 : Slot) (s16 : Slot) (i17 : Int32) (s18 : Slot) (i19 : Int32) (i20 : Int32) (s21 : Slot) (s22 : Slot) (s23 : Slot) (s24 : Slot) (s25 : Slot)
    (X0 : Stand p l e R s m args below meth c T0 locs cells slots) (hx : p.tables.exec = Jvm.exec) (hZ : Z.Warmed39 s.vm) (hw : ∀ d ∈ tables_1, d.before a0 Z = true) (hby : c.code = code) (hml : c.maxLocals = 26) (hown : s.vm.findClass "com/example/sectionary/sectionary/tables/LongKeyIntMapGrowValuesPinLaw" = some m.cls) (e0 : T0.heap = h0) (hs21 : One s21) (hs22 : One s22) (hc163 : ¬ (i20 = (0 : Int32))) (hc180 : ¬ (i20 = (1 : Int32))) (hc197 : ¬ (i20 = (2 : Int32))) (hc214 : ¬ (i20 = (3 : Int32))) (hc231 : ¬ (i20 = (4 : Int32))) (hc248 : ¬ (i20 = (5 : Int32))) :
    ∃ (T' : State), Stand p l e R s m args below meth c T' locs cells slots ∧ T'.heap = h0 ∧
      ∀ target, Steps p.tables e below (T'.setTop (mkF m 270 #[s0, s1, s2, s3, s4, s5, s6, s7, s8, s9, s10, s11, s12, s13, s14, s15, s16, .val (.int i17), s18, .val (.int i19), .val (.int i20), .val (.int i17), .val (.int i19), s23, s24, s25] [])) target → Steps p.tables e below (T0.setTop (mkF m 161 #[s0, s1, s2, s3, s4, s5, s6, s7, s8, s9, s10, s11, s12, s13, s14, s15, s16, .val (.int i17), s18, .val (.int i19), .val (.int i20), s21, s22, s23, s24, s25] [])) target := by
  refine ⟨T0, X0, e0, fun target kt => ?_⟩
  show Steps p.tables e below (T0.setTop (mkF m 161 #[s0, s1, s2, s3, s4, s5, s6, s7, s8, s9, s10, s11, s12, s13, s14, s15, s16, .val (.int i17), s18, .val (.int i19), .val (.int i20), s21, s22, s23, s24, s25] [])) _
  refine XS.iload X0.here hx rfl (hb hby at_161) rfl ?_
  show Steps p.tables e below (T0.setTop (mkF m 163 #[s0, s1, s2, s3, s4, s5, s6, s7, s8, s9, s10, s11, s12, s13, s14, s15, s16, .val (.int i17), s18, .val (.int i19), .val (.int i20), s21, s22, s23, s24, s25] [(.int i20)])) _
  refine XS.ifYes X0.here hx rfl (pc0 := 163) (pc' := 177) rfl (hb hby at_163) rfl ((if0 _ _).trans (feq hc163).2) (by decide) (by decide) ?_
  show Steps p.tables e below (T0.setTop (mkF m 177 #[s0, s1, s2, s3, s4, s5, s6, s7, s8, s9, s10, s11, s12, s13, s14, s15, s16, .val (.int i17), s18, .val (.int i19), .val (.int i20), s21, s22, s23, s24, s25] [])) _
  refine XS.iload X0.here hx rfl (hb hby at_177) rfl ?_
  show Steps p.tables e below (T0.setTop (mkF m 179 #[s0, s1, s2, s3, s4, s5, s6, s7, s8, s9, s10, s11, s12, s13, s14, s15, s16, .val (.int i17), s18, .val (.int i19), .val (.int i20), s21, s22, s23, s24, s25] [(.int i20)])) _
  refine XS.iconst X0.here hx rfl (hb hby at_179) ?_
  show Steps p.tables e below (T0.setTop (mkF m 180 #[s0, s1, s2, s3, s4, s5, s6, s7, s8, s9, s10, s11, s12, s13, s14, s15, s16, .val (.int i17), s18, .val (.int i19), .val (.int i20), s21, s22, s23, s24, s25] [(.int (1 : Int32)), (.int i20)])) _
  refine XS.icmpYes X0.here hx rfl (pc0 := 180) (pc' := 194) rfl (hb hby at_180) rfl (feq hc180).2 (by decide) (by decide) ?_
  show Steps p.tables e below (T0.setTop (mkF m 194 #[s0, s1, s2, s3, s4, s5, s6, s7, s8, s9, s10, s11, s12, s13, s14, s15, s16, .val (.int i17), s18, .val (.int i19), .val (.int i20), s21, s22, s23, s24, s25] [])) _
  refine XS.iload X0.here hx rfl (hb hby at_194) rfl ?_
  show Steps p.tables e below (T0.setTop (mkF m 196 #[s0, s1, s2, s3, s4, s5, s6, s7, s8, s9, s10, s11, s12, s13, s14, s15, s16, .val (.int i17), s18, .val (.int i19), .val (.int i20), s21, s22, s23, s24, s25] [(.int i20)])) _
  refine XS.iconst X0.here hx rfl (hb hby at_196) ?_
  show Steps p.tables e below (T0.setTop (mkF m 197 #[s0, s1, s2, s3, s4, s5, s6, s7, s8, s9, s10, s11, s12, s13, s14, s15, s16, .val (.int i17), s18, .val (.int i19), .val (.int i20), s21, s22, s23, s24, s25] [(.int (2 : Int32)), (.int i20)])) _
  refine XS.icmpYes X0.here hx rfl (pc0 := 197) (pc' := 211) rfl (hb hby at_197) rfl (feq hc197).2 (by decide) (by decide) ?_
  show Steps p.tables e below (T0.setTop (mkF m 211 #[s0, s1, s2, s3, s4, s5, s6, s7, s8, s9, s10, s11, s12, s13, s14, s15, s16, .val (.int i17), s18, .val (.int i19), .val (.int i20), s21, s22, s23, s24, s25] [])) _
  refine XS.iload X0.here hx rfl (hb hby at_211) rfl ?_
  show Steps p.tables e below (T0.setTop (mkF m 213 #[s0, s1, s2, s3, s4, s5, s6, s7, s8, s9, s10, s11, s12, s13, s14, s15, s16, .val (.int i17), s18, .val (.int i19), .val (.int i20), s21, s22, s23, s24, s25] [(.int i20)])) _
  refine XS.iconst X0.here hx rfl (hb hby at_213) ?_
  show Steps p.tables e below (T0.setTop (mkF m 214 #[s0, s1, s2, s3, s4, s5, s6, s7, s8, s9, s10, s11, s12, s13, s14, s15, s16, .val (.int i17), s18, .val (.int i19), .val (.int i20), s21, s22, s23, s24, s25] [(.int (3 : Int32)), (.int i20)])) _
  refine XS.icmpYes X0.here hx rfl (pc0 := 214) (pc' := 228) rfl (hb hby at_214) rfl (feq hc214).2 (by decide) (by decide) ?_
  show Steps p.tables e below (T0.setTop (mkF m 228 #[s0, s1, s2, s3, s4, s5, s6, s7, s8, s9, s10, s11, s12, s13, s14, s15, s16, .val (.int i17), s18, .val (.int i19), .val (.int i20), s21, s22, s23, s24, s25] [])) _
  refine XS.iload X0.here hx rfl (hb hby at_228) rfl ?_
  show Steps p.tables e below (T0.setTop (mkF m 230 #[s0, s1, s2, s3, s4, s5, s6, s7, s8, s9, s10, s11, s12, s13, s14, s15, s16, .val (.int i17), s18, .val (.int i19), .val (.int i20), s21, s22, s23, s24, s25] [(.int i20)])) _
  refine XS.iconst X0.here hx rfl (hb hby at_230) ?_
  show Steps p.tables e below (T0.setTop (mkF m 231 #[s0, s1, s2, s3, s4, s5, s6, s7, s8, s9, s10, s11, s12, s13, s14, s15, s16, .val (.int i17), s18, .val (.int i19), .val (.int i20), s21, s22, s23, s24, s25] [(.int (4 : Int32)), (.int i20)])) _
  refine XS.icmpYes X0.here hx rfl (pc0 := 231) (pc' := 245) rfl (hb hby at_231) rfl (feq hc231).2 (by decide) (by decide) ?_
  show Steps p.tables e below (T0.setTop (mkF m 245 #[s0, s1, s2, s3, s4, s5, s6, s7, s8, s9, s10, s11, s12, s13, s14, s15, s16, .val (.int i17), s18, .val (.int i19), .val (.int i20), s21, s22, s23, s24, s25] [])) _
  refine XS.iload X0.here hx rfl (hb hby at_245) rfl ?_
  show Steps p.tables e below (T0.setTop (mkF m 247 #[s0, s1, s2, s3, s4, s5, s6, s7, s8, s9, s10, s11, s12, s13, s14, s15, s16, .val (.int i17), s18, .val (.int i19), .val (.int i20), s21, s22, s23, s24, s25] [(.int i20)])) _
  refine XS.iconst X0.here hx rfl (hb hby at_247) ?_
  show Steps p.tables e below (T0.setTop (mkF m 248 #[s0, s1, s2, s3, s4, s5, s6, s7, s8, s9, s10, s11, s12, s13, s14, s15, s16, .val (.int i17), s18, .val (.int i19), .val (.int i20), s21, s22, s23, s24, s25] [(.int (5 : Int32)), (.int i20)])) _
  refine XS.icmpYes X0.here hx rfl (pc0 := 248) (pc' := 262) rfl (hb hby at_248) rfl (feq hc248).2 (by decide) (by decide) ?_
  show Steps p.tables e below (T0.setTop (mkF m 262 #[s0, s1, s2, s3, s4, s5, s6, s7, s8, s9, s10, s11, s12, s13, s14, s15, s16, .val (.int i17), s18, .val (.int i19), .val (.int i20), s21, s22, s23, s24, s25] [])) _
  refine XS.iload X0.here hx rfl (hb hby at_262) rfl ?_
  show Steps p.tables e below (T0.setTop (mkF m 264 #[s0, s1, s2, s3, s4, s5, s6, s7, s8, s9, s10, s11, s12, s13, s14, s15, s16, .val (.int i17), s18, .val (.int i19), .val (.int i20), s21, s22, s23, s24, s25] [(.int i17)])) _
  refine XS.istore X0.here hx rfl (hb hby at_264) rfl (l' := #[s0, s1, s2, s3, s4, s5, s6, s7, s8, s9, s10, s11, s12, s13, s14, s15, s16, .val (.int i17), s18, .val (.int i19), .val (.int i20), .val (.int i17), s22, s23, s24, s25]) (os_tnE_6_264 hs21) ?_
  show Steps p.tables e below (T0.setTop (mkF m 266 #[s0, s1, s2, s3, s4, s5, s6, s7, s8, s9, s10, s11, s12, s13, s14, s15, s16, .val (.int i17), s18, .val (.int i19), .val (.int i20), .val (.int i17), s22, s23, s24, s25] [])) _
  refine XS.iload X0.here hx rfl (hb hby at_266) rfl ?_
  show Steps p.tables e below (T0.setTop (mkF m 268 #[s0, s1, s2, s3, s4, s5, s6, s7, s8, s9, s10, s11, s12, s13, s14, s15, s16, .val (.int i17), s18, .val (.int i19), .val (.int i20), .val (.int i17), s22, s23, s24, s25] [(.int i19)])) _
  refine XS.istore X0.here hx rfl (hb hby at_268) rfl (l' := #[s0, s1, s2, s3, s4, s5, s6, s7, s8, s9, s10, s11, s12, s13, s14, s15, s16, .val (.int i17), s18, .val (.int i19), .val (.int i20), .val (.int i17), .val (.int i19), s23, s24, s25]) (os_tnE_6_268 hs22) ?_
  exact kt
theorem own_segE {p : Program} {l : Launch} {e : Env} {R : Room} {s : State} {m : MethodId} {args : Array Value} {below : List Frame} {meth : Method} {c : Code} {T0 : State} {locs : List Loc} {cells slots : Nat} {Z : State} {a0 : Array Value} {h0 : Heap} (q1 q2 kb : Int64) (p3 p4 p5 p6 r1 r2 len yy e1 e2 f1 f2 : Int32) (b7 b17 : Addr)
    (X0 : Stand p l e R s m args below meth c T0 locs cells slots) (hx : p.tables.exec = Jvm.exec) (hZ : Z.Warmed39 s.vm) (hw : ∀ d ∈ tables_1, d.before a0 Z = true) (hby : c.code = code) (hml : c.maxLocals = 26) (hown : s.vm.findClass "com/example/sectionary/sectionary/tables/LongKeyIntMapGrowValuesPinLaw" = some m.cls) (e0 : T0.heap = h0) (hE : own_pick (own_md p5) r1 r2 (own_w (own_x1 p6 len) r1 r2) (own_w yy r1 r2) e1 e2) :
    ∃ (T' : State), Stand p l e R s m args below meth c T' locs cells slots ∧ T'.heap = h0 ∧
      ∀ target, Steps p.tables e below (T'.setTop (mkF m 270 #[.val (.long q1), .second, .val (.long q2), .second, .val (.int p3), .val (.int p4), .val (.int p5), .val (.int p6), .val (.long kb), .second, .val (.ref b7), .val (.int r1), .val (.int r2), .val (.int (own_min r1 r2)), .val (.int (own_max r1 r2)), .val (.int len), .val (.int (own_x1 p6 len)), .val (.int (own_w (own_x1 p6 len) r1 r2)), .val (.int yy), .val (.int (own_w yy r1 r2)), .val (.int (own_md p5)), .val (.int e1), .val (.int e2), .unset, .unset, .unset] [])) target → Steps p.tables e below (T0.setTop (mkF m 161 #[.val (.long q1), .second, .val (.long q2), .second, .val (.int p3), .val (.int p4), .val (.int p5), .val (.int p6), .val (.long kb), .second, .val (.ref b7), .val (.int r1), .val (.int r2), .val (.int (own_min r1 r2)), .val (.int (own_max r1 r2)), .val (.int len), .val (.int (own_x1 p6 len)), .val (.int (own_w (own_x1 p6 len) r1 r2)), .val (.int yy), .val (.int (own_w yy r1 r2)), .val (.int (own_md p5)), .unset, .unset, .unset, .unset, .unset] [])) target := by
  unfold own_pick at hE
  by_cases h0 : own_md p5 = 0
  · rw [if_pos h0] at hE
    obtain ⟨g1, g2⟩ := hE
    have g1 := g1.symm
    have g2 := g2.symm
    subst g1 g2
    exact tnE_0 (.val (.long q1)) .second (.val (.long q2)) .second (.val (.int p3)) (.val (.int p4)) (.val (.int p5)) (.val (.int p6)) (.val (.long kb)) .second (.val (.ref b7)) r1 r2 (.val (.int (own_min r1 r2))) (.val (.int (own_max r1 r2))) (.val (.int len)) (.val (.int (own_x1 p6 len))) (.val (.int (own_w (own_x1 p6 len) r1 r2))) (.val (.int yy)) (.val (.int (own_w yy r1 r2))) (own_md p5) .unset .unset .unset .unset .unset X0 hx hZ hw hby hml hown e0 One.u One.u h0
  rw [if_neg h0] at hE
  by_cases h1 : own_md p5 = 1
  · rw [if_pos h1] at hE
    obtain ⟨g1, g2⟩ := hE
    have g1 := g1.symm
    have g2 := g2.symm
    subst g1 g2
    exact tnE_1 (.val (.long q1)) .second (.val (.long q2)) .second (.val (.int p3)) (.val (.int p4)) (.val (.int p5)) (.val (.int p6)) (.val (.long kb)) .second (.val (.ref b7)) r1 r2 (.val (.int (own_min r1 r2))) (.val (.int (own_max r1 r2))) (.val (.int len)) (.val (.int (own_x1 p6 len))) (.val (.int (own_w (own_x1 p6 len) r1 r2))) (.val (.int yy)) (.val (.int (own_w yy r1 r2))) (own_md p5) .unset .unset .unset .unset .unset X0 hx hZ hw hby hml hown e0 One.u One.u h0 h1
  rw [if_neg h1] at hE
  by_cases h2 : own_md p5 = 2
  · rw [if_pos h2] at hE
    obtain ⟨g1, g2⟩ := hE
    have g1 := g1.symm
    have g2 := g2.symm
    subst g1 g2
    exact tnE_2 (.val (.long q1)) .second (.val (.long q2)) .second (.val (.int p3)) (.val (.int p4)) (.val (.int p5)) (.val (.int p6)) (.val (.long kb)) .second (.val (.ref b7)) r1 (.val (.int r2)) (.val (.int (own_min r1 r2))) (.val (.int (own_max r1 r2))) (.val (.int len)) (.val (.int (own_x1 p6 len))) (.val (.int (own_w (own_x1 p6 len) r1 r2))) (.val (.int yy)) (own_w yy r1 r2) (own_md p5) .unset .unset .unset .unset .unset X0 hx hZ hw hby hml hown e0 One.u One.u h0 h1 h2
  rw [if_neg h2] at hE
  by_cases h3 : own_md p5 = 3
  · rw [if_pos h3] at hE
    obtain ⟨g1, g2⟩ := hE
    have g1 := g1.symm
    have g2 := g2.symm
    subst g1 g2
    exact tnE_3 (.val (.long q1)) .second (.val (.long q2)) .second (.val (.int p3)) (.val (.int p4)) (.val (.int p5)) (.val (.int p6)) (.val (.long kb)) .second (.val (.ref b7)) (.val (.int r1)) r2 (.val (.int (own_min r1 r2))) (.val (.int (own_max r1 r2))) (.val (.int len)) (.val (.int (own_x1 p6 len))) (own_w (own_x1 p6 len) r1 r2) (.val (.int yy)) (.val (.int (own_w yy r1 r2))) (own_md p5) .unset .unset .unset .unset .unset X0 hx hZ hw hby hml hown e0 One.u One.u h0 h1 h2 h3
  rw [if_neg h3] at hE
  by_cases h4 : own_md p5 = 4
  · rw [if_pos h4] at hE
    obtain ⟨g1, g2⟩ := hE
    have g1 := g1.symm
    have g2 := g2.symm
    subst g1 g2
    exact tnE_4 (.val (.long q1)) .second (.val (.long q2)) .second (.val (.int p3)) (.val (.int p4)) (.val (.int p5)) (.val (.int p6)) (.val (.long kb)) .second (.val (.ref b7)) (.val (.int r1)) r2 (.val (.int (own_min r1 r2))) (.val (.int (own_max r1 r2))) (.val (.int len)) (.val (.int (own_x1 p6 len))) (.val (.int (own_w (own_x1 p6 len) r1 r2))) (.val (.int yy)) (own_w yy r1 r2) (own_md p5) .unset .unset .unset .unset .unset X0 hx hZ hw hby hml hown e0 One.u One.u h0 h1 h2 h3 h4
  rw [if_neg h4] at hE
  by_cases h5 : own_md p5 = 5
  · rw [if_pos h5] at hE
    obtain ⟨g1, g2⟩ := hE
    have g1 := g1.symm
    have g2 := g2.symm
    subst g1 g2
    exact tnE_5 (.val (.long q1)) .second (.val (.long q2)) .second (.val (.int p3)) (.val (.int p4)) (.val (.int p5)) (.val (.int p6)) (.val (.long kb)) .second (.val (.ref b7)) r1 (.val (.int r2)) (.val (.int (own_min r1 r2))) (.val (.int (own_max r1 r2))) (.val (.int len)) (.val (.int (own_x1 p6 len))) (own_w (own_x1 p6 len) r1 r2) (.val (.int yy)) (.val (.int (own_w yy r1 r2))) (own_md p5) .unset .unset .unset .unset .unset X0 hx hZ hw hby hml hown e0 One.u One.u h0 h1 h2 h3 h4 h5
  rw [if_neg h5] at hE
  obtain ⟨g1, g2⟩ := hE
  have g1 := g1.symm
  have g2 := g2.symm
  subst g1 g2
  exact tnE_6 (.val (.long q1)) .second (.val (.long q2)) .second (.val (.int p3)) (.val (.int p4)) (.val (.int p5)) (.val (.int p6)) (.val (.long kb)) .second (.val (.ref b7)) (.val (.int r1)) (.val (.int r2)) (.val (.int (own_min r1 r2))) (.val (.int (own_max r1 r2))) (.val (.int len)) (.val (.int (own_x1 p6 len))) (own_w (own_x1 p6 len) r1 r2) (.val (.int yy)) (own_w yy r1 r2) (own_md p5) .unset .unset .unset .unset .unset X0 hx hZ hw hby hml hown e0 One.u One.u h0 h1 h2 h3 h4 h5
theorem os_tnXA_f_768 {s0 : Slot} {s1 : Slot} {s2 : Slot} {s3 : Slot} {z4 : Value} {s5 : Slot} {s6 : Slot} {s7 : Slot} {s8 : Slot} {s9 : Slot} {s10 : Slot} {z11 : Value} {s12 : Slot} {s13 : Slot} {s14 : Slot} {s15 : Slot} {s16 : Slot} {s17 : Slot} {s18 : Slot} {s19 : Slot} {s20 : Slot} {z21 : Value} {s22 : Slot} {s23 : Slot} {s24 : Slot} {s25 : Slot} {v : Int32} (h : One s24) : storeLocals #[s0, s1, s2, s3, .val z4, s5, s6, s7, s8, s9, s10, .val z11, s12, s13, s14, s15, s16, s17, s18, s19, s20, .val z21, s22, s23, s24, s25] 24 (.int v) = some #[s0, s1, s2, s3, .val z4, s5, s6, s7, s8, s9, s10, .val z11, s12, s13, s14, s15, s16, s17, s18, s19, s20, .val z21, s22, s23, .val (.int v), s25] := by
  rcases h with rfl | ⟨w, rfl, hw⟩
  · rfl
  · cases w <;> first | rfl | (simp [Value.category] at hw)
set_option maxRecDepth 65536 in
set_option maxHeartbeats 40000000 in
theorem tnXA_f {p : Program} {l : Launch} {e : Env} {R : Room} {s : State} {m : MethodId} {args : Array Value} {below : List Frame} {meth : Method} {c : Code} {T0 : State} {locs : List Loc} {cells slots : Nat} {Z : State} {a0 : Array Value} {h0 : Heap} (s0 : Slot) (s1 : Slot) (s2 : Slot) (s3 : Slot) (i4 : Int32) (s5 : Slot) (s6 : Slot) (s7 : Slot) (s8 : Slot) (s9 : Slot) (s10 : Slot) (i11 : Int32) (s12 : Slot) (s13 : Slot) (s14 : Slot) (s15 : Slot) (s16 : Slot) (s17 : Slot) (s18 : Slot) (s19 : Slot) (s20 : Slot) (i21 : Int32) (s22 : Slot) (s23 : Slot) (s24 : Slot) (s25 : Slot)
    (X0 : Stand p l e R s m args below meth c T0 locs cells slots) (hx : p.tables.exec = Jvm.exec) (hZ : Z.Warmed39 s.vm) (hw : ∀ d ∈ tables_1, d.before a0 Z = true) (hby : c.code = code) (hml : c.maxLocals = 26) (hown : s.vm.findClass "com/example/sectionary/sectionary/tables/LongKeyIntMapGrowValuesPinLaw" = some m.cls) (e0 : T0.heap = h0) (hs24 : One s24) (hc747 : i21 = i11) :
    ∃ (T' : State), Stand p l e R s m args below meth c T' locs cells slots ∧ T'.heap = h0 ∧
      ∀ target, Steps p.tables e below (T'.setTop (mkF m 770 #[s0, s1, s2, s3, .val (.int i4), s5, s6, s7, s8, s9, s10, .val (.int i11), s12, s13, s14, s15, s16, s17, s18, s19, s20, .val (.int i21), s22, s23, .val (.int i4), s25] [])) target → Steps p.tables e below (T0.setTop (mkF m 743 #[s0, s1, s2, s3, .val (.int i4), s5, s6, s7, s8, s9, s10, .val (.int i11), s12, s13, s14, s15, s16, s17, s18, s19, s20, .val (.int i21), s22, s23, s24, s25] [])) target := by
  refine ⟨T0, X0, e0, fun target kt => ?_⟩
  show Steps p.tables e below (T0.setTop (mkF m 743 #[s0, s1, s2, s3, .val (.int i4), s5, s6, s7, s8, s9, s10, .val (.int i11), s12, s13, s14, s15, s16, s17, s18, s19, s20, .val (.int i21), s22, s23, s24, s25] [])) _
  refine XS.iload X0.here hx rfl (hb hby at_743) rfl ?_
  show Steps p.tables e below (T0.setTop (mkF m 745 #[s0, s1, s2, s3, .val (.int i4), s5, s6, s7, s8, s9, s10, .val (.int i11), s12, s13, s14, s15, s16, s17, s18, s19, s20, .val (.int i21), s22, s23, s24, s25] [(.int i21)])) _
  refine XS.iload X0.here hx rfl (hb hby at_745) rfl ?_
  show Steps p.tables e below (T0.setTop (mkF m 747 #[s0, s1, s2, s3, .val (.int i4), s5, s6, s7, s8, s9, s10, .val (.int i11), s12, s13, s14, s15, s16, s17, s18, s19, s20, .val (.int i21), s22, s23, s24, s25] [(.int i11), (.int i21)])) _
  refine XS.icmpNo X0.here hx rfl (hb hby at_747) rfl (teq hc747).2 ?_
  show Steps p.tables e below (T0.setTop (mkF m 750 #[s0, s1, s2, s3, .val (.int i4), s5, s6, s7, s8, s9, s10, .val (.int i11), s12, s13, s14, s15, s16, s17, s18, s19, s20, .val (.int i21), s22, s23, s24, s25] [])) _
  refine XS.iload X0.here hx rfl (hb hby at_750) rfl ?_
  show Steps p.tables e below (T0.setTop (mkF m 752 #[s0, s1, s2, s3, .val (.int i4), s5, s6, s7, s8, s9, s10, .val (.int i11), s12, s13, s14, s15, s16, s17, s18, s19, s20, .val (.int i21), s22, s23, s24, s25] [(.int i4)])) _
  refine XS.goto X0.here hx rfl (pc0 := 752) (pc' := 768) rfl (hb hby at_752) (by decide) (by decide) ?_
  show Steps p.tables e below (T0.setTop (mkF m 768 #[s0, s1, s2, s3, .val (.int i4), s5, s6, s7, s8, s9, s10, .val (.int i11), s12, s13, s14, s15, s16, s17, s18, s19, s20, .val (.int i21), s22, s23, s24, s25] [(.int i4)])) _
  refine XS.istore X0.here hx rfl (hb hby at_768) rfl (l' := #[s0, s1, s2, s3, .val (.int i4), s5, s6, s7, s8, s9, s10, .val (.int i11), s12, s13, s14, s15, s16, s17, s18, s19, s20, .val (.int i21), s22, s23, .val (.int i4), s25]) (os_tnXA_f_768 hs24) ?_
  exact kt
theorem os_tnXA_tf_768 {s0 : Slot} {s1 : Slot} {s2 : Slot} {s3 : Slot} {s4 : Slot} {z5 : Value} {s6 : Slot} {s7 : Slot} {s8 : Slot} {s9 : Slot} {s10 : Slot} {z11 : Value} {s12 : Slot} {s13 : Slot} {s14 : Slot} {s15 : Slot} {s16 : Slot} {s17 : Slot} {s18 : Slot} {s19 : Slot} {s20 : Slot} {z21 : Value} {z22 : Value} {s23 : Slot} {s24 : Slot} {s25 : Slot} {v : Int32} (h : One s24) : storeLocals #[s0, s1, s2, s3, s4, .val z5, s6, s7, s8, s9, s10, .val z11, s12, s13, s14, s15, s16, s17, s18, s19, s20, .val z21, .val z22, s23, s24, s25] 24 (.int v) = some #[s0, s1, s2, s3, s4, .val z5, s6, s7, s8, s9, s10, .val z11, s12, s13, s14, s15, s16, s17, s18, s19, s20, .val z21, .val z22, s23, .val (.int v), s25] := by
  rcases h with rfl | ⟨w, rfl, hw⟩
  · rfl
  · cases w <;> first | rfl | (simp [Value.category] at hw)
set_option maxRecDepth 65536 in
set_option maxHeartbeats 40000000 in
theorem tnXA_tf {p : Program} {l : Launch} {e : Env} {R : Room} {s : State} {m : MethodId} {args : Array Value} {below : List Frame} {meth : Method} {c : Code} {T0 : State} {locs : List Loc} {cells slots : Nat} {Z : State} {a0 : Array Value} {h0 : Heap} (s0 : Slot) (s1 : Slot) (s2 : Slot) (s3 : Slot) (s4 : Slot) (i5 : Int32) (s6 : Slot) (s7 : Slot) (s8 : Slot) (s9 : Slot) (s10 : Slot) (i11 : Int32) (s12 : Slot) (s13 : Slot) (s14 : Slot) (s15 : Slot) (s16 : Slot) (s17 : Slot) (s18 : Slot) (s19 : Slot) (s20 : Slot) (i21 : Int32) (i22 : Int32) (s23 : Slot) (s24 : Slot) (s25 : Slot)
    (X0 : Stand p l e R s m args below meth c T0 locs cells slots) (hx : p.tables.exec = Jvm.exec) (hZ : Z.Warmed39 s.vm) (hw : ∀ d ∈ tables_1, d.before a0 Z = true) (hby : c.code = code) (hml : c.maxLocals = 26) (hown : s.vm.findClass "com/example/sectionary/sectionary/tables/LongKeyIntMapGrowValuesPinLaw" = some m.cls) (e0 : T0.heap = h0) (hs24 : One s24) (hc747 : ¬ (i21 = i11)) (hc759 : i22 = i11) :
    ∃ (T' : State), Stand p l e R s m args below meth c T' locs cells slots ∧ T'.heap = h0 ∧
      ∀ target, Steps p.tables e below (T'.setTop (mkF m 770 #[s0, s1, s2, s3, s4, .val (.int i5), s6, s7, s8, s9, s10, .val (.int i11), s12, s13, s14, s15, s16, s17, s18, s19, s20, .val (.int i21), .val (.int i22), s23, .val (.int i5), s25] [])) target → Steps p.tables e below (T0.setTop (mkF m 743 #[s0, s1, s2, s3, s4, .val (.int i5), s6, s7, s8, s9, s10, .val (.int i11), s12, s13, s14, s15, s16, s17, s18, s19, s20, .val (.int i21), .val (.int i22), s23, s24, s25] [])) target := by
  refine ⟨T0, X0, e0, fun target kt => ?_⟩
  show Steps p.tables e below (T0.setTop (mkF m 743 #[s0, s1, s2, s3, s4, .val (.int i5), s6, s7, s8, s9, s10, .val (.int i11), s12, s13, s14, s15, s16, s17, s18, s19, s20, .val (.int i21), .val (.int i22), s23, s24, s25] [])) _
  refine XS.iload X0.here hx rfl (hb hby at_743) rfl ?_
  show Steps p.tables e below (T0.setTop (mkF m 745 #[s0, s1, s2, s3, s4, .val (.int i5), s6, s7, s8, s9, s10, .val (.int i11), s12, s13, s14, s15, s16, s17, s18, s19, s20, .val (.int i21), .val (.int i22), s23, s24, s25] [(.int i21)])) _
  refine XS.iload X0.here hx rfl (hb hby at_745) rfl ?_
  show Steps p.tables e below (T0.setTop (mkF m 747 #[s0, s1, s2, s3, s4, .val (.int i5), s6, s7, s8, s9, s10, .val (.int i11), s12, s13, s14, s15, s16, s17, s18, s19, s20, .val (.int i21), .val (.int i22), s23, s24, s25] [(.int i11), (.int i21)])) _
  refine XS.icmpYes X0.here hx rfl (pc0 := 747) (pc' := 755) rfl (hb hby at_747) rfl (feq hc747).2 (by decide) (by decide) ?_
  show Steps p.tables e below (T0.setTop (mkF m 755 #[s0, s1, s2, s3, s4, .val (.int i5), s6, s7, s8, s9, s10, .val (.int i11), s12, s13, s14, s15, s16, s17, s18, s19, s20, .val (.int i21), .val (.int i22), s23, s24, s25] [])) _
  refine XS.iload X0.here hx rfl (hb hby at_755) rfl ?_
  show Steps p.tables e below (T0.setTop (mkF m 757 #[s0, s1, s2, s3, s4, .val (.int i5), s6, s7, s8, s9, s10, .val (.int i11), s12, s13, s14, s15, s16, s17, s18, s19, s20, .val (.int i21), .val (.int i22), s23, s24, s25] [(.int i22)])) _
  refine XS.iload X0.here hx rfl (hb hby at_757) rfl ?_
  show Steps p.tables e below (T0.setTop (mkF m 759 #[s0, s1, s2, s3, s4, .val (.int i5), s6, s7, s8, s9, s10, .val (.int i11), s12, s13, s14, s15, s16, s17, s18, s19, s20, .val (.int i21), .val (.int i22), s23, s24, s25] [(.int i11), (.int i22)])) _
  refine XS.icmpNo X0.here hx rfl (hb hby at_759) rfl (teq hc759).2 ?_
  show Steps p.tables e below (T0.setTop (mkF m 762 #[s0, s1, s2, s3, s4, .val (.int i5), s6, s7, s8, s9, s10, .val (.int i11), s12, s13, s14, s15, s16, s17, s18, s19, s20, .val (.int i21), .val (.int i22), s23, s24, s25] [])) _
  refine XS.iload X0.here hx rfl (hb hby at_762) rfl ?_
  show Steps p.tables e below (T0.setTop (mkF m 764 #[s0, s1, s2, s3, s4, .val (.int i5), s6, s7, s8, s9, s10, .val (.int i11), s12, s13, s14, s15, s16, s17, s18, s19, s20, .val (.int i21), .val (.int i22), s23, s24, s25] [(.int i5)])) _
  refine XS.goto X0.here hx rfl (pc0 := 764) (pc' := 768) rfl (hb hby at_764) (by decide) (by decide) ?_
  show Steps p.tables e below (T0.setTop (mkF m 768 #[s0, s1, s2, s3, s4, .val (.int i5), s6, s7, s8, s9, s10, .val (.int i11), s12, s13, s14, s15, s16, s17, s18, s19, s20, .val (.int i21), .val (.int i22), s23, s24, s25] [(.int i5)])) _
  refine XS.istore X0.here hx rfl (hb hby at_768) rfl (l' := #[s0, s1, s2, s3, s4, .val (.int i5), s6, s7, s8, s9, s10, .val (.int i11), s12, s13, s14, s15, s16, s17, s18, s19, s20, .val (.int i21), .val (.int i22), s23, .val (.int i5), s25]) (os_tnXA_tf_768 hs24) ?_
  exact kt
theorem os_tnXA_tt_768 {s0 : Slot} {s1 : Slot} {s2 : Slot} {s3 : Slot} {s4 : Slot} {s5 : Slot} {s6 : Slot} {s7 : Slot} {s8 : Slot} {s9 : Slot} {s10 : Slot} {z11 : Value} {s12 : Slot} {s13 : Slot} {s14 : Slot} {s15 : Slot} {s16 : Slot} {s17 : Slot} {s18 : Slot} {s19 : Slot} {s20 : Slot} {z21 : Value} {z22 : Value} {s23 : Slot} {s24 : Slot} {s25 : Slot} {v : Int32} (h : One s24) : storeLocals #[s0, s1, s2, s3, s4, s5, s6, s7, s8, s9, s10, .val z11, s12, s13, s14, s15, s16, s17, s18, s19, s20, .val z21, .val z22, s23, s24, s25] 24 (.int v) = some #[s0, s1, s2, s3, s4, s5, s6, s7, s8, s9, s10, .val z11, s12, s13, s14, s15, s16, s17, s18, s19, s20, .val z21, .val z22, s23, .val (.int v), s25] := by
  rcases h with rfl | ⟨w, rfl, hw⟩
  · rfl
  · cases w <;> first | rfl | (simp [Value.category] at hw)
set_option maxRecDepth 65536 in
set_option maxHeartbeats 40000000 in
theorem tnXA_tt {p : Program} {l : Launch} {e : Env} {R : Room} {s : State} {m : MethodId} {args : Array Value} {below : List Frame} {meth : Method} {c : Code} {T0 : State} {locs : List Loc} {cells slots : Nat} {Z : State} {a0 : Array Value} {h0 : Heap} (s0 : Slot) (s1 : Slot) (s2 : Slot) (s3 : Slot) (s4 : Slot) (s5 : Slot) (s6 : Slot) (s7 : Slot) (s8 : Slot) (s9 : Slot) (s10 : Slot) (i11 : Int32) (s12 : Slot) (s13 : Slot) (s14 : Slot) (s15 : Slot) (s16 : Slot) (s17 : Slot) (s18 : Slot) (s19 : Slot) (s20 : Slot) (i21 : Int32) (i22 : Int32) (s23 : Slot) (s24 : Slot) (s25 : Slot)
    (X0 : Stand p l e R s m args below meth c T0 locs cells slots) (hx : p.tables.exec = Jvm.exec) (hZ : Z.Warmed39 s.vm) (hw : ∀ d ∈ tables_1, d.before a0 Z = true) (hby : c.code = code) (hml : c.maxLocals = 26) (hown : s.vm.findClass "com/example/sectionary/sectionary/tables/LongKeyIntMapGrowValuesPinLaw" = some m.cls) (e0 : T0.heap = h0) (hs24 : One s24) (hc747 : ¬ (i21 = i11)) (hc759 : ¬ (i22 = i11)) :
    ∃ (T' : State), Stand p l e R s m args below meth c T' locs cells slots ∧ T'.heap = h0 ∧
      ∀ target, Steps p.tables e below (T'.setTop (mkF m 770 #[s0, s1, s2, s3, s4, s5, s6, s7, s8, s9, s10, .val (.int i11), s12, s13, s14, s15, s16, s17, s18, s19, s20, .val (.int i21), .val (.int i22), s23, .val (.int (0 : Int32)), s25] [])) target → Steps p.tables e below (T0.setTop (mkF m 743 #[s0, s1, s2, s3, s4, s5, s6, s7, s8, s9, s10, .val (.int i11), s12, s13, s14, s15, s16, s17, s18, s19, s20, .val (.int i21), .val (.int i22), s23, s24, s25] [])) target := by
  refine ⟨T0, X0, e0, fun target kt => ?_⟩
  show Steps p.tables e below (T0.setTop (mkF m 743 #[s0, s1, s2, s3, s4, s5, s6, s7, s8, s9, s10, .val (.int i11), s12, s13, s14, s15, s16, s17, s18, s19, s20, .val (.int i21), .val (.int i22), s23, s24, s25] [])) _
  refine XS.iload X0.here hx rfl (hb hby at_743) rfl ?_
  show Steps p.tables e below (T0.setTop (mkF m 745 #[s0, s1, s2, s3, s4, s5, s6, s7, s8, s9, s10, .val (.int i11), s12, s13, s14, s15, s16, s17, s18, s19, s20, .val (.int i21), .val (.int i22), s23, s24, s25] [(.int i21)])) _
  refine XS.iload X0.here hx rfl (hb hby at_745) rfl ?_
  show Steps p.tables e below (T0.setTop (mkF m 747 #[s0, s1, s2, s3, s4, s5, s6, s7, s8, s9, s10, .val (.int i11), s12, s13, s14, s15, s16, s17, s18, s19, s20, .val (.int i21), .val (.int i22), s23, s24, s25] [(.int i11), (.int i21)])) _
  refine XS.icmpYes X0.here hx rfl (pc0 := 747) (pc' := 755) rfl (hb hby at_747) rfl (feq hc747).2 (by decide) (by decide) ?_
  show Steps p.tables e below (T0.setTop (mkF m 755 #[s0, s1, s2, s3, s4, s5, s6, s7, s8, s9, s10, .val (.int i11), s12, s13, s14, s15, s16, s17, s18, s19, s20, .val (.int i21), .val (.int i22), s23, s24, s25] [])) _
  refine XS.iload X0.here hx rfl (hb hby at_755) rfl ?_
  show Steps p.tables e below (T0.setTop (mkF m 757 #[s0, s1, s2, s3, s4, s5, s6, s7, s8, s9, s10, .val (.int i11), s12, s13, s14, s15, s16, s17, s18, s19, s20, .val (.int i21), .val (.int i22), s23, s24, s25] [(.int i22)])) _
  refine XS.iload X0.here hx rfl (hb hby at_757) rfl ?_
  show Steps p.tables e below (T0.setTop (mkF m 759 #[s0, s1, s2, s3, s4, s5, s6, s7, s8, s9, s10, .val (.int i11), s12, s13, s14, s15, s16, s17, s18, s19, s20, .val (.int i21), .val (.int i22), s23, s24, s25] [(.int i11), (.int i22)])) _
  refine XS.icmpYes X0.here hx rfl (pc0 := 759) (pc' := 767) rfl (hb hby at_759) rfl (feq hc759).2 (by decide) (by decide) ?_
  show Steps p.tables e below (T0.setTop (mkF m 767 #[s0, s1, s2, s3, s4, s5, s6, s7, s8, s9, s10, .val (.int i11), s12, s13, s14, s15, s16, s17, s18, s19, s20, .val (.int i21), .val (.int i22), s23, s24, s25] [])) _
  refine XS.iconst X0.here hx rfl (hb hby at_767) ?_
  show Steps p.tables e below (T0.setTop (mkF m 768 #[s0, s1, s2, s3, s4, s5, s6, s7, s8, s9, s10, .val (.int i11), s12, s13, s14, s15, s16, s17, s18, s19, s20, .val (.int i21), .val (.int i22), s23, s24, s25] [(.int (0 : Int32))])) _
  refine XS.istore X0.here hx rfl (hb hby at_768) rfl (l' := #[s0, s1, s2, s3, s4, s5, s6, s7, s8, s9, s10, .val (.int i11), s12, s13, s14, s15, s16, s17, s18, s19, s20, .val (.int i21), .val (.int i22), s23, .val (.int (0 : Int32)), s25]) (os_tnXA_tt_768 hs24) ?_
  exact kt
theorem own_segXA {p : Program} {l : Launch} {e : Env} {R : Room} {s : State} {m : MethodId} {args : Array Value} {below : List Frame} {meth : Method} {c : Code} {T0 : State} {locs : List Loc} {cells slots : Nat} {Z : State} {a0 : Array Value} {h0 : Heap} (q1 q2 kb : Int64) (p3 p4 p5 p6 r1 r2 len yy e1 e2 f1 f2 : Int32) (b7 b17 : Addr)
    (X0 : Stand p l e R s m args below meth c T0 locs cells slots) (hx : p.tables.exec = Jvm.exec) (hZ : Z.Warmed39 s.vm) (hw : ∀ d ∈ tables_1, d.before a0 Z = true) (hby : c.code = code) (hml : c.maxLocals = 26) (hown : s.vm.findClass "com/example/sectionary/sectionary/tables/LongKeyIntMapGrowValuesPinLaw" = some m.cls) (e0 : T0.heap = h0) (hf : f1 = own_ex e1 e2 r1 p3 p4) :
    ∃ (T' : State), Stand p l e R s m args below meth c T' locs cells slots ∧ T'.heap = h0 ∧
      ∀ target, Steps p.tables e below (T'.setTop (mkF m 770 #[.val (.long q1), .second, .val (.long q2), .second, .val (.int p3), .val (.int p4), .val (.int p5), .val (.int p6), .val (.long kb), .second, .val (.ref b7), .val (.int r1), .val (.int r2), .val (.int (own_min r1 r2)), .val (.int (own_max r1 r2)), .val (.int len), .val (.int (own_x1 p6 len)), .val (.int (own_w (own_x1 p6 len) r1 r2)), .val (.int yy), .val (.int (own_w yy r1 r2)), .val (.int (own_md p5)), .val (.int e1), .val (.int e2), .val (.ref b17), .val (.int f1), .unset] [])) target → Steps p.tables e below (T0.setTop (mkF m 743 #[.val (.long q1), .second, .val (.long q2), .second, .val (.int p3), .val (.int p4), .val (.int p5), .val (.int p6), .val (.long kb), .second, .val (.ref b7), .val (.int r1), .val (.int r2), .val (.int (own_min r1 r2)), .val (.int (own_max r1 r2)), .val (.int len), .val (.int (own_x1 p6 len)), .val (.int (own_w (own_x1 p6 len) r1 r2)), .val (.int yy), .val (.int (own_w yy r1 r2)), .val (.int (own_md p5)), .val (.int e1), .val (.int e2), .val (.ref b17), .unset, .unset] [])) target := by
  unfold own_ex at hf
  by_cases h1 : e1 = r1
  · rw [if_pos h1] at hf; have hf := hf.symm; subst hf
    exact tnXA_f (.val (.long q1)) .second (.val (.long q2)) .second p3 (.val (.int p4)) (.val (.int p5)) (.val (.int p6)) (.val (.long kb)) .second (.val (.ref b7)) r1 (.val (.int r2)) (.val (.int (own_min r1 r2))) (.val (.int (own_max r1 r2))) (.val (.int len)) (.val (.int (own_x1 p6 len))) (.val (.int (own_w (own_x1 p6 len) r1 r2))) (.val (.int yy)) (.val (.int (own_w yy r1 r2))) (.val (.int (own_md p5))) e1 (.val (.int e2)) (.val (.ref b17)) .unset .unset X0 hx hZ hw hby hml hown e0 One.u h1
  · rw [if_neg h1] at hf
    by_cases h2 : e2 = r1
    · rw [if_pos h2] at hf; have hf := hf.symm; subst hf
      exact tnXA_tf (.val (.long q1)) .second (.val (.long q2)) .second (.val (.int p3)) p4 (.val (.int p5)) (.val (.int p6)) (.val (.long kb)) .second (.val (.ref b7)) r1 (.val (.int r2)) (.val (.int (own_min r1 r2))) (.val (.int (own_max r1 r2))) (.val (.int len)) (.val (.int (own_x1 p6 len))) (.val (.int (own_w (own_x1 p6 len) r1 r2))) (.val (.int yy)) (.val (.int (own_w yy r1 r2))) (.val (.int (own_md p5))) e1 e2 (.val (.ref b17)) .unset .unset X0 hx hZ hw hby hml hown e0 One.u h1 h2
    · rw [if_neg h2] at hf; subst hf
      exact tnXA_tt (.val (.long q1)) .second (.val (.long q2)) .second (.val (.int p3)) (.val (.int p4)) (.val (.int p5)) (.val (.int p6)) (.val (.long kb)) .second (.val (.ref b7)) r1 (.val (.int r2)) (.val (.int (own_min r1 r2))) (.val (.int (own_max r1 r2))) (.val (.int len)) (.val (.int (own_x1 p6 len))) (.val (.int (own_w (own_x1 p6 len) r1 r2))) (.val (.int yy)) (.val (.int (own_w yy r1 r2))) (.val (.int (own_md p5))) e1 e2 (.val (.ref b17)) .unset .unset X0 hx hZ hw hby hml hown e0 One.u h1 h2
theorem os_tnXB_f_795 {s0 : Slot} {s1 : Slot} {s2 : Slot} {s3 : Slot} {z4 : Value} {s5 : Slot} {s6 : Slot} {s7 : Slot} {s8 : Slot} {s9 : Slot} {s10 : Slot} {s11 : Slot} {z12 : Value} {s13 : Slot} {s14 : Slot} {s15 : Slot} {s16 : Slot} {s17 : Slot} {s18 : Slot} {s19 : Slot} {s20 : Slot} {z21 : Value} {s22 : Slot} {s23 : Slot} {s24 : Slot} {s25 : Slot} {v : Int32} (h : One s25) : storeLocals #[s0, s1, s2, s3, .val z4, s5, s6, s7, s8, s9, s10, s11, .val z12, s13, s14, s15, s16, s17, s18, s19, s20, .val z21, s22, s23, s24, s25] 25 (.int v) = some #[s0, s1, s2, s3, .val z4, s5, s6, s7, s8, s9, s10, s11, .val z12, s13, s14, s15, s16, s17, s18, s19, s20, .val z21, s22, s23, s24, .val (.int v)] := by
  rcases h with rfl | ⟨w, rfl, hw⟩
  · rfl
  · cases w <;> first | rfl | (simp [Value.category] at hw)
set_option maxRecDepth 65536 in
set_option maxHeartbeats 40000000 in
theorem tnXB_f {p : Program} {l : Launch} {e : Env} {R : Room} {s : State} {m : MethodId} {args : Array Value} {below : List Frame} {meth : Method} {c : Code} {T0 : State} {locs : List Loc} {cells slots : Nat} {Z : State} {a0 : Array Value} {h0 : Heap} (s0 : Slot) (s1 : Slot) (s2 : Slot) (s3 : Slot) (i4 : Int32) (s5 : Slot) (s6 : Slot) (s7 : Slot) (s8 : Slot) (s9 : Slot) (s10 : Slot) (s11 : Slot) (i12 : Int32) (s13 : Slot) (s14 : Slot) (s15 : Slot) (s16 : Slot) (s17 : Slot) (s18 : Slot) (s19 : Slot) (s20 : Slot) (i21 : Int32) (s22 : Slot) (s23 : Slot) (s24 : Slot) (s25 : Slot)
    (X0 : Stand p l e R s m args below meth c T0 locs cells slots) (hx : p.tables.exec = Jvm.exec) (hZ : Z.Warmed39 s.vm) (hw : ∀ d ∈ tables_1, d.before a0 Z = true) (hby : c.code = code) (hml : c.maxLocals = 26) (hown : s.vm.findClass "com/example/sectionary/sectionary/tables/LongKeyIntMapGrowValuesPinLaw" = some m.cls) (e0 : T0.heap = h0) (hs25 : One s25) (hc774 : i21 = i12) :
    ∃ (T' : State), Stand p l e R s m args below meth c T' locs cells slots ∧ T'.heap = h0 ∧
      ∀ target, Steps p.tables e below (T'.setTop (mkF m 797 #[s0, s1, s2, s3, .val (.int i4), s5, s6, s7, s8, s9, s10, s11, .val (.int i12), s13, s14, s15, s16, s17, s18, s19, s20, .val (.int i21), s22, s23, s24, .val (.int i4)] [])) target → Steps p.tables e below (T0.setTop (mkF m 770 #[s0, s1, s2, s3, .val (.int i4), s5, s6, s7, s8, s9, s10, s11, .val (.int i12), s13, s14, s15, s16, s17, s18, s19, s20, .val (.int i21), s22, s23, s24, s25] [])) target := by
  refine ⟨T0, X0, e0, fun target kt => ?_⟩
  show Steps p.tables e below (T0.setTop (mkF m 770 #[s0, s1, s2, s3, .val (.int i4), s5, s6, s7, s8, s9, s10, s11, .val (.int i12), s13, s14, s15, s16, s17, s18, s19, s20, .val (.int i21), s22, s23, s24, s25] [])) _
  refine XS.iload X0.here hx rfl (hb hby at_770) rfl ?_
  show Steps p.tables e below (T0.setTop (mkF m 772 #[s0, s1, s2, s3, .val (.int i4), s5, s6, s7, s8, s9, s10, s11, .val (.int i12), s13, s14, s15, s16, s17, s18, s19, s20, .val (.int i21), s22, s23, s24, s25] [(.int i21)])) _
  refine XS.iload X0.here hx rfl (hb hby at_772) rfl ?_
  show Steps p.tables e below (T0.setTop (mkF m 774 #[s0, s1, s2, s3, .val (.int i4), s5, s6, s7, s8, s9, s10, s11, .val (.int i12), s13, s14, s15, s16, s17, s18, s19, s20, .val (.int i21), s22, s23, s24, s25] [(.int i12), (.int i21)])) _
  refine XS.icmpNo X0.here hx rfl (hb hby at_774) rfl (teq hc774).2 ?_
  show Steps p.tables e below (T0.setTop (mkF m 777 #[s0, s1, s2, s3, .val (.int i4), s5, s6, s7, s8, s9, s10, s11, .val (.int i12), s13, s14, s15, s16, s17, s18, s19, s20, .val (.int i21), s22, s23, s24, s25] [])) _
  refine XS.iload X0.here hx rfl (hb hby at_777) rfl ?_
  show Steps p.tables e below (T0.setTop (mkF m 779 #[s0, s1, s2, s3, .val (.int i4), s5, s6, s7, s8, s9, s10, s11, .val (.int i12), s13, s14, s15, s16, s17, s18, s19, s20, .val (.int i21), s22, s23, s24, s25] [(.int i4)])) _
  refine XS.goto X0.here hx rfl (pc0 := 779) (pc' := 795) rfl (hb hby at_779) (by decide) (by decide) ?_
  show Steps p.tables e below (T0.setTop (mkF m 795 #[s0, s1, s2, s3, .val (.int i4), s5, s6, s7, s8, s9, s10, s11, .val (.int i12), s13, s14, s15, s16, s17, s18, s19, s20, .val (.int i21), s22, s23, s24, s25] [(.int i4)])) _
  refine XS.istore X0.here hx rfl (hb hby at_795) rfl (l' := #[s0, s1, s2, s3, .val (.int i4), s5, s6, s7, s8, s9, s10, s11, .val (.int i12), s13, s14, s15, s16, s17, s18, s19, s20, .val (.int i21), s22, s23, s24, .val (.int i4)]) (os_tnXB_f_795 hs25) ?_
  exact kt
theorem os_tnXB_tf_795 {s0 : Slot} {s1 : Slot} {s2 : Slot} {s3 : Slot} {s4 : Slot} {z5 : Value} {s6 : Slot} {s7 : Slot} {s8 : Slot} {s9 : Slot} {s10 : Slot} {s11 : Slot} {z12 : Value} {s13 : Slot} {s14 : Slot} {s15 : Slot} {s16 : Slot} {s17 : Slot} {s18 : Slot} {s19 : Slot} {s20 : Slot} {z21 : Value} {z22 : Value} {s23 : Slot} {s24 : Slot} {s25 : Slot} {v : Int32} (h : One s25) : storeLocals #[s0, s1, s2, s3, s4, .val z5, s6, s7, s8, s9, s10, s11, .val z12, s13, s14, s15, s16, s17, s18, s19, s20, .val z21, .val z22, s23, s24, s25] 25 (.int v) = some #[s0, s1, s2, s3, s4, .val z5, s6, s7, s8, s9, s10, s11, .val z12, s13, s14, s15, s16, s17, s18, s19, s20, .val z21, .val z22, s23, s24, .val (.int v)] := by
  rcases h with rfl | ⟨w, rfl, hw⟩
  · rfl
  · cases w <;> first | rfl | (simp [Value.category] at hw)
set_option maxRecDepth 65536 in
set_option maxHeartbeats 40000000 in
theorem tnXB_tf {p : Program} {l : Launch} {e : Env} {R : Room} {s : State} {m : MethodId} {args : Array Value} {below : List Frame} {meth : Method} {c : Code} {T0 : State} {locs : List Loc} {cells slots : Nat} {Z : State} {a0 : Array Value} {h0 : Heap} (s0 : Slot) (s1 : Slot) (s2 : Slot) (s3 : Slot) (s4 : Slot) (i5 : Int32) (s6 : Slot) (s7 : Slot) (s8 : Slot) (s9 : Slot) (s10 : Slot) (s11 : Slot) (i12 : Int32) (s13 : Slot) (s14 : Slot) (s15 : Slot) (s16 : Slot) (s17 : Slot) (s18 : Slot) (s19 : Slot) (s20 : Slot) (i21 : Int32) (i22 : Int32) (s23 : Slot) (s24 : Slot) (s25 : Slot)
    (X0 : Stand p l e R s m args below meth c T0 locs cells slots) (hx : p.tables.exec = Jvm.exec) (hZ : Z.Warmed39 s.vm) (hw : ∀ d ∈ tables_1, d.before a0 Z = true) (hby : c.code = code) (hml : c.maxLocals = 26) (hown : s.vm.findClass "com/example/sectionary/sectionary/tables/LongKeyIntMapGrowValuesPinLaw" = some m.cls) (e0 : T0.heap = h0) (hs25 : One s25) (hc774 : ¬ (i21 = i12)) (hc786 : i22 = i12) :
    ∃ (T' : State), Stand p l e R s m args below meth c T' locs cells slots ∧ T'.heap = h0 ∧
      ∀ target, Steps p.tables e below (T'.setTop (mkF m 797 #[s0, s1, s2, s3, s4, .val (.int i5), s6, s7, s8, s9, s10, s11, .val (.int i12), s13, s14, s15, s16, s17, s18, s19, s20, .val (.int i21), .val (.int i22), s23, s24, .val (.int i5)] [])) target → Steps p.tables e below (T0.setTop (mkF m 770 #[s0, s1, s2, s3, s4, .val (.int i5), s6, s7, s8, s9, s10, s11, .val (.int i12), s13, s14, s15, s16, s17, s18, s19, s20, .val (.int i21), .val (.int i22), s23, s24, s25] [])) target := by
  refine ⟨T0, X0, e0, fun target kt => ?_⟩
  show Steps p.tables e below (T0.setTop (mkF m 770 #[s0, s1, s2, s3, s4, .val (.int i5), s6, s7, s8, s9, s10, s11, .val (.int i12), s13, s14, s15, s16, s17, s18, s19, s20, .val (.int i21), .val (.int i22), s23, s24, s25] [])) _
  refine XS.iload X0.here hx rfl (hb hby at_770) rfl ?_
  show Steps p.tables e below (T0.setTop (mkF m 772 #[s0, s1, s2, s3, s4, .val (.int i5), s6, s7, s8, s9, s10, s11, .val (.int i12), s13, s14, s15, s16, s17, s18, s19, s20, .val (.int i21), .val (.int i22), s23, s24, s25] [(.int i21)])) _
  refine XS.iload X0.here hx rfl (hb hby at_772) rfl ?_
  show Steps p.tables e below (T0.setTop (mkF m 774 #[s0, s1, s2, s3, s4, .val (.int i5), s6, s7, s8, s9, s10, s11, .val (.int i12), s13, s14, s15, s16, s17, s18, s19, s20, .val (.int i21), .val (.int i22), s23, s24, s25] [(.int i12), (.int i21)])) _
  refine XS.icmpYes X0.here hx rfl (pc0 := 774) (pc' := 782) rfl (hb hby at_774) rfl (feq hc774).2 (by decide) (by decide) ?_
  show Steps p.tables e below (T0.setTop (mkF m 782 #[s0, s1, s2, s3, s4, .val (.int i5), s6, s7, s8, s9, s10, s11, .val (.int i12), s13, s14, s15, s16, s17, s18, s19, s20, .val (.int i21), .val (.int i22), s23, s24, s25] [])) _
  refine XS.iload X0.here hx rfl (hb hby at_782) rfl ?_
  show Steps p.tables e below (T0.setTop (mkF m 784 #[s0, s1, s2, s3, s4, .val (.int i5), s6, s7, s8, s9, s10, s11, .val (.int i12), s13, s14, s15, s16, s17, s18, s19, s20, .val (.int i21), .val (.int i22), s23, s24, s25] [(.int i22)])) _
  refine XS.iload X0.here hx rfl (hb hby at_784) rfl ?_
  show Steps p.tables e below (T0.setTop (mkF m 786 #[s0, s1, s2, s3, s4, .val (.int i5), s6, s7, s8, s9, s10, s11, .val (.int i12), s13, s14, s15, s16, s17, s18, s19, s20, .val (.int i21), .val (.int i22), s23, s24, s25] [(.int i12), (.int i22)])) _
  refine XS.icmpNo X0.here hx rfl (hb hby at_786) rfl (teq hc786).2 ?_
  show Steps p.tables e below (T0.setTop (mkF m 789 #[s0, s1, s2, s3, s4, .val (.int i5), s6, s7, s8, s9, s10, s11, .val (.int i12), s13, s14, s15, s16, s17, s18, s19, s20, .val (.int i21), .val (.int i22), s23, s24, s25] [])) _
  refine XS.iload X0.here hx rfl (hb hby at_789) rfl ?_
  show Steps p.tables e below (T0.setTop (mkF m 791 #[s0, s1, s2, s3, s4, .val (.int i5), s6, s7, s8, s9, s10, s11, .val (.int i12), s13, s14, s15, s16, s17, s18, s19, s20, .val (.int i21), .val (.int i22), s23, s24, s25] [(.int i5)])) _
  refine XS.goto X0.here hx rfl (pc0 := 791) (pc' := 795) rfl (hb hby at_791) (by decide) (by decide) ?_
  show Steps p.tables e below (T0.setTop (mkF m 795 #[s0, s1, s2, s3, s4, .val (.int i5), s6, s7, s8, s9, s10, s11, .val (.int i12), s13, s14, s15, s16, s17, s18, s19, s20, .val (.int i21), .val (.int i22), s23, s24, s25] [(.int i5)])) _
  refine XS.istore X0.here hx rfl (hb hby at_795) rfl (l' := #[s0, s1, s2, s3, s4, .val (.int i5), s6, s7, s8, s9, s10, s11, .val (.int i12), s13, s14, s15, s16, s17, s18, s19, s20, .val (.int i21), .val (.int i22), s23, s24, .val (.int i5)]) (os_tnXB_tf_795 hs25) ?_
  exact kt
theorem os_tnXB_tt_795 {s0 : Slot} {s1 : Slot} {s2 : Slot} {s3 : Slot} {s4 : Slot} {s5 : Slot} {s6 : Slot} {s7 : Slot} {s8 : Slot} {s9 : Slot} {s10 : Slot} {s11 : Slot} {z12 : Value} {s13 : Slot} {s14 : Slot} {s15 : Slot} {s16 : Slot} {s17 : Slot} {s18 : Slot} {s19 : Slot} {s20 : Slot} {z21 : Value} {z22 : Value} {s23 : Slot} {s24 : Slot} {s25 : Slot} {v : Int32} (h : One s25) : storeLocals #[s0, s1, s2, s3, s4, s5, s6, s7, s8, s9, s10, s11, .val z12, s13, s14, s15, s16, s17, s18, s19, s20, .val z21, .val z22, s23, s24, s25] 25 (.int v) = some #[s0, s1, s2, s3, s4, s5, s6, s7, s8, s9, s10, s11, .val z12, s13, s14, s15, s16, s17, s18, s19, s20, .val z21, .val z22, s23, s24, .val (.int v)] := by
  rcases h with rfl | ⟨w, rfl, hw⟩
  · rfl
  · cases w <;> first | rfl | (simp [Value.category] at hw)
set_option maxRecDepth 65536 in
set_option maxHeartbeats 40000000 in
theorem tnXB_tt {p : Program} {l : Launch} {e : Env} {R : Room} {s : State} {m : MethodId} {args : Array Value} {below : List Frame} {meth : Method} {c : Code} {T0 : State} {locs : List Loc} {cells slots : Nat} {Z : State} {a0 : Array Value} {h0 : Heap} (s0 : Slot) (s1 : Slot) (s2 : Slot) (s3 : Slot) (s4 : Slot) (s5 : Slot) (s6 : Slot) (s7 : Slot) (s8 : Slot) (s9 : Slot) (s10 : Slot) (s11 : Slot) (i12 : Int32) (s13 : Slot) (s14 : Slot) (s15 : Slot) (s16 : Slot) (s17 : Slot) (s18 : Slot) (s19 : Slot) (s20 : Slot) (i21 : Int32) (i22 : Int32) (s23 : Slot) (s24 : Slot) (s25 : Slot)
    (X0 : Stand p l e R s m args below meth c T0 locs cells slots) (hx : p.tables.exec = Jvm.exec) (hZ : Z.Warmed39 s.vm) (hw : ∀ d ∈ tables_1, d.before a0 Z = true) (hby : c.code = code) (hml : c.maxLocals = 26) (hown : s.vm.findClass "com/example/sectionary/sectionary/tables/LongKeyIntMapGrowValuesPinLaw" = some m.cls) (e0 : T0.heap = h0) (hs25 : One s25) (hc774 : ¬ (i21 = i12)) (hc786 : ¬ (i22 = i12)) :
    ∃ (T' : State), Stand p l e R s m args below meth c T' locs cells slots ∧ T'.heap = h0 ∧
      ∀ target, Steps p.tables e below (T'.setTop (mkF m 797 #[s0, s1, s2, s3, s4, s5, s6, s7, s8, s9, s10, s11, .val (.int i12), s13, s14, s15, s16, s17, s18, s19, s20, .val (.int i21), .val (.int i22), s23, s24, .val (.int (0 : Int32))] [])) target → Steps p.tables e below (T0.setTop (mkF m 770 #[s0, s1, s2, s3, s4, s5, s6, s7, s8, s9, s10, s11, .val (.int i12), s13, s14, s15, s16, s17, s18, s19, s20, .val (.int i21), .val (.int i22), s23, s24, s25] [])) target := by
  refine ⟨T0, X0, e0, fun target kt => ?_⟩
  show Steps p.tables e below (T0.setTop (mkF m 770 #[s0, s1, s2, s3, s4, s5, s6, s7, s8, s9, s10, s11, .val (.int i12), s13, s14, s15, s16, s17, s18, s19, s20, .val (.int i21), .val (.int i22), s23, s24, s25] [])) _
  refine XS.iload X0.here hx rfl (hb hby at_770) rfl ?_
  show Steps p.tables e below (T0.setTop (mkF m 772 #[s0, s1, s2, s3, s4, s5, s6, s7, s8, s9, s10, s11, .val (.int i12), s13, s14, s15, s16, s17, s18, s19, s20, .val (.int i21), .val (.int i22), s23, s24, s25] [(.int i21)])) _
  refine XS.iload X0.here hx rfl (hb hby at_772) rfl ?_
  show Steps p.tables e below (T0.setTop (mkF m 774 #[s0, s1, s2, s3, s4, s5, s6, s7, s8, s9, s10, s11, .val (.int i12), s13, s14, s15, s16, s17, s18, s19, s20, .val (.int i21), .val (.int i22), s23, s24, s25] [(.int i12), (.int i21)])) _
  refine XS.icmpYes X0.here hx rfl (pc0 := 774) (pc' := 782) rfl (hb hby at_774) rfl (feq hc774).2 (by decide) (by decide) ?_
  show Steps p.tables e below (T0.setTop (mkF m 782 #[s0, s1, s2, s3, s4, s5, s6, s7, s8, s9, s10, s11, .val (.int i12), s13, s14, s15, s16, s17, s18, s19, s20, .val (.int i21), .val (.int i22), s23, s24, s25] [])) _
  refine XS.iload X0.here hx rfl (hb hby at_782) rfl ?_
  show Steps p.tables e below (T0.setTop (mkF m 784 #[s0, s1, s2, s3, s4, s5, s6, s7, s8, s9, s10, s11, .val (.int i12), s13, s14, s15, s16, s17, s18, s19, s20, .val (.int i21), .val (.int i22), s23, s24, s25] [(.int i22)])) _
  refine XS.iload X0.here hx rfl (hb hby at_784) rfl ?_
  show Steps p.tables e below (T0.setTop (mkF m 786 #[s0, s1, s2, s3, s4, s5, s6, s7, s8, s9, s10, s11, .val (.int i12), s13, s14, s15, s16, s17, s18, s19, s20, .val (.int i21), .val (.int i22), s23, s24, s25] [(.int i12), (.int i22)])) _
  refine XS.icmpYes X0.here hx rfl (pc0 := 786) (pc' := 794) rfl (hb hby at_786) rfl (feq hc786).2 (by decide) (by decide) ?_
  show Steps p.tables e below (T0.setTop (mkF m 794 #[s0, s1, s2, s3, s4, s5, s6, s7, s8, s9, s10, s11, .val (.int i12), s13, s14, s15, s16, s17, s18, s19, s20, .val (.int i21), .val (.int i22), s23, s24, s25] [])) _
  refine XS.iconst X0.here hx rfl (hb hby at_794) ?_
  show Steps p.tables e below (T0.setTop (mkF m 795 #[s0, s1, s2, s3, s4, s5, s6, s7, s8, s9, s10, s11, .val (.int i12), s13, s14, s15, s16, s17, s18, s19, s20, .val (.int i21), .val (.int i22), s23, s24, s25] [(.int (0 : Int32))])) _
  refine XS.istore X0.here hx rfl (hb hby at_795) rfl (l' := #[s0, s1, s2, s3, s4, s5, s6, s7, s8, s9, s10, s11, .val (.int i12), s13, s14, s15, s16, s17, s18, s19, s20, .val (.int i21), .val (.int i22), s23, s24, .val (.int (0 : Int32))]) (os_tnXB_tt_795 hs25) ?_
  exact kt
theorem own_segXB {p : Program} {l : Launch} {e : Env} {R : Room} {s : State} {m : MethodId} {args : Array Value} {below : List Frame} {meth : Method} {c : Code} {T0 : State} {locs : List Loc} {cells slots : Nat} {Z : State} {a0 : Array Value} {h0 : Heap} (q1 q2 kb : Int64) (p3 p4 p5 p6 r1 r2 len yy e1 e2 f1 f2 : Int32) (b7 b17 : Addr)
    (X0 : Stand p l e R s m args below meth c T0 locs cells slots) (hx : p.tables.exec = Jvm.exec) (hZ : Z.Warmed39 s.vm) (hw : ∀ d ∈ tables_1, d.before a0 Z = true) (hby : c.code = code) (hml : c.maxLocals = 26) (hown : s.vm.findClass "com/example/sectionary/sectionary/tables/LongKeyIntMapGrowValuesPinLaw" = some m.cls) (e0 : T0.heap = h0) (hf : f2 = own_ex e1 e2 r2 p3 p4) :
    ∃ (T' : State), Stand p l e R s m args below meth c T' locs cells slots ∧ T'.heap = h0 ∧
      ∀ target, Steps p.tables e below (T'.setTop (mkF m 797 #[.val (.long q1), .second, .val (.long q2), .second, .val (.int p3), .val (.int p4), .val (.int p5), .val (.int p6), .val (.long kb), .second, .val (.ref b7), .val (.int r1), .val (.int r2), .val (.int (own_min r1 r2)), .val (.int (own_max r1 r2)), .val (.int len), .val (.int (own_x1 p6 len)), .val (.int (own_w (own_x1 p6 len) r1 r2)), .val (.int yy), .val (.int (own_w yy r1 r2)), .val (.int (own_md p5)), .val (.int e1), .val (.int e2), .val (.ref b17), .val (.int f1), .val (.int f2)] [])) target → Steps p.tables e below (T0.setTop (mkF m 770 #[.val (.long q1), .second, .val (.long q2), .second, .val (.int p3), .val (.int p4), .val (.int p5), .val (.int p6), .val (.long kb), .second, .val (.ref b7), .val (.int r1), .val (.int r2), .val (.int (own_min r1 r2)), .val (.int (own_max r1 r2)), .val (.int len), .val (.int (own_x1 p6 len)), .val (.int (own_w (own_x1 p6 len) r1 r2)), .val (.int yy), .val (.int (own_w yy r1 r2)), .val (.int (own_md p5)), .val (.int e1), .val (.int e2), .val (.ref b17), .val (.int f1), .unset] [])) target := by
  unfold own_ex at hf
  by_cases h1 : e1 = r2
  · rw [if_pos h1] at hf; have hf := hf.symm; subst hf
    exact tnXB_f (.val (.long q1)) .second (.val (.long q2)) .second p3 (.val (.int p4)) (.val (.int p5)) (.val (.int p6)) (.val (.long kb)) .second (.val (.ref b7)) (.val (.int r1)) r2 (.val (.int (own_min r1 r2))) (.val (.int (own_max r1 r2))) (.val (.int len)) (.val (.int (own_x1 p6 len))) (.val (.int (own_w (own_x1 p6 len) r1 r2))) (.val (.int yy)) (.val (.int (own_w yy r1 r2))) (.val (.int (own_md p5))) e1 (.val (.int e2)) (.val (.ref b17)) (.val (.int f1)) .unset X0 hx hZ hw hby hml hown e0 One.u h1
  · rw [if_neg h1] at hf
    by_cases h2 : e2 = r2
    · rw [if_pos h2] at hf; have hf := hf.symm; subst hf
      exact tnXB_tf (.val (.long q1)) .second (.val (.long q2)) .second (.val (.int p3)) p4 (.val (.int p5)) (.val (.int p6)) (.val (.long kb)) .second (.val (.ref b7)) (.val (.int r1)) r2 (.val (.int (own_min r1 r2))) (.val (.int (own_max r1 r2))) (.val (.int len)) (.val (.int (own_x1 p6 len))) (.val (.int (own_w (own_x1 p6 len) r1 r2))) (.val (.int yy)) (.val (.int (own_w yy r1 r2))) (.val (.int (own_md p5))) e1 e2 (.val (.ref b17)) (.val (.int f1)) .unset X0 hx hZ hw hby hml hown e0 One.u h1 h2
    · rw [if_neg h2] at hf; subst hf
      exact tnXB_tt (.val (.long q1)) .second (.val (.long q2)) .second (.val (.int p3)) (.val (.int p4)) (.val (.int p5)) (.val (.int p6)) (.val (.long kb)) .second (.val (.ref b7)) (.val (.int r1)) r2 (.val (.int (own_min r1 r2))) (.val (.int (own_max r1 r2))) (.val (.int len)) (.val (.int (own_x1 p6 len))) (.val (.int (own_w (own_x1 p6 len) r1 r2))) (.val (.int yy)) (.val (.int (own_w yy r1 r2))) (.val (.int (own_md p5))) e1 e2 (.val (.ref b17)) (.val (.int f1)) .unset X0 hx hZ hw hby hml hown e0 One.u h1 h2
def own_ff (i : Nat) : Nat → Int64 := fun j => if j < i then -1 else 0
theorem own_one {p : Program} {l : Launch} {e : Env} {R : Room} {s : State} {m : MethodId} {args : Array Value} {below : List Frame} {meth : Method} {c : Code} {T0 : State} {locs : List Loc} {cells slots : Nat} {Z : State} {a0 : Array Value} {h0 : Heap} {h00 : Heap} (i : Nat) (j : Int32) (d : Addr) (Lo : Array Slot) (pc pc' : Nat) (n0 : Nat)
    (X0 : Stand p l e R s m args below meth c T0 locs cells slots) (hx : p.tables.exec = Jvm.exec) (hZ : Z.Warmed39 s.vm) (hw : ∀ d ∈ tables_1, d.before a0 Z = true) (hby : c.code = code) (hml : c.maxLocals = 26) (hown : s.vm.findClass "com/example/sectionary/sectionary/tables/LongKeyIntMapGrowValuesPinLaw" = some m.cls) (e0 : T0.heap = h0) (N0 : Fr n0 locs) (g_d : n0 ≤ d) (K0 : Keep h00 h0 [d]) (F : own_L Z h0 d 64 (own_ff i)) (hj : j.toNatClampNeg = i) (hj0 : ¬ j < 0) (hi : i < 64)
    (h3 : decode code pc' = .ok (.ldc2_w 35, 3)) (h4 : decode code (pc' + 3) = .ok (.lastore, 1))
    (hpush : ∀ target, Steps p.tables e below (T0.setTop (mkF m pc' Lo [.int j, .ref d, .ref d])) target → Steps p.tables e below (T0.setTop (mkF m pc Lo [.ref d])) target) :
    ∃ (T' : State) (h' : Heap) (locs' : List Loc), Stand p l e R s m args below meth c T' locs' cells slots ∧ T'.heap = h' ∧ Fr n0 locs' ∧ Keep h00 h' [d] ∧ own_L Z h' d 64 (own_ff (i + 1)) ∧
      ∀ target, Steps p.tables e below (T'.setTop (mkF m (pc' + 4) Lo [.ref d])) target → Steps p.tables e below (T0.setTop (mkF m pc Lo [.ref d])) target := by
  obtain ⟨cl, A, S, H⟩ := id F
  obtain ⟨T1, h1, X1, e1, W1, st1⟩ := stJ X0 hx hZ e0 A (j := j) (x := -1) (own_in S hj0 (by rw [hj]; exact hi)) (g := (mkF m (pc' + 3) Lo [.long (-1), .int j, .ref d, .ref d])) rfl rfl (hb hby h4)
  refine ⟨T1, h1, _, X1, e1, Fr.snoc X1 N0 g_d, K0.wr W1 (Or.inl (List.mem_of_getElem? (i := 0) rfl)), ?_, fun target kt => hpush _ ?_⟩
  · rw [hj] at W1
    refine own_L_to (own_L_set F W1) fun q hq => ?_
    show (if q = i then (-1 : Int64) else if q < i then -1 else 0) = if q < i + 1 then -1 else 0
    by_cases z1 : q = i
    · rw [if_pos z1, if_pos (by omega)]
    · by_cases z2 : q < i
      · rw [if_neg z1, if_pos z2, if_pos (by omega)]
      · rw [if_neg z1, if_neg z2, if_neg (by omega)]
  · refine X0.ldc2Long hx hown (mvT hZ (hw _ (List.mem_of_getElem? (i := 74) rfl))) (g := (mkF m pc' Lo [.int j, .ref d, .ref d])) rfl (hb hby h3) _ ?_
    exact st1 _ kt
set_option maxRecDepth 65536 in
set_option maxHeartbeats 40000000 in
theorem own_fill {p : Program} {l : Launch} {e : Env} {R : Room} {s : State} {m : MethodId} {args : Array Value} {below : List Frame} {meth : Method} {c : Code} {T0 : State} {locs : List Loc} {cells slots : Nat} {Z : State} {a0 : Array Value} {h0 : Heap} (d : Addr) (Lo : Array Slot) (n0 : Nat)
    (X0 : Stand p l e R s m args below meth c T0 locs cells slots) (hx : p.tables.exec = Jvm.exec) (hZ : Z.Warmed39 s.vm) (hw : ∀ d ∈ tables_1, d.before a0 Z = true) (hby : c.code = code) (hml : c.maxLocals = 26) (hown : s.vm.findClass "com/example/sectionary/sectionary/tables/LongKeyIntMapGrowValuesPinLaw" = some m.cls) (e0 : T0.heap = h0) (N0 : Fr n0 locs) (g_d : n0 ≤ d) (F0 : own_L Z h0 d 64 (own_ff 0)) :
    ∃ (T' : State) (h' : Heap) (locs' : List Loc), Stand p l e R s m args below meth c T' locs' cells slots ∧ T'.heap = h' ∧ Fr n0 locs' ∧ Keep h0 h' [d] ∧ own_L Z h' d 64 (own_ff 64) ∧
      ∀ target, Steps p.tables e below (T'.setTop (mkF m 716 Lo [.ref d])) target → Steps p.tables e below (T0.setTop (mkF m 274 Lo [.ref d])) target := by
  have K0 : Keep h0 h0 [d] := Keep.refl _ _
  obtain ⟨T1, h1, L1, X1, e1, N1, K1, F1, s1⟩ := own_one 0 0 d Lo 274 276 n0 X0 hx hZ hw hby hml hown e0 N0 g_d K0 F0 (by decide) (by decide) (by decide) at_276 at_279 (fun target kt => by
    refine XS.dup X0.here hx rfl (hb hby at_274) rfl rfl ?_
    refine XS.iconst X0.here hx rfl (hb hby at_275) ?_
    exact kt)
  obtain ⟨T2, h2, L2, X2, e2, N2, K2, F2, s2⟩ := own_one 1 1 d Lo 280 282 n0 X1 hx hZ hw hby hml hown e1 N1 g_d K1 F1 (by decide) (by decide) (by decide) at_282 at_285 (fun target kt => by
    refine XS.dup X1.here hx rfl (hb hby at_280) rfl rfl ?_
    refine XS.iconst X1.here hx rfl (hb hby at_281) ?_
    exact kt)
  obtain ⟨T3, h3, L3, X3, e3, N3, K3, F3, s3⟩ := own_one 2 2 d Lo 286 288 n0 X2 hx hZ hw hby hml hown e2 N2 g_d K2 F2 (by decide) (by decide) (by decide) at_288 at_291 (fun target kt => by
    refine XS.dup X2.here hx rfl (hb hby at_286) rfl rfl ?_
    refine XS.iconst X2.here hx rfl (hb hby at_287) ?_
    exact kt)
  obtain ⟨T4, h4, L4, X4, e4, N4, K4, F4, s4⟩ := own_one 3 3 d Lo 292 294 n0 X3 hx hZ hw hby hml hown e3 N3 g_d K3 F3 (by decide) (by decide) (by decide) at_294 at_297 (fun target kt => by
    refine XS.dup X3.here hx rfl (hb hby at_292) rfl rfl ?_
    refine XS.iconst X3.here hx rfl (hb hby at_293) ?_
    exact kt)
  obtain ⟨T5, h5, L5, X5, e5, N5, K5, F5, s5⟩ := own_one 4 4 d Lo 298 300 n0 X4 hx hZ hw hby hml hown e4 N4 g_d K4 F4 (by decide) (by decide) (by decide) at_300 at_303 (fun target kt => by
    refine XS.dup X4.here hx rfl (hb hby at_298) rfl rfl ?_
    refine XS.iconst X4.here hx rfl (hb hby at_299) ?_
    exact kt)
  obtain ⟨T6, h6, L6, X6, e6, N6, K6, F6, s6⟩ := own_one 5 5 d Lo 304 306 n0 X5 hx hZ hw hby hml hown e5 N5 g_d K5 F5 (by decide) (by decide) (by decide) at_306 at_309 (fun target kt => by
    refine XS.dup X5.here hx rfl (hb hby at_304) rfl rfl ?_
    refine XS.iconst X5.here hx rfl (hb hby at_305) ?_
    exact kt)
  obtain ⟨T7, h7, L7, X7, e7, N7, K7, F7, s7⟩ := own_one 6 6 d Lo 310 313 n0 X6 hx hZ hw hby hml hown e6 N6 g_d K6 F6 (by decide) (by decide) (by decide) at_313 at_316 (fun target kt => by
    refine XS.dup X6.here hx rfl (hb hby at_310) rfl rfl ?_
    refine XS.bipush X6.here hx rfl (hb hby at_311) ?_
    exact kt)
  obtain ⟨T8, h8, L8, X8, e8, N8, K8, F8, s8⟩ := own_one 7 7 d Lo 317 320 n0 X7 hx hZ hw hby hml hown e7 N7 g_d K7 F7 (by decide) (by decide) (by decide) at_320 at_323 (fun target kt => by
    refine XS.dup X7.here hx rfl (hb hby at_317) rfl rfl ?_
    refine XS.bipush X7.here hx rfl (hb hby at_318) ?_
    exact kt)
  obtain ⟨T9, h9, L9, X9, e9, N9, K9, F9, s9⟩ := own_one 8 8 d Lo 324 327 n0 X8 hx hZ hw hby hml hown e8 N8 g_d K8 F8 (by decide) (by decide) (by decide) at_327 at_330 (fun target kt => by
    refine XS.dup X8.here hx rfl (hb hby at_324) rfl rfl ?_
    refine XS.bipush X8.here hx rfl (hb hby at_325) ?_
    exact kt)
  obtain ⟨T10, h10, L10, X10, e10, N10, K10, F10, s10⟩ := own_one 9 9 d Lo 331 334 n0 X9 hx hZ hw hby hml hown e9 N9 g_d K9 F9 (by decide) (by decide) (by decide) at_334 at_337 (fun target kt => by
    refine XS.dup X9.here hx rfl (hb hby at_331) rfl rfl ?_
    refine XS.bipush X9.here hx rfl (hb hby at_332) ?_
    exact kt)
  obtain ⟨T11, h11, L11, X11, e11, N11, K11, F11, s11⟩ := own_one 10 10 d Lo 338 341 n0 X10 hx hZ hw hby hml hown e10 N10 g_d K10 F10 (by decide) (by decide) (by decide) at_341 at_344 (fun target kt => by
    refine XS.dup X10.here hx rfl (hb hby at_338) rfl rfl ?_
    refine XS.bipush X10.here hx rfl (hb hby at_339) ?_
    exact kt)
  obtain ⟨T12, h12, L12, X12, e12, N12, K12, F12, s12⟩ := own_one 11 11 d Lo 345 348 n0 X11 hx hZ hw hby hml hown e11 N11 g_d K11 F11 (by decide) (by decide) (by decide) at_348 at_351 (fun target kt => by
    refine XS.dup X11.here hx rfl (hb hby at_345) rfl rfl ?_
    refine XS.bipush X11.here hx rfl (hb hby at_346) ?_
    exact kt)
  obtain ⟨T13, h13, L13, X13, e13, N13, K13, F13, s13⟩ := own_one 12 12 d Lo 352 355 n0 X12 hx hZ hw hby hml hown e12 N12 g_d K12 F12 (by decide) (by decide) (by decide) at_355 at_358 (fun target kt => by
    refine XS.dup X12.here hx rfl (hb hby at_352) rfl rfl ?_
    refine XS.bipush X12.here hx rfl (hb hby at_353) ?_
    exact kt)
  obtain ⟨T14, h14, L14, X14, e14, N14, K14, F14, s14⟩ := own_one 13 13 d Lo 359 362 n0 X13 hx hZ hw hby hml hown e13 N13 g_d K13 F13 (by decide) (by decide) (by decide) at_362 at_365 (fun target kt => by
    refine XS.dup X13.here hx rfl (hb hby at_359) rfl rfl ?_
    refine XS.bipush X13.here hx rfl (hb hby at_360) ?_
    exact kt)
  obtain ⟨T15, h15, L15, X15, e15, N15, K15, F15, s15⟩ := own_one 14 14 d Lo 366 369 n0 X14 hx hZ hw hby hml hown e14 N14 g_d K14 F14 (by decide) (by decide) (by decide) at_369 at_372 (fun target kt => by
    refine XS.dup X14.here hx rfl (hb hby at_366) rfl rfl ?_
    refine XS.bipush X14.here hx rfl (hb hby at_367) ?_
    exact kt)
  obtain ⟨T16, h16, L16, X16, e16, N16, K16, F16, s16⟩ := own_one 15 15 d Lo 373 376 n0 X15 hx hZ hw hby hml hown e15 N15 g_d K15 F15 (by decide) (by decide) (by decide) at_376 at_379 (fun target kt => by
    refine XS.dup X15.here hx rfl (hb hby at_373) rfl rfl ?_
    refine XS.bipush X15.here hx rfl (hb hby at_374) ?_
    exact kt)
  obtain ⟨T17, h17, L17, X17, e17, N17, K17, F17, s17⟩ := own_one 16 16 d Lo 380 383 n0 X16 hx hZ hw hby hml hown e16 N16 g_d K16 F16 (by decide) (by decide) (by decide) at_383 at_386 (fun target kt => by
    refine XS.dup X16.here hx rfl (hb hby at_380) rfl rfl ?_
    refine XS.bipush X16.here hx rfl (hb hby at_381) ?_
    exact kt)
  obtain ⟨T18, h18, L18, X18, e18, N18, K18, F18, s18⟩ := own_one 17 17 d Lo 387 390 n0 X17 hx hZ hw hby hml hown e17 N17 g_d K17 F17 (by decide) (by decide) (by decide) at_390 at_393 (fun target kt => by
    refine XS.dup X17.here hx rfl (hb hby at_387) rfl rfl ?_
    refine XS.bipush X17.here hx rfl (hb hby at_388) ?_
    exact kt)
  obtain ⟨T19, h19, L19, X19, e19, N19, K19, F19, s19⟩ := own_one 18 18 d Lo 394 397 n0 X18 hx hZ hw hby hml hown e18 N18 g_d K18 F18 (by decide) (by decide) (by decide) at_397 at_400 (fun target kt => by
    refine XS.dup X18.here hx rfl (hb hby at_394) rfl rfl ?_
    refine XS.bipush X18.here hx rfl (hb hby at_395) ?_
    exact kt)
  obtain ⟨T20, h20, L20, X20, e20, N20, K20, F20, s20⟩ := own_one 19 19 d Lo 401 404 n0 X19 hx hZ hw hby hml hown e19 N19 g_d K19 F19 (by decide) (by decide) (by decide) at_404 at_407 (fun target kt => by
    refine XS.dup X19.here hx rfl (hb hby at_401) rfl rfl ?_
    refine XS.bipush X19.here hx rfl (hb hby at_402) ?_
    exact kt)
  obtain ⟨T21, h21, L21, X21, e21, N21, K21, F21, s21⟩ := own_one 20 20 d Lo 408 411 n0 X20 hx hZ hw hby hml hown e20 N20 g_d K20 F20 (by decide) (by decide) (by decide) at_411 at_414 (fun target kt => by
    refine XS.dup X20.here hx rfl (hb hby at_408) rfl rfl ?_
    refine XS.bipush X20.here hx rfl (hb hby at_409) ?_
    exact kt)
  obtain ⟨T22, h22, L22, X22, e22, N22, K22, F22, s22⟩ := own_one 21 21 d Lo 415 418 n0 X21 hx hZ hw hby hml hown e21 N21 g_d K21 F21 (by decide) (by decide) (by decide) at_418 at_421 (fun target kt => by
    refine XS.dup X21.here hx rfl (hb hby at_415) rfl rfl ?_
    refine XS.bipush X21.here hx rfl (hb hby at_416) ?_
    exact kt)
  obtain ⟨T23, h23, L23, X23, e23, N23, K23, F23, s23⟩ := own_one 22 22 d Lo 422 425 n0 X22 hx hZ hw hby hml hown e22 N22 g_d K22 F22 (by decide) (by decide) (by decide) at_425 at_428 (fun target kt => by
    refine XS.dup X22.here hx rfl (hb hby at_422) rfl rfl ?_
    refine XS.bipush X22.here hx rfl (hb hby at_423) ?_
    exact kt)
  obtain ⟨T24, h24, L24, X24, e24, N24, K24, F24, s24⟩ := own_one 23 23 d Lo 429 432 n0 X23 hx hZ hw hby hml hown e23 N23 g_d K23 F23 (by decide) (by decide) (by decide) at_432 at_435 (fun target kt => by
    refine XS.dup X23.here hx rfl (hb hby at_429) rfl rfl ?_
    refine XS.bipush X23.here hx rfl (hb hby at_430) ?_
    exact kt)
  obtain ⟨T25, h25, L25, X25, e25, N25, K25, F25, s25⟩ := own_one 24 24 d Lo 436 439 n0 X24 hx hZ hw hby hml hown e24 N24 g_d K24 F24 (by decide) (by decide) (by decide) at_439 at_442 (fun target kt => by
    refine XS.dup X24.here hx rfl (hb hby at_436) rfl rfl ?_
    refine XS.bipush X24.here hx rfl (hb hby at_437) ?_
    exact kt)
  obtain ⟨T26, h26, L26, X26, e26, N26, K26, F26, s26⟩ := own_one 25 25 d Lo 443 446 n0 X25 hx hZ hw hby hml hown e25 N25 g_d K25 F25 (by decide) (by decide) (by decide) at_446 at_449 (fun target kt => by
    refine XS.dup X25.here hx rfl (hb hby at_443) rfl rfl ?_
    refine XS.bipush X25.here hx rfl (hb hby at_444) ?_
    exact kt)
  obtain ⟨T27, h27, L27, X27, e27, N27, K27, F27, s27⟩ := own_one 26 26 d Lo 450 453 n0 X26 hx hZ hw hby hml hown e26 N26 g_d K26 F26 (by decide) (by decide) (by decide) at_453 at_456 (fun target kt => by
    refine XS.dup X26.here hx rfl (hb hby at_450) rfl rfl ?_
    refine XS.bipush X26.here hx rfl (hb hby at_451) ?_
    exact kt)
  obtain ⟨T28, h28, L28, X28, e28, N28, K28, F28, s28⟩ := own_one 27 27 d Lo 457 460 n0 X27 hx hZ hw hby hml hown e27 N27 g_d K27 F27 (by decide) (by decide) (by decide) at_460 at_463 (fun target kt => by
    refine XS.dup X27.here hx rfl (hb hby at_457) rfl rfl ?_
    refine XS.bipush X27.here hx rfl (hb hby at_458) ?_
    exact kt)
  obtain ⟨T29, h29, L29, X29, e29, N29, K29, F29, s29⟩ := own_one 28 28 d Lo 464 467 n0 X28 hx hZ hw hby hml hown e28 N28 g_d K28 F28 (by decide) (by decide) (by decide) at_467 at_470 (fun target kt => by
    refine XS.dup X28.here hx rfl (hb hby at_464) rfl rfl ?_
    refine XS.bipush X28.here hx rfl (hb hby at_465) ?_
    exact kt)
  obtain ⟨T30, h30, L30, X30, e30, N30, K30, F30, s30⟩ := own_one 29 29 d Lo 471 474 n0 X29 hx hZ hw hby hml hown e29 N29 g_d K29 F29 (by decide) (by decide) (by decide) at_474 at_477 (fun target kt => by
    refine XS.dup X29.here hx rfl (hb hby at_471) rfl rfl ?_
    refine XS.bipush X29.here hx rfl (hb hby at_472) ?_
    exact kt)
  obtain ⟨T31, h31, L31, X31, e31, N31, K31, F31, s31⟩ := own_one 30 30 d Lo 478 481 n0 X30 hx hZ hw hby hml hown e30 N30 g_d K30 F30 (by decide) (by decide) (by decide) at_481 at_484 (fun target kt => by
    refine XS.dup X30.here hx rfl (hb hby at_478) rfl rfl ?_
    refine XS.bipush X30.here hx rfl (hb hby at_479) ?_
    exact kt)
  obtain ⟨T32, h32, L32, X32, e32, N32, K32, F32, s32⟩ := own_one 31 31 d Lo 485 488 n0 X31 hx hZ hw hby hml hown e31 N31 g_d K31 F31 (by decide) (by decide) (by decide) at_488 at_491 (fun target kt => by
    refine XS.dup X31.here hx rfl (hb hby at_485) rfl rfl ?_
    refine XS.bipush X31.here hx rfl (hb hby at_486) ?_
    exact kt)
  obtain ⟨T33, h33, L33, X33, e33, N33, K33, F33, s33⟩ := own_one 32 32 d Lo 492 495 n0 X32 hx hZ hw hby hml hown e32 N32 g_d K32 F32 (by decide) (by decide) (by decide) at_495 at_498 (fun target kt => by
    refine XS.dup X32.here hx rfl (hb hby at_492) rfl rfl ?_
    refine XS.bipush X32.here hx rfl (hb hby at_493) ?_
    exact kt)
  obtain ⟨T34, h34, L34, X34, e34, N34, K34, F34, s34⟩ := own_one 33 33 d Lo 499 502 n0 X33 hx hZ hw hby hml hown e33 N33 g_d K33 F33 (by decide) (by decide) (by decide) at_502 at_505 (fun target kt => by
    refine XS.dup X33.here hx rfl (hb hby at_499) rfl rfl ?_
    refine XS.bipush X33.here hx rfl (hb hby at_500) ?_
    exact kt)
  obtain ⟨T35, h35, L35, X35, e35, N35, K35, F35, s35⟩ := own_one 34 34 d Lo 506 509 n0 X34 hx hZ hw hby hml hown e34 N34 g_d K34 F34 (by decide) (by decide) (by decide) at_509 at_512 (fun target kt => by
    refine XS.dup X34.here hx rfl (hb hby at_506) rfl rfl ?_
    refine XS.bipush X34.here hx rfl (hb hby at_507) ?_
    exact kt)
  obtain ⟨T36, h36, L36, X36, e36, N36, K36, F36, s36⟩ := own_one 35 35 d Lo 513 516 n0 X35 hx hZ hw hby hml hown e35 N35 g_d K35 F35 (by decide) (by decide) (by decide) at_516 at_519 (fun target kt => by
    refine XS.dup X35.here hx rfl (hb hby at_513) rfl rfl ?_
    refine XS.bipush X35.here hx rfl (hb hby at_514) ?_
    exact kt)
  obtain ⟨T37, h37, L37, X37, e37, N37, K37, F37, s37⟩ := own_one 36 36 d Lo 520 523 n0 X36 hx hZ hw hby hml hown e36 N36 g_d K36 F36 (by decide) (by decide) (by decide) at_523 at_526 (fun target kt => by
    refine XS.dup X36.here hx rfl (hb hby at_520) rfl rfl ?_
    refine XS.bipush X36.here hx rfl (hb hby at_521) ?_
    exact kt)
  obtain ⟨T38, h38, L38, X38, e38, N38, K38, F38, s38⟩ := own_one 37 37 d Lo 527 530 n0 X37 hx hZ hw hby hml hown e37 N37 g_d K37 F37 (by decide) (by decide) (by decide) at_530 at_533 (fun target kt => by
    refine XS.dup X37.here hx rfl (hb hby at_527) rfl rfl ?_
    refine XS.bipush X37.here hx rfl (hb hby at_528) ?_
    exact kt)
  obtain ⟨T39, h39, L39, X39, e39, N39, K39, F39, s39⟩ := own_one 38 38 d Lo 534 537 n0 X38 hx hZ hw hby hml hown e38 N38 g_d K38 F38 (by decide) (by decide) (by decide) at_537 at_540 (fun target kt => by
    refine XS.dup X38.here hx rfl (hb hby at_534) rfl rfl ?_
    refine XS.bipush X38.here hx rfl (hb hby at_535) ?_
    exact kt)
  obtain ⟨T40, h40, L40, X40, e40, N40, K40, F40, s40⟩ := own_one 39 39 d Lo 541 544 n0 X39 hx hZ hw hby hml hown e39 N39 g_d K39 F39 (by decide) (by decide) (by decide) at_544 at_547 (fun target kt => by
    refine XS.dup X39.here hx rfl (hb hby at_541) rfl rfl ?_
    refine XS.bipush X39.here hx rfl (hb hby at_542) ?_
    exact kt)
  obtain ⟨T41, h41, L41, X41, e41, N41, K41, F41, s41⟩ := own_one 40 40 d Lo 548 551 n0 X40 hx hZ hw hby hml hown e40 N40 g_d K40 F40 (by decide) (by decide) (by decide) at_551 at_554 (fun target kt => by
    refine XS.dup X40.here hx rfl (hb hby at_548) rfl rfl ?_
    refine XS.bipush X40.here hx rfl (hb hby at_549) ?_
    exact kt)
  obtain ⟨T42, h42, L42, X42, e42, N42, K42, F42, s42⟩ := own_one 41 41 d Lo 555 558 n0 X41 hx hZ hw hby hml hown e41 N41 g_d K41 F41 (by decide) (by decide) (by decide) at_558 at_561 (fun target kt => by
    refine XS.dup X41.here hx rfl (hb hby at_555) rfl rfl ?_
    refine XS.bipush X41.here hx rfl (hb hby at_556) ?_
    exact kt)
  obtain ⟨T43, h43, L43, X43, e43, N43, K43, F43, s43⟩ := own_one 42 42 d Lo 562 565 n0 X42 hx hZ hw hby hml hown e42 N42 g_d K42 F42 (by decide) (by decide) (by decide) at_565 at_568 (fun target kt => by
    refine XS.dup X42.here hx rfl (hb hby at_562) rfl rfl ?_
    refine XS.bipush X42.here hx rfl (hb hby at_563) ?_
    exact kt)
  obtain ⟨T44, h44, L44, X44, e44, N44, K44, F44, s44⟩ := own_one 43 43 d Lo 569 572 n0 X43 hx hZ hw hby hml hown e43 N43 g_d K43 F43 (by decide) (by decide) (by decide) at_572 at_575 (fun target kt => by
    refine XS.dup X43.here hx rfl (hb hby at_569) rfl rfl ?_
    refine XS.bipush X43.here hx rfl (hb hby at_570) ?_
    exact kt)
  obtain ⟨T45, h45, L45, X45, e45, N45, K45, F45, s45⟩ := own_one 44 44 d Lo 576 579 n0 X44 hx hZ hw hby hml hown e44 N44 g_d K44 F44 (by decide) (by decide) (by decide) at_579 at_582 (fun target kt => by
    refine XS.dup X44.here hx rfl (hb hby at_576) rfl rfl ?_
    refine XS.bipush X44.here hx rfl (hb hby at_577) ?_
    exact kt)
  obtain ⟨T46, h46, L46, X46, e46, N46, K46, F46, s46⟩ := own_one 45 45 d Lo 583 586 n0 X45 hx hZ hw hby hml hown e45 N45 g_d K45 F45 (by decide) (by decide) (by decide) at_586 at_589 (fun target kt => by
    refine XS.dup X45.here hx rfl (hb hby at_583) rfl rfl ?_
    refine XS.bipush X45.here hx rfl (hb hby at_584) ?_
    exact kt)
  obtain ⟨T47, h47, L47, X47, e47, N47, K47, F47, s47⟩ := own_one 46 46 d Lo 590 593 n0 X46 hx hZ hw hby hml hown e46 N46 g_d K46 F46 (by decide) (by decide) (by decide) at_593 at_596 (fun target kt => by
    refine XS.dup X46.here hx rfl (hb hby at_590) rfl rfl ?_
    refine XS.bipush X46.here hx rfl (hb hby at_591) ?_
    exact kt)
  obtain ⟨T48, h48, L48, X48, e48, N48, K48, F48, s48⟩ := own_one 47 47 d Lo 597 600 n0 X47 hx hZ hw hby hml hown e47 N47 g_d K47 F47 (by decide) (by decide) (by decide) at_600 at_603 (fun target kt => by
    refine XS.dup X47.here hx rfl (hb hby at_597) rfl rfl ?_
    refine XS.bipush X47.here hx rfl (hb hby at_598) ?_
    exact kt)
  obtain ⟨T49, h49, L49, X49, e49, N49, K49, F49, s49⟩ := own_one 48 48 d Lo 604 607 n0 X48 hx hZ hw hby hml hown e48 N48 g_d K48 F48 (by decide) (by decide) (by decide) at_607 at_610 (fun target kt => by
    refine XS.dup X48.here hx rfl (hb hby at_604) rfl rfl ?_
    refine XS.bipush X48.here hx rfl (hb hby at_605) ?_
    exact kt)
  obtain ⟨T50, h50, L50, X50, e50, N50, K50, F50, s50⟩ := own_one 49 49 d Lo 611 614 n0 X49 hx hZ hw hby hml hown e49 N49 g_d K49 F49 (by decide) (by decide) (by decide) at_614 at_617 (fun target kt => by
    refine XS.dup X49.here hx rfl (hb hby at_611) rfl rfl ?_
    refine XS.bipush X49.here hx rfl (hb hby at_612) ?_
    exact kt)
  obtain ⟨T51, h51, L51, X51, e51, N51, K51, F51, s51⟩ := own_one 50 50 d Lo 618 621 n0 X50 hx hZ hw hby hml hown e50 N50 g_d K50 F50 (by decide) (by decide) (by decide) at_621 at_624 (fun target kt => by
    refine XS.dup X50.here hx rfl (hb hby at_618) rfl rfl ?_
    refine XS.bipush X50.here hx rfl (hb hby at_619) ?_
    exact kt)
  obtain ⟨T52, h52, L52, X52, e52, N52, K52, F52, s52⟩ := own_one 51 51 d Lo 625 628 n0 X51 hx hZ hw hby hml hown e51 N51 g_d K51 F51 (by decide) (by decide) (by decide) at_628 at_631 (fun target kt => by
    refine XS.dup X51.here hx rfl (hb hby at_625) rfl rfl ?_
    refine XS.bipush X51.here hx rfl (hb hby at_626) ?_
    exact kt)
  obtain ⟨T53, h53, L53, X53, e53, N53, K53, F53, s53⟩ := own_one 52 52 d Lo 632 635 n0 X52 hx hZ hw hby hml hown e52 N52 g_d K52 F52 (by decide) (by decide) (by decide) at_635 at_638 (fun target kt => by
    refine XS.dup X52.here hx rfl (hb hby at_632) rfl rfl ?_
    refine XS.bipush X52.here hx rfl (hb hby at_633) ?_
    exact kt)
  obtain ⟨T54, h54, L54, X54, e54, N54, K54, F54, s54⟩ := own_one 53 53 d Lo 639 642 n0 X53 hx hZ hw hby hml hown e53 N53 g_d K53 F53 (by decide) (by decide) (by decide) at_642 at_645 (fun target kt => by
    refine XS.dup X53.here hx rfl (hb hby at_639) rfl rfl ?_
    refine XS.bipush X53.here hx rfl (hb hby at_640) ?_
    exact kt)
  obtain ⟨T55, h55, L55, X55, e55, N55, K55, F55, s55⟩ := own_one 54 54 d Lo 646 649 n0 X54 hx hZ hw hby hml hown e54 N54 g_d K54 F54 (by decide) (by decide) (by decide) at_649 at_652 (fun target kt => by
    refine XS.dup X54.here hx rfl (hb hby at_646) rfl rfl ?_
    refine XS.bipush X54.here hx rfl (hb hby at_647) ?_
    exact kt)
  obtain ⟨T56, h56, L56, X56, e56, N56, K56, F56, s56⟩ := own_one 55 55 d Lo 653 656 n0 X55 hx hZ hw hby hml hown e55 N55 g_d K55 F55 (by decide) (by decide) (by decide) at_656 at_659 (fun target kt => by
    refine XS.dup X55.here hx rfl (hb hby at_653) rfl rfl ?_
    refine XS.bipush X55.here hx rfl (hb hby at_654) ?_
    exact kt)
  obtain ⟨T57, h57, L57, X57, e57, N57, K57, F57, s57⟩ := own_one 56 56 d Lo 660 663 n0 X56 hx hZ hw hby hml hown e56 N56 g_d K56 F56 (by decide) (by decide) (by decide) at_663 at_666 (fun target kt => by
    refine XS.dup X56.here hx rfl (hb hby at_660) rfl rfl ?_
    refine XS.bipush X56.here hx rfl (hb hby at_661) ?_
    exact kt)
  obtain ⟨T58, h58, L58, X58, e58, N58, K58, F58, s58⟩ := own_one 57 57 d Lo 667 670 n0 X57 hx hZ hw hby hml hown e57 N57 g_d K57 F57 (by decide) (by decide) (by decide) at_670 at_673 (fun target kt => by
    refine XS.dup X57.here hx rfl (hb hby at_667) rfl rfl ?_
    refine XS.bipush X57.here hx rfl (hb hby at_668) ?_
    exact kt)
  obtain ⟨T59, h59, L59, X59, e59, N59, K59, F59, s59⟩ := own_one 58 58 d Lo 674 677 n0 X58 hx hZ hw hby hml hown e58 N58 g_d K58 F58 (by decide) (by decide) (by decide) at_677 at_680 (fun target kt => by
    refine XS.dup X58.here hx rfl (hb hby at_674) rfl rfl ?_
    refine XS.bipush X58.here hx rfl (hb hby at_675) ?_
    exact kt)
  obtain ⟨T60, h60, L60, X60, e60, N60, K60, F60, s60⟩ := own_one 59 59 d Lo 681 684 n0 X59 hx hZ hw hby hml hown e59 N59 g_d K59 F59 (by decide) (by decide) (by decide) at_684 at_687 (fun target kt => by
    refine XS.dup X59.here hx rfl (hb hby at_681) rfl rfl ?_
    refine XS.bipush X59.here hx rfl (hb hby at_682) ?_
    exact kt)
  obtain ⟨T61, h61, L61, X61, e61, N61, K61, F61, s61⟩ := own_one 60 60 d Lo 688 691 n0 X60 hx hZ hw hby hml hown e60 N60 g_d K60 F60 (by decide) (by decide) (by decide) at_691 at_694 (fun target kt => by
    refine XS.dup X60.here hx rfl (hb hby at_688) rfl rfl ?_
    refine XS.bipush X60.here hx rfl (hb hby at_689) ?_
    exact kt)
  obtain ⟨T62, h62, L62, X62, e62, N62, K62, F62, s62⟩ := own_one 61 61 d Lo 695 698 n0 X61 hx hZ hw hby hml hown e61 N61 g_d K61 F61 (by decide) (by decide) (by decide) at_698 at_701 (fun target kt => by
    refine XS.dup X61.here hx rfl (hb hby at_695) rfl rfl ?_
    refine XS.bipush X61.here hx rfl (hb hby at_696) ?_
    exact kt)
  obtain ⟨T63, h63, L63, X63, e63, N63, K63, F63, s63⟩ := own_one 62 62 d Lo 702 705 n0 X62 hx hZ hw hby hml hown e62 N62 g_d K62 F62 (by decide) (by decide) (by decide) at_705 at_708 (fun target kt => by
    refine XS.dup X62.here hx rfl (hb hby at_702) rfl rfl ?_
    refine XS.bipush X62.here hx rfl (hb hby at_703) ?_
    exact kt)
  obtain ⟨T64, h64, L64, X64, e64, N64, K64, F64, s64⟩ := own_one 63 63 d Lo 709 712 n0 X63 hx hZ hw hby hml hown e63 N63 g_d K63 F63 (by decide) (by decide) (by decide) at_712 at_715 (fun target kt => by
    refine XS.dup X63.here hx rfl (hb hby at_709) rfl rfl ?_
    refine XS.bipush X63.here hx rfl (hb hby at_710) ?_
    exact kt)
  exact ⟨T64, h64, L64, X64, e64, N64, K64, F64, fun target kt => s1 target (s2 target (s3 target (s4 target (s5 target (s6 target (s7 target (s8 target (s9 target (s10 target (s11 target (s12 target (s13 target (s14 target (s15 target (s16 target (s17 target (s18 target (s19 target (s20 target (s21 target (s22 target (s23 target (s24 target (s25 target (s26 target (s27 target (s28 target (s29 target (s30 target (s31 target (s32 target (s33 target (s34 target (s35 target (s36 target (s37 target (s38 target (s39 target (s40 target (s41 target (s42 target (s43 target (s44 target (s45 target (s46 target (s47 target (s48 target (s49 target (s50 target (s51 target (s52 target (s53 target (s54 target (s55 target (s56 target (s57 target (s58 target (s59 target (s60 target (s61 target (s62 target (s63 target (s64 target kt)))))))))))))))))))))))))))))))))))))))))))))))))))))))))))))))⟩
section Own2
variable {Z : State} {h h' : Heap} {n0 nv : Nat} {m a b v d : Addr} {K : Nat → Int64} {U : Int64} {V : Nat → Int32} {sz : Int32}
theorem own_tab_over {h1 : Heap} (F : own_tab Z n0 h m a b v K U nv V sz) (E : Ext h h1) (E2 : Keep h1 h' [d]) (q : h.size ≤ d) : own_tab Z n0 h' m a b v K U nv V sz := by
  obtain ⟨f1, f2, f3, f4, f5, f6, f7, f8, f9, f10⟩ := F
  have qq : ∀ x : Addr, x < h.size → x ∉ [d] := fun x hx => own_nin (Nat.ne_of_lt (Nat.lt_of_lt_of_le hx q))
  have qm := qq m f1.lt
  exact ⟨(f1.ext E).keep E2, (f2.ext E).keep E2 qm, (f3.ext E).keep E2 qm, (f4.ext E).keep E2 qm, (f5.ext E).keep E2 qm, own_L_keep (own_L_ext f6 E) E2 (qq a (own_L_lt f6)), own_L_keep (own_L_ext f7 E) E2 (qq b (own_L_lt f7)), own_I_keep (own_I_ext f8 E) E2 (qq v (own_I_lt f8)), f9, f10⟩
end Own2
theorem pn_0 : plainName "com/example/sectionary/sectionary/tables/LongKeyIntMapGrowValuesPinLaw" = true := by first | (simp [plainName, overriddenIn]; done) | decide +kernel
theorem pd_0_0 : parseMethodDescriptor "()V" = some ⟨[], none⟩ := by decide +kernel
theorem pd_0_1 : parseMethodDescriptor "(JI)V" = some ⟨[.long, .int], none⟩ := by decide +kernel
theorem pd_0_2 : parseMethodDescriptor "(J)I" = some ⟨[.long], some .int⟩ := by decide +kernel
theorem pd_0_6 : parseMethodDescriptor "(II)I" = some ⟨[.int, .int], some .int⟩ := by decide +kernel
theorem pd_0_7 : parseMethodDescriptor "(III)I" = some ⟨[.int, .int, .int], some .int⟩ := by decide +kernel
theorem pd_0_8 : parseMethodDescriptor "([JI)V" = some ⟨[(.array .long), .int], none⟩ := by decide +kernel
theorem pd_0_9 : parseMethodDescriptor "(JI)I" = some ⟨[.long, .int], some .int⟩ := by decide +kernel
theorem ef_0 (m : MethodId) (x0 : Int64) (x1 : Int64) (x2 : Int32) (x3 : Int32) (x4 : Int32) (x5 : Int32) : entryFrame m #[(.long x0), (.long x1), (.int x2), (.int x3), (.int x4), (.int x5)] maxLocals = mkF m 0 #[.val (.long x0), .second, .val (.long x1), .second, .val (.int x2), .val (.int x3), .val (.int x4), .val (.int x5), .unset, .unset, .unset, .unset, .unset, .unset, .unset, .unset, .unset, .unset, .unset, .unset, .unset, .unset, .unset, .unset, .unset, .unset] [] := by first | (simp [entryFrame, mkF, argsToLocals, Value.category, maxLocals]; done) | rfl
def Q0 (Z : State) (h0 : Heap) (n0 : Nat) (v : Option Value) (h : Heap) (L : List Loc) : Prop := v = some (.int (1 : Int32)) ∧ Fr n0 L
set_option maxRecDepth 65536 in
set_option maxHeartbeats 40000000 in
theorem rm0_core (l : Launch) (Z : State) (a0 : Array Value) (hw : ∀ d ∈ tables_1, d.before a0 Z = true) (ws : List Jvm.Cond) (q1 q2 : Int64) (p3 p4 p5 p6 : Int32) (kb : Int64) (r1 r2 len yy e1 e2 f1 f2 : Int32) (nv : Nat) (VV : Nat → Int32) (h0 : Heap) (n0 : Nat) (Z0 : n0 ≤ h0.size) (hkb : kb = if q2 = q1 then q1 + 1 else q2) (hlen : len = if (p5 &&& (1 : Int32)) = 0 then 64 else 128) (hyy : yy = if own_y p6 len < own_x1 p6 len then own_y p6 len else own_y p6 len + 1) (hE : own_pick (own_md p5) r1 r2 (own_w (own_x1 p6 len) r1 r2) (own_w yy r1 r2) e1 e2) (hf1 : f1 = own_ex e1 e2 r1 p3 p4) (hf2 : f2 = own_ex e1 e2 r2 p3 p4) (hs1 : (own_sl (fun _ => 0) 0 q1 r1)) (hh1 : own_held 0 r1 = 0) (hs2 : (own_sl (fun j => if j = r1.toNatClampNeg then q1 else 0) ((0 : Int64) ||| own_bit r1) kb r2)) (hh2 : own_held ((0 : Int64) ||| own_bit r1) r2 = 0) (hs3 : (own_sl (fun j => if j = r2.toNatClampNeg then kb else if j = r1.toNatClampNeg then q1 else 0) (((0 : Int64) ||| own_bit r1) ||| own_bit r2) q1 r1)) (hh3 : ¬ own_held (((0 : Int64) ||| own_bit r1) ||| own_bit r2) r1 = 0) (hs4 : (own_sl (fun j => if j = r2.toNatClampNeg then kb else if j = r1.toNatClampNeg then q1 else 0) (((0 : Int64) ||| own_bit r1) ||| own_bit r2) kb r2)) (hh4 : ¬ own_held (((0 : Int64) ||| own_bit r1) ||| own_bit r2) r2 = 0) (hp0 : ¬ len < 0) (hp1 : len.toNatClampNeg = nv) (hp2 : nv ≤ 128) (hnv : 64 ≤ nv) (hD : ∀ i, i < 64 → ¬ (fun j => if j = r2.toNatClampNeg then e2.toInt64 else if j = r1.toNatClampNeg then e1.toInt64 else own_ff 64 j) i < 0 → ¬ ((fun j => if j = r2.toNatClampNeg then e2.toInt64 else if j = r1.toNatClampNeg then e1.toInt64 else own_ff 64 j) i).toInt32 < 0 ∧ ((fun j => if j = r2.toNatClampNeg then e2.toInt64 else if j = r1.toNatClampNeg then e1.toInt64 else own_ff 64 j) i).toInt32.toNatClampNeg < nv) (hVV : VV = (own_gr (fun j => if j = r2.toNatClampNeg then e2.toInt64 else if j = r1.toNatClampNeg then e1.toInt64 else own_ff 64 j) (fun j => if j = r2.toNatClampNeg then p4 else if j = r1.toNatClampNeg then p3 else 0) 64)) (hg1 : VV r1.toNatClampNeg = f1) (hg2 : VV r2.toNatClampNeg = f2) (hnz102 : ¬ ((len - (2 : Int32)) = (0 : Int32))) (hnz125 : ¬ ((len - (3 : Int32)) = (0 : Int32))) :
    MetFree l x (head1 (Jvm.Cond.code x code maxLocals ret :: ws) room_1) (fun a Us => a = #[(.long q1), (.long q2), (.int p3), (.int p4), (.int p5), (.int p6)] ∧ Z.Warmed39 Us.vm ∧ Us.heap = h0) (fun _ _ _ _ _ => True) (fun _ Us o Us' => ∃ v L, o = .returned v ∧ Q0 Z h0 n0 v Us'.heap L ∧ FrameEnd Us o Us' L room_1.cells room_1.slots) := by
  refine MetFree.of_bodySF (plainFor_of_name pn_0) hisR ?_
  intro p e s m args below meth c s₁ Bd hml0 hP hK
  obtain ⟨rfl, hZ, hh⟩ := hP
  have hx := Bd.exec
  have hby := Bd.bytes
  have hml : c.maxLocals = 26 := hml0
  have hown : s.vm.findClass "com/example/sectionary/sectionary/tables/LongKeyIntMapGrowValuesPinLaw" = some m.cls := findClass_of_methodNamed Bd.named
  have hnm := (name_of_methodNamed Bd.named Bd.method).1
  have X0 : Stand p l e room_1 s m #[(.long q1), (.long q2), (.int p3), (.int p4), (.int p5), (.int p6)] below meth c s₁ [] 0 0 := Stand.of_body Bd
  have e0 : s₁.heap = h0 := by rw [← hh, Bd.state]; rfl
  have N0 := Fr.nil n0
  have pre0 : ∀ t, Steps p.tables e below (s₁.setTop (mkF m 0 #[.val (.long q1), .second, .val (.long q2), .second, .val (.int p3), .val (.int p4), .val (.int p5), .val (.int p6), .unset, .unset, .unset, .unset, .unset, .unset, .unset, .unset, .unset, .unset, .unset, .unset, .unset, .unset, .unset, .unset, .unset, .unset] [])) t → Steps p.tables e below (s₁.setTop (entryFrame m #[(.long q1), (.long q2), (.int p3), (.int p4), (.int p5), (.int p6)] maxLocals)) t := fun t k => castTop (ef_0 m q1 q2 p3 p4 p5 p6) k
  have hnz158 : ¬ ((7 : Int32) = (0 : Int32)) := by decide
  obtain ⟨T7, h7, X7, e7, E7, A7, D7, -, st7⟩ := newO X0 hx hZ hown (hw _ (List.mem_of_getElem? (i := 0) rfl)) (hw _ (List.mem_of_getElem? (i := 1) rfl)) (hw _ (List.mem_of_getElem? (i := 2) rfl)) e0 (g := (mkF m 15 #[.val (.long q1), .second, .val (.long q2), .second, .val (.int p3), .val (.int p4), .val (.int p5), .val (.int p6), .val (.long kb), .second, .unset, .unset, .unset, .unset, .unset, .unset, .unset, .unset, .unset, .unset, .unset, .unset, .unset, .unset, .unset, .unset] [])) rfl (hb hby at_15) (by decide) (by decide)
  have Zh7 : n0 ≤ h7.size := Nat.le_trans Z0 E7.1
  obtain ⟨b7, g7⟩ : ∃ z, z = h0.size := ⟨_, rfl⟩
  rw [← g7] at A7 D7 st7
  have F_keys_b7 : Fld Z h7 b7 "com/example/sectionary/sectionary/tables/LongKeyTable" "keys" "[J" .null := D7 (Or.inl (hw _ (List.mem_of_getElem? (i := 16) rfl))) (ty := (.array .long)) (by decide)
  have F_used_b7 : Fld Z h7 b7 "com/example/sectionary/sectionary/tables/LongKeyTable" "used" "[J" .null := D7 (Or.inl (hw _ (List.mem_of_getElem? (i := 18) rfl))) (ty := (.array .long)) (by decide)
  have F_values_b7 : Fld Z h7 b7 "com/example/sectionary/sectionary/tables/LongKeyIntMap" "values" "[I" .null := D7 (Or.inl (hw _ (List.mem_of_getElem? (i := 21) rfl))) (ty := (.array .int)) (by decide)
  have F_size_b7 : Fld Z h7 b7 "com/example/sectionary/sectionary/tables/LongKeyTable" "size" "I" (.int (0 : Int32)) := D7 (Or.inl (hw _ (List.mem_of_getElem? (i := 57) rfl))) (ty := .int) (by decide)
  have E_b7 := A7
  have g_b7 : n0 ≤ b7 := Nat.le_trans Z0 (Nat.le_of_eq g7.symm)
  obtain ⟨_, _, ⟨T8, L8, k8, n8⟩, -, X8, ⟨Lc8, hQ8, l8, y8, z8⟩, st8⟩ := X7.specialBack hx (y := (⟨"com/example/sectionary/sectionary/tables/LongKeyIntMap", "<init>", "()V"⟩ : MethodName)) rfl hown (mvT hZ (hw _ (List.mem_of_getElem? (i := 3) rfl))) (mvT hZ (hw _ (List.mem_of_getElem? (i := 4) rfl))) (mvT hZ (hw _ (List.mem_of_getElem? (i := 5) rfl))) (by decide) (backOf (W := 1) (rm1 l Z a0 hw [] b7 _ _ _ h7 n0 Zh7 E_b7 F_values_b7 g_b7 F_keys_b7 F_used_b7 F_size_b7) hZ (hw _ (List.mem_of_getElem? (i := 5) rfl)) (hw _ (List.mem_of_getElem? (i := 2) rfl)) (by decide) (by decide)) (g := (mkF m 19 #[.val (.long q1), .second, .val (.long q2), .second, .val (.int p3), .val (.int p4), .val (.int p5), .val (.int p6), .val (.long kb), .second, .unset, .unset, .unset, .unset, .unset, .unset, .unset, .unset, .unset, .unset, .unset, .unset, .unset, .unset, .unset, .unset] [(.ref b7), (.ref b7)])) rfl (by rw [hml]; rfl) (Steps.refl _) (a := b7) (argsL := []) (rest := [(.ref b7)]) (lenOf pd_0_0 rfl) rfl (by show 2 * 0 + _ ≤ _; exact Nat.le_of_eq rfl) (hb hby at_19) (fun _ _ => ⟨rfl, e7, (by decide : 1 + 3 ≤ _), (by decide : 4 + 129 ≤ _)⟩)
  dsimp only [Pt.U, Pt.locs, Pt.cells, Pt.slots] at X8 l8 y8 z8 st8 hQ8
  subst l8 y8 z8
  obtain ⟨rfl, N8q, Kc8, wa, wb, wv, Tb8⟩ := hQ8
  have Zt8 : n0 ≤ T8.heap.size := Nat.le_trans Zh7 Kc8.1
  have N8 := Fr.app N0 N8q
  obtain ⟨cq9, kq9, q9a, q9b, q9c⟩ := isOf hZ rfl Tb8.1
  obtain ⟨_, _, ⟨T9, L9, k9, n9⟩, -, X9, ⟨Lc9, hQ9, l9, y9, z9⟩, st9⟩ := X8.virtualBack hx (y := (⟨"com/example/sectionary/sectionary/tables/LongKeyIntMap", "put", "(JI)V"⟩ : MethodName)) (z := (⟨"com/example/sectionary/sectionary/tables/LongKeyIntMap", "put", "(JI)V"⟩ : MethodName)) hown (mvT hZ (hw _ (List.mem_of_getElem? (i := 22) rfl))) (mvT hZ (hw _ (List.mem_of_getElem? (i := 23) rfl))) (notFace_of_selects (args := #[]) (mvT hZ (hw _ (List.mem_of_getElem? (i := 25) rfl)))) (mvT hZ (hw _ (List.mem_of_getElem? (i := 25) rfl))) (mvT hZ (hw _ (List.mem_of_getElem? (i := 24) rfl))) (by decide) (backOf (W := 0) (rm4 l Z a0 hw [] b7 q1 p3 wa wb wv (fun _ => 0) 0 (fun _ => 0) 0 r1 T8.heap n0 Zt8 Tb8 hs1 hh1 (by decide)) hZ (hw _ (List.mem_of_getElem? (i := 26) rfl)) (hw _ (List.mem_of_getElem? (i := 2) rfl)) (by decide) (by decide)) q9a q9c (g := (mkF m 29 #[.val (.long q1), .second, .val (.long q2), .second, .val (.int p3), .val (.int p4), .val (.int p5), .val (.int p6), .val (.long kb), .second, .val (.ref b7), .unset, .unset, .unset, .unset, .unset, .unset, .unset, .unset, .unset, .unset, .unset, .unset, .unset, .unset, .unset] [(.int p3), (.long q1), (.ref b7)])) rfl (by rw [hml]; rfl) (Steps.refl _) (argsL := [(.long q1), (.int p3)]) (rest := []) (lenOf pd_0_1 rfl) rfl (by show 2 * 0 + _ ≤ _; exact Nat.le_of_eq rfl) (hb hby at_29) (fun _ _ => ⟨rfl, rfl, (by decide : 1 + 3 ≤ _), (by decide : 4 + 129 ≤ _)⟩)
  dsimp only [Pt.U, Pt.locs, Pt.cells, Pt.slots] at X9 l9 y9 z9 st9 hQ9
  subst l9 y9 z9
  obtain ⟨rfl, N9q, Kc9, Tb9⟩ := hQ9
  have Zt9 : n0 ≤ T9.heap.size := Nat.le_trans Zt8 Kc9.1
  have N9 := Fr.app N8 N9q
  obtain ⟨cq10, kq10, q10a, q10b, q10c⟩ := isOf hZ rfl Tb9.1
  obtain ⟨_, _, ⟨T10, L10, k10, n10⟩, -, X10, ⟨Lc10, hQ10, l10, y10, z10⟩, st10⟩ := X9.virtualBack hx (y := (⟨"com/example/sectionary/sectionary/tables/LongKeyIntMap", "put", "(JI)V"⟩ : MethodName)) (z := (⟨"com/example/sectionary/sectionary/tables/LongKeyIntMap", "put", "(JI)V"⟩ : MethodName)) hown (mvT hZ (hw _ (List.mem_of_getElem? (i := 22) rfl))) (mvT hZ (hw _ (List.mem_of_getElem? (i := 23) rfl))) (notFace_of_selects (args := #[]) (mvT hZ (hw _ (List.mem_of_getElem? (i := 25) rfl)))) (mvT hZ (hw _ (List.mem_of_getElem? (i := 25) rfl))) (mvT hZ (hw _ (List.mem_of_getElem? (i := 24) rfl))) (by decide) (backOf (W := 0) (rm4 l Z a0 hw [] b7 kb p4 wa wb wv (fun j => if j = r1.toNatClampNeg then q1 else 0) ((0 : Int64) ||| own_bit r1) (fun j => if j = r1.toNatClampNeg then p3 else 0) 1 r2 T9.heap n0 Zt9 Tb9 hs2 hh2 (by decide)) hZ (hw _ (List.mem_of_getElem? (i := 26) rfl)) (hw _ (List.mem_of_getElem? (i := 2) rfl)) (by decide) (by decide)) q10a q10c (g := (mkF m 38 #[.val (.long q1), .second, .val (.long q2), .second, .val (.int p3), .val (.int p4), .val (.int p5), .val (.int p6), .val (.long kb), .second, .val (.ref b7), .unset, .unset, .unset, .unset, .unset, .unset, .unset, .unset, .unset, .unset, .unset, .unset, .unset, .unset, .unset] [(.int p4), (.long kb), (.ref b7)])) rfl (by rw [hml]; rfl) (Steps.refl _) (argsL := [(.long kb), (.int p4)]) (rest := []) (lenOf pd_0_1 rfl) rfl (by show 2 * 0 + _ ≤ _; exact Nat.le_of_eq rfl) (hb hby at_38) (fun _ _ => ⟨rfl, rfl, (by decide : 1 + 3 ≤ _), (by decide : 4 + 129 ≤ _)⟩)
  dsimp only [Pt.U, Pt.locs, Pt.cells, Pt.slots] at X10 l10 y10 z10 st10 hQ10
  subst l10 y10 z10
  obtain ⟨rfl, N10q, Kc10, Tb10⟩ := hQ10
  have Zt10 : n0 ≤ T10.heap.size := Nat.le_trans Zt9 Kc10.1
  have N10 := Fr.app N9 N10q
  obtain ⟨cq11, kq11, q11a, q11b, q11c⟩ := isOf hZ rfl Tb10.1
  obtain ⟨_, _, ⟨T11, L11, k11, n11⟩, -, X11, ⟨Lc11, hQ11, l11, y11, z11⟩, st11⟩ := X10.virtualBackUp hx (owner := "com/example/sectionary/sectionary/tables/LongKeyTable") (x := (⟨"com/example/sectionary/sectionary/tables/LongKeyIntMap", "slot", "(J)I"⟩ : MethodName)) (y := (⟨"com/example/sectionary/sectionary/tables/LongKeyTable", "slot", "(J)I"⟩ : MethodName)) hown (mvT hZ (hw _ (List.mem_of_getElem? (i := 58) rfl))) (mvT hZ (hw _ (List.mem_of_getElem? (i := 59) rfl))) (mvT hZ (hw _ (List.mem_of_getElem? (i := 34) rfl))) (by decide) (mvT hZ (hw _ (List.mem_of_getElem? (i := 60) rfl))) (mvT hZ (hw _ (List.mem_of_getElem? (i := 35) rfl))) (backOf (W := 0) (rm6 l Z a0 hw [] b7 q1 wa wb (fun j => if j = r2.toNatClampNeg then kb else if j = r1.toNatClampNeg then q1 else 0) (((0 : Int64) ||| own_bit r1) ||| own_bit r2) T10.heap n0 Zt10 Tb10.1 Tb10.2.1 Tb10.2.2.1 Tb10.2.2.2.2.2.1 Tb10.2.2.2.2.2.2.1 r1 hs3) hZ (hw _ (List.mem_of_getElem? (i := 37) rfl)) (hw _ (List.mem_of_getElem? (i := 9) rfl)) (by decide) (by decide)) q11a q11c (g := (mkF m 44 #[.val (.long q1), .second, .val (.long q2), .second, .val (.int p3), .val (.int p4), .val (.int p5), .val (.int p6), .val (.long kb), .second, .val (.ref b7), .unset, .unset, .unset, .unset, .unset, .unset, .unset, .unset, .unset, .unset, .unset, .unset, .unset, .unset, .unset] [(.long q1), (.ref b7)])) rfl (by rw [hml]; rfl) (Steps.refl _) (argsL := [(.long q1)]) (rest := []) (lenOf pd_0_2 rfl) rfl (by show 2 * 0 + _ ≤ _; exact Nat.le_of_eq rfl) (hb hby at_44) (fun _ _ => ⟨rfl, rfl, (by decide : 1 + 3 ≤ _), (by decide : 4 + 129 ≤ _)⟩)
  dsimp only [Pt.U, Pt.locs, Pt.cells, Pt.slots] at X11 l11 y11 z11 st11 hQ11
  subst l11 y11 z11
  obtain ⟨rfl, N11q, e11⟩ := hQ11
  have Kc11 : Keep T10.heap T11.heap [] := by rw [e11]; exact Keep.refl _ _
  have Zt11 : n0 ≤ T11.heap.size := Nat.le_trans Zt10 Kc11.1
  have Tb11 : own_tab Z n0 T11.heap b7 wa wb wv (fun j => if j = r2.toNatClampNeg then kb else if j = r1.toNatClampNeg then q1 else 0) (((0 : Int64) ||| own_bit r1) ||| own_bit r2) 64 (fun j => if j = r2.toNatClampNeg then p4 else if j = r1.toNatClampNeg then p3 else 0) 2 := by rw [e11]; exact Tb10
  have N11 := Fr.app N10 N11q
  obtain ⟨cq12, kq12, q12a, q12b, q12c⟩ := isOf hZ rfl Tb11.1
  obtain ⟨_, _, ⟨T12, L12, k12, n12⟩, -, X12, ⟨Lc12, hQ12, l12, y12, z12⟩, st12⟩ := X11.virtualBackUp hx (owner := "com/example/sectionary/sectionary/tables/LongKeyTable") (x := (⟨"com/example/sectionary/sectionary/tables/LongKeyIntMap", "slot", "(J)I"⟩ : MethodName)) (y := (⟨"com/example/sectionary/sectionary/tables/LongKeyTable", "slot", "(J)I"⟩ : MethodName)) hown (mvT hZ (hw _ (List.mem_of_getElem? (i := 58) rfl))) (mvT hZ (hw _ (List.mem_of_getElem? (i := 59) rfl))) (mvT hZ (hw _ (List.mem_of_getElem? (i := 34) rfl))) (by decide) (mvT hZ (hw _ (List.mem_of_getElem? (i := 60) rfl))) (mvT hZ (hw _ (List.mem_of_getElem? (i := 35) rfl))) (backOf (W := 0) (rm6 l Z a0 hw [] b7 kb wa wb (fun j => if j = r2.toNatClampNeg then kb else if j = r1.toNatClampNeg then q1 else 0) (((0 : Int64) ||| own_bit r1) ||| own_bit r2) T11.heap n0 Zt11 Tb11.1 Tb11.2.1 Tb11.2.2.1 Tb11.2.2.2.2.2.1 Tb11.2.2.2.2.2.2.1 r2 hs4) hZ (hw _ (List.mem_of_getElem? (i := 37) rfl)) (hw _ (List.mem_of_getElem? (i := 9) rfl)) (by decide) (by decide)) q12a q12c (g := (mkF m 53 #[.val (.long q1), .second, .val (.long q2), .second, .val (.int p3), .val (.int p4), .val (.int p5), .val (.int p6), .val (.long kb), .second, .val (.ref b7), .val (.int r1), .unset, .unset, .unset, .unset, .unset, .unset, .unset, .unset, .unset, .unset, .unset, .unset, .unset, .unset] [(.long kb), (.ref b7)])) rfl (by rw [hml]; rfl) (Steps.refl _) (argsL := [(.long kb)]) (rest := []) (lenOf pd_0_2 rfl) rfl (by show 2 * 0 + _ ≤ _; exact Nat.le_of_eq rfl) (hb hby at_53) (fun _ _ => ⟨rfl, rfl, (by decide : 1 + 3 ≤ _), (by decide : 4 + 129 ≤ _)⟩)
  dsimp only [Pt.U, Pt.locs, Pt.cells, Pt.slots] at X12 l12 y12 z12 st12 hQ12
  subst l12 y12 z12
  obtain ⟨rfl, N12q, e12⟩ := hQ12
  have Kc12 : Keep T11.heap T12.heap [] := by rw [e12]; exact Keep.refl _ _
  have Zt12 : n0 ≤ T12.heap.size := Nat.le_trans Zt11 Kc12.1
  have N12 := Fr.app N11 N12q
  obtain ⟨_, _, ⟨T13, L13, k13, n13⟩, -, X13, ⟨Lc13, hQ13, l13, y13, z13⟩, st13⟩ := Jvm.LawKit.callS X12 hx (y := (⟨"java/lang/Math", "min", "(II)I"⟩ : MethodName)) hown (mvT hZ (hw _ (List.mem_of_getElem? (i := 61) rfl))) (mvT hZ (hw _ (List.mem_of_getElem? (i := 62) rfl))) (mvT hZ (hw _ (List.mem_of_getElem? (i := 63) rfl))) (mvT hZ (hw _ (List.mem_of_getElem? (i := 64) rfl))) (by decide) (backOf (W := 0) (rm11 l Z a0 hw [] r1 r2  T12.heap n0 Zt12 ) hZ (hw _ (List.mem_of_getElem? (i := 64) rfl)) (hw _ (List.mem_of_getElem? (i := 63) rfl)) (by decide) (by decide)) (g := (mkF m 62 #[.val (.long q1), .second, .val (.long q2), .second, .val (.int p3), .val (.int p4), .val (.int p5), .val (.int p6), .val (.long kb), .second, .val (.ref b7), .val (.int r1), .val (.int r2), .unset, .unset, .unset, .unset, .unset, .unset, .unset, .unset, .unset, .unset, .unset, .unset, .unset] [(.int r2), (.int r1)])) rfl (by rw [hml]; rfl) (argsL := [(.int r1), (.int r2)]) (rest := []) (lenOf pd_0_6 rfl) rfl (by show 2 * 0 + _ ≤ _; exact Nat.le_of_eq rfl) (hb hby at_62) (fun _ _ => ⟨rfl, rfl, (by decide : 1 + 3 ≤ _), (by decide : 4 + 129 ≤ _)⟩)
  dsimp only [Pt.U, Pt.locs, Pt.cells, Pt.slots] at X13 l13 y13 z13 st13 hQ13
  subst l13 y13 z13
  obtain ⟨rfl, N13q, e13⟩ := hQ13
  have Kc13 : Keep T12.heap T13.heap [] := by rw [e13]; exact Keep.refl _ _
  have Zt13 : n0 ≤ T13.heap.size := Nat.le_trans Zt12 Kc13.1
  have N13 := Fr.app N12 N13q
  obtain ⟨_, _, ⟨T14, L14, k14, n14⟩, -, X14, ⟨Lc14, hQ14, l14, y14, z14⟩, st14⟩ := Jvm.LawKit.callS X13 hx (y := (⟨"java/lang/Math", "max", "(II)I"⟩ : MethodName)) hown (mvT hZ (hw _ (List.mem_of_getElem? (i := 65) rfl))) (mvT hZ (hw _ (List.mem_of_getElem? (i := 66) rfl))) (mvT hZ (hw _ (List.mem_of_getElem? (i := 63) rfl))) (mvT hZ (hw _ (List.mem_of_getElem? (i := 67) rfl))) (by decide) (backOf (W := 0) (rm12 l Z a0 hw [] r1 r2  T13.heap n0 Zt13 ) hZ (hw _ (List.mem_of_getElem? (i := 67) rfl)) (hw _ (List.mem_of_getElem? (i := 63) rfl)) (by decide) (by decide)) (g := (mkF m 71 #[.val (.long q1), .second, .val (.long q2), .second, .val (.int p3), .val (.int p4), .val (.int p5), .val (.int p6), .val (.long kb), .second, .val (.ref b7), .val (.int r1), .val (.int r2), .val (.int (own_min r1 r2)), .unset, .unset, .unset, .unset, .unset, .unset, .unset, .unset, .unset, .unset, .unset, .unset] [(.int r2), (.int r1)])) rfl (by rw [hml]; rfl) (argsL := [(.int r1), (.int r2)]) (rest := []) (lenOf pd_0_6 rfl) rfl (by show 2 * 0 + _ ≤ _; exact Nat.le_of_eq rfl) (hb hby at_71) (fun _ _ => ⟨rfl, rfl, (by decide : 1 + 3 ≤ _), (by decide : 4 + 129 ≤ _)⟩)
  dsimp only [Pt.U, Pt.locs, Pt.cells, Pt.slots] at X14 l14 y14 z14 st14 hQ14
  subst l14 y14 z14
  obtain ⟨rfl, N14q, e14⟩ := hQ14
  have Kc14 : Keep T13.heap T14.heap [] := by rw [e14]; exact Keep.refl _ _
  have Zt14 : n0 ≤ T14.heap.size := Nat.le_trans Zt13 Kc14.1
  have N14 := Fr.app N13 N14q
  obtain ⟨TA, XA, eA, stA⟩ := own_segL q1 q2 kb p3 p4 p5 p6 r1 r2 len yy e1 e2 f1 f2 b7 b7 X14 hx hZ hw hby hml hown rfl hlen
  have ZtA : n0 ≤ TA.heap.size := by rw [eA]; exact Zt14
  obtain ⟨_, _, ⟨T15, L15, k15, n15⟩, -, X15, ⟨Lc15, hQ15, l15, y15, z15⟩, st15⟩ := Jvm.LawKit.callS XA hx (y := (⟨"com/example/sectionary/sectionary/tables/LongKeyIntMapGrowValuesPinLaw", "skip2", "(III)I"⟩ : MethodName)) hown (mvT hZ (hw _ (List.mem_of_getElem? (i := 69) rfl))) (mvT hZ (hw _ (List.mem_of_getElem? (i := 70) rfl))) (mvT hZ (hw _ (List.mem_of_getElem? (i := 71) rfl))) (mvT hZ (hw _ (List.mem_of_getElem? (i := 72) rfl))) (by decide) (backOf (W := 0) (rm13 l Z a0 hw [] (own_x1 p6 len) (own_min r1 r2) (own_max r1 r2)  TA.heap n0 ZtA ) hZ (hw _ (List.mem_of_getElem? (i := 72) rfl)) (hw _ (List.mem_of_getElem? (i := 71) rfl)) (by decide) (by decide)) (g := (mkF m 111 #[.val (.long q1), .second, .val (.long q2), .second, .val (.int p3), .val (.int p4), .val (.int p5), .val (.int p6), .val (.long kb), .second, .val (.ref b7), .val (.int r1), .val (.int r2), .val (.int (own_min r1 r2)), .val (.int (own_max r1 r2)), .val (.int len), .val (.int (own_x1 p6 len)), .unset, .unset, .unset, .unset, .unset, .unset, .unset, .unset, .unset] [(.int (own_max r1 r2)), (.int (own_min r1 r2)), (.int (own_x1 p6 len))])) rfl (by rw [hml]; rfl) (argsL := [(.int (own_x1 p6 len)), (.int (own_min r1 r2)), (.int (own_max r1 r2))]) (rest := []) (lenOf pd_0_7 rfl) rfl (by show 2 * 0 + _ ≤ _; exact Nat.le_of_eq rfl) (hb hby at_111) (fun _ _ => ⟨rfl, rfl, (by decide : 1 + 3 ≤ _), (by decide : 4 + 129 ≤ _)⟩)
  dsimp only [Pt.U, Pt.locs, Pt.cells, Pt.slots] at X15 l15 y15 z15 st15 hQ15
  subst l15 y15 z15
  obtain ⟨rfl, N15q, e15⟩ := hQ15
  have Kc15 : Keep TA.heap T15.heap [] := by rw [e15]; exact Keep.refl _ _
  have Zt15 : n0 ≤ T15.heap.size := Nat.le_trans ZtA Kc15.1
  have N15 := Fr.app N14 N15q
  obtain ⟨TB, XB, eB, stB⟩ := own_segY q1 q2 kb p3 p4 p5 p6 r1 r2 len yy e1 e2 f1 f2 b7 b7 X15 hx hZ hw hby hml hown rfl hyy
  have ZtB : n0 ≤ TB.heap.size := by rw [eB]; exact Zt15
  obtain ⟨_, _, ⟨T16, L16, k16, n16⟩, -, X16, ⟨Lc16, hQ16, l16, y16, z16⟩, st16⟩ := Jvm.LawKit.callS XB hx (y := (⟨"com/example/sectionary/sectionary/tables/LongKeyIntMapGrowValuesPinLaw", "skip2", "(III)I"⟩ : MethodName)) hown (mvT hZ (hw _ (List.mem_of_getElem? (i := 69) rfl))) (mvT hZ (hw _ (List.mem_of_getElem? (i := 70) rfl))) (mvT hZ (hw _ (List.mem_of_getElem? (i := 71) rfl))) (mvT hZ (hw _ (List.mem_of_getElem? (i := 72) rfl))) (by decide) (backOf (W := 0) (rm13 l Z a0 hw [] yy (own_min r1 r2) (own_max r1 r2)  TB.heap n0 ZtB ) hZ (hw _ (List.mem_of_getElem? (i := 72) rfl)) (hw _ (List.mem_of_getElem? (i := 71) rfl)) (by decide) (by decide)) (g := (mkF m 144 #[.val (.long q1), .second, .val (.long q2), .second, .val (.int p3), .val (.int p4), .val (.int p5), .val (.int p6), .val (.long kb), .second, .val (.ref b7), .val (.int r1), .val (.int r2), .val (.int (own_min r1 r2)), .val (.int (own_max r1 r2)), .val (.int len), .val (.int (own_x1 p6 len)), .val (.int (own_w (own_x1 p6 len) r1 r2)), .val (.int yy), .unset, .unset, .unset, .unset, .unset, .unset, .unset] [(.int (own_max r1 r2)), (.int (own_min r1 r2)), (.int yy)])) rfl (by rw [hml]; rfl) (argsL := [(.int yy), (.int (own_min r1 r2)), (.int (own_max r1 r2))]) (rest := []) (lenOf pd_0_7 rfl) rfl (by show 2 * 0 + _ ≤ _; exact Nat.le_of_eq rfl) (hb hby at_144) (fun _ _ => ⟨rfl, rfl, (by decide : 1 + 3 ≤ _), (by decide : 4 + 129 ≤ _)⟩)
  dsimp only [Pt.U, Pt.locs, Pt.cells, Pt.slots] at X16 l16 y16 z16 st16 hQ16
  subst l16 y16 z16
  obtain ⟨rfl, N16q, e16⟩ := hQ16
  have Kc16 : Keep TB.heap T16.heap [] := by rw [e16]; exact Keep.refl _ _
  have Zt16 : n0 ≤ T16.heap.size := Nat.le_trans ZtB Kc16.1
  have N16 := Fr.app N15 N16q
  obtain ⟨TC, XC, eC, stC⟩ := own_segE q1 q2 kb p3 p4 p5 p6 r1 r2 len yy e1 e2 f1 f2 b7 b7 X16 hx hZ hw hby hml hown rfl hE
  have ZtC : n0 ≤ TC.heap.size := by rw [eC]; exact Zt16
  obtain ⟨T17, h17, k17, X17, e17, E17, A17, st17⟩ := newP XC hx hZ (hw _ (List.mem_of_getElem? (i := 14) rfl)) rfl (g := (mkF m 272 #[.val (.long q1), .second, .val (.long q2), .second, .val (.int p3), .val (.int p4), .val (.int p5), .val (.int p6), .val (.long kb), .second, .val (.ref b7), .val (.int r1), .val (.int r2), .val (.int (own_min r1 r2)), .val (.int (own_max r1 r2)), .val (.int len), .val (.int (own_x1 p6 len)), .val (.int (own_w (own_x1 p6 len) r1 r2)), .val (.int yy), .val (.int (own_w yy r1 r2)), .val (.int (own_md p5)), .val (.int e1), .val (.int e2), .unset, .unset, .unset] [(.int (64 : Int32))])) rfl (hb hby at_272) rfl (by decide) (cap := 64) (by decide) (by decide) (by decide) (by decide)
  obtain ⟨b17, g17⟩ : ∃ z, z = TC.heap.size := ⟨_, rfl⟩
  rw [← g17] at A17 st17
  have hT : TC.heap = T10.heap := by rw [eC, e16, eB, e15, eA, e14, e13, e12, e11]
  have g_b17 : n0 ≤ b17 := Nat.le_trans ZtC (Nat.le_of_eq g17.symm)
  have F17 : own_L Z h17 b17 64 (own_ff 0) := own_L_to (own_L_new A17 rfl) (fun j hj => rfl)
  obtain ⟨TF, hF, LF, XF, eF, NF, KF, FF, stF⟩ := own_fill b17 #[.val (.long q1), .second, .val (.long q2), .second, .val (.int p3), .val (.int p4), .val (.int p5), .val (.int p6), .val (.long kb), .second, .val (.ref b7), .val (.int r1), .val (.int r2), .val (.int (own_min r1 r2)), .val (.int (own_max r1 r2)), .val (.int len), .val (.int (own_x1 p6 len)), .val (.int (own_w (own_x1 p6 len) r1 r2)), .val (.int yy), .val (.int (own_w yy r1 r2)), .val (.int (own_md p5)), .val (.int e1), .val (.int e2), .unset, .unset, .unset] n0 X17 hx hZ hw hby hml hown e17 N16 g_b17 F17
  obtain ⟨clF, ArF, SzF, HtF⟩ := id FF
  have ix1 := own_sl_ix hs1
  have ix2 := own_sl_ix hs2
  obtain ⟨T82, h82, X82, e82, W82, st82⟩ := stJ XF hx hZ eF ArF (j := r1) (x := e1.toInt64) (own_in SzF ix1.1 ix1.2.1) (g := (mkF m 725 #[.val (.long q1), .second, .val (.long q2), .second, .val (.int p3), .val (.int p4), .val (.int p5), .val (.int p6), .val (.long kb), .second, .val (.ref b7), .val (.int r1), .val (.int r2), .val (.int (own_min r1 r2)), .val (.int (own_max r1 r2)), .val (.int len), .val (.int (own_x1 p6 len)), .val (.int (own_w (own_x1 p6 len) r1 r2)), .val (.int yy), .val (.int (own_w yy r1 r2)), .val (.int (own_md p5)), .val (.int e1), .val (.int e2), .val (.ref b17), .unset, .unset] [(.long e1.toInt64), (.int r1), (.ref b17)])) rfl rfl (hb hby at_725)
  have N82 := Fr.snoc X82 NF g_b17
  have F82 := own_L_set FF W82
  obtain ⟨clG, ArG, SzG, HtG⟩ := id F82
  obtain ⟨T83, h83, X83, e83, W83, st83⟩ := stJ X82 hx hZ e82 ArG (j := r2) (x := e2.toInt64) (own_in SzG ix2.1 ix2.2.1) (g := (mkF m 733 #[.val (.long q1), .second, .val (.long q2), .second, .val (.int p3), .val (.int p4), .val (.int p5), .val (.int p6), .val (.long kb), .second, .val (.ref b7), .val (.int r1), .val (.int r2), .val (.int (own_min r1 r2)), .val (.int (own_max r1 r2)), .val (.int len), .val (.int (own_x1 p6 len)), .val (.int (own_w (own_x1 p6 len) r1 r2)), .val (.int yy), .val (.int (own_w yy r1 r2)), .val (.int (own_md p5)), .val (.int e1), .val (.int e2), .val (.ref b17), .unset, .unset] [(.long e2.toInt64), (.int r2), (.ref b17)])) rfl rfl (hb hby at_733)
  have N83 := Fr.snoc X83 N82 g_b17
  have F83 : own_L Z h83 b17 64 (fun j => if j = r2.toNatClampNeg then e2.toInt64 else if j = r1.toNatClampNeg then e1.toInt64 else own_ff 64 j) := own_L_set F82 W83
  have K83 : Keep h17 h83 [b17] := (KF.wr W82 (Or.inl (List.mem_of_getElem? (i := 0) rfl))).wr W83 (Or.inl (List.mem_of_getElem? (i := 0) rfl))
  have Tb83 : own_tab Z n0 h83 b7 wa wb wv (fun j => if j = r2.toNatClampNeg then kb else if j = r1.toNatClampNeg then q1 else 0) (((0 : Int64) ||| own_bit r1) ||| own_bit r2) 64 (fun j => if j = r2.toNatClampNeg then p4 else if j = r1.toNatClampNeg then p3 else 0) 2 := own_tab_over (show own_tab Z n0 TC.heap b7 wa wb wv (fun j => if j = r2.toNatClampNeg then kb else if j = r1.toNatClampNeg then q1 else 0) (((0 : Int64) ||| own_bit r1) ||| own_bit r2) 64 (fun j => if j = r2.toNatClampNeg then p4 else if j = r1.toNatClampNeg then p3 else 0) 2 by rw [hT]; exact Tb10) E17 K83 (Nat.le_of_eq g17.symm)
  have n12 : b17 ≠ b7 := Ne.symm (Nat.ne_of_lt (Nat.lt_of_lt_of_le (show b7 < TC.heap.size by rw [hT]; exact Tb10.1.lt) (Nat.le_of_eq g17.symm)))
  have Z83 : n0 ≤ h83.size := Nat.le_trans (Nat.le_trans ZtC E17.1) K83.1
  obtain ⟨cq84, kq84, q84a, q84b, q84c⟩ := isOf hZ e83 Tb83.1
  obtain ⟨_, _, ⟨T84, L84, k84, n84⟩, -, X84, ⟨Lc84, hQ84, l84, y84, z84⟩, st84⟩ := X83.virtualBack hx (y := (⟨"com/example/sectionary/sectionary/tables/LongKeyIntMap", "growValues", "([JI)V"⟩ : MethodName)) (z := (⟨"com/example/sectionary/sectionary/tables/LongKeyIntMap", "growValues", "([JI)V"⟩ : MethodName)) hown (mvT hZ (hw _ (List.mem_of_getElem? (i := 75) rfl))) (mvT hZ (hw _ (List.mem_of_getElem? (i := 76) rfl))) (notFace_of_selects (args := #[]) (mvT hZ (hw _ (List.mem_of_getElem? (i := 78) rfl)))) (mvT hZ (hw _ (List.mem_of_getElem? (i := 78) rfl))) (mvT hZ (hw _ (List.mem_of_getElem? (i := 77) rfl))) (by decide) (backOf (W := 0) (rm14 l Z a0 hw [] b7 b17 len wa wb wv (fun j => if j = r2.toNatClampNeg then kb else if j = r1.toNatClampNeg then q1 else 0) (((0 : Int64) ||| own_bit r1) ||| own_bit r2) nv (fun j => if j = r2.toNatClampNeg then e2.toInt64 else if j = r1.toNatClampNeg then e1.toInt64 else own_ff 64 j) (fun j => if j = r2.toNatClampNeg then p4 else if j = r1.toNatClampNeg then p3 else 0) 2 h83 n0 Z83 Tb83 F83 n12 hp0 hp1 hp2 hD) hZ (hw _ (List.mem_of_getElem? (i := 79) rfl)) (hw _ (List.mem_of_getElem? (i := 2) rfl)) (by decide) (by decide)) q84a q84c (g := (mkF m 740 #[.val (.long q1), .second, .val (.long q2), .second, .val (.int p3), .val (.int p4), .val (.int p5), .val (.int p6), .val (.long kb), .second, .val (.ref b7), .val (.int r1), .val (.int r2), .val (.int (own_min r1 r2)), .val (.int (own_max r1 r2)), .val (.int len), .val (.int (own_x1 p6 len)), .val (.int (own_w (own_x1 p6 len) r1 r2)), .val (.int yy), .val (.int (own_w yy r1 r2)), .val (.int (own_md p5)), .val (.int e1), .val (.int e2), .val (.ref b17), .unset, .unset] [(.int len), (.ref b17), (.ref b7)])) rfl (by rw [hml]; rfl) (Steps.refl _) (argsL := [(.ref b17), (.int len)]) (rest := []) (lenOf pd_0_8 rfl) rfl (by show 2 * 0 + _ ≤ _; exact Nat.le_of_eq rfl) (hb hby at_740) (fun _ _ => ⟨rfl, e83, (by decide : 2 + 3 + 1 ≤ _), (by decide : 68 + 129 + 128 ≤ _)⟩)
  dsimp only [Pt.U, Pt.locs, Pt.cells, Pt.slots] at X84 l84 y84 z84 st84 hQ84
  subst l84 y84 z84
  obtain ⟨rfl, N84q, Kc84, wn, Tb84⟩ := hQ84
  have Zt84 : n0 ≤ T84.heap.size := Nat.le_trans Z83 Kc84.1
  have N84 := Fr.app N83 N84q
  rw [← hVV] at Tb84
  obtain ⟨TD, XD, eD, stD⟩ := own_segXA q1 q2 kb p3 p4 p5 p6 r1 r2 len yy e1 e2 f1 f2 b7 b17 X84 hx hZ hw hby hml hown rfl hf1
  obtain ⟨TG, XG, eG, stG⟩ := own_segXB q1 q2 kb p3 p4 p5 p6 r1 r2 len yy e1 e2 f1 f2 b7 b17 XD hx hZ hw hby hml hown eD hf2
  have Tb85 : own_tab Z n0 TG.heap b7 wa wb wn (fun j => if j = r2.toNatClampNeg then kb else if j = r1.toNatClampNeg then q1 else 0) (((0 : Int64) ||| own_bit r1) ||| own_bit r2) nv VV 2 := by rw [eG]; exact Tb84
  have Zt85 : n0 ≤ TG.heap.size := by rw [eG]; exact Zt84
  obtain ⟨cq85, kq85, q85a, q85b, q85c⟩ := isOf hZ rfl Tb85.1
  obtain ⟨_, _, ⟨T85, L85, k85, n85⟩, -, X85, ⟨Lc85, hQ85, l85, y85, z85⟩, st85⟩ := XG.virtualBack hx (y := (⟨"com/example/sectionary/sectionary/tables/LongKeyIntMap", "getOrDefault", "(JI)I"⟩ : MethodName)) (z := (⟨"com/example/sectionary/sectionary/tables/LongKeyIntMap", "getOrDefault", "(JI)I"⟩ : MethodName)) hown (mvT hZ (hw _ (List.mem_of_getElem? (i := 80) rfl))) (mvT hZ (hw _ (List.mem_of_getElem? (i := 81) rfl))) (notFace_of_selects (args := #[]) (mvT hZ (hw _ (List.mem_of_getElem? (i := 83) rfl)))) (mvT hZ (hw _ (List.mem_of_getElem? (i := 83) rfl))) (mvT hZ (hw _ (List.mem_of_getElem? (i := 82) rfl))) (by decide) (backOf (W := 0) (rm15 l Z a0 hw [] b7 q1 (0 : Int32) wa wb wn (fun j => if j = r2.toNatClampNeg then kb else if j = r1.toNatClampNeg then q1 else 0) (((0 : Int64) ||| own_bit r1) ||| own_bit r2) nv VV 2 r1 TG.heap n0 Zt85 Tb85 hs3 hh3 hnv) hZ (hw _ (List.mem_of_getElem? (i := 84) rfl)) (hw _ (List.mem_of_getElem? (i := 2) rfl)) (by decide) (by decide)) q85a q85c (g := (mkF m 801 #[.val (.long q1), .second, .val (.long q2), .second, .val (.int p3), .val (.int p4), .val (.int p5), .val (.int p6), .val (.long kb), .second, .val (.ref b7), .val (.int r1), .val (.int r2), .val (.int (own_min r1 r2)), .val (.int (own_max r1 r2)), .val (.int len), .val (.int (own_x1 p6 len)), .val (.int (own_w (own_x1 p6 len) r1 r2)), .val (.int yy), .val (.int (own_w yy r1 r2)), .val (.int (own_md p5)), .val (.int e1), .val (.int e2), .val (.ref b17), .val (.int f1), .val (.int f2)] [(.int (0 : Int32)), (.long q1), (.ref b7)])) rfl (by rw [hml]; rfl) (Steps.refl _) (argsL := [(.long q1), (.int (0 : Int32))]) (rest := []) (lenOf pd_0_9 rfl) rfl (by show 2 * 0 + _ ≤ _; exact Nat.le_of_eq rfl) (hb hby at_801) (fun _ _ => ⟨rfl, rfl, (by decide : 2 + 3 + 1 ≤ _), (by decide : 68 + 129 + 128 ≤ _)⟩)
  dsimp only [Pt.U, Pt.locs, Pt.cells, Pt.slots] at X85 l85 y85 z85 st85 hQ85
  subst l85 y85 z85
  obtain ⟨rfl, N85q, e85⟩ := hQ85
  have Kc85 : Keep TG.heap T85.heap [] := by rw [e85]; exact Keep.refl _ _
  have Zt85 : n0 ≤ T85.heap.size := Nat.le_trans Zt85 Kc85.1
  have Tb86 : own_tab Z n0 T85.heap b7 wa wb wn (fun j => if j = r2.toNatClampNeg then kb else if j = r1.toNatClampNeg then q1 else 0) (((0 : Int64) ||| own_bit r1) ||| own_bit r2) nv VV 2 := by rw [e85]; exact Tb85
  have N85 := Fr.app N84 N85q
  obtain ⟨cq86, kq86, q86a, q86b, q86c⟩ := isOf hZ rfl Tb86.1
  obtain ⟨_, _, ⟨T86, L86, k86, n86⟩, -, X86, ⟨Lc86, hQ86, l86, y86, z86⟩, st86⟩ := X85.virtualBack hx (y := (⟨"com/example/sectionary/sectionary/tables/LongKeyIntMap", "getOrDefault", "(JI)I"⟩ : MethodName)) (z := (⟨"com/example/sectionary/sectionary/tables/LongKeyIntMap", "getOrDefault", "(JI)I"⟩ : MethodName)) hown (mvT hZ (hw _ (List.mem_of_getElem? (i := 80) rfl))) (mvT hZ (hw _ (List.mem_of_getElem? (i := 81) rfl))) (notFace_of_selects (args := #[]) (mvT hZ (hw _ (List.mem_of_getElem? (i := 83) rfl)))) (mvT hZ (hw _ (List.mem_of_getElem? (i := 83) rfl))) (mvT hZ (hw _ (List.mem_of_getElem? (i := 82) rfl))) (by decide) (backOf (W := 0) (rm15 l Z a0 hw [] b7 kb (0 : Int32) wa wb wn (fun j => if j = r2.toNatClampNeg then kb else if j = r1.toNatClampNeg then q1 else 0) (((0 : Int64) ||| own_bit r1) ||| own_bit r2) nv VV 2 r2 T85.heap n0 Zt85 Tb86 hs4 hh4 hnv) hZ (hw _ (List.mem_of_getElem? (i := 84) rfl)) (hw _ (List.mem_of_getElem? (i := 2) rfl)) (by decide) (by decide)) q86a q86c (g := (mkF m 814 #[.val (.long q1), .second, .val (.long q2), .second, .val (.int p3), .val (.int p4), .val (.int p5), .val (.int p6), .val (.long kb), .second, .val (.ref b7), .val (.int r1), .val (.int r2), .val (.int (own_min r1 r2)), .val (.int (own_max r1 r2)), .val (.int len), .val (.int (own_x1 p6 len)), .val (.int (own_w (own_x1 p6 len) r1 r2)), .val (.int yy), .val (.int (own_w yy r1 r2)), .val (.int (own_md p5)), .val (.int e1), .val (.int e2), .val (.ref b17), .val (.int f1), .val (.int f2)] [(.int (0 : Int32)), (.long kb), (.ref b7)])) rfl (by rw [hml]; rfl) (Steps.refl _) (argsL := [(.long kb), (.int (0 : Int32))]) (rest := []) (lenOf pd_0_9 rfl) rfl (by show 2 * 0 + _ ≤ _; exact Nat.le_of_eq rfl) (hb hby at_814) (fun _ _ => ⟨rfl, rfl, (by decide : 2 + 3 + 1 ≤ _), (by decide : 68 + 129 + 128 ≤ _)⟩)
  dsimp only [Pt.U, Pt.locs, Pt.cells, Pt.slots] at X86 l86 y86 z86 st86 hQ86
  subst l86 y86 z86
  obtain ⟨rfl, N86q, e86⟩ := hQ86
  have Kc86 : Keep T85.heap T86.heap [] := by rw [e86]; exact Keep.refl _ _
  have Zt86 : n0 ≤ T86.heap.size := Nat.le_trans Zt85 Kc86.1
  have N86 := Fr.app N85 N86q
  obtain ⟨fs, hr, hrun, hended, hW, hsame⟩ := X86.leave (v := some (.int (1 : Int32))) (fun h => by rw [Bd.returns] at h; cases h)
  refine ⟨_, _, pre0 _ ?_, hrun, hended, _, _, rfl, ?_, ⟨_, rfl⟩, hW, hsame.mono (by decide) (by decide)⟩
  · have sg0 : ∀ target, Steps p.tables e below (s₁.setTop (mkF m 15 #[.val (.long q1), .second, .val (.long q2), .second, .val (.int p3), .val (.int p4), .val (.int p5), .val (.int p6), .val (.long kb), .second, .unset, .unset, .unset, .unset, .unset, .unset, .unset, .unset, .unset, .unset, .unset, .unset, .unset, .unset, .unset, .unset] [])) target → Steps p.tables e below (s₁.setTop (mkF m 0 #[.val (.long q1), .second, .val (.long q2), .second, .val (.int p3), .val (.int p4), .val (.int p5), .val (.int p6), .unset, .unset, .unset, .unset, .unset, .unset, .unset, .unset, .unset, .unset, .unset, .unset, .unset, .unset, .unset, .unset, .unset, .unset] [])) target := by
      intro target kt
      by_cases hq : q2 = q1
      · rw [if_pos hq] at hkb
        rw [hkb] at kt
        have hc3 : (lcmpW q2 q1) = (0 : Int32) := (lw_eq _ _).mpr hq
        show Steps p.tables e below (s₁.setTop (mkF m 0 #[.val (.long q1), .second, .val (.long q2), .second, .val (.int p3), .val (.int p4), .val (.int p5), .val (.int p6), .unset, .unset, .unset, .unset, .unset, .unset, .unset, .unset, .unset, .unset, .unset, .unset, .unset, .unset, .unset, .unset, .unset, .unset] [])) _
        refine XS.lloadN X0.here hx rfl (hb hby at_0) rfl ?_
        show Steps p.tables e below (s₁.setTop (mkF m 1 #[.val (.long q1), .second, .val (.long q2), .second, .val (.int p3), .val (.int p4), .val (.int p5), .val (.int p6), .unset, .unset, .unset, .unset, .unset, .unset, .unset, .unset, .unset, .unset, .unset, .unset, .unset, .unset, .unset, .unset, .unset, .unset] [(.long q2)])) _
        refine XS.lloadN X0.here hx rfl (hb hby at_1) rfl ?_
        show Steps p.tables e below (s₁.setTop (mkF m 2 #[.val (.long q1), .second, .val (.long q2), .second, .val (.int p3), .val (.int p4), .val (.int p5), .val (.int p6), .unset, .unset, .unset, .unset, .unset, .unset, .unset, .unset, .unset, .unset, .unset, .unset, .unset, .unset, .unset, .unset, .unset, .unset] [(.long q1), (.long q2)])) _
        refine XS.lcmp X0.here hx rfl (hb hby at_2) rfl ?_
        show Steps p.tables e below (s₁.setTop (mkF m 3 #[.val (.long q1), .second, .val (.long q2), .second, .val (.int p3), .val (.int p4), .val (.int p5), .val (.int p6), .unset, .unset, .unset, .unset, .unset, .unset, .unset, .unset, .unset, .unset, .unset, .unset, .unset, .unset, .unset, .unset, .unset, .unset] [(.int (lcmpW q2 q1))])) _
        refine XS.ifNo X0.here hx rfl (hb hby at_3) rfl ((if0 _ _).trans (teq hc3).2) ?_
        show Steps p.tables e below (s₁.setTop (mkF m 6 #[.val (.long q1), .second, .val (.long q2), .second, .val (.int p3), .val (.int p4), .val (.int p5), .val (.int p6), .unset, .unset, .unset, .unset, .unset, .unset, .unset, .unset, .unset, .unset, .unset, .unset, .unset, .unset, .unset, .unset, .unset, .unset] [])) _
        refine XS.lloadN X0.here hx rfl (hb hby at_6) rfl ?_
        show Steps p.tables e below (s₁.setTop (mkF m 7 #[.val (.long q1), .second, .val (.long q2), .second, .val (.int p3), .val (.int p4), .val (.int p5), .val (.int p6), .unset, .unset, .unset, .unset, .unset, .unset, .unset, .unset, .unset, .unset, .unset, .unset, .unset, .unset, .unset, .unset, .unset, .unset] [(.long q1)])) _
        refine XS.lconst X0.here hx rfl (hb hby at_7) ?_
        show Steps p.tables e below (s₁.setTop (mkF m 8 #[.val (.long q1), .second, .val (.long q2), .second, .val (.int p3), .val (.int p4), .val (.int p5), .val (.int p6), .unset, .unset, .unset, .unset, .unset, .unset, .unset, .unset, .unset, .unset, .unset, .unset, .unset, .unset, .unset, .unset, .unset, .unset] [(.long (1 : Int64)), (.long q1)])) _
        refine XS.ladd X0.here hx rfl (hb hby at_8) rfl ?_
        show Steps p.tables e below (s₁.setTop (mkF m 9 #[.val (.long q1), .second, .val (.long q2), .second, .val (.int p3), .val (.int p4), .val (.int p5), .val (.int p6), .unset, .unset, .unset, .unset, .unset, .unset, .unset, .unset, .unset, .unset, .unset, .unset, .unset, .unset, .unset, .unset, .unset, .unset] [(.long (q1 + (1 : Int64)))])) _
        refine XS.goto X0.here hx rfl (pc0 := 9) (pc' := 13) rfl (hb hby at_9) (by decide) (by decide) ?_
        show Steps p.tables e below (s₁.setTop (mkF m 13 #[.val (.long q1), .second, .val (.long q2), .second, .val (.int p3), .val (.int p4), .val (.int p5), .val (.int p6), .unset, .unset, .unset, .unset, .unset, .unset, .unset, .unset, .unset, .unset, .unset, .unset, .unset, .unset, .unset, .unset, .unset, .unset] [(.long (q1 + (1 : Int64)))])) _
        refine XS.lstore X0.here hx rfl (hb hby at_13) rfl (l' := #[.val (.long q1), .second, .val (.long q2), .second, .val (.int p3), .val (.int p4), .val (.int p5), .val (.int p6), .val (.long (q1 + (1 : Int64))), .second, .unset, .unset, .unset, .unset, .unset, .unset, .unset, .unset, .unset, .unset, .unset, .unset, .unset, .unset, .unset, .unset]) rfl ?_
        exact kt
      · rw [if_neg hq] at hkb
        rw [hkb] at kt
        have hc3 : ¬ (lcmpW q2 q1) = (0 : Int32) := fun z => hq ((lw_eq _ _).mp z)
        show Steps p.tables e below (s₁.setTop (mkF m 0 #[.val (.long q1), .second, .val (.long q2), .second, .val (.int p3), .val (.int p4), .val (.int p5), .val (.int p6), .unset, .unset, .unset, .unset, .unset, .unset, .unset, .unset, .unset, .unset, .unset, .unset, .unset, .unset, .unset, .unset, .unset, .unset] [])) _
        refine XS.lloadN X0.here hx rfl (hb hby at_0) rfl ?_
        show Steps p.tables e below (s₁.setTop (mkF m 1 #[.val (.long q1), .second, .val (.long q2), .second, .val (.int p3), .val (.int p4), .val (.int p5), .val (.int p6), .unset, .unset, .unset, .unset, .unset, .unset, .unset, .unset, .unset, .unset, .unset, .unset, .unset, .unset, .unset, .unset, .unset, .unset] [(.long q2)])) _
        refine XS.lloadN X0.here hx rfl (hb hby at_1) rfl ?_
        show Steps p.tables e below (s₁.setTop (mkF m 2 #[.val (.long q1), .second, .val (.long q2), .second, .val (.int p3), .val (.int p4), .val (.int p5), .val (.int p6), .unset, .unset, .unset, .unset, .unset, .unset, .unset, .unset, .unset, .unset, .unset, .unset, .unset, .unset, .unset, .unset, .unset, .unset] [(.long q1), (.long q2)])) _
        refine XS.lcmp X0.here hx rfl (hb hby at_2) rfl ?_
        show Steps p.tables e below (s₁.setTop (mkF m 3 #[.val (.long q1), .second, .val (.long q2), .second, .val (.int p3), .val (.int p4), .val (.int p5), .val (.int p6), .unset, .unset, .unset, .unset, .unset, .unset, .unset, .unset, .unset, .unset, .unset, .unset, .unset, .unset, .unset, .unset, .unset, .unset] [(.int (lcmpW q2 q1))])) _
        refine XS.ifYes X0.here hx rfl (pc0 := 3) (pc' := 12) rfl (hb hby at_3) rfl ((if0 _ _).trans (feq hc3).2) (by decide) (by decide) ?_
        show Steps p.tables e below (s₁.setTop (mkF m 12 #[.val (.long q1), .second, .val (.long q2), .second, .val (.int p3), .val (.int p4), .val (.int p5), .val (.int p6), .unset, .unset, .unset, .unset, .unset, .unset, .unset, .unset, .unset, .unset, .unset, .unset, .unset, .unset, .unset, .unset, .unset, .unset] [])) _
        refine XS.lloadN X0.here hx rfl (hb hby at_12) rfl ?_
        show Steps p.tables e below (s₁.setTop (mkF m 13 #[.val (.long q1), .second, .val (.long q2), .second, .val (.int p3), .val (.int p4), .val (.int p5), .val (.int p6), .unset, .unset, .unset, .unset, .unset, .unset, .unset, .unset, .unset, .unset, .unset, .unset, .unset, .unset, .unset, .unset, .unset, .unset] [(.long q2)])) _
        refine XS.lstore X0.here hx rfl (hb hby at_13) rfl (l' := #[.val (.long q1), .second, .val (.long q2), .second, .val (.int p3), .val (.int p4), .val (.int p5), .val (.int p6), .val (.long q2), .second, .unset, .unset, .unset, .unset, .unset, .unset, .unset, .unset, .unset, .unset, .unset, .unset, .unset, .unset, .unset, .unset]) rfl ?_
        exact kt
    refine sg0 _ ?_
    show Steps p.tables e below (s₁.setTop (mkF m 15 #[.val (.long q1), .second, .val (.long q2), .second, .val (.int p3), .val (.int p4), .val (.int p5), .val (.int p6), .val (.long kb), .second, .unset, .unset, .unset, .unset, .unset, .unset, .unset, .unset, .unset, .unset, .unset, .unset, .unset, .unset, .unset, .unset] [])) _
    refine st7 _ ?_
    show Steps p.tables e below (T7.setTop (mkF m 18 #[.val (.long q1), .second, .val (.long q2), .second, .val (.int p3), .val (.int p4), .val (.int p5), .val (.int p6), .val (.long kb), .second, .unset, .unset, .unset, .unset, .unset, .unset, .unset, .unset, .unset, .unset, .unset, .unset, .unset, .unset, .unset, .unset] [(.ref b7)])) _
    refine XS.dup X7.here hx rfl (hb hby at_18) rfl rfl ?_
    show Steps p.tables e below (T7.setTop (mkF m 19 #[.val (.long q1), .second, .val (.long q2), .second, .val (.int p3), .val (.int p4), .val (.int p5), .val (.int p6), .val (.long kb), .second, .unset, .unset, .unset, .unset, .unset, .unset, .unset, .unset, .unset, .unset, .unset, .unset, .unset, .unset, .unset, .unset] [(.ref b7), (.ref b7)])) _
    refine st8.trans ?_
    show Steps p.tables e below (T8.setTop (mkF m 22 #[.val (.long q1), .second, .val (.long q2), .second, .val (.int p3), .val (.int p4), .val (.int p5), .val (.int p6), .val (.long kb), .second, .unset, .unset, .unset, .unset, .unset, .unset, .unset, .unset, .unset, .unset, .unset, .unset, .unset, .unset, .unset, .unset] [(.ref b7)])) _
    refine XS.astore X8.here hx rfl (hb hby at_22) rfl rfl (l' := #[.val (.long q1), .second, .val (.long q2), .second, .val (.int p3), .val (.int p4), .val (.int p5), .val (.int p6), .val (.long kb), .second, .val (.ref b7), .unset, .unset, .unset, .unset, .unset, .unset, .unset, .unset, .unset, .unset, .unset, .unset, .unset, .unset, .unset]) rfl ?_
    show Steps p.tables e below (T8.setTop (mkF m 24 #[.val (.long q1), .second, .val (.long q2), .second, .val (.int p3), .val (.int p4), .val (.int p5), .val (.int p6), .val (.long kb), .second, .val (.ref b7), .unset, .unset, .unset, .unset, .unset, .unset, .unset, .unset, .unset, .unset, .unset, .unset, .unset, .unset, .unset] [])) _
    refine XS.aload X8.here hx rfl (hb hby at_24) rfl rfl ?_
    show Steps p.tables e below (T8.setTop (mkF m 26 #[.val (.long q1), .second, .val (.long q2), .second, .val (.int p3), .val (.int p4), .val (.int p5), .val (.int p6), .val (.long kb), .second, .val (.ref b7), .unset, .unset, .unset, .unset, .unset, .unset, .unset, .unset, .unset, .unset, .unset, .unset, .unset, .unset, .unset] [(.ref b7)])) _
    refine XS.lloadN X8.here hx rfl (hb hby at_26) rfl ?_
    show Steps p.tables e below (T8.setTop (mkF m 27 #[.val (.long q1), .second, .val (.long q2), .second, .val (.int p3), .val (.int p4), .val (.int p5), .val (.int p6), .val (.long kb), .second, .val (.ref b7), .unset, .unset, .unset, .unset, .unset, .unset, .unset, .unset, .unset, .unset, .unset, .unset, .unset, .unset, .unset] [(.long q1), (.ref b7)])) _
    refine XS.iload X8.here hx rfl (hb hby at_27) rfl ?_
    show Steps p.tables e below (T8.setTop (mkF m 29 #[.val (.long q1), .second, .val (.long q2), .second, .val (.int p3), .val (.int p4), .val (.int p5), .val (.int p6), .val (.long kb), .second, .val (.ref b7), .unset, .unset, .unset, .unset, .unset, .unset, .unset, .unset, .unset, .unset, .unset, .unset, .unset, .unset, .unset] [(.int p3), (.long q1), (.ref b7)])) _
    refine st9.trans ?_
    show Steps p.tables e below (T9.setTop (mkF m 32 #[.val (.long q1), .second, .val (.long q2), .second, .val (.int p3), .val (.int p4), .val (.int p5), .val (.int p6), .val (.long kb), .second, .val (.ref b7), .unset, .unset, .unset, .unset, .unset, .unset, .unset, .unset, .unset, .unset, .unset, .unset, .unset, .unset, .unset] [])) _
    refine XS.aload X9.here hx rfl (hb hby at_32) rfl rfl ?_
    show Steps p.tables e below (T9.setTop (mkF m 34 #[.val (.long q1), .second, .val (.long q2), .second, .val (.int p3), .val (.int p4), .val (.int p5), .val (.int p6), .val (.long kb), .second, .val (.ref b7), .unset, .unset, .unset, .unset, .unset, .unset, .unset, .unset, .unset, .unset, .unset, .unset, .unset, .unset, .unset] [(.ref b7)])) _
    refine XS.lload X9.here hx rfl (hb hby at_34) rfl ?_
    show Steps p.tables e below (T9.setTop (mkF m 36 #[.val (.long q1), .second, .val (.long q2), .second, .val (.int p3), .val (.int p4), .val (.int p5), .val (.int p6), .val (.long kb), .second, .val (.ref b7), .unset, .unset, .unset, .unset, .unset, .unset, .unset, .unset, .unset, .unset, .unset, .unset, .unset, .unset, .unset] [(.long kb), (.ref b7)])) _
    refine XS.iload X9.here hx rfl (hb hby at_36) rfl ?_
    show Steps p.tables e below (T9.setTop (mkF m 38 #[.val (.long q1), .second, .val (.long q2), .second, .val (.int p3), .val (.int p4), .val (.int p5), .val (.int p6), .val (.long kb), .second, .val (.ref b7), .unset, .unset, .unset, .unset, .unset, .unset, .unset, .unset, .unset, .unset, .unset, .unset, .unset, .unset, .unset] [(.int p4), (.long kb), (.ref b7)])) _
    refine st10.trans ?_
    show Steps p.tables e below (T10.setTop (mkF m 41 #[.val (.long q1), .second, .val (.long q2), .second, .val (.int p3), .val (.int p4), .val (.int p5), .val (.int p6), .val (.long kb), .second, .val (.ref b7), .unset, .unset, .unset, .unset, .unset, .unset, .unset, .unset, .unset, .unset, .unset, .unset, .unset, .unset, .unset] [])) _
    refine XS.aload X10.here hx rfl (hb hby at_41) rfl rfl ?_
    show Steps p.tables e below (T10.setTop (mkF m 43 #[.val (.long q1), .second, .val (.long q2), .second, .val (.int p3), .val (.int p4), .val (.int p5), .val (.int p6), .val (.long kb), .second, .val (.ref b7), .unset, .unset, .unset, .unset, .unset, .unset, .unset, .unset, .unset, .unset, .unset, .unset, .unset, .unset, .unset] [(.ref b7)])) _
    refine XS.lloadN X10.here hx rfl (hb hby at_43) rfl ?_
    show Steps p.tables e below (T10.setTop (mkF m 44 #[.val (.long q1), .second, .val (.long q2), .second, .val (.int p3), .val (.int p4), .val (.int p5), .val (.int p6), .val (.long kb), .second, .val (.ref b7), .unset, .unset, .unset, .unset, .unset, .unset, .unset, .unset, .unset, .unset, .unset, .unset, .unset, .unset, .unset] [(.long q1), (.ref b7)])) _
    refine st11.trans ?_
    show Steps p.tables e below (T11.setTop (mkF m 47 #[.val (.long q1), .second, .val (.long q2), .second, .val (.int p3), .val (.int p4), .val (.int p5), .val (.int p6), .val (.long kb), .second, .val (.ref b7), .unset, .unset, .unset, .unset, .unset, .unset, .unset, .unset, .unset, .unset, .unset, .unset, .unset, .unset, .unset] [(.int r1)])) _
    refine XS.istore X11.here hx rfl (hb hby at_47) rfl (l' := #[.val (.long q1), .second, .val (.long q2), .second, .val (.int p3), .val (.int p4), .val (.int p5), .val (.int p6), .val (.long kb), .second, .val (.ref b7), .val (.int r1), .unset, .unset, .unset, .unset, .unset, .unset, .unset, .unset, .unset, .unset, .unset, .unset, .unset, .unset]) rfl ?_
    show Steps p.tables e below (T11.setTop (mkF m 49 #[.val (.long q1), .second, .val (.long q2), .second, .val (.int p3), .val (.int p4), .val (.int p5), .val (.int p6), .val (.long kb), .second, .val (.ref b7), .val (.int r1), .unset, .unset, .unset, .unset, .unset, .unset, .unset, .unset, .unset, .unset, .unset, .unset, .unset, .unset] [])) _
    refine XS.aload X11.here hx rfl (hb hby at_49) rfl rfl ?_
    show Steps p.tables e below (T11.setTop (mkF m 51 #[.val (.long q1), .second, .val (.long q2), .second, .val (.int p3), .val (.int p4), .val (.int p5), .val (.int p6), .val (.long kb), .second, .val (.ref b7), .val (.int r1), .unset, .unset, .unset, .unset, .unset, .unset, .unset, .unset, .unset, .unset, .unset, .unset, .unset, .unset] [(.ref b7)])) _
    refine XS.lload X11.here hx rfl (hb hby at_51) rfl ?_
    show Steps p.tables e below (T11.setTop (mkF m 53 #[.val (.long q1), .second, .val (.long q2), .second, .val (.int p3), .val (.int p4), .val (.int p5), .val (.int p6), .val (.long kb), .second, .val (.ref b7), .val (.int r1), .unset, .unset, .unset, .unset, .unset, .unset, .unset, .unset, .unset, .unset, .unset, .unset, .unset, .unset] [(.long kb), (.ref b7)])) _
    refine st12.trans ?_
    show Steps p.tables e below (T12.setTop (mkF m 56 #[.val (.long q1), .second, .val (.long q2), .second, .val (.int p3), .val (.int p4), .val (.int p5), .val (.int p6), .val (.long kb), .second, .val (.ref b7), .val (.int r1), .unset, .unset, .unset, .unset, .unset, .unset, .unset, .unset, .unset, .unset, .unset, .unset, .unset, .unset] [(.int r2)])) _
    refine XS.istore X12.here hx rfl (hb hby at_56) rfl (l' := #[.val (.long q1), .second, .val (.long q2), .second, .val (.int p3), .val (.int p4), .val (.int p5), .val (.int p6), .val (.long kb), .second, .val (.ref b7), .val (.int r1), .val (.int r2), .unset, .unset, .unset, .unset, .unset, .unset, .unset, .unset, .unset, .unset, .unset, .unset, .unset]) rfl ?_
    show Steps p.tables e below (T12.setTop (mkF m 58 #[.val (.long q1), .second, .val (.long q2), .second, .val (.int p3), .val (.int p4), .val (.int p5), .val (.int p6), .val (.long kb), .second, .val (.ref b7), .val (.int r1), .val (.int r2), .unset, .unset, .unset, .unset, .unset, .unset, .unset, .unset, .unset, .unset, .unset, .unset, .unset] [])) _
    refine XS.iload X12.here hx rfl (hb hby at_58) rfl ?_
    show Steps p.tables e below (T12.setTop (mkF m 60 #[.val (.long q1), .second, .val (.long q2), .second, .val (.int p3), .val (.int p4), .val (.int p5), .val (.int p6), .val (.long kb), .second, .val (.ref b7), .val (.int r1), .val (.int r2), .unset, .unset, .unset, .unset, .unset, .unset, .unset, .unset, .unset, .unset, .unset, .unset, .unset] [(.int r1)])) _
    refine XS.iload X12.here hx rfl (hb hby at_60) rfl ?_
    show Steps p.tables e below (T12.setTop (mkF m 62 #[.val (.long q1), .second, .val (.long q2), .second, .val (.int p3), .val (.int p4), .val (.int p5), .val (.int p6), .val (.long kb), .second, .val (.ref b7), .val (.int r1), .val (.int r2), .unset, .unset, .unset, .unset, .unset, .unset, .unset, .unset, .unset, .unset, .unset, .unset, .unset] [(.int r2), (.int r1)])) _
    refine st13 _ ?_
    show Steps p.tables e below (T13.setTop (mkF m 65 #[.val (.long q1), .second, .val (.long q2), .second, .val (.int p3), .val (.int p4), .val (.int p5), .val (.int p6), .val (.long kb), .second, .val (.ref b7), .val (.int r1), .val (.int r2), .unset, .unset, .unset, .unset, .unset, .unset, .unset, .unset, .unset, .unset, .unset, .unset, .unset] [(.int (own_min r1 r2))])) _
    refine XS.istore X13.here hx rfl (hb hby at_65) rfl (l' := #[.val (.long q1), .second, .val (.long q2), .second, .val (.int p3), .val (.int p4), .val (.int p5), .val (.int p6), .val (.long kb), .second, .val (.ref b7), .val (.int r1), .val (.int r2), .val (.int (own_min r1 r2)), .unset, .unset, .unset, .unset, .unset, .unset, .unset, .unset, .unset, .unset, .unset, .unset]) rfl ?_
    show Steps p.tables e below (T13.setTop (mkF m 67 #[.val (.long q1), .second, .val (.long q2), .second, .val (.int p3), .val (.int p4), .val (.int p5), .val (.int p6), .val (.long kb), .second, .val (.ref b7), .val (.int r1), .val (.int r2), .val (.int (own_min r1 r2)), .unset, .unset, .unset, .unset, .unset, .unset, .unset, .unset, .unset, .unset, .unset, .unset] [])) _
    refine XS.iload X13.here hx rfl (hb hby at_67) rfl ?_
    show Steps p.tables e below (T13.setTop (mkF m 69 #[.val (.long q1), .second, .val (.long q2), .second, .val (.int p3), .val (.int p4), .val (.int p5), .val (.int p6), .val (.long kb), .second, .val (.ref b7), .val (.int r1), .val (.int r2), .val (.int (own_min r1 r2)), .unset, .unset, .unset, .unset, .unset, .unset, .unset, .unset, .unset, .unset, .unset, .unset] [(.int r1)])) _
    refine XS.iload X13.here hx rfl (hb hby at_69) rfl ?_
    show Steps p.tables e below (T13.setTop (mkF m 71 #[.val (.long q1), .second, .val (.long q2), .second, .val (.int p3), .val (.int p4), .val (.int p5), .val (.int p6), .val (.long kb), .second, .val (.ref b7), .val (.int r1), .val (.int r2), .val (.int (own_min r1 r2)), .unset, .unset, .unset, .unset, .unset, .unset, .unset, .unset, .unset, .unset, .unset, .unset] [(.int r2), (.int r1)])) _
    refine st14 _ ?_
    show Steps p.tables e below (T14.setTop (mkF m 74 #[.val (.long q1), .second, .val (.long q2), .second, .val (.int p3), .val (.int p4), .val (.int p5), .val (.int p6), .val (.long kb), .second, .val (.ref b7), .val (.int r1), .val (.int r2), .val (.int (own_min r1 r2)), .unset, .unset, .unset, .unset, .unset, .unset, .unset, .unset, .unset, .unset, .unset, .unset] [(.int (own_max r1 r2))])) _
    refine XS.istore X14.here hx rfl (hb hby at_74) rfl (l' := #[.val (.long q1), .second, .val (.long q2), .second, .val (.int p3), .val (.int p4), .val (.int p5), .val (.int p6), .val (.long kb), .second, .val (.ref b7), .val (.int r1), .val (.int r2), .val (.int (own_min r1 r2)), .val (.int (own_max r1 r2)), .unset, .unset, .unset, .unset, .unset, .unset, .unset, .unset, .unset, .unset, .unset]) rfl ?_
    refine stA _ ?_
    show Steps p.tables e below (TA.setTop (mkF m 93 #[.val (.long q1), .second, .val (.long q2), .second, .val (.int p3), .val (.int p4), .val (.int p5), .val (.int p6), .val (.long kb), .second, .val (.ref b7), .val (.int r1), .val (.int r2), .val (.int (own_min r1 r2)), .val (.int (own_max r1 r2)), .val (.int len), .unset, .unset, .unset, .unset, .unset, .unset, .unset, .unset, .unset, .unset] [])) _
    refine XS.iload XA.here hx rfl (hb hby at_93) rfl ?_
    show Steps p.tables e below (TA.setTop (mkF m 95 #[.val (.long q1), .second, .val (.long q2), .second, .val (.int p3), .val (.int p4), .val (.int p5), .val (.int p6), .val (.long kb), .second, .val (.ref b7), .val (.int r1), .val (.int r2), .val (.int (own_min r1 r2)), .val (.int (own_max r1 r2)), .val (.int len), .unset, .unset, .unset, .unset, .unset, .unset, .unset, .unset, .unset, .unset] [(.int p6)])) _
    refine XA.ldcInt hx hown (mvT hZ (hw _ (List.mem_of_getElem? (i := 68) rfl))) (g := (mkF m 95 #[.val (.long q1), .second, .val (.long q2), .second, .val (.int p3), .val (.int p4), .val (.int p5), .val (.int p6), .val (.long kb), .second, .val (.ref b7), .val (.int r1), .val (.int r2), .val (.int (own_min r1 r2)), .val (.int (own_max r1 r2)), .val (.int len), .unset, .unset, .unset, .unset, .unset, .unset, .unset, .unset, .unset, .unset] [(.int p6)])) rfl (hb hby at_95) _ ?_
    show Steps p.tables e below (TA.setTop (mkF m 97 #[.val (.long q1), .second, .val (.long q2), .second, .val (.int p3), .val (.int p4), .val (.int p5), .val (.int p6), .val (.long kb), .second, .val (.ref b7), .val (.int r1), .val (.int r2), .val (.int (own_min r1 r2)), .val (.int (own_max r1 r2)), .val (.int len), .unset, .unset, .unset, .unset, .unset, .unset, .unset, .unset, .unset, .unset] [(.int (65535 : Int32)), (.int p6)])) _
    refine XS.iand XA.here hx rfl (hb hby at_97) rfl ?_
    show Steps p.tables e below (TA.setTop (mkF m 98 #[.val (.long q1), .second, .val (.long q2), .second, .val (.int p3), .val (.int p4), .val (.int p5), .val (.int p6), .val (.long kb), .second, .val (.ref b7), .val (.int r1), .val (.int r2), .val (.int (own_min r1 r2)), .val (.int (own_max r1 r2)), .val (.int len), .unset, .unset, .unset, .unset, .unset, .unset, .unset, .unset, .unset, .unset] [(.int (p6 &&& (65535 : Int32)))])) _
    refine XS.iload XA.here hx rfl (hb hby at_98) rfl ?_
    show Steps p.tables e below (TA.setTop (mkF m 100 #[.val (.long q1), .second, .val (.long q2), .second, .val (.int p3), .val (.int p4), .val (.int p5), .val (.int p6), .val (.long kb), .second, .val (.ref b7), .val (.int r1), .val (.int r2), .val (.int (own_min r1 r2)), .val (.int (own_max r1 r2)), .val (.int len), .unset, .unset, .unset, .unset, .unset, .unset, .unset, .unset, .unset, .unset] [(.int len), (.int (p6 &&& (65535 : Int32)))])) _
    refine XS.iconst XA.here hx rfl (hb hby at_100) ?_
    show Steps p.tables e below (TA.setTop (mkF m 101 #[.val (.long q1), .second, .val (.long q2), .second, .val (.int p3), .val (.int p4), .val (.int p5), .val (.int p6), .val (.long kb), .second, .val (.ref b7), .val (.int r1), .val (.int r2), .val (.int (own_min r1 r2)), .val (.int (own_max r1 r2)), .val (.int len), .unset, .unset, .unset, .unset, .unset, .unset, .unset, .unset, .unset, .unset] [(.int (2 : Int32)), (.int len), (.int (p6 &&& (65535 : Int32)))])) _
    refine XS.isub XA.here hx rfl (hb hby at_101) rfl ?_
    show Steps p.tables e below (TA.setTop (mkF m 102 #[.val (.long q1), .second, .val (.long q2), .second, .val (.int p3), .val (.int p4), .val (.int p5), .val (.int p6), .val (.long kb), .second, .val (.ref b7), .val (.int r1), .val (.int r2), .val (.int (own_min r1 r2)), .val (.int (own_max r1 r2)), .val (.int len), .unset, .unset, .unset, .unset, .unset, .unset, .unset, .unset, .unset, .unset] [(.int (len - (2 : Int32))), (.int (p6 &&& (65535 : Int32)))])) _
    refine own_irem XA.here hx rfl (hb hby at_102) rfl hnz102 ?_
    show Steps p.tables e below (TA.setTop (mkF m 103 #[.val (.long q1), .second, .val (.long q2), .second, .val (.int p3), .val (.int p4), .val (.int p5), .val (.int p6), .val (.long kb), .second, .val (.ref b7), .val (.int r1), .val (.int r2), .val (.int (own_min r1 r2)), .val (.int (own_max r1 r2)), .val (.int len), .unset, .unset, .unset, .unset, .unset, .unset, .unset, .unset, .unset, .unset] [(.int (own_x1 p6 len))])) _
    refine XS.istore XA.here hx rfl (hb hby at_103) rfl (l' := #[.val (.long q1), .second, .val (.long q2), .second, .val (.int p3), .val (.int p4), .val (.int p5), .val (.int p6), .val (.long kb), .second, .val (.ref b7), .val (.int r1), .val (.int r2), .val (.int (own_min r1 r2)), .val (.int (own_max r1 r2)), .val (.int len), .val (.int (own_x1 p6 len)), .unset, .unset, .unset, .unset, .unset, .unset, .unset, .unset, .unset]) rfl ?_
    show Steps p.tables e below (TA.setTop (mkF m 105 #[.val (.long q1), .second, .val (.long q2), .second, .val (.int p3), .val (.int p4), .val (.int p5), .val (.int p6), .val (.long kb), .second, .val (.ref b7), .val (.int r1), .val (.int r2), .val (.int (own_min r1 r2)), .val (.int (own_max r1 r2)), .val (.int len), .val (.int (own_x1 p6 len)), .unset, .unset, .unset, .unset, .unset, .unset, .unset, .unset, .unset] [])) _
    refine XS.iload XA.here hx rfl (hb hby at_105) rfl ?_
    show Steps p.tables e below (TA.setTop (mkF m 107 #[.val (.long q1), .second, .val (.long q2), .second, .val (.int p3), .val (.int p4), .val (.int p5), .val (.int p6), .val (.long kb), .second, .val (.ref b7), .val (.int r1), .val (.int r2), .val (.int (own_min r1 r2)), .val (.int (own_max r1 r2)), .val (.int len), .val (.int (own_x1 p6 len)), .unset, .unset, .unset, .unset, .unset, .unset, .unset, .unset, .unset] [(.int (own_x1 p6 len))])) _
    refine XS.iload XA.here hx rfl (hb hby at_107) rfl ?_
    show Steps p.tables e below (TA.setTop (mkF m 109 #[.val (.long q1), .second, .val (.long q2), .second, .val (.int p3), .val (.int p4), .val (.int p5), .val (.int p6), .val (.long kb), .second, .val (.ref b7), .val (.int r1), .val (.int r2), .val (.int (own_min r1 r2)), .val (.int (own_max r1 r2)), .val (.int len), .val (.int (own_x1 p6 len)), .unset, .unset, .unset, .unset, .unset, .unset, .unset, .unset, .unset] [(.int (own_min r1 r2)), (.int (own_x1 p6 len))])) _
    refine XS.iload XA.here hx rfl (hb hby at_109) rfl ?_
    show Steps p.tables e below (TA.setTop (mkF m 111 #[.val (.long q1), .second, .val (.long q2), .second, .val (.int p3), .val (.int p4), .val (.int p5), .val (.int p6), .val (.long kb), .second, .val (.ref b7), .val (.int r1), .val (.int r2), .val (.int (own_min r1 r2)), .val (.int (own_max r1 r2)), .val (.int len), .val (.int (own_x1 p6 len)), .unset, .unset, .unset, .unset, .unset, .unset, .unset, .unset, .unset] [(.int (own_max r1 r2)), (.int (own_min r1 r2)), (.int (own_x1 p6 len))])) _
    refine st15 _ ?_
    show Steps p.tables e below (T15.setTop (mkF m 114 #[.val (.long q1), .second, .val (.long q2), .second, .val (.int p3), .val (.int p4), .val (.int p5), .val (.int p6), .val (.long kb), .second, .val (.ref b7), .val (.int r1), .val (.int r2), .val (.int (own_min r1 r2)), .val (.int (own_max r1 r2)), .val (.int len), .val (.int (own_x1 p6 len)), .unset, .unset, .unset, .unset, .unset, .unset, .unset, .unset, .unset] [(.int (own_w (own_x1 p6 len) r1 r2))])) _
    refine XS.istore X15.here hx rfl (hb hby at_114) rfl (l' := #[.val (.long q1), .second, .val (.long q2), .second, .val (.int p3), .val (.int p4), .val (.int p5), .val (.int p6), .val (.long kb), .second, .val (.ref b7), .val (.int r1), .val (.int r2), .val (.int (own_min r1 r2)), .val (.int (own_max r1 r2)), .val (.int len), .val (.int (own_x1 p6 len)), .val (.int (own_w (own_x1 p6 len) r1 r2)), .unset, .unset, .unset, .unset, .unset, .unset, .unset, .unset]) rfl ?_
    show Steps p.tables e below (T15.setTop (mkF m 116 #[.val (.long q1), .second, .val (.long q2), .second, .val (.int p3), .val (.int p4), .val (.int p5), .val (.int p6), .val (.long kb), .second, .val (.ref b7), .val (.int r1), .val (.int r2), .val (.int (own_min r1 r2)), .val (.int (own_max r1 r2)), .val (.int len), .val (.int (own_x1 p6 len)), .val (.int (own_w (own_x1 p6 len) r1 r2)), .unset, .unset, .unset, .unset, .unset, .unset, .unset, .unset] [])) _
    refine XS.iload X15.here hx rfl (hb hby at_116) rfl ?_
    show Steps p.tables e below (T15.setTop (mkF m 118 #[.val (.long q1), .second, .val (.long q2), .second, .val (.int p3), .val (.int p4), .val (.int p5), .val (.int p6), .val (.long kb), .second, .val (.ref b7), .val (.int r1), .val (.int r2), .val (.int (own_min r1 r2)), .val (.int (own_max r1 r2)), .val (.int len), .val (.int (own_x1 p6 len)), .val (.int (own_w (own_x1 p6 len) r1 r2)), .unset, .unset, .unset, .unset, .unset, .unset, .unset, .unset] [(.int p6)])) _
    refine XS.bipush X15.here hx rfl (hb hby at_118) ?_
    show Steps p.tables e below (T15.setTop (mkF m 120 #[.val (.long q1), .second, .val (.long q2), .second, .val (.int p3), .val (.int p4), .val (.int p5), .val (.int p6), .val (.long kb), .second, .val (.ref b7), .val (.int r1), .val (.int r2), .val (.int (own_min r1 r2)), .val (.int (own_max r1 r2)), .val (.int len), .val (.int (own_x1 p6 len)), .val (.int (own_w (own_x1 p6 len) r1 r2)), .unset, .unset, .unset, .unset, .unset, .unset, .unset, .unset] [(.int (16 : Int32)), (.int p6)])) _
    refine XS.iushr X15.here hx rfl (hb hby at_120) rfl ?_
    show Steps p.tables e below (T15.setTop (mkF m 121 #[.val (.long q1), .second, .val (.long q2), .second, .val (.int p3), .val (.int p4), .val (.int p5), .val (.int p6), .val (.long kb), .second, .val (.ref b7), .val (.int r1), .val (.int r2), .val (.int (own_min r1 r2)), .val (.int (own_max r1 r2)), .val (.int len), .val (.int (own_x1 p6 len)), .val (.int (own_w (own_x1 p6 len) r1 r2)), .unset, .unset, .unset, .unset, .unset, .unset, .unset, .unset] [(.int ((p6.toUInt32 >>> ((16 : Int32) &&& 31).toUInt32).toInt32))])) _
    refine XS.iload X15.here hx rfl (hb hby at_121) rfl ?_
    show Steps p.tables e below (T15.setTop (mkF m 123 #[.val (.long q1), .second, .val (.long q2), .second, .val (.int p3), .val (.int p4), .val (.int p5), .val (.int p6), .val (.long kb), .second, .val (.ref b7), .val (.int r1), .val (.int r2), .val (.int (own_min r1 r2)), .val (.int (own_max r1 r2)), .val (.int len), .val (.int (own_x1 p6 len)), .val (.int (own_w (own_x1 p6 len) r1 r2)), .unset, .unset, .unset, .unset, .unset, .unset, .unset, .unset] [(.int len), (.int ((p6.toUInt32 >>> ((16 : Int32) &&& 31).toUInt32).toInt32))])) _
    refine XS.iconst X15.here hx rfl (hb hby at_123) ?_
    show Steps p.tables e below (T15.setTop (mkF m 124 #[.val (.long q1), .second, .val (.long q2), .second, .val (.int p3), .val (.int p4), .val (.int p5), .val (.int p6), .val (.long kb), .second, .val (.ref b7), .val (.int r1), .val (.int r2), .val (.int (own_min r1 r2)), .val (.int (own_max r1 r2)), .val (.int len), .val (.int (own_x1 p6 len)), .val (.int (own_w (own_x1 p6 len) r1 r2)), .unset, .unset, .unset, .unset, .unset, .unset, .unset, .unset] [(.int (3 : Int32)), (.int len), (.int ((p6.toUInt32 >>> ((16 : Int32) &&& 31).toUInt32).toInt32))])) _
    refine XS.isub X15.here hx rfl (hb hby at_124) rfl ?_
    show Steps p.tables e below (T15.setTop (mkF m 125 #[.val (.long q1), .second, .val (.long q2), .second, .val (.int p3), .val (.int p4), .val (.int p5), .val (.int p6), .val (.long kb), .second, .val (.ref b7), .val (.int r1), .val (.int r2), .val (.int (own_min r1 r2)), .val (.int (own_max r1 r2)), .val (.int len), .val (.int (own_x1 p6 len)), .val (.int (own_w (own_x1 p6 len) r1 r2)), .unset, .unset, .unset, .unset, .unset, .unset, .unset, .unset] [(.int (len - (3 : Int32))), (.int ((p6.toUInt32 >>> ((16 : Int32) &&& 31).toUInt32).toInt32))])) _
    refine own_irem X15.here hx rfl (hb hby at_125) rfl hnz125 ?_
    show Steps p.tables e below (T15.setTop (mkF m 126 #[.val (.long q1), .second, .val (.long q2), .second, .val (.int p3), .val (.int p4), .val (.int p5), .val (.int p6), .val (.long kb), .second, .val (.ref b7), .val (.int r1), .val (.int r2), .val (.int (own_min r1 r2)), .val (.int (own_max r1 r2)), .val (.int len), .val (.int (own_x1 p6 len)), .val (.int (own_w (own_x1 p6 len) r1 r2)), .unset, .unset, .unset, .unset, .unset, .unset, .unset, .unset] [(.int (own_y p6 len))])) _
    refine XS.istore X15.here hx rfl (hb hby at_126) rfl (l' := #[.val (.long q1), .second, .val (.long q2), .second, .val (.int p3), .val (.int p4), .val (.int p5), .val (.int p6), .val (.long kb), .second, .val (.ref b7), .val (.int r1), .val (.int r2), .val (.int (own_min r1 r2)), .val (.int (own_max r1 r2)), .val (.int len), .val (.int (own_x1 p6 len)), .val (.int (own_w (own_x1 p6 len) r1 r2)), .val (.int (own_y p6 len)), .unset, .unset, .unset, .unset, .unset, .unset, .unset]) rfl ?_
    refine stB _ ?_
    show Steps p.tables e below (TB.setTop (mkF m 138 #[.val (.long q1), .second, .val (.long q2), .second, .val (.int p3), .val (.int p4), .val (.int p5), .val (.int p6), .val (.long kb), .second, .val (.ref b7), .val (.int r1), .val (.int r2), .val (.int (own_min r1 r2)), .val (.int (own_max r1 r2)), .val (.int len), .val (.int (own_x1 p6 len)), .val (.int (own_w (own_x1 p6 len) r1 r2)), .val (.int yy), .unset, .unset, .unset, .unset, .unset, .unset, .unset] [])) _
    refine XS.iload XB.here hx rfl (hb hby at_138) rfl ?_
    show Steps p.tables e below (TB.setTop (mkF m 140 #[.val (.long q1), .second, .val (.long q2), .second, .val (.int p3), .val (.int p4), .val (.int p5), .val (.int p6), .val (.long kb), .second, .val (.ref b7), .val (.int r1), .val (.int r2), .val (.int (own_min r1 r2)), .val (.int (own_max r1 r2)), .val (.int len), .val (.int (own_x1 p6 len)), .val (.int (own_w (own_x1 p6 len) r1 r2)), .val (.int yy), .unset, .unset, .unset, .unset, .unset, .unset, .unset] [(.int yy)])) _
    refine XS.iload XB.here hx rfl (hb hby at_140) rfl ?_
    show Steps p.tables e below (TB.setTop (mkF m 142 #[.val (.long q1), .second, .val (.long q2), .second, .val (.int p3), .val (.int p4), .val (.int p5), .val (.int p6), .val (.long kb), .second, .val (.ref b7), .val (.int r1), .val (.int r2), .val (.int (own_min r1 r2)), .val (.int (own_max r1 r2)), .val (.int len), .val (.int (own_x1 p6 len)), .val (.int (own_w (own_x1 p6 len) r1 r2)), .val (.int yy), .unset, .unset, .unset, .unset, .unset, .unset, .unset] [(.int (own_min r1 r2)), (.int yy)])) _
    refine XS.iload XB.here hx rfl (hb hby at_142) rfl ?_
    show Steps p.tables e below (TB.setTop (mkF m 144 #[.val (.long q1), .second, .val (.long q2), .second, .val (.int p3), .val (.int p4), .val (.int p5), .val (.int p6), .val (.long kb), .second, .val (.ref b7), .val (.int r1), .val (.int r2), .val (.int (own_min r1 r2)), .val (.int (own_max r1 r2)), .val (.int len), .val (.int (own_x1 p6 len)), .val (.int (own_w (own_x1 p6 len) r1 r2)), .val (.int yy), .unset, .unset, .unset, .unset, .unset, .unset, .unset] [(.int (own_max r1 r2)), (.int (own_min r1 r2)), (.int yy)])) _
    refine st16 _ ?_
    show Steps p.tables e below (T16.setTop (mkF m 147 #[.val (.long q1), .second, .val (.long q2), .second, .val (.int p3), .val (.int p4), .val (.int p5), .val (.int p6), .val (.long kb), .second, .val (.ref b7), .val (.int r1), .val (.int r2), .val (.int (own_min r1 r2)), .val (.int (own_max r1 r2)), .val (.int len), .val (.int (own_x1 p6 len)), .val (.int (own_w (own_x1 p6 len) r1 r2)), .val (.int yy), .unset, .unset, .unset, .unset, .unset, .unset, .unset] [(.int (own_w yy r1 r2))])) _
    refine XS.istore X16.here hx rfl (hb hby at_147) rfl (l' := #[.val (.long q1), .second, .val (.long q2), .second, .val (.int p3), .val (.int p4), .val (.int p5), .val (.int p6), .val (.long kb), .second, .val (.ref b7), .val (.int r1), .val (.int r2), .val (.int (own_min r1 r2)), .val (.int (own_max r1 r2)), .val (.int len), .val (.int (own_x1 p6 len)), .val (.int (own_w (own_x1 p6 len) r1 r2)), .val (.int yy), .val (.int (own_w yy r1 r2)), .unset, .unset, .unset, .unset, .unset, .unset]) rfl ?_
    show Steps p.tables e below (T16.setTop (mkF m 149 #[.val (.long q1), .second, .val (.long q2), .second, .val (.int p3), .val (.int p4), .val (.int p5), .val (.int p6), .val (.long kb), .second, .val (.ref b7), .val (.int r1), .val (.int r2), .val (.int (own_min r1 r2)), .val (.int (own_max r1 r2)), .val (.int len), .val (.int (own_x1 p6 len)), .val (.int (own_w (own_x1 p6 len) r1 r2)), .val (.int yy), .val (.int (own_w yy r1 r2)), .unset, .unset, .unset, .unset, .unset, .unset] [])) _
    refine XS.iload X16.here hx rfl (hb hby at_149) rfl ?_
    show Steps p.tables e below (T16.setTop (mkF m 151 #[.val (.long q1), .second, .val (.long q2), .second, .val (.int p3), .val (.int p4), .val (.int p5), .val (.int p6), .val (.long kb), .second, .val (.ref b7), .val (.int r1), .val (.int r2), .val (.int (own_min r1 r2)), .val (.int (own_max r1 r2)), .val (.int len), .val (.int (own_x1 p6 len)), .val (.int (own_w (own_x1 p6 len) r1 r2)), .val (.int yy), .val (.int (own_w yy r1 r2)), .unset, .unset, .unset, .unset, .unset, .unset] [(.int p5)])) _
    refine XS.iconst X16.here hx rfl (hb hby at_151) ?_
    show Steps p.tables e below (T16.setTop (mkF m 152 #[.val (.long q1), .second, .val (.long q2), .second, .val (.int p3), .val (.int p4), .val (.int p5), .val (.int p6), .val (.long kb), .second, .val (.ref b7), .val (.int r1), .val (.int r2), .val (.int (own_min r1 r2)), .val (.int (own_max r1 r2)), .val (.int len), .val (.int (own_x1 p6 len)), .val (.int (own_w (own_x1 p6 len) r1 r2)), .val (.int yy), .val (.int (own_w yy r1 r2)), .unset, .unset, .unset, .unset, .unset, .unset] [(.int (1 : Int32)), (.int p5)])) _
    refine XS.iushr X16.here hx rfl (hb hby at_152) rfl ?_
    show Steps p.tables e below (T16.setTop (mkF m 153 #[.val (.long q1), .second, .val (.long q2), .second, .val (.int p3), .val (.int p4), .val (.int p5), .val (.int p6), .val (.long kb), .second, .val (.ref b7), .val (.int r1), .val (.int r2), .val (.int (own_min r1 r2)), .val (.int (own_max r1 r2)), .val (.int len), .val (.int (own_x1 p6 len)), .val (.int (own_w (own_x1 p6 len) r1 r2)), .val (.int yy), .val (.int (own_w yy r1 r2)), .unset, .unset, .unset, .unset, .unset, .unset] [(.int ((p5.toUInt32 >>> ((1 : Int32) &&& 31).toUInt32).toInt32))])) _
    refine X16.ldcInt hx hown (mvT hZ (hw _ (List.mem_of_getElem? (i := 73) rfl))) (g := (mkF m 153 #[.val (.long q1), .second, .val (.long q2), .second, .val (.int p3), .val (.int p4), .val (.int p5), .val (.int p6), .val (.long kb), .second, .val (.ref b7), .val (.int r1), .val (.int r2), .val (.int (own_min r1 r2)), .val (.int (own_max r1 r2)), .val (.int len), .val (.int (own_x1 p6 len)), .val (.int (own_w (own_x1 p6 len) r1 r2)), .val (.int yy), .val (.int (own_w yy r1 r2)), .unset, .unset, .unset, .unset, .unset, .unset] [(.int ((p5.toUInt32 >>> ((1 : Int32) &&& 31).toUInt32).toInt32))])) rfl (hb hby at_153) _ ?_
    show Steps p.tables e below (T16.setTop (mkF m 155 #[.val (.long q1), .second, .val (.long q2), .second, .val (.int p3), .val (.int p4), .val (.int p5), .val (.int p6), .val (.long kb), .second, .val (.ref b7), .val (.int r1), .val (.int r2), .val (.int (own_min r1 r2)), .val (.int (own_max r1 r2)), .val (.int len), .val (.int (own_x1 p6 len)), .val (.int (own_w (own_x1 p6 len) r1 r2)), .val (.int yy), .val (.int (own_w yy r1 r2)), .unset, .unset, .unset, .unset, .unset, .unset] [(.int (2147483647 : Int32)), (.int ((p5.toUInt32 >>> ((1 : Int32) &&& 31).toUInt32).toInt32))])) _
    refine XS.iand X16.here hx rfl (hb hby at_155) rfl ?_
    show Steps p.tables e below (T16.setTop (mkF m 156 #[.val (.long q1), .second, .val (.long q2), .second, .val (.int p3), .val (.int p4), .val (.int p5), .val (.int p6), .val (.long kb), .second, .val (.ref b7), .val (.int r1), .val (.int r2), .val (.int (own_min r1 r2)), .val (.int (own_max r1 r2)), .val (.int len), .val (.int (own_x1 p6 len)), .val (.int (own_w (own_x1 p6 len) r1 r2)), .val (.int yy), .val (.int (own_w yy r1 r2)), .unset, .unset, .unset, .unset, .unset, .unset] [(.int (((p5.toUInt32 >>> ((1 : Int32) &&& 31).toUInt32).toInt32) &&& (2147483647 : Int32)))])) _
    refine XS.bipush X16.here hx rfl (hb hby at_156) ?_
    show Steps p.tables e below (T16.setTop (mkF m 158 #[.val (.long q1), .second, .val (.long q2), .second, .val (.int p3), .val (.int p4), .val (.int p5), .val (.int p6), .val (.long kb), .second, .val (.ref b7), .val (.int r1), .val (.int r2), .val (.int (own_min r1 r2)), .val (.int (own_max r1 r2)), .val (.int len), .val (.int (own_x1 p6 len)), .val (.int (own_w (own_x1 p6 len) r1 r2)), .val (.int yy), .val (.int (own_w yy r1 r2)), .unset, .unset, .unset, .unset, .unset, .unset] [(.int (7 : Int32)), (.int (((p5.toUInt32 >>> ((1 : Int32) &&& 31).toUInt32).toInt32) &&& (2147483647 : Int32)))])) _
    refine own_irem X16.here hx rfl (hb hby at_158) rfl hnz158 ?_
    show Steps p.tables e below (T16.setTop (mkF m 159 #[.val (.long q1), .second, .val (.long q2), .second, .val (.int p3), .val (.int p4), .val (.int p5), .val (.int p6), .val (.long kb), .second, .val (.ref b7), .val (.int r1), .val (.int r2), .val (.int (own_min r1 r2)), .val (.int (own_max r1 r2)), .val (.int len), .val (.int (own_x1 p6 len)), .val (.int (own_w (own_x1 p6 len) r1 r2)), .val (.int yy), .val (.int (own_w yy r1 r2)), .unset, .unset, .unset, .unset, .unset, .unset] [(.int (own_md p5))])) _
    refine XS.istore X16.here hx rfl (hb hby at_159) rfl (l' := #[.val (.long q1), .second, .val (.long q2), .second, .val (.int p3), .val (.int p4), .val (.int p5), .val (.int p6), .val (.long kb), .second, .val (.ref b7), .val (.int r1), .val (.int r2), .val (.int (own_min r1 r2)), .val (.int (own_max r1 r2)), .val (.int len), .val (.int (own_x1 p6 len)), .val (.int (own_w (own_x1 p6 len) r1 r2)), .val (.int yy), .val (.int (own_w yy r1 r2)), .val (.int (own_md p5)), .unset, .unset, .unset, .unset, .unset]) rfl ?_
    refine stC _ ?_
    show Steps p.tables e below (TC.setTop (mkF m 270 #[.val (.long q1), .second, .val (.long q2), .second, .val (.int p3), .val (.int p4), .val (.int p5), .val (.int p6), .val (.long kb), .second, .val (.ref b7), .val (.int r1), .val (.int r2), .val (.int (own_min r1 r2)), .val (.int (own_max r1 r2)), .val (.int len), .val (.int (own_x1 p6 len)), .val (.int (own_w (own_x1 p6 len) r1 r2)), .val (.int yy), .val (.int (own_w yy r1 r2)), .val (.int (own_md p5)), .val (.int e1), .val (.int e2), .unset, .unset, .unset] [])) _
    refine XS.bipush XC.here hx rfl (hb hby at_270) ?_
    show Steps p.tables e below (TC.setTop (mkF m 272 #[.val (.long q1), .second, .val (.long q2), .second, .val (.int p3), .val (.int p4), .val (.int p5), .val (.int p6), .val (.long kb), .second, .val (.ref b7), .val (.int r1), .val (.int r2), .val (.int (own_min r1 r2)), .val (.int (own_max r1 r2)), .val (.int len), .val (.int (own_x1 p6 len)), .val (.int (own_w (own_x1 p6 len) r1 r2)), .val (.int yy), .val (.int (own_w yy r1 r2)), .val (.int (own_md p5)), .val (.int e1), .val (.int e2), .unset, .unset, .unset] [(.int (64 : Int32))])) _
    refine st17 _ ?_
    refine stF _ ?_
    show Steps p.tables e below (TF.setTop (mkF m 716 #[.val (.long q1), .second, .val (.long q2), .second, .val (.int p3), .val (.int p4), .val (.int p5), .val (.int p6), .val (.long kb), .second, .val (.ref b7), .val (.int r1), .val (.int r2), .val (.int (own_min r1 r2)), .val (.int (own_max r1 r2)), .val (.int len), .val (.int (own_x1 p6 len)), .val (.int (own_w (own_x1 p6 len) r1 r2)), .val (.int yy), .val (.int (own_w yy r1 r2)), .val (.int (own_md p5)), .val (.int e1), .val (.int e2), .unset, .unset, .unset] [(.ref b17)])) _
    refine XS.astore XF.here hx rfl (hb hby at_716) rfl rfl (l' := #[.val (.long q1), .second, .val (.long q2), .second, .val (.int p3), .val (.int p4), .val (.int p5), .val (.int p6), .val (.long kb), .second, .val (.ref b7), .val (.int r1), .val (.int r2), .val (.int (own_min r1 r2)), .val (.int (own_max r1 r2)), .val (.int len), .val (.int (own_x1 p6 len)), .val (.int (own_w (own_x1 p6 len) r1 r2)), .val (.int yy), .val (.int (own_w yy r1 r2)), .val (.int (own_md p5)), .val (.int e1), .val (.int e2), .val (.ref b17), .unset, .unset]) rfl ?_
    show Steps p.tables e below (TF.setTop (mkF m 718 #[.val (.long q1), .second, .val (.long q2), .second, .val (.int p3), .val (.int p4), .val (.int p5), .val (.int p6), .val (.long kb), .second, .val (.ref b7), .val (.int r1), .val (.int r2), .val (.int (own_min r1 r2)), .val (.int (own_max r1 r2)), .val (.int len), .val (.int (own_x1 p6 len)), .val (.int (own_w (own_x1 p6 len) r1 r2)), .val (.int yy), .val (.int (own_w yy r1 r2)), .val (.int (own_md p5)), .val (.int e1), .val (.int e2), .val (.ref b17), .unset, .unset] [])) _
    refine XS.aload XF.here hx rfl (hb hby at_718) rfl rfl ?_
    show Steps p.tables e below (TF.setTop (mkF m 720 #[.val (.long q1), .second, .val (.long q2), .second, .val (.int p3), .val (.int p4), .val (.int p5), .val (.int p6), .val (.long kb), .second, .val (.ref b7), .val (.int r1), .val (.int r2), .val (.int (own_min r1 r2)), .val (.int (own_max r1 r2)), .val (.int len), .val (.int (own_x1 p6 len)), .val (.int (own_w (own_x1 p6 len) r1 r2)), .val (.int yy), .val (.int (own_w yy r1 r2)), .val (.int (own_md p5)), .val (.int e1), .val (.int e2), .val (.ref b17), .unset, .unset] [(.ref b17)])) _
    refine XS.iload XF.here hx rfl (hb hby at_720) rfl ?_
    show Steps p.tables e below (TF.setTop (mkF m 722 #[.val (.long q1), .second, .val (.long q2), .second, .val (.int p3), .val (.int p4), .val (.int p5), .val (.int p6), .val (.long kb), .second, .val (.ref b7), .val (.int r1), .val (.int r2), .val (.int (own_min r1 r2)), .val (.int (own_max r1 r2)), .val (.int len), .val (.int (own_x1 p6 len)), .val (.int (own_w (own_x1 p6 len) r1 r2)), .val (.int yy), .val (.int (own_w yy r1 r2)), .val (.int (own_md p5)), .val (.int e1), .val (.int e2), .val (.ref b17), .unset, .unset] [(.int r1), (.ref b17)])) _
    refine XS.iload XF.here hx rfl (hb hby at_722) rfl ?_
    show Steps p.tables e below (TF.setTop (mkF m 724 #[.val (.long q1), .second, .val (.long q2), .second, .val (.int p3), .val (.int p4), .val (.int p5), .val (.int p6), .val (.long kb), .second, .val (.ref b7), .val (.int r1), .val (.int r2), .val (.int (own_min r1 r2)), .val (.int (own_max r1 r2)), .val (.int len), .val (.int (own_x1 p6 len)), .val (.int (own_w (own_x1 p6 len) r1 r2)), .val (.int yy), .val (.int (own_w yy r1 r2)), .val (.int (own_md p5)), .val (.int e1), .val (.int e2), .val (.ref b17), .unset, .unset] [(.int e1), (.int r1), (.ref b17)])) _
    refine XS.i2l XF.here hx rfl (hb hby at_724) rfl ?_
    show Steps p.tables e below (TF.setTop (mkF m 725 #[.val (.long q1), .second, .val (.long q2), .second, .val (.int p3), .val (.int p4), .val (.int p5), .val (.int p6), .val (.long kb), .second, .val (.ref b7), .val (.int r1), .val (.int r2), .val (.int (own_min r1 r2)), .val (.int (own_max r1 r2)), .val (.int len), .val (.int (own_x1 p6 len)), .val (.int (own_w (own_x1 p6 len) r1 r2)), .val (.int yy), .val (.int (own_w yy r1 r2)), .val (.int (own_md p5)), .val (.int e1), .val (.int e2), .val (.ref b17), .unset, .unset] [(.long e1.toInt64), (.int r1), (.ref b17)])) _
    refine st82 _ ?_
    show Steps p.tables e below (T82.setTop (mkF m 726 #[.val (.long q1), .second, .val (.long q2), .second, .val (.int p3), .val (.int p4), .val (.int p5), .val (.int p6), .val (.long kb), .second, .val (.ref b7), .val (.int r1), .val (.int r2), .val (.int (own_min r1 r2)), .val (.int (own_max r1 r2)), .val (.int len), .val (.int (own_x1 p6 len)), .val (.int (own_w (own_x1 p6 len) r1 r2)), .val (.int yy), .val (.int (own_w yy r1 r2)), .val (.int (own_md p5)), .val (.int e1), .val (.int e2), .val (.ref b17), .unset, .unset] [])) _
    refine XS.aload X82.here hx rfl (hb hby at_726) rfl rfl ?_
    show Steps p.tables e below (T82.setTop (mkF m 728 #[.val (.long q1), .second, .val (.long q2), .second, .val (.int p3), .val (.int p4), .val (.int p5), .val (.int p6), .val (.long kb), .second, .val (.ref b7), .val (.int r1), .val (.int r2), .val (.int (own_min r1 r2)), .val (.int (own_max r1 r2)), .val (.int len), .val (.int (own_x1 p6 len)), .val (.int (own_w (own_x1 p6 len) r1 r2)), .val (.int yy), .val (.int (own_w yy r1 r2)), .val (.int (own_md p5)), .val (.int e1), .val (.int e2), .val (.ref b17), .unset, .unset] [(.ref b17)])) _
    refine XS.iload X82.here hx rfl (hb hby at_728) rfl ?_
    show Steps p.tables e below (T82.setTop (mkF m 730 #[.val (.long q1), .second, .val (.long q2), .second, .val (.int p3), .val (.int p4), .val (.int p5), .val (.int p6), .val (.long kb), .second, .val (.ref b7), .val (.int r1), .val (.int r2), .val (.int (own_min r1 r2)), .val (.int (own_max r1 r2)), .val (.int len), .val (.int (own_x1 p6 len)), .val (.int (own_w (own_x1 p6 len) r1 r2)), .val (.int yy), .val (.int (own_w yy r1 r2)), .val (.int (own_md p5)), .val (.int e1), .val (.int e2), .val (.ref b17), .unset, .unset] [(.int r2), (.ref b17)])) _
    refine XS.iload X82.here hx rfl (hb hby at_730) rfl ?_
    show Steps p.tables e below (T82.setTop (mkF m 732 #[.val (.long q1), .second, .val (.long q2), .second, .val (.int p3), .val (.int p4), .val (.int p5), .val (.int p6), .val (.long kb), .second, .val (.ref b7), .val (.int r1), .val (.int r2), .val (.int (own_min r1 r2)), .val (.int (own_max r1 r2)), .val (.int len), .val (.int (own_x1 p6 len)), .val (.int (own_w (own_x1 p6 len) r1 r2)), .val (.int yy), .val (.int (own_w yy r1 r2)), .val (.int (own_md p5)), .val (.int e1), .val (.int e2), .val (.ref b17), .unset, .unset] [(.int e2), (.int r2), (.ref b17)])) _
    refine XS.i2l X82.here hx rfl (hb hby at_732) rfl ?_
    show Steps p.tables e below (T82.setTop (mkF m 733 #[.val (.long q1), .second, .val (.long q2), .second, .val (.int p3), .val (.int p4), .val (.int p5), .val (.int p6), .val (.long kb), .second, .val (.ref b7), .val (.int r1), .val (.int r2), .val (.int (own_min r1 r2)), .val (.int (own_max r1 r2)), .val (.int len), .val (.int (own_x1 p6 len)), .val (.int (own_w (own_x1 p6 len) r1 r2)), .val (.int yy), .val (.int (own_w yy r1 r2)), .val (.int (own_md p5)), .val (.int e1), .val (.int e2), .val (.ref b17), .unset, .unset] [(.long e2.toInt64), (.int r2), (.ref b17)])) _
    refine st83 _ ?_
    show Steps p.tables e below (T83.setTop (mkF m 734 #[.val (.long q1), .second, .val (.long q2), .second, .val (.int p3), .val (.int p4), .val (.int p5), .val (.int p6), .val (.long kb), .second, .val (.ref b7), .val (.int r1), .val (.int r2), .val (.int (own_min r1 r2)), .val (.int (own_max r1 r2)), .val (.int len), .val (.int (own_x1 p6 len)), .val (.int (own_w (own_x1 p6 len) r1 r2)), .val (.int yy), .val (.int (own_w yy r1 r2)), .val (.int (own_md p5)), .val (.int e1), .val (.int e2), .val (.ref b17), .unset, .unset] [])) _
    refine XS.aload X83.here hx rfl (hb hby at_734) rfl rfl ?_
    show Steps p.tables e below (T83.setTop (mkF m 736 #[.val (.long q1), .second, .val (.long q2), .second, .val (.int p3), .val (.int p4), .val (.int p5), .val (.int p6), .val (.long kb), .second, .val (.ref b7), .val (.int r1), .val (.int r2), .val (.int (own_min r1 r2)), .val (.int (own_max r1 r2)), .val (.int len), .val (.int (own_x1 p6 len)), .val (.int (own_w (own_x1 p6 len) r1 r2)), .val (.int yy), .val (.int (own_w yy r1 r2)), .val (.int (own_md p5)), .val (.int e1), .val (.int e2), .val (.ref b17), .unset, .unset] [(.ref b7)])) _
    refine XS.aload X83.here hx rfl (hb hby at_736) rfl rfl ?_
    show Steps p.tables e below (T83.setTop (mkF m 738 #[.val (.long q1), .second, .val (.long q2), .second, .val (.int p3), .val (.int p4), .val (.int p5), .val (.int p6), .val (.long kb), .second, .val (.ref b7), .val (.int r1), .val (.int r2), .val (.int (own_min r1 r2)), .val (.int (own_max r1 r2)), .val (.int len), .val (.int (own_x1 p6 len)), .val (.int (own_w (own_x1 p6 len) r1 r2)), .val (.int yy), .val (.int (own_w yy r1 r2)), .val (.int (own_md p5)), .val (.int e1), .val (.int e2), .val (.ref b17), .unset, .unset] [(.ref b17), (.ref b7)])) _
    refine XS.iload X83.here hx rfl (hb hby at_738) rfl ?_
    show Steps p.tables e below (T83.setTop (mkF m 740 #[.val (.long q1), .second, .val (.long q2), .second, .val (.int p3), .val (.int p4), .val (.int p5), .val (.int p6), .val (.long kb), .second, .val (.ref b7), .val (.int r1), .val (.int r2), .val (.int (own_min r1 r2)), .val (.int (own_max r1 r2)), .val (.int len), .val (.int (own_x1 p6 len)), .val (.int (own_w (own_x1 p6 len) r1 r2)), .val (.int yy), .val (.int (own_w yy r1 r2)), .val (.int (own_md p5)), .val (.int e1), .val (.int e2), .val (.ref b17), .unset, .unset] [(.int len), (.ref b17), (.ref b7)])) _
    refine st84.trans ?_
    refine stD _ ?_
    refine stG _ ?_
    show Steps p.tables e below (TG.setTop (mkF m 797 #[.val (.long q1), .second, .val (.long q2), .second, .val (.int p3), .val (.int p4), .val (.int p5), .val (.int p6), .val (.long kb), .second, .val (.ref b7), .val (.int r1), .val (.int r2), .val (.int (own_min r1 r2)), .val (.int (own_max r1 r2)), .val (.int len), .val (.int (own_x1 p6 len)), .val (.int (own_w (own_x1 p6 len) r1 r2)), .val (.int yy), .val (.int (own_w yy r1 r2)), .val (.int (own_md p5)), .val (.int e1), .val (.int e2), .val (.ref b17), .val (.int f1), .val (.int f2)] [])) _
    refine XS.aload XG.here hx rfl (hb hby at_797) rfl rfl ?_
    show Steps p.tables e below (TG.setTop (mkF m 799 #[.val (.long q1), .second, .val (.long q2), .second, .val (.int p3), .val (.int p4), .val (.int p5), .val (.int p6), .val (.long kb), .second, .val (.ref b7), .val (.int r1), .val (.int r2), .val (.int (own_min r1 r2)), .val (.int (own_max r1 r2)), .val (.int len), .val (.int (own_x1 p6 len)), .val (.int (own_w (own_x1 p6 len) r1 r2)), .val (.int yy), .val (.int (own_w yy r1 r2)), .val (.int (own_md p5)), .val (.int e1), .val (.int e2), .val (.ref b17), .val (.int f1), .val (.int f2)] [(.ref b7)])) _
    refine XS.lloadN XG.here hx rfl (hb hby at_799) rfl ?_
    show Steps p.tables e below (TG.setTop (mkF m 800 #[.val (.long q1), .second, .val (.long q2), .second, .val (.int p3), .val (.int p4), .val (.int p5), .val (.int p6), .val (.long kb), .second, .val (.ref b7), .val (.int r1), .val (.int r2), .val (.int (own_min r1 r2)), .val (.int (own_max r1 r2)), .val (.int len), .val (.int (own_x1 p6 len)), .val (.int (own_w (own_x1 p6 len) r1 r2)), .val (.int yy), .val (.int (own_w yy r1 r2)), .val (.int (own_md p5)), .val (.int e1), .val (.int e2), .val (.ref b17), .val (.int f1), .val (.int f2)] [(.long q1), (.ref b7)])) _
    refine XS.iconst XG.here hx rfl (hb hby at_800) ?_
    show Steps p.tables e below (TG.setTop (mkF m 801 #[.val (.long q1), .second, .val (.long q2), .second, .val (.int p3), .val (.int p4), .val (.int p5), .val (.int p6), .val (.long kb), .second, .val (.ref b7), .val (.int r1), .val (.int r2), .val (.int (own_min r1 r2)), .val (.int (own_max r1 r2)), .val (.int len), .val (.int (own_x1 p6 len)), .val (.int (own_w (own_x1 p6 len) r1 r2)), .val (.int yy), .val (.int (own_w yy r1 r2)), .val (.int (own_md p5)), .val (.int e1), .val (.int e2), .val (.ref b17), .val (.int f1), .val (.int f2)] [(.int (0 : Int32)), (.long q1), (.ref b7)])) _
    refine st85.trans ?_
    show Steps p.tables e below (T85.setTop (mkF m 804 #[.val (.long q1), .second, .val (.long q2), .second, .val (.int p3), .val (.int p4), .val (.int p5), .val (.int p6), .val (.long kb), .second, .val (.ref b7), .val (.int r1), .val (.int r2), .val (.int (own_min r1 r2)), .val (.int (own_max r1 r2)), .val (.int len), .val (.int (own_x1 p6 len)), .val (.int (own_w (own_x1 p6 len) r1 r2)), .val (.int yy), .val (.int (own_w yy r1 r2)), .val (.int (own_md p5)), .val (.int e1), .val (.int e2), .val (.ref b17), .val (.int f1), .val (.int f2)] [(.int (VV r1.toNatClampNeg))])) _
    refine XS.iload X85.here hx rfl (hb hby at_804) rfl ?_
    show Steps p.tables e below (T85.setTop (mkF m 806 #[.val (.long q1), .second, .val (.long q2), .second, .val (.int p3), .val (.int p4), .val (.int p5), .val (.int p6), .val (.long kb), .second, .val (.ref b7), .val (.int r1), .val (.int r2), .val (.int (own_min r1 r2)), .val (.int (own_max r1 r2)), .val (.int len), .val (.int (own_x1 p6 len)), .val (.int (own_w (own_x1 p6 len) r1 r2)), .val (.int yy), .val (.int (own_w yy r1 r2)), .val (.int (own_md p5)), .val (.int e1), .val (.int e2), .val (.ref b17), .val (.int f1), .val (.int f2)] [(.int f1), (.int (VV r1.toNatClampNeg))])) _
    refine XS.icmpNo X85.here hx rfl (hb hby at_806) rfl (teq (hg1 : (VV r1.toNatClampNeg) = f1)).2 ?_
    show Steps p.tables e below (T85.setTop (mkF m 809 #[.val (.long q1), .second, .val (.long q2), .second, .val (.int p3), .val (.int p4), .val (.int p5), .val (.int p6), .val (.long kb), .second, .val (.ref b7), .val (.int r1), .val (.int r2), .val (.int (own_min r1 r2)), .val (.int (own_max r1 r2)), .val (.int len), .val (.int (own_x1 p6 len)), .val (.int (own_w (own_x1 p6 len) r1 r2)), .val (.int yy), .val (.int (own_w yy r1 r2)), .val (.int (own_md p5)), .val (.int e1), .val (.int e2), .val (.ref b17), .val (.int f1), .val (.int f2)] [])) _
    refine XS.aload X85.here hx rfl (hb hby at_809) rfl rfl ?_
    show Steps p.tables e below (T85.setTop (mkF m 811 #[.val (.long q1), .second, .val (.long q2), .second, .val (.int p3), .val (.int p4), .val (.int p5), .val (.int p6), .val (.long kb), .second, .val (.ref b7), .val (.int r1), .val (.int r2), .val (.int (own_min r1 r2)), .val (.int (own_max r1 r2)), .val (.int len), .val (.int (own_x1 p6 len)), .val (.int (own_w (own_x1 p6 len) r1 r2)), .val (.int yy), .val (.int (own_w yy r1 r2)), .val (.int (own_md p5)), .val (.int e1), .val (.int e2), .val (.ref b17), .val (.int f1), .val (.int f2)] [(.ref b7)])) _
    refine XS.lload X85.here hx rfl (hb hby at_811) rfl ?_
    show Steps p.tables e below (T85.setTop (mkF m 813 #[.val (.long q1), .second, .val (.long q2), .second, .val (.int p3), .val (.int p4), .val (.int p5), .val (.int p6), .val (.long kb), .second, .val (.ref b7), .val (.int r1), .val (.int r2), .val (.int (own_min r1 r2)), .val (.int (own_max r1 r2)), .val (.int len), .val (.int (own_x1 p6 len)), .val (.int (own_w (own_x1 p6 len) r1 r2)), .val (.int yy), .val (.int (own_w yy r1 r2)), .val (.int (own_md p5)), .val (.int e1), .val (.int e2), .val (.ref b17), .val (.int f1), .val (.int f2)] [(.long kb), (.ref b7)])) _
    refine XS.iconst X85.here hx rfl (hb hby at_813) ?_
    show Steps p.tables e below (T85.setTop (mkF m 814 #[.val (.long q1), .second, .val (.long q2), .second, .val (.int p3), .val (.int p4), .val (.int p5), .val (.int p6), .val (.long kb), .second, .val (.ref b7), .val (.int r1), .val (.int r2), .val (.int (own_min r1 r2)), .val (.int (own_max r1 r2)), .val (.int len), .val (.int (own_x1 p6 len)), .val (.int (own_w (own_x1 p6 len) r1 r2)), .val (.int yy), .val (.int (own_w yy r1 r2)), .val (.int (own_md p5)), .val (.int e1), .val (.int e2), .val (.ref b17), .val (.int f1), .val (.int f2)] [(.int (0 : Int32)), (.long kb), (.ref b7)])) _
    refine st86.trans ?_
    show Steps p.tables e below (T86.setTop (mkF m 817 #[.val (.long q1), .second, .val (.long q2), .second, .val (.int p3), .val (.int p4), .val (.int p5), .val (.int p6), .val (.long kb), .second, .val (.ref b7), .val (.int r1), .val (.int r2), .val (.int (own_min r1 r2)), .val (.int (own_max r1 r2)), .val (.int len), .val (.int (own_x1 p6 len)), .val (.int (own_w (own_x1 p6 len) r1 r2)), .val (.int yy), .val (.int (own_w yy r1 r2)), .val (.int (own_md p5)), .val (.int e1), .val (.int e2), .val (.ref b17), .val (.int f1), .val (.int f2)] [(.int (VV r2.toNatClampNeg))])) _
    refine XS.iload X86.here hx rfl (hb hby at_817) rfl ?_
    show Steps p.tables e below (T86.setTop (mkF m 819 #[.val (.long q1), .second, .val (.long q2), .second, .val (.int p3), .val (.int p4), .val (.int p5), .val (.int p6), .val (.long kb), .second, .val (.ref b7), .val (.int r1), .val (.int r2), .val (.int (own_min r1 r2)), .val (.int (own_max r1 r2)), .val (.int len), .val (.int (own_x1 p6 len)), .val (.int (own_w (own_x1 p6 len) r1 r2)), .val (.int yy), .val (.int (own_w yy r1 r2)), .val (.int (own_md p5)), .val (.int e1), .val (.int e2), .val (.ref b17), .val (.int f1), .val (.int f2)] [(.int f2), (.int (VV r2.toNatClampNeg))])) _
    refine XS.icmpNo X86.here hx rfl (hb hby at_819) rfl (teq (hg2 : (VV r2.toNatClampNeg) = f2)).2 ?_
    show Steps p.tables e below (T86.setTop (mkF m 822 #[.val (.long q1), .second, .val (.long q2), .second, .val (.int p3), .val (.int p4), .val (.int p5), .val (.int p6), .val (.long kb), .second, .val (.ref b7), .val (.int r1), .val (.int r2), .val (.int (own_min r1 r2)), .val (.int (own_max r1 r2)), .val (.int len), .val (.int (own_x1 p6 len)), .val (.int (own_w (own_x1 p6 len) r1 r2)), .val (.int yy), .val (.int (own_w yy r1 r2)), .val (.int (own_md p5)), .val (.int e1), .val (.int e2), .val (.ref b17), .val (.int f1), .val (.int f2)] [])) _
    refine XS.iconst X86.here hx rfl (hb hby at_822) ?_
    show Steps p.tables e below (T86.setTop (mkF m 823 #[.val (.long q1), .second, .val (.long q2), .second, .val (.int p3), .val (.int p4), .val (.int p5), .val (.int p6), .val (.long kb), .second, .val (.ref b7), .val (.int r1), .val (.int r2), .val (.int (own_min r1 r2)), .val (.int (own_max r1 r2)), .val (.int len), .val (.int (own_x1 p6 len)), .val (.int (own_w (own_x1 p6 len) r1 r2)), .val (.int yy), .val (.int (own_w yy r1 r2)), .val (.int (own_md p5)), .val (.int e1), .val (.int e2), .val (.ref b17), .val (.int f1), .val (.int f2)] [(.int (1 : Int32))])) _
    refine XS.goto X86.here hx rfl (pc0 := 823) (pc' := 827) rfl (hb hby at_823) (by decide) (by decide) ?_
    show Steps p.tables e below (T86.setTop (mkF m 827 #[.val (.long q1), .second, .val (.long q2), .second, .val (.int p3), .val (.int p4), .val (.int p5), .val (.int p6), .val (.long kb), .second, .val (.ref b7), .val (.int r1), .val (.int r2), .val (.int (own_min r1 r2)), .val (.int (own_max r1 r2)), .val (.int len), .val (.int (own_x1 p6 len)), .val (.int (own_w (own_x1 p6 len) r1 r2)), .val (.int yy), .val (.int (own_w yy r1 r2)), .val (.int (own_md p5)), .val (.int e1), .val (.int e2), .val (.ref b17), .val (.int f1), .val (.int f2)] [(.int (1 : Int32))])) _
    exact retN X86 hx (t := .boolean) Bd.returns (by simp) (hb hby at_827) hr
  · show Q0 Z h0 n0 _ T86.heap _
    exact ⟨rfl, N86⟩
theorem own_back {r : Int32} (h : own_ix r) : r = Int32.ofNat r.toNatClampNeg := by
  have h0 := h.1
  have k0 : (0 : Int32).toInt = 0 := by decide
  rw [Int32.lt_iff_toInt_lt, k0] at h0
  apply Int32.toInt_inj.mp
  have e : (Int32.ofNat r.toNatClampNeg).toInt = (r.toNatClampNeg : Int) := Int32.toInt_ofNat_small (by have := h.2.1; omega)
  rw [e]
  simp only [Int32.toNatClampNeg]
  omega
theorem own_ixn {r : Int32} (h : own_ix r) : 0 ≤ r.toInt ∧ r.toInt < 64 ∧ (r.toNatClampNeg : Int) = r.toInt := by
  have h0 := h.1
  have h1 := h.2.1
  have k0 : (0 : Int32).toInt = 0 := by decide
  rw [Int32.lt_iff_toInt_lt, k0] at h0
  simp only [Int32.toNatClampNeg] at *
  omega
theorem own_bits : ∀ n m : Fin 64, decide ((own_bit (Int32.ofNat n.val) &&& own_bit (Int32.ofNat m.val)) = 0) = decide (n ≠ m) := by decide +kernel
theorem own_nxs : ∀ n : Fin 64, own_nx (Int32.ofNat n.val) ≠ Int32.ofNat n.val := by decide +kernel
theorem own_bit_ne {i j : Int32} (hi : own_ix i) (hj : own_ix j) : (own_bit i &&& own_bit j) = 0 ↔ i ≠ j := by
  have h := own_bits ⟨i.toNatClampNeg, hi.2.1⟩ ⟨j.toNatClampNeg, hj.2.1⟩
  dsimp only at h
  rw [← own_back hi, ← own_back hj, decide_eq_decide] at h
  rw [h]
  constructor
  · intro q e; subst e; exact q rfl
  · intro q e
    have e2 : i.toNatClampNeg = j.toNatClampNeg := by simpa using e
    exact q (by rw [own_back hi, own_back hj, e2])
theorem own_nx_ne {i : Int32} (hi : own_ix i) : own_nx i ≠ i := by
  have h := own_nxs ⟨i.toNatClampNeg, hi.2.1⟩
  dsimp only at h
  rw [← own_back hi] at h
  exact h
theorem own_or_and (x y z : Int64) : (x ||| y) &&& z = 0 ↔ (x &&& z) = 0 ∧ (y &&& z) = 0 := by
  have e : (x ||| y) &&& z = (x &&& z) ||| (y &&& z) := by
    apply Int64.toBitVec_inj.mp
    show (x.toBitVec ||| y.toBitVec) &&& z.toBitVec = (x.toBitVec &&& z.toBitVec) ||| (y.toBitVec &&& z.toBitVec)
    apply BitVec.eq_of_getLsbD_eq
    intro i hi
    simp only [BitVec.getLsbD_and, BitVec.getLsbD_or]
    cases x.toBitVec.getLsbD i <;> cases y.toBitVec.getLsbD i <;> cases z.toBitVec.getLsbD i <;> rfl
  rw [e]
  have e2 : ∀ a b : Int64, a ||| b = 0 ↔ a = 0 ∧ b = 0 := by
    intro a b
    simp only [← Int64.toBitVec_inj]
    show a.toBitVec ||| b.toBitVec = 0#64 ↔ a.toBitVec = 0#64 ∧ b.toBitVec = 0#64
    constructor
    · intro h
      have q : ∀ i, a.toBitVec.getLsbD i = false ∧ b.toBitVec.getLsbD i = false := fun i => by
        have := congrArg (fun v => v.getLsbD i) h
        simpa [BitVec.getLsbD_or] using this
      exact ⟨BitVec.eq_of_getLsbD_eq (fun i hi => by simp [(q i).1]), BitVec.eq_of_getLsbD_eq (fun i hi => by simp [(q i).2])⟩
    · rintro ⟨h1, h2⟩; rw [h1, h2]; rfl
  exact e2 _ _
theorem own_held0 (U : Int64) (i : Int32) : own_held U i = 0 ↔ U &&& own_bit i = 0 := by
  unfold own_held
  by_cases h : (lcmpW (U &&& own_bit i) (0 : Int64)) = (0 : Int32)
  · rw [if_pos h]; exact ⟨fun _ => (lw_eq _ _).mp h, fun _ => rfl⟩
  · rw [if_neg h]; exact ⟨fun q => absurd q (by decide), fun q => absurd ((lw_eq _ _).mpr q) h⟩
theorem own_h0 (i : Int32) : own_held 0 i = 0 := by rw [own_held0]; exact Int64.zero_and
theorem own_h1 {r i : Int32} (hr : own_ix r) (hi : own_ix i) : own_held ((0 : Int64) ||| own_bit r) i = 0 ↔ r ≠ i := by
  rw [own_held0, own_or_and, own_bit_ne hr hi]
  exact ⟨fun h => h.2, fun h => ⟨Int64.zero_and, h⟩⟩
theorem own_h2 {r r' i : Int32} (hr : own_ix r) (hr' : own_ix r') (hi : own_ix i) : own_held (((0 : Int64) ||| own_bit r) ||| own_bit r') i = 0 ↔ r ≠ i ∧ r' ≠ i := by
  rw [own_held0, own_or_and, own_or_and, own_bit_ne hr hi, own_bit_ne hr' hi]
  exact ⟨fun h => ⟨h.1.2, h.2⟩, fun h => ⟨⟨Int64.zero_and, h.1⟩, h.2⟩⟩
theorem own_tn {i j : Int32} (hi : 0 ≤ i.toInt) (hj : 0 ≤ j.toInt) : i.toNatClampNeg = j.toNatClampNeg ↔ i = j := by
  constructor
  · intro h
    apply Int32.toInt_inj.mp
    simp only [Int32.toNatClampNeg] at h
    omega
  · intro h; rw [h]
def own_r2 (q kb : Int64) : Int32 := if own_home kb = own_home q then own_nx (own_home q) else own_home kb
theorem own_r2_ix (q kb : Int64) : own_ix (own_r2 q kb) := by
  unfold own_r2
  split
  · exact own_nx_ix _
  · exact own_home_ix _
theorem own_r2_ne (q kb : Int64) : own_r2 q kb ≠ own_home q := by
  unfold own_r2
  split
  · exact own_nx_ne (own_home_ix q)
  · assumption
theorem own_sls (q kb : Int64) (hk : kb ≠ q) :
    own_sl (fun _ => 0) 0 q (own_home q) ∧ own_held 0 (own_home q) = 0 ∧
    own_sl (fun j => if j = (own_home q).toNatClampNeg then q else 0) ((0 : Int64) ||| own_bit (own_home q)) kb (own_r2 q kb) ∧ own_held ((0 : Int64) ||| own_bit (own_home q)) (own_r2 q kb) = 0 ∧
    own_sl (fun j => if j = (own_r2 q kb).toNatClampNeg then kb else if j = (own_home q).toNatClampNeg then q else 0) (((0 : Int64) ||| own_bit (own_home q)) ||| own_bit (own_r2 q kb)) q (own_home q) ∧ ¬ own_held (((0 : Int64) ||| own_bit (own_home q)) ||| own_bit (own_r2 q kb)) (own_home q) = 0 ∧
    own_sl (fun j => if j = (own_r2 q kb).toNatClampNeg then kb else if j = (own_home q).toNatClampNeg then q else 0) (((0 : Int64) ||| own_bit (own_home q)) ||| own_bit (own_r2 q kb)) kb (own_r2 q kb) ∧ ¬ own_held (((0 : Int64) ||| own_bit (own_home q)) ||| own_bit (own_r2 q kb)) (own_r2 q kb) = 0 := by
  have i1 := own_home_ix q
  have i2 := own_r2_ix q kb
  have ne := own_r2_ne q kb
  have n1 := own_ixn i1
  have n2 := own_ixn i2
  have nn : (own_home q).toNatClampNeg ≠ (own_r2 q kb).toNatClampNeg := fun e => ne ((own_tn n1.1 n2.1).mp e).symm
  have a1 : own_held ((0 : Int64) ||| own_bit (own_home q)) (own_r2 q kb) = 0 := (own_h1 i1 i2).mpr (Ne.symm ne)
  have a2 : ¬ own_held (((0 : Int64) ||| own_bit (own_home q)) ||| own_bit (own_r2 q kb)) (own_home q) = 0 := fun h => ((own_h2 i1 i2 i1).mp h).1 rfl
  have a3 : ¬ own_held (((0 : Int64) ||| own_bit (own_home q)) ||| own_bit (own_r2 q kb)) (own_r2 q kb) = 0 := fun h => ((own_h2 i1 i2 i2).mp h).2 rfl
  refine ⟨Or.inl ⟨rfl, Or.inl (own_h0 _)⟩, own_h0 _, ?_, a1, Or.inl ⟨rfl, Or.inr ⟨a2, ?_⟩⟩, a2, ?_, a3⟩
  · by_cases h : own_home kb = own_home q
    · refine Or.inr ⟨?_, ?_, ?_, Or.inl a1⟩
      · rw [h]; exact fun z => ((own_h1 i1 i1).mp z) rfl
      · show ¬ (if (own_home kb).toNatClampNeg = (own_home q).toNatClampNeg then q else 0) = kb
        rw [h, if_pos rfl]; exact fun z => hk z.symm
      · rw [h]; exact if_pos h
    · exact Or.inl ⟨if_neg h, Or.inl a1⟩
  · show (if (own_home q).toNatClampNeg = (own_r2 q kb).toNatClampNeg then kb else if (own_home q).toNatClampNeg = (own_home q).toNatClampNeg then q else 0) = q
    rw [if_neg nn, if_pos rfl]
  · have k2 : (if (own_r2 q kb).toNatClampNeg = (own_r2 q kb).toNatClampNeg then kb else if (own_r2 q kb).toNatClampNeg = (own_home q).toNatClampNeg then q else 0) = kb := if_pos rfl
    by_cases h : own_home kb = own_home q
    · refine Or.inr ⟨?_, ?_, ?_, Or.inr ⟨a3, k2⟩⟩
      · rw [h]; exact a2
      · show ¬ (if (own_home kb).toNatClampNeg = (own_r2 q kb).toNatClampNeg then kb else if (own_home kb).toNatClampNeg = (own_home q).toNatClampNeg then q else 0) = kb
        rw [h, if_neg nn, if_pos rfl]; exact fun z => hk z.symm
      · rw [h]; exact if_pos h
    · exact Or.inl ⟨if_neg h, Or.inr ⟨a3, k2⟩⟩
theorem own_lt0 {e : Int32} (h : 0 ≤ e.toInt) : ¬ e.toInt64 < 0 := by
  have k0 : (0 : Int64).toInt = 0 := by decide
  rw [Int64.lt_iff_toInt_lt, Int32.toInt_toInt64, k0]; omega
theorem own_io (e : Int32) : e.toInt64.toInt32 = e := by
  apply Int32.toInt_inj.mp
  have h := c_l2i e.toInt64
  rw [Int32.toInt_toInt64] at h
  have h1 := rng32 e
  have h2 := rng32 e.toInt64.toInt32
  omega
theorem own_gr_val {r1 r2 e1 e2 v1 v2 : Int32} (i1 : own_ix r1) (i2 : own_ix r2) (ne : r1 ≠ r2) (h1 : 0 ≤ e1.toInt) (h2 : 0 ≤ e2.toInt) (he : e1 ≠ e2) (j : Nat) :
    ∀ n, n ≤ 64 → own_gr (fun j => if j = r2.toNatClampNeg then e2.toInt64 else if j = r1.toNatClampNeg then e1.toInt64 else own_ff 64 j) (fun j => if j = r2.toNatClampNeg then v2 else if j = r1.toNatClampNeg then v1 else 0) n j
      = if r1.toNatClampNeg < n ∧ j = e1.toNatClampNeg then v1 else if r2.toNatClampNeg < n ∧ j = e2.toNatClampNeg then v2 else 0 := by
  have n1 := own_ixn i1
  have n2 := own_ixn i2
  have nn : r1.toNatClampNeg ≠ r2.toNatClampNeg := fun e => ne ((own_tn n1.1 n2.1).mp e)
  have ee : e1.toNatClampNeg ≠ e2.toNatClampNeg := fun e => he ((own_tn h1 h2).mp e)
  intro n
  induction n with
  | zero =>
    intro _
    rw [if_neg (by omega), if_neg (by omega)]; rfl
  | succ n ih =>
    intro hn
    have ih := ih (by omega)
    show (if ¬ (if n = r2.toNatClampNeg then e2.toInt64 else if n = r1.toNatClampNeg then e1.toInt64 else own_ff 64 n) < 0 ∧ j = (if n = r2.toNatClampNeg then e2.toInt64 else if n = r1.toNatClampNeg then e1.toInt64 else own_ff 64 n).toInt32.toNatClampNeg then (if n = r2.toNatClampNeg then v2 else if n = r1.toNatClampNeg then v1 else 0) else own_gr _ _ n j) = _
    rw [ih]
    by_cases c2 : n = r2.toNatClampNeg
    · have x2 : (if n = r2.toNatClampNeg then e2.toInt64 else if n = r1.toNatClampNeg then e1.toInt64 else own_ff 64 n) = e2.toInt64 := if_pos c2
      rw [x2, own_io, if_pos c2]
      by_cases cj : j = e2.toNatClampNeg
      · rw [if_pos ⟨own_lt0 h2, cj⟩, if_neg (fun z => ee (z.2.symm.trans cj)), if_pos ⟨by omega, cj⟩]
      · rw [if_neg (fun z => cj z.2), if_neg (fun z : r2.toNatClampNeg < n ∧ _ => cj z.2), if_neg (fun z : r2.toNatClampNeg < n + 1 ∧ _ => cj z.2)]
        by_cases c1 : r1.toNatClampNeg < n ∧ j = e1.toNatClampNeg
        · rw [if_pos c1, if_pos ⟨by omega, c1.2⟩]
        · rw [if_neg c1, if_neg (fun z => c1 ⟨by omega, z.2⟩)]
    · by_cases c1 : n = r1.toNatClampNeg
      · have x1 : (if n = r2.toNatClampNeg then e2.toInt64 else if n = r1.toNatClampNeg then e1.toInt64 else own_ff 64 n) = e1.toInt64 := by rw [if_neg c2, if_pos c1]
        rw [x1, own_io, if_neg c2, if_pos c1]
        by_cases cj : j = e1.toNatClampNeg
        · rw [if_pos ⟨own_lt0 h1, cj⟩, if_pos ⟨by omega, cj⟩]
        · rw [if_neg (fun z => cj z.2), if_neg (fun z : r1.toNatClampNeg < n ∧ _ => cj z.2), if_neg (fun z : r1.toNatClampNeg < n + 1 ∧ _ => cj z.2)]
          by_cases d2 : r2.toNatClampNeg < n ∧ j = e2.toNatClampNeg
          · rw [if_pos d2, if_pos ⟨by omega, d2.2⟩]
          · rw [if_neg d2, if_neg (fun z => d2 ⟨by omega, z.2⟩)]
      · have x0 : (if n = r2.toNatClampNeg then e2.toInt64 else if n = r1.toNatClampNeg then e1.toInt64 else own_ff 64 n) = -1 := by rw [if_neg c2, if_neg c1]; exact if_pos (by omega)
        rw [x0, if_neg (fun z => z.1 (by decide))]
        by_cases d1 : r1.toNatClampNeg < n ∧ j = e1.toNatClampNeg
        · rw [if_pos d1, if_pos ⟨by omega, d1.2⟩]
        · rw [if_neg d1, if_neg (fun z : r1.toNatClampNeg < n + 1 ∧ j = e1.toNatClampNeg => d1 ⟨by omega, z.2⟩)]
          by_cases d2 : r2.toNatClampNeg < n ∧ j = e2.toNatClampNeg
          · rw [if_pos d2, if_pos ⟨by omega, d2.2⟩]
          · rw [if_neg d2, if_neg (fun z : r2.toNatClampNeg < n + 1 ∧ j = e2.toNatClampNeg => d2 ⟨by omega, z.2⟩)]
theorem own_gr_ex {r1 r2 e1 e2 v1 v2 r : Int32} (i1 : own_ix r1) (i2 : own_ix r2) (ne : r1 ≠ r2) (h1 : 0 ≤ e1.toInt) (h2 : 0 ≤ e2.toInt) (he : e1 ≠ e2) (hr : own_ix r) :
    own_gr (fun j => if j = r2.toNatClampNeg then e2.toInt64 else if j = r1.toNatClampNeg then e1.toInt64 else own_ff 64 j) (fun j => if j = r2.toNatClampNeg then v2 else if j = r1.toNatClampNeg then v1 else 0) 64 r.toNatClampNeg = own_ex e1 e2 r v1 v2 := by
  rw [own_gr_val i1 i2 ne h1 h2 he _ 64 (Nat.le_refl _)]
  have n0 := own_ixn hr
  unfold own_ex
  have q1 : (r1.toNatClampNeg < 64 ∧ r.toNatClampNeg = e1.toNatClampNeg) ↔ e1 = r := by
    rw [own_tn n0.1 h1]; exact ⟨fun z => z.2.symm, fun z => ⟨i1.2.1, z.symm⟩⟩
  have q2 : (r2.toNatClampNeg < 64 ∧ r.toNatClampNeg = e2.toNatClampNeg) ↔ e2 = r := by
    rw [own_tn n0.1 h2]; exact ⟨fun z => z.2.symm, fun z => ⟨i2.2.1, z.symm⟩⟩
  simp only [q1, q2]
theorem own_skip_int {x a b : Int32} (hx0 : 0 ≤ x.toInt) (hx1 : x.toInt < 1000) (hab : a.toInt < b.toInt) : (own_skip x a b).toInt = if x.toInt < a.toInt then x.toInt else if x.toInt + 1 < b.toInt then x.toInt + 1 else x.toInt + 2 := by
  have k1 : (1 : Int32).toInt = 1 := by decide
  have a1 := c_iadd x 1
  have a2 := rng32 (x + 1)
  rw [k1] at a1
  have a3 : (x + 1).toInt = x.toInt + 1 := by omega
  have b1 := c_iadd (x + 1) 1
  have b2 := rng32 (x + 1 + 1)
  rw [k1] at b1
  have b3 : (x + 1 + 1).toInt = x.toInt + 2 := by omega
  unfold own_skip
  simp only [Int32.lt_iff_toInt_lt, a3]
  by_cases h : x.toInt < a.toInt
  · rw [if_pos h, if_pos h, if_pos (by omega)]
  · rw [if_neg h, if_neg h]
    by_cases h2 : x.toInt + 1 < b.toInt
    · rw [if_pos h2, if_pos h2, a3]
    · rw [if_neg h2, if_neg h2, b3]
theorem own_minmax {r1 r2 : Int32} (ne : r1 ≠ r2) : (own_min r1 r2).toInt < (own_max r1 r2).toInt ∧ (((own_min r1 r2).toInt = r1.toInt ∧ (own_max r1 r2).toInt = r2.toInt) ∨ ((own_min r1 r2).toInt = r2.toInt ∧ (own_max r1 r2).toInt = r1.toInt)) := by
  have nn : r1.toInt ≠ r2.toInt := fun e => ne (Int32.toInt_inj.mp e)
  unfold own_min own_max
  simp only [Int32.lt_iff_toInt_lt]
  by_cases h : r1.toInt < r2.toInt
  · rw [if_neg (by omega), if_pos h]; omega
  · rw [if_pos (by omega), if_neg h]; omega
/-- what the two unlike places are: inside, none of the two slots -/
theorem own_places {r1 r2 x y : Int32} {N : Int} (i1 : own_ix r1) (i2 : own_ix r2) (ne : r1 ≠ r2) (hN : 64 ≤ N) (hN2 : N ≤ 128) (x0 : 0 ≤ x.toInt) (x1 : x.toInt < N - 2) (y0 : 0 ≤ y.toInt) (y1 : y.toInt < N - 2) (hxy : x.toInt ≠ y.toInt) :
    (0 ≤ (own_w x r1 r2).toInt ∧ (own_w x r1 r2).toInt < N ∧ (own_w x r1 r2).toInt ≠ r1.toInt ∧ (own_w x r1 r2).toInt ≠ r2.toInt) ∧ (0 ≤ (own_w y r1 r2).toInt ∧ (own_w y r1 r2).toInt < N ∧ (own_w y r1 r2).toInt ≠ r1.toInt ∧ (own_w y r1 r2).toInt ≠ r2.toInt) ∧ (own_w x r1 r2).toInt ≠ (own_w y r1 r2).toInt := by
  have n1 := own_ixn i1
  have n2 := own_ixn i2
  obtain ⟨m1, m2⟩ := own_minmax ne
  have ex : (own_w x r1 r2).toInt = _ := own_skip_int x0 (by omega) m1
  have ey : (own_w y r1 r2).toInt = _ := own_skip_int y0 (by omega) m1
  rw [ex, ey]
  generalize (own_min r1 r2).toInt = A at *
  generalize (own_max r1 r2).toInt = B at *
  generalize r1.toInt = R1 at *
  generalize r2.toInt = R2 at *
  generalize x.toInt = X at *
  generalize y.toInt = Y at *
  by_cases c1 : X < A <;> by_cases c2 : X + 1 < B <;> by_cases c3 : Y < A <;> by_cases c4 : Y + 1 < B <;> simp only [c1, c2, c3, c4, if_true, if_false] <;> omega
def own_e1 (md r1 r2 u1 u2 : Int32) : Int32 := if md = 0 then r1 else if md = 1 then r2 else if md = 2 then r1 else if md = 3 then u1 else if md = 4 then r2 else u1
def own_e2 (md r1 r2 u1 u2 : Int32) : Int32 := if md = 0 then r2 else if md = 1 then r1 else if md = 2 then u2 else if md = 3 then r2 else if md = 4 then u2 else if md = 5 then r1 else u2
theorem own_pick_of (md r1 r2 u1 u2 : Int32) : own_pick md r1 r2 u1 u2 (own_e1 md r1 r2 u1 u2) (own_e2 md r1 r2 u1 u2) := by
  unfold own_pick own_e1 own_e2
  by_cases h0 : md = 0
  · simp [h0]
  by_cases h1 : md = 1
  · simp [h1]
  by_cases h2 : md = 2
  · simp [h2]
  by_cases h3 : md = 3
  · simp [h3]
  by_cases h4 : md = 4
  · simp [h4]
  by_cases h5 : md = 5
  · simp [h5]
  simp [h0, h1, h2, h3, h4, h5]
theorem own_e_ok {md r1 r2 u1 u2 : Int32} {N : Int} (hr1 : 0 ≤ r1.toInt ∧ r1.toInt < N) (hr2 : 0 ≤ r2.toInt ∧ r2.toInt < N) (ne : r1.toInt ≠ r2.toInt) (hu1 : 0 ≤ u1.toInt ∧ u1.toInt < N ∧ u1.toInt ≠ r1.toInt ∧ u1.toInt ≠ r2.toInt) (hu2 : 0 ≤ u2.toInt ∧ u2.toInt < N ∧ u2.toInt ≠ r1.toInt ∧ u2.toInt ≠ r2.toInt) (hu : u1.toInt ≠ u2.toInt) :
    (0 ≤ (own_e1 md r1 r2 u1 u2).toInt ∧ (own_e1 md r1 r2 u1 u2).toInt < N) ∧ (0 ≤ (own_e2 md r1 r2 u1 u2).toInt ∧ (own_e2 md r1 r2 u1 u2).toInt < N) ∧ (own_e1 md r1 r2 u1 u2).toInt ≠ (own_e2 md r1 r2 u1 u2).toInt := by
  unfold own_e1 own_e2
  by_cases h0 : md = 0
  · simp only [h0, if_true]; omega
  simp only [h0, if_false]
  by_cases h1 : md = 1
  · simp only [h1, if_true]; omega
  simp only [h1, if_false]
  by_cases h2 : md = 2
  · simp only [h2, if_true]; omega
  simp only [h2, if_false]
  by_cases h3 : md = 3
  · simp only [h3, if_true]; omega
  simp only [h3, if_false]
  by_cases h4 : md = 4
  · simp only [h4, if_true]; omega
  simp only [h4, if_false]
  by_cases h5 : md = 5
  · simp only [h5, if_true]; omega
  simp only [h5, if_false]
  omega
theorem own_xy (t len : Int32) (h : len = 64 ∨ len = 128) : 0 ≤ (own_x1 t len).toInt ∧ (own_x1 t len).toInt < len.toInt - 2 ∧ 0 ≤ (own_y t len).toInt ∧ (own_y t len).toInt < len.toInt - 3 ∧ ¬ ((len - (2 : Int32)) = (0 : Int32)) ∧ ¬ ((len - (3 : Int32)) = (0 : Int32)) := by
  have m1 := c_mask t 65535 16 (by decide) (by decide)
  have m0 : 0 ≤ (t &&& (65535 : Int32)).toInt := by rw [m1]; exact Int.emod_nonneg _ (by decide)
  have s1 := c_iushr t 16 16 (by decide) (by decide)
  have s0 : 0 ≤ ((t.toUInt32 >>> ((16 : Int32) &&& 31).toUInt32).toInt32).toInt := by
    rw [s1]
    exact Int.ediv_nonneg (Int.emod_nonneg _ (by decide)) (by decide)
  rcases h with rfl | rfl
  · have e1 : (own_x1 t 64).toInt = _ := (c_irem (t &&& (65535 : Int32)) ((64 : Int32) - 2) 62 (by decide)).1 m0
    have e2 : (own_y t 64).toInt = _ := (c_irem ((t.toUInt32 >>> ((16 : Int32) &&& 31).toUInt32).toInt32) ((64 : Int32) - 3) 61 (by decide)).1 s0
    rw [e1, e2]
    have k : (64 : Int32).toInt = 64 := by decide
    rw [k]
    exact ⟨Int.emod_nonneg _ (by decide), Int.emod_lt_of_pos _ (by decide), Int.emod_nonneg _ (by decide), Int.emod_lt_of_pos _ (by decide), by decide, by decide⟩
  · have e1 : (own_x1 t 128).toInt = _ := (c_irem (t &&& (65535 : Int32)) ((128 : Int32) - 2) 126 (by decide)).1 m0
    have e2 : (own_y t 128).toInt = _ := (c_irem ((t.toUInt32 >>> ((16 : Int32) &&& 31).toUInt32).toInt32) ((128 : Int32) - 3) 125 (by decide)).1 s0
    rw [e1, e2]
    have k : (128 : Int32).toInt = 128 := by decide
    rw [k]
    exact ⟨Int.emod_nonneg _ (by decide), Int.emod_lt_of_pos _ (by decide), Int.emod_nonneg _ (by decide), Int.emod_lt_of_pos _ (by decide), by decide, by decide⟩
theorem rm0 (l : Launch) (Z : State) (a0 : Array Value) (hw : ∀ d ∈ tables_1, d.before a0 Z = true) (ws : List Jvm.Cond) (q1 q2 : Int64) (p3 p4 p5 p6 : Int32) (h0 : Heap) (n0 : Nat) (Z0 : n0 ≤ h0.size) :
    MetFree l x (head1 (Jvm.Cond.code x code maxLocals ret :: ws) room_1) (fun a Us => a = #[(.long q1), (.long q2), (.int p3), (.int p4), (.int p5), (.int p6)] ∧ Z.Warmed39 Us.vm ∧ Us.heap = h0) (fun _ _ _ _ _ => True) (fun _ Us o Us' => ∃ v L, o = .returned v ∧ Q0 Z h0 n0 v Us'.heap L ∧ FrameEnd Us o Us' L room_1.cells room_1.slots) := by
  have hk : (if q2 = q1 then q1 + 1 else q2) ≠ q1 := by
    split
    · intro z
      have z1 := c_ladd q1 1
      have k1 : (1 : Int64).toInt = 1 := by decide
      rw [z, k1] at z1
      omega
    · assumption
  generalize hkb : (if q2 = q1 then q1 + 1 else q2) = kb at hk
  have hl : (if (p5 &&& (1 : Int32)) = 0 then (64 : Int32) else 128) = 64 ∨ (if (p5 &&& (1 : Int32)) = 0 then (64 : Int32) else 128) = 128 := by split <;> simp
  generalize hlen : (if (p5 &&& (1 : Int32)) = 0 then (64 : Int32) else 128) = len at hl
  obtain ⟨x0, x1, y0, y1, z2, z3⟩ := own_xy p6 len hl
  have hln : (len.toInt = 64 ∨ len.toInt = 128) ∧ ¬ len < 0 ∧ len.toNatClampNeg ≤ 128 ∧ 64 ≤ len.toNatClampNeg ∧ (len.toNatClampNeg : Int) = len.toInt := by
    rcases hl with rfl | rfl <;> decide
  obtain ⟨l1, l2, l3, l4, l5⟩ := hln
  have yb : 0 ≤ (if own_y p6 len < own_x1 p6 len then own_y p6 len else own_y p6 len + 1).toInt ∧ (if own_y p6 len < own_x1 p6 len then own_y p6 len else own_y p6 len + 1).toInt < len.toInt - 2 ∧ (own_x1 p6 len).toInt ≠ (if own_y p6 len < own_x1 p6 len then own_y p6 len else own_y p6 len + 1).toInt := by
    have k1 : (1 : Int32).toInt = 1 := by decide
    have a1 := c_iadd (own_y p6 len) 1
    have a2 := rng32 (own_y p6 len + 1)
    rw [k1] at a1
    split
    · rename_i h
      rw [Int32.lt_iff_toInt_lt] at h
      omega
    · rename_i h
      rw [Int32.lt_iff_toInt_lt] at h
      omega
  generalize hyy : (if own_y p6 len < own_x1 p6 len then own_y p6 len else own_y p6 len + 1) = yy at yb
  obtain ⟨s1, s2, s3, s4, s5, s6, s7, s8⟩ := own_sls q1 kb hk
  have i1 := own_home_ix q1
  have i2 := own_r2_ix q1 kb
  have ne := Ne.symm (own_r2_ne q1 kb)
  have n1 := own_ixn i1
  have n2 := own_ixn i2
  have nI : (own_home q1).toInt ≠ (own_r2 q1 kb).toInt := fun z => ne (Int32.toInt_inj.mp z)
  generalize own_home q1 = r1 at *
  generalize own_r2 q1 kb = r2 at *
  obtain ⟨P1, P2, P3⟩ := own_places (N := len.toInt) i1 i2 ne (by omega) (by omega) x0 x1 yb.1 yb.2.1 yb.2.2
  obtain ⟨E1, E2, E3⟩ := own_e_ok (md := own_md p5) (N := len.toInt) ⟨n1.1, by omega⟩ ⟨n2.1, by omega⟩ nI P1 P2 P3
  have hE := own_pick_of (own_md p5) r1 r2 (own_w (own_x1 p6 len) r1 r2) (own_w yy r1 r2)
  generalize own_e1 (own_md p5) r1 r2 (own_w (own_x1 p6 len) r1 r2) (own_w yy r1 r2) = e1 at *
  generalize own_e2 (own_md p5) r1 r2 (own_w (own_x1 p6 len) r1 r2) (own_w yy r1 r2) = e2 at *
  have e12 : e1 ≠ e2 := fun z => E3 (by rw [z])
  have bd : ∀ e : Int32, 0 ≤ e.toInt → e.toInt < len.toInt → ¬ e.toInt64.toInt32 < 0 ∧ e.toInt64.toInt32.toNatClampNeg < len.toNatClampNeg := by
    intro e h1 h2
    rw [own_io]
    have k0 : (0 : Int32).toInt = 0 := by decide
    refine ⟨by rw [Int32.lt_iff_toInt_lt, k0]; omega, ?_⟩
    simp only [Int32.toNatClampNeg] at l5 ⊢
    omega
  refine rm0_core l Z a0 hw ws q1 q2 p3 p4 p5 p6 kb r1 r2 len yy e1 e2 _ _ len.toNatClampNeg _ h0 n0 Z0 hkb.symm hlen.symm hyy.symm hE rfl rfl s1 s2 s3 s4 s5 s6 s7 s8 l2 rfl l3 l4 ?_ rfl (own_gr_ex i1 i2 ne E1.1 E2.1 e12 i1) (own_gr_ex i1 i2 ne E1.1 E2.1 e12 i2) z2 z3
  intro i hi
  show ¬ (if i = r2.toNatClampNeg then e2.toInt64 else if i = r1.toNatClampNeg then e1.toInt64 else own_ff 64 i) < 0 → ¬ (if i = r2.toNatClampNeg then e2.toInt64 else if i = r1.toNatClampNeg then e1.toInt64 else own_ff 64 i).toInt32 < 0 ∧ (if i = r2.toNatClampNeg then e2.toInt64 else if i = r1.toNatClampNeg then e1.toInt64 else own_ff 64 i).toInt32.toNatClampNeg < len.toNatClampNeg
  by_cases c2 : i = r2.toNatClampNeg
  · rw [if_pos c2]; exact fun _ => bd e2 E2.1 E2.2
  · rw [if_neg c2]
    by_cases c1 : i = r1.toNatClampNeg
    · rw [if_pos c1]; exact fun _ => bd e1 E1.1 E1.2
    · rw [if_neg c1]
      have z : own_ff 64 i = -1 := if_pos hi
      rw [z]
      exact fun h => absurd (show (-1 : Int64) < 0 by decide) h
set_option maxRecDepth 65536 in
set_option maxHeartbeats 40000000 in
theorem comes_1 {Post : Tables → Env → Array Value → State → Outcome → State → Prop} (hpost : ∀ tb e args s v u, (limb_1_1.after args s (.returned v) u = true ∧ limb_1_2.after args s (.returned v) u = true ∧ True) → FrameEnd s (.returned v) u (Jvm.fieldLocs frame_1_writes args s ++ Jvm.arrayLocs frame_1_arrays args s ++ Jvm.staticLocs frame_1_statics s) 24 768 → Post tb e args s (.returned v) u) :
    ArmFor flags0 classFile x code maxLocals ret World_1 tables_1 room_1 Calls_1 rest_1 Pre_1 Post := by
  intro l hfl _ _ p e ha hc hk s m args below hf hA hF happ hP
  obtain ⟨hcalls, hrest, hpre⟩ := hP
  obtain ⟨-, -, -, hnamed, -, -, -, hat⟩ := (Spec.applies_iff hf).mp happ
  obtain ⟨hg, hn⟩ := and_e (Cond.before_iff.mp (show (Jvm.Cond.and given_1 narrow_1).before args s = true from hpre))
  obtain ⟨g87, g88⟩ := and_e hg
  obtain ⟨g89, g90⟩ := and_e g88
  obtain ⟨g91, g92⟩ := and_e g90
  obtain ⟨g93, g94⟩ := and_e g92
  obtain ⟨g95, g96⟩ := and_e g94
  obtain ⟨g97, g98⟩ := and_e g96
  obtain ⟨w0, w1, w2, w3, w4, w5, rfl⟩ : ∃ w0 w1 w2 w3 w4 w5 : Value, args = #[w0, w1, w2, w3, w4, w5] := by
    have hs : args.size = 6 := by simpa [Cond.value, given_1] using g87
    obtain ⟨L⟩ := args
    match L, hs with
    | [w0, w1, w2, w3, w4, w5], _ => exact ⟨w0, w1, w2, w3, w4, w5, rfl⟩
  have hw := fun d (hd : d ∈ tables_1) => atoms_spec (ws := Jvm.Cond.code x code maxLocals ret :: tables_1) hat d (List.mem_cons_of_mem _ hd)
  have hfit : Fit s := fun {y c} hc i hi => by
    obtain ⟨ha, rfl⟩ := Array.getElem?_eq_some_iff.mp hc
    have q := List.all_eq_true.mp ((Array.all_eq_true_iff_forall_mem.mp hF) _ (Array.getElem_mem ha)) i (List.mem_range.mpr hi)
    simpa [Array.getElem?_eq_getElem hi] using q
  obtain ⟨i0, ei0⟩ := isL_v g89
  obtain rfl : w0 = (.long i0) := Option.some.inj ei0
  obtain ⟨i1, ei1⟩ := isL_v g91
  obtain rfl : w1 = (.long i1) := Option.some.inj ei1
  obtain ⟨i2, ei2⟩ := is_v g93
  obtain rfl : w2 = (.int i2) := Option.some.inj ei2
  obtain ⟨i3, ei3⟩ := is_v g95
  obtain rfl : w3 = (.int i3) := Option.some.inj ei3
  obtain ⟨i4, ei4⟩ := is_v g97
  obtain rfl : w4 = (.int i4) := Option.some.inj ei4
  obtain ⟨i5, ei5⟩ := is_v g98
  obtain rfl : w5 = (.int i5) := Option.some.inj ei5
  obtain ⟨n, o, h1, h2, h3, _, L, rfl, ⟨rfl, N⟩, hq⟩ := rm0 l s _ hw tables_1 i0 i1 i2 i3 i4 i5 s.heap s.heap.size (Nat.le_refl _)  p e ha hc hk s m _ below hf ((Spec.applies_iff_loose hf).mp happ).1 ⟨rfl, State.Warmed39.refl s, rfl⟩ trivial
  refine ⟨n, _, h1, h2, h3, hpost _ _ _ _ _ _ ⟨Cond.after_iff.mpr rfl, Cond.after_iff.mpr (eq_i res_at (Term.int_eval (1)) rfl), trivial⟩ ⟨hq.1, hq.2.1, (hq.2.2.sift fun y hy => Or.inr (N y hy)).mono (by decide) (by decide)⟩⟩
theorem main_1_1 : Claimed_1_1 := comes_1 fun _ _ _ _ _ _ h hF => ⟨h.1, hF⟩
theorem main_1_2 : Claimed_1_2 := comes_1 fun _ _ _ _ _ _ h hF => ⟨h.2.1, hF⟩
end Jvm.Pilot.@@N@@
namespace Jvm.Pilot.@@N@@
open Jvm Jvm.ClassFile Sem Op Lib Jvm.Free Jvm.Stand Jvm.Pilot.@@N@@.Jvm.D
/-! MADE BY PROGRAM (witnessworld.py) out of the Statement's table words and the real class files: 18 classes; the members and pool entries that the words name. The judged class is class 1, her method 2. -/
namespace start1
open Jvm.ClassFile
def u (s : String) : CpInfo := .utf8 (stringToUtf16 s)
/-- a pool by its gaps: so many unusable entries, then the entry; so many at the end -/
def gap : Nat → List CpInfo → List CpInfo
  | 0, r => r
  | n + 1, r => .unusable :: gap n r
def poolList (es : List (Nat × CpInfo)) (last : Nat) : List CpInfo := es.foldr (fun e r => gap e.1 (e.2 :: r)) (gap last [])
def pool (es : List (Nat × CpInfo)) (last : Nat) : Array CpInfo := ⟨poolList es last⟩
def fileOf (pool : Array CpInfo) (this : Nat) (attrs : Array Attribute := #[]) (ms : Array MethodInfo := #[]) (fl : Nat := 33) (sup : Nat := 0) (ifs : Array Nat := #[]) (fds : Array FieldInfo := #[]) : ClassFile where
  minorVersion := 0
  majorVersion := 65
  constantPool := pool
  accessFlags := fl
  thisClass := this
  superClass := sup
  interfaces := ifs
  fields := fds
  methods := ms
  attributes := attrs
def plain (name : String) (sup : Option ClassId) : Class where
  name := name
  kind := .ordinary
  loader := none
  accessFlags := 33
  super := sup
  interfaces := #[]
  cf := none
  fields := #[]
  methods := #[]
  instanceTypes := #[]
  staticTypes := #[]
  resolved := #[]
  callSites := []
  init := .initialized
  statics := none
  mirror := none

def pool0 : Array CpInfo := pool [(5, u "<init>"), (0, u "()V"), (1, .class_ 10), (1, u "java/lang/Object")] 113

def k0c0 : Code := { maxStack := 0, maxLocals := 1, code := object_method_1_code, exceptionTable := #[], attributes := #[] }
def k0m0 : Method := { name := "<init>", desc := "()V", sig := { parameters := [], returnType := none }, accessFlags := 1, code := some k0c0 }
/-- java/lang/Object -/
def k0 : Class := { plain "java/lang/Object" none with
  accessFlags := 33
  interfaces := #[]
  cf := some (fileOf pool0 8 #[] #[{ accessFlags := 1, nameIndex := 5, descriptorIndex := 6, attributes := #[] }] 33 0 #[] #[])
  fields := #[]
  methods := #[k0m0]
  instanceTypes := #[]
  staticTypes := #[]
  resolved := Array.replicate 124 none
  statics := none }

def pool1 : Array CpInfo := pool [(2, .class_ 4), (0, .nameAndType 5 6), (0, u "java/lang/Object"), (0, u "<init>"), (0, u "()V"), (0, .class_ 8), (0, u "com/example/sectionary/sectionary/tables/LongKeyIntMap"), (0, .methodref 7 3), (0, .methodref 7 11), (0, .nameAndType 12 13), (0, u "put"), (0, u "(JI)V"), (0, .methodref 7 15), (0, .nameAndType 16 17), (0, u "slot"), (0, u "(J)I"), (0, .methodref 19 20), (0, .class_ 21), (0, .nameAndType 22 23), (0, u "java/lang/Math"), (0, u "min"), (0, u "(II)I"), (0, .methodref 19 25), (0, .nameAndType 26 23), (0, u "max"), (0, .integer 65535), (0, .methodref 29 30), (0, .class_ 31), (0, .nameAndType 32 33), (0, u "com/example/sectionary/sectionary/tables/LongKeyIntMapGrowValuesPinLaw"), (0, u "skip2"), (0, u "(III)I"), (0, .integer 2147483647), (0, .long 18446744073709551615), (1, .methodref 7 38), (0, .nameAndType 39 40), (0, u "growValues"), (0, u "([JI)V"), (0, .methodref 7 42), (0, .nameAndType 43 44), (0, u "getOrDefault"), (0, u "(JI)I"), (3, u "law"), (0, u "(JJIIII)Z")] 4

def k1m0 : Method := { name := "<init>", desc := "()V", sig := { parameters := [], returnType := none }, accessFlags := 2, code := none }
def k1c1 : Code := { maxStack := 2, maxLocals := 4, code := method_2_code, exceptionTable := #[], attributes := #[] }
def k1m1 : Method := { name := "skip2", desc := "(III)I", sig := { parameters := [.int, .int, .int], returnType := some .int }, accessFlags := 10, code := some k1c1 }
def k1c2 : Code := { maxStack := 5, maxLocals := 26, code := code, exceptionTable := #[], attributes := #[] }
def k1m2 : Method := { name := "law", desc := "(JJIIII)Z", sig := { parameters := [.long, .long, .int, .int, .int, .int], returnType := some .boolean }, accessFlags := 9, code := some k1c2 }
/-- com/example/sectionary/sectionary/tables/LongKeyIntMapGrowValuesPinLaw -/
def k1 : Class := { plain "com/example/sectionary/sectionary/tables/LongKeyIntMapGrowValuesPinLaw" (some 0) with
  accessFlags := 49
  interfaces := #[]
  cf := some (fileOf pool1 29 #[] #[{ accessFlags := 2, nameIndex := 5, descriptorIndex := 6, attributes := #[] }, { accessFlags := 10, nameIndex := 32, descriptorIndex := 33, attributes := #[] }, { accessFlags := 9, nameIndex := 48, descriptorIndex := 49, attributes := #[] }] 49 2 #[] #[])
  fields := #[]
  methods := #[k1m0, k1m1, k1m2]
  instanceTypes := #[]
  staticTypes := #[]
  resolved := Array.replicate 54 none
  statics := none }

def pool2 : Array CpInfo := pool [(1, .methodref 2 3), (0, .class_ 4), (0, .nameAndType 5 6), (0, u "java/lang/Object"), (0, u "<init>"), (0, u "()V"), (0, .class_ 8), (0, u "com/example/sectionary/sectionary/tables/LongKeyTable"), (0, .fieldref 7 10), (0, .nameAndType 11 12), (0, u "keys"), (0, u "[J"), (2, .fieldref 7 16), (0, .nameAndType 17 12), (0, u "used"), (0, .fieldref 7 19), (0, .nameAndType 20 21), (0, u "size"), (0, u "I"), (0, .methodref 7 23), (0, .nameAndType 24 25), (0, u "slot"), (0, u "(J)I"), (0, .methodref 7 27), (0, .nameAndType 28 29), (0, u "holds"), (0, u "(I)Z"), (0, .methodref 7 31), (0, .nameAndType 32 25), (0, u "home"), (4, .methodref 7 38), (0, .nameAndType 39 40), (0, u "bit"), (0, u "(I)J"), (13, .long 11400714819323198485), (1, .methodref 57 58), (0, .class_ 59), (0, .nameAndType 60 61), (0, u "java/lang/Integer"), (0, u "numberOfTrailingZeros"), (0, u "(I)I"), (0, u "INITIAL_CAPACITY"), (2, u "SPREAD"), (0, u "J"), (6, u "insert")] 4

def k2c0 : Code := { maxStack := 2, maxLocals := 1, code := prog_96_method_1_code, exceptionTable := #[], attributes := #[] }
def k2m0 : Method := { name := "<init>", desc := "()V", sig := { parameters := [], returnType := none }, accessFlags := 0, code := some k2c0 }
def k2c1 : Code := { maxStack := 4, maxLocals := 5, code := prog_96_method_4_code, exceptionTable := #[], attributes := #[] }
def k2m1 : Method := { name := "slot", desc := "(J)I", sig := { parameters := [.long], returnType := some .int }, accessFlags := 16, code := some k2c1 }
def k2c2 : Code := { maxStack := 4, maxLocals := 2, code := prog_96_method_5_code, exceptionTable := #[], attributes := #[] }
def k2m2 : Method := { name := "holds", desc := "(I)Z", sig := { parameters := [.int], returnType := some .boolean }, accessFlags := 16, code := some k2c2 }
def k2c3 : Code := { maxStack := 6, maxLocals := 4, code := prog_96_method_6_code, exceptionTable := #[], attributes := #[] }
def k2m3 : Method := { name := "insert", desc := "(J)I", sig := { parameters := [.long], returnType := some .int }, accessFlags := 16, code := some k2c3 }
def k2c4 : Code := { maxStack := 4, maxLocals := 3, code := prog_96_method_12_code, exceptionTable := #[], attributes := #[] }
def k2m4 : Method := { name := "home", desc := "(J)I", sig := { parameters := [.long], returnType := some .int }, accessFlags := 2, code := some k2c4 }
def k2c5 : Code := { maxStack := 3, maxLocals := 1, code := prog_96_method_13_code, exceptionTable := #[], attributes := #[] }
def k2m5 : Method := { name := "bit", desc := "(I)J", sig := { parameters := [.int], returnType := some .long }, accessFlags := 10, code := some k2c5 }
/-- com/example/sectionary/sectionary/tables/LongKeyTable -/
def k2 : Class := { plain "com/example/sectionary/sectionary/tables/LongKeyTable" (some 0) with
  accessFlags := 1056
  interfaces := #[]
  cf := some (fileOf pool2 7 #[] #[{ accessFlags := 0, nameIndex := 5, descriptorIndex := 6, attributes := #[] }, { accessFlags := 16, nameIndex := 24, descriptorIndex := 25, attributes := #[] }, { accessFlags := 16, nameIndex := 28, descriptorIndex := 29, attributes := #[] }, { accessFlags := 16, nameIndex := 73, descriptorIndex := 25, attributes := #[] }, { accessFlags := 2, nameIndex := 32, descriptorIndex := 25, attributes := #[] }, { accessFlags := 10, nameIndex := 39, descriptorIndex := 40, attributes := #[] }] 1056 2 #[] #[{ accessFlags := 24, nameIndex := 62, descriptorIndex := 21, attributes := #[] }, { accessFlags := 26, nameIndex := 65, descriptorIndex := 66, attributes := #[] }, { accessFlags := 2, nameIndex := 11, descriptorIndex := 12, attributes := #[] }, { accessFlags := 2, nameIndex := 17, descriptorIndex := 12, attributes := #[] }, { accessFlags := 2, nameIndex := 20, descriptorIndex := 21, attributes := #[] }])
  fields := #[{ name := "INITIAL_CAPACITY", type := .int, accessFlags := 24, slot := 0, constantValue := 0 }, { name := "SPREAD", type := .long, accessFlags := 26, slot := 1, constantValue := 0 }, { name := "keys", type := (.array .long), accessFlags := 2, slot := 0, constantValue := 0 }, { name := "used", type := (.array .long), accessFlags := 2, slot := 1, constantValue := 0 }, { name := "size", type := .int, accessFlags := 2, slot := 2, constantValue := 0 }]
  methods := #[k2m0, k2m1, k2m2, k2m3, k2m4, k2m5]
  instanceTypes := #[(.array .long), (.array .long), .int]
  staticTypes := #[.int, .long]
  resolved := Array.replicate 78 none
  statics := none }

def pool3 : Array CpInfo := pool [(1, .methodref 2 3), (0, .class_ 4), (0, .nameAndType 5 6), (0, u "com/example/sectionary/sectionary/tables/LongKeyTable"), (0, u "<init>"), (0, u "()V"), (0, .fieldref 8 9), (0, .class_ 10), (0, .nameAndType 11 12), (0, u "com/example/sectionary/sectionary/tables/LongKeyIntMap"), (0, u "values"), (0, u "[I"), (0, .methodref 8 14), (0, .nameAndType 15 16), (0, u "slot"), (0, u "(J)I"), (0, .methodref 8 18), (0, .nameAndType 19 20), (0, u "holds"), (0, u "(I)Z"), (0, .methodref 8 22), (0, .nameAndType 23 16), (0, u "insert"), (10, u "getOrDefault"), (0, u "(JI)I"), (1, u "put"), (0, u "(JI)V"), (5, u "growValues"), (0, u "([JI)V")] 4

def k3c0 : Code := { maxStack := 2, maxLocals := 1, code := prog_92_method_1_code, exceptionTable := #[], attributes := #[] }
def k3m0 : Method := { name := "<init>", desc := "()V", sig := { parameters := [], returnType := none }, accessFlags := 1, code := some k3c0 }
def k3c1 : Code := { maxStack := 3, maxLocals := 5, code := prog_92_method_2_code, exceptionTable := #[], attributes := #[] }
def k3m1 : Method := { name := "getOrDefault", desc := "(JI)I", sig := { parameters := [.long, .int], returnType := some .int }, accessFlags := 1, code := some k3c1 }
def k3c2 : Code := { maxStack := 3, maxLocals := 5, code := prog_92_method_3_code, exceptionTable := #[], attributes := #[] }
def k3m2 : Method := { name := "put", desc := "(JI)V", sig := { parameters := [.long, .int], returnType := none }, accessFlags := 1, code := some k3c2 }
def k3c3 : Code := { maxStack := 4, maxLocals := 5, code := prog_92_method_7_code, exceptionTable := #[], attributes := #[] }
def k3m3 : Method := { name := "growValues", desc := "([JI)V", sig := { parameters := [(.array .long), .int], returnType := none }, accessFlags := 0, code := some k3c3 }
/-- com/example/sectionary/sectionary/tables/LongKeyIntMap -/
def k3 : Class := { plain "com/example/sectionary/sectionary/tables/LongKeyIntMap" (some 2) with
  accessFlags := 33
  interfaces := #[]
  cf := some (fileOf pool3 8 #[] #[{ accessFlags := 1, nameIndex := 5, descriptorIndex := 6, attributes := #[] }, { accessFlags := 1, nameIndex := 34, descriptorIndex := 35, attributes := #[] }, { accessFlags := 1, nameIndex := 37, descriptorIndex := 38, attributes := #[] }, { accessFlags := 0, nameIndex := 44, descriptorIndex := 45, attributes := #[] }] 33 2 #[] #[{ accessFlags := 2, nameIndex := 11, descriptorIndex := 12, attributes := #[] }])
  fields := #[{ name := "values", type := (.array .int), accessFlags := 2, slot := 3, constantValue := 0 }]
  methods := #[k3m0, k3m1, k3m2, k3m3]
  instanceTypes := #[(.array .long), (.array .long), .int, (.array .int)]
  staticTypes := #[]
  resolved := Array.replicate 50 none
  statics := none }

def pool4 : Array CpInfo := pool [(1, .class_ 2), (0, u "java/io/Serializable"), (0, .class_ 4), (0, u "java/lang/Object")] 2

/-- java/io/Serializable -/
def k4 : Class := { plain "java/io/Serializable" (some 0) with
  accessFlags := 1537
  interfaces := #[]
  cf := some (fileOf pool4 1 #[] #[] 1537 3 #[] #[])
  fields := #[]
  methods := #[]
  instanceTypes := #[]
  staticTypes := #[]
  resolved := Array.replicate 7 none
  statics := none }

def pool5 : Array CpInfo := pool [(2, .class_ 4), (1, u "java/lang/Object"), (0, u "<init>"), (0, u "()V"), (1, .class_ 10), (1, u "java/lang/Number"), (2, .class_ 14), (0, u "java/io/Serializable"), (0, u "serialVersionUID"), (0, u "J")] 20

def k5m0 : Method := { name := "<init>", desc := "()V", sig := { parameters := [], returnType := none }, accessFlags := 1, code := none }
/-- java/lang/Number -/
def k5 : Class := { plain "java/lang/Number" (some 0) with
  accessFlags := 1057
  interfaces := #[4]
  cf := some (fileOf pool5 8 #[] #[{ accessFlags := 1, nameIndex := 5, descriptorIndex := 6, attributes := #[] }] 1057 2 #[13] #[{ accessFlags := 26, nameIndex := 15, descriptorIndex := 16, attributes := #[] }])
  fields := #[{ name := "serialVersionUID", type := .long, accessFlags := 26, slot := 0, constantValue := 0 }]
  methods := #[k5m0]
  instanceTypes := #[]
  staticTypes := #[.long]
  resolved := Array.replicate 37 none
  statics := none }

def pool6 : Array CpInfo := pool [(1, .class_ 2), (0, u "java/lang/Comparable"), (0, .class_ 4), (0, u "java/lang/Object")] 7

/-- java/lang/Comparable -/
def k6 : Class := { plain "java/lang/Comparable" (some 0) with
  accessFlags := 1537
  interfaces := #[]
  cf := some (fileOf pool6 1 #[] #[] 1537 3 #[] #[])
  fields := #[]
  methods := #[]
  instanceTypes := #[]
  staticTypes := #[]
  resolved := Array.replicate 12 none
  statics := none }

def pool7 : Array CpInfo := pool [(1, .class_ 2), (0, u "java/lang/constant/Constable"), (0, .class_ 4), (0, u "java/lang/Object")] 6

/-- java/lang/constant/Constable -/
def k7 : Class := { plain "java/lang/constant/Constable" (some 0) with
  accessFlags := 1537
  interfaces := #[]
  cf := some (fileOf pool7 1 #[] #[] 1537 3 #[] #[])
  fields := #[]
  methods := #[]
  instanceTypes := #[]
  staticTypes := #[]
  resolved := Array.replicate 11 none
  statics := none }

def pool8 : Array CpInfo := pool [(1, .class_ 2), (0, u "java/lang/constant/ConstantDesc"), (0, .class_ 4), (0, u "java/lang/Object")] 32

/-- java/lang/constant/ConstantDesc -/
def k8 : Class := { plain "java/lang/constant/ConstantDesc" (some 0) with
  accessFlags := 1537
  interfaces := #[]
  cf := some (fileOf pool8 1 #[] #[] 1537 3 #[] #[])
  fields := #[]
  methods := #[]
  instanceTypes := #[]
  staticTypes := #[]
  resolved := Array.replicate 37 none
  statics := none }

def pool9 : Array CpInfo := pool [(1, .class_ 2), (0, u "java/lang/Integer"), (16, u "digits"), (0, u "[C"), (33, u "(I)I"), (30, u "DigitOnes"), (0, u "[B"), (2, u "DigitTens"), (99, .class_ 190), (0, u "java/lang/Integer$IntegerCache"), (3, u "I"), (8, .class_ 204), (0, u "java/lang/Number"), (2, u "value"), (56, .integer 65536), (37, u "TYPE"), (0, u "Ljava/lang/Class;"), (0, .class_ 305), (0, u "java/lang/Comparable"), (0, .class_ 307), (0, u "java/lang/constant/Constable"), (0, .class_ 309), (0, u "java/lang/constant/ConstantDesc"), (0, u "MIN_VALUE"), (1, u "MAX_VALUE"), (3, u "SIZE"), (1, u "BYTES"), (1, u "serialVersionUID"), (0, u "J"), (84, u "numberOfTrailingZeros")] 46

def k9c0 : Code := { maxStack := 3, maxLocals := 2, code := jdk_33_method_48_code, exceptionTable := #[], attributes := #[] }
def k9m0 : Method := { name := "numberOfTrailingZeros", desc := "(I)I", sig := { parameters := [.int], returnType := some .int }, accessFlags := 9, code := some k9c0 }
/-- java/lang/Integer -/
def k9 : Class := { plain "java/lang/Integer" (some 5) with
  accessFlags := 49
  interfaces := #[6, 7, 8]
  cf := some (fileOf pool9 1 #[.nestMembers #[189]] #[{ accessFlags := 9, nameIndex := 406, descriptorIndex := 54, attributes := #[] }] 49 203 #[304, 306, 308] #[{ accessFlags := 25, nameIndex := 310, descriptorIndex := 194, attributes := #[] }, { accessFlags := 25, nameIndex := 312, descriptorIndex := 194, attributes := #[] }, { accessFlags := 25, nameIndex := 302, descriptorIndex := 303, attributes := #[] }, { accessFlags := 24, nameIndex := 19, descriptorIndex := 20, attributes := #[] }, { accessFlags := 24, nameIndex := 89, descriptorIndex := 86, attributes := #[] }, { accessFlags := 24, nameIndex := 85, descriptorIndex := 86, attributes := #[] }, { accessFlags := 18, nameIndex := 207, descriptorIndex := 194, attributes := #[] }, { accessFlags := 25, nameIndex := 316, descriptorIndex := 194, attributes := #[] }, { accessFlags := 25, nameIndex := 318, descriptorIndex := 194, attributes := #[] }, { accessFlags := 26, nameIndex := 320, descriptorIndex := 321, attributes := #[] }])
  fields := #[{ name := "MIN_VALUE", type := .int, accessFlags := 25, slot := 0, constantValue := 0 }, { name := "MAX_VALUE", type := .int, accessFlags := 25, slot := 1, constantValue := 0 }, { name := "TYPE", type := (.object "java/lang/Class"), accessFlags := 25, slot := 2, constantValue := 0 }, { name := "digits", type := (.array .char), accessFlags := 24, slot := 3, constantValue := 0 }, { name := "DigitTens", type := (.array .byte), accessFlags := 24, slot := 4, constantValue := 0 }, { name := "DigitOnes", type := (.array .byte), accessFlags := 24, slot := 5, constantValue := 0 }, { name := "value", type := .int, accessFlags := 18, slot := 0, constantValue := 0 }, { name := "SIZE", type := .int, accessFlags := 25, slot := 6, constantValue := 0 }, { name := "BYTES", type := .int, accessFlags := 25, slot := 7, constantValue := 0 }, { name := "serialVersionUID", type := .long, accessFlags := 26, slot := 8, constantValue := 0 }]
  methods := #[k9m0]
  instanceTypes := #[.int]
  staticTypes := #[.int, .int, (.object "java/lang/Class"), (.array .char), (.array .byte), (.array .byte), .int, .int, .long]
  resolved := Array.replicate 453 none
  statics := none }

def pool10 : Array CpInfo := pool [(1, .class_ 2), (0, u "java/lang/Math"), (1, .class_ 6), (1, u "java/lang/Object"), (0, u "<init>"), (0, u "()V"), (89, .class_ 100), (1, u "java/lang/Math$RandomNumberGeneratorHolder"), (71, u "negativeZeroFloatBits"), (0, u "J"), (2, u "negativeZeroDoubleBits"), (21, u "max"), (2, u "min"), (43, u "$assertionsDisabled"), (0, u "Z"), (88, u "(II)I"), (2, u "twoToTheDoubleScaleDown"), (0, u "D"), (4, u "twoToTheDoubleScaleUp"), (9, u "E"), (3, u "PI"), (2, u "TAU"), (2, u "DEGREES_TO_RADIANS"), (0, u "RADIANS_TO_DEGREES")] 94

def k10m0 : Method := { name := "<init>", desc := "()V", sig := { parameters := [], returnType := none }, accessFlags := 2, code := none }
def k10c1 : Code := { maxStack := 2, maxLocals := 2, code := jdk_29_method_65_code, exceptionTable := #[], attributes := #[] }
def k10m1 : Method := { name := "max", desc := "(II)I", sig := { parameters := [.int, .int], returnType := some .int }, accessFlags := 9, code := some k10c1 }
def k10c2 : Code := { maxStack := 2, maxLocals := 2, code := jdk_29_method_69_code, exceptionTable := #[], attributes := #[] }
def k10m2 : Method := { name := "min", desc := "(II)I", sig := { parameters := [.int, .int], returnType := some .int }, accessFlags := 9, code := some k10c2 }
/-- java/lang/Math -/
def k10 : Class := { plain "java/lang/Math" (some 0) with
  accessFlags := 49
  interfaces := #[]
  cf := some (fileOf pool10 1 #[.nestMembers #[98]] #[{ accessFlags := 2, nameIndex := 7, descriptorIndex := 8, attributes := #[] }, { accessFlags := 9, nameIndex := 198, descriptorIndex := 335, attributes := #[] }, { accessFlags := 9, nameIndex := 201, descriptorIndex := 335, attributes := #[] }] 49 4 #[] #[{ accessFlags := 25, nameIndex := 354, descriptorIndex := 339, attributes := #[] }, { accessFlags := 25, nameIndex := 358, descriptorIndex := 339, attributes := #[] }, { accessFlags := 25, nameIndex := 361, descriptorIndex := 339, attributes := #[] }, { accessFlags := 26, nameIndex := 364, descriptorIndex := 339, attributes := #[] }, { accessFlags := 26, nameIndex := 365, descriptorIndex := 339, attributes := #[] }, { accessFlags := 26, nameIndex := 172, descriptorIndex := 173, attributes := #[] }, { accessFlags := 26, nameIndex := 176, descriptorIndex := 173, attributes := #[] }, { accessFlags := 8, nameIndex := 344, descriptorIndex := 339, attributes := #[] }, { accessFlags := 8, nameIndex := 338, descriptorIndex := 339, attributes := #[] }, { accessFlags := 4120, nameIndex := 245, descriptorIndex := 246, attributes := #[] }])
  fields := #[{ name := "E", type := .double, accessFlags := 25, slot := 0, constantValue := 0 }, { name := "PI", type := .double, accessFlags := 25, slot := 1, constantValue := 0 }, { name := "TAU", type := .double, accessFlags := 25, slot := 2, constantValue := 0 }, { name := "DEGREES_TO_RADIANS", type := .double, accessFlags := 26, slot := 3, constantValue := 0 }, { name := "RADIANS_TO_DEGREES", type := .double, accessFlags := 26, slot := 4, constantValue := 0 }, { name := "negativeZeroFloatBits", type := .long, accessFlags := 26, slot := 5, constantValue := 0 }, { name := "negativeZeroDoubleBits", type := .long, accessFlags := 26, slot := 6, constantValue := 0 }, { name := "twoToTheDoubleScaleUp", type := .double, accessFlags := 8, slot := 7, constantValue := 0 }, { name := "twoToTheDoubleScaleDown", type := .double, accessFlags := 8, slot := 8, constantValue := 0 }, { name := "$assertionsDisabled", type := .boolean, accessFlags := 4120, slot := 9, constantValue := 0 }]
  methods := #[k10m0, k10m1, k10m2]
  instanceTypes := #[]
  staticTypes := #[.double, .double, .double, .double, .double, .long, .long, .double, .double, .boolean]
  resolved := Array.replicate 460 none
  statics := none }

def pool11 : Array CpInfo := pool [(1, u "java/lang/Cloneable"), (0, .class_ 1), (0, u "java/lang/Object"), (0, .class_ 3)] 3

/-- java/lang/Cloneable -/
def k11 : Class := { plain "java/lang/Cloneable" (some 0) with
  accessFlags := 1537
  interfaces := #[]
  cf := some (fileOf pool11 2 #[] #[] 1537 4 #[] #[])
  fields := #[]
  methods := #[]
  instanceTypes := #[]
  staticTypes := #[]
  resolved := Array.replicate 8 none
  statics := none }

/-- the primitive byte -/
def k12 : Class := { plain "byte" none with kind := .primitive 'B', accessFlags := 0x411 }
/-- [B -/
def k13 : Class := { plain "[B" (some 0) with kind := .array 12 .byte, interfaces := #[11, 4], accessFlags := 1041 }

/-- the primitive int -/
def k14 : Class := { plain "int" none with kind := .primitive 'I', accessFlags := 0x411 }
/-- [I -/
def k15 : Class := { plain "[I" (some 0) with kind := .array 14 .int, interfaces := #[11, 4], accessFlags := 1041 }

/-- the primitive long -/
def k16 : Class := { plain "long" none with kind := .primitive 'J', accessFlags := 0x411 }
/-- [J -/
def k17 : Class := { plain "[J" (some 0) with kind := .array 16 .long, interfaces := #[11, 4], accessFlags := 1041 }

def heap : Heap := #[]
def classes : Array Class := #[k0, k1, k2, k3, k4, k5, k6, k7, k8, k9, k10, k11, k12, k13, k14, k15, k16, k17]
def interned : List (Array UInt16 × Addr) := []
def slotsUsed : Nat := 0
def theMethod : MethodId := ⟨1, 2⟩
def args0 : Array Value := #[.long 5, .long 7, .int 3, .int 4, .int 1, .int 9]
def aboutOver (below : List Frame) : State where
  vm := { classes := classes, interned := interned.toArray }
  heap := heap
  slotsUsed := slotsUsed
  threads := #[{ frames := .invoking theMethod args0 :: below }]
def below0 : List Frame := [.native { method := ⟨0, 0⟩, args := #[] }]
def about1 : State := aboutOver below0
def p0 : Program := .bare "" "" ""
def e0 : Env := launch0.env 0 0 0
theorem w_frames : about1.frames = Frame.invoking theMethod args0 :: below0 := rfl
set_option maxRecDepth 65536 in
theorem w_args : argsFit about1.vm theMethod args0 = true := by decide +kernel
set_option maxRecDepth 65536 in
theorem w_heap : heapFits about1 = true := by decide +kernel
set_option maxRecDepth 65536 in
theorem w_runnable : about1.curStatus? = some .runnable := by decide +kernel
set_option maxRecDepth 65536 in
theorem w_alone : about1.alone = true := by decide +kernel
set_option maxRecDepth 65536 in
theorem w_named : about1.methodNamed? x = some theMethod := by decide +kernel
set_option maxRecDepth 65536 in
theorem w_hears : about1.hears theMethod below0 = true := by decide +kernel
set_option maxRecDepth 65536 in
theorem w_ripe : about1.ripe theMethod args0 below0 = true := by decide +kernel
theorem w_running : about1.status = .running := rfl
set_option maxRecDepth 65536 in
theorem w_room : about1.hasRoom e0.platform room_1 = true :=
  launch0.hasRoom_least _ room_1 (by decide +kernel) (by decide +kernel) (by decide +kernel) (by decide +kernel) (by decide +kernel) (by decide +kernel)
theorem allAtoms_all (ts : List Jvm.Cond) (a : Array Jvm.Value) (st : Jvm.State) : (allAtoms ts).before a st = ts.all (fun c => c.before a st) := by
  induction ts with
  | nil => rfl
  | cons c t ih =>
    show (Jvm.Cond.and c (allAtoms t)).before a st = _
    rw [Jvm.Cond.before_and, ih, List.all_cons]
def words1 : List Jvm.Cond := Jvm.Cond.code x code maxLocals ret :: tables_1
/-- a 'code' word, met by the world's own term for the bytes: nothing is compared byte by byte -/
theorem code_word {y : MethodName} {bytes : ByteArray} {mx : Nat} {rt : Option FieldType} {a : Array Value} {s : State} {m : MethodId} {meth : Method} {c : Code} (h1 : s.methodNamed? y = some m) (h2 : s.vm.method? m = some meth) (h3 : meth.code = some c) (h4 : c.code = bytes)
    (h5 : (c.maxLocals == mx && c.exceptionTable.isEmpty && decide (c.maxStack ≤ mostOperands) && decide (meth.sig.returnType = rt) && !meth.locks && decide (parseMethodDescriptor y.desc = some meth.sig)) = true) : (Jvm.Cond.code y bytes mx rt).before a s = true := by
  simp only [Bool.and_eq_true, beq_iff_eq, Bool.not_eq_true', decide_eq_true_eq] at h5
  obtain ⟨⟨⟨⟨⟨g1, g2⟩, g3⟩, g4⟩, g5⟩, g6⟩ := h5
  simp [Cond.before, Cond.holds, Cond.value, h1, h2, h3, h4, g1, g2, g3, g4, g5, g6]
def isCode : Jvm.Cond → Bool
  | .code _ _ _ _ => true
  | _ => false
theorem all_split {L : List Jvm.Cond} {P : Jvm.Cond → Bool} (h1 : L.all (fun c => isCode c || P c) = true) (h2 : ∀ c ∈ L.filter isCode, P c = true) : L.all P = true := by
  refine List.all_eq_true.mpr fun c hc => ?_
  have h := List.all_eq_true.mp h1 c hc
  rcases Bool.eq_false_or_eq_true (isCode c) with hi | hi
  · exact h2 c (List.mem_filter.mpr ⟨hc, hi⟩)
  · simpa [hi] using h
set_option maxRecDepth 65536 in
theorem w_c0 : (Jvm.Cond.code x code maxLocals ret).before args0 about1 = true := code_word (m := ⟨1, 2⟩) (meth := k1m2) (c := k1c2) (by decide +kernel) rfl rfl rfl (by decide +kernel)
set_option maxRecDepth 65536 in
theorem w_c1 : (Jvm.Cond.code ({ cls := "com/example/sectionary/sectionary/tables/LongKeyIntMap", name := "<init>", desc := "()V" } : Jvm.MethodName) prog_92_method_1_code (1 : Nat) (Option.none : Option Jvm.ClassFile.FieldType)).before args0 about1 = true := code_word (m := ⟨3, 0⟩) (meth := k3m0) (c := k3c0) (by decide +kernel) rfl rfl rfl (by decide +kernel)
set_option maxRecDepth 65536 in
theorem w_c2 : (Jvm.Cond.code ({ cls := "com/example/sectionary/sectionary/tables/LongKeyTable", name := "<init>", desc := "()V" } : Jvm.MethodName) prog_96_method_1_code (1 : Nat) (Option.none : Option Jvm.ClassFile.FieldType)).before args0 about1 = true := code_word (m := ⟨2, 0⟩) (meth := k2m0) (c := k2c0) (by decide +kernel) rfl rfl rfl (by decide +kernel)
set_option maxRecDepth 65536 in
theorem w_c3 : (Jvm.Cond.code ({ cls := "java/lang/Object", name := "<init>", desc := "()V" } : Jvm.MethodName) object_method_1_code (1 : Nat) (Option.none : Option Jvm.ClassFile.FieldType)).before args0 about1 = true := code_word (m := ⟨0, 0⟩) (meth := k0m0) (c := k0c0) (by decide +kernel) rfl rfl rfl (by decide +kernel)
set_option maxRecDepth 65536 in
theorem w_c4 : (Jvm.Cond.code ({ cls := "com/example/sectionary/sectionary/tables/LongKeyIntMap", name := "put", desc := "(JI)V" } : Jvm.MethodName) prog_92_method_3_code (5 : Nat) (Option.none : Option Jvm.ClassFile.FieldType)).before args0 about1 = true := code_word (m := ⟨3, 2⟩) (meth := k3m2) (c := k3c2) (by decide +kernel) rfl rfl rfl (by decide +kernel)
set_option maxRecDepth 65536 in
theorem w_c5 : (Jvm.Cond.code ({ cls := "com/example/sectionary/sectionary/tables/LongKeyTable", name := "insert", desc := "(J)I" } : Jvm.MethodName) prog_96_method_6_code (4 : Nat) (Option.some Jvm.ClassFile.FieldType.int)).before args0 about1 = true := code_word (m := ⟨2, 3⟩) (meth := k2m3) (c := k2c3) (by decide +kernel) rfl rfl rfl (by decide +kernel)
set_option maxRecDepth 65536 in
theorem w_c6 : (Jvm.Cond.code ({ cls := "com/example/sectionary/sectionary/tables/LongKeyTable", name := "slot", desc := "(J)I" } : Jvm.MethodName) prog_96_method_4_code (5 : Nat) (Option.some Jvm.ClassFile.FieldType.int)).before args0 about1 = true := code_word (m := ⟨2, 1⟩) (meth := k2m1) (c := k2c1) (by decide +kernel) rfl rfl rfl (by decide +kernel)
set_option maxRecDepth 65536 in
theorem w_c7 : (Jvm.Cond.code ({ cls := "com/example/sectionary/sectionary/tables/LongKeyTable", name := "home", desc := "(J)I" } : Jvm.MethodName) prog_96_method_12_code (3 : Nat) (Option.some Jvm.ClassFile.FieldType.int)).before args0 about1 = true := code_word (m := ⟨2, 4⟩) (meth := k2m4) (c := k2c4) (by decide +kernel) rfl rfl rfl (by decide +kernel)
set_option maxRecDepth 65536 in
theorem w_c8 : (Jvm.Cond.code ({ cls := "java/lang/Integer", name := "numberOfTrailingZeros", desc := "(I)I" } : Jvm.MethodName) jdk_33_method_48_code (2 : Nat) (Option.some Jvm.ClassFile.FieldType.int)).before args0 about1 = true := code_word (m := ⟨9, 0⟩) (meth := k9m0) (c := k9c0) (by decide +kernel) rfl rfl rfl (by decide +kernel)
set_option maxRecDepth 65536 in
theorem w_c9 : (Jvm.Cond.code ({ cls := "com/example/sectionary/sectionary/tables/LongKeyTable", name := "holds", desc := "(I)Z" } : Jvm.MethodName) prog_96_method_5_code (2 : Nat) (Option.some Jvm.ClassFile.FieldType.boolean)).before args0 about1 = true := code_word (m := ⟨2, 2⟩) (meth := k2m2) (c := k2c2) (by decide +kernel) rfl rfl rfl (by decide +kernel)
set_option maxRecDepth 65536 in
theorem w_c10 : (Jvm.Cond.code ({ cls := "com/example/sectionary/sectionary/tables/LongKeyTable", name := "bit", desc := "(I)J" } : Jvm.MethodName) prog_96_method_13_code (1 : Nat) (Option.some Jvm.ClassFile.FieldType.long)).before args0 about1 = true := code_word (m := ⟨2, 5⟩) (meth := k2m5) (c := k2c5) (by decide +kernel) rfl rfl rfl (by decide +kernel)
set_option maxRecDepth 65536 in
theorem w_c11 : (Jvm.Cond.code ({ cls := "java/lang/Math", name := "min", desc := "(II)I" } : Jvm.MethodName) jdk_29_method_69_code (2 : Nat) (Option.some Jvm.ClassFile.FieldType.int)).before args0 about1 = true := code_word (m := ⟨10, 2⟩) (meth := k10m2) (c := k10c2) (by decide +kernel) rfl rfl rfl (by decide +kernel)
set_option maxRecDepth 65536 in
theorem w_c12 : (Jvm.Cond.code ({ cls := "java/lang/Math", name := "max", desc := "(II)I" } : Jvm.MethodName) jdk_29_method_65_code (2 : Nat) (Option.some Jvm.ClassFile.FieldType.int)).before args0 about1 = true := code_word (m := ⟨10, 1⟩) (meth := k10m1) (c := k10c1) (by decide +kernel) rfl rfl rfl (by decide +kernel)
set_option maxRecDepth 65536 in
theorem w_c13 : (Jvm.Cond.code ({ cls := "com/example/sectionary/sectionary/tables/LongKeyIntMapGrowValuesPinLaw", name := "skip2", desc := "(III)I" } : Jvm.MethodName) method_2_code (4 : Nat) (Option.some Jvm.ClassFile.FieldType.int)).before args0 about1 = true := code_word (m := ⟨1, 1⟩) (meth := k1m1) (c := k1c1) (by decide +kernel) rfl rfl rfl (by decide +kernel)
set_option maxRecDepth 65536 in
theorem w_c14 : (Jvm.Cond.code ({ cls := "com/example/sectionary/sectionary/tables/LongKeyIntMap", name := "growValues", desc := "([JI)V" } : Jvm.MethodName) prog_92_method_7_code (5 : Nat) (Option.none : Option Jvm.ClassFile.FieldType)).before args0 about1 = true := code_word (m := ⟨3, 3⟩) (meth := k3m3) (c := k3c3) (by decide +kernel) rfl rfl rfl (by decide +kernel)
set_option maxRecDepth 65536 in
theorem w_c15 : (Jvm.Cond.code ({ cls := "com/example/sectionary/sectionary/tables/LongKeyIntMap", name := "getOrDefault", desc := "(JI)I" } : Jvm.MethodName) prog_92_method_2_code (5 : Nat) (Option.some Jvm.ClassFile.FieldType.int)).before args0 about1 = true := code_word (m := ⟨3, 1⟩) (meth := k3m1) (c := k3c1) (by decide +kernel) rfl rfl rfl (by decide +kernel)
def codes1 : List Jvm.Cond := [Jvm.Cond.code x code maxLocals ret, Jvm.Cond.code ({ cls := "com/example/sectionary/sectionary/tables/LongKeyIntMap", name := "<init>", desc := "()V" } : Jvm.MethodName) prog_92_method_1_code (1 : Nat) (Option.none : Option Jvm.ClassFile.FieldType), Jvm.Cond.code ({ cls := "com/example/sectionary/sectionary/tables/LongKeyTable", name := "<init>", desc := "()V" } : Jvm.MethodName) prog_96_method_1_code (1 : Nat) (Option.none : Option Jvm.ClassFile.FieldType), Jvm.Cond.code ({ cls := "java/lang/Object", name := "<init>", desc := "()V" } : Jvm.MethodName) object_method_1_code (1 : Nat) (Option.none : Option Jvm.ClassFile.FieldType), Jvm.Cond.code ({ cls := "com/example/sectionary/sectionary/tables/LongKeyIntMap", name := "put", desc := "(JI)V" } : Jvm.MethodName) prog_92_method_3_code (5 : Nat) (Option.none : Option Jvm.ClassFile.FieldType), Jvm.Cond.code ({ cls := "com/example/sectionary/sectionary/tables/LongKeyTable", name := "insert", desc := "(J)I" } : Jvm.MethodName) prog_96_method_6_code (4 : Nat) (Option.some Jvm.ClassFile.FieldType.int), Jvm.Cond.code ({ cls := "com/example/sectionary/sectionary/tables/LongKeyTable", name := "slot", desc := "(J)I" } : Jvm.MethodName) prog_96_method_4_code (5 : Nat) (Option.some Jvm.ClassFile.FieldType.int), Jvm.Cond.code ({ cls := "com/example/sectionary/sectionary/tables/LongKeyTable", name := "home", desc := "(J)I" } : Jvm.MethodName) prog_96_method_12_code (3 : Nat) (Option.some Jvm.ClassFile.FieldType.int), Jvm.Cond.code ({ cls := "java/lang/Integer", name := "numberOfTrailingZeros", desc := "(I)I" } : Jvm.MethodName) jdk_33_method_48_code (2 : Nat) (Option.some Jvm.ClassFile.FieldType.int), Jvm.Cond.code ({ cls := "com/example/sectionary/sectionary/tables/LongKeyTable", name := "holds", desc := "(I)Z" } : Jvm.MethodName) prog_96_method_5_code (2 : Nat) (Option.some Jvm.ClassFile.FieldType.boolean), Jvm.Cond.code ({ cls := "com/example/sectionary/sectionary/tables/LongKeyTable", name := "bit", desc := "(I)J" } : Jvm.MethodName) prog_96_method_13_code (1 : Nat) (Option.some Jvm.ClassFile.FieldType.long), Jvm.Cond.code ({ cls := "java/lang/Math", name := "min", desc := "(II)I" } : Jvm.MethodName) jdk_29_method_69_code (2 : Nat) (Option.some Jvm.ClassFile.FieldType.int), Jvm.Cond.code ({ cls := "java/lang/Math", name := "max", desc := "(II)I" } : Jvm.MethodName) jdk_29_method_65_code (2 : Nat) (Option.some Jvm.ClassFile.FieldType.int), Jvm.Cond.code ({ cls := "com/example/sectionary/sectionary/tables/LongKeyIntMapGrowValuesPinLaw", name := "skip2", desc := "(III)I" } : Jvm.MethodName) method_2_code (4 : Nat) (Option.some Jvm.ClassFile.FieldType.int), Jvm.Cond.code ({ cls := "com/example/sectionary/sectionary/tables/LongKeyIntMap", name := "growValues", desc := "([JI)V" } : Jvm.MethodName) prog_92_method_7_code (5 : Nat) (Option.none : Option Jvm.ClassFile.FieldType), Jvm.Cond.code ({ cls := "com/example/sectionary/sectionary/tables/LongKeyIntMap", name := "getOrDefault", desc := "(JI)I" } : Jvm.MethodName) prog_92_method_2_code (5 : Nat) (Option.some Jvm.ClassFile.FieldType.int)]
set_option maxRecDepth 65536 in
theorem codes_eq : words1.filter isCode = codes1 := rfl
theorem w_codes : ∀ c ∈ words1.filter isCode, c.before args0 about1 = true := by
  rw [codes_eq]
  intro c hc
  simp only [codes1, List.mem_cons, List.not_mem_nil, or_false] at hc
  rcases hc with rfl | rfl | rfl | rfl | rfl | rfl | rfl | rfl | rfl | rfl | rfl | rfl | rfl | rfl | rfl | rfl
  · exact w_c0
  · exact w_c1
  · exact w_c2
  · exact w_c3
  · exact w_c4
  · exact w_c5
  · exact w_c6
  · exact w_c7
  · exact w_c8
  · exact w_c9
  · exact w_c10
  · exact w_c11
  · exact w_c12
  · exact w_c13
  · exact w_c14
  · exact w_c15
set_option maxRecDepth 65536 in
theorem w_t1 : (words1.take 24).all (fun c => isCode c || c.before args0 about1) = true := by decide +kernel
set_option maxRecDepth 65536 in
theorem w_t2 : ((words1.drop 24).take 24).all (fun c => isCode c || c.before args0 about1) = true := by decide +kernel
set_option maxRecDepth 65536 in
theorem w_t3 : (((words1.drop 24).drop 24).take 24).all (fun c => isCode c || c.before args0 about1) = true := by decide +kernel
set_option maxRecDepth 65536 in
theorem w_t4 : (((words1.drop 24).drop 24).drop 24).all (fun c => isCode c || c.before args0 about1) = true := by decide +kernel
theorem w_tables : (allAtoms (Jvm.Cond.code x code maxLocals ret :: tables_1)).before args0 about1 = true := by
  rw [allAtoms_all]
  show words1.all (fun c => c.before args0 about1) = true
  refine all_split ?_ w_codes
  rw [← List.take_append_drop 24 words1, List.all_append, w_t1, ← List.take_append_drop 24 (words1.drop 24), List.all_append, w_t2, ← List.take_append_drop 24 ((words1.drop 24).drop 24), List.all_append, w_t3, w_t4]
  rfl
set_option maxRecDepth 65536 in
theorem w_case : (Jvm.Cond.and given_1 narrow_1).before args0 about1 = true := by decide +kernel
theorem w_applies : (headSpec (Jvm.Cond.code x code maxLocals ret :: tables_1) room_1).applies x e0.platform about1 = true :=
  (Spec.applies_iff w_frames).mpr ⟨w_running, w_runnable, w_alone, w_named, w_hears, w_ripe, w_room, w_tables⟩
theorem atStart : AtStart classFile x code maxLocals ret World_1 tables_1 room_1 Calls_1 rest_1 Pre_1 launch0 p0 e0 about1 theMethod args0 below0 :=
  ⟨lists_1, trivial, launch0.admits_env _ _ _, launch0.least_env, fairChoices_fair.cas, fairChoices_fair.clock, w_frames, w_args, w_heap, w_applies, trivial, trivial, w_case⟩
end start1
theorem witness_1 : WitnessClaimed_1 := ⟨start1.p0, start1.e0, start1.about1, start1.theMethod, start1.args0, start1.below0, start1.atStart⟩
end Jvm.Pilot.@@N@@
