import JvmDerived
import JvmDerived.Pilot.@@N@@Statement
import JvmDerived.Pilot.@@N@@Code
set_option linter.unusedVariables false
set_option linter.unusedSimpArgs false
namespace Jvm.Pilot.@@N@@
open Jvm Jvm.ClassFile Sem Op Lib Jvm.Free Jvm.Stand Jvm.LawKit Jvm.RoadKit Bundle Jvm.Pilot.@@N@@.Jvm.D
def own_K (p : Program) (e : Env) (below : List Frame) (A B : State) : Prop := ∀ t, Steps p.tables e below A t → Steps p.tables e below B t
theorem own_ifT_eq {x : Int32} (h : x = 0) : ifCond.holds .eq x = true := by simp [ifCond.holds, h]
theorem own_ifF_eq {x : Int32} (h : ¬ x = 0) : ifCond.holds .eq x = false := by simp [ifCond.holds, h]
theorem own_ifT_ne {x : Int32} (h : ¬ x = 0) : ifCond.holds .ne x = true := by simp [ifCond.holds, h]
theorem own_ifF_ne {x : Int32} (h : x = 0) : ifCond.holds .ne x = false := by simp [ifCond.holds, h]
theorem own_ifT_lt {x : Int32} (h : x < 0) : ifCond.holds .lt x = true := by simp [ifCond.holds, h]
theorem own_ifF_lt {x : Int32} (h : ¬ x < 0) : ifCond.holds .lt x = false := by simp [ifCond.holds, h]
theorem own_ifT_ge {x : Int32} (h : ¬ x < 0) : ifCond.holds .ge x = true := by simp [ifCond.holds, Int32.not_lt.mp h]
theorem own_ifF_ge {x : Int32} (h : x < 0) : ifCond.holds .ge x = false := by simp [ifCond.holds, Int32.not_le.mpr h]
theorem own_ifT_gt {x : Int32} (h : 0 < x) : ifCond.holds .gt x = true := by simp [ifCond.holds, h]
theorem own_ifF_gt {x : Int32} (h : ¬ 0 < x) : ifCond.holds .gt x = false := by simp [ifCond.holds, h]
theorem own_ifT_le {x : Int32} (h : ¬ 0 < x) : ifCond.holds .le x = true := by simp [ifCond.holds, Int32.not_lt.mp h]
theorem own_ifF_le {x : Int32} (h : 0 < x) : ifCond.holds .le x = false := by simp [ifCond.holds, Int32.not_le.mpr h]
theorem own_icT_eq {x y : Int32} (h : x = y) : if_icmp.holds .eq x y = true := by simp [if_icmp.holds, h]
theorem own_icF_eq {x y : Int32} (h : ¬ x = y) : if_icmp.holds .eq x y = false := by simp [if_icmp.holds, h]
theorem own_icT_ne {x y : Int32} (h : ¬ x = y) : if_icmp.holds .ne x y = true := by simp [if_icmp.holds, h]
theorem own_icF_ne {x y : Int32} (h : x = y) : if_icmp.holds .ne x y = false := by simp [if_icmp.holds, h]
theorem own_icT_lt {x y : Int32} (h : x < y) : if_icmp.holds .lt x y = true := by simp [if_icmp.holds, h]
theorem own_icF_lt {x y : Int32} (h : ¬ x < y) : if_icmp.holds .lt x y = false := by simp [if_icmp.holds, h]
theorem own_icT_ge {x y : Int32} (h : ¬ x < y) : if_icmp.holds .ge x y = true := by simp [if_icmp.holds, Int32.not_lt.mp h]
theorem own_icF_ge {x y : Int32} (h : x < y) : if_icmp.holds .ge x y = false := by simp [if_icmp.holds, Int32.not_le.mpr h]
theorem own_icT_gt {x y : Int32} (h : y < x) : if_icmp.holds .gt x y = true := by simp [if_icmp.holds, h]
theorem own_icF_gt {x y : Int32} (h : ¬ y < x) : if_icmp.holds .gt x y = false := by simp [if_icmp.holds, h]
theorem own_icT_le {x y : Int32} (h : ¬ y < x) : if_icmp.holds .le x y = true := by simp [if_icmp.holds, Int32.not_lt.mp h]
theorem own_icF_le {x y : Int32} (h : y < x) : if_icmp.holds .le x y = false := by simp [if_icmp.holds, Int32.not_le.mpr h]
theorem own_from {p : Program} {e : Env} {below : List Frame} {A B t : State} (h : B = A) (q : Steps p.tables e below B t) : Steps p.tables e below A t := h ▸ q
abbrev rO (f c s l : Nat) : Room := { frames := f, cells := c, slots := s, locals := l }
abbrev own_Met (l : Launch) (y : MethodName) (code : ByteArray) (ml : Nat) (ret : Option FieldType) (ws : List Jvm.Cond) (rm : Room) (as' : Array Value) (Z : State) (h0 : Heap) (Q : Option Value → Heap → List Loc → Prop) : Prop :=
  MetFree l y (head1 (Jvm.Cond.code y code ml ret :: ws) rm) (fun ar_ U => ar_ = as' ∧ Z.Warmed39 U.vm ∧ U.heap = h0) (fun _ _ _ _ _ => True) (fun _ U o U' => ∃ v L, o = .returned v ∧ Q v U'.heap L ∧ FrameEnd U o U' L rm.cells rm.slots)
theorem own_InsKeep {Z : State} {h h' : Heap} {b : Addr} {C : String} {bo : Bool} {ws : List Addr} (F : Ins Z h b C bo) (K : Keep h h' ws) (q : b ∉ ws) : Ins Z h' b C bo := by obtain ⟨cell, k, h1, r⟩ := F; exact ⟨cell, k, K.2.1 _ _ h1 q, r⟩
theorem wT {Z : State} {a0 : Array Value} (hw : ∀ d ∈ tables_1, d.before a0 Z = true) (i : Nat) {d : Jvm.Cond} (h : tables_1[i]? = some d) : d.before a0 Z = true := hw d (List.mem_of_getElem? h)
theorem own_mvNest {Z s : State} {a0 args : Array Value} {own host : String} {index : Nat} {y : MethodName} (hZ : Z.Warmed39 s.vm) (w : (Cond.methodLinkNest own index y host).before a0 Z = true) : (Cond.methodLinkNest own index y host).before args s = true := (Cond.methodLinkNest_wide hZ w :)
theorem own_pop2 {tb : Tables} [Ours tb] {e : Env} {below : List Frame} {T target : State} {m : MethodId} {c : Code} {g : JFrame} (h : At T m c below) (hx : tb.exec = Jvm.exec) (hg : g.method = m) {x : UInt64} {rest : List Value} (hd : decode c.code g.pc = .ok (.pop2, 1)) (hs : g.stack = .double x :: rest)
    (hr : Steps tb e below (T.setTop { g with pc := g.pc + 1, stack := rest }) target) : Steps tb e below (T.setTop g) target := by
  subst hg
  jvm_step h [h.top, hx, hd, hs, Value.category]
  exact hr
def QD (r : UInt64) (h0 : Heap) (n0 : Nat) (v : Option Value) (h : Heap) (L : List Loc) : Prop := v = some (.double r) ∧ Fr n0 L ∧ h = h0
def QR (r : Addr) (h0 : Heap) (n0 : Nat) (v : Option Value) (h : Heap) (L : List Loc) : Prop := v = some (.ref r) ∧ Fr n0 L ∧ h = h0
def QI (r : Int32) (h0 : Heap) (n0 : Nat) (v : Option Value) (h : Heap) (L : List Loc) : Prop := v = some (.int r) ∧ Fr n0 L ∧ h = h0
def QN (h0 : Heap) (n0 : Nat) (v : Option Value) (h : Heap) (L : List Loc) : Prop := v = none ∧ Fr n0 L ∧ h = h0
theorem own_h1 : decode prog_20_method_5_code 0 = .ok (.aload_n 0, 1) := by decide +kernel
theorem own_h2 : decode prog_20_method_5_code 1 = .ok (.getstatic 3, 3) := by decide +kernel
theorem own_h3 : decode prog_20_method_5_code 4 = .ok (.if_acmp .ne 9, 3) := by decide +kernel
theorem own_h4 : decode prog_20_method_5_code 7 = .ok (.dload_n 1, 1) := by decide +kernel
theorem own_h5 : decode prog_20_method_5_code 8 = .ok (.dstore 7, 2) := by decide +kernel
theorem own_h6 : decode prog_20_method_5_code 10 = .ok (.goto 20, 3) := by decide +kernel
theorem own_h7 : decode prog_20_method_5_code 13 = .ok (.aload_n 0, 1) := by decide +kernel
theorem own_h8 : decode prog_20_method_5_code 14 = .ok (.getstatic 7, 3) := by decide +kernel
theorem own_h9 : decode prog_20_method_5_code 17 = .ok (.if_acmp .ne 9, 3) := by decide +kernel
theorem own_h10 : decode prog_20_method_5_code 20 = .ok (.dload_n 3, 1) := by decide +kernel
theorem own_h11 : decode prog_20_method_5_code 21 = .ok (.dstore 7, 2) := by decide +kernel
theorem own_h12 : decode prog_20_method_5_code 23 = .ok (.goto 7, 3) := by decide +kernel
theorem own_h13 : decode prog_20_method_5_code 26 = .ok (.dload 5, 2) := by decide +kernel
theorem own_h14 : decode prog_20_method_5_code 28 = .ok (.dstore 7, 2) := by decide +kernel
theorem own_h15 : decode prog_20_method_5_code 30 = .ok (.dload 7, 2) := by decide +kernel
theorem own_h16 : decode prog_20_method_5_code 32 = .ok (.dreturn, 1) := by decide +kernel
theorem own_h17 : plainName "com/example/flueline/flueline/FFactor" = true := by first | (simp [plainName, overriddenIn]; done) | decide +kernel
theorem own_h18 : parseMethodDescriptor "(DDD)D" = some ⟨[.double, .double, .double], some .double⟩ := by decide +kernel
theorem own_h19 : parseMethodDescriptor "()Ljava/lang/String;" = some ⟨[], some (.object "java/lang/String")⟩ := by decide +kernel
theorem own_h20 : parseMethodDescriptor "()I" = some ⟨[], some .int⟩ := by decide +kernel
theorem own_h21 : parseMethodDescriptor "()B" = some ⟨[], some .byte⟩ := by decide +kernel
theorem own_h22 : parseMethodDescriptor "(I)C" = some ⟨[.int], some .char⟩ := by decide +kernel
theorem own_h23 : parseMethodDescriptor "()Z" = some ⟨[], some .boolean⟩ := by decide +kernel
theorem own_h24 : parseMethodDescriptor "([BI)C" = some ⟨[.array .byte, .int], some .char⟩ := by decide +kernel
theorem own_h25 : parseMethodDescriptor "(II)V" = some ⟨[.int, .int], none⟩ := by decide +kernel
theorem own_h26 : parseMethodDescriptor "(IILjava/util/function/BiFunction;)I" = some ⟨[.int, .int, .object "java/util/function/BiFunction"], some .int⟩ := by decide +kernel
set_option maxRecDepth 65536 in
set_option maxHeartbeats 40000000 in
theorem rmS0 (l : Launch) (Z : State) (a0 : Array Value) (hw : ∀ d ∈ tables_1, d.before a0 Z = true) (ws : List Jvm.Cond) (aD aW aC : Addr) (x y z : UInt64) (h0 : Heap) (n0 : Nat) (Z0 : n0 ≤ h0.size) (sD : Sta Z h0 "com/example/flueline/flueline/FFactor" "FD" "Lcom/example/flueline/flueline/FFactor;" (.ref aD)) (sW : Sta Z h0 "com/example/flueline/flueline/FFactor" "FW" "Lcom/example/flueline/flueline/FFactor;" (.ref aW)) (n1 : aW ≠ aD) (n2 : aC ≠ aD) (n3 : aC ≠ aW) :
    MetFree l (⟨"com/example/flueline/flueline/FFactor", "select", "(DDD)D"⟩ : MethodName) (head1 (Jvm.Cond.code (⟨"com/example/flueline/flueline/FFactor", "select", "(DDD)D"⟩ : MethodName) prog_20_method_5_code 9 (some .double) :: ws) ({ frames := 0, cells := 0, slots := 0, locals := 0 } : Room)) (fun ar_ U => ar_ = #[(.ref aD), (.double x), (.double y), (.double z)] ∧ Z.Warmed39 U.vm ∧ U.heap = h0) (fun _ _ _ _ _ => True) (fun _ U o U' => ∃ v L, o = .returned v ∧ QD x h0 n0 v U'.heap L ∧ FrameEnd U o U' L ({ frames := 0, cells := 0, slots := 0, locals := 0 } : Room).cells ({ frames := 0, cells := 0, slots := 0, locals := 0 } : Room).slots) := by
  refine MetFree.of_bodySF (plainFor_of_name own_h17) hisR ?_
  intro p e s m args below meth c s₁ Bd hml0 hP hK
  obtain ⟨rfl, hZ, hh⟩ := hP
  have hx := Bd.exec
  have hby := Bd.bytes
  have hml : c.maxLocals = 9 := hml0
  have hown : s.vm.findClass "com/example/flueline/flueline/FFactor" = some m.cls := findClass_of_methodNamed Bd.named
  have hnm := (name_of_methodNamed Bd.named Bd.method).1
  have X0 : Stand p l e ({ frames := 0, cells := 0, slots := 0, locals := 0 } : Room) s m #[(.ref aD), (.double x), (.double y), (.double z)] below meth c s₁ [] 0 0 := Stand.of_body Bd
  have e0 : s₁.heap = h0 := by rw [← hh, Bd.state]; rfl
  have N0 := Fr.nil n0
  have k0 : own_K p e below (s₁.setTop (mkF m 0 #[.val (.ref aD), .val (.double x), .second, .val (.double y), .second, .val (.double z), .second, .unset, .unset] [])) (s₁.setTop (entryFrame m #[(.ref aD), (.double x), (.double y), (.double z)] 9)) := fun t k => castTop (by clear k; first | (simp [entryFrame, mkF, argsToLocals, Value.category, maxLocals]; done) | rfl) k
  have k1 : own_K p e below (s₁.setTop (mkF m 1 #[.val (.ref aD), .val (.double x), .second, .val (.double y), .second, .val (.double z), .second, .unset, .unset] [(.ref aD)])) (s₁.setTop (entryFrame m #[(.ref aD), (.double x), (.double y), (.double z)] 9)) := fun t hh => k0 t (by
    refine XS.aloadN X0.here hx rfl (hb hby own_h1) rfl rfl ?_
    show Steps p.tables e below (s₁.setTop (mkF m 1 #[.val (.ref aD), .val (.double x), .second, .val (.double y), .second, .val (.double z), .second, .unset, .unset] [(.ref aD)])) _
    exact hh)
  obtain ⟨T1, X2, e3, st4⟩ := getS X0 hx hZ hown (host := "") (wT hw 9 rfl) Via.refl e0 sD (g := (mkF m 1 #[.val (.ref aD), .val (.double x), .second, .val (.double y), .second, .val (.double z), .second, .unset, .unset] [(.ref aD)])) rfl (hb hby own_h2)
  have k2 : own_K p e below (T1.setTop (mkF m 4 #[.val (.ref aD), .val (.double x), .second, .val (.double y), .second, .val (.double z), .second, .unset, .unset] [(.ref aD), (.ref aD)])) (s₁.setTop (entryFrame m #[(.ref aD), (.double x), (.double y), (.double z)] 9)) := fun t hh => k1 t (st4 t hh)
  have k3 : own_K p e below (T1.setTop (mkF m 32 #[.val (.ref aD), .val (.double x), .second, .val (.double y), .second, .val (.double z), .second, .val (.double x), .second] [(.double x)])) (s₁.setTop (entryFrame m #[(.ref aD), (.double x), (.double y), (.double z)] 9)) := fun t hh => k2 t (by
    refine RoadKit.acmp X2 hx (g := (mkF m 4 #[.val (.ref aD), .val (.double x), .second, .val (.double y), .second, .val (.double z), .second, .unset, .unset] [(.ref aD), (.ref aD)])) rfl (x := (.ref aD)) (y := (.ref aD)) rfl rfl (pc0 := 4) (pc' := 7) (same := true) rfl (hb hby own_h3) rfl (by simp) (by decide) (by decide) ?_
    show Steps p.tables e below (T1.setTop (mkF m 7 #[.val (.ref aD), .val (.double x), .second, .val (.double y), .second, .val (.double z), .second, .unset, .unset] [])) _
    refine XS.dloadN X2.here hx rfl (hb hby own_h4) rfl ?_
    show Steps p.tables e below (T1.setTop (mkF m 8 #[.val (.ref aD), .val (.double x), .second, .val (.double y), .second, .val (.double z), .second, .unset, .unset] [(.double x)])) _
    refine XS.dstore X2.here hx rfl (hb hby own_h5) rfl (l' := #[.val (.ref aD), .val (.double x), .second, .val (.double y), .second, .val (.double z), .second, .val (.double x), .second]) rfl ?_
    show Steps p.tables e below (T1.setTop (mkF m 10 #[.val (.ref aD), .val (.double x), .second, .val (.double y), .second, .val (.double z), .second, .val (.double x), .second] [])) _
    refine XS.goto X2.here hx rfl (pc0 := 10) (pc' := 30) rfl (hb hby own_h6) (by decide) (by decide) ?_
    show Steps p.tables e below (T1.setTop (mkF m 30 #[.val (.ref aD), .val (.double x), .second, .val (.double y), .second, .val (.double z), .second, .val (.double x), .second] [])) _
    refine XS.dload X2.here hx rfl (hb hby own_h15) rfl ?_
    show Steps p.tables e below (T1.setTop (mkF m 32 #[.val (.ref aD), .val (.double x), .second, .val (.double y), .second, .val (.double z), .second, .val (.double x), .second] [(.double x)])) _
    exact hh)
  obtain ⟨fs, hr, hrun, hended, hW, hsame⟩ := X2.leave (v := some (.double x)) (fun h => by rw [Bd.returns] at h; cases h)
  refine ⟨_, _, k3 _ (retOut X2 hx (t := .double) Bd.returns rfl (Or.inr (Or.inr (Or.inl ⟨rfl, rfl, _, rfl⟩))) (hb hby own_h16) hr), hrun, hended, _, _, rfl, ?_, ⟨_, rfl⟩, hW, hsame.mono (by decide) (by decide)⟩
  show QD x h0 n0 _ T1.heap _
  rw [e3]
  exact ⟨rfl, N0, rfl⟩
set_option maxRecDepth 65536 in
set_option maxHeartbeats 40000000 in
theorem rmS1 (l : Launch) (Z : State) (a0 : Array Value) (hw : ∀ d ∈ tables_1, d.before a0 Z = true) (ws : List Jvm.Cond) (aD aW aC : Addr) (x y z : UInt64) (h0 : Heap) (n0 : Nat) (Z0 : n0 ≤ h0.size) (sD : Sta Z h0 "com/example/flueline/flueline/FFactor" "FD" "Lcom/example/flueline/flueline/FFactor;" (.ref aD)) (sW : Sta Z h0 "com/example/flueline/flueline/FFactor" "FW" "Lcom/example/flueline/flueline/FFactor;" (.ref aW)) (n1 : aW ≠ aD) (n2 : aC ≠ aD) (n3 : aC ≠ aW) :
    MetFree l (⟨"com/example/flueline/flueline/FFactor", "select", "(DDD)D"⟩ : MethodName) (head1 (Jvm.Cond.code (⟨"com/example/flueline/flueline/FFactor", "select", "(DDD)D"⟩ : MethodName) prog_20_method_5_code 9 (some .double) :: ws) ({ frames := 0, cells := 0, slots := 0, locals := 0 } : Room)) (fun ar_ U => ar_ = #[(.ref aW), (.double x), (.double y), (.double z)] ∧ Z.Warmed39 U.vm ∧ U.heap = h0) (fun _ _ _ _ _ => True) (fun _ U o U' => ∃ v L, o = .returned v ∧ QD y h0 n0 v U'.heap L ∧ FrameEnd U o U' L ({ frames := 0, cells := 0, slots := 0, locals := 0 } : Room).cells ({ frames := 0, cells := 0, slots := 0, locals := 0 } : Room).slots) := by
  refine MetFree.of_bodySF (plainFor_of_name own_h17) hisR ?_
  intro p e s m args below meth c s₁ Bd hml0 hP hK
  obtain ⟨rfl, hZ, hh⟩ := hP
  have hx := Bd.exec
  have hby := Bd.bytes
  have hml : c.maxLocals = 9 := hml0
  have hown : s.vm.findClass "com/example/flueline/flueline/FFactor" = some m.cls := findClass_of_methodNamed Bd.named
  have hnm := (name_of_methodNamed Bd.named Bd.method).1
  have X0 : Stand p l e ({ frames := 0, cells := 0, slots := 0, locals := 0 } : Room) s m #[(.ref aW), (.double x), (.double y), (.double z)] below meth c s₁ [] 0 0 := Stand.of_body Bd
  have e0 : s₁.heap = h0 := by rw [← hh, Bd.state]; rfl
  have N0 := Fr.nil n0
  have k0 : own_K p e below (s₁.setTop (mkF m 0 #[.val (.ref aW), .val (.double x), .second, .val (.double y), .second, .val (.double z), .second, .unset, .unset] [])) (s₁.setTop (entryFrame m #[(.ref aW), (.double x), (.double y), (.double z)] 9)) := fun t k => castTop (by clear k; first | (simp [entryFrame, mkF, argsToLocals, Value.category, maxLocals]; done) | rfl) k
  have k1 : own_K p e below (s₁.setTop (mkF m 1 #[.val (.ref aW), .val (.double x), .second, .val (.double y), .second, .val (.double z), .second, .unset, .unset] [(.ref aW)])) (s₁.setTop (entryFrame m #[(.ref aW), (.double x), (.double y), (.double z)] 9)) := fun t hh => k0 t (by
    refine XS.aloadN X0.here hx rfl (hb hby own_h1) rfl rfl ?_
    show Steps p.tables e below (s₁.setTop (mkF m 1 #[.val (.ref aW), .val (.double x), .second, .val (.double y), .second, .val (.double z), .second, .unset, .unset] [(.ref aW)])) _
    exact hh)
  obtain ⟨T5, X6, e7, st8⟩ := getS X0 hx hZ hown (host := "") (wT hw 9 rfl) Via.refl e0 sD (g := (mkF m 1 #[.val (.ref aW), .val (.double x), .second, .val (.double y), .second, .val (.double z), .second, .unset, .unset] [(.ref aW)])) rfl (hb hby own_h2)
  have k2 : own_K p e below (T5.setTop (mkF m 4 #[.val (.ref aW), .val (.double x), .second, .val (.double y), .second, .val (.double z), .second, .unset, .unset] [(.ref aD), (.ref aW)])) (s₁.setTop (entryFrame m #[(.ref aW), (.double x), (.double y), (.double z)] 9)) := fun t hh => k1 t (st8 t hh)
  have k3 : own_K p e below (T5.setTop (mkF m 14 #[.val (.ref aW), .val (.double x), .second, .val (.double y), .second, .val (.double z), .second, .unset, .unset] [(.ref aW)])) (s₁.setTop (entryFrame m #[(.ref aW), (.double x), (.double y), (.double z)] 9)) := fun t hh => k2 t (by
    refine RoadKit.acmp X6 hx (g := (mkF m 4 #[.val (.ref aW), .val (.double x), .second, .val (.double y), .second, .val (.double z), .second, .unset, .unset] [(.ref aD), (.ref aW)])) rfl (x := (.ref aW)) (y := (.ref aD)) rfl rfl (pc0 := 4) (pc' := 13) (same := false) rfl (hb hby own_h3) rfl (by simp [n1]) (by decide) (by decide) ?_
    show Steps p.tables e below (T5.setTop (mkF m 13 #[.val (.ref aW), .val (.double x), .second, .val (.double y), .second, .val (.double z), .second, .unset, .unset] [])) _
    refine XS.aloadN X6.here hx rfl (hb hby own_h7) rfl rfl ?_
    show Steps p.tables e below (T5.setTop (mkF m 14 #[.val (.ref aW), .val (.double x), .second, .val (.double y), .second, .val (.double z), .second, .unset, .unset] [(.ref aW)])) _
    exact hh)
  obtain ⟨T9, X10, e11, st12⟩ := getS X6 hx hZ hown (host := "") (wT hw 57 rfl) Via.refl e7 sW (g := (mkF m 14 #[.val (.ref aW), .val (.double x), .second, .val (.double y), .second, .val (.double z), .second, .unset, .unset] [(.ref aW)])) rfl (hb hby own_h8)
  have k4 : own_K p e below (T9.setTop (mkF m 17 #[.val (.ref aW), .val (.double x), .second, .val (.double y), .second, .val (.double z), .second, .unset, .unset] [(.ref aW), (.ref aW)])) (s₁.setTop (entryFrame m #[(.ref aW), (.double x), (.double y), (.double z)] 9)) := fun t hh => k3 t (st12 t hh)
  have k5 : own_K p e below (T9.setTop (mkF m 32 #[.val (.ref aW), .val (.double x), .second, .val (.double y), .second, .val (.double z), .second, .val (.double y), .second] [(.double y)])) (s₁.setTop (entryFrame m #[(.ref aW), (.double x), (.double y), (.double z)] 9)) := fun t hh => k4 t (by
    refine RoadKit.acmp X10 hx (g := (mkF m 17 #[.val (.ref aW), .val (.double x), .second, .val (.double y), .second, .val (.double z), .second, .unset, .unset] [(.ref aW), (.ref aW)])) rfl (x := (.ref aW)) (y := (.ref aW)) rfl rfl (pc0 := 17) (pc' := 20) (same := true) rfl (hb hby own_h9) rfl (by simp) (by decide) (by decide) ?_
    show Steps p.tables e below (T9.setTop (mkF m 20 #[.val (.ref aW), .val (.double x), .second, .val (.double y), .second, .val (.double z), .second, .unset, .unset] [])) _
    refine XS.dloadN X10.here hx rfl (hb hby own_h10) rfl ?_
    show Steps p.tables e below (T9.setTop (mkF m 21 #[.val (.ref aW), .val (.double x), .second, .val (.double y), .second, .val (.double z), .second, .unset, .unset] [(.double y)])) _
    refine XS.dstore X10.here hx rfl (hb hby own_h11) rfl (l' := #[.val (.ref aW), .val (.double x), .second, .val (.double y), .second, .val (.double z), .second, .val (.double y), .second]) rfl ?_
    show Steps p.tables e below (T9.setTop (mkF m 23 #[.val (.ref aW), .val (.double x), .second, .val (.double y), .second, .val (.double z), .second, .val (.double y), .second] [])) _
    refine XS.goto X10.here hx rfl (pc0 := 23) (pc' := 30) rfl (hb hby own_h12) (by decide) (by decide) ?_
    show Steps p.tables e below (T9.setTop (mkF m 30 #[.val (.ref aW), .val (.double x), .second, .val (.double y), .second, .val (.double z), .second, .val (.double y), .second] [])) _
    refine XS.dload X10.here hx rfl (hb hby own_h15) rfl ?_
    show Steps p.tables e below (T9.setTop (mkF m 32 #[.val (.ref aW), .val (.double x), .second, .val (.double y), .second, .val (.double z), .second, .val (.double y), .second] [(.double y)])) _
    exact hh)
  obtain ⟨fs, hr, hrun, hended, hW, hsame⟩ := X10.leave (v := some (.double y)) (fun h => by rw [Bd.returns] at h; cases h)
  refine ⟨_, _, k5 _ (retOut X10 hx (t := .double) Bd.returns rfl (Or.inr (Or.inr (Or.inl ⟨rfl, rfl, _, rfl⟩))) (hb hby own_h16) hr), hrun, hended, _, _, rfl, ?_, ⟨_, rfl⟩, hW, hsame.mono (by decide) (by decide)⟩
  show QD y h0 n0 _ T9.heap _
  rw [e11]
  exact ⟨rfl, N0, rfl⟩
set_option maxRecDepth 65536 in
set_option maxHeartbeats 40000000 in
theorem rmS2 (l : Launch) (Z : State) (a0 : Array Value) (hw : ∀ d ∈ tables_1, d.before a0 Z = true) (ws : List Jvm.Cond) (aD aW aC : Addr) (x y z : UInt64) (h0 : Heap) (n0 : Nat) (Z0 : n0 ≤ h0.size) (sD : Sta Z h0 "com/example/flueline/flueline/FFactor" "FD" "Lcom/example/flueline/flueline/FFactor;" (.ref aD)) (sW : Sta Z h0 "com/example/flueline/flueline/FFactor" "FW" "Lcom/example/flueline/flueline/FFactor;" (.ref aW)) (n1 : aW ≠ aD) (n2 : aC ≠ aD) (n3 : aC ≠ aW) :
    MetFree l (⟨"com/example/flueline/flueline/FFactor", "select", "(DDD)D"⟩ : MethodName) (head1 (Jvm.Cond.code (⟨"com/example/flueline/flueline/FFactor", "select", "(DDD)D"⟩ : MethodName) prog_20_method_5_code 9 (some .double) :: ws) ({ frames := 0, cells := 0, slots := 0, locals := 0 } : Room)) (fun ar_ U => ar_ = #[(.ref aC), (.double x), (.double y), (.double z)] ∧ Z.Warmed39 U.vm ∧ U.heap = h0) (fun _ _ _ _ _ => True) (fun _ U o U' => ∃ v L, o = .returned v ∧ QD z h0 n0 v U'.heap L ∧ FrameEnd U o U' L ({ frames := 0, cells := 0, slots := 0, locals := 0 } : Room).cells ({ frames := 0, cells := 0, slots := 0, locals := 0 } : Room).slots) := by
  refine MetFree.of_bodySF (plainFor_of_name own_h17) hisR ?_
  intro p e s m args below meth c s₁ Bd hml0 hP hK
  obtain ⟨rfl, hZ, hh⟩ := hP
  have hx := Bd.exec
  have hby := Bd.bytes
  have hml : c.maxLocals = 9 := hml0
  have hown : s.vm.findClass "com/example/flueline/flueline/FFactor" = some m.cls := findClass_of_methodNamed Bd.named
  have hnm := (name_of_methodNamed Bd.named Bd.method).1
  have X0 : Stand p l e ({ frames := 0, cells := 0, slots := 0, locals := 0 } : Room) s m #[(.ref aC), (.double x), (.double y), (.double z)] below meth c s₁ [] 0 0 := Stand.of_body Bd
  have e0 : s₁.heap = h0 := by rw [← hh, Bd.state]; rfl
  have N0 := Fr.nil n0
  have k0 : own_K p e below (s₁.setTop (mkF m 0 #[.val (.ref aC), .val (.double x), .second, .val (.double y), .second, .val (.double z), .second, .unset, .unset] [])) (s₁.setTop (entryFrame m #[(.ref aC), (.double x), (.double y), (.double z)] 9)) := fun t k => castTop (by clear k; first | (simp [entryFrame, mkF, argsToLocals, Value.category, maxLocals]; done) | rfl) k
  have k1 : own_K p e below (s₁.setTop (mkF m 1 #[.val (.ref aC), .val (.double x), .second, .val (.double y), .second, .val (.double z), .second, .unset, .unset] [(.ref aC)])) (s₁.setTop (entryFrame m #[(.ref aC), (.double x), (.double y), (.double z)] 9)) := fun t hh => k0 t (by
    refine XS.aloadN X0.here hx rfl (hb hby own_h1) rfl rfl ?_
    show Steps p.tables e below (s₁.setTop (mkF m 1 #[.val (.ref aC), .val (.double x), .second, .val (.double y), .second, .val (.double z), .second, .unset, .unset] [(.ref aC)])) _
    exact hh)
  obtain ⟨T13, X14, e15, st16⟩ := getS X0 hx hZ hown (host := "") (wT hw 9 rfl) Via.refl e0 sD (g := (mkF m 1 #[.val (.ref aC), .val (.double x), .second, .val (.double y), .second, .val (.double z), .second, .unset, .unset] [(.ref aC)])) rfl (hb hby own_h2)
  have k2 : own_K p e below (T13.setTop (mkF m 4 #[.val (.ref aC), .val (.double x), .second, .val (.double y), .second, .val (.double z), .second, .unset, .unset] [(.ref aD), (.ref aC)])) (s₁.setTop (entryFrame m #[(.ref aC), (.double x), (.double y), (.double z)] 9)) := fun t hh => k1 t (st16 t hh)
  have k3 : own_K p e below (T13.setTop (mkF m 14 #[.val (.ref aC), .val (.double x), .second, .val (.double y), .second, .val (.double z), .second, .unset, .unset] [(.ref aC)])) (s₁.setTop (entryFrame m #[(.ref aC), (.double x), (.double y), (.double z)] 9)) := fun t hh => k2 t (by
    refine RoadKit.acmp X14 hx (g := (mkF m 4 #[.val (.ref aC), .val (.double x), .second, .val (.double y), .second, .val (.double z), .second, .unset, .unset] [(.ref aD), (.ref aC)])) rfl (x := (.ref aC)) (y := (.ref aD)) rfl rfl (pc0 := 4) (pc' := 13) (same := false) rfl (hb hby own_h3) rfl (by simp [n2]) (by decide) (by decide) ?_
    show Steps p.tables e below (T13.setTop (mkF m 13 #[.val (.ref aC), .val (.double x), .second, .val (.double y), .second, .val (.double z), .second, .unset, .unset] [])) _
    refine XS.aloadN X14.here hx rfl (hb hby own_h7) rfl rfl ?_
    show Steps p.tables e below (T13.setTop (mkF m 14 #[.val (.ref aC), .val (.double x), .second, .val (.double y), .second, .val (.double z), .second, .unset, .unset] [(.ref aC)])) _
    exact hh)
  obtain ⟨T17, X18, e19, st20⟩ := getS X14 hx hZ hown (host := "") (wT hw 57 rfl) Via.refl e15 sW (g := (mkF m 14 #[.val (.ref aC), .val (.double x), .second, .val (.double y), .second, .val (.double z), .second, .unset, .unset] [(.ref aC)])) rfl (hb hby own_h8)
  have k4 : own_K p e below (T17.setTop (mkF m 17 #[.val (.ref aC), .val (.double x), .second, .val (.double y), .second, .val (.double z), .second, .unset, .unset] [(.ref aW), (.ref aC)])) (s₁.setTop (entryFrame m #[(.ref aC), (.double x), (.double y), (.double z)] 9)) := fun t hh => k3 t (st20 t hh)
  have k5 : own_K p e below (T17.setTop (mkF m 32 #[.val (.ref aC), .val (.double x), .second, .val (.double y), .second, .val (.double z), .second, .val (.double z), .second] [(.double z)])) (s₁.setTop (entryFrame m #[(.ref aC), (.double x), (.double y), (.double z)] 9)) := fun t hh => k4 t (by
    refine RoadKit.acmp X18 hx (g := (mkF m 17 #[.val (.ref aC), .val (.double x), .second, .val (.double y), .second, .val (.double z), .second, .unset, .unset] [(.ref aW), (.ref aC)])) rfl (x := (.ref aC)) (y := (.ref aW)) rfl rfl (pc0 := 17) (pc' := 26) (same := false) rfl (hb hby own_h9) rfl (by simp [n3]) (by decide) (by decide) ?_
    show Steps p.tables e below (T17.setTop (mkF m 26 #[.val (.ref aC), .val (.double x), .second, .val (.double y), .second, .val (.double z), .second, .unset, .unset] [])) _
    refine XS.dload X18.here hx rfl (hb hby own_h13) rfl ?_
    show Steps p.tables e below (T17.setTop (mkF m 28 #[.val (.ref aC), .val (.double x), .second, .val (.double y), .second, .val (.double z), .second, .unset, .unset] [(.double z)])) _
    refine XS.dstore X18.here hx rfl (hb hby own_h14) rfl (l' := #[.val (.ref aC), .val (.double x), .second, .val (.double y), .second, .val (.double z), .second, .val (.double z), .second]) rfl ?_
    show Steps p.tables e below (T17.setTop (mkF m 30 #[.val (.ref aC), .val (.double x), .second, .val (.double y), .second, .val (.double z), .second, .val (.double z), .second] [])) _
    refine XS.dload X18.here hx rfl (hb hby own_h15) rfl ?_
    show Steps p.tables e below (T17.setTop (mkF m 32 #[.val (.ref aC), .val (.double x), .second, .val (.double y), .second, .val (.double z), .second, .val (.double z), .second] [(.double z)])) _
    exact hh)
  obtain ⟨fs, hr, hrun, hended, hW, hsame⟩ := X18.leave (v := some (.double z)) (fun h => by rw [Bd.returns] at h; cases h)
  refine ⟨_, _, k5 _ (retOut X18 hx (t := .double) Bd.returns rfl (Or.inr (Or.inr (Or.inl ⟨rfl, rfl, _, rfl⟩))) (hb hby own_h16) hr), hrun, hended, _, _, rfl, ?_, ⟨_, rfl⟩, hW, hsame.mono (by decide) (by decide)⟩
  show QD z h0 n0 _ T17.heap _
  rw [e19]
  exact ⟨rfl, N0, rfl⟩
theorem own_h27 : decode prog_20_method_4_code 0 = .ok (.aload_n 0, 1) := by decide +kernel
theorem own_h28 : decode prog_20_method_4_code 1 = .ok (.getfield 32, 3) := by decide +kernel
theorem own_h29 : decode prog_20_method_4_code 4 = .ok (.areturn, 1) := by decide +kernel
set_option maxRecDepth 65536 in
set_option maxHeartbeats 40000000 in
theorem rmP (l : Launch) (Z : State) (a0 : Array Value) (hw : ∀ d ∈ tables_1, d.before a0 Z = true) (ws : List Jvm.Cond) (a k : Addr) (h0 : Heap) (n0 : Nat) (Z0 : n0 ≤ h0.size) (F1 : Fld Z h0 a "com/example/flueline/flueline/FFactor" "planKey" "Ljava/lang/String;" (.ref k)) :
    MetFree l (⟨"com/example/flueline/flueline/FFactor", "planKey", "()Ljava/lang/String;"⟩ : MethodName) (head1 (Jvm.Cond.code (⟨"com/example/flueline/flueline/FFactor", "planKey", "()Ljava/lang/String;"⟩ : MethodName) prog_20_method_4_code 1 (some (.object "java/lang/String")) :: ws) ({ frames := 0, cells := 0, slots := 0, locals := 0 } : Room)) (fun ar_ U => ar_ = #[(.ref a)] ∧ Z.Warmed39 U.vm ∧ U.heap = h0) (fun _ _ _ _ _ => True) (fun _ U o U' => ∃ v L, o = .returned v ∧ QR k h0 n0 v U'.heap L ∧ FrameEnd U o U' L ({ frames := 0, cells := 0, slots := 0, locals := 0 } : Room).cells ({ frames := 0, cells := 0, slots := 0, locals := 0 } : Room).slots) := by
  refine MetFree.of_bodySF (plainFor_of_name own_h17) hisR ?_
  intro p e s m args below meth c s₁ Bd hml0 hP hK
  obtain ⟨rfl, hZ, hh⟩ := hP
  have hx := Bd.exec
  have hby := Bd.bytes
  have hml : c.maxLocals = 1 := hml0
  have hown : s.vm.findClass "com/example/flueline/flueline/FFactor" = some m.cls := findClass_of_methodNamed Bd.named
  have hnm := (name_of_methodNamed Bd.named Bd.method).1
  have X0 : Stand p l e ({ frames := 0, cells := 0, slots := 0, locals := 0 } : Room) s m #[(.ref a)] below meth c s₁ [] 0 0 := Stand.of_body Bd
  have e0 : s₁.heap = h0 := by rw [← hh, Bd.state]; rfl
  have N0 := Fr.nil n0
  have k0 : own_K p e below (s₁.setTop (mkF m 0 #[.val (.ref a)] [])) (s₁.setTop (entryFrame m #[(.ref a)] 1)) := fun t k => castTop (by clear k; first | (simp [entryFrame, mkF, argsToLocals, Value.category, maxLocals]; done) | rfl) k
  have k1 : own_K p e below (s₁.setTop (mkF m 1 #[.val (.ref a)] [(.ref a)])) (s₁.setTop (entryFrame m #[(.ref a)] 1)) := fun t hh => k0 t (by
    refine XS.aloadN X0.here hx rfl (hb hby own_h27) rfl rfl ?_
    show Steps p.tables e below (s₁.setTop (mkF m 1 #[.val (.ref a)] [(.ref a)])) _
    exact hh)
  obtain ⟨T21, X22, e23, st24⟩ := getF X0 hx hZ hown (host := "") (Or.inl (wT hw 15 rfl)) Via.refl e0 F1 (g := (mkF m 1 #[.val (.ref a)] [(.ref a)])) rfl rfl (hb hby own_h28)
  have k2 : own_K p e below (T21.setTop (mkF m 4 #[.val (.ref a)] [(.ref k)])) (s₁.setTop (entryFrame m #[(.ref a)] 1)) := fun t hh => k1 t (st24 t hh)
  obtain ⟨fs, hr, hrun, hended, hW, hsame⟩ := X22.leave (v := some (.ref k)) (fun h => by rw [Bd.returns] at h; cases h)
  refine ⟨_, _, k2 _ (retOut X22 hx (t := .object "java/lang/String") Bd.returns rfl (Or.inr (Or.inr (Or.inr (Or.inr ⟨rfl, rfl, rfl⟩)))) (hb hby own_h29) hr), hrun, hended, _, _, rfl, ?_, ⟨_, rfl⟩, hW, hsame.mono (by decide) (by decide)⟩
  show QR k h0 n0 _ T21.heap _
  rw [e23]
  exact ⟨rfl, N0, rfl⟩
theorem own_h30 : decode jdk_42_method_152_code 0 = .ok (.getstatic 38, 3) := by decide +kernel
theorem own_h31 : decode jdk_42_method_152_code 3 = .ok (.ifCond .eq 10, 3) := by decide +kernel
theorem own_h32 : decode jdk_42_method_152_code 6 = .ok (.aload_n 0, 1) := by decide +kernel
theorem own_h33 : decode jdk_42_method_152_code 7 = .ok (.getfield 15, 3) := by decide +kernel
theorem own_h34 : decode jdk_42_method_152_code 10 = .ok (.goto 4, 3) := by decide +kernel
theorem own_h35 : decode jdk_42_method_152_code 13 = .ok (.iconst 1, 1) := by decide +kernel
theorem own_h36 : decode jdk_42_method_152_code 14 = .ok (.ireturn, 1) := by decide +kernel
theorem own_h37 : plainName "java/lang/String" = true := by first | (simp [plainName, overriddenIn]; done) | decide +kernel
set_option maxRecDepth 65536 in
set_option maxHeartbeats 40000000 in
theorem rmCo (l : Launch) (Z : State) (a0 : Array Value) (hw : ∀ d ∈ tables_1, d.before a0 Z = true) (ws : List Jvm.Cond) (a : Addr) (h0 : Heap) (n0 : Nat) (Z0 : n0 ≤ h0.size) (ci : Int32) (sC : Sta Z h0 "java/lang/String" "COMPACT_STRINGS" "Z" (.int ci)) (hc : ¬ ci = 0) (Fc : Fld Z h0 a "java/lang/String" "coder" "B" (.int (0 : Int32))) :
    MetFree l (⟨"java/lang/String", "coder", "()B"⟩ : MethodName) (head1 (Jvm.Cond.code (⟨"java/lang/String", "coder", "()B"⟩ : MethodName) jdk_42_method_152_code 1 (some .byte) :: ws) ({ frames := 0, cells := 0, slots := 0, locals := 0 } : Room)) (fun ar_ U => ar_ = #[(.ref a)] ∧ Z.Warmed39 U.vm ∧ U.heap = h0) (fun _ _ _ _ _ => True) (fun _ U o U' => ∃ v L, o = .returned v ∧ QI (0 : Int32) h0 n0 v U'.heap L ∧ FrameEnd U o U' L ({ frames := 0, cells := 0, slots := 0, locals := 0 } : Room).cells ({ frames := 0, cells := 0, slots := 0, locals := 0 } : Room).slots) := by
  refine MetFree.of_bodySF (plainFor_of_name own_h37) hisR ?_
  intro p e s m args below meth c s₁ Bd hml0 hP hK
  obtain ⟨rfl, hZ, hh⟩ := hP
  have hx := Bd.exec
  have hby := Bd.bytes
  have hml : c.maxLocals = 1 := hml0
  have hown : s.vm.findClass "java/lang/String" = some m.cls := findClass_of_methodNamed Bd.named
  have hnm := (name_of_methodNamed Bd.named Bd.method).1
  have X0 : Stand p l e ({ frames := 0, cells := 0, slots := 0, locals := 0 } : Room) s m #[(.ref a)] below meth c s₁ [] 0 0 := Stand.of_body Bd
  have e0 : s₁.heap = h0 := by rw [← hh, Bd.state]; rfl
  have N0 := Fr.nil n0
  have k0 : own_K p e below (s₁.setTop (mkF m 0 #[.val (.ref a)] [])) (s₁.setTop (entryFrame m #[(.ref a)] 1)) := fun t k => castTop (by clear k; first | (simp [entryFrame, mkF, argsToLocals, Value.category, maxLocals]; done) | rfl) k
  obtain ⟨T25, X26, e27, st28⟩ := getS X0 hx hZ hown (host := "") (wT hw 30 rfl) Via.refl e0 sC (g := (mkF m 0 #[.val (.ref a)] [])) rfl (hb hby own_h30)
  have k1 : own_K p e below (T25.setTop (mkF m 3 #[.val (.ref a)] [(.int ci)])) (s₁.setTop (entryFrame m #[(.ref a)] 1)) := fun t hh => k0 t (st28 t hh)
  have k2 : own_K p e below (T25.setTop (mkF m 7 #[.val (.ref a)] [(.ref a)])) (s₁.setTop (entryFrame m #[(.ref a)] 1)) := fun t hh => k1 t (by
    refine XS.ifNo X26.here hx rfl (hb hby own_h31) rfl (own_ifF_eq hc) ?_
    show Steps p.tables e below (T25.setTop (mkF m 6 #[.val (.ref a)] [])) _
    refine XS.aloadN X26.here hx rfl (hb hby own_h32) rfl rfl ?_
    show Steps p.tables e below (T25.setTop (mkF m 7 #[.val (.ref a)] [(.ref a)])) _
    exact hh)
  obtain ⟨T29, X30, e31, st32⟩ := getF X26 hx hZ hown (host := "") (Or.inl (wT hw 31 rfl)) Via.refl e27 Fc (g := (mkF m 7 #[.val (.ref a)] [(.ref a)])) rfl rfl (hb hby own_h33)
  have k3 : own_K p e below (T29.setTop (mkF m 10 #[.val (.ref a)] [(.int (0 : Int32))])) (s₁.setTop (entryFrame m #[(.ref a)] 1)) := fun t hh => k2 t (st32 t hh)
  have k4 : own_K p e below (T29.setTop (mkF m 14 #[.val (.ref a)] [(.int (0 : Int32))])) (s₁.setTop (entryFrame m #[(.ref a)] 1)) := fun t hh => k3 t (by
    refine XS.goto X30.here hx rfl (pc0 := 10) (pc' := 14) rfl (hb hby own_h34) (by decide) (by decide) ?_
    show Steps p.tables e below (T29.setTop (mkF m 14 #[.val (.ref a)] [(.int (0 : Int32))])) _
    exact hh)
  obtain ⟨fs, hr, hrun, hended, hW, hsame⟩ := X30.leave (v := some (.int (0 : Int32))) (fun h => by rw [Bd.returns] at h; cases h)
  refine ⟨_, _, k4 _ (retN X30 hx (t := .byte) Bd.returns (by simp) (hb hby own_h36) hr), hrun, hended, _, _, rfl, ?_, ⟨_, rfl⟩, hW, hsame.mono (by decide) (by decide)⟩
  show QI (0 : Int32) h0 n0 _ T29.heap _
  rw [e31]
  exact ⟨rfl, N0, rfl⟩
theorem own_h38 : decode jdk_42_method_154_code 0 = .ok (.getstatic 38, 3) := by decide +kernel
theorem own_h39 : decode jdk_42_method_154_code 3 = .ok (.ifCond .eq 14, 3) := by decide +kernel
theorem own_h40 : decode jdk_42_method_154_code 6 = .ok (.aload_n 0, 1) := by decide +kernel
theorem own_h41 : decode jdk_42_method_154_code 7 = .ok (.getfield 15, 3) := by decide +kernel
theorem own_h42 : decode jdk_42_method_154_code 10 = .ok (.ifCond .ne 7, 3) := by decide +kernel
theorem own_h43 : decode jdk_42_method_154_code 13 = .ok (.iconst 1, 1) := by decide +kernel
theorem own_h44 : decode jdk_42_method_154_code 14 = .ok (.goto 4, 3) := by decide +kernel
theorem own_h45 : decode jdk_42_method_154_code 17 = .ok (.iconst 0, 1) := by decide +kernel
theorem own_h46 : decode jdk_42_method_154_code 18 = .ok (.ireturn, 1) := by decide +kernel
set_option maxRecDepth 65536 in
set_option maxHeartbeats 40000000 in
theorem rmLa (l : Launch) (Z : State) (a0 : Array Value) (hw : ∀ d ∈ tables_1, d.before a0 Z = true) (ws : List Jvm.Cond) (a : Addr) (h0 : Heap) (n0 : Nat) (Z0 : n0 ≤ h0.size) (ci : Int32) (sC : Sta Z h0 "java/lang/String" "COMPACT_STRINGS" "Z" (.int ci)) (hc : ¬ ci = 0) (Fc : Fld Z h0 a "java/lang/String" "coder" "B" (.int (0 : Int32))) :
    MetFree l (⟨"java/lang/String", "isLatin1", "()Z"⟩ : MethodName) (head1 (Jvm.Cond.code (⟨"java/lang/String", "isLatin1", "()Z"⟩ : MethodName) jdk_42_method_154_code 1 (some .boolean) :: ws) ({ frames := 0, cells := 0, slots := 0, locals := 0 } : Room)) (fun ar_ U => ar_ = #[(.ref a)] ∧ Z.Warmed39 U.vm ∧ U.heap = h0) (fun _ _ _ _ _ => True) (fun _ U o U' => ∃ v L, o = .returned v ∧ QI (1 : Int32) h0 n0 v U'.heap L ∧ FrameEnd U o U' L ({ frames := 0, cells := 0, slots := 0, locals := 0 } : Room).cells ({ frames := 0, cells := 0, slots := 0, locals := 0 } : Room).slots) := by
  refine MetFree.of_bodySF (plainFor_of_name own_h37) hisR ?_
  intro p e s m args below meth c s₁ Bd hml0 hP hK
  obtain ⟨rfl, hZ, hh⟩ := hP
  have hx := Bd.exec
  have hby := Bd.bytes
  have hml : c.maxLocals = 1 := hml0
  have hown : s.vm.findClass "java/lang/String" = some m.cls := findClass_of_methodNamed Bd.named
  have hnm := (name_of_methodNamed Bd.named Bd.method).1
  have X0 : Stand p l e ({ frames := 0, cells := 0, slots := 0, locals := 0 } : Room) s m #[(.ref a)] below meth c s₁ [] 0 0 := Stand.of_body Bd
  have e0 : s₁.heap = h0 := by rw [← hh, Bd.state]; rfl
  have N0 := Fr.nil n0
  have k0 : own_K p e below (s₁.setTop (mkF m 0 #[.val (.ref a)] [])) (s₁.setTop (entryFrame m #[(.ref a)] 1)) := fun t k => castTop (by clear k; first | (simp [entryFrame, mkF, argsToLocals, Value.category, maxLocals]; done) | rfl) k
  obtain ⟨T33, X34, e35, st36⟩ := getS X0 hx hZ hown (host := "") (wT hw 30 rfl) Via.refl e0 sC (g := (mkF m 0 #[.val (.ref a)] [])) rfl (hb hby own_h38)
  have k1 : own_K p e below (T33.setTop (mkF m 3 #[.val (.ref a)] [(.int ci)])) (s₁.setTop (entryFrame m #[(.ref a)] 1)) := fun t hh => k0 t (st36 t hh)
  have k2 : own_K p e below (T33.setTop (mkF m 7 #[.val (.ref a)] [(.ref a)])) (s₁.setTop (entryFrame m #[(.ref a)] 1)) := fun t hh => k1 t (by
    refine XS.ifNo X34.here hx rfl (hb hby own_h39) rfl (own_ifF_eq hc) ?_
    show Steps p.tables e below (T33.setTop (mkF m 6 #[.val (.ref a)] [])) _
    refine XS.aloadN X34.here hx rfl (hb hby own_h40) rfl rfl ?_
    show Steps p.tables e below (T33.setTop (mkF m 7 #[.val (.ref a)] [(.ref a)])) _
    exact hh)
  obtain ⟨T37, X38, e39, st40⟩ := getF X34 hx hZ hown (host := "") (Or.inl (wT hw 31 rfl)) Via.refl e35 Fc (g := (mkF m 7 #[.val (.ref a)] [(.ref a)])) rfl rfl (hb hby own_h41)
  have k3 : own_K p e below (T37.setTop (mkF m 10 #[.val (.ref a)] [(.int (0 : Int32))])) (s₁.setTop (entryFrame m #[(.ref a)] 1)) := fun t hh => k2 t (st40 t hh)
  have k4 : own_K p e below (T37.setTop (mkF m 18 #[.val (.ref a)] [(.int (1 : Int32))])) (s₁.setTop (entryFrame m #[(.ref a)] 1)) := fun t hh => k3 t (by
    refine XS.ifNo X38.here hx rfl (hb hby own_h42) rfl (by decide) ?_
    show Steps p.tables e below (T37.setTop (mkF m 13 #[.val (.ref a)] [])) _
    refine XS.iconst X38.here hx rfl (hb hby own_h43) ?_
    show Steps p.tables e below (T37.setTop (mkF m 14 #[.val (.ref a)] [(.int (1 : Int32))])) _
    refine XS.goto X38.here hx rfl (pc0 := 14) (pc' := 18) rfl (hb hby own_h44) (by decide) (by decide) ?_
    show Steps p.tables e below (T37.setTop (mkF m 18 #[.val (.ref a)] [(.int (1 : Int32))])) _
    exact hh)
  obtain ⟨fs, hr, hrun, hended, hW, hsame⟩ := X38.leave (v := some (.int (1 : Int32))) (fun h => by rw [Bd.returns] at h; cases h)
  refine ⟨_, _, k4 _ (retN X38 hx (t := .boolean) Bd.returns (by simp) (hb hby own_h46) hr), hrun, hended, _, _, rfl, ?_, ⟨_, rfl⟩, hW, hsame.mono (by decide) (by decide)⟩
  show QI (1 : Int32) h0 n0 _ T37.heap _
  rw [e39]
  exact ⟨rfl, N0, rfl⟩
theorem own_h47 : decode jdk_42_method_54_code 0 = .ok (.aload_n 0, 1) := by decide +kernel
theorem own_h48 : decode jdk_42_method_54_code 1 = .ok (.getfield 9, 3) := by decide +kernel
theorem own_h49 : decode jdk_42_method_54_code 4 = .ok (.arraylength, 1) := by decide +kernel
theorem own_h50 : decode jdk_42_method_54_code 5 = .ok (.aload_n 0, 1) := by decide +kernel
theorem own_h51 : decode jdk_42_method_54_code 6 = .ok (.invokevirtual 335, 3) := by decide +kernel
theorem own_h52 : decode jdk_42_method_54_code 9 = .ok (.ishr, 1) := by decide +kernel
theorem own_h53 : decode jdk_42_method_54_code 10 = .ok (.ireturn, 1) := by decide +kernel
set_option maxRecDepth 65536 in
set_option maxHeartbeats 40000000 in
theorem rmLe (l : Launch) (Z : State) (a0 : Array Value) (hw : ∀ d ∈ tables_1, d.before a0 Z = true) (ws : List Jvm.Cond) (a : Addr) (h0 : Heap) (n0 : Nat) (Z0 : n0 ≤ h0.size) (ci : Int32) (sC : Sta Z h0 "java/lang/String" "COMPACT_STRINGS" "Z" (.int ci)) (hc : ¬ ci = 0) (Fc : Fld Z h0 a "java/lang/String" "coder" "B" (.int (0 : Int32))) (b : Addr) (kb : ClassId) (c0 c1 : Int32) (Es : Exa Z h0 a "java/lang/String") (Fv : Fld Z h0 a "java/lang/String" "value" "[B" (.ref b)) (Ab : Arv Z h0 b kb .byte (2 : Int32) [.int c0, .int c1] (.int (0 : Int32))) :
    MetFree l (⟨"java/lang/String", "length", "()I"⟩ : MethodName) (head1 (Jvm.Cond.code (⟨"java/lang/String", "length", "()I"⟩ : MethodName) jdk_42_method_54_code 1 (some .int) :: ws) ({ frames := 1, cells := 0, slots := 0, locals := 13 } : Room)) (fun ar_ U => ar_ = #[(.ref a)] ∧ Z.Warmed39 U.vm ∧ U.heap = h0) (fun _ _ _ _ _ => True) (fun _ U o U' => ∃ v L, o = .returned v ∧ QI ((2 : Int32) >>> ((0 : Int32) &&& 31)) h0 n0 v U'.heap L ∧ FrameEnd U o U' L ({ frames := 1, cells := 0, slots := 0, locals := 13 } : Room).cells ({ frames := 1, cells := 0, slots := 0, locals := 13 } : Room).slots) := by
  refine MetFree.of_bodySF (plainFor_of_name own_h37) hisR ?_
  intro p e s m args below meth c s₁ Bd hml0 hP hK
  obtain ⟨rfl, hZ, hh⟩ := hP
  have hx := Bd.exec
  have hby := Bd.bytes
  have hml : c.maxLocals = 1 := hml0
  have hown : s.vm.findClass "java/lang/String" = some m.cls := findClass_of_methodNamed Bd.named
  have hnm := (name_of_methodNamed Bd.named Bd.method).1
  have X0 : Stand p l e ({ frames := 1, cells := 0, slots := 0, locals := 13 } : Room) s m #[(.ref a)] below meth c s₁ [] 0 0 := Stand.of_body Bd
  have e0 : s₁.heap = h0 := by rw [← hh, Bd.state]; rfl
  have N0 := Fr.nil n0
  have k0 : own_K p e below (s₁.setTop (mkF m 0 #[.val (.ref a)] [])) (s₁.setTop (entryFrame m #[(.ref a)] 1)) := fun t k => castTop (by clear k; first | (simp [entryFrame, mkF, argsToLocals, Value.category, maxLocals]; done) | rfl) k
  have k1 : own_K p e below (s₁.setTop (mkF m 1 #[.val (.ref a)] [(.ref a)])) (s₁.setTop (entryFrame m #[(.ref a)] 1)) := fun t hh => k0 t (by
    refine XS.aloadN X0.here hx rfl (hb hby own_h47) rfl rfl ?_
    show Steps p.tables e below (s₁.setTop (mkF m 1 #[.val (.ref a)] [(.ref a)])) _
    exact hh)
  obtain ⟨T41, X42, e43, st44⟩ := getF X0 hx hZ hown (host := "") (Or.inl (wT hw 23 rfl)) Via.refl e0 Fv (g := (mkF m 1 #[.val (.ref a)] [(.ref a)])) rfl rfl (hb hby own_h48)
  have k2 : own_K p e below (T41.setTop (mkF m 4 #[.val (.ref a)] [(.ref b)])) (s₁.setTop (entryFrame m #[(.ref a)] 1)) := fun t hh => k1 t (st44 t hh)
  obtain ⟨cl45, Ar46, -, S47, Ng48, -, -⟩ := id Ab
  have k3 : own_K p e below (T41.setTop (mkF m 6 #[.val (.ref a)] [(.ref a), (.int (2 : Int32))])) (s₁.setTop (entryFrame m #[(.ref a)] 1)) := fun t hh => k2 t (by
    refine X42.arraylength hx (by rw [e43]; exact Ar46.1) (State.isArrayOf_alike hZ.alike Ar46.2.1) (g := (mkF m 4 #[.val (.ref a)] [(.ref b)])) rfl rfl (hb hby own_h49) _ ?_
    rw [len_of S47 Ng48]
    show Steps p.tables e below (T41.setTop (mkF m 5 #[.val (.ref a)] [(.int (2 : Int32))])) _
    refine XS.aloadN X42.here hx rfl (hb hby own_h50) rfl rfl ?_
    show Steps p.tables e below (T41.setTop (mkF m 6 #[.val (.ref a)] [(.ref a), (.int (2 : Int32))])) _
    exact hh)
  obtain ⟨cq60, kq61, qa62, qb63, qc64⟩ := isOf hZ e43 Es
  obtain ⟨_, _, ⟨T49, L50, k_51, n_52⟩, -, X53, ⟨Lc54, hQ55, l_56, y_57, z_58⟩, st59⟩ := X42.virtualBack hx (y := (⟨"java/lang/String", "coder", "()B"⟩ : MethodName)) (z := (⟨"java/lang/String", "coder", "()B"⟩ : MethodName)) hown (mvT hZ (wT hw 25 rfl)) (mvT hZ (wT hw 26 rfl)) (notFace_of_selects (args := #[]) (mvT hZ (wT hw 28 rfl))) (mvT hZ (wT hw 28 rfl)) (mvT hZ (wT hw 27 rfl)) (by decide) (backOf (W := 1) (rmCo l Z a0 hw [] a h0 n0 Z0 ci sC hc Fc) hZ (wT hw 29 rfl) (wT hw 21 rfl) (by decide) (by decide)) qa62 qc64 (g := (mkF m 6 #[.val (.ref a)] [(.ref a), (.int (2 : Int32))])) rfl (by rw [hml]; rfl) (Steps.refl _) (argsL := []) (rest := [(.int (2 : Int32))]) (lenOf own_h21 rfl) rfl (by show 2 * 0 + _ ≤ _; exact Nat.le_of_eq rfl) (hb hby own_h51) (fun _ _ => ⟨rfl, e43, (by decide : 0 + 0 ≤ _), (by decide : 0 + 0 ≤ _)⟩)
  dsimp only [Pt.U, Pt.locs, Pt.cells, Pt.slots] at X53 l_56 y_57 z_58 st59 hQ55
  subst l_56 y_57 z_58
  obtain ⟨rfl, N65, e66⟩ := hQ55
  have N67 := Fr.app N0 N65
  have k4 : own_K p e below (T49.setTop (mkF m 9 #[.val (.ref a)] [(.int (0 : Int32)), (.int (2 : Int32))])) (s₁.setTop (entryFrame m #[(.ref a)] 1)) := fun t hh => k3 t (st59.trans hh)
  have k5 : own_K p e below (T49.setTop (mkF m 10 #[.val (.ref a)] [(.int (2 : Int32))])) (s₁.setTop (entryFrame m #[(.ref a)] 1)) := fun t hh => k4 t (by
    refine XS.ishr X53.here hx rfl (hb hby own_h52) rfl ?_
    show Steps p.tables e below (T49.setTop (mkF m 10 #[.val (.ref a)] [(.int (2 : Int32))])) _
    exact hh)
  obtain ⟨fs, hr, hrun, hended, hW, hsame⟩ := X53.leave (v := some (.int (2 : Int32))) (fun h => by rw [Bd.returns] at h; cases h)
  refine ⟨_, _, k5 _ (retOut X53 hx (t := .int) Bd.returns rfl (Or.inl ⟨rfl, (by simp), _, rfl⟩) (hb hby own_h53) hr), hrun, hended, _, _, rfl, ?_, ⟨_, rfl⟩, hW, hsame.mono (by decide) (by decide)⟩
  show QI ((2 : Int32) >>> ((0 : Int32) &&& 31)) h0 n0 _ T49.heap _
  rw [e66]
  exact ⟨rfl, N67, rfl⟩
theorem own_h54 : decode jdk_41_method_11_code 0 = .ok (.iload_n 0, 1) := by decide +kernel
theorem own_h55 : decode jdk_41_method_11_code 1 = .ok (.ifCond .lt 8, 3) := by decide +kernel
theorem own_h56 : decode jdk_41_method_11_code 4 = .ok (.iload_n 0, 1) := by decide +kernel
theorem own_h57 : decode jdk_41_method_11_code 5 = .ok (.iload_n 1, 1) := by decide +kernel
theorem own_h58 : decode jdk_41_method_11_code 6 = .ok (.if_icmp .lt 10, 3) := by decide +kernel
theorem own_h59 : decode jdk_41_method_11_code 9 = .ok (.aload_n 2, 1) := by decide +kernel
theorem own_h60 : decode jdk_41_method_11_code 10 = .ok (.iload_n 0, 1) := by decide +kernel
theorem own_h61 : decode jdk_41_method_11_code 11 = .ok (.iload_n 1, 1) := by decide +kernel
theorem own_h62 : decode jdk_41_method_11_code 12 = .ok (.invokestatic 95, 3) := by decide +kernel
theorem own_h63 : decode jdk_41_method_11_code 15 = .ok (.athrow, 1) := by decide +kernel
theorem own_h64 : decode jdk_41_method_11_code 16 = .ok (.iload_n 0, 1) := by decide +kernel
theorem own_h65 : decode jdk_41_method_11_code 17 = .ok (.ireturn, 1) := by decide +kernel
theorem own_h66 : plainName "jdk/internal/util/Preconditions" = true := by first | (simp [plainName, overriddenIn]; done) | decide +kernel
set_option maxRecDepth 65536 in
set_option maxHeartbeats 40000000 in
theorem rmPc (l : Launch) (Z : State) (a0 : Array Value) (hw : ∀ d ∈ tables_1, d.before a0 Z = true) (ws : List Jvm.Cond) (i n : Int32) (gv : Value) (h0 : Heap) (n0 : Nat) (Z0 : n0 ≤ h0.size) (hg : gv.isRef = true) (q1 : ¬ i < 0) (q2 : i < n) :
    MetFree l (⟨"jdk/internal/util/Preconditions", "checkIndex", "(IILjava/util/function/BiFunction;)I"⟩ : MethodName) (head1 (Jvm.Cond.code (⟨"jdk/internal/util/Preconditions", "checkIndex", "(IILjava/util/function/BiFunction;)I"⟩ : MethodName) jdk_41_method_11_code 3 (some .int) :: ws) ({ frames := 0, cells := 0, slots := 0, locals := 0 } : Room)) (fun ar_ U => ar_ = #[(.int i), (.int n), gv] ∧ Z.Warmed39 U.vm ∧ U.heap = h0) (fun _ _ _ _ _ => True) (fun _ U o U' => ∃ v L, o = .returned v ∧ QI i h0 n0 v U'.heap L ∧ FrameEnd U o U' L ({ frames := 0, cells := 0, slots := 0, locals := 0 } : Room).cells ({ frames := 0, cells := 0, slots := 0, locals := 0 } : Room).slots) := by
  refine MetFree.of_bodySF (plainFor_of_name own_h66) hisR ?_
  intro p e s m args below meth c s₁ Bd hml0 hP hK
  obtain ⟨rfl, hZ, hh⟩ := hP
  have hx := Bd.exec
  have hby := Bd.bytes
  have hml : c.maxLocals = 3 := hml0
  have hown : s.vm.findClass "jdk/internal/util/Preconditions" = some m.cls := findClass_of_methodNamed Bd.named
  have hnm := (name_of_methodNamed Bd.named Bd.method).1
  have X0 : Stand p l e ({ frames := 0, cells := 0, slots := 0, locals := 0 } : Room) s m #[(.int i), (.int n), gv] below meth c s₁ [] 0 0 := Stand.of_body Bd
  have e0 : s₁.heap = h0 := by rw [← hh, Bd.state]; rfl
  have N0 := Fr.nil n0
  have k0 : own_K p e below (s₁.setTop (mkF m 0 #[.val (.int i), .val (.int n), .val gv] [])) (s₁.setTop (entryFrame m #[(.int i), (.int n), gv] 3)) := fun t k => castTop (by clear k; rcases ref_cases hg with rfl | ⟨z_, rfl⟩ <;> first | (simp [entryFrame, mkF, argsToLocals, Value.category, maxLocals]; done) | rfl) k
  have k1 : own_K p e below (s₁.setTop (mkF m 17 #[.val (.int i), .val (.int n), .val gv] [(.int i)])) (s₁.setTop (entryFrame m #[(.int i), (.int n), gv] 3)) := fun t hh => k0 t (by
    refine XS.iloadN X0.here hx rfl (hb hby own_h54) rfl ?_
    show Steps p.tables e below (s₁.setTop (mkF m 1 #[.val (.int i), .val (.int n), .val gv] [(.int i)])) _
    refine XS.ifNo X0.here hx rfl (hb hby own_h55) rfl (own_ifF_lt q1) ?_
    show Steps p.tables e below (s₁.setTop (mkF m 4 #[.val (.int i), .val (.int n), .val gv] [])) _
    refine XS.iloadN X0.here hx rfl (hb hby own_h56) rfl ?_
    show Steps p.tables e below (s₁.setTop (mkF m 5 #[.val (.int i), .val (.int n), .val gv] [(.int i)])) _
    refine XS.iloadN X0.here hx rfl (hb hby own_h57) rfl ?_
    show Steps p.tables e below (s₁.setTop (mkF m 6 #[.val (.int i), .val (.int n), .val gv] [(.int n), (.int i)])) _
    refine XS.icmpYes X0.here hx rfl (pc0 := 6) (pc' := 16) rfl (hb hby own_h58) rfl (own_icT_lt q2) (by decide) (by decide) ?_
    show Steps p.tables e below (s₁.setTop (mkF m 16 #[.val (.int i), .val (.int n), .val gv] [])) _
    refine XS.iloadN X0.here hx rfl (hb hby own_h64) rfl ?_
    show Steps p.tables e below (s₁.setTop (mkF m 17 #[.val (.int i), .val (.int n), .val gv] [(.int i)])) _
    exact hh)
  obtain ⟨fs, hr, hrun, hended, hW, hsame⟩ := X0.leave (v := some (.int i)) (fun h => by rw [Bd.returns] at h; cases h)
  refine ⟨_, _, k1 _ (retOut X0 hx (t := .int) Bd.returns rfl (Or.inl ⟨rfl, (by simp), _, rfl⟩) (hb hby own_h65) hr), hrun, hended, _, _, rfl, ?_, ⟨_, rfl⟩, hW, hsame.mono (by decide) (by decide)⟩
  show QI i h0 n0 _ s₁.heap _
  rw [e0]
  exact ⟨rfl, N0, rfl⟩
theorem own_h67 : decode jdk_42_method_155_code 0 = .ok (.iload_n 0, 1) := by decide +kernel
theorem own_h68 : decode jdk_42_method_155_code 1 = .ok (.iload_n 1, 1) := by decide +kernel
theorem own_h69 : decode jdk_42_method_155_code 2 = .ok (.getstatic 1053, 3) := by decide +kernel
theorem own_h70 : decode jdk_42_method_155_code 5 = .ok (.invokestatic 1059, 3) := by decide +kernel
theorem own_h71 : decode jdk_42_method_155_code 8 = .ok (.pop, 1) := by decide +kernel
theorem own_h72 : decode jdk_42_method_155_code 9 = .ok (.return_, 1) := by decide +kernel
set_option maxRecDepth 65536 in
set_option maxHeartbeats 40000000 in
theorem rmCi (l : Launch) (Z : State) (a0 : Array Value) (hw : ∀ d ∈ tables_1, d.before a0 Z = true) (ws : List Jvm.Cond) (i n : Int32) (h0 : Heap) (n0 : Nat) (Z0 : n0 ≤ h0.size) (gv : Value) (sG : Sta Z h0 "jdk/internal/util/Preconditions" "SIOOBE_FORMATTER" "Ljava/util/function/BiFunction;" gv) (hg : gv.isRef = true) (q1 : ¬ i < 0) (q2 : i < n) :
    MetFree l (⟨"java/lang/String", "checkIndex", "(II)V"⟩ : MethodName) (head1 (Jvm.Cond.code (⟨"java/lang/String", "checkIndex", "(II)V"⟩ : MethodName) jdk_42_method_155_code 2 none :: ws) ({ frames := 1, cells := 0, slots := 0, locals := 14 } : Room)) (fun ar_ U => ar_ = #[(.int i), (.int n)] ∧ Z.Warmed39 U.vm ∧ U.heap = h0) (fun _ _ _ _ _ => True) (fun _ U o U' => ∃ v L, o = .returned v ∧ QN h0 n0 v U'.heap L ∧ FrameEnd U o U' L ({ frames := 1, cells := 0, slots := 0, locals := 14 } : Room).cells ({ frames := 1, cells := 0, slots := 0, locals := 14 } : Room).slots) := by
  refine MetFree.of_bodySF (plainFor_of_name own_h37) hisR ?_
  intro p e s m args below meth c s₁ Bd hml0 hP hK
  obtain ⟨rfl, hZ, hh⟩ := hP
  have hx := Bd.exec
  have hby := Bd.bytes
  have hml : c.maxLocals = 2 := hml0
  have hown : s.vm.findClass "java/lang/String" = some m.cls := findClass_of_methodNamed Bd.named
  have hnm := (name_of_methodNamed Bd.named Bd.method).1
  have X0 : Stand p l e ({ frames := 1, cells := 0, slots := 0, locals := 14 } : Room) s m #[(.int i), (.int n)] below meth c s₁ [] 0 0 := Stand.of_body Bd
  have e0 : s₁.heap = h0 := by rw [← hh, Bd.state]; rfl
  have N0 := Fr.nil n0
  have k0 : own_K p e below (s₁.setTop (mkF m 0 #[.val (.int i), .val (.int n)] [])) (s₁.setTop (entryFrame m #[(.int i), (.int n)] 2)) := fun t k => castTop (by clear k; first | (simp [entryFrame, mkF, argsToLocals, Value.category, maxLocals]; done) | rfl) k
  have k1 : own_K p e below (s₁.setTop (mkF m 2 #[.val (.int i), .val (.int n)] [(.int n), (.int i)])) (s₁.setTop (entryFrame m #[(.int i), (.int n)] 2)) := fun t hh => k0 t (by
    refine XS.iloadN X0.here hx rfl (hb hby own_h67) rfl ?_
    show Steps p.tables e below (s₁.setTop (mkF m 1 #[.val (.int i), .val (.int n)] [(.int i)])) _
    refine XS.iloadN X0.here hx rfl (hb hby own_h68) rfl ?_
    show Steps p.tables e below (s₁.setTop (mkF m 2 #[.val (.int i), .val (.int n)] [(.int n), (.int i)])) _
    exact hh)
  obtain ⟨T68, X69, e70, st71⟩ := getS X0 hx hZ hown (host := "") (wT hw 50 rfl) Via.refl e0 sG (g := (mkF m 2 #[.val (.int i), .val (.int n)] [(.int n), (.int i)])) rfl (hb hby own_h69)
  have k2 : own_K p e below (T68.setTop (mkF m 5 #[.val (.int i), .val (.int n)] [gv, (.int n), (.int i)])) (s₁.setTop (entryFrame m #[(.int i), (.int n)] 2)) := fun t hh => k1 t (st71 t hh)
  obtain ⟨_, _, ⟨T72, L73, k_74, n_75⟩, -, X76, ⟨Lc77, hQ78, l_79, y_80, z_81⟩, st82⟩ := Jvm.LawKit.callS X69 hx (y := (⟨"jdk/internal/util/Preconditions", "checkIndex", "(IILjava/util/function/BiFunction;)I"⟩ : MethodName)) hown (mvT hZ (wT hw 52 rfl)) (mvT hZ (wT hw 53 rfl)) (mvT hZ (wT hw 51 rfl)) (mvT hZ (wT hw 54 rfl)) (by decide) (backOf (W := 0) (rmPc l Z a0 hw [] i n gv h0 n0 Z0 hg q1 q2) hZ (wT hw 54 rfl) (wT hw 51 rfl) (by decide) (by decide)) (g := (mkF m 5 #[.val (.int i), .val (.int n)] [gv, (.int n), (.int i)])) rfl (by rw [hml]; rfl) (argsL := [(.int i), (.int n), gv]) (rest := []) (lenOf own_h26 rfl) rfl (by show 2 * 0 + _ ≤ _; exact Nat.le_of_eq rfl) (hb hby own_h70) (fun _ _ => ⟨rfl, e70, (by decide : 0 + 0 ≤ _), (by decide : 0 + 0 ≤ _)⟩)
  dsimp only [Pt.U, Pt.locs, Pt.cells, Pt.slots] at X76 l_79 y_80 z_81 st82 hQ78
  subst l_79 y_80 z_81
  obtain ⟨rfl, N83, e84⟩ := hQ78
  have N85 := Fr.app N0 N83
  have k3 : own_K p e below (T72.setTop (mkF m 8 #[.val (.int i), .val (.int n)] [(.int i)])) (s₁.setTop (entryFrame m #[(.int i), (.int n)] 2)) := fun t hh => k2 t (st82 t hh)
  have k4 : own_K p e below (T72.setTop (mkF m 9 #[.val (.int i), .val (.int n)] [])) (s₁.setTop (entryFrame m #[(.int i), (.int n)] 2)) := fun t hh => k3 t (by
    refine XS.pop X76.here hx rfl (hb hby own_h71) rfl rfl ?_
    show Steps p.tables e below (T72.setTop (mkF m 9 #[.val (.int i), .val (.int n)] [])) _
    exact hh)
  obtain ⟨fs, hr, hrun, hended, hW, hsame⟩ := X76.leave (v := none) (fun _ => rfl)
  refine ⟨_, _, k4 _ (X76.returnOut hx Bd.returns (hb hby own_h72) hr), hrun, hended, _, _, rfl, ?_, ⟨_, rfl⟩, hW, hsame.mono (by decide) (by decide)⟩
  show QN h0 n0 _ T72.heap _
  rw [e84]
  exact ⟨rfl, N85, rfl⟩
theorem own_i2c (x : Int32) (h : 0 ≤ x.toInt) (h2 : x.toInt < 128) : ((x &&& (255 : Int32)).toUInt32.toUInt16.toUInt32.toInt32) = x := by
  rw [i2c_mask]
  apply Int32.toInt_inj.mp
  rw [c_mask x (255 : Int32) 8 (by decide) (by decide)]
  omega
theorem own_nar (x : Int32) (h : 0 ≤ x.toInt) (h2 : x.toInt < 128) : nar .char ((x &&& (255 : Int32)).toUInt32.toUInt16.toUInt32.toInt32) = x := by
  rw [own_i2c x h h2]
  have := c_i2c x
  apply Int32.toInt_inj.mp
  show (x.toUInt32.toUInt16.toUInt32.toInt32).toInt = x.toInt
  omega
theorem own_h73 : decode jdk_43_method_2_code 0 = .ok (.iload_n 1, 1) := by decide +kernel
theorem own_h74 : decode jdk_43_method_2_code 1 = .ok (.aload_n 0, 1) := by decide +kernel
theorem own_h75 : decode jdk_43_method_2_code 2 = .ok (.arraylength, 1) := by decide +kernel
theorem own_h76 : decode jdk_43_method_2_code 3 = .ok (.invokestatic 9, 3) := by decide +kernel
theorem own_h77 : decode jdk_43_method_2_code 6 = .ok (.aload_n 0, 1) := by decide +kernel
theorem own_h78 : decode jdk_43_method_2_code 7 = .ok (.iload_n 1, 1) := by decide +kernel
theorem own_h79 : decode jdk_43_method_2_code 8 = .ok (.baload, 1) := by decide +kernel
theorem own_h80 : decode jdk_43_method_2_code 9 = .ok (.sipush 255, 3) := by decide +kernel
theorem own_h81 : decode jdk_43_method_2_code 12 = .ok (.iand, 1) := by decide +kernel
theorem own_h82 : decode jdk_43_method_2_code 13 = .ok (.i2c, 1) := by decide +kernel
theorem own_h83 : decode jdk_43_method_2_code 14 = .ok (.ireturn, 1) := by decide +kernel
theorem own_h84 : plainName "java/lang/StringLatin1" = true := by first | (simp [plainName, overriddenIn]; done) | decide +kernel
set_option maxRecDepth 65536 in
set_option maxHeartbeats 40000000 in
theorem rmSl0 (l : Launch) (Z : State) (a0 : Array Value) (hw : ∀ d ∈ tables_1, d.before a0 Z = true) (ws : List Jvm.Cond) (b : Addr) (h0 : Heap) (n0 : Nat) (Z0 : n0 ≤ h0.size) (gv : Value) (sG : Sta Z h0 "jdk/internal/util/Preconditions" "SIOOBE_FORMATTER" "Ljava/util/function/BiFunction;" gv) (hg : gv.isRef = true) (kb : ClassId) (c0 c1 : Int32) (p0 : 0 ≤ c0.toInt ∧ c0.toInt < 128) (p1 : 0 ≤ c1.toInt ∧ c1.toInt < 128) (Ab : Arv Z h0 b kb .byte (2 : Int32) [.int c0, .int c1] (.int (0 : Int32))) :
    MetFree l (⟨"java/lang/StringLatin1", "charAt", "([BI)C"⟩ : MethodName) (head1 (Jvm.Cond.code (⟨"java/lang/StringLatin1", "charAt", "([BI)C"⟩ : MethodName) jdk_43_method_2_code 2 (some .char) :: ws) ({ frames := 2, cells := 0, slots := 0, locals := 27 } : Room)) (fun ar_ U => ar_ = #[(.ref b), (.int (0 : Int32))] ∧ Z.Warmed39 U.vm ∧ U.heap = h0) (fun _ _ _ _ _ => True) (fun _ U o U' => ∃ v L, o = .returned v ∧ QI c0 h0 n0 v U'.heap L ∧ FrameEnd U o U' L ({ frames := 2, cells := 0, slots := 0, locals := 27 } : Room).cells ({ frames := 2, cells := 0, slots := 0, locals := 27 } : Room).slots) := by
  refine MetFree.of_bodySF (plainFor_of_name own_h84) hisR ?_
  intro p e s m args below meth c s₁ Bd hml0 hP hK
  obtain ⟨rfl, hZ, hh⟩ := hP
  have hx := Bd.exec
  have hby := Bd.bytes
  have hml : c.maxLocals = 2 := hml0
  have hown : s.vm.findClass "java/lang/StringLatin1" = some m.cls := findClass_of_methodNamed Bd.named
  have hnm := (name_of_methodNamed Bd.named Bd.method).1
  have X0 : Stand p l e ({ frames := 2, cells := 0, slots := 0, locals := 27 } : Room) s m #[(.ref b), (.int (0 : Int32))] below meth c s₁ [] 0 0 := Stand.of_body Bd
  have e0 : s₁.heap = h0 := by rw [← hh, Bd.state]; rfl
  have N0 := Fr.nil n0
  have k0 : own_K p e below (s₁.setTop (mkF m 0 #[.val (.ref b), .val (.int (0 : Int32))] [])) (s₁.setTop (entryFrame m #[(.ref b), (.int (0 : Int32))] 2)) := fun t k => castTop (by clear k; first | (simp [entryFrame, mkF, argsToLocals, Value.category, maxLocals]; done) | rfl) k
  obtain ⟨cl86, Ar87, -, S88, Ng89, -, -⟩ := id Ab
  have k1 : own_K p e below (s₁.setTop (mkF m 3 #[.val (.ref b), .val (.int (0 : Int32))] [(.int (2 : Int32)), (.int (0 : Int32))])) (s₁.setTop (entryFrame m #[(.ref b), (.int (0 : Int32))] 2)) := fun t hh => k0 t (by
    refine XS.iloadN X0.here hx rfl (hb hby own_h73) rfl ?_
    show Steps p.tables e below (s₁.setTop (mkF m 1 #[.val (.ref b), .val (.int (0 : Int32))] [(.int (0 : Int32))])) _
    refine XS.aloadN X0.here hx rfl (hb hby own_h74) rfl rfl ?_
    show Steps p.tables e below (s₁.setTop (mkF m 2 #[.val (.ref b), .val (.int (0 : Int32))] [(.ref b), (.int (0 : Int32))])) _
    refine X0.arraylength hx (by rw [e0]; exact Ar87.1) (State.isArrayOf_alike hZ.alike Ar87.2.1) (g := (mkF m 2 #[.val (.ref b), .val (.int (0 : Int32))] [(.ref b), (.int (0 : Int32))])) rfl rfl (hb hby own_h75) _ ?_
    rw [len_of S88 Ng89]
    show Steps p.tables e below (s₁.setTop (mkF m 3 #[.val (.ref b), .val (.int (0 : Int32))] [(.int (2 : Int32)), (.int (0 : Int32))])) _
    exact hh)
  obtain ⟨_, _, ⟨T90, L91, k_92, n_93⟩, -, X94, ⟨Lc95, hQ96, l_97, y_98, z_99⟩, st100⟩ := Jvm.LawKit.callS X0 hx (y := (⟨"java/lang/String", "checkIndex", "(II)V"⟩ : MethodName)) hown (mvT hZ (wT hw 47 rfl)) (mvT hZ (wT hw 48 rfl)) (mvT hZ (wT hw 21 rfl)) (mvT hZ (wT hw 49 rfl)) (by decide) (backOf (W := 0) (rmCi l Z a0 hw [] (0 : Int32) (2 : Int32) h0 n0 Z0 gv sG hg (by decide) (by decide)) hZ (wT hw 49 rfl) (wT hw 21 rfl) (by decide) (by decide)) (g := (mkF m 3 #[.val (.ref b), .val (.int (0 : Int32))] [(.int (2 : Int32)), (.int (0 : Int32))])) rfl (by rw [hml]; rfl) (argsL := [(.int (0 : Int32)), (.int (2 : Int32))]) (rest := []) (lenOf own_h25 rfl) rfl (by show 2 * 0 + _ ≤ _; exact Nat.le_of_eq rfl) (hb hby own_h76) (fun _ _ => ⟨rfl, e0, (by decide : 0 + 0 ≤ _), (by decide : 0 + 0 ≤ _)⟩)
  dsimp only [Pt.U, Pt.locs, Pt.cells, Pt.slots] at X94 l_97 y_98 z_99 st100 hQ96
  subst l_97 y_98 z_99
  obtain ⟨rfl, N101, e102⟩ := hQ96
  have N103 := Fr.app N0 N101
  have k2 : own_K p e below (T90.setTop (mkF m 6 #[.val (.ref b), .val (.int (0 : Int32))] [])) (s₁.setTop (entryFrame m #[(.ref b), (.int (0 : Int32))] 2)) := fun t hh => k1 t (st100 t hh)
  obtain ⟨cl104, Ar105, -, S106, Ng107, H108, -⟩ := id Ab
  have hin109 : ¬ ((0 : Int32) < 0 ∨ cl104.slots.size ≤ ((0 : Int32)).toNatClampNeg) := inb_of S106 (by decide)
  have hat110 : cl104.slots[((0 : Int32)).toNatClampNeg]? = some (.int c0) := Has.at H108 hin109 rfl
  have k3 : own_K p e below (T90.setTop (mkF m 14 #[.val (.ref b), .val (.int (0 : Int32))] [(.int ((c0 &&& (255 : Int32)).toUInt32.toUInt16.toUInt32.toInt32))])) (s₁.setTop (entryFrame m #[(.ref b), (.int (0 : Int32))] 2)) := fun t hh => k2 t (by
    refine XS.aloadN X94.here hx rfl (hb hby own_h77) rfl rfl ?_
    show Steps p.tables e below (T90.setTop (mkF m 7 #[.val (.ref b), .val (.int (0 : Int32))] [(.ref b)])) _
    refine XS.iloadN X94.here hx rfl (hb hby own_h78) rfl ?_
    show Steps p.tables e below (T90.setTop (mkF m 8 #[.val (.ref b), .val (.int (0 : Int32))] [(.int (0 : Int32)), (.ref b)])) _
    refine X94.baloadBytes hx (j := (0 : Int32)) (v := (.int c0)) (by rw [e102]; exact Ar105.1) (State.isArrayOf_alike hZ.alike Ar105.2.1) Ar105.2.2 hin109 hat110 (g := (mkF m 8 #[.val (.ref b), .val (.int (0 : Int32))] [(.int (0 : Int32)), (.ref b)])) rfl rfl (hb hby own_h79) _ ?_
    show Steps p.tables e below (T90.setTop (mkF m 9 #[.val (.ref b), .val (.int (0 : Int32))] [(.int c0)])) _
    refine XS.sipush X94.here hx rfl (hb hby own_h80) ?_
    show Steps p.tables e below (T90.setTop (mkF m 12 #[.val (.ref b), .val (.int (0 : Int32))] [(.int (255 : Int32)), (.int c0)])) _
    refine XS.iand X94.here hx rfl (hb hby own_h81) rfl ?_
    show Steps p.tables e below (T90.setTop (mkF m 13 #[.val (.ref b), .val (.int (0 : Int32))] [(.int (c0 &&& (255 : Int32)))])) _
    refine XS.i2c X94.here hx rfl (hb hby own_h82) rfl ?_
    show Steps p.tables e below (T90.setTop (mkF m 14 #[.val (.ref b), .val (.int (0 : Int32))] [(.int ((c0 &&& (255 : Int32)).toUInt32.toUInt16.toUInt32.toInt32))])) _
    exact hh)
  obtain ⟨fs, hr, hrun, hended, hW, hsame⟩ := X94.leave (v := some (.int (nar .char ((c0 &&& (255 : Int32)).toUInt32.toUInt16.toUInt32.toInt32)))) (fun h => by rw [Bd.returns] at h; cases h)
  refine ⟨_, _, k3 _ (retN X94 hx (t := .char) Bd.returns (by simp) (hb hby own_h83) hr), hrun, hended, _, _, rfl, ?_, ⟨_, rfl⟩, hW, hsame.mono (by decide) (by decide)⟩
  show QI c0 h0 n0 _ T90.heap _
  rw [e102]
  exact ⟨by rw [own_nar c0 p0.1 p0.2], N103, rfl⟩
theorem own_nar2 (x : Int32) (h : 0 ≤ x.toInt) (h2 : x.toInt < 128) : nar .char x = x := by
  have := c_i2c x
  apply Int32.toInt_inj.mp
  show (x.toUInt32.toUInt16.toUInt32.toInt32).toInt = x.toInt
  omega
theorem own_h85 : decode jdk_42_method_56_code 0 = .ok (.aload_n 0, 1) := by decide +kernel
theorem own_h86 : decode jdk_42_method_56_code 1 = .ok (.invokevirtual 492, 3) := by decide +kernel
theorem own_h87 : decode jdk_42_method_56_code 4 = .ok (.ifCond .eq 12, 3) := by decide +kernel
theorem own_h88 : decode jdk_42_method_56_code 7 = .ok (.aload_n 0, 1) := by decide +kernel
theorem own_h89 : decode jdk_42_method_56_code 8 = .ok (.getfield 9, 3) := by decide +kernel
theorem own_h90 : decode jdk_42_method_56_code 11 = .ok (.iload_n 1, 1) := by decide +kernel
theorem own_h91 : decode jdk_42_method_56_code 12 = .ok (.invokestatic 495, 3) := by decide +kernel
theorem own_h92 : decode jdk_42_method_56_code 15 = .ok (.ireturn, 1) := by decide +kernel
theorem own_h93 : decode jdk_42_method_56_code 16 = .ok (.aload_n 0, 1) := by decide +kernel
theorem own_h94 : decode jdk_42_method_56_code 17 = .ok (.getfield 9, 3) := by decide +kernel
theorem own_h95 : decode jdk_42_method_56_code 20 = .ok (.iload_n 1, 1) := by decide +kernel
theorem own_h96 : decode jdk_42_method_56_code 21 = .ok (.invokestatic 498, 3) := by decide +kernel
theorem own_h97 : decode jdk_42_method_56_code 24 = .ok (.ireturn, 1) := by decide +kernel
set_option maxRecDepth 65536 in
set_option maxHeartbeats 40000000 in
theorem rmCh0 (l : Launch) (Z : State) (a0 : Array Value) (hw : ∀ d ∈ tables_1, d.before a0 Z = true) (ws : List Jvm.Cond) (a : Addr) (h0 : Heap) (n0 : Nat) (Z0 : n0 ≤ h0.size) (ci : Int32) (sC : Sta Z h0 "java/lang/String" "COMPACT_STRINGS" "Z" (.int ci)) (hc : ¬ ci = 0) (Fc : Fld Z h0 a "java/lang/String" "coder" "B" (.int (0 : Int32))) (b : Addr) (kb : ClassId) (c0 c1 : Int32) (Es : Exa Z h0 a "java/lang/String") (Fv : Fld Z h0 a "java/lang/String" "value" "[B" (.ref b)) (Ab : Arv Z h0 b kb .byte (2 : Int32) [.int c0, .int c1] (.int (0 : Int32))) (gv : Value) (sG : Sta Z h0 "jdk/internal/util/Preconditions" "SIOOBE_FORMATTER" "Ljava/util/function/BiFunction;" gv) (hg : gv.isRef = true) (p0 : 0 ≤ c0.toInt ∧ c0.toInt < 128) (p1 : 0 ≤ c1.toInt ∧ c1.toInt < 128) :
    MetFree l (⟨"java/lang/String", "charAt", "(I)C"⟩ : MethodName) (head1 (Jvm.Cond.code (⟨"java/lang/String", "charAt", "(I)C"⟩ : MethodName) jdk_42_method_56_code 2 (some .char) :: ws) ({ frames := 3, cells := 0, slots := 0, locals := 40 } : Room)) (fun ar_ U => ar_ = #[(.ref a), (.int (0 : Int32))] ∧ Z.Warmed39 U.vm ∧ U.heap = h0) (fun _ _ _ _ _ => True) (fun _ U o U' => ∃ v L, o = .returned v ∧ QI c0 h0 n0 v U'.heap L ∧ FrameEnd U o U' L ({ frames := 3, cells := 0, slots := 0, locals := 40 } : Room).cells ({ frames := 3, cells := 0, slots := 0, locals := 40 } : Room).slots) := by
  refine MetFree.of_bodySF (plainFor_of_name own_h37) hisR ?_
  intro p e s m args below meth c s₁ Bd hml0 hP hK
  obtain ⟨rfl, hZ, hh⟩ := hP
  have hx := Bd.exec
  have hby := Bd.bytes
  have hml : c.maxLocals = 2 := hml0
  have hown : s.vm.findClass "java/lang/String" = some m.cls := findClass_of_methodNamed Bd.named
  have hnm := (name_of_methodNamed Bd.named Bd.method).1
  have X0 : Stand p l e ({ frames := 3, cells := 0, slots := 0, locals := 40 } : Room) s m #[(.ref a), (.int (0 : Int32))] below meth c s₁ [] 0 0 := Stand.of_body Bd
  have e0 : s₁.heap = h0 := by rw [← hh, Bd.state]; rfl
  have N0 := Fr.nil n0
  have k0 : own_K p e below (s₁.setTop (mkF m 0 #[.val (.ref a), .val (.int (0 : Int32))] [])) (s₁.setTop (entryFrame m #[(.ref a), (.int (0 : Int32))] 2)) := fun t k => castTop (by clear k; first | (simp [entryFrame, mkF, argsToLocals, Value.category, maxLocals]; done) | rfl) k
  have k1 : own_K p e below (s₁.setTop (mkF m 1 #[.val (.ref a), .val (.int (0 : Int32))] [(.ref a)])) (s₁.setTop (entryFrame m #[(.ref a), (.int (0 : Int32))] 2)) := fun t hh => k0 t (by
    refine XS.aloadN X0.here hx rfl (hb hby own_h85) rfl rfl ?_
    show Steps p.tables e below (s₁.setTop (mkF m 1 #[.val (.ref a), .val (.int (0 : Int32))] [(.ref a)])) _
    exact hh)
  obtain ⟨cq122, kq123, qa124, qb125, qc126⟩ := isOf hZ e0 Es
  obtain ⟨_, _, ⟨T111, L112, k_113, n_114⟩, -, X115, ⟨Lc116, hQ117, l_118, y_119, z_120⟩, st121⟩ := X0.virtualBack hx (y := (⟨"java/lang/String", "isLatin1", "()Z"⟩ : MethodName)) (z := (⟨"java/lang/String", "isLatin1", "()Z"⟩ : MethodName)) hown (mvT hZ (wT hw 38 rfl)) (mvT hZ (wT hw 39 rfl)) (notFace_of_selects (args := #[]) (mvT hZ (wT hw 41 rfl))) (mvT hZ (wT hw 41 rfl)) (mvT hZ (wT hw 40 rfl)) (by decide) (backOf (W := 0) (rmLa l Z a0 hw [] a h0 n0 Z0 ci sC hc Fc) hZ (wT hw 42 rfl) (wT hw 21 rfl) (by decide) (by decide)) qa124 qc126 (g := (mkF m 1 #[.val (.ref a), .val (.int (0 : Int32))] [(.ref a)])) rfl (by rw [hml]; rfl) (Steps.refl _) (argsL := []) (rest := []) (lenOf own_h23 rfl) rfl (by show 2 * 0 + _ ≤ _; exact Nat.le_of_eq rfl) (hb hby own_h86) (fun _ _ => ⟨rfl, e0, (by decide : 0 + 0 ≤ _), (by decide : 0 + 0 ≤ _)⟩)
  dsimp only [Pt.U, Pt.locs, Pt.cells, Pt.slots] at X115 l_118 y_119 z_120 st121 hQ117
  subst l_118 y_119 z_120
  obtain ⟨rfl, N127, e128⟩ := hQ117
  have N129 := Fr.app N0 N127
  have k2 : own_K p e below (T111.setTop (mkF m 4 #[.val (.ref a), .val (.int (0 : Int32))] [(.int (1 : Int32))])) (s₁.setTop (entryFrame m #[(.ref a), (.int (0 : Int32))] 2)) := fun t hh => k1 t (st121.trans hh)
  have k3 : own_K p e below (T111.setTop (mkF m 8 #[.val (.ref a), .val (.int (0 : Int32))] [(.ref a)])) (s₁.setTop (entryFrame m #[(.ref a), (.int (0 : Int32))] 2)) := fun t hh => k2 t (by
    refine XS.ifNo X115.here hx rfl (hb hby own_h87) rfl (by decide) ?_
    show Steps p.tables e below (T111.setTop (mkF m 7 #[.val (.ref a), .val (.int (0 : Int32))] [])) _
    refine XS.aloadN X115.here hx rfl (hb hby own_h88) rfl rfl ?_
    show Steps p.tables e below (T111.setTop (mkF m 8 #[.val (.ref a), .val (.int (0 : Int32))] [(.ref a)])) _
    exact hh)
  obtain ⟨T130, X131, e132, st133⟩ := getF X115 hx hZ hown (host := "") (Or.inl (wT hw 23 rfl)) Via.refl e128 Fv (g := (mkF m 8 #[.val (.ref a), .val (.int (0 : Int32))] [(.ref a)])) rfl rfl (hb hby own_h89)
  have k4 : own_K p e below (T130.setTop (mkF m 11 #[.val (.ref a), .val (.int (0 : Int32))] [(.ref b)])) (s₁.setTop (entryFrame m #[(.ref a), (.int (0 : Int32))] 2)) := fun t hh => k3 t (st133 t hh)
  have k5 : own_K p e below (T130.setTop (mkF m 12 #[.val (.ref a), .val (.int (0 : Int32))] [(.int (0 : Int32)), (.ref b)])) (s₁.setTop (entryFrame m #[(.ref a), (.int (0 : Int32))] 2)) := fun t hh => k4 t (by
    refine XS.iloadN X131.here hx rfl (hb hby own_h90) rfl ?_
    show Steps p.tables e below (T130.setTop (mkF m 12 #[.val (.ref a), .val (.int (0 : Int32))] [(.int (0 : Int32)), (.ref b)])) _
    exact hh)
  obtain ⟨_, _, ⟨T134, L135, k_136, n_137⟩, -, X138, ⟨Lc139, hQ140, l_141, y_142, z_143⟩, st144⟩ := Jvm.LawKit.callS X131 hx (y := (⟨"java/lang/StringLatin1", "charAt", "([BI)C"⟩ : MethodName)) hown (mvT hZ (wT hw 43 rfl)) (mvT hZ (wT hw 44 rfl)) (mvT hZ (wT hw 45 rfl)) (mvT hZ (wT hw 46 rfl)) (by decide) (backOf (W := 0) (rmSl0 l Z a0 hw [] b h0 n0 Z0 gv sG hg kb c0 c1 p0 p1 Ab) hZ (wT hw 46 rfl) (wT hw 45 rfl) (by decide) (by decide)) (g := (mkF m 12 #[.val (.ref a), .val (.int (0 : Int32))] [(.int (0 : Int32)), (.ref b)])) rfl (by rw [hml]; rfl) (argsL := [(.ref b), (.int (0 : Int32))]) (rest := []) (lenOf own_h24 rfl) rfl (by show 2 * 0 + _ ≤ _; exact Nat.le_of_eq rfl) (hb hby own_h91) (fun _ _ => ⟨rfl, e132, (by decide : 0 + 0 ≤ _), (by decide : 0 + 0 ≤ _)⟩)
  dsimp only [Pt.U, Pt.locs, Pt.cells, Pt.slots] at X138 l_141 y_142 z_143 st144 hQ140
  subst l_141 y_142 z_143
  obtain ⟨rfl, N145, e146⟩ := hQ140
  have N147 := Fr.app N129 N145
  have k6 : own_K p e below (T134.setTop (mkF m 15 #[.val (.ref a), .val (.int (0 : Int32))] [(.int c0)])) (s₁.setTop (entryFrame m #[(.ref a), (.int (0 : Int32))] 2)) := fun t hh => k5 t (st144 t hh)
  obtain ⟨fs, hr, hrun, hended, hW, hsame⟩ := X138.leave (v := some (.int (nar .char c0))) (fun h => by rw [Bd.returns] at h; cases h)
  refine ⟨_, _, k6 _ (retN X138 hx (t := .char) Bd.returns (by simp) (hb hby own_h92) hr), hrun, hended, _, _, rfl, ?_, ⟨_, rfl⟩, hW, hsame.mono (by decide) (by decide)⟩
  show QI c0 h0 n0 _ T134.heap _
  rw [e146]
  exact ⟨by rw [own_nar2 c0 p0.1 p0.2], N147, rfl⟩
set_option maxRecDepth 65536 in
set_option maxHeartbeats 40000000 in
theorem rmSl1 (l : Launch) (Z : State) (a0 : Array Value) (hw : ∀ d ∈ tables_1, d.before a0 Z = true) (ws : List Jvm.Cond) (b : Addr) (h0 : Heap) (n0 : Nat) (Z0 : n0 ≤ h0.size) (gv : Value) (sG : Sta Z h0 "jdk/internal/util/Preconditions" "SIOOBE_FORMATTER" "Ljava/util/function/BiFunction;" gv) (hg : gv.isRef = true) (kb : ClassId) (c0 c1 : Int32) (p0 : 0 ≤ c0.toInt ∧ c0.toInt < 128) (p1 : 0 ≤ c1.toInt ∧ c1.toInt < 128) (Ab : Arv Z h0 b kb .byte (2 : Int32) [.int c0, .int c1] (.int (0 : Int32))) :
    MetFree l (⟨"java/lang/StringLatin1", "charAt", "([BI)C"⟩ : MethodName) (head1 (Jvm.Cond.code (⟨"java/lang/StringLatin1", "charAt", "([BI)C"⟩ : MethodName) jdk_43_method_2_code 2 (some .char) :: ws) ({ frames := 2, cells := 0, slots := 0, locals := 27 } : Room)) (fun ar_ U => ar_ = #[(.ref b), (.int (1 : Int32))] ∧ Z.Warmed39 U.vm ∧ U.heap = h0) (fun _ _ _ _ _ => True) (fun _ U o U' => ∃ v L, o = .returned v ∧ QI c1 h0 n0 v U'.heap L ∧ FrameEnd U o U' L ({ frames := 2, cells := 0, slots := 0, locals := 27 } : Room).cells ({ frames := 2, cells := 0, slots := 0, locals := 27 } : Room).slots) := by
  refine MetFree.of_bodySF (plainFor_of_name own_h84) hisR ?_
  intro p e s m args below meth c s₁ Bd hml0 hP hK
  obtain ⟨rfl, hZ, hh⟩ := hP
  have hx := Bd.exec
  have hby := Bd.bytes
  have hml : c.maxLocals = 2 := hml0
  have hown : s.vm.findClass "java/lang/StringLatin1" = some m.cls := findClass_of_methodNamed Bd.named
  have hnm := (name_of_methodNamed Bd.named Bd.method).1
  have X0 : Stand p l e ({ frames := 2, cells := 0, slots := 0, locals := 27 } : Room) s m #[(.ref b), (.int (1 : Int32))] below meth c s₁ [] 0 0 := Stand.of_body Bd
  have e0 : s₁.heap = h0 := by rw [← hh, Bd.state]; rfl
  have N0 := Fr.nil n0
  have k0 : own_K p e below (s₁.setTop (mkF m 0 #[.val (.ref b), .val (.int (1 : Int32))] [])) (s₁.setTop (entryFrame m #[(.ref b), (.int (1 : Int32))] 2)) := fun t k => castTop (by clear k; first | (simp [entryFrame, mkF, argsToLocals, Value.category, maxLocals]; done) | rfl) k
  obtain ⟨cl148, Ar149, -, S150, Ng151, -, -⟩ := id Ab
  have k1 : own_K p e below (s₁.setTop (mkF m 3 #[.val (.ref b), .val (.int (1 : Int32))] [(.int (2 : Int32)), (.int (1 : Int32))])) (s₁.setTop (entryFrame m #[(.ref b), (.int (1 : Int32))] 2)) := fun t hh => k0 t (by
    refine XS.iloadN X0.here hx rfl (hb hby own_h73) rfl ?_
    show Steps p.tables e below (s₁.setTop (mkF m 1 #[.val (.ref b), .val (.int (1 : Int32))] [(.int (1 : Int32))])) _
    refine XS.aloadN X0.here hx rfl (hb hby own_h74) rfl rfl ?_
    show Steps p.tables e below (s₁.setTop (mkF m 2 #[.val (.ref b), .val (.int (1 : Int32))] [(.ref b), (.int (1 : Int32))])) _
    refine X0.arraylength hx (by rw [e0]; exact Ar149.1) (State.isArrayOf_alike hZ.alike Ar149.2.1) (g := (mkF m 2 #[.val (.ref b), .val (.int (1 : Int32))] [(.ref b), (.int (1 : Int32))])) rfl rfl (hb hby own_h75) _ ?_
    rw [len_of S150 Ng151]
    show Steps p.tables e below (s₁.setTop (mkF m 3 #[.val (.ref b), .val (.int (1 : Int32))] [(.int (2 : Int32)), (.int (1 : Int32))])) _
    exact hh)
  obtain ⟨_, _, ⟨T152, L153, k_154, n_155⟩, -, X156, ⟨Lc157, hQ158, l_159, y_160, z_161⟩, st162⟩ := Jvm.LawKit.callS X0 hx (y := (⟨"java/lang/String", "checkIndex", "(II)V"⟩ : MethodName)) hown (mvT hZ (wT hw 47 rfl)) (mvT hZ (wT hw 48 rfl)) (mvT hZ (wT hw 21 rfl)) (mvT hZ (wT hw 49 rfl)) (by decide) (backOf (W := 0) (rmCi l Z a0 hw [] (1 : Int32) (2 : Int32) h0 n0 Z0 gv sG hg (by decide) (by decide)) hZ (wT hw 49 rfl) (wT hw 21 rfl) (by decide) (by decide)) (g := (mkF m 3 #[.val (.ref b), .val (.int (1 : Int32))] [(.int (2 : Int32)), (.int (1 : Int32))])) rfl (by rw [hml]; rfl) (argsL := [(.int (1 : Int32)), (.int (2 : Int32))]) (rest := []) (lenOf own_h25 rfl) rfl (by show 2 * 0 + _ ≤ _; exact Nat.le_of_eq rfl) (hb hby own_h76) (fun _ _ => ⟨rfl, e0, (by decide : 0 + 0 ≤ _), (by decide : 0 + 0 ≤ _)⟩)
  dsimp only [Pt.U, Pt.locs, Pt.cells, Pt.slots] at X156 l_159 y_160 z_161 st162 hQ158
  subst l_159 y_160 z_161
  obtain ⟨rfl, N163, e164⟩ := hQ158
  have N165 := Fr.app N0 N163
  have k2 : own_K p e below (T152.setTop (mkF m 6 #[.val (.ref b), .val (.int (1 : Int32))] [])) (s₁.setTop (entryFrame m #[(.ref b), (.int (1 : Int32))] 2)) := fun t hh => k1 t (st162 t hh)
  obtain ⟨cl166, Ar167, -, S168, Ng169, H170, -⟩ := id Ab
  have hin171 : ¬ ((1 : Int32) < 0 ∨ cl166.slots.size ≤ ((1 : Int32)).toNatClampNeg) := inb_of S168 (by decide)
  have hat172 : cl166.slots[((1 : Int32)).toNatClampNeg]? = some (.int c1) := Has.at H170 hin171 rfl
  have k3 : own_K p e below (T152.setTop (mkF m 14 #[.val (.ref b), .val (.int (1 : Int32))] [(.int ((c1 &&& (255 : Int32)).toUInt32.toUInt16.toUInt32.toInt32))])) (s₁.setTop (entryFrame m #[(.ref b), (.int (1 : Int32))] 2)) := fun t hh => k2 t (by
    refine XS.aloadN X156.here hx rfl (hb hby own_h77) rfl rfl ?_
    show Steps p.tables e below (T152.setTop (mkF m 7 #[.val (.ref b), .val (.int (1 : Int32))] [(.ref b)])) _
    refine XS.iloadN X156.here hx rfl (hb hby own_h78) rfl ?_
    show Steps p.tables e below (T152.setTop (mkF m 8 #[.val (.ref b), .val (.int (1 : Int32))] [(.int (1 : Int32)), (.ref b)])) _
    refine X156.baloadBytes hx (j := (1 : Int32)) (v := (.int c1)) (by rw [e164]; exact Ar167.1) (State.isArrayOf_alike hZ.alike Ar167.2.1) Ar167.2.2 hin171 hat172 (g := (mkF m 8 #[.val (.ref b), .val (.int (1 : Int32))] [(.int (1 : Int32)), (.ref b)])) rfl rfl (hb hby own_h79) _ ?_
    show Steps p.tables e below (T152.setTop (mkF m 9 #[.val (.ref b), .val (.int (1 : Int32))] [(.int c1)])) _
    refine XS.sipush X156.here hx rfl (hb hby own_h80) ?_
    show Steps p.tables e below (T152.setTop (mkF m 12 #[.val (.ref b), .val (.int (1 : Int32))] [(.int (255 : Int32)), (.int c1)])) _
    refine XS.iand X156.here hx rfl (hb hby own_h81) rfl ?_
    show Steps p.tables e below (T152.setTop (mkF m 13 #[.val (.ref b), .val (.int (1 : Int32))] [(.int (c1 &&& (255 : Int32)))])) _
    refine XS.i2c X156.here hx rfl (hb hby own_h82) rfl ?_
    show Steps p.tables e below (T152.setTop (mkF m 14 #[.val (.ref b), .val (.int (1 : Int32))] [(.int ((c1 &&& (255 : Int32)).toUInt32.toUInt16.toUInt32.toInt32))])) _
    exact hh)
  obtain ⟨fs, hr, hrun, hended, hW, hsame⟩ := X156.leave (v := some (.int (nar .char ((c1 &&& (255 : Int32)).toUInt32.toUInt16.toUInt32.toInt32)))) (fun h => by rw [Bd.returns] at h; cases h)
  refine ⟨_, _, k3 _ (retN X156 hx (t := .char) Bd.returns (by simp) (hb hby own_h83) hr), hrun, hended, _, _, rfl, ?_, ⟨_, rfl⟩, hW, hsame.mono (by decide) (by decide)⟩
  show QI c1 h0 n0 _ T152.heap _
  rw [e164]
  exact ⟨by rw [own_nar c1 p1.1 p1.2], N165, rfl⟩
set_option maxRecDepth 65536 in
set_option maxHeartbeats 40000000 in
theorem rmCh1 (l : Launch) (Z : State) (a0 : Array Value) (hw : ∀ d ∈ tables_1, d.before a0 Z = true) (ws : List Jvm.Cond) (a : Addr) (h0 : Heap) (n0 : Nat) (Z0 : n0 ≤ h0.size) (ci : Int32) (sC : Sta Z h0 "java/lang/String" "COMPACT_STRINGS" "Z" (.int ci)) (hc : ¬ ci = 0) (Fc : Fld Z h0 a "java/lang/String" "coder" "B" (.int (0 : Int32))) (b : Addr) (kb : ClassId) (c0 c1 : Int32) (Es : Exa Z h0 a "java/lang/String") (Fv : Fld Z h0 a "java/lang/String" "value" "[B" (.ref b)) (Ab : Arv Z h0 b kb .byte (2 : Int32) [.int c0, .int c1] (.int (0 : Int32))) (gv : Value) (sG : Sta Z h0 "jdk/internal/util/Preconditions" "SIOOBE_FORMATTER" "Ljava/util/function/BiFunction;" gv) (hg : gv.isRef = true) (p0 : 0 ≤ c0.toInt ∧ c0.toInt < 128) (p1 : 0 ≤ c1.toInt ∧ c1.toInt < 128) :
    MetFree l (⟨"java/lang/String", "charAt", "(I)C"⟩ : MethodName) (head1 (Jvm.Cond.code (⟨"java/lang/String", "charAt", "(I)C"⟩ : MethodName) jdk_42_method_56_code 2 (some .char) :: ws) ({ frames := 3, cells := 0, slots := 0, locals := 40 } : Room)) (fun ar_ U => ar_ = #[(.ref a), (.int (1 : Int32))] ∧ Z.Warmed39 U.vm ∧ U.heap = h0) (fun _ _ _ _ _ => True) (fun _ U o U' => ∃ v L, o = .returned v ∧ QI c1 h0 n0 v U'.heap L ∧ FrameEnd U o U' L ({ frames := 3, cells := 0, slots := 0, locals := 40 } : Room).cells ({ frames := 3, cells := 0, slots := 0, locals := 40 } : Room).slots) := by
  refine MetFree.of_bodySF (plainFor_of_name own_h37) hisR ?_
  intro p e s m args below meth c s₁ Bd hml0 hP hK
  obtain ⟨rfl, hZ, hh⟩ := hP
  have hx := Bd.exec
  have hby := Bd.bytes
  have hml : c.maxLocals = 2 := hml0
  have hown : s.vm.findClass "java/lang/String" = some m.cls := findClass_of_methodNamed Bd.named
  have hnm := (name_of_methodNamed Bd.named Bd.method).1
  have X0 : Stand p l e ({ frames := 3, cells := 0, slots := 0, locals := 40 } : Room) s m #[(.ref a), (.int (1 : Int32))] below meth c s₁ [] 0 0 := Stand.of_body Bd
  have e0 : s₁.heap = h0 := by rw [← hh, Bd.state]; rfl
  have N0 := Fr.nil n0
  have k0 : own_K p e below (s₁.setTop (mkF m 0 #[.val (.ref a), .val (.int (1 : Int32))] [])) (s₁.setTop (entryFrame m #[(.ref a), (.int (1 : Int32))] 2)) := fun t k => castTop (by clear k; first | (simp [entryFrame, mkF, argsToLocals, Value.category, maxLocals]; done) | rfl) k
  have k1 : own_K p e below (s₁.setTop (mkF m 1 #[.val (.ref a), .val (.int (1 : Int32))] [(.ref a)])) (s₁.setTop (entryFrame m #[(.ref a), (.int (1 : Int32))] 2)) := fun t hh => k0 t (by
    refine XS.aloadN X0.here hx rfl (hb hby own_h85) rfl rfl ?_
    show Steps p.tables e below (s₁.setTop (mkF m 1 #[.val (.ref a), .val (.int (1 : Int32))] [(.ref a)])) _
    exact hh)
  obtain ⟨cq184, kq185, qa186, qb187, qc188⟩ := isOf hZ e0 Es
  obtain ⟨_, _, ⟨T173, L174, k_175, n_176⟩, -, X177, ⟨Lc178, hQ179, l_180, y_181, z_182⟩, st183⟩ := X0.virtualBack hx (y := (⟨"java/lang/String", "isLatin1", "()Z"⟩ : MethodName)) (z := (⟨"java/lang/String", "isLatin1", "()Z"⟩ : MethodName)) hown (mvT hZ (wT hw 38 rfl)) (mvT hZ (wT hw 39 rfl)) (notFace_of_selects (args := #[]) (mvT hZ (wT hw 41 rfl))) (mvT hZ (wT hw 41 rfl)) (mvT hZ (wT hw 40 rfl)) (by decide) (backOf (W := 0) (rmLa l Z a0 hw [] a h0 n0 Z0 ci sC hc Fc) hZ (wT hw 42 rfl) (wT hw 21 rfl) (by decide) (by decide)) qa186 qc188 (g := (mkF m 1 #[.val (.ref a), .val (.int (1 : Int32))] [(.ref a)])) rfl (by rw [hml]; rfl) (Steps.refl _) (argsL := []) (rest := []) (lenOf own_h23 rfl) rfl (by show 2 * 0 + _ ≤ _; exact Nat.le_of_eq rfl) (hb hby own_h86) (fun _ _ => ⟨rfl, e0, (by decide : 0 + 0 ≤ _), (by decide : 0 + 0 ≤ _)⟩)
  dsimp only [Pt.U, Pt.locs, Pt.cells, Pt.slots] at X177 l_180 y_181 z_182 st183 hQ179
  subst l_180 y_181 z_182
  obtain ⟨rfl, N189, e190⟩ := hQ179
  have N191 := Fr.app N0 N189
  have k2 : own_K p e below (T173.setTop (mkF m 4 #[.val (.ref a), .val (.int (1 : Int32))] [(.int (1 : Int32))])) (s₁.setTop (entryFrame m #[(.ref a), (.int (1 : Int32))] 2)) := fun t hh => k1 t (st183.trans hh)
  have k3 : own_K p e below (T173.setTop (mkF m 8 #[.val (.ref a), .val (.int (1 : Int32))] [(.ref a)])) (s₁.setTop (entryFrame m #[(.ref a), (.int (1 : Int32))] 2)) := fun t hh => k2 t (by
    refine XS.ifNo X177.here hx rfl (hb hby own_h87) rfl (by decide) ?_
    show Steps p.tables e below (T173.setTop (mkF m 7 #[.val (.ref a), .val (.int (1 : Int32))] [])) _
    refine XS.aloadN X177.here hx rfl (hb hby own_h88) rfl rfl ?_
    show Steps p.tables e below (T173.setTop (mkF m 8 #[.val (.ref a), .val (.int (1 : Int32))] [(.ref a)])) _
    exact hh)
  obtain ⟨T192, X193, e194, st195⟩ := getF X177 hx hZ hown (host := "") (Or.inl (wT hw 23 rfl)) Via.refl e190 Fv (g := (mkF m 8 #[.val (.ref a), .val (.int (1 : Int32))] [(.ref a)])) rfl rfl (hb hby own_h89)
  have k4 : own_K p e below (T192.setTop (mkF m 11 #[.val (.ref a), .val (.int (1 : Int32))] [(.ref b)])) (s₁.setTop (entryFrame m #[(.ref a), (.int (1 : Int32))] 2)) := fun t hh => k3 t (st195 t hh)
  have k5 : own_K p e below (T192.setTop (mkF m 12 #[.val (.ref a), .val (.int (1 : Int32))] [(.int (1 : Int32)), (.ref b)])) (s₁.setTop (entryFrame m #[(.ref a), (.int (1 : Int32))] 2)) := fun t hh => k4 t (by
    refine XS.iloadN X193.here hx rfl (hb hby own_h90) rfl ?_
    show Steps p.tables e below (T192.setTop (mkF m 12 #[.val (.ref a), .val (.int (1 : Int32))] [(.int (1 : Int32)), (.ref b)])) _
    exact hh)
  obtain ⟨_, _, ⟨T196, L197, k_198, n_199⟩, -, X200, ⟨Lc201, hQ202, l_203, y_204, z_205⟩, st206⟩ := Jvm.LawKit.callS X193 hx (y := (⟨"java/lang/StringLatin1", "charAt", "([BI)C"⟩ : MethodName)) hown (mvT hZ (wT hw 43 rfl)) (mvT hZ (wT hw 44 rfl)) (mvT hZ (wT hw 45 rfl)) (mvT hZ (wT hw 46 rfl)) (by decide) (backOf (W := 0) (rmSl1 l Z a0 hw [] b h0 n0 Z0 gv sG hg kb c0 c1 p0 p1 Ab) hZ (wT hw 46 rfl) (wT hw 45 rfl) (by decide) (by decide)) (g := (mkF m 12 #[.val (.ref a), .val (.int (1 : Int32))] [(.int (1 : Int32)), (.ref b)])) rfl (by rw [hml]; rfl) (argsL := [(.ref b), (.int (1 : Int32))]) (rest := []) (lenOf own_h24 rfl) rfl (by show 2 * 0 + _ ≤ _; exact Nat.le_of_eq rfl) (hb hby own_h91) (fun _ _ => ⟨rfl, e194, (by decide : 0 + 0 ≤ _), (by decide : 0 + 0 ≤ _)⟩)
  dsimp only [Pt.U, Pt.locs, Pt.cells, Pt.slots] at X200 l_203 y_204 z_205 st206 hQ202
  subst l_203 y_204 z_205
  obtain ⟨rfl, N207, e208⟩ := hQ202
  have N209 := Fr.app N191 N207
  have k6 : own_K p e below (T196.setTop (mkF m 15 #[.val (.ref a), .val (.int (1 : Int32))] [(.int c1)])) (s₁.setTop (entryFrame m #[(.ref a), (.int (1 : Int32))] 2)) := fun t hh => k5 t (st206 t hh)
  obtain ⟨fs, hr, hrun, hended, hW, hsame⟩ := X200.leave (v := some (.int (nar .char c1))) (fun h => by rw [Bd.returns] at h; cases h)
  refine ⟨_, _, k6 _ (retN X200 hx (t := .char) Bd.returns (by simp) (hb hby own_h92) hr), hrun, hended, _, _, rfl, ?_, ⟨_, rfl⟩, hW, hsame.mono (by decide) (by decide)⟩
  show QI c1 h0 n0 _ T196.heap _
  rw [e208]
  exact ⟨by rw [own_nar2 c1 p1.1 p1.2], N209, rfl⟩
def QL (h0 : Heap) (n0 : Nat) (v : Option Value) (h : Heap) (L : List Loc) : Prop := v = some (.int 1) ∧ Fr n0 L
theorem own_h98 : plainName "com/example/flueline/flueline/FFactorSelectPinLaw" = true := by first | (simp [plainName, overriddenIn]; done) | decide +kernel
set_option maxRecDepth 65536 in
set_option maxHeartbeats 40000000 in
theorem rmL (l : Launch) (Z : State) (a0 : Array Value) (hw : ∀ d ∈ tables_1, d.before a0 Z = true) (ws : List Jvm.Cond) (wv av bv cv : Int32) (h0 : Heap) (n0 : Nat) (Z0 : n0 ≤ h0.size) (ci : Int32) (sC : Sta Z h0 "java/lang/String" "COMPACT_STRINGS" "Z" (.int ci)) (hc : ¬ ci = 0) (gv : Value) (sG : Sta Z h0 "jdk/internal/util/Preconditions" "SIOOBE_FORMATTER" "Ljava/util/function/BiFunction;" gv) (hg : gv.isRef = true) (aD kD bD : Addr) (tD : ClassId) (sD_ : Sta Z h0 "com/example/flueline/flueline/FFactor" "FD" "Lcom/example/flueline/flueline/FFactor;" (.ref aD)) (xD : Exa Z h0 aD "com/example/flueline/flueline/FFactor") (pD : Fld Z h0 aD "com/example/flueline/flueline/FFactor" "planKey" "Ljava/lang/String;" (.ref kD)) (yD : Exa Z h0 kD "java/lang/String") (vD : Fld Z h0 kD "java/lang/String" "value" "[B" (.ref bD)) (cD_ : Fld Z h0 kD "java/lang/String" "coder" "B" (.int (0 : Int32))) (rD : Arv Z h0 bD tD .byte (2 : Int32) [.int (102 : Int32), .int (100 : Int32)] (.int (0 : Int32))) (aW kW bW : Addr) (tW : ClassId) (sW_ : Sta Z h0 "com/example/flueline/flueline/FFactor" "FW" "Lcom/example/flueline/flueline/FFactor;" (.ref aW)) (xW : Exa Z h0 aW "com/example/flueline/flueline/FFactor") (pW : Fld Z h0 aW "com/example/flueline/flueline/FFactor" "planKey" "Ljava/lang/String;" (.ref kW)) (yW : Exa Z h0 kW "java/lang/String") (vW : Fld Z h0 kW "java/lang/String" "value" "[B" (.ref bW)) (cW_ : Fld Z h0 kW "java/lang/String" "coder" "B" (.int (0 : Int32))) (rW : Arv Z h0 bW tW .byte (2 : Int32) [.int (102 : Int32), .int (119 : Int32)] (.int (0 : Int32))) (aC kC bC : Addr) (tC : ClassId) (sC_ : Sta Z h0 "com/example/flueline/flueline/FFactor" "FC" "Lcom/example/flueline/flueline/FFactor;" (.ref aC)) (xC : Exa Z h0 aC "com/example/flueline/flueline/FFactor") (pC : Fld Z h0 aC "com/example/flueline/flueline/FFactor" "planKey" "Ljava/lang/String;" (.ref kC)) (yC : Exa Z h0 kC "java/lang/String") (vC : Fld Z h0 kC "java/lang/String" "value" "[B" (.ref bC)) (cC_ : Fld Z h0 kC "java/lang/String" "coder" "B" (.int (0 : Int32))) (rC : Arv Z h0 bC tC .byte (2 : Int32) [.int (102 : Int32), .int (99 : Int32)] (.int (0 : Int32))) (n1 : aW ≠ aD) (n2 : aC ≠ aD) (n3 : aC ≠ aW) :
    MetFree l x (head1 (Jvm.Cond.code x code maxLocals ret :: ws) room_1) (fun ar_ U => ar_ = #[(.int wv), (.int av), (.int bv), (.int cv)] ∧ Z.Warmed39 U.vm ∧ U.heap = h0) (fun _ _ _ _ _ => True) (fun _ U o U' => ∃ v L, o = .returned v ∧ QL h0 n0 v U'.heap L ∧ FrameEnd U o U' L 0 0) := by
  refine MetFree.of_bodySF (plainFor_of_name own_h98) hisR ?_
  intro p e s m args below meth c s₁ Bd hml0 hP hK
  obtain ⟨rfl, hZ, hh⟩ := hP
  have hx := Bd.exec
  have hby := Bd.bytes
  have hml : c.maxLocals = 18 := hml0
  have hown : s.vm.findClass "com/example/flueline/flueline/FFactorSelectPinLaw" = some m.cls := findClass_of_methodNamed Bd.named
  have hnm := (name_of_methodNamed Bd.named Bd.method).1
  have X0 : Stand p l e room_1 s m #[(.int wv), (.int av), (.int bv), (.int cv)] below meth c s₁ [] 0 0 := Stand.of_body Bd
  have e0 : s₁.heap = h0 := by rw [← hh, Bd.state]; rfl
  have N0 := Fr.nil n0
  have k0 : own_K p e below (s₁.setTop (mkF m 0 #[.val (.int wv), .val (.int av), .val (.int bv), .val (.int cv), .unset, .unset, .unset, .unset, .unset, .unset, .unset, .unset, .unset, .unset, .unset, .unset, .unset, .unset] [])) (s₁.setTop (entryFrame m #[(.int wv), (.int av), (.int bv), (.int cv)] maxLocals)) := fun t k => castTop (by clear k; first | (simp [entryFrame, mkF, argsToLocals, Value.category, maxLocals]; done) | rfl) k
  have k1 : own_K p e below (s₁.setTop (mkF m 10 #[.val (.int wv), .val (.int av), .val (.int bv), .val (.int cv), .val (.int ((wv &&& (2147483647 : Int32)) % (3 : Int32))), .unset, .unset, .unset, .unset, .unset, .unset, .unset, .unset, .unset, .unset, .unset, .unset, .unset] [(.int ((wv &&& (2147483647 : Int32)) % (3 : Int32)))])) (s₁.setTop (entryFrame m #[(.int wv), (.int av), (.int bv), (.int cv)] maxLocals)) := fun t hh => k0 t (by
    refine XS.iloadN X0.here hx rfl (hb hby at_0) rfl ?_
    show Steps p.tables e below (s₁.setTop (mkF m 1 #[.val (.int wv), .val (.int av), .val (.int bv), .val (.int cv), .unset, .unset, .unset, .unset, .unset, .unset, .unset, .unset, .unset, .unset, .unset, .unset, .unset, .unset] [(.int wv)])) _
    refine X0.ldcInt hx hown (mvT hZ (wT hw 0 rfl)) (g := (mkF m 1 #[.val (.int wv), .val (.int av), .val (.int bv), .val (.int cv), .unset, .unset, .unset, .unset, .unset, .unset, .unset, .unset, .unset, .unset, .unset, .unset, .unset, .unset] [(.int wv)])) rfl (hb hby at_1) _ ?_
    show Steps p.tables e below (s₁.setTop (mkF m 3 #[.val (.int wv), .val (.int av), .val (.int bv), .val (.int cv), .unset, .unset, .unset, .unset, .unset, .unset, .unset, .unset, .unset, .unset, .unset, .unset, .unset, .unset] [(.int (2147483647 : Int32)), (.int wv)])) _
    refine XS.iand X0.here hx rfl (hb hby at_3) rfl ?_
    show Steps p.tables e below (s₁.setTop (mkF m 4 #[.val (.int wv), .val (.int av), .val (.int bv), .val (.int cv), .unset, .unset, .unset, .unset, .unset, .unset, .unset, .unset, .unset, .unset, .unset, .unset, .unset, .unset] [(.int (wv &&& (2147483647 : Int32)))])) _
    refine XS.iconst X0.here hx rfl (hb hby at_4) ?_
    show Steps p.tables e below (s₁.setTop (mkF m 5 #[.val (.int wv), .val (.int av), .val (.int bv), .val (.int cv), .unset, .unset, .unset, .unset, .unset, .unset, .unset, .unset, .unset, .unset, .unset, .unset, .unset, .unset] [(.int (3 : Int32)), (.int (wv &&& (2147483647 : Int32)))])) _
    refine iremM X0 hx (g := (mkF m 5 #[.val (.int wv), .val (.int av), .val (.int bv), .val (.int cv), .unset, .unset, .unset, .unset, .unset, .unset, .unset, .unset, .unset, .unset, .unset, .unset, .unset, .unset] [(.int (3 : Int32)), (.int (wv &&& (2147483647 : Int32)))])) rfl (hb hby at_5) rfl (by decide) ?_
    show Steps p.tables e below (s₁.setTop (mkF m 6 #[.val (.int wv), .val (.int av), .val (.int bv), .val (.int cv), .unset, .unset, .unset, .unset, .unset, .unset, .unset, .unset, .unset, .unset, .unset, .unset, .unset, .unset] [(.int ((wv &&& (2147483647 : Int32)) % (3 : Int32)))])) _
    refine XS.istore X0.here hx rfl (hb hby at_6) rfl (l' := #[.val (.int wv), .val (.int av), .val (.int bv), .val (.int cv), .val (.int ((wv &&& (2147483647 : Int32)) % (3 : Int32))), .unset, .unset, .unset, .unset, .unset, .unset, .unset, .unset, .unset, .unset, .unset, .unset, .unset]) rfl ?_
    show Steps p.tables e below (s₁.setTop (mkF m 8 #[.val (.int wv), .val (.int av), .val (.int bv), .val (.int cv), .val (.int ((wv &&& (2147483647 : Int32)) % (3 : Int32))), .unset, .unset, .unset, .unset, .unset, .unset, .unset, .unset, .unset, .unset, .unset, .unset, .unset] [])) _
    refine XS.iload X0.here hx rfl (hb hby at_8) rfl ?_
    show Steps p.tables e below (s₁.setTop (mkF m 10 #[.val (.int wv), .val (.int av), .val (.int bv), .val (.int cv), .val (.int ((wv &&& (2147483647 : Int32)) % (3 : Int32))), .unset, .unset, .unset, .unset, .unset, .unset, .unset, .unset, .unset, .unset, .unset, .unset, .unset] [(.int ((wv &&& (2147483647 : Int32)) % (3 : Int32)))])) _
    exact hh)
  by_cases c10 : ((wv &&& (2147483647 : Int32)) % (3 : Int32)) = 0
  ·
    have k2 : own_K p e below (s₁.setTop (mkF m 13 #[.val (.int wv), .val (.int av), .val (.int bv), .val (.int cv), .val (.int ((wv &&& (2147483647 : Int32)) % (3 : Int32))), .unset, .unset, .unset, .unset, .unset, .unset, .unset, .unset, .unset, .unset, .unset, .unset, .unset] [])) (s₁.setTop (entryFrame m #[(.int wv), (.int av), (.int bv), (.int cv)] maxLocals)) := fun t hh => k1 t (by
      refine XS.ifNo X0.here hx rfl (hb hby at_10) rfl (own_ifF_ne c10) ?_
      show Steps p.tables e below (s₁.setTop (mkF m 13 #[.val (.int wv), .val (.int av), .val (.int bv), .val (.int cv), .val (.int ((wv &&& (2147483647 : Int32)) % (3 : Int32))), .unset, .unset, .unset, .unset, .unset, .unset, .unset, .unset, .unset, .unset, .unset, .unset, .unset] [])) _
      exact hh)
    obtain ⟨T210, X211, e212, st213⟩ := getS X0 hx hZ hown (host := "") (wT hw 1 rfl) Via.refl e0 sD_ (g := (mkF m 13 #[.val (.int wv), .val (.int av), .val (.int bv), .val (.int cv), .val (.int ((wv &&& (2147483647 : Int32)) % (3 : Int32))), .unset, .unset, .unset, .unset, .unset, .unset, .unset, .unset, .unset, .unset, .unset, .unset, .unset] [])) rfl (hb hby at_13)
    have k3 : own_K p e below (T210.setTop (mkF m 16 #[.val (.int wv), .val (.int av), .val (.int bv), .val (.int cv), .val (.int ((wv &&& (2147483647 : Int32)) % (3 : Int32))), .unset, .unset, .unset, .unset, .unset, .unset, .unset, .unset, .unset, .unset, .unset, .unset, .unset] [(.ref aD)])) (s₁.setTop (entryFrame m #[(.int wv), (.int av), (.int bv), (.int cv)] maxLocals)) := fun t hh => k2 t (st213 t hh)
    have k4 : own_K p e below (T210.setTop (mkF m 56 #[.val (.int wv), .val (.int av), .val (.int bv), .val (.int cv), .val (.int ((wv &&& (2147483647 : Int32)) % (3 : Int32))), .val (.ref aD), .val (.double (FP.i2d av)), .second, .val (.double (FP.i2d bv)), .second, .val (.double (FP.i2d cv)), .second, .unset, .unset, .unset, .unset, .unset, .unset] [(.double (FP.i2d cv)), (.double (FP.i2d bv)), (.double (FP.i2d av)), (.ref aD)])) (s₁.setTop (entryFrame m #[(.int wv), (.int av), (.int bv), (.int cv)] maxLocals)) := fun t hh => k3 t (by
      refine XS.goto X211.here hx rfl (pc0 := 16) (pc' := 34) rfl (hb hby at_16) (by decide) (by decide) ?_
      show Steps p.tables e below (T210.setTop (mkF m 34 #[.val (.int wv), .val (.int av), .val (.int bv), .val (.int cv), .val (.int ((wv &&& (2147483647 : Int32)) % (3 : Int32))), .unset, .unset, .unset, .unset, .unset, .unset, .unset, .unset, .unset, .unset, .unset, .unset, .unset] [(.ref aD)])) _
      refine XS.astore X211.here hx rfl (hb hby at_34) rfl rfl (l' := #[.val (.int wv), .val (.int av), .val (.int bv), .val (.int cv), .val (.int ((wv &&& (2147483647 : Int32)) % (3 : Int32))), .val (.ref aD), .unset, .unset, .unset, .unset, .unset, .unset, .unset, .unset, .unset, .unset, .unset, .unset]) rfl ?_
      show Steps p.tables e below (T210.setTop (mkF m 36 #[.val (.int wv), .val (.int av), .val (.int bv), .val (.int cv), .val (.int ((wv &&& (2147483647 : Int32)) % (3 : Int32))), .val (.ref aD), .unset, .unset, .unset, .unset, .unset, .unset, .unset, .unset, .unset, .unset, .unset, .unset] [])) _
      refine XS.iloadN X211.here hx rfl (hb hby at_36) rfl ?_
      show Steps p.tables e below (T210.setTop (mkF m 37 #[.val (.int wv), .val (.int av), .val (.int bv), .val (.int cv), .val (.int ((wv &&& (2147483647 : Int32)) % (3 : Int32))), .val (.ref aD), .unset, .unset, .unset, .unset, .unset, .unset, .unset, .unset, .unset, .unset, .unset, .unset] [(.int av)])) _
      refine XS.i2dS X211.here hx rfl (hb hby at_37) rfl rfl ?_
      show Steps p.tables e below (T210.setTop (mkF m 38 #[.val (.int wv), .val (.int av), .val (.int bv), .val (.int cv), .val (.int ((wv &&& (2147483647 : Int32)) % (3 : Int32))), .val (.ref aD), .unset, .unset, .unset, .unset, .unset, .unset, .unset, .unset, .unset, .unset, .unset, .unset] [(.double (FP.i2d av))])) _
      refine XS.dstore X211.here hx rfl (hb hby at_38) rfl (l' := #[.val (.int wv), .val (.int av), .val (.int bv), .val (.int cv), .val (.int ((wv &&& (2147483647 : Int32)) % (3 : Int32))), .val (.ref aD), .val (.double (FP.i2d av)), .second, .unset, .unset, .unset, .unset, .unset, .unset, .unset, .unset, .unset, .unset]) rfl ?_
      show Steps p.tables e below (T210.setTop (mkF m 40 #[.val (.int wv), .val (.int av), .val (.int bv), .val (.int cv), .val (.int ((wv &&& (2147483647 : Int32)) % (3 : Int32))), .val (.ref aD), .val (.double (FP.i2d av)), .second, .unset, .unset, .unset, .unset, .unset, .unset, .unset, .unset, .unset, .unset] [])) _
      refine XS.iloadN X211.here hx rfl (hb hby at_40) rfl ?_
      show Steps p.tables e below (T210.setTop (mkF m 41 #[.val (.int wv), .val (.int av), .val (.int bv), .val (.int cv), .val (.int ((wv &&& (2147483647 : Int32)) % (3 : Int32))), .val (.ref aD), .val (.double (FP.i2d av)), .second, .unset, .unset, .unset, .unset, .unset, .unset, .unset, .unset, .unset, .unset] [(.int bv)])) _
      refine XS.i2dS X211.here hx rfl (hb hby at_41) rfl rfl ?_
      show Steps p.tables e below (T210.setTop (mkF m 42 #[.val (.int wv), .val (.int av), .val (.int bv), .val (.int cv), .val (.int ((wv &&& (2147483647 : Int32)) % (3 : Int32))), .val (.ref aD), .val (.double (FP.i2d av)), .second, .unset, .unset, .unset, .unset, .unset, .unset, .unset, .unset, .unset, .unset] [(.double (FP.i2d bv))])) _
      refine XS.dstore X211.here hx rfl (hb hby at_42) rfl (l' := #[.val (.int wv), .val (.int av), .val (.int bv), .val (.int cv), .val (.int ((wv &&& (2147483647 : Int32)) % (3 : Int32))), .val (.ref aD), .val (.double (FP.i2d av)), .second, .val (.double (FP.i2d bv)), .second, .unset, .unset, .unset, .unset, .unset, .unset, .unset, .unset]) rfl ?_
      show Steps p.tables e below (T210.setTop (mkF m 44 #[.val (.int wv), .val (.int av), .val (.int bv), .val (.int cv), .val (.int ((wv &&& (2147483647 : Int32)) % (3 : Int32))), .val (.ref aD), .val (.double (FP.i2d av)), .second, .val (.double (FP.i2d bv)), .second, .unset, .unset, .unset, .unset, .unset, .unset, .unset, .unset] [])) _
      refine XS.iloadN X211.here hx rfl (hb hby at_44) rfl ?_
      show Steps p.tables e below (T210.setTop (mkF m 45 #[.val (.int wv), .val (.int av), .val (.int bv), .val (.int cv), .val (.int ((wv &&& (2147483647 : Int32)) % (3 : Int32))), .val (.ref aD), .val (.double (FP.i2d av)), .second, .val (.double (FP.i2d bv)), .second, .unset, .unset, .unset, .unset, .unset, .unset, .unset, .unset] [(.int cv)])) _
      refine XS.i2dS X211.here hx rfl (hb hby at_45) rfl rfl ?_
      show Steps p.tables e below (T210.setTop (mkF m 46 #[.val (.int wv), .val (.int av), .val (.int bv), .val (.int cv), .val (.int ((wv &&& (2147483647 : Int32)) % (3 : Int32))), .val (.ref aD), .val (.double (FP.i2d av)), .second, .val (.double (FP.i2d bv)), .second, .unset, .unset, .unset, .unset, .unset, .unset, .unset, .unset] [(.double (FP.i2d cv))])) _
      refine XS.dstore X211.here hx rfl (hb hby at_46) rfl (l' := #[.val (.int wv), .val (.int av), .val (.int bv), .val (.int cv), .val (.int ((wv &&& (2147483647 : Int32)) % (3 : Int32))), .val (.ref aD), .val (.double (FP.i2d av)), .second, .val (.double (FP.i2d bv)), .second, .val (.double (FP.i2d cv)), .second, .unset, .unset, .unset, .unset, .unset, .unset]) rfl ?_
      show Steps p.tables e below (T210.setTop (mkF m 48 #[.val (.int wv), .val (.int av), .val (.int bv), .val (.int cv), .val (.int ((wv &&& (2147483647 : Int32)) % (3 : Int32))), .val (.ref aD), .val (.double (FP.i2d av)), .second, .val (.double (FP.i2d bv)), .second, .val (.double (FP.i2d cv)), .second, .unset, .unset, .unset, .unset, .unset, .unset] [])) _
      refine XS.aload X211.here hx rfl (hb hby at_48) rfl rfl ?_
      show Steps p.tables e below (T210.setTop (mkF m 50 #[.val (.int wv), .val (.int av), .val (.int bv), .val (.int cv), .val (.int ((wv &&& (2147483647 : Int32)) % (3 : Int32))), .val (.ref aD), .val (.double (FP.i2d av)), .second, .val (.double (FP.i2d bv)), .second, .val (.double (FP.i2d cv)), .second, .unset, .unset, .unset, .unset, .unset, .unset] [(.ref aD)])) _
      refine XS.dload X211.here hx rfl (hb hby at_50) rfl ?_
      show Steps p.tables e below (T210.setTop (mkF m 52 #[.val (.int wv), .val (.int av), .val (.int bv), .val (.int cv), .val (.int ((wv &&& (2147483647 : Int32)) % (3 : Int32))), .val (.ref aD), .val (.double (FP.i2d av)), .second, .val (.double (FP.i2d bv)), .second, .val (.double (FP.i2d cv)), .second, .unset, .unset, .unset, .unset, .unset, .unset] [(.double (FP.i2d av)), (.ref aD)])) _
      refine XS.dload X211.here hx rfl (hb hby at_52) rfl ?_
      show Steps p.tables e below (T210.setTop (mkF m 54 #[.val (.int wv), .val (.int av), .val (.int bv), .val (.int cv), .val (.int ((wv &&& (2147483647 : Int32)) % (3 : Int32))), .val (.ref aD), .val (.double (FP.i2d av)), .second, .val (.double (FP.i2d bv)), .second, .val (.double (FP.i2d cv)), .second, .unset, .unset, .unset, .unset, .unset, .unset] [(.double (FP.i2d bv)), (.double (FP.i2d av)), (.ref aD)])) _
      refine XS.dload X211.here hx rfl (hb hby at_54) rfl ?_
      show Steps p.tables e below (T210.setTop (mkF m 56 #[.val (.int wv), .val (.int av), .val (.int bv), .val (.int cv), .val (.int ((wv &&& (2147483647 : Int32)) % (3 : Int32))), .val (.ref aD), .val (.double (FP.i2d av)), .second, .val (.double (FP.i2d bv)), .second, .val (.double (FP.i2d cv)), .second, .unset, .unset, .unset, .unset, .unset, .unset] [(.double (FP.i2d cv)), (.double (FP.i2d bv)), (.double (FP.i2d av)), (.ref aD)])) _
      exact hh)
    obtain ⟨cq225, kq226, qa227, qb228, qc229⟩ := isOf hZ e212 xD
    obtain ⟨_, _, ⟨T214, L215, k_216, n_217⟩, -, X218, ⟨Lc219, hQ220, l_221, y_222, z_223⟩, st224⟩ := X211.virtualBack hx (y := (⟨"com/example/flueline/flueline/FFactor", "select", "(DDD)D"⟩ : MethodName)) (z := (⟨"com/example/flueline/flueline/FFactor", "select", "(DDD)D"⟩ : MethodName)) hown (mvT hZ (wT hw 4 rfl)) (mvT hZ (wT hw 5 rfl)) (notFace_of_selects (args := #[]) (mvT hZ (wT hw 7 rfl))) (mvT hZ (wT hw 7 rfl)) (mvT hZ (wT hw 6 rfl)) (by decide) (backOf (W := 0) (rmS0 l Z a0 hw [] aD aW aC (FP.i2d av) (FP.i2d bv) (FP.i2d cv) h0 n0 Z0 sD_ sW_ n1 n2 n3) hZ (wT hw 8 rfl) (wT hw 2 rfl) (by decide) (by decide)) qa227 qc229 (g := (mkF m 56 #[.val (.int wv), .val (.int av), .val (.int bv), .val (.int cv), .val (.int ((wv &&& (2147483647 : Int32)) % (3 : Int32))), .val (.ref aD), .val (.double (FP.i2d av)), .second, .val (.double (FP.i2d bv)), .second, .val (.double (FP.i2d cv)), .second, .unset, .unset, .unset, .unset, .unset, .unset] [(.double (FP.i2d cv)), (.double (FP.i2d bv)), (.double (FP.i2d av)), (.ref aD)])) rfl (by rw [hml]; rfl) (Steps.refl _) (argsL := [(.double (FP.i2d av)), (.double (FP.i2d bv)), (.double (FP.i2d cv))]) (rest := []) (lenOf own_h18 rfl) rfl (by show 2 * 0 + _ ≤ _; exact Nat.le_of_eq rfl) (hb hby at_56) (fun _ _ => ⟨rfl, e212, (by decide : 0 + 0 ≤ _), (by decide : 0 + 0 ≤ _)⟩)
    dsimp only [Pt.U, Pt.locs, Pt.cells, Pt.slots] at X218 l_221 y_222 z_223 st224 hQ220
    subst l_221 y_222 z_223
    obtain ⟨rfl, N230, e231⟩ := hQ220
    have N232 := Fr.app N0 N230
    have k5 : own_K p e below (T214.setTop (mkF m 59 #[.val (.int wv), .val (.int av), .val (.int bv), .val (.int cv), .val (.int ((wv &&& (2147483647 : Int32)) % (3 : Int32))), .val (.ref aD), .val (.double (FP.i2d av)), .second, .val (.double (FP.i2d bv)), .second, .val (.double (FP.i2d cv)), .second, .unset, .unset, .unset, .unset, .unset, .unset] [(.double (FP.i2d av))])) (s₁.setTop (entryFrame m #[(.int wv), (.int av), (.int bv), (.int cv)] maxLocals)) := fun t hh => k4 t (st224.trans hh)
    have k6 : own_K p e below (T214.setTop (mkF m 63 #[.val (.int wv), .val (.int av), .val (.int bv), .val (.int cv), .val (.int ((wv &&& (2147483647 : Int32)) % (3 : Int32))), .val (.ref aD), .val (.double (FP.i2d av)), .second, .val (.double (FP.i2d bv)), .second, .val (.double (FP.i2d cv)), .second, .val (.double (FP.i2d av)), .second, .unset, .unset, .unset, .unset] [(.ref aD)])) (s₁.setTop (entryFrame m #[(.int wv), (.int av), (.int bv), (.int cv)] maxLocals)) := fun t hh => k5 t (by
      refine XS.dstore X218.here hx rfl (hb hby at_59) rfl (l' := #[.val (.int wv), .val (.int av), .val (.int bv), .val (.int cv), .val (.int ((wv &&& (2147483647 : Int32)) % (3 : Int32))), .val (.ref aD), .val (.double (FP.i2d av)), .second, .val (.double (FP.i2d bv)), .second, .val (.double (FP.i2d cv)), .second, .val (.double (FP.i2d av)), .second, .unset, .unset, .unset, .unset]) rfl ?_
      show Steps p.tables e below (T214.setTop (mkF m 61 #[.val (.int wv), .val (.int av), .val (.int bv), .val (.int cv), .val (.int ((wv &&& (2147483647 : Int32)) % (3 : Int32))), .val (.ref aD), .val (.double (FP.i2d av)), .second, .val (.double (FP.i2d bv)), .second, .val (.double (FP.i2d cv)), .second, .val (.double (FP.i2d av)), .second, .unset, .unset, .unset, .unset] [])) _
      refine XS.aload X218.here hx rfl (hb hby at_61) rfl rfl ?_
      show Steps p.tables e below (T214.setTop (mkF m 63 #[.val (.int wv), .val (.int av), .val (.int bv), .val (.int cv), .val (.int ((wv &&& (2147483647 : Int32)) % (3 : Int32))), .val (.ref aD), .val (.double (FP.i2d av)), .second, .val (.double (FP.i2d bv)), .second, .val (.double (FP.i2d cv)), .second, .val (.double (FP.i2d av)), .second, .unset, .unset, .unset, .unset] [(.ref aD)])) _
      exact hh)
    obtain ⟨cq244, kq245, qa246, qb247, qc248⟩ := isOf hZ e231 xD
    obtain ⟨_, _, ⟨T233, L234, k_235, n_236⟩, -, X237, ⟨Lc238, hQ239, l_240, y_241, z_242⟩, st243⟩ := X218.virtualBack hx (y := (⟨"com/example/flueline/flueline/FFactor", "planKey", "()Ljava/lang/String;"⟩ : MethodName)) (z := (⟨"com/example/flueline/flueline/FFactor", "planKey", "()Ljava/lang/String;"⟩ : MethodName)) hown (mvT hZ (wT hw 10 rfl)) (mvT hZ (wT hw 11 rfl)) (notFace_of_selects (args := #[]) (mvT hZ (wT hw 13 rfl))) (mvT hZ (wT hw 13 rfl)) (mvT hZ (wT hw 12 rfl)) (by decide) (backOf (W := 0) (rmP l Z a0 hw [] aD kD h0 n0 Z0 pD) hZ (wT hw 14 rfl) (wT hw 2 rfl) (by decide) (by decide)) qa246 qc248 (g := (mkF m 63 #[.val (.int wv), .val (.int av), .val (.int bv), .val (.int cv), .val (.int ((wv &&& (2147483647 : Int32)) % (3 : Int32))), .val (.ref aD), .val (.double (FP.i2d av)), .second, .val (.double (FP.i2d bv)), .second, .val (.double (FP.i2d cv)), .second, .val (.double (FP.i2d av)), .second, .unset, .unset, .unset, .unset] [(.ref aD)])) rfl (by rw [hml]; rfl) (Steps.refl _) (argsL := []) (rest := []) (lenOf own_h19 rfl) rfl (by show 2 * 0 + _ ≤ _; exact Nat.le_of_eq rfl) (hb hby at_63) (fun _ _ => ⟨rfl, e231, (by decide : 0 + 0 ≤ _), (by decide : 0 + 0 ≤ _)⟩)
    dsimp only [Pt.U, Pt.locs, Pt.cells, Pt.slots] at X237 l_240 y_241 z_242 st243 hQ239
    subst l_240 y_241 z_242
    obtain ⟨rfl, N249, e250⟩ := hQ239
    have N251 := Fr.app N232 N249
    have k7 : own_K p e below (T233.setTop (mkF m 66 #[.val (.int wv), .val (.int av), .val (.int bv), .val (.int cv), .val (.int ((wv &&& (2147483647 : Int32)) % (3 : Int32))), .val (.ref aD), .val (.double (FP.i2d av)), .second, .val (.double (FP.i2d bv)), .second, .val (.double (FP.i2d cv)), .second, .val (.double (FP.i2d av)), .second, .unset, .unset, .unset, .unset] [(.ref kD)])) (s₁.setTop (entryFrame m #[(.int wv), (.int av), (.int bv), (.int cv)] maxLocals)) := fun t hh => k6 t (st243.trans hh)
    have k8 : own_K p e below (T233.setTop (mkF m 70 #[.val (.int wv), .val (.int av), .val (.int bv), .val (.int cv), .val (.int ((wv &&& (2147483647 : Int32)) % (3 : Int32))), .val (.ref aD), .val (.double (FP.i2d av)), .second, .val (.double (FP.i2d bv)), .second, .val (.double (FP.i2d cv)), .second, .val (.double (FP.i2d av)), .second, .val (.ref kD), .unset, .unset, .unset] [(.ref kD)])) (s₁.setTop (entryFrame m #[(.int wv), (.int av), (.int bv), (.int cv)] maxLocals)) := fun t hh => k7 t (by
      refine XS.astore X237.here hx rfl (hb hby at_66) rfl rfl (l' := #[.val (.int wv), .val (.int av), .val (.int bv), .val (.int cv), .val (.int ((wv &&& (2147483647 : Int32)) % (3 : Int32))), .val (.ref aD), .val (.double (FP.i2d av)), .second, .val (.double (FP.i2d bv)), .second, .val (.double (FP.i2d cv)), .second, .val (.double (FP.i2d av)), .second, .val (.ref kD), .unset, .unset, .unset]) rfl ?_
      show Steps p.tables e below (T233.setTop (mkF m 68 #[.val (.int wv), .val (.int av), .val (.int bv), .val (.int cv), .val (.int ((wv &&& (2147483647 : Int32)) % (3 : Int32))), .val (.ref aD), .val (.double (FP.i2d av)), .second, .val (.double (FP.i2d bv)), .second, .val (.double (FP.i2d cv)), .second, .val (.double (FP.i2d av)), .second, .val (.ref kD), .unset, .unset, .unset] [])) _
      refine XS.aload X237.here hx rfl (hb hby at_68) rfl rfl ?_
      show Steps p.tables e below (T233.setTop (mkF m 70 #[.val (.int wv), .val (.int av), .val (.int bv), .val (.int cv), .val (.int ((wv &&& (2147483647 : Int32)) % (3 : Int32))), .val (.ref aD), .val (.double (FP.i2d av)), .second, .val (.double (FP.i2d bv)), .second, .val (.double (FP.i2d cv)), .second, .val (.double (FP.i2d av)), .second, .val (.ref kD), .unset, .unset, .unset] [(.ref kD)])) _
      exact hh)
    obtain ⟨cq263, kq264, qa265, qb266, qc267⟩ := isOf hZ e250 yD
    obtain ⟨_, _, ⟨T252, L253, k_254, n_255⟩, -, X256, ⟨Lc257, hQ258, l_259, y_260, z_261⟩, st262⟩ := X237.virtualBack hx (y := (⟨"java/lang/String", "length", "()I"⟩ : MethodName)) (z := (⟨"java/lang/String", "length", "()I"⟩ : MethodName)) hown (mvT hZ (wT hw 17 rfl)) (mvT hZ (wT hw 18 rfl)) (notFace_of_selects (args := #[]) (mvT hZ (wT hw 20 rfl))) (mvT hZ (wT hw 20 rfl)) (mvT hZ (wT hw 19 rfl)) (by decide) (backOf (W := 0) (rmLe l Z a0 hw [] kD h0 n0 Z0 ci sC hc cD_ bD tD (102 : Int32) (100 : Int32) yD vD rD) hZ (wT hw 22 rfl) (wT hw 21 rfl) (by decide) (by decide)) qa265 qc267 (g := (mkF m 70 #[.val (.int wv), .val (.int av), .val (.int bv), .val (.int cv), .val (.int ((wv &&& (2147483647 : Int32)) % (3 : Int32))), .val (.ref aD), .val (.double (FP.i2d av)), .second, .val (.double (FP.i2d bv)), .second, .val (.double (FP.i2d cv)), .second, .val (.double (FP.i2d av)), .second, .val (.ref kD), .unset, .unset, .unset] [(.ref kD)])) rfl (by rw [hml]; rfl) (Steps.refl _) (argsL := []) (rest := []) (lenOf own_h20 rfl) rfl (by show 2 * 0 + _ ≤ _; exact Nat.le_of_eq rfl) (hb hby at_70) (fun _ _ => ⟨rfl, e250, (by decide : 0 + 0 ≤ _), (by decide : 0 + 0 ≤ _)⟩)
    dsimp only [Pt.U, Pt.locs, Pt.cells, Pt.slots] at X256 l_259 y_260 z_261 st262 hQ258
    subst l_259 y_260 z_261
    obtain ⟨rfl, N268, e269⟩ := hQ258
    have N270 := Fr.app N251 N268
    have k9 : own_K p e below (T252.setTop (mkF m 73 #[.val (.int wv), .val (.int av), .val (.int bv), .val (.int cv), .val (.int ((wv &&& (2147483647 : Int32)) % (3 : Int32))), .val (.ref aD), .val (.double (FP.i2d av)), .second, .val (.double (FP.i2d bv)), .second, .val (.double (FP.i2d cv)), .second, .val (.double (FP.i2d av)), .second, .val (.ref kD), .unset, .unset, .unset] [(.int (2 : Int32))])) (s₁.setTop (entryFrame m #[(.int wv), (.int av), (.int bv), (.int cv)] maxLocals)) := fun t hh => k8 t (st262.trans hh)
    have k10 : own_K p e below (T252.setTop (mkF m 82 #[.val (.int wv), .val (.int av), .val (.int bv), .val (.int cv), .val (.int ((wv &&& (2147483647 : Int32)) % (3 : Int32))), .val (.ref aD), .val (.double (FP.i2d av)), .second, .val (.double (FP.i2d bv)), .second, .val (.double (FP.i2d cv)), .second, .val (.double (FP.i2d av)), .second, .val (.ref kD), .unset, .unset, .unset] [(.int (0 : Int32)), (.ref kD)])) (s₁.setTop (entryFrame m #[(.int wv), (.int av), (.int bv), (.int cv)] maxLocals)) := fun t hh => k9 t (by
      refine XS.iconst X256.here hx rfl (hb hby at_73) ?_
      show Steps p.tables e below (T252.setTop (mkF m 74 #[.val (.int wv), .val (.int av), .val (.int bv), .val (.int cv), .val (.int ((wv &&& (2147483647 : Int32)) % (3 : Int32))), .val (.ref aD), .val (.double (FP.i2d av)), .second, .val (.double (FP.i2d bv)), .second, .val (.double (FP.i2d cv)), .second, .val (.double (FP.i2d av)), .second, .val (.ref kD), .unset, .unset, .unset] [(.int (2 : Int32)), (.int (2 : Int32))])) _
      refine XS.icmpYes X256.here hx rfl (pc0 := 74) (pc' := 79) rfl (hb hby at_74) rfl (by decide) (by decide) (by decide) ?_
      show Steps p.tables e below (T252.setTop (mkF m 79 #[.val (.int wv), .val (.int av), .val (.int bv), .val (.int cv), .val (.int ((wv &&& (2147483647 : Int32)) % (3 : Int32))), .val (.ref aD), .val (.double (FP.i2d av)), .second, .val (.double (FP.i2d bv)), .second, .val (.double (FP.i2d cv)), .second, .val (.double (FP.i2d av)), .second, .val (.ref kD), .unset, .unset, .unset] [])) _
      refine XS.aload X256.here hx rfl (hb hby at_79) rfl rfl ?_
      show Steps p.tables e below (T252.setTop (mkF m 81 #[.val (.int wv), .val (.int av), .val (.int bv), .val (.int cv), .val (.int ((wv &&& (2147483647 : Int32)) % (3 : Int32))), .val (.ref aD), .val (.double (FP.i2d av)), .second, .val (.double (FP.i2d bv)), .second, .val (.double (FP.i2d cv)), .second, .val (.double (FP.i2d av)), .second, .val (.ref kD), .unset, .unset, .unset] [(.ref kD)])) _
      refine XS.iconst X256.here hx rfl (hb hby at_81) ?_
      show Steps p.tables e below (T252.setTop (mkF m 82 #[.val (.int wv), .val (.int av), .val (.int bv), .val (.int cv), .val (.int ((wv &&& (2147483647 : Int32)) % (3 : Int32))), .val (.ref aD), .val (.double (FP.i2d av)), .second, .val (.double (FP.i2d bv)), .second, .val (.double (FP.i2d cv)), .second, .val (.double (FP.i2d av)), .second, .val (.ref kD), .unset, .unset, .unset] [(.int (0 : Int32)), (.ref kD)])) _
      exact hh)
    obtain ⟨cq282, kq283, qa284, qb285, qc286⟩ := isOf hZ e269 yD
    obtain ⟨_, _, ⟨T271, L272, k_273, n_274⟩, -, X275, ⟨Lc276, hQ277, l_278, y_279, z_280⟩, st281⟩ := X256.virtualBack hx (y := (⟨"java/lang/String", "charAt", "(I)C"⟩ : MethodName)) (z := (⟨"java/lang/String", "charAt", "(I)C"⟩ : MethodName)) hown (mvT hZ (wT hw 33 rfl)) (mvT hZ (wT hw 34 rfl)) (notFace_of_selects (args := #[]) (mvT hZ (wT hw 36 rfl))) (mvT hZ (wT hw 36 rfl)) (mvT hZ (wT hw 35 rfl)) (by decide) (backOf (W := 0) (rmCh0 l Z a0 hw [] kD h0 n0 Z0 ci sC hc cD_ bD tD (102 : Int32) (100 : Int32) yD vD rD gv sG hg (by decide) (by decide)) hZ (wT hw 37 rfl) (wT hw 21 rfl) (by decide) (by decide)) qa284 qc286 (g := (mkF m 82 #[.val (.int wv), .val (.int av), .val (.int bv), .val (.int cv), .val (.int ((wv &&& (2147483647 : Int32)) % (3 : Int32))), .val (.ref aD), .val (.double (FP.i2d av)), .second, .val (.double (FP.i2d bv)), .second, .val (.double (FP.i2d cv)), .second, .val (.double (FP.i2d av)), .second, .val (.ref kD), .unset, .unset, .unset] [(.int (0 : Int32)), (.ref kD)])) rfl (by rw [hml]; rfl) (Steps.refl _) (argsL := [(.int (0 : Int32))]) (rest := []) (lenOf own_h22 rfl) rfl (by show 2 * 0 + _ ≤ _; exact Nat.le_of_eq rfl) (hb hby at_82) (fun _ _ => ⟨rfl, e269, (by decide : 0 + 0 ≤ _), (by decide : 0 + 0 ≤ _)⟩)
    dsimp only [Pt.U, Pt.locs, Pt.cells, Pt.slots] at X275 l_278 y_279 z_280 st281 hQ277
    subst l_278 y_279 z_280
    obtain ⟨rfl, N287, e288⟩ := hQ277
    have N289 := Fr.app N270 N287
    have k11 : own_K p e below (T271.setTop (mkF m 85 #[.val (.int wv), .val (.int av), .val (.int bv), .val (.int cv), .val (.int ((wv &&& (2147483647 : Int32)) % (3 : Int32))), .val (.ref aD), .val (.double (FP.i2d av)), .second, .val (.double (FP.i2d bv)), .second, .val (.double (FP.i2d cv)), .second, .val (.double (FP.i2d av)), .second, .val (.ref kD), .unset, .unset, .unset] [(.int (102 : Int32))])) (s₁.setTop (entryFrame m #[(.int wv), (.int av), (.int bv), (.int cv)] maxLocals)) := fun t hh => k10 t (st281.trans hh)
    have k12 : own_K p e below (T271.setTop (mkF m 95 #[.val (.int wv), .val (.int av), .val (.int bv), .val (.int cv), .val (.int ((wv &&& (2147483647 : Int32)) % (3 : Int32))), .val (.ref aD), .val (.double (FP.i2d av)), .second, .val (.double (FP.i2d bv)), .second, .val (.double (FP.i2d cv)), .second, .val (.double (FP.i2d av)), .second, .val (.ref kD), .unset, .unset, .unset] [(.int (1 : Int32)), (.ref kD)])) (s₁.setTop (entryFrame m #[(.int wv), (.int av), (.int bv), (.int cv)] maxLocals)) := fun t hh => k11 t (by
      refine XS.bipush X275.here hx rfl (hb hby at_85) ?_
      show Steps p.tables e below (T271.setTop (mkF m 87 #[.val (.int wv), .val (.int av), .val (.int bv), .val (.int cv), .val (.int ((wv &&& (2147483647 : Int32)) % (3 : Int32))), .val (.ref aD), .val (.double (FP.i2d av)), .second, .val (.double (FP.i2d bv)), .second, .val (.double (FP.i2d cv)), .second, .val (.double (FP.i2d av)), .second, .val (.ref kD), .unset, .unset, .unset] [(.int (102 : Int32)), (.int (102 : Int32))])) _
      refine XS.icmpYes X275.here hx rfl (pc0 := 87) (pc' := 92) rfl (hb hby at_87) rfl (by decide) (by decide) (by decide) ?_
      show Steps p.tables e below (T271.setTop (mkF m 92 #[.val (.int wv), .val (.int av), .val (.int bv), .val (.int cv), .val (.int ((wv &&& (2147483647 : Int32)) % (3 : Int32))), .val (.ref aD), .val (.double (FP.i2d av)), .second, .val (.double (FP.i2d bv)), .second, .val (.double (FP.i2d cv)), .second, .val (.double (FP.i2d av)), .second, .val (.ref kD), .unset, .unset, .unset] [])) _
      refine XS.aload X275.here hx rfl (hb hby at_92) rfl rfl ?_
      show Steps p.tables e below (T271.setTop (mkF m 94 #[.val (.int wv), .val (.int av), .val (.int bv), .val (.int cv), .val (.int ((wv &&& (2147483647 : Int32)) % (3 : Int32))), .val (.ref aD), .val (.double (FP.i2d av)), .second, .val (.double (FP.i2d bv)), .second, .val (.double (FP.i2d cv)), .second, .val (.double (FP.i2d av)), .second, .val (.ref kD), .unset, .unset, .unset] [(.ref kD)])) _
      refine XS.iconst X275.here hx rfl (hb hby at_94) ?_
      show Steps p.tables e below (T271.setTop (mkF m 95 #[.val (.int wv), .val (.int av), .val (.int bv), .val (.int cv), .val (.int ((wv &&& (2147483647 : Int32)) % (3 : Int32))), .val (.ref aD), .val (.double (FP.i2d av)), .second, .val (.double (FP.i2d bv)), .second, .val (.double (FP.i2d cv)), .second, .val (.double (FP.i2d av)), .second, .val (.ref kD), .unset, .unset, .unset] [(.int (1 : Int32)), (.ref kD)])) _
      exact hh)
    obtain ⟨cq301, kq302, qa303, qb304, qc305⟩ := isOf hZ e288 yD
    obtain ⟨_, _, ⟨T290, L291, k_292, n_293⟩, -, X294, ⟨Lc295, hQ296, l_297, y_298, z_299⟩, st300⟩ := X275.virtualBack hx (y := (⟨"java/lang/String", "charAt", "(I)C"⟩ : MethodName)) (z := (⟨"java/lang/String", "charAt", "(I)C"⟩ : MethodName)) hown (mvT hZ (wT hw 33 rfl)) (mvT hZ (wT hw 34 rfl)) (notFace_of_selects (args := #[]) (mvT hZ (wT hw 36 rfl))) (mvT hZ (wT hw 36 rfl)) (mvT hZ (wT hw 35 rfl)) (by decide) (backOf (W := 0) (rmCh1 l Z a0 hw [] kD h0 n0 Z0 ci sC hc cD_ bD tD (102 : Int32) (100 : Int32) yD vD rD gv sG hg (by decide) (by decide)) hZ (wT hw 37 rfl) (wT hw 21 rfl) (by decide) (by decide)) qa303 qc305 (g := (mkF m 95 #[.val (.int wv), .val (.int av), .val (.int bv), .val (.int cv), .val (.int ((wv &&& (2147483647 : Int32)) % (3 : Int32))), .val (.ref aD), .val (.double (FP.i2d av)), .second, .val (.double (FP.i2d bv)), .second, .val (.double (FP.i2d cv)), .second, .val (.double (FP.i2d av)), .second, .val (.ref kD), .unset, .unset, .unset] [(.int (1 : Int32)), (.ref kD)])) rfl (by rw [hml]; rfl) (Steps.refl _) (argsL := [(.int (1 : Int32))]) (rest := []) (lenOf own_h22 rfl) rfl (by show 2 * 0 + _ ≤ _; exact Nat.le_of_eq rfl) (hb hby at_95) (fun _ _ => ⟨rfl, e288, (by decide : 0 + 0 ≤ _), (by decide : 0 + 0 ≤ _)⟩)
    dsimp only [Pt.U, Pt.locs, Pt.cells, Pt.slots] at X294 l_297 y_298 z_299 st300 hQ296
    subst l_297 y_298 z_299
    obtain ⟨rfl, N306, e307⟩ := hQ296
    have N308 := Fr.app N289 N306
    have k13 : own_K p e below (T290.setTop (mkF m 98 #[.val (.int wv), .val (.int av), .val (.int bv), .val (.int cv), .val (.int ((wv &&& (2147483647 : Int32)) % (3 : Int32))), .val (.ref aD), .val (.double (FP.i2d av)), .second, .val (.double (FP.i2d bv)), .second, .val (.double (FP.i2d cv)), .second, .val (.double (FP.i2d av)), .second, .val (.ref kD), .unset, .unset, .unset] [(.int (100 : Int32))])) (s₁.setTop (entryFrame m #[(.int wv), (.int av), (.int bv), (.int cv)] maxLocals)) := fun t hh => k12 t (st300.trans hh)
    have k14 : own_K p e below (T290.setTop (mkF m 157 #[.val (.int wv), .val (.int av), .val (.int bv), .val (.int cv), .val (.int ((wv &&& (2147483647 : Int32)) % (3 : Int32))), .val (.ref aD), .val (.double (FP.i2d av)), .second, .val (.double (FP.i2d bv)), .second, .val (.double (FP.i2d cv)), .second, .val (.double (FP.i2d av)), .second, .val (.ref kD), .val (.int (100 : Int32)), .val (.double (FP.i2d av)), .second] [(.int (1 : Int32))])) (s₁.setTop (entryFrame m #[(.int wv), (.int av), (.int bv), (.int cv)] maxLocals)) := fun t hh => k13 t (by
      refine XS.istore X294.here hx rfl (hb hby at_98) rfl (l' := #[.val (.int wv), .val (.int av), .val (.int bv), .val (.int cv), .val (.int ((wv &&& (2147483647 : Int32)) % (3 : Int32))), .val (.ref aD), .val (.double (FP.i2d av)), .second, .val (.double (FP.i2d bv)), .second, .val (.double (FP.i2d cv)), .second, .val (.double (FP.i2d av)), .second, .val (.ref kD), .val (.int (100 : Int32)), .unset, .unset]) rfl ?_
      show Steps p.tables e below (T290.setTop (mkF m 100 #[.val (.int wv), .val (.int av), .val (.int bv), .val (.int cv), .val (.int ((wv &&& (2147483647 : Int32)) % (3 : Int32))), .val (.ref aD), .val (.double (FP.i2d av)), .second, .val (.double (FP.i2d bv)), .second, .val (.double (FP.i2d cv)), .second, .val (.double (FP.i2d av)), .second, .val (.ref kD), .val (.int (100 : Int32)), .unset, .unset] [])) _
      refine XS.iload X294.here hx rfl (hb hby at_100) rfl ?_
      show Steps p.tables e below (T290.setTop (mkF m 102 #[.val (.int wv), .val (.int av), .val (.int bv), .val (.int cv), .val (.int ((wv &&& (2147483647 : Int32)) % (3 : Int32))), .val (.ref aD), .val (.double (FP.i2d av)), .second, .val (.double (FP.i2d bv)), .second, .val (.double (FP.i2d cv)), .second, .val (.double (FP.i2d av)), .second, .val (.ref kD), .val (.int (100 : Int32)), .unset, .unset] [(.int (100 : Int32))])) _
      refine XS.bipush X294.here hx rfl (hb hby at_102) ?_
      show Steps p.tables e below (T290.setTop (mkF m 104 #[.val (.int wv), .val (.int av), .val (.int bv), .val (.int cv), .val (.int ((wv &&& (2147483647 : Int32)) % (3 : Int32))), .val (.ref aD), .val (.double (FP.i2d av)), .second, .val (.double (FP.i2d bv)), .second, .val (.double (FP.i2d cv)), .second, .val (.double (FP.i2d av)), .second, .val (.ref kD), .val (.int (100 : Int32)), .unset, .unset] [(.int (100 : Int32)), (.int (100 : Int32))])) _
      refine XS.icmpNo X294.here hx rfl (hb hby at_104) rfl (by decide) ?_
      show Steps p.tables e below (T290.setTop (mkF m 107 #[.val (.int wv), .val (.int av), .val (.int bv), .val (.int cv), .val (.int ((wv &&& (2147483647 : Int32)) % (3 : Int32))), .val (.ref aD), .val (.double (FP.i2d av)), .second, .val (.double (FP.i2d bv)), .second, .val (.double (FP.i2d cv)), .second, .val (.double (FP.i2d av)), .second, .val (.ref kD), .val (.int (100 : Int32)), .unset, .unset] [])) _
      refine XS.dload X294.here hx rfl (hb hby at_107) rfl ?_
      show Steps p.tables e below (T290.setTop (mkF m 109 #[.val (.int wv), .val (.int av), .val (.int bv), .val (.int cv), .val (.int ((wv &&& (2147483647 : Int32)) % (3 : Int32))), .val (.ref aD), .val (.double (FP.i2d av)), .second, .val (.double (FP.i2d bv)), .second, .val (.double (FP.i2d cv)), .second, .val (.double (FP.i2d av)), .second, .val (.ref kD), .val (.int (100 : Int32)), .unset, .unset] [(.double (FP.i2d av))])) _
      refine XS.dstore X294.here hx rfl (hb hby at_109) rfl (l' := #[.val (.int wv), .val (.int av), .val (.int bv), .val (.int cv), .val (.int ((wv &&& (2147483647 : Int32)) % (3 : Int32))), .val (.ref aD), .val (.double (FP.i2d av)), .second, .val (.double (FP.i2d bv)), .second, .val (.double (FP.i2d cv)), .second, .val (.double (FP.i2d av)), .second, .val (.ref kD), .val (.int (100 : Int32)), .val (.double (FP.i2d av)), .second]) rfl ?_
      show Steps p.tables e below (T290.setTop (mkF m 111 #[.val (.int wv), .val (.int av), .val (.int bv), .val (.int cv), .val (.int ((wv &&& (2147483647 : Int32)) % (3 : Int32))), .val (.ref aD), .val (.double (FP.i2d av)), .second, .val (.double (FP.i2d bv)), .second, .val (.double (FP.i2d cv)), .second, .val (.double (FP.i2d av)), .second, .val (.ref kD), .val (.int (100 : Int32)), .val (.double (FP.i2d av)), .second] [])) _
      refine XS.goto X294.here hx rfl (pc0 := 111) (pc' := 144) rfl (hb hby at_111) (by decide) (by decide) ?_
      show Steps p.tables e below (T290.setTop (mkF m 144 #[.val (.int wv), .val (.int av), .val (.int bv), .val (.int cv), .val (.int ((wv &&& (2147483647 : Int32)) % (3 : Int32))), .val (.ref aD), .val (.double (FP.i2d av)), .second, .val (.double (FP.i2d bv)), .second, .val (.double (FP.i2d cv)), .second, .val (.double (FP.i2d av)), .second, .val (.ref kD), .val (.int (100 : Int32)), .val (.double (FP.i2d av)), .second] [])) _
      refine XS.dload X294.here hx rfl (hb hby at_144) rfl ?_
      show Steps p.tables e below (T290.setTop (mkF m 146 #[.val (.int wv), .val (.int av), .val (.int bv), .val (.int cv), .val (.int ((wv &&& (2147483647 : Int32)) % (3 : Int32))), .val (.ref aD), .val (.double (FP.i2d av)), .second, .val (.double (FP.i2d bv)), .second, .val (.double (FP.i2d cv)), .second, .val (.double (FP.i2d av)), .second, .val (.ref kD), .val (.int (100 : Int32)), .val (.double (FP.i2d av)), .second] [(.double (FP.i2d av))])) _
      refine XS.dload X294.here hx rfl (hb hby at_146) rfl ?_
      show Steps p.tables e below (T290.setTop (mkF m 148 #[.val (.int wv), .val (.int av), .val (.int bv), .val (.int cv), .val (.int ((wv &&& (2147483647 : Int32)) % (3 : Int32))), .val (.ref aD), .val (.double (FP.i2d av)), .second, .val (.double (FP.i2d bv)), .second, .val (.double (FP.i2d cv)), .second, .val (.double (FP.i2d av)), .second, .val (.ref kD), .val (.int (100 : Int32)), .val (.double (FP.i2d av)), .second] [(.double (FP.i2d av)), (.double (FP.i2d av))])) _
      refine XS.dcmpS X294.here hx rfl (hb hby at_148) rfl (dcmpV_self (Jvm.Free.Fl.i2d_fin av).noNaN _) ?_
      show Steps p.tables e below (T290.setTop (mkF m 149 #[.val (.int wv), .val (.int av), .val (.int bv), .val (.int cv), .val (.int ((wv &&& (2147483647 : Int32)) % (3 : Int32))), .val (.ref aD), .val (.double (FP.i2d av)), .second, .val (.double (FP.i2d bv)), .second, .val (.double (FP.i2d cv)), .second, .val (.double (FP.i2d av)), .second, .val (.ref kD), .val (.int (100 : Int32)), .val (.double (FP.i2d av)), .second] [(.int (0 : Int32))])) _
      refine XS.ifNo X294.here hx rfl (hb hby at_149) rfl (by decide) ?_
      show Steps p.tables e below (T290.setTop (mkF m 152 #[.val (.int wv), .val (.int av), .val (.int bv), .val (.int cv), .val (.int ((wv &&& (2147483647 : Int32)) % (3 : Int32))), .val (.ref aD), .val (.double (FP.i2d av)), .second, .val (.double (FP.i2d bv)), .second, .val (.double (FP.i2d cv)), .second, .val (.double (FP.i2d av)), .second, .val (.ref kD), .val (.int (100 : Int32)), .val (.double (FP.i2d av)), .second] [])) _
      refine XS.iconst X294.here hx rfl (hb hby at_152) ?_
      show Steps p.tables e below (T290.setTop (mkF m 153 #[.val (.int wv), .val (.int av), .val (.int bv), .val (.int cv), .val (.int ((wv &&& (2147483647 : Int32)) % (3 : Int32))), .val (.ref aD), .val (.double (FP.i2d av)), .second, .val (.double (FP.i2d bv)), .second, .val (.double (FP.i2d cv)), .second, .val (.double (FP.i2d av)), .second, .val (.ref kD), .val (.int (100 : Int32)), .val (.double (FP.i2d av)), .second] [(.int (1 : Int32))])) _
      refine XS.goto X294.here hx rfl (pc0 := 153) (pc' := 157) rfl (hb hby at_153) (by decide) (by decide) ?_
      show Steps p.tables e below (T290.setTop (mkF m 157 #[.val (.int wv), .val (.int av), .val (.int bv), .val (.int cv), .val (.int ((wv &&& (2147483647 : Int32)) % (3 : Int32))), .val (.ref aD), .val (.double (FP.i2d av)), .second, .val (.double (FP.i2d bv)), .second, .val (.double (FP.i2d cv)), .second, .val (.double (FP.i2d av)), .second, .val (.ref kD), .val (.int (100 : Int32)), .val (.double (FP.i2d av)), .second] [(.int (1 : Int32))])) _
      exact hh)
    obtain ⟨fs, hr, hrun, hended, hW, hsame⟩ := X294.leave (v := some (.int (1 : Int32))) (fun h => by rw [Bd.returns] at h; cases h)
    refine ⟨_, _, k14 _ (retN X294 hx (t := .boolean) Bd.returns (by simp) (hb hby at_157) hr), hrun, hended, _, _, rfl, ?_, ⟨_, rfl⟩, hW, hsame.mono (by decide) (by decide)⟩
    show QL h0 n0 _ T290.heap _
    rw [e307]
    exact ⟨rfl, N308⟩
  ·
    have k15 : own_K p e below (s₁.setTop (mkF m 22 #[.val (.int wv), .val (.int av), .val (.int bv), .val (.int cv), .val (.int ((wv &&& (2147483647 : Int32)) % (3 : Int32))), .unset, .unset, .unset, .unset, .unset, .unset, .unset, .unset, .unset, .unset, .unset, .unset, .unset] [(.int (1 : Int32)), (.int ((wv &&& (2147483647 : Int32)) % (3 : Int32)))])) (s₁.setTop (entryFrame m #[(.int wv), (.int av), (.int bv), (.int cv)] maxLocals)) := fun t hh => k1 t (by
      refine XS.ifYes X0.here hx rfl (pc0 := 10) (pc' := 19) rfl (hb hby at_10) rfl (own_ifT_ne c10) (by decide) (by decide) ?_
      show Steps p.tables e below (s₁.setTop (mkF m 19 #[.val (.int wv), .val (.int av), .val (.int bv), .val (.int cv), .val (.int ((wv &&& (2147483647 : Int32)) % (3 : Int32))), .unset, .unset, .unset, .unset, .unset, .unset, .unset, .unset, .unset, .unset, .unset, .unset, .unset] [])) _
      refine XS.iload X0.here hx rfl (hb hby at_19) rfl ?_
      show Steps p.tables e below (s₁.setTop (mkF m 21 #[.val (.int wv), .val (.int av), .val (.int bv), .val (.int cv), .val (.int ((wv &&& (2147483647 : Int32)) % (3 : Int32))), .unset, .unset, .unset, .unset, .unset, .unset, .unset, .unset, .unset, .unset, .unset, .unset, .unset] [(.int ((wv &&& (2147483647 : Int32)) % (3 : Int32)))])) _
      refine XS.iconst X0.here hx rfl (hb hby at_21) ?_
      show Steps p.tables e below (s₁.setTop (mkF m 22 #[.val (.int wv), .val (.int av), .val (.int bv), .val (.int cv), .val (.int ((wv &&& (2147483647 : Int32)) % (3 : Int32))), .unset, .unset, .unset, .unset, .unset, .unset, .unset, .unset, .unset, .unset, .unset, .unset, .unset] [(.int (1 : Int32)), (.int ((wv &&& (2147483647 : Int32)) % (3 : Int32)))])) _
      exact hh)
    by_cases c22 : ((wv &&& (2147483647 : Int32)) % (3 : Int32)) = (1 : Int32)
    ·
      have k16 : own_K p e below (s₁.setTop (mkF m 25 #[.val (.int wv), .val (.int av), .val (.int bv), .val (.int cv), .val (.int ((wv &&& (2147483647 : Int32)) % (3 : Int32))), .unset, .unset, .unset, .unset, .unset, .unset, .unset, .unset, .unset, .unset, .unset, .unset, .unset] [])) (s₁.setTop (entryFrame m #[(.int wv), (.int av), (.int bv), (.int cv)] maxLocals)) := fun t hh => k15 t (by
        refine XS.icmpNo X0.here hx rfl (hb hby at_22) rfl (own_icF_ne c22) ?_
        show Steps p.tables e below (s₁.setTop (mkF m 25 #[.val (.int wv), .val (.int av), .val (.int bv), .val (.int cv), .val (.int ((wv &&& (2147483647 : Int32)) % (3 : Int32))), .unset, .unset, .unset, .unset, .unset, .unset, .unset, .unset, .unset, .unset, .unset, .unset, .unset] [])) _
        exact hh)
      obtain ⟨T309, X310, e311, st312⟩ := getS X0 hx hZ hown (host := "") (wT hw 55 rfl) Via.refl e0 sW_ (g := (mkF m 25 #[.val (.int wv), .val (.int av), .val (.int bv), .val (.int cv), .val (.int ((wv &&& (2147483647 : Int32)) % (3 : Int32))), .unset, .unset, .unset, .unset, .unset, .unset, .unset, .unset, .unset, .unset, .unset, .unset, .unset] [])) rfl (hb hby at_25)
      have k17 : own_K p e below (T309.setTop (mkF m 28 #[.val (.int wv), .val (.int av), .val (.int bv), .val (.int cv), .val (.int ((wv &&& (2147483647 : Int32)) % (3 : Int32))), .unset, .unset, .unset, .unset, .unset, .unset, .unset, .unset, .unset, .unset, .unset, .unset, .unset] [(.ref aW)])) (s₁.setTop (entryFrame m #[(.int wv), (.int av), (.int bv), (.int cv)] maxLocals)) := fun t hh => k16 t (st312 t hh)
      have k18 : own_K p e below (T309.setTop (mkF m 56 #[.val (.int wv), .val (.int av), .val (.int bv), .val (.int cv), .val (.int ((wv &&& (2147483647 : Int32)) % (3 : Int32))), .val (.ref aW), .val (.double (FP.i2d av)), .second, .val (.double (FP.i2d bv)), .second, .val (.double (FP.i2d cv)), .second, .unset, .unset, .unset, .unset, .unset, .unset] [(.double (FP.i2d cv)), (.double (FP.i2d bv)), (.double (FP.i2d av)), (.ref aW)])) (s₁.setTop (entryFrame m #[(.int wv), (.int av), (.int bv), (.int cv)] maxLocals)) := fun t hh => k17 t (by
        refine XS.goto X310.here hx rfl (pc0 := 28) (pc' := 34) rfl (hb hby at_28) (by decide) (by decide) ?_
        show Steps p.tables e below (T309.setTop (mkF m 34 #[.val (.int wv), .val (.int av), .val (.int bv), .val (.int cv), .val (.int ((wv &&& (2147483647 : Int32)) % (3 : Int32))), .unset, .unset, .unset, .unset, .unset, .unset, .unset, .unset, .unset, .unset, .unset, .unset, .unset] [(.ref aW)])) _
        refine XS.astore X310.here hx rfl (hb hby at_34) rfl rfl (l' := #[.val (.int wv), .val (.int av), .val (.int bv), .val (.int cv), .val (.int ((wv &&& (2147483647 : Int32)) % (3 : Int32))), .val (.ref aW), .unset, .unset, .unset, .unset, .unset, .unset, .unset, .unset, .unset, .unset, .unset, .unset]) rfl ?_
        show Steps p.tables e below (T309.setTop (mkF m 36 #[.val (.int wv), .val (.int av), .val (.int bv), .val (.int cv), .val (.int ((wv &&& (2147483647 : Int32)) % (3 : Int32))), .val (.ref aW), .unset, .unset, .unset, .unset, .unset, .unset, .unset, .unset, .unset, .unset, .unset, .unset] [])) _
        refine XS.iloadN X310.here hx rfl (hb hby at_36) rfl ?_
        show Steps p.tables e below (T309.setTop (mkF m 37 #[.val (.int wv), .val (.int av), .val (.int bv), .val (.int cv), .val (.int ((wv &&& (2147483647 : Int32)) % (3 : Int32))), .val (.ref aW), .unset, .unset, .unset, .unset, .unset, .unset, .unset, .unset, .unset, .unset, .unset, .unset] [(.int av)])) _
        refine XS.i2dS X310.here hx rfl (hb hby at_37) rfl rfl ?_
        show Steps p.tables e below (T309.setTop (mkF m 38 #[.val (.int wv), .val (.int av), .val (.int bv), .val (.int cv), .val (.int ((wv &&& (2147483647 : Int32)) % (3 : Int32))), .val (.ref aW), .unset, .unset, .unset, .unset, .unset, .unset, .unset, .unset, .unset, .unset, .unset, .unset] [(.double (FP.i2d av))])) _
        refine XS.dstore X310.here hx rfl (hb hby at_38) rfl (l' := #[.val (.int wv), .val (.int av), .val (.int bv), .val (.int cv), .val (.int ((wv &&& (2147483647 : Int32)) % (3 : Int32))), .val (.ref aW), .val (.double (FP.i2d av)), .second, .unset, .unset, .unset, .unset, .unset, .unset, .unset, .unset, .unset, .unset]) rfl ?_
        show Steps p.tables e below (T309.setTop (mkF m 40 #[.val (.int wv), .val (.int av), .val (.int bv), .val (.int cv), .val (.int ((wv &&& (2147483647 : Int32)) % (3 : Int32))), .val (.ref aW), .val (.double (FP.i2d av)), .second, .unset, .unset, .unset, .unset, .unset, .unset, .unset, .unset, .unset, .unset] [])) _
        refine XS.iloadN X310.here hx rfl (hb hby at_40) rfl ?_
        show Steps p.tables e below (T309.setTop (mkF m 41 #[.val (.int wv), .val (.int av), .val (.int bv), .val (.int cv), .val (.int ((wv &&& (2147483647 : Int32)) % (3 : Int32))), .val (.ref aW), .val (.double (FP.i2d av)), .second, .unset, .unset, .unset, .unset, .unset, .unset, .unset, .unset, .unset, .unset] [(.int bv)])) _
        refine XS.i2dS X310.here hx rfl (hb hby at_41) rfl rfl ?_
        show Steps p.tables e below (T309.setTop (mkF m 42 #[.val (.int wv), .val (.int av), .val (.int bv), .val (.int cv), .val (.int ((wv &&& (2147483647 : Int32)) % (3 : Int32))), .val (.ref aW), .val (.double (FP.i2d av)), .second, .unset, .unset, .unset, .unset, .unset, .unset, .unset, .unset, .unset, .unset] [(.double (FP.i2d bv))])) _
        refine XS.dstore X310.here hx rfl (hb hby at_42) rfl (l' := #[.val (.int wv), .val (.int av), .val (.int bv), .val (.int cv), .val (.int ((wv &&& (2147483647 : Int32)) % (3 : Int32))), .val (.ref aW), .val (.double (FP.i2d av)), .second, .val (.double (FP.i2d bv)), .second, .unset, .unset, .unset, .unset, .unset, .unset, .unset, .unset]) rfl ?_
        show Steps p.tables e below (T309.setTop (mkF m 44 #[.val (.int wv), .val (.int av), .val (.int bv), .val (.int cv), .val (.int ((wv &&& (2147483647 : Int32)) % (3 : Int32))), .val (.ref aW), .val (.double (FP.i2d av)), .second, .val (.double (FP.i2d bv)), .second, .unset, .unset, .unset, .unset, .unset, .unset, .unset, .unset] [])) _
        refine XS.iloadN X310.here hx rfl (hb hby at_44) rfl ?_
        show Steps p.tables e below (T309.setTop (mkF m 45 #[.val (.int wv), .val (.int av), .val (.int bv), .val (.int cv), .val (.int ((wv &&& (2147483647 : Int32)) % (3 : Int32))), .val (.ref aW), .val (.double (FP.i2d av)), .second, .val (.double (FP.i2d bv)), .second, .unset, .unset, .unset, .unset, .unset, .unset, .unset, .unset] [(.int cv)])) _
        refine XS.i2dS X310.here hx rfl (hb hby at_45) rfl rfl ?_
        show Steps p.tables e below (T309.setTop (mkF m 46 #[.val (.int wv), .val (.int av), .val (.int bv), .val (.int cv), .val (.int ((wv &&& (2147483647 : Int32)) % (3 : Int32))), .val (.ref aW), .val (.double (FP.i2d av)), .second, .val (.double (FP.i2d bv)), .second, .unset, .unset, .unset, .unset, .unset, .unset, .unset, .unset] [(.double (FP.i2d cv))])) _
        refine XS.dstore X310.here hx rfl (hb hby at_46) rfl (l' := #[.val (.int wv), .val (.int av), .val (.int bv), .val (.int cv), .val (.int ((wv &&& (2147483647 : Int32)) % (3 : Int32))), .val (.ref aW), .val (.double (FP.i2d av)), .second, .val (.double (FP.i2d bv)), .second, .val (.double (FP.i2d cv)), .second, .unset, .unset, .unset, .unset, .unset, .unset]) rfl ?_
        show Steps p.tables e below (T309.setTop (mkF m 48 #[.val (.int wv), .val (.int av), .val (.int bv), .val (.int cv), .val (.int ((wv &&& (2147483647 : Int32)) % (3 : Int32))), .val (.ref aW), .val (.double (FP.i2d av)), .second, .val (.double (FP.i2d bv)), .second, .val (.double (FP.i2d cv)), .second, .unset, .unset, .unset, .unset, .unset, .unset] [])) _
        refine XS.aload X310.here hx rfl (hb hby at_48) rfl rfl ?_
        show Steps p.tables e below (T309.setTop (mkF m 50 #[.val (.int wv), .val (.int av), .val (.int bv), .val (.int cv), .val (.int ((wv &&& (2147483647 : Int32)) % (3 : Int32))), .val (.ref aW), .val (.double (FP.i2d av)), .second, .val (.double (FP.i2d bv)), .second, .val (.double (FP.i2d cv)), .second, .unset, .unset, .unset, .unset, .unset, .unset] [(.ref aW)])) _
        refine XS.dload X310.here hx rfl (hb hby at_50) rfl ?_
        show Steps p.tables e below (T309.setTop (mkF m 52 #[.val (.int wv), .val (.int av), .val (.int bv), .val (.int cv), .val (.int ((wv &&& (2147483647 : Int32)) % (3 : Int32))), .val (.ref aW), .val (.double (FP.i2d av)), .second, .val (.double (FP.i2d bv)), .second, .val (.double (FP.i2d cv)), .second, .unset, .unset, .unset, .unset, .unset, .unset] [(.double (FP.i2d av)), (.ref aW)])) _
        refine XS.dload X310.here hx rfl (hb hby at_52) rfl ?_
        show Steps p.tables e below (T309.setTop (mkF m 54 #[.val (.int wv), .val (.int av), .val (.int bv), .val (.int cv), .val (.int ((wv &&& (2147483647 : Int32)) % (3 : Int32))), .val (.ref aW), .val (.double (FP.i2d av)), .second, .val (.double (FP.i2d bv)), .second, .val (.double (FP.i2d cv)), .second, .unset, .unset, .unset, .unset, .unset, .unset] [(.double (FP.i2d bv)), (.double (FP.i2d av)), (.ref aW)])) _
        refine XS.dload X310.here hx rfl (hb hby at_54) rfl ?_
        show Steps p.tables e below (T309.setTop (mkF m 56 #[.val (.int wv), .val (.int av), .val (.int bv), .val (.int cv), .val (.int ((wv &&& (2147483647 : Int32)) % (3 : Int32))), .val (.ref aW), .val (.double (FP.i2d av)), .second, .val (.double (FP.i2d bv)), .second, .val (.double (FP.i2d cv)), .second, .unset, .unset, .unset, .unset, .unset, .unset] [(.double (FP.i2d cv)), (.double (FP.i2d bv)), (.double (FP.i2d av)), (.ref aW)])) _
        exact hh)
      obtain ⟨cq324, kq325, qa326, qb327, qc328⟩ := isOf hZ e311 xW
      obtain ⟨_, _, ⟨T313, L314, k_315, n_316⟩, -, X317, ⟨Lc318, hQ319, l_320, y_321, z_322⟩, st323⟩ := X310.virtualBack hx (y := (⟨"com/example/flueline/flueline/FFactor", "select", "(DDD)D"⟩ : MethodName)) (z := (⟨"com/example/flueline/flueline/FFactor", "select", "(DDD)D"⟩ : MethodName)) hown (mvT hZ (wT hw 4 rfl)) (mvT hZ (wT hw 5 rfl)) (notFace_of_selects (args := #[]) (mvT hZ (wT hw 7 rfl))) (mvT hZ (wT hw 7 rfl)) (mvT hZ (wT hw 6 rfl)) (by decide) (backOf (W := 0) (rmS1 l Z a0 hw [] aD aW aC (FP.i2d av) (FP.i2d bv) (FP.i2d cv) h0 n0 Z0 sD_ sW_ n1 n2 n3) hZ (wT hw 8 rfl) (wT hw 2 rfl) (by decide) (by decide)) qa326 qc328 (g := (mkF m 56 #[.val (.int wv), .val (.int av), .val (.int bv), .val (.int cv), .val (.int ((wv &&& (2147483647 : Int32)) % (3 : Int32))), .val (.ref aW), .val (.double (FP.i2d av)), .second, .val (.double (FP.i2d bv)), .second, .val (.double (FP.i2d cv)), .second, .unset, .unset, .unset, .unset, .unset, .unset] [(.double (FP.i2d cv)), (.double (FP.i2d bv)), (.double (FP.i2d av)), (.ref aW)])) rfl (by rw [hml]; rfl) (Steps.refl _) (argsL := [(.double (FP.i2d av)), (.double (FP.i2d bv)), (.double (FP.i2d cv))]) (rest := []) (lenOf own_h18 rfl) rfl (by show 2 * 0 + _ ≤ _; exact Nat.le_of_eq rfl) (hb hby at_56) (fun _ _ => ⟨rfl, e311, (by decide : 0 + 0 ≤ _), (by decide : 0 + 0 ≤ _)⟩)
      dsimp only [Pt.U, Pt.locs, Pt.cells, Pt.slots] at X317 l_320 y_321 z_322 st323 hQ319
      subst l_320 y_321 z_322
      obtain ⟨rfl, N329, e330⟩ := hQ319
      have N331 := Fr.app N0 N329
      have k19 : own_K p e below (T313.setTop (mkF m 59 #[.val (.int wv), .val (.int av), .val (.int bv), .val (.int cv), .val (.int ((wv &&& (2147483647 : Int32)) % (3 : Int32))), .val (.ref aW), .val (.double (FP.i2d av)), .second, .val (.double (FP.i2d bv)), .second, .val (.double (FP.i2d cv)), .second, .unset, .unset, .unset, .unset, .unset, .unset] [(.double (FP.i2d bv))])) (s₁.setTop (entryFrame m #[(.int wv), (.int av), (.int bv), (.int cv)] maxLocals)) := fun t hh => k18 t (st323.trans hh)
      have k20 : own_K p e below (T313.setTop (mkF m 63 #[.val (.int wv), .val (.int av), .val (.int bv), .val (.int cv), .val (.int ((wv &&& (2147483647 : Int32)) % (3 : Int32))), .val (.ref aW), .val (.double (FP.i2d av)), .second, .val (.double (FP.i2d bv)), .second, .val (.double (FP.i2d cv)), .second, .val (.double (FP.i2d bv)), .second, .unset, .unset, .unset, .unset] [(.ref aW)])) (s₁.setTop (entryFrame m #[(.int wv), (.int av), (.int bv), (.int cv)] maxLocals)) := fun t hh => k19 t (by
        refine XS.dstore X317.here hx rfl (hb hby at_59) rfl (l' := #[.val (.int wv), .val (.int av), .val (.int bv), .val (.int cv), .val (.int ((wv &&& (2147483647 : Int32)) % (3 : Int32))), .val (.ref aW), .val (.double (FP.i2d av)), .second, .val (.double (FP.i2d bv)), .second, .val (.double (FP.i2d cv)), .second, .val (.double (FP.i2d bv)), .second, .unset, .unset, .unset, .unset]) rfl ?_
        show Steps p.tables e below (T313.setTop (mkF m 61 #[.val (.int wv), .val (.int av), .val (.int bv), .val (.int cv), .val (.int ((wv &&& (2147483647 : Int32)) % (3 : Int32))), .val (.ref aW), .val (.double (FP.i2d av)), .second, .val (.double (FP.i2d bv)), .second, .val (.double (FP.i2d cv)), .second, .val (.double (FP.i2d bv)), .second, .unset, .unset, .unset, .unset] [])) _
        refine XS.aload X317.here hx rfl (hb hby at_61) rfl rfl ?_
        show Steps p.tables e below (T313.setTop (mkF m 63 #[.val (.int wv), .val (.int av), .val (.int bv), .val (.int cv), .val (.int ((wv &&& (2147483647 : Int32)) % (3 : Int32))), .val (.ref aW), .val (.double (FP.i2d av)), .second, .val (.double (FP.i2d bv)), .second, .val (.double (FP.i2d cv)), .second, .val (.double (FP.i2d bv)), .second, .unset, .unset, .unset, .unset] [(.ref aW)])) _
        exact hh)
      obtain ⟨cq343, kq344, qa345, qb346, qc347⟩ := isOf hZ e330 xW
      obtain ⟨_, _, ⟨T332, L333, k_334, n_335⟩, -, X336, ⟨Lc337, hQ338, l_339, y_340, z_341⟩, st342⟩ := X317.virtualBack hx (y := (⟨"com/example/flueline/flueline/FFactor", "planKey", "()Ljava/lang/String;"⟩ : MethodName)) (z := (⟨"com/example/flueline/flueline/FFactor", "planKey", "()Ljava/lang/String;"⟩ : MethodName)) hown (mvT hZ (wT hw 10 rfl)) (mvT hZ (wT hw 11 rfl)) (notFace_of_selects (args := #[]) (mvT hZ (wT hw 13 rfl))) (mvT hZ (wT hw 13 rfl)) (mvT hZ (wT hw 12 rfl)) (by decide) (backOf (W := 0) (rmP l Z a0 hw [] aW kW h0 n0 Z0 pW) hZ (wT hw 14 rfl) (wT hw 2 rfl) (by decide) (by decide)) qa345 qc347 (g := (mkF m 63 #[.val (.int wv), .val (.int av), .val (.int bv), .val (.int cv), .val (.int ((wv &&& (2147483647 : Int32)) % (3 : Int32))), .val (.ref aW), .val (.double (FP.i2d av)), .second, .val (.double (FP.i2d bv)), .second, .val (.double (FP.i2d cv)), .second, .val (.double (FP.i2d bv)), .second, .unset, .unset, .unset, .unset] [(.ref aW)])) rfl (by rw [hml]; rfl) (Steps.refl _) (argsL := []) (rest := []) (lenOf own_h19 rfl) rfl (by show 2 * 0 + _ ≤ _; exact Nat.le_of_eq rfl) (hb hby at_63) (fun _ _ => ⟨rfl, e330, (by decide : 0 + 0 ≤ _), (by decide : 0 + 0 ≤ _)⟩)
      dsimp only [Pt.U, Pt.locs, Pt.cells, Pt.slots] at X336 l_339 y_340 z_341 st342 hQ338
      subst l_339 y_340 z_341
      obtain ⟨rfl, N348, e349⟩ := hQ338
      have N350 := Fr.app N331 N348
      have k21 : own_K p e below (T332.setTop (mkF m 66 #[.val (.int wv), .val (.int av), .val (.int bv), .val (.int cv), .val (.int ((wv &&& (2147483647 : Int32)) % (3 : Int32))), .val (.ref aW), .val (.double (FP.i2d av)), .second, .val (.double (FP.i2d bv)), .second, .val (.double (FP.i2d cv)), .second, .val (.double (FP.i2d bv)), .second, .unset, .unset, .unset, .unset] [(.ref kW)])) (s₁.setTop (entryFrame m #[(.int wv), (.int av), (.int bv), (.int cv)] maxLocals)) := fun t hh => k20 t (st342.trans hh)
      have k22 : own_K p e below (T332.setTop (mkF m 70 #[.val (.int wv), .val (.int av), .val (.int bv), .val (.int cv), .val (.int ((wv &&& (2147483647 : Int32)) % (3 : Int32))), .val (.ref aW), .val (.double (FP.i2d av)), .second, .val (.double (FP.i2d bv)), .second, .val (.double (FP.i2d cv)), .second, .val (.double (FP.i2d bv)), .second, .val (.ref kW), .unset, .unset, .unset] [(.ref kW)])) (s₁.setTop (entryFrame m #[(.int wv), (.int av), (.int bv), (.int cv)] maxLocals)) := fun t hh => k21 t (by
        refine XS.astore X336.here hx rfl (hb hby at_66) rfl rfl (l' := #[.val (.int wv), .val (.int av), .val (.int bv), .val (.int cv), .val (.int ((wv &&& (2147483647 : Int32)) % (3 : Int32))), .val (.ref aW), .val (.double (FP.i2d av)), .second, .val (.double (FP.i2d bv)), .second, .val (.double (FP.i2d cv)), .second, .val (.double (FP.i2d bv)), .second, .val (.ref kW), .unset, .unset, .unset]) rfl ?_
        show Steps p.tables e below (T332.setTop (mkF m 68 #[.val (.int wv), .val (.int av), .val (.int bv), .val (.int cv), .val (.int ((wv &&& (2147483647 : Int32)) % (3 : Int32))), .val (.ref aW), .val (.double (FP.i2d av)), .second, .val (.double (FP.i2d bv)), .second, .val (.double (FP.i2d cv)), .second, .val (.double (FP.i2d bv)), .second, .val (.ref kW), .unset, .unset, .unset] [])) _
        refine XS.aload X336.here hx rfl (hb hby at_68) rfl rfl ?_
        show Steps p.tables e below (T332.setTop (mkF m 70 #[.val (.int wv), .val (.int av), .val (.int bv), .val (.int cv), .val (.int ((wv &&& (2147483647 : Int32)) % (3 : Int32))), .val (.ref aW), .val (.double (FP.i2d av)), .second, .val (.double (FP.i2d bv)), .second, .val (.double (FP.i2d cv)), .second, .val (.double (FP.i2d bv)), .second, .val (.ref kW), .unset, .unset, .unset] [(.ref kW)])) _
        exact hh)
      obtain ⟨cq362, kq363, qa364, qb365, qc366⟩ := isOf hZ e349 yW
      obtain ⟨_, _, ⟨T351, L352, k_353, n_354⟩, -, X355, ⟨Lc356, hQ357, l_358, y_359, z_360⟩, st361⟩ := X336.virtualBack hx (y := (⟨"java/lang/String", "length", "()I"⟩ : MethodName)) (z := (⟨"java/lang/String", "length", "()I"⟩ : MethodName)) hown (mvT hZ (wT hw 17 rfl)) (mvT hZ (wT hw 18 rfl)) (notFace_of_selects (args := #[]) (mvT hZ (wT hw 20 rfl))) (mvT hZ (wT hw 20 rfl)) (mvT hZ (wT hw 19 rfl)) (by decide) (backOf (W := 0) (rmLe l Z a0 hw [] kW h0 n0 Z0 ci sC hc cW_ bW tW (102 : Int32) (119 : Int32) yW vW rW) hZ (wT hw 22 rfl) (wT hw 21 rfl) (by decide) (by decide)) qa364 qc366 (g := (mkF m 70 #[.val (.int wv), .val (.int av), .val (.int bv), .val (.int cv), .val (.int ((wv &&& (2147483647 : Int32)) % (3 : Int32))), .val (.ref aW), .val (.double (FP.i2d av)), .second, .val (.double (FP.i2d bv)), .second, .val (.double (FP.i2d cv)), .second, .val (.double (FP.i2d bv)), .second, .val (.ref kW), .unset, .unset, .unset] [(.ref kW)])) rfl (by rw [hml]; rfl) (Steps.refl _) (argsL := []) (rest := []) (lenOf own_h20 rfl) rfl (by show 2 * 0 + _ ≤ _; exact Nat.le_of_eq rfl) (hb hby at_70) (fun _ _ => ⟨rfl, e349, (by decide : 0 + 0 ≤ _), (by decide : 0 + 0 ≤ _)⟩)
      dsimp only [Pt.U, Pt.locs, Pt.cells, Pt.slots] at X355 l_358 y_359 z_360 st361 hQ357
      subst l_358 y_359 z_360
      obtain ⟨rfl, N367, e368⟩ := hQ357
      have N369 := Fr.app N350 N367
      have k23 : own_K p e below (T351.setTop (mkF m 73 #[.val (.int wv), .val (.int av), .val (.int bv), .val (.int cv), .val (.int ((wv &&& (2147483647 : Int32)) % (3 : Int32))), .val (.ref aW), .val (.double (FP.i2d av)), .second, .val (.double (FP.i2d bv)), .second, .val (.double (FP.i2d cv)), .second, .val (.double (FP.i2d bv)), .second, .val (.ref kW), .unset, .unset, .unset] [(.int (2 : Int32))])) (s₁.setTop (entryFrame m #[(.int wv), (.int av), (.int bv), (.int cv)] maxLocals)) := fun t hh => k22 t (st361.trans hh)
      have k24 : own_K p e below (T351.setTop (mkF m 82 #[.val (.int wv), .val (.int av), .val (.int bv), .val (.int cv), .val (.int ((wv &&& (2147483647 : Int32)) % (3 : Int32))), .val (.ref aW), .val (.double (FP.i2d av)), .second, .val (.double (FP.i2d bv)), .second, .val (.double (FP.i2d cv)), .second, .val (.double (FP.i2d bv)), .second, .val (.ref kW), .unset, .unset, .unset] [(.int (0 : Int32)), (.ref kW)])) (s₁.setTop (entryFrame m #[(.int wv), (.int av), (.int bv), (.int cv)] maxLocals)) := fun t hh => k23 t (by
        refine XS.iconst X355.here hx rfl (hb hby at_73) ?_
        show Steps p.tables e below (T351.setTop (mkF m 74 #[.val (.int wv), .val (.int av), .val (.int bv), .val (.int cv), .val (.int ((wv &&& (2147483647 : Int32)) % (3 : Int32))), .val (.ref aW), .val (.double (FP.i2d av)), .second, .val (.double (FP.i2d bv)), .second, .val (.double (FP.i2d cv)), .second, .val (.double (FP.i2d bv)), .second, .val (.ref kW), .unset, .unset, .unset] [(.int (2 : Int32)), (.int (2 : Int32))])) _
        refine XS.icmpYes X355.here hx rfl (pc0 := 74) (pc' := 79) rfl (hb hby at_74) rfl (by decide) (by decide) (by decide) ?_
        show Steps p.tables e below (T351.setTop (mkF m 79 #[.val (.int wv), .val (.int av), .val (.int bv), .val (.int cv), .val (.int ((wv &&& (2147483647 : Int32)) % (3 : Int32))), .val (.ref aW), .val (.double (FP.i2d av)), .second, .val (.double (FP.i2d bv)), .second, .val (.double (FP.i2d cv)), .second, .val (.double (FP.i2d bv)), .second, .val (.ref kW), .unset, .unset, .unset] [])) _
        refine XS.aload X355.here hx rfl (hb hby at_79) rfl rfl ?_
        show Steps p.tables e below (T351.setTop (mkF m 81 #[.val (.int wv), .val (.int av), .val (.int bv), .val (.int cv), .val (.int ((wv &&& (2147483647 : Int32)) % (3 : Int32))), .val (.ref aW), .val (.double (FP.i2d av)), .second, .val (.double (FP.i2d bv)), .second, .val (.double (FP.i2d cv)), .second, .val (.double (FP.i2d bv)), .second, .val (.ref kW), .unset, .unset, .unset] [(.ref kW)])) _
        refine XS.iconst X355.here hx rfl (hb hby at_81) ?_
        show Steps p.tables e below (T351.setTop (mkF m 82 #[.val (.int wv), .val (.int av), .val (.int bv), .val (.int cv), .val (.int ((wv &&& (2147483647 : Int32)) % (3 : Int32))), .val (.ref aW), .val (.double (FP.i2d av)), .second, .val (.double (FP.i2d bv)), .second, .val (.double (FP.i2d cv)), .second, .val (.double (FP.i2d bv)), .second, .val (.ref kW), .unset, .unset, .unset] [(.int (0 : Int32)), (.ref kW)])) _
        exact hh)
      obtain ⟨cq381, kq382, qa383, qb384, qc385⟩ := isOf hZ e368 yW
      obtain ⟨_, _, ⟨T370, L371, k_372, n_373⟩, -, X374, ⟨Lc375, hQ376, l_377, y_378, z_379⟩, st380⟩ := X355.virtualBack hx (y := (⟨"java/lang/String", "charAt", "(I)C"⟩ : MethodName)) (z := (⟨"java/lang/String", "charAt", "(I)C"⟩ : MethodName)) hown (mvT hZ (wT hw 33 rfl)) (mvT hZ (wT hw 34 rfl)) (notFace_of_selects (args := #[]) (mvT hZ (wT hw 36 rfl))) (mvT hZ (wT hw 36 rfl)) (mvT hZ (wT hw 35 rfl)) (by decide) (backOf (W := 0) (rmCh0 l Z a0 hw [] kW h0 n0 Z0 ci sC hc cW_ bW tW (102 : Int32) (119 : Int32) yW vW rW gv sG hg (by decide) (by decide)) hZ (wT hw 37 rfl) (wT hw 21 rfl) (by decide) (by decide)) qa383 qc385 (g := (mkF m 82 #[.val (.int wv), .val (.int av), .val (.int bv), .val (.int cv), .val (.int ((wv &&& (2147483647 : Int32)) % (3 : Int32))), .val (.ref aW), .val (.double (FP.i2d av)), .second, .val (.double (FP.i2d bv)), .second, .val (.double (FP.i2d cv)), .second, .val (.double (FP.i2d bv)), .second, .val (.ref kW), .unset, .unset, .unset] [(.int (0 : Int32)), (.ref kW)])) rfl (by rw [hml]; rfl) (Steps.refl _) (argsL := [(.int (0 : Int32))]) (rest := []) (lenOf own_h22 rfl) rfl (by show 2 * 0 + _ ≤ _; exact Nat.le_of_eq rfl) (hb hby at_82) (fun _ _ => ⟨rfl, e368, (by decide : 0 + 0 ≤ _), (by decide : 0 + 0 ≤ _)⟩)
      dsimp only [Pt.U, Pt.locs, Pt.cells, Pt.slots] at X374 l_377 y_378 z_379 st380 hQ376
      subst l_377 y_378 z_379
      obtain ⟨rfl, N386, e387⟩ := hQ376
      have N388 := Fr.app N369 N386
      have k25 : own_K p e below (T370.setTop (mkF m 85 #[.val (.int wv), .val (.int av), .val (.int bv), .val (.int cv), .val (.int ((wv &&& (2147483647 : Int32)) % (3 : Int32))), .val (.ref aW), .val (.double (FP.i2d av)), .second, .val (.double (FP.i2d bv)), .second, .val (.double (FP.i2d cv)), .second, .val (.double (FP.i2d bv)), .second, .val (.ref kW), .unset, .unset, .unset] [(.int (102 : Int32))])) (s₁.setTop (entryFrame m #[(.int wv), (.int av), (.int bv), (.int cv)] maxLocals)) := fun t hh => k24 t (st380.trans hh)
      have k26 : own_K p e below (T370.setTop (mkF m 95 #[.val (.int wv), .val (.int av), .val (.int bv), .val (.int cv), .val (.int ((wv &&& (2147483647 : Int32)) % (3 : Int32))), .val (.ref aW), .val (.double (FP.i2d av)), .second, .val (.double (FP.i2d bv)), .second, .val (.double (FP.i2d cv)), .second, .val (.double (FP.i2d bv)), .second, .val (.ref kW), .unset, .unset, .unset] [(.int (1 : Int32)), (.ref kW)])) (s₁.setTop (entryFrame m #[(.int wv), (.int av), (.int bv), (.int cv)] maxLocals)) := fun t hh => k25 t (by
        refine XS.bipush X374.here hx rfl (hb hby at_85) ?_
        show Steps p.tables e below (T370.setTop (mkF m 87 #[.val (.int wv), .val (.int av), .val (.int bv), .val (.int cv), .val (.int ((wv &&& (2147483647 : Int32)) % (3 : Int32))), .val (.ref aW), .val (.double (FP.i2d av)), .second, .val (.double (FP.i2d bv)), .second, .val (.double (FP.i2d cv)), .second, .val (.double (FP.i2d bv)), .second, .val (.ref kW), .unset, .unset, .unset] [(.int (102 : Int32)), (.int (102 : Int32))])) _
        refine XS.icmpYes X374.here hx rfl (pc0 := 87) (pc' := 92) rfl (hb hby at_87) rfl (by decide) (by decide) (by decide) ?_
        show Steps p.tables e below (T370.setTop (mkF m 92 #[.val (.int wv), .val (.int av), .val (.int bv), .val (.int cv), .val (.int ((wv &&& (2147483647 : Int32)) % (3 : Int32))), .val (.ref aW), .val (.double (FP.i2d av)), .second, .val (.double (FP.i2d bv)), .second, .val (.double (FP.i2d cv)), .second, .val (.double (FP.i2d bv)), .second, .val (.ref kW), .unset, .unset, .unset] [])) _
        refine XS.aload X374.here hx rfl (hb hby at_92) rfl rfl ?_
        show Steps p.tables e below (T370.setTop (mkF m 94 #[.val (.int wv), .val (.int av), .val (.int bv), .val (.int cv), .val (.int ((wv &&& (2147483647 : Int32)) % (3 : Int32))), .val (.ref aW), .val (.double (FP.i2d av)), .second, .val (.double (FP.i2d bv)), .second, .val (.double (FP.i2d cv)), .second, .val (.double (FP.i2d bv)), .second, .val (.ref kW), .unset, .unset, .unset] [(.ref kW)])) _
        refine XS.iconst X374.here hx rfl (hb hby at_94) ?_
        show Steps p.tables e below (T370.setTop (mkF m 95 #[.val (.int wv), .val (.int av), .val (.int bv), .val (.int cv), .val (.int ((wv &&& (2147483647 : Int32)) % (3 : Int32))), .val (.ref aW), .val (.double (FP.i2d av)), .second, .val (.double (FP.i2d bv)), .second, .val (.double (FP.i2d cv)), .second, .val (.double (FP.i2d bv)), .second, .val (.ref kW), .unset, .unset, .unset] [(.int (1 : Int32)), (.ref kW)])) _
        exact hh)
      obtain ⟨cq400, kq401, qa402, qb403, qc404⟩ := isOf hZ e387 yW
      obtain ⟨_, _, ⟨T389, L390, k_391, n_392⟩, -, X393, ⟨Lc394, hQ395, l_396, y_397, z_398⟩, st399⟩ := X374.virtualBack hx (y := (⟨"java/lang/String", "charAt", "(I)C"⟩ : MethodName)) (z := (⟨"java/lang/String", "charAt", "(I)C"⟩ : MethodName)) hown (mvT hZ (wT hw 33 rfl)) (mvT hZ (wT hw 34 rfl)) (notFace_of_selects (args := #[]) (mvT hZ (wT hw 36 rfl))) (mvT hZ (wT hw 36 rfl)) (mvT hZ (wT hw 35 rfl)) (by decide) (backOf (W := 0) (rmCh1 l Z a0 hw [] kW h0 n0 Z0 ci sC hc cW_ bW tW (102 : Int32) (119 : Int32) yW vW rW gv sG hg (by decide) (by decide)) hZ (wT hw 37 rfl) (wT hw 21 rfl) (by decide) (by decide)) qa402 qc404 (g := (mkF m 95 #[.val (.int wv), .val (.int av), .val (.int bv), .val (.int cv), .val (.int ((wv &&& (2147483647 : Int32)) % (3 : Int32))), .val (.ref aW), .val (.double (FP.i2d av)), .second, .val (.double (FP.i2d bv)), .second, .val (.double (FP.i2d cv)), .second, .val (.double (FP.i2d bv)), .second, .val (.ref kW), .unset, .unset, .unset] [(.int (1 : Int32)), (.ref kW)])) rfl (by rw [hml]; rfl) (Steps.refl _) (argsL := [(.int (1 : Int32))]) (rest := []) (lenOf own_h22 rfl) rfl (by show 2 * 0 + _ ≤ _; exact Nat.le_of_eq rfl) (hb hby at_95) (fun _ _ => ⟨rfl, e387, (by decide : 0 + 0 ≤ _), (by decide : 0 + 0 ≤ _)⟩)
      dsimp only [Pt.U, Pt.locs, Pt.cells, Pt.slots] at X393 l_396 y_397 z_398 st399 hQ395
      subst l_396 y_397 z_398
      obtain ⟨rfl, N405, e406⟩ := hQ395
      have N407 := Fr.app N388 N405
      have k27 : own_K p e below (T389.setTop (mkF m 98 #[.val (.int wv), .val (.int av), .val (.int bv), .val (.int cv), .val (.int ((wv &&& (2147483647 : Int32)) % (3 : Int32))), .val (.ref aW), .val (.double (FP.i2d av)), .second, .val (.double (FP.i2d bv)), .second, .val (.double (FP.i2d cv)), .second, .val (.double (FP.i2d bv)), .second, .val (.ref kW), .unset, .unset, .unset] [(.int (119 : Int32))])) (s₁.setTop (entryFrame m #[(.int wv), (.int av), (.int bv), (.int cv)] maxLocals)) := fun t hh => k26 t (st399.trans hh)
      have k28 : own_K p e below (T389.setTop (mkF m 157 #[.val (.int wv), .val (.int av), .val (.int bv), .val (.int cv), .val (.int ((wv &&& (2147483647 : Int32)) % (3 : Int32))), .val (.ref aW), .val (.double (FP.i2d av)), .second, .val (.double (FP.i2d bv)), .second, .val (.double (FP.i2d cv)), .second, .val (.double (FP.i2d bv)), .second, .val (.ref kW), .val (.int (119 : Int32)), .val (.double (FP.i2d bv)), .second] [(.int (1 : Int32))])) (s₁.setTop (entryFrame m #[(.int wv), (.int av), (.int bv), (.int cv)] maxLocals)) := fun t hh => k27 t (by
        refine XS.istore X393.here hx rfl (hb hby at_98) rfl (l' := #[.val (.int wv), .val (.int av), .val (.int bv), .val (.int cv), .val (.int ((wv &&& (2147483647 : Int32)) % (3 : Int32))), .val (.ref aW), .val (.double (FP.i2d av)), .second, .val (.double (FP.i2d bv)), .second, .val (.double (FP.i2d cv)), .second, .val (.double (FP.i2d bv)), .second, .val (.ref kW), .val (.int (119 : Int32)), .unset, .unset]) rfl ?_
        show Steps p.tables e below (T389.setTop (mkF m 100 #[.val (.int wv), .val (.int av), .val (.int bv), .val (.int cv), .val (.int ((wv &&& (2147483647 : Int32)) % (3 : Int32))), .val (.ref aW), .val (.double (FP.i2d av)), .second, .val (.double (FP.i2d bv)), .second, .val (.double (FP.i2d cv)), .second, .val (.double (FP.i2d bv)), .second, .val (.ref kW), .val (.int (119 : Int32)), .unset, .unset] [])) _
        refine XS.iload X393.here hx rfl (hb hby at_100) rfl ?_
        show Steps p.tables e below (T389.setTop (mkF m 102 #[.val (.int wv), .val (.int av), .val (.int bv), .val (.int cv), .val (.int ((wv &&& (2147483647 : Int32)) % (3 : Int32))), .val (.ref aW), .val (.double (FP.i2d av)), .second, .val (.double (FP.i2d bv)), .second, .val (.double (FP.i2d cv)), .second, .val (.double (FP.i2d bv)), .second, .val (.ref kW), .val (.int (119 : Int32)), .unset, .unset] [(.int (119 : Int32))])) _
        refine XS.bipush X393.here hx rfl (hb hby at_102) ?_
        show Steps p.tables e below (T389.setTop (mkF m 104 #[.val (.int wv), .val (.int av), .val (.int bv), .val (.int cv), .val (.int ((wv &&& (2147483647 : Int32)) % (3 : Int32))), .val (.ref aW), .val (.double (FP.i2d av)), .second, .val (.double (FP.i2d bv)), .second, .val (.double (FP.i2d cv)), .second, .val (.double (FP.i2d bv)), .second, .val (.ref kW), .val (.int (119 : Int32)), .unset, .unset] [(.int (100 : Int32)), (.int (119 : Int32))])) _
        refine XS.icmpYes X393.here hx rfl (pc0 := 104) (pc' := 114) rfl (hb hby at_104) rfl (by decide) (by decide) (by decide) ?_
        show Steps p.tables e below (T389.setTop (mkF m 114 #[.val (.int wv), .val (.int av), .val (.int bv), .val (.int cv), .val (.int ((wv &&& (2147483647 : Int32)) % (3 : Int32))), .val (.ref aW), .val (.double (FP.i2d av)), .second, .val (.double (FP.i2d bv)), .second, .val (.double (FP.i2d cv)), .second, .val (.double (FP.i2d bv)), .second, .val (.ref kW), .val (.int (119 : Int32)), .unset, .unset] [])) _
        refine XS.iload X393.here hx rfl (hb hby at_114) rfl ?_
        show Steps p.tables e below (T389.setTop (mkF m 116 #[.val (.int wv), .val (.int av), .val (.int bv), .val (.int cv), .val (.int ((wv &&& (2147483647 : Int32)) % (3 : Int32))), .val (.ref aW), .val (.double (FP.i2d av)), .second, .val (.double (FP.i2d bv)), .second, .val (.double (FP.i2d cv)), .second, .val (.double (FP.i2d bv)), .second, .val (.ref kW), .val (.int (119 : Int32)), .unset, .unset] [(.int (119 : Int32))])) _
        refine XS.bipush X393.here hx rfl (hb hby at_116) ?_
        show Steps p.tables e below (T389.setTop (mkF m 118 #[.val (.int wv), .val (.int av), .val (.int bv), .val (.int cv), .val (.int ((wv &&& (2147483647 : Int32)) % (3 : Int32))), .val (.ref aW), .val (.double (FP.i2d av)), .second, .val (.double (FP.i2d bv)), .second, .val (.double (FP.i2d cv)), .second, .val (.double (FP.i2d bv)), .second, .val (.ref kW), .val (.int (119 : Int32)), .unset, .unset] [(.int (119 : Int32)), (.int (119 : Int32))])) _
        refine XS.icmpNo X393.here hx rfl (hb hby at_118) rfl (by decide) ?_
        show Steps p.tables e below (T389.setTop (mkF m 121 #[.val (.int wv), .val (.int av), .val (.int bv), .val (.int cv), .val (.int ((wv &&& (2147483647 : Int32)) % (3 : Int32))), .val (.ref aW), .val (.double (FP.i2d av)), .second, .val (.double (FP.i2d bv)), .second, .val (.double (FP.i2d cv)), .second, .val (.double (FP.i2d bv)), .second, .val (.ref kW), .val (.int (119 : Int32)), .unset, .unset] [])) _
        refine XS.dload X393.here hx rfl (hb hby at_121) rfl ?_
        show Steps p.tables e below (T389.setTop (mkF m 123 #[.val (.int wv), .val (.int av), .val (.int bv), .val (.int cv), .val (.int ((wv &&& (2147483647 : Int32)) % (3 : Int32))), .val (.ref aW), .val (.double (FP.i2d av)), .second, .val (.double (FP.i2d bv)), .second, .val (.double (FP.i2d cv)), .second, .val (.double (FP.i2d bv)), .second, .val (.ref kW), .val (.int (119 : Int32)), .unset, .unset] [(.double (FP.i2d bv))])) _
        refine XS.dstore X393.here hx rfl (hb hby at_123) rfl (l' := #[.val (.int wv), .val (.int av), .val (.int bv), .val (.int cv), .val (.int ((wv &&& (2147483647 : Int32)) % (3 : Int32))), .val (.ref aW), .val (.double (FP.i2d av)), .second, .val (.double (FP.i2d bv)), .second, .val (.double (FP.i2d cv)), .second, .val (.double (FP.i2d bv)), .second, .val (.ref kW), .val (.int (119 : Int32)), .val (.double (FP.i2d bv)), .second]) rfl ?_
        show Steps p.tables e below (T389.setTop (mkF m 125 #[.val (.int wv), .val (.int av), .val (.int bv), .val (.int cv), .val (.int ((wv &&& (2147483647 : Int32)) % (3 : Int32))), .val (.ref aW), .val (.double (FP.i2d av)), .second, .val (.double (FP.i2d bv)), .second, .val (.double (FP.i2d cv)), .second, .val (.double (FP.i2d bv)), .second, .val (.ref kW), .val (.int (119 : Int32)), .val (.double (FP.i2d bv)), .second] [])) _
        refine XS.goto X393.here hx rfl (pc0 := 125) (pc' := 144) rfl (hb hby at_125) (by decide) (by decide) ?_
        show Steps p.tables e below (T389.setTop (mkF m 144 #[.val (.int wv), .val (.int av), .val (.int bv), .val (.int cv), .val (.int ((wv &&& (2147483647 : Int32)) % (3 : Int32))), .val (.ref aW), .val (.double (FP.i2d av)), .second, .val (.double (FP.i2d bv)), .second, .val (.double (FP.i2d cv)), .second, .val (.double (FP.i2d bv)), .second, .val (.ref kW), .val (.int (119 : Int32)), .val (.double (FP.i2d bv)), .second] [])) _
        refine XS.dload X393.here hx rfl (hb hby at_144) rfl ?_
        show Steps p.tables e below (T389.setTop (mkF m 146 #[.val (.int wv), .val (.int av), .val (.int bv), .val (.int cv), .val (.int ((wv &&& (2147483647 : Int32)) % (3 : Int32))), .val (.ref aW), .val (.double (FP.i2d av)), .second, .val (.double (FP.i2d bv)), .second, .val (.double (FP.i2d cv)), .second, .val (.double (FP.i2d bv)), .second, .val (.ref kW), .val (.int (119 : Int32)), .val (.double (FP.i2d bv)), .second] [(.double (FP.i2d bv))])) _
        refine XS.dload X393.here hx rfl (hb hby at_146) rfl ?_
        show Steps p.tables e below (T389.setTop (mkF m 148 #[.val (.int wv), .val (.int av), .val (.int bv), .val (.int cv), .val (.int ((wv &&& (2147483647 : Int32)) % (3 : Int32))), .val (.ref aW), .val (.double (FP.i2d av)), .second, .val (.double (FP.i2d bv)), .second, .val (.double (FP.i2d cv)), .second, .val (.double (FP.i2d bv)), .second, .val (.ref kW), .val (.int (119 : Int32)), .val (.double (FP.i2d bv)), .second] [(.double (FP.i2d bv)), (.double (FP.i2d bv))])) _
        refine XS.dcmpS X393.here hx rfl (hb hby at_148) rfl (dcmpV_self (Jvm.Free.Fl.i2d_fin bv).noNaN _) ?_
        show Steps p.tables e below (T389.setTop (mkF m 149 #[.val (.int wv), .val (.int av), .val (.int bv), .val (.int cv), .val (.int ((wv &&& (2147483647 : Int32)) % (3 : Int32))), .val (.ref aW), .val (.double (FP.i2d av)), .second, .val (.double (FP.i2d bv)), .second, .val (.double (FP.i2d cv)), .second, .val (.double (FP.i2d bv)), .second, .val (.ref kW), .val (.int (119 : Int32)), .val (.double (FP.i2d bv)), .second] [(.int (0 : Int32))])) _
        refine XS.ifNo X393.here hx rfl (hb hby at_149) rfl (by decide) ?_
        show Steps p.tables e below (T389.setTop (mkF m 152 #[.val (.int wv), .val (.int av), .val (.int bv), .val (.int cv), .val (.int ((wv &&& (2147483647 : Int32)) % (3 : Int32))), .val (.ref aW), .val (.double (FP.i2d av)), .second, .val (.double (FP.i2d bv)), .second, .val (.double (FP.i2d cv)), .second, .val (.double (FP.i2d bv)), .second, .val (.ref kW), .val (.int (119 : Int32)), .val (.double (FP.i2d bv)), .second] [])) _
        refine XS.iconst X393.here hx rfl (hb hby at_152) ?_
        show Steps p.tables e below (T389.setTop (mkF m 153 #[.val (.int wv), .val (.int av), .val (.int bv), .val (.int cv), .val (.int ((wv &&& (2147483647 : Int32)) % (3 : Int32))), .val (.ref aW), .val (.double (FP.i2d av)), .second, .val (.double (FP.i2d bv)), .second, .val (.double (FP.i2d cv)), .second, .val (.double (FP.i2d bv)), .second, .val (.ref kW), .val (.int (119 : Int32)), .val (.double (FP.i2d bv)), .second] [(.int (1 : Int32))])) _
        refine XS.goto X393.here hx rfl (pc0 := 153) (pc' := 157) rfl (hb hby at_153) (by decide) (by decide) ?_
        show Steps p.tables e below (T389.setTop (mkF m 157 #[.val (.int wv), .val (.int av), .val (.int bv), .val (.int cv), .val (.int ((wv &&& (2147483647 : Int32)) % (3 : Int32))), .val (.ref aW), .val (.double (FP.i2d av)), .second, .val (.double (FP.i2d bv)), .second, .val (.double (FP.i2d cv)), .second, .val (.double (FP.i2d bv)), .second, .val (.ref kW), .val (.int (119 : Int32)), .val (.double (FP.i2d bv)), .second] [(.int (1 : Int32))])) _
        exact hh)
      obtain ⟨fs, hr, hrun, hended, hW, hsame⟩ := X393.leave (v := some (.int (1 : Int32))) (fun h => by rw [Bd.returns] at h; cases h)
      refine ⟨_, _, k28 _ (retN X393 hx (t := .boolean) Bd.returns (by simp) (hb hby at_157) hr), hrun, hended, _, _, rfl, ?_, ⟨_, rfl⟩, hW, hsame.mono (by decide) (by decide)⟩
      show QL h0 n0 _ T389.heap _
      rw [e406]
      exact ⟨rfl, N407⟩
    ·
      have k29 : own_K p e below (s₁.setTop (mkF m 31 #[.val (.int wv), .val (.int av), .val (.int bv), .val (.int cv), .val (.int ((wv &&& (2147483647 : Int32)) % (3 : Int32))), .unset, .unset, .unset, .unset, .unset, .unset, .unset, .unset, .unset, .unset, .unset, .unset, .unset] [])) (s₁.setTop (entryFrame m #[(.int wv), (.int av), (.int bv), (.int cv)] maxLocals)) := fun t hh => k15 t (by
        refine XS.icmpYes X0.here hx rfl (pc0 := 22) (pc' := 31) rfl (hb hby at_22) rfl (own_icT_ne c22) (by decide) (by decide) ?_
        show Steps p.tables e below (s₁.setTop (mkF m 31 #[.val (.int wv), .val (.int av), .val (.int bv), .val (.int cv), .val (.int ((wv &&& (2147483647 : Int32)) % (3 : Int32))), .unset, .unset, .unset, .unset, .unset, .unset, .unset, .unset, .unset, .unset, .unset, .unset, .unset] [])) _
        exact hh)
      obtain ⟨T408, X409, e410, st411⟩ := getS X0 hx hZ hown (host := "") (wT hw 58 rfl) Via.refl e0 sC_ (g := (mkF m 31 #[.val (.int wv), .val (.int av), .val (.int bv), .val (.int cv), .val (.int ((wv &&& (2147483647 : Int32)) % (3 : Int32))), .unset, .unset, .unset, .unset, .unset, .unset, .unset, .unset, .unset, .unset, .unset, .unset, .unset] [])) rfl (hb hby at_31)
      have k30 : own_K p e below (T408.setTop (mkF m 34 #[.val (.int wv), .val (.int av), .val (.int bv), .val (.int cv), .val (.int ((wv &&& (2147483647 : Int32)) % (3 : Int32))), .unset, .unset, .unset, .unset, .unset, .unset, .unset, .unset, .unset, .unset, .unset, .unset, .unset] [(.ref aC)])) (s₁.setTop (entryFrame m #[(.int wv), (.int av), (.int bv), (.int cv)] maxLocals)) := fun t hh => k29 t (st411 t hh)
      have k31 : own_K p e below (T408.setTop (mkF m 56 #[.val (.int wv), .val (.int av), .val (.int bv), .val (.int cv), .val (.int ((wv &&& (2147483647 : Int32)) % (3 : Int32))), .val (.ref aC), .val (.double (FP.i2d av)), .second, .val (.double (FP.i2d bv)), .second, .val (.double (FP.i2d cv)), .second, .unset, .unset, .unset, .unset, .unset, .unset] [(.double (FP.i2d cv)), (.double (FP.i2d bv)), (.double (FP.i2d av)), (.ref aC)])) (s₁.setTop (entryFrame m #[(.int wv), (.int av), (.int bv), (.int cv)] maxLocals)) := fun t hh => k30 t (by
        refine XS.astore X409.here hx rfl (hb hby at_34) rfl rfl (l' := #[.val (.int wv), .val (.int av), .val (.int bv), .val (.int cv), .val (.int ((wv &&& (2147483647 : Int32)) % (3 : Int32))), .val (.ref aC), .unset, .unset, .unset, .unset, .unset, .unset, .unset, .unset, .unset, .unset, .unset, .unset]) rfl ?_
        show Steps p.tables e below (T408.setTop (mkF m 36 #[.val (.int wv), .val (.int av), .val (.int bv), .val (.int cv), .val (.int ((wv &&& (2147483647 : Int32)) % (3 : Int32))), .val (.ref aC), .unset, .unset, .unset, .unset, .unset, .unset, .unset, .unset, .unset, .unset, .unset, .unset] [])) _
        refine XS.iloadN X409.here hx rfl (hb hby at_36) rfl ?_
        show Steps p.tables e below (T408.setTop (mkF m 37 #[.val (.int wv), .val (.int av), .val (.int bv), .val (.int cv), .val (.int ((wv &&& (2147483647 : Int32)) % (3 : Int32))), .val (.ref aC), .unset, .unset, .unset, .unset, .unset, .unset, .unset, .unset, .unset, .unset, .unset, .unset] [(.int av)])) _
        refine XS.i2dS X409.here hx rfl (hb hby at_37) rfl rfl ?_
        show Steps p.tables e below (T408.setTop (mkF m 38 #[.val (.int wv), .val (.int av), .val (.int bv), .val (.int cv), .val (.int ((wv &&& (2147483647 : Int32)) % (3 : Int32))), .val (.ref aC), .unset, .unset, .unset, .unset, .unset, .unset, .unset, .unset, .unset, .unset, .unset, .unset] [(.double (FP.i2d av))])) _
        refine XS.dstore X409.here hx rfl (hb hby at_38) rfl (l' := #[.val (.int wv), .val (.int av), .val (.int bv), .val (.int cv), .val (.int ((wv &&& (2147483647 : Int32)) % (3 : Int32))), .val (.ref aC), .val (.double (FP.i2d av)), .second, .unset, .unset, .unset, .unset, .unset, .unset, .unset, .unset, .unset, .unset]) rfl ?_
        show Steps p.tables e below (T408.setTop (mkF m 40 #[.val (.int wv), .val (.int av), .val (.int bv), .val (.int cv), .val (.int ((wv &&& (2147483647 : Int32)) % (3 : Int32))), .val (.ref aC), .val (.double (FP.i2d av)), .second, .unset, .unset, .unset, .unset, .unset, .unset, .unset, .unset, .unset, .unset] [])) _
        refine XS.iloadN X409.here hx rfl (hb hby at_40) rfl ?_
        show Steps p.tables e below (T408.setTop (mkF m 41 #[.val (.int wv), .val (.int av), .val (.int bv), .val (.int cv), .val (.int ((wv &&& (2147483647 : Int32)) % (3 : Int32))), .val (.ref aC), .val (.double (FP.i2d av)), .second, .unset, .unset, .unset, .unset, .unset, .unset, .unset, .unset, .unset, .unset] [(.int bv)])) _
        refine XS.i2dS X409.here hx rfl (hb hby at_41) rfl rfl ?_
        show Steps p.tables e below (T408.setTop (mkF m 42 #[.val (.int wv), .val (.int av), .val (.int bv), .val (.int cv), .val (.int ((wv &&& (2147483647 : Int32)) % (3 : Int32))), .val (.ref aC), .val (.double (FP.i2d av)), .second, .unset, .unset, .unset, .unset, .unset, .unset, .unset, .unset, .unset, .unset] [(.double (FP.i2d bv))])) _
        refine XS.dstore X409.here hx rfl (hb hby at_42) rfl (l' := #[.val (.int wv), .val (.int av), .val (.int bv), .val (.int cv), .val (.int ((wv &&& (2147483647 : Int32)) % (3 : Int32))), .val (.ref aC), .val (.double (FP.i2d av)), .second, .val (.double (FP.i2d bv)), .second, .unset, .unset, .unset, .unset, .unset, .unset, .unset, .unset]) rfl ?_
        show Steps p.tables e below (T408.setTop (mkF m 44 #[.val (.int wv), .val (.int av), .val (.int bv), .val (.int cv), .val (.int ((wv &&& (2147483647 : Int32)) % (3 : Int32))), .val (.ref aC), .val (.double (FP.i2d av)), .second, .val (.double (FP.i2d bv)), .second, .unset, .unset, .unset, .unset, .unset, .unset, .unset, .unset] [])) _
        refine XS.iloadN X409.here hx rfl (hb hby at_44) rfl ?_
        show Steps p.tables e below (T408.setTop (mkF m 45 #[.val (.int wv), .val (.int av), .val (.int bv), .val (.int cv), .val (.int ((wv &&& (2147483647 : Int32)) % (3 : Int32))), .val (.ref aC), .val (.double (FP.i2d av)), .second, .val (.double (FP.i2d bv)), .second, .unset, .unset, .unset, .unset, .unset, .unset, .unset, .unset] [(.int cv)])) _
        refine XS.i2dS X409.here hx rfl (hb hby at_45) rfl rfl ?_
        show Steps p.tables e below (T408.setTop (mkF m 46 #[.val (.int wv), .val (.int av), .val (.int bv), .val (.int cv), .val (.int ((wv &&& (2147483647 : Int32)) % (3 : Int32))), .val (.ref aC), .val (.double (FP.i2d av)), .second, .val (.double (FP.i2d bv)), .second, .unset, .unset, .unset, .unset, .unset, .unset, .unset, .unset] [(.double (FP.i2d cv))])) _
        refine XS.dstore X409.here hx rfl (hb hby at_46) rfl (l' := #[.val (.int wv), .val (.int av), .val (.int bv), .val (.int cv), .val (.int ((wv &&& (2147483647 : Int32)) % (3 : Int32))), .val (.ref aC), .val (.double (FP.i2d av)), .second, .val (.double (FP.i2d bv)), .second, .val (.double (FP.i2d cv)), .second, .unset, .unset, .unset, .unset, .unset, .unset]) rfl ?_
        show Steps p.tables e below (T408.setTop (mkF m 48 #[.val (.int wv), .val (.int av), .val (.int bv), .val (.int cv), .val (.int ((wv &&& (2147483647 : Int32)) % (3 : Int32))), .val (.ref aC), .val (.double (FP.i2d av)), .second, .val (.double (FP.i2d bv)), .second, .val (.double (FP.i2d cv)), .second, .unset, .unset, .unset, .unset, .unset, .unset] [])) _
        refine XS.aload X409.here hx rfl (hb hby at_48) rfl rfl ?_
        show Steps p.tables e below (T408.setTop (mkF m 50 #[.val (.int wv), .val (.int av), .val (.int bv), .val (.int cv), .val (.int ((wv &&& (2147483647 : Int32)) % (3 : Int32))), .val (.ref aC), .val (.double (FP.i2d av)), .second, .val (.double (FP.i2d bv)), .second, .val (.double (FP.i2d cv)), .second, .unset, .unset, .unset, .unset, .unset, .unset] [(.ref aC)])) _
        refine XS.dload X409.here hx rfl (hb hby at_50) rfl ?_
        show Steps p.tables e below (T408.setTop (mkF m 52 #[.val (.int wv), .val (.int av), .val (.int bv), .val (.int cv), .val (.int ((wv &&& (2147483647 : Int32)) % (3 : Int32))), .val (.ref aC), .val (.double (FP.i2d av)), .second, .val (.double (FP.i2d bv)), .second, .val (.double (FP.i2d cv)), .second, .unset, .unset, .unset, .unset, .unset, .unset] [(.double (FP.i2d av)), (.ref aC)])) _
        refine XS.dload X409.here hx rfl (hb hby at_52) rfl ?_
        show Steps p.tables e below (T408.setTop (mkF m 54 #[.val (.int wv), .val (.int av), .val (.int bv), .val (.int cv), .val (.int ((wv &&& (2147483647 : Int32)) % (3 : Int32))), .val (.ref aC), .val (.double (FP.i2d av)), .second, .val (.double (FP.i2d bv)), .second, .val (.double (FP.i2d cv)), .second, .unset, .unset, .unset, .unset, .unset, .unset] [(.double (FP.i2d bv)), (.double (FP.i2d av)), (.ref aC)])) _
        refine XS.dload X409.here hx rfl (hb hby at_54) rfl ?_
        show Steps p.tables e below (T408.setTop (mkF m 56 #[.val (.int wv), .val (.int av), .val (.int bv), .val (.int cv), .val (.int ((wv &&& (2147483647 : Int32)) % (3 : Int32))), .val (.ref aC), .val (.double (FP.i2d av)), .second, .val (.double (FP.i2d bv)), .second, .val (.double (FP.i2d cv)), .second, .unset, .unset, .unset, .unset, .unset, .unset] [(.double (FP.i2d cv)), (.double (FP.i2d bv)), (.double (FP.i2d av)), (.ref aC)])) _
        exact hh)
      obtain ⟨cq423, kq424, qa425, qb426, qc427⟩ := isOf hZ e410 xC
      obtain ⟨_, _, ⟨T412, L413, k_414, n_415⟩, -, X416, ⟨Lc417, hQ418, l_419, y_420, z_421⟩, st422⟩ := X409.virtualBack hx (y := (⟨"com/example/flueline/flueline/FFactor", "select", "(DDD)D"⟩ : MethodName)) (z := (⟨"com/example/flueline/flueline/FFactor", "select", "(DDD)D"⟩ : MethodName)) hown (mvT hZ (wT hw 4 rfl)) (mvT hZ (wT hw 5 rfl)) (notFace_of_selects (args := #[]) (mvT hZ (wT hw 7 rfl))) (mvT hZ (wT hw 7 rfl)) (mvT hZ (wT hw 6 rfl)) (by decide) (backOf (W := 0) (rmS2 l Z a0 hw [] aD aW aC (FP.i2d av) (FP.i2d bv) (FP.i2d cv) h0 n0 Z0 sD_ sW_ n1 n2 n3) hZ (wT hw 8 rfl) (wT hw 2 rfl) (by decide) (by decide)) qa425 qc427 (g := (mkF m 56 #[.val (.int wv), .val (.int av), .val (.int bv), .val (.int cv), .val (.int ((wv &&& (2147483647 : Int32)) % (3 : Int32))), .val (.ref aC), .val (.double (FP.i2d av)), .second, .val (.double (FP.i2d bv)), .second, .val (.double (FP.i2d cv)), .second, .unset, .unset, .unset, .unset, .unset, .unset] [(.double (FP.i2d cv)), (.double (FP.i2d bv)), (.double (FP.i2d av)), (.ref aC)])) rfl (by rw [hml]; rfl) (Steps.refl _) (argsL := [(.double (FP.i2d av)), (.double (FP.i2d bv)), (.double (FP.i2d cv))]) (rest := []) (lenOf own_h18 rfl) rfl (by show 2 * 0 + _ ≤ _; exact Nat.le_of_eq rfl) (hb hby at_56) (fun _ _ => ⟨rfl, e410, (by decide : 0 + 0 ≤ _), (by decide : 0 + 0 ≤ _)⟩)
      dsimp only [Pt.U, Pt.locs, Pt.cells, Pt.slots] at X416 l_419 y_420 z_421 st422 hQ418
      subst l_419 y_420 z_421
      obtain ⟨rfl, N428, e429⟩ := hQ418
      have N430 := Fr.app N0 N428
      have k32 : own_K p e below (T412.setTop (mkF m 59 #[.val (.int wv), .val (.int av), .val (.int bv), .val (.int cv), .val (.int ((wv &&& (2147483647 : Int32)) % (3 : Int32))), .val (.ref aC), .val (.double (FP.i2d av)), .second, .val (.double (FP.i2d bv)), .second, .val (.double (FP.i2d cv)), .second, .unset, .unset, .unset, .unset, .unset, .unset] [(.double (FP.i2d cv))])) (s₁.setTop (entryFrame m #[(.int wv), (.int av), (.int bv), (.int cv)] maxLocals)) := fun t hh => k31 t (st422.trans hh)
      have k33 : own_K p e below (T412.setTop (mkF m 63 #[.val (.int wv), .val (.int av), .val (.int bv), .val (.int cv), .val (.int ((wv &&& (2147483647 : Int32)) % (3 : Int32))), .val (.ref aC), .val (.double (FP.i2d av)), .second, .val (.double (FP.i2d bv)), .second, .val (.double (FP.i2d cv)), .second, .val (.double (FP.i2d cv)), .second, .unset, .unset, .unset, .unset] [(.ref aC)])) (s₁.setTop (entryFrame m #[(.int wv), (.int av), (.int bv), (.int cv)] maxLocals)) := fun t hh => k32 t (by
        refine XS.dstore X416.here hx rfl (hb hby at_59) rfl (l' := #[.val (.int wv), .val (.int av), .val (.int bv), .val (.int cv), .val (.int ((wv &&& (2147483647 : Int32)) % (3 : Int32))), .val (.ref aC), .val (.double (FP.i2d av)), .second, .val (.double (FP.i2d bv)), .second, .val (.double (FP.i2d cv)), .second, .val (.double (FP.i2d cv)), .second, .unset, .unset, .unset, .unset]) rfl ?_
        show Steps p.tables e below (T412.setTop (mkF m 61 #[.val (.int wv), .val (.int av), .val (.int bv), .val (.int cv), .val (.int ((wv &&& (2147483647 : Int32)) % (3 : Int32))), .val (.ref aC), .val (.double (FP.i2d av)), .second, .val (.double (FP.i2d bv)), .second, .val (.double (FP.i2d cv)), .second, .val (.double (FP.i2d cv)), .second, .unset, .unset, .unset, .unset] [])) _
        refine XS.aload X416.here hx rfl (hb hby at_61) rfl rfl ?_
        show Steps p.tables e below (T412.setTop (mkF m 63 #[.val (.int wv), .val (.int av), .val (.int bv), .val (.int cv), .val (.int ((wv &&& (2147483647 : Int32)) % (3 : Int32))), .val (.ref aC), .val (.double (FP.i2d av)), .second, .val (.double (FP.i2d bv)), .second, .val (.double (FP.i2d cv)), .second, .val (.double (FP.i2d cv)), .second, .unset, .unset, .unset, .unset] [(.ref aC)])) _
        exact hh)
      obtain ⟨cq442, kq443, qa444, qb445, qc446⟩ := isOf hZ e429 xC
      obtain ⟨_, _, ⟨T431, L432, k_433, n_434⟩, -, X435, ⟨Lc436, hQ437, l_438, y_439, z_440⟩, st441⟩ := X416.virtualBack hx (y := (⟨"com/example/flueline/flueline/FFactor", "planKey", "()Ljava/lang/String;"⟩ : MethodName)) (z := (⟨"com/example/flueline/flueline/FFactor", "planKey", "()Ljava/lang/String;"⟩ : MethodName)) hown (mvT hZ (wT hw 10 rfl)) (mvT hZ (wT hw 11 rfl)) (notFace_of_selects (args := #[]) (mvT hZ (wT hw 13 rfl))) (mvT hZ (wT hw 13 rfl)) (mvT hZ (wT hw 12 rfl)) (by decide) (backOf (W := 0) (rmP l Z a0 hw [] aC kC h0 n0 Z0 pC) hZ (wT hw 14 rfl) (wT hw 2 rfl) (by decide) (by decide)) qa444 qc446 (g := (mkF m 63 #[.val (.int wv), .val (.int av), .val (.int bv), .val (.int cv), .val (.int ((wv &&& (2147483647 : Int32)) % (3 : Int32))), .val (.ref aC), .val (.double (FP.i2d av)), .second, .val (.double (FP.i2d bv)), .second, .val (.double (FP.i2d cv)), .second, .val (.double (FP.i2d cv)), .second, .unset, .unset, .unset, .unset] [(.ref aC)])) rfl (by rw [hml]; rfl) (Steps.refl _) (argsL := []) (rest := []) (lenOf own_h19 rfl) rfl (by show 2 * 0 + _ ≤ _; exact Nat.le_of_eq rfl) (hb hby at_63) (fun _ _ => ⟨rfl, e429, (by decide : 0 + 0 ≤ _), (by decide : 0 + 0 ≤ _)⟩)
      dsimp only [Pt.U, Pt.locs, Pt.cells, Pt.slots] at X435 l_438 y_439 z_440 st441 hQ437
      subst l_438 y_439 z_440
      obtain ⟨rfl, N447, e448⟩ := hQ437
      have N449 := Fr.app N430 N447
      have k34 : own_K p e below (T431.setTop (mkF m 66 #[.val (.int wv), .val (.int av), .val (.int bv), .val (.int cv), .val (.int ((wv &&& (2147483647 : Int32)) % (3 : Int32))), .val (.ref aC), .val (.double (FP.i2d av)), .second, .val (.double (FP.i2d bv)), .second, .val (.double (FP.i2d cv)), .second, .val (.double (FP.i2d cv)), .second, .unset, .unset, .unset, .unset] [(.ref kC)])) (s₁.setTop (entryFrame m #[(.int wv), (.int av), (.int bv), (.int cv)] maxLocals)) := fun t hh => k33 t (st441.trans hh)
      have k35 : own_K p e below (T431.setTop (mkF m 70 #[.val (.int wv), .val (.int av), .val (.int bv), .val (.int cv), .val (.int ((wv &&& (2147483647 : Int32)) % (3 : Int32))), .val (.ref aC), .val (.double (FP.i2d av)), .second, .val (.double (FP.i2d bv)), .second, .val (.double (FP.i2d cv)), .second, .val (.double (FP.i2d cv)), .second, .val (.ref kC), .unset, .unset, .unset] [(.ref kC)])) (s₁.setTop (entryFrame m #[(.int wv), (.int av), (.int bv), (.int cv)] maxLocals)) := fun t hh => k34 t (by
        refine XS.astore X435.here hx rfl (hb hby at_66) rfl rfl (l' := #[.val (.int wv), .val (.int av), .val (.int bv), .val (.int cv), .val (.int ((wv &&& (2147483647 : Int32)) % (3 : Int32))), .val (.ref aC), .val (.double (FP.i2d av)), .second, .val (.double (FP.i2d bv)), .second, .val (.double (FP.i2d cv)), .second, .val (.double (FP.i2d cv)), .second, .val (.ref kC), .unset, .unset, .unset]) rfl ?_
        show Steps p.tables e below (T431.setTop (mkF m 68 #[.val (.int wv), .val (.int av), .val (.int bv), .val (.int cv), .val (.int ((wv &&& (2147483647 : Int32)) % (3 : Int32))), .val (.ref aC), .val (.double (FP.i2d av)), .second, .val (.double (FP.i2d bv)), .second, .val (.double (FP.i2d cv)), .second, .val (.double (FP.i2d cv)), .second, .val (.ref kC), .unset, .unset, .unset] [])) _
        refine XS.aload X435.here hx rfl (hb hby at_68) rfl rfl ?_
        show Steps p.tables e below (T431.setTop (mkF m 70 #[.val (.int wv), .val (.int av), .val (.int bv), .val (.int cv), .val (.int ((wv &&& (2147483647 : Int32)) % (3 : Int32))), .val (.ref aC), .val (.double (FP.i2d av)), .second, .val (.double (FP.i2d bv)), .second, .val (.double (FP.i2d cv)), .second, .val (.double (FP.i2d cv)), .second, .val (.ref kC), .unset, .unset, .unset] [(.ref kC)])) _
        exact hh)
      obtain ⟨cq461, kq462, qa463, qb464, qc465⟩ := isOf hZ e448 yC
      obtain ⟨_, _, ⟨T450, L451, k_452, n_453⟩, -, X454, ⟨Lc455, hQ456, l_457, y_458, z_459⟩, st460⟩ := X435.virtualBack hx (y := (⟨"java/lang/String", "length", "()I"⟩ : MethodName)) (z := (⟨"java/lang/String", "length", "()I"⟩ : MethodName)) hown (mvT hZ (wT hw 17 rfl)) (mvT hZ (wT hw 18 rfl)) (notFace_of_selects (args := #[]) (mvT hZ (wT hw 20 rfl))) (mvT hZ (wT hw 20 rfl)) (mvT hZ (wT hw 19 rfl)) (by decide) (backOf (W := 0) (rmLe l Z a0 hw [] kC h0 n0 Z0 ci sC hc cC_ bC tC (102 : Int32) (99 : Int32) yC vC rC) hZ (wT hw 22 rfl) (wT hw 21 rfl) (by decide) (by decide)) qa463 qc465 (g := (mkF m 70 #[.val (.int wv), .val (.int av), .val (.int bv), .val (.int cv), .val (.int ((wv &&& (2147483647 : Int32)) % (3 : Int32))), .val (.ref aC), .val (.double (FP.i2d av)), .second, .val (.double (FP.i2d bv)), .second, .val (.double (FP.i2d cv)), .second, .val (.double (FP.i2d cv)), .second, .val (.ref kC), .unset, .unset, .unset] [(.ref kC)])) rfl (by rw [hml]; rfl) (Steps.refl _) (argsL := []) (rest := []) (lenOf own_h20 rfl) rfl (by show 2 * 0 + _ ≤ _; exact Nat.le_of_eq rfl) (hb hby at_70) (fun _ _ => ⟨rfl, e448, (by decide : 0 + 0 ≤ _), (by decide : 0 + 0 ≤ _)⟩)
      dsimp only [Pt.U, Pt.locs, Pt.cells, Pt.slots] at X454 l_457 y_458 z_459 st460 hQ456
      subst l_457 y_458 z_459
      obtain ⟨rfl, N466, e467⟩ := hQ456
      have N468 := Fr.app N449 N466
      have k36 : own_K p e below (T450.setTop (mkF m 73 #[.val (.int wv), .val (.int av), .val (.int bv), .val (.int cv), .val (.int ((wv &&& (2147483647 : Int32)) % (3 : Int32))), .val (.ref aC), .val (.double (FP.i2d av)), .second, .val (.double (FP.i2d bv)), .second, .val (.double (FP.i2d cv)), .second, .val (.double (FP.i2d cv)), .second, .val (.ref kC), .unset, .unset, .unset] [(.int (2 : Int32))])) (s₁.setTop (entryFrame m #[(.int wv), (.int av), (.int bv), (.int cv)] maxLocals)) := fun t hh => k35 t (st460.trans hh)
      have k37 : own_K p e below (T450.setTop (mkF m 82 #[.val (.int wv), .val (.int av), .val (.int bv), .val (.int cv), .val (.int ((wv &&& (2147483647 : Int32)) % (3 : Int32))), .val (.ref aC), .val (.double (FP.i2d av)), .second, .val (.double (FP.i2d bv)), .second, .val (.double (FP.i2d cv)), .second, .val (.double (FP.i2d cv)), .second, .val (.ref kC), .unset, .unset, .unset] [(.int (0 : Int32)), (.ref kC)])) (s₁.setTop (entryFrame m #[(.int wv), (.int av), (.int bv), (.int cv)] maxLocals)) := fun t hh => k36 t (by
        refine XS.iconst X454.here hx rfl (hb hby at_73) ?_
        show Steps p.tables e below (T450.setTop (mkF m 74 #[.val (.int wv), .val (.int av), .val (.int bv), .val (.int cv), .val (.int ((wv &&& (2147483647 : Int32)) % (3 : Int32))), .val (.ref aC), .val (.double (FP.i2d av)), .second, .val (.double (FP.i2d bv)), .second, .val (.double (FP.i2d cv)), .second, .val (.double (FP.i2d cv)), .second, .val (.ref kC), .unset, .unset, .unset] [(.int (2 : Int32)), (.int (2 : Int32))])) _
        refine XS.icmpYes X454.here hx rfl (pc0 := 74) (pc' := 79) rfl (hb hby at_74) rfl (by decide) (by decide) (by decide) ?_
        show Steps p.tables e below (T450.setTop (mkF m 79 #[.val (.int wv), .val (.int av), .val (.int bv), .val (.int cv), .val (.int ((wv &&& (2147483647 : Int32)) % (3 : Int32))), .val (.ref aC), .val (.double (FP.i2d av)), .second, .val (.double (FP.i2d bv)), .second, .val (.double (FP.i2d cv)), .second, .val (.double (FP.i2d cv)), .second, .val (.ref kC), .unset, .unset, .unset] [])) _
        refine XS.aload X454.here hx rfl (hb hby at_79) rfl rfl ?_
        show Steps p.tables e below (T450.setTop (mkF m 81 #[.val (.int wv), .val (.int av), .val (.int bv), .val (.int cv), .val (.int ((wv &&& (2147483647 : Int32)) % (3 : Int32))), .val (.ref aC), .val (.double (FP.i2d av)), .second, .val (.double (FP.i2d bv)), .second, .val (.double (FP.i2d cv)), .second, .val (.double (FP.i2d cv)), .second, .val (.ref kC), .unset, .unset, .unset] [(.ref kC)])) _
        refine XS.iconst X454.here hx rfl (hb hby at_81) ?_
        show Steps p.tables e below (T450.setTop (mkF m 82 #[.val (.int wv), .val (.int av), .val (.int bv), .val (.int cv), .val (.int ((wv &&& (2147483647 : Int32)) % (3 : Int32))), .val (.ref aC), .val (.double (FP.i2d av)), .second, .val (.double (FP.i2d bv)), .second, .val (.double (FP.i2d cv)), .second, .val (.double (FP.i2d cv)), .second, .val (.ref kC), .unset, .unset, .unset] [(.int (0 : Int32)), (.ref kC)])) _
        exact hh)
      obtain ⟨cq480, kq481, qa482, qb483, qc484⟩ := isOf hZ e467 yC
      obtain ⟨_, _, ⟨T469, L470, k_471, n_472⟩, -, X473, ⟨Lc474, hQ475, l_476, y_477, z_478⟩, st479⟩ := X454.virtualBack hx (y := (⟨"java/lang/String", "charAt", "(I)C"⟩ : MethodName)) (z := (⟨"java/lang/String", "charAt", "(I)C"⟩ : MethodName)) hown (mvT hZ (wT hw 33 rfl)) (mvT hZ (wT hw 34 rfl)) (notFace_of_selects (args := #[]) (mvT hZ (wT hw 36 rfl))) (mvT hZ (wT hw 36 rfl)) (mvT hZ (wT hw 35 rfl)) (by decide) (backOf (W := 0) (rmCh0 l Z a0 hw [] kC h0 n0 Z0 ci sC hc cC_ bC tC (102 : Int32) (99 : Int32) yC vC rC gv sG hg (by decide) (by decide)) hZ (wT hw 37 rfl) (wT hw 21 rfl) (by decide) (by decide)) qa482 qc484 (g := (mkF m 82 #[.val (.int wv), .val (.int av), .val (.int bv), .val (.int cv), .val (.int ((wv &&& (2147483647 : Int32)) % (3 : Int32))), .val (.ref aC), .val (.double (FP.i2d av)), .second, .val (.double (FP.i2d bv)), .second, .val (.double (FP.i2d cv)), .second, .val (.double (FP.i2d cv)), .second, .val (.ref kC), .unset, .unset, .unset] [(.int (0 : Int32)), (.ref kC)])) rfl (by rw [hml]; rfl) (Steps.refl _) (argsL := [(.int (0 : Int32))]) (rest := []) (lenOf own_h22 rfl) rfl (by show 2 * 0 + _ ≤ _; exact Nat.le_of_eq rfl) (hb hby at_82) (fun _ _ => ⟨rfl, e467, (by decide : 0 + 0 ≤ _), (by decide : 0 + 0 ≤ _)⟩)
      dsimp only [Pt.U, Pt.locs, Pt.cells, Pt.slots] at X473 l_476 y_477 z_478 st479 hQ475
      subst l_476 y_477 z_478
      obtain ⟨rfl, N485, e486⟩ := hQ475
      have N487 := Fr.app N468 N485
      have k38 : own_K p e below (T469.setTop (mkF m 85 #[.val (.int wv), .val (.int av), .val (.int bv), .val (.int cv), .val (.int ((wv &&& (2147483647 : Int32)) % (3 : Int32))), .val (.ref aC), .val (.double (FP.i2d av)), .second, .val (.double (FP.i2d bv)), .second, .val (.double (FP.i2d cv)), .second, .val (.double (FP.i2d cv)), .second, .val (.ref kC), .unset, .unset, .unset] [(.int (102 : Int32))])) (s₁.setTop (entryFrame m #[(.int wv), (.int av), (.int bv), (.int cv)] maxLocals)) := fun t hh => k37 t (st479.trans hh)
      have k39 : own_K p e below (T469.setTop (mkF m 95 #[.val (.int wv), .val (.int av), .val (.int bv), .val (.int cv), .val (.int ((wv &&& (2147483647 : Int32)) % (3 : Int32))), .val (.ref aC), .val (.double (FP.i2d av)), .second, .val (.double (FP.i2d bv)), .second, .val (.double (FP.i2d cv)), .second, .val (.double (FP.i2d cv)), .second, .val (.ref kC), .unset, .unset, .unset] [(.int (1 : Int32)), (.ref kC)])) (s₁.setTop (entryFrame m #[(.int wv), (.int av), (.int bv), (.int cv)] maxLocals)) := fun t hh => k38 t (by
        refine XS.bipush X473.here hx rfl (hb hby at_85) ?_
        show Steps p.tables e below (T469.setTop (mkF m 87 #[.val (.int wv), .val (.int av), .val (.int bv), .val (.int cv), .val (.int ((wv &&& (2147483647 : Int32)) % (3 : Int32))), .val (.ref aC), .val (.double (FP.i2d av)), .second, .val (.double (FP.i2d bv)), .second, .val (.double (FP.i2d cv)), .second, .val (.double (FP.i2d cv)), .second, .val (.ref kC), .unset, .unset, .unset] [(.int (102 : Int32)), (.int (102 : Int32))])) _
        refine XS.icmpYes X473.here hx rfl (pc0 := 87) (pc' := 92) rfl (hb hby at_87) rfl (by decide) (by decide) (by decide) ?_
        show Steps p.tables e below (T469.setTop (mkF m 92 #[.val (.int wv), .val (.int av), .val (.int bv), .val (.int cv), .val (.int ((wv &&& (2147483647 : Int32)) % (3 : Int32))), .val (.ref aC), .val (.double (FP.i2d av)), .second, .val (.double (FP.i2d bv)), .second, .val (.double (FP.i2d cv)), .second, .val (.double (FP.i2d cv)), .second, .val (.ref kC), .unset, .unset, .unset] [])) _
        refine XS.aload X473.here hx rfl (hb hby at_92) rfl rfl ?_
        show Steps p.tables e below (T469.setTop (mkF m 94 #[.val (.int wv), .val (.int av), .val (.int bv), .val (.int cv), .val (.int ((wv &&& (2147483647 : Int32)) % (3 : Int32))), .val (.ref aC), .val (.double (FP.i2d av)), .second, .val (.double (FP.i2d bv)), .second, .val (.double (FP.i2d cv)), .second, .val (.double (FP.i2d cv)), .second, .val (.ref kC), .unset, .unset, .unset] [(.ref kC)])) _
        refine XS.iconst X473.here hx rfl (hb hby at_94) ?_
        show Steps p.tables e below (T469.setTop (mkF m 95 #[.val (.int wv), .val (.int av), .val (.int bv), .val (.int cv), .val (.int ((wv &&& (2147483647 : Int32)) % (3 : Int32))), .val (.ref aC), .val (.double (FP.i2d av)), .second, .val (.double (FP.i2d bv)), .second, .val (.double (FP.i2d cv)), .second, .val (.double (FP.i2d cv)), .second, .val (.ref kC), .unset, .unset, .unset] [(.int (1 : Int32)), (.ref kC)])) _
        exact hh)
      obtain ⟨cq499, kq500, qa501, qb502, qc503⟩ := isOf hZ e486 yC
      obtain ⟨_, _, ⟨T488, L489, k_490, n_491⟩, -, X492, ⟨Lc493, hQ494, l_495, y_496, z_497⟩, st498⟩ := X473.virtualBack hx (y := (⟨"java/lang/String", "charAt", "(I)C"⟩ : MethodName)) (z := (⟨"java/lang/String", "charAt", "(I)C"⟩ : MethodName)) hown (mvT hZ (wT hw 33 rfl)) (mvT hZ (wT hw 34 rfl)) (notFace_of_selects (args := #[]) (mvT hZ (wT hw 36 rfl))) (mvT hZ (wT hw 36 rfl)) (mvT hZ (wT hw 35 rfl)) (by decide) (backOf (W := 0) (rmCh1 l Z a0 hw [] kC h0 n0 Z0 ci sC hc cC_ bC tC (102 : Int32) (99 : Int32) yC vC rC gv sG hg (by decide) (by decide)) hZ (wT hw 37 rfl) (wT hw 21 rfl) (by decide) (by decide)) qa501 qc503 (g := (mkF m 95 #[.val (.int wv), .val (.int av), .val (.int bv), .val (.int cv), .val (.int ((wv &&& (2147483647 : Int32)) % (3 : Int32))), .val (.ref aC), .val (.double (FP.i2d av)), .second, .val (.double (FP.i2d bv)), .second, .val (.double (FP.i2d cv)), .second, .val (.double (FP.i2d cv)), .second, .val (.ref kC), .unset, .unset, .unset] [(.int (1 : Int32)), (.ref kC)])) rfl (by rw [hml]; rfl) (Steps.refl _) (argsL := [(.int (1 : Int32))]) (rest := []) (lenOf own_h22 rfl) rfl (by show 2 * 0 + _ ≤ _; exact Nat.le_of_eq rfl) (hb hby at_95) (fun _ _ => ⟨rfl, e486, (by decide : 0 + 0 ≤ _), (by decide : 0 + 0 ≤ _)⟩)
      dsimp only [Pt.U, Pt.locs, Pt.cells, Pt.slots] at X492 l_495 y_496 z_497 st498 hQ494
      subst l_495 y_496 z_497
      obtain ⟨rfl, N504, e505⟩ := hQ494
      have N506 := Fr.app N487 N504
      have k40 : own_K p e below (T488.setTop (mkF m 98 #[.val (.int wv), .val (.int av), .val (.int bv), .val (.int cv), .val (.int ((wv &&& (2147483647 : Int32)) % (3 : Int32))), .val (.ref aC), .val (.double (FP.i2d av)), .second, .val (.double (FP.i2d bv)), .second, .val (.double (FP.i2d cv)), .second, .val (.double (FP.i2d cv)), .second, .val (.ref kC), .unset, .unset, .unset] [(.int (99 : Int32))])) (s₁.setTop (entryFrame m #[(.int wv), (.int av), (.int bv), (.int cv)] maxLocals)) := fun t hh => k39 t (st498.trans hh)
      have k41 : own_K p e below (T488.setTop (mkF m 157 #[.val (.int wv), .val (.int av), .val (.int bv), .val (.int cv), .val (.int ((wv &&& (2147483647 : Int32)) % (3 : Int32))), .val (.ref aC), .val (.double (FP.i2d av)), .second, .val (.double (FP.i2d bv)), .second, .val (.double (FP.i2d cv)), .second, .val (.double (FP.i2d cv)), .second, .val (.ref kC), .val (.int (99 : Int32)), .val (.double (FP.i2d cv)), .second] [(.int (1 : Int32))])) (s₁.setTop (entryFrame m #[(.int wv), (.int av), (.int bv), (.int cv)] maxLocals)) := fun t hh => k40 t (by
        refine XS.istore X492.here hx rfl (hb hby at_98) rfl (l' := #[.val (.int wv), .val (.int av), .val (.int bv), .val (.int cv), .val (.int ((wv &&& (2147483647 : Int32)) % (3 : Int32))), .val (.ref aC), .val (.double (FP.i2d av)), .second, .val (.double (FP.i2d bv)), .second, .val (.double (FP.i2d cv)), .second, .val (.double (FP.i2d cv)), .second, .val (.ref kC), .val (.int (99 : Int32)), .unset, .unset]) rfl ?_
        show Steps p.tables e below (T488.setTop (mkF m 100 #[.val (.int wv), .val (.int av), .val (.int bv), .val (.int cv), .val (.int ((wv &&& (2147483647 : Int32)) % (3 : Int32))), .val (.ref aC), .val (.double (FP.i2d av)), .second, .val (.double (FP.i2d bv)), .second, .val (.double (FP.i2d cv)), .second, .val (.double (FP.i2d cv)), .second, .val (.ref kC), .val (.int (99 : Int32)), .unset, .unset] [])) _
        refine XS.iload X492.here hx rfl (hb hby at_100) rfl ?_
        show Steps p.tables e below (T488.setTop (mkF m 102 #[.val (.int wv), .val (.int av), .val (.int bv), .val (.int cv), .val (.int ((wv &&& (2147483647 : Int32)) % (3 : Int32))), .val (.ref aC), .val (.double (FP.i2d av)), .second, .val (.double (FP.i2d bv)), .second, .val (.double (FP.i2d cv)), .second, .val (.double (FP.i2d cv)), .second, .val (.ref kC), .val (.int (99 : Int32)), .unset, .unset] [(.int (99 : Int32))])) _
        refine XS.bipush X492.here hx rfl (hb hby at_102) ?_
        show Steps p.tables e below (T488.setTop (mkF m 104 #[.val (.int wv), .val (.int av), .val (.int bv), .val (.int cv), .val (.int ((wv &&& (2147483647 : Int32)) % (3 : Int32))), .val (.ref aC), .val (.double (FP.i2d av)), .second, .val (.double (FP.i2d bv)), .second, .val (.double (FP.i2d cv)), .second, .val (.double (FP.i2d cv)), .second, .val (.ref kC), .val (.int (99 : Int32)), .unset, .unset] [(.int (100 : Int32)), (.int (99 : Int32))])) _
        refine XS.icmpYes X492.here hx rfl (pc0 := 104) (pc' := 114) rfl (hb hby at_104) rfl (by decide) (by decide) (by decide) ?_
        show Steps p.tables e below (T488.setTop (mkF m 114 #[.val (.int wv), .val (.int av), .val (.int bv), .val (.int cv), .val (.int ((wv &&& (2147483647 : Int32)) % (3 : Int32))), .val (.ref aC), .val (.double (FP.i2d av)), .second, .val (.double (FP.i2d bv)), .second, .val (.double (FP.i2d cv)), .second, .val (.double (FP.i2d cv)), .second, .val (.ref kC), .val (.int (99 : Int32)), .unset, .unset] [])) _
        refine XS.iload X492.here hx rfl (hb hby at_114) rfl ?_
        show Steps p.tables e below (T488.setTop (mkF m 116 #[.val (.int wv), .val (.int av), .val (.int bv), .val (.int cv), .val (.int ((wv &&& (2147483647 : Int32)) % (3 : Int32))), .val (.ref aC), .val (.double (FP.i2d av)), .second, .val (.double (FP.i2d bv)), .second, .val (.double (FP.i2d cv)), .second, .val (.double (FP.i2d cv)), .second, .val (.ref kC), .val (.int (99 : Int32)), .unset, .unset] [(.int (99 : Int32))])) _
        refine XS.bipush X492.here hx rfl (hb hby at_116) ?_
        show Steps p.tables e below (T488.setTop (mkF m 118 #[.val (.int wv), .val (.int av), .val (.int bv), .val (.int cv), .val (.int ((wv &&& (2147483647 : Int32)) % (3 : Int32))), .val (.ref aC), .val (.double (FP.i2d av)), .second, .val (.double (FP.i2d bv)), .second, .val (.double (FP.i2d cv)), .second, .val (.double (FP.i2d cv)), .second, .val (.ref kC), .val (.int (99 : Int32)), .unset, .unset] [(.int (119 : Int32)), (.int (99 : Int32))])) _
        refine XS.icmpYes X492.here hx rfl (pc0 := 118) (pc' := 128) rfl (hb hby at_118) rfl (by decide) (by decide) (by decide) ?_
        show Steps p.tables e below (T488.setTop (mkF m 128 #[.val (.int wv), .val (.int av), .val (.int bv), .val (.int cv), .val (.int ((wv &&& (2147483647 : Int32)) % (3 : Int32))), .val (.ref aC), .val (.double (FP.i2d av)), .second, .val (.double (FP.i2d bv)), .second, .val (.double (FP.i2d cv)), .second, .val (.double (FP.i2d cv)), .second, .val (.ref kC), .val (.int (99 : Int32)), .unset, .unset] [])) _
        refine XS.iload X492.here hx rfl (hb hby at_128) rfl ?_
        show Steps p.tables e below (T488.setTop (mkF m 130 #[.val (.int wv), .val (.int av), .val (.int bv), .val (.int cv), .val (.int ((wv &&& (2147483647 : Int32)) % (3 : Int32))), .val (.ref aC), .val (.double (FP.i2d av)), .second, .val (.double (FP.i2d bv)), .second, .val (.double (FP.i2d cv)), .second, .val (.double (FP.i2d cv)), .second, .val (.ref kC), .val (.int (99 : Int32)), .unset, .unset] [(.int (99 : Int32))])) _
        refine XS.bipush X492.here hx rfl (hb hby at_130) ?_
        show Steps p.tables e below (T488.setTop (mkF m 132 #[.val (.int wv), .val (.int av), .val (.int bv), .val (.int cv), .val (.int ((wv &&& (2147483647 : Int32)) % (3 : Int32))), .val (.ref aC), .val (.double (FP.i2d av)), .second, .val (.double (FP.i2d bv)), .second, .val (.double (FP.i2d cv)), .second, .val (.double (FP.i2d cv)), .second, .val (.ref kC), .val (.int (99 : Int32)), .unset, .unset] [(.int (99 : Int32)), (.int (99 : Int32))])) _
        refine XS.icmpNo X492.here hx rfl (hb hby at_132) rfl (by decide) ?_
        show Steps p.tables e below (T488.setTop (mkF m 135 #[.val (.int wv), .val (.int av), .val (.int bv), .val (.int cv), .val (.int ((wv &&& (2147483647 : Int32)) % (3 : Int32))), .val (.ref aC), .val (.double (FP.i2d av)), .second, .val (.double (FP.i2d bv)), .second, .val (.double (FP.i2d cv)), .second, .val (.double (FP.i2d cv)), .second, .val (.ref kC), .val (.int (99 : Int32)), .unset, .unset] [])) _
        refine XS.dload X492.here hx rfl (hb hby at_135) rfl ?_
        show Steps p.tables e below (T488.setTop (mkF m 137 #[.val (.int wv), .val (.int av), .val (.int bv), .val (.int cv), .val (.int ((wv &&& (2147483647 : Int32)) % (3 : Int32))), .val (.ref aC), .val (.double (FP.i2d av)), .second, .val (.double (FP.i2d bv)), .second, .val (.double (FP.i2d cv)), .second, .val (.double (FP.i2d cv)), .second, .val (.ref kC), .val (.int (99 : Int32)), .unset, .unset] [(.double (FP.i2d cv))])) _
        refine XS.dstore X492.here hx rfl (hb hby at_137) rfl (l' := #[.val (.int wv), .val (.int av), .val (.int bv), .val (.int cv), .val (.int ((wv &&& (2147483647 : Int32)) % (3 : Int32))), .val (.ref aC), .val (.double (FP.i2d av)), .second, .val (.double (FP.i2d bv)), .second, .val (.double (FP.i2d cv)), .second, .val (.double (FP.i2d cv)), .second, .val (.ref kC), .val (.int (99 : Int32)), .val (.double (FP.i2d cv)), .second]) rfl ?_
        show Steps p.tables e below (T488.setTop (mkF m 139 #[.val (.int wv), .val (.int av), .val (.int bv), .val (.int cv), .val (.int ((wv &&& (2147483647 : Int32)) % (3 : Int32))), .val (.ref aC), .val (.double (FP.i2d av)), .second, .val (.double (FP.i2d bv)), .second, .val (.double (FP.i2d cv)), .second, .val (.double (FP.i2d cv)), .second, .val (.ref kC), .val (.int (99 : Int32)), .val (.double (FP.i2d cv)), .second] [])) _
        refine XS.goto X492.here hx rfl (pc0 := 139) (pc' := 144) rfl (hb hby at_139) (by decide) (by decide) ?_
        show Steps p.tables e below (T488.setTop (mkF m 144 #[.val (.int wv), .val (.int av), .val (.int bv), .val (.int cv), .val (.int ((wv &&& (2147483647 : Int32)) % (3 : Int32))), .val (.ref aC), .val (.double (FP.i2d av)), .second, .val (.double (FP.i2d bv)), .second, .val (.double (FP.i2d cv)), .second, .val (.double (FP.i2d cv)), .second, .val (.ref kC), .val (.int (99 : Int32)), .val (.double (FP.i2d cv)), .second] [])) _
        refine XS.dload X492.here hx rfl (hb hby at_144) rfl ?_
        show Steps p.tables e below (T488.setTop (mkF m 146 #[.val (.int wv), .val (.int av), .val (.int bv), .val (.int cv), .val (.int ((wv &&& (2147483647 : Int32)) % (3 : Int32))), .val (.ref aC), .val (.double (FP.i2d av)), .second, .val (.double (FP.i2d bv)), .second, .val (.double (FP.i2d cv)), .second, .val (.double (FP.i2d cv)), .second, .val (.ref kC), .val (.int (99 : Int32)), .val (.double (FP.i2d cv)), .second] [(.double (FP.i2d cv))])) _
        refine XS.dload X492.here hx rfl (hb hby at_146) rfl ?_
        show Steps p.tables e below (T488.setTop (mkF m 148 #[.val (.int wv), .val (.int av), .val (.int bv), .val (.int cv), .val (.int ((wv &&& (2147483647 : Int32)) % (3 : Int32))), .val (.ref aC), .val (.double (FP.i2d av)), .second, .val (.double (FP.i2d bv)), .second, .val (.double (FP.i2d cv)), .second, .val (.double (FP.i2d cv)), .second, .val (.ref kC), .val (.int (99 : Int32)), .val (.double (FP.i2d cv)), .second] [(.double (FP.i2d cv)), (.double (FP.i2d cv))])) _
        refine XS.dcmpS X492.here hx rfl (hb hby at_148) rfl (dcmpV_self (Jvm.Free.Fl.i2d_fin cv).noNaN _) ?_
        show Steps p.tables e below (T488.setTop (mkF m 149 #[.val (.int wv), .val (.int av), .val (.int bv), .val (.int cv), .val (.int ((wv &&& (2147483647 : Int32)) % (3 : Int32))), .val (.ref aC), .val (.double (FP.i2d av)), .second, .val (.double (FP.i2d bv)), .second, .val (.double (FP.i2d cv)), .second, .val (.double (FP.i2d cv)), .second, .val (.ref kC), .val (.int (99 : Int32)), .val (.double (FP.i2d cv)), .second] [(.int (0 : Int32))])) _
        refine XS.ifNo X492.here hx rfl (hb hby at_149) rfl (by decide) ?_
        show Steps p.tables e below (T488.setTop (mkF m 152 #[.val (.int wv), .val (.int av), .val (.int bv), .val (.int cv), .val (.int ((wv &&& (2147483647 : Int32)) % (3 : Int32))), .val (.ref aC), .val (.double (FP.i2d av)), .second, .val (.double (FP.i2d bv)), .second, .val (.double (FP.i2d cv)), .second, .val (.double (FP.i2d cv)), .second, .val (.ref kC), .val (.int (99 : Int32)), .val (.double (FP.i2d cv)), .second] [])) _
        refine XS.iconst X492.here hx rfl (hb hby at_152) ?_
        show Steps p.tables e below (T488.setTop (mkF m 153 #[.val (.int wv), .val (.int av), .val (.int bv), .val (.int cv), .val (.int ((wv &&& (2147483647 : Int32)) % (3 : Int32))), .val (.ref aC), .val (.double (FP.i2d av)), .second, .val (.double (FP.i2d bv)), .second, .val (.double (FP.i2d cv)), .second, .val (.double (FP.i2d cv)), .second, .val (.ref kC), .val (.int (99 : Int32)), .val (.double (FP.i2d cv)), .second] [(.int (1 : Int32))])) _
        refine XS.goto X492.here hx rfl (pc0 := 153) (pc' := 157) rfl (hb hby at_153) (by decide) (by decide) ?_
        show Steps p.tables e below (T488.setTop (mkF m 157 #[.val (.int wv), .val (.int av), .val (.int bv), .val (.int cv), .val (.int ((wv &&& (2147483647 : Int32)) % (3 : Int32))), .val (.ref aC), .val (.double (FP.i2d av)), .second, .val (.double (FP.i2d bv)), .second, .val (.double (FP.i2d cv)), .second, .val (.double (FP.i2d cv)), .second, .val (.ref kC), .val (.int (99 : Int32)), .val (.double (FP.i2d cv)), .second] [(.int (1 : Int32))])) _
        exact hh)
      obtain ⟨fs, hr, hrun, hended, hW, hsame⟩ := X492.leave (v := some (.int (1 : Int32))) (fun h => by rw [Bd.returns] at h; cases h)
      refine ⟨_, _, k41 _ (retN X492 hx (t := .boolean) Bd.returns (by simp) (hb hby at_157) hr), hrun, hended, _, _, rfl, ?_, ⟨_, rfl⟩, hW, hsame.mono (by decide) (by decide)⟩
      show QL h0 n0 _ T488.heap _
      rw [e505]
      exact ⟨rfl, N506⟩
theorem own_eqInt {args : Array Value} {s : State} {t : Term} {n : Int32} (h : (Cond.eq t (Term.int n)).value args s none s [] = some true) : t.eval args s none [] s = some (.int n) := by
  obtain ⟨x, y, ex, ey, kx, ky⟩ := cmp_v (Or.inl h)
  have e : y = .int n := (Option.some.inj ((Term.int_eval n).symm.trans ey)).symm
  subst e
  obtain ⟨z, rfl⟩ := ky
  have := gotT (Cond.eq_ints ex (Term.int_eval n)) h
  rw [ex, this]
theorem own_key {args : Array Value} {s : State} (hf : Fit s) {t : Term} {a : Addr} {n : Int32} (ev : t.eval args s none [] s = some (.ref a)) (hF : (Cond.exactly (Term.field t "com/example/flueline/flueline/FFactor" "planKey" "Ljava/lang/String;") "java/lang/String").value args s none s [] = some true)
    (h2 : (Cond.arrayOf (Term.field (Term.field t "com/example/flueline/flueline/FFactor" "planKey" "Ljava/lang/String;") "java/lang/String" "value" "[B") .byte).value args s none s [] = some true) (h3 : (Cond.eq (Term.length (Term.field (Term.field t "com/example/flueline/flueline/FFactor" "planKey" "Ljava/lang/String;") "java/lang/String" "value" "[B")) (Term.int 2)).value args s none s [] = some true)
    (h4 : (Cond.eq (Term.field (Term.field t "com/example/flueline/flueline/FFactor" "planKey" "Ljava/lang/String;") "java/lang/String" "coder" "B") (Term.int 0)).value args s none s [] = some true) (h5 : (Cond.eq (Term.elem (Term.field (Term.field t "com/example/flueline/flueline/FFactor" "planKey" "Ljava/lang/String;") "java/lang/String" "value" "[B") (Term.int 0)) (Term.int 102)).value args s none s [] = some true)
    (h6 : (Cond.eq (Term.elem (Term.field (Term.field t "com/example/flueline/flueline/FFactor" "planKey" "Ljava/lang/String;") "java/lang/String" "value" "[B") (Term.int 1)) (Term.int n)).value args s none s [] = some true) :
    ∃ (k b : Addr) (tb : ClassId), Fld s s.heap a "com/example/flueline/flueline/FFactor" "planKey" "Ljava/lang/String;" (.ref k) ∧ Exa s s.heap k "java/lang/String" ∧ Fld s s.heap k "java/lang/String" "value" "[B" (.ref b) ∧ Fld s s.heap k "java/lang/String" "coder" "B" (.int (0 : Int32)) ∧ Arv s s.heap b tb .byte (2 : Int32) [.int (102 : Int32), .int n] (.int (0 : Int32)) := by
  obtain ⟨k, ek⟩ := exa_v hF
  have E := Exa.start ek hF
  have F1 := Fld.start ((fld_at ev).symm.trans ek)
  obtain ⟨b, eb⟩ := arr_v h2
  obtain ⟨cl, A⟩ := Arr.start eb h2
  have F2 := Fld.start ((fld_at ek).symm.trans eb)
  have F3 := Fld.start ((fld_at ek).symm.trans (own_eqInt h4))
  obtain ⟨b', cell, l1, l2, l3, l4⟩ := Jvm.Lib.length_spec (own_eqInt h3)
  cases eb.symm.trans l1
  cases (A.fin (Vm.Alike.refl _)).symm.trans l2
  have g0 := elem_in (own_eqInt h5) eb (Term.int_eval 0) A.1
  have g1 := elem_in (own_eqInt h6) eb (Term.int_eval 1) A.1
  exact ⟨k, b, cl.cls, F1, E, F2, F3, Arv.start hf A l3 (Value.int.inj l4).symm (by decide) rfl ⟨g0.2, g1.2, trivial⟩⟩
set_option maxRecDepth 65536 in
set_option maxHeartbeats 40000000 in
theorem comes_1 {Post : Tables → Env → Array Value → State → Outcome → State → Prop} (hpost : ∀ tb e args s v u, (limb_1_1.after args s (.returned v) u = true ∧ limb_1_2.after args s (.returned v) u = true ∧ True) → FrameEnd s (.returned v) u (Jvm.fieldLocs frame_1_writes args s ++ Jvm.arrayLocs frame_1_arrays args s ++ Jvm.staticLocs frame_1_statics s) 0 0 → Post tb e args s (.returned v) u) :
    ArmFor flags0 classFile x code maxLocals ret World_1 tables_1 room_1 Calls_1 rest_1 Pre_1 Post := by
  intro l hfl _ _ p e ha hc hk s m args below hf hA hF happ hP
  obtain ⟨hcalls, hrest, hpre⟩ := hP
  obtain ⟨-, -, -, hnamed, -, -, -, hat⟩ := (Spec.applies_iff hf).mp happ
  obtain ⟨hg, hn⟩ := and_e (Cond.before_iff.mp (show (Jvm.Cond.and given_1 narrow_1).before args s = true from hpre))
  obtain ⟨h1, g0⟩ := and_e hg
  obtain ⟨j0, g1⟩ := and_e g0
  obtain ⟨j1, g2⟩ := and_e g1
  obtain ⟨j2, g3⟩ := and_e g2
  have j3 := g3
  obtain ⟨w0, w1, w2, w3, rfl⟩ : ∃ w0 w1 w2 w3 : Value, args = #[w0, w1, w2, w3] := by
    have hs : args.size = 4 := by simpa [Cond.value, given_1] using h1
    obtain ⟨L⟩ := args
    match L, hs with
    | [w0, w1, w2, w3], _ => exact ⟨w0, w1, w2, w3, rfl⟩
  have hw := fun d (hd : d ∈ tables_1) => atoms_spec (ws := Jvm.Cond.code x code maxLocals ret :: tables_1) hat d (List.mem_cons_of_mem _ hd)
  have hfit : Fit s := fun {y c} hc i hi => by
    obtain ⟨ha, rfl⟩ := Array.getElem?_eq_some_iff.mp hc
    have q := List.all_eq_true.mp ((Array.all_eq_true_iff_forall_mem.mp hF) _ (Array.getElem_mem ha)) i (List.mem_range.mpr hi)
    simpa [Array.getElem?_eq_getElem hi] using q
  obtain ⟨i0, q0⟩ := is_v j0
  obtain rfl : w0 = (.int i0) := Option.some.inj q0
  obtain ⟨i1, q1⟩ := is_v j1
  obtain rfl : w1 = (.int i1) := Option.some.inj q1
  obtain ⟨i2, q2⟩ := is_v j2
  obtain rfl : w2 = (.int i2) := Option.some.inj q2
  obtain ⟨i3, q3⟩ := is_v j3
  obtain rfl : w3 = (.int i3) := Option.some.inj q3
  obtain ⟨hsets, hown0⟩ := atoms_of _ (rest_1_c_eq ▸ (show rest_1_c.before _ s = true from hrest))
  have n5 := not_v (Cond.before_iff.mp (hsets _ (List.mem_of_getElem? (i := 2) rfl)))
  obtain ⟨ci, eci⟩ := is_v (Cond.before_iff.mp (hsets _ (List.mem_of_getElem? (i := 1) rfl)))
  have sC : Sta s s.heap "java/lang/String" "COMPACT_STRINGS" "Z" (.int ci) := Sta.start eci (Or.inl (hsets _ (List.mem_of_getElem? (i := 0) rfl)))
  obtain ⟨gv, egv, hg⟩ := isR_v (Cond.before_iff.mp (hsets _ (List.mem_of_getElem? (i := 8) rfl)))
  have sG : Sta s s.heap "jdk/internal/util/Preconditions" "SIOOBE_FORMATTER" "Ljava/util/function/BiFunction;" gv := Sta.start egv (Or.inl (hsets _ (List.mem_of_getElem? (i := 7) rfl)))
  have hc0 : ¬ ci = 0 := gotF (Cond.eq_ints eci (Term.int_eval 0)) n5
  obtain ⟨u_xD, w_0⟩ := and_e hn
  obtain ⟨u_kD1, w_1⟩ := and_e w_0
  obtain ⟨u_kD2, w_2⟩ := and_e w_1
  obtain ⟨u_kD3, w_3⟩ := and_e w_2
  obtain ⟨u_kD4, w_4⟩ := and_e w_3
  obtain ⟨u_kD5, w_5⟩ := and_e w_4
  obtain ⟨u_kD6, w_6⟩ := and_e w_5
  obtain ⟨u_xW, w_7⟩ := and_e w_6
  obtain ⟨u_oW, w_8⟩ := and_e w_7
  obtain ⟨u_oD, w_9⟩ := and_e w_8
  obtain ⟨u_kW1, w_10⟩ := and_e w_9
  obtain ⟨u_kW2, w_11⟩ := and_e w_10
  obtain ⟨u_kW3, w_12⟩ := and_e w_11
  obtain ⟨u_kW4, w_13⟩ := and_e w_12
  obtain ⟨u_kW5, w_14⟩ := and_e w_13
  obtain ⟨u_kW6, w_15⟩ := and_e w_14
  obtain ⟨u_xC, w_16⟩ := and_e w_15
  obtain ⟨u_oC, w_17⟩ := and_e w_16
  obtain ⟨u_kC1, w_18⟩ := and_e w_17
  obtain ⟨u_kC2, w_19⟩ := and_e w_18
  obtain ⟨u_kC3, w_20⟩ := and_e w_19
  obtain ⟨u_kC4, w_21⟩ := and_e w_20
  obtain ⟨u_kC5, w_22⟩ := and_e w_21
  have u_kC6 := w_22
  obtain ⟨aD, vD⟩ := exa_v u_xD
  have xD := Exa.start vD u_xD
  have sD_ : Sta s s.heap "com/example/flueline/flueline/FFactor" "FD" "Lcom/example/flueline/flueline/FFactor;" (.ref aD) := Sta.start vD (Or.inr ⟨(wT hw 2 rfl), (wT hw 3 rfl)⟩)
  have fD := Fld.start ((fld_at vD).symm.trans (own_eqInt u_oD))
  obtain ⟨kD, bD, tD, pD, yD, zD, cD_, rD⟩ := own_key hfit vD u_kD1 u_kD2 u_kD3 u_kD4 u_kD5 u_kD6
  obtain ⟨aW, vW⟩ := exa_v u_xW
  have xW := Exa.start vW u_xW
  have sW_ : Sta s s.heap "com/example/flueline/flueline/FFactor" "FW" "Lcom/example/flueline/flueline/FFactor;" (.ref aW) := Sta.start vW (Or.inr ⟨(wT hw 2 rfl), (wT hw 56 rfl)⟩)
  have fW := Fld.start ((fld_at vW).symm.trans (own_eqInt u_oW))
  obtain ⟨kW, bW, tW, pW, yW, zW, cW_, rW⟩ := own_key hfit vW u_kW1 u_kW2 u_kW3 u_kW4 u_kW5 u_kW6
  obtain ⟨aC, vC⟩ := exa_v u_xC
  have xC := Exa.start vC u_xC
  have sC_ : Sta s s.heap "com/example/flueline/flueline/FFactor" "FC" "Lcom/example/flueline/flueline/FFactor;" (.ref aC) := Sta.start vC (Or.inr ⟨(wT hw 2 rfl), (wT hw 59 rfl)⟩)
  have fC := Fld.start ((fld_at vC).symm.trans (own_eqInt u_oC))
  obtain ⟨kC, bC, tC, pC, yC, zC, cC_, rC⟩ := own_key hfit vC u_kC1 u_kC2 u_kC3 u_kC4 u_kC5 u_kC6
  have n1 : aW ≠ aD := Fld.ne fW fD (by decide)
  have n2 : aC ≠ aD := Fld.ne fC fD (by decide)
  have n3 : aC ≠ aW := Fld.ne fC fW (by decide)
  obtain ⟨n, o, h1, h2, h3, _, L, rfl, ⟨rfl, N⟩, hq⟩ := rmL l s _ hw tables_1 i0 i1 i2 i3 s.heap s.heap.size (Nat.le_refl _) ci sC hc0 gv sG hg aD kD bD tD sD_ xD pD yD zD cD_ rD aW kW bW tW sW_ xW pW yW zW cW_ rW aC kC bC tC sC_ xC pC yC zC cC_ rC n1 n2 n3 p e ha hc hk s m _ below hf ((Spec.applies_iff_loose hf).mp happ).1 ⟨rfl, State.Warmed39.refl s, rfl⟩ trivial
  refine ⟨n, _, h1, h2, h3, hpost _ _ _ _ _ _ ⟨Cond.after_iff.mpr rfl, Cond.after_iff.mpr (eq_i res_at (Term.int_eval (1)) rfl), trivial⟩ ⟨hq.1, hq.2.1, (hq.2.2.sift fun y hy => Or.inr (N y hy)).mono (by decide) (by decide)⟩⟩
theorem main_1_1 : Claimed_1_1 := comes_1 fun _ _ _ _ _ _ h hF => ⟨h.1, hF⟩
theorem main_1_2 : Claimed_1_2 := comes_1 fun _ _ _ _ _ _ h hF => ⟨h.2.1, hF⟩
end Jvm.Pilot.@@N@@
namespace Jvm.Pilot.@@N@@
open Jvm Jvm.ClassFile Sem Op Lib Jvm.Free Jvm.Stand Jvm.Pilot.@@N@@.Jvm.D
/-! MADE BY PROGRAM (witnessworld.py) out of the Statement's table words and the real class files: 18 classes; the members and pool entries that the words name. The judged class is class 1, her method 1. -/
namespace start1
open Jvm.ClassFile
def u (s : String) : CpInfo := .utf8 (stringToUtf16 s)
/-- a pool by its gaps: so many unusable entries, then the entry; so many at the end -/
def gap : Nat → List CpInfo → List CpInfo
  | 0, r => r
  | n + 1, r => .unusable :: gap n r
def poolList (es : List (Nat × CpInfo)) (last : Nat) : List CpInfo := es.foldr (fun e r => gap e.1 (e.2 :: r)) (gap last [])
def pool (es : List (Nat × CpInfo)) (last : Nat) : Array CpInfo := ⟨poolList es last⟩
def fileOf (pool : Array CpInfo) (this : Nat) (attrs : Array Attribute := #[]) (ms : Array MethodInfo := #[]) (fl : Nat := 33) (sup : Nat := 0) (ifs : Array Nat := #[]) (fds : Array FieldInfo := #[]) : ClassFile where
  minorVersion := 0
  majorVersion := 65
  constantPool := pool
  accessFlags := fl
  thisClass := this
  superClass := sup
  interfaces := ifs
  fields := fds
  methods := ms
  attributes := attrs
def plain (name : String) (sup : Option ClassId) : Class where
  name := name
  kind := .ordinary
  loader := none
  accessFlags := 33
  super := sup
  interfaces := #[]
  cf := none
  fields := #[]
  methods := #[]
  instanceTypes := #[]
  staticTypes := #[]
  resolved := #[]
  callSites := []
  init := .initialized
  statics := none
  mirror := none

def pool0 : Array CpInfo := pool [(5, u "<init>"), (0, u "()V"), (1, .class_ 10), (1, u "java/lang/Object")] 113

def k0m0 : Method := { name := "<init>", desc := "()V", sig := { parameters := [], returnType := none }, accessFlags := 1, code := none }
/-- java/lang/Object -/
def k0 : Class := { plain "java/lang/Object" none with
  accessFlags := 33
  interfaces := #[]
  cf := some (fileOf pool0 8 #[] #[{ accessFlags := 1, nameIndex := 5, descriptorIndex := 6, attributes := #[] }] 33 0 #[] #[])
  fields := #[]
  methods := #[k0m0]
  instanceTypes := #[]
  staticTypes := #[]
  resolved := Array.replicate 124 none
  statics := none }

def pool1 : Array CpInfo := pool [(2, .class_ 4), (1, u "java/lang/Object"), (0, u "<init>"), (0, u "()V"), (0, .integer 2147483647), (0, .fieldref 9 10), (0, .class_ 11), (0, .nameAndType 12 13), (0, u "com/example/flueline/flueline/FFactor"), (0, u "FD"), (0, u "Lcom/example/flueline/flueline/FFactor;"), (0, .fieldref 9 15), (0, .nameAndType 16 13), (0, u "FW"), (0, .fieldref 9 18), (0, .nameAndType 19 13), (0, u "FC"), (0, .methodref 9 21), (0, .nameAndType 22 23), (0, u "select"), (0, u "(DDD)D"), (0, .methodref 9 25), (0, .nameAndType 26 27), (0, u "planKey"), (0, u "()Ljava/lang/String;"), (0, .methodref 29 30), (0, .class_ 31), (0, .nameAndType 32 33), (0, u "java/lang/String"), (0, u "length"), (0, u "()I"), (0, .methodref 29 35), (0, .nameAndType 36 37), (0, u "charAt"), (0, u "(I)C"), (0, .class_ 39), (0, u "com/example/flueline/flueline/FFactorSelectPinLaw"), (2, u "law"), (0, u "(IIII)Z")] 3

def k1m0 : Method := { name := "<init>", desc := "()V", sig := { parameters := [], returnType := none }, accessFlags := 1, code := none }
def k1c1 : Code := { maxStack := 7, maxLocals := 18, code := code, exceptionTable := #[], attributes := #[] }
def k1m1 : Method := { name := "law", desc := "(IIII)Z", sig := { parameters := [.int, .int, .int, .int], returnType := some .boolean }, accessFlags := 9, code := some k1c1 }
/-- com/example/flueline/flueline/FFactorSelectPinLaw -/
def k1 : Class := { plain "com/example/flueline/flueline/FFactorSelectPinLaw" (some 0) with
  accessFlags := 49
  interfaces := #[]
  cf := some (fileOf pool1 38 #[] #[{ accessFlags := 1, nameIndex := 5, descriptorIndex := 6, attributes := #[] }, { accessFlags := 9, nameIndex := 42, descriptorIndex := 43, attributes := #[] }] 49 2 #[] #[])
  fields := #[]
  methods := #[k1m0, k1m1]
  instanceTypes := #[]
  staticTypes := #[]
  resolved := Array.replicate 47 none
  statics := none }

def pool2 : Array CpInfo := pool [(1, .class_ 2), (0, u "java/lang/constant/Constable"), (0, .class_ 4), (0, u "java/lang/Object")] 6

/-- java/lang/constant/Constable -/
def k2 : Class := { plain "java/lang/constant/Constable" (some 0) with
  accessFlags := 1537
  interfaces := #[]
  cf := some (fileOf pool2 1 #[] #[] 1537 3 #[] #[])
  fields := #[]
  methods := #[]
  instanceTypes := #[]
  staticTypes := #[]
  resolved := Array.replicate 11 none
  statics := none }

def pool3 : Array CpInfo := pool [(1, .class_ 2), (0, u "java/lang/Comparable"), (0, .class_ 4), (0, u "java/lang/Object")] 7

/-- java/lang/Comparable -/
def k3 : Class := { plain "java/lang/Comparable" (some 0) with
  accessFlags := 1537
  interfaces := #[]
  cf := some (fileOf pool3 1 #[] #[] 1537 3 #[] #[])
  fields := #[]
  methods := #[]
  instanceTypes := #[]
  staticTypes := #[]
  resolved := Array.replicate 12 none
  statics := none }

def pool4 : Array CpInfo := pool [(1, .class_ 2), (0, u "java/io/Serializable"), (0, .class_ 4), (0, u "java/lang/Object")] 2

/-- java/io/Serializable -/
def k4 : Class := { plain "java/io/Serializable" (some 0) with
  accessFlags := 1537
  interfaces := #[]
  cf := some (fileOf pool4 1 #[] #[] 1537 3 #[] #[])
  fields := #[]
  methods := #[]
  instanceTypes := #[]
  staticTypes := #[]
  resolved := Array.replicate 7 none
  statics := none }

def pool5 : Array CpInfo := pool [(2, .class_ 4), (1, u "java/lang/Enum"), (0, u "name"), (0, u "Ljava/lang/String;"), (2, u "ordinal"), (0, u "I"), (1, .class_ 14), (1, u "java/lang/Object"), (4, u "hash"), (86, .class_ 108), (1, u "java/lang/Enum$EnumDesc"), (2, .class_ 112), (0, u "java/lang/constant/Constable"), (0, .class_ 114), (0, u "java/lang/Comparable"), (0, .class_ 116), (0, u "java/io/Serializable")] 87

/-- java/lang/Enum -/
def k5 : Class := { plain "java/lang/Enum" (some 0) with
  accessFlags := 1057
  interfaces := #[2, 3, 4]
  cf := some (fileOf pool5 2 #[.nestMembers #[106]] #[] 1057 12 #[111, 113, 115] #[{ accessFlags := 18, nameIndex := 5, descriptorIndex := 6, attributes := #[] }, { accessFlags := 18, nameIndex := 9, descriptorIndex := 10, attributes := #[] }, { accessFlags := 2, nameIndex := 19, descriptorIndex := 10, attributes := #[] }])
  fields := #[{ name := "name", type := (.object "java/lang/String"), accessFlags := 18, slot := 0, constantValue := 0 }, { name := "ordinal", type := .int, accessFlags := 18, slot := 1, constantValue := 0 }, { name := "hash", type := .int, accessFlags := 2, slot := 2, constantValue := 0 }]
  methods := #[]
  instanceTypes := #[(.object "java/lang/String"), .int, .int]
  staticTypes := #[]
  resolved := Array.replicate 204 none
  statics := none }

def pool6 : Array CpInfo := pool [(1, .class_ 2), (0, u "com/example/flueline/flueline/FFactor"), (0, .fieldref 1 4), (0, .nameAndType 5 6), (0, u "FD"), (0, u "Lcom/example/flueline/flueline/FFactor;"), (0, .fieldref 1 8), (0, .nameAndType 9 6), (0, u "FW"), (2, u "FC"), (2, u "$VALUES"), (0, u "[Lcom/example/flueline/flueline/FFactor;"), (6, .class_ 25), (1, u "java/lang/Enum"), (6, .fieldref 1 33), (0, .nameAndType 34 35), (0, u "planKey"), (0, u "Ljava/lang/String;"), (2, u "symbol"), (29, u "()Ljava/lang/String;"), (0, u "select"), (0, u "(DDD)D")] 6

def k6c0 : Code := { maxStack := 1, maxLocals := 1, code := prog_20_method_4_code, exceptionTable := #[], attributes := #[] }
def k6m0 : Method := { name := "planKey", desc := "()Ljava/lang/String;", sig := { parameters := [], returnType := some (.object "java/lang/String") }, accessFlags := 1, code := some k6c0 }
def k6c1 : Code := { maxStack := 2, maxLocals := 9, code := prog_20_method_5_code, exceptionTable := #[], attributes := #[] }
def k6m1 : Method := { name := "select", desc := "(DDD)D", sig := { parameters := [.double, .double, .double], returnType := some .double }, accessFlags := 1, code := some k6c1 }
/-- com/example/flueline/flueline/FFactor -/
def k6 : Class := { plain "com/example/flueline/flueline/FFactor" (some 5) with
  accessFlags := 16433
  interfaces := #[]
  cf := some (fileOf pool6 1 #[] #[{ accessFlags := 1, nameIndex := 34, descriptorIndex := 68, attributes := #[] }, { accessFlags := 1, nameIndex := 69, descriptorIndex := 70, attributes := #[] }] 16433 23 #[] #[{ accessFlags := 16409, nameIndex := 5, descriptorIndex := 6, attributes := #[] }, { accessFlags := 16409, nameIndex := 9, descriptorIndex := 6, attributes := #[] }, { accessFlags := 16409, nameIndex := 12, descriptorIndex := 6, attributes := #[] }, { accessFlags := 18, nameIndex := 34, descriptorIndex := 35, attributes := #[] }, { accessFlags := 18, nameIndex := 38, descriptorIndex := 35, attributes := #[] }, { accessFlags := 4122, nameIndex := 15, descriptorIndex := 16, attributes := #[] }])
  fields := #[{ name := "FD", type := (.object "com/example/flueline/flueline/FFactor"), accessFlags := 16409, slot := 0, constantValue := 0 }, { name := "FW", type := (.object "com/example/flueline/flueline/FFactor"), accessFlags := 16409, slot := 1, constantValue := 0 }, { name := "FC", type := (.object "com/example/flueline/flueline/FFactor"), accessFlags := 16409, slot := 2, constantValue := 0 }, { name := "planKey", type := (.object "java/lang/String"), accessFlags := 18, slot := 3, constantValue := 0 }, { name := "symbol", type := (.object "java/lang/String"), accessFlags := 18, slot := 4, constantValue := 0 }, { name := "$VALUES", type := (.array (.object "com/example/flueline/flueline/FFactor")), accessFlags := 4122, slot := 3, constantValue := 0 }]
  methods := #[k6m0, k6m1]
  instanceTypes := #[(.object "java/lang/String"), .int, .int, (.object "java/lang/String"), (.object "java/lang/String")]
  staticTypes := #[(.object "com/example/flueline/flueline/FFactor"), (.object "com/example/flueline/flueline/FFactor"), (.object "com/example/flueline/flueline/FFactor"), (.array (.object "com/example/flueline/flueline/FFactor"))]
  resolved := Array.replicate 77 none
  statics := some 0 }

def pool7 : Array CpInfo := pool [(2, .class_ 4), (1, u "java/lang/CharSequence"), (42, .class_ 48), (0, u "java/lang/CharSequence$1CodePointIterator"), (10, .class_ 60), (0, u "java/lang/CharSequence$1CharIterator"), (5, .class_ 67), (0, u "java/lang/Object")] 63

/-- java/lang/CharSequence -/
def k7 : Class := { plain "java/lang/CharSequence" (some 0) with
  accessFlags := 1537
  interfaces := #[]
  cf := some (fileOf pool7 2 #[.nestMembers #[47, 59]] #[] 1537 66 #[] #[])
  fields := #[]
  methods := #[]
  instanceTypes := #[]
  staticTypes := #[]
  resolved := Array.replicate 131 none
  statics := none }

def pool8 : Array CpInfo := pool [(1, .class_ 2), (0, u "java/lang/constant/ConstantDesc"), (0, .class_ 4), (0, u "java/lang/Object")] 32

/-- java/lang/constant/ConstantDesc -/
def k8 : Class := { plain "java/lang/constant/ConstantDesc" (some 0) with
  accessFlags := 1537
  interfaces := #[]
  cf := some (fileOf pool8 1 #[] #[] 1537 3 #[] #[])
  fields := #[]
  methods := #[]
  instanceTypes := #[]
  staticTypes := #[]
  resolved := Array.replicate 37 none
  statics := none }

def pool9 : Array CpInfo := pool [(2, .class_ 4), (1, u "java/lang/Object"), (0, u "<init>"), (0, u "()V"), (2, .fieldref 10 11), (0, .class_ 12), (0, .nameAndType 13 14), (0, u "java/lang/String"), (0, u "value"), (0, u "[B"), (0, .fieldref 10 16), (0, .nameAndType 17 18), (0, u "coder"), (0, u "B"), (2, u "hash"), (0, u "I"), (2, u "hashIsZero"), (0, u "Z"), (11, .fieldref 10 39), (0, .nameAndType 40 26), (0, u "COMPACT_STRINGS"), (66, .class_ 109), (1, u "java/lang/StringLatin1"), (32, u "()Z"), (191, u "()I"), (0, .methodref 10 336), (0, .nameAndType 17 337), (0, u "()B"), (25, u "([BI)C"), (27, u "(II)V"), (35, u "(I)C"), (64, .methodref 10 493), (0, .nameAndType 494 142), (0, u "isLatin1"), (0, .methodref 107 496), (0, .nameAndType 497 363), (0, u "charAt"), (3, u "checkIndex"), (5, u "length"), (67, .class_ 576), (0, u "java/lang/CharSequence"), (22, u "CASE_INSENSITIVE_ORDER"), (0, u "Ljava/util/Comparator;"), (452, .fieldref 1054 1055), (0, .class_ 1056), (0, .nameAndType 1057 1058), (0, u "jdk/internal/util/Preconditions"), (0, u "SIOOBE_FORMATTER"), (0, u "Ljava/util/function/BiFunction;"), (0, .methodref 1054 1060), (0, .nameAndType 501 1061), (0, u "(IILjava/util/function/BiFunction;)I"), (39, u "serialPersistentFields"), (0, u "[Ljava/io/ObjectStreamField;"), (0, .class_ 1104), (0, u "java/lang/String$CaseInsensitiveComparator"), (1, .class_ 1107), (0, u "java/io/Serializable"), (0, .class_ 1109), (0, u "java/lang/Comparable"), (0, .class_ 1111), (0, u "java/lang/constant/Constable"), (0, .class_ 1113), (0, u "java/lang/constant/ConstantDesc"), (2, u "serialVersionUID"), (0, u "J"), (3, u "REPL"), (0, u "C"), (2, u "LATIN1"), (1, u "UTF16")] 323

def k9m0 : Method := { name := "<init>", desc := "()V", sig := { parameters := [], returnType := none }, accessFlags := 1, code := none }
def k9c1 : Code := { maxStack := 2, maxLocals := 1, code := jdk_42_method_54_code, exceptionTable := #[], attributes := #[] }
def k9m1 : Method := { name := "length", desc := "()I", sig := { parameters := [], returnType := some .int }, accessFlags := 1, code := some k9c1 }
def k9c2 : Code := { maxStack := 2, maxLocals := 2, code := jdk_42_method_56_code, exceptionTable := #[], attributes := #[] }
def k9m2 : Method := { name := "charAt", desc := "(I)C", sig := { parameters := [.int], returnType := some .char }, accessFlags := 1, code := some k9c2 }
def k9c3 : Code := { maxStack := 1, maxLocals := 1, code := jdk_42_method_152_code, exceptionTable := #[], attributes := #[] }
def k9m3 : Method := { name := "coder", desc := "()B", sig := { parameters := [], returnType := some .byte }, accessFlags := 0, code := some k9c3 }
def k9c4 : Code := { maxStack := 1, maxLocals := 1, code := jdk_42_method_154_code, exceptionTable := #[], attributes := #[] }
def k9m4 : Method := { name := "isLatin1", desc := "()Z", sig := { parameters := [], returnType := some .boolean }, accessFlags := 0, code := some k9c4 }
def k9c5 : Code := { maxStack := 3, maxLocals := 2, code := jdk_42_method_155_code, exceptionTable := #[], attributes := #[] }
def k9m5 : Method := { name := "checkIndex", desc := "(II)V", sig := { parameters := [.int, .int], returnType := none }, accessFlags := 8, code := some k9c5 }
/-- java/lang/String -/
def k9 : Class := { plain "java/lang/String" (some 0) with
  accessFlags := 49
  interfaces := #[4, 3, 7, 2, 8]
  cf := some (fileOf pool9 10 #[.nestMembers #[1103]] #[{ accessFlags := 1, nameIndex := 5, descriptorIndex := 6, attributes := #[] }, { accessFlags := 1, nameIndex := 507, descriptorIndex := 334, attributes := #[] }, { accessFlags := 1, nameIndex := 497, descriptorIndex := 427, attributes := #[] }, { accessFlags := 0, nameIndex := 17, descriptorIndex := 337, attributes := #[] }, { accessFlags := 0, nameIndex := 494, descriptorIndex := 142, attributes := #[] }, { accessFlags := 8, nameIndex := 501, descriptorIndex := 391, attributes := #[] }] 49 2 #[1106, 1108, 575, 1110, 1112] #[{ accessFlags := 18, nameIndex := 13, descriptorIndex := 14, attributes := #[] }, { accessFlags := 18, nameIndex := 17, descriptorIndex := 18, attributes := #[] }, { accessFlags := 2, nameIndex := 21, descriptorIndex := 22, attributes := #[] }, { accessFlags := 2, nameIndex := 25, descriptorIndex := 26, attributes := #[] }, { accessFlags := 26, nameIndex := 1116, descriptorIndex := 1117, attributes := #[] }, { accessFlags := 24, nameIndex := 40, descriptorIndex := 26, attributes := #[] }, { accessFlags := 26, nameIndex := 1101, descriptorIndex := 1102, attributes := #[] }, { accessFlags := 26, nameIndex := 1121, descriptorIndex := 1122, attributes := #[] }, { accessFlags := 25, nameIndex := 599, descriptorIndex := 600, attributes := #[] }, { accessFlags := 24, nameIndex := 1125, descriptorIndex := 18, attributes := #[] }, { accessFlags := 24, nameIndex := 1127, descriptorIndex := 18, attributes := #[] }])
  fields := #[{ name := "value", type := (.array .byte), accessFlags := 18, slot := 0, constantValue := 0 }, { name := "coder", type := .byte, accessFlags := 18, slot := 1, constantValue := 0 }, { name := "hash", type := .int, accessFlags := 2, slot := 2, constantValue := 0 }, { name := "hashIsZero", type := .boolean, accessFlags := 2, slot := 3, constantValue := 0 }, { name := "serialVersionUID", type := .long, accessFlags := 26, slot := 0, constantValue := 0 }, { name := "COMPACT_STRINGS", type := .boolean, accessFlags := 24, slot := 1, constantValue := 0 }, { name := "serialPersistentFields", type := (.array (.object "java/io/ObjectStreamField")), accessFlags := 26, slot := 2, constantValue := 0 }, { name := "REPL", type := .char, accessFlags := 26, slot := 3, constantValue := 0 }, { name := "CASE_INSENSITIVE_ORDER", type := (.object "java/util/Comparator"), accessFlags := 25, slot := 4, constantValue := 0 }, { name := "LATIN1", type := .byte, accessFlags := 24, slot := 5, constantValue := 0 }, { name := "UTF16", type := .byte, accessFlags := 24, slot := 6, constantValue := 0 }]
  methods := #[k9m0, k9m1, k9m2, k9m3, k9m4, k9m5]
  instanceTypes := #[(.array .byte), .byte, .int, .boolean]
  staticTypes := #[.long, .boolean, (.array (.object "java/io/ObjectStreamField")), .char, (.object "java/util/Comparator"), .byte, .byte]
  resolved := Array.replicate 1451 none
  statics := some 1 }

def pool10 : Array CpInfo := pool [(1, .class_ 2), (0, u "java/lang/String"), (1, .class_ 6), (1, u "java/lang/Object"), (0, u "<init>"), (0, u "()V"), (0, .methodref 1 10), (0, .nameAndType 11 12), (0, u "checkIndex"), (0, u "(II)V"), (1, .class_ 16), (1, u "java/lang/StringLatin1"), (36, u "([BI)C"), (67, u "$assertionsDisabled"), (0, u "Z"), (98, .class_ 223), (1, u "java/lang/StringLatin1$LinesSpliterator"), (28, u "charAt"), (137, .class_ 391), (0, u "java/lang/StringLatin1$CharsSpliterator")] 3

def k10m0 : Method := { name := "<init>", desc := "()V", sig := { parameters := [], returnType := none }, accessFlags := 0, code := none }
def k10c1 : Code := { maxStack := 2, maxLocals := 2, code := jdk_43_method_2_code, exceptionTable := #[], attributes := #[] }
def k10m1 : Method := { name := "charAt", desc := "([BI)C", sig := { parameters := [(.array .byte), .int], returnType := some .char }, accessFlags := 9, code := some k10c1 }
/-- java/lang/StringLatin1 -/
def k10 : Class := { plain "java/lang/StringLatin1" (some 0) with
  accessFlags := 48
  interfaces := #[]
  cf := some (fileOf pool10 14 #[.nestMembers #[390, 221]] #[{ accessFlags := 0, nameIndex := 7, descriptorIndex := 8, attributes := #[] }, { accessFlags := 9, nameIndex := 252, descriptorIndex := 53, attributes := #[] }] 48 4 #[] #[{ accessFlags := 4120, nameIndex := 121, descriptorIndex := 122, attributes := #[] }])
  fields := #[{ name := "$assertionsDisabled", type := .boolean, accessFlags := 4120, slot := 0, constantValue := 0 }]
  methods := #[k10m0, k10m1]
  instanceTypes := #[]
  staticTypes := #[.boolean]
  resolved := Array.replicate 395 none
  statics := none }

def pool11 : Array CpInfo := pool [(2, .class_ 4), (1, u "java/lang/Object"), (0, u "<init>"), (0, u "()V"), (17, .class_ 26), (1, u "jdk/internal/util/Preconditions"), (6, u "checkIndex"), (21, .class_ 56), (0, u "jdk/internal/util/Preconditions$4"), (57, .class_ 115), (0, u "jdk/internal/util/Preconditions$1"), (7, u "SIOOBE_FORMATTER"), (0, u "Ljava/util/function/BiFunction;"), (0, .class_ 126), (0, u "jdk/internal/util/Preconditions$2"), (3, u "AIOOBE_FORMATTER"), (0, .class_ 132), (0, u "jdk/internal/util/Preconditions$3"), (3, u "IOOBE_FORMATTER"), (41, u "(IILjava/util/function/BiFunction;)I")] 15

def k11m0 : Method := { name := "<init>", desc := "()V", sig := { parameters := [], returnType := none }, accessFlags := 1, code := none }
def k11c1 : Code := { maxStack := 3, maxLocals := 3, code := jdk_41_method_11_code, exceptionTable := #[], attributes := #[] }
def k11m1 : Method := { name := "checkIndex", desc := "(IILjava/util/function/BiFunction;)I", sig := { parameters := [.int, .int, (.object "java/util/function/BiFunction")], returnType := some .int }, accessFlags := 9, code := some k11c1 }
/-- jdk/internal/util/Preconditions -/
def k11 : Class := { plain "jdk/internal/util/Preconditions" (some 0) with
  accessFlags := 33
  interfaces := #[]
  cf := some (fileOf pool11 24 #[.nestMembers #[55, 131, 125, 114]] #[{ accessFlags := 1, nameIndex := 5, descriptorIndex := 6, attributes := #[] }, { accessFlags := 9, nameIndex := 33, descriptorIndex := 178, attributes := #[] }] 33 2 #[] #[{ accessFlags := 25, nameIndex := 123, descriptorIndex := 124, attributes := #[] }, { accessFlags := 25, nameIndex := 130, descriptorIndex := 124, attributes := #[] }, { accessFlags := 25, nameIndex := 136, descriptorIndex := 124, attributes := #[] }])
  fields := #[{ name := "SIOOBE_FORMATTER", type := (.object "java/util/function/BiFunction"), accessFlags := 25, slot := 0, constantValue := 0 }, { name := "AIOOBE_FORMATTER", type := (.object "java/util/function/BiFunction"), accessFlags := 25, slot := 1, constantValue := 0 }, { name := "IOOBE_FORMATTER", type := (.object "java/util/function/BiFunction"), accessFlags := 25, slot := 2, constantValue := 0 }]
  methods := #[k11m0, k11m1]
  instanceTypes := #[]
  staticTypes := #[(.object "java/util/function/BiFunction"), (.object "java/util/function/BiFunction"), (.object "java/util/function/BiFunction")]
  resolved := Array.replicate 194 none
  statics := some 2 }

def pool12 : Array CpInfo := pool [(9, u "<init>"), (6, .class_ 18), (1, u "java/lang/Object"), (0, u "()V"), (1, .class_ 23), (1, u "jdk/internal/util/ArraysSupport"), (0, u "LOG2_ARRAY_LONG_INDEX_SCALE"), (0, u "I"), (2, u "U"), (0, u "Ljdk/internal/misc/Unsafe;"), (8, u "BIG_ENDIAN"), (0, u "Z"), (8, u "LOG2_BYTE_BIT_SIZE"), (4, u "LOG2_ARRAY_INT_INDEX_SCALE"), (54, u "JLA"), (0, u "Ljdk/internal/access/JavaLangAccess;"), (11, u "LOG2_ARRAY_BOOLEAN_INDEX_SCALE"), (9, u "LOG2_ARRAY_BYTE_INDEX_SCALE"), (5, u "LOG2_ARRAY_CHAR_INDEX_SCALE"), (5, u "LOG2_ARRAY_SHORT_INDEX_SCALE"), (18, u "LOG2_ARRAY_FLOAT_INDEX_SCALE"), (24, u "LOG2_ARRAY_DOUBLE_INDEX_SCALE"), (89, u "T_BOOLEAN"), (2, u "T_CHAR"), (1, u "T_FLOAT"), (1, u "T_DOUBLE"), (1, u "T_BYTE"), (1, u "T_SHORT"), (1, u "T_INT"), (1, u "T_LONG"), (1, u "SOFT_MAX_ARRAY_LENGTH")] 83

def k12m0 : Method := { name := "<init>", desc := "()V", sig := { parameters := [], returnType := none }, accessFlags := 2, code := none }
/-- jdk/internal/util/ArraysSupport -/
def k12 : Class := { plain "jdk/internal/util/ArraysSupport" (some 0) with
  accessFlags := 33
  interfaces := #[]
  cf := some (fileOf pool12 21 #[] #[{ accessFlags := 2, nameIndex := 9, descriptorIndex := 19, attributes := #[] }] 33 16 #[] #[{ accessFlags := 24, nameIndex := 28, descriptorIndex := 29, attributes := #[] }, { accessFlags := 26, nameIndex := 38, descriptorIndex := 39, attributes := #[] }, { accessFlags := 25, nameIndex := 121, descriptorIndex := 25, attributes := #[] }, { accessFlags := 25, nameIndex := 131, descriptorIndex := 25, attributes := #[] }, { accessFlags := 25, nameIndex := 137, descriptorIndex := 25, attributes := #[] }, { accessFlags := 25, nameIndex := 143, descriptorIndex := 25, attributes := #[] }, { accessFlags := 25, nameIndex := 53, descriptorIndex := 25, attributes := #[] }, { accessFlags := 25, nameIndex := 24, descriptorIndex := 25, attributes := #[] }, { accessFlags := 25, nameIndex := 162, descriptorIndex := 25, attributes := #[] }, { accessFlags := 25, nameIndex := 187, descriptorIndex := 25, attributes := #[] }, { accessFlags := 26, nameIndex := 48, descriptorIndex := 25, attributes := #[] }, { accessFlags := 25, nameIndex := 277, descriptorIndex := 25, attributes := #[] }, { accessFlags := 25, nameIndex := 280, descriptorIndex := 25, attributes := #[] }, { accessFlags := 25, nameIndex := 282, descriptorIndex := 25, attributes := #[] }, { accessFlags := 25, nameIndex := 284, descriptorIndex := 25, attributes := #[] }, { accessFlags := 25, nameIndex := 286, descriptorIndex := 25, attributes := #[] }, { accessFlags := 25, nameIndex := 288, descriptorIndex := 25, attributes := #[] }, { accessFlags := 25, nameIndex := 290, descriptorIndex := 25, attributes := #[] }, { accessFlags := 25, nameIndex := 292, descriptorIndex := 25, attributes := #[] }, { accessFlags := 26, nameIndex := 108, descriptorIndex := 109, attributes := #[] }, { accessFlags := 25, nameIndex := 294, descriptorIndex := 25, attributes := #[] }])
  fields := #[{ name := "U", type := (.object "jdk/internal/misc/Unsafe"), accessFlags := 24, slot := 0, constantValue := 0 }, { name := "BIG_ENDIAN", type := .boolean, accessFlags := 26, slot := 1, constantValue := 0 }, { name := "LOG2_ARRAY_BOOLEAN_INDEX_SCALE", type := .int, accessFlags := 25, slot := 2, constantValue := 0 }, { name := "LOG2_ARRAY_BYTE_INDEX_SCALE", type := .int, accessFlags := 25, slot := 3, constantValue := 0 }, { name := "LOG2_ARRAY_CHAR_INDEX_SCALE", type := .int, accessFlags := 25, slot := 4, constantValue := 0 }, { name := "LOG2_ARRAY_SHORT_INDEX_SCALE", type := .int, accessFlags := 25, slot := 5, constantValue := 0 }, { name := "LOG2_ARRAY_INT_INDEX_SCALE", type := .int, accessFlags := 25, slot := 6, constantValue := 0 }, { name := "LOG2_ARRAY_LONG_INDEX_SCALE", type := .int, accessFlags := 25, slot := 7, constantValue := 0 }, { name := "LOG2_ARRAY_FLOAT_INDEX_SCALE", type := .int, accessFlags := 25, slot := 8, constantValue := 0 }, { name := "LOG2_ARRAY_DOUBLE_INDEX_SCALE", type := .int, accessFlags := 25, slot := 9, constantValue := 0 }, { name := "LOG2_BYTE_BIT_SIZE", type := .int, accessFlags := 26, slot := 10, constantValue := 0 }, { name := "T_BOOLEAN", type := .int, accessFlags := 25, slot := 11, constantValue := 0 }, { name := "T_CHAR", type := .int, accessFlags := 25, slot := 12, constantValue := 0 }, { name := "T_FLOAT", type := .int, accessFlags := 25, slot := 13, constantValue := 0 }, { name := "T_DOUBLE", type := .int, accessFlags := 25, slot := 14, constantValue := 0 }, { name := "T_BYTE", type := .int, accessFlags := 25, slot := 15, constantValue := 0 }, { name := "T_SHORT", type := .int, accessFlags := 25, slot := 16, constantValue := 0 }, { name := "T_INT", type := .int, accessFlags := 25, slot := 17, constantValue := 0 }, { name := "T_LONG", type := .int, accessFlags := 25, slot := 18, constantValue := 0 }, { name := "JLA", type := (.object "jdk/internal/access/JavaLangAccess"), accessFlags := 26, slot := 19, constantValue := 0 }, { name := "SOFT_MAX_ARRAY_LENGTH", type := .int, accessFlags := 25, slot := 20, constantValue := 0 }]
  methods := #[k12m0]
  instanceTypes := #[]
  staticTypes := #[(.object "jdk/internal/misc/Unsafe"), .boolean, .int, .int, .int, .int, .int, .int, .int, .int, .int, .int, .int, .int, .int, .int, .int, .int, .int, (.object "jdk/internal/access/JavaLangAccess"), .int]
  resolved := Array.replicate 378 none
  statics := none }

def pool13 : Array CpInfo := pool [(1, u "java/lang/Cloneable"), (0, .class_ 1), (0, u "java/lang/Object"), (0, .class_ 3)] 3

/-- java/lang/Cloneable -/
def k13 : Class := { plain "java/lang/Cloneable" (some 0) with
  accessFlags := 1537
  interfaces := #[]
  cf := some (fileOf pool13 2 #[] #[] 1537 4 #[] #[])
  fields := #[]
  methods := #[]
  instanceTypes := #[]
  staticTypes := #[]
  resolved := Array.replicate 8 none
  statics := none }

/-- the primitive byte -/
def k14 : Class := { plain "byte" none with kind := .primitive 'B', accessFlags := 0x411 }
/-- [B -/
def k15 : Class := { plain "[B" (some 0) with kind := .array 14 .byte, interfaces := #[13, 4], accessFlags := 1041 }

/-- the primitive int -/
def k16 : Class := { plain "int" none with kind := .primitive 'I', accessFlags := 0x411 }
/-- [I -/
def k17 : Class := { plain "[I" (some 0) with kind := .array 16 .int, interfaces := #[13, 4], accessFlags := 1041 }

def heap : Heap := #[{ cls := 6, slots := #[.ref 9, .ref 10, .ref 11, .null], vm := .statics 6 },
  { cls := 9, slots := #[.long 0, .int 1, .null, .int 0, .null, .int 0, .int 0], vm := .statics 9 },
  { cls := 11, slots := #[.null, .null, .null], vm := .statics 11 },
  { cls := 15, slots := #[.int 102, .int 100], vm := .none },
  { cls := 15, slots := #[.int 102, .int 119], vm := .none },
  { cls := 15, slots := #[.int 102, .int 99], vm := .none },
  { cls := 9, slots := #[.ref 3, .int 0, .int 0, .int 0], vm := .none },
  { cls := 9, slots := #[.ref 4, .int 0, .int 0, .int 0], vm := .none },
  { cls := 9, slots := #[.ref 5, .int 0, .int 0, .int 0], vm := .none },
  { cls := 6, slots := #[.null, .int 0, .int 0, .ref 6, .null], vm := .none },
  { cls := 6, slots := #[.null, .int 1, .int 0, .ref 7, .null], vm := .none },
  { cls := 6, slots := #[.null, .int 2, .int 0, .ref 8, .null], vm := .none }]
def classes : Array Class := #[k0, k1, k2, k3, k4, k5, k6, k7, k8, k9, k10, k11, k12, k13, k14, k15, k16, k17]
def interned : List (Array UInt16 × Addr) := []
def slotsUsed : Nat := 47
def theMethod : MethodId := ⟨1, 1⟩
def args0 : Array Value := #[.int 5, .int 3, .int 7, .int 1]
def aboutOver (below : List Frame) : State where
  vm := { classes := classes, interned := interned.toArray }
  heap := heap
  slotsUsed := slotsUsed
  threads := #[{ frames := .invoking theMethod args0 :: below }]
def below0 : List Frame := [.native { method := ⟨0, 0⟩, args := #[] }]
def about1 : State := aboutOver below0
def p0 : Program := .bare "" "" ""
def e0 : Env := launch0.env 0 0 0
theorem w_frames : about1.frames = Frame.invoking theMethod args0 :: below0 := rfl
set_option maxRecDepth 65536 in
theorem w_args : argsFit about1.vm theMethod args0 = true := by decide +kernel
set_option maxRecDepth 65536 in
theorem w_heap : heapFits about1 = true := by decide +kernel
set_option maxRecDepth 65536 in
theorem w_runnable : about1.curStatus? = some .runnable := by decide +kernel
set_option maxRecDepth 65536 in
theorem w_alone : about1.alone = true := by decide +kernel
set_option maxRecDepth 65536 in
theorem w_named : about1.methodNamed? x = some theMethod := by decide +kernel
set_option maxRecDepth 65536 in
theorem w_hears : about1.hears theMethod below0 = true := by decide +kernel
set_option maxRecDepth 65536 in
theorem w_ripe : about1.ripe theMethod args0 below0 = true := by decide +kernel
theorem w_running : about1.status = .running := rfl
set_option maxRecDepth 65536 in
theorem w_room : about1.hasRoom e0.platform room_1 = true :=
  launch0.hasRoom_least _ room_1 (by decide +kernel) (by decide +kernel) (by decide +kernel) (by decide +kernel) (by decide +kernel) (by decide +kernel)
theorem allAtoms_all (ts : List Jvm.Cond) (a : Array Jvm.Value) (st : Jvm.State) : (allAtoms ts).before a st = ts.all (fun c => c.before a st) := by
  induction ts with
  | nil => rfl
  | cons c t ih =>
    show (Jvm.Cond.and c (allAtoms t)).before a st = _
    rw [Jvm.Cond.before_and, ih, List.all_cons]
def words1 : List Jvm.Cond := Jvm.Cond.code x code maxLocals ret :: tables_1
/-- a 'code' word, met by the world's own term for the bytes: nothing is compared byte by byte -/
theorem code_word {y : MethodName} {bytes : ByteArray} {mx : Nat} {rt : Option FieldType} {a : Array Value} {s : State} {m : MethodId} {meth : Method} {c : Code} (h1 : s.methodNamed? y = some m) (h2 : s.vm.method? m = some meth) (h3 : meth.code = some c) (h4 : c.code = bytes)
    (h5 : (c.maxLocals == mx && c.exceptionTable.isEmpty && decide (c.maxStack ≤ mostOperands) && decide (meth.sig.returnType = rt) && !meth.locks && decide (parseMethodDescriptor y.desc = some meth.sig)) = true) : (Jvm.Cond.code y bytes mx rt).before a s = true := by
  simp only [Bool.and_eq_true, beq_iff_eq, Bool.not_eq_true', decide_eq_true_eq] at h5
  obtain ⟨⟨⟨⟨⟨g1, g2⟩, g3⟩, g4⟩, g5⟩, g6⟩ := h5
  simp [Cond.before, Cond.holds, Cond.value, h1, h2, h3, h4, g1, g2, g3, g4, g5, g6]
def isCode : Jvm.Cond → Bool
  | .code _ _ _ _ => true
  | _ => false
theorem all_split {L : List Jvm.Cond} {P : Jvm.Cond → Bool} (h1 : L.all (fun c => isCode c || P c) = true) (h2 : ∀ c ∈ L.filter isCode, P c = true) : L.all P = true := by
  refine List.all_eq_true.mpr fun c hc => ?_
  have h := List.all_eq_true.mp h1 c hc
  rcases Bool.eq_false_or_eq_true (isCode c) with hi | hi
  · exact h2 c (List.mem_filter.mpr ⟨hc, hi⟩)
  · simpa [hi] using h
set_option maxRecDepth 65536 in
theorem w_c0 : (Jvm.Cond.code x code maxLocals ret).before args0 about1 = true := code_word (m := ⟨1, 1⟩) (meth := k1m1) (c := k1c1) (by decide +kernel) rfl rfl rfl (by decide +kernel)
set_option maxRecDepth 65536 in
theorem w_c1 : (Jvm.Cond.code ({ cls := "com/example/flueline/flueline/FFactor", name := "select", desc := "(DDD)D" } : Jvm.MethodName) prog_20_method_5_code (9 : Nat) (Option.some Jvm.ClassFile.FieldType.double)).before args0 about1 = true := code_word (m := ⟨6, 1⟩) (meth := k6m1) (c := k6c1) (by decide +kernel) rfl rfl rfl (by decide +kernel)
set_option maxRecDepth 65536 in
theorem w_c2 : (Jvm.Cond.code ({ cls := "com/example/flueline/flueline/FFactor", name := "planKey", desc := "()Ljava/lang/String;" } : Jvm.MethodName) prog_20_method_4_code (1 : Nat) (Option.some (Jvm.ClassFile.FieldType.object "java/lang/String"))).before args0 about1 = true := code_word (m := ⟨6, 0⟩) (meth := k6m0) (c := k6c0) (by decide +kernel) rfl rfl rfl (by decide +kernel)
set_option maxRecDepth 65536 in
theorem w_c3 : (Jvm.Cond.code ({ cls := "java/lang/String", name := "length", desc := "()I" } : Jvm.MethodName) jdk_42_method_54_code (1 : Nat) (Option.some Jvm.ClassFile.FieldType.int)).before args0 about1 = true := code_word (m := ⟨9, 1⟩) (meth := k9m1) (c := k9c1) (by decide +kernel) rfl rfl rfl (by decide +kernel)
set_option maxRecDepth 65536 in
theorem w_c4 : (Jvm.Cond.code ({ cls := "java/lang/String", name := "coder", desc := "()B" } : Jvm.MethodName) jdk_42_method_152_code (1 : Nat) (Option.some Jvm.ClassFile.FieldType.byte)).before args0 about1 = true := code_word (m := ⟨9, 3⟩) (meth := k9m3) (c := k9c3) (by decide +kernel) rfl rfl rfl (by decide +kernel)
set_option maxRecDepth 65536 in
theorem w_c5 : (Jvm.Cond.code ({ cls := "java/lang/String", name := "charAt", desc := "(I)C" } : Jvm.MethodName) jdk_42_method_56_code (2 : Nat) (Option.some Jvm.ClassFile.FieldType.char)).before args0 about1 = true := code_word (m := ⟨9, 2⟩) (meth := k9m2) (c := k9c2) (by decide +kernel) rfl rfl rfl (by decide +kernel)
set_option maxRecDepth 65536 in
theorem w_c6 : (Jvm.Cond.code ({ cls := "java/lang/String", name := "isLatin1", desc := "()Z" } : Jvm.MethodName) jdk_42_method_154_code (1 : Nat) (Option.some Jvm.ClassFile.FieldType.boolean)).before args0 about1 = true := code_word (m := ⟨9, 4⟩) (meth := k9m4) (c := k9c4) (by decide +kernel) rfl rfl rfl (by decide +kernel)
set_option maxRecDepth 65536 in
theorem w_c7 : (Jvm.Cond.code ({ cls := "java/lang/StringLatin1", name := "charAt", desc := "([BI)C" } : Jvm.MethodName) jdk_43_method_2_code (2 : Nat) (Option.some Jvm.ClassFile.FieldType.char)).before args0 about1 = true := code_word (m := ⟨10, 1⟩) (meth := k10m1) (c := k10c1) (by decide +kernel) rfl rfl rfl (by decide +kernel)
set_option maxRecDepth 65536 in
theorem w_c8 : (Jvm.Cond.code ({ cls := "java/lang/String", name := "checkIndex", desc := "(II)V" } : Jvm.MethodName) jdk_42_method_155_code (2 : Nat) (Option.none : Option Jvm.ClassFile.FieldType)).before args0 about1 = true := code_word (m := ⟨9, 5⟩) (meth := k9m5) (c := k9c5) (by decide +kernel) rfl rfl rfl (by decide +kernel)
set_option maxRecDepth 65536 in
theorem w_c9 : (Jvm.Cond.code ({ cls := "jdk/internal/util/Preconditions", name := "checkIndex", desc := "(IILjava/util/function/BiFunction;)I" } : Jvm.MethodName) jdk_41_method_11_code (3 : Nat) (Option.some Jvm.ClassFile.FieldType.int)).before args0 about1 = true := code_word (m := ⟨11, 1⟩) (meth := k11m1) (c := k11c1) (by decide +kernel) rfl rfl rfl (by decide +kernel)
def codes1 : List Jvm.Cond := [Jvm.Cond.code x code maxLocals ret, Jvm.Cond.code ({ cls := "com/example/flueline/flueline/FFactor", name := "select", desc := "(DDD)D" } : Jvm.MethodName) prog_20_method_5_code (9 : Nat) (Option.some Jvm.ClassFile.FieldType.double), Jvm.Cond.code ({ cls := "com/example/flueline/flueline/FFactor", name := "planKey", desc := "()Ljava/lang/String;" } : Jvm.MethodName) prog_20_method_4_code (1 : Nat) (Option.some (Jvm.ClassFile.FieldType.object "java/lang/String")), Jvm.Cond.code ({ cls := "java/lang/String", name := "length", desc := "()I" } : Jvm.MethodName) jdk_42_method_54_code (1 : Nat) (Option.some Jvm.ClassFile.FieldType.int), Jvm.Cond.code ({ cls := "java/lang/String", name := "coder", desc := "()B" } : Jvm.MethodName) jdk_42_method_152_code (1 : Nat) (Option.some Jvm.ClassFile.FieldType.byte), Jvm.Cond.code ({ cls := "java/lang/String", name := "charAt", desc := "(I)C" } : Jvm.MethodName) jdk_42_method_56_code (2 : Nat) (Option.some Jvm.ClassFile.FieldType.char), Jvm.Cond.code ({ cls := "java/lang/String", name := "isLatin1", desc := "()Z" } : Jvm.MethodName) jdk_42_method_154_code (1 : Nat) (Option.some Jvm.ClassFile.FieldType.boolean), Jvm.Cond.code ({ cls := "java/lang/StringLatin1", name := "charAt", desc := "([BI)C" } : Jvm.MethodName) jdk_43_method_2_code (2 : Nat) (Option.some Jvm.ClassFile.FieldType.char), Jvm.Cond.code ({ cls := "java/lang/String", name := "checkIndex", desc := "(II)V" } : Jvm.MethodName) jdk_42_method_155_code (2 : Nat) (Option.none : Option Jvm.ClassFile.FieldType), Jvm.Cond.code ({ cls := "jdk/internal/util/Preconditions", name := "checkIndex", desc := "(IILjava/util/function/BiFunction;)I" } : Jvm.MethodName) jdk_41_method_11_code (3 : Nat) (Option.some Jvm.ClassFile.FieldType.int)]
set_option maxRecDepth 65536 in
theorem codes_eq : words1.filter isCode = codes1 := rfl
theorem w_codes : ∀ c ∈ words1.filter isCode, c.before args0 about1 = true := by
  rw [codes_eq]
  intro c hc
  simp only [codes1, List.mem_cons, List.not_mem_nil, or_false] at hc
  rcases hc with rfl | rfl | rfl | rfl | rfl | rfl | rfl | rfl | rfl | rfl
  · exact w_c0
  · exact w_c1
  · exact w_c2
  · exact w_c3
  · exact w_c4
  · exact w_c5
  · exact w_c6
  · exact w_c7
  · exact w_c8
  · exact w_c9
set_option maxRecDepth 65536 in
theorem w_t1 : (words1.take 24).all (fun c => isCode c || c.before args0 about1) = true := by decide +kernel
set_option maxRecDepth 65536 in
theorem w_t2 : ((words1.drop 24).take 24).all (fun c => isCode c || c.before args0 about1) = true := by decide +kernel
set_option maxRecDepth 65536 in
theorem w_t3 : ((words1.drop 24).drop 24).all (fun c => isCode c || c.before args0 about1) = true := by decide +kernel
theorem w_tables : (allAtoms (Jvm.Cond.code x code maxLocals ret :: tables_1)).before args0 about1 = true := by
  rw [allAtoms_all]
  show words1.all (fun c => c.before args0 about1) = true
  refine all_split ?_ w_codes
  rw [← List.take_append_drop 24 words1, List.all_append, w_t1, ← List.take_append_drop 24 (words1.drop 24), List.all_append, w_t2, w_t3]
  rfl
set_option maxRecDepth 65536 in
theorem w_rest : rest_1_c.before args0 about1 = true := by decide +kernel
set_option maxRecDepth 65536 in
theorem w_case : (Jvm.Cond.and given_1 narrow_1).before args0 about1 = true := by decide +kernel
theorem w_applies : (headSpec (Jvm.Cond.code x code maxLocals ret :: tables_1) room_1).applies x e0.platform about1 = true :=
  (Spec.applies_iff w_frames).mpr ⟨w_running, w_runnable, w_alone, w_named, w_hears, w_ripe, w_room, w_tables⟩
theorem atStart : AtStart classFile x code maxLocals ret World_1 tables_1 room_1 Calls_1 rest_1 Pre_1 launch0 p0 e0 about1 theMethod args0 below0 :=
  ⟨lists_1, trivial, launch0.admits_env _ _ _, launch0.least_env, fairChoices_fair.cas, fairChoices_fair.clock, w_frames, w_args, w_heap, w_applies, trivial, w_rest, w_case⟩
end start1
theorem witness_1 : WitnessClaimed_1 := ⟨start1.p0, start1.e0, start1.about1, start1.theMethod, start1.args0, start1.below0, start1.atStart⟩
end Jvm.Pilot.@@N@@
