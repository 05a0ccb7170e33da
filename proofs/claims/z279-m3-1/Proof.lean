import JvmDerived
import JvmDerived.Pilot.@@N@@Statement
import JvmDerived.Pilot.@@N@@Code
set_option linter.unusedVariables false
set_option linter.unusedSimpArgs false
@@BLOCK:Nest.lean.txt@@
namespace Jvm.RoadKit
open Sem ClassFile Op Lib Jvm.Stand Jvm.Free Jvm.LawKit
section New
variable {p : Program} {l : Launch} {e : Env} {R : Room} {s : State} {m : MethodId} {args : Array Value} {below : List Frame} {meth : Method} {c : Code} {T : State} {locs : List Loc} {cells slots : Nat}
theorem retI (X : Stand p l e R s m args below meth c T locs cells slots) (hx : p.tables.exec = Jvm.exec) {pc : Nat} {Ls : Array Slot} {z : Int32} {rest : List Value} (hret : meth.sig.returnType = some .int) (hd : decode c.code pc = .ok (.ireturn, 1)) {fs : List Frame}
    (hl : ∀ (f : JFrame) (acts : List Action), f.method = m → f.locked = none → f.entered = [] → (doReturn e (T.setTop f) acts (some (.int z))).1 = T.setFrames fs) : Steps p.tables e below (T.setTop (mkF m pc Ls (.int z :: rest))) (T.setFrames fs) := by
  have hm' : T.vm.method? m = some meth := X.method'
  have hn : narrow .int (.int z) = .int z := rfl
  show Steps p.tables e below (T.setTop { method := m, pc := pc, locals := Ls, stack := _ :: rest, locked := none }) _
  jvm_step X.here [X.here.top, hx, hd, hm', hret, hn]
  first | (intro acts; rw [hl _ acts rfl rfl rfl]) | rw [hl _ _ rfl rfl rfl]
  exact Steps.refl _
end New
end Jvm.RoadKit
namespace Jvm.Pilot.@@N@@
open Jvm Jvm.ClassFile Sem Op Lib Jvm.Free Jvm.Stand Jvm.LawKit Jvm.RoadKit Bundle Jvm.Pilot.@@N@@.Jvm.D
/-! the four bytes of an int; the array of them; a part of it -/
def own_sv (i : Int32) : Nat → Int32
  | 0 => i.toInt8.toInt32
  | 1 => ((i.toUInt32 >>> ((8 : Int32) &&& 31).toUInt32).toInt32).toInt8.toInt32
  | 2 => ((i.toUInt32 >>> ((16 : Int32) &&& 31).toUInt32).toInt32).toInt8.toInt32
  | _ => ((i.toUInt32 >>> ((24 : Int32) &&& 31).toUInt32).toInt32).toInt8.toInt32
theorem own_fit (i : Int32) (j : Nat) : fits .byte (.int (own_sv i j)) = true := by
  match j with
  | 0 => exact fits_nar_byte _
  | 1 => exact fits_nar_byte _
  | 2 => exact fits_nar_byte _
  | _ + 3 => exact fits_nar_byte _
theorem own_nar (x : Int32) : nar .byte (x.toInt8.toInt32) = x.toInt8.toInt32 := by
  show x.toInt8.toInt32.toInt8.toInt32 = x.toInt8.toInt32
  rw [Int8.toInt8_toInt32]
def own_src (Z : State) (h : Heap) (a : Addr) (A : Cell) (i : Int32) : Prop := Arr Z h a A .byte ∧ Z.vm.findClass "[B" = some A.cls ∧ A.slots.size = 4 ∧ ∀ j, j < 4 → A.slots[j]? = some (.int (own_sv i j))
def own_cut (Z : State) (h : Heap) (a : Addr) (B : Cell) (lo hi : Nat) (i : Int32) : Prop := Arr Z h a B .byte ∧ B.slots.size = hi - lo ∧ ∀ j, j < hi - lo → B.slots[j]? = some (.int (own_sv i (lo + j)))
theorem own_src.ext {Z : State} {h h' : Heap} {a : Addr} {A : Cell} {i : Int32} (S : own_src Z h a A i) (E : Ext h h') : own_src Z h' a A i := ⟨S.1.ext E, S.2⟩
theorem own_src.keep {Z : State} {h h' : Heap} {a : Addr} {A : Cell} {i : Int32} {ws : List Addr} (S : own_src Z h a A i) (K : Keep h h' ws) (q : a ∉ ws) : own_src Z h' a A i := ⟨⟨K.2.1 a A S.1.1 q, S.1.2⟩, S.2⟩
theorem own_src.other {Z : State} {h h' : Heap} {a b : Addr} {A : Cell} {i : Int32} {sl : Nat} {v : Value} (S : own_src Z h a A i) (W : Wr h h' b sl v) (q : a ≠ b) : own_src Z h' a A i := ⟨S.1.other W q, S.2⟩
theorem own_cut.keep {Z : State} {h h' : Heap} {a : Addr} {B : Cell} {lo hi : Nat} {i : Int32} {ws : List Addr} (S : own_cut Z h a B lo hi i) (K : Keep h h' ws) (q : a ∉ ws) : own_cut Z h' a B lo hi i := ⟨⟨K.2.1 a B S.1.1 q, S.1.2⟩, S.2⟩
/-! small numbers -/
theorem own_sub {lo hi : Nat} (h1 : lo ≤ hi) (h2 : hi ≤ 4) : Int32.ofNat hi - Int32.ofNat lo = Int32.ofNat (hi - lo) := by
  have key : ∀ a b : Fin 5, a.1 ≤ b.1 → Int32.ofNat b.1 - Int32.ofNat a.1 = Int32.ofNat (b.1 - a.1) := by decide +kernel
  exact key ⟨lo, by omega⟩ ⟨hi, by omega⟩ h1
theorem own_n {n : Nat} (h : n < 9) : (Int32.ofNat n).toNatClampNeg = n ∧ ¬ Int32.ofNat n < 0 := by
  have key : ∀ a : Fin 9, (Int32.ofNat a.1).toNatClampNeg = a.1 ∧ ¬ Int32.ofNat a.1 < 0 := by decide +kernel
  exact key ⟨n, h⟩
theorem own_add {a b : Nat} (ha : a < 5) (hb : b < 5) : Int32.ofNat a + Int32.ofNat b = Int32.ofNat (a + b) := by
  have key : ∀ a b : Fin 5, Int32.ofNat a.1 + Int32.ofNat b.1 = Int32.ofNat (a.1 + b.1) := by decide +kernel
  exact key ⟨a, ha⟩ ⟨b, hb⟩
theorem own_lt {a b : Nat} (ha : a < 5) (hb : b < 5) (h : Int32.ofNat a < Int32.ofNat b) : a < b := by
  have key : ∀ a b : Fin 5, Int32.ofNat a.1 < Int32.ofNat b.1 → a.1 < b.1 := by decide +kernel
  exact key ⟨a, ha⟩ ⟨b, hb⟩ h
theorem own_lt' {a b : Nat} (ha : a < 5) (hb : b < 5) (h : a < b) : Int32.ofNat a < Int32.ofNat b := by
  have key : ∀ a b : Fin 5, a.1 < b.1 → Int32.ofNat a.1 < Int32.ofNat b.1 := by decide +kernel
  exact key ⟨a, ha⟩ ⟨b, hb⟩ h
theorem own_in {c : Cell} {n : Nat} (h : n < 9) (hs : n < c.slots.size) : ¬ (Int32.ofNat n < 0 ∨ c.slots.size ≤ (Int32.ofNat n).toNatClampNeg) := by
  obtain ⟨h1, h2⟩ := own_n h
  rw [h1]
  rintro (q | q)
  · exact h2 q
  · omega
/-- what one call of 'at' asks -/
theorem own_hk {Z : State} {h h2 : Heap} {r a : Addr} {B A : Cell} {lo hi k : Nat} {i : Int32} (R : own_cut Z h r B lo hi i) (S : own_src Z h2 a A i) (h1 : lo ≤ hi) (h4 : hi ≤ 4) (hk : k < 4) (q : Int32.ofNat k < Int32.ofNat (hi - lo)) :
    ∃ w : Int32, ¬ (Int32.ofNat k < 0 ∨ B.slots.size ≤ (Int32.ofNat k).toNatClampNeg) ∧ B.slots[(Int32.ofNat k).toNatClampNeg]? = some (.int w) ∧ ¬ ((Int32.ofNat lo + Int32.ofNat k) < 0 ∨ A.slots.size ≤ (Int32.ofNat lo + Int32.ofNat k).toNatClampNeg) ∧ A.slots[(Int32.ofNat lo + Int32.ofNat k).toNatClampNeg]? = some (.int w) := by
  have hlt : k < hi - lo := own_lt (by omega) (by omega) q
  rw [own_add (by omega) (by omega), (own_n (show k < 9 by omega)).1, (own_n (show lo + k < 9 by omega)).1]
  have e1 := own_in (c := B) (show k < 9 by omega) (by rw [R.2.1]; exact hlt)
  have e2 := own_in (c := A) (show lo + k < 9 by omega) (by rw [S.2.2.1]; omega)
  rw [(own_n (show k < 9 by omega)).1] at e1
  rw [(own_n (show lo + k < 9 by omega)).1] at e2
  exact ⟨own_sv i (lo + k), e1, R.2.2 k hlt, e2, S.2.2.2 (lo + k) (by omega)⟩
/-! the words of the library's law on Arrays.copyOfRange, out of the sheet's -/
theorem own_tab {Z s : State} {a0 args : Array Value} (hZ : Z.Warmed39 s.vm) (hw : ∀ d ∈ tables_1, d.before a0 Z = true) : Jvm.Free.JA.CopyOfRangeB.tab.before args s = true := by
  have hk : tables_1.tail.all (fun d => d.onTables && d.keepsFace) = true := by decide +kernel
  refine Nest.before_of_mem (ts := Jvm.Cond.tt :: Jvm.Cond.arrayClass .byte :: tables_1.tail) (fun d hd => ?_) (by decide +kernel)
  rcases List.mem_cons.mp hd with rfl | hd
  · rfl
  · rcases List.mem_cons.mp hd with rfl | hd
    · exact mvA hZ (hw _ (List.mem_of_getElem? (i := 0) rfl))
    · exact mvT hZ (hw d (List.mem_of_mem_tail hd)) (List.all_eq_true.mp hk d hd)
/-! newarray of four bytes: the fresh array, and its class -/
theorem own_newB {p : Program} {l : Launch} {e : Env} {R : Room} {s : State} {m : MethodId} {args : Array Value} {below : List Frame} {meth : Method} {c : Code} {T : State} {locs : List Loc} {cells slots : Nat} {Z : State} {a0 : Array Value} {h : Heap}
    (X : Stand p l e R s m args below meth c T locs cells slots) (hx : p.tables.exec = Jvm.exec) (hZ : Z.Warmed39 s.vm) (w : (Jvm.Cond.arrayClass .byte).before a0 Z = true) (eT : T.heap = h) {g : JFrame} (hg : g.method = m) (hd : decode c.code g.pc = .ok (.newarray .byte, 2)) {rest : List Value} (hs : g.stack = .int (4 : Int32) :: rest) (hc : cells + 1 ≤ R.cells) (hl : slots + 4 ≤ R.slots) :
    ∃ (T' : State) (h' : Heap) (k : ClassId), Stand p l e R s m args below meth c T' locs (cells + 1) (slots + 4) ∧ T'.heap = h' ∧ Ext h h' ∧ Arv Z h' h.size k .byte (4 : Int32) [(.int (0 : Int32)), (.int (0 : Int32)), (.int (0 : Int32)), (.int (0 : Int32))] (.int (0 : Int32)) ∧ Z.vm.findClass "[B" = some k ∧
      ∀ target, Steps p.tables e below (T'.setTop { g with pc := g.pc + 2, stack := .ref h.size :: rest }) target → Steps p.tables e below (T.setTop g) target := by
  obtain ⟨T', B, X', hB, hs', hv, hh, hf, st⟩ := X.anew hx (atype := .byte) (mvA hZ w) (n := 4) (j := 4) rfl (by decide) (by decide) hg hd hs hc hl
  subst eT
  have hsl : B.slots = #[(.int (0 : Int32)), (.int (0 : Int32)), (.int (0 : Int32)), (.int (0 : Int32))] := hs'
  refine ⟨T', _, B.cls, X', rfl, ⟨by rw [hh]; simp, fun a cc q => ?_⟩, ⟨B, ⟨hB.1, State.isArrayOf_alike (hZ.alike.trans X'.warmed.alike).symm hB.2.1, hB.2.2.1⟩, rfl, by rw [hsl]; rfl, by decide, fun k hk => ?_, fun k hk => ?_⟩, by rw [← hZ.alike.findClass]; exact hf, st⟩
  · rw [hh, Array.getElem?_push_lt (Array.getElem?_eq_some_iff.mp q).1]; exact (Array.getElem?_eq_getElem _).symm.trans q
  · rw [hsl] at hk ⊢
    have hk4 : k < 4 := hk
    match k, hk4 with
    | 0, _ => rfl
    | 1, _ => rfl
    | 2, _ => rfl
    | 3, _ => rfl
  · rw [hsl] at hk
    have hk4 : k < 4 := hk
    match k, hk4 with
    | 0, _ => rfl
    | 1, _ => rfl
    | 2, _ => rfl
    | 3, _ => rfl
theorem d2_0 : decode jdk_30_method_1_code 0 = .ok (.aload_n 0, 1) := by decide +kernel
theorem d2_1 : decode jdk_30_method_1_code 1 = .ok (.invokespecial 1, 3) := by decide +kernel
theorem d2_4 : decode jdk_30_method_1_code 4 = .ok (.return_, 1) := by decide +kernel
theorem pn_2 : plainName "java/lang/Record" = true := by first | (simp [plainName, overriddenIn]; done) | decide +kernel
theorem ef_2 (m : MethodId) (x0 : Addr) : entryFrame m #[(.ref x0)] 1 = mkF m 0 #[.val (.ref x0)] [] := by first | (simp [entryFrame, mkF, argsToLocals, Value.category]; done) | rfl
def Q2 (Z : State) (a1 : Addr) (h0 : Heap) (n0 : Nat) (v : Option Value) (h : Heap) (L : List Loc) : Prop := v = none ∧ Fr n0 L ∧ h = h0
set_option maxRecDepth 65536 in
set_option maxHeartbeats 40000000 in
theorem rm2 (l : Launch) (Z : State) (a0 : Array Value) (hw : ∀ d ∈ tables_1, d.before a0 Z = true) (ws : List Jvm.Cond) (a1 : Addr) (h0 : Heap) (n0 : Nat) (Z0 : n0 ≤ h0.size) :
    MetFree l (⟨"java/lang/Record", "<init>", "()V"⟩ : MethodName) (head1 (Jvm.Cond.code (⟨"java/lang/Record", "<init>", "()V"⟩ : MethodName) jdk_30_method_1_code 1 none :: ws) ({ frames := 1, cells := 0, slots := 0, locals := 12 } : Room)) (fun a U => a = #[(.ref a1)] ∧ Z.Warmed39 U.vm ∧ U.heap = h0) (fun _ _ _ _ _ => True) (fun _ U o U' => ∃ v L, o = .returned v ∧ Q2 Z a1 h0 n0 v U'.heap L ∧ FrameEnd U o U' L ({ frames := 1, cells := 0, slots := 0, locals := 12 } : Room).cells ({ frames := 1, cells := 0, slots := 0, locals := 12 } : Room).slots) := by
  refine MetFree.of_bodySF (plainFor_of_name pn_2) hisR ?_
  intro p e s m args below meth c s₁ Bd hml0 hP hK
  obtain ⟨rfl, hZ, hh⟩ := hP
  have hx := Bd.exec
  have hby := Bd.bytes
  have hml : c.maxLocals = 1 := hml0
  have hown : s.vm.findClass "java/lang/Record" = some m.cls := findClass_of_methodNamed Bd.named
  have hnm := (name_of_methodNamed Bd.named Bd.method).1
  have X0 : Stand p l e ({ frames := 1, cells := 0, slots := 0, locals := 12 } : Room) s m #[(.ref a1)] below meth c s₁ [] 0 0 := Stand.of_body Bd
  have e0 : s₁.heap = h0 := by rw [← hh, Bd.state]; rfl
  have N0 := Fr.nil n0
  have pre0 : ∀ t, Steps p.tables e below (s₁.setTop (mkF m 0 #[.val (.ref a1)] [])) t → Steps p.tables e below (s₁.setTop (entryFrame m #[(.ref a1)] 1)) t := fun t k => castTop (ef_2 m a1) k
  -- 3. LAWS
  obtain ⟨T2, X2, e2, st2⟩ := initO X0 hx hZ hown (hw _ (List.mem_of_getElem? (i := 13) rfl)) (hw _ (List.mem_of_getElem? (i := 14) rfl)) (hw _ (List.mem_of_getElem? (i := 15) rfl)) e0 (g := (mkF m 1 #[.val (.ref a1)] [(.ref a1)])) rfl (by rw [hml]; rfl) rfl (hb hby d2_1) (by decide) (W := 0) (by show 2 * 0 + _ ≤ _; exact Nat.le_of_eq rfl) (by decide)
  obtain ⟨fs, hr, hrun, hended, hW, hsame⟩ := X2.leave (v := none) (fun _ => rfl)
  refine ⟨_, _, pre0 _ ?_, hrun, hended, _, _, rfl, ?_, ⟨_, rfl⟩, hW, hsame.mono (by decide) (by decide)⟩
  -- 4. STEPS
  · show Steps p.tables e below (s₁.setTop (mkF m 0 #[.val (.ref a1)] [])) _
    refine XS.aloadN X0.here hx rfl (hb hby d2_0) rfl rfl ?_
    show Steps p.tables e below (s₁.setTop (mkF m 1 #[.val (.ref a1)] [(.ref a1)])) _
    refine st2 _ ?_
    show Steps p.tables e below (T2.setTop (mkF m 4 #[.val (.ref a1)] [])) _
    exact X2.returnOut hx Bd.returns (hb hby d2_4) hr
  · show Q2 Z a1 h0 n0 _ T2.heap _
    rw [e2]
    exact ⟨rfl, N0, rfl⟩
theorem d1_0 : decode prog_21_method_1_code 0 = .ok (.aload_n 0, 1) := by decide +kernel
theorem d1_1 : decode prog_21_method_1_code 1 = .ok (.invokespecial 3, 3) := by decide +kernel
theorem d1_4 : decode prog_21_method_1_code 4 = .ok (.aload_n 0, 1) := by decide +kernel
theorem d1_5 : decode prog_21_method_1_code 5 = .ok (.aload_n 1, 1) := by decide +kernel
theorem d1_6 : decode prog_21_method_1_code 6 = .ok (.putfield 9, 3) := by decide +kernel
theorem d1_9 : decode prog_21_method_1_code 9 = .ok (.aload_n 0, 1) := by decide +kernel
theorem d1_10 : decode prog_21_method_1_code 10 = .ok (.iload_n 2, 1) := by decide +kernel
theorem d1_11 : decode prog_21_method_1_code 11 = .ok (.putfield 15, 3) := by decide +kernel
theorem d1_14 : decode prog_21_method_1_code 14 = .ok (.aload_n 0, 1) := by decide +kernel
theorem d1_15 : decode prog_21_method_1_code 15 = .ok (.iload_n 3, 1) := by decide +kernel
theorem d1_16 : decode prog_21_method_1_code 16 = .ok (.putfield 19, 3) := by decide +kernel
theorem d1_19 : decode prog_21_method_1_code 19 = .ok (.aload_n 0, 1) := by decide +kernel
theorem d1_20 : decode prog_21_method_1_code 20 = .ok (.iload 4, 2) := by decide +kernel
theorem d1_22 : decode prog_21_method_1_code 22 = .ok (.putfield 22, 3) := by decide +kernel
theorem d1_25 : decode prog_21_method_1_code 25 = .ok (.aload_n 0, 1) := by decide +kernel
theorem d1_26 : decode prog_21_method_1_code 26 = .ok (.iload 5, 2) := by decide +kernel
theorem d1_28 : decode prog_21_method_1_code 28 = .ok (.putfield 25, 3) := by decide +kernel
theorem d1_31 : decode prog_21_method_1_code 31 = .ok (.return_, 1) := by decide +kernel
theorem pn_1 : plainName "com/example/consentry/consentry/timestamp/Der$Element" = true := by first | (simp [plainName, overriddenIn]; done) | decide +kernel
theorem pd_1_1 : parseMethodDescriptor "()V" = some ⟨[], none⟩ := by decide +kernel
theorem ef_1 (m : MethodId) (x0 : Addr) (x1 : Addr) (x2 : Int32) (x3 : Int32) (x4 : Int32) (x5 : Int32) : entryFrame m #[(.ref x0), (.ref x1), (.int x2), (.int x3), (.int x4), (.int x5)] 6 = mkF m 0 #[.val (.ref x0), .val (.ref x1), .val (.int x2), .val (.int x3), .val (.int x4), .val (.int x5)] [] := by first | (simp [entryFrame, mkF, argsToLocals, Value.category]; done) | rfl
def Q1 (Z : State) (a1 : Addr) (a2 : Addr) (p4 : Int32) (p6 : Int32) (h0 : Heap) (n0 : Nat) (v : Option Value) (h : Heap) (L : List Loc) : Prop := v = none ∧ Fr n0 L ∧ Keep h0 h [a1] ∧ Exa Z h a1 "com/example/consentry/consentry/timestamp/Der$Element" ∧ Fld Z h a1 "com/example/consentry/consentry/timestamp/Der$Element" "source" "[B" (.ref a2) ∧ Fld Z h a1 "com/example/consentry/consentry/timestamp/Der$Element" "start" "I" (.int p4) ∧ Fld Z h a1 "com/example/consentry/consentry/timestamp/Der$Element" "end" "I" (.int p6)
set_option maxRecDepth 65536 in
set_option maxHeartbeats 40000000 in
theorem rm1 (l : Launch) (Z : State) (a0 : Array Value) (hw : ∀ d ∈ tables_1, d.before a0 Z = true) (ws : List Jvm.Cond) (a1 : Addr) (a2 : Addr) (p3 : Int32) (p4 : Int32) (p5 : Int32) (p6 : Int32) (u_source_a1 : Value) (u_tag_a1 : Value) (u_start_a1 : Value) (u_contentStart_a1 : Value) (u_end_a1 : Value) (h0 : Heap) (n0 : Nat) (Z0 : n0 ≤ h0.size) (E_a1 : Exa Z h0 a1 "com/example/consentry/consentry/timestamp/Der$Element") (F_source_a1 : Fld Z h0 a1 "com/example/consentry/consentry/timestamp/Der$Element" "source" "[B" u_source_a1) (g_a1 : n0 ≤ a1) (F_tag_a1 : Fld Z h0 a1 "com/example/consentry/consentry/timestamp/Der$Element" "tag" "I" u_tag_a1) (F_start_a1 : Fld Z h0 a1 "com/example/consentry/consentry/timestamp/Der$Element" "start" "I" u_start_a1) (F_contentStart_a1 : Fld Z h0 a1 "com/example/consentry/consentry/timestamp/Der$Element" "contentStart" "I" u_contentStart_a1) (F_end_a1 : Fld Z h0 a1 "com/example/consentry/consentry/timestamp/Der$Element" "end" "I" u_end_a1) :
    MetFree l (⟨"com/example/consentry/consentry/timestamp/Der$Element", "<init>", "([BIIII)V"⟩ : MethodName) (head1 (Jvm.Cond.code (⟨"com/example/consentry/consentry/timestamp/Der$Element", "<init>", "([BIIII)V"⟩ : MethodName) prog_21_method_1_code 6 none :: ws) ({ frames := 2, cells := 0, slots := 0, locals := 24 } : Room)) (fun a U => a = #[(.ref a1), (.ref a2), (.int p3), (.int p4), (.int p5), (.int p6)] ∧ Z.Warmed39 U.vm ∧ U.heap = h0) (fun _ _ _ _ _ => True) (fun _ U o U' => ∃ v L, o = .returned v ∧ Q1 Z a1 a2 p4 p6 h0 n0 v U'.heap L ∧ FrameEnd U o U' L ({ frames := 2, cells := 0, slots := 0, locals := 24 } : Room).cells ({ frames := 2, cells := 0, slots := 0, locals := 24 } : Room).slots) := by
  refine MetFree.of_bodySF (plainFor_of_name pn_1) hisR ?_
  intro p e s m args below meth c s₁ Bd hml0 hP hK
  obtain ⟨rfl, hZ, hh⟩ := hP
  have hx := Bd.exec
  have hby := Bd.bytes
  have hml : c.maxLocals = 6 := hml0
  have hown : s.vm.findClass "com/example/consentry/consentry/timestamp/Der$Element" = some m.cls := findClass_of_methodNamed Bd.named
  have hnm := (name_of_methodNamed Bd.named Bd.method).1
  have X0 : Stand p l e ({ frames := 2, cells := 0, slots := 0, locals := 24 } : Room) s m #[(.ref a1), (.ref a2), (.int p3), (.int p4), (.int p5), (.int p6)] below meth c s₁ [] 0 0 := Stand.of_body Bd
  have e0 : s₁.heap = h0 := by rw [← hh, Bd.state]; rfl
  have N0 := Fr.nil n0
  have pre0 : ∀ t, Steps p.tables e below (s₁.setTop (mkF m 0 #[.val (.ref a1), .val (.ref a2), .val (.int p3), .val (.int p4), .val (.int p5), .val (.int p6)] [])) t → Steps p.tables e below (s₁.setTop (entryFrame m #[(.ref a1), (.ref a2), (.int p3), (.int p4), (.int p5), (.int p6)] 6)) t := fun t k => castTop (ef_1 m a1 a2 p3 p4 p5 p6) k
  -- 3. LAWS
  -- pc 1: the constructor of java/lang/Record by its contract rm2
  obtain ⟨_, _, ⟨T7, L7, k7, n7⟩, -, X7, ⟨Lc7, hQ7, l7, y7, z7⟩, st7⟩ := X0.specialBack hx (y := (⟨"java/lang/Record", "<init>", "()V"⟩ : MethodName)) rfl hown (mvT hZ (hw _ (List.mem_of_getElem? (i := 8) rfl))) (mvT hZ (hw _ (List.mem_of_getElem? (i := 9) rfl))) (mvT hZ (hw _ (List.mem_of_getElem? (i := 12) rfl))) (by decide) (backOf (W := 0) (rm2 l Z a0 hw [] a1 h0 n0 Z0) hZ (hw _ (List.mem_of_getElem? (i := 12) rfl)) (hw _ (List.mem_of_getElem? (i := 11) rfl)) (by decide) (by decide)) (g := (mkF m 1 #[.val (.ref a1), .val (.ref a2), .val (.int p3), .val (.int p4), .val (.int p5), .val (.int p6)] [(.ref a1)])) rfl (by rw [hml]; rfl) (Steps.refl _) (a := a1) (argsL := []) (rest := []) (lenOf pd_1_1 rfl) rfl (by show 2 * 0 + _ ≤ _; exact Nat.le_of_eq rfl) (hb hby d1_1) (fun _ _ => ⟨rfl, e0, (by decide : 0 + 0 ≤ _), (by decide : 0 + 0 ≤ _)⟩)
  dsimp only [Pt.U, Pt.locs, Pt.cells, Pt.slots] at X7 l7 y7 z7 st7 hQ7
  subst l7 y7 z7
  obtain ⟨rfl, N7q, eq7⟩ := hQ7
  have Kc7 : Keep h0 T7.heap [] := by rw [eq7]; exact Keep.refl _ []
  have Kd7 : Keep h0 T7.heap [a1] := by rw [eq7]; exact Keep.refl h0 [a1]      -- what it returned, that it wrote nothing old, and the rest of your Q2
  have N7 := Fr.app N0 N7q
  obtain ⟨T8, h8, X8, e8, W8, st8⟩ := putF X7 hx hZ hown (host := "") (Or.inl (hw _ (List.mem_of_getElem? (i := 16) rfl))) Via.refl rfl (F_source_a1.keep Kc7 List.not_mem_nil) (E_a1.keep Kc7) (Or.inr ⟨(hw _ (List.mem_of_getElem? (i := 17) rfl)), rfl, hnm⟩) (hw _ (List.mem_of_getElem? (i := 3) rfl)) (ty := (.array .byte)) (by decide) rfl rfl (g := (mkF m 6 #[.val (.ref a1), .val (.ref a2), .val (.int p3), .val (.int p4), .val (.int p5), .val (.int p6)] [(.ref a2), (.ref a1)])) rfl rfl (hb hby d1_6)
  have Fw8 := (F_source_a1.keep Kc7 List.not_mem_nil).same W8      -- the field now holds (.ref a2)
  have K8 : Keep h0 h8 [a1] := Kd7.wr W8 (Or.inl (List.mem_of_getElem? (i := 0) rfl))
  have N8 := Fr.snoc X8 N7 g_a1
  obtain ⟨T9, h9, X9, e9, W9, st9⟩ := putF X8 hx hZ hown (host := "") (Or.inl (hw _ (List.mem_of_getElem? (i := 18) rfl))) Via.refl e8 ((F_tag_a1.keep Kc7 List.not_mem_nil).other W8 (Or.inr (slot_ne (Or.inr (hw _ (List.mem_of_getElem? (i := 19) rfl))) (Or.inr (hw _ (List.mem_of_getElem? (i := 17) rfl))) (by decide) (t := .int) (t' := (.array .byte)) (by decide) (by decide)))) ((E_a1.keep Kc7).wr W8) (Or.inr ⟨(hw _ (List.mem_of_getElem? (i := 19) rfl)), rfl, hnm⟩) (hw _ (List.mem_of_getElem? (i := 3) rfl)) (ty := .int) (by decide) rfl rfl (g := (mkF m 11 #[.val (.ref a1), .val (.ref a2), .val (.int p3), .val (.int p4), .val (.int p5), .val (.int p6)] [(.int p3), (.ref a1)])) rfl rfl (hb hby d1_11)
  have Fw9 := ((F_tag_a1.keep Kc7 List.not_mem_nil).other W8 (Or.inr (slot_ne (Or.inr (hw _ (List.mem_of_getElem? (i := 19) rfl))) (Or.inr (hw _ (List.mem_of_getElem? (i := 17) rfl))) (by decide) (t := .int) (t' := (.array .byte)) (by decide) (by decide)))).same W9      -- the field now holds (.int p3)
  have K9 : Keep h0 h9 [a1] := K8.wr W9 (Or.inl (List.mem_of_getElem? (i := 0) rfl))
  have N9 := Fr.snoc X9 N8 g_a1
  obtain ⟨T10, h10, X10, e10, W10, st10⟩ := putF X9 hx hZ hown (host := "") (Or.inl (hw _ (List.mem_of_getElem? (i := 20) rfl))) Via.refl e9 (((F_start_a1.keep Kc7 List.not_mem_nil).other W8 (Or.inr (slot_ne (Or.inr (hw _ (List.mem_of_getElem? (i := 21) rfl))) (Or.inr (hw _ (List.mem_of_getElem? (i := 17) rfl))) (by decide) (t := .int) (t' := (.array .byte)) (by decide) (by decide)))).other W9 (Or.inr (slot_ne (Or.inr (hw _ (List.mem_of_getElem? (i := 21) rfl))) (Or.inr (hw _ (List.mem_of_getElem? (i := 19) rfl))) (by decide) (t := .int) (t' := .int) (by decide) (by decide)))) (((E_a1.keep Kc7).wr W8).wr W9) (Or.inr ⟨(hw _ (List.mem_of_getElem? (i := 21) rfl)), rfl, hnm⟩) (hw _ (List.mem_of_getElem? (i := 3) rfl)) (ty := .int) (by decide) rfl rfl (g := (mkF m 16 #[.val (.ref a1), .val (.ref a2), .val (.int p3), .val (.int p4), .val (.int p5), .val (.int p6)] [(.int p4), (.ref a1)])) rfl rfl (hb hby d1_16)
  have Fw10 := (((F_start_a1.keep Kc7 List.not_mem_nil).other W8 (Or.inr (slot_ne (Or.inr (hw _ (List.mem_of_getElem? (i := 21) rfl))) (Or.inr (hw _ (List.mem_of_getElem? (i := 17) rfl))) (by decide) (t := .int) (t' := (.array .byte)) (by decide) (by decide)))).other W9 (Or.inr (slot_ne (Or.inr (hw _ (List.mem_of_getElem? (i := 21) rfl))) (Or.inr (hw _ (List.mem_of_getElem? (i := 19) rfl))) (by decide) (t := .int) (t' := .int) (by decide) (by decide)))).same W10      -- the field now holds (.int p4)
  have K10 : Keep h0 h10 [a1] := K9.wr W10 (Or.inl (List.mem_of_getElem? (i := 0) rfl))
  have N10 := Fr.snoc X10 N9 g_a1
  obtain ⟨T11, h11, X11, e11, W11, st11⟩ := putF X10 hx hZ hown (host := "") (Or.inl (hw _ (List.mem_of_getElem? (i := 22) rfl))) Via.refl e10 ((((F_contentStart_a1.keep Kc7 List.not_mem_nil).other W8 (Or.inr (slot_ne (Or.inr (hw _ (List.mem_of_getElem? (i := 23) rfl))) (Or.inr (hw _ (List.mem_of_getElem? (i := 17) rfl))) (by decide) (t := .int) (t' := (.array .byte)) (by decide) (by decide)))).other W9 (Or.inr (slot_ne (Or.inr (hw _ (List.mem_of_getElem? (i := 23) rfl))) (Or.inr (hw _ (List.mem_of_getElem? (i := 19) rfl))) (by decide) (t := .int) (t' := .int) (by decide) (by decide)))).other W10 (Or.inr (slot_ne (Or.inr (hw _ (List.mem_of_getElem? (i := 23) rfl))) (Or.inr (hw _ (List.mem_of_getElem? (i := 21) rfl))) (by decide) (t := .int) (t' := .int) (by decide) (by decide)))) ((((E_a1.keep Kc7).wr W8).wr W9).wr W10) (Or.inr ⟨(hw _ (List.mem_of_getElem? (i := 23) rfl)), rfl, hnm⟩) (hw _ (List.mem_of_getElem? (i := 3) rfl)) (ty := .int) (by decide) rfl rfl (g := (mkF m 22 #[.val (.ref a1), .val (.ref a2), .val (.int p3), .val (.int p4), .val (.int p5), .val (.int p6)] [(.int p5), (.ref a1)])) rfl rfl (hb hby d1_22)
  have Fw11 := ((((F_contentStart_a1.keep Kc7 List.not_mem_nil).other W8 (Or.inr (slot_ne (Or.inr (hw _ (List.mem_of_getElem? (i := 23) rfl))) (Or.inr (hw _ (List.mem_of_getElem? (i := 17) rfl))) (by decide) (t := .int) (t' := (.array .byte)) (by decide) (by decide)))).other W9 (Or.inr (slot_ne (Or.inr (hw _ (List.mem_of_getElem? (i := 23) rfl))) (Or.inr (hw _ (List.mem_of_getElem? (i := 19) rfl))) (by decide) (t := .int) (t' := .int) (by decide) (by decide)))).other W10 (Or.inr (slot_ne (Or.inr (hw _ (List.mem_of_getElem? (i := 23) rfl))) (Or.inr (hw _ (List.mem_of_getElem? (i := 21) rfl))) (by decide) (t := .int) (t' := .int) (by decide) (by decide)))).same W11      -- the field now holds (.int p5)
  have K11 : Keep h0 h11 [a1] := K10.wr W11 (Or.inl (List.mem_of_getElem? (i := 0) rfl))
  have N11 := Fr.snoc X11 N10 g_a1
  obtain ⟨T12, h12, X12, e12, W12, st12⟩ := putF X11 hx hZ hown (host := "") (Or.inl (hw _ (List.mem_of_getElem? (i := 24) rfl))) Via.refl e11 (((((F_end_a1.keep Kc7 List.not_mem_nil).other W8 (Or.inr (slot_ne (Or.inr (hw _ (List.mem_of_getElem? (i := 25) rfl))) (Or.inr (hw _ (List.mem_of_getElem? (i := 17) rfl))) (by decide) (t := .int) (t' := (.array .byte)) (by decide) (by decide)))).other W9 (Or.inr (slot_ne (Or.inr (hw _ (List.mem_of_getElem? (i := 25) rfl))) (Or.inr (hw _ (List.mem_of_getElem? (i := 19) rfl))) (by decide) (t := .int) (t' := .int) (by decide) (by decide)))).other W10 (Or.inr (slot_ne (Or.inr (hw _ (List.mem_of_getElem? (i := 25) rfl))) (Or.inr (hw _ (List.mem_of_getElem? (i := 21) rfl))) (by decide) (t := .int) (t' := .int) (by decide) (by decide)))).other W11 (Or.inr (slot_ne (Or.inr (hw _ (List.mem_of_getElem? (i := 25) rfl))) (Or.inr (hw _ (List.mem_of_getElem? (i := 23) rfl))) (by decide) (t := .int) (t' := .int) (by decide) (by decide)))) (((((E_a1.keep Kc7).wr W8).wr W9).wr W10).wr W11) (Or.inr ⟨(hw _ (List.mem_of_getElem? (i := 25) rfl)), rfl, hnm⟩) (hw _ (List.mem_of_getElem? (i := 3) rfl)) (ty := .int) (by decide) rfl rfl (g := (mkF m 28 #[.val (.ref a1), .val (.ref a2), .val (.int p3), .val (.int p4), .val (.int p5), .val (.int p6)] [(.int p6), (.ref a1)])) rfl rfl (hb hby d1_28)
  have Fw12 := (((((F_end_a1.keep Kc7 List.not_mem_nil).other W8 (Or.inr (slot_ne (Or.inr (hw _ (List.mem_of_getElem? (i := 25) rfl))) (Or.inr (hw _ (List.mem_of_getElem? (i := 17) rfl))) (by decide) (t := .int) (t' := (.array .byte)) (by decide) (by decide)))).other W9 (Or.inr (slot_ne (Or.inr (hw _ (List.mem_of_getElem? (i := 25) rfl))) (Or.inr (hw _ (List.mem_of_getElem? (i := 19) rfl))) (by decide) (t := .int) (t' := .int) (by decide) (by decide)))).other W10 (Or.inr (slot_ne (Or.inr (hw _ (List.mem_of_getElem? (i := 25) rfl))) (Or.inr (hw _ (List.mem_of_getElem? (i := 21) rfl))) (by decide) (t := .int) (t' := .int) (by decide) (by decide)))).other W11 (Or.inr (slot_ne (Or.inr (hw _ (List.mem_of_getElem? (i := 25) rfl))) (Or.inr (hw _ (List.mem_of_getElem? (i := 23) rfl))) (by decide) (t := .int) (t' := .int) (by decide) (by decide)))).same W12      -- the field now holds (.int p6)
  have K12 : Keep h0 h12 [a1] := K11.wr W12 (Or.inl (List.mem_of_getElem? (i := 0) rfl))
  have N12 := Fr.snoc X12 N11 g_a1
  obtain ⟨fs, hr, hrun, hended, hW, hsame⟩ := X12.leave (v := none) (fun _ => rfl)
  refine ⟨_, _, pre0 _ ?_, hrun, hended, _, _, rfl, ?_, ⟨_, rfl⟩, hW, hsame.mono (by decide) (by decide)⟩
  -- 4. STEPS
  · show Steps p.tables e below (s₁.setTop (mkF m 0 #[.val (.ref a1), .val (.ref a2), .val (.int p3), .val (.int p4), .val (.int p5), .val (.int p6)] [])) _
    refine XS.aloadN X0.here hx rfl (hb hby d1_0) rfl rfl ?_
    show Steps p.tables e below (s₁.setTop (mkF m 1 #[.val (.ref a1), .val (.ref a2), .val (.int p3), .val (.int p4), .val (.int p5), .val (.int p6)] [(.ref a1)])) _
    refine st7.trans ?_
    show Steps p.tables e below (T7.setTop (mkF m 4 #[.val (.ref a1), .val (.ref a2), .val (.int p3), .val (.int p4), .val (.int p5), .val (.int p6)] [])) _
    refine XS.aloadN X7.here hx rfl (hb hby d1_4) rfl rfl ?_
    show Steps p.tables e below (T7.setTop (mkF m 5 #[.val (.ref a1), .val (.ref a2), .val (.int p3), .val (.int p4), .val (.int p5), .val (.int p6)] [(.ref a1)])) _
    refine XS.aloadN X7.here hx rfl (hb hby d1_5) rfl rfl ?_
    show Steps p.tables e below (T7.setTop (mkF m 6 #[.val (.ref a1), .val (.ref a2), .val (.int p3), .val (.int p4), .val (.int p5), .val (.int p6)] [(.ref a2), (.ref a1)])) _
    refine st8 _ ?_
    show Steps p.tables e below (T8.setTop (mkF m 9 #[.val (.ref a1), .val (.ref a2), .val (.int p3), .val (.int p4), .val (.int p5), .val (.int p6)] [])) _
    refine XS.aloadN X8.here hx rfl (hb hby d1_9) rfl rfl ?_
    show Steps p.tables e below (T8.setTop (mkF m 10 #[.val (.ref a1), .val (.ref a2), .val (.int p3), .val (.int p4), .val (.int p5), .val (.int p6)] [(.ref a1)])) _
    refine XS.iloadN X8.here hx rfl (hb hby d1_10) rfl ?_
    show Steps p.tables e below (T8.setTop (mkF m 11 #[.val (.ref a1), .val (.ref a2), .val (.int p3), .val (.int p4), .val (.int p5), .val (.int p6)] [(.int p3), (.ref a1)])) _
    refine st9 _ ?_
    show Steps p.tables e below (T9.setTop (mkF m 14 #[.val (.ref a1), .val (.ref a2), .val (.int p3), .val (.int p4), .val (.int p5), .val (.int p6)] [])) _
    refine XS.aloadN X9.here hx rfl (hb hby d1_14) rfl rfl ?_
    show Steps p.tables e below (T9.setTop (mkF m 15 #[.val (.ref a1), .val (.ref a2), .val (.int p3), .val (.int p4), .val (.int p5), .val (.int p6)] [(.ref a1)])) _
    refine XS.iloadN X9.here hx rfl (hb hby d1_15) rfl ?_
    show Steps p.tables e below (T9.setTop (mkF m 16 #[.val (.ref a1), .val (.ref a2), .val (.int p3), .val (.int p4), .val (.int p5), .val (.int p6)] [(.int p4), (.ref a1)])) _
    refine st10 _ ?_
    show Steps p.tables e below (T10.setTop (mkF m 19 #[.val (.ref a1), .val (.ref a2), .val (.int p3), .val (.int p4), .val (.int p5), .val (.int p6)] [])) _
    refine XS.aloadN X10.here hx rfl (hb hby d1_19) rfl rfl ?_
    show Steps p.tables e below (T10.setTop (mkF m 20 #[.val (.ref a1), .val (.ref a2), .val (.int p3), .val (.int p4), .val (.int p5), .val (.int p6)] [(.ref a1)])) _
    refine XS.iload X10.here hx rfl (hb hby d1_20) rfl ?_
    show Steps p.tables e below (T10.setTop (mkF m 22 #[.val (.ref a1), .val (.ref a2), .val (.int p3), .val (.int p4), .val (.int p5), .val (.int p6)] [(.int p5), (.ref a1)])) _
    refine st11 _ ?_
    show Steps p.tables e below (T11.setTop (mkF m 25 #[.val (.ref a1), .val (.ref a2), .val (.int p3), .val (.int p4), .val (.int p5), .val (.int p6)] [])) _
    refine XS.aloadN X11.here hx rfl (hb hby d1_25) rfl rfl ?_
    show Steps p.tables e below (T11.setTop (mkF m 26 #[.val (.ref a1), .val (.ref a2), .val (.int p3), .val (.int p4), .val (.int p5), .val (.int p6)] [(.ref a1)])) _
    refine XS.iload X11.here hx rfl (hb hby d1_26) rfl ?_
    show Steps p.tables e below (T11.setTop (mkF m 28 #[.val (.ref a1), .val (.ref a2), .val (.int p3), .val (.int p4), .val (.int p5), .val (.int p6)] [(.int p6), (.ref a1)])) _
    refine st12 _ ?_
    show Steps p.tables e below (T12.setTop (mkF m 31 #[.val (.ref a1), .val (.ref a2), .val (.int p3), .val (.int p4), .val (.int p5), .val (.int p6)] [])) _
    exact X12.returnOut hx Bd.returns (hb hby d1_31) hr
  · show Q1 Z a1 a2 p4 p6 h0 n0 _ T12.heap _
    rw [e12]
    exact ⟨rfl, N12, K12, ((((((E_a1.keep Kc7).wr W8).wr W9).wr W10).wr W11).wr W12), (((Fw8.other W9 (Or.inr (slot_ne (Or.inr (hw _ (List.mem_of_getElem? (i := 17) rfl))) (Or.inr (hw _ (List.mem_of_getElem? (i := 19) rfl))) (by decide) (t := (.array .byte)) (t' := .int) (by decide) (by decide)))).other W10 (Or.inr (slot_ne (Or.inr (hw _ (List.mem_of_getElem? (i := 17) rfl))) (Or.inr (hw _ (List.mem_of_getElem? (i := 21) rfl))) (by decide) (t := (.array .byte)) (t' := .int) (by decide) (by decide)))).other W11 (Or.inr (slot_ne (Or.inr (hw _ (List.mem_of_getElem? (i := 17) rfl))) (Or.inr (hw _ (List.mem_of_getElem? (i := 23) rfl))) (by decide) (t := (.array .byte)) (t' := .int) (by decide) (by decide)))).other W12 (Or.inr (slot_ne (Or.inr (hw _ (List.mem_of_getElem? (i := 17) rfl))) (Or.inr (hw _ (List.mem_of_getElem? (i := 25) rfl))) (by decide) (t := (.array .byte)) (t' := .int) (by decide) (by decide))), (Fw10.other W11 (Or.inr (slot_ne (Or.inr (hw _ (List.mem_of_getElem? (i := 21) rfl))) (Or.inr (hw _ (List.mem_of_getElem? (i := 23) rfl))) (by decide) (t := .int) (t' := .int) (by decide) (by decide)))).other W12 (Or.inr (slot_ne (Or.inr (hw _ (List.mem_of_getElem? (i := 21) rfl))) (Or.inr (hw _ (List.mem_of_getElem? (i := 25) rfl))) (by decide) (t := .int) (t' := .int) (by decide) (by decide))), Fw12⟩
theorem own_typed {Z : State} {h : Heap} {a : Addr} {A : Cell} {i : Int32} (S : own_src Z h a A i) : Jvm.Free.XT.Typed .byte A := by
  intro j v hj
  have hlt : j < 4 := by rw [← S.2.2.1]; exact (Array.getElem?_eq_some_iff.mp hj).1
  rw [S.2.2.2 j hlt] at hj
  cases hj
  exact own_fit i j
theorem own_getD {Z : State} {h : Heap} {a : Addr} {A : Cell} {i : Int32} (S : own_src Z h a A i) {j : Nat} (hj : j < 4) : A.slots.getD j (defaultValue .byte) = .int (own_sv i j) := by
  rw [Array.getD_eq_getD_getElem?, S.2.2.2 j hj]; rfl
theorem own_size {h h' : Heap} (H : ∀ (z : Addr) (cz : Cell), h[z]? = some cz → h'[z]? = some cz) : h.size ≤ h'.size := by
  by_cases h0 : h.size = 0
  · omega
  · have hlt : h.size - 1 < h.size := by omega
    have := (Array.getElem?_eq_some_iff.mp (H (h.size - 1) _ (Array.getElem?_eq_getElem hlt))).1
    omega
theorem d4_0 : decode prog_21_method_2_code 0 = .ok (.aload_n 0, 1) := by decide +kernel
theorem d4_1 : decode prog_21_method_2_code 1 = .ok (.getfield 9, 3) := by decide +kernel
theorem d4_4 : decode prog_21_method_2_code 4 = .ok (.aload_n 0, 1) := by decide +kernel
theorem d4_5 : decode prog_21_method_2_code 5 = .ok (.getfield 19, 3) := by decide +kernel
theorem d4_8 : decode prog_21_method_2_code 8 = .ok (.aload_n 0, 1) := by decide +kernel
theorem d4_9 : decode prog_21_method_2_code 9 = .ok (.getfield 25, 3) := by decide +kernel
theorem d4_12 : decode prog_21_method_2_code 12 = .ok (.invokestatic 28, 3) := by decide +kernel
theorem d4_15 : decode prog_21_method_2_code 15 = .ok (.areturn, 1) := by decide +kernel
theorem pn_4 : plainName "com/example/consentry/consentry/timestamp/Der$Element" = true := by first | (simp [plainName, overriddenIn]; done) | decide +kernel
theorem pd_4_3 : parseMethodDescriptor "([BII)[B" = some ⟨[(.array .byte), .int, .int], some (.array .byte)⟩ := by decide +kernel
theorem ef_4 (m : MethodId) (x0 : Addr) : entryFrame m #[(.ref x0)] 1 = mkF m 0 #[.val (.ref x0)] [] := by first | (simp [entryFrame, mkF, argsToLocals, Value.category]; done) | rfl
def Q4 (Z : State) (lo hi : Nat) (i : Int32) (h0 : Heap) (n0 : Nat) (v : Option Value) (h : Heap) (L : List Loc) : Prop := ∃ B : Cell, v = some (.ref h0.size) ∧ Fr n0 L ∧ Ext h0 h ∧ own_cut Z h h0.size B lo hi i
set_option maxRecDepth 65536 in
set_option maxHeartbeats 40000000 in
theorem rm4 (l : Launch) (Z : State) (a0 : Array Value) (hw : ∀ d ∈ tables_1, d.before a0 Z = true) (ws : List Jvm.Cond) (a1 : Addr) (w2 : Addr) (A : Cell) (lo : Nat) (hi : Nat) (i : Int32) (h0 : Heap) (n0 : Nat) (Z0 : n0 ≤ h0.size) (F_source_a1 : Fld Z h0 a1 "com/example/consentry/consentry/timestamp/Der$Element" "source" "[B" (.ref w2)) (F_start_a1 : Fld Z h0 a1 "com/example/consentry/consentry/timestamp/Der$Element" "start" "I" (.int (Int32.ofNat lo))) (F_end_a1 : Fld Z h0 a1 "com/example/consentry/consentry/timestamp/Der$Element" "end" "I" (.int (Int32.ofNat hi))) (S : own_src Z h0 w2 A i) (hlo : lo ≤ hi) (hhi : hi ≤ 4) :
    MetFree l (⟨"com/example/consentry/consentry/timestamp/Der$Element", "encoded", "()[B"⟩ : MethodName) (head1 (Jvm.Cond.code (⟨"com/example/consentry/consentry/timestamp/Der$Element", "encoded", "()[B"⟩ : MethodName) prog_21_method_2_code 1 (some (.array .byte)) :: ws) ({ frames := 3, cells := 1, slots := 4, locals := 70 } : Room)) (fun a U => a = #[(.ref a1)] ∧ Z.Warmed39 U.vm ∧ U.heap = h0) (fun _ _ _ _ _ => True) (fun _ U o U' => ∃ v L, o = .returned v ∧ Q4 Z lo hi i h0 n0 v U'.heap L ∧ FrameEnd U o U' L ({ frames := 3, cells := 1, slots := 4, locals := 70 } : Room).cells ({ frames := 3, cells := 1, slots := 4, locals := 70 } : Room).slots) := by
  refine MetFree.of_bodySF (plainFor_of_name pn_4) hisR ?_
  intro p e s m args below meth c s₁ Bd hml0 hP hK
  obtain ⟨rfl, hZ, hh⟩ := hP
  have hx := Bd.exec
  have hby := Bd.bytes
  have hml : c.maxLocals = 1 := hml0
  have hown : s.vm.findClass "com/example/consentry/consentry/timestamp/Der$Element" = some m.cls := findClass_of_methodNamed Bd.named
  have hnm := (name_of_methodNamed Bd.named Bd.method).1
  have X0 : Stand p l e ({ frames := 3, cells := 1, slots := 4, locals := 70 } : Room) s m #[(.ref a1)] below meth c s₁ [] 0 0 := Stand.of_body Bd
  have e0 : s₁.heap = h0 := by rw [← hh, Bd.state]; rfl
  have N0 := Fr.nil n0
  have pre0 : ∀ t, Steps p.tables e below (s₁.setTop (mkF m 0 #[.val (.ref a1)] [])) t → Steps p.tables e below (s₁.setTop (entryFrame m #[(.ref a1)] 1)) t := fun t k => castTop (ef_4 m a1) k
  -- 3. LAWS
  obtain ⟨T3, X3, e3, st3⟩ := getF X0 hx hZ hown (host := "") (Or.inl (hw _ (List.mem_of_getElem? (i := 16) rfl))) Via.refl e0 F_source_a1 (g := (mkF m 1 #[.val (.ref a1)] [(.ref a1)])) rfl rfl (hb hby d4_1)
  obtain ⟨T5, X5, e5, st5⟩ := getF X3 hx hZ hown (host := "") (Or.inl (hw _ (List.mem_of_getElem? (i := 20) rfl))) Via.refl e3 F_start_a1 (g := (mkF m 5 #[.val (.ref a1)] [(.ref a1), (.ref w2)])) rfl rfl (hb hby d4_5)
  obtain ⟨T7, X7, e7, st7⟩ := getF X5 hx hZ hown (host := "") (Or.inl (hw _ (List.mem_of_getElem? (i := 24) rfl))) Via.refl e5 F_end_a1 (g := (mkF m 9 #[.val (.ref a1)] [(.ref a1), (.int (Int32.ofNat lo)), (.ref w2)])) rfl rfl (hb hby d4_9)
  -- pc 12: java/util/Arrays.copyOfRange by its contract rm5
  obtain ⟨_, vm8, ⟨T8, L8, k8, n8⟩, hW8, X8, ⟨hQ8, l8, y8, z8⟩, st8⟩ := Jvm.LawKit.callS X7 hx (y := (⟨"java/util/Arrays", "copyOfRange", "([BII)[B"⟩ : MethodName)) hown (mvT hZ (hw _ (List.mem_of_getElem? (i := 31) rfl))) (mvT hZ (hw _ (List.mem_of_getElem? (i := 32) rfl))) (mvT hZ (hw _ (List.mem_of_getElem? (i := 33) rfl))) (mvT hZ (hw _ (List.mem_of_getElem? (i := 34) rfl))) (by decide) (Jvm.Free.JA.CopyOfRangeB.pays (W := 0) w2 A lo hi (own_tab hZ hw) (by decide) (by decide)) (g := (mkF m 12 #[.val (.ref a1)] [(.int (Int32.ofNat hi)), (.int (Int32.ofNat lo)), (.ref w2)])) rfl (by rw [hml]; rfl) (argsL := [(.ref w2), (.int (Int32.ofNat lo)), (.int (Int32.ofNat hi))]) (rest := []) (lenOf pd_4_3 rfl) rfl (by show 2 * 0 + _ ≤ _; exact Nat.le_of_eq rfl) (hb hby d4_12) (fun vm1 hW1 => ⟨(by decide : 0 + 1 ≤ 1), (by show 0 + (hi - lo) ≤ 4; omega), rfl, ⟨by show T7.heap[w2]? = _; rw [e7]; exact S.1.1, State.isArrayOf_alike (hZ.alike.trans hW1.alike) S.1.2.1, S.1.2.2, by rw [S.2.2.1]; decide⟩, by show vm1.findClass "[B" = _; rw [(hZ.alike.trans hW1.alike).findClass]; exact S.2.1, own_typed S, hlo, by rw [S.2.2.1]; omega, by omega, by omega⟩)
  dsimp only [Pt.U, Pt.locs, Pt.cells, Pt.slots] at X8 l8 y8 z8 st8 hQ8
  subst l8 y8 z8
  obtain ⟨rfl, B8, hB8, -, -, hs8, hj8, hk8⟩ := hQ8
  have hsz : (T7.setVm vm8).heap.size = h0.size := by show T7.heap.size = _; rw [e7]
  have N8 : Fr n0 ([] ++ ([] : List Loc)) := Fr.nil n0
  rw [hsz] at hB8 st8
  have hx8 : Ext h0 T8.heap := ⟨own_size (fun z cz q => hk8 z cz (by show T7.heap[z]? = _; rw [e7]; exact q)), fun z cz q => hk8 z cz (by show T7.heap[z]? = _; rw [e7]; exact q)⟩
  have hc8 : own_cut Z T8.heap h0.size B8 lo hi i := ⟨⟨hB8.1, State.isArrayOf_alike (hZ.alike.trans X8.warmed.alike).symm hB8.2.1, hB8.2.2.1⟩, hs8, fun j hj => by rw [hj8 j hj]; show some (A.slots.getD (lo + j) (defaultValue .byte)) = _; rw [own_getD S (by omega)]⟩
  obtain ⟨fs, hr, hrun, hended, hW, hsame⟩ := X8.leave (v := some (.ref h0.size)) (fun h => by rw [Bd.returns] at h; cases h)
  refine ⟨_, _, pre0 _ ?_, hrun, hended, _, _, rfl, ?_, ⟨_, rfl⟩, hW, hsame.mono (by decide) (by show 0 + (hi - lo) ≤ 4; omega)⟩
  -- 4. STEPS
  · show Steps p.tables e below (s₁.setTop (mkF m 0 #[.val (.ref a1)] [])) _
    refine XS.aloadN X0.here hx rfl (hb hby d4_0) rfl rfl ?_
    show Steps p.tables e below (s₁.setTop (mkF m 1 #[.val (.ref a1)] [(.ref a1)])) _
    refine st3 _ ?_
    show Steps p.tables e below (T3.setTop (mkF m 4 #[.val (.ref a1)] [(.ref w2)])) _
    refine XS.aloadN X3.here hx rfl (hb hby d4_4) rfl rfl ?_
    show Steps p.tables e below (T3.setTop (mkF m 5 #[.val (.ref a1)] [(.ref a1), (.ref w2)])) _
    refine st5 _ ?_
    show Steps p.tables e below (T5.setTop (mkF m 8 #[.val (.ref a1)] [(.int (Int32.ofNat lo)), (.ref w2)])) _
    refine XS.aloadN X5.here hx rfl (hb hby d4_8) rfl rfl ?_
    show Steps p.tables e below (T5.setTop (mkF m 9 #[.val (.ref a1)] [(.ref a1), (.int (Int32.ofNat lo)), (.ref w2)])) _
    refine st7 _ ?_
    show Steps p.tables e below (T7.setTop (mkF m 12 #[.val (.ref a1)] [(.int (Int32.ofNat hi)), (.int (Int32.ofNat lo)), (.ref w2)])) _
    refine st8 _ ?_
    show Steps p.tables e below (T8.setTop (mkF m 15 #[.val (.ref a1)] [(.ref h0.size)])) _
    jvm_step X8.here [X8.here.top, hx, (hb hby d4_15), X8.method', Bd.returns, Value.isRef, FieldType.isReference]
    first | (intro acts; rw [hr _ acts rfl rfl rfl]) | rw [hr _ _ rfl rfl rfl]
    exact Steps.refl _
  · show Q4 Z lo hi i h0 n0 _ T8.heap _
    exact ⟨B8, rfl, N8, hx8, hc8⟩
theorem d9_0 : decode method_2_code 0 = .ok (.iload_n 3, 1) := by decide +kernel
theorem d9_1 : decode method_2_code 1 = .ok (.aload_n 0, 1) := by decide +kernel
theorem d9_2 : decode method_2_code 2 = .ok (.arraylength, 1) := by decide +kernel
theorem d9_3 : decode method_2_code 3 = .ok (.if_icmp .ge 14, 3) := by decide +kernel
theorem d9_17 : decode method_2_code 17 = .ok (.iconst 1, 1) := by decide +kernel
theorem d9_18 : decode method_2_code 18 = .ok (.goto 4, 3) := by decide +kernel
theorem d9_22 : decode method_2_code 22 = .ok (.ireturn, 1) := by decide +kernel
theorem pn_9 : plainName "com/example/consentry/consentry/timestamp/ElementEncodedPinLaw" = true := by first | (simp [plainName, overriddenIn]; done) | decide +kernel
theorem ef_9 (m : MethodId) (x0 : Addr) (x1 : Addr) (x2 : Int32) (x3 : Int32) : entryFrame m #[(.ref x0), (.ref x1), (.int x2), (.int x3)] 4 = mkF m 0 #[.val (.ref x0), .val (.ref x1), .val (.int x2), .val (.int x3)] [] := by first | (simp [entryFrame, mkF, argsToLocals, Value.category]; done) | rfl
def Q9 (Z : State) (h0 : Heap) (n0 : Nat) (v : Option Value) (h : Heap) (L : List Loc) : Prop := v = some (.int (1 : Int32)) ∧ Fr n0 L ∧ h = h0
set_option maxRecDepth 65536 in
set_option maxHeartbeats 40000000 in
theorem rm9t (l : Launch) (Z : State) (a0 : Array Value) (hw : ∀ d ∈ tables_1, d.before a0 Z = true) (ws : List Jvm.Cond) (a1 : Addr) (a2 : Addr) (p3 : Int32) (p4 : Int32) (cl_a1 : Cell) (z_a1 : Int32) (h0 : Heap) (n0 : Nat) (Z0 : n0 ≤ h0.size) (Ar_a1 : Arr Z h0 a1 cl_a1 .byte) (S_a1 : cl_a1.slots.size = z_a1.toNatClampNeg) (N_a1 : ¬ z_a1 < 0) (hc3 : ¬ (p4 < z_a1)) :
    MetFree l (⟨"com/example/consentry/consentry/timestamp/ElementEncodedPinLaw", "at", "([B[BII)Z"⟩ : MethodName) (head1 (Jvm.Cond.code (⟨"com/example/consentry/consentry/timestamp/ElementEncodedPinLaw", "at", "([B[BII)Z"⟩ : MethodName) method_2_code 4 (some .boolean) :: ws) ({ frames := 0, cells := 0, slots := 0, locals := 0 } : Room)) (fun a U => a = #[(.ref a1), (.ref a2), (.int p3), (.int p4)] ∧ Z.Warmed39 U.vm ∧ U.heap = h0) (fun _ _ _ _ _ => True) (fun _ U o U' => ∃ v L, o = .returned v ∧ Q9 Z h0 n0 v U'.heap L ∧ FrameEnd U o U' L ({ frames := 0, cells := 0, slots := 0, locals := 0 } : Room).cells ({ frames := 0, cells := 0, slots := 0, locals := 0 } : Room).slots) := by
  refine MetFree.of_bodySF (plainFor_of_name pn_9) hisR ?_
  intro p e s m args below meth c s₁ Bd hml0 hP hK
  obtain ⟨rfl, hZ, hh⟩ := hP
  have hx := Bd.exec
  have hby := Bd.bytes
  have hml : c.maxLocals = 4 := hml0
  have hown : s.vm.findClass "com/example/consentry/consentry/timestamp/ElementEncodedPinLaw" = some m.cls := findClass_of_methodNamed Bd.named
  have hnm := (name_of_methodNamed Bd.named Bd.method).1
  have X0 : Stand p l e ({ frames := 0, cells := 0, slots := 0, locals := 0 } : Room) s m #[(.ref a1), (.ref a2), (.int p3), (.int p4)] below meth c s₁ [] 0 0 := Stand.of_body Bd
  have e0 : s₁.heap = h0 := by rw [← hh, Bd.state]; rfl
  have N0 := Fr.nil n0
  have pre0 : ∀ t, Steps p.tables e below (s₁.setTop (mkF m 0 #[.val (.ref a1), .val (.ref a2), .val (.int p3), .val (.int p4)] [])) t → Steps p.tables e below (s₁.setTop (entryFrame m #[(.ref a1), (.ref a2), (.int p3), (.int p4)] 4)) t := fun t k => castTop (ef_9 m a1 a2 p3 p4) k
  -- 3. LAWS

  obtain ⟨fs, hr, hrun, hended, hW, hsame⟩ := X0.leave (v := some (.int (1 : Int32))) (fun h => by rw [Bd.returns] at h; cases h)
  refine ⟨_, _, pre0 _ ?_, hrun, hended, _, _, rfl, ?_, ⟨_, rfl⟩, hW, hsame.mono (by decide) (by decide)⟩
  -- 4. STEPS
  · show Steps p.tables e below (s₁.setTop (mkF m 0 #[.val (.ref a1), .val (.ref a2), .val (.int p3), .val (.int p4)] [])) _
    refine XS.iloadN X0.here hx rfl (hb hby d9_0) rfl ?_
    show Steps p.tables e below (s₁.setTop (mkF m 1 #[.val (.ref a1), .val (.ref a2), .val (.int p3), .val (.int p4)] [(.int p4)])) _
    refine XS.aloadN X0.here hx rfl (hb hby d9_1) rfl rfl ?_
    show Steps p.tables e below (s₁.setTop (mkF m 2 #[.val (.ref a1), .val (.ref a2), .val (.int p3), .val (.int p4)] [(.ref a1), (.int p4)])) _
    refine X0.arraylength hx (by rw [e0]; exact Ar_a1.1) (State.isArrayOf_alike hZ.alike Ar_a1.2.1) (g := (mkF m 2 #[.val (.ref a1), .val (.ref a2), .val (.int p3), .val (.int p4)] [(.ref a1), (.int p4)])) rfl rfl (hb hby d9_2) _ ?_
    rw [len_of S_a1 N_a1]
    show Steps p.tables e below (s₁.setTop (mkF m 3 #[.val (.ref a1), .val (.ref a2), .val (.int p3), .val (.int p4)] [(.int z_a1), (.int p4)])) _
    refine XS.icmpYes X0.here hx rfl (pc0 := 3) (pc' := 17) rfl (hb hby d9_3) rfl (flt hc3).2.1 (by decide) (by decide) ?_
    show Steps p.tables e below (s₁.setTop (mkF m 17 #[.val (.ref a1), .val (.ref a2), .val (.int p3), .val (.int p4)] [])) _
    refine XS.iconst X0.here hx rfl (hb hby d9_17) ?_
    show Steps p.tables e below (s₁.setTop (mkF m 18 #[.val (.ref a1), .val (.ref a2), .val (.int p3), .val (.int p4)] [(.int (1 : Int32))])) _
    refine XS.goto X0.here hx rfl (pc0 := 18) (pc' := 22) rfl (hb hby d9_18) (by decide) (by decide) ?_
    show Steps p.tables e below (s₁.setTop (mkF m 22 #[.val (.ref a1), .val (.ref a2), .val (.int p3), .val (.int p4)] [(.int (1 : Int32))])) _
    exact retN X0 hx (t := .boolean) Bd.returns (by simp) (hb hby d9_22) hr
  · show Q9 Z h0 n0 _ s₁.heap _
    rw [e0]
    exact ⟨rfl, N0, rfl⟩
theorem d9_6 : decode method_2_code 6 = .ok (.aload_n 0, 1) := by decide +kernel
theorem d9_7 : decode method_2_code 7 = .ok (.iload_n 3, 1) := by decide +kernel
theorem d9_8 : decode method_2_code 8 = .ok (.baload, 1) := by decide +kernel
theorem d9_9 : decode method_2_code 9 = .ok (.aload_n 1, 1) := by decide +kernel
theorem d9_10 : decode method_2_code 10 = .ok (.iload_n 2, 1) := by decide +kernel
theorem d9_11 : decode method_2_code 11 = .ok (.iload_n 3, 1) := by decide +kernel
theorem d9_12 : decode method_2_code 12 = .ok (.iadd, 1) := by decide +kernel
theorem d9_13 : decode method_2_code 13 = .ok (.baload, 1) := by decide +kernel
theorem d9_14 : decode method_2_code 14 = .ok (.if_icmp .ne 7, 3) := by decide +kernel
set_option maxRecDepth 65536 in
set_option maxHeartbeats 40000000 in
theorem rm9f (l : Launch) (Z : State) (a0 : Array Value) (hw : ∀ d ∈ tables_1, d.before a0 Z = true) (ws : List Jvm.Cond) (a1 : Addr) (a2 : Addr) (p3 : Int32) (p4 : Int32) (cl_a1 : Cell) (z_a1 : Int32) (w5 : Int32) (w6 : Int32) (cl_a2 : Cell) (h0 : Heap) (n0 : Nat) (Z0 : n0 ≤ h0.size) (Ar_a1 : Arr Z h0 a1 cl_a1 .byte) (S_a1 : cl_a1.slots.size = z_a1.toNatClampNeg) (N_a1 : ¬ z_a1 < 0) (hin8 : ¬ (p4 < 0 ∨ cl_a1.slots.size ≤ (p4).toNatClampNeg)) (hat8 : cl_a1.slots[(p4).toNatClampNeg]? = some (.int w5)) (Ar_a2 : Arr Z h0 a2 cl_a2 .byte) (hin13 : ¬ ((p3 + p4) < 0 ∨ cl_a2.slots.size ≤ ((p3 + p4)).toNatClampNeg)) (hat13 : cl_a2.slots[((p3 + p4)).toNatClampNeg]? = some (.int w6)) (hc3 : p4 < z_a1) (hc14 : w5 = w6) :
    MetFree l (⟨"com/example/consentry/consentry/timestamp/ElementEncodedPinLaw", "at", "([B[BII)Z"⟩ : MethodName) (head1 (Jvm.Cond.code (⟨"com/example/consentry/consentry/timestamp/ElementEncodedPinLaw", "at", "([B[BII)Z"⟩ : MethodName) method_2_code 4 (some .boolean) :: ws) ({ frames := 0, cells := 0, slots := 0, locals := 0 } : Room)) (fun a U => a = #[(.ref a1), (.ref a2), (.int p3), (.int p4)] ∧ Z.Warmed39 U.vm ∧ U.heap = h0) (fun _ _ _ _ _ => True) (fun _ U o U' => ∃ v L, o = .returned v ∧ Q9 Z h0 n0 v U'.heap L ∧ FrameEnd U o U' L ({ frames := 0, cells := 0, slots := 0, locals := 0 } : Room).cells ({ frames := 0, cells := 0, slots := 0, locals := 0 } : Room).slots) := by
  refine MetFree.of_bodySF (plainFor_of_name pn_9) hisR ?_
  intro p e s m args below meth c s₁ Bd hml0 hP hK
  obtain ⟨rfl, hZ, hh⟩ := hP
  have hx := Bd.exec
  have hby := Bd.bytes
  have hml : c.maxLocals = 4 := hml0
  have hown : s.vm.findClass "com/example/consentry/consentry/timestamp/ElementEncodedPinLaw" = some m.cls := findClass_of_methodNamed Bd.named
  have hnm := (name_of_methodNamed Bd.named Bd.method).1
  have X0 : Stand p l e ({ frames := 0, cells := 0, slots := 0, locals := 0 } : Room) s m #[(.ref a1), (.ref a2), (.int p3), (.int p4)] below meth c s₁ [] 0 0 := Stand.of_body Bd
  have e0 : s₁.heap = h0 := by rw [← hh, Bd.state]; rfl
  have N0 := Fr.nil n0
  have pre0 : ∀ t, Steps p.tables e below (s₁.setTop (mkF m 0 #[.val (.ref a1), .val (.ref a2), .val (.int p3), .val (.int p4)] [])) t → Steps p.tables e below (s₁.setTop (entryFrame m #[(.ref a1), (.ref a2), (.int p3), (.int p4)] 4)) t := fun t k => castTop (ef_9 m a1 a2 p3 p4) k
  -- 3. LAWS

  obtain ⟨fs, hr, hrun, hended, hW, hsame⟩ := X0.leave (v := some (.int (1 : Int32))) (fun h => by rw [Bd.returns] at h; cases h)
  refine ⟨_, _, pre0 _ ?_, hrun, hended, _, _, rfl, ?_, ⟨_, rfl⟩, hW, hsame.mono (by decide) (by decide)⟩
  -- 4. STEPS
  · show Steps p.tables e below (s₁.setTop (mkF m 0 #[.val (.ref a1), .val (.ref a2), .val (.int p3), .val (.int p4)] [])) _
    refine XS.iloadN X0.here hx rfl (hb hby d9_0) rfl ?_
    show Steps p.tables e below (s₁.setTop (mkF m 1 #[.val (.ref a1), .val (.ref a2), .val (.int p3), .val (.int p4)] [(.int p4)])) _
    refine XS.aloadN X0.here hx rfl (hb hby d9_1) rfl rfl ?_
    show Steps p.tables e below (s₁.setTop (mkF m 2 #[.val (.ref a1), .val (.ref a2), .val (.int p3), .val (.int p4)] [(.ref a1), (.int p4)])) _
    refine X0.arraylength hx (by rw [e0]; exact Ar_a1.1) (State.isArrayOf_alike hZ.alike Ar_a1.2.1) (g := (mkF m 2 #[.val (.ref a1), .val (.ref a2), .val (.int p3), .val (.int p4)] [(.ref a1), (.int p4)])) rfl rfl (hb hby d9_2) _ ?_
    rw [len_of S_a1 N_a1]
    show Steps p.tables e below (s₁.setTop (mkF m 3 #[.val (.ref a1), .val (.ref a2), .val (.int p3), .val (.int p4)] [(.int z_a1), (.int p4)])) _
    refine XS.icmpNo X0.here hx rfl (hb hby d9_3) rfl (tlt hc3).2.1 ?_
    show Steps p.tables e below (s₁.setTop (mkF m 6 #[.val (.ref a1), .val (.ref a2), .val (.int p3), .val (.int p4)] [])) _
    refine XS.aloadN X0.here hx rfl (hb hby d9_6) rfl rfl ?_
    show Steps p.tables e below (s₁.setTop (mkF m 7 #[.val (.ref a1), .val (.ref a2), .val (.int p3), .val (.int p4)] [(.ref a1)])) _
    refine XS.iloadN X0.here hx rfl (hb hby d9_7) rfl ?_
    show Steps p.tables e below (s₁.setTop (mkF m 8 #[.val (.ref a1), .val (.ref a2), .val (.int p3), .val (.int p4)] [(.int p4), (.ref a1)])) _
    refine X0.baloadBytes hx (j := p4) (v := (.int w5)) (by rw [e0]; exact Ar_a1.1) (State.isArrayOf_alike hZ.alike Ar_a1.2.1) Ar_a1.2.2 hin8 hat8 (g := (mkF m 8 #[.val (.ref a1), .val (.ref a2), .val (.int p3), .val (.int p4)] [(.int p4), (.ref a1)])) rfl rfl (hb hby d9_8) _ ?_
    show Steps p.tables e below (s₁.setTop (mkF m 9 #[.val (.ref a1), .val (.ref a2), .val (.int p3), .val (.int p4)] [(.int w5)])) _
    refine XS.aloadN X0.here hx rfl (hb hby d9_9) rfl rfl ?_
    show Steps p.tables e below (s₁.setTop (mkF m 10 #[.val (.ref a1), .val (.ref a2), .val (.int p3), .val (.int p4)] [(.ref a2), (.int w5)])) _
    refine XS.iloadN X0.here hx rfl (hb hby d9_10) rfl ?_
    show Steps p.tables e below (s₁.setTop (mkF m 11 #[.val (.ref a1), .val (.ref a2), .val (.int p3), .val (.int p4)] [(.int p3), (.ref a2), (.int w5)])) _
    refine XS.iloadN X0.here hx rfl (hb hby d9_11) rfl ?_
    show Steps p.tables e below (s₁.setTop (mkF m 12 #[.val (.ref a1), .val (.ref a2), .val (.int p3), .val (.int p4)] [(.int p4), (.int p3), (.ref a2), (.int w5)])) _
    refine XS.iadd X0.here hx rfl (hb hby d9_12) rfl ?_
    show Steps p.tables e below (s₁.setTop (mkF m 13 #[.val (.ref a1), .val (.ref a2), .val (.int p3), .val (.int p4)] [(.int (p3 + p4)), (.ref a2), (.int w5)])) _
    refine X0.baloadBytes hx (j := (p3 + p4)) (v := (.int w6)) (by rw [e0]; exact Ar_a2.1) (State.isArrayOf_alike hZ.alike Ar_a2.2.1) Ar_a2.2.2 hin13 hat13 (g := (mkF m 13 #[.val (.ref a1), .val (.ref a2), .val (.int p3), .val (.int p4)] [(.int (p3 + p4)), (.ref a2), (.int w5)])) rfl rfl (hb hby d9_13) _ ?_
    show Steps p.tables e below (s₁.setTop (mkF m 14 #[.val (.ref a1), .val (.ref a2), .val (.int p3), .val (.int p4)] [(.int w6), (.int w5)])) _
    refine XS.icmpNo X0.here hx rfl (hb hby d9_14) rfl (teq hc14).2 ?_
    show Steps p.tables e below (s₁.setTop (mkF m 17 #[.val (.ref a1), .val (.ref a2), .val (.int p3), .val (.int p4)] [])) _
    refine XS.iconst X0.here hx rfl (hb hby d9_17) ?_
    show Steps p.tables e below (s₁.setTop (mkF m 18 #[.val (.ref a1), .val (.ref a2), .val (.int p3), .val (.int p4)] [(.int (1 : Int32))])) _
    refine XS.goto X0.here hx rfl (pc0 := 18) (pc' := 22) rfl (hb hby d9_18) (by decide) (by decide) ?_
    show Steps p.tables e below (s₁.setTop (mkF m 22 #[.val (.ref a1), .val (.ref a2), .val (.int p3), .val (.int p4)] [(.int (1 : Int32))])) _
    exact retN X0 hx (t := .boolean) Bd.returns (by simp) (hb hby d9_22) hr
  · show Q9 Z h0 n0 _ s₁.heap _
    rw [e0]
    exact ⟨rfl, N0, rfl⟩
theorem rm9 (l : Launch) (Z : State) (a0 : Array Value) (hw : ∀ d ∈ tables_1, d.before a0 Z = true) (ws : List Jvm.Cond) (a1 : Addr) (a2 : Addr) (p3 : Int32) (p4 : Int32) (cl_a1 : Cell) (z_a1 : Int32) (cl_a2 : Cell) (h0 : Heap) (n0 : Nat) (Z0 : n0 ≤ h0.size) (Ar_a1 : Arr Z h0 a1 cl_a1 .byte) (S_a1 : cl_a1.slots.size = z_a1.toNatClampNeg) (N_a1 : ¬ z_a1 < 0) (Ar_a2 : Arr Z h0 a2 cl_a2 .byte)
    (hk : p4 < z_a1 → ∃ w : Int32, ¬ (p4 < 0 ∨ cl_a1.slots.size ≤ (p4).toNatClampNeg) ∧ cl_a1.slots[(p4).toNatClampNeg]? = some (.int w) ∧ ¬ ((p3 + p4) < 0 ∨ cl_a2.slots.size ≤ ((p3 + p4)).toNatClampNeg) ∧ cl_a2.slots[((p3 + p4)).toNatClampNeg]? = some (.int w)) :
    MetFree l (⟨"com/example/consentry/consentry/timestamp/ElementEncodedPinLaw", "at", "([B[BII)Z"⟩ : MethodName) (head1 (Jvm.Cond.code (⟨"com/example/consentry/consentry/timestamp/ElementEncodedPinLaw", "at", "([B[BII)Z"⟩ : MethodName) method_2_code 4 (some .boolean) :: ws) ({ frames := 0, cells := 0, slots := 0, locals := 0 } : Room)) (fun a U => a = #[(.ref a1), (.ref a2), (.int p3), (.int p4)] ∧ Z.Warmed39 U.vm ∧ U.heap = h0) (fun _ _ _ _ _ => True) (fun _ U o U' => ∃ v L, o = .returned v ∧ Q9 Z h0 n0 v U'.heap L ∧ FrameEnd U o U' L ({ frames := 0, cells := 0, slots := 0, locals := 0 } : Room).cells ({ frames := 0, cells := 0, slots := 0, locals := 0 } : Room).slots)  := by
  by_cases hc : p4 < z_a1
  · obtain ⟨w, q1, q2, q3, q4⟩ := hk hc
    exact rm9f l Z a0 hw ws a1 a2 p3 p4 cl_a1 z_a1 w w cl_a2 h0 n0 Z0 Ar_a1 S_a1 N_a1 q1 q2 Ar_a2 q3 q4 hc rfl
  · exact rm9t l Z a0 hw ws a1 a2 p3 p4 cl_a1 z_a1 h0 n0 Z0 Ar_a1 S_a1 N_a1 hc
theorem d10_0 : decode method_3_code 0 = .ok (.aload_n 0, 1) := by decide +kernel
theorem d10_1 : decode method_3_code 1 = .ok (.iconst 0, 1) := by decide +kernel
theorem d10_2 : decode method_3_code 2 = .ok (.baload, 1) := by decide +kernel
theorem d10_3 : decode method_3_code 3 = .ok (.iload_n 1, 1) := by decide +kernel
theorem d10_4 : decode method_3_code 4 = .ok (.i2b, 1) := by decide +kernel
theorem d10_5 : decode method_3_code 5 = .ok (.if_icmp .ne 40, 3) := by decide +kernel
theorem d10_8 : decode method_3_code 8 = .ok (.aload_n 0, 1) := by decide +kernel
theorem d10_9 : decode method_3_code 9 = .ok (.iconst 1, 1) := by decide +kernel
theorem d10_10 : decode method_3_code 10 = .ok (.baload, 1) := by decide +kernel
theorem d10_11 : decode method_3_code 11 = .ok (.iload_n 1, 1) := by decide +kernel
theorem d10_12 : decode method_3_code 12 = .ok (.bipush 8, 2) := by decide +kernel
theorem d10_14 : decode method_3_code 14 = .ok (.iushr, 1) := by decide +kernel
theorem d10_15 : decode method_3_code 15 = .ok (.i2b, 1) := by decide +kernel
theorem d10_16 : decode method_3_code 16 = .ok (.if_icmp .ne 29, 3) := by decide +kernel
theorem d10_19 : decode method_3_code 19 = .ok (.aload_n 0, 1) := by decide +kernel
theorem d10_20 : decode method_3_code 20 = .ok (.iconst 2, 1) := by decide +kernel
theorem d10_21 : decode method_3_code 21 = .ok (.baload, 1) := by decide +kernel
theorem d10_22 : decode method_3_code 22 = .ok (.iload_n 1, 1) := by decide +kernel
theorem d10_23 : decode method_3_code 23 = .ok (.bipush 16, 2) := by decide +kernel
theorem d10_25 : decode method_3_code 25 = .ok (.iushr, 1) := by decide +kernel
theorem d10_26 : decode method_3_code 26 = .ok (.i2b, 1) := by decide +kernel
theorem d10_27 : decode method_3_code 27 = .ok (.if_icmp .ne 18, 3) := by decide +kernel
theorem d10_30 : decode method_3_code 30 = .ok (.aload_n 0, 1) := by decide +kernel
theorem d10_31 : decode method_3_code 31 = .ok (.iconst 3, 1) := by decide +kernel
theorem d10_32 : decode method_3_code 32 = .ok (.baload, 1) := by decide +kernel
theorem d10_33 : decode method_3_code 33 = .ok (.iload_n 1, 1) := by decide +kernel
theorem d10_34 : decode method_3_code 34 = .ok (.bipush 24, 2) := by decide +kernel
theorem d10_36 : decode method_3_code 36 = .ok (.iushr, 1) := by decide +kernel
theorem d10_37 : decode method_3_code 37 = .ok (.i2b, 1) := by decide +kernel
theorem d10_38 : decode method_3_code 38 = .ok (.if_icmp .ne 7, 3) := by decide +kernel
theorem d10_41 : decode method_3_code 41 = .ok (.iconst 1, 1) := by decide +kernel
theorem d10_42 : decode method_3_code 42 = .ok (.goto 4, 3) := by decide +kernel
theorem d10_46 : decode method_3_code 46 = .ok (.ireturn, 1) := by decide +kernel
theorem pn_10 : plainName "com/example/consentry/consentry/timestamp/ElementEncodedPinLaw" = true := by first | (simp [plainName, overriddenIn]; done) | decide +kernel
theorem ef_10 (m : MethodId) (x0 : Addr) (x1 : Int32) : entryFrame m #[(.ref x0), (.int x1)] 2 = mkF m 0 #[.val (.ref x0), .val (.int x1)] [] := by first | (simp [entryFrame, mkF, argsToLocals, Value.category]; done) | rfl
def Q10 (Z : State) (h0 : Heap) (n0 : Nat) (v : Option Value) (h : Heap) (L : List Loc) : Prop := v = some (.int (1 : Int32)) ∧ Fr n0 L ∧ h = h0
set_option maxRecDepth 65536 in
set_option maxHeartbeats 40000000 in
theorem rm10w (l : Launch) (Z : State) (a0 : Array Value) (hw : ∀ d ∈ tables_1, d.before a0 Z = true) (ws : List Jvm.Cond) (a1 : Addr) (p2 : Int32) (w3 : Int32) (cl_a1 : Cell) (w4 : Int32) (w5 : Int32) (w6 : Int32) (h0 : Heap) (n0 : Nat) (Z0 : n0 ≤ h0.size) (Ar_a1 : Arr Z h0 a1 cl_a1 .byte) (hin2 : ¬ ((0 : Int32) < 0 ∨ cl_a1.slots.size ≤ ((0 : Int32)).toNatClampNeg)) (hat2 : cl_a1.slots[((0 : Int32)).toNatClampNeg]? = some (.int w3)) (hin10 : ¬ ((1 : Int32) < 0 ∨ cl_a1.slots.size ≤ ((1 : Int32)).toNatClampNeg)) (hat10 : cl_a1.slots[((1 : Int32)).toNatClampNeg]? = some (.int w4)) (hin21 : ¬ ((2 : Int32) < 0 ∨ cl_a1.slots.size ≤ ((2 : Int32)).toNatClampNeg)) (hat21 : cl_a1.slots[((2 : Int32)).toNatClampNeg]? = some (.int w5)) (hin32 : ¬ ((3 : Int32) < 0 ∨ cl_a1.slots.size ≤ ((3 : Int32)).toNatClampNeg)) (hat32 : cl_a1.slots[((3 : Int32)).toNatClampNeg]? = some (.int w6)) (hc5 : w3 = (p2.toInt8.toInt32)) (hc16 : w4 = (((p2.toUInt32 >>> ((8 : Int32) &&& 31).toUInt32).toInt32).toInt8.toInt32)) (hc27 : w5 = (((p2.toUInt32 >>> ((16 : Int32) &&& 31).toUInt32).toInt32).toInt8.toInt32)) (hc38 : w6 = (((p2.toUInt32 >>> ((24 : Int32) &&& 31).toUInt32).toInt32).toInt8.toInt32)) :
    MetFree l (⟨"com/example/consentry/consentry/timestamp/ElementEncodedPinLaw", "untouched", "([BI)Z"⟩ : MethodName) (head1 (Jvm.Cond.code (⟨"com/example/consentry/consentry/timestamp/ElementEncodedPinLaw", "untouched", "([BI)Z"⟩ : MethodName) method_3_code 2 (some .boolean) :: ws) ({ frames := 0, cells := 0, slots := 0, locals := 0 } : Room)) (fun a U => a = #[(.ref a1), (.int p2)] ∧ Z.Warmed39 U.vm ∧ U.heap = h0) (fun _ _ _ _ _ => True) (fun _ U o U' => ∃ v L, o = .returned v ∧ Q10 Z h0 n0 v U'.heap L ∧ FrameEnd U o U' L ({ frames := 0, cells := 0, slots := 0, locals := 0 } : Room).cells ({ frames := 0, cells := 0, slots := 0, locals := 0 } : Room).slots) := by
  refine MetFree.of_bodySF (plainFor_of_name pn_10) hisR ?_
  intro p e s m args below meth c s₁ Bd hml0 hP hK
  obtain ⟨rfl, hZ, hh⟩ := hP
  have hx := Bd.exec
  have hby := Bd.bytes
  have hml : c.maxLocals = 2 := hml0
  have hown : s.vm.findClass "com/example/consentry/consentry/timestamp/ElementEncodedPinLaw" = some m.cls := findClass_of_methodNamed Bd.named
  have hnm := (name_of_methodNamed Bd.named Bd.method).1
  have X0 : Stand p l e ({ frames := 0, cells := 0, slots := 0, locals := 0 } : Room) s m #[(.ref a1), (.int p2)] below meth c s₁ [] 0 0 := Stand.of_body Bd
  have e0 : s₁.heap = h0 := by rw [← hh, Bd.state]; rfl
  have N0 := Fr.nil n0
  have pre0 : ∀ t, Steps p.tables e below (s₁.setTop (mkF m 0 #[.val (.ref a1), .val (.int p2)] [])) t → Steps p.tables e below (s₁.setTop (entryFrame m #[(.ref a1), (.int p2)] 2)) t := fun t k => castTop (ef_10 m a1 p2) k
  -- 3. LAWS

  obtain ⟨fs, hr, hrun, hended, hW, hsame⟩ := X0.leave (v := some (.int (1 : Int32))) (fun h => by rw [Bd.returns] at h; cases h)
  refine ⟨_, _, pre0 _ ?_, hrun, hended, _, _, rfl, ?_, ⟨_, rfl⟩, hW, hsame.mono (by decide) (by decide)⟩
  -- 4. STEPS
  · show Steps p.tables e below (s₁.setTop (mkF m 0 #[.val (.ref a1), .val (.int p2)] [])) _
    refine XS.aloadN X0.here hx rfl (hb hby d10_0) rfl rfl ?_
    show Steps p.tables e below (s₁.setTop (mkF m 1 #[.val (.ref a1), .val (.int p2)] [(.ref a1)])) _
    refine XS.iconst X0.here hx rfl (hb hby d10_1) ?_
    show Steps p.tables e below (s₁.setTop (mkF m 2 #[.val (.ref a1), .val (.int p2)] [(.int (0 : Int32)), (.ref a1)])) _
    refine X0.baloadBytes hx (j := (0 : Int32)) (v := (.int w3)) (by rw [e0]; exact Ar_a1.1) (State.isArrayOf_alike hZ.alike Ar_a1.2.1) Ar_a1.2.2 hin2 hat2 (g := (mkF m 2 #[.val (.ref a1), .val (.int p2)] [(.int (0 : Int32)), (.ref a1)])) rfl rfl (hb hby d10_2) _ ?_
    show Steps p.tables e below (s₁.setTop (mkF m 3 #[.val (.ref a1), .val (.int p2)] [(.int w3)])) _
    refine XS.iloadN X0.here hx rfl (hb hby d10_3) rfl ?_
    show Steps p.tables e below (s₁.setTop (mkF m 4 #[.val (.ref a1), .val (.int p2)] [(.int p2), (.int w3)])) _
    refine XS.i2b X0.here hx rfl (hb hby d10_4) rfl ?_
    show Steps p.tables e below (s₁.setTop (mkF m 5 #[.val (.ref a1), .val (.int p2)] [(.int (p2.toInt8.toInt32)), (.int w3)])) _
    refine XS.icmpNo X0.here hx rfl (hb hby d10_5) rfl (teq hc5).2 ?_
    show Steps p.tables e below (s₁.setTop (mkF m 8 #[.val (.ref a1), .val (.int p2)] [])) _
    refine XS.aloadN X0.here hx rfl (hb hby d10_8) rfl rfl ?_
    show Steps p.tables e below (s₁.setTop (mkF m 9 #[.val (.ref a1), .val (.int p2)] [(.ref a1)])) _
    refine XS.iconst X0.here hx rfl (hb hby d10_9) ?_
    show Steps p.tables e below (s₁.setTop (mkF m 10 #[.val (.ref a1), .val (.int p2)] [(.int (1 : Int32)), (.ref a1)])) _
    refine X0.baloadBytes hx (j := (1 : Int32)) (v := (.int w4)) (by rw [e0]; exact Ar_a1.1) (State.isArrayOf_alike hZ.alike Ar_a1.2.1) Ar_a1.2.2 hin10 hat10 (g := (mkF m 10 #[.val (.ref a1), .val (.int p2)] [(.int (1 : Int32)), (.ref a1)])) rfl rfl (hb hby d10_10) _ ?_
    show Steps p.tables e below (s₁.setTop (mkF m 11 #[.val (.ref a1), .val (.int p2)] [(.int w4)])) _
    refine XS.iloadN X0.here hx rfl (hb hby d10_11) rfl ?_
    show Steps p.tables e below (s₁.setTop (mkF m 12 #[.val (.ref a1), .val (.int p2)] [(.int p2), (.int w4)])) _
    refine XS.bipush X0.here hx rfl (hb hby d10_12) ?_
    show Steps p.tables e below (s₁.setTop (mkF m 14 #[.val (.ref a1), .val (.int p2)] [(.int (8 : Int32)), (.int p2), (.int w4)])) _
    refine XS.iushr X0.here hx rfl (hb hby d10_14) rfl ?_
    show Steps p.tables e below (s₁.setTop (mkF m 15 #[.val (.ref a1), .val (.int p2)] [(.int ((p2.toUInt32 >>> ((8 : Int32) &&& 31).toUInt32).toInt32)), (.int w4)])) _
    refine XS.i2b X0.here hx rfl (hb hby d10_15) rfl ?_
    show Steps p.tables e below (s₁.setTop (mkF m 16 #[.val (.ref a1), .val (.int p2)] [(.int (((p2.toUInt32 >>> ((8 : Int32) &&& 31).toUInt32).toInt32).toInt8.toInt32)), (.int w4)])) _
    refine XS.icmpNo X0.here hx rfl (hb hby d10_16) rfl (teq hc16).2 ?_
    show Steps p.tables e below (s₁.setTop (mkF m 19 #[.val (.ref a1), .val (.int p2)] [])) _
    refine XS.aloadN X0.here hx rfl (hb hby d10_19) rfl rfl ?_
    show Steps p.tables e below (s₁.setTop (mkF m 20 #[.val (.ref a1), .val (.int p2)] [(.ref a1)])) _
    refine XS.iconst X0.here hx rfl (hb hby d10_20) ?_
    show Steps p.tables e below (s₁.setTop (mkF m 21 #[.val (.ref a1), .val (.int p2)] [(.int (2 : Int32)), (.ref a1)])) _
    refine X0.baloadBytes hx (j := (2 : Int32)) (v := (.int w5)) (by rw [e0]; exact Ar_a1.1) (State.isArrayOf_alike hZ.alike Ar_a1.2.1) Ar_a1.2.2 hin21 hat21 (g := (mkF m 21 #[.val (.ref a1), .val (.int p2)] [(.int (2 : Int32)), (.ref a1)])) rfl rfl (hb hby d10_21) _ ?_
    show Steps p.tables e below (s₁.setTop (mkF m 22 #[.val (.ref a1), .val (.int p2)] [(.int w5)])) _
    refine XS.iloadN X0.here hx rfl (hb hby d10_22) rfl ?_
    show Steps p.tables e below (s₁.setTop (mkF m 23 #[.val (.ref a1), .val (.int p2)] [(.int p2), (.int w5)])) _
    refine XS.bipush X0.here hx rfl (hb hby d10_23) ?_
    show Steps p.tables e below (s₁.setTop (mkF m 25 #[.val (.ref a1), .val (.int p2)] [(.int (16 : Int32)), (.int p2), (.int w5)])) _
    refine XS.iushr X0.here hx rfl (hb hby d10_25) rfl ?_
    show Steps p.tables e below (s₁.setTop (mkF m 26 #[.val (.ref a1), .val (.int p2)] [(.int ((p2.toUInt32 >>> ((16 : Int32) &&& 31).toUInt32).toInt32)), (.int w5)])) _
    refine XS.i2b X0.here hx rfl (hb hby d10_26) rfl ?_
    show Steps p.tables e below (s₁.setTop (mkF m 27 #[.val (.ref a1), .val (.int p2)] [(.int (((p2.toUInt32 >>> ((16 : Int32) &&& 31).toUInt32).toInt32).toInt8.toInt32)), (.int w5)])) _
    refine XS.icmpNo X0.here hx rfl (hb hby d10_27) rfl (teq hc27).2 ?_
    show Steps p.tables e below (s₁.setTop (mkF m 30 #[.val (.ref a1), .val (.int p2)] [])) _
    refine XS.aloadN X0.here hx rfl (hb hby d10_30) rfl rfl ?_
    show Steps p.tables e below (s₁.setTop (mkF m 31 #[.val (.ref a1), .val (.int p2)] [(.ref a1)])) _
    refine XS.iconst X0.here hx rfl (hb hby d10_31) ?_
    show Steps p.tables e below (s₁.setTop (mkF m 32 #[.val (.ref a1), .val (.int p2)] [(.int (3 : Int32)), (.ref a1)])) _
    refine X0.baloadBytes hx (j := (3 : Int32)) (v := (.int w6)) (by rw [e0]; exact Ar_a1.1) (State.isArrayOf_alike hZ.alike Ar_a1.2.1) Ar_a1.2.2 hin32 hat32 (g := (mkF m 32 #[.val (.ref a1), .val (.int p2)] [(.int (3 : Int32)), (.ref a1)])) rfl rfl (hb hby d10_32) _ ?_
    show Steps p.tables e below (s₁.setTop (mkF m 33 #[.val (.ref a1), .val (.int p2)] [(.int w6)])) _
    refine XS.iloadN X0.here hx rfl (hb hby d10_33) rfl ?_
    show Steps p.tables e below (s₁.setTop (mkF m 34 #[.val (.ref a1), .val (.int p2)] [(.int p2), (.int w6)])) _
    refine XS.bipush X0.here hx rfl (hb hby d10_34) ?_
    show Steps p.tables e below (s₁.setTop (mkF m 36 #[.val (.ref a1), .val (.int p2)] [(.int (24 : Int32)), (.int p2), (.int w6)])) _
    refine XS.iushr X0.here hx rfl (hb hby d10_36) rfl ?_
    show Steps p.tables e below (s₁.setTop (mkF m 37 #[.val (.ref a1), .val (.int p2)] [(.int ((p2.toUInt32 >>> ((24 : Int32) &&& 31).toUInt32).toInt32)), (.int w6)])) _
    refine XS.i2b X0.here hx rfl (hb hby d10_37) rfl ?_
    show Steps p.tables e below (s₁.setTop (mkF m 38 #[.val (.ref a1), .val (.int p2)] [(.int (((p2.toUInt32 >>> ((24 : Int32) &&& 31).toUInt32).toInt32).toInt8.toInt32)), (.int w6)])) _
    refine XS.icmpNo X0.here hx rfl (hb hby d10_38) rfl (teq hc38).2 ?_
    show Steps p.tables e below (s₁.setTop (mkF m 41 #[.val (.ref a1), .val (.int p2)] [])) _
    refine XS.iconst X0.here hx rfl (hb hby d10_41) ?_
    show Steps p.tables e below (s₁.setTop (mkF m 42 #[.val (.ref a1), .val (.int p2)] [(.int (1 : Int32))])) _
    refine XS.goto X0.here hx rfl (pc0 := 42) (pc' := 46) rfl (hb hby d10_42) (by decide) (by decide) ?_
    show Steps p.tables e below (s₁.setTop (mkF m 46 #[.val (.ref a1), .val (.int p2)] [(.int (1 : Int32))])) _
    exact retN X0 hx (t := .boolean) Bd.returns (by simp) (hb hby d10_46) hr
  · show Q10 Z h0 n0 _ s₁.heap _
    rw [e0]
    exact ⟨rfl, N0, rfl⟩
theorem rm10 (l : Launch) (Z : State) (a0 : Array Value) (hw : ∀ d ∈ tables_1, d.before a0 Z = true) (ws : List Jvm.Cond) (a1 : Addr) (p2 : Int32) (A : Cell) (h0 : Heap) (n0 : Nat) (Z0 : n0 ≤ h0.size) (S : own_src Z h0 a1 A p2) :
    MetFree l (⟨"com/example/consentry/consentry/timestamp/ElementEncodedPinLaw", "untouched", "([BI)Z"⟩ : MethodName) (head1 (Jvm.Cond.code (⟨"com/example/consentry/consentry/timestamp/ElementEncodedPinLaw", "untouched", "([BI)Z"⟩ : MethodName) method_3_code 2 (some .boolean) :: ws) ({ frames := 0, cells := 0, slots := 0, locals := 0 } : Room)) (fun a U => a = #[(.ref a1), (.int p2)] ∧ Z.Warmed39 U.vm ∧ U.heap = h0) (fun _ _ _ _ _ => True) (fun _ U o U' => ∃ v L, o = .returned v ∧ Q10 Z h0 n0 v U'.heap L ∧ FrameEnd U o U' L ({ frames := 0, cells := 0, slots := 0, locals := 0 } : Room).cells ({ frames := 0, cells := 0, slots := 0, locals := 0 } : Room).slots)  :=
  rm10w l Z a0 hw ws a1 p2 (own_sv p2 0) A (own_sv p2 1) (own_sv p2 2) (own_sv p2 3) h0 n0 Z0 S.1 (own_in (n := 0) (by decide) (by rw [S.2.2.1]; decide)) (S.2.2.2 0 (by decide)) (own_in (n := 1) (by decide) (by rw [S.2.2.1]; decide)) (S.2.2.2 1 (by decide)) (own_in (n := 2) (by decide) (by rw [S.2.2.1]; decide)) (S.2.2.2 2 (by decide)) (own_in (n := 3) (by decide) (by rw [S.2.2.1]; decide)) (S.2.2.2 3 (by decide)) rfl rfl rfl rfl
set_option maxRecDepth 65536 in
set_option maxHeartbeats 40000000 in
theorem sgA {p : Program} {l : Launch} {e : Env} {s : State} {m : MethodId} {args : Array Value} {below : List Frame} {meth : Method} {c : Code} {T0 : State} {locs : List Loc} {Z : State} {a0 : Array Value} {h0 : Heap} (i0 : Int32) (i1 : Int32) (i2 : Int32) (i3 : Int32) (i4 : Int32)
    (X0 : Stand p l e room_1 s m args below meth c T0 locs 0 0) (hx : p.tables.exec = Jvm.exec) (hZ : Z.Warmed39 s.vm) (hw : ∀ d ∈ tables_1, d.before a0 Z = true) (hby : c.code = code) (hml : c.maxLocals = 13) (hown : s.vm.findClass "com/example/consentry/consentry/timestamp/ElementEncodedPinLaw" = some m.cls) (e0 : T0.heap = h0) (n0 : Nat) (Z0 : n0 ≤ h0.size) (N0 : Fr n0 locs) :
    ∃ (T' : State) (h' : Heap) (locs' : List Loc) (b6 : Addr) (A : Cell), Stand p l e room_1 s m args below meth c T' locs' 1 4 ∧ T'.heap = h' ∧ (n0 ≤ h'.size ∧ Fr n0 locs' ∧ n0 ≤ b6 ∧ own_src Z h' b6 A i0) ∧
      ∀ target, Steps p.tables e below (T'.setTop (mkF m 38 #[.val (.int i0), .val (.int i1), .val (.int i2), .val (.int i3), .val (.int i4), .val (.ref b6), .unset, .unset, .unset, .unset, .unset, .unset, .unset] [])) target → Steps p.tables e below (T0.setTop (mkF m 0 #[.val (.int i0), .val (.int i1), .val (.int i2), .val (.int i3), .val (.int i4), .unset, .unset, .unset, .unset, .unset, .unset, .unset, .unset] [])) target := by
  -- 3. LAWS
  obtain ⟨T6, h6, k6, X6, e6, E6, V6, C6, st6⟩ := own_newB X0 hx hZ (hw _ (List.mem_of_getElem? (i := 0) rfl)) e0 (g := (mkF m 1 #[.val (.int i0), .val (.int i1), .val (.int i2), .val (.int i3), .val (.int i4), .unset, .unset, .unset, .unset, .unset, .unset, .unset, .unset] [(.int (4 : Int32))])) rfl (hb hby at_1) rfl (by decide) (by decide)
  obtain ⟨b6, g6⟩ : ∃ z, z = h0.size := ⟨_, rfl⟩      -- the fresh array's address
  rw [← g6] at V6 st6
  have V_b6 : Arv Z h6 b6 k6 .byte (4 : Int32) [(.int (0 : Int32)), (.int (0 : Int32)), (.int (0 : Int32)), (.int (0 : Int32))] (.int (0 : Int32)) := V6
  have g_b6 : n0 ≤ b6 := Nat.le_trans Z0 (Nat.le_of_eq g6.symm)
  have sz_b6 : h0.size ≤ b6 := (Nat.le_trans (Keep.refl h0 []).1 (Nat.le_of_eq g6.symm))
  have K6 : Keep h0 h6 [] := (Keep.refl h0 []).ext E6
  obtain ⟨cl_b6_10, Ar_b6, q_b6, S_b6, N_b6, H_b6, G_b6⟩ := V_b6      -- open the array's fact as it stands now (its cell, kind, length, elements)
  have hin10 : ¬ ((0 : Int32) < 0 ∨ cl_b6_10.slots.size ≤ ((0 : Int32)).toNatClampNeg) := inb_of S_b6 ⟨by decide, by decide⟩
  obtain ⟨T7, h7, X7, e7, W7, st7⟩ := stB X6 hx hZ e6 Ar_b6 (j := (0 : Int32)) hin10 (g := (mkF m 10 #[.val (.int i0), .val (.int i1), .val (.int i2), .val (.int i3), .val (.int i4), .val (.ref b6), .unset, .unset, .unset, .unset, .unset, .unset, .unset] [(.int (i0.toInt8.toInt32)), (.int (0 : Int32)), (.ref b6)])) rfl rfl (hb hby at_10)
  have V_b6_7 := Arv.set Ar_b6 q_b6 S_b6 N_b6 H_b6 G_b6 (fits_nar_byte _) W7 0 rfl (Nat.le_of_ble_eq_true rfl)      -- the array as it stands now (the place must lie among its first values: Arv.pad with pad_rep lengthens them)
  have K7 : Keep h0 h7 [] := K6.wr W7 (Or.inr sz_b6)
  have N7 := Fr.snoc X7 N0 g_b6
  obtain ⟨cl_b6_19, Ar_b6, q_b6, S_b6, N_b6, H_b6, G_b6⟩ := V_b6_7      -- open the array's fact as it stands now (its cell, kind, length, elements)
  have hin19 : ¬ ((1 : Int32) < 0 ∨ cl_b6_19.slots.size ≤ ((1 : Int32)).toNatClampNeg) := inb_of S_b6 ⟨by decide, by decide⟩
  obtain ⟨T8, h8, X8, e8, W8, st8⟩ := stB X7 hx hZ e7 Ar_b6 (j := (1 : Int32)) hin19 (g := (mkF m 19 #[.val (.int i0), .val (.int i1), .val (.int i2), .val (.int i3), .val (.int i4), .val (.ref b6), .unset, .unset, .unset, .unset, .unset, .unset, .unset] [(.int (((i0.toUInt32 >>> ((8 : Int32) &&& 31).toUInt32).toInt32).toInt8.toInt32)), (.int (1 : Int32)), (.ref b6)])) rfl rfl (hb hby at_19)
  have V_b6_8 := Arv.set Ar_b6 q_b6 S_b6 N_b6 H_b6 G_b6 (fits_nar_byte _) W8 1 rfl (Nat.le_of_ble_eq_true rfl)      -- the array as it stands now (the place must lie among its first values: Arv.pad with pad_rep lengthens them)
  have K8 : Keep h0 h8 [] := K7.wr W8 (Or.inr sz_b6)
  have N8 := Fr.snoc X8 N7 g_b6
  obtain ⟨cl_b6_28, Ar_b6, q_b6, S_b6, N_b6, H_b6, G_b6⟩ := V_b6_8      -- open the array's fact as it stands now (its cell, kind, length, elements)
  have hin28 : ¬ ((2 : Int32) < 0 ∨ cl_b6_28.slots.size ≤ ((2 : Int32)).toNatClampNeg) := inb_of S_b6 ⟨by decide, by decide⟩
  obtain ⟨T9, h9, X9, e9, W9, st9⟩ := stB X8 hx hZ e8 Ar_b6 (j := (2 : Int32)) hin28 (g := (mkF m 28 #[.val (.int i0), .val (.int i1), .val (.int i2), .val (.int i3), .val (.int i4), .val (.ref b6), .unset, .unset, .unset, .unset, .unset, .unset, .unset] [(.int (((i0.toUInt32 >>> ((16 : Int32) &&& 31).toUInt32).toInt32).toInt8.toInt32)), (.int (2 : Int32)), (.ref b6)])) rfl rfl (hb hby at_28)
  have V_b6_9 := Arv.set Ar_b6 q_b6 S_b6 N_b6 H_b6 G_b6 (fits_nar_byte _) W9 2 rfl (Nat.le_of_ble_eq_true rfl)      -- the array as it stands now (the place must lie among its first values: Arv.pad with pad_rep lengthens them)
  have K9 : Keep h0 h9 [] := K8.wr W9 (Or.inr sz_b6)
  have N9 := Fr.snoc X9 N8 g_b6
  obtain ⟨cl_b6_37, Ar_b6, q_b6, S_b6, N_b6, H_b6, G_b6⟩ := V_b6_9      -- open the array's fact as it stands now (its cell, kind, length, elements)
  have hin37 : ¬ ((3 : Int32) < 0 ∨ cl_b6_37.slots.size ≤ ((3 : Int32)).toNatClampNeg) := inb_of S_b6 ⟨by decide, by decide⟩
  obtain ⟨T10, h10, X10, e10, W10, st10⟩ := stB X9 hx hZ e9 Ar_b6 (j := (3 : Int32)) hin37 (g := (mkF m 37 #[.val (.int i0), .val (.int i1), .val (.int i2), .val (.int i3), .val (.int i4), .val (.ref b6), .unset, .unset, .unset, .unset, .unset, .unset, .unset] [(.int (((i0.toUInt32 >>> ((24 : Int32) &&& 31).toUInt32).toInt32).toInt8.toInt32)), (.int (3 : Int32)), (.ref b6)])) rfl rfl (hb hby at_37)
  have V_b6_10 := Arv.set Ar_b6 q_b6 S_b6 N_b6 H_b6 G_b6 (fits_nar_byte _) W10 3 rfl (Nat.le_of_ble_eq_true rfl)      -- the array as it stands now (the place must lie among its first values: Arv.pad with pad_rep lengthens them)
  have K10 : Keep h0 h10 [] := K9.wr W10 (Or.inr sz_b6)
  have N10 := Fr.snoc X10 N9 g_b6
  obtain ⟨cA, ArA, qA, SA, -, HA, -⟩ := V_b6_10
  have sA : cA.slots.size = 4 := SA
  have oA : own_src Z h10 b6 cA i0 := ⟨ArA, by rw [qA]; exact C6, sA, fun j hj => by
    have q := HA j (by rw [sA]; exact hj)
    match j, hj with
    | 0, _ => exact q.trans (congrArg (fun z => some (Value.int z)) (own_nar i0))
    | 1, _ => exact q.trans (congrArg (fun z => some (Value.int z)) (own_nar ((i0.toUInt32 >>> ((8 : Int32) &&& 31).toUInt32).toInt32)))
    | 2, _ => exact q.trans (congrArg (fun z => some (Value.int z)) (own_nar ((i0.toUInt32 >>> ((16 : Int32) &&& 31).toUInt32).toInt32)))
    | 3, _ => exact q.trans (congrArg (fun z => some (Value.int z)) (own_nar ((i0.toUInt32 >>> ((24 : Int32) &&& 31).toUInt32).toInt32)))⟩
  refine ⟨T10, _, _, b6, cA, X10, e10, ⟨Nat.le_trans Z0 K10.1, N10, g_b6, oA⟩, fun target kt => ?_⟩
  -- 4. STEPS
  show Steps p.tables e below (T0.setTop (mkF m 0 #[.val (.int i0), .val (.int i1), .val (.int i2), .val (.int i3), .val (.int i4), .unset, .unset, .unset, .unset, .unset, .unset, .unset, .unset] [])) _
  refine XS.iconst X0.here hx rfl (hb hby at_0) ?_
  show Steps p.tables e below (T0.setTop (mkF m 1 #[.val (.int i0), .val (.int i1), .val (.int i2), .val (.int i3), .val (.int i4), .unset, .unset, .unset, .unset, .unset, .unset, .unset, .unset] [(.int (4 : Int32))])) _
  refine st6 _ ?_
  show Steps p.tables e below (T6.setTop (mkF m 3 #[.val (.int i0), .val (.int i1), .val (.int i2), .val (.int i3), .val (.int i4), .unset, .unset, .unset, .unset, .unset, .unset, .unset, .unset] [(.ref b6)])) _
  refine XS.astore X6.here hx rfl (hb hby at_3) rfl rfl (l' := #[.val (.int i0), .val (.int i1), .val (.int i2), .val (.int i3), .val (.int i4), .val (.ref b6), .unset, .unset, .unset, .unset, .unset, .unset, .unset]) rfl ?_
  show Steps p.tables e below (T6.setTop (mkF m 5 #[.val (.int i0), .val (.int i1), .val (.int i2), .val (.int i3), .val (.int i4), .val (.ref b6), .unset, .unset, .unset, .unset, .unset, .unset, .unset] [])) _
  refine XS.aload X6.here hx rfl (hb hby at_5) rfl rfl ?_
  show Steps p.tables e below (T6.setTop (mkF m 7 #[.val (.int i0), .val (.int i1), .val (.int i2), .val (.int i3), .val (.int i4), .val (.ref b6), .unset, .unset, .unset, .unset, .unset, .unset, .unset] [(.ref b6)])) _
  refine XS.iconst X6.here hx rfl (hb hby at_7) ?_
  show Steps p.tables e below (T6.setTop (mkF m 8 #[.val (.int i0), .val (.int i1), .val (.int i2), .val (.int i3), .val (.int i4), .val (.ref b6), .unset, .unset, .unset, .unset, .unset, .unset, .unset] [(.int (0 : Int32)), (.ref b6)])) _
  refine XS.iloadN X6.here hx rfl (hb hby at_8) rfl ?_
  show Steps p.tables e below (T6.setTop (mkF m 9 #[.val (.int i0), .val (.int i1), .val (.int i2), .val (.int i3), .val (.int i4), .val (.ref b6), .unset, .unset, .unset, .unset, .unset, .unset, .unset] [(.int i0), (.int (0 : Int32)), (.ref b6)])) _
  refine XS.i2b X6.here hx rfl (hb hby at_9) rfl ?_
  show Steps p.tables e below (T6.setTop (mkF m 10 #[.val (.int i0), .val (.int i1), .val (.int i2), .val (.int i3), .val (.int i4), .val (.ref b6), .unset, .unset, .unset, .unset, .unset, .unset, .unset] [(.int (i0.toInt8.toInt32)), (.int (0 : Int32)), (.ref b6)])) _
  refine st7 _ ?_
  show Steps p.tables e below (T7.setTop (mkF m 11 #[.val (.int i0), .val (.int i1), .val (.int i2), .val (.int i3), .val (.int i4), .val (.ref b6), .unset, .unset, .unset, .unset, .unset, .unset, .unset] [])) _
  refine XS.aload X7.here hx rfl (hb hby at_11) rfl rfl ?_
  show Steps p.tables e below (T7.setTop (mkF m 13 #[.val (.int i0), .val (.int i1), .val (.int i2), .val (.int i3), .val (.int i4), .val (.ref b6), .unset, .unset, .unset, .unset, .unset, .unset, .unset] [(.ref b6)])) _
  refine XS.iconst X7.here hx rfl (hb hby at_13) ?_
  show Steps p.tables e below (T7.setTop (mkF m 14 #[.val (.int i0), .val (.int i1), .val (.int i2), .val (.int i3), .val (.int i4), .val (.ref b6), .unset, .unset, .unset, .unset, .unset, .unset, .unset] [(.int (1 : Int32)), (.ref b6)])) _
  refine XS.iloadN X7.here hx rfl (hb hby at_14) rfl ?_
  show Steps p.tables e below (T7.setTop (mkF m 15 #[.val (.int i0), .val (.int i1), .val (.int i2), .val (.int i3), .val (.int i4), .val (.ref b6), .unset, .unset, .unset, .unset, .unset, .unset, .unset] [(.int i0), (.int (1 : Int32)), (.ref b6)])) _
  refine XS.bipush X7.here hx rfl (hb hby at_15) ?_
  show Steps p.tables e below (T7.setTop (mkF m 17 #[.val (.int i0), .val (.int i1), .val (.int i2), .val (.int i3), .val (.int i4), .val (.ref b6), .unset, .unset, .unset, .unset, .unset, .unset, .unset] [(.int (8 : Int32)), (.int i0), (.int (1 : Int32)), (.ref b6)])) _
  refine XS.iushr X7.here hx rfl (hb hby at_17) rfl ?_
  show Steps p.tables e below (T7.setTop (mkF m 18 #[.val (.int i0), .val (.int i1), .val (.int i2), .val (.int i3), .val (.int i4), .val (.ref b6), .unset, .unset, .unset, .unset, .unset, .unset, .unset] [(.int ((i0.toUInt32 >>> ((8 : Int32) &&& 31).toUInt32).toInt32)), (.int (1 : Int32)), (.ref b6)])) _
  refine XS.i2b X7.here hx rfl (hb hby at_18) rfl ?_
  show Steps p.tables e below (T7.setTop (mkF m 19 #[.val (.int i0), .val (.int i1), .val (.int i2), .val (.int i3), .val (.int i4), .val (.ref b6), .unset, .unset, .unset, .unset, .unset, .unset, .unset] [(.int (((i0.toUInt32 >>> ((8 : Int32) &&& 31).toUInt32).toInt32).toInt8.toInt32)), (.int (1 : Int32)), (.ref b6)])) _
  refine st8 _ ?_
  show Steps p.tables e below (T8.setTop (mkF m 20 #[.val (.int i0), .val (.int i1), .val (.int i2), .val (.int i3), .val (.int i4), .val (.ref b6), .unset, .unset, .unset, .unset, .unset, .unset, .unset] [])) _
  refine XS.aload X8.here hx rfl (hb hby at_20) rfl rfl ?_
  show Steps p.tables e below (T8.setTop (mkF m 22 #[.val (.int i0), .val (.int i1), .val (.int i2), .val (.int i3), .val (.int i4), .val (.ref b6), .unset, .unset, .unset, .unset, .unset, .unset, .unset] [(.ref b6)])) _
  refine XS.iconst X8.here hx rfl (hb hby at_22) ?_
  show Steps p.tables e below (T8.setTop (mkF m 23 #[.val (.int i0), .val (.int i1), .val (.int i2), .val (.int i3), .val (.int i4), .val (.ref b6), .unset, .unset, .unset, .unset, .unset, .unset, .unset] [(.int (2 : Int32)), (.ref b6)])) _
  refine XS.iloadN X8.here hx rfl (hb hby at_23) rfl ?_
  show Steps p.tables e below (T8.setTop (mkF m 24 #[.val (.int i0), .val (.int i1), .val (.int i2), .val (.int i3), .val (.int i4), .val (.ref b6), .unset, .unset, .unset, .unset, .unset, .unset, .unset] [(.int i0), (.int (2 : Int32)), (.ref b6)])) _
  refine XS.bipush X8.here hx rfl (hb hby at_24) ?_
  show Steps p.tables e below (T8.setTop (mkF m 26 #[.val (.int i0), .val (.int i1), .val (.int i2), .val (.int i3), .val (.int i4), .val (.ref b6), .unset, .unset, .unset, .unset, .unset, .unset, .unset] [(.int (16 : Int32)), (.int i0), (.int (2 : Int32)), (.ref b6)])) _
  refine XS.iushr X8.here hx rfl (hb hby at_26) rfl ?_
  show Steps p.tables e below (T8.setTop (mkF m 27 #[.val (.int i0), .val (.int i1), .val (.int i2), .val (.int i3), .val (.int i4), .val (.ref b6), .unset, .unset, .unset, .unset, .unset, .unset, .unset] [(.int ((i0.toUInt32 >>> ((16 : Int32) &&& 31).toUInt32).toInt32)), (.int (2 : Int32)), (.ref b6)])) _
  refine XS.i2b X8.here hx rfl (hb hby at_27) rfl ?_
  show Steps p.tables e below (T8.setTop (mkF m 28 #[.val (.int i0), .val (.int i1), .val (.int i2), .val (.int i3), .val (.int i4), .val (.ref b6), .unset, .unset, .unset, .unset, .unset, .unset, .unset] [(.int (((i0.toUInt32 >>> ((16 : Int32) &&& 31).toUInt32).toInt32).toInt8.toInt32)), (.int (2 : Int32)), (.ref b6)])) _
  refine st9 _ ?_
  show Steps p.tables e below (T9.setTop (mkF m 29 #[.val (.int i0), .val (.int i1), .val (.int i2), .val (.int i3), .val (.int i4), .val (.ref b6), .unset, .unset, .unset, .unset, .unset, .unset, .unset] [])) _
  refine XS.aload X9.here hx rfl (hb hby at_29) rfl rfl ?_
  show Steps p.tables e below (T9.setTop (mkF m 31 #[.val (.int i0), .val (.int i1), .val (.int i2), .val (.int i3), .val (.int i4), .val (.ref b6), .unset, .unset, .unset, .unset, .unset, .unset, .unset] [(.ref b6)])) _
  refine XS.iconst X9.here hx rfl (hb hby at_31) ?_
  show Steps p.tables e below (T9.setTop (mkF m 32 #[.val (.int i0), .val (.int i1), .val (.int i2), .val (.int i3), .val (.int i4), .val (.ref b6), .unset, .unset, .unset, .unset, .unset, .unset, .unset] [(.int (3 : Int32)), (.ref b6)])) _
  refine XS.iloadN X9.here hx rfl (hb hby at_32) rfl ?_
  show Steps p.tables e below (T9.setTop (mkF m 33 #[.val (.int i0), .val (.int i1), .val (.int i2), .val (.int i3), .val (.int i4), .val (.ref b6), .unset, .unset, .unset, .unset, .unset, .unset, .unset] [(.int i0), (.int (3 : Int32)), (.ref b6)])) _
  refine XS.bipush X9.here hx rfl (hb hby at_33) ?_
  show Steps p.tables e below (T9.setTop (mkF m 35 #[.val (.int i0), .val (.int i1), .val (.int i2), .val (.int i3), .val (.int i4), .val (.ref b6), .unset, .unset, .unset, .unset, .unset, .unset, .unset] [(.int (24 : Int32)), (.int i0), (.int (3 : Int32)), (.ref b6)])) _
  refine XS.iushr X9.here hx rfl (hb hby at_35) rfl ?_
  show Steps p.tables e below (T9.setTop (mkF m 36 #[.val (.int i0), .val (.int i1), .val (.int i2), .val (.int i3), .val (.int i4), .val (.ref b6), .unset, .unset, .unset, .unset, .unset, .unset, .unset] [(.int ((i0.toUInt32 >>> ((24 : Int32) &&& 31).toUInt32).toInt32)), (.int (3 : Int32)), (.ref b6)])) _
  refine XS.i2b X9.here hx rfl (hb hby at_36) rfl ?_
  show Steps p.tables e below (T9.setTop (mkF m 37 #[.val (.int i0), .val (.int i1), .val (.int i2), .val (.int i3), .val (.int i4), .val (.ref b6), .unset, .unset, .unset, .unset, .unset, .unset, .unset] [(.int (((i0.toUInt32 >>> ((24 : Int32) &&& 31).toUInt32).toInt32).toInt8.toInt32)), (.int (3 : Int32)), (.ref b6)])) _
  refine st10 _ ?_
  exact kt
set_option maxRecDepth 65536 in
set_option maxHeartbeats 40000000 in
theorem sgB {p : Program} {l : Launch} {e : Env} {s : State} {m : MethodId} {args : Array Value} {below : List Frame} {meth : Method} {c : Code} {T0 : State} {locs : List Loc} {Z : State} {a0 : Array Value} {h0 : Heap} (i0 : Int32) (i1 : Int32) (i2 : Int32) (i3 : Int32) (i4 : Int32) (o5 : Addr)
    (X0 : Stand p l e room_1 s m args below meth c T0 locs 1 4) (hx : p.tables.exec = Jvm.exec) (hZ : Z.Warmed39 s.vm) (hw : ∀ d ∈ tables_1, d.before a0 Z = true) (hby : c.code = code) (hml : c.maxLocals = 13) (hown : s.vm.findClass "com/example/consentry/consentry/timestamp/ElementEncodedPinLaw" = some m.cls) (e0 : T0.heap = h0) (n0 : Nat) (Z0 : n0 ≤ h0.size) (N0 : Fr n0 locs) (hnz43 : ¬ ((5 : Int32) = (0 : Int32))) (hnz57 : ¬ (((5 : Int32) - ((i2 &&& (2147483647 : Int32)) % (5 : Int32))) = (0 : Int32))) (hnz74 : ¬ ((((((i2 &&& (2147483647 : Int32)) % (5 : Int32)) + ((i4 &&& (2147483647 : Int32)) % ((5 : Int32) - ((i2 &&& (2147483647 : Int32)) % (5 : Int32))))) - ((i2 &&& (2147483647 : Int32)) % (5 : Int32))) + (1 : Int32)) = (0 : Int32))) :
    ∃ (T' : State), Stand p l e room_1 s m args below meth c T' locs 1 4 ∧ T'.heap = h0 ∧
      ∀ target, Steps p.tables e below (T'.setTop (mkF m 78 #[.val (.int i0), .val (.int i1), .val (.int i2), .val (.int i3), .val (.int i4), .val (.ref o5), .val (.int ((i2 &&& (2147483647 : Int32)) % (5 : Int32))), .val (.int (((i2 &&& (2147483647 : Int32)) % (5 : Int32)) + ((i4 &&& (2147483647 : Int32)) % ((5 : Int32) - ((i2 &&& (2147483647 : Int32)) % (5 : Int32)))))), .val (.int (((i2 &&& (2147483647 : Int32)) % (5 : Int32)) + ((i3 &&& (2147483647 : Int32)) % (((((i2 &&& (2147483647 : Int32)) % (5 : Int32)) + ((i4 &&& (2147483647 : Int32)) % ((5 : Int32) - ((i2 &&& (2147483647 : Int32)) % (5 : Int32))))) - ((i2 &&& (2147483647 : Int32)) % (5 : Int32))) + (1 : Int32))))), .unset, .unset, .unset, .unset] [])) target → Steps p.tables e below (T0.setTop (mkF m 38 #[.val (.int i0), .val (.int i1), .val (.int i2), .val (.int i3), .val (.int i4), .val (.ref o5), .unset, .unset, .unset, .unset, .unset, .unset, .unset] [])) target := by
  -- 3. LAWS

  refine ⟨T0, X0, e0, fun target kt => ?_⟩
  -- 4. STEPS
  show Steps p.tables e below (T0.setTop (mkF m 38 #[.val (.int i0), .val (.int i1), .val (.int i2), .val (.int i3), .val (.int i4), .val (.ref o5), .unset, .unset, .unset, .unset, .unset, .unset, .unset] [])) _
  refine XS.iloadN X0.here hx rfl (hb hby at_38) rfl ?_
  show Steps p.tables e below (T0.setTop (mkF m 39 #[.val (.int i0), .val (.int i1), .val (.int i2), .val (.int i3), .val (.int i4), .val (.ref o5), .unset, .unset, .unset, .unset, .unset, .unset, .unset] [(.int i2)])) _
  refine X0.ldcInt hx hown (mvT hZ (hw _ (List.mem_of_getElem? (i := 1) rfl))) (g := (mkF m 39 #[.val (.int i0), .val (.int i1), .val (.int i2), .val (.int i3), .val (.int i4), .val (.ref o5), .unset, .unset, .unset, .unset, .unset, .unset, .unset] [(.int i2)])) rfl (hb hby at_39) _ ?_
  show Steps p.tables e below (T0.setTop (mkF m 41 #[.val (.int i0), .val (.int i1), .val (.int i2), .val (.int i3), .val (.int i4), .val (.ref o5), .unset, .unset, .unset, .unset, .unset, .unset, .unset] [(.int (2147483647 : Int32)), (.int i2)])) _
  refine XS.iand X0.here hx rfl (hb hby at_41) rfl ?_
  show Steps p.tables e below (T0.setTop (mkF m 42 #[.val (.int i0), .val (.int i1), .val (.int i2), .val (.int i3), .val (.int i4), .val (.ref o5), .unset, .unset, .unset, .unset, .unset, .unset, .unset] [(.int (i2 &&& (2147483647 : Int32)))])) _
  refine XS.iconst X0.here hx rfl (hb hby at_42) ?_
  show Steps p.tables e below (T0.setTop (mkF m 43 #[.val (.int i0), .val (.int i1), .val (.int i2), .val (.int i3), .val (.int i4), .val (.ref o5), .unset, .unset, .unset, .unset, .unset, .unset, .unset] [(.int (5 : Int32)), (.int (i2 &&& (2147483647 : Int32)))])) _
  refine iremM X0 hx rfl (hb hby at_43) rfl hnz43 ?_
  show Steps p.tables e below (T0.setTop (mkF m 44 #[.val (.int i0), .val (.int i1), .val (.int i2), .val (.int i3), .val (.int i4), .val (.ref o5), .unset, .unset, .unset, .unset, .unset, .unset, .unset] [(.int ((i2 &&& (2147483647 : Int32)) % (5 : Int32)))])) _
  refine XS.istore X0.here hx rfl (hb hby at_44) rfl (l' := #[.val (.int i0), .val (.int i1), .val (.int i2), .val (.int i3), .val (.int i4), .val (.ref o5), .val (.int ((i2 &&& (2147483647 : Int32)) % (5 : Int32))), .unset, .unset, .unset, .unset, .unset, .unset]) rfl ?_
  show Steps p.tables e below (T0.setTop (mkF m 46 #[.val (.int i0), .val (.int i1), .val (.int i2), .val (.int i3), .val (.int i4), .val (.ref o5), .val (.int ((i2 &&& (2147483647 : Int32)) % (5 : Int32))), .unset, .unset, .unset, .unset, .unset, .unset] [])) _
  refine XS.iload X0.here hx rfl (hb hby at_46) rfl ?_
  show Steps p.tables e below (T0.setTop (mkF m 48 #[.val (.int i0), .val (.int i1), .val (.int i2), .val (.int i3), .val (.int i4), .val (.ref o5), .val (.int ((i2 &&& (2147483647 : Int32)) % (5 : Int32))), .unset, .unset, .unset, .unset, .unset, .unset] [(.int ((i2 &&& (2147483647 : Int32)) % (5 : Int32)))])) _
  refine XS.iload X0.here hx rfl (hb hby at_48) rfl ?_
  show Steps p.tables e below (T0.setTop (mkF m 50 #[.val (.int i0), .val (.int i1), .val (.int i2), .val (.int i3), .val (.int i4), .val (.ref o5), .val (.int ((i2 &&& (2147483647 : Int32)) % (5 : Int32))), .unset, .unset, .unset, .unset, .unset, .unset] [(.int i4), (.int ((i2 &&& (2147483647 : Int32)) % (5 : Int32)))])) _
  refine X0.ldcInt hx hown (mvT hZ (hw _ (List.mem_of_getElem? (i := 1) rfl))) (g := (mkF m 50 #[.val (.int i0), .val (.int i1), .val (.int i2), .val (.int i3), .val (.int i4), .val (.ref o5), .val (.int ((i2 &&& (2147483647 : Int32)) % (5 : Int32))), .unset, .unset, .unset, .unset, .unset, .unset] [(.int i4), (.int ((i2 &&& (2147483647 : Int32)) % (5 : Int32)))])) rfl (hb hby at_50) _ ?_
  show Steps p.tables e below (T0.setTop (mkF m 52 #[.val (.int i0), .val (.int i1), .val (.int i2), .val (.int i3), .val (.int i4), .val (.ref o5), .val (.int ((i2 &&& (2147483647 : Int32)) % (5 : Int32))), .unset, .unset, .unset, .unset, .unset, .unset] [(.int (2147483647 : Int32)), (.int i4), (.int ((i2 &&& (2147483647 : Int32)) % (5 : Int32)))])) _
  refine XS.iand X0.here hx rfl (hb hby at_52) rfl ?_
  show Steps p.tables e below (T0.setTop (mkF m 53 #[.val (.int i0), .val (.int i1), .val (.int i2), .val (.int i3), .val (.int i4), .val (.ref o5), .val (.int ((i2 &&& (2147483647 : Int32)) % (5 : Int32))), .unset, .unset, .unset, .unset, .unset, .unset] [(.int (i4 &&& (2147483647 : Int32))), (.int ((i2 &&& (2147483647 : Int32)) % (5 : Int32)))])) _
  refine XS.iconst X0.here hx rfl (hb hby at_53) ?_
  show Steps p.tables e below (T0.setTop (mkF m 54 #[.val (.int i0), .val (.int i1), .val (.int i2), .val (.int i3), .val (.int i4), .val (.ref o5), .val (.int ((i2 &&& (2147483647 : Int32)) % (5 : Int32))), .unset, .unset, .unset, .unset, .unset, .unset] [(.int (5 : Int32)), (.int (i4 &&& (2147483647 : Int32))), (.int ((i2 &&& (2147483647 : Int32)) % (5 : Int32)))])) _
  refine XS.iload X0.here hx rfl (hb hby at_54) rfl ?_
  show Steps p.tables e below (T0.setTop (mkF m 56 #[.val (.int i0), .val (.int i1), .val (.int i2), .val (.int i3), .val (.int i4), .val (.ref o5), .val (.int ((i2 &&& (2147483647 : Int32)) % (5 : Int32))), .unset, .unset, .unset, .unset, .unset, .unset] [(.int ((i2 &&& (2147483647 : Int32)) % (5 : Int32))), (.int (5 : Int32)), (.int (i4 &&& (2147483647 : Int32))), (.int ((i2 &&& (2147483647 : Int32)) % (5 : Int32)))])) _
  refine XS.isub X0.here hx rfl (hb hby at_56) rfl ?_
  show Steps p.tables e below (T0.setTop (mkF m 57 #[.val (.int i0), .val (.int i1), .val (.int i2), .val (.int i3), .val (.int i4), .val (.ref o5), .val (.int ((i2 &&& (2147483647 : Int32)) % (5 : Int32))), .unset, .unset, .unset, .unset, .unset, .unset] [(.int ((5 : Int32) - ((i2 &&& (2147483647 : Int32)) % (5 : Int32)))), (.int (i4 &&& (2147483647 : Int32))), (.int ((i2 &&& (2147483647 : Int32)) % (5 : Int32)))])) _
  refine iremM X0 hx rfl (hb hby at_57) rfl hnz57 ?_
  show Steps p.tables e below (T0.setTop (mkF m 58 #[.val (.int i0), .val (.int i1), .val (.int i2), .val (.int i3), .val (.int i4), .val (.ref o5), .val (.int ((i2 &&& (2147483647 : Int32)) % (5 : Int32))), .unset, .unset, .unset, .unset, .unset, .unset] [(.int ((i4 &&& (2147483647 : Int32)) % ((5 : Int32) - ((i2 &&& (2147483647 : Int32)) % (5 : Int32))))), (.int ((i2 &&& (2147483647 : Int32)) % (5 : Int32)))])) _
  refine XS.iadd X0.here hx rfl (hb hby at_58) rfl ?_
  show Steps p.tables e below (T0.setTop (mkF m 59 #[.val (.int i0), .val (.int i1), .val (.int i2), .val (.int i3), .val (.int i4), .val (.ref o5), .val (.int ((i2 &&& (2147483647 : Int32)) % (5 : Int32))), .unset, .unset, .unset, .unset, .unset, .unset] [(.int (((i2 &&& (2147483647 : Int32)) % (5 : Int32)) + ((i4 &&& (2147483647 : Int32)) % ((5 : Int32) - ((i2 &&& (2147483647 : Int32)) % (5 : Int32))))))])) _
  refine XS.istore X0.here hx rfl (hb hby at_59) rfl (l' := #[.val (.int i0), .val (.int i1), .val (.int i2), .val (.int i3), .val (.int i4), .val (.ref o5), .val (.int ((i2 &&& (2147483647 : Int32)) % (5 : Int32))), .val (.int (((i2 &&& (2147483647 : Int32)) % (5 : Int32)) + ((i4 &&& (2147483647 : Int32)) % ((5 : Int32) - ((i2 &&& (2147483647 : Int32)) % (5 : Int32)))))), .unset, .unset, .unset, .unset, .unset]) rfl ?_
  show Steps p.tables e below (T0.setTop (mkF m 61 #[.val (.int i0), .val (.int i1), .val (.int i2), .val (.int i3), .val (.int i4), .val (.ref o5), .val (.int ((i2 &&& (2147483647 : Int32)) % (5 : Int32))), .val (.int (((i2 &&& (2147483647 : Int32)) % (5 : Int32)) + ((i4 &&& (2147483647 : Int32)) % ((5 : Int32) - ((i2 &&& (2147483647 : Int32)) % (5 : Int32)))))), .unset, .unset, .unset, .unset, .unset] [])) _
  refine XS.iload X0.here hx rfl (hb hby at_61) rfl ?_
  show Steps p.tables e below (T0.setTop (mkF m 63 #[.val (.int i0), .val (.int i1), .val (.int i2), .val (.int i3), .val (.int i4), .val (.ref o5), .val (.int ((i2 &&& (2147483647 : Int32)) % (5 : Int32))), .val (.int (((i2 &&& (2147483647 : Int32)) % (5 : Int32)) + ((i4 &&& (2147483647 : Int32)) % ((5 : Int32) - ((i2 &&& (2147483647 : Int32)) % (5 : Int32)))))), .unset, .unset, .unset, .unset, .unset] [(.int ((i2 &&& (2147483647 : Int32)) % (5 : Int32)))])) _
  refine XS.iloadN X0.here hx rfl (hb hby at_63) rfl ?_
  show Steps p.tables e below (T0.setTop (mkF m 64 #[.val (.int i0), .val (.int i1), .val (.int i2), .val (.int i3), .val (.int i4), .val (.ref o5), .val (.int ((i2 &&& (2147483647 : Int32)) % (5 : Int32))), .val (.int (((i2 &&& (2147483647 : Int32)) % (5 : Int32)) + ((i4 &&& (2147483647 : Int32)) % ((5 : Int32) - ((i2 &&& (2147483647 : Int32)) % (5 : Int32)))))), .unset, .unset, .unset, .unset, .unset] [(.int i3), (.int ((i2 &&& (2147483647 : Int32)) % (5 : Int32)))])) _
  refine X0.ldcInt hx hown (mvT hZ (hw _ (List.mem_of_getElem? (i := 1) rfl))) (g := (mkF m 64 #[.val (.int i0), .val (.int i1), .val (.int i2), .val (.int i3), .val (.int i4), .val (.ref o5), .val (.int ((i2 &&& (2147483647 : Int32)) % (5 : Int32))), .val (.int (((i2 &&& (2147483647 : Int32)) % (5 : Int32)) + ((i4 &&& (2147483647 : Int32)) % ((5 : Int32) - ((i2 &&& (2147483647 : Int32)) % (5 : Int32)))))), .unset, .unset, .unset, .unset, .unset] [(.int i3), (.int ((i2 &&& (2147483647 : Int32)) % (5 : Int32)))])) rfl (hb hby at_64) _ ?_
  show Steps p.tables e below (T0.setTop (mkF m 66 #[.val (.int i0), .val (.int i1), .val (.int i2), .val (.int i3), .val (.int i4), .val (.ref o5), .val (.int ((i2 &&& (2147483647 : Int32)) % (5 : Int32))), .val (.int (((i2 &&& (2147483647 : Int32)) % (5 : Int32)) + ((i4 &&& (2147483647 : Int32)) % ((5 : Int32) - ((i2 &&& (2147483647 : Int32)) % (5 : Int32)))))), .unset, .unset, .unset, .unset, .unset] [(.int (2147483647 : Int32)), (.int i3), (.int ((i2 &&& (2147483647 : Int32)) % (5 : Int32)))])) _
  refine XS.iand X0.here hx rfl (hb hby at_66) rfl ?_
  show Steps p.tables e below (T0.setTop (mkF m 67 #[.val (.int i0), .val (.int i1), .val (.int i2), .val (.int i3), .val (.int i4), .val (.ref o5), .val (.int ((i2 &&& (2147483647 : Int32)) % (5 : Int32))), .val (.int (((i2 &&& (2147483647 : Int32)) % (5 : Int32)) + ((i4 &&& (2147483647 : Int32)) % ((5 : Int32) - ((i2 &&& (2147483647 : Int32)) % (5 : Int32)))))), .unset, .unset, .unset, .unset, .unset] [(.int (i3 &&& (2147483647 : Int32))), (.int ((i2 &&& (2147483647 : Int32)) % (5 : Int32)))])) _
  refine XS.iload X0.here hx rfl (hb hby at_67) rfl ?_
  show Steps p.tables e below (T0.setTop (mkF m 69 #[.val (.int i0), .val (.int i1), .val (.int i2), .val (.int i3), .val (.int i4), .val (.ref o5), .val (.int ((i2 &&& (2147483647 : Int32)) % (5 : Int32))), .val (.int (((i2 &&& (2147483647 : Int32)) % (5 : Int32)) + ((i4 &&& (2147483647 : Int32)) % ((5 : Int32) - ((i2 &&& (2147483647 : Int32)) % (5 : Int32)))))), .unset, .unset, .unset, .unset, .unset] [(.int (((i2 &&& (2147483647 : Int32)) % (5 : Int32)) + ((i4 &&& (2147483647 : Int32)) % ((5 : Int32) - ((i2 &&& (2147483647 : Int32)) % (5 : Int32)))))), (.int (i3 &&& (2147483647 : Int32))), (.int ((i2 &&& (2147483647 : Int32)) % (5 : Int32)))])) _
  refine XS.iload X0.here hx rfl (hb hby at_69) rfl ?_
  show Steps p.tables e below (T0.setTop (mkF m 71 #[.val (.int i0), .val (.int i1), .val (.int i2), .val (.int i3), .val (.int i4), .val (.ref o5), .val (.int ((i2 &&& (2147483647 : Int32)) % (5 : Int32))), .val (.int (((i2 &&& (2147483647 : Int32)) % (5 : Int32)) + ((i4 &&& (2147483647 : Int32)) % ((5 : Int32) - ((i2 &&& (2147483647 : Int32)) % (5 : Int32)))))), .unset, .unset, .unset, .unset, .unset] [(.int ((i2 &&& (2147483647 : Int32)) % (5 : Int32))), (.int (((i2 &&& (2147483647 : Int32)) % (5 : Int32)) + ((i4 &&& (2147483647 : Int32)) % ((5 : Int32) - ((i2 &&& (2147483647 : Int32)) % (5 : Int32)))))), (.int (i3 &&& (2147483647 : Int32))), (.int ((i2 &&& (2147483647 : Int32)) % (5 : Int32)))])) _
  refine XS.isub X0.here hx rfl (hb hby at_71) rfl ?_
  show Steps p.tables e below (T0.setTop (mkF m 72 #[.val (.int i0), .val (.int i1), .val (.int i2), .val (.int i3), .val (.int i4), .val (.ref o5), .val (.int ((i2 &&& (2147483647 : Int32)) % (5 : Int32))), .val (.int (((i2 &&& (2147483647 : Int32)) % (5 : Int32)) + ((i4 &&& (2147483647 : Int32)) % ((5 : Int32) - ((i2 &&& (2147483647 : Int32)) % (5 : Int32)))))), .unset, .unset, .unset, .unset, .unset] [(.int ((((i2 &&& (2147483647 : Int32)) % (5 : Int32)) + ((i4 &&& (2147483647 : Int32)) % ((5 : Int32) - ((i2 &&& (2147483647 : Int32)) % (5 : Int32))))) - ((i2 &&& (2147483647 : Int32)) % (5 : Int32)))), (.int (i3 &&& (2147483647 : Int32))), (.int ((i2 &&& (2147483647 : Int32)) % (5 : Int32)))])) _
  refine XS.iconst X0.here hx rfl (hb hby at_72) ?_
  show Steps p.tables e below (T0.setTop (mkF m 73 #[.val (.int i0), .val (.int i1), .val (.int i2), .val (.int i3), .val (.int i4), .val (.ref o5), .val (.int ((i2 &&& (2147483647 : Int32)) % (5 : Int32))), .val (.int (((i2 &&& (2147483647 : Int32)) % (5 : Int32)) + ((i4 &&& (2147483647 : Int32)) % ((5 : Int32) - ((i2 &&& (2147483647 : Int32)) % (5 : Int32)))))), .unset, .unset, .unset, .unset, .unset] [(.int (1 : Int32)), (.int ((((i2 &&& (2147483647 : Int32)) % (5 : Int32)) + ((i4 &&& (2147483647 : Int32)) % ((5 : Int32) - ((i2 &&& (2147483647 : Int32)) % (5 : Int32))))) - ((i2 &&& (2147483647 : Int32)) % (5 : Int32)))), (.int (i3 &&& (2147483647 : Int32))), (.int ((i2 &&& (2147483647 : Int32)) % (5 : Int32)))])) _
  refine XS.iadd X0.here hx rfl (hb hby at_73) rfl ?_
  show Steps p.tables e below (T0.setTop (mkF m 74 #[.val (.int i0), .val (.int i1), .val (.int i2), .val (.int i3), .val (.int i4), .val (.ref o5), .val (.int ((i2 &&& (2147483647 : Int32)) % (5 : Int32))), .val (.int (((i2 &&& (2147483647 : Int32)) % (5 : Int32)) + ((i4 &&& (2147483647 : Int32)) % ((5 : Int32) - ((i2 &&& (2147483647 : Int32)) % (5 : Int32)))))), .unset, .unset, .unset, .unset, .unset] [(.int (((((i2 &&& (2147483647 : Int32)) % (5 : Int32)) + ((i4 &&& (2147483647 : Int32)) % ((5 : Int32) - ((i2 &&& (2147483647 : Int32)) % (5 : Int32))))) - ((i2 &&& (2147483647 : Int32)) % (5 : Int32))) + (1 : Int32))), (.int (i3 &&& (2147483647 : Int32))), (.int ((i2 &&& (2147483647 : Int32)) % (5 : Int32)))])) _
  refine iremM X0 hx rfl (hb hby at_74) rfl hnz74 ?_
  show Steps p.tables e below (T0.setTop (mkF m 75 #[.val (.int i0), .val (.int i1), .val (.int i2), .val (.int i3), .val (.int i4), .val (.ref o5), .val (.int ((i2 &&& (2147483647 : Int32)) % (5 : Int32))), .val (.int (((i2 &&& (2147483647 : Int32)) % (5 : Int32)) + ((i4 &&& (2147483647 : Int32)) % ((5 : Int32) - ((i2 &&& (2147483647 : Int32)) % (5 : Int32)))))), .unset, .unset, .unset, .unset, .unset] [(.int ((i3 &&& (2147483647 : Int32)) % (((((i2 &&& (2147483647 : Int32)) % (5 : Int32)) + ((i4 &&& (2147483647 : Int32)) % ((5 : Int32) - ((i2 &&& (2147483647 : Int32)) % (5 : Int32))))) - ((i2 &&& (2147483647 : Int32)) % (5 : Int32))) + (1 : Int32)))), (.int ((i2 &&& (2147483647 : Int32)) % (5 : Int32)))])) _
  refine XS.iadd X0.here hx rfl (hb hby at_75) rfl ?_
  show Steps p.tables e below (T0.setTop (mkF m 76 #[.val (.int i0), .val (.int i1), .val (.int i2), .val (.int i3), .val (.int i4), .val (.ref o5), .val (.int ((i2 &&& (2147483647 : Int32)) % (5 : Int32))), .val (.int (((i2 &&& (2147483647 : Int32)) % (5 : Int32)) + ((i4 &&& (2147483647 : Int32)) % ((5 : Int32) - ((i2 &&& (2147483647 : Int32)) % (5 : Int32)))))), .unset, .unset, .unset, .unset, .unset] [(.int (((i2 &&& (2147483647 : Int32)) % (5 : Int32)) + ((i3 &&& (2147483647 : Int32)) % (((((i2 &&& (2147483647 : Int32)) % (5 : Int32)) + ((i4 &&& (2147483647 : Int32)) % ((5 : Int32) - ((i2 &&& (2147483647 : Int32)) % (5 : Int32))))) - ((i2 &&& (2147483647 : Int32)) % (5 : Int32))) + (1 : Int32)))))])) _
  refine XS.istore X0.here hx rfl (hb hby at_76) rfl (l' := #[.val (.int i0), .val (.int i1), .val (.int i2), .val (.int i3), .val (.int i4), .val (.ref o5), .val (.int ((i2 &&& (2147483647 : Int32)) % (5 : Int32))), .val (.int (((i2 &&& (2147483647 : Int32)) % (5 : Int32)) + ((i4 &&& (2147483647 : Int32)) % ((5 : Int32) - ((i2 &&& (2147483647 : Int32)) % (5 : Int32)))))), .val (.int (((i2 &&& (2147483647 : Int32)) % (5 : Int32)) + ((i3 &&& (2147483647 : Int32)) % (((((i2 &&& (2147483647 : Int32)) % (5 : Int32)) + ((i4 &&& (2147483647 : Int32)) % ((5 : Int32) - ((i2 &&& (2147483647 : Int32)) % (5 : Int32))))) - ((i2 &&& (2147483647 : Int32)) % (5 : Int32))) + (1 : Int32))))), .unset, .unset, .unset, .unset]) rfl ?_
  exact kt
theorem pd_0_0 : parseMethodDescriptor "([BIIII)V" = some ⟨[(.array .byte), .int, .int, .int, .int], none⟩ := by decide +kernel
theorem pd_0_2 : parseMethodDescriptor "()[B" = some ⟨[], some (.array .byte)⟩ := by decide +kernel
theorem pd_0_7 : parseMethodDescriptor "([B[BII)Z" = some ⟨[(.array .byte), (.array .byte), .int, .int], some .boolean⟩ := by decide +kernel
theorem pd_0_8 : parseMethodDescriptor "([BI)Z" = some ⟨[(.array .byte), .int], some .boolean⟩ := by decide +kernel
set_option maxRecDepth 65536 in
set_option maxHeartbeats 40000000 in
theorem sgC {p : Program} {l : Launch} {e : Env} {s : State} {m : MethodId} {args : Array Value} {below : List Frame} {meth : Method} {c : Code} {T0 : State} {locs : List Loc} {Z : State} {a0 : Array Value} {h0 : Heap} (i0 : Int32) (i1 : Int32) (i2 : Int32) (i3 : Int32) (i4 : Int32) (o5 : Addr) (lo : Nat) (hi : Nat) (i8 : Int32)
    (X0 : Stand p l e room_1 s m args below meth c T0 locs 1 4) (hx : p.tables.exec = Jvm.exec) (hZ : Z.Warmed39 s.vm) (hw : ∀ d ∈ tables_1, d.before a0 Z = true) (hby : c.code = code) (hml : c.maxLocals = 13) (hown : s.vm.findClass "com/example/consentry/consentry/timestamp/ElementEncodedPinLaw" = some m.cls) (e0 : T0.heap = h0) (n0 : Nat) (Z0 : n0 ≤ h0.size) (N0 : Fr n0 locs) (A : Cell) (S : own_src Z h0 o5 A i0) (hlo : lo ≤ hi) (hhi : hi ≤ 4) :
    ∃ (T' : State) (h' : Heap) (locs' : List Loc) (b6 rr : Addr) (B : Cell), Stand p l e room_1 s m args below meth c T' locs' 3 13 ∧ T'.heap = h' ∧ (n0 ≤ h'.size ∧ Fr n0 locs' ∧ n0 ≤ rr ∧ rr ≠ o5 ∧ rr ≠ b6 ∧ Exa Z h' b6 "com/example/consentry/consentry/timestamp/Der$Element" ∧ Fld Z h' b6 "com/example/consentry/consentry/timestamp/Der$Element" "source" "[B" (.ref o5) ∧ Fld Z h' b6 "com/example/consentry/consentry/timestamp/Der$Element" "start" "I" (.int (Int32.ofNat lo)) ∧ Fld Z h' b6 "com/example/consentry/consentry/timestamp/Der$Element" "end" "I" (.int (Int32.ofNat hi)) ∧ own_src Z h' o5 A i0 ∧ own_cut Z h' rr B lo hi i0) ∧
      ∀ target, Steps p.tables e below (T'.setTop (mkF m 195 #[.val (.int i0), .val (.int i1), .val (.int i2), .val (.int i3), .val (.int i4), .val (.ref o5), .val (.int (Int32.ofNat lo)), .val (.int (Int32.ofNat hi)), .val (.int i8), .val (.ref b6), .val (.ref rr), .unset, .unset] [])) target → Steps p.tables e below (T0.setTop (mkF m 78 #[.val (.int i0), .val (.int i1), .val (.int i2), .val (.int i3), .val (.int i4), .val (.ref o5), .val (.int (Int32.ofNat lo)), .val (.int (Int32.ofNat hi)), .val (.int i8), .unset, .unset, .unset, .unset] [])) target := by
  -- 3. LAWS
  obtain ⟨T6, h6, X6, e6, E6, A6, D6, -, st6⟩ := newO X0 hx hZ hown (hw _ (List.mem_of_getElem? (i := 2) rfl)) (hw _ (List.mem_of_getElem? (i := 3) rfl)) (hw _ (List.mem_of_getElem? (i := 4) rfl)) e0 (g := (mkF m 78 #[.val (.int i0), .val (.int i1), .val (.int i2), .val (.int i3), .val (.int i4), .val (.ref o5), .val (.int (Int32.ofNat lo)), .val (.int (Int32.ofNat hi)), .val (.int i8), .unset, .unset, .unset, .unset] [])) rfl (hb hby at_78) (by decide) (by decide)
  obtain ⟨b6, g6⟩ : ∃ z, z = h0.size := ⟨_, rfl⟩      -- the fresh object's address
  rw [← g6] at A6 D6 st6      -- A6 : Exa Z h6 b6 "com/example/consentry/consentry/timestamp/Der$Element"; E6 : Ext h0 h6 (carries every older fact: .ext E6)
  have F_source_b6 : Fld Z h6 b6 "com/example/consentry/consentry/timestamp/Der$Element" "source" "[B" .null := D6 (Or.inr (hw _ (List.mem_of_getElem? (i := 17) rfl))) (ty := (.array .byte)) (by decide)
  have F_tag_b6 : Fld Z h6 b6 "com/example/consentry/consentry/timestamp/Der$Element" "tag" "I" (.int (0 : Int32)) := D6 (Or.inr (hw _ (List.mem_of_getElem? (i := 19) rfl))) (ty := .int) (by decide)
  have F_start_b6 : Fld Z h6 b6 "com/example/consentry/consentry/timestamp/Der$Element" "start" "I" (.int (0 : Int32)) := D6 (Or.inr (hw _ (List.mem_of_getElem? (i := 21) rfl))) (ty := .int) (by decide)
  have F_contentStart_b6 : Fld Z h6 b6 "com/example/consentry/consentry/timestamp/Der$Element" "contentStart" "I" (.int (0 : Int32)) := D6 (Or.inr (hw _ (List.mem_of_getElem? (i := 23) rfl))) (ty := .int) (by decide)
  have F_end_b6 : Fld Z h6 b6 "com/example/consentry/consentry/timestamp/Der$Element" "end" "I" (.int (0 : Int32)) := D6 (Or.inr (hw _ (List.mem_of_getElem? (i := 25) rfl))) (ty := .int) (by decide)
  have E_b6 := A6
  have g_b6 : n0 ≤ b6 := Nat.le_trans Z0 (Nat.le_of_eq g6.symm)
  have sz_b6 : h0.size ≤ b6 := (Nat.le_trans (Keep.refl h0 []).1 (Nat.le_of_eq g6.symm))
  have K6 : Keep h0 h6 [] := (Keep.refl h0 []).ext E6
  -- pc 91: the constructor of com/example/consentry/consentry/timestamp/Der$Element by its contract rm1
  obtain ⟨_, _, ⟨T7, L7, k7, n7⟩, -, X7, ⟨Lc7, hQ7, l7, y7, z7⟩, st7⟩ := X6.specialBack hx (y := (⟨"com/example/consentry/consentry/timestamp/Der$Element", "<init>", "([BIIII)V"⟩ : MethodName)) rfl hown (mvT hZ (hw _ (List.mem_of_getElem? (i := 5) rfl))) (mvT hZ (hw _ (List.mem_of_getElem? (i := 6) rfl))) (mvT hZ (hw _ (List.mem_of_getElem? (i := 7) rfl))) (by decide) (backOf (W := 1) (rm1 l Z a0 hw [] b6 o5 i1 (Int32.ofNat lo) i8 (Int32.ofNat hi) .null (.int 0) (.int 0) (.int 0) (.int 0) h6 n0 (Nat.le_trans Z0 K6.1) E_b6 F_source_b6 g_b6 F_tag_b6 F_start_b6 F_contentStart_b6 F_end_b6) hZ (hw _ (List.mem_of_getElem? (i := 7) rfl)) (hw _ (List.mem_of_getElem? (i := 4) rfl)) (by decide) (by decide)) (g := (mkF m 91 #[.val (.int i0), .val (.int i1), .val (.int i2), .val (.int i3), .val (.int i4), .val (.ref o5), .val (.int (Int32.ofNat lo)), .val (.int (Int32.ofNat hi)), .val (.int i8), .unset, .unset, .unset, .unset] [(.int (Int32.ofNat hi)), (.int i8), (.int (Int32.ofNat lo)), (.int i1), (.ref o5), (.ref b6), (.ref b6)])) rfl (by rw [hml]; rfl) (Steps.refl _) (a := b6) (argsL := [(.ref o5), (.int i1), (.int (Int32.ofNat lo)), (.int i8), (.int (Int32.ofNat hi))]) (rest := [(.ref b6)]) (lenOf pd_0_0 rfl) rfl (by show 2 * 0 + _ ≤ _; exact Nat.le_of_eq rfl) (hb hby at_91) (fun _ _ => ⟨rfl, e6, (by decide : 2 + 0 ≤ _), (by decide : 9 + 0 ≤ _)⟩)
  dsimp only [Pt.U, Pt.locs, Pt.cells, Pt.slots] at X7 l7 y7 z7 st7 hQ7
  subst l7 y7 z7
  obtain ⟨rfl, N7q, Kc7, Eq7, Fs7, Ft7, Fn7⟩ := hQ7
  have nb : o5 ∉ [b6] := fun hx => absurd (List.mem_singleton.mp hx) (Nat.ne_of_lt (Nat.lt_of_lt_of_le S.1.lt sz_b6))
  have S1 : own_src Z T7.heap o5 A i0 := (S.ext E6).keep Kc7 nb
  have Z1 : n0 ≤ T7.heap.size := Nat.le_trans (Nat.le_trans Z0 K6.1) Kc7.1      -- what it returned, that it wrote nothing old, and the rest of your Q1
  have N7 := Fr.app N0 N7q
  -- pc 98: com/example/consentry/consentry/timestamp/Der$Element.encoded by the contract of the body that the receiver's class selects, rm4
  obtain ⟨cq8, kq8, q8a, q8b, q8c⟩ := isOf hZ rfl Eq7
  obtain ⟨_, _, ⟨T8, L8, k8, n8⟩, -, X8, ⟨Lc8, hQ8, l8, y8, z8⟩, st8⟩ := X7.virtualBack hx (y := (⟨"com/example/consentry/consentry/timestamp/Der$Element", "encoded", "()[B"⟩ : MethodName)) (z := (⟨"com/example/consentry/consentry/timestamp/Der$Element", "encoded", "()[B"⟩ : MethodName)) hown (mvT hZ (hw _ (List.mem_of_getElem? (i := 26) rfl))) (mvT hZ (hw _ (List.mem_of_getElem? (i := 27) rfl))) (notFace_of_selects (args := #[]) (mvT hZ (hw _ (List.mem_of_getElem? (i := 29) rfl)))) (mvT hZ (hw _ (List.mem_of_getElem? (i := 29) rfl))) (mvT hZ (hw _ (List.mem_of_getElem? (i := 28) rfl))) (by decide) (backOf (W := 0) (rm4 l Z a0 hw [] b6 o5 A lo hi i0 T7.heap n0 Z1 Fs7 Ft7 Fn7 S1 hlo hhi) hZ (hw _ (List.mem_of_getElem? (i := 30) rfl)) (hw _ (List.mem_of_getElem? (i := 4) rfl)) (by decide) (by decide)) q8a q8c (g := (mkF m 98 #[.val (.int i0), .val (.int i1), .val (.int i2), .val (.int i3), .val (.int i4), .val (.ref o5), .val (.int (Int32.ofNat lo)), .val (.int (Int32.ofNat hi)), .val (.int i8), .val (.ref b6), .unset, .unset, .unset] [(.ref b6)])) rfl (by rw [hml]; rfl) (Steps.refl _) (argsL := []) (rest := []) (lenOf pd_0_2 rfl) rfl (by show 2 * 0 + _ ≤ _; exact Nat.le_of_eq rfl) (hb hby at_98) (fun _ _ => ⟨rfl, rfl, (by decide : 2 + 1 ≤ _), (by decide : 9 + 4 ≤ _)⟩)
  dsimp only [Pt.U, Pt.locs, Pt.cells, Pt.slots] at X8 l8 y8 z8 st8 hQ8
  subst l8 y8 z8
  obtain ⟨B, rfl, N8q, E4x, R4x⟩ := hQ8
  have Z2 : n0 ≤ T8.heap.size := Nat.le_trans Z1 E4x.1
  have S2 : own_src Z T8.heap o5 A i0 := S1.ext E4x
  have ha112 : ¬ (T7.heap.size = o5) := fun q => absurd S1.1.lt (by rw [q]; exact Nat.lt_irrefl _)
  have hz : B.slots.size = (Int32.ofNat (hi - lo)).toNatClampNeg := by rw [(own_n (show hi - lo < 9 by omega)).1]; exact R4x.2.1
  have hzn : ¬ Int32.ofNat (hi - lo) < 0 := (own_n (show hi - lo < 9 by omega)).2
  have N8 := Fr.app N7 N8q
  -- pc 137: com/example/consentry/consentry/timestamp/ElementEncodedPinLaw.at by its contract rm9
  obtain ⟨_, _, ⟨T9, L9, k9, n9⟩, -, X9, ⟨Lc9, hQ9, l9, y9, z9⟩, st9⟩ := Jvm.LawKit.callS X8 hx (y := (⟨"com/example/consentry/consentry/timestamp/ElementEncodedPinLaw", "at", "([B[BII)Z"⟩ : MethodName)) hown (mvT hZ (hw _ (List.mem_of_getElem? (i := 49) rfl))) (mvT hZ (hw _ (List.mem_of_getElem? (i := 50) rfl))) (mvT hZ (hw _ (List.mem_of_getElem? (i := 51) rfl))) (mvT hZ (hw _ (List.mem_of_getElem? (i := 52) rfl))) (by decide) (backOf (W := 0) (rm9 l Z a0 hw [] T7.heap.size o5 (Int32.ofNat lo) (0 : Int32) B (Int32.ofNat (hi - lo)) A T8.heap n0 Z2 R4x.1 hz hzn S2.1 (own_hk (k := 0) R4x S2 hlo hhi (by decide))) hZ (hw _ (List.mem_of_getElem? (i := 52) rfl)) (hw _ (List.mem_of_getElem? (i := 51) rfl)) (by decide) (by decide)) (g := (mkF m 137 #[.val (.int i0), .val (.int i1), .val (.int i2), .val (.int i3), .val (.int i4), .val (.ref o5), .val (.int (Int32.ofNat lo)), .val (.int (Int32.ofNat hi)), .val (.int i8), .val (.ref b6), .val (.ref T7.heap.size), .unset, .unset] [(.int (0 : Int32)), (.int (Int32.ofNat lo)), (.ref o5), (.ref T7.heap.size)])) rfl (by rw [hml]; rfl) (argsL := [(.ref T7.heap.size), (.ref o5), (.int (Int32.ofNat lo)), (.int (0 : Int32))]) (rest := []) (lenOf pd_0_7 rfl) rfl (by show 2 * 0 + _ ≤ _; exact Nat.le_of_eq rfl) (hb hby at_137) (fun _ _ => ⟨rfl, rfl, (by decide : 3 + 0 ≤ _), (by decide : 13 + 0 ≤ _)⟩)
  dsimp only [Pt.U, Pt.locs, Pt.cells, Pt.slots] at X9 l9 y9 z9 st9 hQ9
  subst l9 y9 z9
  obtain ⟨rfl, N9q, eq9⟩ := hQ9
  have Kq9 : Keep T8.heap T9.heap [] := by rw [eq9]; exact Keep.refl _ []
       -- what it returned, that it wrote nothing old, and the rest of your Q9
  have N9 := Fr.app N8 N9q
  -- pc 150: com/example/consentry/consentry/timestamp/ElementEncodedPinLaw.at by its contract rm9
  obtain ⟨_, _, ⟨T10, L10, k10, n10⟩, -, X10, ⟨Lc10, hQ10, l10, y10, z10⟩, st10⟩ := Jvm.LawKit.callS X9 hx (y := (⟨"com/example/consentry/consentry/timestamp/ElementEncodedPinLaw", "at", "([B[BII)Z"⟩ : MethodName)) hown (mvT hZ (hw _ (List.mem_of_getElem? (i := 49) rfl))) (mvT hZ (hw _ (List.mem_of_getElem? (i := 50) rfl))) (mvT hZ (hw _ (List.mem_of_getElem? (i := 51) rfl))) (mvT hZ (hw _ (List.mem_of_getElem? (i := 52) rfl))) (by decide) (backOf (W := 0) (rm9 l Z a0 hw [] T7.heap.size o5 (Int32.ofNat lo) (1 : Int32) B (Int32.ofNat (hi - lo)) A T9.heap n0 (Nat.le_trans Z2 Kq9.1) (R4x.keep Kq9 List.not_mem_nil).1 hz hzn (S2.keep Kq9 List.not_mem_nil).1 (own_hk (k := 1) R4x S2 hlo hhi (by decide))) hZ (hw _ (List.mem_of_getElem? (i := 52) rfl)) (hw _ (List.mem_of_getElem? (i := 51) rfl)) (by decide) (by decide)) (g := (mkF m 150 #[.val (.int i0), .val (.int i1), .val (.int i2), .val (.int i3), .val (.int i4), .val (.ref o5), .val (.int (Int32.ofNat lo)), .val (.int (Int32.ofNat hi)), .val (.int i8), .val (.ref b6), .val (.ref T7.heap.size), .unset, .unset] [(.int (1 : Int32)), (.int (Int32.ofNat lo)), (.ref o5), (.ref T7.heap.size)])) rfl (by rw [hml]; rfl) (argsL := [(.ref T7.heap.size), (.ref o5), (.int (Int32.ofNat lo)), (.int (1 : Int32))]) (rest := []) (lenOf pd_0_7 rfl) rfl (by show 2 * 0 + _ ≤ _; exact Nat.le_of_eq rfl) (hb hby at_150) (fun _ _ => ⟨rfl, rfl, (by decide : 3 + 0 ≤ _), (by decide : 13 + 0 ≤ _)⟩)
  dsimp only [Pt.U, Pt.locs, Pt.cells, Pt.slots] at X10 l10 y10 z10 st10 hQ10
  subst l10 y10 z10
  obtain ⟨rfl, N10q, eq10⟩ := hQ10
  have Kq10 : Keep T8.heap T10.heap [] := by rw [eq10]; exact Kq9
       -- what it returned, that it wrote nothing old, and the rest of your Q9
  have N10 := Fr.app N9 N10q
  -- pc 163: com/example/consentry/consentry/timestamp/ElementEncodedPinLaw.at by its contract rm9
  obtain ⟨_, _, ⟨T11, L11, k11, n11⟩, -, X11, ⟨Lc11, hQ11, l11, y11, z11⟩, st11⟩ := Jvm.LawKit.callS X10 hx (y := (⟨"com/example/consentry/consentry/timestamp/ElementEncodedPinLaw", "at", "([B[BII)Z"⟩ : MethodName)) hown (mvT hZ (hw _ (List.mem_of_getElem? (i := 49) rfl))) (mvT hZ (hw _ (List.mem_of_getElem? (i := 50) rfl))) (mvT hZ (hw _ (List.mem_of_getElem? (i := 51) rfl))) (mvT hZ (hw _ (List.mem_of_getElem? (i := 52) rfl))) (by decide) (backOf (W := 0) (rm9 l Z a0 hw [] T7.heap.size o5 (Int32.ofNat lo) (2 : Int32) B (Int32.ofNat (hi - lo)) A T10.heap n0 (Nat.le_trans Z2 Kq10.1) (R4x.keep Kq10 List.not_mem_nil).1 hz hzn (S2.keep Kq10 List.not_mem_nil).1 (own_hk (k := 2) R4x S2 hlo hhi (by decide))) hZ (hw _ (List.mem_of_getElem? (i := 52) rfl)) (hw _ (List.mem_of_getElem? (i := 51) rfl)) (by decide) (by decide)) (g := (mkF m 163 #[.val (.int i0), .val (.int i1), .val (.int i2), .val (.int i3), .val (.int i4), .val (.ref o5), .val (.int (Int32.ofNat lo)), .val (.int (Int32.ofNat hi)), .val (.int i8), .val (.ref b6), .val (.ref T7.heap.size), .unset, .unset] [(.int (2 : Int32)), (.int (Int32.ofNat lo)), (.ref o5), (.ref T7.heap.size)])) rfl (by rw [hml]; rfl) (argsL := [(.ref T7.heap.size), (.ref o5), (.int (Int32.ofNat lo)), (.int (2 : Int32))]) (rest := []) (lenOf pd_0_7 rfl) rfl (by show 2 * 0 + _ ≤ _; exact Nat.le_of_eq rfl) (hb hby at_163) (fun _ _ => ⟨rfl, rfl, (by decide : 3 + 0 ≤ _), (by decide : 13 + 0 ≤ _)⟩)
  dsimp only [Pt.U, Pt.locs, Pt.cells, Pt.slots] at X11 l11 y11 z11 st11 hQ11
  subst l11 y11 z11
  obtain ⟨rfl, N11q, eq11⟩ := hQ11
  have Kq11 : Keep T8.heap T11.heap [] := by rw [eq11]; exact Kq10
       -- what it returned, that it wrote nothing old, and the rest of your Q9
  have N11 := Fr.app N10 N11q
  -- pc 176: com/example/consentry/consentry/timestamp/ElementEncodedPinLaw.at by its contract rm9
  obtain ⟨_, _, ⟨T12, L12, k12, n12⟩, -, X12, ⟨Lc12, hQ12, l12, y12, z12⟩, st12⟩ := Jvm.LawKit.callS X11 hx (y := (⟨"com/example/consentry/consentry/timestamp/ElementEncodedPinLaw", "at", "([B[BII)Z"⟩ : MethodName)) hown (mvT hZ (hw _ (List.mem_of_getElem? (i := 49) rfl))) (mvT hZ (hw _ (List.mem_of_getElem? (i := 50) rfl))) (mvT hZ (hw _ (List.mem_of_getElem? (i := 51) rfl))) (mvT hZ (hw _ (List.mem_of_getElem? (i := 52) rfl))) (by decide) (backOf (W := 0) (rm9 l Z a0 hw [] T7.heap.size o5 (Int32.ofNat lo) (3 : Int32) B (Int32.ofNat (hi - lo)) A T11.heap n0 (Nat.le_trans Z2 Kq11.1) (R4x.keep Kq11 List.not_mem_nil).1 hz hzn (S2.keep Kq11 List.not_mem_nil).1 (own_hk (k := 3) R4x S2 hlo hhi (by decide))) hZ (hw _ (List.mem_of_getElem? (i := 52) rfl)) (hw _ (List.mem_of_getElem? (i := 51) rfl)) (by decide) (by decide)) (g := (mkF m 176 #[.val (.int i0), .val (.int i1), .val (.int i2), .val (.int i3), .val (.int i4), .val (.ref o5), .val (.int (Int32.ofNat lo)), .val (.int (Int32.ofNat hi)), .val (.int i8), .val (.ref b6), .val (.ref T7.heap.size), .unset, .unset] [(.int (3 : Int32)), (.int (Int32.ofNat lo)), (.ref o5), (.ref T7.heap.size)])) rfl (by rw [hml]; rfl) (argsL := [(.ref T7.heap.size), (.ref o5), (.int (Int32.ofNat lo)), (.int (3 : Int32))]) (rest := []) (lenOf pd_0_7 rfl) rfl (by show 2 * 0 + _ ≤ _; exact Nat.le_of_eq rfl) (hb hby at_176) (fun _ _ => ⟨rfl, rfl, (by decide : 3 + 0 ≤ _), (by decide : 13 + 0 ≤ _)⟩)
  dsimp only [Pt.U, Pt.locs, Pt.cells, Pt.slots] at X12 l12 y12 z12 st12 hQ12
  subst l12 y12 z12
  obtain ⟨rfl, N12q, eq12⟩ := hQ12
  have Kq12 : Keep T8.heap T12.heap [] := by rw [eq12]; exact Kq11
       -- what it returned, that it wrote nothing old, and the rest of your Q9
  have N12 := Fr.app N11 N12q
  -- pc 187: com/example/consentry/consentry/timestamp/ElementEncodedPinLaw.untouched by its contract rm10
  obtain ⟨_, _, ⟨T13, L13, k13, n13⟩, -, X13, ⟨Lc13, hQ13, l13, y13, z13⟩, st13⟩ := Jvm.LawKit.callS X12 hx (y := (⟨"com/example/consentry/consentry/timestamp/ElementEncodedPinLaw", "untouched", "([BI)Z"⟩ : MethodName)) hown (mvT hZ (hw _ (List.mem_of_getElem? (i := 53) rfl))) (mvT hZ (hw _ (List.mem_of_getElem? (i := 54) rfl))) (mvT hZ (hw _ (List.mem_of_getElem? (i := 51) rfl))) (mvT hZ (hw _ (List.mem_of_getElem? (i := 55) rfl))) (by decide) (backOf (W := 0) (rm10 l Z a0 hw [] o5 i0 A T12.heap n0 (Nat.le_trans Z2 Kq12.1) (S2.keep Kq12 List.not_mem_nil)) hZ (hw _ (List.mem_of_getElem? (i := 55) rfl)) (hw _ (List.mem_of_getElem? (i := 51) rfl)) (by decide) (by decide)) (g := (mkF m 187 #[.val (.int i0), .val (.int i1), .val (.int i2), .val (.int i3), .val (.int i4), .val (.ref o5), .val (.int (Int32.ofNat lo)), .val (.int (Int32.ofNat hi)), .val (.int i8), .val (.ref b6), .val (.ref T7.heap.size), .unset, .unset] [(.int i0), (.ref o5)])) rfl (by rw [hml]; rfl) (argsL := [(.ref o5), (.int i0)]) (rest := []) (lenOf pd_0_8 rfl) rfl (by show 2 * 0 + _ ≤ _; exact Nat.le_of_eq rfl) (hb hby at_187) (fun _ _ => ⟨rfl, rfl, (by decide : 3 + 0 ≤ _), (by decide : 13 + 0 ≤ _)⟩)
  dsimp only [Pt.U, Pt.locs, Pt.cells, Pt.slots] at X13 l13 y13 z13 st13 hQ13
  subst l13 y13 z13
  obtain ⟨rfl, N13q, eq13⟩ := hQ13
  have Kq13 : Keep T8.heap T13.heap [] := by rw [eq13]; exact Kq12
       -- what it returned, that it wrote nothing old, and the rest of your Q10
  have N13 := Fr.app N12 N13q
  refine ⟨T13, _, _, b6, T7.heap.size, B, X13, rfl, ⟨Nat.le_trans Z2 Kq13.1, N13, Nat.le_trans Z1 (Nat.le_refl _), ha112, fun q => absurd Eq7.lt (by rw [← q]; exact Nat.lt_irrefl _), ((Eq7.ext E4x).keep Kq13), ((Fs7.ext E4x).keep Kq13 List.not_mem_nil), ((Ft7.ext E4x).keep Kq13 List.not_mem_nil), ((Fn7.ext E4x).keep Kq13 List.not_mem_nil), S2.keep Kq13 List.not_mem_nil, R4x.keep Kq13 List.not_mem_nil⟩, fun target kt => ?_⟩
  -- 4. STEPS
  show Steps p.tables e below (T0.setTop (mkF m 78 #[.val (.int i0), .val (.int i1), .val (.int i2), .val (.int i3), .val (.int i4), .val (.ref o5), .val (.int (Int32.ofNat lo)), .val (.int (Int32.ofNat hi)), .val (.int i8), .unset, .unset, .unset, .unset] [])) _
  refine st6 _ ?_
  show Steps p.tables e below (T6.setTop (mkF m 81 #[.val (.int i0), .val (.int i1), .val (.int i2), .val (.int i3), .val (.int i4), .val (.ref o5), .val (.int (Int32.ofNat lo)), .val (.int (Int32.ofNat hi)), .val (.int i8), .unset, .unset, .unset, .unset] [(.ref b6)])) _
  refine XS.dup X6.here hx rfl (hb hby at_81) rfl rfl ?_
  show Steps p.tables e below (T6.setTop (mkF m 82 #[.val (.int i0), .val (.int i1), .val (.int i2), .val (.int i3), .val (.int i4), .val (.ref o5), .val (.int (Int32.ofNat lo)), .val (.int (Int32.ofNat hi)), .val (.int i8), .unset, .unset, .unset, .unset] [(.ref b6), (.ref b6)])) _
  refine XS.aload X6.here hx rfl (hb hby at_82) rfl rfl ?_
  show Steps p.tables e below (T6.setTop (mkF m 84 #[.val (.int i0), .val (.int i1), .val (.int i2), .val (.int i3), .val (.int i4), .val (.ref o5), .val (.int (Int32.ofNat lo)), .val (.int (Int32.ofNat hi)), .val (.int i8), .unset, .unset, .unset, .unset] [(.ref o5), (.ref b6), (.ref b6)])) _
  refine XS.iloadN X6.here hx rfl (hb hby at_84) rfl ?_
  show Steps p.tables e below (T6.setTop (mkF m 85 #[.val (.int i0), .val (.int i1), .val (.int i2), .val (.int i3), .val (.int i4), .val (.ref o5), .val (.int (Int32.ofNat lo)), .val (.int (Int32.ofNat hi)), .val (.int i8), .unset, .unset, .unset, .unset] [(.int i1), (.ref o5), (.ref b6), (.ref b6)])) _
  refine XS.iload X6.here hx rfl (hb hby at_85) rfl ?_
  show Steps p.tables e below (T6.setTop (mkF m 87 #[.val (.int i0), .val (.int i1), .val (.int i2), .val (.int i3), .val (.int i4), .val (.ref o5), .val (.int (Int32.ofNat lo)), .val (.int (Int32.ofNat hi)), .val (.int i8), .unset, .unset, .unset, .unset] [(.int (Int32.ofNat lo)), (.int i1), (.ref o5), (.ref b6), (.ref b6)])) _
  refine XS.iload X6.here hx rfl (hb hby at_87) rfl ?_
  show Steps p.tables e below (T6.setTop (mkF m 89 #[.val (.int i0), .val (.int i1), .val (.int i2), .val (.int i3), .val (.int i4), .val (.ref o5), .val (.int (Int32.ofNat lo)), .val (.int (Int32.ofNat hi)), .val (.int i8), .unset, .unset, .unset, .unset] [(.int i8), (.int (Int32.ofNat lo)), (.int i1), (.ref o5), (.ref b6), (.ref b6)])) _
  refine XS.iload X6.here hx rfl (hb hby at_89) rfl ?_
  show Steps p.tables e below (T6.setTop (mkF m 91 #[.val (.int i0), .val (.int i1), .val (.int i2), .val (.int i3), .val (.int i4), .val (.ref o5), .val (.int (Int32.ofNat lo)), .val (.int (Int32.ofNat hi)), .val (.int i8), .unset, .unset, .unset, .unset] [(.int (Int32.ofNat hi)), (.int i8), (.int (Int32.ofNat lo)), (.int i1), (.ref o5), (.ref b6), (.ref b6)])) _
  refine st7.trans ?_
  show Steps p.tables e below (T7.setTop (mkF m 94 #[.val (.int i0), .val (.int i1), .val (.int i2), .val (.int i3), .val (.int i4), .val (.ref o5), .val (.int (Int32.ofNat lo)), .val (.int (Int32.ofNat hi)), .val (.int i8), .unset, .unset, .unset, .unset] [(.ref b6)])) _
  refine XS.astore X7.here hx rfl (hb hby at_94) rfl rfl (l' := #[.val (.int i0), .val (.int i1), .val (.int i2), .val (.int i3), .val (.int i4), .val (.ref o5), .val (.int (Int32.ofNat lo)), .val (.int (Int32.ofNat hi)), .val (.int i8), .val (.ref b6), .unset, .unset, .unset]) rfl ?_
  show Steps p.tables e below (T7.setTop (mkF m 96 #[.val (.int i0), .val (.int i1), .val (.int i2), .val (.int i3), .val (.int i4), .val (.ref o5), .val (.int (Int32.ofNat lo)), .val (.int (Int32.ofNat hi)), .val (.int i8), .val (.ref b6), .unset, .unset, .unset] [])) _
  refine XS.aload X7.here hx rfl (hb hby at_96) rfl rfl ?_
  show Steps p.tables e below (T7.setTop (mkF m 98 #[.val (.int i0), .val (.int i1), .val (.int i2), .val (.int i3), .val (.int i4), .val (.ref o5), .val (.int (Int32.ofNat lo)), .val (.int (Int32.ofNat hi)), .val (.int i8), .val (.ref b6), .unset, .unset, .unset] [(.ref b6)])) _
  refine st8.trans ?_
  show Steps p.tables e below (T8.setTop (mkF m 101 #[.val (.int i0), .val (.int i1), .val (.int i2), .val (.int i3), .val (.int i4), .val (.ref o5), .val (.int (Int32.ofNat lo)), .val (.int (Int32.ofNat hi)), .val (.int i8), .val (.ref b6), .unset, .unset, .unset] [(.ref T7.heap.size)])) _
  refine XS.astore X8.here hx rfl (hb hby at_101) rfl rfl (l' := #[.val (.int i0), .val (.int i1), .val (.int i2), .val (.int i3), .val (.int i4), .val (.ref o5), .val (.int (Int32.ofNat lo)), .val (.int (Int32.ofNat hi)), .val (.int i8), .val (.ref b6), .val (.ref T7.heap.size), .unset, .unset]) rfl ?_
  show Steps p.tables e below (T8.setTop (mkF m 103 #[.val (.int i0), .val (.int i1), .val (.int i2), .val (.int i3), .val (.int i4), .val (.ref o5), .val (.int (Int32.ofNat lo)), .val (.int (Int32.ofNat hi)), .val (.int i8), .val (.ref b6), .val (.ref T7.heap.size), .unset, .unset] [])) _
  refine XS.aload X8.here hx rfl (hb hby at_103) rfl rfl ?_
  show Steps p.tables e below (T8.setTop (mkF m 105 #[.val (.int i0), .val (.int i1), .val (.int i2), .val (.int i3), .val (.int i4), .val (.ref o5), .val (.int (Int32.ofNat lo)), .val (.int (Int32.ofNat hi)), .val (.int i8), .val (.ref b6), .val (.ref T7.heap.size), .unset, .unset] [(.ref T7.heap.size)])) _
  refine XS.ifnullNo X8.here hx rfl (hb hby at_105) rfl ?_
  show Steps p.tables e below (T8.setTop (mkF m 108 #[.val (.int i0), .val (.int i1), .val (.int i2), .val (.int i3), .val (.int i4), .val (.ref o5), .val (.int (Int32.ofNat lo)), .val (.int (Int32.ofNat hi)), .val (.int i8), .val (.ref b6), .val (.ref T7.heap.size), .unset, .unset] [])) _
  refine XS.aload X8.here hx rfl (hb hby at_108) rfl rfl ?_
  show Steps p.tables e below (T8.setTop (mkF m 110 #[.val (.int i0), .val (.int i1), .val (.int i2), .val (.int i3), .val (.int i4), .val (.ref o5), .val (.int (Int32.ofNat lo)), .val (.int (Int32.ofNat hi)), .val (.int i8), .val (.ref b6), .val (.ref T7.heap.size), .unset, .unset] [(.ref T7.heap.size)])) _
  refine XS.aload X8.here hx rfl (hb hby at_110) rfl rfl ?_
  show Steps p.tables e below (T8.setTop (mkF m 112 #[.val (.int i0), .val (.int i1), .val (.int i2), .val (.int i3), .val (.int i4), .val (.ref o5), .val (.int (Int32.ofNat lo)), .val (.int (Int32.ofNat hi)), .val (.int i8), .val (.ref b6), .val (.ref T7.heap.size), .unset, .unset] [(.ref o5), (.ref T7.heap.size)])) _
  refine Jvm.RoadKit.acmp (g := (mkF m 112 #[.val (.int i0), .val (.int i1), .val (.int i2), .val (.int i3), .val (.int i4), .val (.ref o5), .val (.int (Int32.ofNat lo)), .val (.int (Int32.ofNat hi)), .val (.int i8), .val (.ref b6), .val (.ref T7.heap.size), .unset, .unset] [(.ref o5), (.ref T7.heap.size)])) X8 hx rfl rfl rfl (pc0 := 112) (pc' := 117) (same := false) rfl (hb hby at_112) rfl (decide_eq_false fun q => ha112 (Value.ref.inj q)) (by decide) (by decide) ?_
  show Steps p.tables e below (T8.setTop (mkF m 117 #[.val (.int i0), .val (.int i1), .val (.int i2), .val (.int i3), .val (.int i4), .val (.ref o5), .val (.int (Int32.ofNat lo)), .val (.int (Int32.ofNat hi)), .val (.int i8), .val (.ref b6), .val (.ref T7.heap.size), .unset, .unset] [])) _
  refine XS.aload X8.here hx rfl (hb hby at_117) rfl rfl ?_
  show Steps p.tables e below (T8.setTop (mkF m 119 #[.val (.int i0), .val (.int i1), .val (.int i2), .val (.int i3), .val (.int i4), .val (.ref o5), .val (.int (Int32.ofNat lo)), .val (.int (Int32.ofNat hi)), .val (.int i8), .val (.ref b6), .val (.ref T7.heap.size), .unset, .unset] [(.ref T7.heap.size)])) _
  refine X8.arraylength hx R4x.1.1 (State.isArrayOf_alike hZ.alike R4x.1.2.1) (g := (mkF m 119 #[.val (.int i0), .val (.int i1), .val (.int i2), .val (.int i3), .val (.int i4), .val (.ref o5), .val (.int (Int32.ofNat lo)), .val (.int (Int32.ofNat hi)), .val (.int i8), .val (.ref b6), .val (.ref T7.heap.size), .unset, .unset] [(.ref T7.heap.size)])) rfl rfl (hb hby at_119) _ ?_
  rw [len_of hz hzn]
  show Steps p.tables e below (T8.setTop (mkF m 120 #[.val (.int i0), .val (.int i1), .val (.int i2), .val (.int i3), .val (.int i4), .val (.ref o5), .val (.int (Int32.ofNat lo)), .val (.int (Int32.ofNat hi)), .val (.int i8), .val (.ref b6), .val (.ref T7.heap.size), .unset, .unset] [(.int (Int32.ofNat (hi - lo)))])) _
  refine XS.iload X8.here hx rfl (hb hby at_120) rfl ?_
  show Steps p.tables e below (T8.setTop (mkF m 122 #[.val (.int i0), .val (.int i1), .val (.int i2), .val (.int i3), .val (.int i4), .val (.ref o5), .val (.int (Int32.ofNat lo)), .val (.int (Int32.ofNat hi)), .val (.int i8), .val (.ref b6), .val (.ref T7.heap.size), .unset, .unset] [(.int (Int32.ofNat hi)), (.int (Int32.ofNat (hi - lo)))])) _
  refine XS.iload X8.here hx rfl (hb hby at_122) rfl ?_
  show Steps p.tables e below (T8.setTop (mkF m 124 #[.val (.int i0), .val (.int i1), .val (.int i2), .val (.int i3), .val (.int i4), .val (.ref o5), .val (.int (Int32.ofNat lo)), .val (.int (Int32.ofNat hi)), .val (.int i8), .val (.ref b6), .val (.ref T7.heap.size), .unset, .unset] [(.int (Int32.ofNat lo)), (.int (Int32.ofNat hi)), (.int (Int32.ofNat (hi - lo)))])) _
  refine XS.isub X8.here hx rfl (hb hby at_124) rfl ?_
  show Steps p.tables e below (T8.setTop (mkF m 125 #[.val (.int i0), .val (.int i1), .val (.int i2), .val (.int i3), .val (.int i4), .val (.ref o5), .val (.int (Int32.ofNat lo)), .val (.int (Int32.ofNat hi)), .val (.int i8), .val (.ref b6), .val (.ref T7.heap.size), .unset, .unset] [(.int ((Int32.ofNat hi) - (Int32.ofNat lo))), (.int (Int32.ofNat (hi - lo)))])) _
  refine XS.icmpYes X8.here hx rfl (pc0 := 125) (pc' := 130) rfl (hb hby at_125) rfl (teq ((own_sub hlo hhi).symm : Int32.ofNat (hi - lo) = ((Int32.ofNat hi) - (Int32.ofNat lo)))).1 (by decide) (by decide) ?_
  show Steps p.tables e below (T8.setTop (mkF m 130 #[.val (.int i0), .val (.int i1), .val (.int i2), .val (.int i3), .val (.int i4), .val (.ref o5), .val (.int (Int32.ofNat lo)), .val (.int (Int32.ofNat hi)), .val (.int i8), .val (.ref b6), .val (.ref T7.heap.size), .unset, .unset] [])) _
  refine XS.aload X8.here hx rfl (hb hby at_130) rfl rfl ?_
  show Steps p.tables e below (T8.setTop (mkF m 132 #[.val (.int i0), .val (.int i1), .val (.int i2), .val (.int i3), .val (.int i4), .val (.ref o5), .val (.int (Int32.ofNat lo)), .val (.int (Int32.ofNat hi)), .val (.int i8), .val (.ref b6), .val (.ref T7.heap.size), .unset, .unset] [(.ref T7.heap.size)])) _
  refine XS.aload X8.here hx rfl (hb hby at_132) rfl rfl ?_
  show Steps p.tables e below (T8.setTop (mkF m 134 #[.val (.int i0), .val (.int i1), .val (.int i2), .val (.int i3), .val (.int i4), .val (.ref o5), .val (.int (Int32.ofNat lo)), .val (.int (Int32.ofNat hi)), .val (.int i8), .val (.ref b6), .val (.ref T7.heap.size), .unset, .unset] [(.ref o5), (.ref T7.heap.size)])) _
  refine XS.iload X8.here hx rfl (hb hby at_134) rfl ?_
  show Steps p.tables e below (T8.setTop (mkF m 136 #[.val (.int i0), .val (.int i1), .val (.int i2), .val (.int i3), .val (.int i4), .val (.ref o5), .val (.int (Int32.ofNat lo)), .val (.int (Int32.ofNat hi)), .val (.int i8), .val (.ref b6), .val (.ref T7.heap.size), .unset, .unset] [(.int (Int32.ofNat lo)), (.ref o5), (.ref T7.heap.size)])) _
  refine XS.iconst X8.here hx rfl (hb hby at_136) ?_
  show Steps p.tables e below (T8.setTop (mkF m 137 #[.val (.int i0), .val (.int i1), .val (.int i2), .val (.int i3), .val (.int i4), .val (.ref o5), .val (.int (Int32.ofNat lo)), .val (.int (Int32.ofNat hi)), .val (.int i8), .val (.ref b6), .val (.ref T7.heap.size), .unset, .unset] [(.int (0 : Int32)), (.int (Int32.ofNat lo)), (.ref o5), (.ref T7.heap.size)])) _
  refine st9 _ ?_
  show Steps p.tables e below (T9.setTop (mkF m 140 #[.val (.int i0), .val (.int i1), .val (.int i2), .val (.int i3), .val (.int i4), .val (.ref o5), .val (.int (Int32.ofNat lo)), .val (.int (Int32.ofNat hi)), .val (.int i8), .val (.ref b6), .val (.ref T7.heap.size), .unset, .unset] [(.int (1 : Int32))])) _
  refine XS.ifNo X9.here hx rfl (hb hby at_140) rfl ((if0 _ _).trans (feq (by decide : ¬ ((1 : Int32) = (0 : Int32)))).1) ?_
  show Steps p.tables e below (T9.setTop (mkF m 143 #[.val (.int i0), .val (.int i1), .val (.int i2), .val (.int i3), .val (.int i4), .val (.ref o5), .val (.int (Int32.ofNat lo)), .val (.int (Int32.ofNat hi)), .val (.int i8), .val (.ref b6), .val (.ref T7.heap.size), .unset, .unset] [])) _
  refine XS.aload X9.here hx rfl (hb hby at_143) rfl rfl ?_
  show Steps p.tables e below (T9.setTop (mkF m 145 #[.val (.int i0), .val (.int i1), .val (.int i2), .val (.int i3), .val (.int i4), .val (.ref o5), .val (.int (Int32.ofNat lo)), .val (.int (Int32.ofNat hi)), .val (.int i8), .val (.ref b6), .val (.ref T7.heap.size), .unset, .unset] [(.ref T7.heap.size)])) _
  refine XS.aload X9.here hx rfl (hb hby at_145) rfl rfl ?_
  show Steps p.tables e below (T9.setTop (mkF m 147 #[.val (.int i0), .val (.int i1), .val (.int i2), .val (.int i3), .val (.int i4), .val (.ref o5), .val (.int (Int32.ofNat lo)), .val (.int (Int32.ofNat hi)), .val (.int i8), .val (.ref b6), .val (.ref T7.heap.size), .unset, .unset] [(.ref o5), (.ref T7.heap.size)])) _
  refine XS.iload X9.here hx rfl (hb hby at_147) rfl ?_
  show Steps p.tables e below (T9.setTop (mkF m 149 #[.val (.int i0), .val (.int i1), .val (.int i2), .val (.int i3), .val (.int i4), .val (.ref o5), .val (.int (Int32.ofNat lo)), .val (.int (Int32.ofNat hi)), .val (.int i8), .val (.ref b6), .val (.ref T7.heap.size), .unset, .unset] [(.int (Int32.ofNat lo)), (.ref o5), (.ref T7.heap.size)])) _
  refine XS.iconst X9.here hx rfl (hb hby at_149) ?_
  show Steps p.tables e below (T9.setTop (mkF m 150 #[.val (.int i0), .val (.int i1), .val (.int i2), .val (.int i3), .val (.int i4), .val (.ref o5), .val (.int (Int32.ofNat lo)), .val (.int (Int32.ofNat hi)), .val (.int i8), .val (.ref b6), .val (.ref T7.heap.size), .unset, .unset] [(.int (1 : Int32)), (.int (Int32.ofNat lo)), (.ref o5), (.ref T7.heap.size)])) _
  refine st10 _ ?_
  show Steps p.tables e below (T10.setTop (mkF m 153 #[.val (.int i0), .val (.int i1), .val (.int i2), .val (.int i3), .val (.int i4), .val (.ref o5), .val (.int (Int32.ofNat lo)), .val (.int (Int32.ofNat hi)), .val (.int i8), .val (.ref b6), .val (.ref T7.heap.size), .unset, .unset] [(.int (1 : Int32))])) _
  refine XS.ifNo X10.here hx rfl (hb hby at_153) rfl ((if0 _ _).trans (feq (by decide : ¬ ((1 : Int32) = (0 : Int32)))).1) ?_
  show Steps p.tables e below (T10.setTop (mkF m 156 #[.val (.int i0), .val (.int i1), .val (.int i2), .val (.int i3), .val (.int i4), .val (.ref o5), .val (.int (Int32.ofNat lo)), .val (.int (Int32.ofNat hi)), .val (.int i8), .val (.ref b6), .val (.ref T7.heap.size), .unset, .unset] [])) _
  refine XS.aload X10.here hx rfl (hb hby at_156) rfl rfl ?_
  show Steps p.tables e below (T10.setTop (mkF m 158 #[.val (.int i0), .val (.int i1), .val (.int i2), .val (.int i3), .val (.int i4), .val (.ref o5), .val (.int (Int32.ofNat lo)), .val (.int (Int32.ofNat hi)), .val (.int i8), .val (.ref b6), .val (.ref T7.heap.size), .unset, .unset] [(.ref T7.heap.size)])) _
  refine XS.aload X10.here hx rfl (hb hby at_158) rfl rfl ?_
  show Steps p.tables e below (T10.setTop (mkF m 160 #[.val (.int i0), .val (.int i1), .val (.int i2), .val (.int i3), .val (.int i4), .val (.ref o5), .val (.int (Int32.ofNat lo)), .val (.int (Int32.ofNat hi)), .val (.int i8), .val (.ref b6), .val (.ref T7.heap.size), .unset, .unset] [(.ref o5), (.ref T7.heap.size)])) _
  refine XS.iload X10.here hx rfl (hb hby at_160) rfl ?_
  show Steps p.tables e below (T10.setTop (mkF m 162 #[.val (.int i0), .val (.int i1), .val (.int i2), .val (.int i3), .val (.int i4), .val (.ref o5), .val (.int (Int32.ofNat lo)), .val (.int (Int32.ofNat hi)), .val (.int i8), .val (.ref b6), .val (.ref T7.heap.size), .unset, .unset] [(.int (Int32.ofNat lo)), (.ref o5), (.ref T7.heap.size)])) _
  refine XS.iconst X10.here hx rfl (hb hby at_162) ?_
  show Steps p.tables e below (T10.setTop (mkF m 163 #[.val (.int i0), .val (.int i1), .val (.int i2), .val (.int i3), .val (.int i4), .val (.ref o5), .val (.int (Int32.ofNat lo)), .val (.int (Int32.ofNat hi)), .val (.int i8), .val (.ref b6), .val (.ref T7.heap.size), .unset, .unset] [(.int (2 : Int32)), (.int (Int32.ofNat lo)), (.ref o5), (.ref T7.heap.size)])) _
  refine st11 _ ?_
  show Steps p.tables e below (T11.setTop (mkF m 166 #[.val (.int i0), .val (.int i1), .val (.int i2), .val (.int i3), .val (.int i4), .val (.ref o5), .val (.int (Int32.ofNat lo)), .val (.int (Int32.ofNat hi)), .val (.int i8), .val (.ref b6), .val (.ref T7.heap.size), .unset, .unset] [(.int (1 : Int32))])) _
  refine XS.ifNo X11.here hx rfl (hb hby at_166) rfl ((if0 _ _).trans (feq (by decide : ¬ ((1 : Int32) = (0 : Int32)))).1) ?_
  show Steps p.tables e below (T11.setTop (mkF m 169 #[.val (.int i0), .val (.int i1), .val (.int i2), .val (.int i3), .val (.int i4), .val (.ref o5), .val (.int (Int32.ofNat lo)), .val (.int (Int32.ofNat hi)), .val (.int i8), .val (.ref b6), .val (.ref T7.heap.size), .unset, .unset] [])) _
  refine XS.aload X11.here hx rfl (hb hby at_169) rfl rfl ?_
  show Steps p.tables e below (T11.setTop (mkF m 171 #[.val (.int i0), .val (.int i1), .val (.int i2), .val (.int i3), .val (.int i4), .val (.ref o5), .val (.int (Int32.ofNat lo)), .val (.int (Int32.ofNat hi)), .val (.int i8), .val (.ref b6), .val (.ref T7.heap.size), .unset, .unset] [(.ref T7.heap.size)])) _
  refine XS.aload X11.here hx rfl (hb hby at_171) rfl rfl ?_
  show Steps p.tables e below (T11.setTop (mkF m 173 #[.val (.int i0), .val (.int i1), .val (.int i2), .val (.int i3), .val (.int i4), .val (.ref o5), .val (.int (Int32.ofNat lo)), .val (.int (Int32.ofNat hi)), .val (.int i8), .val (.ref b6), .val (.ref T7.heap.size), .unset, .unset] [(.ref o5), (.ref T7.heap.size)])) _
  refine XS.iload X11.here hx rfl (hb hby at_173) rfl ?_
  show Steps p.tables e below (T11.setTop (mkF m 175 #[.val (.int i0), .val (.int i1), .val (.int i2), .val (.int i3), .val (.int i4), .val (.ref o5), .val (.int (Int32.ofNat lo)), .val (.int (Int32.ofNat hi)), .val (.int i8), .val (.ref b6), .val (.ref T7.heap.size), .unset, .unset] [(.int (Int32.ofNat lo)), (.ref o5), (.ref T7.heap.size)])) _
  refine XS.iconst X11.here hx rfl (hb hby at_175) ?_
  show Steps p.tables e below (T11.setTop (mkF m 176 #[.val (.int i0), .val (.int i1), .val (.int i2), .val (.int i3), .val (.int i4), .val (.ref o5), .val (.int (Int32.ofNat lo)), .val (.int (Int32.ofNat hi)), .val (.int i8), .val (.ref b6), .val (.ref T7.heap.size), .unset, .unset] [(.int (3 : Int32)), (.int (Int32.ofNat lo)), (.ref o5), (.ref T7.heap.size)])) _
  refine st12 _ ?_
  show Steps p.tables e below (T12.setTop (mkF m 179 #[.val (.int i0), .val (.int i1), .val (.int i2), .val (.int i3), .val (.int i4), .val (.ref o5), .val (.int (Int32.ofNat lo)), .val (.int (Int32.ofNat hi)), .val (.int i8), .val (.ref b6), .val (.ref T7.heap.size), .unset, .unset] [(.int (1 : Int32))])) _
  refine XS.ifYes X12.here hx rfl (pc0 := 179) (pc' := 184) rfl (hb hby at_179) rfl ((if0 _ _).trans (feq (by decide : ¬ ((1 : Int32) = (0 : Int32)))).2) (by decide) (by decide) ?_
  show Steps p.tables e below (T12.setTop (mkF m 184 #[.val (.int i0), .val (.int i1), .val (.int i2), .val (.int i3), .val (.int i4), .val (.ref o5), .val (.int (Int32.ofNat lo)), .val (.int (Int32.ofNat hi)), .val (.int i8), .val (.ref b6), .val (.ref T7.heap.size), .unset, .unset] [])) _
  refine XS.aload X12.here hx rfl (hb hby at_184) rfl rfl ?_
  show Steps p.tables e below (T12.setTop (mkF m 186 #[.val (.int i0), .val (.int i1), .val (.int i2), .val (.int i3), .val (.int i4), .val (.ref o5), .val (.int (Int32.ofNat lo)), .val (.int (Int32.ofNat hi)), .val (.int i8), .val (.ref b6), .val (.ref T7.heap.size), .unset, .unset] [(.ref o5)])) _
  refine XS.iloadN X12.here hx rfl (hb hby at_186) rfl ?_
  show Steps p.tables e below (T12.setTop (mkF m 187 #[.val (.int i0), .val (.int i1), .val (.int i2), .val (.int i3), .val (.int i4), .val (.ref o5), .val (.int (Int32.ofNat lo)), .val (.int (Int32.ofNat hi)), .val (.int i8), .val (.ref b6), .val (.ref T7.heap.size), .unset, .unset] [(.int i0), (.ref o5)])) _
  refine st13 _ ?_
  show Steps p.tables e below (T13.setTop (mkF m 190 #[.val (.int i0), .val (.int i1), .val (.int i2), .val (.int i3), .val (.int i4), .val (.ref o5), .val (.int (Int32.ofNat lo)), .val (.int (Int32.ofNat hi)), .val (.int i8), .val (.ref b6), .val (.ref T7.heap.size), .unset, .unset] [(.int (1 : Int32))])) _
  refine XS.ifYes X13.here hx rfl (pc0 := 190) (pc' := 195) rfl (hb hby at_190) rfl ((if0 _ _).trans (feq (by decide : ¬ ((1 : Int32) = (0 : Int32)))).2) (by decide) (by decide) ?_
  exact kt
set_option maxRecDepth 65536 in
set_option maxHeartbeats 40000000 in
theorem sgD1 {p : Program} {l : Launch} {e : Env} {s : State} {m : MethodId} {args : Array Value} {below : List Frame} {meth : Method} {c : Code} {T0 : State} {locs : List Loc} {Z : State} {a0 : Array Value} {h0 : Heap} (i0 : Int32) (i1 : Int32) (i2 : Int32) (i3 : Int32) (i4 : Int32) (o5 : Addr) (lo : Nat) (hi : Nat) (i8 : Int32) (o9 : Addr) (o10 : Addr)
    (X0 : Stand p l e room_1 s m args below meth c T0 locs 3 13) (hx : p.tables.exec = Jvm.exec) (hZ : Z.Warmed39 s.vm) (hw : ∀ d ∈ tables_1, d.before a0 Z = true) (hby : c.code = code) (hml : c.maxLocals = 13) (hown : s.vm.findClass "com/example/consentry/consentry/timestamp/ElementEncodedPinLaw" = some m.cls) (e0 : T0.heap = h0) (n0 : Nat) (Z0 : n0 ≤ h0.size) (N0 : Fr n0 locs) (A B : Cell) (S : own_src Z h0 o5 A i0) (R10 : own_cut Z h0 o10 B lo hi i0) (hlo : lo ≤ hi) (hhi : hi ≤ 4) (hc198 : ¬ ((0 : Int32) < Int32.ofNat (hi - lo))) :
    ∃ (T' : State), Stand p l e room_1 s m args below meth c T' locs 3 13 ∧ T'.heap = h0 ∧
      ∀ target, Steps p.tables e below (T'.setTop (mkF m 265 #[.val (.int i0), .val (.int i1), .val (.int i2), .val (.int i3), .val (.int i4), .val (.ref o5), .val (.int (Int32.ofNat lo)), .val (.int (Int32.ofNat hi)), .val (.int i8), .val (.ref o9), .val (.ref o10), .unset, .unset] [])) target → Steps p.tables e below (T0.setTop (mkF m 195 #[.val (.int i0), .val (.int i1), .val (.int i2), .val (.int i3), .val (.int i4), .val (.ref o5), .val (.int (Int32.ofNat lo)), .val (.int (Int32.ofNat hi)), .val (.int i8), .val (.ref o9), .val (.ref o10), .unset, .unset] [])) target := by
  -- 3. LAWS

  refine ⟨T0, X0, e0, fun target kt => ?_⟩
  -- 4. STEPS
  show Steps p.tables e below (T0.setTop (mkF m 195 #[.val (.int i0), .val (.int i1), .val (.int i2), .val (.int i3), .val (.int i4), .val (.ref o5), .val (.int (Int32.ofNat lo)), .val (.int (Int32.ofNat hi)), .val (.int i8), .val (.ref o9), .val (.ref o10), .unset, .unset] [])) _
  refine XS.aload X0.here hx rfl (hb hby at_195) rfl rfl ?_
  show Steps p.tables e below (T0.setTop (mkF m 197 #[.val (.int i0), .val (.int i1), .val (.int i2), .val (.int i3), .val (.int i4), .val (.ref o5), .val (.int (Int32.ofNat lo)), .val (.int (Int32.ofNat hi)), .val (.int i8), .val (.ref o9), .val (.ref o10), .unset, .unset] [(.ref o10)])) _
  refine X0.arraylength hx (by rw [e0]; exact R10.1.1) (State.isArrayOf_alike hZ.alike R10.1.2.1) (g := (mkF m 197 #[.val (.int i0), .val (.int i1), .val (.int i2), .val (.int i3), .val (.int i4), .val (.ref o5), .val (.int (Int32.ofNat lo)), .val (.int (Int32.ofNat hi)), .val (.int i8), .val (.ref o9), .val (.ref o10), .unset, .unset] [(.ref o10)])) rfl rfl (hb hby at_197) _ ?_
  rw [len_of (show B.slots.size = (Int32.ofNat (hi - lo)).toNatClampNeg by rw [(own_n (show hi - lo < 9 by omega)).1]; exact R10.2.1) (own_n (show hi - lo < 9 by omega)).2]
  show Steps p.tables e below (T0.setTop (mkF m 198 #[.val (.int i0), .val (.int i1), .val (.int i2), .val (.int i3), .val (.int i4), .val (.ref o5), .val (.int (Int32.ofNat lo)), .val (.int (Int32.ofNat hi)), .val (.int i8), .val (.ref o9), .val (.ref o10), .unset, .unset] [(.int (Int32.ofNat (hi - lo)))])) _
  refine XS.ifYes X0.here hx rfl (pc0 := 198) (pc' := 265) rfl (hb hby at_198) rfl ((if0 _ _).trans (flt hc198).2.2.2) (by decide) (by decide) ?_
  exact kt
set_option maxRecDepth 65536 in
set_option maxHeartbeats 40000000 in
theorem sgD2 {p : Program} {l : Launch} {e : Env} {s : State} {m : MethodId} {args : Array Value} {below : List Frame} {meth : Method} {c : Code} {T0 : State} {locs : List Loc} {Z : State} {a0 : Array Value} {h0 : Heap} (i0 : Int32) (i1 : Int32) (i2 : Int32) (i3 : Int32) (i4 : Int32) (o5 : Addr) (lo : Nat) (hi : Nat) (i8 : Int32) (o9 : Addr) (o10 : Addr)
    (X0 : Stand p l e room_1 s m args below meth c T0 locs 3 13) (hx : p.tables.exec = Jvm.exec) (hZ : Z.Warmed39 s.vm) (hw : ∀ d ∈ tables_1, d.before a0 Z = true) (hby : c.code = code) (hml : c.maxLocals = 13) (hown : s.vm.findClass "com/example/consentry/consentry/timestamp/ElementEncodedPinLaw" = some m.cls) (e0 : T0.heap = h0) (n0 : Nat) (Z0 : n0 ≤ h0.size) (N0 : Fr n0 locs) (A B : Cell) (S : own_src Z h0 o5 A i0) (R10 : own_cut Z h0 o10 B lo hi i0) (hlo : lo ≤ hi) (hhi : hi ≤ 4) (E_o9 : Exa Z h0 o9 "com/example/consentry/consentry/timestamp/Der$Element") (F_s : Fld Z h0 o9 "com/example/consentry/consentry/timestamp/Der$Element" "source" "[B" (.ref o5)) (F_t : Fld Z h0 o9 "com/example/consentry/consentry/timestamp/Der$Element" "start" "I" (.int (Int32.ofNat lo))) (F_n : Fld Z h0 o9 "com/example/consentry/consentry/timestamp/Der$Element" "end" "I" (.int (Int32.ofNat hi))) (n5 : o10 ≠ o5) (n9 : o10 ≠ o9) (g_o10 : n0 ≤ o10) (hc198 : (0 : Int32) < Int32.ofNat (hi - lo)) :
    ∃ (T' : State) (h' : Heap) (locs' : List Loc) (s11 s12 : Slot), Stand p l e room_1 s m args below meth c T' locs' 4 17 ∧ T'.heap = h' ∧ (n0 ≤ h'.size ∧ Fr n0 locs' ∧ own_src Z h' o5 A i0) ∧
      ∀ target, Steps p.tables e below (T'.setTop (mkF m 265 #[.val (.int i0), .val (.int i1), .val (.int i2), .val (.int i3), .val (.int i4), .val (.ref o5), .val (.int (Int32.ofNat lo)), .val (.int (Int32.ofNat hi)), .val (.int i8), .val (.ref o9), .val (.ref o10), s11, s12] [])) target → Steps p.tables e below (T0.setTop (mkF m 195 #[.val (.int i0), .val (.int i1), .val (.int i2), .val (.int i3), .val (.int i4), .val (.ref o5), .val (.int (Int32.ofNat lo)), .val (.int (Int32.ofNat hi)), .val (.int i8), .val (.ref o9), .val (.ref o10), .unset, .unset] [])) target := by
  -- 3. LAWS
  have hlt : lo < hi := by
    have := own_lt (a := 0) (by omega) (show hi - lo < 5 by omega) hc198
    omega
  have S_o10 : B.slots.size = (Int32.ofNat (hi - lo)).toNatClampNeg := by rw [(own_n (show hi - lo < 9 by omega)).1]; exact R10.2.1
  have N_o10 : ¬ Int32.ofNat (hi - lo) < 0 := (own_n (show hi - lo < 9 by omega)).2
  have hin205 : ¬ ((Int32.ofNat lo) < 0 ∨ A.slots.size ≤ ((Int32.ofNat lo)).toNatClampNeg) := own_in (by omega) (by rw [S.2.2.1]; omega)
  have hat205 : A.slots[((Int32.ofNat lo)).toNatClampNeg]? = some (.int (own_sv i0 lo)) := by rw [(own_n (show lo < 9 by omega)).1]; exact S.2.2.2 lo (by omega)
  have hin214 : ¬ ((0 : Int32) < 0 ∨ B.slots.size ≤ ((0 : Int32)).toNatClampNeg) := own_in (n := 0) (by decide) (by rw [R10.2.1]; omega)
  have hat214 : B.slots[((0 : Int32)).toNatClampNeg]? = some (.int (own_sv i0 lo)) := R10.2.2 0 (by omega)
  obtain ⟨T8, h8, X8, e8, W8, st8⟩ := stB X0 hx hZ e0 R10.1 (j := (0 : Int32)) hin214 (g := (mkF m 218 #[.val (.int i0), .val (.int i1), .val (.int i2), .val (.int i3), .val (.int i4), .val (.ref o5), .val (.int (Int32.ofNat lo)), .val (.int (Int32.ofNat hi)), .val (.int i8), .val (.ref o9), .val (.ref o10), .val (.int (own_sv i0 lo)), .unset] [(.int (((own_sv i0 lo) ^^^ (1 : Int32)).toInt8.toInt32)), (.int (0 : Int32)), (.ref o10)])) rfl rfl (hb hby at_218)
  have N8 := Fr.snoc X8 N0 g_o10
  have S8 : own_src Z h8 o5 A i0 := S.other W8 (Ne.symm n5)
  have Z8 : n0 ≤ h8.size := Nat.le_trans Z0 (Keep.of_wr W8).1
  -- R10.1.same W8 : the array with (.int (((own_sv i0 lo) ^^^ (1 : Int32)).toInt8.toInt32)) at the place (0 : Int32)
  have K8 : Keep h0 h8 [o10] := (Keep.refl h0 [o10]).wr W8 (Or.inl (List.mem_of_getElem? (i := 0) rfl))
  -- pc 233: com/example/consentry/consentry/timestamp/Der$Element.encoded by the contract of the body that the receiver's class selects, rm4
  obtain ⟨cq10, kq10, q10a, q10b, q10c⟩ := isOf hZ e8 (E_o9.wr W8)
  obtain ⟨_, _, ⟨T10, L10, k10, n10⟩, -, X10, ⟨Lc10, hQ10, l10, y10, z10⟩, st10⟩ := X8.virtualBack hx (y := (⟨"com/example/consentry/consentry/timestamp/Der$Element", "encoded", "()[B"⟩ : MethodName)) (z := (⟨"com/example/consentry/consentry/timestamp/Der$Element", "encoded", "()[B"⟩ : MethodName)) hown (mvT hZ (hw _ (List.mem_of_getElem? (i := 26) rfl))) (mvT hZ (hw _ (List.mem_of_getElem? (i := 27) rfl))) (notFace_of_selects (args := #[]) (mvT hZ (hw _ (List.mem_of_getElem? (i := 29) rfl)))) (mvT hZ (hw _ (List.mem_of_getElem? (i := 29) rfl))) (mvT hZ (hw _ (List.mem_of_getElem? (i := 28) rfl))) (by decide) (backOf (W := 0) (rm4 l Z a0 hw [] o9 o5 A lo hi i0 h8 n0 Z8 (F_s.other W8 (Or.inl (Ne.symm n9))) (F_t.other W8 (Or.inl (Ne.symm n9))) (F_n.other W8 (Or.inl (Ne.symm n9))) S8 hlo hhi) hZ (hw _ (List.mem_of_getElem? (i := 30) rfl)) (hw _ (List.mem_of_getElem? (i := 4) rfl)) (by decide) (by decide)) q10a q10c (g := (mkF m 233 #[.val (.int i0), .val (.int i1), .val (.int i2), .val (.int i3), .val (.int i4), .val (.ref o5), .val (.int (Int32.ofNat lo)), .val (.int (Int32.ofNat hi)), .val (.int i8), .val (.ref o9), .val (.ref o10), .val (.int (own_sv i0 lo)), .unset] [(.ref o9)])) rfl (by rw [hml]; rfl) (Steps.refl _) (argsL := []) (rest := []) (lenOf pd_0_2 rfl) rfl (by show 2 * 0 + _ ≤ _; exact Nat.le_of_eq rfl) (hb hby at_233) (fun _ _ => ⟨rfl, e8, (by decide : 3 + 1 ≤ _), (by decide : 13 + 4 ≤ _)⟩)
  dsimp only [Pt.U, Pt.locs, Pt.cells, Pt.slots] at X10 l10 y10 z10 st10 hQ10
  subst l10 y10 z10
  obtain ⟨B4, rfl, N10q, E4x, R4x⟩ := hQ10
  have hz : B4.slots.size = (Int32.ofNat (hi - lo)).toNatClampNeg := by rw [(own_n (show hi - lo < 9 by omega)).1]; exact R4x.2.1
  have hin257 : ¬ ((0 : Int32) < 0 ∨ B4.slots.size ≤ ((0 : Int32)).toNatClampNeg) := own_in (n := 0) (by decide) (by rw [R4x.2.1]; omega)
  have hat257 : B4.slots[((0 : Int32)).toNatClampNeg]? = some (.int (own_sv i0 lo)) := R4x.2.2 0 (by omega)
  have N10 := Fr.app N8 N10q
  refine ⟨T10, _, _, .val (.int (own_sv i0 lo)), .val (.ref h8.size), X10, rfl, ⟨Nat.le_trans Z8 E4x.1, N10, S8.ext E4x⟩, fun target kt => ?_⟩
  -- 4. STEPS
  show Steps p.tables e below (T0.setTop (mkF m 195 #[.val (.int i0), .val (.int i1), .val (.int i2), .val (.int i3), .val (.int i4), .val (.ref o5), .val (.int (Int32.ofNat lo)), .val (.int (Int32.ofNat hi)), .val (.int i8), .val (.ref o9), .val (.ref o10), .unset, .unset] [])) _
  refine XS.aload X0.here hx rfl (hb hby at_195) rfl rfl ?_
  show Steps p.tables e below (T0.setTop (mkF m 197 #[.val (.int i0), .val (.int i1), .val (.int i2), .val (.int i3), .val (.int i4), .val (.ref o5), .val (.int (Int32.ofNat lo)), .val (.int (Int32.ofNat hi)), .val (.int i8), .val (.ref o9), .val (.ref o10), .unset, .unset] [(.ref o10)])) _
  refine X0.arraylength hx (by rw [e0]; exact R10.1.1) (State.isArrayOf_alike hZ.alike R10.1.2.1) (g := (mkF m 197 #[.val (.int i0), .val (.int i1), .val (.int i2), .val (.int i3), .val (.int i4), .val (.ref o5), .val (.int (Int32.ofNat lo)), .val (.int (Int32.ofNat hi)), .val (.int i8), .val (.ref o9), .val (.ref o10), .unset, .unset] [(.ref o10)])) rfl rfl (hb hby at_197) _ ?_
  rw [len_of S_o10 N_o10]
  show Steps p.tables e below (T0.setTop (mkF m 198 #[.val (.int i0), .val (.int i1), .val (.int i2), .val (.int i3), .val (.int i4), .val (.ref o5), .val (.int (Int32.ofNat lo)), .val (.int (Int32.ofNat hi)), .val (.int i8), .val (.ref o9), .val (.ref o10), .unset, .unset] [(.int (Int32.ofNat (hi - lo)))])) _
  refine XS.ifNo X0.here hx rfl (hb hby at_198) rfl ((if0 _ _).trans (tlt hc198).2.2.2) ?_
  show Steps p.tables e below (T0.setTop (mkF m 201 #[.val (.int i0), .val (.int i1), .val (.int i2), .val (.int i3), .val (.int i4), .val (.ref o5), .val (.int (Int32.ofNat lo)), .val (.int (Int32.ofNat hi)), .val (.int i8), .val (.ref o9), .val (.ref o10), .unset, .unset] [])) _
  refine XS.aload X0.here hx rfl (hb hby at_201) rfl rfl ?_
  show Steps p.tables e below (T0.setTop (mkF m 203 #[.val (.int i0), .val (.int i1), .val (.int i2), .val (.int i3), .val (.int i4), .val (.ref o5), .val (.int (Int32.ofNat lo)), .val (.int (Int32.ofNat hi)), .val (.int i8), .val (.ref o9), .val (.ref o10), .unset, .unset] [(.ref o5)])) _
  refine XS.iload X0.here hx rfl (hb hby at_203) rfl ?_
  show Steps p.tables e below (T0.setTop (mkF m 205 #[.val (.int i0), .val (.int i1), .val (.int i2), .val (.int i3), .val (.int i4), .val (.ref o5), .val (.int (Int32.ofNat lo)), .val (.int (Int32.ofNat hi)), .val (.int i8), .val (.ref o9), .val (.ref o10), .unset, .unset] [(.int (Int32.ofNat lo)), (.ref o5)])) _
  refine X0.baloadBytes hx (j := (Int32.ofNat lo)) (v := (.int (own_sv i0 lo))) (by rw [e0]; exact S.1.1) (State.isArrayOf_alike hZ.alike S.1.2.1) S.1.2.2 hin205 hat205 (g := (mkF m 205 #[.val (.int i0), .val (.int i1), .val (.int i2), .val (.int i3), .val (.int i4), .val (.ref o5), .val (.int (Int32.ofNat lo)), .val (.int (Int32.ofNat hi)), .val (.int i8), .val (.ref o9), .val (.ref o10), .unset, .unset] [(.int (Int32.ofNat lo)), (.ref o5)])) rfl rfl (hb hby at_205) _ ?_
  show Steps p.tables e below (T0.setTop (mkF m 206 #[.val (.int i0), .val (.int i1), .val (.int i2), .val (.int i3), .val (.int i4), .val (.ref o5), .val (.int (Int32.ofNat lo)), .val (.int (Int32.ofNat hi)), .val (.int i8), .val (.ref o9), .val (.ref o10), .unset, .unset] [(.int (own_sv i0 lo))])) _
  refine XS.istore X0.here hx rfl (hb hby at_206) rfl (l' := #[.val (.int i0), .val (.int i1), .val (.int i2), .val (.int i3), .val (.int i4), .val (.ref o5), .val (.int (Int32.ofNat lo)), .val (.int (Int32.ofNat hi)), .val (.int i8), .val (.ref o9), .val (.ref o10), .val (.int (own_sv i0 lo)), .unset]) rfl ?_
  show Steps p.tables e below (T0.setTop (mkF m 208 #[.val (.int i0), .val (.int i1), .val (.int i2), .val (.int i3), .val (.int i4), .val (.ref o5), .val (.int (Int32.ofNat lo)), .val (.int (Int32.ofNat hi)), .val (.int i8), .val (.ref o9), .val (.ref o10), .val (.int (own_sv i0 lo)), .unset] [])) _
  refine XS.aload X0.here hx rfl (hb hby at_208) rfl rfl ?_
  show Steps p.tables e below (T0.setTop (mkF m 210 #[.val (.int i0), .val (.int i1), .val (.int i2), .val (.int i3), .val (.int i4), .val (.ref o5), .val (.int (Int32.ofNat lo)), .val (.int (Int32.ofNat hi)), .val (.int i8), .val (.ref o9), .val (.ref o10), .val (.int (own_sv i0 lo)), .unset] [(.ref o10)])) _
  refine XS.iconst X0.here hx rfl (hb hby at_210) ?_
  show Steps p.tables e below (T0.setTop (mkF m 211 #[.val (.int i0), .val (.int i1), .val (.int i2), .val (.int i3), .val (.int i4), .val (.ref o5), .val (.int (Int32.ofNat lo)), .val (.int (Int32.ofNat hi)), .val (.int i8), .val (.ref o9), .val (.ref o10), .val (.int (own_sv i0 lo)), .unset] [(.int (0 : Int32)), (.ref o10)])) _
  refine XS.aload X0.here hx rfl (hb hby at_211) rfl rfl ?_
  show Steps p.tables e below (T0.setTop (mkF m 213 #[.val (.int i0), .val (.int i1), .val (.int i2), .val (.int i3), .val (.int i4), .val (.ref o5), .val (.int (Int32.ofNat lo)), .val (.int (Int32.ofNat hi)), .val (.int i8), .val (.ref o9), .val (.ref o10), .val (.int (own_sv i0 lo)), .unset] [(.ref o10), (.int (0 : Int32)), (.ref o10)])) _
  refine XS.iconst X0.here hx rfl (hb hby at_213) ?_
  show Steps p.tables e below (T0.setTop (mkF m 214 #[.val (.int i0), .val (.int i1), .val (.int i2), .val (.int i3), .val (.int i4), .val (.ref o5), .val (.int (Int32.ofNat lo)), .val (.int (Int32.ofNat hi)), .val (.int i8), .val (.ref o9), .val (.ref o10), .val (.int (own_sv i0 lo)), .unset] [(.int (0 : Int32)), (.ref o10), (.int (0 : Int32)), (.ref o10)])) _
  refine X0.baloadBytes hx (j := (0 : Int32)) (v := (.int (own_sv i0 lo))) (by rw [e0]; exact R10.1.1) (State.isArrayOf_alike hZ.alike R10.1.2.1) R10.1.2.2 hin214 hat214 (g := (mkF m 214 #[.val (.int i0), .val (.int i1), .val (.int i2), .val (.int i3), .val (.int i4), .val (.ref o5), .val (.int (Int32.ofNat lo)), .val (.int (Int32.ofNat hi)), .val (.int i8), .val (.ref o9), .val (.ref o10), .val (.int (own_sv i0 lo)), .unset] [(.int (0 : Int32)), (.ref o10), (.int (0 : Int32)), (.ref o10)])) rfl rfl (hb hby at_214) _ ?_
  show Steps p.tables e below (T0.setTop (mkF m 215 #[.val (.int i0), .val (.int i1), .val (.int i2), .val (.int i3), .val (.int i4), .val (.ref o5), .val (.int (Int32.ofNat lo)), .val (.int (Int32.ofNat hi)), .val (.int i8), .val (.ref o9), .val (.ref o10), .val (.int (own_sv i0 lo)), .unset] [(.int (own_sv i0 lo)), (.int (0 : Int32)), (.ref o10)])) _
  refine XS.iconst X0.here hx rfl (hb hby at_215) ?_
  show Steps p.tables e below (T0.setTop (mkF m 216 #[.val (.int i0), .val (.int i1), .val (.int i2), .val (.int i3), .val (.int i4), .val (.ref o5), .val (.int (Int32.ofNat lo)), .val (.int (Int32.ofNat hi)), .val (.int i8), .val (.ref o9), .val (.ref o10), .val (.int (own_sv i0 lo)), .unset] [(.int (1 : Int32)), (.int (own_sv i0 lo)), (.int (0 : Int32)), (.ref o10)])) _
  refine XS.ixor X0.here hx rfl (hb hby at_216) rfl ?_
  show Steps p.tables e below (T0.setTop (mkF m 217 #[.val (.int i0), .val (.int i1), .val (.int i2), .val (.int i3), .val (.int i4), .val (.ref o5), .val (.int (Int32.ofNat lo)), .val (.int (Int32.ofNat hi)), .val (.int i8), .val (.ref o9), .val (.ref o10), .val (.int (own_sv i0 lo)), .unset] [(.int ((own_sv i0 lo) ^^^ (1 : Int32))), (.int (0 : Int32)), (.ref o10)])) _
  refine XS.i2b X0.here hx rfl (hb hby at_217) rfl ?_
  show Steps p.tables e below (T0.setTop (mkF m 218 #[.val (.int i0), .val (.int i1), .val (.int i2), .val (.int i3), .val (.int i4), .val (.ref o5), .val (.int (Int32.ofNat lo)), .val (.int (Int32.ofNat hi)), .val (.int i8), .val (.ref o9), .val (.ref o10), .val (.int (own_sv i0 lo)), .unset] [(.int (((own_sv i0 lo) ^^^ (1 : Int32)).toInt8.toInt32)), (.int (0 : Int32)), (.ref o10)])) _
  refine st8 _ ?_
  show Steps p.tables e below (T8.setTop (mkF m 219 #[.val (.int i0), .val (.int i1), .val (.int i2), .val (.int i3), .val (.int i4), .val (.ref o5), .val (.int (Int32.ofNat lo)), .val (.int (Int32.ofNat hi)), .val (.int i8), .val (.ref o9), .val (.ref o10), .val (.int (own_sv i0 lo)), .unset] [])) _
  refine XS.aload X8.here hx rfl (hb hby at_219) rfl rfl ?_
  show Steps p.tables e below (T8.setTop (mkF m 221 #[.val (.int i0), .val (.int i1), .val (.int i2), .val (.int i3), .val (.int i4), .val (.ref o5), .val (.int (Int32.ofNat lo)), .val (.int (Int32.ofNat hi)), .val (.int i8), .val (.ref o9), .val (.ref o10), .val (.int (own_sv i0 lo)), .unset] [(.ref o5)])) _
  refine XS.iload X8.here hx rfl (hb hby at_221) rfl ?_
  show Steps p.tables e below (T8.setTop (mkF m 223 #[.val (.int i0), .val (.int i1), .val (.int i2), .val (.int i3), .val (.int i4), .val (.ref o5), .val (.int (Int32.ofNat lo)), .val (.int (Int32.ofNat hi)), .val (.int i8), .val (.ref o9), .val (.ref o10), .val (.int (own_sv i0 lo)), .unset] [(.int (Int32.ofNat lo)), (.ref o5)])) _
  refine X8.baloadBytes hx (j := (Int32.ofNat lo)) (v := (.int (own_sv i0 lo))) (by rw [e8]; exact S8.1.1) (State.isArrayOf_alike hZ.alike S8.1.2.1) S8.1.2.2 hin205 hat205 (g := (mkF m 223 #[.val (.int i0), .val (.int i1), .val (.int i2), .val (.int i3), .val (.int i4), .val (.ref o5), .val (.int (Int32.ofNat lo)), .val (.int (Int32.ofNat hi)), .val (.int i8), .val (.ref o9), .val (.ref o10), .val (.int (own_sv i0 lo)), .unset] [(.int (Int32.ofNat lo)), (.ref o5)])) rfl rfl (hb hby at_223) _ ?_
  show Steps p.tables e below (T8.setTop (mkF m 224 #[.val (.int i0), .val (.int i1), .val (.int i2), .val (.int i3), .val (.int i4), .val (.ref o5), .val (.int (Int32.ofNat lo)), .val (.int (Int32.ofNat hi)), .val (.int i8), .val (.ref o9), .val (.ref o10), .val (.int (own_sv i0 lo)), .unset] [(.int (own_sv i0 lo))])) _
  refine XS.iload X8.here hx rfl (hb hby at_224) rfl ?_
  show Steps p.tables e below (T8.setTop (mkF m 226 #[.val (.int i0), .val (.int i1), .val (.int i2), .val (.int i3), .val (.int i4), .val (.ref o5), .val (.int (Int32.ofNat lo)), .val (.int (Int32.ofNat hi)), .val (.int i8), .val (.ref o9), .val (.ref o10), .val (.int (own_sv i0 lo)), .unset] [(.int (own_sv i0 lo)), (.int (own_sv i0 lo))])) _
  refine XS.icmpYes X8.here hx rfl (pc0 := 226) (pc' := 231) rfl (hb hby at_226) rfl (teq (rfl : (own_sv i0 lo) = (own_sv i0 lo))).1 (by decide) (by decide) ?_
  show Steps p.tables e below (T8.setTop (mkF m 231 #[.val (.int i0), .val (.int i1), .val (.int i2), .val (.int i3), .val (.int i4), .val (.ref o5), .val (.int (Int32.ofNat lo)), .val (.int (Int32.ofNat hi)), .val (.int i8), .val (.ref o9), .val (.ref o10), .val (.int (own_sv i0 lo)), .unset] [])) _
  refine XS.aload X8.here hx rfl (hb hby at_231) rfl rfl ?_
  show Steps p.tables e below (T8.setTop (mkF m 233 #[.val (.int i0), .val (.int i1), .val (.int i2), .val (.int i3), .val (.int i4), .val (.ref o5), .val (.int (Int32.ofNat lo)), .val (.int (Int32.ofNat hi)), .val (.int i8), .val (.ref o9), .val (.ref o10), .val (.int (own_sv i0 lo)), .unset] [(.ref o9)])) _
  refine st10.trans ?_
  show Steps p.tables e below (T10.setTop (mkF m 236 #[.val (.int i0), .val (.int i1), .val (.int i2), .val (.int i3), .val (.int i4), .val (.ref o5), .val (.int (Int32.ofNat lo)), .val (.int (Int32.ofNat hi)), .val (.int i8), .val (.ref o9), .val (.ref o10), .val (.int (own_sv i0 lo)), .unset] [(.ref h8.size)])) _
  refine XS.astore X10.here hx rfl (hb hby at_236) rfl rfl (l' := #[.val (.int i0), .val (.int i1), .val (.int i2), .val (.int i3), .val (.int i4), .val (.ref o5), .val (.int (Int32.ofNat lo)), .val (.int (Int32.ofNat hi)), .val (.int i8), .val (.ref o9), .val (.ref o10), .val (.int (own_sv i0 lo)), .val (.ref h8.size)]) rfl ?_
  show Steps p.tables e below (T10.setTop (mkF m 238 #[.val (.int i0), .val (.int i1), .val (.int i2), .val (.int i3), .val (.int i4), .val (.ref o5), .val (.int (Int32.ofNat lo)), .val (.int (Int32.ofNat hi)), .val (.int i8), .val (.ref o9), .val (.ref o10), .val (.int (own_sv i0 lo)), .val (.ref h8.size)] [])) _
  refine XS.aload X10.here hx rfl (hb hby at_238) rfl rfl ?_
  show Steps p.tables e below (T10.setTop (mkF m 240 #[.val (.int i0), .val (.int i1), .val (.int i2), .val (.int i3), .val (.int i4), .val (.ref o5), .val (.int (Int32.ofNat lo)), .val (.int (Int32.ofNat hi)), .val (.int i8), .val (.ref o9), .val (.ref o10), .val (.int (own_sv i0 lo)), .val (.ref h8.size)] [(.ref h8.size)])) _
  refine XS.ifnullNo X10.here hx rfl (hb hby at_240) rfl ?_
  show Steps p.tables e below (T10.setTop (mkF m 243 #[.val (.int i0), .val (.int i1), .val (.int i2), .val (.int i3), .val (.int i4), .val (.ref o5), .val (.int (Int32.ofNat lo)), .val (.int (Int32.ofNat hi)), .val (.int i8), .val (.ref o9), .val (.ref o10), .val (.int (own_sv i0 lo)), .val (.ref h8.size)] [])) _
  refine XS.aload X10.here hx rfl (hb hby at_243) rfl rfl ?_
  show Steps p.tables e below (T10.setTop (mkF m 245 #[.val (.int i0), .val (.int i1), .val (.int i2), .val (.int i3), .val (.int i4), .val (.ref o5), .val (.int (Int32.ofNat lo)), .val (.int (Int32.ofNat hi)), .val (.int i8), .val (.ref o9), .val (.ref o10), .val (.int (own_sv i0 lo)), .val (.ref h8.size)] [(.ref h8.size)])) _
  refine X10.arraylength hx R4x.1.1 (State.isArrayOf_alike hZ.alike R4x.1.2.1) (g := (mkF m 245 #[.val (.int i0), .val (.int i1), .val (.int i2), .val (.int i3), .val (.int i4), .val (.ref o5), .val (.int (Int32.ofNat lo)), .val (.int (Int32.ofNat hi)), .val (.int i8), .val (.ref o9), .val (.ref o10), .val (.int (own_sv i0 lo)), .val (.ref h8.size)] [(.ref h8.size)])) rfl rfl (hb hby at_245) _ ?_
  rw [len_of hz N_o10]
  show Steps p.tables e below (T10.setTop (mkF m 246 #[.val (.int i0), .val (.int i1), .val (.int i2), .val (.int i3), .val (.int i4), .val (.ref o5), .val (.int (Int32.ofNat lo)), .val (.int (Int32.ofNat hi)), .val (.int i8), .val (.ref o9), .val (.ref o10), .val (.int (own_sv i0 lo)), .val (.ref h8.size)] [(.int (Int32.ofNat (hi - lo)))])) _
  refine XS.iload X10.here hx rfl (hb hby at_246) rfl ?_
  show Steps p.tables e below (T10.setTop (mkF m 248 #[.val (.int i0), .val (.int i1), .val (.int i2), .val (.int i3), .val (.int i4), .val (.ref o5), .val (.int (Int32.ofNat lo)), .val (.int (Int32.ofNat hi)), .val (.int i8), .val (.ref o9), .val (.ref o10), .val (.int (own_sv i0 lo)), .val (.ref h8.size)] [(.int (Int32.ofNat hi)), (.int (Int32.ofNat (hi - lo)))])) _
  refine XS.iload X10.here hx rfl (hb hby at_248) rfl ?_
  show Steps p.tables e below (T10.setTop (mkF m 250 #[.val (.int i0), .val (.int i1), .val (.int i2), .val (.int i3), .val (.int i4), .val (.ref o5), .val (.int (Int32.ofNat lo)), .val (.int (Int32.ofNat hi)), .val (.int i8), .val (.ref o9), .val (.ref o10), .val (.int (own_sv i0 lo)), .val (.ref h8.size)] [(.int (Int32.ofNat lo)), (.int (Int32.ofNat hi)), (.int (Int32.ofNat (hi - lo)))])) _
  refine XS.isub X10.here hx rfl (hb hby at_250) rfl ?_
  show Steps p.tables e below (T10.setTop (mkF m 251 #[.val (.int i0), .val (.int i1), .val (.int i2), .val (.int i3), .val (.int i4), .val (.ref o5), .val (.int (Int32.ofNat lo)), .val (.int (Int32.ofNat hi)), .val (.int i8), .val (.ref o9), .val (.ref o10), .val (.int (own_sv i0 lo)), .val (.ref h8.size)] [(.int ((Int32.ofNat hi) - (Int32.ofNat lo))), (.int (Int32.ofNat (hi - lo)))])) _
  refine XS.icmpNo X10.here hx rfl (hb hby at_251) rfl (teq ((own_sub hlo hhi).symm : Int32.ofNat (hi - lo) = ((Int32.ofNat hi) - (Int32.ofNat lo)))).2 ?_
  show Steps p.tables e below (T10.setTop (mkF m 254 #[.val (.int i0), .val (.int i1), .val (.int i2), .val (.int i3), .val (.int i4), .val (.ref o5), .val (.int (Int32.ofNat lo)), .val (.int (Int32.ofNat hi)), .val (.int i8), .val (.ref o9), .val (.ref o10), .val (.int (own_sv i0 lo)), .val (.ref h8.size)] [])) _
  refine XS.aload X10.here hx rfl (hb hby at_254) rfl rfl ?_
  show Steps p.tables e below (T10.setTop (mkF m 256 #[.val (.int i0), .val (.int i1), .val (.int i2), .val (.int i3), .val (.int i4), .val (.ref o5), .val (.int (Int32.ofNat lo)), .val (.int (Int32.ofNat hi)), .val (.int i8), .val (.ref o9), .val (.ref o10), .val (.int (own_sv i0 lo)), .val (.ref h8.size)] [(.ref h8.size)])) _
  refine XS.iconst X10.here hx rfl (hb hby at_256) ?_
  show Steps p.tables e below (T10.setTop (mkF m 257 #[.val (.int i0), .val (.int i1), .val (.int i2), .val (.int i3), .val (.int i4), .val (.ref o5), .val (.int (Int32.ofNat lo)), .val (.int (Int32.ofNat hi)), .val (.int i8), .val (.ref o9), .val (.ref o10), .val (.int (own_sv i0 lo)), .val (.ref h8.size)] [(.int (0 : Int32)), (.ref h8.size)])) _
  refine X10.baloadBytes hx (j := (0 : Int32)) (v := (.int (own_sv i0 lo))) R4x.1.1 (State.isArrayOf_alike hZ.alike R4x.1.2.1) R4x.1.2.2 hin257 hat257 (g := (mkF m 257 #[.val (.int i0), .val (.int i1), .val (.int i2), .val (.int i3), .val (.int i4), .val (.ref o5), .val (.int (Int32.ofNat lo)), .val (.int (Int32.ofNat hi)), .val (.int i8), .val (.ref o9), .val (.ref o10), .val (.int (own_sv i0 lo)), .val (.ref h8.size)] [(.int (0 : Int32)), (.ref h8.size)])) rfl rfl (hb hby at_257) _ ?_
  show Steps p.tables e below (T10.setTop (mkF m 258 #[.val (.int i0), .val (.int i1), .val (.int i2), .val (.int i3), .val (.int i4), .val (.ref o5), .val (.int (Int32.ofNat lo)), .val (.int (Int32.ofNat hi)), .val (.int i8), .val (.ref o9), .val (.ref o10), .val (.int (own_sv i0 lo)), .val (.ref h8.size)] [(.int (own_sv i0 lo))])) _
  refine XS.iload X10.here hx rfl (hb hby at_258) rfl ?_
  show Steps p.tables e below (T10.setTop (mkF m 260 #[.val (.int i0), .val (.int i1), .val (.int i2), .val (.int i3), .val (.int i4), .val (.ref o5), .val (.int (Int32.ofNat lo)), .val (.int (Int32.ofNat hi)), .val (.int i8), .val (.ref o9), .val (.ref o10), .val (.int (own_sv i0 lo)), .val (.ref h8.size)] [(.int (own_sv i0 lo)), (.int (own_sv i0 lo))])) _
  refine XS.icmpYes X10.here hx rfl (pc0 := 260) (pc' := 265) rfl (hb hby at_260) rfl (teq (rfl : (own_sv i0 lo) = (own_sv i0 lo))).1 (by decide) (by decide) ?_
  exact kt
set_option maxRecDepth 65536 in
set_option maxHeartbeats 40000000 in
theorem sgE {p : Program} {l : Launch} {e : Env} {s : State} {m : MethodId} {args : Array Value} {below : List Frame} {meth : Method} {c : Code} {T0 : State} {locs : List Loc} {cells slots : Nat} {Z : State} {a0 : Array Value} {h0 : Heap} (i0 : Int32) (i1 : Int32) (i2 : Int32) (i3 : Int32) (i4 : Int32) (o5 : Addr) (lo : Nat) (hi : Nat) (i8 : Int32) (o9 : Addr) (o10 : Addr) (s11 : Slot) (s12 : Slot)
    (X0 : Stand p l e room_1 s m args below meth c T0 locs cells slots) (hx : p.tables.exec = Jvm.exec) (hZ : Z.Warmed39 s.vm) (hw : ∀ d ∈ tables_1, d.before a0 Z = true) (hby : c.code = code) (hml : c.maxLocals = 13) (hown : s.vm.findClass "com/example/consentry/consentry/timestamp/ElementEncodedPinLaw" = some m.cls) (e0 : T0.heap = h0) (n0 : Nat) (Z0 : n0 ≤ h0.size) (N0 : Fr n0 locs) (A : Cell) (S : own_src Z h0 o5 A i0) (hcl : cells + 0 ≤ room_1.cells) (hsl : slots + 0 ≤ room_1.slots) :
    ∃ (T' : State) (h' : Heap) (locs' : List Loc), Stand p l e room_1 s m args below meth c T' locs' cells slots ∧ T'.heap = h' ∧ Fr n0 locs' ∧
      ∀ target, Steps p.tables e below (T'.setTop (mkF m 271 #[.val (.int i0), .val (.int i1), .val (.int i2), .val (.int i3), .val (.int i4), .val (.ref o5), .val (.int (Int32.ofNat lo)), .val (.int (Int32.ofNat hi)), .val (.int i8), .val (.ref o9), .val (.ref o10), s11, s12] [(.int (1 : Int32))])) target → Steps p.tables e below (T0.setTop (mkF m 265 #[.val (.int i0), .val (.int i1), .val (.int i2), .val (.int i3), .val (.int i4), .val (.ref o5), .val (.int (Int32.ofNat lo)), .val (.int (Int32.ofNat hi)), .val (.int i8), .val (.ref o9), .val (.ref o10), s11, s12] [])) target := by
  -- 3. LAWS
  -- pc 268: com/example/consentry/consentry/timestamp/ElementEncodedPinLaw.untouched by its contract rm10
  obtain ⟨_, _, ⟨T6, L6, k6, n6⟩, -, X6, ⟨Lc6, hQ6, l6, y6, z6⟩, st6⟩ := Jvm.LawKit.callS X0 hx (y := (⟨"com/example/consentry/consentry/timestamp/ElementEncodedPinLaw", "untouched", "([BI)Z"⟩ : MethodName)) hown (mvT hZ (hw _ (List.mem_of_getElem? (i := 53) rfl))) (mvT hZ (hw _ (List.mem_of_getElem? (i := 54) rfl))) (mvT hZ (hw _ (List.mem_of_getElem? (i := 51) rfl))) (mvT hZ (hw _ (List.mem_of_getElem? (i := 55) rfl))) (by decide) (backOf (W := 0) (rm10 l Z a0 hw [] o5 i0 A h0 n0 Z0 S) hZ (hw _ (List.mem_of_getElem? (i := 55) rfl)) (hw _ (List.mem_of_getElem? (i := 51) rfl)) (by decide) (by decide)) (g := (mkF m 268 #[.val (.int i0), .val (.int i1), .val (.int i2), .val (.int i3), .val (.int i4), .val (.ref o5), .val (.int (Int32.ofNat lo)), .val (.int (Int32.ofNat hi)), .val (.int i8), .val (.ref o9), .val (.ref o10), s11, s12] [(.int i0), (.ref o5)])) rfl (by rw [hml]; rfl) (argsL := [(.ref o5), (.int i0)]) (rest := []) (lenOf pd_0_8 rfl) rfl (by show 2 * 0 + _ ≤ _; exact Nat.le_of_eq rfl) (hb hby at_268) (fun _ _ => ⟨rfl, e0, (hcl : cells + 0 ≤ room_1.cells), (hsl : slots + 0 ≤ room_1.slots)⟩)
  dsimp only [Pt.U, Pt.locs, Pt.cells, Pt.slots] at X6 l6 y6 z6 st6 hQ6
  subst l6 y6 z6
  obtain ⟨rfl, N6q, eq6⟩ := hQ6      -- what it returned, that it wrote nothing old, and the rest of your Q10
  have N6 := Fr.app N0 N6q
  refine ⟨T6, _, _, X6, rfl, N6, fun target kt => ?_⟩
  -- 4. STEPS
  show Steps p.tables e below (T0.setTop (mkF m 265 #[.val (.int i0), .val (.int i1), .val (.int i2), .val (.int i3), .val (.int i4), .val (.ref o5), .val (.int (Int32.ofNat lo)), .val (.int (Int32.ofNat hi)), .val (.int i8), .val (.ref o9), .val (.ref o10), s11, s12] [])) _
  refine XS.aload X0.here hx rfl (hb hby at_265) rfl rfl ?_
  show Steps p.tables e below (T0.setTop (mkF m 267 #[.val (.int i0), .val (.int i1), .val (.int i2), .val (.int i3), .val (.int i4), .val (.ref o5), .val (.int (Int32.ofNat lo)), .val (.int (Int32.ofNat hi)), .val (.int i8), .val (.ref o9), .val (.ref o10), s11, s12] [(.ref o5)])) _
  refine XS.iloadN X0.here hx rfl (hb hby at_267) rfl ?_
  show Steps p.tables e below (T0.setTop (mkF m 268 #[.val (.int i0), .val (.int i1), .val (.int i2), .val (.int i3), .val (.int i4), .val (.ref o5), .val (.int (Int32.ofNat lo)), .val (.int (Int32.ofNat hi)), .val (.int i8), .val (.ref o9), .val (.ref o10), s11, s12] [(.int i0), (.ref o5)])) _
  refine st6 _ ?_
  exact kt
/-- the three numbers: both ends of the part -/
theorem own_ends (s e : Int32) : ∃ lo hi : Nat, lo ≤ hi ∧ hi ≤ 4 ∧ ((s &&& (2147483647 : Int32)) % (5 : Int32)) = Int32.ofNat lo ∧ (((s &&& (2147483647 : Int32)) % (5 : Int32)) + ((e &&& (2147483647 : Int32)) % ((5 : Int32) - ((s &&& (2147483647 : Int32)) % (5 : Int32))))) = Int32.ofNat hi ∧
    ¬ (((5 : Int32) - ((s &&& (2147483647 : Int32)) % (5 : Int32))) = (0 : Int32)) ∧ ¬ ((((((s &&& (2147483647 : Int32)) % (5 : Int32)) + ((e &&& (2147483647 : Int32)) % ((5 : Int32) - ((s &&& (2147483647 : Int32)) % (5 : Int32))))) - ((s &&& (2147483647 : Int32)) % (5 : Int32))) + (1 : Int32)) = (0 : Int32)) := by
  have m1 := c_mask s 2147483647 31 (by decide) (by decide)
  have m2 := c_mask e 2147483647 31 (by decide) (by decide)
  generalize (s &&& (2147483647 : Int32)) = u at *
  generalize (e &&& (2147483647 : Int32)) = v at *
  have hu : 0 ≤ u.toInt := by rw [m1]; omega
  have hv : 0 ≤ v.toInt := by rw [m2]; omega
  have r1 := (c_irem u 5 5 (by decide)).1 hu
  have hr1 : 0 ≤ (u % 5).toInt ∧ (u % 5).toInt ≤ 4 := by omega
  obtain ⟨lo, hlo4, hlo⟩ : ∃ lo : Nat, lo ≤ 4 ∧ u % 5 = Int32.ofNat lo := by
    refine ⟨(u % 5).toInt.toNat, by omega, ?_⟩
    apply Int32.toInt_inj.mp
    rw [Int32.toInt_ofNat_small (by omega)]
    omega
  rw [hlo]
  have key : ∀ a : Fin 5, (5 : Int32) - Int32.ofNat a.1 = Int32.ofNat (5 - a.1) ∧ ¬ ((5 : Int32) - Int32.ofNat a.1 = 0) := by decide +kernel
  obtain ⟨k1, k2⟩ := key ⟨lo, by omega⟩
  have k1' : (5 : Int32) - Int32.ofNat lo = Int32.ofNat (5 - lo) := k1
  have d1 : (Int32.ofNat (5 - lo)).toInt = ((5 - lo : Nat) : Int) := Int32.toInt_ofNat_small (by omega)
  have r2 := (c_iremV v (Int32.ofNat (5 - lo))).1 hv (by rw [d1]; omega)
  rw [d1] at r2
  obtain ⟨d, hd4, hd⟩ : ∃ d : Nat, d ≤ 4 - lo ∧ v % Int32.ofNat (5 - lo) = Int32.ofNat d := by
    refine ⟨(v % Int32.ofNat (5 - lo)).toInt.toNat, by omega, ?_⟩
    apply Int32.toInt_inj.mp
    rw [Int32.toInt_ofNat_small (by omega)]
    omega
  rw [k1', hd, own_add (by omega) (by omega)]
  refine ⟨lo, lo + d, by omega, by omega, rfl, rfl, k1' ▸ k2, ?_⟩
  rw [own_sub (by omega) (by omega)]
  have key2 : ∀ a : Fin 5, ¬ (Int32.ofNat a.1 + (1 : Int32) = 0) := by decide +kernel
  have hdd : lo + d - lo = d := by omega
  rw [hdd]
  exact key2 ⟨d, by omega⟩
theorem sgF {p : Program} {l : Launch} {e : Env} {s : State} {m : MethodId} {args : Array Value} {below : List Frame} {meth : Method} {c : Code} {T0 : State} {locs : List Loc} {Z : State} {a0 : Array Value} {h0 : Heap} (i0 : Int32) (i1 : Int32) (i2 : Int32) (i3 : Int32) (i4 : Int32) (o5 : Addr) (lo : Nat) (hi : Nat) (i8 : Int32) (X0 : Stand p l e room_1 s m args below meth c T0 locs 1 4) (hx : p.tables.exec = Jvm.exec) (hZ : Z.Warmed39 s.vm) (hw : ∀ d ∈ tables_1, d.before a0 Z = true) (hby : c.code = code) (hml : c.maxLocals = 13) (hown : s.vm.findClass "com/example/consentry/consentry/timestamp/ElementEncodedPinLaw" = some m.cls) (e0 : T0.heap = h0) (n0 : Nat) (Z0 : n0 ≤ h0.size) (N0 : Fr n0 locs) (A : Cell) (S : own_src Z h0 o5 A i0) (hlo : lo ≤ hi) (hhi : hi ≤ 4) :
    ∃ (T' : State) (locs' : List Loc) (ls : Array Slot) (cc ss : Nat), Stand p l e room_1 s m args below meth c T' locs' cc ss ∧ cc ≤ 16 ∧ ss ≤ 128 ∧ Fr n0 locs' ∧
      ∀ target, Steps p.tables e below (T'.setTop (mkF m 271 ls [(.int (1 : Int32))])) target → Steps p.tables e below (T0.setTop (mkF m 78 #[.val (.int i0), .val (.int i1), .val (.int i2), .val (.int i3), .val (.int i4), .val (.ref o5), .val (.int (Int32.ofNat lo)), .val (.int (Int32.ofNat hi)), .val (.int i8), .unset, .unset, .unset, .unset] [])) target := by
  obtain ⟨T1, h1, L1, b, r, B, X1, e1, ⟨Z1, N1, g1, n5, n9, E1, Fs, Ft, Fn, S1, R1⟩, k1⟩ := sgC i0 i1 i2 i3 i4 o5 lo hi i8 X0 hx hZ hw hby hml hown e0 n0 Z0 N0 A S hlo hhi
  by_cases hc : (0 : Int32) < Int32.ofNat (hi - lo)
  · obtain ⟨T2, h2, L2, s11, s12, X2, e2, ⟨Z2, N2, S2⟩, k2⟩ := sgD2 i0 i1 i2 i3 i4 o5 lo hi i8 b r X1 hx hZ hw hby hml hown e1 n0 Z1 N1 A B S1 R1 hlo hhi E1 Fs Ft Fn n5 n9 g1 hc
    obtain ⟨T3, h3, L3, X3, -, N3, k3⟩ := sgE i0 i1 i2 i3 i4 o5 lo hi i8 b r s11 s12 X2 hx hZ hw hby hml hown e2 n0 Z2 N2 A S2 (by decide) (by decide)
    exact ⟨T3, L3, _, _, _, X3, by decide, by decide, N3, fun t k => k1 _ (k2 _ (k3 _ k))⟩
  · obtain ⟨T2, X2, e2, k2⟩ := sgD1 i0 i1 i2 i3 i4 o5 lo hi i8 b r X1 hx hZ hw hby hml hown e1 n0 Z1 N1 A B S1 R1 hlo hhi hc
    obtain ⟨T3, h3, L3, X3, -, N3, k3⟩ := sgE i0 i1 i2 i3 i4 o5 lo hi i8 b r .unset .unset X2 hx hZ hw hby hml hown e2 n0 Z1 N1 A S1 (by decide) (by decide)
    exact ⟨T3, L3, _, _, _, X3, by decide, by decide, N3, fun t k => k1 _ (k2 _ (k3 _ k))⟩
theorem sgG {p : Program} {l : Launch} {e : Env} {s : State} {m : MethodId} {args : Array Value} {below : List Frame} {meth : Method} {c : Code} {T0 : State} {locs : List Loc} {Z : State} {a0 : Array Value} {h0 : Heap} (i0 : Int32) (i1 : Int32) (i2 : Int32) (i3 : Int32) (i4 : Int32) (X0 : Stand p l e room_1 s m args below meth c T0 locs 0 0) (hx : p.tables.exec = Jvm.exec) (hZ : Z.Warmed39 s.vm) (hw : ∀ d ∈ tables_1, d.before a0 Z = true) (hby : c.code = code) (hml : c.maxLocals = 13) (hown : s.vm.findClass "com/example/consentry/consentry/timestamp/ElementEncodedPinLaw" = some m.cls) (e0 : T0.heap = h0) (n0 : Nat) (Z0 : n0 ≤ h0.size) (N0 : Fr n0 locs) :
    ∃ (T' : State) (locs' : List Loc) (ls : Array Slot) (cc ss : Nat), Stand p l e room_1 s m args below meth c T' locs' cc ss ∧ cc ≤ 16 ∧ ss ≤ 128 ∧ Fr n0 locs' ∧
      ∀ target, Steps p.tables e below (T'.setTop (mkF m 271 ls [(.int (1 : Int32))])) target → Steps p.tables e below (T0.setTop (mkF m 0 #[.val (.int i0), .val (.int i1), .val (.int i2), .val (.int i3), .val (.int i4), .unset, .unset, .unset, .unset, .unset, .unset, .unset, .unset] [])) target := by
  obtain ⟨T1, h1, L1, b, A, X1, e1, ⟨Z1, N1, g1, S1⟩, k1⟩ := sgA i0 i1 i2 i3 i4 X0 hx hZ hw hby hml hown e0 n0 Z0 N0
  obtain ⟨lo, hi, q1, q2, q3, q4, q5, q6⟩ := own_ends i2 i4
  obtain ⟨T2, X2, e2, k2⟩ := sgB i0 i1 i2 i3 i4 b X1 hx hZ hw hby hml hown e1 n0 Z1 N1 (by decide) q5 q6
  rw [q4, q3] at k2
  obtain ⟨T3, L3, ls, cc, ss, X3, c3, s3, N3, k3⟩ := sgF i0 i1 i2 i3 i4 b lo hi _ X2 hx hZ hw hby hml hown e2 n0 Z1 N1 A S1 q1 q2
  exact ⟨T3, L3, ls, cc, ss, X3, c3, s3, N3, fun t k => k1 _ (k2 _ (k3 _ k))⟩
theorem pn_0 : plainName "com/example/consentry/consentry/timestamp/ElementEncodedPinLaw" = true := by first | (simp [plainName, overriddenIn]; done) | decide +kernel
theorem ef_0 (m : MethodId) (x0 : Int32) (x1 : Int32) (x2 : Int32) (x3 : Int32) (x4 : Int32) : entryFrame m #[(.int x0), (.int x1), (.int x2), (.int x3), (.int x4)] maxLocals = mkF m 0 #[.val (.int x0), .val (.int x1), .val (.int x2), .val (.int x3), .val (.int x4), .unset, .unset, .unset, .unset, .unset, .unset, .unset, .unset] [] := by first | (simp [entryFrame, mkF, argsToLocals, Value.category, maxLocals]; done) | rfl
def Q0 (Z : State) (h0 : Heap) (n0 : Nat) (v : Option Value) (h : Heap) (L : List Loc) : Prop := v = some (.int (1 : Int32)) ∧ Fr n0 L
set_option maxRecDepth 65536 in
set_option maxHeartbeats 40000000 in
theorem rm0 (l : Launch) (Z : State) (a0 : Array Value) (hw : ∀ d ∈ tables_1, d.before a0 Z = true) (ws : List Jvm.Cond) (p1 : Int32) (p2 : Int32) (p3 : Int32) (p4 : Int32) (p5 : Int32) (h0 : Heap) (n0 : Nat) (Z0 : n0 ≤ h0.size) :
    MetFree l x (head1 (Jvm.Cond.code x code maxLocals ret :: ws) room_1) (fun a U => a = #[(.int p1), (.int p2), (.int p3), (.int p4), (.int p5)] ∧ Z.Warmed39 U.vm ∧ U.heap = h0) (fun _ _ _ _ _ => True) (fun _ U o U' => ∃ v L, o = .returned v ∧ Q0 Z h0 n0 v U'.heap L ∧ FrameEnd U o U' L room_1.cells room_1.slots) := by
  refine MetFree.of_bodySF (plainFor_of_name pn_0) hisR ?_
  intro p e s m args below meth c s₁ Bd hml0 hP hK
  obtain ⟨rfl, hZ, hh⟩ := hP
  have hx := Bd.exec
  have hby := Bd.bytes
  have hml : c.maxLocals = 13 := hml0
  have hown : s.vm.findClass "com/example/consentry/consentry/timestamp/ElementEncodedPinLaw" = some m.cls := findClass_of_methodNamed Bd.named
  have hnm := (name_of_methodNamed Bd.named Bd.method).1
  have X0 : Stand p l e room_1 s m #[(.int p1), (.int p2), (.int p3), (.int p4), (.int p5)] below meth c s₁ [] 0 0 := Stand.of_body Bd
  have e0 : s₁.heap = h0 := by rw [← hh, Bd.state]; rfl
  have N0 := Fr.nil n0
  have pre0 : ∀ t, Steps p.tables e below (s₁.setTop (mkF m 0 #[.val (.int p1), .val (.int p2), .val (.int p3), .val (.int p4), .val (.int p5), .unset, .unset, .unset, .unset, .unset, .unset, .unset, .unset] [])) t → Steps p.tables e below (s₁.setTop (entryFrame m #[(.int p1), (.int p2), (.int p3), (.int p4), (.int p5)] maxLocals)) t := fun t k => castTop (ef_0 m p1 p2 p3 p4 p5) k
  obtain ⟨T1, L1, ls, cc, ss, X1, c1, s1, N1, k1⟩ := sgG p1 p2 p3 p4 p5 X0 hx hZ hw hby hml hown e0 n0 Z0 N0
  obtain ⟨fs, hr, hrun, hended, hW, hsame⟩ := X1.leave (v := some (.int (1 : Int32))) (fun h => by rw [Bd.returns] at h; cases h)
  refine ⟨_, _, pre0 _ ?_, hrun, hended, _, _, rfl, ?_, ⟨_, rfl⟩, hW, hsame.mono c1 s1⟩
  · refine k1 _ ?_
    exact retN X1 hx (t := .boolean) Bd.returns (by simp) (hb hby at_271) hr
  · exact ⟨rfl, N1⟩
set_option maxRecDepth 65536 in
set_option maxHeartbeats 40000000 in
theorem comes_1 {Post : Tables → Env → Array Value → State → Outcome → State → Prop} (hpost : ∀ tb e args s v u, (limb_1_1.after args s (.returned v) u = true ∧ limb_1_2.after args s (.returned v) u = true ∧ True) → FrameEnd s (.returned v) u (Jvm.fieldLocs frame_1_writes args s ++ Jvm.arrayLocs frame_1_arrays args s ++ Jvm.staticLocs frame_1_statics s) 16 128 → Post tb e args s (.returned v) u) :
    ArmFor flags0 classFile x code maxLocals ret World_1 tables_1 room_1 Calls_1 rest_1 Pre_1 Post := by
  intro l hfl _ _ p e ha hc hk s m args below hf hA hF happ hP
  obtain ⟨hcalls, hrest, hpre⟩ := hP
  obtain ⟨-, -, -, hnamed, -, -, -, hat⟩ := (Spec.applies_iff hf).mp happ
  obtain ⟨hg, hn⟩ := and_e (Cond.before_iff.mp (show (Jvm.Cond.and given_1 narrow_1).before args s = true from hpre))
  obtain ⟨g20, g21⟩ := and_e hg
  obtain ⟨g22, g23⟩ := and_e g21
  obtain ⟨g24, g25⟩ := and_e g23
  obtain ⟨g26, g27⟩ := and_e g25
  obtain ⟨g28, g29⟩ := and_e g27
  obtain ⟨w0, w1, w2, w3, w4, rfl⟩ : ∃ w0 w1 w2 w3 w4 : Value, args = #[w0, w1, w2, w3, w4] := by
    have hs : args.size = 5 := by simpa [Cond.value, given_1] using g20
    obtain ⟨L⟩ := args
    match L, hs with
    | [w0, w1, w2, w3, w4], _ => exact ⟨w0, w1, w2, w3, w4, rfl⟩
  have hw := fun d (hd : d ∈ tables_1) => atoms_spec (ws := Jvm.Cond.code x code maxLocals ret :: tables_1) hat d (List.mem_cons_of_mem _ hd)
  have hfit : Fit s := fun {y c} hc i hi => by
    obtain ⟨ha, rfl⟩ := Array.getElem?_eq_some_iff.mp hc
    have q := List.all_eq_true.mp ((Array.all_eq_true_iff_forall_mem.mp hF) _ (Array.getElem_mem ha)) i (List.mem_range.mpr hi)
    simpa [Array.getElem?_eq_getElem hi] using q
  obtain ⟨i0, ei0⟩ := is_v g22
  obtain rfl : w0 = (.int i0) := Option.some.inj ei0
  obtain ⟨i1, ei1⟩ := is_v g24
  obtain rfl : w1 = (.int i1) := Option.some.inj ei1
  obtain ⟨i2, ei2⟩ := is_v g26
  obtain rfl : w2 = (.int i2) := Option.some.inj ei2
  obtain ⟨i3, ei3⟩ := is_v g28
  obtain rfl : w3 = (.int i3) := Option.some.inj ei3
  obtain ⟨i4, ei4⟩ := is_v g29
  obtain rfl : w4 = (.int i4) := Option.some.inj ei4
  obtain ⟨n, o, h1, h2, h3, _, L, rfl, ⟨rfl, N⟩, hq⟩ := rm0 l s _ hw tables_1 i0 i1 i2 i3 i4 s.heap s.heap.size (Nat.le_refl _) p e ha hc hk s m _ below hf ((Spec.applies_iff_loose hf).mp happ).1 ⟨rfl, State.Warmed39.refl s, rfl⟩ trivial
  refine ⟨n, _, h1, h2, h3, hpost _ _ _ _ _ _ ⟨Cond.after_iff.mpr rfl, Cond.after_iff.mpr (eq_i res_at (Term.int_eval (1)) rfl), trivial⟩ ⟨hq.1, hq.2.1, (hq.2.2.sift fun y hy => Or.inr (N y hy)).mono (by decide) (by decide)⟩⟩
theorem main_1_1 : Claimed_1_1 := comes_1 fun _ _ _ _ _ _ h hF => ⟨h.1, hF⟩
theorem main_1_2 : Claimed_1_2 := comes_1 fun _ _ _ _ _ _ h hF => ⟨h.2.1, hF⟩
end Jvm.Pilot.@@N@@
namespace Jvm.Pilot.@@N@@
open Jvm Jvm.ClassFile Sem Op Lib Jvm.Free Jvm.Stand Jvm.Pilot.@@N@@.Jvm.D
/-! MADE BY PROGRAM (witnessworld.py) out of the Statement's table words and the real class files: 13 classes; the members and pool entries that the words name. The judged class is class 1, her method 3. -/
namespace start1
open Jvm.ClassFile
def u (s : String) : CpInfo := .utf8 (stringToUtf16 s)
/-- a pool by its gaps: so many unusable entries, then the entry; so many at the end -/
def gap : Nat → List CpInfo → List CpInfo
  | 0, r => r
  | n + 1, r => .unusable :: gap n r
def poolList (es : List (Nat × CpInfo)) (last : Nat) : List CpInfo := es.foldr (fun e r => gap e.1 (e.2 :: r)) (gap last [])
def pool (es : List (Nat × CpInfo)) (last : Nat) : Array CpInfo := ⟨poolList es last⟩
def fileOf (pool : Array CpInfo) (this : Nat) (attrs : Array Attribute := #[]) (ms : Array MethodInfo := #[]) (fl : Nat := 33) (sup : Nat := 0) (ifs : Array Nat := #[]) (fds : Array FieldInfo := #[]) : ClassFile where
  minorVersion := 0
  majorVersion := 65
  constantPool := pool
  accessFlags := fl
  thisClass := this
  superClass := sup
  interfaces := ifs
  fields := fds
  methods := ms
  attributes := attrs
def plain (name : String) (sup : Option ClassId) : Class where
  name := name
  kind := .ordinary
  loader := none
  accessFlags := 33
  super := sup
  interfaces := #[]
  cf := none
  fields := #[]
  methods := #[]
  instanceTypes := #[]
  staticTypes := #[]
  resolved := #[]
  callSites := []
  init := .initialized
  statics := none
  mirror := none

def pool0 : Array CpInfo := pool [(5, u "<init>"), (0, u "()V"), (1, .class_ 10), (1, u "java/lang/Object"), (85, u "clone"), (0, u "()Ljava/lang/Object;")] 26

def k0c0 : Code := { maxStack := 0, maxLocals := 1, code := object_method_1_code, exceptionTable := #[], attributes := #[] }
def k0m0 : Method := { name := "<init>", desc := "()V", sig := { parameters := [], returnType := none }, accessFlags := 1, code := some k0c0 }
def k0m1 : Method := { name := "clone", desc := "()Ljava/lang/Object;", sig := { parameters := [], returnType := some (.object "java/lang/Object") }, accessFlags := 260, code := none }
/-- java/lang/Object -/
def k0 : Class := { plain "java/lang/Object" none with
  accessFlags := 33
  interfaces := #[]
  cf := some (fileOf pool0 8 #[] #[{ accessFlags := 1, nameIndex := 5, descriptorIndex := 6, attributes := #[] }, { accessFlags := 260, nameIndex := 96, descriptorIndex := 97, attributes := #[] }] 33 0 #[] #[])
  fields := #[]
  methods := #[k0m0, k0m1]
  instanceTypes := #[]
  staticTypes := #[]
  resolved := Array.replicate 124 none
  statics := none }

def pool1 : Array CpInfo := pool [(2, .class_ 4), (1, u "java/lang/Object"), (0, u "<init>"), (0, u "()V"), (0, .integer 2147483647), (0, .class_ 9), (0, u "com/example/consentry/consentry/timestamp/Der$Element"), (0, .methodref 8 11), (0, .nameAndType 5 12), (0, u "([BIIII)V"), (0, .methodref 8 14), (0, .nameAndType 15 16), (0, u "encoded"), (0, u "()[B"), (0, .methodref 18 19), (0, .class_ 20), (0, .nameAndType 21 22), (0, u "com/example/consentry/consentry/timestamp/ElementEncodedPinLaw"), (0, u "at"), (0, u "([B[BII)Z"), (0, .methodref 18 24), (0, .nameAndType 25 26), (0, u "untouched"), (0, u "([BI)Z"), (3, u "law"), (0, u "(IIIII)Z")] 8

def k1m0 : Method := { name := "<init>", desc := "()V", sig := { parameters := [], returnType := none }, accessFlags := 2, code := none }
def k1c1 : Code := { maxStack := 4, maxLocals := 4, code := method_2_code, exceptionTable := #[], attributes := #[] }
def k1m1 : Method := { name := "at", desc := "([B[BII)Z", sig := { parameters := [(.array .byte), (.array .byte), .int, .int], returnType := some .boolean }, accessFlags := 10, code := some k1c1 }
def k1c2 : Code := { maxStack := 3, maxLocals := 2, code := method_3_code, exceptionTable := #[], attributes := #[] }
def k1m2 : Method := { name := "untouched", desc := "([BI)Z", sig := { parameters := [(.array .byte), .int], returnType := some .boolean }, accessFlags := 10, code := some k1c2 }
def k1c3 : Code := { maxStack := 7, maxLocals := 13, code := code, exceptionTable := #[], attributes := #[] }
def k1m3 : Method := { name := "law", desc := "(IIIII)Z", sig := { parameters := [.int, .int, .int, .int, .int], returnType := some .boolean }, accessFlags := 9, code := some k1c3 }
/-- com/example/consentry/consentry/timestamp/ElementEncodedPinLaw -/
def k1 : Class := { plain "com/example/consentry/consentry/timestamp/ElementEncodedPinLaw" (some 0) with
  accessFlags := 49
  interfaces := #[]
  cf := some (fileOf pool1 18 #[] #[{ accessFlags := 2, nameIndex := 5, descriptorIndex := 6, attributes := #[] }, { accessFlags := 10, nameIndex := 21, descriptorIndex := 22, attributes := #[] }, { accessFlags := 10, nameIndex := 25, descriptorIndex := 26, attributes := #[] }, { accessFlags := 9, nameIndex := 30, descriptorIndex := 31, attributes := #[] }] 49 2 #[] #[])
  fields := #[]
  methods := #[k1m0, k1m1, k1m2, k1m3]
  instanceTypes := #[]
  staticTypes := #[]
  resolved := Array.replicate 40 none
  statics := none }

def pool2 : Array CpInfo := pool [(1, .methodref 2 3), (0, .class_ 4), (0, .nameAndType 5 6), (0, u "java/lang/Object"), (0, u "<init>"), (0, u "()V"), (0, .class_ 8), (0, u "java/lang/Record")] 13

def k2c0 : Code := { maxStack := 1, maxLocals := 1, code := jdk_30_method_1_code, exceptionTable := #[], attributes := #[] }
def k2m0 : Method := { name := "<init>", desc := "()V", sig := { parameters := [], returnType := none }, accessFlags := 4, code := some k2c0 }
/-- java/lang/Record -/
def k2 : Class := { plain "java/lang/Record" (some 0) with
  accessFlags := 1057
  interfaces := #[]
  cf := some (fileOf pool2 7 #[] #[{ accessFlags := 4, nameIndex := 5, descriptorIndex := 6, attributes := #[] }] 1057 2 #[] #[])
  fields := #[]
  methods := #[k2m0]
  instanceTypes := #[]
  staticTypes := #[]
  resolved := Array.replicate 22 none
  statics := none }

def pool3 : Array CpInfo := pool [(1, .class_ 2), (0, u "com/example/consentry/consentry/timestamp/Der"), (0, .methodref 4 5), (0, .class_ 6), (0, .nameAndType 7 8), (0, u "java/lang/Record"), (0, u "<init>"), (0, u "()V"), (0, .fieldref 10 11), (0, .class_ 12), (0, .nameAndType 13 14), (0, u "com/example/consentry/consentry/timestamp/Der$Element"), (0, u "source"), (0, u "[B"), (0, .fieldref 10 16), (0, .nameAndType 17 18), (0, u "tag"), (0, u "I"), (0, .fieldref 10 20), (0, .nameAndType 21 18), (0, u "start"), (0, .fieldref 10 23), (0, .nameAndType 24 18), (0, u "contentStart"), (0, .fieldref 10 26), (0, .nameAndType 27 18), (0, u "end"), (0, .methodref 29 30), (0, .class_ 31), (0, .nameAndType 32 33), (0, u "java/util/Arrays"), (0, u "copyOfRange"), (0, u "([BII)[B"), (31, u "()[B"), (132, u "([BIIII)V"), (3, u "encoded")] 48

def k3c0 : Code := { maxStack := 2, maxLocals := 6, code := prog_21_method_1_code, exceptionTable := #[], attributes := #[] }
def k3m0 : Method := { name := "<init>", desc := "([BIIII)V", sig := { parameters := [(.array .byte), .int, .int, .int, .int], returnType := none }, accessFlags := 0, code := some k3c0 }
def k3c1 : Code := { maxStack := 3, maxLocals := 1, code := prog_21_method_2_code, exceptionTable := #[], attributes := #[] }
def k3m1 : Method := { name := "encoded", desc := "()[B", sig := { parameters := [], returnType := some (.array .byte) }, accessFlags := 0, code := some k3c1 }
/-- com/example/consentry/consentry/timestamp/Der$Element -/
def k3 : Class := { plain "com/example/consentry/consentry/timestamp/Der$Element" (some 2) with
  accessFlags := 48
  interfaces := #[]
  cf := some (fileOf pool3 10 #[.nestHost 1] #[{ accessFlags := 0, nameIndex := 7, descriptorIndex := 198, attributes := #[] }, { accessFlags := 0, nameIndex := 202, descriptorIndex := 65, attributes := #[] }] 48 4 #[] #[{ accessFlags := 18, nameIndex := 13, descriptorIndex := 14, attributes := #[] }, { accessFlags := 18, nameIndex := 17, descriptorIndex := 18, attributes := #[] }, { accessFlags := 18, nameIndex := 21, descriptorIndex := 18, attributes := #[] }, { accessFlags := 18, nameIndex := 24, descriptorIndex := 18, attributes := #[] }, { accessFlags := 18, nameIndex := 27, descriptorIndex := 18, attributes := #[] }])
  fields := #[{ name := "source", type := (.array .byte), accessFlags := 18, slot := 0, constantValue := 0 }, { name := "tag", type := .int, accessFlags := 18, slot := 1, constantValue := 0 }, { name := "start", type := .int, accessFlags := 18, slot := 2, constantValue := 0 }, { name := "contentStart", type := .int, accessFlags := 18, slot := 3, constantValue := 0 }, { name := "end", type := .int, accessFlags := 18, slot := 4, constantValue := 0 }]
  methods := #[k3m0, k3m1]
  instanceTypes := #[(.array .byte), .int, .int, .int, .int]
  staticTypes := #[]
  resolved := Array.replicate 251 none
  statics := none }

def pool4 : Array CpInfo := pool [(2, .class_ 4), (1, u "java/lang/Object"), (0, u "<init>"), (0, u "()V"), (7, .class_ 16), (1, u "java/util/Arrays"), (57, .class_ 76), (1, u "java/util/Arrays$NaturalOrder"), (32, u "()Ljava/lang/Object;"), (3, .class_ 115), (1, u "java/util/Arrays$LegacyMergeSort"), (1, u "Z"), (10, .nameAndType 129 109), (0, u "clone"), (9, u "copyOfRange"), (10, .methodref 151 152), (0, .class_ 153), (0, .nameAndType 154 155), (0, u "java/lang/System"), (0, u "arraycopy"), (0, u "(Ljava/lang/Object;ILjava/lang/Object;II)V"), (148, .methodref 305 306), (0, .class_ 307), (0, .nameAndType 308 309), (0, u "java/lang/Math"), (0, u "min"), (0, u "(II)I"), (0, .methodref 311 128), (0, .class_ 312), (0, u "[B"), (26, .methodref 14 340), (0, .nameAndType 341 342), (0, u "copyOfRangeByte"), (0, u "([BII)[B"), (0, .methodref 14 344), (0, .nameAndType 345 346), (0, u "checkLength"), (0, u "(II)V"), (28, .class_ 376), (0, u "java/util/Arrays$ArrayList"), (68, u "$assertionsDisabled"), (269, u "MIN_ARRAY_SORT_GRAN"), (0, u "I"), (2, u "INSERTIONSORT_THRESHOLD"), (255, .class_ 976), (0, u "java/util/Arrays$ArrayItr")] 52

def k4m0 : Method := { name := "<init>", desc := "()V", sig := { parameters := [], returnType := none }, accessFlags := 2, code := none }
def k4c1 : Code := { maxStack := 4, maxLocals := 2, code := jdk_65_method_131_code, exceptionTable := #[], attributes := #[] }
def k4m1 : Method := { name := "checkLength", desc := "(II)V", sig := { parameters := [.int, .int], returnType := none }, accessFlags := 10, code := some k4c1 }
def k4c2 : Code := { maxStack := 3, maxLocals := 3, code := jdk_65_method_132_code, exceptionTable := #[], attributes := #[] }
def k4m2 : Method := { name := "copyOfRange", desc := "([BII)[B", sig := { parameters := [(.array .byte), .int, .int], returnType := some (.array .byte) }, accessFlags := 9, code := some k4c2 }
def k4c3 : Code := { maxStack := 6, maxLocals := 5, code := jdk_65_method_133_code, exceptionTable := #[], attributes := #[] }
def k4m3 : Method := { name := "copyOfRangeByte", desc := "([BII)[B", sig := { parameters := [(.array .byte), .int, .int], returnType := some (.array .byte) }, accessFlags := 10, code := some k4c3 }
/-- java/util/Arrays -/
def k4 : Class := { plain "java/util/Arrays" (some 0) with
  accessFlags := 49
  interfaces := #[]
  cf := some (fileOf pool4 14 #[.nestMembers #[975, 375, 113, 74]] #[{ accessFlags := 2, nameIndex := 5, descriptorIndex := 6, attributes := #[] }, { accessFlags := 10, nameIndex := 345, descriptorIndex := 346, attributes := #[] }, { accessFlags := 9, nameIndex := 139, descriptorIndex := 342, attributes := #[] }, { accessFlags := 10, nameIndex := 341, descriptorIndex := 342, attributes := #[] }] 49 2 #[] #[{ accessFlags := 26, nameIndex := 715, descriptorIndex := 716, attributes := #[] }, { accessFlags := 26, nameIndex := 719, descriptorIndex := 716, attributes := #[] }, { accessFlags := 4120, nameIndex := 445, descriptorIndex := 117, attributes := #[] }])
  fields := #[{ name := "MIN_ARRAY_SORT_GRAN", type := .int, accessFlags := 26, slot := 0, constantValue := 0 }, { name := "INSERTIONSORT_THRESHOLD", type := .int, accessFlags := 26, slot := 1, constantValue := 0 }, { name := "$assertionsDisabled", type := .boolean, accessFlags := 4120, slot := 2, constantValue := 0 }]
  methods := #[k4m0, k4m1, k4m2, k4m3]
  instanceTypes := #[]
  staticTypes := #[.int, .int, .boolean]
  resolved := Array.replicate 1029 none
  statics := none }

def pool5 : Array CpInfo := pool [(1, .class_ 2), (0, u "java/lang/Math"), (1, .class_ 6), (1, u "java/lang/Object"), (0, u "<init>"), (0, u "()V"), (89, .class_ 100), (1, u "java/lang/Math$RandomNumberGeneratorHolder"), (71, u "negativeZeroFloatBits"), (0, u "J"), (2, u "negativeZeroDoubleBits"), (24, u "min"), (43, u "$assertionsDisabled"), (0, u "Z"), (88, u "(II)I"), (2, u "twoToTheDoubleScaleDown"), (0, u "D"), (4, u "twoToTheDoubleScaleUp"), (9, u "E"), (3, u "PI"), (2, u "TAU"), (2, u "DEGREES_TO_RADIANS"), (0, u "RADIANS_TO_DEGREES")] 94

def k5m0 : Method := { name := "<init>", desc := "()V", sig := { parameters := [], returnType := none }, accessFlags := 2, code := none }
def k5c1 : Code := { maxStack := 2, maxLocals := 2, code := jdk_29_method_69_code, exceptionTable := #[], attributes := #[] }
def k5m1 : Method := { name := "min", desc := "(II)I", sig := { parameters := [.int, .int], returnType := some .int }, accessFlags := 9, code := some k5c1 }
/-- java/lang/Math -/
def k5 : Class := { plain "java/lang/Math" (some 0) with
  accessFlags := 49
  interfaces := #[]
  cf := some (fileOf pool5 1 #[.nestMembers #[98]] #[{ accessFlags := 2, nameIndex := 7, descriptorIndex := 8, attributes := #[] }, { accessFlags := 9, nameIndex := 201, descriptorIndex := 335, attributes := #[] }] 49 4 #[] #[{ accessFlags := 25, nameIndex := 354, descriptorIndex := 339, attributes := #[] }, { accessFlags := 25, nameIndex := 358, descriptorIndex := 339, attributes := #[] }, { accessFlags := 25, nameIndex := 361, descriptorIndex := 339, attributes := #[] }, { accessFlags := 26, nameIndex := 364, descriptorIndex := 339, attributes := #[] }, { accessFlags := 26, nameIndex := 365, descriptorIndex := 339, attributes := #[] }, { accessFlags := 26, nameIndex := 172, descriptorIndex := 173, attributes := #[] }, { accessFlags := 26, nameIndex := 176, descriptorIndex := 173, attributes := #[] }, { accessFlags := 8, nameIndex := 344, descriptorIndex := 339, attributes := #[] }, { accessFlags := 8, nameIndex := 338, descriptorIndex := 339, attributes := #[] }, { accessFlags := 4120, nameIndex := 245, descriptorIndex := 246, attributes := #[] }])
  fields := #[{ name := "E", type := .double, accessFlags := 25, slot := 0, constantValue := 0 }, { name := "PI", type := .double, accessFlags := 25, slot := 1, constantValue := 0 }, { name := "TAU", type := .double, accessFlags := 25, slot := 2, constantValue := 0 }, { name := "DEGREES_TO_RADIANS", type := .double, accessFlags := 26, slot := 3, constantValue := 0 }, { name := "RADIANS_TO_DEGREES", type := .double, accessFlags := 26, slot := 4, constantValue := 0 }, { name := "negativeZeroFloatBits", type := .long, accessFlags := 26, slot := 5, constantValue := 0 }, { name := "negativeZeroDoubleBits", type := .long, accessFlags := 26, slot := 6, constantValue := 0 }, { name := "twoToTheDoubleScaleUp", type := .double, accessFlags := 8, slot := 7, constantValue := 0 }, { name := "twoToTheDoubleScaleDown", type := .double, accessFlags := 8, slot := 8, constantValue := 0 }, { name := "$assertionsDisabled", type := .boolean, accessFlags := 4120, slot := 9, constantValue := 0 }]
  methods := #[k5m0, k5m1]
  instanceTypes := #[]
  staticTypes := #[.double, .double, .double, .double, .double, .long, .long, .double, .double, .boolean]
  resolved := Array.replicate 460 none
  statics := none }

def pool6 : Array CpInfo := pool [(2, .class_ 4), (1, u "java/lang/Object"), (0, u "<init>"), (0, u "()V"), (1, .class_ 10), (1, u "java/lang/System"), (0, u "allowSecurityManager"), (0, u "I"), (16, u "cons"), (0, u "Ljava/io/Console;"), (77, .class_ 110), (1, u "java/lang/System$CallersHolder"), (43, u "initialErrStream"), (0, u "Ljava/io/PrintStream;"), (19, u "security"), (0, u "Ljava/lang/SecurityManager;"), (31, .class_ 209), (0, u "java/lang/System$1"), (7, u "props"), (0, u "Ljava/util/Properties;"), (2, u "lineSeparator"), (0, u "Ljava/lang/String;"), (96, .class_ 321), (1, u "java/lang/System$LoggerFinder"), (5, .class_ 328), (0, u "java/lang/System$Logger"), (67, u "err"), (2, u "out"), (91, u "notSupportedJnuEncoding"), (15, u "in"), (17, u "initialIn"), (0, u "Ljava/io/InputStream;"), (35, u "bootLayer"), (0, u "Ljava/lang/ModuleLayer;"), (99, .class_ 664), (0, u "java/lang/System$2"), (9, u "NEVER"), (2, u "MAYBE"), (49, u "arraycopy"), (0, u "(Ljava/lang/Object;ILjava/lang/Object;II)V"), (72, .class_ 802), (0, u "java/lang/System$Logger$Level")] 31

def k6m0 : Method := { name := "<init>", desc := "()V", sig := { parameters := [], returnType := none }, accessFlags := 2, code := none }
def k6m1 : Method := { name := "arraycopy", desc := "(Ljava/lang/Object;ILjava/lang/Object;II)V", sig := { parameters := [(.object "java/lang/Object"), .int, (.object "java/lang/Object"), .int, .int], returnType := none }, accessFlags := 265, code := none }
/-- java/lang/System -/
def k6 : Class := { plain "java/lang/System" (some 0) with
  accessFlags := 49
  interfaces := #[]
  cf := some (fileOf pool6 8 #[.nestMembers #[319, 327, 801, 108, 663, 208]] #[{ accessFlags := 2, nameIndex := 5, descriptorIndex := 6, attributes := #[] }, { accessFlags := 265, nameIndex := 727, descriptorIndex := 728, attributes := #[] }] 49 2 #[] #[{ accessFlags := 25, nameIndex := 507, descriptorIndex := 526, attributes := #[] }, { accessFlags := 25, nameIndex := 399, descriptorIndex := 155, attributes := #[] }, { accessFlags := 25, nameIndex := 396, descriptorIndex := 155, attributes := #[] }, { accessFlags := 10, nameIndex := 525, descriptorIndex := 526, attributes := #[] }, { accessFlags := 26, nameIndex := 674, descriptorIndex := 12, attributes := #[] }, { accessFlags := 26, nameIndex := 677, descriptorIndex := 12, attributes := #[] }, { accessFlags := 10, nameIndex := 11, descriptorIndex := 12, attributes := #[] }, { accessFlags := 74, nameIndex := 175, descriptorIndex := 176, attributes := #[] }, { accessFlags := 10, nameIndex := 491, descriptorIndex := 222, attributes := #[] }, { accessFlags := 74, nameIndex := 29, descriptorIndex := 30, attributes := #[] }, { accessFlags := 74, nameIndex := 154, descriptorIndex := 155, attributes := #[] }, { accessFlags := 10, nameIndex := 217, descriptorIndex := 218, attributes := #[] }, { accessFlags := 10, nameIndex := 221, descriptorIndex := 222, attributes := #[] }, { accessFlags := 8, nameIndex := 562, descriptorIndex := 563, attributes := #[] }])
  fields := #[{ name := "in", type := (.object "java/io/InputStream"), accessFlags := 25, slot := 0, constantValue := 0 }, { name := "out", type := (.object "java/io/PrintStream"), accessFlags := 25, slot := 1, constantValue := 0 }, { name := "err", type := (.object "java/io/PrintStream"), accessFlags := 25, slot := 2, constantValue := 0 }, { name := "initialIn", type := (.object "java/io/InputStream"), accessFlags := 10, slot := 3, constantValue := 0 }, { name := "NEVER", type := .int, accessFlags := 26, slot := 4, constantValue := 0 }, { name := "MAYBE", type := .int, accessFlags := 26, slot := 5, constantValue := 0 }, { name := "allowSecurityManager", type := .int, accessFlags := 10, slot := 6, constantValue := 0 }, { name := "security", type := (.object "java/lang/SecurityManager"), accessFlags := 74, slot := 7, constantValue := 0 }, { name := "notSupportedJnuEncoding", type := (.object "java/lang/String"), accessFlags := 10, slot := 8, constantValue := 0 }, { name := "cons", type := (.object "java/io/Console"), accessFlags := 74, slot := 9, constantValue := 0 }, { name := "initialErrStream", type := (.object "java/io/PrintStream"), accessFlags := 74, slot := 10, constantValue := 0 }, { name := "props", type := (.object "java/util/Properties"), accessFlags := 10, slot := 11, constantValue := 0 }, { name := "lineSeparator", type := (.object "java/lang/String"), accessFlags := 10, slot := 12, constantValue := 0 }, { name := "bootLayer", type := (.object "java/lang/ModuleLayer"), accessFlags := 8, slot := 13, constantValue := 0 }]
  methods := #[k6m0, k6m1]
  instanceTypes := #[]
  staticTypes := #[(.object "java/io/InputStream"), (.object "java/io/PrintStream"), (.object "java/io/PrintStream"), (.object "java/io/InputStream"), .int, .int, .int, (.object "java/lang/SecurityManager"), (.object "java/lang/String"), (.object "java/io/Console"), (.object "java/io/PrintStream"), (.object "java/util/Properties"), (.object "java/lang/String"), (.object "java/lang/ModuleLayer")]
  resolved := Array.replicate 834 none
  statics := none }

def pool7 : Array CpInfo := pool [(1, .class_ 2), (0, u "java/lang/Cloneable"), (0, .class_ 4), (0, u "java/lang/Object")] 2

/-- java/lang/Cloneable -/
def k7 : Class := { plain "java/lang/Cloneable" (some 0) with
  accessFlags := 1537
  interfaces := #[]
  cf := some (fileOf pool7 1 #[] #[] 1537 3 #[] #[])
  fields := #[]
  methods := #[]
  instanceTypes := #[]
  staticTypes := #[]
  resolved := Array.replicate 7 none
  statics := none }

def pool8 : Array CpInfo := pool [(1, u "java/io/Serializable"), (0, .class_ 1), (0, u "java/lang/Object"), (0, .class_ 3)] 3

/-- java/io/Serializable -/
def k8 : Class := { plain "java/io/Serializable" (some 0) with
  accessFlags := 1537
  interfaces := #[]
  cf := some (fileOf pool8 2 #[] #[] 1537 4 #[] #[])
  fields := #[]
  methods := #[]
  instanceTypes := #[]
  staticTypes := #[]
  resolved := Array.replicate 8 none
  statics := none }

/-- the primitive byte -/
def k9 : Class := { plain "byte" none with kind := .primitive 'B', accessFlags := 0x411 }
/-- [B -/
def k10 : Class := { plain "[B" (some 0) with kind := .array 9 .byte, interfaces := #[7, 8], accessFlags := 1041 }

/-- the primitive int -/
def k11 : Class := { plain "int" none with kind := .primitive 'I', accessFlags := 0x411 }
/-- [I -/
def k12 : Class := { plain "[I" (some 0) with kind := .array 11 .int, interfaces := #[7, 8], accessFlags := 1041 }

def heap : Heap := #[]
def classes : Array Class := #[k0, k1, k2, k3, k4, k5, k6, k7, k8, k9, k10, k11, k12]
def interned : List (Array UInt16 × Addr) := []
def slotsUsed : Nat := 0
def theMethod : MethodId := ⟨1, 3⟩
def args0 : Array Value := #[.int 305419896, .int 48, .int 1, .int 1, .int 2]
def aboutOver (below : List Frame) : State where
  vm := { classes := classes, interned := interned.toArray }
  heap := heap
  slotsUsed := slotsUsed
  threads := #[{ frames := .invoking theMethod args0 :: below }]
def below0 : List Frame := [.native { method := ⟨0, 0⟩, args := #[] }]
def about1 : State := aboutOver below0
def p0 : Program := .bare "" "" ""
def e0 : Env := launch0.env 0 0 0
theorem w_frames : about1.frames = Frame.invoking theMethod args0 :: below0 := rfl
set_option maxRecDepth 65536 in
theorem w_args : argsFit about1.vm theMethod args0 = true := by decide +kernel
set_option maxRecDepth 65536 in
theorem w_heap : heapFits about1 = true := by decide +kernel
set_option maxRecDepth 65536 in
theorem w_runnable : about1.curStatus? = some .runnable := by decide +kernel
set_option maxRecDepth 65536 in
theorem w_alone : about1.alone = true := by decide +kernel
set_option maxRecDepth 65536 in
theorem w_named : about1.methodNamed? x = some theMethod := by decide +kernel
set_option maxRecDepth 65536 in
theorem w_hears : about1.hears theMethod below0 = true := by decide +kernel
set_option maxRecDepth 65536 in
theorem w_ripe : about1.ripe theMethod args0 below0 = true := by decide +kernel
theorem w_running : about1.status = .running := rfl
set_option maxRecDepth 65536 in
theorem w_room : about1.hasRoom e0.platform room_1 = true :=
  launch0.hasRoom_least _ room_1 (by decide +kernel) (by decide +kernel) (by decide +kernel) (by decide +kernel) (by decide +kernel) (by decide +kernel)
theorem allAtoms_all (ts : List Jvm.Cond) (a : Array Jvm.Value) (st : Jvm.State) : (allAtoms ts).before a st = ts.all (fun c => c.before a st) := by
  induction ts with
  | nil => rfl
  | cons c t ih =>
    show (Jvm.Cond.and c (allAtoms t)).before a st = _
    rw [Jvm.Cond.before_and, ih, List.all_cons]
def words1 : List Jvm.Cond := Jvm.Cond.code x code maxLocals ret :: tables_1
/-- a 'code' word, met by the world's own term for the bytes: nothing is compared byte by byte -/
theorem code_word {y : MethodName} {bytes : ByteArray} {mx : Nat} {rt : Option FieldType} {a : Array Value} {s : State} {m : MethodId} {meth : Method} {c : Code} (h1 : s.methodNamed? y = some m) (h2 : s.vm.method? m = some meth) (h3 : meth.code = some c) (h4 : c.code = bytes)
    (h5 : (c.maxLocals == mx && c.exceptionTable.isEmpty && decide (c.maxStack ≤ mostOperands) && decide (meth.sig.returnType = rt) && !meth.locks && decide (parseMethodDescriptor y.desc = some meth.sig)) = true) : (Jvm.Cond.code y bytes mx rt).before a s = true := by
  simp only [Bool.and_eq_true, beq_iff_eq, Bool.not_eq_true', decide_eq_true_eq] at h5
  obtain ⟨⟨⟨⟨⟨g1, g2⟩, g3⟩, g4⟩, g5⟩, g6⟩ := h5
  simp [Cond.before, Cond.holds, Cond.value, h1, h2, h3, h4, g1, g2, g3, g4, g5, g6]
def isCode : Jvm.Cond → Bool
  | .code _ _ _ _ => true
  | _ => false
theorem all_split {L : List Jvm.Cond} {P : Jvm.Cond → Bool} (h1 : L.all (fun c => isCode c || P c) = true) (h2 : ∀ c ∈ L.filter isCode, P c = true) : L.all P = true := by
  refine List.all_eq_true.mpr fun c hc => ?_
  have h := List.all_eq_true.mp h1 c hc
  rcases Bool.eq_false_or_eq_true (isCode c) with hi | hi
  · exact h2 c (List.mem_filter.mpr ⟨hc, hi⟩)
  · simpa [hi] using h
set_option maxRecDepth 65536 in
theorem w_c0 : (Jvm.Cond.code x code maxLocals ret).before args0 about1 = true := code_word (m := ⟨1, 3⟩) (meth := k1m3) (c := k1c3) (by decide +kernel) rfl rfl rfl (by decide +kernel)
set_option maxRecDepth 65536 in
theorem w_c1 : (Jvm.Cond.code ({ cls := "com/example/consentry/consentry/timestamp/Der$Element", name := "<init>", desc := "([BIIII)V" } : Jvm.MethodName) prog_21_method_1_code (6 : Nat) (Option.none : Option Jvm.ClassFile.FieldType)).before args0 about1 = true := code_word (m := ⟨3, 0⟩) (meth := k3m0) (c := k3c0) (by decide +kernel) rfl rfl rfl (by decide +kernel)
set_option maxRecDepth 65536 in
theorem w_c2 : (Jvm.Cond.code ({ cls := "java/lang/Record", name := "<init>", desc := "()V" } : Jvm.MethodName) jdk_30_method_1_code (1 : Nat) (Option.none : Option Jvm.ClassFile.FieldType)).before args0 about1 = true := code_word (m := ⟨2, 0⟩) (meth := k2m0) (c := k2c0) (by decide +kernel) rfl rfl rfl (by decide +kernel)
set_option maxRecDepth 65536 in
theorem w_c3 : (Jvm.Cond.code ({ cls := "java/lang/Object", name := "<init>", desc := "()V" } : Jvm.MethodName) object_method_1_code (1 : Nat) (Option.none : Option Jvm.ClassFile.FieldType)).before args0 about1 = true := code_word (m := ⟨0, 0⟩) (meth := k0m0) (c := k0c0) (by decide +kernel) rfl rfl rfl (by decide +kernel)
set_option maxRecDepth 65536 in
theorem w_c4 : (Jvm.Cond.code ({ cls := "com/example/consentry/consentry/timestamp/Der$Element", name := "encoded", desc := "()[B" } : Jvm.MethodName) prog_21_method_2_code (1 : Nat) (Option.some (Jvm.ClassFile.FieldType.array Jvm.ClassFile.FieldType.byte))).before args0 about1 = true := code_word (m := ⟨3, 1⟩) (meth := k3m1) (c := k3c1) (by decide +kernel) rfl rfl rfl (by decide +kernel)
set_option maxRecDepth 65536 in
theorem w_c5 : (Jvm.Cond.code ({ cls := "java/util/Arrays", name := "copyOfRange", desc := "([BII)[B" } : Jvm.MethodName) jdk_65_method_132_code (3 : Nat) (Option.some (Jvm.ClassFile.FieldType.array Jvm.ClassFile.FieldType.byte))).before args0 about1 = true := code_word (m := ⟨4, 2⟩) (meth := k4m2) (c := k4c2) (by decide +kernel) rfl rfl rfl (by decide +kernel)
set_option maxRecDepth 65536 in
theorem w_c6 : (Jvm.Cond.code ({ cls := "java/util/Arrays", name := "copyOfRangeByte", desc := "([BII)[B" } : Jvm.MethodName) jdk_65_method_133_code (5 : Nat) (Option.some (Jvm.ClassFile.FieldType.array Jvm.ClassFile.FieldType.byte))).before args0 about1 = true := code_word (m := ⟨4, 3⟩) (meth := k4m3) (c := k4c3) (by decide +kernel) rfl rfl rfl (by decide +kernel)
set_option maxRecDepth 65536 in
theorem w_c7 : (Jvm.Cond.code ({ cls := "java/util/Arrays", name := "checkLength", desc := "(II)V" } : Jvm.MethodName) jdk_65_method_131_code (2 : Nat) (Option.none : Option Jvm.ClassFile.FieldType)).before args0 about1 = true := code_word (m := ⟨4, 1⟩) (meth := k4m1) (c := k4c1) (by decide +kernel) rfl rfl rfl (by decide +kernel)
set_option maxRecDepth 65536 in
theorem w_c8 : (Jvm.Cond.code ({ cls := "java/lang/Math", name := "min", desc := "(II)I" } : Jvm.MethodName) jdk_29_method_69_code (2 : Nat) (Option.some Jvm.ClassFile.FieldType.int)).before args0 about1 = true := code_word (m := ⟨5, 1⟩) (meth := k5m1) (c := k5c1) (by decide +kernel) rfl rfl rfl (by decide +kernel)
set_option maxRecDepth 65536 in
theorem w_c9 : (Jvm.Cond.code ({ cls := "com/example/consentry/consentry/timestamp/ElementEncodedPinLaw", name := "at", desc := "([B[BII)Z" } : Jvm.MethodName) method_2_code (4 : Nat) (Option.some Jvm.ClassFile.FieldType.boolean)).before args0 about1 = true := code_word (m := ⟨1, 1⟩) (meth := k1m1) (c := k1c1) (by decide +kernel) rfl rfl rfl (by decide +kernel)
set_option maxRecDepth 65536 in
theorem w_c10 : (Jvm.Cond.code ({ cls := "com/example/consentry/consentry/timestamp/ElementEncodedPinLaw", name := "untouched", desc := "([BI)Z" } : Jvm.MethodName) method_3_code (2 : Nat) (Option.some Jvm.ClassFile.FieldType.boolean)).before args0 about1 = true := code_word (m := ⟨1, 2⟩) (meth := k1m2) (c := k1c2) (by decide +kernel) rfl rfl rfl (by decide +kernel)
def codes1 : List Jvm.Cond := [Jvm.Cond.code x code maxLocals ret, Jvm.Cond.code ({ cls := "com/example/consentry/consentry/timestamp/Der$Element", name := "<init>", desc := "([BIIII)V" } : Jvm.MethodName) prog_21_method_1_code (6 : Nat) (Option.none : Option Jvm.ClassFile.FieldType), Jvm.Cond.code ({ cls := "java/lang/Record", name := "<init>", desc := "()V" } : Jvm.MethodName) jdk_30_method_1_code (1 : Nat) (Option.none : Option Jvm.ClassFile.FieldType), Jvm.Cond.code ({ cls := "java/lang/Object", name := "<init>", desc := "()V" } : Jvm.MethodName) object_method_1_code (1 : Nat) (Option.none : Option Jvm.ClassFile.FieldType), Jvm.Cond.code ({ cls := "com/example/consentry/consentry/timestamp/Der$Element", name := "encoded", desc := "()[B" } : Jvm.MethodName) prog_21_method_2_code (1 : Nat) (Option.some (Jvm.ClassFile.FieldType.array Jvm.ClassFile.FieldType.byte)), Jvm.Cond.code ({ cls := "java/util/Arrays", name := "copyOfRange", desc := "([BII)[B" } : Jvm.MethodName) jdk_65_method_132_code (3 : Nat) (Option.some (Jvm.ClassFile.FieldType.array Jvm.ClassFile.FieldType.byte)), Jvm.Cond.code ({ cls := "java/util/Arrays", name := "copyOfRangeByte", desc := "([BII)[B" } : Jvm.MethodName) jdk_65_method_133_code (5 : Nat) (Option.some (Jvm.ClassFile.FieldType.array Jvm.ClassFile.FieldType.byte)), Jvm.Cond.code ({ cls := "java/util/Arrays", name := "checkLength", desc := "(II)V" } : Jvm.MethodName) jdk_65_method_131_code (2 : Nat) (Option.none : Option Jvm.ClassFile.FieldType), Jvm.Cond.code ({ cls := "java/lang/Math", name := "min", desc := "(II)I" } : Jvm.MethodName) jdk_29_method_69_code (2 : Nat) (Option.some Jvm.ClassFile.FieldType.int), Jvm.Cond.code ({ cls := "com/example/consentry/consentry/timestamp/ElementEncodedPinLaw", name := "at", desc := "([B[BII)Z" } : Jvm.MethodName) method_2_code (4 : Nat) (Option.some Jvm.ClassFile.FieldType.boolean), Jvm.Cond.code ({ cls := "com/example/consentry/consentry/timestamp/ElementEncodedPinLaw", name := "untouched", desc := "([BI)Z" } : Jvm.MethodName) method_3_code (2 : Nat) (Option.some Jvm.ClassFile.FieldType.boolean)]
set_option maxRecDepth 65536 in
theorem codes_eq : words1.filter isCode = codes1 := rfl
theorem w_codes : ∀ c ∈ words1.filter isCode, c.before args0 about1 = true := by
  rw [codes_eq]
  intro c hc
  simp only [codes1, List.mem_cons, List.not_mem_nil, or_false] at hc
  rcases hc with rfl | rfl | rfl | rfl | rfl | rfl | rfl | rfl | rfl | rfl | rfl
  · exact w_c0
  · exact w_c1
  · exact w_c2
  · exact w_c3
  · exact w_c4
  · exact w_c5
  · exact w_c6
  · exact w_c7
  · exact w_c8
  · exact w_c9
  · exact w_c10
set_option maxRecDepth 65536 in
theorem w_t1 : (words1.take 24).all (fun c => isCode c || c.before args0 about1) = true := by decide +kernel
set_option maxRecDepth 65536 in
theorem w_t2 : ((words1.drop 24).take 24).all (fun c => isCode c || c.before args0 about1) = true := by decide +kernel
set_option maxRecDepth 65536 in
theorem w_t3 : ((words1.drop 24).drop 24).all (fun c => isCode c || c.before args0 about1) = true := by decide +kernel
theorem w_tables : (allAtoms (Jvm.Cond.code x code maxLocals ret :: tables_1)).before args0 about1 = true := by
  rw [allAtoms_all]
  show words1.all (fun c => c.before args0 about1) = true
  refine all_split ?_ w_codes
  rw [← List.take_append_drop 24 words1, List.all_append, w_t1, ← List.take_append_drop 24 (words1.drop 24), List.all_append, w_t2, w_t3]
  rfl
set_option maxRecDepth 65536 in
theorem w_case : (Jvm.Cond.and given_1 narrow_1).before args0 about1 = true := by decide +kernel
theorem w_applies : (headSpec (Jvm.Cond.code x code maxLocals ret :: tables_1) room_1).applies x e0.platform about1 = true :=
  (Spec.applies_iff w_frames).mpr ⟨w_running, w_runnable, w_alone, w_named, w_hears, w_ripe, w_room, w_tables⟩
theorem atStart : AtStart classFile x code maxLocals ret World_1 tables_1 room_1 Calls_1 rest_1 Pre_1 launch0 p0 e0 about1 theMethod args0 below0 :=
  ⟨lists_1, trivial, launch0.admits_env _ _ _, launch0.least_env, fairChoices_fair.cas, fairChoices_fair.clock, w_frames, w_args, w_heap, w_applies, trivial, trivial, w_case⟩
end start1
theorem witness_1 : WitnessClaimed_1 := ⟨start1.p0, start1.e0, start1.about1, start1.theMethod, start1.args0, start1.below0, start1.atStart⟩
end Jvm.Pilot.@@N@@
