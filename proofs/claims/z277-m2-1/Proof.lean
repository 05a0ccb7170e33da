import JvmDerived
import JvmDerived.Pilot.@@N@@Statement
import JvmDerived.Pilot.@@N@@Code
set_option linter.unusedVariables false
set_option linter.unusedSimpArgs false
@@BLOCK:HandJ.lean.txt@@
@@BLOCK:HandW.lean.txt@@
@@BLOCK:HandBits.lean.txt@@
@@BLOCK:SymRun.lean.txt@@
@@BLOCK:RowBasics.lean.txt@@
@@BLOCK:Bridge.lean.txt@@
@@BLOCK:SymKit.lean.txt@@
@@BLOCK:NumsL.lean.txt@@
namespace Jvm.Pilot.@@N@@
open Jvm Jvm.ClassFile Sem Op Jvm.Sym Jvm.Pilot.@@N@@.Jvm.D
/-! needs paid whatever way the guards go, in one pass: D: conditions that are worth something -/
def own_def (T D : List Cond) (q : Cond) : Bool :=
  T.contains q || (D.contains q || match q with
  | .tt => true
  | .not c => own_def T D c
  | .and a b => own_def T D a && own_def T D b
  | .or a b => own_def T D a && own_def T D b
  | _ => false)
def own_sure (T D : List Cond) (q : Cond) : Bool :=
  T.contains q || match q with
  | .tt => true
  | .and a b => own_sure T D a && own_sure T D b
  | .or a b => own_sure T D a || (own_def T D a && own_sure T D b)
  | _ => false
theorem own_def_ok {T D : List Cond} {A : Array Value} {s : State} (hT : ∀ c ∈ T, c.value A s none s [] = some true) (hD : ∀ c ∈ D, ∃ z, c.value A s none s [] = some z) (q : Cond) : own_def T D q = true → ∃ z, q.value A s none s [] = some z := by
  have base : ∀ q : Cond, T.contains q = true ∨ D.contains q = true → ∃ z, q.value A s none s [] = some z := by
    intro q h
    rcases h with h | h
    · exact ⟨_, hT _ (List.contains_iff_mem.mp h)⟩
    · exact hD _ (List.contains_iff_mem.mp h)
  induction q with
  | tt => intro _; exact ⟨true, rfl⟩
  | not c ih =>
    intro h
    unfold own_def at h
    simp only [Bool.or_eq_true] at h
    rcases h with h | h | h
    · exact base _ (Or.inl h)
    · exact base _ (Or.inr h)
    · obtain ⟨z, hz⟩ := ih h
      exact ⟨!z, by simp [Cond.value, hz]⟩
  | and a b iha ihb =>
    intro h
    unfold own_def at h
    simp only [Bool.or_eq_true, Bool.and_eq_true] at h
    rcases h with h | h | ⟨h1, h2⟩
    · exact base _ (Or.inl h)
    · exact base _ (Or.inr h)
    · obtain ⟨z, hz⟩ := iha h1
      obtain ⟨z', hz'⟩ := ihb h2
      cases z with
      | true => exact ⟨z', by simp [Cond.value, hz, hz']⟩
      | false => exact ⟨false, by simp [Cond.value, hz]⟩
  | or a b iha ihb =>
    intro h
    unfold own_def at h
    simp only [Bool.or_eq_true, Bool.and_eq_true] at h
    rcases h with h | h | ⟨h1, h2⟩
    · exact base _ (Or.inl h)
    · exact base _ (Or.inr h)
    · obtain ⟨z, hz⟩ := iha h1
      obtain ⟨z', hz'⟩ := ihb h2
      cases z with
      | true => exact ⟨true, by simp [Cond.value, hz]⟩
      | false => exact ⟨z', by simp [Cond.value, hz, hz']⟩
  | _ =>
    intro h
    unfold own_def at h
    simp only [Bool.or_eq_true, Bool.or_false] at h
    exact base _ h
theorem own_sure_ok {T D : List Cond} {A : Array Value} {s : State} (hT : ∀ c ∈ T, c.value A s none s [] = some true) (hD : ∀ c ∈ D, ∃ z, c.value A s none s [] = some z) (q : Cond) : own_sure T D q = true → q.value A s none s [] = some true := by
  have base : ∀ q : Cond, T.contains q = true → q.value A s none s [] = some true := fun q h => hT _ (List.contains_iff_mem.mp h)
  induction q with
  | tt => intro _; rfl
  | and a b iha ihb =>
    intro h
    unfold own_sure at h
    simp only [Bool.or_eq_true, Bool.and_eq_true] at h
    rcases h with h | ⟨h1, h2⟩
    · exact base _ h
    · simp [Cond.value, iha h1, ihb h2]
  | or a b iha ihb =>
    intro h
    unfold own_sure at h
    simp only [Bool.or_eq_true, Bool.and_eq_true] at h
    rcases h with h | h | ⟨h1, h2⟩
    · exact base _ h
    · simp [Cond.value, iha h]
    · obtain ⟨z, hz⟩ := own_def_ok hT hD a h1
      cases z with
      | true => simp [Cond.value, hz]
      | false => simp [Cond.value, hz, ihb h2]
  | _ =>
    intro h
    unfold own_sure at h
    simp only [Bool.or_eq_true, Bool.or_false] at h
    exact base _ (by simpa using h)
theorem own_needs {L T D : List Cond} {A : Array Value} {s : State} (hT : ∀ c ∈ T, c.value A s none s [] = some true) (hD : ∀ c ∈ D, ∃ z, c.value A s none s [] = some z) (h : (L.all fun q => own_sure T D q) = true) : ∀ q ∈ L, q.before A s = true := by
  intro q hq
  exact before_of_value (own_sure_ok hT hD q (List.all_eq_true.mp h q hq))
theorem own_and {A : Array Value} {s : State} {a b : Cond} {x y : Bool} (h1 : a.value A s none s [] = some x) (h2 : b.value A s none s [] = some y) : (Cond.and a b).value A s none s [] = some (x && y) := by
  cases x <;> simp [Cond.value, h1, h2]
theorem own_or {A : Array Value} {s : State} {a b : Cond} {x y : Bool} (h1 : a.value A s none s [] = some x) (h2 : b.value A s none s [] = some y) : (Cond.or a b).value A s none s [] = some (x || y) := by
  cases x <;> simp [Cond.value, h1, h2]
theorem own_not {A : Array Value} {s : State} {a : Cond} {x : Bool} (h1 : a.value A s none s [] = some x) : (Cond.not a).value A s none s [] = some (!x) := by
  simp [Cond.value, h1]
def y : MethodName := ⟨"com/example/nodewalk/nodewalk/XPathNumbers", "isDigit", "(C)Z"⟩
def ycode : ByteArray := prog_137_method_8_code
def yI : Info := { own := "com/example/nodewalk/nodewalk/XPathNumbers", ret := some .boolean }
def yout : Option (Cond × List Cond × List Cond) := walk yI ycode 200 (entry [.int] 1)
theorem ywalks : yout.isSome = true := by decide +kernel
def ygot : Cond × List Cond × List Cond := yout.get ywalks
def yspec : Spec := specOf y ycode 1 (some .boolean) [.int] ygot.1 ygot.2.1 ygot.2.2
theorem ymeets (l : Launch) : MeetsLoose l y yspec :=
  walk_meets (n := 200) (I := yI) (by decide) rfl rfl (show walk yI ycode 200 (entry [.int] 1) = some (ygot.1, ygot.2.1, ygot.2.2) from (Option.some_get ywalks).symm)
theorem ycold : yspec.Cold := Spec.cold_of_keeps (by decide +kernel)
def ycallee : Callee := { y := y, S := yspec, bytes := ycode, maxL := 1, ret := some .boolean, static := true, params := 1, res := some .int }
def I : Info := { own := x.cls, ret := ret, ints := [(7, 65535)], calls := [(8, ycallee)], maxLocals := maxLocals, room := room_1 }
theorem callsOk (l : Launch) : CallsOk l I maxLocals room_1 := fun q hq => by
  simp only [I, List.mem_cons, List.not_mem_nil, or_false] at hq
  rcases hq with rfl
  · exact ⟨rfl, rfl, ymeets l, ycold⟩
def w := walkTo I code [] 400 true (entry [.int] maxLocals)
theorem w_some : w.isSome = true := by decide +kernel
def g0 : Cond := .eq (.old (.op1 .i2c (.op2 .iand (.arg 0) (.int 65535)))) (.old (.int 48))
def g1 : Cond := .lt (.old (.op1 .i2c (.op2 .iand (.arg 0) (.int 65535)))) (.old (.int 48))
def g2 : Cond := .not (.eq (.old (.op2 .iand (.int 0) (.int 1))) (.old (.int 1)))
def g3 : Cond := .lt (.old (.int 57)) (.old (.op1 .i2c (.op2 .iand (.arg 0) (.int 65535))))
def g4 : Cond := .not (.eq (.old (.op2 .iand (.int 1) (.int 1))) (.old (.int 1)))
def g5 : Cond := .eq (.old (.op1 .i2c (.op2 .iand (.arg 0) (.int 65535)))) (.old (.int 49))
def g6 : Cond := .eq (.old (.op1 .i2c (.op2 .iand (.arg 0) (.int 65535)))) (.old (.int 50))
def g7 : Cond := .eq (.old (.op1 .i2c (.op2 .iand (.arg 0) (.int 65535)))) (.old (.int 51))
def g8 : Cond := .eq (.old (.op1 .i2c (.op2 .iand (.arg 0) (.int 65535)))) (.old (.int 52))
def g9 : Cond := .eq (.old (.op1 .i2c (.op2 .iand (.arg 0) (.int 65535)))) (.old (.int 53))
def g10 : Cond := .eq (.old (.op1 .i2c (.op2 .iand (.arg 0) (.int 65535)))) (.old (.int 54))
def g11 : Cond := .eq (.old (.op1 .i2c (.op2 .iand (.arg 0) (.int 65535)))) (.old (.int 55))
def g12 : Cond := .eq (.old (.op1 .i2c (.op2 .iand (.arg 0) (.int 65535)))) (.old (.int 56))
def g13 : Cond := .not (.eq (.old (.op1 .i2c (.op2 .iand (.arg 0) (.int 65535)))) (.old (.int 57)))
def g14 : Cond := .not (.eq (.old (.op2 .iand (.int 0) (.int 1))) (.old (.int 0)))
def g15 : Cond := .not (.eq (.old (.op2 .iand (.int 1) (.int 1))) (.old (.int 0)))
def r0 : STree := .ret (some ⟨(.op2 .iand (.int 0) (.int 1)), .int⟩) []
def r1 : STree := .ret (some ⟨(.op2 .iand (.int 1) (.int 1)), .int⟩) []
def t0 : STree :=
 (.fork g0
  (.fork g1
   (.fork g2
    r0
    r1)
   (.fork g3
    (.fork g2
     r0
     r1)
    (.fork g4
     r0
     r1)))
  (.fork g5
   (.fork g1
    (.fork g2
     r0
     r1)
    (.fork g3
     (.fork g2
      r0
      r1)
     (.fork g4
      r0
      r1)))
   (.fork g6
    (.fork g1
     (.fork g2
      r0
      r1)
     (.fork g3
      (.fork g2
       r0
       r1)
      (.fork g4
       r0
       r1)))
    (.fork g7
     (.fork g1
      (.fork g2
       r0
       r1)
      (.fork g3
       (.fork g2
        r0
        r1)
       (.fork g4
        r0
        r1)))
     (.fork g8
      (.fork g1
       (.fork g2
        r0
        r1)
       (.fork g3
        (.fork g2
         r0
         r1)
        (.fork g4
         r0
         r1)))
      (.fork g9
       (.fork g1
        (.fork g2
         r0
         r1)
        (.fork g3
         (.fork g2
          r0
          r1)
         (.fork g4
          r0
          r1)))
       (.fork g10
        (.fork g1
         (.fork g2
          r0
          r1)
         (.fork g3
          (.fork g2
           r0
           r1)
          (.fork g4
           r0
           r1)))
        (.fork g11
         (.fork g1
          (.fork g2
           r0
           r1)
          (.fork g3
           (.fork g2
            r0
            r1)
           (.fork g4
            r0
            r1)))
         (.fork g12
          (.fork g1
           (.fork g2
            r0
            r1)
           (.fork g3
            (.fork g2
             r0
             r1)
            (.fork g4
             r0
             r1)))
          (.fork g13
           (.fork g1
            (.fork g14
             r0
             r1)
            (.fork g3
             (.fork g14
              r0
              r1)
             (.fork g15
              r0
              r1)))
           (.fork g1
            (.fork g2
             r0
             r1)
            (.fork g3
             (.fork g2
              r0
              r1)
             (.fork g4
              r0
              r1)))))))))))))
theorem g0_v (a : Int32) (s : State) : g0.value #[.int a] s none s [] = some (decide ((a &&& (65535 : Int32)).toUInt32.toUInt16.toUInt32.toInt32 = (48 : Int32))) := rfl
theorem g1_v (a : Int32) (s : State) : g1.value #[.int a] s none s [] = some (decide ((a &&& (65535 : Int32)).toUInt32.toUInt16.toUInt32.toInt32 < (48 : Int32))) := rfl
theorem g2_v (a : Int32) (s : State) : g2.value #[.int a] s none s [] = some (!(decide (((0 : Int32) &&& (1 : Int32)) = (1 : Int32)))) := rfl
theorem g3_v (a : Int32) (s : State) : g3.value #[.int a] s none s [] = some (decide ((57 : Int32) < (a &&& (65535 : Int32)).toUInt32.toUInt16.toUInt32.toInt32)) := rfl
theorem g4_v (a : Int32) (s : State) : g4.value #[.int a] s none s [] = some (!(decide (((1 : Int32) &&& (1 : Int32)) = (1 : Int32)))) := rfl
theorem g5_v (a : Int32) (s : State) : g5.value #[.int a] s none s [] = some (decide ((a &&& (65535 : Int32)).toUInt32.toUInt16.toUInt32.toInt32 = (49 : Int32))) := rfl
theorem g6_v (a : Int32) (s : State) : g6.value #[.int a] s none s [] = some (decide ((a &&& (65535 : Int32)).toUInt32.toUInt16.toUInt32.toInt32 = (50 : Int32))) := rfl
theorem g7_v (a : Int32) (s : State) : g7.value #[.int a] s none s [] = some (decide ((a &&& (65535 : Int32)).toUInt32.toUInt16.toUInt32.toInt32 = (51 : Int32))) := rfl
theorem g8_v (a : Int32) (s : State) : g8.value #[.int a] s none s [] = some (decide ((a &&& (65535 : Int32)).toUInt32.toUInt16.toUInt32.toInt32 = (52 : Int32))) := rfl
theorem g9_v (a : Int32) (s : State) : g9.value #[.int a] s none s [] = some (decide ((a &&& (65535 : Int32)).toUInt32.toUInt16.toUInt32.toInt32 = (53 : Int32))) := rfl
theorem g10_v (a : Int32) (s : State) : g10.value #[.int a] s none s [] = some (decide ((a &&& (65535 : Int32)).toUInt32.toUInt16.toUInt32.toInt32 = (54 : Int32))) := rfl
theorem g11_v (a : Int32) (s : State) : g11.value #[.int a] s none s [] = some (decide ((a &&& (65535 : Int32)).toUInt32.toUInt16.toUInt32.toInt32 = (55 : Int32))) := rfl
theorem g12_v (a : Int32) (s : State) : g12.value #[.int a] s none s [] = some (decide ((a &&& (65535 : Int32)).toUInt32.toUInt16.toUInt32.toInt32 = (56 : Int32))) := rfl
theorem g13_v (a : Int32) (s : State) : g13.value #[.int a] s none s [] = some (!(decide ((a &&& (65535 : Int32)).toUInt32.toUInt16.toUInt32.toInt32 = (57 : Int32)))) := rfl
theorem g14_v (a : Int32) (s : State) : g14.value #[.int a] s none s [] = some (!(decide (((0 : Int32) &&& (1 : Int32)) = (0 : Int32)))) := rfl
theorem g15_v (a : Int32) (s : State) : g15.value #[.int a] s none s [] = some (!(decide (((1 : Int32) &&& (1 : Int32)) = (0 : Int32)))) := rfl
theorem r0_v (a : Int32) (s : State) : Kit.valueOf #[.int a] s r0 = some (.int (((0 : Int32) &&& (1 : Int32)))) := rfl
theorem r1_v (a : Int32) (s : State) : Kit.valueOf #[.int a] s r1 = some (.int (((1 : Int32) &&& (1 : Int32)))) := rfl
theorem fork_v {A : Array Value} {s : State} {G : Cond} {a b : STree} {z : Bool} (h : G.value A s none s [] = some z) : Kit.valueOf A s (.fork G a b) = if z = true then Kit.valueOf A s a else Kit.valueOf A s b := by
  rw [Kit.valueOf, h]; cases z <;> rfl
def Gs : List Cond := [g0, g1, g2, g3, g4, g5, g6, g7, g8, g9, g10, g11, g12, g13, g14, g15]
theorem defined (a : Int32) (s : State) : ∀ G ∈ Gs, ∃ z, G.value #[.int a] s none s [] = some z := by
  intro G hG
  simp only [Gs, List.mem_cons, List.not_mem_nil, or_false] at hG
  rcases hG with rfl | rfl | rfl | rfl | rfl | rfl | rfl | rfl | rfl | rfl | rfl | rfl | rfl | rfl | rfl | rfl
  · exact ⟨_, g0_v a s⟩
  · exact ⟨_, g1_v a s⟩
  · exact ⟨_, g2_v a s⟩
  · exact ⟨_, g3_v a s⟩
  · exact ⟨_, g4_v a s⟩
  · exact ⟨_, g5_v a s⟩
  · exact ⟨_, g6_v a s⟩
  · exact ⟨_, g7_v a s⟩
  · exact ⟨_, g8_v a s⟩
  · exact ⟨_, g9_v a s⟩
  · exact ⟨_, g10_v a s⟩
  · exact ⟨_, g11_v a s⟩
  · exact ⟨_, g12_v a s⟩
  · exact ⟨_, g13_v a s⟩
  · exact ⟨_, g14_v a s⟩
  · exact ⟨_, g15_v a s⟩
def Gt : List Cond := [.isInt (.op1 .i2c (.op2 .iand (.arg 0) (.int 65535))), .isInt (.op2 .iand (.int 0) (.int 1)), .isInt (.op2 .iand (.int 1) (.int 1))]
theorem gt_ok (a : Int32) (s : State) : ∀ q ∈ Gt, q.value #[.int a] s none s [] = some true := by
  intro q hq
  simp only [Gt, List.mem_cons, List.not_mem_nil, or_false] at hq
  rcases hq with rfl | rfl | rfl <;> rfl
theorem tree : (w.get w_some).1 = t0 := by decide +kernel
theorem entry_walk : walkTo I code [] 400 true (entry [.int] maxLocals) = some (t0, (w.get w_some).2.1, (w.get w_some).2.2) := by
  rw [← tree]; exact (Option.some_get w_some).symm
theorem sorts_ok {a : Int32} {s : State} : ∀ q ∈ Sym.sorts 0 [.int], q.before #[.int a] s = true := by
  intro q hq
  simp only [Sym.sorts, List.mem_cons, List.not_mem_nil, or_false] at hq
  rcases hq with rfl <;> simp [isK, Cond.before, Cond.holds, Cond.value, Term.eval]
theorem value_eq (a : Int32) (s : State) : Kit.valueOf #[.int a] s t0 = some (.int 1) := by
  simp only [t0, fork_v (g0_v a s), fork_v (g1_v a s), fork_v (g2_v a s), fork_v (g3_v a s), fork_v (g4_v a s), fork_v (g5_v a s), fork_v (g6_v a s), fork_v (g7_v a s), fork_v (g8_v a s), fork_v (g9_v a s), fork_v (g10_v a s), fork_v (g11_v a s), fork_v (g12_v a s), fork_v (g13_v a s), fork_v (g14_v a s), fork_v (g15_v a s), r0_v, r1_v]
  generalize (a &&& (65535 : Int32)).toUInt32.toUInt16.toUInt32.toInt32 = c
  by_cases e0 : c = 48; · subst e0; rfl
  by_cases e1 : c = 49; · subst e1; rfl
  by_cases e2 : c = 50; · subst e2; rfl
  by_cases e3 : c = 51; · subst e3; rfl
  by_cases e4 : c = 52; · subst e4; rfl
  by_cases e5 : c = 53; · subst e5; rfl
  by_cases e6 : c = 54; · subst e6; rfl
  by_cases e7 : c = 55; · subst e7; rfl
  by_cases e8 : c = 56; · subst e8; rfl
  by_cases e9 : c = 57; · subst e9; rfl
  by_cases l : c < 48
  · simp [e0, e1, e2, e3, e4, e5, e6, e7, e8, e9, l]
  · have u : 57 < c := by
      simp only [← Int32.toInt_inj] at e0 e1 e2 e3 e4 e5 e6 e7 e8 e9
      rw [Int32.lt_iff_toInt_lt] at l ⊢
      have f : ∀ n : Int32, n.toInt = n.toInt := fun _ => rfl
      change ¬ c.toInt = 48 at e0; change ¬ c.toInt = 49 at e1; change ¬ c.toInt = 50 at e2; change ¬ c.toInt = 51 at e3; change ¬ c.toInt = 52 at e4
      change ¬ c.toInt = 53 at e5; change ¬ c.toInt = 54 at e6; change ¬ c.toInt = 55 at e7; change ¬ c.toInt = 56 at e8; change ¬ c.toInt = 57 at e9
      change ¬ c.toInt < 48 at l
      change (57 : Int) < c.toInt
      omega
    simp [e0, e1, e2, e3, e4, e5, e6, e7, e8, e9, l, u]
def post_1 : Cond := .and limb_1_1 limb_1_2
theorem met_1 (l : Launch) : MeetsLoose l x (armSpec x code maxLocals ret tables_1 room_1 .tt (.and given_1 narrow_1) post_1 frame_1_writes frame_1_arrays frame_1_statics) := by
  refine loops_meets (I := I) (ks0 := [.int]) (cuts := []) (by decide) rfl rfl rfl rfl rfl (fun args s h => ?_) entry_walk (fun _ => none) (fun _ _ _ _ _ => False) (fun _ _ _ => 0) (fun args s h => ?_) (fun args s _ h ks hks => by cases hks) (callsOk l)
  · simp only [armSpec, allAtoms, List.foldr_cons, Cond.before_and, Bool.and_eq_true] at h; exact h.1.1
  · have hts : (allAtoms (Cond.code x code maxLocals ret :: tables_1)).before args s = true := by simp only [armSpec, Cond.before_and, Bool.and_eq_true] at h; exact h.1
    have hK : (Cond.and .tt (.and given_1 narrow_1)).before args s = true := by simp only [armSpec, Cond.before_and, Bool.and_eq_true] at h ⊢; exact h.2
    simp only [armSpec, given_1, Cond.before_and, Bool.and_eq_true] at h
    obtain ⟨-, -, ⟨hc, h0⟩, hn⟩ := h
    obtain ⟨a, rfl⟩ := Cond.one_int hc h0
    have hT := known3 (Gt := Gt) hts hK (gt_ok a s)
    refine ⟨rfl, sorts_ok, tabs_of_sub hts (by decide +kernel), own_needs (D := Gs) hT (defined a s) (by decide +kernel), Kit.vc_of_value (w₀ := .int 1) (fun E => ?_) t0 (by decide +kernel) (value_eq a s)⟩
    simp [armSpec, post_1, limb_1_1, limb_1_2, Cond.after, Cond.holds, Cond.value, Term.eval]
theorem main_1_1 : Claimed_1_1 := armFor_of_meets0 (fun l => (met_1 l).meets) fun _ _ _ _ h => by simp only [post_1, Cond.after_and, Bool.and_eq_true] at h; exact h.1
theorem main_1_2 : Claimed_1_2 := armFor_of_meets0 (fun l => (met_1 l).meets) fun _ _ _ _ h => by simp only [post_1, Cond.after_and, Bool.and_eq_true] at h; exact h.2
end Jvm.Pilot.@@N@@
namespace Jvm.Pilot.@@N@@
open Jvm Jvm.ClassFile Sem Op Lib Jvm.Free Jvm.Stand Jvm.Pilot.@@N@@.Jvm.D
/-! MADE BY PROGRAM (witnessworld.py) out of the Statement's table words and the real class files: 9 classes; the members and pool entries that the words name. The judged class is class 1, her method 1. -/
namespace start1
open Jvm.ClassFile
def u (s : String) : CpInfo := .utf8 (stringToUtf16 s)
/-- a pool by its gaps: so many unusable entries, then the entry; so many at the end -/
def gap : Nat → List CpInfo → List CpInfo
  | 0, r => r
  | n + 1, r => .unusable :: gap n r
def poolList (es : List (Nat × CpInfo)) (last : Nat) : List CpInfo := es.foldr (fun e r => gap e.1 (e.2 :: r)) (gap last [])
def pool (es : List (Nat × CpInfo)) (last : Nat) : Array CpInfo := ⟨poolList es last⟩
def fileOf (pool : Array CpInfo) (this : Nat) (attrs : Array Attribute := #[]) (ms : Array MethodInfo := #[]) (fl : Nat := 33) (sup : Nat := 0) (ifs : Array Nat := #[]) (fds : Array FieldInfo := #[]) : ClassFile where
  minorVersion := 0
  majorVersion := 65
  constantPool := pool
  accessFlags := fl
  thisClass := this
  superClass := sup
  interfaces := ifs
  fields := fds
  methods := ms
  attributes := attrs
def plain (name : String) (sup : Option ClassId) : Class where
  name := name
  kind := .ordinary
  loader := none
  accessFlags := 33
  super := sup
  interfaces := #[]
  cf := none
  fields := #[]
  methods := #[]
  instanceTypes := #[]
  staticTypes := #[]
  resolved := #[]
  callSites := []
  init := .initialized
  statics := none
  mirror := none

def pool0 : Array CpInfo := pool [(5, u "<init>"), (0, u "()V"), (1, .class_ 10), (1, u "java/lang/Object")] 113

def k0m0 : Method := { name := "<init>", desc := "()V", sig := { parameters := [], returnType := none }, accessFlags := 1, code := none }
/-- java/lang/Object -/
def k0 : Class := { plain "java/lang/Object" none with
  accessFlags := 33
  interfaces := #[]
  cf := some (fileOf pool0 8 #[] #[{ accessFlags := 1, nameIndex := 5, descriptorIndex := 6, attributes := #[] }] 33 0 #[] #[])
  fields := #[]
  methods := #[k0m0]
  instanceTypes := #[]
  staticTypes := #[]
  resolved := Array.replicate 124 none
  statics := none }

def pool1 : Array CpInfo := pool [(2, .class_ 4), (1, u "java/lang/Object"), (0, u "<init>"), (0, u "()V"), (0, .integer 65535), (0, .methodref 9 10), (0, .class_ 11), (0, .nameAndType 12 13), (0, u "com/example/nodewalk/nodewalk/XPathNumbers"), (0, u "isDigit"), (0, u "(C)Z"), (0, .class_ 15), (0, u "com/example/nodewalk/nodewalk/XPathNumbersIsDigitPinLaw"), (2, u "law"), (0, u "(I)Z")] 3

def k1m0 : Method := { name := "<init>", desc := "()V", sig := { parameters := [], returnType := none }, accessFlags := 2, code := none }
def k1c1 : Code := { maxStack := 2, maxLocals := 3, code := code, exceptionTable := #[], attributes := #[] }
def k1m1 : Method := { name := "law", desc := "(I)Z", sig := { parameters := [.int], returnType := some .boolean }, accessFlags := 9, code := some k1c1 }
/-- com/example/nodewalk/nodewalk/XPathNumbersIsDigitPinLaw -/
def k1 : Class := { plain "com/example/nodewalk/nodewalk/XPathNumbersIsDigitPinLaw" (some 0) with
  accessFlags := 49
  interfaces := #[]
  cf := some (fileOf pool1 14 #[] #[{ accessFlags := 2, nameIndex := 5, descriptorIndex := 6, attributes := #[] }, { accessFlags := 9, nameIndex := 18, descriptorIndex := 19, attributes := #[] }] 49 2 #[] #[])
  fields := #[]
  methods := #[k1m0, k1m1]
  instanceTypes := #[]
  staticTypes := #[]
  resolved := Array.replicate 23 none
  statics := none }

def pool2 : Array CpInfo := pool [(2, .class_ 4), (1, u "java/lang/Object"), (0, u "<init>"), (0, u "()V"), (15, u "(C)Z"), (1, .class_ 26), (1, u "com/example/nodewalk/nodewalk/XPathNumbers"), (116, u "isDigit")] 6

def k2m0 : Method := { name := "<init>", desc := "()V", sig := { parameters := [], returnType := none }, accessFlags := 2, code := none }
def k2c1 : Code := { maxStack := 2, maxLocals := 1, code := prog_137_method_8_code, exceptionTable := #[], attributes := #[] }
def k2m1 : Method := { name := "isDigit", desc := "(C)Z", sig := { parameters := [.char], returnType := some .boolean }, accessFlags := 8, code := some k2c1 }
/-- com/example/nodewalk/nodewalk/XPathNumbers -/
def k2 : Class := { plain "com/example/nodewalk/nodewalk/XPathNumbers" (some 0) with
  accessFlags := 48
  interfaces := #[]
  cf := some (fileOf pool2 24 #[] #[{ accessFlags := 2, nameIndex := 5, descriptorIndex := 6, attributes := #[] }, { accessFlags := 8, nameIndex := 143, descriptorIndex := 22, attributes := #[] }] 48 2 #[] #[])
  fields := #[]
  methods := #[k2m0, k2m1]
  instanceTypes := #[]
  staticTypes := #[]
  resolved := Array.replicate 150 none
  statics := none }

def pool3 : Array CpInfo := pool [(1, u "java/lang/Cloneable"), (0, .class_ 1), (0, u "java/lang/Object"), (0, .class_ 3)] 3

/-- java/lang/Cloneable -/
def k3 : Class := { plain "java/lang/Cloneable" (some 0) with
  accessFlags := 1537
  interfaces := #[]
  cf := some (fileOf pool3 2 #[] #[] 1537 4 #[] #[])
  fields := #[]
  methods := #[]
  instanceTypes := #[]
  staticTypes := #[]
  resolved := Array.replicate 8 none
  statics := none }

def pool4 : Array CpInfo := pool [(1, u "java/io/Serializable"), (0, .class_ 1), (0, u "java/lang/Object"), (0, .class_ 3)] 3

/-- java/io/Serializable -/
def k4 : Class := { plain "java/io/Serializable" (some 0) with
  accessFlags := 1537
  interfaces := #[]
  cf := some (fileOf pool4 2 #[] #[] 1537 4 #[] #[])
  fields := #[]
  methods := #[]
  instanceTypes := #[]
  staticTypes := #[]
  resolved := Array.replicate 8 none
  statics := none }

/-- the primitive byte -/
def k5 : Class := { plain "byte" none with kind := .primitive 'B', accessFlags := 0x411 }
/-- [B -/
def k6 : Class := { plain "[B" (some 0) with kind := .array 5 .byte, interfaces := #[3, 4], accessFlags := 1041 }

/-- the primitive int -/
def k7 : Class := { plain "int" none with kind := .primitive 'I', accessFlags := 0x411 }
/-- [I -/
def k8 : Class := { plain "[I" (some 0) with kind := .array 7 .int, interfaces := #[3, 4], accessFlags := 1041 }

def heap : Heap := #[]
def classes : Array Class := #[k0, k1, k2, k3, k4, k5, k6, k7, k8]
def interned : List (Array UInt16 × Addr) := []
def slotsUsed : Nat := 0
def theMethod : MethodId := ⟨1, 1⟩
def args0 : Array Value := #[.int 53]
def aboutOver (below : List Frame) : State where
  vm := { classes := classes, interned := interned.toArray }
  heap := heap
  slotsUsed := slotsUsed
  threads := #[{ frames := .invoking theMethod args0 :: below }]
def below0 : List Frame := [.native { method := ⟨0, 0⟩, args := #[] }]
def about1 : State := aboutOver below0
def p0 : Program := .bare "" "" ""
def e0 : Env := launch0.env 0 0 0
theorem w_frames : about1.frames = Frame.invoking theMethod args0 :: below0 := rfl
set_option maxRecDepth 65536 in
theorem w_args : argsFit about1.vm theMethod args0 = true := by decide +kernel
set_option maxRecDepth 65536 in
theorem w_heap : heapFits about1 = true := by decide +kernel
set_option maxRecDepth 65536 in
theorem w_runnable : about1.curStatus? = some .runnable := by decide +kernel
set_option maxRecDepth 65536 in
theorem w_alone : about1.alone = true := by decide +kernel
set_option maxRecDepth 65536 in
theorem w_named : about1.methodNamed? x = some theMethod := by decide +kernel
set_option maxRecDepth 65536 in
theorem w_hears : about1.hears theMethod below0 = true := by decide +kernel
set_option maxRecDepth 65536 in
theorem w_ripe : about1.ripe theMethod args0 below0 = true := by decide +kernel
theorem w_running : about1.status = .running := rfl
set_option maxRecDepth 65536 in
theorem w_room : about1.hasRoom e0.platform room_1 = true :=
  launch0.hasRoom_least _ room_1 (by decide +kernel) (by decide +kernel) (by decide +kernel) (by decide +kernel) (by decide +kernel) (by decide +kernel)
theorem allAtoms_all (ts : List Jvm.Cond) (a : Array Jvm.Value) (st : Jvm.State) : (allAtoms ts).before a st = ts.all (fun c => c.before a st) := by
  induction ts with
  | nil => rfl
  | cons c t ih =>
    show (Jvm.Cond.and c (allAtoms t)).before a st = _
    rw [Jvm.Cond.before_and, ih, List.all_cons]
def words1 : List Jvm.Cond := Jvm.Cond.code x code maxLocals ret :: tables_1
/-- a 'code' word, met by the world's own term for the bytes: nothing is compared byte by byte -/
theorem code_word {y : MethodName} {bytes : ByteArray} {mx : Nat} {rt : Option FieldType} {a : Array Value} {s : State} {m : MethodId} {meth : Method} {c : Code} (h1 : s.methodNamed? y = some m) (h2 : s.vm.method? m = some meth) (h3 : meth.code = some c) (h4 : c.code = bytes)
    (h5 : (c.maxLocals == mx && c.exceptionTable.isEmpty && decide (c.maxStack ≤ mostOperands) && decide (meth.sig.returnType = rt) && !meth.locks && decide (parseMethodDescriptor y.desc = some meth.sig)) = true) : (Jvm.Cond.code y bytes mx rt).before a s = true := by
  simp only [Bool.and_eq_true, beq_iff_eq, Bool.not_eq_true', decide_eq_true_eq] at h5
  obtain ⟨⟨⟨⟨⟨g1, g2⟩, g3⟩, g4⟩, g5⟩, g6⟩ := h5
  simp [Cond.before, Cond.holds, Cond.value, h1, h2, h3, h4, g1, g2, g3, g4, g5, g6]
def isCode : Jvm.Cond → Bool
  | .code _ _ _ _ => true
  | _ => false
theorem all_split {L : List Jvm.Cond} {P : Jvm.Cond → Bool} (h1 : L.all (fun c => isCode c || P c) = true) (h2 : ∀ c ∈ L.filter isCode, P c = true) : L.all P = true := by
  refine List.all_eq_true.mpr fun c hc => ?_
  have h := List.all_eq_true.mp h1 c hc
  rcases Bool.eq_false_or_eq_true (isCode c) with hi | hi
  · exact h2 c (List.mem_filter.mpr ⟨hc, hi⟩)
  · simpa [hi] using h
set_option maxRecDepth 65536 in
theorem w_c0 : (Jvm.Cond.code x code maxLocals ret).before args0 about1 = true := code_word (m := ⟨1, 1⟩) (meth := k1m1) (c := k1c1) (by decide +kernel) rfl rfl rfl (by decide +kernel)
set_option maxRecDepth 65536 in
theorem w_c1 : (Jvm.Cond.code ({ cls := "com/example/nodewalk/nodewalk/XPathNumbers", name := "isDigit", desc := "(C)Z" } : Jvm.MethodName) prog_137_method_8_code (1 : Nat) (Option.some Jvm.ClassFile.FieldType.boolean)).before args0 about1 = true := code_word (m := ⟨2, 1⟩) (meth := k2m1) (c := k2c1) (by decide +kernel) rfl rfl rfl (by decide +kernel)
def codes1 : List Jvm.Cond := [Jvm.Cond.code x code maxLocals ret, Jvm.Cond.code ({ cls := "com/example/nodewalk/nodewalk/XPathNumbers", name := "isDigit", desc := "(C)Z" } : Jvm.MethodName) prog_137_method_8_code (1 : Nat) (Option.some Jvm.ClassFile.FieldType.boolean)]
set_option maxRecDepth 65536 in
theorem codes_eq : words1.filter isCode = codes1 := rfl
theorem w_codes : ∀ c ∈ words1.filter isCode, c.before args0 about1 = true := by
  rw [codes_eq]
  intro c hc
  simp only [codes1, List.mem_cons, List.not_mem_nil, or_false] at hc
  rcases hc with rfl | rfl
  · exact w_c0
  · exact w_c1
set_option maxRecDepth 65536 in
theorem w_t1 : words1.all (fun c => isCode c || c.before args0 about1) = true := by decide +kernel
theorem w_tables : (allAtoms (Jvm.Cond.code x code maxLocals ret :: tables_1)).before args0 about1 = true := by
  rw [allAtoms_all]
  show words1.all (fun c => c.before args0 about1) = true
  refine all_split ?_ w_codes
  rw [w_t1]
set_option maxRecDepth 65536 in
theorem w_case : (Jvm.Cond.and given_1 narrow_1).before args0 about1 = true := by decide +kernel
theorem w_applies : (headSpec (Jvm.Cond.code x code maxLocals ret :: tables_1) room_1).applies x e0.platform about1 = true :=
  (Spec.applies_iff w_frames).mpr ⟨w_running, w_runnable, w_alone, w_named, w_hears, w_ripe, w_room, w_tables⟩
theorem atStart : AtStart classFile x code maxLocals ret World_1 tables_1 room_1 Calls_1 rest_1 Pre_1 launch0 p0 e0 about1 theMethod args0 below0 :=
  ⟨lists_1, trivial, launch0.admits_env _ _ _, launch0.least_env, fairChoices_fair.cas, fairChoices_fair.clock, w_frames, w_args, w_heap, w_applies, trivial, trivial, w_case⟩
end start1
theorem witness_1 : WitnessClaimed_1 := ⟨start1.p0, start1.e0, start1.about1, start1.theMethod, start1.args0, start1.below0, start1.atStart⟩
end Jvm.Pilot.@@N@@
