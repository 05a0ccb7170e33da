import JvmDerived
import JvmDerived.Pilot.@@N@@Statement
import JvmDerived.Pilot.@@N@@Code
set_option linter.unusedVariables false
set_option linter.unusedSimpArgs false
@@BLOCK:HandJ.lean.txt@@
@@BLOCK:HandW.lean.txt@@
@@BLOCK:HandBits.lean.txt@@
@@BLOCK:SymRun.lean.txt@@
@@BLOCK:RowBasics.lean.txt@@
@@BLOCK:Bridge.lean.txt@@
@@BLOCK:SymKit.lean.txt@@
@@BLOCK:NumsL.lean.txt@@
namespace Jvm.Pilot.@@N@@
open Jvm Jvm.ClassFile Sem Op Jvm.Sym Jvm.Pilot.@@N@@.Jvm.D
/-! needs paid whatever way the guards go, in one pass: D: conditions that are worth something -/
def own_def (T D : List Cond) (q : Cond) : Bool :=
  T.contains q || (D.contains q || match q with
  | .tt => true
  | .not c => own_def T D c
  | .and a b => own_def T D a && own_def T D b
  | .or a b => own_def T D a && own_def T D b
  | _ => false)
def own_sure (T D : List Cond) (q : Cond) : Bool :=
  T.contains q || match q with
  | .tt => true
  | .and a b => own_sure T D a && own_sure T D b
  | .or a b => own_sure T D a || (own_def T D a && own_sure T D b)
  | _ => false
theorem own_def_ok {T D : List Cond} {A : Array Value} {s : State} (hT : ∀ c ∈ T, c.value A s none s [] = some true) (hD : ∀ c ∈ D, ∃ z, c.value A s none s [] = some z) (q : Cond) : own_def T D q = true → ∃ z, q.value A s none s [] = some z := by
  have base : ∀ q : Cond, T.contains q = true ∨ D.contains q = true → ∃ z, q.value A s none s [] = some z := by
    intro q h
    rcases h with h | h
    · exact ⟨_, hT _ (List.contains_iff_mem.mp h)⟩
    · exact hD _ (List.contains_iff_mem.mp h)
  induction q with
  | tt => intro _; exact ⟨true, rfl⟩
  | not c ih =>
    intro h
    unfold own_def at h
    simp only [Bool.or_eq_true] at h
    rcases h with h | h | h
    · exact base _ (Or.inl h)
    · exact base _ (Or.inr h)
    · obtain ⟨z, hz⟩ := ih h
      exact ⟨!z, by simp [Cond.value, hz]⟩
  | and a b iha ihb =>
    intro h
    unfold own_def at h
    simp only [Bool.or_eq_true, Bool.and_eq_true] at h
    rcases h with h | h | ⟨h1, h2⟩
    · exact base _ (Or.inl h)
    · exact base _ (Or.inr h)
    · obtain ⟨z, hz⟩ := iha h1
      obtain ⟨z', hz'⟩ := ihb h2
      cases z with
      | true => exact ⟨z', by simp [Cond.value, hz, hz']⟩
      | false => exact ⟨false, by simp [Cond.value, hz]⟩
  | or a b iha ihb =>
    intro h
    unfold own_def at h
    simp only [Bool.or_eq_true, Bool.and_eq_true] at h
    rcases h with h | h | ⟨h1, h2⟩
    · exact base _ (Or.inl h)
    · exact base _ (Or.inr h)
    · obtain ⟨z, hz⟩ := iha h1
      obtain ⟨z', hz'⟩ := ihb h2
      cases z with
      | true => exact ⟨true, by simp [Cond.value, hz]⟩
      | false => exact ⟨z', by simp [Cond.value, hz, hz']⟩
  | _ =>
    intro h
    unfold own_def at h
    simp only [Bool.or_eq_true, Bool.or_false] at h
    exact base _ h
theorem own_sure_ok {T D : List Cond} {A : Array Value} {s : State} (hT : ∀ c ∈ T, c.value A s none s [] = some true) (hD : ∀ c ∈ D, ∃ z, c.value A s none s [] = some z) (q : Cond) : own_sure T D q = true → q.value A s none s [] = some true := by
  have base : ∀ q : Cond, T.contains q = true → q.value A s none s [] = some true := fun q h => hT _ (List.contains_iff_mem.mp h)
  induction q with
  | tt => intro _; rfl
  | and a b iha ihb =>
    intro h
    unfold own_sure at h
    simp only [Bool.or_eq_true, Bool.and_eq_true] at h
    rcases h with h | ⟨h1, h2⟩
    · exact base _ h
    · simp [Cond.value, iha h1, ihb h2]
  | or a b iha ihb =>
    intro h
    unfold own_sure at h
    simp only [Bool.or_eq_true, Bool.and_eq_true] at h
    rcases h with h | h | ⟨h1, h2⟩
    · exact base _ h
    · simp [Cond.value, iha h]
    · obtain ⟨z, hz⟩ := own_def_ok hT hD a h1
      cases z with
      | true => simp [Cond.value, hz]
      | false => simp [Cond.value, hz, ihb h2]
  | _ =>
    intro h
    unfold own_sure at h
    simp only [Bool.or_eq_true, Bool.or_false] at h
    exact base _ (by simpa using h)
theorem own_needs {L T D : List Cond} {A : Array Value} {s : State} (hT : ∀ c ∈ T, c.value A s none s [] = some true) (hD : ∀ c ∈ D, ∃ z, c.value A s none s [] = some z) (h : (L.all fun q => own_sure T D q) = true) : ∀ q ∈ L, q.before A s = true := by
  intro q hq
  exact before_of_value (own_sure_ok hT hD q (List.all_eq_true.mp h q hq))
theorem own_and {A : Array Value} {s : State} {a b : Cond} {x y : Bool} (h1 : a.value A s none s [] = some x) (h2 : b.value A s none s [] = some y) : (Cond.and a b).value A s none s [] = some (x && y) := by
  cases x <;> simp [Cond.value, h1, h2]
theorem own_or {A : Array Value} {s : State} {a b : Cond} {x y : Bool} (h1 : a.value A s none s [] = some x) (h2 : b.value A s none s [] = some y) : (Cond.or a b).value A s none s [] = some (x || y) := by
  cases x <;> simp [Cond.value, h1, h2]
theorem own_not {A : Array Value} {s : State} {a : Cond} {x : Bool} (h1 : a.value A s none s [] = some x) : (Cond.not a).value A s none s [] = some (!x) := by
  simp [Cond.value, h1]
/-! what both methods answer, as one condition and in plain words -/
def own_g : Cond := .or (.and (.not (.lt (.arg 0) (.int 65))) (.le (.arg 0) (.int 90))) (.or (.and (.not (.lt (.arg 0) (.int 97))) (.le (.arg 0) (.int 122))) (.or (.and (.not (.lt (.arg 0) (.int 48))) (.le (.arg 0) (.int 57))) (.or (.eq (.arg 0) (.int 46)) (.or (.eq (.arg 0) (.int 95)) (.or (.eq (.arg 0) (.int 58)) (.eq (.arg 0) (.int 45)))))))
def own_P (c : Int32) : Bool := (!decide (c < 65) && decide (c ≤ 90)) || ((!decide (c < 97) && decide (c ≤ 122)) || ((!decide (c < 48) && decide (c ≤ 57)) || (decide (c = 46) || (decide (c = 95) || (decide (c = 58) || decide (c = 45))))))
theorem own_g_v (c : Int32) (s : State) : own_g.value #[.int c] s none s [] = some (own_P c) :=
  own_or (own_and (own_not rfl) rfl) (own_or (own_and (own_not rfl) rfl) (own_or (own_and (own_not rfl) rfl) (own_or rfl (own_or rfl (own_or rfl rfl)))))
def own_post : Cond := .or (.and own_g (.and .returned (.eq .result (.old (.int 1))))) (.and (.not own_g) (.and .returned (.eq .result (.old (.int 0)))))
theorem own_post_ok (c : Int32) (s E : State) : own_post.after #[.int c] s (.returned (some (.int (if own_P c = true then 1 else 0)))) E = true := by
  have hg : ∀ o, own_g.value #[.int c] s o E [] = some (own_P c) := fun o => (Cond.value_early o none E s own_g [] [] (by decide)).trans (own_g_v c s)
  cases hp : own_P c
  · rw [hp] at hg; simp [own_post, Cond.after, Cond.holds, Cond.value, hg, Term.eval]
  · rw [hp] at hg; simp [own_post, Cond.after, Cond.holds, Cond.value, hg, Term.eval]
theorem own_sorts {a : Int32} {s : State} : ∀ q ∈ Sym.sorts 0 [.int], q.before #[.int a] s = true := by
  intro q hq
  simp only [Sym.sorts, List.mem_cons, List.not_mem_nil, or_false] at hq
  rcases hq with rfl; simp [isK, Cond.before, Cond.holds, Cond.value, Term.eval]
/-! numbers -/
theorem own_letter (c : Int32) : ((!decide ((c ||| 32) < 97)) && !decide (122 < (c ||| 32))) = ((!decide (c < 65) && decide (c ≤ 90)) || (!decide (c < 97) && decide (c ≤ 122))) := by
  by_cases h0 : 0 ≤ c.toInt
  · by_cases h1 : c.toInt < 128
    · obtain ⟨n, hn, rfl⟩ : ∃ n : Nat, n < 128 ∧ c = Int32.ofNat n := by
        refine ⟨c.toInt.toNat, by omega, Int32.toInt_inj.mp ?_⟩
        rw [Int32.toInt_ofNat_small (by omega)]; omega
      have key : ∀ a : Fin 128, ((!decide ((Int32.ofNat a.1 ||| 32) < 97)) && !decide (122 < (Int32.ofNat a.1 ||| 32))) = ((!decide (Int32.ofNat a.1 < 65) && decide (Int32.ofNat a.1 ≤ 90)) || (!decide (Int32.ofNat a.1 < 97) && decide (Int32.ofNat a.1 ≤ 122))) := by decide +kernel
      exact key ⟨n, hn⟩
    · have h2 := (Jvm.RoadKit.c_or0 c 32 h0 (by decide)).1
      have a1 : (122 : Int32) < (c ||| 32) := by rw [Int32.lt_iff_toInt_lt]; show (122 : Int) < _; omega
      have a2 : ¬ c ≤ 90 := by rw [Int32.le_iff_toInt_le]; show ¬ _ ≤ (90 : Int); omega
      have a3 : ¬ c ≤ 122 := by rw [Int32.le_iff_toInt_le]; show ¬ _ ≤ (122 : Int); omega
      simp [a1, a2, a3]
  · have h2 := (Jvm.RoadKit.c_orS c 32).2.1 (by omega)
    have a1 : (c ||| 32) < 97 := by rw [Int32.lt_iff_toInt_lt]; show _ < (97 : Int); omega
    have a2 : c < 65 := by rw [Int32.lt_iff_toInt_lt]; show _ < (65 : Int); omega
    have a3 : c < 97 := by rw [Int32.lt_iff_toInt_lt]; show _ < (97 : Int); omega
    simp [a1, a2, a3]
theorem own_sub48 (c : Int32) : (c.toInt64 - 48).toInt = c.toInt - 48 := by
  have a := c.toInt_lt; have b := c.le_toInt
  have e : c.toInt64.toInt = c.toInt := Jvm.Kit.i64_of_i32 c
  have f : (48 : Int64).toInt = 48 := rfl
  rw [Jvm.Kit.i64_sub (by rw [e, f]; omega) (by rw [e, f]; omega), e, f]
theorem own_d1 (c : Int32) : decide (Jvm.RoadKit.lcmpV (c.toInt64 - 48) 0 < 0) = decide (c < 48) := by
  rw [decide_eq_decide, Jvm.RoadKit.lc_lt, Int64.lt_iff_toInt_lt, own_sub48, Int32.lt_iff_toInt_lt]
  show c.toInt - 48 < 0 ↔ c.toInt < 48
  omega
theorem own_d2 (c : Int32) : decide (0 < Jvm.RoadKit.lcmpV (c.toInt64 - 48) 9) = !decide (c ≤ 57) := by
  rw [← decide_not, decide_eq_decide, Jvm.RoadKit.lc_gt, Int64.lt_iff_toInt_lt, own_sub48, Int32.le_iff_toInt_le]
  show (9 : Int) < c.toInt - 48 ↔ ¬ c.toInt ≤ 57
  omega
def y : MethodName := ⟨"com/example/gaoler/gaoler/OwnerToken", "isAllowedCharacter", "(I)Z"⟩
def ycode : ByteArray := prog_14_method_4_code
def yI : Info := { own := "com/example/gaoler/gaoler/OwnerToken", ret := some .boolean }
def yw := walkTo yI ycode [] 400 true (entry [.int] 1)
theorem yw_some : yw.isSome = true := by decide +kernel
def yg0 : Cond := .lt (.old (.arg 0)) (.old (.int 65))
def yg1 : Cond := .lt (.old (.arg 0)) (.old (.int 97))
def yg2 : Cond := .lt (.old (.arg 0)) (.old (.int 48))
def yg3 : Cond := .eq (.old (.arg 0)) (.old (.int 46))
def yg4 : Cond := .eq (.old (.arg 0)) (.old (.int 95))
def yg5 : Cond := .eq (.old (.arg 0)) (.old (.int 58))
def yg6 : Cond := .not (.eq (.old (.arg 0)) (.old (.int 45)))
def yg7 : Cond := .le (.old (.arg 0)) (.old (.int 57))
def yg8 : Cond := .le (.old (.arg 0)) (.old (.int 122))
def yg9 : Cond := .le (.old (.arg 0)) (.old (.int 90))
def yr0 : STree := .ret (some ⟨(.op2 .iand (.int 1) (.int 1)), .int⟩) []
def yr1 : STree := .ret (some ⟨(.op2 .iand (.int 0) (.int 1)), .int⟩) []
def yt0 : STree :=
 (.fork yg0
  (.fork yg1
   (.fork yg2
    (.fork yg3
     yr0
     (.fork yg4
      yr0
      (.fork yg5
       yr0
       (.fork yg6
        yr1
        yr0))))
    (.fork yg7
     yr0
     (.fork yg3
      yr0
      (.fork yg4
       yr0
       (.fork yg5
        yr0
        (.fork yg6
         yr1
         yr0))))))
   (.fork yg8
    yr0
    (.fork yg2
     (.fork yg3
      yr0
      (.fork yg4
       yr0
       (.fork yg5
        yr0
        (.fork yg6
         yr1
         yr0))))
     (.fork yg7
      yr0
      (.fork yg3
       yr0
       (.fork yg4
        yr0
        (.fork yg5
         yr0
         (.fork yg6
          yr1
          yr0))))))))
  (.fork yg9
   yr0
   (.fork yg1
    (.fork yg2
     (.fork yg3
      yr0
      (.fork yg4
       yr0
       (.fork yg5
        yr0
        (.fork yg6
         yr1
         yr0))))
     (.fork yg7
      yr0
      (.fork yg3
       yr0
       (.fork yg4
        yr0
        (.fork yg5
         yr0
         (.fork yg6
          yr1
          yr0))))))
    (.fork yg8
     yr0
     (.fork yg2
      (.fork yg3
       yr0
       (.fork yg4
        yr0
        (.fork yg5
         yr0
         (.fork yg6
          yr1
          yr0))))
      (.fork yg7
       yr0
       (.fork yg3
        yr0
        (.fork yg4
         yr0
         (.fork yg5
          yr0
          (.fork yg6
           yr1
           yr0))))))))))
theorem yg0_v (a : Int32) (s : State) : yg0.value #[.int a] s none s [] = some (decide (a < (65 : Int32))) := rfl
theorem yg1_v (a : Int32) (s : State) : yg1.value #[.int a] s none s [] = some (decide (a < (97 : Int32))) := rfl
theorem yg2_v (a : Int32) (s : State) : yg2.value #[.int a] s none s [] = some (decide (a < (48 : Int32))) := rfl
theorem yg3_v (a : Int32) (s : State) : yg3.value #[.int a] s none s [] = some (decide (a = (46 : Int32))) := rfl
theorem yg4_v (a : Int32) (s : State) : yg4.value #[.int a] s none s [] = some (decide (a = (95 : Int32))) := rfl
theorem yg5_v (a : Int32) (s : State) : yg5.value #[.int a] s none s [] = some (decide (a = (58 : Int32))) := rfl
theorem yg6_v (a : Int32) (s : State) : yg6.value #[.int a] s none s [] = some (!(decide (a = (45 : Int32)))) := rfl
theorem yg7_v (a : Int32) (s : State) : yg7.value #[.int a] s none s [] = some (decide (a ≤ (57 : Int32))) := rfl
theorem yg8_v (a : Int32) (s : State) : yg8.value #[.int a] s none s [] = some (decide (a ≤ (122 : Int32))) := rfl
theorem yg9_v (a : Int32) (s : State) : yg9.value #[.int a] s none s [] = some (decide (a ≤ (90 : Int32))) := rfl
theorem yr0_v (a : Int32) (s : State) : Kit.valueOf #[.int a] s yr0 = some (.int (((1 : Int32) &&& (1 : Int32)))) := rfl
theorem yr1_v (a : Int32) (s : State) : Kit.valueOf #[.int a] s yr1 = some (.int (((0 : Int32) &&& (1 : Int32)))) := rfl
theorem yfork_v {A : Array Value} {s : State} {G : Cond} {a b : STree} {z : Bool} (h : G.value A s none s [] = some z) : Kit.valueOf A s (.fork G a b) = if z = true then Kit.valueOf A s a else Kit.valueOf A s b := by
  rw [Kit.valueOf, h]; cases z <;> rfl
def yGs : List Cond := [yg0, yg1, yg2, yg3, yg4, yg5, yg6, yg7, yg8, yg9]
theorem ydefined (a : Int32) (s : State) : ∀ G ∈ yGs, ∃ z, G.value #[.int a] s none s [] = some z := by
  intro G hG
  simp only [yGs, List.mem_cons, List.not_mem_nil, or_false] at hG
  rcases hG with rfl | rfl | rfl | rfl | rfl | rfl | rfl | rfl | rfl | rfl
  · exact ⟨_, yg0_v a s⟩
  · exact ⟨_, yg1_v a s⟩
  · exact ⟨_, yg2_v a s⟩
  · exact ⟨_, yg3_v a s⟩
  · exact ⟨_, yg4_v a s⟩
  · exact ⟨_, yg5_v a s⟩
  · exact ⟨_, yg6_v a s⟩
  · exact ⟨_, yg7_v a s⟩
  · exact ⟨_, yg8_v a s⟩
  · exact ⟨_, yg9_v a s⟩
def yGt : List Cond := []
-- no needs of kinds
theorem own_P_def (a : Int32) : own_P a = ((!decide (a < 65) && decide (a ≤ 90)) || ((!decide (a < 97) && decide (a ≤ 122)) || ((!decide (a < 48) && decide (a ≤ 57)) || (decide (a = 46) || (decide (a = 95) || (decide (a = 58) || decide (a = 45))))))) := rfl
theorem yvalue (a : Int32) (s : State) : Kit.valueOf #[.int a] s yt0 = some (.int (if own_P a = true then 1 else 0)) := by
  rw [own_P_def]
  simp only [yt0, yfork_v (yg0_v a s), yfork_v (yg1_v a s), yfork_v (yg2_v a s), yfork_v (yg3_v a s), yfork_v (yg4_v a s), yfork_v (yg5_v a s), yfork_v (yg6_v a s), yfork_v (yg7_v a s), yfork_v (yg8_v a s), yfork_v (yg9_v a s), yr0_v, yr1_v]
  generalize decide (a < 65) = z0
  generalize decide (a < 97) = z1
  generalize decide (a < 48) = z2
  generalize decide (a = 46) = z3
  generalize decide (a = 95) = z4
  generalize decide (a = 58) = z5
  generalize decide (a = 45) = z6
  generalize decide (a ≤ 57) = z7
  generalize decide (a ≤ 122) = z8
  generalize decide (a ≤ 90) = z9
  cases z0 <;> cases z9 <;> cases z1 <;> cases z8 <;> cases z2 <;> cases z7 <;> first | rfl | (cases z3 <;> cases z4 <;> cases z5 <;> cases z6 <;> rfl)

theorem ytree : (yw.get yw_some).1 = yt0 := by decide +kernel
theorem yentry : walkTo yI ycode [] 400 true (entry [.int] 1) = some (yt0, (yw.get yw_some).2.1, (yw.get yw_some).2.2) := by
  have e : ∀ q : STree × List Cond × List Cond, q = (q.1, q.2.1, q.2.2) := fun _ => rfl
  rw [← ytree]
  exact (Option.some_get yw_some).symm.trans (congrArg some (e _))
def yspec : Spec := specOf y ycode 1 (some .boolean) [.int] own_post (yw.get yw_some).2.1 (yw.get yw_some).2.2
theorem ymeets (l : Launch) : MeetsLoose l y yspec := by
  refine loops_meets (I := yI) (ks0 := [.int]) (cuts := []) (by decide) rfl rfl rfl rfl rfl (fun args s h => conj_before h _ List.mem_cons_self) yentry (fun _ => none) (fun _ _ _ _ _ => False) (fun _ _ _ => 0) (fun args s h => ?_) (fun args s _ h ks hks => by cases hks)
  have hpre := conj_before h
  have hc := hpre (.count 1) (by simp)
  have h0 := hpre (.isInt (.arg 0)) (by simp [Sym.sorts, isK])
  obtain ⟨a, rfl⟩ := Cond.one_int hc h0
  refine ⟨rfl, own_sorts, fun q hq => hpre q (by simp [hq]), fun q hq => hpre q (by simp [hq]), Kit.vc_of_value (w₀ := .int (if own_P a = true then 1 else 0)) (fun E => own_post_ok a s E) yt0 (by decide +kernel) (yvalue a s)⟩
theorem ycold : yspec.Cold := Spec.cold_of_keeps (by decide +kernel)
def ycallee : Callee := { y := y, S := yspec, bytes := ycode, maxL := 1, ret := some .boolean, static := true, params := 1, res := some .int }
def z : MethodName := ⟨"com/example/gaoler/gaoler/OwnerTokenIsAllowedCharacterPinLaw", "expected", "(I)Z"⟩
def zcode : ByteArray := method_3_code
def zI : Info := { own := "com/example/gaoler/gaoler/OwnerTokenIsAllowedCharacterPinLaw", ret := some .boolean, longs := [(19, 48), (21, 9)] }
def zw := walkTo zI zcode [] 400 true (entry [.int] 7)
theorem zw_some : zw.isSome = true := by decide +kernel
def zg0 : Cond := .lt (.old (.op2 .ior (.arg 0) (.int 32))) (.old (.int 97))
def zg1 : Cond := .lt (.old (.op2 .lcmp (.op2 .lsub (.op1 .i2l (.arg 0)) (.long 48)) (.long 0))) (.int 0)
def zg2 : Cond := .eq (.old (.arg 0)) (.old (.int 46))
def zg3 : Cond := .not (.eq (.old (.int 0)) (.int 0))
def zg4 : Cond := .eq (.old (.int 1)) (.int 0)
def zg5 : Cond := .eq (.old (.arg 0)) (.old (.int 95))
def zg6 : Cond := .eq (.old (.arg 0)) (.old (.int 58))
def zg7 : Cond := .not (.eq (.old (.arg 0)) (.old (.int 45)))
def zg8 : Cond := .eq (.old (.int 0)) (.int 0)
def zg9 : Cond := .lt (.int 0) (.old (.op2 .lcmp (.op2 .lsub (.op1 .i2l (.arg 0)) (.long 48)) (.long 9)))
def zg10 : Cond := .not (.eq (.old (.int 1)) (.int 0))
def zg11 : Cond := .lt (.old (.int 122)) (.old (.op2 .ior (.arg 0) (.int 32)))
def zr0 : STree := .ret (some ⟨(.op2 .iand (.int 1) (.int 1)), .int⟩) []
def zr1 : STree := .ret (some ⟨(.op2 .iand (.int 0) (.int 1)), .int⟩) []
def zt0 : STree :=
 (.fork zg0
  (.fork zg1
   (.fork zg2
    (.fork zg3
     zr0
     (.fork zg3
      zr0
      (.fork zg4
       zr1
       zr0)))
    (.fork zg5
     (.fork zg3
      zr0
      (.fork zg3
       zr0
       (.fork zg4
        zr1
        zr0)))
     (.fork zg6
      (.fork zg3
       zr0
       (.fork zg3
        zr0
        (.fork zg4
         zr1
         zr0)))
      (.fork zg7
       (.fork zg3
        zr0
        (.fork zg3
         zr0
         (.fork zg8
          zr1
          zr0)))
       (.fork zg3
        zr0
        (.fork zg3
         zr0
         (.fork zg4
          zr1
          zr0)))))))
   (.fork zg9
    (.fork zg2
     (.fork zg3
      zr0
      (.fork zg3
       zr0
       (.fork zg4
        zr1
        zr0)))
     (.fork zg5
      (.fork zg3
       zr0
       (.fork zg3
        zr0
        (.fork zg4
         zr1
         zr0)))
      (.fork zg6
       (.fork zg3
        zr0
        (.fork zg3
         zr0
         (.fork zg4
          zr1
          zr0)))
       (.fork zg7
        (.fork zg3
         zr0
         (.fork zg3
          zr0
          (.fork zg8
           zr1
           zr0)))
        (.fork zg3
         zr0
         (.fork zg3
          zr0
          (.fork zg4
           zr1
           zr0)))))))
    (.fork zg2
     (.fork zg3
      zr0
      (.fork zg10
       zr0
       (.fork zg4
        zr1
        zr0)))
     (.fork zg5
      (.fork zg3
       zr0
       (.fork zg10
        zr0
        (.fork zg4
         zr1
         zr0)))
      (.fork zg6
       (.fork zg3
        zr0
        (.fork zg10
         zr0
         (.fork zg4
          zr1
          zr0)))
       (.fork zg7
        (.fork zg3
         zr0
         (.fork zg10
          zr0
          (.fork zg8
           zr1
           zr0)))
        (.fork zg3
         zr0
         (.fork zg10
          zr0
          (.fork zg4
           zr1
           zr0)))))))))
  (.fork zg11
   (.fork zg1
    (.fork zg2
     (.fork zg3
      zr0
      (.fork zg3
       zr0
       (.fork zg4
        zr1
        zr0)))
     (.fork zg5
      (.fork zg3
       zr0
       (.fork zg3
        zr0
        (.fork zg4
         zr1
         zr0)))
      (.fork zg6
       (.fork zg3
        zr0
        (.fork zg3
         zr0
         (.fork zg4
          zr1
          zr0)))
       (.fork zg7
        (.fork zg3
         zr0
         (.fork zg3
          zr0
          (.fork zg8
           zr1
           zr0)))
        (.fork zg3
         zr0
         (.fork zg3
          zr0
          (.fork zg4
           zr1
           zr0)))))))
    (.fork zg9
     (.fork zg2
      (.fork zg3
       zr0
       (.fork zg3
        zr0
        (.fork zg4
         zr1
         zr0)))
      (.fork zg5
       (.fork zg3
        zr0
        (.fork zg3
         zr0
         (.fork zg4
          zr1
          zr0)))
       (.fork zg6
        (.fork zg3
         zr0
         (.fork zg3
          zr0
          (.fork zg4
           zr1
           zr0)))
        (.fork zg7
         (.fork zg3
          zr0
          (.fork zg3
           zr0
           (.fork zg8
            zr1
            zr0)))
         (.fork zg3
          zr0
          (.fork zg3
           zr0
           (.fork zg4
            zr1
            zr0)))))))
     (.fork zg2
      (.fork zg3
       zr0
       (.fork zg10
        zr0
        (.fork zg4
         zr1
         zr0)))
      (.fork zg5
       (.fork zg3
        zr0
        (.fork zg10
         zr0
         (.fork zg4
          zr1
          zr0)))
       (.fork zg6
        (.fork zg3
         zr0
         (.fork zg10
          zr0
          (.fork zg4
           zr1
           zr0)))
        (.fork zg7
         (.fork zg3
          zr0
          (.fork zg10
           zr0
           (.fork zg8
            zr1
            zr0)))
         (.fork zg3
          zr0
          (.fork zg10
           zr0
           (.fork zg4
            zr1
            zr0)))))))))
   (.fork zg1
    (.fork zg2
     (.fork zg10
      zr0
      (.fork zg3
       zr0
       (.fork zg4
        zr1
        zr0)))
     (.fork zg5
      (.fork zg10
       zr0
       (.fork zg3
        zr0
        (.fork zg4
         zr1
         zr0)))
      (.fork zg6
       (.fork zg10
        zr0
        (.fork zg3
         zr0
         (.fork zg4
          zr1
          zr0)))
       (.fork zg7
        (.fork zg10
         zr0
         (.fork zg3
          zr0
          (.fork zg8
           zr1
           zr0)))
        (.fork zg10
         zr0
         (.fork zg3
          zr0
          (.fork zg4
           zr1
           zr0)))))))
    (.fork zg9
     (.fork zg2
      (.fork zg10
       zr0
       (.fork zg3
        zr0
        (.fork zg4
         zr1
         zr0)))
      (.fork zg5
       (.fork zg10
        zr0
        (.fork zg3
         zr0
         (.fork zg4
          zr1
          zr0)))
       (.fork zg6
        (.fork zg10
         zr0
         (.fork zg3
          zr0
          (.fork zg4
           zr1
           zr0)))
        (.fork zg7
         (.fork zg10
          zr0
          (.fork zg3
           zr0
           (.fork zg8
            zr1
            zr0)))
         (.fork zg10
          zr0
          (.fork zg3
           zr0
           (.fork zg4
            zr1
            zr0)))))))
     (.fork zg2
      (.fork zg10
       zr0
       (.fork zg10
        zr0
        (.fork zg4
         zr1
         zr0)))
      (.fork zg5
       (.fork zg10
        zr0
        (.fork zg10
         zr0
         (.fork zg4
          zr1
          zr0)))
       (.fork zg6
        (.fork zg10
         zr0
         (.fork zg10
          zr0
          (.fork zg4
           zr1
           zr0)))
        (.fork zg7
         (.fork zg10
          zr0
          (.fork zg10
           zr0
           (.fork zg8
            zr1
            zr0)))
         (.fork zg10
          zr0
          (.fork zg10
           zr0
           (.fork zg4
            zr1
            zr0)))))))))))
theorem zg0_v (a : Int32) (s : State) : zg0.value #[.int a] s none s [] = some (decide ((a ||| (32 : Int32)) < (97 : Int32))) := rfl
theorem zg1_v (a : Int32) (s : State) : zg1.value #[.int a] s none s [] = some (decide ((Jvm.RoadKit.lcmpV (a.toInt64 - (48 : Int64)) (0 : Int64)) < (0 : Int32))) := rfl
theorem zg2_v (a : Int32) (s : State) : zg2.value #[.int a] s none s [] = some (decide (a = (46 : Int32))) := rfl
theorem zg3_v (a : Int32) (s : State) : zg3.value #[.int a] s none s [] = some (!(decide ((0 : Int32) = (0 : Int32)))) := rfl
theorem zg4_v (a : Int32) (s : State) : zg4.value #[.int a] s none s [] = some (decide ((1 : Int32) = (0 : Int32))) := rfl
theorem zg5_v (a : Int32) (s : State) : zg5.value #[.int a] s none s [] = some (decide (a = (95 : Int32))) := rfl
theorem zg6_v (a : Int32) (s : State) : zg6.value #[.int a] s none s [] = some (decide (a = (58 : Int32))) := rfl
theorem zg7_v (a : Int32) (s : State) : zg7.value #[.int a] s none s [] = some (!(decide (a = (45 : Int32)))) := rfl
theorem zg8_v (a : Int32) (s : State) : zg8.value #[.int a] s none s [] = some (decide ((0 : Int32) = (0 : Int32))) := rfl
theorem zg9_v (a : Int32) (s : State) : zg9.value #[.int a] s none s [] = some (decide ((0 : Int32) < (Jvm.RoadKit.lcmpV (a.toInt64 - (48 : Int64)) (9 : Int64)))) := rfl
theorem zg10_v (a : Int32) (s : State) : zg10.value #[.int a] s none s [] = some (!(decide ((1 : Int32) = (0 : Int32)))) := rfl
theorem zg11_v (a : Int32) (s : State) : zg11.value #[.int a] s none s [] = some (decide ((122 : Int32) < (a ||| (32 : Int32)))) := rfl
theorem zr0_v (a : Int32) (s : State) : Kit.valueOf #[.int a] s zr0 = some (.int (((1 : Int32) &&& (1 : Int32)))) := rfl
theorem zr1_v (a : Int32) (s : State) : Kit.valueOf #[.int a] s zr1 = some (.int (((0 : Int32) &&& (1 : Int32)))) := rfl
theorem zfork_v {A : Array Value} {s : State} {G : Cond} {a b : STree} {z : Bool} (h : G.value A s none s [] = some z) : Kit.valueOf A s (.fork G a b) = if z = true then Kit.valueOf A s a else Kit.valueOf A s b := by
  rw [Kit.valueOf, h]; cases z <;> rfl
def zGs : List Cond := [zg0, zg1, zg2, zg3, zg4, zg5, zg6, zg7, zg8, zg9, zg10, zg11]
theorem zdefined (a : Int32) (s : State) : ∀ G ∈ zGs, ∃ z, G.value #[.int a] s none s [] = some z := by
  intro G hG
  simp only [zGs, List.mem_cons, List.not_mem_nil, or_false] at hG
  rcases hG with rfl | rfl | rfl | rfl | rfl | rfl | rfl | rfl | rfl | rfl | rfl | rfl
  · exact ⟨_, zg0_v a s⟩
  · exact ⟨_, zg1_v a s⟩
  · exact ⟨_, zg2_v a s⟩
  · exact ⟨_, zg3_v a s⟩
  · exact ⟨_, zg4_v a s⟩
  · exact ⟨_, zg5_v a s⟩
  · exact ⟨_, zg6_v a s⟩
  · exact ⟨_, zg7_v a s⟩
  · exact ⟨_, zg8_v a s⟩
  · exact ⟨_, zg9_v a s⟩
  · exact ⟨_, zg10_v a s⟩
  · exact ⟨_, zg11_v a s⟩
def zGt : List Cond := []
-- no needs of kinds
theorem own_P_eq (a : Int32) : own_P a = (((!decide ((a ||| 32) < 97)) && !decide (122 < (a ||| 32))) || ((!decide (a < 48) && decide (a ≤ 57)) || (decide (a = 46) || (decide (a = 95) || (decide (a = 58) || decide (a = 45)))))) := by
  rw [own_letter, own_P, Bool.or_assoc]
theorem zvalue (a : Int32) (s : State) : Kit.valueOf #[.int a] s zt0 = some (.int (if own_P a = true then 1 else 0)) := by
  rw [own_P_eq]
  simp only [zt0, zfork_v (zg0_v a s), zfork_v (zg1_v a s), zfork_v (zg2_v a s), zfork_v (zg3_v a s), zfork_v (zg4_v a s), zfork_v (zg5_v a s), zfork_v (zg6_v a s), zfork_v (zg7_v a s), zfork_v (zg8_v a s), zfork_v (zg9_v a s), zfork_v (zg10_v a s), zfork_v (zg11_v a s), zr0_v, zr1_v]
  rw [own_d1, own_d2]
  generalize decide ((a ||| 32) < 97) = z0
  generalize decide (122 < (a ||| 32)) = z1
  generalize decide (a < 48) = z2
  generalize decide (a ≤ 57) = z3
  generalize decide (a = 46) = z4
  generalize decide (a = 95) = z5
  generalize decide (a = 58) = z6
  generalize decide (a = 45) = z7
  cases z0 <;> cases z1 <;> cases z2 <;> cases z3 <;> cases z4 <;> cases z5 <;> cases z6 <;> cases z7 <;> rfl

theorem ztree : (zw.get zw_some).1 = zt0 := by decide +kernel
theorem zentry : walkTo zI zcode [] 400 true (entry [.int] 7) = some (zt0, (zw.get zw_some).2.1, (zw.get zw_some).2.2) := by
  have e : ∀ q : STree × List Cond × List Cond, q = (q.1, q.2.1, q.2.2) := fun _ => rfl
  rw [← ztree]
  exact (Option.some_get zw_some).symm.trans (congrArg some (e _))
def zspec : Spec := specOf z zcode 7 (some .boolean) [.int] own_post (zw.get zw_some).2.1 (zw.get zw_some).2.2
theorem zmeets (l : Launch) : MeetsLoose l z zspec := by
  refine loops_meets (I := zI) (ks0 := [.int]) (cuts := []) (by decide) rfl rfl rfl rfl rfl (fun args s h => conj_before h _ List.mem_cons_self) zentry (fun _ => none) (fun _ _ _ _ _ => False) (fun _ _ _ => 0) (fun args s h => ?_) (fun args s _ h ks hks => by cases hks)
  have hpre := conj_before h
  have hc := hpre (.count 1) (by simp)
  have h0 := hpre (.isInt (.arg 0)) (by simp [Sym.sorts, isK])
  obtain ⟨a, rfl⟩ := Cond.one_int hc h0
  refine ⟨rfl, own_sorts, fun q hq => hpre q (by simp [hq]), fun q hq => hpre q (by simp [hq]), Kit.vc_of_value (w₀ := .int (if own_P a = true then 1 else 0)) (fun E => own_post_ok a s E) zt0 (by decide +kernel) (zvalue a s)⟩
theorem zcold : zspec.Cold := Spec.cold_of_keeps (by decide +kernel)
def zcallee : Callee := { y := z, S := zspec, bytes := zcode, maxL := 7, ret := some .boolean, static := true, params := 1, res := some .int }
def I : Info := { own := x.cls, ret := ret, ints := [(7, 65535)], calls := [(8, ycallee), (14, zcallee)], maxLocals := maxLocals, room := room_1 }
theorem callsOk (l : Launch) : CallsOk l I maxLocals room_1 := fun q hq => by
  simp only [I, List.mem_cons, List.not_mem_nil, or_false] at hq
  rcases hq with rfl | rfl
  · exact ⟨rfl, rfl, ymeets l, ycold⟩
  · exact ⟨rfl, rfl, zmeets l, zcold⟩
def w := walkTo I code [] 400 true (entry [.int, .int] maxLocals)
theorem w_some : w.isSome = true := by decide +kernel
def g0 : Cond := .not (.eq (.old (.op2 .iand (.arg 1) (.int 3))) (.int 0))
def g1 : Cond := .not (.eq (.old (.op2 .iand (.arg 1) (.int 3))) (.old (.int 1)))
def g2 : Cond := .not (.eq (.old (.op2 .iand (.arg 1) (.int 3))) (.old (.int 2)))
def g3 : Cond := .or (.and (.not (.lt (.arg 0) (.int 65))) (.le (.arg 0) (.int 90))) (.or (.and (.not (.lt (.arg 0) (.int 97))) (.le (.arg 0) (.int 122))) (.or (.and (.not (.lt (.arg 0) (.int 48))) (.le (.arg 0) (.int 57))) (.or (.eq (.arg 0) (.int 46)) (.or (.eq (.arg 0) (.int 95)) (.or (.eq (.arg 0) (.int 58)) (.eq (.arg 0) (.int 45)))))))
def g4 : Cond := .not (.eq (.old (.int 1)) (.old (.int 1)))
def g5 : Cond := .not (.eq (.old (.int 1)) (.old (.int 0)))
def g6 : Cond := .not (.eq (.old (.int 0)) (.old (.int 1)))
def g7 : Cond := .not (.eq (.old (.int 0)) (.old (.int 0)))
def g8 : Cond := .or (.and (.not (.lt (.op2 .iand (.arg 0) (.int 65535)) (.int 65))) (.le (.op2 .iand (.arg 0) (.int 65535)) (.int 90))) (.or (.and (.not (.lt (.op2 .iand (.arg 0) (.int 65535)) (.int 97))) (.le (.op2 .iand (.arg 0) (.int 65535)) (.int 122))) (.or (.and (.not (.lt (.op2 .iand (.arg 0) (.int 65535)) (.int 48))) (.le (.op2 .iand (.arg 0) (.int 65535)) (.int 57))) (.or (.eq (.op2 .iand (.arg 0) (.int 65535)) (.int 46)) (.or (.eq (.op2 .iand (.arg 0) (.int 65535)) (.int 95)) (.or (.eq (.op2 .iand (.arg 0) (.int 65535)) (.int 58)) (.eq (.op2 .iand (.arg 0) (.int 65535)) (.int 45)))))))
def g9 : Cond := .or (.and (.not (.lt (.op2 .iand (.arg 0) (.int 255)) (.int 65))) (.le (.op2 .iand (.arg 0) (.int 255)) (.int 90))) (.or (.and (.not (.lt (.op2 .iand (.arg 0) (.int 255)) (.int 97))) (.le (.op2 .iand (.arg 0) (.int 255)) (.int 122))) (.or (.and (.not (.lt (.op2 .iand (.arg 0) (.int 255)) (.int 48))) (.le (.op2 .iand (.arg 0) (.int 255)) (.int 57))) (.or (.eq (.op2 .iand (.arg 0) (.int 255)) (.int 46)) (.or (.eq (.op2 .iand (.arg 0) (.int 255)) (.int 95)) (.or (.eq (.op2 .iand (.arg 0) (.int 255)) (.int 58)) (.eq (.op2 .iand (.arg 0) (.int 255)) (.int 45)))))))
def g10 : Cond := .or (.and (.not (.lt (.op2 .iand (.arg 0) (.int 127)) (.int 65))) (.le (.op2 .iand (.arg 0) (.int 127)) (.int 90))) (.or (.and (.not (.lt (.op2 .iand (.arg 0) (.int 127)) (.int 97))) (.le (.op2 .iand (.arg 0) (.int 127)) (.int 122))) (.or (.and (.not (.lt (.op2 .iand (.arg 0) (.int 127)) (.int 48))) (.le (.op2 .iand (.arg 0) (.int 127)) (.int 57))) (.or (.eq (.op2 .iand (.arg 0) (.int 127)) (.int 46)) (.or (.eq (.op2 .iand (.arg 0) (.int 127)) (.int 95)) (.or (.eq (.op2 .iand (.arg 0) (.int 127)) (.int 58)) (.eq (.op2 .iand (.arg 0) (.int 127)) (.int 45)))))))
def r0 : STree := .ret (some ⟨(.op2 .iand (.int 0) (.int 1)), .int⟩) []
def r1 : STree := .ret (some ⟨(.op2 .iand (.int 1) (.int 1)), .int⟩) []
def t0 : STree :=
 (.fork g0
  (.fork g1
   (.fork g2
    (.fork g3
     (.fork g3
      (.fork g4
       r0
       r1)
      (.fork g5
       r0
       r1))
     (.fork g3
      (.fork g6
       r0
       r1)
      (.fork g7
       r0
       r1)))
    (.fork g8
     (.fork g8
      (.fork g4
       r0
       r1)
      (.fork g5
       r0
       r1))
     (.fork g8
      (.fork g6
       r0
       r1)
      (.fork g7
       r0
       r1))))
   (.fork g9
    (.fork g9
     (.fork g4
      r0
      r1)
     (.fork g5
      r0
      r1))
    (.fork g9
     (.fork g6
      r0
      r1)
     (.fork g7
      r0
      r1))))
  (.fork g10
   (.fork g10
    (.fork g4
     r0
     r1)
    (.fork g5
     r0
     r1))
   (.fork g10
    (.fork g6
     r0
     r1)
    (.fork g7
     r0
     r1))))
theorem g0_v (a : Int32) (b : Int32) (s : State) : g0.value #[.int a, .int b] s none s [] = some (!(decide ((b &&& (3 : Int32)) = (0 : Int32)))) := rfl
theorem g1_v (a : Int32) (b : Int32) (s : State) : g1.value #[.int a, .int b] s none s [] = some (!(decide ((b &&& (3 : Int32)) = (1 : Int32)))) := rfl
theorem g2_v (a : Int32) (b : Int32) (s : State) : g2.value #[.int a, .int b] s none s [] = some (!(decide ((b &&& (3 : Int32)) = (2 : Int32)))) := rfl
theorem g3_v (a : Int32) (b : Int32) (s : State) : g3.value #[.int a, .int b] s none s [] = some (((!(decide (a < (65 : Int32))) && decide (a ≤ (90 : Int32))) || ((!(decide (a < (97 : Int32))) && decide (a ≤ (122 : Int32))) || ((!(decide (a < (48 : Int32))) && decide (a ≤ (57 : Int32))) || (decide (a = (46 : Int32)) || (decide (a = (95 : Int32)) || (decide (a = (58 : Int32)) || decide (a = (45 : Int32))))))))) := (own_or (own_and rfl rfl) (own_or (own_and rfl rfl) (own_or (own_and rfl rfl) (own_or rfl (own_or rfl (own_or rfl rfl))))))
theorem g4_v (a : Int32) (b : Int32) (s : State) : g4.value #[.int a, .int b] s none s [] = some (!(decide ((1 : Int32) = (1 : Int32)))) := rfl
theorem g5_v (a : Int32) (b : Int32) (s : State) : g5.value #[.int a, .int b] s none s [] = some (!(decide ((1 : Int32) = (0 : Int32)))) := rfl
theorem g6_v (a : Int32) (b : Int32) (s : State) : g6.value #[.int a, .int b] s none s [] = some (!(decide ((0 : Int32) = (1 : Int32)))) := rfl
theorem g7_v (a : Int32) (b : Int32) (s : State) : g7.value #[.int a, .int b] s none s [] = some (!(decide ((0 : Int32) = (0 : Int32)))) := rfl
theorem g8_v (a : Int32) (b : Int32) (s : State) : g8.value #[.int a, .int b] s none s [] = some (((!(decide ((a &&& (65535 : Int32)) < (65 : Int32))) && decide ((a &&& (65535 : Int32)) ≤ (90 : Int32))) || ((!(decide ((a &&& (65535 : Int32)) < (97 : Int32))) && decide ((a &&& (65535 : Int32)) ≤ (122 : Int32))) || ((!(decide ((a &&& (65535 : Int32)) < (48 : Int32))) && decide ((a &&& (65535 : Int32)) ≤ (57 : Int32))) || (decide ((a &&& (65535 : Int32)) = (46 : Int32)) || (decide ((a &&& (65535 : Int32)) = (95 : Int32)) || (decide ((a &&& (65535 : Int32)) = (58 : Int32)) || decide ((a &&& (65535 : Int32)) = (45 : Int32))))))))) := (own_or (own_and rfl rfl) (own_or (own_and rfl rfl) (own_or (own_and rfl rfl) (own_or rfl (own_or rfl (own_or rfl rfl))))))
theorem g9_v (a : Int32) (b : Int32) (s : State) : g9.value #[.int a, .int b] s none s [] = some (((!(decide ((a &&& (255 : Int32)) < (65 : Int32))) && decide ((a &&& (255 : Int32)) ≤ (90 : Int32))) || ((!(decide ((a &&& (255 : Int32)) < (97 : Int32))) && decide ((a &&& (255 : Int32)) ≤ (122 : Int32))) || ((!(decide ((a &&& (255 : Int32)) < (48 : Int32))) && decide ((a &&& (255 : Int32)) ≤ (57 : Int32))) || (decide ((a &&& (255 : Int32)) = (46 : Int32)) || (decide ((a &&& (255 : Int32)) = (95 : Int32)) || (decide ((a &&& (255 : Int32)) = (58 : Int32)) || decide ((a &&& (255 : Int32)) = (45 : Int32))))))))) := (own_or (own_and rfl rfl) (own_or (own_and rfl rfl) (own_or (own_and rfl rfl) (own_or rfl (own_or rfl (own_or rfl rfl))))))
theorem g10_v (a : Int32) (b : Int32) (s : State) : g10.value #[.int a, .int b] s none s [] = some (((!(decide ((a &&& (127 : Int32)) < (65 : Int32))) && decide ((a &&& (127 : Int32)) ≤ (90 : Int32))) || ((!(decide ((a &&& (127 : Int32)) < (97 : Int32))) && decide ((a &&& (127 : Int32)) ≤ (122 : Int32))) || ((!(decide ((a &&& (127 : Int32)) < (48 : Int32))) && decide ((a &&& (127 : Int32)) ≤ (57 : Int32))) || (decide ((a &&& (127 : Int32)) = (46 : Int32)) || (decide ((a &&& (127 : Int32)) = (95 : Int32)) || (decide ((a &&& (127 : Int32)) = (58 : Int32)) || decide ((a &&& (127 : Int32)) = (45 : Int32))))))))) := (own_or (own_and rfl rfl) (own_or (own_and rfl rfl) (own_or (own_and rfl rfl) (own_or rfl (own_or rfl (own_or rfl rfl))))))
theorem r0_v (a : Int32) (b : Int32) (s : State) : Kit.valueOf #[.int a, .int b] s r0 = some (.int (((0 : Int32) &&& (1 : Int32)))) := rfl
theorem r1_v (a : Int32) (b : Int32) (s : State) : Kit.valueOf #[.int a, .int b] s r1 = some (.int (((1 : Int32) &&& (1 : Int32)))) := rfl
theorem fork_v {A : Array Value} {s : State} {G : Cond} {a b : STree} {z : Bool} (h : G.value A s none s [] = some z) : Kit.valueOf A s (.fork G a b) = if z = true then Kit.valueOf A s a else Kit.valueOf A s b := by
  rw [Kit.valueOf, h]; cases z <;> rfl
def Gs : List Cond := [g0, g1, g2, g3, g4, g5, g6, g7, g8, g9, g10]
theorem defined (a : Int32) (b : Int32) (s : State) : ∀ G ∈ Gs, ∃ z, G.value #[.int a, .int b] s none s [] = some z := by
  intro G hG
  simp only [Gs, List.mem_cons, List.not_mem_nil, or_false] at hG
  rcases hG with rfl | rfl | rfl | rfl | rfl | rfl | rfl | rfl | rfl | rfl | rfl
  · exact ⟨_, g0_v a b s⟩
  · exact ⟨_, g1_v a b s⟩
  · exact ⟨_, g2_v a b s⟩
  · exact ⟨_, g3_v a b s⟩
  · exact ⟨_, g4_v a b s⟩
  · exact ⟨_, g5_v a b s⟩
  · exact ⟨_, g6_v a b s⟩
  · exact ⟨_, g7_v a b s⟩
  · exact ⟨_, g8_v a b s⟩
  · exact ⟨_, g9_v a b s⟩
  · exact ⟨_, g10_v a b s⟩
def Gt : List Cond := [.isInt (.arg 0), .isInt (.int 1), .isInt (.int 0), .isInt (.op2 .iand (.arg 0) (.int 65535)), .isInt (.op2 .iand (.arg 0) (.int 255)), .isInt (.op2 .iand (.arg 0) (.int 127))]
theorem gt_ok (a : Int32) (b : Int32) (s : State) : ∀ q ∈ Gt, q.value #[.int a, .int b] s none s [] = some true := by
  intro q hq
  simp only [Gt, List.mem_cons, List.not_mem_nil, or_false] at hq
  rcases hq with rfl | rfl | rfl | rfl | rfl | rfl <;> rfl
theorem tree : (w.get w_some).1 = t0 := by decide +kernel
theorem entry_walk : walkTo I code [] 400 true (entry [.int, .int] maxLocals) = some (t0, (w.get w_some).2.1, (w.get w_some).2.2) := by
  rw [← tree]; exact (Option.some_get w_some).symm
theorem sorts_ok {a : Int32} {b : Int32} {s : State} : ∀ q ∈ Sym.sorts 0 [.int, .int], q.before #[.int a, .int b] s = true := by
  intro q hq
  simp only [Sym.sorts, List.mem_cons, List.not_mem_nil, or_false] at hq
  rcases hq with rfl | rfl <;> simp [isK, Cond.before, Cond.holds, Cond.value, Term.eval]
theorem value_eq (a b : Int32) (s : State) : Kit.valueOf #[.int a, .int b] s t0 = some (.int 1) := by
  obtain ⟨z3, h3⟩ : ∃ z, g3.value #[.int a, .int b] s none s [] = some z := ⟨_, g3_v a b s⟩
  obtain ⟨z8, h8⟩ : ∃ z, g8.value #[.int a, .int b] s none s [] = some z := ⟨_, g8_v a b s⟩
  obtain ⟨z9, h9⟩ : ∃ z, g9.value #[.int a, .int b] s none s [] = some z := ⟨_, g9_v a b s⟩
  obtain ⟨z10, h10⟩ : ∃ z, g10.value #[.int a, .int b] s none s [] = some z := ⟨_, g10_v a b s⟩
  simp only [t0, fork_v (g0_v a b s), fork_v (g1_v a b s), fork_v (g2_v a b s), fork_v h3, fork_v (g4_v a b s), fork_v (g5_v a b s), fork_v (g6_v a b s), fork_v (g7_v a b s), fork_v h8, fork_v h9, fork_v h10, r0_v, r1_v]
  generalize decide ((b &&& (3 : Int32)) = (0 : Int32)) = y0
  generalize decide ((b &&& (3 : Int32)) = (1 : Int32)) = y1
  generalize decide ((b &&& (3 : Int32)) = (2 : Int32)) = y2
  cases y0
  · cases y1
    · cases y2
      · cases z3 <;> rfl
      · cases z8 <;> rfl
    · cases z9 <;> rfl
  · cases z10 <;> rfl
def post_1 : Cond := .and limb_1_1 limb_1_2
set_option maxHeartbeats 40000000 in
theorem met_1 (l : Launch) : MeetsLoose l x (armSpec x code maxLocals ret tables_1 room_1 .tt (.and given_1 narrow_1) post_1 frame_1_writes frame_1_arrays frame_1_statics) := by
  refine loops_meets (I := I) (ks0 := [.int, .int]) (cuts := []) (by decide) rfl rfl rfl rfl rfl (fun args s h => ?_) entry_walk (fun _ => none) (fun _ _ _ _ _ => False) (fun _ _ _ => 0) (fun args s h => ?_) (fun args s _ h ks hks => by cases hks) (callsOk l)
  · simp only [armSpec, allAtoms, List.foldr_cons, Cond.before_and, Bool.and_eq_true] at h; exact h.1.1
  · have hts : (allAtoms (Cond.code x code maxLocals ret :: tables_1)).before args s = true := by simp only [armSpec, Cond.before_and, Bool.and_eq_true] at h; exact h.1
    have hK : (Cond.and .tt (.and given_1 narrow_1)).before args s = true := by simp only [armSpec, Cond.before_and, Bool.and_eq_true] at h ⊢; exact h.2
    simp only [armSpec, given_1, Cond.before_and, Bool.and_eq_true] at h
    obtain ⟨-, -, ⟨hc, h0, h1⟩, hn⟩ := h
    obtain ⟨a, b, rfl⟩ := Cond.two_ints hc h0 h1
    have hT := known3 (Gt := Gt) hts hK (gt_ok a b s)
    refine ⟨rfl, sorts_ok, tabs_of_sub hts (by decide +kernel), own_needs (D := Gs) hT (defined a b s) (by decide +kernel), Kit.vc_of_value (w₀ := .int 1) (fun E => ?_) t0 (by decide +kernel) (value_eq a b s)⟩
    simp [armSpec, post_1, limb_1_1, limb_1_2, Cond.after, Cond.holds, Cond.value, Term.eval]
theorem main_1_1 : Claimed_1_1 := armFor_of_meets0 (fun l => (met_1 l).meets) fun _ _ _ _ h => by simp only [post_1, Cond.after_and, Bool.and_eq_true] at h; exact h.1
theorem main_1_2 : Claimed_1_2 := armFor_of_meets0 (fun l => (met_1 l).meets) fun _ _ _ _ h => by simp only [post_1, Cond.after_and, Bool.and_eq_true] at h; exact h.2
end Jvm.Pilot.@@N@@
namespace Jvm.Pilot.@@N@@
open Jvm Jvm.ClassFile Sem Op Lib Jvm.Free Jvm.Stand Jvm.Pilot.@@N@@.Jvm.D
/-! MADE BY PROGRAM (witnessworld.py) out of the Statement's table words and the real class files: 10 classes; the members and pool entries that the words name. The judged class is class 1, her method 1. -/
namespace start1
open Jvm.ClassFile
def u (s : String) : CpInfo := .utf8 (stringToUtf16 s)
/-- a pool by its gaps: so many unusable entries, then the entry; so many at the end -/
def gap : Nat → List CpInfo → List CpInfo
  | 0, r => r
  | n + 1, r => .unusable :: gap n r
def poolList (es : List (Nat × CpInfo)) (last : Nat) : List CpInfo := es.foldr (fun e r => gap e.1 (e.2 :: r)) (gap last [])
def pool (es : List (Nat × CpInfo)) (last : Nat) : Array CpInfo := ⟨poolList es last⟩
def fileOf (pool : Array CpInfo) (this : Nat) (attrs : Array Attribute := #[]) (ms : Array MethodInfo := #[]) (fl : Nat := 33) (sup : Nat := 0) (ifs : Array Nat := #[]) (fds : Array FieldInfo := #[]) : ClassFile where
  minorVersion := 0
  majorVersion := 65
  constantPool := pool
  accessFlags := fl
  thisClass := this
  superClass := sup
  interfaces := ifs
  fields := fds
  methods := ms
  attributes := attrs
def plain (name : String) (sup : Option ClassId) : Class where
  name := name
  kind := .ordinary
  loader := none
  accessFlags := 33
  super := sup
  interfaces := #[]
  cf := none
  fields := #[]
  methods := #[]
  instanceTypes := #[]
  staticTypes := #[]
  resolved := #[]
  callSites := []
  init := .initialized
  statics := none
  mirror := none

def pool0 : Array CpInfo := pool [(5, u "<init>"), (0, u "()V"), (1, .class_ 10), (1, u "java/lang/Object")] 113

def k0m0 : Method := { name := "<init>", desc := "()V", sig := { parameters := [], returnType := none }, accessFlags := 1, code := none }
/-- java/lang/Object -/
def k0 : Class := { plain "java/lang/Object" none with
  accessFlags := 33
  interfaces := #[]
  cf := some (fileOf pool0 8 #[] #[{ accessFlags := 1, nameIndex := 5, descriptorIndex := 6, attributes := #[] }] 33 0 #[] #[])
  fields := #[]
  methods := #[k0m0]
  instanceTypes := #[]
  staticTypes := #[]
  resolved := Array.replicate 124 none
  statics := none }

def pool1 : Array CpInfo := pool [(2, .class_ 4), (1, u "java/lang/Object"), (0, u "<init>"), (0, u "()V"), (0, .integer 65535), (0, .methodref 9 10), (0, .class_ 11), (0, .nameAndType 12 13), (0, u "com/example/gaoler/gaoler/OwnerToken"), (0, u "isAllowedCharacter"), (0, u "(I)Z"), (0, .methodref 15 16), (0, .class_ 17), (0, .nameAndType 18 13), (0, u "com/example/gaoler/gaoler/OwnerTokenIsAllowedCharacterPinLaw"), (0, u "expected"), (0, .long 48), (1, .long 9), (3, u "law"), (0, u "(II)Z")] 3

def k1m0 : Method := { name := "<init>", desc := "()V", sig := { parameters := [], returnType := none }, accessFlags := 1, code := none }
def k1c1 : Code := { maxStack := 2, maxLocals := 4, code := code, exceptionTable := #[], attributes := #[] }
def k1m1 : Method := { name := "law", desc := "(II)Z", sig := { parameters := [.int, .int], returnType := some .boolean }, accessFlags := 9, code := some k1c1 }
def k1c2 : Code := { maxStack := 4, maxLocals := 7, code := method_3_code, exceptionTable := #[], attributes := #[] }
def k1m2 : Method := { name := "expected", desc := "(I)Z", sig := { parameters := [.int], returnType := some .boolean }, accessFlags := 10, code := some k1c2 }
/-- com/example/gaoler/gaoler/OwnerTokenIsAllowedCharacterPinLaw -/
def k1 : Class := { plain "com/example/gaoler/gaoler/OwnerTokenIsAllowedCharacterPinLaw" (some 0) with
  accessFlags := 49
  interfaces := #[]
  cf := some (fileOf pool1 15 #[] #[{ accessFlags := 1, nameIndex := 5, descriptorIndex := 6, attributes := #[] }, { accessFlags := 9, nameIndex := 25, descriptorIndex := 26, attributes := #[] }, { accessFlags := 10, nameIndex := 18, descriptorIndex := 13, attributes := #[] }] 49 2 #[] #[])
  fields := #[]
  methods := #[k1m0, k1m1, k1m2]
  instanceTypes := #[]
  staticTypes := #[]
  resolved := Array.replicate 30 none
  statics := none }

def pool2 : Array CpInfo := pool [(2, .class_ 4), (1, u "java/lang/Object"), (0, u "<init>"), (0, u "()V"), (0, .class_ 8), (0, u "java/lang/Record")] 13

def k2m0 : Method := { name := "<init>", desc := "()V", sig := { parameters := [], returnType := none }, accessFlags := 4, code := none }
/-- java/lang/Record -/
def k2 : Class := { plain "java/lang/Record" (some 0) with
  accessFlags := 1057
  interfaces := #[]
  cf := some (fileOf pool2 7 #[] #[{ accessFlags := 4, nameIndex := 5, descriptorIndex := 6, attributes := #[] }] 1057 2 #[] #[])
  fields := #[]
  methods := #[k2m0]
  instanceTypes := #[]
  staticTypes := #[]
  resolved := Array.replicate 22 none
  statics := none }

def pool3 : Array CpInfo := pool [(2, .class_ 4), (1, u "java/lang/Record"), (3, u "value"), (7, .class_ 18), (1, u "com/example/gaoler/gaoler/OwnerToken"), (0, u "CHARACTERS"), (0, u "Lcom/example/gaoler/gaoler/TextRule;"), (16, u "Ljava/lang/String;"), (36, u "isAllowedCharacter"), (0, u "(I)Z")] 40

def k3c0 : Code := { maxStack := 2, maxLocals := 1, code := prog_14_method_4_code, exceptionTable := #[], attributes := #[] }
def k3m0 : Method := { name := "isAllowedCharacter", desc := "(I)Z", sig := { parameters := [.int], returnType := some .boolean }, accessFlags := 8, code := some k3c0 }
/-- com/example/gaoler/gaoler/OwnerToken -/
def k3 : Class := { plain "com/example/gaoler/gaoler/OwnerToken" (some 2) with
  accessFlags := 49
  interfaces := #[]
  cf := some (fileOf pool3 16 #[] #[{ accessFlags := 8, nameIndex := 74, descriptorIndex := 75, attributes := #[] }] 49 2 #[] #[{ accessFlags := 18, nameIndex := 8, descriptorIndex := 37, attributes := #[] }, { accessFlags := 26, nameIndex := 19, descriptorIndex := 20, attributes := #[] }])
  fields := #[{ name := "value", type := (.object "java/lang/String"), accessFlags := 18, slot := 0, constantValue := 0 }, { name := "CHARACTERS", type := (.object "com/example/gaoler/gaoler/TextRule"), accessFlags := 26, slot := 0, constantValue := 0 }]
  methods := #[k3m0]
  instanceTypes := #[(.object "java/lang/String")]
  staticTypes := #[(.object "com/example/gaoler/gaoler/TextRule")]
  resolved := Array.replicate 116 none
  statics := none }

def pool4 : Array CpInfo := pool [(1, u "java/lang/Cloneable"), (0, .class_ 1), (0, u "java/lang/Object"), (0, .class_ 3)] 3

/-- java/lang/Cloneable -/
def k4 : Class := { plain "java/lang/Cloneable" (some 0) with
  accessFlags := 1537
  interfaces := #[]
  cf := some (fileOf pool4 2 #[] #[] 1537 4 #[] #[])
  fields := #[]
  methods := #[]
  instanceTypes := #[]
  staticTypes := #[]
  resolved := Array.replicate 8 none
  statics := none }

def pool5 : Array CpInfo := pool [(1, u "java/io/Serializable"), (0, .class_ 1), (0, u "java/lang/Object"), (0, .class_ 3)] 3

/-- java/io/Serializable -/
def k5 : Class := { plain "java/io/Serializable" (some 0) with
  accessFlags := 1537
  interfaces := #[]
  cf := some (fileOf pool5 2 #[] #[] 1537 4 #[] #[])
  fields := #[]
  methods := #[]
  instanceTypes := #[]
  staticTypes := #[]
  resolved := Array.replicate 8 none
  statics := none }

/-- the primitive byte -/
def k6 : Class := { plain "byte" none with kind := .primitive 'B', accessFlags := 0x411 }
/-- [B -/
def k7 : Class := { plain "[B" (some 0) with kind := .array 6 .byte, interfaces := #[4, 5], accessFlags := 1041 }

/-- the primitive int -/
def k8 : Class := { plain "int" none with kind := .primitive 'I', accessFlags := 0x411 }
/-- [I -/
def k9 : Class := { plain "[I" (some 0) with kind := .array 8 .int, interfaces := #[4, 5], accessFlags := 1041 }

def heap : Heap := #[]
def classes : Array Class := #[k0, k1, k2, k3, k4, k5, k6, k7, k8, k9]
def interned : List (Array UInt16 × Addr) := []
def slotsUsed : Nat := 0
def theMethod : MethodId := ⟨1, 1⟩
def args0 : Array Value := #[.int 65, .int 3]
def aboutOver (below : List Frame) : State where
  vm := { classes := classes, interned := interned.toArray }
  heap := heap
  slotsUsed := slotsUsed
  threads := #[{ frames := .invoking theMethod args0 :: below }]
def below0 : List Frame := [.native { method := ⟨0, 0⟩, args := #[] }]
def about1 : State := aboutOver below0
def p0 : Program := .bare "" "" ""
def e0 : Env := launch0.env 0 0 0
theorem w_frames : about1.frames = Frame.invoking theMethod args0 :: below0 := rfl
set_option maxRecDepth 65536 in
theorem w_args : argsFit about1.vm theMethod args0 = true := by decide +kernel
set_option maxRecDepth 65536 in
theorem w_heap : heapFits about1 = true := by decide +kernel
set_option maxRecDepth 65536 in
theorem w_runnable : about1.curStatus? = some .runnable := by decide +kernel
set_option maxRecDepth 65536 in
theorem w_alone : about1.alone = true := by decide +kernel
set_option maxRecDepth 65536 in
theorem w_named : about1.methodNamed? x = some theMethod := by decide +kernel
set_option maxRecDepth 65536 in
theorem w_hears : about1.hears theMethod below0 = true := by decide +kernel
set_option maxRecDepth 65536 in
theorem w_ripe : about1.ripe theMethod args0 below0 = true := by decide +kernel
theorem w_running : about1.status = .running := rfl
set_option maxRecDepth 65536 in
theorem w_room : about1.hasRoom e0.platform room_1 = true :=
  launch0.hasRoom_least _ room_1 (by decide +kernel) (by decide +kernel) (by decide +kernel) (by decide +kernel) (by decide +kernel) (by decide +kernel)
theorem allAtoms_all (ts : List Jvm.Cond) (a : Array Jvm.Value) (st : Jvm.State) : (allAtoms ts).before a st = ts.all (fun c => c.before a st) := by
  induction ts with
  | nil => rfl
  | cons c t ih =>
    show (Jvm.Cond.and c (allAtoms t)).before a st = _
    rw [Jvm.Cond.before_and, ih, List.all_cons]
def words1 : List Jvm.Cond := Jvm.Cond.code x code maxLocals ret :: tables_1
/-- a 'code' word, met by the world's own term for the bytes: nothing is compared byte by byte -/
theorem code_word {y : MethodName} {bytes : ByteArray} {mx : Nat} {rt : Option FieldType} {a : Array Value} {s : State} {m : MethodId} {meth : Method} {c : Code} (h1 : s.methodNamed? y = some m) (h2 : s.vm.method? m = some meth) (h3 : meth.code = some c) (h4 : c.code = bytes)
    (h5 : (c.maxLocals == mx && c.exceptionTable.isEmpty && decide (c.maxStack ≤ mostOperands) && decide (meth.sig.returnType = rt) && !meth.locks && decide (parseMethodDescriptor y.desc = some meth.sig)) = true) : (Jvm.Cond.code y bytes mx rt).before a s = true := by
  simp only [Bool.and_eq_true, beq_iff_eq, Bool.not_eq_true', decide_eq_true_eq] at h5
  obtain ⟨⟨⟨⟨⟨g1, g2⟩, g3⟩, g4⟩, g5⟩, g6⟩ := h5
  simp [Cond.before, Cond.holds, Cond.value, h1, h2, h3, h4, g1, g2, g3, g4, g5, g6]
def isCode : Jvm.Cond → Bool
  | .code _ _ _ _ => true
  | _ => false
theorem all_split {L : List Jvm.Cond} {P : Jvm.Cond → Bool} (h1 : L.all (fun c => isCode c || P c) = true) (h2 : ∀ c ∈ L.filter isCode, P c = true) : L.all P = true := by
  refine List.all_eq_true.mpr fun c hc => ?_
  have h := List.all_eq_true.mp h1 c hc
  rcases Bool.eq_false_or_eq_true (isCode c) with hi | hi
  · exact h2 c (List.mem_filter.mpr ⟨hc, hi⟩)
  · simpa [hi] using h
set_option maxRecDepth 65536 in
theorem w_c0 : (Jvm.Cond.code x code maxLocals ret).before args0 about1 = true := code_word (m := ⟨1, 1⟩) (meth := k1m1) (c := k1c1) (by decide +kernel) rfl rfl rfl (by decide +kernel)
set_option maxRecDepth 65536 in
theorem w_c1 : (Jvm.Cond.code ({ cls := "com/example/gaoler/gaoler/OwnerToken", name := "isAllowedCharacter", desc := "(I)Z" } : Jvm.MethodName) prog_14_method_4_code (1 : Nat) (Option.some Jvm.ClassFile.FieldType.boolean)).before args0 about1 = true := code_word (m := ⟨3, 0⟩) (meth := k3m0) (c := k3c0) (by decide +kernel) rfl rfl rfl (by decide +kernel)
set_option maxRecDepth 65536 in
theorem w_c2 : (Jvm.Cond.code ({ cls := "com/example/gaoler/gaoler/OwnerTokenIsAllowedCharacterPinLaw", name := "expected", desc := "(I)Z" } : Jvm.MethodName) method_3_code (7 : Nat) (Option.some Jvm.ClassFile.FieldType.boolean)).before args0 about1 = true := code_word (m := ⟨1, 2⟩) (meth := k1m2) (c := k1c2) (by decide +kernel) rfl rfl rfl (by decide +kernel)
def codes1 : List Jvm.Cond := [Jvm.Cond.code x code maxLocals ret, Jvm.Cond.code ({ cls := "com/example/gaoler/gaoler/OwnerToken", name := "isAllowedCharacter", desc := "(I)Z" } : Jvm.MethodName) prog_14_method_4_code (1 : Nat) (Option.some Jvm.ClassFile.FieldType.boolean), Jvm.Cond.code ({ cls := "com/example/gaoler/gaoler/OwnerTokenIsAllowedCharacterPinLaw", name := "expected", desc := "(I)Z" } : Jvm.MethodName) method_3_code (7 : Nat) (Option.some Jvm.ClassFile.FieldType.boolean)]
set_option maxRecDepth 65536 in
theorem codes_eq : words1.filter isCode = codes1 := rfl
theorem w_codes : ∀ c ∈ words1.filter isCode, c.before args0 about1 = true := by
  rw [codes_eq]
  intro c hc
  simp only [codes1, List.mem_cons, List.not_mem_nil, or_false] at hc
  rcases hc with rfl | rfl | rfl
  · exact w_c0
  · exact w_c1
  · exact w_c2
set_option maxRecDepth 65536 in
theorem w_t1 : words1.all (fun c => isCode c || c.before args0 about1) = true := by decide +kernel
theorem w_tables : (allAtoms (Jvm.Cond.code x code maxLocals ret :: tables_1)).before args0 about1 = true := by
  rw [allAtoms_all]
  show words1.all (fun c => c.before args0 about1) = true
  refine all_split ?_ w_codes
  rw [w_t1]
set_option maxRecDepth 65536 in
theorem w_case : (Jvm.Cond.and given_1 narrow_1).before args0 about1 = true := by decide +kernel
theorem w_applies : (headSpec (Jvm.Cond.code x code maxLocals ret :: tables_1) room_1).applies x e0.platform about1 = true :=
  (Spec.applies_iff w_frames).mpr ⟨w_running, w_runnable, w_alone, w_named, w_hears, w_ripe, w_room, w_tables⟩
theorem atStart : AtStart classFile x code maxLocals ret World_1 tables_1 room_1 Calls_1 rest_1 Pre_1 launch0 p0 e0 about1 theMethod args0 below0 :=
  ⟨lists_1, trivial, launch0.admits_env _ _ _, launch0.least_env, fairChoices_fair.cas, fairChoices_fair.clock, w_frames, w_args, w_heap, w_applies, trivial, trivial, w_case⟩
end start1
theorem witness_1 : WitnessClaimed_1 := ⟨start1.p0, start1.e0, start1.about1, start1.theMethod, start1.args0, start1.below0, start1.atStart⟩
end Jvm.Pilot.@@N@@
