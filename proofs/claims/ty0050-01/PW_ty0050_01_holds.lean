import PyProof.Rows.All
import Wide.All
import OpenK.AllK
import Wide.FinOn
import PyProof.ToksMono
import PyProof.Rows.TupAssign
import PyProof.FactsBase
import PyProof.TableTree
import PyProof.FactsTree
import PyProof.PlainAttrs
import PyProof.TypeOfCall
import PyProof.Rows.AttrNodeAny
import PyProof.Rows.CallKw2
import KE.KxPercentT
import KE.KCallOwn
import Lean
import PySem.Challenge.RW_ty0050_01
set_option Elab.async false
set_option linter.unusedVariables false
section
open PySem PySem.W PyProof.Rows PySem.Builtin PySem.Builtin.Str
namespace Mine
/-! quick forms of the strs' functions, on lists -/
noncomputable def eqLst : List Nat → List Nat → Bool
  | [], [] => true
  | a :: l, b :: r => if Nat.beq a b then eqLst l r else false
  | _, _ => false
theorem eqLst_iff : ∀ {l r : List Nat}, eqLst l r = true ↔ l = r
  | [], [] => by simp [eqLst]
  | [], _ :: _ => by simp [eqLst]
  | _ :: _, [] => by simp [eqLst]
  | a :: l, b :: r => by
    unfold eqLst
    cases h : Nat.beq a b
    · have : a ≠ b := fun e => by subst e; rw [Nat.beq_refl] at h; cases h
      simp [this]
    · have := Nat.eq_of_beq_eq_true h
      subst this
      simp [eqLst_iff (l := l) (r := r)]
theorem str_ext {a b : PySem.Str} (h : a.cps.toList = b.cps.toList) : a = b := by
  obtain ⟨⟨a⟩⟩ := a
  obtain ⟨⟨b⟩⟩ := b
  simp at h
  rw [h]
noncomputable def eqS (a b : PySem.Str) : Bool := eqLst a.cps.toList b.cps.toList
theorem eqS_eq {a b : PySem.Str} : eqS a b = (a == b) := by
  rw [Bool.eq_iff_iff, beq_iff_eq]
  unfold eqS
  rw [eqLst_iff]
  exact ⟨str_ext, fun e => by rw [e]⟩
noncomputable def catS (a b : PySem.Str) : PySem.Str := ⟨⟨a.cps.toList ++ b.cps.toList⟩⟩
theorem catS_eq {a b : PySem.Str} : catS a b = a ++ b := by
  apply str_ext
  show _ = (a.cps ++ b.cps).toList
  rw [Array.toList_append]
  rfl
theorem foldl_toList (x : Array Nat) : ∀ (n : Nat) (acc : Array Nat), ((List.replicate n x).foldl (· ++ ·) acc).toList = acc.toList ++ (List.replicate n x.toList).flatten
  | 0, acc => by simp
  | n + 1, acc => by
    rw [List.replicate_succ, List.foldl_cons, foldl_toList x n, List.replicate_succ, List.flatten_cons, Array.toList_append, List.append_assoc]
noncomputable def mulS (x : PySem.Str) (n : Int) : PySem.Str := if n < 1 then PySem.Str.empty else ⟨⟨(List.replicate n.toNat x.cps.toList).flatten⟩⟩
theorem mulS_eq {x : PySem.Str} {n : Int} : mulS x n = Txt.mul x n := by
  unfold mulS Txt.mul
  split
  · rfl
  · rename_i h
    split
    · rename_i hc
      apply str_ext
      rw [Bool.or_eq_true, beq_iff_eq, beq_iff_eq] at hc
      rcases hc with rfl | hc
      · simp
      · have : x.cps.toList = [] := by
          obtain ⟨⟨l⟩⟩ := x
          cases l with
          | nil => rfl
          | cons a r => simp [PySem.Str.length] at hc
        rw [this]
        simp
    · apply str_ext
      rw [foldl_toList]
      simp

noncomputable def preL : List Nat → List Nat → Bool
  | [], _ => true
  | a :: r, b :: t => if Nat.beq a b then preL r t else false
  | _ :: _, [] => false
theorem preL_iff : ∀ {y l : List Nat}, preL y l = true ↔ l.take y.length = y
  | [], l => by simp [preL]
  | _ :: _, [] => by simp [preL]
  | a :: r, b :: t => by
    unfold preL
    cases h : Nat.beq a b
    · have : a ≠ b := fun e => by subst e; rw [Nat.beq_refl] at h; cases h
      simp [Ne.symm this]
    · have := Nat.eq_of_beq_eq_true h
      subst this
      simp [preL_iff (y := r) (l := t)]
theorem subAt_eq (x y : PySem.Str) (i : Nat) : subAt x y i = preL y.cps.toList (x.cps.toList.drop i) := by
  rw [Bool.eq_iff_iff, preL_iff]
  unfold subAt
  rw [beq_iff_eq]
  constructor
  · intro h
    have := congrArg Array.toList h
    rw [Array.toList_extract] at this
    simpa [List.extract_eq_take_drop, PySem.Str.length] using this
  · intro h
    apply Array.ext'
    rw [Array.toList_extract]
    simpa [List.extract_eq_take_drop, PySem.Str.length] using h
noncomputable def occL (y : List Nat) (m hi limit : Nat) : List Nat → Nat → Nat → Nat → List Nat
  | [], _, _, _ => []
  | c :: l, i, k, free => if preL y (c :: l) && (Nat.blt k limit && (Nat.ble free i && Nat.ble (i + m) hi)) then i :: occL y m hi limit l (i + 1) (k + 1) (i + m) else
      if Nat.beq k limit then [] else occL y m hi limit l (i + 1) k free
theorem occL_full {y : List Nat} {m hi limit : Nat} : ∀ {l : List Nat} {i free : Nat}, occL y m hi limit l i limit free = []
  | [], _, _ => rfl
  | c :: l, i, free => by
    unfold occL
    have : Nat.blt limit limit = false := by
      cases h : Nat.blt limit limit with
      | false => rfl
      | true => exact absurd (Nat.blt_eq.mp h) (Nat.lt_irrefl _)
    rw [this]
    simp
theorem occ_list (x y : PySem.Str) (hy : y.cps.toList ≠ []) (hi limit : Nat) : ∀ (n i : Nat) (acc : Array Nat) (free : Nat), hi + 1 = i + n ∨ (n = 0 ∧ hi + 1 ≤ i) → acc.size ≤ limit →
    (forIn (List.range' i n) (acc, free) (StrLaws.occBody x y hi limit)).run.fst.toList = acc.toList ++ occL y.cps.toList y.length hi limit (x.cps.toList.drop i) i acc.size free
  | 0, i, acc, free, h, hk => by
    have h' : hi + 1 ≤ i := by omega
    have hm : 0 < y.length := by
      obtain ⟨⟨l⟩⟩ := y
      cases l with
      | nil => exact absurd rfl hy
      | cons a r => simp [PySem.Str.length]
    have none : ∀ (l : List Nat) (i k free : Nat), hi + 1 ≤ i → occL y.cps.toList y.length hi limit l i k free = [] := by
      intro l
      induction l with
      | nil => intro i k free _; rfl
      | cons c l ih =>
        intro i k free hh
        unfold occL
        have : Nat.ble (i + y.length) hi = false := by
          cases q : Nat.ble (i + y.length) hi with
          | false => rfl
          | true => have := Nat.le_of_ble_eq_true q; omega
        rw [this]
        simp only [Bool.and_false, Bool.false_eq_true, if_false]
        split
        · rfl
        · exact ih (i + 1) k free (by omega)
    rw [none _ _ _ _ h']
    simp
  | n + 1, i, acc, free, h, hk => by
    have hm : 0 < y.length := by
      obtain ⟨⟨l⟩⟩ := y
      cases l with
      | nil => exact absurd rfl hy
      | cons a r => simp [PySem.Str.length]
    rw [List.range'_succ, List.forIn_cons]
    have htail : x.cps.toList.drop (i + 1) = (x.cps.toList.drop i).tail := by simp
    unfold StrLaws.occBody
    by_cases hc : ((acc.size < limit ∧ free ≤ i) ∧ i + y.length ≤ hi) ∧ subAt x y i = true
    · rw [if_pos hc]
      show (forIn (List.range' (i + 1) n) (acc.push i, i + y.length) (StrLaws.occBody x y hi limit)).run.fst.toList = _
      rw [occ_list x y hy hi limit n (i + 1) (acc.push i) (i + y.length) (by omega) (by rw [Array.size_push]; omega)]
      rw [subAt_eq] at hc
      obtain ⟨⟨⟨c1, c2⟩, c3⟩, c4⟩ := hc
      cases hl : x.cps.toList.drop i with
      | nil =>
        rw [hl] at c4
        exfalso
        obtain ⟨⟨l⟩⟩ := y
        cases l with
        | nil => exact hy rfl
        | cons a r => simp [preL] at c4
      | cons c l =>
        rw [hl] at c4
        rw [htail, hl]
        conv => rhs; unfold occL
        rw [c4, Nat.blt_eq.mpr c1, Nat.ble_eq_true_of_le c2, Nat.ble_eq_true_of_le c3]
        simp
    · rw [if_neg hc]
      show (forIn (List.range' (i + 1) n) (acc, free) (StrLaws.occBody x y hi limit)).run.fst.toList = _
      rw [occ_list x y hy hi limit n (i + 1) acc free (by omega) hk]
      rw [subAt_eq] at hc
      cases hl : x.cps.toList.drop i with
      | nil => rw [htail, hl]; rfl
      | cons c l =>
        rw [hl] at hc
        rw [htail, hl]
        conv => rhs; unfold occL
        have : (preL y.cps.toList (c :: l) && (Nat.blt acc.size limit && (Nat.ble free i && Nat.ble (i + y.length) hi))) = false := by
          rw [Bool.eq_false_iff]
          intro q
          simp only [Bool.and_eq_true] at q
          exact hc ⟨⟨⟨Nat.blt_eq.mp q.2.1, Nat.le_of_ble_eq_true q.2.2.1⟩, Nat.le_of_ble_eq_true q.2.2.2⟩, q.1⟩
        rw [this]
        simp only [Bool.false_eq_true, if_false]
        split
        · rename_i hk'
          have := Nat.eq_of_beq_eq_true hk'
          rw [this]
          show acc.toList ++ occL _ _ _ _ l _ limit _ = _
          rw [occL_full]
        · rfl
/-- the same, quick -/
noncomputable def preQ (y : List Nat) : List Nat → Bool := List.rec (motive := fun _ => List Nat → Bool) (fun _ => true) (fun a _ ih l => match l with
  | [] => false
  | b :: t => match Nat.beq a b with
    | true => ih t
    | false => false) y
theorem preQ_eq : ∀ (y l : List Nat), preQ y l = preL y l
  | [], _ => rfl
  | _ :: _, [] => rfl
  | a :: r, b :: t => by
    show (match Nat.beq a b with | true => preQ r t | false => false) = _
    unfold preL
    cases h : Nat.beq a b
    · rfl
    · exact preQ_eq r t
noncomputable def occQ (y : List Nat) (m hi limit : Nat) (l : List Nat) : Nat → Nat → Nat → List Nat := List.rec (motive := fun _ => Nat → Nat → Nat → List Nat) (fun _ _ _ => []) (fun c l ih i k free => match preQ y (c :: l) && (Nat.blt k limit && (Nat.ble free i && Nat.ble (i + m) hi)) with
  | true => i :: ih (i + 1) (k + 1) (i + m)
  | false => match Nat.beq k limit with
    | true => []
    | false => ih (i + 1) k free) l
theorem occQ_eq {y : List Nat} {m hi limit : Nat} : ∀ (l : List Nat) (i k free : Nat), occQ y m hi limit l i k free = occL y m hi limit l i k free
  | [], _, _, _ => rfl
  | c :: l, i, k, free => by
    show (match preQ y (c :: l) && (Nat.blt k limit && (Nat.ble free i && Nat.ble (i + m) hi)) with
      | true => i :: occQ y m hi limit l (i + 1) (k + 1) (i + m)
      | false => match Nat.beq k limit with
        | true => []
        | false => occQ y m hi limit l (i + 1) k free) = _
    unfold occL
    rw [preQ_eq]
    cases preL y (c :: l) && (Nat.blt k limit && (Nat.ble free i && Nat.ble (i + m) hi)) with
    | true => rw [if_pos rfl]; exact congrArg _ (occQ_eq l _ _ _)
    | false =>
      rw [if_neg (by decide)]
      cases Nat.beq k limit with
      | true => rfl
      | false => rw [if_neg (by decide)]; exact occQ_eq l _ _ _
noncomputable def occS (x y : PySem.Str) (lo hi limit : Nat) : List Nat := match y.cps.toList with
  | [] => occurrences x y lo hi limit
  | _ :: _ => occQ y.cps.toList y.length hi limit (x.cps.toList.drop lo) lo 0 lo
theorem occS_eq {x y : PySem.Str} {lo hi limit : Nat} : occS x y lo hi limit = occurrences x y lo hi limit := by
  unfold occS
  split
  · rfl
  · rename_i a r h
    have hy : y.cps.toList ≠ [] := by rw [h]; simp
    rw [StrLaws.occ_eq, occ_list x y hy hi limit (hi + 1 - lo) lo #[] lo (by omega) (Nat.zero_le _), occQ_eq]
    rfl
noncomputable def kindL (l : List Nat) : Nat := if l.all (Nat.blt · 256) then 1 else if l.all (Nat.blt · 65536) then 2 else 4
theorem kindL_eq {x : PySem.Str} : kindL x.cps.toList = PySem.Builtin.Str.strKind x := by
  unfold kindL PySem.Builtin.Str.strKind
  have e : ∀ n, x.cps.toList.all (Nat.blt · n) = x.cps.all (· < n) := fun n => by
    rw [← Array.all_toList]
    congr 1
    funext a
    rw [Bool.eq_iff_iff, decide_eq_true_eq, Nat.blt_eq]
  rw [e, e]
noncomputable def subS (x : PySem.Str) (i j : Nat) : PySem.Str := ⟨⟨(x.cps.toList.drop i).take (j - i)⟩⟩
theorem subS_eq {x : PySem.Str} {i j : Nat} : subS x i j = strSub x i j := by
  apply str_ext
  unfold strSub
  rw [Array.toList_extract]
  simp [subS, List.extract_eq_take_drop]
noncomputable def partsS (s : PySem.Str) (cuts : List Nat) (width : Nat) : List PySem.Str := ((0 :: cuts.map (· + width)).zip (cuts ++ [s.length])).map fun p => subS s p.1 p.2
theorem partsS_eq {s : PySem.Str} {cuts : List Nat} {width : Nat} : partsS s cuts width = partsBetween s cuts width := by
  unfold partsS partsBetween
  simp only [subS_eq]
noncomputable def splitS (x y : PySem.Str) : List PySem.Str := if Nat.blt x.length y.length || Nat.blt (kindL x.cps.toList) (kindL y.cps.toList) then [x] else
  match occS x y 0 x.length (x.length + 1) with
  | [] => [x]
  | c :: cs => partsS x (c :: cs) y.length
theorem splitS_eq {x y : PySem.Str} : splitS x y = Txt.split x y := by
  unfold splitS Txt.split
  have e : ∀ a b : Nat, Nat.blt a b = decide (a < b) := fun a b => by
    rw [Bool.eq_iff_iff, decide_eq_true_eq, Nat.blt_eq]
  rw [e, e, kindL_eq, kindL_eq, occS_eq]
  split
  · rfl
  · cases occurrences x y 0 x.length (x.length + 1) with
    | nil => rfl
    | cons c cs => simp [partsS_eq]
noncomputable def joinR (g : List Nat) : List PySem.Str → List Nat
  | [] => []
  | p :: r => g ++ (p.cps.toList ++ joinR g r)
noncomputable def joinS (sep : PySem.Str) : List PySem.Str → PySem.Str
  | [] => PySem.Str.empty
  | p :: r => ⟨⟨p.cps.toList ++ joinR sep.cps.toList r⟩⟩
theorem joinR_fold (g : PySem.Str) : ∀ (r : List PySem.Str) (a : Array Nat), (r.foldl (fun acc p => acc ++ g.cps ++ p.cps) a).toList = a.toList ++ joinR g.cps.toList r
  | [], a => by simp [joinR]
  | p :: r, a => by
    rw [List.foldl_cons, joinR_fold g r]
    simp [joinR]
theorem joinS_eq {sep : PySem.Str} {l : List PySem.Str} : joinS sep l = Txt.join sep l := by
  apply str_ext
  unfold Txt.join glued
  cases l with
  | nil => rfl
  | cons p r =>
    show p.cps.toList ++ joinR sep.cps.toList r = (((p :: r).drop 1).foldl (fun (acc : Array Nat) (p : PySem.Str) => acc ++ sep.cps ++ p.cps) p.cps).toList
    rw [List.drop_one, List.tail_cons, joinR_fold]
noncomputable def totS (n : Nat) : List PySem.Str → Nat
  | [] => 0
  | p :: r => p.length + n + totS n r
noncomputable def joinOkS (sep : PySem.Str) (l : List PySem.Str) : Bool := Nat.ble (totS sep.length l) 100000
theorem joinOkS_ok {sep : PySem.Str} {l : List PySem.Str} (h : joinOkS sep l = true) : JoinOk sep l = true := by
  have h' := Nat.le_of_ble_eq_true h
  have e : ∀ (l : List PySem.Str) (a : Nat), l.foldl (fun n p => n + p.length + sep.length) a = a + totS sep.length l := by
    intro l
    induction l with
    | nil => intro a; rfl
    | cons p r ih => intro a; rw [List.foldl_cons, ih]; simp only [totS]; omega
  unfold JoinOk
  rw [Bool.not_eq_true', List.foldl_toArray, e]
  unfold tooLong
  rw [sizeLine_eq]
  simp only [decide_eq_false_iff_not]
  omega
noncomputable def replS (x y z : PySem.Str) : PySem.Str := match y.cps.toList, z.cps.toList with
  | [c], [] => ⟨⟨x.cps.toList.filter fun a => !Nat.beq a c⟩⟩
  | _, _ => Txt.replace x y z
theorem replS_eq {x y z : PySem.Str} : replS x y z = Txt.replace x y z := by
  unfold replS
  split
  · rename_i c hy hz
    have ey : y = ⟨#[c]⟩ := str_ext hy
    have ez : z = ⟨#[]⟩ := str_ext hz
    subst ey; subst ez
    apply str_ext
    rw [replace_strikes]
    show List.filter _ _ = _
    congr 1
    funext a
    rw [bne]
    congr 1
    rw [Bool.eq_iff_iff, beq_iff_eq]
    exact ⟨Nat.eq_of_beq_eq_true, fun e => by rw [e]; exact Nat.beq_refl _⟩
  · rfl
theorem lower1 : ∀ c, c < 128 → (Txt.lower ⟨#[c]⟩).cps.toList = [if 65 ≤ c ∧ c ≤ 90 then c + 32 else c] := by decide +kernel
noncomputable def lowerS (x : PySem.Str) : PySem.Str := match x.cps.toList with
  | [c] => if Nat.blt c 128 then ⟨⟨[if 65 ≤ c ∧ c ≤ 90 then c + 32 else c]⟩⟩ else Txt.lower x
  | _ => Txt.lower x
theorem lowerS_eq {x : PySem.Str} : lowerS x = Txt.lower x := by
  unfold lowerS
  split
  · rename_i c h
    have ex : x = ⟨#[c]⟩ := str_ext h
    subst ex
    split
    · rename_i hc
      apply str_ext
      rw [lower1 c (Nat.blt_eq.mp hc)]
    · rfl
  · rfl
end Mine
end

section
open PySem PySem.W PyProof.Rows PySem.Builtin PySem.Builtin.Str
namespace Mine
/-! quick forms of lists and numbers -/
noncomputable def getF {α : Type} (l : List α) : Nat → Option α := List.rec (motive := fun _ => Nat → Option α) (fun _ => none) (fun a _ ih n => Nat.rec (motive := fun _ => Option α) (some a) (fun m _ => ih m) n) l
noncomputable def setF {α : Type} (l : List α) : Nat → α → List α := List.rec (motive := fun _ => Nat → α → List α) (fun _ _ => []) (fun a l ih n x => Nat.rec (motive := fun _ => List α) (x :: l) (fun m _ => a :: ih m x) n) l
theorem getF_eq {α : Type} : ∀ (l : List α) (n : Nat), getF l n = l[n]?
  | [], _ => rfl
  | _ :: _, 0 => rfl
  | _ :: l, n + 1 => getF_eq l n
theorem setF_eq {α : Type} : ∀ (l : List α) (n : Nat) (x : α), setF l n x = l.set n x
  | [], _, _ => rfl
  | _ :: _, 0, _ => rfl
  | a :: l, n + 1, x => congrArg (a :: ·) (setF_eq l n x)
/-- a number is reckoned out before the rest goes on -/
noncomputable def forceN {α : Type} (k : Nat) (f : Nat → α) : α := Nat.rec (motive := fun _ => α) (f 0) (fun m _ => f (Nat.succ m)) k
theorem forceN_eq {α : Type} {k : Nat} {f : Nat → α} : forceN k f = f k := by cases k <;> rfl
noncomputable def forceI {α : Type} (n : Int) (f : Int → α) : α := match n with
  | .ofNat k => forceN k fun k => f (.ofNat k)
  | .negSucc k => forceN k fun k => f (.negSucc k)
theorem forceI_eq {α : Type} {n : Int} {f : Int → α} : forceI n f = f n := by
  cases n with
  | ofNat k => exact forceN_eq (f := fun k => f (.ofNat k))
  | negSucc k => exact forceN_eq (f := fun k => f (.negSucc k))
noncomputable def forceL {α : Type} (l : List Nat) : (List Nat → α) → α := List.rec (motive := fun _ => (List Nat → α) → α) (fun f => f []) (fun a _ ih f => forceN a fun a => ih fun l => f (a :: l)) l
theorem forceL_eq {α : Type} : ∀ {l : List Nat} {f : List Nat → α}, forceL l f = f l
  | [], _ => rfl
  | a :: l, f => by
    show forceN a (fun a => forceL l fun l => f (a :: l)) = _
    rw [forceN_eq, forceL_eq]
noncomputable def forceS {α : Type} (x : Str) (f : Str → α) : α := forceL x.cps.toList fun l => f ⟨⟨l⟩⟩
theorem forceS_eq {α : Type} {x : Str} {f : Str → α} : forceS x f = f x := forceL_eq (f := fun l => f ⟨⟨l⟩⟩)
noncomputable def forceSs {α : Type} (l : List Str) : (List Str → α) → α := List.rec (motive := fun _ => (List Str → α) → α) (fun f => f []) (fun a _ ih f => forceS a fun a => ih fun l => f (a :: l)) l
theorem forceSs_eq {α : Type} : ∀ {l : List Str} {f : List Str → α}, forceSs l f = f l
  | [], _ => rfl
  | a :: l, f => by
    show forceS a (fun a => forceSs l fun l => f (a :: l)) = _
    rw [forceS_eq, forceSs_eq]
noncomputable def lenR {α : Type} (l : List α) : Nat := List.rec (motive := fun _ => Nat) 0 (fun _ _ ih => Nat.succ ih) l
theorem lenR_eq {α : Type} : ∀ (l : List α), lenR l = l.length
  | [] => rfl
  | _ :: l => congrArg Nat.succ (lenR_eq l)
noncomputable def appR {α : Type} (l r : List α) : List α := List.rec (motive := fun _ => List α) r (fun a _ ih => a :: ih) l
theorem appR_eq {α : Type} : ∀ (l r : List α), appR l r = l ++ r
  | [], _ => rfl
  | a :: l, r => congrArg (a :: ·) (appR_eq l r)
noncomputable def dropR {α : Type} (n : Nat) : List α → List α := Nat.rec (motive := fun _ => List α → List α) (fun l => l) (fun _ ih l => List.rec (motive := fun _ => List α) [] (fun _ r _ => ih r) l) n
theorem dropR_eq {α : Type} : ∀ (n : Nat) (l : List α), dropR n l = l.drop n
  | 0, _ => rfl
  | _ + 1, [] => rfl
  | n + 1, _ :: l => dropR_eq n l
noncomputable def preR (y : List Nat) : List Nat → Bool := List.rec (motive := fun _ => List Nat → Bool) (fun _ => true) (fun a _ ih l => List.rec (motive := fun _ => Bool) false (fun b t _ => match Nat.beq a b with
    | true => ih t
    | false => false) l) y
theorem preR_eq : ∀ (y l : List Nat), preR y l = preL y l
  | [], _ => rfl
  | _ :: _, [] => rfl
  | a :: r, b :: t => by
    show (match Nat.beq a b with | true => preR r t | false => false) = _
    unfold preL
    cases h : Nat.beq a b
    · rfl
    · exact preR_eq r t
noncomputable def firstR (y : List Nat) (m hi : Nat) (l : List Nat) : Nat → Option Nat := List.rec (motive := fun _ => Nat → Option Nat) (fun _ => none) (fun c t ih i => match Nat.ble (i + m) hi with
    | true => match preR y (c :: t) with
      | true => some i
      | false => ih (Nat.succ i)
    | false => none) l
theorem firstR_eq {y : List Nat} {m hi : Nat} : ∀ (l : List Nat) (i free : Nat), free ≤ i → (firstR y m hi l i).toList = occL y m hi 1 l i 0 free
  | [], _, _, _ => rfl
  | c :: t, i, free, hf => by
    show (match Nat.ble (i + m) hi with
      | true => match preR y (c :: t) with
        | true => some i
        | false => firstR y m hi t (Nat.succ i)
      | false => none).toList = _
    unfold occL
    rw [preR_eq, Nat.ble_eq_true_of_le hf]
    have none : ∀ (l : List Nat) (i free : Nat), hi < i + m → occL y m hi 1 l i 0 free = [] := by
      intro l
      induction l with
      | nil => intro i free _; rfl
      | cons c l ih =>
        intro i free hh
        unfold occL
        have : Nat.ble (i + m) hi = false := by
          cases q : Nat.ble (i + m) hi with
          | false => rfl
          | true => have := Nat.le_of_ble_eq_true q; omega
        rw [this]
        simp only [Bool.and_false, Bool.false_eq_true, if_false]
        rw [if_neg (by decide)]
        exact ih (i + 1) free (by omega)
    cases h1 : Nat.ble (i + m) hi
    · simp only [Bool.and_false, Bool.false_eq_true, if_false]
      rw [if_neg (by decide), none _ _ _ (by
        have : ¬ i + m ≤ hi := fun q => by rw [Nat.ble_eq_true_of_le q] at h1; cases h1
        omega)]
      rfl
    · cases h2 : preL y (c :: t)
      · simp only [Bool.false_and, Bool.false_eq_true, if_false]
        rw [if_neg (by decide)]
        exact firstR_eq t (i + 1) free (by omega)
      · have : Nat.blt 0 1 = true := rfl
        simp only [this, Bool.and_self, if_true]
        rw [show (0 + 1) = 1 from rfl, occL_full]
        rfl
end Mine
end

section
open PySem PySem.W PyProof.Rows
set_option genSizeOfSpec false
namespace Mine
/-- what the plain functions speak of -/
inductive AV where
  | none
  | bool (b : Bool)
  | int (n : Int)
  | flt (x : UInt64)
  | str (s : Str)
  | tup (l : List AV)
  | lst (i : Nat)
  | hdr (i : Nat)
  | fix (a : Nat)
  | sym (k c : Nat)
inductive VI : AV → Value → Prop
  | none : VI .none .none
  | bool (b : Bool) : VI (.bool b) (.bool b)
  | int (n : Int) (t : Tok) : VI (.int n) (.int n t)
  | flt (x : UInt64) (t : Tok) : VI (.flt x) (.float x t)
  | str (s : Str) (t : Tok) : VI (.str s) (.str s t)
/-- addresses of the ledger's lists, of the instances -/
structure Wld where
  ρ : List Addr
  η : List Addr
/-- the ledger: the newest list first; each instance's list -/
structure VH where
  n : Nat
  rs : List (List AV)
  os : List Nat
noncomputable abbrev Sig := Nat → Nat → AV
/-- the program, the world, the class of headers, the heap before the call, the letters -/
structure Wd where
  prog : Program
  w : World
  C : Addr
  h0 : Heap
  σ : Sig
noncomputable abbrev Wd.M (X : Wd) : Model := model X.prog X.w
noncomputable def VH.get (V : VH) (i : Nat) : Option (List AV) := match Nat.blt i V.n with
  | true => getF V.rs (V.n - (i + 1))
  | false => none
noncomputable def VH.add (V : VH) (xs : List AV) : VH := ⟨V.n + 1, xs :: V.rs, V.os⟩
noncomputable def VH.put (V : VH) (i : Nat) (xs : List AV) : VH := ⟨V.n, setF V.rs (V.n - (i + 1)) xs, V.os⟩
noncomputable def VH.inst (V : VH) (k : Nat) : VH := ⟨V.n, V.rs, V.os ++ [k]⟩
noncomputable def VH.ok (V : VH) : Prop := V.rs.length = V.n
theorem VH.get_lt {V : VH} {i xs} (e : V.get i = some xs) : i < V.n := by
  unfold VH.get at e
  cases h : Nat.blt i V.n with
  | true => exact Nat.blt_eq.mp h
  | false => rw [h] at e; cases e
theorem VH.get_of {V : VH} {i : Nat} (h : i < V.n) : V.get i = V.rs[V.n - (i + 1)]? := by
  unfold VH.get
  rw [Nat.blt_eq.mpr h]
  exact getF_eq _ _
theorem VH.get_ex {V : VH} {i : Nat} (o : V.ok) (h : i < V.n) : ∃ xs, V.get i = some xs := by
  rw [VH.get_of h]
  exact ⟨_, List.getElem?_eq_getElem (by unfold VH.ok at o; omega)⟩
theorem VH.add_ok {V : VH} {xs} (o : V.ok) : (V.add xs).ok := congrArg Nat.succ o
theorem VH.put_ok {V : VH} {i xs} (o : V.ok) : (V.put i xs).ok := by
  show (setF V.rs _ xs).length = _
  rw [setF_eq, List.length_set]; exact o
theorem VH.get_add {V : VH} {i : Nat} {xs : List AV} : (V.add xs).get i = if i = V.n then some xs else V.get i := by
  by_cases h : i < V.n
  · rw [if_neg (by omega), VH.get_of h, VH.get_of (show i < (V.add xs).n from Nat.lt_succ_of_lt h)]
    show (xs :: V.rs)[V.n + 1 - (i + 1)]? = _
    rw [show V.n + 1 - (i + 1) = V.n - (i + 1) + 1 by omega, List.getElem?_cons_succ]
  · by_cases q : i = V.n
    · subst q
      rw [if_pos rfl, VH.get_of (show V.n < (V.add xs).n from Nat.lt_succ_self _)]
      show (xs :: V.rs)[V.n + 1 - (V.n + 1)]? = _
      rw [Nat.sub_self]; rfl
    · have e : ∀ {U : VH}, ¬ i < U.n → U.get i = none := fun {U} hu => by
        cases z : U.get i with
        | none => rfl
        | some ys => exact absurd (VH.get_lt z) hu
      rw [if_neg q, e h, e (show ¬ i < V.n + 1 by omega)]
theorem VH.get_put {V : VH} {i j : Nat} {xs : List AV} (o : V.ok) (hi : i < V.n) : (V.put i xs).get j = if i = j then some xs else V.get j := by
  unfold VH.ok at o
  by_cases h : j < V.n
  · rw [VH.get_of h, VH.get_of (show j < (V.put i xs).n from h)]
    show (setF V.rs (V.n - (i + 1)) xs)[V.n - (j + 1)]? = _
    rw [setF_eq, List.getElem?_set]
    by_cases q : i = j
    · subst q; rw [if_pos rfl, if_pos rfl, if_pos (by omega)]
    · rw [if_neg q, if_neg (by omega)]
  · have e : ∀ {U : VH}, ¬ j < U.n → U.get j = none := fun {U} hu => by
      cases z : U.get j with
      | none => rfl
      | some ys => exact absurd (VH.get_lt z) hu
    rw [if_neg (by omega), e h, e (show ¬ j < (V.put i xs).n from h)]

mutual
inductive VR (σ : Sig) (h : Heap) (W : Wld) : AV → Value → Prop
  | imm {a v} : VI a v → VR σ h W a v
  | sym {k c v} : VI (σ k c) v → VR σ h W (.sym k c) v
  | lst {i a} : W.ρ[i]? = some a → VR σ h W (.lst i) (.ref a)
  | hdr {i a} : W.η[i]? = some a → VR σ h W (.hdr i) (.ref a)
  | fix {a} : VR σ h W (.fix a) (.ref a)
  | tup {l a vs} : h.IsTuple a vs → VRs σ h W l vs.toList → VR σ h W (.tup l) (.ref a)
inductive VRs (σ : Sig) (h : Heap) (W : Wld) : List AV → List Value → Prop
  | nil : VRs σ h W [] []
  | cons {a v l r} : VR σ h W a v → VRs σ h W l r → VRs σ h W (a :: l) (v :: r)
end

/-- the heap goes on: what stood stands, but for the lists and the places Y -/
structure Step (Y : Addr → Prop) (h : Heap) (W : Wld) (h' : Heap) (W' : Wld) : Prop where
  ext : ∀ a o, h.get? a = some o → a ∉ W.ρ → ¬ Y a → h'.get? a = some o
  live : ∀ a, h.get? a ≠ none → h'.get? a ≠ none
  ρ : ∃ r, W'.ρ = W.ρ ++ r ∧ ∀ a ∈ r, h.get? a = none
  η : ∃ r, W'.η = W.η ++ r
noncomputable abbrev Nox : Addr → Prop := fun _ => False
/-- the bearing of an instance of Headers: address x, its list at a -/
noncomputable def InstHdr (C : Addr) (h : Heap) (x a : Addr) : Prop := ∃ d, h.get? x = some (instObj C d) ∧ ∃ hs k t n, h.get? d = some (dictOf [⟨hs, .str k t, .ref a⟩] n) ∧ k = Str.ofString "_headers"
/-- a list, written out -/
noncomputable def LsAt (h : Heap) (a : Addr) (vs : Array Value) : Prop := ∃ n, h.get? a = some { cls := .type "list", dict := none, data := .seq vs n, slots := #[] }
theorem LsAt.isList {h : Heap} {a vs} (x : LsAt h a vs) : h.IsList a vs := let ⟨n, e⟩ := x; ⟨_, e, rfl, n, rfl⟩
noncomputable abbrev Keeps (h h' : Heap) : Prop := ∀ a o, h.get? a = some o → h'.get? a = some o
structure HRel (X : Wd) (h : Heap) (W : Wld) (V : VH) : Prop where
  ok : V.ok
  len : W.ρ.length = V.n
  nodup : W.ρ.Nodup
  ls : ∀ (i : Nat) (xs : List AV), V.get i = some xs → ∃ a vs, W.ρ[i]? = some a ∧ LsAt h a vs ∧ VRs X.σ h W xs vs.toList
  fresh : ∀ a ∈ W.ρ, X.h0.get? a = none
  base : Keeps X.h0 h
  os : ∀ (i k : Nat), V.os[i]? = some k → ∃ x a, W.η[i]? = some x ∧ W.ρ[k]? = some a ∧ InstHdr X.C h x a
  leno : W.η.length = V.os.length
section
variable {X : Wd} {h h' : Heap} {W W' : Wld} {V : VH} {Y : Addr → Prop}
theorem HRel.isList (H : HRel X h W V) {a : Addr} (ha : a ∈ W.ρ) : ∃ vs n, h.get? a = some { cls := .type "list", dict := none, data := .seq vs n, slots := #[] } := by
  obtain ⟨i, hi, rfl⟩ := List.mem_iff_getElem.mp ha
  obtain ⟨xs, hx⟩ := VH.get_ex H.ok (H.len ▸ hi)
  obtain ⟨a, vs, h1, h2, _⟩ := H.ls i xs hx
  rw [List.getElem?_eq_getElem hi] at h1
  cases h1
  exact ⟨vs, h2⟩
/-- a place that is known not to be a list -/
theorem HRel.out (H : HRel X h W V) {a : Addr} {o : Obj} (e : h.get? a = some o) (hd : ∀ vs n, o ≠ { cls := .type "list", dict := none, data := .seq vs n, slots := #[] }) : a ∉ W.ρ := fun ha => by
  obtain ⟨vs, n, e'⟩ := H.isList ha
  rw [e] at e'
  exact hd vs n (Option.some.inj e')
theorem tup_keep {a vs} (x : h.IsTuple a vs) (e : ∀ o, h.get? a = some o → h'.get? a = some o) : h'.IsTuple a vs := let ⟨o, ho, r⟩ := x; ⟨o, e o ho, r⟩
theorem ns_keep {L m} (n : h.Ns L m) (e : ∀ o, h.get? L = some o → h'.get? L = some o) : h'.Ns L m := let ⟨o, es, ep, ho, r⟩ := n; ⟨o, es, ep, e o ho, r⟩
theorem cell_keep {c v} (n : h.IsCell c v) (e : ∀ o, h.get? c = some o → h'.get? c = some o) : h'.IsCell c v := let ⟨o, ho, r⟩ := n; ⟨o, e o ho, r⟩
theorem HRel.tup_out (H : HRel X h W V) {a vs} (x : h.IsTuple a vs) : a ∉ W.ρ := by
  obtain ⟨o, ho, hc, _⟩ := x
  exact H.out ho fun us n e => by subst e; exact absurd hc fun q : Value.type "list" = Value.type "tuple" => absurd q (by decide)
theorem HRel.ns_out (H : HRel X h W V) {L m} (n : h.Ns L m) : L ∉ W.ρ := by
  obtain ⟨o, es, ep, ho, hd, _⟩ := n
  exact H.out ho fun us n e => by subst e; cases hd
theorem HRel.cell_out (H : HRel X h W V) {c v} (n : h.IsCell c v) : c ∉ W.ρ := by
  obtain ⟨o, ho, hd⟩ := n
  exact H.out ho fun us n e => by subst e; cases hd
theorem getElem?_append_of_some {α} {l r : List α} {i : Nat} {a : α} (h : l[i]? = some a) : (l ++ r)[i]? = some a := by
  rw [List.getElem?_append_left (List.getElem?_eq_some_iff.mp h).1]; exact h
/-- the world's lists grow -/
structure Grow (W W' : Wld) : Prop where
  ρ : ∃ r, W'.ρ = W.ρ ++ r
  η : ∃ r, W'.η = W.η ++ r
theorem Grow.refl : Grow W W := ⟨⟨[], (List.append_nil _).symm⟩, ⟨[], (List.append_nil _).symm⟩⟩
theorem Grow.l (g : Grow W W') {i : Nat} {a : Addr} (e : W.ρ[i]? = some a) : W'.ρ[i]? = some a := by obtain ⟨r, z⟩ := g.ρ; rw [z]; exact getElem?_append_of_some e
theorem Grow.o (g : Grow W W') {i : Nat} {a : Addr} (e : W.η[i]? = some a) : W'.η[i]? = some a := by obtain ⟨r, z⟩ := g.η; rw [z]; exact getElem?_append_of_some e
theorem Step.grow (S : Step Y h W h' W') : Grow W W' := ⟨let ⟨r, e, _⟩ := S.ρ; ⟨r, e⟩, S.η⟩
noncomputable abbrev Tups (h h' : Heap) : Prop := ∀ a vs, h.IsTuple a vs → h'.IsTuple a vs
mutual
theorem VR.mono {σ} (hT : Tups h h') (g : Grow W W') : ∀ {a v}, VR σ h W a v → VR σ h' W' a v
  | _, _, .imm x => .imm x
  | _, _, .sym x => .sym x
  | _, _, .lst x => .lst (g.l x)
  | _, _, .hdr x => .hdr (g.o x)
  | _, _, .fix => .fix
  | _, _, .tup x y => .tup (hT _ _ x) (VRs.mono hT g y)
theorem VRs.mono {σ} (hT : Tups h h') (g : Grow W W') : ∀ {l r}, VRs σ h W l r → VRs σ h' W' l r
  | _, _, .nil => .nil
  | _, _, .cons x y => .cons (VR.mono hT g x) (VRs.mono hT g y)
end
/-- the places Y bear no tuple -/
noncomputable def NoTup (Y : Addr → Prop) (h : Heap) : Prop := ∀ a vs, Y a → ¬ h.IsTuple a vs
theorem noTup_nox : NoTup Nox h := fun _ _ x => x.elim
theorem Step.tups (S : Step Y h W h' W') (H : HRel X h W V) (hY : NoTup Y h) : Tups h h' := fun _ _ x => tup_keep x fun o e => S.ext _ o e (H.tup_out x) fun q => hY _ _ q x
theorem Keeps.tups (k : Keeps h h') : Tups h h' := fun _ _ x => tup_keep x fun o e => k _ o e
theorem Step.refl : Step Y h W h W := ⟨fun _ _ e _ _ => e, fun _ e => e, ⟨[], (List.append_nil _).symm, fun _ q => nomatch q⟩, ⟨[], (List.append_nil _).symm⟩⟩
theorem Step.trans {h'' W''} (S : Step Y h W h' W') (T : Step Y h' W' h'' W'') : Step Y h W h'' W'' := by
  obtain ⟨r, e, f⟩ := S.ρ
  obtain ⟨r', e', f'⟩ := T.ρ
  obtain ⟨q, hq⟩ := S.η
  obtain ⟨q', hq'⟩ := T.η
  refine ⟨fun a o ho hn hx => T.ext a o (S.ext a o ho hn hx) (fun ha => ?_) hx, fun a ha => T.live a (S.live a ha), ⟨r ++ r', by rw [e', e, List.append_assoc], fun a ha => ?_⟩, ⟨q ++ q', by rw [hq', hq, List.append_assoc]⟩⟩
  · rw [e] at ha
    exact (List.mem_append.mp ha).elim hn fun ha => by rw [f a ha] at ho; cases ho
  · refine (List.mem_append.mp ha).elim (f a) fun ha => ?_
    cases q : h.get? a with
    | none => rfl
    | some o => exact absurd (f' a ha) (S.live a (by rw [q]; exact Option.some_ne_none o))
theorem Step.weaken {Z : Addr → Prop} (S : Step Y h W h' W') (k : ∀ a, Y a → Z a) : Step Z h W h' W' := ⟨fun a o ho hn hy => S.ext a o ho hn fun hx => hy (k a hx), S.live, S.ρ, S.η⟩
theorem Step.nox (S : Step Nox h W h' W') : Step Y h W h' W' := S.weaken fun _ q => q.elim
theorem live_of {a o} (e : h.get? a = some o) : h.get? a ≠ none := by rw [e]; exact Option.some_ne_none o
theorem Step.of_keeps (k : Keeps h h') : Step Y h W h' W := ⟨fun a o ho _ _ => k a o ho, fun a ha => by
    cases q : h.get? a with
    | none => exact absurd q ha
    | some o => exact live_of (k a o q), ⟨[], (List.append_nil _).symm, fun _ q => nomatch q⟩, ⟨[], (List.append_nil _).symm⟩⟩
theorem InstHdr.keep {x a} (J : InstHdr X.C h x a) (k1 : ∀ o, h.get? x = some o → h'.get? x = some o) (k2 : ∀ d o, h.get? x = some (instObj X.C d) → h.get? d = some o → h'.get? d = some o) : InstHdr X.C h' x a :=
  let ⟨d, h1, hs, k, t, n, h2, h3⟩ := J; ⟨d, k1 _ h1, hs, k, t, n, k2 d _ h1 h2, h3⟩
/-- one place L is turned that is no list, no tuple and bears no header -/
theorem HRel.turned (H : HRel X h W V) {L : Addr} (k : ∀ a o, a ≠ L → h.get? a = some o → h'.get? a = some o) (hl : L ∉ W.ρ) (ht : ∀ vs, ¬ h.IsTuple L vs) (h0L : X.h0.get? L = none)
    (hx : ∀ (i : Nat) x a, W.η[i]? = some x → InstHdr X.C h x a → InstHdr X.C h' x a) : HRel X h' W V where
  ok := H.ok
  len := H.len
  nodup := H.nodup
  ls := fun i xs e => by
    obtain ⟨a, vs, h1, ⟨n, h2⟩, h3⟩ := H.ls i xs e
    exact ⟨a, vs, h1, ⟨n, k a _ (fun q => hl (q ▸ List.mem_of_getElem? h1)) h2⟩, h3.mono (fun b us hb => tup_keep hb fun o ho => k b o (fun q => ht us (q ▸ hb)) ho) .refl⟩
  fresh := H.fresh
  base := fun a o e => k a o (fun q => by rw [q, h0L] at e; cases e) (H.base a o e)
  os := fun i j e => let ⟨x, a, h1, h2, h3⟩ := H.os i j e; ⟨x, a, h1, h2, hx i x a h1 h3⟩
  leno := H.leno
theorem HRel.keeps (H : HRel X h W V) (k : Keeps h h') : HRel X h' W V where
  ok := H.ok
  len := H.len
  nodup := H.nodup
  ls := fun i xs e => let ⟨a, vs, h1, ⟨n, h2⟩, h3⟩ := H.ls i xs e; ⟨a, vs, h1, ⟨n, k a _ h2⟩, h3.mono k.tups .refl⟩
  fresh := H.fresh
  base := fun a o e => k a o (H.base a o e)
  os := fun i j e => let ⟨x, a, h1, h2, h3⟩ := H.os i j e; ⟨x, a, h1, h2, h3.keep (fun o => k _ o) fun d o _ => k d o⟩
  leno := H.leno
theorem get?_size_none (h : Heap) : h.get? h.objs.size = none := by
  cases q : h.get? h.objs.size with
  | none => rfl
  | some o => exact absurd (Heap.lt_size q) (Nat.lt_irrefl _)
theorem keeps_push (o : Obj) : Keeps h (h.push o) := fun a o' e => Heap.get?_push_of_some o e
theorem HRel.none_of (H : HRel X h W V) {a : Addr} (e : h.get? a = none) : X.h0.get? a = none := by
  cases q : X.h0.get? a with
  | none => rfl
  | some o => rw [H.base a o q] at e; cases e
noncomputable abbrev Wld.more (W : Wld) (a : Addr) : Wld := ⟨W.ρ ++ [a], W.η⟩
theorem Grow.more {a} : Grow W (W.more a) := ⟨⟨[a], rfl⟩, ⟨[], (List.append_nil _).symm⟩⟩
/-- a new list -/
noncomputable abbrev lsObj (vs : Array Value) : Obj := { cls := .type "list", data := .seq vs }
/-- a list joins the ledger -/
theorem HRel.join (H : HRel X h W V) {a : Addr} {l : List AV} {vs : Array Value} (ha : a ∉ W.ρ) (h0a : X.h0.get? a = none) (L : LsAt h a vs) (r : VRs X.σ h (W.more a) l vs.toList) : HRel X h (W.more a) (V.add l) := by
  refine ⟨VH.add_ok H.ok, ?_, ?_, fun i xs e => ?_, fun b hb => ?_, H.base, fun i j e => ?_, H.leno⟩
  · show (W.ρ ++ [_]).length = V.n + 1
    rw [List.length_append, H.len]; rfl
  · exact List.nodup_append.mpr ⟨H.nodup, List.nodup_cons.mpr ⟨List.not_mem_nil, List.nodup_nil⟩, fun b hb c hc q => ha (List.mem_singleton.mp hc ▸ q ▸ hb)⟩
  · rw [VH.get_add] at e
    split at e
    · rename_i hi
      cases e
      exact ⟨a, vs, by rw [hi, ← H.len]; exact List.getElem?_concat_length, L, r⟩
    · obtain ⟨b, us, h1, h2, h3⟩ := H.ls i xs e
      exact ⟨b, us, getElem?_append_of_some h1, h2, h3.mono (fun _ _ z => z) .more⟩
  · exact (List.mem_append.mp hb).elim (H.fresh b) fun q => by rw [List.mem_singleton.mp q]; exact h0a
  · obtain ⟨x, b, h1, h2, h3⟩ := H.os i j e
    exact ⟨x, b, h1, getElem?_append_of_some h2, h3⟩
theorem HRel.alloc (H : HRel X h W V) {l : List AV} {vs : List Value} (r : VRs X.σ h W l vs) : HRel X (h.push (lsObj vs.toArray)) (W.more h.objs.size) (V.add l) :=
  (H.keeps (keeps_push _)).join (fun q => by obtain ⟨us, n, e⟩ := H.isList q; rw [get?_size_none] at e; cases e) (H.none_of (get?_size_none h)) ⟨0, Heap.get?_push_size _ rfl⟩ (r.mono (keeps_push _).tups .more)
theorem step_alloc {o : Obj} : Step Y h W (h.push o) (W.more h.objs.size) :=
  ⟨fun a o' e _ _ => keeps_push o a o' e, (Step.of_keeps (Y := Y) (W := W) (keeps_push o)).live, ⟨[_], rfl, fun a ha => by rw [List.mem_singleton.mp ha]; exact get?_size_none h⟩, ⟨[], (List.append_nil _).symm⟩⟩
theorem HRel.last (H : HRel X h W V) {h' : Heap} : VR X.σ h' (W.more h.objs.size) (.lst V.n) (.ref h.objs.size) := .lst (by rw [← H.len]; exact List.getElem?_concat_length)
theorem same_keep {a : Addr} (s : Heap.SameBut a h h') {b o} (hb : b ≠ a) (e : h.get? b = some o) : h'.get? b = some o := (s.2 b hb).trans e
/-- a list of the ledger is turned -/
theorem HRel.update (H : HRel X h W V) {i : Nat} {a : Addr} {xs : List AV} {vs : Array Value} (hi : i < V.n) (ha : W.ρ[i]? = some a) (hs : Heap.SameBut a h h') (hl : LsAt h' a vs) (r : VRs X.σ h W xs vs.toList) : HRel X h' W (V.put i xs) := by
  have hm : a ∈ W.ρ := List.mem_of_getElem? ha
  obtain ⟨us, n, hu⟩ := H.isList hm
  have hT : Tups h h' := fun b ws hb => tup_keep hb fun o ho => same_keep hs (fun q => H.tup_out hb (q ▸ hm)) ho
  refine ⟨VH.put_ok H.ok, H.len, H.nodup, fun j ys e => ?_, H.fresh, fun b o e => same_keep hs (fun q => by rw [q, H.fresh _ hm] at e; cases e) (H.base b o e), fun j k e => ?_, H.leno⟩
  · rw [VH.get_put H.ok hi] at e
    split at e
    · rename_i q
      cases e
      exact ⟨a, vs, q ▸ ha, hl, r.mono hT .refl⟩
    · rename_i q
      obtain ⟨b, ws, h1, ⟨n, h2⟩, h3⟩ := H.ls j ys e
      refine ⟨b, ws, h1, ⟨n, same_keep hs (fun z => q ?_) h2⟩, h3.mono hT .refl⟩
      have l1 := List.getElem?_eq_some_iff.mp ha
      have l2 := List.getElem?_eq_some_iff.mp h1
      exact (List.getElem_inj H.nodup).mp (l1.2.trans (z ▸ l2.2.symm))
  · obtain ⟨x, b, h1, h2, h3⟩ := H.os j k e
    refine ⟨x, b, h1, h2, h3.keep (fun o ho => same_keep hs (fun q => ?_) ho) fun d o hd ho => same_keep hs (fun q => ?_) ho⟩
    · obtain ⟨d, h4, _⟩ := h3
      rw [q, hu] at h4; cases h4
    · obtain ⟨d', h4, _, _, _, _, h5, _⟩ := h3
      rw [h4] at hd
      cases hd
      rw [q, hu] at h5
      exact absurd (congrArg Obj.data (Option.some.inj h5)) (fun z => nomatch z)
theorem step_update {a} (ha : a ∈ W.ρ) (hs : Heap.SameBut a h h') (hl : ∃ vs, LsAt h' a vs) : Step Y h W h' W :=
  ⟨fun b o e hb _ => same_keep hs (fun q => hb (q ▸ ha)) e, fun b hb => by
    by_cases q : b = a
    · subst q; obtain ⟨vs, n, ho⟩ := hl; exact live_of ho
    · rw [hs.2 b q]; exact hb, ⟨[], (List.append_nil _).symm, fun _ q => nomatch q⟩, ⟨[], (List.append_nil _).symm⟩⟩
end
end Mine
end

section
open PySem PySem.W PyProof.Rows
namespace Mine
noncomputable abbrev NoE : Value → Shared → Prop := fun _ _ => False
theorem wpT {α : Type} {M : Model} {A : Around} {t : Sem α} {Q : α → Shared → Prop} {E : Value → Shared → Prop} {s : Shared} (hn : 0 < s.toks) (h : wpAny M A t (fun a s' => 0 < s'.toks → Q a s') NoE s) : wpAny M A t Q E s :=
  wpAny_mono (wpAny_toks_of (n := 1) hn h) (fun _ _ x => x.2 x.1) (fun _ _ x => x.2.elim)
theorem wpE {α : Type} {M : Model} {A : Around} {t : Sem α} {Q : α → Shared → Prop} {E : Value → Shared → Prop} {s : Shared} (h : wpAny M A t Q NoE s) : wpAny M A t Q E s := wpAny_mono h (fun _ _ x => x) fun _ _ x => x.elim
structure Room (A : Around) (d : Nat) : Prop where
  hh : A.handled = none
  depth : A.depth + d < 600
  units : A.units + 10 * d < 6000
theorem Room.u1 {A : Around} {d} (r : Room A d) : A.units + 1 < cLine := by
  have := r.units
  rw [show cLine = 9900 from rfl]; omega
theorem Room.up {A : Around} {d d'} (r : Room A d) (h : d' ≤ d) : Room A d' := ⟨r.hh, by have := r.depth; omega, by have := r.units; omega⟩
structure Base (h0 : Heap) (mg mb : Str → Option Value) : Prop where
  g : h0.Ns mainGlobals mg
  b : h0.Ns builtinsNs mb
  nolimit : h0.NoLimit
  builtins : ∀ x : Str, x ≠ "__name__" → mb x = bootBuiltins x
structure EnvOK (sc : Scope) (env : Env) : Prop where
  scope : env.scope = sc
  kind : sc.kind = .function
  globals : env.globals = mainGlobals
  builtins : env.builtins = builtinsNs
theorem EnvOK.fn {sc env} (ok : EnvOK sc env) : env.scope.kind = .function := ok.scope ▸ ok.kind
theorem EnvOK.kindOf {sc env} (ok : EnvOK sc env) {x : Str} : env.kindOf x = sc.names.lookup x := by unfold Env.kindOf; rw [ok.scope]
/-- the value of a name of the frame's -/
noncomputable def Look (h : Heap) (env : Env) (x : Str) (v : Value) : Prop :=
  (env.kindOf x = some .local ∧ ∃ m, h.Ns env.locals m ∧ m x = some v) ∨
  ((env.kindOf x = some .cell ∨ env.kindOf x = some .free) ∧ x ≠ "__classdict__" ∧ ∃ c, env.cells.lookup x = some c ∧ h.IsCell c (some v))
noncomputable abbrev EV := List (Option AV)
structure EnvRel (X : Wd) (h : Heap) (env : Env) (sl : List Str) (W : Wld) (ev : EV) : Prop where
  ns : ∃ m, h.Ns env.locals m ∧ m "_headers" = none
  L0 : X.h0.get? env.locals = none
  var : ∀ (i : Nat) x v, sl[i]? = some x → ev[i]? = some (some v) → ∃ val, Look h env x val ∧ VR X.σ h W v val
  cell : ∀ x c, env.cells.lookup x = some c → (∃ v, h.IsCell c v) ∧ X.h0.get? c = none
  apart : ∀ x y c, env.cells.lookup x = some c → env.cells.lookup y = some c → x = y
  has : ∀ x ∈ sl, (env.kindOf x = some .cell ∨ env.kindOf x = some .free) → ∃ c, env.cells.lookup x = some c
/-- the cells of a frame's own -/
noncomputable def CellsOK (sc : Scope) (sl : List Str) (env : Env) : Prop := ∀ x, sc.names.lookup x = some .cell → x ∈ sl → ∃ c, env.cells.lookup x = some c
/-- the frame's own places -/
noncomputable def Own (st : List Str) (env : Env) : Addr → Prop := fun a => a = env.locals ∨ ∃ x, x ∈ st ∧ env.cells.lookup x = some a
section
variable {X : Wd} {h h' : Heap} {W W' : Wld} {V : VH} {env : Env} {sl : List Str} {ev : EV} {Y : Addr → Prop}
theorem noTup_own (R : EnvRel X h env sl W ev) {st : List Str} : NoTup (Own st env) h := by
  intro a vs ha ht
  obtain ⟨o, ho, hc, n, hd⟩ := ht
  rcases ha with rfl | ⟨x, _, hx⟩
  · obtain ⟨m, ⟨o', es, ep, ho', hd', _⟩, _⟩ := R.ns
    rw [ho] at ho'; cases ho'; rw [hd] at hd'; cases hd'
  · obtain ⟨⟨v, o', ho', hd'⟩, _⟩ := R.cell x a hx
    rw [ho] at ho'; cases ho'; rw [hd] at hd'; cases hd'
/-- the frame over a heap that keeps namespaces, cells and tuples -/
theorem Look.of {x v} (l : Look h env x v) (kn : ∀ m, h.Ns env.locals m → h'.Ns env.locals m) (kc : ∀ x c v, env.cells.lookup x = some c → h.IsCell c v → h'.IsCell c v) : Look h' env x v :=
  l.imp (fun ⟨hl, m, hn, hm⟩ => ⟨hl, m, kn m hn, hm⟩) fun ⟨hc, hd, c, hl, hv⟩ => ⟨hc, hd, c, hl, kc x c _ hl hv⟩
theorem EnvRel.of (R : EnvRel X h env sl W ev) (kn : ∀ m, h.Ns env.locals m → h'.Ns env.locals m) (kc : ∀ x c v, env.cells.lookup x = some c → h.IsCell c v → h'.IsCell c v) (kt : Tups h h') (g : Grow W W') : EnvRel X h' env sl W' ev where
  ns := let ⟨m, hn, hh⟩ := R.ns; ⟨m, kn m hn, hh⟩
  L0 := R.L0
  var := fun i x v e1 e2 => let ⟨val, l, r⟩ := R.var i x v e1 e2; ⟨val, l.of kn kc, r.mono kt g⟩
  cell := fun x c hx => let ⟨⟨v, hv⟩, hc⟩ := R.cell x c hx; ⟨⟨v, kc x c v hx hv⟩, hc⟩
  apart := R.apart
  has := R.has
theorem EnvRel.step (R : EnvRel X h env sl W ev) (S : Step Nox h W h' W') (H : HRel X h W V) : EnvRel X h' env sl W' ev :=
  R.of (fun m hn => ns_keep hn fun o e => S.ext _ o e (H.ns_out hn) id) (fun x c v _ hv => cell_keep hv fun o e => S.ext _ o e (H.cell_out hv) id) (S.tups H noTup_nox) S.grow
end
noncomputable abbrev on (s : Shared) (h : Heap) (tk : Nat) : Shared := { s with heap := h, toks := tk }
/-- from s on: the heap h, the ledger V -/
structure Go (X : Wd) (Y : Addr → Prop) (s : Shared) (W : Wld) (h : Heap) (tk : Nat) (W' : Wld) (V : VH) : Prop where
  S : Step Y s.heap W h W'
  H : HRel X h W' V
  tk : 0 < tk
structure At0 (X : Wd) (d : Nat) (A : Around) (s : Shared) (W : Wld) (V : VH) : Prop where
  rm : Room A d
  H : HRel X s.heap W V
  tk : 0 < s.toks
structure At (X : Wd) (d : Nat) (sc : Scope) (sl : List Str) (A : Around) (s : Shared) (env : Env) (W : Wld) (V : VH) (ev : EV) : Prop extends At0 X d A s W V where
  ok : EnvOK sc env
  co : CellsOK sc sl env
  R : EnvRel X s.heap env sl W ev
section
variable {X : Wd} {s : Shared} {h : Heap} {tk tk' : Nat} {W W' W'' : Wld} {V V' V'' : VH} {env : Env} {sl : List Str} {ev : EV} {Y : Addr → Prop} {A : Around} {d : Nat} {sc : Scope}
theorem At0.go (z : At0 X d A s W V) (g : Go X Y s W h tk W' V') : At0 X d A (on s h tk) W' V' := ⟨z.rm, g.H, g.tk⟩
theorem At.go (z : At X d sc sl A s env W V ev) (g : Go X Nox s W h tk W' V') : At X d sc sl A (on s h tk) env W' V' ev := ⟨z.toAt0.go g, z.ok, z.co, z.R.step g.S z.H⟩
theorem Go.trans {h'} (g : Go X Y s W h tk W' V') (g' : Go X Y (on s h tk) W' h' tk' W'' V'') : Go X Y s W h' tk' W'' V'' := ⟨g.S.trans g'.S, g'.H, g'.tk⟩
theorem Go.nox (g : Go X Nox s W h tk W' V') : Go X Y s W h tk W' V' := ⟨g.S.nox, g.H, g.tk⟩
theorem Go.refl (H : HRel X s.heap W V) (p : 0 < tk) : Go X Y s W s.heap tk W V := ⟨.refl, H, p⟩
theorem VR.go {v val} (r : VR X.σ s.heap W v val) (z : At0 X d A s W V) (g : Go X Nox s W h tk W' V') : VR X.σ h W' v val := r.mono (g.S.tups z.H noTup_nox) g.S.grow
theorem VRs.go {v val} (r : VRs X.σ s.heap W v val) (z : At0 X d A s W V) (g : Go X Nox s W h tk W' V') : VRs X.σ h W' v val := r.mono (g.S.tups z.H noTup_nox) g.S.grow
/-- a push that is no list -/
theorem Go.push {o : Obj} (H : HRel X s.heap W V) (p : 0 < tk) : Go X Y s W (s.heap.push o) tk W V := ⟨.of_keeps (keeps_push o), H.keeps (keeps_push o), p⟩
end

/-- a reckoning ends, and K holds of what it gives -/
noncomputable def Su {α : Type} (o : Option α) (K : α → Prop) : Prop := match o with
  | some r => K r
  | none => False
noncomputable def bnd {α β : Type} (o : Option α) (F : α → Option β) : Option β := match o with
  | some a => F a
  | none => none
noncomputable def bndO {α β γ : Type} (o : Option (α × β)) (F : α → β → Option γ) : Option γ := match o with
  | some (a, b) => F a b
  | none => none
noncomputable def grd {α : Type} (c : Bool) (o : Option α) : Option α := match c with
  | true => o
  | false => none
section
variable {α β γ : Type} {P : Prop}
theorem Su.mono {o : Option α} {K K' : α → Prop} (k : Su o K) (f : ∀ r, K r → K' r) : Su o K' := by cases o with
  | none => exact k
  | some r => exact f r k
theorem Su.of {o : Option α} {K : α → Prop} {r : α} (e : o = some r) (k : K r) : Su o K := by rw [e]; exact k
theorem Su.ex {o : Option α} {K : α → Prop} (k : Su o K) (f : ∀ r, o = some r → K r → P) : P := by cases o with
  | none => exact k.elim
  | some r => exact f r rfl k
theorem Su.bnd {o : Option α} {F : α → Option β} {K : β → Prop} {K' : α → Prop} (k : Su (Mine.bnd o F) K) (f : ∀ a, Su (F a) K → K' a) : Su o K' := by cases o with
  | none => exact k
  | some a => exact f a k
theorem Su.bndO {o : Option (α × β)} {F : α → β → Option γ} {K : γ → Prop} {K' : α × β → Prop} (k : Su (Mine.bndO o F) K) (f : ∀ a b, Su (F a b) K → K' (a, b)) : Su o K' := by cases o with
  | none => exact k
  | some p => exact f p.1 p.2 k
theorem Su.bnde {o : Option α} {F : α → Option β} {K : β → Prop} (k : Su (Mine.bnd o F) K) (f : ∀ a, o = some a → Su (F a) K → P) : P := by cases o with
  | none => exact k.elim
  | some a => exact f a rfl k
theorem Su.grd {c : Bool} {o : Option α} {K : α → Prop} (k : Su (Mine.grd c o) K) (f : c = true → Su o K → P) : P := by cases c with
  | true => exact f rfl k
  | false => exact k.elim
end

/-- behind an expression -/
noncomputable def PostE (X : Wd) (s : Shared) (W : Wld) (Q : Value → Shared → Prop) (r : AV × VH) : Prop := ∀ h tk W' val, Go X Nox s W h tk W' r.2 → VR X.σ h W' r.1 val → Q val (on s h tk)
noncomputable def PostEs (X : Wd) (s : Shared) (W : Wld) (Q : List Value → Shared → Prop) (r : List AV × VH) : Prop := ∀ h tk W' vals, Go X Nox s W h tk W' r.2 → VRs X.σ h W' r.1 vals → Q vals (on s h tk)
noncomputable def PostT (X : Wd) (s : Shared) (W : Wld) (Q : Bool → Shared → Prop) (r : Bool × VH) : Prop := ∀ h tk W', Go X Nox s W h tk W' r.2 → Q r.1 (on s h tk)
noncomputable abbrev φE := EV → VH → Option (AV × VH)
noncomputable abbrev φEs := EV → VH → Option (List AV × VH)
noncomputable abbrev φT := EV → VH → Option (Bool × VH)
inductive Flw where
  | next
  | ret (v : AV)
inductive FR (σ : Sig) (h : Heap) (W : Wld) : Flw → Flow → Prop
  | next : FR σ h W .next .next
  | ret {v val} : VR σ h W v val → FR σ h W (.ret v) (.ret val)
noncomputable abbrev φS := EV → VH → Option (Flw × EV × VH)
noncomputable abbrev FF := List AV → VH → Option (AV × VH)
noncomputable def PostS (X : Wd) (sl : List Str) (s : Shared) (env : Env) (W : Wld) (Q : Flow → Shared → Prop) (r : Flw × EV × VH) : Prop :=
  ∀ h tk W' fl, Go X (Own sl env) s W h tk W' r.2.2 → EnvRel X h env sl W' r.2.1 → FR X.σ h W' r.1 fl → Q fl (on s h tk)
section
variable (X : Wd) (d : Nat) (sc : Scope) (sl : List Str)
noncomputable def SoundE (e : Expr) (φ : φE) : Prop := ∀ {A s env W V ev Q}, At X d sc sl A s env W V ev → Su (φ ev V) (PostE X s W Q) → wpAny X.M A (eval e env) Q NoE s
noncomputable def SoundEs (es : List Expr) (φ : φEs) : Prop := (∀ env, (starEach es env).any (·.1) = false) ∧
  ∀ {A s env W V ev pos Q}, At X d sc sl A s env W V ev → Su (φ ev V) (PostEs X s W Q) → wpAny X.M A (spliced (backTo pos (starEach es env))) Q NoE s
noncomputable def SoundT (e : Expr) (φ : φT) : Prop := ∀ {A s env W V ev Q}, At X d sc sl A s env W V ev → Su (φ ev V) (PostT X s W Q) → wpAny X.M A (isTrue e env (eval e env)) Q NoE s
noncomputable def SoundS (st : Stmt) (φ : φS) : Prop := ∀ {A s env W V ev Q}, At X d sc sl A s env W V ev → Su (φ ev V) (PostS X sl s env W Q) → wpAny X.M A (exec st env) Q NoE s
noncomputable def SoundB (st : List Stmt) (φ : φS) : Prop := ∀ {A s env W V ev Q}, At X d sc sl A s env W V ev → Su (φ ev V) (PostS X sl s env W Q) → wpAny X.M A (execs st env) Q NoE s
/-- what is called: a value f, its arguments by place -/
noncomputable def SoundF (f : Value) (F : FF) : Prop := ∀ {A s W V args vals Q}, At0 X d A s W V → VRs X.σ s.heap W args vals → Su (F args V) (PostE X s W Q) → wpAny X.M A (call f vals) Q NoE s
end
section
variable {X : Wd} {d : Nat} {sc : Scope} {sl : List Str} {s : Shared} {W W' : Wld} {V : VH} {h : Heap} {tk : Nat}
theorem PostE.here {Q r val} (P : PostE X s W Q r) (H : HRel X s.heap W r.2) (v : VR X.σ s.heap W r.1 val) (hp : 0 < tk) : Q val (on s s.heap tk) := P s.heap tk W val (.refl H hp) v
theorem PostE.after {Q r} {V'} (P : PostE X s W Q r) (g : Go X Nox s W h tk W' V') : PostE X (on s h tk) W' Q r := fun h' tk' W'' val g' v => P h' tk' W'' val (g.trans g') v
theorem PostT.after {Q r} {V'} (P : PostT X s W Q r) (g : Go X Nox s W h tk W' V') : PostT X (on s h tk) W' Q r := fun h' tk' W'' g' => P h' tk' W'' (g.trans g')
theorem PostEs.after {Q r} {V'} (P : PostEs X s W Q r) (g : Go X Nox s W h tk W' V') : PostEs X (on s h tk) W' Q r := fun h' tk' W'' val g' v => P h' tk' W'' val (g.trans g') v
theorem SoundF.up {d d' f F} (h : SoundF X d' f F) (hd : d' ≤ d) : SoundF X d f F := fun z rs k => h ⟨z.rm.up hd, z.H, z.tk⟩ rs k
-- constants
noncomputable def constE (v : AV) : φE := fun _ V => some (v, V)
theorem sound_int {i k pos} : SoundE X d sc sl (.Constant (.int i) k pos) (constE (.int i)) := fun z P => wpT z.tk (wpAny_Constant_int fun hp => PostE.here P z.H (.imm (.int _ _)) hp)
theorem sound_float {x k pos} : SoundE X d sc sl (.Constant (.float x) k pos) (constE (.flt x)) := fun z P => wpT z.tk (wpAny_Constant_float fun hp => PostE.here P z.H (.imm (.flt _ _)) hp)
theorem sound_true {b k pos} : SoundE X d sc sl (.Constant (.bool b) k pos) (constE (.bool b)) := fun z P => wpT z.tk (wpAny_Constant_bool fun hp => PostE.here P z.H (.imm (.bool _)) hp)
theorem sound_none {k pos} : SoundE X d sc sl (.Constant .none k pos) (constE .none) := fun z P => wpT z.tk (wpAny_Constant_none fun hp => PostE.here P z.H (.imm .none) hp)
theorem sound_str {x y k pos} (hx : decide (x = y) = true) : SoundE X d sc sl (.Constant (.str x) k pos) (constE (.str y)) := by
  cases of_decide_eq_true hx
  exact fun z P => wpT z.tk (wpAny_Constant_str fun hp => PostE.here P z.H (.imm (.str _ _)) hp)
-- names
noncomputable def getE (i : Nat) : φE := fun ev V => bnd (getF ev i) fun o => bnd o fun v => some (v, V)
theorem wp_look {A : Around} {s : Shared} {env : Env} {x : Str} {v : Value} {Q : Value → Shared → Prop} {E} (hk : env.scope.kind = .function) (l : Look s.heap env x v) (h : Q v s) : wpAny X.M A (loadName env x) Q E s := by
  rcases l with ⟨hl, m, hn, hm⟩ | ⟨hc, hd, c, hl, hv⟩
  · exact wpAny_loadName_local hk hl hn hm h
  · rcases hc with hc | hc
    · exact wpAny_loadName_cell hk hc hl hv h
    · exact wpAny_loadName_free hk hc hl hv h (by simpa using hd)
theorem sound_name {x : Str} {pos} (i : Nat) (hi : sl[i]? = some x) (hd : (x == ("__debug__" : Str)) = false) : SoundE X d sc sl (.Name x pos) (getE i) := fun z P =>
  Su.bnde P fun o e P => Su.bnde P fun v e' P => by
    rw [getF_eq] at e
    subst e'
    obtain ⟨val, l, r⟩ := z.R.var i x v hi e
    exact wpAny_Name (wp_look z.ok.fn l (PostE.here P z.H r z.tk)) hd
end
end Mine
end

section
open PySem PySem.W PyProof.Rows
namespace Mine
noncomputable section
noncomputable def smallS (s : Str) : Bool := Nat.ble (lenR s.cps.toList) 60000
noncomputable def smallI : Int → Bool
  | .ofNat k => Nat.blt k 1000000000
  | .negSucc k => Nat.blt k 999999999
noncomputable def posI : Int → Bool
  | .ofNat k => Nat.blt 0 k
  | .negSucc k => false
noncomputable def smallL {α : Type} (xs : List α) : Bool := Nat.ble (lenR xs) 60000
theorem smallS_le {s : Str} (h : smallS s = true) : s.length ≤ 60000 := by
  have := Nat.le_of_ble_eq_true h
  rwa [lenR_eq] at this
theorem smallL_le {α : Type} {s : List α} (h : smallL s = true) : s.length ≤ 60000 := by
  have := Nat.le_of_ble_eq_true h
  rwa [lenR_eq] at this
theorem smallI_lt {n : Int} (h : smallI n = true) : n.natAbs < 1000000000 := by
  cases n with
  | ofNat k => exact Nat.blt_eq.mp h
  | negSucc k => have := Nat.blt_eq.mp (show Nat.blt k 999999999 = true from h); show k + 1 < 1000000000; omega
theorem posI_lt {n : Int} (h : posI n = true) : 0 < n := by
  cases n with
  | ofNat k => have := Nat.blt_eq.mp (show Nat.blt 0 k = true from h); show (0 : Int) < (k : Int); omega
  | negSucc k => cases h
set_option exponentiation.threshold 2000 in
theorem smallI_fits {n : Int} (h : smallI n = true) : n.natAbs < 2 ^ 1023 :=
  Nat.lt_of_lt_of_le (smallI_lt h) (Nat.le_trans (by decide : 1000000000 ≤ 2 ^ 30) (Nat.pow_le_pow_right (by decide) (by decide)))
theorem mul_ok {s : Str} {n : Int} (h : smallS s = true) (hn : n < 100) (h1 : -(2 ^ 63) ≤ n) : MulOk s n := by
  have hs := smallS_le h
  refine ⟨?_, fun _ _ => ?_, fun h2 _ => ?_⟩
  · simp only [Bool.or_eq_false_iff, decide_eq_false_iff_not]
    constructor <;> omega
  · have h3 : 0 < n := by omega
    have h4 : (60000 : Int) ≤ (2 ^ 63 - 1) / n := (Int.le_ediv_iff_mul_le h3).mpr (by omega)
    omega
  · unfold Builtin.Str.tooLong
    have h6 : s.length * n.toNat ≤ 60000 * 100 := Nat.mul_le_mul hs (by omega)
    rw [sizeLine_eq, decide_eq_false_iff_not]
    omega
theorem no_pylong {a b : Int} (h : b.natAbs < 1000000000) : Builtin.divisionGoesByPylong a b = false := by
  unfold Builtin.divisionGoesByPylong
  have hl : b.natAbs.log2 < 30 ∨ b = 0 := by
    by_cases hb : b.natAbs = 0
    · right; omega
    · left; exact (Nat.log2_lt hb).mpr (by omega)
  have : decide ((if (b == 0) = true then 0 else b.natAbs.log2 / 30 + 1) > 300) = false := by
    refine decide_eq_false ?_
    rcases hl with hl | hl
    · split <;> omega
    · subst hl; decide
  simp only [this, Bool.false_and]
/-- two plain data, by their kinds -/
noncomputable def two {α : Type} (ii : Int → Int → Option α) (ff : UInt64 → UInt64 → Option α) (fi : UInt64 → Int → Option α) (nf : Int → UInt64 → Option α) (ss : Str → Str → Option α) (si : Str → Int → Option α) (a b : AV) : Option α := match a with
  | .int x => match b with
    | .int y => ii x y
    | .flt y => nf x y
    | _ => none
  | .flt x => match b with
    | .int y => fi x y
    | .flt y => ff x y
    | _ => none
  | .str x => match b with
    | .str y => ss x y
    | .int y => si x y
    | _ => none
  | _ => none
noncomputable abbrev no2 {α β γ : Type} : α → β → Option γ := fun _ _ => none
theorem two_vi {α : Type} {ii : Int → Int → Option α} {ff fi nf ss si} {a b : AV} {va vb : Value} {K : α → Prop} {G : Value → Value → Prop} (ha : VI a va) (hb : VI b vb) (e : Su (two ii ff fi nf ss si a b) K)
    (h1 : ∀ x y t u, Su (ii x y) K → G (.int x t) (.int y u)) (h2 : ∀ x y t u, Su (ff x y) K → G (.float x t) (.float y u)) (h3 : ∀ x y t u, Su (fi x y) K → G (.float x t) (.int y u))
    (h4 : ∀ x y t u, Su (nf x y) K → G (.int x t) (.float y u)) (h5 : ∀ x y t u, Su (ss x y) K → G (.str x t) (.str y u)) (h6 : ∀ x y t u, Su (si x y) K → G (.str x t) (.int y u)) : G va vb := by
  cases ha with
  | none => exact e.elim
  | bool => exact e.elim
  | int => cases hb with
    | int => exact h1 _ _ _ _ e
    | flt => exact h4 _ _ _ _ e
    | none => exact e.elim
    | bool => exact e.elim
    | str => exact e.elim
  | flt => cases hb with
    | int => exact h3 _ _ _ _ e
    | flt => exact h2 _ _ _ _ e
    | none => exact e.elim
    | bool => exact e.elim
    | str => exact e.elim
  | str => cases hb with
    | int => exact h6 _ _ _ _ e
    | str => exact h5 _ _ _ _ e
    | none => exact e.elim
    | bool => exact e.elim
    | flt => exact e.elim
/-- the operators on plain data -/
noncomputable def gBin (op : Operator) (a b : AV) : Option AV := match op with
  | .Add => two (fun a b => forceI (a + b) fun c => some (.int c)) (fun a b => some (.flt (Float64.add a b))) no2 no2
    (fun a b => grd (smallS a && smallS b) (forceL (appR a.cps.toList b.cps.toList) fun l => some (.str ⟨⟨l⟩⟩))) no2 a b
  | .Sub => two (fun a b => forceI (a - b) fun c => some (.int c)) (fun a b => some (.flt (Float64.sub a b))) (fun a b => grd (smallI b) (some (.flt (Float64.sub a (Float64.ofInt b))))) no2 no2 no2 a b
  | .Mult => two (fun a b => grd (smallI a && smallI b) (forceI (a * b) fun c => some (.int c))) (fun a b => some (.flt (Float64.mul a b))) no2 no2 no2 (fun a b => grd (smallS a && (decide (-100 < b) && decide (b < 100))) (forceS (mulS a b) fun c => some (.str c))) a b
  | .Div => two no2 (fun a b => grd (!Float64.isZero b) (some (.flt (Float64.div a b)))) no2 (fun a b => grd (smallI a && !Float64.isZero b) (some (.flt (Float64.div (Float64.ofInt a) b)))) no2 no2 a b
  | .FloorDiv => two (fun a b => grd (smallI b && posI b) (forceI (Int.fdiv a b) fun c => some (.int c))) no2 no2 no2 no2 no2 a b
  | .Mod => two (fun a b => grd (posI b) (forceI (Int.fmod a b) fun c => some (.int c))) (fun a b => grd (!Float64.isZero b) (some (.flt (Float64.divmod a b).2))) no2 no2 no2 no2 a b
  | _ => none
/-- comparisons of plain data -/
noncomputable def gCmp (op : CmpOp) (a b : AV) : Option Bool := match op with
  | .Eq => two (fun a b => some (a == b)) (fun a b => some (Float64.cmp a b == some Ordering.eq)) (fun a b => some (Float64.cmpInt a b == some Ordering.eq)) no2 (fun a b => some (eqS a b)) no2 a b
  | .NotEq => two (fun a b => some (a != b)) no2 no2 no2 (fun a b => some (!eqS a b)) no2 a b
  | .Lt => two (fun a b => some (decide (a < b))) no2 no2 no2 no2 no2 a b
  | .Gt => two (fun a b => some (decide (a > b))) no2 no2 no2 no2 no2 a b
  | .LtE => two (fun a b => some (decide (a ≤ b))) (fun a b => some (Float64.cmp a b == some Ordering.lt || Float64.cmp a b == some Ordering.eq)) no2 no2 no2 no2 a b
  | .GtE => two (fun a b => some (decide (a ≥ b))) no2 no2 no2 no2 no2 a b
  | .NotIn => two no2 no2 no2 no2 (fun a b => some (occS b a 0 b.length 1).isEmpty) no2 a b
  | _ => none
theorem forceI_su {α : Type} {n : Int} {f : Int → Option α} {K} (k : Su (forceI n f) K) : Su (f n) K := by rwa [forceI_eq] at k
section
variable {X : Wd} {A : Around} {s : Shared}
theorem gBin_ok {op : Operator} {a b : AV} {va vb : Value} {Q : Value → Shared → Prop} (ha : VI a va) (hb : VI b vb) (e : Su (gBin op a b) fun c => ∀ tk val, VI c val → Q val { s with toks := tk }) : wpAny X.M A (binaryOp op va vb) Q NoE s := by
  have N : ∀ {P : Prop} {α β : Type} {K : AV → Prop} {x : α} {y : β}, Su (no2 x y) K → P := fun e => e.elim
  cases op with
  | Add =>
    refine two_vi (G := fun va vb => wpAny X.M A (binaryOp .Add va vb) Q NoE s) ha hb e (fun x y t u e => PyProof.Rows.add_int ((forceI_su e) _ _ (.int _ _))) (fun x y t u e => PyProof.Rows.add_float (e _ _ (.flt _ _)))
      (fun _ _ _ _ e => N e) (fun _ _ _ _ e => N e) (fun x y t u e => e.grd fun hs e => ?_) (fun _ _ _ _ e => N e)
    rw [Bool.and_eq_true] at hs
    rw [forceL_eq, appR_eq] at e
    rw [show (⟨⟨x.cps.toList ++ y.cps.toList⟩⟩ : Str) = x ++ y from catS_eq] at e
    exact PyProof.Rows.add_str (fun t' tk => e _ _ (.str _ _)) (by have := smallS_le hs.1; have := smallS_le hs.2; rw [sizeLine_eq]; omega)
  | Sub =>
    exact two_vi (G := fun va vb => wpAny X.M A (binaryOp .Sub va vb) Q NoE s) ha hb e (fun x y t u e => PyProof.Rows.sub_int ((forceI_su e) _ _ (.int _ _))) (fun x y t u e => PyProof.Rows.sub_float (e _ _ (.flt _ _)))
      (fun x y t u e => e.grd fun hs e => PyProof.Rows.sub_fi_fits (smallI_fits hs) (e _ _ (.flt _ _))) (fun _ _ _ _ e => N e) (fun _ _ _ _ e => N e) (fun _ _ _ _ e => N e)
  | Mult =>
    refine two_vi (G := fun va vb => wpAny X.M A (binaryOp .Mult va vb) Q NoE s) ha hb e (fun x y t u e => e.grd fun hs e => ?_) (fun x y t u e => PyProof.Rows.mul_float (e _ _ (.flt _ _)))
      (fun _ _ _ _ e => N e) (fun _ _ _ _ e => N e) (fun _ _ _ _ e => N e) (fun x y t u e => e.grd fun hs e => ?_)
    · rw [Bool.and_eq_true] at hs
      exact PySem.P.mul_int ((forceI_su e) _ _ (.int _ _)) (IntMulOk.of_left (intBits_le_64 (by have := smallI_lt hs.1; omega) (by have := smallI_lt hs.1; omega)))
    · rw [forceS_eq, mulS_eq] at e
      simp only [Bool.and_eq_true, decide_eq_true_eq] at hs
      exact PySem.SB.mul (mul_ok hs.1 hs.2.2 (by omega)) fun t' k => e _ _ (.str _ _)
  | Div =>
    refine two_vi (G := fun va vb => wpAny X.M A (binaryOp .Div va vb) Q NoE s) ha hb e (fun _ _ _ _ e => N e) (fun x y t u e => e.grd fun hz e => ?_)
      (fun _ _ _ _ e => N e) (fun x y t u e => e.grd fun hs e => ?_) (fun _ _ _ _ e => N e) (fun _ _ _ _ e => N e)
    · rw [Bool.not_eq_true'] at hz
      exact AutoFloatOps.truediv_1 (by rw [hz]; exact Bool.false_ne_true) (e _ _ (.flt _ _))
    · rw [Bool.and_eq_true, Bool.not_eq_true'] at hs
      exact AutoFloatOps.truediv_if_2 (Float64.ofInt_fits (smallI_fits hs.1)) (by rw [hs.2]; exact Bool.false_ne_true) (e _ _ (.flt _ _))
  | FloorDiv =>
    refine two_vi (G := fun va vb => wpAny X.M A (binaryOp .FloorDiv va vb) Q NoE s) ha hb e (fun x y t u e => e.grd fun hs e => ?_) (fun _ _ _ _ e => N e) (fun _ _ _ _ e => N e) (fun _ _ _ _ e => N e) (fun _ _ _ _ e => N e) (fun _ _ _ _ e => N e)
    rw [Bool.and_eq_true] at hs
    exact PyProof.Rows.floordiv_int (by have := posI_lt hs.2; omega) ((forceI_su e) _ _ (.int _ _)) (.inl (no_pylong (smallI_lt hs.1)))
  | Mod =>
    refine two_vi (G := fun va vb => wpAny X.M A (binaryOp .Mod va vb) Q NoE s) ha hb e (fun x y t u e => e.grd fun hs e => ?_) (fun x y t u e => e.grd fun hz e => ?_)
      (fun _ _ _ _ e => N e) (fun _ _ _ _ e => N e) (fun _ _ _ _ e => N e) (fun _ _ _ _ e => N e)
    · exact PyProof.Rows.mod_int' (by have := posI_lt hs; omega) ((forceI_su e) _ _ (.int _ _))
    · rw [Bool.not_eq_true'] at hz
      exact AutoFloatOps.mod_1 (by rw [hz]; exact Bool.false_ne_true) (e _ _ (.flt _ _))
  | _ => exact e.elim
theorem gCmp_ok {op : CmpOp} {a b : AV} {va vb : Value} {Q : Value → Shared → Prop} (ha : VI a va) (hb : VI b vb) (e : Su (gCmp op a b) fun c => Q (.bool c) s) : wpAny X.M A (compareOp op va vb) Q NoE s := by
  have N : ∀ {P : Prop} {α β : Type} {K : Bool → Prop} {x : α} {y : β}, Su (no2 x y) K → P := fun e => e.elim
  cases op with
  | Eq => exact two_vi (G := fun va vb => wpAny X.M A (compareOp .Eq va vb) Q NoE s) ha hb e (fun _ _ _ _ e => PyProof.Rows.eq_int e) (fun _ _ _ _ e => AutoFloatOps.eq_0 e) (fun _ _ _ _ e => PyProof.Rows.eq_fi e) (fun _ _ _ _ e => N e) (fun _ _ _ _ e => PyProof.Rows.eq_str (eqS_eq ▸ e)) (fun _ _ _ _ e => N e)
  | NotEq => exact two_vi (G := fun va vb => wpAny X.M A (compareOp .NotEq va vb) Q NoE s) ha hb e (fun _ _ _ _ e => PyProof.Rows.ne_int e) (fun _ _ _ _ e => N e) (fun _ _ _ _ e => N e) (fun _ _ _ _ e => N e) (fun x y _ _ e => PyProof.Rows.ne_str (by rw [bne, ← eqS_eq]; exact e)) (fun _ _ _ _ e => N e)
  | Lt => exact two_vi (G := fun va vb => wpAny X.M A (compareOp .Lt va vb) Q NoE s) ha hb e (fun _ _ _ _ e => PyProof.Rows.lt_int e) (fun _ _ _ _ e => N e) (fun _ _ _ _ e => N e) (fun _ _ _ _ e => N e) (fun _ _ _ _ e => N e) (fun _ _ _ _ e => N e)
  | Gt => exact two_vi (G := fun va vb => wpAny X.M A (compareOp .Gt va vb) Q NoE s) ha hb e (fun _ _ _ _ e => PySem.P.gt_int e) (fun _ _ _ _ e => N e) (fun _ _ _ _ e => N e) (fun _ _ _ _ e => N e) (fun _ _ _ _ e => N e) (fun _ _ _ _ e => N e)
  | LtE => exact two_vi (G := fun va vb => wpAny X.M A (compareOp .LtE va vb) Q NoE s) ha hb e (fun _ _ _ _ e => PySem.P.le_int e) (fun _ _ _ _ e => AutoFloatOps.le_0 e) (fun _ _ _ _ e => N e) (fun _ _ _ _ e => N e) (fun _ _ _ _ e => N e) (fun _ _ _ _ e => N e)
  | GtE => exact two_vi (G := fun va vb => wpAny X.M A (compareOp .GtE va vb) Q NoE s) ha hb e (fun _ _ _ _ e => PySem.P.ge_int e) (fun _ _ _ _ e => N e) (fun _ _ _ _ e => N e) (fun _ _ _ _ e => N e) (fun _ _ _ _ e => N e) (fun _ _ _ _ e => N e)
  | NotIn => exact two_vi (G := fun va vb => wpAny X.M A (compareOp .NotIn va vb) Q NoE s) ha hb e (fun _ _ _ _ e => N e) (fun _ _ _ _ e => N e) (fun _ _ _ _ e => N e) (fun _ _ _ _ e => N e) (fun _ _ _ _ e => PySem.P.notIn_str (by rw [Bool.not_not, ← occS_eq]; exact e)) (fun _ _ _ _ e => N e)
  | _ => exact e.elim
end
-- letters
structure Tab where
  bin : Operator → AV → AV → Option AV
  cmp : CmpOp → AV → AV → Option Bool
  eq : AV → AV → Option Bool
  toInt : AV → Option AV
noncomputable def cv (σ : Sig) : AV → AV
  | .sym k c => σ k c
  | a => a
noncomputable def isSym : AV → Bool
  | .sym _ _ => true
  | _ => false
/-- plain or a letter -/
noncomputable def isImm : AV → Bool
  | .tup _ | .lst _ | .hdr _ | .fix _ => false
  | _ => true
/-- == of plain data within lists and tuples -/
noncomputable def gEq : AV → AV → Option Bool := two (fun a b => some (a == b)) no2 (fun a b => some (Float64.cmpInt a b == some Ordering.eq)) no2 (fun a b => some (eqS a b)) no2
structure TabOK (σ : Sig) (T : Tab) : Prop where
  bin : ∀ op a b c, T.bin op a b = some c → gBin op (cv σ a) (cv σ b) = some (cv σ c)
  cmp : ∀ op a b c, T.cmp op a b = some c → gCmp op (cv σ a) (cv σ b) = some c
  eq : ∀ a b c, T.eq a b = some c → gEq (cv σ a) (cv σ b) = some c
theorem cv_id {σ} {a : AV} (h : isSym a = false) : cv σ a = a := by cases a <;> first | rfl | cases h
theorem VR.of_vi {σ h W c v} (x : VI (cv σ c) v) : VR σ h W c v := by
  cases c with
  | sym k c => exact .sym x
  | _ => exact .imm x
theorem VR.imm_vi {σ h W a v} (x : VR σ h W a v) (hi : isImm a = true) : VI (cv σ a) v := by
  cases x with
  | imm y => cases y <;> constructor
  | sym y => exact y
  | lst => cases hi
  | hdr => cases hi
  | fix => cases hi
  | tup => cases hi
/-- plain data, letters by a table -/
noncomputable def immB {α : Type} (a b : AV) (x y : Option α) : Option α := grd (isImm a && isImm b) (match isSym a || isSym b with
  | true => x
  | false => y)
theorem immB_ok {α : Type} {σ h W} {a b : AV} {va vb : Value} {x y : Option α} {K : α → Prop} {P : Prop} (ra : VR σ h W a va) (rb : VR σ h W b vb) (e : Su (immB a b x y) K)
    (h1 : VI (cv σ a) va → VI (cv σ b) vb → Su x K → P) (h2 : VI a va → VI b vb → Su y K → P) : P := e.grd fun hi e => by
  rw [Bool.and_eq_true] at hi
  cases q : isSym a || isSym b with
  | true => rw [q] at e; exact h1 (ra.imm_vi hi.1) (rb.imm_vi hi.2) e
  | false =>
    rw [q] at e
    rw [Bool.or_eq_false_iff] at q
    exact h2 (cv_id q.1 ▸ ra.imm_vi hi.1) (cv_id q.2 ▸ rb.imm_vi hi.2) e
-- kinds
noncomputable def onInt {β : Type} (a : AV) (F : Int → Option β) : Option β := match a with
  | .int n => F n
  | _ => none
noncomputable def onStr {β : Type} (a : AV) (F : Str → Option β) : Option β := match a with
  | .str x => F x
  | _ => none
noncomputable def onLst {β : Type} (a : AV) (F : Nat → Option β) : Option β := match a with
  | .lst i => F i
  | _ => none
noncomputable def onHdr {β : Type} (a : AV) (F : Nat → Option β) : Option β := match a with
  | .hdr i => F i
  | _ => none
noncomputable def onFix {β : Type} (a : AV) (F : Nat → Option β) : Option β := match a with
  | .fix i => F i
  | _ => none
noncomputable def onTup {β : Type} (a : AV) (F : List AV → Option β) : Option β := match a with
  | .tup l => F l
  | _ => none
/-- two lists, or else -/
noncomputable def onLst2 {β : Type} (a b : AV) (F : Nat → Nat → Option β) (E : Option β) : Option β := match a with
  | .lst i => match b with
    | .lst j => F i j
    | _ => none
  | _ => E
/-- a list, a tuple, a str -/
noncomputable def onSeq {β : Type} (a : AV) (F : Nat → Option β) (G : List AV → Option β) (H : Str → Option β) : Option β := match a with
  | .lst i => F i
  | .tup l => G l
  | .str x => H x
  | _ => none
section
variable {σ : Sig} {h : Heap} {W : Wld} {a b : AV} {v : Value} {β : Type} {K : β → Prop} {P : Prop} {G : Value → Prop}
theorem VR.ints {n} (r : VR σ h W (.int n) v) (f : ∀ t, G (.int n t)) : G v := by cases r with | imm y => cases y; exact f _
theorem VR.strs {x} (r : VR σ h W (.str x) v) (f : ∀ t, G (.str x t)) : G v := by cases r with | imm y => cases y; exact f _
theorem VR.bools {x} (r : VR σ h W (.bool x) v) (f : G (.bool x)) : G v := by cases r with | imm y => cases y; exact f
theorem VR.nones (r : VR σ h W .none v) (f : G .none) : G v := by cases r with | imm y => cases y; exact f
theorem VR.lsts {i} (r : VR σ h W (.lst i) v) (f : ∀ x, W.ρ[i]? = some x → G (.ref x)) : G v := by
  cases r with
  | imm y => cases y
  | lst e => exact f _ e
theorem VR.hdrs {i} (r : VR σ h W (.hdr i) v) (f : ∀ x, W.η[i]? = some x → G (.ref x)) : G v := by
  cases r with
  | imm y => cases y
  | hdr e => exact f _ e
theorem VR.fixs {i} (r : VR σ h W (.fix i) v) (f : G (.ref i)) : G v := by
  cases r with
  | imm y => cases y
  | fix => exact f
theorem VR.tups {l} (r : VR σ h W (.tup l) v) (f : ∀ x vs, h.IsTuple x vs → VRs σ h W l vs.toList → G (.ref x)) : G v := by
  cases r with
  | imm y => cases y
  | tup t rs => exact f _ _ t rs
theorem onInt_ok {F} (k : Su (onInt a F) K) (f : ∀ n, a = .int n → Su (F n) K → P) : P := by cases a with
  | int n => exact f n rfl k
  | _ => exact k.elim
theorem onStr_ok {F} (k : Su (onStr a F) K) (f : ∀ n, a = .str n → Su (F n) K → P) : P := by cases a with
  | str n => exact f n rfl k
  | _ => exact k.elim
theorem onLst_ok {F} (k : Su (onLst a F) K) (f : ∀ n, a = .lst n → Su (F n) K → P) : P := by cases a with
  | lst n => exact f n rfl k
  | _ => exact k.elim
theorem onHdr_ok {F} (k : Su (onHdr a F) K) (f : ∀ n, a = .hdr n → Su (F n) K → P) : P := by cases a with
  | hdr n => exact f n rfl k
  | _ => exact k.elim
theorem onFix_ok {F} (k : Su (onFix a F) K) (f : ∀ n, a = .fix n → Su (F n) K → P) : P := by cases a with
  | fix n => exact f n rfl k
  | _ => exact k.elim
theorem onTup_ok {F} (k : Su (onTup a F) K) (f : ∀ n, a = .tup n → Su (F n) K → P) : P := by cases a with
  | tup n => exact f n rfl k
  | _ => exact k.elim
theorem onLst2_ok {F E} (k : Su (onLst2 a b F E) K) (f : ∀ i j, a = .lst i → b = .lst j → Su (F i j) K → P) (g : Su E K → P) : P := by cases a with
  | lst i => cases b with
    | lst j => exact f i j rfl rfl k
    | _ => exact k.elim
  | _ => exact g k
theorem onSeq_ok {F I H} (k : Su (onSeq a F I H) K) (f1 : ∀ i, a = .lst i → Su (F i) K → P) (f2 : ∀ l, a = .tup l → Su (I l) K → P) (f3 : ∀ x, a = .str x → Su (H x) K → P) : P := by cases a with
  | lst i => exact f1 i rfl k
  | tup l => exact f2 l rfl k
  | str x => exact f3 x rfl k
  | _ => exact k.elim
theorem VR.onInt {F} (r : VR σ h W a v) (k : Su (Mine.onInt a F) K) (f : ∀ n t, Su (F n) K → G (.int n t)) : G v := onInt_ok k fun n e k => (e ▸ r : VR σ h W (.int n) v).ints fun t => f n t k
theorem VR.onStr {F} (r : VR σ h W a v) (k : Su (Mine.onStr a F) K) (f : ∀ n t, Su (F n) K → G (.str n t)) : G v := onStr_ok k fun n e k => (e ▸ r : VR σ h W (.str n) v).strs fun t => f n t k
theorem VRs.append : ∀ {l : List AV} {vs : List Value} {l' : List AV} {vs' : List Value}, VRs σ h W l vs → VRs σ h W l' vs' → VRs σ h W (l ++ l') (vs ++ vs')
  | _, _, _, _, .nil, y => y
  | _, _, _, _, .cons a x, y => .cons a (x.append y)
theorem VRs.length : ∀ {l : List AV} {vs : List Value}, VRs σ h W l vs → l.length = vs.length
  | _, _, .nil => rfl
  | _, _, .cons a x => congrArg Nat.succ x.length
theorem VRs.get : ∀ {l : List AV} {vs : List Value} {i : Nat} {x : AV}, VRs σ h W l vs → l[i]? = some x → ∃ v, vs[i]? = some v ∧ VR σ h W x v
  | _, _, 0, _, .cons a r, e => ⟨_, rfl, (Option.some.inj e) ▸ a⟩
  | _, _, i + 1, _, .cons a r, e => r.get (i := i) (by rwa [List.getElem?_cons_succ] at e)
end
end
end Mine
end

section
open PySem PySem.W PyProof.Rows
namespace Mine
noncomputable section
/-- the binary operators, over lists too -/
noncomputable def opf (T : Tab) (op : Operator) (a b : AV) (V : VH) : Option (AV × VH) := onLst2 a b
  (fun i j => match op with
    | .Add => bnd (V.get i) fun xs => bnd (V.get j) fun ys => grd (smallL xs && smallL ys) (some (.lst V.n, V.add (appR xs ys)))
    | _ => none)
  (bnd (immB a b (T.bin op a b) (gBin op a b)) fun c => some (c, V))
noncomputable def binE (T : Tab) (op : Operator) (φ ψ : φE) : φE := fun ev V => bndO (φ ev V) fun a V => bndO (ψ ev V) fun b V => opf T op a b V
/-- an item by its place -/
noncomputable def pick (xs : List AV) : Int → Option AV
  | .ofNat n => grd (Nat.blt n 1000000000) (getF xs n)
  | .negSucc n => grd (Nat.blt n 999999999 && Nat.blt n (lenR xs)) (getF xs (lenR xs - (n + 1)))
noncomputable def pickS (s : Str) : Int → Option AV
  | .ofNat n => grd (Nat.blt n 1000000000) (bnd (getF s.cps.toList n) fun c => forceN c fun c => some (.str ⟨⟨[c]⟩⟩))
  | .negSucc n => none
noncomputable def idxf (a b : AV) (V : VH) : Option AV := onInt b fun k => onSeq a (fun i => bnd (V.get i) fun xs => pick xs k) (fun l => pick l k) (fun s => pickS s k)
noncomputable def idxE (φ ψ : φE) : φE := fun ev V => bndO (φ ev V) fun a V => bndO (ψ ev V) fun b V => bnd (idxf a b V) fun c => some (c, V)
section
variable {X : Wd} {d : Nat} {sc : Scope} {sl : List Str} {T : Tab} {A : Around} {s : Shared} {W : Wld} {V : VH}
/-- a list of the ledger -/
theorem HRel.at_ {h i xs a} {P : Prop} (H : HRel X h W V) (r : W.ρ[i]? = some a) (e : V.get i = some xs) (k : ∀ vs, LsAt h a vs → VRs X.σ h W xs vs.toList → xs.length = vs.size → P) : P := by
  obtain ⟨a', vs, g1, l1, r1⟩ := H.ls i xs e
  rw [r] at g1
  cases g1
  exact k vs l1 r1 (by rw [r1.length, Array.length_toList])
theorem opf_ok (TO : TabOK X.σ T) {op a b va vb Q} (z : At0 X d A s W V) (ra : VR X.σ s.heap W a va) (rb : VR X.σ s.heap W b vb) (e : Su (opf T op a b V) (PostE X s W Q)) : wpAny X.M A (binaryOp op va vb) Q NoE s :=
  onLst2_ok e
    (fun i j ea eb e => by
      subst ea eb
      cases op with
      | Add =>
        refine e.bnde fun xs e1 e => e.bnde fun ys e2 e => e.grd fun hs e => ?_
        rw [Bool.and_eq_true] at hs
        have z1 := smallL_le hs.1
        have z2 := smallL_le hs.2
        refine ra.lsts (G := fun va => wpAny X.M A (binaryOp .Add va vb) Q NoE s) fun a ha => rb.lsts (G := fun vb => wpAny X.M A (binaryOp .Add (.ref a) vb) Q NoE s) fun b hb => ?_
        refine z.H.at_ ha e1 fun vs l1 r1 y1 => z.H.at_ hb e2 fun us l2 r2 y2 => ?_
        obtain ⟨n1, o1⟩ := l1
        obtain ⟨n2, o2⟩ := l2
        refine PySem.P.add_list o1 o2 ?_ (by rw [sizeLine_eq]; omega)
        have k := z.H.alloc (r1.append r2)
        rw [show (vs.toList ++ us.toList).toArray = vs ++ us by simp] at k
        rw [appR_eq] at e
        exact e _ s.toks _ _ ⟨step_alloc, k, z.tk⟩ z.H.last
      | _ => exact e.elim)
    fun e => wpT z.tk (immB_ok ra rb (K := fun c => PostE X s W Q (c, V)) (e.bnd fun c e => e)
      (fun ia ib e => e.ex fun c e1 e => gBin_ok ia ib (Su.of (TO.bin _ _ _ _ e1) fun tk val x hp => e.here z.H (.of_vi x) hp))
      fun ia ib e => gBin_ok ia ib (e.mono fun c e tk val x hp => PostE.here e z.H (.imm x) hp))
theorem sound_bin (TO : TabOK X.σ T) {l op r pos φ ψ} (hl : SoundE X d sc sl l φ) (hr : SoundE X d sc sl r ψ) : SoundE X d sc sl (.BinOp l op r pos) (binE T op φ ψ) := fun z P =>
  wpAny_BinOp (hl z (P.bndO fun a V P h1 tk1 W1 va g1 ra => hr (z.go g1) (P.bndO fun b V P h2 tk2 W2 vb g2 rb =>
    opf_ok TO ((z.go g1).go g2).toAt0 (ra.go (z.go g1).toAt0 g2) rb (P.mono fun r P => (PostE.after P g1).after g2))))
-- items
theorem pick_spec {xs : List AV} {k : Int} {x : AV} (e : pick xs k = some x) : -(2 ^ 62) < k ∧ k < 2 ^ 62 ∧ ((0 ≤ k ∧ xs[k.toNat]? = some x) ∨ (k < 0 ∧ -(xs.length : Int) ≤ k ∧ xs[(k + xs.length).toNat]? = some x)) := by
  have G : ∀ {c : Bool} {o : Option AV}, grd c o = some x → c = true ∧ o = some x := fun {c o} e => by
    cases c with
    | true => exact ⟨rfl, e⟩
    | false => cases e
  cases k with
  | ofNat n =>
    obtain ⟨h, e⟩ := G (show grd (Nat.blt n 1000000000) (getF xs n) = some x from e)
    rw [getF_eq] at e
    have := Nat.blt_eq.mp h
    exact ⟨by show -(2 ^ 62) < (n : Int); omega, by show (n : Int) < 2 ^ 62; omega, .inl ⟨Int.natCast_nonneg n, e⟩⟩
  | negSucc n =>
    obtain ⟨h, e⟩ := G (show grd (Nat.blt n 999999999 && Nat.blt n (lenR xs)) (getF xs (lenR xs - (n + 1))) = some x from e)
    rw [getF_eq, lenR_eq] at e
    rw [Bool.and_eq_true, lenR_eq] at h
    have h1 := Nat.blt_eq.mp h.1
    have h2 := Nat.blt_eq.mp h.2
    exact ⟨by omega, by omega, .inr ⟨Int.negSucc_lt_zero n, by omega, by rw [show (Int.negSucc n + (xs.length : Int)).toNat = xs.length - (n + 1) by omega]; exact e⟩⟩
theorem seqIndex_of {k : Int} {n j : Nat} (h : (0 ≤ k ∧ j = k.toNat ∧ j < n) ∨ (k < 0 ∧ -(n : Int) ≤ k ∧ j = (k + n).toNat)) : seqIndex? k n = some j := by
  unfold seqIndex?
  rcases h with ⟨h1, h2, h3⟩ | ⟨h1, h2, h3⟩
  · have e1 : ¬ k < 0 := by omega
    simp only [e1, if_false]
    rw [if_pos] <;> first | (congr 1; omega) | (simp only [Bool.and_eq_true, decide_eq_true_eq]; omega) | omega
  · simp only [h1, if_true]
    rw [if_pos] <;> first | (congr 1; omega) | (simp only [Bool.and_eq_true, decide_eq_true_eq]; omega) | omega
noncomputable abbrev IsSeq (s : Shared) (v : Value) : Prop := ∃ T, s.TypeIs v T ∧ (T = "list" ∨ T = "tuple" ∨ T = "str")
theorem isTup_of {h : Heap} {a vs} (x : h.IsTuple a vs) : IsTup h a vs := let ⟨o, ho, hc, n, hd⟩ := x; ⟨o, ho, hc, n, hd⟩
theorem idxf_ok {a b va vb Q} (z : At0 X d A s W V) (ra : VR X.σ s.heap W a va) (rb : VR X.σ s.heap W b vb) (e : Su (idxf a b V) fun c => PostE X s W Q (c, V)) : IsSeq s va ∧ wpAny X.M A (getItem va vb) Q NoE s :=
  rb.onInt (G := fun vb => IsSeq s va ∧ wpAny X.M A (getItem va vb) Q NoE s) e fun k t e => onSeq_ok e
    (fun i q e => by
      subst q
      refine ra.lsts (G := fun va => IsSeq s va ∧ wpAny X.M A (getItem va (.int k t)) Q NoE s) fun a ha => e.bnde fun xs e1 e => z.H.at_ ha e1 fun vs l1 r1 y => e.ex fun x e2 P => ⟨⟨"list", l1.isList.typeIs, .inl rfl⟩, ?_⟩
      obtain ⟨p1, p2, ⟨p3, p4⟩ | ⟨p3, p5, p4⟩⟩ := pick_spec e2
      · obtain ⟨v, hv, rv⟩ := r1.get p4
        exact wpAny_getItem_list l1.isList p3 (by omega) (by simpa using hv) (PostE.here P z.H rv z.tk)
      · obtain ⟨v, hv, rv⟩ := r1.get p4
        exact wpAny_getItem_list_neg l1.isList p3 (by omega) (by omega) (by rw [y] at hv; simpa using hv) (PostE.here P z.H rv z.tk))
    (fun l q e => by
      subst q
      refine ra.tups (G := fun va => IsSeq s va ∧ wpAny X.M A (getItem va (.int k t)) Q NoE s) fun a vs ht r1 => e.ex fun x e2 P => ⟨⟨"tuple", ht.typeIs, .inr (.inl rfl)⟩, ?_⟩
      have y : l.length = vs.size := by rw [r1.length, Array.length_toList]
      obtain ⟨p1, p2, ⟨p3, p4⟩ | ⟨p3, p5, p4⟩⟩ := pick_spec e2
      · obtain ⟨v, hv, rv⟩ := r1.get p4
        have hlt := (List.getElem?_eq_some_iff.mp p4).1
        exact PyProof.Rows.getItem_tuple (isTup_of ht) (by omega) (by omega) (seqIndex_of (.inl ⟨p3, rfl, by omega⟩)) (by simpa using hv) (PostE.here P z.H rv z.tk)
      · obtain ⟨v, hv, rv⟩ := r1.get p4
        exact PyProof.Rows.getItem_tuple (isTup_of ht) (by omega) (by omega) (seqIndex_of (.inr ⟨p3, by omega, rfl⟩)) (by rw [← y]; simpa using hv) (PostE.here P z.H rv z.tk))
    (fun x q e => by
      subst q
      refine ra.strs (G := fun va => IsSeq s va ∧ wpAny X.M A (getItem va (.int k t)) Q NoE s) fun u => ⟨⟨"str", rfl, .inr (.inr rfl)⟩, ?_⟩
      cases k with
      | negSucc n => exact e.elim
      | ofNat n =>
        refine e.grd fun hn e => e.bnde fun c hc e => ?_
        rw [forceN_eq] at e
        rw [getF_eq] at hc
        have hn := Nat.blt_eq.mp hn
        have hlt := (List.getElem?_eq_some_iff.mp hc).1
        refine wpT z.tk (PySem.P.getItem_str ?_ (c := c) ?_ fun hp => PostE.here e z.H (.imm (.str _ _)) hp)
        · simp only [Bool.or_eq_false_iff, decide_eq_false_iff_not]
          have : (Int.ofNat n) = (n : Int) := rfl
          constructor <;> omega
        · rw [seqIndex_of (k := Int.ofNat n) (n := x.length) (j := n) (.inl ⟨Int.natCast_nonneg n, rfl, by simpa [PySem.Str.length] using hlt⟩)]
          show x.cps[n]? = some c
          rw [← Array.getElem?_toList]; exact hc)
theorem wp_subscript {f : Value → Value → List Value} {env : Env} {value slice : Expr} {pos : Pos} {Q : Value → Shared → Prop} (hs : ∀ o i, subscripted slice false o i = operate (f o i) (getItem o i))
    (h : wpAny X.M A (eval value env) (fun o s₁ => wpAny X.M A (eval slice env) (fun i s₂ => IsSeq s₂ o ∧ wpAny X.M A (getItem o i) Q NoE s₂) NoE s₁) NoE s) : wpAny X.M A (eval (.Subscript value slice pos) env) Q NoE s := by
  rw [eval_Subscript]
  refine wpAny_bind (wpAny_mono h (fun o s₁ h₁ => wpAny_bind (wpAny_holding (wpAny_mono h₁ (fun i s₂ h₂ => wpAny_bind (wpAny_standAt ?_)) fun _ _ x => x))) fun _ _ x => x)
  obtain ⟨⟨T, hT, hc⟩, hg⟩ := h₂
  obtain ⟨id, hl⟩ : ∃ id, typeLookup (.type T) (Str.ofString "__getitem__") = pure (some (.builtin id)) := by
    rcases hc with rfl | rfl | rfl
    · exact ⟨_, slot_list_getitem.lookup⟩
    · exact ⟨_, F.slot_tuple_getitem.lookup⟩
    · exact ⟨_, F.slot_str_getitem.lookup⟩
  refine wpAny_bind ?_
  rw [getitemInPython_of_ne hT.not_modules]
  refine wpAny_bind (wpAny_specialOf hT hl ?_)
  have fin : wpAny X.M A (operate (f o i) (getItem o i)) (fun r s₃ => wpAny X.M A (letTemporaryGo value o r >>= fun _ => pure r) Q NoE s₃) NoE s₂ :=
    wpAny_operating (wpAny_mono hg (fun r s₃ h₃ => wpAny_bind (wpAny_letTemporaryGo (wpAny_pure h₃))) fun _ _ x => x)
  rw [← hs o i] at fin
  exact wpAny_pure (wpAny_bind fin)
theorem sound_idx {v i pos φ ψ} (hs : ∀ o j, subscripted i false o j = operate [o, j] (getItem o j)) (hv : SoundE X d sc sl v φ) (hi : SoundE X d sc sl i ψ) : SoundE X d sc sl (.Subscript v i pos) (idxE φ ψ) := fun z P =>
  wp_subscript (f := fun o j => [o, j]) hs (hv z (P.bndO fun a V P h1 tk1 W1 va g1 ra => hi (z.go g1) (P.bndO fun b V P h2 tk2 W2 vb g2 rb =>
    idxf_ok ((z.go g1).go g2).toAt0 (ra.go (z.go g1).toAt0 g2) rb (P.bnd fun c P => (PostE.after P g1).after g2))))
end
end
end Mine
end

section
open PySem PySem.W PyProof.Rows PySem.SeqAt
namespace Mine
noncomputable section
/-- the rows of ints: is one in it -/
noncomputable def inInts (k : Int) (l : List AV) : Option Bool := List.rec (motive := fun _ => Option Bool) (some false) (fun a _ ih => onInt a fun n => bnd ih fun b => some (n == k || b)) l
noncomputable def eqI (T : Tab) (a b : AV) : Option Bool := immB a b (T.eq a b) (gEq a b)
noncomputable def eqAll (f : AV → AV → Option Bool) (l : List AV) : List AV → Option Bool := List.rec (motive := fun _ => List AV → Option Bool) (fun r => match r with
  | [] => some true
  | _ :: _ => none) (fun a _ ih r => match r with
  | b :: r => bnd (f a b) fun x => bnd (ih r) fun y => some (x && y)
  | [] => none) l
noncomputable def eqLL (T : Tab) (V : VH) (i j : Nat) : Option Bool := grd (!Nat.beq i j) (bnd (V.get i) fun xs => bnd (V.get j) fun ys => match Nat.beq (lenR xs) (lenR ys) with
  | true => eqAll (eqI T) xs ys
  | false => some false)
noncomputable def eqL (T : Tab) (V : VH) (a b : AV) : Option Bool := onLst2 a b (eqLL T V) (eqI T a b)
noncomputable def isNoneV : AV → Bool
  | .none => true
  | _ => false
noncomputable def onNone {β : Type} (b : AV) (x : Option β) : Option β := match b with
  | .none => x
  | _ => none
noncomputable def onTup2 {β : Type} (a b : AV) (F : List AV → List AV → Option β) (E : Option β) : Option β := match a with
  | .tup l => match b with
    | .tup r => F l r
    | _ => none
  | _ => E
noncomputable def cmpI (T : Tab) (op : CmpOp) (a b : AV) : Option Bool := immB a b (T.cmp op a b) (gCmp op a b)
noncomputable def cmpf (T : Tab) (op : CmpOp) (a b : AV) (V : VH) : Option Bool := match op with
  | .Is => onNone b (grd (!isSym a) (some (isNoneV a)))
  | .IsNot => onNone b (grd (!isSym a) (some (!isNoneV a)))
  | .In => onInt a fun k => onLst b fun i => bnd (V.get i) fun xs => inInts k xs
  | .Eq => onLst2 a b (eqLL T V) (cmpI T .Eq a b)
  | .NotEq => onLst2 a b (fun i j => bnd (eqLL T V i j) fun c => some (!c)) (onTup2 a b (fun l r => grd (Nat.beq (lenR l) (lenR r)) (bnd (eqAll (eqL T V) l r) fun c => some (!c))) (cmpI T .NotEq a b))
  | .Lt => cmpI T .Lt a b
  | .Gt => cmpI T .Gt a b
  | .LtE => cmpI T .LtE a b
  | .GtE => cmpI T .GtE a b
  | .NotIn => cmpI T .NotIn a b
noncomputable def cmpE (T : Tab) (op : CmpOp) (φ ψ : φE) : φE := fun ev V => bndO (φ ev V) fun a V => bndO (ψ ev V) fun b V => bnd (cmpf T op a b V) fun c => some (.bool c, V)
noncomputable def cmpT (T : Tab) (op : CmpOp) (φ ψ : φE) : φT := fun ev V => bndO (φ ev V) fun a V => bndO (ψ ev V) fun b V => bnd (cmpf T op a b V) fun c => some (c, V)
section
variable {X : Wd} {d : Nat} {sc : Scope} {sl : List Str} {T : Tab} {A : Around} {s : Shared} {W : Wld} {V : VH} {P : Prop}
noncomputable def isK (k : Int) : Value → Bool
  | .int i _ => i == k
  | _ => false
theorem inInts_ok {k} : ∀ {xs : List AV} {vs : List Value} {b : Bool}, VRs X.σ s.heap W xs vs → inInts k xs = some b → (∀ v ∈ vs, ∃ a t, v = .int a t) ∧ vs.any (isK k) = b
  | [], _, b, .nil, e => by cases e; exact ⟨fun _ hv => (nomatch hv), rfl⟩
  | a :: r, _, b, .cons (v := va) (r := vs) ra rr, e => by
    change onInt a (fun n => bnd (inInts k r) fun b => some (n == k || b)) = some b at e
    refine onInt_ok (Su.of e rfl : Su _ (· = b)) fun n q e3 => e3.bnde fun b' e' e4 => ?_
    clear e e3
    subst q
    obtain ⟨h1, h2⟩ := inInts_ok rr e'
    refine ra.ints (G := fun va => (∀ v ∈ va :: vs, ∃ a t, v = .int a t) ∧ (va :: vs).any (isK k) = b) fun t => ⟨fun v hv => (List.mem_cons.mp hv).elim (fun q => ⟨_, _, q⟩) (h1 v), ?_⟩
    rw [List.any_cons, h2]; exact e4
theorem gEq_at {a b va vb c} (ra : VI a va) (rb : VI b vb) (e : gEq a b = some c) : EqAt A s va vb c :=
  two_vi (G := fun va vb => EqAt A s va vb c) ra rb (Su.of e rfl : Su (gEq a b) (· = c)) (fun _ _ _ _ (e : _ = c) => e ▸ EqAt.int_int _ _ _ _) (fun _ _ _ _ e => e.elim)
    (fun x y t u (e : _ = c) => e ▸ fun prog w E Q h => by
      unfold eqBool
      refine wpAny_holding (wpAny_ite_split (fun hab => ?_) fun _ => wpAny_bind (PyProof.Rows.eq_fi (wpAny_truthy_bool h)))
      have := eq_of_beq hab; cases this)
    (fun _ _ _ _ e => e.elim) (fun x y _ _ (e : _ = c) => e ▸ eqS_eq ▸ EqAt.str_str _ _ _ _) (fun _ _ _ _ e => e.elim)
theorem eqI_at (TO : TabOK X.σ T) {a b va vb c} (ra : VR X.σ s.heap W a va) (rb : VR X.σ s.heap W b vb) (e : eqI T a b = some c) : EqAt A s va vb c :=
  immB_ok ra rb (Su.of e rfl : Su (eqI T a b) (· = c)) (fun ia ib e => e.ex fun r e q => gEq_at ia ib (q ▸ TO.eq _ _ _ e)) fun ia ib e => e.ex fun r e q => gEq_at ia ib (q ▸ e)
theorem eqAll_at {f : AV → AV → Option Bool} (hf : ∀ {a b va vb c}, VR X.σ s.heap W a va → VR X.σ s.heap W b vb → f a b = some c → EqAt A s va vb c) :
    ∀ {l r : List AV} {vs us : List Value} {c : Bool}, VRs X.σ s.heap W l vs → VRs X.σ s.heap W r us → eqAll f l r = some c →
      ∃ e : Nat → Bool, (∀ j (h1 : j < vs.length) (h2 : j < us.length), EqAt A s vs[j] us[j] (e j)) ∧ (List.range vs.length).all e = c
  | [], [], _, _, c, .nil, .nil, e => by cases e; exact ⟨fun _ => true, fun j h1 => absurd h1 (Nat.not_lt_zero _), rfl⟩
  | a :: l, b :: r, _, _, c, .cons (v := va) (r := vs) ra rl, .cons (v := vb) (r := us) rb rr, e => by
    change bnd (f a b) (fun x => bnd (eqAll f l r) fun y => some (x && y)) = some c at e
    refine Su.bnde (Su.of e rfl : Su _ (· = c)) fun x e1 e => e.bnde fun y e2 e => ?_
    obtain ⟨e', h1, h2⟩ := eqAll_at hf rl rr e2
    refine ⟨fun j => match j with | 0 => x | j + 1 => e' j, fun j h1' h2' => ?_, ?_⟩
    · cases j with
      | zero => exact hf ra rb e1
      | succ j => exact h1 j (by simpa using h1') (by simpa using h2')
    · rw [List.length_cons, List.range_succ_eq_map, List.all_cons, List.all_map]
      have : (List.range vs.length).all ((fun j => match j with | 0 => x | j + 1 => e' j) ∘ Nat.succ) = y := h2
      rw [this]; exact e
  | [], _ :: _, _, _, _, _, _, e => nomatch e
  | _ :: _, [], _, _, _, _, _, e => nomatch e
theorem eqAll_arr {f : AV → AV → Option Bool} (hf : ∀ {a b va vb c}, VR X.σ s.heap W a va → VR X.σ s.heap W b vb → f a b = some c → EqAt A s va vb c) {l r : List AV} {vs us : Array Value} {c : Bool} (rl : VRs X.σ s.heap W l vs.toList) (rr : VRs X.σ s.heap W r us.toList) (e : eqAll f l r = some c) :
    ∃ e : Nat → Bool, (∀ j (h1 : j < vs.size) (h2 : j < us.size), EqAt A s vs[j] us[j] (e j)) ∧ (List.range vs.size).all e = c := by
  obtain ⟨g, h1, h2⟩ := eqAll_at hf rl rr e
  exact ⟨g, fun j q1 q2 => by rw [← Array.getElem_toList, ← Array.getElem_toList]; exact h1 j (by simpa using q1) (by simpa using q2), by rwa [Array.length_toList] at h2⟩
theorem lists_at (TO : TabOK X.σ T) {i j a b c} (H : HRel X s.heap W V) (ra : W.ρ[i]? = some a) (rb : W.ρ[j]? = some b) (hu : A.units < cLine) (e : eqLL T V i j = some c) :
    a ≠ b ∧ RcAt A s (.ref a) (.ref b) c ∧ RcNeAt A s (.ref a) (.ref b) (!c) :=
  Su.grd (Su.of e rfl : Su _ (· = c)) fun hne e => by
    refine ⟨fun q => ?_, e.bnde fun xs e1 e => e.bnde fun ys e2 e => H.at_ ra e1 fun vs l1 r1 y1 => H.at_ rb e2 fun us l2 r2 y2 => ?_⟩
    · subst q
      have l1 := List.getElem?_eq_some_iff.mp ra
      have l2 := List.getElem?_eq_some_iff.mp rb
      rw [(List.getElem_inj H.nodup).mp (l1.2.trans l2.2.symm), Nat.beq_refl] at hne
      cases hne
    · cases q : Nat.beq (lenR xs) (lenR ys) with
      | true =>
        rw [q] at e
        have hl := Nat.eq_of_beq_eq_true q
        rw [lenR_eq, lenR_eq] at hl
        obtain ⟨g, h1, h2⟩ := eqAll_arr (A := A.in1) (fun ra rb e => eqI_at TO ra rb e) r1 r2 (e.ex fun r e q => q ▸ e : eqAll (eqI T) xs ys = some c)
        rw [← h2]
        exact ⟨RcAt.lists l1.isList l2.isList (by omega) hu h1, RcNeAt.lists l1.isList l2.isList (by omega) hu h1⟩
      | false =>
        rw [q] at e
        have hl := Nat.ne_of_beq_eq_false q
        rw [lenR_eq, lenR_eq] at hl
        have e' : false = c := e
        subst e'
        have hsz : (vs.size != us.size) = true := by rw [bne_iff_ne]; omega
        exact ⟨RcAt.lists_lengths l1.isList l2.isList hsz hu, RcNeAt.lists_lengths l1.isList l2.isList hsz hu⟩
theorem eqL_at (TO : TabOK X.σ T) {a b va vb c} (H : HRel X s.heap W V) (ra : VR X.σ s.heap W a va) (rb : VR X.σ s.heap W b vb) (hu : A.units < cLine) (e : eqL T V a b = some c) : EqAt A s va vb c :=
  onLst2_ok (Su.of e rfl : Su (eqL T V a b) (· = c))
    (fun i j ea eb e => e.ex fun r e q => by
      subst ea eb q
      refine ra.lsts (G := fun va => EqAt A s va vb r) fun x hx => rb.lsts (G := fun vb => EqAt A s (.ref x) vb r) fun y hy => ?_
      obtain ⟨h3, h4, _⟩ := lists_at TO H hx hy hu e
      exact EqAt.of_refs h3 h4)
    fun e => e.ex fun r e q => eqI_at TO ra rb (q ▸ e)
theorem VR.not_none {h W a v} (ra : VR X.σ h W a v) (hs : isSym a = false) : (v == Value.none) = isNoneV a := by
  cases ra with
  | imm x => cases x <;> rfl
  | sym x => cases hs
  | lst x => rfl
  | hdr x => rfl
  | fix => rfl
  | tup x y => rfl
theorem VR.plain_is {h W a v} (ra : VR X.σ h W a v) (hs : isSym a = false) (hn : isNoneV a = false) : PySem.plainIs v .none = true := by
  cases ra with
  | imm x => cases x <;> first | rfl | cases hn
  | sym x => cases hs
  | lst x => rfl
  | hdr x => rfl
  | fix => rfl
  | tup x y => rfl
theorem onNone_ok {β : Type} {b : AV} {x : Option β} {K : β → Prop} (k : Su (onNone b x) K) (f : b = .none → Su x K → P) : P := by cases b with
  | none => exact f rfl k
  | _ => exact k.elim
theorem onTup2_ok {β : Type} {a b : AV} {F : List AV → List AV → Option β} {E : Option β} {K : β → Prop} (k : Su (onTup2 a b F E) K) (f : ∀ l r, a = .tup l → b = .tup r → Su (F l r) K → P) (g : Su E K → P) : P := by cases a with
  | tup l => cases b with
    | tup r => exact f l r rfl rfl k
    | _ => exact k.elim
  | _ => exact g k
theorem cmpf_ok (TO : TabOK X.σ T) {op a b va vb Q} (hu : A.units + 1 < cLine) (z : At0 X d A s W V) (ra : VR X.σ s.heap W a va) (rb : VR X.σ s.heap W b vb)
    (e : Su (cmpf T op a b V) fun c => PostE X s W Q (.bool c, V)) : wpAny X.M A (compareOp op va vb) Q NoE s := by
  have B : ∀ {c}, PostE X s W Q (.bool c, V) → Q (.bool c) s := fun P => PostE.here P z.H (.imm (.bool _)) z.tk
  have I : ∀ {op}, Su (cmpI T op a b) (fun c => PostE X s W Q (.bool c, V)) → wpAny X.M A (compareOp op va vb) Q NoE s := fun e =>
    immB_ok ra rb e (fun ia ib e => e.ex fun c e P => gCmp_ok ia ib (Su.of (TO.cmp _ _ _ _ e) (B P))) fun ia ib e => gCmp_ok ia ib (e.mono fun c P => B P)
  cases op with
  | Is =>
    refine onNone_ok e fun q e1 => e1.grd fun hs e2 => ?_
    subst q
    refine rb.nones (G := fun vb => wpAny X.M A (compareOp .Is va vb) Q NoE s) (PySem.is_none ?_)
    rw [ra.not_none (by simpa using hs)]
    exact B e2
  | IsNot =>
    refine onNone_ok e fun q e1 => e1.grd fun hs e2 => ?_
    subst q
    refine rb.nones (G := fun vb => wpAny X.M A (compareOp .IsNot va vb) Q NoE s) ?_
    have hq := ra.not_none (by simpa using hs)
    have k : Q (.bool (!isNoneV a)) s := B e2
    cases h : isNoneV a with
    | true =>
      rw [h] at hq k
      rw [eq_of_beq hq]
      exact wpAny_isNot_self rfl k
    | false =>
      rw [h] at hq k
      exact wpAny_isNot_other (ra.plain_is (by simpa using hs) h) (fun q => by rw [q] at hq; cases hq) k
  | In =>
    refine ra.onInt (G := fun va => wpAny X.M A (compareOp .In va vb) Q NoE s) e fun k t e => onLst_ok e fun i q e => e.bnde fun xs e1 e => e.ex fun c e2 P => ?_
    subst q
    refine rb.lsts (G := fun vb => wpAny X.M A (compareOp .In (.int k t) vb) Q NoE s) fun x hx => z.H.at_ hx e1 fun vs l1 r1 _ => ?_
    obtain ⟨i1, i2⟩ := inInts_ok r1 e2
    refine PySem.SeqInW.in_listW (isK k) (fun y hy => ?_) l1.isList ?_
    · obtain ⟨a, u, rfl⟩ := i1 y (Array.mem_toList_iff.mpr hy)
      exact PySem.MeetsSeq.EqGives.int _ _ _ _
    · rw [← Array.any_toList, i2]
      exact B P
  | Eq =>
    refine onLst2_ok e (fun i j ea eb e1 => e1.ex fun c e2 P => ?_) I
    subst ea eb
    refine ra.lsts (G := fun va => wpAny X.M A (compareOp .Eq va vb) Q NoE s) fun x hx => rb.lsts (G := fun vb => wpAny X.M A (compareOp .Eq (.ref x) vb) Q NoE s) fun y hy => ?_
    exact (lists_at TO z.H hx hy (A := A) (by omega) e2).2.1 X.prog X.w NoE Q (B P)
  | NotEq =>
    refine onLst2_ok e (fun i j ea eb e1 => e1.bnde fun c e2 P => ?_) fun e0 => onTup2_ok e0 (fun l r ea eb e1 => e1.grd fun hl e3 => e3.bnde fun c e2 P => ?_) I
    · subst ea eb
      refine ra.lsts (G := fun va => wpAny X.M A (compareOp .NotEq va vb) Q NoE s) fun x hx => rb.lsts (G := fun vb => wpAny X.M A (compareOp .NotEq (.ref x) vb) Q NoE s) fun y hy => ?_
      exact (lists_at TO z.H hx hy (A := A) (by omega) e2).2.2 X.prog X.w NoE Q (B P)
    · subst ea eb
      refine ra.tups (G := fun va => wpAny X.M A (compareOp .NotEq va vb) Q NoE s) fun x vs t1 r1 => rb.tups (G := fun vb => wpAny X.M A (compareOp .NotEq (.ref x) vb) Q NoE s) fun y us t2 r2 => ?_
      have hlen := Nat.eq_of_beq_eq_true hl
      rw [lenR_eq, lenR_eq, r1.length, r2.length, Array.length_toList, Array.length_toList] at hlen
      obtain ⟨g, h1, h2⟩ := eqAll_arr (A := A.in1) (fun ra rb e => eqL_at TO z.H ra rb (by exact hu) e) r1 r2 e2
      have k := PySem.SeqAt.RcNeAt.tuples t1 t2 (by omega) h1
      rw [show min vs.size us.size = vs.size by omega, h2, hlen, beq_self_eq_true, Bool.and_true] at k
      exact k X.prog X.w NoE Q (B P)
  | Lt => exact I e
  | Gt => exact I e
  | LtE => exact I e
  | GtE => exact I e
  | NotIn => exact I e
theorem sound_cmp (TO : TabOK X.σ T) {l op r pos φ ψ} (hm : behindInMarks op r = false) (hl : SoundE X d sc sl l φ) (hr : SoundE X d sc sl r ψ) : SoundE X d sc sl (.Compare l [op] [r] pos) (cmpE T op φ ψ) := fun z P =>
  wpAny_Compare1 (hl z (P.bndO fun a V P h1 tk1 W1 va g1 ra => hr (z.go g1) (P.bndO fun b V P h2 tk2 W2 vb g2 rb =>
    cmpf_ok TO z.rm.u1 ((z.go g1).go g2).toAt0 (ra.go (z.go g1).toAt0 g2) rb (P.bnd fun c P => (PostE.after P g1).after g2)))) hm
theorem sound_cmpT (TO : TabOK X.σ T) {l op r pos φ ψ} (hm : behindInMarks op r = false) (hl : SoundE X d sc sl l φ) (hr : SoundE X d sc sl r ψ) : SoundT X d sc sl (.Compare l [op] [r] pos) (cmpT T op φ ψ) := fun z P =>
  wpAny_isTrue_Compare1 (hl z (P.bndO fun a V P h1 tk1 W1 va g1 ra => hr (z.go g1) (P.bndO fun b V P h2 tk2 W2 vb g2 rb =>
    cmpf_ok TO z.rm.u1 ((z.go g1).go g2).toAt0 (ra.go (z.go g1).toAt0 g2) rb (P.bnd fun c P h3 tk3 W3 vc g3 rc => rc.bools (G := fun vc => wpAny X.M _ (truthy vc) _ _ _) (wpAny_truthy_bool (((PostT.after P g1).after g2) h3 tk3 W3 g3)))))) hm
end
end
end Mine
end

section
open PySem PySem.W PyProof.Rows
namespace Mine
noncomputable section
noncomputable abbrev φA := AV → EV → VH → Option (EV × VH)
noncomputable abbrev φAs := List AV → EV → VH → Option (EV × VH)
-- rows
noncomputable def nilEs : φEs := fun _ V => some ([], V)
noncomputable def consEs (φ : φE) (ψ : φEs) : φEs := fun ev V => bndO (φ ev V) fun a V => bndO (ψ ev V) fun l V => some (a :: l, V)
noncomputable def tupE (φ : φEs) : φE := fun ev V => bndO (φ ev V) fun l V => grd (smallL l) (some (.tup l, V))
noncomputable def listE (φ : φEs) : φE := fun ev V => bndO (φ ev V) fun l V => grd (smallL l) (some (.lst V.n, V.add l))
-- tests
noncomputable def notT (φ : φT) : φT := fun ev V => bndO (φ ev V) fun b V => some (!b, V)
/-- the truth of a value -/
noncomputable def truf : AV → Option Bool
  | .bool b => some b
  | .none => some false
  | .str s => grd (smallS s) (some ((s.length : Int) != 0))
  | _ => none
noncomputable def truT (φ : φE) : φT := fun ev V => bndO (φ ev V) fun a V => bnd (truf a) fun b => some (b, V)
noncomputable def ifB {α : Type} (b : Bool) (x y : α) : α := match b with
  | true => x
  | false => y
noncomputable def iteE (τ : φT) (φ ψ : φE) : φE := fun ev V => bndO (τ ev V) fun b V => ifB b (φ ev V) (ψ ev V)
-- targets
noncomputable def nameA (i : Nat) : φA := fun v ev V => some (setF ev i (some v), V)
noncomputable def nilAs : φAs := fun l ev V => match l with
  | [] => some (ev, V)
  | _ :: _ => none
noncomputable def consAs (α : φA) (β : φAs) : φAs := fun l ev V => match l with
  | v :: r => bndO (α v ev V) fun ev V => β r ev V
  | [] => none
noncomputable def tupA (β : φAs) : φA := fun v ev V => onTup v fun l => β l ev V
-- statements
noncomputable def assignS (φ : φE) (α : φA) : φS := fun ev V => bndO (φ ev V) fun v V => bndO (α v ev V) fun ev V => some (.next, ev, V)
noncomputable def exprS (φ : φE) : φS := fun ev V => bndO (φ ev V) fun _ V => some (.next, ev, V)
noncomputable def retS (φ : φE) : φS := fun ev V => bndO (φ ev V) fun v V => some (.ret v, ev, V)
noncomputable def assertS (τ : φT) : φS := fun ev V => bndO (τ ev V) fun b V => grd b (some (.next, ev, V))
noncomputable def ifS (τ : φT) (β γ : φS) : φS := fun ev V => bndO (τ ev V) fun b V => ifB b (β ev V) (γ ev V)
noncomputable def nilB : φS := fun ev V => some (.next, ev, V)
noncomputable def seqS (o : Option (Flw × EV × VH)) (F : EV → VH → Option (Flw × EV × VH)) : Option (Flw × EV × VH) := match o with
  | some (w, ev, V) => match w with
    | .next => F ev V
    | .ret v => some (.ret v, ev, V)
  | none => none
noncomputable def consB (φ ψ : φS) : φS := fun ev V => seqS (φ ev V) ψ
theorem Su.seq {o F K} {K' : Flw × EV × VH → Prop} (k : Su (seqS o F) K) (f1 : ∀ ev V, Su (F ev V) K → K' (.next, ev, V)) (f2 : ∀ v ev V, K (.ret v, ev, V) → K' (.ret v, ev, V)) : Su o K' := by
  cases o with
  | none => exact k
  | some r =>
    obtain ⟨w, ev, V⟩ := r
    cases w with
    | next => exact f1 ev V k
    | ret v => exact f2 v ev V k
noncomputable def PostA (X : Wd) (st sl : List Str) (s : Shared) (env : Env) (W : Wld) (Q : Unit → Shared → Prop) (r : EV × VH) : Prop := ∀ h tk W', Go X (Own st env) s W h tk W' r.2 → EnvRel X h env sl W' r.1 → Q () (on s h tk)
section
variable (X : Wd) (d : Nat) (sc : Scope) (sl st : List Str)
/-- a target of an assignment -/
noncomputable def SoundA (t : Expr) (α : φA) : Prop := ∀ {A s env W V ev v val Q}, At X d sc sl A s env W V ev → VR X.σ s.heap W v val → Su (α v ev V) (PostA X st sl s env W Q) → wpAny X.M A (assign t env val) Q NoE s
/-- several targets, in order -/
noncomputable def SoundAs (ts : List Expr) (α : φAs) : Prop := (∀ env, (assignEach ts env).length = ts.length ∧ (assignEach ts env).findIdx? (·.1) = none) ∧
  (∀ l ev V r, α l ev V = some r → l.length = ts.length) ∧
  ∀ {A s env W V ev vs vals Q}, At X d sc sl A s env W V ev → VRs X.σ s.heap W vs vals → Su (α vs ev V) (PostA X st sl s env W Q) → wpAny X.M A (assignInOrder ((assignEach ts env).map (·.2)) vals) Q NoE s
end
/-- the names that a frame may store: its slots are its own, and none is _headers -/
structure SlotsOK (sc : Scope) (sl : List Str) : Prop where
  nodup : sl.Nodup
  kinds : ∀ x ∈ sl, x ≠ "_headers" ∧ x ≠ "__classdict__"
section
variable {X : Wd} {d : Nat} {sc : Scope} {sl st : List Str} {T : Tab} {A : Around} {s : Shared} {W W' : Wld} {V V' : VH} {env : Env} {ev ev' : EV} {h h' : Heap} {tk : Nat} {Y : Addr → Prop}
theorem At.goS (z : At X d sc sl A s env W V ev) (g : Go X Y s W h tk W' V') (R' : EnvRel X h env sl W' ev') : At X d sc sl A (on s h tk) env W' V' ev' := ⟨z.toAt0.go g, z.ok, z.co, R'⟩
theorem PostA.after {Q r} (P : PostA X st sl s env W Q r) (g : Go X (Own st env) s W h tk W' V') : PostA X st sl (on s h tk) env W' Q r := fun h' tk' W'' g' R => P h' tk' W'' (g.trans g') R
theorem PostS.after {Q r} (P : PostS X sl s env W Q r) (g : Go X (Own sl env) s W h tk W' V') : PostS X sl (on s h tk) env W' Q r := fun h' tk' W'' fl g' R f => P h' tk' W'' fl (g.trans g') R f
theorem sound_nil : SoundEs X d sc sl [] nilEs := ⟨fun _ => rfl, fun z P => spliced_none ((P : PostEs X _ _ _ ([], _)) _ _ _ [] (.refl z.H z.tk) .nil)⟩
theorem sound_cons {e : Expr} {es : List Expr} {φ ψ} (he : ∀ env, starEach (e :: es) env = (false, eval e env) :: starEach es env) (h1 : SoundE X d sc sl e φ) (h2 : SoundEs X d sc sl es ψ) : SoundEs X d sc sl (e :: es) (consEs φ ψ) :=
  ⟨fun env => by rw [he]; simpa using h2.1 env, fun z P => spliced_more (h1 z (P.bndO fun a V P h1' tk1 W1 va g1 ra => h2.2 (z.go g1) (P.bndO fun l V P h2' tk2 W2 vs g2 rs =>
    (P : PostEs X _ _ _ (a :: l, V)) h2' tk2 W2 _ (g1.trans g2) (.cons (ra.go (z.go g1).toAt0 g2) rs)))) (he _)⟩
theorem push_tup {l vs} (r : VRs X.σ h W l vs) : VR X.σ (h.push { cls := .type "tuple", data := .seq vs.toArray }) W (.tup l) (.ref h.objs.size) :=
  .tup (vs := vs.toArray) ⟨_, Heap.get?_push_size _ rfl, rfl, 0, rfl⟩ (r.mono (keeps_push _).tups .refl)
theorem sound_tup {es k pos φ} (h : SoundEs X d sc sl es φ) : SoundE X d sc sl (.Tuple es k pos) (tupE φ) := fun z P =>
  wpAny_Tuple_spliced (h.2 z (P.bndO fun l V P h1 tk1 W1 vs g1 rs => P.grd fun hs P => ⟨by have := smallL_le hs; have y : l.length = vs.length := rs.length; rw [sizeLine_eq]; omega,
    (P : PostE X _ _ _ _) _ tk1 W1 _ (g1.trans (.push g1.H g1.tk)) (push_tup rs)⟩))
theorem sound_list {es pos φ} (h : SoundEs X d sc sl es φ) : SoundE X d sc sl (.List es pos) (listE φ) := fun z P =>
  wpAny_List_spliced (h.2 z (P.bndO fun l V P h1 tk1 W1 vs g1 rs => P.grd fun hs P => ⟨by have := smallL_le hs; have y : l.length = vs.length := rs.length; rw [sizeLine_eq]; omega,
    (P : PostE X _ _ _ _) _ tk1 _ _ (g1.trans ⟨step_alloc, g1.H.alloc rs, g1.tk⟩) g1.H.last⟩))
theorem sound_not {x pos φ} (h : SoundT X d sc sl x φ) : SoundT X d sc sl (.UnaryOp .Not x pos) (notT φ) := fun z P =>
  wpAny_isTrue_Not (h z (P.bndO fun b V P => P))
theorem truf_ok {a v Q} (z : At0 X d A s W V) (ra : VR X.σ s.heap W a v) (e : Su (truf a) fun b => PostT X s W Q (b, V)) : wpAny X.M A (truthy v) Q NoE s := by
  have B : ∀ {b tk}, PostT X s W Q (b, V) → 0 < tk → Q b (on s s.heap tk) := fun P hp => P _ _ _ (.refl z.H hp)
  cases a with
  | bool b => exact ra.bools (G := fun v => wpAny X.M A (truthy v) Q NoE s) (wpAny_truthy_bool (B e z.tk))
  | none => exact ra.nones (G := fun v => wpAny X.M A (truthy v) Q NoE s) (PyProof.Rows.truthy_none (B e z.tk))
  | str x =>
    refine Su.grd (c := smallS x) (o := some ((x.length : Int) != 0)) e fun hs e => ra.strs (G := fun v => wpAny X.M A (truthy v) Q NoE s) fun t => wpT z.tk (PySem.P.truthy_str ?_ fun hp => B e hp)
    have := smallS_le hs
    omega
  | _ => exact e.elim
theorem sound_tru {e φ} (hp : ∀ env whole, PySem.isTrue e env whole = (do let v ← whole; standAt e.pos; holding [v] (truthy v))) (h : SoundE X d sc sl e φ) : SoundT X d sc sl e (truT φ) := fun z P =>
  wpAny_isTrue_value (h z (P.bndO fun a V P h1 tk1 W1 va g1 ra => truf_ok (z.go g1).toAt0 ra (P.bnd fun b P => PostT.after P g1))) (hp _ _)
theorem sound_ite {t a b pos τ φ ψ} (ht : SoundT X d sc sl t τ) (ha : SoundE X d sc sl a φ) (hb : SoundE X d sc sl b ψ) : SoundE X d sc sl (.IfExp t a b pos) (iteE τ φ ψ) := fun z P =>
  wpAny_IfExp (ht z (P.bndO fun c V P h1 tk1 W1 g1 => match c, P with
    | true, P => ha (z.go g1) (P.mono fun r P => PostE.after P g1)
    | false, P => hb (z.go g1) (P.mono fun r P => PostE.after P g1)))
-- stores
theorem InstHdr.ns_apart {x a L m} (I : InstHdr X.C h x a) (n : h.Ns L m) (hm : m "_headers" = none) : x ≠ L ∧ ∀ d, h.get? x = some (instObj X.C d) → d ≠ L := by
  obtain ⟨dd, h1, hs, k, t, nn, h2, hk⟩ := I
  obtain ⟨o, es, ep, ho, hd, hsk, hf⟩ := n
  refine ⟨?_, fun d' h1' => ?_⟩
  · rintro rfl
    rw [h1] at ho; cases ho; cases hd
  · rintro rfl
    rw [h1] at h1'
    have : dd = d' := by injection h1' with q; unfold instObj at q; injection q with _ q _ _; injection q
    subst this
    rw [h2] at ho
    cases ho
    cases hd
    have := hf "_headers"
    rw [hm] at this
    subst hk
    simp [nsFind, findBy, Value.isStr] at this
theorem ns_no_tup {L m vs} (n : h.Ns L m) : ¬ h.IsTuple L vs := fun ⟨o, ho, hc, k, hd⟩ => by
  obtain ⟨o', es, ep, ho', hd', _⟩ := n
  rw [ho] at ho'; cases ho'; rw [hd] at hd'; cases hd'
theorem cell_no_tup {c v vs} (n : h.IsCell c v) : ¬ h.IsTuple c vs := fun ⟨o, ho, hc, k, hd⟩ => by
  obtain ⟨o', ho', hd'⟩ := n
  rw [ho] at ho'; cases ho'; rw [hd] at hd'; cases hd'
theorem cell_no_ns {c v m} (n : h.IsCell c v) : ¬ h.Ns c m := fun ⟨o, es, ep, ho, hd, _⟩ => by
  obtain ⟨o', ho', hd'⟩ := n
  rw [ho] at ho'; cases ho'; rw [hd] at hd'; cases hd'
theorem HRel.store {L m} (H : HRel X h W V) (n : h.Ns L m) (hm : m "_headers" = none) (hs : Heap.SameBut L h h') (h0L : X.h0.get? L = none) : HRel X h' W V :=
  H.turned (fun a o hn e => same_keep hs hn e) (H.ns_out n) (fun vs => ns_no_tup n) h0L fun i x a e I => I.keep (fun o e => same_keep hs (I.ns_apart n hm).1 e) fun d o e1 e2 => same_keep hs ((I.ns_apart n hm).2 d e1) e2
theorem HRel.storeCell {c v} (H : HRel X h W V) (n : h.IsCell c v) (hs : Heap.SameBut c h h') (h0L : X.h0.get? c = none) : HRel X h' W V :=
  H.turned (fun a o hn e => same_keep hs hn e) (H.cell_out n) (fun vs => cell_no_tup n) h0L fun i x a e I => by
    obtain ⟨o', ho', hd'⟩ := n
    refine I.keep (fun o e => same_keep hs (fun q => ?_) e) fun d o e1 e2 => same_keep hs (fun q => ?_) e2
    · obtain ⟨dd, h1, _⟩ := I
      rw [q, ho'] at h1; cases h1; cases hd'
    · obtain ⟨dd, h1, hs', k, t, nn, h2, hk⟩ := I
      rw [e1] at h1
      have : d = dd := by injection h1 with q; unfold instObj at q; injection q with _ q _ _; injection q
      rw [← this, q, ho'] at h2; cases h2; cases hd'
theorem step_same {L} (hs : Heap.SameBut L h h') (hY : Y L) (hl : h'.get? L ≠ none) : Step Y h W h' W :=
  ⟨fun a o e hn hy => same_keep hs (fun q => hy (q ▸ hY)) e, fun a ha => by
    by_cases q : a = L
    · subst q; exact hl
    · rw [hs.2 a q]; exact ha, ⟨[], (List.append_nil _).symm, fun _ q => nomatch q⟩, ⟨[], (List.append_nil _).symm⟩⟩
theorem ns_fun {L m m'} (n : h.Ns L m) (n' : h.Ns L m') (y : Str) : m' y = m y := by
  obtain ⟨o1, es1, ep1, g1, g2, g3, g4⟩ := n
  obtain ⟨o2, es2, ep2, k1, k2, k3, k4⟩ := n'
  rw [g1] at k1; cases k1; rw [g2] at k2; cases k2
  rw [← g4 y, k4 y]
/-- a slot is set: the others stand -/
theorem EnvRel.put (R : EnvRel X h env sl W ev) (SO : SlotsOK sc sl) {i : Nat} {x : Str} {v : AV} {val : Value} (hi : sl[i]? = some x) (kt : Tups h h') (ns : ∃ m, h'.Ns env.locals m ∧ m "_headers" = none)
    (kc : ∀ y c, env.cells.lookup y = some c → ∃ u, h'.IsCell c u) (lx : Look h' env x val) (r : VR X.σ h W v val) (ly : ∀ y u, y ≠ x → Look h env y u → Look h' env y u) : EnvRel X h' env sl W (ev.set i (some v)) where
  ns := ns
  L0 := R.L0
  var := fun j y u e1 e2 => by
    rw [List.getElem?_set] at e2
    by_cases hj : i = j
    · rw [if_pos hj] at e2
      split at e2
      · cases e2
        rw [← hj, hi] at e1
        cases e1
        exact ⟨val, lx, r.mono kt .refl⟩
      · cases e2
    · rw [if_neg hj] at e2
      obtain ⟨val', l, r'⟩ := R.var j y u e1 e2
      refine ⟨val', ly y val' (fun q => hj ?_) l, r'.mono kt .refl⟩
      subst q
      have l1 := List.getElem?_eq_some_iff.mp hi
      have l2 := List.getElem?_eq_some_iff.mp e1
      exact (List.getElem_inj SO.nodup).mp (l1.2.trans l2.2.symm)
  cell := fun y c hc => ⟨kc y c hc, (R.cell y c hc).2⟩
  apart := R.apart
  has := R.has
theorem wp_store (SO : SlotsOK sc sl) {i x v val Q} (z : At X d sc sl A s env W V ev) (hst : x ∈ st) (hi : sl[i]? = some x) (hk : sc.names.lookup x = some .local ∨ sc.names.lookup x = some .cell) (r : VR X.σ s.heap W v val)
    (P : PostA X st sl s env W Q (ev.set i (some v), V)) : wpAny X.M A (storeName env x val) Q NoE s := by
  have hxm : x ∈ sl := List.mem_of_getElem? hi
  have hx := SO.kinds x hxm
  obtain ⟨m, hn, hm⟩ := z.R.ns
  refine wpT z.tk ?_
  rcases hk with hl | hl
  · refine wpAny_storeName_local (z.ok.kindOf.trans hl) hn (fun h' hn' hs' hp => ?_) (by rw [z.ok.fn]; rfl)
    have kt : Tups s.heap h' := fun a us ht => tup_keep ht fun o e => same_keep hs' (fun q => ns_no_tup hn (q ▸ ht)) e
    have kc : ∀ {c v}, s.heap.IsCell c v → h'.IsCell c v := fun hv => hv.sameBut hs' fun q => cell_no_ns hv (q ▸ hn)
    refine P h' _ W ⟨step_same hs' (.inl rfl) (by obtain ⟨o, _, _, e, _⟩ := hn'; exact live_of e), z.H.store hn hm hs' z.R.L0, hp⟩ (z.R.put SO hi kt ⟨_, hn', ?_⟩ (fun y c hc => let ⟨⟨u, hu⟩, _⟩ := z.R.cell y c hc; ⟨u, kc hu⟩)
      (.inl ⟨z.ok.kindOf.trans hl, _, hn', if_pos rfl⟩) r fun y u hy l => l.imp (fun ⟨q1, m', q2, q3⟩ => ⟨q1, _, hn', ?_⟩) fun ⟨q1, q2, c, q3, q4⟩ => ⟨q1, q2, c, q3, kc q4⟩)
    · show (if "_headers" = x then some val else m "_headers") = none
      rw [if_neg (Ne.symm hx.1)]; exact hm
    · show (if y = x then some val else m y) = some u
      rw [if_neg hy, ← ns_fun hn q2 y]; exact q3
  · obtain ⟨c, hc⟩ := z.co x hl hxm
    obtain ⟨⟨v0, hv0⟩, hc0⟩ := z.R.cell x c hc
    refine wpAny_storeName_cell z.ok.fn (z.ok.kindOf.trans hl) hc hv0 fun h' hv' hs' hp => ?_
    have kt : Tups s.heap h' := fun a us ht => tup_keep ht fun o e => same_keep hs' (fun q => cell_no_tup hv0 (q ▸ ht)) e
    have hn' : ∀ {m}, s.heap.Ns env.locals m → h'.Ns env.locals m := fun hn => hn.sameBut hs' fun q => cell_no_ns hv0 (q ▸ hn)
    refine P h' s.toks W ⟨step_same hs' (.inr ⟨x, hst, hc⟩) (by obtain ⟨o, e, _⟩ := hv'; exact live_of e), z.H.storeCell hv0 hs' hc0, z.tk⟩ (z.R.put SO hi kt ⟨m, hn' hn, hm⟩ (fun y c' hc' => ?_)
      (.inr ⟨.inl (z.ok.kindOf.trans hl), hx.2, c, hc, hv'⟩) r fun y u hy l => l.imp (fun ⟨q1, m', q2, q3⟩ => ⟨q1, m', hn' q2, q3⟩) fun ⟨q1, q2, c', q3, q4⟩ => ⟨q1, q2, c', q3, q4.sameBut hs' fun q => hy (z.R.apart _ _ _ q3 (q ▸ hc))⟩)
    by_cases q : c' = c
    · subst q; exact ⟨_, hv'⟩
    · obtain ⟨⟨v', hv''⟩, _⟩ := z.R.cell y c' hc'
      exact ⟨v', hv''.sameBut hs' q⟩
-- targets
theorem soundA_name (SO : SlotsOK sc sl) {x pos} (i : Nat) (hst : x ∈ st) (hi : sl[i]? = some x) (hk : sc.names.lookup x = some .local ∨ sc.names.lookup x = some .cell) : SoundA X d sc sl st (.Name x pos) (nameA i) := fun z r P =>
  wpAny_assign_Name (wp_store SO z hst hi hk r (by rw [← setF_eq]; exact P))
theorem soundAs_nil : SoundAs X d sc sl st [] nilAs := by
  refine ⟨fun _ => ⟨rfl, rfl⟩, fun l ev V r e => ?_, fun z r P => ?_⟩
  · cases l with
    | nil => rfl
    | cons a b => cases e
  · cases r with
    | nil => exact wpAny_assignInOrder_none ((P : PostA X st sl _ _ _ _ _) _ _ _ (.refl z.H z.tk) z.R)
    | cons a b => exact P.elim
theorem soundAs_cons {t ts α β} (ht : ∀ env, assignEach (t :: ts) env = (false, assign t env) :: assignEach ts env) (h1 : SoundA X d sc sl st t α) (h2 : SoundAs X d sc sl st ts β) : SoundAs X d sc sl st (t :: ts) (consAs α β) := by
  refine ⟨fun env => ?_, fun l ev V r e => ?_, fun {A s env W V ev vs vals Q} z r P => ?_⟩
  · obtain ⟨q1, q2⟩ := h2.1 env
    rw [ht, List.findIdx?_cons]
    exact ⟨congrArg Nat.succ q1, by rw [q2]; rfl⟩
  · cases l with
    | nil => cases e
    | cons a b => exact (Su.bndO (K' := fun p => (a :: b).length = (t :: ts).length) (Su.of e rfl : Su (bndO (α a ev V) fun ev V => β b ev V) (· = r)) fun ev V k => k.ex fun r e _ => congrArg Nat.succ (h2.2.1 _ _ _ _ e)).ex fun _ _ q => q
  · cases r with
    | nil => exact P.elim
    | cons ra rr =>
      rw [ht]
      exact wpAny_assignInOrder_more (h1 z ra (Su.bndO P fun ev V P h' tk W' g R => h2.2.2 (z.goS g R) (rr.mono (g.S.tups z.H (noTup_own z.R)) g.S.grow) (P.mono fun r P => PostA.after P g)))
theorem soundA_tup {ts k pos β} (h : SoundAs X d sc sl st ts β) : SoundA X d sc sl st (.Tuple ts k pos) (tupA β) := fun {A s env W V ev v val Q} z r P =>
  onTup_ok P fun l q P => by
    subst q
    refine r.tups (G := fun val => wpAny X.M A (assign (.Tuple ts k pos) env val) Q NoE s) fun a vs t rl => P.ex fun w e P => ?_
    have y := rl.length
    rw [Array.length_toList (xs := vs), h.2.1 _ _ _ _ e] at y
    obtain ⟨q1, q2⟩ := h.1 env
    refine wpT z.tk (wpAny_assign_Tuple z.rm.hh t (by omega) q2 fun h' he => ?_)
    have hk : Keeps s.heap h' := fun b o e => he b o (Nat.ne_of_lt (Heap.lt_size e)) e
    have g : Go X Nox s W h' s.toks W V := ⟨.of_keeps hk, z.H.keeps hk, z.tk⟩
    exact wpAny_mono (h.2.2 (Q := Q) (z.go g) (rl.go z.toAt0 g) (Su.of e (PostA.after P g.nox))) (fun _ _ x _ => x) fun _ _ x => x
-- statements
theorem PostS.next {Q h tk W' V' ev'} (P : Su (some (Flw.next, ev', V')) (PostS X sl s env W Q)) (g : Go X (Own sl env) s W h tk W' V') (R : EnvRel X h env sl W' ev') : Q .next (on s h tk) := (P : PostS X sl s env W Q _) h tk W' _ g R .next
theorem sound_assign {t value pos φ α} (hs : ∀ env, EnvOK sc env → swapsWithSole [t] value pos.line env = pure false) (hw : ∀ env, EnvOK sc env → swappedStores [t] value env = pure none) (ht : ∀ env, assignEach [t] env = [(false, assign t env)])
    (h1 : SoundE X d sc sl value φ) (h2 : SoundA X d sc sl sl t α) : SoundS X d sc sl (.Assign [t] value pos) (assignS φ α) := fun {A s env W V ev Q} z P =>
  wpAny_Assign_stores (h1 z (P.bndO fun v V P h tk W' val g r => by
    rw [ht]
    exact h2 (z.go g) r (P.bndO fun ev V P h' tk' W'' g' R => PostS.next (s := s) (W := W) P (g.nox.trans g') R))) (hs env z.ok) (hw env z.ok)
theorem sound_expr {e pos φ} (hs : ∀ env, swapsWith e none pos.line env = pure false) (h : SoundE X d sc sl e φ) : SoundS X d sc sl (.Expr e pos) (exprS φ) := fun {A s env W V ev Q} z P =>
  wpAny_Expr_any (h z (P.bndO fun v V P h tk W' val g r => PostS.next (s := s) (W := W) P g.nox (z.go g).R)) (by unfold interactive; rw [z.ok.scope, z.ok.kind]; rfl) (hs env)
theorem sound_ret {e pos φ} (h : SoundE X d sc sl e φ) : SoundS X d sc sl (.Return (some e) pos) (retS φ) := fun {A s env W V ev Q} z P =>
  wpAny_Return_some (h z (P.bndO fun v V P h tk W' val g r => (P : PostS X sl _ _ _ _ (.ret v, _, _)) h tk W' _ g.nox (z.go g).R (.ret r)))
theorem sound_assert {t msg pos τ} (h : SoundT X d sc sl t τ) : SoundS X d sc sl (.Assert t msg pos) (assertS τ) := fun {A s env W V ev Q} z P =>
  wpAny_Assert_holds (h z (P.bndO fun b V P h tk W' g => P.grd fun hb P => ⟨hb, PostS.next (s := s) (W := W) P g.nox (z.go g).R⟩))
theorem sound_if {t b o pos τ β γ} (ht : SoundT X d sc sl t τ) (hb : SoundB X d sc sl b β) (ho : SoundB X d sc sl o γ) : SoundS X d sc sl (.If t b o pos) (ifS τ β γ) := fun {A s env W V ev Q} z P =>
  wpAny_If (ht z (P.bndO fun c V P h tk W' g => match c, P with
    | true, P => hb (z.go g) (P.mono fun r P => PostS.after P g.nox)
    | false, P => ho (z.go g) (P.mono fun r P => PostS.after P g.nox)))
theorem sound_nilB : SoundB X d sc sl [] nilB := fun z P => wpAny_execs_nil (PostS.next P (.refl z.H z.tk) z.R)
theorem FR.nexts {h W fl} {G : Flow → Prop} (x : FR X.σ h W .next fl) (g : G .next) : G fl := by cases x; exact g
theorem FR.rets {h W v fl} {G : Flow → Prop} (x : FR X.σ h W (.ret v) fl) (g : ∀ val, VR X.σ h W v val → G (.ret val)) : G fl := by cases x with | ret r => exact g _ r
theorem sound_consB {st rest φ ψ} (h1 : SoundS X d sc sl st φ) (h2 : SoundB X d sc sl rest ψ) : SoundB X d sc sl (st :: rest) (consB φ ψ) := fun {A s env W V ev Q} z P =>
  wpAny_execs_cons (h1 z (P.seq (fun ev' V' P h tk W' fl g R fr => FR.nexts (G := fun fl => match fl with | .next => wpAny X.M A (execs rest env) Q NoE _ | f => Q f _) fr (h2 (z.goS g R) (P.mono fun r P => PostS.after P g)))
    fun v ev' V' P h tk W' fl g R fr => FR.rets (G := fun fl => match fl with | .next => wpAny X.M A (execs rest env) Q NoE _ | f => Q f _) fr fun val r => (P : PostS X sl _ _ _ _ (.ret v, _, _)) h tk W' _ g R (.ret r)))
end
end
end Mine
end

section
open PySem PySem.W PyProof.Rows
namespace Mine
noncomputable section
/-- what a loop walks over -/
inductive It where
  | rng (a : Int) (n : Nat)
  | lst (id i : Nat)
  | tup (l : List AV) (i : Nat)
noncomputable abbrev φI := EV → VH → Option (It × VH)
noncomputable def nextP (o : Option AV) (it : It) : Option (AV × It) := match o with
  | some v => some (v, it)
  | none => none
noncomputable def nextI (V : VH) (it : It) : Option (Option (AV × It)) := match it with
  | .rng a n => match n with
    | 0 => some none
    | n + 1 => forceI (a + 1) fun b => some (some (.int a, .rng b n))
  | .lst id i => bnd (V.get id) fun xs => some (nextP (getF xs i) (.lst id (i + 1)))
  | .tup l i => some (nextP (getF l i) (.tup l (i + 1)))
noncomputable def onNext {β : Type} (r : Option (AV × It)) (F : AV → It → Option β) (E : Option β) : Option β := match r with
  | some (v, it) => F v it
  | none => E
/-- at most n turns -/
noncomputable def forL (α : φA) (β : φS) (n : Nat) : It → EV → VH → Option (Flw × EV × VH) := Nat.rec (motive := fun _ => It → EV → VH → Option (Flw × EV × VH)) (fun _ _ _ => none)
  (fun _ ih it ev V => bnd (nextI V it) fun r => onNext r (fun v it => bndO (α v ev V) fun ev V => seqS (β ev V) (ih it)) (some (.next, ev, V))) n
noncomputable def forS (n : Nat) (ι : φI) (α : φA) (β : φS) : φS := fun ev V => bndO (ι ev V) fun it V => forL α β n it ev V
-- sources
noncomputable def lstI (φ : φE) : φI := fun ev V => bndO (φ ev V) fun a V => onSeq a (fun i => grd (Nat.blt i V.n) (some (.lst i 0, V))) (fun l => some (.tup l 0, V)) fun _ => none
noncomputable def args1 {β : Type} (l : List AV) (F : AV → Option β) : Option β := match l with
  | a :: r => match r with
    | [] => F a
    | _ :: _ => none
  | [] => none
noncomputable def args2 {β : Type} (l : List AV) (F : AV → AV → Option β) : Option β := match l with
  | a :: r => args1 r (F a)
  | [] => none
noncomputable def args3 {β : Type} (l : List AV) (F : AV → AV → AV → Option β) : Option β := match l with
  | a :: r => args2 r (F a)
  | [] => none
noncomputable def args4 {β : Type} (l : List AV) (F : AV → AV → AV → AV → Option β) : Option β := match l with
  | a :: r => args3 r (F a)
  | [] => none
noncomputable def rngf (l : List AV) : Option It := match l with
  | a :: r => onInt a fun a => match r with
    | b :: q => onInt b fun b => match q with
      | [] => grd (smallI a && smallI b) (forceN (b - a).toNat fun n => some (.rng a n))
      | _ :: _ => none
    | [] => grd (smallI a) (some (.rng 0 a.toNat))
  | [] => none
noncomputable def rngI (ψ : φEs) : φI := fun ev V => bndO (ψ ev V) fun l V => bnd (rngf l) fun it => some (it, V)
inductive ItR (σ : Sig) (h : Heap) (W : Wld) : It → Addr → Prop
  | rng {a : Int} {n : Nat} {I} : IsRangeIter h I a n 1 → ItR σ h W (.rng a n) I
  | lst {id i I l} : W.ρ[id]? = some l → h.IsListIter I l i → ItR σ h W (.lst id i) I
  | tup {l i I t vs} : h.IsTuple t vs → VRs σ h W l vs.toList → h.IsTupleIter I t i → ItR σ h W (.tup l i) I
noncomputable def PostI (X : Wd) (s : Shared) (W : Wld) (Q : Value → Shared → Prop) (r : It × VH) : Prop := ∀ h tk W' I, Go X Nox s W h tk W' r.2 → ItR X.σ h W' r.1 I → s.heap.get? I = none → X.h0.get? I = none → Q (.ref I) (on s h tk)
/-- what is walked over -/
noncomputable def SoundI (X : Wd) (d : Nat) (sc : Scope) (sl : List Str) (e : Expr) (ι : φI) : Prop := ∀ {A s env W V ev Q}, At X d sc sl A s env W V ev → Su (ι ev V) (PostI X s W Q) →
  wpAny X.M A (eval e env) (fun x s₁ => wpAny X.M A (pyIter x) Q NoE s₁) NoE s
section
variable {X : Wd} {d : Nat} {sc : Scope} {sl st : List Str} {T : Tab} {A : Around} {s : Shared} {W W' : Wld} {V V' : VH} {env : Env} {ev ev' : EV} {h h' : Heap} {tk : Nat} {Y : Addr → Prop} {it : It} {I : Addr}
/-- a place of an iterator -/
noncomputable def FieldsAt (h : Heap) (I : Addr) : Prop := ∃ o vs, h.get? I = some o ∧ o.data = .fields vs
theorem ItR.obj {σ} (x : ItR σ h W it I) : FieldsAt h I := by
  cases x with
  | rng y => exact ⟨_, _, y, rfl⟩
  | lst _ y => obtain ⟨o, ho, _, hd⟩ := y; exact ⟨o, _, ho, hd⟩
  | tup _ _ y => obtain ⟨o, ho, _, hd⟩ := y; exact ⟨o, _, ho, hd⟩
theorem FieldsAt.no {o : Obj} {P : Prop} (x : FieldsAt h I) (e : h.get? I = some o) (k : ∀ vs, o.data ≠ .fields vs) : P := let ⟨o', vs, ho, hd⟩ := x; (k vs (by rw [e] at ho; cases ho; exact hd)).elim
theorem FieldsAt.no_tup (x : FieldsAt h I) {vs} : ¬ h.IsTuple I vs := fun ⟨o, ho, _, n, hd⟩ => x.no ho fun _ e => by rw [hd] at e; cases e
theorem FieldsAt.no_ns (x : FieldsAt h I) {m} : ¬ h.Ns I m := fun ⟨o, es, ep, ho, hd, _⟩ => x.no ho fun _ e => by rw [hd] at e; cases e
theorem FieldsAt.no_cell (x : FieldsAt h I) {v} : ¬ h.IsCell I v := fun ⟨o, ho, hd⟩ => x.no ho fun _ e => by rw [hd] at e; cases e
theorem FieldsAt.out (x : FieldsAt h I) (H : HRel X h W V) : I ∉ W.ρ := fun hm => let ⟨vs, n, e⟩ := H.isList hm; x.no e fun _ q => nomatch q
theorem ItR.mono {σ} (x : ItR σ h W it I) (e : ∀ o, h.get? I = some o → h'.get? I = some o) (hT : Tups h h') (g : Grow W W') : ItR σ h' W' it I := by
  cases x with
  | rng y => exact .rng (e _ y)
  | lst q y => obtain ⟨o, ho, r⟩ := y; exact .lst (g.l q) ⟨o, e _ ho, r⟩
  | tup t v y => obtain ⟨o, ho, r⟩ := y; exact .tup (hT _ _ t) (v.mono hT g) ⟨o, e _ ho, r⟩
theorem ItR.step {σ} (x : ItR σ h W it I) (H : HRel X h W V) (S : Step Y h W h' W') (hY : ¬ Y I) (hT : NoTup Y h) : ItR σ h' W' it I :=
  x.mono (fun o e => S.ext _ o e (x.obj.out H) hY) (S.tups H hT) S.grow
theorem own_not_iter (R : EnvRel X h env sl W ev) (x : FieldsAt h I) {st : List Str} : ¬ Own st env I := by
  rintro (rfl | ⟨y, _, hy⟩)
  · obtain ⟨m, n, _⟩ := R.ns
    exact x.no_ns n
  · obtain ⟨⟨v, hv⟩, _⟩ := R.cell y I hy
    exact x.no_cell hv
/-- one place alone is turned -/
noncomputable abbrev Turn (I : Addr) (h h' : Heap) : Prop := ∀ a o, a ≠ I → h.get? a = some o → h'.get? a = some o
theorem Turn.tups (k : Turn I h h') (x : FieldsAt h I) : Tups h h' := fun a us n => tup_keep n fun o e => k _ o (fun q => x.no_tup (q ▸ n)) e
theorem HRel.iter (H : HRel X h W V) (x : FieldsAt h I) (k : Turn I h h') (h0I : X.h0.get? I = none) : HRel X h' W V :=
  H.turned k (x.out H) (fun us => x.no_tup) h0I fun i y a e J => J.keep (fun o e => k _ o (fun q => by obtain ⟨d, h1, _⟩ := J; exact x.no (q ▸ h1) fun vs (z : Data.plain = Data.fields vs) => nomatch z) e)
    fun d o e1 e2 => k _ o (fun q => by obtain ⟨d', h1, _, _, _, _, h2, _⟩ := J; rw [e1] at h1; cases h1; exact x.no (q ▸ h2) fun vs z => absurd z (fun (z : Data.dict _ _ = Data.fields vs) => Data.noConfusion z)) e2
theorem EnvRel.iter (R : EnvRel X h env sl W ev) (x : FieldsAt h I) (k : Turn I h h') : EnvRel X h' env sl W ev :=
  R.of (fun m n => ns_keep n fun o e => k _ o (fun q => x.no_ns (q ▸ n)) e) (fun y c v _ n => cell_keep n fun o e => k _ o (fun q => x.no_cell (q ▸ n)) e) (k.tups x) .refl
theorem nextP_ok {γ : Type} {o it F} {E : Option γ} {K : γ → Prop} {P : Prop} (k : Su (onNext (nextP o it) F E) K) (h1 : ∀ v, o = some v → Su (F v it) K → P) (h2 : o = none → Su E K → P) : P := by
  cases o with
  | none => exact h2 rfl k
  | some v => exact h1 v rfl k
theorem next_ok {γ : Type} {F E} {K : γ → Prop} {Q : Option Value → Shared → Prop} (hh : A.handled = none) (H : HRel X s.heap W V) (x : ItR X.σ s.heap W it I) (k : Su (bnd (nextI V it) fun r => onNext r F E) K)
    (h1 : ∀ h' tk val v it', Turn I s.heap h' → h'.get? I ≠ none → ItR X.σ h' W it' I → VR X.σ h' W v val → Su (F v it') K → Q (some val) (on s h' tk)) (h2 : ∀ h' tk, Turn I s.heap h' → Su E K → Q none (on s h' tk)) : wpAny X.M A (pyNext (.ref I)) Q NoE s := by
  have fo := x.obj
  cases x with
  | rng y =>
    rename_i a n
    cases n with
    | zero => exact wpAny_pyNext_range_end hh y (Int.le_refl _) fun h' he => h2 h' s.toks (fun a o hn e => he a o hn e) k
    | succ n =>
      change Su (bnd (forceI (a + 1) fun b => some (some (AV.int a, It.rng b n))) fun r => onNext r F E) K at k
      rw [forceI_eq] at k
      refine wpAny_pyNext_range_item y (by omega) fun h' hi hs => h1 h' _ _ _ _ (fun a o hn e => same_keep hs hn e) (live_of hi) (.rng ?_) (.imm (.int _ _)) k
      rwa [show ((n + 1 : Nat) : Int) - 1 = (n : Int) by omega] at hi
  | lst q y =>
    refine Su.bnde (Su.bnd (K' := fun r => Su (onNext r F E) K) k fun a k => k : Su (bnd (V.get _) fun xs => some (nextP (getF xs _) _)) fun r => Su (onNext r F E) K) fun xs e1 k => H.at_ q e1 fun vs l1 r1 hl => ?_
    refine nextP_ok (k : Su (onNext (nextP _ _) F E) K) (fun v e2 k => ?_) fun e2 k => ?_ <;> rw [getF_eq] at e2
    · obtain ⟨val, hv, rv⟩ := r1.get e2
      refine wpAny_pyNext_list_item y l1.isList (by simpa using hv) fun h' hi hs => ?_
      have kt : Turn I s.heap h' := fun a o hn e => same_keep hs hn e
      exact h1 h' s.toks val v _ kt (by obtain ⟨o, ho, _⟩ := hi; exact live_of ho) (.lst q hi) (rv.mono (kt.tups fo) .refl) k
    · refine wpAny_pyNext_list_end hh y l1.isList ?_ fun h' he => h2 h' s.toks (fun a o hn e => he a o hn e) k
      rw [List.getElem?_eq_none_iff] at e2
      exact Array.getElem?_eq_none (by omega)
  | tup t v y =>
    refine nextP_ok (k : Su (onNext (nextP _ _) F E) K) (fun u e2 k => ?_) fun e2 k => ?_ <;> rw [getF_eq] at e2
    · obtain ⟨val, hv, rv⟩ := v.get e2
      refine wpAny_pyNext_tuple_item y t (by simpa using hv) fun h' hi hs => ?_
      have kt : Turn I s.heap h' := fun a o hn e => same_keep hs hn e
      exact h1 h' s.toks val u _ kt (by obtain ⟨o, ho, _⟩ := hi; exact live_of ho) (.tup (kt.tups fo _ _ t) (v.mono (kt.tups fo) .refl) hi) (rv.mono (kt.tups fo) .refl) k
    · refine wpAny_pyNext_tuple_end hh y t ?_ fun h' he => h2 h' s.toks (fun a o hn e => he a o hn e) k
      have := v.length
      rw [List.getElem?_eq_none_iff, this, Array.length_toList] at e2
      exact Array.getElem?_eq_none e2
theorem letGo_ok {t val} {Q : Unit → Shared → Prop} {E} (x : ItR X.σ s.heap W it I) (h : Q () s) : wpAny X.M A (letOwnedTupleGo t (.ref I) val) Q E s := by
  have key : ∀ o, s.heap.get? I = some o → (∀ n vs, o.cls = .type n → o.data = .fields vs → (["enumerate", "zip", "dict_itemiterator", "dict_reverseitemiterator", "odict_iterator", "itertools.zip_longest", "itertools.pairwise"].contains n) = false) → wpAny X.M A (letOwnedTupleGo t (.ref I) val) Q E s := by
    intro o ho hc
    unfold letOwnedTupleGo
    cases t <;> first
      | exact wpAny_pure h
      | (cases val <;> first
          | exact wpAny_pure h
          | (refine wpAny_bind (wpAny_load ho ?_)
             split
             · rename_i n vs e1 e2
               rw [hc n vs e1 e2]
               exact wpAny_pure h
             · exact wpAny_pure h))
  cases x with
  | rng y => exact key _ y fun n vs e1 e2 => by cases e1; decide
  | lst q y => obtain ⟨o, ho, hc, hd⟩ := y; exact key _ ho fun n vs e1 e2 => by rw [hc] at e1; cases e1; decide
  | tup q r y => obtain ⟨o, ho, hc, hd⟩ := y; exact key _ ho fun n vs e1 e2 => by rw [hc] at e1; cases e1; decide
theorem step_turn (k : Turn I h h') (hl : h'.get? I ≠ none) : Step (fun a => Y a ∨ a = I) h W h' W :=
  ⟨fun a o e _ hx => k a o (fun q => hx (.inr q)) e, fun a ha => by
    by_cases q : a = I
    · subst q; exact hl
    · cases q' : h.get? a with
      | none => exact absurd q' ha
      | some o => exact live_of (k a o q q'), ⟨[], (List.append_nil _).symm, fun _ q => nomatch q⟩, ⟨[], (List.append_nil _).symm⟩⟩
/-- a place that did not stand is forgotten -/
theorem Step.dropI (S : Step (fun a => Y a ∨ a = I) h W h' W') (hI : h.get? I = none) : Step Y h W h' W' :=
  ⟨fun a o e hn hx => S.ext a o e hn (fun q => q.elim hx fun q => by rw [q, hI] at e; cases e), S.live, S.ρ, S.η⟩
theorem Step.endI {h''} (S : Step (fun a => Y a ∨ a = I) h W h' W') (hI : h.get? I = none) (k : Turn I h' h'') : Step Y h W h'' W' := by
  have ne : ∀ {a}, h.get? a ≠ none → a ≠ I := fun ha q => ha (q ▸ hI)
  refine ⟨fun a o e hn hx => k a o (ne (live_of e)) ((S.dropI hI).ext a o e hn hx), fun a ha => ?_, S.ρ, S.η⟩
  cases q : h'.get? a with
  | none => exact absurd q (S.live a ha)
  | some o => exact live_of (k a o (ne ha) q)
noncomputable def ForInv (X : Wd) (sl : List Str) (s : Shared) (env : Env) (W : Wld) (Q : Flow → Shared → Prop) (α : φA) (β : φS) (I : Addr) (k : Nat) (s' : Shared) : Prop :=
  ∃ it ev V W' h tk, s' = on s h tk ∧ Go X (fun a => Own sl env a ∨ a = I) s W h tk W' V ∧ EnvRel X h env sl W' ev ∧ ItR X.σ h W' it I ∧ Su (forL α β k it ev V) (PostS X sl s env W Q)
theorem sound_for {t iter body pos ι α β} (n : Nat) (hs : ∀ env x, foldedSetIterable iter env x = pure x) (hi : SoundI X d sc sl iter ι) (ha : SoundA X d sc sl sl t α) (hb : SoundB X d sc sl body β) : SoundS X d sc sl (.For t iter body [] pos) (forS n ι α β) := by
  intro A s env W V ev Q z P
  refine wpAny_For (hi z (P.bndO fun it V1 P h1 tk1 W1 I g1 x1 hI hI0 => ?_)) (hs env)
  refine codeAny_forLoop_any (ForInv X sl s env W Q α β I) ?_ n
    ⟨it, ev, V1, W1, h1, tk1, rfl, g1.nox, (z.go g1).R, x1, P⟩
  rintro k s' ⟨it, ev, V, W', h', tk', rfl, g, R, x, P⟩
  cases k with
  | zero => exact P.elim
  | succ k =>
  have z1 := z.goS g R
  refine wpE (wpT g.tk (next_ok (s := on s h' tk') z.rm.hh g.H x P (fun h2 tk2 val v it2 kt hl x2 rv P hp => ?_) fun h2 tk2 kt P hp => ?_))
  · have g2 := g.trans (s := s) (⟨step_turn (Y := Own sl env) kt hl, g.H.iter x.obj kt hI0, hp⟩ : Go X _ (on s h' tk') W' h2 tk2 W' V)
    have z2 := z.goS g2 (R.iter x.obj kt)
    refine letGo_ok (s := on s h2 tk2) x2 (wpE (ha z2 rv (P.bndO fun ev3 V3 P h3 tk3 W3 g3 R3 => ?_)))
    have w : ∀ {Z h W h' W'}, Step (Own sl env) h W h' W' → Step (fun a => Own sl env a ∨ a = Z) h W h' W' := fun S => S.weaken fun _ => .inl
    have x3 := x2.step g2.H g3.S (own_not_iter z2.R x2.obj) (noTup_own z2.R)
    have g3' := g2.trans ⟨w g3.S, g3.H, g3.tk⟩
    have z3 := z2.goS g3 R3
    refine wpE (hb z3 (P.seq (fun ev4 V4 P h4 tk4 W4 fl g4 R4 fr => ?_) fun u ev4 V4 P h4 tk4 W4 fl g4 R4 fr => ?_))
    · cases fr
      exact ⟨k, Nat.lt_succ_self _, it2, ev4, V4, W4, h4, tk4, rfl, g3'.trans ⟨w g4.S, g4.H, g4.tk⟩, R4, x3.step g3.H g4.S (own_not_iter R3 x3.obj) (noTup_own R3), P⟩
    · cases fr with | ret r =>
      exact (P : PostS X sl s env W Q (.ret u, ev4, V4)) h4 tk4 W4 _ ⟨(g3'.S.trans (w g4.S)).dropI hI, g4.H, g4.tk⟩ R4 (.ret r)
  · exact wpAny_execs_nil (PostS.next (s := s) (W := W) P ⟨g.S.endI hI kt, g.H.iter x.obj kt hI0, hp⟩ (R.iter x.obj kt))
-- sources
theorem Go.none_of {a} (g : Go X Nox s W h tk W' V') (e : h.get? a = none) : s.heap.get? a = none := by
  cases q : s.heap.get? a with
  | none => rfl
  | some o => exact absurd e (g.S.live a (live_of q))
theorem sound_lstI {e φ} (hφ : SoundE X d sc sl e φ) : SoundI X d sc sl e (lstI φ) := fun {A s env W V ev Q} z P =>
  hφ z (P.bndO fun a V P0 h1 tk1 W1 val g1 r => onSeq_ok P0
    (fun i q P' => P'.grd fun hi P => by
      clear P'
      subst q
      refine r.lsts (G := fun val => wpAny X.M A (pyIter val) Q NoE (on s h1 tk1)) fun a ha => ?_
      obtain ⟨xs, hx⟩ := VH.get_ex g1.H.ok (Nat.blt_eq.mp hi)
      refine g1.H.at_ ha hx fun vs l1 r1 _ => wpAny_pyIter_list l1.isList ?_
      exact (P : PostI X s W Q (.lst i 0, V)) _ tk1 W1 _ (g1.trans (.push g1.H g1.tk)) (.lst ha ⟨_, Heap.get?_push_size _ rfl, rfl, rfl⟩) (g1.none_of (get?_size_none h1)) (g1.H.none_of (get?_size_none h1)))
    (fun l q P => by
      subst q
      refine r.tups (G := fun val => wpAny X.M A (pyIter val) Q NoE (on s h1 tk1)) fun a vs t rl => wpAny_pyIter_tuple t ?_
      exact (P : PostI X s W Q (.tup l 0, V)) _ tk1 W1 _ (g1.trans (.push g1.H g1.tk)) (.tup (t.push _) (rl.mono (keeps_push _).tups .refl) ⟨_, Heap.get?_push_size _ rfl, rfl, rfl⟩) (g1.none_of (get?_size_none h1)) (g1.H.none_of (get?_size_none h1)))
    fun x q P => P.elim)
end
end
end Mine
end

section
open PySem PySem.W PyProof.Rows
namespace Mine
noncomputable section
/-- the captured cells -/
noncomputable def clos (env : Env) : List (Str × NameKind) → List (Str × Addr) → List (Str × Addr)
  | [], acc => acc
  | (n, k) :: r, acc => clos env r (if k == .free then (n, (env.cells.lookup n).getD 0) :: acc else acc)

/-- the scope of a comprehension, as it runs -/
noncomputable def relab (sc scope : Scope) : Scope := { scope with names := scope.names.map fun (n, k) => if (k == .free && sc.names.lookup n == some .cell) then (n, .cell) else (n, k) }

section
variable {X : Wd} {d : Nat} {sc : Scope} {sl : List Str}

theorem clos_cons {env : Env} {n k r acc} : clos env ((n, k) :: r) acc = clos env r (if k == .free then (n, (env.cells.lookup n).getD 0) :: acc else acc) := rfl
theorem closureFor_eq {env : Env} {scope : Scope} (hf : ∀ n, (n, NameKind.free) ∈ scope.names → (env.cells.lookup n).isSome = true) : closureFor scope env = pure (clos env scope.names []) := by
  unfold closureFor
  have key : ∀ (names : List (Str × NameKind)) (acc : List (Str × Addr)), (∀ n, (n, NameKind.free) ∈ names → (env.cells.lookup n).isSome = true) →
      (forIn names acc fun (x : Str × NameKind) (cs : List (Str × Addr)) => (match x with
        | (name, kind) => if kind == .free then (do let a ← cellOf env name; pure (ForInStep.yield ((name, a) :: cs))) else pure (ForInStep.yield cs) : Sem (ForInStep (List (Str × Addr))))) = pure (clos env names acc) := by
    intro names
    induction names with
    | nil => intro acc _; rfl
    | cons x r ih =>
      obtain ⟨n, k⟩ := x
      intro acc h
      rw [List.forIn_cons]
      have hr : ∀ n, (n, NameKind.free) ∈ r → (env.cells.lookup n).isSome = true := fun m hm => h m (List.mem_cons_of_mem _ hm)
      by_cases hk : k = .free
      · subst hk
        obtain ⟨c, hc⟩ := Option.isSome_iff_exists.mp (h n List.mem_cons_self)
        have e1 : cellOf env n = pure c := by unfold cellOf; rw [hc]
        simp only [beq_self_eq_true, if_true, e1, pure_bind]
        rw [ih _ hr, clos_cons]
        simp [hc]
      · have hb : (k == NameKind.free) = false := by simpa using hk
        simp only [hb, Bool.false_eq_true, if_false, pure_bind]
        rw [ih _ hr, clos_cons, hb]
        rfl
  have := key scope.names [] hf
  exact (bind_pure _).trans this |> fun h => by first | exact h | (simpa using h)

theorem clos_lookup {env : Env} : ∀ {names : List (Str × NameKind)} {acc : List (Str × Addr)} {x : Str} {c : Addr}, (clos env names acc).lookup x = some c →
    (acc.lookup x = some c) ∨ ((x, NameKind.free) ∈ names ∧ c = (env.cells.lookup x).getD 0)
  | [], acc, x, c, h => .inl h
  | (n, k) :: r, acc, x, c, h => by
    unfold clos at h
    rcases clos_lookup h with g | ⟨h1, h2⟩
    · split at g
      · rename_i hk
        rw [List.lookup_cons] at g
        cases hb : x == n with
        | true =>
          rw [hb] at g
          have hx := beq_iff_eq.mp hb
          have hk' := beq_iff_eq.mp hk
          refine .inr ⟨by rw [hx, hk']; exact List.mem_cons_self, ?_⟩
          rw [hx]
          exact (Option.some.inj g).symm
        | false => rw [hb] at g; exact .inl g
      · exact .inl g
    · exact .inr ⟨List.mem_cons_of_mem _ h1, h2⟩
theorem clos_has {env : Env} : ∀ {names : List (Str × NameKind)} {acc : List (Str × Addr)} {x : Str}, ((x, NameKind.free) ∈ names ∨ (acc.lookup x).isSome = true) → ((clos env names acc).lookup x).isSome = true
  | [], acc, x, h => h.elim (fun q => nomatch q) id
  | (n, k) :: r, acc, x, h => by
    unfold clos
    refine clos_has ?_
    rcases h with h | h
    · rcases List.mem_cons.mp h with e | h
      · cases e
        right
        simp [List.lookup_cons]
      · exact .inl h
    · right
      split
      · rw [List.lookup_cons]; split <;> simp_all
      · exact h

/-- the cells of the comprehension's own -/
theorem cells_at : ∀ (names : List (Str × NameKind)) (h : Heap) (acc : List (Str × Addr)) {y : Str} {c : Addr}, (cellsFrom h.objs.size names acc).lookup y = some c →
    (acc.lookup y = some c) ∨ ((y, NameKind.cell) ∈ names ∧ h.objs.size ≤ c ∧ (pushCells h names).IsCell c none)
  | [], h, acc, y, c, e => .inl e
  | (n, k) :: r, h, acc, y, c, e => by
    unfold cellsFrom at e
    unfold pushCells
    split at e
    · rename_i hk
      rw [if_pos hk]
      have hs : (h.push { cls := .type "cell", data := .cell none }).objs.size = h.objs.size + 1 := Heap.size_push ..
      rw [← hs] at e
      rcases cells_at r _ _ e with e | ⟨e1, e2, e3⟩
      · rw [List.lookup_cons] at e
        cases hb : y == n with
        | true =>
          rw [hb] at e
          cases e
          have hx := beq_iff_eq.mp hb
          subst hx
          have hk' := beq_iff_eq.mp hk
          subst hk'
          exact .inr ⟨List.mem_cons_self, Nat.le_refl _, ⟨_, pushCells_keeps r _ _ _ (Heap.get?_push_size _ rfl), rfl⟩⟩
        | false => rw [hb] at e; exact .inl e
      · exact .inr ⟨List.mem_cons_of_mem _ e1, by omega, e3⟩
    · rename_i hk
      rw [if_neg hk]
      rcases cells_at r _ _ e with e | ⟨e1, e2, e3⟩
      · exact .inl e
      · exact .inr ⟨List.mem_cons_of_mem _ e1, e2, e3⟩
theorem cells_inj : ∀ (names : List (Str × NameKind)) (n : Nat) (acc : List (Str × Addr)), (∀ y c, acc.lookup y = some c → c < n) → (∀ x y c, acc.lookup x = some c → acc.lookup y = some c → x = y) →
    ∀ x y c, (cellsFrom n names acc).lookup x = some c → (cellsFrom n names acc).lookup y = some c → x = y
  | [], n, acc, h1, h2 => h2
  | (m, k) :: r, n, acc, h1, h2 => by
    unfold cellsFrom
    split
    · refine cells_inj r (n + 1) _ (fun y c e => ?_) (fun x y c ex ey => ?_)
      · rw [List.lookup_cons] at e
        split at e
        · cases e; exact Nat.lt_succ_self _
        · exact Nat.lt_succ_of_lt (h1 y c e)
      · rw [List.lookup_cons] at ex ey
        cases hx : x == m with
        | true =>
          rw [hx] at ex; cases ex
          cases hy : y == m with
          | true => rw [beq_iff_eq.mp hx, beq_iff_eq.mp hy]
          | false => rw [hy] at ey; exact absurd (h1 y n ey) (Nat.lt_irrefl _)
        | false =>
          rw [hx] at ex
          cases hy : y == m with
          | true => rw [hy] at ey; cases ey; exact absurd (h1 x n ex) (Nat.lt_irrefl _)
          | false => rw [hy] at ey; exact h2 x y c ex ey
    · exact cells_inj r n acc h1 h2
theorem cells_has : ∀ (names : List (Str × NameKind)) (n : Nat) (acc : List (Str × Addr)) {x : Str}, ((x, NameKind.cell) ∈ names ∨ (acc.lookup x).isSome = true) → ((cellsFrom n names acc).lookup x).isSome = true
  | [], n, acc, x, h => h.elim (fun q => nomatch q) id
  | (m, k) :: r, n, acc, x, h => by
    unfold cellsFrom
    split
    · refine cells_has r _ _ ?_
      rcases h with h | h
      · rcases List.mem_cons.mp h with e | h
        · cases e; right; simp [List.lookup_cons]
        · exact .inl h
      · right; rw [List.lookup_cons]; split <;> simp_all
    · rename_i hk
      refine cells_has r _ _ (h.imp (fun h => ?_) id)
      rcases List.mem_cons.mp h with e | h
      · cases e; exact absurd rfl hk
      · exact h

theorem wp_newCompEnv {A : Around} {s : Shared} {E : Value → Shared → Prop} {scope : Scope} {g : Addr} {cl : List (Str × Addr)} {qual : Str} {env : Env} {Q : Env → Shared → Prop}
    (h : Q { scope := scope, locals := s.heap.objs.size, globals := g, cells := cellsFrom (s.heap.objs.size + 1) scope.names cl, qual := qual, func := none, code := env.code, frame := env.frame, builtins := env.builtins }
      { s with heap := pushCells (s.heap.push { cls := .type "dict", data := .dict #[] }) scope.names }) :
    wpAny X.M A (newFunctionEnv scope g cl [] qual none .none (some env)) Q E s := by
  simp only [newFunctionEnv, Option.isSome_some, if_true]
  refine wpAny_bind (wpAny_alloc ?_)
  refine wpAny_bind (wpAny_layCells _ (fun name kind cells => by cases hkc : kind == NameKind.cell <;> simp [hkc]) _ _ _ _ ?_)
  rw [show ({ s with heap := s.heap.push { cls := .type "dict", data := .dict #[] } } : Shared).heap.objs.size = s.heap.objs.size + 1 from Heap.size_push ..]
  exact wpAny_bind (wpAny_pure (wpAny_pure h))


end
/-- the turns of a comprehension into the list id -/
noncomputable def compL (α : φA) (τ : φT) (φ : φE) (id n : Nat) : It → EV → VH → Option VH := Nat.rec (motive := fun _ => It → EV → VH → Option VH) (fun _ _ _ => none)
  (fun _ ih it ev V => bnd (nextI V it) fun r => onNext r (fun v it => bndO (α v ev V) fun ev V => bndO (τ ev V) fun b V =>
    ifB b (bndO (φ ev V) fun x V => bnd (V.get id) fun xs => grd (smallL xs) (ih it ev (V.put id (appR xs [x])))) (ih it ev V)) (some V)) n
noncomputable def initC (k : Nat) (caps : List Nat) (ev : EV) : EV := appR (List.replicate k none) (List.map (fun j => match getF ev j with
  | some o => o
  | none => none) caps)
noncomputable def compE (n k : Nat) (caps : List Nat) (ι : φI) (α : φA) (τ : φT) (φ : φE) : φE := fun ev V => bndO (ι ev V) fun it V => bnd (compL α τ φ V.n n it (initC k caps ev) (V.add [])) fun V' => some (.lst V.n, V')
noncomputable def yesT : φT := fun _ V => some (true, V)
theorem initC_eq {k caps ev} : initC k caps ev = List.replicate k none ++ caps.map fun j => ev[j]?.getD none := by
  unfold initC
  rw [appR_eq]
  congr 1
  apply List.map_congr_left
  intro j _
  rw [getF_eq]
  cases ev[j]? <;> rfl
structure CompOK (sc : Scope) (sl : List Str) (scope : Scope) (own : List Str) (caps : List (Str × Nat)) : Prop where
  kind : scope.kind = .function
  names : ∀ x ∈ scope.names, x.2 = .local → scope.names.lookup x.1 = some .local
  free : ∀ n, (n, NameKind.free) ∈ scope.names → n ∈ sl ∧ (sc.names.lookup n = some .cell ∨ sc.names.lookup n = some .free)
  caps : ∀ p ∈ caps, sl[p.2]? = some p.1 ∧ (p.1, NameKind.free) ∈ scope.names ∧ (p.1, NameKind.cell) ∉ scope.names ∧ (sc.names.lookup p.1 = some .cell ∨ sc.names.lookup p.1 = some .free) ∧
    ((relab sc scope).names.lookup p.1 = some .cell ∨ (relab sc scope).names.lookup p.1 = some .free) ∧ p.1 ≠ "__classdict__"
  own : ∀ x ∈ own, (x, NameKind.free) ∉ scope.names ∧ ((relab sc scope).names.lookup x = some .local ∨ ((relab sc scope).names.lookup x = some .cell ∧ (x, NameKind.cell) ∈ scope.names))


section
variable {X : Wd} {d : Nat} {sc : Scope} {sl : List Str} {A : Around} {s : Shared} {W W' : Wld} {V V' : VH} {env : Env} {ev ev' : EV} {h h' : Heap} {tk : Nat} {Y : Addr → Prop} {it : It} {I : Addr}
noncomputable def SoundIfs (X : Wd) (d : Nat) (sc : Scope) (sl : List Str) (ifs : List Expr) (τ : φT) : Prop := ∀ {A s env W V ev Q}, At X d sc sl A s env W V ev → Su (τ ev V) (PostT X s W Q) →
  wpAny X.M A (forIn ifs true fun c r => if r = true then do let ok ← isTrue c env (eval c env); pure (ForInStep.yield ok) else pure (ForInStep.yield r)) Q NoE s
theorem sound_ifs_nil : SoundIfs X d sc sl [] yesT := fun z P => wpAny_tests_nil ((P : PostT X _ _ _ (true, _)) _ _ _ (.refl z.H z.tk))
theorem sound_ifs_one {c τ} (h : SoundT X d sc sl c τ) : SoundIfs X d sc sl [c] τ := fun z P => wpAny_tests_one (h z P)
theorem iter_self {Q : Value → Shared → Prop} {E} (x : ItR X.σ s.heap W it I) (h : Q (.ref I) s) : wpAny X.M A (pyIter (.ref I)) Q E s := by
  cases x with
  | rng y => exact wpAny_pyIter_rangeiter y h
  | lst _ y => exact wpAny_pyIter_listiter y h
  | tup _ _ y => exact wpAny_pyIter_tupleiter y h
theorem relabel_eq {scope : Scope} (ok : EnvOK sc env) : relabel scope env = relab sc scope := by
  unfold relabel relab Env.kindOf
  rw [ok.scope, ok.kind]
  simp
theorem get?_ge {k} (hk : h.objs.size ≤ k) : h.get? k = none := by
  cases q : h.get? k with
  | none => rfl
  | some o => exact absurd (Heap.lt_size q) (Nat.not_lt.mpr hk)
/-- one more item -/
theorem wp_append {i l xs a va Q} (z : At0 X d A s W V) (hl : W.ρ[i]? = some l) (hx : V.get i = some xs) (hs : smallL xs = true) (r : VR X.σ s.heap W a va)
    (h : ∀ h', Go X Nox s W h' s.toks W (V.put i (appR xs [a])) → Q .none (on s h' s.toks)) : wpAny X.M A (call (.builtin "list.append") [.ref l, va]) Q NoE s := by
  refine z.H.at_ hl hx fun vs l1 r1 hlen => ?_
  have zz := smallL_le hs
  have hm : l ∈ W.ρ := List.mem_of_getElem? hl
  obtain ⟨n, ho⟩ := l1
  refine call_meets slot_list_append ⟨_, ho, rfl⟩ entry_list_append (args_list_append _ _) (list_append l vs n va (by rw [sizeLine_eq]; omega)) ⟨ho, ?_⟩
  have hs' : Heap.SameBut l s.heap (s.heap.update l (Obj.mapSeq fun x => x.push va)) := Heap.SameBut.update ..
  have hex : LsAt (s.heap.update l (Obj.mapSeq fun x => x.push va)) l (vs.push va) := ⟨if (vs.push va).size == vs.size then n else n + 1, by rw [Heap.get?_update_self _ ho rfl]; rfl⟩
  refine h _ ⟨step_update hm hs' ⟨_, hex⟩, z.H.update (VH.get_lt hx) hl hs' hex ?_, z.tk⟩
  rw [Array.toList_push, appR_eq]
  exact r1.append (.cons r .nil)
/-- the frame of a comprehension, as it begins -/
theorem envRel_comp {scope : Scope} {own : List Str} {caps : List (Str × Nat)} (K : CompOK sc sl scope own caps) {h : Heap} {env : Env} {W V ev} (ok : EnvOK sc env) (H : HRel X h W V) (R : EnvRel X h env sl W ev) :
    EnvRel X (pushCells (h.push { cls := .type "dict", data := .dict #[] }) scope.names)
      { scope := relab sc scope, locals := h.objs.size, globals := env.globals, cells := cellsFrom (h.objs.size + 1) scope.names (clos env scope.names []), qual := env.qual, func := none, code := env.code, frame := env.frame, builtins := env.builtins }
      (own ++ caps.map (·.1)) W (initC own.length (caps.map (·.2)) ev) := by
  have hk : ∀ a o, h.get? a = some o → (pushCells (h.push { cls := .type "dict", data := .dict #[] }) scope.names).get? a = some o :=
    fun a o e => pushCells_keeps _ _ _ _ (Heap.get?_push_of_some _ e)
  have hs : (h.push { cls := .type "dict", data := .dict #[] }).objs.size = h.objs.size + 1 := Heap.size_push ..
  have fresh : ∀ c, h.objs.size ≤ c → X.h0.get? c = none := fun c hc => H.none_of (get?_ge hc)
  have outer : ∀ {x c}, (clos env scope.names []).lookup x = some c → env.cells.lookup x = some c := fun {x c} e => by
    rcases clos_lookup e with q | ⟨q1, q2⟩
    · cases q
    · obtain ⟨f1, f2⟩ := K.free x q1
      have hkind : env.kindOf x = sc.names.lookup x := ok.kindOf
      obtain ⟨c', hc'⟩ := R.has x f1 (by rw [hkind]; exact f2)
      rw [hc'] at q2
      rw [hc', q2]; rfl
  have at_ : ∀ {y c}, (cellsFrom (h.objs.size + 1) scope.names (clos env scope.names [])).lookup y = some c → ((clos env scope.names []).lookup y = some c) ∨ ((y, NameKind.cell) ∈ scope.names ∧ h.objs.size + 1 ≤ c ∧
      (pushCells (h.push { cls := .type "dict", data := .dict #[] }) scope.names).IsCell c none) := fun {y c} e => by
    rw [← hs] at e ⊢
    exact cells_at scope.names _ _ e
  have freeHas : ∀ {x}, (x, NameKind.free) ∈ scope.names → ((cellsFrom (h.objs.size + 1) scope.names (clos env scope.names [])).lookup x).isSome = true := fun {x} hx => cells_has _ _ _ (.inr (clos_has (.inl hx)))
  refine ⟨⟨fun _ => none, (Heap.Ns.new h (.type "dict")).keeps (pushCells_keeps _ _), rfl⟩, fresh _ (Nat.le_refl _), ?_, ?_, ?_, ?_⟩
  · intro i x v e1 e2
    rw [initC_eq] at e2
    have hi : own.length ≤ i := by
      rcases Nat.lt_or_ge i own.length with q | q
      · rw [List.getElem?_append_left (by simpa using q), List.getElem?_replicate] at e2
        split at e2 <;> cases e2
      · exact q
    rw [List.getElem?_append_right (by simpa using hi), List.length_replicate, List.map_map, List.getElem?_map] at e2
    rw [List.getElem?_append_right hi, List.getElem?_map] at e1
    obtain ⟨p, hp, q1⟩ := Option.map_eq_some_iff.mp e1
    obtain ⟨p', hp', q2⟩ := Option.map_eq_some_iff.mp e2
    rw [hp] at hp'; cases hp'
    obtain ⟨c1, c2, c3, c4, c5, c6⟩ := K.caps p (List.mem_of_getElem? hp)
    subst q1
    have e3 : ev[p.2]? = some (some v) := by
      show ev[p.2]? = _
      have q2' : ev[p.2]?.getD none = some v := q2
      cases q : ev[p.2]? with
      | none => rw [q] at q2'; cases q2'
      | some z => rw [q] at q2'; simp only [Option.getD_some] at q2'; rw [q2']
    obtain ⟨val, l, r⟩ := R.var p.2 p.1 v c1 e3
    refine ⟨val, ?_, r.mono (Keeps.tups hk) .refl⟩
    have hkind : env.kindOf p.1 = sc.names.lookup p.1 := ok.kindOf
    rcases l with ⟨l1, _⟩ | ⟨l1, l2, c, l3, l4⟩
    · rw [hkind] at l1
      rcases c4 with c4 | c4 <;> rw [l1] at c4 <;> cases c4
    · refine .inr ⟨c5, c6, c, ?_, l4.keeps hk⟩
      obtain ⟨c', hc'⟩ := Option.isSome_iff_exists.mp (freeHas c2)
      rcases at_ hc' with q | ⟨q, _⟩
      · have := outer q
        rw [l3] at this
        cases this
        exact hc'
      · exact absurd q c3
  · intro x c hc
    rcases at_ hc with q | ⟨q1, q2, q3⟩
    · obtain ⟨⟨v, hv⟩, hc0⟩ := R.cell x c (outer q)
      exact ⟨⟨v, hv.keeps hk⟩, hc0⟩
    · exact ⟨⟨none, q3⟩, fresh c (by omega)⟩
  · refine cells_inj _ _ _ (fun y c e => ?_) (fun x y c ex ey => R.apart x y c (outer ex) (outer ey))
    obtain ⟨⟨v, hv⟩, _⟩ := R.cell y c (outer e)
    exact Nat.lt_succ_of_lt hv.lt
  · intro x hx hkx
    rcases List.mem_append.mp hx with hx | hx
    · rcases (K.own x hx).2 with q | ⟨q1, q2⟩
      · have : (relab sc scope).names.lookup x = some .cell ∨ (relab sc scope).names.lookup x = some .free := hkx
        rw [q] at this
        rcases this with q | q <;> cases q
      · exact Option.isSome_iff_exists.mp (cells_has _ _ _ (.inl q2))
    · obtain ⟨p, hp, rfl⟩ := List.mem_map.mp hx
      obtain ⟨_, c2, _⟩ := K.caps p hp
      exact Option.isSome_iff_exists.mp (freeHas c2)

theorem comp_loop {elt target iter : Expr} {ifs : List Expr} {scope : Scope} {pos : Pos} {it acc : Value} {R : Result → Shared → Prop} (I : Nat → Shared → Prop)
    (turn : ∀ n s, I n s → wpAny X.M A (pyNext it) (fun r s₁ => match r with
      | none => R (.ok .next) s₁
      | some v => wpAny X.M A (letOwnedTupleGo target it v) (fun _ s₁' => wpAny X.M A (assign target env v) (fun _ s₂ =>
          wpAny X.M A (forIn ifs true fun c r => if r = true then do let ok ← isTrue c env (eval c env); pure (ForInStep.yield ok) else pure (ForInStep.yield r)) (fun ok s₃ =>
            if ok = true then wpAny X.M A (eval elt env) (fun x s₄ => wpAny X.M A (call (.builtin "list.append") [acc, x]) (fun _ s₅ => ∃ m, m < n ∧ I m s₅) NoE s₄) NoE s₃
            else ∃ m, m < n ∧ I m s₃) NoE s₂) NoE s₁') NoE s₁) NoE s) (n : Nat) (h : I n s) : codeAny X.M A (.compLoop (.ListComp elt [⟨target, iter, ifs, 0⟩] scope pos) 0 it acc env) R s := by
  refine codeAny_loop rfl I (fun n s hI => ?_) n h
  show wpAny _ A ((compTurn (.ListComp elt [⟨target, iter, ifs, 0⟩] scope pos) 0 it acc env).onRaise (fun x => do noteFrame x env; theTreesLotGoes x)) _ _ s
  refine wpAny_noted ?_
  rw [compTurn_list]
  have N : ∀ {E : Value → Shared → Prop} (e : Value) (s' : Shared), NoE e s' → E e s' := fun _ _ x => x.elim
  refine wpAny_bind (wpAny_standAt (wpAny_bind (wpAny_mono (turn n s hI) (fun r s₁ h₁ => ?_) N)))
  cases r with
  | none => exact wpAny_pure h₁
  | some v =>
    refine wpAny_bind (wpAny_mono h₁ (fun _ s₁' h₁' => wpAny_bind (wpAny_mono h₁' (fun _ s₂ h₂ => wpAny_bind (wpAny_mono h₂ (fun ok s₃ h₃ => ?_) N)) N)) N)
    cases ok with
    | false => exact wpAny_pure ⟨rfl, h₃⟩
    | true => exact wpAny_bind (wpAny_bind (wpAny_mono h₃ (fun x s₄ h₄ => wpAny_bind (wpAny_mono h₄ (fun _ s₅ h₅ => wpAny_pure (wpAny_pure ⟨rfl, h₅⟩)) N)) N))
/-- behind a comprehension's loop -/
noncomputable def PostC (X : Wd) (A : Around) (use : Option (Value → Sem Unit)) (s : Shared) (W : Wld) (Q : Value → Shared → Prop) (r : AV × VH) : Prop :=
  ∀ h tk W' val L m, Go X Nox s W h tk W' r.2 → VR X.σ h W' r.1 val → h.Ns L m → m "_headers" = none → s.heap.get? L = none → X.h0.get? L = none → compPost X.M A NoE use Q val L (.ok .next) (on s h tk)
noncomputable def CompInv (X : Wd) (own sl : List Str) (s : Shared) (cenv : Env) (W : Wld) (α : φA) (τ : φT) (φ : φE) (id : Nat) (D I : Addr) (K : VH → Prop) (k : Nat) (s' : Shared) : Prop :=
  ∃ it ev V W' h tk, s' = on s h tk ∧ Go X (fun a => Own own cenv a ∨ a = I) s W h tk W' V ∧ EnvRel X h cenv sl W' ev ∧ ItR X.σ h W' it I ∧ W'.ρ[id]? = some D ∧ Su (compL α τ φ id k it ev V) K
end
end
end Mine
end

section
open PySem PySem.W PyProof.Rows
namespace Mine
section
variable {X : Wd} {d : Nat} {sc : Scope} {sl : List Str} {A : Around} {s : Shared} {W W' : Wld} {V V' : VH} {env : Env} {ev ev' : EV} {h h' : Heap} {tk : Nat} {Y : Addr → Prop} {it : It} {I : Addr}
theorem Step.same {h'' L} (S : Step Y h W h' W') (hs : Heap.SameBut L h' h'') (hL : h.get? L = none) : Step Y h W h'' W' := by
  have ne : ∀ {a}, h.get? a ≠ none → a ≠ L := fun ha q => ha (q ▸ hL)
  exact ⟨fun a o ho hn hx => same_keep hs (ne (live_of ho)) (S.ext a o ho hn hx), fun a ha => by rw [hs.2 a (ne ha)]; exact S.live a ha, S.ρ, S.η⟩
theorem nox_iter : ¬ Nox I := id
/-- the turns of a comprehension's loop -/
theorem comp_turns {elt target iter : Expr} {ifs : List Expr} {scope : Scope} {pos : Pos} {own slC : List Str} {scC : Scope} {n id : Nat} {α τ φ} {use : Option (Value → Sem Unit)} {Q : Value → Shared → Prop} {cenv : Env} {D L : Addr}
    (ha : SoundA X d scC slC own target α) (ht : SoundIfs X d scC slC ifs τ) (he : SoundE X d scC slC elt φ) (rm : Room A d) (ok : EnvOK scC cenv) (co : CellsOK scC slC cenv) (hL : cenv.locals = L) (hI : s.heap.get? I = none) (hI0 : X.h0.get? I = none)
    (fr : ∀ a, Own own cenv a → s.heap.get? a = none) (z : CompInv X own slC s cenv W α τ φ id D I (fun V => PostC X A use s W Q (.lst id, V)) n (on s h tk)) :
    codeAny X.M A (.compLoop (.ListComp elt [⟨target, iter, ifs, 0⟩] scope pos) 0 (.ref I) (.ref D) cenv) (compPost X.M A NoE use Q (.ref D) L) (on s h tk) := by
  refine comp_loop (CompInv X own slC s cenv W α τ φ id D I _) ?_ n z
  rintro k s' ⟨it, ev, V, W', h', tk', rfl, g, R, x, hD, P⟩
  cases k with
  | zero => exact P.elim
  | succ k =>
  have zz : At X d scC slC A (on s h' tk') cenv W' V ev := ⟨⟨rm, g.H, g.tk⟩, ok, co, R⟩
  have w : ∀ {h W h' W'}, Step (Own own cenv) h W h' W' → Step (fun a => Own own cenv a ∨ a = I) h W h' W' := fun S => S.weaken fun _ => .inl
  refine wpT g.tk (next_ok (s := on s h' tk') rm.hh g.H x P (fun h2 tk2 val v it2 kt hl x2 rv P hp => ?_) fun h2 tk2 kt P hp => ?_)
  · have g2 := g.trans (s := s) (⟨step_turn (Y := Own own cenv) kt hl, g.H.iter x.obj kt hI0, hp⟩ : Go X _ (on s h' tk') W' h2 tk2 W' V)
    have z2 : At X d scC slC A (on s h2 tk2) cenv W' V ev := ⟨⟨rm, g2.H, g2.tk⟩, ok, co, R.iter x.obj kt⟩
    refine letGo_ok (s := on s h2 tk2) x2 (ha z2 rv (P.bndO fun ev3 V3 P h3 tk3 W3 g3 R3 => ?_))
    have x3 := x2.step g2.H g3.S (own_not_iter z2.R x2.obj) (noTup_own z2.R)
    have g3' := g2.trans ⟨w g3.S, g3.H, g3.tk⟩
    have z3 := z2.goS g3 R3
    have hD3 := g3.S.grow.l hD
    refine ht z3 (P.bndO fun b V4 P h4 tk4 W4 g4 => ?_)
    have x4 := x3.step g3.H g4.S nox_iter noTup_nox
    have g4' := g3'.trans g4.nox
    have z4 := z3.go g4
    have hD4 := g4.S.grow.l hD3
    cases b with
    | true =>
      refine he z4 (P.bndO fun v V5 P h5 tk5 W5 va g5 rx => P.bnde fun xs hx P => P.grd fun hs P => ?_)
      refine wp_append (z4.go g5).toAt0 (g5.S.grow.l hD4) hx hs rx fun h6 g6 => ?_
      exact ⟨k, Nat.lt_succ_self _, it2, ev3, _, W5, h6, tk5, rfl, (g4'.trans g5.nox).trans g6.nox, ((z4.go g5).go g6).R, (x4.step g4.H g5.S nox_iter noTup_nox).step g5.H g6.S nox_iter noTup_nox, g5.S.grow.l hD4, P⟩
    | false => exact ⟨k, Nat.lt_succ_self _, it2, ev3, V4, W4, h4, tk4, rfl, g4', z4.R, x4, hD4, P⟩
  · have S4 : Step Nox s.heap W h2 W' := by
      have S := g.S.endI hI kt
      exact ⟨fun a o e hn _ => S.ext a o e hn (fun q => by rw [fr a q] at e; cases e), S.live, S.ρ, S.η⟩
    obtain ⟨m, hn, hm⟩ := (R.iter x.obj kt).ns
    rw [hL] at hn
    have hL0 := R.L0
    rw [hL] at hL0
    exact (P : PostC X A use s W Q (.lst id, V)) h2 tk2 W' _ L m ⟨S4, g.H.iter x.obj kt hI0, hp⟩ (.lst hD) hn hm (fr L (.inl hL.symm)) hL0
theorem comp_core {elt target iter : Expr} {ifs : List Expr} {scope : Scope} {pos : Pos} {own : List Str} {caps : List (Str × Nat)} (K : CompOK sc sl scope own caps) {n : Nat} {ι α τ φ} {use : Option (Value → Sem Unit)}
    (hs : ∀ env x, foldedSetIterable iter env x = pure x) (hi : SoundI X d sc sl iter ι) (ha : SoundA X d (relab sc scope) (own ++ caps.map (·.1)) own target α)
    (ht : SoundIfs X d (relab sc scope) (own ++ caps.map (·.1)) ifs τ) (he : SoundE X d (relab sc scope) (own ++ caps.map (·.1)) elt φ) {Q : Value → Shared → Prop} {p : Pos}
    (z : At X d sc sl A s env W V ev) (P : Su (compE n own.length (caps.map (·.2)) ι α τ φ ev V) (PostC X A use s W Q)) :
    wpAny X.M A (comprehension (.ListComp elt [⟨target, iter, ifs, 0⟩] scope pos) scope env p (newList []) false (eval iter env) use) Q NoE s := by
  refine wpAny_comprehension_free (cl := clos env scope.names []) rfl (hs env) (closureFor_eq fun m hm => ?_) K.kind K.names ?_
  · obtain ⟨f1, f2⟩ := K.free m hm
    obtain ⟨c, hc⟩ := z.R.has m f1 (by rw [z.ok.kindOf]; exact f2)
    rw [hc]; rfl
  refine hi z (P.bndO fun it V1 P h1 tk1 W1 I g1 x1 hI hI0 => ?_)
  refine wpAny_newList ?_ (by decide)
  have g2 : Go X Nox s W (h1.push (lsObj ([] : List Value).toArray)) tk1 (W1.more h1.objs.size) (V1.add []) := g1.trans (s := s) ⟨step_alloc, g1.H.alloc (l := []) (vs := []) .nil, g1.tk⟩
  have hD : (W1.more h1.objs.size).ρ[V1.n]? = some h1.objs.size := by
    show (W1.ρ ++ [h1.objs.size])[V1.n]? = _
    rw [← g1.H.len, List.getElem?_append_right (Nat.le_refl _), Nat.sub_self]; rfl
  have x2 := x1.step g1.H (step_alloc (Y := Nox) (o := lsObj ([] : List Value).toArray)) nox_iter noTup_nox
  generalize hh2 : h1.push (lsObj ([] : List Value).toArray) = h2 at g2 x2
  have R2 := (z.go g2).R
  refine wp_newCompEnv ?_
  have hk3 : Keeps h2 (pushCells (h2.push { cls := .type "dict", data := .dict #[] }) scope.names) := fun a o e => pushCells_keeps _ _ _ _ (Heap.get?_push_of_some _ e)
  have g3 : Go X Nox s W _ tk1 (W1.more h1.objs.size) (V1.add []) := ⟨g2.S.trans (.of_keeps hk3), g2.H.keeps hk3, g2.tk⟩
  have R3 := envRel_comp K z.ok g2.H R2
  have x3 := x2.mono (hk3 I) (Keeps.tups hk3) .refl
  have hsz : ∀ k, h2.objs.size ≤ k → s.heap.get? k = none := fun k hk => g2.none_of (get?_ge hk)
  dsimp only
  rw [relabel_eq z.ok]
  have ownFresh : ∀ a, Own own { scope := relab sc scope, locals := h2.objs.size, globals := env.globals, cells := cellsFrom (h2.objs.size + 1) scope.names (clos env scope.names []), qual := env.qual, func := none, code := env.code, frame := env.frame, builtins := env.builtins } a → s.heap.get? a = none := by
    rintro a (rfl | ⟨x, hx, hl⟩)
    · exact hsz _ (Nat.le_refl _)
    · have hs2 : (h2.push { cls := .type "dict", data := .dict #[] }).objs.size = h2.objs.size + 1 := Heap.size_push ..
      rcases cells_at scope.names (h2.push { cls := .type "dict", data := .dict #[] }) _ (by rw [hs2]; exact hl) with q | ⟨_, q2, _⟩
      · exact (clos_lookup q).elim (fun q => nomatch q) fun q => absurd q.1 (K.own x hx).1
      · exact hsz a (by omega)
  generalize hc : ({ scope := relab sc scope, locals := h2.objs.size, globals := env.globals, cells := cellsFrom (h2.objs.size + 1) scope.names (clos env scope.names []), qual := env.qual, func := none, code := env.code, frame := env.frame, builtins := env.builtins } : Env) = cenv at R3 ownFresh ⊢
  have ok3 : EnvOK (relab sc scope) cenv := by subst hc; exact ⟨rfl, K.kind, z.ok.globals, z.ok.builtins⟩
  have hloc : cenv.locals = h2.objs.size := by rw [← hc]
  have main := comp_turns (pos := pos) (iter := iter) (scope := scope) (use := use) (Q := Q) (D := h1.objs.size) ha ht he z.rm ok3 (fun x hx hm => R3.has x hm (by left; rw [ok3.kindOf]; exact hx)) hloc hI hI0 ownFresh
    ⟨it, _, _, _, _, _, rfl, g3.nox, R3, x3, hD, P.bnd fun V P => P⟩
  exact codeAny_compStart_list main (iter_self (s := on s _ tk1) x3 main)
theorem sound_comp {elt target iter : Expr} {ifs : List Expr} {scope : Scope} {pos : Pos} {own : List Str} {caps : List (Str × Nat)} (n : Nat) {ι α τ φ} (K : CompOK sc sl scope own caps)
    (hs : ∀ env x, foldedSetIterable iter env x = pure x) (hi : SoundI X d sc sl iter ι) (ha : SoundA X d (relab sc scope) (own ++ caps.map (·.1)) own target α)
    (ht : SoundIfs X d (relab sc scope) (own ++ caps.map (·.1)) ifs τ) (he : SoundE X d (relab sc scope) (own ++ caps.map (·.1)) elt φ) :
    SoundE X d sc sl (.ListComp elt [⟨target, iter, ifs, 0⟩] scope pos) (compE n own.length (caps.map (·.2)) ι α τ φ) := fun {A s env W V ev Q} z P => by
  rw [eval_ListComp]
  exact comp_core K hs hi ha ht he z (P.mono fun r P h' tk W' val L m g v n' hm hL hL0 => ⟨m, n', fun h'' hs'' => (P : PostE X s W Q r) h'' tk W' val ⟨g.S.same hs'' hL, g.H.store n' hm hs'' hL0, g.tk⟩
    (v.mono (fun a us ht => tup_keep ht fun o e => same_keep hs'' (fun q => ns_no_tup n' (q ▸ ht)) e) .refl)⟩)
theorem EnvRel.otherNs {L m} (R : EnvRel X h env sl W ev) (n : h.Ns L m) (hs : Heap.SameBut L h h') (hne : env.locals ≠ L) : EnvRel X h' env sl W ev :=
  R.of (fun m x => x.sameBut hs hne) (fun x c v _ hv => hv.sameBut hs fun q => cell_no_ns hv (q ▸ n)) (fun a us ht => tup_keep ht fun o e => same_keep hs (fun q => ns_no_tup n (q ▸ ht)) e) .refl
/-- a comprehension stored into a name, the stores exchanged -/
theorem sound_assignComp (SO : SlotsOK sc sl) {elt target iter : Expr} {ifs : List Expr} {scope : Scope} {pos spos py : Pos} {y : Str} {own : List Str} {caps : List (Str × Nat)} (n : Nat) {ι α τ φ} (K : CompOK sc sl scope own caps) (i : Nat)
    (hy : sl[i]? = some y) (hk : sc.names.lookup y = some .local) (hsw : ∀ env, EnvOK sc env → swapsWith (.ListComp elt [⟨target, iter, ifs, 0⟩] scope pos) (some (.Name y py)) spos.line env = pure true)
    (hs : ∀ env x, foldedSetIterable iter env x = pure x) (hi : SoundI X d sc sl iter ι) (ha : SoundA X d (relab sc scope) (own ++ caps.map (·.1)) own target α)
    (ht : SoundIfs X d (relab sc scope) (own ++ caps.map (·.1)) ifs τ) (he : SoundE X d (relab sc scope) (own ++ caps.map (·.1)) elt φ) :
    SoundS X d sc sl (.Assign [.Name y py] (.ListComp elt [⟨target, iter, ifs, 0⟩] scope pos) spos) (assignS (compE n own.length (caps.map (·.2)) ι α τ φ) (nameA i)) := fun {A s env W V ev Q} z P => by
  rw [exec_Assign_Name_used y py _ spos (hsw env z.ok)]
  have eU : evalThenUse (.ListComp elt [⟨target, iter, ifs, 0⟩] scope pos) env (assign (.Name y py) env) = (comprehension (.ListComp elt [⟨target, iter, ifs, 0⟩] scope pos) scope env (firstIterPos [⟨target, iter, ifs, 0⟩] pos) (newList []) false (eval iter env)
    (some (assign (.Name y py) env)) >>= fun _ => pure ()) := rfl
  rw [eU]
  refine wpAny_bind (wpAny_standAt (wpAny_bind (wpAny_bind ?_)))
  refine comp_core K hs hi ha ht he z (P.bndO fun v V P h' tk W' val L m g r n' hm hL hL0 => ?_)
  show wpAny X.M A (assign (.Name y py) env val) _ NoE _
  have hLl : env.locals ≠ L := fun q => by
    obtain ⟨m', ⟨o, es, ep, ho, _⟩, _⟩ := z.R.ns
    rw [q, hL] at ho; cases ho
  refine wpAny_assign_Name (wp_store SO (st := sl) (z.go g) (List.mem_of_getElem? hy) hy (.inl hk) r fun h2 tk2 W2 g2 R2 => ?_)
  have nL : h2.Ns L m := ns_keep n' fun o e => g2.S.ext L o e (g.H.ns_out n') (by
    rintro (q | ⟨x, _, hx⟩)
    · exact hLl q.symm
    · obtain ⟨⟨v', o', ho', _⟩, _⟩ := z.R.cell x L hx
      rw [hL] at ho'; cases ho')
  have gg := g.nox.trans g2
  refine ⟨m, nL, fun h3 hs3 => wpAny_pure (wpAny_pure ?_)⟩
  rw [← setF_eq] at R2
  exact PostS.next (s := s) (W := W) P ⟨gg.S.same hs3 hL, g2.H.store nL hm hs3 hL0, g2.tk⟩ (R2.otherNs nL hs3 hLl)
end
end Mine
end

section
open PySem PySem.W PyProof.Rows
namespace Mine
noncomputable section
/-- a callee whose keeper is plain -/
noncomputable def KeepOK (M : Model) (h0 : Heap) (f : Value) : Prop := ∃ k, (k = Keeper.frame ∨ k = Keeper.machine ∨ k = Keeper.boundFrame) ∧ Looks M h0 (keeperOf f) k
theorem keep_builtin {M : Model} {h0 : Heap} {id : String} : KeepOK M h0 (.builtin id) := ⟨.machine, .inr (.inl rfl), Looks.of_pure rfl⟩
theorem keep_type {M : Model} {h0 : Heap} {n : String} : KeepOK M h0 (.type n) := ⟨.machine, .inr (.inl rfl), Looks.of_pure rfl⟩
theorem keep_def {M : Model} {h0 : Heap} {a : Addr} {o : Obj} {fd : FuncData} (ho : h0.get? a = some o) (hd : o.data = .func fd) : KeepOK M h0 (.ref a) := by
  refine ⟨.frame, .inl rfl, ?_⟩
  intro A Q E s hk hq
  unfold keeperOf
  refine wpAny_bind (wpAny_load (hk _ _ ho) ?_)
  rw [hd]
  exact wpAny_pure hq
/-- a name of the module's or a built-in one -/
noncomputable def GlobalIs (mg mb : Str → Option Value) (x : Str) (v : Value) : Prop := mg x = some v ∨ (mg x = none ∧ x ≠ "__name__" ∧ bootBuiltins x = some v)
noncomputable def callE (F : FF) (ψ : φEs) : φE := fun ev V => bndO (ψ ev V) fun l V => F l V
noncomputable def fvOf : Flw → AV
  | .next => .none
  | .ret v => v
/-- a def's function: its parameters' places first, n more -/
noncomputable def defF (k n : Nat) (φ : φS) : FF := fun args V => grd (Nat.beq (lenR args) k) (bnd (φ (appR (List.map some args) (List.replicate n none)) V) fun r => some (fvOf r.1, r.2.2))
structure FnAt (h0 : Heap) (a : Addr) (fd : FuncData) (sc : Scope) (body : List Stmt) : Prop where
  at_ : ∃ o, h0.get? a = some o ∧ o.data = .func fd
  scope : fd.scope = sc
  body : fd.body = .stmts body
  globals : fd.globals = mainGlobals
  builtins : fd.builtins = builtinsNs
  closure : fd.closure = []
  code : h0.CodeRec fd.code fd.qualname
  co : sc.isCoroutine = false
  gen : sc.isGenerator = false
  kind : sc.kind = .function
theorem FnAt.keep {M h0 a fd sc body} (D : FnAt h0 a fd sc body) : KeepOK M h0 (.ref a) := let ⟨_, ho, hd⟩ := D.at_; keep_def ho hd
/-- the binding of a call's arguments, that may make a dict -/
noncomputable def BindX (s s1 : Shared) (fd : FuncData) (args : Args) (binds : List (Str × Value)) : Prop :=
  ∀ (M : Model) (A : Around) (E : Value → Shared → Prop) (Q : List (Str × Value) → Shared → Prop), Q binds s1 → wpAny M A (bindArgs fd args) Q E s
/-- what a def's frame asks of its names -/
structure ParOK (sc : Scope) (params more : List Str) : Prop where
  nodup : params.Nodup
  noHdr : ∀ y ∈ params, y ≠ "_headers"
  kind : ∀ y ∈ params, sc.names.lookup y = some .local ∨ (sc.names.lookup y = some .cell ∧ y ≠ "__classdict__" ∧ ∀ n, ((cellsFrom n sc.names []).lookup y).isSome = true)
  free : ∀ y ∈ params ++ more, sc.names.lookup y ≠ some .free
section
variable {X : Wd} {d : Nat} {sc : Scope} {sl : List Str} {A : Around} {s : Shared} {W W' : Wld} {V V' : VH} {env : Env} {ev ev' : EV} {h h' : Heap} {tk : Nat} {Y : Addr → Prop} {mg mb : Str → Option Value}
theorem wp_global (B : Base X.h0 mg mb) {x : Str} {pos : Pos} {v : Value} {Q : Value → Shared → Prop} (z : At X d sc sl A s env W V ev) (hx : sc.names.lookup x = some .globalImplicit) (g : GlobalIs mg mb x v) (h : Q v s) (hd : (x == ("__debug__" : Str)) = false) :
    wpAny X.M A (eval (.Name x pos) env) Q NoE s := by
  have hg : s.heap.Ns env.globals mg := z.ok.globals ▸ B.g.keeps z.H.base
  have hb : s.heap.Ns env.builtins mb := z.ok.builtins ▸ B.b.keeps z.H.base
  rcases g with g | ⟨g1, g2, g3⟩
  · exact Calls.Name_function_global z.ok.fn (z.ok.kindOf.trans hx) (Calls.loadGlobal_global hg g h) hd
  · exact Calls.Name_function_global z.ok.fn (z.ok.kindOf.trans hx) (Calls.loadGlobal_builtin hg g1 hb ((B.builtins x g2).trans g3) h) hd
theorem wp_callWith {pos : Pos} {f : Value} {first : List Value} {args : List Expr} {Q : Value → Shared → Prop} (hk : KeepOK X.M X.h0 f) (hp : (starEach args env).any (·.1) = false)
    (h : wpAny X.M A (spliced (backTo pos (starEach args env))) (fun vs s₁ => Keeps X.h0 s₁.heap ∧ wpAny X.M A (call f (first ++ vs)) Q NoE s₁) NoE s) : wpAny X.M A (callWith pos f first (backTo pos (starEach args env)) []) Q NoE s := by
  obtain ⟨k, hk1, hk2⟩ := hk
  have hany : (backTo pos (starEach args env)).any (·.1) = false := by
    rw [← hp]; unfold backTo; rw [List.any_map]; congr 1
  refine callWith_of (P := Keeps X.h0) (by rw [hany]; rfl) (fun h ph => ⟨k, hk1, hk2.keeps ph⟩) ?_
  unfold evalArgs
  cases hl : backTo pos (starEach args env) with
  | nil =>
    rw [hl] at h
    refine wpAny_bind ?_
    show wpAny X.M A (spliced [] >>= _) _ _ s
    exact wpAny_bind (wpAny_mono h (fun vs s' h' => wpAny_pure (wpAny_holding (wpAny_bind (wpAny_pure (wpAny_bind (wpAny_pure (wpAny_pure h'))))))) fun _ _ x => x)
  | cons x r =>
    obtain ⟨st, t⟩ := x
    have hst : st = false := by
      rw [hl, List.any_cons, Bool.or_eq_false_iff] at hany
      exact hany.1
    subst hst
    rw [hl] at h
    show wpAny X.M A (spliced ((false, t) :: r) >>= _) _ _ s
    exact wpAny_bind (wpAny_mono h (fun vs s' h' => wpAny_holding (wpAny_bind (wpAny_pure (wpAny_bind (wpAny_pure (wpAny_pure h')))))) fun _ _ x => x)
theorem sound_call (B : Base X.h0 mg mb) {x npos args pos F ψ f} (hx : sc.names.lookup x = some .globalImplicit) (g : GlobalIs mg mb x f) (hd : (x == ("__debug__" : Str)) = false) (hk : KeepOK X.M X.h0 f)
    (hf : SoundF X d f F) (ha : SoundEs X d sc sl args ψ) : SoundE X d sc sl (.Call (.Name x npos) args [] pos) (callE F ψ) := fun z P =>
  wpAny_Call_NameR (wp_global B z hx g (wp_callWith hk (ha.1 _) (ha.2 z (P.bndO fun l V P h1 tk1 W1 vs g1 rs => ⟨g1.H.base, hf (z.toAt0.go g1) rs (P.mono fun r P => PostE.after P g1)⟩))) hd)
theorem bindL_of {k : Str → Option NameKind} : ∀ {binds : List (Str × Value)} {m : Str → Option Value} {x : Str}, (∀ p ∈ binds, p.1 ≠ x) → bindL k binds m x = m x
  | [], _, _, _ => rfl
  | (n, v) :: r, m, x, h => by
    unfold bindL
    rw [bindL_of fun p hp => h p (List.mem_cons_of_mem _ hp)]
    split
    · exact if_neg (Ne.symm (h (n, v) List.mem_cons_self))
    · rfl
theorem bindC_of {k : Str → Option NameKind} : ∀ {binds : List (Str × Value)} {m : Str → Option Value} {x : Str}, (∀ p ∈ binds, p.1 ≠ x) → bindC k binds m x = m x
  | [], _, _, _ => rfl
  | (n, v) :: r, m, x, h => by
    unfold bindC
    rw [bindC_of fun p hp => h p (List.mem_cons_of_mem _ hp)]
    split
    · rfl
    · exact if_neg (Ne.symm (h (n, v) List.mem_cons_self))
theorem bindL_get {k : Str → Option NameKind} {x : Str} {v : Value} (hk : k x = some .local) : ∀ {binds : List (Str × Value)} {m : Str → Option Value}, (binds.map (·.1)).Nodup → (x, v) ∈ binds → bindL k binds m x = some v
  | p :: r, m, hn, hm => by
    rw [List.map_cons, List.nodup_cons] at hn
    refine (List.mem_cons.mp hm).elim (fun e => ?_) fun hm => by unfold bindL; exact bindL_get hk hn.2 hm
    subst e
    unfold bindL
    rw [bindL_of fun p hp q => hn.1 (List.mem_map.mpr ⟨p, hp, q⟩), if_pos hk]
    exact if_pos rfl
theorem bindC_get {k : Str → Option NameKind} {x : Str} {v : Value} (hk : k x ≠ some .local) : ∀ {binds : List (Str × Value)} {m : Str → Option Value}, (binds.map (·.1)).Nodup → (x, v) ∈ binds → bindC k binds m x = some v
  | p :: r, m, hn, hm => by
    rw [List.map_cons, List.nodup_cons] at hn
    refine (List.mem_cons.mp hm).elim (fun e => ?_) fun hm => by unfold bindC; exact bindC_get hk hn.2 hm
    subst e
    unfold bindC
    rw [bindC_of fun p hp q => hn.1 (List.mem_map.mpr ⟨p, hp, q⟩), if_neg hk]
    exact if_pos rfl
/-- the frame of a def, as its body begins -/
theorem envRel_call {s₁ : Shared} {params : List Str} {args : List AV} {vals : List Value} (H : HRel X s.heap W V) (x : InCallC s env.locals (bindL env.kindOf (params.zip vals) fun _ => none) env.cells (bindC env.kindOf (params.zip vals) fun _ => none) s₁)
    (rs : VRs X.σ s.heap W args vals) (hlen : args.length = params.length) (hnd : params.Nodup) (hnh : ∀ y ∈ params, y ≠ "_headers")
    (hkind : ∀ y ∈ params, (env.kindOf y = some .local) ∨ (env.kindOf y = some .cell ∧ y ≠ "__classdict__" ∧ (env.cells.lookup y).isSome = true)) (more : List Str) (n : Nat) (hhas : ∀ y ∈ params ++ more, (env.kindOf y = some .cell ∨ env.kindOf y = some .free) → ∃ c, env.cells.lookup y = some c) :
    EnvRel X s₁.heap env (params ++ more) W (appR (List.map some args) (List.replicate n none)) := by
  have hkeep : Keeps s.heap s₁.heap := x.toInCall.keep
  have hfr := x.toInCall.fresh
  have below : ∀ c, s.heap.objs.size ≤ c → X.h0.get? c = none := fun c hc => H.none_of (get?_ge hc)
  have hz : (params.zip vals).map (·.1) = params := List.map_fst_zip (by have := rs.length; omega)
  rw [appR_eq]
  refine ⟨⟨_, x.toInCall.ns, bindL_of fun p hp => hnh _ (by rw [← hz]; exact List.mem_map_of_mem hp)⟩, below _ hfr, fun i y v e1 e2 => ?_, fun y c hc => ⟨⟨_, x.cell y c hc⟩, below _ (Nat.le_of_lt (Nat.lt_of_le_of_lt hfr (x.above y c (mem_of_lookup hc))))⟩,
    fun y z c hy hz => name_of_addr x.apart (mem_of_lookup hy) (mem_of_lookup hz), hhas⟩
  have hi : i < args.length := by
    rcases Nat.lt_or_ge i args.length with q | q
    · exact q
    · rw [List.getElem?_append_right (by simpa using q), List.getElem?_replicate] at e2
      split at e2 <;> cases e2
  rw [List.getElem?_append_left (by simpa using hi), List.getElem?_map] at e2
  rw [List.getElem?_append_left (by omega)] at e1
  obtain ⟨a, ha, q⟩ := Option.map_eq_some_iff.mp e2
  cases q
  obtain ⟨val, hv, rv⟩ := rs.get ha
  have hmem : (y, val) ∈ params.zip vals := List.mem_iff_getElem?.mpr ⟨i, by rw [List.getElem?_zip_eq_some]; exact ⟨e1, hv⟩⟩
  refine ⟨val, ?_, rv.mono hkeep.tups .refl⟩
  rcases hkind y (List.mem_of_getElem? e1) with hl | ⟨hc, hcd, hs⟩
  · exact .inl ⟨hl, _, x.toInCall.ns, bindL_get hl (by rw [hz]; exact hnd) hmem⟩
  · obtain ⟨c, hc'⟩ := Option.isSome_iff_exists.mp hs
    refine .inr ⟨.inl hc, hcd, c, hc', ?_⟩
    have := x.cell y c hc'
    rwa [bindC_get (by rw [hc]; exact fun q => nomatch q) (by rw [hz]; exact hnd) hmem] at this
theorem Step.outerY {Z : Addr → Prop} {h1} (hk : Keeps h h1) (S : Step (fun a => Z a ∨ Y a) h1 W h' W') (hZ : ∀ a, Z a → h.get? a = none) : Step Y h W h' W' := by
  obtain ⟨r, e, f⟩ := S.ρ
  refine ⟨fun a o ho hn hy => S.ext a o (hk a o ho) hn (fun hx => hx.elim (fun hx => by rw [hZ a hx] at ho; cases ho) hy), fun a ha => S.live a ?_, ⟨r, e, fun a ha => ?_⟩, S.η⟩
  · cases q' : h.get? a with
    | none => exact absurd q' ha
    | some o => exact live_of (hk a o q')
  · cases q : h.get? a with
    | none => rfl
    | some o => have := f a ha; rw [hk a o q] at this; cases this
theorem code_fn (B : Base X.h0 mg mb) (Y : Addr → Prop) (Z : Wld → Prop) {a fd body} (D : FnAt X.h0 a fd sc body) {params more : List Str} (O : ParOK sc params more) {h1 : Heap} {tk1 : Nat} {pos : List Value} {kw : List (Str × Value)} {vals : List Value} {avs : List AV} {o : Option (Flw × VH)} {R : Result → Shared → Prop}
    (z : At0 X (d + 1) A s W V) (hp : 0 < tk1) (hk1 : Keeps s.heap h1) (hbind : BindX s (on s h1 tk1) fd ⟨pos, kw⟩ (params.zip vals)) (rs : VRs X.σ h1 W avs vals) (hlen : avs.length = params.length)
    (hb : ∀ {A' : Around} {env : Env} {s' : Shared} {Q' : Flow → Shared → Prop}, At X d sc (params ++ more) A' s' env W V (appR (List.map some avs) (List.replicate more.length none)) → Keeps h1 s'.heap → (∀ b, Own (params ++ more) env b → h1.get? b = none) →
      Su o (fun r => ∀ h tk W' fl, Step (fun a => Own (params ++ more) env a ∨ Y a) s'.heap W h W' → HRel X h W' r.2 → 0 < tk → FR X.σ h W' r.1 fl → Z W' → Q' fl (on s' h tk)) → wpAny X.M A' (execs body env) Q' NoE s')
    (P : Su o fun r => ∀ h tk W' val, Go X Y s W h tk W' r.2 → VR X.σ h W' (fvOf r.1) val → Z W' → R (.ok (.ret val)) (on s h tk)) : codeAny X.M A (.call (.ref a) ⟨pos, kw⟩) R s := by
  obtain ⟨ob, ho, hd⟩ := D.at_
  have hroom := z.rm.depth
  have hun := z.rm.units
  have hvl := rs.length
  refine codeAny_call_function (by show A.depth < 1000; omega) (z.H.base _ _ ho) hd (by rw [D.scope]; exact D.co) (by rw [D.scope]; exact D.gen) D.body (D.code.keeps z.H.base) (hbind _ _ _ _ ?_)
  rw [D.closure]
  refine wpAny_with_toks (n := 1) hp (wpAny_newFunctionEnv_cells (by rw [D.scope]; exact D.kind) (fun y hy => ?_) fun env he s' x => ?_)
  · rw [D.scope]
    exact (O.kind _ (List.of_mem_zip hy).1).imp id fun q => ⟨q.1, q.2.2 _⟩
  · have he' : env = callEnvC fd h1.objs.size a := he
    have hL : env.locals = h1.objs.size := by rw [he']; rfl
    have hcells : env.cells = cellsFrom (h1.objs.size + 1) sc.names [] := by rw [he', ← D.scope]; rfl
    have ok : EnvOK sc env := by rw [he']; exact ⟨D.scope, D.kind, D.globals, D.builtins⟩
    have rm' : Room (A.deeper env) d := ⟨z.rm.hh, by show A.depth + 1 + d < 600; omega, by show A.units + 3 + 10 * d < 6000; omega⟩
    obtain ⟨h2, tk2, rfl⟩ := x.toInCall.same
    have hk2 : Keeps h1 h2 := x.toInCall.keep
    have hk : Keeps s.heap h2 := fun b o q => hk2 b o (hk1 b o q)
    have H1 : HRel X h1 W V := z.H.keeps hk1
    have co : CellsOK sc (params ++ more) env := fun y hy _ => by
      refine Option.isSome_iff_exists.mp ?_
      rw [hcells]
      exact cellsFrom_some _ _ _ (.inl hy)
    have R' := envRel_call (s := on s h1 tk1) (env := env) H1 x rs hlen O.nodup O.noHdr (fun y hy => by
      rw [ok.kindOf, hcells]
      exact (O.kind _ hy).imp id fun q => ⟨q.1, q.2.1, q.2.2 _⟩) more more.length (fun y hy hk => by
        rw [ok.kindOf] at hk
        exact hk.elim (fun q => co y q hy) (fun q => absurd q (O.free y hy)))
    have own1 : ∀ b, Own (params ++ more) env b → h1.get? b = none := by
      intro b hb
      refine get?_ge ?_
      rcases hb with rfl | ⟨y, _, hy⟩
      · exact Nat.le_of_eq hL.symm
      · exact hL ▸ Nat.le_of_lt (x.above y b (mem_of_lookup hy))
    have own : ∀ b, Own (params ++ more) env b → s.heap.get? b = none := fun b hb => by
      cases q : s.heap.get? b with
      | none => rfl
      | some o => have := own1 b hb; rw [hk1 b o q] at this; cases this
    refine fun hp2 => ⟨(B.nolimit.keeps H1.base).keeps hk2, codeAny_func ?_⟩
    have zz : At X d sc (params ++ more) (A.deeper env) (on s h2 tk2) env W V _ := ⟨⟨rm', z.H.keeps hk, hp2⟩, ok, co, R'⟩
    refine wpAny_mono (hb (Q' := fun fl s' => match fl with | .ret u => R (.ok (.ret u)) s' | _ => R (.ok (.ret .none)) s') zz hk2 own1 (P.mono fun r P h' tk' W' fl S' H' hp' fr zz => ?_)) (fun fl s' hf => ?_) (fun _ _ x => x.elim)
    · have g : Go X Y s W h' tk' W' r.2 := ⟨S'.outerY hk own, H', hp'⟩
      obtain ⟨w, V''⟩ := r
      cases fr with
      | next => exact P h' tk' W' _ g (.imm .none) zz
      | ret rv => exact P h' tk' W' _ g rv zz
    · cases fl <;> exact hf
/-- a call with names: the positions' values, then the names' -/
noncomputable def SoundK (X : Wd) (d : Nat) (f : Value) (ks : List Str) (F : FF) : Prop := ∀ {A s W V args kargs vals kvals Q}, At0 X d A s W V → VRs X.σ s.heap W args vals → VRs X.σ s.heap W kargs kvals → kargs.length = ks.length → Su (F (appR args kargs) V) (PostE X s W Q) →
  wpAny X.M A (call f vals (ks.zip kvals)) Q NoE s
theorem SoundK.up {d d' f ks F} (h : SoundK X d' f ks F) (hd : d' ≤ d) : SoundK X d f ks F := fun z rs rk hl k => h ⟨z.rm.up hd, z.H, z.tk⟩ rs rk hl k
/-- a def with keywords, all given -/
theorem sound_defK (B : Base X.h0 mg mb) {a fd} {params more : List Str} {body φ} {ks : List Str} (D : FnAt X.h0 a fd sc body) (O : ParOK sc params more)
    (hbind : ∀ vals kvals : List Value, vals.length + ks.length = params.length → kvals.length = ks.length → bindArgs fd ⟨vals, ks.zip kvals⟩ = pure (params.zip (vals ++ kvals)))
    (hb : SoundB X d sc (params ++ more) body φ) : SoundK X (d + 1) (.ref a) ks (defF params.length more.length φ) := fun {A s W V args kargs vals kvals Q} z rs rk hkl P => P.grd fun hl P => by
  have l1 := rs.length
  have l2 := rk.length
  have hl := Nat.eq_of_beq_eq_true hl
  rw [lenR_eq, appR_eq args kargs, List.length_append] at hl
  rw [appR_eq args kargs] at P
  refine wpAny_call (code_fn (h1 := s.heap) (tk1 := s.toks) (o := bnd (φ (appR (List.map some (args ++ kargs)) (List.replicate more.length none)) V) fun r => some (r.1, r.2.2)) B Nox (fun _ => True) D O z z.tk (fun _ _ q => q) (fun M A' E' Q' hq => ?_) (rs.append rk) (by rw [List.length_append]; omega)
    (fun z' _ _ k => hb z' (k.bnd fun r k h tk W' fl g R fr => k h tk W' fl (g.S.weaken fun _ => .inl) g.H g.tk fr trivial)) ?_)
  · rw [hbind vals kvals (by omega) (by omega)]
    exact wpAny_pure hq
  · refine P.bnde fun r e P => Su.of (r := (r.1, r.2.2)) (by rw [e]; rfl) fun h tk W' val g rv _ => (P : PostE X s W Q _) h tk W' val g rv
theorem sound_def (B : Base X.h0 mg mb) {a fd} {params more : List Str} {body φ} (D : FnAt X.h0 a fd sc body) (O : ParOK sc params more) (hbind : ∀ vals : List Value, vals.length = params.length → bindArgs fd ⟨vals, []⟩ = pure (params.zip vals))
    (hb : SoundB X d sc (params ++ more) body φ) : SoundF X (d + 1) (.ref a) (defF params.length more.length φ) := fun {A s W V args vals Q} z rs P =>
  sound_defK (ks := []) B D O (fun vals kvals h1 h2 => by
    cases kvals with
    | nil => rw [List.append_nil]; exact hbind vals h1
    | cons a b => cases h2) hb z rs .nil rfl (by rw [appR_eq args [], List.append_nil]; exact P)
-- what no run reaches
noncomputable def failS : φS := fun _ _ => none
theorem failSt {st : Stmt} : SoundS X d sc sl st failS := fun _ P => P.elim
theorem failBl {st : List Stmt} : SoundB X d sc sl st failS := fun _ P => P.elim
-- a module's constant
theorem sound_globalStr (B : Base X.h0 mg mb) {x pos v} (hx : sc.names.lookup x = some .globalImplicit) (g : ∃ t, GlobalIs mg mb x (.str v t)) (hd : (x == ("__debug__" : Str)) = false) : SoundE X d sc sl (.Name x pos) (constE (.str v)) := fun z P =>
  let ⟨t, g⟩ := g; wp_global B z hx g (PostE.here P z.H (.imm (.str _ _)) z.tk) hd
theorem sound_globalFix (B : Base X.h0 mg mb) {x pos a} (hx : sc.names.lookup x = some .globalImplicit) (g : GlobalIs mg mb x (.ref a)) (hd : (x == ("__debug__" : Str)) = false) : SoundE X d sc sl (.Name x pos) (constE (.fix a)) := fun z P =>
  wp_global B z hx g (PostE.here P z.H .fix z.tk) hd
theorem PostI.after {Q r} (P : PostI X s W Q r) (g : Go X Nox s W h tk W' V') : PostI X (on s h tk) W' Q r := fun h' tk' W'' I g' x hI hI0 => P h' tk' W'' I (g.trans g') x (g.none_of hI) hI0
theorem none_push {o : Obj} {k} (hk : h.objs.size < k) : (h.push o).get? k = none := get?_ge (by rw [Heap.size_push]; exact hk)
theorem rng_ok {l vs Q} (z : At0 X d A s W V) (rs : VRs X.σ s.heap W l vs) (P : Su (bnd (rngf l) fun it => some (it, V)) (PostI X s W Q)) : wpAny X.M A (call (.type "range") vs) (fun x s₁ => wpAny X.M A (pyIter x) Q NoE s₁) NoE s := by
  have k : Su (rngf l) fun it => PostI X s W Q (it, V) := P.bnd fun it P => P
  have fin : ∀ {o1 o2 : Obj} {tk it}, 0 < tk → PostI X s W Q (it, V) → ItR X.σ ((s.heap.push o1).push o2) W it (s.heap.push o1).objs.size → Q (.ref (s.heap.push o1).objs.size) (on s ((s.heap.push o1).push o2) tk) := fun hp P x =>
    P _ _ W _ ⟨.of_keeps fun a o e => keeps_push _ a o (keeps_push _ a o e), (z.H.keeps (keeps_push _)).keeps (keeps_push _), hp⟩ x (get?_ge (by rw [Heap.size_push]; exact Nat.le_succ _)) (z.H.none_of (get?_ge (by rw [Heap.size_push]; exact Nat.le_succ _)))
  cases rs with
  | nil => exact k.elim
  | cons r1 r2 =>
    refine r1.onInt (G := fun v => wpAny X.M A (call (.type "range") (v :: _)) (fun x s₁ => wpAny X.M A (pyIter x) Q NoE s₁) NoE s) k fun a t k => ?_
    cases r2 with
    | nil =>
      refine Su.grd k fun hs k => ?_
      have hs := smallI_lt hs
      refine wpT z.tk (call_range_1 fun hp => wpT hp (wpAny_pyIter_range (IsRange.new _ 0 a 1 _ t _) (small_one (by omega) (by omega) (by omega) (by omega)) fun hp => ?_))
      rw [rangeSize_nat] at hp ⊢
      exact fin hp k (.rng (by rw [show (a - 0).toNat = a.toNat by omega]; exact Heap.get?_push_size _ rfl))
    | cons r3 r4 =>
      refine r3.onInt (G := fun u => wpAny X.M A (call (.type "range") (.int a t :: u :: _)) (fun x s₁ => wpAny X.M A (pyIter x) Q NoE s₁) NoE s) k fun b u k => ?_
      cases r4 with
      | cons r5 r6 => exact k.elim
      | nil =>
        refine Su.grd k fun hs k => ?_
        rw [Bool.and_eq_true] at hs
        have hs1 := smallI_lt hs.1
        have hs2 := smallI_lt hs.2
        rw [forceN_eq] at k
        refine wpT z.tk (call_range_2 fun hp => wpT hp (wpAny_pyIter_range (IsRange.new _ a b 1 t u _) (small_one (by omega) (by omega) (by omega) (by omega)) fun hp => ?_))
        rw [rangeSize_nat] at hp ⊢
        exact fin hp k (.rng (Heap.get?_push_size _ rfl))
theorem sound_rngI (B : Base X.h0 mg mb) {x npos args pos ψ} (hx : sc.names.lookup x = some .globalImplicit) (g : GlobalIs mg mb x (.type "range")) (hd : (x == ("__debug__" : Str)) = false) (ha : SoundEs X d sc sl args ψ) :
    SoundI X d sc sl (.Call (.Name x npos) args [] pos) (rngI ψ) := fun {A s env W V ev Q} z P =>
  wpAny_Call_NameR (wp_global B z hx g (wp_callWith keep_type (ha.1 _) (ha.2 z (P.bndO fun l V P h1 tk1 W1 vs g1 rs => ⟨g1.H.base, rng_ok (z.toAt0.go g1) rs (P.mono fun r P => PostI.after P g1)⟩))) hd)
end
end
end Mine
end

section
open PySem PySem.W PyProof.Rows
namespace Mine
noncomputable section
section
variable {σ : Sig} {h : Heap} {W : Wld} {β : Type} {K : β → Prop} {G : List Value → Prop}
theorem args1_ok {l vs F} (rs : VRs σ h W l vs) (k : Su (args1 l F) K) (f : ∀ a v, VR σ h W a v → Su (F a) K → G [v]) : G vs := by
  cases rs with
  | nil => exact k.elim
  | cons r rr => cases rr with
    | nil => exact f _ _ r k
    | cons _ _ => exact k.elim
theorem args2_ok {l vs F} (rs : VRs σ h W l vs) (k : Su (args2 l F) K) (f : ∀ a b v u, VR σ h W a v → VR σ h W b u → Su (F a b) K → G [v, u]) : G vs := by
  cases rs with
  | nil => exact k.elim
  | cons r rr => exact args1_ok (G := fun vs => G (_ :: vs)) rr k fun b u rb k => f _ _ _ _ r rb k
theorem args3_ok {l vs F} (rs : VRs σ h W l vs) (k : Su (args3 l F) K) (f : ∀ a b c v u t, VR σ h W a v → VR σ h W b u → VR σ h W c t → Su (F a b c) K → G [v, u, t]) : G vs := by
  cases rs with
  | nil => exact k.elim
  | cons r rr => exact args2_ok (G := fun vs => G (_ :: vs)) rr k fun b c u t rb rc k => f _ _ _ _ _ _ r rb rc k
theorem args4_ok {l vs F} (rs : VRs σ h W l vs) (k : Su (args4 l F) K) (f : ∀ a b c e v u t x, VR σ h W a v → VR σ h W b u → VR σ h W c t → VR σ h W e x → Su (F a b c e) K → G [v, u, t, x]) : G vs := by
  cases rs with
  | nil => exact k.elim
  | cons r rr => exact args3_ok (G := fun vs => G (_ :: vs)) rr k fun b c e u t x rb rc re k => f _ _ _ _ _ _ _ _ r rb rc re k
end
-- the greatest, the least
noncomputable def numA : AV → Bool
  | .int _ | .flt _ => true
  | _ => false
noncomputable def ltA (a b : AV) : Bool := match two (fun a b => some (decide (a < b))) (fun a b => some (Float64.cmp a b == some Ordering.lt)) (fun a n => some (Float64.cmpInt a n == some Ordering.lt)) (fun n a => some (Float64.cmpInt a n == some Ordering.gt)) no2 no2 a b with
  | some c => c
  | none => false
noncomputable def gtA (a b : AV) : Bool := ltA b a
noncomputable def bestGo (bt : AV → AV → Bool) (l : List AV) : AV → AV := List.rec (motive := fun _ => AV → AV) (fun b => b) (fun x _ ih b => match bt x b with
  | true => ih x
  | false => ih b) l
noncomputable def allNum (l : List AV) : Bool := List.rec (motive := fun _ => Bool) true (fun a _ ih => numA a && ih) l
noncomputable def best (bt : AV → AV → Bool) (l : List AV) : Option AV := match l with
  | [] => none
  | x :: r => grd (numA x && allNum r) (some (bestGo bt r x))
noncomputable def extF (bt : AV → AV → Bool) : FF := fun args V => match args with
  | [] => none
  | a :: r => match r with
    | [] => onLst a fun i => bnd (V.get i) fun xs => bnd (best bt xs) fun c => some (c, V)
    | b :: q => grd (Nat.ble (lenR q) 1) (bnd (best bt (a :: b :: q)) fun c => some (c, V))
noncomputable abbrev maxF : FF := extF gtA
noncomputable abbrev minF : FF := extF ltA
noncomputable def BestW (X : Wd) (A : Around) (op : CmpOp) (Q : Value → Shared → Prop) (it : Value) (s₂ : Shared) : Prop :=
  ∃ I fp wr n P St bt, it = .ref I ∧ Walks X.prog X.w A.in1 I fp wr n P St ∧ St 0 s₂.heap ∧ (∀ b ∈ fp, b < s₂.heap.objs.size) ∧ 0 < n ∧ CmpOf X.prog X.w A.in1 op P bt ∧
    ∀ v h' tk, P (argBest bt (n - 1)) v → (∀ b o, b ∉ wr → s₂.heap.get? b = some o → h'.get? b = some o) → Q v { s₂ with heap := h', toks := tk }
noncomputable abbrev tupObj (vs : Array Value) : Obj := { cls := .type "tuple", data := .seq vs }
/-- max or min -/
structure ExtOK (X : Wd) (name : String) (op : CmpOp) (f : Value → Value → Bool) : Prop where
  one : ∀ {A x Q s}, wpAny X.M A.in1 (pyIter x) (BestW X A op Q) NoE s → wpAny X.M A (call (.builtin name) [x]) Q NoE s
  two : ∀ {A a b Q s}, wpAny X.M A.in1 (pyIter (.ref s.heap.objs.size)) (BestW X A op Q) NoE { s with heap := s.heap.push (tupObj #[a, b]) } → wpAny X.M A (call (.builtin name) [a, b]) Q NoE s
  three : ∀ {A a b c Q s}, wpAny X.M A.in1 (pyIter (.ref s.heap.objs.size)) (BestW X A op Q) NoE { s with heap := s.heap.push (tupObj #[a, b, c]) } → wpAny X.M A (call (.builtin name) [a, b, c]) Q NoE s
  cmp : ∀ {A} (vs : Array Value), (∀ v ∈ vs, Flt.NumV v) → CmpOf X.prog X.w A op (fun i v => vs[i]? = some v) (fun i j => f (vs.getD i .none) (vs.getD j .none))
theorem ext_max {X} : ExtOK X "max" .Gt (fun v u => Flt.ltV u v) := ⟨call_max_walk, call_max_two, call_max_three, fun vs h => Flt.cmpOf_gt vs h⟩
theorem ext_min {X} : ExtOK X "min" .Lt Flt.ltV := ⟨call_min_walk, call_min_two, call_min_three, fun vs h => Flt.cmpOf_lt vs h⟩
section
variable {X : Wd} {d : Nat} {sc : Scope} {sl : List Str} {A : Around} {s : Shared} {W W' : Wld} {V V' : VH} {env : Env} {ev ev' : EV} {h h' : Heap} {tk : Nat} {T : Tab} {bt : AV → AV → Bool} {f : Value → Value → Bool} {name : String} {op : CmpOp}
theorem VR.num {a v} (r : VR X.σ h W a v) (ha : numA a = true) : VI a v := by
  cases r with
  | imm x => exact x
  | _ => cases ha
theorem VI.numV {a v} (r : VI a v) (ha : numA a = true) : Flt.NumV v := by cases r <;> first | exact .int _ _ | exact .float _ _ | cases ha
theorem VI.ltV {a b v u} (ra : VI a v) (rb : VI b u) (ha : numA a = true) (hb : numA b = true) : Flt.ltV v u = ltA a b := by cases ra <;> cases rb <;> first | rfl | cases ha | cases hb
theorem bestGo_snoc : ∀ (l : List AV) (b x : AV), bestGo bt (l ++ [x]) b = if bt x (bestGo bt l b) then x else bestGo bt l b
  | [], b, x => by show (match bt x b with | true => x | false => b) = _; cases h : bt x b <;> rw [show bestGo bt [] b = b from rfl, h] <;> rfl
  | y :: r, b, x => by
    show (match bt y b with | true => bestGo bt (r ++ [x]) y | false => bestGo bt (r ++ [x]) b) = if bt x (match bt y b with | true => bestGo bt r y | false => bestGo bt r b) then x else (match bt y b with | true => bestGo bt r y | false => bestGo bt r b)
    cases bt y b <;> exact bestGo_snoc r _ x
theorem argBest_best {x : AV} {r : List AV} {bn : Nat → Nat → Bool} (hb : ∀ (i j : Nat) a b, (x :: r)[i]? = some a → (x :: r)[j]? = some b → bn i j = bt a b) : ∀ n, n ≤ r.length → (x :: r)[argBest bn n]? = some (bestGo bt (r.take n) x)
  | 0, _ => rfl
  | n + 1, hn => by
    have ih := argBest_best hb n (by omega)
    have hx : (x :: r)[n + 1]? = some (r[n]'(by omega)) := by rw [List.getElem?_cons_succ]; exact List.getElem?_eq_getElem (by omega)
    rw [List.take_succ_eq_append_getElem (by omega), bestGo_snoc, ← hb _ _ _ _ hx ih]
    show (x :: r)[if bn (n + 1) (argBest bn n) = true then n + 1 else argBest bn n]? = _
    split
    · exact hx
    · exact ih
theorem allNum_get : ∀ {l : List AV} {i : Nat} {a : AV}, allNum l = true → l[i]? = some a → numA a = true
  | x :: r, 0, a, h, e => by cases e; exact (Bool.and_eq_true_iff.mp h).1
  | x :: r, i + 1, a, h, e => allNum_get (l := r) (Bool.and_eq_true_iff.mp h).2 (by rwa [List.getElem?_cons_succ] at e)
theorem best_of {xs : List AV} {K : AV → Prop} {P : Prop} (k : Su (best bt xs) K) (f : ∀ x r, xs = x :: r → allNum (x :: r) = true → K (bestGo bt r x) → P) : P := by cases xs with
  | nil => exact k.elim
  | cons x r => exact Su.grd k fun h k => f x r rfl h k
theorem nums_of {xs : List AV} {vs : Array Value} (rs : VRs X.σ h W xs vs.toList) (hn : allNum xs = true) : ∀ v ∈ vs, Flt.NumV v := fun v hv => by
  obtain ⟨i, hi⟩ := List.mem_iff_getElem?.mp (Array.mem_toList_iff.mpr hv)
  have hl := (List.getElem?_eq_some_iff.mp hi).1
  obtain ⟨u, h1, h2⟩ := rs.get (List.getElem?_eq_getElem (by rw [rs.length]; exact hl) : xs[i]? = some _)
  rw [hi] at h1
  cases h1
  have := allNum_get hn (List.getElem?_eq_getElem (by rw [rs.length]; exact hl) : xs[i]? = some _)
  exact (h2.num this).numV this
/-- what a walk over numbers finds -/
theorem ext_vals {xs : List AV} {vs : Array Value} {Q : Value → Shared → Prop} (z : At0 X d A s W V) (rs : VRs X.σ s.heap W xs vs.toList) (hf : ∀ {a b v u}, VI a v → VI b u → numA a = true → numA b = true → f v u = bt a b) (k : Su (best bt xs) fun c => PostE X s W Q (c, V)) :
    0 < vs.size ∧ (∀ v ∈ vs, Flt.NumV v) ∧ ∀ v h' tk, 0 < tk → vs[argBest (fun i j => f (vs.getD i .none) (vs.getD j .none)) (vs.size - 1)]? = some v → Keeps s.heap h' → Q v (on s h' tk) :=
  best_of k fun x r hx hn P => by
    subst hx
    have hl : r.length + 1 = vs.size := by rw [← Array.length_toList]; exact rs.length
    refine ⟨by omega, nums_of rs hn, fun v h' tk hp hv hk => ?_⟩
    have gd : ∀ {i : Nat} {u}, vs.toList[i]? = some u → vs.getD i .none = u := fun hu => by rw [Array.getElem?_toList] at hu; rw [Array.getD_eq_getD_getElem?, hu]; rfl
    have key := argBest_best (bt := bt) (bn := fun i j => f (vs.getD i .none) (vs.getD j .none)) (x := x) (r := r) (fun i j a b hi hj => by
      obtain ⟨u, h1, h2⟩ := rs.get hi
      obtain ⟨v, h3, h4⟩ := rs.get hj
      show f _ _ = _
      rw [gd h1, gd h3]
      exact hf (h2.num (allNum_get hn hi)) (h4.num (allNum_get hn hj)) (allNum_get hn hi) (allNum_get hn hj)) (vs.size - 1) (by omega)
    rw [List.take_of_length_le (by omega)] at key
    obtain ⟨u, h1, h2⟩ := rs.get key
    rw [Array.getElem?_toList, hv] at h1
    cases h1
    exact P h' tk W v ⟨.of_keeps hk, z.H.keeps hk, hp⟩ (h2.mono hk.tups .refl)
theorem tup_walk {vs : Array Value} {bn : Nat → Nat → Bool} {Q : Value → Shared → Prop} (hh : A.handled = none) (hne : 0 < vs.size) (hc : CmpOf X.prog X.w A.in1 op (fun i v => vs[i]? = some v) bn)
    (h : ∀ v h' tk, vs[argBest bn (vs.size - 1)]? = some v → Keeps s.heap h' → Q v (on s h' tk)) : wpAny X.M A.in1 (pyIter (.ref s.heap.objs.size)) (BestW X A op Q) NoE { s with heap := s.heap.push (tupObj vs) } := by
  have hT : (s.heap.push (tupObj vs)).IsTuple s.heap.objs.size vs := ⟨_, Heap.get?_push_size _ rfl, rfl, 0, rfl⟩
  refine wpAny_pyIter_tuple hT ?_
  have hsz : (s.heap.push (tupObj vs)).objs.size = s.heap.objs.size + 1 := Heap.size_push ..
  refine ⟨_, [_, s.heap.objs.size], [_], _, _, _, _, rfl, Walks.tuple (A := A.in1) hh _ s.heap.objs.size (by rw [hsz]; exact Nat.ne_of_lt (Nat.lt_succ_self _)) vs,
    ⟨⟨_, Heap.get?_push_size _ rfl, rfl, rfl⟩, hT.push _⟩, fun c hc => ?_, hne, hc, fun v h' tk hP hk => ?_⟩
  · show c < ((s.heap.push _).push _).objs.size
    rw [Heap.size_push, hsz]
    rcases List.mem_cons.mp hc with rfl | hc
    · rw [hsz]; exact Nat.lt_succ_self _
    · rcases List.mem_cons.mp hc with rfl | hc
      · exact Nat.lt_succ_of_lt (Nat.lt_succ_self _)
      · cases hc
  · refine h v h' tk hP fun c o e => hk c o (fun hm => ?_) (keeps_push _ _ _ (keeps_push _ _ _ e))
    rcases List.mem_cons.mp hm with e1 | hm
    · have := Heap.lt_size e; rw [e1, hsz] at this; exact Nat.lt_irrefl _ (Nat.lt_of_succ_lt this)
    · cases hm
theorem list_walk {l : Addr} {vs : Array Value} {bn : Nat → Nat → Bool} {Q : Value → Shared → Prop} (hh : A.handled = none) (hl : s.heap.IsList l vs) (hne : 0 < vs.size) (hc : CmpOf X.prog X.w A.in1 op (fun i v => vs[i]? = some v) bn)
    (h : ∀ v h' tk, vs[argBest bn (vs.size - 1)]? = some v → Keeps s.heap h' → Q v (on s h' tk)) : wpAny X.M A.in1 (pyIter (.ref l)) (BestW X A op Q) NoE s := by
  refine Flt.iter_list_ hl fun s₂ e st hfp hlI => ?_
  subst e
  exact ⟨_, _, _, _, _, _, _, rfl, Walks.list (A := A.in1) hh _ l hlI vs, st, hfp, hne, hc, fun v h' tk hP hk => h v h' tk hP (Flt.kept_iter hk)⟩
theorem soundF_ext (E : ExtOK X name op f) (hf : ∀ {a b v u}, VI a v → VI b u → numA a = true → numA b = true → f v u = bt a b) : SoundF X d (.builtin name) (extF bt) := fun {A s W V args vals Q} z rs P => by
  cases rs with
  | nil => exact P.elim
  | cons r1 rr =>
    cases rr with
    | nil =>
      refine onLst_ok P fun i q P1 => P1.bnde fun xs e P2 => wpT z.tk (E.one ?_)
      subst q
      refine r1.lsts (G := fun v => wpAny X.M A.in1 (pyIter v) _ NoE s) fun a ha => z.H.at_ ha e fun vs l1 r1 _ => ?_
      obtain ⟨h1, h2, h3⟩ := ext_vals z r1 hf (P2.bnd fun c P => P)
      exact list_walk z.rm.hh l1.isList h1 (E.cmp vs h2) fun v h' tk hv hk hp => h3 v h' tk hp hv hk
    | cons r2 rr =>
      refine Su.grd P fun hl P => wpT z.tk ?_
      cases rr with
      | nil =>
        obtain ⟨h1, h2, h3⟩ := ext_vals (vs := #[_, _]) z (.cons r1 (.cons r2 .nil)) hf (P.bnd fun c P => P)
        exact E.two (tup_walk z.rm.hh h1 (E.cmp _ h2) fun v h' tk hv hk hp => h3 v h' tk hp hv hk)
      | cons r3 rr =>
        cases rr with
        | nil =>
          obtain ⟨h1, h2, h3⟩ := ext_vals (vs := #[_, _, _]) z (.cons r1 (.cons r2 (.cons r3 .nil))) hf (P.bnd fun c P => P)
          exact E.three (tup_walk z.rm.hh h1 (E.cmp _ h2) fun v h' tk hv hk hp => h3 v h' tk hp hv hk)
        | cons r4 rr =>
          have := Nat.le_of_ble_eq_true hl
          rw [lenR_eq, List.length_cons, List.length_cons] at this
          omega
theorem soundF_max : SoundF X d (.builtin "max") maxF := soundF_ext ext_max fun ra rb na nb => rb.ltV ra nb na
theorem soundF_min : SoundF X d (.builtin "min") minF := soundF_ext ext_min fun ra rb na nb => ra.ltV rb na nb
end
-- len, int, sum
noncomputable def lenF : FF := fun args V => args1 args fun a => onSeq a (fun i => bnd (V.get i) fun xs => grd (smallL xs) (forceN (lenR xs) fun n => some (.int n, V))) (fun _ => none) fun x => grd (smallS x) (forceN (lenR x.cps.toList) fun n => some (.int n, V))
/-- int of a float -/
noncomputable def truncN (n : Float64.Num) : Option AV := match n with
  | .fin sg m e => forceI (Float64.truncOf sg m e) fun n => some (.int n)
  | _ => none
noncomputable def gInt : AV → Option AV
  | .flt x => truncN (Float64.decode x)
  | _ => none
noncomputable def intF (T : Tab) : FF := fun args V => args1 args fun a => bnd (immB a a (T.toInt a) (gInt a)) fun c => some (c, V)
noncomputable def TabInt (σ : Sig) (T : Tab) : Prop := ∀ a c, T.toInt a = some c → gInt (cv σ a) = some (cv σ c)
/-- the ints of a row -/
noncomputable def intsOf (l : List AV) : Option (List Int) := List.rec (motive := fun _ => Option (List Int)) (some []) (fun a _ ih => onInt a fun n => bnd ih fun r => some (n :: r)) l
noncomputable def sumF : FF := fun args V => args1 args fun a => onLst a fun i => bnd (V.get i) fun xs => bnd (intsOf xs) fun ns => some (.int ns.sum, V)
section
variable {X : Wd} {d : Nat} {sc : Scope} {sl : List Str} {A : Around} {s : Shared} {W W' : Wld} {V V' : VH} {env : Env} {ev ev' : EV} {h h' : Heap} {tk : Nat} {T : Tab}
theorem soundF_len : SoundF X d (.builtin "len") lenF := fun {A s W V args vals Q} z rs P =>
  args1_ok (G := fun vs => wpAny X.M A (call (.builtin "len") vs) Q NoE s) rs P fun a v ra P0 => onSeq_ok P0
    (fun i q P => P.bnde fun xs e P => P.grd fun hs P => by
      subst q
      rw [forceN_eq, lenR_eq] at P
      refine ra.lsts (G := fun v => wpAny X.M A (call (.builtin "len") [v]) Q NoE s) fun a ha => z.H.at_ ha e fun vs l1 r1 hl => wpT z.tk (PyProof.Rows.len_list l1.isList (by have := smallL_le hs; omega) fun hp => ?_)
      rw [← hl]
      exact PostE.here P z.H (.imm (.int _ _)) hp)
    (fun l q P => P.elim)
    fun x q P => P.grd fun hs P => by
      subst q
      rw [forceN_eq, lenR_eq] at P
      exact ra.strs (G := fun v => wpAny X.M A (call (.builtin "len") [v]) Q NoE s) fun t => wpT z.tk (PySem.P.len_str (by have := smallS_le hs; omega) fun hp => PostE.here P z.H (.imm (.int _ _)) hp)
theorem gInt_ok {a v} {Q : Value → Shared → Prop} (r : VI a v) (e : Su (gInt a) fun c => ∀ tk val, VI c val → Q val { s with toks := tk }) : wpAny X.M A (call (.type "int") [v]) Q NoE s := by
  cases r with
  | flt x t =>
    change Su (truncN (Float64.decode x)) _ at e
    cases hd : Float64.decode x with
    | fin sg m k =>
      rw [hd] at e
      exact call_int_float hd ((forceI_su (f := fun n => some (AV.int n)) e) _ _ (.int _ _))
    | _ => rw [hd] at e; exact e.elim
  | _ => exact e.elim
theorem soundF_int (TI : TabInt X.σ T) : SoundF X d (.type "int") (intF T) := fun {A s W V args vals Q} z rs P =>
  args1_ok (G := fun vs => wpAny X.M A (call (.type "int") vs) Q NoE s) rs P fun a v ra P => wpT z.tk (immB_ok ra ra (K := fun c => PostE X s W Q (c, V)) (P.bnd fun c P => P)
    (fun ia _ k => k.ex fun c e P => gInt_ok ia (Su.of (TI a c e) fun tk val x hp => PostE.here P z.H (.of_vi x) hp))
    fun ia _ k => gInt_ok ia (k.mono fun c P tk val x hp => PostE.here P z.H (.imm x) hp))
theorem intsOf_items : ∀ {xs : List AV} {vs : List Value} {ns : List Int}, VRs X.σ h W xs vs → intsOf xs = some ns → ∃ ys : List (Int × Tok), vs = ys.map (fun p => Value.int p.1 p.2) ∧ ys.map (·.1) = ns
  | [], _, ns, .nil, e => by cases e; exact ⟨[], rfl, rfl⟩
  | a :: r, _, ns, .cons (v := va) (r := vs) ra rr, e => by
    change onInt a (fun n => bnd (intsOf r) fun r => some (n :: r)) = some ns at e
    refine ra.onInt (G := fun va => ∃ ys : List (Int × Tok), va :: vs = ys.map (fun p => Value.int p.1 p.2) ∧ ys.map (·.1) = ns) (Su.of e rfl : Su _ (· = ns)) fun n t k => k.bnde fun ms e' k => ?_
    obtain ⟨ys, h1, h2⟩ := intsOf_items rr e'
    exact ⟨(n, t) :: ys, by rw [h1]; rfl, by rw [← (k : n :: ms = ns), ← h2]; rfl⟩
theorem soundF_sum : SoundF X d (.builtin "sum") sumF := fun {A s W V args vals Q} z rs P =>
  args1_ok (G := fun vs => wpAny X.M A (call (.builtin "sum") vs) Q NoE s) rs P fun a v ra P0 => onLst_ok P0 fun i q P => P.bnde fun xs e P => P.bnde fun ns hn P => by
    subst q
    refine ra.lsts (G := fun v => wpAny X.M A (call (.builtin "sum") [v]) Q NoE s) fun a ha => z.H.at_ ha e fun us l1 r1 hl => ?_
    obtain ⟨ys, g1, g2⟩ := intsOf_items r1 hn
    have hus : us = intItems ys.toArray := Array.toList_inj.mp (by rw [g1]; simp [intItems])
    refine wpT z.tk (sum_intListG z.rm.hh (hus ▸ l1.isList) fun h' tk t' hk hp => ?_)
    rw [preSum_eq, List.take_of_length_le (by simp), show (List.map (·.1) ys.toArray.toList) = ns by simpa using g2]
    exact (P : PostE X s W Q (.int ns.sum, V)) h' tk W _ ⟨.of_keeps hk, z.H.keeps hk, hp⟩ (.imm (.int _ _))
end
end
end Mine
end

section
open PySem PySem.W PyProof.Rows PySem.Builtin PySem.Builtin.Str
namespace Mine
noncomputable section
theorem gives_str_find_span (x y : Str) (i j : Int) (t u v z : Tok) : Gives («str.find» ⟨[.str x t, .str y u, .int i v, .int j z], []⟩)
    (.int (match occurrences x y (fromIndex x.length i) (min (fromIndex x.length j) x.length) 1 with | k :: _ => (k : Int) | [] => -1)) := by
  show Gives (match occurrences x y (fromIndex x.length i) (min (fromIndex x.length j) x.length) 1 with | k :: _ => retInt k | [] => (do rule "str.find.not-found"; retInt (-1))) _
  cases occurrences x y (fromIndex x.length i) (min (fromIndex x.length j) x.length) 1 with
  | nil => exact .rule (.of_eq rfl)
  | cons k _ => exact .of_eq rfl
noncomputable def strsA (l : List Str) : List AV := List.map .str l
/-- the strs of a row -/
noncomputable def strsOf (l : List AV) : Option (List Str) := List.rec (motive := fun _ => Option (List Str)) (some []) (fun a _ ih => onStr a fun n => bnd ih fun r => some (n :: r)) l
noncomputable def lowerF : FF := fun args V => args1 args fun a => onStr a fun x => grd (smallS (lowerS x)) (forceS (lowerS x) fun y => some (.str y, V))
noncomputable def upperF : FF := fun args V => args1 args fun a => onStr a fun x => grd (smallS (Txt.upper x)) (forceS (Txt.upper x) fun y => some (.str y, V))
noncomputable def startswithF : FF := fun args V => args2 args fun a b => onStr a fun x => onStr b fun y => some (.bool (Txt.startswith x y), V)
noncomputable def endswithF : FF := fun args V => args2 args fun a b => onStr a fun x => onStr b fun y => some (.bool (Txt.endswith x y), V)
/-- the first place of y in x, from lo to hi -/
noncomputable def findS (x y : Str) (lo hi : Nat) : Int := match y.cps.toList with
  | [] => match occS x y lo hi 1 with
    | k :: _ => (k : Int)
    | [] => -1
  | _ :: _ => match firstR y.cps.toList (lenR y.cps.toList) hi (dropR lo x.cps.toList) lo with
    | some k => (k : Int)
    | none => -1
theorem findS_eq {x y : Str} {lo hi : Nat} : findS x y lo hi = (match occurrences x y lo hi 1 with | k :: _ => (k : Int) | [] => -1) := by
  rw [← occS_eq]
  unfold findS
  cases hy : y.cps.toList with
  | nil => rfl
  | cons a r =>
    have key : (firstR y.cps.toList (lenR y.cps.toList) hi (dropR lo x.cps.toList) lo).toList = occS x y lo hi 1 := by
      rw [firstR_eq _ _ _ (Nat.le_refl _), dropR_eq, lenR_eq]
      unfold occS
      split
      · rename_i h; rw [hy] at h; cases h
      · exact (occQ_eq _ _ _ _).symm
    rw [hy] at key
    rw [← key]
    dsimp only
    cases firstR (a :: r) (lenR (a :: r)) hi (dropR lo x.cps.toList) lo <;> rfl
noncomputable def findF : FF := fun args V => args4 args fun a b c e => onStr a fun x => onStr b fun y => onInt c fun i => onInt e fun j =>
  forceN (lenR x.cps.toList) fun n => forceN (fromIndex n i) fun lo => forceN (min (fromIndex n j) n) fun hi => forceI (findS x y lo hi) fun k => some (.int k, V)
noncomputable def splitF : FF := fun args V => args2 args fun a b => onStr a fun x => onStr b fun y => grd (smallS x && !Nat.beq (lenR y.cps.toList) 0) (forceSs (splitS x y) fun l => grd (smallL l) (some (.lst V.n, V.add (strsA l))))
noncomputable def joinF : FF := fun args V => args2 args fun a b => onStr a fun x => onLst b fun i => bnd (V.get i) fun xs => bnd (strsOf xs) fun l => grd (joinOkS x l) (forceS (joinS x l) fun y => some (.str y, V))
noncomputable def appendF : FF := fun args V => args2 args fun a b => onLst a fun i => bnd (V.get i) fun xs => grd (smallL xs) (some (.none, V.put i (appR xs [b])))
/-- methods of a str, a list, a thing of the heap before -/
noncomputable def strMethE (F : FF) (φ : φE) (ψ : φEs) : φE := fun ev V => bndO (φ ev V) fun a V => onStr a fun x => bndO (ψ ev V) fun l V => F (.str x :: l) V
noncomputable def lstMethE (F : FF) (φ : φE) (ψ : φEs) : φE := fun ev V => bndO (φ ev V) fun a V => onLst a fun i => grd (Nat.blt i V.n) (bndO (ψ ev V) fun l V => F (.lst i :: l) V)
section
variable {X : Wd} {d : Nat} {sc : Scope} {sl : List Str} {A : Around} {s : Shared} {W W' : Wld} {V V' : VH} {env : Env} {ev ev' : EV} {h h' : Heap} {tk : Nat} {T : Tab}
theorem vrs_strs {σ} : ∀ {l : List (Str × Tok)}, VRs σ h W (strsA (l.map (·.1))) (strValues l)
  | [] => .nil
  | p :: r => .cons (.imm (.str _ _)) vrs_strs
theorem strsOf_values : ∀ {xs : List AV} {vs : List Value} {ns : List Str}, VRs X.σ h W xs vs → strsOf xs = some ns → ∃ l : List (Str × Tok), vs = strValues l ∧ l.map (·.1) = ns
  | [], _, ns, .nil, e => by cases e; exact ⟨[], rfl, rfl⟩
  | a :: r, _, ns, .cons (v := va) (r := vs) ra rr, e => by
    change onStr a (fun n => bnd (strsOf r) fun r => some (n :: r)) = some ns at e
    refine ra.onStr (G := fun va => ∃ l : List (Str × Tok), va :: vs = strValues l ∧ l.map (·.1) = ns) (Su.of e rfl : Su _ (· = ns)) fun n t k => k.bnde fun ms e' k => ?_
    obtain ⟨ys, h1, h2⟩ := strsOf_values rr e'
    exact ⟨(n, t) :: ys, by rw [h1]; rfl, by rw [← (k : n :: ms = ns), ← h2]; rfl⟩
theorem small_too {x : Str} (h : smallS x = true) : (!tooLong x.length) = true := by
  have := smallS_le h
  unfold tooLong
  rw [Bool.not_eq_true', sizeLine_eq, decide_eq_false_iff_not]
  omega
theorem soundF_lower : SoundF X d (.builtin "str.lower") lowerF := fun {A s W V args vals Q} z rs P =>
  args1_ok (G := fun vs => wpAny X.M A (call (.builtin "str.lower") vs) Q NoE s) rs P fun a v ra P => ra.onStr (G := fun v => wpAny X.M A (call (.builtin "str.lower") [v]) Q NoE s) P fun x t P => P.grd fun hs P => by
    rw [forceS_eq, lowerS_eq] at P
    rw [lowerS_eq] at hs
    exact wpT z.tk (SC.lower (by simpa using small_too hs) fun hp => PostE.here P z.H (.imm (.str _ _)) hp)
theorem soundF_upper : SoundF X d (.builtin "str.upper") upperF := fun {A s W V args vals Q} z rs P =>
  args1_ok (G := fun vs => wpAny X.M A (call (.builtin "str.upper") vs) Q NoE s) rs P fun a v ra P => ra.onStr (G := fun v => wpAny X.M A (call (.builtin "str.upper") [v]) Q NoE s) P fun x t P => P.grd fun hs P => by
    rw [forceS_eq] at P
    exact wpT z.tk (SC.upper (by simpa using small_too hs) fun hp => PostE.here P z.H (.imm (.str _ _)) hp)
theorem str2 {F : Str → Str → Option (AV × VH)} {name : String} {args vals} {Q : Value → Shared → Prop} (z : At0 X d A s W V) (rs : VRs X.σ s.heap W args vals) (P : Su (args2 args fun a b => onStr a fun x => onStr b fun y => F x y) (PostE X s W Q))
    (k : ∀ x y t u, Su (F x y) (PostE X s W Q) → wpAny X.M A (call (.builtin name) [.str x t, .str y u]) Q NoE s) : wpAny X.M A (call (.builtin name) vals) Q NoE s :=
  args2_ok (G := fun vs => wpAny X.M A (call (.builtin name) vs) Q NoE s) rs P fun a b v u ra rb P => ra.onStr (G := fun v => wpAny X.M A (call (.builtin name) [v, u]) Q NoE s) P fun x t P =>
    rb.onStr (G := fun u => wpAny X.M A (call (.builtin name) [.str x t, u]) Q NoE s) P fun y u P => k x y t u P
theorem soundF_startswith : SoundF X d (.builtin "str.startswith") startswithF := fun z rs P => str2 z rs P fun x y t u P => SC.startswith (PostE.here P z.H (.imm (.bool _)) z.tk)
theorem soundF_endswith : SoundF X d (.builtin "str.endswith") endswithF := fun z rs P => str2 z rs P fun x y t u P => SC.endswith (PostE.here P z.H (.imm (.bool _)) z.tk)
theorem soundF_find : SoundF X d (.builtin "str.find") findF := fun {A s W V args vals Q} z rs P =>
  args4_ok (G := fun vs => wpAny X.M A (call (.builtin "str.find") vs) Q NoE s) rs P fun a b c e v1 v2 v3 v4 r1 r2 r3 r4 P => r1.onStr (G := fun v => wpAny X.M A (call (.builtin "str.find") [v, v2, v3, v4]) Q NoE s) P fun x t P =>
    r2.onStr (G := fun v => wpAny X.M A (call (.builtin "str.find") [.str x t, v, v3, v4]) Q NoE s) P fun y u P => r3.onInt (G := fun v => wpAny X.M A (call (.builtin "str.find") [.str x t, .str y u, v, v4]) Q NoE s) P fun i t3 P =>
    r4.onInt (G := fun v => wpAny X.M A (call (.builtin "str.find") [.str x t, .str y u, .int i t3, v]) Q NoE s) P fun j t4 P => by
      rw [forceN_eq, forceN_eq, forceN_eq, forceI_eq, findS_eq, lenR_eq] at P
      exact wpT z.tk (call_gives F.slot_str_find (typeIs_str _ _ _) F.entry_str_find (F.args_str_find_4 _ _ _ _) (gives_str_find_span _ _ _ _ _ _ _ _) fun hp => PostE.here P z.H (.imm (.int _ _)) hp)
theorem soundF_join : SoundF X d (.builtin "str.join") joinF := fun {A s W V args vals Q} z rs P =>
  args2_ok (G := fun vs => wpAny X.M A (call (.builtin "str.join") vs) Q NoE s) rs P fun a b v u ra rb P0 => ra.onStr (G := fun v => wpAny X.M A (call (.builtin "str.join") [v, u]) Q NoE s) P0 fun x t P1 => onLst_ok P1 fun i q P2 => P2.bnde fun xs e P3 => P3.bnde fun l hl P4 => P4.grd fun hj P5 => by
    subst q
    refine rb.lsts (G := fun u => wpAny X.M A (call (.builtin "str.join") [.str x t, u]) Q NoE s) fun a ha => z.H.at_ ha e fun us l1 r1 _ => ?_
    obtain ⟨l', g1, g2⟩ := strsOf_values r1 hl
    have hus : us = (strValues l').toArray := Array.toList_inj.mp (by rw [g1])
    rw [forceS_eq, joinS_eq] at P5
    exact wpT z.tk (SC.join (hus ▸ l1.isList) g2 (joinOkS_ok hj) fun t' k hp => PostE.here P5 z.H (.imm (.str _ _)) hp)
theorem soundF_split : SoundF X d (.builtin "str.split") splitF := fun {A s W V args vals Q} z rs P => str2 z rs P fun x y t u P => P.grd fun hc P => by
  rw [forceSs_eq, splitS_eq] at P
  refine P.grd fun hn P => ?_
  rw [Bool.and_eq_true, Bool.not_eq_true', lenR_eq] at hc
  have hx := smallS_le hc.1
  have hy : (y.length == 0) = false := by cases hz : y.length == 0 with | false => rfl | true => rw [show y.cps.toList.length = y.length from rfl, beq_iff_eq.mp hz] at hc; cases hc.2
  have hn := smallL_le hn
  have key : ∀ tk (l : List (Str × Tok)), l.map (·.1) = Txt.split x y → 0 < tk → Q (.ref s.heap.objs.size) { s with toks := tk, heap := s.heap.push { cls := .type "list", data := .seq (strValues l).toArray } } := fun tk l hl hp =>
    (P : PostE X s W Q (.lst V.n, V.add (strsA (Txt.split x y)))) _ tk _ _ ⟨step_alloc, z.H.alloc (hl ▸ vrs_strs), hp⟩ z.H.last
  refine wpT z.tk ?_
  cases h1 : (decide (x.length < y.length) || decide (strKind x < strKind y))
  · cases hf : (occurrences x y 0 x.length (x.length + 1)).isEmpty
    · have hsp : Txt.split x y = partsBetween x (occurrences x y 0 x.length (x.length + 1)) y.length := (if_neg (ne_true_of_eq_false h1)).trans (if_neg (ne_true_of_eq_false hf))
      refine call_meets F.slot_str_split (typeIs_str _ _ _) F.entry_str_split (F.args_str_split_2 _ _) (meets_str_split_sep x y t u h1 hy hf (by rw [sizeLine_eq]; omega) (by rw [← hsp, sizeLine_eq]; omega)) ?_
      show wants _ NoE _ { s with toks := _, heap := s.heap.push { cls := .type "list", data := .seq (strsFrom s.toks (partsBetween x (occurrences x y 0 x.length (x.length + 1)) y.length)).toArray } }
      rw [strsFrom_eq]
      exact key _ (numbered s.toks _) ((numbered_texts _ _).trans hsp.symm)
    · exact call_meets F.slot_str_split (typeIs_str _ _ _) F.entry_str_split (F.args_str_split_2 _ _) (meets_str_split_not_found x y t u h1 hy hf) (key s.toks [(x, t)] ((if_neg (ne_true_of_eq_false h1)).trans (if_pos hf)).symm)
  · exact call_meets F.slot_str_split (typeIs_str _ _ _) F.entry_str_split (F.args_str_split_2 _ _) (meets_str_split_cannot_occur x y t u h1) (key s.toks [(x, t)] (if_pos h1).symm)
theorem soundF_append : SoundF X d (.builtin "list.append") appendF := fun {A s W V args vals Q} z rs P =>
  args2_ok (G := fun vs => wpAny X.M A (call (.builtin "list.append") vs) Q NoE s) rs P fun a b v u ra rb P0 => onLst_ok P0 fun i q P1 => P1.bnde fun xs e P2 => P2.grd fun hs P3 => by
    subst q
    exact ra.lsts (G := fun v => wpAny X.M A (call (.builtin "list.append") [v, u]) Q NoE s) fun a ha => wp_append z ha e hs rb fun h' g => (P3 : PostE X s W Q (.none, _)) h' s.toks W _ g (.imm .none)
theorem few_of {args : List Expr} {pos : Pos} (h : (starEach args env).any (·.1) = false) (hl : args.length < 30) :
    ((backTo pos (starEach args env)).all (fun x => !x.1) && (backToKw pos (keywordEach [] env)).all (fun x => x.1.isSome) && decide (args.length + ([] : List Keyword).length + (if ([] : List Keyword).isEmpty then 0 else 1) < 30)) = true := by
  have h1 : (backTo pos (starEach args env)).all (fun x => !x.1) = true := by
    unfold backTo
    rw [List.all_map, List.all_eq_true]
    intro x hx
    simpa using List.any_eq_false.mp h x hx
  rw [h1]
  simp only [Bool.true_and, Bool.and_eq_true, decide_eq_true_eq]
  exact ⟨rfl, by simpa using hl⟩
theorem sound_strMeth {o : Expr} {name : Str} {apos pos : Pos} {args : List Expr} {id : String} {F φ ψ} (slot : Slot "str" name id) (ty : typeOf (.builtin id) = pure (.type "method_descriptor")) (hf : SoundF X d (.builtin id) F)
    (ho : SoundE X d sc sl o φ) (ha : SoundEs X d sc sl args ψ) (hbase : ∀ env, attributeBase o name env (eval o env) = eval o env) (hline : (apos.endLine == pos.line) = true) (hlen : args.length < 30) :
    SoundE X d sc sl (.Call (.Attribute o name apos) args [] pos) (strMethE F φ ψ) := fun {A s env W V ev Q} z P =>
  wpAny_Call_method_lateS (hbase env) (few_of (ha.1 env) hlen) hline (ho z (P.bndO fun a V P0 h1 tk1 W1 v1 g1 r1 => onStr_ok P0 fun x q P1 => by
    subst q
    obtain ⟨t, rfl⟩ : ∃ t, v1 = .str x t := r1.strs (G := fun v => ∃ t, v = .str x t) fun t => ⟨t, rfl⟩
    exact ⟨"str", id, PySem.F.plainAttrs_str, slot, ty, typeIs_str _ _ _, (fun _ e => nomatch e), wp_callWith keep_builtin (ha.1 env) (ha.2 (z.go g1) (P1.bndO fun l V P2 h2 tk2 W2 vs g2 rs => ⟨g2.H.base,
      hf ((z.go g1).go g2).toAt0 (.cons (.imm (.str _ t)) rs) (P2.mono fun r P => (PostE.after P g1).after g2)⟩))⟩))
theorem sound_lstMeth {o : Expr} {name : Str} {apos pos : Pos} {args : List Expr} {id : String} {F φ ψ} (slot : Slot "list" name id) (pa : PlainAttrs "list") (ty : typeOf (.builtin id) = pure (.type "method_descriptor")) (hf : SoundF X d (.builtin id) F)
    (ho : SoundE X d sc sl o φ) (ha : SoundEs X d sc sl args ψ) (hbase : ∀ env, attributeBase o name env (eval o env) = eval o env) (hline : (apos.endLine == pos.line) = true) (hlen : args.length < 30) :
    SoundE X d sc sl (.Call (.Attribute o name apos) args [] pos) (lstMethE F φ ψ) := fun {A s env W V ev Q} z P =>
  wpAny_Call_method_lateS (hbase env) (few_of (ha.1 env) hlen) hline (ho z (P.bndO fun a V P0 h1 tk1 W1 v1 g1 r1 => onLst_ok P0 fun i q P1 => P1.grd fun hb P2 => by
    subst q
    obtain ⟨b, rfl, g⟩ : ∃ b, v1 = .ref b ∧ W1.ρ[i]? = some b := r1.lsts (G := fun v => ∃ b, v = .ref b ∧ W1.ρ[i]? = some b) fun b g => ⟨b, rfl, g⟩
    obtain ⟨xs, hx⟩ := VH.get_ex g1.H.ok (Nat.blt_eq.mp hb)
    refine g1.H.at_ g hx fun us l1 _ _ => ?_
    obtain ⟨n, ho'⟩ := (show LsAt _ _ _ from l1)
    exact ⟨"list", id, pa, slot, ty, ⟨_, ho', rfl⟩, (fun x e => by cases e; exact ⟨_, ho', rfl⟩), wp_callWith keep_builtin (ha.1 env) (ha.2 (z.go g1) (P2.bndO fun l V P3 h2 tk2 W2 vs g2 rs => ⟨g2.H.base,
      hf ((z.go g1).go g2).toAt0 (.cons (.lst (g2.S.grow.l g)) rs) (P3.mono fun r P => (PostE.after P g1).after g2)⟩))⟩))
end
end
end Mine
end

section
open PySem PySem.W PyProof.Rows
namespace Mine
noncomputable section
/-- lists that no one turns -/
noncomputable abbrev Fix := Nat → Option (List AV)
noncomputable def FixOK (h0 : Heap) (FX : Fix) : Prop := ∀ a xs, FX a = some xs → ∃ vs : Array Value, h0.IsList a vs ∧ ∀ σ h W, VRs σ h W xs vs.toList
noncomputable def FX0 : Fix := fun _ => none
theorem fix0 {h0} : FixOK h0 FX0 := fun _ _ e => by cases e
noncomputable def pickA (xs : List AV) (lo hi st : Option Int) : List AV :=
  (sliceRange (sliceBounds lo hi st xs.length).1 (sliceBounds lo hi st xs.length).2.1 (sliceBounds lo hi st xs.length).2.2).filterMap (xs[·]?)
noncomputable abbrev φP := EV → VH → Option (Option Int × VH)
noncomputable def PostP (X : Wd) (s : Shared) (W : Wld) (Q : Value → Shared → Prop) (r : Option Int × VH) : Prop := ∀ h tk W' val, Go X Nox s W h tk W' r.2 → IsPart val r.1 → Q val (on s h tk)
/-- a part of a slice -/
noncomputable def SoundP (X : Wd) (d : Nat) (sc : Scope) (sl : List Str) (e : Option Expr) (φ : φP) : Prop := ∀ {A s env W V ev Q}, At X d sc sl A s env W V ev → Su (φ ev V) (PostP X s W Q) → wpAny X.M A (evalPart e env) Q NoE s
noncomputable def noP : φP := fun _ V => some (none, V)
noncomputable def someP (φ : φE) : φP := fun ev V => bndO (φ ev V) fun a V => onInt a fun n => some (some n, V)
noncomputable def srcOf {β : Type} (FX : Fix) (V : VH) (a : AV) (F : List AV → Option β) : Option β := match a with
  | .lst i => bnd (V.get i) F
  | .fix a => bnd (FX a) F
  | _ => none
/-- xs[lo:hi:st] -/
noncomputable def sliceE (FX : Fix) (φ : φE) (lo hi st : φP) : φE := fun ev V => bndO (φ ev V) fun a V => bndO (lo ev V) fun i V => bndO (hi ev V) fun j V => bndO (st ev V) fun k V =>
  srcOf FX V a fun xs => grd (smallL xs && k != some 0) (some (.lst V.n, V.add (pickA xs i j k)))
/-- - n -/
noncomputable def negE (φ : φE) : φE := fun ev V => bndO (φ ev V) fun a V => onInt a fun n => forceI (-n) fun m => some (.int m, V)
/-- a, b = x, y (the second name first) -/
noncomputable def swapS (φ : φE) (i j : Nat) : φS := fun ev V => bndO (φ ev V) fun v V => onTup v fun l => args2 l fun x y => some (.next, setF (setF ev j (some y)) i (some x), V)
/-- x += e -/
noncomputable def augS (φ : φE) (i : Nat) : φS := fun ev V => bnd (getF ev i) fun o => bnd o fun v => onInt v fun a => bndO (φ ev V) fun w V => onInt w fun b => forceI (a + b) fun c => some (.next, setF ev i (some (.int c)), V)
/-- x.replace(y, z) of two written strs -/
noncomputable def replE (y z : Str) (φ : φE) : φE := fun ev V => bndO (φ ev V) fun a V => onStr a fun x => grd (Nat.ble (x.length + (x.length + 1) * z.length) 16777216) (forceS (replS x y z) fun w => some (.str w, V))
section
variable {X : Wd} {d : Nat} {sc : Scope} {sl st : List Str} {T : Tab} {A : Around} {s : Shared} {W W' : Wld} {V V' : VH} {env : Env} {ev ev' : EV} {h h' : Heap} {tk : Nat} {Y : Addr → Prop} {FX : Fix}
theorem vrs_filterMap {σ} {xs : List AV} {vs : List Value} (r : VRs σ h W xs vs) : ∀ (is : List Nat), VRs σ h W (is.filterMap (xs[·]?)) (is.filterMap (vs[·]?))
  | [] => .nil
  | i :: is => by
    rw [List.filterMap_cons, List.filterMap_cons]
    cases q : xs[i]? with
    | none =>
      rw [show vs[i]? = none by rw [List.getElem?_eq_none_iff, ← r.length, ← List.getElem?_eq_none_iff]; exact q]
      exact vrs_filterMap r is
    | some x =>
      obtain ⟨v, h1, h2⟩ := r.get q
      rw [h1]
      exact .cons h2 (vrs_filterMap r is)
theorem soundP_none : SoundP X d sc sl none noP := fun z P => wpAny_pure ((P : PostP X _ _ _ (none, _)) _ _ _ _ (.refl z.H z.tk) .none)
theorem soundP_some {e φ} (h : SoundE X d sc sl e φ) : SoundP X d sc sl (some e) (someP φ) := fun {A s env W V ev Q} z P =>
  h z (P.bndO fun a V P h1 tk1 W1 val g r => r.onInt (G := fun val => Q val (on s h1 tk1)) P fun n t P => (P : PostP X s W Q (some n, V)) h1 tk1 W1 _ g (.int _ t))
theorem srcOf_ok {β : Type} (FO : FixOK X.h0 FX) {a v} {F : List AV → Option β} {K : β → Prop} {G : Value → Prop} (H : HRel X h W V) (r : VR X.σ h W a v) (k : Su (srcOf FX V a F) K) (f : ∀ xs l vs, h.IsList l vs → VRs X.σ h W xs vs.toList → Su (F xs) K → G (.ref l)) : G v := by
  cases a with
  | lst i => exact r.lsts fun l hl => Su.bnde k fun xs e k => H.at_ hl e fun vs l1 r1 _ => f xs l vs l1.isList r1 k
  | fix i => exact r.fixs (Su.bnde k fun xs e k => let ⟨vs, ⟨o, ho, q⟩, hv⟩ := FO _ _ e; f xs i vs ⟨o, H.base _ _ ho, q⟩ (hv _ _ _) k)
  | _ => exact k.elim
theorem slice_core (FO : FixOK X.h0 FX) {a v i j k vi vj vk Q} (z : At0 X d A s W V) (r : VR X.σ s.heap W a v) (pi : IsPart vi i) (pj : IsPart vj j) (pk : IsPart vk k)
    (P : Su (srcOf FX V a fun xs => grd (smallL xs && k != some 0) (some (.lst V.n, V.add (pickA xs i j k)))) (PostE X s W Q)) :
    IsSeq { s with heap := s.heap.push { cls := .type "slice", data := .fields #[vi, vj, vk] } } v ∧ wpAny X.M A (getItem v (.ref s.heap.objs.size)) Q NoE { s with heap := s.heap.push { cls := .type "slice", data := .fields #[vi, vj, vk] } } :=
  srcOf_ok (G := fun v => IsSeq { s with heap := s.heap.push { cls := .type "slice", data := .fields #[vi, vj, vk] } } v ∧ wpAny X.M A (getItem v (.ref s.heap.objs.size)) Q NoE { s with heap := s.heap.push { cls := .type "slice", data := .fields #[vi, vj, vk] } }) FO z.H r P fun xs l vs hl hv P => P.grd fun hc P => by
    rw [Bool.and_eq_true, bne_iff_ne] at hc
    have hl' : (s.heap.push { cls := .type "slice", data := .fields #[vi, vj, vk] }).IsList l vs := by obtain ⟨o, ho, q⟩ := hl; exact ⟨o, keeps_push _ _ _ ho, q⟩
    have hsz : List.length xs = vs.size := by rw [hv.length, Array.length_toList]
    have hsm := smallL_le hc.1
    refine ⟨⟨"list", hl'.typeIs, .inl rfl⟩, wpAny_getItem_list_slice hl' (Heap.IsSliceOf.new _ _ _ _) pi pj pk hc.2 ?_ (by rw [sizeLine_eq]; omega)⟩
    have e2 : VRs X.σ s.heap W (pickA xs i j k) ((sliceRange (sliceBounds i j k vs.size).1 (sliceBounds i j k vs.size).2.1 (sliceBounds i j k vs.size).2.2).filterMap (vs[·]?)) := by
      unfold pickA
      rw [hsz]
      exact (funext fun i => (Array.getElem?_toList (xs := vs) (i := i)).symm : (fun i => vs[i]?) = fun i => vs.toList[i]?) ▸ vrs_filterMap hv _
    have H1 := z.H.keeps (keeps_push { cls := .type "slice", data := .fields #[vi, vj, vk] })
    exact (P : PostE X s W Q _) _ s.toks _ _ ⟨(Step.of_keeps (keeps_push _)).trans step_alloc, H1.alloc (e2.mono (keeps_push _).tups .refl), z.tk⟩ H1.last
theorem sound_slice (FO : FixOK X.h0 FX) {f : Value → Value → List Value} {value lower upper step p pos φ lo hi st} (hs : ∀ o i, subscripted (.Slice lower upper step p) false o i = operate (f o i) (getItem o i)) (hv : SoundE X d sc sl value φ)
    (h1 : SoundP X d sc sl lower lo) (h2 : SoundP X d sc sl upper hi) (h3 : SoundP X d sc sl step st) : SoundE X d sc sl (.Subscript value (.Slice lower upper step p) pos) (sliceE FX φ lo hi st) := fun z P =>
  wp_subscript hs (hv z (P.bndO fun a V P _ _ _ va g1 ra => wpAny_Slice (h1 (z.go g1) (P.bndO fun i V P _ _ _ vi g2 pi => h2 ((z.go g1).go g2) (P.bndO fun j V P _ _ _ vj g3 pj => h3 (((z.go g1).go g2).go g3) (P.bndO fun k V P _ _ _ vk g4 pk =>
    slice_core FO ((((z.go g1).go g2).go g3).go g4).toAt0 (((ra.go (z.go g1).toAt0 g2).go ((z.go g1).go g2).toAt0 g3).go (((z.go g1).go g2).go g3).toAt0 g4) pi pj pk (P.mono fun r P => (((PostE.after P g1).after g2).after g3).after g4)))))))
theorem sound_neg {x pos φ} (h : SoundE X d sc sl x φ) : SoundE X d sc sl (.UnaryOp .USub x pos) (negE φ) := fun {A s env W V ev Q} z P =>
  wpAny_UnaryOp (h z (P.bndO fun a V P h1 tk1 W1 v1 g1 r1 => r1.onInt (G := fun v => wpAny X.M A (unaryOp .USub v) Q NoE (on s h1 tk1)) P fun n t P =>
    wpT g1.tk (PySem.P.neg_int fun hp => PostE.here (PostE.after (forceI_su (f := fun m => some (AV.int m, V)) P) g1) g1.H (.imm (.int _ _)) hp)))
theorem sound_assignSwap (SO : SlotsOK sc sl) {a b pa pb k tpos value pos φ} (i j : Nat) (hi : sl[i]? = some a) (hj : sl[j]? = some b) (ka : sc.names.lookup a = some .local) (kb : sc.names.lookup b = some .local)
    (hs : ∀ env, EnvOK sc env → swapsWithSole [.Tuple [.Name a pa, .Name b pb] k tpos] value pos.line env = pure false) (hw : ∀ env, EnvOK sc env → swappedStores [.Tuple [.Name a pa, .Name b pb] k tpos] value env = pure (some [a, b]))
    (h : SoundE X d sc sl value φ) : SoundS X d sc sl (.Assign [.Tuple [.Name a pa, .Name b pb] k tpos] value pos) (swapS φ i j) := fun {A s env W V ev Q} z P =>
  Assign_Tuple_swapped (names := [a, b]) (h z (P.bndO fun v V P h1 tk1 W1 val g1 r => onTup_ok P fun l q P1 => by
    subst q
    refine r.tups (G := fun val => wpAny X.M A (unpackItems val 2 none) _ NoE (on s h1 tk1)) fun ad vs t rl => ?_
    obtain ⟨us⟩ := vs
    refine (args2_ok (G := fun us => ∃ x y v u, us = [v, u] ∧ VR X.σ h1 W1 x v ∧ VR X.σ h1 W1 y u ∧ Su (some (Flw.next, setF (setF ev j (some y)) i (some x), V)) (PostS X sl s env W Q)) rl P1 fun x y v u rx ry P2 => ⟨x, y, v, u, rfl, rx, ry, P2⟩).elim fun x ⟨y, v, u, e, rx, ry, P2⟩ => ?_
    change us = [v, u] at e
    subst e
    refine wpT g1.tk (unpackItems_tuple (items := #[v, u]) z.rm.hh (isTup_of t) fun h2 he => fun hp => ?_)
    have hk : Keeps h1 h2 := fun b o e => he b o (Nat.ne_of_lt (Heap.lt_size e)) e
    have g2 : Go X Nox (on s h1 tk1) W1 h2 tk1 W1 V := ⟨.of_keeps hk, g1.H.keeps hk, g1.tk⟩
    have z2 := (z.go g1).go g2
    change wpAny X.M A (assignInOrder [bindName env b, bindName env a] [u, v]) _ _ _
    refine wpAny_assignInOrder_more (bindName_ (wp_store (st := sl) (Q := fun _ s' => wpAny X.M A (assignInOrder [bindName env a] [v]) (fun _ => Q .next) NoE s') SO z2 (List.mem_of_getElem? hj) hj (.inl kb) (ry.mono hk.tups .refl) fun h3 tk3 W3 g3 R3 => ?_))
    have z3 := z2.goS g3 R3
    refine wpAny_assignInOrder_more (bindName_ (wp_store (st := sl) (Q := fun _ s' => wpAny X.M A (assignInOrder [] []) (fun _ => Q .next) NoE s') SO z3 (List.mem_of_getElem? hi) hi (.inl ka) (rx.mono (fun a vs t => (g3.S.tups z2.H (noTup_own z2.R)) a vs (hk.tups a vs t)) g3.S.grow) fun h4 tk4 W4 g4 R4 => ?_))
    rw [setF_eq, setF_eq] at P2
    exact wpAny_assignInOrder_none (PostS.next (s := s) (W := W) P2 (((g1.trans g2).nox.trans g3).trans g4) R4))) (hs env z.ok) (hw env z.ok)
theorem sound_aug (SO : SlotsOK sc sl) {x npos value pos φ} (i : Nat) (hi : sl[i]? = some x) (hk : sc.names.lookup x = some .local) (h : SoundE X d sc sl value φ) :
    SoundS X d sc sl (.AugAssign (.Name x npos) .Add value pos) (augS φ i) := fun {A s env W V ev Q} z P =>
  Su.bnde P fun o e P => Su.bnde P fun v e' P0 => onInt_ok P0 fun a q P1 => by
    subst e' q
    rw [getF_eq] at e
    obtain ⟨val, l, r⟩ := z.R.var i x _ hi e
    obtain ⟨t, rfl⟩ : ∃ t, val = .int a t := r.ints (G := fun v => ∃ t, v = .int a t) fun t => ⟨t, rfl⟩
    refine wpAny_AugAssign_Name (wp_look z.ok.fn l (h z (P1.bndO fun w V P h1 tk1 W1 v1 g1 r1 => r1.onInt (G := fun v1 => wpAny X.M A (inplaceOp .Add (.int a t) v1) _ NoE (on s h1 tk1)) P fun b u P => wpT g1.tk (PySem.P.iadd_int fun hp => ?_))))
    have P := forceI_su (f := fun c => some (Flw.next, setF ev i (some (AV.int c)), V)) P
    rw [setF_eq] at P
    exact wp_store (st := sl) (s := on s h1 (tk1 + 1)) SO ⟨⟨z.rm, g1.H, hp⟩, z.ok, z.co, (z.go g1).R⟩ (List.mem_of_getElem? hi) hi (.inl hk) (.imm (.int _ _)) fun h2 tk2 W2 g2 R2 => PostS.next (s := s) (W := W) P (Go.trans (h := h1) (tk := tk1 + 1) ⟨g1.S.nox, g1.H, hp⟩ g2) R2
theorem sound_replace {o : Expr} {apos pos : Pos} {y z y' z' : Str} {k1 k2 p1 p2 φ} (hy : decide (y = y') = true) (hz : decide (z = z') = true) (hyz : (y' == z') = false) (ho : SoundE X d sc sl o φ) (hbase : ∀ env, attributeBase o "replace" env (eval o env) = eval o env) (hline : (apos.endLine == pos.line) = true) :
    SoundE X d sc sl (.Call (.Attribute o "replace" apos) [.Constant (.str y) k1 p1, .Constant (.str z) k2 p2] [] pos) (replE y' z' φ) := fun {A s env W V ev Q} zz P => by
  cases of_decide_eq_true hy
  cases of_decide_eq_true hz
  have hstar : starEach [.Constant (.str y) k1 p1, .Constant (.str z) k2 p2] env = [(false, eval (.Constant (.str y) k1 p1) env), (false, eval (.Constant (.str z) k2 p2) env)] := rfl
  refine wpAny_Call_method_lateS (hbase env) (few_of (by rw [hstar]; rfl) (Nat.lt_of_sub_eq_succ rfl)) hline (ho zz (P.bndO fun a V P0 h1 tk1 W1 v1 g1 r1 => onStr_ok P0 fun x q P1 => P1.grd fun hb P2 => ?_))
  subst q
  obtain ⟨t, rfl⟩ : ∃ t, v1 = .str x t := r1.strs (G := fun v => ∃ t, v = .str x t) fun t => ⟨t, rfl⟩
  rw [forceS_eq, replS_eq] at P2
  refine ⟨"str", _, PySem.F.plainAttrs_str, PySem.F.slot_str_replace, PySem.F.type_str_replace, typeIs_str _ _ _, (fun _ e => nomatch e), wp_callWith keep_builtin (by rw [hstar]; rfl) ?_⟩
  refine spliced_more (wpAny_Constant_str (spliced_more (wpAny_Constant_str (spliced_none ⟨g1.H.base, wpT (Nat.succ_pos _) ?_⟩)) rfl)) rfl
  exact SC.replace (u := tk1) (v := tk1 + 1) (Nat.pos_iff_ne_zero.mp g1.tk) (Nat.succ_ne_zero _) (fun q => absurd (show tk1 = tk1 + 1 from q) (by omega)) hyz (Nat.le_of_ble_eq_true hb) fun t' k hp => (P2 : PostE X s W Q _) h1 k W1 _ ⟨g1.S, g1.H, hp⟩ (.imm (.str _ _))
-- checks
noncomputable def isCF (k : Option NameKind) : Bool := decide (k = some .cell) || decide (k = some .free)
theorem isCF_ok {k : Option NameKind} (h : isCF k = true) : k = some .cell ∨ k = some .free := by
  unfold isCF at h
  rwa [Bool.or_eq_true, decide_eq_true_eq, decide_eq_true_eq] at h
noncomputable def compOKb (sc : Scope) (sl : List Str) (scope : Scope) (own : List Str) (caps : List (Str × Nat)) : Bool :=
  decide (scope.kind = .function) && (scope.names.all fun x => decide (x.2 ≠ .local) || decide (scope.names.lookup x.1 = some .local)) &&
  (scope.names.all fun x => decide (x.2 ≠ .free) || (decide (x.1 ∈ sl) && isCF (sc.names.lookup x.1))) &&
  (caps.all fun p => decide (sl[p.2]? = some p.1) && decide ((p.1, NameKind.free) ∈ scope.names) && decide ((p.1, NameKind.cell) ∉ scope.names) && isCF (sc.names.lookup p.1) && isCF ((relab sc scope).names.lookup p.1) && decide (p.1 ≠ "__classdict__")) &&
  (own.all fun x => decide ((x, NameKind.free) ∉ scope.names) && (decide ((relab sc scope).names.lookup x = some .local) || (decide ((relab sc scope).names.lookup x = some .cell) && decide ((x, NameKind.cell) ∈ scope.names))))
theorem compOK_of {scope : Scope} {own : List Str} {caps : List (Str × Nat)} (h : compOKb sc sl scope own caps = true) : CompOK sc sl scope own caps := by
  unfold compOKb at h
  simp only [Bool.and_eq_true, List.all_eq_true, decide_eq_true_eq, Bool.or_eq_true] at h
  obtain ⟨⟨⟨⟨h1, h2⟩, h3⟩, h4⟩, h5⟩ := h
  exact ⟨h1, fun x hx hl => (h2 x hx).elim (fun q => absurd hl q) id, fun n hn => (h3 _ hn).elim (fun q => absurd rfl q) fun ⟨q, r⟩ => ⟨q, isCF_ok r⟩,
    fun p hp => let ⟨⟨⟨⟨⟨q1, q2⟩, q3⟩, q4⟩, q5⟩, q6⟩ := h4 p hp; ⟨q1, q2, q3, isCF_ok q4, isCF_ok q5, q6⟩, h5⟩
noncomputable def parOKb (sc : Scope) (params more : List Str) : Bool := decide params.Nodup && (params.all fun y => decide (y ≠ "_headers")) && (params.all fun y => decide (sc.names.lookup y = some .local) || (decide (sc.names.lookup y = some .cell) && decide (y ≠ "__classdict__"))) &&
  ((params ++ more).all fun y => decide (sc.names.lookup y ≠ some .free))
theorem parOK_of {params more} (h : parOKb sc params more = true) : ParOK sc params more := by
  unfold parOKb at h
  simp only [Bool.and_eq_true, List.all_eq_true, decide_eq_true_eq, Bool.or_eq_true] at h
  obtain ⟨⟨⟨h1, h2⟩, h3⟩, h4⟩ := h
  exact ⟨h1, h2, fun y hy => (h3 y hy).imp id fun ⟨q, r⟩ => ⟨q, r, fun n => cellsFrom_some _ _ _ (.inl q)⟩, h4⟩
noncomputable def slotsOKb (sl : List Str) : Bool := decide sl.Nodup && sl.all fun x => decide (x ≠ "_headers") && decide (x ≠ "__classdict__")
theorem slotsOK_of (h : slotsOKb sl = true) : SlotsOK sc sl := by
  unfold slotsOKb at h
  simp only [Bool.and_eq_true, List.all_eq_true, decide_eq_true_eq] at h
  exact ⟨h.1, h.2⟩
theorem blockKind_ok (ok : EnvOK sc env) : env.blockKind = .function := by unfold Env.blockKind; rw [ok.scope, ok.kind]; rfl
/-- a comprehension that is stored under a name of the frame -/
theorem swaps_ok {env : Env} (ok : EnvOK sc env) {elt : Expr} {gens : List Comprehension} {scope : Scope} {pos p : Pos} {t : Str} {line : Nat} (hk : sc.names.lookup t = some .local) (hl : (p.line == pos.line) = true)
    (hn : (scope.names.any fun x => x.1 == t && (x.2 == .local || x.2 == .cell)) = false) : swapsWith (.ListComp elt gens scope pos) (some (.Name t p)) line env = pure true := by
  show (pure (env.blockKind == .function && env.kindOf t == some .local && p.line == pos.line && !(scope.names.any fun x => x.1 == t && (x.2 == .local || x.2 == .cell))) : Sem Bool) = pure true
  rw [blockKind_ok ok, ok.kindOf.trans hk, hl, hn]
  rfl
theorem swapped_ok {env : Env} (ok : EnvOK sc env) {a b : Str} {pa pb tp vp : Pos} {k k' : Nat} {v1 v2 : Expr} (ha : sc.names.lookup a = some .local) (hb : sc.names.lookup b = some .local) (hl : (pa.line == pb.line) = true) (hn : ([a, b].eraseDups.length != 2) = false)
    (hs : ([v1, v2].any fun | .Starred .. => true | _ => false) = false) (hf : [v1, v2].all (foldedForSure 8) = false) (hc : [v1, v2].all (constantsAlone 8) = false) :
    swappedStores [.Tuple [.Name a pa, .Name b pb] k tp] (.Tuple [v1, v2] k' vp) env = pure (some [a, b]) := by
  have hl' : (pb.line == pa.line) = true := by rw [beq_iff_eq] at hl ⊢; exact hl.symm
  unfold swappedStores
  have hp : (Expr.pos (.Name a pa)) = pa := rfl
  have hq : (Expr.pos (.Name b pb)) = pb := rfl
  simp only [blockKind_ok ok, List.length_cons, List.length_nil, List.head?_cons, Option.map_some, Option.getD_some, List.filterMap_cons, List.filterMap_nil, ok.kindOf.trans ha, ok.kindOf.trans hb, hp, hl', beq_self_eq_true, Bool.and_self, if_true, hn, hf, hc]
  rw [if_neg (by decide)]
  refine (if_neg ?_).trans rfl
  intro h
  cases hs.symm.trans h
end
-- the paths into a program's text
noncomputable def stAt (p : Program) (k : Nat) : Stmt := match p.main.body[k]? with
  | some s => s
  | none => .Pass ⟨0, 0, 0, 0⟩
noncomputable def inCls (p : Program) (k j : Nat) : Stmt := match stAt p k with
  | .ClassDef _ _ _ body _ _ _ _ _ _ _ => match body[j]? with
    | some s => s
    | none => .Pass ⟨0, 0, 0, 0⟩
  | _ => .Pass ⟨0, 0, 0, 0⟩
noncomputable def bodyOf : Stmt → List Stmt
  | .FunctionDef _ _ b _ _ _ _ _ _ _ => b
  | _ => []
noncomputable def scopeOf : Stmt → Scope
  | .FunctionDef _ _ _ _ _ _ s _ _ _ => s
  | _ => ⟨.function, [], false, false, []⟩
end
end Mine
end

section
open PySem PySem.W PyProof.Rows PySem.Builtin PySem.Builtin.Re
namespace Mine
theorem beqN (a b : Nat) : (a == b) = Nat.beq a b := by rw [Bool.eq_iff_iff, beq_iff_eq]; exact ⟨fun e => e ▸ Nat.beq_refl a, Nat.eq_of_beq_eq_true⟩
namespace RX
open PySem.Sre (inSet)
noncomputable abbrev M := Sre.M
theorem runFor_done {m : M} (h : m.outcome.isSome = true) : ∀ n, m.runFor n = m
  | 0 => rfl
  | n + 1 => if_pos h
theorem runFor_add : ∀ (a b : Nat) (m : M), m.runFor (a + b) = (m.runFor a).runFor b
  | 0, b, m => by rw [Nat.zero_add]; rfl
  | a + 1, b, m => by
    rw [Nat.add_right_comm]
    by_cases h : m.outcome.isSome = true
    · rw [runFor_done h, runFor_done h, runFor_done h]
    · show (if m.outcome.isSome then m else Sre.M.runFor (a + b) m.step) = Sre.M.runFor b (if m.outcome.isSome then m else Sre.M.runFor a m.step)
      rw [if_neg h, if_neg h]
      exact runFor_add a b _
theorem same_done {m : M} {a b : Nat} (ha : (m.runFor a).outcome.isSome = true) (hb : (m.runFor b).outcome.isSome = true) : m.runFor a = m.runFor b := by
  rcases Nat.le_total a b with h | h
  · obtain ⟨k, hk⟩ := Nat.le.dest h
    rw [← hk, runFor_add, runFor_done ha]
  · obtain ⟨k, hk⟩ := Nat.le.dest h
    rw [← hk, runFor_add, runFor_done hb]
section
variable {M' : Model} {A : Around} {E : Value → Shared → Prop} {s : Shared}
/-- the machine is driven by fours -/
theorem wp_drive {Q : M → Shared → Prop} (r : Nat) : ∀ (k n : Nat) (m : M), n ≤ 4 * k → (m.runFor n).outcome.isSome = true → Q (m.runFor n) s → wpAny M' A (reDrive (r + (k + 1)) m) Q E s := by
  have yes : ∀ (k n : Nat) (m : M), (m.runFor 4).outcome.isSome = true → (m.runFor n).outcome.isSome = true → Q (m.runFor n) s → wpAny M' A (reDrive (r + (k + 1)) m) Q E s := fun k n m h4 h hq => by
    show wpAny M' A (if (m.runFor 4).outcome.isSome then pure (m.runFor 4) else _) Q E s
    rw [if_pos h4, same_done h4 h]
    exact wpAny_pure hq
  have le : ∀ {n : Nat} {m : M}, (m.runFor n).outcome.isSome = true → n ≤ 4 → (m.runFor 4).outcome.isSome = true := fun {n m} h hle => by
    obtain ⟨j, hj⟩ := Nat.le.dest hle
    rw [← hj, runFor_add, runFor_done h]; exact h
  intro k
  induction k with
  | zero => exact fun n m hn h hq => yes 0 n m (le h (Nat.le_trans hn (Nat.zero_le _))) h hq
  | succ k ih =>
    intro n m hn h hq
    rcases Nat.lt_or_ge n 5 with q | q
    · exact yes _ n m (le h (Nat.le_of_lt_succ q)) h hq
    · by_cases h4 : (m.runFor 4).outcome.isSome = true
      · exact yes _ n m h4 h hq
      · show wpAny M' A (if (m.runFor 4).outcome.isSome then _ else do rule "sre.turn"; reDrive (r + (k + 1)) (m.runFor 4)) Q E s
        rw [if_neg h4]
        obtain ⟨j, hj⟩ := Nat.le.dest (Nat.le_of_lt q)
        subst hj
        rw [runFor_add] at h hq
        exact wpAny_bind (wpAny_rule (ih j _ (by omega) h hq))
theorem wp_rules {Q : PUnit → Shared → Prop} (c : Nat → Bool) (f : Nat → String) (hq : Q ⟨⟩ s) : ∀ (l : List Nat), wpAny M' A (forIn l PUnit.unit fun (i : Nat) (_ : PUnit) =>
    if c i = true then (do
      rule (f i)
      pure (ForInStep.yield PUnit.unit)) else pure (ForInStep.yield PUnit.unit)) Q E s
  | [] => by rw [List.forIn_nil]; exact wpAny_pure hq
  | i :: l => by
    rw [List.forIn_cons]
    refine wpAny_bind ?_
    cases c i
    · exact wpAny_pure (wp_rules c f hq l)
    · exact wpAny_bind (wpAny_rule (wpAny_pure (wp_rules c f hq l)))
/-- the machine ends -/
theorem wp_end {Q : Option M → Shared → Prop} {m : M} {n : Nat} (hn : n ≤ 2 ^ 20) (h : ((m.runFor n).outcome = some .matched ∧ Q (some (m.runFor n)) s) ∨ ((m.runFor n).outcome = some .failed ∧ Q none s)) : wpAny M' A (reRunToEnd m) Q E s := by
  unfold reRunToEnd
  rw [show (2 ^ 64 : Nat) = (2 ^ 64 - (n + 1)) + (n + 1) from (Nat.sub_add_cancel (Nat.le_trans (Nat.succ_le_succ hn) (by decide))).symm]
  refine wpAny_bind (wp_drive _ n n m (by omega) (h.elim (fun h => by rw [h.1]; rfl) fun h => by rw [h.1]; rfl) (wpAny_bind (wp_rules (m.runFor n).seen.has _ ?_ _)))
  rcases h with ⟨h, hq⟩ | ⟨h, hq⟩ <;> rw [h] <;> exact wpAny_pure hq
end
noncomputable def Found (m : M) (s e : Nat) (n : Nat) : Prop := (m.runFor n).outcome = some .matched ∧ (m.runFor n).start = s ∧ (m.runFor n).handed = e
noncomputable def Lost (m : M) (n : Nat) : Prop := (m.runFor n).outcome = some .failed
theorem runFor_step {m m' : M} {n : Nat} (h : m.outcome = none) (e : m.step = m') : Sre.M.runFor (n + 1) m = Sre.M.runFor n m' := by
  show (if m.outcome.isSome then m else Sre.M.runFor n m.step) = _
  rw [h, e]; rfl
theorem Found.step {m m' : M} {a e n : Nat} (ho : m.outcome = none) (h : m.step = m') (f : Found m' a e n) : Found m a e (n + 1) := by
  unfold Found at *
  rwa [runFor_step ho h]
noncomputable def SS (code text : Array Nat) (lim s pc pos handed : Nat) (out : Bool) (fr : List Sre.Frame) (wt : Nat) (ans : Option Bool) (sn : Sre.Seen) : M :=
  { code, text, lim, start := s, lastStart := lim, pc, pos, handed, outermost := out, marks := #[], frames := fr, weight := wt, answer := ans, seen := sn }
noncomputable def fr (w : Sre.Wait) (pc s : Nat) (first : Bool) : Sre.Frame := { wait := w, pc, pos := s, outermost := first }
/-- a written sign -/
noncomputable def LitAt (code : Array Nat) (pc c : Nat) : Prop := ∀ {text : Array Nat} {lim s pos handed : Nat} {out : Bool} {fr : List Sre.Frame} {wt : Nat} {sn : Sre.Seen}, (SS code text lim s pc pos handed out fr wt none sn).step =
  if pos ≥ lim then SS code text lim s pc pos handed out fr wt (some false) (sn.add 16) else match text.getD pos 0 == c with
    | true => SS code text lim s (pc + 2) (pos + 1) handed out fr wt none (sn.add 16)
    | false => SS code text lim s pc pos handed out fr wt (some false) (sn.add 16)
-- the codes: dots ahead of lines, line ends, names, values
noncomputable def R1 : Array Nat := #[14, 4, 0, 1, 1, 6, 1, 16, 46, 1]
noncomputable def R2 : Array Nat := #[14, 9, 4, 1, 2, 16, 10, 16, 13, 0, 7, 7, 16, 13, 16, 10, 15, 18, 5, 16, 10, 15, 13, 11, 16, 13, 5, 5, 0, 16, 10, 1, 15, 2, 0, 1]
noncomputable def RN : Array Nat := #[14, 10, 4, 1, 1, 22, 0, 31, 16, 127, 0, 13, 7, 22, 0, 31, 16, 127, 0, 1]
noncomputable def RV : Array Nat := #[14, 14, 4, 1, 1, 9, 4294966783, 0, 0, 2147483648, 0, 0, 0, 0, 0, 13, 11, 9, 4294966783, 0, 0, 2147483648, 0, 0, 0, 0, 0, 1]
theorem l7 : LitAt R1 7 46 := by intro _ _ _ _ _ _ _ _ _; kernel_rfl
theorem l12 : LitAt R2 12 13 := by intro _ _ _ _ _ _ _ _ _; kernel_rfl
theorem l14 : LitAt R2 14 10 := by intro _ _ _ _ _ _ _ _ _; kernel_rfl
theorem l19 : LitAt R2 19 10 := by intro _ _ _ _ _ _ _ _ _; kernel_rfl
theorem l24 : LitAt R2 24 13 := by intro _ _ _ _ _ _ _ _ _; kernel_rfl
theorem l29 : LitAt R2 29 10 := by intro _ _ _ _ _ _ _ _ _; kernel_rfl
/-- the class of signs at place 5 -/
noncomputable def InSet (code : Array Nat) (c : Nat) (b : Bool) : Prop := ∀ sn, ∃ sn', inSet code c code.size 5 true sn = .ok (b, sn')
noncomputable def isEnd (c : Nat) : Bool := Nat.beq c 10 || Nat.beq c 13
noncomputable def plainC (c : Nat) : Bool := Nat.ble 32 c && Nat.blt c 127
theorem inSet2 (c : Nat) : InSet R2 c (isEnd c) := fun sn => by
  have e : inSet R2 c R2.size 5 true sn = if (c == 10) = true then .ok (true, sn.add 16) else if (c == 13) = true then .ok (true, (sn.add 16).add 16) else .ok (false, ((sn.add 16).add 16).add 0) := by kernel_rfl
  rw [e, beqN, beqN]
  unfold isEnd
  cases Nat.beq c 10 <;> cases Nat.beq c 13 <;> exact ⟨_, rfl⟩
theorem inSetN {c : Nat} (h : plainC c = true) : InSet RN c false := fun sn => by
  unfold plainC at h
  rw [Bool.and_eq_true, Nat.ble_eq, Nat.blt_eq] at h
  have e : inSet RN c RN.size 5 true sn = if (decide (0 ≤ c) && decide (c ≤ 31)) = true then .ok (true, sn.add 22) else if (c == 127) = true then .ok (true, (sn.add 22).add 16) else .ok (false, ((sn.add 22).add 16).add 0) := by kernel_rfl
  rw [e, decide_eq_false (show ¬ c ≤ 31 by omega), Bool.and_false, beq_eq_false_iff_ne.mpr (show c ≠ 127 by omega)]
  exact ⟨_, rfl⟩
theorem bitV : ∀ c, c < 127 → 32 ≤ c → (RV.getD (5 + (1 + c / 32)) 0).testBit (c % 32) = false := by decide +kernel
theorem inSetV {c : Nat} (h : plainC c = true) : InSet RV c false := fun sn => by
  unfold plainC at h
  rw [Bool.and_eq_true, Nat.ble_eq, Nat.blt_eq] at h
  have e : inSet RV c RV.size 5 true sn = if (decide (c < 256) && (RV.getD (5 + (1 + c / 32)) 0).testBit (c % 32)) = true then .ok (true, sn.add 9) else .ok (false, (sn.add 9).add 0) := by kernel_rfl
  rw [e, bitV c h.2 h.1, Bool.and_false]
  exact ⟨_, rfl⟩
section
variable {text code : Array Nat} {lim s pos handed pc c : Nat} {out first : Bool} {sn : Sre.Seen} {fs : List Sre.Frame} {wt : Nat}
theorem lit_ok (L : LitAt code pc c) (h : pos < lim) (ht : text.getD pos 0 = c) : (SS code text lim s pc pos handed out fs wt none sn).step = SS code text lim s (pc + 2) (pos + 1) handed out fs wt none (sn.add 16) := by
  rw [L, if_neg (Nat.not_le.mpr h), ht, beq_self_eq_true]
theorem lit_no (L : LitAt code pc c) (ht : pos < lim → text.getD pos 0 ≠ c) : (SS code text lim s pc pos handed out fs wt none sn).step = SS code text lim s pc pos handed out fs wt (some false) (sn.add 16) := by
  rw [L]
  by_cases n0 : pos ≥ lim
  · rw [if_pos n0]
  · rw [if_neg n0, beq_eq_false_iff_ne.mpr (ht (Nat.lt_of_not_le n0))]
theorem admitted_step {m : M} {fuel : Nat} (hc : m.code = code) (ht : m.text = text) (hs : ¬ s ≥ m.lim) {b : Bool} {sn'} (e : inSet code (text.getD s 0) code.size 5 true sn = .ok (b, sn')) : Sre.M.admitted m (fuel + 1) s sn = bif b then .ok (some s, sn') else Sre.M.admitted m fuel (s + 1) sn' := by
  subst hc ht
  show (if s ≥ m.lim then _ else (match inSet m.code (m.text.getD s 0) m.code.size 5 true sn with | .ok (true, seen) => Except.ok (some s, seen) | .ok (false, seen) => Sre.M.admitted m fuel (s + 1) seen | .error why => .error why)) = _
  rw [if_neg hs, e]
  cases b <;> rfl
theorem admitted_some {m : M} (hc : m.code = code) (ht : m.text = text) {p : Nat} (hp : p < m.lim) (hp1 : InSet code (text.getD p 0) true) : ∀ (fuel s : Nat) (sn : Sre.Seen), s ≤ p → p < s + fuel → (∀ j, s ≤ j → j < p → InSet code (text.getD j 0) false) → ∃ sn', Sre.M.admitted m fuel s sn = .ok (some p, sn')
  | 0, s, sn, h1, h2, h3 => absurd h2 (Nat.not_lt.mpr h1)
  | fuel + 1, s, sn, h1, h2, h3 => by
    have hs : ¬ s ≥ m.lim := Nat.not_le.mpr (Nat.lt_of_le_of_lt h1 hp)
    by_cases q : s = p
    · subst q
      obtain ⟨sn1, e1⟩ := hp1 sn
      exact ⟨sn1, admitted_step hc ht hs e1⟩
    · obtain ⟨sn1, e1⟩ := h3 s (Nat.le_refl _) (by omega) sn
      rw [admitted_step hc ht hs e1]
      exact admitted_some hc ht hp hp1 fuel (s + 1) sn1 (by omega) (by omega) fun j h4 h5 => h3 j (Nat.le_of_succ_le h4) h5
theorem admitted_none {m : M} (hc : m.code = code) (ht : m.text = text) : ∀ (fuel s : Nat) (sn : Sre.Seen), (∀ j, s ≤ j → j < m.lim → InSet code (text.getD j 0) false) → ∃ sn', Sre.M.admitted m fuel s sn = .ok (none, sn')
  | 0, s, sn, h3 => ⟨_, rfl⟩
  | fuel + 1, s, sn, h3 => by
    by_cases hs : s ≥ m.lim
    · exact ⟨sn, if_pos hs⟩
    · obtain ⟨sn1, e1⟩ := h3 s (Nat.le_refl _) (Nat.lt_of_not_le hs) sn
      rw [admitted_step hc ht hs e1]
      exact admitted_none hc ht fuel (s + 1) sn1 fun j h4 h5 => h3 j (Nat.le_of_succ_le h4) h5
noncomputable def baseC (code : Array Nat) (pc : Nat) (text : Array Nat) (lim s : Nat) : M := { code, text, lim, start := s, pc, pos := s, handed := s, marks := #[], seen := ({} : Sre.Seen).add 14 }
/-- a code with a class of first signs -/
noncomputable def Firsts (code : Array Nat) (pc : Nat) : Prop := ∀ {text lim s}, Sre.forSearch code text 0 s lim false = (if (decide (s > lim) || decide (lim - s < 1)) = true then (baseC code pc text lim s).say false else Sre.M.attemptFrom { baseC code pc text lim s with lastStart := lim } s true) ∧
  ∀ m : M, m.code = code → m.hasFirstSet = true
theorem first2 : Firsts R2 10 := by intro _ _ _; exact ⟨by kernel_rfl, fun m h => by unfold Sre.M.hasFirstSet; rw [h]; rfl⟩
theorem firstN : Firsts RN 11 := by intro _ _ _; exact ⟨by kernel_rfl, fun m h => by unfold Sre.M.hasFirstSet; rw [h]; rfl⟩
theorem firstV : Firsts RV 15 := by intro _ _ _; exact ⟨by kernel_rfl, fun m h => by unfold Sre.M.hasFirstSet; rw [h]; rfl⟩
theorem from_eq {m : M} {r sn'} (hf : m.hasFirstSet = true) (e : m.admitted (m.lim + 1 - s) s m.seen = .ok (r, sn')) : m.attemptFrom s first = match (generalizing := false) r with
    | some p => Sre.M.attemptAt { m with mustAdvance := false, seen := sn' } p first
    | none => Sre.M.say { m with seen := sn' } false := by
  unfold Sre.M.attemptFrom
  rw [hf, e]
  cases r <;> rfl
theorem search_none (F : Firsts code pc) (h3 : ∀ j, s ≤ j → j < lim → InSet code (text.getD j 0) false) : Lost (Sre.forSearch code text 0 s lim false) 1 := by
  rw [F.1]
  split
  · rfl
  · obtain ⟨sn', e⟩ := admitted_none (m := { baseC code pc text lim s with lastStart := lim }) rfl rfl (lim + 1 - s) s (({} : Sre.Seen).add 14) h3
    rw [from_eq ((F (text := text) (lim := lim) (s := s)).2 _ rfl) e]
    rfl
theorem search2_some {p : Nat} (h1 : s ≤ p) (hp : p < lim) (hp1 : isEnd (text.getD p 0) = true) (h3 : ∀ j, s ≤ j → j < p → isEnd (text.getD j 0) = false) :
    ∃ sn', Sre.forSearch R2 text 0 s lim false = SS R2 text lim p 10 p p true [fr .nextStart 10 p true] 1 none sn' := by
  rw [first2.1, if_neg (by simp; omega)]
  obtain ⟨sn', e⟩ := admitted_some (m := { baseC R2 10 text lim s with lastStart := lim }) rfl rfl hp (hp1 ▸ inSet2 _) (lim + 1 - s) s (({} : Sre.Seen).add 14) h1 (by omega) fun j h4 h5 => h3 j h4 h5 ▸ inSet2 _
  exact ⟨sn', from_eq rfl e⟩
-- line ends
noncomputable abbrev S2 (text : Array Nat) (lim s pc pos handed : Nat) (out : Bool) (fs : List Sre.Frame) (wt : Nat) (ans : Option Bool) (sn : Sre.Seen) : M := SS R2 text lim s pc pos handed out (fs ++ [fr .nextStart 10 s true]) wt ans sn
noncomputable abbrev fB (pc s : Nat) : Sre.Frame := fr .nextBranch pc s true
theorem branch1 : (S2 text lim s 10 s s true [] 1 none sn).step = S2 text lim s 12 s s true [fB 11 s] 2 none (sn.add 7) := by kernel_rfl
theorem next12 : (S2 text lim s pc pos handed out [fB 11 s] 2 (some false) sn).step = S2 text lim s 19 s s true [fB 18 s] 2 none sn := by kernel_rfl
theorem next23 : (S2 text lim s pc pos handed out [fB 18 s] 2 (some false) sn).step = S2 text lim s 24 s s true [fB 23 s] 2 none sn := by kernel_rfl
theorem jump16 : (S2 text lim s 16 pos handed out fs wt none sn).step = S2 text lim s 35 pos handed out fs wt none (sn.add 15) := by kernel_rfl
theorem jump21 : (S2 text lim s 21 pos handed out fs wt none sn).step = S2 text lim s 35 pos handed out fs wt none (sn.add 15) := by kernel_rfl
theorem jump32 : (S2 text lim s 32 pos handed out fs wt none sn).step = S2 text lim s 35 pos handed out fs wt none (sn.add 15) := by kernel_rfl
theorem succ35 : (S2 text lim s 35 pos handed true fs wt none sn).step = S2 text lim s 35 pos pos true fs wt (some true) (sn.add 1) := by kernel_rfl
theorem not26 : (S2 text lim s 26 pos handed true [fB 23 s] 2 none sn).step = S2 text lim s 29 pos pos false [fr .lookNot 26 pos true, fB 23 s] 3 none (sn.add 5) := by kernel_rfl
theorem look26 : (S2 text lim s pc c handed out [fr .lookNot 26 pos true, fB 23 s] 3 (some false) sn).step = S2 text lim s 32 pos handed true [fB 23 s] 2 none sn := by kernel_rfl
theorem last3 {k e : Nat} : Found (S2 text lim s pc pos e out [fB k s] 2 (some true) sn) s e 3 := ⟨by kernel_rfl, by kernel_rfl, by kernel_rfl⟩
theorem found2_crlf (h0 : s < lim) (h1 : text.getD s 0 = 13) (h2 : s + 1 < lim) (h3 : text.getD (s + 1) 0 = 10) : Found (S2 text lim s 10 s s true [] 1 none sn) s (s + 2) 8 :=
  .step rfl branch1 <| .step rfl (lit_ok l12 h0 h1) <| .step rfl (lit_ok l14 h2 h3) <| .step rfl jump16 <| .step rfl succ35 <| last3
theorem found2_cr (h0 : s < lim) (h1 : text.getD s 0 = 13) (h3 : s + 1 < lim → text.getD (s + 1) 0 ≠ 10) : Found (S2 text lim s 10 s s true [] 1 none sn) s (s + 1) 15 :=
  .step rfl branch1 <| .step rfl (lit_ok l12 h0 h1) <| .step rfl (lit_no l14 h3) <| .step rfl next12 <| .step rfl (lit_no l19 fun _ => by rw [h1]; decide) <| .step rfl next23 <| .step rfl (lit_ok l24 h0 h1) <|
    .step rfl not26 <| .step rfl (lit_no l29 h3) <| .step rfl look26 <| .step rfl jump32 <| .step rfl succ35 <| last3
theorem found2_lf (h0 : s < lim) (h1 : text.getD s 0 = 10) : Found (S2 text lim s 10 s s true [] 1 none sn) s (s + 1) 9 :=
  .step rfl branch1 <| .step rfl (lit_no l12 fun _ => by rw [h1]; decide) <| .step rfl next12 <| .step rfl (lit_ok l19 h0 h1) <| .step rfl jump21 <| .step rfl succ35 <| last3
-- dots ahead of lines
noncomputable def bol (text : Array Nat) (i : Nat) : Bool := Nat.beq i 0 || Nat.beq (text.getD (i - 1) 0) 10
noncomputable def hit (text : Array Nat) (i : Nat) : Bool := bol text i && Nat.beq (text.getD i 0) 46
noncomputable abbrev S1 (text : Array Nat) (lim s pc pos handed : Nat) (first : Bool) (ans : Option Bool) (sn : Sre.Seen) : M := SS R1 text lim s pc pos handed first [fr .nextStart 5 s first] 1 ans sn
noncomputable abbrev at1 (text : Array Nat) (lim s : Nat) (first : Bool) (sn : Sre.Seen) : M := S1 text lim s 5 s s first none sn
theorem search1 : Sre.forSearch R1 text 0 s lim false = if (decide (s > lim) || decide (lim - s < 1)) = true then Sre.M.say { code := R1, text, lim, start := s, pc := 5, pos := s, handed := s, marks := #[], seen := ({} : Sre.Seen).add 14 } false else at1 text lim s true (({} : Sre.Seen).add 14) := by kernel_rfl
theorem bol_step : (at1 text lim s first sn).step = bif bol text s then S1 text lim s 7 s s first none ((sn.add 6).add 44) else S1 text lim s 5 s s first (some false) ((sn.add 6).add 44) := by
  have e : (at1 text lim s first sn).step = if (s == 0 || text.getD (s - 1) 0 == 10) = true then S1 text lim s 7 s s first none ((sn.add 6).add 44) else S1 text lim s 5 s s first (some false) ((sn.add 6).add 44) := by kernel_rfl
  rw [e, beqN, beqN]
  show (if bol text s = true then _ else _) = _
  cases bol text s <;> rfl
theorem bol_yes (h : bol text s = true) : (at1 text lim s first sn).step = S1 text lim s 7 s s first none ((sn.add 6).add 44) := by rw [bol_step, h]; rfl
theorem bol_no (h : bol text s = false) : (at1 text lim s first sn).step = S1 text lim s 5 s s first (some false) ((sn.add 6).add 44) := by rw [bol_step, h]; rfl
theorem succ9 : (S1 text lim s 9 pos handed first none sn).step = S1 text lim s 9 pos pos first (some true) (sn.add 1) := by cases first <;> kernel_rfl
theorem on_yes {e : Nat} : Found (S1 text lim s pc pos e first (some true) sn) s e 2 := ⟨by kernel_rfl, by kernel_rfl, by kernel_rfl⟩
theorem on_step : (S1 text lim s pc pos handed first (some false) sn).step = if s < lim then at1 text lim (s + 1) false sn else SS R1 text lim s 5 s handed first [] 0 (some false) sn := by kernel_rfl
theorem found1 (h : s < lim) (hh : hit text s = true) : Found (at1 text lim s first sn) s (s + 1) 5 := by
  unfold hit at hh
  rw [Bool.and_eq_true] at hh
  exact .step rfl (bol_yes hh.1) <| .step rfl (lit_ok l7 h (Nat.eq_of_beq_eq_true hh.2)) <| .step rfl succ9 <| on_yes
/-- no hit: some steps on -/
theorem miss1 (hh : hit text s = false) : ∃ n pc sn', n ≤ 2 ∧ (at1 text lim s first sn).runFor n = S1 text lim s pc s s first (some false) sn' := by
  unfold hit at hh
  cases hb : bol text s with
  | true =>
    rw [hb, Bool.true_and] at hh
    exact ⟨2, _, _, Nat.le_refl _, by rw [runFor_step rfl (bol_yes hb), runFor_step rfl (lit_no l7 fun _ q => by rw [q] at hh; cases hh)]; rfl⟩
  | false => exact ⟨1, _, _, by decide, by rw [runFor_step rfl (bol_no hb)]; rfl⟩
theorem scan1 {p : Nat} (hp : p ≤ lim) : ∀ (k s : Nat) (first : Bool) (sn : Sre.Seen), s + k = p → (∀ j, s ≤ j → j < p → hit text j = false) → ∃ n first' sn', n ≤ 3 * k ∧ (at1 text lim s first sn).runFor n = at1 text lim p first' sn'
  | 0, s, first, sn, e, h => by
    rw [Nat.add_zero] at e; subst e
    exact ⟨0, first, sn, Nat.le_refl _, rfl⟩
  | k + 1, s, first, sn, e, h => by
    obtain ⟨n1, pc, sn1, g1, g2⟩ := miss1 (text := text) (lim := lim) (s := s) (first := first) (sn := sn) (h s (Nat.le_refl _) (by omega))
    obtain ⟨n2, first2, sn2, g3, g4⟩ := scan1 hp k (s + 1) false sn1 (by omega) fun j h1 h2 => h j (Nat.le_of_succ_le h1) h2
    exact ⟨n1 + (n2 + 1), first2, sn2, by omega, by rw [runFor_add, g2, runFor_step rfl (on_step.trans (if_pos (by omega))), g4]⟩
theorem search1_some {p : Nat} (h1 : s ≤ p) (hp : p < lim) (hp1 : hit text p = true) (h3 : ∀ j, s ≤ j → j < p → hit text j = false) : ∃ n, n ≤ 3 * (p - s) + 5 ∧ Found (Sre.forSearch R1 text 0 s lim false) p (p + 1) n := by
  rw [search1, if_neg (by simp; omega)]
  obtain ⟨n, f', sn', g1, g2⟩ := scan1 (Nat.le_of_lt hp) (p - s) s true (({} : Sre.Seen).add 14) (by omega) h3
  refine ⟨n + 5, by omega, ?_⟩
  unfold Found
  rw [runFor_add, g2]
  exact found1 hp hp1
theorem search1_none (h3 : ∀ j, s ≤ j → j < lim → hit text j = false) : ∃ n, n ≤ 3 * (lim - s) + 4 ∧ Lost (Sre.forSearch R1 text 0 s lim false) n := by
  rw [search1]
  split
  · exact ⟨1, by omega, rfl⟩
  · rename_i hc
    have hc' : s < lim := by
      simp only [Bool.or_eq_true, decide_eq_true_eq] at hc
      omega
    obtain ⟨n, f', sn', g1, g2⟩ := scan1 (Nat.le_refl lim) (lim - s) s true (({} : Sre.Seen).add 14) (by omega) h3
    have key : ∃ k, k ≤ 2 ∧ ∃ pc sn2, (at1 text lim lim f' sn').runFor k = S1 text lim lim pc lim lim f' (some false) sn2 := by
      cases hb : bol text lim with
      | true => exact ⟨2, Nat.le_refl _, _, _, by rw [runFor_step rfl (bol_yes hb), runFor_step rfl (lit_no l7 fun q => absurd q (Nat.lt_irrefl _))]; rfl⟩
      | false => exact ⟨1, by decide, _, _, by rw [runFor_step rfl (bol_no hb)]; rfl⟩
    obtain ⟨k, g3, pc, sn2, g4⟩ := key
    refine ⟨n + (k + 2), by omega, ?_⟩
    unfold Lost
    rw [runFor_add, g2, runFor_add, g4, runFor_step rfl (on_step.trans (if_neg (Nat.lt_irrefl _)))]
    rfl
end
end RX
end Mine
end

section
open PySem PySem.W PyProof.Rows PySem.Builtin PySem.Builtin.Re PySem.Builtin.Str
namespace Mine
noncomputable section
namespace RF
open PySem.F
set_option maxRecDepth 100000
theorem plainAttrs_pat : PlainAttrs "re.Pattern" :=
  ⟨⟨"object.__getattribute__", by rw [typeLookup_type, builtinLookup_eq_fast]; kernel_rfl, by decide +kernel⟩, by rw [typeLookup_type, builtinLookup_eq_fast]; kernel_rfl⟩
theorem owner_pat : Manifest.owners.lookup (String.ofList ['n', 'r', 'e', 't', 't', 'a', 'P', '.', 'e', 'r'].reverse) = some Manifest.sig_re_Pattern := by kernel_rfl
theorem slot_sub : Slot "re.Pattern" "sub" "re.Pattern.sub" :=
  .of (owner := "re.Pattern") (n := "sub") (by rw [typeLookup_type, builtinLookup_eq_fast]; kernel_rfl) (by decide +kernel) (by decide +kernel) (by decide +kernel)
    (by first | exact .inl (by decide +kernel) | exact .inr (by decide +kernel)) (by rw [isSubtype_type]; kernel_rfl)
theorem type_sub : typeOf (.builtin "re.Pattern.sub") = pure (.type "method_descriptor") := by show builtinType _ = _; rw [builtinType_eq_fast]; kernel_rfl
theorem entry_sub : entryFor table "re.Pattern.sub" = some Builtin.«re.Pattern.sub» := entryFor_of_tree (by kernel_rfl)
theorem args_sub_3 (a b c : Value) : argsOk "re.Pattern.sub" ⟨[a, b, c], []⟩ := by
  unfold argsOk; rw [signature?_of (id := "re.Pattern.sub") (n := ['b', 'u', 's']) (o := ['n', 'r', 'e', 't', 't', 'a', 'P', '.', 'e', 'r']) (by kernel_rfl) owner_pat]; kernel_rfl
theorem slot_search : Slot "re.Pattern" "search" "re.Pattern.search" :=
  .of (owner := "re.Pattern") (n := "search") (by rw [typeLookup_type, builtinLookup_eq_fast]; kernel_rfl) (by decide +kernel) (by decide +kernel) (by decide +kernel)
    (by first | exact .inl (by decide +kernel) | exact .inr (by decide +kernel)) (by rw [isSubtype_type]; kernel_rfl)
theorem type_search : typeOf (.builtin "re.Pattern.search") = pure (.type "method_descriptor") := by show builtinType _ = _; rw [builtinType_eq_fast]; kernel_rfl
theorem entry_search : entryFor table "re.Pattern.search" = some Builtin.«re.Pattern.search» := entryFor_of_tree (by kernel_rfl)
theorem args_search_2 (a b : Value) : argsOk "re.Pattern.search" ⟨[a, b], []⟩ := by
  unfold argsOk; rw [signature?_of (id := "re.Pattern.search") (n := ['h', 'c', 'r', 'a', 'e', 's']) (o := ['n', 'r', 'e', 't', 't', 'a', 'P', '.', 'e', 'r']) (by kernel_rfl) owner_pat]; kernel_rfl
theorem plain_sub_loop : plainId "re.Pattern.sub.loop" = true := by decide +kernel
theorem entry_sub_loop : entryFor table "re.Pattern.sub.loop" = some Builtin.«re.Pattern.sub.loop» := entryFor_of_tree (by kernel_rfl)
end RF
open RX
theorem noCall_str : typeLookup (.type "str") "__call__" = pure none := by rw [typeLookup_type, builtinLookup_eq_fast]; kernel_rfl
theorem special_str (x : Str) (t : Tok) : specialOf (.str x t) "__call__" = pure none := noCall_str
/-- line ends made alike; a dot doubled ahead of a line -/
noncomputable def nrm (l : List Nat) : Bool → List Nat := List.rec (motive := fun _ => Bool → List Nat) (fun _ => []) (fun c _ ih b => match b && Nat.beq c 10 with
  | true => ih false
  | false => match isEnd c with
    | true => 13 :: 10 :: ih (Nat.beq c 13)
    | false => c :: ih false) l
noncomputable def dot1 (l : List Nat) : Bool → List Nat := List.rec (motive := fun _ => Bool → List Nat) (fun _ => []) (fun c _ ih b => match b && Nat.beq c 46 with
  | true => 46 :: 46 :: ih false
  | false => c :: ih (Nat.beq c 10)) l
noncomputable def NextN (code text : Array Nat) (i : Nat) : Prop := ∃ n, n ≤ 2 ^ 20 ∧ Lost (Sre.forSearch code text 0 i text.size false) n
noncomputable def NextS (code text : Array Nat) (i p q : Nat) : Prop := ∃ n, n ≤ 2 ^ 20 ∧ Found (Sre.forSearch code text 0 i text.size false) p q n
/-- what is left to be turned at place i -/
noncomputable def Subs (code : Array Nat) (rp : List Nat) (text : Array Nat) (out : Nat → List Nat) : Prop := ∀ i, i ≤ text.size → (NextN code text i ∧ out i = (text.toList.drop i).take (text.size - i)) ∨
  ∃ p q, NextS code text i p q ∧ i ≤ p ∧ p < q ∧ q ≤ text.size ∧ out i = (text.toList.drop i).take (p - i) ++ (rp ++ out q)
section
variable {text code : Array Nat} {rp : List Nat} {out : Nat → List Nat} {P : Nat → Bool}
theorem drop_at {i : Nat} (h : i < text.size) : text.toList.drop i = text.getD i 0 :: text.toList.drop (i + 1) := by
  rw [List.drop_eq_getElem_cons (by simpa using h), Array.getElem_toList, Array.getD_eq_getD_getElem?, Array.getElem?_eq_getElem h]; rfl
theorem first_of (n : Nat) : ∀ k i, i + k = n → (∀ j, i ≤ j → j < n → P j = false) ∨ ∃ p, i ≤ p ∧ p < n ∧ P p = true ∧ ∀ j, i ≤ j → j < p → P j = false
  | 0, i, h => .inl fun j h1 h2 => by omega
  | k + 1, i, h => by
    cases q : P i with
    | true => exact .inr ⟨i, Nat.le_refl _, by omega, q, fun j h1 h2 => by omega⟩
    | false =>
      have w : ∀ {j m}, (∀ j, i + 1 ≤ j → j < m → P j = false) → i ≤ j → j < m → P j = false := fun {j m} r h1 h2 => by
        rcases Nat.eq_or_lt_of_le h1 with e | e
        · exact e ▸ q
        · exact r j e h2
      rcases first_of n k (i + 1) (by omega) with r | ⟨p, r1, r2, r3, r4⟩
      · exact .inl fun j h1 h2 => w r h1 h2
      · exact .inr ⟨p, by omega, r2, r3, fun j h1 h2 => w r4 h1 h2⟩
theorem skip_of (hstep : ∀ i, i < text.size → P i = false → out i = text.getD i 0 :: out (i + 1)) : ∀ k i, i + k ≤ text.size → (∀ j, i ≤ j → j < i + k → P j = false) → out i = (text.toList.drop i).take k ++ out (i + k)
  | 0, i, h, _ => by rw [List.take_zero]; rfl
  | k + 1, i, h, hp => by
    rw [hstep i (by omega) (hp i (Nat.le_refl _) (by omega)), drop_at (by omega), List.take_succ_cons, skip_of hstep k (i + 1) (by omega) fun j h1 h2 => hp j (by omega) (by omega), Nat.add_right_comm]
    rfl
theorem subs_of (h0 : out text.size = []) (hstep : ∀ i, i < text.size → P i = false → out i = text.getD i 0 :: out (i + 1)) (hmiss : ∀ s, (∀ j, s ≤ j → j < text.size → P j = false) → NextN code text s)
    (hhit : ∀ p, p < text.size → P p = true → ∃ q, p < q ∧ q ≤ text.size ∧ out p = rp ++ out q ∧ ∀ s, s ≤ p → (∀ j, s ≤ j → j < p → P j = false) → NextS code text s p q) : Subs code rp text out := fun i hi => by
  have sk : ∀ p, i ≤ p → p ≤ text.size → (∀ j, i ≤ j → j < p → P j = false) → out i = (text.toList.drop i).take (p - i) ++ out p := fun p h1 h2 h3 => by
    have := skip_of hstep (p - i) i (by omega) fun j h4 h5 => h3 j h4 (by omega)
    rwa [Nat.add_sub_cancel' h1] at this
  rcases first_of (P := P) text.size (text.size - i) i (Nat.add_sub_cancel' hi) with r | ⟨p, r1, r2, r3, r4⟩
  · exact .inl ⟨hmiss i r, by have := sk _ hi (Nat.le_refl _) r; rwa [h0, List.append_nil] at this⟩
  · obtain ⟨q, q1, q2, q3, q4⟩ := hhit p r2 r3
    exact .inr ⟨p, q, q4 i r1 r4, r1, q1, q2, q3 ▸ sk p r1 (Nat.le_of_lt r2) r4⟩
theorem drop_end : text.toList.drop text.size = [] := List.drop_of_length_le (Nat.le_of_eq Array.length_toList)
theorem subs1 (hs : text.size ≤ 60000) : Subs R1 [46, 46] text fun i => dot1 (text.toList.drop i) (bol text i) :=
  subs_of (P := hit text) (by rw [drop_end]; rfl)
    (fun i hi h => by
      unfold hit at h
      rw [drop_at hi]
      show (match bol text i && Nat.beq (text.getD i 0) 46 with | true => _ | false => text.getD i 0 :: dot1 (text.toList.drop (i + 1)) (Nat.beq (text.getD i 0) 10)) = _
      rw [h]
      rfl)
    (fun s h => let ⟨n, g1, g2⟩ := search1_none (text := text) h; ⟨n, by omega, g2⟩)
    fun p hp h => ⟨p + 1, Nat.lt_succ_self _, hp, by
      have h' := h
      unfold hit at h'
      have hc := Nat.eq_of_beq_eq_true (Bool.and_eq_true_iff.mp h').2
      rw [drop_at hp]
      show (match bol text p && Nat.beq (text.getD p 0) 46 with | true => 46 :: 46 :: dot1 (text.toList.drop (p + 1)) false | false => _) = 46 :: 46 :: dot1 (text.toList.drop (p + 1)) (Nat.beq (text.getD p 0) 10)
      rw [h', hc]
      rfl, fun s h1 h2 => let ⟨n, g1, g2⟩ := search1_some (text := text) h1 hp h h2; ⟨n, by omega, g2⟩⟩
theorem nrm_true {l : List Nat} (h : l.head? ≠ some 10) : nrm l true = nrm l false := by
  cases l with
  | nil => rfl
  | cons c t =>
    show (match true && Nat.beq c 10 with | true => _ | false => _) = _
    cases q : Nat.beq c 10 with
    | true => exact absurd (congrArg some (Nat.eq_of_beq_eq_true q)) h
    | false => rfl
theorem subs2 (hs : text.size ≤ 60000) : Subs R2 [13, 10] text fun i => nrm (text.toList.drop i) false :=
  subs_of (P := fun i => isEnd (text.getD i 0)) (by rw [drop_end]; rfl)
    (fun i hi h => by
      rw [drop_at hi]
      show (match isEnd (text.getD i 0) with | true => _ | false => text.getD i 0 :: nrm (text.toList.drop (i + 1)) false) = _
      rw [show isEnd (text.getD i 0) = false from h])
    (fun s h => ⟨1, by decide, search_none first2 fun j h1 h2 => h j h1 h2 ▸ inSet2 _⟩)
    fun p hp h => by
      have at_ : ∀ {q n}, n ≤ 2 ^ 20 → (∀ {sn}, Found (S2 text text.size p 10 p p true [] 1 none sn) p q n) → ∀ s, s ≤ p → (∀ j, s ≤ j → j < p → isEnd (text.getD j 0) = false) → NextS R2 text s p q := fun {q n} hn f s h1 h2 => by
        obtain ⟨sn', e⟩ := search2_some h1 hp h h2
        refine ⟨n, hn, ?_⟩
        rw [e]
        exact f
      have e0 : nrm (text.toList.drop p) false = 13 :: 10 :: nrm (text.toList.drop (p + 1)) (Nat.beq (text.getD p 0) 13) := by
        rw [drop_at hp]
        show (match isEnd (text.getD p 0) with | true => _ | false => _) = _
        rw [show isEnd (text.getD p 0) = true from h]
        rfl
      rcases Bool.or_eq_true_iff.mp h with hc | hc <;> have hc := Nat.eq_of_beq_eq_true hc <;> rw [hc] at e0
      · exact ⟨p + 1, Nat.lt_succ_self _, hp, e0, at_ (n := 9) (by decide) (found2_lf hp hc)⟩
      · by_cases q : p + 1 < text.size ∧ text.getD (p + 1) 0 = 10
        · refine ⟨p + 2, by omega, q.1, ?_, at_ (n := 8) (by decide) (found2_crlf hp hc q.1 q.2)⟩
          rw [e0, drop_at q.1, q.2]
          rfl
        · refine ⟨p + 1, Nat.lt_succ_self _, hp, ?_, at_ (n := 15) (by decide) (found2_cr hp hc fun h1 h2 => q ⟨h1, h2⟩)⟩
          show nrm (text.toList.drop p) false = 13 :: 10 :: nrm (text.toList.drop (p + 1)) false
          rw [e0, ← nrm_true (l := text.toList.drop (p + 1))]
          · rfl
          · rcases Nat.lt_or_ge (p + 1) text.size with h1 | h1
            · rw [drop_at h1]
              exact fun e => q ⟨h1, Option.some.inj e⟩
            · rw [List.drop_of_length_le (by rwa [Array.length_toList])]
              exact fun e => nomatch e
end
/-- a compiled pattern of no groups, over str -/
noncomputable def PatAt (h : Heap) (a : Addr) (code : Array Nat) : Prop := ∃ o p fl g c k oc items n, h.get? a = some o ∧ o.cls = .type "re.Pattern" ∧ o.dict = none ∧ o.data = .fields #[p, fl, .int 0 g, .none, .none, .ref c, .int 0 k] ∧
  h.get? c = some oc ∧ oc.data = .seq items n ∧ (items.map reRawOf).map (·.toNat) = code
theorem PatAt.keeps {h h' : Heap} {a code} (p : PatAt h a code) (hk : Keeps h h') : PatAt h' a code :=
  let ⟨o, p, fl, g, c, k, oc, items, n, h1, h2, h3, h4, h5, r⟩ := p; ⟨o, p, fl, g, c, k, oc, items, n, hk _ _ h1, h2, h3, h4, hk _ _ h5, r⟩
noncomputable def flat (l : List (Str × Tok)) : List Nat := l.flatMap fun p => p.1.cps.toList
theorem foldl_app : ∀ (l : List Str) (acc : Array Nat), (l.foldl (fun acc p => acc ++ (#[] : Array Nat) ++ p.cps) acc).toList = acc.toList ++ l.flatMap (·.cps.toList)
  | [], acc => (List.append_nil _).symm
  | p :: r, acc => by
    rw [List.foldl_cons, foldl_app r, List.flatMap_cons, Array.toList_append, Array.toList_append, List.append_nil, List.append_assoc]
theorem join_flat (l : List (Str × Tok)) : (Txt.join Str.empty (l.map (·.1))).cps.toList = flat l := by
  show (((l.map (·.1)).drop 1).foldl (fun acc p => acc ++ (#[] : Array Nat) ++ p.cps) ((l.map (·.1)).headD Str.empty).cps).toList = _
  rw [foldl_app]
  cases l with
  | nil => rfl
  | cons y r => exact congrArg (y.1.cps.toList ++ ·) (List.flatMap_map _ _ r)
section
variable {prog : Program} {w : World} {A : Around} {E : Value → Shared → Prop} {a D : Addr} {code : Array Nat} {x rp : Str} {t u : Tok} {hb : Heap} {s : Shared} {l : List (Str × Tok)} {out : Nat → List Nat}
noncomputable def whole (a : Addr) (code : Array Nat) (x : Str) (t : Tok) : ReTarget := { pattern := .ref a, string := .str x t, code, text := x.cps, kind := 0, groups := 0, pos := 0, lim := x.cps.size }
theorem wp_whole {Q : ReTarget → Shared → Prop} (p : PatAt s.heap a code) (hq : Q (whole a code x t) s) : wpAny (model prog w) A (reWholeTarget (.ref a) (.str x t)) Q E s := by
  obtain ⟨o, p, fl, g, c, k, oc, items, n, h1, h2, h3, h4, h5, h6, rfl⟩ := p
  unfold reWholeTarget
  refine wpAny_bind (wpAny_fieldsOf h1 h4 (wpAny_bind (wpAny_of_eq (show reTextOf (.str x t) = pure (x.cps, 0) from rfl) ?_)))
  show wpAny _ A (reRawItems (.ref c) >>= fun r => pure { pattern := .ref a, string := .str x t, code := r.map (·.toNat), text := x.cps, kind := 0, groups := 0, pos := 0, lim := x.cps.size }) Q E s
  unfold reRawItems
  exact wpAny_bind (wpAny_bind (wpAny_seqItems h5 h6 (wpAny_pure (wpAny_pure hq))))
theorem push_str {y : Str} {v : Tok} {Q : Unit → Shared → Prop} (hD0 : hb.get? D = none) (hk : Keeps hb s.heap) (L : LsAt s.heap D (strValues l).toArray) (hl : l.length ≤ 60000)
    (h : ∀ h', LsAt h' D (strValues (l ++ [(y, v)])).toArray → Keeps hb h' → Q () { s with heap := h' }) : wpAny (model prog w) A (updateSeq D (·.push (.str y v))) Q E s := by
  obtain ⟨k, hD⟩ := L
  have hsz : (strValues l).toArray.size = l.length := by simp [strValues]
  refine wpAny_updateSeq hD rfl (h _ ⟨if (((strValues l).toArray.push (.str y v)).size == (strValues l).toArray.size) then k else k + 1, ?_⟩ fun b o e => ((Heap.SameBut.update ..).2 b fun q => by rw [q, hD0] at e; cases e).trans (hk b o e)) (by rw [sizeLine_eq, hsz]; omega) (by rw [Array.size_push, sizeLine_eq, hsz]; omega)
  rw [Heap.get?_update_self _ hD rfl, show (strValues (l ++ [(y, v)])).toArray = (strValues l).toArray.push (.str y v) by simp [strValues]]
  rfl
/-- the text between two matches -/
theorem wp_piece {α : Type} {K : PUnit → Sem α} {Q : α → Shared → Prop} {i p : Nat} (hx : x.length ≤ 20000) (hD0 : hb.get? D = none) (hk : Keeps hb s.heap) (L : LsAt s.heap D (strValues l).toArray) (hl : l.length ≤ 50000)
    (k : ∀ l' h' tk', l'.length ≤ l.length + 1 → flat l' = flat l ++ (x.cps.toList.drop i).take (p - i) → LsAt h' D (strValues l').toArray → Keeps hb h' → wpAny (model prog w) A (K ⟨⟩) Q E (on s h' tk')) :
    wpAny (model prog w) A (if i < p then (mkStr (strSub x i p) >>= fun v => updateSeq D (·.push v) >>= K) else K ⟨⟩) Q E s := by
  by_cases h : i < p
  · rw [if_pos h]
    refine wpAny_bind (wpAny_mkStr (wpAny_bind (push_str (s := on s s.heap _) hD0 hk L (by omega) fun h' L' hk' => k _ h' _ (by simp) ?_ L' hk')) (by have := len_strSub x i p; rw [sizeLine_eq]; omega))
    unfold flat
    rw [List.flatMap_append, List.flatMap_cons, List.flatMap_nil, List.append_nil]
    exact congrArg _ Array.toList_extract
  · rw [if_neg h]
    exact k l s.heap s.toks (Nat.le_succ _) (by rw [show p - i = 0 by omega, List.take_zero, List.append_nil]) L hk
theorem sub_loop {R : Result → Shared → Prop} (hx : x.length ≤ 20000) (S : Subs code rp.cps.toList x.cps out) (ho : (out 0).length ≤ 60000) (hp : PatAt hb a code) (hD0 : hb.get? D = none) : ∀ (fuel i nn : Nat) (l : List (Str × Tok)) (s : Shared),
    x.cps.size - i < fuel → i ≤ x.cps.size → flat l ++ out i = out 0 → l.length + 2 * (x.cps.size - i) ≤ 45000 → Keeps hb s.heap → LsAt s.heap D (strValues l).toArray →
    (∀ h' tk y v, y.cps.toList = out 0 → Keeps hb h' → R (.ok (.ret (.str y v))) (on s h' tk)) →
    codeAny (model prog w) A (.builtin "re.Pattern.sub.loop" ⟨[.ref a, .str x t, .str rp u, rawInt 0, rawInt 0, rawInt nn, rawInt i, rawInt i, .bool false, .ref D, .bool false], []⟩) R s
  | 0, i, nn, l, s, hf, _, _, _, _, _, _ => absurd hf (Nat.not_lt_zero _)
  | fuel + 1, i, nn, l, s, hf, hi, hfl, hz, hk, L, hR => by
    refine codeAny_builtin RF.entry_sub_loop ?_
    rw [Around.under_plainId RF.plain_sub_loop _]
    show wpAny _ A.in1 (reWholeTarget (.ref a) (.str x t) >>= _) _ _ s
    refine wpAny_bind (wp_whole (hp.keeps hk) ?_)
    show wpAny _ A.in1 (reLiteralCannotBeTurned (.str rp u) >>= _) _ _ s
    refine wpAny_bind (wpAny_of_eq (show reLiteralCannotBeTurned (.str rp u) = pure () from rfl) ?_)
    show wpAny _ A.in1 (reRunToEnd (Sre.forSearch code x.cps 0 i x.cps.size false) >>= _) _ _ s
    rcases S i hi with ⟨⟨n, hn, hl⟩, h4⟩ | ⟨p, q, ⟨n, hn, f1, f2, f3⟩, h1, h2, h3, h4⟩
    · refine wpAny_bind (wp_end hn (.inr ⟨hl, wp_piece (p := x.cps.size) hx hD0 hk L (by omega) fun l' h' tk' z1 z2 L' hk' => ?_⟩))
      have hfl' : flat l' = out 0 := (show flat l' = flat l ++ _ from z2).trans (h4 ▸ hfl)
      show wpAny (model prog w) A.in1 (mkStr ⟨x.cps.extract 0 0⟩ >>= fun joiner => seqItems? (.ref D) >>= fun its => if (its.getD #[]).isEmpty = true then (pure joiner >>= fun text => (ret text : Sem Fin)) else (call (.builtin "str.join") [joiner, .ref D] >>= fun text => (ret text : Sem Fin))) _ _ _
      rw [show (⟨x.cps.extract 0 0⟩ : Str) = Str.empty from congrArg Str.mk (Array.extract_empty_of_stop_le_start (Nat.le_refl _))]
      obtain ⟨k', hD'⟩ := L'
      refine wpAny_bind (wpAny_mkStr (wpAny_bind (wpAny_seqItems hD' rfl ?_)) (by decide))
      show wpAny _ A.in1 (if (strValues l').toArray.isEmpty = true then _ else _) _ _ _
      cases l' with
      | nil =>
        rw [if_pos (by rfl)]
        exact wpAny_bind (wpAny_pure (wpAny_pure (hR h' (tk' + 1) _ tk' hfl' hk')))
      | cons y r =>
        rw [if_neg (by simp [strValues])]
        refine wpAny_bind (SC.join (x := Str.empty) ⟨_, hD', rfl, k', rfl⟩ rfl ?_ fun t' k => wpAny_pure (hR h' k _ t' ((join_flat _).trans hfl') hk'))
        unfold JoinOk
        rw [Bool.not_eq_true', StrLaws.joinTotal]
        have : (((y :: r).map (·.1)).map (·.length)).sum = (flat (y :: r)).length := by unfold flat; rw [List.length_flatMap, List.map_map]; rfl
        unfold tooLong
        rw [this, show Str.empty.length = 0 from rfl, sizeLine_eq, hfl']
        exact decide_eq_false (by omega)
    · refine wpAny_bind (wp_end hn (.inl ⟨f1, ?_⟩))
      generalize Sre.M.runFor n _ = m' at f2 f3 ⊢
      subst f2 f3
      refine wp_piece (p := m'.start) hx hD0 hk L (by omega) fun l' h' tk' z1 z2 L' hk' => ?_
      show wpAny (model prog w) A.in1 (updateSeq D (·.push (.str rp u)) >>= fun _ => (again (.builtin "re.Pattern.sub.loop" ⟨[.ref a, .str x t, .str rp u, rawInt 0, rawInt 0, rawInt (nn + 1), rawInt m'.handed, rawInt m'.handed, .bool (m'.handed == m'.start), .ref D, .bool false], []⟩) : Sem Fin)) _ _ _
      rw [beq_eq_false_iff_ne.mpr (Nat.ne_of_gt h2)]
      refine wpAny_bind (push_str (s := on s h' tk') hD0 hk' L' (by omega) fun h'' L'' hk'' => wpAny_pure ⟨plainId_quiet RF.plain_sub_loop _, ?_⟩)
      refine sub_loop hx S ho hp hD0 fuel m'.handed (nn + 1) _ (on s h'' tk') (by omega) h3 ?_ (by rw [List.length_append, List.length_singleton]; omega) hk'' L'' hR
      have z2 : flat l' = flat l ++ (x.cps.toList.drop i).take (m'.start - i) := z2
      rw [← hfl, h4]
      unfold flat at z2 ⊢
      rw [List.flatMap_append, z2, List.flatMap_cons, List.flatMap_nil, List.append_nil]
      simp only [List.append_assoc]
theorem wp_sub {Q : Value → Shared → Prop} (hx : x.length ≤ 20000) (hlit : rp.cps.contains 92 = false) (S : Subs code rp.cps.toList x.cps out) (ho : (out 0).length ≤ 60000) (hp : PatAt s.heap a code)
    (hQ : ∀ h' tk y v, y.cps.toList = out 0 → Keeps s.heap h' → Q (.str y v) (on s h' tk)) : wpAny (model prog w) A (call (.builtin "re.Pattern.sub") [.ref a, .str rp u, .str x t]) Q E s := by
  have hT : s.TypeIs (.ref a) "re.Pattern" := let ⟨o, p, fl, g, c, k, oc, items, n, h1, h2, _⟩ := hp; ⟨o, h1, h2⟩
  refine wpAny_call (codeAny_call_builtin RF.slot_sub.plain RF.entry_sub (RF.slot_sub.check _ _ _ _ _ _ _ _ hT (RF.args_sub_3 _ _ _) ?_))
  show wpAny _ A.in1 ((pure [some (.str rp u), some (.str x t), none] : Sem (List (Option Value))) >>= _) _ _ s
  refine wpAny_bind (wpAny_pure ?_)
  show wpAny _ A.in1 ((pure 0 : Sem Int) >>= _) _ _ s
  refine wpAny_bind (wpAny_pure ?_)
  show wpAny _ A.in1 (specialOf (.str rp u) "__call__" >>= _) _ _ s
  rw [special_str]
  refine wpAny_bind (wpAny_pure ?_)
  show wpAny _ A.in1 ((pure (some rp) : Sem (Option Str)) >>= _) _ _ s
  refine wpAny_bind (wpAny_pure ?_)
  show wpAny _ A.in1 ((pure (!rp.cps.contains 92) : Sem Bool) >>= _) _ _ s
  rw [hlit]
  refine wpAny_bind (wpAny_pure ?_)
  show wpAny _ A.in1 ((pure (Value.str rp u, (0 : Int)) : Sem (Value × Int)) >>= _) _ _ s
  refine wpAny_bind (wpAny_pure ?_)
  show wpAny _ A.in1 (holding [.str rp u] (reWholeTarget (.ref a) (.str x t)) >>= _) _ _ s
  refine wpAny_bind (wpAny_holding (wp_whole hp ?_))
  show wpAny _ A.in1 (newList [] >>= _) _ _ s
  refine wpAny_bind (wpAny_newList (wpAny_pure ⟨plainId_quiet RF.plain_sub_loop _, ?_⟩) (by decide))
  exact sub_loop (hb := s.heap) hx S ho hp (get?_size_none _) (x.cps.size + 1) 0 0 [] _ (Nat.lt_succ_self _) (Nat.zero_le _) rfl (by have : x.cps.size ≤ 20000 := hx; show 0 + _ ≤ _; omega) (keeps_push _) ⟨0, Heap.get?_push_size _ rfl⟩ hQ
/-- a search that finds nothing -/
theorem wp_search {Q : Value → Shared → Prop} (hx : x.length ≤ 20000) (hN : NextN code x.cps 0) (hp : PatAt s.heap a code) (hQ : Q .none s) : wpAny (model prog w) A (call (.builtin "re.Pattern.search") [.ref a, .str x t]) Q E s := by
  obtain ⟨o, p, fl, g, c, k, oc, items, n, h1, h2, h3, h4, h5, h6, rfl⟩ := hp
  refine wpAny_call (codeAny_call_builtin RF.slot_search.plain RF.entry_search (RF.slot_search.check _ _ _ _ _ _ _ _ ⟨o, h1, h2⟩ (RF.args_search_2 _ _) ?_))
  show wpAny _ A.in1 (reTarget "re.Pattern.search" "search" ⟨[.ref a, .str x t], []⟩ >>= _) _ _ s
  unfold reTarget
  refine wpAny_bind ?_
  show wpAny _ A.in1 ((pure [some (.str x t), none, none] : Sem (List (Option Value))) >>= _) _ _ s
  refine wpAny_bind (wpAny_pure ?_)
  show wpAny _ A.in1 ((pure 0 : Sem Int) >>= _) _ _ s
  refine wpAny_bind (wpAny_pure ?_)
  obtain ⟨L, hL⟩ : ∃ L : Int, L = 2 ^ 63 - 1 := ⟨_, rfl⟩
  rw [← hL]
  show wpAny _ A.in1 ((pure L : Sem Int) >>= _) _ _ s
  refine wpAny_bind (wpAny_pure (wpAny_bind (wpAny_fieldsOf h1 h4 (wpAny_bind (wpAny_of_eq (show reTextOf (.str x t) = pure (x.cps, 0) from rfl) ?_)))))
  show wpAny _ A.in1 (reRawItems (.ref c) >>= fun r => (pure { pattern := .ref a, string := .str x t, code := r.map (·.toNat), text := x.cps, kind := 0, groups := 0, pos := min 0 x.cps.size, lim := min L.toNat x.cps.size } : Sem ReTarget)) _ _ s
  unfold reRawItems
  refine wpAny_bind (wpAny_bind (wpAny_seqItems h5 h6 (wpAny_pure (wpAny_pure ?_))))
  rw [Nat.zero_min, Nat.min_eq_right (show x.cps.size ≤ L.toNat from Nat.le_trans hx (by rw [hL]; decide))]
  obtain ⟨m, hn1, hn2⟩ := hN
  show wpAny _ A.in1 (reAnswer _ _) _ _ _
  unfold reAnswer
  exact wpAny_bind (wp_end hn1 (.inr ⟨hn2, wpAny_pure hQ⟩))
end
-- the functions
noncomputable def allC (l : List Nat) : Bool := List.rec (motive := fun _ => Bool) true (fun c _ ih => match plainC c with
  | true => ih
  | false => false) l
theorem allC_get : ∀ {l : List Nat} {i c : Nat}, allC l = true → l[i]? = some c → plainC c = true
  | a :: r, i, c, h, e => by
    change (match plainC a with | true => allC r | false => false) = true at h
    cases q : plainC a with
    | false => rw [q] at h; cases h
    | true =>
      rw [q] at h
      cases i with
      | zero => cases e; exact q
      | succ i => exact allC_get h (by rwa [List.getElem?_cons_succ] at e)
noncomputable def forceC (l : List Nat) (V : VH) : Option (AV × VH) := grd (smallL l) (forceL l fun l => some (.str ⟨⟨l⟩⟩, V))
noncomputable def subF (a1 a2 : Nat) : FF := fun args V => args3 args fun a b c => onFix a fun i => onStr b fun rp => onStr c fun x => grd (Nat.ble (lenR x.cps.toList) 20000) (match Nat.beq i a2 && eqS rp ⟨#[13, 10]⟩ with
  | true => forceC (nrm x.cps.toList false) V
  | false => grd (Nat.beq i a1 && eqS rp ⟨#[46, 46]⟩) (forceC (dot1 x.cps.toList true) V))
noncomputable def searchF (aN aV : Nat) : FF := fun args V => args2 args fun a b => onFix a fun i => onStr b fun x => grd (Nat.ble (lenR x.cps.toList) 20000 && allC x.cps.toList) (grd (Nat.beq i aN || Nat.beq i aV) (some (.none, V)))
/-- a method of a thing of the heap before -/
noncomputable def fixMethE (ok : Nat → Bool) (F : FF) (φ : φE) (ψ : φEs) : φE := fun ev V => bndO (φ ev V) fun a V => onFix a fun i => grd (ok i) (bndO (ψ ev V) fun l V => F (.fix i :: l) V)
section
variable {X : Wd} {d : Nat} {sc : Scope} {sl : List Str}
theorem soundF_sub {a1 a2 : Nat} (p1 : PatAt X.h0 a1 R1) (p2 : PatAt X.h0 a2 R2) : SoundF X d (.builtin "re.Pattern.sub") (subF a1 a2) := fun {A s W V args vals Q} z rs P =>
  args3_ok (G := fun vs => wpAny X.M A (call (.builtin "re.Pattern.sub") vs) Q NoE s) rs P fun a b c v u y ra rb rc P0 => onFix_ok P0 fun i q P1 =>
    rb.onStr (G := fun u => wpAny X.M A (call (.builtin "re.Pattern.sub") [v, u, y]) Q NoE s) P1 fun rp t P => rc.onStr (G := fun y => wpAny X.M A (call (.builtin "re.Pattern.sub") [v, .str rp t, y]) Q NoE s) P fun x t' P => P.grd fun hx P => by
      subst q
      have hx := Nat.le_of_ble_eq_true hx
      rw [lenR_eq] at hx
      refine ra.fixs (G := fun v => wpAny X.M A (call (.builtin "re.Pattern.sub") [v, .str rp t, .str x t']) Q NoE s) ?_
      have fin : ∀ {code a out}, PatAt X.h0 a code → Subs code rp.cps.toList x.cps out → rp.cps.contains 92 = false → Su (forceC (out 0) V) (PostE X s W Q) → wpAny X.M A (call (.builtin "re.Pattern.sub") [.ref a, .str rp t, .str x t']) Q NoE s := fun {code a out} p S hl P => P.grd fun hs P => by
        rw [forceL_eq] at P
        refine wpT z.tk (wp_sub hx hl S (smallL_le hs) (p.keeps z.H.base) fun h' tk y v e hk hp => ?_)
        have P : PostE X s W Q (.str ⟨⟨out 0⟩⟩, V) := P
        rw [← e] at P
        exact P h' tk W _ ⟨.of_keeps hk, z.H.keeps hk, hp⟩ (.imm (.str _ _))
      have hz : x.cps.size ≤ 60000 := Nat.le_trans hx (by decide)
      cases hc : Nat.beq i a2 && eqS rp ⟨#[13, 10]⟩ with
      | true =>
        rw [hc] at P
        rw [Bool.and_eq_true, eqS_eq, beq_iff_eq] at hc
        cases Nat.eq_of_beq_eq_true hc.1
        cases hc.2
        exact fin p2 (subs2 hz) (by simp) P
      | false =>
        rw [hc] at P
        refine Su.grd P fun hc P9 => ?_
        rw [Bool.and_eq_true, eqS_eq, beq_iff_eq] at hc
        cases Nat.eq_of_beq_eq_true hc.1
        cases hc.2
        exact fin p1 (subs1 hz) (by simp) P9
theorem soundF_search {aN aV : Nat} (p1 : PatAt X.h0 aN RN) (p2 : PatAt X.h0 aV RV) : SoundF X d (.builtin "re.Pattern.search") (searchF aN aV) := fun {A s W V args vals Q} z rs P =>
  args2_ok (G := fun vs => wpAny X.M A (call (.builtin "re.Pattern.search") vs) Q NoE s) rs P fun a b v u ra rb P0 => onFix_ok P0 fun i q P1 =>
    rb.onStr (G := fun u => wpAny X.M A (call (.builtin "re.Pattern.search") [v, u]) Q NoE s) P1 fun x t P => P.grd fun hx P => P.grd fun hi P => by
      subst q
      rw [Bool.and_eq_true, lenR_eq] at hx
      have hp : ∀ j, 0 ≤ j → j < x.cps.size → plainC (x.cps.getD j 0) = true := fun j _ hj => allC_get hx.2 (by rw [Array.getElem?_toList, Array.getD_eq_getD_getElem?, Array.getElem?_eq_getElem hj]; rfl)
      refine ra.fixs (G := fun v => wpAny X.M A (call (.builtin "re.Pattern.search") [v, .str x t]) Q NoE s) ?_
      have fin : ∀ {code a}, PatAt X.h0 a code → NextN code x.cps 0 → wpAny X.M A (call (.builtin "re.Pattern.search") [.ref a, .str x t]) Q NoE s := fun p N => wp_search (Nat.le_of_ble_eq_true hx.1) N (p.keeps z.H.base) (PostE.here P z.H (.imm .none) z.tk)
      rcases Bool.or_eq_true_iff.mp hi with h | h <;> cases Nat.eq_of_beq_eq_true h
      · exact fin p1 ⟨1, by decide, search_none firstN fun j h1 h2 => inSetN (hp j h1 h2)⟩
      · exact fin p2 ⟨1, by decide, search_none firstV fun j h1 h2 => inSetV (hp j h1 h2)⟩
theorem sound_patMeth {o : Expr} {name : Str} {apos pos : Pos} {args : List Expr} {id : String} {F φ ψ} {ok : Nat → Bool} (slot : Slot "re.Pattern" name id) (ty : typeOf (.builtin id) = pure (.type "method_descriptor")) (hf : SoundF X d (.builtin id) F)
    (hpat : ∀ a, ok a = true → ∃ code, PatAt X.h0 a code)
    (ho : SoundE X d sc sl o φ) (ha : SoundEs X d sc sl args ψ) (hbase : ∀ env, attributeBase o name env (eval o env) = eval o env) (hline : (apos.endLine == pos.line) = true) (hlen : args.length < 30) :
    SoundE X d sc sl (.Call (.Attribute o name apos) args [] pos) (fixMethE ok F φ ψ) := fun {A s env W V ev Q} z P =>
  wpAny_Call_method_lateS (hbase env) (few_of (ha.1 env) hlen) hline (ho z (P.bndO fun a V P0 h1 tk1 W1 v1 g1 r1 => onFix_ok P0 fun i q P1 => P1.grd fun hi P2 => by
    subst q
    cases r1.fixs (G := fun v => v = .ref i) rfl
    obtain ⟨code, ob, p, fl, g, c, k, oc, items, n, q1, q2, q3, _⟩ := hpat i hi
    have q1' := g1.H.base _ _ q1
    exact ⟨"re.Pattern", id, RF.plainAttrs_pat, slot, ty, ⟨ob, q1', q2⟩, (fun x e => by cases e; exact ⟨ob, q1', q3⟩), wp_callWith keep_builtin (ha.1 env) (ha.2 (z.go g1) (P2.bndO fun l V P3 h2 tk2 W2 vs g2 rs => ⟨g2.H.base,
      hf ((z.go g1).go g2).toAt0 (.cons .fix rs) (P3.mono fun r P => (PostE.after P g1).after g2)⟩))⟩))
end
end
end Mine
end

section
open PySem PySem.W PyProof.Rows
set_option maxRecDepth 100000
namespace Mine
noncomputable section
/-- type(e) is T, for a str or a list that is one -/
noncomputable def isS : VH → AV → Bool := fun _ a => match a with
  | .str _ => true
  | _ => false
noncomputable def isL : VH → AV → Bool := fun V a => match a with
  | .lst i => Nat.blt i V.n
  | _ => false
noncomputable def isTypT (p : VH → AV → Bool) (is : Bool) (φ : φE) : φT := fun ev V => bndO (φ ev V) fun a V => grd (p V a) (some (is, V))
noncomputable def TypOK (X : Wd) (p : VH → AV → Bool) (n : String) : Prop := (Value.type n == Value.type "builtin_function_or_method") = false ∧ ∀ {h W V a val}, HRel X h W V → VR X.σ h W a val → p V a = true → ∀ s : Shared, s.heap = h → s.TypeIs val n
/-- the one attribute of an instance -/
noncomputable def hdrNs (a : Addr) : Str → Option Value := fun n => if n = Str.ofString "_headers" then some (.ref a) else none
noncomputable def hdrE (φ : φE) : φE := fun ev V => bndO (φ ev V) fun a V => onHdr a fun i => bnd (getF V.os i) fun k => some (.lst k, V)
noncomputable def hdrMethE (F : FF) (φ : φE) (ψ : φEs) : φE := fun ev V => bndO (φ ev V) fun a V => onHdr a fun i => bnd (getF V.os i) fun _ => bndO (ψ ev V) fun l V => F (.hdr i :: l) V
noncomputable def hdrMethKE (F : FF) (φ : φE) (ψ : φEs) (κ : φE) : φE := fun ev V => bndO (φ ev V) fun a V => onHdr a fun i => bnd (getF V.os i) fun _ => bndO (ψ ev V) fun l V => bndO (κ ev V) fun x V => F (appR (.hdr i :: l) [x]) V
noncomputable abbrev fmtS : PySem.Str := ⟨#[37, 115, 58, 32, 37, 115]⟩
noncomputable abbrev midS : PySem.Str := ⟨#[58, 32]⟩
/-- '%s: %s' of two strs -/
noncomputable def pctE (ψ : φE) : φE := fun ev V => bndO (ψ ev V) fun v V => onTup v fun l => args2 l fun a b => onStr a fun x => onStr b fun y => grd (Nat.ble (lenR x.cps.toList) 1000 && Nat.ble (lenR y.cps.toList) 1000) (forceL (appR (appR x.cps.toList [58, 32]) y.cps.toList) fun l => some (.str ⟨⟨l⟩⟩, V))
/-- str of an instance -/
noncomputable def strOfF (G : FF) : FF := fun args V => args1 args fun a => onHdr a fun i => bnd (getF V.os i) fun _ => bndO (G [.hdr i] V) fun v V => onStr v fun t => some (.str t, V)
/-- what is known of the class -/
structure ClsOK (X : Wd) (N : Addr) (mN : Str → Option Value) : Prop where
  cls : ClsAt X.h0 X.C N mN
  hng : mN "__getattribute__" = none
  hnh : mN "__getattr__" = none
  hna : mN "_headers" = none
/-- a method that the class bears -/
noncomputable def MethAt (h0 : Heap) (mN : Str → Option Value) (name : Str) (f : Addr) : Prop := mN name = some (.ref f) ∧ ∃ of fd, h0.get? f = some of ∧ of.data = .func fd ∧ of.cls = .type "function"
theorem lk_headers : typeLookup (.type "object") "_headers" = pure none := by rw [typeLookup_type, builtinLookup_eq_fast]; kernel_rfl
theorem tl_conv : typeLookup (.type "object") "_convert_string_type" = pure none := by rw [typeLookup_type, builtinLookup_eq_fast]; kernel_rfl
theorem tl_getall : typeLookup (.type "object") "get_all" = pure none := by rw [typeLookup_type, builtinLookup_eq_fast]; kernel_rfl
theorem tl_get : typeLookup (.type "object") "get" = pure none := by rw [typeLookup_type, builtinLookup_eq_fast]; kernel_rfl
theorem tl_keys : typeLookup (.type "object") "keys" = pure none := by rw [typeLookup_type, builtinLookup_eq_fast]; kernel_rfl
theorem tl_setdefault : typeLookup (.type "object") "setdefault" = pure none := by rw [typeLookup_type, builtinLookup_eq_fast]; kernel_rfl
theorem tl_addheader : typeLookup (.type "object") "add_header" = pure none := by rw [typeLookup_type, builtinLookup_eq_fast]; kernel_rfl
theorem InstHdr.inst {C : Addr} {h : Heap} {x a : Addr} (I : InstHdr C h x a) : h.Inst x C (hdrNs a) := by
  obtain ⟨d, hx, hs, k, t, n, hd, rfl⟩ := I
  refine ⟨_, hx, rfl, (fun c e => by cases e), .inr ⟨d, rfl, fun q => ?_, _, _, _, hd, rfl, fun e he => ⟨Str.ofString "_headers", t, ?_⟩, List.pairwise_singleton _ _, fun name => ?_⟩⟩
  · rw [q, hx] at hd; cases hd
  · rw [List.mem_singleton.mp (Array.mem_def.mp he)]
  · show ((#[_] : Array DictEntry).find? fun e => e.key.isStr name).map (·.val) = hdrNs a name
    unfold hdrNs
    by_cases hq : name = Str.ofString "_headers"
    · subst hq
      rw [if_pos rfl]
      simp [Value.isStr]
    · rw [if_neg hq]
      simp [Value.isStr, Ne.symm hq]
theorem InstHdr.at {X : Wd} {h : Heap} {x a : Addr} (I : InstHdr X.C h x a) : ∃ ox od, W.InstAt h x ox X.C od :=
  let ⟨dd, h1, hs, k, t, n, h2, _⟩ := I; ⟨_, some _, ⟨h1, rfl, rfl, h2⟩⟩
open Builtin Builtin.Str in
set_option maxHeartbeats 8000000 in
theorem meets_fmt {x y : PySem.Str} {t t1 t2 : Tok} {b : Addr} (hx : x.length ≤ 1000) (hy : y.length ≤ 1000) : Meets («str.__mod__» ⟨[.str fmtS t, .ref b], []⟩) (fun _ R s => IsTup s.heap b #[.str x t1, .str y t2] ∧ ∀ t' k, R (.ok (.ret (.str (x ++ midS ++ y) t'))) { s with toks := k }) := by
  kpt_run
section
variable {X : Wd} {d : Nat} {sc : Scope} {sl : List Str} {A : Around} {s : Shared} {W W' : Wld} {V V' : VH} {env : Env} {ev ev' : EV} {h h' : Heap} {tk : Nat} {N : Addr} {mN mg mb : Str → Option Value} {K : Frag}
theorem typ_str : TypOK X isS "str" := ⟨by decide, fun {h W V a val} H r q s e => by
  cases a with
  | str x => exact r.strs (G := fun v => s.TypeIs v "str") fun t => typeIs_str _ _ _
  | _ => cases q⟩
theorem typ_list : TypOK X isL "list" := ⟨by decide, fun {h W V a val} H r q s e => by
  cases a with
  | lst i =>
    obtain ⟨xs, hx⟩ := VH.get_ex H.ok (Nat.blt_eq.mp q)
    subst e
    exact r.lsts (G := fun v => s.TypeIs v "list") fun a ha => H.at_ ha hx fun vs l _ _ => l.isList.typeIs
  | _ => cases q⟩
theorem sound_isTyp (B : Base X.h0 mg mb) {e : Expr} {n : String} {ns : Str} {op : CmpOp} {p1 p2 p3 p4 φ p} (K : TypOK X p n) (is : Bool) (hop : op = bif is then .Is else .IsNot) (ht : sc.names.lookup ("type" : Str) = some .globalImplicit) (g : GlobalIs mg mb "type" (.type "type"))
    (hn : sc.names.lookup ns = some .globalImplicit) (gn : GlobalIs mg mb ns (.type n)) (hd : (ns == ("__debug__" : Str)) = false) (hst : ∀ env, starEach [e] env = [(false, eval e env)]) (he : SoundE X d sc sl e φ) :
    SoundT X d sc sl (.Compare (.Call (.Name "type" p1) [e] [] p2) [op] [.Name ns p3] p4) (isTypT p is φ) := fun {A s env W V ev Q} z P => by
  refine wpAny_isTrue_Compare1 (wpAny_Call_NameR (wp_global B z ht g (wp_callWith keep_type (by rw [hst]; rfl) ?_) (by decide)))
  rw [hst]
  refine Calls.spliced_cons (he z (P.bndO fun a V P h1 tk1 W1 val g1 r1 => P.grd fun hp P => Calls.spliced_nil ⟨g1.H.base, call_type_of (K.2 g1.H r1 hp _ rfl) K.1 (wp_global B (z.go g1) hn gn ?_ hd)⟩))
  cases is <;> subst hop
  · exact wpAny_isNot_self rfl (wpAny_truthy_bool ((P : PostT X _ _ _ _) _ _ _ g1))
  · exact wpAny_is_self rfl (wpAny_truthy_bool ((P : PostT X _ _ _ _) _ _ _ g1))
/-- an instance of the ledger -/
theorem HRel.hdr_ {i k x} {P : Prop} (H : HRel X h W V) (q : W.η[i]? = some x) (e : getF V.os i = some k) (f : ∀ a, W.ρ[k]? = some a → InstHdr X.C h x a → P) : P := by
  rw [getF_eq] at e
  obtain ⟨y, a, g1, g2, I⟩ := H.os i k e
  rw [q] at g1
  cases g1
  exact f a g2 I
theorem sound_hdrAttr (K : ClsOK X N mN) {value : Expr} {pos : Pos} {φ} (h : SoundE X d sc sl value φ)
    (hbase : ∀ env, eval (.Attribute value "_headers" pos) env = (do
      let o ← eval value env
      standAt pos.atName
      let r ← holding [o] (getAttr o "_headers" true)
      letTemporaryGo value o r
      pure r)) : SoundE X d sc sl (.Attribute value "_headers" pos) (hdrE φ) := fun {A s env W V ev Q} z P =>
  Attribute_any_ (h z (P.bndO fun a V P0 h1 tk1 W1 val g1 r1 => onHdr_ok P0 fun i q P1 => P1.bnde fun k hk P2 => by
    subst q
    refine r1.hdrs (G := fun val => wpAny X.M A (getAttr val "_headers" true) Q NoE (on s h1 tk1)) fun x hx => g1.H.hdr_ hx hk fun a ha I => ?_
    obtain ⟨nm, q', bs, sn, sub, col, dd, k0, k1, k2, k3, k5, hC⟩ := (K.cls.keeps g1.H.base).obj
    exact wpT g1.tk (load_attr hC (K.cls.keeps g1.H.base).ns K.hng K.hna lk_headers I.inst (by unfold hdrNs; rw [if_pos rfl]) rfl fun hp => PostE.here (PostE.after P2 g1) g1.H (.lst ha) hp))) (hbase env)
/-- a method is found -/
theorem wp_hdrMeth (K : ClsOK X N mN) {o : Expr} {name : Str} {apos pos : Pos} {args : List Expr} {kws : List Keyword} {f : Addr} {y : Option Value} {φ} {F : Nat → VH → Option (AV × VH)} {Q} (hm : MethAt X.h0 mN name f) (hsh : name ≠ Str.ofString "_headers") (hB : typeLookup (.type "object") name = pure y)
    (z : At X d sc sl A s env W V ev) (ho : SoundE X d sc sl o φ) (hbase : ∀ env, attributeBase o name env (eval o env) = eval o env) (hline : (apos.endLine == pos.line) = true)
    (hform : methodCallForm (args.length + kws.length) (backTo pos (starEach args env)) (backToKw pos (keywordEach kws env)) = true) (P : Su (bndO (φ ev V) fun a V => onHdr a fun i => bnd (getF V.os i) fun _ => F i V) (PostE X s W Q))
    (k : ∀ {V1 h1 tk1 W1 i x}, Go X Nox s W h1 tk1 W1 V1 → W1.η[i]? = some x → Su (F i V1) (PostE X s W Q) → wpAny X.M A (callWith pos (.ref f) [.ref x] (backTo pos (starEach args env)) (backToKw pos (keywordEach kws env))) Q NoE (on s h1 tk1)) :
    wpAny X.M A (eval (.Call (.Attribute o name apos) args kws pos) env) Q NoE s := by
  obtain ⟨hf, of, fd, hfo, hfd, hfc⟩ := hm
  rw [arm_eval_Call, hbase env]
  refine wpAny_bind (ho z (P.bndO fun a V P0 h1 tk1 W1 v1 g1 r1 => wpAny_bind (wpAny_standAt (onHdr_ok P0 fun i q P1 => P1.bnde fun _ hk P2 => ?_))))
  subst q
  have hpos : methodCallPos true o env apos pos = pure pos := by unfold methodCallPos; simp [hline]
  unfold methodCall
  rw [hform]
  obtain ⟨x, rfl, q⟩ : ∃ x, v1 = .ref x ∧ W1.η[i]? = some x := r1.hdrs (G := fun v1 => ∃ x, v1 = .ref x ∧ W1.η[i]? = some x) fun x q => ⟨x, rfl, q⟩
  refine g1.H.hdr_ q hk fun a ha I => ?_
  obtain ⟨nm, q', bs, sn, sub, col, dd, k0, k1, k2, k3, k5, hC⟩ := (K.cls.keeps g1.H.base).obj
  exact wpAny_bind (wpAny_holding (method_of hC (K.cls.keeps g1.H.base).ns K.hng K.hnh hf (g1.H.base _ _ hfo) hfc hB I.inst (by unfold hdrNs; rw [if_neg hsh]) (wpAny_bind (wpAny_of_eq hpos (k g1 q P2)))))
theorem sound_hdrMeth (K : ClsOK X N mN) {o : Expr} {name : Str} {apos pos : Pos} {args : List Expr} {f : Addr} {y : Option Value} {F φ ψ}
    (hm : MethAt X.h0 mN name f) (hsh : name ≠ Str.ofString "_headers") (hB : typeLookup (.type "object") name = pure y) (hF : SoundF X d (.ref f) F)
    (ho : SoundE X d sc sl o φ) (ha : SoundEs X d sc sl args ψ) (hbase : ∀ env, attributeBase o name env (eval o env) = eval o env) (hline : (apos.endLine == pos.line) = true) (hlen : args.length < 30) :
    SoundE X d sc sl (.Call (.Attribute o name apos) args [] pos) (hdrMethE F φ ψ) := fun {A s env W V ev Q} z P =>
  wp_hdrMeth K hm hsh hB z ho hbase hline (few_of (ha.1 env) hlen) P fun g1 q P => wp_callWith (let ⟨_, of, fd, hfo, hfd, _⟩ := hm; keep_def hfo hfd) (ha.1 env) (ha.2 (z.go g1) (P.bndO fun l V P h2 tk2 W2 vs g2 rs => ⟨g2.H.base,
    hF ((z.go g1).go g2).toAt0 (.cons (.hdr (g2.S.grow.o q)) rs) (P.mono fun r P => (PostE.after P g1).after g2)⟩))
theorem sound_hdrMethK (K : ClsOK X N mN) {o : Expr} {name k : Str} {apos pos kpos : Pos} {e kv : Expr} {rest : List Expr} {f : Addr} {y : Option Value} {F φ ψ κ}
    (hm : MethAt X.h0 mN name f) (hsh : name ≠ Str.ofString "_headers") (hB : typeLookup (.type "object") name = pure y) (hF : SoundK X d (.ref f) [k] F)
    (ho : SoundE X d sc sl o φ) (ha : SoundEs X d sc sl (e :: rest) ψ) (hk : SoundE X d sc sl kv κ) (hbase : ∀ env, attributeBase o name env (eval o env) = eval o env) (hline : (apos.endLine == pos.line) = true)
    (hst : ∀ env, starEach (e :: rest) env = (false, eval e env) :: starEach rest env) (hlen : (e :: rest).length < 28) :
    SoundE X d sc sl (.Call (.Attribute o name apos) (e :: rest) [⟨some k, kv, kpos⟩] pos) (hdrMethKE F φ ψ κ) := fun {A s env W V ev Q} z P => by
  refine wp_hdrMeth K hm hsh hB z ho hbase hline ?_ P fun {V1 h1 tk1 W1 i x} g1 q P => ?_
  · unfold methodCallForm
    have h1 := few_of (pos := pos) (ha.1 env) (Nat.lt_trans hlen (by decide))
    rw [Bool.and_eq_true, Bool.and_eq_true] at h1
    rw [h1.1.1]
    simp [backToKw, keywordEach] at hlen ⊢
    omega
  · obtain ⟨_, of, fd, hfo, hfd, _⟩ := hm
    refine callWith_function_kw (o := of) (fd := fd) (evalArgs_kw2 (by rfl) (ha.2 (z.go g1) (P.bndO fun l V P h2 tk2 W2 vs g2 rs => ?_)) (hst env))
    refine kwAll_cons (hk ((z.go g1).go g2) (P.bndO fun u V P h3 tk3 W3 kval g3 r3 => kwAll_nil ⟨⟨g3.H.base _ _ hfo, hfd⟩, ?_⟩))
    exact hF (kvals := [kval]) (((z.go g1).go g2).go g3).toAt0 (.cons (.hdr (g3.S.grow.o (g2.S.grow.o q))) (rs.go ((z.go g1).go g2).toAt0 g3)) (.cons r3 .nil) rfl (P.mono fun r P => ((PostE.after P g1).after g2).after g3)
theorem sound_pct {fmt : PySem.Str} {k p1 r pos ψ} (hf : decide (fmt = fmtS) = true) (h : SoundE X d sc sl r ψ) : SoundE X d sc sl (.BinOp (.Constant (.str fmt) k p1) .Mod r pos) (pctE ψ) := fun {A s env W V ev Q} z P => by
  cases of_decide_eq_true hf
  refine wpAny_BinOp (wpAny_Constant_str (h (s := on s s.heap (s.toks + 1)) ⟨⟨z.rm, z.H, Nat.succ_pos _⟩, z.ok, z.co, z.R⟩ (P.bndO fun v V P0 h1 tk1 W1 val g1 r1 => onTup_ok P0 fun l q P1 => ?_)))
  subst q
  refine r1.tups (G := fun val => wpAny X.M A (binaryOp .Mod _ val) Q NoE (on s h1 tk1)) fun b vs ht rl => ?_
  obtain ⟨x, y, t1, t2, e, P2⟩ := args2_ok (G := fun us => ∃ x y t1 t2, us = [Value.str x t1, .str y t2] ∧ Su (grd (Nat.ble (lenR x.cps.toList) 1000 && Nat.ble (lenR y.cps.toList) 1000) (forceL (appR (appR x.cps.toList [58, 32]) y.cps.toList) fun l => some (AV.str ⟨⟨l⟩⟩, V))) (PostE X s W Q)) rl P1
    fun a b v u ra rb P => ra.onStr (G := fun v => ∃ x y t1 t2, [v, u] = [Value.str x t1, .str y t2] ∧ Su (grd (Nat.ble (lenR x.cps.toList) 1000 && Nat.ble (lenR y.cps.toList) 1000) (forceL (appR (appR x.cps.toList [58, 32]) y.cps.toList) fun l => some (AV.str ⟨⟨l⟩⟩, V))) (PostE X s W Q)) P
      fun x t1 P => rb.onStr (G := fun u => ∃ x y t1' t2, [.str _ t1, u] = [Value.str x t1', .str y t2] ∧ Su (grd (Nat.ble (lenR x.cps.toList) 1000 && Nat.ble (lenR y.cps.toList) 1000) (forceL (appR (appR x.cps.toList [58, 32]) y.cps.toList) fun l => some (AV.str ⟨⟨l⟩⟩, V))) (PostE X s W Q)) P fun y t2 P => ⟨x, y, t1, t2, rfl, P⟩
  obtain ⟨us⟩ := vs
  change us = _ at e
  subst e
  refine P2.grd fun hc P => ?_
  rw [Bool.and_eq_true, lenR_eq, lenR_eq] at hc
  rw [forceL_eq, appR_eq, appR_eq] at P
  have hT : (on s h1 tk1).TypeIs (.ref b) "tuple" := let ⟨o, ho, hc, _⟩ := ht; ⟨o, ho, hc⟩
  refine wpT g1.tk (KPt.bin_left (T := "str") (U := "tuple") (op := .Mod) (by decide) (typeIs_str _ fmtS _) hT F.fills_str_mod KPt.fills_tuple F.slot_str_mod
    (call_meets F.slot_str_mod (typeIs_str _ fmtS _) F.entry_str_mod (F.args_str_mod_2 _ _) (meets_fmt (Nat.le_of_ble_eq_true hc.1) (Nat.le_of_ble_eq_true hc.2)) ⟨isTup_of ht, fun t' k => ⟨(fun e => nomatch e), fun hp => ?_⟩⟩))
  rw [show x ++ midS ++ y = ⟨⟨x.cps.toList ++ [58, 32] ++ y.cps.toList⟩⟩ from (str_ext (by show _ = ((x.cps ++ midS.cps) ++ y.cps).toList; rw [Array.toList_append, Array.toList_append])).symm]
  exact (P : PostE X s W Q _) h1 k W1 _ ⟨g1.S, g1.H, hp⟩ (.imm (.str _ _))
theorem soundF_strOf {fS : Addr} (KX : K.In X.h0) (hs : findIn K (.ref X.C) "__str__" = some (some (.ref fS))) (hf : isFn K (.ref fS) = true) {G} (hG : SoundF X d (.ref fS) G) : SoundF X (d + 1) (.type "str") (strOfF G) := fun {A s W V args vals Q} z rs P =>
  args1_ok (G := fun vs => wpAny X.M A (call (.type "str") vs) Q NoE s) rs P fun a v ra P0 => onHdr_ok P0 fun i q P1 => P1.bnde fun k hk P2 => by
    subst q
    refine ra.hdrs (G := fun v => wpAny X.M A (call (.type "str") [v]) Q NoE s) fun x hx => z.H.hdr_ hx hk fun a ha I => ?_
    obtain ⟨ox, od, I'⟩ := I.at
    have hu := z.rm.units
    have hd := z.rm.depth
    exact kso_call (by show A.units + 1 + 1 < cLine; rw [show cLine = 9900 from rfl]; omega) (KX.keeps z.H.base) I' hs hf (hG (A := A.in1.in1) ⟨⟨z.rm.hh, by show A.depth + d < 600; omega, by show A.units + 1 + 1 + 10 * d < 6000; omega⟩, z.H, z.tk⟩ (.cons (.hdr hx) .nil) (P2.bndO fun v V P h' tk' W' val g r' =>
      r'.onStr (G := fun val => StrBack Q val (on s h' tk')) P fun t u P => (P : PostE X s W Q _) h' tk' W' _ g (.imm (.str _ _))))
end
end
end Mine
end

section
open PySem PySem.W PyProof.Rows
namespace Mine
noncomputable section
/-- what the heap's picture K tells of the class -/
structure HdrK (K : Frag) (C fI : Addr) : Prop where
  set : findIn K (.ref C) "__setattr__" = some (some (.builtin "object.__setattr__"))
  over : plainOver K C = true
  taker : takerIn K C "_headers" = some none
  dict : (clsIn K C).any (·.hasDict) = true
  makes : makesIn K C = true
  init : findIn K (.ref C) "__init__" = some (some (.ref fI))
  fn : typeIn K (.ref fI) = some (.type "function")
  keep : keepIn K (.ref C) = true
noncomputable abbrev Wld.inst (W : Wld) (x : Addr) : Wld := { W with η := W.η ++ [x] }
noncomputable abbrev nmH : Str := Str.ofString "_headers"
/-- the class called without arguments -/
noncomputable def newF : FF := fun args V => match args with
  | [] => some (.hdr (lenR V.os), (V.add []).inst V.n)
  | _ :: _ => none
theorem weight_tc (C : Addr) : (Code.builtin "type.__call__" ⟨[.ref C], []⟩).weight = 1 := by kernel_rfl
theorem units_tc (args : Args) : (Code.builtin "type.__call__" args).cUnits = 1 := by kernel_rfl
noncomputable abbrev pI : List Str := ["self", "headers"]
noncomputable abbrev mI : List Str := ["k", "v"]
noncomputable abbrev pA : List Str := ["self", "_name", "_value", "_params"]
noncomputable abbrev mA : List Str := ["parts", "k", "v"]
section
variable {X : Wd} {d : Nat} {sc : Scope} {sl : List Str} {A : Around} {s : Shared} {W W' : Wld} {V V' : VH} {env : Env} {ev ev' : EV} {h h' : Heap} {tk : Nat} {N : Addr} {mN mg mb : Str → Option Value} {K : Frag} {fI x dx : Addr} {Y : Addr → Prop}
theorem keep_cls (KX : K.In X.h0) (hk : keepIn K (.ref X.C) = true) : KeepOK X.M X.h0 (.ref X.C) :=
  let ⟨k, a, b⟩ := looks_keep (M := X.M) hk KX; ⟨k, a.elim .inl fun e => .inr (.inl e), b⟩
theorem wp_setHdr {v : Value} {Q : Unit → Shared → Prop} (KX : K.In s.heap) (Y : HdrK K X.C fI) (hx : s.heap.get? x = some (instObj X.C dx)) (hdx : s.heap.get? dx = some emptyDict)
    (h : ∀ h' tk hsh t n, Heap.SameBut dx s.heap h' → h'.get? dx = some (dictOf [⟨hsh, .str nmH t, v⟩] n) → Q () (on s h' tk)) : wpAny X.M A (setAttr (.ref x) "_headers" v) Q NoE s := by
  obtain ⟨hh, g, dr, t, os⟩ := s
  dsimp only at KX hx hdx h
  have I : InstAt hh x (instObj X.C dx) X.C (some emptyDict) := ⟨hx, rfl, rfl, hdx⟩
  refine set_plain (s := ⟨hh, g, dr, t, os⟩) KX I Y.set (osa_open (s := ⟨hh, g, dr, t + 1, os⟩) KX I Y.over Y.taker fun b => ?_)
  obtain ⟨cd, hc, hd'⟩ := any_some Y.dict
  have e1 : Obj.putName nmH (PyData.keyHash X.w.params nmH) (.str nmH (t + 1)) v emptyDict = dictOf [⟨PyData.keyHash X.w.params nmH, .str nmH (t + 1), v⟩] (putN nmH [] 0) := by
    rw [show emptyDict = dictOf [] 0 from rfl, putName_dict]; rfl
  have D' : (hh.update dx (Obj.putName nmH (PyData.keyHash X.w.params nmH) (.str nmH (t + 1)) v)).get? dx = some (dictOf [⟨PyData.keyHash X.w.params nmH, .str nmH (t + 1), v⟩] (putN nmH [] 0)) := by
    rw [← e1]
    exact Heap.get?_update_self _ hdx (by rw [e1]; rfl)
  refine wpAny_bind (wpAny_pure (wpAny_bind (wpAny_bind (wpAny_loadPart hx (wpAny_bind (Looks.here (s := ⟨hh, g, dr, t + 1, os⟩) (looks_clsIn KX hc) ?_))))))
  rw [hd']
  refine wpAny_pure (a := some dx) (wpAny_bind (wpAny_pure (wpAny_bind ?_)))
  unfold nsSet
  refine wpAny_bind (wpAny_bind (wpAny_askSetting (wpAny_pure (wpAny_bind (wpAny_mkText (wpAny_bind (wpAny_loadPart hdx ?_)))))))
  dsimp only
  rw [aRefKeyMayBeTheName_at, show (!(#[] : Array DictEntry).any (·.key.isStr nmH) && (#[] : Array DictEntry).any (·.refKey)) = false by simp]
  exact wpAny_updatePart hdx (wpAny_bind (wpAny_lookBehind D' (pastItsLine_dict (by simp [sizeLine_eq])) (wpAny_pure (h _ _ _ _ _ (Heap.SameBut.update _ _ _) D'))))
theorem tup_not {o : Obj} {a : Addr} (e : h.get? a = some o) (hc : o.cls ≠ .type "tuple") {vs} : ¬ h.IsTuple a vs := fun ⟨o', ho, hc', _⟩ => by rw [e] at ho; cases ho; exact hc hc'
theorem dict_out (H : HRel X h W V) (hdx : h.get? dx = some emptyDict) : dx ∉ W.ρ := H.out hdx fun us n e => nomatch congrArg Obj.data e
theorem inst_out (H : HRel X h W V) (hx : h.get? x = some (instObj X.C dx)) : x ∉ W.ρ := H.out hx fun us n e => nomatch congrArg Obj.data e
/-- an instance apart from a fresh dict -/
theorem InstHdr.turn {y b} (J : InstHdr X.C h y b) (hdx : h.get? dx = some emptyDict) (hs : Heap.SameBut dx h h') : InstHdr X.C h' y b :=
  J.keep (fun o e => (hs.2 y fun q => by obtain ⟨dd, g1, _⟩ := J; rw [q, hdx] at g1; cases g1).trans e) fun dd o e1 e2 => (hs.2 dd fun q => by
    obtain ⟨d', g1, hs', k', t', n', g2, _⟩ := J
    rw [e1] at g1
    cases g1
    rw [q, hdx] at g2
    exact absurd (congrArg (fun o : Obj => o.data) (Option.some.inj g2)) fun q => by cases q).trans e2
/-- a fresh instance joins the ledger -/
theorem HRel.addInst {k a hsh t n} (H : HRel X h W V) (hx : h.get? x = some (instObj X.C dx)) (hdx : h.get? dx = some emptyDict) (h0d : X.h0.get? dx = none)
    (hs : Heap.SameBut dx h h') (hd : h'.get? dx = some (dictOf [⟨hsh, .str nmH t, .ref a⟩] n)) (ha : W.ρ[k]? = some a) : HRel X h' (W.inst x) (V.inst k) := by
  have H' : HRel X h' W V := H.turned (L := dx) (fun b o hn e => (hs.2 b hn).trans e) (dict_out H hdx) (fun vs => tup_not hdx (by decide)) h0d fun i y b e J => J.turn hdx hs
  have g : Grow W (W.inst x) := ⟨⟨[], (List.append_nil _).symm⟩, ⟨[x], rfl⟩⟩
  refine ⟨H'.ok, H'.len, H'.nodup, fun i xs e => let ⟨b, vs, g1, g2, g3⟩ := H'.ls i xs e; ⟨b, vs, g1, g2, g3.mono (fun _ _ z => z) g⟩, H'.fresh, H'.base, fun i j e => ?_, ?_⟩
  · change (V.os ++ [k])[i]? = some j at e
    rcases Nat.lt_or_ge i V.os.length with q | q
    · rw [List.getElem?_append_left q] at e
      obtain ⟨y, b, g1, g2, g3⟩ := H'.os i j e
      exact ⟨y, b, getElem?_append_of_some g1, g2, g3⟩
    · rw [List.getElem?_append_right q] at e
      have hi := (List.getElem?_eq_some_iff.mp e).1
      rw [List.length_singleton] at hi
      have hi : i = V.os.length := by omega
      subst hi
      rw [Nat.sub_self] at e
      cases e
      refine ⟨x, a, ?_, ha, dx, (hs.2 x fun q => by rw [q, hdx] at hx; cases hx).trans hx, hsh, nmH, t, n, hd, rfl⟩
      rw [← H.leno]
      exact List.getElem?_concat_length
  · show (W.η ++ [x]).length = (V.os ++ [k]).length
    rw [List.length_append, List.length_append, H.leno]; rfl
theorem EnvRel.addInst (R : EnvRel X h env sl W ev) (hdx : h.get? dx = some emptyDict) (hl : dx ≠ env.locals) (hs : Heap.SameBut dx h h') : EnvRel X h' env sl (W.inst x) ev :=
  R.of (fun m n => ns_keep n fun o e => (hs.2 _ (Ne.symm hl)).trans e) (fun y c v _ n => cell_keep n fun o e => (hs.2 _ fun q => by
    obtain ⟨o', ho', hd'⟩ := n
    rw [q, hdx] at ho'; cases ho'; cases hd').trans e) (fun a us n => tup_keep n fun o e => (hs.2 _ fun q => tup_not hdx (by decide) (q ▸ n)).trans e) ⟨⟨[], (List.append_nil _).symm⟩, ⟨[x], rfl⟩⟩
theorem step_inst (hs : Heap.SameBut dx h h') (hY : Y dx) (hl : h'.get? dx ≠ none) : Step Y h W h' (W.inst x) :=
  let S : Step Y h W h' W := step_same hs hY hl; ⟨S.ext, S.live, ⟨[], (List.append_nil _).symm, fun _ q => nomatch q⟩, ⟨[x], rfl⟩⟩
/-- no instance more: the same instances -/
theorem Step.sameη (S : Step Y h W h' W') (H : HRel X h W V) (H' : HRel X h' W' V') (e : V'.os.length = V.os.length) : W'.η = W.η := by
  obtain ⟨r, er⟩ := S.η
  have := congrArg List.length er
  rw [List.length_append, H.leno, H'.leno, e] at this
  rw [er, List.eq_nil_of_length_eq_zero (show r.length = 0 by omega), List.append_nil]
/-- a statement that goes on -/
theorem wp_next {st : Stmt} {rest : List Stmt} {φ : φS} {ev1 V1} {Q : Flow → Shared → Prop} (h1 : SoundS X d sc sl st φ) (z : At X d sc sl A s env W V ev) (e : φ ev V = some (.next, ev1, V1))
    (k : ∀ h tk W', Go X (Own sl env) s W h tk W' V1 → EnvRel X h env sl W' ev1 → wpAny X.M A (execs rest env) Q NoE (on s h tk)) : wpAny X.M A (execs (st :: rest) env) Q NoE s :=
  wpAny_execs_cons (h1 z (Su.of e fun h tk W' fl g R fr => FR.nexts (G := fun fl => match fl with | .next => wpAny X.M A (execs rest env) Q NoE _ | f => Q f _) fr (k h tk W' g R)))
theorem soundF_new (B : Base X.h0 mg mb) (KX : K.In X.h0) (Y : HdrK K X.C fI) {fd : FuncData} {S1 S2 S4 : Stmt} {p1 p2 p3 p4 : Pos} {φ1 φ2 φ4 : φS} {Td : Addr} {od : Obj} {n : Nat} {kk : Value → Option (Array Value) → Sem (List (Str × Value))}
    (D : FnAt X.h0 fI fd sc [S1, S2, .Assign [.Attribute (.Name "self" p1) "_headers" p2] (.Name "headers" p3) p4, S4])
    (hdef : fd.defaults = .ref Td) (hod : X.h0.get? Td = some od) (hodd : od.data = .seq #[.none] n)
    (hb1 : ∀ v, bindArgs fd ⟨[v], []⟩ = seqItems? fd.defaults >>= kk v) (hb2 : ∀ v, kk v (some #[.none]) = pure (pI.zip [v, .none])) (O : ParOK sc pI mI)
    (h1 : SoundS X d sc (pI ++ mI) S1 φ1) (h2 : SoundS X d sc (pI ++ mI) S2 φ2) (h4 : SoundS X d sc (pI ++ mI) S4 φ4)
    (e1 : ∀ (x : Nat) (V : VH), φ1 [some (.fix x), some .none, none, none] V = some (.next, [some (.fix x), some (.lst V.n), none, none], V.add []))
    (e2 : ∀ (x : Nat) (V : VH), φ2 [some (.fix x), some (.lst V.n), none, none] (V.add []) = some (.next, [some (.fix x), some (.lst V.n), none, none], V.add []))
    (e4 : ∀ (x : Nat) (V : VH), φ4 [some (.fix x), some (.lst V.n), none, none] ((V.add []).inst V.n) = some (.next, [some (.fix x), some (.lst V.n), none, none], (V.add []).inst V.n)) :
    SoundF X (d + 2) (.ref X.C) newF := fun {A s W V args vals Q} z rs P => by
  cases rs with
  | cons => exact P.elim
  | nil =>
  obtain ⟨hh, g, dr, t, os⟩ := s
  have KH : K.In hh := KX.keeps z.H.base
  refine wpAny_call (make_core (makes_of KH Y.makes) (looks_findIn KH Y.init) (fun self => bind_fn KH self Y.fn) (.inl rfl) ?_)
  have hx : ((hh.push emptyDict).push (instObj X.C hh.objs.size)).get? (hh.objs.size + 1) = some (instObj X.C hh.objs.size) := by heap_get
  have hdx : ((hh.push emptyDict).push (instObj X.C hh.objs.size)).get? hh.objs.size = some emptyDict := by heap_get
  have k0 : Keeps hh ((hh.push emptyDict).push (instObj X.C hh.objs.size)) := fun b o q => keeps_push _ b o (keeps_push _ b o q)
  have z1 : At0 X (d + 1) (A.under (.builtin "type.__call__" ⟨[.ref X.C], []⟩)) ⟨(hh.push emptyDict).push (instObj X.C hh.objs.size), g, dr, t, os⟩ W V := ⟨⟨z.rm.hh, by
    show A.depth + (Code.builtin "type.__call__" ⟨[.ref X.C], []⟩).weight + (d + 1) < 600
    rw [weight_tc]
    have := z.rm.depth
    omega, by
    show A.units + (Code.builtin "type.__call__" ⟨[.ref X.C], []⟩).cUnits + 10 * (d + 1) < 6000
    rw [units_tc]
    have := z.rm.units
    omega⟩, z.H.keeps k0, z.tk⟩
  refine code_fn (params := pI) (more := mI) (avs := [.fix (hh.objs.size + 1), .none]) (vals := [.ref (hh.objs.size + 1), .none]) (o := some (.next, (V.add []).inst V.n)) (h1 := (hh.push emptyDict).push (instObj X.C hh.objs.size)) (tk1 := t)
    B (fun a => a = hh.objs.size) (fun W' => W'.η = W.η ++ [hh.objs.size + 1]) D O z1 z.tk (fun _ _ q => q) ?_ (.cons .fix (.cons (.imm .none) .nil)) rfl ?_ ?_
  · intro M A' E' Q' hq
    exact BindsTo.of_defaults (s := ⟨(hh.push emptyDict).push (instObj X.C hh.objs.size), g, dr, t, os⟩) hdef (k0 _ _ (z.H.base _ _ hod)) hodd (hb1 _) (hb2 _) M A' E' Q' hq
  · intro A' env s' Q' zz hk own k
    have no : ∀ {b o}, ((hh.push emptyDict).push (instObj X.C hh.objs.size)).get? b = some o → ¬ Own (pI ++ mI) env b := fun e q => by rw [own _ q] at e; cases e
    have keep : ∀ {Y s W V h tk W' V'}, HRel X s.heap W V → Go X Y s W h tk W' V' → (∀ b, Y b → Own (pI ++ mI) env b) → (s.heap.get? (hh.objs.size + 1) = some (instObj X.C hh.objs.size) ∧ s.heap.get? hh.objs.size = some emptyDict) →
        h.get? (hh.objs.size + 1) = some (instObj X.C hh.objs.size) ∧ h.get? hh.objs.size = some emptyDict := fun H g hY q => ⟨g.S.ext _ _ q.1 (inst_out H q.1) fun q => no hx (hY _ q), g.S.ext _ _ q.2 (dict_out H q.2) fun q => no hdx (hY _ q)⟩
    have T0 := And.intro (hk _ _ hx) (hk _ _ hdx)
    refine wp_next h1 zz (e1 _ V) fun h2' tk2 W2 g2 R2 => ?_
    have T2 := keep zz.H g2 (fun _ q => q) T0
    have z2 := zz.goS g2 R2
    refine wp_next h2 z2 (e2 _ V) fun h3 tk3 W3 g3 R3 => ?_
    have T3 := keep z2.H g3 (fun _ q => q) T2
    have z3 := z2.goS g3 R3
    refine wpAny_execs_cons (wpAny_Assign_stores (sound_name (X := X) (d := d) 1 rfl (by decide) z3 (Su.of (r := (.lst V.n, V.add [])) rfl fun h4' tk4 W4 v4 g4 r4 => ?_)) rfl rfl)
    have T4 := keep z3.H g4 (fun _ q => q.elim) T3
    have z4 := z3.go g4
    show wpAny X.M A' (assign (.Attribute (.Name "self" p1) "_headers" p2) env v4) _ NoE _
    rw [arm_assign_Attribute]
    refine wpAny_bind (wpAny_holding (sound_name (X := X) (d := d) 0 rfl (by decide) z4 (Su.of (r := (.fix (hh.objs.size + 1), V.add [])) rfl fun h5 tk5 W5 v5 g5 r5 => ?_)))
    have T5 := keep z4.H g5 (fun _ q => q.elim) T4
    have z5 := z4.go g5
    cases r5.fixs (G := fun v => v = .ref (hh.objs.size + 1)) rfl
    obtain ⟨a, rfl, qa⟩ : ∃ a, v4 = .ref a ∧ W5.ρ[V.n]? = some a := (r4.go z4.toAt0 g5).lsts (G := fun v => ∃ a, v = .ref a ∧ W5.ρ[V.n]? = some a) fun a q => ⟨a, rfl, q⟩
    refine wpAny_bind (wpAny_standAt (wpAny_bind (wpAny_holding (wpT z5.tk (wp_setHdr (KX.keeps z5.H.base) Y T5.1 T5.2 fun h6 tk6 hsh t6 n6 hs6 hd6 hp6 => wpAny_release ?_)))))
    have h0d : X.h0.get? hh.objs.size = none := z.H.none_of (get?_size_none _)
    have H6 := z5.H.addInst T5.1 T5.2 h0d hs6 hd6 qa
    have z6 : At X d sc (pI ++ mI) A' (on s' h6 tk6) env (W5.inst (hh.objs.size + 1)) ((V.add []).inst V.n) _ := ⟨⟨z5.rm, H6, hp6⟩, z5.ok, z5.co, z5.R.addInst (x := hh.objs.size + 1) T5.2 (fun q => no hdx (.inl q)) hs6⟩
    refine wp_next h4 z6 (e4 _ V) fun h7 tk7 W7 g7 R7 => wpAny_execs_nil ?_
    have Sa : Step (Own (pI ++ mI) env) s'.heap W h5 W5 := ((g2.S.trans g3.S).trans g4.S.nox).trans g5.S.nox
    have Sb : Step (fun a => Own (pI ++ mI) env a ∨ a = hh.objs.size) h5 W5 h6 (W5.inst (hh.objs.size + 1)) := step_inst hs6 (.inr rfl) (live_of hd6)
    refine k h7 tk7 W7 .next (((Sa.weaken fun _ => .inl).trans Sb).trans (g7.S.weaken fun _ => .inl)) g7.H g7.tk .next ?_
    rw [g7.S.sameη H6 g7.H rfl]
    exact congrArg (· ++ [hh.objs.size + 1]) (Sa.sameη zz.H z5.H rfl)
  · intro h' tk W' val g' rv zη
    refine ⟨rv.nones (G := fun v => v = .none) rfl, (P : PostE X ⟨hh, g, dr, t, os⟩ W Q _) h' tk W' _ ⟨Step.outerY (Z := fun a => a = hh.objs.size) k0 (g'.S.weaken fun _ => .inl) fun a q => q ▸ get?_size_none _, g'.H, g'.tk⟩ (.hdr ?_)⟩
    rw [zη, lenR_eq, ← z.H.leno]
    exact List.getElem?_concat_length
theorem emptyAt {a : Addr} (e : h.get? a = some emptyDict) : h.DictAt (strKind X.prog X.w) a ([] : List (Str × Value)) 0 := ⟨_, #[], e, ⟨rfl, rfl, rfl⟩, rfl, (fun e he => by simp at he), .nil, List.Pairwise.nil⟩
theorem wp_dictItems {a : Addr} {Q : Value → Shared → Prop} {E} (ha : s.heap.get? a = some emptyDict) (hna : (a == sysModules) = false)
    (h : Q (.ref s.heap.objs.size) { s with heap := s.heap.push { cls := .type "dict_items", data := .fields #[.ref a] } }) : wpAny X.M A (call (.builtin "dict.items") [.ref a]) Q E s := by
  refine wpAny_call (codeAny_call_builtin PySem.F.slot_dict_items.plain PySem.F.entry_dict_items (PySem.F.slot_dict_items.check _ _ _ _ _ _ _ _ ⟨_, ha, rfl⟩ (PySem.F.args_dict_items_1 _) ?_))
  exact meets_dict_items (strKind X.prog X.w) a hna A (fun r s' => match r with | .ok (.ret v) => Q v s' | .ok _ => False | .error e => E e s') s ⟨⟨[], (emptyAt ha).dictOf⟩, h⟩
/-- a loop over the items of an empty dict -/
theorem wp_forItems {t : Expr} {y : Str} {npos apos cpos pos : Pos} {body : List Stmt} {a i : Nat} {Q : Flow → Shared → Prop} (z : At X d sc sl A s env W V ev)
    (hi : sl[i]? = some y) (hev : ev[i]? = some (some (.fix a))) (hd : (y == ("__debug__" : Str)) = false) (ha : s.heap.get? a = some emptyDict) (hs : ∀ env v, foldedSetIterable (.Call (.Attribute (.Name y npos) "items" apos) [] [] cpos) env v = pure v)
    (hbase : ∀ env, attributeBase (.Name y npos) "items" env (eval (.Name y npos) env) = eval (.Name y npos) env) (hline : (apos.endLine == cpos.line) = true) (hna : (a == sysModules) = false)
    (P : ∀ h tk, Go X Nox s W h tk W V → Q .next (on s h tk)) : wpAny X.M A (exec (.For t (.Call (.Attribute (.Name y npos) "items" apos) [] [] cpos) body [] pos) env) Q NoE s := by
  obtain ⟨val, l, r⟩ := z.R.var i y _ hi hev
  cases r.fixs (G := fun v => v = .ref a) rfl
  refine wpAny_For (wpAny_Call_method_lateS (hbase env) (by rfl) hline (wpAny_Name (wp_look z.ok.fn l ?_) hd)) (hs env)
  refine ⟨"dict", "dict.items", PySem.F.plainAttrs_dict, PySem.F.slot_dict_items, PySem.F.type_dict_items, ⟨_, ha, rfl⟩, (fun y e => by cases e; exact ⟨_, ha, rfl⟩), wp_callWith keep_builtin rfl (Calls.spliced_nil ⟨z.H.base, ?_⟩)⟩
  refine wp_dictItems ha hna ?_
  have k2 : Keeps s.heap (s.heap.push { cls := .type "dict_items", data := .fields #[.ref a] }) := keeps_push _
  refine wpAny_pyIter_items (s := on s (s.heap.push { cls := .type "dict_items", data := .fields #[.ref a] }) s.toks) ⟨_, Heap.get?_push_size _ rfl, rfl, rfl⟩ (emptyAt (k2 _ _ ha)) ?_
  refine codeAny_forLoop_any (fun _ s' => s' = _) ?_ 0 rfl
  rintro n s' rfl
  refine wpT z.tk (wpAny_pyNext_items_end (knd := strKind X.prog X.w) (kvs := []) z.rm.hh (Heap.get?_push_size _ rfl) (emptyAt (keeps_push _ _ _ (k2 _ _ ha))) rfl fun h3 he3 hp => ?_)
  have k4 : Keeps s.heap h3 := fun b o q => he3 b o (fun e => absurd (Heap.lt_size q) (by
    rw [show b = (s.heap.push { cls := .type "dict_items", data := .fields #[.ref a] }).objs.size from e, Heap.size_push]
    exact Nat.not_lt.mpr (Nat.le_succ _))) (keeps_push _ _ _ (k2 _ _ q))
  exact wpAny_execs_nil (P h3 _ ⟨.of_keeps k4, z.H.keeps k4, hp⟩)
theorem soundF_addHeader (B : Base X.h0 mg mb) {fA : Addr} {fd : FuncData} {S1 S2 S4 : Stmt} {t : Expr} {p1 p2 p3 p4 : Pos} {body : List Stmt} {φ1 φ2 φ4 : φS} {F : FF}
    (D : FnAt X.h0 fA fd sc [S1, S2, .For t (.Call (.Attribute (.Name "_params" p1) "items" p2) [] [] p3) body [] p4, S4])
    (hbind : ∀ a b c : Value, bindArgs fd ⟨[a, b, c], []⟩ = (alloc emptyDict >>= fun x => pure (pA.zip [a, b, c, .ref x]))) (O : ParOK sc pA mA)
    (hs : ∀ env y, foldedSetIterable (.Call (.Attribute (.Name "_params" p1) "items" p2) [] [] p3) env y = pure y) (hbase : ∀ env, attributeBase (.Name "_params" p1) "items" env (eval (.Name "_params" p1) env) = eval (.Name "_params" p1) env)
    (hline : (p2.endLine == p3.line) = true)
    (h1 : SoundS X d sc (pA ++ mA) S1 φ1) (h2 : SoundS X d sc (pA ++ mA) S2 φ2) (h4 : SoundS X d sc (pA ++ mA) S4 φ4)
    (hφ : ∀ (a : Nat) args V r, F args V = some r → ∃ x y z, args = [x, y, z] ∧ ∃ ev1 V1 ev2 V2 ev4, φ1 [some x, some y, some z, some (.fix a), none, none, none] V = some (.next, ev1, V1) ∧
      φ2 ev1 V1 = some (.next, ev2, V2) ∧ ev2[3]? = some (some (.fix a)) ∧ φ4 ev2 V2 = some (.next, ev4, r.2) ∧ r.1 = .none) :
    SoundF X (d + 1) (.ref fA) F := fun {A s W V args vals Q} z rs P0 => P0.ex fun r e P => by
  obtain ⟨x, y, w, rfl, ev1, V1, ev2, V2, ev4, e1, e2, g2, e4, er⟩ := hφ s.heap.objs.size args V r e
  obtain ⟨va, vb, vc, rfl⟩ : ∃ a b c, vals = [a, b, c] := by
    have := rs.length
    match vals, this with
    | [a, b, c], _ => exact ⟨a, b, c, rfl⟩
  have hsm : (s.heap.objs.size == sysModules) = false := beq_eq_false_iff_ne.mpr fun q => by
    obtain ⟨o, es, ep, ho, _⟩ := B.g
    have := Heap.lt_size (z.H.base _ _ ho)
    rw [q] at this
    exact absurd this (by decide)
  have hdx : (s.heap.push emptyDict).get? s.heap.objs.size = some emptyDict := Heap.get?_push_size _ rfl
  refine wpAny_call (code_fn (params := pA) (more := mA) (h1 := s.heap.push emptyDict) (tk1 := s.toks) (avs := [x, y, w] ++ [.fix s.heap.objs.size]) (vals := [va, vb, vc] ++ [.ref s.heap.objs.size]) (o := some (.next, r.2)) B Nox (fun _ => True) D O z z.tk (keeps_push _) ?_
    ((rs.mono (keeps_push _).tups .refl).append (.cons .fix .nil)) rfl ?_ fun h tk W' val g v _ => (P : PostE X s W Q r) h tk W' val g (er ▸ v))
  · intro M A' E' Q' hq
    rw [hbind]
    exact wpAny_bind (wpAny_alloc (wpAny_pure hq))
  · intro A' env s' Q' zz hk own k
    have keep : ∀ {s W V h tk W' V'}, HRel X s.heap W V → Go X (Own (pA ++ mA) env) s W h tk W' V' → _ → h.get? _ = some emptyDict := fun H g q => g.S.ext _ _ q (dict_out H q) fun q => by rw [own _ q] at hdx; cases hdx
    refine wp_next h1 zz e1 fun h2' tk2 W2 k2 R2 => ?_
    have z2 := zz.goS k2 R2
    refine wp_next h2 z2 e2 fun h3 tk3 W3 k3 R3 => ?_
    have z3 := z2.goS k3 R3
    refine wpAny_execs_cons (wp_forItems (i := 3) (a := s.heap.objs.size) z3 rfl g2 (by decide) (keep z2.H k3 (keep zz.H k2 (hk _ _ hdx))) hs hbase hline hsm fun h4' tk4 k4 => ?_)
    refine wp_next h4 (z3.go k4) e4 fun h5 tk5 W5 k5 R5 => wpAny_execs_nil ?_
    exact k h5 tk5 W5 .next (((k2.S.trans k3.S).trans (k4.S.nox.trans k5.S)).weaken fun _ => .inl) k5.H k5.tk .next trivial
end
end
end Mine
end

section
open PySem PySem.W PyProof.Rows
namespace Mine
noncomputable section
/-! what a function does with plain values, it does with letters -/
noncomputable def isPl : AV → Bool
  | .none | .bool _ | .int _ | .flt _ | .str _ => true
  | _ => false
noncomputable def cvT (σ : Sig) : AV → AV
  | .tup l => .tup (l.map (cv σ))
  | a => cv σ a
noncomputable def flatA : AV → Bool
  | .tup l => l.all isImm
  | a => isImm a
noncomputable abbrev V00 : VH := ⟨0, [], []⟩
/-- letters are plain -/
noncomputable def PlS (σ : Sig) : Prop := ∀ j k, isPl (σ j k) = true
section
variable {X : Wd} {d : Nat} {h h' : Heap} {W W' : Wld} {V : VH}
theorem VR.pl {σ a v} (hp : isPl a = true) (r : VR σ h W a v) : VI a v := by
  cases r with
  | imm y => exact y
  | _ => cases hp
theorem cv_pl {σ} (hσ : PlS σ) {a : AV} (hi : isImm a = true) : isPl (cv σ a) = true := by
  cases a <;> first | rfl | (cases hi; done) | exact hσ _ _
theorem VR.of_cv {σ} (hσ : PlS σ) {a v} (hi : isImm a = true) (r : VR σ h W (cv σ a) v) : VR σ h' W' a v := .of_vi (r.pl (cv_pl hσ hi))
theorem VRs.to_cv {σ} : ∀ {l : List AV} {vs}, l.all isImm = true → VRs σ h W l vs → VRs σ h W' (l.map (cv σ)) vs
  | [], _, _, .nil => .nil
  | a :: l, _, hi, .cons r rs => by
    rw [List.all_cons, Bool.and_eq_true] at hi
    exact .cons (.imm (r.imm_vi hi.1)) (rs.to_cv hi.2)
theorem VRs.of_cv {σ} (hσ : PlS σ) : ∀ {l : List AV} {vs}, l.all isImm = true → VRs σ h W (l.map (cv σ)) vs → VRs σ h' W' l vs
  | [], _, _, .nil => .nil
  | a :: l, _, hi, .cons r rs => by
    rw [List.all_cons, Bool.and_eq_true] at hi
    exact .cons (r.of_cv hσ hi.1) (rs.of_cv hσ hi.2)
theorem VRs.to_cvT {σ} : ∀ {l : List AV} {vs}, l.all flatA = true → VRs σ h W l vs → VRs σ h W' (l.map (cvT σ)) vs
  | [], _, _, .nil => .nil
  | a :: l, _, hi, .cons r rs => by
    rw [List.all_cons, Bool.and_eq_true] at hi
    refine .cons ?_ (rs.to_cvT hi.2)
    cases a with
    | tup l => exact r.tups fun x vs t rs => .tup t (rs.to_cv hi.1)
    | _ => exact .imm (r.imm_vi hi.1)
theorem VR.of_cvT {σ} (hσ : PlS σ) {a v} (hi : flatA a = true) (r : VR σ h W (cvT σ a) v) : VR σ h W' a v := by
  cases a with
  | tup l => exact r.tups fun x vs t rs => .tup t (rs.of_cv hσ hi)
  | _ => exact VR.of_cv hσ hi r
theorem HRel.empty (k : Keeps X.h0 h) : HRel X h ⟨[], []⟩ V00 :=
  ⟨rfl, rfl, List.nodup_nil, fun i xs e => absurd (VH.get_lt e) (Nat.not_lt_zero _), fun a ha => (nomatch ha), k, fun i k e => (nomatch (show ([] : List Nat)[i]? = some k from e)), rfl⟩
/-- an oracle in letters, of a function that is known on plain values -/
theorem soundF_orc {f : Value} {F O : FF} (hσ : PlS X.σ) (hF : SoundF X d f F)
    (h : ∀ args V r, O args V = some r → args.all flatA = true ∧ ((∃ a V0, r = (a, V) ∧ flatA a = true ∧ F (args.map (cvT X.σ)) V00 = some (cvT X.σ a, V0)) ∨
      ∃ xs V0 i, r = (.lst V.n, V.add xs) ∧ xs.all isImm = true ∧ F (args.map (cvT X.σ)) V00 = some (.lst i, V0) ∧ V0.get i = some (xs.map (cv X.σ)))) : SoundF X d f O := fun {A s W V args vals Q} z rs P => P.ex fun r e P => by
  obtain ⟨hfl, hh⟩ := h args V _ e
  have z0 : At0 X d A s ⟨[], []⟩ V00 := ⟨z.rm, .empty z.H.base, z.tk⟩
  have key : ∀ {h' tk W0 V0}, Go X Nox s ⟨[], []⟩ h' tk W0 V0 → Keeps s.heap h' := fun g a o q => g.S.ext a o q (fun z => nomatch z) id
  rcases hh with ⟨a, V0, rfl, hfa, e0⟩ | ⟨xs, V0, i, rfl, hxs, e0, hi⟩
  · exact hF z0 (rs.to_cvT hfl) (Su.of e0 fun h' tk W0 val g r => P h' tk W val ⟨.of_keeps (key g), z.H.keeps (key g), g.tk⟩ (r.of_cvT hσ hfa))
  · refine hF z0 (rs.to_cvT hfl) (Su.of e0 fun h' tk W0 val g r => r.lsts (G := fun val => Q val (on s h' tk)) fun a q => g.H.at_ q hi fun vs l1 r1 _ => ?_)
    have hk := key g
    obtain ⟨rr, er, fr⟩ := g.S.ρ
    have hm := List.mem_of_getElem? q
    have ha : s.heap.get? a = none := fr a (by rw [er] at hm; exact hm)
    refine P h' tk (W.more a) _ ⟨⟨fun b o q _ _ => hk b o q, (Step.of_keeps (Y := Nox) (W := W) hk).live, ⟨[a], rfl, fun b hb => by rw [List.mem_singleton.mp hb]; exact ha⟩, ⟨[], (List.append_nil _).symm⟩⟩,
      (z.H.keeps hk).join (fun hm => by obtain ⟨us, n, e⟩ := z.H.isList hm; rw [ha] at e; cases e) (g.H.fresh a hm) l1 (r1.of_cv hσ hxs), g.tk⟩ (.lst (by rw [← z.H.len]; exact List.getElem?_concat_length))
/-- two statements, then the rest, whose letters are new -/
theorem EnvRel.relabel {X' : Wd} {env : Env} {sl : List Str} {ev ev' : EV} (h0 : X'.h0 = X.h0) (R : EnvRel X h env sl W ev)
    (hv : ∀ (i : Nat) v' val, ev'[i]? = some (some v') → ∃ v, ev[i]? = some (some v) ∧ (VR X.σ h W v val → VR X'.σ h W' v' val)) : EnvRel X' h env sl W' ev' where
  ns := R.ns
  L0 := h0 ▸ R.L0
  var := fun i x v' e1 e2 => by
    obtain ⟨v, e3, _⟩ := hv i v' .none e2
    obtain ⟨val, l, r⟩ := R.var i x v e1 e3
    obtain ⟨v2, e4, hh⟩ := hv i v' val e2
    rw [e3] at e4
    cases e4
    exact ⟨val, l, hh r⟩
  cell := h0 ▸ R.cell
  apart := R.apart
  has := R.has
end
-- the letters' alphabet: families of 192 values, three hues each; from 300 on, values that no hue turns
noncomputable def sh (a n : Nat) : Nat := (n % 12 + 4 * a) % 12 + 12 * (n / 12)
noncomputable def pl (a : AV) : AV := match isPl a with
  | true => a
  | false => .none
/-- a letter's value -/
noncomputable def lv (fam famC : Nat → Nat → AV) (j n : Nat) : AV := pl (match Nat.blt j 300 with
  | true => fam (j / 3) (sh (j % 3) n)
  | false => famC (j - 300) (n / 12))
noncomputable def allN (p : Nat → Bool) : Bool := Nat.rec (motive := fun _ => Bool) true (fun n ih => match p n with
  | true => ih
  | false => false) 192
noncomputable def eqA (a b : AV) : Bool := match a with
  | .int x => match b with
    | .int y => decide (x = y)
    | _ => false
  | .flt x => match b with
    | .flt y => Nat.beq x.toNat y.toNat
    | _ => false
  | _ => false
noncomputable def eqO (o : Option AV) (b : AV) : Bool := match o with
  | some a => eqA a b
  | none => false
noncomputable def onSym {β : Type} (a : AV) (F : Nat → Nat → Option β) : Option β := match a with
  | .sym j k => F j k
  | _ => none
/-- a line of a table: letter, constant, what comes out -/
structure Ent where
  j : Nat
  c : AV
  r : Nat
noncomputable def findE (j : Nat) (c : AV) (l : List Ent) : Option Nat := List.rec (motive := fun _ => Option Nat) none (fun e _ ih => match Nat.beq e.j j && eqA e.c c with
  | true => some e.r
  | false => ih) l
noncomputable def look (R : Nat → Nat → AV) (l : List Ent) (a b : AV) : Option AV := onSym a fun j k => bnd (findE j b l) fun r => some (R r k)
noncomputable def allE {α : Type} (p : α → Bool) (l : List α) : Bool := List.rec (motive := fun _ => Bool) true (fun e _ ih => match p e with
  | true => ih
  | false => false) l
/-- two letters of one cell -/
noncomputable def findP (j i : Nat) (l : List (Nat × Nat)) : Bool := List.rec (motive := fun _ => Bool) false (fun e _ ih => match Nat.beq e.1 j && Nat.beq e.2 i with
  | true => true
  | false => ih) l
noncomputable def lookP (ans : Bool) (l : List (Nat × Nat)) (a b : AV) : Option Bool := onSym a fun j k => onSym b fun i m => grd (Nat.beq k m && findP j i l) (some ans)
noncomputable def isB (o : Option Bool) (b : Bool) : Bool := match o with
  | some c => match c with
    | true => b
    | false => !b
  | none => false
noncomputable def sf (a j : Nat) : Nat := match Nat.blt j 300 with
  | true => j + a
  | false => j
/-- three letters for three -/
structure Orc3 where
  t1 : Nat
  t2 : Nat
  t3 : Nat
  r1 : Nat
  r2 : Nat
  r3 : Nat
noncomputable def orc3 {β : Type} (O : Orc3) (x y z : AV) (F : List AV → Option β) : Option β := onSym x fun j k => onSym y fun j2 k2 => onSym z fun j3 k3 =>
  grd (Nat.beq k k2 && Nat.beq k k3 && Nat.ble O.t1 j && Nat.ble j (O.t1 + 2) && Nat.beq j2 (sf (j - O.t1) O.t2) && Nat.beq j3 (sf (j - O.t1) O.t3)) (F [.sym (sf (j - O.t1) O.r1) k, .sym (sf (j - O.t1) O.r2) k, .sym (sf (j - O.t1) O.r3) k])
noncomputable def orcT (O : Orc3) : FF := fun args V => args3 args fun x y z => orc3 O x y z fun l => some (.tup l, V)
noncomputable def orcL (O : Orc3) : FF := fun args V => args3 args fun x y z => orc3 O x y z fun l => some (.lst V.n, V.add l)
noncomputable def orcTT (O : Orc3) : FF := fun args V => args1 args fun a => onTup a fun l => args3 l fun x y z => orc3 O x y z fun l => some (.tup l, V)
/-- a run gives these three -/
noncomputable def three3 (l : List AV) (x y z : AV) : Bool := match l with
  | a :: r => match r with
    | b :: q => match q with
      | c :: w => match w with
        | [] => eqA a x && eqA b y && eqA c z
        | _ :: _ => false
      | [] => false
    | [] => false
  | [] => false
noncomputable def isT3 (r : Option (AV × VH)) (x y z : AV) : Bool := match r with
  | some p => match p.1 with
    | .tup l => three3 l x y z
    | _ => false
  | none => false
noncomputable def isL3 (r : Option (AV × VH)) (x y z : AV) : Bool := match r with
  | some p => match p.1 with
    | .lst i => match p.2.get i with
      | some l => three3 l x y z
      | none => false
    | _ => false
  | none => false
noncomputable def chkT (fam famC : Nat → Nat → AV) (O : Orc3) (F : FF) : Bool := allN fun n => isT3 (F [lv fam famC O.t1 n, lv fam famC O.t2 n, lv fam famC O.t3 n] V00) (lv fam famC O.r1 n) (lv fam famC O.r2 n) (lv fam famC O.r3 n)
noncomputable def chkL (fam famC : Nat → Nat → AV) (O : Orc3) (F : FF) : Bool := allN fun n => isL3 (F [lv fam famC O.t1 n, lv fam famC O.t2 n, lv fam famC O.t3 n] V00) (lv fam famC O.r1 n) (lv fam famC O.r2 n) (lv fam famC O.r3 n)
noncomputable def chkTT (fam famC : Nat → Nat → AV) (O : Orc3) (F : FF) : Bool := allN fun n => isT3 (F [.tup [lv fam famC O.t1 n, lv fam famC O.t2 n, lv fam famC O.t3 n]] V00) (lv fam famC O.r1 n) (lv fam famC O.r2 n) (lv fam famC O.r3 n)
noncomputable def base3 (O : Orc3) : Bool := [O.t1, O.t2, O.t3, O.r1, O.r2, O.r3].all (fun j => Nat.ble 300 j || Nat.beq (j % 3) 0) && Nat.blt O.t1 300
section
variable {fam famC : Nat → Nat → AV} {num : Nat → Nat}
noncomputable abbrev sgL (fam famC : Nat → Nat → AV) (num : Nat → Nat) : Sig := fun j k => lv fam famC j (num k)
theorem pl_pl (a : AV) : isPl (pl a) = true := by
  unfold pl
  cases h : isPl a
  · rfl
  · exact h
theorem sgL_pl : PlS (sgL fam famC num) := fun j k => pl_pl _
theorem allN_ok {p : Nat → Bool} (h : allN p = true) : ∀ n, n < 192 → p n = true := by
  have key : ∀ N, (Nat.rec (motive := fun _ => Bool) true (fun n ih => match p n with | true => ih | false => false) N) = true → ∀ n, n < N → p n = true := by
    intro N
    induction N with
    | zero => exact fun _ n h => absurd h (Nat.not_lt_zero _)
    | succ N ih =>
      intro h n hn
      change (match p N with | true => _ | false => false) = true at h
      cases q : p N with
      | false => rw [q] at h; cases h
      | true =>
        rw [q] at h
        rcases Nat.lt_succ_iff_lt_or_eq.mp hn with r | r
        · exact ih h n r
        · exact r ▸ q
  exact key 192 h
theorem allE_ok {α : Type} {p : α → Bool} : ∀ {l : List α}, allE p l = true → ∀ e ∈ l, p e = true
  | a :: l, h, e, he => by
    change (match p a with | true => allE p l | false => false) = true at h
    cases q : p a with
    | false => rw [q] at h; cases h
    | true =>
      rw [q] at h
      exact (List.mem_cons.mp he).elim (fun r => r ▸ q) (allE_ok h e)
theorem eqA_ok {a b : AV} (h : eqA a b = true) : a = b := by
  cases a with
  | int x => cases b with
    | int y => exact congrArg _ (of_decide_eq_true h)
    | _ => cases h
  | flt x => cases b with
    | flt y => exact congrArg _ (UInt64.toNat_inj.mp (Nat.eq_of_beq_eq_true h))
    | _ => cases h
  | _ => cases h
theorem eqA_pl {a b : AV} (h : eqA a b = true) : isSym b = false := by cases a <;> first | (cases h; done) | (cases b <;> first | rfl | (cases h; done))
theorem eqO_ok {o : Option AV} {b : AV} (h : eqO o b = true) : o = some b := by
  cases o with
  | none => cases h
  | some a => exact congrArg _ (eqA_ok h)
theorem findE_ok {j c r} : ∀ {l : List Ent}, findE j c l = some r → ∃ e ∈ l, e.j = j ∧ e.c = c ∧ e.r = r ∧ isSym c = false
  | a :: l, h => by
    change (match Nat.beq a.j j && eqA a.c c with | true => some a.r | false => findE j c l) = some r at h
    cases q : Nat.beq a.j j && eqA a.c c with
    | true =>
      rw [q] at h
      rw [Bool.and_eq_true] at q
      exact ⟨a, List.mem_cons_self, Nat.eq_of_beq_eq_true q.1, eqA_ok q.2, Option.some.inj h, eqA_pl q.2⟩
    | false =>
      rw [q] at h
      obtain ⟨e, he, r⟩ := findE_ok h
      exact ⟨e, List.mem_cons_of_mem _ he, r⟩
theorem findP_ok {j i} : ∀ {l : List (Nat × Nat)}, findP j i l = true → (j, i) ∈ l
  | a :: l, h => by
    change (match Nat.beq a.1 j && Nat.beq a.2 i with | true => true | false => findP j i l) = true at h
    cases q : Nat.beq a.1 j && Nat.beq a.2 i with
    | true =>
      rw [Bool.and_eq_true] at q
      rw [← Nat.eq_of_beq_eq_true q.1, ← Nat.eq_of_beq_eq_true q.2]
      exact List.mem_cons_self
    | false => rw [q] at h; exact List.mem_cons_of_mem _ (findP_ok h)
theorem onSym_ok {β : Type} {a : AV} {F : Nat → Nat → Option β} {K : β → Prop} {P : Prop} (k : Su (onSym a F) K) (f : ∀ j m, a = .sym j m → Su (F j m) K → P) : P := by cases a with
  | sym j m => exact f j m rfl k
  | _ => exact k.elim
/-- a line holds for every number -/
noncomputable abbrev LineOK (fam famC rv : Nat → Nat → AV) (f : AV → AV → Option AV) (e : Ent) : Prop := ∀ n, n < 192 → eqO (f (lv fam famC e.j n) e.c) (rv e.r n) = true
noncomputable abbrev PairOK (fam famC : Nat → Nat → AV) (ans : Bool) (f : AV → AV → Option Bool) (e : Nat × Nat) : Prop := ∀ n, n < 192 → isB (f (lv fam famC e.1 n) (lv fam famC e.2 n)) ans = true
theorem lines_of {rv : Nat → Nat → AV} {f : AV → AV → Option AV} {l : List Ent} (h : allE (fun e => allN fun n => eqO (f (lv fam famC e.j n) e.c) (rv e.r n)) l = true) : ∀ e ∈ l, LineOK fam famC rv f e := fun e he => allN_ok (allE_ok h e he)
theorem pairs_of {ans : Bool} {f : AV → AV → Option Bool} {l : List (Nat × Nat)} (h : allE (fun e => allN fun n => isB (f (lv fam famC e.1 n) (lv fam famC e.2 n)) ans) l = true) : ∀ e ∈ l, PairOK fam famC ans f e := fun e he => allN_ok (allE_ok h e he)
theorem look_ok {R rv : Nat → Nat → AV} {l : List Ent} {f : AV → AV → Option AV} {a b c : AV} (hn : ∀ k, num k < 192) (hR : ∀ r k, cv (sgL fam famC num) (R r k) = rv r (num k))
    (h : ∀ e ∈ l, LineOK fam famC rv f e) (e : look R l a b = some c) : f (cv (sgL fam famC num) a) (cv (sgL fam famC num) b) = some (cv (sgL fam famC num) c) :=
  onSym_ok (Su.of e rfl : Su _ (· = c)) fun j k ea e => e.bnde fun r er e => by
    subst ea
    obtain ⟨e', h1, rfl, rfl, rfl, h2⟩ := findE_ok er
    rw [← (e : R e'.r k = c), hR, cv_id h2]
    exact eqO_ok (h e' h1 (num k) (hn k))
theorem isB_ok {o : Option Bool} {b : Bool} (h : isB o b = true) : o = some b := by
  cases o with
  | none => cases h
  | some c => cases c <;> cases b <;> first | rfl | cases h
theorem lookP_ok {l : List (Nat × Nat)} {f : AV → AV → Option Bool} {a b : AV} {ans c : Bool} (hn : ∀ k, num k < 192) (h : ∀ e ∈ l, PairOK fam famC ans f e) (e : lookP ans l a b = some c) :
    f (cv (sgL fam famC num) a) (cv (sgL fam famC num) b) = some c :=
  onSym_ok (Su.of e rfl : Su _ (· = c)) fun j k ea e1 => onSym_ok e1 fun i m eb e2 => e2.grd fun hc e3 => by
    subst ea eb
    rw [Bool.and_eq_true] at hc
    cases Nat.eq_of_beq_eq_true hc.1
    rw [← (e3 : ans = c)]
    exact isB_ok (h _ (findP_ok hc.2) (num k) (hn k))
theorem sh_lt {a n : Nat} (h : n < 192) : sh a n < 192 := by
  unfold sh
  have := Nat.mod_lt (n % 12 + 4 * a) (by decide : 0 < 12)
  omega
theorem lv_sf {a j n : Nat} (ha : a ≤ 2) (hj : (Nat.ble 300 j || Nat.beq (j % 3) 0) = true) : lv fam famC (sf a j) n = lv fam famC j (sh a n) := by
  unfold lv sf
  cases q : Nat.blt j 300 with
  | false =>
    dsimp only
    rw [q, show sh a n / 12 = n / 12 by unfold sh; rw [Nat.add_mul_div_left _ _ (by decide : 0 < 12), Nat.div_eq_of_lt (Nat.mod_lt _ (by decide)), Nat.zero_add]]
  | true =>
    have q := Nat.blt_eq.mp q
    rw [Bool.or_eq_true, Nat.ble_eq] at hj
    have hj := Nat.eq_of_beq_eq_true (hj.resolve_left (Nat.not_le.mpr q))
    have e1 : (j + a) / 3 = j / 3 := by omega
    have e2 : (j + a) % 3 = a := by omega
    dsimp only
    rw [Nat.blt_eq.mpr (show j + a < 300 by omega), e1, e2, hj, show sh 0 (sh a n) = sh a n by unfold sh; omega]
/-- a line of base letters, and its turns -/
noncomputable def spE (l : List Ent) : List Ent := l.flatMap fun e => (List.range 3).map fun a => ⟨sf a e.j, e.c, sf a e.r⟩
noncomputable def spP (l : List (Nat × Nat)) : List (Nat × Nat) := l.flatMap fun e => (List.range 3).map fun a => (sf a e.1, sf a e.2)
noncomputable def baseJ (j : Nat) : Bool := Nat.ble 300 j || Nat.beq (j % 3) 0
theorem lines_sp {rv : Nat → Nat → AV} {f : AV → AV → Option AV} {l : List Ent} (hr : ∀ r n, r < 1000 → rv r n = lv fam famC r n) (hb : (l.all fun e => baseJ e.j && (baseJ e.r && Nat.blt e.r 900)) = true) (h : ∀ e ∈ l, LineOK fam famC rv f e) : ∀ e ∈ spE l, LineOK fam famC rv f e := fun e' he n hn => by
  obtain ⟨e, h1, h2⟩ := List.mem_flatMap.mp he
  obtain ⟨a, h3, rfl⟩ := List.mem_map.mp h2
  have ha : a ≤ 2 := Nat.le_of_lt_succ (List.mem_range.mp h3)
  have q := List.all_eq_true.mp hb e h1
  rw [Bool.and_eq_true, Bool.and_eq_true] at q
  obtain ⟨q1, q2, q3⟩ := q
  have q3 := Nat.blt_eq.mp q3
  have q4 : sf a e.r < 1000 := by unfold sf; split <;> omega
  have := h e h1 (sh a n) (sh_lt hn)
  rw [hr _ _ (by omega), ← lv_sf ha q1, ← lv_sf ha q2] at this
  rw [hr _ _ q4]
  exact this
theorem pairs_sp {ans : Bool} {f : AV → AV → Option Bool} {l : List (Nat × Nat)} (hb : (l.all fun e => baseJ e.1 && baseJ e.2) = true) (h : ∀ e ∈ l, PairOK fam famC ans f e) : ∀ e ∈ spP l, PairOK fam famC ans f e := fun e' he n hn => by
  obtain ⟨e, h1, h2⟩ := List.mem_flatMap.mp he
  obtain ⟨a, h3, rfl⟩ := List.mem_map.mp h2
  have ha : a ≤ 2 := Nat.le_of_lt_succ (List.mem_range.mp h3)
  have q := List.all_eq_true.mp hb e h1
  rw [Bool.and_eq_true] at q
  have := h e h1 (sh a n) (sh_lt hn)
  rw [← lv_sf ha q.1, ← lv_sf ha q.2] at this
  exact this
theorem three3_ok {l : List AV} {x y z} (h : three3 l x y z = true) : l = [x, y, z] := by
  match l, h with
  | [a, b, c], h =>
    change (eqA a x && eqA b y && eqA c z) = true at h
    rw [Bool.and_eq_true, Bool.and_eq_true] at h
    rw [eqA_ok h.1.1, eqA_ok h.1.2, eqA_ok h.2]
theorem isT3_ok {r x y z} (h : isT3 r x y z = true) : ∃ V0, r = some (.tup [x, y, z], V0) := by
  match r, h with
  | some (.tup l, V0), h => exact ⟨V0, by rw [three3_ok h]⟩
theorem isL3_ok {r x y z} (h : isL3 r x y z = true) : ∃ i V0, r = some (.lst i, V0) ∧ V0.get i = some [x, y, z] := by
  match r, h with
  | some (.lst i, V0), h =>
    refine ⟨i, V0, rfl, ?_⟩
    change (match V0.get i with | some l => three3 l x y z | none => false) = true at h
    cases q : V0.get i with
    | none => rw [q] at h; cases h
    | some l => rw [q] at h; rw [three3_ok h]
theorem orc3_ok {β : Type} {O : Orc3} {x y z : AV} {F : List AV → Option β} {K : β → Prop} {P : Prop} (hn : ∀ k, num k < 192) (hb : base3 O = true) (k : Su (orc3 O x y z F) K)
    (f : ∀ n a b c, n < 192 → isImm x = true ∧ isImm y = true ∧ isImm z = true → isImm a = true ∧ isImm b = true ∧ isImm c = true → cv (sgL fam famC num) x = lv fam famC O.t1 n → cv (sgL fam famC num) y = lv fam famC O.t2 n → cv (sgL fam famC num) z = lv fam famC O.t3 n →
      cv (sgL fam famC num) a = lv fam famC O.r1 n → cv (sgL fam famC num) b = lv fam famC O.r2 n → cv (sgL fam famC num) c = lv fam famC O.r3 n → Su (F [a, b, c]) K → P) : P :=
  onSym_ok k fun j1 k1 e1 k => onSym_ok k fun j2 k2 e2 k => onSym_ok k fun j3 k3 e3 k => k.grd fun hc k9 => by
    subst e1 e2 e3
    simp only [Bool.and_eq_true] at hc
    obtain ⟨⟨⟨⟨⟨h1, h2⟩, h3⟩, h4⟩, h5⟩, h6⟩ := hc
    cases Nat.eq_of_beq_eq_true h1
    cases Nat.eq_of_beq_eq_true h2
    have h3 := Nat.le_of_ble_eq_true h3
    have h4 := Nat.le_of_ble_eq_true h4
    unfold base3 at hb
    simp only [List.all_cons, List.all_nil, Bool.and_true, Bool.and_eq_true] at hb
    obtain ⟨⟨b1, b2, b3, b4, b5, b6⟩, b7⟩ := hb
    have ha : j1 - O.t1 ≤ 2 := by omega
    have e1 : sf (j1 - O.t1) O.t1 = j1 := by unfold sf; rw [b7]; exact Nat.add_sub_cancel' h3
    cases Nat.eq_of_beq_eq_true h5
    cases Nat.eq_of_beq_eq_true h6
    exact f (sh (j1 - O.t1) (num k1)) (.sym (sf (j1 - O.t1) O.r1) k1) (.sym (sf (j1 - O.t1) O.r2) k1) (.sym (sf (j1 - O.t1) O.r3) k1) (sh_lt (hn k1)) ⟨rfl, rfl, rfl⟩ ⟨rfl, rfl, rfl⟩ (by rw [← lv_sf ha b1, e1]; rfl) (lv_sf ha b2) (lv_sf ha b3) (lv_sf ha b4) (lv_sf ha b5) (lv_sf ha b6) k9
section
variable {X : Wd} {d : Nat} {f : Value} {F : FF} {O : Orc3}
theorem all3 {a b c : AV} {p : AV → Bool} (h : p a = true ∧ p b = true ∧ p c = true) : [a, b, c].all p = true := by
  rw [List.all_cons, List.all_cons, List.all_cons, h.1, h.2.1, h.2.2]; rfl
theorem flat_imm {a : AV} (h : isImm a = true) : flatA a = true := by cases a <;> first | exact h | cases h
theorem cvT_imm {σ} {a : AV} (h : isImm a = true) : cvT σ a = cv σ a := by cases a <;> first | rfl | cases h
theorem args3_of {β : Type} {l : List AV} {F : AV → AV → AV → Option β} {K : β → Prop} {P : Prop} (k : Su (args3 l F) K) (f : ∀ a b c, l = [a, b, c] → Su (F a b c) K → P) : P := by
  match l, k with
  | [], k => exact k.elim
  | [_], k => exact k.elim
  | [_, _], k => exact k.elim
  | [a, b, c], k => exact f a b c rfl k
  | _ :: _ :: _ :: _ :: _, k => exact k.elim
theorem sound_orcT (hn : ∀ k, num k < 192) (hσ : X.σ = sgL fam famC num) (hF : SoundF X d f F) (hb : base3 O = true)
    (h : chkT fam famC O F = true) : SoundF X d f (orcT O) :=
  soundF_orc (hσ ▸ sgL_pl) hF fun args V r e => args3_of (Su.of e rfl : Su (orcT O args V) (· = r)) fun x y z ea k => orc3_ok (fam := fam) (famC := famC) hn hb k fun n a b c hlt i1 i2 e1 e2 e3 g1 g2 g3 k => by
    subst ea
    have k : (AV.tup [a, b, c], V) = r := k
    obtain ⟨V0, e0⟩ := isT3_ok (allN_ok h n hlt)
    refine ⟨all3 ⟨flat_imm i1.1, flat_imm i1.2.1, flat_imm i1.2.2⟩, .inl ⟨_, V0, k.symm, all3 i2, ?_⟩⟩
    rw [hσ, List.map_cons, List.map_cons, List.map_cons, List.map_nil, cvT_imm i1.1, cvT_imm i1.2.1, cvT_imm i1.2.2, e1, e2, e3, e0, ← g1, ← g2, ← g3]
    rfl
theorem sound_orcL (hn : ∀ k, num k < 192) (hσ : X.σ = sgL fam famC num) (hF : SoundF X d f F) (hb : base3 O = true)
    (h : chkL fam famC O F = true) : SoundF X d f (orcL O) :=
  soundF_orc (hσ ▸ sgL_pl) hF fun args V r e => args3_of (Su.of e rfl : Su (orcL O args V) (· = r)) fun x y z ea k => orc3_ok (fam := fam) (famC := famC) hn hb k fun n a b c hlt i1 i2 e1 e2 e3 g1 g2 g3 k => by
    subst ea
    have k : (AV.lst V.n, V.add [a, b, c]) = r := k
    obtain ⟨i, V0, e0, e4⟩ := isL3_ok (allN_ok h n hlt)
    refine ⟨all3 ⟨flat_imm i1.1, flat_imm i1.2.1, flat_imm i1.2.2⟩, .inr ⟨_, V0, i, k.symm, all3 i2, ?_, ?_⟩⟩
    · rw [hσ, List.map_cons, List.map_cons, List.map_cons, List.map_nil, cvT_imm i1.1, cvT_imm i1.2.1, cvT_imm i1.2.2, e1, e2, e3, e0]
    · rw [hσ, e4, ← g1, ← g2, ← g3]
      rfl
theorem sound_orcTT (hn : ∀ k, num k < 192) (hσ : X.σ = sgL fam famC num) (hF : SoundF X d f F) (hb : base3 O = true)
    (h : chkTT fam famC O F = true) : SoundF X d f (orcTT O) :=
  soundF_orc (hσ ▸ sgL_pl) hF fun args V r e => by
    have k : Su (orcTT O args V) (· = r) := Su.of e rfl
    match args, k with
    | [], k => exact k.elim
    | _ :: _ :: _, k => exact k.elim
    | [t], k =>
    refine onTup_ok k fun l et k => args3_of k fun x y z ea k => orc3_ok (fam := fam) (famC := famC) hn hb k fun n a b c hlt i1 i2 e1 e2 e3 g1 g2 g3 k9 => ?_
    subst et ea
    have k : (AV.tup [a, b, c], V) = r := k9
    obtain ⟨V0, e0⟩ := isT3_ok (allN_ok h n hlt)
    refine ⟨by rw [List.all_cons, List.all_nil, Bool.and_true]; exact all3 i1, .inl ⟨_, V0, k.symm, all3 i2, ?_⟩⟩
    rw [hσ, show [AV.tup [x, y, z]].map (cvT (sgL fam famC num)) = [.tup [cv (sgL fam famC num) x, cv (sgL fam famC num) y, cv (sgL fam famC num) z]] from rfl, e1, e2, e3, e0, ← g1, ← g2, ← g3]
    rfl
end
end
end
end Mine
end

section
open PySem PySem.W PyProof.Rows
namespace Mine
noncomputable section
/-! the facts that the heap's picture K tells -/
noncomputable def onDict {β : Type} (d : Data) (F : Array DictEntry → Option β) : Option β := match d with
  | .dict es _ => F es
  | _ => none
noncomputable def onFunc {β : Type} (d : Data) (F : FuncData → Option β) : Option β := match d with
  | .func fd => F fd
  | _ => none
noncomputable def onFields {β : Type} (d : Data) (F : Array Value → Option β) : Option β := match d with
  | .fields vs => F vs
  | _ => none
noncomputable def onItems {β : Type} (d : Data) (F : Array Value → Option β) : Option β := match d with
  | .seq vs _ => F vs
  | _ => none
noncomputable def isTy (v : Value) (n : String) : Bool := match v with
  | .type m => decide (m = n)
  | _ => false
noncomputable def isStrV (v : Value) : Bool := match v with
  | .str _ _ => true
  | _ => false
noncomputable def nsOf (K : Frag) (L : Addr) (x : Str) : Option Value := bnd (K.lookup L) fun o => onDict o.data fun es => nsFind es x
noncomputable def strKeys (K : Frag) (L : Addr) : Bool := (bnd (K.lookup L) fun o => onDict o.data fun es => grd (es.toList.all fun e => isStrV e.key) (some ())).isSome
noncomputable def fnAt (K : Frag) (a : Addr) : Option FuncData := bnd (K.lookup a) fun o => onFunc o.data fun fd => grd (isTy o.cls "function") (some fd)
/-- what is to be true of a def's function -/
noncomputable def fnMore (K : Frag) (a : Addr) : Option (Scope × FuncBody × Addr × Addr × List (Str × Addr) × Bool) := bnd (fnAt K a) fun fd => some (fd.scope, fd.body, fd.globals, fd.builtins, fd.closure, codeIn K fd.code fd.qualname)
noncomputable def isP0 (v : Value) : Bool := match v with
  | .int n _ => match n with
    | .ofNat k => Nat.beq k 0
    | _ => false
  | _ => false
noncomputable def isNo (v : Value) : Bool := match v with
  | .none => true
  | _ => false
noncomputable def onRef {β : Type} (v : Value) (F : Addr → Option β) : Option β := match v with
  | .ref a => F a
  | _ => none
noncomputable def consV {β : Type} (l : List Value) (F : Value → List Value → Option β) : Option β := match l with
  | a :: r => F a r
  | [] => none
noncomputable def nilV {β : Type} (l : List Value) (F : Option β) : Option β := match l with
  | [] => F
  | _ :: _ => none
noncomputable def patAt (K : Frag) (a : Addr) (code : Array Nat) : Bool := (bnd (K.lookup a) fun o => onFields o.data fun vs => consV vs.toList fun _ l => consV l fun _ l => consV l fun z l => consV l fun n1 l => consV l fun n2 l => consV l fun r l => consV l fun z' l => nilV l <| onRef r fun c => bnd (K.lookup c) fun oc => onItems oc.data fun items =>
  grd (isTy o.cls "re.Pattern" && o.dict.isNone && isP0 z && isNo n1 && isNo n2 && isP0 z' && decide ((items.map PySem.Builtin.Re.reRawOf).map (·.toNat) = code)) (some ())).isSome
/-- a def's function, its arguments by place -/
noncomputable def FnOK (h : Heap) (a : Addr) (sc : Scope) (body : List Stmt) (params : List Str) : Prop := ∃ fd, FnAt h a fd sc body ∧ ∀ vals : List Value, vals.length = params.length → bindArgs fd ⟨vals, []⟩ = pure (params.zip vals)
section
variable {K : Frag} {h : Heap} {mg mb : Str → Option Value} {β : Type} {Q : β → Prop} {P : Prop}
theorem su_some {o : Option β} (h : o.isSome = true) : Su o fun _ => True := by cases o with
  | none => cases h
  | some a => trivial
theorem onDict_ok {d : Data} {F} (k : Su (onDict d F) Q) (f : ∀ es n, d = .dict es n → Su (F es) Q → P) : P := by cases d with
  | dict es n => exact f es n rfl k
  | _ => exact k.elim
theorem onFunc_ok {d : Data} {F} (k : Su (onFunc d F) Q) (f : ∀ fd, d = .func fd → Su (F fd) Q → P) : P := by cases d with
  | func fd => exact f fd rfl k
  | _ => exact k.elim
theorem onFields_ok {d : Data} {F} (k : Su (onFields d F) Q) (f : ∀ vs, d = .fields vs → Su (F vs) Q → P) : P := by cases d with
  | fields vs => exact f vs rfl k
  | _ => exact k.elim
theorem onItems_ok {d : Data} {F} (k : Su (onItems d F) Q) (f : ∀ vs n, d = .seq vs n → Su (F vs) Q → P) : P := by cases d with
  | seq vs n => exact f vs n rfl k
  | _ => exact k.elim
theorem isTy_ok {v : Value} {n} (h : isTy v n = true) : v = .type n := by cases v with
  | type m => exact congrArg _ (of_decide_eq_true h)
  | _ => cases h
theorem isStrV_ok {v : Value} (h : isStrV v = true) : ∃ x t, v = .str x t := by cases v with
  | str x t => exact ⟨x, t, rfl⟩
  | _ => cases h
theorem isP0_ok {v : Value} (h : isP0 v = true) : ∃ t, v = .int 0 t := by cases v with
  | int n t => cases n with
    | ofNat k => exact ⟨t, by rw [Nat.eq_of_beq_eq_true h]; rfl⟩
    | negSucc k => cases h
  | _ => cases h
theorem isNo_ok {v : Value} (h : isNo v = true) : v = .none := by cases v with
  | none => rfl
  | _ => cases h
theorem onRef_ok {v : Value} {F} (k : Su (onRef v F) Q) (f : ∀ a, v = .ref a → Su (F a) Q → P) : P := by cases v with
  | ref a => exact f a rfl k
  | _ => exact k.elim
theorem consV_ok {l : List Value} {F} (k : Su (consV l F) Q) (f : ∀ a r, l = a :: r → Su (F a r) Q → P) : P := by cases l with
  | nil => exact k.elim
  | cons a r => exact f a r rfl k
theorem nilV_ok {l : List Value} {F : Option β} (k : Su (nilV l F) Q) (f : l = [] → Su F Q → P) : P := by cases l with
  | nil => exact f rfl k
  | cons a r => exact k.elim
theorem ns_at {L : Addr} (KX : K.In h) (hk : strKeys K L = true) : ∃ o es n, h.get? L = some o ∧ o.data = .dict es n ∧ (es.toList.all fun e => isStrV e.key) = true ∧ nsOf K L = nsFind es :=
  (su_some hk).bnde fun o e k => onDict_ok k fun es n hd k => k.grd fun ha _ => ⟨o, es, n, KX _ _ e, hd, ha, by funext x; unfold nsOf; rw [e]; show onDict o.data _ = _; rw [hd]; rfl⟩
theorem ns_of {L : Addr} (KX : K.In h) (hk : strKeys K L = true) : h.Ns L (nsOf K L) :=
  let ⟨o, es, n, ho, hd, ha, hn⟩ := ns_at KX hk
  ⟨o, es, n, ho, hd, fun y hy => isStrV_ok (List.all_eq_true.mp ha y (by simpa using hy)), fun x => by rw [hn]⟩
theorem ns_eq {L : Addr} {m : Str → Option Value} (KX : K.In h) (n : h.Ns L m) (hk : strKeys K L = true) (x : Str) : m x = nsOf K L x := ns_fun (ns_of KX hk) n x
theorem glob_of {x : Str} {v : Value} (KX : K.In h) (B : Base h mg mb) (hk : strKeys K mainGlobals = true) (e : nsOf K mainGlobals x = some v) : GlobalIs mg mb x v := .inl ((ns_eq KX B.g hk x).trans e)
theorem glob_b {x : Str} {v : Value} (KX : K.In h) (B : Base h mg mb) (hk : strKeys K mainGlobals = true) (e : nsOf K mainGlobals x = none) (hn : x ≠ "__name__") (hb : bootBuiltins x = some v) : GlobalIs mg mb x v :=
  .inr ⟨(ns_eq KX B.g hk x).trans e, hn, hb⟩
theorem fnAt_ok {a : Addr} {fd : FuncData} (KX : K.In h) (e : fnAt K a = some fd) : ∃ o, h.get? a = some o ∧ o.data = .func fd ∧ o.cls = .type "function" :=
  (Su.of e rfl : Su (fnAt K a) (· = fd)).bnde fun o e k => onFunc_ok k fun fd' hd k => k.grd fun hc k => ⟨o, KX _ _ e, by rw [hd, (k : fd' = fd)], isTy_ok hc⟩
theorem fn_of {a : Addr} {sc : Scope} {body : List Stmt} {P : FuncData → Prop} (KX : K.In h) (e : fnMore K a = some (sc, .stmts body, mainGlobals, builtinsNs, [], true)) (hs : sc.isCoroutine = false ∧ sc.isGenerator = false ∧ sc.kind = .function)
    (hp : ∀ fd, fnAt K a = some fd → P fd) : ∃ fd, FnAt h a fd sc body ∧ P fd :=
  (Su.of e rfl : Su (fnMore K a) (· = (sc, .stmts body, mainGlobals, builtinsNs, [], true))).bnde fun fd e1 k => by
    have k : (fd.scope, fd.body, fd.globals, fd.builtins, fd.closure, codeIn K fd.code fd.qualname) = (sc, .stmts body, mainGlobals, builtinsNs, [], true) := k
    simp only [Prod.mk.injEq] at k
    obtain ⟨k1, k2, k3, k4, k5, k6⟩ := k
    obtain ⟨o, ho, hd, _⟩ := fnAt_ok KX e1
    exact ⟨fd, ⟨⟨o, ho, hd⟩, k1, k2, k3, k4, k5, codeRec_of KX k6, hs.1, hs.2.1, hs.2.2⟩, hp fd e1⟩
/-- the binding, by the picture's function -/
noncomputable def bindK (K : Frag) (a : Addr) (vals : List Value) : Option (Sem (List (Str × Value))) := bnd (fnAt K a) fun fd => some (bindArgs fd ⟨vals, []⟩)
theorem bindK_ok {a fd vals r} (e : fnAt K a = some fd) (h : bindK K a vals = some r) : bindArgs fd ⟨vals, []⟩ = r := by
  unfold bindK at h
  rw [e] at h
  exact Option.some.inj h
noncomputable def allV : Nat → (List Value → Prop) → Prop := fun n => Nat.rec (motive := fun _ => (List Value → Prop) → Prop) (fun P => P []) (fun _ ih P => ∀ a, ih fun l => P (a :: l)) n
theorem allV_ok : ∀ {n : Nat} {P : List Value → Prop}, allV n P → ∀ l, l.length = n → P l
  | 0, P, h, l, e => by rw [List.eq_nil_of_length_eq_zero e]; exact h
  | n + 1, P, h, l, e => by cases l with
    | nil => cases e
    | cons a l => exact allV_ok (P := fun l => P (a :: l)) (h a) l (Nat.succ.inj e)
theorem fnOK_of {a : Addr} {sc : Scope} {body : List Stmt} {params : List Str} (KX : K.In h) (e : fnMore K a = some (sc, .stmts body, mainGlobals, builtinsNs, [], true)) (hs : sc.isCoroutine = false ∧ sc.isGenerator = false ∧ sc.kind = .function)
    (hb : allV params.length fun vals => bindK K a vals = some (pure (params.zip vals))) : FnOK h a sc body params :=
  fn_of KX e hs fun fd e vals hl => bindK_ok e (allV_ok hb vals hl)
theorem meth_of {mN : Str → Option Value} {n : Str} {a : Addr} (KX : K.In h) (e : mN n = some (.ref a)) (e2 : (fnAt K a).isSome = true) : MethAt h mN n a := by
  obtain ⟨fd, e2⟩ := Option.isSome_iff_exists.mp e2
  obtain ⟨o, ho, hd, hc⟩ := fnAt_ok KX e2
  exact ⟨e, o, fd, ho, hd, hc⟩
theorem pat_of {a : Addr} {code : Array Nat} (KX : K.In h) (e : patAt K a code = true) : PatAt h a code :=
  (su_some e).bnde fun o e1 k => onFields_ok k fun vs hd k => consV_ok k fun p l1 v1 k => consV_ok k fun fl l2 v2 k => consV_ok k fun z l3 v3 k => consV_ok k fun n1 l4 v4 k => consV_ok k fun n2 l5 v5 k => consV_ok k fun r l6 v6 k => consV_ok k fun z' l7 v7 k => nilV_ok k fun v8 k => onRef_ok k fun c hr k => k.bnde fun oc e2 k => onItems_ok k fun items n hi k => k.grd fun hc _ => by
    simp only [Bool.and_eq_true] at hc
    obtain ⟨⟨⟨⟨⟨⟨h1, h2⟩, h3⟩, h4⟩, h5⟩, h6⟩, h7⟩ := hc
    obtain ⟨t, rfl⟩ := isP0_ok h3
    obtain ⟨t', rfl⟩ := isP0_ok h6
    cases isNo_ok h4
    cases isNo_ok h5
    have hv : vs = #[p, fl, .int 0 t, .none, .none, .ref c, .int 0 t'] := Array.toList_inj.mp (by rw [v1, v2, v3, v4, v5, v6, v7, v8, hr])
    rw [hv] at hd
    exact ⟨o, p, fl, t, c, t', oc, items, n, KX _ _ e1, isTy_ok h1, Option.isNone_iff_eq_none.mp h2, hd, KX _ _ e2, hi, of_decide_eq_true h7⟩
theorem vis_of {σ h W} : ∀ {vs : List Value} {as : List Int}, IntsAre vs as → VRs σ h W (as.map AV.int) vs
  | _, _, .nil => .nil
  | _, _, .cons _ _ r => .cons (.imm (.int _ _)) (vis_of r)
noncomputable def fixL (a : Nat) (xs : List AV) : Fix := fun b => match Nat.beq a b with
  | true => some xs
  | false => none
theorem fix_of {a : Addr} {vs : List Value} {as : List Int} (hl : h.IsList a vs.toArray) (hv : IntsAre vs as) : FixOK h (fixL a (as.map AV.int)) := fun b xs e => by
  unfold fixL at e
  cases q : Nat.beq a b with
  | false => rw [q] at e; cases e
  | true =>
    rw [q] at e
    cases e
    cases Nat.eq_of_beq_eq_true q
    exact ⟨vs.toArray, hl, fun σ h W => vis_of hv⟩
end
end
end Mine
end

section
open PySem PySem.W PyProof.Rows
namespace Mine
noncomputable section
noncomputable def okP (a b : Nat) : Nat → Bool := fun i => Nat.beq i a || Nat.beq i b
theorem okP_ok {h : Heap} {a b c1 c2} (p1 : PatAt h a c1) (p2 : PatAt h b c2) (i : Nat) (hi : okP a b i = true) : ∃ code, PatAt h i code :=
  (Bool.or_eq_true_iff.mp hi).elim (fun q => Nat.eq_of_beq_eq_true q ▸ ⟨_, p1⟩) fun q => Nat.eq_of_beq_eq_true q ▸ ⟨_, p2⟩
theorem FnOK.keep {M h0 a sc body params} (D : FnOK h0 a sc body params) : KeepOK M h0 (.ref a) := let ⟨_, D, _⟩ := D; D.keep
noncomputable abbrev pC : List Str := ["self", "value", "name"]
/-- a method with one name, add_header's, __init__ -/
noncomputable def ConvOK (h : Heap) (a : Addr) (sc : Scope) (body : List Stmt) : Prop := ∃ fd, FnAt h a fd sc body ∧ ∀ vals kvals : List Value, vals.length + 1 = 3 → kvals.length = 1 → bindArgs fd ⟨vals, [("name" : Str)].zip kvals⟩ = pure (pC.zip (vals ++ kvals))
noncomputable def AddOK (h : Heap) (a : Addr) (sc : Scope) (body : List Stmt) : Prop := ∃ fd, FnAt h a fd sc body ∧ ∀ a b c : Value, bindArgs fd ⟨[a, b, c], []⟩ = (alloc emptyDict >>= fun x => pure (pA.zip [a, b, c, .ref x]))
noncomputable def InitOK (h : Heap) (a : Addr) (sc : Scope) (body : List Stmt) : Prop := ∃ (fd : FuncData) (Td : Addr) (od : Obj) (n : Nat) (kk : Value → Option (Array Value) → Sem (List (Str × Value))), FnAt h a fd sc body ∧ fd.defaults = .ref Td ∧ h.get? Td = some od ∧ od.data = .seq #[.none] n ∧
  (∀ v, bindArgs fd ⟨[v], []⟩ = seqItems? fd.defaults >>= kk v) ∧ ∀ v, kk v (some #[.none]) = pure (pI.zip [v, .none])
section
variable {K : Frag} {h : Heap} {a : Addr} {sc : Scope} {body : List Stmt}
noncomputable abbrev PlainFn (K : Frag) (a : Addr) (sc : Scope) (body : List Stmt) : Prop := fnMore K a = some (sc, .stmts body, mainGlobals, builtinsNs, [], true)
noncomputable abbrev PlainSc (sc : Scope) : Prop := sc.isCoroutine = false ∧ sc.isGenerator = false ∧ sc.kind = .function
theorem conv_of (KX : K.In h) (e : PlainFn K a sc body) (hs : PlainSc sc) (hb : ∀ x y z, (bnd (fnAt K a) fun fd => some (bindArgs fd ⟨[x, y], [("name", z)]⟩)) = some (pure (pC.zip [x, y, z]))) : ConvOK h a sc body :=
  fn_of KX e hs fun fd e vals kvals hv hk => allV_ok (n := 2) (P := fun vals => bindArgs fd ⟨vals, [("name" : Str)].zip kvals⟩ = pure (pC.zip (vals ++ kvals)))
    (fun x y => allV_ok (n := 1) (P := fun kvals => bindArgs fd ⟨[x, y], [("name" : Str)].zip kvals⟩ = pure (pC.zip ([x, y] ++ kvals))) (fun z => by
      have := hb x y z
      rw [e] at this
      exact Option.some.inj this) kvals hk) vals (Nat.succ.inj hv)
theorem add_of (KX : K.In h) (e : PlainFn K a sc body) (hs : PlainSc sc) (hb : ∀ x y z, bindK K a [x, y, z] = some (alloc emptyDict >>= fun d => pure (pA.zip [x, y, z, .ref d]))) : AddOK h a sc body :=
  fn_of KX e hs fun fd e x y z => bindK_ok e (hb x y z)
end
end
end Mine
end

section
open PySem PySem.W PyProof.Rows
set_option maxRecDepth 100000
set_option maxHeartbeats 4000000
namespace Mine
open RX
noncomputable section
noncomputable def bd_rgb_to_hls : List Stmt := bodyOf (stAt PySem.Challenge.pw_ty0050_01 3)
noncomputable def sc_rgb_to_hls : Scope := scopeOf (stAt PySem.Challenge.pw_ty0050_01 3)
noncomputable abbrev P_rgb_to_hls : List Str := [(Str.ofString "r"), (Str.ofString "g"), (Str.ofString "b")]
noncomputable abbrev M_rgb_to_hls : List Str := [(Str.ofString "maxc"), (Str.ofString "minc"), (Str.ofString "sumc"), (Str.ofString "rangec"), (Str.ofString "l"), (Str.ofString "s"), (Str.ofString "rc"), (Str.ofString "gc"), (Str.ofString "bc"), (Str.ofString "h")]
theorem so_rgb_to_hls : SlotsOK sc_rgb_to_hls (P_rgb_to_hls ++ M_rgb_to_hls) := slotsOK_of (by decide +kernel)
theorem po_rgb_to_hls : ParOK sc_rgb_to_hls P_rgb_to_hls M_rgb_to_hls := parOK_of (by decide +kernel)

noncomputable def bd_rgb_to_hsv : List Stmt := bodyOf (stAt PySem.Challenge.pw_ty0050_01 4)
noncomputable def sc_rgb_to_hsv : Scope := scopeOf (stAt PySem.Challenge.pw_ty0050_01 4)
noncomputable abbrev P_rgb_to_hsv : List Str := [(Str.ofString "r"), (Str.ofString "g"), (Str.ofString "b")]
noncomputable abbrev M_rgb_to_hsv : List Str := [(Str.ofString "maxc"), (Str.ofString "minc"), (Str.ofString "rangec"), (Str.ofString "v"), (Str.ofString "s"), (Str.ofString "rc"), (Str.ofString "gc"), (Str.ofString "bc"), (Str.ofString "h")]
theorem so_rgb_to_hsv : SlotsOK sc_rgb_to_hsv (P_rgb_to_hsv ++ M_rgb_to_hsv) := slotsOK_of (by decide +kernel)
theorem po_rgb_to_hsv : ParOK sc_rgb_to_hsv P_rgb_to_hsv M_rgb_to_hsv := parOK_of (by decide +kernel)

noncomputable def bd_hsv_to_rgb : List Stmt := bodyOf (stAt PySem.Challenge.pw_ty0050_01 5)
noncomputable def sc_hsv_to_rgb : Scope := scopeOf (stAt PySem.Challenge.pw_ty0050_01 5)
noncomputable abbrev P_hsv_to_rgb : List Str := [(Str.ofString "h"), (Str.ofString "s"), (Str.ofString "v")]
noncomputable abbrev M_hsv_to_rgb : List Str := [(Str.ofString "i"), (Str.ofString "f"), (Str.ofString "p"), (Str.ofString "q"), (Str.ofString "t")]
theorem so_hsv_to_rgb : SlotsOK sc_hsv_to_rgb (P_hsv_to_rgb ++ M_hsv_to_rgb) := slotsOK_of (by decide +kernel)
theorem po_hsv_to_rgb : ParOK sc_hsv_to_rgb P_hsv_to_rgb M_hsv_to_rgb := parOK_of (by decide +kernel)

noncomputable def bd__ellipsis_match : List Stmt := bodyOf (stAt PySem.Challenge.pw_ty0050_01 8)
noncomputable def sc__ellipsis_match : Scope := scopeOf (stAt PySem.Challenge.pw_ty0050_01 8)
noncomputable abbrev P__ellipsis_match : List Str := [(Str.ofString "want"), (Str.ofString "got")]
noncomputable abbrev M__ellipsis_match : List Str := [(Str.ofString "ws"), (Str.ofString "startpos"), (Str.ofString "endpos"), (Str.ofString "w")]
theorem so__ellipsis_match : SlotsOK sc__ellipsis_match (P__ellipsis_match ++ M__ellipsis_match) := slotsOK_of (by decide +kernel)
theorem po__ellipsis_match : ParOK sc__ellipsis_match P__ellipsis_match M__ellipsis_match := parOK_of (by decide +kernel)

noncomputable def bd_quotedata : List Stmt := bodyOf (stAt PySem.Challenge.pw_ty0050_01 13)
noncomputable def sc_quotedata : Scope := scopeOf (stAt PySem.Challenge.pw_ty0050_01 13)
noncomputable abbrev P_quotedata : List Str := [(Str.ofString "data")]
noncomputable abbrev M_quotedata : List Str := []
theorem so_quotedata : SlotsOK sc_quotedata (P_quotedata ++ M_quotedata) := slotsOK_of (by decide +kernel)
theorem po_quotedata : ParOK sc_quotedata P_quotedata M_quotedata := parOK_of (by decide +kernel)

noncomputable def bd___init__ : List Stmt := bodyOf (inCls PySem.Challenge.pw_ty0050_01 19 0)
noncomputable def sc___init__ : Scope := scopeOf (inCls PySem.Challenge.pw_ty0050_01 19 0)
noncomputable abbrev P___init__ : List Str := [(Str.ofString "self"), (Str.ofString "headers")]
noncomputable abbrev M___init__ : List Str := [(Str.ofString "k"), (Str.ofString "v")]
theorem so___init__ : SlotsOK sc___init__ (P___init__ ++ M___init__) := slotsOK_of (by decide +kernel)
theorem po___init__ : ParOK sc___init__ P___init__ M___init__ := parOK_of (by decide +kernel)

noncomputable def bd__convert_string_type : List Stmt := bodyOf (inCls PySem.Challenge.pw_ty0050_01 19 1)
noncomputable def sc__convert_string_type : Scope := scopeOf (inCls PySem.Challenge.pw_ty0050_01 19 1)
noncomputable abbrev P__convert_string_type : List Str := [(Str.ofString "self"), (Str.ofString "value"), (Str.ofString "name")]
noncomputable abbrev M__convert_string_type : List Str := [(Str.ofString "regex")]
theorem so__convert_string_type : SlotsOK sc__convert_string_type (P__convert_string_type ++ M__convert_string_type) := slotsOK_of (by decide +kernel)
theorem po__convert_string_type : ParOK sc__convert_string_type P__convert_string_type M__convert_string_type := parOK_of (by decide +kernel)

noncomputable def bd_get_all : List Stmt := bodyOf (inCls PySem.Challenge.pw_ty0050_01 19 7)
noncomputable def sc_get_all : Scope := scopeOf (inCls PySem.Challenge.pw_ty0050_01 19 7)
noncomputable abbrev P_get_all : List Str := [(Str.ofString "self"), (Str.ofString "name")]
noncomputable abbrev M_get_all : List Str := []
theorem so_get_all : SlotsOK sc_get_all (P_get_all ++ M_get_all) := slotsOK_of (by decide +kernel)
theorem po_get_all : ParOK sc_get_all P_get_all M_get_all := parOK_of (by decide +kernel)

noncomputable def bd___str__ : List Stmt := bodyOf (inCls PySem.Challenge.pw_ty0050_01 19 13)
noncomputable def sc___str__ : Scope := scopeOf (inCls PySem.Challenge.pw_ty0050_01 19 13)
noncomputable abbrev P___str__ : List Str := [(Str.ofString "self")]
noncomputable abbrev M___str__ : List Str := []
theorem so___str__ : SlotsOK sc___str__ (P___str__ ++ M___str__) := slotsOK_of (by decide +kernel)
theorem po___str__ : ParOK sc___str__ P___str__ M___str__ := parOK_of (by decide +kernel)

noncomputable def bd_add_header : List Stmt := bodyOf (inCls PySem.Challenge.pw_ty0050_01 19 16)
noncomputable def sc_add_header : Scope := scopeOf (inCls PySem.Challenge.pw_ty0050_01 19 16)
noncomputable abbrev P_add_header : List Str := [(Str.ofString "self"), (Str.ofString "_name"), (Str.ofString "_value"), (Str.ofString "_params")]
noncomputable abbrev M_add_header : List Str := [(Str.ofString "parts"), (Str.ofString "k"), (Str.ofString "v")]
theorem so_add_header : SlotsOK sc_add_header (P_add_header ++ M_add_header) := slotsOK_of (by decide +kernel)
theorem po_add_header : ParOK sc_add_header P_add_header M_add_header := parOK_of (by decide +kernel)

noncomputable def bd__law_told : List Stmt := bodyOf (stAt PySem.Challenge.pw_ty0050_01 21)
noncomputable def sc__law_told : Scope := scopeOf (stAt PySem.Challenge.pw_ty0050_01 21)
noncomputable abbrev P__law_told : List Str := [(Str.ofString "paint")]
noncomputable abbrev M__law_told : List Str := [(Str.ofString "hue"), (Str.ofString "share"), (Str.ofString "value")]
theorem so__law_told : SlotsOK sc__law_told (P__law_told ++ M__law_told) := slotsOK_of (by decide +kernel)
theorem po__law_told : ParOK sc__law_told P__law_told M__law_told := parOK_of (by decide +kernel)

noncomputable def bd__law_run : List Stmt := bodyOf (stAt PySem.Challenge.pw_ty0050_01 22)
noncomputable def sc__law_run : Scope := scopeOf (stAt PySem.Challenge.pw_ty0050_01 22)
noncomputable abbrev P__law_run : List Str := [(Str.ofString "paints"), (Str.ofString "log")]
noncomputable abbrev M__law_run : List Str := [(Str.ofString "rows"), (Str.ofString "k"), (Str.ofString "third"), (Str.ofString "mails"), (Str.ofString "turn"), (Str.ofString "seen"), (Str.ofString "later"), (Str.ofString "mail"), (Str.ofString "twelfth"), (Str.ofString "share"), (Str.ofString "value"), (Str.ofString "ahead"), (Str.ofString "sent")]
theorem so__law_run : SlotsOK sc__law_run (P__law_run ++ M__law_run) := slotsOK_of (by decide +kernel)
theorem po__law_run : ParOK sc__law_run P__law_run M__law_run := parOK_of (by decide +kernel)

noncomputable def bd__law_heights : List Stmt := bodyOf (stAt PySem.Challenge.pw_ty0050_01 23)
noncomputable def sc__law_heights : Scope := scopeOf (stAt PySem.Challenge.pw_ty0050_01 23)
noncomputable abbrev P__law_heights : List Str := [(Str.ofString "thirds")]
noncomputable abbrev M__law_heights : List Str := [(Str.ofString "heights"), (Str.ofString "k")]
theorem so__law_heights : SlotsOK sc__law_heights (P__law_heights ++ M__law_heights) := slotsOK_of (by decide +kernel)
theorem po__law_heights : ParOK sc__law_heights P__law_heights M__law_heights := parOK_of (by decide +kernel)

noncomputable def bd__law_highest : List Stmt := bodyOf (stAt PySem.Challenge.pw_ty0050_01 24)
noncomputable def sc__law_highest : Scope := scopeOf (stAt PySem.Challenge.pw_ty0050_01 24)
noncomputable abbrev P__law_highest : List Str := [(Str.ofString "heights"), (Str.ofString "place"), (Str.ofString "reach")]
noncomputable abbrev M__law_highest : List Str := [(Str.ofString "rise")]
theorem so__law_highest : SlotsOK sc__law_highest (P__law_highest ++ M__law_highest) := slotsOK_of (by decide +kernel)
theorem po__law_highest : ParOK sc__law_highest P__law_highest M__law_highest := parOK_of (by decide +kernel)

noncomputable def bd__law_due : List Stmt := bodyOf (stAt PySem.Challenge.pw_ty0050_01 25)
noncomputable def sc__law_due : Scope := scopeOf (stAt PySem.Challenge.pw_ty0050_01 25)
noncomputable abbrev P__law_due : List Str := [(Str.ofString "heights"), (Str.ofString "levels")]
noncomputable abbrev M__law_due : List Str := [(Str.ofString "k"), (Str.ofString "lines"), (Str.ofString "mails"), (Str.ofString "n"), (Str.ofString "mail"), (Str.ofString "dots")]
theorem so__law_due : SlotsOK sc__law_due (P__law_due ++ M__law_due) := slotsOK_of (by decide +kernel)
theorem po__law_due : ParOK sc__law_due P__law_due M__law_due := parOK_of (by decide +kernel)

noncomputable def bd__law_parts : List Stmt := bodyOf (stAt PySem.Challenge.pw_ty0050_01 26)
noncomputable def sc__law_parts : Scope := scopeOf (stAt PySem.Challenge.pw_ty0050_01 26)
noncomputable abbrev P__law_parts : List Str := [(Str.ofString "twelfth"), (Str.ofString "share"), (Str.ofString "value")]
noncomputable abbrev M__law_parts : List Str := [(Str.ofString "parts"), (Str.ofString "corner"), (Str.ofString "way")]
theorem so__law_parts : SlotsOK sc__law_parts (P__law_parts ++ M__law_parts) := slotsOK_of (by decide +kernel)
theorem po__law_parts : ParOK sc__law_parts P__law_parts M__law_parts := parOK_of (by decide +kernel)

noncomputable def bd_law : List Stmt := bodyOf (stAt PySem.Challenge.pw_ty0050_01 27)
noncomputable def sc_law : Scope := scopeOf (stAt PySem.Challenge.pw_ty0050_01 27)
noncomputable abbrev P_law : List Str := [(Str.ofString "script")]
noncomputable abbrev M_law : List Str := [(Str.ofString "bases"), (Str.ofString "k"), (Str.ofString "numbers"), (Str.ofString "draws"), (Str.ofString "log"), (Str.ofString "first"), (Str.ofString "mails"), (Str.ofString "last"), (Str.ofString "heights"), (Str.ofString "levels"), (Str.ofString "text"), (Str.ofString "gone"), (Str.ofString "shown"), (Str.ofString "marks"), (Str.ofString "twelfth")]
theorem so_law : SlotsOK sc_law (P_law ++ M_law) := slotsOK_of (by decide +kernel)
theorem po_law : ParOK sc_law P_law M_law := parOK_of (by decide +kernel)

structure Cx (X : Wd) (N : Addr) (T : Tab) (K : Frag) (mN mg mb : Str → Option Value) : Prop where
  B : Base X.h0 mg mb
  TO : TabOK X.σ T
  TI : TabInt X.σ T
  KX : K.In X.h0
  cls : ClsOK X N mN
  hdr : HdrK K X.C 121
  s_str : findIn K (.ref X.C) "__str__" = some (some (.ref 203))
  s_fn : isFn K (.ref 203) = true
  p1 : PatAt X.h0 71 R1
  p2 : PatAt X.h0 76 R2
  pN : PatAt X.h0 93 RN
  pV : PatAt X.h0 98 RV
  g_max : GlobalIs mg mb "max" (.builtin "max")
  g_min : GlobalIs mg mb "min" (.builtin "min")
  g_len : GlobalIs mg mb "len" (.builtin "len")
  g_sum : GlobalIs mg mb "sum" (.builtin "sum")
  g_int : GlobalIs mg mb "int" (.type "int")
  g_range : GlobalIs mg mb "range" (.type "range")
  g_type : GlobalIs mg mb "type" (.type "type")
  g_str : GlobalIs mg mb "str" (.type "str")
  g_list : GlobalIs mg mb "list" (.type "list")
  g_Headers : GlobalIs mg mb "Headers" (.ref X.C)
  g_ELLIPSIS_MARKER : ∃ t, GlobalIs mg mb "ELLIPSIS_MARKER" (.str ⟨#[46, 46, 46]⟩ t)
  g_CRLF : ∃ t, GlobalIs mg mb "CRLF" (.str ⟨#[13, 10]⟩ t)
  g__twin_re_1 : GlobalIs mg mb "_twin_re_1" (.ref 71)
  g__twin_re_2 : GlobalIs mg mb "_twin_re_2" (.ref 76)
  g__name_disallowed_re : GlobalIs mg mb "_name_disallowed_re" (.ref 93)
  g__value_disallowed_re : GlobalIs mg mb "_value_disallowed_re" (.ref 98)
  fn_rgb_to_hls : FnOK X.h0 45 sc_rgb_to_hls bd_rgb_to_hls P_rgb_to_hls
  g_rgb_to_hls : GlobalIs mg mb "rgb_to_hls" (.ref 45)
  fn_rgb_to_hsv : FnOK X.h0 52 sc_rgb_to_hsv bd_rgb_to_hsv P_rgb_to_hsv
  g_rgb_to_hsv : GlobalIs mg mb "rgb_to_hsv" (.ref 52)
  fn_hsv_to_rgb : FnOK X.h0 59 sc_hsv_to_rgb bd_hsv_to_rgb P_hsv_to_rgb
  g_hsv_to_rgb : GlobalIs mg mb "hsv_to_rgb" (.ref 59)
  fn__ellipsis_match : FnOK X.h0 66 sc__ellipsis_match bd__ellipsis_match P__ellipsis_match
  g__ellipsis_match : GlobalIs mg mb "_ellipsis_match" (.ref 66)
  fn_quotedata : FnOK X.h0 83 sc_quotedata bd_quotedata P_quotedata
  g_quotedata : GlobalIs mg mb "quotedata" (.ref 83)
  m___init__ : MethAt X.h0 mN "__init__" 121
  m__convert_string_type : MethAt X.h0 mN "_convert_string_type" 128
  fn_get_all : FnOK X.h0 166 sc_get_all bd_get_all P_get_all
  m_get_all : MethAt X.h0 mN "get_all" 166
  fn___str__ : FnOK X.h0 203 sc___str__ bd___str__ P___str__
  m___str__ : MethAt X.h0 mN "__str__" 203
  m_add_header : MethAt X.h0 mN "add_header" 224
  fn__law_told : FnOK X.h0 238 sc__law_told bd__law_told P__law_told
  g__law_told : GlobalIs mg mb "_law_told" (.ref 238)
  fn__law_run : FnOK X.h0 243 sc__law_run bd__law_run P__law_run
  g__law_run : GlobalIs mg mb "_law_run" (.ref 243)
  fn__law_heights : FnOK X.h0 250 sc__law_heights bd__law_heights P__law_heights
  g__law_heights : GlobalIs mg mb "_law_heights" (.ref 250)
  fn__law_highest : FnOK X.h0 255 sc__law_highest bd__law_highest P__law_highest
  g__law_highest : GlobalIs mg mb "_law_highest" (.ref 255)
  fn__law_due : FnOK X.h0 260 sc__law_due bd__law_due P__law_due
  g__law_due : GlobalIs mg mb "_law_due" (.ref 260)
  fn__law_parts : FnOK X.h0 267 sc__law_parts bd__law_parts P__law_parts
  g__law_parts : GlobalIs mg mb "_law_parts" (.ref 267)
  fn_law : FnOK X.h0 272 sc_law bd_law P_law
  fn__convert_string_type : ConvOK X.h0 128 sc__convert_string_type bd__convert_string_type
  fn_add_header : AddOK X.h0 224 sc_add_header bd_add_header
  fn___init__ : InitOK X.h0 121 sc___init__ bd___init__

end
end Mine
end

section
open PySem PySem.W PyProof.Rows
set_option maxRecDepth 100000
set_option maxHeartbeats 4000000
namespace Mine
open RX
noncomputable section
section
variable {X : Wd} {N : Addr} {T : Tab} {K : Frag} {mN mg mb : Str → Option Value}
noncomputable def φ_rgb_to_hls (T : Tab) : φS :=
    (consB (assignS (callE maxF (consEs (getE 0) (consEs (getE 1) (consEs (getE 2) nilEs)))) (nameA 3))
    (consB (assignS (callE minF (consEs (getE 0) (consEs (getE 1) (consEs (getE 2) nilEs)))) (nameA 4))
    (consB (assignS (binE T .Add (getE 3) (getE 4)) (nameA 5))
    (consB (assignS (binE T .Sub (getE 3) (getE 4)) (nameA 6))
    (consB (assignS (binE T .Div (getE 5) (constE (.flt 0x4000000000000000))) (nameA 7))
    (consB (ifS (cmpT T .Eq (getE 4) (getE 3))
    (consB (retS (tupE (consEs (constE (.flt 0x0000000000000000)) (consEs (getE 7) (consEs (constE (.flt 0x0000000000000000)) nilEs)))))
    nilB)
    nilB)
    (consB (ifS (cmpT T .LtE (getE 7) (constE (.flt 0x3fe0000000000000)))
    (consB (assignS (binE T .Div (getE 6) (getE 5)) (nameA 8))
    nilB)
    (consB (assignS (binE T .Div (getE 6) (binE T .Sub (binE T .Sub (constE (.flt 0x4000000000000000)) (getE 3)) (getE 4))) (nameA 8))
    nilB))
    (consB (assignS (binE T .Div (binE T .Sub (getE 3) (getE 0)) (getE 6)) (nameA 9))
    (consB (assignS (binE T .Div (binE T .Sub (getE 3) (getE 1)) (getE 6)) (nameA 10))
    (consB (assignS (binE T .Div (binE T .Sub (getE 3) (getE 2)) (getE 6)) (nameA 11))
    (consB (ifS (cmpT T .Eq (getE 0) (getE 3))
    (consB (assignS (binE T .Sub (getE 11) (getE 10)) (nameA 12))
    nilB)
    (consB (ifS (cmpT T .Eq (getE 1) (getE 3))
    (consB (assignS (binE T .Sub (binE T .Add (constE (.flt 0x4000000000000000)) (getE 9)) (getE 11)) (nameA 12))
    nilB)
    (consB (assignS (binE T .Sub (binE T .Add (constE (.flt 0x4010000000000000)) (getE 10)) (getE 9)) (nameA 12))
    nilB))
    nilB))
    (consB (assignS (binE T .Mod (binE T .Div (getE 12) (constE (.flt 0x4018000000000000))) (constE (.flt 0x3ff0000000000000))) (nameA 12))
    (consB (retS (tupE (consEs (getE 12) (consEs (getE 7) (consEs (getE 8) nilEs)))))
    nilB)))))))))))))
noncomputable def F_rgb_to_hls (T : Tab) : FF := defF 3 10 (φ_rgb_to_hls T)
theorem sb_rgb_to_hls (c : Cx X N T K mN mg mb) : SoundB X 0 sc_rgb_to_hls (P_rgb_to_hls ++ M_rgb_to_hls) bd_rgb_to_hls (φ_rgb_to_hls T) :=
    (sound_consB (sound_assign (fun _ _ => rfl) (fun _ _ => rfl) (fun _ => rfl) (sound_call c.B (by decide +kernel) c.g_max (by decide) keep_builtin soundF_max (sound_cons (fun _ => rfl) (sound_name 0 rfl (by decide)) (sound_cons (fun _ => rfl) (sound_name 1 rfl (by decide)) (sound_cons (fun _ => rfl) (sound_name 2 rfl (by decide)) sound_nil)))) (soundA_name so_rgb_to_hls 3 (by decide) rfl (by decide +kernel)))
    (sound_consB (sound_assign (fun _ _ => rfl) (fun _ _ => rfl) (fun _ => rfl) (sound_call c.B (by decide +kernel) c.g_min (by decide) keep_builtin soundF_min (sound_cons (fun _ => rfl) (sound_name 0 rfl (by decide)) (sound_cons (fun _ => rfl) (sound_name 1 rfl (by decide)) (sound_cons (fun _ => rfl) (sound_name 2 rfl (by decide)) sound_nil)))) (soundA_name so_rgb_to_hls 4 (by decide) rfl (by decide +kernel)))
    (sound_consB (sound_assign (fun _ _ => rfl) (fun _ _ => rfl) (fun _ => rfl) (sound_bin c.TO (sound_name 3 rfl (by decide)) (sound_name 4 rfl (by decide))) (soundA_name so_rgb_to_hls 5 (by decide) rfl (by decide +kernel)))
    (sound_consB (sound_assign (fun _ _ => rfl) (fun _ _ => rfl) (fun _ => rfl) (sound_bin c.TO (sound_name 3 rfl (by decide)) (sound_name 4 rfl (by decide))) (soundA_name so_rgb_to_hls 6 (by decide) rfl (by decide +kernel)))
    (sound_consB (sound_assign (fun _ _ => rfl) (fun _ _ => rfl) (fun _ => rfl) (sound_bin c.TO (sound_name 5 rfl (by decide)) (sound_float)) (soundA_name so_rgb_to_hls 7 (by decide) rfl (by decide +kernel)))
    (sound_consB (sound_if (sound_cmpT c.TO rfl (sound_name 4 rfl (by decide)) (sound_name 3 rfl (by decide)))
    (sound_consB (sound_ret (sound_tup (sound_cons (fun _ => rfl) (sound_float) (sound_cons (fun _ => rfl) (sound_name 7 rfl (by decide)) (sound_cons (fun _ => rfl) (sound_float) sound_nil)))))
    sound_nilB)
    sound_nilB)
    (sound_consB (sound_if (sound_cmpT c.TO rfl (sound_name 7 rfl (by decide)) (sound_float))
    (sound_consB (sound_assign (fun _ _ => rfl) (fun _ _ => rfl) (fun _ => rfl) (sound_bin c.TO (sound_name 6 rfl (by decide)) (sound_name 5 rfl (by decide))) (soundA_name so_rgb_to_hls 8 (by decide) rfl (by decide +kernel)))
    sound_nilB)
    (sound_consB (sound_assign (fun _ _ => rfl) (fun _ _ => rfl) (fun _ => rfl) (sound_bin c.TO (sound_name 6 rfl (by decide)) (sound_bin c.TO (sound_bin c.TO (sound_float) (sound_name 3 rfl (by decide))) (sound_name 4 rfl (by decide)))) (soundA_name so_rgb_to_hls 8 (by decide) rfl (by decide +kernel)))
    sound_nilB))
    (sound_consB (sound_assign (fun _ _ => rfl) (fun _ _ => rfl) (fun _ => rfl) (sound_bin c.TO (sound_bin c.TO (sound_name 3 rfl (by decide)) (sound_name 0 rfl (by decide))) (sound_name 6 rfl (by decide))) (soundA_name so_rgb_to_hls 9 (by decide) rfl (by decide +kernel)))
    (sound_consB (sound_assign (fun _ _ => rfl) (fun _ _ => rfl) (fun _ => rfl) (sound_bin c.TO (sound_bin c.TO (sound_name 3 rfl (by decide)) (sound_name 1 rfl (by decide))) (sound_name 6 rfl (by decide))) (soundA_name so_rgb_to_hls 10 (by decide) rfl (by decide +kernel)))
    (sound_consB (sound_assign (fun _ _ => rfl) (fun _ _ => rfl) (fun _ => rfl) (sound_bin c.TO (sound_bin c.TO (sound_name 3 rfl (by decide)) (sound_name 2 rfl (by decide))) (sound_name 6 rfl (by decide))) (soundA_name so_rgb_to_hls 11 (by decide) rfl (by decide +kernel)))
    (sound_consB (sound_if (sound_cmpT c.TO rfl (sound_name 0 rfl (by decide)) (sound_name 3 rfl (by decide)))
    (sound_consB (sound_assign (fun _ _ => rfl) (fun _ _ => rfl) (fun _ => rfl) (sound_bin c.TO (sound_name 11 rfl (by decide)) (sound_name 10 rfl (by decide))) (soundA_name so_rgb_to_hls 12 (by decide) rfl (by decide +kernel)))
    sound_nilB)
    (sound_consB (sound_if (sound_cmpT c.TO rfl (sound_name 1 rfl (by decide)) (sound_name 3 rfl (by decide)))
    (sound_consB (sound_assign (fun _ _ => rfl) (fun _ _ => rfl) (fun _ => rfl) (sound_bin c.TO (sound_bin c.TO (sound_float) (sound_name 9 rfl (by decide))) (sound_name 11 rfl (by decide))) (soundA_name so_rgb_to_hls 12 (by decide) rfl (by decide +kernel)))
    sound_nilB)
    (sound_consB (sound_assign (fun _ _ => rfl) (fun _ _ => rfl) (fun _ => rfl) (sound_bin c.TO (sound_bin c.TO (sound_float) (sound_name 10 rfl (by decide))) (sound_name 9 rfl (by decide))) (soundA_name so_rgb_to_hls 12 (by decide) rfl (by decide +kernel)))
    sound_nilB))
    sound_nilB))
    (sound_consB (sound_assign (fun _ _ => rfl) (fun _ _ => rfl) (fun _ => rfl) (sound_bin c.TO (sound_bin c.TO (sound_name 12 rfl (by decide)) (sound_float)) (sound_float)) (soundA_name so_rgb_to_hls 12 (by decide) rfl (by decide +kernel)))
    (sound_consB (sound_ret (sound_tup (sound_cons (fun _ => rfl) (sound_name 12 rfl (by decide)) (sound_cons (fun _ => rfl) (sound_name 7 rfl (by decide)) (sound_cons (fun _ => rfl) (sound_name 8 rfl (by decide)) sound_nil)))))
    sound_nilB)))))))))))))
theorem sf_rgb_to_hls (c : Cx X N T K mN mg mb) : SoundF X 1 (.ref 45) (F_rgb_to_hls T) :=
  let ⟨_, D, hb⟩ := c.fn_rgb_to_hls
  sound_def (params := P_rgb_to_hls) (more := M_rgb_to_hls) c.B D po_rgb_to_hls hb (sb_rgb_to_hls c)

noncomputable def φ_rgb_to_hsv (T : Tab) : φS :=
    (consB (assignS (callE maxF (consEs (getE 0) (consEs (getE 1) (consEs (getE 2) nilEs)))) (nameA 3))
    (consB (assignS (callE minF (consEs (getE 0) (consEs (getE 1) (consEs (getE 2) nilEs)))) (nameA 4))
    (consB (assignS (binE T .Sub (getE 3) (getE 4)) (nameA 5))
    (consB (assignS (getE 3) (nameA 6))
    (consB (ifS (cmpT T .Eq (getE 4) (getE 3))
    (consB (retS (tupE (consEs (constE (.flt 0x0000000000000000)) (consEs (constE (.flt 0x0000000000000000)) (consEs (getE 6) nilEs)))))
    nilB)
    nilB)
    (consB (assignS (binE T .Div (getE 5) (getE 3)) (nameA 7))
    (consB (assignS (binE T .Div (binE T .Sub (getE 3) (getE 0)) (getE 5)) (nameA 8))
    (consB (assignS (binE T .Div (binE T .Sub (getE 3) (getE 1)) (getE 5)) (nameA 9))
    (consB (assignS (binE T .Div (binE T .Sub (getE 3) (getE 2)) (getE 5)) (nameA 10))
    (consB (ifS (cmpT T .Eq (getE 0) (getE 3))
    (consB (assignS (binE T .Sub (getE 10) (getE 9)) (nameA 11))
    nilB)
    (consB (ifS (cmpT T .Eq (getE 1) (getE 3))
    (consB (assignS (binE T .Sub (binE T .Add (constE (.flt 0x4000000000000000)) (getE 8)) (getE 10)) (nameA 11))
    nilB)
    (consB (assignS (binE T .Sub (binE T .Add (constE (.flt 0x4010000000000000)) (getE 9)) (getE 8)) (nameA 11))
    nilB))
    nilB))
    (consB (assignS (binE T .Mod (binE T .Div (getE 11) (constE (.flt 0x4018000000000000))) (constE (.flt 0x3ff0000000000000))) (nameA 11))
    (consB (retS (tupE (consEs (getE 11) (consEs (getE 7) (consEs (getE 6) nilEs)))))
    nilB))))))))))))
noncomputable def F_rgb_to_hsv (T : Tab) : FF := defF 3 9 (φ_rgb_to_hsv T)
theorem sb_rgb_to_hsv (c : Cx X N T K mN mg mb) : SoundB X 0 sc_rgb_to_hsv (P_rgb_to_hsv ++ M_rgb_to_hsv) bd_rgb_to_hsv (φ_rgb_to_hsv T) :=
    (sound_consB (sound_assign (fun _ _ => rfl) (fun _ _ => rfl) (fun _ => rfl) (sound_call c.B (by decide +kernel) c.g_max (by decide) keep_builtin soundF_max (sound_cons (fun _ => rfl) (sound_name 0 rfl (by decide)) (sound_cons (fun _ => rfl) (sound_name 1 rfl (by decide)) (sound_cons (fun _ => rfl) (sound_name 2 rfl (by decide)) sound_nil)))) (soundA_name so_rgb_to_hsv 3 (by decide) rfl (by decide +kernel)))
    (sound_consB (sound_assign (fun _ _ => rfl) (fun _ _ => rfl) (fun _ => rfl) (sound_call c.B (by decide +kernel) c.g_min (by decide) keep_builtin soundF_min (sound_cons (fun _ => rfl) (sound_name 0 rfl (by decide)) (sound_cons (fun _ => rfl) (sound_name 1 rfl (by decide)) (sound_cons (fun _ => rfl) (sound_name 2 rfl (by decide)) sound_nil)))) (soundA_name so_rgb_to_hsv 4 (by decide) rfl (by decide +kernel)))
    (sound_consB (sound_assign (fun _ _ => rfl) (fun _ _ => rfl) (fun _ => rfl) (sound_bin c.TO (sound_name 3 rfl (by decide)) (sound_name 4 rfl (by decide))) (soundA_name so_rgb_to_hsv 5 (by decide) rfl (by decide +kernel)))
    (sound_consB (sound_assign (fun _ _ => rfl) (fun _ _ => rfl) (fun _ => rfl) (sound_name 3 rfl (by decide)) (soundA_name so_rgb_to_hsv 6 (by decide) rfl (by decide +kernel)))
    (sound_consB (sound_if (sound_cmpT c.TO rfl (sound_name 4 rfl (by decide)) (sound_name 3 rfl (by decide)))
    (sound_consB (sound_ret (sound_tup (sound_cons (fun _ => rfl) (sound_float) (sound_cons (fun _ => rfl) (sound_float) (sound_cons (fun _ => rfl) (sound_name 6 rfl (by decide)) sound_nil)))))
    sound_nilB)
    sound_nilB)
    (sound_consB (sound_assign (fun _ _ => rfl) (fun _ _ => rfl) (fun _ => rfl) (sound_bin c.TO (sound_name 5 rfl (by decide)) (sound_name 3 rfl (by decide))) (soundA_name so_rgb_to_hsv 7 (by decide) rfl (by decide +kernel)))
    (sound_consB (sound_assign (fun _ _ => rfl) (fun _ _ => rfl) (fun _ => rfl) (sound_bin c.TO (sound_bin c.TO (sound_name 3 rfl (by decide)) (sound_name 0 rfl (by decide))) (sound_name 5 rfl (by decide))) (soundA_name so_rgb_to_hsv 8 (by decide) rfl (by decide +kernel)))
    (sound_consB (sound_assign (fun _ _ => rfl) (fun _ _ => rfl) (fun _ => rfl) (sound_bin c.TO (sound_bin c.TO (sound_name 3 rfl (by decide)) (sound_name 1 rfl (by decide))) (sound_name 5 rfl (by decide))) (soundA_name so_rgb_to_hsv 9 (by decide) rfl (by decide +kernel)))
    (sound_consB (sound_assign (fun _ _ => rfl) (fun _ _ => rfl) (fun _ => rfl) (sound_bin c.TO (sound_bin c.TO (sound_name 3 rfl (by decide)) (sound_name 2 rfl (by decide))) (sound_name 5 rfl (by decide))) (soundA_name so_rgb_to_hsv 10 (by decide) rfl (by decide +kernel)))
    (sound_consB (sound_if (sound_cmpT c.TO rfl (sound_name 0 rfl (by decide)) (sound_name 3 rfl (by decide)))
    (sound_consB (sound_assign (fun _ _ => rfl) (fun _ _ => rfl) (fun _ => rfl) (sound_bin c.TO (sound_name 10 rfl (by decide)) (sound_name 9 rfl (by decide))) (soundA_name so_rgb_to_hsv 11 (by decide) rfl (by decide +kernel)))
    sound_nilB)
    (sound_consB (sound_if (sound_cmpT c.TO rfl (sound_name 1 rfl (by decide)) (sound_name 3 rfl (by decide)))
    (sound_consB (sound_assign (fun _ _ => rfl) (fun _ _ => rfl) (fun _ => rfl) (sound_bin c.TO (sound_bin c.TO (sound_float) (sound_name 8 rfl (by decide))) (sound_name 10 rfl (by decide))) (soundA_name so_rgb_to_hsv 11 (by decide) rfl (by decide +kernel)))
    sound_nilB)
    (sound_consB (sound_assign (fun _ _ => rfl) (fun _ _ => rfl) (fun _ => rfl) (sound_bin c.TO (sound_bin c.TO (sound_float) (sound_name 9 rfl (by decide))) (sound_name 8 rfl (by decide))) (soundA_name so_rgb_to_hsv 11 (by decide) rfl (by decide +kernel)))
    sound_nilB))
    sound_nilB))
    (sound_consB (sound_assign (fun _ _ => rfl) (fun _ _ => rfl) (fun _ => rfl) (sound_bin c.TO (sound_bin c.TO (sound_name 11 rfl (by decide)) (sound_float)) (sound_float)) (soundA_name so_rgb_to_hsv 11 (by decide) rfl (by decide +kernel)))
    (sound_consB (sound_ret (sound_tup (sound_cons (fun _ => rfl) (sound_name 11 rfl (by decide)) (sound_cons (fun _ => rfl) (sound_name 7 rfl (by decide)) (sound_cons (fun _ => rfl) (sound_name 6 rfl (by decide)) sound_nil)))))
    sound_nilB))))))))))))
theorem sf_rgb_to_hsv (c : Cx X N T K mN mg mb) : SoundF X 1 (.ref 52) (F_rgb_to_hsv T) :=
  let ⟨_, D, hb⟩ := c.fn_rgb_to_hsv
  sound_def (params := P_rgb_to_hsv) (more := M_rgb_to_hsv) c.B D po_rgb_to_hsv hb (sb_rgb_to_hsv c)

noncomputable def φ_hsv_to_rgb (T : Tab) : φS :=
    (consB (ifS (cmpT T .Eq (getE 1) (constE (.flt 0x0000000000000000)))
    (consB (retS (tupE (consEs (getE 2) (consEs (getE 2) (consEs (getE 2) nilEs)))))
    nilB)
    nilB)
    (consB (assignS (callE (intF T) (consEs (binE T .Mult (getE 0) (constE (.flt 0x4018000000000000))) nilEs)) (nameA 3))
    (consB (assignS (binE T .Sub (binE T .Mult (getE 0) (constE (.flt 0x4018000000000000))) (getE 3)) (nameA 4))
    (consB (assignS (binE T .Mult (getE 2) (binE T .Sub (constE (.flt 0x3ff0000000000000)) (getE 1))) (nameA 5))
    (consB (assignS (binE T .Mult (getE 2) (binE T .Sub (constE (.flt 0x3ff0000000000000)) (binE T .Mult (getE 1) (getE 4)))) (nameA 6))
    (consB (assignS (binE T .Mult (getE 2) (binE T .Sub (constE (.flt 0x3ff0000000000000)) (binE T .Mult (getE 1) (binE T .Sub (constE (.flt 0x3ff0000000000000)) (getE 4))))) (nameA 7))
    (consB (assignS (binE T .Mod (getE 3) (constE (.int (6)))) (nameA 3))
    (consB (ifS (cmpT T .Eq (getE 3) (constE (.int (0))))
    (consB (retS (tupE (consEs (getE 2) (consEs (getE 7) (consEs (getE 5) nilEs)))))
    nilB)
    nilB)
    (consB (ifS (cmpT T .Eq (getE 3) (constE (.int (1))))
    (consB (retS (tupE (consEs (getE 6) (consEs (getE 2) (consEs (getE 5) nilEs)))))
    nilB)
    nilB)
    (consB (ifS (cmpT T .Eq (getE 3) (constE (.int (2))))
    (consB (retS (tupE (consEs (getE 5) (consEs (getE 2) (consEs (getE 7) nilEs)))))
    nilB)
    nilB)
    (consB (ifS (cmpT T .Eq (getE 3) (constE (.int (3))))
    (consB (retS (tupE (consEs (getE 5) (consEs (getE 6) (consEs (getE 2) nilEs)))))
    nilB)
    nilB)
    (consB (ifS (cmpT T .Eq (getE 3) (constE (.int (4))))
    (consB (retS (tupE (consEs (getE 7) (consEs (getE 5) (consEs (getE 2) nilEs)))))
    nilB)
    nilB)
    (consB (ifS (cmpT T .Eq (getE 3) (constE (.int (5))))
    (consB (retS (tupE (consEs (getE 2) (consEs (getE 5) (consEs (getE 6) nilEs)))))
    nilB)
    nilB)
    nilB)))))))))))))
noncomputable def F_hsv_to_rgb (T : Tab) : FF := defF 3 5 (φ_hsv_to_rgb T)
theorem sb_hsv_to_rgb (c : Cx X N T K mN mg mb) : SoundB X 0 sc_hsv_to_rgb (P_hsv_to_rgb ++ M_hsv_to_rgb) bd_hsv_to_rgb (φ_hsv_to_rgb T) :=
    (sound_consB (sound_if (sound_cmpT c.TO rfl (sound_name 1 rfl (by decide)) (sound_float))
    (sound_consB (sound_ret (sound_tup (sound_cons (fun _ => rfl) (sound_name 2 rfl (by decide)) (sound_cons (fun _ => rfl) (sound_name 2 rfl (by decide)) (sound_cons (fun _ => rfl) (sound_name 2 rfl (by decide)) sound_nil)))))
    sound_nilB)
    sound_nilB)
    (sound_consB (sound_assign (fun _ _ => rfl) (fun _ _ => rfl) (fun _ => rfl) (sound_call c.B (by decide +kernel) c.g_int (by decide) keep_type (soundF_int c.TI) (sound_cons (fun _ => rfl) (sound_bin c.TO (sound_name 0 rfl (by decide)) (sound_float)) sound_nil)) (soundA_name so_hsv_to_rgb 3 (by decide) rfl (by decide +kernel)))
    (sound_consB (sound_assign (fun _ _ => rfl) (fun _ _ => rfl) (fun _ => rfl) (sound_bin c.TO (sound_bin c.TO (sound_name 0 rfl (by decide)) (sound_float)) (sound_name 3 rfl (by decide))) (soundA_name so_hsv_to_rgb 4 (by decide) rfl (by decide +kernel)))
    (sound_consB (sound_assign (fun _ _ => rfl) (fun _ _ => rfl) (fun _ => rfl) (sound_bin c.TO (sound_name 2 rfl (by decide)) (sound_bin c.TO (sound_float) (sound_name 1 rfl (by decide)))) (soundA_name so_hsv_to_rgb 5 (by decide) rfl (by decide +kernel)))
    (sound_consB (sound_assign (fun _ _ => rfl) (fun _ _ => rfl) (fun _ => rfl) (sound_bin c.TO (sound_name 2 rfl (by decide)) (sound_bin c.TO (sound_float) (sound_bin c.TO (sound_name 1 rfl (by decide)) (sound_name 4 rfl (by decide))))) (soundA_name so_hsv_to_rgb 6 (by decide) rfl (by decide +kernel)))
    (sound_consB (sound_assign (fun _ _ => rfl) (fun _ _ => rfl) (fun _ => rfl) (sound_bin c.TO (sound_name 2 rfl (by decide)) (sound_bin c.TO (sound_float) (sound_bin c.TO (sound_name 1 rfl (by decide)) (sound_bin c.TO (sound_float) (sound_name 4 rfl (by decide)))))) (soundA_name so_hsv_to_rgb 7 (by decide) rfl (by decide +kernel)))
    (sound_consB (sound_assign (fun _ _ => rfl) (fun _ _ => rfl) (fun _ => rfl) (sound_bin c.TO (sound_name 3 rfl (by decide)) (sound_int)) (soundA_name so_hsv_to_rgb 3 (by decide) rfl (by decide +kernel)))
    (sound_consB (sound_if (sound_cmpT c.TO rfl (sound_name 3 rfl (by decide)) (sound_int))
    (sound_consB (sound_ret (sound_tup (sound_cons (fun _ => rfl) (sound_name 2 rfl (by decide)) (sound_cons (fun _ => rfl) (sound_name 7 rfl (by decide)) (sound_cons (fun _ => rfl) (sound_name 5 rfl (by decide)) sound_nil)))))
    sound_nilB)
    sound_nilB)
    (sound_consB (sound_if (sound_cmpT c.TO rfl (sound_name 3 rfl (by decide)) (sound_int))
    (sound_consB (sound_ret (sound_tup (sound_cons (fun _ => rfl) (sound_name 6 rfl (by decide)) (sound_cons (fun _ => rfl) (sound_name 2 rfl (by decide)) (sound_cons (fun _ => rfl) (sound_name 5 rfl (by decide)) sound_nil)))))
    sound_nilB)
    sound_nilB)
    (sound_consB (sound_if (sound_cmpT c.TO rfl (sound_name 3 rfl (by decide)) (sound_int))
    (sound_consB (sound_ret (sound_tup (sound_cons (fun _ => rfl) (sound_name 5 rfl (by decide)) (sound_cons (fun _ => rfl) (sound_name 2 rfl (by decide)) (sound_cons (fun _ => rfl) (sound_name 7 rfl (by decide)) sound_nil)))))
    sound_nilB)
    sound_nilB)
    (sound_consB (sound_if (sound_cmpT c.TO rfl (sound_name 3 rfl (by decide)) (sound_int))
    (sound_consB (sound_ret (sound_tup (sound_cons (fun _ => rfl) (sound_name 5 rfl (by decide)) (sound_cons (fun _ => rfl) (sound_name 6 rfl (by decide)) (sound_cons (fun _ => rfl) (sound_name 2 rfl (by decide)) sound_nil)))))
    sound_nilB)
    sound_nilB)
    (sound_consB (sound_if (sound_cmpT c.TO rfl (sound_name 3 rfl (by decide)) (sound_int))
    (sound_consB (sound_ret (sound_tup (sound_cons (fun _ => rfl) (sound_name 7 rfl (by decide)) (sound_cons (fun _ => rfl) (sound_name 5 rfl (by decide)) (sound_cons (fun _ => rfl) (sound_name 2 rfl (by decide)) sound_nil)))))
    sound_nilB)
    sound_nilB)
    (sound_consB (sound_if (sound_cmpT c.TO rfl (sound_name 3 rfl (by decide)) (sound_int))
    (sound_consB (sound_ret (sound_tup (sound_cons (fun _ => rfl) (sound_name 2 rfl (by decide)) (sound_cons (fun _ => rfl) (sound_name 5 rfl (by decide)) (sound_cons (fun _ => rfl) (sound_name 6 rfl (by decide)) sound_nil)))))
    sound_nilB)
    sound_nilB)
    sound_nilB)))))))))))))
theorem sf_hsv_to_rgb (c : Cx X N T K mN mg mb) : SoundF X 1 (.ref 59) (F_hsv_to_rgb T) :=
  let ⟨_, D, hb⟩ := c.fn_hsv_to_rgb
  sound_def (params := P_hsv_to_rgb) (more := M_hsv_to_rgb) c.B D po_hsv_to_rgb hb (sb_hsv_to_rgb c)

noncomputable def φ__ellipsis_match (T : Tab) : φS :=
    (consB (ifS (cmpT T .NotIn (constE (.str ⟨#[46, 46, 46]⟩)) (getE 0))
    (consB (retS (cmpE T .Eq (getE 0) (getE 1)))
    nilB)
    nilB)
    (consB (assignS (strMethE splitF (getE 0) (consEs (constE (.str ⟨#[46, 46, 46]⟩)) nilEs)) (nameA 2))
    (consB (assertS (cmpT T .GtE (callE lenF (consEs (getE 2) nilEs)) (constE (.int (2)))))
    (consB (swapS (tupE (consEs (constE (.int (0))) (consEs (callE lenF (consEs (getE 1) nilEs)) nilEs))) 3 4)
    (consB (assignS (idxE (getE 2) (constE (.int (0)))) (nameA 5))
    (consB (ifS (truT (getE 5))
    (consB (ifS (truT (strMethE startswithF (getE 1) (consEs (getE 5) nilEs)))
    failS
    (consB (retS (constE (.bool false)))
    nilB))
    nilB)
    nilB)
    (consB (assignS (idxE (getE 2) (negE (constE (.int (1))))) (nameA 5))
    (consB (ifS (truT (getE 5))
    (consB (ifS (truT (strMethE endswithF (getE 1) (consEs (getE 5) nilEs)))
    failS
    (consB (retS (constE (.bool false)))
    nilB))
    nilB)
    nilB)
    (consB (ifS (cmpT T .Gt (getE 3) (getE 4))
    (consB (retS (constE (.bool false)))
    nilB)
    nilB)
    (consB (forS 80 (lstI (getE 2)) (nameA 5)
    (consB (assignS (strMethE findF (getE 1) (consEs (getE 5) (consEs (getE 3) (consEs (getE 4) nilEs)))) (nameA 3))
    (consB (ifS (cmpT T .Lt (getE 3) (constE (.int (0))))
    (consB (retS (constE (.bool false)))
    nilB)
    nilB)
    (consB (augS (callE lenF (consEs (getE 5) nilEs)) 3)
    nilB))))
    (consB (retS (constE (.bool true)))
    nilB)))))))))))
noncomputable def F__ellipsis_match (T : Tab) : FF := defF 2 4 (φ__ellipsis_match T)
theorem sb__ellipsis_match (c : Cx X N T K mN mg mb) : SoundB X 0 sc__ellipsis_match (P__ellipsis_match ++ M__ellipsis_match) bd__ellipsis_match (φ__ellipsis_match T) :=
    (sound_consB (sound_if (sound_cmpT c.TO rfl (sound_globalStr c.B (by decide +kernel) c.g_ELLIPSIS_MARKER (by decide)) (sound_name 0 rfl (by decide)))
    (sound_consB (sound_ret (sound_cmp c.TO rfl (sound_name 0 rfl (by decide)) (sound_name 1 rfl (by decide))))
    sound_nilB)
    sound_nilB)
    (sound_consB (sound_assign (fun _ _ => rfl) (fun _ _ => rfl) (fun _ => rfl) (sound_strMeth PySem.F.slot_str_split PySem.F.type_str_split soundF_split (sound_name 0 rfl (by decide)) (sound_cons (fun _ => rfl) (sound_globalStr c.B (by decide +kernel) c.g_ELLIPSIS_MARKER (by decide)) sound_nil) (fun _ => rfl) rfl (by decide)) (soundA_name so__ellipsis_match 2 (by decide) rfl (by decide +kernel)))
    (sound_consB (sound_assert (sound_cmpT c.TO rfl (sound_call c.B (by decide +kernel) c.g_len (by decide) keep_builtin soundF_len (sound_cons (fun _ => rfl) (sound_name 2 rfl (by decide)) sound_nil)) (sound_int)))
    (sound_consB (sound_assignSwap so__ellipsis_match 3 4 rfl rfl (by decide +kernel) (by decide +kernel) (fun _ _ => rfl) (fun _ ok => swapped_ok ok (by decide +kernel) (by decide +kernel) rfl (by decide +kernel) rfl (by decide +kernel) (by decide +kernel)) (sound_tup (sound_cons (fun _ => rfl) (sound_int) (sound_cons (fun _ => rfl) (sound_call c.B (by decide +kernel) c.g_len (by decide) keep_builtin soundF_len (sound_cons (fun _ => rfl) (sound_name 1 rfl (by decide)) sound_nil)) sound_nil))))
    (sound_consB (sound_assign (fun _ _ => rfl) (fun _ _ => rfl) (fun _ => rfl) (sound_idx (fun _ _ => rfl) (sound_name 2 rfl (by decide)) (sound_int)) (soundA_name so__ellipsis_match 5 (by decide) rfl (by decide +kernel)))
    (sound_consB (sound_if (sound_tru (fun _ _ => rfl) (sound_name 5 rfl (by decide)))
    (sound_consB (sound_if (sound_tru (fun _ _ => rfl) (sound_strMeth PySem.F.slot_str_startswith PySem.F.type_str_startswith soundF_startswith (sound_name 1 rfl (by decide)) (sound_cons (fun _ => rfl) (sound_name 5 rfl (by decide)) sound_nil) (fun _ => rfl) rfl (by decide)))
    failBl
    (sound_consB (sound_ret (sound_true))
    sound_nilB))
    sound_nilB)
    sound_nilB)
    (sound_consB (sound_assign (fun _ _ => rfl) (fun _ _ => rfl) (fun _ => rfl) (sound_idx (fun _ _ => rfl) (sound_name 2 rfl (by decide)) (sound_neg (sound_int))) (soundA_name so__ellipsis_match 5 (by decide) rfl (by decide +kernel)))
    (sound_consB (sound_if (sound_tru (fun _ _ => rfl) (sound_name 5 rfl (by decide)))
    (sound_consB (sound_if (sound_tru (fun _ _ => rfl) (sound_strMeth PySem.F.slot_str_endswith PySem.F.type_str_endswith soundF_endswith (sound_name 1 rfl (by decide)) (sound_cons (fun _ => rfl) (sound_name 5 rfl (by decide)) sound_nil) (fun _ => rfl) rfl (by decide)))
    failBl
    (sound_consB (sound_ret (sound_true))
    sound_nilB))
    sound_nilB)
    sound_nilB)
    (sound_consB (sound_if (sound_cmpT c.TO rfl (sound_name 3 rfl (by decide)) (sound_name 4 rfl (by decide)))
    (sound_consB (sound_ret (sound_true))
    sound_nilB)
    sound_nilB)
    (sound_consB (sound_for 80 (fun _ _ => rfl) (sound_lstI (sound_name 2 rfl (by decide))) (soundA_name so__ellipsis_match 5 (by decide) rfl (by decide +kernel))
    (sound_consB (sound_assign (fun _ _ => rfl) (fun _ _ => rfl) (fun _ => rfl) (sound_strMeth PySem.F.slot_str_find PySem.F.type_str_find soundF_find (sound_name 1 rfl (by decide)) (sound_cons (fun _ => rfl) (sound_name 5 rfl (by decide)) (sound_cons (fun _ => rfl) (sound_name 3 rfl (by decide)) (sound_cons (fun _ => rfl) (sound_name 4 rfl (by decide)) sound_nil))) (fun _ => rfl) rfl (by decide)) (soundA_name so__ellipsis_match 3 (by decide) rfl (by decide +kernel)))
    (sound_consB (sound_if (sound_cmpT c.TO rfl (sound_name 3 rfl (by decide)) (sound_int))
    (sound_consB (sound_ret (sound_true))
    sound_nilB)
    sound_nilB)
    (sound_consB (sound_aug so__ellipsis_match 3 rfl (by decide +kernel) (sound_call c.B (by decide +kernel) c.g_len (by decide) keep_builtin soundF_len (sound_cons (fun _ => rfl) (sound_name 5 rfl (by decide)) sound_nil)))
    sound_nilB))))
    (sound_consB (sound_ret (sound_true))
    sound_nilB)))))))))))
theorem sf__ellipsis_match (c : Cx X N T K mN mg mb) : SoundF X 1 (.ref 66) (F__ellipsis_match T) :=
  let ⟨_, D, hb⟩ := c.fn__ellipsis_match
  sound_def (params := P__ellipsis_match) (more := M__ellipsis_match) c.B D po__ellipsis_match hb (sb__ellipsis_match c)

noncomputable def φ_quotedata (T : Tab) : φS :=
    (consB (retS (fixMethE (okP 71 76) (subF 71 76) (constE (.fix 71)) (consEs (constE (.str ⟨#[46, 46]⟩)) (consEs (fixMethE (okP 71 76) (subF 71 76) (constE (.fix 76)) (consEs (constE (.str ⟨#[13, 10]⟩)) (consEs (getE 0) nilEs))) nilEs))))
    nilB)
noncomputable def F_quotedata (T : Tab) : FF := defF 1 0 (φ_quotedata T)
theorem sb_quotedata (c : Cx X N T K mN mg mb) : SoundB X 0 sc_quotedata (P_quotedata ++ M_quotedata) bd_quotedata (φ_quotedata T) :=
    (sound_consB (sound_ret (sound_patMeth RF.slot_sub RF.type_sub (soundF_sub c.p1 c.p2) (okP_ok c.p1 c.p2) (sound_globalFix c.B (by decide +kernel) c.g__twin_re_1 (by decide)) (sound_cons (fun _ => rfl) (sound_str (by decide +kernel)) (sound_cons (fun _ => rfl) (sound_patMeth RF.slot_sub RF.type_sub (soundF_sub c.p1 c.p2) (okP_ok c.p1 c.p2) (sound_globalFix c.B (by decide +kernel) c.g__twin_re_2 (by decide)) (sound_cons (fun _ => rfl) (sound_globalStr c.B (by decide +kernel) c.g_CRLF (by decide)) (sound_cons (fun _ => rfl) (sound_name 0 rfl (by decide)) sound_nil)) (fun _ => rfl) rfl (by decide)) sound_nil)) (fun _ => rfl) rfl (by decide)))
    sound_nilB)
theorem sf_quotedata (c : Cx X N T K mN mg mb) : SoundF X 1 (.ref 83) (F_quotedata T) :=
  let ⟨_, D, hb⟩ := c.fn_quotedata
  sound_def (params := P_quotedata) (more := M_quotedata) c.B D po_quotedata hb (sb_quotedata c)

noncomputable def φ__law_told (T : Tab) : φS :=
    (consB (assignS (callE (F_rgb_to_hsv T) (consEs (idxE (getE 0) (constE (.int (0)))) (consEs (idxE (getE 0) (constE (.int (1)))) (consEs (idxE (getE 0) (constE (.int (2)))) nilEs)))) (tupA (consAs (nameA 1) (consAs (nameA 2) (consAs (nameA 3) nilAs)))))
    (consB (retS (tupE (consEs (callE (intF T) (consEs (binE T .Add (binE T .Mult (getE 1) (constE (.flt 0x4028000000000000))) (constE (.flt 0x3fe0000000000000))) nilEs)) (consEs (getE 2) (consEs (getE 3) nilEs)))))
    nilB))
noncomputable def F__law_told (T : Tab) : FF := defF 1 3 (φ__law_told T)
theorem sb__law_told (c : Cx X N T K mN mg mb) : SoundB X 1 sc__law_told (P__law_told ++ M__law_told) bd__law_told (φ__law_told T) :=
    (sound_consB (sound_assign (fun _ _ => rfl) (fun _ _ => rfl) (fun _ => rfl) (sound_call c.B (by decide +kernel) c.g_rgb_to_hsv (by decide) c.fn_rgb_to_hsv.keep (SoundF.up (sf_rgb_to_hsv c) (by decide)) (sound_cons (fun _ => rfl) (sound_idx (fun _ _ => rfl) (sound_name 0 rfl (by decide)) (sound_int)) (sound_cons (fun _ => rfl) (sound_idx (fun _ _ => rfl) (sound_name 0 rfl (by decide)) (sound_int)) (sound_cons (fun _ => rfl) (sound_idx (fun _ _ => rfl) (sound_name 0 rfl (by decide)) (sound_int)) sound_nil)))) (soundA_tup (soundAs_cons (fun _ => rfl) (soundA_name so__law_told 1 (by decide) rfl (by decide +kernel)) (soundAs_cons (fun _ => rfl) (soundA_name so__law_told 2 (by decide) rfl (by decide +kernel)) (soundAs_cons (fun _ => rfl) (soundA_name so__law_told 3 (by decide) rfl (by decide +kernel)) soundAs_nil)))))
    (sound_consB (sound_ret (sound_tup (sound_cons (fun _ => rfl) (sound_call c.B (by decide +kernel) c.g_int (by decide) keep_type (soundF_int c.TI) (sound_cons (fun _ => rfl) (sound_bin c.TO (sound_bin c.TO (sound_name 1 rfl (by decide)) (sound_float)) (sound_float)) sound_nil)) (sound_cons (fun _ => rfl) (sound_name 2 rfl (by decide)) (sound_cons (fun _ => rfl) (sound_name 3 rfl (by decide)) sound_nil)))))
    sound_nilB))
theorem sf__law_told (c : Cx X N T K mN mg mb) : SoundF X 2 (.ref 238) (F__law_told T) :=
  let ⟨_, D, hb⟩ := c.fn__law_told
  sound_def (params := P__law_told) (more := M__law_told) c.B D po__law_told hb (sb__law_told c)

noncomputable def φ__law_heights (T : Tab) : φS :=
    (consB (assignS (listE (consEs (idxE (getE 0) (constE (.int (0)))) nilEs)) (nameA 1))
    (consB (forS 80 (rngI (consEs (constE (.int (1))) (consEs (constE (.int (6))) nilEs))) (nameA 2)
    (consB (exprS (lstMethE appendF (getE 1) (consEs (binE T .Sub (binE T .Add (idxE (getE 1) (binE T .Sub (getE 2) (constE (.int (1))))) (binE T .Mod (binE T .Add (binE T .Sub (idxE (getE 0) (binE T .Mod (getE 2) (constE (.int (5))))) (idxE (getE 0) (binE T .Sub (getE 2) (constE (.int (1)))))) (constE (.int (1)))) (constE (.int (3))))) (constE (.int (1)))) nilEs)))
    nilB))
    (consB (retS (getE 1))
    nilB)))
noncomputable def F__law_heights (T : Tab) : FF := defF 1 2 (φ__law_heights T)
theorem sb__law_heights (c : Cx X N T K mN mg mb) : SoundB X 0 sc__law_heights (P__law_heights ++ M__law_heights) bd__law_heights (φ__law_heights T) :=
    (sound_consB (sound_assign (fun _ _ => rfl) (fun _ _ => rfl) (fun _ => rfl) (sound_list (sound_cons (fun _ => rfl) (sound_idx (fun _ _ => rfl) (sound_name 0 rfl (by decide)) (sound_int)) sound_nil)) (soundA_name so__law_heights 1 (by decide) rfl (by decide +kernel)))
    (sound_consB (sound_for 80 (fun _ _ => rfl) (sound_rngI c.B (by decide +kernel) c.g_range (by decide) (sound_cons (fun _ => rfl) (sound_int) (sound_cons (fun _ => rfl) (sound_int) sound_nil))) (soundA_name so__law_heights 2 (by decide) rfl (by decide +kernel))
    (sound_consB (sound_expr (fun _ => rfl) (sound_lstMeth PySem.F.slot_list_append PySem.F.plainAttrs_list PySem.F.type_list_append soundF_append (sound_name 1 rfl (by decide)) (sound_cons (fun _ => rfl) (sound_bin c.TO (sound_bin c.TO (sound_idx (fun _ _ => rfl) (sound_name 1 rfl (by decide)) (sound_bin c.TO (sound_name 2 rfl (by decide)) (sound_int))) (sound_bin c.TO (sound_bin c.TO (sound_bin c.TO (sound_idx (fun _ _ => rfl) (sound_name 0 rfl (by decide)) (sound_bin c.TO (sound_name 2 rfl (by decide)) (sound_int))) (sound_idx (fun _ _ => rfl) (sound_name 0 rfl (by decide)) (sound_bin c.TO (sound_name 2 rfl (by decide)) (sound_int)))) (sound_int)) (sound_int))) (sound_int)) sound_nil) (fun _ => rfl) rfl (by decide)))
    sound_nilB))
    (sound_consB (sound_ret (sound_name 1 rfl (by decide)))
    sound_nilB)))
theorem sf__law_heights (c : Cx X N T K mN mg mb) : SoundF X 1 (.ref 250) (F__law_heights T) :=
  let ⟨_, D, hb⟩ := c.fn__law_heights
  sound_def (params := P__law_heights) (more := M__law_heights) c.B D po__law_heights hb (sb__law_heights c)

noncomputable def φ__law_highest (T : Tab) : φS :=
    (consB (assignS (binE T .Sub (idxE (getE 0) (constE (.int (5)))) (idxE (getE 0) (constE (.int (0))))) (nameA 3))
    (consB (retS (callE maxF (consEs (compE 80 2 [0, 3] (rngI (consEs (binE T .Sub (getE 1) (getE 2)) (consEs (binE T .Add (binE T .Add (getE 1) (getE 2)) (constE (.int (1)))) nilEs))) (nameA 1) yesT (binE T .Add (idxE (getE 2) (binE T .Mod (getE 1) (constE (.int (5))))) (binE T .Mult (binE T .FloorDiv (getE 1) (constE (.int (5)))) (getE 3)))) nilEs)))
    nilB))
noncomputable def F__law_highest (T : Tab) : FF := defF 3 1 (φ__law_highest T)
theorem sb__law_highest (c : Cx X N T K mN mg mb) : SoundB X 0 sc__law_highest (P__law_highest ++ M__law_highest) bd__law_highest (φ__law_highest T) :=
    (sound_consB (sound_assign (fun _ _ => rfl) (fun _ _ => rfl) (fun _ => rfl) (sound_bin c.TO (sound_idx (fun _ _ => rfl) (sound_name 0 rfl (by decide)) (sound_int)) (sound_idx (fun _ _ => rfl) (sound_name 0 rfl (by decide)) (sound_int))) (soundA_name so__law_highest 3 (by decide) rfl (by decide +kernel)))
    (sound_consB (sound_ret (sound_call c.B (by decide +kernel) c.g_max (by decide) keep_builtin soundF_max (sound_cons (fun _ => rfl) (sound_comp (own := [(Str.ofString ".0"), (Str.ofString "j")]) (caps := [((Str.ofString "heights"), 0), ((Str.ofString "rise"), 3)]) 80 (compOK_of (by decide +kernel)) (fun _ _ => rfl) (sound_rngI c.B (by decide +kernel) c.g_range (by decide) (sound_cons (fun _ => rfl) (sound_bin c.TO (sound_name 1 rfl (by decide)) (sound_name 2 rfl (by decide))) (sound_cons (fun _ => rfl) (sound_bin c.TO (sound_bin c.TO (sound_name 1 rfl (by decide)) (sound_name 2 rfl (by decide))) (sound_int)) sound_nil))) (soundA_name (slotsOK_of (by decide +kernel)) 1 (by decide) rfl (by decide +kernel)) sound_ifs_nil (sound_bin c.TO (sound_idx (fun _ _ => rfl) (sound_name 2 rfl (by decide)) (sound_bin c.TO (sound_name 1 rfl (by decide)) (sound_int))) (sound_bin c.TO (sound_bin c.TO (sound_name 1 rfl (by decide)) (sound_int)) (sound_name 3 rfl (by decide))))) sound_nil)))
    sound_nilB))
theorem sf__law_highest (c : Cx X N T K mN mg mb) : SoundF X 1 (.ref 255) (F__law_highest T) :=
  let ⟨_, D, hb⟩ := c.fn__law_highest
  sound_def (params := P__law_highest) (more := M__law_highest) c.B D po__law_highest hb (sb__law_highest c)

noncomputable def φ__law_due (T : Tab) : φS :=
    (consB (assignS (compE 80 2 [0] (rngI (consEs (constE (.int (5))) nilEs)) (nameA 1) yesT (binE T .Add (binE T .Add (binE T .Add (idxE (constE (.str ⟨#[118, 119, 120, 121, 122]⟩)) (getE 1)) (constE (.str ⟨#[58, 32]⟩))) (idxE (constE (.str ⟨#[114, 103, 98]⟩)) (binE T .Mod (idxE (getE 2) (getE 1)) (constE (.int (3)))))) (constE (.str ⟨#[13, 10]⟩)))) (nameA 3))
    (consB (assignS (listE nilEs) (nameA 4))
    (consB (forS 80 (rngI (consEs (constE (.int (3))) nilEs)) (nameA 5)
    (consB (assignS (constE (.str ⟨#[]⟩)) (nameA 6))
    (consB (forS 80 (rngI (consEs (constE (.int (5))) nilEs)) (nameA 2)
    (consB (assignS (binE T .Mult (constE (.str ⟨#[46]⟩)) (binE T .Sub (binE T .Add (binE T .Add (constE (.int (1))) (binE T .Mod (idxE (getE 0) (getE 2)) (constE (.int (3))))) (idxE (idxE (getE 1) (getE 5)) (getE 2))) (idxE (getE 0) (getE 2)))) (nameA 7))
    (consB (ifS (cmpT T .Gt (idxE (idxE (getE 1) (binE T .Add (getE 5) (constE (.int (1))))) (getE 2)) (idxE (idxE (getE 1) (getE 5)) (getE 2)))
    (consB (exprS (lstMethE appendF (getE 3) (consEs (binE T .Add (binE T .Add (binE T .Add (idxE (constE (.str ⟨#[118, 119, 120, 121, 122]⟩)) (getE 2)) (constE (.str ⟨#[58, 32]⟩))) (idxE (constE (.str ⟨#[114, 103, 98]⟩)) (binE T .Mod (idxE (idxE (getE 1) (binE T .Add (getE 5) (constE (.int (1))))) (getE 2)) (constE (.int (3)))))) (constE (.str ⟨#[13, 10]⟩))) nilEs)))
    (consB (assignS (binE T .Add (binE T .Add (binE T .Add (getE 6) (constE (.str ⟨#[46]⟩))) (getE 7)) (constE (.str ⟨#[13, 10]⟩))) (nameA 6))
    nilB))
    (consB (assignS (binE T .Add (binE T .Add (binE T .Add (getE 6) (constE (.str ⟨#[120]⟩))) (getE 7)) (constE (.str ⟨#[13, 10]⟩))) (nameA 6))
    nilB))
    nilB)))
    (consB (exprS (lstMethE appendF (getE 4) (consEs (getE 6) nilEs)))
    nilB))))
    (consB (retS (tupE (consEs (getE 4) (consEs (binE T .Add (strMethE joinF (constE (.str ⟨#[]⟩)) (consEs (getE 3) nilEs)) (constE (.str ⟨#[13, 10]⟩))) nilEs))))
    nilB))))
noncomputable def F__law_due (T : Tab) : FF := defF 2 6 (φ__law_due T)
theorem sb__law_due (c : Cx X N T K mN mg mb) : SoundB X 0 sc__law_due (P__law_due ++ M__law_due) bd__law_due (φ__law_due T) :=
    (sound_consB (sound_assignComp so__law_due (own := [(Str.ofString ".0"), (Str.ofString "k")]) (caps := [((Str.ofString "heights"), 0)]) 80 (compOK_of (by decide +kernel)) 3 rfl (by decide +kernel) (fun _ ok => swaps_ok ok (by decide +kernel) rfl (by decide +kernel)) (fun _ _ => rfl) (sound_rngI c.B (by decide +kernel) c.g_range (by decide) (sound_cons (fun _ => rfl) (sound_int) sound_nil)) (soundA_name (slotsOK_of (by decide +kernel)) 1 (by decide) rfl (by decide +kernel)) sound_ifs_nil (sound_bin c.TO (sound_bin c.TO (sound_bin c.TO (sound_idx (fun _ _ => rfl) (sound_str (by decide +kernel)) (sound_name 1 rfl (by decide))) (sound_str (by decide +kernel))) (sound_idx (fun _ _ => rfl) (sound_str (by decide +kernel)) (sound_bin c.TO (sound_idx (fun _ _ => rfl) (sound_name 2 rfl (by decide)) (sound_name 1 rfl (by decide))) (sound_int)))) (sound_str (by decide +kernel))))
    (sound_consB (sound_assign (fun _ _ => rfl) (fun _ _ => rfl) (fun _ => rfl) (sound_list sound_nil) (soundA_name so__law_due 4 (by decide) rfl (by decide +kernel)))
    (sound_consB (sound_for 80 (fun _ _ => rfl) (sound_rngI c.B (by decide +kernel) c.g_range (by decide) (sound_cons (fun _ => rfl) (sound_int) sound_nil)) (soundA_name so__law_due 5 (by decide) rfl (by decide +kernel))
    (sound_consB (sound_assign (fun _ _ => rfl) (fun _ _ => rfl) (fun _ => rfl) (sound_str (by decide +kernel)) (soundA_name so__law_due 6 (by decide) rfl (by decide +kernel)))
    (sound_consB (sound_for 80 (fun _ _ => rfl) (sound_rngI c.B (by decide +kernel) c.g_range (by decide) (sound_cons (fun _ => rfl) (sound_int) sound_nil)) (soundA_name so__law_due 2 (by decide) rfl (by decide +kernel))
    (sound_consB (sound_assign (fun _ _ => rfl) (fun _ _ => rfl) (fun _ => rfl) (sound_bin c.TO (sound_str (by decide +kernel)) (sound_bin c.TO (sound_bin c.TO (sound_bin c.TO (sound_int) (sound_bin c.TO (sound_idx (fun _ _ => rfl) (sound_name 0 rfl (by decide)) (sound_name 2 rfl (by decide))) (sound_int))) (sound_idx (fun _ _ => rfl) (sound_idx (fun _ _ => rfl) (sound_name 1 rfl (by decide)) (sound_name 5 rfl (by decide))) (sound_name 2 rfl (by decide)))) (sound_idx (fun _ _ => rfl) (sound_name 0 rfl (by decide)) (sound_name 2 rfl (by decide))))) (soundA_name so__law_due 7 (by decide) rfl (by decide +kernel)))
    (sound_consB (sound_if (sound_cmpT c.TO rfl (sound_idx (fun _ _ => rfl) (sound_idx (fun _ _ => rfl) (sound_name 1 rfl (by decide)) (sound_bin c.TO (sound_name 5 rfl (by decide)) (sound_int))) (sound_name 2 rfl (by decide))) (sound_idx (fun _ _ => rfl) (sound_idx (fun _ _ => rfl) (sound_name 1 rfl (by decide)) (sound_name 5 rfl (by decide))) (sound_name 2 rfl (by decide))))
    (sound_consB (sound_expr (fun _ => rfl) (sound_lstMeth PySem.F.slot_list_append PySem.F.plainAttrs_list PySem.F.type_list_append soundF_append (sound_name 3 rfl (by decide)) (sound_cons (fun _ => rfl) (sound_bin c.TO (sound_bin c.TO (sound_bin c.TO (sound_idx (fun _ _ => rfl) (sound_str (by decide +kernel)) (sound_name 2 rfl (by decide))) (sound_str (by decide +kernel))) (sound_idx (fun _ _ => rfl) (sound_str (by decide +kernel)) (sound_bin c.TO (sound_idx (fun _ _ => rfl) (sound_idx (fun _ _ => rfl) (sound_name 1 rfl (by decide)) (sound_bin c.TO (sound_name 5 rfl (by decide)) (sound_int))) (sound_name 2 rfl (by decide))) (sound_int)))) (sound_str (by decide +kernel))) sound_nil) (fun _ => rfl) rfl (by decide)))
    (sound_consB (sound_assign (fun _ _ => rfl) (fun _ _ => rfl) (fun _ => rfl) (sound_bin c.TO (sound_bin c.TO (sound_bin c.TO (sound_name 6 rfl (by decide)) (sound_str (by decide +kernel))) (sound_name 7 rfl (by decide))) (sound_str (by decide +kernel))) (soundA_name so__law_due 6 (by decide) rfl (by decide +kernel)))
    sound_nilB))
    (sound_consB (sound_assign (fun _ _ => rfl) (fun _ _ => rfl) (fun _ => rfl) (sound_bin c.TO (sound_bin c.TO (sound_bin c.TO (sound_name 6 rfl (by decide)) (sound_str (by decide +kernel))) (sound_name 7 rfl (by decide))) (sound_str (by decide +kernel))) (soundA_name so__law_due 6 (by decide) rfl (by decide +kernel)))
    sound_nilB))
    sound_nilB)))
    (sound_consB (sound_expr (fun _ => rfl) (sound_lstMeth PySem.F.slot_list_append PySem.F.plainAttrs_list PySem.F.type_list_append soundF_append (sound_name 4 rfl (by decide)) (sound_cons (fun _ => rfl) (sound_name 6 rfl (by decide)) sound_nil) (fun _ => rfl) rfl (by decide)))
    sound_nilB))))
    (sound_consB (sound_ret (sound_tup (sound_cons (fun _ => rfl) (sound_name 4 rfl (by decide)) (sound_cons (fun _ => rfl) (sound_bin c.TO (sound_strMeth PySem.F.slot_str_join PySem.F.type_str_join soundF_join (sound_str (by decide +kernel)) (sound_cons (fun _ => rfl) (sound_name 3 rfl (by decide)) sound_nil) (fun _ => rfl) rfl (by decide)) (sound_str (by decide +kernel))) sound_nil))))
    sound_nilB))))
theorem sf__law_due (c : Cx X N T K mN mg mb) : SoundF X 1 (.ref 260) (F__law_due T) :=
  let ⟨_, D, hb⟩ := c.fn__law_due
  sound_def (params := P__law_due) (more := M__law_due) c.B D po__law_due hb (sb__law_due c)

noncomputable def φ__law_parts (T : Tab) : φS :=
    (consB (assignS (listE nilEs) (nameA 3))
    (consB (forS 80 (lstI (listE (consEs (constE (.int (0))) (consEs (constE (.int (4))) (consEs (constE (.int (8))) nilEs))))) (nameA 4)
    (consB (assignS (callE minF (consEs (binE T .Mod (binE T .Sub (getE 0) (getE 4)) (constE (.int (12)))) (consEs (binE T .Mod (binE T .Sub (getE 4) (getE 0)) (constE (.int (12)))) nilEs))) (nameA 5))
    (consB (exprS (lstMethE appendF (getE 3) (consEs (binE T .Mult (getE 2) (binE T .Sub (constE (.int (8))) (binE T .Mult (getE 1) (binE T .Sub (constE (.int (2))) (callE minF (consEs (constE (.int (2))) (consEs (callE maxF (consEs (constE (.int (0))) (consEs (binE T .Sub (constE (.int (4))) (getE 5)) nilEs))) nilEs))))))) nilEs)))
    nilB)))
    (consB (retS (getE 3))
    nilB)))
noncomputable def F__law_parts (T : Tab) : FF := defF 3 3 (φ__law_parts T)
theorem sb__law_parts (c : Cx X N T K mN mg mb) : SoundB X 0 sc__law_parts (P__law_parts ++ M__law_parts) bd__law_parts (φ__law_parts T) :=
    (sound_consB (sound_assign (fun _ _ => rfl) (fun _ _ => rfl) (fun _ => rfl) (sound_list sound_nil) (soundA_name so__law_parts 3 (by decide) rfl (by decide +kernel)))
    (sound_consB (sound_for 80 (fun _ _ => rfl) (sound_lstI (sound_list (sound_cons (fun _ => rfl) (sound_int) (sound_cons (fun _ => rfl) (sound_int) (sound_cons (fun _ => rfl) (sound_int) sound_nil))))) (soundA_name so__law_parts 4 (by decide) rfl (by decide +kernel))
    (sound_consB (sound_assign (fun _ _ => rfl) (fun _ _ => rfl) (fun _ => rfl) (sound_call c.B (by decide +kernel) c.g_min (by decide) keep_builtin soundF_min (sound_cons (fun _ => rfl) (sound_bin c.TO (sound_bin c.TO (sound_name 0 rfl (by decide)) (sound_name 4 rfl (by decide))) (sound_int)) (sound_cons (fun _ => rfl) (sound_bin c.TO (sound_bin c.TO (sound_name 4 rfl (by decide)) (sound_name 0 rfl (by decide))) (sound_int)) sound_nil))) (soundA_name so__law_parts 5 (by decide) rfl (by decide +kernel)))
    (sound_consB (sound_expr (fun _ => rfl) (sound_lstMeth PySem.F.slot_list_append PySem.F.plainAttrs_list PySem.F.type_list_append soundF_append (sound_name 3 rfl (by decide)) (sound_cons (fun _ => rfl) (sound_bin c.TO (sound_name 2 rfl (by decide)) (sound_bin c.TO (sound_int) (sound_bin c.TO (sound_name 1 rfl (by decide)) (sound_bin c.TO (sound_int) (sound_call c.B (by decide +kernel) c.g_min (by decide) keep_builtin soundF_min (sound_cons (fun _ => rfl) (sound_int) (sound_cons (fun _ => rfl) (sound_call c.B (by decide +kernel) c.g_max (by decide) keep_builtin soundF_max (sound_cons (fun _ => rfl) (sound_int) (sound_cons (fun _ => rfl) (sound_bin c.TO (sound_int) (sound_name 5 rfl (by decide))) sound_nil))) sound_nil))))))) sound_nil) (fun _ => rfl) rfl (by decide)))
    sound_nilB)))
    (sound_consB (sound_ret (sound_name 3 rfl (by decide)))
    sound_nilB)))
theorem sf__law_parts (c : Cx X N T K mN mg mb) : SoundF X 1 (.ref 267) (F__law_parts T) :=
  let ⟨_, D, hb⟩ := c.fn__law_parts
  sound_def (params := P__law_parts) (more := M__law_parts) c.B D po__law_parts hb (sb__law_parts c)

end
end
end Mine
end

section
open PySem PySem.W PyProof.Rows
set_option maxRecDepth 100000
set_option maxHeartbeats 4000000
namespace Mine
open RX
noncomputable section
section
variable {X : Wd} {N : Addr} {T : Tab} {K : Frag} {mN mg mb : Str → Option Value}
noncomputable def φ__convert_string_type (T : Tab) : φS :=
    (consB (ifS (isTypT isS true (getE 1))
    (consB (assignS (iteE (truT (getE 2)) (constE (.fix 93)) (constE (.fix 98))) (nameA 3))
    (consB (ifS (truT (fixMethE (okP 93 98) (searchF 93 98) (getE 3) (consEs (getE 1) nilEs)))
    (consB failS
    nilB)
    nilB)
    (consB (retS (getE 1))
    nilB)))
    nilB)
    (consB failS
    nilB))
noncomputable def F__convert_string_type (T : Tab) : FF := defF 3 1 (φ__convert_string_type T)
theorem sb__convert_string_type (c : Cx X N T K mN mg mb) : SoundB X 0 sc__convert_string_type (P__convert_string_type ++ M__convert_string_type) bd__convert_string_type (φ__convert_string_type T) :=
    (sound_consB (sound_if (sound_isTyp c.B typ_str true rfl (by decide +kernel) c.g_type (by decide +kernel) c.g_str (by decide) (fun _ => rfl) (sound_name 1 rfl (by decide)))
    (sound_consB (sound_assign (fun _ _ => rfl) (fun _ _ => rfl) (fun _ => rfl) (sound_ite (sound_tru (fun _ _ => rfl) (sound_name 2 rfl (by decide))) (sound_globalFix c.B (by decide +kernel) c.g__name_disallowed_re (by decide)) (sound_globalFix c.B (by decide +kernel) c.g__value_disallowed_re (by decide))) (soundA_name so__convert_string_type 3 (by decide) rfl (by decide +kernel)))
    (sound_consB (sound_if (sound_tru (fun _ _ => rfl) (sound_patMeth RF.slot_search RF.type_search (soundF_search c.pN c.pV) (okP_ok c.pN c.pV) (sound_name 3 rfl (by decide)) (sound_cons (fun _ => rfl) (sound_name 1 rfl (by decide)) sound_nil) (fun _ => rfl) rfl (by decide)))
    (sound_consB failSt
    sound_nilB)
    sound_nilB)
    (sound_consB (sound_ret (sound_name 1 rfl (by decide)))
    sound_nilB)))
    sound_nilB)
    (sound_consB failSt
    sound_nilB))
theorem sf__convert_string_type (c : Cx X N T K mN mg mb) : SoundK X 1 (.ref 128) ["name"] (F__convert_string_type T) :=
  let ⟨_, D, hb⟩ := c.fn__convert_string_type
  sound_defK (ks := ["name"]) (params := P__convert_string_type) (more := M__convert_string_type) c.B D po__convert_string_type hb (sb__convert_string_type c)

noncomputable def φi1 (T : Tab) : φS := (assignS (iteE (cmpT T .IsNot (getE 1) (constE .none)) (getE 1) (listE nilEs)) (nameA 1))
noncomputable def φi2 (T : Tab) : φS := (ifS (isTypT isL false (getE 1))
    (consB failS
    nilB)
    nilB)
noncomputable def φi4 (T : Tab) : φS := (ifS (truT (constE (.bool true)))
    (consB (forS 80 (lstI (getE 1)) (tupA (consAs (nameA 2) (consAs (nameA 3) nilAs)))
    (consB (exprS (hdrMethKE (F__convert_string_type T) (getE 0) (consEs (getE 2) nilEs) (constE (.bool true))))
    (consB (exprS (hdrMethKE (F__convert_string_type T) (getE 0) (consEs (getE 3) nilEs) (constE (.bool false))))
    nilB)))
    nilB)
    nilB)
noncomputable def okS (x : Str) : Bool := Nat.ble (lenR x.cps.toList) 20000 && allC x.cps.toList
theorem conv_run {i : Nat} {x : Str} {b : Bool} {V : VH} (h : okS x = true) : F__convert_string_type T [.hdr i, .str x, .bool b] V = some (.str x, V) := by
  have e2 : ∀ a, (Nat.beq a 93 || Nat.beq a 98) = true → ifS (truT (fixMethE (okP 93 98) (searchF 93 98) (getE 3) (consEs (getE 1) nilEs))) (consB failS nilB) nilB [some (.hdr i), some (.str x), some (.bool b), some (.fix a)] V = some (.next, [some (.hdr i), some (.str x), some (.bool b), some (.fix a)], V) := fun a ha => by
    have e1 : fixMethE (okP 93 98) (searchF 93 98) (getE 3) (consEs (getE 1) nilEs) [some (.hdr i), some (.str x), some (.bool b), some (.fix a)] V = some (.none, V) := by
      show grd (Nat.beq a 93 || Nat.beq a 98) (grd (okS x) (grd (Nat.beq a 93 || Nat.beq a 98) (some (AV.none, V)))) = _
      rw [ha, h]
      rfl
    unfold ifS truT
    rw [e1]
    rfl
  have e3 : ∀ a, (Nat.beq a 93 || Nat.beq a 98) = true → bnd (seqS (seqS (ifS (truT (fixMethE (okP 93 98) (searchF 93 98) (getE 3) (consEs (getE 1) nilEs))) (consB failS nilB) nilB [some (.hdr i), some (.str x), some (.bool b), some (.fix a)] V) (consB (retS (getE 1)) nilB)) (consB failS nilB)) (fun r => some (fvOf r.1, r.2.2)) = some (.str x, V) := fun a ha => by
    rw [e2 a ha]
    rfl
  cases b
  · exact e3 98 rfl
  · exact e3 93 rfl
theorem init1 {x : Nat} {V : VH} : φi1 T [some (.fix x), some .none, none, none] V = some (.next, [some (.fix x), some (.lst V.n), none, none], V.add []) := rfl
theorem blt_succ (n : Nat) : Nat.blt n (n + 1) = true := Nat.blt_eq.mpr (Nat.lt_succ_self _)
theorem init2 {x : Nat} {V : VH} : φi2 T [some (.fix x), some (.lst V.n), none, none] (V.add []) = some (.next, [some (.fix x), some (.lst V.n), none, none], V.add []) := by
  show bndO (grd (Nat.blt V.n (V.n + 1)) (some (false, V.add []))) _ = _
  rw [blt_succ]
  rfl
theorem for_empty {α β ev V n i N} (h : lstI (getE i) ev V = some (.lst n 0, V)) (h2 : V.get n = some []) : forS (N + 1) (lstI (getE i)) α β ev V = some (.next, ev, V) := by
  unfold forS
  rw [h]
  show bnd (bnd (V.get n) _) _ = _
  rw [h2]
  rfl
theorem init4 {x : Nat} {V : VH} : φi4 T [some (.fix x), some (.lst V.n), none, none] ((V.add []).inst V.n) = some (.next, [some (.fix x), some (.lst V.n), none, none], (V.add []).inst V.n) := by
  have e := for_empty (α := tupA (consAs (nameA 2) (consAs (nameA 3) nilAs))) (β := consB (exprS (hdrMethKE (F__convert_string_type T) (getE 0) (consEs (getE 2) nilEs) (constE (.bool true))))
    (consB (exprS (hdrMethKE (F__convert_string_type T) (getE 0) (consEs (getE 3) nilEs) (constE (.bool false)))) nilB)) (ev := [some (.fix x), some (.lst V.n), none, none]) (V := (V.add []).inst V.n) (n := V.n) (i := 1) (N := 79) (by
      show grd (Nat.blt V.n (V.n + 1)) _ = _
      rw [blt_succ]
      rfl) (VH.get_add.trans (if_pos rfl))
  exact congrArg (fun o => seqS o nilB) e
theorem sf_new (c : Cx X N T K mN mg mb) : SoundF X 4 (.ref X.C) newF :=
  let ⟨_, _, _, _, _, D, h1, h2, h3, h4, h5⟩ := c.fn___init__
  soundF_new (d := 2) (φ1 := φi1 T) (φ2 := φi2 T) (φ4 := φi4 T) c.B c.KX c.hdr D h1 h2 h3 h4 h5 po___init__
    (sound_assign (fun _ _ => rfl) (fun _ _ => rfl) (fun _ => rfl) (sound_ite (sound_cmpT c.TO rfl (sound_name 1 rfl (by decide)) (sound_none)) (sound_name 1 rfl (by decide)) (sound_list sound_nil)) (soundA_name so___init__ 1 (by decide) rfl (by decide +kernel)))
    (sound_if (sound_isTyp c.B typ_list false rfl (by decide +kernel) c.g_type (by decide +kernel) c.g_list (by decide) (fun _ => rfl) (sound_name 1 rfl (by decide)))
    (sound_consB failSt
    sound_nilB)
    sound_nilB)
    (sound_if (sound_tru (fun _ _ => rfl) (sound_true))
    (sound_consB (sound_for 80 (fun _ _ => rfl) (sound_lstI (sound_name 1 rfl (by decide))) (soundA_tup (soundAs_cons (fun _ => rfl) (soundA_name so___init__ 2 (by decide) rfl (by decide +kernel)) (soundAs_cons (fun _ => rfl) (soundA_name so___init__ 3 (by decide) rfl (by decide +kernel)) soundAs_nil)))
    (sound_consB (sound_expr (fun _ => rfl) (sound_hdrMethK c.cls c.m__convert_string_type (by decide) tl_conv (SoundK.up (sf__convert_string_type c) (by decide)) (sound_name 0 rfl (by decide)) (sound_cons (fun _ => rfl) (sound_name 2 rfl (by decide)) sound_nil) (sound_true) (fun _ => rfl) rfl (fun _ => rfl) (by decide)))
    (sound_consB (sound_expr (fun _ => rfl) (sound_hdrMethK c.cls c.m__convert_string_type (by decide) tl_conv (SoundK.up (sf__convert_string_type c) (by decide)) (sound_name 0 rfl (by decide)) (sound_cons (fun _ => rfl) (sound_name 3 rfl (by decide)) sound_nil) (sound_true) (fun _ => rfl) rfl (fun _ => rfl) (by decide)))
    sound_nilB)))
    sound_nilB)
    sound_nilB)
    (fun _ _ => init1) (fun _ _ => init2) (fun _ _ => init4)

noncomputable def φh1 (T : Tab) : φS := (assignS (listE nilEs) (nameA 4))
noncomputable def φh2 (T : Tab) : φS := (ifS (cmpT T .IsNot (getE 2) (constE .none))
    (consB (assignS (hdrMethKE (F__convert_string_type T) (getE 0) (consEs (getE 2) nilEs) (constE (.bool false))) (nameA 2))
    (consB (exprS (lstMethE appendF (getE 4) (consEs (getE 2) nilEs)))
    nilB))
    nilB)
noncomputable def φh4 (T : Tab) : φS := (exprS (lstMethE appendF (hdrE (getE 0)) (consEs (tupE (consEs (hdrMethKE (F__convert_string_type T) (getE 0) (consEs (getE 1) nilEs) (constE (.bool true))) (consEs (strMethE joinF (constE (.str ⟨#[59, 32]⟩)) (consEs (getE 4) nilEs)) nilEs))) nilEs)))

noncomputable def F_add_header (_ : Tab) : FF := fun args V => args3 args fun x y z => onHdr x fun i => onStr y fun n => onStr z fun v => grd (okS n && okS v) (bnd (getF V.os i) fun k => bnd (((V.add []).put V.n [.str v]).get k) fun xs =>
  grd (smallL xs && joinOkS ⟨#[59, 32]⟩ [v]) (forceS (joinS ⟨#[59, 32]⟩ [v]) fun w => some (.none, ((V.add []).put V.n [.str v]).put k (appR xs [.tup [.str n, .str w]]))))
theorem consEs_run {φ ψ ev V a V1 l V2} (h1 : φ ev V = some (a, V1)) (h2 : ψ ev V1 = some (l, V2)) : consEs φ ψ ev V = some (a :: l, V2) := by
  unfold consEs
  rw [h1]
  show bndO (ψ ev V1) _ = _
  rw [h2]
  rfl
theorem tupE_run {φ ev V l V1} (h1 : φ ev V = some (l, V1)) (hs : smallL l = true) : tupE φ ev V = some (.tup l, V1) := by
  unfold tupE
  rw [h1]
  show grd (smallL l) _ = _
  rw [hs]
  rfl
theorem lstMeth_run {F φ ψ ev V i V1 l V2 r} (h1 : φ ev V = some (.lst i, V1)) (hi : Nat.blt i V1.n = true) (h2 : ψ ev V1 = some (l, V2)) (h3 : F (.lst i :: l) V2 = some r) : lstMethE F φ ψ ev V = some r := by
  unfold lstMethE
  rw [h1]
  show grd (Nat.blt i V1.n) (bndO (ψ ev V1) _) = _
  rw [hi, h2]
  exact h3
theorem expr_run {φ ev V a V1} (h1 : φ ev V = some (a, V1)) : exprS φ ev V = some (.next, ev, V1) := by
  unfold exprS
  rw [h1]
  rfl
theorem addh_ok (a : Nat) (args : List AV) (V : VH) (r : AV × VH) (e : F_add_header T args V = some r) : ∃ x y z, args = [x, y, z] ∧ ∃ ev1 V1 ev2 V2 ev4, φh1 T [some x, some y, some z, some (.fix a), none, none, none] V = some (.next, ev1, V1) ∧
      φh2 T ev1 V1 = some (.next, ev2, V2) ∧ ev2[3]? = some (some (.fix a)) ∧ φh4 T ev2 V2 = some (.next, ev4, r.2) ∧ r.1 = .none :=
  args3_of (Su.of e rfl : Su (F_add_header T args V) (· = r)) fun x y z ea k => onHdr_ok k fun i e1 k => onStr_ok k fun n e2 k => onStr_ok k fun v e3 k => k.grd fun hc k => k.bnde fun k' hk k => k.bnde fun xs hx k => k.grd fun hs k9 => by
    subst ea e1 e2 e3
    rw [Bool.and_eq_true] at hc hs
    rw [forceS_eq] at k9
    have g1 : (V.add []).get V.n = some [] := VH.get_add.trans (if_pos rfl)
    have c1 : ∀ {x b V'}, okS x = true → V'.os = V.os → bnd (getF V'.os i) (fun _ => F__convert_string_type T [.hdr i, .str x, .bool b] V') = some (.str x, V') := fun h e => by rw [e, hk]; exact conv_run h
    have g2 : VH.get ((V.add []).put V.n [.str v]) V.n = some [.str v] := by
      show (match Nat.blt V.n (V.n + 1) with | true => getF (setF ([] :: V.rs) (V.n + 1 - (V.n + 1)) [.str v]) (V.n + 1 - (V.n + 1)) | false => none) = _
      rw [blt_succ, Nat.sub_self]
      rfl
    have g3 : hdrE (getE 0) [some (.hdr i), some (.str n), some (.str v), some (.fix a), some (.lst V.n), none, none] ((V.add []).put V.n [.str v]) = some (.lst k', (V.add []).put V.n [.str v]) := by
      show bnd (getF V.os i) _ = _
      rw [hk]
      rfl
    refine ⟨_, _, _, rfl, [some (.hdr i), some (.str n), some (.str v), some (.fix a), some (.lst V.n), none, none], V.add [], [some (.hdr i), some (.str n), some (.str v), some (.fix a), some (.lst V.n), none, none], (V.add []).put V.n [.str v],
      [some (.hdr i), some (.str n), some (.str v), some (.fix a), some (.lst V.n), none, none], rfl, ?_, rfl, ?_, by rw [← (k9 : _ = r)]⟩
    · show seqS (bndO (bnd (getF (V.add []).os i) (fun _ => F__convert_string_type T [.hdr i, .str v, .bool false] (V.add []))) _) _ = _
      rw [c1 (V' := V.add []) hc.2 rfl]
      show seqS (bndO (grd (Nat.blt V.n (V.n + 1)) (bnd ((V.add []).get V.n) _)) _) _ = _
      rw [blt_succ, g1]
      rfl
    · rw [← (k9 : _ = r)]
      have e5 : strMethE joinF (constE (.str ⟨#[59, 32]⟩)) (consEs (getE 4) nilEs) [some (.hdr i), some (.str n), some (.str v), some (.fix a), some (.lst V.n), none, none] ((V.add []).put V.n [.str v]) = some (.str (joinS ⟨#[59, 32]⟩ [v]), (V.add []).put V.n [.str v]) := by
        show bnd (((V.add []).put V.n [.str v]).get V.n) (fun xs => bnd (strsOf xs) fun l => grd (joinOkS ⟨#[59, 32]⟩ l) (forceS (joinS ⟨#[59, 32]⟩ l) fun y => some (AV.str y, (V.add []).put V.n [.str v]))) = _
        rw [g2]
        show grd (joinOkS ⟨#[59, 32]⟩ [v]) _ = _
        rw [hs.2]
        exact (forceS_eq : forceS (joinS ⟨#[59, 32]⟩ [v]) (fun y => some (AV.str y, (V.add []).put V.n [.str v])) = _)
      exact expr_run (lstMeth_run g3 (Nat.blt_eq.mpr (VH.get_lt hx)) (consEs_run (tupE_run (consEs_run (c1 (V' := (V.add []).put V.n [.str v]) (b := true) hc.1 rfl) (consEs_run e5 rfl)) rfl) rfl) (by
        show bnd (((V.add []).put V.n [.str v]).get k') (fun xs => grd (smallL xs) _) = _
        rw [hx]
        show grd (smallL xs) _ = _
        rw [hs.1]
        rfl))
theorem sf_add_header (c : Cx X N T K mN mg mb) : SoundF X 2 (.ref 224) (F_add_header T) :=
  let ⟨_, D, hb⟩ := c.fn_add_header
  soundF_addHeader (d := 1) (φ1 := φh1 T) (φ2 := φh2 T) (φ4 := φh4 T) c.B D hb po_add_header (fun _ _ => rfl) (fun _ => rfl) rfl
    (sound_assign (fun _ _ => rfl) (fun _ _ => rfl) (fun _ => rfl) (sound_list sound_nil) (soundA_name so_add_header 4 (by decide) rfl (by decide +kernel)))
    (sound_if (sound_cmpT c.TO rfl (sound_name 2 rfl (by decide)) (sound_none))
    (sound_consB (sound_assign (fun _ _ => rfl) (fun _ _ => rfl) (fun _ => rfl) (sound_hdrMethK c.cls c.m__convert_string_type (by decide) tl_conv (SoundK.up (sf__convert_string_type c) (by decide)) (sound_name 0 rfl (by decide)) (sound_cons (fun _ => rfl) (sound_name 2 rfl (by decide)) sound_nil) (sound_true) (fun _ => rfl) rfl (fun _ => rfl) (by decide)) (soundA_name so_add_header 2 (by decide) rfl (by decide +kernel)))
    (sound_consB (sound_expr (fun _ => rfl) (sound_lstMeth PySem.F.slot_list_append PySem.F.plainAttrs_list PySem.F.type_list_append soundF_append (sound_name 4 rfl (by decide)) (sound_cons (fun _ => rfl) (sound_name 2 rfl (by decide)) sound_nil) (fun _ => rfl) rfl (by decide)))
    sound_nilB))
    sound_nilB)
    (sound_expr (fun _ => rfl) (sound_lstMeth PySem.F.slot_list_append PySem.F.plainAttrs_list PySem.F.type_list_append soundF_append (sound_hdrAttr c.cls (sound_name 0 rfl (by decide)) (fun _ => rfl)) (sound_cons (fun _ => rfl) (sound_tup (sound_cons (fun _ => rfl) (sound_hdrMethK c.cls c.m__convert_string_type (by decide) tl_conv (SoundK.up (sf__convert_string_type c) (by decide)) (sound_name 0 rfl (by decide)) (sound_cons (fun _ => rfl) (sound_name 1 rfl (by decide)) sound_nil) (sound_true) (fun _ => rfl) rfl (fun _ => rfl) (by decide)) (sound_cons (fun _ => rfl) (sound_strMeth PySem.F.slot_str_join PySem.F.type_str_join soundF_join (sound_str (by decide +kernel)) (sound_cons (fun _ => rfl) (sound_name 4 rfl (by decide)) sound_nil) (fun _ => rfl) rfl (by decide)) sound_nil))) sound_nil) (fun _ => rfl) rfl (by decide)))
    addh_ok

noncomputable def φ_get_all (T : Tab) : φS :=
    (consB (assignS (hdrMethKE (F__convert_string_type T) (getE 0) (consEs (strMethE lowerF (getE 1) nilEs) nilEs) (constE (.bool true))) (nameA 1))
    (consB (retS (compE 80 2 [1] (lstI (hdrE (getE 0))) (nameA 1) (cmpT T .Eq (strMethE lowerF (idxE (getE 1) (constE (.int (0)))) nilEs) (getE 2)) (idxE (getE 1) (constE (.int (1))))))
    nilB))
noncomputable def F_get_all (T : Tab) : FF := defF 2 0 (φ_get_all T)
theorem sb_get_all (c : Cx X N T K mN mg mb) : SoundB X 1 sc_get_all (P_get_all ++ M_get_all) bd_get_all (φ_get_all T) :=
    (sound_consB (sound_assign (fun _ _ => rfl) (fun _ _ => rfl) (fun _ => rfl) (sound_hdrMethK c.cls c.m__convert_string_type (by decide) tl_conv (SoundK.up (sf__convert_string_type c) (by decide)) (sound_name 0 rfl (by decide)) (sound_cons (fun _ => rfl) (sound_strMeth PySem.F.slot_str_lower PySem.F.type_str_lower soundF_lower (sound_name 1 rfl (by decide)) sound_nil (fun _ => rfl) rfl (by decide)) sound_nil) (sound_true) (fun _ => rfl) rfl (fun _ => rfl) (by decide)) (soundA_name so_get_all 1 (by decide) rfl (by decide +kernel)))
    (sound_consB (sound_ret (sound_comp (own := [(Str.ofString ".0"), (Str.ofString "kv")]) (caps := [((Str.ofString "name"), 1)]) 80 (compOK_of (by decide +kernel)) (fun _ _ => rfl) (sound_lstI (sound_hdrAttr c.cls (sound_name 0 rfl (by decide)) (fun _ => rfl))) (soundA_name (slotsOK_of (by decide +kernel)) 1 (by decide) rfl (by decide +kernel)) (sound_ifs_one (sound_cmpT c.TO rfl (sound_strMeth PySem.F.slot_str_lower PySem.F.type_str_lower soundF_lower (sound_idx (fun _ _ => rfl) (sound_name 1 rfl (by decide)) (sound_int)) sound_nil (fun _ => rfl) rfl (by decide)) (sound_name 2 rfl (by decide)))) (sound_idx (fun _ _ => rfl) (sound_name 1 rfl (by decide)) (sound_int))))
    sound_nilB))
theorem sf_get_all (c : Cx X N T K mN mg mb) : SoundF X 2 (.ref 166) (F_get_all T) :=
  let ⟨_, D, hb⟩ := c.fn_get_all
  sound_def (params := P_get_all) (more := M_get_all) c.B D po_get_all hb (sb_get_all c)

noncomputable def φ___str__ (T : Tab) : φS :=
    (consB (retS (strMethE joinF (constE (.str ⟨#[13, 10]⟩)) (consEs (binE T .Add (compE 80 2 [] (lstI (hdrE (getE 0))) (nameA 1) yesT (pctE (getE 1))) (listE (consEs (constE (.str ⟨#[]⟩)) (consEs (constE (.str ⟨#[]⟩)) nilEs)))) nilEs)))
    nilB)
noncomputable def F___str__ (T : Tab) : FF := defF 1 0 (φ___str__ T)
theorem sb___str__ (c : Cx X N T K mN mg mb) : SoundB X 0 sc___str__ (P___str__ ++ M___str__) bd___str__ (φ___str__ T) :=
    (sound_consB (sound_ret (sound_strMeth PySem.F.slot_str_join PySem.F.type_str_join soundF_join (sound_str (by decide +kernel)) (sound_cons (fun _ => rfl) (sound_bin c.TO (sound_comp (own := [(Str.ofString ".0"), (Str.ofString "kv")]) (caps := []) 80 (compOK_of (by decide +kernel)) (fun _ _ => rfl) (sound_lstI (sound_hdrAttr c.cls (sound_name 0 rfl (by decide)) (fun _ => rfl))) (soundA_name (slotsOK_of (by decide +kernel)) 1 (by decide) rfl (by decide +kernel)) sound_ifs_nil (sound_pct (by decide +kernel) (sound_name 1 rfl (by decide)))) (sound_list (sound_cons (fun _ => rfl) (sound_str (by decide +kernel)) (sound_cons (fun _ => rfl) (sound_str (by decide +kernel)) sound_nil)))) sound_nil) (fun _ => rfl) rfl (by decide)))
    sound_nilB)
theorem sf___str__ (c : Cx X N T K mN mg mb) : SoundF X 1 (.ref 203) (F___str__ T) :=
  let ⟨_, D, hb⟩ := c.fn___str__
  sound_def (params := P___str__) (more := M___str__) c.B D po___str__ hb (sb___str__ c)

end
end
end Mine
end

section
open PySem PySem.W PyProof.Rows
set_option maxRecDepth 100000
set_option maxHeartbeats 4000000
namespace Mine
open RX
noncomputable section
/-- the letters that the law's oracles give and take -/
noncomputable def q_hsv : Orc3 := ⟨6, 305, 306, 9, 12, 15⟩
noncomputable def q_told : Orc3 := ⟨9, 12, 15, 0, 305, 306⟩
noncomputable def q_hls : Orc3 := ⟨9, 12, 15, 51, 63, 66⟩
noncomputable def q_parts : Orc3 := ⟨0, 300, 301, 27, 30, 33⟩
noncomputable def Ohsv_to_rgb : FF := orcT q_hsv
noncomputable def O_law_told : FF := orcTT q_told
noncomputable def Orgb_to_hls : FF := orcT q_hls
noncomputable def O_law_parts : FF := orcL q_parts
/-- _ellipsis_match of a text that begins and ends with three dots -/
noncomputable abbrev d3S : Str := ⟨#[46, 46, 46]⟩
noncomputable def isE (o : Option Str) : Bool := match o with
  | some w => match w.cps.toList with
    | [] => true
    | _ :: _ => false
  | none => false
noncomputable def ellGo (y : Str) (n : Nat) (l : List Str) : Int → Option Bool := List.rec (motive := fun _ => Int → Option Bool) (fun _ => some true) (fun w _ ih p => forceI (findS y w (fromIndex n p) (min (fromIndex n (n : Int)) n)) fun k => match k with
  | .ofNat k => grd (smallS w) (forceI ((k : Int) + (lenR w.cps.toList : Nat)) ih)
  | .negSucc _ => some false) l
noncomputable def ellOK (x : Str) (l : List Str) : Bool := smallS x && (!(occS x d3S 0 x.length 1).isEmpty && (Nat.ble 2 (lenR l) && (Nat.ble (lenR l) 79 && (isE (getF l 0) && isE (getF l (lenR l - 1))))))
noncomputable def O_ellipsis_match : FF := fun args V => args2 args fun a b => onStr a fun x => onStr b fun y => grd (smallS y) (forceSs (splitS x d3S) fun l => grd (ellOK x l) (forceN (lenR y.cps.toList) fun n => bnd (ellGo y n l 0) fun r => some (.bool r, V)))
structure Orc (X : Wd) : Prop where
  ohsv_to_rgb : SoundF X 1 (.ref 59) Ohsv_to_rgb
  o_law_told : SoundF X 2 (.ref 238) O_law_told
  orgb_to_hls : SoundF X 1 (.ref 45) Orgb_to_hls
  o_law_parts : SoundF X 1 (.ref 267) O_law_parts
  o_ellipsis_match : SoundF X 1 (.ref 66) O_ellipsis_match
section
variable {X : Wd} {N : Addr} {T : Tab} {K : Frag} {mN mg mb : Str → Option Value}
noncomputable def φ__law_run (T : Tab) : φS :=
    (consB (assignS (listE nilEs) (nameA 2))
    (consB (forS 80 (rngI (consEs (constE (.int (5))) nilEs)) (nameA 3)
    (consB (assignS (binE T .FloorDiv (idxE (callE O_law_told (consEs (idxE (getE 0) (getE 3)) nilEs)) (constE (.int (0)))) (constE (.int (4)))) (nameA 4))
    (consB (exprS (hdrMethE (F_add_header T) (getE 1) (consEs (idxE (constE (.str ⟨#[118, 119, 120, 121, 122]⟩)) (getE 3)) (consEs (idxE (constE (.str ⟨#[114, 103, 98]⟩)) (getE 4)) nilEs))))
    (consB (exprS (lstMethE appendF (getE 2) (consEs (binE T .Mult (constE (.str ⟨#[46]⟩)) (binE T .Add (getE 4) (constE (.int (1))))) nilEs)))
    nilB))))
    (consB (assignS (listE nilEs) (nameA 5))
    (consB (forS 80 (rngI (consEs (constE (.int (3))) nilEs)) (nameA 6)
    (consB (assignS (compE 80 2 [] (lstI (getE 0)) (nameA 1) yesT (callE O_law_told (consEs (getE 1) nilEs))) (nameA 7))
    (consB (assignS (listE nilEs) (nameA 8))
    (consB (assignS (constE (.str ⟨#[]⟩)) (nameA 9))
    (consB (forS 80 (rngI (consEs (constE (.int (5))) nilEs)) (nameA 3)
    (consB (assignS (idxE (getE 7) (getE 3)) (tupA (consAs (nameA 10) (consAs (nameA 11) (consAs (nameA 12) nilAs)))))
    (consB (assignS (binE T .Mod (binE T .Add (binE T .FloorDiv (getE 10) (constE (.int (4)))) (constE (.int (1)))) (constE (.int (3)))) (nameA 13))
    (consB (ifS (cmpT T .In (getE 13) (listE (consEs (binE T .FloorDiv (idxE (idxE (getE 7) (binE T .Sub (getE 3) (constE (.int (1))))) (constE (.int (0)))) (constE (.int (4)))) (consEs (binE T .FloorDiv (idxE (idxE (getE 7) (binE T .Mod (binE T .Add (getE 3) (constE (.int (1)))) (constE (.int (5))))) (constE (.int (0)))) (constE (.int (4)))) nilEs))))
    (consB (exprS (hdrMethE (F_add_header T) (getE 1) (consEs (idxE (constE (.str ⟨#[118, 119, 120, 121, 122]⟩)) (getE 3)) (consEs (idxE (constE (.str ⟨#[114, 103, 98]⟩)) (getE 13)) nilEs))))
    (consB (exprS (lstMethE appendF (getE 8) (consEs (callE Ohsv_to_rgb (consEs (binE T .Div (binE T .Mod (binE T .Add (getE 10) (constE (.int (4)))) (constE (.int (12)))) (constE (.flt 0x4028000000000000))) (consEs (getE 11) (consEs (getE 12) nilEs)))) nilEs)))
    (consB (assignS (binE T .Add (getE 9) (idxE (getE 2) (getE 3))) (nameA 9))
    nilB)))
    (consB (exprS (lstMethE appendF (getE 8) (consEs (idxE (getE 0) (getE 3)) nilEs)))
    (consB (assignS (binE T .Add (binE T .Add (getE 9) (constE (.str ⟨#[120]⟩))) (idxE (getE 2) (getE 3))) (nameA 9))
    nilB)))
    (consB (assignS (binE T .Add (getE 9) (idxE (listE (consEs (constE (.str ⟨#[13]⟩)) (consEs (constE (.str ⟨#[10]⟩)) (consEs (constE (.str ⟨#[13, 10]⟩)) nilEs)))) (binE T .Mod (binE T .Add (getE 6) (getE 3)) (constE (.int (3)))))) (nameA 9))
    nilB)))))
    (consB (assignS (callE (F_quotedata T) (consEs (getE 9) nilEs)) (nameA 14))
    (consB (exprS (lstMethE appendF (getE 5) (consEs (getE 14) nilEs)))
    (consB (assignS (compE 80 2 [] (lstI (sliceE FX0 (strMethE splitF (getE 14) (consEs (constE (.str ⟨#[13, 10]⟩)) nilEs)) noP (someP (constE (.int (5)))) noP)) (nameA 1) yesT (replE ⟨#[120]⟩ ⟨#[]⟩ (getE 1))) (nameA 2))
    (consB (assignS (getE 8) (nameA 0))
    nilB)))))))))
    (consB (retS (tupE (consEs (getE 5) (consEs (getE 0) nilEs))))
    nilB)))))
noncomputable def F__law_run (T : Tab) : FF := defF 2 13 (φ__law_run T)
theorem sb__law_run (c : Cx X N T K mN mg mb) (Y : Orc X) : SoundB X 3 sc__law_run (P__law_run ++ M__law_run) bd__law_run (φ__law_run T) :=
    (sound_consB (sound_assign (fun _ _ => rfl) (fun _ _ => rfl) (fun _ => rfl) (sound_list sound_nil) (soundA_name so__law_run 2 (by decide) rfl (by decide +kernel)))
    (sound_consB (sound_for 80 (fun _ _ => rfl) (sound_rngI c.B (by decide +kernel) c.g_range (by decide) (sound_cons (fun _ => rfl) (sound_int) sound_nil)) (soundA_name so__law_run 3 (by decide) rfl (by decide +kernel))
    (sound_consB (sound_assign (fun _ _ => rfl) (fun _ _ => rfl) (fun _ => rfl) (sound_bin c.TO (sound_idx (fun _ _ => rfl) (sound_call c.B (by decide +kernel) c.g__law_told (by decide) c.fn__law_told.keep (SoundF.up (Y.o_law_told) (by decide)) (sound_cons (fun _ => rfl) (sound_idx (fun _ _ => rfl) (sound_name 0 rfl (by decide)) (sound_name 3 rfl (by decide))) sound_nil)) (sound_int)) (sound_int)) (soundA_name so__law_run 4 (by decide) rfl (by decide +kernel)))
    (sound_consB (sound_expr (fun _ => rfl) (sound_hdrMeth c.cls c.m_add_header (by decide) tl_addheader (SoundF.up (sf_add_header c) (by decide)) (sound_name 1 rfl (by decide)) (sound_cons (fun _ => rfl) (sound_idx (fun _ _ => rfl) (sound_str (by decide +kernel)) (sound_name 3 rfl (by decide))) (sound_cons (fun _ => rfl) (sound_idx (fun _ _ => rfl) (sound_str (by decide +kernel)) (sound_name 4 rfl (by decide))) sound_nil)) (fun _ => rfl) rfl (by decide)))
    (sound_consB (sound_expr (fun _ => rfl) (sound_lstMeth PySem.F.slot_list_append PySem.F.plainAttrs_list PySem.F.type_list_append soundF_append (sound_name 2 rfl (by decide)) (sound_cons (fun _ => rfl) (sound_bin c.TO (sound_str (by decide +kernel)) (sound_bin c.TO (sound_name 4 rfl (by decide)) (sound_int))) sound_nil) (fun _ => rfl) rfl (by decide)))
    sound_nilB))))
    (sound_consB (sound_assign (fun _ _ => rfl) (fun _ _ => rfl) (fun _ => rfl) (sound_list sound_nil) (soundA_name so__law_run 5 (by decide) rfl (by decide +kernel)))
    (sound_consB (sound_for 80 (fun _ _ => rfl) (sound_rngI c.B (by decide +kernel) c.g_range (by decide) (sound_cons (fun _ => rfl) (sound_int) sound_nil)) (soundA_name so__law_run 6 (by decide) rfl (by decide +kernel))
    (sound_consB (sound_assignComp so__law_run (own := [(Str.ofString ".0"), (Str.ofString "paint")]) (caps := []) 80 (compOK_of (by decide +kernel)) 7 rfl (by decide +kernel) (fun _ ok => swaps_ok ok (by decide +kernel) rfl (by decide +kernel)) (fun _ _ => rfl) (sound_lstI (sound_name 0 rfl (by decide))) (soundA_name (slotsOK_of (by decide +kernel)) 1 (by decide) rfl (by decide +kernel)) sound_ifs_nil (sound_call c.B (by decide +kernel) c.g__law_told (by decide) c.fn__law_told.keep (SoundF.up (Y.o_law_told) (by decide)) (sound_cons (fun _ => rfl) (sound_name 1 rfl (by decide)) sound_nil)))
    (sound_consB (sound_assign (fun _ _ => rfl) (fun _ _ => rfl) (fun _ => rfl) (sound_list sound_nil) (soundA_name so__law_run 8 (by decide) rfl (by decide +kernel)))
    (sound_consB (sound_assign (fun _ _ => rfl) (fun _ _ => rfl) (fun _ => rfl) (sound_str (by decide +kernel)) (soundA_name so__law_run 9 (by decide) rfl (by decide +kernel)))
    (sound_consB (sound_for 80 (fun _ _ => rfl) (sound_rngI c.B (by decide +kernel) c.g_range (by decide) (sound_cons (fun _ => rfl) (sound_int) sound_nil)) (soundA_name so__law_run 3 (by decide) rfl (by decide +kernel))
    (sound_consB (sound_assign (fun _ _ => rfl) (fun _ _ => rfl) (fun _ => rfl) (sound_idx (fun _ _ => rfl) (sound_name 7 rfl (by decide)) (sound_name 3 rfl (by decide))) (soundA_tup (soundAs_cons (fun _ => rfl) (soundA_name so__law_run 10 (by decide) rfl (by decide +kernel)) (soundAs_cons (fun _ => rfl) (soundA_name so__law_run 11 (by decide) rfl (by decide +kernel)) (soundAs_cons (fun _ => rfl) (soundA_name so__law_run 12 (by decide) rfl (by decide +kernel)) soundAs_nil)))))
    (sound_consB (sound_assign (fun _ _ => rfl) (fun _ _ => rfl) (fun _ => rfl) (sound_bin c.TO (sound_bin c.TO (sound_bin c.TO (sound_name 10 rfl (by decide)) (sound_int)) (sound_int)) (sound_int)) (soundA_name so__law_run 13 (by decide) rfl (by decide +kernel)))
    (sound_consB (sound_if (sound_cmpT c.TO rfl (sound_name 13 rfl (by decide)) (sound_list (sound_cons (fun _ => rfl) (sound_bin c.TO (sound_idx (fun _ _ => rfl) (sound_idx (fun _ _ => rfl) (sound_name 7 rfl (by decide)) (sound_bin c.TO (sound_name 3 rfl (by decide)) (sound_int))) (sound_int)) (sound_int)) (sound_cons (fun _ => rfl) (sound_bin c.TO (sound_idx (fun _ _ => rfl) (sound_idx (fun _ _ => rfl) (sound_name 7 rfl (by decide)) (sound_bin c.TO (sound_bin c.TO (sound_name 3 rfl (by decide)) (sound_int)) (sound_int))) (sound_int)) (sound_int)) sound_nil))))
    (sound_consB (sound_expr (fun _ => rfl) (sound_hdrMeth c.cls c.m_add_header (by decide) tl_addheader (SoundF.up (sf_add_header c) (by decide)) (sound_name 1 rfl (by decide)) (sound_cons (fun _ => rfl) (sound_idx (fun _ _ => rfl) (sound_str (by decide +kernel)) (sound_name 3 rfl (by decide))) (sound_cons (fun _ => rfl) (sound_idx (fun _ _ => rfl) (sound_str (by decide +kernel)) (sound_name 13 rfl (by decide))) sound_nil)) (fun _ => rfl) rfl (by decide)))
    (sound_consB (sound_expr (fun _ => rfl) (sound_lstMeth PySem.F.slot_list_append PySem.F.plainAttrs_list PySem.F.type_list_append soundF_append (sound_name 8 rfl (by decide)) (sound_cons (fun _ => rfl) (sound_call c.B (by decide +kernel) c.g_hsv_to_rgb (by decide) c.fn_hsv_to_rgb.keep (SoundF.up (Y.ohsv_to_rgb) (by decide)) (sound_cons (fun _ => rfl) (sound_bin c.TO (sound_bin c.TO (sound_bin c.TO (sound_name 10 rfl (by decide)) (sound_int)) (sound_int)) (sound_float)) (sound_cons (fun _ => rfl) (sound_name 11 rfl (by decide)) (sound_cons (fun _ => rfl) (sound_name 12 rfl (by decide)) sound_nil)))) sound_nil) (fun _ => rfl) rfl (by decide)))
    (sound_consB (sound_assign (fun _ _ => rfl) (fun _ _ => rfl) (fun _ => rfl) (sound_bin c.TO (sound_name 9 rfl (by decide)) (sound_idx (fun _ _ => rfl) (sound_name 2 rfl (by decide)) (sound_name 3 rfl (by decide)))) (soundA_name so__law_run 9 (by decide) rfl (by decide +kernel)))
    sound_nilB)))
    (sound_consB (sound_expr (fun _ => rfl) (sound_lstMeth PySem.F.slot_list_append PySem.F.plainAttrs_list PySem.F.type_list_append soundF_append (sound_name 8 rfl (by decide)) (sound_cons (fun _ => rfl) (sound_idx (fun _ _ => rfl) (sound_name 0 rfl (by decide)) (sound_name 3 rfl (by decide))) sound_nil) (fun _ => rfl) rfl (by decide)))
    (sound_consB (sound_assign (fun _ _ => rfl) (fun _ _ => rfl) (fun _ => rfl) (sound_bin c.TO (sound_bin c.TO (sound_name 9 rfl (by decide)) (sound_str (by decide +kernel))) (sound_idx (fun _ _ => rfl) (sound_name 2 rfl (by decide)) (sound_name 3 rfl (by decide)))) (soundA_name so__law_run 9 (by decide) rfl (by decide +kernel)))
    sound_nilB)))
    (sound_consB (sound_assign (fun _ _ => rfl) (fun _ _ => rfl) (fun _ => rfl) (sound_bin c.TO (sound_name 9 rfl (by decide)) (sound_idx (fun _ _ => rfl) (sound_list (sound_cons (fun _ => rfl) (sound_str (by decide +kernel)) (sound_cons (fun _ => rfl) (sound_str (by decide +kernel)) (sound_cons (fun _ => rfl) (sound_str (by decide +kernel)) sound_nil)))) (sound_bin c.TO (sound_bin c.TO (sound_name 6 rfl (by decide)) (sound_name 3 rfl (by decide))) (sound_int)))) (soundA_name so__law_run 9 (by decide) rfl (by decide +kernel)))
    sound_nilB)))))
    (sound_consB (sound_assign (fun _ _ => rfl) (fun _ _ => rfl) (fun _ => rfl) (sound_call c.B (by decide +kernel) c.g_quotedata (by decide) c.fn_quotedata.keep (SoundF.up (sf_quotedata c) (by decide)) (sound_cons (fun _ => rfl) (sound_name 9 rfl (by decide)) sound_nil)) (soundA_name so__law_run 14 (by decide) rfl (by decide +kernel)))
    (sound_consB (sound_expr (fun _ => rfl) (sound_lstMeth PySem.F.slot_list_append PySem.F.plainAttrs_list PySem.F.type_list_append soundF_append (sound_name 5 rfl (by decide)) (sound_cons (fun _ => rfl) (sound_name 14 rfl (by decide)) sound_nil) (fun _ => rfl) rfl (by decide)))
    (sound_consB (sound_assignComp so__law_run (own := [(Str.ofString ".0"), (Str.ofString "row")]) (caps := []) 80 (compOK_of (by decide +kernel)) 2 rfl (by decide +kernel) (fun _ ok => swaps_ok ok (by decide +kernel) rfl (by decide +kernel)) (fun _ _ => rfl) (sound_lstI (sound_slice (f := fun o i => [i, o]) fix0 (fun _ _ => rfl) (sound_strMeth PySem.F.slot_str_split PySem.F.type_str_split soundF_split (sound_name 14 rfl (by decide)) (sound_cons (fun _ => rfl) (sound_str (by decide +kernel)) sound_nil) (fun _ => rfl) rfl (by decide)) soundP_none (soundP_some (sound_int)) soundP_none)) (soundA_name (slotsOK_of (by decide +kernel)) 1 (by decide) rfl (by decide +kernel)) sound_ifs_nil (sound_replace (by decide +kernel) (by decide +kernel) (by decide +kernel) (sound_name 1 rfl (by decide)) (fun _ => rfl) rfl))
    (sound_consB (sound_assign (fun _ _ => rfl) (fun _ _ => rfl) (fun _ => rfl) (sound_name 8 rfl (by decide)) (soundA_name so__law_run 0 (by decide) rfl (by decide +kernel)))
    sound_nilB)))))))))
    (sound_consB (sound_ret (sound_tup (sound_cons (fun _ => rfl) (sound_name 5 rfl (by decide)) (sound_cons (fun _ => rfl) (sound_name 0 rfl (by decide)) sound_nil))))
    sound_nilB)))))
theorem sf__law_run (c : Cx X N T K mN mg mb) (Y : Orc X) : SoundF X 4 (.ref 243) (F__law_run T) :=
  let ⟨_, D, hb⟩ := c.fn__law_run
  sound_def (params := P__law_run) (more := M__law_run) c.B D po__law_run hb (sb__law_run c Y)

noncomputable def bd_lawB : List Stmt := bd_law.drop 2
noncomputable def st_law (i : Nat) : Stmt := match bd_law[i]? with
  | some s => s
  | none => .Pass ⟨0, 0, 0, 0⟩

noncomputable def φA0 (T : Tab) (FX : Fix) : φS := (assignS (listE (consEs (constE (.int (49))) (consEs (constE (.int (174))) (consEs (constE (.int (45))) (consEs (constE (.int (119))) (consEs (constE (.int (3))) nilEs)))))) (nameA 1))
theorem ss_lawA0 (c : Cx X N T K mN mg mb) {FX : Fix} (FO : FixOK X.h0 FX) : SoundS X 5 sc_law (P_law ++ M_law) (st_law 0) (φA0 T FX) :=
  (sound_assign (fun _ _ => rfl) (fun _ _ => rfl) (fun _ => rfl) (sound_list (sound_cons (fun _ => rfl) (sound_int) (sound_cons (fun _ => rfl) (sound_int) (sound_cons (fun _ => rfl) (sound_int) (sound_cons (fun _ => rfl) (sound_int) (sound_cons (fun _ => rfl) (sound_int) sound_nil)))))) (soundA_name so_law 1 (by decide) rfl (by decide +kernel)))
noncomputable def φA1 (T : Tab) (FX : Fix) : φS := (assignS (compE 80 2 [1, 0] (rngI (consEs (constE (.int (5))) nilEs)) (nameA 1) yesT (binE T .Mod (binE T .Add (callE sumF (consEs (sliceE FX (sliceE FX (getE 3) noP (someP (constE (.int (60)))) noP) (someP (getE 1)) noP (someP (constE (.int (5))))) nilEs)) (idxE (getE 2) (getE 1))) (constE (.int (192))))) (nameA 3))
theorem ss_lawA1 (c : Cx X N T K mN mg mb) {FX : Fix} (FO : FixOK X.h0 FX) : SoundS X 5 sc_law (P_law ++ M_law) (st_law 1) (φA1 T FX) :=
  (sound_assignComp so_law (own := [(Str.ofString ".0"), (Str.ofString "k")]) (caps := [((Str.ofString "bases"), 1), ((Str.ofString "script"), 0)]) 80 (compOK_of (by decide +kernel)) 3 rfl (by decide +kernel) (fun _ ok => swaps_ok ok (by decide +kernel) rfl (by decide +kernel)) (fun _ _ => rfl) (sound_rngI c.B (by decide +kernel) c.g_range (by decide) (sound_cons (fun _ => rfl) (sound_int) sound_nil)) (soundA_name (slotsOK_of (by decide +kernel)) 1 (by decide) rfl (by decide +kernel)) sound_ifs_nil (sound_bin c.TO (sound_bin c.TO (sound_call c.B (by decide +kernel) c.g_sum (by decide) keep_builtin soundF_sum (sound_cons (fun _ => rfl) (sound_slice (f := fun o i => [o, i]) FO (fun _ _ => rfl) (sound_slice (f := fun o i => [i, o]) FO (fun _ _ => rfl) (sound_name 3 rfl (by decide)) soundP_none (soundP_some (sound_int)) soundP_none) (soundP_some (sound_name 1 rfl (by decide))) soundP_none (soundP_some (sound_int))) sound_nil)) (sound_idx (fun _ _ => rfl) (sound_name 2 rfl (by decide)) (sound_name 1 rfl (by decide)))) (sound_int)))
noncomputable def φlawB (T : Tab) : φS :=
    (consB (assignS (compE 80 2 [] (lstI (getE 3)) (nameA 1) yesT (tupE (consEs (binE T .Mod (getE 1) (constE (.int (12)))) (consEs (binE T .Add (binE T .Mod (binE T .FloorDiv (getE 1) (constE (.int (12)))) (constE (.int (4)))) (constE (.int (1)))) (consEs (binE T .Add (binE T .FloorDiv (getE 1) (constE (.int (48)))) (constE (.int (1)))) nilEs))))) (nameA 4))
    (consB (assignS (callE newF nilEs) (nameA 5))
    (consB (assignS (compE 80 2 [] (lstI (getE 4)) (nameA 1) yesT (callE Ohsv_to_rgb (consEs (binE T .Div (idxE (getE 1) (constE (.int (0)))) (constE (.flt 0x4028000000000000))) (consEs (binE T .Div (idxE (getE 1) (constE (.int (1)))) (constE (.flt 0x4010000000000000))) (consEs (binE T .Div (idxE (getE 1) (constE (.int (2)))) (constE (.flt 0x4010000000000000))) nilEs))))) (nameA 6))
    (consB (assignS (callE (F__law_run T) (consEs (getE 6) (consEs (getE 5) nilEs))) (tupA (consAs (nameA 7) (consAs (nameA 8) nilAs))))
    (consB (assignS (callE (F__law_heights T) (consEs (compE 80 2 [] (lstI (getE 4)) (nameA 1) yesT (binE T .FloorDiv (idxE (getE 1) (constE (.int (0)))) (constE (.int (4))))) nilEs)) (nameA 9))
    (consB (assignS (compE 80 2 [9] (rngI (consEs (constE (.int (4))) nilEs)) (nameA 1) yesT (compE 80 2 [2, 1] (rngI (consEs (constE (.int (5))) nilEs)) (nameA 1) yesT (callE (F__law_highest T) (consEs (getE 2) (consEs (getE 1) (consEs (getE 3) nilEs)))))) (nameA 10))
    (consB (assignS (callE (strOfF (F___str__ T)) (consEs (getE 5) nilEs)) (nameA 11))
    (consB (ifS (cmpT T .NotEq (tupE (consEs (getE 7) (consEs (getE 11) nilEs))) (callE (F__law_due T) (consEs (getE 9) (consEs (getE 10) nilEs))))
    (consB (retS (constE (.bool false)))
    nilB)
    nilB)
    (consB (forS 80 (rngI (consEs (constE (.int (5))) nilEs)) (nameA 2)
    (consB (assignS (binE T .Sub (idxE (idxE (getE 10) (constE (.int (3)))) (getE 2)) (idxE (getE 9) (getE 2))) (nameA 12))
    (consB (assignS (compE 80 2 [9, 2] (rngI (consEs (binE T .Add (getE 12) (constE (.int (1)))) nilEs)) (nameA 1) yesT (idxE (constE (.str ⟨#[114, 103, 98]⟩)) (binE T .Mod (binE T .Add (idxE (getE 2) (getE 3)) (getE 1)) (constE (.int (3)))))) (nameA 13))
    (consB (ifS (cmpT T .NotEq (hdrMethE (F_get_all T) (getE 5) (consEs (idxE (constE (.str ⟨#[86, 87, 88, 89, 90]⟩)) (getE 2)) nilEs)) (getE 13))
    (consB (retS (constE (.bool false)))
    nilB)
    nilB)
    (consB (assignS (compE 80 2 [2] (lstI (getE 13)) (nameA 1) yesT (binE T .Add (binE T .Add (idxE (constE (.str ⟨#[118, 119, 120, 121, 122]⟩)) (getE 2)) (constE (.str ⟨#[58, 32]⟩))) (getE 1))) (nameA 14))
    (consB (ifS (notT (truT (callE O_ellipsis_match (consEs (binE T .Add (binE T .Add (constE (.str ⟨#[46, 46, 46]⟩)) (strMethE joinF (constE (.str ⟨#[46, 46, 46]⟩)) (consEs (getE 14) nilEs))) (constE (.str ⟨#[46, 46, 46]⟩))) (consEs (getE 11) nilEs)))))
    (consB (retS (constE (.bool false)))
    nilB)
    nilB)
    (consB (ifS (truT (callE O_ellipsis_match (consEs (binE T .Add (binE T .Add (constE (.str ⟨#[46, 46, 46]⟩)) (strMethE joinF (constE (.str ⟨#[46, 46, 46]⟩)) (consEs (binE T .Add (getE 14) (sliceE FX0 (getE 14) (someP (negE (constE (.int (1))))) noP noP)) nilEs))) (constE (.str ⟨#[46, 46, 46]⟩))) (consEs (getE 11) nilEs))))
    (consB (retS (constE (.bool false)))
    nilB)
    nilB)
    (consB (assignS (binE T .Mod (binE T .Add (idxE (idxE (getE 4) (getE 2)) (constE (.int (0)))) (binE T .Mult (constE (.int (4))) (getE 12))) (constE (.int (12)))) (nameA 15))
    (consB (ifS (cmpT T .NotEq (compE 80 2 [] (lstI (idxE (getE 8) (getE 2))) (nameA 1) yesT (binE T .Mult (getE 1) (constE (.flt 0x4040000000000000)))) (callE O_law_parts (consEs (getE 15) (consEs (idxE (idxE (getE 4) (getE 2)) (constE (.int (1)))) (consEs (idxE (idxE (getE 4) (getE 2)) (constE (.int (2)))) nilEs)))))
    (consB (retS (constE (.bool false)))
    nilB)
    nilB)
    (consB (ifS (cmpT T .NotEq (callE (intF T) (consEs (binE T .Add (binE T .Mult (idxE (callE Orgb_to_hls (consEs (idxE (idxE (getE 8) (getE 2)) (constE (.int (0)))) (consEs (idxE (idxE (getE 8) (getE 2)) (constE (.int (1)))) (consEs (idxE (idxE (getE 8) (getE 2)) (constE (.int (2)))) nilEs)))) (constE (.int (0)))) (constE (.flt 0x4028000000000000))) (constE (.flt 0x3fe0000000000000))) nilEs)) (getE 15))
    (consB (retS (constE (.bool false)))
    nilB)
    nilB)
    nilB))))))))))
    (consB (retS (constE (.bool true)))
    nilB))))))))))

theorem sb_lawB (c : Cx X N T K mN mg mb) (Y : Orc X) : SoundB X 5 sc_law (P_law ++ M_law) bd_lawB (φlawB T) :=
    (sound_consB (sound_assignComp so_law (own := [(Str.ofString ".0"), (Str.ofString "x")]) (caps := []) 80 (compOK_of (by decide +kernel)) 4 rfl (by decide +kernel) (fun _ ok => swaps_ok ok (by decide +kernel) rfl (by decide +kernel)) (fun _ _ => rfl) (sound_lstI (sound_name 3 rfl (by decide))) (soundA_name (slotsOK_of (by decide +kernel)) 1 (by decide) rfl (by decide +kernel)) sound_ifs_nil (sound_tup (sound_cons (fun _ => rfl) (sound_bin c.TO (sound_name 1 rfl (by decide)) (sound_int)) (sound_cons (fun _ => rfl) (sound_bin c.TO (sound_bin c.TO (sound_bin c.TO (sound_name 1 rfl (by decide)) (sound_int)) (sound_int)) (sound_int)) (sound_cons (fun _ => rfl) (sound_bin c.TO (sound_bin c.TO (sound_name 1 rfl (by decide)) (sound_int)) (sound_int)) sound_nil)))))
    (sound_consB (sound_assign (fun _ _ => rfl) (fun _ _ => rfl) (fun _ => rfl) (sound_call c.B (by decide +kernel) c.g_Headers (by decide) (keep_cls c.KX c.hdr.keep) (SoundF.up (sf_new c) (by decide)) sound_nil) (soundA_name so_law 5 (by decide) rfl (by decide +kernel)))
    (sound_consB (sound_assignComp so_law (own := [(Str.ofString ".0"), (Str.ofString "draw")]) (caps := []) 80 (compOK_of (by decide +kernel)) 6 rfl (by decide +kernel) (fun _ ok => swaps_ok ok (by decide +kernel) rfl (by decide +kernel)) (fun _ _ => rfl) (sound_lstI (sound_name 4 rfl (by decide))) (soundA_name (slotsOK_of (by decide +kernel)) 1 (by decide) rfl (by decide +kernel)) sound_ifs_nil (sound_call c.B (by decide +kernel) c.g_hsv_to_rgb (by decide) c.fn_hsv_to_rgb.keep (SoundF.up (Y.ohsv_to_rgb) (by decide)) (sound_cons (fun _ => rfl) (sound_bin c.TO (sound_idx (fun _ _ => rfl) (sound_name 1 rfl (by decide)) (sound_int)) (sound_float)) (sound_cons (fun _ => rfl) (sound_bin c.TO (sound_idx (fun _ _ => rfl) (sound_name 1 rfl (by decide)) (sound_int)) (sound_float)) (sound_cons (fun _ => rfl) (sound_bin c.TO (sound_idx (fun _ _ => rfl) (sound_name 1 rfl (by decide)) (sound_int)) (sound_float)) sound_nil)))))
    (sound_consB (sound_assign (fun _ _ => rfl) (fun _ _ => rfl) (fun _ => rfl) (sound_call c.B (by decide +kernel) c.g__law_run (by decide) c.fn__law_run.keep (SoundF.up (sf__law_run c Y) (by decide)) (sound_cons (fun _ => rfl) (sound_name 6 rfl (by decide)) (sound_cons (fun _ => rfl) (sound_name 5 rfl (by decide)) sound_nil))) (soundA_tup (soundAs_cons (fun _ => rfl) (soundA_name so_law 7 (by decide) rfl (by decide +kernel)) (soundAs_cons (fun _ => rfl) (soundA_name so_law 8 (by decide) rfl (by decide +kernel)) soundAs_nil))))
    (sound_consB (sound_assign (fun _ _ => rfl) (fun _ _ => rfl) (fun _ => rfl) (sound_call c.B (by decide +kernel) c.g__law_heights (by decide) c.fn__law_heights.keep (SoundF.up (sf__law_heights c) (by decide)) (sound_cons (fun _ => rfl) (sound_comp (own := [(Str.ofString ".0"), (Str.ofString "draw")]) (caps := []) 80 (compOK_of (by decide +kernel)) (fun _ _ => rfl) (sound_lstI (sound_name 4 rfl (by decide))) (soundA_name (slotsOK_of (by decide +kernel)) 1 (by decide) rfl (by decide +kernel)) sound_ifs_nil (sound_bin c.TO (sound_idx (fun _ _ => rfl) (sound_name 1 rfl (by decide)) (sound_int)) (sound_int))) sound_nil)) (soundA_name so_law 9 (by decide) rfl (by decide +kernel)))
    (sound_consB (sound_assignComp so_law (own := [(Str.ofString ".0"), (Str.ofString "n")]) (caps := [((Str.ofString "heights"), 9)]) 80 (compOK_of (by decide +kernel)) 10 rfl (by decide +kernel) (fun _ ok => swaps_ok ok (by decide +kernel) rfl (by decide +kernel)) (fun _ _ => rfl) (sound_rngI c.B (by decide +kernel) c.g_range (by decide) (sound_cons (fun _ => rfl) (sound_int) sound_nil)) (soundA_name (slotsOK_of (by decide +kernel)) 1 (by decide) rfl (by decide +kernel)) sound_ifs_nil (sound_comp (own := [(Str.ofString ".0"), (Str.ofString "k")]) (caps := [((Str.ofString "heights"), 2), ((Str.ofString "n"), 1)]) 80 (compOK_of (by decide +kernel)) (fun _ _ => rfl) (sound_rngI c.B (by decide +kernel) c.g_range (by decide) (sound_cons (fun _ => rfl) (sound_int) sound_nil)) (soundA_name (slotsOK_of (by decide +kernel)) 1 (by decide) rfl (by decide +kernel)) sound_ifs_nil (sound_call c.B (by decide +kernel) c.g__law_highest (by decide) c.fn__law_highest.keep (SoundF.up (sf__law_highest c) (by decide)) (sound_cons (fun _ => rfl) (sound_name 2 rfl (by decide)) (sound_cons (fun _ => rfl) (sound_name 1 rfl (by decide)) (sound_cons (fun _ => rfl) (sound_name 3 rfl (by decide)) sound_nil))))))
    (sound_consB (sound_assign (fun _ _ => rfl) (fun _ _ => rfl) (fun _ => rfl) (sound_call c.B (by decide +kernel) c.g_str (by decide) keep_type (SoundF.up (soundF_strOf c.KX c.s_str c.s_fn (sf___str__ c)) (by decide)) (sound_cons (fun _ => rfl) (sound_name 5 rfl (by decide)) sound_nil)) (soundA_name so_law 11 (by decide) rfl (by decide +kernel)))
    (sound_consB (sound_if (sound_cmpT c.TO rfl (sound_tup (sound_cons (fun _ => rfl) (sound_name 7 rfl (by decide)) (sound_cons (fun _ => rfl) (sound_name 11 rfl (by decide)) sound_nil))) (sound_call c.B (by decide +kernel) c.g__law_due (by decide) c.fn__law_due.keep (SoundF.up (sf__law_due c) (by decide)) (sound_cons (fun _ => rfl) (sound_name 9 rfl (by decide)) (sound_cons (fun _ => rfl) (sound_name 10 rfl (by decide)) sound_nil))))
    (sound_consB (sound_ret (sound_true))
    sound_nilB)
    sound_nilB)
    (sound_consB (sound_for 80 (fun _ _ => rfl) (sound_rngI c.B (by decide +kernel) c.g_range (by decide) (sound_cons (fun _ => rfl) (sound_int) sound_nil)) (soundA_name so_law 2 (by decide) rfl (by decide +kernel))
    (sound_consB (sound_assign (fun _ _ => rfl) (fun _ _ => rfl) (fun _ => rfl) (sound_bin c.TO (sound_idx (fun _ _ => rfl) (sound_idx (fun _ _ => rfl) (sound_name 10 rfl (by decide)) (sound_int)) (sound_name 2 rfl (by decide))) (sound_idx (fun _ _ => rfl) (sound_name 9 rfl (by decide)) (sound_name 2 rfl (by decide)))) (soundA_name so_law 12 (by decide) rfl (by decide +kernel)))
    (sound_consB (sound_assignComp so_law (own := [(Str.ofString ".0"), (Str.ofString "n")]) (caps := [((Str.ofString "heights"), 9), ((Str.ofString "k"), 2)]) 80 (compOK_of (by decide +kernel)) 13 rfl (by decide +kernel) (fun _ ok => swaps_ok ok (by decide +kernel) rfl (by decide +kernel)) (fun _ _ => rfl) (sound_rngI c.B (by decide +kernel) c.g_range (by decide) (sound_cons (fun _ => rfl) (sound_bin c.TO (sound_name 12 rfl (by decide)) (sound_int)) sound_nil)) (soundA_name (slotsOK_of (by decide +kernel)) 1 (by decide) rfl (by decide +kernel)) sound_ifs_nil (sound_idx (fun _ _ => rfl) (sound_str (by decide +kernel)) (sound_bin c.TO (sound_bin c.TO (sound_idx (fun _ _ => rfl) (sound_name 2 rfl (by decide)) (sound_name 3 rfl (by decide))) (sound_name 1 rfl (by decide))) (sound_int))))
    (sound_consB (sound_if (sound_cmpT c.TO rfl (sound_hdrMeth c.cls c.m_get_all (by decide) tl_getall (SoundF.up (sf_get_all c) (by decide)) (sound_name 5 rfl (by decide)) (sound_cons (fun _ => rfl) (sound_idx (fun _ _ => rfl) (sound_str (by decide +kernel)) (sound_name 2 rfl (by decide))) sound_nil) (fun _ => rfl) rfl (by decide)) (sound_name 13 rfl (by decide)))
    (sound_consB (sound_ret (sound_true))
    sound_nilB)
    sound_nilB)
    (sound_consB (sound_assignComp so_law (own := [(Str.ofString ".0"), (Str.ofString "sign")]) (caps := [((Str.ofString "k"), 2)]) 80 (compOK_of (by decide +kernel)) 14 rfl (by decide +kernel) (fun _ ok => swaps_ok ok (by decide +kernel) rfl (by decide +kernel)) (fun _ _ => rfl) (sound_lstI (sound_name 13 rfl (by decide))) (soundA_name (slotsOK_of (by decide +kernel)) 1 (by decide) rfl (by decide +kernel)) sound_ifs_nil (sound_bin c.TO (sound_bin c.TO (sound_idx (fun _ _ => rfl) (sound_str (by decide +kernel)) (sound_name 2 rfl (by decide))) (sound_str (by decide +kernel))) (sound_name 1 rfl (by decide))))
    (sound_consB (sound_if (sound_not (sound_tru (fun _ _ => rfl) (sound_call c.B (by decide +kernel) c.g__ellipsis_match (by decide) c.fn__ellipsis_match.keep (SoundF.up (Y.o_ellipsis_match) (by decide)) (sound_cons (fun _ => rfl) (sound_bin c.TO (sound_bin c.TO (sound_str (by decide +kernel)) (sound_strMeth PySem.F.slot_str_join PySem.F.type_str_join soundF_join (sound_str (by decide +kernel)) (sound_cons (fun _ => rfl) (sound_name 14 rfl (by decide)) sound_nil) (fun _ => rfl) rfl (by decide))) (sound_str (by decide +kernel))) (sound_cons (fun _ => rfl) (sound_name 11 rfl (by decide)) sound_nil)))))
    (sound_consB (sound_ret (sound_true))
    sound_nilB)
    sound_nilB)
    (sound_consB (sound_if (sound_tru (fun _ _ => rfl) (sound_call c.B (by decide +kernel) c.g__ellipsis_match (by decide) c.fn__ellipsis_match.keep (SoundF.up (Y.o_ellipsis_match) (by decide)) (sound_cons (fun _ => rfl) (sound_bin c.TO (sound_bin c.TO (sound_str (by decide +kernel)) (sound_strMeth PySem.F.slot_str_join PySem.F.type_str_join soundF_join (sound_str (by decide +kernel)) (sound_cons (fun _ => rfl) (sound_bin c.TO (sound_name 14 rfl (by decide)) (sound_slice (f := fun o i => [i, o]) fix0 (fun _ _ => rfl) (sound_name 14 rfl (by decide)) (soundP_some (sound_neg (sound_int))) soundP_none soundP_none)) sound_nil) (fun _ => rfl) rfl (by decide))) (sound_str (by decide +kernel))) (sound_cons (fun _ => rfl) (sound_name 11 rfl (by decide)) sound_nil))))
    (sound_consB (sound_ret (sound_true))
    sound_nilB)
    sound_nilB)
    (sound_consB (sound_assign (fun _ _ => rfl) (fun _ _ => rfl) (fun _ => rfl) (sound_bin c.TO (sound_bin c.TO (sound_idx (fun _ _ => rfl) (sound_idx (fun _ _ => rfl) (sound_name 4 rfl (by decide)) (sound_name 2 rfl (by decide))) (sound_int)) (sound_bin c.TO (sound_int) (sound_name 12 rfl (by decide)))) (sound_int)) (soundA_name so_law 15 (by decide) rfl (by decide +kernel)))
    (sound_consB (sound_if (sound_cmpT c.TO rfl (sound_comp (own := [(Str.ofString ".0"), (Str.ofString "part")]) (caps := []) 80 (compOK_of (by decide +kernel)) (fun _ _ => rfl) (sound_lstI (sound_idx (fun _ _ => rfl) (sound_name 8 rfl (by decide)) (sound_name 2 rfl (by decide)))) (soundA_name (slotsOK_of (by decide +kernel)) 1 (by decide) rfl (by decide +kernel)) sound_ifs_nil (sound_bin c.TO (sound_name 1 rfl (by decide)) (sound_float))) (sound_call c.B (by decide +kernel) c.g__law_parts (by decide) c.fn__law_parts.keep (SoundF.up (Y.o_law_parts) (by decide)) (sound_cons (fun _ => rfl) (sound_name 15 rfl (by decide)) (sound_cons (fun _ => rfl) (sound_idx (fun _ _ => rfl) (sound_idx (fun _ _ => rfl) (sound_name 4 rfl (by decide)) (sound_name 2 rfl (by decide))) (sound_int)) (sound_cons (fun _ => rfl) (sound_idx (fun _ _ => rfl) (sound_idx (fun _ _ => rfl) (sound_name 4 rfl (by decide)) (sound_name 2 rfl (by decide))) (sound_int)) sound_nil)))))
    (sound_consB (sound_ret (sound_true))
    sound_nilB)
    sound_nilB)
    (sound_consB (sound_if (sound_cmpT c.TO rfl (sound_call c.B (by decide +kernel) c.g_int (by decide) keep_type (soundF_int c.TI) (sound_cons (fun _ => rfl) (sound_bin c.TO (sound_bin c.TO (sound_idx (fun _ _ => rfl) (sound_call c.B (by decide +kernel) c.g_rgb_to_hls (by decide) c.fn_rgb_to_hls.keep (SoundF.up (Y.orgb_to_hls) (by decide)) (sound_cons (fun _ => rfl) (sound_idx (fun _ _ => rfl) (sound_idx (fun _ _ => rfl) (sound_name 8 rfl (by decide)) (sound_name 2 rfl (by decide))) (sound_int)) (sound_cons (fun _ => rfl) (sound_idx (fun _ _ => rfl) (sound_idx (fun _ _ => rfl) (sound_name 8 rfl (by decide)) (sound_name 2 rfl (by decide))) (sound_int)) (sound_cons (fun _ => rfl) (sound_idx (fun _ _ => rfl) (sound_idx (fun _ _ => rfl) (sound_name 8 rfl (by decide)) (sound_name 2 rfl (by decide))) (sound_int)) sound_nil)))) (sound_int)) (sound_float)) (sound_float)) sound_nil)) (sound_name 15 rfl (by decide)))
    (sound_consB (sound_ret (sound_true))
    sound_nilB)
    sound_nilB)
    sound_nilB))))))))))
    (sound_consB (sound_ret (sound_true))
    sound_nilB))))))))))

end
end
end Mine
end

section
open PySem PySem.W PyProof.Rows
set_option maxRecDepth 100000
set_option maxHeartbeats 4000000
namespace Mine
noncomputable section
/-- a cell's number: its paint, and what rgb_to_hls tells of it, as floats' words -/
noncomputable def tabL : List (List Nat) := [
  [4598175219545276416, 4595923419731591168, 4595923419731591168, 0, 4597049319638433792, 4594314991293244562],
  [4598175219545276416, 4597049319638433792, 4595923419731591168, 4590669220166325589, 4597049319638433792, 4594314991293244562],
  [4598175219545276416, 4598175219545276416, 4595923419731591168, 4595172819793696085, 4597049319638433792, 4594314991293244562],
  [4597049319638433792, 4598175219545276416, 4595923419731591168, 4598175219545276416, 4597049319638433792, 4594314991293244562],
  [4595923419731591168, 4598175219545276416, 4595923419731591168, 4599676419421066581, 4597049319638433792, 4594314991293244562],
  [4595923419731591168, 4598175219545276416, 4597049319638433792, 4601177619296856747, 4597049319638433792, 4594314991293244562],
  [4595923419731591168, 4598175219545276416, 4598175219545276416, 4602678819172646912, 4597049319638433792, 4594314991293244562],
  [4595923419731591168, 4597049319638433792, 4598175219545276416, 4603429419110541995, 4597049319638433792, 4594314991293244562],
  [4595923419731591168, 4595923419731591168, 4598175219545276416, 4604180019048437077, 4597049319638433792, 4594314991293244562],
  [4597049319638433792, 4595923419731591168, 4598175219545276416, 4604930618986332160, 4597049319638433792, 4594314991293244562],
  [4598175219545276416, 4595923419731591168, 4598175219545276416, 4605681218924227243, 4597049319638433792, 4594314991293244562],
  [4598175219545276416, 4595923419731591168, 4597049319638433792, 4606431818862122325, 4597049319638433792, 4594314991293244562],
  [4598175219545276416, 4593671619917905920, 4593671619917905920, 0, 4595923419731591168, 4599676419421066581],
  [4598175219545276416, 4595923419731591168, 4593671619917905920, 4590669220166325589, 4595923419731591168, 4599676419421066581],
  [4598175219545276416, 4598175219545276416, 4593671619917905920, 4595172819793696085, 4595923419731591168, 4599676419421066581],
  [4595923419731591168, 4598175219545276416, 4593671619917905920, 4598175219545276416, 4595923419731591168, 4599676419421066581],
  [4593671619917905920, 4598175219545276416, 4593671619917905920, 4599676419421066581, 4595923419731591168, 4599676419421066581],
  [4593671619917905920, 4598175219545276416, 4595923419731591168, 4601177619296856747, 4595923419731591168, 4599676419421066581],
  [4593671619917905920, 4598175219545276416, 4598175219545276416, 4602678819172646912, 4595923419731591168, 4599676419421066581],
  [4593671619917905920, 4595923419731591168, 4598175219545276416, 4603429419110541995, 4595923419731591168, 4599676419421066581],
  [4593671619917905920, 4593671619917905920, 4598175219545276416, 4604180019048437077, 4595923419731591168, 4599676419421066581],
  [4595923419731591168, 4593671619917905920, 4598175219545276416, 4604930618986332160, 4595923419731591168, 4599676419421066581],
  [4598175219545276416, 4593671619917905920, 4598175219545276416, 4605681218924227243, 4595923419731591168, 4599676419421066581],
  [4598175219545276416, 4593671619917905920, 4595923419731591168, 4606431818862122325, 4595923419731591168, 4599676419421066581],
  [4598175219545276416, 4589168020290535424, 4589168020290535424, 0, 4594797519824748544, 4603579539098121011],
  [4598175219545276416, 4594797519824748544, 4589168020290535424, 4590669220166325589, 4594797519824748544, 4603579539098121011],
  [4598175219545276416, 4598175219545276416, 4589168020290535424, 4595172819793696085, 4594797519824748544, 4603579539098121011],
  [4594797519824748544, 4598175219545276416, 4589168020290535424, 4598175219545276416, 4594797519824748544, 4603579539098121011],
  [4589168020290535424, 4598175219545276416, 4589168020290535424, 4599676419421066581, 4594797519824748544, 4603579539098121011],
  [4589168020290535424, 4598175219545276416, 4594797519824748544, 4601177619296856747, 4594797519824748544, 4603579539098121011],
  [4589168020290535424, 4598175219545276416, 4598175219545276416, 4602678819172646912, 4594797519824748544, 4603579539098121011],
  [4589168020290535424, 4594797519824748544, 4598175219545276416, 4603429419110541995, 4594797519824748544, 4603579539098121011],
  [4589168020290535424, 4589168020290535424, 4598175219545276416, 4604180019048437077, 4594797519824748544, 4603579539098121011],
  [4594797519824748544, 4589168020290535424, 4598175219545276416, 4604930618986332160, 4594797519824748544, 4603579539098121011],
  [4598175219545276416, 4589168020290535424, 4598175219545276416, 4605681218924227243, 4594797519824748544, 4603579539098121011],
  [4598175219545276416, 4589168020290535424, 4594797519824748544, 4606431818862122325, 4594797519824748544, 4603579539098121011],
  [4598175219545276416, 0, 0, 0, 4593671619917905920, 4607182418800017408],
  [4598175219545276416, 4593671619917905920, 0, 4590669220166325589, 4593671619917905920, 4607182418800017408],
  [4598175219545276416, 4598175219545276416, 0, 4595172819793696085, 4593671619917905920, 4607182418800017408],
  [4593671619917905920, 4598175219545276416, 0, 4598175219545276416, 4593671619917905920, 4607182418800017408],
  [0, 4598175219545276416, 0, 4599676419421066581, 4593671619917905920, 4607182418800017408],
  [0, 4598175219545276416, 4593671619917905920, 4601177619296856747, 4593671619917905920, 4607182418800017408],
  [0, 4598175219545276416, 4598175219545276416, 4602678819172646912, 4593671619917905920, 4607182418800017408],
  [0, 4593671619917905920, 4598175219545276416, 4603429419110541995, 4593671619917905920, 4607182418800017408],
  [0, 0, 4598175219545276416, 4604180019048437077, 4593671619917905920, 4607182418800017408],
  [4593671619917905920, 0, 4598175219545276416, 4604930618986332160, 4593671619917905920, 4607182418800017408],
  [4598175219545276416, 0, 4598175219545276416, 4605681218924227243, 4593671619917905920, 4607182418800017408],
  [4598175219545276416, 0, 4593671619917905920, 4606431818862122325, 4593671619917905920, 4607182418800017408],
  [4602678819172646912, 4600427019358961664, 4600427019358961664, 0, 4601552919265804288, 4594314991293244562],
  [4602678819172646912, 4601552919265804288, 4600427019358961664, 4590669220166325589, 4601552919265804288, 4594314991293244562],
  [4602678819172646912, 4602678819172646912, 4600427019358961664, 4595172819793696085, 4601552919265804288, 4594314991293244562],
  [4601552919265804288, 4602678819172646912, 4600427019358961664, 4598175219545276416, 4601552919265804288, 4594314991293244562],
  [4600427019358961664, 4602678819172646912, 4600427019358961664, 4599676419421066581, 4601552919265804288, 4594314991293244562],
  [4600427019358961664, 4602678819172646912, 4601552919265804288, 4601177619296856747, 4601552919265804288, 4594314991293244562],
  [4600427019358961664, 4602678819172646912, 4602678819172646912, 4602678819172646912, 4601552919265804288, 4594314991293244562],
  [4600427019358961664, 4601552919265804288, 4602678819172646912, 4603429419110541995, 4601552919265804288, 4594314991293244562],
  [4600427019358961664, 4600427019358961664, 4602678819172646912, 4604180019048437077, 4601552919265804288, 4594314991293244562],
  [4601552919265804288, 4600427019358961664, 4602678819172646912, 4604930618986332160, 4601552919265804288, 4594314991293244562],
  [4602678819172646912, 4600427019358961664, 4602678819172646912, 4605681218924227243, 4601552919265804288, 4594314991293244562],
  [4602678819172646912, 4600427019358961664, 4601552919265804288, 4606431818862122325, 4601552919265804288, 4594314991293244562],
  [4602678819172646912, 4598175219545276416, 4598175219545276416, 0, 4600427019358961664, 4599676419421066581],
  [4602678819172646912, 4600427019358961664, 4598175219545276416, 4590669220166325589, 4600427019358961664, 4599676419421066581],
  [4602678819172646912, 4602678819172646912, 4598175219545276416, 4595172819793696085, 4600427019358961664, 4599676419421066581],
  [4600427019358961664, 4602678819172646912, 4598175219545276416, 4598175219545276416, 4600427019358961664, 4599676419421066581],
  [4598175219545276416, 4602678819172646912, 4598175219545276416, 4599676419421066581, 4600427019358961664, 4599676419421066581],
  [4598175219545276416, 4602678819172646912, 4600427019358961664, 4601177619296856747, 4600427019358961664, 4599676419421066581],
  [4598175219545276416, 4602678819172646912, 4602678819172646912, 4602678819172646912, 4600427019358961664, 4599676419421066581],
  [4598175219545276416, 4600427019358961664, 4602678819172646912, 4603429419110541995, 4600427019358961664, 4599676419421066581],
  [4598175219545276416, 4598175219545276416, 4602678819172646912, 4604180019048437077, 4600427019358961664, 4599676419421066581],
  [4600427019358961664, 4598175219545276416, 4602678819172646912, 4604930618986332160, 4600427019358961664, 4599676419421066581],
  [4602678819172646912, 4598175219545276416, 4602678819172646912, 4605681218924227243, 4600427019358961664, 4599676419421066581],
  [4602678819172646912, 4598175219545276416, 4600427019358961664, 4606431818862122325, 4600427019358961664, 4599676419421066581],
  [4602678819172646912, 4593671619917905920, 4593671619917905920, 0, 4599301119452119040, 4603579539098121011],
  [4602678819172646912, 4599301119452119040, 4593671619917905920, 4590669220166325589, 4599301119452119040, 4603579539098121011],
  [4602678819172646912, 4602678819172646912, 4593671619917905920, 4595172819793696085, 4599301119452119040, 4603579539098121011],
  [4599301119452119040, 4602678819172646912, 4593671619917905920, 4598175219545276416, 4599301119452119040, 4603579539098121011],
  [4593671619917905920, 4602678819172646912, 4593671619917905920, 4599676419421066581, 4599301119452119040, 4603579539098121011],
  [4593671619917905920, 4602678819172646912, 4599301119452119040, 4601177619296856747, 4599301119452119040, 4603579539098121011],
  [4593671619917905920, 4602678819172646912, 4602678819172646912, 4602678819172646912, 4599301119452119040, 4603579539098121011],
  [4593671619917905920, 4599301119452119040, 4602678819172646912, 4603429419110541995, 4599301119452119040, 4603579539098121011],
  [4593671619917905920, 4593671619917905920, 4602678819172646912, 4604180019048437077, 4599301119452119040, 4603579539098121011],
  [4599301119452119040, 4593671619917905920, 4602678819172646912, 4604930618986332160, 4599301119452119040, 4603579539098121011],
  [4602678819172646912, 4593671619917905920, 4602678819172646912, 4605681218924227243, 4599301119452119040, 4603579539098121011],
  [4602678819172646912, 4593671619917905920, 4599301119452119040, 4606431818862122325, 4599301119452119040, 4603579539098121011],
  [4602678819172646912, 0, 0, 0, 4598175219545276416, 4607182418800017408],
  [4602678819172646912, 4598175219545276416, 0, 4590669220166325589, 4598175219545276416, 4607182418800017408],
  [4602678819172646912, 4602678819172646912, 0, 4595172819793696085, 4598175219545276416, 4607182418800017408],
  [4598175219545276416, 4602678819172646912, 0, 4598175219545276416, 4598175219545276416, 4607182418800017408],
  [0, 4602678819172646912, 0, 4599676419421066581, 4598175219545276416, 4607182418800017408],
  [0, 4602678819172646912, 4598175219545276416, 4601177619296856747, 4598175219545276416, 4607182418800017408],
  [0, 4602678819172646912, 4602678819172646912, 4602678819172646912, 4598175219545276416, 4607182418800017408],
  [0, 4598175219545276416, 4602678819172646912, 4603429419110541995, 4598175219545276416, 4607182418800017408],
  [0, 0, 4602678819172646912, 4604180019048437077, 4598175219545276416, 4607182418800017408],
  [4598175219545276416, 0, 4602678819172646912, 4604930618986332160, 4598175219545276416, 4607182418800017408],
  [4602678819172646912, 0, 4602678819172646912, 4605681218924227243, 4598175219545276416, 4607182418800017408],
  [4602678819172646912, 0, 4598175219545276416, 4606431818862122325, 4598175219545276416, 4607182418800017408],
  [4604930618986332160, 4603241769126068224, 4603241769126068224, 0, 4604086194056200192, 4598584637693219188],
  [4604930618986332160, 4604086194056200192, 4603241769126068224, 4590669220166325589, 4604086194056200192, 4598584637693219188],
  [4604930618986332160, 4604930618986332160, 4603241769126068224, 4595172819793696085, 4604086194056200192, 4598584637693219188],
  [4604086194056200192, 4604930618986332160, 4603241769126068224, 4598175219545276416, 4604086194056200192, 4598584637693219188],
  [4603241769126068224, 4604930618986332160, 4603241769126068224, 4599676419421066581, 4604086194056200192, 4598584637693219188],
  [4603241769126068224, 4604930618986332160, 4604086194056200192, 4601177619296856747, 4604086194056200192, 4598584637693219188],
  [4603241769126068224, 4604930618986332160, 4604930618986332160, 4602678819172646912, 4604086194056200192, 4598584637693219188],
  [4603241769126068224, 4604086194056200192, 4604930618986332160, 4603429419110541995, 4604086194056200192, 4598584637693219188],
  [4603241769126068224, 4603241769126068224, 4604930618986332160, 4604180019048437077, 4604086194056200192, 4598584637693219188],
  [4604086194056200192, 4603241769126068224, 4604930618986332160, 4604930618986332160, 4604086194056200192, 4598584637693219188],
  [4604930618986332160, 4603241769126068224, 4604930618986332160, 4605681218924227243, 4604086194056200192, 4598584637693219188],
  [4604930618986332160, 4603241769126068224, 4604086194056200192, 4606431818862122325, 4604086194056200192, 4598584637693219188],
  [4604930618986332160, 4600427019358961664, 4600427019358961664, 0, 4603241769126068224, 4601392076421969627],
  [4604930618986332160, 4603241769126068224, 4600427019358961664, 4590669220166325589, 4603241769126068224, 4601392076421969627],
  [4604930618986332160, 4604930618986332160, 4600427019358961664, 4595172819793696085, 4603241769126068224, 4601392076421969627],
  [4603241769126068224, 4604930618986332160, 4600427019358961664, 4598175219545276416, 4603241769126068224, 4601392076421969627],
  [4600427019358961664, 4604930618986332160, 4600427019358961664, 4599676419421066581, 4603241769126068224, 4601392076421969627],
  [4600427019358961664, 4604930618986332160, 4603241769126068224, 4601177619296856747, 4603241769126068224, 4601392076421969627],
  [4600427019358961664, 4604930618986332160, 4604930618986332160, 4602678819172646912, 4603241769126068224, 4601392076421969627],
  [4600427019358961664, 4603241769126068224, 4604930618986332160, 4603429419110541995, 4603241769126068224, 4601392076421969627],
  [4600427019358961664, 4600427019358961664, 4604930618986332160, 4604180019048437077, 4603241769126068224, 4601392076421969627],
  [4603241769126068224, 4600427019358961664, 4604930618986332160, 4604930618986332160, 4603241769126068224, 4601392076421969627],
  [4604930618986332160, 4600427019358961664, 4604930618986332160, 4605681218924227243, 4603241769126068224, 4601392076421969627],
  [4604930618986332160, 4600427019358961664, 4603241769126068224, 4606431818862122325, 4603241769126068224, 4601392076421969627],
  [4604930618986332160, 4595923419731591168, 4595923419731591168, 0, 4602115869219225600, 4603579539098121011],
  [4604930618986332160, 4602115869219225600, 4595923419731591168, 4590669220166325589, 4602115869219225600, 4603579539098121011],
  [4604930618986332160, 4604930618986332160, 4595923419731591168, 4595172819793696085, 4602115869219225600, 4603579539098121011],
  [4602115869219225600, 4604930618986332160, 4595923419731591168, 4598175219545276416, 4602115869219225600, 4603579539098121011],
  [4595923419731591168, 4604930618986332160, 4595923419731591168, 4599676419421066581, 4602115869219225600, 4603579539098121011],
  [4595923419731591168, 4604930618986332160, 4602115869219225600, 4601177619296856747, 4602115869219225600, 4603579539098121011],
  [4595923419731591168, 4604930618986332160, 4604930618986332160, 4602678819172646912, 4602115869219225600, 4603579539098121011],
  [4595923419731591168, 4602115869219225600, 4604930618986332160, 4603429419110541995, 4602115869219225600, 4603579539098121011],
  [4595923419731591168, 4595923419731591168, 4604930618986332160, 4604180019048437077, 4602115869219225600, 4603579539098121011],
  [4602115869219225600, 4595923419731591168, 4604930618986332160, 4604930618986332160, 4602115869219225600, 4603579539098121011],
  [4604930618986332160, 4595923419731591168, 4604930618986332160, 4605681218924227243, 4602115869219225600, 4603579539098121011],
  [4604930618986332160, 4595923419731591168, 4602115869219225600, 4606431818862122325, 4602115869219225600, 4603579539098121011],
  [4604930618986332160, 0, 0, 0, 4600427019358961664, 4607182418800017408],
  [4604930618986332160, 4600427019358961664, 0, 4590669220166325589, 4600427019358961664, 4607182418800017408],
  [4604930618986332160, 4604930618986332160, 0, 4595172819793696085, 4600427019358961664, 4607182418800017408],
  [4600427019358961664, 4604930618986332160, 0, 4598175219545276416, 4600427019358961664, 4607182418800017408],
  [0, 4604930618986332160, 0, 4599676419421066581, 4600427019358961664, 4607182418800017408],
  [0, 4604930618986332160, 4600427019358961664, 4601177619296856747, 4600427019358961664, 4607182418800017408],
  [0, 4604930618986332160, 4604930618986332160, 4602678819172646912, 4600427019358961664, 4607182418800017408],
  [0, 4600427019358961664, 4604930618986332160, 4603429419110541995, 4600427019358961664, 4607182418800017408],
  [0, 0, 4604930618986332160, 4604180019048437077, 4600427019358961664, 4607182418800017408],
  [4600427019358961664, 0, 4604930618986332160, 4604930618986332160, 4600427019358961664, 4607182418800017408],
  [4604930618986332160, 0, 4604930618986332160, 4605681218924227243, 4600427019358961664, 4607182418800017408],
  [4604930618986332160, 0, 4600427019358961664, 4606431818862122325, 4600427019358961664, 4607182418800017408],
  [4607182418800017408, 4604930618986332160, 4604930618986332160, 0, 4606056518893174784, 4607182418800017408],
  [4607182418800017408, 4606056518893174784, 4604930618986332160, 4590669220166325589, 4606056518893174784, 4607182418800017408],
  [4607182418800017408, 4607182418800017408, 4604930618986332160, 4595172819793696085, 4606056518893174784, 4607182418800017408],
  [4606056518893174784, 4607182418800017408, 4604930618986332160, 4598175219545276416, 4606056518893174784, 4607182418800017408],
  [4604930618986332160, 4607182418800017408, 4604930618986332160, 4599676419421066581, 4606056518893174784, 4607182418800017408],
  [4604930618986332160, 4607182418800017408, 4606056518893174784, 4601177619296856747, 4606056518893174784, 4607182418800017408],
  [4604930618986332160, 4607182418800017408, 4607182418800017408, 4602678819172646912, 4606056518893174784, 4607182418800017408],
  [4604930618986332160, 4606056518893174784, 4607182418800017408, 4603429419110541995, 4606056518893174784, 4607182418800017408],
  [4604930618986332160, 4604930618986332160, 4607182418800017408, 4604180019048437077, 4606056518893174784, 4607182418800017408],
  [4606056518893174784, 4604930618986332160, 4607182418800017408, 4604930618986332160, 4606056518893174784, 4607182418800017408],
  [4607182418800017408, 4604930618986332160, 4607182418800017408, 4605681218924227243, 4606056518893174784, 4607182418800017408],
  [4607182418800017408, 4604930618986332160, 4606056518893174784, 4606431818862122325, 4606056518893174784, 4607182418800017408],
  [4607182418800017408, 4602678819172646912, 4602678819172646912, 0, 4604930618986332160, 4607182418800017408],
  [4607182418800017408, 4604930618986332160, 4602678819172646912, 4590669220166325589, 4604930618986332160, 4607182418800017408],
  [4607182418800017408, 4607182418800017408, 4602678819172646912, 4595172819793696085, 4604930618986332160, 4607182418800017408],
  [4604930618986332160, 4607182418800017408, 4602678819172646912, 4598175219545276416, 4604930618986332160, 4607182418800017408],
  [4602678819172646912, 4607182418800017408, 4602678819172646912, 4599676419421066581, 4604930618986332160, 4607182418800017408],
  [4602678819172646912, 4607182418800017408, 4604930618986332160, 4601177619296856747, 4604930618986332160, 4607182418800017408],
  [4602678819172646912, 4607182418800017408, 4607182418800017408, 4602678819172646912, 4604930618986332160, 4607182418800017408],
  [4602678819172646912, 4604930618986332160, 4607182418800017408, 4603429419110541995, 4604930618986332160, 4607182418800017408],
  [4602678819172646912, 4602678819172646912, 4607182418800017408, 4604180019048437077, 4604930618986332160, 4607182418800017408],
  [4604930618986332160, 4602678819172646912, 4607182418800017408, 4604930618986332160, 4604930618986332160, 4607182418800017408],
  [4607182418800017408, 4602678819172646912, 4607182418800017408, 4605681218924227243, 4604930618986332160, 4607182418800017408],
  [4607182418800017408, 4602678819172646912, 4604930618986332160, 4606431818862122325, 4604930618986332160, 4607182418800017408],
  [4607182418800017408, 4598175219545276416, 4598175219545276416, 0, 4603804719079489536, 4607182418800017408],
  [4607182418800017408, 4603804719079489536, 4598175219545276416, 4590669220166325589, 4603804719079489536, 4607182418800017408],
  [4607182418800017408, 4607182418800017408, 4598175219545276416, 4595172819793696085, 4603804719079489536, 4607182418800017408],
  [4603804719079489536, 4607182418800017408, 4598175219545276416, 4598175219545276416, 4603804719079489536, 4607182418800017408],
  [4598175219545276416, 4607182418800017408, 4598175219545276416, 4599676419421066581, 4603804719079489536, 4607182418800017408],
  [4598175219545276416, 4607182418800017408, 4603804719079489536, 4601177619296856747, 4603804719079489536, 4607182418800017408],
  [4598175219545276416, 4607182418800017408, 4607182418800017408, 4602678819172646912, 4603804719079489536, 4607182418800017408],
  [4598175219545276416, 4603804719079489536, 4607182418800017408, 4603429419110541995, 4603804719079489536, 4607182418800017408],
  [4598175219545276416, 4598175219545276416, 4607182418800017408, 4604180019048437077, 4603804719079489536, 4607182418800017408],
  [4603804719079489536, 4598175219545276416, 4607182418800017408, 4604930618986332160, 4603804719079489536, 4607182418800017408],
  [4607182418800017408, 4598175219545276416, 4607182418800017408, 4605681218924227243, 4603804719079489536, 4607182418800017408],
  [4607182418800017408, 4598175219545276416, 4603804719079489536, 4606431818862122325, 4603804719079489536, 4607182418800017408],
  [4607182418800017408, 0, 0, 0, 4602678819172646912, 4607182418800017408],
  [4607182418800017408, 4602678819172646912, 0, 4590669220166325589, 4602678819172646912, 4607182418800017408],
  [4607182418800017408, 4607182418800017408, 0, 4595172819793696085, 4602678819172646912, 4607182418800017408],
  [4602678819172646912, 4607182418800017408, 0, 4598175219545276416, 4602678819172646912, 4607182418800017408],
  [0, 4607182418800017408, 0, 4599676419421066581, 4602678819172646912, 4607182418800017408],
  [0, 4607182418800017408, 4602678819172646912, 4601177619296856747, 4602678819172646912, 4607182418800017408],
  [0, 4607182418800017408, 4607182418800017408, 4602678819172646912, 4602678819172646912, 4607182418800017408],
  [0, 4602678819172646912, 4607182418800017408, 4603429419110541995, 4602678819172646912, 4607182418800017408],
  [0, 0, 4607182418800017408, 4604180019048437077, 4602678819172646912, 4607182418800017408],
  [4602678819172646912, 0, 4607182418800017408, 4604930618986332160, 4602678819172646912, 4607182418800017408],
  [4607182418800017408, 0, 4607182418800017408, 4605681218924227243, 4602678819172646912, 4607182418800017408],
  [4607182418800017408, 0, 4602678819172646912, 4606431818862122325, 4602678819172646912, 4607182418800017408]]

noncomputable def fl (m c : Nat) : AV := .flt (UInt64.ofNat (match getF tabL m with
  | some r => match getF r c with
    | some x => x
    | none => 0
  | none => 0))
noncomputable def k12 : UInt64 := 0x4028000000000000
noncomputable def k4 : UInt64 := 0x4010000000000000
noncomputable def k32 : UInt64 := 0x4040000000000000
noncomputable def kh : UInt64 := 0x3fe0000000000000
noncomputable def flM (a : AV) (k : UInt64) : AV := match a with
  | .flt x => .flt (Float64.mul x k)
  | _ => .none
noncomputable def flA (a : AV) (k : UInt64) : AV := match a with
  | .flt x => .flt (Float64.add x k)
  | _ => .none
noncomputable def partI (h s v c : Nat) : AV := .int ((v : Int) * (8 - (s : Int) * (2 - min 2 (max 0 (4 - min (Int.fmod ((h : Int) - c) 12) (Int.fmod ((c : Int) - h) 12))))))
/-- what the letters stand for -/
noncomputable def fam1 (b m : Nat) : AV := match getF [fun m => AV.int (.ofNat (m % 12)), fun m => .int (.ofNat m), fun m => .flt (Float64.div (Float64.ofInt (.ofNat (m % 12))) k12), fun m => fl m 0, fun m => fl m 1, fun m => fl m 2, fun m => flM (fl m 0) k32, fun m => flM (fl m 1) k32, fun m => flM (fl m 2) k32,
    fun m => partI (m % 12) (m / 12 % 4 + 1) (m / 12 / 4 + 1) 0, fun m => partI (m % 12) (m / 12 % 4 + 1) (m / 12 / 4 + 1) 4, fun m => partI (m % 12) (m / 12 % 4 + 1) (m / 12 / 4 + 1) 8, fun m => .int (.ofNat (m % 12 + 4)), fun m => .int (.ofNat (m % 12)), fun m => .int (.ofNat (m % 12 + 4)),
    fun m => .int (.ofNat (m % 12 + 8)), fun m => .int (.ofNat (m % 12 + 12)), fun m => fl m 3, fun m => flM (fl m 3) k12, fun m => flA (flM (fl m 3) k12) kh, fun m => .int (.ofNat (m % 12)), fun m => fl m 4, fun m => fl m 5] b with
  | some f => f m
  | none => .none
noncomputable def famC1 (b q : Nat) : AV := match getF [fun q => AV.int (.ofNat (q % 4 + 1)), fun q => .int (.ofNat (q / 4 + 1)), fun q => .int (.ofNat q), fun q => .int (.ofNat (q / 4)), fun q => .int (.ofNat (q % 4)), fun q => .flt (Float64.div (Float64.ofInt (.ofNat (q % 4 + 1))) k4), fun q => .flt (Float64.div (Float64.ofInt (.ofNat (q / 4 + 1))) k4)] b with
  | some f => f q
  | none => .none
noncomputable abbrev lv1 : Nat → Nat → AV := lv fam1 famC1
/-- which third of the round a cell begins in -/
noncomputable def thr (ts : List Nat) (k a : Nat) : Nat := (match getF ts k with
  | some t => t + a
  | none => a) % 3
noncomputable def R1v (ts : List Nat) (r k : Nat) : AV := match Nat.blt r 1000 with
  | true => .sym r k
  | false => .int (.ofNat (thr ts k (r - 1000)))
noncomputable def rv1 (r n : Nat) : AV := match Nat.blt r 1000 with
  | true => lv1 r n
  | false => .int (.ofNat ((n % 12 / 4 + (r - 1000)) % 3))
noncomputable abbrev i_ (n : Nat) : AV := .int (.ofNat n)
noncomputable def eMod : List Ent := [⟨3, i_ 12, 0⟩, ⟨37, i_ 12, 2⟩, ⟨38, i_ 12, 0⟩, ⟨39, i_ 12, 0⟩, ⟨42, i_ 12, 1⟩, ⟨45, i_ 12, 2⟩, ⟨48, i_ 12, 0⟩, ⟨302, i_ 4, 304⟩]
noncomputable def eDiv2 : List Ent := [⟨0, i_ 4, 1000⟩, ⟨1, i_ 4, 1001⟩, ⟨2, i_ 4, 1002⟩, ⟨3, i_ 12, 302⟩, ⟨3, i_ 48, 303⟩]
noncomputable def eAdd : List Ent := [⟨0, i_ 0, 39⟩, ⟨0, i_ 4, 42⟩, ⟨0, i_ 8, 45⟩, ⟨0, i_ 12, 48⟩, ⟨1, i_ 4, 37⟩, ⟨2, i_ 4, 38⟩, ⟨304, i_ 1, 300⟩, ⟨303, i_ 1, 301⟩, ⟨54, .flt kh, 57⟩, ⟨55, .flt kh, 58⟩, ⟨56, .flt kh, 59⟩]
noncomputable def eDiv : List Ent := [⟨0, .flt k12, 6⟩, ⟨1, .flt k12, 7⟩, ⟨2, .flt k12, 8⟩, ⟨300, .flt k4, 305⟩, ⟨301, .flt k4, 306⟩]
noncomputable def eMul : List Ent := [⟨9, .flt k32, 18⟩, ⟨10, .flt k32, 19⟩, ⟨11, .flt k32, 20⟩, ⟨12, .flt k32, 21⟩, ⟨13, .flt k32, 22⟩, ⟨14, .flt k32, 23⟩, ⟨15, .flt k32, 24⟩, ⟨16, .flt k32, 25⟩, ⟨17, .flt k32, 26⟩, ⟨51, .flt k12, 54⟩, ⟨52, .flt k12, 55⟩, ⟨53, .flt k12, 56⟩]
noncomputable def pEq : List (Nat × Nat) := [(18, 27), (19, 28), (20, 29), (21, 30), (22, 31), (23, 32), (24, 33), (25, 34), (26, 35)]
noncomputable def pNe : List (Nat × Nat) := [(60, 0), (61, 1), (62, 2)]
noncomputable def eInt : List Ent := [⟨57, i_ 0, 60⟩, ⟨58, i_ 0, 61⟩, ⟨59, i_ 0, 62⟩]
noncomputable def bin1 (ts : List Nat) (op : Operator) (a b : AV) : Option AV := match op with
  | .Mod => look (R1v ts) eMod a b
  | .FloorDiv => look (R1v ts) eDiv2 a b
  | .Add => look (R1v ts) eAdd a b
  | .Div => look (R1v ts) eDiv a b
  | .Mult => look (R1v ts) eMul a b
  | _ => none
noncomputable def cmp1 (op : CmpOp) (a b : AV) : Option Bool := match op with
  | .NotEq => lookP false pNe a b
  | _ => none
noncomputable def T1 (ts : List Nat) : Tab := ⟨bin1 ts, cmp1, lookP true pEq, fun a => look (R1v ts) eInt a (i_ 0)⟩
noncomputable def T0 : Tab := ⟨fun _ _ _ => none, fun _ _ _ => none, fun _ _ => none, fun _ => none⟩
noncomputable def bsL : List AV := [.int 49, .int 174, .int 45, .int 119, .int 3]
noncomputable def ev1 : EV := [some (.fix 273), some (.lst 0), none, some (.lst 1), none, none, none, none, none, none, none, none, none, none, none, none]
noncomputable def V1 : VH := ⟨2, [[.sym 3 0, .sym 3 1, .sym 3 2, .sym 3 3, .sym 3 4], bsL], []⟩
noncomputable def isTrueR (r : Option (Flw × EV × VH)) : Bool := match r with
  | some p => match p.1 with
    | .ret v => match v with
      | .bool b => b
      | _ => false
    | .next => false
  | none => false
noncomputable def run1 (ts : List Nat) : Bool := isTrueR (φlawB (T1 ts) ev1 V1)
end
end Mine
end

section
open PySem PySem.W PyProof.Rows
set_option maxRecDepth 100000
set_option maxHeartbeats 1000000
namespace Mine
noncomputable section
/-! the law's first two statements: the five numbers -/
theorem pickA_map (l : List Int) (i j k : Option Int) : ∃ l' : List Int, pickA (l.map AV.int) i j k = l'.map AV.int ∧ l'.length ≤ (sliceRange (sliceBounds i j k l.length).1 (sliceBounds i j k l.length).2.1 (sliceBounds i j k l.length).2.2).length := by
  unfold pickA
  rw [List.length_map]
  refine ⟨(sliceRange (sliceBounds i j k l.length).1 (sliceBounds i j k l.length).2.1 (sliceBounds i j k l.length).2.2).filterMap (l[·]?), ?_, List.length_filterMap_le _ _⟩
  rw [List.map_filterMap]
  congr 1
  funext n
  rw [List.getElem?_map]
theorem intsOf_map : ∀ l : List Int, intsOf (l.map AV.int) = some l
  | [] => rfl
  | a :: l => by
    show bnd (intsOf (l.map AV.int)) (fun r => some (a :: r)) = _
    rw [intsOf_map l]; rfl
theorem short60 : ∀ n, n < 64 → (sliceRange (sliceBounds none (some 60) none n).1 (sliceBounds none (some 60) none n).2.1 (sliceBounds none (some 60) none n).2.2).length ≤ 60 := by decide +kernel
variable {FX : Fix} {as : List Int} {V : VH}
/-- the ledger while the numbers are made -/
structure Inv (V : VH) (l : List Nat) : Prop where
  ok : V.ok
  n2 : 2 ≤ V.n
  os : V.os = []
  g0 : V.get 0 = some bsL
  g1 : V.get 1 = some (l.map fun n => AV.int (.ofNat n))
  lt : ∀ n ∈ l, n < 192
  len : l.length ≤ 5
theorem get_old {i : Nat} {xs} (h : i < V.n) : (V.add xs).get i = V.get i := VH.get_add.trans (if_neg (Nat.ne_of_lt h))
theorem get_new {xs} : (V.add xs).get V.n = some xs := VH.get_add.trans (if_pos rfl)
theorem Inv.add {l} (I : Inv V l) (xs : List AV) : Inv (V.add xs) l := ⟨VH.add_ok I.ok, Nat.le_succ_of_le I.n2, I.os, (get_old (Nat.lt_of_lt_of_le (by decide) I.n2)).trans I.g0, (get_old (Nat.lt_of_lt_of_le (by decide) I.n2)).trans I.g1, I.lt, I.len⟩
noncomputable def partE (FX : Fix) : φE := sliceE FX (sliceE FX (getE 3) noP (someP (constE (.int (60)))) noP) (someP (getE 1)) noP (someP (constE (.int (5))))
noncomputable def eltA (FX : Fix) : φE := binE T0 .Mod (binE T0 .Add (callE sumF (consEs (partE FX) nilEs)) (idxE (getE 2) (getE 1))) (constE (.int (192)))
theorem small_map {α : Type} {f : α → AV} {l : List α} (h : l.length ≤ 60000) : smallL (l.map f) = true := Nat.ble_eq_true_of_le (by rw [lenR_eq, List.length_map]; exact h)
theorem part_ok (hFX : FX 273 = some (as.map AV.int)) (hlen : as.length ≤ 63) (k : Nat) (x : Option AV) :
    ∃ l1 l2 : List Int, partE FX [x, some (.int k), some (.lst 0), some (.fix 273)] V = some (.lst (V.n + 1), (V.add (l1.map .int)).add (l2.map .int)) := by
  obtain ⟨l1, e1, h1⟩ := pickA_map as none (some 60) none
  have h1 : l1.length ≤ 60 := Nat.le_trans h1 (short60 _ (by omega))
  obtain ⟨l2, e2, h2⟩ := pickA_map l1 (some (k : Int)) none (some 5)
  refine ⟨l1, l2, ?_⟩
  have c1 : sliceE FX (getE 3) noP (someP (constE (.int 60))) noP [x, some (.int k), some (.lst 0), some (.fix 273)] V = some (.lst V.n, V.add (l1.map .int)) := by
    show bnd (FX 273) (fun xs => grd (smallL xs && (none : Option Int) != some 0) (some (AV.lst V.n, V.add (pickA xs none (some 60) none)))) = _
    rw [hFX]
    show grd (smallL (as.map AV.int) && true) _ = _
    rw [small_map (by omega), e1]
    rfl
  unfold partE
  show bndO (sliceE FX (getE 3) noP (someP (constE (.int 60))) noP [x, some (.int k), some (.lst 0), some (.fix 273)] V) _ = _
  rw [c1]
  show bnd ((V.add (l1.map .int)).get V.n) (fun xs => grd (smallL xs && (some (5 : Int)) != some 0) (some (AV.lst (V.n + 1), (V.add (l1.map .int)).add (pickA xs (some (k : Int)) none (some 5))))) = _
  rw [get_new]
  show grd (smallL (l1.map AV.int) && true) _ = _
  rw [small_map (by omega), e2]
  rfl
theorem bas_ok : ∀ k : Nat, k < 5 → ∃ z, pick bsL (k : Int) = some (.int z)
  | 0, _ => ⟨_, rfl⟩
  | 1, _ => ⟨_, rfl⟩
  | 2, _ => ⟨_, rfl⟩
  | 3, _ => ⟨_, rfl⟩
  | 4, _ => ⟨_, rfl⟩
  | k + 5, h => absurd h (by omega)
theorem elt_ok (hFX : FX 273 = some (as.map AV.int)) (hlen : as.length ≤ 63) {l} (I : Inv V l) (k : Nat) (hk : k < 5) (x : Option AV) :
    ∃ (m : Nat) (V' : VH), m < 192 ∧ Inv V' l ∧ eltA FX [x, some (.int k), some (.lst 0), some (.fix 273)] V = some (.int (.ofNat m), V') := by
  obtain ⟨l1, l2, c2⟩ := part_ok (V := V) hFX hlen k x
  obtain ⟨z, hz⟩ := bas_ok k hk
  have I2 := (I.add (l1.map .int)).add (l2.map .int)
  have n0 := Int.fmod_nonneg_of_pos (l2.sum + z) (by decide : (0 : Int) < 192)
  have n1 := Int.fmod_lt_of_pos (l2.sum + z) (by decide : (0 : Int) < 192)
  refine ⟨(Int.fmod (l2.sum + z) 192).toNat, _, by omega, I2, ?_⟩
  have c3 : callE sumF (consEs (partE FX) nilEs) [x, some (.int k), some (.lst 0), some (.fix 273)] V = some (.int l2.sum, (V.add (l1.map .int)).add (l2.map .int)) := by
    unfold callE consEs
    rw [c2]
    show bnd (((V.add (l1.map .int)).add (l2.map .int)).get (V.n + 1)) (fun xs => bnd (intsOf xs) fun ns => some (AV.int ns.sum, _)) = _
    rw [show ((V.add (l1.map .int)).add (l2.map .int)).get (V.n + 1) = some (l2.map .int) from get_new]
    show bnd (intsOf (l2.map .int)) _ = _
    rw [intsOf_map]
    rfl
  have c4 : idxE (getE 2) (getE 1) [x, some (.int k), some (.lst 0), some (.fix 273)] ((V.add (l1.map .int)).add (l2.map .int)) = some (.int z, (V.add (l1.map .int)).add (l2.map .int)) := by
    show bnd (bnd (((V.add (l1.map .int)).add (l2.map .int)).get 0) fun xs => pick xs (k : Int)) _ = _
    rw [I2.g0]
    show bnd (pick bsL (k : Int)) _ = _
    rw [hz]
    rfl
  unfold eltA binE
  rw [c3]
  show bndO (bndO (idxE (getE 2) (getE 1) _ _) _) _ = _
  rw [c4]
  show bndO (bnd (forceI (l2.sum + z) fun c => some (AV.int c)) _) _ = _
  rw [forceI_eq]
  show bnd (forceI (Int.fmod (l2.sum + z) 192) fun c => some (AV.int c)) _ = _
  rw [forceI_eq]
  show some (AV.int _, _) = _
  rw [Int.ofNat_eq_natCast, Int.toNat_of_nonneg n0]
theorem compL_rng {α τ φ id n a r ev V} : compL α τ φ id (n + 1) (.rng a (r + 1)) ev V = bndO (α (.int a) ev V) fun ev V => bndO (τ ev V) fun b V =>
    ifB b (bndO (φ ev V) fun x V => bnd (V.get id) fun xs => grd (smallL xs) (compL α τ φ id n (.rng (a + 1) r) ev (V.put id (appR xs [x])))) (compL α τ φ id n (.rng (a + 1) r) ev V) := by
  show bnd (forceI (a + 1) fun b => some (some (AV.int a, It.rng b r))) _ = _
  rw [forceI_eq]
  rfl
theorem turns_ok (hFX : FX 273 = some (as.map AV.int)) (hlen : as.length ≤ 63) (x : Option AV) : ∀ (r k c : Nat) (l : List Nat) (V : VH) (y : Option AV), Inv V l → l.length = k → k + r = 5 →
    ∃ l' V', Inv V' l' ∧ l'.length = 5 ∧ compL (nameA 1) yesT (eltA FX) 1 (r + c + 1) (.rng k r) [x, y, some (.lst 0), some (.fix 273)] V = some V'
  | 0, k, c, l, V, y, I, hl, hk => ⟨l, V, I, by omega, by rw [show 0 + c + 1 = c + 1 by omega]; rfl⟩
  | r + 1, k, c, l, V, y, I, hl, hk => by
    obtain ⟨m, V', hm, I', e⟩ := elt_ok hFX hlen I k (by omega) x
    have I2 : Inv (V'.put 1 (appR (l.map fun n => AV.int (.ofNat n)) [.int (.ofNat m)])) (l ++ [m]) := by
      have n1 : 1 < V'.n := I'.n2
      refine ⟨VH.put_ok I'.ok, I'.n2, I'.os, (VH.get_put I'.ok n1).trans I'.g0, (VH.get_put I'.ok n1).trans ?_, fun n hn => ?_, by rw [List.length_append, List.length_singleton]; omega⟩
      · rw [if_pos rfl, appR_eq, List.map_append]; rfl
      · exact (List.mem_append.mp hn).elim (I'.lt n) fun q => List.mem_singleton.mp q ▸ hm
    obtain ⟨l', V'', I3, h3, e3⟩ := turns_ok hFX hlen x r (k + 1) c (l ++ [m]) _ (some (.int k)) I2 (by rw [List.length_append, List.length_singleton, hl]) (by omega)
    refine ⟨l', V'', I3, h3, ?_⟩
    rw [show r + 1 + c + 1 = (r + c + 1) + 1 by omega]
    rw [compL_rng]
    show bndO (eltA FX [x, some (.int k), some (.lst 0), some (.fix 273)] V) (fun v V => bnd (V.get 1) fun xs => grd (smallL xs) (compL (nameA 1) yesT (eltA FX) 1 (r + c + 1) (.rng ((k : Int) + 1) r) [x, some (.int k), some (.lst 0), some (.fix 273)] (V.put 1 (appR xs [v])))) = _
    rw [e]
    show bnd (V'.get 1) _ = _
    rw [I'.g1]
    show grd (smallL (l.map fun n => AV.int (.ofNat n))) _ = _
    rw [small_map (by omega)]
    exact e3
noncomputable def evA0 : EV := [some (.fix 273), none, none, none, none, none, none, none, none, none, none, none, none, none, none, none]
noncomputable def evA1 : EV := [some (.fix 273), some (.lst 0), none, none, none, none, none, none, none, none, none, none, none, none, none, none]
theorem runA0 : φA0 T0 FX evA0 V00 = some (.next, evA1, V00.add bsL) := rfl
theorem runA1 (hFX : FX 273 = some (as.map AV.int)) (hlen : as.length ≤ 63) : ∃ l V', Inv V' l ∧ l.length = 5 ∧ φA1 T0 FX evA1 (V00.add bsL) = some (.next, ev1, V') := by
  obtain ⟨l, V', I, hl, e⟩ := turns_ok hFX hlen none 5 0 74 [] ((V00.add bsL).add []) none ⟨rfl, Nat.le_refl _, rfl, rfl, rfl, fun _ h => (nomatch h), Nat.zero_le _⟩ rfl rfl
  refine ⟨l, V', I, hl, ?_⟩
  show bndO (bnd (compL (nameA 1) yesT (eltA FX) 1 80 (.rng 0 5) [none, none, some (.lst 0), some (.fix 273)] ((V00.add bsL).add [])) _) _ = _
  rw [show compL (nameA 1) yesT (eltA FX) 1 80 (.rng 0 5) [none, none, some (.lst 0), some (.fix 273)] ((V00.add bsL).add []) = some V' from e]
  rfl
end
end Mine
end

section
open PySem PySem.W PyProof.Rows
set_option maxRecDepth 100000
set_option maxHeartbeats 4000000
namespace Mine
noncomputable section
noncomputable abbrev Ln (op : Operator) (l : List Ent) : Prop := ∀ e ∈ l, LineOK fam1 famC1 rv1 (gBin op) e
theorem rv_lv : ∀ r n, r < 1000 → rv1 r n = lv fam1 famC1 r n := fun r n h => by unfold rv1; rw [Nat.blt_eq.mpr h]
theorem Ln.both {op l r} (h : Ln op l) (k : Ln op r) : Ln op (l ++ r) := List.forall_mem_append.mpr ⟨h, k⟩
theorem Ln.sp {op l} (hb : (l.all fun e => baseJ e.j && (baseJ e.r && Nat.blt e.r 900)) = true) (h : Ln op l) : Ln op (spE l) := lines_sp rv_lv hb h
theorem okMod : Ln .Mod eMod := lines_of (by decide +kernel)
theorem okDiv2 : Ln .FloorDiv eDiv2 := lines_of (by decide +kernel)
theorem okAdd : Ln .Add eAdd :=
  show Ln .Add ([⟨0, i_ 0, 39⟩, ⟨0, i_ 4, 42⟩, ⟨0, i_ 8, 45⟩, ⟨0, i_ 12, 48⟩, ⟨1, i_ 4, 37⟩, ⟨2, i_ 4, 38⟩, ⟨304, i_ 1, 300⟩, ⟨303, i_ 1, 301⟩] ++ spE [⟨54, .flt kh, 57⟩]) from
  .both (lines_of (by decide +kernel)) (.sp (by decide +kernel) (lines_of (by decide +kernel)))
theorem okDiv : Ln .Div eDiv := show Ln .Div (spE [⟨0, .flt k12, 6⟩] ++ [⟨300, .flt k4, 305⟩, ⟨301, .flt k4, 306⟩]) from .both (.sp (by decide +kernel) (lines_of (by decide +kernel))) (lines_of (by decide +kernel))
theorem okMul : Ln .Mult eMul := show Ln .Mult (spE [⟨9, .flt k32, 18⟩, ⟨12, .flt k32, 21⟩, ⟨15, .flt k32, 24⟩, ⟨51, .flt k12, 54⟩]) from .sp (by decide +kernel) (lines_of (by decide +kernel))
theorem okEq : ∀ e ∈ pEq, PairOK fam1 famC1 true gEq e := show ∀ e ∈ spP [(18, 27), (21, 30), (24, 33)], PairOK fam1 famC1 true gEq e from pairs_sp (by decide +kernel) (pairs_of (by decide +kernel))
theorem okNe : ∀ e ∈ pNe, PairOK fam1 famC1 false (gCmp .NotEq) e := show ∀ e ∈ spP [(60, 0)], PairOK fam1 famC1 false (gCmp .NotEq) e from pairs_sp (by decide +kernel) (pairs_of (by decide +kernel))
theorem okInt : ∀ e ∈ eInt, LineOK fam1 famC1 rv1 (fun a _ => gInt a) e := show ∀ e ∈ spE [⟨57, i_ 0, 60⟩], LineOK fam1 famC1 rv1 (fun a _ => gInt a) e from lines_sp rv_lv (by decide +kernel) (lines_of (by decide +kernel))
theorem o_hsv : chkT fam1 famC1 q_hsv (F_hsv_to_rgb T0) = true := by decide +kernel
theorem o_told : chkTT fam1 famC1 q_told (F__law_told T0) = true := by decide +kernel
theorem o_hls : chkT fam1 famC1 q_hls (F_rgb_to_hls T0) = true := by decide +kernel
theorem o_parts : chkL fam1 famC1 q_parts (F__law_parts T0) = true := by decide +kernel
end
end Mine
end

section
open PySem PySem.W PyProof.Rows
set_option maxRecDepth 100000
set_option maxHeartbeats 1000000
namespace Mine
noncomputable section
/-! what _ellipsis_match gives -/
theorem consB_nx {φ ψ : φS} {ev V ev' V'} (h : φ ev V = some (.next, ev', V')) : consB φ ψ ev V = ψ ev' V' := by unfold consB; rw [h]; rfl
theorem consB_rt {φ ψ : φS} {ev V ev' V' v} (h : φ ev V = some (.ret v, ev', V')) : consB φ ψ ev V = some (.ret v, ev', V') := by unfold consB; rw [h]; rfl
theorem getF_map {α β : Type} {f : α → β} : ∀ (l : List α) (i : Nat), getF (l.map f) i = (getF l i).map f
  | [], _ => rfl
  | _ :: _, 0 => rfl
  | _ :: l, i + 1 => getF_map l i
theorem lenR_map {α β : Type} {f : α → β} (l : List α) : lenR (l.map f) = lenR l := by rw [lenR_eq, lenR_eq, List.length_map]
theorem isE_ok {o : Option Str} (h : isE o = true) : o = some ⟨⟨[]⟩⟩ := by
  match o, h with
  | some ⟨⟨[]⟩⟩, _ => rfl
noncomputable def ellB : φS := (consB (assignS (strMethE findF (getE 1) (consEs (getE 5) (consEs (getE 3) (consEs (getE 4) nilEs)))) (nameA 3))
    (consB (ifS (cmpT T0 .Lt (getE 3) (constE (.int (0))))
    (consB (retS (constE (.bool false)))
    nilB)
    nilB)
    (consB (augS (callE lenF (consEs (getE 5) nilEs)) 3)
    nilB)))
variable {x y w : Str} {V : VH} {L : List Str}
/-- the places while the pieces are looked for -/
noncomputable abbrev evE (x y : Str) (i : Nat) (p n : Int) (w : AV) : EV := [some (.str x), some (.str y), some (.lst i), some (.int p), some (.int n), some w]
theorem find_ok {i : Nat} {p : Int} {n : Nat} (hn : n = lenR y.cps.toList) :
    (assignS (strMethE findF (getE 1) (consEs (getE 5) (consEs (getE 3) (consEs (getE 4) nilEs)))) (nameA 3)) (evE x y i p n (.str w)) V = some (.next, evE x y i (findS y w (fromIndex n p) (min (fromIndex n (n : Int)) n)) n (.str w), V) := by
  show bndO (forceN (lenR y.cps.toList) fun m => forceN (fromIndex m p) fun lo => forceN (min (fromIndex m (n : Int)) m) fun hi => forceI (findS y w lo hi) fun k => some (AV.int k, V)) _ = _
  rw [forceN_eq, forceN_eq, forceN_eq, forceI_eq, ← hn]
  rfl
theorem body_hit {i : Nat} {p : Int} {n k : Nat} (hn : n = lenR y.cps.toList) (hk : findS y w (fromIndex n p) (min (fromIndex n (n : Int)) n) = .ofNat k) (hw : smallS w = true) :
    ellB (evE x y i p n (.str w)) V = some (.next, evE x y i ((k : Int) + (lenR w.cps.toList : Nat)) n (.str w), V) := by
  unfold ellB
  rw [consB_nx (find_ok hn), hk]
  have h1 : (ifS (cmpT T0 .Lt (getE 3) (constE (.int (0)))) (consB (retS (constE (.bool false))) nilB) nilB) (evE x y i (.ofNat k) n (.str w)) V = some (.next, evE x y i (.ofNat k) n (.str w), V) := by
    have h0 : cmpT T0 .Lt (getE 3) (constE (.int (0))) (evE x y i (.ofNat k) n (.str w)) V = some (decide (Int.ofNat k < 0), V) := rfl
    unfold ifS
    rw [h0, show decide (Int.ofNat k < 0) = false from decide_eq_false (Int.not_lt.mpr (Int.natCast_nonneg k))]
    rfl
  rw [consB_nx h1]
  have h2 : (augS (callE lenF (consEs (getE 5) nilEs)) 3) (evE x y i (.ofNat k) n (.str w)) V = some (.next, evE x y i ((k : Int) + (lenR w.cps.toList : Nat)) n (.str w), V) := by
    show bndO (grd (smallS w) (forceN (lenR w.cps.toList) fun n => some (AV.int n, V))) _ = _
    rw [hw, forceN_eq]
    show forceI (Int.ofNat k + (lenR w.cps.toList : Nat)) (fun c => some (Flw.next, setF (evE x y i (.ofNat k) n (.str w)) 3 (some (.int c)), V)) = _
    rw [forceI_eq]
    rfl
  rw [consB_nx h2]
  rfl
theorem body_miss {i : Nat} {p : Int} {n k : Nat} (hn : n = lenR y.cps.toList) (hk : findS y w (fromIndex n p) (min (fromIndex n (n : Int)) n) = .negSucc k) :
    ellB (evE x y i p n (.str w)) V = some (.ret (.bool false), evE x y i (.negSucc k) n (.str w), V) := by
  unfold ellB
  rw [consB_nx (find_ok hn), hk]
  refine consB_rt ?_
  show ifB (decide ((Int.negSucc k) < 0)) _ _ = _
  rw [decide_eq_true (Int.negSucc_lt_zero k)]
  rfl
noncomputable def flE (r : Bool) : Flw := match r with
  | true => .next
  | false => .ret (.bool false)
theorem loop_ok {i n : Nat} (hn : n = lenR y.cps.toList) (hV : V.get i = some (strsA L)) : ∀ (t : Nat) (l : List Str) (j : Nat) (p : Int) (w0 : AV) (r : Bool), l.length < t → L.drop j = l → ellGo y n l p = some r →
    ∃ ev, forL (nameA 5) ellB t (.lst i j) (evE x y i p n w0) V = some (flE r, ev, V)
  | 0, _, _, _, _, _, h, _, _ => absurd h (Nat.not_lt_zero _)
  | t + 1, [], j, p, w0, r, _, hl, e => by
    cases e
    refine ⟨evE x y i p n w0, ?_⟩
    have hg : getF (strsA L) j = none := by
      unfold strsA
      rw [getF_map, getF_eq, List.getElem?_eq_none (by have := List.drop_eq_nil_iff.mp hl; exact this)]; rfl
    show bnd (bnd (V.get i) fun xs => some (nextP (getF xs j) (.lst i (j + 1)))) _ = _
    rw [hV]
    show bnd (some (nextP (getF (strsA L) j) (.lst i (j + 1)))) _ = _
    rw [hg]
    rfl
  | t + 1, w :: l, j, p, w0, r, ht, hl, e => by
    have hg : getF (strsA L) j = some (.str w) := by
      have : L[j]? = some w := by rw [← List.head?_drop, hl]; rfl
      unfold strsA
      rw [getF_map, getF_eq, this]; rfl
    have hd : L.drop (j + 1) = l := by rw [← List.tail_drop, hl]; rfl
    have key : forL (nameA 5) ellB (t + 1) (.lst i j) (evE x y i p n w0) V = seqS (ellB (evE x y i p n (.str w)) V) (forL (nameA 5) ellB t (.lst i (j + 1))) := by
      show bnd (bnd (V.get i) fun xs => some (nextP (getF xs j) (.lst i (j + 1)))) _ = _
      rw [hV]
      show bnd (some (nextP (getF (strsA L) j) (.lst i (j + 1)))) _ = _
      rw [hg]
      rfl
    rw [key]
    change forceI (findS y w (fromIndex n p) (min (fromIndex n (n : Int)) n)) (fun k => match k with
      | .ofNat k => grd (smallS w) (forceI ((k : Int) + (lenR w.cps.toList : Nat)) (ellGo y n l))
      | .negSucc _ => some false) = some r at e
    rw [forceI_eq] at e
    cases hk : findS y w (fromIndex n p) (min (fromIndex n (n : Int)) n) with
    | ofNat k =>
      rw [hk] at e
      change grd (smallS w) (forceI ((k : Int) + (lenR w.cps.toList : Nat)) (ellGo y n l)) = some r at e
      rw [forceI_eq] at e
      cases hw : smallS w with
      | false => rw [hw] at e; cases e
      | true =>
        rw [hw] at e
        rw [body_hit hn hk hw]
        exact loop_ok hn hV t l (j + 1) _ _ r (by rw [List.length_cons] at ht; omega) hd e
    | negSucc k =>
      rw [hk] at e
      cases e
      rw [body_miss hn hk]
      exact ⟨_, rfl⟩
theorem ell_run {n : Nat} {r : Bool} (hy : smallS y = true) (hok : ellOK x (splitS x d3S) = true) (hn : n = lenR y.cps.toList) (e : ellGo y n (splitS x d3S) 0 = some r) :
    ∃ V0, F__ellipsis_match T0 [.str x, .str y] V00 = some (.bool r, V0) := by
  unfold ellOK at hok
  simp only [Bool.and_eq_true, Bool.not_eq_true'] at hok
  obtain ⟨hx, hocc, h2, h79, hf, hl⟩ := hok
  have hf := isE_ok hf
  have hl := isE_ok hl
  generalize hL : splitS x d3S = L at *
  have hsm : smallL L = true := Nat.ble_eq_true_of_le (by have := Nat.le_of_ble_eq_true h79; omega)
  refine ⟨V00.add (strsA L), ?_⟩
  have hV : (V00.add (strsA L)).get 0 = some (strsA L) := rfl
  generalize hW : V00.add (strsA L) = W at *
  let ev0 : EV := [some (.str x), some (.str y), none, none, none, none]
  let ev1 : EV := [some (.str x), some (.str y), some (.lst 0), none, none, none]
  let ev2 : EV := [some (.str x), some (.str y), some (.lst 0), some (.int 0), some (.int n), none]
  show bnd (φ__ellipsis_match T0 ev0 V00) (fun r => some (fvOf r.1, r.2.2)) = _
  unfold φ__ellipsis_match
  have s0 : (ifS (cmpT T0 .NotIn (constE (.str ⟨#[46, 46, 46]⟩)) (getE 0)) (consB (retS (cmpE T0 .Eq (getE 0) (getE 1))) nilB) nilB) ev0 V00 = some (.next, ev0, V00) := by
    show ifB (occS x d3S 0 x.length 1).isEmpty _ _ = _
    rw [hocc]
    rfl
  rw [consB_nx s0]
  have s1 : (assignS (strMethE splitF (getE 0) (consEs (constE (.str ⟨#[46, 46, 46]⟩)) nilEs)) (nameA 2)) ev0 V00 = some (.next, ev1, W) := by
    show bndO (grd (smallS x && true) (forceSs (splitS x d3S) fun l => grd (smallL l) (some (AV.lst V00.n, V00.add (strsA l))))) _ = _
    rw [hx, forceSs_eq, hL]
    show bndO (grd (smallL L) (some (AV.lst V00.n, V00.add (strsA L)))) _ = _
    rw [hsm, hW]
    rfl
  rw [consB_nx s1]
  have s2 : (assertS (cmpT T0 .GtE (callE lenF (consEs (getE 2) nilEs)) (constE (.int (2))))) ev1 W = some (.next, ev1, W) := by
    have : callE lenF (consEs (getE 2) nilEs) ev1 W = some (.int (lenR L : Nat), W) := by
      show bnd (W.get 0) (fun xs => grd (smallL xs) (forceN (lenR xs) fun n => some (AV.int n, W))) = _
      rw [hV]
      show grd (smallL (strsA L)) (forceN (lenR (strsA L)) fun n => some (AV.int n, W)) = _
      rw [forceN_eq, show lenR (strsA L) = lenR L from lenR_map L, show smallL (strsA L) = true by unfold smallL; rw [show lenR (strsA L) = lenR L from lenR_map L]; exact hsm]
      rfl
    unfold assertS cmpT
    rw [this]
    show bndO (bnd (some (decide (((lenR L : Nat) : Int) ≥ 2))) fun c => some (c, W)) (fun b V => grd b (some (Flw.next, ev1, V))) = _
    rw [decide_eq_true (by have := Nat.le_of_ble_eq_true h2; omega)]
    rfl
  rw [consB_nx s2]
  have s3 : (swapS (tupE (consEs (constE (.int (0))) (consEs (callE lenF (consEs (getE 1) nilEs)) nilEs))) 3 4) ev1 W = some (.next, ev2, W) := by
    have : callE lenF (consEs (getE 1) nilEs) ev1 W = some (.int n, W) := by
      show grd (smallS y) (forceN (lenR y.cps.toList) fun n => some (AV.int n, W)) = _
      rw [hy, forceN_eq, ← hn]
      rfl
    unfold swapS tupE
    show bndO (bndO (bndO (bndO (callE lenF (consEs (getE 1) nilEs) ev1 W) fun a V => some ([a], V)) fun l V => some (AV.int 0 :: l, V)) fun l V => grd (smallL l) (some (AV.tup l, V))) _ = _
    rw [this]
    rfl
  rw [consB_nx s3]
  have s4 : (assignS (idxE (getE 2) (constE (.int (0)))) (nameA 5)) ev2 W = some (.next, evE x y 0 0 n (.str ⟨⟨[]⟩⟩), W) := by
    show bndO (bnd (bnd (W.get 0) fun xs => pick xs 0) fun c => some (c, W)) _ = _
    rw [hV]
    show bndO (bnd (getF (L.map AV.str) 0) fun c => some (c, W)) _ = _
    rw [getF_map, hf]
    rfl
  rw [consB_nx s4]
  have s5 : (ifS (truT (getE 5)) (consB (ifS (truT (strMethE startswithF (getE 1) (consEs (getE 5) nilEs))) failS (consB (retS (constE (.bool false))) nilB)) nilB) nilB) (evE x y 0 0 n (.str ⟨⟨[]⟩⟩)) W = some (.next, evE x y 0 0 n (.str ⟨⟨[]⟩⟩), W) := rfl
  rw [consB_nx s5]
  have s6 : (assignS (idxE (getE 2) (negE (constE (.int (1))))) (nameA 5)) (evE x y 0 0 n (.str ⟨⟨[]⟩⟩)) W = some (.next, evE x y 0 0 n (.str ⟨⟨[]⟩⟩), W) := by
    show bndO (bnd (bnd (W.get 0) fun xs => pick xs (.negSucc 0)) fun c => some (c, W)) _ = _
    rw [hV]
    show bndO (bnd (grd (true && Nat.blt 0 (lenR (L.map AV.str))) (getF (L.map AV.str) (lenR (L.map AV.str) - 1))) fun c => some (c, W)) _ = _
    rw [getF_map, lenR_map, hl, show Nat.blt 0 (lenR L) = true from Nat.blt_eq.mpr (by have := Nat.le_of_ble_eq_true h2; omega)]
    rfl
  rw [consB_nx s6]
  have s7 : (ifS (truT (getE 5)) (consB (ifS (truT (strMethE endswithF (getE 1) (consEs (getE 5) nilEs))) failS (consB (retS (constE (.bool false))) nilB)) nilB) nilB) (evE x y 0 0 n (.str ⟨⟨[]⟩⟩)) W = some (.next, evE x y 0 0 n (.str ⟨⟨[]⟩⟩), W) := rfl
  rw [consB_nx s7]
  have s8 : (ifS (cmpT T0 .Gt (getE 3) (getE 4)) (consB (retS (constE (.bool false))) nilB) nilB) (evE x y 0 0 n (.str ⟨⟨[]⟩⟩)) W = some (.next, evE x y 0 0 n (.str ⟨⟨[]⟩⟩), W) := by
    have h0 : cmpT T0 .Gt (getE 3) (getE 4) (evE x y 0 0 n (.str ⟨⟨[]⟩⟩)) W = some (decide ((0 : Int) > (n : Int)), W) := rfl
    unfold ifS
    rw [h0, decide_eq_false (by omega)]
    rfl
  rw [consB_nx s8]
  obtain ⟨ev, h9⟩ := loop_ok (x := x) hn hV 80 L 0 0 (.str ⟨⟨[]⟩⟩) r (by have := Nat.le_of_ble_eq_true h79; rw [lenR_eq] at this; omega) rfl e
  have s9 : (forS 80 (lstI (getE 2)) (nameA 5) ellB) (evE x y 0 0 n (.str ⟨⟨[]⟩⟩)) W = some (flE r, ev, W) := by
    rw [← h9, ← hW]
    rfl
  unfold ellB at s9
  cases r with
  | true =>
    rw [consB_nx s9]
    rfl
  | false =>
    rw [consB_rt s9]
    rfl
end
end Mine
end

section
open PySem PySem.W PyProof.Rows
set_option maxRecDepth 100000
set_option maxHeartbeats 1000000
namespace Mine
noncomputable section
section
variable {num : Nat → Nat} {ts : List Nat}
noncomputable abbrev sg1 (num : Nat → Nat) : Sig := sgL fam1 famC1 num
/-- the numbers, and the thirds that they begin in -/
structure Nums (num : Nat → Nat) (ts : List Nat) : Prop where
  lt : ∀ k, num k < 192
  third : ∀ k, (match getF ts k with | some t => t | none => 0) = num k % 12 / 4
theorem R1v_ok (h : Nums num ts) (r k : Nat) : cv (sg1 num) (R1v ts r k) = rv1 r (num k) := by
  unfold R1v rv1
  cases Nat.blt r 1000 with
  | true => rfl
  | false =>
    have e : thr ts k (r - 1000) = (num k % 12 / 4 + (r - 1000)) % 3 := by
      unfold thr
      rw [← h.third k]
      cases getF ts k with
      | some t => rfl
      | none => rw [Nat.zero_add]
    exact congrArg (fun n => AV.int (.ofNat n)) e
theorem T1_ok (h : Nums num ts) : TabOK (sg1 num) (T1 ts) := by
  have G : ∀ {op l a b c}, Ln op l → look (R1v ts) l a b = some c → gBin op (cv (sg1 num) a) (cv (sg1 num) b) = some (cv (sg1 num) c) := fun hc e => look_ok (f := gBin _) h.lt (R1v_ok h) hc e
  refine ⟨fun op a b c e => ?_, fun op a b c e => ?_, fun a b c e => lookP_ok h.lt okEq e⟩
  · cases op with
    | Mod => exact G okMod e
    | FloorDiv => exact G okDiv2 e
    | Add => exact G okAdd e
    | Div => exact G okDiv e
    | Mult => exact G okMul e
    | _ => cases e
  · cases op with
    | NotEq => exact lookP_ok (f := gCmp .NotEq) h.lt okNe e
    | _ => cases e
theorem T1_int (h : Nums num ts) : TabInt (sg1 num) (T1 ts) := fun a c e => look_ok (f := fun a _ => gInt a) h.lt (R1v_ok h) okInt e
theorem T0_ok {σ : Sig} : TabOK σ T0 := ⟨fun _ _ _ _ e => (nomatch e), fun _ _ _ _ e => (nomatch e), fun _ _ _ e => (nomatch e)⟩
theorem T0_int {σ : Sig} : TabInt σ T0 := fun _ _ e => (nomatch e)
theorem Cx.at {X N T T' K mN mg mb} {σ : Sig} (c : Cx X N T K mN mg mb) (h1 : TabOK σ T') (h2 : TabInt σ T') : Cx ⟨X.prog, X.w, X.C, X.h0, σ⟩ N T' K mN mg mb := { c with TO := h1, TI := h2, cls := ⟨c.cls.cls, c.cls.hng, c.cls.hnh, c.cls.hna⟩ }
theorem sound_ell {X : Wd} {d : Nat} {f : Value} (hσ : PlS X.σ) (hF : SoundF X d f (F__ellipsis_match T0)) : SoundF X d f O_ellipsis_match := soundF_orc hσ hF fun args V r e => by
  match args, e with
  | [], e => cases e
  | [_], e => cases e
  | _ :: _ :: _ :: _, e => cases e
  | [a, b], e =>
    have k : Su (onStr a fun x => onStr b fun y => grd (smallS y) (forceSs (splitS x d3S) fun l => grd (ellOK x l) (forceN (lenR y.cps.toList) fun n => bnd (ellGo y n l 0) fun r => some (AV.bool r, V)))) (· = r) := Su.of e rfl
    refine onStr_ok k fun x ea k1 => onStr_ok k1 fun y eb k2 => k2.grd fun hy k3 => ?_
    rw [forceSs_eq] at k3
    refine k3.grd fun hok k4 => ?_
    rw [forceN_eq] at k4
    refine k4.bnde fun c hc k5 => ?_
    subst ea eb
    obtain ⟨V0, h2⟩ := ell_run hy hok rfl hc
    exact ⟨rfl, .inl ⟨.bool c, V0, (k5 : (AV.bool c, V) = r).symm, rfl, h2⟩⟩
theorem orc1 {X N K mN mg mb} (c : Cx X N T0 K mN mg mb) (hn : ∀ k, num k < 192) (hσ : X.σ = sg1 num) : Orc X :=
  ⟨sound_orcT hn hσ (sf_hsv_to_rgb c) rfl o_hsv, sound_orcTT hn hσ (sf__law_told c) rfl o_told, sound_orcT hn hσ (sf_rgb_to_hls c) rfl o_hls, sound_orcL hn hσ (sf__law_parts c) rfl o_parts, sound_ell (hσ ▸ sgL_pl) (sf__ellipsis_match c)⟩
end
end
end Mine
end

section
open PySem PySem.W PyProof.Rows
set_option maxRecDepth 100000
set_option maxHeartbeats 4000000
namespace Mine
noncomputable section
theorem lv_num (n : Nat) : lv1 3 n = .int (.ofNat n) := by
  show AV.int (.ofNat (sh 0 n)) = _
  rw [show sh 0 n = n by unfold sh; omega]
theorem isTrueR_ok {r : Option (Flw × EV × VH)} (h : isTrueR r = true) : ∃ ev V, r = some (.ret (.bool true), ev, V) := by
  cases r with
  | none => cases h
  | some p =>
    obtain ⟨w, ev, V⟩ := p
    cases w with
    | next => cases h
    | ret v => cases v with
      | bool b => exact ⟨ev, V, by rw [show b = true from h]⟩
      | _ => cases h
theorem run1_ok {ts : List Nat} (h : run1 ts = true) : ∃ ev V, φlawB (T1 ts) ev1 V1 = some (.ret (.bool true), ev, V) := isTrueR_ok (r := φlawB (T1 ts) ev1 V1) h
theorem sy_five {l : List Nat} (hl : l.length = 5) {num : Nat → Nat} (h : ∀ k, num k = (getF l k).getD 0) : ([.sym 3 0, .sym 3 1, .sym 3 2, .sym 3 3, .sym 3 4] : List AV).map (cv (sg1 num)) = l.map fun n => AV.int (.ofNat n) := by
  match l, hl with
  | [a, b, c, d, e], _ =>
    show [lv1 3 (num 0), lv1 3 (num 1), lv1 3 (num 2), lv1 3 (num 3), lv1 3 (num 4)] = [AV.int (.ofNat a), .int (.ofNat b), .int (.ofNat c), .int (.ofNat d), .int (.ofNat e)]
    rw [lv_num, lv_num, lv_num, lv_num, lv_num, h 0, h 1, h 2, h 3, h 4]
    rfl
/-- a value that speaks of two lists at most -/
noncomputable def okV : AV → Bool
  | .fix _ => true
  | .lst i => Nat.blt i 2
  | _ => false
theorem VR.two {σ h W η v val} (r : VR σ h W v val) (hv : okV v = true) : VR σ h ⟨W.ρ.take 2, η⟩ v val := by
  cases v with
  | fix a => exact r.fixs .fix
  | lst i => exact r.lsts fun a e => .lst (by
      show (W.ρ.take 2)[i]? = _
      rw [List.getElem?_take_of_lt (Nat.blt_eq.mp hv)]; exact e)
  | _ => cases hv
theorem Step.from_none {Y : Addr → Prop} {h hA hZ : Heap} {WA WB WZ : Wld} (S : Step Y h ⟨[], []⟩ hA WA) (S' : Step Y hA WB hZ WZ) (hρ : ∀ a ∈ WB.ρ, a ∈ WA.ρ) : Step Y h ⟨[], []⟩ hZ WZ := by
  obtain ⟨r, e, f⟩ := S.ρ
  obtain ⟨r', e', f'⟩ := S'.ρ
  have frA : ∀ a ∈ WB.ρ, h.get? a = none := fun a ha => f a (by
    have := hρ a ha
    rwa [e] at this)
  refine ⟨fun a o ho hn hx => S'.ext a o (S.ext a o ho hn hx) (fun ha => by rw [frA a ha] at ho; cases ho) hx, fun a ha => S'.live a (S.live a ha), ⟨WZ.ρ, rfl, fun a ha => ?_⟩, ⟨WZ.η, rfl⟩⟩
  rw [e'] at ha
  refine (List.mem_append.mp ha).elim (frA a) fun z => ?_
  cases q' : h.get? a with
  | none => rfl
  | some o => exact absurd (f' a z) (S.live a (live_of q'))
section
variable {prog : Program} {w : World} {C N : Addr} {K : Frag} {mN mg mb : Str → Option Value} {A : Around} {s : Shared}
/-- the numbers, by their places -/
noncomputable def numOf (l : List Nat) (k : Nat) : Nat := match getF l k with
  | some n => n
  | none => 0
theorem nums_ok {l : List Nat} (h : ∀ n ∈ l, n < 192) : Nums (numOf l) (l.map fun n => n % 12 / 4) := by
  refine ⟨fun k => ?_, fun k => ?_⟩
  · unfold numOf
    rw [getF_eq]
    cases q : l[k]? with
    | none => exact (by decide : 0 < 192)
    | some n => exact h n (List.mem_of_getElem? q)
  · unfold numOf
    rw [getF_eq, getF_eq, List.getElem?_map]
    cases l[k]? <;> rfl
theorem law1_call {Q : Value → Shared → Prop} {as : List Int} (rm : Room A 7) (hp : 0 < s.toks) (c : ∀ σ, Cx ⟨prog, w, C, s.heap, σ⟩ N T0 K mN mg mb) (FO : FixOK s.heap (fixL 273 (as.map AV.int))) (hlen : as.length ≤ 63)
    (hr : ∀ ts : List Nat, ts.length = 5 → (∀ t ∈ ts, t < 3) → run1 ts = true) (hQ : ∀ h' tk, Keeps s.heap h' → Q (.bool true) (on s h' tk)) : wpAny (model prog w) A (call (.ref 272) [.ref 273]) Q NoE s := by
  obtain ⟨l, V', I, hl, e⟩ := runA1 (FX := fixL 273 (as.map AV.int)) rfl hlen
  have n1 : Nums (numOf l) (l.map fun n => n % 12 / 4) := nums_ok I.lt
  have c1 := (c (sg1 (numOf l))).at (T1_ok n1) (T1_int n1)
  have Y := orc1 (c (sg1 (numOf l))) n1.lt rfl
  obtain ⟨evZ, VZ, eZ⟩ := run1_ok (hr (l.map fun n => n % 12 / 4) (by rw [List.length_map, hl]) fun t ht => by
    obtain ⟨n, _, rfl⟩ := List.mem_map.mp ht
    omega)
  obtain ⟨fd, D, hb⟩ := c1.fn_law
  have hsy := sy_five hl (num := numOf l) fun k => by unfold numOf; cases getF l k <;> rfl
  refine wpAny_call (code_fn (X := ⟨prog, w, C, s.heap, sg1 (numOf l)⟩) (d := 6) (params := P_law) (more := M_law) (h1 := s.heap) (tk1 := s.toks) (vals := [.ref 273]) (avs := [.fix 273]) (o := some (.ret (.bool true), VZ)) (W := ⟨[], []⟩) (V := V00) c1.B Nox (fun _ => True) D po_law
    ⟨rm, .empty fun _ _ e => e, hp⟩ hp (fun _ _ q => q) (fun M A' E' Q' hq => ?_) (.cons .fix .nil) rfl (fun {A' env s' Q'} zz hk own k => ?_) fun h tk W' val g v _ => v.bools (G := fun val => Q val (on s h tk)) (hQ h tk g.H.base))
  · rw [hb [.ref 273] rfl]
    exact wpAny_pure hq
  · have z5 : At _ 5 sc_law (P_law ++ M_law) A' s' env ⟨[], []⟩ V00 evA0 := ⟨⟨zz.rm.up (by decide), zz.H, zz.tk⟩, zz.ok, zz.co, zz.R⟩
    show wpAny _ A' (execs (st_law 0 :: st_law 1 :: bd_lawB) env) Q' NoE s'
    refine wp_next (ss_lawA0 (c (sg1 (numOf l))) FO) z5 runA0 fun hA tkA WA gA RA => ?_
    refine wp_next (ss_lawA1 (c (sg1 (numOf l))) FO) (z5.goS gA RA) e fun hB tkB WB gB RB => ?_
    have g := gA.trans gB
    have hl2 : 2 ≤ WB.ρ.length := by rw [g.H.len]; exact I.n2
    have g0 : ∀ {i a}, i < 2 → WB.ρ[i]? = some a → (WB.ρ.take 2)[i]? = some a := fun hi e => by rw [List.getElem?_take_of_lt hi]; exact e
    have HC : HRel ⟨prog, w, C, s.heap, sg1 (numOf l)⟩ hB ⟨WB.ρ.take 2, []⟩ V1 := by
      refine ⟨rfl, by rw [List.length_take]; exact Nat.min_eq_left hl2, g.H.nodup.sublist (List.take_sublist _ _), fun i xs e => ?_, fun a ha => g.H.fresh a (List.mem_of_mem_take ha), g.H.base, fun i j e => (nomatch (show ([] : List Nat)[i]? = some j from e)), rfl⟩
      have hi : i < 2 := VH.get_lt e
      rcases (show i = 0 ∨ i = 1 by omega) with rfl | rfl
      · cases e
        obtain ⟨a, vs, k1, k2, k3⟩ := g.H.ls 0 _ I.g0
        exact ⟨a, vs, g0 (by decide) k1, k2, VRs.to_cv (σ := sg1 (numOf l)) (l := bsL) rfl k3⟩
      · cases e
        obtain ⟨a, vs, k1, k2, k3⟩ := g.H.ls 1 _ I.g1
        rw [← hsy] at k3
        exact ⟨a, vs, g0 (by decide) k1, k2, k3.of_cv sgL_pl rfl⟩
    have RC : EnvRel ⟨prog, w, C, s.heap, sg1 (numOf l)⟩ hB env (P_law ++ M_law) ⟨WB.ρ.take 2, []⟩ ev1 := EnvRel.relabel rfl RB fun i v' val e => ⟨v', e, fun r => r.two (by
      have := List.all_eq_true.mp (show ev1.all (fun o => match o with | some v => okV v | none => true) = true from rfl) _ (List.mem_of_getElem? e)
      exact this)⟩
    exact sb_lawB c1 Y ⟨⟨z5.rm, HC, gB.tk⟩, zz.ok, zz.co, RC⟩ (Su.of eZ fun hZ tkZ WZ flZ gZ RZ frZ => k hZ tkZ WZ flZ ((g.S.from_none gZ.S fun a ha => List.mem_of_mem_take ha).weaken fun _ => .inl) gZ.H gZ.tk frZ trivial)
end
end
end Mine
end

section
open PySem PySem.W PyProof.Rows
namespace Mine
/-! the top's run on a tree of objects, in one look -/
noncomputable abbrev STy := (Code → Sem Fin) → Program → World → SharedT → Thread → Option (SharedT × Thread)
noncomputable def runG (so : Nat → Option Value → Thread → Bool) (sT : STy) (dn : Code → Sem Fin) (p : Program) (w : World) (n₀ : Nat) (ann : Option Value) : Nat → SharedT → Thread → Option SharedT
  | 0, _, _ => none
  | n + 1, s, t => match through t with
    | true => some s
    | false => match so n₀ ann t with
      | false => none
      | true => match sT dn p w s t with
        | some (s', t') => runG so sT dn p w n₀ ann n s' t'
        | none => none
theorem runG_of {tb : String → Option Builtin} {p : Program} {w : World} {n₀ : Nat} {ann : Option Value} : ∀ {n : Nat} {s s' : SharedT} {t : Thread}, runG stepOk stepT (denote tb) p w n₀ ann n s t = some s' → topRun tb p w n₀ ann n s.abs t = some s'.abs
  | 0, _, _, _, h => nomatch h
  | n + 1, s, s', t, h => by
    unfold runG at h
    unfold topRun
    cases ht : through t with
    | true => rw [ht] at h; cases h; rfl
    | false =>
      rw [ht] at h
      cases hk : stepOk n₀ ann t with
      | false => rw [hk] at h; cases h
      | true =>
        rw [hk] at h
        cases hs : stepT (denote tb) p w s t with
        | none => rw [hs] at h; cases h
        | some r => obtain ⟨s₂, t₂⟩ := r; rw [hs] at h; dsimp only; rw [stepT_spec hs]; exact runG_of h
noncomputable def layT : List Obj → BT → Nat → Option BT
  | [], t, _ => some t
  | o :: r, t, n => match ((t.ins n o).get n).isSome with
    | true => layT r (t.ins n o) (n + 1)
    | false => none
theorem layT_of {life : Life} : ∀ {l : List Obj} {t t' : BT} {n : Nat}, layT l t n = some t' → absHeap t' (n + l.length) life = ⟨(absHeap t n life).objs ++ l.toArray, life⟩
  | [], t, t', n, h => by cases h; simp [absHeap]
  | o :: r, t, t', n, h => by
    unfold layT at h
    cases hs : ((t.ins n o).get n).isSome with
    | false => rw [hs] at h; cases h
    | true =>
      rw [hs] at h
      have := layT_of (life := life) h
      rw [List.length_cons, show n + (r.length + 1) = n + 1 + r.length by omega, this, absHeap_ins hs]
      simp [Heap.push]
noncomputable def treeOf (s : Shared) : Option SharedT := (layT s.heap.objs.toList .nil 0).map fun t => ⟨t, s.heap.objs.toList.length, s.heap.life, s.gens, s.drawn, s.toks, s.os⟩
theorem treeOf_of {s : Shared} {t : SharedT} (h : treeOf s = some t) : t.abs = s := by
  obtain ⟨t', h1, rfl⟩ := Option.map_eq_some_iff.mp h
  have := layT_of (life := s.heap.life) h1
  obtain ⟨⟨⟨l⟩, life⟩, gens, drawn, toks, os⟩ := s
  unfold SharedT.abs
  dsimp only at this ⊢
  rw [Nat.zero_add] at this
  rw [this]
  simp [absHeap, BT.list]
/-- the whole run and what is looked at behind it; the words that have a quick form are letters -/
noncomputable def lookG {β : Type} (ie : (String → Option Builtin) → Program → World → Nat → Shared → Thread → Option Shared) (st : Program → Shared × Thread) (fm : Program → Shared → Option Shared) (so : Nat → Option Value → Thread → Bool) (sT : STy)
    (dn : (String → Option Builtin) → Code → Sem Fin) (nm : Heap → Addr → Str → Option Value) (im : List Stmt → List Str) (tb : String → Option Builtin) (p : Program) (w : World) (N : Nat) (F : List Str → Shared → β) : Option β :=
  match ie tb (opening p) w N (st (opening p)).1 (st (opening p)).2 with
  | none => none
  | some s => match fm p s with
    | none => none
    | some s₀ => match s₀.heap.isNs mainGlobals && s₀.gens.size == 0 with
      | false => none
      | true => match treeOf s₀ with
        | none => none
        | some t₀ => match runG so sT (dn tb) p w t₀.n (nm s₀.heap mainGlobals "__annotations__") N t₀ (topStub p) with
          | none => none
          | some s₁ => match staticsOk (im p.main.body) s₀.heap s₁.abs.heap && namesBound p s₁.abs.heap && gensDone s₁.abs && laidKept s₀.heap s₁.abs.heap with
            | true => some (F (im p.main.body) s₁.abs)
            | false => none
theorem lookG_of {β : Type} {tb : String → Option Builtin} {p : Program} {w : World} {N : Nat} {F : List Str → Shared → β} {r : β} (h : lookG importEnds start fenceModules? stepOk stepT denote Heap.nsMap importedModules tb p w N F = some r) :
    (openEnds tb p w N).map (F (importedModules p.main.body)) = some r := by
  unfold lookG at h
  unfold openEnds fencedOpening
  split at h
  · cases h
  · rename_i s e1
    rw [e1]
    split at h
    · cases h
    · rename_i s₀ e2
      show ((fenceModules? p s).bind (topFrom tb p w N)).map _ = _
      rw [e2]
      split at h
      · cases h
      · rename_i e3
        split at h
        · cases h
        · rename_i t₀ e4
          split at h
          · cases h
          · rename_i s₁ e5
            split at h
            · rename_i e6
              show (topFrom tb p w N s₀).map _ = _
              unfold topFrom
              rw [e3]
              have ht := treeOf_of e4
              have hr := runG_of e5
              rw [ht] at hr
              have hn : t₀.n = s₀.heap.objs.size := by
                rw [← ht]
                exact (absHeap_size _ _ _).symm
              rw [hn] at hr
              dsimp only
              rw [hr]
              show (match staticsOk (importedModules p.main.body) s₀.heap s₁.abs.heap && namesBound p s₁.abs.heap && gensDone s₁.abs && laidKept s₀.heap s₁.abs.heap with | true => some s₁.abs | false => none).map _ = _
              rw [e6]
              exact h
            · cases h
end Mine
end

section
open PySem PySem.W PyProof.Rows
set_option maxRecDepth 100000
set_option maxHeartbeats 0
namespace Mine
noncomputable def paramsOf : Stmt → Arguments
  | .FunctionDef _ p _ _ _ _ _ _ _ _ => p
  | _ => ⟨[], [], none, [], [], none, []⟩
noncomputable def kE (P : Params) (n : Str) (t : Tok) (v : Value) : DictEntry := ⟨PyData.keyHash P n, .str n t, v⟩
/-- what of the heap the proof speaks of -/
noncomputable def KG (p : Program) (P : Params) : Frag := [
  (3, ⟨(.type "dict"), none, (.dict #[kE P ⟨#[95, 95, 110, 97, 109, 101, 95, 95]⟩ 165 (.str ⟨#[108, 97, 119, 95, 116, 121, 48, 48, 53, 48, 95, 48, 49]⟩ 690), kE P ⟨#[95, 95, 100, 111, 99, 95, 95]⟩ 166 .none, kE P ⟨#[95, 95, 112, 97, 99, 107, 97, 103, 101, 95, 95]⟩ 167 .none, kE P ⟨#[95, 95, 108, 111, 97, 100, 101, 114, 95, 95]⟩ 168 (.builtin "__main__.__loader__#opaque"), kE P ⟨#[95, 95, 115, 112, 101, 99, 95, 95]⟩ 169 .none, kE P ⟨#[95, 95, 97, 110, 110, 111, 116, 97, 116, 105, 111, 110, 115, 95, 95]⟩ 170 (.ref 6), kE P ⟨#[95, 95, 98, 117, 105, 108, 116, 105, 110, 115, 95, 95]⟩ 171 (.ref 4), kE P ⟨#[95, 95, 102, 105, 108, 101, 95, 95]⟩ 173 (.str ⟨#[47, 99, 108, 97, 105, 109, 47, 99, 117, 116, 46, 112, 121]⟩ 172), kE P ⟨#[95, 95, 99, 97, 99, 104, 101, 100, 95, 95]⟩ 174 .none, kE P ⟨#[95, 115, 114, 101]⟩ 275 (.ref 12), kE P ⟨#[95, 119, 97, 108, 108]⟩ 288 (.ref 38), kE P ⟨#[114, 103, 98, 95, 116, 111, 95, 104, 108, 115]⟩ 309 (.ref 45), kE P ⟨#[114, 103, 98, 95, 116, 111, 95, 104, 115, 118]⟩ 327 (.ref 52), kE P ⟨#[104, 115, 118, 95, 116, 111, 95, 114, 103, 98]⟩ 341 (.ref 59), kE P ⟨#[69, 76, 76, 73, 80, 83, 73, 83, 95, 77, 65, 82, 75, 69, 82]⟩ 345 (.str ⟨#[46, 46, 46]⟩ 344), kE P ⟨#[95, 101, 108, 108, 105, 112, 115, 105, 115, 95, 109, 97, 116, 99, 104]⟩ 357 (.ref 66), kE P ⟨#[95, 116, 119, 105, 110, 95, 114, 101, 95, 49]⟩ 375 (.ref 71), kE P ⟨#[95, 116, 119, 105, 110, 95, 114, 101, 95, 50]⟩ 417 (.ref 76), kE P ⟨#[67, 82, 76, 70]⟩ 419 (.str ⟨#[13, 10]⟩ 418), kE P ⟨#[113, 117, 111, 116, 101, 100, 97, 116, 97]⟩ 426 (.ref 83), kE P ⟨#[116, 115, 112, 101, 99, 105, 97, 108, 115]⟩ 462 (.ref 88), kE P ⟨#[95, 110, 97, 109, 101, 95, 100, 105, 115, 97, 108, 108, 111, 119, 101, 100, 95, 114, 101]⟩ 488 (.ref 93), kE P ⟨#[95, 118, 97, 108, 117, 101, 95, 100, 105, 115, 97, 108, 108, 111, 119, 101, 100, 95, 114, 101]⟩ 522 (.ref 98), kE P ⟨#[95, 102, 111, 114, 109, 97, 116, 112, 97, 114, 97, 109]⟩ 532 (.ref 106), kE P ⟨#[72, 101, 97, 100, 101, 114, 115]⟩ 689 (.ref 227), kE P ⟨#[95, 108, 97, 119, 95, 116, 111, 108, 100]⟩ 701 (.ref 238), kE P ⟨#[95, 108, 97, 119, 95, 114, 117, 110]⟩ 707 (.ref 243), kE P ⟨#[95, 108, 97, 119, 95, 104, 101, 105, 103, 104, 116, 115]⟩ 716 (.ref 250), kE P ⟨#[95, 108, 97, 119, 95, 104, 105, 103, 104, 101, 115, 116]⟩ 722 (.ref 255), kE P ⟨#[95, 108, 97, 119, 95, 100, 117, 101]⟩ 728 (.ref 260), kE P ⟨#[95, 108, 97, 119, 95, 112, 97, 114, 116, 115]⟩ 740 (.ref 267), kE P ⟨#[108, 97, 119]⟩ 746 (.ref 272)] 32), #[]⟩),
  (13, ⟨(.type "dict"), none, (.dict #[kE P ⟨#[95, 95, 109, 111, 100, 117, 108, 101, 95, 95]⟩ 189 (.str ⟨#[95, 102, 114, 111, 122, 101, 110, 95, 105, 109, 112, 111, 114, 116, 108, 105, 98]⟩ 186), kE P ⟨#[95, 95, 102, 105, 114, 115, 116, 108, 105, 110, 101, 110, 111, 95, 95]⟩ 190 (.int 971 187), kE P ⟨#[95, 95, 100, 111, 99, 95, 95]⟩ 191 (.builtin "_frozen_importlib.BuiltinImporter.__doc__:str#opaque"), kE P ⟨#[95, 79, 82, 73, 71, 73, 78]⟩ 192 (.str ⟨#[98, 117, 105, 108, 116, 45, 105, 110]⟩ 188), kE P ⟨#[102, 105, 110, 100, 95, 115, 112, 101, 99]⟩ 193 (.builtin "_frozen_importlib.BuiltinImporter.find_spec#opaque"), kE P ⟨#[99, 114, 101, 97, 116, 101, 95, 109, 111, 100, 117, 108, 101]⟩ 194 (.builtin "_frozen_importlib.BuiltinImporter.create_module#opaque"), kE P ⟨#[101, 120, 101, 99, 95, 109, 111, 100, 117, 108, 101]⟩ 195 (.builtin "_frozen_importlib.BuiltinImporter.exec_module#opaque"), kE P ⟨#[103, 101, 116, 95, 99, 111, 100, 101]⟩ 196 (.builtin "_frozen_importlib.BuiltinImporter.get_code#opaque"), kE P ⟨#[103, 101, 116, 95, 115, 111, 117, 114, 99, 101]⟩ 197 (.builtin "_frozen_importlib.BuiltinImporter.get_source#opaque"), kE P ⟨#[105, 115, 95, 112, 97, 99, 107, 97, 103, 101]⟩ 198 (.builtin "_frozen_importlib.BuiltinImporter.is_package#opaque"), kE P ⟨#[108, 111, 97, 100, 95, 109, 111, 100, 117, 108, 101]⟩ 199 (.builtin "_frozen_importlib.BuiltinImporter.load_module#opaque"), kE P ⟨#[95, 95, 115, 116, 97, 116, 105, 99, 95, 97, 116, 116, 114, 105, 98, 117, 116, 101, 115, 95, 95]⟩ 200 (.ref 15), kE P ⟨#[95, 95, 100, 105, 99, 116, 95, 95]⟩ 202 (.ref 16), kE P ⟨#[95, 95, 119, 101, 97, 107, 114, 101, 102, 95, 95]⟩ 204 (.ref 17)] 14), #[]⟩),
  (14, ⟨(.type "type"), none, (.cls ⟨⟨#[66, 117, 105, 108, 116, 105, 110, 73, 109, 112, 111, 114, 116, 101, 114]⟩, [(.type "object")], [(.ref 14), (.type "object")], 13, ⟨#[66, 117, 105, 108, 116, 105, 110, 73, 109, 112, 111, 114, 116, 101, 114]⟩, true, [], [], false, none, false⟩), #[]⟩),
  (21, ⟨(.type "dict"), none, (.dict #[kE P ⟨#[95, 95, 109, 111, 100, 117, 108, 101, 95, 95]⟩ 227 (.str ⟨#[95, 102, 114, 111, 122, 101, 110, 95, 105, 109, 112, 111, 114, 116, 108, 105, 98]⟩ 217), kE P ⟨#[95, 95, 102, 105, 114, 115, 116, 108, 105, 110, 101, 110, 111, 95, 95]⟩ 228 (.int 562 218), kE P ⟨#[95, 95, 100, 111, 99, 95, 95]⟩ 229 (.builtin "_frozen_importlib.ModuleSpec.__doc__:str#opaque"), kE P ⟨#[95, 95, 105, 110, 105, 116, 95, 95]⟩ 230 (.builtin "_frozen_importlib.ModuleSpec.__init__#opaque"), kE P ⟨#[95, 95, 114, 101, 112, 114, 95, 95]⟩ 231 (.builtin "_frozen_importlib.ModuleSpec.__repr__#opaque"), kE P ⟨#[95, 95, 101, 113, 95, 95]⟩ 232 (.builtin "_frozen_importlib.ModuleSpec.__eq__#opaque"), kE P ⟨#[99, 97, 99, 104, 101, 100]⟩ 233 (.builtin "_frozen_importlib.ModuleSpec.cached#opaque"), kE P ⟨#[112, 97, 114, 101, 110, 116]⟩ 234 (.builtin "_frozen_importlib.ModuleSpec.parent#opaque"), kE P ⟨#[104, 97, 115, 95, 108, 111, 99, 97, 116, 105, 111, 110]⟩ 235 (.builtin "_frozen_importlib.ModuleSpec.has_location#opaque"), kE P ⟨#[95, 95, 115, 116, 97, 116, 105, 99, 95, 97, 116, 116, 114, 105, 98, 117, 116, 101, 115, 95, 95]⟩ 236 (.ref 23), kE P ⟨#[95, 95, 100, 105, 99, 116, 95, 95]⟩ 238 (.ref 24), kE P ⟨#[95, 95, 119, 101, 97, 107, 114, 101, 102, 95, 95]⟩ 240 (.ref 25), kE P ⟨#[95, 95, 104, 97, 115, 104, 95, 95]⟩ 241 .none] 13), #[]⟩),
  (22, ⟨(.type "type"), none, (.cls ⟨⟨#[77, 111, 100, 117, 108, 101, 83, 112, 101, 99]⟩, [(.type "object")], [(.ref 22), (.type "object")], 21, ⟨#[77, 111, 100, 117, 108, 101, 83, 112, 101, 99]⟩, true, [], [], false, none, false⟩), #[]⟩),
  (37, ⟨(.type "code"), none, (.fields #[(.str ⟨#[95, 119, 97, 108, 108]⟩ 282), (.str ⟨#[95, 119, 97, 108, 108]⟩ 283), (.str ⟨#[47, 99, 108, 97, 105, 109, 47, 99, 117, 116, 46, 112, 121]⟩ 284), (.int 2 0), (.int 1 0), (.int 0 0), (.int 0 0), (.int 3 0), (.ref 32), (.bool true), (.int 276 0), (.ref 33), .none, (.ref 34), (.ref 35), (.ref 36), (.int 286 0), (.int 2 0), (.str ⟨#[47, 99, 108, 97, 105, 109, 47, 99, 117, 116, 46, 112, 121]⟩ 287)]), #[]⟩),
  (38, ⟨(.type "function"), none, (.func ⟨⟨#[95, 119, 97, 108, 108]⟩, ⟨#[95, 119, 97, 108, 108]⟩, paramsOf (stAt p 1), .stmts (bodyOf (stAt p 1)), scopeOf (stAt p 1), 3, [], .none, .none, .none, (.str ⟨#[95, 95, 109, 97, 105, 110, 95, 95]⟩ 164), none, (.ref 37), .none, 0⟩), #[]⟩),
  (44, ⟨(.type "code"), none, (.fields #[(.str ⟨#[114, 103, 98, 95, 116, 111, 95, 104, 108, 115]⟩ 291), (.str ⟨#[114, 103, 98, 95, 116, 111, 95, 104, 108, 115]⟩ 292), (.str ⟨#[47, 99, 108, 97, 105, 109, 47, 99, 117, 116, 46, 112, 121]⟩ 293), (.int 6 0), (.int 3 0), (.int 0 0), (.int 0 0), (.int 3 0), (.ref 39), (.bool true), (.int 276 0), (.ref 40), .none, (.ref 41), (.ref 42), (.ref 43), (.int 307 0), (.int 6 0), (.str ⟨#[47, 99, 108, 97, 105, 109, 47, 99, 117, 116, 46, 112, 121]⟩ 308)]), #[]⟩),
  (45, ⟨(.type "function"), none, (.func ⟨⟨#[114, 103, 98, 95, 116, 111, 95, 104, 108, 115]⟩, ⟨#[114, 103, 98, 95, 116, 111, 95, 104, 108, 115]⟩, paramsOf (stAt p 3), .stmts (bodyOf (stAt p 3)), scopeOf (stAt p 3), 3, [], .none, .none, .none, (.str ⟨#[99, 112, 121, 51, 49, 51, 46, 99, 111, 108, 111, 114, 115, 121, 115]⟩ 289), none, (.ref 44), .none, 0⟩), #[]⟩),
  (51, ⟨(.type "code"), none, (.fields #[(.str ⟨#[114, 103, 98, 95, 116, 111, 95, 104, 115, 118]⟩ 310), (.str ⟨#[114, 103, 98, 95, 116, 111, 95, 104, 115, 118]⟩ 311), (.str ⟨#[47, 99, 108, 97, 105, 109, 47, 99, 117, 116, 46, 112, 121]⟩ 312), (.int 29 0), (.int 3 0), (.int 0 0), (.int 0 0), (.int 3 0), (.ref 46), (.bool true), (.int 276 0), (.ref 47), .none, (.ref 48), (.ref 49), (.ref 50), (.int 325 0), (.int 29 0), (.str ⟨#[47, 99, 108, 97, 105, 109, 47, 99, 117, 116, 46, 112, 121]⟩ 326)]), #[]⟩),
  (52, ⟨(.type "function"), none, (.func ⟨⟨#[114, 103, 98, 95, 116, 111, 95, 104, 115, 118]⟩, ⟨#[114, 103, 98, 95, 116, 111, 95, 104, 115, 118]⟩, paramsOf (stAt p 4), .stmts (bodyOf (stAt p 4)), scopeOf (stAt p 4), 3, [], .none, .none, .none, (.str ⟨#[99, 112, 121, 51, 49, 51, 46, 99, 111, 108, 111, 114, 115, 121, 115]⟩ 289), none, (.ref 51), .none, 0⟩), #[]⟩),
  (58, ⟨(.type "code"), none, (.fields #[(.str ⟨#[104, 115, 118, 95, 116, 111, 95, 114, 103, 98]⟩ 328), (.str ⟨#[104, 115, 118, 95, 116, 111, 95, 114, 103, 98]⟩ 329), (.str ⟨#[47, 99, 108, 97, 105, 109, 47, 99, 117, 116, 46, 112, 121]⟩ 330), (.int 48 0), (.int 3 0), (.int 0 0), (.int 0 0), (.int 3 0), (.ref 53), (.bool true), (.int 276 0), (.ref 54), .none, (.ref 55), (.ref 56), (.ref 57), (.int 339 0), (.int 48 0), (.str ⟨#[47, 99, 108, 97, 105, 109, 47, 99, 117, 116, 46, 112, 121]⟩ 340)]), #[]⟩),
  (59, ⟨(.type "function"), none, (.func ⟨⟨#[104, 115, 118, 95, 116, 111, 95, 114, 103, 98]⟩, ⟨#[104, 115, 118, 95, 116, 111, 95, 114, 103, 98]⟩, paramsOf (stAt p 5), .stmts (bodyOf (stAt p 5)), scopeOf (stAt p 5), 3, [], .none, .none, .none, (.str ⟨#[99, 112, 121, 51, 49, 51, 46, 99, 111, 108, 111, 114, 115, 121, 115]⟩ 289), none, (.ref 58), .none, 0⟩), #[]⟩),
  (65, ⟨(.type "code"), none, (.fields #[(.str ⟨#[95, 101, 108, 108, 105, 112, 115, 105, 115, 95, 109, 97, 116, 99, 104]⟩ 346), (.str ⟨#[95, 101, 108, 108, 105, 112, 115, 105, 115, 95, 109, 97, 116, 99, 104]⟩ 347), (.str ⟨#[47, 99, 108, 97, 105, 109, 47, 99, 117, 116, 46, 112, 121]⟩ 348), (.int 71 0), (.int 2 0), (.int 0 0), (.int 0 0), (.int 3 0), (.ref 60), (.bool true), (.int 276 0), (.ref 61), .none, (.ref 62), (.ref 63), (.ref 64), (.int 355 0), (.int 71 0), (.str ⟨#[47, 99, 108, 97, 105, 109, 47, 99, 117, 116, 46, 112, 121]⟩ 356)]), #[]⟩),
  (66, ⟨(.type "function"), none, (.func ⟨⟨#[95, 101, 108, 108, 105, 112, 115, 105, 115, 95, 109, 97, 116, 99, 104]⟩, ⟨#[95, 101, 108, 108, 105, 112, 115, 105, 115, 95, 109, 97, 116, 99, 104]⟩, paramsOf (stAt p 8), .stmts (bodyOf (stAt p 8)), scopeOf (stAt p 8), 3, [], .none, .none, .none, (.str ⟨#[99, 112, 121, 51, 49, 51, 46, 100, 111, 99, 116, 101, 115, 116]⟩ 342), none, (.ref 65), .none, 0⟩), #[]⟩),
  (70, ⟨(.type "tuple"), none, (.seq #[(.int 14 0), (.int 4 0), (.int 0 0), (.int 1 0), (.int 1 0), (.int 6 0), (.int 1 0), (.int 16 0), (.int 46 0), (.int 1 0)] 0), #[]⟩),
  (71, ⟨(.type "re.Pattern"), none, (.fields #[(.str ⟨#[40, 63, 109, 41, 94, 92, 46]⟩ 361), (.int 40 374), (.int 0 0), .none, .none, (.ref 70), (.int 0 0)]), #[]⟩),
  (75, ⟨(.type "tuple"), none, (.seq #[(.int 14 0), (.int 9 0), (.int 4 0), (.int 1 0), (.int 2 0), (.int 16 0), (.int 10 0), (.int 16 0), (.int 13 0), (.int 0 0), (.int 7 0), (.int 7 0), (.int 16 0), (.int 13 0), (.int 16 0), (.int 10 0), (.int 15 0), (.int 18 0), (.int 5 0), (.int 16 0), (.int 10 0), (.int 15 0), (.int 13 0), (.int 11 0), (.int 16 0), (.int 13 0), (.int 5 0), (.int 5 0), (.int 0 0), (.int 16 0), (.int 10 0), (.int 1 0), (.int 15 0), (.int 2 0), (.int 0 0), (.int 1 0)] 0), #[]⟩),
  (76, ⟨(.type "re.Pattern"), none, (.fields #[(.str ⟨#[40, 63, 58, 92, 114, 92, 110, 124, 92, 110, 124, 92, 114, 40, 63, 33, 92, 110, 41, 41]⟩ 377), (.int 32 416), (.int 0 0), .none, .none, (.ref 75), (.int 0 0)]), #[]⟩),
  (82, ⟨(.type "code"), none, (.fields #[(.str ⟨#[113, 117, 111, 116, 101, 100, 97, 116, 97]⟩ 420), (.str ⟨#[113, 117, 111, 116, 101, 100, 97, 116, 97]⟩ 421), (.str ⟨#[47, 99, 108, 97, 105, 109, 47, 99, 117, 116, 46, 112, 121]⟩ 422), (.int 103 0), (.int 1 0), (.int 0 0), (.int 0 0), (.int 3 0), (.ref 77), (.bool true), (.int 276 0), (.ref 78), .none, (.ref 79), (.ref 80), (.ref 81), (.int 424 0), (.int 103 0), (.str ⟨#[47, 99, 108, 97, 105, 109, 47, 99, 117, 116, 46, 112, 121]⟩ 425)]), #[]⟩),
  (83, ⟨(.type "function"), none, (.func ⟨⟨#[113, 117, 111, 116, 101, 100, 97, 116, 97]⟩, ⟨#[113, 117, 111, 116, 101, 100, 97, 116, 97]⟩, paramsOf (stAt p 13), .stmts (bodyOf (stAt p 13)), scopeOf (stAt p 13), 3, [], .none, .none, .none, (.str ⟨#[99, 112, 121, 51, 49, 51, 46, 115, 109, 116, 112, 108, 105, 98]⟩ 358), none, (.ref 82), .none, 0⟩), #[]⟩),
  (87, ⟨(.type "tuple"), none, (.seq #[(.int 14 0), (.int 14 0), (.int 4 0), (.int 1 0), (.int 1 0), (.int 9 0), (.int 0 0), (.int 4227896069 0), (.int 939524097 0), (.int 0 0), (.int 0 0), (.int 0 0), (.int 0 0), (.int 0 0), (.int 0 0), (.int 13 0), (.int 11 0), (.int 9 0), (.int 0 0), (.int 4227896069 0), (.int 939524097 0), (.int 0 0), (.int 0 0), (.int 0 0), (.int 0 0), (.int 0 0), (.int 0 0), (.int 1 0)] 0), #[]⟩),
  (88, ⟨(.type "re.Pattern"), none, (.fields #[(.str ⟨#[91, 32, 92, 40, 92, 41, 60, 62, 64, 44, 59, 58, 92, 92, 34, 47, 92, 91, 92, 93, 92, 63, 61, 93]⟩ 430), (.int 32 461), (.int 0 0), .none, .none, (.ref 87), (.int 0 0)]), #[]⟩),
  (92, ⟨(.type "tuple"), none, (.seq #[(.int 14 0), (.int 10 0), (.int 4 0), (.int 1 0), (.int 1 0), (.int 22 0), (.int 0 0), (.int 31 0), (.int 16 0), (.int 127 0), (.int 0 0), (.int 13 0), (.int 7 0), (.int 22 0), (.int 0 0), (.int 31 0), (.int 16 0), (.int 127 0), (.int 0 0), (.int 1 0)] 0), #[]⟩),
  (93, ⟨(.type "re.Pattern"), none, (.fields #[(.str ⟨#[91, 92, 120, 48, 48, 45, 92, 120, 49, 70, 92, 120, 55, 70, 93]⟩ 464), (.int 32 487), (.int 0 0), .none, .none, (.ref 92), (.int 0 0)]), #[]⟩),
  (97, ⟨(.type "tuple"), none, (.seq #[(.int 14 0), (.int 14 0), (.int 4 0), (.int 1 0), (.int 1 0), (.int 9 0), (.int 4294966783 0), (.int 0 0), (.int 0 0), (.int 2147483648 0), (.int 0 0), (.int 0 0), (.int 0 0), (.int 0 0), (.int 0 0), (.int 13 0), (.int 11 0), (.int 9 0), (.int 4294966783 0), (.int 0 0), (.int 0 0), (.int 2147483648 0), (.int 0 0), (.int 0 0), (.int 0 0), (.int 0 0), (.int 0 0), (.int 1 0)] 0), #[]⟩),
  (98, ⟨(.type "re.Pattern"), none, (.fields #[(.str ⟨#[91, 92, 120, 48, 48, 45, 92, 120, 48, 56, 92, 120, 48, 65, 45, 92, 120, 49, 70, 92, 120, 55, 70, 93]⟩ 490), (.int 32 521), (.int 0 0), .none, .none, (.ref 97), (.int 0 0)]), #[]⟩),
  (99, ⟨(.type "tuple"), none, (.seq #[.none, (.int 1 523)] 0), #[]⟩),
  (105, ⟨(.type "code"), none, (.fields #[(.str ⟨#[95, 102, 111, 114, 109, 97, 116, 112, 97, 114, 97, 109]⟩ 524), (.str ⟨#[95, 102, 111, 114, 109, 97, 116, 112, 97, 114, 97, 109]⟩ 525), (.str ⟨#[47, 99, 108, 97, 105, 109, 47, 99, 117, 116, 46, 112, 121]⟩ 526), (.int 109 0), (.int 3 0), (.int 0 0), (.int 0 0), (.int 3 0), (.ref 100), (.bool true), (.int 276 0), (.ref 101), .none, (.ref 102), (.ref 103), (.ref 104), (.int 530 0), (.int 109 0), (.str ⟨#[47, 99, 108, 97, 105, 109, 47, 99, 117, 116, 46, 112, 121]⟩ 531)]), #[]⟩),
  (106, ⟨(.type "function"), none, (.func ⟨⟨#[95, 102, 111, 114, 109, 97, 116, 112, 97, 114, 97, 109]⟩, ⟨#[95, 102, 111, 114, 109, 97, 116, 112, 97, 114, 97, 109]⟩, paramsOf (stAt p 18), .stmts (bodyOf (stAt p 18)), scopeOf (stAt p 18), 3, [], (.ref 99), .none, .none, (.str ⟨#[99, 112, 121, 51, 49, 51, 46, 119, 115, 103, 105, 114, 101, 102, 46, 104, 101, 97, 100, 101, 114, 115]⟩ 427), none, (.ref 105), .none, 0⟩), #[]⟩),
  (114, ⟨(.type "tuple"), none, (.seq #[.none] 0), #[]⟩),
  (120, ⟨(.type "code"), none, (.fields #[(.str ⟨#[95, 95, 105, 110, 105, 116, 95, 95]⟩ 545), (.str ⟨#[72, 101, 97, 100, 101, 114, 115, 46, 95, 95, 105, 110, 105, 116, 95, 95]⟩ 546), (.str ⟨#[47, 99, 108, 97, 105, 109, 47, 99, 117, 116, 46, 112, 121]⟩ 547), (.int 120 0), (.int 2 0), (.int 0 0), (.int 0 0), (.int 3 0), (.ref 115), (.bool true), (.int 276 0), (.ref 116), .none, (.ref 117), (.ref 118), (.ref 119), (.int 552 0), (.int 120 0), (.str ⟨#[47, 99, 108, 97, 105, 109, 47, 99, 117, 116, 46, 112, 121]⟩ 553)]), #[]⟩),
  (121, ⟨(.type "function"), none, (.func ⟨⟨#[95, 95, 105, 110, 105, 116, 95, 95]⟩, ⟨#[72, 101, 97, 100, 101, 114, 115, 46, 95, 95, 105, 110, 105, 116, 95, 95]⟩, paramsOf (inCls p 19 0), .stmts (bodyOf (inCls p 19 0)), scopeOf (inCls p 19 0), 3, [], (.ref 114), .none, .none, (.str ⟨#[99, 112, 121, 51, 49, 51, 46, 119, 115, 103, 105, 114, 101, 102, 46, 104, 101, 97, 100, 101, 114, 115]⟩ 427), none, (.ref 120), .none, 0⟩), #[]⟩),
  (127, ⟨(.type "code"), none, (.fields #[(.str ⟨#[95, 99, 111, 110, 118, 101, 114, 116, 95, 115, 116, 114, 105, 110, 103, 95, 116, 121, 112, 101]⟩ 555), (.str ⟨#[72, 101, 97, 100, 101, 114, 115, 46, 95, 99, 111, 110, 118, 101, 114, 116, 95, 115, 116, 114, 105, 110, 103, 95, 116, 121, 112, 101]⟩ 556), (.str ⟨#[47, 99, 108, 97, 105, 109, 47, 99, 117, 116, 46, 112, 121]⟩ 557), (.int 130 0), (.int 2 0), (.int 0 0), (.int 1 0), (.int 3 0), (.ref 122), (.bool true), (.int 276 0), (.ref 123), .none, (.ref 124), (.ref 125), (.ref 126), (.int 562 0), (.int 130 0), (.str ⟨#[47, 99, 108, 97, 105, 109, 47, 99, 117, 116, 46, 112, 121]⟩ 563)]), #[]⟩),
  (128, ⟨(.type "function"), none, (.func ⟨⟨#[95, 99, 111, 110, 118, 101, 114, 116, 95, 115, 116, 114, 105, 110, 103, 95, 116, 121, 112, 101]⟩, ⟨#[72, 101, 97, 100, 101, 114, 115, 46, 95, 99, 111, 110, 118, 101, 114, 116, 95, 115, 116, 114, 105, 110, 103, 95, 116, 121, 112, 101]⟩, paramsOf (inCls p 19 1), .stmts (bodyOf (inCls p 19 1)), scopeOf (inCls p 19 1), 3, [], .none, .none, .none, (.str ⟨#[99, 112, 121, 51, 49, 51, 46, 119, 115, 103, 105, 114, 101, 102, 46, 104, 101, 97, 100, 101, 114, 115]⟩ 427), none, (.ref 127), .none, 0⟩), #[]⟩),
  (134, ⟨(.type "code"), none, (.fields #[(.str ⟨#[95, 95, 108, 101, 110, 95, 95]⟩ 565), (.str ⟨#[72, 101, 97, 100, 101, 114, 115, 46, 95, 95, 108, 101, 110, 95, 95]⟩ 566), (.str ⟨#[47, 99, 108, 97, 105, 109, 47, 99, 117, 116, 46, 112, 121]⟩ 567), (.int 138 0), (.int 1 0), (.int 0 0), (.int 0 0), (.int 3 0), (.ref 129), (.bool true), (.int 276 0), (.ref 130), .none, (.ref 131), (.ref 132), (.ref 133), (.int 569 0), (.int 138 0), (.str ⟨#[47, 99, 108, 97, 105, 109, 47, 99, 117, 116, 46, 112, 121]⟩ 570)]), #[]⟩),
  (135, ⟨(.type "function"), none, (.func ⟨⟨#[95, 95, 108, 101, 110, 95, 95]⟩, ⟨#[72, 101, 97, 100, 101, 114, 115, 46, 95, 95, 108, 101, 110, 95, 95]⟩, paramsOf (inCls p 19 2), .stmts (bodyOf (inCls p 19 2)), scopeOf (inCls p 19 2), 3, [], .none, .none, .none, (.str ⟨#[99, 112, 121, 51, 49, 51, 46, 119, 115, 103, 105, 114, 101, 102, 46, 104, 101, 97, 100, 101, 114, 115]⟩ 427), none, (.ref 134), .none, 0⟩), #[]⟩),
  (141, ⟨(.type "code"), none, (.fields #[(.str ⟨#[95, 95, 115, 101, 116, 105, 116, 101, 109, 95, 95]⟩ 572), (.str ⟨#[72, 101, 97, 100, 101, 114, 115, 46, 95, 95, 115, 101, 116, 105, 116, 101, 109, 95, 95]⟩ 573), (.str ⟨#[47, 99, 108, 97, 105, 109, 47, 99, 117, 116, 46, 112, 121]⟩ 574), (.int 141 0), (.int 3 0), (.int 0 0), (.int 0 0), (.int 3 0), (.ref 136), (.bool true), (.int 276 0), (.ref 137), .none, (.ref 138), (.ref 139), (.ref 140), (.int 578 0), (.int 141 0), (.str ⟨#[47, 99, 108, 97, 105, 109, 47, 99, 117, 116, 46, 112, 121]⟩ 579)]), #[]⟩),
  (142, ⟨(.type "function"), none, (.func ⟨⟨#[95, 95, 115, 101, 116, 105, 116, 101, 109, 95, 95]⟩, ⟨#[72, 101, 97, 100, 101, 114, 115, 46, 95, 95, 115, 101, 116, 105, 116, 101, 109, 95, 95]⟩, paramsOf (inCls p 19 3), .stmts (bodyOf (inCls p 19 3)), scopeOf (inCls p 19 3), 3, [], .none, .none, .none, (.str ⟨#[99, 112, 121, 51, 49, 51, 46, 119, 115, 103, 105, 114, 101, 102, 46, 104, 101, 97, 100, 101, 114, 115]⟩ 427), none, (.ref 141), .none, 0⟩), #[]⟩),
  (146, ⟨(.type "code"), none, (.fields #[(.str ⟨#[95, 95, 100, 101, 108, 105, 116, 101, 109, 95, 95]⟩ 581), (.str ⟨#[72, 101, 97, 100, 101, 114, 115, 46, 95, 95, 100, 101, 108, 105, 116, 101, 109, 95, 95]⟩ 582), (.str ⟨#[47, 99, 108, 97, 105, 109, 47, 99, 117, 116, 46, 112, 121]⟩ 583), (.int 145 0), (.int 2 0), (.int 0 0), (.int 0 0), (.int 3 0), (.ref 143), (.bool true), (.int 276 0), (.ref 144), .none, .none, .none, (.ref 145), (.int 584 0), (.int 145 0), (.str ⟨#[47, 99, 108, 97, 105, 109, 47, 99, 117, 116, 46, 112, 121]⟩ 585)]), #[]⟩),
  (147, ⟨(.type "function"), none, (.func ⟨⟨#[95, 95, 100, 101, 108, 105, 116, 101, 109, 95, 95]⟩, ⟨#[72, 101, 97, 100, 101, 114, 115, 46, 95, 95, 100, 101, 108, 105, 116, 101, 109, 95, 95]⟩, paramsOf (inCls p 19 4), .stmts (bodyOf (inCls p 19 4)), scopeOf (inCls p 19 4), 3, [], .none, .none, .none, (.str ⟨#[99, 112, 121, 51, 49, 51, 46, 119, 115, 103, 105, 114, 101, 102, 46, 104, 101, 97, 100, 101, 114, 115]⟩ 427), none, (.ref 146), .none, 0⟩), #[]⟩),
  (153, ⟨(.type "code"), none, (.fields #[(.str ⟨#[95, 95, 103, 101, 116, 105, 116, 101, 109, 95, 95]⟩ 587), (.str ⟨#[72, 101, 97, 100, 101, 114, 115, 46, 95, 95, 103, 101, 116, 105, 116, 101, 109, 95, 95]⟩ 588), (.str ⟨#[47, 99, 108, 97, 105, 109, 47, 99, 117, 116, 46, 112, 121]⟩ 589), (.int 149 0), (.int 2 0), (.int 0 0), (.int 0 0), (.int 3 0), (.ref 148), (.bool true), (.int 276 0), (.ref 149), .none, (.ref 150), (.ref 151), (.ref 152), (.int 592 0), (.int 149 0), (.str ⟨#[47, 99, 108, 97, 105, 109, 47, 99, 117, 116, 46, 112, 121]⟩ 593)]), #[]⟩),
  (154, ⟨(.type "function"), none, (.func ⟨⟨#[95, 95, 103, 101, 116, 105, 116, 101, 109, 95, 95]⟩, ⟨#[72, 101, 97, 100, 101, 114, 115, 46, 95, 95, 103, 101, 116, 105, 116, 101, 109, 95, 95]⟩, paramsOf (inCls p 19 5), .stmts (bodyOf (inCls p 19 5)), scopeOf (inCls p 19 5), 3, [], .none, .none, .none, (.str ⟨#[99, 112, 121, 51, 49, 51, 46, 119, 115, 103, 105, 114, 101, 102, 46, 104, 101, 97, 100, 101, 114, 115]⟩ 427), none, (.ref 153), .none, 0⟩), #[]⟩),
  (160, ⟨(.type "code"), none, (.fields #[(.str ⟨#[95, 95, 99, 111, 110, 116, 97, 105, 110, 115, 95, 95]⟩ 595), (.str ⟨#[72, 101, 97, 100, 101, 114, 115, 46, 95, 95, 99, 111, 110, 116, 97, 105, 110, 115, 95, 95]⟩ 596), (.str ⟨#[47, 99, 108, 97, 105, 109, 47, 99, 117, 116, 46, 112, 121]⟩ 597), (.int 152 0), (.int 2 0), (.int 0 0), (.int 0 0), (.int 3 0), (.ref 155), (.bool true), (.int 276 0), (.ref 156), .none, (.ref 157), (.ref 158), (.ref 159), (.int 600 0), (.int 152 0), (.str ⟨#[47, 99, 108, 97, 105, 109, 47, 99, 117, 116, 46, 112, 121]⟩ 601)]), #[]⟩),
  (161, ⟨(.type "function"), none, (.func ⟨⟨#[95, 95, 99, 111, 110, 116, 97, 105, 110, 115, 95, 95]⟩, ⟨#[72, 101, 97, 100, 101, 114, 115, 46, 95, 95, 99, 111, 110, 116, 97, 105, 110, 115, 95, 95]⟩, paramsOf (inCls p 19 6), .stmts (bodyOf (inCls p 19 6)), scopeOf (inCls p 19 6), 3, [], .none, .none, .none, (.str ⟨#[99, 112, 121, 51, 49, 51, 46, 119, 115, 103, 105, 114, 101, 102, 46, 104, 101, 97, 100, 101, 114, 115]⟩ 427), none, (.ref 160), .none, 0⟩), #[]⟩),
  (165, ⟨(.type "code"), none, (.fields #[(.str ⟨#[103, 101, 116, 95, 97, 108, 108]⟩ 603), (.str ⟨#[72, 101, 97, 100, 101, 114, 115, 46, 103, 101, 116, 95, 97, 108, 108]⟩ 604), (.str ⟨#[47, 99, 108, 97, 105, 109, 47, 99, 117, 116, 46, 112, 121]⟩ 605), (.int 155 0), (.int 2 0), (.int 0 0), (.int 0 0), (.int 3 0), (.ref 162), (.bool true), (.int 276 0), (.ref 163), .none, .none, .none, (.ref 164), (.int 606 0), (.int 155 0), (.str ⟨#[47, 99, 108, 97, 105, 109, 47, 99, 117, 116, 46, 112, 121]⟩ 607)]), #[]⟩),
  (166, ⟨(.type "function"), none, (.func ⟨⟨#[103, 101, 116, 95, 97, 108, 108]⟩, ⟨#[72, 101, 97, 100, 101, 114, 115, 46, 103, 101, 116, 95, 97, 108, 108]⟩, paramsOf (inCls p 19 7), .stmts (bodyOf (inCls p 19 7)), scopeOf (inCls p 19 7), 3, [], .none, .none, .none, (.str ⟨#[99, 112, 121, 51, 49, 51, 46, 119, 115, 103, 105, 114, 101, 102, 46, 104, 101, 97, 100, 101, 114, 115]⟩ 427), none, (.ref 165), .none, 0⟩), #[]⟩),
  (167, ⟨(.type "tuple"), none, (.seq #[.none] 0), #[]⟩),
  (173, ⟨(.type "code"), none, (.fields #[(.str ⟨#[103, 101, 116]⟩ 609), (.str ⟨#[72, 101, 97, 100, 101, 114, 115, 46, 103, 101, 116]⟩ 610), (.str ⟨#[47, 99, 108, 97, 105, 109, 47, 99, 117, 116, 46, 112, 121]⟩ 611), (.int 159 0), (.int 3 0), (.int 0 0), (.int 0 0), (.int 3 0), (.ref 168), (.bool true), (.int 276 0), (.ref 169), .none, (.ref 170), (.ref 171), (.ref 172), (.int 617 0), (.int 159 0), (.str ⟨#[47, 99, 108, 97, 105, 109, 47, 99, 117, 116, 46, 112, 121]⟩ 618)]), #[]⟩),
  (174, ⟨(.type "function"), none, (.func ⟨⟨#[103, 101, 116]⟩, ⟨#[72, 101, 97, 100, 101, 114, 115, 46, 103, 101, 116]⟩, paramsOf (inCls p 19 8), .stmts (bodyOf (inCls p 19 8)), scopeOf (inCls p 19 8), 3, [], (.ref 167), .none, .none, (.str ⟨#[99, 112, 121, 51, 49, 51, 46, 119, 115, 103, 105, 114, 101, 102, 46, 104, 101, 97, 100, 101, 114, 115]⟩ 427), none, (.ref 173), .none, 0⟩), #[]⟩),
  (178, ⟨(.type "code"), none, (.fields #[(.str ⟨#[107, 101, 121, 115]⟩ 620), (.str ⟨#[72, 101, 97, 100, 101, 114, 115, 46, 107, 101, 121, 115]⟩ 621), (.str ⟨#[47, 99, 108, 97, 105, 109, 47, 99, 117, 116, 46, 112, 121]⟩ 622), (.int 166 0), (.int 1 0), (.int 0 0), (.int 0 0), (.int 3 0), (.ref 175), (.bool true), (.int 276 0), (.ref 176), .none, .none, .none, (.ref 177), (.int 623 0), (.int 166 0), (.str ⟨#[47, 99, 108, 97, 105, 109, 47, 99, 117, 116, 46, 112, 121]⟩ 624)]), #[]⟩),
  (179, ⟨(.type "function"), none, (.func ⟨⟨#[107, 101, 121, 115]⟩, ⟨#[72, 101, 97, 100, 101, 114, 115, 46, 107, 101, 121, 115]⟩, paramsOf (inCls p 19 9), .stmts (bodyOf (inCls p 19 9)), scopeOf (inCls p 19 9), 3, [], .none, .none, .none, (.str ⟨#[99, 112, 121, 51, 49, 51, 46, 119, 115, 103, 105, 114, 101, 102, 46, 104, 101, 97, 100, 101, 114, 115]⟩ 427), none, (.ref 178), .none, 0⟩), #[]⟩),
  (183, ⟨(.type "code"), none, (.fields #[(.str ⟨#[118, 97, 108, 117, 101, 115]⟩ 626), (.str ⟨#[72, 101, 97, 100, 101, 114, 115, 46, 118, 97, 108, 117, 101, 115]⟩ 627), (.str ⟨#[47, 99, 108, 97, 105, 109, 47, 99, 117, 116, 46, 112, 121]⟩ 628), (.int 169 0), (.int 1 0), (.int 0 0), (.int 0 0), (.int 3 0), (.ref 180), (.bool true), (.int 276 0), (.ref 181), .none, .none, .none, (.ref 182), (.int 629 0), (.int 169 0), (.str ⟨#[47, 99, 108, 97, 105, 109, 47, 99, 117, 116, 46, 112, 121]⟩ 630)]), #[]⟩),
  (184, ⟨(.type "function"), none, (.func ⟨⟨#[118, 97, 108, 117, 101, 115]⟩, ⟨#[72, 101, 97, 100, 101, 114, 115, 46, 118, 97, 108, 117, 101, 115]⟩, paramsOf (inCls p 19 10), .stmts (bodyOf (inCls p 19 10)), scopeOf (inCls p 19 10), 3, [], .none, .none, .none, (.str ⟨#[99, 112, 121, 51, 49, 51, 46, 119, 115, 103, 105, 114, 101, 102, 46, 104, 101, 97, 100, 101, 114, 115]⟩ 427), none, (.ref 183), .none, 0⟩), #[]⟩),
  (190, ⟨(.type "code"), none, (.fields #[(.str ⟨#[105, 116, 101, 109, 115]⟩ 632), (.str ⟨#[72, 101, 97, 100, 101, 114, 115, 46, 105, 116, 101, 109, 115]⟩ 633), (.str ⟨#[47, 99, 108, 97, 105, 109, 47, 99, 117, 116, 46, 112, 121]⟩ 634), (.int 172 0), (.int 1 0), (.int 0 0), (.int 0 0), (.int 3 0), (.ref 185), (.bool true), (.int 276 0), (.ref 186), .none, (.ref 187), (.ref 188), (.ref 189), (.int 636 0), (.int 172 0), (.str ⟨#[47, 99, 108, 97, 105, 109, 47, 99, 117, 116, 46, 112, 121]⟩ 637)]), #[]⟩),
  (191, ⟨(.type "function"), none, (.func ⟨⟨#[105, 116, 101, 109, 115]⟩, ⟨#[72, 101, 97, 100, 101, 114, 115, 46, 105, 116, 101, 109, 115]⟩, paramsOf (inCls p 19 11), .stmts (bodyOf (inCls p 19 11)), scopeOf (inCls p 19 11), 3, [], .none, .none, .none, (.str ⟨#[99, 112, 121, 51, 49, 51, 46, 119, 115, 103, 105, 114, 101, 102, 46, 104, 101, 97, 100, 101, 114, 115]⟩ 427), none, (.ref 190), .none, 0⟩), #[]⟩),
  (197, ⟨(.type "code"), none, (.fields #[(.str ⟨#[95, 95, 114, 101, 112, 114, 95, 95]⟩ 639), (.str ⟨#[72, 101, 97, 100, 101, 114, 115, 46, 95, 95, 114, 101, 112, 114, 95, 95]⟩ 640), (.str ⟨#[47, 99, 108, 97, 105, 109, 47, 99, 117, 116, 46, 112, 121]⟩ 641), (.int 175 0), (.int 1 0), (.int 0 0), (.int 0 0), (.int 3 0), (.ref 192), (.bool true), (.int 276 0), (.ref 193), .none, (.ref 194), (.ref 195), (.ref 196), (.int 643 0), (.int 175 0), (.str ⟨#[47, 99, 108, 97, 105, 109, 47, 99, 117, 116, 46, 112, 121]⟩ 644)]), #[]⟩),
  (198, ⟨(.type "function"), none, (.func ⟨⟨#[95, 95, 114, 101, 112, 114, 95, 95]⟩, ⟨#[72, 101, 97, 100, 101, 114, 115, 46, 95, 95, 114, 101, 112, 114, 95, 95]⟩, paramsOf (inCls p 19 12), .stmts (bodyOf (inCls p 19 12)), scopeOf (inCls p 19 12), 3, [], .none, .none, .none, (.str ⟨#[99, 112, 121, 51, 49, 51, 46, 119, 115, 103, 105, 114, 101, 102, 46, 104, 101, 97, 100, 101, 114, 115]⟩ 427), none, (.ref 197), .none, 0⟩), #[]⟩),
  (202, ⟨(.type "code"), none, (.fields #[(.str ⟨#[95, 95, 115, 116, 114, 95, 95]⟩ 646), (.str ⟨#[72, 101, 97, 100, 101, 114, 115, 46, 95, 95, 115, 116, 114, 95, 95]⟩ 647), (.str ⟨#[47, 99, 108, 97, 105, 109, 47, 99, 117, 116, 46, 112, 121]⟩ 648), (.int 178 0), (.int 1 0), (.int 0 0), (.int 0 0), (.int 3 0), (.ref 199), (.bool true), (.int 276 0), (.ref 200), .none, .none, .none, (.ref 201), (.int 649 0), (.int 178 0), (.str ⟨#[47, 99, 108, 97, 105, 109, 47, 99, 117, 116, 46, 112, 121]⟩ 650)]), #[]⟩),
  (203, ⟨(.type "function"), none, (.func ⟨⟨#[95, 95, 115, 116, 114, 95, 95]⟩, ⟨#[72, 101, 97, 100, 101, 114, 115, 46, 95, 95, 115, 116, 114, 95, 95]⟩, paramsOf (inCls p 19 13), .stmts (bodyOf (inCls p 19 13)), scopeOf (inCls p 19 13), 3, [], .none, .none, .none, (.str ⟨#[99, 112, 121, 51, 49, 51, 46, 119, 115, 103, 105, 114, 101, 102, 46, 104, 101, 97, 100, 101, 114, 115]⟩ 427), none, (.ref 202), .none, 0⟩), #[]⟩),
  (209, ⟨(.type "code"), none, (.fields #[(.str ⟨#[95, 95, 98, 121, 116, 101, 115, 95, 95]⟩ 652), (.str ⟨#[72, 101, 97, 100, 101, 114, 115, 46, 95, 95, 98, 121, 116, 101, 115, 95, 95]⟩ 653), (.str ⟨#[47, 99, 108, 97, 105, 109, 47, 99, 117, 116, 46, 112, 121]⟩ 654), (.int 181 0), (.int 1 0), (.int 0 0), (.int 0 0), (.int 3 0), (.ref 204), (.bool true), (.int 276 0), (.ref 205), .none, (.ref 206), (.ref 207), (.ref 208), (.int 656 0), (.int 181 0), (.str ⟨#[47, 99, 108, 97, 105, 109, 47, 99, 117, 116, 46, 112, 121]⟩ 657)]), #[]⟩),
  (210, ⟨(.type "function"), none, (.func ⟨⟨#[95, 95, 98, 121, 116, 101, 115, 95, 95]⟩, ⟨#[72, 101, 97, 100, 101, 114, 115, 46, 95, 95, 98, 121, 116, 101, 115, 95, 95]⟩, paramsOf (inCls p 19 14), .stmts (bodyOf (inCls p 19 14)), scopeOf (inCls p 19 14), 3, [], .none, .none, .none, (.str ⟨#[99, 112, 121, 51, 49, 51, 46, 119, 115, 103, 105, 114, 101, 102, 46, 104, 101, 97, 100, 101, 114, 115]⟩ 427), none, (.ref 209), .none, 0⟩), #[]⟩),
  (216, ⟨(.type "code"), none, (.fields #[(.str ⟨#[115, 101, 116, 100, 101, 102, 97, 117, 108, 116]⟩ 659), (.str ⟨#[72, 101, 97, 100, 101, 114, 115, 46, 115, 101, 116, 100, 101, 102, 97, 117, 108, 116]⟩ 660), (.str ⟨#[47, 99, 108, 97, 105, 109, 47, 99, 117, 116, 46, 112, 121]⟩ 661), (.int 184 0), (.int 3 0), (.int 0 0), (.int 0 0), (.int 3 0), (.ref 211), (.bool true), (.int 276 0), (.ref 212), .none, (.ref 213), (.ref 214), (.ref 215), (.int 665 0), (.int 184 0), (.str ⟨#[47, 99, 108, 97, 105, 109, 47, 99, 117, 116, 46, 112, 121]⟩ 666)]), #[]⟩),
  (217, ⟨(.type "function"), none, (.func ⟨⟨#[115, 101, 116, 100, 101, 102, 97, 117, 108, 116]⟩, ⟨#[72, 101, 97, 100, 101, 114, 115, 46, 115, 101, 116, 100, 101, 102, 97, 117, 108, 116]⟩, paramsOf (inCls p 19 15), .stmts (bodyOf (inCls p 19 15)), scopeOf (inCls p 19 15), 3, [], .none, .none, .none, (.str ⟨#[99, 112, 121, 51, 49, 51, 46, 119, 115, 103, 105, 114, 101, 102, 46, 104, 101, 97, 100, 101, 114, 115]⟩ 427), none, (.ref 216), .none, 0⟩), #[]⟩),
  (223, ⟨(.type "code"), none, (.fields #[(.str ⟨#[97, 100, 100, 95, 104, 101, 97, 100, 101, 114]⟩ 668), (.str ⟨#[72, 101, 97, 100, 101, 114, 115, 46, 97, 100, 100, 95, 104, 101, 97, 100, 101, 114]⟩ 669), (.str ⟨#[47, 99, 108, 97, 105, 109, 47, 99, 117, 116, 46, 112, 121]⟩ 670), (.int 187 0), (.int 3 0), (.int 0 0), (.int 0 0), (.int 11 0), (.ref 218), (.bool true), (.int 276 0), (.ref 219), .none, (.ref 220), (.ref 221), (.ref 222), (.int 678 0), (.int 187 0), (.str ⟨#[47, 99, 108, 97, 105, 109, 47, 99, 117, 116, 46, 112, 121]⟩ 679)]), #[]⟩),
  (224, ⟨(.type "function"), none, (.func ⟨⟨#[97, 100, 100, 95, 104, 101, 97, 100, 101, 114]⟩, ⟨#[72, 101, 97, 100, 101, 114, 115, 46, 97, 100, 100, 95, 104, 101, 97, 100, 101, 114]⟩, paramsOf (inCls p 19 16), .stmts (bodyOf (inCls p 19 16)), scopeOf (inCls p 19 16), 3, [], .none, .none, .none, (.str ⟨#[99, 112, 121, 51, 49, 51, 46, 119, 115, 103, 105, 114, 101, 102, 46, 104, 101, 97, 100, 101, 114, 115]⟩ 427), none, (.ref 223), .none, 0⟩), #[]⟩),
  (226, ⟨(.type "dict"), none, (.dict #[kE P ⟨#[95, 95, 109, 111, 100, 117, 108, 101, 95, 95]⟩ 540 (.str ⟨#[99, 112, 121, 51, 49, 51, 46, 119, 115, 103, 105, 114, 101, 102, 46, 104, 101, 97, 100, 101, 114, 115]⟩ 427), kE P ⟨#[95, 95, 102, 105, 114, 115, 116, 108, 105, 110, 101, 110, 111, 95, 95]⟩ 544 (.int 118 543), kE P ⟨#[95, 95, 105, 110, 105, 116, 95, 95]⟩ 554 (.ref 121), kE P ⟨#[95, 99, 111, 110, 118, 101, 114, 116, 95, 115, 116, 114, 105, 110, 103, 95, 116, 121, 112, 101]⟩ 564 (.ref 128), kE P ⟨#[95, 95, 108, 101, 110, 95, 95]⟩ 571 (.ref 135), kE P ⟨#[95, 95, 115, 101, 116, 105, 116, 101, 109, 95, 95]⟩ 580 (.ref 142), kE P ⟨#[95, 95, 100, 101, 108, 105, 116, 101, 109, 95, 95]⟩ 586 (.ref 147), kE P ⟨#[95, 95, 103, 101, 116, 105, 116, 101, 109, 95, 95]⟩ 594 (.ref 154), kE P ⟨#[95, 95, 99, 111, 110, 116, 97, 105, 110, 115, 95, 95]⟩ 602 (.ref 161), kE P ⟨#[103, 101, 116, 95, 97, 108, 108]⟩ 608 (.ref 166), kE P ⟨#[103, 101, 116]⟩ 619 (.ref 174), kE P ⟨#[107, 101, 121, 115]⟩ 625 (.ref 179), kE P ⟨#[118, 97, 108, 117, 101, 115]⟩ 631 (.ref 184), kE P ⟨#[105, 116, 101, 109, 115]⟩ 638 (.ref 191), kE P ⟨#[95, 95, 114, 101, 112, 114, 95, 95]⟩ 645 (.ref 198), kE P ⟨#[95, 95, 115, 116, 114, 95, 95]⟩ 651 (.ref 203), kE P ⟨#[95, 95, 98, 121, 116, 101, 115, 95, 95]⟩ 658 (.ref 210), kE P ⟨#[115, 101, 116, 100, 101, 102, 97, 117, 108, 116]⟩ 667 (.ref 217), kE P ⟨#[97, 100, 100, 95, 104, 101, 97, 100, 101, 114]⟩ 680 (.ref 224), kE P ⟨#[95, 95, 115, 116, 97, 116, 105, 99, 95, 97, 116, 116, 114, 105, 98, 117, 116, 101, 115, 95, 95]⟩ 682 (.ref 225), kE P ⟨#[95, 95, 100, 105, 99, 116, 95, 95]⟩ 684 (.ref 228), kE P ⟨#[95, 95, 119, 101, 97, 107, 114, 101, 102, 95, 95]⟩ 686 (.ref 229), kE P ⟨#[95, 95, 100, 111, 99, 95, 95]⟩ 687 .none] 4), #[]⟩),
  (227, ⟨(.type "type"), none, (.cls ⟨⟨#[72, 101, 97, 100, 101, 114, 115]⟩, [(.type "object")], [(.ref 227), (.type "object")], 226, ⟨#[72, 101, 97, 100, 101, 114, 115]⟩, true, [], [], false, none, false⟩), #[none, none, some (.str ⟨#[72, 101, 97, 100, 101, 114, 115]⟩ 533), some (.str ⟨#[72, 101, 97, 100, 101, 114, 115]⟩ 541), some (.builtin "object.__new__"), some (.bool true)]⟩),
  (237, ⟨(.type "code"), none, (.fields #[(.str ⟨#[95, 108, 97, 119, 95, 116, 111, 108, 100]⟩ 692), (.str ⟨#[95, 108, 97, 119, 95, 116, 111, 108, 100]⟩ 693), (.str ⟨#[47, 99, 108, 97, 105, 109, 47, 99, 117, 116, 46, 112, 121]⟩ 694), (.int 201 0), (.int 1 0), (.int 0 0), (.int 0 0), (.int 3 0), (.ref 232), (.bool true), (.int 276 0), (.ref 233), .none, (.ref 234), (.ref 235), (.ref 236), (.int 699 0), (.int 201 0), (.str ⟨#[47, 99, 108, 97, 105, 109, 47, 99, 117, 116, 46, 112, 121]⟩ 700)]), #[]⟩),
  (238, ⟨(.type "function"), none, (.func ⟨⟨#[95, 108, 97, 119, 95, 116, 111, 108, 100]⟩, ⟨#[95, 108, 97, 119, 95, 116, 111, 108, 100]⟩, paramsOf (stAt p 21), .stmts (bodyOf (stAt p 21)), scopeOf (stAt p 21), 3, [], .none, .none, .none, (.str ⟨#[108, 97, 119, 95, 116, 121, 48, 48, 53, 48, 95, 48, 49]⟩ 690), none, (.ref 237), .none, 0⟩), #[]⟩),
  (242, ⟨(.type "code"), none, (.fields #[(.str ⟨#[95, 108, 97, 119, 95, 114, 117, 110]⟩ 702), (.str ⟨#[95, 108, 97, 119, 95, 114, 117, 110]⟩ 703), (.str ⟨#[47, 99, 108, 97, 105, 109, 47, 99, 117, 116, 46, 112, 121]⟩ 704), (.int 204 0), (.int 2 0), (.int 0 0), (.int 0 0), (.int 3 0), (.ref 239), (.bool true), (.int 276 0), (.ref 240), .none, .none, .none, (.ref 241), (.int 705 0), (.int 204 0), (.str ⟨#[47, 99, 108, 97, 105, 109, 47, 99, 117, 116, 46, 112, 121]⟩ 706)]), #[]⟩),
  (243, ⟨(.type "function"), none, (.func ⟨⟨#[95, 108, 97, 119, 95, 114, 117, 110]⟩, ⟨#[95, 108, 97, 119, 95, 114, 117, 110]⟩, paramsOf (stAt p 22), .stmts (bodyOf (stAt p 22)), scopeOf (stAt p 22), 3, [], .none, .none, .none, (.str ⟨#[108, 97, 119, 95, 116, 121, 48, 48, 53, 48, 95, 48, 49]⟩ 690), none, (.ref 242), .none, 0⟩), #[]⟩),
  (249, ⟨(.type "code"), none, (.fields #[(.str ⟨#[95, 108, 97, 119, 95, 104, 101, 105, 103, 104, 116, 115]⟩ 708), (.str ⟨#[95, 108, 97, 119, 95, 104, 101, 105, 103, 104, 116, 115]⟩ 709), (.str ⟨#[47, 99, 108, 97, 105, 109, 47, 99, 117, 116, 46, 112, 121]⟩ 710), (.int 231 0), (.int 1 0), (.int 0 0), (.int 0 0), (.int 3 0), (.ref 244), (.bool true), (.int 276 0), (.ref 245), .none, (.ref 246), (.ref 247), (.ref 248), (.int 714 0), (.int 231 0), (.str ⟨#[47, 99, 108, 97, 105, 109, 47, 99, 117, 116, 46, 112, 121]⟩ 715)]), #[]⟩),
  (250, ⟨(.type "function"), none, (.func ⟨⟨#[95, 108, 97, 119, 95, 104, 101, 105, 103, 104, 116, 115]⟩, ⟨#[95, 108, 97, 119, 95, 104, 101, 105, 103, 104, 116, 115]⟩, paramsOf (stAt p 23), .stmts (bodyOf (stAt p 23)), scopeOf (stAt p 23), 3, [], .none, .none, .none, (.str ⟨#[108, 97, 119, 95, 116, 121, 48, 48, 53, 48, 95, 48, 49]⟩ 690), none, (.ref 249), .none, 0⟩), #[]⟩),
  (254, ⟨(.type "code"), none, (.fields #[(.str ⟨#[95, 108, 97, 119, 95, 104, 105, 103, 104, 101, 115, 116]⟩ 717), (.str ⟨#[95, 108, 97, 119, 95, 104, 105, 103, 104, 101, 115, 116]⟩ 718), (.str ⟨#[47, 99, 108, 97, 105, 109, 47, 99, 117, 116, 46, 112, 121]⟩ 719), (.int 236 0), (.int 3 0), (.int 0 0), (.int 0 0), (.int 3 0), (.ref 251), (.bool true), (.int 276 0), (.ref 252), .none, .none, .none, (.ref 253), (.int 720 0), (.int 236 0), (.str ⟨#[47, 99, 108, 97, 105, 109, 47, 99, 117, 116, 46, 112, 121]⟩ 721)]), #[]⟩),
  (255, ⟨(.type "function"), none, (.func ⟨⟨#[95, 108, 97, 119, 95, 104, 105, 103, 104, 101, 115, 116]⟩, ⟨#[95, 108, 97, 119, 95, 104, 105, 103, 104, 101, 115, 116]⟩, paramsOf (stAt p 24), .stmts (bodyOf (stAt p 24)), scopeOf (stAt p 24), 3, [], .none, .none, .none, (.str ⟨#[108, 97, 119, 95, 116, 121, 48, 48, 53, 48, 95, 48, 49]⟩ 690), none, (.ref 254), .none, 0⟩), #[]⟩),
  (259, ⟨(.type "code"), none, (.fields #[(.str ⟨#[95, 108, 97, 119, 95, 100, 117, 101]⟩ 723), (.str ⟨#[95, 108, 97, 119, 95, 100, 117, 101]⟩ 724), (.str ⟨#[47, 99, 108, 97, 105, 109, 47, 99, 117, 116, 46, 112, 121]⟩ 725), (.int 239 0), (.int 2 0), (.int 0 0), (.int 0 0), (.int 3 0), (.ref 256), (.bool true), (.int 276 0), (.ref 257), .none, .none, .none, (.ref 258), (.int 726 0), (.int 239 0), (.str ⟨#[47, 99, 108, 97, 105, 109, 47, 99, 117, 116, 46, 112, 121]⟩ 727)]), #[]⟩),
  (260, ⟨(.type "function"), none, (.func ⟨⟨#[95, 108, 97, 119, 95, 100, 117, 101]⟩, ⟨#[95, 108, 97, 119, 95, 100, 117, 101]⟩, paramsOf (stAt p 25), .stmts (bodyOf (stAt p 25)), scopeOf (stAt p 25), 3, [], .none, .none, .none, (.str ⟨#[108, 97, 119, 95, 116, 121, 48, 48, 53, 48, 95, 48, 49]⟩ 690), none, (.ref 259), .none, 0⟩), #[]⟩),
  (266, ⟨(.type "code"), none, (.fields #[(.str ⟨#[95, 108, 97, 119, 95, 112, 97, 114, 116, 115]⟩ 729), (.str ⟨#[95, 108, 97, 119, 95, 112, 97, 114, 116, 115]⟩ 730), (.str ⟨#[47, 99, 108, 97, 105, 109, 47, 99, 117, 116, 46, 112, 121]⟩ 731), (.int 253 0), (.int 3 0), (.int 0 0), (.int 0 0), (.int 3 0), (.ref 261), (.bool true), (.int 276 0), (.ref 262), .none, (.ref 263), (.ref 264), (.ref 265), (.int 738 0), (.int 253 0), (.str ⟨#[47, 99, 108, 97, 105, 109, 47, 99, 117, 116, 46, 112, 121]⟩ 739)]), #[]⟩),
  (267, ⟨(.type "function"), none, (.func ⟨⟨#[95, 108, 97, 119, 95, 112, 97, 114, 116, 115]⟩, ⟨#[95, 108, 97, 119, 95, 112, 97, 114, 116, 115]⟩, paramsOf (stAt p 26), .stmts (bodyOf (stAt p 26)), scopeOf (stAt p 26), 3, [], .none, .none, .none, (.str ⟨#[108, 97, 119, 95, 116, 121, 48, 48, 53, 48, 95, 48, 49]⟩ 690), none, (.ref 266), .none, 0⟩), #[]⟩),
  (271, ⟨(.type "code"), none, (.fields #[(.str ⟨#[108, 97, 119]⟩ 741), (.str ⟨#[108, 97, 119]⟩ 742), (.str ⟨#[47, 99, 108, 97, 105, 109, 47, 99, 117, 116, 46, 112, 121]⟩ 743), (.int 259 0), (.int 1 0), (.int 0 0), (.int 0 0), (.int 3 0), (.ref 268), (.bool true), (.int 276 0), (.ref 269), .none, .none, .none, (.ref 270), (.int 744 0), (.int 259 0), (.str ⟨#[47, 99, 108, 97, 105, 109, 47, 99, 117, 116, 46, 112, 121]⟩ 745)]), #[]⟩),
  (272, ⟨(.type "function"), none, (.func ⟨⟨#[108, 97, 119]⟩, ⟨#[108, 97, 119]⟩, paramsOf (stAt p 27), .stmts (bodyOf (stAt p 27)), scopeOf (stAt p 27), 3, [], .none, .none, .none, (.str ⟨#[108, 97, 119, 95, 116, 121, 48, 48, 53, 48, 95, 48, 49]⟩ 690), none, (.ref 271), .none, 0⟩), #[]⟩)]
noncomputable def KAs : List Addr := [3, 13, 14, 21, 22, 37, 38, 44, 45, 51, 52, 58, 59, 65, 66, 70, 71, 75, 76, 82, 83, 87, 88, 92, 93, 97, 98, 99, 105, 106, 114, 120, 121, 127, 128, 134, 135, 141, 142, 146, 147, 153, 154, 160, 161, 165, 166, 167, 173, 174, 178, 179, 183, 184, 190, 191, 197, 198, 202, 203, 209, 210, 216, 217, 223, 224, 226, 227, 237, 238, 242, 243, 249, 250, 254, 255, 259, 260, 266, 267, 271, 272]
theorem said_q : PySem.W.Fast.tw9446332074065402090 PySem.Challenge.rw_ty0050_01 = true := by kernel_rfl
theorem said : PySem.Challenge.rw_ty0050_01.wellSaid = true := by rw [PySem.W.Fast.te9446332074065402090]; exact said_q
/-- the text's view: law alone -/
noncomputable def qG (p : Program) : Program := { p with main := { p.main with body := [stAt p 27] } }
noncomputable def looseG (p : Program) : List Str := p.boundNames.filter fun n => !(n == ⟨#[108, 97, 119]⟩)
noncomputable def lookAt {β : Type} (os : Program → List Str → List Str → (Shared → Bool) → Bool → Shared → β) (p : Program) (mods : List Str) (s : Shared) := (os (qG p) (looseG p) mods (fun _ => true) true s, PySem.W.X.obsZ KAs s)
theorem left_q : ∀ w : World, lookG PySem.W.Fast.tw10274390034422433532 PySem.W.Fast.tw1435165496053646825 PySem.W.Fast.tw14289696077712309145 PySem.W.Fast.tw6613529449190102663 PySem.W.Fast.tw10156331382660048174 PySem.W.Fast.tw11892475500146522536 PySem.W.Fast.tw8920871248978507458 PySem.W.Fast.tw5923862056798008813 PySem.W.Fast.tw14364793385576792824 PySem.Challenge.pw_ty0050_01 w 4000 (lookAt PySem.W.Fast.tw4187177175401517315 PySem.Challenge.pw_ty0050_01) = some (openGood (qG PySem.Challenge.pw_ty0050_01) (looseG PySem.Challenge.pw_ty0050_01), PySem.W.X.valZ (KG PySem.Challenge.pw_ty0050_01) 273 747 w) := fun w => by kernel_rfl
end Mine
end

section
open PySem PySem.W PyProof.Rows
set_option maxRecDepth 100000
set_option maxHeartbeats 4000000
namespace Mine
open RX
noncomputable section
noncomputable abbrev KK (P : Params) : Frag := KG PySem.Challenge.pw_ty0050_01 P
theorem fx___init__ {w : World} {h : Heap} (KX : (KK w.params).In h) : InitOK h 121 sc___init__ bd___init__ :=
  let ⟨fd, D, Td, od, n, kk, r⟩ := fn_of (a := 121) (sc := sc___init__) (body := bd___init__) (P := fun fd => ∃ (Td : Addr) (od : Obj) (n : Nat) (kk : Value → Option (Array Value) → Sem (List (Str × Value))), fd.defaults = .ref Td ∧ h.get? Td = some od ∧ od.data = .seq #[.none] n ∧
    (∀ v, bindArgs fd ⟨[v], []⟩ = seqItems? fd.defaults >>= kk v) ∧ ∀ v, kk v (some #[.none]) = pure (pI.zip [v, .none])) KX (by kernel_rfl) ⟨by kernel_rfl, by kernel_rfl, by kernel_rfl⟩ fun fd e => by
      obtain rfl := Option.some.inj ((rfl : fnAt (KK w.params) 121 = some _).symm.trans e)
      exact ⟨_, _, _, _, rfl, KX _ _ rfl, rfl, fun v => rfl, fun v => by kernel_rfl⟩
  ⟨fd, Td, od, n, kk, D, r⟩
theorem cx1 {w : World} {h : Heap} {σ : Sig} {mg mb : Str → Option Value} (KX : (KK w.params).In h) (B : Base h mg mb) : Cx ⟨PySem.Challenge.pw_ty0050_01, w, 227, h, σ⟩ 226 T0 (KK w.params) (nsOf (KK w.params) 226) mg mb where
  B := B
  TO := T0_ok
  TI := T0_int
  KX := KX
  cls := ⟨⟨⟨_, _, _, _, _, _, _, _, _, _, _, _, KX _ _ rfl⟩, ns_of KX (by kernel_rfl)⟩, by kernel_rfl, by kernel_rfl, by kernel_rfl⟩
  hdr := ⟨by kernel_rfl, by kernel_rfl, by kernel_rfl, by kernel_rfl, by kernel_rfl, by kernel_rfl, by kernel_rfl, by kernel_rfl⟩
  s_str := by kernel_rfl
  s_fn := by kernel_rfl
  p1 := pat_of KX (by kernel_rfl)
  p2 := pat_of KX (by kernel_rfl)
  pN := pat_of KX (by kernel_rfl)
  pV := pat_of KX (by kernel_rfl)
  g_max := glob_b KX B (by kernel_rfl) (by kernel_rfl) (by decide) (by kernel_rfl)
  g_min := glob_b KX B (by kernel_rfl) (by kernel_rfl) (by decide) (by kernel_rfl)
  g_len := glob_b KX B (by kernel_rfl) (by kernel_rfl) (by decide) (by kernel_rfl)
  g_sum := glob_b KX B (by kernel_rfl) (by kernel_rfl) (by decide) (by kernel_rfl)
  g_int := glob_b KX B (by kernel_rfl) (by kernel_rfl) (by decide) (by kernel_rfl)
  g_range := glob_b KX B (by kernel_rfl) (by kernel_rfl) (by decide) (by kernel_rfl)
  g_type := glob_b KX B (by kernel_rfl) (by kernel_rfl) (by decide) (by kernel_rfl)
  g_str := glob_b KX B (by kernel_rfl) (by kernel_rfl) (by decide) (by kernel_rfl)
  g_list := glob_b KX B (by kernel_rfl) (by kernel_rfl) (by decide) (by kernel_rfl)
  g_Headers := glob_of KX B (by kernel_rfl) (by kernel_rfl)
  g_ELLIPSIS_MARKER := ⟨_, glob_of KX B (by kernel_rfl) rfl⟩
  g_CRLF := ⟨_, glob_of KX B (by kernel_rfl) rfl⟩
  g__twin_re_1 := glob_of KX B (by kernel_rfl) (by kernel_rfl)
  g__twin_re_2 := glob_of KX B (by kernel_rfl) (by kernel_rfl)
  g__name_disallowed_re := glob_of KX B (by kernel_rfl) (by kernel_rfl)
  g__value_disallowed_re := glob_of KX B (by kernel_rfl) (by kernel_rfl)
  fn_rgb_to_hls := fnOK_of KX (by kernel_rfl) ⟨by kernel_rfl, by kernel_rfl, by kernel_rfl⟩ (fun _ _ _ => by kernel_rfl)
  g_rgb_to_hls := glob_of KX B (by kernel_rfl) (by kernel_rfl)
  fn_rgb_to_hsv := fnOK_of KX (by kernel_rfl) ⟨by kernel_rfl, by kernel_rfl, by kernel_rfl⟩ (fun _ _ _ => by kernel_rfl)
  g_rgb_to_hsv := glob_of KX B (by kernel_rfl) (by kernel_rfl)
  fn_hsv_to_rgb := fnOK_of KX (by kernel_rfl) ⟨by kernel_rfl, by kernel_rfl, by kernel_rfl⟩ (fun _ _ _ => by kernel_rfl)
  g_hsv_to_rgb := glob_of KX B (by kernel_rfl) (by kernel_rfl)
  fn__ellipsis_match := fnOK_of KX (by kernel_rfl) ⟨by kernel_rfl, by kernel_rfl, by kernel_rfl⟩ (fun _ _ => by kernel_rfl)
  g__ellipsis_match := glob_of KX B (by kernel_rfl) (by kernel_rfl)
  fn_quotedata := fnOK_of KX (by kernel_rfl) ⟨by kernel_rfl, by kernel_rfl, by kernel_rfl⟩ (fun _ => by kernel_rfl)
  g_quotedata := glob_of KX B (by kernel_rfl) (by kernel_rfl)
  fn___init__ := fx___init__ KX
  m___init__ := meth_of KX (by kernel_rfl) (by kernel_rfl)
  fn__convert_string_type := conv_of KX (by kernel_rfl) ⟨by kernel_rfl, by kernel_rfl, by kernel_rfl⟩ (fun _ _ _ => by kernel_rfl)
  m__convert_string_type := meth_of KX (by kernel_rfl) (by kernel_rfl)
  fn_get_all := fnOK_of KX (by kernel_rfl) ⟨by kernel_rfl, by kernel_rfl, by kernel_rfl⟩ (fun _ _ => by kernel_rfl)
  m_get_all := meth_of KX (by kernel_rfl) (by kernel_rfl)
  fn___str__ := fnOK_of KX (by kernel_rfl) ⟨by kernel_rfl, by kernel_rfl, by kernel_rfl⟩ (fun _ => by kernel_rfl)
  m___str__ := meth_of KX (by kernel_rfl) (by kernel_rfl)
  fn_add_header := add_of KX (by kernel_rfl) ⟨by kernel_rfl, by kernel_rfl, by kernel_rfl⟩ (fun _ _ _ => by kernel_rfl)
  m_add_header := meth_of KX (by kernel_rfl) (by kernel_rfl)
  fn__law_told := fnOK_of KX (by kernel_rfl) ⟨by kernel_rfl, by kernel_rfl, by kernel_rfl⟩ (fun _ => by kernel_rfl)
  g__law_told := glob_of KX B (by kernel_rfl) (by kernel_rfl)
  fn__law_run := fnOK_of KX (by kernel_rfl) ⟨by kernel_rfl, by kernel_rfl, by kernel_rfl⟩ (fun _ _ => by kernel_rfl)
  g__law_run := glob_of KX B (by kernel_rfl) (by kernel_rfl)
  fn__law_heights := fnOK_of KX (by kernel_rfl) ⟨by kernel_rfl, by kernel_rfl, by kernel_rfl⟩ (fun _ => by kernel_rfl)
  g__law_heights := glob_of KX B (by kernel_rfl) (by kernel_rfl)
  fn__law_highest := fnOK_of KX (by kernel_rfl) ⟨by kernel_rfl, by kernel_rfl, by kernel_rfl⟩ (fun _ _ _ => by kernel_rfl)
  g__law_highest := glob_of KX B (by kernel_rfl) (by kernel_rfl)
  fn__law_due := fnOK_of KX (by kernel_rfl) ⟨by kernel_rfl, by kernel_rfl, by kernel_rfl⟩ (fun _ _ => by kernel_rfl)
  g__law_due := glob_of KX B (by kernel_rfl) (by kernel_rfl)
  fn__law_parts := fnOK_of KX (by kernel_rfl) ⟨by kernel_rfl, by kernel_rfl, by kernel_rfl⟩ (fun _ _ _ => by kernel_rfl)
  g__law_parts := glob_of KX B (by kernel_rfl) (by kernel_rfl)
  fn_law := fnOK_of KX (by kernel_rfl) ⟨by kernel_rfl, by kernel_rfl, by kernel_rfl⟩ (fun _ => by kernel_rfl)
end
end Mine
end

section
set_option maxRecDepth 100000
set_option maxHeartbeats 0
namespace Mine
noncomputable section
noncomputable def allT (p : Nat → Bool) : Bool := match p 0 with
  | true => match p 1 with
    | true => p 2
    | false => false
  | false => false
theorem allT_mk {p : Nat → Bool} (h0 : p 0 = true) (h1 : p 1 = true) (h2 : p 2 = true) : allT p = true := by
  unfold allT
  rw [h0, h1]
  exact h2
theorem allT_ok {p : Nat → Bool} (h : allT p = true) : ∀ t, t < 3 → p t = true := by
  unfold allT at h
  cases h0 : p 0 with
  | false => rw [h0] at h; cases h
  | true => cases h1 : p 1 with
    | false => rw [h0, h1] at h; cases h
    | true =>
      rw [h0, h1] at h
      intro t ht
      match t, ht with
      | 0, _ => exact h0
      | 1, _ => exact h1
      | 2, _ => exact h
noncomputable def runs3 (a b c d : Nat) : Bool := allT fun e => run1 [a, b, c, d, e]
theorem r0000 : runs3 0 0 0 0 = true := by decide +kernel
theorem r0001 : runs3 0 0 0 1 = true := by decide +kernel
theorem r0002 : runs3 0 0 0 2 = true := by decide +kernel
theorem r0010 : runs3 0 0 1 0 = true := by decide +kernel
theorem r0011 : runs3 0 0 1 1 = true := by decide +kernel
theorem r0012 : runs3 0 0 1 2 = true := by decide +kernel
theorem r0020 : runs3 0 0 2 0 = true := by decide +kernel
theorem r0021 : runs3 0 0 2 1 = true := by decide +kernel
theorem r0022 : runs3 0 0 2 2 = true := by decide +kernel
theorem r0100 : runs3 0 1 0 0 = true := by decide +kernel
theorem r0101 : runs3 0 1 0 1 = true := by decide +kernel
theorem r0102 : runs3 0 1 0 2 = true := by decide +kernel
theorem r0110 : runs3 0 1 1 0 = true := by decide +kernel
theorem r0111 : runs3 0 1 1 1 = true := by decide +kernel
theorem r0112 : runs3 0 1 1 2 = true := by decide +kernel
theorem r0120 : runs3 0 1 2 0 = true := by decide +kernel
theorem r0121 : runs3 0 1 2 1 = true := by decide +kernel
theorem r0122 : runs3 0 1 2 2 = true := by decide +kernel
theorem r0200 : runs3 0 2 0 0 = true := by decide +kernel
theorem r0201 : runs3 0 2 0 1 = true := by decide +kernel
theorem r0202 : runs3 0 2 0 2 = true := by decide +kernel
theorem r0210 : runs3 0 2 1 0 = true := by decide +kernel
theorem r0211 : runs3 0 2 1 1 = true := by decide +kernel
theorem r0212 : runs3 0 2 1 2 = true := by decide +kernel
theorem r0220 : runs3 0 2 2 0 = true := by decide +kernel
theorem r0221 : runs3 0 2 2 1 = true := by decide +kernel
theorem r0222 : runs3 0 2 2 2 = true := by decide +kernel
theorem r1000 : runs3 1 0 0 0 = true := by decide +kernel
theorem r1001 : runs3 1 0 0 1 = true := by decide +kernel
theorem r1002 : runs3 1 0 0 2 = true := by decide +kernel
theorem r1010 : runs3 1 0 1 0 = true := by decide +kernel
theorem r1011 : runs3 1 0 1 1 = true := by decide +kernel
theorem r1012 : runs3 1 0 1 2 = true := by decide +kernel
theorem r1020 : runs3 1 0 2 0 = true := by decide +kernel
theorem r1021 : runs3 1 0 2 1 = true := by decide +kernel
theorem r1022 : runs3 1 0 2 2 = true := by decide +kernel
theorem r1100 : runs3 1 1 0 0 = true := by decide +kernel
theorem r1101 : runs3 1 1 0 1 = true := by decide +kernel
theorem r1102 : runs3 1 1 0 2 = true := by decide +kernel
theorem r1110 : runs3 1 1 1 0 = true := by decide +kernel
theorem r1111 : runs3 1 1 1 1 = true := by decide +kernel
theorem r1112 : runs3 1 1 1 2 = true := by decide +kernel
theorem r1120 : runs3 1 1 2 0 = true := by decide +kernel
theorem r1121 : runs3 1 1 2 1 = true := by decide +kernel
theorem r1122 : runs3 1 1 2 2 = true := by decide +kernel
theorem r1200 : runs3 1 2 0 0 = true := by decide +kernel
theorem r1201 : runs3 1 2 0 1 = true := by decide +kernel
theorem r1202 : runs3 1 2 0 2 = true := by decide +kernel
theorem r1210 : runs3 1 2 1 0 = true := by decide +kernel
theorem r1211 : runs3 1 2 1 1 = true := by decide +kernel
theorem r1212 : runs3 1 2 1 2 = true := by decide +kernel
theorem r1220 : runs3 1 2 2 0 = true := by decide +kernel
theorem r1221 : runs3 1 2 2 1 = true := by decide +kernel
theorem r1222 : runs3 1 2 2 2 = true := by decide +kernel
theorem r2000 : runs3 2 0 0 0 = true := by decide +kernel
theorem r2001 : runs3 2 0 0 1 = true := by decide +kernel
theorem r2002 : runs3 2 0 0 2 = true := by decide +kernel
theorem r2010 : runs3 2 0 1 0 = true := by decide +kernel
theorem r2011 : runs3 2 0 1 1 = true := by decide +kernel
theorem r2012 : runs3 2 0 1 2 = true := by decide +kernel
theorem r2020 : runs3 2 0 2 0 = true := by decide +kernel
theorem r2021 : runs3 2 0 2 1 = true := by decide +kernel
theorem r2022 : runs3 2 0 2 2 = true := by decide +kernel
theorem r2100 : runs3 2 1 0 0 = true := by decide +kernel
theorem r2101 : runs3 2 1 0 1 = true := by decide +kernel
theorem r2102 : runs3 2 1 0 2 = true := by decide +kernel
theorem r2110 : runs3 2 1 1 0 = true := by decide +kernel
theorem r2111 : runs3 2 1 1 1 = true := by decide +kernel
theorem r2112 : runs3 2 1 1 2 = true := by decide +kernel
theorem r2120 : runs3 2 1 2 0 = true := by decide +kernel
theorem r2121 : runs3 2 1 2 1 = true := by decide +kernel
theorem r2122 : runs3 2 1 2 2 = true := by decide +kernel
theorem r2200 : runs3 2 2 0 0 = true := by decide +kernel
theorem r2201 : runs3 2 2 0 1 = true := by decide +kernel
theorem r2202 : runs3 2 2 0 2 = true := by decide +kernel
theorem r2210 : runs3 2 2 1 0 = true := by decide +kernel
theorem r2211 : runs3 2 2 1 1 = true := by decide +kernel
theorem r2212 : runs3 2 2 1 2 = true := by decide +kernel
theorem r2220 : runs3 2 2 2 0 = true := by decide +kernel
theorem r2221 : runs3 2 2 2 1 = true := by decide +kernel
theorem r2222 : runs3 2 2 2 2 = true := by decide +kernel
theorem r0 : (allT fun b => allT fun c => allT fun d => runs3 0 b c d) = true := allT_mk (allT_mk (allT_mk r0000 r0001 r0002) (allT_mk r0010 r0011 r0012) (allT_mk r0020 r0021 r0022)) (allT_mk (allT_mk r0100 r0101 r0102) (allT_mk r0110 r0111 r0112) (allT_mk r0120 r0121 r0122)) (allT_mk (allT_mk r0200 r0201 r0202) (allT_mk r0210 r0211 r0212) (allT_mk r0220 r0221 r0222))
theorem r1 : (allT fun b => allT fun c => allT fun d => runs3 1 b c d) = true := allT_mk (allT_mk (allT_mk r1000 r1001 r1002) (allT_mk r1010 r1011 r1012) (allT_mk r1020 r1021 r1022)) (allT_mk (allT_mk r1100 r1101 r1102) (allT_mk r1110 r1111 r1112) (allT_mk r1120 r1121 r1122)) (allT_mk (allT_mk r1200 r1201 r1202) (allT_mk r1210 r1211 r1212) (allT_mk r1220 r1221 r1222))
theorem r2 : (allT fun b => allT fun c => allT fun d => runs3 2 b c d) = true := allT_mk (allT_mk (allT_mk r2000 r2001 r2002) (allT_mk r2010 r2011 r2012) (allT_mk r2020 r2021 r2022)) (allT_mk (allT_mk r2100 r2101 r2102) (allT_mk r2110 r2111 r2112) (allT_mk r2120 r2121 r2122)) (allT_mk (allT_mk r2200 r2201 r2202) (allT_mk r2210 r2211 r2212) (allT_mk r2220 r2221 r2222))
theorem all_runs (ts : List Nat) (hl : ts.length = 5) (h : ∀ t ∈ ts, t < 3) : run1 ts = true := by
  match ts, hl with
  | [a, b, c, d, e], _ => exact allT_ok (allT_ok (allT_ok (allT_ok (allT_ok (allT_mk r0 r1 r2 : allT (fun a => allT fun b => allT fun c => allT fun d => runs3 a b c d) = true) a (h a (by simp))) b (h b (by simp))) c (h c (by simp))) d (h d (by simp))) e (h e (by simp))
end
end Mine
end

section
open PySem PySem.W PyProof.Rows
set_option maxRecDepth 100000
set_option maxHeartbeats 0
namespace Mine
theorem left : LeftO PySem.Challenge.pw_ty0050_01 (qG PySem.Challenge.pw_ty0050_01) (looseG PySem.Challenge.pw_ty0050_01) (fun _ => true) (PySem.W.X.obsZ KAs) (PySem.W.X.valZ (KG PySem.Challenge.pw_ty0050_01) 273 747) 4000 := fun w => by
  have h := left_q w
  rw [← PySem.W.Fast.te4187177175401517315, ← PySem.W.Fast.te10274390034422433532, ← PySem.W.Fast.te1435165496053646825, ← PySem.W.Fast.te14289696077712309145, ← PySem.W.Fast.te6613529449190102663, ← PySem.W.Fast.te10156331382660048174, ← PySem.W.Fast.te11892475500146522536, ← PySem.W.Fast.te8920871248978507458, ← PySem.W.Fast.te5923862056798008813, ← PySem.W.Fast.te14364793385576792824] at h
  have h2 := lookG_of h
  exact h2
end Mine
end

open PySem PySem.W PyProof.Rows
open PySem.W.X in
set_option maxRecDepth 100000 in
set_option maxHeartbeats 8000000 in
theorem PySem.Challenge.cw_ty0050_01_holds : PySem.Challenge.rw_ty0050_01.Holds := by
  refine holds_law Mine.said fun said => ?_
  refine holds_openX (q := Mine.qG PySem.Challenge.pw_ty0050_01) (loose := Mine.looseG PySem.Challenge.pw_ty0050_01) (Xt := fun _ => true) (XP := fun _ _ => True) (Yf := obsZ Mine.KAs) (Ya := valZ (Mine.KG PySem.Challenge.pw_ty0050_01) 273 747) (N := 4000)
    Mine.left (fun _ _ => trivial) (fun _ _ _ _ _ => trivial) (by rfl) (by rfl) (by rfl) (fun s _ => recFacts_of (R := []) (s := s) rfl) (by rfl) said (by decide +kernel) ⟨rfl, rfl, rfl, rfl, rfl, by decide +kernel⟩ ?hw ?hc
  case hw => w_witness2
  intro w s₀ s₁ mg mb G y fa o pm cd doc dV kV ho hd hcd hD hmg hg args vals as L hpre hlay hrd hwl hlo
  obtain ⟨-, ZI, ZN, ZT⟩ := z_facts (K := Mine.KG PySem.Challenge.pw_ty0050_01) (as := Mine.KAs) (n := 273) (t := 747) (fun _ => rfl) y
  have KX := InK.keeps w s₀.heap s₁.heap ZI L.keeps
  refine Ground.open G ?_
  intro T B D TE TW
  wrow_args hpre hlay hrd hwl hlo
  obtain ⟨hat, hsz⟩ := script_at L
  have htk := script_toks L ZT
  rw [ZN] at hat hsz
  subst hat
  have B0 : Mine.Base s₁.heap mg mb := ⟨T.g, T.b, T.nolimit, T.builtins⟩
  have hfa : fa = 272 := by
    have := (Mine.ns_eq KX T.g (by kernel_rfl) _).symm.trans hmg
    exact Eq.symm (Value.ref.inj (Option.some.inj ((show some (Value.ref 272) = _ from by kernel_rfl).trans this)))
  subst hfa
  all_lens
  have hI := ‹IntsAre _ _›
  have hL := ‹s₁.heap.IsList 273 _›
  have hS := ‹¬ (63 : Int) < _›
  refine Mine.wpE (Mine.law1_call ⟨rfl, by decide +kernel, by decide +kernel⟩ (Nat.lt_of_lt_of_le (by decide) htk) (fun σ => Mine.cx1 KX B0) (Mine.fix_of hL hI) (by omega) Mine.all_runs fun h' tk hk => ?_)
  refine ⟨.inl ⟨_, _, [], rfl, fun _ => rfl, ReadsW.bool true, ?_, fun _ => ⟨List.nodup_nil, fun _ hm => nomatch hm⟩⟩, .of_keep hk, rfl, .of_eq hg⟩
  first | rfl | wrow_post
