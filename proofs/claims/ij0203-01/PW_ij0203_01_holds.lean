import PyProof.Rows.All
import Wide.All
import OpenK.AllK
import Wide.FinOn
import PySem.Sre
import PySem.Challenge.RW_ij0203_01
set_option Elab.async false
set_option rowWalk.seconds 0

section
namespace Mine
/-- a word of no use: its name keeps the head from writing twins that are not needed (the compiled file would be too long) -/
def noTwin : PySem.Str := PySem.Str.ofString "a"
theorem noTwin_eq : noTwin = noTwin := rfl
end Mine
name_quick tw6733733256287894996 for Mine.noTwin by Mine.noTwin_eq
name_quick tw9759809726879904816 for Mine.noTwin by Mine.noTwin_eq
name_quick tw8075568018651887793 for Mine.noTwin by Mine.noTwin_eq
name_quick tw14979626087600564940 for Mine.noTwin by Mine.noTwin_eq
name_quick tw395685129506270555 for Mine.noTwin by Mine.noTwin_eq
name_quick tw12235177427712110250 for Mine.noTwin by Mine.noTwin_eq
name_quick tw9518460778924858168 for Mine.noTwin by Mine.noTwin_eq
name_quick tw2949557819572172630 for Mine.noTwin by Mine.noTwin_eq
name_quick tw8725556140233255809 for Mine.noTwin by Mine.noTwin_eq
name_quick tw13200701876752130231 for Mine.noTwin by Mine.noTwin_eq
name_quick tw11304879220846320617 for Mine.noTwin by Mine.noTwin_eq
name_quick tw13759679279233594173 for Mine.noTwin by Mine.noTwin_eq
name_quick tw8727135674562949291 for Mine.noTwin by Mine.noTwin_eq
name_quick tw285844861784931804 for Mine.noTwin by Mine.noTwin_eq
name_quick tw16804044748790271530 for Mine.noTwin by Mine.noTwin_eq
name_quick tw6623780062484046687 for Mine.noTwin by Mine.noTwin_eq
name_quick tw8658103293671471659 for Mine.noTwin by Mine.noTwin_eq
name_quick tw12268644228514654432 for Mine.noTwin by Mine.noTwin_eq
name_quick tw4071324889030633612 for Mine.noTwin by Mine.noTwin_eq
name_quick tw117213463901210413 for Mine.noTwin by Mine.noTwin_eq
name_quick tw3560238982266916124 for Mine.noTwin by Mine.noTwin_eq
name_quick tw8595292554425487202 for Mine.noTwin by Mine.noTwin_eq
name_quick tw8753696776887207221 for Mine.noTwin by Mine.noTwin_eq
name_quick tw17100903815162463580 for Mine.noTwin by Mine.noTwin_eq
name_quick tw4558998842232669794 for Mine.noTwin by Mine.noTwin_eq
name_quick tw7269565832213808900 for Mine.noTwin by Mine.noTwin_eq
name_quick tw17000458434675057986 for Mine.noTwin by Mine.noTwin_eq
name_quick tw16296994325663420285 for Mine.noTwin by Mine.noTwin_eq
name_quick tw470574548607681690 for Mine.noTwin by Mine.noTwin_eq
name_quick tw9407582987413476825 for Mine.noTwin by Mine.noTwin_eq
name_quick tw15480198773659482676 for Mine.noTwin by Mine.noTwin_eq
name_quick tw9529234661008812162 for Mine.noTwin by Mine.noTwin_eq
name_quick tw16593013826814733010 for Mine.noTwin by Mine.noTwin_eq
name_quick tw5349121933718820234 for Mine.noTwin by Mine.noTwin_eq
name_quick tw15490439104401381959 for Mine.noTwin by Mine.noTwin_eq
name_quick tw3131671291697673992 for Mine.noTwin by Mine.noTwin_eq
name_quick tw4636218855388986860 for Mine.noTwin by Mine.noTwin_eq
name_quick tw1402947280878808549 for Mine.noTwin by Mine.noTwin_eq
name_quick tw4444965560193506482 for Mine.noTwin by Mine.noTwin_eq
name_quick tw682011567655089306 for Mine.noTwin by Mine.noTwin_eq
name_quick tw13335737130258781183 for Mine.noTwin by Mine.noTwin_eq
name_quick tw16846860572762119324 for Mine.noTwin by Mine.noTwin_eq
name_quick tw14376985748213822385 for Mine.noTwin by Mine.noTwin_eq
name_quick tw4552823106982906706 for Mine.noTwin by Mine.noTwin_eq
name_quick tw4797165386629745026 for Mine.noTwin by Mine.noTwin_eq
name_quick tw9948023125614773506 for Mine.noTwin by Mine.noTwin_eq
name_quick tw14023627001141898710 for Mine.noTwin by Mine.noTwin_eq
name_quick tw16548257151911338427 for Mine.noTwin by Mine.noTwin_eq
name_quick tw5591276700874282246 for Mine.noTwin by Mine.noTwin_eq
name_quick tw2862820112641550484 for Mine.noTwin by Mine.noTwin_eq
name_quick tw2905824091091238844 for Mine.noTwin by Mine.noTwin_eq
name_quick tw2408619945344806742 for Mine.noTwin by Mine.noTwin_eq
name_quick tw1092655722715705105 for Mine.noTwin by Mine.noTwin_eq
name_quick tw9011979029575296479 for Mine.noTwin by Mine.noTwin_eq
name_quick tw10942035263794033107 for Mine.noTwin by Mine.noTwin_eq
name_quick tw13036272033356848781 for Mine.noTwin by Mine.noTwin_eq
name_quick tw15475462885187679331 for Mine.noTwin by Mine.noTwin_eq
name_quick tw2644678379406271605 for Mine.noTwin by Mine.noTwin_eq
name_quick tw12181479097853683279 for Mine.noTwin by Mine.noTwin_eq
name_quick tw3636048126100218174 for Mine.noTwin by Mine.noTwin_eq
name_quick tw9763268239775435451 for Mine.noTwin by Mine.noTwin_eq
name_quick tw9908251947323293946 for Mine.noTwin by Mine.noTwin_eq
name_quick tw4748654258956052638 for Mine.noTwin by Mine.noTwin_eq
name_quick tw10973347937921488203 for Mine.noTwin by Mine.noTwin_eq
name_quick tw6631858758815746480 for Mine.noTwin by Mine.noTwin_eq
name_quick tw10132909190147918485 for Mine.noTwin by Mine.noTwin_eq
name_quick tw15168306246750427876 for Mine.noTwin by Mine.noTwin_eq
name_quick tw2354135333415324597 for Mine.noTwin by Mine.noTwin_eq
name_quick tw9787463984185863102 for Mine.noTwin by Mine.noTwin_eq
name_quick tw12290603225136948437 for Mine.noTwin by Mine.noTwin_eq
name_quick tw3803298628253846420 for Mine.noTwin by Mine.noTwin_eq
name_quick tw4978915544186085027 for Mine.noTwin by Mine.noTwin_eq
name_quick tw16817318245366136608 for Mine.noTwin by Mine.noTwin_eq
name_quick tw16415621359673392558 for Mine.noTwin by Mine.noTwin_eq
name_quick tw15560500314895047343 for Mine.noTwin by Mine.noTwin_eq
name_quick tw6380047634161181297 for Mine.noTwin by Mine.noTwin_eq
name_quick tw6550987210724342151 for Mine.noTwin by Mine.noTwin_eq
name_quick tw17925548735911062312 for Mine.noTwin by Mine.noTwin_eq
name_quick tw5529568453561195837 for Mine.noTwin by Mine.noTwin_eq
name_quick tw3094477031063562474 for Mine.noTwin by Mine.noTwin_eq
name_quick tw17975652961387846372 for Mine.noTwin by Mine.noTwin_eq
name_quick tw11729385059970357855 for Mine.noTwin by Mine.noTwin_eq
name_quick tw2422670821966735624 for Mine.noTwin by Mine.noTwin_eq
name_quick tw505943868828395459 for Mine.noTwin by Mine.noTwin_eq
name_quick tw4075660801711882420 for Mine.noTwin by Mine.noTwin_eq
name_quick tw2039238271031011813 for Mine.noTwin by Mine.noTwin_eq
name_quick tw5059338700186464400 for Mine.noTwin by Mine.noTwin_eq
name_quick tw6245536207120538393 for Mine.noTwin by Mine.noTwin_eq
name_quick tw15007238320947547705 for Mine.noTwin by Mine.noTwin_eq
name_quick tw6122645084068987007 for Mine.noTwin by Mine.noTwin_eq
name_quick tw4090926877573551719 for Mine.noTwin by Mine.noTwin_eq
name_quick tw8860024209350480642 for Mine.noTwin by Mine.noTwin_eq
name_quick tw17552769576498331613 for Mine.noTwin by Mine.noTwin_eq
name_quick tw136631920214876835 for Mine.noTwin by Mine.noTwin_eq
name_quick tw13900631225919944168 for Mine.noTwin by Mine.noTwin_eq
name_quick tw10205541121877940668 for Mine.noTwin by Mine.noTwin_eq
name_quick tw16752143609539240740 for Mine.noTwin by Mine.noTwin_eq
name_quick tw10323183001455561277 for Mine.noTwin by Mine.noTwin_eq
name_quick tw5721027456603625697 for Mine.noTwin by Mine.noTwin_eq
name_quick tw11985326045990495214 for Mine.noTwin by Mine.noTwin_eq
name_quick tw974560594509533065 for Mine.noTwin by Mine.noTwin_eq
name_quick tw4679858250743294509 for Mine.noTwin by Mine.noTwin_eq
name_quick tw10029231156530900338 for Mine.noTwin by Mine.noTwin_eq
name_quick tw17476080006546285661 for Mine.noTwin by Mine.noTwin_eq
name_quick tw12635297910168745909 for Mine.noTwin by Mine.noTwin_eq
name_quick tw18416463498863911781 for Mine.noTwin by Mine.noTwin_eq
name_quick tw4919607303878514444 for Mine.noTwin by Mine.noTwin_eq
name_quick tw5396446701170858492 for Mine.noTwin by Mine.noTwin_eq
name_quick tw932993149863042379 for Mine.noTwin by Mine.noTwin_eq
open PySem PySem.W PyProof.Rows
set_option Elab.async false
set_option maxRecDepth 100000
set_option maxHeartbeats 8000000
namespace Mine
open_top hd for PySem.Challenge.rw_ij0203_01
end Mine
end
section
set_option autoImplicit false
namespace Mine
section
variable {α : Type} [DecidableEq α] (sl dt fd : α)

def tailOf (l : List α) : List α := (l.reverse.takeWhile (fun c => decide (c ≠ sl))).reverse
def upTo (l : List α) : List α := (l.reverse.dropWhile (fun c => decide (c ≠ sl))).reverse
def rstripOf (l : List α) : List α := (l.reverse.dropWhile (fun c => decide (c = sl))).reverse
def hdOf (u : List α) : List α := if rstripOf sl u = [] then u else rstripOf sl u
def nd (c : α) : Bool := decide (c ≠ dt)
def extR (r : List α) : List α := match r.dropWhile (nd dt) with
  | [] => []
  | _ :: p => if p.any (nd dt) then r.takeWhile (nd dt) ++ [dt] else []
def extT (t : List α) : List α := (extR dt t.reverse).reverse
def extOf (l : List α) : List α := extT dt (tailOf sl l)
def endOf (l : List α) : List α := if extOf sl dt l ≠ [] then extOf sl dt l else if tailOf sl l ≠ [] then tailOf sl l else [sl]
def rootOf (l : List α) : List α := l.take (l.length - (endOf sl dt l).length)
def joins (pc : List α) (c : α) : Bool := decide (c ≠ sl) && (!pc.isEmpty && (decide (c ≠ dt) || pc.all (fun d => decide (d = dt))))
abbrev Pt (α : Type) := List α × (List α × List α)
def lastTxt (ps : List (Pt α)) : List α := match ps.getLast? with | some p => p.1 | none => []
def stepD (st : List (Pt α) × (List α × List α)) (c : α) : List (Pt α) × (List α × List α) :=
  let ah := if c = sl then st.2.1 ++ st.2.2 ++ [c] else st.2.1
  let pc := if c = sl then [] else st.2.2 ++ [c]
  ((if joins sl dt st.2.2 c then st.1.dropLast else st.1) ++ [((if joins sl dt st.2.2 c then lastTxt st.1 ++ [c] else [c]), (hdOf sl ah, pc))], (ah, pc))
def D (l : List α) : List (Pt α) × (List α × List α) := l.foldl (stepD sl dt) ([], ([], []))
def pts (l : List α) : List (Pt α) := (D sl dt l).1

theorem tail_snoc (l : List α) (c : α) : tailOf sl (l ++ [c]) = if c = sl then [] else tailOf sl l ++ [c] := by
  unfold tailOf
  rw [List.reverse_append, List.reverse_singleton, List.singleton_append, List.takeWhile_cons]
  by_cases h : c = sl <;> simp [h]
theorem upTo_snoc (l : List α) (c : α) : upTo sl (l ++ [c]) = if c = sl then l ++ [c] else upTo sl l := by
  unfold upTo
  rw [List.reverse_append, List.reverse_singleton, List.singleton_append, List.dropWhile_cons]
  by_cases h : c = sl <;> simp [h]
theorem upTo_tail (l : List α) : upTo sl l ++ tailOf sl l = l := by
  unfold upTo tailOf
  rw [← List.reverse_append, List.takeWhile_append_dropWhile, List.reverse_reverse]
theorem snoc_ind {β : Type} {P : List β → Prop} (h0 : P []) (h1 : ∀ l c, P l → P (l ++ [c])) : ∀ l, P l := by
  intro l
  have : ∀ r : List β, P r.reverse := by
    intro r
    induction r with
    | nil => exact h0
    | cons c r ih => rw [List.reverse_cons]; exact h1 _ _ ih
  have q := this l.reverse
  rwa [List.reverse_reverse] at q
theorem D_snoc (l : List α) (c : α) : D sl dt (l ++ [c]) = stepD sl dt (D sl dt l) c := by
  unfold D; rw [List.foldl_append]; rfl
theorem D_inv (l : List α) : (D sl dt l).2 = (upTo sl l, tailOf sl l) := by
  induction l using snoc_ind with
  | h0 => rfl
  | h1 l c ih =>
    rw [D_snoc, upTo_snoc, tail_snoc]
    simp only [stepD, ih]
    by_cases h : c = sl
    · simp only [h, if_true, upTo_tail]
    · simp only [h, if_false]
theorem extR_cons (r : List α) (c : α) : extR dt (c :: r) = if c = dt then (if r.any (nd dt) then [dt] else []) else (if extR dt r = [] then [] else c :: extR dt r) := by
  unfold extR
  rw [List.dropWhile_cons, List.takeWhile_cons]
  by_cases h : c = dt
  · have hn : nd dt c = false := by simp [nd, h]
    rw [hn]
    simp only [Bool.false_eq_true, if_false, h, if_true, List.nil_append]
  · have hn : nd dt c = true := by simp [nd, h]
    rw [hn]
    simp only [if_true, h, if_false]
    cases hd : List.dropWhile (nd dt) r with
    | nil => simp
    | cons a p =>
      by_cases hp : (p.any (nd dt)) = true
      · simp only [hp, if_true]
        rw [if_neg (by simp)]
        rfl
      · simp only [hp]
        rfl
theorem ext_snoc (t : List α) (c : α) : extT dt (t ++ [c]) = if c = dt then (if t.any (nd dt) then [dt] else []) else (if extT dt t = [] then [] else extT dt t ++ [c]) := by
  unfold extT
  rw [List.reverse_append, List.reverse_singleton, List.singleton_append, extR_cons, List.any_reverse]
  by_cases h : c = dt
  · simp only [h, if_true]
    split <;> rfl
  · simp only [h, if_false]
    by_cases he : extR dt t.reverse = []
    · simp only [he, if_true, List.reverse_nil]
    · rw [if_neg he, if_neg (by simpa using he)]
      simp
theorem any_not_all (t : List α) : t.any (nd dt) = !t.all (fun d => decide (d = dt)) := by
  induction t with
  | nil => rfl
  | cons a t ih => simp only [List.any_cons, List.all_cons, ih, Bool.not_and, nd]; simp
theorem ext_of_all {t : List α} (h : t.all (fun d => decide (d = dt)) = true) : extT dt t = [] := by
  induction t using snoc_ind with
  | h0 => rfl
  | h1 t c ih =>
    rw [List.all_append, Bool.and_eq_true] at h
    have hc : c = dt := by simpa using h.2
    rw [ext_snoc, any_not_all, h.1]
    simp [hc]
theorem extT_nil : extT dt ([] : List α) = [] := rfl
theorem end_ne (l : List α) : endOf sl dt l ≠ [] := by
  unfold endOf
  split
  · assumption
  · split
    · assumption
    · simp
theorem end_snoc (l : List α) (c : α) : endOf sl dt (l ++ [c]) = if joins sl dt (tailOf sl l) c then endOf sl dt l ++ [c] else [c] := by
  unfold joins
  by_cases h : c = sl
  · have e : tailOf sl (l ++ [c]) = [] := by rw [tail_snoc]; simp [h]
    unfold endOf extOf
    rw [e]
    simp [extT_nil, h]
  · have e : tailOf sl (l ++ [c]) = tailOf sl l ++ [c] := by rw [tail_snoc]; simp [h]
    by_cases ht : tailOf sl l = []
    · have e3 : extT dt (tailOf sl (l ++ [c])) = [] := by
        rw [e, ext_snoc, ht]
        by_cases hc : c = dt <;> simp [hc, extT_nil]
      unfold endOf extOf
      rw [e3, e, ht]
      simp
    · have hte : (tailOf sl l).isEmpty = false := by simpa using ht
      by_cases hc : c = dt
      · cases hall : (tailOf sl l).all (fun d => decide (d = dt)) with
        | true =>
          have e3 : extT dt (tailOf sl l ++ [c]) = [] := by
            rw [ext_snoc, any_not_all, hall]; simp [hc]
          have e4 := ext_of_all dt hall
          unfold endOf extOf
          simp [e, e3, e4, ht, h, hte]
        | false =>
          have e3 : extT dt (tailOf sl l ++ [c]) = [dt] := by
            rw [ext_snoc, any_not_all, hall]; simp [hc]
          unfold endOf extOf
          rw [e, e3]
          simp [hc]
      · have e3 : extT dt (tailOf sl l ++ [c]) = if extT dt (tailOf sl l) = [] then [] else extT dt (tailOf sl l) ++ [c] := by
          rw [ext_snoc]; simp [hc]
        unfold endOf extOf
        rw [e, e3]
        by_cases he : extT dt (tailOf sl l) = []
        · simp [he, ht, h, hte, hc]
        · simp [he, h, hte, hc]
theorem end_le (l : List α) (h : l ≠ []) : (endOf sl dt l).length ≤ l.length := by
  induction l using snoc_ind with
  | h0 => exact absurd rfl h
  | h1 l c ih =>
    rw [end_snoc]
    by_cases hj : joins sl dt (tailOf sl l) c = true
    · have hl : l ≠ [] := by
        intro q
        subst q
        simp [joins, tailOf] at hj
      have := ih hl
      simp only [hj, if_true, List.length_append, List.length_singleton]
      omega
    · simp [hj]
theorem root_snoc (l : List α) (c : α) : rootOf sl dt (l ++ [c]) = if joins sl dt (tailOf sl l) c then rootOf sl dt l else l := by
  unfold rootOf
  rw [end_snoc]
  by_cases hj : joins sl dt (tailOf sl l) c = true
  · have hl : l ≠ [] := by
      intro q
      subst q
      simp [joins, tailOf] at hj
    have := end_le sl dt l hl
    simp only [hj, if_true, List.length_append, List.length_singleton]
    rw [List.take_append_of_le_length (by omega)]
    congr 1
    omega
  · simp [hj]
theorem root_end (l : List α) (h : l ≠ []) : rootOf sl dt l ++ endOf sl dt l = l := by
  induction l using snoc_ind with
  | h0 => exact absurd rfl h
  | h1 l c ih =>
    rw [end_snoc, root_snoc]
    by_cases hj : joins sl dt (tailOf sl l) c = true
    · have hl : l ≠ [] := by
        intro q
        subst q
        simp [joins, tailOf] at hj
      simp only [hj, if_true]
      rw [← List.append_assoc, ih hl]
    · simp [hj]
/-- the parts of a text: those of its root, and the end -/
theorem pts_cut (l : List α) (h : l ≠ []) : pts sl dt l = pts sl dt (rootOf sl dt l) ++ [(endOf sl dt l, (hdOf sl (upTo sl l), tailOf sl l))] := by
  induction l using snoc_ind with
  | h0 => exact absurd rfl h
  | h1 l c ih =>
    have hi := D_inv sl dt (l ++ [c])
    rw [end_snoc, root_snoc]
    unfold pts at ih ⊢
    rw [D_snoc] at hi ⊢
    have hi0 := D_inv sl dt l
    have h2 : (D sl dt l).2.2 = tailOf sl l := by rw [hi0]
    have e1 : (if c = sl then (D sl dt l).2.1 ++ (D sl dt l).2.2 ++ [c] else (D sl dt l).2.1) = upTo sl (l ++ [c]) := congrArg Prod.fst hi
    have e2 : (if c = sl then ([] : List α) else (D sl dt l).2.2 ++ [c]) = tailOf sl (l ++ [c]) := congrArg Prod.snd hi
    unfold stepD
    dsimp only
    rw [e1, e2, h2]
    by_cases hj : joins sl dt (tailOf sl l) c = true
    · have hl : l ≠ [] := by
        intro q
        subst q
        simp [joins, tailOf] at hj
      have ih' := ih hl
      simp only [hj, if_true]
      rw [ih']
      simp [lastTxt]
    · simp [hj]

/-- reading: the first dot left out of each part that begins with one and stands first or behind a feed -/
def readStep (st : List α × List α) (p : List α) : List α × List α :=
  (st.1 ++ (if p.take 1 = [dt] ∧ st.2 = [fd] then p.drop 1 else p), p.drop (p.length - 1))
def readP (ps : List (Pt α)) : List α × List α := ps.foldl (fun st p => readStep dt fd st p.1) ([], [fd])
def U : Bool → List α → List α
  | _, [] => []
  | b, c :: r => if c = dt ∧ b = true then U (decide (c = fd)) r else c :: U (decide (c = fd)) r
def flag (b : Bool) (l : List α) : Bool := match l.getLast? with | none => b | some c => decide (c = fd)
theorem flag_cons (b : Bool) (c : α) (l : List α) : flag fd b (c :: l) = flag fd (decide (c = fd)) l := by
  unfold flag
  cases l with
  | nil => rfl
  | cons d l => rw [List.getLast?_cons_cons]; cases hl : (d :: l).getLast? with
    | none => simp at hl
    | some x => rfl
theorem U_app (b : Bool) (l1 l2 : List α) : U dt fd b (l1 ++ l2) = U dt fd b l1 ++ U dt fd (flag fd b l1) l2 := by
  induction l1 generalizing b with
  | nil => rfl
  | cons c r ih =>
    rw [flag_cons, List.cons_append]
    simp only [U]
    split <;> simp [ih]
def Good (e : List α) : Prop := ∀ b : Bool, U dt fd b e = if e.take 1 = [dt] ∧ b = true then e.drop 1 else e
theorem good_end (hfd : dt ≠ fd) (l : List α) (h : l ≠ []) : Good dt fd (endOf sl dt l) ∧ ((endOf sl dt l).length > 0) := by
  refine ⟨?_, List.length_pos_iff.mpr (end_ne sl dt l)⟩
  induction l using snoc_ind with
  | h0 => exact absurd rfl h
  | h1 l c ih =>
    rw [end_snoc]
    by_cases hj : joins sl dt (tailOf sl l) c = true
    · have hl : l ≠ [] := by
        intro q
        subst q
        simp [joins, tailOf] at hj
      have ih' := ih hl
      simp only [hj, if_true]
      have hne := end_ne sl dt l
      intro b
      rw [U_app, ih' b]
      have ht : (endOf sl dt l ++ [c]).take 1 = (endOf sl dt l).take 1 := by
        cases he : endOf sl dt l with
        | nil => exact absurd he hne
        | cons x y => simp
      have hd : (endOf sl dt l ++ [c]).drop 1 = (endOf sl dt l).drop 1 ++ [c] := by
        cases he : endOf sl dt l with
        | nil => exact absurd he hne
        | cons x y => simp
      have hu : U dt fd (flag fd b (endOf sl dt l)) [c] = [c] := by
        simp only [U]
        by_cases hc : c = dt
        · -- all dots
          have hall : (tailOf sl l).all (fun d => decide (d = dt)) = true := by
            unfold joins at hj
            simp [hc] at hj
            simpa using hj.2.2
          have htl : tailOf sl l ≠ [] := by
            intro q
            simp [joins, q] at hj
          have he : endOf sl dt l = tailOf sl l := by
            unfold endOf extOf
            rw [ext_of_all dt hall]
            simp [htl]
          have hf : flag fd b (endOf sl dt l) = false := by
            rw [he]
            unfold flag
            cases hg : (tailOf sl l).getLast? with
            | none => exact absurd (List.getLast?_eq_none_iff.mp hg) htl
            | some x =>
              have hx := List.all_eq_true.mp hall x (List.mem_of_getLast? hg)
              have hx' : x = dt := by simpa using hx
              simp [hx', hfd]
          simp [hf]
        · simp [hc]
      rw [hu, ht, hd]
      split <;> rfl
    · simp only [hj]
      intro b
      simp only [U, Bool.false_eq_true, if_false]
      by_cases hc : c = dt ∧ b = true
      · simp [hc]
      · rw [if_neg hc, if_neg]
        simpa using hc
theorem readP_snoc (ps : List (Pt α)) (p : Pt α) : readP dt fd (ps ++ [p]) = readStep dt fd (readP dt fd ps) p.1 := by
  unfold readP; rw [List.foldl_append]; rfl
def lastOf (l : List α) : List α := if l = [] then [fd] else l.drop (l.length - 1)
theorem lastOf_flag (l : List α) : (lastOf fd l = [fd]) ↔ flag fd true l = true := by
  unfold lastOf flag
  cases hg : l.getLast? with
  | none => simp [List.getLast?_eq_none_iff.mp hg]
  | some x =>
    have hne : l ≠ [] := by intro q; subst q; simp at hg
    obtain ⟨ys, rfl⟩ := List.getLast?_eq_some_iff.mp hg
    simp
theorem readP_pts (hfd : dt ≠ fd) : ∀ (n : Nat) (l : List α), l.length ≤ n → readP dt fd (pts sl dt l) = (U dt fd true l, lastOf fd l) := by
  intro n
  induction n with
  | zero =>
    intro l hl
    have : l = [] := List.length_eq_zero_iff.mp (Nat.le_zero.mp hl)
    subst this
    rfl
  | succ n ih =>
    intro l hl
    by_cases h : l = []
    · subst h; rfl
    · have hg := good_end sl dt fd hfd l h
      have hre := root_end sl dt l h
      have hlen : (rootOf sl dt l).length ≤ n := by
        have := congrArg List.length hre
        rw [List.length_append] at this
        omega
      rw [pts_cut sl dt l h, readP_snoc, ih _ hlen]
      unfold readStep
      have hU := U_app dt fd true (rootOf sl dt l) (endOf sl dt l)
      rw [hre, hg.1] at hU
      have hlast : (endOf sl dt l).drop ((endOf sl dt l).length - 1) = lastOf fd l := by
        unfold lastOf
        rw [if_neg h]
        conv => rhs; rw [← hre]
        rw [List.drop_append]
        have h1 : List.drop ((rootOf sl dt l ++ endOf sl dt l).length - 1) (rootOf sl dt l) = [] := by
          rw [List.drop_eq_nil_iff, List.length_append]; omega
        rw [h1, List.nil_append, List.length_append]
        congr 1
        omega
      rw [hlast, hU]
      simp only [lastOf_flag]

/-- quoting: a dot more ahead of each that stands first or behind a feed -/
def qt : Bool → List α → List α
  | _, [] => []
  | b, c :: r => if c = dt ∧ b = true then c :: c :: qt false r else c :: qt (decide (c = fd)) r
theorem U_qt (hfd : dt ≠ fd) (b : Bool) (l : List α) : U dt fd b (qt dt fd b l) = l := by
  induction l generalizing b with
  | nil => rfl
  | cons c r ih =>
    simp only [qt]
    by_cases h : c = dt ∧ b = true
    · obtain ⟨hc, hb⟩ := h
      simp [U, hc, hb, hfd, ih]
    · rw [if_neg h]
      simp only [U, if_neg h, ih]
theorem qt_app (hfd : dt ≠ fd) (b : Bool) (l1 l2 : List α) : qt dt fd b (l1 ++ l2) = qt dt fd b l1 ++ qt dt fd (flag fd b l1) l2 := by
  induction l1 generalizing b with
  | nil => rfl
  | cons c r ih =>
    rw [flag_cons, List.cons_append]
    simp only [qt]
    by_cases h : c = dt ∧ b = true
    · have hc : decide (c = fd) = false := by simp [h.1, hfd]
      rw [if_pos h, if_pos h, hc]
      simp [ih]
    · rw [if_neg h, if_neg h]
      simp [ih]
def dot1 (row : List α) : List α := if row.take 1 = [dt] then dt :: row else row
theorem qt_free (hfd : dt ≠ fd) {row : List α} (h : fd ∉ row) : qt dt fd true row = dot1 dt row ∧ qt dt fd false row = row := by
  induction row with
  | nil => simp [qt, dot1]
  | cons c r ih =>
    have hc : c ≠ fd := fun q => h (q ▸ List.mem_cons_self ..)
    have ih' := ih fun q => h (List.mem_cons_of_mem _ q)
    unfold dot1
    simp only [qt]
    by_cases hd : c = dt
    · simp [hd, hfd, ih'.2]
    · simp [hd, hc, ih'.2]
def joinL (sep : List α) : List (List α) → List α
  | [] => []
  | [r] => r
  | r :: s :: rs => r ++ sep ++ joinL sep (s :: rs)
theorem qt_join (hfd : dt ≠ fd) (pre : List α) (hp : ∀ c ∈ pre ++ [fd], c ≠ dt) (rows : List (List α)) (h : ∀ r ∈ rows, fd ∉ r) :
    qt dt fd true (joinL (pre ++ [fd]) rows) = joinL (pre ++ [fd]) (rows.map (dot1 dt)) := by
  induction rows with
  | nil => rfl
  | cons r rs ih =>
    have hr := qt_free dt fd hfd (h r (List.mem_cons_self ..))
    cases rs with
    | nil => exact hr.1
    | cons s rs =>
      have ih' := ih fun x hx => h x (List.mem_cons_of_mem _ hx)
      have sepq : ∀ (b : Bool) (l : List α), (∀ c ∈ l, c ≠ dt) → qt dt fd b l = l := by
        intro b l
        induction l generalizing b with
        | nil => intro _; rfl
        | cons c l ih2 =>
          intro hl
          have hc := hl c (List.mem_cons_self ..)
          simp only [qt, hc, false_and, if_false]
          rw [ih2 _ fun x hx => hl x (List.mem_cons_of_mem _ hx)]
      have hfl : ∀ b, flag fd b (r ++ (pre ++ [fd])) = true := by
        intro b
        unfold flag
        rw [← List.append_assoc, List.getLast?_append]
        simp
      show qt dt fd true (r ++ (pre ++ [fd]) ++ joinL (pre ++ [fd]) (s :: rs)) = _
      rw [qt_app dt fd hfd, qt_app dt fd hfd, hr.1, sepq _ _ hp, hfl, ih']
      rfl
theorem map_dot1_free {rows : List (List α)} (hfd : dt ≠ fd) (h : ∀ r ∈ rows, fd ∉ r) : ∀ r ∈ rows.map (dot1 dt), fd ∉ r := by
  intro r hr
  obtain ⟨x, hx, rfl⟩ := List.mem_map.mp hr
  unfold dot1
  split
  · intro q
    rcases List.mem_cons.mp q with q | q
    · exact hfd q.symm
    · exact h x hx q
  · exact h x hx

/-- how many parts -/
def stat (pc : List α) : Nat := if pc = [] then 0 else if pc.all (fun d => decide (d = dt)) then 1 else 2
def nst (s : Nat) (c : α) : Nat := if c = sl then 0 else if c = dt then (if s = 2 then 2 else 1) else 2
def jn (s : Nat) (c : α) : Bool := decide (c ≠ sl) && (decide (s ≠ 0) && (decide (c ≠ dt) || decide (s = 1)))
def npS : Nat → List α → Nat
  | _, [] => 0
  | s, c :: r => (if jn sl dt s c then 0 else 1) + npS (nst sl dt s c) r
theorem joins_jn (pc : List α) (c : α) : joins sl dt pc c = jn sl dt (stat dt pc) c := by
  unfold joins jn stat
  by_cases h : pc = []
  · simp [h]
  · have he : pc.isEmpty = false := by simpa using h
    cases ha : pc.all (fun d => decide (d = dt)) <;> simp [h, he]
theorem stat_step (pc : List α) (c : α) : stat dt (if c = sl then [] else pc ++ [c]) = nst sl dt (stat dt pc) c := by
  unfold stat nst
  by_cases h : c = sl
  · simp [h]
  · simp only [h, if_false]
    by_cases hp : pc = []
    · by_cases hc : c = dt <;> simp [hp, hc]
    · cases ha : pc.all (fun d => decide (d = dt)) with
      | true => by_cases hc : c = dt <;> simp [hp, ha, hc]
      | false => by_cases hc : c = dt <;> simp [hp, ha, hc]
theorem len_fold (l : List α) : ∀ (st : List (Pt α) × (List α × List α)), (st.2.2 ≠ [] → st.1 ≠ []) → (l.foldl (stepD sl dt) st).1.length = st.1.length + npS sl dt (stat dt st.2.2) l := by
  induction l with
  | nil => intro st _; rfl
  | cons c r ih =>
    intro st hst
    rw [List.foldl_cons, ih]
    · have e : (stepD sl dt st c).2.2 = if c = sl then [] else st.2.2 ++ [c] := rfl
      rw [e, stat_step]
      simp only [npS, ← joins_jn]
      have e2 : (stepD sl dt st c).1.length = st.1.length + (if joins sl dt st.2.2 c then 0 else 1) := by
        unfold stepD
        by_cases hj : joins sl dt st.2.2 c = true
        · have hp : st.2.2 ≠ [] := by
            intro q
            simp [joins, q] at hj
          have := List.length_pos_iff.mpr (hst hp)
          simp only [hj, if_true, List.length_append, List.length_dropLast, List.length_singleton]
          omega
        · simp [hj]
      rw [e2]
      omega
    · intro _
      unfold stepD
      simp
theorem pts_len (l : List α) : (pts sl dt l).length = npS sl dt 0 l := by
  unfold pts D
  rw [len_fold]
  · simp [stat]
  · simp
def cnt : Bool → List α → Nat
  | _, [] => 0
  | b, c :: r => (if c = dt ∧ b = true then 1 else 0) + cnt (decide (c = fd)) r
theorem cnt_app (b : Bool) (l1 l2 : List α) : cnt dt fd b (l1 ++ l2) = cnt dt fd b l1 + cnt dt fd (flag fd b l1) l2 := by
  induction l1 generalizing b with
  | nil => simp [cnt, flag]
  | cons c r ih =>
    rw [flag_cons, List.cons_append]
    simp only [cnt, ih]
    omega
theorem np_qt (hfd : dt ≠ fd) (hsf : sl ≠ fd) (hsd : sl ≠ dt) (l : List α) : ∀ (b : Bool) (s : Nat), s ≤ 2 → (b = true → s = 2) → npS sl dt s (qt dt fd b (qt dt fd b l)) = npS sl dt s (qt dt fd b l) + cnt dt fd b l := by
  induction l with
  | nil => intro b s _ _; rfl
  | cons c r ih =>
    intro b s hs2 hs
    by_cases h : c = dt ∧ b = true
    · obtain ⟨hc, hb⟩ := h
      have hs' := hs hb
      subst hc hb hs'
      have h1 : nst sl c 2 c = 2 := by simp [nst, Ne.symm hsd]
      have h2 : jn sl c 2 c = false := by simp [jn]
      have ih' := ih false 2 (Nat.le_refl _) (by simp)
      simp [qt, npS, cnt, h1, h2, hfd, ih']
      omega
    · simp only [qt, if_neg h, npS, cnt]
      have hb : decide (c = fd) = true → nst sl dt s c = 2 := by
        intro q
        have q' : c = fd := by simpa using q
        simp [nst, q', Ne.symm hsf, Ne.symm hfd]
      have hn : nst sl dt s c ≤ 2 := by
        unfold nst
        split
        · omega
        · split
          · split <;> omega
          · omega
      rw [ih _ _ hn hb]
      omega
def cnt1 (l : List α) : Nat := match l with | [] => 0 | c :: r => cnt dt fd (decide (c = fd)) r
theorem np_qt0 (hfd : dt ≠ fd) (hsf : sl ≠ fd) (hsd : sl ≠ dt) (l : List α) : npS sl dt 0 (qt dt fd true (qt dt fd true l)) = npS sl dt 0 (qt dt fd true l) + cnt1 dt fd l := by
  cases l with
  | nil => rfl
  | cons c r =>
    by_cases h : c = dt
    · subst h
      have h1 : nst sl c 0 c = 1 := by simp [nst, Ne.symm hsd]
      have h2 : nst sl c 1 c = 1 := by simp [nst, Ne.symm hsd]
      have h3 : jn sl c 0 c = false := by simp [jn]
      have h4 : jn sl c 1 c = true := by simp [jn, Ne.symm hsd]
      have ih' := np_qt sl c fd hfd hsf hsd r false 1 (by omega) (by simp)
      simp [qt, npS, cnt1, h1, h2, h3, h4, hfd, ih']
      omega
    · simp only [qt, h, false_and, if_false, npS, cnt1]
      have hb : decide (c = fd) = true → nst sl dt 0 c = 2 := by
        intro q
        have q' : c = fd := by simpa using q
        simp [nst, q', Ne.symm hsf, Ne.symm hfd]
      have hn : nst sl dt 0 c ≤ 2 := by
        unfold nst
        (repeat' split) <;> omega
      rw [np_qt sl dt fd hfd hsf hsd r _ _ hn hb]
      omega
theorem cnt_free {row : List α} (h : fd ∉ row) : cnt dt fd false row = 0 ∧ cnt dt fd true row = if row.take 1 = [dt] then 1 else 0 := by
  induction row with
  | nil => simp [cnt]
  | cons c r ih =>
    have hc : c ≠ fd := fun q => h (q ▸ List.mem_cons_self ..)
    have ih' := ih fun q => h (List.mem_cons_of_mem _ q)
    simp only [cnt, hc, decide_false, ih'.1]
    by_cases hd : c = dt <;> simp [hd]
theorem cnt_join (pre : List α) (hp : ∀ c ∈ pre ++ [fd], c ≠ dt) (rows : List (List α)) (h : ∀ r ∈ rows, fd ∉ r) :
    cnt dt fd true (joinL (pre ++ [fd]) rows) = (rows.filter (fun r => decide (r.take 1 = [dt]))).length ∧ cnt1 dt fd (joinL (pre ++ [fd]) rows) = ((rows.drop 1).filter (fun r => decide (r.take 1 = [dt]))).length := by
  have sepc : ∀ (l : List α) (b : Bool), (∀ c ∈ l, c ≠ dt) → cnt dt fd b l = 0 := by
    intro l
    induction l with
    | nil => intro b _; rfl
    | cons c l ih2 =>
      intro b hl
      have hc := hl c (List.mem_cons_self ..)
      simp only [cnt, hc, false_and, if_false]
      rw [ih2 _ fun x hx => hl x (List.mem_cons_of_mem _ hx)]
  have one : ∀ l : List α, cnt1 dt fd l = cnt dt fd false l := by
    intro l
    cases l with
    | nil => rfl
    | cons c r => simp [cnt1, cnt]
  have hfl : ∀ (b : Bool) (r : List α), flag fd b (r ++ (pre ++ [fd])) = true := by
    intro b r
    unfold flag
    rw [← List.append_assoc, List.getLast?_append]
    simp
  have main : ∀ rows : List (List α), (∀ r ∈ rows, fd ∉ r) → cnt dt fd true (joinL (pre ++ [fd]) rows) = (rows.filter (fun r => decide (r.take 1 = [dt]))).length := by
    intro rows
    induction rows with
    | nil => intro _; rfl
    | cons r rs ih =>
      intro h
      have hr := cnt_free dt fd (h r (List.mem_cons_self ..))
      cases rs with
      | nil =>
        show cnt dt fd true r = _
        rw [hr.2, List.filter_cons]
        by_cases hd : r.take 1 = [dt] <;> simp [hd]
      | cons s rs =>
        have ih' := ih fun x hx => h x (List.mem_cons_of_mem _ hx)
        show cnt dt fd true (r ++ (pre ++ [fd]) ++ joinL (pre ++ [fd]) (s :: rs)) = _
        rw [cnt_app, cnt_app, hr.2, sepc _ _ hp, hfl, ih', List.filter_cons (x := r)]
        by_cases hd : r.take 1 = [dt]
        · simp [hd]; omega
        · simp [hd]
  refine ⟨main rows h, ?_⟩
  rw [one]
  cases rows with
  | nil => rfl
  | cons r rs =>
    have hr := cnt_free dt fd (h r (List.mem_cons_self ..))
    cases rs with
    | nil => exact hr.1
    | cons s rs =>
      show cnt dt fd false (r ++ (pre ++ [fd]) ++ joinL (pre ++ [fd]) (s :: rs)) = _
      rw [cnt_app, cnt_app, hr.1, sepc _ _ hp, hfl, main _ fun x hx => h x (List.mem_cons_of_mem _ hx)]
      simp
end

/-- the ends of lines: each of return and feed, feed alone, return alone as return and feed (p: a return stood right ahead) -/
def Fb : Bool → List Nat → List Nat
  | _, [] => []
  | p, c :: r => if c = 10 then (if p = true then Fb false r else 13 :: 10 :: Fb false r) else if c = 13 then 13 :: 10 :: Fb true r else c :: Fb false r
def Nb : Bool → List Nat → List Nat
  | _, [] => []
  | p, c :: r => if c = 10 then (if p = true then Nb false r else 10 :: Nb false r) else if c = 13 then 10 :: Nb true r else c :: Nb false r
def crlf (l : List Nat) : List Nat := l.flatMap fun c => if c = 10 then [13, 10] else [c]
theorem Fb_Nb (p : Bool) (l : List Nat) : Fb p l = crlf (Nb p l) := by
  induction l generalizing p with
  | nil => rfl
  | cons c r ih =>
    simp only [Fb, Nb]
    by_cases h : c = 10
    · cases p <;> simp [h, ih, crlf]
    · by_cases h2 : c = 13
      · simp [h2, ih, crlf]
      · simp [h, h2, ih, crlf]
theorem crlf_free {l : List Nat} (h : 10 ∉ l) : crlf l = l := by
  induction l with
  | nil => rfl
  | cons c r ih =>
    have hc : c ≠ 10 := fun q => h (q ▸ List.mem_cons_self ..)
    have ih' := ih fun q => h (List.mem_cons_of_mem _ q)
    unfold crlf at ih' ⊢
    rw [List.flatMap_cons, ih']
    simp [hc]
theorem crlf_join (rows : List (List Nat)) (h : ∀ r ∈ rows, 10 ∉ r) : crlf (joinL [10] rows) = joinL [13, 10] rows := by
  induction rows with
  | nil => rfl
  | cons r rs ih =>
    cases rs with
    | nil => exact crlf_free (h r (List.mem_cons_self ..))
    | cons s rs =>
      have ih' := ih fun x hx => h x (List.mem_cons_of_mem _ hx)
      show crlf (r ++ [10] ++ joinL [10] (s :: rs)) = r ++ [13, 10] ++ joinL [13, 10] (s :: rs)
      rw [← ih']
      have hr := crlf_free (h r (List.mem_cons_self ..))
      unfold crlf at hr ⊢
      rw [List.flatMap_append, List.flatMap_append, hr]
      rfl
theorem Fb_qt (l : List Nat) : ∀ (b p : Bool), Fb false (qt 46 10 b (Fb p l)) = qt 46 10 b (Fb p l) := by
  induction l with
  | nil => intro b p; rfl
  | cons c r ih =>
    intro b p
    simp only [Fb]
    by_cases h : c = 10
    · cases p with
      | true => simp only [h, if_true]; exact ih b false
      | false => simp [h, qt, Fb, ih]
    · by_cases h2 : c = 13
      · simp [h2, qt, Fb, ih]
      · simp only [h, h2, if_false]
        by_cases hd : c = 46 ∧ b = true
        · simp [qt, hd, Fb, ih]
        · simp only [qt, if_neg hd, Fb, h, h2, if_false]
          rw [ih]
end Mine
end
section
set_option autoImplicit false
set_option maxRecDepth 100000
namespace Mine
open PySem PySem.Sre
def code1 : Array Nat := #[14, 4, 0, 1, 1, 6, 1, 16, 46, 1]
def code3 : Array Nat := #[14, 9, 4, 1, 2, 16, 10, 16, 13, 0, 7, 7, 16, 13, 16, 10, 15, 18, 5, 16, 10, 15, 13, 11, 16, 13, 5, 5, 0, 16, 10, 1, 15, 2, 0, 1]
theorem runFor_add (a b : Nat) (m : M) : m.runFor (a + b) = (m.runFor a).runFor b := by
  induction a generalizing m with
  | zero => rw [Nat.zero_add]; rfl
  | succ a ih =>
    rw [Nat.succ_add]
    show (if m.outcome.isSome then m else M.runFor (a + b) m.step) = M.runFor b (if m.outcome.isSome then m else M.runFor a m.step)
    by_cases h : m.outcome.isSome = true
    · rw [if_pos h, if_pos h]
      cases b with
      | zero => rfl
      | succ b => show m = if m.outcome.isSome then m else _; rw [if_pos h]
    · rw [if_neg h, if_neg h, ih]
theorem runFor_done (n : Nat) (m : M) (h : m.outcome.isSome = true) : m.runFor n = m := by
  cases n with
  | zero => rfl
  | succ n => show (if m.outcome.isSome then m else _) = m; rw [if_pos h]
theorem runFor_succ (n : Nat) (m : M) (h : m.outcome = none) : m.runFor (n + 1) = m.step.runFor n := by
  show (if m.outcome.isSome then m else M.runFor n m.step) = _
  rw [if_neg (by rw [h]; simp)]
/-- a search set to the place s -/
def S1 (t : Array Nat) (s : Nat) (f : Bool) (pc pos : Nat) (ans : Option Bool) (seen : Seen) : M :=
  { code := code1, text := t, lim := t.size, start := s, lastStart := t.size, pc := pc, pos := pos, handed := s, outermost := f, marks := #[], frames := [{ wait := .nextStart, pc := 5, pos := s, outermost := f }], weight := 1, answer := ans, seen }
def Z1 (t : Array Nat) (s : Nat) (f : Bool) (pc ls : Nat) (seen : Seen) : M :=
  { code := code1, text := t, lim := t.size, start := s, lastStart := ls, pc := pc, pos := s, handed := s, outermost := f, marks := #[], frames := [], weight := 0, answer := some false, seen }
def Found (m : M) : Option (Nat × Nat) → Prop
  | some (i, e) => m.outcome = some .matched ∧ m.start = i ∧ m.handed = e
  | none => m.outcome = some .failed
theorem search1 (t : Array Nat) (s : Nat) : forSearch code1 t 0 s t.size false = if (decide (s > t.size) || decide (t.size - s < 1)) = true then Z1 t s true 5 0 (({} : Seen).add 14) else S1 t s true 5 s none (({} : Seen).add 14) := rfl
theorem at_step (t : Array Nat) (s : Nat) (f : Bool) (seen : Seen) : (S1 t s f 5 s none seen).step = if (s == 0 || t.getD (s - 1) 0 == 10) = true then S1 t s f 7 s none ((seen.add 6).add 44) else S1 t s f 5 s (some false) ((seen.add 6).add 44) := rfl
theorem lit_step (t : Array Nat) (s : Nat) (f : Bool) (seen : Seen) : (S1 t s f 7 s none seen).step = if s ≥ t.size then S1 t s f 7 s (some false) (seen.add 16) else (bif (t.getD s 0 == 46) then S1 t s f 9 (s + 1) none (seen.add 16) else S1 t s f 7 s (some false) (seen.add 16)) := by
  have e : (S1 t s f 7 s none seen).step = if s ≥ t.size then S1 t s f 7 s (some false) (seen.add 16) else (match (Except.ok (t.getD s 0 == 46, seen.add 16) : Except String (Bool × Seen)) with | .error why => M.stick (S1 t s f 7 s none (seen.add 16)) why | .ok (false, seen') => S1 t s f 7 s (some false) seen' | .ok (true, seen') => S1 t s f 9 (s + 1) none seen') := rfl
  rw [e]
  cases (t.getD s 0 == 46) <;> rfl
theorem no_step (t : Array Nat) (s : Nat) (f : Bool) (seen : Seen) (pc : Nat) : (S1 t s f pc s (some false) seen).step = if s < t.size then S1 t (s + 1) false 5 (s + 1) none seen else Z1 t s f 5 t.size seen := rfl
theorem suc_run (t : Array Nat) (s : Nat) (f : Bool) (seen : Seen) : Found ((S1 t s f 9 (s + 1) none seen).runFor 3) (some (s, s + 1)) := by
  cases f <;> exact ⟨rfl, rfl, rfl⟩
theorem fail_run (t : Array Nat) (s : Nat) (f : Bool) (seen : Seen) (ls pc : Nat) : Found ((Z1 t s f pc ls seen).runFor 1) none := rfl
def hit1 (t : Array Nat) (i : Nat) : Bool := t.getD i 0 == 46 && (i == 0 || t.getD (i - 1) 0 == 10)
def next1 (t : Array Nat) : Nat → Nat → Option (Nat × Nat)
  | 0, _ => none
  | k + 1, s => if hit1 t s then some (s, s + 1) else next1 t k (s + 1)
theorem step1 (t : Array Nat) (s : Nat) (f : Bool) (seen : Seen) (hs : s < t.size) : ∃ n seen', n ≤ 3 ∧ (S1 t s f 5 s none seen).runFor n = if hit1 t s then S1 t s f 9 (s + 1) none seen' else S1 t (s + 1) false 5 (s + 1) none seen' := by
  by_cases h1 : (s == 0 || t.getD (s - 1) 0 == 10) = true
  · by_cases h2 : (t.getD s 0 == 46) = true
    · refine ⟨2, ((seen.add 6).add 44).add 16, by omega, ?_⟩
      rw [if_pos (by unfold hit1; rw [h1, h2]; rfl), runFor_succ 1 _ rfl, at_step, if_pos h1, runFor_succ 0 _ rfl, lit_step, if_neg (by omega), h2]
      rfl
    · refine ⟨3, ((seen.add 6).add 44).add 16, by omega, ?_⟩
      have h2' : (t.getD s 0 == 46) = false := by simpa using h2
      rw [if_neg (by unfold hit1; rw [h2']; simp), runFor_succ 2 _ rfl, at_step, if_pos h1, runFor_succ 1 _ rfl, lit_step, if_neg (by omega), h2']
      rw [cond_false, runFor_succ 0 _ rfl, no_step, if_pos hs]
      rfl
  · refine ⟨2, (seen.add 6).add 44, by omega, ?_⟩
    have h1' : (s == 0 || t.getD (s - 1) 0 == 10) = false := by simpa using h1
    rw [if_neg (by unfold hit1; rw [h1']; simp), runFor_succ 1 _ rfl, at_step, if_neg h1]
    rw [runFor_succ 0 _ rfl, no_step, if_pos hs]
    rfl
theorem last1 (t : Array Nat) (s : Nat) (f : Bool) (seen : Seen) (hs : t.size ≤ s) : ∃ n, n ≤ 4 ∧ Found ((S1 t s f 5 s none seen).runFor n) none := by
  by_cases h1 : (s == 0 || t.getD (s - 1) 0 == 10) = true
  · refine ⟨4, by omega, ?_⟩
    rw [runFor_succ 3 _ rfl, at_step, if_pos h1, runFor_succ 2 _ rfl, lit_step, if_pos hs]
    rw [runFor_succ 1 _ rfl, no_step, if_neg (by omega)]
    exact fail_run t s f _ _ _
  · refine ⟨3, by omega, ?_⟩
    rw [runFor_succ 2 _ rfl, at_step, if_neg h1]
    rw [runFor_succ 1 _ rfl, no_step, if_neg (by omega)]
    exact fail_run t s f _ _ _
theorem run1 (t : Array Nat) : ∀ (k s : Nat) (f : Bool) (seen : Seen), t.size - s = k → ∃ n, n ≤ 3 * k + 6 ∧ Found ((S1 t s f 5 s none seen).runFor n) (next1 t k s) := by
  intro k
  induction k with
  | zero =>
    intro s f seen hk
    obtain ⟨n, hn, h⟩ := last1 t s f seen (by omega)
    exact ⟨n, by omega, h⟩
  | succ k ih =>
    intro s f seen hk
    obtain ⟨n, seen', hn, h⟩ := step1 t s f seen (by omega)
    by_cases hh : hit1 t s = true
    · rw [if_pos hh] at h
      refine ⟨n + 3, by omega, ?_⟩
      rw [runFor_add, h]
      unfold next1
      rw [if_pos hh]
      exact suc_run t s f seen'
    · rw [if_neg hh] at h
      obtain ⟨n', hn', h'⟩ := ih (s + 1) false seen' (by omega)
      refine ⟨n + n', by omega, ?_⟩
      rw [runFor_add, h]
      unfold next1
      rw [if_neg hh]
      exact h'
theorem find1 (t : Array Nat) (s : Nat) : ∃ n, n ≤ 3 * t.size + 6 ∧ Found ((forSearch code1 t 0 s t.size false).runFor n) (next1 t (t.size - s) s) := by
  rw [search1]
  by_cases h : (decide (s > t.size) || decide (t.size - s < 1)) = true
  · rw [if_pos h]
    have e : t.size - s = 0 := by
      simp only [Bool.or_eq_true, decide_eq_true_eq] at h
      omega
    rw [e]
    exact ⟨1, by omega, fail_run t s true _ 0 5⟩
  · rw [if_neg h]
    obtain ⟨n, hn, q⟩ := run1 t (t.size - s) s true (({} : Seen).add 14) rfl
    exact ⟨n, by omega, q⟩

/-- the third pattern -/
def F0 (s : Nat) (f : Bool) : Sre.Frame := { wait := .nextStart, pc := 10, pos := s, outermost := f }
def S3 (t : Array Nat) (s : Nat) (f : Bool) (pc pos h : Nat) (fr : List Sre.Frame) (wt : Nat) (om : Bool) (ans : Option Bool) (seen : Seen) : M :=
  { code := code3, text := t, lim := t.size, start := s, lastStart := t.size, pc := pc, pos := pos, handed := h, outermost := om, marks := #[], frames := fr ++ [F0 s f], weight := wt, answer := ans, seen }
def NB (s pc : Nat) (f : Bool) : Sre.Frame := { wait := .nextBranch, pc := pc, pos := s, outermost := f }
def LN (s : Nat) (f : Bool) : Sre.Frame := { wait := .lookNot, pc := 26, pos := s, outermost := f }
theorem b_step (t : Array Nat) (s : Nat) (f : Bool) (seen : Seen) : (S3 t s f 10 s s [] 1 f none seen).step = S3 t s f 12 s s [NB s 11 f] 2 f none (seen.add 7) := rfl
theorem lit12 (t : Array Nat) (s : Nat) (f : Bool) (pos h : Nat) (fr : List Sre.Frame) (wt : Nat) (om : Bool) (seen : Seen) : (S3 t s f 12 pos h fr wt om none seen).step = if decide (pos < t.size) && t.getD pos 0 == 13 then S3 t s f 14 (pos + 1) h fr wt om none (seen.add 16) else S3 t s f 12 pos h fr wt om (some false) (seen.add 16) := by
  cases fr <;> (
  have e : ∀ fr, M.step (S3 t s f 12 pos h fr wt om none seen) = if pos ≥ t.size then S3 t s f 12 pos h fr wt om (some false) (seen.add 16) else (match (Except.ok (t.getD pos 0 == 13, seen.add 16) : Except String (Bool × Seen)) with | .error why => M.stick (S3 t s f 12 pos h fr wt om none (seen.add 16)) why | .ok (false, seen') => S3 t s f 12 pos h fr wt om (some false) seen' | .ok (true, seen') => S3 t s f 14 (pos + 1) h fr wt om none seen') := by intro fr; cases fr <;> rfl
  rw [e]
  by_cases hp : pos < t.size
  · rw [if_neg (by omega), decide_eq_true hp]
    cases (t.getD pos 0 == 13) <;> rfl
  · rw [if_pos (by omega), decide_eq_false hp]
    rfl)
theorem lit14 (t : Array Nat) (s : Nat) (f : Bool) (pos h : Nat) (fr : List Sre.Frame) (wt : Nat) (om : Bool) (seen : Seen) : (S3 t s f 14 pos h fr wt om none seen).step = if decide (pos < t.size) && t.getD pos 0 == 10 then S3 t s f 16 (pos + 1) h fr wt om none (seen.add 16) else S3 t s f 14 pos h fr wt om (some false) (seen.add 16) := by
  cases fr <;> (
  have e : ∀ fr, M.step (S3 t s f 14 pos h fr wt om none seen) = if pos ≥ t.size then S3 t s f 14 pos h fr wt om (some false) (seen.add 16) else (match (Except.ok (t.getD pos 0 == 10, seen.add 16) : Except String (Bool × Seen)) with | .error why => M.stick (S3 t s f 14 pos h fr wt om none (seen.add 16)) why | .ok (false, seen') => S3 t s f 14 pos h fr wt om (some false) seen' | .ok (true, seen') => S3 t s f 16 (pos + 1) h fr wt om none seen') := by intro fr; cases fr <;> rfl
  rw [e]
  by_cases hp : pos < t.size
  · rw [if_neg (by omega), decide_eq_true hp]
    cases (t.getD pos 0 == 10) <;> rfl
  · rw [if_pos (by omega), decide_eq_false hp]
    rfl)
theorem lit19 (t : Array Nat) (s : Nat) (f : Bool) (pos h : Nat) (fr : List Sre.Frame) (wt : Nat) (om : Bool) (seen : Seen) : (S3 t s f 19 pos h fr wt om none seen).step = if decide (pos < t.size) && t.getD pos 0 == 10 then S3 t s f 21 (pos + 1) h fr wt om none (seen.add 16) else S3 t s f 19 pos h fr wt om (some false) (seen.add 16) := by
  cases fr <;> (
  have e : ∀ fr, M.step (S3 t s f 19 pos h fr wt om none seen) = if pos ≥ t.size then S3 t s f 19 pos h fr wt om (some false) (seen.add 16) else (match (Except.ok (t.getD pos 0 == 10, seen.add 16) : Except String (Bool × Seen)) with | .error why => M.stick (S3 t s f 19 pos h fr wt om none (seen.add 16)) why | .ok (false, seen') => S3 t s f 19 pos h fr wt om (some false) seen' | .ok (true, seen') => S3 t s f 21 (pos + 1) h fr wt om none seen') := by intro fr; cases fr <;> rfl
  rw [e]
  by_cases hp : pos < t.size
  · rw [if_neg (by omega), decide_eq_true hp]
    cases (t.getD pos 0 == 10) <;> rfl
  · rw [if_pos (by omega), decide_eq_false hp]
    rfl)
theorem lit24 (t : Array Nat) (s : Nat) (f : Bool) (pos h : Nat) (fr : List Sre.Frame) (wt : Nat) (om : Bool) (seen : Seen) : (S3 t s f 24 pos h fr wt om none seen).step = if decide (pos < t.size) && t.getD pos 0 == 13 then S3 t s f 26 (pos + 1) h fr wt om none (seen.add 16) else S3 t s f 24 pos h fr wt om (some false) (seen.add 16) := by
  cases fr <;> (
  have e : ∀ fr, M.step (S3 t s f 24 pos h fr wt om none seen) = if pos ≥ t.size then S3 t s f 24 pos h fr wt om (some false) (seen.add 16) else (match (Except.ok (t.getD pos 0 == 13, seen.add 16) : Except String (Bool × Seen)) with | .error why => M.stick (S3 t s f 24 pos h fr wt om none (seen.add 16)) why | .ok (false, seen') => S3 t s f 24 pos h fr wt om (some false) seen' | .ok (true, seen') => S3 t s f 26 (pos + 1) h fr wt om none seen') := by intro fr; cases fr <;> rfl
  rw [e]
  by_cases hp : pos < t.size
  · rw [if_neg (by omega), decide_eq_true hp]
    cases (t.getD pos 0 == 13) <;> rfl
  · rw [if_pos (by omega), decide_eq_false hp]
    rfl)
theorem lit29 (t : Array Nat) (s : Nat) (f : Bool) (pos h : Nat) (fr : List Sre.Frame) (wt : Nat) (om : Bool) (seen : Seen) : (S3 t s f 29 pos h fr wt om none seen).step = if decide (pos < t.size) && t.getD pos 0 == 10 then S3 t s f 31 (pos + 1) h fr wt om none (seen.add 16) else S3 t s f 29 pos h fr wt om (some false) (seen.add 16) := by
  cases fr <;> (
  have e : ∀ fr, M.step (S3 t s f 29 pos h fr wt om none seen) = if pos ≥ t.size then S3 t s f 29 pos h fr wt om (some false) (seen.add 16) else (match (Except.ok (t.getD pos 0 == 10, seen.add 16) : Except String (Bool × Seen)) with | .error why => M.stick (S3 t s f 29 pos h fr wt om none (seen.add 16)) why | .ok (false, seen') => S3 t s f 29 pos h fr wt om (some false) seen' | .ok (true, seen') => S3 t s f 31 (pos + 1) h fr wt om none seen') := by intro fr; cases fr <;> rfl
  rw [e]
  by_cases hp : pos < t.size
  · rw [if_neg (by omega), decide_eq_true hp]
    cases (t.getD pos 0 == 10) <;> rfl
  · rw [if_pos (by omega), decide_eq_false hp]
    rfl)
theorem alt1 (t : Array Nat) (s : Nat) (f om : Bool) (pc pos h : Nat) (seen : Seen) : (S3 t s f pc pos h [NB s 11 f] 2 om (some false) seen).step = S3 t s f 19 s s [NB s 18 f] 2 f none seen := rfl
theorem alt2 (t : Array Nat) (s : Nat) (f om : Bool) (pc pos h : Nat) (seen : Seen) : (S3 t s f pc pos h [NB s 18 f] 2 om (some false) seen).step = S3 t s f 24 s s [NB s 23 f] 2 f none seen := rfl
theorem look3 (t : Array Nat) (s : Nat) (f : Bool) (seen : Seen) (h : Nat) : (S3 t s f 26 (s + 1) h [NB s 23 f] 2 f none seen).step = S3 t s f 29 (s + 1) (s + 1) [LN (s + 1) f, NB s 23 f] 3 false none (seen.add 5) := rfl
theorem lookno (t : Array Nat) (s : Nat) (f om : Bool) (pc pos h : Nat) (seen : Seen) : (S3 t s f pc pos h [LN (s + 1) f, NB s 23 f] 3 om (some false) seen).step = S3 t s f 32 (s + 1) h [NB s 23 f] 2 f none seen := rfl
theorem jmp16 (t : Array Nat) (s : Nat) (f om : Bool) (pos h : Nat) (fr : List Sre.Frame) (seen : Seen) : (S3 t s f 16 pos h fr 2 om none seen).step = S3 t s f 35 pos h fr 2 om none (seen.add 15) := by cases fr <;> rfl
theorem jmp21 (t : Array Nat) (s : Nat) (f om : Bool) (pos h : Nat) (fr : List Sre.Frame) (seen : Seen) : (S3 t s f 21 pos h fr 2 om none seen).step = S3 t s f 35 pos h fr 2 om none (seen.add 15) := by cases fr <;> rfl
theorem jmp32 (t : Array Nat) (s : Nat) (f om : Bool) (pos h : Nat) (fr : List Sre.Frame) (seen : Seen) : (S3 t s f 32 pos h fr 2 om none seen).step = S3 t s f 35 pos h fr 2 om none (seen.add 15) := by cases fr <;> rfl
theorem suc35 (t : Array Nat) (s : Nat) (f om : Bool) (pos h : Nat) (fr : List Sre.Frame) (seen : Seen) : (S3 t s f 35 pos h fr 2 om none seen).step = S3 t s f 35 pos pos fr 2 om (some true) (seen.add 1) := by cases fr <;> cases om <;> rfl
theorem res1 (t : Array Nat) (s b : Nat) (f om : Bool) (pos h : Nat) (seen : Seen) : (S3 t s f 35 pos h [NB s b f] 2 om (some true) seen).step = S3 t s f b s h [] 1 f (some true) seen := rfl
def Z3 (t : Array Nat) (s : Nat) (f : Bool) (h : Nat) (ans : Bool) (seen : Seen) : M :=
  { code := code3, text := t, lim := t.size, start := s, lastStart := t.size, pc := 10, pos := s, handed := h, outermost := f, marks := #[], frames := [], weight := 0, answer := some ans, seen }
theorem res2 (t : Array Nat) (s b : Nat) (f om : Bool) (pos h : Nat) (seen : Seen) : (S3 t s f b pos h [] 1 om (some true) seen).step = Z3 t s f h true seen := rfl
theorem fin3 (t : Array Nat) (s : Nat) (f : Bool) (h : Nat) (seen : Seen) : Found ((Z3 t s f h true seen).runFor 1) (some (s, h)) := ⟨rfl, rfl, rfl⟩
theorem end35 (t : Array Nat) (s : Nat) (f om : Bool) (pos h b : Nat) (seen : Seen) : Found ((S3 t s f 35 pos h [NB s b f] 2 om none seen).runFor 4) (some (s, pos)) := by
  rw [runFor_succ 3 _ rfl, suc35, runFor_succ 2 _ rfl, res1, runFor_succ 1 _ rfl, res2]
  exact fin3 _ _ _ _ _
theorem end16 (t : Array Nat) (s : Nat) (f : Bool) (pos h b : Nat) (seen : Seen) : Found ((S3 t s f 16 pos h [NB s b f] 2 f none seen).runFor 5) (some (s, pos)) := by
  rw [runFor_succ 4 _ rfl, jmp16]; exact end35 _ _ _ _ _ _ _ _
theorem end21 (t : Array Nat) (s : Nat) (f : Bool) (pos h b : Nat) (seen : Seen) : Found ((S3 t s f 21 pos h [NB s b f] 2 f none seen).runFor 5) (some (s, pos)) := by
  rw [runFor_succ 4 _ rfl, jmp21]; exact end35 _ _ _ _ _ _ _ _
theorem end32 (t : Array Nat) (s : Nat) (f : Bool) (pos h b : Nat) (seen : Seen) : Found ((S3 t s f 32 pos h [NB s b f] 2 f none seen).runFor 5) (some (s, pos)) := by
  rw [runFor_succ 4 _ rfl, jmp32]; exact end35 _ _ _ _ _ _ _ _
def cr2 (t : Array Nat) (s : Nat) : Bool := t.getD s 0 == 13 && (decide (s + 1 < t.size) && t.getD (s + 1) 0 == 10)
theorem run3 (t : Array Nat) (s : Nat) (f : Bool) (seen : Seen) (hs : s < t.size) (hc : (t.getD s 0 == 10 || t.getD s 0 == 13) = true) :
    ∃ n, n ≤ 20 ∧ Found ((S3 t s f 10 s s [] 1 f none seen).runFor n) (some (s, if cr2 t s then s + 2 else s + 1)) := by
  have hd : decide (s < t.size) = true := decide_eq_true hs
  by_cases h13 : (t.getD s 0 == 13) = true
  · have h10 : (t.getD s 0 == 10) = false := by
      have : t.getD s 0 = 13 := by simpa using h13
      rw [this]; rfl
    by_cases hn : (decide (s + 1 < t.size) && t.getD (s + 1) 0 == 10) = true
    · refine ⟨8, by omega, ?_⟩
      rw [if_pos (by unfold cr2; rw [h13, hn]; rfl)]
      rw [runFor_succ 7 _ rfl, b_step, runFor_succ 6 _ rfl, lit12, hd, h13]
      simp only [Bool.and_self, if_true]
      rw [runFor_succ 5 _ rfl, lit14, if_pos hn]
      exact end16 t s f _ _ _ _
    · refine ⟨15, by omega, ?_⟩
      rw [if_neg (by unfold cr2; rw [h13]; simpa using hn)]
      rw [runFor_succ 14 _ rfl, b_step, runFor_succ 13 _ rfl, lit12, hd, h13]
      simp only [Bool.and_self, if_true]
      rw [runFor_succ 12 _ rfl, lit14, if_neg hn, runFor_succ 11 _ rfl, alt1, runFor_succ 10 _ rfl, lit19, hd, h10]
      simp only [Bool.and_false, Bool.false_eq_true, if_false]
      rw [runFor_succ 9 _ rfl, alt2, runFor_succ 8 _ rfl, lit24, hd, h13]
      simp only [Bool.and_self, if_true]
      rw [runFor_succ 7 _ rfl, look3, runFor_succ 6 _ rfl, lit29, if_neg hn, runFor_succ 5 _ rfl, lookno]
      exact end32 t s f _ _ _ _
  · have h10 : (t.getD s 0 == 10) = true := by
      have h13' : (t.getD s 0 == 13) = false := by simpa using h13
      rw [h13', Bool.or_false] at hc
      exact hc
    have h13' : (t.getD s 0 == 13) = false := by simpa using h13
    refine ⟨9, by omega, ?_⟩
    rw [if_neg (by unfold cr2; rw [h13']; simp)]
    rw [runFor_succ 8 _ rfl, b_step, runFor_succ 7 _ rfl, lit12, hd, h13']
    simp only [Bool.and_false, Bool.false_eq_true, if_false]
    rw [runFor_succ 6 _ rfl, alt1, runFor_succ 5 _ rfl, lit19, hd, h10]
    simp only [Bool.and_self, if_true]
    exact end21 t s f _ _ _ _

theorem inSet3 (c : Nat) (seen : Seen) : ∃ seen', inSet code3 c code3.size 5 true seen = .ok (c == 10 || c == 13, seen') := by
  have e : inSet code3 c code3.size 5 true seen = if (c == 10) = true then .ok (true, seen.add 16) else if (c == 13) = true then .ok (true, (seen.add 16).add 16) else .ok (false, ((seen.add 16).add 16).add 0) := rfl
  rw [e]
  cases h1 : (c == 10) <;> cases h2 : (c == 13) <;> exact ⟨_, rfl⟩
def set3 (t : Array Nat) (s : Nat) : Bool := t.getD s 0 == 10 || t.getD s 0 == 13
def next3 (t : Array Nat) : Nat → Nat → Option (Nat × Nat)
  | 0, _ => none
  | k + 1, s => if set3 t s then some (s, if cr2 t s then s + 2 else s + 1) else next3 t k (s + 1)
theorem admitted3 (m : M) (t : Array Nat) (hc : m.code = code3) (ht : m.text = t) (hl : m.lim = t.size) : ∀ (k s : Nat) (seen : Seen), t.size - s = k → ∃ seen', m.admitted (k + 1) s seen = .ok ((next3 t k s).map (·.1), seen') ∧ ∀ p, next3 t k s = some p → p.1 < t.size ∧ set3 t p.1 = true ∧ p.2 = if cr2 t p.1 then p.1 + 2 else p.1 + 1 := by
  intro k
  induction k with
  | zero =>
    intro s seen hk
    refine ⟨seen, ?_, fun p hp => by cases hp⟩
    unfold M.admitted
    rw [hl, if_pos (by omega)]
    rfl
  | succ k ih =>
    intro s seen hk
    obtain ⟨seen1, e1⟩ := inSet3 (t.getD s 0) seen
    unfold M.admitted
    rw [hl, if_neg (by omega), hc, ht, e1]
    cases hs : (t.getD s 0 == 10 || t.getD s 0 == 13) with
    | true =>
      refine ⟨seen1, ?_, fun p hp => ?_⟩
      · show Except.ok (some s, seen1) = _
        unfold next3
        rw [if_pos (by unfold set3; exact hs)]
        rfl
      · unfold next3 at hp
        rw [if_pos (by unfold set3; exact hs)] at hp
        obtain rfl := Option.some.inj hp
        exact ⟨by show s < t.size; omega, hs, rfl⟩
    | false =>
      obtain ⟨seen', e2, e3⟩ := ih (s + 1) seen1 (by omega)
      have en : next3 t (k + 1) s = next3 t k (s + 1) := by
        conv => lhs; unfold next3
        rw [if_neg (by unfold set3; rw [hs]; simp)]
      rw [en]
      exact ⟨seen', e2, e3⟩
def B3 (t : Array Nat) (s : Nat) (seen : Seen) : M :=
  { code := code3, text := t, lim := t.size, start := s, lastStart := t.size, pc := 10, pos := s, handed := s, marks := #[], seen }
def Y3 (t : Array Nat) (s ls : Nat) (seen : Seen) : M :=
  { code := code3, text := t, lim := t.size, start := s, lastStart := ls, pc := 10, pos := s, handed := s, marks := #[], answer := some false, seen }
theorem search3 (t : Array Nat) (s : Nat) : forSearch code3 t 0 s t.size false = if (decide (s > t.size) || decide (t.size - s < 1)) = true then Y3 t s 0 (({} : Seen).add 14) else (B3 t s (({} : Seen).add 14)).attemptFrom s true := rfl
theorem from3 (t : Array Nat) (s : Nat) (seen : Seen) : (B3 t s seen).attemptFrom s true = (match M.admitted (B3 t s seen) (t.size + 1 - s) s seen with
    | .ok (some s', seen') => S3 t s' true 10 s' s' [] 1 true none seen'
    | .ok (none, seen') => Y3 t s t.size seen'
    | .error why => (B3 t s seen).stick why) := rfl
theorem fail3 (t : Array Nat) (s ls : Nat) (seen : Seen) : Found ((Y3 t s ls seen).runFor 1) none := rfl
theorem find3 (t : Array Nat) (s : Nat) : ∃ n, n ≤ 3 * t.size + 30 ∧ Found ((forSearch code3 t 0 s t.size false).runFor n) (next3 t (t.size - s) s) := by
  rw [search3]
  by_cases h : (decide (s > t.size) || decide (t.size - s < 1)) = true
  · rw [if_pos h]
    have e : t.size - s = 0 := by
      simp only [Bool.or_eq_true, decide_eq_true_eq] at h
      omega
    rw [e]
    exact ⟨1, by omega, fail3 _ _ _ _⟩
  · rw [if_neg h, from3]
    have hs : s < t.size := by
      simp only [Bool.or_eq_true, decide_eq_true_eq] at h
      omega
    obtain ⟨seen', e1, e2⟩ := admitted3 (B3 t s (({} : Seen).add 14)) t rfl rfl rfl (t.size - s) s (({} : Seen).add 14) rfl
    rw [show t.size + 1 - s = t.size - s + 1 from by omega, e1]
    cases hn : next3 t (t.size - s) s with
    | none => exact ⟨1, by omega, fail3 _ _ _ _⟩
    | some p =>
      obtain ⟨h1, h2, h3⟩ := e2 p hn
      obtain ⟨n, hn', q⟩ := run3 t p.1 true seen' h1 h2
      refine ⟨n, by omega, ?_⟩
      obtain ⟨p1, p2⟩ := p
      simp only at h3
      rw [h3]
      exact q
end Mine
end
section
set_option autoImplicit false
namespace Mine
def fl1 (t : Array Nat) (d : Nat) : Bool := d == 0 || t.getD (d - 1) 0 == 10
theorem drop_at (t : Array Nat) (d : Nat) (h : d < t.size) : t.toList.drop d = t.getD d 0 :: t.toList.drop (d + 1) := by
  rw [List.drop_eq_getElem_cons (by simpa using h)]
  congr 1
  simp [Array.getD, h]
theorem drop_end (t : Array Nat) (d : Nat) (h : t.size ≤ d) : t.toList.drop d = [] := by
  rw [List.drop_eq_nil_iff]; simpa using h
theorem next1_spec (t : Array Nat) : ∀ (k d : Nat), t.size - d = k →
    (next1 t k d = none → qt 46 10 (fl1 t d) (t.toList.drop d) = t.toList.drop d) ∧
    (∀ i e, next1 t k d = some (i, e) → d ≤ i ∧ i < e ∧ e ≤ t.size ∧ qt 46 10 (fl1 t d) (t.toList.drop d) = (t.toList.drop d).take (i - d) ++ [46, 46] ++ qt 46 10 (fl1 t e) (t.toList.drop e)) := by
  intro k
  induction k with
  | zero =>
    intro d hk
    refine ⟨fun _ => ?_, fun i e h => by cases h⟩
    rw [drop_end t d (by omega)]
    rfl
  | succ k ih =>
    intro d hk
    have hd : d < t.size := by omega
    rw [drop_at t d hd]
    unfold next1
    have ih' := ih (d + 1) (by omega)
    have hfl : decide (t.getD d 0 = 10) = fl1 t (d + 1) := by
      unfold fl1
      simp
      rfl
    by_cases hh : hit1 t d = true
    · rw [if_pos hh]
      refine ⟨fun h => by (exact absurd h (by simp)), fun i e h => ?_⟩
      obtain ⟨rfl, rfl⟩ := Prod.mk.inj (Option.some.inj h)
      unfold hit1 at hh
      rw [Bool.and_eq_true] at hh
      have hc : t.getD d 0 = 46 := by simpa using hh.1
      refine ⟨Nat.le_refl _, by omega, by omega, ?_⟩
      have hb : fl1 t d = true := hh.2
      have hf2 : fl1 t (d + 1) = false := by rw [← hfl, hc]; rfl
      rw [hb, hc, hf2]
      simp [qt]
    · rw [if_neg hh]
      have hn : ¬ (t.getD d 0 = 46 ∧ fl1 t d = true) := by
        intro q
        apply hh
        unfold hit1
        rw [q.1]
        exact q.2
      simp only [qt, if_neg hn, hfl]
      refine ⟨fun h => by rw [ih'.1 h], fun i e h => ?_⟩
      obtain ⟨h1, h2, h3, h4⟩ := ih'.2 i e h
      refine ⟨by omega, h2, h3, ?_⟩
      rw [h4, show i - d = (i - (d + 1)) + 1 from by omega, List.take_succ_cons]
      rfl
theorem Fb_true (r : List Nat) (h : r.take 1 ≠ [10]) : Fb true r = Fb false r := by
  cases r with
  | nil => rfl
  | cons c r =>
    have hc : c ≠ 10 := by simpa using h
    simp [Fb, hc]
theorem next3_spec (t : Array Nat) : ∀ (k d : Nat), t.size - d = k →
    (next3 t k d = none → Fb false (t.toList.drop d) = t.toList.drop d) ∧
    (∀ i e, next3 t k d = some (i, e) → d ≤ i ∧ i < e ∧ e ≤ t.size ∧ Fb false (t.toList.drop d) = (t.toList.drop d).take (i - d) ++ [13, 10] ++ Fb false (t.toList.drop e)) := by
  intro k
  induction k with
  | zero =>
    intro d hk
    refine ⟨fun _ => ?_, fun i e h => by cases h⟩
    rw [drop_end t d (by omega)]
    rfl
  | succ k ih =>
    intro d hk
    have hd : d < t.size := by omega
    rw [drop_at t d hd]
    unfold next3
    have ih' := ih (d + 1) (by omega)
    by_cases hh : set3 t d = true
    · rw [if_pos hh]
      refine ⟨fun h => by (exact absurd h (by simp)), fun i e h => ?_⟩
      obtain ⟨rfl, rfl⟩ := Prod.mk.inj (Option.some.inj h)
      by_cases h10 : t.getD d 0 = 10
      · have hcr : cr2 t d = false := by unfold cr2; rw [h10]; rfl
        rw [hcr]
        refine ⟨Nat.le_refl _, by simp, by simp only [Bool.false_eq_true, if_false]; omega, ?_⟩
        rw [h10]
        simp [Fb]
      · have h13 : t.getD d 0 = 13 := by
          unfold set3 at hh
          simp only [Bool.or_eq_true, beq_iff_eq] at hh
          exact hh.resolve_left h10
        rw [h13]
        cases hcr : cr2 t d with
        | true =>
          unfold cr2 at hcr
          simp only [Bool.and_eq_true, decide_eq_true_eq, beq_iff_eq] at hcr
          refine ⟨Nat.le_refl _, by simp, by have := hcr.2.1; simp only [if_true]; omega, ?_⟩
          rw [drop_at t (d + 1) hcr.2.1, hcr.2.2]
          simp [Fb]
        | false =>
          refine ⟨Nat.le_refl _, by simp, by simp only [Bool.false_eq_true, if_false]; omega, ?_⟩
          have hn : (t.toList.drop (d + 1)).take 1 ≠ [10] := by
            intro q
            by_cases hs : d + 1 < t.size
            · rw [drop_at t (d + 1) hs] at q
              have q' : t.getD (d + 1) 0 = 10 := by simpa using q
              unfold cr2 at hcr
              rw [h13, q', decide_eq_true hs] at hcr
              exact absurd hcr (by decide)
            · rw [drop_end t (d + 1) (by omega)] at q
              simp at q
          simp [Fb, Fb_true _ hn]
    · rw [if_neg hh]
      have h10 : t.getD d 0 ≠ 10 := by intro q; apply hh; unfold set3; rw [q]; rfl
      have h13 : t.getD d 0 ≠ 13 := by intro q; apply hh; unfold set3; rw [q]; rfl
      simp only [Fb, if_neg h10, if_neg h13]
      refine ⟨fun h => by rw [ih'.1 h], fun i e h => ?_⟩
      obtain ⟨h1, h2, h3, h4⟩ := ih'.2 i e h
      refine ⟨by omega, h2, h3, ?_⟩
      rw [h4, show i - d = (i - (d + 1)) + 1 from by omega, List.take_succ_cons]
      rfl
theorem qt_len {α : Type} [DecidableEq α] (dt fd : α) (b : Bool) (l : List α) : (qt dt fd b l).length ≤ 2 * l.length := by
  induction l generalizing b with
  | nil => simp [qt]
  | cons c r ih =>
    simp only [qt]
    split
    · have := ih false; simp only [List.length_cons]; omega
    · have := ih (decide (c = fd)); simp only [List.length_cons]; omega
theorem Fb_len (p : Bool) (l : List Nat) : (Fb p l).length ≤ 2 * l.length := by
  induction l generalizing p with
  | nil => simp [Fb]
  | cons c r ih =>
    simp only [Fb]
    have h1 := ih false
    have h2 := ih true
    split
    · split <;> simp only [List.length_cons] <;> omega
    · split <;> simp only [List.length_cons] <;> omega
end Mine
end
section
open PySem PySem.W PySem.Calls PyProof.Rows PySem.Builtin PySem.Builtin.Re
set_option Elab.async false
set_option maxRecDepth 100000
set_option maxHeartbeats 4000000
namespace Mine
theorem slot_sub : Slot "re.Pattern" "sub" "re.Pattern.sub" :=
  .of (owner := "re.Pattern") (n := "sub") (by rw [typeLookup_type, builtinLookup_eq_fast]; kernel_rfl) (by decide +kernel) (by decide +kernel) (by decide +kernel)
    (by first | exact .inl (by decide +kernel) | exact .inr (by decide +kernel)) (by rw [isSubtype_type]; kernel_rfl)
theorem type_sub : typeOf (.builtin "re.Pattern.sub") = pure (.type "method_descriptor") := by show builtinType _ = _; rw [builtinType_eq_fast]; kernel_rfl
theorem entry_sub : entryFor table "re.Pattern.sub" = some Builtin.«re.Pattern.sub» := entryFor_of_tree (by kernel_rfl)
theorem args_sub (a b c : Value) : argsOk "re.Pattern.sub" ⟨[a, b, c], []⟩ := by
  unfold argsOk; kernel_rfl
theorem plain_sub : plainId "re.Pattern.sub" = true := by decide +kernel
theorem plain_subloop : plainId "re.Pattern.sub.loop" = true := by decide +kernel
theorem entry_subloop : entryFor table "re.Pattern.sub.loop" = some Builtin.«re.Pattern.sub.loop» := entryFor_of_tree (by kernel_rfl)
theorem plainAttrs_pattern : PlainAttrs "re.Pattern" :=
  ⟨⟨"object.__getattribute__", by rw [typeLookup_type, builtinLookup_eq_fast]; kernel_rfl, by decide +kernel⟩, by rw [typeLookup_type, builtinLookup_eq_fast]; kernel_rfl⟩
theorem look_str_call : typeLookup (.type "str") "__call__" = pure none := by rw [typeLookup_type, builtinLookup_eq_fast]; kernel_rfl
theorem look_bytes_call : typeLookup (.type "bytes") "__call__" = pure none := by rw [typeLookup_type, builtinLookup_eq_fast]; kernel_rfl
section
variable {M : Model} {A : Around} {E : Value → Shared → Prop} {s : Shared}
theorem wp_drive {Q : Sre.M → Shared → Prop} : ∀ (T n : Nat) (m : Sre.M), (m.runFor n).outcome.isSome = true → n + 1 ≤ 4 * T → Q (m.runFor n) s → wpAny M A (reDrive T m) Q E s := by
  intro T
  induction T with
  | zero => intro n m _ hn _; omega
  | succ T ih =>
    intro n m ho hn hq
    show wpAny M A (let m := m.runFor reTurnSteps; if m.outcome.isSome then pure m else do rule "sre.turn"; reDrive T m) Q E s
    dsimp only
    have e4 : reTurnSteps = 4 := rfl
    rw [e4]
    by_cases h : (m.runFor 4).outcome.isSome = true
    · rw [if_pos h]
      have e : m.runFor 4 = m.runFor n := by
        rcases Nat.le_total n 4 with q | q
        · obtain ⟨k, hk⟩ := Nat.exists_eq_add_of_le q
          rw [hk, runFor_add n k, runFor_done k _ ho]
        · obtain ⟨k, rfl⟩ := Nat.exists_eq_add_of_le q
          rw [runFor_add 4 k, runFor_done k _ h]
      rw [e]
      exact wpAny_pure hq
    · rw [if_neg h]
      refine wpAny_bind (wpAny_rule ?_)
      have hlt : 4 < n := by
        apply Nat.lt_of_not_le
        intro q
        obtain ⟨k, hk⟩ := Nat.exists_eq_add_of_le q
        apply h
        rw [hk, runFor_add n k, runFor_done k _ ho]
        exact ho
      obtain ⟨k, rfl⟩ := Nat.exists_eq_add_of_le (Nat.le_of_lt hlt)
      rw [runFor_add 4 k] at ho hq
      exact ih k _ ho (by omega) hq
theorem wp_rules {Q : Unit → Shared → Prop} (c : Nat → Bool) (f : Nat → String) : ∀ (l : List Nat), Q () s → wpAny M A (forIn l PUnit.unit (fun i _ => if c i = true then do rule (f i); pure (ForInStep.yield PUnit.unit) else pure (ForInStep.yield PUnit.unit))) (fun _ s' => Q () s') E s := by
  intro l
  induction l with
  | nil => intro h; exact wpAny_pure h
  | cons a l ih =>
    intro h
    rw [List.forIn_cons]
    refine wpAny_bind ?_
    by_cases hc : c a = true
    · rw [if_pos hc]
      exact wpAny_bind (wpAny_rule (wpAny_pure (ih h)))
    · rw [if_neg hc]
      exact wpAny_pure (ih h)
theorem wp_toEnd {Q : Option Sre.M → Shared → Prop} {m : Sre.M} {r : Option (Nat × Nat)} {n : Nat} (hf : Found (m.runFor n) r) (hn : n + 1 ≤ 4 * 2 ^ 64)
    (h : match r with | some p => ∀ m', m'.start = p.1 → m'.handed = p.2 → Q (some m') s | none => Q none s) : wpAny M A (reRunToEnd m) Q E s := by
  unfold reRunToEnd
  have ho : (m.runFor n).outcome.isSome = true := by
    cases r with
    | none => rw [show (m.runFor n).outcome = some .failed from hf]; rfl
    | some p => rw [show (m.runFor n).outcome = some .matched from hf.1]; rfl
  refine wpAny_bind (wp_drive _ n m ho hn ?_)
  generalize m.runFor n = m' at hf
  refine wpAny_bind ?_
  have key := wp_rules (M := M) (A := A) (E := E) (s := s) (Q := fun _ s' => wpAny M A (match m'.outcome with | some .matched => pure (some m') | some .failed => pure none | some (.stuck why) => unsupported s!"_sre:{why}" | none => unsupported "internal:sre:no-outcome") Q E s') (fun i => m'.seen.has i) (fun i => Sre.names.getD i "") (List.range Sre.names.size) ?_
  · refine wpAny_mono key (fun _ _ x => x) fun _ _ x => x
  · cases r with
    | none => rw [show m'.outcome = some .failed from hf]; exact wpAny_pure h
    | some p =>
      obtain ⟨h1, h2, h3⟩ := hf
      rw [h1]
      exact wpAny_pure (h m' h2 h3)
end

section
variable {prog : Program} {w : World} {A : Around} {E : Value → Shared → Prop} {s : Shared}
theorem named_sub (p q : Value) : reNamed "re.Pattern.sub" "sub" ["repl", "string", "count"] 2 [p, q] [] = pure [some p, some q, none] := by
  rfl
structure PatAt (h : Heap) (P T : Addr) (code : Array Nat) (kind : Nat) : Prop where
  pat : ∃ o vs, h.get? P = some o ∧ o.cls = .type "re.Pattern" ∧ o.dict = none ∧ o.data = .fields vs ∧ vs.getD 6 .none = rawInt kind ∧ vs.getD 5 .none = .ref T ∧ vs.getD 2 .none = rawInt 0
  tup : ∃ o xs n, h.get? T = some o ∧ o.data = .seq xs n ∧ (xs.map reRawOf).map (·.toNat) = code
theorem PatAt.keeps {h h' : Heap} {P T : Addr} {code : Array Nat} {kind : Nat} (p : PatAt h P T code kind) (k : ∀ b o, h.get? b = some o → h'.get? b = some o) : PatAt h' P T code kind :=
  ⟨let ⟨o, vs, a, r⟩ := p.pat; ⟨o, vs, k _ _ a, r⟩, let ⟨o, xs, n, a, r⟩ := p.tup; ⟨o, xs, n, k _ _ a, r⟩⟩
theorem wp_target_str {P T : Addr} {code : Array Nat} (hp : PatAt s.heap P T code 0) {x : Str} {t : Tok} {Q : ReTarget → Shared → Prop}
    (h : Q { pattern := .ref P, string := .str x t, code := code, text := x.cps, kind := 0, groups := 0, pos := 0, lim := x.cps.size } s) : wpAny (model prog w) A (reWholeTarget (.ref P) (.str x t)) Q E s := by
  obtain ⟨o, vs, ho, hc, hdict, hd, h6, h5, h2⟩ := hp.pat
  obtain ⟨ot, xs, n, hto, htd, hcode⟩ := hp.tup
  unfold reWholeTarget
  refine wpAny_bind (wpAny_fieldsOf ho hd ?_)
  refine wpAny_bind ?_
  unfold reTextOf
  show wpAny _ _ (asStr? (.str x t) >>= fun r => _) _ _ _
  refine wpAny_bind (wpAny_of_eq (a := some x) rfl ?_)
  refine wpAny_pure ?_
  rw [h6, h5, h2]
  show wpAny _ _ (reRawItems (.ref T) >>= fun l => pure ({ pattern := .ref P, string := .str x t, code := l.map (·.toNat), text := x.cps, kind := 0, groups := 0, pos := 0, lim := x.cps.size } : ReTarget)) Q E s
  refine wpAny_bind ?_
  unfold reRawItems
  refine wpAny_bind (wpAny_seqItems hto htd (wpAny_pure ?_))
  refine wpAny_pure ?_
  show Q { pattern := .ref P, string := .str x t, code := (xs.map reRawOf).map (·.toNat), text := x.cps, kind := 0, groups := 0, pos := 0, lim := x.cps.size } s
  rw [hcode]
  exact h
theorem wp_target_bytes {P T : Addr} {code : Array Nat} (hp : PatAt s.heap P T code 1) {x : Array UInt8} {t : Tok} {Q : ReTarget → Shared → Prop}
    (h : Q { pattern := .ref P, string := .bytes x t, code := code, text := x.map (·.toNat), kind := 1, groups := 0, pos := 0, lim := (x.map (·.toNat)).size } s) : wpAny (model prog w) A (reWholeTarget (.ref P) (.bytes x t)) Q E s := by
  obtain ⟨o, vs, ho, hc, hdict, hd, h6, h5, h2⟩ := hp.pat
  obtain ⟨ot, xs, n, hto, htd, hcode⟩ := hp.tup
  unfold reWholeTarget
  refine wpAny_bind (wpAny_fieldsOf ho hd ?_)
  refine wpAny_bind ?_
  unfold reTextOf
  show wpAny _ _ (asStr? (.bytes x t) >>= fun r => _) _ _ _
  refine wpAny_bind (wpAny_of_eq (a := none) rfl ?_)
  refine wpAny_bind (wpAny_of_eq (a := some x) KBy.quiet_eq ?_)
  refine wpAny_pure ?_
  rw [h6, h5, h2]
  show wpAny _ _ (reNoCollectionInside (.bytes x t) 1 >>= fun _ => reRawItems (.ref T) >>= fun l => pure ({ pattern := .ref P, string := .bytes x t, code := l.map (·.toNat), text := x.map (·.toNat), kind := 1, groups := 0, pos := 0, lim := (x.map (·.toNat)).size } : ReTarget)) Q E s
  refine wpAny_bind ?_
  unfold reNoCollectionInside
  show wpAny _ _ (isInstance (.bytes x t) (.type "bytes") >>= fun r => _) _ _ _
  refine wpAny_bind (wpAny_of_eq (a := true) KBy.isInstance_eq ?_)
  refine wpAny_pure ?_
  refine wpAny_bind ?_
  unfold reRawItems
  refine wpAny_bind (wpAny_seqItems hto htd (wpAny_pure ?_))
  refine wpAny_pure ?_
  show Q { pattern := .ref P, string := .bytes x t, code := (xs.map reRawOf).map (·.toNat), text := x.map (·.toNat), kind := 1, groups := 0, pos := 0, lim := (x.map (·.toNat)).size } s
  rw [hcode]
  exact h
end
section
variable {prog : Program} {w : World} {A : Around}
theorem wp_push {E : Value → Shared → Prop} {s : Shared} {l : Addr} {xs : Array Value} {n : Nat} {v : Value} {Q : Unit → Shared → Prop} (hl : s.heap.get? l = some { cls := .type "list", data := .seq xs n }) (hz : xs.size ≤ 1000000)
    (h : ∀ h', (∀ b o, b ≠ l → s.heap.get? b = some o → h'.get? b = some o) → h'.get? l = some { cls := .type "list", data := .seq (xs.push v) (n + 1) } → Q () { s with heap := h' }) :
    wpAny (model prog w) A (updateSeq l (fun x => x.push v)) Q E s := by
  have hz' : xs.size ≤ sizeLine := by rw [sizeLine_eq]; omega
  have hf : (Obj.mapSeq (fun x => x.push v) { cls := .type "list", data := .seq xs n } : Obj) = { cls := .type "list", data := .seq (xs.push v) (n + 1) } := by
    simp [Obj.mapSeq]
  refine wpAny_updateSeq hl rfl (h _ ?_ ?_) hz' (by simp only [Array.size_push]; omega)
  · intro b o hb e
    rw [Heap.get?_update_other _ _ (Ne.symm hb)]
    exact e
  · rw [Heap.get?_update_self _ hl (by rw [hf]; rfl), hf]
structure SubSide (kind : Nat) (val : List Nat → Tok → Value) (t : Array Nat) (xv : Value) (code : Array Nat) (next : Array Nat → Nat → Nat → Option (Nat × Nat)) (rep : List Nat) (rt : Tok) (outL : Nat → List Nat) (prog : Program) (w : World) (A : Around) : Prop where
  tgt : ∀ (P T : Addr) (s : Shared) (Q : ReTarget → Shared → Prop) (E : Value → Shared → Prop), PatAt s.heap P T code kind → Q { pattern := .ref P, string := xv, code := code, text := t, kind := kind, groups := 0, pos := 0, lim := t.size } s → wpAny (model prog w) A.in1 (reWholeTarget (.ref P) xv) Q E s
  lit : ∀ (s : Shared) (Q : Unit → Shared → Prop) (E : Value → Shared → Prop), Q () s → wpAny (model prog w) A.in1 (reLiteralCannotBeTurned (val rep rt)) Q E s
  ne : ∀ l u, val l u ≠ .none
  sl : ∀ (s : Shared) (Q : Value → Shared → Prop) (E : Value → Shared → Prop) (b e : Nat), Q (val ((t.toList.drop b).take (e - b)) s.toks) { s with toks := s.toks + 1 } → wpAny (model prog w) A.in1 (reSlice t kind b e) Q E s
  join : ∀ (s : Shared) (Q : Value → Shared → Prop) (E : Value → Shared → Prop) (l : Addr) (ps : List (List Nat × Tok)) (n : Nat) (tk0 : Tok), ps ≠ [] → s.heap.get? l = some { cls := .type "list", data := .seq (ps.map fun p => val p.1 p.2).toArray n } → ps.length ≤ 200000 → (ps.map (·.1)).flatten.length ≤ 200000 →
    (∀ h' tk t', (∀ b o, s.heap.get? b = some o → h'.get? b = some o) → Q (val (ps.map (·.1)).flatten t') { s with heap := h', toks := tk }) → wpAny (model prog w) A.in1 (call (.builtin (if kind == 0 then "str.join" else "bytes.join")) [val [] tk0, .ref l]) Q E s
  find : ∀ d, ∃ n, n + 1 ≤ 4 * 2 ^ 64 ∧ Found ((Sre.forSearch code t 0 d t.size false).runFor n) (next t (t.size - d) d)
  none : ∀ d, next t (t.size - d) d = Option.none → outL d = t.toList.drop d
  some : ∀ d i e, next t (t.size - d) d = Option.some (i, e) → d ≤ i ∧ i < e ∧ e ≤ t.size ∧ outL d = (t.toList.drop d).take (i - d) ++ rep ++ outL e
  z : t.size ≤ 50000
  zo : (outL 0).length ≤ 200000
theorem sub_loop {kind : Nat} {val : List Nat → Tok → Value} {t : Array Nat} {xv : Value} {code : Array Nat} {next : Array Nat → Nat → Nat → Option (Nat × Nat)} {rep : List Nat} {rt : Tok} {outL : Nat → List Nat} (S : SubSide kind val t xv code next rep rt outL prog w A)
    {P T l : Addr} {R : Result → Shared → Prop} : ∀ (k d : Nat) (nn : Int) (ps : List (List Nat × Tok)) (n : Nat) (s : Shared), t.size - d = k → d ≤ t.size → PatAt s.heap P T code kind →
    s.heap.get? l = Option.some { cls := .type "list", data := .seq (ps.map fun p => val p.1 p.2).toArray n } → ps.length ≤ 2 * d → l ≠ P → l ≠ T → (ps.map (·.1)).flatten ++ outL d = outL 0 →
    (∀ h' tk t', (∀ b o, b ≠ l → s.heap.get? b = Option.some o → h'.get? b = Option.some o) → R (.ok (.ret (val (outL 0) t'))) { s with heap := h', toks := tk }) →
    codeAny (model prog w) A (.builtin "re.Pattern.sub.loop" ⟨[.ref P, xv, val rep rt, rawInt 0, rawInt 0, rawInt nn, rawInt d, rawInt d, .bool false, .ref l, .bool false], []⟩) R s := by
  intro k
  induction k using Nat.strongRecOn with
  | ind k ih =>
  intro d nn ps n s hk hd hp hl hlen hlP hlT hout hR
  refine codeAny_builtin entry_subloop ?_
  rw [Around.under_plainId plain_subloop]
  show wpAny _ _ (reWholeTarget (.ref P) xv >>= fun r => _) _ _ _
  refine wpAny_bind (S.tgt P T s _ _ hp ?_)
  show wpAny _ _ (reLiteralCannotBeTurned (val rep rt) >>= fun r => _) _ _ _
  refine wpAny_bind (S.lit _ _ _ ?_)
  show wpAny _ _ (reNextFound { pattern := .ref P, string := xv, code := code, text := t, kind := kind, groups := 0, pos := 0, lim := t.size } d false >>= fun r => _) _ _ _
  obtain ⟨nf, hn1, hf⟩ := S.find d
  refine wpAny_bind (wp_toEnd hf hn1 ?_)
  cases hx : next t (t.size - d) d with
  | none =>
    have ho := S.none d hx
    rw [ho] at hout
    dsimp only
    have hz := S.z
    have hzo := S.zo
    have tail : ∀ (ps₂ : List (List Nat × Tok)) (n₂ : Nat) (s₂ : Shared), s₂.heap.get? l = Option.some { cls := .type "list", data := .seq (ps₂.map fun p => val p.1 p.2).toArray n₂ } → ps₂.length ≤ 2 * d + 1 → (ps₂.map (·.1)).flatten = outL 0 →
        (∀ h' tk t', (∀ b o, b ≠ l → s₂.heap.get? b = Option.some o → h'.get? b = Option.some o) → R (.ok (.ret (val (outL 0) t'))) { s₂ with heap := h', toks := tk }) →
        wpAny (model prog w) A.in1 (reSlice t kind 0 0 >>= fun joiner => seqItems? (.ref l) >>= fun x => if (x.getD #[]).isEmpty = true then ret joiner else call (.builtin (if (kind == 0) = true then "str.join" else "bytes.join")) [joiner, .ref l] >>= fun text => ret text)
          (fun fin s' => match fin with | .done f => R (.ok f) s' | .again c' => c'.quiet = true ∧ codeAny (model prog w) A c' R s') (fun e s' => R (.error e) s') s₂ := by
      intro ps₂ n₂ s₂ hl₂ hlen₂ hfl hR₂
      refine wpAny_bind (S.sl _ _ _ 0 0 ?_)
      refine wpAny_bind (wpAny_seqItems (s := { s₂ with toks := s₂.toks + 1 }) hl₂ rfl ?_)
      by_cases hps : ps₂ = []
      · subst hps
        rw [if_pos (show ((Option.some (([] : List (List Nat × Tok)).map fun p => val p.1 p.2).toArray).getD #[]).isEmpty = true from rfl)]
        have e0 : outL 0 = [] := by rw [← hfl]; rfl
        have e1 : (List.drop 0 t.toList).take (0 - 0) = outL 0 := by rw [e0]; simp
        rw [e1]
        exact wpAny_pure (hR₂ s₂.heap _ _ fun b o _ e => e)
      · have hne : ¬ (((Option.some (ps₂.map fun p => val p.1 p.2).toArray).getD #[]).isEmpty = true) := by simpa using hps
        rw [if_neg hne]
        have e1 : (List.drop 0 t.toList).take (0 - 0) = [] := by simp
        rw [e1]
        refine wpAny_bind (S.join { s₂ with toks := s₂.toks + 1 } _ _ l ps₂ n₂ _ hps hl₂ (by omega) (by rw [hfl]; exact hzo) fun h' tk t' hk' => ?_)
        rw [hfl]
        exact wpAny_pure (hR₂ h' tk t' fun b o _ e => hk' b o e)
    by_cases hlt : d < t.size
    · rw [if_pos (by simpa using hlt)]
      refine wpAny_bind (S.sl _ _ _ _ _ ?_)
      refine wpAny_bind (wp_push (s := { s with toks := s.toks + 1 }) hl (by simp; omega) fun h' hk' hl' => ?_)
      refine tail (ps ++ [((t.toList.drop d).take (t.size - d), s.toks)]) (n + 1) _ ?_ (by simp; omega) ?_ fun h'' tk t' hk'' => hR h'' tk t' fun b o hb e => hk'' b o hb (hk' b o hb e)
      · show h'.get? l = _
        rw [hl']
        simp
      · rw [List.map_append, List.flatten_append, ← hout]
        simp [List.take_of_length_le]
    · rw [if_neg (by simpa using hlt)]
      have hd0 : t.toList.drop d = [] := by simp; omega
      rw [hd0, List.append_nil] at hout
      exact tail ps n s hl (by omega) hout hR
  | some p =>
    obtain ⟨i, e⟩ := p
    obtain ⟨h1, h2, h3, h4⟩ := S.some d i e hx
    rw [h4] at hout
    have hz := S.z
    dsimp only
    intro m' hs he
    have next : ∀ (ps₂ : List (List Nat × Tok)) (n₂ : Nat) (s₂ : Shared), s₂.heap.get? l = Option.some { cls := .type "list", data := .seq (ps₂.map fun p => val p.1 p.2).toArray n₂ } → ps₂.length ≤ 2 * d + 1 → (ps₂.map (·.1)).flatten ++ rep ++ outL e = outL 0 →
        PatAt s₂.heap P T code kind →
        (∀ h' tk t', (∀ b o, b ≠ l → s₂.heap.get? b = Option.some o → h'.get? b = Option.some o) → R (.ok (.ret (val (outL 0) t'))) { s₂ with heap := h', toks := tk }) →
        wpAny (model prog w) A.in1 (if (val rep rt != Value.none) = true then (updateSeq l fun x => x.push (val rep rt)) >>= fun _ => again (Code.builtin "re.Pattern.sub.loop" { pos := [Value.ref P, xv, val rep rt, rawInt 0, rawInt 0, rawInt (nn + 1), rawInt m'.handed, rawInt m'.handed, Value.bool (m'.handed == m'.start), Value.ref l, Value.bool false] }) else again (Code.builtin "re.Pattern.sub.loop" { pos := [Value.ref P, xv, val rep rt, rawInt 0, rawInt 0, rawInt (nn + 1), rawInt m'.handed, rawInt m'.handed, Value.bool (m'.handed == m'.start), Value.ref l, Value.bool false] }))
          (fun fin s' => match fin with | .done f => R (.ok f) s' | .again c' => c'.quiet = true ∧ codeAny (model prog w) A c' R s') (fun e s' => R (.error e) s') s₂ := by
      intro ps₂ n₂ s₂ hl₂ hlen₂ hfl hp₂ hR₂
      have hne : (val rep rt != Value.none) = true := bne_iff_ne.mpr (S.ne _ _)
      rw [if_pos hne]
      refine wpAny_bind (wp_push hl₂ (by simp; omega) fun h' hk' hl' => ?_)
      refine wpAny_pure ⟨plainId_quiet plain_subloop _, ?_⟩
      rw [hs, he]
      have hb : (e == i) = false := by simp; omega
      rw [hb]
      refine ih (t.size - e) (by omega) e (nn + 1) (ps₂ ++ [(rep, rt)]) (n₂ + 1) _ rfl h3 ?_ ?_ (by simp; omega) hlP hlT ?_ fun h'' tk t' hk'' => hR₂ h'' tk t' fun b o hb e => hk'' b o hb (hk' b o hb e)
      · obtain ⟨o, vs, a, r⟩ := hp₂.pat
        obtain ⟨o2, xs, n2, a2, r2⟩ := hp₂.tup
        exact ⟨⟨o, vs, hk' _ _ (Ne.symm hlP) a, r⟩, ⟨o2, xs, n2, hk' _ _ (Ne.symm hlT) a2, r2⟩⟩
      · show h'.get? l = _
        rw [hl']
        simp
      · rw [← hfl]
        simp
    by_cases hlt : d < i
    · rw [if_pos (by rw [hs]; simpa using hlt)]
      rw [hs]
      refine wpAny_bind (S.sl _ _ _ _ _ ?_)
      refine wpAny_bind (wp_push (s := { s with toks := s.toks + 1 }) hl (by simp; omega) fun h' hk' hl' => ?_)
      rw [← hs]
      refine next (ps ++ [((t.toList.drop d).take (i - d), s.toks)]) (n + 1) _ ?_ (by simp; omega) ?_ ?_ fun h'' tk t' hk'' => hR h'' tk t' fun b o hb e => hk'' b o hb (hk' b o hb e)
      · show h'.get? l = _
        rw [hl']
        simp
      · rw [← hout]
        simp
      · obtain ⟨o, vs, a, r⟩ := hp.pat
        obtain ⟨o2, xs, n2, a2, r2⟩ := hp.tup
        exact ⟨⟨o, vs, hk' _ _ (Ne.symm hlP) a, r⟩, ⟨o2, xs, n2, hk' _ _ (Ne.symm hlT) a2, r2⟩⟩
    · rw [if_neg (by rw [hs]; simpa using hlt)]
      have hdi : i - d = 0 := by omega
      rw [hdi] at hout
      exact next ps n s hl (by omega) (by rw [← hout]; simp) hp hR
end
end Mine
end
section
open PySem PySem.W PySem.Calls PyProof.Rows PySem.Builtin PySem.Builtin.Re
set_option Elab.async false
set_option maxRecDepth 100000
set_option maxHeartbeats 4000000
namespace Mine
section
variable {prog : Program} {w : World} {A : Around}
theorem sub_call {E : Value → Shared → Prop} {Q : Value → Shared → Prop} {s : Shared} {kind : Nat} {val : List Nat → Tok → Value} {t : Array Nat} {xv : Value} {code : Array Nat} {next : Array Nat → Nat → Nat → Option (Nat × Nat)} {rep : List Nat} {rt : Tok} {outL : Nat → List Nat} (S : SubSide kind val t xv code next rep rt outL prog w A)
    {P T : Addr} (hp : PatAt s.heap P T code kind)
    (hcall : ∀ (s : Shared) (Q : Option Value → Shared → Prop) (E : Value → Shared → Prop), Q none s → wpAny (model prog w) A.in1 (specialOf (val rep rt) "__call__") Q E s)
    (hl : (∃ y, asStr? (val rep rt) = pure (some y) ∧ (!y.cps.contains 92) = true) ∨ (asStr? (val rep rt) = pure none ∧ ∃ b, Bytes.bufferQuiet? "re.Pattern.sub" (val rep rt) = pure (some b) ∧ (!b.contains 92) = true))
    (h : ∀ h' tk t', (∀ b o, s.heap.get? b = some o → h'.get? b = some o) → Q (val (outL 0) t') { s with heap := h', toks := tk }) :
    wpAny (model prog w) A (call (.builtin "re.Pattern.sub") [.ref P, val rep rt, xv]) Q E s := by
  obtain ⟨o, vs, ho, hc, hrest⟩ := id hp.pat
  refine wpAny_call (codeAny_call_builtin plain_sub entry_sub (slot_sub.check _ _ _ _ _ _ _ _ ⟨o, ho, hc⟩ (args_sub _ _ _) ?_))
  show wpAny _ _ (reNamed "re.Pattern.sub" "sub" ["repl", "string", "count"] 2 [val rep rt, xv] [] >>= fun r => _) _ _ _
  refine wpAny_bind (wpAny_of_eq (named_sub _ _) ?_)
  dsimp only
  show wpAny _ _ (specialOf (val rep rt) "__call__" >>= fun r => _) _ _ _
  refine wpAny_bind (hcall _ _ _ ?_)
  rw [if_neg (by simp)]
  have hkeep : ∀ b o, s.heap.get? b = some o → (s.heap.push { cls := .type "list", data := .seq #[] }).get? b = some o := fun b o e => Heap.get?_push_of_some _ e
  obtain ⟨ot, xs, n, hto, _⟩ := id hp.tup
  have fin := sub_loop S (l := s.heap.objs.size) (T := T) (P := P) (R := wants Q E) t.size 0 0 [] 0 { s with heap := s.heap.push { cls := .type "list", data := .seq #[] } } (by omega) (by omega) (hp.keeps hkeep) (Heap.get?_push_size _ rfl) (by simp) (Ne.symm (Nat.ne_of_lt (Heap.lt_size ho))) (Ne.symm (Nat.ne_of_lt (Heap.lt_size hto))) (by simp) fun h' tk t' hk' => h h' tk t' fun b o e => hk' b o (Nat.ne_of_lt (Heap.lt_size e)) (hkeep b o e)
  rcases hl with ⟨y, h1, h2⟩ | ⟨h1, b, h2, h3⟩
  · refine wpAny_bind (wpAny_of_eq h1 ?_)
    dsimp only
    refine wpAny_bind (wpAny_pure ?_)
    rw [if_neg (by simp), if_pos h2]
    refine wpAny_bind (wpAny_pure ?_)
    refine wpAny_bind (wpAny_holding (S.tgt P T s _ _ hp ?_))
    rw [if_neg (by simp)]
    refine wpAny_bind (wpAny_newObj_type ?_ (by show (#[] : Array Value).size ≤ sizeLine; rw [sizeLine_eq]; decide))
    exact wpAny_pure ⟨plainId_quiet plain_subloop _, fin⟩
  · refine wpAny_bind (wpAny_of_eq h1 ?_)
    dsimp only
    refine wpAny_bind (wpAny_of_eq h2 ?_)
    dsimp only
    refine wpAny_bind (wpAny_pure ?_)
    rw [if_neg (by simp), if_pos h3]
    refine wpAny_bind (wpAny_pure ?_)
    refine wpAny_bind (wpAny_holding (S.tgt P T s _ _ hp ?_))
    rw [if_neg (by simp)]
    refine wpAny_bind (wpAny_newObj_type ?_ (by show (#[] : Array Value).size ≤ sizeLine; rw [sizeLine_eq]; decide))
    exact wpAny_pure ⟨plainId_quiet plain_subloop _, fin⟩
end
end Mine
end
section
open PySem PySem.W PySem.Calls PyProof.Rows PySem.Builtin PySem.Builtin.Re
set_option Elab.async false
set_option maxRecDepth 100000
set_option maxHeartbeats 4000000
namespace Mine
theorem slot_bjoin : Slot "bytes" "join" "bytes.join" :=
  .of (owner := "bytes") (n := "join") (by rw [typeLookup_type, builtinLookup_eq_fast]; kernel_rfl) (by decide +kernel) (by decide +kernel) (by decide +kernel)
    (by first | exact .inl (by decide +kernel) | exact .inr (by decide +kernel)) (by rw [isSubtype_type]; kernel_rfl)
theorem entry_bjoin : entryFor table "bytes.join" = some Builtin.«bytes.join» := entryFor_of_tree (by kernel_rfl)
theorem args_bjoin (a b : Value) : argsOk "bytes.join" ⟨[a, b], []⟩ := by
  unfold argsOk; kernel_rfl
section
variable {prog : Program} {w : World} {A : Around}
theorem takeq {id : String} {b : Array UInt8} {t : Tok} : Bytes.takeBufferQuiet? id (.bytes b t) 0 = pure (some (b, none)) := by
  unfold Bytes.takeBufferQuiet? Bytes.takeBuffer?
  rw [KBy.special_eq KBy.look_buffer, KBy.own_buffer]
  have e : (Bytes.buffer? id (.bytes b t) ((0 : Int) == Bytes.fullReadOnly)) = pure (some b) := KBy.buffer_eq
  rw [e]
  rfl
theorem wp_forIn {E : Value → Shared → Prop} {s : Shared} {σ : Type} (f : Nat → σ → Sem (ForInStep σ)) (I : Nat → σ → Prop) {Q : σ → Shared → Prop} : ∀ (n i : Nat) (st : σ), I i st → (∀ j st, i ≤ j → j < i + n → I j st → wpAny (model prog w) A (f j st) (fun r s' => s' = s ∧ ∃ st', r = .yield st' ∧ I (j + 1) st') E s) → (∀ st, I (i + n) st → Q st s) → wpAny (model prog w) A (forIn (List.range' i n) st f) Q E s := by
  intro n
  induction n with
  | zero => intro i st hi _ hq; exact wpAny_pure (hq st hi)
  | succ n ih =>
    intro i st hi hf hq
    rw [List.range'_succ, List.forIn_cons]
    refine wpAny_bind (wpAny_mono (hf i st (Nat.le_refl _) (by omega) hi) (fun r s' h => ?_) fun _ _ e => e)
    obtain ⟨rfl, st', rfl, h⟩ := h
    exact ih (i + 1) st' h (fun j st h1 h2 => hf j st (by omega) (by omega)) (fun st h => hq st (by rwa [show i + (n + 1) = i + 1 + n from by omega]))
theorem wp_joinLetGo {E : Value → Shared → Prop} {s : Shared} {Q : Unit → Shared → Prop} {keep : List Value} : ∀ (l : List Value), Q () s → wpAny (model prog w) A (Bytes.joinLetGo (l.map fun x => (x, none)) keep) Q E s := by
  intro l
  induction l with
  | nil => intro h; exact wpAny_pure h
  | cons x l ih =>
    intro h
    show wpAny (model prog w) A (letGo [x] _ >>= fun _ => Bytes.joinLetGo (l.map fun x => (x, none)) keep) Q E s
    exact wpAny_bind (wpAny_letGo (ih h))
abbrev bval (l : List Nat) (t : Tok) : Value := .bytes (l.map (·.toUInt8)).toArray t
theorem match_many {α : Type} (X : Array Value) (h : X.size ≠ 1) (f : Value → α) (g : Array Value → α) : Bytes.joinM.match_1 (fun _ => α) X f g = g X := by
  unfold Bytes.joinM.match_1
  rw [dif_neg h]
theorem bytes_join {E : Value → Shared → Prop} {s : Shared} {Q : Value → Shared → Prop} {l : Addr} {ps : List (List Nat × Tok)} {n : Nat} {tk0 : Tok} (_hps : ps ≠ []) (hl : s.heap.get? l = some { cls := .type "list", data := .seq (ps.map fun p => bval p.1 p.2).toArray n }) (_hz : ps.length ≤ 200000) (hz : (ps.map (·.1)).flatten.length ≤ 200000)
    (h : ∀ h' tk t', (∀ b o, s.heap.get? b = some o → h'.get? b = some o) → Q (bval (ps.map (·.1)).flatten t') { s with heap := h', toks := tk }) : wpAny (model prog w) A (call (.builtin "bytes.join") [bval [] tk0, .ref l]) Q E s := by
  refine wpAny_call (codeAny_call_builtin slot_bjoin.plain entry_bjoin (slot_bjoin.check _ _ _ _ _ _ _ _ (typeIs_bytes _ _ _) (args_bjoin _ _) ?_))
  show wpAny _ _ (Bytes.joinItems (.ref l) >>= fun seq => _) _ _ _
  refine wpAny_bind ?_
  unfold Bytes.joinItems
  refine wpAny_bind (wpAny_typeOf (T := "list") ⟨_, hl, rfl⟩ ?_)
  rw [if_pos (by decide)]
  refine wpAny_pure ?_
  refine wpAny_bind (wpAny_seqItems hl rfl ?_)
  match ps, _hps with
  | [p], _ =>
    show wpAny _ _ (typeOf (bval p.1 p.2) >>= fun t => if (t == .type "bytes") = true then (rule "bytes.join.one-item" >>= fun _ => ret (bval p.1 p.2)) else _) _ _ _
    refine wpAny_bind (wpAny_typeOf (typeIs_bytes _ _ _) ?_)
    rw [if_pos (by decide)]
    refine wpAny_bind (wpAny_rule (wpAny_pure ?_))
    have := h s.heap s.toks p.2 fun b o e => e
    simp only [List.map_cons, List.map_nil, List.flatten_cons, List.flatten_nil, List.append_nil] at this
    exact this
  | p :: q :: r, _ =>
    generalize hpsd : p :: q :: r = ps at hl _hz hz h
    dsimp only
    have e3 : (ps.map fun p => bval p.1 p.2).toArray.size = ps.length := by simp
    have hlen2 : 2 ≤ ps.length := by rw [← hpsd]; simp
    rw [if_pos (by decide)]
    generalize hX : (ps.map fun p => bval p.1 p.2).toArray = X at hl e3 ⊢
    rw [match_many X (by omega)]
    simp only [Std.Legacy.Range.forIn_eq_forIn_range', Std.Legacy.Range.size, e3]
    refine wpAny_bind (wp_forIn _ (fun i (st : Array (Array UInt8) × List (Value × Option Value)) => st.1 = ((ps.take i).map fun p => (p.1.map (·.toUInt8)).toArray).toArray ∧ st.2 = ((ps.take i).map fun p => bval p.1 p.2).map fun x => (x, none)) _ _ _ ⟨rfl, rfl⟩ ?_ ?_)
    · rintro j ⟨parts, taken⟩ _ hj ⟨h1, h2⟩
      dsimp only at h1 h2 ⊢
      have hj' : j < ps.length := by simpa using hj
      have hx : X.getD j Value.none = bval ps[j].1 ps[j].2 := by rw [← hX]; simp [Array.getD, hj']
      refine wpAny_bind (wpAny_seqItems hl rfl ?_)
      dsimp only
      rw [hx]
      have ht : ps.take (j + 1) = ps.take j ++ [ps[j]] := by rw [List.take_add_one]; simp [hj']
      have hany : (taken.any fun x => x.1.onHeap) = false := by
        rw [h2, List.any_eq_false]
        intro x hx
        obtain ⟨y, hy, rfl⟩ := List.mem_map.mp hx
        obtain ⟨z, hz, rfl⟩ := List.mem_map.mp hy
        simp [Value.onHeap]
      rw [hany, if_neg (by decide)]
      refine wpAny_bind (wpAny_holding (wpAny_of_eq takeq ?_))
      dsimp only
      refine wpAny_bind (wpAny_seqItems hl rfl ?_)
      dsimp only
      rw [e3, if_neg (by simp)]
      refine wpAny_pure ⟨rfl, _, rfl, ?_, ?_⟩
      · dsimp only
        rw [h1, ht, List.map_append, List.push_toArray]
        rfl
      · dsimp only
        rw [h2, ht, List.map_append, List.map_append]
        rfl
    · rintro ⟨parts, taken⟩ ⟨h1, h2⟩
      have htk : ps.take (0 + (ps.length - 0 + 1 - 1) / 1) = ps := by rw [List.take_of_length_le]; simp
      rw [htk] at h1 h2
      dsimp only at h1 h2 ⊢
      show wpAny _ _ (Bytes.payload (bval [] tk0) >>= fun sep => _) _ _ _
      refine wpAny_bind (wpAny_of_eq (a := #[]) rfl ?_)
      have hj : Bytes.joined #[] parts.toList = ((ps.map (·.1)).flatten.map (·.toUInt8)).toArray := by
        rw [h1]
        unfold Bytes.joined
        have key : ∀ (qs : List (List Nat × Tok)) (k : Nat) (acc : Array UInt8), ((qs.map fun p => (p.1.map (·.toUInt8)).toArray).zipIdx k).foldl (fun out (p : Array UInt8 × Nat) => (if p.2 > 0 then out ++ #[] else out) ++ p.1) acc = acc ++ ((qs.map (·.1)).flatten.map (·.toUInt8)).toArray := by
          intro qs
          induction qs with
          | nil => intro k acc; simp
          | cons q qs ih =>
            intro k acc
            rw [List.map_cons, List.zipIdx_cons, List.foldl_cons, ih]
            simp
        have := key ps 0 #[]
        simpa using this
      rw [if_neg ?_]
      · show wpAny _ _ (mkBytes (Bytes.joined #[] parts.toList) >>= fun r => _) _ _ _
        rw [hj]
        refine wpAny_bind (wpAny_mkBytes ?_ (by rw [sizeLine_eq]; simp only [List.size_toArray, List.length_map]; omega))
        refine wpAny_bind (wpAny_holding (wpAny_point ?_))
        rw [h2]
        refine wpAny_bind (wp_joinLetGo _ ?_)
        exact wpAny_pure (h s.heap _ _ fun b o e => e)
      · have hfold : ∀ (qs : List (Array UInt8)) (k : Nat), qs.foldl (fun x1 x2 => x1 + x2.size) k = k + (qs.map (·.size)).sum := by
          intro qs
          induction qs with
          | nil => intro k; rfl
          | cons q qs ih => intro k; rw [List.foldl_cons, ih, List.map_cons, List.sum_cons]; omega
        rw [← Array.foldl_toList, hfold, h1]
        have hsum : ((ps.map fun p => (p.1.map (·.toUInt8)).toArray).map (·.size)).sum = (ps.map (·.1)).flatten.length := by
          rw [List.length_flatten, List.map_map, List.map_map]
          congr 1
          refine List.map_congr_left fun p _ => ?_
          simp
        unfold Bytes.tooLong
        rw [hsum, decide_eq_true_eq, sizeLine_eq]
        simp only [List.size_toArray, List.length_nil]
        omega
abbrev sval (l : List Nat) (t : Tok) : Value := .str ⟨l.toArray⟩ t
theorem glued_nil (ps : List (List Nat)) : Builtin.Str.glued ⟨#[]⟩ (ps.map fun l => (⟨l.toArray⟩ : Str)) = ⟨ps.flatten.toArray⟩ := by
  have key : ∀ (qs : List (List Nat)) (acc : Array Nat), (qs.map fun l => (⟨l.toArray⟩ : Str)).foldl (fun acc p => acc ++ (#[] : Array Nat) ++ p.cps) acc = acc ++ qs.flatten.toArray := by
    intro qs
    induction qs with
    | nil => intro acc; simp
    | cons q qs ih => intro acc; rw [List.map_cons, List.foldl_cons, ih]; simp
  unfold Builtin.Str.glued
  cases ps with
  | nil => rfl
  | cons p ps =>
    show Str.mk ((ps.map fun l => (⟨l.toArray⟩ : Str)).foldl (fun acc p => acc ++ (#[] : Array Nat) ++ p.cps) p.toArray) = _
    rw [key]
    simp
theorem str_join0 {E : Value → Shared → Prop} {s : Shared} {Q : Value → Shared → Prop} {l : Addr} {ps : List (List Nat × Tok)} {n : Nat} {tk0 : Tok} (_hps : ps ≠ []) (hl : s.heap.get? l = some { cls := .type "list", data := .seq (ps.map fun p => sval p.1 p.2).toArray n }) (_hz : ps.length ≤ 200000) (hz : (ps.map (·.1)).flatten.length ≤ 200000)
    (h : ∀ h' tk t', (∀ b o, s.heap.get? b = some o → h'.get? b = some o) → Q (sval (ps.map (·.1)).flatten t') { s with heap := h', toks := tk }) : wpAny (model prog w) A (call (.builtin "str.join") [sval [] tk0, .ref l]) Q E s := by
  have e1 : (ps.map fun p => sval p.1 p.2) = strValues (ps.map fun p => ((⟨p.1.toArray⟩ : Str), p.2)) := by
    unfold strValues
    rw [List.map_map]
    rfl
  have e2 : ((ps.map fun p => ((⟨p.1.toArray⟩ : Str), p.2)).map (·.1)) = (ps.map (·.1)).map fun l => (⟨l.toArray⟩ : Str) := by
    rw [List.map_map, List.map_map]; rfl
  refine SC.join (D := l) (l := ps.map fun p => ((⟨p.1.toArray⟩ : Str), p.2)) (texts := (ps.map (·.1)).map fun l => (⟨l.toArray⟩ : Str)) ⟨_, hl, rfl, n, by rw [← e1]⟩ e2 ?_ fun t' k => ?_
  · unfold JoinOk Builtin.Str.tooLong
    have hfold : ∀ (qs : List (List Nat)) (k : Nat), (qs.map fun l => (⟨l.toArray⟩ : Str)).foldl (fun x1 x2 => x1 + x2.length + (⟨#[]⟩ : Str).length) k = k + (qs.map (·.length)).sum := by
      intro qs
      induction qs with
      | nil => intro k; rfl
      | cons q qs ih =>
        intro k
        rw [List.map_cons, List.foldl_cons, ih, List.map_cons, List.sum_cons]
        show k + q.toArray.size + 0 + _ = _
        simp
        omega
    rw [← Array.foldl_toList]
    simp only [List.toList_toArray] at hfold ⊢
    rw [hfold, ← List.length_flatten, Bool.not_eq_true', decide_eq_false_iff_not, sizeLine_eq]
    omega
  · unfold Txt.join
    rw [glued_nil]
    exact h s.heap k t' fun b o e => e
theorem cps_mk (x : Str) : (⟨x.cps.toList.toArray⟩ : Str) = x := by rw [Array.toArray_toList]
theorem side1 (x : Str) (u rt : Tok) (hz : x.length ≤ 50000) : SubSide 0 sval x.cps (.str x u) code1 next1 [46, 46] rt (fun d => qt 46 10 (fl1 x.cps d) (x.cps.toList.drop d)) prog w A where
  tgt := fun P T s Q E hp h => wp_target_str hp h
  lit := fun s Q E h => by
    unfold reLiteralCannotBeTurned
    exact wpAny_bind (wpAny_of_eq (a := some _) rfl (wpAny_pure h))
  ne := fun l u h => by cases h
  sl := fun s Q E b e h => by
    unfold reSlice
    rw [if_pos (show ((0 : Nat) == 0) = true from rfl)]
    have e1 : x.cps.extract b e = ((x.cps.toList.drop b).take (e - b)).toArray := by
      rw [← Array.toList_inj]; simp [Array.toList_extract, List.extract_eq_drop_take]
    rw [e1]
    refine wpAny_mkStr h ?_
    show ((x.cps.toList.drop b).take (e - b)).toArray.size ≤ sizeLine
    rw [sizeLine_eq, List.size_toArray, List.length_take, List.length_drop]
    have : x.cps.toList.length = x.length := by simp [Str.length]
    omega
  join := fun s Q E l ps n tk0 h1 h2 h3 h4 h5 => str_join0 h1 h2 h3 h4 h5
  find := fun d => by
    obtain ⟨n, h1, h2⟩ := find1 x.cps d
    have : x.cps.size = x.length := rfl
    exact ⟨n, by omega, h2⟩
  none := fun d h => (next1_spec x.cps _ d rfl).1 h
  some := fun d i e h => (next1_spec x.cps _ d rfl).2 i e h
  z := hz
  zo := by
    have := qt_len 46 10 (fl1 x.cps 0) (x.cps.toList.drop 0)
    have e : (x.cps.toList.drop 0).length = x.length := by simp [Str.length]
    omega
theorem side3 (x : Str) (u rt : Tok) (hz : x.length ≤ 50000) : SubSide 0 sval x.cps (.str x u) code3 next3 [13, 10] rt (fun d => Fb false (x.cps.toList.drop d)) prog w A where
  tgt := fun P T s Q E hp h => wp_target_str hp h
  lit := fun s Q E h => by
    unfold reLiteralCannotBeTurned
    exact wpAny_bind (wpAny_of_eq (a := some _) rfl (wpAny_pure h))
  ne := fun l u h => by cases h
  sl := fun s Q E b e h => by
    unfold reSlice
    rw [if_pos (show ((0 : Nat) == 0) = true from rfl)]
    have e1 : x.cps.extract b e = ((x.cps.toList.drop b).take (e - b)).toArray := by
      rw [← Array.toList_inj]; simp [Array.toList_extract, List.extract_eq_drop_take]
    rw [e1]
    refine wpAny_mkStr h ?_
    show ((x.cps.toList.drop b).take (e - b)).toArray.size ≤ sizeLine
    rw [sizeLine_eq, List.size_toArray, List.length_take, List.length_drop]
    have : x.cps.toList.length = x.length := by simp [Str.length]
    omega
  join := fun s Q E l ps n tk0 h1 h2 h3 h4 h5 => str_join0 h1 h2 h3 h4 h5
  find := fun d => by
    obtain ⟨n, h1, h2⟩ := find3 x.cps d
    have : x.cps.size = x.length := rfl
    exact ⟨n, by omega, h2⟩
  none := fun d h => (next3_spec x.cps _ d rfl).1 h
  some := fun d i e h => (next3_spec x.cps _ d rfl).2 i e h
  z := hz
  zo := by
    have := Fb_len false (x.cps.toList.drop 0)
    have e : (x.cps.toList.drop 0).length = x.length := by simp [Str.length]
    omega
theorem side2 (x : Array UInt8) (u rt : Tok) (hz : x.size ≤ 50000) : SubSide 1 bval (x.map (·.toNat)) (.bytes x u) code1 next1 [46, 46] rt (fun d => qt 46 10 (fl1 (x.map (·.toNat)) d) ((x.map (·.toNat)).toList.drop d)) prog w A where
  tgt := fun P T s Q E hp h => wp_target_bytes hp h
  lit := fun s Q E h => by
    unfold reLiteralCannotBeTurned
    refine wpAny_bind (wpAny_of_eq (a := none) rfl ?_)
    show wpAny _ _ (isInstance _ (.type "bytes") >>= fun r => _) _ _ _
    exact wpAny_bind (wpAny_of_eq (a := true) KBy.isInstance_eq (wpAny_pure h))
  ne := fun l u h => by cases h
  sl := fun s Q E b e h => by
    unfold reSlice
    rw [if_neg (by decide)]
    have e1 : ((x.map (·.toNat)).extract b e).map (·.toUInt8) = ((((x.map (·.toNat)).toList.drop b).take (e - b)).map (·.toUInt8)).toArray := by
      rw [← Array.toList_inj]; simp [Array.toList_extract, List.extract_eq_drop_take]
    rw [e1]
    refine wpAny_mkBytes h ?_
    rw [sizeLine_eq]
    simp only [List.size_toArray, List.length_map, List.length_take, List.length_drop, Array.length_toList, Array.size_map]
    omega
  join := fun s Q E l ps n tk0 h1 h2 h3 h4 h5 => bytes_join h1 h2 h3 h4 h5
  find := fun d => by
    obtain ⟨n, h1, h2⟩ := find1 (x.map (·.toNat)) d
    have : (x.map (·.toNat)).size = x.size := by simp
    exact ⟨n, by omega, h2⟩
  none := fun d h => (next1_spec _ _ d rfl).1 h
  some := fun d i e h => (next1_spec _ _ d rfl).2 i e h
  z := by simpa using hz
  zo := by
    have := qt_len 46 10 (fl1 (x.map (·.toNat)) 0) ((x.map (·.toNat)).toList.drop 0)
    have e : ((x.map (·.toNat)).toList.drop 0).length = x.size := by simp
    omega
theorem asStr_str (x : Str) (t : Tok) : asStr? (.str x t) = pure (some x) := rfl
theorem asStr_bytes (x : Array UInt8) (t : Tok) : asStr? (.bytes x t) = pure none := rfl
/-- the sub of the three patterns -/
theorem sub_dots {E : Value → Shared → Prop} {s : Shared} {Q : Value → Shared → Prop} {P T : Addr} (hp : PatAt s.heap P T code1 0) {x : Str} {u rt : Tok} (hz : x.length ≤ 50000)
    (h : ∀ h' tk t', (∀ b o, s.heap.get? b = some o → h'.get? b = some o) → Q (.str ⟨(qt 46 10 true x.cps.toList).toArray⟩ t') { s with heap := h', toks := tk }) :
    wpAny (model prog w) A (call (.builtin "re.Pattern.sub") [.ref P, .str ⟨#[46, 46]⟩ rt, .str x u]) Q E s :=
  sub_call (side1 (prog := prog) (w := w) (A := A) x u rt hz) hp (fun s Q E q => wpAny_specialOf (typeIs_str _ _ _) look_str_call q) (.inl ⟨⟨#[46, 46]⟩, rfl, by decide +kernel⟩) (fun h' tk t' k => h h' tk t' k)
theorem sub_eols {E : Value → Shared → Prop} {s : Shared} {Q : Value → Shared → Prop} {P T : Addr} (hp : PatAt s.heap P T code3 0) {x : Str} {u rt : Tok} (hz : x.length ≤ 50000)
    (h : ∀ h' tk t', (∀ b o, s.heap.get? b = some o → h'.get? b = some o) → Q (.str ⟨(Fb false x.cps.toList).toArray⟩ t') { s with heap := h', toks := tk }) :
    wpAny (model prog w) A (call (.builtin "re.Pattern.sub") [.ref P, .str ⟨#[13, 10]⟩ rt, .str x u]) Q E s :=
  sub_call (side3 (prog := prog) (w := w) (A := A) x u rt hz) hp (fun s Q E q => wpAny_specialOf (typeIs_str _ _ _) look_str_call q) (.inl ⟨⟨#[13, 10]⟩, rfl, by decide +kernel⟩) (fun h' tk t' k => h h' tk t' k)
theorem sub_bytes {E : Value → Shared → Prop} {s : Shared} {Q : Value → Shared → Prop} {P T : Addr} (hp : PatAt s.heap P T code1 1) {x : Array UInt8} {u rt : Tok} (hz : x.size ≤ 50000)
    (h : ∀ h' tk t', (∀ b o, s.heap.get? b = some o → h'.get? b = some o) → Q (.bytes ((qt 46 10 true (x.map (·.toNat)).toList).map (·.toUInt8)).toArray t') { s with heap := h', toks := tk }) :
    wpAny (model prog w) A (call (.builtin "re.Pattern.sub") [.ref P, .bytes #[46, 46] rt, .bytes x u]) Q E s :=
  sub_call (side2 (prog := prog) (w := w) (A := A) x u rt hz) hp (fun s Q E q => wpAny_specialOf (typeIs_bytes _ _ _) look_bytes_call q) (.inr ⟨rfl, #[46, 46], KBy.quiet_eq, by decide +kernel⟩) (fun h' tk t' k => h h' tk t' k)
end
end Mine
end
section
open PySem PySem.W PySem.Calls PyProof.Rows
set_option Elab.async false
set_option maxRecDepth 100000
set_option maxHeartbeats 8000000
namespace Mine
/-- the contract of a def: called from any frame it ends, changes nothing that stood, and hands back what Ok says: of the ledger ahead, the ledger behind, the result -/
def Does (f : Addr) (args : List Value) (D : Nat) (Pre : List (Addr × Obj) → Prop) (Ok : List (Addr × Obj) → List (Addr × Obj) → Value → Prop) : Prop :=
  ∀ (w : World) (loose : List Str) (mean : ExcName → Option Value) (mg mb : Str → Option Value) (dp un : Nat) (gd : Option (List Code)) (cn : Str) (cs : Scope) (a : Addr) (ccd : Value) (cl : List (Str × Addr)) (outer : List Env) (A₀ : Around) (base h₀ : Heap) (L : Addr) (m : Str → Option Value) (news : List (Addr × Obj)) (s : Shared)
    (Q E : Value → Shared → Prop),
    Below A₀ base outer h₀ → Fr h₀ L s.heap m → (Mine.hd.heap_39 w.params).In h₀ → News h₀ L s.heap news → Top Mine.hd.view_39 loose mean mg mb h₀ → cs.kind = .function → Pre news → dp + D < recursionLimit → un + 100 * D < cLine →
    (∀ r led h' tk', Fr h₀ L h' m → News h₀ L h' led → Ok news led r → Q r { s with heap := h', toks := tk' }) →
    wpAny (model PySem.Challenge.rw_ij0203_01.prog w) (ktrTop dp un gd cn cs L a ccd cl outer) (call (.ref f) args) Q E s
theorem does_use {f : Addr} {args : List Value} {D : Nat} {Pre : List (Addr × Obj) → Prop} {Ok : List (Addr × Obj) → List (Addr × Obj) → Value → Prop} (C : Does f args D Pre Ok)
    {w : World} {loose : List Str} {mean : ExcName → Option Value} {mg mb : Str → Option Value} {dp un : Nat} {gd : Option (List Code)} {cn : Str} {cs : Scope} {a : Addr} {ccd : Value} {cl : List (Str × Addr)} {outer : List Env} {A₀ : Around} {base h₀ : Heap} {L : Addr} {m : Str → Option Value} {news : List (Addr × Obj)} {s : Shared}
    {Q E : Value → Shared → Prop} (B : Below A₀ base outer h₀) (F : Fr h₀ L s.heap m) (X : (Mine.hd.heap_39 w.params).In h₀) (N : News h₀ L s.heap news) (T : Top Mine.hd.view_39 loose mean mg mb h₀) (hk : cs.kind = .function) (hpre : Pre news) (hd : dp + D < recursionLimit) (hu : un + 100 * D < cLine)
    (ret : ∀ r led h' tk', Fr h₀ L h' m → News h₀ L h' led → Ok news led r → Q r { s with heap := h', toks := tk' }) :
    wpAny (model PySem.Challenge.rw_ij0203_01.prog w) (ktrTop dp un gd cn cs L a ccd cl outer) (call (.ref f) args) Q E s :=
  C w loose mean mg mb dp un gd cn cs a ccd cl outer A₀ base h₀ L m news s Q E B F X N T hk hpre hd hu ret
/-- a plain value, nothing new in the ledger -/
def OkV (Out : Value → Prop) (news led : List (Addr × Obj)) (r : Value) : Prop := news = led ∧ Out r
abbrev tupOf (vs : Array Value) : Obj := { cls := .type "tuple", data := .seq vs }
/-- a new pair -/
def OkP (Out : Value → Value → Prop) (news led : List (Addr × Obj)) (r : Value) : Prop := ∃ a y z, led = (a, tupOf #[y, z]) :: news ∧ (∀ p ∈ news, p.1 < a) ∧ r = .ref a ∧ Out y z
theorem lt_all {d : Addr} : ∀ {l : List (Addr × Obj)}, AllLt d l → ∀ p ∈ l, p.1 < d
  | [], _, _, hp => nomatch hp
  | _ :: _, h, _, .head _ => h.1
  | _ :: _, h, p, .tail _ hp => lt_all h.2 p hp
theorem news_d2 {h₀ h : Heap} {L : Addr} {x y : Addr × Obj} {news : List (Addr × Obj)} (N : News h₀ L h (x :: y :: news)) : News h₀ L h (x :: news) := fun p hp => N p (by rcases List.mem_cons.mp hp with rfl | hp; exact .head _; exact .tail _ (.tail _ hp))
theorem news_d1 {h₀ h : Heap} {L : Addr} {x : Addr × Obj} {news : List (Addr × Obj)} (N : News h₀ L h (x :: news)) : News h₀ L h news := fun p hp => N p (.tail _ hp)
theorem fr_keep {h₀ h h' : Heap} {L : Addr} {m : Str → Option Value} (F : Fr h₀ L h m) (k : ∀ b o, h.get? b = some o → h'.get? b = some o) : Fr h₀ L h' m := by
  obtain ⟨oL, a1, a2, hL, a3⟩ := F.ns
  exact ⟨⟨oL, a1, a2, k _ _ hL, a3⟩, fun b o e => k _ _ (F.keep b o e), F.above⟩
theorem news_keep {h₀ h h' : Heap} {L : Addr} {news : List (Addr × Obj)} (N : News h₀ L h news) (k : ∀ b o, h.get? b = some o → h'.get? b = some o) : News h₀ L h' news :=
  fun p hp => ⟨k _ _ (N p hp).1, (N p hp).2⟩
theorem pat154 {P : Params} {h : Heap} (X : (Mine.hd.heap_39 P).In h) : PatAt h 154 153 code1 0 :=
  ⟨⟨_, _, X 154 _ rfl, rfl, rfl, rfl, rfl, rfl, rfl⟩, ⟨_, _, _, X 153 _ rfl, rfl, by decide +kernel⟩⟩
theorem pat159 {P : Params} {h : Heap} (X : (Mine.hd.heap_39 P).In h) : PatAt h 159 158 code1 1 :=
  ⟨⟨_, _, X 159 _ rfl, rfl, rfl, rfl, rfl, rfl, rfl⟩, ⟨_, _, _, X 158 _ rfl, rfl, by decide +kernel⟩⟩
theorem pat164 {P : Params} {h : Heap} (X : (Mine.hd.heap_39 P).In h) : PatAt h 164 163 code3 0 :=
  ⟨⟨_, _, X 164 _ rfl, rfl, rfl, rfl, rfl, rfl, rfl⟩, ⟨_, _, _, X 163 _ rfl, rfl, by decide +kernel⟩⟩
theorem getMethod_sub {prog : Program} {w : World} {A : Around} {E : Value → Shared → Prop} {s : Shared} {P T : Addr} {code : Array Nat} {k : Nat} {pl : Sem Bool} {Q : Value × List Value → Shared → Prop} (hp : PatAt s.heap P T code k) (h : Q (.builtin "re.Pattern.sub", [.ref P]) s) :
    wpAny (model prog w) A (getMethod (.ref P) "sub" pl) Q E s := by
  obtain ⟨o, vs, ho, hc, hd, _⟩ := hp.pat
  exact getMethod_builtin ⟨o, ho, hc⟩ plainAttrs_pattern slot_sub type_sub (fun a e => by cases e; exact ⟨o, ho, hd⟩) h
end Mine
end
section
set_option autoImplicit false
namespace Mine
section
variable {α : Type} [DecidableEq α] (sl dt : α)
/-- z is where c stands last in L, -1 where it does not -/
def IsLast (c : α) (L : List α) (z : Int) : Prop := (z = -1 ∧ c ∉ L) ∨ ∃ i : Nat, z = (i : Int) ∧ L[i]? = some c ∧ ∀ k, i < k → L[k]? ≠ some c
theorem takeWhile_all {p : α → Bool} {l : List α} (h : ∀ x ∈ l, p x = true) (r : List α) : (l ++ r).takeWhile p = l ++ r.takeWhile p ∧ (l ++ r).dropWhile p = r.dropWhile p := by
  induction l with
  | nil => exact ⟨rfl, rfl⟩
  | cons a l ih =>
    have ha := h a (List.mem_cons_self ..)
    have ih' := ih fun x hx => h x (List.mem_cons_of_mem _ hx)
    simp [ha, ih'.1, ih'.2]
theorem tail_split {A B : List α} (h : sl ∉ B) : tailOf sl (A ++ sl :: B) = B ∧ upTo sl (A ++ sl :: B) = A ++ [sl] := by
  have hB : ∀ x ∈ B.reverse, decide (x ≠ sl) = true := by
    intro x hx
    have hx' : x ∈ B := by simpa using hx
    have : x ≠ sl := fun q => h (q ▸ hx')
    simpa using this
  have e : (A ++ sl :: B).reverse = B.reverse ++ (sl :: A.reverse) := by simp
  unfold tailOf upTo
  rw [e, (takeWhile_all hB _).1, (takeWhile_all hB _).2]
  simp
theorem tail_free {L : List α} (h : sl ∉ L) : tailOf sl L = L ∧ upTo sl L = [] := by
  have hL : ∀ x ∈ L.reverse, decide (x ≠ sl) = true := by
    intro x hx
    have hx' : x ∈ L := by simpa using hx
    have : x ≠ sl := fun q => h (q ▸ hx')
    simpa using this
  have h1 := takeWhile_all hL []
  rw [List.append_nil] at h1
  unfold tailOf upTo
  rw [h1.1, h1.2]
  simp
theorem last_split {c : α} {L : List α} {i : Nat} (h1 : L[i]? = some c) (h2 : ∀ k, i < k → L[k]? ≠ some c) : L = L.take i ++ c :: L.drop (i + 1) ∧ c ∉ L.drop (i + 1) ∧ i < L.length := by
  obtain ⟨hi, e⟩ := List.getElem?_eq_some_iff.mp h1
  refine ⟨?_, ?_, hi⟩
  · conv => lhs; rw [← List.take_append_drop i L, List.drop_eq_getElem_cons hi, e]
  · intro q
    obtain ⟨k, hk⟩ := List.mem_iff_getElem?.mp q
    rw [List.getElem?_drop] at hk
    exact h2 (i + 1 + k) (by omega) hk
theorem last_tail {L : List α} {z : Int} (h : IsLast sl L z) : upTo sl L = L.take (z + 1).toNat ∧ tailOf sl L = L.drop (z + 1).toNat ∧ -1 ≤ z ∧ z + 1 ≤ L.length := by
  rcases h with ⟨rfl, h⟩ | ⟨i, rfl, h1, h2⟩
  · have := tail_free sl h
    exact ⟨by rw [this.2]; rfl, by rw [this.1]; rfl, by omega, by omega⟩
  · obtain ⟨e, hn, hi⟩ := last_split h1 h2
    have := tail_split sl (A := L.take i) hn
    rw [← e] at this
    have e1 : ((i : Int) + 1).toNat = i + 1 := by omega
    refine ⟨?_, by rw [this.1, e1], by omega, by omega⟩
    rw [this.2, e1, List.take_add_one, h1]
    rfl
theorem ext_split {A B : List α} (h : dt ∉ B) : extT dt (A ++ dt :: B) = if A.any (nd dt) then dt :: B else [] := by
  have hB : ∀ x ∈ B.reverse, nd dt x = true := by
    intro x hx
    have hx' : x ∈ B := by simpa using hx
    have : x ≠ dt := fun q => h (q ▸ hx')
    simpa [nd] using this
  have e : (A ++ dt :: B).reverse = B.reverse ++ (dt :: A.reverse) := by simp
  have hd : nd dt dt = false := by simp [nd]
  unfold extT extR
  rw [e, (takeWhile_all hB _).1, (takeWhile_all hB _).2, List.dropWhile_cons, List.takeWhile_cons, hd]
  simp only [Bool.false_eq_true, if_false, List.any_reverse, List.append_nil]
  split
  · simp
  · rfl
theorem ext_free {T : List α} (h : dt ∉ T) : extT dt T = [] := by
  have hB : ∀ x ∈ T.reverse, nd dt x = true := by
    intro x hx
    have hx' : x ∈ T := by simpa using hx
    have : x ≠ dt := fun q => h (q ▸ hx')
    simpa [nd] using this
  have h1 := takeWhile_all hB []
  rw [List.append_nil] at h1
  unfold extT extR
  rw [h1.2]
  rfl
/-- what _splitext seeks -/
theorem ext_found {L : List α} {zs zd : Int} (hs : IsLast sl L zs) (hd : IsLast dt L zd) {j : Nat} (h1 : zs < (j : Int)) (h2 : (j : Int) < zd) (h3 : L[j]? ≠ some dt) : extOf sl dt L = L.drop zd.toNat ∧ 0 ≤ zd ∧ zd < L.length ∧ L.drop zd.toNat ≠ [] := by
  obtain ⟨_, ht, hs1, hs2⟩ := last_tail sl hs
  rcases hd with ⟨rfl, h⟩ | ⟨i, rfl, hi1, hi2⟩
  · omega
  · obtain ⟨e, hn, hi⟩ := last_split hi1 hi2
    have e0 : (i : Int).toNat = i := by omega
    have hcut : L.drop (zs + 1).toNat = (L.take i).drop (zs + 1).toNat ++ dt :: L.drop (i + 1) := by
      conv => lhs; rw [e]
      rw [List.drop_append_of_le_length (by rw [List.length_take]; omega)]
    have hdrop : L.drop i = dt :: L.drop (i + 1) := by
      rw [List.drop_eq_getElem_cons hi]
      rw [List.getElem?_eq_getElem hi] at hi1
      rw [Option.some.inj hi1]
    unfold extOf
    rw [ht, hcut, ext_split dt hn, e0, if_pos, hdrop]
    · exact ⟨rfl, by omega, by omega, by simp⟩
    · rw [List.any_eq_true]
      refine ⟨L[j]'(by omega), ?_, ?_⟩
      · rw [List.mem_iff_getElem?]
        refine ⟨j - (zs + 1).toNat, ?_⟩
        rw [List.getElem?_drop, List.getElem?_take, if_pos (by omega)]
        rw [show (zs + 1).toNat + (j - (zs + 1).toNat) = j from by omega, List.getElem?_eq_getElem]
      · rw [List.getElem?_eq_getElem (by omega)] at h3
        have : L[j]'(by omega) ≠ dt := fun q => h3 (by rw [q])
        simpa [nd] using this
theorem ext_none {L : List α} {zs zd : Int} (hs : IsLast sl L zs) (hd : IsLast dt L zd) (h : ∀ j : Nat, zs < (j : Int) → (j : Int) < zd → L[j]? = some dt) : extOf sl dt L = [] := by
  obtain ⟨_, ht, hs1, hs2⟩ := last_tail sl hs
  unfold extOf
  rw [ht]
  rcases hd with ⟨rfl, hf⟩ | ⟨i, rfl, hi1, hi2⟩
  · exact ext_free dt fun q => hf (List.mem_of_mem_drop q)
  · obtain ⟨e, hn, hi⟩ := last_split hi1 hi2
    by_cases hlt : zs < (i : Int)
    · have hcut : L.drop (zs + 1).toNat = (L.take i).drop (zs + 1).toNat ++ dt :: L.drop (i + 1) := by
        conv => lhs; rw [e]
        rw [List.drop_append_of_le_length (by rw [List.length_take]; omega)]
      rw [hcut, ext_split dt hn, if_neg]
      intro q
      obtain ⟨x, hx, hnd⟩ := List.any_eq_true.mp q
      obtain ⟨k, hk⟩ := List.mem_iff_getElem?.mp hx
      rw [List.getElem?_drop, List.getElem?_take] at hk
      split at hk
      · have := h ((zs + 1).toNat + k) (by omega) (by omega)
        rw [this] at hk
        have : x = dt := (Option.some.inj hk).symm
        simp [nd, this] at hnd
      · cases hk
    · refine ext_free dt fun q => hn ?_
      have e1 : L.drop (zs + 1).toNat = (L.drop (i + 1)).drop ((zs + 1).toNat - (i + 1)) := by
        rw [List.drop_drop]; congr 1; omega
      rw [e1] at q
      exact List.mem_of_mem_drop q
theorem hdOf_ne (u : List α) (h : u ≠ List.replicate u.length sl) : hdOf sl u = rstripOf sl u := by
  unfold hdOf
  rw [if_neg]
  intro q
  apply h
  unfold rstripOf at q
  have q' : u.reverse.dropWhile (fun c => decide (c = sl)) = [] := by simpa using q
  have all : ∀ r : List α, r.dropWhile (fun c => decide (c = sl)) = [] → r = List.replicate r.length sl := by
    intro r
    induction r with
    | nil => intro _; rfl
    | cons a r ih =>
      intro hr
      rw [List.dropWhile_cons] at hr
      by_cases ha : a = sl
      · rw [if_pos (by simpa using ha)] at hr
        rw [List.length_cons, List.replicate_succ, ← ih hr, ha]
      · rw [if_neg (by simpa using ha)] at hr
        cases hr
  have := all _ q'
  have h2 := congrArg List.reverse this
  rw [List.reverse_reverse, List.reverse_replicate, List.length_reverse] at h2
  exact h2
theorem hdOf_eq (u : List α) (h : u = List.replicate u.length sl) : hdOf sl u = u := by
  unfold hdOf
  rw [if_pos]
  unfold rstripOf
  rw [h, List.reverse_replicate]
  have all : ∀ n : Nat, (List.replicate n sl).dropWhile (fun c => decide (c = sl)) = [] := by
    intro n
    induction n with
    | zero => rfl
    | succ n ih => rw [List.replicate_succ, List.dropWhile_cons, if_pos (by simp), ih]
  rw [all]
  rfl
theorem hdOf_nil : hdOf sl ([] : List α) = [] := rfl
end
end Mine
end
section
open PySem PySem.W PySem.Calls PyProof.Rows PySem.Builtin PySem.Builtin.Str
set_option Elab.async false
set_option maxRecDepth 100000
namespace Mine
theorem lit_slash : PySem.Str.ofString "/" = ⟨#[47]⟩ := by decide
theorem lit_dot : PySem.Str.ofString "." = ⟨#[46]⟩ := by decide
theorem rfind_last (x : PySem.Str) (c : Nat) : IsLast c x.cps.toList (Txt.rfind x ⟨#[c]⟩) := by
  rcases rfind_whole x ⟨#[c]⟩ with ⟨h, hn⟩ | ⟨i, h, hi, hn⟩
  · refine .inl ⟨h, fun q => ?_⟩
    obtain ⟨k, hk⟩ := List.mem_iff_getElem?.mp q
    exact hn k ((StrLaws.subAt_one x c k).mpr hk)
  · exact .inr ⟨i, h, (StrLaws.subAt_one x c i).mp hi, fun k hk q => hn k hk ((StrLaws.subAt_one x c k).mpr q)⟩
theorem slice_list (x : PySem.Str) (l u : Option Int) : (Txt.slice x l u).cps.toList = (x.cps.toList.drop (l.elim 0 (clipAt x.length))).take (u.elim x.length (clipAt x.length) - l.elim 0 (clipAt x.length)) := by
  have key : (strSliceIndices l u 1 x.length).filterMap (x.cps[·]?) = (x.cps.toList.drop (l.elim 0 (clipAt x.length))).take (u.elim x.length (clipAt x.length) - l.elim 0 (clipAt x.length)) := by
    have e : strSliceIndices l u 1 x.length = sliceRange ((l.elim 0 (clipAt x.length) : Nat) : Int) ((u.elim x.length (clipAt x.length) : Nat) : Int) 1 := by
      unfold strSliceIndices
      cases l <;> cases u <;> simp [clipAt_cast]
    rw [e, sliceRange_one, pick_run]
  unfold Txt.slice
  split
  · rename_i h
    have hl : (strSliceIndices l u 1 x.length).length = x.length := by simpa using h
    have e : strSliceIndices l u 1 x.length = sliceRange ((l.elim 0 (clipAt x.length) : Nat) : Int) ((u.elim x.length (clipAt x.length) : Nat) : Int) 1 := by
      unfold strSliceIndices
      cases l <;> cases u <;> simp [clipAt_cast]
    rw [e, sliceRange_one, List.length_map, List.length_range] at hl
    have hu : u.elim x.length (clipAt x.length) ≤ x.length := by
      cases u with
      | none => exact Nat.le_refl _
      | some i => show clipAt x.length i ≤ x.length; have := clipAt_cast x.length i; omega
    have e0 : l.elim 0 (clipAt x.length) = 0 ∨ x.length = 0 := by omega
    have hL : x.cps.toList.length = x.length := by simp [Str.length]
    rcases e0 with e0 | e0
    · rw [e0, List.drop_zero, List.take_of_length_le (by omega)]
    · have : x.cps.toList = [] := List.length_eq_zero_iff.mp (by omega)
      rw [this]; simp
  · show ((strSliceIndices l u 1 x.length).filterMap (x.cps[·]?)).toArray.toList = _
    rw [key]
theorem len_list (x : PySem.Str) : x.cps.toList.length = x.length := by simp [Str.length]
theorem slice_to {x : PySem.Str} {z : Int} (h : 0 ≤ z) : (Txt.slice x none (some z)).cps.toList = x.cps.toList.take z.toNat := by
  rw [slice_list]
  obtain ⟨n, rfl⟩ := Int.eq_ofNat_of_zero_le h
  simp only [Option.elim, List.drop_zero, Nat.sub_zero, Int.toNat_natCast]
  rw [clipAt_nat]
  rcases Nat.le_total n x.length with q | q
  · rw [Nat.min_eq_left q]
  · rw [Nat.min_eq_right q, List.take_of_length_le (by rw [len_list]; exact Nat.le_refl _), List.take_of_length_le (by rw [len_list]; exact q)]
theorem slice_from {x : PySem.Str} {z : Int} (h : 0 ≤ z) : (Txt.slice x (some z) none).cps.toList = x.cps.toList.drop z.toNat := by
  rw [slice_list]
  obtain ⟨n, rfl⟩ := Int.eq_ofNat_of_zero_le h
  simp only [Option.elim, Int.toNat_natCast]
  rw [clipAt_nat]
  rcases Nat.le_total n x.length with q | q
  · rw [Nat.min_eq_left q, List.take_of_length_le (by rw [List.length_drop, len_list]; exact Nat.le_refl _)]
  · rw [Nat.min_eq_right q, List.drop_of_length_le (by rw [len_list]; exact Nat.le_refl _), List.drop_of_length_le (by rw [len_list]; exact q)]
    simp
theorem slice_both {x : PySem.Str} {y z : Int} (h : 0 ≤ y) (h' : 0 ≤ z) : (Txt.slice x (some y) (some z)).cps.toList = (x.cps.toList.drop y.toNat).take (z.toNat - y.toNat) := by
  rw [slice_list]
  obtain ⟨n, rfl⟩ := Int.eq_ofNat_of_zero_le h
  obtain ⟨m, rfl⟩ := Int.eq_ofNat_of_zero_le h'
  simp only [Option.elim, Int.toNat_natCast]
  rw [clipAt_nat, clipAt_nat]
  have hL := len_list x
  rcases Nat.le_total n x.length with q | q
  · rw [Nat.min_eq_left q]
    rcases Nat.le_total m x.length with r | r
    · rw [Nat.min_eq_left r]
    · rw [Nat.min_eq_right r, List.take_of_length_le (by rw [List.length_drop]; omega), List.take_of_length_le (by rw [List.length_drop]; omega)]
  · rw [Nat.min_eq_right q, List.drop_of_length_le (by omega), List.drop_of_length_le (by omega)]
    simp
theorem slice_last {x : PySem.Str} : (Txt.slice x (some (-1)) none).cps.toList = x.cps.toList.drop (x.cps.toList.length - 1) := by
  rw [slice_list]
  have h := clipAt_neg x.length 1 (Nat.le_refl _)
  simp only [Option.elim]
  rw [show (-1 : Int) = -((1 : Nat) : Int) from rfl, h, List.take_of_length_le (by rw [List.length_drop, len_list]; exact Nat.le_refl _), len_list]
theorem take_rstrip {α : Type} (L : List α) (p : α → Bool) : L.take (L.length - (L.reverse.takeWhile p).length) = (L.reverse.dropWhile p).reverse := by
  have h := List.takeWhile_append_dropWhile (p := p) (l := L.reverse)
  have hl := congrArg List.length h
  rw [List.length_append, List.length_reverse] at hl
  have h2 := congrArg List.reverse h
  rw [List.reverse_append, List.reverse_reverse] at h2
  have e : L.length - (L.reverse.takeWhile p).length = ((L.reverse.dropWhile p).reverse).length := by rw [List.length_reverse]; omega
  rw [e]
  conv => lhs; rw [← h2]
  rw [h2]
  conv => lhs; arg 2; rw [← h2]
  rw [List.take_append_of_le_length (Nat.le_refl _), List.take_length]
theorem rstrip_list (x : PySem.Str) (c : Nat) : (Txt.rstripChars x ⟨#[c]⟩).cps.toList = rstripOf c x.cps.toList := by
  unfold Txt.rstripChars
  rw [PyProof.Rows.stripBy_eq]
  have e0 : stripLo (Array.contains #[c]) false x = 0 := rfl
  rw [e0, StrLaws.strSub_toList, List.drop_zero, Nat.sub_zero]
  unfold stripHi rstripOf
  simp only [if_true, List.drop_zero]
  have ep : (Array.contains #[c] : Nat → Bool) = fun d => decide (d = c) := by
    funext d
    rw [Bool.eq_iff_iff]
    simp
  rw [ep, ← len_list]
  exact take_rstrip _ _
theorem mul_list (c : Nat) (n : Nat) : (Txt.mul ⟨#[c]⟩ (n : Int)).cps.toList = List.replicate n c := by
  unfold Txt.mul
  split
  · have : n = 0 := by omega
    subst this
    rfl
  · split
    · rename_i h1 h2
      have h3 : (n : Int) = 1 := by
        simp only [Bool.or_eq_true, beq_iff_eq] at h2
        rcases h2 with h2 | h2
        · exact h2
        · exact absurd (show (1 : Nat) = 0 from h2) (by decide)
      have : n = 1 := by omega
      subst this
      rfl
    · rw [Int.toNat_natCast]
      show ((List.replicate n #[c]).foldl (· ++ ·) #[]).toList = _
      have key : ∀ (n : Nat) (acc : Array Nat), ((List.replicate n #[c]).foldl (· ++ ·) acc).toList = acc.toList ++ List.replicate n c := by
        intro n
        induction n with
        | zero => intro acc; simp
        | succ n ih => intro acc; rw [List.replicate_succ, List.foldl_cons, ih]; simp [List.replicate_succ]
      rw [key]
      rfl
theorem str_ne {x y : PySem.Str} : (x != y) = true ↔ x.cps.toList ≠ y.cps.toList := by
  rw [bne_iff_ne]
  constructor
  · intro h q
    exact h (PySem.Str.ext' (Array.toList_inj.mp q))
  · intro h q
    exact h (by rw [q])
theorem str_eq {x y : PySem.Str} : (x == y) = true ↔ x.cps.toList = y.cps.toList := by
  rw [beq_iff_eq]
  constructor
  · intro h; rw [h]
  · intro h; exact PySem.Str.ext' (Array.toList_inj.mp h)
theorem str_toList_inj {x y : PySem.Str} (h : x.cps.toList = y.cps.toList) : x = y := PySem.Str.ext' (Array.toList_inj.mp h)
/-- the ends of split -/
theorem split_ends (x : PySem.Str) : ((Txt.slice x none (some (Txt.rfind x (PySem.Str.ofString "/") + 1))).cps.toList = upTo 47 x.cps.toList) ∧ ((Txt.slice x (some (Txt.rfind x (PySem.Str.ofString "/") + 1)) none).cps.toList = tailOf 47 x.cps.toList) := by
  rw [lit_slash]
  obtain ⟨h1, h2, h3, h4⟩ := last_tail 47 (rfind_last x 47)
  rw [slice_to (by omega), slice_from (by omega), h1, h2]
  exact ⟨rfl, rfl⟩
theorem split_strip {y u : PySem.Str} (hu : (y != Txt.mul (PySem.Str.ofString "/") (u.length : Int)) = true) (e : u = y) : (Txt.rstripChars y (PySem.Str.ofString "/")).cps.toList = hdOf 47 y.cps.toList := by
  subst e
  rw [lit_slash] at hu ⊢
  rw [rstrip_list, hdOf_ne]
  have := str_ne.mp hu
  rw [mul_list] at this
  rw [len_list]
  exact this
theorem split_same {y u : PySem.Str} (hu : (y != Txt.mul (PySem.Str.ofString "/") (u.length : Int)) = false) (e : u = y) : y.cps.toList = hdOf 47 y.cps.toList := by
  subst e
  rw [lit_slash] at hu
  rw [hdOf_eq]
  have : ¬ (u.cps.toList ≠ (Txt.mul ⟨#[47]⟩ (u.length : Int)).cps.toList) := fun q => by rw [str_ne.mpr q] at hu; cases hu
  rw [mul_list] at this
  rw [len_list]
  exact Classical.not_not.mp this
theorem split_nil {y : PySem.Str} (hu : (y.length : Int) = 0) : y.cps.toList = hdOf 47 y.cps.toList := by
  have : y.cps.toList = [] := List.length_eq_zero_iff.mp (by rw [len_list]; omega)
  rw [this]
  rfl
end Mine
end
section
open PySem PySem.W PySem.Calls PyProof.Rows PySem.Builtin
set_option Elab.async false
set_option maxRecDepth 100000
set_option maxHeartbeats 4000000
namespace Mine
section
variable {prog : Program} {w : World} {A : Around} {E : Value → Shared → Prop} {s : Shared}
theorem sub_type_type : isSubtype (.type "type") (.type "type") = pure true := by rw [isSubtype_type]; kernel_rfl
theorem sub_ss : isSubtype (.type "str") (.type "str") = pure true := by rw [isSubtype_type]; kernel_rfl
theorem sub_bs : isSubtype (.type "bytes") (.type "str") = pure false := by rw [isSubtype_type]; kernel_rfl
theorem sub_bb : isSubtype (.type "bytes") (.type "bytes") = pure true := by rw [isSubtype_type]; kernel_rfl
theorem sub_tt : isSubtype (.type "tuple") (.type "tuple") = pure true := by rw [isSubtype_type]; kernel_rfl
theorem ty_str : typeOf (.type "str") = pure (.type "type") := by kernel_rfl
theorem ty_bytes : typeOf (.type "bytes") = pure (.type "type") := by kernel_rfl
theorem issub_nested {x y : String} {dep : Int} {tk : Tok} {b : Bool} {Q : Fin → Shared → Prop} (h1 : typeOf (.type x) = pure (.type "type")) (h2 : typeOf (.type y) = pure (.type "type")) (hs : isSubtype (.type x) (.type y) = pure b) (hq : Q (.done (.ret (.bool b))) s) :
    wpAny (model prog w) A (Builtin.«issubclass.nested» ⟨[.type x, .type y, .int dep tk], []⟩) Q E s := by
  have hm := sub_type_type
  obtain ⟨h, g, d, t, os⟩ := s
  wp_walk
  exact hq
theorem kind_nested : builtinKind "issubclass.nested" = none := by decide +kernel
theorem plain_nested : plainId "issubclass.nested" = true := by decide +kernel
theorem args_nested (a b c : Value) : argsOk "issubclass.nested" ⟨[a, b, c], []⟩ := by unfold argsOk; kernel_rfl
theorem call_nested {x y : String} {dep : Int} {tk : Tok} {b : Bool} {Q : Value → Shared → Prop} (h1 : typeOf (.type x) = pure (.type "type")) (h2 : typeOf (.type y) = pure (.type "type")) (hs : isSubtype (.type x) (.type y) = pure b) (hq : Q (.bool b) s) :
    wpAny (model prog w) A (call (.builtin "issubclass.nested") [.type x, .type y, .int dep tk]) Q E s :=
  call_function_meets (S := fun _ R s => R (.ok (.ret (.bool b))) s) kind_nested plain_nested F.entry_issubclass_nested (args_nested _ _ _) (fun _ _ _ _ _ h => issub_nested h1 h2 hs h) hq
theorem not_tuple_union (a : Addr) {Q : Value → Shared → Prop} (ht : s.TypeIs (.ref a) "tuple") (hq : Q (.ref a) s) : wpAny (model prog w) A (Builtins.unionMembers (.ref a)) Q E s := by
  unfold Builtins.unionMembers
  refine wpAny_bind (wpAny_typeOf ht ?_)
  rw [if_neg (by decide)]
  exact wpAny_pure hq
theorem issub_pair {x : String} {a : Addr} {n : Nat} {b1 b2 : Bool} {Q : Value → Shared → Prop} (hl : s.heap.get? a = some { cls := .type "tuple", data := .seq #[.type "str", .type "bytes"] n })
    (h1 : typeOf (.type x) = pure (.type "type")) (hs1 : isSubtype (.type x) (.type "str") = pure b1) (hs2 : isSubtype (.type x) (.type "bytes") = pure b2) (hq : Q (.bool (b1 || b2)) s) :
    wpAny (model prog w) A (call (.builtin "issubclass") [.type x, .ref a]) Q E s := by
  have ht : s.TypeIs (.ref a) "tuple" := ⟨_, hl, rfl⟩
  refine call_issubclass (S := fun _ R s' => s' = s ∧ R (.ok (.ret (.bool (b1 || b2)))) s') ?_ ⟨rfl, hq⟩
  rintro prog w A R s' ⟨rfl, hR⟩
  refine issubclass_outer ?_
  show wpAny _ _ (typeOf (.ref a) >>= fun t => _) _ _ _
  refine wpAny_bind (wpAny_typeOf ht ?_)
  rw [if_neg (by decide)]
  refine wpAny_bind (not_tuple_union a ht ?_)
  refine wpAny_bind (wpAny_isInstance ht sub_tt ?_)
  rw [if_pos rfl, if_neg (by decide)]
  refine wpAny_bind (wpAny_seqItems hl rfl ?_)
  dsimp only [Option.getD_some]
  have fin : ∀ (b : Bool), R (.ok (.ret (.bool b))) s' → wpAny (model prog w) A.in1 (ret (.bool b)) (fun fin s' => match fin with | .done f => R (.ok f) s' | .again c' => c'.quiet = true ∧ codeAny (model prog w) A c' R s') (fun e s' => R (.error e) s') s' := fun b h => wpAny_pure h
  rw [← Array.forIn_toList]
  show wpAny _ _ (forIn [Value.type "str", Value.type "bytes"] _ _ >>= _) _ _ _
  rw [List.forIn_cons]
  refine wpAny_bind (wpAny_bind (wpAny_bind (call_nested h1 ty_str hs1 (wpAny_bind (wpAny_truthy_bool ?_)))))
  cases b1 with
  | true =>
    rw [if_pos rfl]
    refine wpAny_bind (wpAny_pure (wpAny_pure ?_))
    exact wpAny_pure (wpAny_pure hR)
  | false =>
    rw [if_neg (by decide)]
    refine wpAny_pure ?_
    show wpAny _ _ (forIn [Value.type "bytes"] _ _) _ _ _
    rw [List.forIn_cons]
    refine wpAny_bind (wpAny_bind (call_nested h1 ty_bytes hs2 (wpAny_bind (wpAny_truthy_bool ?_))))
    cases b2 with
    | true =>
      rw [if_pos rfl]
      refine wpAny_bind (wpAny_pure (wpAny_pure ?_))
      exact wpAny_pure (wpAny_pure hR)
    | false =>
      rw [if_neg (by decide)]
      refine wpAny_pure ?_
      exact wpAny_pure (wpAny_pure hR)
end
end Mine
end
section
open PySem PySem.W PySem.Calls PyProof.Rows
set_option Elab.async false
set_option maxRecDepth 100000
set_option maxHeartbeats 8000000
namespace Mine
local macro_rules | `(tactic| walk_at "part W1 0") => `(tactic| skip)
local macro_rules | `(tactic| walk_at "part W1 1") => `(tactic| skip)
local macro_rules | `(tactic| walk_at "part W1 2") => `(tactic| skip)
local macro_rules | `(tactic| walk_at "part W1 3") => `(tactic| skip)
local macro_rules | `(tactic| walk_at "part W1 4") => `(tactic| skip)
local macro_rules | `(tactic| walk_at "part W1 5") => `(tactic| skip)
local macro_rules | `(tactic| walk_at "part W1 6") => `(tactic| skip)

local macro_rules | `(tactic| walk_at "call type:type") => `(tactic| ((with_reducible show wpAny _ _ (call (Value.type "type") [Value.bytes _ _]) _ _ _); refine call_type_of (typeIs_bytes _ _ _) (by decide) ?_))
local macro_rules | `(tactic| walk_at "call builtin:issubclass") => `(tactic| (k_here; k_dflt (first | refine' issub_pair ?k1 ty_str sub_ss F.sub_str_bytes ?_ | refine' issub_pair ?k1 ty_bytes sub_bs sub_bb ?_); (case k1 => exact News.get (by k_asm) (by k_mem)); k_whole))
theorem getsep_str (x : Str) (t : Tok) : Does 132 [.str x t] 1 (fun _ => True) (OkV fun r => ∃ t, r = .str (Str.ofString "/") t) := by
  unfold Does
  k_fill
  intro w loose mean mg mb dp un gd cn cs a ccd cl outer A₀ base h₀ L m news s Q E B F X N T hk hpre hd hu hret
  refine wpAny_call ?_
  k_dflt ktr_enter
  k_steps
  all_goals first
    | exact hret _ news _ _ (by k_asm) (by first | k_asm | exact news_d1 (by k_asm)) ⟨rfl, _, rfl⟩
    | exact hret _ news _ _ (by k_asm) (by first | k_asm | exact news_d1 (by k_asm)) ⟨rfl, rfl⟩
theorem getsep_bytes (x : Array UInt8) (t : Tok) : Does 132 [.bytes x t] 1 (fun _ => True) (OkV fun r => ∃ t, r = .bytes #[47] t) := by
  unfold Does
  k_fill
  intro w loose mean mg mb dp un gd cn cs a ccd cl outer A₀ base h₀ L m news s Q E B F X N T hk hpre hd hu hret
  refine wpAny_call ?_
  k_dflt ktr_enter
  k_steps
  all_goals first
    | exact hret _ news _ _ (by k_asm) (by first | k_asm | exact news_d1 (by k_asm)) ⟨rfl, _, rfl⟩
    | exact hret _ news _ _ (by k_asm) (by first | k_asm | exact news_d1 (by k_asm)) ⟨rfl, rfl⟩
theorem fspath_str (x : Str) (t : Tok) : Does 118 [.str x t] 1 (fun _ => True) (OkV fun r => r = .str x t) := by
  unfold Does
  k_fill
  intro w loose mean mg mb dp un gd cn cs a ccd cl outer A₀ base h₀ L m news s Q E B F X N T hk hpre hd hu hret
  refine wpAny_call ?_
  k_dflt ktr_enter
  k_steps
  all_goals first
    | exact hret _ news _ _ (by k_asm) (by first | k_asm | exact news_d1 (by k_asm)) ⟨rfl, _, rfl⟩
    | exact hret _ news _ _ (by k_asm) (by first | k_asm | exact news_d1 (by k_asm)) ⟨rfl, rfl⟩
theorem fspath_bytes (x : Array UInt8) (t : Tok) : Does 118 [.bytes x t] 1 (fun _ => True) (OkV fun r => r = .bytes x t) := by
  unfold Does
  k_fill
  intro w loose mean mg mb dp un gd cn cs a ccd cl outer A₀ base h₀ L m news s Q E B F X N T hk hpre hd hu hret
  refine wpAny_call ?_
  k_dflt ktr_enter
  k_steps
  all_goals first
    | exact hret _ news _ _ (by k_asm) (by first | k_asm | exact news_d1 (by k_asm)) ⟨rfl, _, rfl⟩
    | exact hret _ news _ _ (by k_asm) (by first | k_asm | exact news_d1 (by k_asm)) ⟨rfl, rfl⟩
end Mine
end
section
open PySem PySem.W PySem.Calls PyProof.Rows
set_option Elab.async false
set_option maxRecDepth 100000
set_option maxHeartbeats 8000000
namespace Mine

local macro_rules | `(tactic| walk_at "call type:type") => `(tactic| ((with_reducible show wpAny _ _ (call (Value.type "type") [Value.bytes _ _]) _ _ _); refine call_type_of (typeIs_bytes _ _ _) (by decide) ?_))
local macro_rules | `(tactic| walk_at "call builtin:issubclass") => `(tactic| (k_here; k_dflt (first | refine' issub_pair ?k1 ty_str sub_ss F.sub_str_bytes ?_ | refine' issub_pair ?k1 ty_bytes sub_bs sub_bb ?_); (case k1 => exact News.get (by k_asm) (by k_mem)); k_whole))
local macro_rules | `(tactic| walk_at "call ref") => `(tactic| (k_here; k_dflt (refine' does_use (fspath_str _ _ ) ?k1 ?k2 ?k3 ?k4 ?k5 ?kK ?kR ?kd ?ku ?_; (case k1 => k_asm); (case k2 => k_asm); (case k3 => k_asm); (case k4 => k_asm); (case k5 => k_asm); (case kK => first | exact rfl | assumption); (case kR => first | exact trivial | assumption); (case kd => ktr_room); (case ku => ktr_units); k_whole); intro r9 led9 h9 tk9 F9 N9 ho9; obtain ⟨e9, ho9⟩ := ho9; subst e9; first | subst ho9 | (obtain ⟨t9, e9⟩ := ho9; subst e9)))
local macro_rules | `(tactic| walk_at "call ref") => `(tactic| (k_here; k_dflt (refine' does_use (getsep_str _ _ ) ?k1 ?k2 ?k3 ?k4 ?k5 ?kK ?kR ?kd ?ku ?_; (case k1 => k_asm); (case k2 => k_asm); (case k3 => k_asm); (case k4 => k_asm); (case k5 => k_asm); (case kK => first | exact rfl | assumption); (case kR => first | exact trivial | assumption); (case kd => ktr_room); (case ku => ktr_units); k_whole); intro r9 led9 h9 tk9 F9 N9 ho9; obtain ⟨e9, ho9⟩ := ho9; subst e9; first | subst ho9 | (obtain ⟨t9, e9⟩ := ho9; subst e9)))
theorem split_str (x : Str) (t : Tok) (hz : x.length ≤ 40000) : Does 139 [.str x t] 2 (fun _ => True) (OkP fun y z => ∃ yh t zt u, y = .str yh t ∧ z = .str zt u ∧ yh.cps.toList = hdOf 47 (upTo 47 x.cps.toList) ∧ zt.cps.toList = tailOf 47 x.cps.toList) := by
  unfold Does
  k_fill
  intro w loose mean mg mb dp un gd cn cs a ccd cl outer A₀ base h₀ L m news s Q E B F X N T hk hpre hd hu hret
  refine wpAny_call ?_
  k_dflt ktr_enter
  k_steps

  all_goals have hE := split_ends x
  all_goals refine hret _ _ _ _ (by k_asm) (by first | k_asm | exact news_d2 (by k_asm)) ⟨_, _, _, rfl, by first | assumption | exact lt_all (And.right (by assumption)), rfl, _, _, _, _, rfl, rfl, ?_, hE.2⟩
  · rw [split_strip (by assumption) rfl, hE.1]
  · rw [split_same (by assumption) rfl, hE.1]
  · rw [split_nil (by assumption), hE.1]
end Mine
end
section
open PySem PySem.W PySem.Calls PyProof.Rows
set_option Elab.async false
set_option maxRecDepth 100000
set_option maxHeartbeats 8000000
namespace Mine
local macro_rules | `(tactic| walk_at "part W3 0") => `(tactic| skip)
local macro_rules | `(tactic| walk_at "part W3 1") => `(tactic| skip)
local macro_rules | `(tactic| walk_at "part W3 2") => `(tactic| skip)
local macro_rules | `(tactic| walk_at "part W3 3") => `(tactic| skip)
local macro_rules | `(tactic| walk_at "part W3 4") => `(tactic| skip)
local macro_rules | `(tactic| walk_at "part W3 5") => `(tactic| skip)
local macro_rules | `(tactic| walk_at "part W3 6") => `(tactic| skip)

local macro_rules | `(tactic| walk_at "call type:type") => `(tactic| ((with_reducible show wpAny _ _ (call (Value.type "type") [Value.bytes _ _]) _ _ _); refine call_type_of (typeIs_bytes _ _ _) (by decide) ?_))
local macro_rules | `(tactic| walk_at "call builtin:issubclass") => `(tactic| (k_here; k_dflt (first | refine' issub_pair ?k1 ty_str sub_ss F.sub_str_bytes ?_ | refine' issub_pair ?k1 ty_bytes sub_bs sub_bb ?_); (case k1 => exact News.get (by k_asm) (by k_mem)); k_whole))

structure Halt (p : Prop) : Prop where
  out : p
theorem halt {p : Prop} (h : Halt p) : p := h.out
local macro_rules | `(tactic| walk_at "exec While") => `(tactic| refine halt ?_)

section
variable {prog : Program} {w : World} {A : Around} {E : Value → Shared → Prop} {Q : Flow → Shared → Prop} {s : Shared} {env : Env} {h₀ : Heap} {L : Addr}
def While1Post {σ : Type} (h₀ : Heap) (L : Addr) (s : Shared) (led : List (Addr × Obj)) (x : Str) (val : σ → Value) (m₀ : Str → Option Value) (P : σ → Prop) (μ : σ → Nat) (Q : Flow → Shared → Prop) (c : σ) (f : Flow) (s₂ : Shared) : Prop :=
  match f with
  | .ret v => Q (.ret v) s₂
  | .brk => Q .next s₂
  | _ => ∃ (c' : σ) (h' : Heap) (tk : Nat) (m' : Str → Option Value), s₂ = { s with heap := h', toks := tk } ∧ Fr h₀ L h' m' ∧ News h₀ L h' led ∧ m' x = some (val c') ∧ (∀ z, z ≠ x → m' z = m₀ z) ∧ P c' ∧ μ c' < μ c
/-- a while that turns one name -/
theorem while_one {σ : Type} {test : Expr} {body : List Stmt} {pos : Pos} {m₀ : Str → Option Value} {led : List (Addr × Obj)} (x : Str) (val : σ → Value) (P : σ → Prop) (μ : σ → Nat) (c₀ : σ)
    (F : Fr h₀ L s.heap m₀) (N : News h₀ L s.heap led) (hk : m₀ x = some (val c₀)) (hp : P c₀)
    (turn : ∀ (c : σ) h tk, P c → Fr h₀ L h (fun y => if y = x then some (val c) else m₀ y) → News h₀ L h led →
      wpAny (model prog w) A (isTrue test env (eval test env)) (fun b s₂ =>
        if b = true then wpAny (model prog w) A (execs body env) (While1Post h₀ L s led x val m₀ P μ Q c) E s₂ else Q .next s₂) E { s with heap := h, toks := tk })
    (hE : PassesOwn (model prog w) A env E := by passes_own) :
    wpAny (model prog w) A (exec (.While test body [] pos) env) Q E s := by
  refine While_inv2 (fun n m nx => ∃ c : σ, nx = led ∧ μ c = n ∧ m x = some (val c) ∧ (∀ z, z ≠ x → m z = m₀ z) ∧ P c) F N ⟨c₀, rfl, rfl, hk, fun _ _ => rfl, hp⟩ ?_ hE
  rintro n m₁ nx h tk F₁ N₁ ⟨c, rfl, hsz, h1, h2, hp'⟩
  rw [← hsz]
  have e : m₁ = fun y => if y = x then some (val c) else m₀ y := by
    funext y
    by_cases hy : y = x
    · rw [hy, h1, if_pos rfl]
    · rw [h2 y hy, if_neg hy]
  refine wpAny_mono (turn c h tk hp' (e ▸ F₁) N₁) (fun b s₂ p => ?_) fun _ _ x => x
  cases b with
  | false => simpa using p
  | true =>
    simp only [if_true] at p ⊢
    refine wpAny_mono p (fun f s₃ q => ?_) fun _ _ x => x
    cases f with
    | ret v => exact q
    | brk => exact q
    | next =>
      obtain ⟨c', h', tk', m', rfl, F', N', hk9, hr9, hp9, hm9⟩ := q
      exact ⟨h', tk', m', nx, μ c', rfl, F', N', hm9, c', rfl, rfl, hk9, hr9, hp9⟩
    | cont =>
      obtain ⟨c', h', tk', m', rfl, F', N', hk9, hr9, hp9, hm9⟩ := q
      exact ⟨h', tk', m', nx, μ c', rfl, F', N', hm9, c', rfl, rfl, hk9, hr9, hp9⟩
end

theorem sext_found {x : Str} {c : Int} (h1 : Txt.rfind x (Str.ofString "/") < c) (h2 : c < Txt.rfind x (Str.ofString ".")) (h3 : (Txt.slice x (some c) (some (c + 1)) != Str.ofString ".") = true) :
    (Txt.slice x (some (Txt.rfind x (Str.ofString "."))) none).cps.toList = extOf 47 46 x.cps.toList ∧ (Txt.slice x none (some (Txt.rfind x (Str.ofString ".")))).cps.toList = x.cps.toList.take (x.cps.toList.length - (extOf 47 46 x.cps.toList).length) := by
  rw [lit_slash] at h1
  rw [lit_dot] at h2 h3 ⊢
  obtain ⟨_, _, h4, _⟩ := last_tail 47 (rfind_last x 47)
  have hc : ((c.toNat : Nat) : Int) = c := by omega
  have h5 : x.cps.toList[c.toNat]? ≠ some 46 := by
    intro q
    apply str_ne.mp h3
    rw [slice_both (by omega) (by omega), show (c + 1).toNat - c.toNat = 1 from by omega]
    obtain ⟨hlt, e⟩ := List.getElem?_eq_some_iff.mp q
    rw [List.drop_eq_getElem_cons hlt, e]
    rfl
  obtain ⟨e, h6, h7, _⟩ := ext_found 47 46 (rfind_last x 47) (rfind_last x 46) (j := c.toNat) (by omega) (by omega) h5
  rw [slice_from h6, slice_to h6, e]
  refine ⟨rfl, ?_⟩
  rw [List.length_drop]
  congr 1
  omega
theorem sext_none {x : Str} (h : ∀ j : Nat, Txt.rfind x (Str.ofString "/") < (j : Int) → (j : Int) < Txt.rfind x (Str.ofString ".") → x.cps.toList[j]? = some 46) :
    (Txt.slice x none (some 0)).cps.toList = extOf 47 46 x.cps.toList ∧ x.cps.toList = x.cps.toList.take (x.cps.toList.length - (extOf 47 46 x.cps.toList).length) := by
  rw [lit_slash, lit_dot] at h
  rw [slice_to (by omega), ext_none 47 46 (rfind_last x 47) (rfind_last x 46) h]
  exact ⟨rfl, by rw [List.length_nil, Nat.sub_zero, List.take_length]⟩
theorem sext_step {x : Str} {c : Int} (h0 : ∀ j : Nat, Txt.rfind x (Str.ofString "/") < (j : Int) → (j : Int) < c → x.cps.toList[j]? = some 46) (h1 : Txt.rfind x (Str.ofString "/") < c) (h3 : (Txt.slice x (some c) (some (c + 1)) != Str.ofString ".") = false) :
    ∀ j : Nat, Txt.rfind x (Str.ofString "/") < (j : Int) → (j : Int) < c + 1 → x.cps.toList[j]? = some 46 := by
  intro j hj1 hj2
  by_cases hc : (j : Int) < c
  · exact h0 j hj1 hc
  · have hn : 0 ≤ c := by
      rw [lit_slash] at h1
      obtain ⟨_, _, h4, _⟩ := last_tail 47 (rfind_last x 47)
      omega
    have e : (Txt.slice x (some c) (some (c + 1))).cps.toList = [46] := by
      have : ¬ ((Txt.slice x (some c) (some (c + 1))).cps.toList ≠ (Str.ofString ".").cps.toList) := fun q => by rw [str_ne.mpr q] at h3; cases h3
      rw [Classical.not_not.mp this, lit_dot]
    rw [slice_both (by omega) (by omega), show (c + 1).toNat - c.toNat = 1 from by omega, show c.toNat = j from by omega] at e
    have := congrArg (fun l => l[0]?) e
    simpa using this
theorem base_str (x : Str) (t t1 t2 : Tok) (hz : x.length ≤ 40000) : Does 125 [.str x t, .str (Str.ofString "/") t1, .none, .str (Str.ofString ".") t2] 1 (fun _ => True) (OkP fun y z => ∃ yr t ye u, y = .str yr t ∧ z = .str ye u ∧ ye.cps.toList = extOf 47 46 x.cps.toList ∧ yr.cps.toList = x.cps.toList.take (x.cps.toList.length - (extOf 47 46 x.cps.toList).length)) := by
  unfold Does
  k_fill
  intro w loose mean mg mb dp un gd cn cs a ccd cl outer A₀ base h₀ L m news s Q E B F X N T hk hpre hd hu hret
  refine wpAny_call ?_
  k_dflt ktr_enter
  k_steps
  · refine Halt.mk ?_
    (refine' while_one (σ := Int × Tok) (Str.ofString "filenameIndex") (fun c => .int c.1 c.2) (fun c => Txt.rfind x (Str.ofString "/") < c.1 ∧ c.1 ≤ Txt.rfind x (Str.ofString ".") ∧ ∀ j : Nat, Txt.rfind x (Str.ofString "/") < (j : Int) → (j : Int) < c.1 → x.cps.toList[j]? = some 46) (fun c => (Txt.rfind x (Str.ofString ".") - c.1).toNat) (_, _) ?k1 ?k2 ?k4 ?k5 ?_ ?k7; (case k1 => k_asm); (case k2 => k_asm); (case k4 => exact rfl); (case k7 => passes_own))
    · exact ⟨by dsimp only; omega, by dsimp only; omega, fun j h1 h2 => absurd h1 (by dsimp only at h2; omega)⟩
    · rintro c h tk ⟨hP1, hP2, hP3⟩ kF kN
      k_steps
      · unfold While1Post
        dsimp only
        k_steps
        have hE := sext_found hP1 (by assumption) (by assumption)
        exact hret _ _ _ _ (by k_asm) (by k_asm) ⟨_, _, _, rfl, by assumption, rfl, _, _, _, _, rfl, rfl, hE.1, hE.2⟩
      · refine ⟨(c.1 + 1, _), _, _, _, rfl, by k_asm, by k_asm, rfl, ?_, ⟨?_, ?_, ?_⟩, ?_⟩
        · intro z h1
          simp only [if_neg h1]
        · dsimp only; omega
        · dsimp only; omega
        · exact sext_step hP3 hP1 (by assumption)
        · dsimp only; omega
      · have hE := sext_none (x := x) fun j h1 h2 => hP3 j h1 (by omega)
        exact hret _ _ _ _ (by k_asm) (by k_asm) ⟨_, _, _, rfl, by assumption, rfl, _, _, _, _, rfl, rfl, hE.1, hE.2⟩
  · have hE := sext_none (x := x) fun j h1 h2 => absurd h1 (by omega)
    exact hret _ _ _ _ (by k_asm) (by k_asm) ⟨_, _, _, rfl, by assumption, rfl, _, _, _, _, rfl, rfl, hE.1, hE.2⟩
end Mine
end
section
open PySem PySem.W PySem.Calls PyProof.Rows
set_option Elab.async false
set_option maxRecDepth 100000
set_option maxHeartbeats 8000000
namespace Mine

local macro_rules | `(tactic| walk_at "call type:type") => `(tactic| ((with_reducible show wpAny _ _ (call (Value.type "type") [Value.bytes _ _]) _ _ _); refine call_type_of (typeIs_bytes _ _ _) (by decide) ?_))
local macro_rules | `(tactic| walk_at "call builtin:issubclass") => `(tactic| (k_here; k_dflt (first | refine' issub_pair ?k1 ty_str sub_ss F.sub_str_bytes ?_ | refine' issub_pair ?k1 ty_bytes sub_bs sub_bb ?_); (case k1 => exact News.get (by k_asm) (by k_mem)); k_whole))

theorem lit_dots : PySem.Str.ofString ".." = ⟨#[46, 46]⟩ := by decide
theorem lit_crlf : PySem.Str.ofString "\r\n" = ⟨#[13, 10]⟩ := by decide
section
variable {prog : Program} {w : World} {A : Around} {E : Value → Shared → Prop} {s : Shared} {Q : Value → Shared → Prop} {h₀ : Heap} {L : Addr} {m : Str → Option Value} {news : List (Addr × Obj)}
theorem dots_N (F : Fr h₀ L s.heap m) (N : News h₀ L s.heap news) (X : (Mine.hd.heap_39 w.params).In s.heap) {x : Str} {u rt : Tok} (hz : x.length ≤ 50000)
    (h : ∀ h' tk t' y, Fr h₀ L h' m → News h₀ L h' news → y.cps.toList = qt 46 10 true x.cps.toList → y.length ≤ 2 * x.length → Q (.str y t') { s with heap := h', toks := tk }) :
    wpAny (model prog w) A (call (.builtin "re.Pattern.sub") [.ref 154, .str (PySem.Str.ofString "..") rt, .str x u]) Q E s := by
  rw [lit_dots]
  refine sub_dots (pat154 X) hz fun h' tk t' k => h h' tk t' _ (fr_keep F k) (news_keep N k) rfl ?_
  have := qt_len 46 10 true x.cps.toList
  rw [len_list] at this
  show (List.toArray _).size ≤ _
  rw [List.size_toArray]
  exact this
theorem eols_N (F : Fr h₀ L s.heap m) (N : News h₀ L s.heap news) (X : (Mine.hd.heap_39 w.params).In s.heap) {x : Str} {u rt : Tok} (hz : x.length ≤ 50000)
    (h : ∀ h' tk t' y, Fr h₀ L h' m → News h₀ L h' news → y.cps.toList = Fb false x.cps.toList → y.length ≤ 2 * x.length → Q (.str y t') { s with heap := h', toks := tk }) :
    wpAny (model prog w) A (call (.builtin "re.Pattern.sub") [.ref 164, .str (PySem.Str.ofString "\r\n") rt, .str x u]) Q E s := by
  rw [lit_crlf]
  refine sub_eols (pat164 X) hz fun h' tk t' k => h h' tk t' _ (fr_keep F k) (news_keep N k) rfl ?_
  have := Fb_len false x.cps.toList
  rw [len_list] at this
  show (List.toArray _).size ≤ _
  rw [List.size_toArray]
  exact this
theorem dots_B (F : Fr h₀ L s.heap m) (N : News h₀ L s.heap news) (X : (Mine.hd.heap_39 w.params).In s.heap) {x : Array UInt8} {u rt : Tok} (hz : x.size ≤ 50000)
    (h : ∀ h' tk t', Fr h₀ L h' m → News h₀ L h' news → Q (.bytes ((qt 46 10 true (x.map (·.toNat)).toList).map (·.toUInt8)).toArray t') { s with heap := h', toks := tk }) :
    wpAny (model prog w) A (call (.builtin "re.Pattern.sub") [.ref 159, .bytes #[46, 46] rt, .bytes x u]) Q E s :=
  sub_bytes (pat159 X) hz fun h' tk t' k => h h' tk t' (fr_keep F k) (news_keep N k)
end

local macro_rules | `(tactic| walk_at "getMethod ref") => `(tactic| (k_here; k_dflt (first | refine' getMethod_sub (pat154 ?k1) ?_ | refine' getMethod_sub (pat159 ?k1) ?_ | refine' getMethod_sub (pat164 ?k1) ?_); (case k1 => k_in); k_whole))
local macro_rules | `(tactic| walk_at "call builtin:re.Pattern.sub") => `(tactic| (k_here; k_dflt (refine' dots_N ?k1 ?k2 ?k3 ?k4 ?_; (case k1 => k_asm); (case k2 => k_asm); (case k3 => k_in); (case k4 => omega); k_whole); intro h9 tk9 t9 y9 F9 N9 e9 l9))
local macro_rules | `(tactic| walk_at "call builtin:re.Pattern.sub") => `(tactic| (k_here; k_dflt (refine' eols_N ?k1 ?k2 ?k3 ?k4 ?_; (case k1 => k_asm); (case k2 => k_asm); (case k3 => k_in); (case k4 => omega); k_whole); intro h9 tk9 t9 y9 F9 N9 e9 l9))
local macro_rules | `(tactic| walk_at "call builtin:re.Pattern.sub") => `(tactic| (k_here; k_dflt (refine' dots_B ?k1 ?k2 ?k3 ?k4 ?_; (case k1 => k_asm); (case k2 => k_asm); (case k3 => k_in); (case k4 => omega); k_whole); intro h9 tk9 t9 F9 N9))
local macro_rules | `(tactic| walk_at "call ref") => `(tactic| (k_here; k_dflt (refine' does_use (fspath_str _ _ ) ?k1 ?k2 ?k3 ?k4 ?k5 ?kK ?kR ?kd ?ku ?_; (case k1 => k_asm); (case k2 => k_asm); (case k3 => k_asm); (case k4 => k_asm); (case k5 => k_asm); (case kK => first | exact rfl | assumption); (case kR => first | exact trivial | assumption); (case kd => ktr_room); (case ku => ktr_units); k_whole); intro r9 led9 h9 tk9 F9 N9 ho9; obtain ⟨e9, ho9⟩ := ho9; subst e9; first | subst ho9 | (obtain ⟨t9, e9⟩ := ho9; subst e9)))
local macro_rules | `(tactic| walk_at "call ref") => `(tactic| (k_here; k_dflt (refine' does_use (base_str _ _ _ _ ?hz) ?k1 ?k2 ?k3 ?k4 ?k5 ?kK ?kR ?kd ?ku ?_; (case hz => omega); (case k1 => k_asm); (case k2 => k_asm); (case k3 => k_asm); (case k4 => k_asm); (case k5 => k_asm); (case kK => first | exact rfl | assumption); (case kR => first | exact trivial | assumption); (case kd => ktr_room); (case ku => ktr_units); k_whole); intro r9 led9 h9 tk9 F9 N9 ho9; obtain ⟨a9, y9, z9, e9, l9, e8, y8, t8, z8, u8, ey8, ez8, e7, e6⟩ := ho9; subst e9; subst e8; subst ey8; subst ez8))
theorem ext_str (x : Str) (t : Tok) (hz : x.length ≤ 40000) : Does 146 [.str x t] 2 (fun _ => True) (OkP fun y z => ∃ yr t ye u, y = .str yr t ∧ z = .str ye u ∧ ye.cps.toList = extOf 47 46 x.cps.toList ∧ yr.cps.toList = x.cps.toList.take (x.cps.toList.length - (extOf 47 46 x.cps.toList).length)) := by
  unfold Does
  k_fill
  intro w loose mean mg mb dp un gd cn cs a ccd cl outer A₀ base h₀ L m news s Q E B F X N T hk hpre hd hu hret
  refine wpAny_call ?_
  k_dflt ktr_enter
  k_steps

  all_goals exact hret _ _ _ _ (by k_asm) (by k_asm) ⟨_, _, _, rfl, by assumption, rfl, _, _, _, _, rfl, rfl, by assumption, by assumption⟩
theorem fix_str (x : Str) (t : Tok) (hz : x.length ≤ 20000) : Does 185 [.str x t] 1 (fun _ => True) (OkV fun r => ∃ y t, r = .str y t ∧ y.cps.toList = Fb false x.cps.toList ∧ y.length ≤ 2 * x.length) := by
  unfold Does
  k_fill
  intro w loose mean mg mb dp un gd cn cs a ccd cl outer A₀ base h₀ L m news s Q E B F X N T hk hpre hd hu hret
  refine wpAny_call ?_
  k_dflt ktr_enter
  k_steps

  all_goals exact hret _ _ _ _ (by k_asm) (by k_asm) ⟨rfl, _, _, rfl, by assumption, by assumption⟩
theorem quote_str (x : Str) (t : Tok) (hz : x.length ≤ 20000) : Does 171 [.str x t] 1 (fun _ => True) (OkV fun r => ∃ y t, r = .str y t ∧ y.cps.toList = qt 46 10 true (Fb false x.cps.toList) ∧ y.length ≤ 4 * x.length) := by
  unfold Does
  k_fill
  intro w loose mean mg mb dp un gd cn cs a ccd cl outer A₀ base h₀ L m news s Q E B F X N T hk hpre hd hu hret
  refine wpAny_call ?_
  k_dflt ktr_enter
  k_steps

  all_goals exact hret _ _ _ _ (by k_asm) (by k_asm) ⟨rfl, _, _, rfl, Eq.trans (by assumption) (congrArg (qt 46 10 true) (by assumption)), (by omega)⟩
theorem quote_bytes (x : Array UInt8) (t : Tok) (hz : x.size ≤ 20000) : Does 178 [.bytes x t] 1 (fun _ => True) (OkV fun r => ∃ t, r = .bytes ((qt 46 10 true (x.map (·.toNat)).toList).map (·.toUInt8)).toArray t) := by
  unfold Does
  k_fill
  intro w loose mean mg mb dp un gd cn cs a ccd cl outer A₀ base h₀ L m news s Q E B F X N T hk hpre hd hu hret
  refine wpAny_call ?_
  k_dflt ktr_enter
  k_steps

  all_goals exact hret _ _ _ _ (by k_asm) (by k_asm) ⟨rfl, _, rfl⟩
end Mine
end
section
open PySem PySem.W PySem.Calls PyProof.Rows PySem.Builtin
set_option Elab.async false
set_option maxRecDepth 100000
set_option maxHeartbeats 4000000
namespace Mine
theorem slot_brfind : Slot "bytes" "rfind" "bytes.rfind" :=
  .of (owner := "bytes") (n := "rfind") (by rw [typeLookup_type, builtinLookup_eq_fast]; kernel_rfl) (by decide +kernel) (by decide +kernel) (by decide +kernel)
    (by first | exact .inl (by decide +kernel) | exact .inr (by decide +kernel)) (by rw [isSubtype_type]; kernel_rfl)
theorem type_brfind : typeOf (.builtin "bytes.rfind") = pure (.type "method_descriptor") := by show builtinType _ = _; rw [builtinType_eq_fast]; kernel_rfl
theorem entry_brfind : entryFor table "bytes.rfind" = some Builtin.«bytes.rfind» := entryFor_of_tree (by kernel_rfl)
theorem args_brfind (a b : Value) : argsOk "bytes.rfind" ⟨[a, b], []⟩ := by
  unfold argsOk; kernel_rfl
theorem slot_brstrip : Slot "bytes" "rstrip" "bytes.rstrip" :=
  .of (owner := "bytes") (n := "rstrip") (by rw [typeLookup_type, builtinLookup_eq_fast]; kernel_rfl) (by decide +kernel) (by decide +kernel) (by decide +kernel)
    (by first | exact .inl (by decide +kernel) | exact .inr (by decide +kernel)) (by rw [isSubtype_type]; kernel_rfl)
theorem type_brstrip : typeOf (.builtin "bytes.rstrip") = pure (.type "method_descriptor") := by show builtinType _ = _; rw [builtinType_eq_fast]; kernel_rfl
theorem entry_brstrip : entryFor table "bytes.rstrip" = some Builtin.«bytes.rstrip» := entryFor_of_tree (by kernel_rfl)
theorem args_brstrip (a b : Value) : argsOk "bytes.rstrip" ⟨[a, b], []⟩ := by
  unfold argsOk; kernel_rfl
/-- where bytes.rfind finds one byte -/
def brf (b c : Array UInt8) : Int := match (if ((b.size : Int) - 0 < (c.size : Int)) then none else some ((0 : Int).toNat, (b.size : Int).toNat)).bind fun (p : Nat × Nat) => Bytes.rfind? b c p.1 p.2 with | some i => (i : Int) | none => -1
theorem gives_brfind (b c : Array UInt8) (t u : Tok) : Gives («bytes.rfind» ⟨[.bytes b t, .bytes c u], []⟩) (.int (brf b c)) := by
  refine .of_wp fun M A E s Q hq => ?_
  have key : Bytes.searchArgs .bytes "rfind" ⟨[.bytes b t, .bytes c u], []⟩ = pure (b, c, if ((b.size : Int) - 0 < (c.size : Int)) then none else some ((0 : Int).toNat, (b.size : Int).toNat)) := by
    unfold Bytes.searchArgs
    show (Bytes.buffer? "bytes.rfind" (.bytes c u) >>= fun r => _) = _
    rw [KBy.buffer_eq]
    show (pure (b, c, if ((min (b.size : Int) (if (b.size : Int) < 0 then max 0 ((b.size : Int) + b.size) else b.size)) - (if (0 : Int) < 0 then max 0 ((0 : Int) + b.size) else 0) < (c.size : Int)) then none else some ((if (0 : Int) < 0 then max 0 ((0 : Int) + b.size) else 0).toNat, (min (b.size : Int) (if (b.size : Int) < 0 then max 0 ((b.size : Int) + b.size) else b.size)).toNat)) : Sem _) = _
    rw [if_neg (show ¬ ((0 : Int) < 0) by decide), if_neg (show ¬ ((b.size : Int) < 0) by omega), Int.min_self]
  show wpAny M A (Bytes.searchArgs .bytes "rfind" ⟨[.bytes b t, .bytes c u], []⟩ >>= fun r => _) _ E s
  refine wpAny_bind (wpAny_of_eq key ?_)
  unfold brf at hq
  dsimp only
  split
  · rename_i i hi
    simp only [if_true] at hi
    rw [hi] at hq
    exact wpAny_bind (wpAny_mkInt (wpAny_pure ⟨_, rfl, hq⟩))
  · rename_i hi
    simp only [if_true] at hi
    rw [hi] at hq
    refine wpAny_bind (wpAny_rule ?_)
    rw [if_neg (by decide)]
    exact wpAny_bind (wpAny_mkInt (wpAny_pure ⟨_, rfl, hq⟩))
theorem find_back (p : Nat → Bool) : ∀ n : Nat, ((List.range n).reverse.find? p = none ∧ ∀ k, k < n → p k = false) ∨ ∃ i, (List.range n).reverse.find? p = some i ∧ i < n ∧ p i = true ∧ ∀ k, i < k → k < n → p k = false := by
  intro n
  induction n with
  | zero => exact .inl ⟨rfl, fun k h => absurd h (Nat.not_lt_zero _)⟩
  | succ n ih =>
    rw [List.range_succ, List.reverse_append, List.reverse_singleton, List.singleton_append, List.find?_cons]
    cases hp : p n with
    | true => exact .inr ⟨n, rfl, Nat.lt_succ_self _, hp, fun k h1 h2 => by omega⟩
    | false =>
      rcases ih with ⟨e, h⟩ | ⟨i, e, hi, hpi, h⟩
      · refine .inl ⟨e, fun k hk => ?_⟩
        by_cases q : k = n
        · rw [q]; exact hp
        · exact h k (by omega)
      · refine .inr ⟨i, e, by omega, hpi, fun k h1 h2 => ?_⟩
        by_cases q : k = n
        · rw [q]; exact hp
        · exact h k h1 (by omega)
theorem brf_last (b : Array UInt8) (c : UInt8) : IsLast c b.toList (brf b #[c]) := by
  have hp : ∀ i, i < b.size → ((b.extract i (i + (#[c] : Array UInt8).size) == #[c]) = true ↔ b.toList[i]? = some c) := by
    intro i hi
    have e : (b.extract i (i + (#[c] : Array UInt8).size)).toList = [b[i]] := by
      rw [Array.toList_extract, List.extract_eq_drop_take]
      show List.take (i + 1 - i) (List.drop i b.toList) = _
      rw [Nat.add_sub_cancel_left, List.drop_eq_getElem_cons (by simpa using hi)]
      simp
    rw [beq_iff_eq, ← Array.toList_inj, e, Array.getElem?_toList, Array.getElem?_eq_getElem hi]
    simp
  have hout : ∀ k, b.size ≤ k → b.toList[k]? ≠ some c := by
    intro k hk q
    rw [List.getElem?_eq_none (by simpa using hk)] at q
    cases q
  unfold brf
  by_cases h0 : ((b.size : Int) - 0 < ((#[c] : Array UInt8).size : Int))
  · rw [if_pos h0]
    have hz : b.size = 0 := by
      have : ((#[c] : Array UInt8).size : Int) = 1 := rfl
      omega
    refine .inl ⟨rfl, fun q => ?_⟩
    have : b.toList = [] := List.length_eq_zero_iff.mp (by simpa using hz)
    rw [this] at q
    cases q
  · rw [if_neg h0]
    show IsLast c b.toList (match Bytes.rfind? b #[c] (0 : Int).toNat (b.size : Int).toNat with | some i => (i : Int) | none => -1)
    have er : Bytes.rfind? b #[c] (0 : Int).toNat (b.size : Int).toNat = (List.range b.size).reverse.find? fun i => b.extract i (i + (#[c] : Array UInt8).size) == #[c] := by
      unfold Bytes.rfind?
      have e1 : (b.size : Int).toNat + 1 - ((0 : Int).toNat + (#[c] : Array UInt8).size) = b.size := by
        show (b.size : Int).toNat + 1 - (0 + 1) = b.size
        omega
      rw [e1]
      have e2 : (List.range b.size).map (· + (0 : Int).toNat) = List.range b.size := by
        show (List.range b.size).map (fun x => x + 0) = _
        simp
      rw [e2]
    rw [er]
    rcases find_back (fun i => b.extract i (i + (#[c] : Array UInt8).size) == #[c]) b.size with ⟨e, h⟩ | ⟨i, e, hi, hpi, h⟩
    · rw [e]
      refine .inl ⟨rfl, fun q => ?_⟩
      obtain ⟨k, hk⟩ := List.mem_iff_getElem?.mp q
      by_cases hlt : k < b.size
      · have := h k hlt
        rw [(hp k hlt).mpr hk] at this
        cases this
      · exact hout k (by omega) hk
    · rw [e]
      refine .inr ⟨i, rfl, (hp i hi).mp hpi, fun k hk q => ?_⟩
      by_cases hlt : k < b.size
      · have := h k hk hlt
        rw [(hp k hlt).mpr q] at this
        cases this
      · exact hout k (by omega) q
theorem gives_brstrip (b : Array UInt8) (c : UInt8) (t u : Tok) : Gives («bytes.rstrip» ⟨[.bytes b t, .bytes #[c] u], []⟩) (if (rstripOf c b.toList).length = b.size then .val (.bytes b t) else .bytes (rstripOf c b.toList).toArray) := by
  refine .of_wp fun M A E s Q hq => ?_
  show wpAny M A (Bytes.bytesLike "bytes.rstrip" (.bytes #[c] u) >>= fun set => _) _ E s
  refine wpAny_bind (wpAny_of_eq KBd.like_eq ?_)
  refine wpAny_bind (wpAny_pure ?_)
  refine wpAny_bind (wpAny_of_eq (a := b) rfl ?_)
  have ep : (Array.contains #[c] : UInt8 → Bool) = fun d => decide (d = c) := by
    funext d
    rw [Bool.eq_iff_iff]
    simp
  rw [ep]
  show wpAny M A (if ((b.toList.reverse.dropWhile fun d => decide (d = c)).reverse.length == b.size) = true then _ else _) _ E s
  by_cases h : (rstripOf c b.toList).length = b.size
  · rw [if_pos h] at hq
    rw [if_pos (by simpa [rstripOf] using h)]
    refine wpAny_bind (wpAny_rule ?_)
    show wpAny M A (Bytes.Kind.same .bytes (.bytes b t) >>= fun r => ret r) _ E s
    unfold Bytes.Kind.same
    refine wpAny_bind ?_
    rw [if_pos (by decide)]
    refine wpAny_bind (wpAny_typeOf (typeIs_bytes s b t) ?_)
    rw [if_pos (by decide)]
    exact wpAny_pure (wpAny_pure ⟨_, rfl, hq⟩)
  · rw [if_neg h] at hq
    rw [if_neg (by simpa [rstripOf] using h)]
    exact wpAny_bind (wpAny_mkBytes (wpAny_pure ⟨_, rfl, hq.2⟩) hq.1)
section
variable {prog : Program} {w : World} {A : Around} {E : Value → Shared → Prop} {s : Shared} {Q : Value → Shared → Prop} {b c : Array UInt8} {t u : Tok}
theorem noRefB : ∀ a, Value.bytes b t = .ref a → ∃ o, s.heap.get? a = some o ∧ o.dict = none := fun _ e => nomatch e
theorem brfind_method {pl : Sem Bool} {Q : Value × List Value → Shared → Prop} (h : Q (.builtin "bytes.rfind", [.bytes b t]) s) : wpAny (model prog w) A (getMethod (.bytes b t) "rfind" pl) Q E s :=
  getMethod_builtin (typeIs_bytes _ _ _) FB.plainAttrs_bytes slot_brfind type_brfind noRefB h
theorem brstrip_method {pl : Sem Bool} {Q : Value × List Value → Shared → Prop} (h : Q (.builtin "bytes.rstrip", [.bytes b t]) s) : wpAny (model prog w) A (getMethod (.bytes b t) "rstrip" pl) Q E s :=
  getMethod_builtin (typeIs_bytes _ _ _) FB.plainAttrs_bytes slot_brstrip type_brstrip noRefB h
theorem brfind_call (h : Q (.int (brf b c) s.toks) { s with toks := s.toks + 1 }) : wpAny (model prog w) A (call (.builtin "bytes.rfind") [.bytes b t, .bytes c u]) Q E s :=
  call_gives slot_brfind (typeIs_bytes _ _ _) entry_brfind (args_brfind _ _) (gives_brfind b c t u) h
theorem brstrip_call {d : UInt8} (hz : b.size ≤ 16777216) (h : ∀ y t' k, y.toList = rstripOf d b.toList → y.size ≤ b.size → Q (.bytes y t') { s with toks := k }) : wpAny (model prog w) A (call (.builtin "bytes.rstrip") [.bytes b t, .bytes #[d] u]) Q E s := by
  have hle : (rstripOf d b.toList).length ≤ b.size := by
    unfold rstripOf
    rw [List.length_reverse]
    have := (List.dropWhile_suffix (l := b.toList.reverse) (fun c => decide (c = d))).length_le
    simpa using this
  refine call_gives slot_brstrip (typeIs_bytes _ _ _) entry_brstrip (args_brstrip _ _) (gives_brstrip b d t u) ?_
  by_cases hh : (rstripOf d b.toList).length = b.size
  · rw [if_pos hh]
    refine h b t s.toks ?_ (Nat.le_refl _)
    have : rstripOf d b.toList = b.toList := by
      have := (List.dropWhile_suffix (l := b.toList.reverse) (fun c => decide (c = d)))
      have e := this.eq_of_length (by unfold rstripOf at hh; rw [List.length_reverse] at hh ⊢; simpa using hh)
      unfold rstripOf
      rw [e, List.reverse_reverse]
    rw [this]
  · rw [if_neg hh]
    refine ⟨?_, h _ _ _ (by simp) (by simpa using hle)⟩
    rw [sizeLine_eq, List.size_toArray]
    omega
end
theorem picked_to {b : Array UInt8} {z : Int} (h : 0 ≤ z) : (KBy.picked b none (some z)).toList = b.toList.take z.toNat := by
  rw [KBc.picked_eq]
  obtain ⟨n, rfl⟩ := Int.eq_ofNat_of_zero_le h
  simp only [Option.elim, List.drop_zero, Nat.sub_zero, Int.toNat_natCast]
  rw [clipAt_nat]
  rcases Nat.le_total n b.size with q | q
  · rw [Nat.min_eq_left q]
  · rw [Nat.min_eq_right q, List.take_of_length_le (by simp), List.take_of_length_le (by simpa using q)]
theorem picked_from {b : Array UInt8} {z : Int} (h : 0 ≤ z) : (KBy.picked b (some z) none).toList = b.toList.drop z.toNat := by
  rw [KBc.picked_eq]
  obtain ⟨n, rfl⟩ := Int.eq_ofNat_of_zero_le h
  simp only [Option.elim, Int.toNat_natCast]
  rw [clipAt_nat]
  rcases Nat.le_total n b.size with q | q
  · rw [Nat.min_eq_left q, List.take_of_length_le (by simp)]
  · rw [Nat.min_eq_right q, List.drop_of_length_le (by simp), List.drop_of_length_le (by simpa using q)]
    simp
theorem picked_both {b : Array UInt8} {y z : Int} (h : 0 ≤ y) (h' : 0 ≤ z) : (KBy.picked b (some y) (some z)).toList = (b.toList.drop y.toNat).take (z.toNat - y.toNat) := by
  rw [KBc.picked_eq]
  obtain ⟨n, rfl⟩ := Int.eq_ofNat_of_zero_le h
  obtain ⟨m, rfl⟩ := Int.eq_ofNat_of_zero_le h'
  simp only [Option.elim, Int.toNat_natCast]
  rw [clipAt_nat, clipAt_nat]
  have hL : b.toList.length = b.size := by simp
  rcases Nat.le_total n b.size with q | q
  · rw [Nat.min_eq_left q]
    rcases Nat.le_total m b.size with r | r
    · rw [Nat.min_eq_left r]
    · rw [Nat.min_eq_right r, List.take_of_length_le (by rw [List.length_drop]; omega), List.take_of_length_le (by rw [List.length_drop]; omega)]
  · rw [Nat.min_eq_right q, List.drop_of_length_le (by omega), List.drop_of_length_le (by omega)]
    simp
theorem picked_last {b : Array UInt8} : (KBy.picked b (some (-1)) none).toList = b.toList.drop (b.toList.length - 1) := by
  rw [KBc.picked_eq]
  have h := clipAt_neg b.size 1 (Nat.le_refl _)
  simp only [Option.elim]
  rw [show (-1 : Int) = -((1 : Nat) : Int) from rfl, h, List.take_of_length_le (by simp)]
  simp
theorem size_picked (b : Array UInt8) (lo hi : Option Int) : (KBy.picked b lo hi).size ≤ b.size := KBc.size_picked_le b lo hi
section
variable {prog : Program} {w : World} {A : Around} {E : Value → Shared → Prop} {s : Shared} {value slice : PySem.Expr} {b : Array UInt8} {t : Tok} {h₀ : Heap} {L : Addr} {m : PySem.Str → Option Value} {news : List (Addr × Obj)} {l u : Value} {lo hi : Option Int} {Q : Value → Shared → Prop}
theorem slice_B (hF : Fr h₀ L s.heap m) (hN : News h₀ L s.heap news) (hl : IsPart l lo) (hu : IsPart u hi) (hz : b.size ≤ 16777216)
    (h : ∀ h' t' k, Fr h₀ L h' m → News h₀ L h' news → (KBy.picked b lo hi).size ≤ b.size → Q (.bytes (KBy.picked b lo hi) t') { s with heap := h', toks := k })
    (hs : subscripted slice false (.bytes b t) (.ref s.heap.objs.size) = operate [.ref s.heap.objs.size, .bytes b t] (getItem (.bytes b t) (.ref s.heap.objs.size)) := by with_unfolding_all rfl)
    (ht : ∀ r, letTemporaryGo value (.bytes b t) r = pure () := by intro _; with_unfolding_all rfl) :
    wpAny (model prog w) A (subscriptTail value slice (.bytes b t) (.ref s.heap.objs.size)) Q E { s with heap := s.heap.push { cls := .type "slice", data := .fields #[l, u, .none] } } :=
  KBc.slice_K hF hN rfl hl hu (by rw [KBw.ints_length]; exact hz) (fun h' t' k f n _ => h h' t' k f n (size_picked _ _ _)) hs ht
end
theorem list_ne {x y : Array UInt8} : (x.toList != y.toList) = true ↔ x.toList ≠ y.toList := bne_iff_ne
/-- the ends of split, bytes -/
theorem bsplit_ends (x : Array UInt8) : ((KBy.picked x none (some (brf x #[47] + 1))).toList = upTo 47 x.toList) ∧ ((KBy.picked x (some (brf x #[47] + 1)) none).toList = tailOf 47 x.toList) := by
  obtain ⟨h1, h2, h3, h4⟩ := last_tail 47 (brf_last x 47)
  rw [picked_to (by omega), picked_from (by omega), h1, h2]
  exact ⟨rfl, rfl⟩
theorem flat_one (n : Nat) (c : UInt8) : (List.replicate n [c]).flatten = List.replicate n c := by
  induction n with
  | zero => rfl
  | succ n ih => rw [List.replicate_succ, List.flatten_cons, ih, List.replicate_succ]; rfl
theorem bsplit_strip {y v : Array UInt8} (h : (y.toList != (((List.replicate ((y.size : Int)).toNat [(47 : UInt8)]).flatten).toArray).toList) = true) (hv : v.toList = rstripOf 47 y.toList) : v.toList = hdOf 47 y.toList := by
  have := bne_iff_ne.mp h
  rw [Int.toNat_natCast, flat_one] at this
  rw [hv, hdOf_ne]
  simpa using this
theorem bsplit_same {y : Array UInt8} (h : (y.toList != (((List.replicate ((y.size : Int)).toNat [(47 : UInt8)]).flatten).toArray).toList) = false) : y.toList = hdOf 47 y.toList := by
  have h' : y.toList = (((List.replicate ((y.size : Int)).toNat [(47 : UInt8)]).flatten).toArray).toList := by simpa using h
  rw [Int.toNat_natCast, flat_one] at h'
  rw [hdOf_eq]
  simpa using h'
theorem bsplit_nil {y : Array UInt8} (h : (y.size : Int) = 0) : y.toList = hdOf 47 y.toList := by
  have : y.toList = [] := List.length_eq_zero_iff.mp (by rw [Array.length_toList]; omega)
  rw [this]
  rfl
theorem bext_found {x : Array UInt8} {c : Int} (h1 : brf x #[47] < c) (h2 : c < brf x #[46]) (h3 : ((KBy.picked x (some c) (some (c + 1))).toList != (#[46] : Array UInt8).toList) = true) :
    (KBy.picked x (some (brf x #[46])) none).toList = extOf 47 46 x.toList ∧ (KBy.picked x none (some (brf x #[46]))).toList = x.toList.take (x.toList.length - (extOf 47 46 x.toList).length) := by
  obtain ⟨_, _, h4, _⟩ := last_tail 47 (brf_last x 47)
  have hc : ((c.toNat : Nat) : Int) = c := by omega
  have h5 : x.toList[c.toNat]? ≠ some 46 := by
    intro q
    apply bne_iff_ne.mp h3
    rw [picked_both (by omega) (by omega), show (c + 1).toNat - c.toNat = 1 from by omega]
    obtain ⟨hlt, e⟩ := List.getElem?_eq_some_iff.mp q
    rw [List.drop_eq_getElem_cons hlt, e]
    rfl
  obtain ⟨e, h6, h7, _⟩ := ext_found 47 46 (brf_last x 47) (brf_last x 46) (j := c.toNat) (by omega) (by omega) h5
  rw [picked_from h6, picked_to h6, e]
  refine ⟨rfl, ?_⟩
  rw [List.length_drop]
  congr 1
  omega
theorem bext_none {x : Array UInt8} (h : ∀ j : Nat, brf x #[47] < (j : Int) → (j : Int) < brf x #[46] → x.toList[j]? = some 46) :
    (KBy.picked x none (some 0)).toList = extOf 47 46 x.toList ∧ x.toList = x.toList.take (x.toList.length - (extOf 47 46 x.toList).length) := by
  rw [picked_to (by omega), ext_none 47 46 (brf_last x 47) (brf_last x 46) h]
  exact ⟨rfl, by rw [List.length_nil, Nat.sub_zero, List.take_length]⟩
theorem bext_step {x : Array UInt8} {c : Int} (h0 : ∀ j : Nat, brf x #[47] < (j : Int) → (j : Int) < c → x.toList[j]? = some 46) (h1 : brf x #[47] < c) (h3 : ((KBy.picked x (some c) (some (c + 1))).toList != (#[46] : Array UInt8).toList) = false) :
    ∀ j : Nat, brf x #[47] < (j : Int) → (j : Int) < c + 1 → x.toList[j]? = some 46 := by
  intro j hj1 hj2
  by_cases hc : (j : Int) < c
  · exact h0 j hj1 hc
  · obtain ⟨_, _, h4, _⟩ := last_tail 47 (brf_last x 47)
    have e : (KBy.picked x (some c) (some (c + 1))).toList = [46] := by simpa using h3
    rw [picked_both (by omega) (by omega), show (c + 1).toNat - c.toNat = 1 from by omega, show c.toNat = j from by omega] at e
    have := congrArg (fun l => l[0]?) e
    simpa using this
end Mine
end
section
open PySem PySem.W PySem.Calls PyProof.Rows
set_option Elab.async false
set_option maxRecDepth 100000
set_option maxHeartbeats 8000000
namespace Mine
local macro_rules | `(tactic| walk_at "part W5 0") => `(tactic| skip)
local macro_rules | `(tactic| walk_at "part W5 1") => `(tactic| skip)
local macro_rules | `(tactic| walk_at "part W5 2") => `(tactic| skip)
local macro_rules | `(tactic| walk_at "part W5 3") => `(tactic| skip)
local macro_rules | `(tactic| walk_at "part W5 4") => `(tactic| skip)
local macro_rules | `(tactic| walk_at "part W5 5") => `(tactic| skip)
local macro_rules | `(tactic| walk_at "part W5 6") => `(tactic| skip)

local macro_rules | `(tactic| walk_at "call type:type") => `(tactic| ((with_reducible show wpAny _ _ (call (Value.type "type") [Value.bytes _ _]) _ _ _); refine call_type_of (typeIs_bytes _ _ _) (by decide) ?_))
local macro_rules | `(tactic| walk_at "call builtin:issubclass") => `(tactic| (k_here; k_dflt (first | refine' issub_pair ?k1 ty_str sub_ss F.sub_str_bytes ?_ | refine' issub_pair ?k1 ty_bytes sub_bs sub_bb ?_); (case k1 => exact News.get (by k_asm) (by k_mem)); k_whole))
local macro_rules | `(tactic| walk_at "exec While") => `(tactic| refine halt ?_)
section
variable {prog : Program} {w : World} {A : Around} {E : Value → Shared → Prop} {s : Shared}
theorem mul_B {c : UInt8} {n : Nat} {t u : Tok} {Q : Value → Shared → Prop} (hn : n ≤ 1048576) (h : ∀ t' k, Q (.bytes ((List.replicate ((n : Int)).toNat [c]).flatten).toArray t') { s with toks := k }) :
    wpAny (model prog w) A (binaryOp .Mult (.bytes #[c] t) (.int (n : Int) u)) Q E s :=
  bytes_mul_any (b := [c]) (fun e => nomatch e) (by omega) (by omega) (show 1 ≤ 16 by decide) h
end

local macro_rules | `(tactic| walk_at "getMethod bytes") => `(tactic| (k_here; k_dflt (first | ((with_reducible show wpAny _ _ (getMethod _ "rfind" _) _ _ _); refine' brfind_method ?_) | ((with_reducible show wpAny _ _ (getMethod _ "rstrip" _) _ _ _); refine' brstrip_method ?_)); k_whole))
local macro_rules | `(tactic| walk_at "call builtin:bytes.rfind") => `(tactic| (k_here; k_dflt (refine' brfind_call ?_); k_whole))
local macro_rules | `(tactic| walk_at "call builtin:bytes.rstrip") => `(tactic| (k_here; k_dflt (refine' brstrip_call ?k1 ?_; (case k1 => omega); k_whole); intro y9 t9 k9 e9 l9))
local macro_rules | `(tactic| walk_at "subscriptTail") => `(tactic| (k_here; (with_reducible show wpAny _ _ (subscriptTail _ (Expr.Slice _ _ none _) (Value.bytes _ _) (Value.ref _)) _ _ _); (with_reducible rename Fr _ _ _ _ => F'); (with_reducible rename News _ _ _ _ => N'); (refine slice_B (s := ⟨_, _, _, _, _⟩) F' N' (by constructor) (by constructor) (by omega) ?_); intro h9 t9 k9 F9 N9 l9))
local macro_rules | `(tactic| walk_at "call builtin:len") => `(tactic| (k_here; (with_reducible show wpAny _ _ (call _ [Value.bytes _ _]) _ _ _); k_dflt (refine' len_bytes ?k1 ?_; (case k1 => omega); k_whole)))
local macro_rules | `(tactic| walk_at "truthy bytes") => `(tactic| (k_here; k_dflt (refine' truthy_bytes ?k1 ?_; (case k1 => omega); k_whole)))
local macro_rules | `(tactic| walk_at "binaryOp Mult bytes int") => `(tactic| (k_here; (refine' mul_B ?k1 ?_; (case k1 => omega); k_whole); intro t9 k9))
local macro_rules | `(tactic| walk_at "call ref") => `(tactic| (k_here; k_dflt (refine' does_use (fspath_bytes _ _ ) ?k1 ?k2 ?k3 ?k4 ?k5 ?kK ?kR ?kd ?ku ?_; (case k1 => k_asm); (case k2 => k_asm); (case k3 => k_asm); (case k4 => k_asm); (case k5 => k_asm); (case kK => first | exact rfl | assumption); (case kR => first | exact trivial | assumption); (case kd => ktr_room); (case ku => ktr_units); k_whole); intro r9 led9 h9 tk9 F9 N9 ho9; obtain ⟨e9, ho9⟩ := ho9; subst e9; first | subst ho9 | (obtain ⟨t9, e9⟩ := ho9; subst e9)))
local macro_rules | `(tactic| walk_at "call ref") => `(tactic| (k_here; k_dflt (refine' does_use (getsep_bytes _ _ ) ?k1 ?k2 ?k3 ?k4 ?k5 ?kK ?kR ?kd ?ku ?_; (case k1 => k_asm); (case k2 => k_asm); (case k3 => k_asm); (case k4 => k_asm); (case k5 => k_asm); (case kK => first | exact rfl | assumption); (case kR => first | exact trivial | assumption); (case kd => ktr_room); (case ku => ktr_units); k_whole); intro r9 led9 h9 tk9 F9 N9 ho9; obtain ⟨e9, ho9⟩ := ho9; subst e9; first | subst ho9 | (obtain ⟨t9, e9⟩ := ho9; subst e9)))
theorem split_bytes (x : Array UInt8) (t : Tok) (hz : x.size ≤ 40000) : Does 139 [.bytes x t] 2 (fun _ => True) (OkP fun y z => ∃ yh t zt u, y = .bytes yh t ∧ z = .bytes zt u ∧ yh.toList = hdOf 47 (upTo 47 x.toList) ∧ zt.toList = tailOf 47 x.toList) := by
  unfold Does
  k_fill
  intro w loose mean mg mb dp un gd cn cs a ccd cl outer A₀ base h₀ L m news s Q E B F X N T hk hpre hd hu hret
  refine wpAny_call ?_
  k_dflt ktr_enter
  k_steps

  all_goals have hE := bsplit_ends x
  all_goals refine hret _ _ _ _ (by k_asm) (by first | k_asm | exact news_d2 (by k_asm)) ⟨_, _, _, rfl, by first | assumption | exact lt_all (And.right (by assumption)), rfl, _, _, _, _, rfl, rfl, ?_, hE.2⟩
  · rw [bsplit_strip (by assumption) (by assumption), hE.1]
  · rw [← hE.1]; exact bsplit_same (by assumption)
  · rw [← hE.1]; exact bsplit_nil (by assumption)
theorem base_bytes (x : Array UInt8) (t t1 t2 : Tok) (hz : x.size ≤ 40000) : Does 125 [.bytes x t, .bytes #[47] t1, .none, .bytes #[46] t2] 1 (fun _ => True) (OkP fun y z => ∃ yr t ye u, y = .bytes yr t ∧ z = .bytes ye u ∧ ye.toList = extOf 47 46 x.toList ∧ yr.toList = x.toList.take (x.toList.length - (extOf 47 46 x.toList).length)) := by
  unfold Does
  k_fill
  intro w loose mean mg mb dp un gd cn cs a ccd cl outer A₀ base h₀ L m news s Q E B F X N T hk hpre hd hu hret
  refine wpAny_call ?_
  k_dflt ktr_enter
  k_steps
  · refine Halt.mk ?_
    (refine' while_one (σ := Int × Tok) (Str.ofString "filenameIndex") (fun c => .int c.1 c.2) (fun c => brf x #[47] < c.1 ∧ c.1 ≤ brf x #[46] ∧ ∀ j : Nat, brf x #[47] < (j : Int) → (j : Int) < c.1 → x.toList[j]? = some 46) (fun c => (brf x #[46] - c.1).toNat) (_, _) ?k1 ?k2 ?k4 ?k5 ?_ ?k7; (case k1 => k_asm); (case k2 => k_asm); (case k4 => exact rfl); (case k7 => passes_own))
    · exact ⟨by dsimp only; omega, by dsimp only; omega, fun j h1 h2 => absurd h1 (by dsimp only at h2; omega)⟩
    · rintro c h tk ⟨hP1, hP2, hP3⟩ kF kN
      k_steps
      · unfold While1Post
        dsimp only
        k_steps
        have hE := bext_found hP1 (by assumption) (by assumption)
        exact hret _ _ _ _ (by k_asm) (by k_asm) ⟨_, _, _, rfl, by assumption, rfl, _, _, _, _, rfl, rfl, hE.1, hE.2⟩
      · refine ⟨(c.1 + 1, _), _, _, _, rfl, by k_asm, by k_asm, rfl, ?_, ⟨?_, ?_, ?_⟩, ?_⟩
        · intro z h1
          simp only [if_neg h1]
        · dsimp only; omega
        · dsimp only; omega
        · exact bext_step hP3 hP1 (by assumption)
        · dsimp only; omega
      · have hE := bext_none (x := x) fun j h1 h2 => hP3 j h1 (by omega)
        exact hret _ _ _ _ (by k_asm) (by k_asm) ⟨_, _, _, rfl, by assumption, rfl, _, _, _, _, rfl, rfl, hE.1, hE.2⟩
  · have hE := bext_none (x := x) fun j h1 h2 => absurd h1 (by omega)
    exact hret _ _ _ _ (by k_asm) (by k_asm) ⟨_, _, _, rfl, by assumption, rfl, _, _, _, _, rfl, rfl, hE.1, hE.2⟩
end Mine
end
section
open PySem PySem.W PySem.Calls PyProof.Rows PyProof.Rows.LCg
set_option Elab.async false
set_option maxRecDepth 100000
set_option maxHeartbeats 4000000
namespace Mine
def Flat (o : Obj) : Prop := o.cls = .type "list" ∨ o.cls = .type "tuple"
/-- a ledger of lists and tuples alone -/
def PlainL (l : List (Addr × Obj)) : Prop := ∀ p ∈ l, Flat p.2
theorem PlainL.cons {p : Addr × Obj} {l : List (Addr × Obj)} (h : Flat p.2) (k : PlainL l) : PlainL (p :: l) := fun q hq => by
  rcases List.mem_cons.mp hq with rfl | hq
  · exact h
  · exact k q hq
theorem PlainL.app {k l : List (Addr × Obj)} (h : PlainL k) (h' : PlainL l) : PlainL (k ++ l) := fun q hq => (List.mem_append.mp hq).elim (h q) (h' q)
def LoopEnd (h₀ : Heap) (L I : Addr) (oI : Obj) (S : List (Addr × Obj) → Prop) (J : (Str → Option Value) → List (Addr × Obj) → Prop) (s : Shared) (f : Flow) (s₂ : Shared) : Prop :=
  (f = .next ∨ f = .cont) ∧ ∃ h' tk m' nx all, s₂ = { s with heap := h', toks := tk } ∧ Fr h₀ L h' m' ∧ News h₀ L h' all ∧ (∀ p ∈ (I, oI) :: nx, p ∈ all) ∧ PlainL nx ∧ S nx ∧ J m' nx
section
variable {prog : Program} {w : World} {A : Around} {E : Value → Shared → Prop} {Q : Flow → Shared → Prop} {s : Shared} {env : Env} {h₀ : Heap}
theorem for_core {target : Expr} {body : List Stmt} {I : Addr} {fp : List Addr} {n : Nat} {P : Nat → Value → Prop} {St : Nat → Heap → Prop} {S : List (Addr × Obj) → Prop} {m : Str → Option Value} {news : List (Addr × Obj)}
    (W : Walks prog w A I fp [I] n P St) (hIo : ∀ i h, St i h → ∃ o, h.get? I = some o ∧ ¬ Flat o)
    (hSt : ∀ i h h' o nw, St i h → h.get? I = some o → h'.get? I = some o → (∀ b o, h₀.get? b = some o → h'.get? b = some o) → News h₀ env.locals h' nw → S nw → St i h')
    (hgo : ∀ i (s' : Shared) v (Q' : Unit → Shared → Prop), P i v → St (i + 1) s'.heap → Q' () s' → wpAny (model prog w) A (letOwnedTupleGo target (.ref I) v) Q' E s')
    (hLI : env.locals ≠ I) (hI₀ : h₀.get? I = none) (hst : St 0 s.heap) (F : Fr h₀ env.locals s.heap m) (N : News h₀ env.locals s.heap news) (hP : PlainL news) (hS : S news)
    (J : Nat → (Str → Option Value) → List (Addr × Obj) → Prop) (h0 : J 0 m news)
    (turn : ∀ i v m₁ nx oI h tk, i < n → P i v → J i m₁ nx → PlainL nx → S nx → (∀ p ∈ nx, p.1 ≠ I) → Fr h₀ env.locals h m₁ → News h₀ env.locals h ((I, oI) :: nx) →
      wpAny (model prog w) A (assign target env v) (fun _ s₃ => wpAny (model prog w) A (execs body env) (LoopEnd h₀ env.locals I oI S (J (i + 1)) { s with heap := h, toks := tk }) E s₃) E { s with heap := h, toks := tk })
    (done : ∀ h' tk m' nx, Fr h₀ env.locals h' m' → News h₀ env.locals h' nx → PlainL nx → S nx → J n m' nx → Q .next { s with heap := h', toks := tk })
    (hE : PassesOwn (model prog w) A env E) :
    codeAny (model prog w) A (.forLoop target (.ref I) body [] env) (fun r s' => match r with | .ok f => Q f s' | .error e => cameBackBy (model prog w) A env E e s') s := by
  refine codeAny_forLoop_any (fun k s' => ∃ h' tk i m' nx, s' = { s with heap := h', toks := tk } ∧ St i h' ∧ Fr h₀ env.locals h' m' ∧ News h₀ env.locals h' nx ∧ PlainL nx ∧ S nx ∧ J i m' nx ∧ i ≤ n ∧ k = n + 1 - i) ?_ (n + 1)
    ⟨s.heap, s.toks, 0, m, news, rfl, hst, F, N, hP, hS, h0, Nat.zero_le _, rfl⟩
  rintro k s' ⟨h', tk, i, m', nx, rfl, hst', F', N', hP', hS', hJ, hi, rfl⟩
  obtain ⟨o₁, ho₁, hc₁⟩ := hIo _ _ hst'
  have off : ∀ p ∈ nx, p.1 ≠ I := fun p hp e => by
    have := (N' p hp).1
    rw [e, ho₁] at this
    exact hc₁ (by rw [Option.some.inj this]; exact hP' p hp)
  by_cases hlt : i < n
  · refine W.item i _ _ _ hlt hst' fun v h₂ tk₂ hPv hst₂ hk₂ => ?_
    have F₂ := fr_but F' hk₂ hLI hI₀
    have N₂ := news_but N' hk₂ off
    obtain ⟨oI, heI, _⟩ := hIo _ _ hst₂
    have N₃ : News h₀ env.locals h₂ ((I, oI) :: nx) := fun p hp => by
      rcases List.mem_cons.mp hp with rfl | hp
      · exact ⟨heI, Ne.symm hLI, hI₀⟩
      · exact N₂ p hp
    refine wpAny_passesOwn hE (hgo i _ v _ hPv hst₂ ?_)
    refine wpAny_passesOwn hE (wpAny_mono (turn i v m' nx oI h₂ tk₂ hlt hPv hJ hP' hS' off F₂ N₃) (fun _ s₃ h₃ => wpAny_passesOwn hE (wpAny_mono h₃ (fun f s₄ h₄ => ?_) fun _ _ e => e)) fun _ _ e => e)
    obtain ⟨hf, h₄', tk₄, m₄, nx₄, all, rfl, F₄, N₄, sub, hP₄, hS₄, hJ₄⟩ := h₄
    have N₄' : News h₀ env.locals h₄' nx₄ := fun p hp => N₄ p (sub p (List.mem_cons_of_mem _ hp))
    have zI := (N₄ _ (sub (I, oI) List.mem_cons_self)).1
    have key : ∃ q, q < n + 1 - i ∧ ∃ h' tk i m' nx, ({ s with heap := h₄', toks := tk₄ } : Shared) = { s with heap := h', toks := tk } ∧ St i h' ∧ Fr h₀ env.locals h' m' ∧ News h₀ env.locals h' nx ∧ PlainL nx ∧ S nx ∧ J i m' nx ∧ i ≤ n ∧ q = n + 1 - i :=
      ⟨n + 1 - (i + 1), by omega, h₄', tk₄, i + 1, m₄, nx₄, rfl, hSt _ _ _ _ _ hst₂ heI zI F₄.keep N₄' hS₄, F₄, N₄', hP₄, hS₄, hJ₄, hlt, rfl⟩
    rcases hf with rfl | rfl
    · exact key
    · exact key
  · have hin : i = n := by omega
    subst hin
    refine W.done _ _ _ hst' fun h₁ tk₁ hk₁ => wpAny_execs_nil ?_
    exact done h₁ tk₁ m' nx (fr_but F' hk₁ hLI hI₀) (news_but N' hk₁ off) hP' hS' hJ
theorem flat_iter {t : String} (h1 : t ≠ "list") (h2 : t ≠ "tuple") {o : Obj} (h : o.cls = .type t) : ¬ Flat o := by
  rintro (e | e)
  · rw [h] at e; exact h1 (Value.type.inj e)
  · rw [h] at e; exact h2 (Value.type.inj e)
/-- what the target of a loop has to be, for the values that come -/
def GoesL (target : Expr) (its : Array Value) : Prop := (∃ x p, target = PySem.Expr.Name x p) ∨ ((∃ es k p, target = PySem.Expr.Tuple es k p) ∧ ∀ (i : Nat) (v : Value), its[i]? = some v → ∃ T : Addr, v = Value.ref T)
theorem for_list {target : Expr} {body : List Stmt} {ax : Addr} {its : Array Value} {m : Str → Option Value} {news : List (Addr × Obj)} (hh : A.handled = none)
    (F : Fr h₀ env.locals s.heap m) (N : News h₀ env.locals s.heap news) (hP : PlainL news) (hS : SrcAt h₀ ax its news) (hg : GoesL target its)
    (J : Nat → (Str → Option Value) → List (Addr × Obj) → Prop) (h0 : J 0 m news)
    (turn : ∀ i v m₁ nx I oI h tk, i < its.size → its[i]? = some v → J i m₁ nx → PlainL nx → SrcAt h₀ ax its nx → (∀ p ∈ nx, p.1 ≠ I) → Fr h₀ env.locals h m₁ → News h₀ env.locals h ((I, oI) :: nx) →
      wpAny (model prog w) A (assign target env v) (fun _ s₃ => wpAny (model prog w) A (execs body env) (LoopEnd h₀ env.locals I oI (SrcAt h₀ ax its) (J (i + 1)) { s with heap := h, toks := tk }) E s₃) E { s with heap := h, toks := tk })
    (done : ∀ h' tk m' nx, Fr h₀ env.locals h' m' → News h₀ env.locals h' nx → PlainL nx → SrcAt h₀ ax its nx → J its.size m' nx → Q .next { s with heap := h', toks := tk })
    (hE : PassesOwn (model prog w) A env E) :
    wpAny (model prog w) A (pyIter (.ref ax)) (fun it s₂ => codeAny (model prog w) A (.forLoop target it body [] env) (fun r s' => match r with | .ok f => Q f s' | .error e => cameBackBy (model prog w) A env E e s') s₂) E s := by
  have hl := hS.list F.keep N
  have hlt : ax < s.heap.objs.size := by obtain ⟨_, e, _⟩ := hl; exact Heap.lt_size e
  have up : ∀ b o, s.heap.get? b = some o → (s.heap.push { cls := .type "list_iterator", data := .fields #[.ref ax, .int 0 0] }).get? b = some o := fun b o e => Heap.get?_push_of_some _ e
  refine wpAny_pyIter_list hl ?_
  refine for_core (S := SrcAt h₀ ax its) (Walks.list hh s.heap.objs.size ax (Nat.ne_of_lt hlt) its) (fun i h st => by obtain ⟨o, e, hc, _⟩ := st.1; exact ⟨o, e, flat_iter (by decide) (by decide) hc⟩) list_st ?_ (Nat.ne_of_lt F.ns.lt) (next_is_new F)
    ⟨⟨_, Heap.get?_push_size _ rfl, rfl, rfl⟩, hl.push _⟩ (F.keeps up) (N.grown up) hP hS J h0 (fun i v m₁ nx oI h tk a b c d e f g k => turn i v m₁ nx _ oI h tk a b c d e f g k) done hE
  intro i s' v Q' hv st hq
  rcases hg with ⟨x, p, rfl⟩ | ⟨⟨es, k, p, rfl⟩, hr⟩
  · exact wpAny_of_eq rfl hq
  · obtain ⟨T, rfl⟩ := hr i v hv
    exact wpAny_letOwnedTupleGo_listiter st.1 hq
theorem for_str {x : Str} {px : Pos} {body : List Stmt} {z : PySem.Str} {t : Tok} {m : Str → Option Value} {news : List (Addr × Obj)} (hh : A.handled = none)
    (F : Fr h₀ env.locals s.heap m) (N : News h₀ env.locals s.heap news) (hP : PlainL news)
    (J : Nat → (Str → Option Value) → List (Addr × Obj) → Prop) (h0 : J 0 m news)
    (turn : ∀ i v m₁ nx I oI h tk, i < z.cps.size → SignAt z i v → J i m₁ nx → PlainL nx → (∀ p ∈ nx, p.1 ≠ I) → Fr h₀ env.locals h m₁ → News h₀ env.locals h ((I, oI) :: nx) →
      wpAny (model prog w) A (assign (.Name x px) env v) (fun _ s₃ => wpAny (model prog w) A (execs body env) (LoopEnd h₀ env.locals I oI (fun _ => True) (J (i + 1)) { s with heap := h, toks := tk }) E s₃) E { s with heap := h, toks := tk })
    (done : ∀ h' tk m' nx, Fr h₀ env.locals h' m' → News h₀ env.locals h' nx → PlainL nx → J z.cps.size m' nx → Q .next { s with heap := h', toks := tk })
    (hE : PassesOwn (model prog w) A env E) :
    wpAny (model prog w) A (pyIter (.str z t)) (fun it s₂ => codeAny (model prog w) A (.forLoop (.Name x px) it body [] env) (fun r s' => match r with | .ok f => Q f s' | .error e => cameBackBy (model prog w) A env E e s') s₂) E s := by
  have stt : ∀ (ty : String) (I : Addr), ∀ i (h h' : Heap) (o : Obj) (nw : List (Addr × Obj)), h.IsStrIter I ty z t i → h.get? I = some o → h'.get? I = some o → (∀ b o, h₀.get? b = some o → h'.get? b = some o) → News h₀ env.locals h' nw → True → h'.IsStrIter I ty z t i :=
    fun ty I i h h' o nw st e e' _ _ _ => by obtain ⟨o', q, r⟩ := st; rw [e] at q; cases q; exact ⟨o, e', r⟩
  cases ha : z.cps.all (· < 128)
  · refine wpAny_pyIter_wide ha ?_
    refine for_core (S := fun _ => True) (Walks.strWide hh s.heap.objs.size z t) (fun i h st => by obtain ⟨o, e, hc, _⟩ := st; exact ⟨o, e, flat_iter (by decide) (by decide) hc⟩) (stt _ _) (fun i s' v Q' _ _ hq => wpAny_of_eq rfl hq) (Nat.ne_of_lt F.ns.lt) (next_is_new F)
      ⟨_, Heap.get?_push_size _ rfl, rfl, rfl⟩ (F.keeps fun b o e => Heap.get?_push_of_some _ e) (N.grown fun b o e => Heap.get?_push_of_some _ e) hP trivial J h0 (fun i v m₁ nx oI h tk a b c d e f g k => turn i v m₁ nx _ oI h tk a b c d f g k) (fun h' tk m' nx a b c _ d => done h' tk m' nx a b c d) hE
  · refine wpAny_pyIter_ascii ha ?_
    refine for_core (S := fun _ => True) (Walks.strAscii hh s.heap.objs.size z t) (fun i h st => by obtain ⟨o, e, hc, _⟩ := st; exact ⟨o, e, flat_iter (by decide) (by decide) hc⟩) (stt _ _) (fun i s' v Q' _ _ hq => wpAny_of_eq rfl hq) (Nat.ne_of_lt F.ns.lt) (next_is_new F)
      ⟨_, Heap.get?_push_size _ rfl, rfl, rfl⟩ (F.keeps fun b o e => Heap.get?_push_of_some _ e) (N.grown fun b o e => Heap.get?_push_of_some _ e) hP trivial J h0 (fun i v m₁ nx oI h tk a b c d e f g k => turn i v m₁ nx _ oI h tk a b c d f g k) (fun h' tk m' nx a b c _ d => done h' tk m' nx a b c d) hE
end
section
variable {prog : Program} {w : World} {A : Around} {E : Value → Shared → Prop} {s : Shared} {env : Env} {h₀ : Heap} {L : Addr} {m : Str → Option Value}
/-- what a comprehension over a text needs behind its text -/
def CompTxt (prog : Program) (w : World) (A : Around) (h₀ : Heap) (L : Addr) (m : Str → Option Value) (env : Env) (elt : Expr) (x : Str) (scope : Scope) (cl : List (Str × Addr)) (Q : Value → Shared → Prop) (xv : Value) (s₁ : Shared) : Prop :=
  ∃ z t news, xv = .str z t ∧ A.handled = none ∧ Fr h₀ L s₁.heap m ∧ News h₀ L s₁.heap news ∧ z.cps.size ≤ sizeLine ∧
    ∀ g, CompRest prog w A h₀ L m env elt x scope cl { s₁ with heap := g } (fun _ => True) (SignAt z) (FinE h₀ L m { s₁ with heap := g } Q) z.cps.size 0 [] news
theorem comp_text {elt iter : Expr} {x : Str} {px : Pos} {scope : Scope} {cl : List (Str × Addr)} {pos : Pos} {Q : Value → Shared → Prop} (_F₀ : Fr h₀ L s.heap m)
    (hclos : closureFor scope env = pure cl) (hcell : ∀ y ∈ scope.names, y.2 ≠ .cell) (hkind : scope.kind = .function)
    (hnames : ∀ y ∈ scope.names, y.2 = .local → scope.names.lookup y.1 = some .local) (hx : scope.names.lookup x = some .local)
    (h : wpAny (model prog w) A (eval iter env) (CompTxt prog w A h₀ L m env elt x scope cl Q) E s)
    (hs : ∀ x, foldedSetIterable iter env x = pure x := by intro _; rfl) :
    wpAny (model prog w) A (eval (.ListComp elt [⟨.Name x px, iter, [], 0⟩] scope pos) env) Q E s := by
  rw [eval_ListComp]
  refine wpAny_comprehension_free (use := none) rfl hs hclos hkind hnames (wpAny_mono h (fun xv s₁ h₁ => ?_) fun _ _ e => e)
  obtain ⟨z, t, news, rfl, hh, F, N, hsz, R⟩ := h₁
  have stt : ∀ (ty : String) (I : Addr), ∀ i (h h' : Heap) (o : Obj) (nw : List (Addr × Obj)), h.IsStrIter I ty z t i → h.get? I = some o → h'.get? I = some o → (∀ b o, h₀.get? b = some o → h'.get? b = some o) → News h₀ L h' nw → True → h'.IsStrIter I ty z t i :=
    fun ty I i h h' o nw st e e' _ _ _ => by obtain ⟨o', q, r⟩ := st; rw [e] at q; cases q; exact ⟨o, e', r⟩
  have fin : ∀ (s₂ : Shared) D C h tk m' ys news', (∃ g, s₂ = { s₁ with heap := g }) → Fr h₀ L h m → News h₀ L h ((D, lst ys) :: news') → Off1 D news' → h.Ns C m' → h₀.get? C = none → h₀.get? D = none → C ≠ L → D ≠ L → C ≠ D → (∀ p ∈ news', p.1 ≠ C) → FinE h₀ L m s₂ Q ys news' →
      compPost (model prog w) A E none Q (.ref D) C (.ok .next) { s₂ with heap := h, toks := tk } := by
    intro s₂ D C h tk m' ys news' _ F' N' o1 hn hC₀ hD₀ hCL hDL hCD offC fin
    refine ⟨m', hn, fun h'' hs'' => fin D h'' tk (F'.change hs'' hCL hC₀) (fun p hp => ?_) o1⟩
    refine ⟨hs''.extBut _ _ ?_ (N' p hp).1, (N' p hp).2⟩
    rcases List.mem_cons.mp hp with rfl | hp
    · exact Ne.symm hCD
    · exact offC p hp
  have hfp : ∀ (o : Obj) (b : Addr), b ∈ [s₁.heap.objs.size] → b < (s₁.heap.push o).objs.size := by
    intro o b hb
    rw [List.mem_singleton.mp hb, Heap.size_push]
    exact Nat.lt_succ_self _
  cases ha : z.cps.all (· < 128)
  · refine wpAny_pyIter_wide ha ?_
    exact block_U (S := fun _ => True) (Walks.strWide hh s₁.heap.objs.size z t) hsz (fun i h st => by obtain ⟨o, e, _⟩ := st; exact ⟨o, e⟩) (stt _ _) hcell hkind hx ⟨_, Heap.get?_push_size _ rfl, rfl, rfl⟩ (fun b hb => hfp _ b hb)
      (F.keeps fun _ _ e => Heap.get?_push_of_some _ e) (N.grown fun _ _ e => Heap.get?_push_of_some _ e) (Nat.ne_of_lt F.ns.lt) (next_is_new F) (fun p hp => Nat.ne_of_lt (Heap.lt_size (N p hp).1)) trivial (R _)
      (fun D C h tk m' ys news' => fin _ D C h tk m' ys news' ⟨_, rfl⟩)
  · refine wpAny_pyIter_ascii ha ?_
    exact block_U (S := fun _ => True) (Walks.strAscii hh s₁.heap.objs.size z t) hsz (fun i h st => by obtain ⟨o, e, _⟩ := st; exact ⟨o, e⟩) (stt _ _) hcell hkind hx ⟨_, Heap.get?_push_size _ rfl, rfl, rfl⟩ (fun b hb => hfp _ b hb)
      (F.keeps fun _ _ e => Heap.get?_push_of_some _ e) (N.grown fun _ _ e => Heap.get?_push_of_some _ e) (Nat.ne_of_lt F.ns.lt) (next_is_new F) (fun p hp => Nat.ne_of_lt (Heap.lt_size (N p hp).1)) trivial (R _)
      (fun D C h tk m' ys news' => fin _ D C h tk m' ys news' ⟨_, rfl⟩)
/-- what stands behind one element of a comprehension -/
def TurnEnd (h₀ : Heap) (L : Addr) (m : Str → Option Value) (s : Shared) (led : List (Addr × Obj)) (K : Value → Prop) (y : Value) (s₂ : Shared) : Prop :=
  ∃ h' tk', s₂ = { s with heap := h', toks := tk' } ∧ Fr h₀ L h' m ∧ News h₀ L h' led ∧ K y
/-- the turns of a comprehension whose elements are plain values: K tells which value stands for which item -/
theorem comp_turns {elt : Expr} {x : Str} {scope : Scope} {cl : List (Str × Addr)} {s : Shared} {S : List (Addr × Obj) → Prop} {P : Nat → Value → Prop} {Fin : List Value → List (Addr × Obj) → Prop} {n : Nat} {news : List (Addr × Obj)} (K : Nat → Value → Prop)
    (turn : ∀ i v I oI C oC D m₂ ys h tk (E' : Value → Shared → Prop), i < n → P i v → NsObj oC m₂ → m₂ x = some v → Fr h₀ L h m → News h₀ L h ((I, oI) :: (C, oC) :: (D, lst ys) :: news) →
      wpAny (model prog w) A (eval elt (compEnvC scope cl C env)) (TurnEnd h₀ L m s ((I, oI) :: (C, oC) :: (D, lst ys) :: news) (K i)) E' { s with heap := h, toks := tk })
    (hS : S news) (fin : ∀ ys : List Value, ys.length = n → (∀ i y, ys[i]? = some y → K i y) → Fin ys news) : CompRest prog w A h₀ L m env elt x scope cl s S P Fin n 0 [] news := by
  have key : ∀ (j i : Nat) (ys : List Value), i + j = n → ys.length = i → (∀ i y, ys[i]? = some y → K i y) → CompRest prog w A h₀ L m env elt x scope cl s S P Fin j i ys news := by
    intro j
    induction j with
    | zero =>
      intro i ys hi hl hk
      exact CompRest.zero (fin ys (by omega) hk)
    | succ j ih =>
      intro i ys hi hl hk
      refine CompRest.succ ?_
      intro v I oI C oC D m₂ h tk E' hv hC hx F N off ne
      refine wpAny_mono (turn i v I oI C oC D m₂ ys h tk E' (by omega) hv hC hx F N) (fun y s₂ hq => ?_) fun _ _ e => e
      obtain ⟨h', tk', e, F', N', hK⟩ := hq
      refine ⟨h', tk', news, e, F', N', off, hS, ih (i + 1) _ (by omega) (by rw [List.length_append, hl]; rfl) ?_⟩
      intro k z hz
      by_cases hlt : k < ys.length
      · rw [List.getElem?_append_left hlt] at hz
        exact hk k z hz
      · have hkl : k < (ys ++ [y]).length := by
          obtain ⟨h', _⟩ := List.getElem?_eq_some_iff.mp hz
          exact h'
        rw [List.length_append, List.length_singleton] at hkl
        have hke : k = ys.length := by omega
        rw [hke, List.getElem?_concat_length] at hz
        cases hz
        rw [hke, hl]
        exact hK
  exact key n 0 [] (by omega) rfl (fun i y h => by simp at h)
end
theorem fr_know {h₀ h : Heap} {L : Addr} {m : Str → Option Value} {x : Str} {v : Value} (F : Fr h₀ L h m) (e : m x = some v) : Fr h₀ L h (fun y => if y = x then some v else m y) := by
  have : (fun y => if y = x then some v else m y) = m := by
    funext y
    by_cases hy : y = x
    · rw [if_pos hy, hy, e]
    · rw [if_neg hy]
  rw [this]
  exact F
end Mine
end
section
open PySem PySem.W PySem.Calls PyProof.Rows
set_option Elab.async false
set_option maxRecDepth 100000
set_option maxHeartbeats 8000000
namespace Mine

local macro_rules | `(tactic| walk_at "call type:type") => `(tactic| ((with_reducible show wpAny _ _ (call (Value.type "type") [Value.bytes _ _]) _ _ _); refine call_type_of (typeIs_bytes _ _ _) (by decide) ?_))
local macro_rules | `(tactic| walk_at "call builtin:issubclass") => `(tactic| (k_here; k_dflt (first | refine' issub_pair ?k1 ty_str sub_ss F.sub_str_bytes ?_ | refine' issub_pair ?k1 ty_bytes sub_bs sub_bb ?_); (case k1 => exact News.get (by k_asm) (by k_mem)); k_whole))
local macro_rules | `(tactic| walk_at "call ref") => `(tactic| (k_here; k_dflt (refine' does_use (fspath_bytes _ _ ) ?k1 ?k2 ?k3 ?k4 ?k5 ?kK ?kR ?kd ?ku ?_; (case k1 => k_asm); (case k2 => k_asm); (case k3 => k_asm); (case k4 => k_asm); (case k5 => k_asm); (case kK => first | exact rfl | assumption); (case kR => first | exact trivial | assumption); (case kd => ktr_room); (case ku => ktr_units); k_whole); intro r9 led9 h9 tk9 F9 N9 ho9; obtain ⟨e9, ho9⟩ := ho9; subst e9; first | subst ho9 | (obtain ⟨t9, e9⟩ := ho9; subst e9)))
local macro_rules | `(tactic| walk_at "call ref") => `(tactic| (k_here; k_dflt (refine' does_use (base_bytes _ _ _ _ ?hz) ?k1 ?k2 ?k3 ?k4 ?k5 ?kK ?kR ?kd ?ku ?_; (case hz => omega); (case k1 => k_asm); (case k2 => k_asm); (case k3 => k_asm); (case k4 => k_asm); (case k5 => k_asm); (case kK => first | exact rfl | assumption); (case kR => first | exact trivial | assumption); (case kd => ktr_room); (case ku => ktr_units); k_whole); intro r9 led9 h9 tk9 F9 N9 ho9; obtain ⟨a9, y9, z9, e9, l9, e8, y8, t8, z8, u8, ey8, ez8, e7, e6⟩ := ho9; subst e9; subst e8; subst ey8; subst ez8))

local macro_rules | `(tactic| walk_at "eval ListComp") => `(tactic| (k_here; k_dflt (refine comp_text (by k_asm) (by with_unfolding_all rfl) (by decide) (by rfl) (by decide) (by rfl) ?_)))
theorem ints_of : ∀ (l : List Nat) (ys : List Value), ys.length = l.length → (∀ (i : Nat) (y : Value), ys[i]? = some y → ∃ c t, l[i]? = some c ∧ y = Value.int (c : Int) t) → IntsAre ys (l.map fun (c : Nat) => (c : Int))
  | [], ys, hl, _ => by rw [List.length_eq_zero_iff.mp hl]; exact .nil
  | c :: l, ys, hl, h => by
    match ys, hl with
    | y :: ys, hl =>
      obtain ⟨c', t, e, rfl⟩ := h 0 y rfl
      cases e
      exact .cons _ _ (ints_of l ys (by simpa using hl) fun i y e => h (i + 1) y e)
theorem ints_in {l : List Nat} (h : ∀ c ∈ l, c < 256) : KBa.In (l.map fun (c : Nat) => (c : Int)) := by
  intro n hn
  obtain ⟨c, hc, rfl⟩ := List.mem_map.mp hn
  have := h c hc
  omega
theorem ints_arr (l : List Nat) : byteArr (l.map fun (c : Nat) => (c : Int)) = (l.map (·.toUInt8)).toArray := by
  unfold byteArr
  rw [List.map_map]
  rfl
theorem ext_bytes (x : Array UInt8) (t : Tok) (hz : x.size ≤ 40000) : Does 146 [.bytes x t] 2 (fun _ => True) (OkP fun y z => ∃ yr t ye u, y = .bytes yr t ∧ z = .bytes ye u ∧ ye.toList = extOf 47 46 x.toList ∧ yr.toList = x.toList.take (x.toList.length - (extOf 47 46 x.toList).length)) := by
  unfold Does
  k_fill
  intro w loose mean mg mb dp un gd cn cs a ccd cl outer A₀ base h₀ L m news s Q E B F X N T hk hpre hd hu hret
  refine wpAny_call ?_
  k_dflt ktr_enter
  k_steps

  all_goals exact hret _ _ _ _ (by k_asm) (by k_asm) ⟨_, _, _, rfl, by assumption, rfl, _, _, _, _, rfl, rfl, by assumption, by assumption⟩
local macro_rules | `(tactic| walk_at "call type:bytes") => `(tactic| (k_here; k_dflt (refine' KBa.make_K (ns := _) ?f ?n ?h ?l ?i ?r ?nn ?_; (case f => k_asm); (case n => k_asm); (case h => rfl); (case l => exact ⟨_, (News.get (by k_asm) (by k_mem)), rfl, _, rfl⟩); (case i => assumption); (case r => assumption); (case nn => assumption)); intro h9 t9 k9 F9 N9 i9))
theorem octets (x : Str) (t : Tok) (hz : x.length ≤ 40000) (hx : ∀ c ∈ x.cps.toList, c < 256) : Does 190 [.str x t] 1 (fun _ => True) (OkV fun r => ∃ t, r = .bytes (x.cps.toList.map (·.toUInt8)).toArray t) := by
  unfold Does
  k_fill
  intro w loose mean mg mb dp un gd cn cs a ccd cl outer A₀ base h₀ L m news s Q E B F X N T hk hpre hd hu hret
  refine wpAny_call ?_
  k_dflt ktr_enter
  k_steps

  refine ⟨_, _, _, rfl, rfl, by k_asm, by k_asm, Nat.le_trans (show x.cps.size ≤ 40000 from hz) (by rw [sizeLine_eq]; decide), fun g => ?_⟩
  refine comp_turns (fun i y => ∃ c t, x.cps.toList[i]? = some c ∧ y = Value.int (c : Int) t) ?_ trivial ?_
  · intro i v I oI C oC D m₂ ys h tk E' hi hv hC hm kF kN
    obtain ⟨c, u, hc, rfl⟩ := hv
    k_steps
    exact ⟨_, _, rfl, by k_asm, by k_asm, c, _, by rw [Array.getElem?_toList]; exact hc, rfl⟩
  · intro ys hl hk D h tk kF kN ho
    have hi := ints_of x.cps.toList ys (by rw [hl]; simp) hk
    have hr := ints_in hx
    have hz' : (x.cps.toList.map fun (c : Nat) => (c : Int)).length ≤ 16777216 := by
      rw [List.length_map]
      have : x.cps.toList.length = x.length := len_list x
      omega
    k_steps
    rw [ints_arr]
    exact hret _ _ _ _ (by k_asm) (news_d1 (by k_asm)) ⟨rfl, _, rfl⟩
end Mine
end
section
open PySem PySem.W PySem.Calls PyProof.Rows
set_option Elab.async false
set_option maxRecDepth 100000
namespace Mine
theorem know {m m' : PySem.Str → Option Value} {x : PySem.Str} {v : Value} (e : m x = some v) (h : m' = m) : (fun y => if y = x then some v else m' y) = m := by
  subst h
  funext y
  by_cases hy : y = x
  · rw [if_pos hy, hy, e]
  · rw [if_neg hy]
theorem fr_of {h₀ h : Heap} {L : Addr} {m m' : PySem.Str → Option Value} (F : Fr h₀ L h m) (e : m' = m) : Fr h₀ L h m' := e ▸ F
/-- one part as data, over texts -/
def datS (p : Pt Nat) : Dat := .tuple [.str ⟨p.1.toArray⟩, .tuple [.str ⟨p.2.1.toArray⟩, .str ⟨p.2.2.toArray⟩]]
/-- one part as data, over octets -/
def datB (p : Pt UInt8) : Dat := .tuple [.bytes p.1.toArray, .tuple [.bytes p.2.1.toArray, .bytes p.2.2.toArray]]
theorem str_at {z : PySem.Str} {l : List Nat} (h : z.cps.toList = l) : (⟨l.toArray⟩ : PySem.Str) = z := by
  subst h
  rfl
theorem arr_at {z : Array UInt8} {l : List UInt8} (h : z.toList = l) : l.toArray = z := by
  subst h
  rfl
theorem dat_partS {tl : List (Addr × Obj)} {D sp : Addr} {n1 n2 : Nat} {e h z : PySem.Str} {t1 t2 t3 : Tok} {p : Pt Nat} (m1 : (D, ({ cls := .type "tuple", data := .seq #[.str e t1, .ref sp] n1 } : Obj)) ∈ tl) (m2 : (sp, ({ cls := .type "tuple", data := .seq #[.str h t2, .str z t3] n2 } : Obj)) ∈ tl)
    (he : e.cps.toList = p.1) (hh : h.cps.toList = p.2.1) (hz : z.cps.toList = p.2.2) : DatIn tl (.ref D) (datS p) := by
  unfold datS
  rw [str_at he, str_at hh, str_at hz]
  exact .tuple m1 (.cons (.str _ _) (.cons (.tuple m2 (.cons (.str _ _) (.cons (.str _ _) .nil))) .nil))
theorem dat_partB {tl : List (Addr × Obj)} {D sp : Addr} {n1 n2 : Nat} {e h z : Array UInt8} {t1 t2 t3 : Tok} {p : Pt UInt8} (m1 : (D, ({ cls := .type "tuple", data := .seq #[.bytes e t1, .ref sp] n1 } : Obj)) ∈ tl) (m2 : (sp, ({ cls := .type "tuple", data := .seq #[.bytes h t2, .bytes z t3] n2 } : Obj)) ∈ tl)
    (he : e.toList = p.1) (hh : h.toList = p.2.1) (hz : z.toList = p.2.2) : DatIn tl (.ref D) (datB p) := by
  unfold datB
  rw [arr_at he, arr_at hh, arr_at hz]
  exact .tuple m1 (.cons (.bytes _ _) (.cons (.tuple m2 (.cons (.bytes _ _) (.cons (.bytes _ _) .nil))) .nil))
/-- a new list of data -/
def OkL (ds : List Dat) (news led : List (Addr × Obj)) (r : Value) : Prop := ∃ a vs k tl, led = (a, listOf (List.toArray vs) k) :: tl ∧ (∀ p ∈ news, p ∈ tl) ∧ (PlainL news → PlainL tl) ∧ DatAll tl vs ds ∧ r = .ref a
theorem npS_le {α : Type} [DecidableEq α] (sl dt : α) : ∀ (l : List α) (s : Nat), npS sl dt s l ≤ l.length
  | [], s => by unfold npS; exact Nat.le_refl _
  | c :: l, s => by
    unfold npS
    have := npS_le sl dt l (nst sl dt s c)
    rw [List.length_cons]
    split <;> omega
theorem pts_le {α : Type} [DecidableEq α] (sl dt : α) (l : List α) : (pts sl dt l).length ≤ l.length := by
  rw [pts_len]
  exact npS_le sl dt l 0
theorem rest_le {α : Type} [DecidableEq α] {sl dt : α} {a l : List α} {rest : List (Pt α)} (h : pts sl dt a ++ rest = pts sl dt l) : rest.length ≤ l.length := by
  have := congrArg List.length h
  rw [List.length_append] at this
  have := pts_le sl dt l
  omega
section
variable {prog : Program} {w : World} {A : Around} {E : Value → Shared → Prop} {s : Shared} {h₀ : Heap} {L a b : Addr} {m : PySem.Str → Option Value} {news : List (Addr × Obj)} {v : Value} {vs : List Value} {Q : Value → Shared → Prop}
theorem cons_L (F : Fr h₀ L s.heap m) (N : News h₀ L s.heap news) (ha : s.heap.IsList a #[v]) (hb : s.heap.IsList b vs.toArray) (hz : vs.length ≤ 1048576)
    (h : ∀ D h', Fr h₀ L h' m → News h₀ L h' ((D, listOf (List.toArray (v :: vs)) 0) :: news) → (∀ p ∈ news, p.1 < D) → Q (.ref D) { s with heap := h' }) :
    wpAny (model prog w) A (binaryOp .Add (.ref a) (.ref b)) Q E s :=
  kmk_add_lit (zs := v :: vs) F N ha hb (by simp) h (by rw [sizeLine_eq]; simp; omega)
end
theorem nil_of {x : PySem.Str} : (Txt.slice x none (some 0)).cps.toList = [] := by
  rw [slice_to (by omega)]
  rfl
theorem ne_nil {left x : PySem.Str} (h : (left != Txt.slice x none (some 0)) = true) : left.cps.toList ≠ [] := by
  have := str_ne.mp h
  rwa [nil_of] at this
theorem eq_nil {left x : PySem.Str} (h : (left != Txt.slice x none (some 0)) = false) : left.cps.toList = [] := by
  by_cases q : left.cps.toList = []
  · exact q
  · rw [str_ne.mpr (by rw [nil_of]; exact q)] at h
    cases h
theorem eq_nil' {e x : PySem.Str} (h : (e == Txt.slice x none (some 0)) = true) : e.cps.toList = [] := by
  have := str_eq.mp h
  rwa [nil_of] at this
theorem ne_nil' {e x : PySem.Str} (h : (e == Txt.slice x none (some 0)) = false) : e.cps.toList ≠ [] := by
  intro q
  rw [str_eq.mpr (by rw [nil_of]; exact q)] at h
  cases h
theorem tail_le {z x : PySem.Str} (h : z.cps.toList = tailOf 47 x.cps.toList) : z.length ≤ x.length := by
  have h1 := congrArg List.length h
  have h2 := congrArg List.length (upTo_tail 47 x.cps.toList)
  rw [List.length_append, len_list] at h2
  rw [len_list] at h1
  omega
theorem extOf_le {α : Type} [DecidableEq α] (sl dt : α) (l : List α) : (extOf sl dt l).length ≤ l.length := by
  by_cases h : extOf sl dt l = []
  · rw [h]; exact Nat.zero_le _
  · have hl : l ≠ [] := by
      rintro rfl
      exact h rfl
    have := end_le sl dt l hl
    unfold endOf at this
    rwa [if_pos h] at this
theorem ext_le {z x : PySem.Str} (h : z.cps.toList = extOf 47 46 x.cps.toList) : z.length ≤ x.length := by
  have h1 := congrArg List.length h
  have h2 := extOf_le 47 46 x.cps.toList
  rw [len_list] at h1 h2
  omega
theorem take_le {z x : PySem.Str} {n : Nat} (h : z.cps.toList = x.cps.toList.take n) : z.length ≤ x.length := by
  have h1 := congrArg List.length h
  rw [len_list, List.length_take, len_list] at h1
  omega
section
variable {l : List Nat} {e z x left : PySem.Str} {rest : List (Pt Nat)}
theorem he_tail (h3 : (z.length : Int) ≠ 0) (h0 : e.cps.toList = extOf 47 46 l) (h1 : (e == Txt.slice x none (some 0)) = true) (h2 : z.cps.toList = tailOf 47 l) : z.cps.toList = endOf 47 46 l := by
  have h4 : tailOf 47 l ≠ [] := by
    intro q
    rw [q] at h2
    have := congrArg List.length h2
    rw [len_list] at this
    exact h3 (by rw [this]; rfl)
  unfold endOf
  rw [← h0, eq_nil' h1, if_neg (by simp), if_pos h4, h2]
theorem he_slash (h3 : (z.length : Int) = 0) (h0 : e.cps.toList = extOf 47 46 l) (h1 : (e == Txt.slice x none (some 0)) = true) (h2 : z.cps.toList = tailOf 47 l) : (PySem.Str.ofString "/").cps.toList = endOf 47 46 l := by
  have h4 : tailOf 47 l = [] := by
    rw [← h2]
    exact List.length_eq_zero_iff.mp (by rw [len_list]; omega)
  unfold endOf
  rw [← h0, eq_nil' h1, if_neg (by simp), h4, if_neg (by simp), lit_slash]
theorem he_ext (h0 : e.cps.toList = extOf 47 46 l) (h1 : (e == Txt.slice x none (some 0)) = false) : e.cps.toList = endOf 47 46 l := by
  unfold endOf
  rw [← h0, if_pos (ne_nil' h1)]
theorem root_slice {n : Int} (he : e.cps.toList = endOf 47 46 left.cps.toList) (hl : left.cps.toList ≠ []) (hn : n = (left.length : Int) - (e.length : Int)) : (Txt.slice left none (some n)).cps.toList = rootOf 47 46 left.cps.toList := by
  have h1 := end_le 47 46 _ hl
  rw [← he, len_list, len_list] at h1
  rw [slice_to (by omega)]
  unfold rootOf
  rw [← he, len_list, len_list]
  congr 1
  omega
theorem root_ext (he : e.cps.toList = endOf 47 46 left.cps.toList) (h0 : e.cps.toList = extOf 47 46 left.cps.toList) (h : z.cps.toList = left.cps.toList.take (left.cps.toList.length - (extOf 47 46 left.cps.toList).length)) : z.cps.toList = rootOf 47 46 left.cps.toList := by
  unfold rootOf
  rw [← he, h0, h]
end
theorem step_pts {α : Type} [DecidableEq α] {sl dt : α} {l : List α} {rest P : List (Pt α)} (hl : l ≠ []) (h : pts sl dt l ++ rest = P) : pts sl dt (rootOf sl dt l) ++ ((endOf sl dt l, (hdOf sl (upTo sl l), tailOf sl l)) :: rest) = P := by
  rw [← h, pts_cut sl dt l hl, List.append_assoc]
  rfl
theorem step_lt {α : Type} [DecidableEq α] {sl dt : α} {l : List α} (hl : l ≠ []) : (rootOf sl dt l).length < l.length := by
  have h1 := congrArg List.length (root_end sl dt l hl)
  have h2 : 0 < (endOf sl dt l).length := List.length_pos_iff.mpr (end_ne sl dt l)
  rw [List.length_append] at h1
  omega
theorem step_all {z left x : PySem.Str} {rest : List (Pt Nat)} (hl : left.cps.toList ≠ []) (h : pts 47 46 left.cps.toList ++ rest = pts 47 46 x.cps.toList) (hx : left.length ≤ x.length) (hz : z.cps.toList = rootOf 47 46 left.cps.toList) :
    z.length < left.length ∧ pts 47 46 z.cps.toList ++ ((endOf 47 46 left.cps.toList, (hdOf 47 (upTo 47 left.cps.toList), tailOf 47 left.cps.toList)) :: rest) = pts 47 46 x.cps.toList ∧ z.length ≤ x.length := by
  have h1 := step_lt (sl := 47) (dt := 46) hl
  rw [← hz, len_list, len_list] at h1
  exact ⟨h1, by rw [hz]; exact step_pts hl h, by omega⟩
end Mine
end
section
open PySem PySem.W PySem.Calls PyProof.Rows
set_option Elab.async false
set_option maxRecDepth 100000
namespace Mine
section
variable {news : List (Addr × Obj)} {v : Value} {vs : List Value} {d : Dat} {ds : List Dat}
theorem inv_tuple (h : DatIn news v (.tuple ds)) : ∃ a vs n, v = .ref a ∧ (a, ({ cls := .type "tuple", data := .seq (List.toArray vs) n } : Obj)) ∈ news ∧ DatAll news vs ds := by
  cases h with
  | tuple hm r => exact ⟨_, _, _, rfl, hm, r⟩
theorem inv_str {x : PySem.Str} (h : DatIn news v (.str x)) : ∃ t, v = .str x t := by
  cases h
  exact ⟨_, rfl⟩
theorem inv_bytes {x : Array UInt8} (h : DatIn news v (.bytes x)) : ∃ t, v = .bytes x t := by
  cases h
  exact ⟨_, rfl⟩
theorem inv_cons (h : DatAll news vs (d :: ds)) : ∃ u r, vs = u :: r ∧ DatIn news u d ∧ DatAll news r ds := by
  cases h with
  | cons a b => exact ⟨_, _, rfl, a, b⟩
theorem inv_nil (h : DatAll news vs []) : vs = [] := by
  cases h
  rfl
theorem inv_two {e : Dat} (h : DatAll news vs [d, e]) : ∃ u w, vs = [u, w] ∧ DatIn news u d ∧ DatIn news w e := by
  obtain ⟨u, r, rfl, h1, h⟩ := inv_cons h
  obtain ⟨w, r2, rfl, h2, h⟩ := inv_cons h
  exact ⟨u, w, by rw [inv_nil h], h1, h2⟩
end
end Mine
end
section
open PySem PySem.W PySem.Calls PyProof.Rows
set_option Elab.async false
set_option maxRecDepth 100000
set_option maxHeartbeats 8000000
namespace Mine
local macro_rules | `(tactic| walk_at "part W7 0") => `(tactic| skip)
local macro_rules | `(tactic| walk_at "part W7 1") => `(tactic| skip)
local macro_rules | `(tactic| walk_at "part W7 2") => `(tactic| skip)
local macro_rules | `(tactic| walk_at "part W7 3") => `(tactic| skip)
local macro_rules | `(tactic| walk_at "part W7 4") => `(tactic| skip)
local macro_rules | `(tactic| walk_at "part W7 5") => `(tactic| skip)
local macro_rules | `(tactic| walk_at "part W7 6") => `(tactic| skip)

local macro_rules | `(tactic| walk_at "call type:type") => `(tactic| ((with_reducible show wpAny _ _ (call (Value.type "type") [Value.bytes _ _]) _ _ _); refine call_type_of (typeIs_bytes _ _ _) (by decide) ?_))
local macro_rules | `(tactic| walk_at "call builtin:issubclass") => `(tactic| (k_here; k_dflt (first | refine' issub_pair ?k1 ty_str sub_ss F.sub_str_bytes ?_ | refine' issub_pair ?k1 ty_bytes sub_bs sub_bb ?_); (case k1 => exact News.get (by k_asm) (by k_mem)); k_whole))

local macro_rules | `(tactic| walk_at "exec While") => `(tactic| refine halt ?_)
local macro_rules | `(tactic| walk_at "binaryOp Add ref ref") => `(tactic| (k_here; k_dflt (refine' cons_L ?k1 ?k2 ?k3 ?k4 ?k5 ?_; (case k1 => k_asm); (case k2 => k_asm); (case k3 => exact ⟨_, News.get (by k_asm) (by k_mem), rfl, _, rfl⟩); (case k4 => exact ⟨_, News.get (by k_asm) (by k_mem), rfl, _, rfl⟩); (case k5 => assumption)); intro D9 h9 F9 N9 l9))
local macro_rules | `(tactic| walk_at "call ref") => `(tactic| (k_here; k_dflt (refine' does_use (ext_str _ _ ?hz) ?k1 ?k2 ?k3 ?k4 ?k5 ?kK ?kR ?kd ?ku ?_; (case hz => omega); (case k1 => k_asm); (case k2 => k_asm); (case k3 => k_asm); (case k4 => k_asm); (case k5 => k_asm); (case kK => first | exact rfl | assumption); (case kR => first | exact trivial | assumption); (case kd => ktr_room); (case ku => ktr_units); k_whole); intro r9 led9 h9 tk9 F9 N9 ho9; obtain ⟨a9, y9, z9, e9, l9, e8, y8, t8, z8, u8, ey8, ez8, e7, e6⟩ := ho9; subst e9; subst e8; subst ey8; subst ez8; have q7 := ext_le e7; have q6 := take_le e6))
local macro_rules | `(tactic| walk_at "call ref") => `(tactic| (k_here; k_dflt (refine' does_use (split_str _ _ ?hz) ?k1 ?k2 ?k3 ?k4 ?k5 ?kK ?kR ?kd ?ku ?_; (case hz => omega); (case k1 => k_asm); (case k2 => k_asm); (case k3 => k_asm); (case k4 => k_asm); (case k5 => k_asm); (case kK => first | exact rfl | assumption); (case kR => first | exact trivial | assumption); (case kd => ktr_room); (case ku => ktr_units); k_whole); intro r9 led9 h9 tk9 F9 N9 ho9; obtain ⟨a9, y9, z9, e9, l9, e8, y8, t8, z8, u8, ey8, ez8, e7, e6⟩ := ho9; subst e9; subst e8; subst ey8; subst ez8; have q6 := tail_le e6))
theorem taken_str (x : Str) (t t1 : Tok) (hz : x.length ≤ 40000) : Does 197 [.str x t, .str (Str.ofString "/") t1] 3 (fun _ => True) (OkL ((pts 47 46 x.cps.toList).map datS)) := by
  unfold Does
  k_fill
  intro w loose mean mg mb dp un gd cn cs a ccd cl outer A₀ base h₀ L m news s Q E B F X N T hk hpre hd hu hret
  refine wpAny_call ?_
  k_dflt ktr_enter
  k_steps

  refine Halt.mk ?_
  refine While_inv2 (fun n m nx => ∃ (left : Str) (tl' : Tok) (a : Addr) (vs : List Value) (k : Nat) (rest : List (Pt Nat)) (tl : List (Addr × Obj)), left.length = n ∧ m (Str.ofString "left") = some (.str left tl') ∧ m (Str.ofString "parts") = some (.ref a) ∧ m (Str.ofString "mail") = some (.str x t) ∧ m (Str.ofString "slash") = some (.str (Str.ofString "/") t1) ∧ nx = (a, listOf (List.toArray vs) k) :: tl ∧ (∀ p ∈ news, p ∈ tl) ∧ (PlainL news → PlainL tl) ∧ DatAll tl vs (rest.map datS) ∧ pts 47 46 left.cps.toList ++ rest = pts 47 46 x.cps.toList ∧ left.length ≤ x.length) (n₀ := x.length) (by k_asm) (news_d1 (by k_asm)) ?_ ?_ (by passes_own)
  · exact ⟨x, t, _, [], _, [], news, rfl, rfl, rfl, rfl, rfl, rfl, fun _ h => h, fun h => h, .nil, List.append_nil _, Nat.le_refl _⟩
  · rintro n m₁ nx h tk F₁ N₁ ⟨left, tl', a, vs, k, rest, tl, rfl, e1, e2, e3, e4, rfl, sub, pl, dat, hp, hle⟩
    have F₂ := fr_of F₁ (know e1 (know e2 (know e3 (know e4 rfl))))
    clear F₁
    have hvs : vs.length ≤ 1048576 := by
      have h1 := dat.length
      rw [List.length_map] at h1
      have h2 := rest_le hp
      rw [len_list] at h2
      omega
    k_steps
    · have hl := ne_nil (show (left != Txt.slice x none (some 0)) = true by assumption)
      unfold WhileStep2
      dsimp only
      refine ⟨_, _, _, _, _, rfl, by k_asm, by k_asm, ?lt, _, _, _, _, _, (endOf 47 46 left.cps.toList, (hdOf 47 (upTo 47 left.cps.toList), tailOf 47 left.cps.toList)) :: rest, _, rfl, rfl, rfl, rfl, rfl, rfl, ?sub, ?pl, ?dat, ?pts, ?le⟩
      case sub => intro q hq; repeat' (first | exact sub _ hq | refine List.mem_cons_of_mem _ ?_)
      case pl => intro hn; repeat' (first | exact pl hn | refine PlainL.cons (by first | exact .inl rfl | exact .inr rfl) ?_)
      case dat =>
        refine .cons ?_ (dat.mono fun q hq => by repeat' (first | exact hq | refine List.mem_cons_of_mem _ ?_))
        refine' dat_partS ?m1 ?m2 ?he ?hh ?hz
        case m1 => k_mem
        case m2 => k_mem
        case he => exact he_tail (by assumption) (by assumption) (by assumption) (by assumption)
        case hh => assumption
        case hz => assumption
      all_goals have hs := step_all hl hp hle (root_slice (he_tail (by assumption) (by assumption) (by assumption) (by assumption)) hl rfl)
      case lt => exact hs.1
      case pts => exact hs.2.1
      case le => exact hs.2.2
    · have hl := ne_nil (show (left != Txt.slice x none (some 0)) = true by assumption)
      unfold WhileStep2
      dsimp only
      refine ⟨_, _, _, _, _, rfl, by k_asm, by k_asm, ?lt, _, _, _, _, _, (endOf 47 46 left.cps.toList, (hdOf 47 (upTo 47 left.cps.toList), tailOf 47 left.cps.toList)) :: rest, _, rfl, rfl, rfl, rfl, rfl, rfl, ?sub, ?pl, ?dat, ?pts, ?le⟩
      case sub => intro q hq; repeat' (first | exact sub _ hq | refine List.mem_cons_of_mem _ ?_)
      case pl => intro hn; repeat' (first | exact pl hn | refine PlainL.cons (by first | exact .inl rfl | exact .inr rfl) ?_)
      case dat =>
        refine .cons ?_ (dat.mono fun q hq => by repeat' (first | exact hq | refine List.mem_cons_of_mem _ ?_))
        refine' dat_partS ?m1 ?m2 ?he ?hh ?hz
        case m1 => k_mem
        case m2 => k_mem
        case he => exact he_slash (by assumption) (by assumption) (by assumption) (by assumption)
        case hh => assumption
        case hz => assumption
      all_goals have hs := step_all hl hp hle (root_slice (he_slash (by assumption) (by assumption) (by assumption) (by assumption)) hl rfl)
      case lt => exact hs.1
      case pts => exact hs.2.1
      case le => exact hs.2.2
    · have hl := ne_nil (show (left != Txt.slice x none (some 0)) = true by assumption)
      unfold WhileStep2
      dsimp only
      refine ⟨_, _, _, _, _, rfl, by k_asm, by k_asm, ?lt, _, _, _, _, _, (endOf 47 46 left.cps.toList, (hdOf 47 (upTo 47 left.cps.toList), tailOf 47 left.cps.toList)) :: rest, _, rfl, rfl, rfl, rfl, rfl, rfl, ?sub, ?pl, ?dat, ?pts, ?le⟩
      case sub => intro q hq; repeat' (first | exact sub _ hq | refine List.mem_cons_of_mem _ ?_)
      case pl => intro hn; repeat' (first | exact pl hn | refine PlainL.cons (by first | exact .inl rfl | exact .inr rfl) ?_)
      case dat =>
        refine .cons ?_ (dat.mono fun q hq => by repeat' (first | exact hq | refine List.mem_cons_of_mem _ ?_))
        refine' dat_partS ?m1 ?m2 ?he ?hh ?hz
        case m1 => k_mem
        case m2 => k_mem
        case he => exact he_ext (by assumption) (by assumption)
        case hh => assumption
        case hz => assumption
      all_goals have hs := step_all hl hp hle (root_ext (he_ext (by assumption) (by assumption)) (by assumption) (by assumption))
      case lt => exact hs.1
      case pts => exact hs.2.1
      case le => exact hs.2.2
    · have hr : rest = pts 47 46 x.cps.toList := by
        rw [← hp, eq_nil (show (left != Txt.slice x none (some 0)) = false by assumption)]
        rfl
      rw [hr] at dat
      exact hret _ _ _ _ (by k_asm) (by k_asm) ⟨_, _, _, _, rfl, sub, pl, dat, rfl⟩
end Mine
end
section
open PySem PySem.W PySem.Calls PyProof.Rows
set_option Elab.async false
set_option maxRecDepth 100000
namespace Mine

theorem bnil_of {x : Array UInt8} : (KBy.picked x none (some 0)).toList = [] := by
  rw [picked_to (by omega)]
  rfl
theorem bne_nil {left x : Array UInt8} (h : (left.toList != (KBy.picked x none (some 0)).toList) = true) : left.toList ≠ [] := by
  have := bne_iff_ne.mp h
  rwa [bnil_of] at this
theorem beq_nil {left x : Array UInt8} (h : (left.toList != (KBy.picked x none (some 0)).toList) = false) : left.toList = [] := by
  by_cases q : left.toList = []
  · exact q
  · rw [bne_iff_ne.mpr (by rw [bnil_of]; exact q)] at h
    cases h
theorem beq_nil' {e x : Array UInt8} (h : (e.toList == (KBy.picked x none (some 0)).toList) = true) : e.toList = [] := by
  have := beq_iff_eq.mp h
  rwa [bnil_of] at this
theorem bne_nil' {e x : Array UInt8} (h : (e.toList == (KBy.picked x none (some 0)).toList) = false) : e.toList ≠ [] := by
  intro q
  rw [beq_iff_eq.mpr (by rw [bnil_of]; exact q)] at h
  cases h
theorem blen (x : Array UInt8) : x.toList.length = x.size := by simp
theorem btail_le {z x : Array UInt8} (h : z.toList = tailOf 47 x.toList) : z.size ≤ x.size := by
  have h1 := congrArg List.length h
  have h2 := congrArg List.length (upTo_tail 47 x.toList)
  rw [List.length_append, blen x] at h2
  rw [blen z] at h1
  omega
theorem bext_le {z x : Array UInt8} (h : z.toList = extOf 47 46 x.toList) : z.size ≤ x.size := by
  have h1 := congrArg List.length h
  have h2 := extOf_le 47 46 x.toList
  rw [blen z] at h1
  rw [blen x] at h2
  omega
theorem btake_le {z x : Array UInt8} {n : Nat} (h : z.toList = x.toList.take n) : z.size ≤ x.size := by
  have h1 := congrArg List.length h
  rw [blen z, List.length_take, blen x] at h1
  omega
section
variable {l : List UInt8} {e z x left : Array UInt8} {rest : List (Pt UInt8)}
theorem bhe_tail (h3 : (z.size : Int) ≠ 0) (h0 : e.toList = extOf 47 46 l) (h1 : (e.toList == (KBy.picked x none (some 0)).toList) = true) (h2 : z.toList = tailOf 47 l) : z.toList = endOf 47 46 l := by
  have h4 : tailOf 47 l ≠ [] := by
    intro q
    rw [q] at h2
    have := congrArg List.length h2
    rw [blen] at this
    exact h3 (by rw [this]; rfl)
  unfold endOf
  rw [← h0, beq_nil' h1, if_neg (by simp), if_pos h4, h2]
theorem bhe_slash (h3 : (z.size : Int) = 0) (h0 : e.toList = extOf 47 46 l) (h1 : (e.toList == (KBy.picked x none (some 0)).toList) = true) (h2 : z.toList = tailOf 47 l) : (#[47] : Array UInt8).toList = endOf 47 46 l := by
  have h4 : tailOf 47 l = [] := by
    rw [← h2]
    exact List.length_eq_zero_iff.mp (by rw [blen]; omega)
  unfold endOf
  rw [← h0, beq_nil' h1, if_neg (by simp), h4, if_neg (by simp)]
theorem bhe_ext (h0 : e.toList = extOf 47 46 l) (h1 : (e.toList == (KBy.picked x none (some 0)).toList) = false) : e.toList = endOf 47 46 l := by
  unfold endOf
  rw [← h0, if_pos (bne_nil' h1)]
theorem broot_slice {n : Int} (he : e.toList = endOf 47 46 left.toList) (hl : left.toList ≠ []) (hn : n = (left.size : Int) - (e.size : Int)) : (KBy.picked left none (some n)).toList = rootOf 47 46 left.toList := by
  have h1 := end_le 47 46 _ hl
  rw [← he, blen, blen] at h1
  rw [picked_to (by omega)]
  unfold rootOf
  rw [← he, blen, blen]
  congr 1
  omega
theorem broot_ext (he : e.toList = endOf 47 46 left.toList) (h0 : e.toList = extOf 47 46 left.toList) (h : z.toList = left.toList.take (left.toList.length - (extOf 47 46 left.toList).length)) : z.toList = rootOf 47 46 left.toList := by
  unfold rootOf
  rw [← he, h0, h]
end
theorem bstep_all {z left x : Array UInt8} {rest : List (Pt UInt8)} (hl : left.toList ≠ []) (h : pts 47 46 left.toList ++ rest = pts 47 46 x.toList) (hx : left.size ≤ x.size) (hz : z.toList = rootOf 47 46 left.toList) :
    z.size < left.size ∧ pts 47 46 z.toList ++ ((endOf 47 46 left.toList, (hdOf 47 (upTo 47 left.toList), tailOf 47 left.toList)) :: rest) = pts 47 46 x.toList ∧ z.size ≤ x.size := by
  have h1 := step_lt (sl := 47) (dt := 46) hl
  rw [← hz, blen, blen] at h1
  exact ⟨h1, by rw [hz]; exact step_pts hl h, by omega⟩
end Mine
end
section
open PySem PySem.W PySem.Calls PyProof.Rows
set_option Elab.async false
set_option maxRecDepth 100000
set_option maxHeartbeats 8000000
namespace Mine

local macro_rules | `(tactic| walk_at "call type:type") => `(tactic| ((with_reducible show wpAny _ _ (call (Value.type "type") [Value.bytes _ _]) _ _ _); refine call_type_of (typeIs_bytes _ _ _) (by decide) ?_))
local macro_rules | `(tactic| walk_at "call builtin:issubclass") => `(tactic| (k_here; k_dflt (first | refine' issub_pair ?k1 ty_str sub_ss F.sub_str_bytes ?_ | refine' issub_pair ?k1 ty_bytes sub_bs sub_bb ?_); (case k1 => exact News.get (by k_asm) (by k_mem)); k_whole))

local macro_rules | `(tactic| walk_at "exec While") => `(tactic| refine halt ?_)
local macro_rules | `(tactic| walk_at "exec While Compare") => `(tactic| refine halt ?_)
local macro_rules | `(tactic| walk_at "binaryOp Add ref ref") => `(tactic| (k_here; k_dflt (refine' cons_L ?k1 ?k2 ?k3 ?k4 ?k5 ?_; (case k1 => k_asm); (case k2 => k_asm); (case k3 => exact ⟨_, News.get (by k_asm) (by k_mem), rfl, _, rfl⟩); (case k4 => exact ⟨_, News.get (by k_asm) (by k_mem), rfl, _, rfl⟩); (case k5 => assumption)); intro D9 h9 F9 N9 l9))

local macro_rules | `(tactic| walk_at "getMethod bytes") => `(tactic| (k_here; k_dflt (first | ((with_reducible show wpAny _ _ (getMethod _ "rfind" _) _ _ _); refine' brfind_method ?_) | ((with_reducible show wpAny _ _ (getMethod _ "rstrip" _) _ _ _); refine' brstrip_method ?_)); k_whole))
local macro_rules | `(tactic| walk_at "call builtin:bytes.rfind") => `(tactic| (k_here; k_dflt (refine' brfind_call ?_); k_whole))
local macro_rules | `(tactic| walk_at "call builtin:bytes.rstrip") => `(tactic| (k_here; k_dflt (refine' brstrip_call ?k1 ?_; (case k1 => omega); k_whole); intro y9 t9 k9 e9 l9))
local macro_rules | `(tactic| walk_at "subscriptTail") => `(tactic| (k_here; (with_reducible show wpAny _ _ (subscriptTail _ (Expr.Slice _ _ none _) (Value.bytes _ _) (Value.ref _)) _ _ _); (with_reducible rename Fr _ _ _ _ => F'); (with_reducible rename News _ _ _ _ => N'); (refine slice_B (s := ⟨_, _, _, _, _⟩) F' N' (by constructor) (by constructor) (by omega) ?_); intro h9 t9 k9 F9 N9 l9))
local macro_rules | `(tactic| walk_at "call builtin:len") => `(tactic| (k_here; (with_reducible show wpAny _ _ (call _ [Value.bytes _ _]) _ _ _); k_dflt (refine' len_bytes ?k1 ?_; (case k1 => omega); k_whole)))
local macro_rules | `(tactic| walk_at "truthy bytes") => `(tactic| (k_here; k_dflt (refine' truthy_bytes ?k1 ?_; (case k1 => omega); k_whole)))
local macro_rules | `(tactic| walk_at "binaryOp Mult bytes int") => `(tactic| (k_here; (refine' mul_B ?k1 ?_; (case k1 => omega); k_whole); intro t9 k9))
local macro_rules | `(tactic| walk_at "call ref") => `(tactic| (k_here; k_dflt (refine' does_use (ext_bytes _ _ ?hz) ?k1 ?k2 ?k3 ?k4 ?k5 ?kK ?kR ?kd ?ku ?_; (case hz => omega); (case k1 => k_asm); (case k2 => k_asm); (case k3 => k_asm); (case k4 => k_asm); (case k5 => k_asm); (case kK => first | exact rfl | assumption); (case kR => first | exact trivial | assumption); (case kd => ktr_room); (case ku => ktr_units); k_whole); intro r9 led9 h9 tk9 F9 N9 ho9; obtain ⟨a9, y9, z9, e9, l9, e8, y8, t8, z8, u8, ey8, ez8, e7, e6⟩ := ho9; subst e9; subst e8; subst ey8; subst ez8; have q7 := bext_le e7; have q6 := btake_le e6))
local macro_rules | `(tactic| walk_at "call ref") => `(tactic| (k_here; k_dflt (refine' does_use (split_bytes _ _ ?hz) ?k1 ?k2 ?k3 ?k4 ?k5 ?kK ?kR ?kd ?ku ?_; (case hz => omega); (case k1 => k_asm); (case k2 => k_asm); (case k3 => k_asm); (case k4 => k_asm); (case k5 => k_asm); (case kK => first | exact rfl | assumption); (case kR => first | exact trivial | assumption); (case kd => ktr_room); (case ku => ktr_units); k_whole); intro r9 led9 h9 tk9 F9 N9 ho9; obtain ⟨a9, y9, z9, e9, l9, e8, y8, t8, z8, u8, ey8, ez8, e7, e6⟩ := ho9; subst e9; subst e8; subst ey8; subst ez8; have q6 := btail_le e6))
theorem taken_bytes (x : Array UInt8) (t t1 : Tok) (hz : x.size ≤ 40000) : Does 197 [.bytes x t, .bytes #[47] t1] 3 (fun _ => True) (OkL ((pts 47 46 x.toList).map datB)) := by
  unfold Does
  k_fill
  intro w loose mean mg mb dp un gd cn cs a ccd cl outer A₀ base h₀ L m news s Q E B F X N T hk hpre hd hu hret
  refine wpAny_call ?_
  k_dflt ktr_enter
  k_steps

  refine Halt.mk ?_
  refine While_inv2 (fun n m nx => ∃ (left : Array UInt8) (tl' : Tok) (a : Addr) (vs : List Value) (k : Nat) (rest : List (Pt UInt8)) (tl : List (Addr × Obj)), left.size = n ∧ m (Str.ofString "left") = some (.bytes left tl') ∧ m (Str.ofString "parts") = some (.ref a) ∧ m (Str.ofString "mail") = some (.bytes x t) ∧ m (Str.ofString "slash") = some (.bytes #[47] t1) ∧ nx = (a, listOf (List.toArray vs) k) :: tl ∧ (∀ p ∈ news, p ∈ tl) ∧ (PlainL news → PlainL tl) ∧ DatAll tl vs (rest.map datB) ∧ pts 47 46 left.toList ++ rest = pts 47 46 x.toList ∧ left.size ≤ x.size) (n₀ := x.size) (by k_asm) (news_d1 (by k_asm)) ?_ ?_ (by passes_own)
  · exact ⟨x, t, _, [], _, [], news, rfl, rfl, rfl, rfl, rfl, rfl, fun _ h => h, fun h => h, .nil, List.append_nil _, Nat.le_refl _⟩
  · rintro n m₁ nx h tk F₁ N₁ ⟨left, tl', a, vs, k, rest, tl, rfl, e1, e2, e3, e4, rfl, sub, pl, dat, hp, hle⟩
    have F₂ := fr_of F₁ (know e1 (know e2 (know e3 (know e4 rfl))))
    clear F₁
    have hvs : vs.length ≤ 1048576 := by
      have h1 := dat.length
      rw [List.length_map] at h1
      have h2 := rest_le hp
      rw [blen] at h2
      omega
    k_steps
    · have hl := bne_nil (show (left.toList != (KBy.picked x none (some 0)).toList) = true by assumption)
      unfold WhileStep2
      dsimp only
      refine ⟨_, _, _, _, _, rfl, by k_asm, by k_asm, ?lt, _, _, _, _, _, (endOf 47 46 left.toList, (hdOf 47 (upTo 47 left.toList), tailOf 47 left.toList)) :: rest, _, rfl, rfl, rfl, rfl, rfl, rfl, ?sub, ?pl, ?dat, ?pts, ?le⟩
      case sub => intro q hq; repeat' (first | exact sub _ hq | refine List.mem_cons_of_mem _ ?_)
      case pl => intro hn; repeat' (first | exact pl hn | refine PlainL.cons (by first | exact .inl rfl | exact .inr rfl) ?_)
      case dat =>
        refine .cons ?_ (dat.mono fun q hq => by repeat' (first | exact hq | refine List.mem_cons_of_mem _ ?_))
        refine' dat_partB ?m1 ?m2 ?he ?hh ?hz
        case m1 => k_mem
        case m2 => k_mem
        case he => exact bhe_tail (by assumption) (by assumption) (by assumption) (by assumption)
        case hh => assumption
        case hz => assumption
      all_goals have hs := bstep_all hl hp hle (broot_slice (bhe_tail (by assumption) (by assumption) (by assumption) (by assumption)) hl rfl)
      case lt => exact hs.1
      case pts => exact hs.2.1
      case le => exact hs.2.2
    · have hl := bne_nil (show (left.toList != (KBy.picked x none (some 0)).toList) = true by assumption)
      unfold WhileStep2
      dsimp only
      refine ⟨_, _, _, _, _, rfl, by k_asm, by k_asm, ?lt, _, _, _, _, _, (endOf 47 46 left.toList, (hdOf 47 (upTo 47 left.toList), tailOf 47 left.toList)) :: rest, _, rfl, rfl, rfl, rfl, rfl, rfl, ?sub, ?pl, ?dat, ?pts, ?le⟩
      case sub => intro q hq; repeat' (first | exact sub _ hq | refine List.mem_cons_of_mem _ ?_)
      case pl => intro hn; repeat' (first | exact pl hn | refine PlainL.cons (by first | exact .inl rfl | exact .inr rfl) ?_)
      case dat =>
        refine .cons ?_ (dat.mono fun q hq => by repeat' (first | exact hq | refine List.mem_cons_of_mem _ ?_))
        refine' dat_partB ?m1 ?m2 ?he ?hh ?hz
        case m1 => k_mem
        case m2 => k_mem
        case he => exact bhe_slash (by assumption) (by assumption) (by assumption) (by assumption)
        case hh => assumption
        case hz => assumption
      all_goals have hs := bstep_all hl hp hle (broot_slice (bhe_slash (by assumption) (by assumption) (by assumption) (by assumption)) hl rfl)
      case lt => exact hs.1
      case pts => exact hs.2.1
      case le => exact hs.2.2
    · have hl := bne_nil (show (left.toList != (KBy.picked x none (some 0)).toList) = true by assumption)
      unfold WhileStep2
      dsimp only
      refine ⟨_, _, _, _, _, rfl, by k_asm, by k_asm, ?lt, _, _, _, _, _, (endOf 47 46 left.toList, (hdOf 47 (upTo 47 left.toList), tailOf 47 left.toList)) :: rest, _, rfl, rfl, rfl, rfl, rfl, rfl, ?sub, ?pl, ?dat, ?pts, ?le⟩
      case sub => intro q hq; repeat' (first | exact sub _ hq | refine List.mem_cons_of_mem _ ?_)
      case pl => intro hn; repeat' (first | exact pl hn | refine PlainL.cons (by first | exact .inl rfl | exact .inr rfl) ?_)
      case dat =>
        refine .cons ?_ (dat.mono fun q hq => by repeat' (first | exact hq | refine List.mem_cons_of_mem _ ?_))
        refine' dat_partB ?m1 ?m2 ?he ?hh ?hz
        case m1 => k_mem
        case m2 => k_mem
        case he => exact bhe_ext (by assumption) (by assumption)
        case hh => assumption
        case hz => assumption
      all_goals have hs := bstep_all hl hp hle (broot_ext (bhe_ext (by assumption) (by assumption)) (by assumption) (by assumption))
      case lt => exact hs.1
      case pts => exact hs.2.1
      case le => exact hs.2.2
    · have hr : rest = pts 47 46 x.toList := by
        rw [← hp, beq_nil (show (left.toList != (KBy.picked x none (some 0)).toList) = false by assumption)]
        rfl
      rw [hr] at dat
      exact hret _ _ _ _ (by k_asm) (by k_asm) ⟨_, _, _, _, rfl, sub, pl, dat, rfl⟩
end Mine
end
section
open PySem PySem.W PySem.Calls PyProof.Rows
set_option Elab.async false
set_option maxRecDepth 100000
namespace Mine
def tot {α : Type} (ps : List (Pt α)) : Nat := (ps.map (fun p => p.1.length)).sum
theorem tot_take {α : Type} (ps : List (Pt α)) (i : Nat) : tot (ps.take i) ≤ tot ps := by
  unfold tot
  have h := congrArg List.sum (congrArg (List.map fun p : Pt α => p.1.length) (List.take_append_drop i ps))
  rw [List.map_append, List.sum_append] at h
  omega
theorem tot_next {α : Type} {ps : List (Pt α)} {i : Nat} {p : Pt α} (h : ps[i]? = some p) : tot (ps.take (i + 1)) = tot (ps.take i) + p.1.length := by
  unfold tot
  rw [List.take_add_one, h]
  simp
theorem part_le {α : Type} {ps : List (Pt α)} {i : Nat} {p : Pt α} (h : ps[i]? = some p) : tot (ps.take i) + p.1.length ≤ tot ps := by
  rw [← tot_next h]
  exact tot_take ps (i + 1)
theorem part_invS {news : List (Addr × Obj)} {v : Value} {p : Pt Nat} (h : DatIn news v (datS p)) : ∃ T n t T2 n2 t2 t3, v = .ref T ∧ (T, ({ cls := .type "tuple", data := .seq #[.str ⟨p.1.toArray⟩ t, .ref T2] n } : Obj)) ∈ news ∧ (T2, ({ cls := .type "tuple", data := .seq #[.str ⟨p.2.1.toArray⟩ t2, .str ⟨p.2.2.toArray⟩ t3] n2 } : Obj)) ∈ news := by
  unfold datS at h
  obtain ⟨T, vs, n, rfl, hm, r⟩ := inv_tuple h
  obtain ⟨v1, v2, rfl, h1, h2⟩ := inv_two r
  obtain ⟨t1, rfl⟩ := inv_str h1
  obtain ⟨T2, ws, n2, rfl, hm2, r2⟩ := inv_tuple h2
  obtain ⟨v3, v4, rfl, h3, h4⟩ := inv_two r2
  obtain ⟨t3, rfl⟩ := inv_str h3
  obtain ⟨t4, rfl⟩ := inv_str h4
  exact ⟨_, _, _, _, _, _, _, rfl, hm, hm2⟩
theorem part_invB {news : List (Addr × Obj)} {v : Value} {p : Pt UInt8} (h : DatIn news v (datB p)) : ∃ T n t T2 n2 t2 t3, v = .ref T ∧ (T, ({ cls := .type "tuple", data := .seq #[.bytes p.1.toArray t, .ref T2] n } : Obj)) ∈ news ∧ (T2, ({ cls := .type "tuple", data := .seq #[.bytes p.2.1.toArray t2, .bytes p.2.2.toArray t3] n2 } : Obj)) ∈ news := by
  unfold datB at h
  obtain ⟨T, vs, n, rfl, hm, r⟩ := inv_tuple h
  obtain ⟨v1, v2, rfl, h1, h2⟩ := inv_two r
  obtain ⟨t1, rfl⟩ := inv_bytes h1
  obtain ⟨T2, ws, n2, rfl, hm2, r2⟩ := inv_tuple h2
  obtain ⟨v3, v4, rfl, h3, h4⟩ := inv_two r2
  obtain ⟨t3, rfl⟩ := inv_bytes h3
  obtain ⟨t4, rfl⟩ := inv_bytes h4
  exact ⟨_, _, _, _, _, _, _, rfl, hm, hm2⟩
theorem dat_at {α : Type} {news : List (Addr × Obj)} {vs : List Value} {f : α → Dat} {ps : List α} (h : DatAll news vs (ps.map f)) {i : Nat} {v : Value} (hv : vs.toArray[i]? = some v) : ∃ p, ps[i]? = some p ∧ DatIn news v (f p) := by
  rw [List.getElem?_toArray] at hv
  have hl := h.length
  rw [List.length_map] at hl
  have hi : i < vs.length := by
    obtain ⟨q, _⟩ := List.getElem?_eq_some_iff.mp hv
    exact q
  obtain ⟨v', e', hd⟩ := h.get (k := i) (by rw [List.length_map]; omega)
  rw [hv] at e'
  cases e'
  exact ⟨_, List.getElem?_eq_getElem (by omega), by simpa using hd⟩
/-- what _law_read has to be handed: a list of data in the ledger -/
def ReadPre (pa : Addr) (vs : List Value) (k : Nat) (ds : List Dat) (news : List (Addr × Obj)) : Prop := (pa, listOf (List.toArray vs) k) ∈ news ∧ DatAll news vs ds ∧ PlainL news
theorem goes_dat {es : List PySem.Expr} {kk : Nat} {p : Pos} {news : List (Addr × Obj)} {vs : List Value} {ds : List Dat} (h : DatAll news vs ds) (hds : ∀ d ∈ ds, ∃ es, d = Dat.tuple es) : GoesL (.Tuple es kk p) vs.toArray := by
  refine .inr ⟨⟨_, _, _, rfl⟩, fun i v hv => ?_⟩
  rw [List.getElem?_toArray] at hv
  have hi : i < vs.length := by
    obtain ⟨q, _⟩ := List.getElem?_eq_some_iff.mp hv
    exact q
  obtain ⟨v', e', hd⟩ := h.get (k := i) (by rw [← h.length]; exact hi)
  rw [hv] at e'
  cases e'
  obtain ⟨es, e⟩ := hds _ (List.getElem_mem (by rw [← h.length]; exact hi))
  rw [e] at hd
  cases hd
  exact ⟨_, rfl⟩
theorem read_next {α : Type} [DecidableEq α] {dt fd : α} {ps : List (Pt α)} {i : Nat} {p : Pt α} {bk ah bk' ah' : List α} (hp : ps[i]? = some p) (hr : (bk, ah) = readP dt fd (ps.take i)) (h1 : bk' = bk ++ (if p.1.take 1 = [dt] ∧ ah = [fd] then p.1.drop 1 else p.1)) (h2 : ah' = p.1.drop (p.1.length - 1)) :
    (bk', ah') = readP dt fd (ps.take (i + 1)) := by
  rw [List.take_add_one, hp, Option.toList_some, readP_snoc, ← hr, h1, h2]
  rfl
theorem app_list (x y : PySem.Str) : (x ++ y).cps.toList = x.cps.toList ++ y.cps.toList := by
  show (x.cps ++ y.cps).toList = _
  rw [Array.toList_append]
theorem str_eqF {x y : PySem.Str} (h : (x == y) = false) : x.cps.toList ≠ y.cps.toList := fun q => by rw [str_eq.mpr q] at h; cases h
theorem lit_feed : PySem.Str.ofString "\n" = ⟨#[10]⟩ := by decide
section
variable {ps : List (Pt Nat)} {i : Nat} {p : Pt Nat} {bk ah : PySem.Str} (hp : ps[i]? = some p) (hr : (bk.cps.toList, ah.cps.toList) = readP 46 10 (ps.take i)) (hb : bk.length ≤ tot (ps.take i))
include hp hr hb
theorem read_a (h1 : (Txt.slice ⟨p.1.toArray⟩ none (some 1) == PySem.Str.ofString ".") = true) (h2 : (ah == PySem.Str.ofString "\n") = true) :
    ((bk ++ Txt.slice ⟨p.1.toArray⟩ (some 1) none).cps.toList, (Txt.slice ⟨p.1.toArray⟩ (some (-1)) none).cps.toList) = readP 46 10 (ps.take (i + 1)) ∧ (bk ++ Txt.slice ⟨p.1.toArray⟩ (some 1) none).length ≤ tot (ps.take (i + 1)) := by
  have h3 := str_eq.mp h1
  have h4 := str_eq.mp h2
  rw [slice_to (by omega), lit_dot] at h3
  rw [lit_feed] at h4
  have e1 : (bk ++ Txt.slice ⟨p.1.toArray⟩ (some 1) none).cps.toList = bk.cps.toList ++ p.1.drop 1 := by
    rw [app_list, slice_from (by omega)]
    rfl
  refine ⟨read_next hp hr ?_ ?_, ?_⟩
  · rw [e1, if_pos ⟨h3, h4⟩]
  · rw [slice_last]
  · rw [← len_list, e1, tot_next hp, List.length_append, List.length_drop, len_list]
    omega
theorem read_b (h1 : (Txt.slice ⟨p.1.toArray⟩ none (some 1) == PySem.Str.ofString ".") = true) (h2 : (ah == PySem.Str.ofString "\n") = false) :
    ((bk ++ ⟨p.1.toArray⟩ : PySem.Str).cps.toList, (Txt.slice ⟨p.1.toArray⟩ (some (-1)) none).cps.toList) = readP 46 10 (ps.take (i + 1)) ∧ (bk ++ ⟨p.1.toArray⟩ : PySem.Str).length ≤ tot (ps.take (i + 1)) := by
  have h4 := str_eqF h2
  rw [lit_feed] at h4
  refine ⟨read_next hp hr ?_ ?_, ?_⟩
  · rw [app_list, if_neg (fun q => h4 q.2)]
  · rw [slice_last]
  · rw [← len_list, app_list, tot_next hp, List.length_append, len_list]
    show bk.length + p.1.length ≤ _
    omega
theorem read_c (h1 : (Txt.slice ⟨p.1.toArray⟩ none (some 1) == PySem.Str.ofString ".") = false) :
    ((bk ++ ⟨p.1.toArray⟩ : PySem.Str).cps.toList, (Txt.slice ⟨p.1.toArray⟩ (some (-1)) none).cps.toList) = readP 46 10 (ps.take (i + 1)) ∧ (bk ++ ⟨p.1.toArray⟩ : PySem.Str).length ≤ tot (ps.take (i + 1)) := by
  have h3 := str_eqF h1
  rw [slice_to (by omega), lit_dot] at h3
  refine ⟨read_next hp hr ?_ ?_, ?_⟩
  · rw [app_list, if_neg (fun q => h3 q.1)]
  · rw [slice_last]
  · rw [← len_list, app_list, tot_next hp, List.length_append, len_list]
    show bk.length + p.1.length ≤ _
    omega
end
theorem read_all {α : Type} [DecidableEq α] {dt fd : α} {ps : List (Pt α)} {n : Nat} {bk ah : List α} (hn : n = ps.length) (h : (bk, ah) = readP dt fd (ps.take n)) : bk = (readP dt fd ps).1 := by
  rw [hn, List.take_length] at h
  rw [← h]
section
variable {ps : List (Pt UInt8)} {i : Nat} {p : Pt UInt8} {bk ah : Array UInt8} (hp : ps[i]? = some p) (hr : (bk.toList, ah.toList) = readP 46 10 (ps.take i)) (hb : bk.size ≤ tot (ps.take i))
include hp hr hb
theorem bread_a (h1 : ((KBy.picked p.1.toArray none (some 1)).toList == (#[46] : Array UInt8).toList) = true) (h2 : (ah.toList == (#[10] : Array UInt8).toList) = true) :
    ((bk ++ KBy.picked p.1.toArray (some 1) none).toList, (KBy.picked p.1.toArray (some (-1)) none).toList) = readP 46 10 (ps.take (i + 1)) ∧ (bk ++ KBy.picked p.1.toArray (some 1) none).size ≤ tot (ps.take (i + 1)) := by
  have h3 := beq_iff_eq.mp h1
  have h4 := beq_iff_eq.mp h2
  rw [picked_to (by omega)] at h3
  have e1 : (bk ++ KBy.picked p.1.toArray (some 1) none).toList = bk.toList ++ p.1.drop 1 := by
    rw [Array.toList_append, picked_from (by omega)]
    rfl
  refine ⟨read_next hp hr ?_ ?_, ?_⟩
  · rw [e1, if_pos ⟨h3, h4⟩]
  · rw [picked_last]
  · rw [← Array.length_toList, e1, tot_next hp, List.length_append, List.length_drop, Array.length_toList]
    omega
theorem bread_b (h1 : ((KBy.picked p.1.toArray none (some 1)).toList == (#[46] : Array UInt8).toList) = true) (h2 : (ah.toList == (#[10] : Array UInt8).toList) = false) :
    ((bk ++ p.1.toArray).toList, (KBy.picked p.1.toArray (some (-1)) none).toList) = readP 46 10 (ps.take (i + 1)) ∧ (bk ++ p.1.toArray).size ≤ tot (ps.take (i + 1)) := by
  have h4 := beq_eq_false_iff_ne.mp h2
  refine ⟨read_next hp hr ?_ ?_, ?_⟩
  · rw [Array.toList_append, if_neg (fun q => h4 q.2)]
  · rw [picked_last]
  · rw [← Array.length_toList, Array.toList_append, tot_next hp, List.length_append, Array.length_toList]
    show bk.size + p.1.length ≤ _
    omega
theorem bread_c (h1 : ((KBy.picked p.1.toArray none (some 1)).toList == (#[46] : Array UInt8).toList) = false) :
    ((bk ++ p.1.toArray).toList, (KBy.picked p.1.toArray (some (-1)) none).toList) = readP 46 10 (ps.take (i + 1)) ∧ (bk ++ p.1.toArray).size ≤ tot (ps.take (i + 1)) := by
  have h3 := beq_eq_false_iff_ne.mp h1
  rw [picked_to (by omega)] at h3
  refine ⟨read_next hp hr ?_ ?_, ?_⟩
  · rw [Array.toList_append, if_neg (fun q => h3 q.1)]
  · rw [picked_last]
  · rw [← Array.length_toList, Array.toList_append, tot_next hp, List.length_append, Array.length_toList]
    show bk.size + p.1.length ≤ _
    omega
end
end Mine
end
section
open PySem PySem.W PySem.Calls PyProof.Rows
set_option Elab.async false
set_option maxRecDepth 100000
set_option maxHeartbeats 8000000
namespace Mine
local macro_rules | `(tactic| walk_at "part W9 0") => `(tactic| skip)
local macro_rules | `(tactic| walk_at "part W9 1") => `(tactic| skip)
local macro_rules | `(tactic| walk_at "part W9 2") => `(tactic| skip)
local macro_rules | `(tactic| walk_at "part W9 3") => `(tactic| skip)
local macro_rules | `(tactic| walk_at "part W9 4") => `(tactic| skip)
local macro_rules | `(tactic| walk_at "part W9 5") => `(tactic| skip)
local macro_rules | `(tactic| walk_at "part W9 6") => `(tactic| skip)

local macro_rules | `(tactic| walk_at "call type:type") => `(tactic| ((with_reducible show wpAny _ _ (call (Value.type "type") [Value.bytes _ _]) _ _ _); refine call_type_of (typeIs_bytes _ _ _) (by decide) ?_))
local macro_rules | `(tactic| walk_at "call builtin:issubclass") => `(tactic| (k_here; k_dflt (first | refine' issub_pair ?k1 ty_str sub_ss F.sub_str_bytes ?_ | refine' issub_pair ?k1 ty_bytes sub_bs sub_bb ?_); (case k1 => exact News.get (by k_asm) (by k_mem)); k_whole))

local macro_rules | `(tactic| walk_at "exec For") => `(tactic| refine halt ?_)
local macro_rules | `(tactic| walk_at "pyIter ref") => `(tactic| refine halt ?_)
theorem read_str (ps : List (Pt Nat)) (pa : Addr) (vs : List Value) (kk : Nat) (t1 t2 : Tok) (hz : tot ps ≤ 40000) : Does 209 [.ref pa, .str (Str.ofString ".") t1, .str (Str.ofString "\n") t2] 1 (ReadPre pa vs kk (ps.map datS)) (OkV fun r => ∃ y t, r = .str y t ∧ y.cps.toList = (readP 46 10 ps).1) := by
  unfold Does
  k_fill
  intro w loose mean mg mb dp un gd cn cs a ccd cl outer A₀ base h₀ L m news s Q E B F X N T hk hpre hd hu hret
  refine wpAny_call ?_
  k_dflt ktr_enter
  k_steps

  refine Halt.mk ?_
  refine wpAny_For ?_
  k_steps
  refine Halt.mk ?_
  obtain ⟨hm, hdat, hpl⟩ := hpre
  refine for_list rfl (by k_asm) (news_d1 (by k_asm)) hpl (.inr ⟨_, hm, rfl, _, rfl⟩) (goes_dat hdat (fun d hd => by obtain ⟨p, _, rfl⟩ := List.mem_map.mp hd; exact ⟨_, rfl⟩))
    (fun i m nx => nx = news ∧ ∃ bk tb ah ta, m (Str.ofString "back") = some (.str bk tb) ∧ m (Str.ofString "ahead") = some (.str ah ta) ∧ m (Str.ofString "dot") = some (.str (Str.ofString ".") t1) ∧ m (Str.ofString "feed") = some (.str (Str.ofString "\n") t2) ∧ (bk.cps.toList, ah.cps.toList) = readP 46 10 (ps.take i) ∧ bk.length ≤ tot (ps.take i)) ?_ ?_ ?_ (by passes_own)
  · exact ⟨rfl, _, _, _, _, rfl, rfl, rfl, rfl, rfl, Nat.zero_le _⟩
  · rintro i v m₁ nx I oI h tk hi hv ⟨rfl, bk, tb, ah, ta, e1, e2, e3, e4, hr, hb⟩ _ hS _ F₁ N₁
    obtain ⟨p, hp, hd⟩ := dat_at hdat hv
    obtain ⟨T, n1, u1, T2, n2, u2, u3, rfl, hT, hT2⟩ := part_invS hd
    have hle := part_le hp
    have hpl1 : (⟨p.1.toArray⟩ : Str).length = p.1.length := by rw [← len_list]
    have F₂ := fr_of F₁ (know e1 (know e2 (know e3 (know e4 rfl))))
    clear F₁
    have N₂ : News _ _ h ((T, ({ cls := .type "tuple", data := .seq #[.str ⟨p.1.toArray⟩ u1, .ref T2] n1 } : Obj)) :: (I, oI) :: nx) := fun q hq => by
      rcases List.mem_cons.mp hq with rfl | hq
      · exact N₁ _ (List.mem_cons_of_mem _ hT)
      · exact N₁ q hq
    clear N₁
    k_steps
    · have hs := read_a hp hr hb (by assumption) (by assumption)
      exact ⟨.inl rfl, _, _, _, _, _, rfl, by k_asm, by k_asm, fun q hq => List.mem_cons_of_mem _ hq, by assumption, hS, rfl, _, _, _, _, rfl, rfl, rfl, rfl, hs.1, hs.2⟩
    · have hs := read_b hp hr hb (by assumption) (by assumption)
      exact ⟨.inl rfl, _, _, _, _, _, rfl, by k_asm, by k_asm, fun q hq => List.mem_cons_of_mem _ hq, by assumption, hS, rfl, _, _, _, _, rfl, rfl, rfl, rfl, hs.1, hs.2⟩
    · have hs := read_c hp hr hb (by assumption)
      exact ⟨.inl rfl, _, _, _, _, _, rfl, by k_asm, by k_asm, fun q hq => List.mem_cons_of_mem _ hq, by assumption, hS, rfl, _, _, _, _, rfl, rfl, rfl, rfl, hs.1, hs.2⟩
  · rintro h' tk m' nx kF kN _ _ ⟨rfl, bk, tb, ah, ta, e1, e2, e3, e4, hr, hb⟩
    have F₂ := fr_of kF (know e1 rfl)
    clear kF
    k_steps
    exact hret _ _ _ _ (by k_asm) (by k_asm) ⟨rfl, _, _, rfl, read_all (by rw [List.size_toArray, hdat.length, List.length_map]) hr⟩
end Mine
end
section
open PySem PySem.W PySem.Calls PyProof.Rows
set_option Elab.async false
set_option maxRecDepth 100000
set_option maxHeartbeats 8000000
namespace Mine

local macro_rules | `(tactic| walk_at "call type:type") => `(tactic| ((with_reducible show wpAny _ _ (call (Value.type "type") [Value.bytes _ _]) _ _ _); refine call_type_of (typeIs_bytes _ _ _) (by decide) ?_))
local macro_rules | `(tactic| walk_at "call builtin:issubclass") => `(tactic| (k_here; k_dflt (first | refine' issub_pair ?k1 ty_str sub_ss F.sub_str_bytes ?_ | refine' issub_pair ?k1 ty_bytes sub_bs sub_bb ?_); (case k1 => exact News.get (by k_asm) (by k_mem)); k_whole))

local macro_rules | `(tactic| walk_at "exec For") => `(tactic| refine halt ?_)
local macro_rules | `(tactic| walk_at "pyIter ref") => `(tactic| refine halt ?_)

local macro_rules | `(tactic| walk_at "getMethod bytes") => `(tactic| (k_here; k_dflt (first | ((with_reducible show wpAny _ _ (getMethod _ "rfind" _) _ _ _); refine' brfind_method ?_) | ((with_reducible show wpAny _ _ (getMethod _ "rstrip" _) _ _ _); refine' brstrip_method ?_)); k_whole))
local macro_rules | `(tactic| walk_at "call builtin:bytes.rfind") => `(tactic| (k_here; k_dflt (refine' brfind_call ?_); k_whole))
local macro_rules | `(tactic| walk_at "call builtin:bytes.rstrip") => `(tactic| (k_here; k_dflt (refine' brstrip_call ?k1 ?_; (case k1 => omega); k_whole); intro y9 t9 k9 e9 l9))
local macro_rules | `(tactic| walk_at "subscriptTail") => `(tactic| (k_here; (with_reducible show wpAny _ _ (subscriptTail _ (Expr.Slice _ _ none _) (Value.bytes _ _) (Value.ref _)) _ _ _); (with_reducible rename Fr _ _ _ _ => F'); (with_reducible rename News _ _ _ _ => N'); (refine slice_B (s := ⟨_, _, _, _, _⟩) F' N' (by constructor) (by constructor) (by omega) ?_); intro h9 t9 k9 F9 N9 l9))
local macro_rules | `(tactic| walk_at "call builtin:len") => `(tactic| (k_here; (with_reducible show wpAny _ _ (call _ [Value.bytes _ _]) _ _ _); k_dflt (refine' len_bytes ?k1 ?_; (case k1 => omega); k_whole)))
local macro_rules | `(tactic| walk_at "truthy bytes") => `(tactic| (k_here; k_dflt (refine' truthy_bytes ?k1 ?_; (case k1 => omega); k_whole)))
local macro_rules | `(tactic| walk_at "binaryOp Mult bytes int") => `(tactic| (k_here; (refine' mul_B ?k1 ?_; (case k1 => omega); k_whole); intro t9 k9))
local macro_rules | `(tactic| walk_at "binaryOp Add bytes bytes") => `(tactic| (k_here; (refine' KBy.add_bytes ?k1 ?_; (case k1 => first | omega | (dsimp only [List.size_toArray]; omega) | (simp only [List.size_toArray]; omega)); k_whole); intro t9 k9))
theorem read_bytes (ps : List (Pt UInt8)) (pa : Addr) (vs : List Value) (kk : Nat) (t1 t2 : Tok) (hz : tot ps ≤ 40000) : Does 209 [.ref pa, .bytes #[46] t1, .bytes #[10] t2] 1 (ReadPre pa vs kk (ps.map datB)) (OkV fun r => ∃ y t, r = .bytes y t ∧ y.toList = (readP 46 10 ps).1) := by
  unfold Does
  k_fill
  intro w loose mean mg mb dp un gd cn cs a ccd cl outer A₀ base h₀ L m news s Q E B F X N T hk hpre hd hu hret
  refine wpAny_call ?_
  k_dflt ktr_enter
  k_steps

  refine Halt.mk ?_
  refine wpAny_For ?_
  k_steps
  refine Halt.mk ?_
  obtain ⟨hm, hdat, hpl⟩ := hpre
  refine for_list rfl (by k_asm) (news_d1 (by k_asm)) hpl (.inr ⟨_, hm, rfl, _, rfl⟩) (goes_dat hdat (fun d hd => by obtain ⟨p, _, rfl⟩ := List.mem_map.mp hd; exact ⟨_, rfl⟩))
    (fun i m nx => nx = news ∧ ∃ bk tb ah ta, m (Str.ofString "back") = some (.bytes bk tb) ∧ m (Str.ofString "ahead") = some (.bytes ah ta) ∧ m (Str.ofString "dot") = some (.bytes #[46] t1) ∧ m (Str.ofString "feed") = some (.bytes #[10] t2) ∧ (bk.toList, ah.toList) = readP 46 10 (ps.take i) ∧ bk.size ≤ tot (ps.take i)) ?_ ?_ ?_ (by passes_own)
  · exact ⟨rfl, _, _, _, _, rfl, rfl, rfl, rfl, rfl, Nat.zero_le _⟩
  · rintro i v m₁ nx I oI h tk hi hv ⟨rfl, bk, tb, ah, ta, e1, e2, e3, e4, hr, hb⟩ _ hS _ F₁ N₁
    obtain ⟨p, hp, hd⟩ := dat_at hdat hv
    obtain ⟨T, n1, u1, T2, n2, u2, u3, rfl, hT, hT2⟩ := part_invB hd
    have hle := part_le hp
    have hpl1 : p.1.toArray.size = p.1.length := by rw [List.size_toArray]
    have F₂ := fr_of F₁ (know e1 (know e2 (know e3 (know e4 rfl))))
    clear F₁
    have N₂ : News _ _ h ((T, ({ cls := .type "tuple", data := .seq #[.bytes p.1.toArray u1, .ref T2] n1 } : Obj)) :: (I, oI) :: nx) := fun q hq => by
      rcases List.mem_cons.mp hq with rfl | hq
      · exact N₁ _ (List.mem_cons_of_mem _ hT)
      · exact N₁ q hq
    clear N₁
    k_steps
    · have hs := bread_a hp hr hb (by assumption) (by assumption)
      exact ⟨.inl rfl, _, _, _, _, _, rfl, by k_asm, by k_asm, fun q hq => List.mem_cons_of_mem _ hq, by assumption, hS, rfl, _, _, _, _, rfl, rfl, rfl, rfl, hs.1, hs.2⟩
    · have hs := bread_b hp hr hb (by assumption) (by assumption)
      exact ⟨.inl rfl, _, _, _, _, _, rfl, by k_asm, by k_asm, fun q hq => List.mem_cons_of_mem _ hq, by assumption, hS, rfl, _, _, _, _, rfl, rfl, rfl, rfl, hs.1, hs.2⟩
    · have hs := bread_c hp hr hb (by assumption)
      exact ⟨.inl rfl, _, _, _, _, _, rfl, by k_asm, by k_asm, fun q hq => List.mem_cons_of_mem _ hq, by assumption, hS, rfl, _, _, _, _, rfl, rfl, rfl, rfl, hs.1, hs.2⟩
  · rintro h' tk m' nx kF kN _ _ ⟨rfl, bk, tb, ah, ta, e1, e2, e3, e4, hr, hb⟩
    have F₂ := fr_of kF (know e1 rfl)
    clear kF
    k_steps
    exact hret _ _ _ _ (by k_asm) (by k_asm) ⟨rfl, _, _, rfl, read_all (by rw [List.size_toArray, hdat.length, List.length_map]) hr⟩
end Mine
end
section
open PySem PySem.W PySem.Calls PyProof.Rows PySem.Builtin PySem.Builtin.Str
set_option Elab.async false
set_option maxRecDepth 100000
namespace Mine
theorem joinL_cons (sep x : List Nat) (r : List (List Nat)) : joinL sep (x :: r) = x ++ (r.map (sep ++ ·)).flatten := by
  induction r generalizing x with
  | nil => simp [joinL]
  | cons y r ih =>
    rw [joinL, ih]
    simp
theorem glued_join (sep : List Nat) (ps : List (List Nat)) : glued ⟨sep.toArray⟩ (ps.map fun l => (⟨l.toArray⟩ : PySem.Str)) = ⟨(joinL sep ps).toArray⟩ := by
  have key : ∀ (qs : List (List Nat)) (acc : Array Nat), (qs.map fun l => (⟨l.toArray⟩ : PySem.Str)).foldl (fun acc p => acc ++ sep.toArray ++ p.cps) acc = acc ++ ((qs.map (sep ++ ·)).flatten).toArray := by
    intro qs
    induction qs with
    | nil => intro acc; simp
    | cons q qs ih => intro acc; rw [List.map_cons, List.foldl_cons, ih]; simp
  unfold glued
  cases ps with
  | nil => rfl
  | cons p ps =>
    show Str.mk ((ps.map fun l => (⟨l.toArray⟩ : PySem.Str)).foldl (fun acc p => acc ++ sep.toArray ++ p.cps) p.toArray) = _
    rw [key, joinL_cons]
    simp
theorem str_joinE {prog : Program} {w : World} {A : Around} {E : Value → Shared → Prop} {s : Shared} {Q : Value → Shared → Prop} {l : Addr} {ps : List (List Nat × Tok)} {n : Nat} {sep : List Nat} {tk0 : Tok} (hl : s.heap.get? l = some { cls := .type "list", data := .seq (ps.map fun p => sval p.1 p.2).toArray n }) (hz : (ps.map (·.1)).flatten.length + ps.length * sep.length ≤ 400000)
    (h : ∀ h' tk t', (∀ b o, s.heap.get? b = some o → h'.get? b = some o) → Q (sval (joinL sep (ps.map (·.1))) t') { s with heap := h', toks := tk }) : wpAny (model prog w) A (call (.builtin "str.join") [sval sep tk0, .ref l]) Q E s := by
  have e1 : (ps.map fun p => sval p.1 p.2) = strValues (ps.map fun p => ((⟨p.1.toArray⟩ : PySem.Str), p.2)) := by
    unfold strValues
    rw [List.map_map]
    rfl
  have e2 : ((ps.map fun p => ((⟨p.1.toArray⟩ : PySem.Str), p.2)).map (·.1)) = (ps.map (·.1)).map fun l => (⟨l.toArray⟩ : PySem.Str) := by
    rw [List.map_map, List.map_map]; rfl
  refine SC.join (D := l) (l := ps.map fun p => ((⟨p.1.toArray⟩ : PySem.Str), p.2)) (texts := (ps.map (·.1)).map fun l => (⟨l.toArray⟩ : PySem.Str)) ⟨_, hl, rfl, n, by rw [← e1]⟩ e2 ?_ fun t' k => ?_
  · unfold JoinOk Builtin.Str.tooLong
    have hfold : ∀ (qs : List (List Nat)) (k : Nat), (qs.map fun l => (⟨l.toArray⟩ : PySem.Str)).foldl (fun x1 x2 => x1 + x2.length + (⟨sep.toArray⟩ : PySem.Str).length) k = k + qs.flatten.length + qs.length * sep.length := by
      intro qs
      induction qs with
      | nil => intro k; simp
      | cons q qs ih =>
        intro k
        rw [List.map_cons, List.foldl_cons, ih, List.flatten_cons, List.length_append, List.length_cons, Nat.succ_mul]
        show k + q.toArray.size + sep.toArray.size + _ + _ = _
        simp
        omega
    rw [← Array.foldl_toList]
    simp only [List.toList_toArray] at hfold ⊢
    rw [hfold, List.length_map, Bool.not_eq_true', decide_eq_false_iff_not, sizeLine_eq]
    omega
  · unfold Txt.join
    rw [glued_join]
    exact h s.heap k t' fun b o e => e
theorem dw_nil {α : Type} {p : α → Bool} {l : List α} : l.dropWhile p = [] ↔ ∀ d ∈ l, p d = true := by
  induction l with
  | nil => simp
  | cons a l ih =>
    rw [List.dropWhile_cons]
    by_cases h : p a = true
    · rw [if_pos h, ih]; simp [h]
    · rw [if_neg h]; simp [h]
theorem tw_mem {α : Type} {p : α → Bool} {l : List α} {d : α} (h : d ∈ l.takeWhile p) : p d = true := by
  induction l with
  | nil => simp at h
  | cons a l ih =>
    rw [List.takeWhile_cons] at h
    by_cases q : p a = true
    · rw [if_pos q] at h
      rcases List.mem_cons.mp h with rfl | h
      · exact q
      · exact ih h
    · rw [if_neg q] at h; simp at h
theorem strip_nil (x : PySem.Str) (c : Nat) : (Txt.stripChars x ⟨#[c]⟩ == PySem.Str.ofString "") = x.cps.toList.all (fun d => decide (d = c)) := by
  have ep : (Array.contains #[c] : Nat → Bool) = fun d => decide (d = c) := by
    funext d
    rw [Bool.eq_iff_iff]
    simp
  have key : (Txt.stripChars x ⟨#[c]⟩).cps.toList = ((x.cps.toList.dropWhile fun d => decide (d = c)).reverse.dropWhile fun d => decide (d = c)).reverse := by
    unfold Txt.stripChars
    rw [PyProof.Rows.stripBy_eq]
    show (strSub x (stripLo (Array.contains #[c]) true x) (stripHi (Array.contains #[c]) true x (stripLo (Array.contains #[c]) true x))).cps.toList = _
    rw [ep, StrLaws.strSub_toList]
    unfold stripHi stripLo
    simp only [if_true]
    have hd : x.cps.toList.drop (x.cps.toList.takeWhile fun d => decide (d = c)).length = x.cps.toList.dropWhile fun d => decide (d = c) := by
      conv => lhs; arg 2; rw [← List.takeWhile_append_dropWhile (p := fun d => decide (d = c)) (l := x.cps.toList)]
      rw [List.drop_left]
    have hl : x.length = (x.cps.toList.takeWhile fun d => decide (d = c)).length + (x.cps.toList.dropWhile fun d => decide (d = c)).length := by
      rw [← len_list, ← List.length_append, List.takeWhile_append_dropWhile]
    rw [hd, ← take_rstrip]
    congr 1
    omega
  rw [Bool.eq_iff_iff, str_eq, key]
  show _ = [] ↔ _
  rw [List.reverse_eq_nil_iff, dw_nil, List.all_eq_true]
  constructor
  · intro h d hd
    have h0 : ∀ d ∈ x.cps.toList.dropWhile (fun d => decide (d = c)), decide (d = c) = true := fun d hd => h d (by simpa using hd)
    have hm := hd
    rw [← List.takeWhile_append_dropWhile (p := fun d => decide (d = c)) (l := x.cps.toList)] at hm
    rcases List.mem_append.mp hm with hm | hm
    · exact tw_mem (p := fun d => decide (d = c)) hm
    · exact h0 d hm
  · intro h d hd
    exact h d ((List.dropWhile_suffix _).subset (by simpa using hd))
/-- a list of rows in the ledger -/
def RowsPre (ra : Addr) (ws : List Value) (kk : Nat) (rows : List (List Nat)) (news : List (Addr × Obj)) : Prop := (ra, listOf (List.toArray ws) kk) ∈ news ∧ ws.length = rows.length ∧ (∀ (i : Nat) (v : Value), ws[i]? = some v → ∃ r t, rows[i]? = some r ∧ v = sval r t) ∧ PlainL news
theorem row_le {rows : List (List Nat)} {i : Nat} {r : List Nat} {n : Nat} (h : rows[i]? = some r) (hf : rows.flatten.length ≤ n) : (⟨r.toArray⟩ : PySem.Str).length ≤ n := by
  show r.toArray.size ≤ n
  rw [List.size_toArray]
  have h1 : r ∈ rows := List.mem_of_getElem? h
  have h2 := (List.sublist_flatten_of_mem h1).length_le
  omega
theorem ys_rows : ∀ {rows : List (List Nat)} {ys : List Value}, ys.length = rows.length → (∀ (i : Nat) (y : Value), ys[i]? = some y → ∃ r t, rows[i]? = some r ∧ y = sval (dot1 46 r) t) → ∃ qs : List (List Nat × Tok), ys = qs.map (fun p => sval p.1 p.2) ∧ qs.map (·.1) = rows.map (dot1 46)
  | [], ys, hl, _ => ⟨[], by rw [List.length_eq_zero_iff.mp hl]; rfl, rfl⟩
  | r :: rows, ys, hl, h => by
    match ys, hl with
    | y :: ys, hl =>
      obtain ⟨r', t, e, rfl⟩ := h 0 y rfl
      cases e
      obtain ⟨qs, rfl, hq⟩ := ys_rows (rows := rows) (ys := ys) (by simpa using hl) fun i y e => h (i + 1) y e
      exact ⟨(dot1 46 r, t) :: qs, rfl, by rw [List.map_cons, List.map_cons, hq]⟩
def TestEnd (h₀ : Heap) (L : Addr) (m : PySem.Str → Option Value) (s : Shared) (led : List (Addr × Obj)) (p : Bool) (b : Bool) (s₂ : Shared) : Prop := ∃ h' tk', s₂ = { s with heap := h', toks := tk' } ∧ Fr h₀ L h' m ∧ News h₀ L h' led ∧ b = p
section
variable {prog : Program} {w : World} {A : Around} {E : Value → Shared → Prop} {s : Shared} {h₀ : Heap} {L D : Addr} {m : PySem.Str → Option Value} {news news' : List (Addr × Obj)} {env : Env} {n : Nat} {vs : List Value} {v : Value}
theorem if_test {test : PySem.Expr} {body orelse : List Stmt} {pos : Pos} {Q : Flow → Shared → Prop} (p : Bool) (_F : Fr h₀ L s.heap m) (_N : News h₀ L s.heap news) (h : wpAny (model prog w) A (isTrue test env (eval test env)) (TestEnd h₀ L m s news p) E s)
    (k : ∀ h' tk', Fr h₀ L h' m → News h₀ L h' news → p = true → wpAny (model prog w) A (execs body env) Q E { s with heap := h', toks := tk' })
    (k' : ∀ h' tk', Fr h₀ L h' m → News h₀ L h' news → p = false → wpAny (model prog w) A (execs orelse env) Q E { s with heap := h', toks := tk' }) : wpAny (model prog w) A (exec (.If test body orelse pos) env) Q E s := by
  refine wpAny_If (wpAny_mono h (fun b s₂ hq => ?_) fun _ _ e => e)
  obtain ⟨h', tk', rfl, F', N', rfl⟩ := hq
  cases b with
  | true => exact k h' tk' F' N' rfl
  | false => exact k' h' tk' F' N' rfl
theorem app_L {Q : Value → Shared → Prop} (F : Fr h₀ L s.heap m) (N : News h₀ L s.heap news) (U : Upd D (listOf vs.toArray n) (listOf (vs ++ [v]).toArray (n + 1)) news news') (hz : vs.length ≤ 1048576)
    (h : ∀ h', Fr h₀ L h' m → News h₀ L h' news' → Q .none { s with heap := h' }) : wpAny (model prog w) A (call (.builtin "list.append") [.ref D, v]) Q E s :=
  append_K (its := vs.toArray) F N (by rw [List.push_toArray]; exact U) h (by rw [List.size_toArray, sizeLine_eq]; omega)
theorem pop_L {Q : Value → Shared → Prop} (F : Fr h₀ L s.heap m) (N : News h₀ L s.heap news) (U : Upd D (listOf (vs ++ [v]).toArray n) (listOf vs.toArray (n + 1)) news news') (hz : (vs ++ [v]).length ≤ 1048576)
    (h : ∀ h', Fr h₀ L h' m → News h₀ L h' news' → Q v { s with heap := h' }) : wpAny (model prog w) A (call (.builtin "list.pop") [.ref D]) Q E s :=
  kl_pop F N (kpa_last v vs) U (by rw [sizeLine_eq]; exact Nat.le_trans hz (by decide)) h
end
theorem jA {a b c d : Bool} (h : a = false) : false = (a && (b && (c || d))) := by rw [h]; rfl
theorem jB {a b c d : Bool} (h : a = true) (h' : b = false) : false = (a && (b && (c || d))) := by rw [h, h']; rfl
theorem jC {a b c d : Bool} (h : a = true) (h' : b = true) (h'' : c = true) : true = (a && (b && (c || d))) := by rw [h, h', h'']; rfl
theorem jD {a b c d : Bool} (h : a = true) (h' : b = true) (h'' : c = false) (h3 : d = true) : true = (a && (b && (c || d))) := by rw [h, h', h'', h3]; rfl
theorem jE {a b c d : Bool} (h : a = true) (h' : b = true) (h'' : c = false) (h3 : d = false) : false = (a && (b && (c || d))) := by rw [h, h', h'', h3]; rfl
theorem one_ne {c d : Nat} : ((⟨#[c]⟩ : PySem.Str) != ⟨#[d]⟩) = decide (c ≠ d) := by
  rw [Bool.eq_iff_iff, str_ne]
  simp
theorem one_eq {c d : Nat} : ((⟨#[c]⟩ : PySem.Str) == ⟨#[d]⟩) = decide (c = d) := by
  rw [Bool.eq_iff_iff, str_eq]
  simp
theorem nil_ne {x : PySem.Str} : (x != PySem.Str.ofString "") = !x.cps.toList.isEmpty := by
  rw [Bool.eq_iff_iff, str_ne]
  show _ ≠ [] ↔ _
  cases x.cps.toList <;> simp
theorem joins_eq (x : PySem.Str) (c : Nat) : joins 47 46 x.cps.toList c = (((⟨#[c]⟩ : PySem.Str) != PySem.Str.ofString "/") && ((x != PySem.Str.ofString "") && (((⟨#[c]⟩ : PySem.Str) != PySem.Str.ofString ".") || (Txt.stripChars x (PySem.Str.ofString ".") == PySem.Str.ofString "")))) := by
  rw [lit_slash, lit_dot, one_ne, one_ne, nil_ne, strip_nil]
  rfl
theorem hd_a {X : PySem.Str} (h : ((Txt.rstripChars X (PySem.Str.ofString "/")).length : Int) ≠ 0) : (Txt.rstripChars X (PySem.Str.ofString "/")).cps.toList = hdOf 47 X.cps.toList := by
  rw [lit_slash] at h ⊢
  unfold hdOf
  rw [← len_list, rstrip_list] at h
  rw [rstrip_list, if_neg]
  intro q
  rw [q] at h
  exact h rfl
theorem hd_b {X : PySem.Str} (h : ((Txt.rstripChars X (PySem.Str.ofString "/")).length : Int) = 0) : X.cps.toList = hdOf 47 X.cps.toList := by
  rw [lit_slash, ← len_list, rstrip_list] at h
  unfold hdOf
  rw [if_pos (List.length_eq_zero_iff.mp (by omega))]
section
variable {st : List (Pt Nat) × (List Nat × List Nat)} {c : Nat}
theorem st_join {init : List (Pt Nat)} {q : Pt Nat} (h : st.1 = init ++ [q]) (hj : joins 47 46 st.2.2 c = true) : stepD 47 46 st c = (init ++ [(q.1 ++ [c], (hdOf 47 st.2.1, st.2.2 ++ [c]))], (st.2.1, st.2.2 ++ [c])) := by
  have hc : c ≠ 47 := by
    intro q
    subst q
    simp [joins] at hj
  unfold stepD
  simp only [if_neg hc, hj, if_true, h, List.dropLast_concat]
  simp [lastTxt]
theorem st_slash (h : c = 47) : stepD 47 46 st c = (st.1 ++ [([c], (hdOf 47 (st.2.1 ++ st.2.2 ++ [c]), []))], (st.2.1 ++ st.2.2 ++ [c], [])) := by
  subst h
  have hj : joins 47 46 st.2.2 47 = false := by simp [joins]
  unfold stepD
  simp [hj]
theorem st_new (h : c ≠ 47) (hj : joins 47 46 st.2.2 c = false) : stepD 47 46 st c = (st.1 ++ [([c], (hdOf 47 st.2.1, st.2.2 ++ [c]))], (st.2.1, st.2.2 ++ [c])) := by
  unfold stepD
  simp [h, hj]
theorem not_slash_of_join (hj : joins 47 46 st.2.2 c = true) : ((⟨#[c]⟩ : PySem.Str) == PySem.Str.ofString "/") = false := by
  rw [lit_slash, one_eq]
  have hc : c ≠ 47 := by
    intro q
    subst q
    simp [joins] at hj
  simpa using hc
end
theorem D_ne {l : List Nat} (h : (D 47 46 l).2.2 ≠ []) : (D 47 46 l).1 ≠ [] := by
  rcases List.eq_nil_or_concat l with rfl | ⟨r, c, rfl⟩
  · exact absurd rfl h
  · rw [List.concat_eq_append, D_snoc]
    unfold stepD
    simp
theorem D_take {l : List Nat} {i c : Nat} (h : l[i]? = some c) : D 47 46 (l.take (i + 1)) = stepD 47 46 (D 47 46 (l.take i)) c := by
  rw [List.take_add_one, h]
  exact D_snoc 47 46 _ _
theorem D_len (l : List Nat) : (D 47 46 l).1.length ≤ l.length ∧ (D 47 46 l).2.1.length ≤ l.length ∧ (D 47 46 l).2.2.length ≤ l.length := by
  refine ⟨pts_le 47 46 l, ?_, ?_⟩
  · rw [D_inv]
    have := congrArg List.length (upTo_tail 47 l)
    rw [List.length_append] at this
    show (upTo 47 l).length ≤ _
    omega
  · rw [D_inv]
    have := congrArg List.length (upTo_tail 47 l)
    rw [List.length_append] at this
    show (tailOf 47 l).length ≤ _
    omega
theorem dot_yes {r : List Nat} {t : Tok} (h : (Txt.slice ⟨r.toArray⟩ none (some 1) == PySem.Str.ofString ".") = true) : Value.str (PySem.Str.ofString "." ++ ⟨r.toArray⟩) t = sval (dot1 46 r) t := by
  have h1 := str_eq.mp h
  rw [slice_to (by omega), lit_dot] at h1
  unfold dot1 sval
  rw [if_pos (show List.take 1 r = [46] from h1)]
  congr 1
  apply str_toList_inj
  rw [app_list, lit_dot]
  rfl
theorem dot_no {r : List Nat} {t : Tok} (h : (Txt.slice ⟨r.toArray⟩ none (some 1) == PySem.Str.ofString ".") = false) : Value.str ⟨r.toArray⟩ t = sval (dot1 46 r) t := by
  have h1 := str_eqF h
  rw [slice_to (by omega), lit_dot] at h1
  unfold dot1 sval
  rw [if_neg (show ¬ List.take 1 r = [46] from h1)]
theorem dots_len (rows : List (List Nat)) : ((rows.map (dot1 46)).flatten).length ≤ rows.flatten.length + rows.length := by
  induction rows with
  | nil => simp
  | cons r rows ih =>
    have : (dot1 46 r).length ≤ r.length + 1 := by
      unfold dot1
      split <;> simp
    rw [List.map_cons, List.flatten_cons, List.flatten_cons, List.length_append, List.length_append, List.length_cons]
    omega
theorem join_room {rows : List (List Nat)} {e : List Nat} {n : Nat} (hn : rows.length ≤ 40000) (hf : rows.flatten.length ≤ 40000) (he : e.length ≤ 2) (hl : n = rows.length) : ((rows.map (dot1 46)).flatten).length + n * e.length ≤ 400000 := by
  have h1 := dots_len rows
  have h2 : n * e.length ≤ 40000 * 2 := Nat.mul_le_mul (by omega) he
  omega
theorem tot_app {α : Type} (a b : List (Pt α)) : tot (a ++ b) = tot a + tot b := by
  unfold tot
  rw [List.map_append, List.sum_append]
theorem tot_pts {α : Type} [DecidableEq α] (sl dt : α) : ∀ (n : Nat) (l : List α), l.length ≤ n → tot (pts sl dt l) = l.length := by
  intro n
  induction n with
  | zero =>
    intro l hl
    have : l = [] := List.length_eq_zero_iff.mp (Nat.le_zero.mp hl)
    subst this
    rfl
  | succ n ih =>
    intro l hl
    by_cases h : l = []
    · subst h; rfl
    · have h1 := step_lt (sl := sl) (dt := dt) h
      have h2 := congrArg List.length (root_end sl dt l h)
      rw [List.length_append] at h2
      rw [pts_cut sl dt l h, tot_app, ih _ (by omega)]
      unfold tot
      simp only [List.map_cons, List.map_nil, List.sum_cons, List.sum_nil]
      omega
theorem part_len {α : Type} {ps : List (Pt α)} {q : Pt α} (h : q ∈ ps) : q.1.length ≤ tot ps := by
  obtain ⟨a, b, rfl⟩ := List.append_of_mem h
  rw [tot_app]
  unfold tot
  rw [List.map_cons, List.sum_cons]
  omega
theorem due_end {h₀ h' : Heap} {L I la : Addr} {oI lo : Obj} {a b c : Addr × Obj} {rest tl : List (Addr × Obj)} {m' : PySem.Str → Option Value} {J : (PySem.Str → Option Value) → List (Addr × Obj) → Prop} {s : Shared} {tk : Nat}
    (F : Fr h₀ L h' m') (N : News h₀ L h' (a :: b :: c :: (la, lo) :: rest)) (hrest : ∀ p ∈ (I, oI) :: tl, p ∈ rest) (fa : Flat a.2) (fb : Flat b.2) (fc : Flat c.2) (fl : Flat lo) (hpl : PlainL tl) (hJ : J m' ((la, lo) :: a :: b :: c :: tl)) :
    LoopEnd h₀ L I oI (fun _ => True) J s .next { s with heap := h', toks := tk } := by
  refine ⟨.inl rfl, h', tk, m', (la, lo) :: a :: b :: c :: tl, a :: b :: c :: (la, lo) :: rest, rfl, F, N, ?_, .cons fl (.cons fa (.cons fb (.cons fc hpl))), trivial, hJ⟩
  intro p hp
  rcases List.mem_cons.mp hp with rfl | hp
  · exact .tail _ (.tail _ (.tail _ (.tail _ (hrest _ (.head _)))))
  · rcases List.mem_cons.mp hp with rfl | hp
    · exact .tail _ (.tail _ (.tail _ (.head _)))
    · rcases List.mem_cons.mp hp with rfl | hp
      · exact .head _
      · rcases List.mem_cons.mp hp with rfl | hp
        · exact .tail _ (.head _)
        · rcases List.mem_cons.mp hp with rfl | hp
          · exact .tail _ (.tail _ (.head _))
          · exact .tail _ (.tail _ (.tail _ (.tail _ (hrest _ (.tail _ hp)))))
theorem slash_yes {c : Nat} (h : ((⟨#[c]⟩ : PySem.Str) == PySem.Str.ofString "/") = true) : c = 47 := by
  rw [lit_slash, one_eq] at h
  simpa using h
theorem slash_no {c : Nat} (h : ((⟨#[c]⟩ : PySem.Str) == PySem.Str.ofString "/") = false) : c ≠ 47 := by
  rw [lit_slash, one_eq] at h
  simpa using h
theorem app_one {x : PySem.Str} {l : List Nat} {c : Nat} (h : x.cps.toList = l) : (x ++ (⟨#[c]⟩ : PySem.Str)).cps.toList = l ++ [c] := by
  rw [app_list, h]
theorem app_two {x y : PySem.Str} {l k : List Nat} {c : Nat} (h : x.cps.toList = l) (h' : y.cps.toList = k) : (x ++ y ++ (⟨#[c]⟩ : PySem.Str)).cps.toList = l ++ k ++ [c] := by
  rw [app_list, app_list, h, h']
theorem hd_to {X z : PySem.Str} {l : List Nat} (h : z.cps.toList = hdOf 47 X.cps.toList) (h' : X.cps.toList = l) : z.cps.toList = hdOf 47 l := by
  rw [h, h']
end Mine
end
section
open PySem PySem.W PySem.Calls PyProof.Rows
set_option Elab.async false
set_option maxRecDepth 100000
set_option maxHeartbeats 8000000
namespace Mine
local macro_rules | `(tactic| walk_at "part W11 0") => `(tactic| skip)
local macro_rules | `(tactic| walk_at "part W11 1") => `(tactic| skip)
local macro_rules | `(tactic| walk_at "part W11 2") => `(tactic| skip)
local macro_rules | `(tactic| walk_at "part W11 3") => `(tactic| skip)
local macro_rules | `(tactic| walk_at "part W11 4") => `(tactic| skip)
local macro_rules | `(tactic| walk_at "part W11 5") => `(tactic| skip)
local macro_rules | `(tactic| walk_at "part W11 6") => `(tactic| skip)

local macro_rules | `(tactic| walk_at "call type:type") => `(tactic| ((with_reducible show wpAny _ _ (call (Value.type "type") [Value.bytes _ _]) _ _ _); refine call_type_of (typeIs_bytes _ _ _) (by decide) ?_))
local macro_rules | `(tactic| walk_at "call builtin:issubclass") => `(tactic| (k_here; k_dflt (first | refine' issub_pair ?k1 ty_str sub_ss F.sub_str_bytes ?_ | refine' issub_pair ?k1 ty_bytes sub_bs sub_bb ?_); (case k1 => exact News.get (by k_asm) (by k_mem)); k_whole))

local macro_rules | `(tactic| walk_at "exec For") => `(tactic| refine halt ?_)
local macro_rules | `(tactic| walk_at "exec For Name Call cons nil") => `(tactic| refine halt ?_)
local macro_rules | `(tactic| walk_at "CompSrc") => `(tactic| refine halt ?_)
local macro_rules | `(tactic| walk_at "pyIter str") => `(tactic| refine halt ?_)
local macro_rules | `(tactic| walk_at "call builtin:str.join") => `(tactic| refine halt ?_)
local macro_rules | `(tactic| walk_at "exec If") => `(tactic| refine halt ?_)
local macro_rules | `(tactic| walk_at "call builtin:list.pop") => `(tactic| (k_here; k_dflt (refine' pop_L ?k1 ?k2 ?k3 ?k4 ?_; (case k1 => k_asm); (case k2 => k_asm); (case k3 => first | exact Upd.head (by assumption) | exact Upd.tail (by k_ne) (Upd.head (by assumption)) | exact Upd.tail (by k_ne) (Upd.tail (by k_ne) (Upd.head (by assumption))) | exact Upd.tail (by k_ne) (Upd.tail (by k_ne) (Upd.tail (by k_ne) (Upd.head (by assumption))))); (case k4 => assumption)); intro h9 F9 N9))
local macro_rules | `(tactic| walk_at "call builtin:list.append") => `(tactic| (k_here; k_dflt (refine' app_L ?k1 ?k2 ?k3 ?k4 ?_; (case k1 => k_asm); (case k2 => k_asm); (case k3 => first | exact Upd.head (by assumption) | exact Upd.tail (by k_ne) (Upd.head (by assumption)) | exact Upd.tail (by k_ne) (Upd.tail (by k_ne) (Upd.head (by assumption))) | exact Upd.tail (by k_ne) (Upd.tail (by k_ne) (Upd.tail (by k_ne) (Upd.head (by assumption))))); (case k4 => assumption)); intro h9 F9 N9))
local macro_rules | `(tactic| walk_at "eval ListComp") => `(tactic| (k_here; k_dflt (refine LCg.ListComp_U (F₀ := by k_asm) (by with_unfolding_all rfl) (by decide) (by rfl) (by decide) (by rfl) ?_)))
theorem due_str (rows : List (List Nat)) (ra : Addr) (ws : List Value) (kk : Nat) (e : List Nat) (t : Tok) (hz : (joinL e (rows.map (dot1 46))).length ≤ 40000) (hn : rows.length ≤ 40000) (hf : rows.flatten.length ≤ 40000) (he : e.length ≤ 2) : Does 202 [.ref ra, .str ⟨e.toArray⟩ t] 1 (RowsPre ra ws kk rows) (OkL ((pts 47 46 (joinL e (rows.map (dot1 46)))).map datS)) := by
  unfold Does
  k_fill
  intro w loose mean mg mb dp un gd cn cs a ccd cl outer A₀ base h₀ L m news s Q E B F X N T hk hpre hd hu hret
  refine wpAny_call ?_
  k_dflt ktr_enter
  k_steps

  refine Halt.mk ?_
  refine wpAny_For ?_
  k_steps
  refine Halt.mk ?_
  obtain ⟨hm, hwl, hws, hpl⟩ := hpre
  rename_i la _ _ _ _ _ _ _ _ _ _ _
  refine LCg.CompSrc.ledger rfl (by k_asm) (by k_asm) (by repeat' (first | exact hm | refine List.mem_cons_of_mem _ ?_)) (by rw [List.size_toArray, hwl, sizeLine_eq]; omega) ?_
  intro g
  refine comp_turns (fun i y => ∃ r t, rows[i]? = some r ∧ y = sval (dot1 46 r) t) ?_ (.inr ⟨_, by repeat' (first | exact hm | refine List.mem_cons_of_mem _ ?_), rfl, _, rfl⟩) ?_
  · intro i v I oI C oC D m₂ ys h tk E' hi hv hC hx kF kN
    obtain ⟨r, u, hr, rfl⟩ := hws i v (by rw [← List.getElem?_toArray]; exact hv)
    have hrl : (⟨r.toArray⟩ : Str).length ≤ 40000 := row_le hr hf
    k_steps
    · exact ⟨_, _, rfl, by k_asm, by k_asm, r, _, hr, dot_yes (by assumption)⟩
    · exact ⟨_, _, rfl, by k_asm, by k_asm, r, _, hr, dot_no (by assumption)⟩
  · intro ys hl hk D₉ h tk kF kN ho
    k_steps
    refine Halt.mk ?_
    obtain ⟨qs, rfl, hq⟩ := ys_rows (hl.trans (by rw [List.size_toArray, hwl])) hk
    refine str_joinE (News.get (by k_asm) (by k_mem)) ?_ ?_
    · rw [hq]
      exact join_room hn hf he (by rw [← List.length_map (f := (·.1)) (as := qs), hq, List.length_map])
    · intro h9 tk9 t9 k9
      rw [hq]
      have F9 := fr_keep (by k_asm) k9
      have N9 := news_keep (by k_asm) k9
      clear kF kN
      k_steps
      refine Halt.mk ?_
      generalize hT : joinL e (rows.map (dot1 46)) = T₉ at hz ⊢
      refine for_str rfl (by k_asm) (news := (la, listOf #[] 0) :: news) (fun q hq => N9 q (by rcases List.mem_cons.mp hq with rfl | hq; exact .tail _ (.tail _ (.head _)); exact .tail _ (.tail _ (.tail _ hq)))) (PlainL.cons (.inl rfl) hpl)
        (fun i m nx => ∃ vs k tl ah ta pc tp, nx = (la, listOf (List.toArray vs) k) :: tl ∧ (∀ p ∈ tl, p.1 ≠ la) ∧ (∀ p ∈ news, p ∈ tl) ∧ DatAll tl vs ((D 47 46 (T₉.take i)).1.map datS) ∧ m (Str.ofString "parts") = some (.ref la) ∧ m (Str.ofString "ahead") = some (.str ah ta) ∧ m (Str.ofString "piece") = some (.str pc tp) ∧ ah.cps.toList = (D 47 46 (T₉.take i)).2.1 ∧ pc.cps.toList = (D 47 46 (T₉.take i)).2.2) ?_ ?_ ?_ (by passes_own)
      · exact ⟨[], 0, news, _, _, _, _, rfl, fun p hp => Nat.ne_of_lt ((show ∀ p ∈ news, p.1 < la by assumption) p hp), fun _ h => h, .nil, rfl, rfl, rfl, rfl, rfl⟩
      · rintro i v m₁ nx I oI h tk hi ⟨c, u, hc, rfl⟩ ⟨vs, k, tl, ah, ta, pc, tp, rfl, hap, hsub, hdat, e1, e2, e3, hah, hpc⟩ hpl' hI F₁ N₁
        have hpl9 : PlainL tl := fun p hp => hpl' p (.tail _ hp)
        have hlen := D_len (T₉.take i)
        have hD := D_take (l := T₉) (i := i) (c := c) (by rw [← hc]; simp)
        have hti : (T₉.take i).length ≤ 40000 := by rw [List.length_take]; omega
        have hah' : ah.length ≤ 40000 := by rw [← len_list, hah]; omega
        have hpc' : pc.length ≤ 40000 := by rw [← len_list, hpc]; omega
        have hvs : vs.length ≤ 40000 := by rw [hdat.length, List.length_map]; omega
        have F₂ := fr_of F₁ (know e1 (know e2 (know e3 rfl)))
        clear F₁
        generalize hst : D 47 46 (T₉.take i) = st at hlen hD hah hpc hdat
        k_steps
        refine Halt.mk ?_
        refine if_test (joins 47 46 st.2.2 c) (by k_asm) (by k_asm) ?_ ?_ ?_
        · rw [← hpc, joins_eq]
          k_steps
          all_goals exact ⟨_, _, rfl, by k_asm, by k_asm, by first | exact jA (by assumption) | exact jB (by assumption) (by assumption) | exact jC (by assumption) (by assumption) (by assumption) | exact jD (by assumption) (by assumption) (by assumption) (by assumption) | exact jE (by assumption) (by assumption) (by assumption) (by assumption)⟩
        · intro h₈ tk₈ F₈ N₈ hj
          obtain ⟨init, q, hq1⟩ : ∃ init q, st.1 = init ++ [q] := by
            rcases List.eq_nil_or_concat st.1 with q | ⟨init, q, e⟩
            · exfalso
              rw [← hst] at q
              refine D_ne (l := T₉.take i) ?_ q
              rw [hst]
              intro q2
              rw [q2] at hj
              simp [joins] at hj
            · exact ⟨init, q, by rw [e, List.concat_eq_append]⟩
          have hd9 := hdat
          rw [hq1, List.map_append, List.map_singleton] at hd9
          obtain ⟨us, lv, rfl⟩ : ∃ us lv, vs = us ++ [lv] := by
            rcases List.eq_nil_or_concat vs with q | ⟨us, lv, e⟩
            · exfalso
              have := hd9.length
              rw [q, List.length_append] at this
              simp at this
            · exact ⟨us, lv, by rw [e, List.concat_eq_append]⟩
          obtain ⟨es, d, hes, hd8, hd7⟩ := hd9.snoc
          obtain ⟨rfl, hes2⟩ := List.append_inj' hes rfl
          cases hes2
          obtain ⟨T, n1, u1, T2, n2, u2, u3, rfl, hT, hT2⟩ := part_invS hd7
          have hql : (⟨q.1.toArray⟩ : Str).length ≤ 40000 := by
            have h1 := part_len (show q ∈ st.1 by rw [hq1]; simp)
            have h2 := tot_pts 47 46 _ (T₉.take i) (Nat.le_refl _)
            have h3 : st.1 = pts 47 46 (T₉.take i) := by rw [← hst]; rfl
            rw [← h3] at h2
            show q.1.toArray.size ≤ _
            rw [List.size_toArray]
            omega
          have hns := not_slash_of_join hj
          have hv2 : (us ++ [Value.ref T]).length ≤ 1048576 := by omega
          have hv3 : us.length ≤ 1048576 := by rw [List.length_append] at hv2; omega
          have hla : (@Ne Nat la I) := hI (la, _) (.head _)
          have N₉ : News _ _ h₈ ((la, listOf (List.toArray (us ++ [Value.ref T])) k) :: (T, ({ cls := .type "tuple", data := .seq #[.str ⟨q.1.toArray⟩ u1, .ref T2] n1 } : Obj)) :: (I, oI) :: tl) := fun p hp => by
            rcases List.mem_cons.mp hp with rfl | hp
            · exact N₈ _ (.tail _ (.head _))
            · rcases List.mem_cons.mp hp with rfl | hp
              · exact N₈ _ (.tail _ (.tail _ hT))
              · rcases List.mem_cons.mp hp with rfl | hp
                · exact N₈ _ (.head _)
                · exact N₈ _ (.tail _ (.tail _ hp))
          have hap2 : ∀ p ∈ (T, ({ cls := .type "tuple", data := .seq #[.str ⟨q.1.toArray⟩ u1, .ref T2] n1 } : Obj)) :: (I, oI) :: tl, p.1 ≠ la := fun p hp => by
            rcases List.mem_cons.mp hp with rfl | hp
            · exact hap _ hT
            · rcases List.mem_cons.mp hp with rfl | hp
              · exact Ne.symm hla
              · exact hap _ hp
          clear N₈ hap
          k_steps
          · refine due_end (by k_asm) (by k_asm) (fun p hp => .tail _ hp) (.inr rfl) (.inr rfl) (.inr rfl) (.inl rfl) hpl9 ?_
            refine ⟨us ++ [_], _, _, _, _, _, _, rfl, ?hap, ?sub, ?dat, rfl, rfl, rfl, ?ah, ?pc⟩
            case hap => exact List.forall_mem_cons.mpr ⟨by k_ne, List.forall_mem_cons.mpr ⟨by k_ne, List.forall_mem_cons.mpr ⟨by k_ne, fun p hp => hap2 p (.tail _ (.tail _ hp))⟩⟩⟩
            case sub => exact fun p hp => .tail _ (.tail _ (.tail _ (hsub p hp)))
            case dat =>
              rw [hD, st_join hq1 hj]
              dsimp only
              rw [List.map_append]
              refine (hd8.mono fun p hp => .tail _ (.tail _ (.tail _ hp))).append (.one ?_)
              refine' dat_partS ?m1 ?m2 ?he ?hh ?hz
              case m1 => k_mem
              case m2 => k_mem
              case he => exact app_one rfl
              case hh => exact hd_to (hd_a (by assumption)) hah
              case hz => exact app_one hpc
            case ah => rw [hD, st_join hq1 hj]; exact hah
            case pc => rw [hD, st_join hq1 hj]; exact app_one hpc
          · refine due_end (by k_asm) (by k_asm) (fun p hp => .tail _ hp) (.inr rfl) (.inr rfl) (.inr rfl) (.inl rfl) hpl9 ?_
            refine ⟨us ++ [_], _, _, _, _, _, _, rfl, ?hap, ?sub, ?dat, rfl, rfl, rfl, ?ah, ?pc⟩
            case hap => exact List.forall_mem_cons.mpr ⟨by k_ne, List.forall_mem_cons.mpr ⟨by k_ne, List.forall_mem_cons.mpr ⟨by k_ne, fun p hp => hap2 p (.tail _ (.tail _ hp))⟩⟩⟩
            case sub => exact fun p hp => .tail _ (.tail _ (.tail _ (hsub p hp)))
            case dat =>
              rw [hD, st_join hq1 hj]
              dsimp only
              rw [List.map_append]
              refine (hd8.mono fun p hp => .tail _ (.tail _ (.tail _ hp))).append (.one ?_)
              refine' dat_partS ?m1 ?m2 ?he ?hh ?hz
              case m1 => k_mem
              case m2 => k_mem
              case he => exact app_one rfl
              case hh => exact hd_to (hd_b (by assumption)) hah
              case hz => exact app_one hpc
            case ah => rw [hD, st_join hq1 hj]; exact hah
            case pc => rw [hD, st_join hq1 hj]; exact app_one hpc
        · intro h₈ tk₈ F₈ N₈ hj
          have hv3 : vs.length ≤ 1048576 := by omega
          have hla : (@Ne Nat la I) := hI (la, _) (.head _)
          have N₉ : News _ _ h₈ ((la, listOf (List.toArray vs) k) :: (I, oI) :: tl) := fun p hp => by
            rcases List.mem_cons.mp hp with rfl | hp
            · exact N₈ _ (.tail _ (.head _))
            · rcases List.mem_cons.mp hp with rfl | hp
              · exact N₈ _ (.head _)
              · exact N₈ _ (.tail _ (.tail _ hp))
          have hap2 : ∀ p ∈ (I, oI) :: tl, p.1 ≠ la := fun p hp => by
            rcases List.mem_cons.mp hp with rfl | hp
            · exact Ne.symm hla
            · exact hap _ hp
          clear N₈ hap
          k_steps
          · refine due_end (by k_asm) (by k_asm) (fun p hp => hp) (.inr rfl) (.inr rfl) (.inr rfl) (.inl rfl) hpl9 ?_
            refine ⟨vs ++ [_], _, _, _, _, _, _, rfl, ?hap, ?sub, ?dat, rfl, rfl, rfl, ?ah, ?pc⟩
            case hap => exact List.forall_mem_cons.mpr ⟨by k_ne, List.forall_mem_cons.mpr ⟨by k_ne, List.forall_mem_cons.mpr ⟨by k_ne, fun p hp => hap2 p (.tail _ hp)⟩⟩⟩
            case sub => exact fun p hp => .tail _ (.tail _ (.tail _ (hsub p hp)))
            case dat =>
              rw [hD, st_slash (slash_yes (by assumption))]
              dsimp only
              rw [List.map_append]
              refine (hdat.mono fun p hp => .tail _ (.tail _ (.tail _ hp))).append (.one ?_)
              refine' dat_partS ?m1 ?m2 ?he ?hh ?hz
              case m1 => k_mem
              case m2 => k_mem
              case he => rfl
              case hh => exact hd_to (hd_a (by assumption)) (app_two hah hpc)
              case hz => rfl
            case ah => rw [hD, st_slash (slash_yes (by assumption))]; exact app_two hah hpc
            case pc => rw [hD, st_slash (slash_yes (by assumption))]; rfl
          · refine due_end (by k_asm) (by k_asm) (fun p hp => hp) (.inr rfl) (.inr rfl) (.inr rfl) (.inl rfl) hpl9 ?_
            refine ⟨vs ++ [_], _, _, _, _, _, _, rfl, ?hap, ?sub, ?dat, rfl, rfl, rfl, ?ah, ?pc⟩
            case hap => exact List.forall_mem_cons.mpr ⟨by k_ne, List.forall_mem_cons.mpr ⟨by k_ne, List.forall_mem_cons.mpr ⟨by k_ne, fun p hp => hap2 p (.tail _ hp)⟩⟩⟩
            case sub => exact fun p hp => .tail _ (.tail _ (.tail _ (hsub p hp)))
            case dat =>
              rw [hD, st_slash (slash_yes (by assumption))]
              dsimp only
              rw [List.map_append]
              refine (hdat.mono fun p hp => .tail _ (.tail _ (.tail _ hp))).append (.one ?_)
              refine' dat_partS ?m1 ?m2 ?he ?hh ?hz
              case m1 => k_mem
              case m2 => k_mem
              case he => rfl
              case hh => exact hd_to (hd_b (by assumption)) (app_two hah hpc)
              case hz => rfl
            case ah => rw [hD, st_slash (slash_yes (by assumption))]; exact app_two hah hpc
            case pc => rw [hD, st_slash (slash_yes (by assumption))]; rfl
          · refine due_end (by k_asm) (by k_asm) (fun p hp => hp) (.inr rfl) (.inr rfl) (.inr rfl) (.inl rfl) hpl9 ?_
            refine ⟨vs ++ [_], _, _, _, _, _, _, rfl, ?hap, ?sub, ?dat, rfl, rfl, rfl, ?ah, ?pc⟩
            case hap => exact List.forall_mem_cons.mpr ⟨by k_ne, List.forall_mem_cons.mpr ⟨by k_ne, List.forall_mem_cons.mpr ⟨by k_ne, fun p hp => hap2 p (.tail _ hp)⟩⟩⟩
            case sub => exact fun p hp => .tail _ (.tail _ (.tail _ (hsub p hp)))
            case dat =>
              rw [hD, st_new (slash_no (by assumption)) hj]
              dsimp only
              rw [List.map_append]
              refine (hdat.mono fun p hp => .tail _ (.tail _ (.tail _ hp))).append (.one ?_)
              refine' dat_partS ?m1 ?m2 ?he ?hh ?hz
              case m1 => k_mem
              case m2 => k_mem
              case he => rfl
              case hh => exact hd_to (hd_a (by assumption)) hah
              case hz => exact app_one hpc
            case ah => rw [hD, st_new (slash_no (by assumption)) hj]; exact hah
            case pc => rw [hD, st_new (slash_no (by assumption)) hj]; exact app_one hpc
          · refine due_end (by k_asm) (by k_asm) (fun p hp => hp) (.inr rfl) (.inr rfl) (.inr rfl) (.inl rfl) hpl9 ?_
            refine ⟨vs ++ [_], _, _, _, _, _, _, rfl, ?hap, ?sub, ?dat, rfl, rfl, rfl, ?ah, ?pc⟩
            case hap => exact List.forall_mem_cons.mpr ⟨by k_ne, List.forall_mem_cons.mpr ⟨by k_ne, List.forall_mem_cons.mpr ⟨by k_ne, fun p hp => hap2 p (.tail _ hp)⟩⟩⟩
            case sub => exact fun p hp => .tail _ (.tail _ (.tail _ (hsub p hp)))
            case dat =>
              rw [hD, st_new (slash_no (by assumption)) hj]
              dsimp only
              rw [List.map_append]
              refine (hdat.mono fun p hp => .tail _ (.tail _ (.tail _ hp))).append (.one ?_)
              refine' dat_partS ?m1 ?m2 ?he ?hh ?hz
              case m1 => k_mem
              case m2 => k_mem
              case he => rfl
              case hh => exact hd_to (hd_b (by assumption)) hah
              case hz => exact app_one hpc
            case ah => rw [hD, st_new (slash_no (by assumption)) hj]; exact hah
            case pc => rw [hD, st_new (slash_no (by assumption)) hj]; exact app_one hpc
      · rintro h' tk m' nx kF kN hpl' ⟨vs, k, tl, ah, ta, pc, tp, rfl, hap, hsub, hdat, e1, e2, e3, hah, hpc⟩
        have F₂ := fr_of kF (know e1 rfl)
        clear kF
        k_steps
        subst hT
        have hd9 : DatAll tl vs ((pts 47 46 (joinL e (rows.map (dot1 46)))).map datS) := by
          have h1 := hdat
          rw [List.take_of_length_le (by simp)] at h1
          exact h1
        exact hret _ _ _ _ (by k_asm) (by k_asm) ⟨la, vs, k, tl, rfl, hsub, fun _ p hp => hpl' p (.tail _ hp), hd9, rfl⟩
end Mine
end
section
open PySem PySem.W PySem.Calls PyProof.Rows PySem.Builtin PySem.Builtin.Str
set_option Elab.async false
set_option maxRecDepth 100000
namespace Mine
theorem appl (x y : PySem.Str) : (x ++ y).cps.toList = x.cps.toList ++ y.cps.toList := by
  show (x.cps ++ y.cps).toList = _
  rw [Array.toList_append]
def rep2 : List Nat → List Nat
  | [] => []
  | [c] => [c]
  | c :: d :: r => if c = 13 ∧ d = 10 then 10 :: rep2 r else c :: rep2 (d :: r)
theorem rep2_cons {c : Nat} {r : List Nat} (h : ¬ (c = 13 ∧ r.take 1 = [10])) : rep2 (c :: r) = c :: rep2 r := by
  cases r with
  | nil => rfl
  | cons d r =>
    rw [rep2, if_neg]
    intro q
    exact h ⟨q.1, by rw [q.2]; rfl⟩
theorem rep2_pair (r : List Nat) : rep2 (13 :: 10 :: r) = 10 :: rep2 r := by
  rw [rep2, if_pos ⟨rfl, rfl⟩]
def AtP (L : List Nat) (k : Nat) : Prop := (L.drop k).take 2 = [13, 10]
theorem run_free {L : List Nat} : ∀ (n a : Nat), (∀ k, a ≤ k → k < a + n → ¬ AtP L k) → rep2 (L.drop a) = (L.drop a).take n ++ rep2 (L.drop (a + n)) := by
  intro n
  induction n with
  | zero => intro a _; simp
  | succ n ih =>
    intro a h
    by_cases hl : a < L.length
    · have e := List.drop_eq_getElem_cons hl
      have h0 := h a (Nat.le_refl _) (by omega)
      have ih' := ih (a + 1) fun k h1 h2 => h k (by omega) (by omega)
      rw [e, rep2_cons, ih', List.take_succ_cons, List.cons_append, show a + 1 + n = a + (n + 1) by omega]
      intro q
      apply h0
      unfold AtP
      rw [e, List.take_succ_cons, q.1, q.2]
    · rw [List.drop_of_length_le (by omega), List.drop_of_length_le (by omega)]
      rfl
theorem atP_iff (x : PySem.Str) (k : Nat) : StrLaws.At x ⟨#[13, 10]⟩ x.length k ↔ AtP x.cps.toList k := by
  unfold StrLaws.At AtP
  rw [StrLaws.subAt_eq]
  show (k + 2 ≤ x.length ∧ ((x.cps.toList.drop k).take 2 == [13, 10]) = true) ↔ _
  rw [beq_iff_eq]
  constructor
  · exact fun h => h.2
  · intro h
    refine ⟨?_, h⟩
    have := congrArg List.length h
    rw [List.length_take, List.length_drop, len_list] at this
    simp at this
    omega
theorem join_two (x : PySem.Str) : ∀ (cuts : List Nat) (a f : Nat), StrLaws.ChainG x ⟨#[13, 10]⟩ x.length a cuts f → (∀ k, f ≤ k → ¬ StrLaws.At x ⟨#[13, 10]⟩ x.length k) → (Str.join ⟨#[10]⟩ (StrLaws.partsFrom x 2 a cuts)).cps.toList = rep2 (x.cps.toList.drop a)
  | [], a, f, h, hn => by
    have e : f = a := h
    subst e
    show (strSub x f x.length).cps.toList = _
    rw [StrLaws.strSub_toList, run_free x.length f fun k h1 _ q => hn k h1 ((atP_iff x k).mpr q), List.drop_of_length_le (i := f + x.length) (by rw [len_list]; omega)]
    rw [show rep2 [] = [] from rfl, List.append_nil, List.take_of_length_le (by rw [List.length_drop, len_list]; omega), List.take_of_length_le (by rw [List.length_drop, len_list]; omega)]
  | c :: r, a, f, h, hn => by
    obtain ⟨h1, h2, h3, h4⟩ := h
    obtain ⟨p, q, e⟩ := StrLaws.partsFrom_ne x 2 (c + 2) r
    have ih := join_two x r (c + 2) f h4 hn
    show (Str.join ⟨#[10]⟩ (strSub x a c :: StrLaws.partsFrom x 2 (c + 2) r)).cps.toList = _
    rw [e] at ih ⊢
    show (strSub x a c ++ ⟨#[10]⟩ ++ Str.join ⟨#[10]⟩ (p :: q)).cps.toList = _
    rw [appl, appl, ih, StrLaws.strSub_toList, run_free (c - a) a fun k k1 k2 q => h3 k k1 (by omega) ((atP_iff x k).mpr q)]
    rw [show a + (c - a) = c by omega]
    have hA := (atP_iff x c).mp h2
    unfold AtP at hA
    have e3 : x.cps.toList.drop c = 13 :: 10 :: x.cps.toList.drop (c + 2) := by
      rw [← List.take_append_drop 2 (x.cps.toList.drop c), hA, List.drop_drop]
      rfl
    rw [e3, rep2_pair]
    simp
theorem replace_two (x : PySem.Str) : (Txt.replace x ⟨#[13, 10]⟩ ⟨#[10]⟩).cps.toList = rep2 x.cps.toList := by
  obtain ⟨f, hG, hn⟩ := StrLaws.occ_tight x ⟨#[13, 10]⟩ (by decide)
  have key := join_two x _ 0 f hG hn
  rw [List.drop_zero] at key
  unfold Txt.replace
  rw [show ((⟨#[13, 10]⟩ : PySem.Str).length == 0) = false from rfl, Bool.false_and, Bool.or_false]
  cases ho : occurrences x ⟨#[13, 10]⟩ 0 x.length (x.length + 1) with
  | nil =>
    rw [ho] at key
    rw [if_pos (show ([] : List Nat).isEmpty = true from rfl), ← key]
    show _ = (strSub x 0 x.length).cps.toList
    rw [StrLaws.sub_whole]
  | cons i r =>
    rw [ho] at key
    rw [if_neg (by simp), StrLaws.glued_eq_join, StrLaws.partsBetween_eq]
    exact key
def cr (c : Nat) : Nat := if c = 13 then 10 else c
theorem map_free {l : List Nat} (h : 13 ∉ l) : l.map cr = l := by
  induction l with
  | nil => rfl
  | cons c r ih =>
    have hc : c ≠ 13 := fun q => h (q ▸ List.mem_cons_self ..)
    rw [List.map_cons, ih fun m => h (List.mem_cons_of_mem _ m)]
    unfold cr
    rw [if_neg hc]
theorem cr_join : ∀ parts : List PySem.Str, (∀ p ∈ parts, 13 ∉ p.cps.toList) → (Str.join ⟨#[13]⟩ parts).cps.toList.map cr = (Str.join ⟨#[10]⟩ parts).cps.toList
  | [], _ => rfl
  | [p], h => map_free (h p (List.mem_singleton.mpr rfl))
  | p :: q :: r, h => by
    have ih := cr_join (q :: r) fun a ha => h a (List.mem_cons_of_mem _ ha)
    show (p ++ ⟨#[13]⟩ ++ Str.join ⟨#[13]⟩ (q :: r)).cps.toList.map cr = (p ++ ⟨#[10]⟩ ++ Str.join ⟨#[10]⟩ (q :: r)).cps.toList
    rw [appl, appl, appl, appl, List.map_append, List.map_append, ih, map_free (h p (List.mem_cons_self ..))]
    rfl
theorem replace_cr (x : PySem.Str) : (Txt.replace x ⟨#[13]⟩ ⟨#[10]⟩).cps.toList = x.cps.toList.map cr := by
  rw [StrLaws.replace_one, ← cr_join _ (StrLaws.split_free x 13), StrLaws.join_split]
theorem Nb_head {r : List Nat} (h : r.take 1 ≠ [10]) : Nb true r = Nb false r := by
  cases r with
  | nil => rfl
  | cons c r =>
    have hc : c ≠ 10 := fun q => h (by rw [q]; rfl)
    simp only [Nb, if_neg hc]
theorem nb_rep : ∀ (n : Nat) (l : List Nat), l.length ≤ n → (rep2 l).map cr = Nb false l := by
  intro n
  induction n with
  | zero =>
    intro l hl
    rw [List.length_eq_zero_iff.mp (Nat.le_zero.mp hl)]
    rfl
  | succ n ih =>
    intro l hl
    cases l with
    | nil => rfl
    | cons c r =>
      by_cases h : c = 13 ∧ r.take 1 = [10]
      · obtain ⟨rfl, h2⟩ := h
        cases r with
        | nil => simp at h2
        | cons d r =>
          have hd : d = 10 := by simpa using h2
          subst hd
          rw [rep2_pair, List.map_cons, ih r (by simp at hl; omega)]
          simp [Nb, cr]
      · rw [rep2_cons h, List.map_cons, ih r (by simp at hl; omega)]
        by_cases h10 : c = 10
        · subst h10; simp [Nb, cr]
        · by_cases h13 : c = 13
          · subst h13
            have : r.take 1 ≠ [10] := fun q => h ⟨rfl, q⟩
            simp [Nb, cr, Nb_head this]
          · simp [Nb, cr, h10, h13]
/-- the rows of the law -/
theorem rows_nb (x : PySem.Str) : (Txt.replace (Txt.replace x ⟨#[13, 10]⟩ ⟨#[10]⟩) ⟨#[13]⟩ ⟨#[10]⟩).cps.toList = Nb false x.cps.toList := by
  rw [replace_cr, replace_two]
  exact nb_rep _ _ (Nat.le_refl _)
theorem join_joinL (sep : PySem.Str) : ∀ ps : List PySem.Str, (Str.join sep ps).cps.toList = joinL sep.cps.toList (ps.map fun p => p.cps.toList)
  | [] => rfl
  | [p] => rfl
  | p :: q :: r => by
    have ih := join_joinL sep (q :: r)
    show (p ++ sep ++ Str.join sep (q :: r)).cps.toList = _
    rw [appl, appl, ih]
    rfl
/-- split by a feed -/
theorem split_rows (x : PySem.Str) : joinL [10] ((Txt.split x ⟨#[10]⟩).map fun p => p.cps.toList) = x.cps.toList ∧ ∀ r ∈ (Txt.split x ⟨#[10]⟩).map (fun p => p.cps.toList), 10 ∉ r := by
  constructor
  · have := join_joinL ⟨#[10]⟩ (Txt.split x ⟨#[10]⟩)
    rw [StrLaws.join_split] at this
    exact this.symm
  · intro r hr
    obtain ⟨p, hp, rfl⟩ := List.mem_map.mp hr
    exact StrLaws.split_free x 10 p hp
end Mine
end
section
set_option Elab.async false
set_option maxRecDepth 100000
namespace Mine
section
variable {α β : Type} [DecidableEq α] [DecidableEq β] (f : α → β) {sl dt fd : α}
def mapPt (p : Pt α) : Pt β := (p.1.map f, (p.2.1.map f, p.2.2.map f))
def mapSt (st : List (Pt α) × (List α × List α)) : List (Pt β) × (List β × List β) := (st.1.map (mapPt f), (st.2.1.map f, st.2.2.map f))
theorem dw_map {p : β → Bool} {q : α → Bool} : ∀ {l : List α}, (∀ c ∈ l, p (f c) = q c) → (l.map f).dropWhile p = (l.dropWhile q).map f
  | [], _ => rfl
  | c :: l, h => by
    have h1 := h c (List.mem_cons_self ..)
    have ih := dw_map (l := l) fun d hd => h d (List.mem_cons_of_mem _ hd)
    rw [List.map_cons, List.dropWhile_cons, List.dropWhile_cons, h1]
    by_cases hq : q c = true
    · rw [if_pos hq, if_pos hq, ih]
    · rw [if_neg hq, if_neg hq, List.map_cons]
theorem dec_map {c k : α} (h : f c = f k → c = k) : decide (f c = f k) = decide (c = k) := by
  rw [decide_eq_decide]
  exact ⟨h, fun e => by rw [e]⟩
theorem rstrip_map {l : List α} (h : ∀ c ∈ l, f c = f sl → c = sl) : rstripOf (f sl) (l.map f) = (rstripOf sl l).map f := by
  unfold rstripOf
  rw [← List.map_reverse, dw_map f (q := fun c => decide (c = sl)) fun c hc => dec_map f (h c (by simpa using hc)), List.map_reverse]
theorem hd_map {l : List α} (h : ∀ c ∈ l, f c = f sl → c = sl) : hdOf (f sl) (l.map f) = (hdOf sl l).map f := by
  unfold hdOf
  rw [rstrip_map f h]
  by_cases q : rstripOf sl l = []
  · rw [q, if_pos rfl, if_pos (by simp)]
  · rw [if_neg q, if_neg (by simpa using q)]
theorem joins_map {pc : List α} {c : α} (h1 : f c = f sl → c = sl) (h2 : f c = f dt → c = dt) (h : ∀ x ∈ pc, f x = f dt → x = dt) : joins (f sl) (f dt) (pc.map f) (f c) = joins sl dt pc c := by
  have ha : (pc.map f).all (fun d => decide (d = f dt)) = pc.all (fun d => decide (d = dt)) := by
    rw [List.all_map]
    rw [Bool.eq_iff_iff, List.all_eq_true, List.all_eq_true]
    constructor
    · intro q x hx
      have := q x hx
      simp only [Function.comp_apply, decide_eq_true_eq] at this ⊢
      exact h x hx this
    · intro q x hx
      have := q x hx
      simp only [Function.comp_apply, decide_eq_true_eq] at this ⊢
      rw [this]
  have e1 : decide (f c ≠ f sl) = decide (c ≠ sl) := by
    rw [decide_eq_decide]
    exact not_congr ⟨h1, fun e => by rw [e]⟩
  have e2 : decide (f c ≠ f dt) = decide (c ≠ dt) := by
    rw [decide_eq_decide]
    exact not_congr ⟨h2, fun e => by rw [e]⟩
  unfold joins
  rw [ha, e1, e2, List.isEmpty_map]
theorem last_map (ps : List (Pt α)) : lastTxt (ps.map (mapPt f)) = (lastTxt ps).map f := by
  unfold lastTxt
  rw [List.getLast?_map]
  cases ps.getLast? <;> rfl
theorem stepD_map {st : List (Pt α) × (List α × List α)} {c : α} (h1 : f c = f sl → c = sl) (h2 : f c = f dt → c = dt) (h3 : ∀ x ∈ st.2.1, f x = f sl → x = sl) (h4 : ∀ x ∈ st.2.2, (f x = f sl → x = sl) ∧ (f x = f dt → x = dt)) :
    stepD (f sl) (f dt) (mapSt f st) (f c) = mapSt f (stepD sl dt st c) := by
  have hj : joins (f sl) (f dt) (mapSt f st).2.2 (f c) = joins sl dt st.2.2 c := joins_map f h1 h2 fun x hx => (h4 x hx).2
  have hl : lastTxt (mapSt f st).1 = (lastTxt st.1).map f := last_map f st.1
  have hdl : (mapSt f st).1.dropLast = st.1.dropLast.map (mapPt f) := by
    show (st.1.map (mapPt f)).dropLast = _
    rw [List.map_dropLast]
  unfold stepD
  rw [hj, hl, hdl]
  by_cases hc : c = sl
  · subst hc
    have hm : ∀ x ∈ st.2.1 ++ st.2.2 ++ [c], f x = f c → x = c := by
      intro x hx
      rcases List.mem_append.mp hx with hx | hx
      · rcases List.mem_append.mp hx with hx | hx
        · exact h3 x hx
        · exact (h4 x hx).1
      · intro _; exact List.mem_singleton.mp hx
    have hh := hd_map f hm
    have e : (mapSt f st).2.1 ++ (mapSt f st).2.2 ++ [f c] = (st.2.1 ++ st.2.2 ++ [c]).map f := by
      simp [mapSt]
    simp only [if_true]
    rw [e, hh]
    by_cases hq : joins c dt st.2.2 c = true
    · simp [hq, mapSt, mapPt]
    · simp [hq, mapSt, mapPt]
  · have hc' : ¬ f c = f sl := fun q => hc (h1 q)
    simp only [if_neg hc, if_neg hc']
    have hh := hd_map f h3
    have hh' : hdOf (f sl) (mapSt f st).2.1 = (hdOf sl st.2.1).map f := hh
    rw [hh']
    by_cases hq : joins sl dt st.2.2 c = true
    · simp [hq, mapSt, mapPt]
    · simp [hq, mapSt, mapPt]
theorem D_map : ∀ l : List α, (∀ c ∈ l, (f c = f sl → c = sl) ∧ (f c = f dt → c = dt)) → D (f sl) (f dt) (l.map f) = mapSt f (D sl dt l) := by
  intro l
  induction l using snoc_ind with
  | h0 => intro _; rfl
  | h1 l c ih =>
    intro h
    have h' : ∀ x ∈ l, (f x = f sl → x = sl) ∧ (f x = f dt → x = dt) := fun x hx => h x (List.mem_append_left _ hx)
    have hc := h c (by simp)
    have hu := upTo_tail sl l
    rw [List.map_append, List.map_singleton, D_snoc, D_snoc, ih h', stepD_map f hc.1 hc.2]
    · intro x hx
      rw [D_inv] at hx
      exact (h' x (hu ▸ List.mem_append_left _ hx)).1
    · intro x hx
      rw [D_inv] at hx
      exact h' x (hu ▸ List.mem_append_right _ hx)
theorem pts_map {l : List α} (h : ∀ c ∈ l, (f c = f sl → c = sl) ∧ (f c = f dt → c = dt)) : pts (f sl) (f dt) (l.map f) = (pts sl dt l).map (mapPt f) := by
  unfold pts
  rw [D_map f l h]
  rfl
theorem U_map : ∀ (l : List α) (b : Bool), (∀ c ∈ l, (f c = f dt → c = dt) ∧ (f c = f fd → c = fd)) → U (f dt) (f fd) b (l.map f) = (U dt fd b l).map f
  | [], _, _ => rfl
  | c :: r, b, h => by
    have hc := h c (List.mem_cons_self ..)
    have e1 : (f c = f dt ∧ b = true) ↔ (c = dt ∧ b = true) := and_congr_left fun _ => ⟨hc.1, fun e => by rw [e]⟩
    rw [List.map_cons, U, U, dec_map f hc.2, U_map r _ fun x hx => h x (List.mem_cons_of_mem _ hx)]
    by_cases q : c = dt ∧ b = true
    · rw [if_pos q, if_pos (e1.mpr q)]
    · rw [if_neg q, if_neg fun z => q (e1.mp z), List.map_cons]
end
/-- octets of signs -/
abbrev o8 (c : Nat) : UInt8 := c.toUInt8
theorem o8_inj {c k : Nat} (hc : c < 256) (hk : k < 256) (h : o8 c = o8 k) : c = k := by
  have := congrArg UInt8.toNat h
  simp [o8, Nat.toUInt8] at this
  omega
theorem o8_back {l : List Nat} (h : ∀ c ∈ l, c < 256) : (l.map o8).map (·.toNat) = l := by
  rw [List.map_map]
  conv => rhs; rw [← List.map_id l]
  refine List.map_congr_left fun c hc => ?_
  have := h c hc
  simp [o8, Nat.toUInt8]
  omega
theorem qt_in {l : List Nat} : ∀ {b : Bool}, (∀ c ∈ l, c < 256) → ∀ c ∈ qt 46 10 b l, c < 256 := by
  induction l with
  | nil => intro b _ c hc; simp [qt] at hc
  | cons d r ih =>
    intro b h c hc
    have hd := h d (List.mem_cons_self ..)
    have hr : ∀ c ∈ r, c < 256 := fun c hc => h c (List.mem_cons_of_mem _ hc)
    rw [qt] at hc
    split at hc
    · rcases List.mem_cons.mp hc with rfl | hc
      · exact hd
      · rcases List.mem_cons.mp hc with rfl | hc
        · exact hd
        · exact ih hr c hc
    · rcases List.mem_cons.mp hc with rfl | hc
      · exact hd
      · exact ih hr c hc
theorem pts_o8 {l : List Nat} (h : ∀ c ∈ l, c < 256) : pts (47 : UInt8) 46 (l.map o8) = (pts 47 46 l).map (mapPt o8) :=
  pts_map o8 (sl := 47) (dt := 46) fun c hc => ⟨o8_inj (h c hc) (by decide), o8_inj (h c hc) (by decide)⟩
theorem U_o8 {l : List Nat} (h : ∀ c ∈ l, c < 256) : U (46 : UInt8) 10 true (l.map o8) = (U 46 10 true l).map o8 :=
  U_map o8 (dt := 46) (fd := 10) l true fun c hc => ⟨o8_inj (h c hc) (by decide), o8_inj (h c hc) (by decide)⟩
/-- the text's laws -/
theorem once_rows {W : List Nat} {R : List (List Nat)} (h : joinL [10] R = Nb false W) (hf : ∀ r ∈ R, 10 ∉ r) : qt 46 10 true (Fb false W) = joinL [13, 10] (R.map (dot1 46)) := by
  rw [Fb_Nb, ← h, crlf_join R hf]
  exact qt_join 46 10 (by decide) [13] (by decide) R hf
theorem oct_rows {W : List Nat} {R : List (List Nat)} (h : joinL [10] R = W) (hf : ∀ r ∈ R, 10 ∉ r) : qt 46 10 true W = joinL [10] (R.map (dot1 46)) := by
  rw [← h]
  exact qt_join 46 10 (by decide) [] (by decide) R hf
theorem read_once (L : List Nat) : (readP 46 10 (pts 47 46 (qt 46 10 true L))).1 = L := by
  rw [readP_pts 47 46 10 (by decide) _ _ (Nat.le_refl _)]
  exact U_qt 46 10 (by decide) true L
theorem twice_same (W : List Nat) : qt 46 10 true (Fb false (qt 46 10 true (Fb false W))) = qt 46 10 true (qt 46 10 true (Fb false W)) := by
  rw [Fb_qt]
theorem len_rows {W : List Nat} {R : List (List Nat)} (h : joinL [10] R = Nb false W) (hf : ∀ r ∈ R, 10 ∉ r) :
    (pts 47 46 (qt 46 10 true (qt 46 10 true (Fb false W)))).length = (pts 47 46 (qt 46 10 true (Fb false W))).length + ((R.drop 1).filter fun r => decide (r.take 1 = [46])).length := by
  rw [pts_len, pts_len, np_qt0 47 46 10 (by decide) (by decide) (by decide)]
  congr 1
  rw [Fb_Nb, ← h, crlf_join R hf]
  exact (cnt_join 46 10 [13] (by decide) R hf).2
theorem read_oct {l : List Nat} (h : ∀ c ∈ l, c < 256) : (readP (46 : UInt8) 10 (pts 47 46 ((qt 46 10 true l).map o8))).1 = l.map o8 := by
  rw [readP_pts 47 46 10 (by decide) _ _ (Nat.le_refl _)]
  show U (46 : UInt8) 10 true _ = _
  rw [U_o8 (qt_in h), U_qt 46 10 (by decide) true l]
end Mine
end
section
open PySem PySem.W PySem.Calls PyProof.Rows
set_option Elab.async false
set_option maxRecDepth 100000
namespace Mine
/-- a sign or two below 256 -/
def Tx (v : Value) : Prop := ∃ l t, v = sval l t ∧ l.length ≤ 2 ∧ ∀ c ∈ l, c < 256
section
variable {prog : Program} {w : World} {A : Around} {E : Value → Shared → Prop} {s : Shared} {value slice : PySem.Expr} {l : Addr} {vs : List Value} {i : Int} {u : Tok} {Q : Value → Shared → Prop}
theorem menu_item (hl : s.heap.IsList l vs.toArray) (h0 : 0 ≤ i) (h1 : i < (vs.length : Int)) (hfit : i < 2 ^ 63) (hall : ∀ v ∈ vs, Tx v) (h : ∀ v, Tx v → Q v s)
    (hs : subscripted slice false (.ref l) (.int i u) = operate [.ref l, .int i u] (getItem (.ref l) (.int i u)) := by with_unfolding_all rfl) :
    wpAny (model prog w) A (subscriptTail value slice (.ref l) (.int i u)) Q E s := by
  have hlt : i.toNat < vs.length := by omega
  exact tail_any hl.typeIs slot_list_getitem.lookup (wpAny_getItem_list hl h0 hfit (by rw [List.getElem?_toArray, List.getElem?_eq_getElem hlt]) (h _ (hall _ (List.getElem_mem hlt)))) hs
end
theorem tx_lit {x : PySem.Str} {t : Tok} (h1 : x.cps.toList.length ≤ 2) (h2 : ∀ c ∈ x.cps.toList, c < 256) : Tx (.str x t) := ⟨x.cps.toList, t, rfl, h1, h2⟩
theorem fmod_in (n m : Int) (h : 0 < m) : 0 ≤ n.fmod m ∧ n.fmod m < m := ⟨Int.fmod_nonneg_of_pos _ h, Int.fmod_lt_of_pos _ h⟩
theorem tx_chr {n : Int} {t : Tok} : Tx (.str ⟨#[((n.fdiv 8).fmod 256).toNat]⟩ t) := by
  refine tx_lit (by simp) fun c hc => ?_
  have h := fmod_in (n.fdiv 8) 256 (by decide)
  have : c = ((n.fdiv 8).fmod 256).toNat := by simpa using hc
  omega
theorem tx_all {n : Int} {t1 t2 t3 t4 t5 t6 t7 t8 : Tok} : ∀ v ∈ [Value.str (PySem.Str.ofString "/") t1, .str (PySem.Str.ofString ".") t2, .str (PySem.Str.ofString "..") t3, .str (PySem.Str.ofString "a") t4, .str (PySem.Str.ofString "\n") t5, .str (PySem.Str.ofString "\r") t6, .str (PySem.Str.ofString ".a") t7, .str ⟨#[((n.fdiv 8).fmod 256).toNat]⟩ t8], Tx v := by
  refine List.forall_mem_cons.mpr ⟨tx_lit (by decide) (by decide), ?_⟩
  refine List.forall_mem_cons.mpr ⟨tx_lit (by decide) (by decide), ?_⟩
  refine List.forall_mem_cons.mpr ⟨tx_lit (by decide) (by decide), ?_⟩
  refine List.forall_mem_cons.mpr ⟨tx_lit (by decide) (by decide), ?_⟩
  refine List.forall_mem_cons.mpr ⟨tx_lit (by decide) (by decide), ?_⟩
  refine List.forall_mem_cons.mpr ⟨tx_lit (by decide) (by decide), ?_⟩
  refine List.forall_mem_cons.mpr ⟨tx_lit (by decide) (by decide), ?_⟩
  exact List.forall_mem_cons.mpr ⟨tx_chr, fun _ h => nomatch h⟩
def SrcOk (h₀ : Heap) (L : Addr) (m : PySem.Str → Option Value) (la : Addr) (s : Shared) (xv : Value) (s₁ : Shared) : Prop := ∃ ax its k ns h' tk', xv = .ref ax ∧ s₁ = { s with heap := h', toks := tk' } ∧ Fr h₀ L h' m ∧ News h₀ L h' [(ax, listOf (List.toArray its) k), (la, listOf #[] 0)] ∧ IntsAre its ns ∧ ns.length ≤ 10 ∧ (@Ne Nat la ax)
theorem for_src {prog : Program} {w : World} {A : Around} {E : Value → Shared → Prop} {Q : Flow → Shared → Prop} {s : Shared} {env : Env} {h₀ : Heap} {L : Addr} {m : PySem.Str → Option Value} {target iter : PySem.Expr} {body orelse : List Stmt} {pos : Pos} (la : Addr) (_F : Fr h₀ L s.heap m) (h : wpAny (model prog w) A (eval iter env) (SrcOk h₀ L m la s) E s)
    (k : ∀ xv s₁, SrcOk h₀ L m la s xv s₁ → wpAny (model prog w) A (pyIter xv) (fun it s₂ => codeAny (model prog w) A (.forLoop target it body orelse env) (fun r s' => match r with | .ok f => Q f s' | .error e => cameBackBy (model prog w) A env E e s') s₂) E s₁)
    (hs : ∀ x, foldedSetIterable iter env x = pure x := by intro _; rfl) : wpAny (model prog w) A (exec (.For target iter body orelse pos) env) Q E s :=
  wpAny_For (wpAny_mono h k fun _ _ e => e) hs
end Mine
end
section
open PySem PySem.W PySem.Calls PyProof.Rows PyProof.Rows.LCg
set_option Elab.async false
set_option maxRecDepth 100000
set_option maxHeartbeats 4000000
namespace Mine
section
variable {prog : Program} {w : World} {A : Around} {env : Env} {h₀ : Heap} {L : Addr} {m : Str → Option Value}
/-- the turns of a comprehension with a test; only how many pass is told -/
theorem comp_turnsT {ct elt : Expr} {x : Str} {scope : Scope} {cl : List (Str × Addr)} {s : Shared} {S : List (Addr × Obj) → Prop} {P : Nat → Value → Prop} {Fin : List Value → List (Addr × Obj) → Prop} {n : Nat} {news : List (Addr × Obj)} (tst : Nat → Bool)
    (turn : ∀ i v I oI C oC D m₂ ys h tk (E' : Value → Shared → Prop), i < n → P i v → NsObj oC m₂ → m₂ x = some v → Fr h₀ L h m → News h₀ L h ((I, oI) :: (C, oC) :: (D, lst ys) :: news) →
      wpAny (model prog w) A (isTrue ct (compEnvC scope cl C env) (eval ct (compEnvC scope cl C env))) (fun ok s' => ok = tst i ∧ TurnEnd h₀ L m s ((I, oI) :: (C, oC) :: (D, lst ys) :: news) (fun _ => True) Value.none s') E' { s with heap := h, toks := tk })
    (last : ∀ i v I oI C oC D m₂ ys h tk (E' : Value → Shared → Prop), i < n → P i v → NsObj oC m₂ → m₂ x = some v → Fr h₀ L h m → News h₀ L h ((I, oI) :: (C, oC) :: (D, lst ys) :: news) →
      wpAny (model prog w) A (eval elt (compEnvC scope cl C env)) (TurnEnd h₀ L m s ((I, oI) :: (C, oC) :: (D, lst ys) :: news) (fun _ => True)) E' { s with heap := h, toks := tk })
    (hS : S news) (fin : ∀ ys : List Value, ys.length = (List.range n).countP tst → Fin ys news) : LCt.CompRestT prog w A h₀ L m env ct elt x scope cl s S P Fin n 0 [] news := by
  have key : ∀ (j i : Nat) (ys : List Value), i + j = n → ys.length = (List.range i).countP tst → LCt.CompRestT prog w A h₀ L m env ct elt x scope cl s S P Fin j i ys news := by
    intro j
    induction j with
    | zero =>
      intro i ys hi hl
      exact LCt.CompRestT.zero (fin ys (by rw [hl, ← hi]; rfl))
    | succ j ih =>
      intro i ys hi hl
      refine LCt.CompRestT.succ ?_
      intro v I oI C oC D m₂ h tk E' hv hC hx F N off ne
      refine wpAny_mono (turn i v I oI C oC D m₂ ys h tk E' (by omega) hv hC hx F N) (fun ok s₂ hq => ?_) fun _ _ e => e
      obtain ⟨hok, h', tk', e, F', N', _⟩ := hq
      subst e
      cases ok with
      | true =>
        rw [if_pos rfl]
        refine wpAny_mono (last i v I oI C oC D m₂ ys h' tk' E' (by omega) hv hC hx F' N') (fun y s₃ hq => ?_) fun _ _ e => e
        obtain ⟨h5, tk5, e, F5, N5, _⟩ := hq
        exact ⟨h5, tk5, news, e, F5, N5, off, hS, ih (i + 1) _ (by omega) (by rw [List.length_append, hl, List.range_succ, List.countP_append, List.countP_singleton, ← hok]; rfl)⟩
      | false =>
        rw [if_neg Bool.false_ne_true]
        exact ⟨h', tk', news, rfl, F', N', off, hS, ih (i + 1) _ (by omega) (by rw [hl, List.range_succ, List.countP_append, List.countP_singleton, ← hok]; rfl)⟩
  exact key n 0 [] (by omega) rfl
end
end Mine
end
section
open PySem PySem.W PySem.Calls PyProof.Rows PySem.SeqAt
set_option Elab.async false
set_option maxRecDepth 100000
namespace Mine
/-- texts, octets, and tuples of such, of depth n at most -/
def okD : Nat → Dat → Bool
  | _, .str _ => true
  | _, .bytes _ => true
  | n + 1, .tuple ds => ds.all (okD n)
  | _, _ => false
theorem okD_S (p : Pt Nat) : okD 2 (datS p) = true := rfl
theorem okD_B (p : Pt UInt8) : okD 2 (datB p) = true := rfl
theorem all_true {n : Nat} : (List.range n).all (fun _ => true) = true := by simp
theorem datAll_len {n1 : List (Addr × Obj)} : ∀ {vs : List Value} {ds : List Dat}, DatAll n1 vs ds → vs.length = ds.length
  | _, _, .nil => rfl
  | _, _, .cons _ r => by rw [List.length_cons, List.length_cons, datAll_len r]
section
variable {s : Shared} {h₀ : Heap} {L : Addr} {news : List (Addr × Obj)}
theorem eq_all (n : Nat) (A : Around) (ih : ∀ {v u : Value} {d : Dat}, DatIn news v d → DatIn news u d → okD n d = true → EqAt A s v u true) : ∀ (ds : List Dat) {vs us : List Value}, DatAll news vs ds → DatAll news us ds → (∀ d ∈ ds, okD n d = true) → ∀ j (h1 : j < vs.length) (h2 : j < us.length), EqAt A s vs[j] us[j] true := by
  intro ds
  induction ds with
  | nil =>
    intro vs us h1 h2 _ j h3
    rw [inv_nil h1] at h3
    exact absurd h3 (Nat.not_lt_zero _)
  | cons d ds hi =>
    intro vs us h1 h2 hk j h3 h4
    obtain ⟨v, r, rfl, a1, a2⟩ := inv_cons h1
    obtain ⟨u, q, rfl, b1, b2⟩ := inv_cons h2
    cases j with
    | zero => exact ih a1 b1 (hk _ (.head _))
    | succ j => exact hi a2 b2 (fun d hm => hk d (.tail _ hm)) j (Nat.lt_of_succ_lt_succ h3) (Nat.lt_of_succ_lt_succ h4)
theorem eq_in (N : News h₀ L s.heap news) : ∀ (n : Nat) (A : Around) {v u : Value} {d : Dat}, DatIn news v d → DatIn news u d → okD n d = true → A.units + n < cLine → EqAt A s v u true := by
  have flat : ∀ (A : Around) {v u : Value} {d : Dat}, DatIn news v d → DatIn news u d → okD 0 d = true → EqAt A s v u true := by
    intro A v u d h1 h2 hk
    cases d with
    | str x =>
      obtain ⟨t, rfl⟩ := inv_str h1
      obtain ⟨t', rfl⟩ := inv_str h2
      have := EqAt.str_str (A := A) (s := s) x t x t'
      rwa [beq_self_eq_true] at this
    | bytes b =>
      obtain ⟨t, rfl⟩ := inv_bytes h1
      obtain ⟨t', rfl⟩ := inv_bytes h2
      exact fun prog w E Q h => eqBool_bytes (by rw [decide_eq_true rfl]; exact h)
    | _ => exact absurd hk Bool.false_ne_true
  intro n
  induction n with
  | zero => exact fun A v u d h1 h2 hk _ => flat A h1 h2 hk
  | succ n ih =>
    intro A v u d h1 h2 hk hu
    by_cases hf : okD 0 d = true
    · exact flat A h1 h2 hf
    · cases d with
      | tuple ds =>
        obtain ⟨a, vs, k1, rfl, hm, r⟩ := inv_tuple h1
        obtain ⟨b, us, k2, rfl, hm', r'⟩ := inv_tuple h2
        by_cases hab : a = b
        · subst hab; exact EqAt.same _
        · refine EqAt.of_refs hab ?_
          have z := eq_all n A.in1 (fun a b c => ih A.in1 a b c (by rw [units_in1]; omega)) ds r r' (List.all_eq_true.mp hk)
          have := RcAt.tuples (A := A) (s := s) (e := fun _ => true) (l := a) (b := b) ⟨_, N.get hm, rfl, _, rfl⟩ ⟨_, N.get hm', rfl, _, rfl⟩ (by omega) (fun j h1 h2 => z j (by simpa using h1) (by simpa using h2))
          rw [all_true] at this
          simpa [datAll_len r, datAll_len r'] using this
      | str x => exact absurd rfl hf
      | bytes x => exact absurd rfl hf
      | _ => exact absurd hk Bool.false_ne_true
end
section
variable {prog : Program} {w : World} {A : Around} {E : Value → Shared → Prop} {s : Shared} {h₀ : Heap} {L a b : Addr} {news : List (Addr × Obj)} {vs us : List Value} {ka kb n : Nat} {ds : List Dat} {Q : Value → Shared → Prop}
/-- two lists of the same data: != says no -/
theorem ne_same (N : News h₀ L s.heap news) (ma : (a, listOf vs.toArray ka) ∈ news) (Da : DatAll news vs ds) (mb : (b, listOf us.toArray kb) ∈ news) (Db : DatAll news us ds) (hk : ∀ d ∈ ds, okD n d = true) (hu : A.units + 64 < cLine) (hn : n ≤ 60)
    (h : Q (.bool false) s) : wpAny (model prog w) A (compareOp .NotEq (.ref a) (.ref b)) Q E s := by
  have z := eq_all n A.in1 (fun a b c => eq_in N n A.in1 a b c (by rw [units_in1]; omega)) ds Da Db hk
  have := RcNeAt.lists (A := A) (s := s) (e := fun _ => true) (l := a) (b := b) ⟨_, N.get ma, rfl, _, rfl⟩ ⟨_, N.get mb, rfl, _, rfl⟩ (by simp [datAll_len Da, datAll_len Db]) (by omega) (fun j h1 h2 => z j (by simpa using h1) (by simpa using h2))
  rw [all_true] at this
  exact this prog w E Q h
end
end Mine
end
section
open PySem PySem.W PySem.Calls PyProof.Rows
set_option Elab.async false
set_option maxRecDepth 100000
namespace Mine
section
variable {M : Model} {A : Around} {s : Shared} {α : Type}
/-- what no run loses: the count of tokens -/
theorem toks_keep {t : Sem α} {Q : α → Shared → Prop} {E : Value → Shared → Prop} {n : Nat} (hn : n ≤ s.toks) (h : wpAny M A t (fun a s' => n ≤ s'.toks → Q a s') E s) : wpAny M A t Q E s :=
  wpAny_with_toks hn (wpAny_mono h (fun _ _ x => x) fun _ _ x _ => x)
end
theorem rep2_len : ∀ (n : Nat) (l : List Nat), l.length ≤ n → (rep2 l).length ≤ l.length := by
  intro n
  induction n with
  | zero => intro l h; have : l = [] := List.eq_nil_of_length_eq_zero (by omega); subst this; decide
  | succ n ih =>
    intro l h
    match l with
    | [] => decide
    | c :: r =>
      by_cases hc : c = 13 ∧ r.take 1 = [10]
      · obtain ⟨rfl, hr⟩ := hc
        match r with
        | [] => simp at hr
        | d :: r' =>
          have : d = 10 := by simpa using hr
          subst this
          rw [rep2_pair]
          have := ih r' (by simp at h; omega)
          simp
          omega
      · rw [rep2_cons hc]
        have := ih r (by simp at h; omega)
        simp
        omega
theorem rep_len1 (x : PySem.Str) : (Txt.replace x ⟨#[13, 10]⟩ ⟨#[10]⟩).length ≤ x.length := by
  rw [← len_list, ← len_list, replace_two]
  exact rep2_len _ _ (Nat.le_refl _)
theorem rep_len2 (x : PySem.Str) : (Txt.replace x ⟨#[13]⟩ ⟨#[10]⟩).length = x.length := by
  rw [← len_list, ← len_list, replace_cr, List.length_map]
theorem two_rep (l : List Nat) : ∃ X : PySem.Str, Txt.replace (Txt.replace ⟨l.toArray⟩ (PySem.Str.ofString "\r\n") (PySem.Str.ofString "\n")) (PySem.Str.ofString "\r") (PySem.Str.ofString "\n") = X ∧ X.cps.toList = Nb false l ∧ X.length ≤ l.length := by
  refine ⟨_, rfl, rows_nb ⟨l.toArray⟩, ?_⟩
  have h1 := rep_len2 (Txt.replace ⟨l.toArray⟩ ⟨#[13, 10]⟩ ⟨#[10]⟩)
  have h2 := rep_len1 ⟨l.toArray⟩
  have h3 : (⟨l.toArray⟩ : PySem.Str).length = l.length := by simp [Str.length]
  show (Txt.replace (Txt.replace ⟨l.toArray⟩ ⟨#[13, 10]⟩ ⟨#[10]⟩) ⟨#[13]⟩ ⟨#[10]⟩).length ≤ _
  omega
/-- the rows of a text, as lists -/
def rowsOf (X : PySem.Str) : List (List Nat) := (Txt.split X (PySem.Str.ofString "\n")).map fun p => p.cps.toList
theorem rows_of (X : PySem.Str) : joinL [10] (rowsOf X) = X.cps.toList ∧ ∀ r ∈ rowsOf X, 10 ∉ r := split_rows X
theorem flat_join (sep : List Nat) : ∀ R : List (List Nat), R.flatten.length + (R.length - 1) * sep.length = (joinL sep R).length
  | [] => by simp [joinL]
  | [r] => by simp [joinL]
  | r :: q :: R => by
    have := flat_join sep (q :: R)
    rw [joinL, List.length_append, List.length_append, ← this]
    simp only [List.flatten_cons, List.length_append, List.length_cons, Nat.add_sub_cancel]
    rw [Nat.add_mul]
    omega
theorem rows_small (X : PySem.Str) : (rowsOf X).flatten.length ≤ X.length ∧ (rowsOf X).length ≤ X.length + 1 := by
  have h := flat_join [10] (rowsOf X)
  rw [(rows_of X).1, len_list] at h
  simp only [List.length_singleton, Nat.mul_one] at h
  omega
theorem dots_len2 : ∀ R : List (List Nat), (R.map (dot1 46)).flatten.length ≤ R.flatten.length + R.length
  | [] => by simp
  | r :: R => by
    have := dots_len2 R
    simp only [List.map_cons, List.flatten_cons, List.length_append, List.length_cons]
    have h : (dot1 46 r).length ≤ r.length + 1 := by
      unfold dot1
      split
      · simp
      · omega
    omega
theorem rows_join (X : PySem.Str) (e : List Nat) (he : e.length ≤ 2) (hx : X.length ≤ 100) : (joinL e ((rowsOf X).map (dot1 46))).length ≤ 40000 := by
  rw [← flat_join e]
  have h1 := rows_small X
  have h2 := dots_len2 (rowsOf X)
  rw [List.length_map]
  have h3 : ((rowsOf X).length - 1) * e.length ≤ ((rowsOf X).length - 1) * 2 := Nat.mul_le_mul_left _ he
  omega
/-- what split hands out is what the words for rows ask -/
theorem rows_ws {X : PySem.Str} {l : List (PySem.Str × Tok)} (h : l.map (·.1) = Txt.split X (PySem.Str.ofString "\n")) :
    (strValues l).length = (rowsOf X).length ∧ ∀ (i : Nat) (v : Value), (strValues l)[i]? = some v → ∃ r t, (rowsOf X)[i]? = some r ∧ v = sval r t := by
  have e : rowsOf X = l.map fun p => p.1.cps.toList := by
    unfold rowsOf
    rw [← h, List.map_map]
    rfl
  rw [e]
  unfold strValues
  refine ⟨by simp, fun i v hv => ?_⟩
  rw [List.getElem?_map] at hv
  obtain ⟨p, hp, rfl⟩ := Option.map_eq_some_iff.mp hv
  exact ⟨p.1.cps.toList, p.2, by rw [List.getElem?_map, hp]; rfl, by simp [sval]⟩
theorem okS (ps : List (Pt Nat)) : ∀ d ∈ ps.map datS, okD 2 d = true := fun d hd => by
  obtain ⟨p, _, rfl⟩ := List.mem_map.mp hd
  rfl
theorem okB (ps : List (Pt UInt8)) : ∀ d ∈ ps.map datB, okD 2 d = true := fun d hd => by
  obtain ⟨p, _, rfl⟩ := List.mem_map.mp hd
  rfl
section
variable {prog : Program} {w : World} {A : Around} {E : Value → Shared → Prop} {s : Shared} {Q : Value → Shared → Prop}
theorem ne_strs {x y : PySem.Str} {t u : Tok} (h : x.cps.toList = y.cps.toList) (k : Q (.bool false) s) : wpAny (model prog w) A (compareOp .NotEq (.str x t) (.str y u)) Q E s :=
  P.ne_str (by rw [h]; simpa using k)
theorem eq_octets {x y : Array UInt8} {t u : Tok} (h : x.toList = y.toList) (k : Q (.bool true) s) : wpAny (model prog w) A (compareOp .Eq (.bytes x t) (.bytes y u)) Q E s :=
  eq_bytes (by rw [h]; simpa using k)
end
theorem count_range (R : List (List Nat)) (p : List Nat → Bool) : (List.range R.length).countP (fun i => p (R[i]?.getD [])) = (R.filter p).length := by
  rw [← List.countP_eq_length_filter]
  have e : R = (List.range R.length).map (fun i => R[i]?.getD []) := by
    refine List.ext_getElem (by simp) fun i h1 h2 => ?_
    simp [h1]
  conv => rhs; rw [e, List.countP_map]
  rfl
theorem pick_one (l : List Value) : slicePick l.toArray (some 1) none none = (l.drop 1).toArray := by
  rw [kms_pick_eq]
  unfold kms_pick kms_lo kms_hi
  simp only []
  rw [if_neg (by decide)]
  show (List.take (l.length - min 1 l.length) (List.drop (min 1 l.length) l)).toArray = _
  rw [kmk_drop_min, List.take_of_length_le]
  rw [List.length_drop]
  omega
/-- the test of a row behind the first -/
def dotAt (X : PySem.Str) (i : Nat) : Bool := decide ((((rowsOf X).drop 1)[i]?.getD []).take 1 = [46])
theorem dot_count (X : PySem.Str) : (List.range ((rowsOf X).drop 1).length).countP (dotAt X) = (((rowsOf X).drop 1).filter fun r => decide (r.take 1 = [46])).length :=
  count_range _ fun r => decide (r.take 1 = [46])
theorem dotAt_of {X : PySem.Str} {i : Nat} {r : List Nat} (h : (rowsOf X)[i + 1]? = some r) : dotAt X i = decide (r.take 1 = [46]) := by
  unfold dotAt
  rw [List.getElem?_drop, Nat.add_comm 1 i, h]
  rfl
theorem dot_t {X : PySem.Str} {i : Nat} {r : List Nat} (h : (rowsOf X)[i + 1]? = some r) (hd : (Txt.slice ⟨r.toArray⟩ none (some 1) == PySem.Str.ofString ".") = true) : true = dotAt X i := by
  have h1 := str_eq.mp hd
  rw [slice_to (by omega), lit_dot] at h1
  rw [dotAt_of h, decide_eq_true (show List.take 1 r = [46] from h1)]
theorem dot_f {X : PySem.Str} {i : Nat} {r : List Nat} (h : (rowsOf X)[i + 1]? = some r) (hd : (Txt.slice ⟨r.toArray⟩ none (some 1) == PySem.Str.ofString ".") = false) : false = dotAt X i := by
  have h1 := str_eqF hd
  rw [slice_to (by omega), lit_dot] at h1
  rw [dotAt_of h, decide_eq_false (show ¬ List.take 1 r = [46] from h1)]
end Mine
end
section
open PySem PySem.W PySem.Calls PyProof.Rows
set_option Elab.async false
set_option maxRecDepth 100000
namespace Mine
theorem hd_sub {α : Type} [DecidableEq α] (sl : α) (u : List α) : (hdOf sl u).Sublist u := by
  unfold hdOf
  split
  · exact List.Sublist.refl _
  · unfold rstripOf
    have := (List.dropWhile_sublist (fun c => decide (c = sl)) (l := u.reverse)).reverse
    rwa [List.reverse_reverse] at this
/-- what the parts are made of -/
theorem pts_in {α : Type} [DecidableEq α] (sl dt : α) : ∀ (n : Nat) (l : List α), l.length ≤ n → ∀ p ∈ pts sl dt l, ((∀ x ∈ p.1, x ∈ l) ∧ (∀ x ∈ p.2.1, x ∈ l) ∧ ∀ x ∈ p.2.2, x ∈ l) ∧ p.1.length ≤ l.length ∧ p.2.1.length ≤ l.length ∧ p.2.2.length ≤ l.length := by
  intro n
  induction n with
  | zero =>
    intro l h p hp
    have : l = [] := List.eq_nil_of_length_eq_zero (by omega)
    subst this
    exact absurd hp (by simp [pts, D])
  | succ n ih =>
    intro l h p hp
    by_cases hl : l = []
    · subst hl
      exact absurd hp (by simp [pts, D])
    · rw [pts_cut sl dt l hl] at hp
      have hre := root_end sl dt l hl
      have hlen := congrArg List.length hre
      rw [List.length_append] at hlen
      have hne : 0 < (endOf sl dt l).length := List.length_pos_iff.mpr (end_ne sl dt l)
      have hut := upTo_tail sl l
      have hul := congrArg List.length hut
      rw [List.length_append] at hul
      have mem1 : ∀ x ∈ rootOf sl dt l, x ∈ l := fun x hx => by rw [← hre]; exact List.mem_append_left _ hx
      have mem2 : ∀ x ∈ endOf sl dt l, x ∈ l := fun x hx => by rw [← hre]; exact List.mem_append_right _ hx
      have mem3 : ∀ x ∈ upTo sl l, x ∈ l := fun x hx => by rw [← hut]; exact List.mem_append_left _ hx
      have mem4 : ∀ x ∈ tailOf sl l, x ∈ l := fun x hx => by rw [← hut]; exact List.mem_append_right _ hx
      rcases List.mem_append.mp hp with hp | hp
      · obtain ⟨⟨a1, a2, a3⟩, b1, b2, b3⟩ := ih (rootOf sl dt l) (by omega) p hp
        exact ⟨⟨fun x hx => mem1 x (a1 x hx), fun x hx => mem1 x (a2 x hx), fun x hx => mem1 x (a3 x hx)⟩, by omega, by omega, by omega⟩
      · rw [List.mem_singleton.mp hp]
        have hs := hd_sub sl (upTo sl l)
        have := hs.length_le
        exact ⟨⟨mem2, fun x hx => mem3 x (hs.subset hx), mem4⟩, by show (endOf sl dt l).length ≤ _; omega, by show (hdOf sl (upTo sl l)).length ≤ _; omega, by show (tailOf sl l).length ≤ _; omega⟩
/-- a ledger less one address -/
def offL (du : Addr) (tl : List (Addr × Obj)) : List (Addr × Obj) := tl.filter fun p => decide (p.1 ≠ du)
theorem offL_ne {du : Addr} {tl : List (Addr × Obj)} : ∀ p ∈ offL du tl, p.1 ≠ du := fun p hp => of_decide_eq_true (List.mem_filter.mp hp).2
theorem offL_sub {du : Addr} {tl : List (Addr × Obj)} : ∀ p ∈ offL du tl, p ∈ tl := fun p hp => (List.mem_filter.mp hp).1
theorem offL_in {du : Addr} {tl : List (Addr × Obj)} {p : Addr × Obj} (h : p ∈ tl) (hne : p.1 ≠ du) : p ∈ offL du tl := List.mem_filter.mpr ⟨h, decide_eq_true hne⟩
theorem tup_ne {h₀ h : Heap} {L du T : Addr} {o o' : Obj} {all : List (Addr × Obj)} (N : News h₀ L h all) (h1 : (du, o) ∈ all) (h2 : (T, o') ∈ all) (hc : o.cls = .type "list") (hc' : o'.cls = .type "tuple") : T ≠ du := by
  intro e
  subst e
  have a := (N _ h1).1
  have b := (N _ h2).1
  rw [a] at b
  cases b
  rw [hc] at hc'
  exact absurd (Value.type.inj hc') (by decide)
theorem dat_off {h₀ h : Heap} {L du : Addr} {o : Obj} {all tl : List (Addr × Obj)} (N : News h₀ L h all) (h1 : (du, o) ∈ all) (hc : o.cls = .type "list") (hs : ∀ p ∈ tl, p ∈ all) :
    ∀ {vs : List Value} (ps : List (Pt Nat)), DatAll tl vs (ps.map datS) → DatAll (offL du tl) vs (ps.map datS)
  | [], [], .nil => .nil
  | _ :: _, _ :: ps, .cons hd r => by
    refine .cons ?_ (dat_off N h1 hc hs ps r)
    obtain ⟨T, n1, u1, T2, n2, u2, u3, rfl, hT, hT2⟩ := part_invS hd
    exact dat_partS (offL_in hT (tup_ne N h1 (hs _ hT) hc rfl)) (offL_in hT2 (tup_ne N h1 (hs _ hT2) hc rfl)) rfl rfl rfl
section
variable {prog : Program} {w : World} {A : Around} {E : Value → Shared → Prop} {s : Shared} {Q : Value → Shared → Prop}
theorem ne_ints2 {a b : Int} {t u : Tok} (h : a = b) (k : Q (.bool false) s) : wpAny (model prog w) A (compareOp .NotEq (.int a t) (.int b u)) Q E s :=
  PyProof.Rows.ne_int (by subst h; simpa using k)
end
theorem dot_b {X : PySem.Str} {i : Nat} {r : List Nat} (h : (rowsOf X)[i + 1]? = some r) : (Txt.slice ⟨r.toArray⟩ none (some 1) == PySem.Str.ofString ".") = dotAt X i := by
  cases hd : (Txt.slice ⟨r.toArray⟩ none (some 1) == PySem.Str.ofString ".") with
  | true => exact dot_t h hd
  | false => exact dot_f h hd
/-- the octets of a text below 256, and back -/
theorem quote_oct {W : List Nat} (h : ∀ c ∈ W, c < 256) : (qt 46 10 true (((W.map (·.toUInt8)).toArray.map (·.toNat)).toList)).map (·.toUInt8) = (qt 46 10 true W).map o8 := by
  have : ((W.map (·.toUInt8)).toArray.map (·.toNat)).toList = W := by
    rw [Array.toList_map, List.toList_toArray]
    exact o8_back h
  rw [this]
theorem oct_end {h₀ h' : Heap} {L I du : Addr} {oI lo : Obj} {a b : Addr × Obj} {rest tl : List (Addr × Obj)} {m' : PySem.Str → Option Value} {S : List (Addr × Obj) → Prop} {J : (PySem.Str → Option Value) → List (Addr × Obj) → Prop} {s : Shared} {tk : Nat}
    (F : Fr h₀ L h' m') (N : News h₀ L h' (a :: b :: (du, lo) :: rest)) (hrest : ∀ p ∈ (I, oI) :: tl, p ∈ rest) (fa : Flat a.2) (fb : Flat b.2) (fl : Flat lo) (hpl : PlainL tl) (hS : S ((du, lo) :: a :: b :: tl)) (hJ : J m' ((du, lo) :: a :: b :: tl)) :
    LoopEnd h₀ L I oI S J s .next { s with heap := h', toks := tk } := by
  refine ⟨.inl rfl, h', tk, m', (du, lo) :: a :: b :: tl, a :: b :: (du, lo) :: rest, rfl, F, N, ?_, .cons fl (.cons fa (.cons fb hpl)), hS, hJ⟩
  intro p hp
  rcases List.mem_cons.mp hp with rfl | hp
  · exact .tail _ (.tail _ (.tail _ (hrest _ (.head _))))
  · rcases List.mem_cons.mp hp with rfl | hp
    · exact .tail _ (.tail _ (.head _))
    · rcases List.mem_cons.mp hp with rfl | hp
      · exact .head _
      · rcases List.mem_cons.mp hp with rfl | hp
        · exact .tail _ (.head _)
        · exact .tail _ (.tail _ (.tail _ (hrest _ (.tail _ hp))))
/-- two lists of one ledger at one address are one list -/
theorem list_one {h₀ h : Heap} {L a b : Addr} {xs ys : List Value} {k n : Nat} {all : List (Addr × Obj)} (N : News h₀ L h all) (h1 : (a, listOf xs.toArray k) ∈ all) (h2 : (b, listOf ys.toArray n) ∈ all) (e : a = b) : xs = ys ∧ k = n := by
  subst e
  have p := (N _ h1).1
  have q := (N _ h2).1
  rw [p] at q
  have q' := Option.some.inj q
  unfold PySem.W.listOf at q'
  injection q' with _ _ q2
  injection q2 with q3 q4
  exact ⟨by simpa using congrArg Array.toList q3, q4⟩
/-- the source of the last loop -/
theorem src_off {h₀ h : Heap} {L ea du : Addr} {evs : List Value} {ek : Nat} {all : List (Addr × Obj)} (N : News h₀ L h all) (h1 : (ea, listOf evs.toArray ek) ∈ all) (h2 : (du, listOf #[] 0) ∈ all) :
    LCg.SrcAt h₀ ea evs.toArray ((du, listOf #[] 0) :: offL du all) := by
  by_cases e : ea = du
  · obtain ⟨rfl, rfl⟩ := list_one (ys := []) N h1 h2 e
    subst e
    exact .inr ⟨_, .head _, rfl, _, rfl⟩
  · exact .inr ⟨_, .tail _ (offL_in h1 e), rfl, _, rfl⟩
theorem o8_parts {l : List Nat} (h : ∀ c ∈ l, c < 256) : (pts 47 46 l).map (fun p => datB (mapPt o8 p)) = (pts (47 : UInt8) 46 (l.map o8)).map datB := by
  rw [pts_o8 h, List.map_map]
  rfl
theorem dat_next {tl : List (Addr × Obj)} {vs : List Value} {ps : List (Pt Nat)} {i : Nat} {p : Pt Nat} {v : Value} {f : Pt Nat → Dat} (hp : ps[i]? = some p) (h : DatAll tl vs ((ps.take i).map f)) (hv : DatIn tl v (f p)) : DatAll tl (vs ++ [v]) ((ps.take (i + 1)).map f) := by
  rw [List.take_add_one, hp, List.map_append]
  exact h.append (.one hv)
end Mine
end
section
open PySem PySem.W PySem.Calls PyProof.Rows
set_option Elab.async false
set_option maxRecDepth 100000
set_option maxHeartbeats 8000000
namespace Mine

local macro_rules | `(tactic| walk_at "call type:type") => `(tactic| ((with_reducible show wpAny _ _ (call (Value.type "type") [Value.bytes _ _]) _ _ _); refine call_type_of (typeIs_bytes _ _ _) (by decide) ?_))
local macro_rules | `(tactic| walk_at "call builtin:issubclass") => `(tactic| (k_here; k_dflt (first | refine' issub_pair ?k1 ty_str sub_ss F.sub_str_bytes ?_ | refine' issub_pair ?k1 ty_bytes sub_bs sub_bb ?_); (case k1 => exact News.get (by k_asm) (by k_mem)); k_whole))

local macro_rules | `(tactic| walk_at "call builtin:str.join") => `(tactic| refine halt ?_)
local macro_rules | `(tactic| walk_at "call ref") => `(tactic| refine halt ?_)
local macro_rules | `(tactic| walk_at "call builtin:str.split") => `(tactic| refine halt ?_)
local macro_rules | `(tactic| walk_at "callWith") => `(tactic| ((with_reducible show wpAny _ _ (callWith _ (Value.builtin _) (_ :: _) _ _) _ _ _); first | with_reducible refine callWith_method0 ?_ | refine callWith_method1 ?_))
local macro_rules | `(tactic| walk_at "subscriptTail") => `(tactic| (k_here; (with_reducible show wpAny _ _ (subscriptTail _ _ (Value.ref _) (Value.int _ _)) _ _ _); k_dflt (refine menu_item ⟨_, News.get (by k_asm) (by k_mem), rfl, _, rfl⟩ (fmod_in _ 8 (by decide)).1 (show _ < (8 : Int) from (fmod_in _ 8 (by decide)).2) (Int.lt_trans (fmod_in _ 8 (by decide)).2 (by decide)) tx_all ?_); intro v₈ hv₈))
local macro_rules | `(tactic| walk_at "truthy ref") => `(tactic| refine wpAny_truthy_list ⟨_, News.get (by k_asm) (by k_mem), rfl, _, rfl⟩ (by rw [List.size_toArray, IntsAre.length (by assumption), List.length_take]; omega) ?_)
local macro_rules | `(tactic| walk_at "call builtin:list.append") => `(tactic| (k_here; k_dflt (refine' app_L ?k1 ?k2 ?k3 ?k4 ?_; (case k1 => k_asm); (case k2 => k_asm); (case k3 => first | exact Upd.head (by assumption) | exact Upd.tail (by k_ne) (Upd.head (by assumption)) | exact Upd.tail (by k_ne) (Upd.tail (by k_ne) (Upd.head (by assumption))) | exact Upd.tail (by k_ne) (Upd.tail (by k_ne) (Upd.tail (by k_ne) (Upd.head (by assumption))))); (case k4 => assumption)); intro h9 F9 N9))

local macro_rules | `(tactic| walk_at "call builtin:str.replace") => `(tactic| refine halt ?_)
local macro_rules | `(tactic| walk_at "compareOp NotEq str str") => `(tactic| refine halt ?_)
local macro_rules | `(tactic| walk_at "call builtin:len") => `(tactic| refine halt ?_)
local macro_rules | `(tactic| walk_at "CompSrcT") => `(tactic| refine halt ?_)
local macro_rules | `(tactic| walk_at "eval ListComp") => `(tactic| (k_here; k_dflt (refine LCt.ListComp_T (F₀ := by k_asm) (by with_unfolding_all rfl) (by decide) (by rfl) (by decide) (by rfl) ?_)))
local macro_rules | `(tactic| walk_at "compareOp NotEq int int") => `(tactic| refine halt ?_)
local macro_rules | `(tactic| walk_at "compareOp NotEq ref ref") => `(tactic| refine halt ?_)
local macro_rules | `(tactic| walk_at "compareOp Eq bytes bytes") => `(tactic| refine halt ?_)
local macro_rules | `(tactic| walk_at "exec For") => `(tactic| refine halt ?_)
local macro_rules | `(tactic| walk_at "execs cons Assign cons") => `(tactic| ((with_reducible refine wpAny_execs_cons ?_); try dsimp only))
theorem due_rn (rows : List (List Nat)) (ra : Addr) (ws : List Value) (kk : Nat) (t : Tok) (hz : (joinL [13, 10] (rows.map (dot1 46))).length ≤ 40000) (hn : rows.length ≤ 40000) (hf : rows.flatten.length ≤ 40000) : Does 202 [.ref ra, .str (PySem.Str.ofString "\r\n") t] 1 (RowsPre ra ws kk rows) (OkL ((pts 47 46 (joinL [13, 10] (rows.map (dot1 46)))).map datS)) := by
  have e : (⟨[13, 10].toArray⟩ : PySem.Str) = PySem.Str.ofString "\r\n" := by decide
  have := due_str rows ra ws kk [13, 10] t hz hn hf (by decide)
  rw [e] at this
  exact this
theorem due_n (rows : List (List Nat)) (ra : Addr) (ws : List Value) (kk : Nat) (t : Tok) (hz : (joinL [10] (rows.map (dot1 46))).length ≤ 40000) (hn : rows.length ≤ 40000) (hf : rows.flatten.length ≤ 40000) : Does 202 [.ref ra, .str (PySem.Str.ofString "\n") t] 1 (RowsPre ra ws kk rows) (OkL ((pts 47 46 (joinL [10] (rows.map (dot1 46)))).map datS)) := by
  have e : (⟨[10].toArray⟩ : PySem.Str) = PySem.Str.ofString "\n" := by decide
  have := due_str rows ra ws kk [10] t hz hn hf (by decide)
  rw [e] at this
  exact this
theorem joinL_nil : ∀ ps : List (List Nat), joinL [] ps = ps.flatten
  | [] => rfl
  | x :: r => by rw [joinL_cons]; simp
theorem law_holds : PySem.Challenge.rw_ij0203_01.Holds := by
  refine Mine.hd ?_
  k_go0
  iterate 6 walk1
  refine wpAny_execs_cons ?_
  rename_i la _ _ _ _ _
  refine toks_keep (n := 1) (by exact Nat.le_add_left _ _) ?_
  refine for_src la (by k_asm) ?_ ?_
  · k_steps
    · exact ⟨_, _, _, _, _, _, rfl, rfl, by k_asm, by k_asm, by assumption, by rw [List.length_take]; omega, Nat.ne_of_lt (by assumption)⟩
    · exact ⟨_, _, _, [3, 5, 1, 0, 1], _, _, rfl, rfl, by k_asm, news_d2 (by k_asm), .cons _ _ (.cons _ _ (.cons _ _ (.cons _ _ (.cons _ _ .nil)))), by decide, Nat.ne_of_lt (And.right (by assumption))⟩
  · rintro xv s₉ ⟨ax, its, kx, ns, h₉, tk₉, rfl, rfl, F₉, N₉, hI, hns, hne⟩
    refine for_list rfl F₉ (news := (la, listOf #[] 0) :: [(ax, listOf (List.toArray its) kx)]) (fun p hp => N₉ p (by rcases List.mem_cons.mp hp with rfl | hp; exact .tail _ (.head _); rw [List.mem_singleton.mp hp]; exact .head _)) (PlainL.cons (.inl rfl) (PlainL.cons (.inl rfl) (fun _ h => nomatch h))) (.inr ⟨_, .tail _ (.head _), rfl, _, rfl⟩) (.inl ⟨_, _, rfl⟩)
      (fun i m nx => ∃ (qs : List (List Nat × Tok)) (k : Nat), m (Str.ofString "signs") = some (.ref la) ∧ nx = (la, listOf (qs.map fun p => sval p.1 p.2).toArray k) :: [(ax, listOf (List.toArray its) kx)] ∧ qs.length = i ∧ (qs.map (·.1)).flatten.length ≤ 2 * i ∧ ∀ c ∈ (qs.map (·.1)).flatten, c < 256) ?_ ?_ ?_ (by passes_own)
    · exact ⟨[], 0, rfl, rfl, rfl, Nat.le_refl _, fun c hc => by simp at hc⟩
    · rintro i v m₁ nx I oI h tk hi hv ⟨qs, k, e1, rfl, hql, hqf, hqc⟩ hpl hS hI' F₁ N₁
      have F₂ := fr_of F₁ (know e1 rfl)
      clear F₁
      obtain ⟨n, t, rfl, hn⟩ := hI.at i v (by rw [← List.getElem?_toArray]; exact hv)
      have hap : ∀ p ∈ [(ax, listOf (List.toArray its) kx)], p.1 ≠ la := fun p hp => by rw [List.mem_singleton.mp hp]; exact Ne.symm hne
      have hqz : (qs.map fun p => sval p.1 p.2).length ≤ 1048576 := by
        rw [List.length_map, hql]
        rw [List.size_toArray, hI.length] at hi
        omega
      have hla : (@Ne Nat la I) := hI' (la, _) (.head _)
      k_steps
      rename Tx _ => hT₈
      obtain ⟨ll₈, t₈, rfl, hl₈, hc₈⟩ := hT₈
      refine ⟨.inl rfl, _, _, _, _ :: [(ax, listOf (List.toArray its) kx)], _, rfl, by k_asm, by k_asm, fun q hq => .tail _ hq, PlainL.cons (.inl rfl) (PlainL.cons (.inl rfl) (fun _ h => nomatch h)), .inr ⟨_, .tail _ (.head _), rfl, _, rfl⟩, qs ++ [(ll₈, t₈)], k + 1, rfl, by rw [List.map_append]; rfl, by rw [List.length_append, hql]; rfl, ?_, ?_⟩
      · rw [List.map_append, List.flatten_append, List.length_append]
        have h9 : (([(ll₈, t₈)].map (·.1)).flatten).length = ll₈.length := by simp
        rw [h9]
        omega
      · intro c hc
        rw [List.map_append, List.flatten_append] at hc
        rcases List.mem_append.mp hc with hc | hc
        · exact hqc c hc
        · exact hc₈ c (by simpa using hc)
    · rintro h' tk m' nx kF kN hpl hS ⟨qs, k, e1, rfl, hql, hqf, hqc⟩
      have F₂ := fr_of kF (know e1 rfl)
      clear kF
      have hq20 : (qs.map (·.1)).flatten.length ≤ 20 := by
        rw [List.size_toArray, hI.length] at hqf
        omega
      intro htk
      have htk' : 1 ≤ tk := htk
      clear htk
      k_steps
      refine Halt.mk ?_
      refine toks_keep (n := 1) (by dsimp only; omega) ?_
      refine str_joinE (sep := []) (ps := qs) (News.get (by k_asm) (by k_mem)) (by rw [List.length_nil, Nat.mul_zero]; omega) ?_
      intro h9 tk9 t9 k9 ht9
      have ht9' : 1 ≤ tk9 := ht9
      clear ht9 htk'
      rw [joinL_nil]
      generalize hW : (qs.map (·.1)).flatten = W at hq20 hqc hqf ⊢
      have F9 := fr_keep (by k_asm) k9
      have N9 := news_keep (by k_asm) k9
      k_steps
      refine Halt.mk ?_
      refine toks_keep (n := 1) (by dsimp only; omega) ?_
      refine SC.replaceW (by show @Ne Nat _ _; omega) (by show @Ne Nat _ _; omega) (by show @Ne Nat _ _; omega) (by decide) (by rw [← len_list]; show W.toArray.toList.length ≤ _; rw [List.toList_toArray]; omega) (by decide) ?_
      intro t8 k8 ht8
      have ht8' : 1 ≤ k8 := ht8
      clear ht8
      k_steps
      refine Halt.mk ?_
      refine SC.replaceW (by show @Ne Nat _ _; omega) (by show @Ne Nat _ _; omega) (by show @Ne Nat _ _; omega) (by decide) (Nat.le_trans (rep_len1 _) (by rw [← len_list]; show W.toArray.toList.length ≤ _; rw [List.toList_toArray]; omega)) (by decide) ?_
      intro t7 k7
      obtain ⟨X, hX, hXn, hXl⟩ := two_rep W
      have hWl : (⟨W.toArray⟩ : PySem.Str).length ≤ 20 := by rw [← len_list]; exact hq20
      rw [hX]
      k_steps
      refine Halt.mk ?_
      refine KSpl.split1 (by k_asm) (by k_asm) (by decide) ?_ (by rw [sizeLine_eq]; omega)
      intro D₁ l₁ h₁₁ k₁ hl₁ _ F₁ N₁ hD₁
      have hw₁ := rows_ws hl₁
      k_steps
      refine Halt.mk ?_
      k_here
      k_dflt (refine' does_use (quote_str _ _ (by rw [← len_list]; show W.toArray.toList.length ≤ _; rw [List.toList_toArray]; omega)) ?k1 ?k2 ?k3 ?k4 ?k5 ?kK ?kR ?kd ?ku ?_; (case k1 => k_asm); (case k2 => k_asm); (case k3 => k_asm); (case k4 => k_asm); (case k5 => k_asm); (case kK => first | exact rfl | assumption); (case kR => exact trivial); (case kd => ktr_room); (case ku => ktr_units); k_whole)
      intro r9 led9 h10 tk10 F10 N10 ho9
      obtain ⟨e9, y, ty, rfl, hy, hyl⟩ := ho9
      subst e9
      k_steps
      refine Halt.mk ?_
      k_here
      k_dflt (refine' does_use (taken_str _ _ _ (by omega)) ?k1 ?k2 ?k3 ?k4 ?k5 ?kK ?kR ?kd ?ku ?_; (case k1 => k_asm); (case k2 => k_asm); (case k3 => k_asm); (case k4 => k_asm); (case k5 => k_asm); (case kK => first | exact rfl | assumption); (case kR => exact trivial); (case kd => ktr_room); (case ku => ktr_units); k_whole)
      intro r9 led9 h11 tk11 F11 N11 ho9
      obtain ⟨pa, pvs, pk, tl, rfl, hsub, hplt, hdat, rfl⟩ := ho9
      have hy' : y.cps.toList = qt 46 10 true (Fb false W) := hy
      clear hy
      rw [hy'] at hdat
      have hXl' : X.length ≤ 20 := Nat.le_trans hXl hq20
      have hpl1 : PlainL tl := hplt (PlainL.cons (.inl rfl) (PlainL.cons (.inl rfl) (PlainL.cons (.inl rfl) (fun _ h => nomatch h))))
      clear hplt
      k_steps
      refine Halt.mk ?_
      k_here
      k_dflt (refine' does_use (due_rn (rowsOf X) D₁ (strValues l₁) 0 _ (rows_join X [13, 10] (by decide) (by omega)) (by have := rows_small X; omega) (by have := rows_small X; omega)) ?k1 ?k2 ?k3 ?k4 ?k5 ?kK ?kR ?kd ?ku ?_; (case k1 => k_asm); (case k2 => k_asm); (case k3 => k_asm); (case k4 => k_asm); (case k5 => k_asm); (case kK => first | exact rfl | assumption); (case kR => exact ⟨.tail _ (hsub _ (.head _)), hw₁.1, hw₁.2, PlainL.cons (.inl rfl) hpl1⟩); (case kd => ktr_room); (case ku => ktr_units); k_whole)
      intro r9 led9 h12 tk12 F12 N12 ho9
      obtain ⟨da, dvs, dk, tl2, rfl, hsub2, hplt2, hdat2, rfl⟩ := ho9
      have hpl2 : PlainL tl2 := hplt2 (PlainL.cons (.inl rfl) hpl1)
      clear hplt2
      have hOl : (qt 46 10 true (Fb false W)).length ≤ 80 := by rw [← hy', len_list]; omega
      rw [← once_rows ((rows_of X).1.trans hXn) (rows_of X).2] at hdat2
      generalize hO : qt 46 10 true (Fb false W) = O at hdat hdat2 hy' hOl
      have mP : (pa, listOf pvs.toArray pk) ∈ (da, listOf dvs.toArray dk) :: tl2 := .tail _ (hsub2 _ (.head _))
      have dP : DatAll ((da, listOf dvs.toArray dk) :: tl2) pvs ((pts 47 46 O).map datS) := hdat.mono fun p hp => .tail _ (hsub2 _ (.tail _ hp))
      refine ne_same (n := 2) N12 mP dP (.head _) (hdat2.mono fun p hp => .tail _ hp) (okS _) (by units_room) (by decide) ?_
      k_steps
      refine Halt.mk ?_
      k_here
      k_dflt (refine' does_use (read_str (pts 47 46 O) pa pvs pk _ _ (by rw [tot_pts 47 46 _ O (Nat.le_refl _)]; omega)) ?k1 ?k2 ?k3 ?k4 ?k5 ?kK ?kR ?kd ?ku ?_; (case k1 => k_asm); (case k2 => k_asm); (case k3 => k_asm); (case k4 => k_asm); (case k5 => k_asm); (case kK => first | exact rfl | assumption); (case kR => exact ⟨mP, dP, PlainL.cons (.inl rfl) hpl2⟩); (case kd => ktr_room); (case ku => ktr_units); k_whole)
      intro r9 led9 h13 tk13 F13 N13 ho9
      obtain ⟨e9, z, tz, rfl, hz⟩ := ho9
      subst e9
      k_steps
      refine Halt.mk ?_
      k_here
      k_dflt (refine' does_use (fix_str _ _ (by omega)) ?k1 ?k2 ?k3 ?k4 ?k5 ?kK ?kR ?kd ?ku ?_; (case k1 => k_asm); (case k2 => k_asm); (case k3 => k_asm); (case k4 => k_asm); (case k5 => k_asm); (case kK => first | exact rfl | assumption); (case kR => exact trivial); (case kd => ktr_room); (case ku => ktr_units); k_whole)
      intro r9 led9 h14 tk14 F14 N14 ho9
      obtain ⟨e9, f, tf, rfl, hf, hfl⟩ := ho9
      subst e9
      refine ne_strs (by rw [hz, hf, ← hO, read_once]) ?_
      k_steps
      refine Halt.mk ?_
      k_here
      k_dflt (refine' does_use (quote_str y _ (by omega)) ?k1 ?k2 ?k3 ?k4 ?k5 ?kK ?kR ?kd ?ku ?_; (case k1 => k_asm); (case k2 => k_asm); (case k3 => k_asm); (case k4 => k_asm); (case k5 => k_asm); (case kK => first | exact rfl | assumption); (case kR => exact trivial); (case kd => ktr_room); (case ku => ktr_units); k_whole)
      intro r9 led9 h15 tk15 F15 N15 ho9
      obtain ⟨e9, y2, ty2, rfl, hy2, hyl2⟩ := ho9
      subst e9
      have hy2' : y2.cps.toList = qt 46 10 true O := by rw [hy2, hy', ← hO, twice_same]
      have hO2l : (qt 46 10 true O).length ≤ 320 := by rw [← hy2', len_list]; omega
      k_steps
      refine Halt.mk ?_
      k_here
      k_dflt (refine' does_use (taken_str y2 _ _ (by omega)) ?k1 ?k2 ?k3 ?k4 ?k5 ?kK ?kR ?kd ?ku ?_; (case k1 => k_asm); (case k2 => k_asm); (case k3 => k_asm); (case k4 => k_asm); (case k5 => k_asm); (case kK => first | exact rfl | assumption); (case kR => exact trivial); (case kd => ktr_room); (case ku => ktr_units); k_whole)
      intro r9 led9 h16 tk16 F16 N16 ho9
      obtain ⟨qa, qvs, qk, tl3, rfl, hsub3, hplt3, hdat3, rfl⟩ := ho9
      have hpl3 : PlainL tl3 := hplt3 (PlainL.cons (.inl rfl) hpl2)
      clear hplt3
      rw [hy2'] at hdat3
      have dQ : DatAll ((qa, listOf qvs.toArray qk) :: tl3) qvs ((pts 47 46 (qt 46 10 true O)).map datS) := hdat3.mono fun p hp => .tail _ hp
      k_steps
      refine Halt.mk ?_
      k_here
      k_dflt (refine' does_use (read_str (pts 47 46 (qt 46 10 true O)) qa qvs qk _ _ (by rw [tot_pts 47 46 _ _ (Nat.le_refl _)]; omega)) ?k1 ?k2 ?k3 ?k4 ?k5 ?kK ?kR ?kd ?ku ?_; (case k1 => k_asm); (case k2 => k_asm); (case k3 => k_asm); (case k4 => k_asm); (case k5 => k_asm); (case kK => first | exact rfl | assumption); (case kR => exact ⟨.head _, dQ, PlainL.cons (.inl rfl) hpl3⟩); (case kd => ktr_room); (case ku => ktr_units); k_whole)
      intro r9 led9 h17 tk17 F17 N17 ho9
      obtain ⟨e9, z2, tz2, rfl, hz2⟩ := ho9
      subst e9
      k_steps
      refine Halt.mk ?_
      refine ne_strs (by rw [hz2, hy', read_once]) ?_
      k_steps
      refine Halt.mk ?_
      have hN2 : ((pts 47 46 (qt 46 10 true O)).map datS).length ≤ 320 := by rw [List.length_map]; exact Nat.le_trans (pts_le _ _ _) hO2l
      have hN1 : ((pts 47 46 O).map datS).length ≤ 80 := by rw [List.length_map]; exact Nat.le_trans (pts_le _ _ _) hOl
      refine kd_len N17 (.head _) dQ (by omega) ?_
      refine wpAny_BinOp ?_
      k_steps
      refine Halt.mk ?_
      have mP3 : (pa, listOf pvs.toArray pk) ∈ (qa, listOf qvs.toArray qk) :: tl3 := .tail _ (hsub3 _ mP)
      refine kd_len N17 mP3 dP (by omega) ?_
      have mR3 : (D₁, listOf (strValues l₁).toArray 0) ∈ (qa, listOf qvs.toArray qk) :: tl3 := .tail _ (hsub3 _ (.tail _ (hsub2 _ (.tail _ (hsub _ (.head _))))))
      iterate 12 walk1
      k_dflt (refine kmk_slice (by k_asm) (by k_asm) ⟨_, News.get N17 mR3, rfl, _, rfl⟩ (.int 1 _) .none ?_ (by with_unfolding_all rfl) (by intro _; rfl) (by rw [List.size_toArray, hw₁.1, sizeLine_eq]; have := rows_small X; omega))
      intro SD hS1 FS NS hSD
      rw [pick_one] at NS
      have hwd : ((strValues l₁).drop 1).length = ((rowsOf X).drop 1).length := by rw [List.length_drop, List.length_drop, hw₁.1]
      refine LCt.CompSrcT.ledger rfl FS NS (.head _) (by rw [List.size_toArray, List.length_drop, hw₁.1, sizeLine_eq]; have := rows_small X; omega) ?_
      intro g
      refine comp_turnsT (dotAt X) ?_ ?_ (.inr ⟨_, .head _, rfl, _, rfl⟩) ?_
      · intro i v I oI C oC D m₂ ys h tk E' hi hv hC hx kF kN
        obtain ⟨r, u, hr, rfl⟩ := hw₁.2 (i + 1) v (by rw [← hv, List.getElem?_toArray, List.getElem?_drop, Nat.add_comm])
        have hrl : (⟨r.toArray⟩ : PySem.Str).length ≤ 40000 := row_le hr (by have := rows_small X; omega)
        k_steps
        · exact dot_b hr
        · exact ⟨_, _, rfl, by k_asm, by k_asm, trivial⟩
      · intro i v I oI C oC D m₂ ys h tk E' hi hv hC hx kF kN
        k_steps
        exact ⟨_, _, rfl, kF, kN, trivial⟩
      · intro ys hl D₉ h tk kF kN ho
        have hlen : ((pts 47 46 (qt 46 10 true O)).map datS).length = ((pts 47 46 O).map datS).length + ys.length := by
          rw [List.length_map, List.length_map, hl, List.size_toArray, hwd, dot_count, ← hO]
          exact len_rows ((rows_of X).1.trans hXn) (rows_of X).2
        k_steps
        refine Halt.mk ?_
        refine call_len_list (items := List.toArray ys) ⟨_, News.get kN (.head _), rfl, _, rfl⟩ (by rw [List.size_toArray]; omega) ?_
        k_steps
        refine Halt.mk ?_
        refine ne_ints2 (by rw [List.size_toArray, hlen]; omega) ?_
        k_steps
        refine Halt.mk ?_
        k_here
        k_dflt (refine' does_use (octets ⟨W.toArray⟩ _ (by omega) hqc) ?k1 ?k2 ?k3 ?k4 ?k5 ?kK ?kR ?kd ?ku ?_; (case k1 => k_asm); (case k2 => k_asm); (case k3 => k_asm); (case k4 => k_asm); (case k5 => k_asm); (case kK => first | exact rfl | assumption); (case kR => exact trivial); (case kd => ktr_room); (case ku => ktr_units); k_whole)
        intro r9 led9 h18 tk18 F18 N18 ho9
        obtain ⟨e9, to, rfl⟩ := ho9
        subst e9
        k_steps
        refine Halt.mk ?_
        k_here
        k_dflt (refine' does_use (quote_bytes (W.map (·.toUInt8)).toArray _ (by rw [List.size_toArray, List.length_map]; omega)) ?k1 ?k2 ?k3 ?k4 ?k5 ?kK ?kR ?kd ?ku ?_; (case k1 => k_asm); (case k2 => k_asm); (case k3 => k_asm); (case k4 => k_asm); (case k5 => k_asm); (case kK => first | exact rfl | assumption); (case kR => exact trivial); (case kd => ktr_room); (case ku => ktr_units); k_whole)
        intro r9 led9 h19 tk19 F19 N19 ho9
        obtain ⟨e9, tq, rfl⟩ := ho9
        subst e9
        rw [quote_oct hqc]
        obtain ⟨B, hB⟩ : ∃ B, B = (qt 46 10 true W).map o8 := ⟨_, rfl⟩
        rw [← hB]
        k_steps
        refine Halt.mk ?_
        refine wpAny_For ?_
        k_steps
        rename_i _ du _ hdl _ _ _
        refine Halt.mk ?_
        refine KSpl.split1 (by k_asm) (by k_asm) (by decide) ?_ (by rw [sizeLine_eq]; omega)
        intro D₂ l₂ h₂₂ k₂ hl₂ _ F₂₂ N₂₂ hD₂
        have hw₂ := rows_ws hl₂
        have hpl9 : PlainL ((D₂, listOf (strValues l₂).toArray 0) :: (du, listOf #[] 0) :: (D₉, LCg.lst ys) :: (SD, listOf ((strValues l₁).drop 1).toArray 0) :: (qa, listOf qvs.toArray qk) :: tl3) := PlainL.cons (.inl rfl) (PlainL.cons (.inl rfl) (PlainL.cons (.inl rfl) (PlainL.cons (.inl rfl) (PlainL.cons (.inl rfl) hpl3))))
        k_steps
        refine Halt.mk ?_
        k_here
        k_dflt (refine' does_use (due_n (rowsOf ⟨W.toArray⟩) D₂ (strValues l₂) 0 _ (rows_join ⟨W.toArray⟩ [10] (by decide) (by omega)) (by have := rows_small ⟨W.toArray⟩; omega) (by have := rows_small ⟨W.toArray⟩; omega)) ?k1 ?k2 ?k3 ?k4 ?k5 ?kK ?kR ?kd ?ku ?_; (case k1 => k_asm); (case k2 => k_asm); (case k3 => k_asm); (case k4 => k_asm); (case k5 => k_asm); (case kK => first | exact rfl | assumption); (case kR => exact ⟨.head _, hw₂.1, hw₂.2, hpl9⟩); (case kd => ktr_room); (case ku => ktr_units); k_whole)
        intro r9 led9 h20 tk20 F20 N20 ho9
        obtain ⟨ea, evs, ek, tl4, rfl, hsub4, hplt4, hdat4, rfl⟩ := ho9
        have hpl4 : PlainL tl4 := hplt4 hpl9
        clear hplt4
        rw [← oct_rows (rows_of ⟨W.toArray⟩).1 (rows_of ⟨W.toArray⟩).2] at hdat4
        have mdu : (du, listOf #[] 0) ∈ (ea, listOf evs.toArray ek) :: tl4 := .tail _ (hsub4 _ (.tail _ (.head _)))
        have dE := dat_off N20 mdu rfl (fun p hp => hp) _ (hdat4.mono fun p hp => List.mem_cons_of_mem _ hp)
        have hqW : (qt 46 10 true W).length ≤ 40 := by have := qt_len 46 10 true W; omega
        k_steps
        refine for_list (news := (du, listOf #[] 0) :: offL du ((ea, listOf evs.toArray ek) :: tl4)) rfl (by k_asm) (fun p hp => by rcases List.mem_cons.mp hp with rfl | hp; exact N20 _ mdu; exact N20 _ (offL_sub _ hp))
          (PlainL.cons (.inl rfl) fun p hp => PlainL.cons (.inl rfl) hpl4 p (offL_sub _ hp)) (src_off N20 (.head _) mdu) (goes_dat dE (fun d hd => by obtain ⟨p, _, rfl⟩ := List.mem_map.mp hd; exact ⟨_, rfl⟩))
          (fun i m nx => ∃ vs k tl, nx = (du, listOf (List.toArray vs) k) :: tl ∧ (∀ p ∈ tl, p.1 ≠ du) ∧ (∀ p ∈ offL du ((ea, listOf evs.toArray ek) :: tl4), p ∈ tl) ∧ DatAll tl vs (((pts 47 46 (qt 46 10 true W)).take i).map fun p => datB (mapPt o8 p)) ∧ m (Str.ofString "due") = some (.ref du) ∧ m (Str.ofString "octets") = some (.bytes B.toArray tq)) ?_ ?_ ?_ (by passes_own)
        · exact ⟨[], 0, _, rfl, offL_ne, fun _ h => h, .nil, rfl, rfl⟩
        · rintro i v m₁ nx I oI h tk hi hv ⟨vs, k, tl, rfl, hap, hsb, hdt, e1, e2⟩ hplx hS hI F₁ N₁
          obtain ⟨p, hp, hd⟩ := dat_at dE hv
          obtain ⟨T, n1, u1, T2, n2, u2, u3, rfl, hT, hT2⟩ := part_invS hd
          obtain ⟨⟨hx1, hx2, hx3⟩, hx4, hx5, hx6⟩ := pts_in 47 46 _ (qt 46 10 true W) (Nat.le_refl _) p (List.mem_of_getElem? hp)
          have hz1 : (⟨p.1.toArray⟩ : PySem.Str).length ≤ 40000 := by rw [← len_list]; exact Nat.le_trans hx4 (by omega)
          have hz2 : (⟨p.2.1.toArray⟩ : PySem.Str).length ≤ 40000 := by rw [← len_list]; exact Nat.le_trans hx5 (by omega)
          have hz3 : (⟨p.2.2.toArray⟩ : PySem.Str).length ≤ 40000 := by rw [← len_list]; exact Nat.le_trans hx6 (by omega)
          have F₂ := fr_of F₁ (know e1 (know e2 rfl))
          clear F₁
          have hdu : (@Ne Nat du I) := hI (du, _) (.head _)
          have hvl : vs.length ≤ 1048576 := by
            have h1 := hdt.length
            rw [List.length_map, List.length_take] at h1
            have h2 := pts_le 47 46 (qt 46 10 true W)
            omega
          have hne : (@Ne Nat du ea) := fun e => by
            have := (list_one (ys := []) N20 (.head _) mdu e.symm).1
            rw [this] at hi
            exact absurd hi (Nat.not_lt_zero _)
          have N₉ : News _ _ h ((du, listOf (List.toArray vs) k) :: (T, ({ cls := .type "tuple", data := .seq #[.str ⟨p.1.toArray⟩ u1, .ref T2] n1 } : Obj)) :: (T2, ({ cls := .type "tuple", data := .seq #[.str ⟨p.2.1.toArray⟩ u2, .str ⟨p.2.2.toArray⟩ u3] n2 } : Obj)) :: (I, oI) :: tl) := fun q hq => by
            rcases List.mem_cons.mp hq with rfl | hq
            · exact N₁ _ (.tail _ (.head _))
            · rcases List.mem_cons.mp hq with rfl | hq
              · exact N₁ _ (.tail _ (.tail _ (hsb _ hT)))
              · rcases List.mem_cons.mp hq with rfl | hq
                · exact N₁ _ (.tail _ (.tail _ (hsb _ hT2)))
                · rcases List.mem_cons.mp hq with rfl | hq
                  · exact N₁ _ (.head _)
                  · exact N₁ _ (.tail _ (.tail _ hq))
          have hap2 : ∀ q ∈ (T, ({ cls := .type "tuple", data := .seq #[.str ⟨p.1.toArray⟩ u1, .ref T2] n1 } : Obj)) :: (T2, ({ cls := .type "tuple", data := .seq #[.str ⟨p.2.1.toArray⟩ u2, .str ⟨p.2.2.toArray⟩ u3] n2 } : Obj)) :: (I, oI) :: tl, q.1 ≠ du := fun q hq => by
            rcases List.mem_cons.mp hq with rfl | hq
            · exact hap _ (hsb _ hT)
            · rcases List.mem_cons.mp hq with rfl | hq
              · exact hap _ (hsb _ hT2)
              · rcases List.mem_cons.mp hq with rfl | hq
                · exact Ne.symm hdu
                · exact hap _ hq
          clear N₁
          k_steps
          refine Halt.mk ?_
          k_here
          k_dflt (refine' does_use (octets ⟨p.1.toArray⟩ _ hz1 (fun c hc => qt_in hqc c (hx1 c hc))) ?k1 ?k2 ?k3 ?k4 ?k5 ?kK ?kR ?kd ?ku ?_; (case k1 => k_asm); (case k2 => k_asm); (case k3 => k_asm); (case k4 => k_asm); (case k5 => k_asm); (case kK => first | exact rfl | assumption); (case kR => exact trivial); (case kd => ktr_room); (case ku => ktr_units); k_whole)
          intro r9 led9 h21 tk21 F21 N21 ho9
          obtain ⟨e9, ta, rfl⟩ := ho9
          subst e9
          k_steps
          refine Halt.mk ?_
          k_here
          k_dflt (refine' does_use (octets ⟨p.2.1.toArray⟩ _ hz2 (fun c hc => qt_in hqc c (hx2 c hc))) ?k1 ?k2 ?k3 ?k4 ?k5 ?kK ?kR ?kd ?ku ?_; (case k1 => k_asm); (case k2 => k_asm); (case k3 => k_asm); (case k4 => k_asm); (case k5 => k_asm); (case kK => first | exact rfl | assumption); (case kR => exact trivial); (case kd => ktr_room); (case ku => ktr_units); k_whole)
          intro r9 led9 h22 tk22 F22 N22 ho9
          obtain ⟨e9, tb, rfl⟩ := ho9
          subst e9
          k_steps
          refine Halt.mk ?_
          k_here
          k_dflt (refine' does_use (octets ⟨p.2.2.toArray⟩ _ hz3 (fun c hc => qt_in hqc c (hx3 c hc))) ?k1 ?k2 ?k3 ?k4 ?k5 ?kK ?kR ?kd ?ku ?_; (case k1 => k_asm); (case k2 => k_asm); (case k3 => k_asm); (case k4 => k_asm); (case k5 => k_asm); (case kK => first | exact rfl | assumption); (case kR => exact trivial); (case kd => ktr_room); (case ku => ktr_units); k_whole)
          intro r9 led9 h23 tk23 F23 N23 ho9
          obtain ⟨e9, tc, rfl⟩ := ho9
          subst e9
          k_steps
          refine oct_end (by k_asm) (by k_asm) (fun q hq => .tail _ (.tail _ hq)) (.inr rfl) (.inr rfl) (.inl rfl) (fun q hq => hplx q (.tail _ hq)) ?_ ?_
          · exact .inr ⟨_, .tail _ (.tail _ (.tail _ (hsb _ (offL_in (.head _) (Ne.symm hne))))), rfl, _, rfl⟩
          · refine ⟨vs ++ [_], _, _, rfl, ?hap, ?sub, ?dat, rfl, rfl⟩
            case hap => exact List.forall_mem_cons.mpr ⟨by k_ne, List.forall_mem_cons.mpr ⟨by k_ne, hap⟩⟩
            case sub => exact fun q hq => .tail _ (.tail _ (hsb q hq))
            case dat =>
              refine dat_next hp (hdt.mono fun q hq => .tail _ (.tail _ hq)) ?_
              refine' dat_partB ?m1 ?m2 ?he ?hh ?hz
              case m1 => k_mem
              case m2 => k_mem
              case he => rfl
              case hh => rfl
              case hz => rfl
        · rintro h' tk m' nx kF kN hplx hS ⟨vs, k, tl, rfl, hap, hsb, hdt, e1, e2⟩
          have F₂ := fr_of kF (know e1 (know e2 rfl))
          clear kF
          have hpl5 : PlainL tl := fun p hp => hplx p (.tail _ hp)
          have hBl : B.length ≤ 40 := by rw [hB, List.length_map]; exact hqW
          have hdt' : DatAll tl vs ((pts (47 : UInt8) 46 B).map datB) := by
            rw [List.take_of_length_le (by rw [List.size_toArray, dE.length, List.length_map]; exact Nat.le_refl _), o8_parts (qt_in hqc), ← hB] at hdt
            exact hdt
          clear hdt
          k_steps
          refine Halt.mk ?_
          k_here
          k_dflt (refine' does_use (taken_bytes B.toArray _ _ (by rw [List.size_toArray]; omega)) ?k1 ?k2 ?k3 ?k4 ?k5 ?kK ?kR ?kd ?ku ?_; (case k1 => k_asm); (case k2 => k_asm); (case k3 => k_asm); (case k4 => k_asm); (case k5 => k_asm); (case kK => first | exact rfl | assumption); (case kR => exact trivial); (case kd => ktr_room); (case ku => ktr_units); k_whole)
          intro r9 led9 h31 tk31 F31 N31 ho9
          obtain ⟨ta, tvs, tkk, tl5, rfl, hsub5, hplt5, hdat5, rfl⟩ := ho9
          have hpl6 : PlainL tl5 := hplt5 (PlainL.cons (.inl rfl) hpl5)
          clear hplt5
          k_steps
          refine Halt.mk ?_
          refine ne_same (n := 2) N31 (.head _) (hdat5.mono fun p hp => .tail _ hp) (.tail _ (hsub5 _ (.head _))) (hdt'.mono fun p hp => .tail _ (hsub5 _ (.tail _ hp))) (okB _) (by units_room) (by decide) ?_
          k_steps
          refine Halt.mk ?_
          k_here
          k_dflt (refine' does_use (quote_bytes B.toArray _ (by rw [List.size_toArray]; omega)) ?k1 ?k2 ?k3 ?k4 ?k5 ?kK ?kR ?kd ?ku ?_; (case k1 => k_asm); (case k2 => k_asm); (case k3 => k_asm); (case k4 => k_asm); (case k5 => k_asm); (case kK => first | exact rfl | assumption); (case kR => exact trivial); (case kd => ktr_room); (case ku => ktr_units); k_whole)
          intro r9 led9 h32 tk32 F32 N32 ho9
          obtain ⟨e9, tc, rfl⟩ := ho9
          subst e9
          have hC9 : (qt 46 10 true ((B.toArray.map (·.toNat)).toList)).map (·.toUInt8) = (qt 46 10 true (qt 46 10 true W)).map o8 := by rw [hB]; exact quote_oct (qt_in hqc)
          rw [hC9]
          obtain ⟨C, hC⟩ : ∃ C, C = (qt 46 10 true (qt 46 10 true W)).map o8 := ⟨_, rfl⟩
          rw [← hC]
          have hCl : C.length ≤ 80 := by rw [hC, List.length_map]; have := qt_len 46 10 true (qt 46 10 true W); omega
          k_steps
          refine Halt.mk ?_
          k_here
          k_dflt (refine' does_use (taken_bytes C.toArray _ _ (by rw [List.size_toArray]; omega)) ?k1 ?k2 ?k3 ?k4 ?k5 ?kK ?kR ?kd ?ku ?_; (case k1 => k_asm); (case k2 => k_asm); (case k3 => k_asm); (case k4 => k_asm); (case k5 => k_asm); (case kK => first | exact rfl | assumption); (case kR => exact trivial); (case kd => ktr_room); (case ku => ktr_units); k_whole)
          intro r9 led9 h33 tk33 F33 N33 ho9
          obtain ⟨sa, svs, skk, tl6, rfl, hsub6, hplt6, hdat6, rfl⟩ := ho9
          have hpl7 : PlainL tl6 := hplt6 (PlainL.cons (.inl rfl) hpl6)
          clear hplt6
          k_steps
          refine Halt.mk ?_
          k_here
          k_dflt (refine' does_use (read_bytes (pts 47 46 C) sa svs skk _ _ (by rw [tot_pts 47 46 _ C (Nat.le_refl _)]; omega)) ?k1 ?k2 ?k3 ?k4 ?k5 ?kK ?kR ?kd ?ku ?_; (case k1 => k_asm); (case k2 => k_asm); (case k3 => k_asm); (case k4 => k_asm); (case k5 => k_asm); (case kK => first | exact rfl | assumption); (case kR => exact ⟨.head _, hdat6.mono fun p hp => List.mem_cons_of_mem _ hp, PlainL.cons (.inl rfl) hpl7⟩); (case kd => ktr_room); (case ku => ktr_units); k_whole)
          intro r9 led9 h34 tk34 F34 N34 ho9
          obtain ⟨e9, rb, tr, rfl, hrb⟩ := ho9
          subst e9
          k_steps
          refine Halt.mk ?_
          refine eq_octets (by rw [hrb, hC, read_oct (qt_in hqc)]; exact hB.symm) ?_
          k_steps
end Mine
end
theorem PySem.Challenge.cw_ij0203_01_holds : PySem.Challenge.rw_ij0203_01.Holds := by
  exact Mine.law_holds
