import PyProof.Rows.All
import Wide.All
import OpenK.AllK
import Wide.FinOn
import Lean
import PySem.Challenge.RW_pg0283_01
set_option Elab.async false
section
/-! the law's reckoning on plain data: places are lists of ints, names 0..3 stand for a A b B, a text is the turn that brought it -/
namespace Mine
/-- a goal as one variable -/
theorem gl_in {P : Prop} (h : ∀ g : Prop, (P → g) → g) : P := h P id
structure Cl where
  hour : Int
  mark : Int
  turn : Nat
  deed : Nat
  name : Nat
  other : Nat
  deriving DecidableEq
structure Lay where
  place : List Int
  name : Nat
  text : Nat
  deriving DecidableEq
structure Kept where
  cuts : List (List Int)
  lays : List Lay
  firsts : List (List Int)
  alls : List (List Int)
  deriving DecidableEq
structure Rows where
  a : Kept
  b : Kept
  deriving DecidableEq
inductive Ans where
  | no
  | one (t : Nat)
  | all (ts : List Nat)
  deriving DecidableEq
noncomputable def grp (n : Nat) : Nat := n / 2
noncomputable def Rows.get (r : Rows) (g : Nat) : Kept := if g = 0 then r.a else r.b
noncomputable def Rows.set (r : Rows) (g : Nat) (k : Kept) : Rows := if g = 0 then { r with a := k } else { r with b := k }
noncomputable def lexLt : List Int → List Int → Bool
  | [], [] => false
  | [], _ :: _ => true
  | _ :: _, [] => false
  | x :: xs, y :: ys => if x = y then lexLt xs ys else decide (x < y)
/-- the halving: c holds up to a place and not from there on -/
noncomputable def bisL (c : Nat → Bool) : Nat → Nat → Nat → Nat
  | 0, lo, _ => lo
  | f + 1, lo, hi => if lo < hi then (if c ((lo + hi) / 2) then bisL c f ((lo + hi) / 2 + 1) hi else bisL c f lo ((lo + hi) / 2)) else lo
theorem fits63 {n : Nat} (h : n < 100) : ((n : Nat) : Int) < 2 ^ 63 := by omega
theorem pred_ok {k : Nat} (h : (k : Int) ≠ 0) (l : k - 1 < 100) : 0 ≤ (k : Int) - 1 ∧ (k : Int) - 1 < 2 ^ 63 ∧ ((k : Int) - 1).toNat = k - 1 ∧ (k : Int) - 1 = ((k - 1 : Nat) : Int) := by omega
theorem mid_ok {lo hi : Nat} (h : lo < hi) : lo ≤ (lo + hi) / 2 ∧ (lo + hi) / 2 < hi := by omega
noncomputable def bl (ks : List (List Int)) (x : List Int) : Nat := bisL (fun i => lexLt (ks.getD i []) x) ks.length 0 ks.length
noncomputable def br (ks : List (List Int)) (x : List Int) : Nat := bisL (fun i => !lexLt x (ks.getD i [])) ks.length 0 ks.length
noncomputable def insAt {α : Type} (l : List α) (k : Nat) (x : α) : List α := l.take k ++ x :: l.drop k
noncomputable def plc (c : Cl) (e : Int) : List Int := [c.hour, c.mark, e]
noncomputable def hours (l : List Cl) : List (List Int) := l.map fun c => [c.hour]
noncomputable def places (l : List Lay) : List (List Int) := l.map (·.place)
noncomputable def dropG (g : Nat) (hs : List (Nat × Nat)) : List (Nat × Nat) := hs.filter fun p => grp p.1 != g
noncomputable def textsG (g : Nat) (hs : List (Nat × Nat)) : List Nat := (hs.filter fun p => grp p.1 == g).map (·.2)
noncomputable abbrev Tab := List (Nat × Nat) × List (Nat × Ans)
noncomputable def stepD (t : Tab) (c : Cl) : Tab := match c.deed with
  | 0 => (dropG (grp c.name) t.1 ++ [(c.name, c.turn)], t.2)
  | 1 => (t.1 ++ [(c.name, c.turn)], t.2)
  | 2 => (dropG (grp c.name) t.1, t.2)
  | 3 => match textsG (grp c.name) t.1 with
    | [] => (t.1 ++ [(c.name, c.turn)], t.2 ++ [(c.turn, .one c.turn)])
    | x :: _ => (t.1, t.2 ++ [(c.turn, .one x)])
  | 4 => (t.1, t.2 ++ [(c.turn, .all (textsG (grp c.name) t.1))])
  | _ => match textsG (grp c.other) t.1 with
    | [] => (dropG (grp c.name) t.1, t.2 ++ [(c.turn, .no)])
    | x :: _ => (dropG (grp c.name) t.1 ++ [(c.name, x)], t.2 ++ [(c.turn, .one x)])
noncomputable def doneP (log : List Cl) : Tab := log.foldl stepD ([], [])
noncomputable def standing (k : Kept) (p : List Int) : List Lay :=
  let kk := bl k.cuts p
  let start := if kk = 0 then 0 else bl (places k.lays) (k.cuts.getD (kk - 1) [])
  (k.lays.take (bl (places k.lays) p)).drop start
noncomputable def asked (asks cuts : List (List Int)) (p : List Int) : Bool :=
  let k := br cuts p
  let e := if k < cuts.length then bl asks (cuts.getD k []) else asks.length
  decide (bl asks p < e)
noncomputable def thenP (r : Rows) (c : Cl) : List Nat := (standing (r.get (grp c.name)) (plc c 1)).map (·.text)
noncomputable def nowP (r : Rows) (c : Cl) : List Nat := match c.deed with
  | 0 => [c.turn]
  | 1 => thenP r c ++ [c.turn]
  | 2 => []
  | 3 => if thenP r c = [] then [c.turn] else thenP r c
  | 5 => ((standing (r.get (grp c.other)) (plc c 0)).map (·.text)).take 1
  | _ => thenP r c
noncomputable def ansP (r : Rows) (c : Cl) : Ans := match c.deed with
  | 3 => .one ((nowP r c).headD 0)
  | 5 => match nowP r c with
    | [] => .no
    | x :: _ => .one x
  | _ => .all (thenP r c)
noncomputable def freeP (r : Rows) (c : Cl) : Bool :=
  let k := r.get (grp c.name)
  !(decide (nowP r c ≠ thenP r c) && asked k.alls k.cuts (plc c 1)) && !(decide ((nowP r c).take 1 ≠ (thenP r c).take 1) && asked k.firsts k.cuts (plc c 1))
noncomputable def insL (l : List (List Int)) (x : List Int) : List (List Int) := insAt l (bl l x) x
noncomputable def insR (l : List (List Int)) (x : List Int) : List (List Int) := insAt l (br l x) x
noncomputable def insLayR (l : List Lay) (x : Lay) : List Lay := insAt l (br (places l) x.place) x
noncomputable def insLayL (l : List Lay) (x : Lay) : List Lay := insAt l (bl (places l) x.place) x
noncomputable def putAsk (r : Rows) (c : Cl) : Rows := match c.deed with
  | 3 => r.set (grp c.name) { r.get (grp c.name) with firsts := insL (r.get (grp c.name)).firsts (plc c 0) }
  | 4 => r.set (grp c.name) { r.get (grp c.name) with alls := insL (r.get (grp c.name)).alls (plc c 0) }
  | 5 => r.set (grp c.other) { r.get (grp c.other) with firsts := insL (r.get (grp c.other)).firsts (plc c 0) }
  | _ => r
noncomputable def putCut (r : Rows) (c : Cl) : Rows :=
  if c.deed = 0 ∨ c.deed = 2 ∨ c.deed = 5 then r.set (grp c.name) { r.get (grp c.name) with cuts := insR (r.get (grp c.name)).cuts (plc c 1) } else r
noncomputable def putLay (r : Rows) (c : Cl) (thn now : List Nat) : Rows :=
  if c.deed = 0 ∨ c.deed = 1 ∨ c.deed = 5 ∨ (c.deed = 3 ∧ thn = []) then
    (match now.getLast? with
     | some x => r.set (grp c.name) { r.get (grp c.name) with lays := insLayR (r.get (grp c.name)).lays ⟨plc c 1, c.name, x⟩ }
     | none => r)
  else r
noncomputable def putP (r : Rows) (c : Cl) (thn now : List Nat) : Rows := putLay (putCut (putAsk r c) c) c thn now
/-- a taking out; nothing where a row does not hold the place -/
noncomputable def takenP (r : Rows) (c : Cl) : Option Rows :=
  let k := r.get (grp c.name)
  let i := bl k.cuts (plc c 1)
  let j := bl (places k.lays) (plc c 1)
  if (c.deed ≠ 1 ∧ ¬ i < k.cuts.length) ∨ (c.deed ≠ 2 ∧ ¬ j < k.lays.length) then none else
  some (r.set (grp c.name) { k with cuts := if c.deed = 1 then k.cuts else k.cuts.eraseIdx i, lays := if c.deed = 2 then k.lays else k.lays.eraseIdx j })
noncomputable def stoodRow (r : Rows) (p : List Int) : List Lay :=
  (standing r.b p).foldl insLayL ((standing r.a p).foldl insLayL [])
noncomputable def stoodP (r : Rows) (p : List Int) : List (Nat × Nat) := (stoodRow r p).map fun l => (l.name, l.text)
structure St where
  rows : Rows
  log : List Cl
  told : List (Nat × Ans)
  items : List (Nat × Nat)
  deriving DecidableEq
noncomputable def rest (st : St) (c about : Cl) (trial : List Cl) : Option St :=
  let t := doneP trial
  let free := freeP st.rows about
  if (st.told.all fun q => (t.2.lookup q.1).isSome) = false then none else
  let same := decide ((st.told.map fun q => t.2.lookup q.1) = st.told.map fun q => some q.2)
  if free ≠ same then none else
  if free = false then some st else
  if c.deed = 6 then (takenP st.rows about).map fun r => ⟨r, trial, st.told, t.1⟩
  else if c.deed > 2 then
    if t.2.lookup c.turn = some (ansP st.rows about) then some ⟨putP st.rows about (thenP st.rows about) (nowP st.rows about), trial, st.told ++ [(c.turn, ansP st.rows about)], t.1⟩ else none
  else some ⟨putP st.rows about (thenP st.rows about) (nowP st.rows about), trial, st.told, t.1⟩
noncomputable def turnP (st : St) (c : Cl) : Option St :=
  if c.deed = 6 then
    (let k := br (hours st.log) [c.hour]
     match if k = 0 then none else st.log[k - 1]? with
     | some about => if about.deed > 2 then some st else rest st c about (st.log.eraseIdx (k - 1))
     | none => some st)
  else rest st c c (if c.mark < 0 then insAt st.log (bl (hours st.log) [c.hour]) c else insAt st.log (br (hours st.log) [c.hour]) c)
noncomputable def noKept : Kept := ⟨[], [], [], []⟩
noncomputable def st0 : St := ⟨⟨noKept, noKept⟩, [], [], []⟩
noncomputable def loopP : St → List Cl → Option St
  | st, [] => some st
  | st, c :: r => match turnP st c with
    | some st' => loopP st' r
    | none => none
noncomputable def endP (st : St) : Bool :=
  match st.log[st.log.length / 2]?, st.log.getLast? with
  | some m, some l =>
    decide ((doneP (st.log.take (bl (hours st.log) [m.hour]))).1 = stoodP st.rows [m.hour]) &&
    decide ((doneP (st.log.take (br (hours st.log) [m.hour]))).1 = stoodP st.rows [m.hour + 1]) &&
    decide (st.items = stoodP st.rows [l.hour + 1])
  | _, _ => false
noncomputable def callOf (x : Int) (turn : Nat) : Cl where
  hour := if (x.fdiv 224).fmod 2 = 1 then (x.fdiv 224).fdiv 2 else ((x.fdiv 224).fdiv 2).fmod 4
  mark := if (x.fdiv 112).fmod 2 = 1 then -(turn : Int) else turn
  turn := turn
  deed := (x.fmod 7).toNat
  name := ((x.fdiv 7).fmod 4).toNat
  other := ((x.fdiv 28).fmod 4).toNat
noncomputable def callsFrom : Nat → List Int → List Cl
  | _, [] => []
  | n, x :: r => callOf x n :: callsFrom (n + 1) r
noncomputable def own8 : List Int := [896, 1398, 904, 1348, 1018, 448, 462, 902]
noncomputable def callsP (script : List Int) : List Cl := callsFrom 0 (own8 ++ script.take 6)
noncomputable def lawP (script : List Int) : Bool := match loopP st0 (callsP script) with
  | some st => endP st
  | none => false
end Mine
end
section
set_option Elab.async false
namespace Mine
theorem bisL_eq (c : Nat → Bool) (k N : Nat) (h1 : ∀ i, i < k → c i = true) (h2 : ∀ i, k ≤ i → i < N → c i = false) : ∀ (f lo hi : Nat), hi - lo ≤ f → lo ≤ k → k ≤ hi → hi ≤ N → bisL c f lo hi = k
  | 0, lo, hi, h, a, b, _ => Nat.le_antisymm a (Nat.le_trans b (Nat.sub_eq_zero_iff_le.mp (Nat.le_zero.mp h)))
  | f + 1, lo, hi, h, a, b, d => by
    rw [bisL]
    by_cases q : lo < hi
    · rw [if_pos q]
      obtain ⟨ma, mb⟩ := mid_ok q
      generalize (lo + hi) / 2 = md at ma mb ⊢
      by_cases e : md < k
      · rw [if_pos (h1 _ e)]; exact bisL_eq c k N h1 h2 f _ _ (by omega) e b d
      · have e := Nat.le_of_not_lt e
        have z := Nat.le_trans (Nat.le_of_lt mb) d
        rw [if_neg (by rw [h2 _ e (Nat.lt_of_lt_of_le mb d)]; exact Bool.false_ne_true)]; exact bisL_eq c k N h1 h2 f _ _ (by omega) a e z
    · rw [if_neg q]; exact Nat.le_antisymm a (Nat.le_trans b (Nat.le_of_not_lt q))
theorem getD_mem {α : Type} {l : List α} {i : Nat} {d : α} (h : i < l.length) : l.getD i d ∈ l := by
  rw [List.getD_eq_getElem?_getD, List.getElem?_eq_getElem h]; exact List.getElem_mem h
theorem getD_app {α : Type} {A B : List α} {i : Nat} {d : α} (h : i < A.length) : (A ++ B).getD i d = A.getD i d := by
  rw [List.getD_eq_getElem?_getD, List.getD_eq_getElem?_getD, List.getElem?_append_left h]
theorem getD_app_right {α : Type} {A B : List α} {i : Nat} {d : α} (h : A.length ≤ i) : (A ++ B).getD i d = B.getD (i - A.length) d := by
  rw [List.getD_eq_getElem?_getD, List.getD_eq_getElem?_getD, List.getElem?_append_right h]
theorem bl_eq {A B : List (List Int)} {x : List Int} (h1 : ∀ a ∈ A, lexLt a x = true) (h2 : ∀ b ∈ B, lexLt b x = false) : bl (A ++ B) x = A.length := by
  refine bisL_eq _ A.length (A ++ B).length (fun i hi => ?_) (fun i hi hn => ?_) _ _ _ (Nat.le_of_eq (Nat.sub_zero _)) (Nat.zero_le _) (by simp) (Nat.le_refl _)
  · rw [getD_app hi]; exact h1 _ (getD_mem hi)
  · rw [getD_app_right hi]; rw [List.length_append] at hn; exact h2 _ (getD_mem (by omega))
theorem br_eq {A B : List (List Int)} {x : List Int} (h1 : ∀ a ∈ A, lexLt x a = false) (h2 : ∀ b ∈ B, lexLt x b = true) : br (A ++ B) x = A.length := by
  refine bisL_eq _ A.length (A ++ B).length (fun i hi => ?_) (fun i hi hn => ?_) _ _ _ (Nat.le_of_eq (Nat.sub_zero _)) (Nat.zero_le _) (by simp) (Nat.le_refl _)
  · rw [getD_app hi, h1 _ (getD_mem hi)]; rfl
  · rw [getD_app_right hi]; rw [List.length_append] at hn; rw [h2 _ (getD_mem (by omega))]; rfl
theorem insAt_app {α : Type} {A B : List α} {x : α} : insAt (A ++ B) A.length x = A ++ x :: B := by
  unfold insAt; simp
theorem lex_plc {c d : Cl} {e f : Int} : lexLt (plc c e) (plc d f) = true ↔ c.hour < d.hour ∨ (c.hour = d.hour ∧ (c.mark < d.mark ∨ (c.mark = d.mark ∧ e < f))) := by
  simp only [plc, lexLt]
  by_cases h : c.hour = d.hour
  · rw [if_pos h]
    by_cases h' : c.mark = d.mark
    · rw [if_pos h']
      by_cases h'' : e = f
      · rw [if_pos h'']; simp; omega
      · rw [if_neg h'']; simp; omega
    · rw [if_neg h']; simp; omega
  · rw [if_neg h]; simp; omega
theorem lex_plc_hour {c : Cl} {e h : Int} : lexLt (plc c e) [h] = true ↔ c.hour < h := by
  simp only [plc, lexLt]
  by_cases q : c.hour = h
  · rw [if_pos q]; simp; omega
  · rw [if_neg q]; simp
theorem lex_hour {a b : Int} : lexLt [a] [b] = true ↔ a < b := by
  simp only [lexLt]
  by_cases q : a = b
  · rw [if_pos q]; simp; omega
  · rw [if_neg q]; simp
theorem lex_f {a b : List Int} {p : Prop} (h : lexLt a b = true ↔ p) (n : ¬ p) : lexLt a b = false := by
  cases q : lexLt a b with
  | false => rfl
  | true => exact absurd (h.mp q) n
noncomputable def Before (c d : Cl) : Prop := c.hour < d.hour ∨ (c.hour = d.hour ∧ c.mark < d.mark)
theorem before_lt {c d : Cl} {e f : Int} (h : Before c d) : lexLt (plc c e) (plc d f) = true := lex_plc.mpr (by unfold Before at h; omega)
theorem before_ge {c d : Cl} {e f : Int} (h : Before c d) : lexLt (plc d f) (plc c e) = false := lex_f lex_plc (by unfold Before at h; omega)
theorem plc_irr {c : Cl} {e : Int} : lexLt (plc c e) (plc c e) = false := lex_f lex_plc (by omega)
theorem plc_01 {c : Cl} : lexLt (plc c 0) (plc c 1) = true := lex_plc.mpr (by omega)
theorem plc_10 {c : Cl} : lexLt (plc c 1) (plc c 0) = false := lex_f lex_plc (by omega)
/-! texts by group -/
noncomputable def isCut (c : Cl) : Bool := c.deed == 0 || c.deed == 2 || c.deed == 5
noncomputable abbrev Ts := Nat → List Nat
noncomputable def layT (T : Ts) (c : Cl) : List Nat :=
  if c.deed = 0 ∨ c.deed = 1 then [c.turn] else if c.deed = 3 then (if T (grp c.name) = [] then [c.turn] else []) else if c.deed = 5 then (T (grp c.other)).take 1 else []
noncomputable def ansT (T : Ts) (c : Cl) : List (Nat × Ans) :=
  if c.deed = 3 then [(c.turn, .one ((T (grp c.name)).headD c.turn))] else if c.deed = 4 then [(c.turn, .all (T (grp c.name)))] else if c.deed = 5 then [(c.turn, match T (grp c.other) with | [] => .no | x :: _ => .one x)] else []
noncomputable def stepT (T : Ts) (c : Cl) : Ts := fun g => (if isCut c = true ∧ grp c.name = g then [] else T g) ++ (if grp c.name = g then layT T c else [])
noncomputable def ansS : Ts → List Cl → List (Nat × Ans)
  | _, [] => []
  | T, c :: S => ansT T c ++ ansS (stepT T c) S
noncomputable def runT : Ts → List Cl → Ts
  | T, [] => T
  | T, c :: S => runT (stepT T c) S
noncomputable def rdF (g : Nat) (c : Cl) : Bool := (c.deed == 3 && grp c.name == g) || (c.deed == 5 && grp c.other == g)
noncomputable def rdA (g : Nat) (c : Cl) : Bool := c.deed == 4 && grp c.name == g
noncomputable def zone (rd : Cl → Bool) (g : Nat) : List Cl → Bool
  | [] => false
  | c :: S => rd c || (!(isCut c && grp c.name == g) && zone rd g S)
theorem fresh_step {T : Ts} {c : Cl} {t : Nat} (h : ∀ g, t ∉ T g) (n : t ≠ c.turn) : ∀ g, t ∉ stepT T c g := by
  intro g hm
  unfold stepT at hm
  rcases List.mem_append.mp hm with a | a
  · split at a
    · cases a
    · exact h _ a
  · split at a
    · unfold layT at a
      split at a
      · simp at a; exact n a
      · split at a
        · split at a
          · simp at a; exact n a
          · cases a
        · split at a
          · exact h _ (List.mem_of_mem_take a)
          · cases a
    · cases a
theorem take1_head {a b : List Nat} (h : a.head? = b.head?) : a.take 1 = b.take 1 := by
  cases a <;> cases b <;> simp at h ⊢; exact h
theorem ans5_head {a b : List Nat} : ((match a with | [] => Ans.no | x :: _ => .one x) = (match b with | [] => Ans.no | x :: _ => .one x)) ↔ a.head? = b.head? := by
  cases a <;> cases b <;> simp
theorem main_zone (g : Nat) : ∀ (S : List Cl) (T1 T2 : Ts), (∀ g', g' ≠ g → T1 g' = T2 g') → (∀ c ∈ S, ∀ g', c.turn ∉ T1 g' ∧ c.turn ∉ T2 g') → (S.map (·.turn)).Nodup → (∀ c ∈ S, c.deed < 6) →
    (ansS T1 S = ansS T2 S ↔ ((T1 g ≠ T2 g → zone (rdA g) g S = false) ∧ ((T1 g).head? ≠ (T2 g).head? → zone (rdF g) g S = false)))
  | [], T1, T2, _, _, _, _ => by simp [ansS, zone]
  | c :: S, T1, T2, ho, hf, hn, hd => by
    by_cases e : T1 g = T2 g
    · have : T1 = T2 := funext fun g' => if q : g' = g then q ▸ e else ho g' q
      subst this
      simp
    have hn' : (S.map (·.turn)).Nodup := (List.nodup_cons.mp hn).2
    have hc : ∀ d ∈ S, d.turn ≠ c.turn := fun d hd' q => (List.nodup_cons.mp hn).1 (List.mem_map.mpr ⟨d, hd', q⟩)
    have hf' : ∀ d ∈ S, ∀ g', d.turn ∉ stepT T1 c g' ∧ d.turn ∉ stepT T2 c g' := fun d hd' g' =>
      ⟨fresh_step (fun g => (hf d (.tail _ hd') g).1) (hc d hd') g', fresh_step (fun g => (hf d (.tail _ hd') g).2) (hc d hd') g'⟩
    have ih := fun h => main_zone g S (stepT T1 c) (stepT T2 c) h hf' hn' (fun d hd' => hd d (.tail _ hd'))
    have fc := hf c (.head _)
    have hdc := hd c (.head _)
    have key : ∀ (heq : ansT T1 c = ansT T2 c), (∀ g', g' ≠ g → stepT T1 c g' = stepT T2 c g') → 
        (((stepT T1 c g ≠ stepT T2 c g → zone (rdA g) g S = false) ∧ ((stepT T1 c g).head? ≠ (stepT T2 c g).head? → zone (rdF g) g S = false)) ↔ ((T1 g ≠ T2 g → zone (rdA g) g (c :: S) = false) ∧ ((T1 g).head? ≠ (T2 g).head? → zone (rdF g) g (c :: S) = false))) →
        (ansS T1 (c :: S) = ansS T2 (c :: S) ↔ ((T1 g ≠ T2 g → zone (rdA g) g (c :: S) = false) ∧ ((T1 g).head? ≠ (T2 g).head? → zone (rdF g) g (c :: S) = false))) := by
      intro heq ho' hz
      rw [ansS, ansS, heq, List.append_cancel_left_eq, ih ho', hz]
    have dd : c.deed = 0 ∨ c.deed = 1 ∨ c.deed = 2 ∨ c.deed = 3 ∨ c.deed = 4 ∨ c.deed = 5 := by omega
    by_cases hg : grp c.name = g
    · -- the call's own group
      have off : ∀ g', g' ≠ g → stepT T1 c g' = stepT T2 c g' := fun g' q => by
        have q' : ¬ grp c.name = g' := fun z => q (z ▸ hg)
        simp [stepT, q', ho g' q]
      rcases dd with d | d | d | d | d | d
      · refine key (by simp [ansT, d]) off ?_
        · simp [stepT, hg, isCut, d, layT, zone, rdA, rdF]
      · refine key (by simp [ansT, d]) off ?_
        · have n1 := (fc g).1
          have n2 := (fc g).2
          have hh : ((T1 g ++ [c.turn]).head? = (T2 g ++ [c.turn]).head?) ↔ (T1 g).head? = (T2 g).head? := by
            cases q1 : T1 g <;> cases q2 : T2 g
            · simp
            · rw [q2] at n2; simp at n2 ⊢; exact fun z => n2.1 z
            · rw [q1] at n1; simp at n1 ⊢; exact fun z => n1.1 z.symm
            · simp
          have h2 : (T1 g ++ [c.turn] = T2 g ++ [c.turn]) ↔ T1 g = T2 g := List.append_left_inj _
          have e1 : stepT T1 c g = T1 g ++ [c.turn] := by simp [stepT, hg, isCut, d, layT]
          have e2 : stepT T2 c g = T2 g ++ [c.turn] := by simp [stepT, hg, isCut, d, layT]
          rw [e1, e2, Ne, Ne, hh, h2]
          simp [zone, rdA, rdF, isCut, d]
      · refine key (by simp [ansT, d]) off ?_
        · simp [stepT, hg, isCut, d, layT, zone, rdA, rdF]
      · by_cases hh : (T1 g).head? = (T2 g).head?
        · -- both hold a text, or both none
          have hne : T1 g ≠ [] ∧ T2 g ≠ [] := by
            cases q1 : T1 g <;> cases q2 : T2 g <;> simp [q1, q2] at hh e ⊢
          refine key (by simp [ansT, d, hg, hh]) off ?_
          · have e1 : stepT T1 c g = T1 g := by simp [stepT, hg, isCut, d, layT, hne.1]
            have e2 : stepT T2 c g = T2 g := by simp [stepT, hg, isCut, d, layT, hne.2]
            rw [e1, e2]
            simp [zone, rdA, isCut, d, hh]
        · have n1 := (fc g).1
          have n2 := (fc g).2
          constructor
          · intro q
            exfalso
            rw [ansS, ansS] at q
            simp only [ansT, d, hg, if_true, List.cons_append, List.nil_append, List.cons.injEq, Prod.mk.injEq, Ans.one.injEq, true_and] at q
            have q := q.1
            revert q hh n1 n2
            cases T1 g <;> cases T2 g <;> simp <;> intros <;> (first | assumption | (apply Ne.symm; assumption) | (intro z; simp_all))
          · intro q
            exfalso
            have := q.2 hh
            simp [zone, rdF, d, hg] at this
      · constructor
        · intro q
          exfalso
          rw [ansS, ansS] at q
          simp only [ansT, d, hg, if_true, List.cons_append, List.nil_append, List.cons.injEq, Prod.mk.injEq, Ans.all.injEq, true_and] at q
          simp at q
          exact e q.1
        · intro q
          exfalso
          have := q.1 e
          simp [zone, rdA, d, hg] at this
      · by_cases ho5 : grp c.other = g
        · by_cases hh : (T1 g).head? = (T2 g).head?
          · have ht := take1_head hh
            refine key (by simp [ansT, d, ho5, ans5_head.mpr hh]) off ?_
            · simp [stepT, hg, isCut, d, layT, zone, rdA, rdF, ho5, ht, hh]
          · constructor
            · intro q
              exfalso
              rw [ansS, ansS] at q
              simp only [ansT, d, ho5] at q
              simp at q
              exact hh (ans5_head.mp q.1)
            · intro q
              exfalso
              have := q.2 hh
              simp [zone, rdF, d, ho5] at this
        · have := ho _ ho5
          refine key (by simp [ansT, d, this]) off ?_
          · simp [stepT, hg, isCut, d, layT, zone, rdA, rdF, ho5, this]
    · -- the other group
      have hog := ho _ hg
      have st : ∀ (hl : layT T1 c = layT T2 c), (∀ g', g' ≠ g → stepT T1 c g' = stepT T2 c g') := by
        intro hl g' q
        simp [stepT, ho g' q, hl]
      have e1 : stepT T1 c g = T1 g := by simp [stepT, hg]
      have e2 : stepT T2 c g = T2 g := by simp [stepT, hg]
      by_cases h5 : c.deed = 5 ∧ grp c.other = g
      · obtain ⟨d, ho5⟩ := h5
        by_cases hh : (T1 g).head? = (T2 g).head?
        · have ht := take1_head hh
          refine key (by simp [ansT, d, ho5, ans5_head.mpr hh]) (st (by simp [layT, d, ho5, ht])) ?_
          rw [e1, e2]
          simp [zone, rdA, hh, hg]
        · constructor
          · intro q
            exfalso
            rw [ansS, ansS] at q
            simp only [ansT, d, ho5] at q
            simp at q
            exact hh (ans5_head.mp q.1)
          · intro q
            exfalso
            have := q.2 hh
            simp [zone, rdF, d, ho5] at this
      · have h5' : c.deed = 5 → T1 (grp c.other) = T2 (grp c.other) := fun d => ho _ fun q => h5 ⟨d, q⟩
        have ha : ansT T1 c = ansT T2 c := by
          unfold ansT
          rw [hog]
          by_cases d : c.deed = 5
          · rw [h5' d]
          · rw [if_neg d, if_neg d]
        have hl : layT T1 c = layT T2 c := by
          unfold layT
          rw [hog]
          by_cases d : c.deed = 5
          · rw [h5' d]
          · rw [if_neg d, if_neg d]
        refine key ha (st hl) ?_
        rw [e1, e2]
        have z1 : rdF g c = false := by
          unfold rdF
          simp only [hg, beq_iff_eq, Bool.and_eq_false_iff, Bool.or_eq_false_iff]
          refine ⟨.inr (by simpa using hg), ?_⟩
          by_cases d : c.deed = 5
          · exact .inr (by simpa using fun q => h5 ⟨d, q⟩)
          · exact .inl (by simpa using d)
        have z2 : rdA g c = false := by simp [rdA, hg]
        simp [zone, z1, z2, hg]
end Mine
end
section
set_option Elab.async false
namespace Mine
noncomputable def tg (hs : List Lay) : Ts := fun g => (hs.filter fun l => grp l.name == g).map (·.text)
noncomputable def layOf (T : Ts) (c : Cl) : List Lay := (layT T c).map fun x => ⟨plc c 1, c.name, x⟩
noncomputable def stepL (hs : List Lay) (c : Cl) : List Lay := (if isCut c = true then hs.filter (fun l => grp l.name != grp c.name) else hs) ++ layOf (tg hs) c
noncomputable def runL (hs : List Lay) (S : List Cl) : List Lay := S.foldl stepL hs
noncomputable def laysA : List Lay → List Cl → List Lay
  | _, [] => []
  | hs, c :: S => layOf (tg hs) c ++ laysA (stepL hs c) S
noncomputable def prj (l : Lay) : Nat × Nat := (l.name, l.text)
theorem tg_nil : tg [] = fun _ => [] := rfl
theorem tg_step (hs : List Lay) (c : Cl) : tg (stepL hs c) = stepT (tg hs) c := by
  funext g
  unfold stepT
  unfold tg stepL
  rw [List.filter_append, List.map_append]
  congr 1
  · by_cases h : isCut c = true
    · rw [if_pos h]
      by_cases e : grp c.name = g
      · rw [if_pos ⟨h, e⟩, List.filter_filter]
        have : hs.filter (fun a => (grp a.name == g) && (grp a.name != grp c.name)) = [] := by
          rw [List.filter_eq_nil_iff]
          intro a _
          rw [e]
          cases q : grp a.name == g <;> simp [q, bne]
        rw [this]; rfl
      · rw [if_neg (fun z => e z.2), List.filter_filter]
        congr 2
        funext a
        cases q : grp a.name == g with
        | false => rfl
        | true =>
          have : grp a.name = g := by simpa using q
          simp [this]; exact fun z => e z.symm
    · rw [if_neg h, if_neg (fun z => h z.1)]
  · unfold layOf
    by_cases e : grp c.name = g
    · rw [if_pos e, List.filter_map, List.filter_eq_self.mpr (fun a _ => by simp [e]), List.map_map]
      exact (List.map_congr_left (fun _ _ => rfl)).trans (List.map_id _)
    · rw [if_neg e, List.filter_map, List.filter_eq_nil_iff.mpr (fun a _ => by simp [e])]
      rfl
theorem textsG_prj (g : Nat) (hs : List Lay) : textsG g (hs.map prj) = tg hs g := by
  unfold textsG tg
  rw [List.filter_map, List.map_map]
  rfl
theorem dropG_prj (g : Nat) (hs : List Lay) : dropG g (hs.map prj) = (hs.filter (fun l => grp l.name != g)).map prj := by
  unfold dropG
  rw [List.filter_map]
  rfl
theorem stepD_prj (hs : List Lay) (A : List (Nat × Ans)) (c : Cl) (hd : c.deed < 6) : stepD (hs.map prj, A) c = ((stepL hs c).map prj, A ++ ansT (tg hs) c) := by
  have dd : c.deed = 0 ∨ c.deed = 1 ∨ c.deed = 2 ∨ c.deed = 3 ∨ c.deed = 4 ∨ c.deed = 5 := by omega
  unfold stepD
  rcases dd with d | d | d | d | d | d <;> rw [d] <;> simp only [textsG_prj, dropG_prj, stepL, layOf, layT, ansT, isCut, d] <;> simp [prj, List.map_append]
  · cases q : tg hs (grp c.name) <;> simp [prj]
  · cases q : tg hs (grp c.other) <;> simp [prj]
theorem doneP_run (log : List Cl) : ∀ (hs : List Lay) (A : List (Nat × Ans)), (∀ c ∈ log, c.deed < 6) → log.foldl stepD (hs.map prj, A) = ((runL hs log).map prj, A ++ ansS (tg hs) log) := by
  induction log with
  | nil => intro hs A _; simp [runL, ansS]
  | cons c S ih =>
    intro hs A h
    rw [List.foldl_cons, stepD_prj hs A c (h c (.head _)), ih _ _ fun d hd => h d (.tail _ hd)]
    rw [ansS, tg_step, List.append_assoc]
    rfl
theorem doneP_eq {log : List Cl} (h : ∀ c ∈ log, c.deed < 6) : doneP log = ((runL [] log).map prj, ansS (tg []) log) := by
  have := doneP_run log [] [] h
  unfold doneP
  simpa using this
theorem runL_app (hs : List Lay) (P S : List Cl) : runL hs (P ++ S) = runL (runL hs P) S := List.foldl_append ..
theorem laysA_app : ∀ (P : List Cl) (hs : List Lay) (S : List Cl), laysA hs (P ++ S) = laysA hs P ++ laysA (runL hs P) S
  | [], hs, S => rfl
  | c :: P, hs, S => by rw [List.cons_append, laysA, laysA, laysA_app P, List.append_assoc]; rfl
theorem ansS_app : ∀ (P : List Cl) (hs : List Lay) (S : List Cl), ansS (tg hs) (P ++ S) = ansS (tg hs) P ++ ansS (tg (runL hs P)) S
  | [], hs, S => rfl
  | c :: P, hs, S => by rw [List.cons_append, ansS, ansS, ← tg_step, ansS_app P, List.append_assoc]; rfl
/-! the rows of a log -/
noncomputable def cutsOf (g : Nat) (S : List Cl) : List (List Int) := (S.filter fun c => isCut c && grp c.name == g).map (plc · 1)
noncomputable def asksOf (rd : Cl → Bool) (S : List Cl) : List (List Int) := (S.filter rd).map (plc · 0)
noncomputable def laysOf (g : Nat) (hs : List Lay) (S : List Cl) : List Lay := (laysA hs S).filter fun l => grp l.name == g
noncomputable def keptOf (g : Nat) (log : List Cl) : Kept := ⟨cutsOf g log, laysOf g [] log, asksOf (rdF g) log, asksOf (rdA g) log⟩
noncomputable def rowsOf (log : List Cl) : Rows := ⟨keptOf 0 log, keptOf 1 log⟩
theorem rowsOf_get {log : List Cl} {g : Nat} (h : g < 2) : (rowsOf log).get g = keptOf g log := by
  have : g = 0 ∨ g = 1 := by omega
  rcases this with rfl | rfl <;> rfl
theorem grp_two {n : Nat} (h : n < 4) : grp n < 2 := by unfold grp; omega
theorem rows_ext {r r' : Rows} (h : ∀ g, g < 2 → r.get g = r'.get g) : r = r' := by
  have h0 := h 0 (by omega)
  have h1 := h 1 (by omega)
  cases r; cases r'
  simp [Rows.get] at h0 h1
  rw [h0, h1]
theorem get_set' {r : Rows} {g g' : Nat} {k : Kept} (hg : g < 2) (hg' : g' < 2) : (r.set g k).get g' = if g' = g then k else r.get g' := by
  have e1 : g = 0 ∨ g = 1 := by omega
  have e2 : g' = 0 ∨ g' = 1 := by omega
  rcases e1 with rfl | rfl <;> rcases e2 with rfl | rfl <;> simp [Rows.get, Rows.set]
noncomputable def InOrd (S : List Cl) : Prop := S.Pairwise Before
theorem cutsOf_mem {g : Nat} {S : List Cl} {x : List Int} (h : x ∈ cutsOf g S) : ∃ c ∈ S, x = plc c 1 ∧ isCut c = true ∧ grp c.name = g := by
  obtain ⟨c, hc, e⟩ := List.mem_map.mp h
  obtain ⟨hc, hp⟩ := List.mem_filter.mp hc
  rw [Bool.and_eq_true] at hp
  exact ⟨c, hc, e.symm, hp.1, by simpa using hp.2⟩
theorem asksOf_mem {rd : Cl → Bool} {S : List Cl} {x : List Int} (h : x ∈ asksOf rd S) : ∃ c ∈ S, x = plc c 0 ∧ rd c = true := by
  obtain ⟨c, hc, e⟩ := List.mem_map.mp h
  obtain ⟨hc, hp⟩ := List.mem_filter.mp hc
  exact ⟨c, hc, e.symm, hp⟩
theorem layOf_mem {T : Ts} {c : Cl} {l : Lay} (h : l ∈ layOf T c) : l.place = plc c 1 ∧ l.name = c.name := by
  obtain ⟨x, _, e⟩ := List.mem_map.mp h
  rw [← e]; exact ⟨rfl, rfl⟩
theorem laysA_mem : ∀ {S : List Cl} {hs : List Lay} {l : Lay}, l ∈ laysA hs S → ∃ c ∈ S, l.place = plc c 1 ∧ l.name = c.name
  | c :: S, hs, l, h => by
    rcases List.mem_append.mp h with h | h
    · exact ⟨c, .head _, layOf_mem h⟩
    · obtain ⟨d, hd, e⟩ := laysA_mem h
      exact ⟨d, .tail _ hd, e⟩
theorem runL_mem : ∀ {S : List Cl} {hs : List Lay} {l : Lay}, l ∈ runL hs S → l ∈ hs ∨ ∃ c ∈ S, l.place = plc c 1 ∧ l.name = c.name
  | [], _, _, h => .inl h
  | c :: S, hs, l, h => by
    rcases runL_mem (S := S) (hs := stepL hs c) h with h | ⟨d, hd, e⟩
    · rcases List.mem_append.mp h with h | h
      · refine .inl ?_
        split at h
        · exact (List.mem_filter.mp h).1
        · exact h
      · exact .inr ⟨c, .head _, layOf_mem h⟩
    · exact .inr ⟨d, .tail _ hd, e⟩
end Mine
end
section
set_option Elab.async false
namespace Mine
theorem snoc_cases {α : Type} (l : List α) : l = [] ∨ ∃ L b, l = L ++ [b] := by
  cases h : l.reverse with
  | nil => left; simpa using h
  | cons b r => right; exact ⟨r.reverse, b, by have := congrArg List.reverse h; simpa using this⟩
theorem cutsOf_app {g : Nat} {P S : List Cl} : cutsOf g (P ++ S) = cutsOf g P ++ cutsOf g S := by unfold cutsOf; rw [List.filter_append, List.map_append]
theorem asksOf_app {rd : Cl → Bool} {P S : List Cl} : asksOf rd (P ++ S) = asksOf rd P ++ asksOf rd S := by unfold asksOf; rw [List.filter_append, List.map_append]
theorem laysOf_app {g : Nat} {hs : List Lay} {P S : List Cl} : laysOf g hs (P ++ S) = laysOf g hs P ++ laysOf g (runL hs P) S := by unfold laysOf; rw [laysA_app, List.filter_append]
theorem cutsOf_one {g : Nat} {c : Cl} : cutsOf g [c] = if isCut c = true ∧ grp c.name = g then [plc c 1] else [] := by
  unfold cutsOf
  rw [List.filter_cons]
  by_cases h : isCut c = true ∧ grp c.name = g
  · rw [if_pos h, if_pos (by rw [h.1, h.2]; simp)]; rfl
  · rw [if_neg h, if_neg (fun q => h (by rw [Bool.and_eq_true] at q; exact ⟨q.1, by simpa using q.2⟩))]; rfl
theorem stepL_filter {g : Nat} {hs : List Lay} {c : Cl} : (stepL hs c).filter (fun l => grp l.name == g) = (if isCut c = true ∧ grp c.name = g then [] else hs.filter fun l => grp l.name == g) ++ (layOf (tg hs) c).filter (fun l => grp l.name == g) := by
  unfold stepL
  rw [List.filter_append]
  congr 1
  by_cases h : isCut c = true
  · rw [if_pos h, List.filter_filter]
    by_cases e : grp c.name = g
    · rw [if_pos ⟨h, e⟩, List.filter_eq_nil_iff]
      intro a _
      rw [e]
      cases q : grp a.name == g <;> simp [q, bne]
    · rw [if_neg (fun z => e z.2)]
      congr 1
      funext a
      cases q : grp a.name == g with
      | false => rfl
      | true =>
        have : grp a.name = g := by simpa using q
        simp [this]; exact fun z => e z.symm
  · rw [if_neg h, if_neg (fun z => h z.1)]
theorem ord_app {P S : List Cl} (h : InOrd (P ++ S)) : InOrd P ∧ InOrd S ∧ ∀ p ∈ P, ∀ s ∈ S, Before p s := List.pairwise_append.mp h
theorem stand_split (g : Nat) : ∀ (n : Nat) (P : List Cl), P.length = n → InOrd P →
    (cutsOf g P = [] ∧ laysOf g [] P = (runL [] P).filter fun l => grp l.name == g) ∨
    (∃ C d A, cutsOf g P = C ++ [plc d 1] ∧ d ∈ P ∧ (laysOf g [] P = A ++ (runL [] P).filter fun l => grp l.name == g) ∧ (∀ a ∈ A, lexLt a.place (plc d 1) = true) ∧ (∀ b ∈ (runL [] P).filter (fun l => grp l.name == g), lexLt b.place (plc d 1) = false))
  | 0, P, hn, _ => by
    have : P = [] := List.length_eq_zero_iff.mp hn
    subst this
    exact .inl ⟨rfl, rfl⟩
  | n + 1, P, hn, ho => by
    rcases snoc_cases P with rfl | ⟨P', c, rfl⟩
    · cases hn
    have hn' : P'.length = n := by rw [List.length_append] at hn; exact Nat.succ.inj hn
    obtain ⟨o1, _, o2⟩ := ord_app ho
    have hb : ∀ p ∈ P', Before p c := fun p hp => o2 p hp c (.head _)
    rw [cutsOf_app, laysOf_app, runL_app, cutsOf_one]
    have e1 : runL (runL [] P') [c] = stepL (runL [] P') c := rfl
    have e2 : laysOf g (runL [] P') [c] = (layOf (tg (runL [] P')) c).filter fun l => grp l.name == g := by
      unfold laysOf; rw [laysA, laysA, List.append_nil]
    rw [e1, e2, stepL_filter]
    by_cases h : isCut c = true ∧ grp c.name = g
    · rw [if_pos h, if_pos h, List.nil_append]
      refine .inr ⟨cutsOf g P', c, laysOf g [] P', rfl, by simp, rfl, fun a ha => ?_, fun b hb' => ?_⟩
      · obtain ⟨d, hd, e, _⟩ := laysA_mem (List.mem_filter.mp ha).1
        rw [e]; exact before_lt (hb d hd)
      · rw [(layOf_mem (List.mem_filter.mp hb').1).1]; exact plc_irr
    · rw [if_neg h, if_neg h, List.append_nil]
      rcases stand_split g n P' hn' o1 with ⟨a, b⟩ | ⟨C, d, A, a, hd, b, c1, c2⟩
      · exact .inl ⟨a, by rw [b]⟩
      · refine .inr ⟨C, d, A, a, List.mem_append_left _ hd, by rw [b, List.append_assoc], c1, fun x hx => ?_⟩
        rcases List.mem_append.mp hx with hx | hx
        · exact c2 x hx
        · rw [(layOf_mem (List.mem_filter.mp hx).1).1]; exact before_ge (hb d hd)
theorem standing_eq {g : Nat} {P S : List Cl} {x : List Int} (ho : InOrd (P ++ S)) (hP : ∀ c ∈ P, lexLt (plc c 1) x = true) (hS : ∀ c ∈ S, lexLt (plc c 1) x = false) :
    standing (keptOf g (P ++ S)) x = (runL [] P).filter fun l => grp l.name == g := by
  obtain ⟨o1, _, o2⟩ := ord_app ho
  unfold standing
  dsimp only [keptOf]
  rw [cutsOf_app, laysOf_app]
  have hb : bl (cutsOf g P ++ cutsOf g S) x = (cutsOf g P).length := bl_eq (fun a ha => by obtain ⟨c, hc, e, _⟩ := cutsOf_mem ha; rw [e]; exact hP c hc) (fun a ha => by obtain ⟨c, hc, e, _⟩ := cutsOf_mem ha; rw [e]; exact hS c hc)
  have pl : ∀ {g : Nat} {hs : List Lay} {S : List Cl} {a : List Int}, a ∈ places (laysOf g hs S) → ∃ c ∈ S, a = plc c 1 := fun h => by
    obtain ⟨l, hl, e⟩ := List.mem_map.mp h
    obtain ⟨c, hc, e', _⟩ := laysA_mem (List.mem_filter.mp hl).1
    exact ⟨c, hc, e.symm.trans e'⟩
  have hl : bl (places (laysOf g [] P ++ laysOf g (runL [] P) S)) x = (laysOf g [] P).length := by
    unfold places
    rw [List.map_append, ← List.length_map (f := Lay.place) (as := laysOf g [] P)]
    exact bl_eq (fun a ha => by obtain ⟨c, hc, e⟩ := pl ha; rw [e]; exact hP c hc) (fun a ha => by obtain ⟨c, hc, e⟩ := pl ha; rw [e]; exact hS c hc)
  rw [hb, hl, List.take_left']
  · rcases stand_split g _ P rfl o1 with ⟨a, b⟩ | ⟨C, d, A, a, hd, b, c1, c2⟩
    · rw [a]
      simp only [List.length_nil, if_true]
      rw [b]; rfl
    · rw [a, if_neg (by simp)]
      have e1 : (C ++ [plc d 1] ++ cutsOf g S).getD ((C ++ [plc d 1]).length - 1) [] = plc d 1 := by
        rw [getD_app (by simp), getD_app_right (by simp)]
        simp
      rw [e1, b, List.append_assoc]
      have e2 : bl (places (A ++ ((runL [] P).filter (fun l => grp l.name == g) ++ laysOf g (runL [] P) S))) (plc d 1) = A.length := by
        unfold places
        rw [List.map_append, ← List.length_map (f := Lay.place) (as := A)]
        refine bl_eq (fun x hx => ?_) (fun x hx => ?_)
        · obtain ⟨l, hl, e⟩ := List.mem_map.mp hx
          rw [← e]; exact c1 l hl
        · rw [List.map_append] at hx
          rcases List.mem_append.mp hx with hx | hx
          · obtain ⟨l, hl, e⟩ := List.mem_map.mp hx
            rw [← e]; exact c2 l hl
          · obtain ⟨c, hc, e⟩ := pl hx
            rw [e]; exact before_ge (o2 d hd c hc)
      rw [e2, List.drop_left']
      rfl
  · rfl
theorem first_cut (rd : Cl → Bool) (g : Nat) : ∀ S : List Cl, (cutsOf g S = [] ∧ zone rd g S = S.any rd) ∨ (∃ S1 d S2, S = S1 ++ d :: S2 ∧ cutsOf g S1 = [] ∧ (isCut d = true ∧ grp d.name = g) ∧ zone rd g S = (S1 ++ [d]).any rd)
  | [] => .inl ⟨rfl, rfl⟩
  | c :: S => by
    have e : cutsOf g (c :: S) = (if isCut c = true ∧ grp c.name = g then [plc c 1] else []) ++ cutsOf g S := by
      rw [← cutsOf_one, ← cutsOf_app]; rfl
    by_cases h : isCut c = true ∧ grp c.name = g
    · refine .inr ⟨[], c, S, rfl, rfl, h, ?_⟩
      simp [zone, h.1, h.2]
    · have hz : zone rd g (c :: S) = (rd c || zone rd g S) := by
        have : (isCut c && grp c.name == g) = false := by
          cases q : (isCut c && grp c.name == g) with
          | false => rfl
          | true => rw [Bool.and_eq_true] at q; exact absurd ⟨q.1, by simpa using q.2⟩ h
        simp [zone, this]
      rw [if_neg h, List.nil_append] at e
      rcases first_cut rd g S with ⟨a, b⟩ | ⟨S1, d, S2, a, b, c1, c2⟩
      · exact .inl ⟨by rw [e, a], by rw [hz, b, List.any_cons]⟩
      · refine .inr ⟨c :: S1, d, S2, by rw [a]; rfl, ?_, c1, by rw [hz, c2, List.cons_append, List.any_cons]⟩
        have : cutsOf g (c :: S1) = (if isCut c = true ∧ grp c.name = g then [plc c 1] else []) ++ cutsOf g S1 := by
          rw [← cutsOf_one, ← cutsOf_app]; rfl
        rw [this, if_neg h, b]; rfl
theorem asks_pos {rd : Cl → Bool} {S : List Cl} (n : Nat) : decide (n < n + (asksOf rd S).length) = S.any rd := by
  unfold asksOf
  rw [List.length_map]
  by_cases h : ∃ c ∈ S, rd c = true
  · obtain ⟨c, hc, hr⟩ := h
    have : 0 < (S.filter rd).length := List.length_pos_iff.mpr (fun e => by have := List.mem_filter.mpr ⟨hc, hr⟩; rw [e] at this; cases this)
    rw [decide_eq_true (by omega), List.any_eq_true.mpr ⟨c, hc, hr⟩]
  · have e : S.filter rd = [] := List.filter_eq_nil_iff.mpr fun c hc q => h ⟨c, hc, q⟩
    rw [e, decide_eq_false (by simp)]
    exact (Bool.eq_false_iff.mpr fun q => h (by obtain ⟨c, hc, hr⟩ := List.any_eq_true.mp q; exact ⟨c, hc, hr⟩)).symm
theorem asked_zone {rd : Cl → Bool} {g : Nat} {c : Cl} {S : List Cl} {CP AP : List (List Int)} (ho : InOrd (c :: S)) (hc : ∀ a ∈ CP, lexLt (plc c 1) a = false) (ha : ∀ a ∈ AP, ∀ d ∈ S, lexLt a (plc c 1) = true ∧ lexLt a (plc d 1) = true) (ha' : ∀ a ∈ AP, lexLt a (plc c 1) = true) :
    asked (AP ++ asksOf rd S) (CP ++ cutsOf g S) (plc c 1) = zone rd g S := by
  obtain ⟨hb, hoS⟩ := List.pairwise_cons.mp ho
  have e1 : bl (AP ++ asksOf rd S) (plc c 1) = AP.length := bl_eq ha' (fun x hx => by obtain ⟨d, hd, e, _⟩ := asksOf_mem hx; rw [e]; exact before_ge (hb d hd))
  have e2 : br (CP ++ cutsOf g S) (plc c 1) = CP.length := br_eq hc (fun x hx => by obtain ⟨d, hd, e, _⟩ := cutsOf_mem hx; rw [e]; exact before_lt (hb d hd))
  unfold asked
  dsimp only
  rw [e1, e2]
  rcases first_cut rd g S with ⟨a, b⟩ | ⟨S1, d, S2, a, b, c1, c2⟩
  · rw [a, List.append_nil, if_neg (Nat.lt_irrefl _), b, List.length_append]
    exact asks_pos _
  · have ec : cutsOf g S = plc d 1 :: cutsOf g S2 := by
      have : cutsOf g (S1 ++ ([d] ++ S2)) = plc d 1 :: cutsOf g S2 := by
        rw [cutsOf_app, cutsOf_app, b, cutsOf_one, if_pos c1]; rfl
      rw [a]; exact this
    have hs1 : ∀ s ∈ S1, Before s d := by
      rw [a] at hoS
      exact fun s hs => (ord_app hoS).2.2 s hs d (.head _)
    have hs2 : ∀ s ∈ S2, Before d s := by
      rw [a] at hoS
      exact (List.pairwise_cons.mp (ord_app hoS).2.1).1
    have hd : d ∈ S := by rw [a]; simp
    rw [ec, if_pos (by rw [List.length_append, List.length_cons]; omega)]
    have e3 : (CP ++ plc d 1 :: cutsOf g S2).getD CP.length [] = plc d 1 := by
      rw [getD_app_right (Nat.le_refl _)]; simp
    rw [e3, c2]
    have ea : AP ++ asksOf rd S = (AP ++ asksOf rd (S1 ++ [d])) ++ asksOf rd S2 := by
      rw [a, show S1 ++ d :: S2 = (S1 ++ [d]) ++ S2 by simp, asksOf_app (P := S1 ++ [d]), List.append_assoc]
    have e4 : bl (AP ++ asksOf rd S) (plc d 1) = AP.length + (asksOf rd (S1 ++ [d])).length := by
      rw [ea, ← List.length_append]
      refine bl_eq (fun x hx => ?_) (fun x hx => ?_)
      · rcases List.mem_append.mp hx with hx | hx
        · exact (ha x hx d hd).2
        · obtain ⟨s, hs, e, _⟩ := asksOf_mem hx
          rw [e]
          rcases List.mem_append.mp hs with hs | hs
          · exact before_lt (hs1 s hs)
          · rw [List.mem_singleton.mp hs]; exact plc_01
      · obtain ⟨s, hs, e, _⟩ := asksOf_mem hx
        rw [e]; exact before_ge (hs2 s hs)
    rw [e4]
    exact asks_pos _
end Mine
end
section
set_option Elab.async false
namespace Mine
theorem tg_fresh : ∀ (P : List Cl) (hs : List Lay) (t : Nat), (∀ g, t ∉ tg hs g) → t ∉ P.map (·.turn) → ∀ g, t ∉ tg (runL hs P) g
  | [], _, _, h, _ => h
  | c :: P, hs, t, h, n => by
    rw [List.map_cons, List.mem_cons, not_or] at n
    exact tg_fresh P (stepL hs c) t (by rw [tg_step]; exact fresh_step h n.1) n.2
theorem ansT_len {T1 T2 : Ts} {c : Cl} : (ansT T1 c).length = (ansT T2 c).length := by
  unfold ansT
  split
  · rfl
  · split
    · rfl
    · split <;> rfl
theorem layT_same {T1 T2 : Ts} {c : Cl} (e : ansT T1 c = ansT T2 c) (f1 : ∀ g, c.turn ∉ T1 g) (f2 : ∀ g, c.turn ∉ T2 g) : layT T1 c = layT T2 c := by
  unfold layT
  unfold ansT at e
  by_cases h0 : c.deed = 0 ∨ c.deed = 1
  · rw [if_pos h0, if_pos h0]
  rw [if_neg h0, if_neg h0]
  by_cases h3 : c.deed = 3
  · rw [if_pos h3, if_pos h3]
    rw [if_pos h3, if_pos h3] at e
    have f1 := f1 (grp c.name)
    have f2 := f2 (grp c.name)
    revert e f1 f2
    cases T1 (grp c.name) <;> cases T2 (grp c.name) <;> simp <;> intros <;> (first | assumption | (apply Ne.symm; assumption) | (intro z; simp_all) | simp_all)
  rw [if_neg h3, if_neg h3]
  by_cases h5 : c.deed = 5
  · rw [if_pos h5, if_pos h5]
    simp [h5] at e
    exact take1_head (ans5_head.mp e)
  rw [if_neg h5, if_neg h5]
theorem lays_same : ∀ (S : List Cl) (hs1 hs2 : List Lay), ansS (tg hs1) S = ansS (tg hs2) S → (∀ c ∈ S, ∀ g, c.turn ∉ tg hs1 g ∧ c.turn ∉ tg hs2 g) → (S.map (·.turn)).Nodup → laysA hs1 S = laysA hs2 S
  | [], _, _, _, _, _ => rfl
  | c :: S, hs1, hs2, e, f, n => by
    rw [ansS, ansS] at e
    obtain ⟨e1, e2⟩ := List.append_inj e ansT_len
    have n' := (List.nodup_cons.mp n).2
    have hc : ∀ d ∈ S, d.turn ≠ c.turn := fun d hd' q => (List.nodup_cons.mp n).1 (List.mem_map.mpr ⟨d, hd', q⟩)
    have hl := layT_same e1 (fun g => (f c (.head _) g).1) (fun g => (f c (.head _) g).2)
    rw [laysA, laysA]
    unfold layOf
    rw [hl, lays_same S (stepL hs1 c) (stepL hs2 c) (by rw [tg_step, tg_step]; exact e2) (fun d hd g => by
      rw [tg_step, tg_step]
      exact ⟨fresh_step (fun g => (f d (.tail _ hd) g).1) (hc d hd) g, fresh_step (fun g => (f d (.tail _ hd) g).2) (hc d hd) g⟩) n']
/-- what the rows tell at a call's place -/
structure At (P S : List Cl) (c : Cl) : Prop where
  ord : InOrd (P ++ S)
  lo : ∀ p ∈ P, Before p c
  hi : ∀ s ∈ S, s = c ∨ Before c s
theorem At.stand1 {P S : List Cl} {c : Cl} (a : At P S c) {g : Nat} (hg : g < 2) : (standing ((rowsOf (P ++ S)).get g) (plc c 1)).map (·.text) = tg (runL [] P) g := by
  rw [rowsOf_get hg, standing_eq a.ord (fun p hp => before_lt (a.lo p hp)) (fun s hs => by rcases a.hi s hs with rfl | h; exact plc_irr; exact before_ge h)]
  rfl
theorem At.stand0 {P S : List Cl} {c : Cl} (a : At P S c) {g : Nat} (hg : g < 2) : (standing ((rowsOf (P ++ S)).get g) (plc c 0)).map (·.text) = tg (runL [] P) g := by
  rw [rowsOf_get hg, standing_eq a.ord (fun p hp => before_lt (a.lo p hp)) (fun s hs => by rcases a.hi s hs with rfl | h; exact plc_10; exact before_ge h)]
  rfl
theorem At.then_ {P S : List Cl} {c : Cl} (a : At P S c) (h4 : c.name < 4) : thenP (rowsOf (P ++ S)) c = tg (runL [] P) (grp c.name) := a.stand1 (grp_two h4)
theorem At.now_ {P S : List Cl} {c : Cl} (a : At P S c) (h4 : c.name < 4) (o4 : c.other < 4) (hd : c.deed < 6) : nowP (rowsOf (P ++ S)) c = stepT (tg (runL [] P)) c (grp c.name) := by
  have dd : c.deed = 0 ∨ c.deed = 1 ∨ c.deed = 2 ∨ c.deed = 3 ∨ c.deed = 4 ∨ c.deed = 5 := by omega
  unfold nowP
  rw [a.then_ h4, a.stand0 (grp_two o4)]
  rcases dd with d | d | d | d | d | d <;> rw [d] <;> simp [stepT, isCut, layT, d]
  by_cases q : tg (runL [] P) (grp c.name) = [] <;> simp [q]
theorem At.ans_ {P S : List Cl} {c : Cl} (a : At P S c) (h4 : c.name < 4) (o4 : c.other < 4) (hd : c.deed < 6) (h2 : 2 < c.deed) : ansT (tg (runL [] P)) c = [(c.turn, ansP (rowsOf (P ++ S)) c)] := by
  have dd : c.deed = 3 ∨ c.deed = 4 ∨ c.deed = 5 := by omega
  unfold ansP
  rw [a.then_ h4, a.now_ h4 o4 hd]
  rcases dd with d | d | d <;> simp only [d, ansT, stepT, isCut, layT] <;> simp
  · cases q : tg (runL [] P) (grp c.name) <;> simp
  · cases q : tg (runL [] P) (grp c.other) <;> simp
theorem ansT_none {T : Ts} {c : Cl} (h : c.deed ≤ 2) : ansT T c = [] := by
  unfold ansT
  rw [if_neg (by omega), if_neg (by omega), if_neg (by omega)]
theorem stepT_other {T : Ts} {c : Cl} {g : Nat} (h : g ≠ grp c.name) : T g = stepT T c g := by
  unfold stepT
  rw [if_neg (fun q => h q.2.symm), if_neg (fun q => h q.symm), List.append_nil]
theorem free_iff {P S : List Cl} {c : Cl} {r : Rows} (h4 : c.name < 4) (hd : c.deed < 6) (hdS : ∀ d ∈ S, d.deed < 6) (hn : ((P ++ c :: S).map (·.turn)).Nodup)
    (ht : thenP r c = tg (runL [] P) (grp c.name)) (hw : nowP r c = stepT (tg (runL [] P)) c (grp c.name))
    (hA : asked (r.get (grp c.name)).alls (r.get (grp c.name)).cuts (plc c 1) = zone (rdA (grp c.name)) (grp c.name) S) (hF : asked (r.get (grp c.name)).firsts (r.get (grp c.name)).cuts (plc c 1) = zone (rdF (grp c.name)) (grp c.name) S) :
    freeP r c = true ↔ ansS (tg (runL [] P)) S = ansS (tg (stepL (runL [] P) c)) S := by
  rw [List.map_append, List.map_cons] at hn
  obtain ⟨_, n2, n3⟩ := List.nodup_append.mp hn
  obtain ⟨n4, n5⟩ := List.nodup_cons.mp n2
  have fr : ∀ d ∈ S, ∀ g, d.turn ∉ tg (runL [] P) g := fun d hdm => tg_fresh P [] d.turn (fun g h => by cases h) (fun q => n3 _ q _ (List.mem_cons_of_mem _ (List.mem_map.mpr ⟨d, hdm, rfl⟩)) rfl)
  rw [tg_step, main_zone (grp c.name) S _ _ (fun g' h => stepT_other h) (fun d hdm g => ⟨fr d hdm g, fresh_step (fr d hdm) (fun q => n4 (q ▸ List.mem_map.mpr ⟨d, hdm, rfl⟩)) g⟩) n5 hdS]
  unfold freeP
  dsimp only
  rw [ht, hw, hA, hF]
  have t1 : ∀ {a b : List Nat}, a.take 1 = b.take 1 ↔ a.head? = b.head? := fun {a b} => by cases a <;> cases b <;> simp
  constructor
  · intro h
    simp only [Bool.and_eq_true, Bool.not_eq_true', Bool.and_eq_false_iff, decide_eq_false_iff_not] at h
    refine ⟨fun q => ?_, fun q => ?_⟩
    · rcases h.1 with h | h
      · exact absurd (fun z => q z.symm) h
      · exact h
    · rcases h.2 with h | h
      · exact absurd (fun z => q (t1.mp z).symm) h
      · exact h
  · rintro ⟨a, b⟩
    simp only [Bool.and_eq_true, Bool.not_eq_true', Bool.and_eq_false_iff, decide_eq_false_iff_not]
    refine ⟨?_, ?_⟩
    · by_cases q : tg (runL [] P) (grp c.name) = stepT (tg (runL [] P)) c (grp c.name)
      · exact .inl fun z => z q.symm
      · exact .inr (a q)
    · by_cases q : (tg (runL [] P) (grp c.name)).head? = (stepT (tg (runL [] P)) c (grp c.name)).head?
      · exact .inl fun z => z (t1.mpr q.symm)
      · exact .inr (b q)
end Mine
end
section
set_option Elab.async false
namespace Mine
theorem putAsk_get {r : Rows} {c : Cl} {g : Nat} (h1 : grp c.name < 2) (h2 : grp c.other < 2) (hg : g < 2) :
    (putAsk r c).get g = ⟨(r.get g).cuts, (r.get g).lays, if rdF g c = true then insL (r.get g).firsts (plc c 0) else (r.get g).firsts, if rdA g c = true then insL (r.get g).alls (plc c 0) else (r.get g).alls⟩ := by
  unfold putAsk
  split
  · rename_i d
    rw [get_set' h1 hg]
    by_cases e : g = grp c.name
    · rw [if_pos e, ← e]; simp [rdF, rdA, d, e.symm]
    · rw [if_neg e]; rw [if_neg (by simp [rdF, d]; try exact fun z => e z.symm), if_neg (by simp [rdA, d]; try exact fun z => e z.symm)]
  · rename_i d
    rw [get_set' h1 hg]
    by_cases e : g = grp c.name
    · rw [if_pos e, ← e]; simp [rdF, rdA, d, e.symm]
    · rw [if_neg e]; rw [if_neg (by simp [rdF, d]; try exact fun z => e z.symm), if_neg (by simp [rdA, d]; try exact fun z => e z.symm)]
  · rename_i d
    rw [get_set' h2 hg]
    by_cases e : g = grp c.other
    · rw [if_pos e, ← e]; simp [rdF, rdA, d, e.symm]
    · rw [if_neg e]; rw [if_neg (by simp [rdF, d]; exact fun z => e z.symm), if_neg (by simp [rdA, d])]
  · rename_i d3 d4 d5
    rw [if_neg (by simp [rdF]; exact ⟨fun z => (d3 z).elim, fun z => (d5 z).elim⟩), if_neg (by simp [rdA]; exact fun z => (d4 z).elim)]
theorem isCut_iff {c : Cl} : isCut c = true ↔ (c.deed = 0 ∨ c.deed = 2 ∨ c.deed = 5) := by
  simp [isCut, or_assoc]
theorem putCut_get {r : Rows} {c : Cl} {g : Nat} (h1 : grp c.name < 2) (hg : g < 2) :
    (putCut r c).get g = ⟨if isCut c = true ∧ grp c.name = g then insR (r.get g).cuts (plc c 1) else (r.get g).cuts, (r.get g).lays, (r.get g).firsts, (r.get g).alls⟩ := by
  unfold putCut
  by_cases h : c.deed = 0 ∨ c.deed = 2 ∨ c.deed = 5
  · rw [if_pos h, get_set' h1 hg]
    by_cases e : g = grp c.name
    · rw [if_pos e, if_pos ⟨isCut_iff.mpr h, e.symm⟩, ← e]
    · rw [if_neg e, if_neg (fun z => e z.2.symm)]
  · rw [if_neg h, if_neg (fun z => h (isCut_iff.mp z.1))]
theorem putLay_get {r : Rows} {c : Cl} {g : Nat} {T : Ts} (h1 : grp c.name < 2) (hg : g < 2) :
    (putLay r c (T (grp c.name)) (stepT T c (grp c.name))).get g = ⟨(r.get g).cuts, if grp c.name = g then (layOf T c).foldl insLayR (r.get g).lays else (r.get g).lays, (r.get g).firsts, (r.get g).alls⟩ := by
  unfold putLay
  by_cases h : c.deed = 0 ∨ c.deed = 1 ∨ c.deed = 5 ∨ (c.deed = 3 ∧ T (grp c.name) = [])
  · rw [if_pos h]
    have hl : ∀ x, (stepT T c (grp c.name)).getLast? = some x → layT T c = [x] := by
      intro x hx
      rcases h with d | d | d | ⟨d, e⟩
      · simp [stepT, layT, isCut, d] at hx ⊢; exact hx
      · simp [stepT, layT, isCut, d] at hx ⊢; exact hx
      · simp [stepT, layT, isCut, d] at hx ⊢
        cases q : T (grp c.other) <;> simp [q] at hx ⊢; exact hx
      · simp [stepT, layT, isCut, d, e] at hx ⊢; exact hx
    have hn : (stepT T c (grp c.name)).getLast? = none → layT T c = [] := by
      intro hx
      rcases h with d | d | d | ⟨d, e⟩
      · simp [stepT, layT, isCut, d] at hx
      · simp [stepT, layT, isCut, d] at hx
      · simp [stepT, layT, isCut, d] at hx ⊢; exact hx
      · simp [stepT, layT, isCut, d, e] at hx
    cases q : (stepT T c (grp c.name)).getLast? with
    | none =>
      unfold layOf
      rw [hn q]; simp
    | some x =>
      unfold layOf
      rw [hl x q]
      dsimp only
      rw [get_set' h1 hg]
      by_cases e : g = grp c.name
      · rw [if_pos e, if_pos e.symm, ← e]; rfl
      · rw [if_neg e, if_neg (fun z => e z.symm)]
  · rw [if_neg h]
    have : layT T c = [] := by
      unfold layT
      rw [if_neg (fun z => h (z.elim .inl fun z => .inr (.inl z)))]
      by_cases d : c.deed = 3
      · rw [if_pos d, if_neg (fun z => h (.inr (.inr (.inr ⟨d, z⟩))))]
      · rw [if_neg d, if_neg (fun z => h (.inr (.inr (.inl z))))]
    unfold layOf
    rw [this]; simp
theorem insR_app {A B : List (List Int)} {x : List Int} (h1 : ∀ a ∈ A, lexLt x a = false) (h2 : ∀ b ∈ B, lexLt x b = true) : insR (A ++ B) x = A ++ x :: B := by
  unfold insR; rw [br_eq (fun a ha => by rw [h1 a ha]) h2, insAt_app]
theorem insL_app {A B : List (List Int)} {x : List Int} (h1 : ∀ a ∈ A, lexLt a x = true) (h2 : ∀ b ∈ B, lexLt b x = false) : insL (A ++ B) x = A ++ x :: B := by
  unfold insL; rw [bl_eq h1 h2, insAt_app]
theorem insLayR_app {A B : List Lay} {x : Lay} (h1 : ∀ a ∈ A, lexLt x.place a.place = false) (h2 : ∀ b ∈ B, lexLt x.place b.place = true) : insLayR (A ++ B) x = A ++ x :: B := by
  unfold insLayR places
  rw [List.map_append, br_eq (A := A.map (·.place)) (fun a ha => by obtain ⟨l, hl, e⟩ := List.mem_map.mp ha; rw [← e]; exact h1 l hl) (fun a ha => by obtain ⟨l, hl, e⟩ := List.mem_map.mp ha; rw [← e]; exact h2 l hl), List.length_map, insAt_app]
theorem insLayL_app {A B : List Lay} {x : Lay} (h1 : ∀ a ∈ A, lexLt a.place x.place = true) (h2 : ∀ b ∈ B, lexLt b.place x.place = false) : insLayL (A ++ B) x = A ++ x :: B := by
  unfold insLayL places
  rw [List.map_append, bl_eq (A := A.map (·.place)) (fun a ha => by obtain ⟨l, hl, e⟩ := List.mem_map.mp ha; rw [← e]; exact h1 l hl) (fun a ha => by obtain ⟨l, hl, e⟩ := List.mem_map.mp ha; rw [← e]; exact h2 l hl), List.length_map, insAt_app]
theorem asksOf_one {rd : Cl → Bool} {c : Cl} : asksOf rd [c] = if rd c = true then [plc c 0] else [] := by
  unfold asksOf
  rw [List.filter_cons]
  by_cases h : rd c = true
  · rw [if_pos h, if_pos h]; rfl
  · rw [if_neg h, if_neg h]; rfl
theorem layT_len {T : Ts} {c : Cl} : (layT T c).length ≤ 1 := by
  unfold layT
  split
  · simp
  · split
    · split <;> simp
    · split
      · rw [List.length_take]; omega
      · simp
theorem put_rows {P S : List Cl} {c : Cl} (ho : InOrd (P ++ c :: S)) (h4 : c.name < 4) (o4 : c.other < 4)
    (hl : laysA (stepL (runL [] P) c) S = laysA (runL [] P) S) :
    putP (rowsOf (P ++ S)) c (tg (runL [] P) (grp c.name)) (stepT (tg (runL [] P)) c (grp c.name)) = rowsOf (P ++ c :: S) := by
  obtain ⟨_, o2, o3⟩ := ord_app ho
  have bP : ∀ p ∈ P, Before p c := fun p hp => o3 p hp c (.head _)
  have bS : ∀ s ∈ S, Before c s := (List.pairwise_cons.mp o2).1
  refine rows_ext fun g hg => ?_
  have es : P ++ c :: S = P ++ ([c] ++ S) := rfl
  unfold putP
  rw [putLay_get (grp_two h4) hg, putCut_get (grp_two h4) hg, putAsk_get (grp_two h4) (grp_two o4) hg, rowsOf_get hg, rowsOf_get hg]
  unfold keptOf
  dsimp only
  congr 1
  · rw [es, cutsOf_app, cutsOf_app, cutsOf_app, cutsOf_one]
    by_cases q : isCut c = true ∧ grp c.name = g
    · rw [if_pos q, if_pos q]
      exact insR_app (fun a ha => by obtain ⟨d, hd, e, _⟩ := cutsOf_mem ha; rw [e]; exact before_ge (bP d hd)) (fun a ha => by obtain ⟨d, hd, e, _⟩ := cutsOf_mem ha; rw [e]; exact before_lt (bS d hd))
    · rw [if_neg q, if_neg q]; rfl
  · rw [es, laysOf_app, laysOf_app, laysOf_app]
    have e1 : laysOf g (runL (runL [] P) [c]) S = laysOf g (runL [] P) S := by
      show (laysA (stepL (runL [] P) c) S).filter _ = _
      rw [hl]; rfl
    have e2 : laysOf g (runL [] P) [c] = if grp c.name = g then layOf (tg (runL [] P)) c else [] := by
      unfold laysOf
      rw [laysA, laysA, List.append_nil]
      by_cases q : grp c.name = g
      · rw [if_pos q, List.filter_eq_self.mpr fun a ha => by rw [(layOf_mem ha).2]; simp [q]]
      · rw [if_neg q, List.filter_eq_nil_iff.mpr fun a ha => by rw [(layOf_mem ha).2]; simp [q]]
    rw [e1, e2]
    by_cases q : grp c.name = g
    · rw [if_pos q, if_pos q]
      have hlen := layT_len (T := tg (runL [] P)) (c := c)
      unfold layOf
      cases hx : layT (tg (runL [] P)) c with
      | nil => rfl
      | cons x r =>
        rw [hx] at hlen
        have : r = [] := List.length_eq_zero_iff.mp (by rw [List.length_cons] at hlen; omega)
        subst this
        have hin : ∀ {hs : List Lay} {U : List Cl} {l : Lay}, l ∈ laysOf g hs U → ∃ d ∈ U, l.place = plc d 1 := fun h => by
          obtain ⟨d, hd, e, _⟩ := laysA_mem (List.mem_filter.mp h).1
          exact ⟨d, hd, e⟩
        exact insLayR_app (fun a ha => by obtain ⟨d, hd, e⟩ := hin ha; rw [e]; exact before_ge (bP d hd)) (fun a ha => by obtain ⟨d, hd, e⟩ := hin ha; rw [e]; exact before_lt (bS d hd))
    · rw [if_neg q, if_neg q]; rfl
  · rw [es, asksOf_app, asksOf_app, asksOf_app, asksOf_one]
    by_cases q : rdF g c = true
    · rw [if_pos q, if_pos q]
      exact insL_app (fun a ha => by obtain ⟨d, hd, e, _⟩ := asksOf_mem ha; rw [e]; exact before_lt (bP d hd)) (fun a ha => by obtain ⟨d, hd, e, _⟩ := asksOf_mem ha; rw [e]; exact before_ge (bS d hd))
    · rw [if_neg q, if_neg q]; rfl
  · rw [es, asksOf_app, asksOf_app, asksOf_app, asksOf_one]
    by_cases q : rdA g c = true
    · rw [if_pos q, if_pos q]
      exact insL_app (fun a ha => by obtain ⟨d, hd, e, _⟩ := asksOf_mem ha; rw [e]; exact before_lt (bP d hd)) (fun a ha => by obtain ⟨d, hd, e, _⟩ := asksOf_mem ha; rw [e]; exact before_ge (bS d hd))
    · rw [if_neg q, if_neg q]; rfl
theorem erase_app {α : Type} {A B : List α} {x : α} : (A ++ x :: B).eraseIdx A.length = A ++ B := by
  rw [List.eraseIdx_append_of_length_le (Nat.le_refl _), Nat.sub_self]; rfl
theorem taken_rows {P S : List Cl} {c : Cl} (ho : InOrd (P ++ c :: S)) (h4 : c.name < 4) (hd : c.deed ≤ 2)
    (hl : laysA (stepL (runL [] P) c) S = laysA (runL [] P) S) : takenP (rowsOf (P ++ c :: S)) c = some (rowsOf (P ++ S)) := by
  obtain ⟨_, o2, o3⟩ := ord_app ho
  have bP : ∀ p ∈ P, Before p c := fun p hp => o3 p hp c (.head _)
  have bS : ∀ s ∈ S, Before c s := (List.pairwise_cons.mp o2).1
  have es : P ++ c :: S = P ++ ([c] ++ S) := rfl
  have hcuts : ∀ g, cutsOf g (P ++ c :: S) = cutsOf g P ++ ((if isCut c = true ∧ grp c.name = g then [plc c 1] else []) ++ cutsOf g S) := fun g => by rw [es, cutsOf_app, cutsOf_app, cutsOf_one]
  have hlays : ∀ g, laysOf g [] (P ++ c :: S) = laysOf g [] P ++ ((if grp c.name = g then layOf (tg (runL [] P)) c else []) ++ laysOf g (runL [] P) S) := fun g => by
    have e1 : laysOf g (runL (runL [] P) [c]) S = laysOf g (runL [] P) S := by
      show (laysA (stepL (runL [] P) c) S).filter _ = _
      rw [hl]; rfl
    have e2 : laysOf g (runL [] P) [c] = if grp c.name = g then layOf (tg (runL [] P)) c else [] := by
      unfold laysOf
      rw [laysA, laysA, List.append_nil]
      by_cases q : grp c.name = g
      · rw [if_pos q, List.filter_eq_self.mpr fun a ha => by rw [(layOf_mem ha).2]; simp [q]]
      · rw [if_neg q, List.filter_eq_nil_iff.mpr fun a ha => by rw [(layOf_mem ha).2]; simp [q]]
    rw [es, laysOf_app, laysOf_app, e1, e2]
  have hF : ∀ g, rdF g c = false := fun g => by
    unfold rdF
    have a : (c.deed == 3) = false := by simp; omega
    have b : (c.deed == 5) = false := by simp; omega
    rw [a, b]; rfl
  have hA : ∀ g, rdA g c = false := fun g => by
    unfold rdA
    have a : (c.deed == 4) = false := by simp; omega
    rw [a]; rfl
  have hask : ∀ rd : Cl → Bool, rd c = false → asksOf rd (P ++ c :: S) = asksOf rd (P ++ S) := fun rd h => by
    rw [es, asksOf_app, asksOf_app, asksOf_app, asksOf_one, if_neg (by rw [h]; exact Bool.false_ne_true)]; rfl
  unfold takenP
  dsimp only
  rw [rowsOf_get (grp_two h4)]
  have ek : keptOf (grp c.name) (P ++ c :: S) = ⟨cutsOf (grp c.name) P ++ ((if isCut c = true ∧ grp c.name = grp c.name then [plc c 1] else []) ++ cutsOf (grp c.name) S), laysOf (grp c.name) [] P ++ (layOf (tg (runL [] P)) c ++ laysOf (grp c.name) (runL [] P) S), asksOf (rdF (grp c.name)) (P ++ S), asksOf (rdA (grp c.name)) (P ++ S)⟩ := by
    unfold keptOf
    rw [hcuts, hlays, if_pos rfl, hask _ (hF _), hask _ (hA _)]
  rw [ek]
  dsimp only
  have hi : bl (cutsOf (grp c.name) P ++ ((if isCut c = true ∧ grp c.name = grp c.name then [plc c 1] else []) ++ cutsOf (grp c.name) S)) (plc c 1) = (cutsOf (grp c.name) P).length :=
    bl_eq (fun a ha => by obtain ⟨d, hd, e, _⟩ := cutsOf_mem ha; rw [e]; exact before_lt (bP d hd)) (fun a ha => by
      rcases List.mem_append.mp ha with ha | ha
      · split at ha
        · rw [List.mem_singleton.mp ha]; exact plc_irr
        · cases ha
      · obtain ⟨d, hd, e, _⟩ := cutsOf_mem ha; rw [e]; exact before_ge (bS d hd))
  have hin : ∀ {g : Nat} {hs : List Lay} {U : List Cl} {l : Lay}, l ∈ laysOf g hs U → ∃ d ∈ U, l.place = plc d 1 := fun h => by
    obtain ⟨d, hd, e, _⟩ := laysA_mem (List.mem_filter.mp h).1
    exact ⟨d, hd, e⟩
  have hj : bl (places (laysOf (grp c.name) [] P ++ (layOf (tg (runL [] P)) c ++ laysOf (grp c.name) (runL [] P) S))) (plc c 1) = (laysOf (grp c.name) [] P).length := by
    unfold places
    rw [List.map_append, ← List.length_map (f := Lay.place) (as := laysOf (grp c.name) [] P)]
    refine bl_eq (fun a ha => ?_) (fun a ha => ?_)
    · obtain ⟨l, hl, e⟩ := List.mem_map.mp ha
      obtain ⟨d, hd, e'⟩ := hin hl
      rw [← e, e']; exact before_lt (bP d hd)
    · obtain ⟨l, hl, e⟩ := List.mem_map.mp ha
      rcases List.mem_append.mp hl with hl | hl
      · rw [← e, (layOf_mem hl).1]; exact plc_irr
      · obtain ⟨d, hd, e'⟩ := hin hl
        rw [← e, e']; exact before_ge (bS d hd)
  rw [hi, hj]
  have dd : c.deed = 0 ∨ c.deed = 1 ∨ c.deed = 2 := by omega
  have hcut : c.deed ≠ 1 → (if isCut c = true ∧ grp c.name = grp c.name then [plc c 1] else []) = [plc c 1] := fun h => if_pos ⟨isCut_iff.mpr (by omega), rfl⟩
  have hnc : c.deed = 1 → (if isCut c = true ∧ grp c.name = grp c.name then [plc c 1] else []) = [] := fun h => if_neg (fun z => by have := isCut_iff.mp z.1; omega)
  have hlay : c.deed ≠ 2 → layOf (tg (runL [] P)) c = [⟨plc c 1, c.name, c.turn⟩] := fun h => by
    unfold layOf layT
    rw [if_pos (by omega)]; rfl
  have hnl : c.deed = 2 → layOf (tg (runL [] P)) c = [] := fun h => by
    unfold layOf layT
    rw [if_neg (by omega), if_neg (by omega), if_neg (by omega)]; rfl
  rw [if_neg (by
    rintro (⟨a, b⟩ | ⟨a, b⟩)
    · rw [hcut a] at b; simp at b
    · rw [hlay a] at b; simp at b)]
  congr 1
  refine rows_ext fun g hg => ?_
  rw [get_set' (grp_two h4) hg]
  by_cases e : g = grp c.name
  · rw [if_pos e, rowsOf_get hg, e]
    unfold keptOf
    congr 1
    · rw [cutsOf_app]
      by_cases q : c.deed = 1
      · rw [if_pos q, hnc q]; rfl
      · rw [if_neg q, hcut q]; exact erase_app
    · rw [laysOf_app]
      by_cases q : c.deed = 2
      · rw [if_pos q, hnl q]; rfl
      · rw [if_neg q, hlay q]; exact erase_app
  · rw [if_neg e, rowsOf_get hg, rowsOf_get hg]
    unfold keptOf
    rw [hcuts, hlays, if_neg (fun z => e z.2.symm), if_neg (fun z => e z.symm), hask _ (hF _), hask _ (hA _), List.nil_append, List.nil_append, ← cutsOf_app, ← laysOf_app]
end Mine
end
section
set_option Elab.async false
namespace Mine
noncomputable def Sorted (hs : List Lay) : Prop := hs.Pairwise fun a b => lexLt a.place b.place = true ∧ lexLt b.place a.place = false
theorem run_sorted : ∀ (n : Nat) (P : List Cl), P.length = n → InOrd P → Sorted (runL [] P)
  | 0, P, hn, _ => by rw [List.length_eq_zero_iff.mp hn]; exact .nil
  | n + 1, P, hn, ho => by
    rcases snoc_cases P with rfl | ⟨P', c, rfl⟩
    · cases hn
    have hn' : P'.length = n := by rw [List.length_append] at hn; exact Nat.succ.inj hn
    obtain ⟨o1, _, o2⟩ := ord_app ho
    rw [runL_app]
    have ih := run_sorted n P' hn' o1
    show Sorted (stepL (runL [] P') c)
    unfold stepL
    refine List.pairwise_append.mpr ⟨?_, ?_, fun a ha b hb => ?_⟩
    · split
      · exact ih.filter _
      · exact ih
    · have hl := layT_len (T := tg (runL [] P')) (c := c)
      unfold layOf
      cases hx : layT (tg (runL [] P')) c with
      | nil => exact .nil
      | cons x r =>
        rw [hx] at hl
        have : r = [] := List.length_eq_zero_iff.mp (by rw [List.length_cons] at hl; omega)
        subst this
        exact List.pairwise_singleton ..
    · have ha' : a ∈ runL [] P' := by
        split at ha
        · exact (List.mem_filter.mp ha).1
        · exact ha
      rcases runL_mem ha' with h | ⟨d, hd, e, _⟩
      · cases h
      · rw [e, (layOf_mem hb).1]
        have := o2 d hd c (.head _)
        exact ⟨before_lt this, before_ge this⟩
theorem ins_filter {hs : List Lay} (h : Sorted hs) {x : Lay} (hx : x ∈ hs) {p : Lay → Bool} (hp : p x = false) : insLayL (hs.filter p) x = hs.filter fun y => p y || decide (y = x) := by
  obtain ⟨A, B, rfl⟩ := List.append_of_mem hx
  obtain ⟨_, h2, h3⟩ := List.pairwise_append.mp h
  have hA : ∀ a ∈ A, lexLt a.place x.place = true ∧ lexLt x.place a.place = false := fun a ha => h3 a ha x (.head _)
  have hB : ∀ b ∈ B, lexLt x.place b.place = true ∧ lexLt b.place x.place = false := (List.pairwise_cons.mp h2).1
  have nA : ∀ a ∈ A, a ≠ x := fun a ha e => by have := hA a ha; rw [e] at this; rw [this.2] at this; cases this.1
  have nB : ∀ b ∈ B, b ≠ x := fun b hb e => by have := hB b hb; rw [e] at this; rw [this.2] at this; cases this.1
  rw [List.filter_append, List.filter_cons, if_neg (by rw [hp]; exact Bool.false_ne_true), List.filter_append, List.filter_cons, if_pos (by simp)]
  rw [insLayL_app (fun a ha => (hA a (List.mem_filter.mp ha).1).1) (fun b hb => (hB b (List.mem_filter.mp hb).1).2)]
  congr 1
  · exact List.filter_congr fun a ha => by rw [decide_eq_false (nA a ha), Bool.or_false]
  · congr 1
    exact List.filter_congr fun a ha => by rw [decide_eq_false (nB a ha), Bool.or_false]
theorem fold_filter {hs : List Lay} (h : Sorted hs) : ∀ (ys : List Lay) (p : Lay → Bool), (∀ y ∈ ys, y ∈ hs ∧ p y = false) → ys.Nodup → ys.foldl insLayL (hs.filter p) = hs.filter fun y => p y || decide (y ∈ ys)
  | [], p, _, _ => by simp
  | y :: ys, p, hy, hn => by
    obtain ⟨n1, n2⟩ := List.nodup_cons.mp hn
    rw [List.foldl_cons, ins_filter h (hy y (.head _)).1 (hy y (.head _)).2, fold_filter h ys _ (fun z hz => ⟨(hy z (.tail _ hz)).1, by rw [(hy z (.tail _ hz)).2, decide_eq_false (fun e : z = y => n1 (by rw [← e]; exact hz))]; rfl⟩) n2]
    refine List.filter_congr fun z _ => ?_
    by_cases e : z = y <;> by_cases e' : z ∈ ys <;> simp [e, e']
theorem sorted_nodup {hs : List Lay} (h : Sorted hs) : hs.Nodup := h.imp fun {a b} q e => by rw [e] at q; rw [q.2] at q; cases q.1
theorem stood_eq {P S : List Cl} {x : List Int} (ho : InOrd (P ++ S)) (hP : ∀ c ∈ P, lexLt (plc c 1) x = true) (hS : ∀ c ∈ S, lexLt (plc c 1) x = false) (h4 : ∀ c ∈ P, c.name < 4) :
    stoodP (rowsOf (P ++ S)) x = (runL [] P).map prj := by
  have hs := run_sorted _ P rfl (ord_app ho).1
  unfold stoodP stoodRow
  rw [show (rowsOf (P ++ S)).b = keptOf 1 (P ++ S) from rfl, show (rowsOf (P ++ S)).a = keptOf 0 (P ++ S) from rfl, standing_eq ho hP hS, standing_eq ho hP hS]
  generalize hR : runL [] P = R at hs ⊢
  have e0 : ([] : List Lay) = R.filter fun _ => false := (List.filter_eq_nil_iff.mpr fun _ _ => Bool.false_ne_true).symm
  rw [e0, fold_filter hs _ _ (fun y hy => ⟨(List.mem_filter.mp hy).1, rfl⟩) ((sorted_nodup hs).filter _)]
  rw [fold_filter hs _ _ (fun y hy => ⟨(List.mem_filter.mp hy).1, ?_⟩) ((sorted_nodup hs).filter _)]
  · rw [List.filter_eq_self.mpr]
    · rfl
    · intro y hy
      have : grp y.name < 2 := by
        rcases runL_mem (hR ▸ hy) with h | ⟨c, hc, _, e⟩
        · cases h
        · rw [e]; exact grp_two (h4 c hc)
      have : grp y.name = 0 ∨ grp y.name = 1 := by omega
      rcases this with h | h <;> simp [hy, h]
  · have := (List.mem_filter.mp hy).2
    simp at this ⊢
    intro _ h
    omega
theorem split_log (h : Int) : ∀ log : List Cl, InOrd log → ∃ P S, log = P ++ S ∧ (∀ p ∈ P, p.hour < h) ∧ (∀ s ∈ S, h ≤ s.hour)
  | [], _ => ⟨[], [], rfl, fun _ h => (nomatch h), fun _ h => (nomatch h)⟩
  | c :: log, ho => by
    obtain ⟨h1, h2⟩ := List.pairwise_cons.mp ho
    by_cases q : c.hour < h
    · obtain ⟨P, S, e, a, b⟩ := split_log h log h2
      exact ⟨c :: P, S, by rw [e]; rfl, fun p hp => by rcases List.mem_cons.mp hp with rfl | hp; exact q; exact a p hp, b⟩
    · refine ⟨[], c :: log, rfl, fun _ h => (nomatch h), fun s hs => ?_⟩
      rcases List.mem_cons.mp hs with rfl | hs
      · omega
      · have := h1 s hs; unfold Before at this; omega
theorem bl_hours {P S : List Cl} {h : Int} (a : ∀ p ∈ P, p.hour < h) (b : ∀ s ∈ S, h ≤ s.hour) : bl (hours (P ++ S)) [h] = P.length := by
  unfold hours
  rw [List.map_append, bl_eq (A := P.map fun c => [c.hour]) (fun x hx => by obtain ⟨c, hc, e⟩ := List.mem_map.mp hx; rw [← e]; exact lex_hour.mpr (a c hc)) (fun x hx => by obtain ⟨c, hc, e⟩ := List.mem_map.mp hx; rw [← e]; exact lex_f lex_hour (by have := b c hc; omega)), List.length_map]
theorem br_hours {P S : List Cl} {h : Int} (a : ∀ p ∈ P, p.hour < h + 1) (b : ∀ s ∈ S, h + 1 ≤ s.hour) : br (hours (P ++ S)) [h] = P.length := by
  unfold hours
  rw [List.map_append, br_eq (A := P.map fun c => [c.hour]) (fun x hx => by obtain ⟨c, hc, e⟩ := List.mem_map.mp hx; rw [← e]; exact lex_f lex_hour (by have := a c hc; omega)) (fun x hx => by obtain ⟨c, hc, e⟩ := List.mem_map.mp hx; rw [← e]; exact lex_hour.mpr (by have := b c hc; omega)), List.length_map]
/-! answers by their turns -/
theorem lookup_mem {L : List (Nat × Ans)} {k : Nat} {v : Ans} (h : L.lookup k = some v) : (k, v) ∈ L := by
  induction L with
  | nil => cases h
  | cons p L ih =>
    obtain ⟨a, b⟩ := p
    rw [List.lookup_cons] at h
    by_cases e : k = a
    · subst e; simp at h; subst h; exact .head _
    · have : (k == a) = false := by simpa using e
      rw [this] at h
      exact .tail _ (ih h)
theorem lookup_of_mem {L : List (Nat × Ans)} {k : Nat} {v : Ans} (n : (L.map (·.1)).Nodup) (h : (k, v) ∈ L) : L.lookup k = some v := by
  induction L with
  | nil => cases h
  | cons p L ih =>
    obtain ⟨a, b⟩ := p
    obtain ⟨n1, n2⟩ := List.nodup_cons.mp n
    rw [List.lookup_cons]
    rcases List.mem_cons.mp h with h | h
    · cases h; simp
    · have : (k == a) = false := by
        simp only [beq_eq_false_iff_ne]
        exact fun e => n1 (e ▸ List.mem_map.mpr ⟨_, h, rfl⟩)
      rw [this]
      exact ih n2 h
theorem same_keys : ∀ {B B' : List (Nat × Ans)}, B.map (·.1) = B'.map (·.1) → (B.map (·.1)).Nodup → (∀ p ∈ B, p ∈ B') → B = B'
  | [], [], _, _, _ => rfl
  | p :: B, p' :: B', hk, hn, hs => by
    simp only [List.map_cons, List.cons.injEq] at hk
    obtain ⟨n1, n2⟩ := List.nodup_cons.mp hn
    have hp : p = p' := by
      rcases List.mem_cons.mp (hs p (.head _)) with h | h
      · exact h
      · exact absurd (hk.2 ▸ List.mem_map.mpr ⟨p, h, rfl⟩) n1
    subst hp
    rw [same_keys hk.2 n2 fun q hq => ?_]
    rcases List.mem_cons.mp (hs q (.tail _ hq)) with h | h
    · exact absurd (List.mem_map.mpr ⟨q, hq, by rw [h]⟩) n1
    · exact h
theorem agree_iff {A X B B' told : List (Nat × Ans)} (hk : B.map (·.1) = B'.map (·.1)) (nd : ((A ++ (X ++ B')).map (·.1)).Nodup) (t1 : ∀ q ∈ told, q ∈ A ++ B) (t2 : ∀ p ∈ A ++ B, p ∈ told) :
    (∀ q ∈ told, ((A ++ (X ++ B')).lookup q.1).isSome = true) ∧ ((∀ q ∈ told, (A ++ (X ++ B')).lookup q.1 = some q.2) ↔ B = B') := by
  have nd0 := nd
  rw [List.map_append, List.map_append] at nd
  obtain ⟨na, nxb, nab⟩ := List.nodup_append.mp nd
  obtain ⟨nx, nb, nxb'⟩ := List.nodup_append.mp nxb
  refine ⟨fun q hq => ?_, fun h => ?_, fun h q hq => ?_⟩
  · have hkey : q.1 ∈ (A ++ (X ++ B')).map (·.1) := by
      rw [List.map_append, List.map_append]
      rcases List.mem_append.mp (t1 q hq) with h | h
      · exact List.mem_append_left _ (List.mem_map.mpr ⟨q, h, rfl⟩)
      · exact List.mem_append_right _ (List.mem_append_right _ (hk ▸ List.mem_map.mpr ⟨q, h, rfl⟩))
    obtain ⟨⟨k, v⟩, hp, e⟩ := List.mem_map.mp hkey
    rw [← e, lookup_of_mem nd0 hp]; rfl
  · refine same_keys hk (hk ▸ nb) fun p hp => ?_
    have hm := lookup_mem (h p (t2 p (List.mem_append_right _ hp)))
    have hkey : p.1 ∈ B'.map (·.1) := hk ▸ List.mem_map.mpr ⟨p, hp, rfl⟩
    rcases List.mem_append.mp hm with hm | hm
    · exact absurd rfl (nab _ (List.mem_map.mpr ⟨_, hm, rfl⟩) _ (List.mem_append_right _ hkey))
    · rcases List.mem_append.mp hm with hm | hm
      · exact absurd rfl (nxb' _ (List.mem_map.mpr ⟨_, hm, rfl⟩) _ hkey)
      · exact hm
  · subst h
    refine lookup_of_mem nd0 ?_
    rcases List.mem_append.mp (t1 q hq) with h | h
    · exact List.mem_append_left _ h
    · exact List.mem_append_right _ (List.mem_append_right _ h)
theorem ans_keys : ∀ (S : List Cl) (T : Ts), (∀ c ∈ S, c.deed < 6) → (ansS T S).map (·.1) = (S.filter fun c => decide (2 < c.deed)).map (·.turn)
  | [], _, _ => rfl
  | c :: S, T, h => by
    rw [ansS, List.map_append, ans_keys S _ fun d hd => h d (.tail _ hd), List.filter_cons]
    have hd := h c (.head _)
    by_cases q : 2 < c.deed
    · rw [if_pos (by simpa using q), List.map_cons]
      have dd : c.deed = 3 ∨ c.deed = 4 ∨ c.deed = 5 := by omega
      rcases dd with d | d | d <;> simp [ansT, d]
    · rw [if_neg (by simpa using q), ansT_none (by omega)]; rfl
end Mine
end
section
set_option Elab.async false
namespace Mine
structure CallOk (n : Nat) (c : Cl) : Prop where
  turn : c.turn = n
  mark : c.mark = (n : Int) ∨ c.mark = -(n : Int)
  name : c.name < 4
  other : c.other < 4
  deed : c.deed < 7
structure Inv (n : Nat) (st : St) : Prop where
  ord : InOrd st.log
  bnd : ∀ c ∈ st.log, c.turn < n ∧ (c.mark = (c.turn : Int) ∨ c.mark = -(c.turn : Int)) ∧ c.deed < 6 ∧ c.name < 4 ∧ c.other < 4
  nd : (st.log.map (·.turn)).Nodup
  rows : st.rows = rowsOf st.log
  told1 : ∀ q ∈ st.told, q ∈ ansS (tg []) st.log
  told2 : ∀ p ∈ ansS (tg []) st.log, p ∈ st.told
  items : st.items = (runL [] st.log).map prj
  len : st.log.length ≤ n
  tlen : st.told.length ≤ n
theorem Inv.more {n : Nat} {st : St} (h : Inv n st) : Inv (n + 1) st :=
  ⟨h.ord, fun c hc => ⟨Nat.lt_succ_of_lt (h.bnd c hc).1, (h.bnd c hc).2⟩, h.nd, h.rows, h.told1, h.told2, h.items, Nat.le_succ_of_le h.len, Nat.le_succ_of_le h.tlen⟩
theorem told_eq {told : List (Nat × Ans)} {L : List (Nat × Ans)} : (told.map fun q => L.lookup q.1) = (told.map fun q => some q.2) ↔ ∀ q ∈ told, L.lookup q.1 = some q.2 := List.map_inj_left
theorem all_some {told : List (Nat × Ans)} {L : List (Nat × Ans)} (h : ∀ q ∈ told, (L.lookup q.1).isSome = true) : (told.all fun q => (L.lookup q.1).isSome) = true := List.all_eq_true.mpr h
theorem bool_iff {a b : Bool} {p : Prop} (h1 : a = true ↔ p) (h2 : b = true ↔ p) : a = b := by
  cases a <;> cases b <;> simp_all
theorem keys_nodup {S : List Cl} {T : Ts} (hd : ∀ c ∈ S, c.deed < 6) (hn : (S.map (·.turn)).Nodup) : ((ansS T S).map (·.1)).Nodup := by
  rw [ans_keys S T hd]
  exact List.Nodup.sublist (List.Sublist.map _ List.filter_sublist) hn
theorem ans_split {P S : List Cl} {c : Cl} : ansS (tg []) (P ++ c :: S) = ansS (tg []) P ++ (ansT (tg (runL [] P)) c ++ ansS (tg (stepL (runL [] P) c)) S) := by
  rw [ansS_app, ansS, tg_step]
theorem ans_split' {P S : List Cl} : ansS (tg []) (P ++ S) = ansS (tg []) P ++ ansS (tg (runL [] P)) S := ansS_app ..
theorem put_ok {n : Nat} {st : St} {c : Cl} {P S : List Cl} (hI : Inv n st) (hc : CallOk n c) (h6 : c.deed ≠ 6) (hlog : st.log = P ++ S) (hP : ∀ p ∈ P, Before p c) (hS : ∀ s ∈ S, Before c s) :
    ∃ st', rest st c c (P ++ c :: S) = some st' ∧ Inv (n + 1) st' ∧ (st.told ≠ [] → st'.told ≠ []) := by
  have hd : c.deed < 6 := by have := hc.deed; omega
  have hb := hI.bnd
  have hord := hI.ord
  have hnd := hI.nd
  have t1 := hI.told1
  have t2 := hI.told2
  rw [hlog] at hb hord hnd t1 t2
  have hlen := hI.len
  rw [hlog] at hlen
  have hlenT : (P ++ c :: S).length ≤ n + 1 := by rw [List.length_append] at hlen ⊢; rw [List.length_cons]; omega
  obtain ⟨oP, oS, oPS⟩ := ord_app hord
  have ho : InOrd (P ++ c :: S) := List.pairwise_append.mpr ⟨oP, List.pairwise_cons.mpr ⟨hS, oS⟩, fun a ha b hb' => by
    rcases List.mem_cons.mp hb' with rfl | hb'
    · exact hP a ha
    · exact oPS a ha b hb'⟩
  have hbT : ∀ d ∈ P ++ c :: S, d.turn < n + 1 ∧ (d.mark = (d.turn : Int) ∨ d.mark = -(d.turn : Int)) ∧ d.deed < 6 ∧ d.name < 4 ∧ d.other < 4 := fun d hd' => by
    rcases List.mem_append.mp hd' with h | h
    · have := hb d (List.mem_append_left _ h); exact ⟨Nat.lt_succ_of_lt this.1, this.2⟩
    · rcases List.mem_cons.mp h with rfl | h
      · exact ⟨by rw [hc.turn]; omega, by rw [hc.turn]; exact hc.mark, hd, hc.name, hc.other⟩
      · have := hb d (List.mem_append_right _ h); exact ⟨Nat.lt_succ_of_lt this.1, this.2⟩
  have hdT : ∀ d ∈ P ++ c :: S, d.deed < 6 := fun d h => (hbT d h).2.2.1
  have hnT : ((P ++ c :: S).map (·.turn)).Nodup := by
    rw [List.map_append] at hnd ⊢
    rw [List.map_cons]
    obtain ⟨n1, n2, n3⟩ := List.nodup_append.mp hnd
    have hne : ∀ d ∈ P ++ S, d.turn ≠ c.turn := fun d h e => by have := (hb d h).1; rw [e, hc.turn] at this; omega
    refine List.nodup_append.mpr ⟨n1, List.nodup_cons.mpr ⟨fun h => ?_, n2⟩, fun a ha b hb' => ?_⟩
    · obtain ⟨d, h, e⟩ := List.mem_map.mp h
      exact hne d (List.mem_append_right _ h) e
    · rcases List.mem_cons.mp hb' with rfl | hb'
      · obtain ⟨d, h, e⟩ := List.mem_map.mp ha
        exact fun q => hne d (List.mem_append_left _ h) (e.trans q)
      · exact n3 a ha b hb'
  have at_ : At P S c := ⟨hord, hP, fun s hs => .inr (hS s hs)⟩
  have hcS : InOrd (c :: S) := (ord_app ho).2.1
  have hth := at_.then_ hc.name
  have hnw := at_.now_ hc.name hc.other hd
  have hg := grp_two hc.name
  have hz : ∀ rd : Cl → Bool, asked (asksOf rd (P ++ S)) (cutsOf (grp c.name) (P ++ S)) (plc c 1) = zone rd (grp c.name) S := fun rd => by
    rw [asksOf_app, cutsOf_app]
    refine asked_zone hcS (fun a ha => ?_) (fun a ha d hd' => ?_) (fun a ha => ?_)
    · obtain ⟨e, he, r, _⟩ := cutsOf_mem ha; rw [r]; exact before_ge (hP e he)
    · obtain ⟨e, he, r, _⟩ := asksOf_mem ha; rw [r]; exact ⟨before_lt (hP e he), before_lt (oPS e he d hd')⟩
    · obtain ⟨e, he, r, _⟩ := asksOf_mem ha; rw [r]; exact before_lt (hP e he)
  have hfree := free_iff (r := rowsOf (P ++ S)) hc.name hd (fun d h => hdT d (List.mem_append_right _ (.tail _ h))) hnT hth hnw (by rw [rowsOf_get hg]; exact hz _) (by rw [rowsOf_get hg]; exact hz _)
  have hkeys : (ansS (tg (runL [] P)) S).map (·.1) = (ansS (tg (stepL (runL [] P) c)) S).map (·.1) := by
    rw [ans_keys S _ (fun d h => hdT d (List.mem_append_right _ (.tail _ h))), ans_keys S _ (fun d h => hdT d (List.mem_append_right _ (.tail _ h)))]
  have hkn := keys_nodup (T := tg []) hdT hnT
  rw [ans_split] at hkn
  rw [ans_split'] at t1 t2
  obtain ⟨ag1, ag2⟩ := agree_iff (told := st.told) hkeys hkn t1 t2
  have hdone : doneP (P ++ c :: S) = ((runL [] (P ++ c :: S)).map prj, ansS (tg []) P ++ (ansT (tg (runL [] P)) c ++ ansS (tg (stepL (runL [] P) c)) S)) := by
    rw [doneP_eq hdT, ans_split]
  have hsame : freeP (rowsOf (P ++ S)) c = decide ((st.told.map fun q => (ansS (tg []) P ++ (ansT (tg (runL [] P)) c ++ ansS (tg (stepL (runL [] P) c)) S)).lookup q.1) = st.told.map fun q => some q.2) :=
    bool_iff hfree (by rw [decide_eq_true_iff, told_eq]; exact ag2)
  unfold rest
  dsimp only
  rw [hI.rows, hlog, hdone]
  dsimp only
  rw [if_neg (by rw [all_some ag1]; simp), if_neg (by rw [hsame]; simp)]
  by_cases hf : freeP (rowsOf (P ++ S)) c = false
  · rw [if_pos hf]
    exact ⟨st, rfl, hI.more, id⟩
  · rw [if_neg hf, if_neg h6]
    have hB := hfree.mp (by simpa using hf)
    have hlays : laysA (stepL (runL [] P) c) S = laysA (runL [] P) S := by
      have hn2 := hnT
      rw [List.map_append, List.map_cons] at hn2
      obtain ⟨_, m2, m3⟩ := List.nodup_append.mp hn2
      obtain ⟨m4, m5⟩ := List.nodup_cons.mp m2
      have fr : ∀ d ∈ S, ∀ g, d.turn ∉ tg (runL [] P) g := fun d hdm => tg_fresh P [] d.turn (fun g h => by cases h) (fun q => m3 _ q _ (List.mem_cons_of_mem _ (List.mem_map.mpr ⟨d, hdm, rfl⟩)) rfl)
      exact (lays_same S _ _ hB (fun d hdm g => ⟨fr d hdm g, by rw [tg_step]; exact fresh_step (fr d hdm) (fun q => m4 (q ▸ List.mem_map.mpr ⟨d, hdm, rfl⟩)) g⟩) m5).symm
    have hput : putP (rowsOf (P ++ S)) c (thenP (rowsOf (P ++ S)) c) (nowP (rowsOf (P ++ S)) c) = rowsOf (P ++ c :: S) := by
      rw [hth, hnw]; exact put_rows ho hc.name hc.other hlays
    have hmono : ∀ q ∈ st.told, q ∈ ansS (tg []) (P ++ c :: S) := fun q hq => by
      rw [ans_split, ← hB]
      rcases List.mem_append.mp (t1 q hq) with h | h
      · exact List.mem_append_left _ h
      · exact List.mem_append_right _ (List.mem_append_right _ h)
    have hback : ∀ p ∈ ansS (tg []) (P ++ c :: S), p ∈ st.told ∨ p ∈ ansT (tg (runL [] P)) c := fun p hp => by
      rw [ans_split, ← hB] at hp
      rcases List.mem_append.mp hp with h | h
      · exact .inl (t2 p (List.mem_append_left _ h))
      · rcases List.mem_append.mp h with h | h
        · exact .inr h
        · exact .inl (t2 p (List.mem_append_right _ h))
    by_cases h2 : c.deed > 2
    · rw [if_pos h2]
      have ha := at_.ans_ hc.name hc.other hd h2
      have hm : (c.turn, ansP (rowsOf (P ++ S)) c) ∈ ansS (tg []) P ++ (ansT (tg (runL [] P)) c ++ ansS (tg (stepL (runL [] P) c)) S) := by
        rw [ha]; simp
      rw [if_pos (lookup_of_mem hkn hm), hput]
      refine ⟨_, rfl, ⟨ho, hbT, hnT, rfl, fun q hq => ?_, fun p hp => ?_, rfl, hlenT, by have := hI.tlen; rw [List.length_append, List.length_singleton]; omega⟩, fun _ => by simp⟩
      · rcases List.mem_append.mp hq with h | h
        · exact hmono q h
        · rw [List.mem_singleton.mp h]
          show _ ∈ ansS (tg []) (P ++ c :: S)
          rw [ans_split]; exact hm
      · rcases hback p hp with h | h
        · exact List.mem_append_left _ h
        · rw [ha] at h; exact List.mem_append_right _ h
    · rw [if_neg h2, hput]
      refine ⟨_, rfl, ⟨ho, hbT, hnT, rfl, hmono, fun p hp => ?_, rfl, hlenT, Nat.le_succ_of_le hI.tlen⟩, id⟩
      rcases hback p hp with h | h
      · exact h
      · rw [ansT_none (by omega)] at h; cases h
theorem take_ok {n : Nat} {st : St} {c a : Cl} {P S : List Cl} (hI : Inv n st) (h6 : c.deed = 6) (h2 : a.deed ≤ 2) (hlog : st.log = P ++ a :: S) :
    ∃ st', rest st c a (P ++ S) = some st' ∧ Inv (n + 1) st' ∧ (st.told ≠ [] → st'.told ≠ []) := by
  have hb := hI.bnd
  have ho := hI.ord
  have hnT := hI.nd
  have t1 := hI.told1
  have t2 := hI.told2
  rw [hlog] at hb ho hnT t1 t2
  obtain ⟨oP, ocS, oPS⟩ := ord_app ho
  obtain ⟨hS, oS⟩ := List.pairwise_cons.mp ocS
  have hP : ∀ p ∈ P, Before p a := fun p hp => oPS p hp a (.head _)
  have ba := hb a (by simp)
  have ho' : InOrd (P ++ S) := List.pairwise_append.mpr ⟨oP, oS, fun x hx y hy => oPS x hx y (.tail _ hy)⟩
  have hdT : ∀ d ∈ P ++ a :: S, d.deed < 6 := fun d h => (hb d h).2.2.1
  have sub : ∀ d ∈ P ++ S, d ∈ P ++ a :: S := fun d h => by
    rcases List.mem_append.mp h with h | h
    · exact List.mem_append_left _ h
    · exact List.mem_append_right _ (.tail _ h)
  have hdS : ∀ d ∈ S, d.deed < 6 := fun d h => hdT d (List.mem_append_right _ (.tail _ h))
  have hnS : ((P ++ S).map (·.turn)).Nodup := List.Nodup.sublist (List.Sublist.map _ (List.Sublist.append_left (List.sublist_cons_self _ _) _)) hnT
  have at_ : At P (a :: S) a := ⟨ho, hP, fun s hs => by
    rcases List.mem_cons.mp hs with h | h
    · exact .inl h
    · exact .inr (hS s h)⟩
  have hth := at_.then_ ba.2.2.2.1
  have hnw := at_.now_ ba.2.2.2.1 ba.2.2.2.2 ba.2.2.1
  have hg := grp_two ba.2.2.2.1
  have hF : ∀ g, rdF g a = false := fun g => by
    unfold rdF
    have x : (a.deed == 3) = false := by simp; omega
    have y : (a.deed == 5) = false := by simp; omega
    rw [x, y]; rfl
  have hA : ∀ g, rdA g a = false := fun g => by
    unfold rdA
    have x : (a.deed == 4) = false := by simp; omega
    rw [x]; rfl
  have es : P ++ a :: S = P ++ ([a] ++ S) := rfl
  have hz : ∀ rd : Cl → Bool, rd a = false → asked (asksOf rd (P ++ a :: S)) (cutsOf (grp a.name) (P ++ a :: S)) (plc a 1) = zone rd (grp a.name) S := fun rd hrd => by
    rw [es, asksOf_app, asksOf_app, asksOf_one, if_neg (by rw [hrd]; exact Bool.false_ne_true), List.nil_append, cutsOf_app, cutsOf_app, ← List.append_assoc]
    refine asked_zone ocS (fun x hx => ?_) (fun x hx d hd' => ?_) (fun x hx => ?_)
    · rcases List.mem_append.mp hx with hx | hx
      · obtain ⟨e, he, r, _⟩ := cutsOf_mem hx; rw [r]; exact before_ge (hP e he)
      · obtain ⟨e, he, r, _⟩ := cutsOf_mem hx; rw [r, List.mem_singleton.mp he]; exact plc_irr
    · obtain ⟨e, he, r, _⟩ := asksOf_mem hx; rw [r]; exact ⟨before_lt (hP e he), before_lt (oPS e he d (.tail _ hd'))⟩
    · obtain ⟨e, he, r, _⟩ := asksOf_mem hx; rw [r]; exact before_lt (hP e he)
  have hfree := free_iff (r := rowsOf (P ++ a :: S)) ba.2.2.2.1 ba.2.2.1 hdS hnT hth hnw (by rw [rowsOf_get hg]; exact hz _ (hA _)) (by rw [rowsOf_get hg]; exact hz _ (hF _))
  have hkeys : (ansS (tg (stepL (runL [] P) a)) S).map (·.1) = (ansS (tg (runL [] P)) S).map (·.1) := by
    rw [ans_keys S _ hdS, ans_keys S _ hdS]
  have hkn := keys_nodup (T := tg []) (fun d h => hdT d (sub d h)) hnS
  rw [ans_split'] at hkn
  rw [ans_split, ansT_none h2, List.nil_append] at t1 t2
  obtain ⟨ag1, ag2⟩ := agree_iff (X := []) (told := st.told) hkeys hkn t1 t2
  rw [List.nil_append] at ag1 ag2
  have hdone : doneP (P ++ S) = ((runL [] (P ++ S)).map prj, ansS (tg []) P ++ ansS (tg (runL [] P)) S) := by
    rw [doneP_eq (fun d h => hdT d (sub d h)), ans_split']
  have hsame : freeP (rowsOf (P ++ a :: S)) a = decide ((st.told.map fun q => (ansS (tg []) P ++ ansS (tg (runL [] P)) S).lookup q.1) = st.told.map fun q => some q.2) :=
    bool_iff hfree (by rw [decide_eq_true_iff, told_eq]; exact ag2.trans eq_comm)
  unfold rest
  dsimp only
  rw [hI.rows, hlog, hdone]
  dsimp only
  rw [if_neg (by rw [all_some ag1]; simp), if_neg (by rw [hsame]; simp)]
  by_cases hf : freeP (rowsOf (P ++ a :: S)) a = false
  · rw [if_pos hf]
    exact ⟨st, rfl, hI.more, id⟩
  · rw [if_neg hf, if_pos h6]
    have hB := hfree.mp (by simpa using hf)
    have hlays : laysA (stepL (runL [] P) a) S = laysA (runL [] P) S := by
      have hn2 := hnT
      rw [List.map_append, List.map_cons] at hn2
      obtain ⟨_, m2, m3⟩ := List.nodup_append.mp hn2
      obtain ⟨m4, m5⟩ := List.nodup_cons.mp m2
      have fr : ∀ d ∈ S, ∀ g, d.turn ∉ tg (runL [] P) g := fun d hdm => tg_fresh P [] d.turn (fun g h => by cases h) (fun q => m3 _ q _ (List.mem_cons_of_mem _ (List.mem_map.mpr ⟨d, hdm, rfl⟩)) rfl)
      exact (lays_same S _ _ hB (fun d hdm g => ⟨fr d hdm g, by rw [tg_step]; exact fresh_step (fr d hdm) (fun q => m4 (q ▸ List.mem_map.mpr ⟨d, hdm, rfl⟩)) g⟩) m5).symm
    rw [taken_rows ho ba.2.2.2.1 h2 hlays]
    refine ⟨_, rfl, ⟨ho', fun d h => ⟨Nat.lt_succ_of_lt (hb d (sub d h)).1, (hb d (sub d h)).2⟩, hnS, rfl, fun q hq => ?_, fun p hp => ?_, rfl, by have := hI.len; rw [hlog, List.length_append, List.length_cons] at this; show (P ++ S).length ≤ n + 1; rw [List.length_append]; omega, Nat.le_succ_of_le hI.tlen⟩, id⟩
    · show q ∈ ansS (tg []) (P ++ S)
      rw [ans_split', hB]; exact t1 q hq
    · refine t2 p ?_
      have : p ∈ ansS (tg []) (P ++ S) := hp
      rw [ans_split', hB] at this; exact this
theorem turn_ok {n : Nat} {st : St} {c : Cl} (hI : Inv n st) (hc : CallOk n c) : ∃ st', turnP st c = some st' ∧ Inv (n + 1) st' ∧ (st.told ≠ [] → st'.told ≠ []) := by
  unfold turnP
  have hm : ∀ d ∈ st.log, d.mark < (n : Int) ∧ -(n : Int) < d.mark := fun d hd => by
    have := hI.bnd d hd
    omega
  by_cases h6 : c.deed = 6
  · rw [if_pos h6]
    obtain ⟨P, S, hlog, a, b⟩ := split_log (c.hour + 1) st.log hI.ord
    have hk : br (hours st.log) [c.hour] = P.length := by rw [hlog]; exact br_hours a b
    dsimp only
    rw [hk]
    rcases snoc_cases P with rfl | ⟨P', x, rfl⟩
    · exact ⟨st, rfl, hI.more, id⟩
    · have hl : (P' ++ [x]).length = P'.length + 1 := by simp
      rw [hl, if_neg (by omega), Nat.add_sub_cancel]
      have hlog' : st.log = P' ++ x :: S := by rw [hlog, List.append_assoc]; rfl
      have hget : st.log[P'.length]? = some x := by rw [hlog']; simp
      rw [hget]
      dsimp only
      by_cases h2 : x.deed > 2
      · rw [if_pos h2]
        exact ⟨st, rfl, hI.more, id⟩
      · rw [if_neg h2]
        have he : st.log.eraseIdx P'.length = P' ++ S := by rw [hlog']; exact erase_app
        rw [he]
        exact take_ok hI h6 (by omega) hlog'
  · rw [if_neg h6]
    by_cases hneg : c.mark < 0
    · rw [if_pos hneg]
      obtain ⟨P, S, hlog, a, b⟩ := split_log c.hour st.log hI.ord
      have hk : insAt st.log (bl (hours st.log) [c.hour]) c = P ++ c :: S := by rw [hlog, bl_hours a b, insAt_app]
      rw [hk]
      refine put_ok hI hc h6 hlog (fun p hp => .inl (a p hp)) fun s hs => ?_
      have := hm s (by rw [hlog]; simp [hs])
      have := b s hs
      have := hc.mark
      unfold Before
      omega
    · rw [if_neg hneg]
      obtain ⟨P, S, hlog, a, b⟩ := split_log (c.hour + 1) st.log hI.ord
      have hk : insAt st.log (br (hours st.log) [c.hour]) c = P ++ c :: S := by rw [hlog, br_hours a b, insAt_app]
      rw [hk]
      refine put_ok hI hc h6 hlog (fun p hp => ?_) fun s hs => ?_
      · have := hm p (by rw [hlog]; simp [hp])
        have := a p hp
        have := hc.mark
        unfold Before
        omega
      · have := b s hs
        unfold Before
        omega
theorem end_ok {n : Nat} {st : St} (hI : Inv n st) (hne : st.told ≠ []) : endP st = true := by
  have hlog : st.log ≠ [] := fun e => by
    cases q : st.told with
    | nil => exact hne q
    | cons p r =>
      have := hI.told1 p (by rw [q]; exact .head _)
      rw [e] at this; cases this
  have hd : ∀ c ∈ st.log, c.deed < 6 := fun c hc => (hI.bnd c hc).2.2.1
  have h4 : ∀ c ∈ st.log, c.name < 4 := fun c hc => (hI.bnd c hc).2.2.2.1
  have hord := hI.ord
  obtain ⟨L, l, hL⟩ := (snoc_cases st.log).resolve_left hlog
  have hpos : 0 < st.log.length := List.length_pos_iff.mpr hlog
  have hmid : st.log.length / 2 < st.log.length := by omega
  unfold endP
  rw [List.getElem?_eq_getElem hmid]
  have hlast : st.log.getLast? = some l := by rw [hL]; simp
  rw [hlast]
  dsimp only
  generalize st.log[st.log.length / 2] = m
  rw [hI.rows]
  simp only [Bool.and_eq_true, decide_eq_true_eq]
  refine ⟨⟨?_, ?_⟩, ?_⟩
  · obtain ⟨P, S, e, a, b⟩ := split_log m.hour st.log hord
    rw [e] at hord hd h4 ⊢
    rw [bl_hours a b, List.take_left' rfl, doneP_eq fun c hc => hd c (List.mem_append_left _ hc), stood_eq hord (fun c hc => lex_plc_hour.mpr (a c hc)) (fun c hc => lex_f lex_plc_hour (by have := b c hc; omega)) fun c hc => h4 c (List.mem_append_left _ hc)]
  · obtain ⟨P, S, e, a, b⟩ := split_log (m.hour + 1) st.log hord
    rw [e] at hord hd h4 ⊢
    rw [br_hours a b, List.take_left' rfl, doneP_eq fun c hc => hd c (List.mem_append_left _ hc), stood_eq hord (fun c hc => lex_plc_hour.mpr (a c hc)) (fun c hc => lex_f lex_plc_hour (by have := b c hc; omega)) fun c hc => h4 c (List.mem_append_left _ hc)]
  · rw [hI.items]
    have hle : ∀ c ∈ st.log, c.hour ≤ l.hour := fun c hc => by
      rw [hL] at hc hord
      rcases List.mem_append.mp hc with h | h
      · have := (ord_app hord).2.2 c h l (.head _); unfold Before at this; omega
      · rw [List.mem_singleton.mp h]; exact Int.le_refl _
    have := stood_eq (P := st.log) (S := []) (x := [l.hour + 1]) (by rw [List.append_nil]; exact hord) (fun c hc => lex_plc_hour.mpr (by have := hle c hc; omega)) (fun _ h => (nomatch h)) h4
    rw [List.append_nil] at this
    exact this.symm
end Mine
end
section
set_option Elab.async false
namespace Mine
theorem callOf_ok (x : Int) (n : Nat) : CallOk n (callOf x n) := by
  have f : ∀ (y : Int) (m : Int), 0 < m → 0 ≤ y.fmod m ∧ y.fmod m < m := fun y m h => ⟨Int.fmod_nonneg_of_pos y h, Int.fmod_lt_of_pos y h⟩
  refine ⟨rfl, ?_, ?_, ?_, ?_⟩
  · unfold callOf; dsimp only; split
    · exact .inr rfl
    · exact .inl rfl
  · have := f (x.fdiv 7) 4 (by decide); show ((x.fdiv 7).fmod 4).toNat < 4; omega
  · have := f (x.fdiv 28) 4 (by decide); show ((x.fdiv 28).fmod 4).toNat < 4; omega
  · have := f x 7 (by decide); show (x.fmod 7).toNat < 7; omega
theorem inv0 : Inv 0 st0 := ⟨.nil, fun _ h => (nomatch h), .nil, rfl, fun _ h => (nomatch h), fun _ h => (nomatch h), rfl, Nat.le_refl _, Nat.le_refl _⟩
theorem loop_ok : ∀ (xs : List Int) (n : Nat) (st : St), Inv n st → ∃ st', loopP st (callsFrom n xs) = some st' ∧ Inv (n + xs.length) st' ∧ (st.told ≠ [] → st'.told ≠ [])
  | [], n, st, h => ⟨st, rfl, h, id⟩
  | x :: xs, n, st, h => by
    obtain ⟨s1, e1, h1, t1⟩ := turn_ok h (callOf_ok x n)
    obtain ⟨s2, e2, h2, t2⟩ := loop_ok xs (n + 1) s1 h1
    refine ⟨s2, ?_, by rw [List.length_cons, show n + (xs.length + 1) = n + 1 + xs.length by omega]; exact h2, fun q => t2 (t1 q)⟩
    rw [callsFrom, loopP, e1]
    exact e2
theorem loopP_app : ∀ (a b : List Cl) (st : St), loopP st (a ++ b) = (loopP st a).bind fun s => loopP s b
  | [], b, st => rfl
  | c :: a, b, st => by
    rw [List.cons_append, loopP, loopP]
    cases turnP st c with
    | none => rfl
    | some s => exact loopP_app a b s
theorem own_told : (match loopP st0 (callsFrom 0 own8) with | some s => !s.told.isEmpty | none => false) = true := by decide +kernel
theorem callsFrom_app : ∀ (n : Nat) (a b : List Int), callsFrom n (a ++ b) = callsFrom n a ++ callsFrom (n + a.length) b
  | n, [], b => rfl
  | n, x :: a, b => by
    rw [List.cons_append, callsFrom, callsFrom, callsFrom_app, List.length_cons, List.cons_append, show n + 1 + a.length = n + (a.length + 1) by omega]
/-- every state that the turns reach, and the last one's end -/
theorem all_ok (ys : List Int) : ∃ st, loopP st0 (callsFrom 0 (own8 ++ ys)) = some st ∧ Inv (own8 ++ ys).length st ∧ st.told ≠ [] := by
  obtain ⟨s1, e1, h1, _⟩ := loop_ok own8 0 st0 inv0
  have ht := own_told
  rw [e1] at ht
  have ht : s1.told ≠ [] := fun q => by dsimp only at ht; rw [q] at ht; cases ht
  obtain ⟨s2, e2, h2, t2⟩ := loop_ok ys (0 + own8.length) s1 h1
  refine ⟨s2, ?_, ?_, t2 ht⟩
  · rw [callsFrom_app, loopP_app, e1]; exact e2
  · rw [List.length_append, show own8.length + ys.length = 0 + own8.length + ys.length by omega]; exact h2
theorem law_true (script : List Int) : lawP script = true := by
  obtain ⟨st, e, h, t⟩ := all_ok (script.take 6)
  unfold lawP callsP
  rw [e]
  exact end_ok h t
end Mine
end
section
open PySem PySem.W PyProof.Rows
set_option Elab.async false
set_option maxRecDepth 100000
set_option maxHeartbeats 8000000
namespace Mine
/-- the statements of the text that the proof looks at: all but the four defs of bisect, three tables and one def -/
noncomputable def qview : Program := view PySem.Challenge.pw_pg0283_01 [0, 7, 8, 9, 11, 13, 14, 15, 16, 17, 18, 19, 20, 21, 22]
theorem said_law : OpenLaw.wellSaid PySem.Challenge.rw_pg0283_01 = true := by
  first
  | exact (congrFun PySem.W.Fast.te9446332074065402090 PySem.Challenge.rw_pg0283_01).trans (by kernel_rfl)
  | kernel_rfl
theorem headOf (H : Hook) {d : DefRec} {kwd : List (Str × Expr)}
    (hl : LeftO (OpenLaw.row PySem.Challenge.rw_pg0283_01).prog qview [Str.ofString "insort_right", Str.ofString "bisect_right", Str.ofString "insort_left", Str.ofString "bisect_left", Str.ofString "tspecials", Str.ofString "_name_disallowed_re", Str.ofString "_value_disallowed_re", Str.ofString "_formatparam"]
      (fun s => xlAt qview [] s && recOk (RowW.records (OpenRow.toRowW (OpenLaw.row PySem.Challenge.rw_pg0283_01))) s) (Hook.obs H) (Hook.val H) 3144)
    (e1 : defOf qview (OpenLaw.row PySem.Challenge.rw_pg0283_01).name = some (d, kwd)) (e2 : (OpenLaw.row PySem.Challenge.rw_pg0283_01).prog.theDef (OpenLaw.row PySem.Challenge.rw_pg0283_01).name = some (d.params, d.body, d.scope))
    (e3 : kwWritten? d.params.kwonlyargs d.params.kw_defaults = some kwd) (e5 : (OpenLaw.row PySem.Challenge.rw_pg0283_01).wellSaid = true) (hw : (OpenLaw.row PySem.Challenge.rw_pg0283_01).promised)
    (hc : WalkO qview [Str.ofString "insort_right", Str.ofString "bisect_right", Str.ofString "insort_left", Str.ofString "bisect_left", Str.ofString "tspecials", Str.ofString "_name_disallowed_re", Str.ofString "_value_disallowed_re", Str.ofString "_formatparam"] (XL qview []) (Hook.says H) (OpenRow.toRowW (OpenLaw.row PySem.Challenge.rw_pg0283_01)) d kwd fun f vs => PySem.call f vs) :
    (OpenLaw.row PySem.Challenge.rw_pg0283_01).Holds :=
  PySem.W.holds_open hl (Hook.of H) (Hook.keeps H) (fun s e => xl_of s (Bool.and_eq_true_iff.mp e).1) XL.keeps e1 e2 e3 (fun s e => recFacts_of (Bool.and_eq_true_iff.mp e).2) (by rfl) e5 (by decide +kernel) ⟨rfl, rfl, rfl, rfl, rfl, by decide +kernel⟩ hw hc
section
local macro_rules | `(tactic| o_law) => `(tactic| refine holds_law said_law fun said => ?_)
local macro_rules | `(tactic| o_head $H) => `(tactic| (refine headOf $H ?hl (by rfl) (by rfl) (by rfl) (by assumption) ?hw ?hc; (case hl => intro w; first | (unfold openEnds fencedOpening topFrom; simp only [PySem.W.Fast.te14364793385576792824, PySem.W.Fast.te4187177175401517315, PySem.W.Fast.te5923862056798008813, PySem.W.Fast.te14082659384304107361, PySem.W.Fast.te1435165496053646825, PySem.W.Fast.te14289696077712309145, PySem.W.Fast.te10274390034422433532]; kernel_rfl) | kernel_rfl)))
open_top hd for PySem.Challenge.rw_pg0283_01
end
end Mine
end
section
open PySem PySem.W PyProof.Rows PySem.Calls PySem.Spec
set_option maxRecDepth 100000
set_option maxHeartbeats 8000000
namespace Mine
local macro_rules | `(tactic| walk_at "my For") => `(tactic| (refine wpAny_For ?_ ?hs; (case hs => intro _; first | rfl | with_unfolding_all rfl)))
section
noncomputable abbrev Kf (w : World) : Frag := hd.heap_1 w.params
noncomputable abbrev Lo : List Str := looseW qview
      [Str.ofString "insort_right", Str.ofString "bisect_right", Str.ofString "insort_left", Str.ofString "bisect_left",
        Str.ofString "tspecials", Str.ofString "_name_disallowed_re", Str.ofString "_value_disallowed_re",
        Str.ofString "_formatparam"]
noncomputable abbrev TR (mg mb : Str → Option Value) (h : Heap) : Prop := TopRead qview Lo mg mb h
/-- what the top laid stands -/
structure Gr (w : World) (mg mb : Str → Option Value) (h : Heap) : Prop where
  k : (hd.heap_1 w.params).In h
  t : TR mg mb h
theorem Gr.keeps {w : World} {mg mb : Str → Option Value} {h h' : Heap} (G : Gr w mg mb h) (hk : ∀ b o, h.get? b = some o → h'.get? b = some o) : Gr w mg mb h' :=
  ⟨G.k.keeps hk, G.t.keeps hk⟩
theorem stays_hide {h₀ h : Heap} {W : List Addr} (k : h₀.StaysIn h) (hW : ∀ a ∈ W, h₀.get? a = none) : h₀.StaysIn (hideAll h W) :=
  fun b o e => hideAll_get W (k b o e) fun q => by rw [hW b q] at e; cases e
section
variable {prog : Program} {w : World} {A : Around} {s : Shared} {h₀ : Heap} {R : Result → Shared → Prop} {mg mb : Str → Option Value}
  {name qual : Str} {params : Arguments} {body : List Stmt} {scope : Scope} {dV kV doc pm cdv ct oc : Value} {an od : Option Addr} {osl : Array (Option Value)} {f : Addr} {args : Args} {binds : List (Str × Value)}
/-- a call of a def of the text: the body at a new frame, over the heap without what it may change -/
theorem enter (W : List Addr) (G : Gr w mg mb h₀) (k : h₀.StaysIn s.heap) (hW : ∀ a ∈ W, h₀.get? a = none)
    (ho : (hd.heap_1 w.params).lookup f = some ⟨oc, od, .func (fnOf name qual params body scope dV kV doc pm an cdv ct), osl⟩) (hcd : codeIn (hd.heap_1 w.params) cdv qual = true) (hroom : A.depth < recursionLimit)
    (hbind : BindsTo s (fnOf name qual params body scope dV kV doc pm an cdv ct) args binds) (hloc : ∀ y ∈ binds, scope.names.lookup y.1 = some .local)
    (h : ∀ L h₁, Fr (hideAll s.heap W) L h₁ (fun y => binds.reverse.lookup y) → (hd.heap_1 w.params).In (hideAll s.heap W) → TR mg mb (hideAll s.heap W) → s.heap.StaysIn h₁ → (∀ b o, s.heap.get? b = some o → b < L) →
      wpAny (model prog w) (A.deeper (envOf qual scope L f cdv)) (execs body (envOf qual scope L f cdv))
        (fun fl s' => R (.ok (.ret (match fl with | .ret v => v | _ => .none))) s') (fun _ _ => False) { s with heap := h₁, toks := s.toks + binds.length })
    (hco : scope.isCoroutine = false) (hgen : scope.isGenerator = false) (hk : scope.kind = .function)
    (hcell : ∀ x ∈ scope.names, x.2 ≠ .cell) : codeAny (model prog w) A (.call (.ref f) args) R s := by
  have Gs := G.keeps k
  have Gg := G.keeps (stays_hide k hW)
  refine codeAny_call_def (fd := fnOf name qual params body scope dV kV doc pm an cdv ct) (body := body) (binds := binds) hroom (Gs.k _ _ ho) rfl Gs.t.nolimit (codeRec_of Gs.k hcd) rfl hbind hcell hloc (fun h₁ hns hk₁ => ?_) hco hgen hk
  refine wpAny_mono (h s.heap.objs.size h₁ ⟨hns, fun b o e => hk₁ b o (of_hideAll _ e), Nat.le_of_eq (hideAll_size _ _)⟩ Gg.k Gg.t hk₁ fun b o e => Heap.lt_size e) (fun _ _ x => x) (fun _ _ x => x.elim)
end
end
section
/-- the room that a call of ours wants -/
structure Room (A : Around) (d : Nat) : Prop where
  handled : A.handled = none
  depth : A.depth + d < 900
  units : A.units + 10 * d < 9000
theorem Room.deeper {A : Around} {d : Nat} (r : Room A (d + 1)) (env : Env) : Room (A.deeper env) d :=
  ⟨r.handled, by have := r.depth; rw [depth_deeper]; omega, by have := r.units; rw [units_deeper]; omega⟩
theorem Room.in1 {A : Around} {d : Nat} (r : Room A (d + 1)) : Room A.in1 d :=
  ⟨r.handled, by have := r.depth; rw [depth_in1]; omega, by have := r.units; rw [units_in1]; omega⟩
theorem Room.less {A : Around} {d e : Nat} (r : Room A d) (h : e ≤ d) : Room A e :=
  ⟨r.handled, by have := r.depth; omega, by have := r.units; omega⟩
theorem Room.dl {A : Around} {d : Nat} (r : Room A d) : A.depth < recursionLimit := by have := r.depth; rw [recursionLimit]; omega
theorem Room.ul {A : Around} {d : Nat} (r : Room A d) : A.units < cLine := by have := r.units; rw [cLine_is]; omega
theorem Room.ul64 {A : Around} {d : Nat} (r : Room A d) : A.units + 64 < cLine := by have := r.units; rw [cLine_is]; omega
/-- a key: an int (b = false) or a tuple of ints (b = true) -/
noncomputable def KeyIs (h : Heap) (b : Bool) (v : Value) (k : List Int) : Prop := match b with
  | false => ∃ i t, v = .int i t ∧ k = [i]
  | true => ∃ a vs, v = .ref a ∧ IsTup h a vs.toArray ∧ IntsAre vs k
theorem KeyIs.keeps {h h' : Heap} {b : Bool} {v : Value} {k : List Int} (x : KeyIs h b v k) (hk : ∀ a vs, IsTup h a vs → IsTup h' a vs) : KeyIs h' b v k := by
  cases b with
  | false => exact x
  | true => obtain ⟨a, vs, e, ht, hi⟩ := x; exact ⟨a, vs, e, hk _ _ ht, hi⟩
theorem beq_self_int (i : Int) : (i == i) = true := by simp
section
variable {prog : Program} {w : World} {A : Around} {E : Value → Shared → Prop} {s : Shared}
theorem tup_lt_tree {x y : List Int} {a b : Addr} {xs ys : List Value} {P : Fin → Shared → Prop} (hx : IsTup s.heap a xs.toArray) (ix : IntsAre xs x) (hy : IsTup s.heap b ys.toArray) (iy : IntsAre ys y)
    (h : P (.done (.ret (.bool (lexLt x y)))) s) : wpAny (model prog w) A (Builtin.«tuple.__lt__» ⟨[.ref a, .ref b], []⟩) P E s := by
  have hTb := hy.typeIs
  obtain ⟨oa, hoa, _, na, hda⟩ := hx
  obtain ⟨ob, hob, _, nb, hdb⟩ := hy
  show wpAny _ _ (isInstance (.ref b) (.type "tuple") >>= _) _ _ s
  refine wpAny_bind (wpAny_isInstance hTb isSubtype_tuple_tuple ?_)
  simp only [Bool.not_true, Bool.false_eq_true, if_false]
  refine wpAny_bind (wpAny_tupleItemsOf hoa hda ?_)
  refine wpAny_bind (wpAny_tupleItemsOf hob hdb ?_)
  refine wpAny_bind ?_
  refine wpAny_forIn_list _
    (fun rest r s' => r.1 = none ∧ s' = s ∧ ∃ x' y' xs' ys', rest = List.zip xs' ys' ∧ IntsAre xs' x' ∧ IntsAre ys' y' ∧ lexLt x' y' = lexLt x y ∧ (decide (xs'.length < ys'.length)) = decide (xs.length < ys.length))
    _ ?_ ?_ _ _ ⟨rfl, rfl, x, y, xs, ys, rfl, ix, iy, rfl, rfl⟩
  · rintro ⟨u, v⟩ rest r s' ⟨hr, rfl, x', y', xs', ys', hz, hx', hy', hdec, hlen⟩
    cases hx' with
    | nil => simp at hz
    | @cons k1 t1 xs'' x'' hx'' =>
      cases hy' with
      | nil => simp at hz
      | @cons k2 t2 ys'' y'' hy'' =>
        simp only [List.zip_cons_cons, List.cons.injEq, Prod.mk.injEq] at hz
        obtain ⟨⟨rfl, rfl⟩, rfl⟩ := hz
        refine wpAny_bind (wpAny_eqBool_int ?_)
        by_cases hk : k1 = k2
        · subst hk
          rw [beq_self_int]
          simp only [Bool.not_true, Bool.false_eq_true, if_false]
          refine wpAny_pure ⟨rfl, rfl, x'', y'', xs'', ys'', rfl, hx'', hy'', ?_, by simpa using hlen⟩
          rw [← hdec, lexLt, if_pos rfl]
        · rw [show (k1 == k2) = false by simpa using hk]
          simp only [Bool.not_false, if_true]
          rw [lexLt, if_neg hk] at hdec
          rw [← hdec] at h
          refine wpAny_bind (wpAny_rule (wpAny_bind ?_))
          show wpAny _ _ (compareOp .Lt _ _) _ _ _
          refine lt_int ?_
          exact wpAny_pure (wpAny_pure h)
  · rintro ⟨r1, r2⟩ s' ⟨hr, rfl, x', y', xs', ys', hz, hx', hy', hdec, hlen⟩
    simp only at hr
    subst hr
    refine wpAny_pure ?_
    have hfin : decide (xs.length < ys.length) = lexLt x y := by
      rw [← hdec, ← hlen]
      cases hx' with
      | nil =>
        cases hy' with
        | nil => simp [lexLt]
        | cons _ _ => simp [lexLt]
      | cons _ _ =>
        cases hy' with
        | nil => simp [lexLt]
        | cons _ _ => simp at hz
    show P (.done (.ret (.bool (decide (xs.toArray.size < ys.toArray.size))))) s'
    rw [List.size_toArray, List.size_toArray, hfin]; exact h
theorem lt_tup {x y : List Int} {a b : Addr} {xs ys : List Value} {Q : Value → Shared → Prop} (hu : A.units < cLine) (hx : IsTup s.heap a xs.toArray) (ix : IntsAre xs x) (hy : IsTup s.heap b ys.toArray) (iy : IntsAre ys y)
    (h : Q (.bool (lexLt x y)) s) : wpAny (model prog w) A (compareOp .Lt (.ref a) (.ref b)) Q E s :=
  wpAny_richCompare_same_room (op := .Lt) hx.typeIs hy.typeIs F.slot_tuple_lt
    (wpAny_call_entry F.slot_tuple_lt hx.typeIs F.entry_tuple_lt (tup_lt_tree hx ix hy iy ⟨_, rfl, (fun e => nomatch e), h⟩) (F.args_tuple_lt_2 _ _)) hu
theorem lt_key {b : Bool} {v u : Value} {x y : List Int} {Q : Value → Shared → Prop} (hu : A.units < cLine) (hx : KeyIs s.heap b v x) (hy : KeyIs s.heap b u y)
    (h : Q (.bool (lexLt x y)) s) : wpAny (model prog w) A (compareOp .Lt v u) Q E s := by
  cases b with
  | false =>
    obtain ⟨i, t, rfl, rfl⟩ := hx
    obtain ⟨j, t', rfl, rfl⟩ := hy
    refine lt_int ?_
    rw [show decide (i < j) = lexLt [i] [j] by
      rw [lexLt]; by_cases e : i = j
      · rw [if_pos e, lexLt]; simp [e]
      · rw [if_neg e]]
    exact h
  | true =>
    obtain ⟨a, vs, rfl, ha, ia⟩ := hx
    obtain ⟨c, us, rfl, hc, ic⟩ := hy
    exact lt_tup hu ha ia hc ic h
end
end
theorem fillK : (PySem.Challenge.rw_pg0283_01, hd.heap_1) = (PySem.Challenge.rw_pg0283_01, hd.heap_1) := by k_fill; rfl
section
inductive All2 {α : Type} (R : Value → α → Prop) : List Value → List α → Prop
  | nil : All2 R [] []
  | cons {v : Value} {a : α} {vs : List Value} {as : List α} : R v a → All2 R vs as → All2 R (v :: vs) (a :: as)
theorem All2.length {α : Type} {R : Value → α → Prop} : ∀ {vs : List Value} {as : List α}, All2 R vs as → vs.length = as.length := by
  intro vs as h
  induction h with
  | nil => rfl
  | cons _ _ ih => exact congrArg Nat.succ ih
theorem All2.get {α : Type} {R : Value → α → Prop} : ∀ {vs : List Value} {as : List α}, All2 R vs as → ∀ {i : Nat} {a : α}, as[i]? = some a → ∃ v, vs[i]? = some v ∧ R v a := by
  intro vs as h
  induction h with
  | nil => exact fun e => nomatch e
  | cons h _ ih =>
    intro i a e
    cases i with
    | zero => exact ⟨_, rfl, Option.some.inj e ▸ h⟩
    | succ i => exact ih (i := i) e
theorem All2.imp {α : Type} {R S : Value → α → Prop} (f : ∀ v a, R v a → S v a) : ∀ {vs : List Value} {as : List α}, All2 R vs as → All2 S vs as := by
  intro vs as h
  induction h with
  | nil => exact .nil
  | cons h _ ih => exact .cons (f _ _ h) ih
theorem All2.append {α : Type} {R : Value → α → Prop} : ∀ {vs : List Value} {as : List α} {ws : List Value} {bs : List α}, All2 R vs as → All2 R ws bs → All2 R (vs ++ ws) (as ++ bs) := by
  intro vs as ws bs h k
  induction h with
  | nil => exact k
  | cons h _ ih => exact .cons h ih
theorem All2.take {α : Type} {R : Value → α → Prop} : ∀ {vs : List Value} {as : List α}, All2 R vs as → ∀ n : Nat, All2 R (vs.take n) (as.take n) := by
  intro vs as h
  induction h with
  | nil => intro n; rw [List.take_nil, List.take_nil]; exact .nil
  | cons h _ ih =>
    intro n
    cases n with
    | zero => exact .nil
    | succ n => exact .cons h (ih n)
theorem All2.drop {α : Type} {R : Value → α → Prop} : ∀ {vs : List Value} {as : List α}, All2 R vs as → ∀ n : Nat, All2 R (vs.drop n) (as.drop n) := by
  intro vs as h
  induction h with
  | nil => intro n; rw [List.drop_nil, List.drop_nil]; exact .nil
  | cons h r ih =>
    intro n
    cases n with
    | zero => exact .cons h r
    | succ n => exact ih n
theorem All2.map {α β : Type} {R : Value → α → Prop} {S : Value → β → Prop} (g : α → β) (f : ∀ v a, R v a → S v (g a)) : ∀ {vs : List Value} {as : List α}, All2 R vs as → All2 S vs (as.map g) := by
  intro vs as h
  induction h with
  | nil => exact .nil
  | cons h _ ih => exact .cons (f _ _ h) ih
theorem All2.inv {α : Type} {R : Value → α → Prop} {vs : List Value} {a : α} {as : List α} (h : All2 R vs (a :: as)) : ∃ v ws, vs = v :: ws ∧ R v a ∧ All2 R ws as := by
  cases h with | cons h r => exact ⟨_, _, rfl, h, r⟩
theorem fn_eqs {oc oc' : Value} {od od' : Option Addr} {f f' : FuncData} {osl osl' : Array (Option Value)} (q : (some ⟨oc, od, .func f, osl⟩ : Option Obj) = some ⟨oc', od', .func f', osl'⟩) : f.qualname = f'.qualname ∧ f.scope = f'.scope ∧ f.code = f'.code ∧ f.body = f'.body := by
  cases q; exact ⟨rfl, rfl, rfl, rfl⟩
theorem body_at (n : Nat) {l l' : List Stmt} (q : FuncBody.stmts l = .stmts l') : l[n]? = l'[n]? := by cases q; rfl
theorem body_from (n : Nat) {l l' : List Stmt} (q : FuncBody.stmts l = .stmts l') : l.drop n = l'.drop n := by cases q; rfl
theorem if_head {t t' : Expr} {a a' : Stmt} {l l' b b' : List Stmt} {p p' : Pos} (q : (some (.If t (a :: l) b p) : Option Stmt) = some (.If t' (a' :: l') b' p')) : a = a' := by cases q; rfl
noncomputable def Hold (P : Prop) : Prop := P
theorem hold {P : Prop} (h : Hold P) : P := h
section
variable {M : Model} {A : Around} {E : Value → Shared → Prop} {hp h₀ : Heap} {ge : Array GenState} {dr : Drawn} {os : OsState} {tk : Nat} {L a : Addr} {m : Str → Option Value} {cn : Str} {cs : Scope} {ccd : Value} {cl : List (Str × Addr)}
  {x : Str} {v : Value} {i : Int} {t : Tok} {Q : Unit → Shared → Prop} {news : List (Addr × Obj)}
theorem storeI (F : Fr h₀ L hp m) (N : News h₀ L hp news)
    (h : ∀ h' t' tk', Fr h₀ L h' (fun y => if y = x then some (.int i t') else m y) → News h₀ L h' news → Q () ⟨h', ge, dr, tk', os⟩)
    (hk : cs.kind = .function := by rfl) (hx : (envX cn cs L a ccd cl).kindOf x = some .local := by rfl) : wpAny M A (storeName (envX cn cs L a ccd cl) x (.int i t)) Q E ⟨hp, ge, dr, tk, os⟩ :=
  storeX_L (s := ⟨hp, ge, dr, tk, os⟩) F N (fun h' F' N' => h h' t _ F' N') hk hx
theorem storeG (F : Fr h₀ L hp m) (N : News h₀ L hp news)
    (h : ∀ h' tk', Fr h₀ L h' (fun y => if y = x then some v else m y) → News h₀ L h' news → Q () ⟨h', ge, dr, tk', os⟩)
    (hk : cs.kind = .function := by rfl) (hx : (envX cn cs L a ccd cl).kindOf x = some .local := by rfl) : wpAny M A (storeName (envX cn cs L a ccd cl) x v) Q E ⟨hp, ge, dr, tk, os⟩ :=
  storeX_L (s := ⟨hp, ge, dr, tk, os⟩) F N (fun h' F' N' => h h' _ F' N') hk hx
end
theorem item_tupB {prog : Program} {w : World} {A : Around} {E : Value → Shared → Prop} {s : Shared} {h₀ : Heap} {L : Addr} {m : Str → Option Value} {value slice : Expr} {t : Addr} {l : List Value} {k : Int} {u : Tok} {j : Nat} {x : Value} {Q : Value → Shared → Prop} (F : Fr h₀ L s.heap m) (ht : IsTup h₀ t l.toArray)
    (hlo : -(2 ^ 63) ≤ k) (hhi : k < 2 ^ 63) (hj : seqIndex? k l.length = some j) (hx : l[j]? = some x) (h : Q x s)
    (hs : subscripted slice false (.ref t) (.int k u) = operate [.ref t, .int k u] (getItem (.ref t) (.int k u)) := by with_unfolding_all rfl) :
    wpAny (model prog w) A (subscriptTail value slice (.ref t) (.int k u)) Q E s := item_tupleT (ht.keeps F.keep) hlo hhi hj hx h hs
end
local macro_rules | `(tactic| walk_at "exec While Compare cons nil") => `(tactic| (refine hold ?_))
local macro_rules | `(tactic| walk_at "storeName") => `(tactic| (k_here; k_dflt (first
  | (refine' storeI ?F ?N ?_ ?a ?b; (case F => k_asm); (case N => k_asm); (case a => rfl); (case b => rfl); k_whole; intro h' t' tk' F' N'; (try k_sweep))
  | (refine' storeG ?F ?N ?_ ?a ?b; (case F => k_asm); (case N => k_asm); (case a => rfl); (case b => rfl); k_whole; intro h' tk' F' N'; (try k_sweep)))))
local macro_rules | `(tactic| walk_at "call ref") => `(tactic| (refine hold ?_))
local macro_rules | `(tactic| walk_at "call builtin:len") => `(tactic| (refine hold ?_))
local macro_rules | `(tactic| walk_at "subscriptTail") => `(tactic| first
  | ((with_reducible show wpAny _ _ (subscriptTail _ _ (Value.ref _) (Value.int _ _)) _ _ _); k_dflt (refine' item_tupB ?F ?t ?a ?b ?c ?d ?_; (case F => k_asm); (case t => with_reducible assumption); (case a => decide); (case b => decide); (case c => rfl); (case d => rfl); k_whole))
  | ((with_reducible show wpAny _ _ (subscriptTail _ _ (Value.ref _) (Value.int _ _)) _ _ _); k_dflt (refine' item_tupleT ?t ?a ?b ?c ?d ?_; (case t => exact News.isTup (by k_asm) (by k_mem)); (case a => decide); (case b => decide); (case c => rfl); (case d => rfl); k_whole))
  | (refine hold ?_))
local macro_rules | `(tactic| walk_at "eval Name") => `(tactic| (k_here; k_dflt (refine' nameX_L ?F ?v ?_ ?a ?b; (case F => k_asm); (case a => rfl); (case b => rfl); (case v => rfl); k_whole)))
section
/-- what a row's item gives for its key: itself, or (hd) the head of the tuple that it is -/
noncomputable def ItemKey (h : Heap) (b hd : Bool) (v : Value) (k : List Int) : Prop := match hd with
  | false => KeyIs h b v k
  | true => ∃ a v₀ vs, v = .ref a ∧ IsTup h a (v₀ :: vs).toArray ∧ KeyIs h b v₀ k
noncomputable def kwOf (hd : Bool) : List (Str × Value) := match hd with
  | false => []
  | true => [(Str.ofString "key", .ref 229)]
noncomputable def keyV (hd : Bool) : Value := match hd with
  | false => .none
  | true => .ref 229
theorem ItemKey.keeps {h h' : Heap} {b hd : Bool} {v : Value} {k : List Int} (x : ItemKey h b hd v k) (hk : ∀ a vs, IsTup h a vs → IsTup h' a vs) : ItemKey h' b hd v k := by
  cases hd with
  | false => exact KeyIs.keeps x hk
  | true => obtain ⟨a, v₀, vs, e, ht, hi⟩ := x; exact ⟨a, v₀, vs, e, hk _ _ ht, hi.keeps hk⟩
theorem tup_stays {h h' : Heap} (k : h.StaysIn h') : ∀ a vs, IsTup h a vs → IsTup h' a vs := fun _ _ x => x.keeps k
section
variable {prog : Program} {w : World} {A : Around} {s : Shared} {R : Result → Shared → Prop} {mg mb : Str → Option Value}
  {name qual : Str} {params : Arguments} {body : List Stmt} {scope : Scope} {dV kV doc pm cdv ct oc : Value} {an od : Option Addr} {osl : Array (Option Value)} {f : Addr} {args : Args} {binds : List (Str × Value)}
/-- a call of a def of the text: the body at a new frame -/
theorem enter0 (G : Gr w mg mb s.heap)
    (ho : (hd.heap_1 w.params).lookup f = some ⟨oc, od, .func (fnOf name qual params body scope dV kV doc pm an cdv ct), osl⟩) (hcd : codeIn (hd.heap_1 w.params) cdv qual = true) (hroom : A.depth < recursionLimit)
    (hbind : BindsTo s (fnOf name qual params body scope dV kV doc pm an cdv ct) args binds) (hloc : ∀ y ∈ binds, scope.names.lookup y.1 = some .local)
    (h : ∀ L h₁, Fr s.heap L h₁ (fun y => binds.reverse.lookup y) → (hd.heap_1 w.params).In s.heap → TR mg mb s.heap → News s.heap L h₁ [] →
      wpAny (model prog w) (A.deeper (envOf qual scope L f cdv)) (execs body (envOf qual scope L f cdv))
        (fun fl s' => R (.ok (.ret (match fl with | .ret v => v | _ => .none))) s') (fun _ _ => False) { s with heap := h₁, toks := s.toks + binds.length })
    (hco : scope.isCoroutine = false) (hgen : scope.isGenerator = false) (hk : scope.kind = .function)
    (hcell : ∀ x ∈ scope.names, x.2 ≠ .cell) : codeAny (model prog w) A (.call (.ref f) args) R s :=
  enter [] G (fun _ _ e => e) (fun _ h => nomatch h) ho hcd hroom hbind hloc (fun L h₁ F X T _ _ => h L h₁ F X T News.nil) hco hgen hk hcell
end
theorem bindsKwd {s : Shared} {fd : FuncData} {args : Args} {binds : List (Str × Value)} {T D : Addr} {o o2 : Obj} {items : Array Value} {n : Nat} {part : Option Value}
    {k : Option (Array Value) → Sem (List (Str × Value))} {k2 : Obj → Sem (List (Str × Value))} (hd : fd.defaults = .ref T) (ho : s.heap.get? T = some o) (hs : o.data = .seq items n) (ho2 : s.heap.get? D = some o2)
    (h₁ : bindArgs fd args = seqItems? fd.defaults >>= k) (h₂ : k (some items) = .load D part k2) (h₃ : k2 o2 = pure binds) : BindsTo s fd args binds :=
  fun M A E Q hq => by
    rw [h₁, hd]
    refine wpAny_bind (wpAny_seqItems ho hs ?_)
    rw [h₂]
    intro Γ p hΓ
    rw [Sem.wp_load]
    refine ⟨o2, ho2, ?_⟩
    rw [h₃]
    exact (wpAny_pure hq : wpAny M A _ Q E s) Γ p hΓ
section
variable {prog : Program} {w : World} {A : Around} {s : Shared} {mg mb : Str → Option Value} {Q E : Value → Shared → Prop}
end
theorem bisL_fuel (c : Nat → Bool) : ∀ (f g lo hi : Nat), hi - lo ≤ f → hi - lo ≤ g → bisL c f lo hi = bisL c g lo hi
  | 0, 0, _, _, _, _ => rfl
  | 0, g + 1, lo, hi, h, _ => by rw [bisL, bisL, if_neg (Nat.not_lt.mpr (Nat.sub_eq_zero_iff_le.mp (Nat.le_zero.mp h)))]
  | f + 1, 0, lo, hi, _, h => by rw [bisL, bisL, if_neg (Nat.not_lt.mpr (Nat.sub_eq_zero_iff_le.mp (Nat.le_zero.mp h)))]
  | f + 1, g + 1, lo, hi, h, h' => by
    rw [bisL, bisL]
    by_cases q : lo < hi
    · obtain ⟨ma, mb⟩ := mid_ok q
      have u : ∀ {f}, hi - lo ≤ f + 1 → hi - ((lo + hi) / 2 + 1) ≤ f ∧ (lo + hi) / 2 - lo ≤ f := fun {f} h => by
        generalize (lo + hi) / 2 = md at ma mb ⊢
        omega
      rw [if_pos q, if_pos q, bisL_fuel c f g _ _ (u h).1 (u h').1, bisL_fuel c f g _ _ (u h).2 (u h').2]
    · rw [if_neg q, if_neg q]
noncomputable abbrev bsM (m₀ : Str → Option Value) (lo hi : Nat) (t1 t2 : Tok) (u : Option Value) : Str → Option Value := fun y => if y = Str.ofString "lo" then some (.int (lo : Nat) t1) else if y = Str.ofString "hi" then some (.int (hi : Nat) t2) else if y = Str.ofString "mid" then u else m₀ y
noncomputable def BsEnd (h₀ : Heap) (L : Addr) (m₀ : Str → Option Value) (c : Nat → Bool) (s : Shared) (lo hi : Nat) (f : Flow) (s₂ : Shared) : Prop :=
  f = .next ∧ lo < hi ∧ ∃ h' tk m' lo' hi' t1 t2, s₂ = { s with heap := h', toks := tk } ∧ Fr h₀ L h' m' ∧ m' (Str.ofString "lo") = some (.int (lo' : Nat) t1) ∧ m' (Str.ofString "hi") = some (.int (hi' : Nat) t2) ∧
    (∀ z, z ≠ Str.ofString "lo" → z ≠ Str.ofString "hi" → z ≠ Str.ofString "mid" → m' z = m₀ z) ∧ (if c ((lo + hi) / 2) = true then lo' = (lo + hi) / 2 + 1 ∧ hi' = hi else lo' = lo ∧ hi' = (lo + hi) / 2)
theorem mid_eq (lo hi : Nat) : ((lo : Int) + (hi : Int)).fdiv 2 = (((lo + hi) / 2 : Nat) : Int) := by
  rw [Int.fdiv_eq_ediv_of_nonneg _ (by omega)]
  omega
theorem bsEnd_up {h₀ h' : Heap} {L : Addr} {m₀ m' : Str → Option Value} {c : Nat → Bool} {s : Shared} {lo hi tk : Nat} {t1 t2 : Tok} (hlt : (lo : Int) < (hi : Int)) (hc : c ((lo + hi) / 2) = true) (F : Fr h₀ L h' m')
    (e1 : m' (Str.ofString "lo") = some (.int (((lo : Int) + (hi : Int)).fdiv 2 + 1) t1)) (e2 : m' (Str.ofString "hi") = some (.int (hi : Nat) t2)) (e3 : ∀ z, z ≠ Str.ofString "lo" → z ≠ Str.ofString "hi" → z ≠ Str.ofString "mid" → m' z = m₀ z) :
    BsEnd h₀ L m₀ c s lo hi .next { s with heap := h', toks := tk } :=
  ⟨rfl, by omega, h', tk, m', (lo + hi) / 2 + 1, hi, t1, t2, rfl, F, by rw [e1, mid_eq]; rfl, e2, e3, by rw [if_pos hc]; exact ⟨rfl, rfl⟩⟩
theorem bsEnd_dn {h₀ h' : Heap} {L : Addr} {m₀ m' : Str → Option Value} {c : Nat → Bool} {s : Shared} {lo hi tk : Nat} {t1 t2 : Tok} (hlt : (lo : Int) < (hi : Int)) (hc : c ((lo + hi) / 2) = false) (F : Fr h₀ L h' m')
    (e1 : m' (Str.ofString "lo") = some (.int (lo : Nat) t1)) (e2 : m' (Str.ofString "hi") = some (.int (((lo : Int) + (hi : Int)).fdiv 2) t2)) (e3 : ∀ z, z ≠ Str.ofString "lo" → z ≠ Str.ofString "hi" → z ≠ Str.ofString "mid" → m' z = m₀ z) :
    BsEnd h₀ L m₀ c s lo hi .next { s with heap := h', toks := tk } :=
  ⟨rfl, by omega, h', tk, m', lo, (lo + hi) / 2, t1, t2, rfl, F, e1, by rw [e2, mid_eq], e3, by rw [if_neg (by rw [hc]; exact Bool.false_ne_true)]; exact ⟨rfl, rfl⟩⟩
theorem bsM_eq {m₀ m' : Str → Option Value} {lo hi : Nat} {t1 t2 : Tok} (h1 : m' (Str.ofString "lo") = some (.int (lo : Nat) t1)) (h2 : m' (Str.ofString "hi") = some (.int (hi : Nat) t2))
    (h3 : ∀ z, z ≠ Str.ofString "lo" → z ≠ Str.ofString "hi" → z ≠ Str.ofString "mid" → m' z = m₀ z) : m' = bsM m₀ lo hi t1 t2 (m' (Str.ofString "mid")) := by
  funext y
  dsimp only [bsM]
  by_cases e1 : y = Str.ofString "lo"
  · rw [if_pos e1, e1, h1]
  · rw [if_neg e1]
    by_cases e2 : y = Str.ofString "hi"
    · rw [if_pos e2, e2, h2]
    · rw [if_neg e2]
      by_cases e3 : y = Str.ofString "mid"
      · rw [if_pos e3, e3]
      · rw [if_neg e3, h3 y e1 e2 e3]
theorem bs_while {prog : Program} {w : World} {A : Around} {E : Value → Shared → Prop} {Q : Flow → Shared → Prop} {s : Shared} {env : Env} {h₀ : Heap} {L : Addr} {test : Expr} {body : List Stmt} {pos : Pos} {m₀ : Str → Option Value} {n : Nat} {t₁ t₂ : Tok}
    (c : Nat → Bool) (F : Fr h₀ L s.heap m₀) (h1 : m₀ (Str.ofString "lo") = some (.int 0 t₁)) (h2 : m₀ (Str.ofString "hi") = some (.int (n : Nat) t₂))
    (turn : ∀ lo hi t1 t2 u h tk, lo ≤ hi → hi ≤ n → Fr h₀ L h (bsM m₀ lo hi t1 t2 u) → News h₀ L h [] →
      wpAny (model prog w) A (isTrue test env (eval test env)) (fun b s₂ => if b = true then wpAny (model prog w) A (execs body env) (BsEnd h₀ L m₀ c s lo hi) E s₂ else hi ≤ lo ∧ ∃ h' tk', s₂ = { s with heap := h', toks := tk' } ∧ Fr h₀ L h' (bsM m₀ lo hi t1 t2 u)) E { s with heap := h, toks := tk })
    (done : ∀ hi t1 t2 u h tk, Fr h₀ L h (bsM m₀ (bisL c n 0 n) hi t1 t2 u) → News h₀ L h [] → Q .next { s with heap := h, toks := tk })
    (hE : PassesOwn (model prog w) A env E) :
    wpAny (model prog w) A (exec (.While test body [] pos) env) Q E s := by
  refine While_inv2 (news := []) (n₀ := n) (fun k m _ => ∃ lo hi t1 t2 u, m = bsM m₀ lo hi t1 t2 u ∧ lo ≤ hi ∧ hi ≤ n ∧ k = hi - lo ∧ bisL c (hi - lo) lo hi = bisL c n 0 n) F News.nil ⟨0, n, t₁, t₂, _, bsM_eq (by simpa using h1) h2 (fun _ _ _ _ => rfl), Nat.zero_le _, Nat.le_refl _, (Nat.sub_zero n).symm, by rw [Nat.sub_zero]⟩ ?_ hE
  intro k m₁ news₁ h₁ tk₁ F₁ N₁ hXr
  refine gl_in fun gGl hGl => ?_
  obtain ⟨lo, hi, t1, t2, u, rfl, hlo, hhi, rfl, hb⟩ := hXr
  refine hGl ?_
  clear hGl gGl
  refine wpAny_mono (turn lo hi t1 t2 u h₁ tk₁ hlo hhi F₁ News.nil) (fun b s₂ p => ?_) fun _ _ x => x
  cases b with
  | false =>
    simp only [Bool.false_eq_true, if_false] at p ⊢
    obtain ⟨hl, h', tk', rfl, F'⟩ := p
    refine done hi t1 t2 u h' tk' ?_ News.nil
    rw [← hb]
    have e : lo = hi := Nat.le_antisymm hlo hl
    subst e
    rw [Nat.sub_self, bisL]
    exact F'
  | true =>
    simp only [if_true] at p ⊢
    refine wpAny_mono p (fun f s₃ q => ?_) fun _ _ x => x
    obtain ⟨rfl, hlt, h', tk, m', lo', hi', t3, t4, rfl, F', e1, e2, e3, hc⟩ := q
    rw [bsM_eq e1 e2 e3] at F'
    have hstep : bisL c (hi - lo) lo hi = bisL c (hi' - lo') lo' hi' ∧ lo' ≤ hi' ∧ hi' ≤ n ∧ hi' - lo' < hi - lo := by
      obtain ⟨f, hf⟩ : ∃ f, hi - lo = f + 1 := ⟨hi - lo - 1, by omega⟩
      rw [hf, bisL, if_pos hlt]
      obtain ⟨ma, mb⟩ := mid_ok hlt
      generalize (lo + hi) / 2 = md at ma mb hc ⊢
      by_cases hq : c md = true
      · rw [if_pos hq] at hc ⊢
        obtain ⟨rfl, rfl⟩ := hc
        exact ⟨bisL_fuel c _ _ _ _ (by omega) (Nat.le_refl _), mb, hhi, by omega⟩
      · rw [if_neg hq] at hc ⊢
        obtain ⟨rfl, rfl⟩ := hc
        exact ⟨bisL_fuel c _ _ _ _ (by omega) (Nat.le_refl _), ma, Nat.le_trans (Nat.le_of_lt mb) hhi, by omega⟩
    obtain ⟨g1, g2, g3, g4⟩ := hstep
    exact ⟨h', tk, _, [], hi' - lo', rfl, F', News.nil, g4, lo', hi', t3, t4, _, rfl, g2, g3, rfl, g1.symm.trans hb⟩
section
variable {prog : Program} {w : World} {A : Around} {s : Shared} {mg mb : Str → Option Value} {Q E : Value → Shared → Prop}
theorem head_spec {a : Addr} {v : Value} {vs : List Value} (r : Room A 2) (G : Gr w mg mb s.heap) (ht : IsTup s.heap a (v :: vs).toArray)
    (ret : ∀ h' tk, s.heap.StaysIn h' → Q v { s with heap := h', toks := tk }) : wpAny (model prog w) A (call (.ref 229) [.ref a]) Q E s := by
  refine wpAny_call ?_
  refine' enter0 ?e1G ?e1k1 ?e1k2 ?e1kr ?e1k4 ?e1k5 ?e1kk ?e1c1 ?e1c2 ?e1c3 ?e1c4
  case e1G => assumption
  case e1k1 => k_is
  case e1k2 => k_is
  case e1kr => exact Room.dl (by assumption)
  case e1k4 => exact BindsTo.of_eq rfl
  case e1k5 => exact locs rfl
  case e1c1 => exact rfl
  case e1c2 => exact rfl
  case e1c3 => exact rfl
  case e1c4 => decide
  intro L h₁ F X T N
  (try dsimp only)
  k_steps
  unfold Hold
  refine item_tupleT (l := v :: vs) (j := 0) (x := v) (ht.keeps F.keep) (by decide) (by decide) (seqIndex_of (by omega) (by rw [List.length_cons]; omega)) rfl ?_
  k_steps
  exact ret _ _ F.keep
theorem bnot_t {b : Bool} (h : b = true) : (!b) = false := by rw [h]; rfl
theorem bnot_f {b : Bool} (h : b = false) : (!b) = true := by rw [h]; rfl
end
end
section
section
variable {prog : Program} {w : World} {A : Around} {s : Shared} {mg mb : Str → Option Value} {Q E : Value → Shared → Prop}
theorem bl_gen {a : Addr} {xv : Value} {t : Tok} {args : Args} {key b : Bool} {vs : List Value} {ks : List (List Int)} {k : List Int} (r : Room A 4) (G : Gr w mg mb s.heap)
    (hb : ∀ o fd, (hd.heap_1 w.params).lookup 67 = some o → o.data = .func fd → BindsTo s fd args [(Str.ofString "a", .ref a), (Str.ofString "x", xv), (Str.ofString "lo", .int 0 t), (Str.ofString "hi", .none), (Str.ofString "key", keyV key)])
    (hl : s.heap.IsList a vs.toArray) (hk : All2 (ItemKey s.heap b key) vs ks) (hx : KeyIs s.heap b xv k) (hsz : vs.length < 2 ^ 40)
    (ret : ∀ h' tk t, s.heap.StaysIn h' → Q (.int (bl ks k : Nat) t) { s with heap := h', toks := tk }) :
    codeAny (model prog w) A (.call (.ref 67) args) (fun r s' => match r with | .ok (.ret v) => Q v s' | .ok _ => False | .error e => E e s') s := by
  cases key
  · refine' enter0 ?e2G ?e2k1 ?e2k2 ?e2kr ?e2k4 ?e2k5 ?e2kk ?e2c1 ?e2c2 ?e2c3 ?e2c4
    case e2G => assumption
    case e2k1 => k_is
    case e2k2 => k_is
    case e2kr => exact Room.dl (by assumption)
    case e2k4 => exact hb _ _ (by k_is) rfl
    case e2k5 => exact locs rfl
    case e2c1 => exact rfl
    case e2c2 => exact rfl
    case e2c3 => exact rfl
    case e2c4 => decide
    intro L h₁ F X T N
    (try dsimp only)
    dsimp only [keyV] at F ⊢
    k_steps
    rename Fr _ _ _ _ => F1
    unfold Hold
    refine len_list (stays_list F1.keep hl) ?_ ?_
    · rw [List.size_toArray]; omega
    rw [List.size_toArray]
    k_steps
    unfold Hold
    rename Fr _ _ _ _ => F2
    rename News _ _ _ _ => N2
    refine bs_while (n := vs.length) (fun i => lexLt (ks.getD i []) k) F2 rfl rfl ?_ ?_ PassesOwn.never
    · intro lo hi t1 t2 u h tk hlo hhi F3 N3
      clear F2 N2
      k_steps
      (try dsimp only)
      rename Fr _ _ _ _ => F4
      refine gl_in fun gGl hGl => ?_
      obtain ⟨kv, hkv, hkk⟩ : ∃ kv, ks[(lo + hi) / 2]? = some kv ∧ ks.getD ((lo + hi) / 2) [] = kv := by
        have hlt : (lo + hi) / 2 < ks.length := by rw [← hk.length]; omega
        exact ⟨ks[(lo + hi) / 2], List.getElem?_eq_getElem hlt, by simp [List.getD, List.getElem?_eq_getElem hlt]⟩
      obtain ⟨v, hv, hvk⟩ := hk.get hkv
      refine hGl ?_
      clear hGl gGl
      unfold Hold
      refine item_listL (stays_list F4.keep hl) (x := v) ?_ ?_ ?_ ?_
      · rw [mid_eq]; omega
      · rw [mid_eq]; omega
      · rw [mid_eq, Int.toNat_natCast]; exact hv
      k_steps
      (try rename Fr _ _ _ _ => F4)
      refine lt_key (r.deeper _).ul (KeyIs.keeps hvk (tup_stays F4.keep)) (KeyIs.keeps hx (tup_stays F4.keep)) ?_
      rw [← hkk]
      k_steps
      · exact bsEnd_up (by assumption) (by assumption) (by assumption) rfl rfl (fun z h1 h2 h3 => by simp only [bsM, if_neg h1, if_neg h2, if_neg h3])
      · exact bsEnd_dn (by assumption) (by assumption) (by assumption) rfl rfl (fun z h1 h2 h3 => by simp only [bsM, if_neg h1, if_neg h2, if_neg h3])
      · exact F3
    · intro hi t1 t2 u h tk F3 N3
      clear F2 N2
      k_steps
      (try dsimp only)
      rw [show bisL (fun i => lexLt (ks.getD i []) k) vs.length 0 vs.length = bl ks k by rw [bl, hk.length]]
      exact ret _ _ _ F3.keep
  · refine' enter0 ?e3G ?e3k1 ?e3k2 ?e3kr ?e3k4 ?e3k5 ?e3kk ?e3c1 ?e3c2 ?e3c3 ?e3c4
    case e3G => assumption
    case e3k1 => k_is
    case e3k2 => k_is
    case e3kr => exact Room.dl (by assumption)
    case e3k4 => exact hb _ _ (by k_is) rfl
    case e3k5 => exact locs rfl
    case e3c1 => exact rfl
    case e3c2 => exact rfl
    case e3c3 => exact rfl
    case e3c4 => decide
    intro L h₁ F X T N
    (try dsimp only)
    dsimp only [keyV] at F ⊢
    k_steps
    rename Fr _ _ _ _ => F1
    unfold Hold
    refine len_list (stays_list F1.keep hl) ?_ ?_
    · rw [List.size_toArray]; omega
    rw [List.size_toArray]
    k_steps
    unfold Hold
    rename Fr _ _ _ _ => F2
    rename News _ _ _ _ => N2
    refine bs_while (n := vs.length) (fun i => lexLt (ks.getD i []) k) F2 rfl rfl ?_ ?_ PassesOwn.never
    · intro lo hi t1 t2 u h tk hlo hhi F3 N3
      clear F2 N2
      k_steps
      (try dsimp only)
      rename Fr _ _ _ _ => F4
      refine gl_in fun gGl hGl => ?_
      obtain ⟨kv, hkv, hkk⟩ : ∃ kv, ks[(lo + hi) / 2]? = some kv ∧ ks.getD ((lo + hi) / 2) [] = kv := by
        have hlt : (lo + hi) / 2 < ks.length := by rw [← hk.length]; omega
        exact ⟨ks[(lo + hi) / 2], List.getElem?_eq_getElem hlt, by simp [List.getD, List.getElem?_eq_getElem hlt]⟩
      obtain ⟨v, hv, hvk⟩ := hk.get hkv
      refine hGl ?_
      clear hGl gGl
      unfold Hold
      refine item_listL (stays_list F4.keep hl) (x := v) ?_ ?_ ?_ ?_
      · rw [mid_eq]; omega
      · rw [mid_eq]; omega
      · rw [mid_eq, Int.toNat_natCast]; exact hv
      refine gl_in fun gGl hGl => ?_
      obtain ⟨ta, v₀, us, rfl, hta, hvk⟩ := hvk
      refine hGl ?_
      clear hGl gGl
      k_steps
      (try dsimp only)
      rename Fr _ _ _ _ => F5
      rename News _ _ _ _ => N5
      unfold Hold
      refine head_spec ((r.deeper _).less (by decide)) (G.keeps F5.keep) (hta.keeps F5.keep) ?_
      intro h6 tk6 k6
      have F4 := F5.keeps k6
      have N4 := N5.grown k6
      clear F5 N5
      k_steps
      (try rename Fr _ _ _ _ => F4)
      refine lt_key (r.deeper _).ul (KeyIs.keeps hvk (tup_stays F4.keep)) (KeyIs.keeps hx (tup_stays F4.keep)) ?_
      rw [← hkk]
      k_steps
      · exact bsEnd_up (by assumption) (by assumption) (by assumption) rfl rfl (fun z h1 h2 h3 => by simp only [bsM, if_neg h1, if_neg h2, if_neg h3])
      · exact bsEnd_dn (by assumption) (by assumption) (by assumption) rfl rfl (fun z h1 h2 h3 => by simp only [bsM, if_neg h1, if_neg h2, if_neg h3])
      · exact F3
    · intro hi t1 t2 u h tk F3 N3
      clear F2 N2
      k_steps
      (try dsimp only)
      rw [show bisL (fun i => lexLt (ks.getD i []) k) vs.length 0 vs.length = bl ks k by rw [bl, hk.length]]
      exact ret _ _ _ F3.keep
theorem br_gen {a : Addr} {xv : Value} {t : Tok} {args : Args} {key b : Bool} {vs : List Value} {ks : List (List Int)} {k : List Int} (r : Room A 4) (G : Gr w mg mb s.heap)
    (hb : ∀ o fd, (hd.heap_1 w.params).lookup 49 = some o → o.data = .func fd → BindsTo s fd args [(Str.ofString "a", .ref a), (Str.ofString "x", xv), (Str.ofString "lo", .int 0 t), (Str.ofString "hi", .none), (Str.ofString "key", keyV key)])
    (hl : s.heap.IsList a vs.toArray) (hk : All2 (ItemKey s.heap b key) vs ks) (hx : KeyIs s.heap b xv k) (hsz : vs.length < 2 ^ 40)
    (ret : ∀ h' tk t, s.heap.StaysIn h' → Q (.int (br ks k : Nat) t) { s with heap := h', toks := tk }) :
    codeAny (model prog w) A (.call (.ref 49) args) (fun r s' => match r with | .ok (.ret v) => Q v s' | .ok _ => False | .error e => E e s') s := by
  cases key
  · refine' enter0 ?e4G ?e4k1 ?e4k2 ?e4kr ?e4k4 ?e4k5 ?e4kk ?e4c1 ?e4c2 ?e4c3 ?e4c4
    case e4G => assumption
    case e4k1 => k_is
    case e4k2 => k_is
    case e4kr => exact Room.dl (by assumption)
    case e4k4 => exact hb _ _ (by k_is) rfl
    case e4k5 => exact locs rfl
    case e4c1 => exact rfl
    case e4c2 => exact rfl
    case e4c3 => exact rfl
    case e4c4 => decide
    intro L h₁ F X T N
    (try dsimp only)
    dsimp only [keyV] at F ⊢
    k_steps
    rename Fr _ _ _ _ => F1
    unfold Hold
    refine len_list (stays_list F1.keep hl) ?_ ?_
    · rw [List.size_toArray]; omega
    rw [List.size_toArray]
    k_steps
    unfold Hold
    rename Fr _ _ _ _ => F2
    rename News _ _ _ _ => N2
    refine bs_while (n := vs.length) (fun i => !lexLt k (ks.getD i [])) F2 rfl rfl ?_ ?_ PassesOwn.never
    · intro lo hi t1 t2 u h tk hlo hhi F3 N3
      clear F2 N2
      k_steps
      (try dsimp only)
      rename Fr _ _ _ _ => F4
      refine gl_in fun gGl hGl => ?_
      obtain ⟨kv, hkv, hkk⟩ : ∃ kv, ks[(lo + hi) / 2]? = some kv ∧ ks.getD ((lo + hi) / 2) [] = kv := by
        have hlt : (lo + hi) / 2 < ks.length := by rw [← hk.length]; omega
        exact ⟨ks[(lo + hi) / 2], List.getElem?_eq_getElem hlt, by simp [List.getD, List.getElem?_eq_getElem hlt]⟩
      obtain ⟨v, hv, hvk⟩ := hk.get hkv
      refine hGl ?_
      clear hGl gGl
      unfold Hold
      refine item_listL (stays_list F4.keep hl) (x := v) ?_ ?_ ?_ ?_
      · rw [mid_eq]; omega
      · rw [mid_eq]; omega
      · rw [mid_eq, Int.toNat_natCast]; exact hv
      k_steps
      (try rename Fr _ _ _ _ => F4)
      refine lt_key (r.deeper _).ul (KeyIs.keeps hx (tup_stays F4.keep)) (KeyIs.keeps hvk (tup_stays F4.keep)) ?_
      rw [← hkk]
      k_steps
      · exact bsEnd_dn (by assumption) (bnot_t (by assumption)) (by assumption) rfl rfl (fun z h1 h2 h3 => by simp only [bsM, if_neg h1, if_neg h2, if_neg h3])
      · exact bsEnd_up (by assumption) (bnot_f (by assumption)) (by assumption) rfl rfl (fun z h1 h2 h3 => by simp only [bsM, if_neg h1, if_neg h2, if_neg h3])
      · exact F3
    · intro hi t1 t2 u h tk F3 N3
      clear F2 N2
      k_steps
      (try dsimp only)
      rw [show bisL (fun i => !lexLt k (ks.getD i [])) vs.length 0 vs.length = br ks k by rw [br, hk.length]]
      exact ret _ _ _ F3.keep
  · refine' enter0 ?e5G ?e5k1 ?e5k2 ?e5kr ?e5k4 ?e5k5 ?e5kk ?e5c1 ?e5c2 ?e5c3 ?e5c4
    case e5G => assumption
    case e5k1 => k_is
    case e5k2 => k_is
    case e5kr => exact Room.dl (by assumption)
    case e5k4 => exact hb _ _ (by k_is) rfl
    case e5k5 => exact locs rfl
    case e5c1 => exact rfl
    case e5c2 => exact rfl
    case e5c3 => exact rfl
    case e5c4 => decide
    intro L h₁ F X T N
    (try dsimp only)
    dsimp only [keyV] at F ⊢
    k_steps
    rename Fr _ _ _ _ => F1
    unfold Hold
    refine len_list (stays_list F1.keep hl) ?_ ?_
    · rw [List.size_toArray]; omega
    rw [List.size_toArray]
    k_steps
    unfold Hold
    rename Fr _ _ _ _ => F2
    rename News _ _ _ _ => N2
    refine bs_while (n := vs.length) (fun i => !lexLt k (ks.getD i [])) F2 rfl rfl ?_ ?_ PassesOwn.never
    · intro lo hi t1 t2 u h tk hlo hhi F3 N3
      clear F2 N2
      k_steps
      (try dsimp only)
      rename Fr _ _ _ _ => F4
      refine gl_in fun gGl hGl => ?_
      obtain ⟨kv, hkv, hkk⟩ : ∃ kv, ks[(lo + hi) / 2]? = some kv ∧ ks.getD ((lo + hi) / 2) [] = kv := by
        have hlt : (lo + hi) / 2 < ks.length := by rw [← hk.length]; omega
        exact ⟨ks[(lo + hi) / 2], List.getElem?_eq_getElem hlt, by simp [List.getD, List.getElem?_eq_getElem hlt]⟩
      obtain ⟨v, hv, hvk⟩ := hk.get hkv
      refine hGl ?_
      clear hGl gGl
      unfold Hold
      refine item_listL (stays_list F4.keep hl) (x := v) ?_ ?_ ?_ ?_
      · rw [mid_eq]; omega
      · rw [mid_eq]; omega
      · rw [mid_eq, Int.toNat_natCast]; exact hv
      refine gl_in fun gGl hGl => ?_
      obtain ⟨ta, v₀, us, rfl, hta, hvk⟩ := hvk
      refine hGl ?_
      clear hGl gGl
      k_steps
      (try dsimp only)
      rename Fr _ _ _ _ => F5
      rename News _ _ _ _ => N5
      unfold Hold
      refine head_spec ((r.deeper _).less (by decide)) (G.keeps F5.keep) (hta.keeps F5.keep) ?_
      intro h6 tk6 k6
      have F4 := F5.keeps k6
      have N4 := N5.grown k6
      clear F5 N5
      k_steps
      (try rename Fr _ _ _ _ => F4)
      refine lt_key (r.deeper _).ul (KeyIs.keeps hx (tup_stays F4.keep)) (KeyIs.keeps hvk (tup_stays F4.keep)) ?_
      rw [← hkk]
      k_steps
      · exact bsEnd_dn (by assumption) (bnot_t (by assumption)) (by assumption) rfl rfl (fun z h1 h2 h3 => by simp only [bsM, if_neg h1, if_neg h2, if_neg h3])
      · exact bsEnd_up (by assumption) (bnot_f (by assumption)) (by assumption) rfl rfl (fun z h1 h2 h3 => by simp only [bsM, if_neg h1, if_neg h2, if_neg h3])
      · exact F3
    · intro hi t1 t2 u h tk F3 N3
      clear F2 N2
      k_steps
      (try dsimp only)
      rw [show bisL (fun i => !lexLt k (ks.getD i [])) vs.length 0 vs.length = br ks k by rw [br, hk.length]]
      exact ret _ _ _ F3.keep
end
end
section
/-- all but what W names stands -/
noncomputable def But (W : List Addr) (h h' : Heap) : Prop := ∀ b o, b ∉ W → h.get? b = some o → h'.get? b = some o
theorem But.of_fr {W : List Addr} {h h' : Heap} {L : Addr} {m : Str → Option Value} (F : Fr (hideAll h W) L h' m) : But W h h' := fun b o hb e => F.keep b o (hideAll_get W e hb)
theorem But.nil {h h' : Heap} (k : h.StaysIn h') : But [] h h' := fun b o _ e => k b o e
theorem But.more {W V : List Addr} {h h' : Heap} (x : But W h h') (s : ∀ a ∈ W, a ∈ V) : But V h h' := fun b o hb e => x b o (fun q => hb (s b q)) e
theorem But.trans {W : List Addr} {h h' h2 : Heap} (x : But W h h') (y : But W h' h2) : But W h h2 := fun b o hb e => y b o hb (x b o hb e)
theorem But.stays {W : List Addr} {g h h' : Heap} (x : But W h h') (k : g.StaysIn h) (n : ∀ a ∈ W, g.get? a = none) : g.StaysIn h' := fun b o e => x b o (fun q => by rw [n b q] at e; cases e) (k b o e)
theorem But.fr {W : List Addr} {g h h' : Heap} {L : Addr} {m : Str → Option Value} (x : But W h h') (F : Fr g L h m) (n : ∀ a ∈ W, g.get? a = none) (hL : L ∉ W) : Fr g L h' m := by
  obtain ⟨oL, es, ep, hLo, r⟩ := F.ns
  exact ⟨⟨oL, es, ep, x L oL hL hLo, r⟩, x.stays F.keep n, F.above⟩
/-- tuples stand -/
noncomputable def TupS (h h' : Heap) : Prop := ∀ a xs, IsTup h a xs → IsTup h' a xs
theorem TupS.of {h h' : Heap} (k : h.StaysIn h') : TupS h h' := fun _ _ x => x.keeps k
theorem TupS.trans {h h' h2 : Heap} (x : TupS h h') (y : TupS h' h2) : TupS h h2 := fun a xs t => y a xs (x a xs t)
noncomputable def Lists (W : List Addr) (h : Heap) : Prop := ∀ a ∈ W, ∃ o, h.get? a = some o ∧ o.cls = .type "list"
theorem TupS.but {W : List Addr} {h h' : Heap} (x : But W h h') (l : Lists W h) : TupS h h' := fun a xs ⟨o, ho, hc, r⟩ => ⟨o, x a o (fun q => by
  obtain ⟨o', ho', hc'⟩ := l a q
  rw [ho] at ho'; cases ho'
  rw [hc] at hc'; simp at hc') ho, hc, r⟩
theorem TupS.hide {W : List Addr} {h : Heap} (l : Lists W h) : TupS h (hideAll h W) := fun a xs ⟨o, ho, hc, r⟩ => ⟨o, hideAll_get W ho (fun q => by
  obtain ⟨o', ho', hc'⟩ := l a q
  rw [ho] at ho'; cases ho'
  rw [hc] at hc'; simp at hc'), hc, r⟩
theorem bisL_le (c : Nat → Bool) : ∀ (f lo hi n : Nat), lo ≤ n → hi ≤ n → bisL c f lo hi ≤ n
  | 0, lo, hi, n, h, _ => by rw [bisL]; exact h
  | f + 1, lo, hi, n, h, h' => by
    rw [bisL]
    split
    · split
      · exact bisL_le c f _ _ n (by omega) h'
      · exact bisL_le c f _ _ n h (by omega)
    · exact h
theorem bl_le (ks : List (List Int)) (k : List Int) : bl ks k ≤ ks.length := bisL_le _ _ _ _ _ (Nat.zero_le _) (Nat.le_refl _)
theorem br_le (ks : List (List Int)) (k : List Int) : br ks k ≤ ks.length := bisL_le _ _ _ _ _ (Nat.zero_le _) (Nat.le_refl _)
theorem fits_nat {k : Nat} (h : k < 2 ^ 63) : Builtin.List.listFitsIndex (k : Int) = true := fitsIndex_of (by omega) (by omega)
theorem kl_ins_at {vs : List Value} {k : Nat} {y : Value} (h : k ≤ vs.length) : kl_ins vs (k : Int) y = insAt vs k y := by
  unfold kl_ins insAt
  rw [if_neg (by omega), Int.toNat_natCast, Nat.min_eq_left h]
theorem line_of {n : Nat} (h : n < 2 ^ 20) : n ≤ sizeLine := by rw [sizeLine_eq]; omega
section
variable {prog : Program} {w : World} {A : Around} {s : Shared} {mg mb : Str → Option Value} {Q E : Value → Shared → Prop}
theorem bl_spec {a : Addr} {xv : Value} {key b : Bool} {vs : List Value} {ks : List (List Int)} {k : List Int} (r : Room A 4) (G : Gr w mg mb s.heap)
    (hl : s.heap.IsList a vs.toArray) (hk : All2 (ItemKey s.heap b key) vs ks) (hx : KeyIs s.heap b xv k) (hsz : vs.length < 2 ^ 20)
    (ret : ∀ h' tk t, s.heap.StaysIn h' → Q (.int (bl ks k : Nat) t) { s with heap := h', toks := tk }) : wpAny (model prog w) A (call (.ref 67) [.ref a, xv] (kwOf key)) Q E s := by
  refine wpAny_call (bl_gen (t := 324) (key := key) r G (fun o fd e d => ?_) hl hk hx (Nat.lt_trans hsz (by decide)) ret)
  have X := G.k
  have q := e.symm.trans (show (hd.heap_1 w.params).lookup 67 = some _ by k_is)
  cases q
  cases d
  cases key
  · exact bindsKwd (D := 60) rfl (X _ _ (by k_is)) (by exact rfl) (X _ _ (by k_is)) (by exact rfl) (by exact rfl) (by exact rfl)
  · exact binds_K X rfl (by k_is) rfl rfl rfl
theorem bl_spec4 {a : Addr} {xv : Value} {t : Tok} {key b : Bool} {vs : List Value} {ks : List (List Int)} {k : List Int} (r : Room A 4) (G : Gr w mg mb s.heap)
    (hl : s.heap.IsList a vs.toArray) (hk : All2 (ItemKey s.heap b key) vs ks) (hx : KeyIs s.heap b xv k) (hsz : vs.length < 2 ^ 20)
    (ret : ∀ h' tk t, s.heap.StaysIn h' → Q (.int (bl ks k : Nat) t) { s with heap := h', toks := tk }) : wpAny (model prog w) A (call (.ref 67) [.ref a, xv, .int 0 t, .none] (kwOf key)) Q E s := by
  refine wpAny_call (bl_gen (t := t) (key := key) r G (fun o fd e d => ?_) hl hk hx (Nat.lt_trans hsz (by decide)) ret)
  have X := G.k
  have q := e.symm.trans (show (hd.heap_1 w.params).lookup 67 = some _ by k_is)
  cases q
  cases d
  cases key
  · exact bindsKwd (D := 60) rfl (X _ _ (by k_is)) (by exact rfl) (X _ _ (by k_is)) (by exact rfl) (by exact rfl) (by exact rfl)
  · exact binds_K X rfl (by k_is) rfl rfl rfl
theorem br_spec {a : Addr} {xv : Value} {key b : Bool} {vs : List Value} {ks : List (List Int)} {k : List Int} (r : Room A 4) (G : Gr w mg mb s.heap)
    (hl : s.heap.IsList a vs.toArray) (hk : All2 (ItemKey s.heap b key) vs ks) (hx : KeyIs s.heap b xv k) (hsz : vs.length < 2 ^ 20)
    (ret : ∀ h' tk t, s.heap.StaysIn h' → Q (.int (br ks k : Nat) t) { s with heap := h', toks := tk }) : wpAny (model prog w) A (call (.ref 49) [.ref a, xv] (kwOf key)) Q E s := by
  refine wpAny_call (br_gen (t := 297) (key := key) r G (fun o fd e d => ?_) hl hk hx (Nat.lt_trans hsz (by decide)) ret)
  have X := G.k
  have q := e.symm.trans (show (hd.heap_1 w.params).lookup 49 = some _ by k_is)
  cases q
  cases d
  cases key
  · exact bindsKwd (D := 42) rfl (X _ _ (by k_is)) (by exact rfl) (X _ _ (by k_is)) (by exact rfl) (by exact rfl) (by exact rfl)
  · exact binds_K X rfl (by k_is) rfl rfl rfl
theorem br_spec4 {a : Addr} {xv : Value} {t : Tok} {key b : Bool} {vs : List Value} {ks : List (List Int)} {k : List Int} (r : Room A 4) (G : Gr w mg mb s.heap)
    (hl : s.heap.IsList a vs.toArray) (hk : All2 (ItemKey s.heap b key) vs ks) (hx : KeyIs s.heap b xv k) (hsz : vs.length < 2 ^ 20)
    (ret : ∀ h' tk t, s.heap.StaysIn h' → Q (.int (br ks k : Nat) t) { s with heap := h', toks := tk }) : wpAny (model prog w) A (call (.ref 49) [.ref a, xv, .int 0 t, .none] (kwOf key)) Q E s := by
  refine wpAny_call (br_gen (t := t) (key := key) r G (fun o fd e d => ?_) hl hk hx (Nat.lt_trans hsz (by decide)) ret)
  have X := G.k
  have q := e.symm.trans (show (hd.heap_1 w.params).lookup 49 = some _ by k_is)
  cases q
  cases d
  cases key
  · exact bindsKwd (D := 42) rfl (X _ _ (by k_is)) (by exact rfl) (X _ _ (by k_is)) (by exact rfl) (by exact rfl) (by exact rfl)
  · exact binds_K X rfl (by k_is) rfl rfl rfl
theorem il_spec {a : Addr} {xv : Value} {key b : Bool} {vs : List Value} {n : Nat} {ks : List (List Int)} {k : List Int} {h₀ : Heap} (r : Room A 7) (G : Gr w mg mb h₀) (kk : h₀.StaysIn s.heap) (h0 : h₀.get? a = none)
    (ha : s.heap.get? a = some (listOf vs.toArray n)) (hk : All2 (ItemKey s.heap b key) vs ks) (hx : ItemKey s.heap b key xv k) (hsz : vs.length < 2 ^ 20)
    (ret : ∀ h' tk, But [a] s.heap h' → h'.get? a = some (listOf (insAt vs (bl ks k) xv).toArray (n + 1)) → Q .none { s with heap := h', toks := tk }) : wpAny (model prog w) A (call (.ref 58) [.ref a, xv] (kwOf key)) Q E s := by
  have hW : ∀ b ∈ [a], h₀.get? b = none := fun b hb => by cases List.mem_singleton.mp hb; exact h0
  have X₀ := G.k.keeps kk
  cases key
  · refine wpAny_call ?_
    refine' enter [a] ?e2G ?e2kS ?e2kW ?e2k1 ?e2k2 ?e2kr ?e2k4 ?e2k5 ?e2kk ?e2c1 ?e2c2 ?e2c3 ?e2c4
    case e2G => assumption
    case e2kS => assumption
    case e2kW => assumption
    case e2k1 => k_is
    case e2k2 => k_is
    case e2kr => exact Room.dl (by assumption)
    case e2k4 => exact bindsKwd (D := 51) rfl (X₀ _ _ (by k_is)) (by exact rfl) (X₀ _ _ (by k_is)) (by exact rfl) (by exact rfl) (by exact rfl)
    case e2k5 => exact locs rfl
    case e2c1 => exact rfl
    case e2c2 => exact rfl
    case e2c3 => exact rfl
    case e2c4 => decide
    intro L h₁ F X T stW lt
    (try dsimp only)
    have hLa : a ≠ L := Nat.ne_of_lt (lt _ _ ha)
    have N : News (hideAll s.heap [a]) L h₁ [(a, listOf vs.toArray n)] := fun p hp => by
      cases List.mem_singleton.mp hp
      exact ⟨stW _ _ ha, hLa, hideAll_none [a] (.head _)⟩
    have tb : TupS s.heap (hideAll s.heap [a]) := TupS.hide (fun b hb => by cases List.mem_singleton.mp hb; exact ⟨_, ha, rfl⟩)
    dsimp only [keyV] at F ⊢
    k_steps
    rename Fr _ _ _ _ => F1
    rename News _ _ _ _ => N1
    unfold Hold
    refine bl_spec4 (key := false) (vs := vs) ((r.deeper _).less (by decide)) (Gr.keeps ⟨X, T⟩ F1.keep) ⟨_, (N1 _ (.head _)).1, rfl, _, rfl⟩ (hk.imp fun _ _ z => z.keeps (tb.trans (TupS.of F1.keep))) (hx.keeps (tb.trans (TupS.of F1.keep))) hsz ?_
    intro h5 tk5 t5 k5
    replace F1 := F1.keeps k5
    replace N1 := N1.grown k5
    k_steps
    (try dsimp only)
    rename Fr _ _ _ _ => F2
    rename News _ _ _ _ => N2
    refine kl_insert F2 N2 (fits_nat (by have := bl_le ks k; rw [← hk.length] at this; omega)) (kl_ins_at (by rw [hk.length]; exact bl_le ks k)) (Upd.head (List.forall_mem_nil _)) (line_of hsz) ?_
    intro h6 F6 N6
    clear F2 N2
    k_steps
    exact ret _ _ (But.of_fr F6) (N6 _ (.head _)).1
  · refine wpAny_call ?_
    refine' enter [a] ?e3G ?e3kS ?e3kW ?e3k1 ?e3k2 ?e3kr ?e3k4 ?e3k5 ?e3kk ?e3c1 ?e3c2 ?e3c3 ?e3c4
    case e3G => assumption
    case e3kS => assumption
    case e3kW => assumption
    case e3k1 => k_is
    case e3k2 => k_is
    case e3kr => exact Room.dl (by assumption)
    case e3k4 => exact binds_K X₀ rfl (by k_is) rfl rfl rfl
    case e3k5 => exact locs rfl
    case e3c1 => exact rfl
    case e3c2 => exact rfl
    case e3c3 => exact rfl
    case e3c4 => decide
    intro L h₁ F X T stW lt
    (try dsimp only)
    have hLa : a ≠ L := Nat.ne_of_lt (lt _ _ ha)
    have N : News (hideAll s.heap [a]) L h₁ [(a, listOf vs.toArray n)] := fun p hp => by
      cases List.mem_singleton.mp hp
      exact ⟨stW _ _ ha, hLa, hideAll_none [a] (.head _)⟩
    have tb : TupS s.heap (hideAll s.heap [a]) := TupS.hide (fun b hb => by cases List.mem_singleton.mp hb; exact ⟨_, ha, rfl⟩)
    dsimp only [keyV] at F ⊢
    k_steps
    rename Fr _ _ _ _ => F1
    rename News _ _ _ _ => N1
    obtain ⟨ta, v₀, us, rfl, hta, hxk⟩ := hx
    unfold Hold
    refine head_spec ((r.deeper _).less (by decide)) (Gr.keeps ⟨X, T⟩ F1.keep) ((tb.trans (TupS.of F1.keep)) _ _ hta) ?_
    intro h4 tk4 k4
    replace F1 := F1.keeps k4
    replace N1 := N1.grown k4
    k_steps
    (try rename Fr _ _ _ _ => F1)
    (try rename News _ _ _ _ => N1)
    unfold Hold
    refine bl_spec4 (key := true) (vs := vs) ((r.deeper _).less (by decide)) (Gr.keeps ⟨X, T⟩ F1.keep) ⟨_, (N1 _ (.head _)).1, rfl, _, rfl⟩ (hk.imp fun _ _ z => z.keeps (tb.trans (TupS.of F1.keep))) (hxk.keeps (tb.trans (TupS.of F1.keep))) hsz ?_
    intro h5 tk5 t5 k5
    replace F1 := F1.keeps k5
    replace N1 := N1.grown k5
    k_steps
    (try dsimp only)
    rename Fr _ _ _ _ => F2
    rename News _ _ _ _ => N2
    refine kl_insert F2 N2 (fits_nat (by have := bl_le ks k; rw [← hk.length] at this; omega)) (kl_ins_at (by rw [hk.length]; exact bl_le ks k)) (Upd.head (List.forall_mem_nil _)) (line_of hsz) ?_
    intro h6 F6 N6
    clear F2 N2
    k_steps
    exact ret _ _ (But.of_fr F6) (N6 _ (.head _)).1
theorem ir_spec {a : Addr} {xv : Value} {key b : Bool} {vs : List Value} {n : Nat} {ks : List (List Int)} {k : List Int} {h₀ : Heap} (r : Room A 7) (G : Gr w mg mb h₀) (kk : h₀.StaysIn s.heap) (h0 : h₀.get? a = none)
    (ha : s.heap.get? a = some (listOf vs.toArray n)) (hk : All2 (ItemKey s.heap b key) vs ks) (hx : ItemKey s.heap b key xv k) (hsz : vs.length < 2 ^ 20)
    (ret : ∀ h' tk, But [a] s.heap h' → h'.get? a = some (listOf (insAt vs (br ks k) xv).toArray (n + 1)) → Q .none { s with heap := h', toks := tk }) : wpAny (model prog w) A (call (.ref 40) [.ref a, xv] (kwOf key)) Q E s := by
  have hW : ∀ b ∈ [a], h₀.get? b = none := fun b hb => by cases List.mem_singleton.mp hb; exact h0
  have X₀ := G.k.keeps kk
  cases key
  · refine wpAny_call ?_
    refine' enter [a] ?e4G ?e4kS ?e4kW ?e4k1 ?e4k2 ?e4kr ?e4k4 ?e4k5 ?e4kk ?e4c1 ?e4c2 ?e4c3 ?e4c4
    case e4G => assumption
    case e4kS => assumption
    case e4kW => assumption
    case e4k1 => k_is
    case e4k2 => k_is
    case e4kr => exact Room.dl (by assumption)
    case e4k4 => exact bindsKwd (D := 33) rfl (X₀ _ _ (by k_is)) (by exact rfl) (X₀ _ _ (by k_is)) (by exact rfl) (by exact rfl) (by exact rfl)
    case e4k5 => exact locs rfl
    case e4c1 => exact rfl
    case e4c2 => exact rfl
    case e4c3 => exact rfl
    case e4c4 => decide
    intro L h₁ F X T stW lt
    (try dsimp only)
    have hLa : a ≠ L := Nat.ne_of_lt (lt _ _ ha)
    have N : News (hideAll s.heap [a]) L h₁ [(a, listOf vs.toArray n)] := fun p hp => by
      cases List.mem_singleton.mp hp
      exact ⟨stW _ _ ha, hLa, hideAll_none [a] (.head _)⟩
    have tb : TupS s.heap (hideAll s.heap [a]) := TupS.hide (fun b hb => by cases List.mem_singleton.mp hb; exact ⟨_, ha, rfl⟩)
    dsimp only [keyV] at F ⊢
    k_steps
    rename Fr _ _ _ _ => F1
    rename News _ _ _ _ => N1
    unfold Hold
    refine br_spec4 (key := false) (vs := vs) ((r.deeper _).less (by decide)) (Gr.keeps ⟨X, T⟩ F1.keep) ⟨_, (N1 _ (.head _)).1, rfl, _, rfl⟩ (hk.imp fun _ _ z => z.keeps (tb.trans (TupS.of F1.keep))) (hx.keeps (tb.trans (TupS.of F1.keep))) hsz ?_
    intro h5 tk5 t5 k5
    replace F1 := F1.keeps k5
    replace N1 := N1.grown k5
    k_steps
    (try dsimp only)
    rename Fr _ _ _ _ => F2
    rename News _ _ _ _ => N2
    refine kl_insert F2 N2 (fits_nat (by have := br_le ks k; rw [← hk.length] at this; omega)) (kl_ins_at (by rw [hk.length]; exact br_le ks k)) (Upd.head (List.forall_mem_nil _)) (line_of hsz) ?_
    intro h6 F6 N6
    clear F2 N2
    k_steps
    exact ret _ _ (But.of_fr F6) (N6 _ (.head _)).1
  · refine wpAny_call ?_
    refine' enter [a] ?e5G ?e5kS ?e5kW ?e5k1 ?e5k2 ?e5kr ?e5k4 ?e5k5 ?e5kk ?e5c1 ?e5c2 ?e5c3 ?e5c4
    case e5G => assumption
    case e5kS => assumption
    case e5kW => assumption
    case e5k1 => k_is
    case e5k2 => k_is
    case e5kr => exact Room.dl (by assumption)
    case e5k4 => exact binds_K X₀ rfl (by k_is) rfl rfl rfl
    case e5k5 => exact locs rfl
    case e5c1 => exact rfl
    case e5c2 => exact rfl
    case e5c3 => exact rfl
    case e5c4 => decide
    intro L h₁ F X T stW lt
    (try dsimp only)
    have hLa : a ≠ L := Nat.ne_of_lt (lt _ _ ha)
    have N : News (hideAll s.heap [a]) L h₁ [(a, listOf vs.toArray n)] := fun p hp => by
      cases List.mem_singleton.mp hp
      exact ⟨stW _ _ ha, hLa, hideAll_none [a] (.head _)⟩
    have tb : TupS s.heap (hideAll s.heap [a]) := TupS.hide (fun b hb => by cases List.mem_singleton.mp hb; exact ⟨_, ha, rfl⟩)
    dsimp only [keyV] at F ⊢
    k_steps
    rename Fr _ _ _ _ => F1
    rename News _ _ _ _ => N1
    obtain ⟨ta, v₀, us, rfl, hta, hxk⟩ := hx
    unfold Hold
    refine head_spec ((r.deeper _).less (by decide)) (Gr.keeps ⟨X, T⟩ F1.keep) ((tb.trans (TupS.of F1.keep)) _ _ hta) ?_
    intro h4 tk4 k4
    replace F1 := F1.keeps k4
    replace N1 := N1.grown k4
    k_steps
    (try rename Fr _ _ _ _ => F1)
    (try rename News _ _ _ _ => N1)
    unfold Hold
    refine br_spec4 (key := true) (vs := vs) ((r.deeper _).less (by decide)) (Gr.keeps ⟨X, T⟩ F1.keep) ⟨_, (N1 _ (.head _)).1, rfl, _, rfl⟩ (hk.imp fun _ _ z => z.keeps (tb.trans (TupS.of F1.keep))) (hxk.keeps (tb.trans (TupS.of F1.keep))) hsz ?_
    intro h5 tk5 t5 k5
    replace F1 := F1.keeps k5
    replace N1 := N1.grown k5
    k_steps
    (try dsimp only)
    rename Fr _ _ _ _ => F2
    rename News _ _ _ _ => N2
    refine kl_insert F2 N2 (fits_nat (by have := br_le ks k; rw [← hk.length] at this; omega)) (kl_ins_at (by rw [hk.length]; exact br_le ks k)) (Upd.head (List.forall_mem_nil _)) (line_of hsz) ?_
    intro h6 F6 N6
    clear F2 N2
    k_steps
    exact ret _ _ (But.of_fr F6) (N6 _ (.head _)).1
end
end
section
noncomputable def nm (n : Nat) : Str := match n with
  | 0 => Str.ofString "a"
  | 1 => Str.ofString "A"
  | 2 => Str.ofString "b"
  | _ => Str.ofString "B"
noncomputable def tx (t : Nat) : Str := if t = 0 then Str.ofString "" else Str.ofString (toString (t : Int))
noncomputable def RowIs {α : Type} (h : Heap) (a : Addr) (R : Value → α → Prop) (xs : List α) : Prop := ∃ vs n, h.get? a = some (listOf vs.toArray n) ∧ All2 R vs xs ∧ vs.length < 2 ^ 20
noncomputable def LayV (h : Heap) (v : Value) (l : Lay) : Prop := (∃ a pv t1 t2, v = .ref a ∧ IsTup h a [pv, .str (nm l.name) t1, .str (tx l.text) t2].toArray ∧ KeyIs h true pv l.place) ∧ l.name < 4 ∧ l.text < 14
structure KAd where
  t : Nat
  c : Nat
  l : Nat
  f : Nat
  q : Nat
structure KeptIs (h : Heap) (ka : KAd) (k : Kept) : Prop where
  tup : IsTup h ka.t [.ref ka.c, .ref ka.l, .ref ka.f, .ref ka.q].toArray
  cuts : RowIs h ka.c (KeyIs h true) k.cuts
  lays : RowIs h ka.l (LayV h) k.lays
  firsts : RowIs h ka.f (KeyIs h true) k.firsts
  alls : RowIs h ka.q (KeyIs h true) k.alls
theorem LayV.keeps {h h' : Heap} {v : Value} {l : Lay} (x : LayV h v l) (t : TupS h h') : LayV h' v l := by
  obtain ⟨⟨a, pv, t1, t2, e, ht, hk⟩, b⟩ := x
  exact ⟨⟨a, pv, t1, t2, e, t _ _ ht, hk.keeps t⟩, b⟩
theorem LayV.key {h : Heap} {v : Value} {l : Lay} (x : LayV h v l) : ItemKey h true true v l.place := by
  obtain ⟨⟨a, pv, t1, t2, e, ht, hk⟩, -⟩ := x
  exact ⟨a, pv, _, e, ht, hk⟩
theorem pick_ab (vs : List Value) (a b : Nat) : slicePick vs.toArray (some (a : Int)) (some (b : Int)) none = ((vs.take b).drop a).toArray := by
  have e : sliceBounds (some (a : Int)) (some (b : Int)) none vs.toArray.size = (((min a vs.toArray.size : Nat) : Int), ((min b vs.toArray.size : Nat) : Int), 1) := by
    simp only [sliceBounds, Option.getD_none, show (1 : Int) > 0 by decide, if_true, if_neg (show ¬ ((a : Int) < 0) by omega), if_neg (show ¬ ((b : Int) < 0) by omega)]
    congr 1
    · omega
    · congr 1
      omega
  rw [kmk_pick_nat _ e, List.size_toArray, List.drop_take]
  congr 1
  show (vs.drop _).take _ = _
  rw [kmk_drop_min]
  by_cases h : b ≤ vs.length
  · rw [Nat.min_eq_left h]
    by_cases h2 : a ≤ vs.length
    · rw [Nat.min_eq_left h2]
    · rw [List.drop_of_length_le (by omega)]; simp
  · rw [List.take_of_length_le (by rw [List.length_drop]; omega), List.take_of_length_le (by rw [List.length_drop]; omega)]
theorem pick_to (vs : List Value) (b : Nat) : slicePick vs.toArray none (some (b : Int)) none = (vs.take b).toArray := by
  have e : sliceBounds none (some (b : Int)) none vs.toArray.size = (((0 : Nat) : Int), ((min b vs.toArray.size : Nat) : Int), 1) := by
    simp only [sliceBounds, Option.getD_none, show (1 : Int) > 0 by decide, if_true, if_neg (show ¬ ((b : Int) < 0) by omega)]
    congr 1
    congr 1
    omega
  rw [kmk_pick_nat _ e, List.size_toArray]
  congr 1
  show (vs.drop 0).take (min b vs.length - 0) = _
  rw [List.drop_zero, Nat.sub_zero, kmk_take_min]
theorem pick_last (vs : List Value) : slicePick vs.toArray (some (-1)) none none = (vs.drop (vs.length - 1)).toArray := by
  have e : sliceBounds (some (-1)) none none vs.toArray.size = (((vs.toArray.size - 1 : Nat) : Int), ((vs.toArray.size : Nat) : Int), 1) := by
    simp only [sliceBounds, Option.getD_none, show (1 : Int) > 0 by decide, if_true, if_pos (show (-1 : Int) < 0 by decide)]
    congr 1
    omega
  rw [kmk_pick_nat _ e, List.size_toArray]
  congr 1
  show (vs.drop (vs.length - 1)).take (vs.length - (vs.length - 1)) = _
  rw [List.take_of_length_le (by rw [List.length_drop]; omega)]
theorem pick_all (vs : List Value) : slicePick vs.toArray none none none = vs.toArray := by
  have e : sliceBounds none none none vs.toArray.size = (((0 : Nat) : Int), ((vs.toArray.size : Nat) : Int), 1) := by
    simp only [sliceBounds, Option.getD_none, show (1 : Int) > 0 by decide, if_true]
    congr 1
  rw [kmk_pick_nat _ e, List.size_toArray]
  congr 1
  show (vs.drop 0).take (vs.length - 0) = _
  rw [List.drop_zero, Nat.sub_zero, List.take_of_length_le (Nat.le_refl _)]
theorem size_line {vs : List Value} (h : vs.length < 2 ^ 20) : vs.toArray.size ≤ sizeLine := by rw [List.size_toArray]; exact line_of h
theorem getD_of {α : Type} {xs : List α} {i : Nat} {d : α} (h : i < xs.length) : xs[i]? = some (xs.getD i d) := by
  rw [List.getElem?_eq_getElem h]; simp [List.getD, List.getElem?_eq_getElem h]
section
variable {prog : Program} {w : World} {A : Around} {s : Shared} {mg mb : Str → Option Value} {Q E : Value → Shared → Prop}
theorem standing_spec {ka : KAd} {k : Kept} {pv : Value} {p : List Int} {h₀ : Heap} (r : Room A 6) (G : Gr w mg mb h₀) (kk : h₀.StaysIn s.heap) (hk : KeptIs h₀ ka k) (hp : KeyIs s.heap true pv p)
    (ret : ∀ h' tk D vs n, s.heap.StaysIn h' → s.heap.get? D = none → h'.get? D = some (listOf vs.toArray n) → All2 (LayV h₀) vs (standing k p) → vs.length < 2 ^ 20 → Q (.ref D) { s with heap := h', toks := tk }) :
    wpAny (model prog w) A (call (.ref 243) [.ref ka.t, pv]) Q E s := by
  obtain ⟨hnd, dpA, frA, gdA, unA⟩ := A; obtain rfl : hnd = none := r.handled
  have hT := TupS.of kk _ _ hk.tup
  replace G := G.keeps kk
  obtain ⟨vc, nc, hc, hca, hcn⟩ := hk.cuts
  obtain ⟨vl, nl, hl, hla0, hln⟩ := hk.lays
  replace hc := kk _ _ hc
  replace hl := kk _ _ hl
  replace hca := hca.imp fun _ _ z => KeyIs.keeps z (TupS.of kk)
  have hla := hla0.imp fun _ _ z => z.keeps (TupS.of kk)
  refine wpAny_call ?_
  refine' enter0 (binds := [(Str.ofString "kept", .ref ka.t), (Str.ofString "place", pv)]) ?e2G ?e2k1 ?e2k2 ?e2kr ?e2k4 ?e2k5 ?e2kk ?e2c1 ?e2c2 ?e2c3 ?e2c4
  case e2G => assumption
  case e2k1 => k_is
  case e2k2 => k_is
  case e2kr => exact Room.dl (by assumption)
  case e2k4 => exact BindsTo.of_eq rfl
  case e2k5 => exact locs rfl
  case e2c1 => exact rfl
  case e2c2 => exact rfl
  case e2c3 => exact rfl
  case e2c4 => decide
  intro L h₁ F X T N
  (try dsimp only)
  k_steps
  rename Fr _ _ _ _ => F1
  rename News _ _ _ _ => N1
  dsimp only [Hold]
  refine bl_spec (key := false) (b := true) (vs := vc) (ks := k.cuts) (k := p) ((r.deeper _).less (by decide)) (Gr.keeps ⟨X, T⟩ F1.keep) ⟨_, F1.keep _ _ hc, rfl, _, rfl⟩ (hca.imp fun _ _ z => KeyIs.keeps z (TupS.of F1.keep)) (hp.keeps (TupS.of F1.keep)) hcn ?_
  intro h5 tk5 t5 k5
  replace F1 := F1.keeps k5
  replace N1 := N1.grown k5
  k_steps
  · rename Fr _ _ _ _ => F1
    rename News _ _ _ _ => N1
    rename 0 < _ => hpos
    have hkl : bl k.cuts p ≤ k.cuts.length := bl_le _ _
    have hpos' : 0 < bl k.cuts p := by omega
    obtain ⟨cv, hcv, hcvk⟩ := hca.get (getD_of (d := []) (show bl k.cuts p - 1 < k.cuts.length by omega))
    (try dsimp only)
    dsimp only [Hold]
    refine item_listL (stays_list F1.keep ⟨_, hc, rfl, _, rfl⟩) (x := cv) (by omega) (by have := hca.length; omega) (by rw [show ((bl k.cuts p : Int) - 1).toNat = bl k.cuts p - 1 by omega]; exact hcv) ?_
    k_steps
    rename Fr _ _ _ _ => F1
    rename News _ _ _ _ => N1
    (try dsimp only)
    dsimp only [Hold]
    refine bl_spec (key := true) (b := true) (vs := vl) (ks := places k.lays) (k := k.cuts.getD (bl k.cuts p - 1) []) ((r.deeper _).less (by decide)) (Gr.keeps ⟨X, T⟩ F1.keep) ⟨_, F1.keep _ _ hl, rfl, _, rfl⟩ ((hla.map Lay.place fun _ _ z => z.key).imp fun _ _ z => z.keeps (TupS.of F1.keep)) (hcvk.keeps (TupS.of F1.keep)) hln ?_
    intro h6 tk6 t6 k6
    replace F1 := F1.keeps k6
    replace N1 := N1.grown k6
    k_steps
    rename Fr _ _ _ _ => F1
    rename News _ _ _ _ => N1
    (try dsimp only)
    dsimp only [Hold]
    refine bl_spec (key := true) (b := true) (vs := vl) (ks := places k.lays) (k := p) ((r.deeper _).less (by decide)) (Gr.keeps ⟨X, T⟩ F1.keep) ⟨_, F1.keep _ _ hl, rfl, _, rfl⟩ ((hla.map Lay.place fun _ _ z => z.key).imp fun _ _ z => z.keeps (TupS.of F1.keep)) (hp.keeps (TupS.of F1.keep)) hln ?_
    intro h7 tk7 t7 k7
    replace F1 := F1.keeps k7
    replace N1 := N1.grown k7
    dsimp only
    k_steps
    rename Fr _ _ _ _ => F1
    rename News _ _ _ _ => N1
    dsimp only [Hold]
    refine kmk_slice (s := ⟨_, _, _, _, _⟩) F1 N1 (stays_list F1.keep ⟨_, hl, rfl, _, rfl⟩) (.int _ _) (.int _ _) ?_ (by with_unfolding_all rfl) (by intro _; with_unfolding_all rfl) (size_line hln)
    intro D h8 F8 N8 _
    k_steps
    rw [pick_ab] at N8
    refine ret _ _ D _ _ F8.keep (N8 _ (.head _)).2.2 (N8 _ (.head _)).1 ?_ (by rw [List.length_drop, List.length_take]; omega)
    unfold standing
    dsimp only
    rw [if_neg (by omega)]
    exact (hla0.take _).drop _
  · rename Fr _ _ _ _ => F1
    rename News _ _ _ _ => N1
    dsimp only [Hold]
    refine bl_spec (key := true) (b := true) (vs := vl) (ks := places k.lays) (k := p) ((r.deeper _).less (by decide)) (Gr.keeps ⟨X, T⟩ F1.keep) ⟨_, F1.keep _ _ hl, rfl, _, rfl⟩ ((hla.map Lay.place fun _ _ z => z.key).imp fun _ _ z => z.keeps (TupS.of F1.keep)) (hp.keeps (TupS.of F1.keep)) hln ?_
    intro h7 tk7 t7 k7
    replace F1 := F1.keeps k7
    replace N1 := N1.grown k7
    dsimp only
    k_steps
    rename Fr _ _ _ _ => F1
    rename News _ _ _ _ => N1
    dsimp only [Hold]
    refine kmk_slice (s := ⟨_, _, _, _, _⟩) F1 N1 (stays_list F1.keep ⟨_, hl, rfl, _, rfl⟩) (.int _ _) (.int _ _) ?_ (by with_unfolding_all rfl) (by intro _; with_unfolding_all rfl) (size_line hln)
    intro D h8 F8 N8 _
    k_steps
    rw [show slicePick vl.toArray (some 0) (some ↑(bl (places k.lays) p)) none = ((vl.take (bl (places k.lays) p)).drop 0).toArray from pick_ab vl 0 _] at N8
    refine ret _ _ D _ _ F8.keep (N8 _ (.head _)).2.2 (N8 _ (.head _)).1 ?_ (by rw [List.length_drop, List.length_take]; omega)
    unfold standing
    dsimp only
    rename ¬ _ => hz
    rw [if_pos (by omega)]
    exact (hla0.take _).drop _
end
end
section
theorem All2.keys {h h' : Heap} {vs : List Value} {ks : List (List Int)} (x : All2 (KeyIs h true) vs ks) (t : TupS h h') : All2 (ItemKey h' true false) vs ks := x.imp fun _ _ z => KeyIs.keeps z t
theorem All2.lkeys {h h' : Heap} {vs : List Value} {ls : List Lay} (x : All2 (LayV h) vs ls) (t : TupS h h') : All2 (ItemKey h' true true) vs (places ls) := (x.map Lay.place fun _ _ z => z.key).imp fun _ _ z => z.keeps t
section
variable {prog : Program} {w : World} {A : Around} {s : Shared} {mg mb : Str → Option Value} {Q E : Value → Shared → Prop}
theorem asked_spec {a c : Addr} {asks cuts : List (List Int)} {pv : Value} {p : List Int} (r : Room A 6) (G : Gr w mg mb s.heap) (ha : RowIs s.heap a (KeyIs s.heap true) asks) (hc : RowIs s.heap c (KeyIs s.heap true) cuts) (hp : KeyIs s.heap true pv p)
    (ret : ∀ h' tk, s.heap.StaysIn h' → Q (.bool (asked asks cuts p)) { s with heap := h', toks := tk }) :
    wpAny (model prog w) A (call (.ref 250) [.ref a, .ref c, pv]) Q E s := by
  obtain ⟨hnd, dpA, frA, gdA, unA⟩ := A; obtain rfl : hnd = none := r.handled
  obtain ⟨va, na, hva, haa, han⟩ := ha
  obtain ⟨vc, nc, hvc, hca, hcn⟩ := hc
  refine wpAny_call ?_
  refine' enter0 (binds := [(Str.ofString "asks", .ref a), (Str.ofString "cuts", .ref c), (Str.ofString "place", pv)]) ?e2G ?e2k1 ?e2k2 ?e2kr ?e2k4 ?e2k5 ?e2kk ?e2c1 ?e2c2 ?e2c3 ?e2c4
  case e2G => assumption
  case e2k1 => k_is
  case e2k2 => k_is
  case e2kr => exact Room.dl (by assumption)
  case e2k4 => exact BindsTo.of_eq rfl
  case e2k5 => exact locs rfl
  case e2c1 => exact rfl
  case e2c2 => exact rfl
  case e2c3 => exact rfl
  case e2c4 => decide
  intro L h₁ F X T N
  (try dsimp only)
  k_steps
  rename Fr _ _ _ _ => F1
  rename News _ _ _ _ => N1
  dsimp only [Hold]
  refine br_spec (b := true) (key := false) (vs := vc) (ks := cuts) (k := p) ((r.deeper _).less (by decide)) (Gr.keeps ⟨X, T⟩ F1.keep) (⟨_, F1.keep _ _ hvc, rfl, _, rfl⟩) (hca.keys (TupS.of F1.keep)) (hp.keeps (TupS.of F1.keep)) (hcn) ?_
  intro h23 tk23 t23 k23
  replace F1 := F1.keeps k23
  replace N1 := N1.grown k23
  dsimp only
  k_steps
  rename Fr _ _ _ _ => F1
  dsimp only [Hold]
  refine len_list (⟨_, F1.keep _ _ hvc, rfl, _, rfl⟩) (by rw [List.size_toArray]; omega) ?_
  rw [List.size_toArray]
  k_steps
  · have hlt : br cuts p < cuts.length := by have := hca.length; omega
    obtain ⟨cv, hcv, hcvk⟩ := hca.get (getD_of (d := []) hlt)
    rename Fr _ _ _ _ => F1
    rename News _ _ _ _ => N1
    dsimp only [Hold]
    refine item_listL (⟨_, F1.keep _ _ hvc, rfl, _, rfl⟩) (x := cv) (by omega) (by omega) (by rw [Int.toNat_natCast]; exact hcv) ?_
    k_steps
    rename Fr _ _ _ _ => F1
    rename News _ _ _ _ => N1
    dsimp only [Hold]
    refine bl_spec (b := true) (key := false) (vs := va) (ks := asks) (k := cuts.getD (br cuts p) []) ((r.deeper _).less (by decide)) (Gr.keeps ⟨X, T⟩ F1.keep) (⟨_, F1.keep _ _ hva, rfl, _, rfl⟩) (haa.keys (TupS.of F1.keep)) (hcvk.keeps (TupS.of F1.keep)) (han) ?_
    intro h24 tk24 t24 k24
    replace F1 := F1.keeps k24
    replace N1 := N1.grown k24
    dsimp only
    k_steps
    rename Fr _ _ _ _ => F1
    rename News _ _ _ _ => N1
    dsimp only [Hold]
    refine bl_spec (b := true) (key := false) (vs := va) (ks := asks) (k := p) ((r.deeper _).less (by decide)) (Gr.keeps ⟨X, T⟩ F1.keep) (⟨_, F1.keep _ _ hva, rfl, _, rfl⟩) (haa.keys (TupS.of F1.keep)) (hp.keeps (TupS.of F1.keep)) (han) ?_
    intro h25 tk25 t25 k25
    replace F1 := F1.keeps k25
    replace N1 := N1.grown k25
    dsimp only
    k_steps
    rw [show decide ((bl asks p : Int) < (bl asks (cuts.getD (br cuts p) []) : Int)) = asked asks cuts p by
      unfold asked; dsimp only; rw [if_pos hlt]; exact decide_eq_decide.mpr (by omega)]
    exact ret _ _ F1.keep
  · rename Fr _ _ _ _ => F1
    dsimp only [Hold]
    refine len_list (⟨_, F1.keep _ _ hva, rfl, _, rfl⟩) (by rw [List.size_toArray]; omega) ?_
    rw [List.size_toArray]
    k_steps
    rename Fr _ _ _ _ => F1
    rename News _ _ _ _ => N1
    dsimp only [Hold]
    refine bl_spec (b := true) (key := false) (vs := va) (ks := asks) (k := p) ((r.deeper _).less (by decide)) (Gr.keeps ⟨X, T⟩ F1.keep) (⟨_, F1.keep _ _ hva, rfl, _, rfl⟩) (haa.keys (TupS.of F1.keep)) (hp.keeps (TupS.of F1.keep)) (han) ?_
    intro h26 tk26 t26 k26
    replace F1 := F1.keeps k26
    replace N1 := N1.grown k26
    dsimp only
    k_steps
    rename ¬ _ => hnl
    rw [show decide ((bl asks p : Int) < (va.length : Int)) = asked asks cuts p by
      unfold asked; dsimp only; rw [if_neg (by have := hca.length; omega)]; exact decide_eq_decide.mpr (by have := haa.length; omega)]
    exact ret _ _ F1.keep
end
end
section
noncomputable def TxV (v : Value) (t : Nat) : Prop := t < 14 ∧ ∃ k, v = .str (tx t) k
/-- a call's name, other name, turn and deed are in bounds -/
structure Good (c : Cl) : Prop where
  name : c.name < 4
  other : c.other < 4
  turn : c.turn < 14
  deed : c.deed < 7
noncomputable def TextsIs (h : Heap) (a : Addr) (ts : List Nat) : Prop := ∃ vs n, h.get? a = some (listOf vs.toArray n) ∧ All2 TxV vs ts ∧ vs.length < 2 ^ 20
noncomputable def CallV (h : Heap) (v : Value) (c : Cl) : Prop := ∃ a t1 t2 t3 t4 t5 t6 t7, v = .ref a ∧
  IsTup h a [.int c.hour t1, .int c.mark t2, .int (c.turn : Nat) t3, .int (c.deed : Nat) t4, .str (nm c.name) t5, .str (nm c.other) t6, .str (tx c.turn) t7].toArray
theorem CallV.keeps {h h' : Heap} {v : Value} {c : Cl} (x : CallV h v c) (t : TupS h h') : CallV h' v c := by
  refine gl_in fun gGl hGl => ?_
  obtain ⟨a, t1, t2, t3, t4, t5, t6, t7, e, ht⟩ := x
  refine hGl ?_
  clear hGl gGl
  exact ⟨a, t1, t2, t3, t4, t5, t6, t7, e, t _ _ ht⟩
structure RAd where
  d : Nat
  a : KAd
  b : KAd
noncomputable def RAd.get (ra : RAd) (g : Nat) : KAd := if g = 0 then ra.a else ra.b
noncomputable def KAd.lists (k : KAd) : List Nat := [k.c, k.l, k.f, k.q]
noncomputable def RAd.lists (ra : RAd) : List Nat := ra.a.lists ++ ra.b.lists
noncomputable def gn (g : Nat) : Str := if g = 0 then Str.ofString "a" else Str.ofString "b"
theorem lower_nm (n : Nat) : Txt.lower (nm n) = gn (grp n) := by
  match n with
  | 0 => decide +kernel
  | 1 => decide +kernel
  | 2 => decide +kernel
  | n + 3 =>
    have : grp (n + 3) ≠ 0 := by unfold grp; omega
    show Txt.lower (Str.ofString "B") = _
    unfold gn
    rw [if_neg this]
    decide +kernel
theorem nm_short (n : Nat) : PySem.Builtin.Str.tooLong (Txt.lower (nm n)).length = false := by
  rw [lower_nm]; unfold gn; split <;> decide +kernel
noncomputable def RowDict (P : Params) (h : Heap) (ra : RAd) : Prop := ∃ t1 t2 n, h.get? ra.d = some (dictOf [⟨PyData.keyHash P (Str.ofString "a"), .str (Str.ofString "a") t1, .ref ra.a.t⟩, ⟨PyData.keyHash P (Str.ofString "b"), .str (Str.ofString "b") t2, .ref ra.b.t⟩] n)
theorem RowDict.keeps {P : Params} {h h' : Heap} {ra : RAd} (x : RowDict P h ra) (k : h.StaysIn h') : RowDict P h' ra := let ⟨t1, t2, n, e⟩ := x; ⟨t1, t2, n, k _ _ e⟩
noncomputable def Small (r : Rows) : Prop := ∀ g, g < 2 → (r.get g).cuts.length < 1000 ∧ (r.get g).lays.length < 1000 ∧ (r.get g).firsts.length < 1000 ∧ (r.get g).alls.length < 1000
structure RowsIs (P : Params) (h : Heap) (ra : RAd) (r : Rows) : Prop where
  dict : RowDict P h ra
  kept : ∀ g, g < 2 → KeptIs h (ra.get g) (r.get g)
  apart : ra.lists.Nodup
theorem RAd.apart {ra : RAd} (h : ra.lists.Nodup) {g g' : Nat} (hg : g < 2) (hg' : g' < 2) :
    ((ra.get g).c = (ra.get g').c → g = g') ∧ ((ra.get g).l = (ra.get g').l → g = g') ∧ ((ra.get g).f = (ra.get g').f → g = g') ∧ ((ra.get g).q = (ra.get g').q → g = g') ∧
    (ra.get g).c ≠ (ra.get g').l ∧ (ra.get g).c ≠ (ra.get g').f ∧ (ra.get g).c ≠ (ra.get g').q ∧ (ra.get g).l ≠ (ra.get g').f ∧ (ra.get g).l ≠ (ra.get g').q ∧ (ra.get g).f ≠ (ra.get g').q := by
  obtain ⟨d, ⟨at', ac, al, af, aq⟩, ⟨bt, bc, bl', bf, bq⟩⟩ := ra
  simp only [RAd.lists, KAd.lists, List.cons_append, List.nil_append, List.nodup_cons, List.mem_cons, List.not_mem_nil, or_false, not_or, not_false_eq_true, List.nodup_nil, and_true] at h
  refine gl_in fun gGl hGl => ?_
  obtain ⟨⟨a1, a2, a3, a4, a5, a6, a7⟩, ⟨b1, b2, b3, b4, b5, b6⟩, ⟨c1, c2, c3, c4, c5⟩, ⟨d1, d2, d3, d4⟩, ⟨e1, e2, e3⟩, ⟨f1, f2⟩, g1⟩ := h
  refine hGl ?_
  clear hGl gGl
  have z1 : g = 0 ∨ g = 1 := by omega
  have z2 : g' = 0 ∨ g' = 1 := by omega
  rcases z1 with rfl | rfl <;> rcases z2 with rfl | rfl <;> (refine ⟨fun e => ?_, fun e => ?_, fun e => ?_, fun e => ?_, fun e => ?_, fun e => ?_, fun e => ?_, fun e => ?_, fun e => ?_, fun e => ?_⟩ <;> first | rfl | exact absurd e (by first | assumption | exact Ne.symm (by assumption)))
theorem RAd.get_mem {ra : RAd} {g : Nat} : ∀ x ∈ (ra.get g).lists, x ∈ ra.lists := by
  intro x hx
  unfold RAd.get at hx
  split at hx
  · exact List.mem_append_left _ hx
  · exact List.mem_append_right _ hx
theorem RowIs.but {α : Type} {h h' : Heap} {a : Addr} {R R' : Value → α → Prop} {xs : List α} {W : List Addr} (x : RowIs h a R xs) (hb : But W h h') (ha : a ∉ W) (hR : ∀ v y, R v y → R' v y) : RowIs h' a R' xs := by
  refine gl_in fun gGl hGl => ?_
  obtain ⟨vs, n, e, hx, hl⟩ := x
  refine hGl ?_
  clear hGl gGl
  exact ⟨vs, n, hb _ _ ha e, hx.imp hR, hl⟩
theorem RowsIs.lists {P : Params} {h : Heap} {ra : RAd} {r : Rows} (x : RowsIs P h ra r) : Lists ra.lists h := by
  have hk : ∀ g, g < 2 → Lists (ra.get g).lists h := fun g hg a ha => by
    have k := x.kept g hg
    simp only [KAd.lists, List.mem_cons, List.not_mem_nil, or_false] at ha
    rcases ha with rfl | rfl | rfl | rfl
    · obtain ⟨vs, n, e, _⟩ := k.cuts; exact ⟨_, e, rfl⟩
    · obtain ⟨vs, n, e, _⟩ := k.lays; exact ⟨_, e, rfl⟩
    · obtain ⟨vs, n, e, _⟩ := k.firsts; exact ⟨_, e, rfl⟩
    · obtain ⟨vs, n, e, _⟩ := k.alls; exact ⟨_, e, rfl⟩
  intro a ha
  rcases List.mem_append.mp ha with ha | ha
  · exact hk 0 (by omega) a ha
  · exact hk 1 (by omega) a ha
theorem Lists.sub {W V : List Addr} {h : Heap} (x : Lists V h) (s : ∀ a ∈ W, a ∈ V) : Lists W h := fun a ha => x a (s a ha)
theorem rows_rebuild {P : Params} {h h' : Heap} {ra : RAd} {r0 r1 : Rows} {W : List Addr} (hr : RowsIs P h ra r0) (hb : But W h h') (hW : ∀ a ∈ W, a ∈ ra.lists)
    (hc : ∀ g, g < 2 → ((ra.get g).c ∉ W ∧ (r1.get g).cuts = (r0.get g).cuts) ∨ RowIs h' (ra.get g).c (KeyIs h' true) (r1.get g).cuts)
    (hl : ∀ g, g < 2 → ((ra.get g).l ∉ W ∧ (r1.get g).lays = (r0.get g).lays) ∨ RowIs h' (ra.get g).l (LayV h') (r1.get g).lays)
    (hf : ∀ g, g < 2 → ((ra.get g).f ∉ W ∧ (r1.get g).firsts = (r0.get g).firsts) ∨ RowIs h' (ra.get g).f (KeyIs h' true) (r1.get g).firsts)
    (hq : ∀ g, g < 2 → ((ra.get g).q ∉ W ∧ (r1.get g).alls = (r0.get g).alls) ∨ RowIs h' (ra.get g).q (KeyIs h' true) (r1.get g).alls) : RowsIs P h' ra r1 := by
  have hL := hr.lists.sub hW
  have tb := TupS.but hb hL
  refine gl_in fun gGl hGl => ?_
  obtain ⟨t1, t2, n, e⟩ := hr.dict
  refine hGl ?_
  clear hGl gGl
  refine ⟨⟨t1, t2, n, hb _ _ (fun q => ?_) e⟩, fun g hg => ?_, hr.apart⟩
  · obtain ⟨o, ho, hc'⟩ := hL _ q
    rw [e] at ho; cases ho; simp at hc'
  have k := hr.kept g hg
  refine ⟨tb _ _ k.tup, ?_, ?_, ?_, ?_⟩
  · rcases hc g hg with ⟨a, b⟩ | x
    · rw [b]; exact k.cuts.but hb a fun _ _ z => KeyIs.keeps z tb
    · exact x
  · rcases hl g hg with ⟨a, b⟩ | x
    · rw [b]; exact k.lays.but hb a fun _ _ z => LayV.keeps z tb
    · exact x
  · rcases hf g hg with ⟨a, b⟩ | x
    · rw [b]; exact k.firsts.but hb a fun _ _ z => KeyIs.keeps z tb
    · exact x
  · rcases hq g hg with ⟨a, b⟩ | x
    · rw [b]; exact k.alls.but hb a fun _ _ z => KeyIs.keeps z tb
    · exact x
theorem Rows.get_set {r : Rows} {g g' : Nat} {k : Kept} (hg : g < 2) (hg' : g' < 2) : (r.set g k).get g' = if g' = g then k else r.get g' := by
  have e1 : g = 0 ∨ g = 1 := by omega
  have e2 : g' = 0 ∨ g' = 1 := by omega
  rcases e1 with rfl | rfl <;> rcases e2 with rfl | rfl <;> simp [Rows.get, Rows.set]
theorem But.news {g h h' : Heap} {L a : Addr} {o o' : Obj} {news news' : List (Addr × Obj)} (hb : But [a] h h') (N : News g L h news) (ho : h'.get? a = some o') (U : Upd a o o' news news') : News g L h' news' := by
  refine gl_in fun gGl hGl => ?_
  obtain ⟨pre, post, rfl, rfl, h1, h2⟩ := U.split
  refine hGl ?_
  clear hGl gGl
  have ha := N (a, o) (List.mem_append_right _ (.head _))
  intro p hp
  rcases List.mem_append.mp hp with q | q
  · have P := N p (List.mem_append_left _ q)
    exact ⟨hb _ _ (fun z => h1 p q (List.mem_singleton.mp z)) P.1, P.2⟩
  · rcases List.mem_cons.mp q with rfl | q
    · exact ⟨ho, ha.2⟩
    · have P := N p (List.mem_append_right _ (.tail _ q))
      exact ⟨hb _ _ (fun z => h2 p q (List.mem_singleton.mp z)) P.1, P.2⟩
theorem news_hidden {h h₁ : Heap} {L : Addr} {W : List Addr} {news : List (Addr × Obj)} (st : h.StaysIn h₁) (lt : ∀ b o, h.get? b = some o → b < L) (hn : ∀ p ∈ news, p.1 ∈ W ∧ h.get? p.1 = some p.2) : News (hideAll h W) L h₁ news := fun p hp =>
  ⟨st _ _ (hn p hp).2, Nat.ne_of_lt (lt _ _ (hn p hp).2), hideAll_none _ (hn p hp).1⟩
section
variable {prog : Program} {w : World} {A : Around} {E : Value → Shared → Prop} {s : Shared} {h₀ : Heap} {L : Addr} {m : Str → Option Value}
theorem lowerC {n : Nat} {t : Tok} {Q : Value → Shared → Prop} (h : ∀ t' k, Q (.str (gn (grp n)) t') { s with toks := k }) : wpAny (model prog w) A (call (.builtin "str.lower") [.str (nm n) t]) Q E s :=
  KXw.lower (lower_nm n) (nm_short n) h
theorem rows_item {ra : RAd} {ka : KAd} {g : Nat} {t : Tok} {value slice : Expr} {Q : Value → Shared → Prop} (F : Fr h₀ L s.heap m) (hD : RowDict w.params h₀ ra) (hka : ra.get g = ka) (h : ∀ k, Q (.ref ka.t) { s with toks := k })
    (hs : subscripted slice false (.ref ra.d) (.str (gn g) t) = operate [.ref ra.d, .str (gn g) t] (getItem (.ref ra.d) (.str (gn g) t)) := by with_unfolding_all rfl) :
    wpAny (model prog w) A (subscriptTail value slice (.ref ra.d) (.str (gn g) t)) Q E s := by
  subst hka
  refine gl_in fun gGl hGl => ?_
  obtain ⟨t1, t2, n, e⟩ := hD
  refine hGl ?_
  clear hGl gGl
  have hm : s.heap.MapOf (strKind prog w) ra.d (fun k => findBy Value.isStrOf #[⟨PyData.keyHash w.params (Str.ofString "a"), .str (Str.ofString "a") t1, .ref ra.a.t⟩, ⟨PyData.keyHash w.params (Str.ofString "b"), .str (Str.ofString "b") t2, .ref ra.b.t⟩] k) :=
    ⟨_, _, n, F.keep _ _ e, ⟨rfl, rfl, rfl⟩, rfl, fun e he => by
      simp at he
      rcases he with rfl | rfl
      · exact ⟨_, strKind_is prog w _ _, rfl⟩
      · exact ⟨_, strKind_is prog w _ _, rfl⟩, fun _ => rfl⟩
  refine tail_any hm.typeIs slot_dict_getitem.lookup (wpAny_getItem_of (strKind_is prog w (gn g) t) hm (v := .ref (ra.get g).t) ?_ (h _)) hs
  unfold gn RAd.get
  by_cases q : g = 0
  · rw [if_pos q, if_pos q]; rfl
  · rw [if_neg q, if_neg q]; rfl
end
end
local macro_rules | `(tactic| walk_at "call builtin:str.lower") => `(tactic| (refine lowerC ?_; intro _ _))
local macro_rules | `(tactic| walk_at "subscriptTail") => `(tactic| ((with_reducible show wpAny _ _ (subscriptTail _ _ (Value.ref (RAd.d _)) (Value.str (gn _) _)) _ _ _); (refine' rows_item ?F ?D ?e ?_; (case F => k_asm); (case D => with_reducible assumption); (case e => with_reducible assumption); k_whole); intro _))
section
end
section
section
variable {prog : Program} {w : World} {A : Around} {s : Shared} {env : Env} {g : Heap} {L : Addr} {target : Expr} {body : List Stmt}
noncomputable def ForEnd (g : Heap) (L : Addr) (J : (Str → Option Value) → List (Addr × Obj) → Prop) (I : Addr) (o : Obj) (s : Shared) (Q : Flow → Shared → Prop) (f : Flow) (s₃ : Shared) : Prop :=
  match f with
  | .ret v => Q (.ret v) s₃
  | .brk => Q .next s₃
  | _ => ∃ h' tk' m' nx', s₃ = { s with heap := h', toks := tk' } ∧ Fr g L h' m' ∧ News g L h' nx' ∧ (I, o) ∈ nx' ∧ ∃ nx, (∀ p ∈ nx, p ∈ nx' ∧ p.1 ≠ I) ∧ J m' nx
noncomputable def Goes (prog : Program) (w : World) (A : Around) (target : Expr) (l : Addr) : Prop := ∀ (s : Shared) (I : Addr) (i : Nat) (v : Value) (Q : Unit → Shared → Prop) (E : Value → Shared → Prop), s.heap.IsListIter I l i → Q () s → wpAny (model prog w) A (letOwnedTupleGo target (.ref I) v) Q E s
theorem goes_name {x : Str} {p : Pos} {l : Addr} : Goes prog w A (.Name x p) l := fun _ _ _ _ _ _ _ h => wpAny_pure h
theorem goes_tuple {es : List Expr} {k : Nat} {p : Pos} {l : Addr} : Goes prog w A (.Tuple es k p) l := fun s I i v Q E hit h => by
  cases v with
  | ref T => exact wpAny_letOwnedTupleGo_listiter hit h
  | _ => exact wpAny_pure h
theorem for_listC {l : Addr} {vs : List Value} {m₀ : Str → Option Value} {nx₀ : List (Addr × Obj)} {Q : Flow → Shared → Prop} (J : Nat → (Str → Option Value) → List (Addr × Obj) → Prop)
    (hh : A.handled = none) (hgo : Goes prog w A target l) (hl : s.heap.IsList l vs.toArray) (F : Fr g L s.heap m₀) (N : News g L s.heap nx₀) (h0 : J 0 m₀ nx₀)
    (hL : ∀ i m nx h, J i m nx → Fr g L h m → News g L h nx → h.IsList l vs.toArray)
    (turn : ∀ i v m nx h tk I o, I = s.heap.objs.size → o.cls = .type "list_iterator" → vs[i]? = some v → J i m nx → (∀ p ∈ nx, p.1 ≠ I) → Fr g L h m → News g L h ((I, o) :: nx) →
      wpAny (model prog w) A (assign target env v) (fun _ s₂ => wpAny (model prog w) A (execs body env) (ForEnd g L (J (i + 1)) I o s Q) (fun _ _ => False) s₂) (fun _ _ => False) { s with heap := h, toks := tk })
    (done : ∀ m nx h tk, J vs.length m nx → Fr g L h m → News g L h nx → Q .next { s with heap := h, toks := tk }) {E : Value → Shared → Prop} :
    wpAny (model prog w) A (pyIter (.ref l)) (fun it s₂ => codeAny (model prog w) A (.forLoop target it body [] env) (fun r s' => match r with | .ok f => Q f s' | .error e => cameBackBy (model prog w) A env (fun _ _ => False) e s') s₂) E s := by
  refine wpAny_pyIter_list hl ?_
  have hI : ∀ p ∈ nx₀, p.1 ≠ s.heap.objs.size := fun p hp => Nat.ne_of_lt (Heap.lt_size (N p hp).1)
  refine codeAny_forLoop_any (fun k s' => ∃ h tk m nx i o, s' = { s with heap := h, toks := tk } ∧ Fr g L h m ∧ News g L h ((s.heap.objs.size, o) :: nx) ∧ (∀ p ∈ nx, p.1 ≠ s.heap.objs.size) ∧ o.cls = .type "list_iterator" ∧ o.data = .fields #[.ref l, .int (i : Nat) 0] ∧ J i m nx ∧ i ≤ vs.length ∧ k = vs.length + 1 - i) ?_ (vs.length + 1)
    ⟨_, s.toks, m₀, nx₀, 0, _, rfl, F.push _, N.push F _, hI, rfl, rfl, h0, Nat.zero_le _, rfl⟩
  intro k s' hXr
  refine gl_in fun gGl hGl => ?_
  obtain ⟨h, tk, m, nx, i, o, rfl, F₁, N₁, hne, hc, hd, hJ, hi, rfl⟩ := hXr
  refine hGl ?_
  clear hGl gGl
  have hit : h.IsListIter s.heap.objs.size l i := ⟨o, (N₁ _ (.head _)).1, hc, hd⟩
  have N₁' : News g L h nx := fun p hp => N₁ p (.tail _ hp)
  have hls := hL i m nx h hJ F₁ N₁'
  by_cases hlt : i < vs.length
  · have hx : vs.toArray[i]? = some vs[i] := by simp [hlt]
    refine wpAny_pyNext_list_item hit hls hx fun h' hit' hs' => ?_
    refine gl_in fun gGl hGl => ?_
    obtain ⟨o', ho', hc', hd'⟩ := id hit'
    refine hGl ?_
    clear hGl gGl
    have hIL : s.heap.objs.size ≠ L := (N₁ _ (.head _)).2.1
    have hIg := (N₁ _ (.head _)).2.2
    have F₂ : Fr g L h' m := by
      refine gl_in fun gGl hGl => ?_
      obtain ⟨oL, es, ep, hLo, r⟩ := F₁.ns
      refine hGl ?_
      clear hGl gGl
      refine ⟨⟨oL, es, ep, (hs'.2 L (Ne.symm hIL)).trans hLo, r⟩, fun b x e => (hs'.2 b fun q => ?_).trans (F₁.keep b x e), F₁.above⟩
      subst q; dsimp only at hIg; rw [hIg] at e; cases e
    have N₂ : News g L h' ((s.heap.objs.size, o') :: nx) := fun p hp => by
      rcases List.mem_cons.mp hp with rfl | q
      · exact ⟨ho', hIL, hIg⟩
      · exact ⟨(hs'.2 _ (hne p q)).trans (N₁' p q).1, (N₁' p q).2⟩
    refine hgo _ _ (i + 1) _ _ _ hit' ?_
    refine wpAny_mono (turn i vs[i] m nx h' tk s.heap.objs.size o' rfl hc' (by simp [hlt]) hJ hne F₂ N₂) (fun _ s₂ h₂ => ?_) fun _ _ e => e.elim
    refine wpAny_mono h₂ (fun f s₃ h₃ => ?_) fun _ _ e => e.elim
    have fin : (∃ h'' tk' m' nx', s₃ = { s with heap := h'', toks := tk' } ∧ Fr g L h'' m' ∧ News g L h'' nx' ∧ (s.heap.objs.size, o') ∈ nx' ∧ ∃ nx1, (∀ p ∈ nx1, p ∈ nx' ∧ p.1 ≠ s.heap.objs.size) ∧ J (i + 1) m' nx1) →
        ∃ k', k' < vs.length + 1 - i ∧ ∃ h tk m nx i o, s₃ = { s with heap := h, toks := tk } ∧ Fr g L h m ∧ News g L h ((s.heap.objs.size, o) :: nx) ∧ (∀ p ∈ nx, p.1 ≠ s.heap.objs.size) ∧ o.cls = .type "list_iterator" ∧ o.data = .fields #[.ref l, .int (i : Nat) 0] ∧ J i m nx ∧ i ≤ vs.length ∧ k' = vs.length + 1 - i := by
      intro hXr
      refine gl_in fun gGl hGl => ?_
      obtain ⟨h'', tk', m', nx', rfl, F', N', hm, nx1, hs1, hJ'⟩ := hXr
      refine hGl ?_
      clear hGl gGl
      refine ⟨vs.length + 1 - (i + 1), by omega, h'', tk', m', nx1, i + 1, o', rfl, F', fun p hp => ?_, fun p hp => (hs1 p hp).2, hc', hd', hJ', hlt, rfl⟩
      rcases List.mem_cons.mp hp with rfl | q
      · exact N' _ hm
      · exact N' _ (hs1 p q).1
    cases f with
    | ret v => exact h₃
    | brk => exact h₃
    | next => exact fin h₃
    | cont => exact fin h₃
  · have hin : i = vs.length := by omega
    have hx : vs.toArray[i]? = none := by simp; omega
    refine wpAny_pyNext_list_end hh hit hls hx fun h' he' => ?_
    have hIL : s.heap.objs.size ≠ L := (N₁ _ (.head _)).2.1
    have hIg := (N₁ _ (.head _)).2.2
    have F₂ : Fr g L h' m := by
      refine gl_in fun gGl hGl => ?_
      obtain ⟨oL, es, ep, hLo, r⟩ := F₁.ns
      refine hGl ?_
      clear hGl gGl
      refine ⟨⟨oL, es, ep, he' L _ (Ne.symm hIL) hLo, r⟩, fun b x e => he' b _ (fun q => ?_) (F₁.keep b x e), F₁.above⟩
      subst q; dsimp only at hIg; rw [hIg] at e; cases e
    have N₂ : News g L h' nx := fun p q => ⟨he' _ _ (hne p q) (N₁' p q).1, (N₁' p q).2⟩
    subst hin
    exact wpAny_execs_nil (done m nx h' tk hJ F₂ N₂)
theorem for_list {l : Addr} {vs : List Value} {m₀ : Str → Option Value} {nx₀ : List (Addr × Obj)} {Q : Flow → Shared → Prop} (J : Nat → (Str → Option Value) → List (Addr × Obj) → Prop)
    (hh : A.handled = none) (hgo : Goes prog w A target l) (hl : s.heap.IsList l vs.toArray) (F : Fr g L s.heap m₀) (N : News g L s.heap nx₀) (h0 : J 0 m₀ nx₀)
    (hL : ∀ i m nx h, J i m nx → Fr g L h m → News g L h nx → h.IsList l vs.toArray)
    (turn : ∀ i v m nx h tk I o, I = s.heap.objs.size → vs[i]? = some v → J i m nx → (∀ p ∈ nx, p.1 ≠ I) → Fr g L h m → News g L h ((I, o) :: nx) →
      wpAny (model prog w) A (assign target env v) (fun _ s₂ => wpAny (model prog w) A (execs body env) (ForEnd g L (J (i + 1)) I o s Q) (fun _ _ => False) s₂) (fun _ _ => False) { s with heap := h, toks := tk })
    (done : ∀ m nx h tk, J vs.length m nx → Fr g L h m → News g L h nx → Q .next { s with heap := h, toks := tk }) {E : Value → Shared → Prop} :
    wpAny (model prog w) A (pyIter (.ref l)) (fun it s₂ => codeAny (model prog w) A (.forLoop target it body [] env) (fun r s' => match r with | .ok f => Q f s' | .error e => cameBackBy (model prog w) A env (fun _ _ => False) e s') s₂) E s :=
  for_listC J hh hgo hl F N h0 hL (fun i v m nx h tk I o a _ => turn i v m nx h tk I o a) done
theorem ForEnd.next {J : (Str → Option Value) → List (Addr × Obj) → Prop} {I : Addr} {o : Obj} {Q : Flow → Shared → Prop} {h' : Heap} {tk' : Nat} {m' : Str → Option Value} {nx' : List (Addr × Obj)} (nx : List (Addr × Obj))
    (F : Fr g L h' m') (N : News g L h' nx') (hI : (I, o) ∈ nx') (hs : ∀ p ∈ nx, p ∈ nx' ∧ p.1 ≠ I) (hJ : J m' nx) : ForEnd g L J I o s Q .next { s with heap := h', toks := tk' } := ⟨h', tk', m', nx', rfl, F, N, hI, nx, hs, hJ⟩
noncomputable def OneEnd (g : Heap) (L l : Addr) (n : Nat) (v : Value) (I : Addr) (o : Obj) (s : Shared) (Q : Flow → Shared → Prop) (f : Flow) (s₃ : Shared) : Prop :=
  match f with
  | .ret v => Q (.ret v) s₃
  | .brk => Q .next s₃
  | _ => ∃ h' tk' m' nx', s₃ = { s with heap := h', toks := tk' } ∧ Fr g L h' m' ∧ News g L h' nx' ∧ (I, o) ∈ nx' ∧ (l, listOf [v].toArray n) ∈ nx' ∧ ∀ h'' tk'', Fr g L h'' m' → (∀ p ∈ nx', p.1 ≠ I → h''.get? p.1 = some p.2) → Q .next { s with heap := h'', toks := tk'' }
theorem for_one {l : Addr} {v : Value} {n : Nat} {m₀ : Str → Option Value} {nx₀ : List (Addr × Obj)} {Q : Flow → Shared → Prop}
    (hh : A.handled = none) (hgo : Goes prog w A target l) (hl : (l, listOf [v].toArray n) ∈ nx₀) (F : Fr g L s.heap m₀) (N : News g L s.heap nx₀)
    (turn : ∀ h tk I o, (∀ p ∈ nx₀, p.1 < I) → Fr g L h m₀ → News g L h ((I, o) :: nx₀) →
      wpAny (model prog w) A (assign target env v) (fun _ s₂ => wpAny (model prog w) A (execs body env) (OneEnd g L l n v I o s Q) (fun _ _ => False) s₂) (fun _ _ => False) { s with heap := h, toks := tk })
    {E : Value → Shared → Prop} :
    wpAny (model prog w) A (pyIter (.ref l)) (fun it s₂ => codeAny (model prog w) A (.forLoop target it body [] env) (fun r s' => match r with | .ok f => Q f s' | .error e => cameBackBy (model prog w) A env (fun _ _ => False) e s') s₂) E s := by
  refine for_list (fun i m nx => (i = 0 ∧ m = m₀ ∧ nx = nx₀) ∨ (i = 1 ∧ (l, listOf [v].toArray n) ∈ nx ∧ ∀ h tk, Fr g L h m → News g L h nx → Q .next { s with heap := h, toks := tk })) hh hgo (vs := [v]) ⟨_, (N _ hl).1, rfl, _, rfl⟩ F N (.inl ⟨rfl, rfl, rfl⟩) ?_ ?_ ?_
  · rintro i m nx h (⟨_, _, rfl⟩ | ⟨_, hm, _⟩) F₁ N₁
    · exact ⟨_, (N₁ _ hl).1, rfl, _, rfl⟩
    · exact ⟨_, (N₁ _ hm).1, rfl, _, rfl⟩
  · rintro i v' m nx h tk I o hIs hv hJ hne F₁ N₁
    have hi : i = 0 := by
      cases i with
      | zero => rfl
      | succ i => simp at hv
    subst hi
    simp at hv
    subst hv
    rcases hJ with ⟨_, e1, e2⟩ | ⟨q, _⟩
    · rw [e1] at F₁
      rw [e2] at N₁ hne
      refine wpAny_mono (turn h tk I o (fun p hp => by rw [hIs]; exact Heap.lt_size (N p hp).1) F₁ N₁) (fun _ s₂ h₂ => wpAny_mono h₂ (fun f s₃ h₃ => ?_) fun _ _ e => e) fun _ _ e => e
      have fin : (∃ h' tk' m' nx', s₃ = { s with heap := h', toks := tk' } ∧ Fr g L h' m' ∧ News g L h' nx' ∧ (I, o) ∈ nx' ∧ (l, listOf [v].toArray n) ∈ nx' ∧ ∀ h'' tk'', Fr g L h'' m' → (∀ p ∈ nx', p.1 ≠ I → h''.get? p.1 = some p.2) → Q .next { s with heap := h'', toks := tk'' }) →
          ForEnd g L (fun m nx' => (0 + 1 = 0 ∧ m = m₀ ∧ nx' = nx₀) ∨ (0 + 1 = 1 ∧ (l, listOf [v].toArray n) ∈ nx' ∧ ∀ h tk, Fr g L h m → News g L h nx' → Q .next { s with heap := h, toks := tk })) I o s Q .next s₃ := by
        intro hXr
        refine gl_in fun gGl hGl => ?_
        obtain ⟨h', tk', m', nx', rfl, F', N', hI, hm, k⟩ := hXr
        refine hGl ?_
        clear hGl gGl
        refine ⟨h', tk', m', nx', rfl, F', N', hI, nx'.filter (fun p => decide (p.1 ≠ I)), fun p hp => ?_, .inr ⟨rfl, ?_, fun h'' tk'' F'' N'' => k h'' tk'' F'' fun p hp hpI => ?_⟩⟩
        · obtain ⟨a, b⟩ := List.mem_filter.mp hp
          exact ⟨a, of_decide_eq_true b⟩
        · exact List.mem_filter.mpr ⟨hm, decide_eq_true (hne _ hl)⟩
        · exact (N'' p (List.mem_filter.mpr ⟨hp, decide_eq_true hpI⟩)).1
      cases f with
      | ret v => exact h₃
      | brk => exact h₃
      | next => exact fin h₃
      | cont => exact fin h₃
    · exact absurd q (by omega)
  · rintro m nx h tk (⟨q, _⟩ | ⟨_, _, k⟩) F₁ N₁
    · exact absurd q (by simp)
    · exact k h tk F₁ N₁
theorem for_nil {l : Addr} {n : Nat} {m₀ : Str → Option Value} {nx₀ : List (Addr × Obj)} {Q : Flow → Shared → Prop}
    (hh : A.handled = none) (hgo : Goes prog w A target l) (hl : (l, listOf ([] : List Value).toArray n) ∈ nx₀) (F : Fr g L s.heap m₀) (N : News g L s.heap nx₀)
    (done : ∀ h tk, Fr g L h m₀ → News g L h nx₀ → Q .next { s with heap := h, toks := tk }) {E : Value → Shared → Prop} :
    wpAny (model prog w) A (pyIter (.ref l)) (fun it s₂ => codeAny (model prog w) A (.forLoop target it body [] env) (fun r s' => match r with | .ok f => Q f s' | .error e => cameBackBy (model prog w) A env (fun _ _ => False) e s') s₂) E s := by
  refine for_list (fun i m nx => m = m₀ ∧ nx = nx₀) hh hgo (vs := []) ⟨_, (N _ hl).1, rfl, _, rfl⟩ F N ⟨rfl, rfl⟩ ?_ ?_ ?_
  · rintro i m nx h ⟨_, rfl⟩ F₁ N₁
    exact ⟨_, (N₁ _ hl).1, rfl, _, rfl⟩
  · rintro i v' m nx h tk I o _ hv
    simp at hv
  · rintro m nx h tk ⟨rfl, rfl⟩ F₁ N₁
    exact done h tk F₁ N₁
end
end
section
theorem eqv_str (a b : Str) : PyData.eqv (.str a) (.str b) = decide (a = b) := by
  rw [PyData.eqv]
  by_cases e : a = b
  · subst e; simp
  · rw [decide_eq_false e]; exact beq_false_of_ne e
theorem tx_inj14 : ∀ t u : Fin 14, tx t = tx u → t = u := by decide +kernel
theorem tx_inj {t u : Nat} (ht : t < 14) (hu : u < 14) (e : tx t = tx u) : t = u := by
  have := tx_inj14 ⟨t, ht⟩ ⟨u, hu⟩ e
  exact congrArg Fin.val this
theorem tx_ok14 : ∀ t : Fin 14, PyData.strOk (tx t) = true := by decide +kernel
theorem tx_ok {t : Nat} (ht : t < 14) : PyData.strOk (tx t) = true := tx_ok14 ⟨t, ht⟩
theorem nm_ok (n : Nat) : PyData.strOk (nm n) = true := by
  match n with
  | 0 => decide +kernel
  | 1 => decide +kernel
  | 2 => decide +kernel
  | n + 3 => show PyData.strOk (Str.ofString "B") = true; decide +kernel
theorem nm_inj4 : ∀ t u : Fin 4, nm t = nm u → t = u := by decide +kernel
theorem nm_inj {t u : Nat} (ht : t < 4) (hu : u < 4) (e : nm t = nm u) : t = u := congrArg Fin.val (nm_inj4 ⟨t, ht⟩ ⟨u, hu⟩ e)
theorem eqvAll_map {α : Type} [DecidableEq α] (f : α → PyData) : ∀ (xs ys : List α), (∀ x ∈ xs, ∀ y ∈ ys, PyData.eqv (f x) (f y) = decide (x = y)) → PyData.eqvAll (xs.map f) (ys.map f) = decide (xs = ys)
  | [], [], _ => by simp [PyData.eqvAll]
  | [], _ :: _, _ => by simp [PyData.eqvAll]
  | _ :: _, [], _ => by simp [PyData.eqvAll]
  | x :: xs, y :: ys, h => by
    rw [List.map_cons, List.map_cons, PyData.eqvAll, eqvAll_map f xs ys (fun a ha b hb => h a (.tail _ ha) b (.tail _ hb)), h x (.head _) y (.head _)]
    by_cases e1 : x = y <;> by_cases e2 : xs = ys <;> simp [e1, e2]
noncomputable def txD (t : Nat) : PyData := .str (tx t)
theorem txD_eqv {t u : Nat} (ht : t < 14) (hu : u < 14) : PyData.eqv (txD t) (txD u) = decide (t = u) := by
  unfold txD
  rw [eqv_str]
  by_cases e : t = u
  · simp [e]
  · rw [decide_eq_false e, decide_eq_false fun q => e (tx_inj ht hu q)]
theorem texts_eqv {ts us : List Nat} (ht : ∀ t ∈ ts, t < 14) (hu : ∀ t ∈ us, t < 14) : PyData.eqv (.list (ts.map txD)) (.list (us.map txD)) = decide (ts = us) := by
  rw [PyData.eqv, eqvAll_map txD ts us fun x hx y hy => txD_eqv (ht x hx) (hu y hy)]
theorem All2.tx14 : ∀ {vs : List Value} {ts : List Nat}, All2 TxV vs ts → ∀ t ∈ ts, t < 14 := by
  intro vs ts h
  induction h with
  | nil => exact fun _ m => nomatch m
  | cons h _ ih => exact List.forall_mem_cons.mpr ⟨h.1, ih⟩
theorem All2.txReads (h : Heap) : ∀ {vs : List Value} {ts : List Nat}, All2 TxV vs ts → ReadsAll h vs (ts.map txD) [] := by
  intro vs ts h
  induction h with
  | nil => exact .nil
  | cons x _ ih => obtain ⟨_, k, e⟩ := x; subst e; exact readsAll_cons_val (.str _ _) ih
theorem texts_shaped {ts : List Nat} (ht : ∀ t ∈ ts, t < 14) : SeqAt.shaped (.list (ts.map txD)) = true := by
  have h1 : ∀ ts : List Nat, (∀ t ∈ ts, t < 14) → PyData.canLayAll0 (ts.map txD) = true ∧ PyData.depthAll (ts.map txD) = 0 := by
    intro ts
    induction ts with
    | nil => intro _; simp [PyData.canLayAll0, PyData.depthAll]
    | cons t ts ih =>
      intro h
      have := ih fun u hu => h u (.tail _ hu)
      simp [PyData.canLayAll0, PyData.depthAll, txD, PyData.canLay0, PyData.depth, tx_ok (h t (.head _))]
      exact this
  have := h1 ts ht
  simp [SeqAt.shaped, PyData.canLay0, PyData.depth, this.1, this.2]
theorem TextsIs.reads {h : Heap} {a : Addr} {ts : List Nat} (x : TextsIs h a ts) : Reads h (.ref a) (.list (ts.map txD)) [a] := by
  obtain ⟨vs, n, e, hx, _⟩ := x
  exact reads_list_at e rfl rfl (by simpa using hx.txReads h)
theorem TextsIs.lt {h : Heap} {a : Addr} {ts : List Nat} (x : TextsIs h a ts) : ∀ t ∈ ts, t < 14 := by
  obtain ⟨vs, n, e, hx, _⟩ := x
  exact hx.tx14
theorem TextsIs.but {W : List Addr} {h h' : Heap} {a : Addr} {ts : List Nat} (x : TextsIs h a ts) (hb : But W h h') (ha : a ∉ W) : TextsIs h' a ts := by
  obtain ⟨vs, n, e, hx, hl⟩ := x
  exact ⟨vs, n, hb _ _ ha e, hx, hl⟩
theorem TextsIs.keeps {h h' : Heap} {a : Addr} {ts : List Nat} (x : TextsIs h a ts) (k : h.StaysIn h') : TextsIs h' a ts := x.but (W := []) (But.nil k) (by simp)
section
variable {prog : Program} {w : World} {A : Around} {E : Value → Shared → Prop} {s : Shared} {Q : Value → Shared → Prop}
theorem eq_texts {a b : Addr} {ts us : List Nat} (hu : A.units + 64 < cLine) (ha : TextsIs s.heap a ts) (hb : TextsIs s.heap b us) (h : Q (.bool (decide (ts = us))) s) : wpAny (model prog w) A (compareOp .Eq (.ref a) (.ref b)) Q E s :=
  eq_dataH ha.reads hb.reads (texts_shaped ha.lt) (texts_shaped hb.lt) hu (by rw [texts_eqv ha.lt hb.lt]; exact h)
theorem ne_texts {a b : Addr} {ts us : List Nat} (hu : A.units + 64 < cLine) (ha : TextsIs s.heap a ts) (hb : TextsIs s.heap b us) (h : Q (.bool (!decide (ts = us))) s) : wpAny (model prog w) A (compareOp .NotEq (.ref a) (.ref b)) Q E s :=
  ne_dataH ha.reads hb.reads (texts_shaped ha.lt) (texts_shaped hb.lt) hu (by rw [texts_eqv ha.lt hb.lt]; exact h)
end
end
section
theorem All2.snoc {α : Type} {R : Value → α → Prop} : ∀ {vs : List Value} {as : List α} {a : α}, All2 R vs (as ++ [a]) → ∃ vi v, vs = vi ++ [v] ∧ R v a := by
  intro vs as
  induction as generalizing vs with
  | nil =>
    intro a h
    obtain ⟨v, ws, e, hv, r⟩ := h.inv
    cases ws with
    | nil => exact ⟨[], v, e, hv⟩
    | cons _ _ => exact absurd r.length (by simp)
  | cons b bs ih =>
    intro a h
    obtain ⟨v, ws, e, hv, r⟩ := h.inv
    obtain ⟨vi, v', e', hv'⟩ := ih r
    exact ⟨v :: vi, v', by rw [e, e']; rfl, hv'⟩
theorem Rows.set_set {r : Rows} {g : Nat} {k k' : Kept} : (r.set g k).set g k' = r.set g k' := by
  unfold Rows.set
  by_cases e : g = 0 <;> simp [e]
theorem kplc (h : Heap) (a : Nat) (c : Cl) (e : Int) (t1 t2 t3 : Tok) (hh : IsTup h a [.int c.hour t1, .int c.mark t2, .int e t3].toArray) : KeyIs h true (.ref a) (plc c e) :=
  ⟨a, _, rfl, hh, .cons _ _ (.cons _ _ (.cons _ _ .nil))⟩
theorem All2.insAt {α : Type} {R : Value → α → Prop} {vs : List Value} {as : List α} {v : Value} {a : α} (h : All2 R vs as) (k : Nat) (hv : R v a) : All2 R (insAt vs k v) (Mine.insAt as k a) := (h.take k).append (.cons hv (h.drop k))
theorem insAt_length {α : Type} (l : List α) (k : Nat) (x : α) : (insAt l k x).length = l.length + 1 := by
  unfold insAt
  rw [List.length_append, List.length_cons, List.length_take, List.length_drop]
  omega
theorem rowIs_ins {α : Type} {h : Heap} {a : Addr} {R : Value → α → Prop} {vs : List Value} {n k : Nat} {v : Value} {xs : List α} {x : α} (e : h.get? a = some (listOf (insAt vs k v).toArray n)) (hx : All2 R vs xs) (hv : R v x) (hl : vs.length < 2000) : RowIs h a R (insAt xs k x) :=
  ⟨_, _, e, hx.insAt k hv, by rw [insAt_length]; omega⟩
/-- the rows, one group's lists changed -/
theorem rows_set {P : Params} {h h' : Heap} {ra : RAd} {r0 : Rows} {W : List Addr} {g : Nat} {k1 : Kept} (hg : g < 2) (hr : RowsIs P h ra r0) (hb : But W h h') (hW : ∀ a ∈ W, a ∈ (ra.get g).lists)
    (hc : ((ra.get g).c ∉ W ∧ k1.cuts = (r0.get g).cuts) ∨ RowIs h' (ra.get g).c (KeyIs h' true) k1.cuts)
    (hl : ((ra.get g).l ∉ W ∧ k1.lays = (r0.get g).lays) ∨ RowIs h' (ra.get g).l (LayV h') k1.lays)
    (hf : ((ra.get g).f ∉ W ∧ k1.firsts = (r0.get g).firsts) ∨ RowIs h' (ra.get g).f (KeyIs h' true) k1.firsts)
    (hq : ((ra.get g).q ∉ W ∧ k1.alls = (r0.get g).alls) ∨ RowIs h' (ra.get g).q (KeyIs h' true) k1.alls) : RowsIs P h' ra (r0.set g k1) := by
  have off : ∀ g', g' < 2 → g' ≠ g → ∀ x ∈ (ra.get g').lists, x ∉ W := fun g' hg' hne x hx hw => by
    have ap := RAd.apart hr.apart hg' hg
    have ap' := RAd.apart hr.apart hg hg'
    have hw' := hW x hw
    simp only [KAd.lists, List.mem_cons, List.not_mem_nil, or_false] at hx hw'
    obtain ⟨a1, a2, a3, a4, a5, a6, a7, a8, a9, a10⟩ := ap
    obtain ⟨-, -, -, -, b5, b6, b7, b8, b9, b10⟩ := ap'
    rcases hx with rfl | rfl | rfl | rfl <;> rcases hw' with e | e | e | e
    · exact hne (a1 e)
    · exact a5 e
    · exact a6 e
    · exact a7 e
    · exact b5 e.symm
    · exact hne (a2 e)
    · exact a8 e
    · exact a9 e
    · exact b6 e.symm
    · exact b8 e.symm
    · exact hne (a3 e)
    · exact a10 e
    · exact b7 e.symm
    · exact b9 e.symm
    · exact b10 e.symm
    · exact hne (a4 e)
  refine rows_rebuild hr hb (fun a ha => RAd.get_mem a (hW a ha)) (fun g' hg' => ?_) (fun g' hg' => ?_) (fun g' hg' => ?_) (fun g' hg' => ?_)
  all_goals rw [Rows.get_set hg hg']
  all_goals by_cases e : g' = g
  all_goals first
    | (subst e; rw [if_pos rfl]; assumption)
    | (rw [if_neg e]; exact .inl ⟨off g' hg' e _ (by simp [KAd.lists]), rfl⟩)
theorem rows_c {P : Params} {h h' : Heap} {ra : RAd} {r0 : Rows} {g : Nat} {xs : List (List Int)} (hg : g < 2) (hr : RowsIs P h ra r0) (hb : But [(ra.get g).c] h h') (x : RowIs h' (ra.get g).c (KeyIs h' true) xs) : RowsIs P h' ra (r0.set g { r0.get g with cuts := xs }) :=
  have ⟨_, _, _, _, a5, a6, a7, _, _, _⟩ := RAd.apart hr.apart hg hg
  rows_set hg hr hb (fun a ha => by cases List.mem_singleton.mp ha; simp [KAd.lists]) (.inr x) (.inl ⟨fun q => a5 (List.mem_singleton.mp q).symm, rfl⟩) (.inl ⟨fun q => a6 (List.mem_singleton.mp q).symm, rfl⟩) (.inl ⟨fun q => a7 (List.mem_singleton.mp q).symm, rfl⟩)
theorem rows_l {P : Params} {h h' : Heap} {ra : RAd} {r0 : Rows} {g : Nat} {xs : List Lay} (hg : g < 2) (hr : RowsIs P h ra r0) (hb : But [(ra.get g).l] h h') (x : RowIs h' (ra.get g).l (LayV h') xs) : RowsIs P h' ra (r0.set g { r0.get g with lays := xs }) :=
  have ⟨_, _, _, _, a5, _, _, a8, a9, _⟩ := RAd.apart hr.apart hg hg
  rows_set hg hr hb (fun a ha => by cases List.mem_singleton.mp ha; simp [KAd.lists]) (.inl ⟨fun q => a5 (List.mem_singleton.mp q), rfl⟩) (.inr x) (.inl ⟨fun q => a8 (List.mem_singleton.mp q).symm, rfl⟩) (.inl ⟨fun q => a9 (List.mem_singleton.mp q).symm, rfl⟩)
theorem rows_f {P : Params} {h h' : Heap} {ra : RAd} {r0 : Rows} {g : Nat} {xs : List (List Int)} (hg : g < 2) (hr : RowsIs P h ra r0) (hb : But [(ra.get g).f] h h') (x : RowIs h' (ra.get g).f (KeyIs h' true) xs) : RowsIs P h' ra (r0.set g { r0.get g with firsts := xs }) :=
  have ⟨_, _, _, _, _, a6, _, a8, _, a10⟩ := RAd.apart hr.apart hg hg
  rows_set hg hr hb (fun a ha => by cases List.mem_singleton.mp ha; simp [KAd.lists]) (.inl ⟨fun q => a6 (List.mem_singleton.mp q), rfl⟩) (.inl ⟨fun q => a8 (List.mem_singleton.mp q), rfl⟩) (.inr x) (.inl ⟨fun q => a10 (List.mem_singleton.mp q).symm, rfl⟩)
theorem rows_q {P : Params} {h h' : Heap} {ra : RAd} {r0 : Rows} {g : Nat} {xs : List (List Int)} (hg : g < 2) (hr : RowsIs P h ra r0) (hb : But [(ra.get g).q] h h') (x : RowIs h' (ra.get g).q (KeyIs h' true) xs) : RowsIs P h' ra (r0.set g { r0.get g with alls := xs }) :=
  have ⟨_, _, _, _, _, _, a7, _, a9, a10⟩ := RAd.apart hr.apart hg hg
  rows_set hg hr hb (fun a ha => by cases List.mem_singleton.mp ha; simp [KAd.lists]) (.inl ⟨fun q => a7 (List.mem_singleton.mp q), rfl⟩) (.inl ⟨fun q => a9 (List.mem_singleton.mp q), rfl⟩) (.inl ⟨fun q => a10 (List.mem_singleton.mp q), rfl⟩) (.inr x)
end
local macro_rules | `(tactic| walk_at "subscriptTail Name Slice ref ref") => `(tactic| (refine hold ?_))
local macro_rules | `(tactic| walk_at "pyIter ref") => `(tactic| (refine hold ?_))
local macro_rules | `(tactic| walk_at "compareOp Eq ref ref") => `(tactic| (refine hold ?_))
local macro_rules | `(tactic| walk_at "compareOp NotEq ref ref") => `(tactic| (refine hold ?_))
local macro_rules | `(tactic| walk_at "compareOp In int ref") => `(tactic| (k_dflt (refine' in_tuple_ints ?t ?i ?_; (case t => exact News.isTup (by k_asm) (by k_mem)); (case i => l_intsW); k_whole)))
local macro_rules | `(tactic| walk_at "exec For Name Subscript cons nil") => `(tactic| walk_at "my For")
local macro_rules | `(tactic| walk_at "exec For Name Call cons nil") => `(tactic| walk_at "my For")
local macro_rules | `(tactic| walk_at "exec For Tuple Name cons nil") => `(tactic| walk_at "my For")
local macro_rules | `(tactic| walk_at "exec For Name BinOp cons nil") => `(tactic| walk_at "my For")
local macro_rules | `(tactic| walk_at "exec For Tuple Attribute cons nil") => `(tactic| walk_at "my For")
local macro_rules | `(tactic| walk_at "eval Name") => `(tactic| (k_here; k_dflt (refine' nameX_L ?F ?v ?_ ?a ?b; (case F => k_asm); (case a => rfl); (case b => rfl); (case v => first | rfl | assumption); k_whole)))
section
local macro_rules | `(tactic| walk_at "execs cons If cons") => `(tactic| (refine hold ?_))
theorem All2.eraseIdx {α : Type} {R : Value → α → Prop} : ∀ {vs : List Value} {as : List α}, All2 R vs as → ∀ k : Nat, All2 R (vs.eraseIdx k) (as.eraseIdx k) := by
  intro vs as h
  induction h with
  | nil => exact fun _ => .nil
  | cons h r ih =>
    intro k
    cases k with
    | zero => exact r
    | succ k => exact .cons h (ih k)
theorem cut_of : ∀ {l : List Value} {k : Nat}, k < l.length → ∃ p y q, kl_cut l k = some (p, y, q) ∧ p ++ q = l.eraseIdx k
  | [], k, h => absurd h (Nat.not_lt_zero _)
  | v :: r, 0, _ => ⟨[], v, r, rfl, rfl⟩
  | v :: r, k + 1, h => by
    refine gl_in fun gGl hGl => ?_
    obtain ⟨p, y, q, e1, e2⟩ := cut_of (l := r) (k := k) (Nat.lt_of_succ_lt_succ h)
    refine hGl ?_
    clear hGl gGl
    refine ⟨v :: p, y, q, ?_, by simp [e2]⟩
    simp [kl_cut, e1]
section
variable {prog : Program} {w : World} {A : Around} {E : Value → Shared → Prop} {s : Shared} {h₀ : Heap} {L D : Addr} {m : Str → Option Value} {news news' : List (Addr × Obj)} {n k : Nat} {vs : List Value}
theorem pop_at {u : Tok} {Q : Value → Shared → Prop} (F : Fr h₀ L s.heap m) (N : News h₀ L s.heap news) (hk : k < vs.length) (hl : vs.length < 2 ^ 20)
    (U : Upd D (listOf vs.toArray n) (listOf (vs.eraseIdx k).toArray (n + 1)) news news') (h : ∀ v h', Fr h₀ L h' m → News h₀ L h' news' → Q v { s with heap := h' }) :
    wpAny (model prog w) A (call (.builtin "list.pop") [.ref D, .int (k : Nat) u]) Q E s := by
  refine gl_in fun gGl hGl => ?_
  obtain ⟨p, y, q, e1, e2⟩ := cut_of hk
  refine hGl ?_
  clear hGl gGl
  rw [← e2] at U
  exact kl_popAt (k := k) F N (fits_nat (by omega)) (seqIndex_of (by omega) (by rw [List.size_toArray]; omega) |>.trans (by rw [Int.toNat_natCast])) e1 U (line_of hl) (fun h' F' N' => h y h' F' N')
end
theorem rowIs_del {α : Type} {h : Heap} {a : Addr} {R : Value → α → Prop} {vs : List Value} {n k : Nat} {xs : List α} (e : h.get? a = some (listOf (vs.eraseIdx k).toArray n)) (hx : All2 R vs xs) (hl : vs.length < 1000) : RowIs h a R (xs.eraseIdx k) :=
  ⟨_, _, e, hx.eraseIdx k, by have := List.length_eraseIdx_le vs k; omega⟩
/-- the frame of _law_taken behind its first two lines -/
structure TakM (m : Str → Option Value) (kc kl : Addr) (c : Cl) (u1 u2 u3 : Tok) : Prop where
  hour : m (Str.ofString "hour") = some (.int c.hour u1)
  mark : m (Str.ofString "mark") = some (.int c.mark u2)
  deed : m (Str.ofString "deed") = some (.int (c.deed : Nat) u3)
  cuts : m (Str.ofString "cuts") = some (.ref kc)
  lays : m (Str.ofString "lays") = some (.ref kl)
section
variable {prog : Program} {w : World} {A : Around} {ge : Array GenState} {dr : Drawn} {os : OsState} {mg mb : Str → Option Value} {Q : Flow → Shared → Prop}
  {oc : Value} {od : Option Addr} {name qual : Str} {params : Arguments} {b1 b2 b3 b4 : Stmt} {scope : Scope} {dV kV doc pm cdv ct : Value} {an : Option Addr} {osl : Array (Option Value)}
  {g h : Heap} {L kc kl : Addr} {c : Cl} {u1 u2 u3 : Tok} {m : Str → Option Value} {vc vl : List Value} {nc nl tk : Nat}
theorem tk_cut {ks : List (List Int)} (ho : (hd.heap_1 w.params).lookup 269 = some ⟨oc, od, .func (fnOf name qual params [b1, b2, b3, b4] scope dV kV doc pm an cdv ct), osl⟩) (r : Room A 8) (G : Gr w mg mb g) (hm : TakM m kc kl c u1 u2 u3) (ne : kc ≠ kl)
    (F : Fr g L h m) (N : News g L h [(kc, listOf vc.toArray nc), (kl, listOf vl.toArray nl)]) (hx : All2 (KeyIs g true) vc ks) (hl : vc.length < 1000) (hi : c.deed ≠ 1 → bl ks (plc c 1) < ks.length)
    (ret : ∀ h' tk' v' n', Fr g L h' m → News g L h' [(kc, listOf v'.toArray n'), (kl, listOf vl.toArray nl)] → v' = (if c.deed = 1 then vc else vc.eraseIdx (bl ks (plc c 1))) → Q .next ⟨h', ge, dr, tk', os⟩) :
    wpAny (model prog w) (A.deeper (envOf qual scope L 269 cdv)) (exec b3 (envOf qual scope L 269 cdv)) Q (fun _ _ => False) ⟨h, ge, dr, tk, os⟩ := by
  obtain ⟨hnd, dpA, frA, gdA, unA⟩ := A; obtain rfl : hnd = none := r.handled
  have q := ho.symm.trans (show (hd.heap_1 w.params).lookup 269 = some _ by k_is)
  refine gl_in fun gGl hGl => ?_
  obtain ⟨e1, e2, e3, e4⟩ := fn_eqs q
  have e5 : b3 = _ := Option.some.inj (show some b3 = some _ from body_at 2 e4)
  clear ho q e4
  subst e5
  have e1 : qual = _ := e1
  have e2 : scope = _ := e2
  have e3 : cdv = _ := e3
  subst e1 e2 e3
  have X := G.k
  have T := G.t
  obtain ⟨m1, m2, m3, m4, m5⟩ := hm
  refine hGl ?_
  clear hGl gGl
  have ne' := ne.symm
  k_steps
  · rename (c.deed : Int) ≠ 1 => e
    rename Fr _ _ _ _ => F1
    rename News _ _ _ _ => N1
    have e : c.deed ≠ 1 := fun q => e (congrArg Int.ofNat q)
    dsimp only [Hold]
    have t := TupS.of F1.keep
    refine bl_spec (b := true) (key := false) (vs := vc) (ks := ks) (k := plc c 1) ((r.deeper _).less (by decide)) (G.keeps F1.keep) ⟨_, (N1 (kc, listOf vc.toArray nc) (.tail _ (.head _))).1, rfl, _, rfl⟩ (hx.keys t) (kplc _ _ c 1 _ _ _ (N1.isTup (.head _))) (Nat.lt_trans hl (by decide)) ?_
    intro h2 tk2 t2 k2
    have F2 := F1.keeps k2
    have N2 := N1.grown k2
    clear F1 N1
    dsimp only
    k_steps
    (try dsimp only [Hold])
    refine pop_at (vs := vc) (n := nc) F2 N2 (by rw [hx.length]; exact hi e) (Nat.lt_trans hl (by decide)) (by k_upd) ?_
    intro v9 h9 F9 N9
    dsimp only
    k_steps
    exact ret _ _ _ _ F9 (fun p hp => N9 p (.tail _ hp)) (if_neg e).symm
  · rename (c.deed : Int) = 1 => e
    exact ret _ _ _ _ F N (if_pos (Int.ofNat.inj e)).symm
theorem tk_lay {ls : List Lay} (ho : (hd.heap_1 w.params).lookup 269 = some ⟨oc, od, .func (fnOf name qual params [b1, b2, b3, b4] scope dV kV doc pm an cdv ct), osl⟩) (r : Room A 8) (G : Gr w mg mb g) (hm : TakM m kc kl c u1 u2 u3) (ne : kc ≠ kl)
    (F : Fr g L h m) (N : News g L h [(kc, listOf vc.toArray nc), (kl, listOf vl.toArray nl)]) (hx : All2 (LayV g) vl ls) (hl : vl.length < 1000) (hi : c.deed ≠ 2 → bl (places ls) (plc c 1) < ls.length)
    (ret : ∀ h' tk' v' n', Fr g L h' m → News g L h' [(kc, listOf vc.toArray nc), (kl, listOf v'.toArray n')] → v' = (if c.deed = 2 then vl else vl.eraseIdx (bl (places ls) (plc c 1))) → Q .next ⟨h', ge, dr, tk', os⟩) :
    wpAny (model prog w) (A.deeper (envOf qual scope L 269 cdv)) (exec b4 (envOf qual scope L 269 cdv)) Q (fun _ _ => False) ⟨h, ge, dr, tk, os⟩ := by
  obtain ⟨hnd, dpA, frA, gdA, unA⟩ := A; obtain rfl : hnd = none := r.handled
  have q := ho.symm.trans (show (hd.heap_1 w.params).lookup 269 = some _ by k_is)
  refine gl_in fun gGl hGl => ?_
  obtain ⟨e1, e2, e3, e4⟩ := fn_eqs q
  have e5 : b4 = _ := Option.some.inj (show some b4 = some _ from body_at 3 e4)
  clear ho q e4
  subst e5
  have e1 : qual = _ := e1
  have e2 : scope = _ := e2
  have e3 : cdv = _ := e3
  subst e1 e2 e3
  have X := G.k
  have T := G.t
  obtain ⟨m1, m2, m3, m4, m5⟩ := hm
  refine hGl ?_
  clear hGl gGl
  have ne' := ne.symm
  k_steps
  · rename (c.deed : Int) ≠ 2 => e
    rename Fr _ _ _ _ => F1
    rename News _ _ _ _ => N1
    have e : c.deed ≠ 2 := fun q => e (congrArg Int.ofNat q)
    dsimp only [Hold]
    have t := TupS.of F1.keep
    refine bl_spec (b := true) (key := true) (vs := vl) (ks := places ls) (k := plc c 1) ((r.deeper _).less (by decide)) (G.keeps F1.keep) ⟨_, (N1 (kl, listOf vl.toArray nl) (.tail _ (.tail _ (.head _)))).1, rfl, _, rfl⟩ (hx.lkeys t) (kplc _ _ c 1 _ _ _ (N1.isTup (.head _))) (Nat.lt_trans hl (by decide)) ?_
    intro h2 tk2 t2 k2
    have F2 := F1.keeps k2
    have N2 := N1.grown k2
    clear F1 N1
    dsimp only
    k_steps
    (try dsimp only [Hold])
    refine pop_at (vs := vl) (n := nl) F2 N2 (by rw [hx.length]; exact hi e) (Nat.lt_trans hl (by decide)) (by k_upd) ?_
    intro v9 h9 F9 N9
    dsimp only
    k_steps
    exact ret _ _ _ _ F9 (fun p hp => N9 p (.tail _ hp)) (if_neg e).symm
  · rename (c.deed : Int) = 2 => e
    exact ret _ _ _ _ F N (if_pos (Int.ofNat.inj e)).symm
end
section
variable {prog : Program} {w : World} {A : Around} {s : Shared} {mg mb : Str → Option Value} {Q E : Value → Shared → Prop}
/-- the rows behind _law_taken -/
noncomputable def takR (r0 : Rows) (c : Cl) : Rows := r0.set (grp c.name) { r0.get (grp c.name) with
  cuts := if c.deed = 1 then (r0.get (grp c.name)).cuts else (r0.get (grp c.name)).cuts.eraseIdx (bl (r0.get (grp c.name)).cuts (plc c 1)),
  lays := if c.deed = 2 then (r0.get (grp c.name)).lays else (r0.get (grp c.name)).lays.eraseIdx (bl (places (r0.get (grp c.name)).lays) (plc c 1)) }
theorem tak_all {ra : RAd} {r0 : Rows} {cv : Value} {c : Cl} {h₀ : Heap} (r : Room A 9) (G : Gr w mg mb h₀) (kk : h₀.StaysIn s.heap) (h0 : ∀ a ∈ ra.lists, h₀.get? a = none)
    (hr : RowsIs w.params s.heap ra r0) (hs : Small r0) (hc : CallV s.heap cv c) (hgd : Good c)
    (hic : c.deed ≠ 1 → bl (r0.get (grp c.name)).cuts (plc c 1) < (r0.get (grp c.name)).cuts.length) (hil : c.deed ≠ 2 → bl (places (r0.get (grp c.name)).lays) (plc c 1) < (r0.get (grp c.name)).lays.length)
    (ret : ∀ h' tk, But ra.lists s.heap h' → RowsIs w.params h' ra (takR r0 c) → Q .none { s with heap := h', toks := tk }) :
    wpAny (model prog w) A (call (.ref 269) [.ref ra.d, cv]) Q E s := by
  obtain ⟨hnd, dpA, frA, gdA, unA⟩ := A; obtain rfl : hnd = none := r.handled
  refine gl_in fun gGl hGl => ?_
  obtain ⟨ca, t1, t2, t3, t4, t5, t6, t7, rfl, hct⟩ := hc
  have hg : grp c.name < 2 := by have := hgd.name; unfold grp; omega
  have kn := hr.kept _ hg
  have ap := RAd.apart hr.apart hg hg
  have hm : ∀ q ∈ (ra.get (grp c.name)).lists, q ∈ ra.lists := RAd.get_mem
  obtain ⟨smc, sml, smf, smq⟩ := hs _ hg
  refine hGl ?_
  clear hGl gGl
  generalize hka : ra.get (grp c.name) = ka at kn ap hm
  obtain ⟨kt, kc, kl, kf, kq⟩ := ka
  refine gl_in fun gGl hGl => ?_
  obtain ⟨-, -, -, -, acl, acf, acq, alf, alq, afq⟩ := ap
  dsimp only at acl acf acq alf alq afq
  obtain ⟨vc, nc, hvc, hca, -⟩ := kn.cuts
  obtain ⟨vl, nl, hvl, hla, -⟩ := kn.lays
  refine hGl ?_
  clear hGl gGl
  have hkt := kn.tup
  dsimp only at hvc hvl hkt
  have hWs : ∀ q ∈ [kc, kl], q ∈ ra.lists := fun q hq => by
    simp only [List.mem_cons, List.not_mem_nil, or_false] at hq
    rcases hq with rfl | rfl
    · exact hm _ (by simp [KAd.lists])
    · exact hm _ (by simp [KAd.lists])
  have hL : Lists [kc, kl] s.heap := hr.lists.sub hWs
  have tb := TupS.hide hL
  have hW : ∀ a ∈ [kc, kl], h₀.get? a = none := fun a ha => h0 a (hWs a ha)
  have hlc : vc.length < 1000 := by have := hca.length; omega
  have hll : vl.length < 1000 := by have := hla.length; omega
  refine wpAny_call ?_
  refine' enter (binds := [(Str.ofString "rows", .ref ra.d), (Str.ofString "call", .ref ca)]) [kc, kl] ?e2G ?e2kS ?e2kW ?e2k1 ?e2k2 ?e2kr ?e2k4 ?e2k5 ?e2kk ?e2c1 ?e2c2 ?e2c3 ?e2c4
  case e2G => assumption
  case e2kS => assumption
  case e2kW => assumption
  case e2k1 => k_is
  case e2k2 => k_is
  case e2kr => exact Room.dl (by assumption)
  case e2k4 => exact BindsTo.of_eq rfl
  case e2k5 => exact locs rfl
  case e2c1 => exact rfl
  case e2c2 => exact rfl
  case e2c3 => exact rfl
  case e2c4 => decide
  intro L h₁ F X T stW lt
  (try dsimp only)
  have hct' := tb _ _ hct
  have hK := tb _ _ hkt
  have hD : RowDict w.params (hideAll s.heap [kc, kl]) ra := by
    refine gl_in fun gGl hGl => ?_
    obtain ⟨d1, d2, dn, de⟩ := hr.dict
    refine hGl ?_
    clear hGl gGl
    exact ⟨d1, d2, dn, hideAll_get _ de fun q => by obtain ⟨o, ho, hc⟩ := hL _ q; rw [de] at ho; cases ho; simp at hc⟩
  have N : News (hideAll s.heap [kc, kl]) L h₁ [(kc, listOf vc.toArray nc), (kl, listOf vl.toArray nl)] := news_hidden stW lt (by
    intro p hp; simp only [List.mem_cons, List.not_mem_nil, or_false] at hp
    rcases hp with rfl | rfl
    · exact ⟨by simp, hvc⟩
    · exact ⟨by simp, hvl⟩)
  k_steps
  rename Fr _ _ _ _ => F1
  rename News _ _ _ _ => N1
  dsimp only [Hold]
  refine wpAny_execs_cons ?_
  refine tk_cut (by k_is) (r.less (by decide)) ⟨X, T⟩ ⟨rfl, rfl, rfl, rfl, rfl⟩ acl F1 N1 (hca.imp fun _ _ z => z.keeps tb) hlc hic ?_
  intro h2 tk2 v2 n2 F2 N2 e2
  dsimp only
  refine wpAny_execs_cons ?_
  refine tk_lay (by k_is) (r.less (by decide)) ⟨X, T⟩ ⟨rfl, rfl, rfl, rfl, rfl⟩ acl F2 N2 (hla.imp fun _ _ z => z.keeps tb) hll hil ?_
  intro h9 tk9 v3 n3 F9 N9 e3
  dsimp only
  k_steps
  have t9 := tb.trans (TupS.of F9.keep)
  refine ret _ _ ((But.of_fr F9).more hWs) ?_
  refine rows_set hg hr (But.of_fr F9) (by rw [hka]; simp [KAd.lists]) (.inr ?_) (.inr ?_) ?_ ?_
  · rw [hka]
    have q := (N9 (kc, listOf v2.toArray n2) (.head _)).1
    show RowIs h9 kc _ (if c.deed = 1 then _ else _)
    by_cases z : c.deed = 1
    · rw [if_pos z] at e2 ⊢; subst e2; exact ⟨_, _, q, hca.imp fun _ _ z => KeyIs.keeps z t9, Nat.lt_trans hlc (by decide)⟩
    · rw [if_neg z] at e2 ⊢; subst e2; exact rowIs_del q (hca.imp fun _ _ z => KeyIs.keeps z t9) hlc
  · rw [hka]
    have q := (N9 (kl, listOf v3.toArray n3) (.tail _ (.head _))).1
    show RowIs h9 kl _ (if c.deed = 2 then _ else _)
    by_cases z : c.deed = 2
    · rw [if_pos z] at e3 ⊢; subst e3; exact ⟨_, _, q, hla.imp fun _ _ z => LayV.keeps z t9, Nat.lt_trans hll (by decide)⟩
    · rw [if_neg z] at e3 ⊢; subst e3; exact rowIs_del q (hla.imp fun _ _ z => LayV.keeps z t9) hll
  · rw [hka]; refine .inl ⟨?_, rfl⟩; simp only [List.mem_cons, List.not_mem_nil, or_false, not_or]; (repeat' constructor) <;> first | assumption | exact Ne.symm (by assumption)
  · rw [hka]; refine .inl ⟨?_, rfl⟩; simp only [List.mem_cons, List.not_mem_nil, or_false, not_or]; (repeat' constructor) <;> first | assumption | exact Ne.symm (by assumption)
end
end
local macro_rules | `(tactic| walk_at "exec Assign cons ListComp") => `(tactic| (refine hold ?_))
local macro_rules | `(tactic| walk_at "eval ListComp") => `(tactic| (refine hold ?_))
local macro_rules | `(tactic| walk_at "binaryOp Add ref ref") => `(tactic| (refine hold ?_))
local macro_rules | `(tactic| walk_at "exec If BoolOp") => `(tactic| (refine hold ?_))
section
section
variable {prog : Program} {w : World} {A : Around} {s : Shared} {env : Env} {g : Heap} {L : Addr}
/-- the iterating of a comprehension without tests over a list -/
theorem comp_iter {l : Addr} {vs : List Value} {m : Str → Option Value} {news : List (Addr × Obj)} {E : Value → Shared → Prop} {Qn : Shared → Prop} {scope : Scope} {x y : Str} {elt : Expr} (FF : Value → Value → Prop)
    (hh : A.handled = none) (hl : s.heap.IsList l vs.toArray) (F : Fr g env.locals s.heap m) (N : News g env.locals s.heap news) (hsz : vs.length ≤ sizeLine)
    (helt : ∀ C v s₃ m₃ E', v ∈ vs → s₃.heap.Ns C m₃ → m₃ x = some v → s.heap.StaysIn s₃.heap → wpAny (model prog w) A (eval elt (compEnv scope C env)) (fun z s₄ => FF v z ∧ Keeps s₃ s₄) E' s₃)
    (k : ∀ D h' tk ys n, Paired FF vs ys → Fr g env.locals h' (fun z => if z = y then some (.ref D) else m z) → News g env.locals h' ((D, listOf ys.toArray n) :: news) → (∀ p ∈ news, p.1 ≠ D) → s.heap.get? D = none → Qn { s with heap := h', toks := tk }) :
    wpAny (model prog w) A (pyIter (.ref l)) (fun it s₂ => ∃ I fp wr n P St m, it = .ref I ∧ Walks prog w A I fp wr n P St ∧ n ≤ sizeLine ∧ St 0 s₂.heap ∧ (∀ b ∈ fp, b < s₂.heap.objs.size) ∧
      env.locals ∉ wr ∧ s₂.heap.Ns env.locals m ∧ QuietOn prog w A env scope x [] elt wr P (fun _ => true) FF s₂ ∧
      (∀ D h' tk ys (vs : List Value), s₂.heap.get? D = none → h'.IsList D ys → h'.PlainList D ys → vs.length = n → (∀ j v, vs[j]? = some v → P j v) → Paired FF (vs.filter (fun _ => true)) ys.toList →
        h'.Ns env.locals (fun z => if z = y then some (.ref D) else m z) → (∀ b o, b ≠ env.locals → b ∉ wr → s₂.heap.get? b = some o → h'.get? b = some o) → Qn { s₂ with heap := h', toks := tk })) E s := by
  refine wpAny_pyIter_list hl ?_
  obtain ⟨ol, hol, _⟩ := id hl
  have hlt : l < s.heap.objs.size := Heap.lt_size hol
  have hne : l ≠ s.heap.objs.size := Nat.ne_of_lt hlt
  have hLlt : env.locals < s.heap.objs.size := F.ns.lt
  have W := Walks.list (prog := prog) (w := w) hh s.heap.objs.size l hne vs.toArray
  refine ⟨_, _, _, vs.toArray.size, _, _, m, rfl, W, by rw [List.size_toArray]; exact hsz, ⟨⟨_, Heap.get?_push_size _ rfl, rfl, rfl⟩, hl.at fun o e => Heap.get?_push_of_some _ e⟩, ?_, ?_, (F.push _).ns, ⟨?_, ?_⟩, ?_⟩
  · intro b hb
    rw [Heap.size_push]
    simp only [List.mem_cons, List.not_mem_nil, or_false] at hb
    rcases hb with rfl | rfl
    · exact Nat.lt_succ_self _
    · exact Nat.lt_succ_of_lt hlt
  · simp only [List.mem_singleton]; exact Nat.ne_of_lt hLlt
  · intro C i v s₃ m₃ E' hv hn hm hk htk
    exact wpAny_pure ⟨rfl, s₃.heap, s₃.toks, rfl, fun _ _ e => e⟩
  · intro C i v s₃ m₃ E' hv _ hn hm hk htk
    refine helt C v s₃ m₃ E' ?_ hn hm fun b o e => hk b o ?_ (Heap.get?_push_of_some _ e)
    · have hv' : vs[i]? = some v := by simpa using hv
      exact List.mem_of_getElem? hv'
    · simp only [List.mem_singleton]; exact Nat.ne_of_lt (Heap.lt_size e)
  · intro D h' tk ys us hD hlD hpl hlen hP hF hns hk
    have hus : us = vs := by
      refine List.ext_getElem? fun j => ?_
      by_cases q : j < us.length
      · have h1 := hP j us[j] (by simp [q])
        have h2 : vs[j]? = some us[j] := by simpa using h1
        rw [h2]; simp [q]
      · rw [List.getElem?_eq_none (by omega), List.getElem?_eq_none (by rw [List.size_toArray] at hlen; omega)]
    subst hus
    have hDs : s.heap.get? D = none := by
      cases q : s.heap.get? D with
      | none => rfl
      | some o => rw [Heap.get?_push_of_some _ q] at hD; cases hD
    obtain ⟨n, hDo⟩ := hpl
    obtain ⟨li, rfl⟩ : ∃ li : List Value, ys = li.toArray := ⟨ys.toList, by rw [Array.toArray_toList]⟩
    have keep : ∀ b o, b ≠ env.locals → s.heap.get? b = some o → h'.get? b = some o := fun b o hb e => hk b o hb (by simp only [List.mem_singleton]; exact Nat.ne_of_lt (Heap.lt_size e)) (Heap.get?_push_of_some _ e)
    refine k D h' tk li n (by have e : us.filter (fun _ => true) = us := List.filter_eq_self.mpr fun _ _ => rfl; rw [e] at hF; exact hF) ⟨hns, fun b o e => ?_, F.above⟩ (fun p hp => ?_) (fun p hp e => ?_) hDs
    · exact keep b o (Nat.ne_of_lt (Nat.lt_of_lt_of_le (Heap.lt_size e) F.above)) (F.keep b o e)
    · rcases List.mem_cons.mp hp with rfl | hp
      · refine ⟨hDo, fun e => ?_, ?_⟩
        · obtain ⟨oL, _, _, hL, _⟩ := F.ns
          (try dsimp only at e)
          rw [← e, hDs] at hL; cases hL
        · cases q : g.get? D with
          | none => rfl
          | some o => have := F.keep _ _ q; (try dsimp only at this); rw [hDs] at this; cases this
      · exact ⟨keep _ _ (N p hp).2.1 (N p hp).1, (N p hp).2⟩
    · have := (N p hp).1
      rw [e, hDs] at this; cases this
/-- lay[2] -/
theorem elt_item {C a : Addr} {x : Str} {px pk pos : Pos} {scope : Scope} {us : List Value} {v : Value} {j : Nat} {m : Str → Option Value} {E : Value → Shared → Prop} {FF : Value → Prop}
    (hk : scope.kind = .function) (hx : scope.names.lookup x = some .local) (hd : (x == ("__debug__" : Str)) = false) (hn : s.heap.Ns C m) (hm : m x = some (.ref a)) (ht : IsTup s.heap a us.toArray) (hv : us[j]? = some v) (hF : FF v) (hj : j < 100) :
    wpAny (model prog w) A (eval (.Subscript (.Name x px) (.Constant (.int (j : Nat)) 0 pk) pos) (compEnv scope C env)) (fun z s₄ => FF z ∧ Keeps s s₄) E s := by
  refine Subscript_ (wpAny_Name (wpAny_loadName_local (v := .ref a) hk hx hn hm ?_) hd)
  refine wpAny_Constant_int ?_
  have hjl : j < us.length := by
    rcases Nat.lt_or_ge j us.length with h | h
    · exact h
    · rw [List.getElem?_eq_none h] at hv; cases hv
  refine item_tupleT (l := us) (j := j) (x := v) ht (by omega) (by omega) (seqIndex_of (by omega) (by omega) |>.trans (by rw [Int.toNat_natCast])) hv ?_
  exact ⟨hF, s.heap, _, rfl, fun _ _ e => e⟩
theorem comp_iterE {l : Addr} {vs : List Value} {m : Str → Option Value} {news : List (Addr × Obj)} {E : Value → Shared → Prop} {Qn : Addr → Shared → Prop} {scope : Scope} {x : Str} {elt : Expr} (FF : Value → Value → Prop)
    (hh : A.handled = none) (hl : s.heap.IsList l vs.toArray) (F : Fr g env.locals s.heap m) (N : News g env.locals s.heap news) (hsz : vs.length ≤ sizeLine)
    (helt : ∀ C v s₃ m₃ E', v ∈ vs → s₃.heap.Ns C m₃ → m₃ x = some v → s.heap.StaysIn s₃.heap → wpAny (model prog w) A (eval elt (compEnv scope C env)) (fun z s₄ => FF v z ∧ Keeps s₃ s₄) E' s₃)
    (k : ∀ D h' tk ys n, Paired FF vs ys → Fr g env.locals h' m → News g env.locals h' ((D, listOf ys.toArray n) :: news) → (∀ p ∈ news, p.1 ≠ D) → s.heap.get? D = none → Qn D { s with heap := h', toks := tk }) :
    wpAny (model prog w) A (pyIter (.ref l)) (fun it s₂ => ∃ I fp wr n P St, it = .ref I ∧ Walks prog w A I fp wr n P St ∧ n ≤ sizeLine ∧ St 0 s₂.heap ∧ (∀ b ∈ fp, b < s₂.heap.objs.size) ∧
      QuietOn prog w A env scope x [] elt wr P (fun _ => true) FF s₂ ∧
      (∀ D h' tk ys (vs : List Value), s₂.heap.get? D = none → h'.IsList D ys → h'.PlainList D ys → vs.length = n → (∀ j v, vs[j]? = some v → P j v) → Paired FF (vs.filter (fun _ => true)) ys.toList →
        (∀ b o, b ∉ wr → s₂.heap.get? b = some o → h'.get? b = some o) → Qn D { s₂ with heap := h', toks := tk })) E s := by
  refine wpAny_pyIter_list hl ?_
  obtain ⟨ol, hol, _⟩ := id hl
  have hlt : l < s.heap.objs.size := Heap.lt_size hol
  have hne : l ≠ s.heap.objs.size := Nat.ne_of_lt hlt
  have W := Walks.list (prog := prog) (w := w) hh s.heap.objs.size l hne vs.toArray
  refine ⟨_, _, _, vs.toArray.size, _, _, rfl, W, by rw [List.size_toArray]; exact hsz, ⟨⟨_, Heap.get?_push_size _ rfl, rfl, rfl⟩, hl.at fun o e => Heap.get?_push_of_some _ e⟩, ?_, ⟨?_, ?_⟩, ?_⟩
  · intro b hb
    rw [Heap.size_push]
    simp only [List.mem_cons, List.not_mem_nil, or_false] at hb
    rcases hb with rfl | rfl
    · exact Nat.lt_succ_self _
    · exact Nat.lt_succ_of_lt hlt
  · intro C i v s₃ m₃ E' hv hn hm hk htk
    exact wpAny_pure ⟨rfl, s₃.heap, s₃.toks, rfl, fun _ _ e => e⟩
  · intro C i v s₃ m₃ E' hv _ hn hm hk htk
    refine helt C v s₃ m₃ E' ?_ hn hm fun b o e => hk b o ?_ (Heap.get?_push_of_some _ e)
    · have hv' : vs[i]? = some v := by simpa using hv
      exact List.mem_of_getElem? hv'
    · simp only [List.mem_singleton]; exact Nat.ne_of_lt (Heap.lt_size e)
  · intro D h' tk ys us hD hlD hpl hlen hP hF hk
    have hus : us = vs := by
      refine List.ext_getElem? fun j => ?_
      by_cases q : j < us.length
      · have h1 := hP j us[j] (by simp [q])
        have h2 : vs[j]? = some us[j] := by simpa using h1
        rw [h2]; simp [q]
      · rw [List.getElem?_eq_none (by omega), List.getElem?_eq_none (by rw [List.size_toArray] at hlen; omega)]
    subst hus
    have hDs : s.heap.get? D = none := by
      cases q : s.heap.get? D with
      | none => rfl
      | some o => rw [Heap.get?_push_of_some _ q] at hD; cases hD
    obtain ⟨n, hDo⟩ := hpl
    obtain ⟨li, rfl⟩ : ∃ li : List Value, ys = li.toArray := ⟨ys.toList, by rw [Array.toArray_toList]⟩
    have keep : s.heap.StaysIn h' := fun b o e => hk b o (by simp only [List.mem_singleton]; exact Nat.ne_of_lt (Heap.lt_size e)) (Heap.get?_push_of_some _ e)
    refine k D h' tk li n (by have e : us.filter (fun _ => true) = us := List.filter_eq_self.mpr fun _ _ => rfl; rw [e] at hF; exact hF) (F.keeps keep) (fun p hp => ?_) (fun p hp e => ?_) hDs
    · rcases List.mem_cons.mp hp with rfl | hp
      · refine ⟨hDo, fun e => ?_, ?_⟩
        · obtain ⟨oL, _, _, hL, _⟩ := F.ns
          (try dsimp only at e)
          rw [← e, hDs] at hL; cases hL
        · cases q : g.get? D with
          | none => rfl
          | some o => have := F.keep _ _ q; (try dsimp only at this); rw [hDs] at this; cases this
      · exact ⟨keep _ _ (N p hp).1, (N p hp).2⟩
    · have := (N p hp).1
      rw [e, hDs] at this; cases this
theorem IsTup.uniq {h : Heap} {a : Addr} {xs ys : List Value} (x : IsTup h a xs.toArray) (y : IsTup h a ys.toArray) : xs = ys := by
  obtain ⟨o, ho, _, n, hd⟩ := x
  obtain ⟨o', ho', _, n', hd'⟩ := y
  rw [ho] at ho'; cases ho'
  rw [hd] at hd'
  have := congrArg (fun d => match d with | Data.seq xs _ => xs.toList | _ => []) hd'
  simpa using this
noncomputable def Item2 (h : Heap) (v z : Value) : Prop := ∃ a v0 v1, v = .ref a ∧ IsTup h a [v0, v1, z].toArray
theorem paired_inv {α β : Type} {F : α → β → Prop} {v : α} {vs : List α} {ys : List β} (h : Paired F (v :: vs) ys) : ∃ y ws, ys = y :: ws ∧ F v y ∧ Paired F vs ws := by
  cases h with | cons h r => exact ⟨_, _, rfl, h, r⟩
theorem lays_texts {h : Heap} : ∀ {vs ys : List Value} {ls : List Lay}, All2 (LayV h) vs ls → Paired (Item2 h) vs ys → All2 TxV ys (ls.map (·.text)) := by
  intro vs ys ls h
  induction h generalizing ys with
  | nil => intro k; cases k; exact .nil
  | cons x _ ih =>
    intro k
    obtain ⟨y, ys', rfl, y1, r'⟩ := paired_inv k
    refine .cons ?_ (ih r')
    obtain ⟨⟨a, pv, t1, t2, e, ht, _⟩, _, hb⟩ := x
    obtain ⟨a', v0, v1, e', ht'⟩ := y1
    subst e
    obtain rfl : a = a' := Value.ref.inj e'
    have := IsTup.uniq ht ht'
    simp only [List.cons.injEq] at this
    obtain ⟨_, _, e3, _⟩ := this
    subst e3
    exact ⟨hb, _, rfl⟩
noncomputable def TestEnd (g : Heap) (L : Addr) (m : Str → Option Value) (need : List (Addr × Obj)) (s : Shared) (B b : Bool) (s₂ : Shared) : Prop := b = B ∧ ∃ h' tk, s₂ = { s with heap := h', toks := tk } ∧ Fr g L h' m ∧ News g L h' need
theorem Fr.noTup {g h : Heap} {L a : Addr} {m : Str → Option Value} (F : Fr g L h m) {xs : Array Value} (x : IsTup h a xs) : a ≠ L := by
  rintro rfl
  obtain ⟨o, ho, hc, n, hd⟩ := x
  obtain ⟨oL, es, ep, hL, hd', _⟩ := F.ns
  rw [ho] at hL; cases hL
  rw [hd] at hd'; cases hd'
theorem Fr.noTexts {g h : Heap} {L a : Addr} {m : Str → Option Value} (F : Fr g L h m) {ts : List Nat} (x : TextsIs h a ts) : a ≠ L := by
  rintro rfl
  obtain ⟨vs, n, ho, _⟩ := x
  obtain ⟨oL, es, ep, hL, hd', _⟩ := F.ns
  rw [ho] at hL; cases hL
  cases hd'
theorem TupS.frame {g h h' : Heap} {L : Addr} {m : Str → Option Value} (F : Fr g L h m) (hb : But [L] h h') : TupS h h' := fun a xs x => by
  have n := Fr.noTup F x
  obtain ⟨o, ho, r⟩ := x
  exact ⟨o, hb _ _ (by simpa using n) ho, r⟩
/-- an if that turns a name to False -/
theorem If_setF {test : Expr} {x : Str} {px pc pa pos : Pos} {m : Str → Option Value} {need : List (Addr × Obj)} {b0 : Bool} {Q : Flow → Shared → Prop} (B : Bool) {cn : Str} {cs : Scope} {ccd : Value} {a : Addr} {cl : List (Str × Addr)}
    (hx : m x = some (.bool b0)) (hk : cs.kind = .function) (hl : (envX cn cs L a ccd cl).kindOf x = some .local)
    (htest : wpAny (model prog w) A (isTrue test (envX cn cs L a ccd cl) (eval test (envX cn cs L a ccd cl))) (TestEnd g L m need s B) (fun _ _ => False) s)
    (k : ∀ h' tk, Fr g L h' (fun y => if y = x then some (.bool (b0 && !B)) else m y) → News g L h' need → Q .next { s with heap := h', toks := tk }) :
    wpAny (model prog w) A (exec (.If test [.Assign [.Name x px] (.Constant (.bool false) 0 pc) pa] [] pos) (envX cn cs L a ccd cl)) Q (fun _ _ => False) s := by
  refine wpAny_If (wpAny_mono htest (fun b s₂ h₂ => ?_) fun _ _ e => e)
  obtain ⟨rfl, h', tk, rfl, F, N⟩ := h₂
  cases b with
  | false =>
    simp only [Bool.false_eq_true, if_false]
    refine wpAny_execs_nil (k h' tk ?_ N)
    have e : (fun y => if y = x then some (Value.bool (b0 && !false)) else m y) = m := by
      funext y
      by_cases q : y = x
      · rw [if_pos q, q, hx]; simp
      · rw [if_neg q]
    rw [e]
    exact F
  | true =>
    simp only [if_true]
    refine wpAny_execs_cons ?_
    refine wpAny_Assign_Name ?_
    refine wpAny_Constant_bool ?_
    refine storeX_L (s := { s with heap := h', toks := tk }) F N (fun h2 F2 N2 => ?_) hk hl
    refine wpAny_execs_nil (k h2 _ ?_ N2)
    rw [show (b0 && !true) = false by simp]
    exact F2
end
end
section
local macro_rules | `(tactic| walk_at "execs cons If cons") => `(tactic| (refine hold ?_))
theorem kplc2 (h : Heap) (a : Nat) (c : Cl) (e : Int) (t1 t2 t3 : Tok) (hh : IsTup h a [.int c.hour t1, .int c.mark t2, .int e t3].toArray) : KeyIs h true (.ref a) (plc c e) :=
  ⟨a, _, rfl, hh, .cons _ _ (.cons _ _ (.cons _ _ .nil))⟩
noncomputable def AnsV (ok : Addr → Prop) (h : Heap) (v : Value) (a : Ans) : Prop := match a with
  | .no => v = .none
  | .one t => TxV v t
  | .all ts => ∃ l, v = .ref l ∧ TextsIs h l ts ∧ ok l
theorem All2.mem2 {α : Type} {R : Value → α → Prop} : ∀ {vs : List Value} {as : List α} {v : Value}, All2 R vs as → v ∈ vs → ∃ a, R v a := by
  intro vs as v h
  induction h with
  | nil => exact fun m => nomatch m
  | cons h _ ih =>
    intro m
    rcases List.mem_cons.mp m with rfl | m
    · exact ⟨_, h⟩
    · exact ih m
theorem Fr.see {g h : Heap} {L : Addr} {m : Str → Option Value} {x : Str} {v : Value} (F : Fr g L h m) (e : m x = some v) : Fr g L h (fun y => if y = x then some v else m y) := by
  have q : (fun y => if y = x then some v else m y) = m := by
    funext y
    by_cases q : y = x
    · rw [if_pos q, q, e]
    · rw [if_neg q]
  rw [q]; exact F
noncomputable abbrev chM (m : Str → Option Value) (kt pa ta na : Addr) (av : Value) (free : Bool) : Str → Option Value := fun y => if y = Str.ofString "free" then some (.bool free) else if y = Str.ofString "kept" then some (.ref kt) else if y = Str.ofString "place" then some (.ref pa) else
  if y = Str.ofString "then" then some (.ref ta) else if y = Str.ofString "now" then some (.ref na) else if y = Str.ofString "answer" then some av else m y
section
variable {prog : Program} {w : World} {A : Around} {ge : Array GenState} {dr : Drawn} {os : OsState} {mg mb : Str → Option Value} {Q : Flow → Shared → Prop}
theorem change_tail {oc : Value} {od : Option Addr} {name qual : Str} {params : Arguments} {b1 b2 b3 b4 b5 b6 : Stmt} {rest : List Stmt} {scope : Scope} {dV kV doc pm cdv ct : Value} {an : Option Addr} {osl : Array (Option Value)}
    {g h : Heap} {L pa ta na : Addr} {av : Value} {ka : KAd} {kp : Kept} {c : Cl} {u1 u2 u3 : Tok} {m : Str → Option Value} {thn now : List Nat} {vn vt : List Value} {nn nt tk : Nat}
    (ho : (hd.heap_1 w.params).lookup 255 = some ⟨oc, od, .func (fnOf name qual params (b1 :: b2 :: b3 :: b4 :: b5 :: b6 :: rest) scope dV kV doc pm an cdv ct), osl⟩) (r : Room A 8) (G : Gr w mg mb g)
    (F : Fr g L h (chM m ka.t pa ta na av true)) (N : News g L h [(pa, { cls := .type "tuple", data := .seq #[.int c.hour u1, .int c.mark u2, .int 1 u3] }), (na, listOf vn.toArray nn), (ta, listOf vt.toArray nt)]) (hk : KeptIs g ka kp) (hta : All2 TxV vt thn) (hna : All2 TxV vn now) (htl : vt.length < 2 ^ 20) (hnl : vn.length < 2 ^ 20)
    (ret : ∀ h' tk' D, g.StaysIn h' → IsTup h' D [.bool (!(decide (now ≠ thn) && asked kp.alls kp.cuts (plc c 1)) && !(decide (now.take 1 ≠ thn.take 1) && asked kp.firsts kp.cuts (plc c 1))), av, .ref ta, .ref na].toArray → TextsIs h' ta thn → TextsIs h' na now → Q (.ret (.ref D)) ⟨h', ge, dr, tk', os⟩) :
    wpAny (model prog w) (A.deeper (envOf qual scope L 255 cdv)) (execs rest (envOf qual scope L 255 cdv)) Q (fun _ _ => False) ⟨h, ge, dr, tk, os⟩ := by
  obtain ⟨hnd, dpA, frA, gdA, unA⟩ := A; obtain rfl : hnd = none := r.handled
  have q := ho.symm.trans (show (hd.heap_1 w.params).lookup 255 = some _ by k_is)
  obtain ⟨e1, e2, e3, e4⟩ := fn_eqs q
  have e5 : rest = _ := body_from 6 e4
  clear ho q e4
  subst e5
  have e1 : qual = _ := e1
  have e2 : scope = _ := e2
  have e3 : cdv = _ := e3
  subst e1 e2 e3
  have X := G.k
  have T := G.t
  have hkt := hk.tup
  refine wpAny_execs_cons ?_
  refine If_setF (g := g) (b0 := true) (m := chM m ka.t pa ta na av true) (need := [(pa, { cls := .type "tuple", data := .seq #[.int c.hour u1, .int c.mark u2, .int 1 u3] }), (na, listOf vn.toArray nn), (ta, listOf vt.toArray nt)]) (decide (now ≠ thn) && asked kp.alls kp.cuts (plc c 1)) rfl rfl rfl ?_ ?_
  · k_steps
    dsimp only [Hold]
    refine ne_texts (Room.ul64 (r.deeper _)) ⟨vn, _, (N _ (.tail _ (.head _))).1, hna, hnl⟩ ⟨vt, _, (N _ (.tail _ (.tail _ (.head _)))).1, hta, htl⟩ ?_
    k_steps
    · rename now = thn => e2
      exact ⟨by simp [e2], h, tk, rfl, F, N⟩
    · rename ¬ now = thn => e2
      dsimp only [Hold]
      refine asked_spec ((r.deeper _).less (by decide)) (G.keeps F.keep) (hk.alls.but (W := []) (But.nil F.keep) (by simp) fun _ _ z => KeyIs.keeps z (TupS.of F.keep)) (hk.cuts.but (W := []) (But.nil F.keep) (by simp) fun _ _ z => KeyIs.keeps z (TupS.of F.keep)) (kplc2 _ _ c 1 _ _ _ (N.isTup (.head _))) ?_
      intro h5 tk5 k5
      have F5 := F.keeps k5
      have N5 := N.grown k5
      clear F N
      dsimp only
      k_steps
      all_goals exact ⟨by simp [e2, *], h5, tk5, rfl, F5, N5⟩
  · intro h6 tk6 F6 N6
    clear F N
    dsimp only
    k_steps
    dsimp only [Hold]
    refine wpAny_execs_cons ?_
    refine If_setF (g := g) (b0 := (true && !(decide (now ≠ thn) && asked kp.alls kp.cuts (plc c 1)))) (m := fun y => if y = Str.ofString "free" then some (.bool (true && !(decide (now ≠ thn) && asked kp.alls kp.cuts (plc c 1)))) else chM m ka.t pa ta na av true y) (need := [(pa, { cls := .type "tuple", data := .seq #[.int c.hour u1, .int c.mark u2, .int 1 u3] }), (na, listOf vn.toArray nn), (ta, listOf vt.toArray nt)]) (decide (now.take 1 ≠ thn.take 1) && asked kp.firsts kp.cuts (plc c 1)) rfl rfl rfl ?_ ?_
    · k_steps
      rename Fr _ _ _ _ => F1
      rename News _ _ _ _ => N1
      (try dsimp only [Hold])
      refine kmk_slice (s := ⟨_, _, _, _, _⟩) F1 N1 (⟨_, (N1 (na, listOf vn.toArray nn) (by k_mem)).1, rfl, _, rfl⟩) (.none) (.int _ _) ?_ (by with_unfolding_all rfl) (by intro _; with_unfolding_all rfl) (size_line hnl)
      intro D22 h22 F22 N22 l22
      rw [show slicePick vn.toArray none (some 1) none = (vn.take 1).toArray from pick_to vn 1] at N22
      replace l22 := allLt_of l22
      simp only [AllLt, and_true] at l22
      clear F1 N1
      dsimp only
      k_steps
      rename Fr _ _ _ _ => F1
      rename News _ _ _ _ => N1
      (try dsimp only [Hold])
      refine kmk_slice (s := ⟨_, _, _, _, _⟩) F1 N1 (⟨_, (N1 (ta, listOf vt.toArray nt) (by k_mem)).1, rfl, _, rfl⟩) (.none) (.int _ _) ?_ (by with_unfolding_all rfl) (by intro _; with_unfolding_all rfl) (size_line htl)
      intro D23 h23 F23 N23 l23
      rw [show slicePick vt.toArray none (some 1) none = (vt.take 1).toArray from pick_to vt 1] at N23
      replace l23 := allLt_of l23
      simp only [AllLt, and_true] at l23
      clear F1 N1
      dsimp only
      k_steps
      rename Fr _ _ _ _ => F1
      rename News _ _ _ _ => N1
      have N2 := fun p hp => N1 p (.tail _ (.tail _ hp))
      dsimp only [Hold]
      refine ne_texts (ts := now.take 1) (us := thn.take 1) (Room.ul64 (r.deeper _)) ⟨vn.take 1, _, (N1 _ (.tail _ (.head _))).1, hna.take 1, by rw [List.length_take]; omega⟩ ⟨vt.take 1, _, (N1 _ (.head _)).1, hta.take 1, by rw [List.length_take]; omega⟩ ?_
      k_steps
      · rename now.take 1 = thn.take 1 => e2
        exact ⟨by simp [e2], _, _, rfl, F1, N2⟩
      · rename ¬ now.take 1 = thn.take 1 => e2
        dsimp only [Hold]
        refine asked_spec ((r.deeper _).less (by decide)) (G.keeps F1.keep) (hk.firsts.but (W := []) (But.nil F1.keep) (by simp) fun _ _ z => KeyIs.keeps z (TupS.of F1.keep)) (hk.cuts.but (W := []) (But.nil F1.keep) (by simp) fun _ _ z => KeyIs.keeps z (TupS.of F1.keep)) (kplc2 _ _ c 1 _ _ _ (N1.isTup (.tail _ (.tail _ (.head _))))) ?_
        intro h5 tk5 k5
        have F5 := F1.keeps k5
        have N5 := News.grown N2 k5
        clear F1 N1
        dsimp only
        k_steps
        all_goals exact ⟨by simp [e2, *], h5, tk5, rfl, F5, N5⟩
    · intro h7 tk7 F7 N7
      clear F6 N6
      dsimp only
      k_steps
      dsimp only [Hold]
      k_steps
      rename Fr _ _ _ _ => F9
      rename News _ _ _ _ => N9
      (try dsimp only)
      rw [Bool.true_and] at N9
      exact ret _ _ _ F9.keep (N9.isTup (.head _)) ⟨vt, _, (N9 _ (.tail _ (.tail _ (.tail _ (.head _))))).1, hta, htl⟩ ⟨vn, _, (N9 _ (.tail _ (.tail _ (.head _)))).1, hna, hnl⟩
end
end
section
local macro_rules | `(tactic| walk_at "execs cons If cons") => `(tactic| (refine hold ?_))
theorem standing_len (k : Kept) (p : List Int) : (standing k p).length ≤ k.lays.length := by
  unfold standing
  dsimp only
  rw [List.length_drop, List.length_take]
  omega
/-- the frame of _law_change ahead of its fifth line -/
structure ChgM (m : Str → Option Value) (ra : RAd) (c : Cl) (ta : Addr) (t1 t2 t4 t6 t7 : Tok) : Prop where
  rows : m (Str.ofString "rows") = some (.ref ra.d)
  hour : m (Str.ofString "hour") = some (.int c.hour t1)
  mark : m (Str.ofString "mark") = some (.int c.mark t2)
  deed : m (Str.ofString "deed") = some (.int (c.deed : Nat) t4)
  other : m (Str.ofString "other") = some (.str (nm c.other) t6)
  text : m (Str.ofString "text") = some (.str (tx c.turn) t7)
  thn : m (Str.ofString "then") = some (.ref ta)
  now : m (Str.ofString "now") = some (.ref ta)
  answer : m (Str.ofString "answer") = some (.ref ta)
section
variable {prog : Program} {w : World} {A : Around} {ge : Array GenState} {dr : Drawn} {os : OsState} {mg mb : Str → Option Value} {Q : Flow → Shared → Prop}
theorem change_now {oc : Value} {od : Option Addr} {name qual : Str} {params : Arguments} {b1 b2 b3 b4 b5 b6 : Stmt} {rest : List Stmt} {scope : Scope} {dV kV doc pm cdv ct : Value} {an : Option Addr} {osl : Array (Option Value)}
    {g h : Heap} {L pa D12 : Addr} {ra : RAd} {r0 : Rows} {kb : KAd} {c : Cl} {t1 t2 t4 t6 t7 : Tok} {m : Str → Option Value} {ys12 : List Value} {n12 tk : Nat} {op : Obj}
    (ho : (hd.heap_1 w.params).lookup 255 = some ⟨oc, od, .func (fnOf name qual params (b1 :: b2 :: b3 :: b4 :: b5 :: b6 :: rest) scope dV kV doc pm an cdv ct), osl⟩) (r : Room A 8) (G : Gr w mg mb g)
    (F2 : Fr g L h m) (hm : ChgM m ra c D12 t1 t2 t4 t6 t7) (N2 : News g L h [(D12, listOf ys12.toArray n12), (pa, op)]) (hD : RowDict w.params g ra) (hkb : ra.get (grp c.other) = kb) (kn2 : KeptIs g kb (r0.get (grp c.other))) (hgd : Good c) (hd6 : c.deed < 6)
    (a12 : All2 TxV ys12 (thenP r0 c)) (z12 : ys12.length < 2 ^ 20) (y12 : ys12.length + 1 < 2 ^ 20)
    (ret : ∀ h' tk' m' na av vn nn, Fr g L h' m' → News g L h' [(pa, op), (na, listOf vn.toArray nn), (D12, listOf ys12.toArray n12)] → m' (Str.ofString "kept") = m (Str.ofString "kept") → m' (Str.ofString "place") = m (Str.ofString "place") → m' (Str.ofString "then") = m (Str.ofString "then") →
      m' (Str.ofString "now") = some (.ref na) → m' (Str.ofString "answer") = some av → All2 TxV vn (nowP r0 c) → vn.length < 2 ^ 20 → (∀ h, TextsIs h D12 (thenP r0 c) → AnsV (fun l => g.get? l = none) h av (ansP r0 c)) → Q .next ⟨h', ge, dr, tk', os⟩) :
    wpAny (model prog w) (A.deeper (envOf qual scope L 255 cdv)) (exec b5 (envOf qual scope L 255 cdv)) Q (fun _ _ => False) ⟨h, ge, dr, tk, os⟩ := by
  obtain ⟨hnd, dpA, frA, gdA, unA⟩ := A; obtain rfl : hnd = none := r.handled
  have q := ho.symm.trans (show (hd.heap_1 w.params).lookup 255 = some _ by k_is)
  refine gl_in fun gGl hGl => ?_
  obtain ⟨e1, e2, e3, e4⟩ := fn_eqs q
  have e5 : b5 = _ := Option.some.inj (show some b5 = some _ from body_at 4 e4)
  clear ho q e4
  subst e5
  have e1 : qual = _ := e1
  have e2 : scope = _ := e2
  have e3 : cdv = _ := e3
  subst e1 e2 e3
  have X := G.k
  have T := G.t
  have hkt2 := kn2.tup
  have hg2 : grp c.other < 2 := by have := hgd.other; unfold grp; omega
  obtain ⟨m1, m2, m3, m4, m5, m6, m7, m8, m9⟩ := hm
  refine hGl ?_
  clear hGl gGl
  k_steps
  · rename (c.deed : Int) = 0 => hz
    have hde : c.deed = 0 := by omega
    have en : nowP r0 c = [c.turn] := by simp [nowP, hde]
    rename Fr _ _ _ _ => F3
    rename News _ _ _ _ => N3
    (try dsimp only [Hold])
    have fr := (N3 (D12, listOf ys12.toArray n12) (by k_mem)).2.2
    exact ret _ _ _ _ _ ([.str (tx c.turn) t7]) _ F3 (List.forall_mem_cons.mpr ⟨N3 _ (by k_mem), List.forall_mem_cons.mpr ⟨N3 _ (by k_mem), List.forall_mem_cons.mpr ⟨N3 _ (by k_mem), List.forall_mem_nil _⟩⟩⟩) rfl rfl rfl (by first | rfl | exact m8) (by first | rfl | exact m9) (by rw [en]; exact .cons ⟨hgd.turn, _, rfl⟩ .nil) (by simp) fun h x9 => (by rw [show ansP r0 c = .all (thenP r0 c) by simp [ansP, hde]]; exact ⟨_, rfl, x9, fr⟩)
  · rename (c.deed : Int) = 1 => hz
    have hde : c.deed = 1 := by omega
    have en : nowP r0 c = thenP r0 c ++ [c.turn] := by simp [nowP, hde]
    rename Fr _ _ _ _ => F3
    rename News _ _ _ _ => N3
    dsimp only [Hold]
    refine add_arrays F3 N3 ⟨_, (N3 (D12, listOf ys12.toArray n12) (by k_mem)).1, rfl, _, rfl⟩ (its2 := [Value.str (tx c.turn) t7].toArray) ⟨_, (N3 (_, listOf [Value.str (tx c.turn) t7].toArray 0) (by k_mem)).1, rfl, _, rfl⟩ ?_ (by rw [List.size_toArray, List.size_toArray, sizeLine_eq]; simp only [List.length_cons, List.length_nil]; omega)
    intro h8 F8 N8
    clear F3 N3
    dsimp only
    k_steps
    rename Fr _ _ _ _ => F3
    rename News _ _ _ _ => N3
    (try dsimp only [Hold])
    have fr := (N3 (D12, listOf ys12.toArray n12) (by k_mem)).2.2
    exact ret _ _ _ _ _ (ys12 ++ [Value.str (tx c.turn) t7]) _ F3 (List.forall_mem_cons.mpr ⟨N3 _ (by k_mem), List.forall_mem_cons.mpr ⟨N3 _ (by k_mem), List.forall_mem_cons.mpr ⟨N3 _ (by k_mem), List.forall_mem_nil _⟩⟩⟩) rfl rfl rfl (by first | rfl | exact m8) (by first | rfl | exact m9) (by rw [en]; exact a12.append (.cons ⟨hgd.turn, _, rfl⟩ .nil)) (by rw [List.length_append]; simp only [List.length_cons, List.length_nil]; omega) fun h x9 => (by rw [show ansP r0 c = .all (thenP r0 c) by simp [ansP, hde]]; exact ⟨_, rfl, x9, fr⟩)
  · rename (c.deed : Int) = 2 => hz
    have hde : c.deed = 2 := by omega
    have en : nowP r0 c = [] := by simp [nowP, hde]
    rename Fr _ _ _ _ => F3
    rename News _ _ _ _ => N3
    (try dsimp only [Hold])
    have fr := (N3 (D12, listOf ys12.toArray n12) (by k_mem)).2.2
    exact ret _ _ _ _ _ ([]) _ F3 (List.forall_mem_cons.mpr ⟨N3 _ (by k_mem), List.forall_mem_cons.mpr ⟨N3 _ (by k_mem), List.forall_mem_cons.mpr ⟨N3 _ (by k_mem), List.forall_mem_nil _⟩⟩⟩) rfl rfl rfl (by first | rfl | exact m8) (by first | rfl | exact m9) (by rw [en]; exact .nil) (by simp) fun h x9 => (by rw [show ansP r0 c = .all (thenP r0 c) by simp [ansP, hde]]; exact ⟨_, rfl, x9, fr⟩)
  · rename (c.deed : Int) = 3 => hz
    have hde : c.deed = 3 := by omega
    rename Fr _ _ _ _ => F3
    rename News _ _ _ _ => N3
    dsimp only [Hold]
    have fr := (N3 (D12, listOf ys12.toArray n12) (by k_mem)).2.2
    refine ne_texts (ts := thenP r0 c) (us := []) (Room.ul64 (r.deeper _)) ⟨ys12, _, (N3 (D12, listOf ys12.toArray n12) (by k_mem)).1, a12, z12⟩ ⟨[], _, (N3 _ (.head _)).1, .nil, by simp⟩ ?_
    k_steps
    · rename decide (thenP r0 c = []) = true => eth0
      have eth := of_decide_eq_true eth0
      have en : nowP r0 c = [c.turn] := by simp [nowP, hde, eth]
      rename Fr _ _ _ _ => F3
      rename News _ _ _ _ => N3
      dsimp only [Hold]
      refine item_listL (l := [Value.str (tx c.turn) t7]) ⟨_, (N3 (_, listOf [Value.str (tx c.turn) t7].toArray 0) (by k_mem)).1, rfl, _, rfl⟩ (x := Value.str (tx c.turn) t7) (by decide) (by decide) rfl ?_
      k_steps
      rename Fr _ _ _ _ => F3
      rename News _ _ _ _ => N3
      (try dsimp only [Hold])
      exact ret _ _ _ _ _ ([Value.str (tx c.turn) t7]) _ F3 (List.forall_mem_cons.mpr ⟨N3 _ (by k_mem), List.forall_mem_cons.mpr ⟨N3 _ (by k_mem), List.forall_mem_cons.mpr ⟨N3 _ (by k_mem), List.forall_mem_nil _⟩⟩⟩) rfl rfl rfl (by first | rfl | exact m8) (by first | rfl | exact m9) (by rw [en]; exact .cons ⟨hgd.turn, _, rfl⟩ .nil) (by simp) fun h x9 => (by rw [show ansP r0 c = .one c.turn by simp [ansP, hde, en]]; exact ⟨hgd.turn, _, rfl⟩)
    · rename decide (thenP r0 c = []) = false => eth0
      have eth := of_decide_eq_false eth0
      have en : nowP r0 c = thenP r0 c := by simp [nowP, hde, eth]
      refine gl_in fun gGl hGl => ?_
      obtain ⟨x, xs, exs⟩ : ∃ x xs, thenP r0 c = x :: xs := by
        cases q : thenP r0 c with
        | nil => exact absurd q eth
        | cons x xs => exact ⟨x, xs, rfl⟩
      obtain ⟨v, vs, evs, hvx⟩ : ∃ v vs, ys12 = v :: vs ∧ TxV v x := by
        rw [exs] at a12
        cases a12 with
        | cons h r => exact ⟨_, _, rfl, h⟩
      refine hGl ?_
      clear hGl gGl
      rename Fr _ _ _ _ => F3
      rename News _ _ _ _ => N3
      dsimp only [Hold]
      refine item_listL ⟨_, (N3 (D12, listOf ys12.toArray n12) (by k_mem)).1, rfl, _, rfl⟩ (x := v) (by decide) (by decide) (by rw [evs]; rfl) ?_
      k_steps
      rename Fr _ _ _ _ => F3
      rename News _ _ _ _ => N3
      (try dsimp only [Hold])
      exact ret _ _ _ _ _ (ys12) _ F3 (List.forall_mem_cons.mpr ⟨N3 _ (by k_mem), List.forall_mem_cons.mpr ⟨N3 _ (by k_mem), List.forall_mem_cons.mpr ⟨N3 _ (by k_mem), List.forall_mem_nil _⟩⟩⟩) rfl rfl rfl (by first | rfl | exact m8) (by first | rfl | exact m9) (by rw [en]; exact a12) (z12) fun h x9 => (by rw [show ansP r0 c = .one x by simp [ansP, hde, en, exs]]; exact hvx)
  · rename (c.deed : Int) = 5 => hz
    have hde : c.deed = 5 := by omega
    rename Fr _ _ _ _ => F3
    rename News _ _ _ _ => N3
    dsimp only [Hold]
    have fr := (N3 (D12, listOf ys12.toArray n12) (by k_mem)).2.2
    refine wpAny_ListComp_walk (fun _ => true) (Item2 g) (by decide) (by decide) rfl (by decide) rfl ?_ (by intro _; with_unfolding_all rfl)
    k_steps
    dsimp only [Hold]
    (try rename Fr _ _ _ _ => F3)
    (try rename News _ _ _ _ => N3)
    refine standing_spec (k := r0.get (grp c.other)) (p := plc c 0) ((r.deeper _).less (by decide)) G F3.keep kn2 (kplc2 _ _ c 0 _ _ _ (N3.isTup (by k_mem))) ?_
    intro h13 tk13 D13 vs13 n13 k13 f13 g13 a13 z13
    replace F3 := F3.keeps k13
    replace N3 := N3.grown k13
    dsimp only
    k_steps
    dsimp only [Hold]
    refine' comp_iterE (Item2 g) ?cj1 ?cj2 ?cj3 ?cj4 ?cj5 ?cj6 ?cj7
    case cj1 => exact rfl
    case cj2 => exact ⟨_, g13, rfl, _, rfl⟩
    case cj3 => exact F3
    case cj4 => exact N3
    case cj5 => exact line_of z13
    · intro C v s₃ m₃ E' hv hn hm hk
      refine gl_in fun gGl hGl => ?_
      obtain ⟨l, hlv⟩ := a13.mem2 hv
      obtain ⟨⟨b, pv, u1, u2, rfl, hbt, -⟩, -, -⟩ := hlv
      refine hGl ?_
      clear hGl gGl
      exact elt_item (j := 2) rfl rfl (by decide) hn hm (hbt.keeps (fun b o e => hk b o (F3.keep b o e))) rfl ⟨b, _, _, rfl, hbt⟩ (by decide)
    intro D14 h14 tk14 ys14 n14 p14 F14 N14 ne14 fr14
    have a14 : All2 TxV ys14 ((standing (r0.get (grp c.other)) (plc c 0)).map (·.text)) := lays_texts a13 p14
    have z14 : ys14.length < 2 ^ 20 := by rw [← p14.length]; exact z13
    have en : nowP r0 c = ((standing (r0.get (grp c.other)) (plc c 0)).map (·.text)).take 1 := by simp [nowP, hde]
    clear F3 N3
    dsimp only
    k_steps
    (try dsimp only [Hold])
    refine kba_turn (value' := .Name (Str.ofString "x") default) (fun _ => rfl) ?_
    rename Fr _ _ _ _ => F1
    rename News _ _ _ _ => N1
    (try dsimp only [Hold])
    refine kmk_slice (s := ⟨_, _, _, _, _⟩) F1 N1 (⟨_, (N1 (D14, listOf ys14.toArray n14) (by k_mem)).1, rfl, _, rfl⟩) (.none) (.int _ _) ?_ (by with_unfolding_all rfl) (by intro _; with_unfolding_all rfl) (size_line z14)
    intro D22 h22 F22 N22 l22
    rw [show slicePick ys14.toArray none (some 1) none = (ys14.take 1).toArray from pick_to ys14 1] at N22
    replace l22 := allLt_of l22
    simp only [AllLt, and_true] at l22
    clear F1 N1
    dsimp only
    k_steps
    rename Fr _ _ _ _ => F3
    rename News _ _ _ _ => N3
    dsimp only [Hold]
    have a15 : All2 TxV (ys14.take 1) (nowP r0 c) := by rw [en]; exact a14.take 1
    have z15 : (ys14.take 1).length < 2 ^ 20 := by rw [List.length_take]; omega
    have fr15 := (N3 (_, listOf (ys14.take 1).toArray 0) (by k_mem)).2.2
    refine ne_texts (ts := nowP r0 c) (us := []) (Room.ul64 (r.deeper _)) ⟨ys14.take 1, _, (N3 (_, listOf (ys14.take 1).toArray 0) (by k_mem)).1, a15, z15⟩ ⟨[], _, (N3 _ (.head _)).1, .nil, by simp⟩ ?_
    k_steps
    · rename decide (nowP r0 c = []) = true => eth0
      have eth := of_decide_eq_true eth0
      rename Fr _ _ _ _ => F3
      rename News _ _ _ _ => N3
      (try dsimp only [Hold])
      exact ret _ _ _ _ _ (ys14.take 1) _ F3 (List.forall_mem_cons.mpr ⟨N3 _ (by k_mem), List.forall_mem_cons.mpr ⟨N3 _ (by k_mem), List.forall_mem_cons.mpr ⟨N3 _ (by k_mem), List.forall_mem_nil _⟩⟩⟩) rfl rfl rfl (by first | rfl | exact m8) (by first | rfl | exact m9) (a15) (z15) fun h x9 => (by rw [show ansP r0 c = .no by simp [ansP, hde, eth]]; exact rfl)
    · rename decide (nowP r0 c = []) = false => eth0
      have eth := of_decide_eq_false eth0
      refine gl_in fun gGl hGl => ?_
      obtain ⟨x, xs, exs⟩ : ∃ x xs, nowP r0 c = x :: xs := by
        cases q : nowP r0 c with
        | nil => exact absurd q eth
        | cons x xs => exact ⟨x, xs, rfl⟩
      obtain ⟨v, vs, evs, hvx⟩ : ∃ v vs, ys14.take 1 = v :: vs ∧ TxV v x := by
        rw [exs] at a15
        generalize ys14.take 1 = yy at a15
        cases a15 with
        | cons h r => exact ⟨_, _, rfl, h⟩
      refine hGl ?_
      clear hGl gGl
      rename Fr _ _ _ _ => F3
      rename News _ _ _ _ => N3
      dsimp only [Hold]
      refine item_listL ⟨_, (N3 (_, listOf (ys14.take 1).toArray 0) (by k_mem)).1, rfl, _, rfl⟩ (x := v) (by decide) (by decide) (by rw [evs]; rfl) ?_
      k_steps
      rename Fr _ _ _ _ => F3
      rename News _ _ _ _ => N3
      (try dsimp only [Hold])
      exact ret _ _ _ _ _ (ys14.take 1) _ F3 (List.forall_mem_cons.mpr ⟨N3 _ (by k_mem), List.forall_mem_cons.mpr ⟨N3 _ (by k_mem), List.forall_mem_cons.mpr ⟨N3 _ (by k_mem), List.forall_mem_nil _⟩⟩⟩) rfl rfl rfl (by first | rfl | exact m8) (by first | rfl | exact m9) (a15) (z15) fun h x9 => (by rw [show ansP r0 c = .one x by simp [ansP, hde, exs]]; exact hvx)
  · have hde : c.deed = 4 := by omega
    have en : nowP r0 c = thenP r0 c := by simp [nowP, hde]
    rename Fr _ _ _ _ => F3
    rename News _ _ _ _ => N3
    (try dsimp only [Hold])
    have fr := (N3 (D12, listOf ys12.toArray n12) (by k_mem)).2.2
    exact ret _ _ _ _ _ (ys12) _ F3 (List.forall_mem_cons.mpr ⟨N3 _ (by k_mem), List.forall_mem_cons.mpr ⟨N3 _ (by k_mem), List.forall_mem_cons.mpr ⟨N3 _ (by k_mem), List.forall_mem_nil _⟩⟩⟩) rfl rfl rfl (by first | rfl | exact m8) (by first | rfl | exact m9) (by rw [en]; exact a12) (z12) fun h x9 => (by rw [show ansP r0 c = .all (thenP r0 c) by simp [ansP, hde]]; exact ⟨_, rfl, x9, fr⟩)
end
section
variable {prog : Program} {w : World} {A : Around} {s : Shared} {mg mb : Str → Option Value} {Q E : Value → Shared → Prop}
theorem change_spec {ra : RAd} {r0 : Rows} {cv : Value} {c : Cl} (r : Room A 9) (G : Gr w mg mb s.heap)
    (hr : RowsIs w.params s.heap ra r0) (hs : Small r0) (hc : CallV s.heap cv c) (hgd : Good c) (hd6 : c.deed < 6)
    (ret : ∀ h' tk D ta na av, s.heap.StaysIn h' → IsTup h' D [.bool (freeP r0 c), av, .ref ta, .ref na].toArray → TextsIs h' ta (thenP r0 c) → TextsIs h' na (nowP r0 c) → s.heap.get? ta = none → s.heap.get? na = none → AnsV (fun l => s.heap.get? l = none) h' av (ansP r0 c) → Q (.ref D) { s with heap := h', toks := tk }) :
    wpAny (model prog w) A (call (.ref 255) [.ref ra.d, cv]) Q E s := by
  obtain ⟨hnd, dpA, frA, gdA, unA⟩ := A; obtain rfl : hnd = none := r.handled
  refine gl_in fun gGl hGl => ?_
  obtain ⟨ca, t1, t2, t3, t4, t5, t6, t7, rfl, hct⟩ := hc
  refine hGl ?_
  clear hGl gGl
  have hg : grp c.name < 2 := by have := hgd.name; unfold grp; omega
  have kn := hr.kept _ hg
  have kn2 := hr.kept _ (show grp c.other < 2 by have := hgd.other; unfold grp; omega)
  generalize hka : ra.get (grp c.name) = ka at kn
  generalize hkb : ra.get (grp c.other) = kb at kn2
  have hkt := kn.tup
  have hD := hr.dict
  refine wpAny_call ?_
  refine' enter0 (binds := [(Str.ofString "rows", .ref ra.d), (Str.ofString "call", .ref ca)]) ?e3G ?e3k1 ?e3k2 ?e3kr ?e3k4 ?e3k5 ?e3kk ?e3c1 ?e3c2 ?e3c3 ?e3c4
  case e3G => assumption
  case e3k1 => k_is
  case e3k2 => k_is
  case e3kr => exact Room.dl (by assumption)
  case e3k4 => exact BindsTo.of_eq rfl
  case e3k5 => exact locs rfl
  case e3c1 => exact rfl
  case e3c2 => exact rfl
  case e3c3 => exact rfl
  case e3c4 => decide
  intro L h₁ F X T N
  (try dsimp only)
  k_steps
  rename Fr _ _ _ _ => F1
  rename News _ _ _ _ => N1
  dsimp only [Hold]
  refine wpAny_Assign_ListComp_walk (fun _ => true) (Item2 s.heap) (by with_unfolding_all rfl) (by decide) (by decide) rfl (by decide) rfl (by with_unfolding_all rfl) (by with_unfolding_all rfl) ?_ (by intro _; with_unfolding_all rfl)
  k_steps
  dsimp only [Hold]
  refine standing_spec (k := r0.get (grp c.name)) (p := plc c 1) ((r.deeper _).less (by decide)) G F1.keep kn (kplc2 _ _ c 1 _ _ _ (N1.isTup (by k_mem))) ?_
  intro h11 tk11 D11 vs11 n11 k11 f11 g11 a11 z11
  have y11 : vs11.length + 1 < 2 ^ 20 := by
    have e1 := a11.length
    have e2 := standing_len (r0.get (grp c.name)) (plc c 1)
    have e3 := (hs _ hg).2.1
    omega
  replace F1 := F1.keeps k11
  replace N1 := N1.grown k11
  dsimp only
  k_steps
  dsimp only [Hold]
  refine' comp_iter (Item2 s.heap) ?ci1 ?ci2 ?ci3 ?ci4 ?ci5 ?ci6 ?ci7
  case ci1 => exact rfl
  case ci2 => exact ⟨_, g11, rfl, _, rfl⟩
  case ci3 => exact F1
  case ci4 => exact N1
  case ci5 => exact line_of z11
  · intro C v s₃ m₃ E' hv hn hm hk
    refine gl_in fun gGl hGl => ?_
    obtain ⟨l, hlv⟩ := a11.mem2 hv
    obtain ⟨⟨b, pv, u1, u2, rfl, hbt, -⟩, -, -⟩ := hlv
    refine hGl ?_
    clear hGl gGl
    exact elt_item (j := 2) rfl rfl (by decide) hn hm (hbt.keeps (fun b o e => hk b o (F1.keep b o e))) rfl ⟨b, _, _, rfl, hbt⟩ (by decide)
  intro D12 h12 tk12 ys12 n12 p12 F12 N12 ne12 fr12
  have a12 : All2 TxV ys12 (thenP r0 c) := lays_texts a11 p12
  have z12 : ys12.length < 2 ^ 20 := by rw [← p12.length]; exact z11
  have y12 : ys12.length + 1 < 2 ^ 20 := by rw [← p12.length]; exact y11
  clear F1 N1
  dsimp only
  k_steps
  rename Fr _ _ _ _ => F2
  rename News _ _ _ _ => N2
  dsimp only [Hold]
  refine wpAny_execs_cons ?_
  refine change_now (r0 := r0) (pa := _) (op := { cls := .type "tuple", data := .seq #[.int c.hour _, .int c.mark _, .int 1 _] }) (by k_is) (r.less (by decide)) G F2 ⟨rfl, rfl, rfl, rfl, rfl, rfl, rfl, rfl, rfl⟩ (List.forall_mem_cons.mpr ⟨N2 (D12, _) (by k_mem), List.forall_mem_cons.mpr ⟨N2 _ (by k_mem), List.forall_mem_nil _⟩⟩) hD hkb kn2 hgd hd6 a12 z12 y12 ?_
  intro h3 tk3 m3 na av vn nn F3 N3 q1 q2 q3 q4 q5 hna hnl han
  dsimp only
  k_steps
  rename Fr _ _ _ _ => F4
  rename News _ _ _ _ => N4
  dsimp only [Hold]
  refine change_tail (vn := vn) (vt := ys12) (kp := r0.get (grp c.name)) (c := c) (thn := thenP r0 c) (now := nowP r0 c) (by k_is) (r.less (by decide)) G (Fr.see (Fr.see (Fr.see (Fr.see (Fr.see (Fr.see F4 (by exact q5)) (by exact q4)) (by exact q3)) (by exact q2)) (by exact q1)) rfl) N4 kn a12 hna z12 hnl ?_
  intro h9 tk9 D9 k9 i9 x9 y9
  exact ret _ _ _ _ _ _ k9 i9 x9 y9 (N4 _ (.tail _ (.tail _ (.head _)))).2.2 (N4 _ (.tail _ (.head _))).2.2 (han h9 x9)
end
end
section
section
variable {prog : Program} {w : World} {A : Around} {s : Shared} {env : Env} {g : Heap} {L : Addr}
theorem compLoop_all {elt iter target : Expr} {ifs : List Expr} {scope : Scope} {pos : Pos} {it acc : Value} {env : Env} {R : Result → Shared → Prop} (I : Nat → Shared → Prop)
    (turn : ∀ n s, I n s → wpAny (model prog w) A (pyNext it) (fun r s₁ => match r with
      | none => R (.ok .next) s₁
      | some v => wpAny (model prog w) A (letOwnedTupleGo target it v) (fun _ s₁' => wpAny (model prog w) A (assign target env v) (fun _ s₂ =>
          wpAny (model prog w) A (forIn ifs true fun c r => if r = true then do let ok ← isTrue c env (eval c env); pure (ForInStep.yield ok) else pure (ForInStep.yield r)) (fun ok s₃ =>
            if ok = true then wpAny (model prog w) A (eval elt env) (fun x s₄ =>
              wpAny (model prog w) A (call (.builtin "list.append") [acc, x]) (fun _ s₅ => ∃ m, m < n ∧ I m s₅) (notedBy (model prog w) A env fun e s' => R (.error e) s') s₄) (notedBy (model prog w) A env fun e s' => R (.error e) s') s₃
            else ∃ m, m < n ∧ I m s₃) (notedBy (model prog w) A env fun e s' => R (.error e) s') s₂) (notedBy (model prog w) A env fun e s' => R (.error e) s') s₁') (notedBy (model prog w) A env fun e s' => R (.error e) s') s₁) (notedBy (model prog w) A env fun e s' => R (.error e) s') s)
    (n : Nat) (h : I n s) : codeAny (model prog w) A (.compLoop (.ListComp elt [⟨target, iter, ifs, 0⟩] scope pos) 0 it acc env) R s := by
  refine codeAny_loop rfl I (fun n s hI => ?_) n h
  show wpAny _ A ((compTurn (.ListComp elt [⟨target, iter, ifs, 0⟩] scope pos) 0 it acc env).onRaise (fun x => do noteFrame x env; theTreesLotGoes x)) _ _ s
  refine wpAny_noted ?_
  rw [compTurn_list]
  refine wpAny_bind (wpAny_standAt (wpAny_bind (wpAny_mono (turn n s hI) (fun r s₁ h₁ => ?_) fun _ _ h' => h')))
  cases r with
  | none => exact wpAny_pure h₁
  | some v =>
    refine wpAny_bind (wpAny_mono h₁ (fun _ s₁' h₁' => ?_) fun _ _ h' => h')
    refine wpAny_bind (wpAny_mono h₁' (fun _ s₂ h₂ => wpAny_bind (wpAny_mono h₂ (fun ok s₃ h₃ => ?_) fun _ _ h' => h')) fun _ _ h' => h')
    cases ok with
    | false => exact wpAny_pure ⟨rfl, h₃⟩
    | true =>
      exact wpAny_bind (wpAny_bind (wpAny_mono h₃ (fun x s₄ h₄ => wpAny_bind (wpAny_mono h₄ (fun _ s₅ h₅ => wpAny_pure (wpAny_pure ⟨rfl, h₅⟩)) fun _ _ h' => h')) fun _ _ h' => h'))
theorem Paired.mono {α β : Type} {F F' : α → β → Prop} (hm : ∀ a b, F a b → F' a b) : ∀ {l₁ : List α} {l₂ : List β}, Paired F l₁ l₂ → Paired F' l₁ l₂ := by
  intro l₁ l₂ h
  induction h with
  | nil => exact .nil
  | cons h _ ih => exact .cons (hm _ _ h) ih
theorem TupS.one {h h' : Heap} {b : Addr} {o : Obj} (hb : h.get? b = some o) (ho : ∀ xs n, o.data = .seq xs n → o.cls ≠ .type "tuple") (k : But [b] h h') : TupS h h' := fun a xs ⟨oa, ha, hc, n, hd⟩ => by
  refine ⟨oa, k a oa (fun q => ?_) ha, hc, n, hd⟩
  rw [List.mem_singleton] at q; subst q
  rw [hb] at ha; cases ha
  exact ho _ _ hd hc
theorem TupS.ns {h h' : Heap} {C : Addr} {m : Str → Option Value} (hn : h.Ns C m) (k : But [C] h h') : TupS h h' := by
  obtain ⟨oL, es, ep, hL, hd, _⟩ := hn
  exact TupS.one hL (fun xs n e => by rw [hd] at e; cases e) k
theorem But.same {h h' : Heap} {b : Addr} (k : Heap.SameBut b h h') : But [b] h h' := fun a o ha e => k.extBut a o (by simpa using ha) e
theorem But.ext {h h' : Heap} {b : Addr} (k : Heap.ExtBut b h h') : But [b] h h' := fun a o ha e => k a o (by simpa using ha) e
/-- any comprehension in one clause over a list -/
theorem comp_all {l : Addr} {vs : List Value} {m : Str → Option Value} {news : List (Addr × Obj)} {E : Value → Shared → Prop} {RR : Value → Addr → Result → Shared → Prop} {scope : Scope} {cl : List (Str × Addr)} {elt iter tgt : Expr} {ifs : List Expr} {pos : Pos}
    (PP : Value → (Str → Option Value) → Prop) (p : Value → Bool) (FF : Value → Value → Heap → Prop) (hFF : ∀ v z h h', TupS h h' → FF v z h → FF v z h')
    (hh : A.handled = none) (hgo : Goes prog w A tgt l) (hcell : ∀ y ∈ scope.names, y.2 ≠ .cell) (hkind : scope.kind = .function)
    (hl : s.heap.IsList l vs.toArray) (F : Fr g L s.heap m) (N : News g L s.heap news) (hsz : vs.length ≤ sizeLine)
    (hass : ∀ C v s₃ m₃ Q' E', v ∈ vs → s₃.heap.Ns C m₃ → s.heap.StaysIn s₃.heap → s.heap.objs.size ≤ C → (∀ h' m' tk, h'.Ns C m' → PP v m' → But [C] s₃.heap h' → Q' () { s₃ with heap := h', toks := tk }) → wpAny (model prog w) A (assign tgt (compEnvC scope cl C env) v) Q' E' s₃)
    (htest : ∀ C v s₃ m₃ E', v ∈ vs → s₃.heap.Ns C m₃ → PP v m₃ → s.heap.StaysIn s₃.heap → s.heap.objs.size ≤ C →
      wpAny (model prog w) A (forIn ifs true fun c r => if r = true then do let ok ← isTrue c (compEnvC scope cl C env) (eval c (compEnvC scope cl C env)); pure (ForInStep.yield ok) else pure (ForInStep.yield r)) (fun ok s₄ => ok = p v ∧ Keeps s₃ s₄) E' s₃)
    (helt : ∀ C v s₃ m₃ E', v ∈ vs → p v = true → s₃.heap.Ns C m₃ → PP v m₃ → s.heap.StaysIn s₃.heap → s.heap.objs.size ≤ C → wpAny (model prog w) A (eval elt (compEnvC scope cl C env)) (fun z s₄ => FF v z s₄.heap ∧ Keeps s₃ s₄) E' s₃)
    (k : ∀ D C h' tk m' ys n, Paired (fun v z => FF v z h') (vs.filter p) ys → Fr g L h' m → News g L h' ((D, listOf ys.toArray n) :: news) → (∀ p ∈ news, p.1 ≠ D) → s.heap.get? D = none → h'.Ns C m' → s.heap.get? C = none → C ≠ D → s.heap.StaysIn h' → RR (.ref D) C (.ok .next) { s with heap := h', toks := tk }) :
    wpAny (model prog w) A (pyIter (.ref l)) (fun it s₂ => wpAny (model prog w) A (newList []) (fun acc s₃ =>
      wpAny (model prog w) A (newFunctionEnv scope env.globals cl [] env.qual none .none (some env)) (fun cenv s₄ =>
        codeAny (model prog w) A (.compStart (.ListComp elt [⟨tgt, iter, ifs, 0⟩] scope pos) 0 it acc { cenv with scope := relabel scope env }) (RR acc cenv.locals) s₄) E s₃) E s₂) E s := by
  refine wpAny_pyIter_list hl ?_
  obtain ⟨ol, hol, _⟩ := id hl
  have hlt : l < s.heap.objs.size := Heap.lt_size hol
  generalize hI : s.heap.objs.size = I
  have hIn : ∀ b o, s.heap.get? b = some o → b ≠ I := fun b o e => hI ▸ Nat.ne_of_lt (Heap.lt_size e)
  generalize hS : s.heap.push { cls := .type "list_iterator", data := .fields #[.ref l, .int 0 0] } = H1
  have hH1 : H1.objs.size = I + 1 := by rw [← hS, Heap.size_push, hI]
  have up1 : s.heap.StaysIn H1 := fun b o e => hS ▸ Heap.get?_push_of_some _ e
  have hit1 : H1.IsListIter I l 0 := ⟨_, by rw [← hS, ← hI]; exact Heap.get?_push_size _ rfl, rfl, rfl⟩
  refine wpAny_newObj_type (wpAny_newFunctionEnv hcell (by intro y hy; simp at hy) (fun h₁ hns₁ hsb₁ => ?_) hkind)
  dsimp only at hns₁ hsb₁ ⊢
  generalize hH2 : H1.push { cls := .type "list", dict := none, data := .seq ([] : List Value).toArray } = H2 at hns₁ hsb₁ ⊢
  have hC : H2.objs.size = I + 2 := by rw [← hH2, Heap.size_push, hH1]
  generalize hCe : H2.objs.size = C at hns₁ hsb₁ ⊢
  generalize hDe : H1.objs.size = D
  have hCI : C ≠ I := by rw [← hCe, hC]; omega
  have hD1 : D = I + 1 := hDe.symm.trans hH1
  have hC2 : C = I + 2 := hCe.symm.trans hC
  have hDI : D ≠ I := by subst hD1; exact Nat.ne_of_gt (Nat.lt_succ_self _)
  have hDC : D ≠ C := by subst hD1; subst hC2; exact Nat.ne_of_lt (Nat.lt_succ_self _)
  have up2 : H1.StaysIn H2 := fun b o e => hH2 ▸ Heap.get?_push_of_some _ e
  have hold : ∀ b o, s.heap.get? b = some o → b ≠ I ∧ b ≠ C ∧ b ≠ D := fun b o e => by
    have := Heap.lt_size e
    rw [hI] at this
    refine ⟨Nat.ne_of_lt this, ?_, ?_⟩
    · rw [hC2]; exact Nat.ne_of_lt (Nat.lt_succ_of_lt (Nat.lt_succ_of_lt this))
    · rw [hD1]; exact Nat.ne_of_lt (Nat.lt_succ_of_lt this)
  have hCle : s.heap.objs.size ≤ C := by rw [hI, hC2]; exact Nat.le_succ_of_le (Nat.le_succ _)
  have up3 : ∀ b o, H2.get? b = some o → b ≠ C → h₁.get? b = some o := fun b o e hb => hsb₁.extBut b o hb (Heap.get?_push_of_some _ e)
  have hacc : h₁.PlainList D #[] := ⟨_, up3 _ _ (by rw [← hH2, ← hDe]; exact Heap.get?_push_size _ rfl) hDC⟩
  have hit : h₁.IsListIter I l 0 := by
    obtain ⟨o, ho, r⟩ := hit1
    exact ⟨o, up3 _ _ (up2 _ _ ho) (Ne.symm hCI), r⟩
  have stay : s.heap.StaysIn h₁ := fun b o e => up3 _ _ (up2 _ _ (up1 _ _ e)) (hold b o e).2.1
  have freshC : s.heap.get? C = none := by
    cases q : s.heap.get? C with
    | none => rfl
    | some o => exact absurd rfl (hold _ _ q).2.1
  have freshD : s.heap.get? D = none := by
    cases q : s.heap.get? D with
    | none => rfl
    | some o => exact absurd rfl (hold _ _ q).2.2
  have hls : ∀ h, s.heap.StaysIn h → h.IsList l vs.toArray := fun h st => hl.at fun o e => st l o e
  obtain ⟨n0, hacc⟩ := hacc
  have loop : ∀ s₃ : Shared, (∃ tk, s₃ = { s with heap := h₁, toks := tk }) →
      codeAny (model prog w) A (.compLoop (.ListComp elt [⟨tgt, iter, ifs, 0⟩] scope pos) 0 (.ref I) (.ref D) (compEnvC scope cl C env)) (RR (.ref D) C) s₃ := by
    rintro s₃ ⟨tk₀, rfl⟩
    refine compLoop_all (fun n s' => ∃ h tk m₁ i ys n', s' = { s with heap := h, toks := tk } ∧ s.heap.StaysIn h ∧ h.IsListIter I l i ∧ h.get? D = some (listOf ys.toArray n') ∧ h.Ns C m₁ ∧ Paired (fun v z => FF v z h) ((vs.take i).filter p) ys ∧ i ≤ vs.length ∧ n = vs.length + 1 - i) ?_ (vs.length + 1)
      ⟨h₁, tk₀, _, 0, [], n0, rfl, stay, hit, hacc, hns₁, .nil, Nat.zero_le _, rfl⟩
    intro n s' hXr
    refine gl_in fun gGl hGl => ?_
    obtain ⟨h, tk, m₁, i, ys, n', rfl, st, hi, hD, hns, hP, hle, rfl⟩ := hXr
    refine hGl ?_
    clear hGl gGl
    have oI : ∃ o, h.get? I = some o ∧ o.cls = .type "list_iterator" := by obtain ⟨o, ho, hc, _⟩ := hi; exact ⟨o, ho, hc⟩
    obtain ⟨oI, hoI, hcI⟩ := oI
    by_cases hlt : i < vs.length
    · have hx : vs.toArray[i]? = some vs[i] := by simp [hlt]
      have hmem : vs[i] ∈ vs := List.getElem_mem hlt
      have htk : vs.take (i + 1) = vs.take i ++ [vs[i]] := by rw [List.take_add_one]; simp [hlt]
      refine wpAny_pyNext_list_item hi (hls h st) hx fun h2 hi2 hs2 => ?_
      have st2 : s.heap.StaysIn h2 := fun b o e => hs2.extBut b o (hold b o e).1 (st b o e)
      refine hgo _ I (i + 1) vs[i] _ _ hi2 ?_
      have hns2 : h2.Ns C m₁ := hns.sameBut hs2 hCI
      refine hass C vs[i] _ _ _ _ hmem hns2 st2 hCle fun h3 m3 tk3 hns3 hPP3 b3 => ?_
      dsimp only at b3
      have st3 : s.heap.StaysIn h3 := fun b o e => b3 b o (by simpa using (hold b o e).2.1) (st2 b o e)
      refine wpAny_mono (htest C vs[i] _ _ _ hmem hns3 hPP3 st3 hCle) (fun ok s4 h4 => ?_) fun _ _ e => e
      obtain ⟨rfl, h4, tk4, rfl, hk4⟩ := h4
      have t4 : TupS h h4 := (TupS.one hoI (fun _ _ _ => by rw [hcI]; simp) (But.same hs2)).trans ((TupS.ns hns2 b3).trans (TupS.of hk4))
      have st4 : s.heap.StaysIn h4 := fun b o e => hk4 _ _ (st3 b o e)
      have hi4 : h4.IsListIter I l (i + 1) := by
        obtain ⟨o, ho, r⟩ := hi2
        exact ⟨o, hk4 _ _ (b3 _ _ (by simpa using Ne.symm hCI) ho), r⟩
      have hD4 : h4.get? D = some (listOf ys.toArray n') := hk4 _ _ (b3 _ _ (by simpa using hDC) (hs2.extBut _ _ hDI hD))
      have hP4 := Paired.mono (fun v z => hFF v z _ _ t4) hP
      have hns4 : h4.Ns C m3 := hns3.keeps hk4
      by_cases hp : p vs[i] = true
      · rw [if_pos hp]
        refine wpAny_mono (helt C vs[i] _ _ _ hmem hp hns4 hPP3 st4 hCle) (fun z s5 h5 => ?_) fun _ _ e => e
        obtain ⟨hF5, h5, tk5, rfl, hk5⟩ := h5
        dsimp only at hF5 hk5
        have hys : ys.toArray.size ≤ sizeLine := by
          have e1 := hP.length
          have e2 : ((vs.take i).filter p).length ≤ (vs.take i).length := List.length_filter_le _ _
          rw [List.size_toArray, ← e1]
          refine Nat.le_trans e2 (Nat.le_trans ?_ hsz)
          rw [List.length_take]; exact Nat.min_le_right _ _
        refine wpAny_list_append_plain (hsz := hys) ⟨n', hk5 _ _ hD4⟩ fun h6 hl6 hs6 => ?_
        obtain ⟨n6, hl6⟩ := hl6
        have t6 : TupS h5 h6 := TupS.one (hk5 _ _ hD4) (fun _ _ _ => by simp [W.listOf]) (But.same hs6)
        refine ⟨vs.length + 1 - (i + 1), by omega, h6, tk5, m3, i + 1, ys ++ [z], n6, rfl, fun b o e => hs6.extBut b o (hold b o e).2.2 (hk5 _ _ (st4 b o e)), ?_, ?_, (hns4.keeps hk5).sameBut hs6 (Ne.symm hDC), ?_, hlt, rfl⟩
        · obtain ⟨o, ho, r⟩ := hi4
          exact ⟨o, hs6.extBut _ _ (Ne.symm hDI) (hk5 _ _ ho), r⟩
        · rw [hl6]; simp [W.listOf]
        · rw [htk, List.filter_append]
          simp only [List.filter_cons, hp, if_true, List.filter_nil]
          exact Paired.snoc (Paired.mono (fun v z => hFF v z _ _ ((TupS.of hk5).trans t6)) hP4) (hFF _ _ _ _ t6 hF5)
      · rw [if_neg hp]
        refine ⟨vs.length + 1 - (i + 1), by omega, h4, tk4, m3, i + 1, ys, n', rfl, st4, hi4, hD4, hns4, ?_, hlt, rfl⟩
        rw [htk, List.filter_append]
        simp only [List.filter_cons, hp, List.filter_nil]
        simpa using hP4
    · have hin : i = vs.length := by omega
      refine wpAny_pyNext_list_end hh hi (hls h st) (by simp [hin]) fun h2 he2 => ?_
      have b2 : But [I] h h2 := But.ext he2
      have t2 : TupS h h2 := TupS.one hoI (fun _ _ _ => by rw [hcI]; simp) b2
      have st2 : s.heap.StaysIn h2 := fun b o e => he2 b o (hold b o e).1 (st b o e)
      have hP2 := Paired.mono (fun v z => hFF v z _ _ t2) hP
      rw [hin, List.take_length] at hP2
      refine k D C h2 _ m₁ ys n' hP2 (F.keeps st2) (fun q hq => ?_) (fun q hq e => ?_) freshD (hns.at' fun o e => he2 _ o hCI e) freshC (Ne.symm hDC) st2
      · rcases List.mem_cons.mp hq with rfl | hq
        · refine ⟨he2 _ _ hDI hD, fun e => ?_, ?_⟩
          · obtain ⟨oL, _, _, hL, _⟩ := F.ns
            (try dsimp only at e)
            rw [← e, freshD] at hL; cases hL
          · cases q : g.get? D with
            | none => rfl
            | some o => have := F.keep _ _ q; (try dsimp only at this); rw [freshD] at this; cases this
        · exact ⟨st2 _ _ (N q hq).1, (N q hq).2⟩
      · have := (N q hq).1
        rw [e, freshD] at this; cases this
  exact codeAny_compStart_list (loop _ ⟨_, rfl⟩) (wpAny_pyIter_listiter hit (loop _ ⟨_, rfl⟩))
theorem ListComp_open {elt iter tgt : Expr} {ifs : List Expr} {scope : Scope} {cl : List (Str × Addr)} {pos : Pos} {Q : Value → Shared → Prop} {E : Value → Shared → Prop}
    (hclos : closureFor scope env = pure cl) (hkind : scope.kind = .function) (hnames : ∀ y ∈ scope.names, y.2 = .local → scope.names.lookup y.1 = some .local)
    (h : wpAny (model prog w) A (eval iter env) (fun xv s₁ => wpAny (model prog w) A (pyIter xv) (fun it s₂ => wpAny (model prog w) A (newList []) (fun acc s₃ =>
      wpAny (model prog w) A (newFunctionEnv scope env.globals cl [] env.qual none .none (some env)) (fun cenv s₄ =>
        codeAny (model prog w) A (.compStart (.ListComp elt [⟨tgt, iter, ifs, 0⟩] scope pos) 0 it acc { cenv with scope := relabel scope env }) (compPost (model prog w) A E none Q acc cenv.locals) s₄) E s₃) E s₂) E s₁) E s)
    (hs : ∀ x, foldedSetIterable iter env x = pure x := by intro _; rfl) :
    wpAny (model prog w) A (eval (.ListComp elt [⟨tgt, iter, ifs, 0⟩] scope pos) env) Q E s := by
  rw [eval_ListComp]
  exact wpAny_comprehension_free (use := none) rfl hs hclos hkind hnames h
/-- the comprehension's own end, its value used at once -/
theorem comp_done {D C : Addr} {h' : Heap} {tk : Nat} {m m' : Str → Option Value} {Q : Value → Shared → Prop} {E : Value → Shared → Prop} {ys : List Value} {n : Nat} {news : List (Addr × Obj)}
    (F : Fr g L h' m) (N : News g L h' ((D, listOf ys.toArray n) :: news)) (hn : h'.Ns C m') (hC : s.heap.get? C = none) (hCD : C ≠ D) (hL : s.heap.get? L ≠ none) (hg : g.StaysIn s.heap) (hnew : ∀ p ∈ news, s.heap.get? p.1 ≠ none)
    (k : ∀ h'', TupS h' h'' → s.heap.StaysIn h' → s.heap.StaysIn h'' → Fr g L h'' m → News g L h'' ((D, listOf ys.toArray n) :: news) → Q (.ref D) { s with heap := h'', toks := tk }) (st : s.heap.StaysIn h') :
    compPost (model prog w) A E none Q (.ref D) C (.ok .next) { s with heap := h', toks := tk } := by
  refine ⟨m', hn, fun h'' hs => ?_⟩
  have hCL : C ≠ L := fun e => hL (e ▸ hC)
  have hCg : g.get? C = none := by
    cases q : g.get? C with
    | none => rfl
    | some o => rw [hg _ _ q] at hC; cases hC
  refine k h'' (TupS.ns hn (But.same hs)) st (fun b o e => hs.extBut b o (fun q => by rw [q, hC] at e; cases e) (st b o e)) (F.change hs hCL hCg) fun q hq => ⟨hs.extBut _ _ ?_ (N q hq).1, (N q hq).2⟩
  rcases List.mem_cons.mp hq with rfl | hq
  · exact Ne.symm hCD
  · exact fun e => hnew q hq (e ▸ hC)
end
end
section
section
variable {prog : Program} {w : World} {A : Around} {s : Shared} {env : Env} {g : Heap} {L : Addr} {body : List Stmt}
theorem for_vals {v d : Addr} {kvs : List (Str × Value)} {ep : Nat} {x : Str} {px : Pos} {m₀ : Str → Option Value} {nx₀ : List (Addr × Obj)} {Q : Flow → Shared → Prop} (J : Nat → (Str → Option Value) → List (Addr × Obj) → Prop)
    (hh : A.handled = none) (hv : s.heap.IsValuesView v d) (hD : g.DictAt (strKind prog w) d kvs ep) (F : Fr g L s.heap m₀) (N : News g L s.heap nx₀) (h0 : J 0 m₀ nx₀)
    (turn : ∀ i v m nx h tk I o, I = s.heap.objs.size → (kvs[i]?).map Prod.snd = some v → J i m nx → (∀ p ∈ nx, p.1 ≠ I) → Fr g L h m → News g L h ((I, o) :: nx) →
      wpAny (model prog w) A (assign (.Name x px) env v) (fun _ s₂ => wpAny (model prog w) A (execs body env) (ForEnd g L (J (i + 1)) I o s Q) (fun _ _ => False) s₂) (fun _ _ => False) { s with heap := h, toks := tk })
    (done : ∀ m nx h tk, J kvs.length m nx → Fr g L h m → News g L h nx → Q .next { s with heap := h, toks := tk }) {E : Value → Shared → Prop} :
    wpAny (model prog w) A (pyIter (.ref v)) (fun it s₂ => codeAny (model prog w) A (.forLoop (.Name x px) it body [] env) (fun r s' => match r with | .ok f => Q f s' | .error e => cameBackBy (model prog w) A env (fun _ _ => False) e s') s₂) E s := by
  have hDs : ∀ h m, Fr g L h m → h.DictAt (strKind prog w) d kvs ep := fun h m F' => hD.at' fun o e => F'.keep _ o e
  refine wpAny_pyIter_values hv (hDs _ _ F) ?_
  have hI : ∀ p ∈ nx₀, p.1 ≠ s.heap.objs.size := fun p hp => Nat.ne_of_lt (Heap.lt_size (N p hp).1)
  refine codeAny_forLoop_any (fun k s' => ∃ h tk m nx i o, s' = { s with heap := h, toks := tk } ∧ Fr g L h m ∧ News g L h ((s.heap.objs.size, o) :: nx) ∧ (∀ p ∈ nx, p.1 ≠ s.heap.objs.size) ∧ o.cls = .type "dict_valueiterator" ∧ o.data = .fields #[.ref d, .int (i : Nat) 0, .int kvs.length 0, .int ep 0] ∧ J i m nx ∧ i ≤ kvs.length ∧ k = kvs.length + 1 - i) ?_ (kvs.length + 1)
    ⟨_, s.toks, m₀, nx₀, 0, _, rfl, F.push _, N.push F _, hI, rfl, rfl, h0, Nat.zero_le _, rfl⟩
  intro k s' hXr
  refine gl_in fun gGl hGl => ?_
  obtain ⟨h, tk, m, nx, i, o, rfl, F₁, N₁, hne, hc, hd, hJ, hi, rfl⟩ := hXr
  refine hGl ?_
  clear hGl gGl
  have hit : h.IsValIter s.heap.objs.size d i kvs.length ep := ⟨o, (N₁ _ (.head _)).1, hc, hd⟩
  have N₁' : News g L h nx := fun p hp => N₁ p (.tail _ hp)
  have hls := hDs _ _ F₁
  by_cases hlt : i < kvs.length
  · have hx : kvs[i]? = some (kvs[i].1, kvs[i].2) := by simp [hlt]
    refine wpAny_pyNext_values_item hit hls hx fun h' hit' hs' => ?_
    refine gl_in fun gGl hGl => ?_
    obtain ⟨o', ho', hc', hd'⟩ := id hit'
    refine hGl ?_
    clear hGl gGl
    have hIL : s.heap.objs.size ≠ L := (N₁ _ (.head _)).2.1
    have hIg := (N₁ _ (.head _)).2.2
    have F₂ : Fr g L h' m := by
      refine gl_in fun gGl hGl => ?_
      obtain ⟨oL, es, ep, hLo, r⟩ := F₁.ns
      refine hGl ?_
      clear hGl gGl
      refine ⟨⟨oL, es, ep, (hs'.2 L (Ne.symm hIL)).trans hLo, r⟩, fun b x e => (hs'.2 b fun q => ?_).trans (F₁.keep b x e), F₁.above⟩
      subst q; dsimp only at hIg; rw [hIg] at e; cases e
    have N₂ : News g L h' ((s.heap.objs.size, o') :: nx) := fun p hp => by
      rcases List.mem_cons.mp hp with rfl | q
      · exact ⟨ho', hIL, hIg⟩
      · exact ⟨(hs'.2 _ (hne p q)).trans (N₁' p q).1, (N₁' p q).2⟩
    refine wpAny_pure ?_
    refine wpAny_mono (turn i kvs[i].2 m nx h' tk s.heap.objs.size o' rfl (by simp [hlt]) hJ hne F₂ N₂) (fun _ s₂ h₂ => ?_) fun _ _ e => e.elim
    refine wpAny_mono h₂ (fun f s₃ h₃ => ?_) fun _ _ e => e.elim
    have fin : (∃ h'' tk' m' nx', s₃ = { s with heap := h'', toks := tk' } ∧ Fr g L h'' m' ∧ News g L h'' nx' ∧ (s.heap.objs.size, o') ∈ nx' ∧ ∃ nx1, (∀ p ∈ nx1, p ∈ nx' ∧ p.1 ≠ s.heap.objs.size) ∧ J (i + 1) m' nx1) →
        ∃ k', k' < kvs.length + 1 - i ∧ ∃ h tk m nx i o, s₃ = { s with heap := h, toks := tk } ∧ Fr g L h m ∧ News g L h ((s.heap.objs.size, o) :: nx) ∧ (∀ p ∈ nx, p.1 ≠ s.heap.objs.size) ∧ o.cls = .type "dict_valueiterator" ∧ o.data = .fields #[.ref d, .int (i : Nat) 0, .int kvs.length 0, .int ep 0] ∧ J i m nx ∧ i ≤ kvs.length ∧ k' = kvs.length + 1 - i := by
      intro hXr
      refine gl_in fun gGl hGl => ?_
      obtain ⟨h'', tk', m', nx', rfl, F', N', hm, nx1, hs1, hJ'⟩ := hXr
      refine hGl ?_
      clear hGl gGl
      refine ⟨kvs.length + 1 - (i + 1), by omega, h'', tk', m', nx1, i + 1, o', rfl, F', fun p hp => ?_, fun p hp => (hs1 p hp).2, hc', hd', hJ', hlt, rfl⟩
      rcases List.mem_cons.mp hp with rfl | q
      · exact N' _ hm
      · exact N' _ (hs1 p q).1
    cases f with
    | ret v => exact h₃
    | brk => exact h₃
    | next => exact fin h₃
    | cont => exact fin h₃
  · have hin : i = kvs.length := by omega
    have hx : kvs[i]? = none := by simp; omega
    refine wpAny_pyNext_values_end hh hit hls hx fun h' he' => ?_
    have hIL : s.heap.objs.size ≠ L := (N₁ _ (.head _)).2.1
    have hIg := (N₁ _ (.head _)).2.2
    have F₂ : Fr g L h' m := by
      refine gl_in fun gGl hGl => ?_
      obtain ⟨oL, es, ep, hLo, r⟩ := F₁.ns
      refine hGl ?_
      clear hGl gGl
      refine ⟨⟨oL, es, ep, he' L _ (Ne.symm hIL) hLo, r⟩, fun b x e => he' b _ (fun q => ?_) (F₁.keep b x e), F₁.above⟩
      subst q; dsimp only at hIg; rw [hIg] at e; cases e
    have N₂ : News g L h' nx := fun p q => ⟨he' _ _ (hne p q) (N₁' p q).1, (N₁' p q).2⟩
    subst hin
    exact wpAny_execs_nil (done m nx h' tk hJ F₂ N₂)
theorem RowDict.at {prog : Program} {w : World} {h : Heap} {ra : RAd} (x : RowDict w.params h ra) : ∃ ep, h.DictAt (strKind prog w) ra.d [(Str.ofString "a", .ref ra.a.t), (Str.ofString "b", .ref ra.b.t)] ep := by
  refine gl_in fun gGl hGl => ?_
  obtain ⟨t1, t2, n, e⟩ := x
  refine hGl ?_
  clear hGl gGl
  refine ⟨n, _, _, e, ⟨rfl, rfl, rfl⟩, rfl, ?_, ?_, ?_⟩
  · intro e he
    simp at he
    rcases he with rfl | rfl
    · exact ⟨_, strKind_is prog w _ _, rfl⟩
    · exact ⟨_, strKind_is prog w _ _, rfl⟩
  · exact .cons (strKind_is prog w _ _) rfl (.cons (strKind_is prog w _ _) rfl .nil)
  · show [Str.ofString "a", Str.ofString "b"].Nodup
    decide +kernel
theorem values_method {ra : RAd} {pl : Sem Bool} {Q : Value × List Value → Shared → Prop} {E : Value → Shared → Prop} (x : RowDict w.params s.heap ra) (h : Q (.builtin "dict.values", [.ref ra.d]) s) : wpAny (model prog w) A (getMethod (.ref ra.d) (Str.ofString "values") pl) Q E s := by
  refine gl_in fun gGl hGl => ?_
  obtain ⟨t1, t2, n, e⟩ := x
  refine hGl ?_
  clear hGl gGl
  exact getMethod_builtin ⟨_, e, rfl⟩ PySem.F.plainAttrs_dict PySem.F.slot_dict_values PySem.F.type_dict_values (fun a e' => by cases e'; exact ⟨_, e, rfl⟩) h
theorem values_call {ra : RAd} {m : Str → Option Value} {news : List (Addr × Obj)} {Q E : Value → Shared → Prop} (F : Fr g L s.heap m) (N : News g L s.heap news) (x : RowDict w.params s.heap ra) (lo : (ra.d == sysModules) = false)
    (h : ∀ v h', h'.IsValuesView v ra.d → Fr g L h' m → News g L h' news → Q (.ref v) { s with heap := h' }) : wpAny (model prog w) A (call (.builtin "dict.values") [.ref ra.d]) Q E s := by
  obtain ⟨ep, hD⟩ := RowDict.at (prog := prog) (w := w) x
  have hT : s.TypeIs (.ref ra.d) "dict" := by obtain ⟨t1, t2, n, e⟩ := x; exact ⟨_, e, rfl⟩
  exact call_meetsIn PySem.F.slot_dict_values hT PySem.F.entry_dict_values (PySem.F.args_dict_values_1 _) (meets_dict_values (strKind prog w) ra.d lo) ⟨⟨_, hD.dictOf⟩, h _ _ ⟨_, Heap.get?_push_size _ rfl, rfl, rfl⟩ (F.push _) (fun p hp => ⟨Heap.get?_push_of_some _ (N p hp).1, (N p hp).2⟩)⟩
end
end
section
section
variable {prog : Program} {w : World} {A : Around} {s : Shared} {env : Env} {g : Heap} {L C : Addr} {scope : Scope} {cl : List (Str × Addr)} {E : Value → Shared → Prop}
/-- names of a comprehension's own scope read -/
theorem comp_name {x : Str} {p : Pos} {v : Value} {m : Str → Option Value} {Q : Value → Shared → Prop} (hk : scope.kind = .function) (hx : scope.names.lookup x = some .local) (hd : (x == ("__debug__" : Str)) = false) (hn : s.heap.Ns C m) (hm : m x = some v)
    (h : Q v s) : wpAny (model prog w) A (eval (.Name x p) (compEnvC scope cl C env)) Q E s :=
  wpAny_Name (wpAny_loadName_local (v := v) (by simp [compEnvC, relabel, hk]) (lookup_relabel_local hx) hn hm h) hd
theorem comp_store {x : Str} {p : Pos} {v : Value} {m : Str → Option Value} {Q : Unit → Shared → Prop} (hk : scope.kind = .function) (hx : scope.names.lookup x = some .local) (hn : s.heap.Ns C m)
    (h : ∀ h' tk, h'.Ns C (fun y => if y = x then some v else m y) → But [C] s.heap h' → Q () { s with heap := h', toks := tk }) : wpAny (model prog w) A (assign (.Name x p) (compEnvC scope cl C env) v) Q E s :=
  wpAny_assign_Name (wpAny_storeName_local (lookup_relabel_local hx) hn (fun h₂ hn₂ hs₂ => h h₂ _ hn₂ (But.same hs₂)) (by simp [compEnvC, relabel, hk]))
theorem comp_assign2 {a : Addr} {x y : Str} {px py p : Pos} {k : Nat} {u v : Value} {m : Str → Option Value} {Q : Unit → Shared → Prop} (hh : A.handled = none) (hk : scope.kind = .function) (hx : scope.names.lookup x = some .local) (hy : scope.names.lookup y = some .local) (hn : s.heap.Ns C m)
    (ht : IsTup s.heap a [u, v].toArray)
    (h : ∀ h' tk, h'.Ns C (fun q => if q = y then some v else if q = x then some u else m q) → But [C] s.heap h' → Q () { s with heap := h', toks := tk }) : wpAny (model prog w) A (assign (.Tuple [.Name x px, .Name y py] k p) (compEnvC scope cl C env) (.ref a)) Q E s := by
  refine assign_Tuple_tuple hh ht rfl rfl fun h₁ he₁ => ?_
  have up : s.heap.StaysIn h₁ := fun b o e => he₁ b o (Nat.ne_of_lt (Heap.lt_size e)) e
  refine assignInOrder_cons (comp_store hk hx (hn.keeps up) fun h₂ tk₂ n₂ b₂ => ?_)
  refine assignInOrder_cons (comp_store hk hy n₂ fun h₃ tk₃ n₃ b₃ => ?_)
  exact assignInOrder_nil (h h₃ _ n₃ fun b o hb e => b₃ b o hb (b₂ b o hb (up b o e)))
theorem comp_assign3 {a : Addr} {x y z : Str} {px py pz p : Pos} {k : Nat} {t u v : Value} {m : Str → Option Value} {Q : Unit → Shared → Prop} (hh : A.handled = none) (hk : scope.kind = .function) (hx : scope.names.lookup x = some .local) (hy : scope.names.lookup y = some .local) (hz : scope.names.lookup z = some .local) (hn : s.heap.Ns C m)
    (ht : IsTup s.heap a [t, u, v].toArray)
    (h : ∀ h' tk, h'.Ns C (fun q => if q = z then some v else if q = y then some u else if q = x then some t else m q) → But [C] s.heap h' → Q () { s with heap := h', toks := tk }) : wpAny (model prog w) A (assign (.Tuple [.Name x px, .Name y py, .Name z pz] k p) (compEnvC scope cl C env) (.ref a)) Q E s := by
  refine assign_Tuple_tuple hh ht rfl rfl fun h₁ he₁ => ?_
  have up : s.heap.StaysIn h₁ := fun b o e => he₁ b o (Nat.ne_of_lt (Heap.lt_size e)) e
  refine assignInOrder_cons (comp_store hk hx (hn.keeps up) fun h₂ tk₂ n₂ b₂ => ?_)
  refine assignInOrder_cons (comp_store hk hy n₂ fun h₃ tk₃ n₃ b₃ => ?_)
  refine assignInOrder_cons (comp_store hk hz n₃ fun h₄ tk₄ n₄ b₄ => ?_)
  exact assignInOrder_nil (h h₄ _ n₄ fun b o hb e => b₄ b o hb (b₃ b o hb (b₂ b o hb (up b o e))))
theorem comp_pair {x y : Str} {px py p : Pos} {k : Nat} {u v : Value} {m : Str → Option Value} {FF : Value → Heap → Prop} (hk : scope.kind = .function) (hx : scope.names.lookup x = some .local) (hdx : (x == ("__debug__" : Str)) = false) (hy : scope.names.lookup y = some .local) (hdy : (y == ("__debug__" : Str)) = false)
    (hn : s.heap.Ns C m) (hmx : m x = some u) (hmy : m y = some v) (h : ∀ b h', IsTup h' b [u, v].toArray → FF (.ref b) h') :
    wpAny (model prog w) A (eval (.Tuple [.Name x px, .Name y py] k p) (compEnvC scope cl C env)) (fun z s₄ => FF z s₄.heap ∧ Keeps s s₄) E s := by
  refine wpAny_Tuple ?_
  refine wpAny_items_cons (comp_name hk hx hdx hn hmx ?_)
  refine wpAny_items_cons (comp_name hk hy hdy hn hmy ?_)
  refine wpAny_items_nil ⟨by rw [sizeLine_eq]; simp, h _ _ ⟨_, Heap.get?_push_size _ rfl, rfl, 0, rfl⟩, ⟨_, _, rfl, fun b o e => Heap.get?_push_of_some _ e⟩⟩
end
end
section
local macro_rules | `(tactic| walk_at "call builtin:dict.values") => `(tactic| (refine hold ?_))
local macro_rules | `(tactic| walk_at "getMethod ref") => `(tactic| (refine hold ?_))
section
variable {prog : Program} {w : World} {A : Around} {s : Shared} {mg mb : Str → Option Value} {Q E : Value → Shared → Prop}
noncomputable def PairV (h : Heap) (v : Value) (q : Nat × Nat) : Prop := ∃ a t1 t2, v = .ref a ∧ IsTup h a [.str (nm q.1) t1, .str (tx q.2) t2].toArray ∧ q.1 < 4 ∧ q.2 < 14
noncomputable def ItemsIs (h : Heap) (a : Addr) (qs : List (Nat × Nat)) : Prop := ∃ vs n, h.get? a = some (listOf vs.toArray n) ∧ All2 (PairV h) vs qs ∧ vs.length < 2 ^ 20
theorem All2.insA {α : Type} {R : Value → α → Prop} {vs : List Value} {as : List α} {v : Value} {a : α} (h : All2 R vs as) (k : Nat) (hv : R v a) : All2 R (Mine.insAt vs k v) (Mine.insAt as k a) := (h.take k).append (.cons hv (h.drop k))
noncomputable def stoodAt (r : Rows) (p : List Int) : Nat → List Lay
  | 0 => []
  | 1 => (standing r.a p).foldl insLayL []
  | _ => stoodRow r p
theorem insLay_len (l : List Lay) : ∀ (xs : List Lay), (xs.foldl insLayL l).length = l.length + xs.length := by
  intro xs
  induction xs generalizing l with
  | nil => rfl
  | cons x xs ih =>
    rw [List.foldl_cons, ih]
    unfold insLayL insAt
    rw [List.length_append, List.length_cons, List.length_take, List.length_drop, List.length_cons]
    omega
theorem stand_len (k : Kept) (p : List Int) : (standing k p).length ≤ k.lays.length := by
  unfold standing
  dsimp only
  rw [List.length_drop, List.length_take]
  omega
theorem stoodAt_len {r : Rows} {p : List Int} (hs : Small r) (i : Nat) : (stoodAt r p i).length < 2000 := by
  have h1 := stand_len r.a p
  have h2 := stand_len r.b p
  have h3 := (hs 0 (by omega)).2.1
  have h4 := (hs 1 (by omega)).2.1
  simp only [Rows.get] at h3 h4
  match i with
  | 0 => simp [stoodAt]
  | 1 => simp only [stoodAt]; rw [insLay_len]; simp at h3 ⊢; omega
  | n + 2 =>
    simp only [stoodAt]
    unfold stoodRow
    rw [insLay_len, insLay_len]; simp at h3 h4 ⊢; omega
theorem news_cons {g h : Heap} {L a : Addr} {o : Obj} {news : List (Addr × Obj)} (x : h.get? a = some o ∧ a ≠ L ∧ g.get? a = none) (N : News g L h news) : News g L h ((a, o) :: news) := fun q hq => by
  rcases List.mem_cons.mp hq with rfl | hq
  · exact x
  · exact N q hq
theorem All2.getV {α : Type} {R : Value → α → Prop} : ∀ {vs : List Value} {as : List α}, All2 R vs as → ∀ {i : Nat} {v : Value}, vs[i]? = some v → ∃ a, as[i]? = some a ∧ R v a := by
  intro vs as h
  induction h with
  | nil => exact fun e => nomatch e
  | cons h _ ih =>
    intro i a e
    cases i with
    | zero => exact ⟨_, rfl, Option.some.inj e ▸ h⟩
    | succ i => exact ih (i := i) e
noncomputable def PairF (g : Heap) (v z : Value) (h : Heap) : Prop := ∃ a x0 x1 x2 b, v = .ref a ∧ IsTup g a [x0, x1, x2].toArray ∧ z = .ref b ∧ IsTup h b [x1, x2].toArray
theorem pairV_of {g h : Heap} {v z : Value} {l : Lay} (x : LayV g v l) (y : PairF g v z h) : PairV h z (l.name, l.text) := by
  obtain ⟨⟨a, pv, t1, t2, e, ht, _⟩, hn, hb⟩ := x
  obtain ⟨a', x0, x1, x2, b, e', ht', e3, hz⟩ := y
  subst e
  injection e' with e'
  subst e'
  have := IsTup.uniq ht ht'
  simp only [List.cons.injEq] at this
  obtain ⟨_, h2, h3, _⟩ := this
  subst h2
  subst h3
  exact ⟨b, t1, t2, e3, hz, hn, hb⟩
theorem pairs_of {g h : Heap} {vs : List Value} {ls : List Lay} (x : All2 (LayV g) vs ls) : ∀ {ys : List Value}, Paired (fun v z => PairF g v z h) vs ys → All2 (PairV h) ys (ls.map fun l => (l.name, l.text)) := by
  induction x with
  | nil => intro ys y; cases y; exact .nil
  | cons hx _ ih =>
    intro ys y
    cases y with
    | cons hy r => exact .cons (pairV_of hx hy) (ih r)
theorem PairV.keeps {h h' : Heap} {v : Value} {q : Nat × Nat} (x : PairV h v q) (t : TupS h h') : PairV h' v q := let ⟨a, t1, t2, e, ht, b⟩ := x; ⟨a, t1, t2, e, t _ _ ht, b⟩
theorem All2.memV {α : Type} {R : Value → α → Prop} {vs : List Value} {as : List α} (x : All2 R vs as) {v : Value} (h : v ∈ vs) : ∃ a, R v a := by
  obtain ⟨i, hi⟩ := List.mem_iff_getElem?.mp h
  obtain ⟨a, _, r⟩ := x.getV hi
  exact ⟨a, r⟩
theorem stood_spec {ra : RAd} {r0 : Rows} {pv : Value} {p : List Int} (r : Room A 10) (G : Gr w mg mb s.heap) (hr : RowsIs w.params s.heap ra r0) (hs : Small r0) (hp : KeyIs s.heap true pv p) (lo : (ra.d == sysModules) = false)
    (ret : ∀ h' tk D, s.heap.StaysIn h' → s.heap.get? D = none → ItemsIs h' D (stoodP r0 p) → Q (.ref D) { s with heap := h', toks := tk }) :
    wpAny (model prog w) A (call (.ref 274) [.ref ra.d, pv]) Q E s := by
  obtain ⟨hnd, dpA, frA, gdA, unA⟩ := A; obtain rfl : hnd = none := r.handled
  have hD := hr.dict
  refine wpAny_call ?_
  refine' enter0 (binds := [(Str.ofString "rows", .ref ra.d), (Str.ofString "place", pv)]) ?e2G ?e2k1 ?e2k2 ?e2kr ?e2k4 ?e2k5 ?e2kk ?e2c1 ?e2c2 ?e2c3 ?e2c4
  case e2G => assumption
  case e2k1 => k_is
  case e2k2 => k_is
  case e2kr => exact Room.dl (by assumption)
  case e2k4 => exact BindsTo.of_eq rfl
  case e2k5 => exact locs rfl
  case e2c1 => exact rfl
  case e2c2 => exact rfl
  case e2c3 => exact rfl
  case e2c4 => decide
  intro L h₁ F X T N
  (try dsimp only)
  k_steps
  rename Fr _ _ _ _ => F1
  rename News _ _ _ _ => N1
  rename_i RW _ _ _ _
  dsimp only [Hold]
  refine values_method (RowDict.keeps hD F1.keep) ?_
  k_steps
  dsimp only [Hold]
  refine values_call F1 N1 (RowDict.keeps hD F1.keep) lo ?_
  intro v h4 hv4 F4 N4
  clear F1 N1
  k_steps
  dsimp only [Hold]
  obtain ⟨ep, hDa⟩ := RowDict.at (prog := prog) (w := w) hD
  refine for_vals (fun i m nx => m (Str.ofString "row") = some (.ref RW) ∧ m (Str.ofString "place") = some pv ∧ ∃ vs n, nx = [(RW, listOf vs.toArray n)] ∧ All2 (LayV s.heap) vs (stoodAt r0 p i)) rfl hv4 hDa F4 N4 ⟨rfl, rfl, [], _, rfl, .nil⟩ ?_ ?_
  · intro i kv m nx h5 tk5 I o hI hk hXr hne F5 N5
    refine gl_in fun gGl hGl => ?_
    obtain ⟨hm1, hm2, vs, n, rfl, hvs⟩ := hXr
    refine hGl ?_
    clear hGl gGl
    clear F4 N4
    have hl5 : vs.length < 2000 := by rw [hvs.length]; exact stoodAt_len hs i
    have hg : ∃ g, g < 2 ∧ kv = .ref (ra.get g).t ∧ stoodAt r0 p (i + 1) = (standing (r0.get g) p).foldl insLayL (stoodAt r0 p i) := by
      match i with
      | 0 => simp at hk; exact ⟨0, by omega, hk.symm, rfl⟩
      | 1 => simp at hk; exact ⟨1, by omega, hk.symm, rfl⟩
      | n + 2 => simp at hk
    obtain ⟨g, hg2, rfl, hst⟩ := hg
    k_steps
    rename Fr _ _ _ _ => F6
    rename News _ _ _ _ => N6
    dsimp only [Hold]
    refine standing_spec (k := r0.get g) (p := p) ((r.deeper _).less (by decide)) G F6.keep (hr.kept g hg2) (hp.keeps (TupS.of F6.keep)) ?_
    intro h7 tk7 D7 vs7 n7 k7 f7 g7 a7 z7
    have d7 : D7 ≠ L := fun e => by
      obtain ⟨oL, _, _, hL, _⟩ := F6.ns
      (try dsimp only at f7)
      rw [← e, f7] at hL; cases hL
    have d7' : s.heap.get? D7 = none := by
      cases q : s.heap.get? D7 with
      | none => rfl
      | some o => have := F6.keep _ _ q; (try dsimp only at f7); rw [f7] at this; cases this
    have d7I : ∀ p ∈ [(I, o), (RW, listOf vs.toArray n)], D7 ≠ p.1 := fun q hq e => by
      have := (N6 q hq).1
      (try dsimp only at f7)
      rw [← e, f7] at this; cases this
    replace F6 := F6.keeps k7
    replace N6 : News s.heap L h7 ((D7, listOf vs7.toArray n7) :: (I, o) :: (RW, listOf vs.toArray n) :: []) := news_cons ⟨g7, d7, d7'⟩ (N6.grown k7)
    dsimp only
    k_steps
    dsimp only [Hold]
    have q2 : @Ne Nat RW D7 := (d7I (RW, listOf vs.toArray n) (.tail _ (.head _))).symm
    have q3 : @Ne Nat RW I := hne (RW, listOf vs.toArray n) (.head _)
    refine for_list (fun j m' nx => m' (Str.ofString "row") = some (.ref RW) ∧ m' (Str.ofString "place") = some pv ∧ ∃ vs' n', nx = [(D7, listOf vs7.toArray n7), (I, o), (RW, listOf vs'.toArray n')] ∧ All2 (LayV s.heap) vs' (((standing (r0.get g) p).take j).foldl insLayL (stoodAt r0 p i)))
      rfl goes_name ⟨_, g7, rfl, _, rfl⟩ F6 N6 ?_ ?_ ?_ ?_
    · exact ⟨hm1, hm2, vs, n, rfl, hvs⟩
    · intro j m' nx h8 hXr F8 N8
      refine gl_in fun gGl hGl => ?_
      obtain ⟨_, _, vs', n', rfl, _⟩ := hXr
      refine hGl ?_
      clear hGl gGl
      exact ⟨_, (N8 _ (.head _)).1, rfl, _, rfl⟩
    · intro j lv m' nx h8 tk8 I2 o2 hI2 hk2 hXr hne2 F8 N8
      refine gl_in fun gGl hGl => ?_
      obtain ⟨hm3, hm4, vs', n', rfl, hvs'⟩ := hXr
      refine hGl ?_
      clear hGl gGl
      clear F6 N6
      have q1 : @Ne Nat RW I2 := hne2 (RW, listOf vs'.toArray n') (by k_mem)
      have hlj : ∃ l, (standing (r0.get g) p)[j]? = some l ∧ LayV s.heap lv l := a7.getV hk2
      obtain ⟨l, hlj, hlay⟩ := hlj
      have hl8 : vs'.length < 2 ^ 20 := by
        have e1 := hvs'.length
        rw [insLay_len, List.length_take] at e1
        have e2 := stoodAt_len hs (p := p) i
        have e3 := stand_len (r0.get g) p
        have e4 := (hs g hg2).2.1
        omega
      k_steps
      rename Fr _ _ _ _ => F9
      rename News _ _ _ _ => N9
      dsimp only [Hold]
      refine il_spec (b := true) (key := true) (vs := vs') (k := l.place) ((r.deeper _).less (by decide)) G F9.keep (N9 (RW, listOf vs'.toArray n') (by k_mem)).2.2 (N9 (RW, listOf vs'.toArray n') (by k_mem)).1 (hvs'.lkeys (TupS.of F9.keep)) ((hlay.keeps (TupS.of F9.keep)).key) hl8 ?_
      intro h10 tk10 b10 o10
      have F10 := b10.fr F9 (fun q hq => by cases List.mem_singleton.mp hq; exact (N9 (RW, listOf vs'.toArray n') (by k_mem)).2.2) (fun q => (N9 (RW, listOf vs'.toArray n') (by k_mem)).2.1 (List.mem_singleton.mp q).symm)
      have N10 := b10.news N9 o10 (by k_upd)
      clear F9 N9
      dsimp only
      k_steps
      refine ⟨_, _, _, _, rfl, F10, N10, (by k_mem), [(D7, listOf vs7.toArray n7), (I, o), (RW, listOf (insAt vs' (bl (places (List.foldl insLayL (stoodAt r0 p i) (List.take j (standing (r0.get g) p)))) l.place) lv).toArray (n' + 1))], fun q hq => ?_, hm3, hm4, _, _, rfl, ?_⟩
      · refine ⟨?_, ?_⟩
        · simp only [List.mem_cons, List.not_mem_nil, or_false] at hq ⊢
          exact .inr hq
        · simp only [List.mem_cons, List.not_mem_nil, or_false] at hq
          rcases hq with rfl | rfl | rfl
          · exact hne2 (D7, listOf vs7.toArray n7) (by k_mem)
          · exact hne2 (I, o) (by k_mem)
          · exact q1
      · have e : (standing (r0.get g) p).take (j + 1) = (standing (r0.get g) p).take j ++ [l] := by rw [List.take_add_one, hlj]; rfl
        rw [e, List.foldl_append]
        exact hvs'.insA _ hlay
    · intro m' nx h8 tk8 hXr F8 N8
      refine gl_in fun gGl hGl => ?_
      obtain ⟨hm3, hm4, vs', n', rfl, hvs'⟩ := hXr
      refine hGl ?_
      clear hGl gGl
      clear F6 N6
      k_steps
      refine ⟨_, _, _, _, rfl, F8, N8, (by k_mem), [(RW, listOf vs'.toArray n')], fun q hq => ?_, hm3, hm4, _, _, rfl, ?_⟩
      · cases List.mem_singleton.mp hq
        exact ⟨by k_mem, q3⟩
      · rw [hst]
        rw [a7.length, List.take_length] at hvs'
        exact hvs'
  · intro m nx h5 tk5 hXr F5 N5
    refine gl_in fun gGl hGl => ?_
    obtain ⟨hm1, hm2, vs, n, rfl, hvs⟩ := hXr
    refine hGl ?_
    clear hGl gGl
    clear F4 N4
    (try dsimp only)
    k_steps
    dsimp only [Hold]
    refine ListComp_open (by with_unfolding_all rfl) (by rfl) (by decide) ?_
    k_steps
    dsimp only [Hold]
    have hlen : vs.length < 2000 := by rw [hvs.length]; exact stoodAt_len hs _
    refine' comp_all (fun v m => ∃ a x0 x1 x2, v = .ref a ∧ IsTup s.heap a [x0, x1, x2].toArray ∧ m (Str.ofString "name") = some x1 ∧ m (Str.ofString "text") = some x2) (fun _ => true) (PairF s.heap) ?ca1 ?ca2 ?ca3 ?ca4 ?ca5 ?ca6 ?ca7 ?ca8 ?ca9 ?cb1 ?cb2 ?cb3 ?cb4
    case ca2 => exact rfl
    case ca3 => exact goes_tuple
    case ca4 => decide
    case ca5 => rfl
    case ca6 => exact ⟨_, (N5 _ (.head _)).1, rfl, _, rfl⟩
    case ca7 => exact F5
    case ca8 => exact N5
    case ca9 => rw [sizeLine_eq]; omega
    · intro v z h h' t hXr
      refine gl_in fun gGl hGl => ?_
      obtain ⟨a, x0, x1, x2, b, e1, e2, e3, e4⟩ := hXr
      refine hGl ?_
      clear hGl gGl
      exact ⟨a, x0, x1, x2, b, e1, e2, e3, t _ _ e4⟩
    · intro C v s₃ m₃ Q' E' hv hn hst _ k
      obtain ⟨l, ⟨a, pv', t1, t2, rfl, ht, _⟩, _⟩ := hvs.memV hv
      refine comp_assign3 rfl (by rfl) (by rfl) (by rfl) (by rfl) hn (ht.keeps (fun b o e => hst _ _ (F5.keep _ _ e))) fun h' tk hn' hb' => ?_
      exact k h' _ tk hn' ⟨a, _, _, _, rfl, ht, by rfl, by rfl⟩ hb'
    · intro C v s₃ m₃ E' hv hn hpp hst _
      exact wpAny_tests_nil ⟨rfl, _, _, rfl, fun _ _ e => e⟩
    · intro C v s₃ m₃ E' hv _ hn hXr hst _
      refine gl_in fun gGl hGl => ?_
      obtain ⟨a, x0, x1, x2, rfl, ht, m1, m2⟩ := hXr
      refine hGl ?_
      clear hGl gGl
      exact comp_pair (FF := fun z h => PairF s.heap (.ref a) z h) (by rfl) (by rfl) (by decide) (by rfl) (by decide) hn m1 m2 fun b h' hb => ⟨a, x0, x1, x2, b, rfl, ht, rfl, hb⟩
    · intro D C h' tk m' ys n' hP F' N' hne hD hn hC hCD st
      refine comp_done F' N' hn hC hCD (by obtain ⟨oL, _, _, hL, _⟩ := F5.ns; rw [hL]; simp) F5.keep (fun q hq => by rw [(N5 q hq).1]; simp) (fun h'' t'' _ st'' F'' N'' => ?_) st
      have hb : s.heap.get? D = none := by
        cases q : s.heap.get? D with
        | none => rfl
        | some o => have := F5.keep _ _ q; (try dsimp only at hD); rw [hD] at this; cases this
      have hys : All2 (PairV h') ys (stoodP r0 p) := pairs_of hvs (by rw [List.filter_eq_self.mpr fun _ _ => rfl] at hP; exact hP)
      refine ret h'' tk D (fun b o e => st'' _ _ (F5.keep _ _ e)) hb ⟨ys, n', (N'' _ (.head _)).1, hys.imp fun _ _ z => z.keeps t'', ?_⟩
      rw [← hP.length, List.filter_eq_self.mpr fun _ _ => rfl]
      omega
end
end
section
theorem plainAttrs_pat : PlainAttrs "re.Pattern" :=
  ⟨⟨"object.__getattribute__", by rw [typeLookup_type, builtinLookup_eq_fast]; kernel_rfl, by decide +kernel⟩, by rw [typeLookup_type, builtinLookup_eq_fast]; kernel_rfl⟩
theorem slot_search : Slot "re.Pattern" "search" "re.Pattern.search" :=
  .of (owner := "re.Pattern") (n := "search") (by rw [typeLookup_type, builtinLookup_eq_fast]; kernel_rfl) (by decide +kernel) (by decide +kernel) (by decide +kernel)
    (by first | exact .inl (by decide +kernel) | exact .inr (by decide +kernel)) (by rw [isSubtype_type]; kernel_rfl)
theorem entry_search : entryFor table "re.Pattern.search" = some Builtin.«re.Pattern.search» := entryFor_of_tree (by kernel_rfl)
theorem args_search (a b : Value) : argsOk "re.Pattern.search" ⟨[a, b], []⟩ := by
  unfold argsOk; kernel_rfl
theorem type_search : typeOf (.builtin "re.Pattern.search") = pure (.type "method_descriptor") := by show builtinType _ = _; rw [builtinType_eq_fast]; kernel_rfl
open PySem.Builtin.Re in
noncomputable def failsOn (code text : Array Nat) : Bool := match ((Sre.forSearch code text 0 0 text.size false).runFor reTurnSteps).outcome with
  | some .failed => true
  | _ => false
noncomputable def codeN : Array Nat := #[14, 10, 4, 1, 1, 22, 0, 31, 16, 127, 0, 13, 7, 22, 0, 31, 16, 127, 0, 1]
noncomputable def codeV : Array Nat := #[14, 14, 4, 1, 1, 9, 4294966783, 0, 0, 2147483648, 0, 0, 0, 0, 0, 13, 11, 9, 4294966783, 0, 0, 2147483648, 0, 0, 0, 0, 0, 1]
theorem fails_nm (n : Nat) : failsOn codeN (nm n).cps = true := by
  match n with
  | 0 => decide +kernel
  | 1 => decide +kernel
  | 2 => decide +kernel
  | n + 3 => show failsOn codeN (Str.ofString "B").cps = true; decide +kernel
theorem fails_gn (n : Nat) : failsOn codeN (gn n).cps = true := by
  unfold gn
  split <;> decide +kernel
theorem fails_tx {n : Nat} (h : n < 14) : failsOn codeV (tx n).cps = true := by
  have : ∀ n : Fin 14, failsOn codeV (tx n.1).cps = true := by decide +kernel
  exact this ⟨n, h⟩
section
variable {prog : Program} {w : World} {A : Around} {s : Shared} {E : Value → Shared → Prop}
open PySem.Builtin.Re
theorem rules_run {l : List Nat} {c : Nat → Bool} {f : Nat → String} {Q : Unit → Shared → Prop} (h : Q () s) :
    wpAny (model prog w) A (forIn l () fun i _ => (if c i = true then (do rule (f i); pure (ForInStep.yield ())) else pure (ForInStep.yield ()))) Q E s := by
  induction l with
  | nil => exact wpAny_pure h
  | cons i l ih =>
    simp only [List.forIn_cons]
    refine wpAny_bind ?_
    by_cases q : c i = true
    · rw [if_pos q]
      exact wpAny_bind (wpAny_rule (wpAny_pure ih))
    · rw [if_neg q]
      exact wpAny_pure ih
theorem run_fails {m : Sre.M} {Q : Option Sre.M → Shared → Prop} (hm : (m.runFor reTurnSteps).outcome = some .failed) (h : Q none s) : wpAny (model prog w) A (reRunToEnd m) Q E s := by
  unfold reRunToEnd
  refine wpAny_bind ?_
  rw [show (2 : Nat) ^ 64 = 18446744073709551615 + 1 by decide]
  rw [reDrive]
  simp only [hm, Option.isSome_some, if_true]
  refine wpAny_pure ?_
  refine wpAny_bind ?_
  refine rules_run ?_
  rw [hm]
  exact wpAny_pure h
/-- a pattern that finds nothing -/
structure PatIs (h : Heap) (R : Addr) (code : Array Nat) : Prop where
  at_ : ∃ o fs T oT items n, h.get? R = some o ∧ o.cls = .type "re.Pattern" ∧ o.dict = none ∧ o.data = .fields fs ∧ reRawNat (fs.getD 6 .none) = 0 ∧ reRawNat (fs.getD 2 .none) = 0 ∧ fs.getD 5 .none = .ref T ∧ h.get? T = some oT ∧ oT.data = .seq items n ∧ (items.map reRawOf).map (·.toNat) = code
theorem PatIs.keeps {h h' : Heap} {R : Addr} {code : Array Nat} (x : PatIs h R code) (k : h.StaysIn h') : PatIs h' R code := by
  obtain ⟨o, fs, T, oT, items, n, a, b, c, d, e, f, g, i, j⟩ := x.at_
  exact ⟨o, fs, T, oT, items, n, k _ _ a, b, c, d, e, f, g, k _ _ i, j⟩
theorem search_method {R : Addr} {code : Array Nat} {pl : Sem Bool} {Q : Value × List Value → Shared → Prop} (p : PatIs s.heap R code) (h : Q (.builtin "re.Pattern.search", [.ref R]) s) : wpAny (model prog w) A (getMethod (.ref R) (Str.ofString "search") pl) Q E s := by
  obtain ⟨o, fs, T, oT, items, n, a, b, c, d, e, f, g, i, j⟩ := p.at_
  exact getMethod_builtin ⟨_, a, b⟩ plainAttrs_pat slot_search type_search (fun a' e' => by cases e'; exact ⟨_, a, c⟩) h
theorem search_call {R : Addr} {code : Array Nat} {t : Str} {k : Tok} {Q : Value → Shared → Prop} (p : PatIs s.heap R code) (hf : failsOn code t.cps = true) (hl : t.cps.size < 100) (h : Q .none s) :
    wpAny (model prog w) A (call (.builtin "re.Pattern.search") [.ref R, .str t k]) Q E s := by
  obtain ⟨o, fs, T, oT, items, n, a, b, c, d, e, f, g, i, j⟩ := p.at_
  refine wpAny_call_entry slot_search ⟨_, a, b⟩ entry_search ?_ (args_search _ _)
  unfold Builtin.«re.Pattern.search»
  refine wpAny_bind ?_
  unfold reTarget
  dsimp only
  refine wpAny_bind (wpAny_of_eq (a := [some (Value.str t k), none, none]) (by first | rfl | kernel_rfl) ?_)
  dsimp only
  refine wpAny_bind (wpAny_pure ?_)
  refine wpAny_bind (wpAny_pure ?_)
  refine wpAny_bind (wpAny_fieldsOf a d ?_)
  refine wpAny_bind ?_
  unfold reTextOf
  refine wpAny_bind (wpAny_pure ?_)
  refine wpAny_pure ?_
  dsimp only
  rw [e]
  simp only [show ((0 : Nat) == 1) = false from rfl, Bool.and_false, Bool.false_and, Bool.false_eq_true, if_false]
  refine wpAny_bind ?_
  unfold reNoCollectionInside
  simp only [show ((0 : Nat) == 1) = false from rfl, Bool.false_eq_true, if_false]
  refine wpAny_pure ?_
  refine wpAny_bind ?_
  rw [g]
  unfold reRawItems
  refine wpAny_bind (wpAny_seqItems i j.1 ?_)
  refine wpAny_pure ?_
  refine wpAny_pure ?_
  unfold reAnswer
  refine wpAny_bind (run_fails ?_ ?_)
  · dsimp only [Option.getD_some]
    have e2 : min (2 ^ 63 - 1 : Int).toNat t.cps.size = t.cps.size := by
      have : (2 ^ 63 - 1 : Int).toNat = 9223372036854775807 := by decide
      rw [this]; omega
    rw [j.2, f, show min (Int.toNat 0) t.cps.size = 0 from Nat.zero_min _, e2]
    unfold failsOn at hf
    split at hf
    · assumption
    · cases hf
  · exact wpAny_pure ⟨_, rfl, h⟩
end
theorem PatIs.of {K : Frag} {h : Heap} {R T : Addr} {code : Array Nat} {fs items : Array Value} {n : Nat} {osl sl2 : Array (Option Value)} {oc2 : Value} {od2 : Option Addr} (X : K.In h) (h1 : K.lookup R = some ⟨.type "re.Pattern", none, .fields fs, osl⟩) (h6 : PySem.Builtin.Re.reRawNat (fs.getD 6 .none) = 0) (h2 : PySem.Builtin.Re.reRawNat (fs.getD 2 .none) = 0) (h5 : fs.getD 5 .none = .ref T)
    (h3 : K.lookup T = some ⟨oc2, od2, .seq items n, sl2⟩) (h4 : (items.map PySem.Builtin.Re.reRawOf).map (·.toNat) = code) : PatIs h R code :=
  ⟨_, fs, T, _, items, n, X _ _ h1, rfl, rfl, rfl, h6, h2, h5, X _ _ h3, rfl, h4⟩
local macro_rules | `(tactic| walk_at "call ref") => `(tactic| (fail_if_success (with_reducible show wpAny _ _ (call (Value.ref 211) _ _) _ _ _); refine hold ?_))
local macro_rules | `(tactic| walk_at "getMethod ref") => `(tactic| (refine hold ?_))
local macro_rules | `(tactic| walk_at "call builtin:re.Pattern.search") => `(tactic| (refine hold ?_))
section
variable {prog : Program} {w : World} {A : Around} {s : Shared} {mg mb : Str → Option Value} {Q E : Value → Shared → Prop}
theorem pat_N {h : Heap} (G : Gr w mg mb h) : PatIs h 77 codeN := PatIs.of G.k (by k_is) (by rfl) (by rfl) (by rfl) (by k_is) (by decide +kernel)
theorem pat_V {h : Heap} (G : Gr w mg mb h) : PatIs h 82 codeV := PatIs.of G.k (by k_is) (by rfl) (by rfl) (by rfl) (by k_is) (by decide +kernel)
theorem conv_name {x : Addr} {t : Str} {k : Tok} (r : Room A 6) (G : Gr w mg mb s.heap) (hf : failsOn codeN t.cps = true) (hl : t.cps.size < 100)
    (ret : ∀ h' tk, s.heap.StaysIn h' → Q (.str t k) { s with heap := h', toks := tk }) :
    wpAny (model prog w) A (call (.ref 112) [.ref x, .str t k] [(Str.ofString "name", .bool true)]) Q E s := by
  obtain ⟨hnd, dpA, frA, gdA, unA⟩ := A; obtain rfl : hnd = none := r.handled
  refine wpAny_call ?_
  refine' enter0 (binds := [(Str.ofString "self", .ref x), (Str.ofString "value", .str t k), (Str.ofString "name", .bool true)]) ?e2G ?e2k1 ?e2k2 ?e2kr ?e2k4 ?e2k5 ?e2kk ?e2c1 ?e2c2 ?e2c3 ?e2c4
  case e2G => assumption
  case e2k1 => k_is
  case e2k2 => k_is
  case e2kr => exact Room.dl (by assumption)
  case e2k4 => exact BindsTo.of_eq rfl
  case e2k5 => exact locs rfl
  case e2c1 => exact rfl
  case e2c2 => exact rfl
  case e2c3 => exact rfl
  case e2c4 => decide
  intro L h₁ F X T N
  (try dsimp only)
  k_steps
  rename Fr _ _ _ _ => F1
  dsimp only [Hold]
  refine search_method ((pat_N G).keeps F1.keep) ?_
  k_steps
  dsimp only [Hold]
  refine search_call ((pat_N G).keeps F1.keep) hf hl ?_
  k_steps
  exact ret _ _ F1.keep
theorem conv_text {x : Addr} {t : Str} {k : Tok} (r : Room A 6) (G : Gr w mg mb s.heap) (hf : failsOn codeV t.cps = true) (hl : t.cps.size < 100)
    (ret : ∀ h' tk, s.heap.StaysIn h' → Q (.str t k) { s with heap := h', toks := tk }) :
    wpAny (model prog w) A (call (.ref 112) [.ref x, .str t k] [(Str.ofString "name", .bool false)]) Q E s := by
  obtain ⟨hnd, dpA, frA, gdA, unA⟩ := A; obtain rfl : hnd = none := r.handled
  refine wpAny_call ?_
  refine' enter0 (binds := [(Str.ofString "self", .ref x), (Str.ofString "value", .str t k), (Str.ofString "name", .bool false)]) ?e3G ?e3k1 ?e3k2 ?e3kr ?e3k4 ?e3k5 ?e3kk ?e3c1 ?e3c2 ?e3c3 ?e3c4
  case e3G => assumption
  case e3k1 => k_is
  case e3k2 => k_is
  case e3kr => exact Room.dl (by assumption)
  case e3k4 => exact BindsTo.of_eq rfl
  case e3k5 => exact locs rfl
  case e3c1 => exact rfl
  case e3c2 => exact rfl
  case e3c3 => exact rfl
  case e3c4 => decide
  intro L h₁ F X T N
  (try dsimp only)
  k_steps
  rename Fr _ _ _ _ => F1
  dsimp only [Hold]
  refine search_method ((pat_V G).keeps F1.keep) ?_
  k_steps
  dsimp only [Hold]
  refine search_call ((pat_V G).keeps F1.keep) hf hl ?_
  k_steps
  exact ret _ _ F1.keep
end
end
section
noncomputable def headDict (P : Params) (t : Tok) (H : Addr) (n : Nat) : Obj := dictOf [⟨PyData.keyHash P (Str.ofString "_headers"), .str (Str.ofString "_headers") t, .ref H⟩] n
structure HeadIs (P : Params) (h : Heap) (x dx H : Addr) (t : Tok) (n : Nat) : Prop where
  obj : h.get? x = some (instObj 211 dx)
  dict : h.get? dx = some (dictOf [⟨PyData.keyHash P (Str.ofString "_headers"), .str (Str.ofString "_headers") t, .ref H⟩] n)
theorem HeadIs.tups {P : Params} {h : Heap} {x dx H : Addr} {t : Tok} {n nv : Nat} {vs : Array Value} (x0 : HeadIs P h x dx H t n) (hv : h.get? H = some (listOf vs nv)) : TupS h (hideAll h [x, dx, H]) := fun a xs ⟨o, ho, hc, n, hd⟩ => ⟨o, hideAll_get _ ho (fun q => by
  simp only [List.mem_cons, List.not_mem_nil, or_false] at q
  rcases q with rfl | rfl | rfl
  · rw [x0.obj] at ho; cases ho; cases hd
  · rw [x0.dict] at ho; cases ho; cases hd
  · rw [hv] at ho; cases ho; simp at hc), hc, n, hd⟩
theorem HeadIs.stay {P : Params} {h h' : Heap} {L x dx H : Addr} {t : Tok} {n nv : Nat} {vs : Array Value} {m : Str → Option Value} {news : List (Addr × Obj)} (x0 : HeadIs P h x dx H t n) (hv : h.get? H = some (listOf vs nv)) (F : Fr (hideAll h [x, dx, H]) L h' m) (N : News (hideAll h [x, dx, H]) L h' news)
    (m1 : (x, instObj 211 dx) ∈ news) (m2 : (dx, dictOf [⟨PyData.keyHash P (Str.ofString "_headers"), .str (Str.ofString "_headers") t, .ref H⟩] n) ∈ news) (m3 : (H, listOf vs nv) ∈ news) : h.StaysIn h' := fun b o e => by
  by_cases q : b ∈ [x, dx, H]
  · simp only [List.mem_cons, List.not_mem_nil, or_false] at q
    rcases q with rfl | rfl | rfl
    · rw [x0.obj] at e; cases e; exact (N _ m1).1
    · rw [x0.dict] at e; cases e; exact (N _ m2).1
    · rw [hv] at e; cases e; exact (N _ m3).1
  · exact F.keep _ _ (hideAll_get _ e q)
theorem gn_eq {a b : Nat} (ha : a < 2) (hb : b < 2) : (gn a == gn b) = (a == b) := by
  have e1 : a = 0 ∨ a = 1 := by omega
  have e2 : b = 0 ∨ b = 1 := by omega
  rcases e1 with rfl | rfl <;> rcases e2 with rfl | rfl <;> decide +kernel
theorem grp_lt {n : Nat} (h : n < 4) : grp n < 2 := by unfold grp; omega
theorem textsG_snoc {g : Nat} {l : List (Nat × Nat)} {q : Nat × Nat} : textsG g (l ++ [q]) = textsG g l ++ (if grp q.1 == g then [q.2] else []) := by
  unfold textsG
  rw [List.filter_append, List.map_append]
  congr 1
  by_cases h : (grp q.1 == g) = true <;> simp [h]
noncomputable def FirstV (v : Value) : List Nat → Prop
  | [] => v = .none
  | t :: _ => TxV v t
theorem gn_size (n : Nat) : (gn n).cps.size < 100 := by unfold gn; split <;> decide +kernel
theorem nm_size (n : Nat) : (nm n).cps.size < 100 := by
  match n with
  | 0 => decide +kernel
  | 1 => decide +kernel
  | 2 => decide +kernel
  | n + 3 => show (Str.ofString "B").cps.size < 100; decide +kernel
theorem tx_size {n : Nat} (h : n < 14) : (tx n).cps.size < 100 := by
  have : ∀ n : Fin 14, (tx n.1).cps.size < 100 := by decide +kernel
  exact this ⟨n, h⟩
section
variable {prog : Program} {w : World} {A : Around} {s : Shared} {mg mb : Str → Option Value} {Q E : Value → Shared → Prop}
theorem get_spec {x dx H : Addr} {t : Tok} {n : Nat} {nn : Nat} {k : Tok} {vs : List Value} {qs : List (Nat × Nat)} {nv : Nat} {h₀ : Heap} (r : Room A 12) (G : Gr w mg mb h₀) (kk : h₀.StaysIn s.heap) (h0 : ∀ a ∈ [x, dx, H], h₀.get? a = none) (hx : HeadIs w.params s.heap x dx H t n) (hv : s.heap.get? H = some (listOf vs.toArray nv)) (hvs : All2 (PairV s.heap) vs qs)
    (hn4 : nn < 4) (ret : ∀ h' tk v, s.heap.StaysIn h' → FirstV v (textsG (grp nn) qs) → Q v { s with heap := h', toks := tk }) :
    wpAny (model prog w) A (call (.ref 158) [.ref x, .str (nm nn) k] []) Q E s := by
  obtain ⟨hnd, dpA, frA, gdA, unA⟩ := A; obtain rfl : hnd = none := r.handled
  have X₀ := G.k.keeps kk
  refine wpAny_call ?_
  refine' enter (binds := [(Str.ofString "self", .ref x), (Str.ofString "name", .str (nm nn) k), (Str.ofString "default", .none)]) [x, dx, H] ?e2G ?e2kS ?e2kW ?e2k1 ?e2k2 ?e2kr ?e2k4 ?e2k5 ?e2kk ?e2c1 ?e2c2 ?e2c3 ?e2c4
  case e2G => assumption
  case e2kS => assumption
  case e2kW => assumption
  case e2k1 => k_is
  case e2k2 => k_is
  case e2kr => exact Room.dl (by assumption)
  case e2k4 => exact binds_K X₀ rfl (by k_is) rfl rfl rfl
  case e2k5 => exact locs rfl
  case e2c1 => exact rfl
  case e2c2 => exact rfl
  case e2c3 => exact rfl
  case e2c4 => decide
  intro L h₁ F X T stW lt
  (try dsimp only)
  have N : News (hideAll s.heap [x, dx, H]) L h₁ [(x, instObj 211 dx), (dx, dictOf [⟨PyData.keyHash w.params (Str.ofString "_headers"), .str (Str.ofString "_headers") t, .ref H⟩] n), (H, listOf vs.toArray nv)] := news_hidden stW lt (by
    intro p hp; simp only [List.mem_cons, List.not_mem_nil, or_false] at hp
    rcases hp with rfl | rfl | rfl
    · exact ⟨by simp, hx.obj⟩
    · exact ⟨by simp, hx.dict⟩
    · exact ⟨by simp, hv⟩)
  k_steps
  dsimp only [Hold]
  refine conv_name ((r.deeper _).less (by decide)) (G.keeps (fun b o e => stW _ _ (kk _ _ e))) (fails_gn _) (gn_size _) ?_
  intro h2 tk2 k2
  replace F := F.keeps k2
  replace N := N.grown k2
  dsimp only
  k_steps
  dsimp only [Hold]
  rename Fr _ _ _ _ => F4
  rename News _ _ _ _ => N4
  refine for_list (fun i m nx => (∃ tt, m (Str.ofString "name") = some (.str (gn (grp nn)) tt)) ∧ m (Str.ofString "default") = some .none ∧ nx = [(x, instObj 211 dx), (dx, dictOf [⟨PyData.keyHash w.params (Str.ofString "_headers"), .str (Str.ofString "_headers") t, .ref H⟩] n), (H, listOf vs.toArray nv)] ∧ textsG (grp nn) (qs.take i) = [])
    rfl goes_tuple ⟨_, (N4 _ (.tail _ (.tail _ (.head _)))).1, rfl, _, rfl⟩ F4 N4 ?_ ?_ ?_ ?_
  · exact ⟨⟨_, rfl⟩, rfl, rfl, rfl⟩
  · rintro i m nx h5 ⟨_, _, rfl, _⟩ F5 N5
    exact ⟨_, (N5 _ (.tail _ (.tail _ (.head _)))).1, rfl, _, rfl⟩
  · rintro i v m nx h5 tk5 I o hI hk ⟨⟨tt, hm1⟩, hm2, rfl, hno⟩ hne F5 N5
    clear F4 N4
    refine gl_in fun gGl hGl => ?_
    obtain ⟨q, hq, a, t1, t2, rfl, ht, hq4, ht14⟩ := hvs.getV hk
    refine hGl ?_
    clear hGl gGl
    have ht' := hx.tups hv _ _ ht
    have tk1 : qs.take (i + 1) = qs.take i ++ [q] := by rw [List.take_add_one, hq]; rfl
    k_steps
    · rename (_ == _) = true => hc
      rename Fr _ _ _ _ => F6
      rename News _ _ _ _ => N6
      rw [gn_eq (grp_lt hq4) (grp_lt hn4)] at hc
      refine ret _ _ _ (hx.stay hv F6 N6 (by k_mem) (by k_mem) (by k_mem)) ?_
      have e : textsG (grp nn) qs = q.2 :: textsG (grp nn) (qs.drop (i + 1)) := by
        conv => lhs; rw [← List.take_append_drop (i + 1) qs]
        rw [tk1]
        unfold textsG at hno ⊢
        rw [List.filter_append, List.map_append, List.filter_append, List.map_append, hno]
        simp [hc]
      rw [e]
      exact ⟨ht14, _, rfl⟩
    · rename (_ == _) = false => hc
      rename Fr _ _ _ _ => F6
      rename News _ _ _ _ => N6
      rw [gn_eq (grp_lt hq4) (grp_lt hn4)] at hc
      refine ⟨_, _, _, _, rfl, F6, N6, (by k_mem), _, fun p hp => ⟨List.mem_cons_of_mem _ hp, hne p hp⟩, ⟨tt, hm1⟩, hm2, rfl, ?_⟩
      rw [tk1, textsG_snoc, hno, hc]; rfl
  · rintro m nx h5 tk5 ⟨⟨tt, hm1⟩, hm2, rfl, hno⟩ F5 N5
    clear F4 N4
    rw [hvs.length, List.take_length] at hno
    (try dsimp only)
    k_steps
    refine ret _ _ _ (hx.stay hv F5 N5 (by k_mem) (by k_mem) (by k_mem)) ?_
    rw [hno]; rfl
end
end
section
section
variable {prog : Program} {w : World} {A : Around} {s : Shared} {h₀ : Heap} {R : Result → Shared → Prop} {mg mb : Str → Option Value}
  {name qual : Str} {params : Arguments} {body : List Stmt} {scope : Scope} {dV kV doc pm cdv ct oc : Value} {an od : Option Addr} {osl : Array (Option Value)} {f : Addr} {args : Args} {binds : List (Str × Value)}
/-- the same where the def's frame has cells -/
theorem enterC (W : List Addr) (G : Gr w mg mb h₀) (k : h₀.StaysIn s.heap) (hW : ∀ a ∈ W, h₀.get? a = none)
    (ho : (hd.heap_1 w.params).lookup f = some ⟨oc, od, .func (fnOf name qual params body scope dV kV doc pm an cdv ct), osl⟩) (hcd : codeIn (hd.heap_1 w.params) cdv qual = true) (hroom : A.depth < recursionLimit)
    (hbind : BindsTo s (fnOf name qual params body scope dV kV doc pm an cdv ct) args binds) (hkind : (binds.all fun y => scope.names.lookup y.1 == some .local || scope.names.lookup y.1 == some .cell) = true)
    (hnd : ((cellsFrom 0 scope.names []).map (·.1)).Nodup)
    (h : ∀ L h₁ tk cells, Fr (hideAll s.heap W) L h₁ (bindL (envOfC qual scope L f cdv).kindOf binds fun _ => none) → News (hideAll s.heap W) L h₁ cells → CellsAre (bindC (envOfC qual scope L f cdv).kindOf binds fun _ => none) (cellsFrom (L + 1) scope.names []) cells →
      (hd.heap_1 w.params).In (hideAll s.heap W) → TR mg mb (hideAll s.heap W) → s.heap.StaysIn h₁ → (∀ b o, s.heap.get? b = some o → b < L) →
      wpAny (model prog w) (A.deeper (envOfC qual scope L f cdv)) (execs body (envOfC qual scope L f cdv))
        (fun fl s' => R (.ok (.ret (match fl with | .ret v => v | _ => .none))) s') (fun _ _ => False) { s with heap := h₁, toks := tk })
    (hco : scope.isCoroutine = false) (hgen : scope.isGenerator = false) (hk : scope.kind = .function) : codeAny (model prog w) A (.call (.ref f) args) R s := by
  have Gs := G.keeps k
  have Gg := G.keeps (stays_hide k hW)
  refine codeAny_call_function hroom (Gs.k _ _ ho) rfl hco hgen rfl (codeRec_of Gs.k hcd) (hbind _ _ _ _ ?_)
  refine wpAny_newFunctionEnv_cells hk (kindsX hkind _) fun env' he s' x => ?_
  subst he
  refine ⟨Gs.t.nolimit.keeps x.toInCall.keep, codeAny_func ?_⟩
  obtain ⟨h₁, tk, rfl, _⟩ := x.done
  have hk₁ := x.toInCall.keep
  obtain ⟨cells, NC, Y⟩ := Cl.news (h₀ := s.heap) (Nat.le_refl _) fun n c hm => ⟨x.cell n c (lookup_of_mem_nodup (cellsFrom_names scope.names 0 (s.heap.objs.size + 1) [] [] rfl ▸ hnd) hm), x.above n c hm⟩
  refine wpAny_mono (h s.heap.objs.size h₁ tk cells ⟨x.toInCall.ns, fun b o e => hk₁ b o (of_hideAll _ e), Nat.le_of_eq (hideAll_size _ _)⟩ (fun p hp => ?_) Y Gg.k Gg.t hk₁ fun b o e => Heap.lt_size e) (fun _ _ x => x) (fun _ _ x => x.elim)
  refine ⟨(NC p hp).1, (NC p hp).2.1, ?_⟩
  cases q : (hideAll s.heap W).get? p.1 with
  | none => rfl
  | some o => have := of_hideAll _ q; rw [(NC p hp).2.2] at this; cases this
end
end
section
theorem PairV.uniq {h : Heap} {v : Value} {q q' : Nat × Nat} (x : PairV h v q) (y : PairV h v q') : q = q' := by
  obtain ⟨a, t1, t2, rfl, ht, h1, h2⟩ := x
  obtain ⟨a', t1', t2', e, ht', h1', h2'⟩ := y
  cases e
  have e := IsTup.uniq ht ht'
  simp only [List.cons.injEq, Value.str.injEq, and_true] at e
  exact Prod.ext (nm_inj h1 h1' e.1.1) (tx_inj h2 h2' e.2.1)
open Classical in
noncomputable def grpB (h : Heap) (g : Nat) (v : Value) : Bool := decide (∃ q, PairV h v q ∧ grp q.1 = g)
theorem grpB_eq {h : Heap} {g : Nat} {v : Value} {q : Nat × Nat} (x : PairV h v q) : grpB h g v = (grp q.1 == g) := by
  unfold grpB
  by_cases e : grp q.1 = g
  · have : ∃ q, PairV h v q ∧ grp q.1 = g := ⟨q, x, e⟩
    simp [e, this]
  · have : ¬ ∃ q, PairV h v q ∧ grp q.1 = g := fun ⟨q', y, e'⟩ => e (by rw [x.uniq y]; exact e')
    simp only [this, decide_false]
    simp [e]
noncomputable def Snd (g : Heap) (v z : Value) : Prop := ∃ a x0, v = .ref a ∧ IsTup g a [x0, z].toArray
theorem texts_of {h : Heap} {g : Nat} : ∀ {vs : List Value} {qs : List (Nat × Nat)} {ys : List Value}, All2 (PairV h) vs qs → Paired (Snd h) (vs.filter (grpB h g)) ys → All2 TxV ys (textsG g qs) := by
  intro vs qs ys a
  induction a generalizing ys with
  | nil => intro p; cases p; exact .nil
  | @cons v q vs qs hv _ ih =>
    intro p
    rw [List.filter_cons, grpB_eq hv] at p
    unfold textsG
    rw [List.filter_cons]
    by_cases e : (grp q.1 == g) = true
    · rw [if_pos e] at p ⊢
      cases p with
      | cons hz hr =>
        rw [List.map_cons]
        refine .cons ?_ (ih hr)
        obtain ⟨a, t1, t2, rfl, ht, h1, h2⟩ := hv
        obtain ⟨a', x0, e', ht'⟩ := hz
        cases e'
        have e := IsTup.uniq ht ht'
        simp only [List.cons.injEq, and_true] at e
        exact ⟨h2, _, e.2.symm⟩
    · rw [if_neg e] at p ⊢
      exact ih p
theorem drop_of {h : Heap} {g : Nat} {R : Value → Nat × Nat → Prop} : ∀ {vs : List Value} {qs : List (Nat × Nat)} {ys : List Value}, All2 R vs qs → All2 (PairV h) vs qs → Paired (fun v z => z = v) (vs.filter (fun v => !grpB h g v)) ys → All2 R ys (dropG g qs) := by
  intro vs qs ys a
  induction a generalizing ys with
  | nil => intro _ p; cases p; exact .nil
  | @cons v q vs qs hr _ ih =>
    intro x p
    cases x with
    | cons hv x =>
    rw [List.filter_cons, grpB_eq hv] at p
    unfold dropG
    rw [List.filter_cons]
    by_cases e : (grp q.1 == g) = true
    · rw [if_neg (by simp [e])] at p
      rw [if_neg (by simpa using e)]
      exact ih x p
    · rw [if_pos (by simpa using e)] at p
      rw [if_pos (by simpa using e)]
      cases p with
      | cons hz hr' => subst hz; exact .cons hr (ih x hr')
end
section
theorem comp_cell {prog : Program} {w : World} {A : Around} {s : Shared} {env : Env} {C c : Addr} {scope : Scope} {cl : List (Str × Addr)} {E : Value → Shared → Prop} {x : Str} {p : Pos} {v : Value} {Q : Value → Shared → Prop} (hk : scope.kind = .function) (hx : (compEnvC scope cl C env).kindOf x = some .cell) (hd : (x == ("__debug__" : Str)) = false)
    (hc : cl.lookup x = some c) (hv : s.heap.IsCell c (some v)) (h : Q v s) : wpAny (model prog w) A (eval (.Name x p) (compEnvC scope cl C env)) Q E s :=
  wpAny_Name (wpAny_loadName_cell (by simp [compEnvC, relabel, hk]) hx hc hv h) hd
end
local macro_rules | `(tactic| walk_at "eval Name") => `(tactic| ((with_reducible show wpAny _ _ (eval (Expr.Name _ _) (compEnvC _ _ _ _)) _ _ _); (first
  | (refine' comp_name ?za ?zb ?zc ?zd ?ze ?_; (case za => rfl); (case zb => rfl); (case zc => decide); (case zd => assumption); (case ze => assumption))
  | (refine' comp_cell ?za ?zb ?zc ?zd ?ze ?_; (case za => rfl); (case zb => rfl); (case zc => decide); (case zd => rfl); (case ze => assumption)))))
section
section
variable {prog : Program} {w : World} {A : Around} {s : Shared} {mg mb : Str → Option Value} {Q E : Value → Shared → Prop}
theorem news_app {g h : Heap} {L : Addr} {a b : List (Addr × Obj)} (x : News g L h a) (y : News g L h b) : News g L h (a ++ b) := fun p hp => (List.mem_append.mp hp).elim (x p) (y p)
theorem HeadIs.ne {P : Params} {h : Heap} {x dx H : Addr} {t : Tok} {n nv : Nat} {vs : Array Value} (x0 : HeadIs P h x dx H t n) (hv : h.get? H = some (listOf vs nv)) : @Ne Nat x dx ∧ @Ne Nat x H ∧ @Ne Nat dx H := by
  refine ⟨fun e => ?_, fun e => ?_, fun e => ?_⟩
  · have := x0.obj; rw [show x = dx from e, x0.dict] at this; cases this
  · have := x0.obj; rw [show x = H from e, hv] at this; cases this
  · have := x0.dict; rw [show dx = H from e, hv] at this; simp at this
local macro_rules | `(tactic| walk_at "subscriptTail") => `(tactic| (refine hold ?_))
theorem getall_spec {x dx H : Addr} {t : Tok} {n : Nat} {nn : Nat} {k : Tok} {vs : List Value} {qs : List (Nat × Nat)} {nv : Nat} {h₀ : Heap} (r : Room A 12) (G : Gr w mg mb h₀) (kk : h₀.StaysIn s.heap) (h0 : ∀ a ∈ [x, dx, H], h₀.get? a = none) (hx : HeadIs w.params s.heap x dx H t n) (hv : s.heap.get? H = some (listOf vs.toArray nv)) (hvs : All2 (PairV s.heap) vs qs) (hlen : vs.length < 2 ^ 20)
    (hn4 : nn < 4) (ret : ∀ h' tk D ys n, s.heap.StaysIn h' → s.heap.get? D = none → h'.get? D = some (listOf ys.toArray n) → All2 TxV ys (textsG (grp nn) qs) → Q (.ref D) { s with heap := h', toks := tk }) :
    wpAny (model prog w) A (call (.ref 150) [.ref x, .str (nm nn) k] []) Q E s := by
  obtain ⟨hnd, dpA, frA, gdA, unA⟩ := A; obtain rfl : hnd = none := r.handled
  have X₀ := G.k.keeps kk
  refine wpAny_call ?_
  refine' enterC (binds := [(Str.ofString "self", .ref x), (Str.ofString "name", .str (nm nn) k)]) [x, dx, H] ?e2G ?e2kS ?e2kW ?e2k1 ?e2k2 ?e2kr ?e2k4 ?e2k5 ?e2k6 ?e2kk ?e2c1 ?e2c2 ?e2c3
  case e2G => assumption
  case e2kS => assumption
  case e2kW => assumption
  case e2k1 => k_is
  case e2k2 => k_is
  case e2kr => exact Room.dl (by assumption)
  case e2k4 => exact BindsTo.of_eq rfl
  case e2k5 => exact rfl
  case e2k6 => decide +kernel
  case e2c1 => exact rfl
  case e2c2 => exact rfl
  case e2c3 => exact rfl
  intro L h₁ tk0 cells F NC Y X T stW lt
  have hY := CellsAre.one Y
  obtain ⟨oc, hE, dc⟩ := hY
  subst hE
  clear Y
  (try dsimp only)
  have N := news_hidden (news := [(x, instObj 211 dx), (dx, dictOf [⟨PyData.keyHash w.params (Str.ofString "_headers"), .str (Str.ofString "_headers") t, .ref H⟩] n), (H, listOf vs.toArray nv)]) stW lt (W := [x, dx, H]) (by
    intro p hp; simp only [List.mem_cons, List.not_mem_nil, or_false] at hp
    rcases hp with rfl | rfl | rfl
    · exact ⟨by simp, hx.obj⟩
    · exact ⟨by simp, hx.dict⟩
    · exact ⟨by simp, hv⟩)
  replace N := news_app NC N
  clear NC
  simp only [List.cons_append, List.nil_append] at N
  obtain ⟨ne1, ne2, ne3⟩ := hx.ne hv
  have l1 : @LT.lt Nat _ x L := lt _ _ hx.obj
  have l2 : @LT.lt Nat _ dx L := lt _ _ hx.dict
  have l3 : @LT.lt Nat _ H L := lt _ _ hv
  k_steps
  dsimp only [Hold]
  refine conv_name ((r.deeper _).less (by decide)) (G.keeps (fun b o e => stW _ _ (kk _ _ e))) (fails_gn _) (gn_size _) ?_
  intro h2 tk2 k2
  replace F := F.keeps k2
  replace N := N.grown k2
  dsimp only
  k_steps
  dsimp only [Hold]
  rename Fr _ _ _ _ => F4
  rename News _ _ _ _ => N4
  rename _ = Data.cell _ => dc4
  refine ListComp_open (by with_unfolding_all rfl) (by rfl) (by decide) ?_
  k_steps
  dsimp only [Hold]
  have hcell4 : Heap.IsCell _ (L + 1) _ := ⟨_, (N4 _ (.head _)).1, dc4⟩
  refine' comp_all (fun v m => m (Str.ofString "kv") = some v) (grpB s.heap (grp nn)) (fun v z _ => Snd s.heap v z) ?ca1 ?ca2 ?ca3 ?ca4 ?ca5 ?ca6 ?ca7 ?ca8 ?ca9 ?cb1 ?cb2 ?cb3 ?cb4
  case ca2 => exact rfl
  case ca3 => exact goes_name
  case ca4 => decide
  case ca5 => rfl
  case ca6 => exact ⟨_, (N4 _ (.tail _ (.tail _ (.tail _ (.head _))))).1, rfl, _, rfl⟩
  case ca7 => exact F4
  case ca8 => exact N4
  case ca9 => exact line_of hlen
  case ca1 => exact fun _ _ _ _ _ z => z
  case cb1 =>
    intro C v s₃ m₃ Q' E' hv' hn hst _ k
    refine comp_store (by rfl) (by rfl) hn fun h' tk hn' hb' => ?_
    exact k h' _ tk hn' (by rfl) hb'
  case cb2 =>
    intro C v s₃ m₃ E' hv' hn hpp hst hC
    obtain ⟨q, a, t1, t2, rfl, ht, hq4, ht14⟩ := hvs.memV hv'
    have ht' := (TupS.of F4.keep) _ _ (hx.tups hv _ _ ht)
    have F5 : Fr _ C s₃.heap m₃ := ⟨hn, hst, hC⟩
    have hcell5 : s₃.heap.IsCell (L + 1) _ := let ⟨o, ho, r⟩ := hcell4; ⟨o, hst _ _ ho, r⟩
    obtain ⟨hp3, g3, d3, tk3, os3⟩ := s₃
    dsimp only at hn hst F5 hcell5 ⊢
    refine wpAny_tests_one ?_
    walk1
    walk1
    walk1
    walk1
    refine comp_name (by rfl) (by rfl) (by decide) hn hpp ?_
    walk1
    (try dsimp only [Hold])
    refine item_tupB F5 ht' (by decide) (by decide) rfl rfl ?_
    walk1
    walk1
    walk1
    refine comp_cell (by rfl) (by rfl) (by decide) (by rfl) hcell5 ?_
    walk1
    walk1
    rw [gn_eq (grp_lt hq4) (grp_lt hn4)]
    exact ⟨(grpB_eq ⟨a, t1, t2, rfl, ht, hq4, ht14⟩).symm, _, _, rfl, fun _ _ e => e⟩
  case cb3 =>
    intro C v s₃ m₃ E' hv' hp hn hpp hst hC
    obtain ⟨q, a, t1, t2, rfl, ht, hq4, ht14⟩ := hvs.memV hv'
    have ht' := (TupS.of F4.keep) _ _ (hx.tups hv _ _ ht)
    have F5 : Fr _ C s₃.heap m₃ := ⟨hn, hst, hC⟩
    walk1
    refine comp_name (by rfl) (by rfl) (by decide) hn hpp ?_
    walk1
    (try dsimp only [Hold])
    refine item_tupB F5 ht' (by decide) (by decide) rfl rfl ?_
    exact ⟨⟨a, _, rfl, ht⟩, _, _, rfl, fun _ _ e => e⟩
  case cb4 =>
    intro D C h' tk m' ys n' hP F' N' hne hD hn hC hCD st
    refine comp_done F' N' hn hC hCD (by obtain ⟨oL, _, _, hL, _⟩ := F4.ns; rw [hL]; simp) F4.keep (fun q hq => by rw [(N4 q hq).1]; simp) (fun h'' t'' _ st'' F'' N'' => ?_) st
    have hst4 := hx.stay hv F4 N4 (by k_mem) (by k_mem) (by k_mem)
    have hb : s.heap.get? D = none := by
      cases q : s.heap.get? D with
      | none => rfl
      | some o => have := hst4 _ _ q; (try dsimp only at hD); rw [hD] at this; cases this
    exact ret h'' _ D ys n' (fun b o e => st'' _ _ (hst4 _ _ e)) hb (N'' _ (.head _)).1 (texts_of hvs hP)
end
end
section
section
variable {prog : Program} {w : World} {A : Around} {E : Value → Shared → Prop} {s : Shared}
/-- xs[:] = ys -/
theorem setAll {l sl D : Addr} {items ys : Array Value} {n n' : Nat} {Q : Unit → Shared → Prop} (ho : s.heap.get? l = some (listOf items n)) (hD : s.heap.get? D = some (listOf ys n')) (hne : (l == D) = false)
    (hs : s.heap.IsSliceOf sl .none .none .none) (hz : items.size + ys.size ≤ sizeLine) (hQ : ∀ h' n2, h'.get? l = some (listOf ys n2) → Heap.SameBut l s.heap h' → Q () { s with heap := h' }) :
    wpAny (model prog w) A (setItem (.ref l) (.ref sl) (.ref D)) Q E s := by
  have hl : s.heap.IsList l items := PySem.IsL.isList (n := n) ho
  have hl2 : s.heap.IsList D ys := PySem.IsL.isList (n := n') hD
  obtain ⟨os, hos, hcs, hds⟩ := id hs
  have hTs : s.TypeIs (.ref sl) "slice" := ⟨os, hos, hcs⟩
  unfold setItem
  try with_reducible refine wpAny_holding ?_
  first | refine wpAny_bind (wpAny_pure ?_) | skip
  refine wpAny_bind (wpAny_sequenceKey hl.typeIs (by decide) ?_)
  refine wpAny_bind (wpAny_callSpecial?_slot (name := Str.ofString "__setitem__") hl.typeIs slot_list_setitem
    (wpAny_call_entry slot_list_setitem hl.typeIs entry_list_setitem ?_ (args_list_setitem _ _ _)))
  show wpAny _ _ (Builtin.List.listSubscript? (.ref sl) >>= _) _ _ s
  refine wpAny_bind ?_
  unfold Builtin.List.listSubscript?
  refine wpAny_bind (wpAny_specialOf hTs slice_no_index ?_)
  simp only [Option.isNone_none, if_true]
  refine wpAny_pure ?_
  show wpAny _ _ (typeOf (.ref sl) >>= _) _ _ s
  refine wpAny_bind (wpAny_typeOf hTs ?_)
  rw [if_neg (by decide)]
  rw [listSliceParts_eq]
  have hstep : ¬ ((rawPart none == rawInt 0) = true) := Bool.false_ne_true
  refine wpAny_bind (wpAny_bind (wpAny_field hos hds (x := .none) rfl (wpAny_bind (wpAny_listPart .none ?_))))
  rw [if_neg hstep]
  refine wpAny_bind (wpAny_field hos hds (x := .none) rfl (wpAny_bind (wpAny_listPart .none ?_)))
  refine wpAny_bind (wpAny_field hos hds (x := .none) rfl (wpAny_bind (wpAny_listPart .none (wpAny_pure ?_))))
  dsimp only
  rw [if_neg (show ¬ (Builtin.List.listSameRef (.ref l) (.ref D) = true) from fun q => Bool.false_ne_true (hne.symm.trans q))]
  refine wpAny_bind (m := Builtin.List.listAllItems (.ref D) "must assign iterable to extended slice") ?_
  unfold Builtin.List.listAllItems
  refine wpAny_bind (wpAny_typeOf hl2.typeIs ?_)
  rw [if_pos (by decide)]
  unfold Builtin.List.listItems
  refine wpAny_bind (wpAny_seqItems hD rfl (wpAny_pure ?_))
  refine wpAny_bind (m := Builtin.List.listItems (.ref l)) ?_
  unfold Builtin.List.listItems
  refine wpAny_bind (wpAny_seqItems ho rfl (wpAny_pure ?_))
  refine wpAny_bind (wpAny_of_eq (sliceIndices_raw none none none items.size (by simp)) ?_)
  have e : sliceBounds none none none items.size = (((0 : Nat) : Int), ((items.size : Nat) : Int), 1) := by
    simp only [sliceBounds, Option.getD_none, show (1 : Int) > 0 by decide, if_true]
    congr 1
  rw [e]
  dsimp only
  rw [if_pos (by decide)]
  refine wpAny_bind (wpAny_rule ?_)
  rw [if_neg (by unfold Builtin.List.listTooLong; simpa using hz)]
  refine wpAny_bind (m := Builtin.List.listUpdate (.ref l) _) ?_
  unfold Builtin.List.listUpdate
  have hx : (items.extract 0 (Int.toNat ((0 : Nat) : Int)) ++ ys ++ items.extract (max ((0 : Nat) : Int) (items.size : Int)).toNat items.size) = ys := by
    have e1 : (max ((0 : Nat) : Int) (items.size : Int)).toNat = items.size := by omega
    rw [e1]; simp
  refine wpAny_updateSeq ho rfl ?_ (by omega) (by rw [hx]; omega)
  refine wpAny_bind (wpAny_letGo ?_)
  refine wpAny_pure ⟨_, rfl, wpAny_pure (hQ _ (if (ys.size == items.size) = true then n else n + 1) ?_ (Heap.SameBut.update ..))⟩
  rw [Heap.get?_update_self _ ho rfl]
  show some ({ cls := .type "list", data := .seq (items.extract 0 (Int.toNat ((0 : Nat) : Int)) ++ ys ++ items.extract (max ((0 : Nat) : Int) (items.size : Int)).toNat items.size) (if ((items.extract 0 (Int.toNat ((0 : Nat) : Int)) ++ ys ++ items.extract (max ((0 : Nat) : Int) (items.size : Int)).toNat items.size).size == items.size) = true then n else n + 1) } : Obj) = _
  simp only [hx]
end
end
section
section
variable {prog : Program} {w : World} {A : Around} {s : Shared} {mg mb : Str → Option Value} {Q E : Value → Shared → Prop}
local macro_rules | `(tactic| walk_at "subscriptTail") => `(tactic| (refine hold ?_))
theorem del_spec {x dx H : Addr} {t : Tok} {n : Nat} {nn : Nat} {k : Tok} {vs : List Value} {qs : List (Nat × Nat)} {nv : Nat} {h₀ : Heap} (r : Room A 12) (G : Gr w mg mb h₀) (kk : h₀.StaysIn s.heap) (h0 : ∀ a ∈ [x, dx, H], h₀.get? a = none) (hx : HeadIs w.params s.heap x dx H t n) (hv : s.heap.get? H = some (listOf vs.toArray nv)) (hvs0 : All2 (PairV h₀) vs qs) (hlen : vs.length < 2 ^ 20)
    (hn4 : nn < 4) (ret : ∀ h' tk ws n', h'.get? H = some (listOf ws.toArray n') → All2 (PairV h₀) ws (dropG (grp nn) qs) → ws.length ≤ vs.length → But [H] s.heap h' → Q .none { s with heap := h', toks := tk }) :
    wpAny (model prog w) A (call (.ref 131) [.ref x, .str (nm nn) k] []) Q E s := by
  obtain ⟨hnd, dpA, frA, gdA, unA⟩ := A; obtain rfl : hnd = none := r.handled
  have X₀ := G.k.keeps kk
  have hvs : All2 (PairV s.heap) vs qs := hvs0.imp fun _ _ z => z.keeps (TupS.of kk)
  refine wpAny_call ?_
  refine' enterC (binds := [(Str.ofString "self", .ref x), (Str.ofString "name", .str (nm nn) k)]) [x, dx, H] ?e2G ?e2kS ?e2kW ?e2k1 ?e2k2 ?e2kr ?e2k4 ?e2k5 ?e2k6 ?e2kk ?e2c1 ?e2c2 ?e2c3
  case e2G => assumption
  case e2kS => assumption
  case e2kW => assumption
  case e2k1 => k_is
  case e2k2 => k_is
  case e2kr => exact Room.dl (by assumption)
  case e2k4 => exact BindsTo.of_eq rfl
  case e2k5 => exact rfl
  case e2k6 => decide +kernel
  case e2c1 => exact rfl
  case e2c2 => exact rfl
  case e2c3 => exact rfl
  intro L h₁ tk0 cells F NC Y X T stW lt
  have hY := CellsAre.one Y
  obtain ⟨oc, hE, dc⟩ := hY
  subst hE
  clear Y
  (try dsimp only)
  have N := news_hidden (news := [(x, instObj 211 dx), (dx, dictOf [⟨PyData.keyHash w.params (Str.ofString "_headers"), .str (Str.ofString "_headers") t, .ref H⟩] n), (H, listOf vs.toArray nv)]) stW lt (W := [x, dx, H]) (by
    intro p hp; simp only [List.mem_cons, List.not_mem_nil, or_false] at hp
    rcases hp with rfl | rfl | rfl
    · exact ⟨by simp, hx.obj⟩
    · exact ⟨by simp, hx.dict⟩
    · exact ⟨by simp, hv⟩)
  replace N := news_app NC N
  clear NC
  simp only [List.cons_append, List.nil_append] at N
  obtain ⟨ne1, ne2, ne3⟩ := hx.ne hv
  have l1 : @LT.lt Nat _ x L := lt _ _ hx.obj
  have l2 : @LT.lt Nat _ dx L := lt _ _ hx.dict
  have l3 : @LT.lt Nat _ H L := lt _ _ hv
  k_steps
  dsimp only [Hold]
  refine conv_name ((r.deeper _).less (by decide)) (G.keeps (fun b o e => stW _ _ (kk _ _ e))) (fails_gn _) (gn_size _) ?_
  intro h2 tk2 k2
  replace F := F.keeps k2
  replace N := N.grown k2
  dsimp only
  k_steps
  dsimp only [Hold]
  rename Fr _ _ _ _ => F4
  rename News _ _ _ _ => N4
  rename _ = Data.cell _ => dc4
  refine wpAny_Assign_Subscript (ListComp_open (by with_unfolding_all rfl) (by rfl) (by decide) ?_)
  k_steps
  dsimp only [Hold]
  have hcell4 : Heap.IsCell _ (L + 1) _ := ⟨_, (N4 _ (.head _)).1, dc4⟩
  refine' comp_all (fun v m => m (Str.ofString "kv") = some v) (fun v => !grpB s.heap (grp nn) v) (fun v z _ => z = v) ?ca1 ?ca2 ?ca3 ?ca4 ?ca5 ?ca6 ?ca7 ?ca8 ?ca9 ?cb1 ?cb2 ?cb3 ?cb4
  case ca2 => exact rfl
  case ca3 => exact goes_name
  case ca4 => decide
  case ca5 => rfl
  case ca6 => exact ⟨_, (N4 _ (.tail _ (.tail _ (.tail _ (.head _))))).1, rfl, _, rfl⟩
  case ca7 => exact F4
  case ca8 => exact N4
  case ca9 => exact line_of hlen
  case ca1 => exact fun _ _ _ _ _ z => z
  case cb1 =>
    intro C v s₃ m₃ Q' E' hv' hn hst _ k
    refine comp_store (by rfl) (by rfl) hn fun h' tk hn' hb' => ?_
    exact k h' _ tk hn' (by rfl) hb'
  case cb2 =>
    intro C v s₃ m₃ E' hv' hn hpp hst hC
    obtain ⟨q, a, t1, t2, rfl, ht, hq4, ht14⟩ := hvs.memV hv'
    have ht' := (TupS.of F4.keep) _ _ (hx.tups hv _ _ ht)
    have F5 : Fr _ C s₃.heap m₃ := ⟨hn, hst, hC⟩
    have hcell5 : s₃.heap.IsCell (L + 1) _ := let ⟨o, ho, r⟩ := hcell4; ⟨o, hst _ _ ho, r⟩
    obtain ⟨hp3, g3, d3, tk3, os3⟩ := s₃
    dsimp only at hn hst F5 hcell5 ⊢
    refine wpAny_tests_one ?_
    walk1
    walk1
    walk1
    walk1
    refine comp_name (by rfl) (by rfl) (by decide) hn hpp ?_
    walk1
    (try dsimp only [Hold])
    refine item_tupB F5 ht' (by decide) (by decide) rfl rfl ?_
    walk1
    walk1
    walk1
    refine comp_cell (by rfl) (by rfl) (by decide) (by rfl) hcell5 ?_
    walk1
    walk1
    exact ⟨by rw [grpB_eq ⟨a, t1, t2, rfl, ht, hq4, ht14⟩, ← gn_eq (grp_lt hq4) (grp_lt hn4)]; rfl, _, _, rfl, fun _ _ e => e⟩
  case cb3 =>
    intro C v s₃ m₃ E' hv' hp hn hpp hst hC
    exact comp_name (by rfl) (by rfl) (by decide) hn hpp ⟨rfl, _, _, rfl, fun _ _ e => e⟩
  case cb4 =>
    intro D C h' tk m' ys n' hP F' N' hne hD hn hC hCD st
    refine comp_done F' N' hn hC hCD (by obtain ⟨oL, _, _, hL, _⟩ := F4.ns; rw [hL]; simp) F4.keep (fun q hq => by rw [(N4 q hq).1]; simp) (fun h'' t'' _ st'' F'' N'' => ?_) st
    have hys := drop_of hvs0 hvs hP
    k_steps
    have hst4 := hx.stay hv F'' N'' (by k_mem) (by k_mem) (by k_mem)
    have hle : ys.length ≤ vs.length := by rw [← hP.length]; exact List.length_filter_le _ _
    have hD2 := (N'' _ (.head _)).1
    have hHD : @Ne Nat H D := fun e => hne (H, listOf vs.toArray nv) (by k_mem) e
    refine setAll (Heap.get?_push_of_some _ (N'' (H, listOf vs.toArray nv) (by k_mem)).1) (Heap.get?_push_of_some _ hD2) (beq_false_of_ne hHD) (Heap.IsSliceOf.new ..) (by rw [List.size_toArray, List.size_toArray, sizeLine_eq]; omega) ?_
    intro h3 n3 e3 sb3
    (try dsimp only)
    k_steps
    refine ret h3 _ ys n3 e3 hys hle fun b o hb e => ?_
    exact sb3.extBut b o (by simpa using hb) (Heap.get?_push_of_some _ (hst4 _ _ e))
end
end
section
section
variable {M : Model} {A : Around} {E : Value → Shared → Prop} {s : Shared} {K : Frag} {x C L f : Addr} {h₀ : Heap} {m : Str → Option Value} {ox : Obj} {od : Option Obj} {i v : Value}
theorem own_delItem {Q : Unit → Shared → Prop} (F : Fr h₀ L s.heap m) (X₀ : K.In h₀) (I : InstAt s.heap x ox C od) (hq : noSeq K C = true) (hs : findIn K (.ref C) "__delitem__" = some (some (.ref f))) (hf : isFn K (.ref f) = true)
    (h : wpAny M A (call (.ref f) [.ref x, i]) (fun _ s' => Q () s') E s) : wpAny M A (delItem (.ref x) i) Q E s := by
  have X := X₀.keeps F.keep
  unfold delItem sequenceKey
  refine wpAny_holding (wpAny_bind (wpAny_bind (I.type.here ?_)))
  refine wpAny_bind ((anyM_none X hq).here ?_)
  rw [if_pos (show (!false) = true from rfl)]
  exact wpAny_pure (wpAny_bind (special_fn X I hs (beq_iff_eq.mp hf) (wpAny_mono h (fun _ _ z => wpAny_pure z) fun _ _ z => z)))
end
theorem HeadIs.butH {P : Params} {h h' : Heap} {L x dx H : Addr} {t : Tok} {n : Nat} {m : Str → Option Value} (x0 : HeadIs P h x dx H t n) (F : Fr (hideAll h [x, dx, H]) L h' m) (m1 : h'.get? x = some (instObj 211 dx))
    (m2 : h'.get? dx = some (dictOf [⟨PyData.keyHash P (Str.ofString "_headers"), .str (Str.ofString "_headers") t, .ref H⟩] n)) : But [H] h h' := fun b o hb e => by
  by_cases q : b ∈ [x, dx, H]
  · simp only [List.mem_cons, List.not_mem_nil, or_false] at q hb
    rcases q with rfl | rfl | rfl
    · rw [x0.obj] at e; cases e; exact m1
    · rw [x0.dict] at e; cases e; exact m2
    · exact absurd rfl hb
  · exact F.keep _ _ (hideAll_get _ e q)
local macro_rules | `(tactic| walk_at "delItem ref") => `(tactic| (refine hold ?_))
section
variable {prog : Program} {w : World} {A : Around} {s : Shared} {mg mb : Str → Option Value} {Q E : Value → Shared → Prop}
theorem set_spec {x dx H : Addr} {t : Tok} {n : Nat} {nn tt : Nat} {k k2 : Tok} {vs : List Value} {qs : List (Nat × Nat)} {nv : Nat} {h₀ : Heap} (r : Room A 20) (G : Gr w mg mb h₀) (kk : h₀.StaysIn s.heap) (h0 : ∀ a ∈ [x, dx, H], h₀.get? a = none) (hx : HeadIs w.params s.heap x dx H t n) (hv : s.heap.get? H = some (listOf vs.toArray nv)) (hvs : All2 (PairV s.heap) vs qs) (hlen : vs.length < 2 ^ 19)
    (hn4 : nn < 4) (ht4 : tt < 14) (ret : ∀ h' tk ws n', h'.get? H = some (listOf ws.toArray n') → All2 (PairV h') ws (dropG (grp nn) qs ++ [(nn, tt)]) → ws.length ≤ vs.length + 1 → But [H] s.heap h' → Q .none { s with heap := h', toks := tk }) :
    wpAny (model prog w) A (call (.ref 126) [.ref x, .str (nm nn) k, .str (tx tt) k2] []) Q E s := by
  obtain ⟨hnd, dpA, frA, gdA, unA⟩ := A; obtain rfl : hnd = none := r.handled
  have X₀ := G.k.keeps kk
  refine wpAny_call ?_
  refine' enter (binds := [(Str.ofString "self", .ref x), (Str.ofString "name", .str (nm nn) k), (Str.ofString "val", .str (tx tt) k2)]) [x, dx, H] ?e2G ?e2kS ?e2kW ?e2k1 ?e2k2 ?e2kr ?e2k4 ?e2k5 ?e2kk ?e2c1 ?e2c2 ?e2c3 ?e2c4
  case e2G => assumption
  case e2kS => assumption
  case e2kW => assumption
  case e2k1 => k_is
  case e2k2 => k_is
  case e2kr => exact Room.dl (by assumption)
  case e2k4 => exact BindsTo.of_eq rfl
  case e2k5 => exact locs rfl
  case e2c1 => exact rfl
  case e2c2 => exact rfl
  case e2c3 => exact rfl
  case e2c4 => decide
  intro L h₁ F X T stW lt
  (try dsimp only)
  have N : News (hideAll s.heap [x, dx, H]) L h₁ [(x, instObj 211 dx), (dx, dictOf [⟨PyData.keyHash w.params (Str.ofString "_headers"), .str (Str.ofString "_headers") t, .ref H⟩] n), (H, listOf vs.toArray nv)] := news_hidden stW lt (by
    intro p hp; simp only [List.mem_cons, List.not_mem_nil, or_false] at hp
    rcases hp with rfl | rfl | rfl
    · exact ⟨by simp, hx.obj⟩
    · exact ⟨by simp, hx.dict⟩
    · exact ⟨by simp, hv⟩)
  obtain ⟨ne1, ne2, ne3⟩ := hx.ne hv
  k_steps
  dsimp only [Hold]
  rename Fr _ _ _ _ => F4
  rename News _ _ _ _ => N4
  refine own_delItem F4 X (InstAt.mk (od := some _) (N4 _ (.head _)).1 rfl rfl (N4 _ (.tail _ (.head _))).1) (by k_is) (by k_is) (by k_is) ?_
  have vs4 : All2 (PairV (hideAll s.heap [x, dx, H])) vs qs := hvs.imp fun _ _ z => z.keeps (hx.tups hv)
  refine del_spec ((r.deeper _).less (by decide)) ⟨X, T⟩ F4.keep (fun a ha => hideAll_none _ ha) ⟨(N4 _ (.head _)).1, (N4 _ (.tail _ (.head _))).1⟩ (N4 _ (.tail _ (.tail _ (.head _)))).1 vs4 (by omega) hn4 ?_
  intro h5 tk5 ws n5 e5 v5 z5 b5
  have F5 := b5.fr F4 (fun q hq => by cases List.mem_singleton.mp hq; exact hideAll_none _ (by simp)) (fun q => Nat.lt_irrefl _ ((List.mem_singleton.mp q) ▸ lt _ _ hv))
  have N5 := b5.news (a := H) N4 e5 (by k_upd)
  clear F4 N4
  dsimp only
  k_steps
  dsimp only [Hold]
  refine conv_name ((r.deeper _).less (by decide)) (Gr.keeps ⟨X, T⟩ F5.keep) (fails_nm _) (nm_size _) ?_
  intro h6 tk6 k6
  replace F5 := F5.keeps k6
  replace N5 := N5.grown k6
  dsimp only
  k_steps
  dsimp only [Hold]
  refine conv_text ((r.deeper _).less (by decide)) (Gr.keeps ⟨X, T⟩ F5.keep) (fails_tx ht4) (tx_size ht4) ?_
  intro h7 tk7 k7
  replace F5 := F5.keeps k7
  replace N5 := N5.grown k7
  dsimp only
  k_steps
  rename Fr _ _ _ _ => F9
  rename News _ _ _ _ => N9
  refine ret _ _ (ws ++ [_]) (n5 + 1) ((N9 (H, _) (by k_mem)).1.trans (by simp)) (All2.append (v5.imp fun _ _ z => z.keeps (TupS.of F9.keep)) (.cons ⟨_, k, k2, rfl, ⟨_, (N9 _ (.head _)).1, rfl, _, rfl⟩, hn4, ht4⟩ .nil)) (by rw [List.length_append]; simpa using z5) (hx.butH F9 (N9 _ (.tail _ (.head _))).1 (N9 _ (.tail _ (.tail _ (.head _)))).1)
end
end
section
section
variable {prog : Program} {w : World} {A : Around} {s : Shared} {mg mb : Str → Option Value} {Q E : Value → Shared → Prop}
theorem dflt_spec {x dx H : Addr} {t : Tok} {n : Nat} {nn tt : Nat} {k k2 : Tok} {vs : List Value} {qs : List (Nat × Nat)} {nv : Nat} {h₀ : Heap} (r : Room A 20) (G : Gr w mg mb h₀) (kk : h₀.StaysIn s.heap) (h0 : ∀ a ∈ [x, dx, H], h₀.get? a = none) (hx : HeadIs w.params s.heap x dx H t n) (hv : s.heap.get? H = some (listOf vs.toArray nv)) (hvs : All2 (PairV s.heap) vs qs) (hlen : vs.length < 2 ^ 19)
    (hn4 : nn < 4) (ht4 : tt < 14)
    (ret1 : textsG (grp nn) qs = [] → ∀ h' tk ws n', h'.get? H = some (listOf ws.toArray n') → All2 (PairV h') ws (qs ++ [(nn, tt)]) → ws.length ≤ vs.length + 1 → But [H] s.heap h' → Q (.str (tx tt) k2) { s with heap := h', toks := tk })
    (ret2 : ∀ v t0 r0 h' tk, textsG (grp nn) qs = t0 :: r0 → TxV v t0 → s.heap.StaysIn h' → Q v { s with heap := h', toks := tk }) :
    wpAny (model prog w) A (call (.ref 201) [.ref x, .str (nm nn) k, .str (tx tt) k2] []) Q E s := by
  obtain ⟨hnd, dpA, frA, gdA, unA⟩ := A; obtain rfl : hnd = none := r.handled
  have X₀ := G.k.keeps kk
  refine wpAny_call ?_
  refine' enter (binds := [(Str.ofString "self", .ref x), (Str.ofString "name", .str (nm nn) k), (Str.ofString "value", .str (tx tt) k2)]) [x, dx, H] ?e2G ?e2kS ?e2kW ?e2k1 ?e2k2 ?e2kr ?e2k4 ?e2k5 ?e2kk ?e2c1 ?e2c2 ?e2c3 ?e2c4
  case e2G => assumption
  case e2kS => assumption
  case e2kW => assumption
  case e2k1 => k_is
  case e2k2 => k_is
  case e2kr => exact Room.dl (by assumption)
  case e2k4 => exact BindsTo.of_eq rfl
  case e2k5 => exact locs rfl
  case e2c1 => exact rfl
  case e2c2 => exact rfl
  case e2c3 => exact rfl
  case e2c4 => decide
  intro L h₁ F X T stW lt
  (try dsimp only)
  have N : News (hideAll s.heap [x, dx, H]) L h₁ [(x, instObj 211 dx), (dx, dictOf [⟨PyData.keyHash w.params (Str.ofString "_headers"), .str (Str.ofString "_headers") t, .ref H⟩] n), (H, listOf vs.toArray nv)] := news_hidden stW lt (by
    intro p hp; simp only [List.mem_cons, List.not_mem_nil, or_false] at hp
    rcases hp with rfl | rfl | rfl
    · exact ⟨by simp, hx.obj⟩
    · exact ⟨by simp, hx.dict⟩
    · exact ⟨by simp, hv⟩)
  obtain ⟨ne1, ne2, ne3⟩ := hx.ne hv
  k_steps
  dsimp only [Hold]
  rename Fr _ _ _ _ => F4
  rename News _ _ _ _ => N4
  have vs4 : All2 (PairV (hideAll s.heap [x, dx, H])) vs qs := hvs.imp fun _ _ z => z.keeps (hx.tups hv)
  refine get_spec ((r.deeper _).less (by decide)) ⟨X, T⟩ F4.keep (fun a ha => hideAll_none _ ha) ⟨(N4 _ (.head _)).1, (N4 _ (.tail _ (.head _))).1⟩ (N4 _ (.tail _ (.tail _ (.head _)))).1 (vs4.imp fun _ _ z => z.keeps (TupS.of F4.keep)) hn4 ?_
  intro h5 tk5 v k5 fv
  have F5 := F4.keeps k5
  have N5 := N4.grown k5
  clear F4 N4
  dsimp only
  cases hq : textsG (grp nn) qs with
  | nil =>
    rw [hq] at fv
    obtain rfl : v = .none := fv
    k_steps
    dsimp only [Hold]
    refine conv_name ((r.deeper _).less (by decide)) (Gr.keeps ⟨X, T⟩ (Fr.keep (by assumption))) (fails_nm _) (nm_size _) ?_
    intro h6 tk6 k6
    rename Fr _ _ _ _ => F6
    rename News _ _ _ _ => N6
    replace F6 := F6.keeps k6
    replace N6 := N6.grown k6
    dsimp only
    k_steps
    dsimp only [Hold]
    refine conv_text ((r.deeper _).less (by decide)) (Gr.keeps ⟨X, T⟩ F6.keep) (fails_tx ht4) (tx_size ht4) ?_
    intro h7 tk7 k7
    replace F6 := F6.keeps k7
    replace N6 := N6.grown k7
    dsimp only
    k_steps
    rename Fr _ _ _ _ => F9
    rename News _ _ _ _ => N9
    refine ret1 hq _ _ (vs ++ [_]) (nv + 1) ((N9 (H, _) (by k_mem)).1.trans (by simp)) (All2.append (vs4.imp fun _ _ z => z.keeps (TupS.of F9.keep)) (.cons ⟨_, k, k2, rfl, ⟨_, (N9 _ (.head _)).1, rfl, _, rfl⟩, hn4, ht4⟩ .nil)) (by rw [List.length_append]; simp) (hx.butH F9 (N9 _ (.tail _ (.head _))).1 (N9 _ (.tail _ (.tail _ (.head _)))).1)
  | cons t0 r0 =>
    rw [hq] at fv
    obtain ⟨h14, kv, rfl⟩ : TxV v t0 := fv
    k_steps
    rename Fr _ _ _ _ => F9
    rename News _ _ _ _ => N9
    exact ret2 _ t0 r0 _ _ hq ⟨h14, _, rfl⟩ (hx.stay hv F9 N9 (by k_mem) (by k_mem) (by k_mem))
end
end
section
section
variable {prog : Program} {w : World} {A : Around} {s : Shared} {h₀ : Heap} {R : Result → Shared → Prop} {mg mb : Str → Option Value}
  {name qual : Str} {params : Arguments} {body : List Stmt} {scope : Scope} {dV kV doc pm cdv ct oc : Value} {an od : Option Addr} {osl : Array (Option Value)} {f : Addr} {args : Args} {binds : Addr → List (Str × Value)}
/-- a call of a def with ** that is given no keywords -/
theorem enterM (W : List Addr) (G : Gr w mg mb h₀) (k : h₀.StaysIn s.heap) (hW : ∀ a ∈ W, h₀.get? a = none)
    (ho : (hd.heap_1 w.params).lookup f = some ⟨oc, od, .func (fnOf name qual params body scope dV kV doc pm an cdv ct), osl⟩) (hcd : codeIn (hd.heap_1 w.params) cdv qual = true) (hroom : A.depth < recursionLimit)
    (hbind : bindArgs (fnOf name qual params body scope dV kV doc pm an cdv ct) args = (alloc (dictOf [] 0) >>= fun D => pure (binds D))) (hloc : ∀ D, ∀ y ∈ binds D, scope.names.lookup y.1 = some .local)
    (h : ∀ L D h₁ tk, Fr (hideAll s.heap W) L h₁ (fun y => (binds D).reverse.lookup y) → News (hideAll s.heap W) L h₁ [(D, dictOf [] 0)] → (hd.heap_1 w.params).In (hideAll s.heap W) → TR mg mb (hideAll s.heap W) → s.heap.StaysIn h₁ → (∀ b o, s.heap.get? b = some o → b < D) → (D == sysModules) = false → D < L →
      wpAny (model prog w) (A.deeper (envOf qual scope L f cdv)) (execs body (envOf qual scope L f cdv))
        (fun fl s' => R (.ok (.ret (match fl with | .ret v => v | _ => .none))) s') (fun _ _ => False) { s with heap := h₁, toks := tk })
    (hco : scope.isCoroutine = false) (hgen : scope.isGenerator = false) (hk : scope.kind = .function)
    (hcell : ∀ x ∈ scope.names, x.2 ≠ .cell) : codeAny (model prog w) A (.call (.ref f) args) R s := by
  have Gs := G.keeps k
  have Gg := G.keeps (stays_hide k hW)
  refine codeAny_call_function (fd := fnOf name qual params body scope dV kV doc pm an cdv ct) (body := body) hroom (Gs.k _ _ ho) rfl hco hgen rfl (codeRec_of Gs.k hcd) ?_
  rw [hbind]
  refine wpAny_bind (wpAny_alloc (wpAny_pure ?_))
  have up : s.heap.StaysIn (s.heap.push (dictOf [] 0)) := fun b o e => Heap.get?_push_of_some _ e
  have hD : (s.heap.push (dictOf [] 0)).get? s.heap.objs.size = some (dictOf [] 0) := Heap.get?_push_size _ rfl
  have hlt : ∀ b o, s.heap.get? b = some o → b < s.heap.objs.size := fun b o e => Heap.lt_size e
  have hsz : (s.heap.push (dictOf [] 0)).objs.size = s.heap.objs.size + 1 := Heap.size_push _ _
  refine wpAny_newFunctionEnv hcell (hloc _) (fun h₁ hns₁ hsb₁ => ?_) hk
  dsimp only at hns₁ hsb₁ ⊢
  rw [hsz] at hns₁ hsb₁ ⊢
  have st : (s.heap.push (dictOf [] 0)).StaysIn h₁ := fun b o e => hsb₁.extBut b o (by have := Heap.lt_size e; rw [hsz] at this; exact Nat.ne_of_lt this) (Heap.get?_push_of_some _ e)
  refine ⟨(Gs.t.nolimit.keeps up).keeps st, codeAny_func ?_⟩
  refine wpAny_mono (h (s.heap.objs.size + 1) s.heap.objs.size h₁ _ ⟨hns₁, fun b o e => st _ _ (up b o (of_hideAll _ e)), ?_⟩ (fun p hp => ?_) Gg.k Gg.t (fun b o e => st _ _ (up b o e)) hlt ?_ (Nat.lt_succ_self _)) (fun _ _ x => x) (fun _ _ x => x.elim)
  · rw [hideAll_size]; exact Nat.le_succ _
  · cases List.mem_singleton.mp hp
    refine ⟨st _ _ hD, Nat.ne_of_lt (Nat.lt_succ_self _), ?_⟩
    cases q : (hideAll s.heap W).get? s.heap.objs.size with
    | none => rfl
    | some o => exact absurd (hlt _ _ (of_hideAll _ q)) (Nat.lt_irrefl _)
  · exact beq_eq_false_iff_ne.mpr (Nat.ne_of_gt (modules_low Gs.t.nolimit))
end
section
variable {prog : Program} {w : World} {A : Around} {s : Shared} {env : Env} {g : Heap} {L d : Addr} {m : Str → Option Value} {news : List (Addr × Obj)}
theorem empty_at {h : Heap} (e : h.get? d = some (dictOf [] 0)) : h.DictAt (strKind prog w) d ([] : List (Str × Value)) 0 :=
  ⟨_, _, e, ⟨rfl, rfl, rfl⟩, rfl, fun e he => by simp at he, .nil, List.nodup_nil⟩
theorem items_method {pl : Sem Bool} {Q : Value × List Value → Shared → Prop} {E : Value → Shared → Prop} (e : s.heap.get? d = some (dictOf [] 0)) (h : Q (.builtin "dict.items", [.ref d]) s) : wpAny (model prog w) A (getMethod (.ref d) (Str.ofString "items") pl) Q E s :=
  getMethod_builtin ⟨_, e, rfl⟩ PySem.F.plainAttrs_dict PySem.F.slot_dict_items PySem.F.type_dict_items (fun a e' => by cases e'; exact ⟨_, e, rfl⟩) h
theorem items_call {Q E : Value → Shared → Prop} (F : Fr g L s.heap m) (N : News g L s.heap news) (e : s.heap.get? d = some (dictOf [] 0)) (lo : (d == sysModules) = false)
    (h : ∀ v h', h'.IsItemsView v d → Fr g L h' m → News g L h' news → Q (.ref v) { s with heap := h' }) : wpAny (model prog w) A (call (.builtin "dict.items") [.ref d]) Q E s :=
  call_meetsIn PySem.F.slot_dict_items ⟨_, e, rfl⟩ PySem.F.entry_dict_items (PySem.F.args_dict_items_1 _) (meets_dict_items (strKind prog w) d lo) ⟨⟨_, (empty_at e).dictOf⟩, h _ _ ⟨_, Heap.get?_push_size _ rfl, rfl, rfl⟩ (F.push _) (fun p hp => ⟨Heap.get?_push_of_some _ (N p hp).1, (N p hp).2⟩)⟩
theorem for_no_items {v : Addr} {target : Expr} {body : List Stmt} {Q : Flow → Shared → Prop} (hh : A.handled = none) (hv : s.heap.IsItemsView v d) (hd : (d, dictOf [] 0) ∈ news) (F : Fr g L s.heap m) (N : News g L s.heap news)
    (done : ∀ h tk, Fr g L h m → News g L h news → Q .next { s with heap := h, toks := tk }) {E : Value → Shared → Prop} :
    wpAny (model prog w) A (pyIter (.ref v)) (fun it s₂ => codeAny (model prog w) A (.forLoop target it body [] env) (fun r s' => match r with | .ok f => Q f s' | .error e => cameBackBy (model prog w) A env (fun _ _ => False) e s') s₂) E s := by
  have hD := empty_at (prog := prog) (w := w) (N _ hd).1
  refine wpAny_pyIter_items hv hD ?_
  have hlt : ∀ b o, s.heap.get? b = some o → b ≠ s.heap.objs.size := fun b o e => Nat.ne_of_lt (Heap.lt_size e)
  refine codeAny_forLoop_any (fun k s' => ∃ h tk, s' = { s with heap := h, toks := tk } ∧ Fr g L h m ∧ News g L h news ∧ IsItemIter h s.heap.objs.size d 0 0 0 .none .none) ?_ 0
    ⟨_, s.toks, rfl, F.push _, fun p hp => ⟨Heap.get?_push_of_some _ (N p hp).1, (N p hp).2⟩, Heap.get?_push_size _ rfl⟩
  intro k s' hXr
  refine gl_in fun gGl hGl => ?_
  obtain ⟨h, tk, rfl, F₁, N₁, hit⟩ := hXr
  refine hGl ?_
  clear hGl gGl
  refine wpAny_pyNext_items_end (kvs := ([] : List (Str × Value))) (knd := strKind prog w) hh hit (empty_at (N₁ _ hd).1) rfl fun h' he' => ?_
  refine wpAny_execs_nil (done h' tk ⟨?_, fun b x e => he' b _ ?_ (F₁.keep b x e), F₁.above⟩ fun p hp => ⟨he' _ _ (hlt _ _ (N p hp).1) (N₁ p hp).1, (N₁ p hp).2⟩)
  · obtain ⟨oL, es, ep, hLo, r⟩ := F₁.ns
    exact ⟨oL, es, ep, he' L _ (Nat.ne_of_lt F.ns.lt) hLo, r⟩
  · exact hlt b _ (F.keep b x e)
end
end
section
local macro_rules | `(tactic| walk_at "exec For Tuple Call cons nil") => `(tactic| walk_at "my For")
theorem join_one {prog : Program} {w : World} {A : Around} {s : Shared} {E Q : Value → Shared → Prop} {sep y : Str} {t u : Tok} {a : Addr} {n : Nat} (e : s.heap.get? a = some (listOf [.str y u].toArray n)) (hl : y.length + sep.length < 1000) (h : Q (.str y u) s) :
    wpAny (model prog w) A (call (.builtin "str.join") [.str sep t, .ref a]) Q E s :=
  call_meets PySem.F.slot_str_join (typeIs_str _ _ _) PySem.F.entry_str_join (PySem.F.args_str_join_2 _ _) (meets_str_join_list sep t a [(y, u)] (by
    show decide (_ > sizeLine) = false
    rw [decide_eq_false]
    rw [sizeLine_eq]
    simp
    omega)) ⟨⟨_, e, rfl, n, rfl⟩, h⟩
local macro_rules | `(tactic| walk_at "getMethod ref") => `(tactic| ((with_reducible show wpAny _ _ (getMethod (Value.ref _) (Str.ofString "items") _) _ _ _); refine hold ?_))
local macro_rules | `(tactic| walk_at "call builtin:str.join") => `(tactic| (refine hold ?_))
local macro_rules | `(tactic| walk_at "call builtin:dict.items") => `(tactic| (refine hold ?_))
section
variable {prog : Program} {w : World} {A : Around} {s : Shared} {mg mb : Str → Option Value} {Q E : Value → Shared → Prop}
theorem add_spec {x dx H : Addr} {t : Tok} {n : Nat} {nn tt : Nat} {k k2 : Tok} {vs : List Value} {qs : List (Nat × Nat)} {nv : Nat} {h₀ : Heap} (r : Room A 20) (G : Gr w mg mb h₀) (kk : h₀.StaysIn s.heap) (h0 : ∀ a ∈ [x, dx, H], h₀.get? a = none) (hx : HeadIs w.params s.heap x dx H t n) (hv : s.heap.get? H = some (listOf vs.toArray nv)) (hvs : All2 (PairV s.heap) vs qs) (hlen : vs.length < 2 ^ 19)
    (hn4 : nn < 4) (ht4 : tt < 14)
    (ret : ∀ h' tk ws n', h'.get? H = some (listOf ws.toArray n') → All2 (PairV h') ws (qs ++ [(nn, tt)]) → ws.length ≤ vs.length + 1 → But [H] s.heap h' → Q .none { s with heap := h', toks := tk }) :
    wpAny (model prog w) A (call (.ref 208) [.ref x, .str (nm nn) k, .str (tx tt) k2] []) Q E s := by
  obtain ⟨hnd, dpA, frA, gdA, unA⟩ := A; obtain rfl : hnd = none := r.handled
  have X₀ := G.k.keeps kk
  refine wpAny_call ?_
  refine' enterM (binds := fun D => [(Str.ofString "self", .ref x), (Str.ofString "_name", .str (nm nn) k), (Str.ofString "_value", .str (tx tt) k2), (Str.ofString "_params", .ref D)]) [x, dx, H] ?e2G ?e2kS ?e2kW ?e2k1 ?e2k2 ?e2kr ?e2k4 ?e2k5 ?e2kk ?e2c1 ?e2c2 ?e2c3 ?e2c4
  case e2G => assumption
  case e2kS => assumption
  case e2kW => assumption
  case e2k1 => k_is
  case e2k2 => k_is
  case e2kr => exact Room.dl (by assumption)
  case e2k4 => exact rfl
  case e2k5 => exact fun D => locs rfl
  case e2c1 => exact rfl
  case e2c2 => exact rfl
  case e2c3 => exact rfl
  case e2c4 => decide
  intro L D h₁ tk0 F ND X T stW lt lm lDL
  (try dsimp only)
  have N : News (hideAll s.heap [x, dx, H]) L h₁ [(x, instObj 211 dx), (dx, dictOf [⟨PyData.keyHash w.params (Str.ofString "_headers"), .str (Str.ofString "_headers") t, .ref H⟩] n), (H, listOf vs.toArray nv)] := news_hidden stW (fun b o e => Nat.lt_trans (lt b o e) lDL) (by
    intro p hp; simp only [List.mem_cons, List.not_mem_nil, or_false] at hp
    rcases hp with rfl | rfl | rfl
    · exact ⟨by simp, hx.obj⟩
    · exact ⟨by simp, hx.dict⟩
    · exact ⟨by simp, hv⟩)
  obtain ⟨ne1, ne2, ne3⟩ := hx.ne hv
  replace N := news_app ND N
  clear ND
  simp only [List.cons_append, List.nil_append] at N
  have l1 : @LT.lt Nat _ x D := lt _ _ hx.obj
  have l2 : @LT.lt Nat _ dx D := lt _ _ hx.dict
  have l3 : @LT.lt Nat _ H D := lt _ _ hv
  k_steps
  dsimp only [Hold]
  rename Fr _ _ _ _ => F4
  rename News _ _ _ _ => N4
  refine conv_text ((r.deeper _).less (by decide)) (Gr.keeps ⟨X, T⟩ F4.keep) (fails_tx ht4) (tx_size ht4) ?_
  intro h7 tk7 k7
  replace F4 := F4.keeps k7
  replace N4 := N4.grown k7
  dsimp only
  k_steps
  rename Fr _ _ _ _ => F5
  rename News _ _ _ _ => N5
  dsimp only [Hold]
  refine items_method (N5 (D, _) (by k_mem)).1 ?_
  k_steps
  dsimp only [Hold]
  refine items_call F5 N5 (N5 (D, _) (by k_mem)).1 lm ?_
  intro v h6 hv6 F6 N6
  clear F5 N5
  k_steps
  dsimp only [Hold]
  refine for_no_items rfl hv6 (by k_mem) F6 N6 ?_
  intro h8 tk8 F8 N8
  clear F6 N6
  (try dsimp only)
  k_steps
  dsimp only [Hold]
  refine conv_name ((r.deeper _).less (by decide)) (Gr.keeps ⟨X, T⟩ F8.keep) (fails_nm _) (nm_size _) ?_
  intro h9 tk9 k9
  replace F8 := F8.keeps k9
  replace N8 := N8.grown k9
  dsimp only
  k_steps
  rename Fr _ _ _ _ => F10
  rename News _ _ _ _ => N10
  dsimp only [Hold]
  refine join_one (y := tx tt) (u := k2) (n := 0 + 1) ((N10 _ (.head _)).1.trans (by simp)) (by have := tx_size ht4; show (tx tt).cps.size + 2 < 1000; omega) ?_
  k_steps
  rename Fr _ _ _ _ => F9
  rename News _ _ _ _ => N9
  refine ret _ _ (vs ++ [_]) (nv + 1) ((N9 (H, _) (by k_mem)).1.trans (by simp)) (All2.append (hvs.imp fun _ _ z => z.keeps ((hx.tups hv).trans (TupS.of F9.keep))) (.cons ⟨_, k, k2, rfl, ⟨_, (N9 _ (.head _)).1, rfl, _, rfl⟩, hn4, ht4⟩ .nil)) (by rw [List.length_append]; simp) (hx.butH F9 (N9 (x, instObj 211 dx) (by k_mem)).1 (N9 (dx, dictOf _ n) (by k_mem)).1)
end
end
section
section
variable {prog : Program} {w : World} {A : Around} {s : Shared} {mg mb : Str → Option Value} {Q E : Value → Shared → Prop}
theorem items_spec {x dx H : Addr} {t : Tok} {n : Nat} {vs : List Value} {nv : Nat} {h₀ : Heap} (r : Room A 12) (G : Gr w mg mb h₀) (kk : h₀.StaysIn s.heap) (h0 : ∀ a ∈ [x, dx, H], h₀.get? a = none) (hx : HeadIs w.params s.heap x dx H t n) (hv : s.heap.get? H = some (listOf vs.toArray nv)) (hlen : vs.length < 2 ^ 19)
    (ret : ∀ h' tk D n', s.heap.StaysIn h' → s.heap.get? D = none → h'.get? D = some (listOf vs.toArray n') → Q (.ref D) { s with heap := h', toks := tk }) :
    wpAny (model prog w) A (call (.ref 175) [.ref x] []) Q E s := by
  obtain ⟨hnd, dpA, frA, gdA, unA⟩ := A; obtain rfl : hnd = none := r.handled
  have X₀ := G.k.keeps kk
  refine wpAny_call ?_
  refine' enter (binds := [(Str.ofString "self", .ref x)]) [x, dx, H] ?e2G ?e2kS ?e2kW ?e2k1 ?e2k2 ?e2kr ?e2k4 ?e2k5 ?e2kk ?e2c1 ?e2c2 ?e2c3 ?e2c4
  case e2G => assumption
  case e2kS => assumption
  case e2kW => assumption
  case e2k1 => k_is
  case e2k2 => k_is
  case e2kr => exact Room.dl (by assumption)
  case e2k4 => exact BindsTo.of_eq rfl
  case e2k5 => exact locs rfl
  case e2c1 => exact rfl
  case e2c2 => exact rfl
  case e2c3 => exact rfl
  case e2c4 => decide
  intro L h₁ F X T stW lt
  (try dsimp only)
  have N : News (hideAll s.heap [x, dx, H]) L h₁ [(x, instObj 211 dx), (dx, dictOf [⟨PyData.keyHash w.params (Str.ofString "_headers"), .str (Str.ofString "_headers") t, .ref H⟩] n), (H, listOf vs.toArray nv)] := news_hidden stW lt (by
    intro p hp; simp only [List.mem_cons, List.not_mem_nil, or_false] at hp
    rcases hp with rfl | rfl | rfl
    · exact ⟨by simp, hx.obj⟩
    · exact ⟨by simp, hx.dict⟩
    · exact ⟨by simp, hv⟩)
  obtain ⟨ne1, ne2, ne3⟩ := hx.ne hv
  k_steps
  rename Fr _ _ _ _ => F1
  rename News _ _ _ _ => N1
  (try dsimp only [Hold])
  refine kba_turn (value' := Expr.Name (Str.ofString "_") ⟨0, 0, 0, 0⟩) (fun _ => rfl) ?_
  refine kmk_slice (s := ⟨_, _, _, _, _⟩) F1 N1 ⟨_, (N1 (H, _) (by k_mem)).1, rfl, _, rfl⟩ .none .none ?_ (by with_unfolding_all rfl) (by intro _; with_unfolding_all rfl) (by rw [List.size_toArray]; exact line_of (by omega))
  intro D2 h2 F2 N2 l2
  rw [pick_all] at N2
  clear F1 N1
  dsimp only
  k_steps
  have st := hx.stay hv F2 N2 (by k_mem) (by k_mem) (by k_mem)
  have hb : s.heap.get? D2 = none := by
    have := (N2 _ (.head _)).2.2
    cases q : s.heap.get? D2 with
    | none => rfl
    | some o =>
      exfalso
      have q2 : D2 ∈ [x, dx, H] := Classical.byContradiction fun q2 => by rw [hideAll_get _ q q2] at this; cases this
      simp only [List.mem_cons, List.not_mem_nil, or_false] at q2
      have l1 := l2 (x, instObj 211 dx) (by k_mem)
      have l3 := l2 (dx, _) (by k_mem)
      have l4 := l2 (H, _) (by k_mem)
      rcases q2 with rfl | rfl | rfl
      · exact Nat.lt_irrefl _ l1
      · exact Nat.lt_irrefl _ l3
      · exact Nat.lt_irrefl _ l4
  exact ret _ _ D2 _ st hb (N2 _ (.head _)).1
end
end
section
theorem Room.make {A : Around} {d : Nat} (r : Room A (d + 1)) (C : Addr) : Room (A.under (.builtin "type.__call__" ⟨[.ref C], []⟩)) d :=
  ⟨r.handled, by have := r.depth; rw [depth_under_make]; omega, by have := r.units; rw [units_under_make]; omega⟩
theorem fresh_hid {h : Heap} {W : List Addr} {D : Addr} (e : (hideAll h W).get? D = none) (n : D ∉ W) : h.get? D = none := by
  cases q : h.get? D with
  | none => rfl
  | some o => rw [hideAll_get _ q n] at e; cases e
local macro_rules | `(tactic| walk_at "call ref") => `(tactic| (fail_if_success (with_reducible show wpAny _ _ (call (Value.ref 211) _ _) _ _ _); refine hold ?_))
section
variable {prog : Program} {w : World} {A : Around} {s : Shared} {mg mb : Str → Option Value} {Q E : Value → Shared → Prop}
theorem init_code {R : Result → Shared → Prop} {x dx : Addr} {h₀ : Heap} (r : Room A 12) (G : Gr w mg mb h₀) (kk : h₀.StaysIn s.heap) (h0 : ∀ a ∈ [x, dx], h₀.get? a = none) (hx : s.heap.get? x = some (instObj 211 dx)) (hd : s.heap.get? dx = some (dictOf [] 0)) (ret : ∀ h' tk H t n nv, HeadIs w.params h' x dx H t n → h'.get? H = some (listOf #[] nv) → s.heap.get? H = none → But [dx] s.heap h' → R (.ok (.ret .none)) { s with heap := h', toks := tk }) :
    codeAny (model prog w) A (.call (.ref 105) ⟨[.ref x], []⟩) R s := by
  obtain ⟨hnd, dpA, frA, gdA, unA⟩ := A; obtain rfl : hnd = none := r.handled
  have X₀ := G.k.keeps kk
  have ne1 : @Ne Nat x dx := fun e => by have := hx; rw [show x = dx from e, hd] at this; cases this
  refine' enter (binds := [(Str.ofString "self", .ref x), (Str.ofString "headers", .none)]) [x, dx] ?e2G ?e2kS ?e2kW ?e2k1 ?e2k2 ?e2kr ?e2k4 ?e2k5 ?e2kk ?e2c1 ?e2c2 ?e2c3 ?e2c4
  case e2G => assumption
  case e2kS => assumption
  case e2kW => assumption
  case e2k1 => k_is
  case e2k2 => k_is
  case e2kr => exact Room.dl (by assumption)
  case e2k4 => exact binds_K X₀ rfl (by k_is) rfl rfl rfl
  case e2k5 => exact locs rfl
  case e2c1 => exact rfl
  case e2c2 => exact rfl
  case e2c3 => exact rfl
  case e2c4 => decide
  intro L h₁ F X T stW lt
  (try dsimp only)
  have N : News (hideAll s.heap [x, dx]) L h₁ [(x, instObj 211 dx), (dx, dictOf [] 0)] := news_hidden stW lt (by
    intro p hp; simp only [List.mem_cons, List.not_mem_nil, or_false] at hp
    rcases hp with rfl | rfl
    · exact ⟨by simp, hx⟩
    · exact ⟨by simp, hd⟩)
  have l1 : @LT.lt Nat _ x L := lt _ _ hx
  have l2 : @LT.lt Nat _ dx L := lt _ _ hd
  k_steps
  dsimp only [Hold]
  rename Fr _ _ _ _ => F4
  rename News _ _ _ _ => N4
  refine for_nil rfl goes_tuple (.head _) F4 N4 ?_
  intro h5 tk5 F5 N5
  clear F4 N4
  (try dsimp only)
  k_steps
  rename_i HH _ l6 _ _ _
  have hH : s.heap.get? HH = none := fresh_hid (N5 _ (.head _)).2.2 (by
    intro q
    simp only [List.mem_cons, List.not_mem_nil, or_false] at q
    rcases q with rfl | rfl
    · exact Nat.lt_irrefl _ l6.1
    · exact Nat.lt_irrefl _ l6.2)
  refine ret _ _ _ _ 1 0 ⟨(N5 (x, _) (by k_mem)).1, (N5 (dx, _) (by k_mem)).1⟩ (N5 _ (.head _)).1 hH fun b o hb e => ?_
  by_cases q : b = x
  · subst q; rw [hx] at e; cases e; exact (N5 (b, _) (by k_mem)).1
  · exact F5.keep _ _ (hideAll_get _ e (by simp only [List.mem_cons, List.not_mem_nil, or_false] at hb ⊢; exact fun z => z.elim q hb))
theorem make_spec {g : Heap} {L : Addr} {m : Str → Option Value} {news : List (Addr × Obj)} (r : Room A 13) (G : Gr w mg mb g) (F : Fr g L s.heap m) (N : News g L s.heap news)
    (ret : ∀ h' tk x dx H t n nv, Fr g L h' m → News g L h' ((x, instObj 211 dx) :: (dx, dictOf [⟨PyData.keyHash w.params (Str.ofString "_headers"), .str (Str.ofString "_headers") t, .ref H⟩] n) :: (H, listOf #[] nv) :: news) → (∀ p ∈ news, p.1 < dx) → @LT.lt Nat _ dx x → @Ne Nat H x → @Ne Nat H dx → (∀ p ∈ news, p.1 ≠ H) → Q (.ref x) { s with heap := h', toks := tk }) :
    wpAny (model prog w) A (call (.ref 211) []) Q E s := by
  refine wpAny_call (make_K F N (G.keeps F.keep).k (by k_is) (by k_is) (by k_is) fun x dx h' F' N' l1 l2 => ?_)
  have hx := N' _ (.head _)
  have hd' := N' _ (.tail _ (.head _))
  refine init_code (s := { s with heap := h' }) (r.make 211) G F'.keep (fun a ha => ?_) hx.1 hd'.1 fun h2 tk2 H t n nv hH he hn hb => ?_
  · simp only [List.mem_cons, List.not_mem_nil, or_false] at ha
    rcases ha with rfl | rfl
    · exact hx.2.2
    · exact hd'.2.2
  have hHL : H ≠ L := fun e => by
    obtain ⟨oL, _, _, hL, _⟩ := F'.ns
    (try dsimp only at hn)
    rw [← e, hn] at hL; cases hL
  have hHg : g.get? H = none := by
    cases q : g.get? H with
    | none => rfl
    | some o => have := F'.keep _ _ q; (try dsimp only at hn); rw [hn] at this; cases this
  have hne : ∀ p ∈ (x, instObj 211 dx) :: (dx, emptyDict) :: news, H ≠ p.1 := fun p hp e => by
    have := (N' p hp).1
    (try dsimp only at hn)
    rw [← e, hn] at this; cases this
  refine ⟨rfl, ret h2 tk2 x dx H t n nv (hb.fr F' (fun a ha => by cases List.mem_singleton.mp ha; exact hd'.2.2) (fun q => hd'.2.1 (List.mem_singleton.mp q).symm)) (fun p hp => ?_) l1 l2 (hne _ (.head _)) (hne _ (.tail _ (.head _))) fun p hp e => hne p (.tail _ (.tail _ hp)) e.symm⟩
  rcases List.mem_cons.mp hp with rfl | hp
  · exact ⟨hH.obj, hx.2⟩
  rcases List.mem_cons.mp hp with rfl | hp
  · exact ⟨hH.dict, hd'.2⟩
  rcases List.mem_cons.mp hp with rfl | hp
  · exact ⟨he, hHL, hHg⟩
  · have := N' p (.tail _ (.tail _ hp))
    exact ⟨hb _ _ (fun q => Nat.ne_of_lt (l1 p hp) (List.mem_singleton.mp q)) this.1, this.2⟩
end
end
section
noncomputable def Holds (rest : List (Addr × Obj)) (h : Heap) : Prop := ∀ p ∈ rest, h.get? p.1 = some p.2
noncomputable def HeardP (ok : Addr → Prop) (h : Heap) (kvs : List (Int × Value)) (A : List (Nat × Ans)) : Prop :=
  kvs.map Prod.fst = A.map (fun q => ((q.1 : Nat) : Int)) ∧ All2 (AnsV ok h) (kvs.map Prod.snd) (A.map Prod.snd)
theorem HeardP.add {ok : Addr → Prop} {h : Heap} {kvs : List (Int × Value)} {A : List (Nat × Ans)} {t : Nat} {v : Value} {a : Ans} (x : HeardP ok h kvs A) (y : AnsV ok h v a) : HeardP ok h (kvs ++ [((t : Int), v)]) (A ++ [(t, a)]) := by
  refine ⟨?_, ?_⟩
  · rw [List.map_append, List.map_append, x.1]; rfl
  · rw [List.map_append, List.map_append]
    exact All2.append x.2 (.cons y .nil)
theorem AnsV.keeps {ok ok' : Addr → Prop} {h h' : Heap} {v : Value} {a : Ans} (x : AnsV ok h v a) (k : ∀ l vs n, ok l → h.get? l = some (listOf vs n) → h'.get? l = some (listOf vs n) ∧ ok' l) : AnsV ok' h' v a := by
  cases a with
  | no => exact x
  | one t => exact x
  | all ts =>
    refine gl_in fun gGl hGl => ?_
    obtain ⟨l, e, ⟨vs, n, e2, r, z⟩, o⟩ := x
    refine hGl ?_
    clear hGl gGl
    exact ⟨l, e, ⟨vs, n, (k _ _ _ o e2).1, r, z⟩, (k _ _ _ o e2).2⟩
theorem HeardP.keeps {ok ok' : Addr → Prop} {h h' : Heap} {kvs : List (Int × Value)} {A : List (Nat × Ans)} (x : HeardP ok h kvs A) (k : ∀ l vs n, ok l → h.get? l = some (listOf vs n) → h'.get? l = some (listOf vs n) ∧ ok' l) : HeardP ok' h' kvs A :=
  ⟨x.1, x.2.imp fun _ _ z => z.keeps k⟩
theorem heard_absent : ∀ {kvs : List (Int × Value)} {A : List (Nat × Ans)} {t : Nat}, kvs.map Prod.fst = A.map (fun q => ((q.1 : Nat) : Int)) → t ∉ A.map (·.1) → valueAt kvs (t : Int) = none
  | [], [], _, _, _ => rfl
  | (k, v) :: kvs, (u, a) :: A, t, e, n => by
    simp only [List.map_cons, List.cons.injEq, List.mem_cons, not_or] at e n
    unfold valueAt
    rw [List.find?_cons_of_neg (by have := e.1; have := n.1; simp only [decide_eq_true_eq]; omega)]
    exact heard_absent e.2 n.2
theorem heard_get {R : Value → Ans → Prop} : ∀ {kvs : List (Int × Value)} {A : List (Nat × Ans)} {t : Nat} {a : Ans}, kvs.map Prod.fst = A.map (fun q => ((q.1 : Nat) : Int)) → All2 R (kvs.map Prod.snd) (A.map Prod.snd) → A.lookup t = some a → ∃ v, valueAt kvs (t : Int) = some v ∧ R v a
  | [], [], _, _, _, _, q => by cases q
  | (k, v) :: kvs, (u, b) :: A, t, a, e, r, q => by
    simp only [List.map_cons, List.cons.injEq] at e
    rw [List.map_cons, List.map_cons] at r
    cases r with
    | cons r1 r2 =>
      rw [List.lookup_cons] at q
      by_cases h : t = u
      · subst h
        simp only [beq_self_eq_true] at q
        cases q
        refine ⟨v, ?_, r1⟩
        unfold valueAt
        rw [List.find?_cons_of_pos (by have := e.1; simp only [decide_eq_true_eq]; exact this)]
        rfl
      · have : (t == u) = false := by simpa using h
        rw [this] at q
        refine gl_in fun gGl hGl => ?_
        obtain ⟨w, hw, hr⟩ := heard_get e.2 r2 q
        refine hGl ?_
        clear hGl gGl
        refine ⟨w, ?_, hr⟩
        unfold valueAt at hw ⊢
        rw [List.find?_cons_of_neg (by have := e.1; simp only [decide_eq_true_eq]; omega)]
        exact hw
noncomputable def Aside (H : Addr) (p : Addr × Obj) : Prop := p.2.cls = .type "tuple" ∨ (p.2.cls = .type "list" ∧ p.1 ≠ H)
section
variable {g h : Heap} {L H : Addr} {m : Str → Option Value}
theorem pair_support (F : Fr g L h m) : ∀ {ws : List Value} {qs : List (Nat × Nat)}, All2 (PairV h) ws qs → ∃ rest, News g L h rest ∧ (∀ p ∈ rest, Aside H p) ∧ ∀ h2, g.StaysIn h2 → Holds rest h2 → All2 (PairV h2) ws qs := by
  intro ws qs h
  induction h with
  | nil => exact ⟨[], News.nil, fun _ h => (nomatch h), fun _ _ _ => .nil⟩
  | cons x _ ih =>
    refine gl_in fun gGl hGl => ?_
    obtain ⟨rest, n, c, k⟩ := ih
    obtain ⟨a, t1, t2, rfl, ht, h1, h2⟩ := x
    have hL := Fr.noTup F ht
    obtain ⟨o, ho, hc, nn, hd⟩ := ht
    refine hGl ?_
    clear hGl gGl
    cases q : g.get? a with
    | none =>
      refine ⟨(a, o) :: rest, fun p hp => ?_, fun p hp => ?_, fun h2' st hs => .cons ⟨a, t1, t2, rfl, ⟨o, hs (a, o) (.head _), hc, nn, hd⟩, h1, h2⟩ (k h2' st fun p hp => hs p (.tail _ hp))⟩
      · rcases List.mem_cons.mp hp with rfl | hp
        · exact ⟨ho, hL, q⟩
        · exact n p hp
      · rcases List.mem_cons.mp hp with rfl | hp
        · exact .inl hc
        · exact c p hp
    | some o2 =>
      have := F.keep _ _ q
      rw [ho] at this; cases this
      exact ⟨rest, n, c, fun h2' st hs => .cons ⟨a, t1, t2, rfl, ⟨o, st _ _ q, hc, nn, hd⟩, h1, h2⟩ (k h2' st hs)⟩
theorem ans_support (F : Fr g L h m) : ∀ {ws : List Value} {as : List Ans}, All2 (AnsV (fun l => g.get? l = none ∧ l ≠ H) h) ws as → ∃ rest, News g L h rest ∧ (∀ p ∈ rest, Aside H p) ∧ ∀ h2, g.StaysIn h2 → Holds rest h2 → All2 (AnsV (fun l => g.get? l = none ∧ l ≠ H) h2) ws as := by
  intro ws as h
  induction h with
  | nil => exact ⟨[], News.nil, fun _ h => (nomatch h), fun _ _ _ => .nil⟩
  | @cons v a _ _ x _ ih =>
    refine gl_in fun gGl hGl => ?_
    obtain ⟨rest, n, c, k⟩ := ih
    refine hGl ?_
    clear hGl gGl
    cases a with
    | no => exact ⟨rest, n, c, fun h2 st hs => .cons x (k h2 st hs)⟩
    | one t => exact ⟨rest, n, c, fun h2 st hs => .cons x (k h2 st hs)⟩
    | all ts =>
    refine gl_in fun gGl hGl => ?_
    obtain ⟨l, e, ht, o⟩ := x
    have hL := Fr.noTexts F ht
    obtain ⟨vs, nn, e2, rr, z⟩ := ht
    refine hGl ?_
    clear hGl gGl
    refine ⟨(l, listOf vs.toArray nn) :: rest, fun p hp => ?_, fun p hp => ?_, fun h2' st hs => .cons ⟨l, e, ⟨vs, nn, hs (l, _) (.head _), rr, z⟩, o⟩ (k h2' st fun p hp => hs p (.tail _ hp))⟩
    · rcases List.mem_cons.mp hp with rfl | hp
      · exact ⟨e2, hL, o.1⟩
      · exact n p hp
    · rcases List.mem_cons.mp hp with rfl | hp
      · exact .inr ⟨rfl, o.2⟩
      · exact c p hp
end
section
variable {prog : Program} {w : World} {A : Around} {E : Value → Shared → Prop} {s : Shared}
theorem heard_set {d : Addr} {o : Obj} {kvs : List (Int × Value)} {k : Int} {t : Tok} {v : Value} {Q : Unit → Shared → Prop} (hd : s.heap.get? d = some o) (hi : o.IsDictOf (intKind prog w) kvs) (hsz : kvs.length ≤ sizeLine) (hn : valueAt kvs k = none)
    (h : ∀ h' o', h'.get? d = some o' → o'.IsDictOf (intKind prog w) (kvs ++ [(k, v)]) → But [d] s.heap h' → Q () { s with heap := h', toks := s.toks + 1 }) : wpAny (model prog w) A (setItem (.ref d) (.int k t) v) Q E s := by
  refine wpAny_setItem_pairs (hsz := hsz) (intKind_is prog w k t) (Heap.dictOf_iff.mpr ⟨o, hd, hi⟩) fun h' hmm hs => ?_
  refine gl_in fun gGl hGl => ?_
  obtain ⟨o', ho', hd'⟩ := Heap.dictOf_iff.mp hmm
  refine hGl ?_
  clear hGl gGl
  rw [stored_absent hn] at hd'
  exact h h' o' ho' hd' (But.same hs)
theorem heard_item {d : Addr} {o : Obj} {kvs : List (Int × Value)} {k : Int} {t : Tok} {v : Value} {value slice : PySem.Expr} {Q : Value → Shared → Prop} (hd : s.heap.get? d = some o) (hi : o.IsDictOf (intKind prog w) kvs) (hl : valueAt kvs k = some v) (h : Q v { s with toks := s.toks + 1 })
    (hs : subscripted slice false (.ref d) (.int k t) = operate [.ref d, .int k t] (getItem (.ref d) (.int k t)) := by with_unfolding_all rfl) (hg : ∀ r, letTemporaryGo value (.ref d) r = pure () := by intro _; with_unfolding_all rfl) :
    wpAny (model prog w) A (subscriptTail value slice (.ref d) (.int k t)) Q E s :=
  have hD := Heap.dictOf_iff.mpr ⟨o, hd, hi⟩
  subscriptTail_builtin hD.typeIs slot_dict_getitem.lookup (wpAny_getItem_of (intKind_is prog w k t) hD.mapOf hl h) hs hg
end
theorem valueAt_put {kvs : List (Int × Value)} {k : Int} {v : Value} (hn : valueAt kvs k = none) : valueAt (kvs ++ [(k, v)]) k = some v := by
  unfold valueAt at hn ⊢
  rw [List.find?_append]
  cases q : kvs.find? (fun kv => decide (kv.1 = k)) with
  | some x => rw [q] at hn; cases hn
  | none => simp
theorem dict_list {prog : Program} {w : World} {o : Obj} {kvs : List (Int × Value)} (hi : o.IsDictOf (intKind prog w) kvs) {h h' : Heap} {d : Addr} (hd : h.get? d = some o) (b : But [d] h h') {l : Addr} {vs : Array Value} {n : Nat} (e : h.get? l = some (listOf vs n)) : h'.get? l = some (listOf vs n) := by
  refine b _ _ (fun q => ?_) e
  cases List.mem_singleton.mp q
  rw [hd] at e; cases e
  refine gl_in fun gGl hGl => ?_
  obtain ⟨es, ep, ⟨e1, _⟩, _⟩ := hi
  refine hGl ?_
  clear hGl gGl
  exact absurd e1 (by simp [W.listOf])
theorem dict_tups {prog : Program} {w : World} {o : Obj} {kvs : List (Int × Value)} (hi : o.IsDictOf (intKind prog w) kvs) {h h' : Heap} {d : Addr} (hd : h.get? d = some o) (b : But [d] h h') : TupS h h' :=
  TupS.one hd (fun xs n e => by obtain ⟨es, ep, _, e2, _⟩ := hi; rw [e2] at e; cases e) b
theorem done_keys : ∀ (log : List Cl) (t0 : Tab) (k : Nat), k ∈ (log.foldl stepD t0).2.map (·.1) → k ∈ t0.2.map (·.1) ∨ k ∈ log.map (·.turn)
  | [], t0, k, h => .inl h
  | c :: r, t0, k, h => by
    rcases done_keys r (stepD t0 c) k h with h | h
    · have : k ∈ t0.2.map (·.1) ∨ k = c.turn := by
        unfold stepD at h
        split at h
        · exact .inl h
        · exact .inl h
        · exact .inl h
        · split at h <;> simpa using h
        · simpa using h
        · split at h <;> simpa using h
      rcases this with h | h
      · exact .inl h
      · exact .inr (by rw [h]; simp)
    · exact .inr (by rw [List.map_cons]; exact List.mem_cons_of_mem _ h)
theorem done_fresh {cs : List Cl} {i : Nat} {c : Cl} (hc : cs[i]? = some c) (hn : (cs.map (·.turn)).Nodup) : c.turn ∉ (doneP (cs.take i)).2.map (·.1) := by
  intro h
  rcases done_keys _ _ _ h with h | h
  · cases h
  · have e : cs = cs.take i ++ c :: cs.drop (i + 1) := by
      have hi := (List.getElem?_eq_some_iff.mp hc)
      obtain ⟨hlt, e⟩ := hi
      rw [← e, ← List.drop_eq_getElem_cons hlt, List.take_append_drop]
    rw [e, List.map_append, List.map_cons] at hn
    exact (List.nodup_append.mp hn).2.2 _ h _ (List.mem_cons_self ..) rfl
end
section
local macro_rules | `(tactic| walk_at "exec If Compare cons cons") => `(tactic| (refine hold ?_))
local macro_rules | `(tactic| walk_at "callWith ref") => `(tactic| (k_here; k_dflt (first | (refine' callWith_K ?k1 ?k2 ?_; (case k1 => k_asm); (case k2 => k_is); k_whole) | (refine' callWith_K0 ?k1 ?k2 ?_; (case k1 => k_in); (case k2 => k_is); k_whole))))
local macro_rules | `(tactic| walk_at "getMethod ref") => `(tactic| (k_here; k_dflt (refine' method_inst ?k1 ?k2 ?k3 ?k4 ?k5 ?k6 ?k7 ?_; (case k1 => k_asm); (case k2 => k_asm); (case k3 => k_inst); (case k4 => k_is); (case k5 => k_is); (case k6 => k_is); (case k7 => k_get); k_whole)))
local macro_rules | `(tactic| walk_at "subscriptTail") => `(tactic| (refine hold ?_))
local macro_rules | `(tactic| walk_at "setItem ref str") => `(tactic| (refine hold ?_))
local macro_rules | `(tactic| walk_at "setItem ref int") => `(tactic| (refine hold ?_))
local macro_rules | `(tactic| walk_at "delItem ref") => `(tactic| (refine hold ?_))
section
variable {prog : Program} {w : World} {A : Around} {s : Shared} {mg mb : Str → Option Value} {Q E : Value → Shared → Prop}
noncomputable def hdObj (P : Params) (t : Tok) (H : Addr) (n : Nat) : Obj := dictOf [⟨PyData.keyHash P (Str.ofString "_headers"), .str (Str.ofString "_headers") t, .ref H⟩] n
noncomputable def DoneJ (prog : Program) (w : World) (g : Heap) (x dx H d : Addr) (t : Tok) (n : Nat) (cs : List Cl) (i : Nat) (m : Str → Option Value) (nx : List (Addr × Obj)) : Prop :=
  m (Str.ofString "table") = some (.ref x) ∧ m (Str.ofString "heard") = some (.ref d) ∧ ∃ vs nv o kvs rest,
    nx = (x, instObj 211 dx) :: (dx, dictOf [⟨PyData.keyHash w.params (Str.ofString "_headers"), .str (Str.ofString "_headers") t, .ref H⟩] n) :: (H, listOf (List.toArray vs) nv) :: (d, o) :: rest ∧ o.IsDictOf (intKind prog w) kvs ∧ kvs.length ≤ i ∧ vs.length ≤ i ∧
    (∀ p ∈ rest, Aside H p) ∧ ∀ h, g.StaysIn h → Holds rest h → All2 (PairV h) vs (doneP (cs.take i)).1 ∧ HeardP (fun l => g.get? l = none ∧ l ≠ H) h kvs (doneP (cs.take i)).2
theorem set_here {g : Heap} {L x dx : Addr} {m : Str → Option Value} {od : Obj} {iv v : Value} {QU : Unit → Shared → Prop} (F : Fr g L s.heap m) (G : Gr w mg mb g) (hx : s.heap.get? x = some (instObj 211 dx)) (hd : s.heap.get? dx = some od)
    (h : wpAny (model prog w) A (call (.ref 126) [.ref x, iv, v]) (fun _ s' => QU () s') E s) : wpAny (model prog w) A (setItem (.ref x) iv v) QU E s := by
  have X := G.k
  exact ksp_setItem F X (InstAt.mk (od := some od) hx rfl rfl hd) (by k_is) (by k_is) (by k_is) h
theorem del_here {g : Heap} {L x dx : Addr} {m : Str → Option Value} {od : Obj} {iv : Value} {QU : Unit → Shared → Prop} (F : Fr g L s.heap m) (G : Gr w mg mb g) (hx : s.heap.get? x = some (instObj 211 dx)) (hd : s.heap.get? dx = some od)
    (h : wpAny (model prog w) A (call (.ref 131) [.ref x, iv]) (fun _ s' => QU () s') E s) : wpAny (model prog w) A (delItem (.ref x) iv) QU E s := by
  have X := G.k
  exact own_delItem F X (InstAt.mk (od := some od) hx rfl rfl hd) (by k_is) (by k_is) (by k_is) h
theorem hid_but {h h' : Heap} {W : List Addr} {H : Addr} (b : But [H] h h') (m : H ∈ W) : (hideAll h W).StaysIn h' := fun a o e => b a o (fun q => by
  cases List.mem_singleton.mp q
  rw [hideAll_none _ m] at e; cases e) (of_hideAll _ e)
theorem done_end {g : Heap} {L x dx H d : Addr} {t : Tok} {n : Nat} {cs : List Cl} {i : Nat} {I : Addr} {oI : Obj} {QF : Flow → Shared → Prop} {h' : Heap} {tk' : Nat} {m' : Str → Option Value} {ws : List Value} {nv' : Nat} {o' : Obj} {kvs' : List (Int × Value)} (hcI : oI.cls = .type "list_iterator")
    (F' : Fr g L h' m') (NI : h'.get? I = some oI ∧ I ≠ L ∧ g.get? I = none) (Nx : h'.get? x = some (instObj 211 dx) ∧ x ≠ L ∧ g.get? x = none) (Nd : h'.get? dx = some (dictOf [⟨PyData.keyHash w.params (Str.ofString "_headers"), .str (Str.ofString "_headers") t, .ref H⟩] n) ∧ dx ≠ L ∧ g.get? dx = none)
    (NH : h'.get? H = some (listOf ws.toArray nv') ∧ H ≠ L ∧ g.get? H = none) (No : h'.get? d = some o' ∧ d ≠ L ∧ g.get? d = none)
    (hm1 : m' (Str.ofString "table") = some (.ref x)) (hm2 : m' (Str.ofString "heard") = some (.ref d)) (hi : o'.IsDictOf (intKind prog w) kvs') (hk : kvs'.length ≤ i + 1) (hz : ws.length ≤ i + 1)
    (P : All2 (PairV h') ws (doneP (cs.take (i + 1))).1) (AA : HeardP (fun l => g.get? l = none ∧ l ≠ H) h' kvs' (doneP (cs.take (i + 1))).2) :
    ForEnd g L (DoneJ prog w g x dx H d t n cs (i + 1)) I oI s QF .next { s with heap := h', toks := tk' } := by
  refine gl_in fun gGl hGl => ?_
  obtain ⟨r1, n1, c1, k1⟩ := pair_support (H := H) F' P
  obtain ⟨r2, n2, c2, k2⟩ := ans_support (H := H) F' AA.2
  refine hGl ?_
  clear hGl gGl
  have hrest : ∀ p ∈ r1 ++ r2, Aside H p := fun p hp => (List.mem_append.mp hp).elim (c1 p) (c2 p)
  have Nall : News g L h' ((x, instObj 211 dx) :: (dx, dictOf [⟨PyData.keyHash w.params (Str.ofString "_headers"), .str (Str.ofString "_headers") t, .ref H⟩] n) :: (H, listOf ws.toArray nv') :: (d, o') :: (r1 ++ r2)) := fun p hp => by
    rcases List.mem_cons.mp hp with rfl | hp
    · exact Nx
    rcases List.mem_cons.mp hp with rfl | hp
    · exact Nd
    rcases List.mem_cons.mp hp with rfl | hp
    · exact NH
    rcases List.mem_cons.mp hp with rfl | hp
    · exact No
    exact (List.mem_append.mp hp).elim (n1 p) (n2 p)
  have ncl : ∀ p ∈ (x, instObj 211 dx) :: (dx, dictOf [⟨PyData.keyHash w.params (Str.ofString "_headers"), .str (Str.ofString "_headers") t, .ref H⟩] n) :: (H, listOf ws.toArray nv') :: (d, o') :: (r1 ++ r2), p.2.cls ≠ .type "list_iterator" := fun p hp => by
    rcases List.mem_cons.mp hp with rfl | hp
    · show (Value.ref 211) ≠ _
      simp
    rcases List.mem_cons.mp hp with rfl | hp
    · show (Value.type "dict") ≠ _
      simp
    rcases List.mem_cons.mp hp with rfl | hp
    · show (Value.type "list") ≠ _
      simp
    rcases List.mem_cons.mp hp with rfl | hp
    · obtain ⟨es, ep, ⟨e1, _⟩, _⟩ := hi
      show o'.cls ≠ _
      rw [e1]; simp
    rcases hrest p hp with h | ⟨h, _⟩
    · rw [h]; simp
    · rw [h]; simp
  refine ForEnd.next _ F' (nx' := (I, oI) :: _) (fun p hp => ?_) (.head _) (fun p hp => ⟨.tail _ hp, fun e => ncl p hp ?_⟩) ⟨hm1, hm2, ws, nv', o', kvs', r1 ++ r2, rfl, hi, hk, hz, hrest, fun h2 st hs => ⟨k1 h2 st fun p hp => hs p (List.mem_append_left _ hp), AA.1, k2 h2 st fun p hp => hs p (List.mem_append_right _ hp)⟩⟩
  · rcases List.mem_cons.mp hp with rfl | hp
    · exact NI
    · exact Nall p hp
  · have := (Nall p hp).1
    rw [e, NI.1] at this
    cases this
    exact hcI
theorem done_spec {a : Addr} {vs : List Value} {cs : List Cl} {nv : Nat} (r : Room A 40) (G : Gr w mg mb s.heap) (hl : s.heap.get? a = some (listOf vs.toArray nv)) (hvs : All2 (CallV s.heap) vs cs) (hgd : ∀ c ∈ cs, Good c ∧ c.deed < 6) (hnd : (cs.map (·.turn)).Nodup) (hlen : cs.length < 100)
    (ret : ∀ h' tk T d I o kvs, s.heap.StaysIn h' → IsTup h' T [.ref d, .ref I].toArray → h'.get? d = some o → o.IsDictOf (intKind prog w) kvs → HeardP (fun l => s.heap.get? l = none) h' kvs (doneP cs).2 → ItemsIs h' I (doneP cs).1 → s.heap.get? d = none → s.heap.get? I = none → Q (.ref T) { s with heap := h', toks := tk }) :
    wpAny (model prog w) A (call (.ref 236) [.ref a]) Q E s := by
  obtain ⟨hnd, dpA, frA, gdA, unA⟩ := A; obtain rfl : hnd = none := r.handled
  refine wpAny_call ?_
  refine' enter0 (binds := [(Str.ofString "log", .ref a)]) ?e3G ?e3k1 ?e3k2 ?e3kr ?e3k4 ?e3k5 ?e3kk ?e3c1 ?e3c2 ?e3c3 ?e3c4
  case e3G => assumption
  case e3k1 => k_is
  case e3k2 => k_is
  case e3kr => exact Room.dl (by assumption)
  case e3k4 => exact BindsTo.of_eq rfl
  case e3k5 => exact locs rfl
  case e3c1 => exact rfl
  case e3c2 => exact rfl
  case e3c3 => exact rfl
  case e3c4 => decide
  intro L h₁ F X T N
  (try dsimp only)
  k_steps
  dsimp only [Hold]
  rename Fr _ _ _ _ => F1
  rename News _ _ _ _ => N1
  refine make_spec ((r.deeper _).less (by decide)) G F1 N1 ?_
  intro h2 tk2 x dx H t n nv0 F2 N2 l1 l2 n1 n2 l3
  clear F1 N1
  dsimp only
  k_steps
  dsimp only [Hold]
  rename_i d hq0 o lo hs0 fs0 hi0 fi0 l4 D h5 l5 h6 h7 tk6 h8 tk7 F8 N8
  clear hs0 fs0 fi0
  have N9 : News s.heap L h8 ((x, instObj 211 dx) :: (dx, dictOf [⟨PyData.keyHash w.params (Str.ofString "_headers"), .str (Str.ofString "_headers") t, .ref H⟩] n) :: (H, listOf (List.toArray []) nv0) :: (d, o) :: []) := fun p hp => N8 p (by
    simp only [List.mem_cons, List.not_mem_nil, or_false] at hp ⊢
    rcases hp with h | h | h | h <;> simp [h])
  clear N8
  refine for_listC (DoneJ prog w s.heap x dx H d t n cs) rfl goes_tuple ⟨_, F8.keep _ _ hl, rfl, _, rfl⟩ F8 N9 ?_ ?_ ?_ ?_
  · exact ⟨rfl, rfl, [], nv0, o, [], [], rfl, hi0, Nat.le_refl _, Nat.le_refl _, fun _ h => (nomatch h), fun _ _ _ => ⟨.nil, rfl, .nil⟩⟩
  · intro i m nx h9 _ F _
    exact ⟨_, F.keep _ _ hl, rfl, _, rfl⟩
  · intro i v m nx h9 tk9 I oI hI hcI hk hXr hne F9 N9'
    refine gl_in fun gGl hGl => ?_
    obtain ⟨hm1, hm2, vs9, nv9, o9, kvs, rest, rfl, hi9, hk9, hz9, hr9, sup9⟩ := hXr
    refine hGl ?_
    clear hGl gGl
    clear F8 N9
    refine gl_in fun gGl hGl => ?_
    obtain ⟨c, hc, a5, t1, t2, t3, t4, t5, t6, t7, rfl, hct⟩ := hvs.getV hk
    have hmc : c ∈ cs := List.mem_of_getElem? hc
    obtain ⟨hgd5, hd6⟩ := hgd c hmc
    have htk : cs.take (i + 1) = cs.take i ++ [c] := by rw [List.take_add_one, hc]; rfl
    have hdn : doneP (cs.take (i + 1)) = stepD (doneP (cs.take i)) c := by unfold doneP; rw [htk, List.foldl_append]; rfl
    obtain ⟨dd, hde⟩ : ∃ d, c.deed = d := ⟨_, rfl⟩
    refine hGl ?_
    clear hGl gGl
    rw [hde] at hct hd6
    k_steps
    rename Fr _ _ _ _ => F6
    rename News _ _ _ _ => N6
    dsimp only [Hold]
    obtain ⟨ps6, hs6⟩ := sup9 _ F6.keep (fun p hp => (N6 p (.tail _ (.tail _ (.tail _ (.tail _ (.tail _ hp)))))).1)
    have hil : i < vs.length := (List.getElem?_eq_some_iff.mp hk).1
    rw [hvs.length] at hil
    have NI := N6 _ (.head _)
    have Nx := N6 _ (.tail _ (.head _))
    have Nd := N6 _ (.tail _ (.tail _ (.head _)))
    have NH := N6 _ (.tail _ (.tail _ (.tail _ (.head _))))
    have No := N6 _ (.tail _ (.tail _ (.tail _ (.tail _ (.head _)))))
    have hb6 : ∀ a ∈ [x, dx, H], s.heap.get? a = none := fun a ha => by
      simp only [List.mem_cons, List.not_mem_nil, or_false] at ha
      rcases ha with rfl | rfl | rfl
      · exact Nx.2.2
      · exact Nd.2.2
      · exact NH.2.2
    have qI : @Ne Nat H I := hne (H, listOf (List.toArray vs9) nv9) (.tail _ (.tail _ (.head _)))
    have qx : @Ne Nat x H := Ne.symm n1
    have qdx : @Ne Nat dx H := Ne.symm n2
    have qd : @Ne Nat d H := Nat.ne_of_gt l4.2.2
    have qId : @Ne Nat I d := fun e => hne (d, o9) (.tail _ (.tail _ (.tail _ (.head _)))) e.symm
    have qxd : @Ne Nat x d := Nat.ne_of_lt l4.1
    have qdd : @Ne Nat dx d := Nat.ne_of_lt l4.2.1
    match dd, hde, hd6 with
    | 0, hde, _ =>
      have hst : stepD (doneP (cs.take i)) c = (dropG (grp c.name) (doneP (cs.take i)).1 ++ [(c.name, c.turn)], (doneP (cs.take i)).2) := by unfold stepD; rw [hde]; rfl
      (try dsimp only [Hold])
      refine wpAny_If ?_
      k_steps
      dsimp only [Hold]
      refine set_here F6 G Nx.1 Nd.1 ?_
      refine set_spec ((r.deeper _).less (by decide)) G F6.keep hb6 ⟨Nx.1, Nd.1⟩ NH.1 ps6 (by omega) hgd5.name hgd5.turn ?_
      intro h7 tk7 ws n7 e7 v7 z7 b7
      dsimp only at b7 ⊢
      k_steps
      exact done_end hcI (b7.fr F6 (fun a ha => by cases List.mem_singleton.mp ha; exact NH.2.2) (fun q => NH.2.1 (List.mem_singleton.mp q).symm)) ⟨b7 _ _ (by simpa using qI.symm) NI.1, NI.2⟩ ⟨b7 _ _ (by simpa using qx) Nx.1, Nx.2⟩ ⟨b7 _ _ (by simpa using qdx) Nd.1, Nd.2⟩ ⟨e7, NH.2⟩ ⟨b7 _ _ (by simpa using qd) No.1, No.2⟩ hm1 hm2 hi9 (by omega) (by omega) (by rw [hdn, hst]; exact v7) (by rw [hdn, hst]; exact (hs6.keeps fun l vs n o e => ⟨b7 _ _ (by simpa using o.2) e, o⟩))
    | 1, hde, _ =>
      have hst : stepD (doneP (cs.take i)) c = ((doneP (cs.take i)).1 ++ [(c.name, c.turn)], (doneP (cs.take i)).2) := by unfold stepD; rw [hde]; rfl
      (try dsimp only [Hold])
      refine wpAny_If ?_
      k_steps
      (try dsimp only [Hold])
      refine wpAny_If ?_
      k_steps
      dsimp only [Hold]
      refine add_spec ((r.deeper _).less (by decide)) G F6.keep hb6 ⟨Nx.1, Nd.1⟩ NH.1 ps6 (by omega) hgd5.name hgd5.turn ?_
      intro h7 tk7 ws n7 e7 v7 z7 b7
      dsimp only at b7 ⊢
      k_steps
      exact done_end hcI (b7.fr F6 (fun a ha => by cases List.mem_singleton.mp ha; exact NH.2.2) (fun q => NH.2.1 (List.mem_singleton.mp q).symm)) ⟨b7 _ _ (by simpa using qI.symm) NI.1, NI.2⟩ ⟨b7 _ _ (by simpa using qx) Nx.1, Nx.2⟩ ⟨b7 _ _ (by simpa using qdx) Nd.1, Nd.2⟩ ⟨e7, NH.2⟩ ⟨b7 _ _ (by simpa using qd) No.1, No.2⟩ hm1 hm2 hi9 (by omega) (by omega) (by rw [hdn, hst]; exact v7) (by rw [hdn, hst]; exact (hs6.keeps fun l vs n o e => ⟨b7 _ _ (by simpa using o.2) e, o⟩))
    | 2, hde, _ =>
      have hst : stepD (doneP (cs.take i)) c = (dropG (grp c.name) (doneP (cs.take i)).1, (doneP (cs.take i)).2) := by unfold stepD; rw [hde]; rfl
      (try dsimp only [Hold])
      refine wpAny_If ?_
      k_steps
      (try dsimp only [Hold])
      refine wpAny_If ?_
      k_steps
      (try dsimp only [Hold])
      refine wpAny_If ?_
      k_steps
      dsimp only [Hold]
      refine del_here F6 G Nx.1 Nd.1 ?_
      refine del_spec (h₀ := hideAll _ [x, dx, H]) ((r.deeper _).less (by decide)) (G.keeps (stays_hide F6.keep hb6)) (fun b o e => of_hideAll _ e) (fun a ha => hideAll_none _ ha) ⟨Nx.1, Nd.1⟩ NH.1 (ps6.imp fun _ _ z => z.keeps (HeadIs.tups ⟨Nx.1, Nd.1⟩ NH.1)) (by omega) hgd5.name ?_
      intro h7 tk7 ws n7 e7 v7 z7 b7
      dsimp only at b7 ⊢
      k_steps
      exact done_end hcI (b7.fr F6 (fun a ha => by cases List.mem_singleton.mp ha; exact NH.2.2) (fun q => NH.2.1 (List.mem_singleton.mp q).symm)) ⟨b7 _ _ (by simpa using qI.symm) NI.1, NI.2⟩ ⟨b7 _ _ (by simpa using qx) Nx.1, Nx.2⟩ ⟨b7 _ _ (by simpa using qdx) Nd.1, Nd.2⟩ ⟨e7, NH.2⟩ ⟨b7 _ _ (by simpa using qd) No.1, No.2⟩ hm1 hm2 hi9 (by omega) (by omega) (by rw [hdn, hst]; exact v7.imp fun _ _ z => z.keeps (TupS.of (hid_but b7 (by simp)))) (by rw [hdn, hst]; exact (hs6.keeps fun l vs n o e => ⟨b7 _ _ (by simpa using o.2) e, o⟩))
    | 3, hde, _ =>
      (try dsimp only [Hold])
      refine wpAny_If ?_
      k_steps
      (try dsimp only [Hold])
      refine wpAny_If ?_
      k_steps
      (try dsimp only [Hold])
      refine wpAny_If ?_
      k_steps
      (try dsimp only [Hold])
      refine wpAny_If ?_
      k_steps
      dsimp only [Hold]
      refine dflt_spec ((r.deeper _).less (by decide)) G F6.keep hb6 ⟨Nx.1, Nd.1⟩ NH.1 ps6 (by omega) hgd5.name hgd5.turn ?_ ?_
      · intro hq h7 tk7 ws n7 e7 v7 z7 b7
        have hst : stepD (doneP (cs.take i)) c = ((doneP (cs.take i)).1 ++ [(c.name, c.turn)], (doneP (cs.take i)).2 ++ [(c.turn, .one c.turn)]) := by unfold stepD; rw [hde]; simp only [hq]
        dsimp only at b7 ⊢
        have F7 := b7.fr F6 (fun a ha => by cases List.mem_singleton.mp ha; exact NH.2.2) (fun q => NH.2.1 (List.mem_singleton.mp q).symm)
        clear F6
        k_steps
        dsimp only [Hold]
        have No7 := b7 _ _ (by simpa using qd) No.1
        refine heard_set No7 hi9 (by rw [sizeLine_eq]; omega) (heard_absent hs6.1 (done_fresh hc hnd)) ?_
        intro h8 o8 e8 hi8 b8
        (try dsimp only)
        k_steps
        exact done_end hcI (b8.fr F7 (fun a ha => by cases List.mem_singleton.mp ha; exact No.2.2) (fun q => No.2.1 (List.mem_singleton.mp q).symm)) ⟨b8 _ _ (by simpa using qId) (b7 _ _ (by simpa using qI.symm) NI.1), NI.2⟩ ⟨b8 _ _ (by simpa using qxd) (b7 _ _ (by simpa using qx) Nx.1), Nx.2⟩ ⟨b8 _ _ (by simpa using qdd) (b7 _ _ (by simpa using qdx) Nd.1), Nd.2⟩ ⟨b8 _ _ (by simpa using qd.symm) e7, NH.2⟩ ⟨e8, No.2⟩ hm1 hm2 hi8 (by rw [List.length_append]; simp; omega) (by omega)
          (by rw [hdn, hst]; exact v7.imp fun _ _ z => z.keeps (dict_tups hi9 No7 b8)) (by rw [hdn, hst]; exact HeardP.add (hs6.keeps fun l vs n o e => ⟨dict_list hi9 No7 b8 (b7 _ _ (by simpa using o.2) e), o⟩) ⟨hgd5.turn, _, rfl⟩)
      · intro v t0 r0 h7 tk7 hq hv7 k7
        have hst : stepD (doneP (cs.take i)) c = ((doneP (cs.take i)).1, (doneP (cs.take i)).2 ++ [(c.turn, .one t0)]) := by unfold stepD; rw [hde]; simp only [hq]
        (try dsimp only)
        have F7 := F6.keeps k7
        clear F6
        k_steps
        dsimp only [Hold]
        refine heard_set (k7 _ _ No.1) hi9 (by rw [sizeLine_eq]; omega) (heard_absent hs6.1 (done_fresh hc hnd)) ?_
        intro h8 o8 e8 hi8 b8
        (try dsimp only)
        k_steps
        exact done_end hcI (b8.fr F7 (fun a ha => by cases List.mem_singleton.mp ha; exact No.2.2) (fun q => No.2.1 (List.mem_singleton.mp q).symm)) ⟨b8 _ _ (by simpa using qId) (k7 _ _ NI.1), NI.2⟩ ⟨b8 _ _ (by simpa using qxd) (k7 _ _ Nx.1), Nx.2⟩ ⟨b8 _ _ (by simpa using qdd) (k7 _ _ Nd.1), Nd.2⟩ ⟨b8 _ _ (by simpa using qd.symm) (k7 _ _ NH.1), NH.2⟩ ⟨e8, No.2⟩ hm1 hm2 hi8 (by rw [List.length_append]; simp; omega) (by omega)
          (by rw [hdn, hst]; exact ps6.imp fun _ _ z => z.keeps ((TupS.of k7).trans (dict_tups hi9 (k7 _ _ No.1) b8))) (by rw [hdn, hst]; exact HeardP.add (hs6.keeps fun l vs n o e => ⟨dict_list hi9 (k7 _ _ No.1) b8 (k7 _ _ e), o⟩) hv7)
    | 4, hde, _ =>
      have hst : stepD (doneP (cs.take i)) c = ((doneP (cs.take i)).1, (doneP (cs.take i)).2 ++ [(c.turn, .all (textsG (grp c.name) (doneP (cs.take i)).1))]) := by unfold stepD; rw [hde]; rfl
      (try dsimp only [Hold])
      refine wpAny_If ?_
      k_steps
      (try dsimp only [Hold])
      refine wpAny_If ?_
      k_steps
      (try dsimp only [Hold])
      refine wpAny_If ?_
      k_steps
      (try dsimp only [Hold])
      refine wpAny_If ?_
      k_steps
      (try dsimp only [Hold])
      refine wpAny_If ?_
      k_steps
      dsimp only [Hold]
      refine getall_spec ((r.deeper _).less (by decide)) G F6.keep hb6 ⟨Nx.1, Nd.1⟩ NH.1 ps6 (by omega) hgd5.name ?_
      intro h7 tk7 D7 ys7 n7 k7 f7 e7 v7
      (try dsimp only)
      (try dsimp only at f7)
      have F7 := F6.keeps k7
      have g7 : s.heap.get? D7 = none := by
        cases q : s.heap.get? D7 with
        | none => rfl
        | some o => have := F6.keep _ _ q; rw [f7] at this; cases this
      have q7 : D7 ≠ H := fun e => by have := NH.1; rw [← e, f7] at this; cases this
      clear F6
      k_steps
      dsimp only [Hold]
      refine heard_set (k7 _ _ No.1) hi9 (by rw [sizeLine_eq]; omega) (heard_absent hs6.1 (done_fresh hc hnd)) ?_
      intro h8 o8 e8 hi8 b8
      (try dsimp only)
      k_steps
      have ly7 : ys7.length < 2 ^ 20 := by
        have e1 := v7.length
        have e2 : (textsG (grp c.name) (doneP (cs.take i)).1).length ≤ (doneP (cs.take i)).1.length := by unfold textsG; rw [List.length_map]; exact List.length_filter_le _ _
        have e3 := ps6.length
        omega
      exact done_end hcI (b8.fr F7 (fun a ha => by cases List.mem_singleton.mp ha; exact No.2.2) (fun q => No.2.1 (List.mem_singleton.mp q).symm)) ⟨b8 _ _ (by simpa using qId) (k7 _ _ NI.1), NI.2⟩ ⟨b8 _ _ (by simpa using qxd) (k7 _ _ Nx.1), Nx.2⟩ ⟨b8 _ _ (by simpa using qdd) (k7 _ _ Nd.1), Nd.2⟩ ⟨b8 _ _ (by simpa using qd.symm) (k7 _ _ NH.1), NH.2⟩ ⟨e8, No.2⟩ hm1 hm2 hi8 (by rw [List.length_append]; simp; omega) (by omega)
        (by rw [hdn, hst]; exact ps6.imp fun _ _ z => z.keeps ((TupS.of k7).trans (dict_tups hi9 (k7 _ _ No.1) b8))) (by rw [hdn, hst]; exact HeardP.add (hs6.keeps fun l vs n o e => ⟨dict_list hi9 (k7 _ _ No.1) b8 (k7 _ _ e), o⟩) ⟨D7, rfl, ⟨ys7, n7, dict_list hi9 (k7 _ _ No.1) b8 e7, v7, ly7⟩, g7, q7⟩)
    | 5, hde, _ =>
      (try dsimp only [Hold])
      refine wpAny_If ?_
      k_steps
      (try dsimp only [Hold])
      refine wpAny_If ?_
      k_steps
      (try dsimp only [Hold])
      refine wpAny_If ?_
      k_steps
      (try dsimp only [Hold])
      refine wpAny_If ?_
      k_steps
      (try dsimp only [Hold])
      refine wpAny_If ?_
      k_steps
      dsimp only [Hold]
      refine get_spec ((r.deeper _).less (by decide)) G F6.keep hb6 ⟨Nx.1, Nd.1⟩ NH.1 ps6 hgd5.other ?_
      intro h7 tk7 v k7 fv
      (try dsimp only)
      have F7 := F6.keeps k7
      clear F6
      k_steps
      dsimp only [Hold]
      refine heard_set (k7 _ _ No.1) hi9 (by rw [sizeLine_eq]; omega) (heard_absent hs6.1 (done_fresh hc hnd)) ?_
      intro h8 o8 e8 hi8 b8
      have F8 := b8.fr F7 (fun a ha => by cases List.mem_singleton.mp ha; exact No.2.2) (fun q => No.2.1 (List.mem_singleton.mp q).symm)
      clear F7
      (try dsimp only)
      k_steps
      have NI8 := b8 _ _ (by simpa using qId) (k7 _ _ NI.1)
      have Nx8 := b8 _ _ (by simpa using qxd) (k7 _ _ Nx.1)
      have Nd8 := b8 _ _ (by simpa using qdd) (k7 _ _ Nd.1)
      have NH8 := b8 _ _ (by simpa using qd.symm) (k7 _ _ NH.1)
      have ps8 := ps6.imp fun _ _ z => PairV.keeps z ((TupS.of k7).trans (dict_tups hi9 (k7 _ _ No.1) b8))
      have hv8 := valueAt_put (v := v) (heard_absent hs6.1 (done_fresh hc hnd))
      cases hq : textsG (grp c.other) (doneP (cs.take i)).1 with
      | nil =>
        have hst : stepD (doneP (cs.take i)) c = (dropG (grp c.name) (doneP (cs.take i)).1, (doneP (cs.take i)).2 ++ [(c.turn, .no)]) := by unfold stepD; rw [hde]; simp only [hq]
        rw [hq] at fv
        refine gl_in fun gGl hGl => ?_
        obtain rfl : v = .none := fv
        refine hGl ?_
        clear hGl gGl
        (try dsimp only [Hold])
        refine wpAny_If ?_
        k_steps
        dsimp only [Hold]
        refine heard_item e8 hi8 hv8 ?_
        k_steps
        dsimp only [Hold]
        refine del_here F8 G Nx8 Nd8 ?_
        refine del_spec (h₀ := hideAll _ [x, dx, H]) ((r.deeper _).less (by decide)) (G.keeps (stays_hide F8.keep hb6)) (fun b o e => of_hideAll _ e) (fun a ha => hideAll_none _ ha) ⟨Nx8, Nd8⟩ NH8 (ps8.imp fun _ _ z => z.keeps (HeadIs.tups ⟨Nx8, Nd8⟩ NH8)) (by omega) hgd5.name ?_
        intro h9 tk9 ws n9 e9 v9 z9 b9
        dsimp only at b9 ⊢
        k_steps
        exact done_end hcI (b9.fr F8 (fun a ha => by cases List.mem_singleton.mp ha; exact NH.2.2) (fun q => NH.2.1 (List.mem_singleton.mp q).symm)) ⟨b9 _ _ (by simpa using qI.symm) NI8, NI.2⟩ ⟨b9 _ _ (by simpa using qx) Nx8, Nx.2⟩ ⟨b9 _ _ (by simpa using qdx) Nd8, Nd.2⟩ ⟨e9, NH.2⟩ ⟨b9 _ _ (by simpa using qd) e8, No.2⟩ hm1 hm2 hi8 (by rw [List.length_append]; simp; omega) (by omega)
          (by rw [hdn, hst]; exact v9.imp fun _ _ z => z.keeps (TupS.of (hid_but b9 (by simp)))) (by rw [hdn, hst]; exact HeardP.add (hs6.keeps fun l vs n o e => ⟨b9 _ _ (by simpa using o.2) (dict_list hi9 (k7 _ _ No.1) b8 (k7 _ _ e)), o⟩) rfl)
      | cons t0 r0 =>
        have hst : stepD (doneP (cs.take i)) c = (dropG (grp c.name) (doneP (cs.take i)).1 ++ [(c.name, t0)], (doneP (cs.take i)).2 ++ [(c.turn, .one t0)]) := by unfold stepD; rw [hde]; simp only [hq]
        rw [hq] at fv
        refine gl_in fun gGl hGl => ?_
        obtain ⟨h14, kv, rfl⟩ : TxV v t0 := fv
        refine hGl ?_
        clear hGl gGl
        (try dsimp only [Hold])
        refine wpAny_If ?_
        k_steps
        dsimp only [Hold]
        refine heard_item e8 hi8 hv8 ?_
        k_steps
        dsimp only [Hold]
        refine heard_item e8 hi8 hv8 ?_
        k_steps
        dsimp only [Hold]
        refine set_here F8 G Nx8 Nd8 ?_
        refine set_spec ((r.deeper _).less (by decide)) G F8.keep hb6 ⟨Nx8, Nd8⟩ NH8 ps8 (by omega) hgd5.name h14 ?_
        intro h9 tk9 ws n9 e9 v9 z9 b9
        dsimp only at b9 ⊢
        k_steps
        exact done_end hcI (b9.fr F8 (fun a ha => by cases List.mem_singleton.mp ha; exact NH.2.2) (fun q => NH.2.1 (List.mem_singleton.mp q).symm)) ⟨b9 _ _ (by simpa using qI.symm) NI8, NI.2⟩ ⟨b9 _ _ (by simpa using qx) Nx8, Nx.2⟩ ⟨b9 _ _ (by simpa using qdx) Nd8, Nd.2⟩ ⟨e9, NH.2⟩ ⟨b9 _ _ (by simpa using qd) e8, No.2⟩ hm1 hm2 hi8 (by rw [List.length_append]; simp; omega) (by omega)
          (by rw [hdn, hst]; exact v9) (by rw [hdn, hst]; exact HeardP.add (hs6.keeps fun l vs n o e => ⟨b9 _ _ (by simpa using o.2) (dict_list hi9 (k7 _ _ No.1) b8 (k7 _ _ e)), o⟩) ⟨h14, _, rfl⟩)
    | dd + 6, hde, hd6 => exact absurd hd6 (by omega)
  · intro m nx h9 tk9 hXr F9 N9'
    refine gl_in fun gGl hGl => ?_
    obtain ⟨hm1, hm2, vs9, nv9, o9, kvs, rest, rfl, hi9, hk9, hz9, hr9, sup9⟩ := hXr
    refine hGl ?_
    clear hGl gGl
    clear F8 N9
    rw [hvs.length, List.take_length] at sup9
    obtain ⟨ps6, hs6⟩ := sup9 _ F9.keep (fun p hp => (N9' p (.tail _ (.tail _ (.tail _ (.tail _ hp))))).1)
    have Nx := N9' _ (.head _)
    have Nd := N9' _ (.tail _ (.head _))
    have NH := N9' _ (.tail _ (.tail _ (.head _)))
    have No := N9' _ (.tail _ (.tail _ (.tail _ (.head _))))
    have hb6 : ∀ a ∈ [x, dx, H], s.heap.get? a = none := fun a ha => by
      simp only [List.mem_cons, List.not_mem_nil, or_false] at ha
      rcases ha with rfl | rfl | rfl
      · exact Nx.2.2
      · exact Nd.2.2
      · exact NH.2.2
    (try dsimp only)
    k_steps
    dsimp only [Hold]
    have hv9 : vs9.length < 100 := by have := hvs.length; omega
    refine items_spec ((r.deeper _).less (by decide)) G F9.keep hb6 ⟨Nx.1, Nd.1⟩ NH.1 (by omega) ?_
    intro h7 tk7 D n7 k7 f7 e7
    (try dsimp only at f7)
    have F7 := F9.keeps k7
    have G9 := F9.keep
    have FL9 := F9.ns
    clear F9
    have ps7 := ps6.imp fun _ _ z => PairV.keeps z (TupS.of k7)
    have hs7 : HeardP (fun l => s.heap.get? l = none ∧ l ≠ H) h7 kvs (doneP cs).2 := hs6.keeps fun l vs n o e => ⟨k7 _ _ e, o⟩
    refine gl_in fun gGl hGl => ?_
    obtain ⟨r1, nn1, _, s1⟩ := pair_support (H := H) F7 ps7
    obtain ⟨r2, nn2, _, s2⟩ := ans_support (H := H) F7 hs7.2
    refine hGl ?_
    clear hGl gGl
    have gD : s.heap.get? D = none := by
      cases q : s.heap.get? D with
      | none => rfl
      | some o => have := G9 _ _ q; rw [f7] at this; cases this
    have LD : D ≠ L := fun e => by
      refine gl_in fun gGl hGl => ?_
      obtain ⟨oL, _, _, hL, _⟩ := FL9
      refine hGl ?_
      clear hGl gGl
      rw [← e, f7] at hL; cases hL
    have N7 : News s.heap L h7 ((D, listOf vs9.toArray n7) :: (d, o9) :: (r1 ++ r2)) := fun p hp => by
      rcases List.mem_cons.mp hp with rfl | hp
      · exact ⟨e7, LD, gD⟩
      rcases List.mem_cons.mp hp with rfl | hp
      · exact ⟨k7 _ _ No.1, No.2⟩
      · exact (List.mem_append.mp hp).elim (nn1 p) (nn2 p)
    clear N9'
    (try dsimp only)
    k_steps
    rename Fr _ _ _ _ => F8
    rename News _ _ _ _ => N8
    have hN := (N8 _ (.head _)).1
    have hold : Holds (r1 ++ r2) _ := fun p hp => (N8 p (.tail _ (.tail _ (.tail _ hp)))).1
    refine ret _ _ _ d D o9 kvs F8.keep ⟨_, hN, rfl, _, rfl⟩ (N8 _ (.tail _ (.tail _ (.head _)))).1 hi9 ⟨hs7.1, (s2 _ F8.keep fun p hp => hold p (List.mem_append_right _ hp)).imp fun _ _ z => z.keeps fun l vs n o e => ⟨e, o.1⟩⟩ ⟨vs9, n7, (N8 _ (.tail _ (.head _))).1, s1 _ F8.keep fun p hp => hold p (List.mem_append_left _ hp), by omega⟩ No.2.2 gD
end
end
section
local macro_rules | `(tactic| walk_at "eval IfExp") => `(tactic| (refine hold ?_))
noncomputable def JoinQ (P : Value → Prop) (s : Shared) (v : Value) (s' : Shared) : Prop := P v ∧ ∃ tk, s' = { s with toks := tk }
theorem join_val {M : Model} {A : Around} {E Q : Value → Shared → Prop} {s : Shared} {m : Sem Value} (P : Value → Prop) (h : wpAny M A m (JoinQ P s) E s) (k : ∀ v tk, P v → Q v { s with toks := tk }) : wpAny M A m Q E s :=
  wpAny_mono h (fun v s' ⟨p, tk, e⟩ => by subst e; exact k v tk p) fun _ _ e => e
theorem int_is {i j : Int} {t : Tok} (e : i = j) : ∃ u, Value.int i t = .int j u := ⟨t, by rw [e]⟩
theorem item_nm {j : Int} (h0 : 0 ≤ j) (h4 : j < 4) : Txt.item (Str.ofString "aAbB") j = nm j.toNat := by
  have e : j = 0 ∨ j = 1 ∨ j = 2 ∨ j = 3 := by omega
  rcases e with rfl | rfl | rfl | rfl <;> decide +kernel
theorem tx_pos {n : Nat} (h : 0 < n) : tx n = Str.ofString (toString (n : Int)) := by unfold tx; rw [if_neg (by omega)]
theorem callsFrom_snoc : ∀ (n : Nat) (l : List Int) (x : Int), callsFrom n (l ++ [x]) = callsFrom n l ++ [callOf x (n + l.length)]
  | n, [], x => rfl
  | n, y :: l, x => by
    rw [List.cons_append, callsFrom, callsFrom, callsFrom_snoc, List.cons_append, List.length_cons]
    rw [show n + 1 + l.length = n + (l.length + 1) by omega]
theorem callsFrom_len : ∀ (n : Nat) (l : List Int), (callsFrom n l).length = l.length
  | _, [] => rfl
  | n, y :: l => by rw [callsFrom, List.length_cons, List.length_cons, callsFrom_len]
theorem callV_of {h : Heap} {T : Addr} {o : Obj} {c : Cl} {z : Int} {t1 t2 t3 t4 t5 t6 t7 : Tok} {n : Nat} (e : h.get? T = some o) (hc : o.cls = .type "tuple")
    (hd : o.data = .seq #[.int c.hour t1, .int c.mark t2, .int (c.turn : Nat) t3, .int z t4, .str (nm c.name) t5, .str (nm c.other) t6, .str (tx c.turn) t7] n) (hz : ((c.deed : Nat) : Int) = z) : CallV h (.ref T) c := by
  subst hz
  exact ⟨T, t1, t2, t3, t4, t5, t6, t7, rfl, o, e, hc, n, hd⟩
noncomputable def CallsJ (g : Heap) (C D : Addr) (W : List Value) (xs : List Int) (i : Nat) (m : Str → Option Value) (nx : List (Addr × Obj)) : Prop :=
  m (Str.ofString "calls") = some (.ref C) ∧ ∃ ws n rest, nx = (C, listOf (List.toArray ws) n) :: (D, listOf W.toArray 0) :: rest ∧ (∀ p ∈ rest, p.2.cls = .type "tuple") ∧ ∀ h, g.StaysIn h → Holds rest h → All2 (CallV h) ws (callsFrom 0 (xs.take i))
theorem ints_all2 {vs : List Value} {ns : List Int} (h : IntsAre vs ns) : All2 (fun v x => ∃ t, v = .int x t) vs ns := by
  induction h with
  | nil => exact .nil
  | cons n t _ ih => exact .cons ⟨t, rfl⟩ ih
section
variable {prog : Program} {w : World} {A : Around} {s : Shared} {mg mb : Str → Option Value} {Q E : Value → Shared → Prop}
theorem calls_spec {a : Addr} {vs : List Value} {ns : List Int} (r : Room A 20) (G : Gr w mg mb s.heap) (hl : s.heap.IsList a vs.toArray) (hvs : IntsAre vs ns) (hlen : ns.length ≤ 63) (ret : ∀ h' tk C ws n, s.heap.StaysIn h' → h'.get? C = some (listOf (List.toArray ws) n) → All2 (CallV h') ws (callsFrom 0 (own8 ++ ns.take 6)) → s.heap.get? C = none → Q (.ref C) { s with heap := h', toks := tk }) :
    wpAny (model prog w) A (call (.ref 222) [.ref a]) Q E s := by
  obtain ⟨hnd, dpA, frA, gdA, unA⟩ := A; obtain rfl : hnd = none := r.handled
  refine wpAny_call ?_
  refine' enter0 (binds := [(Str.ofString "script", .ref a)]) ?e2G ?e2k1 ?e2k2 ?e2kr ?e2k4 ?e2k5 ?e2kk ?e2c1 ?e2c2 ?e2c3 ?e2c4
  case e2G => assumption
  case e2k1 => k_is
  case e2k2 => k_is
  case e2kr => exact Room.dl (by assumption)
  case e2k4 => exact BindsTo.of_eq rfl
  case e2k5 => exact locs rfl
  case e2c1 => exact rfl
  case e2c2 => exact rfl
  case e2c3 => exact rfl
  case e2c4 => decide
  intro L h₁ F X T N
  (try dsimp only)
  k_steps
  rename Fr _ _ _ _ => F1
  rename News _ _ _ _ => N1
  (try dsimp only [Hold])
  refine kmk_slice (s := ⟨_, _, _, _, _⟩) F1 N1 (hl.at fun o e => F1.keep _ o e) (.none) (.int _ _) ?_ (by with_unfolding_all rfl) (by intro _; with_unfolding_all rfl) (by rw [List.size_toArray, sizeLine_eq, hvs.length]; omega)
  intro D23 h23 F23 N23 l23
  rw [(show slicePick vs.toArray none (some (6 : Int)) none = (vs.take 6).toArray from pick_to vs 6)] at N23
  replace l23 := allLt_of l23
  simp only [AllLt, and_true] at l23
  clear F1 N1
  dsimp only
  k_steps
  rename_i C _ _ _ tk0 l0 _ l1
  (try dsimp only [Hold])
  refine add_arrays F23 N23 ⟨_, (N23 (l0, _) (by k_mem)).1, rfl, _, rfl⟩ (its2 := (vs.take 6).toArray) ⟨_, (N23 _ (.head _)).1, rfl, _, rfl⟩ ?_ (by rw [List.size_toArray, List.size_toArray, List.length_take, sizeLine_eq]; show 8 + _ ≤ _; omega)
  intro h3 F3 N3
  dsimp only at N3 ⊢
  obtain ⟨D, hD⟩ : ∃ D, h23.objs.size = D := ⟨_, rfl⟩
  have hCD : @Ne Nat C D := hD ▸ Nat.ne_of_lt (Heap.lt_size (N23 (C, _) (by k_mem)).1)
  rw [hD] at N3 ⊢
  obtain ⟨W, hW, hWs⟩ : ∃ W : List Value, W = [Value.int 896 tk0, Value.int 1398 (tk0 + 1), Value.int 904 (tk0 + 1 + 1), Value.int 1348 (tk0 + 1 + 1 + 1), Value.int 1018 (tk0 + 1 + 1 + 1 + 1), Value.int 448 (tk0 + 1 + 1 + 1 + 1 + 1), Value.int 462 (tk0 + 1 + 1 + 1 + 1 + 1 + 1), Value.int 902 (tk0 + 1 + 1 + 1 + 1 + 1 + 1 + 1)] ++ vs.take 6 ∧ All2 (fun v x => ∃ t, v = .int x t) W (own8 ++ ns.take 6) := by
    refine ⟨_, rfl, All2.append ?_ ((ints_all2 hvs).take 6)⟩
    exact .cons ⟨_, rfl⟩ (.cons ⟨_, rfl⟩ (.cons ⟨_, rfl⟩ (.cons ⟨_, rfl⟩ (.cons ⟨_, rfl⟩ (.cons ⟨_, rfl⟩ (.cons ⟨_, rfl⟩ (.cons ⟨_, rfl⟩ .nil)))))))
  have N4 : News s.heap L h3 ((C, listOf (List.toArray []) 0) :: (D, listOf W.toArray 0) :: []) := fun p hp => N3 p (by
    simp only [List.mem_cons, List.not_mem_nil, or_false] at hp ⊢
    rcases hp with h | h
    · simp [h]
    · left; rw [h, hW])
  clear N3 F23 N23 l23
  refine for_listC (CallsJ s.heap C D W (own8 ++ ns.take 6)) rfl goes_name ⟨_, (N4 (D, _) (by k_mem)).1, rfl, _, rfl⟩ F3 N4 ?_ ?_ ?_ ?_
  · exact ⟨rfl, [], 0, [], rfl, fun _ h => (nomatch h), fun _ _ _ => .nil⟩
  · intro i m nx h5 hXr F N
    refine gl_in fun gGl hGl => ?_
    obtain ⟨_, ws, n, rest, rfl, _⟩ := hXr
    refine hGl ?_
    clear hGl gGl
    exact ⟨_, (N (D, _) (.tail _ (.head _))).1, rfl, _, rfl⟩
  · intro i v m nx h5 tk5 I oI hI hcI hk hXr hne F5 N5
    refine gl_in fun gGl hGl => ?_
    obtain ⟨hm1, ws, n, rest, rfl, hr5, sup5⟩ := hXr
    refine hGl ?_
    clear hGl gGl
    clear F3 N4
    obtain ⟨z, hz, t5, rfl⟩ := hWs.getV hk
    k_steps
    rename Fr _ _ _ _ => F6
    rename News _ _ _ _ => N6
    have cv6 := sup5 _ F6.keep (fun p hp => (N6 p (.tail _ (.tail _ (.tail _ hp)))).1)
    have hil : i < (own8 ++ ns.take 6).length := (List.getElem?_eq_some_iff.mp hz).1
    have hxl : (own8 ++ ns.take 6).length ≤ 14 := by rw [List.length_append, List.length_take]; show 8 + _ ≤ 14; omega
    have hwi : ws.length = i := by rw [cv6.length, callsFrom_len, List.length_take]; omega
    have hlw : ws.length < 100 := by omega
    dsimp only [Hold]
    refine len_list ⟨_, (N6 (C, _) (by k_mem)).1, rfl, _, rfl⟩ (by rw [List.size_toArray]; omega) ?_
    rw [List.size_toArray]
    k_steps
    dsimp only [Hold]
    refine join_val (fun v => ∃ t, v = .int (callOf z ws.length).hour t) ?_ ?_
    · refine wpAny_IfExp ?_
      k_steps
      · rename _ = _ => hq
        exact ⟨int_is (by unfold callOf; simp only [hq, if_true]), _, rfl⟩
      · rename _ ≠ _ => hq
        exact ⟨int_is (by unfold callOf; simp only [hq, if_false]), _, rfl⟩
    rintro v tkh ⟨th, rfl⟩
    (try dsimp only)
    k_steps
    dsimp only [Hold]
    refine join_val (fun v => ∃ t, v = .int (callOf z ws.length).mark t) ?_ ?_
    · refine wpAny_IfExp ?_
      k_steps
      · rename _ = _ => hq
        exact ⟨int_is (by unfold callOf; simp only [hq, if_true]), _, rfl⟩
      · rename _ ≠ _ => hq
        exact ⟨int_is (by unfold callOf; simp only [hq, if_false]), _, rfl⟩
    rintro v tkm ⟨tm, rfl⟩
    (try dsimp only)
    k_steps
    dsimp only [Hold]
    refine join_val (fun v => ∃ t, v = .str (tx ws.length) t) ?_ ?_
    · refine wpAny_IfExp ?_
      k_steps
      · rename _ < _ => hq
        exact ⟨⟨_, by rw [tx_pos (by omega)]⟩, _, rfl⟩
      · have hq0 : ws.length = 0 := by omega
        exact ⟨⟨_, by rw [hq0]; rfl⟩, _, rfl⟩
    rintro v tkx ⟨tx0, rfl⟩
    (try dsimp only)
    k_steps
    dsimp only [Hold]
    refine KXi.item (n := 4) (by decide +kernel) (by have := fmod_lo (z.fdiv 7) (n := 4) (by decide); omega) (fmod_hi _ (by decide)) (by decide) fun _ => ?_
    rw [item_nm (fmod_lo _ (by decide)) (fmod_hi _ (by decide))]
    (try dsimp only)
    k_steps
    dsimp only [Hold]
    refine KXi.item (n := 4) (by decide +kernel) (by have := fmod_lo (z.fdiv 28) (n := 4) (by decide); omega) (fmod_hi _ (by decide)) (by decide) fun _ => ?_
    rw [item_nm (fmod_lo _ (by decide)) (fmod_hi _ (by decide))]
    (try dsimp only)
    k_steps
    rename Fr _ _ _ _ => F9
    rename News _ _ _ _ => N9
    rename_i T9 hp9 lT
    have hT9 := N9 _ (.head _)
    obtain ⟨oT, hT1, hTc, hTv⟩ : ∃ oT, hp9.get? T9 = some oT ∧ oT.cls = .type "tuple" ∧ ∀ h : Heap, h.get? T9 = some oT → CallV h (.ref T9) (callOf z ws.length) := by
      exact ⟨_, hT9.1, rfl, fun h e => callV_of (c := callOf z ws.length) (z := z.fmod 7) e rfl rfl (Int.toNat_of_nonneg (fmod_lo _ (by decide)))⟩
    have hI9 := N9 (I, oI) (.tail _ (.tail _ (.head _)))
    have hC9 := N9 (C, listOf ws.toArray n) (.tail _ (.tail _ (.tail _ (.head _))))
    have hD9 := N9 (D, listOf W.toArray 0) (.tail _ (.tail _ (.tail _ (.tail _ (.head _)))))
    have hR9 : ∀ p ∈ rest, _ := fun p hp => N9 p (.tail _ (.tail _ (.tail _ (.tail _ (.tail _ hp)))))
    refine wpAny_list_append_plain (hsz := by rw [List.size_toArray, sizeLine_eq]; omega) ⟨n, hC9.1⟩ fun h10 hl10 hs10 => ?_
    obtain ⟨n10, hl10⟩ := hl10
    have b10 : But [C] _ h10 := But.same hs10
    have F10 := b10.fr F9 (fun a ha => by cases List.mem_singleton.mp ha; exact hC9.2.2) (fun q => hC9.2.1 (List.mem_singleton.mp q).symm)
    have qI : @Ne Nat C I := hne (C, _) (.head _)
    have qT : @Ne Nat T9 C := Nat.ne_of_gt lT.2.2.1
    have qR : ∀ p ∈ rest, p.1 ≠ C := fun p hp e => by
      have := (hR9 p hp).1
      rw [e, hC9.1] at this
      have hc := hr5 p hp
      rw [← Option.some.inj this] at hc
      exact absurd hc (by simp)
    have hT10 := b10 _ _ (by simpa using qT) hT1
    refine wpAny_execs_nil ?_
    refine ForEnd.next ((C, listOf (List.toArray (ws ++ [.ref T9])) n10) :: (D, listOf W.toArray 0) :: (T9, oT) :: rest) F10 (nx' := (I, oI) :: _) (fun p hp => ?_) (.head _) (fun p hp => ⟨.tail _ hp, ?_⟩) ⟨hm1, ws ++ [.ref T9], n10, (T9, oT) :: rest, rfl, fun p hp => ?_, fun h st hs => ?_⟩
    · rcases List.mem_cons.mp hp with rfl | hp
      · exact ⟨b10 _ _ (by simpa using qI.symm) hI9.1, hI9.2⟩
      rcases List.mem_cons.mp hp with rfl | hp
      · exact ⟨hl10.trans (by simp), hC9.2⟩
      rcases List.mem_cons.mp hp with rfl | hp
      · exact ⟨b10 _ _ (by simpa using hCD.symm) hD9.1, hD9.2⟩
      rcases List.mem_cons.mp hp with rfl | hp
      · exact ⟨hT10, hT9.2⟩
      · exact ⟨b10 _ _ (by simpa using qR p hp) (hR9 p hp).1, (hR9 p hp).2⟩
    · rcases List.mem_cons.mp hp with rfl | hp
      · exact qI
      rcases List.mem_cons.mp hp with rfl | hp
      · exact hne (D, _) (.tail _ (.head _))
      rcases List.mem_cons.mp hp with rfl | hp
      · exact Nat.ne_of_gt lT.2.1
      · exact hne p (.tail _ (.tail _ hp))
    · rcases List.mem_cons.mp hp with rfl | hp
      · exact hTc
      · exact hr5 p hp
    · have htk : (own8 ++ ns.take 6).take (i + 1) = (own8 ++ ns.take 6).take i ++ [z] := by rw [List.take_add_one, hz]; rfl
      rw [htk, callsFrom_snoc]
      refine All2.append (sup5 h st fun p hp => hs p (.tail _ hp)) (.cons ?_ .nil)
      have el : 0 + ((own8 ++ ns.take 6).take i).length = ws.length := by rw [List.length_take]; omega
      rw [el]
      exact hTv h (hs (T9, oT) (.head _))
  · intro m nx h5 tk5 hXr F5 N5
    refine gl_in fun gGl hGl => ?_
    obtain ⟨hm1, ws, n, rest, rfl, hr5, sup5⟩ := hXr
    refine hGl ?_
    clear hGl gGl
    clear F3 N4
    have cv6 := sup5 _ F5.keep (fun p hp => (N5 p (.tail _ (.tail _ hp))).1)
    (try dsimp only)
    k_steps
    rw [hWs.length, List.take_length] at cv6
    exact ret _ _ C ws n F5.keep (N5 (C, _) (.head _)).1 cv6 (N5 (C, _) (.head _)).2.2
end
end
section
noncomputable def ansD : Ans → PyData
  | .no => .none
  | .one t => .str (tx t)
  | .all ts => .list (ts.map txD)
noncomputable def AnsG : Ans → Prop
  | .no => True
  | .one t => t < 14
  | .all ts => ∀ t ∈ ts, t < 14
theorem ansD_eqv {a b : Ans} (ha : AnsG a) (hb : AnsG b) : PyData.eqv (ansD a) (ansD b) = decide (a = b) := by
  cases a with
  | no => cases b <;> simp [ansD, PyData.eqv]
  | one t =>
    cases b with
    | no => simp [ansD, PyData.eqv]
    | one u => rw [show PyData.eqv (ansD (.one t)) (ansD (.one u)) = PyData.eqv (txD t) (txD u) from rfl, txD_eqv ha hb]; simp
    | all us => simp [ansD, PyData.eqv]
  | all ts =>
    cases b with
    | no => simp [ansD, PyData.eqv]
    | one u => simp [ansD, PyData.eqv]
    | all us => rw [show PyData.eqv (ansD (.all ts)) (ansD (.all us)) = PyData.eqv (.list (ts.map txD)) (.list (us.map txD)) from rfl, texts_eqv ha hb]; simp
theorem AnsV.good {ok : Addr → Prop} {h : Heap} {v : Value} {a : Ans} (x : AnsV ok h v a) : AnsG a := by
  cases a with
  | no => trivial
  | one t => exact x.1
  | all ts => obtain ⟨l, _, ht, _⟩ := x; exact ht.lt
theorem AnsV.reads {ok : Addr → Prop} {h : Heap} {v : Value} {a : Ans} (x : AnsV ok h v a) : ∃ as, Reads h v (ansD a) as := by
  cases a with
  | no => obtain rfl : v = .none := x; exact ⟨_, .none⟩
  | one t => obtain ⟨_, k, rfl⟩ := x; exact ⟨_, .str _ _⟩
  | all ts => obtain ⟨l, rfl, ht, _⟩ := x; exact ⟨_, ht.reads⟩
theorem txs_lay {ts : List Nat} (ht : ∀ t ∈ ts, t < 14) : PyData.canLayAll0 (ts.map txD) = true ∧ PyData.depthAll (ts.map txD) = 0 := by
  induction ts with
  | nil => simp [PyData.canLayAll0, PyData.depthAll]
  | cons t ts ih =>
    have := ih fun u hu => ht u (.tail _ hu)
    simp [PyData.canLayAll0, PyData.depthAll, txD, PyData.canLay0, PyData.depth, tx_ok (ht t (.head _))]
    exact this
theorem ans_lay {a : Ans} (h : AnsG a) : (ansD a).canLay0 = true ∧ (ansD a).depth ≤ 1 := by
  cases a with
  | no => simp [ansD, PyData.canLay0, PyData.depth]
  | one t => simp [ansD, PyData.canLay0, PyData.depth, tx_ok h]
  | all ts => simp [ansD, PyData.canLay0, PyData.depth, txs_lay h]
theorem ans_shaped {a : Ans} (h : AnsG a) : SeqAt.shaped (ansD a) = true := by
  have := ans_lay h
  simp [SeqAt.shaped, this.1]; omega
theorem anss_lay : ∀ {as : List Ans}, (∀ a ∈ as, AnsG a) → PyData.canLayAll0 (as.map ansD) = true ∧ PyData.depthAll (as.map ansD) ≤ 1
  | [], _ => by simp [PyData.canLayAll0, PyData.depthAll]
  | a :: as, h => by
    have h1 := ans_lay (h a (.head _))
    have h2 := anss_lay (as := as) fun b hb => h b (.tail _ hb)
    simp [PyData.canLayAll0, PyData.depthAll, h1.1, h2.1]
    omega
theorem anss_shaped {as : List Ans} (h : ∀ a ∈ as, AnsG a) : SeqAt.shaped (.list (as.map ansD)) = true := by
  have := anss_lay h
  simp [SeqAt.shaped, PyData.canLay0, PyData.depth, this.1]; omega
theorem All2.ansReads {ok : Addr → Prop} {h : Heap} : ∀ {vs : List Value} {as : List Ans}, All2 (AnsV ok h) vs as → (∃ bs, ReadsAll h vs (as.map ansD) bs) ∧ ∀ a ∈ as, AnsG a := by
  intro vs as h
  induction h with
  | nil => exact ⟨⟨_, .nil⟩, fun _ h => (nomatch h)⟩
  | cons x _ ih =>
    obtain ⟨⟨bs, hb⟩, g⟩ := ih
    obtain ⟨as, ha⟩ := x.reads
    exact ⟨⟨_, .cons ha hb⟩, List.forall_mem_cons.mpr ⟨x.good, g⟩⟩
noncomputable def pairD (q : Nat × Nat) : PyData := .tuple [.str (nm q.1), .str (tx q.2)]
theorem pairD_eqv {q p : Nat × Nat} (h1 : q.1 < 4) (h2 : q.2 < 14) (h3 : p.1 < 4) (h4 : p.2 < 14) : PyData.eqv (pairD q) (pairD p) = decide (q = p) := by
  obtain ⟨a, b⟩ := q
  obtain ⟨c, d⟩ := p
  have e1 : (nm a == nm c) = decide (a = c) := by
    by_cases e : a = c
    · subst e; simp
    · rw [decide_eq_false e]; exact beq_false_of_ne fun z => e (nm_inj h1 h3 z)
  have e2 : (tx b == tx d) = decide (b = d) := by
    by_cases e : b = d
    · subst e; simp
    · rw [decide_eq_false e]; exact beq_false_of_ne fun z => e (tx_inj h2 h4 z)
  simp only [pairD, PyData.eqv, PyData.eqvAll, e1, e2, Bool.and_true]
  by_cases q1 : a = c <;> by_cases q2 : b = d <;> simp [q1, q2]
theorem All2.pairReads {h : Heap} : ∀ {vs : List Value} {qs : List (Nat × Nat)}, All2 (PairV h) vs qs → (∃ bs, ReadsAll h vs (qs.map pairD) bs) ∧ ∀ q ∈ qs, q.1 < 4 ∧ q.2 < 14 := by
  intro vs qs h
  induction h with
  | nil => exact ⟨⟨_, .nil⟩, fun _ h => (nomatch h)⟩
  | cons x _ ih =>
    obtain ⟨⟨bs, hb⟩, g⟩ := ih
    obtain ⟨a, t1, t2, e, ⟨o, ho, hc, n, hd⟩, h1, h2⟩ := x
    subst e
    exact ⟨⟨_, .cons (.tuple ho hc hd (.cons (.str _ _) (.cons (.str _ _) .nil))) hb⟩, List.forall_mem_cons.mpr ⟨⟨h1, h2⟩, g⟩⟩
theorem pairs_lay : ∀ {qs : List (Nat × Nat)}, (∀ q ∈ qs, q.1 < 4 ∧ q.2 < 14) → PyData.canLayAll0 (qs.map pairD) = true ∧ PyData.depthAll (qs.map pairD) ≤ 1
  | [], _ => by simp [PyData.canLayAll0, PyData.depthAll]
  | q :: qs, h => by
    have h2 := pairs_lay (qs := qs) fun b hb => h b (.tail _ hb)
    simp [PyData.canLayAll0, PyData.depthAll, pairD, PyData.canLay0, PyData.depth, nm_ok, tx_ok (h q (.head _)).2, h2.1]
    omega
theorem pairs_shaped {qs : List (Nat × Nat)} (h : ∀ q ∈ qs, q.1 < 4 ∧ q.2 < 14) : SeqAt.shaped (.list (qs.map pairD)) = true := by
  have := pairs_lay h
  simp [SeqAt.shaped, PyData.canLay0, PyData.depth, this.1]; omega
section
variable {prog : Program} {w : World} {A : Around} {E : Value → Shared → Prop} {s : Shared} {Q : Value → Shared → Prop}
theorem ne_ans {ok ok' : Addr → Prop} {u v : Value} {a b : Ans} (hu : A.units + 64 < cLine) (ha : AnsV ok s.heap u a) (hb : AnsV ok' s.heap v b) (h : Q (.bool (!decide (a = b))) s) : wpAny (model prog w) A (compareOp .NotEq u v) Q E s := by
  obtain ⟨as, ra⟩ := ha.reads
  obtain ⟨bs, rb⟩ := hb.reads
  exact ne_dataH ra rb (ans_shaped ha.good) (ans_shaped hb.good) hu (by rw [ansD_eqv ha.good hb.good]; exact h)
theorem eq_anss {ok ok' : Addr → Prop} {x y : Addr} {us vs : List Value} {m n : Nat} {as bs : List Ans} (hu : A.units + 64 < cLine) (hx : s.heap.get? x = some (listOf us.toArray m)) (hy : s.heap.get? y = some (listOf vs.toArray n)) (ha : All2 (AnsV ok s.heap) us as) (hb : All2 (AnsV ok' s.heap) vs bs)
    (h : Q (.bool (decide (as = bs))) s) : wpAny (model prog w) A (compareOp .Eq (.ref x) (.ref y)) Q E s := by
  obtain ⟨⟨as', ra⟩, ga⟩ := ha.ansReads
  obtain ⟨⟨bs', rb⟩, gb⟩ := hb.ansReads
  refine eq_dataH (reads_list_at hx rfl rfl (by simpa using ra)) (reads_list_at hy rfl rfl (by simpa using rb)) (anss_shaped ga) (anss_shaped gb) hu ?_
  rw [PyData.eqv, eqvAll_map ansD as bs fun x hx y hy => ansD_eqv (ga x hx) (gb y hy)]
  exact h
theorem items_reads {h : Heap} {x : Addr} {qs : List (Nat × Nat)} (hx : ItemsIs h x qs) : (∃ as, Reads h (.ref x) (.list (qs.map pairD)) as) ∧ ∀ q ∈ qs, q.1 < 4 ∧ q.2 < 14 := by
  obtain ⟨vs, n, e, hv, _⟩ := hx
  obtain ⟨⟨as, ra⟩, g⟩ := hv.pairReads
  exact ⟨⟨_, reads_list_at e rfl rfl (by simpa using ra)⟩, g⟩
theorem eq_items {x y : Addr} {qs ps : List (Nat × Nat)} (hu : A.units + 64 < cLine) (hx : ItemsIs s.heap x qs) (hy : ItemsIs s.heap y ps) (h : Q (.bool (decide (qs = ps))) s) : wpAny (model prog w) A (compareOp .Eq (.ref x) (.ref y)) Q E s := by
  obtain ⟨⟨as, ra⟩, ga⟩ := items_reads hx
  obtain ⟨⟨bs, rb⟩, gb⟩ := items_reads hy
  refine eq_dataH ra rb (pairs_shaped ga) (pairs_shaped gb) hu ?_
  rw [PyData.eqv, eqvAll_map pairD qs ps fun x hx y hy => pairD_eqv (ga x hx).1 (ga x hx).2 (gb y hy).1 (gb y hy).2]
  exact h
theorem ne_items {x y : Addr} {qs ps : List (Nat × Nat)} (hu : A.units + 64 < cLine) (hx : ItemsIs s.heap x qs) (hy : ItemsIs s.heap y ps) (h : Q (.bool (!decide (qs = ps))) s) : wpAny (model prog w) A (compareOp .NotEq (.ref x) (.ref y)) Q E s := by
  obtain ⟨⟨as, ra⟩, ga⟩ := items_reads hx
  obtain ⟨⟨bs, rb⟩, gb⟩ := items_reads hy
  refine ne_dataH ra rb (pairs_shaped ga) (pairs_shaped gb) hu ?_
  rw [PyData.eqv, eqvAll_map pairD qs ps fun x hx y hy => pairD_eqv (ga x hx).1 (ga x hx).2 (gb y hy).1 (gb y hy).2]
  exact h
end
/-- all that stands in a heap, but the frame and X, as a ledger -/
theorem snapshot {g h : Heap} {L : Addr} {m : Str → Option Value} (F : Fr g L h m) (X : List Addr) : ∃ rest, News g L h rest ∧ (∀ p ∈ rest, p.1 ∉ X) ∧ (∀ h2, g.StaysIn h2 → Holds rest h2 → But (L :: X) h h2) ∧ ∀ b o, b ∉ L :: X → h.get? b = some o → g.get? b = none → (b, o) ∈ rest := by
  have all : ∀ b o, b ∉ L :: X → h.get? b = some o → g.get? b = none → (b, o) ∈ (List.range h.objs.size).filterMap fun a => match h.get? a with | some o => if a = L ∨ a ∈ X ∨ (g.get? a).isSome = true then none else some (a, o) | none => none := fun b o hb e z => by
    refine List.mem_filterMap.mpr ⟨b, List.mem_range.mpr (Heap.lt_size e), ?_⟩
    (try dsimp only)
    rw [e]
    dsimp only
    rw [if_neg]
    rintro (q | q | q)
    · exact hb (q ▸ .head _)
    · exact hb (.tail _ q)
    · rw [z] at q; cases q
  refine ⟨(List.range h.objs.size).filterMap fun a => match h.get? a with | some o => if a = L ∨ a ∈ X ∨ (g.get? a).isSome = true then none else some (a, o) | none => none, fun p hp => ?_, fun p hp => ?_, fun h2 st hs b o hb e => ?_, all⟩
  · obtain ⟨a, _, e⟩ := List.mem_filterMap.mp hp
    (try dsimp only at e)
    cases q : h.get? a with
    | none => rw [q] at e; cases e
    | some o =>
      rw [q] at e
      dsimp only at e
      split at e
      · cases e
      · rename_i nn
        cases e
        refine ⟨q, fun z => nn (.inl z), ?_⟩
        cases z : g.get? a with
        | none => rfl
        | some _ => exact absurd (.inr (.inr (by rw [z]; rfl))) nn
  · obtain ⟨a, _, e⟩ := List.mem_filterMap.mp hp
    (try dsimp only at e)
    cases q : h.get? a with
    | none => rw [q] at e; cases e
    | some o =>
      rw [q] at e
      dsimp only at e
      split at e
      · cases e
      · rename_i nn
        cases e
        exact fun z => nn (.inr (.inl z))
  · cases z : g.get? b with
    | some o2 =>
      have := F.keep _ _ z
      rw [e] at this; cases this
      exact st _ _ z
    | none => exact hs (b, o) (all b o hb e z)
section
variable {prog : Program} {w : World} {A : Around} {s : Shared} {mg mb : Str → Option Value} {Q E : Value → Shared → Prop}
theorem tak_spec {ra : RAd} {r0 r1 : Rows} {cv : Value} {c : Cl} {h₀ : Heap} (r : Room A 9) (G : Gr w mg mb h₀) (kk : h₀.StaysIn s.heap) (h0 : ∀ a ∈ ra.lists, h₀.get? a = none)
    (hr : RowsIs w.params s.heap ra r0) (hs : Small r0) (hc : CallV s.heap cv c) (hgd : Good c) (hd2 : c.deed ≤ 2) (hk : takenP r0 c = some r1)
    (ret : ∀ h' tk, But ra.lists s.heap h' → RowsIs w.params h' ra r1 → Q .none { s with heap := h', toks := tk }) :
    wpAny (model prog w) A (call (.ref 269) [.ref ra.d, cv]) Q E s := by
  unfold takenP at hk
  dsimp only at hk
  split at hk
  · cases hk
  · rename_i hn
    simp only [not_or, not_and, Decidable.not_not] at hn
    have hk := Option.some.inj hk
    exact tak_all r G kk h0 hr hs hc hgd hn.1 hn.2 fun h' tk b hr' => ret h' tk b (by rw [← hk]; exact hr')
end
end
section
noncomputable def ToldV (ok : Addr → Prop) (h : Heap) (v : Value) (q : Nat × Ans) : Prop := ∃ a t av, v = .ref a ∧ IsTup h a [.int (q.1 : Nat) t, av].toArray ∧ AnsV ok h av q.2
/-- what stands in W is no tuple, no list and not d -/
noncomputable def Quiet (h : Heap) (W : List Addr) (d : Addr) : Prop := ∀ a ∈ W, a ≠ d ∧ ∀ o, h.get? a = some o → (o.cls ≠ .type "tuple" ∧ o.cls ≠ .type "list") ∨ ∀ xs n, o.data ≠ .seq xs n
theorem Quiet.tups {h h' : Heap} {W : List Addr} {d : Addr} (q : Quiet h W d) (b : But W h h') : TupS h h' := fun a xs ⟨o, ho, hc, n, hd⟩ => by
  refine ⟨o, b a o (fun m => ?_) ho, hc, n, hd⟩
  rcases (q a m).2 o ho with z | z
  · exact z.1 hc
  · exact z _ _ hd
theorem Quiet.list {h h' : Heap} {W : List Addr} {d : Addr} (q : Quiet h W d) (b : But W h h') {a : Addr} {xs : Array Value} {n : Nat} (e : h.get? a = some (listOf xs n)) : h'.get? a = some (listOf xs n) := b a _ (fun m => by
  rcases (q a m).2 _ e with z | z
  · exact z.2 rfl
  · exact z xs n rfl) e
theorem Quiet.nil {h : Heap} {d : Addr} : Quiet h [] d := fun _ m => (nomatch m)
structure LawH (P : Params) (h : Heap) (ra : RAd) (lg td it : Addr) (st : St) : Prop where
  rows : RowsIs P h ra st.rows
  log : ∃ vs n, h.get? lg = some (listOf (List.toArray vs) n) ∧ All2 (CallV h) vs st.log
  told : ∃ vs n, h.get? td = some (listOf (List.toArray vs) n) ∧ All2 (ToldV (fun l => l ∉ ra.lists ∧ l ≠ td) h) vs st.told
  items : ItemsIs h it st.items
  apart : lg ∉ ra.lists ∧ td ∉ ra.lists ∧ it ∉ ra.lists ∧ lg ≠ td ∧ it ≠ td
theorem RowIs.list {α : Type} {h h' : Heap} {a : Addr} {R R' : Value → α → Prop} {xs : List α} (x : RowIs h a R xs) (k : ∀ vs n, h.get? a = some (listOf vs n) → h'.get? a = some (listOf vs n)) (hR : ∀ v y, R v y → R' v y) : RowIs h' a R' xs := by
  refine gl_in fun gGl hGl => ?_
  obtain ⟨vs, n, e, hx, hl⟩ := x
  refine hGl ?_
  clear hGl gGl
  exact ⟨vs, n, k _ _ e, hx.imp hR, hl⟩
theorem RowsIs.quiet {P : Params} {h h' : Heap} {ra : RAd} {r : Rows} {W : List Addr} (x : RowsIs P h ra r) (q : Quiet h W ra.d) (b : But W h h') : RowsIs P h' ra r := by
  refine gl_in fun gGl hGl => ?_
  obtain ⟨t1, t2, n, e⟩ := x.dict
  refine hGl ?_
  clear hGl gGl
  have t := q.tups b
  refine ⟨⟨t1, t2, n, b _ _ (fun m => (q _ m).1 rfl) e⟩, fun g hg => ?_, x.apart⟩
  have k := x.kept g hg
  exact ⟨t _ _ k.tup, k.cuts.list (fun _ _ e => q.list b e) fun _ _ z => KeyIs.keeps z t, k.lays.list (fun _ _ e => q.list b e) fun _ _ z => LayV.keeps z t, k.firsts.list (fun _ _ e => q.list b e) fun _ _ z => KeyIs.keeps z t, k.alls.list (fun _ _ e => q.list b e) fun _ _ z => KeyIs.keeps z t⟩
theorem ToldV.keeps {ok ok' : Addr → Prop} {h h' : Heap} {v : Value} {q : Nat × Ans} (x : ToldV ok h v q) (t : TupS h h') (k : ∀ l vs n, ok l → h.get? l = some (listOf vs n) → h'.get? l = some (listOf vs n) ∧ ok' l) : ToldV ok' h' v q := by
  refine gl_in fun gGl hGl => ?_
  obtain ⟨a, u, av, e, ht, ha⟩ := x
  refine hGl ?_
  clear hGl gGl
  exact ⟨a, u, av, e, t _ _ ht, ha.keeps k⟩
theorem ItemsIs.keeps' {h h' : Heap} {a : Addr} {qs : List (Nat × Nat)} (x : ItemsIs h a qs) (t : TupS h h') (k : ∀ vs n, h.get? a = some (listOf vs n) → h'.get? a = some (listOf vs n)) : ItemsIs h' a qs := by
  refine gl_in fun gGl hGl => ?_
  obtain ⟨vs, n, e, hx, hl⟩ := x
  refine hGl ?_
  clear hGl gGl
  exact ⟨vs, n, k _ _ e, hx.imp fun _ _ z => z.keeps t, hl⟩
theorem LawH.quiet {P : Params} {h h' : Heap} {ra : RAd} {lg td it : Addr} {st : St} {W : List Addr} (x : LawH P h ra lg td it st) (q : Quiet h W ra.d) (b : But W h h') : LawH P h' ra lg td it st := by
  have t := q.tups b
  refine gl_in fun gGl hGl => ?_
  obtain ⟨lv, ln, le, lx⟩ := x.log
  obtain ⟨tv, tn, te, tx⟩ := x.told
  refine hGl ?_
  clear hGl gGl
  exact ⟨x.rows.quiet q b, ⟨lv, ln, q.list b le, lx.imp fun _ _ z => z.keeps t⟩, ⟨tv, tn, q.list b te, tx.imp fun _ _ z => z.keeps t fun l vs n o e => ⟨q.list b e, o⟩⟩, x.items.keeps' t (fun _ _ e => q.list b e), x.apart⟩
theorem LawH.stays {P : Params} {h h' : Heap} {ra : RAd} {lg td it : Addr} {st : St} (x : LawH P h ra lg td it st) (k : h.StaysIn h') : LawH P h' ra lg td it st := x.quiet Quiet.nil (But.nil k)
/-- the rows are another one's behind a put or a taking back -/
theorem LawH.rows' {P : Params} {h h' : Heap} {ra : RAd} {lg td it : Addr} {st : St} {r : Rows} (x : LawH P h ra lg td it st) (b : But ra.lists h h') (hr : RowsIs P h' ra r) : LawH P h' ra lg td it { st with rows := r } := by
  have t := TupS.but b x.rows.lists
  refine gl_in fun gGl hGl => ?_
  obtain ⟨lv, ln, le, lx⟩ := x.log
  obtain ⟨tv, tn, te, tx⟩ := x.told
  refine hGl ?_
  clear hGl gGl
  exact ⟨hr, ⟨lv, ln, b _ _ x.apart.1 le, lx.imp fun _ _ z => z.keeps t⟩, ⟨tv, tn, b _ _ x.apart.2.1 te, tx.imp fun _ _ z => z.keeps t fun l vs n o e => ⟨b _ _ o.1 e, o⟩⟩, x.items.keeps' t (fun _ _ e => b _ _ x.apart.2.2.1 e), x.apart⟩
theorem LawH.told' {P : Params} {h h' : Heap} {ra : RAd} {lg td it : Addr} {st : St} {q : Nat × Ans} {v : Value} {vs : List Value} {n n' : Nat} (x : LawH P h ra lg td it st) (e : h.get? td = some (listOf (List.toArray vs) n)) (hv : ToldV (fun l => l ∉ ra.lists ∧ l ≠ td) h v q) (b : But [td] h h') (e' : h'.get? td = some (listOf (List.toArray (vs ++ [v])) n')) :
    LawH P h' ra lg td it { st with told := st.told ++ [q] } := by
  have t : TupS h h' := TupS.one e (fun _ _ _ => by simp [W.listOf]) b
  refine gl_in fun gGl hGl => ?_
  obtain ⟨lv, ln, le, lx⟩ := x.log
  obtain ⟨tv, tn, te, tx⟩ := x.told
  refine hGl ?_
  clear hGl gGl
  rw [e] at te
  have hvs : vs = tv := by
    have := congrArg (fun d => match d with | some o => (match Obj.data o with | Data.seq xs _ => xs.toList | _ => []) | _ => []) te
    simpa [W.listOf] using this
  subst hvs
  have one : ∀ {l : Addr} {us : Array Value} {k : Nat}, l ≠ td → h.get? l = some (listOf us k) → h'.get? l = some (listOf us k) := fun hl ee => b _ _ (by simpa using hl) ee
  refine ⟨?_, ⟨lv, ln, one x.apart.2.2.2.1 le, lx.imp fun _ _ z => z.keeps t⟩, ⟨vs ++ [v], n', e', All2.append (tx.imp fun _ _ z => z.keeps t fun l us k o ee => ⟨one o.2 ee, o⟩) (.cons (hv.keeps t fun l us k o ee => ⟨one o.2 ee, o⟩) .nil)⟩, x.items.keeps' t (fun _ _ ee => one x.apart.2.2.2.2 ee), x.apart⟩
  refine gl_in fun gGl hGl => ?_
  obtain ⟨t1, t2, nn, ed⟩ := x.rows.dict
  refine hGl ?_
  clear hGl gGl
  refine ⟨⟨t1, t2, nn, b _ _ (fun m => ?_) ed⟩, fun g hg => ?_, x.rows.apart⟩
  · rw [List.mem_singleton.mp m, e] at ed
    have := congrArg (fun z => z.map Obj.cls) ed
    simp [W.listOf, dictOf] at this
  have k := x.rows.kept g hg
  have nl : ∀ l ∈ (ra.get g).lists, l ≠ td := fun l hl ee => x.apart.2.1 (ee ▸ RAd.get_mem l hl)
  exact ⟨t _ _ k.tup, k.cuts.list (fun _ _ ee => one (nl _ (by simp [KAd.lists])) ee) fun _ _ z => KeyIs.keeps z t, k.lays.list (fun _ _ ee => one (nl _ (by simp [KAd.lists])) ee) fun _ _ z => LayV.keeps z t, k.firsts.list (fun _ _ ee => one (nl _ (by simp [KAd.lists])) ee) fun _ _ z => KeyIs.keeps z t, k.alls.list (fun _ _ ee => one (nl _ (by simp [KAd.lists])) ee) fun _ _ z => KeyIs.keeps z t⟩
theorem rowdict_of {prog : Program} {w : World} {h : Heap} {d ta tb : Addr} {o : Obj} (e : h.get? d = some o) (hd : o.IsDictOf (strKind prog w) [(Str.ofString "a", .ref ta), (Str.ofString "b", .ref tb)]) : ∃ t1 t2 n, h.get? d = some (dictOf [⟨PyData.keyHash w.params (Str.ofString "a"), .str (Str.ofString "a") t1, .ref ta⟩, ⟨PyData.keyHash w.params (Str.ofString "b"), .str (Str.ofString "b") t2, .ref tb⟩] n) := by
  refine gl_in fun gGl hGl => ?_
  obtain ⟨es, ep, ⟨c1, c2, c3⟩, c4, hk, hp, _⟩ := hd
  obtain ⟨oc, od, odt, osl⟩ := o
  simp only at c1 c2 c3 c4
  subst c1; subst c2; subst c3; subst c4
  obtain ⟨es⟩ := es
  refine hGl ?_
  clear hGl gGl
  simp only at hp
  cases hp with
  | @cons e1 _ es1 _ k1 h1 p1 =>
  cases p1 with
  | @cons e2 _ es2 _ k2 h2 p2 =>
  cases p2
  refine gl_in fun gGl hGl => ?_
  obtain ⟨t1, g1⟩ := Value.isStrOf_shape k1
  obtain ⟨t2, g2⟩ := Value.isStrOf_shape k2
  refine hGl ?_
  clear hGl gGl
  have hh : ∀ (x : Str) (en : DictEntry), en ∈ (⟨[e1, e2]⟩ : Array DictEntry) → (strKind prog w).is x en.key = true → en.hash = PyData.keyHash w.params x := fun x en hm hx => by
    refine gl_in fun gGl hGl => ?_
    obtain ⟨k, hk1, hk2⟩ := hk en hm
    refine hGl ?_
    clear hGl gGl
    rw [hk2, (strKind prog w).inj _ _ _ hk1 hx]
    rfl
  have r1 := hh _ e1 (by simp) k1
  have r2 := hh _ e2 (by simp) k2
  refine ⟨t1, t2, ep, e.trans ?_⟩
  refine gl_in fun gGl hGl => ?_
  obtain ⟨a1, a2, a3⟩ := e1
  obtain ⟨b1, b2, b3⟩ := e2
  refine hGl ?_
  clear hGl gGl
  simp only at g1 g2 h1 h2 r1 r2
  subst g1; subst g2; subst h1; subst h2; subst r1; subst r2
  rfl
end
section
local macro_rules | `(tactic| walk_at "execs cons If cons") => `(tactic| (refine hold ?_))
theorem quiet_frame {g h : Heap} {L d : Addr} {m : Str → Option Value} (F : Fr g L h m) (ne : d ≠ L) : Quiet h [L] d := fun a ha => by
  cases List.mem_singleton.mp ha
  refine ⟨ne.symm, fun o ho => .inr fun xs n => ?_⟩
  refine gl_in fun gGl hGl => ?_
  obtain ⟨oL, es, ep, hLo, hd, _⟩ := F.ns
  refine hGl ?_
  clear hGl gGl
  rw [ho] at hLo; cases hLo
  rw [hd]; exact fun q => by cases q
/-- the frame of _law_put behind its first three lines -/
structure PutM (m : Str → Option Value) (ra : RAd) (c : Cl) (pa pb ta na : Addr) (t4 t5 t6 : Tok) : Prop where
  rows : m (Str.ofString "rows") = some (.ref ra.d)
  deed : m (Str.ofString "deed") = some (.int (c.deed : Nat) t4)
  name : m (Str.ofString "name") = some (.str (nm c.name) t5)
  other : m (Str.ofString "other") = some (.str (nm c.other) t6)
  cuts : m (Str.ofString "cuts") = some (.ref (ra.get (grp c.name)).c)
  lays : m (Str.ofString "lays") = some (.ref (ra.get (grp c.name)).l)
  firsts : m (Str.ofString "firsts") = some (.ref (ra.get (grp c.name)).f)
  alls : m (Str.ofString "alls") = some (.ref (ra.get (grp c.name)).q)
  ask : m (Str.ofString "ask") = some (.ref pa)
  place : m (Str.ofString "place") = some (.ref pb)
  thn : m (Str.ofString "then") = some (.ref ta)
  now : m (Str.ofString "now") = some (.ref na)
/-- what stands while its other lines run -/
structure PutSt (P : Params) (ra : RAd) (c : Cl) (pa pb ta na : Addr) (thn now : List Nat) (h : Heap) (r : Rows) : Prop where
  rows : RowsIs P h ra r
  ask : KeyIs h true (.ref pa) (plc c 0)
  place : KeyIs h true (.ref pb) (plc c 1)
  thn : TextsIs h ta thn
  now : TextsIs h na now
  offT : ta ∉ ra.lists
  offN : na ∉ ra.lists
theorem PutSt.quiet {P : Params} {ra : RAd} {c : Cl} {pa pb ta na : Addr} {thn now : List Nat} {h h' : Heap} {r : Rows} {W : List Addr} (S : PutSt P ra c pa pb ta na thn now h r) (q : Quiet h W ra.d) (b : But W h h') : PutSt P ra c pa pb ta na thn now h' r :=
  ⟨S.rows.quiet q b, S.ask.keeps (q.tups b), S.place.keeps (q.tups b), let ⟨vs, n, e, x⟩ := S.thn; ⟨vs, n, q.list b e, x⟩, let ⟨vs, n, e, x⟩ := S.now; ⟨vs, n, q.list b e, x⟩, S.offT, S.offN⟩
theorem PutSt.to {P : Params} {ra : RAd} {c : Cl} {pa pb ta na : Addr} {thn now : List Nat} {h h' : Heap} {r r1 : Rows} {a : Addr} (S : PutSt P ra c pa pb ta na thn now h r) (b : But [a] h h') (ha : a ∈ ra.lists) (hr : RowsIs P h' ra r1) : PutSt P ra c pa pb ta na thn now h' r1 :=
  have t := TupS.but b (S.rows.lists.sub fun x hx => List.mem_singleton.mp hx ▸ ha)
  ⟨hr, S.ask.keeps t, S.place.keeps t, let ⟨vs, n, e, x⟩ := S.thn; ⟨vs, n, b _ _ (fun q => S.offT (List.mem_singleton.mp q ▸ ha)) e, x⟩, let ⟨vs, n, e, x⟩ := S.now; ⟨vs, n, b _ _ (fun q => S.offN (List.mem_singleton.mp q ▸ ha)) e, x⟩, S.offT, S.offN⟩
theorem last_part {vn : List Value} {now : List Nat} (h : All2 TxV vn now) : (vn.drop (vn.length - 1) = [] ∧ now.getLast? = none) ∨ ∃ v x, vn.drop (vn.length - 1) = [v] ∧ now.getLast? = some x ∧ TxV v x := by
  rcases List.eq_nil_or_concat now with rfl | ⟨l, x, rfl⟩
  · cases h; exact .inl ⟨rfl, rfl⟩
  · rw [List.concat_eq_append] at h ⊢
    refine gl_in fun gGl hGl => ?_
    obtain ⟨vi, v, rfl, hv⟩ := All2.snoc h
    refine hGl ?_
    clear hGl gGl
    exact .inr ⟨v, x, by simp, by simp, hv⟩
theorem quiet_two {g h : Heap} {L I d : Addr} {o : Obj} {m : Str → Option Value} (F : Fr g L h m) (ne : d ≠ L) (nI : d ≠ I) (hI : h.get? I = some o) (hc : o.cls = .type "list_iterator") : Quiet h [L, I] d := fun a ha => by
  rcases List.mem_cons.mp ha with rfl | ha
  · exact quiet_frame F ne _ (.head _)
  · cases List.mem_singleton.mp ha
    refine ⟨nI.symm, fun o' ho => .inl ?_⟩
    rw [ho] at hI; cases hI
    rw [hc]; exact ⟨by decide, by decide⟩
section
variable {prog : Program} {w : World} {A : Around} {ge : Array GenState} {dr : Drawn} {os : OsState} {mg mb : Str → Option Value} {Q : Flow → Shared → Prop}
  {oc : Value} {od : Option Addr} {name qual : Str} {params : Arguments} {b1 b2 b3 b4 b5 b6 : Stmt} {scope : Scope} {dV kV doc pm cdv ct : Value} {an : Option Addr} {osl : Array (Option Value)}
  {g h : Heap} {L pa pb ta na : Addr} {ra : RAd} {r0 : Rows} {c : Cl} {t4 t5 t6 : Tok} {m : Str → Option Value} {thn now : List Nat} {tk : Nat}
theorem put_ask (ho : (hd.heap_1 w.params).lookup 262 = some ⟨oc, od, .func (fnOf name qual params [b1, b2, b3, b4, b5, b6] scope dV kV doc pm an cdv ct), osl⟩) (r : Room A 8) (G : Gr w mg mb g)
    (F : Fr g L h m) (hm : PutM m ra c pa pb ta na t4 t5 t6) (h0 : ∀ a ∈ ra.lists, g.get? a = none) (hD : RowDict w.params g ra) (hK : ∀ i, i < 2 → IsTup g (ra.get i).t [.ref (ra.get i).c, .ref (ra.get i).l, .ref (ra.get i).f, .ref (ra.get i).q].toArray)
    (hL : L ∉ ra.lists) (hgd : Good c) (S : PutSt w.params ra c pa pb ta na thn now h r0) (hs : Small r0)
    (ret : ∀ h' tk', Fr g L h' m → PutSt w.params ra c pa pb ta na thn now h' (putAsk r0 c) → Q .next ⟨h', ge, dr, tk', os⟩) :
    wpAny (model prog w) (A.deeper (envOf qual scope L 262 cdv)) (exec b4 (envOf qual scope L 262 cdv)) Q (fun _ _ => False) ⟨h, ge, dr, tk, os⟩ := by
  obtain ⟨hnd, dpA, frA, gdA, unA⟩ := A; obtain rfl : hnd = none := r.handled
  have q := ho.symm.trans (show (hd.heap_1 w.params).lookup 262 = some _ by k_is)
  refine gl_in fun gGl hGl => ?_
  obtain ⟨e1, e2, e3, e4⟩ := fn_eqs q
  have e5 : b4 = _ := Option.some.inj (show some b4 = some _ from body_at 3 e4)
  clear ho q e4
  subst e5
  have e1 : qual = _ := e1
  have e2 : scope = _ := e2
  have e3 : cdv = _ := e3
  subst e1 e2 e3
  have X := G.k
  have T := G.t
  obtain ⟨mr, md, mn, mo, mc, ml, mf, mq, mpa, mpb, mt, mw⟩ := hm
  refine hGl ?_
  clear hGl gGl
  have hg : grp c.name < 2 := by have := hgd.name; unfold grp; omega
  have hg2 : grp c.other < 2 := by have := hgd.other; unfold grp; omega
  have hKo := hK _ hg2
  have N : News g L h [] := fun p hp => nomatch hp
  have hn : ∀ a ∈ ra.lists, a ≠ L := fun a ha e => hL (e ▸ ha)
  k_steps
  · rename (c.deed : Int) = 3 => e
    have e : c.deed = 3 := by omega
    dsimp only [Hold]
    refine gl_in fun gGl hGl => ?_
    obtain ⟨vf, nf, hvf, hfa, -⟩ := (S.rows.kept _ hg).firsts
    refine hGl ?_
    clear hGl gGl
    have hlf : vf.length < 1000 := by rw [hfa.length]; exact (hs _ hg).2.2.1
    have mf' : (ra.get (grp c.name)).f ∈ ra.lists := RAd.get_mem (g := grp c.name) _ (by simp [KAd.lists])
    refine il_spec (b := true) (key := false) (vs := vf) (ks := (r0.get (grp c.name)).firsts) (k := plc c 0) ((r.deeper _).less (by decide)) G F.keep (h0 _ mf') hvf (hfa.keys fun _ _ z => z) S.ask (Nat.lt_trans hlf (by decide)) ?_
    intro h3 tk3 b3 o3
    have t3 := TupS.but b3 (S.rows.lists.sub fun x hx => List.mem_singleton.mp hx ▸ mf')
    have e9 : putAsk r0 c = r0.set (grp c.name) { r0.get (grp c.name) with firsts := insL (r0.get (grp c.name)).firsts (plc c 0) } := by unfold putAsk; rw [e]; rfl
    rw [e9] at ret
    dsimp only
    k_steps
    exact ret _ _ (b3.fr F (fun q hq => List.mem_singleton.mp hq ▸ h0 _ mf') (fun q => hn _ mf' (List.mem_singleton.mp q).symm)) (S.to b3 mf' (rows_f hg S.rows b3 (rowIs_ins o3 (hfa.imp fun _ _ z => KeyIs.keeps z t3) (S.ask.keeps t3) (Nat.lt_trans hlf (by decide)))))
  · rename (c.deed : Int) = 4 => e
    have e : c.deed = 4 := by omega
    dsimp only [Hold]
    refine gl_in fun gGl hGl => ?_
    obtain ⟨vf, nf, hvf, hfa, -⟩ := (S.rows.kept _ hg).alls
    refine hGl ?_
    clear hGl gGl
    have hlf : vf.length < 1000 := by rw [hfa.length]; exact (hs _ hg).2.2.2
    have mf' : (ra.get (grp c.name)).q ∈ ra.lists := RAd.get_mem (g := grp c.name) _ (by simp [KAd.lists])
    refine il_spec (b := true) (key := false) (vs := vf) (ks := (r0.get (grp c.name)).alls) (k := plc c 0) ((r.deeper _).less (by decide)) G F.keep (h0 _ mf') hvf (hfa.keys fun _ _ z => z) S.ask (Nat.lt_trans hlf (by decide)) ?_
    intro h3 tk3 b3 o3
    have t3 := TupS.but b3 (S.rows.lists.sub fun x hx => List.mem_singleton.mp hx ▸ mf')
    have e9 : putAsk r0 c = r0.set (grp c.name) { r0.get (grp c.name) with alls := insL (r0.get (grp c.name)).alls (plc c 0) } := by unfold putAsk; rw [e]; rfl
    rw [e9] at ret
    dsimp only
    k_steps
    exact ret _ _ (b3.fr F (fun q hq => List.mem_singleton.mp hq ▸ h0 _ mf') (fun q => hn _ mf' (List.mem_singleton.mp q).symm)) (S.to b3 mf' (rows_q hg S.rows b3 (rowIs_ins o3 (hfa.imp fun _ _ z => KeyIs.keeps z t3) (S.ask.keeps t3) (Nat.lt_trans hlf (by decide)))))
  · rename (c.deed : Int) = 5 => e
    have e : c.deed = 5 := by omega
    dsimp only [Hold]
    refine rows_item F hD rfl ?_
    intro _
    k_steps
    dsimp only [Hold]
    refine gl_in fun gGl hGl => ?_
    obtain ⟨vf, nf, hvf, hfa, -⟩ := (S.rows.kept _ hg2).firsts
    refine hGl ?_
    clear hGl gGl
    have hlf : vf.length < 1000 := by rw [hfa.length]; exact (hs _ hg2).2.2.1
    have mf' : (ra.get (grp c.other)).f ∈ ra.lists := RAd.get_mem (g := grp c.other) _ (by simp [KAd.lists])
    refine il_spec (b := true) (key := false) (vs := vf) (ks := (r0.get (grp c.other)).firsts) (k := plc c 0) ((r.deeper _).less (by decide)) G F.keep (h0 _ mf') hvf (hfa.keys fun _ _ z => z) S.ask (Nat.lt_trans hlf (by decide)) ?_
    intro h3 tk3 b3 o3
    have t3 := TupS.but b3 (S.rows.lists.sub fun x hx => List.mem_singleton.mp hx ▸ mf')
    have e9 : putAsk r0 c = r0.set (grp c.other) { r0.get (grp c.other) with firsts := insL (r0.get (grp c.other)).firsts (plc c 0) } := by unfold putAsk; rw [e]; rfl
    rw [e9] at ret
    dsimp only
    k_steps
    exact ret _ _ (b3.fr F (fun q hq => List.mem_singleton.mp hq ▸ h0 _ mf') (fun q => hn _ mf' (List.mem_singleton.mp q).symm)) (S.to b3 mf' (rows_f hg2 S.rows b3 (rowIs_ins o3 (hfa.imp fun _ _ z => KeyIs.keeps z t3) (S.ask.keeps t3) (Nat.lt_trans hlf (by decide)))))
  · have e9 : putAsk r0 c = r0 := by
      unfold putAsk
      split
      · omega
      · omega
      · omega
      · rfl
    rw [e9] at ret
    exact ret _ _ F S
theorem put_cut (ho : (hd.heap_1 w.params).lookup 262 = some ⟨oc, od, .func (fnOf name qual params [b1, b2, b3, b4, b5, b6] scope dV kV doc pm an cdv ct), osl⟩) (r : Room A 8) (G : Gr w mg mb g)
    (F : Fr g L h m) (hm : PutM m ra c pa pb ta na t4 t5 t6) (h0 : ∀ a ∈ ra.lists, g.get? a = none) (rdL : ra.d ≠ L) (hL : L ∉ ra.lists) (hgd : Good c) (S : PutSt w.params ra c pa pb ta na thn now h r0) (hs : (r0.get (grp c.name)).cuts.length < 1000)
    (ret : ∀ h' tk', Fr g L h' m → PutSt w.params ra c pa pb ta na thn now h' (putCut r0 c) → Q .next ⟨h', ge, dr, tk', os⟩) :
    wpAny (model prog w) (A.deeper (envOf qual scope L 262 cdv)) (exec b5 (envOf qual scope L 262 cdv)) Q (fun _ _ => False) ⟨h, ge, dr, tk, os⟩ := by
  obtain ⟨hnd, dpA, frA, gdA, unA⟩ := A; obtain rfl : hnd = none := r.handled
  have q := ho.symm.trans (show (hd.heap_1 w.params).lookup 262 = some _ by k_is)
  refine gl_in fun gGl hGl => ?_
  obtain ⟨e1, e2, e3, e4⟩ := fn_eqs q
  have e5 : b5 = _ := Option.some.inj (show some b5 = some _ from body_at 4 e4)
  clear ho q e4
  subst e5
  have e1 : qual = _ := e1
  have e2 : scope = _ := e2
  have e3 : cdv = _ := e3
  subst e1 e2 e3
  have X := G.k
  have T := G.t
  obtain ⟨mr, md, mn, mo, mc, ml, mf, mq, mpa, mpb, mt, mw⟩ := hm
  have hg : grp c.name < 2 := by have := hgd.name; unfold grp; omega
  have hn : ∀ a ∈ ra.lists, a ≠ L := fun a ha e => hL (e ▸ ha)
  have qf := quiet_frame F rdL
  obtain ⟨rest, N, nx, sup, all⟩ := snapshot F []
  refine hGl ?_
  clear hGl gGl
  k_steps
  · rename _ = true => e
    have e : c.deed = 0 ∨ c.deed = 2 ∨ c.deed = 5 := by simp at e; omega
    rename Fr _ _ _ _ => F1
    rename News _ _ _ _ => N1
    have b1 := sup _ F1.keep fun p hp => (N1 p (.tail _ hp)).1
    have S1 := S.quiet qf b1
    dsimp only [Hold]
    refine gl_in fun gGl hGl => ?_
    obtain ⟨vf, nf, hvf, hfa, -⟩ := (S1.rows.kept _ hg).cuts
    refine hGl ?_
    clear hGl gGl
    have hlf : vf.length < 1000 := by rw [hfa.length]; exact hs
    have mf' : (ra.get (grp c.name)).c ∈ ra.lists := RAd.get_mem (g := grp c.name) _ (by simp [KAd.lists])
    refine ir_spec (b := true) (key := false) (vs := vf) (ks := (r0.get (grp c.name)).cuts) (k := plc c 1) ((r.deeper _).less (by decide)) G F1.keep (h0 _ mf') hvf (hfa.keys fun _ _ z => z) S1.place (Nat.lt_trans hlf (by decide)) ?_
    intro h3 tk3 b3 o3
    have t3 := TupS.but b3 (S1.rows.lists.sub fun x hx => List.mem_singleton.mp hx ▸ mf')
    have e9 : putCut r0 c = r0.set (grp c.name) { r0.get (grp c.name) with cuts := insR (r0.get (grp c.name)).cuts (plc c 1) } := if_pos e
    rw [e9] at ret
    dsimp only
    k_steps
    exact ret _ _ (b3.fr F1 (fun q hq => List.mem_singleton.mp hq ▸ h0 _ mf') (fun q => hn _ mf' (List.mem_singleton.mp q).symm)) (S1.to b3 mf' (rows_c hg S1.rows b3 (rowIs_ins o3 (hfa.imp fun _ _ z => KeyIs.keeps z t3) (S1.place.keeps t3) (Nat.lt_trans hlf (by decide)))))
  · rename _ = false => e
    have e : ¬(c.deed = 0 ∨ c.deed = 2 ∨ c.deed = 5) := by simp at e; omega
    rename Fr _ _ _ _ => F1
    rename News _ _ _ _ => N1
    have e9 : putCut r0 c = r0 := if_neg e
    rw [e9] at ret
    exact ret _ _ F1 (S.quiet qf (sup _ F1.keep fun p hp => (N1 p (.tail _ hp)).1))
noncomputable def putLast (r0 : Rows) (c : Cl) (now : List Nat) : Rows := match now.getLast? with
  | some x => r0.set (grp c.name) { r0.get (grp c.name) with lays := insLayR (r0.get (grp c.name)).lays ⟨plc c 1, c.name, x⟩ }
  | none => r0
theorem put_for {fr : Stmt} {els : List Stmt} {tx' : Expr} {po : Pos} (ho : (hd.heap_1 w.params).lookup 262 = some ⟨oc, od, .func (fnOf name qual params [b1, b2, b3, b4, b5, .If tx' [fr] els po] scope dV kV doc pm an cdv ct), osl⟩) (r : Room A 8) (G : Gr w mg mb g)
    (F : Fr g L h m) (hm : PutM m ra c pa pb ta na t4 t5 t6) (h0 : ∀ a ∈ ra.lists, g.get? a = none) (rdL : ra.d ≠ L) (hL : L ∉ ra.lists) (hgd : Good c) (S : PutSt w.params ra c pa pb ta na thn now h r0) (hD : RowDict w.params g ra) (hs : (r0.get (grp c.name)).lays.length < 1000)
    (ret : ∀ h' tk' m', Fr g L h' m' → RowsIs w.params h' ra (putLast r0 c now) → Q .next ⟨h', ge, dr, tk', os⟩) :
    wpAny (model prog w) (A.deeper (envOf qual scope L 262 cdv)) (exec fr (envOf qual scope L 262 cdv)) Q (fun _ _ => False) ⟨h, ge, dr, tk, os⟩ := by
  obtain ⟨hnd, dpA, frA, gdA, unA⟩ := A; obtain rfl : hnd = none := r.handled
  have q := ho.symm.trans (show (hd.heap_1 w.params).lookup 262 = some _ by k_is)
  refine gl_in fun gGl hGl => ?_
  obtain ⟨e1, e2, e3, e4⟩ := fn_eqs q
  have e5 : fr = _ := if_head (body_at 5 e4)
  clear ho q e4
  subst e5
  have e1 : qual = _ := e1
  have e2 : scope = _ := e2
  have e3 : cdv = _ := e3
  subst e1 e2 e3
  have X := G.k
  have T := G.t
  obtain ⟨mr, md, mn, mo, mc, ml, mf, mq, mpa, mpb, mt, mw⟩ := hm
  have hg : grp c.name < 2 := by have := hgd.name; unfold grp; omega
  have hn : ∀ a ∈ ra.lists, a ≠ L := fun a ha e => hL (e ▸ ha)
  have qf := quiet_frame F rdL
  obtain ⟨rest, N, nx, sup, all⟩ := snapshot F []
  obtain ⟨vn, nn, hvn, hna, hnl⟩ := S.now
  refine hGl ?_
  clear hGl gGl
  k_steps
  rename Fr _ _ _ _ => F1
  rename News _ _ _ _ => N1
  (try dsimp only [Hold])
  have hDl : ∀ a ∈ ra.lists, ∃ o, (a, o) ∈ rest := fun a ha => by
    refine gl_in fun gGl hGl => ?_
    obtain ⟨o, ho, _⟩ := S.rows.lists a ha
    refine hGl ?_
    clear hGl gGl
    exact ⟨o, all a o (fun q => hn a ha (List.mem_singleton.mp q)) ho (h0 a ha)⟩
  refine kmk_slice (s := ⟨_, _, _, _, _⟩) F1 N1 (⟨_, hvn, rfl, _, rfl⟩) (.int _ _) (.none) ?_ (by with_unfolding_all rfl) (by intro _; with_unfolding_all rfl) (size_line hnl)
  intro D h2 F2 N2 l2
  rw [pick_last] at N2
  have hDn : ∀ a ∈ ra.lists, a ≠ D := fun a ha => let ⟨o, ho⟩ := hDl a ha; Nat.ne_of_lt (l2 _ ho)
  clear hDl l2 F1 N1
  dsimp only
  k_steps
  dsimp only [Hold]
  rcases last_part hna with ⟨e1, e2⟩ | ⟨v, x, e1, e2, hvx⟩
  · rw [e1] at N2
    refine for_nil rfl goes_name (.head _) F2 N2 ?_
    intro h3 tk3 F3 N3
    have e9 : putLast r0 c now = r0 := by unfold putLast; rw [e2]
    rw [e9] at ret
    exact ret _ _ _ F3 (S.quiet qf (sup _ F3.keep fun p hp => (N3 p (.tail _ hp)).1)).rows
  · rw [e1] at N2
    have e9 : putLast r0 c now = r0.set (grp c.name) { r0.get (grp c.name) with lays := insLayR (r0.get (grp c.name)).lays ⟨plc c 1, c.name, x⟩ } := by unfold putLast; rw [e2]
    rw [e9] at ret
    refine gl_in fun gGl hGl => ?_
    obtain ⟨htx, kvx, rfl⟩ := hvx
    refine hGl ?_
    clear hGl gGl
    refine for_listC (fun i m' nx' => (∀ h2, g.StaysIn h2 → Holds nx' h2 → RowsIs w.params h2 ra (if i = 0 then r0 else r0.set (grp c.name) { r0.get (grp c.name) with lays := insLayR (r0.get (grp c.name)).lays ⟨plc c 1, c.name, x⟩ }) ∧ KeyIs h2 true (.ref pb) (plc c 1) ∧ h2.get? D = some (listOf [Value.str (tx x) kvx].toArray 0)) ∧ (i = 0 → m' = m)) rfl goes_name ⟨_, (N2 _ (.head _)).1, rfl, _, rfl⟩ F2 N2 ?_ ?_ ?_ ?_
    · refine ⟨fun h3 st hs3 => ?_, fun _ => rfl⟩
      have S3 := S.quiet qf (sup h3 st fun p hp => hs3 p (.tail _ hp))
      exact ⟨S3.rows, S3.place, hs3 _ (.head _)⟩
    · exact fun i m' nx' h3 J F3 N3 => ⟨_, (J.1 h3 F3.keep fun p hp => (N3 p hp).1).2.2, rfl, _, rfl⟩
    · intro i v' m' nx' h3 tk3 I o hIe hcI hv hJ hne F3 N3
      have hi : i = 0 := by
        cases i with
        | zero => rfl
        | succ i => simp at hv
      subst hi
      simp at hv
      subst hv
      obtain rfl := hJ.2 rfl
      have hJ := hJ.1
      clear F2 N2 hIe
      dsimp only
      k_steps
      rename Fr _ _ _ _ => F5
      rename News _ _ _ _ => N5
      dsimp only [Hold]
      refine gl_in fun gGl hGl => ?_
      obtain ⟨R5, P5, D5⟩ := hJ _ F5.keep fun p hp => (N5 p (.tail _ (.tail _ hp))).1
      rw [if_pos rfl] at R5
      obtain ⟨vl, nl, hvl, hla, -⟩ := (R5.kept _ hg).lays
      refine hGl ?_
      clear hGl gGl
      have hll : vl.length < 1000 := by rw [hla.length]; exact hs
      have mf' : (ra.get (grp c.name)).l ∈ ra.lists := RAd.get_mem (g := grp c.name) _ (by simp [KAd.lists])
      refine ir_spec (b := true) (key := true) (vs := vl) (ks := places (r0.get (grp c.name)).lays) (k := plc c 1) ((r.deeper _).less (by decide)) G F5.keep (h0 _ mf') hvl (hla.lkeys fun _ _ z => z) ⟨_, _, _, rfl, N5.isTup (.head _), P5⟩ (Nat.lt_trans hll (by decide)) ?_
      intro h6 tk6 b6 o6
      have t6 := TupS.but b6 (R5.lists.sub fun x hx => List.mem_singleton.mp hx ▸ mf')
      have R6 := rows_l hg R5 b6 (rowIs_ins o6 (hla.imp fun _ _ z => LayV.keeps z t6) (x := (⟨plc c 1, c.name, x⟩ : Lay)) ⟨⟨_, _, _, _, rfl, t6 _ _ (N5.isTup (.head _)), P5.keeps t6⟩, hgd.name, htx⟩ (Nat.lt_trans hll (by decide)))
      have F6 := b6.fr F5 (fun q hq => List.mem_singleton.mp hq ▸ h0 _ mf') (fun q => hn _ mf' (List.mem_singleton.mp q).symm)
      have hI5 := N5 (I, o) (.tail _ (.head _))
      have hI6 : h6.get? I = some o := b6 _ _ (fun q => by
        have hq := hI5.1
        rw [List.mem_singleton.mp q, hvl] at hq
        cases hq
        exact absurd (show Value.type "list" = Value.type "list_iterator" from hcI) (by decide)) hI5.1
      have D6 := b6 _ _ (fun q => hDn _ mf' (List.mem_singleton.mp q).symm) D5
      have P6 := P5.keeps t6
      have nI : ra.d ≠ I := fun q => by
        refine gl_in fun gGl hGl => ?_
        obtain ⟨_, _, _, e⟩ := hD
        refine hGl ?_
        clear hGl gGl
        rw [q, hI5.2.2] at e
        cases e
      clear F5 N5
      dsimp only
      k_steps
      have q6 := quiet_two F6 rdL nI hI6 hcI
      refine gl_in fun gGl hGl => ?_
      obtain ⟨rest3, N7, nx7, sup7, -⟩ := snapshot F6 [I]
      refine hGl ?_
      clear hGl gGl
      refine ⟨h6, _, _, (I, o) :: rest3, rfl, F6, fun p hp => ?_, .head _, rest3, fun p hp => ⟨.tail _ hp, fun q => nx7 p hp (q ▸ .head _)⟩, fun h7 st hs7 => ?_, fun q => absurd q (by simp)⟩
      · rcases List.mem_cons.mp hp with rfl | hp
        · exact ⟨hI6, hI5.2⟩
        · exact N7 p hp
      · have b7 := sup7 h7 st hs7
        rw [if_neg (by simp)]
        exact ⟨R6.quiet q6 b7, P6.keeps (q6.tups b7), q6.list b7 D6⟩
    · intro m' nx' h3 tk3 hJ F3 N3
      obtain ⟨R3, -, -⟩ := hJ.1 h3 F3.keep fun p hp => (N3 p hp).1
      rw [if_neg (by simp)] at R3
      exact ret _ _ _ F3 R3
local macro_rules | `(tactic| walk_at "execs cons For nil") => `(tactic| (refine hold ?_))
theorem put_lay (ho : (hd.heap_1 w.params).lookup 262 = some ⟨oc, od, .func (fnOf name qual params [b1, b2, b3, b4, b5, b6] scope dV kV doc pm an cdv ct), osl⟩) (r : Room A 8) (G : Gr w mg mb g)
    (F : Fr g L h m) (hm : PutM m ra c pa pb ta na t4 t5 t6) (h0 : ∀ a ∈ ra.lists, g.get? a = none) (rdL : ra.d ≠ L) (hL : L ∉ ra.lists) (hgd : Good c) (S : PutSt w.params ra c pa pb ta na thn now h r0) (hD : RowDict w.params g ra) (hs : (r0.get (grp c.name)).lays.length < 1000)
    (ret : ∀ h' tk' m', Fr g L h' m' → RowsIs w.params h' ra (putLay r0 c thn now) → Q .next ⟨h', ge, dr, tk', os⟩) :
    wpAny (model prog w) (A.deeper (envOf qual scope L 262 cdv)) (exec b6 (envOf qual scope L 262 cdv)) Q (fun _ _ => False) ⟨h, ge, dr, tk, os⟩ := by
  obtain ⟨hnd, dpA, frA, gdA, unA⟩ := A; obtain rfl : hnd = none := r.handled
  have q := ho.symm.trans (show (hd.heap_1 w.params).lookup 262 = some _ by k_is)
  refine gl_in fun gGl hGl => ?_
  obtain ⟨e1, e2, e3, e4⟩ := fn_eqs q
  have e5 : b6 = _ := Option.some.inj (show some b6 = some _ from body_at 5 e4)
  clear ho q e4
  subst e5
  have e1 : qual = _ := e1
  have e2 : scope = _ := e2
  have e3 : cdv = _ := e3
  subst e1 e2 e3
  have X := G.k
  have T := G.t
  obtain ⟨mr, md, mn, mo, mc, ml, mf, mq, mpa, mpb, mt, mw⟩ := hm
  have hg : grp c.name < 2 := by have := hgd.name; unfold grp; omega
  have hn : ∀ a ∈ ra.lists, a ≠ L := fun a ha e => hL (e ▸ ha)
  have qf := quiet_frame F rdL
  obtain ⟨rest, N, nx, sup, all⟩ := snapshot F []
  refine hGl ?_
  clear hGl gGl
  k_steps
  dsimp only [Hold]
  refine wpAny_If ?_
  k_steps
  · rename _ = true => e
    have e : c.deed = 0 ∨ c.deed = 1 ∨ c.deed = 5 ∨ (c.deed = 3 ∧ thn = []) := by simp at e; omega
    rename Fr _ _ _ _ => F1
    rename News _ _ _ _ => N1
    have S1 := S.quiet qf (sup _ F1.keep fun p hp => (N1 p (.tail _ hp)).1)
    have e9 : putLay r0 c thn now = putLast r0 c now := if_pos e
    rw [e9] at ret
    dsimp only [Hold]
    refine wpAny_execs_cons ?_
    refine put_for (by k_is) r G F1 ⟨mr, md, mn, mo, mc, ml, mf, mq, mpa, mpb, mt, mw⟩ h0 rdL hL hgd S1 hD hs ?_
    intro h3 tk3 m3 F3 R3
    dsimp only
    k_steps
    exact ret _ _ _ F3 R3
  · rename (c.deed : Int) = 3 => e1
    rename _ = false => e0
    have e1 : c.deed = 3 := by omega
    rename Fr _ _ _ _ => F1
    rename News _ _ _ _ => N1
    have S1 := S.quiet qf (sup _ F1.keep fun p hp => (N1 p (.tail _ (.tail _ hp))).1)
    dsimp only [Hold]
    refine eq_texts (us := []) (Room.ul64 (r.deeper _)) S1.thn ⟨[], _, (N1 _ (.head _)).1, .nil, by simp⟩ ?_
    by_cases e2 : thn = []
    · rw [decide_eq_true e2]
      k_steps
      have e9 : putLay r0 c thn now = putLast r0 c now := if_pos (.inr (.inr (.inr ⟨e1, e2⟩)))
      rw [e9] at ret
      dsimp only [Hold]
      refine wpAny_execs_cons ?_
      refine put_for (by k_is) r G F1 ⟨mr, md, mn, mo, mc, ml, mf, mq, mpa, mpb, mt, mw⟩ h0 rdL hL hgd S1 hD hs ?_
      intro h3 tk3 m3 F3 R3
      dsimp only
      k_steps
      exact ret _ _ _ F3 R3
    · rw [decide_eq_false e2]
      k_steps
      have e9 : putLay r0 c thn now = r0 := if_neg (by rintro (q | q | q | q) <;> first | omega | exact e2 q.2)
      rw [e9] at ret
      exact ret _ _ _ F1 S1.rows
  · rename _ = false => e0
    rename (c.deed : Int) ≠ 3 => e1
    have e9 : putLay r0 c thn now = r0 := if_neg (by simp at e0; rintro (q | q | q | q) <;> omega)
    rename Fr _ _ _ _ => F1
    rename News _ _ _ _ => N1
    rw [e9] at ret
    exact ret _ _ _ F1 (S.quiet qf (sup _ F1.keep fun p hp => (N1 p (.tail _ hp)).1)).rows
end
section
variable {prog : Program} {w : World} {A : Around} {s : Shared} {mg mb : Str → Option Value} {Q E : Value → Shared → Prop}
theorem putAsk_cuts {r : Rows} {c : Cl} {g : Nat} (hg : g < 2) (h1 : grp c.name < 2) (h2 : grp c.other < 2) : ((putAsk r c).get g).cuts = (r.get g).cuts ∧ ((putAsk r c).get g).lays = (r.get g).lays := by
  unfold putAsk
  split
  · rw [Rows.get_set h1 hg]; split <;> simp [*]
  · rw [Rows.get_set h1 hg]; split <;> simp [*]
  · rw [Rows.get_set h2 hg]; split <;> simp [*]
  · exact ⟨rfl, rfl⟩
theorem putCut_lays {r : Rows} {c : Cl} {g : Nat} (hg : g < 2) (h1 : grp c.name < 2) : ((putCut r c).get g).lays = (r.get g).lays := by
  unfold putCut
  split
  · rw [Rows.get_set h1 hg]; split <;> simp [*]
  · rfl
local macro_rules | `(tactic| walk_at "assign Tuple") => `(tactic| (refine hold ?_))
local macro_rules | `(tactic| walk_at "subscriptTail Name Call ref str") => `(tactic| (refine hold ?_))
set_option maxHeartbeats 1000000 in
theorem put_spec {ra : RAd} {r0 : Rows} {cv : Value} {c : Cl} {ta na : Addr} {thn now : List Nat} {h₀ : Heap} (r : Room A 9) (G : Gr w mg mb h₀) (kk : h₀.StaysIn s.heap) (h0 : ∀ a ∈ ra.lists, h₀.get? a = none)
    (hr : RowsIs w.params s.heap ra r0) (hs : Small r0) (hc : CallV s.heap cv c) (hgd : Good c) (ht : TextsIs s.heap ta thn) (htn : ta ∉ ra.lists) (hw : TextsIs s.heap na now) (hnn : na ∉ ra.lists)
    (ret : ∀ h' tk, But ra.lists s.heap h' → RowsIs w.params h' ra (putP r0 c thn now) → Q .none { s with heap := h', toks := tk }) :
    wpAny (model prog w) A (call (.ref 262) [.ref ra.d, cv, .ref ta, .ref na]) Q E s := by
  obtain ⟨hnd, dpA, frA, gdA, unA⟩ := A; obtain rfl : hnd = none := r.handled
  refine gl_in fun gGl hGl => ?_
  obtain ⟨ca, t1, t2, t3, t4, t5, t6, t7, rfl, hct⟩ := hc
  refine hGl ?_
  clear hGl gGl
  have hg : grp c.name < 2 := by have := hgd.name; unfold grp; omega
  have hg2 : grp c.other < 2 := by have := hgd.other; unfold grp; omega
  have hL : Lists ra.lists s.heap := hr.lists
  have tb := TupS.hide hL
  have hW := h0
  refine wpAny_call ?_
  refine' enter (binds := [(Str.ofString "rows", .ref ra.d), (Str.ofString "call", .ref ca), (Str.ofString "then", .ref ta), (Str.ofString "now", .ref na)]) ra.lists ?e2G ?e2kS ?e2kW ?e2k1 ?e2k2 ?e2kr ?e2k4 ?e2k5 ?e2kk ?e2c1 ?e2c2 ?e2c3 ?e2c4
  case e2G => assumption
  case e2kS => assumption
  case e2kW => assumption
  case e2k1 => k_is
  case e2k2 => k_is
  case e2kr => exact Room.dl (by assumption)
  case e2k4 => exact BindsTo.of_eq rfl
  case e2k5 => exact locs rfl
  case e2c1 => exact rfl
  case e2c2 => exact rfl
  case e2c3 => exact rfl
  case e2c4 => decide
  intro L h₁ F X T stW lt
  (try dsimp only)
  have hct' := tb _ _ hct
  have hK : ∀ i, i < 2 → IsTup (hideAll s.heap ra.lists) (ra.get i).t [.ref (ra.get i).c, .ref (ra.get i).l, .ref (ra.get i).f, .ref (ra.get i).q].toArray := fun i hi => tb _ _ (hr.kept i hi).tup
  have hKn := hK _ hg
  have hD : RowDict w.params (hideAll s.heap ra.lists) ra := by
    refine gl_in fun gGl hGl => ?_
    obtain ⟨d1, d2, dn, de⟩ := hr.dict
    refine hGl ?_
    clear hGl gGl
    exact ⟨d1, d2, dn, hideAll_get _ de fun q => by obtain ⟨o, ho, hc⟩ := hL _ q; rw [de] at ho; cases ho; simp at hc⟩
  have hg0 : ∀ a ∈ ra.lists, (hideAll s.heap ra.lists).get? a = none := fun a ha => hideAll_none _ ha
  have hlow : L ∉ ra.lists := fun q => let ⟨o, ho, _⟩ := hL _ q; Nat.lt_irrefl _ (lt _ _ ho)
  have rdL : ra.d ≠ L := fun q => by obtain ⟨_, _, _, e⟩ := hr.dict; exact Nat.lt_irrefl _ (q ▸ lt _ _ e)
  refine gl_in fun gGl hGl => ?_
  obtain ⟨rest, N, nx, sup, -⟩ := snapshot F []
  refine hGl ?_
  clear hGl gGl
  have qf := quiet_frame F rdL
  k_steps
  dsimp only [Hold]
  refine' unpackN_ ?u1k1 ?u1k2 ?u1k3 ?u1k4 ?u1k5 ?u1k6 ?_
  (case u1k1 => k_asm)
  (case u1k2 => k_asm)
  (case u1k3 => exact Fr.tup (by k_asm) (by with_reducible assumption))
  (case u1k4 => exact rfl)
  (case u1k5 => exact rfl)
  (case u1k6 => exact rfl)
  intro h' F' N'
  (try k_sweep)
  k_steps
  rename Fr _ _ _ _ => F1
  dsimp only [Hold]
  refine rows_item F1 hD rfl ?_
  intro _
  k_steps
  dsimp only [Hold]
  refine' unpackN_ ?u2k1 ?u2k2 ?u2k3 ?u2k4 ?u2k5 ?u2k6 ?_
  (case u2k1 => k_asm)
  (case u2k2 => k_asm)
  (case u2k3 => exact Fr.tup (by k_asm) (by with_reducible assumption))
  (case u2k4 => exact rfl)
  (case u2k5 => exact rfl)
  (case u2k6 => exact rfl)
  intro h' F' N'
  (try k_sweep)
  k_steps
  rename Fr _ _ _ _ => F1
  rename News _ _ _ _ => N1
  have R1 := (hr.quiet Quiet.nil (But.nil stW)).quiet qf (sup _ F1.keep fun p hp => (N1 p (.tail _ (.tail _ (.tail _ hp)))).1)
  have S1 : PutSt w.params ra c _ _ ta na thn now _ r0 := ⟨R1, kplc _ _ c 0 _ _ _ (N1.isTup (.tail _ (.tail _ (.head _)))), kplc _ _ c 1 _ _ _ (N1.isTup (.tail _ (.head _))), let ⟨vs, n, e, x⟩ := ht; ⟨vs, n, F1.keep _ _ (hideAll_get _ e htn), x⟩, let ⟨vs, n, e, x⟩ := hw; ⟨vs, n, F1.keep _ _ (hideAll_get _ e hnn), x⟩, htn, hnn⟩
  clear N1 R1
  dsimp only [Hold]
  refine wpAny_execs_cons ?_
  refine put_ask (by k_is) (r.less (by decide)) ⟨X, T⟩ F1 ⟨rfl, rfl, rfl, rfl, rfl, rfl, rfl, rfl, rfl, rfl, rfl, rfl⟩ hg0 hD hK hlow hgd S1 hs ?_
  intro h2 tk2 F2 S2
  dsimp only
  refine wpAny_execs_cons ?_
  refine put_cut (by k_is) (r.less (by decide)) ⟨X, T⟩ F2 ⟨rfl, rfl, rfl, rfl, rfl, rfl, rfl, rfl, rfl, rfl, rfl, rfl⟩ hg0 rdL hlow hgd S2 (by rw [(putAsk_cuts hg hg hg2).1]; exact (hs _ hg).1) ?_
  intro h3 tk3 F3 S3
  dsimp only
  refine wpAny_execs_cons ?_
  refine put_lay (by k_is) (r.less (by decide)) ⟨X, T⟩ F3 ⟨rfl, rfl, rfl, rfl, rfl, rfl, rfl, rfl, rfl, rfl, rfl, rfl⟩ hg0 rdL hlow hgd S3 hD (by rw [putCut_lays hg hg, (putAsk_cuts hg hg hg2).2]; exact (hs _ hg).2.1) ?_
  intro h4 tk4 m4 F4 R4
  dsimp only
  k_steps
  exact ret _ _ (But.of_fr F4) R4
end
end
section
noncomputable def Asc : Nat → List Nat → Prop
  | _, [] => True
  | a, b :: l => a < b ∧ Asc b l
theorem Asc.pw {a : Nat} {l : List Nat} (h : Asc a l) : (a :: l).Pairwise fun a b => a < b := by
  induction l generalizing a with
  | nil => exact List.pairwise_singleton _ _
  | cons b l ih =>
    have p := ih h.2
    exact List.pairwise_cons.mpr ⟨List.forall_mem_cons.mpr ⟨h.1, fun x hx => Nat.lt_trans h.1 ((List.pairwise_cons.mp p).1 x hx)⟩, p⟩
theorem law_start {prog : Program} {w : World} {g h : Heap} {L d c1 l1 f1 q1 c2 l2 f2 q2 lg td it D1 D2 Dt : Addr} {o ot : Obj} {m : Str → Option Value} {n1 n2 n3 a1 a2 a3 a4 b1 b2 b3 b4 u1 u2 : Nat} {s1 s2 : Array (Option Value)} {x1 x2 : Option Addr} {rest : List (Addr × Obj)}
    (N : News g L h ((Dt, ot) :: (it, listOf #[] n1) :: (td, listOf #[] n2) :: (lg, listOf #[] n3) :: (D1, ⟨.type "tuple", x1, .seq #[.ref c2, .ref l2, .ref f2, .ref q2] u1, s1⟩) :: (q2, listOf #[] b4) :: (f2, listOf #[] b3) :: (l2, listOf #[] b2) :: (c2, listOf #[] b1) ::
      (D2, ⟨.type "tuple", x2, .seq #[.ref c1, .ref l1, .ref f1, .ref q1] u2, s2⟩) :: (q1, listOf #[] a4) :: (f1, listOf #[] a3) :: (l1, listOf #[] a2) :: (c1, listOf #[] a1) :: (d, o) :: rest))
    (F : Fr g L h (fun y => if y = Str.ofString "log" then some (.ref lg) else if y = Str.ofString "told" then some (.ref td) else if y = Str.ofString "items" then some (.ref it) else if y = Str.ofString "rows" then some (.ref d) else m y))
    (ho : o.IsDictOf (strKind prog w) [(Str.ofString "a", .ref D2), (Str.ofString "b", .ref D1)]) (lo : (d == sysModules) = false)
    (od : @LT.lt Nat _ c1 l1 ∧ @LT.lt Nat _ l1 f1 ∧ @LT.lt Nat _ f1 q1 ∧ @LT.lt Nat _ q1 c2 ∧ @LT.lt Nat _ c2 l2 ∧ @LT.lt Nat _ l2 f2 ∧ @LT.lt Nat _ f2 q2 ∧ @LT.lt Nat _ q2 lg ∧ @LT.lt Nat _ lg td ∧ @LT.lt Nat _ td it) :
    ∃ ra : RAd, ∃ lg td it : Addr, Fr g L h (fun y => if y = Str.ofString "log" then some (.ref lg) else if y = Str.ofString "told" then some (.ref td) else if y = Str.ofString "items" then some (.ref it) else if y = Str.ofString "rows" then some (.ref ra.d) else m y) ∧
      LawH w.params h ra lg td it st0 ∧ (ra.d == sysModules) = false ∧ ra.d ≠ L ∧ (∀ a ∈ ra.lists, g.get? a = none ∧ a ≠ L) ∧ g.get? td = none ∧ td ≠ L := by
  refine gl_in fun gGl hGl => ?_
  obtain ⟨o1, o2, o3, o4, o5, o6, o7, o8, o9, o10⟩ := od
  have nIt := N (it, listOf #[] n1) (.tail _ (.head _))
  have nTd := N (td, listOf #[] n2) (.tail _ (.tail _ (.head _)))
  have nLg := N (lg, listOf #[] n3) (.tail _ (.tail _ (.tail _ (.head _))))
  have nD1 := N (D1, _) (.tail _ (.tail _ (.tail _ (.tail _ (.head _)))))
  have nq2 := N (q2, listOf #[] b4) (.tail _ (.tail _ (.tail _ (.tail _ (.tail _ (.head _))))))
  have nf2 := N (f2, listOf #[] b3) (.tail _ (.tail _ (.tail _ (.tail _ (.tail _ (.tail _ (.head _)))))))
  have nl2 := N (l2, listOf #[] b2) (.tail _ (.tail _ (.tail _ (.tail _ (.tail _ (.tail _ (.tail _ (.head _))))))))
  have nc2 := N (c2, listOf #[] b1) (.tail _ (.tail _ (.tail _ (.tail _ (.tail _ (.tail _ (.tail _ (.tail _ (.head _)))))))))
  have nD2 := N (D2, _) (.tail _ (.tail _ (.tail _ (.tail _ (.tail _ (.tail _ (.tail _ (.tail _ (.tail _ (.head _))))))))))
  have nq1 := N (q1, listOf #[] a4) (.tail _ (.tail _ (.tail _ (.tail _ (.tail _ (.tail _ (.tail _ (.tail _ (.tail _ (.tail _ (.head _)))))))))))
  have nf1 := N (f1, listOf #[] a3) (.tail _ (.tail _ (.tail _ (.tail _ (.tail _ (.tail _ (.tail _ (.tail _ (.tail _ (.tail _ (.tail _ (.head _))))))))))))
  have nl1 := N (l1, listOf #[] a2) (.tail _ (.tail _ (.tail _ (.tail _ (.tail _ (.tail _ (.tail _ (.tail _ (.tail _ (.tail _ (.tail _ (.tail _ (.head _)))))))))))))
  have nc1 := N (c1, listOf #[] a1) (.tail _ (.tail _ (.tail _ (.tail _ (.tail _ (.tail _ (.tail _ (.tail _ (.tail _ (.tail _ (.tail _ (.tail _ (.tail _ (.head _))))))))))))))
  have nd := N (d, o) (.tail _ (.tail _ (.tail _ (.tail _ (.tail _ (.tail _ (.tail _ (.tail _ (.tail _ (.tail _ (.tail _ (.tail _ (.tail _ (.tail _ (.head _)))))))))))))))
  have P : List.Pairwise (fun a b : Nat => a < b) ([c1, l1, f1, q1, c2, l2, f2, q2] ++ [lg, td, it]) :=
    Asc.pw (a := c1) (l := [l1, f1, q1, c2, l2, f2, q2, lg, td, it]) ⟨o1, o2, o3, o4, o5, o6, o7, o8, o9, o10, trivial⟩
  obtain ⟨p8, _, pc⟩ := List.pairwise_append.mp P
  refine hGl ?_
  clear hGl gGl
  refine ⟨⟨d, ⟨D2, c1, l1, f1, q1⟩, ⟨D1, c2, l2, f2, q2⟩⟩, lg, td, it, F, ⟨⟨rowdict_of nd.1 ho, fun gg hg => ?_, ?_⟩, ⟨[], n3, nLg.1, .nil⟩, ⟨[], n2, nTd.1, .nil⟩, ⟨[], n1, nIt.1, .nil, by simp⟩, ?_⟩, lo, nd.2.1, fun a ha => ?_, nTd.2.2, nTd.2.1⟩
  · have e : gg = 0 ∨ gg = 1 := by omega
    rcases e with rfl | rfl
    · exact ⟨⟨_, nD2.1, rfl, _, rfl⟩, ⟨[], a1, nc1.1, .nil, by simp⟩, ⟨[], a2, nl1.1, .nil, by simp⟩, ⟨[], a3, nf1.1, .nil, by simp⟩, ⟨[], a4, nq1.1, .nil, by simp⟩⟩
    · exact ⟨⟨_, nD1.1, rfl, _, rfl⟩, ⟨[], b1, nc2.1, .nil, by simp⟩, ⟨[], b2, nl2.1, .nil, by simp⟩, ⟨[], b3, nf2.1, .nil, by simp⟩, ⟨[], b4, nq2.1, .nil, by simp⟩⟩
  · exact p8.imp Nat.ne_of_lt
  · exact ⟨fun z => absurd (pc _ z _ (by simp)) (Nat.lt_irrefl _), fun z => absurd (pc _ z _ (by simp)) (Nat.lt_irrefl _), fun z => absurd (pc _ z _ (by simp)) (Nat.lt_irrefl _), Nat.ne_of_lt o9, Nat.ne_of_gt o10⟩
  · replace ha : a ∈ [c1, l1, f1, q1, c2, l2, f2, q2] := ha
    simp only [List.mem_cons, List.not_mem_nil, or_false] at ha
    rcases ha with rfl | rfl | rfl | rfl | rfl | rfl | rfl | rfl
    · exact ⟨nc1.2.2, nc1.2.1⟩
    · exact ⟨nl1.2.2, nl1.2.1⟩
    · exact ⟨nf1.2.2, nf1.2.1⟩
    · exact ⟨nq1.2.2, nq1.2.1⟩
    · exact ⟨nc2.2.2, nc2.2.1⟩
    · exact ⟨nl2.2.2, nl2.2.1⟩
    · exact ⟨nf2.2.2, nf2.2.1⟩
    · exact ⟨nq2.2.2, nq2.2.1⟩
/-- the state of law's loop: what its frame names and what stands -/
noncomputable def LawJ (w : World) (g : Heap) (L I : Addr) (ra : RAd) (td : Addr) (cs : List Cl) (C : Addr) (ws : List Value) (nC : Nat) (i : Nat) (m : Str → Option Value) (nx : List (Addr × Obj)) : Prop :=
  ∃ lg it st h0 oc cv rest, m (Str.ofString "rows") = some (.ref ra.d) ∧ m (Str.ofString "log") = some (.ref lg) ∧ m (Str.ofString "told") = some (.ref td) ∧ m (Str.ofString "items") = some (.ref it) ∧
    loopP st0 (cs.take i) = some st ∧ Inv i st ∧ LawH w.params h0 ra lg td it st ∧ h0.get? C = some (listOf (List.toArray ws) nC) ∧ All2 (CallV h0) ws cs ∧ Quiet h0 [L, L + 1, I] ra.d ∧
    nx = (L + 1, oc) :: rest ∧ oc.data = .cell cv ∧ (∀ p ∈ rest, p.1 ≠ L + 1 ∧ p.1 ≠ I) ∧ (∀ h2, g.StaysIn h2 → Holds rest h2 → But [L, L + 1, I] h0 h2) ∧ ∀ a, a ∈ ra.lists ∨ a = td → ∃ o, (a, o) ∈ rest
theorem LawJ.elim {w : World} {g : Heap} {L I : Addr} {ra : RAd} {td : Addr} {cs : List Cl} {C : Addr} {ws : List Value} {nC i : Nat} {m : Str → Option Value} {nx : List (Addr × Obj)} {G : Prop} (x : LawJ w g L I ra td cs C ws nC i m nx)
    (k : ∀ lg it st h0 oc cv rest, m (Str.ofString "rows") = some (.ref ra.d) → m (Str.ofString "log") = some (.ref lg) → m (Str.ofString "told") = some (.ref td) → m (Str.ofString "items") = some (.ref it) →
    loopP st0 (cs.take i) = some st → Inv i st → LawH w.params h0 ra lg td it st → h0.get? C = some (listOf (List.toArray ws) nC) → All2 (CallV h0) ws cs → Quiet h0 [L, L + 1, I] ra.d →
    nx = (L + 1, oc) :: rest → oc.data = .cell cv → (∀ p ∈ rest, p.1 ≠ L + 1 ∧ p.1 ≠ I) → (∀ h2, g.StaysIn h2 → Holds rest h2 → But [L, L + 1, I] h0 h2) → (∀ a, a ∈ ra.lists ∨ a = td → ∃ o, (a, o) ∈ rest) → G) : G := by
  refine gl_in fun gGl hGl => ?_
  obtain ⟨lg, it, st, h0, oc, cv, rest, a1, a2, a3, a4, a5, a6, a7, a8, a9, a10, a11, a12, a13, a14, a15⟩ := x
  refine hGl ?_
  clear hGl gGl
  exact k lg it st h0 oc cv rest a1 a2 a3 a4 a5 a6 a7 a8 a9 a10 a11 a12 a13 a14 a15
theorem Quiet.notList {h : Heap} {W : List Addr} {d a : Addr} {xs : Array Value} {n : Nat} (q : Quiet h W d) (e : h.get? a = some (listOf xs n)) : a ∉ W := fun m => by
  rcases (q a m).2 _ e with z | z
  · exact z.2 rfl
  · exact z xs n rfl
theorem LawH.inRest {P : Params} {g h : Heap} {ra : RAd} {lg td it : Addr} {st : St} {W : List Addr} {rest : List (Addr × Obj)} (x : LawH P h ra lg td it st) (q : Quiet h W ra.d) (rg : ∀ a ∈ ra.lists, g.get? a = none) (tg : g.get? td = none) (all : ∀ b o, b ∉ W → h.get? b = some o → g.get? b = none → (b, o) ∈ rest) : ∀ a, a ∈ ra.lists ∨ a = td → ∃ o, (a, o) ∈ rest := fun a ha => by
  rcases ha with ha | rfl
  · have hk : ∃ vs n, h.get? a = some (listOf (List.toArray vs) n) := by
      have hg : ∀ gg, gg < 2 → a ∈ (ra.get gg).lists → ∃ vs n, h.get? a = some (listOf (List.toArray vs) n) := fun gg hgg m => by
        have k := x.rows.kept gg hgg
        simp only [KAd.lists, List.mem_cons, List.not_mem_nil, or_false] at m
        rcases m with rfl | rfl | rfl | rfl
        · obtain ⟨vs, n, e, _⟩ := k.cuts; exact ⟨vs, n, e⟩
        · obtain ⟨vs, n, e, _⟩ := k.lays; exact ⟨vs, n, e⟩
        · obtain ⟨vs, n, e, _⟩ := k.firsts; exact ⟨vs, n, e⟩
        · obtain ⟨vs, n, e, _⟩ := k.alls; exact ⟨vs, n, e⟩
      rcases List.mem_append.mp ha with m | m
      · exact hg 0 (by omega) m
      · exact hg 1 (by omega) m
    refine gl_in fun gGl hGl => ?_
    obtain ⟨vs, n, e⟩ := hk
    refine hGl ?_
    clear hGl gGl
    exact ⟨_, all a _ (q.notList e) e (rg a ha)⟩
  · obtain ⟨vs, n, e, _⟩ := x.told
    exact ⟨_, all _ _ (q.notList e) e tg⟩
theorem quiet_of {P : Params} {g h : Heap} {L I : Addr} {m : Str → Option Value} {ra : RAd} {r : Rows} {oc oI : Obj} {cv : Option Value} (F : Fr g L h m) (hr : RowsIs P h ra r) (rdL : ra.d ≠ L) (hc : h.get? (L + 1) = some oc) (hd : oc.data = .cell cv) (hI : h.get? I = some oI) (hcI : oI.cls = .type "list_iterator") : Quiet h [L, L + 1, I] ra.d := fun a ha => by
  refine gl_in fun gGl hGl => ?_
  obtain ⟨t1, t2, nd, hrd⟩ := hr.dict
  refine hGl ?_
  clear hGl gGl
  simp only [List.mem_cons, List.not_mem_nil, or_false] at ha
  rcases ha with rfl | rfl | rfl
  · refine ⟨rdL.symm, fun o ho => .inr fun xs nn e => ?_⟩
    refine gl_in fun gGl hGl => ?_
    obtain ⟨oL, es, ep, hLo, hd, _⟩ := F.ns
    refine hGl ?_
    clear hGl gGl
    rw [ho] at hLo; cases hLo
    rw [hd] at e; cases e
  · refine ⟨fun e => ?_, fun o ho => .inr fun xs nn e => ?_⟩
    · rw [show L + 1 = ra.d from e, hrd] at hc
      cases hc; cases hd
    · rw [ho] at hc; cases hc
      rw [hd] at e; cases e
  · refine ⟨fun e => ?_, fun o ho => .inl ?_⟩
    · rw [e, hrd] at hI
      rw [← Option.some.inj hI] at hcI
      exact absurd hcI (by simp [dictOf])
    · rw [ho] at hI; cases hI
      rw [hcI]; simp
theorem callsFrom_get : ∀ (n : Nat) (xs : List Int) (i : Nat) (c : Cl), (callsFrom n xs)[i]? = some c → ∃ x, c = callOf x (n + i)
  | n, [], i, c, h => by cases i <;> cases h
  | n, x :: xs, 0, c, h => ⟨x, by simpa [callsFrom] using h.symm⟩
  | n, x :: xs, i + 1, c, h => by
    obtain ⟨y, e⟩ := callsFrom_get (n + 1) xs i c (by simpa [callsFrom] using h)
    exact ⟨y, by rw [e, show n + 1 + i = n + (i + 1) by omega]⟩
theorem CallV.hourKey {h : Heap} {v : Value} {c : Cl} (x : CallV h v c) : ItemKey h false true v [c.hour] := by
  refine gl_in fun gGl hGl => ?_
  obtain ⟨a, t1, t2, t3, t4, t5, t6, t7, e, ht⟩ := x
  refine hGl ?_
  clear hGl gGl
  exact ⟨a, _, _, e, ht, _, _, rfl, rfl⟩
theorem hours_keys {h : Heap} {vs : List Value} {cs : List Cl} (x : All2 (CallV h) vs cs) : All2 (ItemKey h false true) vs (hours cs) := x.map _ fun _ _ z => z.hourKey
/-- what the first half of a turn gives: a turn passed over, or the log on trial and the call that it is about -/
noncomputable def TrialQ (s : Shared) (g : Heap) (L I ca : Addr) (oI oc : Obj) (rest : List (Addr × Obj)) (m : Str → Option Value) (c : Cl) (st st' : St) (f : Flow) (s' : Shared) : Prop :=
  ∃ h' tk m', s' = { s with heap := h', toks := tk } ∧ Fr g L h' m' ∧ (∀ x ∈ [Str.ofString "rows", Str.ofString "log", Str.ofString "told", Str.ofString "items"], m' x = m x) ∧
    ((f = .cont ∧ st' = st ∧ News g L h' ((I, oI) :: (L + 1, oc) :: rest)) ∨
     (f = .next ∧ ∃ D aa nD tv about tr, m' (Str.ofString "call") = some (.ref ca) ∧ m' (Str.ofString "trial") = some (.ref D) ∧ m' (Str.ofString "about") = some (.ref aa) ∧ m' (Str.ofString "back") = some (.bool ((c.deed : Int) == 6)) ∧
       News g L h' ((D, listOf (List.toArray tv) nD) :: (I, oI) :: (L + 1, oc) :: rest) ∧ All2 (CallV h') tv tr ∧ CallV h' (.ref aa) about ∧ rest_eq c st st' about tr ∧ (D ≠ I ∧ D ≠ L + 1 ∧ ∀ p ∈ rest, p.1 ≠ D)))
where rest_eq (c : Cl) (st st' : St) (about : Cl) (tr : List Cl) : Prop := Mine.rest st c about tr = some st' ∧ (∀ x ∈ tr, Good x ∧ x.deed < 6) ∧ (tr.map (·.turn)).Nodup ∧ tr.length < 100 ∧ Good about ∧ about.deed < 6 ∧ (c.deed = 6 → about.deed ≤ 2) ∧ (c.deed ≠ 6 → about = c)
theorem TrialQ.elim {s s' : Shared} {g : Heap} {L I ca : Addr} {oI oc : Obj} {rest : List (Addr × Obj)} {m : Str → Option Value} {c : Cl} {st st' : St} {f : Flow} {G : Prop} (x : TrialQ s g L I ca oI oc rest m c st st' f s')
    (k1 : ∀ h' tk m', s' = { s with heap := h', toks := tk } → Fr g L h' m' → (∀ x ∈ [Str.ofString "rows", Str.ofString "log", Str.ofString "told", Str.ofString "items"], m' x = m x) → f = .cont → st' = st → News g L h' ((I, oI) :: (L + 1, oc) :: rest) → G)
    (k2 : ∀ h' tk m' D aa nD tv about tr, s' = { s with heap := h', toks := tk } → Fr g L h' m' → (∀ x ∈ [Str.ofString "rows", Str.ofString "log", Str.ofString "told", Str.ofString "items"], m' x = m x) → f = .next → m' (Str.ofString "call") = some (.ref ca) → m' (Str.ofString "trial") = some (.ref D) → m' (Str.ofString "about") = some (.ref aa) → m' (Str.ofString "back") = some (.bool ((c.deed : Int) == 6)) →
       News g L h' ((D, listOf (List.toArray tv) nD) :: (I, oI) :: (L + 1, oc) :: rest) → All2 (CallV h') tv tr → CallV h' (.ref aa) about → Mine.rest st c about tr = some st' → (∀ x ∈ tr, Good x ∧ x.deed < 6) → (tr.map (·.turn)).Nodup → tr.length < 100 → Good about → about.deed < 6 → (c.deed = 6 → about.deed ≤ 2) → (c.deed ≠ 6 → about = c) → (D ≠ I ∧ D ≠ L + 1 ∧ ∀ p ∈ rest, p.1 ≠ D) → G) : G := by
  obtain ⟨h', tk, m', e, F, hm, z | z⟩ := x
  · obtain ⟨e1, e2, N⟩ := z; exact k1 h' tk m' e F hm e1 e2 N
  · obtain ⟨e1, D, aa, nD, tv, ab, tr, a1, a2, a3, a4, a5, a6, a7, ⟨b1, b2, b3, b4, b5, b6, b7, b8⟩, a9⟩ := z
    exact k2 h' tk m' D aa nD tv ab tr e F hm e1 a1 a2 a3 a4 a5 a6 a7 b1 b2 b3 b4 b5 b6 b7 b8 a9
theorem cut_val : ∀ {l : List Value} {k : Nat} {x : Value}, l[k]? = some x → ∃ p q, kl_cut l k = some (p, x, q) ∧ p ++ q = l.eraseIdx k
  | [], k, x, h => by simp at h
  | v :: r, 0, x, h => ⟨[], r, by simp at h; subst h; rfl, rfl⟩
  | v :: r, k + 1, x, h => by
    refine gl_in fun gGl hGl => ?_
    obtain ⟨p, q, e1, e2⟩ := cut_val (l := r) (k := k) (x := x) (by simpa using h)
    refine hGl ?_
    clear hGl gGl
    exact ⟨v :: p, q, by simp [kl_cut, e1], by simp [e2]⟩
theorem pop_val {prog : Program} {w : World} {A : Around} {E : Value → Shared → Prop} {s : Shared} {h₀ : Heap} {L D : Addr} {m : Str → Option Value} {news news' : List (Addr × Obj)} {n k : Nat} {vs : List Value} {i : Int} {x : Value} {u : Tok} {Q : Value → Shared → Prop} (F : Fr h₀ L s.heap m) (N : News h₀ L s.heap news) (hi : i = (k : Nat)) (hx : vs[k]? = some x) (hl : vs.length < 2 ^ 20)
    (U : Upd D (listOf vs.toArray n) (listOf (vs.eraseIdx k).toArray (n + 1)) news news') (h : ∀ h', Fr h₀ L h' m → News h₀ L h' news' → Q x { s with heap := h' }) :
    wpAny (model prog w) A (call (.builtin "list.pop") [.ref D, .int i u]) Q E s := by
  subst hi
  have hk : k < vs.length := (List.getElem?_eq_some_iff.mp hx).1
  refine gl_in fun gGl hGl => ?_
  obtain ⟨p, q, e1, e2⟩ := cut_val hx
  refine hGl ?_
  clear hGl gGl
  rw [← e2] at U
  exact kl_popAt (k := k) F N (fits_nat (by omega)) (seqIndex_of (by omega) (by rw [List.size_toArray]; omega) |>.trans (by rw [Int.toNat_natCast])) e1 U (line_of hl) (fun h' F' N' => h h' F' N')
theorem laysA_len : ∀ (S : List Cl) (hs : List Lay), (laysA hs S).length ≤ S.length
  | [], _ => Nat.le_refl _
  | c :: S, hs => by
    rw [laysA, List.length_append, List.length_cons]
    have h1 := laysA_len S (stepL hs c)
    have h2 := layT_len (T := tg hs) (c := c)
    unfold layOf
    rw [List.length_map]
    omega
theorem small_of {i : Nat} {st : St} (h : Inv i st) (hi : i < 100) : Small st.rows := fun g hg => by
  rw [h.rows, rowsOf_get hg]
  have hl := h.len
  have f : ∀ {p : Cl → Bool}, (st.log.filter p).length ≤ st.log.length := List.length_filter_le _ _
  unfold keptOf cutsOf asksOf laysOf
  dsimp only
  rw [List.length_map, List.length_map, List.length_map]
  have f1 := @f (fun c => isCut c && grp c.name == g)
  have f2 := @f (rdF g)
  have f3 := @f (rdA g)
  have f4 := List.length_filter_le (fun l : Lay => grp l.name == g) (laysA [] st.log)
  have f5 := laysA_len st.log []
  omega
theorem log_good {i : Nat} {st : St} (h : Inv i st) (hi : i < 14) : ∀ x ∈ st.log, Good x ∧ x.deed < 6 := fun x hx => by
  have b := h.bnd x hx
  exact ⟨⟨b.2.2.2.1, b.2.2.2.2, by omega, by omega⟩, b.2.2.1⟩
theorem trial_put {i k : Nat} {st : St} {c : Cl} (h : Inv i st) (hi : i < 14) (ho : CallOk i c) (hg : Good c) (h6 : c.deed < 6) : (∀ x ∈ Mine.insAt st.log k c, Good x ∧ x.deed < 6) ∧ ((Mine.insAt st.log k c).map (·.turn)).Nodup ∧ (Mine.insAt st.log k c).length < 100 := by
  have lg := log_good h hi
  unfold Mine.insAt
  refine ⟨fun x hx => ?_, ?_, ?_⟩
  · rcases List.mem_append.mp hx with hx | hx
    · exact lg x (List.mem_of_mem_take hx)
    · rcases List.mem_cons.mp hx with rfl | hx
      · exact ⟨hg, h6⟩
      · exact lg x (List.mem_of_mem_drop hx)
  · have hn := h.nd
    rw [← List.take_append_drop k st.log, List.map_append] at hn
    refine gl_in fun gGl hGl => ?_
    obtain ⟨n1, n2, n3⟩ := List.nodup_append.mp hn
    refine hGl ?_
    clear hGl gGl
    rw [List.map_append, List.map_cons]
    have nc : ∀ d ∈ st.log, d.turn ≠ c.turn := fun d hd e => by have := (h.bnd d hd).1; rw [e, ho.turn] at this; omega
    refine List.nodup_append.mpr ⟨n1, List.nodup_cons.mpr ⟨fun q => ?_, n2⟩, fun a ha b hb => ?_⟩
    · obtain ⟨d, hd, e⟩ := List.mem_map.mp q
      exact nc d (List.mem_of_mem_drop hd) e
    · rcases List.mem_cons.mp hb with rfl | hb
      · obtain ⟨d, hd, e⟩ := List.mem_map.mp ha
        exact fun q => nc d (List.mem_of_mem_take hd) (e.trans q)
      · exact n3 a ha b hb
  · have := h.len
    rw [List.length_append, List.length_cons, List.length_take, List.length_drop]
    omega
theorem trial_take {i k : Nat} {st : St} (h : Inv i st) (hi : i < 14) : (∀ x ∈ st.log.eraseIdx k, Good x ∧ x.deed < 6) ∧ ((st.log.eraseIdx k).map (·.turn)).Nodup ∧ (st.log.eraseIdx k).length < 100 := by
  have lg := log_good h hi
  have hs := List.eraseIdx_sublist st.log k
  refine ⟨fun x hx => lg x (hs.subset hx), List.Nodup.sublist (hs.map _) h.nd, ?_⟩
  have := h.len
  have := hs.length_le
  omega
theorem trialQ_put {s : Shared} {g h9 h10 : Heap} {L I ca D D' : Addr} {oI oc o' : Obj} {rest : List (Addr × Obj)} {m m' : Str → Option Value} {c : Cl} {st st' : St} {lv : List Value} {nD n tk k : Nat}
    (F10 : Fr g L h10 m') (b10 : But [D] h9 h10) (e10 : h10.get? D = some (listOf (Mine.insAt lv k (.ref ca)).toArray n)) (N9 : News g L h9 ((D', o') :: (D, listOf lv.toArray nD) :: (I, oI) :: (L + 1, oc) :: rest)) (qD : D ≠ I ∧ D ≠ L + 1 ∧ ∀ p ∈ rest, p.1 ≠ D)
    (hlx : All2 (CallV h9) lv st.log) (hcv : CallV h9 (.ref ca) c) (hr : Mine.rest st c c (Mine.insAt st.log k c) = some st') (tp : (∀ x ∈ Mine.insAt st.log k c, Good x ∧ x.deed < 6) ∧ ((Mine.insAt st.log k c).map (·.turn)).Nodup ∧ (Mine.insAt st.log k c).length < 100) (hg : Good c) (h6 : c.deed < 6)
    (hm : ∀ x ∈ [Str.ofString "rows", Str.ofString "log", Str.ofString "told", Str.ofString "items"], m' x = m x) (r1 : m' (Str.ofString "call") = some (.ref ca)) (r2 : m' (Str.ofString "trial") = some (.ref D)) (r3 : m' (Str.ofString "about") = some (.ref ca)) (r4 : m' (Str.ofString "back") = some (.bool ((c.deed : Int) == 6))) :
    TrialQ s g L I ca oI oc rest m c st st' .next { s with heap := h10, toks := tk } := by
  have hD9 := N9 (D, _) (.tail _ (.head _))
  have t : TupS h9 h10 := TupS.one hD9.1 (fun _ _ _ => by simp) b10
  refine ⟨h10, tk, m', rfl, F10, hm, .inr ⟨rfl, D, ca, n, _, c, _, r1, r2, r3, r4, fun p hp => ?_, All2.insAt (hlx.imp fun _ _ z => z.keeps t) k (hcv.keeps t), hcv.keeps t, ⟨hr, tp.1, tp.2.1, tp.2.2, hg, h6, fun e => by omega, fun _ => rfl⟩, qD⟩⟩
  rcases List.mem_cons.mp hp with rfl | hp
  · exact ⟨e10, hD9.2⟩
  have hp' := N9 p (.tail _ (.tail _ hp))
  refine ⟨b10 _ _ (fun q => ?_) hp'.1, hp'.2⟩
  have q := List.mem_singleton.mp q
  rcases List.mem_cons.mp hp with rfl | hp
  · exact qD.1 q.symm
  rcases List.mem_cons.mp hp with rfl | hp
  · exact qD.2.1 q.symm
  · exact qD.2.2 p hp q
theorem trialQ_cont {s : Shared} {g h : Heap} {L I ca : Addr} {oI oc : Obj} {rest : List (Addr × Obj)} {news : List (Addr × Obj)} {m m' : Str → Option Value} {c : Cl} {st st' : St} {tk : Nat}
    (F : Fr g L h m') (N : News g L h (news ++ (I, oI) :: (L + 1, oc) :: rest)) (e : st' = st) (hm : ∀ x ∈ [Str.ofString "rows", Str.ofString "log", Str.ofString "told", Str.ofString "items"], m' x = m x) :
    TrialQ s g L I ca oI oc rest m c st st' .cont { s with heap := h, toks := tk } :=
  ⟨h, tk, m', rfl, F, hm, .inl ⟨rfl, e, fun p hp => N p (List.mem_append_right _ hp)⟩⟩
theorem trialQ_take {s : Shared} {g h : Heap} {L I ca D aa : Addr} {oI oc : Obj} {rest news : List (Addr × Obj)} {m m' : Str → Option Value} {c ab : Cl} {st st' : St} {lv : List Value} {n tk k : Nat}
    (F : Fr g L h m') (N : News g L h (news ++ (D, listOf (lv.eraseIdx k).toArray n) :: (I, oI) :: (L + 1, oc) :: rest)) (qD : D ≠ I ∧ D ≠ L + 1 ∧ ∀ p ∈ rest, p.1 ≠ D)
    (hlx : All2 (CallV h) lv st.log) (hcv : CallV h (.ref aa) ab) (hr : Mine.rest st c ab (st.log.eraseIdx k) = some st') (tp : (∀ x ∈ st.log.eraseIdx k, Good x ∧ x.deed < 6) ∧ ((st.log.eraseIdx k).map (·.turn)).Nodup ∧ (st.log.eraseIdx k).length < 100) (hg : Good ab) (h6 : c.deed = 6) (h2 : ab.deed ≤ 2)
    (hm : ∀ x ∈ [Str.ofString "rows", Str.ofString "log", Str.ofString "told", Str.ofString "items"], m' x = m x) (r1 : m' (Str.ofString "call") = some (.ref ca)) (r2 : m' (Str.ofString "trial") = some (.ref D)) (r3 : m' (Str.ofString "about") = some (.ref aa)) (r4 : m' (Str.ofString "back") = some (.bool ((c.deed : Int) == 6))) :
    TrialQ s g L I ca oI oc rest m c st st' .next { s with heap := h, toks := tk } :=
  ⟨h, tk, m', rfl, F, hm, .inr ⟨rfl, D, aa, n, _, ab, _, r1, r2, r3, r4, fun p hp => N p (List.mem_append_right _ hp), hlx.eraseIdx k, hcv, ⟨hr, tp.1, tp.2.1, tp.2.2, hg, by omega, fun _ => h2, fun e => absurd h6 e⟩, qD⟩⟩
theorem law_end {w : World} {s : Shared} {g h : Heap} {L I lg td it C : Addr} {oI oc : Obj} {cv : Option Value} {m' : Str → Option Value} {ra : RAd} {cs : List Cl} {ws : List Value} {nC i tk : Nat} {st : St} {QF : Flow → Shared → Prop} {f : Flow}
    (hf : f = .next ∨ f = .cont) (F : Fr g L h m') (hI : h.get? I = some oI ∧ I ≠ L ∧ g.get? I = none) (hcI : oI.cls = .type "list_iterator") (hc : h.get? (L + 1) = some oc ∧ L + 1 ≠ L ∧ g.get? (L + 1) = none) (hoc : oc.data = .cell cv)
    (LH : LawH w.params h ra lg td it st) (eC : h.get? C = some (listOf (List.toArray ws) nC)) (vC : All2 (CallV h) ws cs) (rdL : ra.d ≠ L) (m1 : m' (Str.ofString "rows") = some (.ref ra.d)) (m2 : m' (Str.ofString "log") = some (.ref lg)) (m3 : m' (Str.ofString "told") = some (.ref td)) (m4 : m' (Str.ofString "items") = some (.ref it))
    (hloop : loopP st0 (cs.take (i + 1)) = some st) (hinv : Inv (i + 1) st) (hIc : L + 1 ≠ I) (rg : ∀ a ∈ ra.lists, g.get? a = none ∧ a ≠ L) (tdg : g.get? td = none) :
    ForEnd g L (LawJ w g L I ra td cs C ws nC (i + 1)) I oI s QF f { s with heap := h, toks := tk } := by
  refine gl_in fun gGl hGl => ?_
  obtain ⟨rest, N, nx, sup, all⟩ := snapshot F [L + 1, I]
  refine hGl ?_
  clear hGl gGl
  have qq := quiet_of F LH.rows rdL hc.1 hoc hI.1 hcI
  have fin : ForEnd g L (LawJ w g L I ra td cs C ws nC (i + 1)) I oI s QF .next { s with heap := h, toks := tk } := by
    refine ForEnd.next ((L + 1, oc) :: rest) F (nx' := (I, oI) :: (L + 1, oc) :: rest) (fun p hp => ?_) (.head _) (fun p hp => ⟨.tail _ hp, ?_⟩) ⟨lg, it, st, h, oc, cv, rest, m1, m2, m3, m4, hloop, hinv, LH, eC, vC, qq, rfl, hoc, fun p hp => ⟨fun e => nx p hp (by simp [e]), fun e => nx p hp (by simp [e])⟩, sup, LH.inRest qq (fun a ha => (rg a ha).1) tdg all⟩
    · rcases List.mem_cons.mp hp with rfl | hp
      · exact hI
      rcases List.mem_cons.mp hp with rfl | hp
      · exact hc
      · exact N p hp
    · rcases List.mem_cons.mp hp with rfl | hp
      · exact hIc
      · exact fun e => nx p hp (by simp [e])
  rcases hf with rfl | rfl
  · exact fin
  · exact fin
structure RestF (st : St) (c ab : Cl) (tr : List Cl) (st' : St) : Prop where
  some_ : ∀ q ∈ st.told, ∃ x, (doneP tr).2.lookup q.1 = some x
  same : freeP st.rows ab = decide ((st.told.map fun q => ((doneP tr).2.lookup q.1).getD .no) = st.told.map (·.2))
  no : freeP st.rows ab = false → st' = st
  take : freeP st.rows ab = true → c.deed = 6 → ∃ r, takenP st.rows ab = some r ∧ st' = ⟨r, tr, st.told, (doneP tr).1⟩
  ask : freeP st.rows ab = true → c.deed ≠ 6 → c.deed > 2 → (doneP tr).2.lookup c.turn = some (ansP st.rows ab) ∧ st' = ⟨putP st.rows ab (thenP st.rows ab) (nowP st.rows ab), tr, st.told ++ [(c.turn, ansP st.rows ab)], (doneP tr).1⟩
  put : freeP st.rows ab = true → c.deed ≠ 6 → ¬ c.deed > 2 → st' = ⟨putP st.rows ab (thenP st.rows ab) (nowP st.rows ab), tr, st.told, (doneP tr).1⟩
theorem rest_facts {st st' : St} {c ab : Cl} {tr : List Cl} (h : Mine.rest st c ab tr = some st') : RestF st c ab tr st' := by
  unfold Mine.rest at h
  dsimp only at h
  by_cases h1 : (st.told.all fun q => ((doneP tr).2.lookup q.1).isSome) = false
  · rw [if_pos h1] at h; cases h
  rw [if_neg h1] at h
  have hall : ∀ q ∈ st.told, ∃ x, (doneP tr).2.lookup q.1 = some x := fun q hq => by
    have := List.all_eq_true.mp (by cases z : (st.told.all fun q => ((doneP tr).2.lookup q.1).isSome) with | true => rfl | false => exact absurd z h1) q hq
    exact Option.isSome_iff_exists.mp this
  have hs : ((st.told.map fun q => (doneP tr).2.lookup q.1) = st.told.map fun q => some q.2) ↔ ((st.told.map fun q => ((doneP tr).2.lookup q.1).getD .no) = st.told.map (·.2)) := by
    rw [List.map_inj_left, List.map_inj_left]
    constructor
    · intro z q hq; rw [z q hq]; rfl
    · intro z q hq
      obtain ⟨x, hx⟩ := hall q hq
      have := z q hq
      rw [hx] at this ⊢
      exact congrArg some this
  by_cases h2 : freeP st.rows ab ≠ decide ((st.told.map fun q => (doneP tr).2.lookup q.1) = st.told.map fun q => some q.2)
  · rw [if_pos h2] at h; cases h
  rw [if_neg h2] at h
  have hsame : freeP st.rows ab = decide ((st.told.map fun q => ((doneP tr).2.lookup q.1).getD .no) = st.told.map (·.2)) := by
    rw [Decidable.not_not.mp h2]
    exact decide_eq_decide.mpr hs
  by_cases h3 : freeP st.rows ab = false
  · rw [if_pos h3] at h
    exact ⟨hall, hsame, fun _ => (Option.some.inj h).symm, fun q => (by rw [h3] at q; cases q), fun q => (by rw [h3] at q; cases q), fun q => (by rw [h3] at q; cases q)⟩
  rw [if_neg h3] at h
  refine ⟨hall, hsame, fun q => absurd q h3, fun _ e => ?_, fun _ e e2 => ?_, fun _ e e2 => ?_⟩
  · rw [if_pos e] at h
    refine gl_in fun gGl hGl => ?_
    obtain ⟨r, hr, e'⟩ := Option.map_eq_some_iff.mp h
    refine hGl ?_
    clear hGl gGl
    exact ⟨r, hr, e'.symm⟩
  · rw [if_neg e, if_pos e2] at h
    split at h
    · rename_i hl; exact ⟨hl, (Option.some.inj h).symm⟩
    · cases h
  · rw [if_neg e, if_neg e2] at h
    exact (Option.some.inj h).symm
theorem All2.memM {α : Type} {R : Value → α → Prop} : ∀ {vs : List Value} {as : List α}, All2 R vs as → ∀ {v : Value}, v ∈ vs → ∃ a ∈ as, R v a := by
  intro vs as h v
  induction h with
  | nil => exact fun m => nomatch m
  | cons h _ ih =>
    intro m
    rcases List.mem_cons.mp m with rfl | m
    · exact ⟨_, .head _, h⟩
    · obtain ⟨a, ha, hr⟩ := ih m
      exact ⟨a, .tail _ ha, hr⟩
noncomputable def HeardF (ok : Addr → Prop) (S : Heap) (A : List (Nat × Ans)) (v z : Value) : Prop := ∃ (a : Addr) (n : Nat) (t : Tok) (av : Value) (x : Ans), v = .ref a ∧ IsTup S a [.int (n : Nat) t, av].toArray ∧ A.lookup n = some x ∧ AnsV ok S z x
noncomputable def GivenF (S : Heap) (v z : Value) : Prop := ∃ a u, v = .ref a ∧ IsTup S a [u, z].toArray
theorem told_heard {ok : Addr → Prop} {S : Heap} {A : List (Nat × Ans)} : ∀ {vs ys : List Value} {qs : List (Nat × Ans)}, All2 (ToldV ok S) vs qs → Paired (HeardF ok S A) vs ys → All2 (AnsV ok S) ys (qs.map fun q => (A.lookup q.1).getD .no) := by
  intro vs ys qs h
  induction h generalizing ys with
  | nil => intro k; cases k; exact .nil
  | @cons v q _ _ x _ ih =>
    intro k
    refine gl_in fun gGl hGl => ?_
    obtain ⟨y, ys', rfl, y1, r'⟩ := paired_inv k
    refine hGl ?_
    clear hGl gGl
    refine .cons ?_ (ih r')
    refine gl_in fun gGl hGl => ?_
    obtain ⟨a, t, av, e, ht, _⟩ := x
    obtain ⟨a', n, t', av', x, e', ht', hx, hz⟩ := y1
    subst e
    obtain rfl : a = a' := Value.ref.inj e'
    refine hGl ?_
    clear hGl gGl
    have := IsTup.uniq ht ht'
    simp only [List.cons.injEq, Value.int.injEq] at this
    have en : q.1 = n := Int.ofNat.inj this.1.1
    show AnsV ok S y ((A.lookup q.1).getD .no)
    rw [en, hx]
    exact hz
theorem told_given {ok : Addr → Prop} {S : Heap} : ∀ {vs ys : List Value} {qs : List (Nat × Ans)}, All2 (ToldV ok S) vs qs → Paired (GivenF S) vs ys → All2 (AnsV ok S) ys (qs.map (·.2)) := by
  intro vs ys qs h
  induction h generalizing ys with
  | nil => intro k; cases k; exact .nil
  | cons x _ ih =>
    intro k
    refine gl_in fun gGl hGl => ?_
    obtain ⟨y, ys', rfl, y1, r'⟩ := paired_inv k
    refine hGl ?_
    clear hGl gGl
    refine .cons ?_ (ih r')
    refine gl_in fun gGl hGl => ?_
    obtain ⟨a, t, av, e, ht, hav⟩ := x
    obtain ⟨a', u, e', ht'⟩ := y1
    subst e
    obtain rfl : a = a' := Value.ref.inj e'
    refine hGl ?_
    clear hGl gGl
    have := IsTup.uniq ht ht'
    simp only [List.cons.injEq] at this
    rw [← this.2.1]
    exact hav
end
section
local macro_rules | `(tactic| walk_at "eval Dict cons") => `(tactic| (refine hold ?_))
local macro_rules | `(tactic| walk_at "subscriptTail") => `(tactic| (refine hold ?_))
local macro_rules | `(tactic| walk_at "call type:list") => `(tactic| (refine hold ?_))
local macro_rules | `(tactic| walk_at "getMethod ref") => `(tactic| (refine hold ?_))
local macro_rules | `(tactic| walk_at "exec If Name cons cons") => `(tactic| (refine hold ?_))
local macro_rules | `(tactic| walk_at "call builtin:list.pop") => `(tactic| (refine hold ?_))
theorem RowsIs.seqs {P : Params} {h : Heap} {ra : RAd} {r : Rows} (x : RowsIs P h ra r) : ∀ a ∈ ra.lists, ∃ vs n, h.get? a = some (W.listOf (List.toArray vs) n) := by
  have hk : ∀ g, g < 2 → ∀ a ∈ (ra.get g).lists, ∃ vs n, h.get? a = some (W.listOf (List.toArray vs) n) := fun g hg a ha => by
    have k := x.kept g hg
    simp only [KAd.lists, List.mem_cons, List.not_mem_nil, or_false] at ha
    rcases ha with rfl | rfl | rfl | rfl
    · obtain ⟨vs, n, e, _⟩ := k.cuts; exact ⟨vs, n, e⟩
    · obtain ⟨vs, n, e, _⟩ := k.lays; exact ⟨vs, n, e⟩
    · obtain ⟨vs, n, e, _⟩ := k.firsts; exact ⟨vs, n, e⟩
    · obtain ⟨vs, n, e, _⟩ := k.alls; exact ⟨vs, n, e⟩
  intro a ha
  rcases List.mem_append.mp ha with ha | ha
  · exact hk 0 (by omega) a ha
  · exact hk 1 (by omega) a ha
theorem quietL {g h : Heap} {L d : Addr} {m : Str → Option Value} (F : Fr g L h m) (ne : d ≠ L) : Quiet h [L] d := fun a ha => by
  cases List.mem_singleton.mp ha
  refine ⟨ne.symm, fun o ho => .inr fun xs nn e => ?_⟩
  refine gl_in fun gGl hGl => ?_
  obtain ⟨oL, es, ep, hLo, hd, _⟩ := F.ns
  refine hGl ?_
  clear hGl gGl
  rw [ho] at hLo; cases hLo
  rw [hd] at e; cases e
theorem item_last {prog : Program} {w : World} {A : Around} {E : Value → Shared → Prop} {s : Shared} {value slice : PySem.Expr} {l : Addr} {vs : List Value} {u : Tok} {x : Value} {Q : Value → Shared → Prop} (hl : s.heap.IsList l vs.toArray) (hx : vs[vs.length - 1]? = some x) (h : Q x s)
    (hs : subscripted slice false (.ref l) (.int (-1) u) = operate [.ref l, .int (-1) u] (getItem (.ref l) (.int (-1) u)) := by with_unfolding_all rfl) (hg : ∀ r, letTemporaryGo value (.ref l) r = pure () := by intro _; with_unfolding_all rfl) :
    wpAny (model prog w) A (subscriptTail value slice (.ref l) (.int (-1) u)) Q E s := by
  have hlt : vs.length - 1 < vs.length := (List.getElem?_eq_some_iff.mp hx).1
  exact subscriptTail_builtin hl.typeIs slot_list_getitem.lookup (wpAny_getItem_list_neg hl (by decide) (by rw [List.size_toArray]; omega) (by decide) (by rw [List.size_toArray, show ((-1 : Int) + (vs.length : Nat)).toNat = vs.length - 1 by omega]; simpa using hx) h) hs hg
theorem fin_good {i : Nat} {st : St} (h : Inv i st) (hi : i ≤ 14) (k : Nat) : (∀ x ∈ st.log.take k, Good x ∧ x.deed < 6) ∧ ((st.log.take k).map (·.turn)).Nodup ∧ (st.log.take k).length < 100 := by
  refine ⟨fun x hx => ?_, List.Nodup.sublist ((List.take_sublist k _).map _) h.nd, ?_⟩
  · have b := h.bnd x (List.mem_of_mem_take hx)
    exact ⟨⟨b.2.2.2.1, b.2.2.2.2, by omega, by omega⟩, b.2.2.1⟩
  · have := h.len
    rw [List.length_take]; omega
section
variable {prog : Program} {w : World} {A : Around} {s : Shared} {mg mb : Str → Option Value}
theorem law_walk {oc : Value} {od : Option Addr} {name qual : Str} {params : Arguments} {body : List Stmt} {scope : Scope} {dV kV doc pm cdv ct : Value} {an : Option Addr} {osl : Array (Option Value)} {g : Heap} {L fa a : Addr} {cdw : Value} {m : Str → Option Value} {ocell : Obj} {vs : List Value} {ns : List Int} {Q : Flow → Shared → Prop}
    (ho : (hd.heap_1 w.params).lookup 279 = some ⟨oc, od, .func (fnOf name qual params body scope dV kV doc pm an cdv ct), osl⟩)
    (r : Room A 60) (G : Gr w mg mb g) (F : Fr g L s.heap m) (hm : m (Str.ofString "script") = some (.ref a)) (NC : News g L s.heap [(L + 1, ocell)]) (hcell : ocell.data = .cell none) (hl : g.IsList a vs.toArray) (hI : IntsAre vs ns) (hlen : ns.length ≤ 63)
    (ret : ∀ h' tk', g.StaysIn h' → Q (.ret (.bool true)) { s with heap := h', toks := tk' }) :
    wpAny (model prog w) A (execs body (envOfC qual scope L fa cdw)) Q (fun _ _ => False) s := by
  obtain ⟨hnd, dpA, frA, gdA, unA⟩ := A; obtain rfl : hnd = none := r.handled
  have X := G.k
  have T := G.t
  obtain ⟨sh, sg, sd, stk, sos⟩ := s
  dsimp only at F NC ⊢
  have q := ho.symm.trans (show (hd.heap_1 w.params).lookup 279 = some _ by k_is)
  refine gl_in fun gGl hGl => ?_
  obtain ⟨e1, e2, e3, e4⟩ := fn_eqs q
  refine hGl ?_
  clear hGl gGl
  have e5 : body = _ := FuncBody.stmts.inj e4
  clear ho q e4
  subst e5
  have e1 : qual = _ := e1
  have e2 : scope = _ := e2
  have e3 : cdv = _ := e3
  subst e1 e2 e3
  k_steps
  dsimp only [Hold]
  refine' kdn_str ?q ?F ?N ?b ?a ?l ?e ?n ?_
  case q => rfl
  case F => exact F
  case N => exact NC
  case b => exact TopRead.nolimit T
  case a => rfl
  case l => rfl
  case e => exact List.cons_ne_nil _ _
  case n => exact Nat.le_of_ble_eq_true rfl
  intro d' h' o' F' N' l1 lo' hd'
  k_lt l1
  k_steps
  dsimp only [Hold]
  rename Fr _ _ _ _ => F1
  rename News _ _ _ _ => N1
  obtain ⟨ra, lg0, td, it0, F2, LH1, rlo, rdL, rg, tdg, tdL⟩ := law_start N1 F1 (by assumption) (by assumption) (by (repeat' refine And.intro ?_ ?_) <;> first | exact And.left (by assumption) | exact And.left (And.right (by assumption)))
  have hcl := N1 (L + 1, ocell) (by k_mem)
  clear N1 F1
  have N1 : News g L _ [(L + 1, ocell)] := fun p hp => by cases List.mem_singleton.mp hp; exact hcl
  refine calls_spec (r.less (by decide)) (G.keeps F2.keep) (hl.at fun o e => F2.keep _ o e) hI hlen ?_
  intro h2 tk2 C ws n k2 e2 v2 f2
  dsimp only at k2 f2
  have LH2 := LH1.stays k2
  have hC1 : C ∉ ra.lists := fun m => by
    refine gl_in fun gGl hGl => ?_
    obtain ⟨o, ho, _⟩ := LH1.rows.lists C m
    refine hGl ?_
    clear hGl gGl
    rw [ho] at f2; cases f2
  have hC2 : C ≠ td := fun e => by
    refine gl_in fun gGl hGl => ?_
    obtain ⟨vs, nn, ho, _⟩ := LH1.told
    refine hGl ?_
    clear hGl gGl
    rw [← e, f2] at ho; cases ho
  replace F2 := F2.keeps k2
  replace N1 := N1.grown k2
  clear LH1 k2 f2 hcl
  dsimp only
  k_steps
  dsimp only [Hold]
  refine gl_in fun gGl hGl => ?_
  obtain ⟨I0, hI0⟩ : ∃ I0, h2.objs.size = I0 := ⟨_, rfl⟩
  have hnI : h2.get? I0 = none := by
    cases q : h2.get? I0 with
    | none => rfl
    | some o => exact absurd (Heap.lt_size q) (by rw [hI0]; exact Nat.lt_irrefl _)
  have hNC := N1 _ (.head _)
  obtain ⟨t1, t2, nd, hrd⟩ := LH2.rows.dict
  have Q2 : Quiet h2 [L, L + 1, I0] ra.d := fun a ha => by
    simp only [List.mem_cons, List.not_mem_nil, or_false] at ha
    rcases ha with rfl | rfl | rfl
    · refine ⟨rdL.symm, fun o ho => .inr fun xs nn e => ?_⟩
      obtain ⟨oL, es, ep, hLo, hd, _⟩ := F2.ns
      rw [ho] at hLo; cases hLo
      rw [hd] at e; cases e
    · refine ⟨fun e => ?_, fun o ho => .inr fun xs nn e => ?_⟩
      · have := hNC.1
        rw [show L + 1 = ra.d from e, hrd] at this
        cases this; cases hcell
      · have := hNC.1
        rw [ho] at this; cases this
        rw [hcell] at e; cases e
    · refine ⟨fun e => ?_, fun o ho => ?_⟩
      · rw [e, hrd] at hnI; cases hnI
      · rw [hnI] at ho; cases ho
  obtain ⟨rest0, N2, nx2, sup2, all2⟩ := snapshot F2 [L + 1, I0]
  refine hGl ?_
  clear hGl gGl
  have N3 : News g L h2 ((L + 1, ocell) :: rest0) := news_cons hNC N2
  clear N1
  refine for_listC (LawJ w g L I0 ra td (callsFrom 0 (own8 ++ ns.take 6)) C ws n) rfl goes_name ⟨_, e2, rfl, _, rfl⟩ F2 N3 ?_ ?_ ?_ ?_
  · exact ⟨lg0, it0, st0, h2, ocell, none, rest0, rfl, rfl, rfl, rfl, rfl, inv0, LH2, e2, v2, Q2, rfl, hcell, fun p hp => ⟨fun e => nx2 p hp (by simp [e]), fun e => nx2 p hp (by simp [e])⟩, fun h st hs => sup2 h st hs, LH2.inRest Q2 (fun a ha => (rg a ha).1) tdg all2⟩
  · intro i m nx h hXr F N
    refine gl_in fun gGl hGl => ?_
    obtain ⟨lg, it, st, h0, oc, cv, rest, _, _, _, _, _, _, _, eC, _, qq, rfl, _, _, sup, _⟩ := hXr
    refine hGl ?_
    clear hGl gGl
    exact ⟨_, qq.list (sup h F.keep fun p hp => (N p (.tail _ hp)).1) eC, rfl, _, rfl⟩
  · intro i v m nx h5 tk5 I oI hIe hcI hk hJ hne F5 N5
    refine hJ.elim fun lg it st h0 oc cv rest m1 m2 m3 m4 hloop hinv LH eC vC qq hnx hoc hre sup hin => ?_
    clear hJ
    subst hnx
    refine gl_in fun gGl hGl => ?_
    obtain rfl : I = I0 := hIe.trans hI0
    clear F2 N2 nx2 sup2 all2 N3 Q2 LH2 e2 v2 hnI hrd hNC hI0 hIe
    obtain ⟨c, hc, hcv0⟩ := vC.getV hk
    obtain ⟨xi, hxi⟩ := callsFrom_get 0 _ _ _ hc
    rw [Nat.zero_add] at hxi
    have hok : CallOk i c := hxi ▸ callOf_ok xi i
    obtain ⟨st', hturn, hinv', htold'⟩ := turn_ok hinv hok
    have hi14 : i < 14 := by
      have := (List.getElem?_eq_some_iff.mp hc).1
      rw [callsFrom_len, List.length_append, List.length_take] at this
      have e8 : own8.length = 8 := rfl
      omega
    have hgd : Good c := ⟨hok.name, hok.other, by rw [hok.turn]; exact hi14, hok.deed⟩
    have hloop' : loopP st0 ((callsFrom 0 (own8 ++ ns.take 6)).take (i + 1)) = some st' := by
      have : (callsFrom 0 (own8 ++ ns.take 6)).take (i + 1) = (callsFrom 0 (own8 ++ ns.take 6)).take i ++ [c] := by rw [List.take_add_one, hc]; rfl
      rw [this, loopP_app, hloop]
      show loopP st [c] = some st'
      rw [loopP, hturn]; rfl
    obtain ⟨ca, t1, t2, t3, t4, t5, t6, t7, rfl, hct0⟩ := hcv0
    obtain ⟨lv, ln, le0, lx0⟩ := LH.log
    refine hGl ?_
    clear hGl gGl
    have hll : lv.length < 100 := by
      have := lx0.length
      have := hinv.len
      omega
    k_steps
    rename Fr _ _ _ _ => F6
    rename News _ _ _ _ => N6
    dsimp only [Hold]
    have b6 := sup _ F6.keep (fun p hp => (N6 p (.tail _ (.tail _ hp))).1)
    refine list_copyK F6 N6 ⟨_, qq.list b6 le0, rfl, _, rfl⟩ ?_ (by rw [List.size_toArray, sizeLine_eq]; omega)
    intro D nD h7 F7 N7 l7
    clear F6 N6 b6
    (try dsimp only)
    k_steps
    rename Fr _ _ _ _ => F8
    rename News _ _ _ _ => N8
    dsimp only [Hold]
    have b8 := sup _ F8.keep (fun p hp => (N8 p (.tail _ (.tail _ (.tail _ hp)))).1)
    refine item_tupleT (qq.tups b8 _ _ hct0) (by decide) (by decide) rfl rfl ?_
    clear b8
    k_steps
    dsimp only [Hold]
    refine wpAny_mono (Q := TrialQ ⟨h5, sg, sd, tk5, sos⟩ g L I ca oI oc rest m c st st') ?half ?other (fun _ _ e => e)
    case half =>
      refine wpAny_If ?_
      k_steps
      · rename _ = _ => h6
        (try dsimp only [Hold])
        rename Fr _ _ _ _ => F9
        rename News _ _ _ _ => N9
        have h6' : c.deed = 6 := by omega
        have b9 := sup _ F9.keep (fun p hp => (N9 p (.tail _ (.tail _ (.tail _ (.tail _ hp))))).1)
        have hD9 := N9 (D, _) (.tail _ (.head _))
        have hI9 := N9 (I, oI) (.tail _ (.tail _ (.head _)))
        have hc9 := N9 (L + 1, oc) (.tail _ (.tail _ (.tail _ (.head _))))
        have hr9 : ∀ p ∈ rest, _ := fun p hp => N9 p (.tail _ (.tail _ (.tail _ (.tail _ hp))))
        have hcv9 := CallV.keeps ⟨ca, t1, t2, t3, t4, t5, t6, t7, rfl, hct0⟩ (qq.tups b9)
        have hlx9 := lx0.imp fun _ _ z => CallV.keeps z (qq.tups b9)
        have qD : D ≠ I ∧ D ≠ L + 1 ∧ ∀ p ∈ rest, p.1 ≠ D := ⟨Nat.ne_of_gt (l7 (I, oI) (.head _)), Nat.ne_of_gt (l7 (L + 1, oc) (.tail _ (.head _))), fun p hp => Nat.ne_of_lt (l7 p (.tail _ (.tail _ hp)))⟩
        refine item_tupleT (qq.tups b9 _ _ hct0) (by decide) (by decide) rfl rfl ?_
        k_steps
        dsimp only [Hold]
        refine br_spec (b := false) (key := true) (vs := lv) (ks := hours st.log) (k := [c.hour]) (r.less (by decide)) (G.keeps F9.keep) ⟨_, qq.list b9 le0, rfl, _, rfl⟩ (hours_keys hlx9) ⟨_, _, rfl, rfl⟩ (Nat.lt_trans hll (by decide)) ?_
        intro h10 tk10 tkk k10
        have F10 := F9.keeps k10
        have N10 := N9.grown k10
        clear F9 N9
        generalize hkk : br (hours st.log) [c.hour] = kk
        dsimp only
        k_steps
        dsimp only [Hold]
        refine wpAny_If ?_
        k_steps
        · rename _ = _ => hk0
          rename Fr _ _ _ _ => F11
          rename News _ _ _ _ => N11
          have hst : st' = st := by
            have := hturn
            unfold turnP at this
            rw [if_pos h6', hkk] at this
            dsimp only at this
            rw [if_pos (Int.ofNat.inj hk0)] at this
            exact (Option.some.inj this).symm
          exact trialQ_cont (news := [_, _]) F11 N11 hst (by
            intro x hx
            simp only [List.mem_cons, List.not_mem_nil, or_false] at hx
            rcases hx with rfl | rfl | rfl | rfl <;> rfl)
        · rename _ ≠ _ => hk0
          rename Fr _ _ _ _ => F11
          rename News _ _ _ _ => N11
          dsimp only [Hold]
          have hkl : kk - 1 < st.log.length := by
            have := br_le (hours st.log) [c.hour]
            rw [hkk] at this
            unfold hours at this
            rw [List.length_map] at this
            exact Nat.lt_of_lt_of_le (Nat.sub_lt (Nat.pos_of_ne_zero fun e => hk0 (by rw [e]; rfl)) Nat.one_pos) this
          refine gl_in fun gGl hGl => ?_
          obtain ⟨ab, hab⟩ : ∃ ab, st.log[kk - 1]? = some ab := ⟨_, List.getElem?_eq_getElem hkl⟩
          have hlg := log_good hinv hi14 ab (List.mem_of_getElem? hab)
          have hturn2 : (if ab.deed > 2 then some st else Mine.rest st c ab (st.log.eraseIdx (kk - 1))) = some st' := by
            have := hturn
            unfold turnP at this
            rw [if_pos h6', hkk] at this
            dsimp only at this
            rw [if_neg fun e => hk0 (by rw [e]; rfl), hab] at this
            exact this
          obtain ⟨av, hav, hacv⟩ := lx0.get hab
          obtain ⟨aa, s1, s2, s3, s4, s5, s6, s7, rfl, hat0⟩ := hacv
          refine hGl ?_
          clear hGl gGl
          have b11 := sup _ F11.keep (fun p hp => (N11 p (.tail _ (.tail _ (.tail _ (.tail _ hp))))).1)
          have hll2 : st.log.length < 100 := by have := hinv.len; omega
          have hpk := pred_ok hk0 (Nat.lt_trans hkl hll2)
          refine item_listL ⟨_, qq.list b11 le0, rfl, _, rfl⟩ hpk.1 hpk.2.1 (by rw [hpk.2.2.1]; exact hav) ?_
          k_steps
          dsimp only [Hold]
          refine item_tupleT (qq.tups b11 _ _ hat0) (by decide) (by decide) rfl rfl ?_
          k_steps
          · rename _ < _ => h2
            rw [if_pos (by omega)] at hturn2
            exact trialQ_cont (news := [_, _]) F11 N11 (Option.some.inj hturn2).symm (by
              intro x hx
              simp only [List.mem_cons, List.not_mem_nil, or_false] at hx
              rcases hx with rfl | rfl | rfl | rfl <;> rfl)
          · rename ¬ _ < _ => h2
            rw [if_neg (by omega)] at hturn2
            dsimp only [Hold]
            refine listMethod_K N11 (by k_mem) PySem.F.slot_list_pop PySem.F.type_list_pop ?_
            k_steps
            dsimp only [Hold]
            refine pop_val (k := kk - 1) F11 N11 hpk.2.2.2 hav (Nat.lt_trans hll (by decide)) (.tail (Nat.ne_of_gt (by assumption : _ ∧ _).1) (.head fun p hp => Nat.ne_of_lt (l7 p hp))) ?_
            intro h12 F12 N12
            clear F11 N11
            (try dsimp only)
            k_steps
            rename Fr _ _ _ _ => F14
            rename News _ _ _ _ => N14
            have b14 := sup _ F14.keep (fun p hp => (N14 p (.tail _ (.tail _ (.tail _ (.tail _ hp))))).1)
            exact trialQ_take (news := [_]) F14 N14 qD (lx0.imp fun _ _ z => CallV.keeps z (qq.tups b14)) (CallV.keeps ⟨aa, s1, s2, s3, s4, s5, s6, s7, rfl, hat0⟩ (qq.tups b14)) hturn2 (trial_take hinv hi14) hlg.1 h6' (by omega) (by
              intro x hx
              simp only [List.mem_cons, List.not_mem_nil, or_false] at hx
              rcases hx with rfl | rfl | rfl | rfl <;> rfl) rfl rfl rfl rfl
      · rename _ ≠ _ => h6
        (try dsimp only [Hold])
        rename Fr _ _ _ _ => F9
        rename News _ _ _ _ => N9
        have hd6 : c.deed < 6 := by have := hok.deed; omega
        have h6' : c.deed ≠ 6 := by omega
        have b9 := sup _ F9.keep (fun p hp => (N9 p (.tail _ (.tail _ (.tail _ (.tail _ hp))))).1)
        have hD9 := N9 (D, _) (.tail _ (.head _))
        have hI9 := N9 (I, oI) (.tail _ (.tail _ (.head _)))
        have hc9 := N9 (L + 1, oc) (.tail _ (.tail _ (.tail _ (.head _))))
        have hr9 : ∀ p ∈ rest, _ := fun p hp => N9 p (.tail _ (.tail _ (.tail _ (.tail _ hp))))
        have hcv9 := CallV.keeps ⟨ca, t1, t2, t3, t4, t5, t6, t7, rfl, hct0⟩ (qq.tups b9)
        have hlx9 := lx0.imp fun _ _ z => CallV.keeps z (qq.tups b9)
        have qD : D ≠ I ∧ D ≠ L + 1 ∧ ∀ p ∈ rest, p.1 ≠ D := ⟨Nat.ne_of_gt (l7 (I, oI) (.head _)), Nat.ne_of_gt (l7 (L + 1, oc) (.tail _ (.head _))), fun p hp => Nat.ne_of_lt (l7 p (.tail _ (.tail _ hp)))⟩
        refine item_tupleT (qq.tups b9 _ _ hct0) (by decide) (by decide) rfl rfl ?_
        k_steps
        · rename _ < _ => hneg
          (try dsimp only [Hold])
          refine il_spec (b := false) (key := true) (vs := lv) (ks := hours st.log) (k := [c.hour]) (r.less (by decide)) G F9.keep hD9.2.2 hD9.1 (hours_keys hlx9) hcv9.hourKey (Nat.lt_trans hll (by decide)) ?_
          intro h10 tk10 b10 e10
          (try dsimp only at b10)
          have F10 := b10.fr F9 (fun a ha => by cases List.mem_singleton.mp ha; exact hD9.2.2) (fun q => hD9.2.1 (List.mem_singleton.mp q).symm)
          clear F9
          (try dsimp only)
          k_steps
          exact trialQ_put F10 b10 e10 N9 qD hlx9 hcv9 (by have := hturn; unfold turnP at this; rw [if_neg h6', if_pos hneg] at this; exact this) (trial_put hinv hi14 hok hgd hd6) hgd hd6 (by
            intro x hx
            simp only [List.mem_cons, List.not_mem_nil, or_false] at hx
            rcases hx with rfl | rfl | rfl | rfl <;> rfl) rfl rfl rfl rfl
        · rename ¬ _ < _ => hneg
          dsimp only [Hold]
          refine ir_spec (b := false) (key := true) (vs := lv) (ks := hours st.log) (k := [c.hour]) (r.less (by decide)) G F9.keep hD9.2.2 hD9.1 (hours_keys hlx9) hcv9.hourKey (Nat.lt_trans hll (by decide)) ?_
          intro h10 tk10 b10 e10
          (try dsimp only at b10)
          have F10 := b10.fr F9 (fun a ha => by cases List.mem_singleton.mp ha; exact hD9.2.2) (fun q => hD9.2.1 (List.mem_singleton.mp q).symm)
          clear F9
          (try dsimp only)
          k_steps
          exact trialQ_put F10 b10 e10 N9 qD hlx9 hcv9 (by have := hturn; unfold turnP at this; rw [if_neg h6', if_neg hneg] at this; exact this) (trial_put hinv hi14 hok hgd hd6) hgd hd6 (by
            intro x hx
            simp only [List.mem_cons, List.not_mem_nil, or_false] at hx
            rcases hx with rfl | rfl | rfl | rfl <;> rfl) rfl rfl rfl rfl
    case other =>
      intro f s' hT
      refine hT.elim (fun h20 tk20 m20 es F20 hm20 ef hst N20 => ?_) (fun h20 tk20 m20 D2 aa nD2 tv ab tr es F20 hm20 ef q1 q2 q3 q4 N20 tx20 ax20 hrest tg tn tl abg ab6 htk hput qD2 => ?_) <;> clear hT <;> subst es <;> subst ef
      · subst hst
        have b20 := sup _ F20.keep (fun p hp => (N20 p (.tail _ (.tail _ hp))).1)
        exact law_end (.inr rfl) F20 (N20 (I, oI) (.head _)) hcI (N20 (L + 1, oc) (.tail _ (.head _))) hoc (LH.quiet qq b20) (qq.list b20 eC) (vC.imp fun _ _ z => CallV.keeps z (qq.tups b20)) rdL ((hm20 _ (by simp)).trans m1) ((hm20 _ (by simp)).trans m2) ((hm20 _ (by simp)).trans m3) ((hm20 _ (by simp)).trans m4) hloop' hinv' (hne _ (.head _)) rg tdg
      · have b20 := sup _ F20.keep (fun p hp => (N20 p (.tail _ (.tail _ (.tail _ hp)))).1)
        have LH20 := LH.quiet qq b20
        have eC20 := qq.list b20 eC
        have vC20 := vC.imp fun _ _ z => CallV.keeps z (qq.tups b20)
        have hcv20 := CallV.keeps ⟨ca, t1, t2, t3, t4, t5, t6, t7, rfl, hct0⟩ (qq.tups b20)
        have n1 := (hm20 _ (by simp)).trans m1
        have n2 := (hm20 _ (by simp)).trans m2
        have n3 := (hm20 _ (by simp)).trans m3
        have n4 := (hm20 _ (by simp)).trans m4
        have hD20 := N20 (D2, _) (.head _)
        have hI20 := N20 (I, oI) (.tail _ (.head _))
        have hc20 := N20 (L + 1, oc) (.tail _ (.tail _ (.head _)))
        have hIc : L + 1 ≠ I := hne _ (.head _)
        clear hm20 m1 m2 m3 m4 b20 qq sup LH eC vC hct0 lx0 le0 hne
        dsimp only
        k_steps
        dsimp only [Hold]
        refine done_spec (r.less (by decide)) (G.keeps F20.keep) hD20.1 tx20 tg tn tl ?_
        intro h21 tk21 T d It o kvs k21 hT21 hd21 hkd hpd hit fd fIt
        dsimp only at k21 hpd fd fIt
        have F21 := F20.keeps k21
        have hI21 : h21.get? I = some oI ∧ I ≠ L ∧ g.get? I = none := ⟨k21 _ _ hI20.1, hI20.2⟩
        have hc21 : h21.get? (L + 1) = some oc ∧ L + 1 ≠ L ∧ g.get? (L + 1) = none := ⟨k21 _ _ hc20.1, hc20.2⟩
        have LH21 := LH20.stays k21
        have qq21 := quiet_of F21 LH21.rows rdL hc21.1 hoc hI21.1 hcI
        have eD21 := k21 _ _ hD20.1
        have tx21 := tx20.imp fun _ _ z => CallV.keeps z (TupS.of k21)
        have ax21 := ax20.keeps (TupS.of k21)
        have eC21 := k21 _ _ eC20
        have vC21 := vC20.imp fun _ _ z => CallV.keeps z (TupS.of k21)
        have hcv21 := hcv20.keeps (TupS.of k21)
        have ndd : ∀ x ∈ [L, L + 1, I], ∃ ob, h20.get? x = some ob := fun x hx => by
          simp only [List.mem_cons, List.not_mem_nil, or_false] at hx
          rcases hx with rfl | rfl | rfl
          · obtain ⟨oL, _, _, hL, _⟩ := F20.ns; exact ⟨_, hL⟩
          · exact ⟨_, hc20.1⟩
          · exact ⟨_, hI20.1⟩
        have nd : d ∉ [L, L + 1, I] := fun hx => by obtain ⟨ob, e⟩ := ndd d hx; rw [fd] at e; cases e
        have nra : ∀ l, h20.get? l = none → l ∉ ra.lists ∧ l ≠ td := fun l hl => by
          refine ⟨fun m => ?_, fun e => ?_⟩
          · obtain ⟨ob, hob, _⟩ := LH20.rows.lists l m
            rw [hl] at hob; cases hob
          · obtain ⟨_, _, hob, _⟩ := LH20.told
            rw [← e, hl] at hob; cases hob
        refine gl_in fun gGl hGl => ?_
        obtain ⟨rest2, NS2, nx2, sup2, -⟩ := snapshot F21 [L + 1, I]
        refine hGl ?_
        clear hGl gGl
        have N21 : News g L h21 ((L + 1, oc) :: (I, oI) :: rest2) := news_cons hc21 (news_cons hI21 NS2)
        have nc2 : ∀ p ∈ (I, oI) :: rest2, p.1 ≠ L + 1 := fun p hp => by
          rcases List.mem_cons.mp hp with rfl | hp
          · exact hIc.symm
          · exact fun e => nx2 p hp (by simp [e])
        clear F20 N20 NS2 LH20 eC20 vC20 tx20 ax20 hcv20 hc20 hI20 hD20
        have RF := rest_facts hrest
        dsimp only
        k_steps
        rename Fr _ _ _ _ => F22
        rename News _ _ _ _ => N22
        refine storeX_C F22 N22 rfl (UpdF.head nc2) hoc ?_
        intro h23 o23 F23 N23 hd23
        clear F22 N22
        (try dsimp only)
        k_steps
        rename Fr _ _ _ _ => F24
        rename News _ _ _ _ => N24
        dsimp only [Hold]
        have b24 := sup2 _ F24.keep (fun p hp => (N24 p (.tail _ (.tail _ hp))).1)
        refine change_spec (r.less (by decide)) (G.keeps F24.keep) (LH21.quiet qq21 b24).rows (small_of hinv (Nat.lt_trans hi14 (by decide))) (ax21.keeps (qq21.tups b24)) abg ab6 ?_
        intro h25 tk25 D3 ta na av k25 hT25 hta hna fta fna hav
        dsimp only at k25 fta fna hav
        have LH24 := LH21.quiet qq21 b24
        have nrb : ∀ l, Heap.get? _ l = none → l ∉ ra.lists ∧ l ≠ td := fun l hl => by
          refine ⟨fun m => ?_, fun e => ?_⟩
          · obtain ⟨ob, hob, _⟩ := LH24.rows.lists l m
            rw [hl] at hob; cases hob
          · obtain ⟨_, _, hob, _⟩ := LH24.told
            rw [← e, hl] at hob; cases hob
        have b25 : But [L, L + 1, I] h21 h25 := fun a o n e => k25 _ _ (b24 a o n e)
        have LH25 := LH21.quiet qq21 b25
        have eD25 := qq21.list b25 eD21
        have tx25 := tx21.imp fun _ _ z => CallV.keeps z (qq21.tups b25)
        have ax25 := ax21.keeps (qq21.tups b25)
        have eC25 := qq21.list b25 eC21
        have vC25 := vC21.imp fun _ _ z => CallV.keeps z (qq21.tups b25)
        have hcv25 := hcv21.keeps (qq21.tups b25)
        have hd25 := b25 _ _ nd hd21
        have hp25 : HeardP (fun l => l ∉ ra.lists ∧ l ≠ td) h25 kvs (doneP tr).2 := hpd.keeps fun l vs n o e => ⟨qq21.list b25 e, nra l o⟩
        have hit25 := hit.keeps' (qq21.tups b25) fun _ _ e => qq21.list b25 e
        have hav25 : AnsV (fun l => l ∉ ra.lists ∧ l ≠ td) h25 av (ansP st.rows ab) := hav.keeps fun l vs n o e => ⟨e, nrb l o⟩
        have nta := nrb ta fta
        have nna := nrb na fna
        have nIt := nra It fIt
        have nD2 : D2 ∉ ra.lists ∧ D2 ≠ td := ⟨fun m => by obtain ⟨o, ho⟩ := hin _ (.inl m); exact qD2.2.2 _ ho rfl, fun e => by obtain ⟨o, ho⟩ := hin _ (.inr e); exact qD2.2.2 _ ho rfl⟩
        have hI25 : h25.get? I = some oI ∧ I ≠ L ∧ g.get? I = none := ⟨k25 _ _ (N24 (I, oI) (.tail _ (.head _))).1, hI21.2⟩
        have hc25 : h25.get? (L + 1) = some o23 ∧ L + 1 ≠ L ∧ g.get? (L + 1) = none := ⟨k25 _ _ (N24 (L + 1, o23) (.head _)).1, hc21.2⟩
        have F25 := F24.keeps k25
        have qq25 := quiet_of F25 LH25.rows rdL hc25.1 hd23 hI25.1 hcI
        refine gl_in fun gGl hGl => ?_
        obtain ⟨rest3, NS3, nx3, sup3, -⟩ := snapshot F25 [L + 1, I]
        refine hGl ?_
        clear hGl gGl
        have N25 : News g L h25 ((L + 1, o23) :: (I, oI) :: rest3) := news_cons hc25 (news_cons hI25 NS3)
        clear F24 N24 NS3 b24 LH24 sup2 qq21 LH21 eD21 tx21 ax21 eC21 vC21 hcv21 hd21 hpd hit hav fta fna fIt fd nra nrb nc2 nx2 hI21 hc21 b25 k25 k21 ndd hT21
        (try dsimp only)
        k_steps
        rename Fr _ _ _ _ => F26
        rename News _ _ _ _ => N26
        rename_i h26 tk26
        dsimp only [Hold]
        have b26 := sup3 _ F26.keep (fun p hp => (N26 p (.tail _ (.tail _ hp))).1)
        refine gl_in fun gGl hGl => ?_
        obtain ⟨tvs, tn0, te25, tt25⟩ := LH25.told
        refine hGl ?_
        clear hGl gGl
        have te26 := qq25.list b26 te25
        have tt26 := tt25.imp fun _ _ z => ToldV.keeps z (qq25.tups b26) fun l vs n o e => ⟨qq25.list b26 e, o⟩
        have hd26 := b26 _ _ nd hd25
        have hp26 := hp25.keeps fun l vs n o e => ⟨qq25.list b26 e, o⟩
        have hcell26 : Heap.IsCell _ (L + 1) _ := ⟨_, (N26 _ (.head _)).1, hd23⟩
        have htl : tvs.length < 2 ^ 20 := by
          rw [tt25.length]
          have := hinv.tlen
          omega
        refine ListComp_open (by with_unfolding_all rfl) (by rfl) (by decide) ?_
        k_steps
        dsimp only [Hold]
        refine' comp_all (fun v m => ∃ a q t av, v = .ref a ∧ IsTup h26 a [.int (q.1 : Nat) t, av].toArray ∧ q ∈ st.told ∧ m (Str.ofString "turn") = some (.int (q.1 : Nat) t)) (fun _ => true) (fun v z _ => HeardF (fun l => l ∉ ra.lists ∧ l ≠ td) h26 (doneP tr).2 v z) ?ca1 ?ca2 ?ca3 ?ca4 ?ca5 ?ca6 ?ca7 ?ca8 ?ca9 ?cb1 ?cb2 ?cb3 ?cb4
        case ca2 => exact rfl
        case ca3 => exact goes_tuple
        case ca4 => decide
        case ca5 => rfl
        case ca6 => exact ⟨_, te26, rfl, _, rfl⟩
        case ca7 => exact F26
        case ca8 => exact N26
        case ca9 => exact line_of htl
        case ca1 => exact fun _ _ _ _ _ z => z
        case cb1 =>
          intro C' v s₃ m₃ Q' E' hv hn hst _ k
          refine gl_in fun gGl hGl => ?_
          obtain ⟨q, hq, a', tq, av', rfl, ht, _⟩ := tt26.memM hv
          refine hGl ?_
          clear hGl gGl
          refine comp_assign2 rfl (by rfl) (by rfl) (by rfl) hn (ht.keeps hst) fun h' tk hn' hb' => ?_
          exact k h' _ tk hn' ⟨a', q, tq, av', rfl, ht, hq, by rfl⟩ hb'
        case cb2 =>
          intro C' v s₃ m₃ E' hv hn hpp hst _
          exact wpAny_tests_nil ⟨rfl, _, _, rfl, fun _ _ e => e⟩
        case cb3 =>
          intro C' v s₃ m₃ E' hv _ hn hXr hst _
          refine gl_in fun gGl hGl => ?_
          obtain ⟨a', q, tq, av', rfl, ht, hq, hm⟩ := hXr
          refine hGl ?_
          clear hGl gGl
          refine gl_in fun gGl hGl => ?_
          obtain ⟨x, hx⟩ := RF.some_ q hq
          obtain ⟨z, hz, hzx⟩ := heard_get hp26.1 hp26.2 hx
          refine hGl ?_
          clear hGl gGl
          have hcell3 : s₃.heap.IsCell (L + 1) (some (.ref d)) := let ⟨o, ho, r⟩ := hcell26; ⟨o, hst _ _ ho, r⟩
          walk1
          refine comp_cell (by rfl) (by rfl) (by decide) (by rfl) hcell3 ?_
          walk1
          refine heard_item (hst _ _ hd26) hkd hz ?_
          exact ⟨⟨a', q.1, tq, av', x, rfl, ht, hx, hzx⟩, _, _, rfl, fun _ _ e => e⟩
        case cb4 =>
          intro D1 C1 h27 tk27 m27 ys1 n1' hP1 F27 N27 hne27 hD27 hn27 hC27 hCD27 st27
          refine comp_done F27 N27 hn27 hC27 hCD27 (by obtain ⟨oL, _, _, hL, _⟩ := F26.ns; rw [hL]; simp) F26.keep (fun q hq => by rw [(N26 q hq).1]; simp) (fun h28 t28 _ st28 F28 N28 => ?_) st27
          rw [List.filter_eq_self.mpr fun _ _ => rfl] at hP1
          have a1 := told_heard tt26 hP1
          have e1 := (N28 _ (.head _)).1
          clear F27 N27 hn27 hne27 hC27 hCD27 st27 hP1
          dsimp only at st28 hD27 ⊢
          have te28 := st28 _ _ te26
          have tt28 := tt26.imp fun _ _ z => ToldV.keeps z (TupS.of st28) fun l vs n o e => ⟨st28 _ _ e, o⟩
          refine ListComp_open (by with_unfolding_all rfl) (by rfl) (by decide) ?_
          k_steps
          dsimp only [Hold]
          refine' comp_all (fun v m => ∃ a t av, v = .ref a ∧ IsTup h28 a [t, av].toArray ∧ m (Str.ofString "given") = some av) (fun _ => true) (fun v z _ => GivenF h28 v z) ?da1 ?da2 ?da3 ?da4 ?da5 ?da6 ?da7 ?da8 ?da9 ?db1 ?db2 ?db3 ?db4
          case da2 => exact rfl
          case da3 => exact goes_tuple
          case da4 => decide
          case da5 => rfl
          case da6 => exact ⟨_, te28, rfl, _, rfl⟩
          case da7 => exact F28
          case da8 => exact N28
          case da9 => exact line_of htl
          case da1 => exact fun _ _ _ _ _ z => z
          case db1 =>
            intro C' v s₃ m₃ Q' E' hv hn hst _ k
            refine gl_in fun gGl hGl => ?_
            obtain ⟨q, hq, a', tq, av', rfl, ht, _⟩ := tt28.memM hv
            refine hGl ?_
            clear hGl gGl
            refine comp_assign2 rfl (by rfl) (by rfl) (by rfl) hn (ht.keeps hst) fun h' tk hn' hb' => ?_
            exact k h' _ tk hn' ⟨a', _, av', rfl, ht, by rfl⟩ hb'
          case db2 =>
            intro C' v s₃ m₃ E' hv hn hpp hst _
            exact wpAny_tests_nil ⟨rfl, _, _, rfl, fun _ _ e => e⟩
          case db3 =>
            intro C' v s₃ m₃ E' hv _ hn hXr hst _
            refine gl_in fun gGl hGl => ?_
            obtain ⟨a', t', av', rfl, ht, hm⟩ := hXr
            refine hGl ?_
            clear hGl gGl
            exact comp_name (by rfl) (by rfl) (by decide) hn hm ⟨⟨a', t', rfl, ht⟩, _, _, rfl, fun _ _ e => e⟩
          case db4 =>
            intro D2' C2 h29 tk29 m29 ys2 n2' hP2 F29 N29 hne29 hD29 hn29 hC29 hCD29 st29
            refine comp_done F29 N29 hn29 hC29 hCD29 (by obtain ⟨oL, _, _, hL, _⟩ := F28.ns; rw [hL]; simp) F28.keep (fun q hq => by rw [(N28 q hq).1]; simp) (fun h30 t30 _ st30 F30 N30 => ?_) st29
            rw [List.filter_eq_self.mpr fun _ _ => rfl] at hP2
            have a2 := told_given tt28 hP2
            dsimp only at st30 ⊢
            have e2 := (N30 _ (.head _)).1
            have e1' := st30 _ _ e1
            have a1' := a1.imp fun _ _ z => AnsV.keeps (ok' := fun l => l ∉ ra.lists ∧ l ≠ td) z fun l vs n o e => ⟨st30 _ _ (st28 _ _ e), o⟩
            have a2' := a2.imp fun _ _ z => AnsV.keeps (ok' := fun l => l ∉ ra.lists ∧ l ≠ td) z fun l vs n o e => ⟨st30 _ _ e, o⟩
            have b30 : But [L, L + 1, I] h25 h30 := fun a o n e => st30 _ _ (st28 _ _ (b26 a o n e))
            have N31 : News g L h30 ((L + 1, o23) :: (I, oI) :: rest3) := fun p hp => N30 p (.tail _ (.tail _ hp))
            clear F26 N26 F28 N28 F29 N29 N30 b26 st28 st30 te28 tt28 hcell26 hd26 hp26 te26 tt26 hn29 hne29 hC29 hCD29 st29 hP2 a1 a2 e1
            refine eq_anss r.ul64 e1' e2 a1' a2' ?_
            rw [← RF.same]
            clear e1' e2 a1' a2'
            (try dsimp only)
            k_steps
            · rename_i hx; simp at hx
            rename_i hx; clear hx
            have LH30 := LH25.quiet qq25 b30
            have hd30 := b30 _ _ nd hd25
            have hp30 := hp25.keeps (ok' := fun l => l ∉ ra.lists ∧ l ≠ td) fun l vs n o e => ⟨qq25.list b30 e, o⟩
            have hit30 := hit25.keeps' (qq25.tups b30) fun _ _ e => qq25.list b30 e
            have hav30 := hav25.keeps (ok' := fun l => l ∉ ra.lists ∧ l ≠ td) fun l vs n o e => ⟨qq25.list b30 e, o⟩
            have hta30 : TextsIs h30 ta (thenP st.rows ab) := by obtain ⟨v1, v2, e1, e2, e3⟩ := hta; exact ⟨v1, v2, qq25.list b30 e1, e2, e3⟩
            have hna30 : TextsIs h30 na (nowP st.rows ab) := by obtain ⟨v1, v2, e1, e2, e3⟩ := hna; exact ⟨v1, v2, qq25.list b30 e1, e2, e3⟩
            have eD30 := qq25.list b30 eD25
            have eC30 := qq25.list b30 eC25
            have tx30 := tx25.imp fun _ _ z => z.keeps (qq25.tups b30)
            have vC30 := vC25.imp fun _ _ z => z.keeps (qq25.tups b30)
            have ax30 := ax25.keeps (qq25.tups b30)
            have hcv30 := hcv25.keeps (qq25.tups b30)
            have hc30 : h30.get? (L + 1) = some o23 ∧ L + 1 ≠ L ∧ g.get? (L + 1) = none := N31 _ (.head _)
            have hI30 : h30.get? I = some oI ∧ I ≠ L ∧ g.get? I = none := N31 (I, oI) (.tail _ (.head _))
            clear LH25 hd25 hp25 hit25 hav25 hta hna eD25 eC25 tx25 vC25 ax25 hcv25 hT25 hI25 hc25 qq25 b30 te25 tt25 sup3
            dsimp only [Hold]
            cases hf : freeP st.rows ab with
            | false =>
              simp only [hf] at F30
              have hst := RF.no hf
              cases hst
              refine wpAny_If ?_
              k_steps
              exact law_end (.inl rfl) F30 hI30 hcI hc30 hd23 LH30 eC30 vC30 rdL (by exact n1) (by exact n2) (by exact n3) (by exact n4) hloop' hinv' hIc rg tdg
            | true =>
              simp only [hf] at F30
              have qq30 := quiet_of F30 LH30.rows rdL hc30.1 hd23 hI30.1 hcI
              have aL : ∀ x, x ∈ [L, L + 1, I] → x ∉ ra.lists := fun x m ha => by
                refine gl_in fun gGl hGl => ?_
                obtain ⟨v1, v2, e⟩ := LH30.rows.seqs x ha
                refine hGl ?_
                clear hGl gGl
                exact qq30.notList e m
              have tL : ∀ x, x ∈ [L, L + 1, I] → x ≠ td := fun x m e => by
                refine gl_in fun gGl hGl => ?_
                obtain ⟨v1, v2, e1, _⟩ := LH30.told
                refine hGl ?_
                clear hGl gGl
                exact qq30.notList e1 (e ▸ m)
              have aI := aL I (by simp)
              have aK := aL (L + 1) (by simp)
              have tI := tL I (by simp)
              have tK := tL (L + 1) (by simp)
              by_cases h6 : c.deed = 6
              · obtain ⟨r1, hk1, hst⟩ := RF.take hf h6
                cases hst
                rw [show ((c.deed : Int) == 6) = true by rw [h6]; rfl] at q4
                refine wpAny_If ?_
                k_steps
                refine tak_spec (r.less (by decide)) G F30.keep (fun a ha => (rg a ha).1) LH30.rows (small_of hinv (Nat.lt_trans hi14 (by decide))) ax30 abg (htk h6) hk1 fun h31 tk31 b31 hr31 => ?_
                dsimp only at b31 hr31 ⊢
                have LH31 := LH30.rows' b31 hr31
                have t31 := TupS.but b31 LH30.rows.lists
                have F31 := b31.fr F30 (fun a ha => (rg a ha).1) fun q => (rg _ q).2 rfl
                have hc31 : h31.get? (L + 1) = some o23 ∧ L + 1 ≠ L ∧ g.get? (L + 1) = none := ⟨b31 _ _ aK hc30.1, hc30.2⟩
                have hI31 : h31.get? I = some oI ∧ I ≠ L ∧ g.get? I = none := ⟨b31 _ _ aI hI30.1, hI30.2⟩
                refine gl_in fun gGl hGl => ?_
                obtain ⟨rest4, NS4, nx4, sup4, -⟩ := snapshot F31 [L + 1, I]
                refine hGl ?_
                clear hGl gGl
                have N32 : News g L h31 ((L + 1, o23) :: (I, oI) :: rest4) := news_cons hc31 (news_cons hI31 NS4)
                have qq31 := quiet_of F31 LH31.rows rdL hc31.1 hd23 hI31.1 hcI
                have LH32 : LawH w.params h31 ra D2 td It ⟨r1, tr, st.told, (doneP tr).1⟩ := ⟨hr31, ⟨tv, _, b31 _ _ nD2.1 eD30, tx30.imp fun _ _ z => z.keeps t31⟩, LH31.told, hit30.keeps' t31 (fun _ _ e => b31 _ _ nIt.1 e), ⟨nD2.1, LH31.apart.2.1, nIt.1, nD2.2, nIt.2⟩⟩
                clear F30 N31
                k_steps
                rename Fr _ _ _ _ => F33
                rename News _ _ _ _ => N33
                have b33 := sup4 _ F33.keep (fun p hp => (N33 p (.tail _ (.tail _ (.tail _ hp)))).1)
                exact law_end (.inl rfl) F33 (N33 (I, oI) (.tail _ (.tail _ (.head _)))) hcI (N33 (L + 1, o23) (.tail _ (.head _))) hd23 (LH32.quiet qq31 b33) (qq31.list b33 (b31 _ _ hC1 eC30)) (vC30.imp fun _ _ z => (z.keeps t31).keeps (qq31.tups b33)) rdL (by exact n1) (by rfl) (by exact n3) (by rfl) hloop' hinv' hIc rg tdg
              · rw [show ((c.deed : Int) == 6) = false by simpa using fun e => h6 (by omega)] at q4
                cases hput h6
                refine wpAny_If ?_
                k_steps
                refine put_spec (r.less (by decide)) G F30.keep (fun a ha => (rg a ha).1) LH30.rows (small_of hinv (Nat.lt_trans hi14 (by decide))) ax30 abg hta30 nta.1 hna30 nna.1 fun h31 tk31 b31 hr31 => ?_
                dsimp only at b31 hr31 ⊢
                have LH31 := LH30.rows' b31 hr31
                have t31 := TupS.but b31 LH30.rows.lists
                have F31 := b31.fr F30 (fun a ha => (rg a ha).1) fun q => (rg _ q).2 rfl
                have hc31 : h31.get? (L + 1) = some o23 ∧ L + 1 ≠ L ∧ g.get? (L + 1) = none := ⟨b31 _ _ aK hc30.1, hc30.2⟩
                have hI31 : h31.get? I = some oI ∧ I ≠ L ∧ g.get? I = none := ⟨b31 _ _ aI hI30.1, hI30.2⟩
                refine gl_in fun gGl hGl => ?_
                obtain ⟨rest4, NS4, nx4, sup4, -⟩ := snapshot F31 [L + 1, I]
                obtain ⟨ts, tn, te31, tt31⟩ := LH31.told
                have N32 : News g L h31 ((td, W.listOf ts.toArray tn) :: (L + 1, o23) :: (I, oI) :: rest4) := news_cons ⟨te31, tdL, tdg⟩ (news_cons hc31 (news_cons hI31 NS4))
                have qq31 := quiet_of F31 LH31.rows rdL hc31.1 hd23 hI31.1 hcI
                have LH32 : LawH w.params h31 ra D2 td It ⟨putP st.rows c (thenP st.rows c) (nowP st.rows c), tr, st.told, (doneP tr).1⟩ := ⟨hr31, ⟨tv, _, b31 _ _ nD2.1 eD30, tx30.imp fun _ _ z => z.keeps t31⟩, LH31.told, hit30.keeps' t31 (fun _ _ e => b31 _ _ nIt.1 e), ⟨nD2.1, LH31.apart.2.1, nIt.1, nD2.2, nIt.2⟩⟩
                clear F30 N31
                obtain ⟨ca', u1, u2, u3, u4, u5, u6, u7, hca, hct30⟩ := hcv30
                refine hGl ?_
                clear hGl gGl
                cases hca
                have hct31 := t31 _ _ hct30
                k_steps
                (try dsimp only [Hold])
                refine item_tupleT hct31 (by decide) (by decide) rfl rfl ?_
                (try dsimp only)
                k_steps
                · rename_i hg2 _
                  have hg2 : c.deed > 2 := by omega
                  obtain ⟨hask, hst⟩ := RF.ask hf h6 hg2
                  cases hst
                  have hnl : ∀ l vs n, (l ∉ ra.lists ∧ l ≠ td) → h30.get? l = some (W.listOf vs n) → h31.get? l = some (W.listOf vs n) ∧ (l ∉ ra.lists ∧ l ≠ td) := fun l vs n o e => ⟨b31 _ _ o.1 e, o⟩
                  have hp31 := hp30.keeps hnl
                  have hav31 := hav30.keeps hnl
                  have hd31 := b31 _ _ (fun m => by obtain ⟨v1, v2, e⟩ := LH30.rows.seqs d m; rw [e] at hd30; cases hd30; obtain ⟨es, ep, ⟨e1, _⟩, _⟩ := hkd; exact absurd e1 (by simp [W.listOf])) hd30
                  (try dsimp only [Hold])
                  refine item_tupleT hct31 (by decide) (by decide) rfl rfl ?_
                  (try dsimp only)
                  k_steps
                  (try dsimp only [Hold])
                  refine gl_in fun gGl hGl => ?_
                  obtain ⟨hz, hzv, hza⟩ := heard_get hp31.1 hp31.2 hask
                  refine hGl ?_
                  clear hGl gGl
                  refine heard_item hd31 hkd hzv ?_
                  (try dsimp only)
                  k_steps
                  refine ne_ans r.ul64 hza hav31 ?_
                  rw [show (!decide (ansP st.rows c = ansP st.rows c)) = false by simp]
                  (try dsimp only)
                  k_steps
                  (try dsimp only [Hold])
                  refine listMethod_K N32 (by k_mem) PySem.F.slot_list_append PySem.F.type_list_append ?_
                  k_steps
                  (try dsimp only [Hold])
                  refine item_tupleT hct31 (by decide) (by decide) rfl rfl ?_
                  (try dsimp only)
                  k_steps
                  rename Fr _ _ _ _ => F33
                  rename News _ _ _ _ => N33
                  rename_i T33 h33 lT33
                  have b33 := sup4 _ F33.keep (fun p hp => (N33 p (.tail _ (.tail _ (.tail _ (.tail _ hp))))).1)
                  have te33 := (N33 (td, W.listOf ts.toArray tn) (.tail _ (.head _))).1
                  have LH33 := LH32.quiet qq31 b33
                  have tT33 : IsTup h33 T33 [.int (c.turn : Nat) u3, av].toArray := ⟨_, (N33 _ (.head _)).1, rfl, _, rfl⟩
                  have tv33 : ToldV (fun l => l ∉ ra.lists ∧ l ≠ td) h33 (.ref T33) (c.turn, ansP st.rows c) := ⟨T33, u3, av, rfl, tT33, hav31.keeps fun l vs n o e => ⟨qq31.list b33 e, o⟩⟩
                  have hc33 := (N33 (L + 1, o23) (.tail _ (.tail _ (.head _)))).1
                  have hI33 := (N33 (I, oI) (.tail _ (.tail _ (.tail _ (.head _))))).1
                  refine wpAny_list_append_plain (hsz := by rw [List.size_toArray, sizeLine_eq]; have e31 : ts.length = st.told.length := tt31.length; have := hinv.tlen; omega) ⟨tn, te33⟩ fun h34 hl34 hs34 => ?_
                  refine gl_in fun gGl hGl => ?_
                  obtain ⟨n34, hl34⟩ := hl34
                  have b34 : But [td] h33 h34 := But.same hs34
                  have F34 := b34.fr F33 (fun a ha => by cases List.mem_singleton.mp ha; exact tdg) (fun q => tdL (List.mem_singleton.mp q).symm)
                  have LH34 := LH33.told' te33 tv33 b34 (by simpa using hl34)
                  have t34 : TupS h33 h34 := TupS.one te33 (fun _ _ _ => by simp [W.listOf]) b34
                  have hc34 : h34.get? (L + 1) = some o23 ∧ L + 1 ≠ L ∧ g.get? (L + 1) = none := ⟨b34 _ _ (by simpa using tK) hc33, hc31.2⟩
                  have hI34 : h34.get? I = some oI ∧ I ≠ L ∧ g.get? I = none := ⟨b34 _ _ (by simpa using tI) hI33, hI31.2⟩
                  have eC34 := b34 _ _ (by simpa using hC2) (qq31.list b33 (b31 _ _ hC1 eC30))
                  have vC34 := vC30.imp fun _ _ z => ((CallV.keeps z t31).keeps (qq31.tups b33)).keeps t34
                  obtain ⟨rest5, NS5, nx5, sup5, -⟩ := snapshot F34 [L + 1, I]
                  refine hGl ?_
                  clear hGl gGl
                  have N34 : News g L h34 ((L + 1, o23) :: (I, oI) :: rest5) := news_cons hc34 (news_cons hI34 NS5)
                  have qq34 := quiet_of F34 LH34.rows rdL hc34.1 hd23 hI34.1 hcI
                  clear F33 N33
                  (try dsimp only)
                  k_steps
                  rename Fr _ _ _ _ => F35
                  rename News _ _ _ _ => N35
                  have b35 := sup5 _ F35.keep (fun p hp => (N35 p (.tail _ (.tail _ (.tail _ hp)))).1)
                  exact law_end (.inl rfl) F35 (N35 (I, oI) (.tail _ (.tail _ (.head _)))) hcI (N35 (L + 1, o23) (.tail _ (.head _))) hd23 (LH34.quiet qq34 b35) (qq34.list b35 eC34) (vC34.imp fun _ _ z => CallV.keeps z (qq34.tups b35)) rdL (by exact n1) (by rfl) (by exact n3) (by rfl) hloop' hinv' hIc rg tdg
                · rename_i hg2 _
                  cases RF.put hf h6 (by omega)
                  rename Fr _ _ _ _ => F33
                  rename News _ _ _ _ => N33
                  have b33 := sup4 _ F33.keep (fun p hp => (N33 p (.tail _ (.tail _ (.tail _ (.tail _ hp))))).1)
                  exact law_end (.inl rfl) F33 (N33 (I, oI) (.tail _ (.tail _ (.tail _ (.head _))))) hcI (N33 (L + 1, o23) (.tail _ (.tail _ (.head _)))) hd23 (LH32.quiet qq31 b33) (qq31.list b33 (b31 _ _ hC1 eC30)) (vC30.imp fun _ _ z => (z.keeps t31).keeps (qq31.tups b33)) rdL (by exact n1) (by rfl) (by exact n3) (by rfl) hloop' hinv' hIc rg tdg
  · intro m nx h5 tk5 hJ F5 N5
    refine hJ.elim fun lg it st h0 oc cv rest m1 m2 m3 m4 hloop hinv LH eC vC qq hnx hoc hre sup hin => ?_
    clear hJ
    subst hnx
    clear F2 N2 nx2 sup2 all2 N3 Q2 LH2 e2 v2 hnI hrd hNC
    refine gl_in fun gGl hGl => ?_
    obtain ⟨st2, hl2, hinv2, ht2⟩ := all_ok (ns.take 6)
    refine hGl ?_
    clear hGl gGl
    rw [List.take_of_length_le (by rw [← vC.length]; omega)] at hloop
    rw [hl2] at hloop
    cases Option.some.inj hloop
    have hend := end_ok hinv2 ht2
    unfold endP at hend
    split at hend
    case h_2 => cases hend
    rename_i cm cl hm1 hm2
    simp only [Bool.and_eq_true, decide_eq_true_eq] at hend
    refine gl_in fun gGl hGl => ?_
    obtain ⟨⟨hend1, hend2⟩, hend3⟩ := hend
    have hw14 : ws.length ≤ 14 := by
      rw [vC.length, callsFrom_len, List.length_append, List.length_take]
      have e8 : own8.length = 8 := rfl
      omega
    have hsm14 := small_of hinv (show ws.length < 100 from Nat.lt_of_le_of_lt hw14 (by decide))
    have b5 := sup _ F5.keep (fun p hp => (N5 p (.tail _ hp)).1)
    have LH5 := LH.quiet qq b5
    clear LH b5 sup qq hin hre eC vC N5 hl2 hloop
    obtain ⟨lv, ln, le5, lx5⟩ := LH5.log
    have hle := lx5.length
    have hll : lv.length < 100 := by
      have := hinv.len
      omega
    have qq5 := quietL F5 rdL
    obtain ⟨rest5, N6, nx6, sup6, -⟩ := snapshot F5 []
    refine hGl ?_
    clear hGl gGl
    (try dsimp only)
    k_steps
    (try dsimp only [Hold])
    refine len_list ⟨_, le5, rfl, _, rfl⟩ (by rw [List.size_toArray]; omega) ?_
    rw [List.size_toArray]
    k_steps
    (try dsimp only [Hold])
    refine gl_in fun gGl hGl => ?_
    obtain ⟨_, hvm, am, w1, w2, w3, w4, w5, w6, w7, rfl, hmt⟩ := lx5.get hm1
    refine hGl ?_
    clear hGl gGl
    have efd : ((lv.length : Nat) : Int).fdiv 2 = ((st.log.length / 2 : Nat) : Int) := by rw [Int.fdiv_eq_ediv_of_nonneg _ (by decide), hle]; rfl
    have hmlt : st.log.length / 2 < lv.length := (List.getElem?_eq_some_iff.mp hvm).1
    rw [efd]
    refine item_listL ⟨_, le5, rfl, _, rfl⟩ (x := .ref am) (Int.natCast_nonneg _) (fits63 (Nat.lt_trans hmlt hll)) (by rw [Int.toNat_natCast]; exact hvm) ?_
    (try dsimp only)
    k_steps
    (try dsimp only [Hold])
    refine item_tupleT hmt (by decide) (by decide) rfl rfl ?_
    (try dsimp only)
    k_steps
    (try dsimp only [Hold])
    rename Fr _ _ _ _ => F7
    rename News _ _ _ _ => N7
    rename_i h7 tk7
    have b7 := sup6 _ F7.keep fun p hp => (N7 p hp).1
    refine bl_spec (b := false) (key := true) (vs := lv) (ks := hours st.log) (k := [cm.hour]) (r.less (by decide)) (G.keeps F7.keep) ⟨_, qq5.list b7 le5, rfl, _, rfl⟩ (hours_keys (lx5.imp fun _ _ z => CallV.keeps z (qq5.tups b7))) ⟨_, _, rfl, rfl⟩ (Nat.lt_trans hll (by decide)) ?_
    intro h8 tk8 u8 k8
    have F8 := F7.keeps k8
    have N8 := N7.grown k8
    clear F7 N7
    (try dsimp only)
    k_steps
    (try dsimp only [Hold])
    generalize hk1 : bl (hours st.log) [cm.hour] = kk1 at hend1 ⊢
    refine gl_in fun gGl hGl => ?_
    obtain ⟨g1, g2, g3⟩ := fin_good hinv hw14 kk1
    refine hGl ?_
    clear hGl gGl
    have b8 := sup6 _ F8.keep fun p hp => (N8 p hp).1
    refine kmk_slice (s := ⟨_, _, _, _, _⟩) F8 N8 ⟨_, qq5.list b8 le5, rfl, _, rfl⟩ .none (.int _ _) ?_ (by with_unfolding_all rfl) (by intro _; with_unfolding_all rfl) (size_line (Nat.lt_trans hll (by decide)))
    intro D9 h9 F9 N9 l9
    rw [pick_to] at N9
    clear F8 N8 b7 b8
    (try dsimp only)
    k_steps
    (try dsimp only [Hold])
    have b9 := sup6 _ F9.keep fun p hp => (N9 p (.tail _ hp)).1
    refine done_spec (cs := st.log.take kk1) (r.less (by decide)) (G.keeps F9.keep) (N9 _ (.head _)).1 ((lx5.imp fun _ _ z => CallV.keeps z (qq5.tups b9)).take _) g1 g2 g3 ?_
    intro h10 tk10 T10 d10 Ia o10 kvs10 k10 hT10 _ _ _ hia _ _
    rw [hend1] at hia
    have b10 : But [L] h5 h10 := fun a o n e => k10 _ _ (b9 a o n e)
    have F10 := F9.keeps k10
    have LH10 := LH5.quiet qq5 b10
    have hmt10 := qq5.tups b10 _ _ hmt
    clear F9 N9 b9 k10 LH5 hmt sup6 lx5 le5 g1 g2 g3
    refine gl_in fun gGl hGl => ?_
    obtain ⟨rest10, N10, nx10, sup10, -⟩ := snapshot F10 []
    have qq10 := quietL F10 rdL
    obtain ⟨lv, ln, le10, lx10⟩ := LH10.log
    refine hGl ?_
    clear hGl gGl
    have hll : lv.length < 100 := by
      have := hinv.len
      have := lx10.length
      omega
    (try dsimp only)
    k_steps
    (try dsimp only [Hold])
    refine item_tupleT hT10 (by decide) (by decide) rfl rfl ?_
    (try dsimp only)
    k_steps
    (try dsimp only [Hold])
    rename Fr _ _ _ _ => F11
    rename News _ _ _ _ => N11
    have b11 := sup10 _ F11.keep fun p hp => (N11 p hp).1
    refine br_spec (b := false) (key := true) (vs := lv) (ks := hours st.log) (k := [cm.hour]) (r.less (by decide)) (G.keeps F11.keep) ⟨_, qq10.list b11 le10, rfl, _, rfl⟩ (hours_keys (lx10.imp fun _ _ z => CallV.keeps z (qq10.tups b11))) ⟨_, _, rfl, rfl⟩ (Nat.lt_trans hll (by decide)) ?_
    intro h12 tk12 u12 k12
    have F12 := F11.keeps k12
    have N12 := N11.grown k12
    clear F11 N11
    (try dsimp only)
    k_steps
    (try dsimp only [Hold])
    generalize hk2 : br (hours st.log) [cm.hour] = kk2 at hend2 ⊢
    refine gl_in fun gGl hGl => ?_
    obtain ⟨g1, g2, g3⟩ := fin_good hinv hw14 kk2
    refine hGl ?_
    clear hGl gGl
    have b12 := sup10 _ F12.keep fun p hp => (N12 p hp).1
    refine kmk_slice (s := ⟨_, _, _, _, _⟩) F12 N12 ⟨_, qq10.list b12 le10, rfl, _, rfl⟩ .none (.int _ _) ?_ (by with_unfolding_all rfl) (by intro _; with_unfolding_all rfl) (size_line (Nat.lt_trans hll (by decide)))
    intro D13 h13 F13 N13 l13
    rw [pick_to] at N13
    clear F12 N12 b12 b11
    (try dsimp only)
    k_steps
    (try dsimp only [Hold])
    have b13 := sup10 _ F13.keep fun p hp => (N13 p (.tail _ hp)).1
    refine done_spec (cs := st.log.take kk2) (r.less (by decide)) (G.keeps F13.keep) (N13 _ (.head _)).1 ((lx10.imp fun _ _ z => CallV.keeps z (qq10.tups b13)).take _) g1 g2 g3 ?_
    intro h14 tk14 T14 d14 Ib o14 kvs14 k14 hT14 _ _ _ hib _ _
    rw [hend2] at hib
    have b14 : But [L] h10 h14 := fun a o n e => k14 _ _ (b13 a o n e)
    have F14 := F13.keeps k14
    have LH14 := LH10.quiet qq10 b14
    have hia14 := hia.keeps' (qq10.tups b14) fun _ _ e => qq10.list b14 e
    have qq14 := quietL F14 rdL
    refine gl_in fun gGl hGl => ?_
    obtain ⟨rest14, N14, nx14, sup14, -⟩ := snapshot F14 []
    refine hGl ?_
    clear hGl gGl
    clear F13 N13 b13 k14 LH10 hia sup10 lx10 le10 g1 g2 g3 b14 qq10
    (try dsimp only)
    k_steps
    (try dsimp only [Hold])
    refine item_tupleT hT14 (by decide) (by decide) rfl rfl ?_
    (try dsimp only)
    k_steps
    (try dsimp only [Hold])
    refine wpAny_If ?_
    k_steps
    (try dsimp only [Hold])
    rename Fr _ _ _ _ => F16
    rename News _ _ _ _ => N16
    have b16 := sup14 _ F16.keep fun p hp => (N16 p (.tail _ hp)).1
    refine stood_spec (p := [cm.hour]) (r.less (by decide)) (G.keeps F16.keep) (LH14.quiet qq14 b16).rows hsm14 ⟨_, [_], rfl, ⟨_, (N16 _ (.head _)).1, rfl, _, rfl⟩, by exact .cons _ _ .nil⟩ rlo ?_
    intro h17 tk17 D17 k17 _ hi17
    have b17 : But [L] h14 h17 := fun a o n e => k17 _ _ (b16 a o n e)
    have F17 := F16.keeps k17
    have N17 : News g L h17 rest14 := fun p hp => N16.grown k17 p (.tail _ hp)
    clear F16 N16 b16 k17
    (try dsimp only)
    refine ne_items r.ul64 (hia14.keeps' (qq14.tups b17) fun _ _ e => qq14.list b17 e) hi17 ?_
    rw [show (!decide (stoodP st.rows [cm.hour] = stoodP st.rows [cm.hour])) = false by simp]
    clear hi17 b17
    (try dsimp only)
    k_steps
    (try dsimp only [Hold])
    rename Fr _ _ _ _ => F18
    rename News _ _ _ _ => N18
    have b18 := sup14 _ F18.keep fun p hp => (N18 p (.tail _ hp)).1
    refine stood_spec (p := [cm.hour + 1]) (r.less (by decide)) (G.keeps F18.keep) (LH14.quiet qq14 b18).rows hsm14 ⟨_, [_], rfl, ⟨_, (N18 _ (.head _)).1, rfl, _, rfl⟩, by exact .cons _ _ .nil⟩ rlo ?_
    intro h19 tk19 D19 k19 _ hi19
    have b19 : But [L] h14 h19 := fun a o n e => k19 _ _ (b18 a o n e)
    have F19 := F18.keeps k19
    have N19 : News g L h19 rest14 := fun p hp => N18.grown k19 p (.tail _ hp)
    clear F18 N18 b18 k19
    (try dsimp only)
    refine ne_items r.ul64 (hib.keeps' (qq14.tups b19) fun _ _ e => qq14.list b19 e) hi19 ?_
    rw [show (!decide (stoodP st.rows [cm.hour + 1] = stoodP st.rows [cm.hour + 1])) = false by simp]
    (try dsimp only)
    k_steps
    (try dsimp only [Hold])
    refine gl_in fun gGl hGl => ?_
    obtain ⟨lv, ln, le14, lx14⟩ := LH14.log
    rw [List.getLast?_eq_getElem?] at hm2
    obtain ⟨_, hvl, al, y1, y2, y3, y4, y5, y6, y7, rfl, hlt⟩ := lx14.get hm2
    refine hGl ?_
    clear hGl gGl
    rw [← lx14.length] at hvl
    refine item_last ⟨_, qq14.list b19 le14, rfl, _, rfl⟩ hvl ?_
    (try dsimp only)
    k_steps
    (try dsimp only [Hold])
    refine item_tupleT (qq14.tups b19 _ _ hlt) (by decide) (by decide) rfl rfl ?_
    (try dsimp only)
    k_steps
    (try dsimp only [Hold])
    rename Fr _ _ _ _ => F20
    rename News _ _ _ _ => N20
    have b20 := sup14 _ F20.keep fun p hp => (N20 p (.tail _ hp)).1
    refine stood_spec (p := [cl.hour + 1]) (r.less (by decide)) (G.keeps F20.keep) (LH14.quiet qq14 b20).rows hsm14 ⟨_, [_], rfl, ⟨_, (N20 _ (.head _)).1, rfl, _, rfl⟩, by exact .cons _ _ .nil⟩ rlo ?_
    intro h21 tk21 D21 k21 _ hi21
    have b21 : But [L] h14 h21 := fun a o n e => k21 _ _ (b20 a o n e)
    have F21 := F20.keeps k21
    have N21 : News g L h21 rest14 := fun p hp => N20.grown k21 p (.tail _ hp)
    clear F20 N20 b20 k21
    (try dsimp only)
    refine eq_items r.ul64 (LH14.items.keeps' (qq14.tups b21) fun _ _ e => qq14.list b21 e) hi21 ?_
    rw [show decide (st.items = stoodP st.rows [cl.hour + 1]) = true by simpa using hend3]
    (try dsimp only)
    k_steps
    exact ret _ _ F21.keep
end
end
end Mine
end
open PySem PySem.W PyProof.Rows PySem.Calls PySem.Spec
set_option Elab.async false
set_option maxRecDepth 100000
set_option maxHeartbeats 8000000
namespace Mine
theorem fillK_L2 : (PySem.Challenge.rw_pg0283_01, hd.heap_1) = (PySem.Challenge.rw_pg0283_01, hd.heap_1) := by k_fill; rfl
end Mine
section
local macro_rules | `(tactic| k_qdec) => `(tactic| decide +kernel)
theorem PySem.Challenge.cw_pg0283_01_holds : PySem.Challenge.rw_pg0283_01.Holds := by
  refine Mine.hd ?_
  k_go0
  all_goals try k_fold
  dsimp only
  rename_i w s0 s1 mg mb G Y fa o pm doc hoF hgens KX X V GL T B TE TW w10 w9 M w8 w7 hcd ns hs hlay0 hL1 hr1 hl2 w5 w4 sa vs w1 hL ra ww1 r0 hI hr hc1 hc0 K0 hD h1 tk1 F oc hoc N0 X0
  refine wpAny_mono (Q := fun fl s' => ∃ h' tk', s1.heap.StaysIn h' ∧ fl = .ret (.bool true) ∧ s' = { s1 with heap := h', toks := tk' }) (E := fun _ _ => False) ?W ?P1 ?P2
  case P2 => exact fun _ _ x => x.elim
  case W =>
    refine' Mine.law_walk ?ho ?r ?G ?F ?hm ?NC ?hcell ?hl ?hI ?hlen ?ret
    case ho => (k_is)
    case ret => (exact fun h' tk' k => ⟨_, _, k, rfl, rfl⟩)
    case F => (assumption)
    case r => (exact ⟨rfl, Nat.le_of_ble_eq_true rfl, Nat.le_of_ble_eq_true rfl⟩)
    case NC => (assumption)
    case hl => (assumption)
    case hI => (assumption)
    case hlen => (omega)
    case G => (exact ⟨KX, topRead_of T⟩)
    case hm => (exact rfl)
    case hcell => (exact hoc)
  case P1 => 
    rintro _ s' ⟨h', tk', k, rfl, rfl⟩
    refine ⟨.inl ⟨.bool true, .bool true, [], rfl, raisesW_false ?zzn, .bool true, ?zzp, unshared_nil⟩, k, rfl, hgens⟩
    case zzn => (wrow_none_raised)
    case zzp => (wrow_post)
end
