import PyProof.Rows.All
import Wide.All
import OpenK.AllK
import Wide.FinOn
import PySem.Challenge.RW_oz0055_01
set_option Elab.async false
set_option maxRecDepth 100000
set_option maxHeartbeats 8000000
set_option linter.unusedVariables false
section
open PySem PySem.W PyProof.Rows
namespace Mine
/-- the top's run on a tree of objects -/
def topRunT (tb : String → Option Builtin) (p : Program) (w : World) (n₀ : Nat) (ann : Option Value) : Nat → SharedT → Thread → Option SharedT
  | 0, _, _ => none
  | n + 1, s, t => match through t with
    | true => some s
    | false => match stepOk n₀ ann t with
      | false => none
      | true => match stepT (denote tb) p w s t with
        | some (s', t') => topRunT tb p w n₀ ann n s' t'
        | none => none
theorem topRunT_of {tb : String → Option Builtin} {p : Program} {w : World} {n₀ : Nat} {ann : Option Value} : ∀ {n : Nat} {s s' : SharedT} {t : Thread},
    topRunT tb p w n₀ ann n s t = some s' → topRun tb p w n₀ ann n s.abs t = some s'.abs
  | 0, _, _, _, h => by cases h
  | n + 1, s, s', t, h => by
    unfold topRunT at h
    unfold topRun
    cases he : through t with
    | true => rw [he] at h; cases h; rfl
    | false =>
      rw [he] at h
      cases hk : stepOk n₀ ann t with
      | false => rw [hk] at h; cases h
      | true =>
        rw [hk] at h
        cases hs : stepT (denote tb) p w s t with
        | none => rw [hs] at h; cases h
        | some r => obtain ⟨s₂, t₂⟩ := r; rw [hs] at h; dsimp only; rw [stepT_spec hs]; exact topRunT_of h
/-- the imports' run on a tree of objects -/
def impEndsT (tb : String → Option Builtin) (p : Program) (w : World) : Nat → SharedT → Thread → Option SharedT
  | 0, _, _ => none
  | n + 1, s, t => match t.atExitBegin with
    | some [] => some s
    | some (_ :: _) => none
    | none => match stepT (denote tb) p w s t with
      | some (s', t') => impEndsT tb p w n s' t'
      | none => none
theorem impEndsT_of {tb : String → Option Builtin} {p : Program} {w : World} : ∀ {n : Nat} {s s' : SharedT} {t : Thread},
    impEndsT tb p w n s t = some s' → importEnds tb p w n s.abs t = some s'.abs
  | 0, _, _, _, h => by cases h
  | n + 1, s, s', t, h => by
    unfold impEndsT at h
    unfold importEnds
    cases he : t.atExitBegin with
    | some l =>
      rw [he] at h
      cases l with
      | nil => cases h; rfl
      | cons a b => cases h
    | none =>
      rw [he] at h
      cases hs : stepT (denote tb) p w s t with
      | none => rw [hs] at h; cases h
      | some r => obtain ⟨s₂, t₂⟩ := r; rw [hs] at h; dsimp only; rw [stepT_spec hs]; exact impEndsT_of h
/-- a tree out of a list: the places b, a + b, 2 a + b .. -/
def grow (l : List Obj) : Nat → Nat → Nat → BT
  | 0, _, _ => .nil
  | f + 1, a, b => match l[b]? with
    | some o => .node o (grow l f (2 * a) (a + b)) (grow l f (2 * a) (2 * a + b))
    | none => .nil
theorem grow_get (l : List Obj) : ∀ (f a b i : Nat), i < f → a * i + b < l.length → (grow l f a b).get i = l[a * i + b]?
  | 0, _, _, _, h, _ => by omega
  | f + 1, a, b, i, h, hl => by
    have hb : b < l.length := Nat.lt_of_le_of_lt (Nat.le_add_left _ _) hl
    unfold grow
    rw [List.getElem?_eq_getElem hb]
    dsimp only
    rw [BT.get_node]
    by_cases h0 : i = 0
    · subst h0; simp [List.getElem?_eq_getElem hb]
    · rw [if_neg h0]
      by_cases h1 : i % 2 = 1
      · rw [if_pos h1]
        have e : 2 * a * (i / 2) + (a + b) = a * i + b := by
          have : i = 2 * (i / 2) + 1 := by omega
          generalize i / 2 = k at *
          subst this
          rw [Nat.mul_add, Nat.mul_one, ← Nat.add_assoc, Nat.mul_comm 2 a, Nat.mul_assoc]
        rw [grow_get l f (2 * a) (a + b) (i / 2) (by omega) (by omega), e]
      · rw [if_neg h1]
        have e : 2 * a * (i / 2 - 1) + (2 * a + b) = a * i + b := by
          have : i = 2 * (i / 2 - 1) + 2 := by omega
          generalize i / 2 - 1 = k at *
          subst this
          rw [Nat.mul_add, ← Nat.add_assoc, Nat.mul_comm 2 a, Nat.mul_assoc]
        rw [grow_get l f (2 * a) (2 * a + b) (i / 2 - 1) (by omega) (by omega), e]
def toT (s : Shared) : SharedT := ⟨grow s.heap.objs.toList s.heap.objs.toList.length 1 0, s.heap.objs.toList.length, s.heap.life, s.gens, s.drawn, s.toks, s.os⟩
theorem toT_abs (s : Shared) : (toT s).abs = s := by
  obtain ⟨⟨⟨l⟩, life⟩, gens, drawn, toks, os⟩ := s
  unfold toT SharedT.abs absHeap BT.list
  simp only [Shared.mk.injEq, Heap.mk.injEq, and_true]
  congr 1
  apply List.ext_getElem?
  intro i
  rw [List.getElem?_map]
  by_cases h : i < l.length
  · rw [List.getElem?_range h, List.getElem?_eq_getElem h]
    simp only [Option.map_some]
    rw [grow_get l l.length 1 0 i h (by omega)]
    simp [h]
  · rw [List.getElem?_eq_none (by rw [List.length_range]; omega), List.getElem?_eq_none (by omega)]; rfl
def topFromT (tb : String → Option Builtin) (p : Program) (w : World) (N : Nat) (s₀ : Shared) : Option Shared :=
  match s₀.heap.isNs mainGlobals && s₀.gens.size == 0 with
  | true => (topRunT tb p w s₀.heap.objs.size (s₀.heap.nsMap mainGlobals "__annotations__") N (toT s₀) (topStub p)).bind fun S₁ => match staticsOk (importedModules p.main.body) s₀.heap S₁.abs.heap && namesBound p S₁.abs.heap && gensDone S₁.abs && laidKept s₀.heap S₁.abs.heap with
      | true => some S₁.abs
      | false => none
  | false => none
theorem topFromT_of {tb : String → Option Builtin} {p : Program} {w : World} {N : Nat} {s₀ s₁ : Shared} (h : topFromT tb p w N s₀ = some s₁) : topFrom tb p w N s₀ = some s₁ := by
  unfold topFromT at h
  unfold topFrom
  cases hb : s₀.heap.isNs mainGlobals && s₀.gens.size == 0 with
  | false => rw [hb] at h; cases h
  | true =>
    rw [hb] at h
    dsimp only at h ⊢
    obtain ⟨S, e, e'⟩ := Option.bind_eq_some_iff.mp h
    have := topRunT_of e
    rw [toT_abs] at this
    rw [this]
    exact e'
def wholeT (tb : String → Option Builtin) (p : Program) (w : World) (N : Nat) : Option Shared :=
  (impEndsT tb (opening p) w N (toT (start (opening p)).1) (start (opening p)).2).bind fun A => (fenceModules? p A.abs).bind (topFromT tb p w N)
theorem wholeT_of {tb : String → Option Builtin} {p : Program} {w : World} {N : Nat} {s : Shared} (h : wholeT tb p w N = some s) : openEnds tb p w N = some s := by
  unfold wholeT at h
  unfold openEnds fencedOpening
  obtain ⟨A, e, e'⟩ := Option.bind_eq_some_iff.mp h
  obtain ⟨s₀, f, f'⟩ := Option.bind_eq_some_iff.mp e'
  have := impEndsT_of e
  rw [toT_abs] at this
  rw [this]
  show ((fenceModules? p A.abs).bind _) = _
  rw [f]
  exact topFromT_of f'
theorem left_of {p q : Program} {loose : List Str} {Xt : Shared → Bool} {α : Type} {Yf : Shared → α} {Ya : World → α} {N : Nat} {g0 : Bool}
    (h : ∀ w, (wholeT treeTable p w N).map (fun s => (openSeen q loose (importedModules p.main.body) Xt g0 s, Yf s)) = some (openGood q loose, Ya w)) : LeftO p q loose Xt Yf Ya N g0 := fun w => by
  obtain ⟨s, e, e'⟩ := Option.map_eq_some_iff.mp (h w)
  rw [wholeT_of e]
  exact congrArg some e'
section
open PySem.W.Fast
noncomputable def topRunQ (tb : String → Option Builtin) (p : Program) (w : World) (n₀ : Nat) (ann : Option Value) : Nat → SharedT → Thread → Option SharedT
  | 0, _, _ => none
  | n + 1, s, t => match through t with
    | true => some s
    | false => match tw6613529449190102663 n₀ ann t with
      | false => none
      | true => match tw10156331382660048174 (tw11892475500146522536 tb) p w s t with
        | some (s', t') => topRunQ tb p w n₀ ann n s' t'
        | none => none
noncomputable def impEndsQ (tb : String → Option Builtin) (p : Program) (w : World) : Nat → SharedT → Thread → Option SharedT
  | 0, _, _ => none
  | n + 1, s, t => match tw3805553451399329143 t with
    | some [] => some s
    | some (_ :: _) => none
    | none => match tw10156331382660048174 (tw11892475500146522536 tb) p w s t with
      | some (s', t') => impEndsQ tb p w n s' t'
      | none => none
noncomputable def topFromQ (tb : String → Option Builtin) (p : Program) (w : World) (N : Nat) (s₀ : Shared) : Option Shared :=
  match s₀.heap.isNs mainGlobals && s₀.gens.size == 0 with
  | true => (topRunQ tb p w s₀.heap.objs.size (tw8920871248978507458 s₀.heap mainGlobals "__annotations__") N (toT s₀) (topStub p)).bind fun S₁ => match staticsOk (tw5923862056798008813 p.main.body) s₀.heap S₁.abs.heap && namesBound p S₁.abs.heap && gensDone S₁.abs && laidKept s₀.heap S₁.abs.heap with
      | true => some S₁.abs
      | false => none
  | false => none
noncomputable def wholeQ (p : Program) (w : World) (N : Nat) : Option Shared :=
  (impEndsQ tw14364793385576792824 (opening p) w N (toT (tw1435165496053646825 (opening p)).1) (tw1435165496053646825 (opening p)).2).bind fun A => (tw14289696077712309145 p A.abs).bind (topFromQ tw14364793385576792824 p w N)
theorem topRunQ_eq : ∀ (tb : String → Option Builtin) (p : Program) (w : World) (n₀ : Nat) (ann : Option Value) (n : Nat) (s : SharedT) (t : Thread), topRunT tb p w n₀ ann n s t = topRunQ tb p w n₀ ann n s t
  | _, _, _, _, _, 0, _, _ => rfl
  | tb, p, w, n₀, ann, n + 1, s, t => by
    unfold topRunT topRunQ
    rw [te6613529449190102663, te10156331382660048174, te11892475500146522536]
    cases through t with
    | true => rfl
    | false =>
      dsimp only
      cases tw6613529449190102663 n₀ ann t with
      | false => rfl
      | true =>
        dsimp only
        cases tw10156331382660048174 (tw11892475500146522536 tb) p w s t with
        | none => rfl
        | some r => obtain ⟨a, b⟩ := r; exact topRunQ_eq tb p w n₀ ann n a b
theorem impEndsQ_eq : ∀ (tb : String → Option Builtin) (p : Program) (w : World) (n : Nat) (s : SharedT) (t : Thread), impEndsT tb p w n s t = impEndsQ tb p w n s t
  | _, _, _, 0, _, _ => rfl
  | tb, p, w, n + 1, s, t => by
    unfold impEndsT impEndsQ
    rw [te3805553451399329143, te10156331382660048174, te11892475500146522536]
    cases tw3805553451399329143 t with
    | some l => cases l <;> rfl
    | none =>
      dsimp only
      cases tw10156331382660048174 (tw11892475500146522536 tb) p w s t with
      | none => rfl
      | some r => obtain ⟨a, b⟩ := r; exact impEndsQ_eq tb p w n a b
theorem wholeQ_eq (p : Program) (w : World) (N : Nat) : wholeT treeTable p w N = wholeQ p w N := by
  unfold wholeT wholeQ
  rw [te14364793385576792824, te14289696077712309145, te1435165496053646825, impEndsQ_eq]
  congr 1
  funext A
  congr 1
  funext s₀
  unfold topFromT topFromQ
  rw [topRunQ_eq, te8920871248978507458, te5923862056798008813]
  all_goals rfl
end
/-- the def at a place of the text's top; of a class's body -/
def topDef (i : Nat) : Option (Arguments × List Stmt × Scope) := match PySem.Challenge.pw_oz0055_01.main.body[i]? with
  | some (.FunctionDef _ a b _ _ _ s _ _ _) => some (a, b, s)
  | _ => none
def clsDef (i j : Nat) : Option (Arguments × List Stmt × Scope) := match PySem.Challenge.pw_oz0055_01.main.body[i]? with
  | some (.ClassDef _ _ _ body _ _ _ _ _ _ _) => (match body[j]? with
    | some (.FunctionDef _ a b _ _ _ s _ _ _) => some (a, b, s)
    | _ => none)
  | _ => none
abbrev fnAt (name qual : Str) {params : Arguments} {body : List Stmt} {scope : Scope} {d : Option (Arguments × List Stmt × Scope)} (_h : d = some (params, body, scope)) (dV kV doc pm : Value) (an : Option Addr) (cdv ct : Value) : Obj :=
  ⟨.type "function", none, .func (fnOf name qual params body scope dV kV doc pm an cdv ct), #[]⟩
def KZ (P : Params) : Frag := [
  (nat_lit 3, ⟨(.type "dict"), none, (.dict (List.toArray [⟨PyData.keyHash P (Str.ofString "__name__"), (.str (Str.ofString "__name__") 165), (.str (Str.ofString "law_oz0055_01") 659)⟩, ⟨PyData.keyHash P (Str.ofString "__doc__"), (.str (Str.ofString "__doc__") 166), .none⟩, ⟨PyData.keyHash P (Str.ofString "__package__"), (.str (Str.ofString "__package__") 167), .none⟩, ⟨PyData.keyHash P (Str.ofString "__loader__"), (.str (Str.ofString "__loader__") 168), (.builtin "__main__.__loader__#opaque")⟩, ⟨PyData.keyHash P (Str.ofString "__spec__"), (.str (Str.ofString "__spec__") 169), .none⟩, ⟨PyData.keyHash P (Str.ofString "__annotations__"), (.str (Str.ofString "__annotations__") 170), (.ref 6)⟩, ⟨PyData.keyHash P (Str.ofString "__builtins__"), (.str (Str.ofString "__builtins__") 171), (.ref 4)⟩, ⟨PyData.keyHash P (Str.ofString "__file__"), (.str (Str.ofString "__file__") 173), (.str (Str.ofString "/claim/cut.py") 172)⟩, ⟨PyData.keyHash P (Str.ofString "__cached__"), (.str (Str.ofString "__cached__") 174), .none⟩, ⟨PyData.keyHash P (Str.ofString "fabs"), (.str (Str.ofString "fabs") 370), (.builtin "math.fabs")⟩, ⟨PyData.keyHash P (Str.ofString "hypot"), (.str (Str.ofString "hypot") 373), (.builtin "math.hypot")⟩, ⟨PyData.keyHash P (Str.ofString "_wall"), (.str (Str.ofString "_wall") 386), (.ref 49)⟩, ⟨PyData.keyHash P (Str.ofString "StatisticsError"), (.str (Str.ofString "StatisticsError") 406), (.ref 59)⟩, ⟨PyData.keyHash P (Str.ofString "NormalDist"), (.str (Str.ofString "NormalDist") 658), (.ref 270)⟩, ⟨PyData.keyHash P (Str.ofString "_law_near"), (.str (Str.ofString "_law_near") 668), (.ref 281)⟩, ⟨PyData.keyHash P (Str.ofString "_law_holds"), (.str (Str.ofString "_law_holds") 689), (.ref 288)⟩, ⟨PyData.keyHash P (Str.ofString "law"), (.str (Str.ofString "law") 703), (.ref 295)⟩]) 17), #[]⟩),
  (nat_lit 71, ⟨(.type "tuple"), none, (.seq #[(.float 0 426), (.float 4607182418800017408 427)] 0), #[]⟩),
  (nat_lit 77, ⟨(.type "code"), none, (.fields #[(.str (Str.ofString "__init__") 428), (.str (Str.ofString "NormalDist.__init__") 429), (.str (Str.ofString "/claim/cut.py") 430), (.int (11) 0), (.int (3) 0), (.int (0) 0), (.int (0) 0), (.int (3) 0), (.ref 72), (.bool true), (.int (374) 0), (.ref 73), .none, (.ref 74), (.ref 75), (.ref 76), (.int (434) 0), (.int (11) 0), (.str (Str.ofString "/claim/cut.py") 435)]), #[]⟩),
  (nat_lit 78, fnAt (Str.ofString "__init__") (Str.ofString "NormalDist.__init__") (_h := (rfl : clsDef 4 1 = some (_, _, _))) (.ref 71) .none .none (.str (Str.ofString "cpy313.statistics") 387) none (.ref 77) .none),
  (nat_lit 145, ⟨(.type "code"), none, (.fields #[(.str (Str.ofString "mean") 516), (.str (Str.ofString "NormalDist.mean") 517), (.str (Str.ofString "/claim/cut.py") 518), (.int (42) 0), (.int (1) 0), (.int (0) 0), (.int (0) 0), (.int (3) 0), (.ref 140), (.bool true), (.int (374) 0), (.ref 141), .none, (.ref 142), (.ref 143), (.ref 144), (.int (520) 0), (.int (42) 0), (.str (Str.ofString "/claim/cut.py") 521)]), #[]⟩),
  (nat_lit 146, fnAt (Str.ofString "mean") (Str.ofString "NormalDist.mean") (_h := (rfl : clsDef 4 10 = some (_, _, _))) .none .none .none (.str (Str.ofString "cpy313.statistics") 387) none (.ref 145) .none),
  (nat_lit 147, ⟨(.type "property"), none, (.fields #[(.ref 146), .none, .none, .none, (.str (Str.ofString "mean") 523), (.bool false)]), #[]⟩),
  (nat_lit 169, ⟨(.type "code"), none, (.fields #[(.str (Str.ofString "stdev") 540), (.str (Str.ofString "NormalDist.stdev") 541), (.str (Str.ofString "/claim/cut.py") 542), (.int (54) 0), (.int (1) 0), (.int (0) 0), (.int (0) 0), (.int (3) 0), (.ref 164), (.bool true), (.int (374) 0), (.ref 165), .none, (.ref 166), (.ref 167), (.ref 168), (.int (544) 0), (.int (54) 0), (.str (Str.ofString "/claim/cut.py") 545)]), #[]⟩),
  (nat_lit 170, fnAt (Str.ofString "stdev") (Str.ofString "NormalDist.stdev") (_h := (rfl : clsDef 4 13 = some (_, _, _))) .none .none .none (.str (Str.ofString "cpy313.statistics") 387) none (.ref 169) .none),
  (nat_lit 171, ⟨(.type "property"), none, (.fields #[(.ref 170), .none, .none, .none, (.str (Str.ofString "stdev") 547), (.bool false)]), #[]⟩),
  (nat_lit 185, ⟨(.type "code"), none, (.fields #[(.str (Str.ofString "__add__") 556), (.str (Str.ofString "NormalDist.__add__") 557), (.str (Str.ofString "/claim/cut.py") 558), (.int (62) 0), (.int (2) 0), (.int (0) 0), (.int (0) 0), (.int (3) 0), (.ref 180), (.bool true), (.int (374) 0), (.ref 181), .none, (.ref 182), (.ref 183), (.ref 184), (.int (561) 0), (.int (62) 0), (.str (Str.ofString "/claim/cut.py") 562)]), #[]⟩),
  (nat_lit 186, fnAt (Str.ofString "__add__") (Str.ofString "NormalDist.__add__") (_h := (rfl : clsDef 4 15 = some (_, _, _))) .none .none .none (.str (Str.ofString "cpy313.statistics") 387) none (.ref 185) .none),
  (nat_lit 192, ⟨(.type "code"), none, (.fields #[(.str (Str.ofString "__sub__") 564), (.str (Str.ofString "NormalDist.__sub__") 565), (.str (Str.ofString "/claim/cut.py") 566), (.int (67) 0), (.int (2) 0), (.int (0) 0), (.int (0) 0), (.int (3) 0), (.ref 187), (.bool true), (.int (374) 0), (.ref 188), .none, (.ref 189), (.ref 190), (.ref 191), (.int (569) 0), (.int (67) 0), (.str (Str.ofString "/claim/cut.py") 570)]), #[]⟩),
  (nat_lit 193, fnAt (Str.ofString "__sub__") (Str.ofString "NormalDist.__sub__") (_h := (rfl : clsDef 4 16 = some (_, _, _))) .none .none .none (.str (Str.ofString "cpy313.statistics") 387) none (.ref 192) .none),
  (nat_lit 199, ⟨(.type "code"), none, (.fields #[(.str (Str.ofString "__mul__") 572), (.str (Str.ofString "NormalDist.__mul__") 573), (.str (Str.ofString "/claim/cut.py") 574), (.int (72) 0), (.int (2) 0), (.int (0) 0), (.int (0) 0), (.int (3) 0), (.ref 194), (.bool true), (.int (374) 0), (.ref 195), .none, (.ref 196), (.ref 197), (.ref 198), (.int (577) 0), (.int (72) 0), (.str (Str.ofString "/claim/cut.py") 578)]), #[]⟩),
  (nat_lit 200, fnAt (Str.ofString "__mul__") (Str.ofString "NormalDist.__mul__") (_h := (rfl : clsDef 4 17 = some (_, _, _))) .none .none .none (.str (Str.ofString "cpy313.statistics") 387) none (.ref 199) .none),
  (nat_lit 206, ⟨(.type "code"), none, (.fields #[(.str (Str.ofString "__truediv__") 580), (.str (Str.ofString "NormalDist.__truediv__") 581), (.str (Str.ofString "/claim/cut.py") 582), (.int (75) 0), (.int (2) 0), (.int (0) 0), (.int (0) 0), (.int (3) 0), (.ref 201), (.bool true), (.int (374) 0), (.ref 202), .none, (.ref 203), (.ref 204), (.ref 205), (.int (585) 0), (.int (75) 0), (.str (Str.ofString "/claim/cut.py") 586)]), #[]⟩),
  (nat_lit 207, fnAt (Str.ofString "__truediv__") (Str.ofString "NormalDist.__truediv__") (_h := (rfl : clsDef 4 18 = some (_, _, _))) .none .none .none (.str (Str.ofString "cpy313.statistics") 387) none (.ref 206) .none),
  (nat_lit 220, ⟨(.type "code"), none, (.fields #[(.str (Str.ofString "__neg__") 595), (.str (Str.ofString "NormalDist.__neg__") 596), (.str (Str.ofString "/claim/cut.py") 597), (.int (81) 0), (.int (1) 0), (.int (0) 0), (.int (0) 0), (.int (3) 0), (.ref 215), (.bool true), (.int (374) 0), (.ref 216), .none, (.ref 217), (.ref 218), (.ref 219), (.int (599) 0), (.int (81) 0), (.str (Str.ofString "/claim/cut.py") 600)]), #[]⟩),
  (nat_lit 221, fnAt (Str.ofString "__neg__") (Str.ofString "NormalDist.__neg__") (_h := (rfl : clsDef 4 20 = some (_, _, _))) .none .none .none (.str (Str.ofString "cpy313.statistics") 387) none (.ref 220) .none),
  (nat_lit 227, ⟨(.type "code"), none, (.fields #[(.str (Str.ofString "__rsub__") 603), (.str (Str.ofString "NormalDist.__rsub__") 604), (.str (Str.ofString "/claim/cut.py") 605), (.int (85) 0), (.int (2) 0), (.int (0) 0), (.int (0) 0), (.int (3) 0), (.ref 222), (.bool true), (.int (374) 0), (.ref 223), .none, (.ref 224), (.ref 225), (.ref 226), (.int (608) 0), (.int (85) 0), (.str (Str.ofString "/claim/cut.py") 609)]), #[]⟩),
  (nat_lit 228, fnAt (Str.ofString "__rsub__") (Str.ofString "NormalDist.__rsub__") (_h := (rfl : clsDef 4 22 = some (_, _, _))) .none .none .none (.str (Str.ofString "cpy313.statistics") 387) none (.ref 227) .none),
  (nat_lit 269, ⟨(.type "dict"), none, (.dict (List.toArray [⟨PyData.keyHash P (Str.ofString "__module__"), (.str (Str.ofString "__module__") 414), (.str (Str.ofString "cpy313.statistics") 387)⟩, ⟨PyData.keyHash P (Str.ofString "__firstlineno__"), (.str (Str.ofString "__firstlineno__") 418), (.int (8) 417)⟩, ⟨PyData.keyHash P (Str.ofString "__slots__"), (.str (Str.ofString "__slots__") 425), (.ref 70)⟩, ⟨PyData.keyHash P (Str.ofString "__init__"), (.str (Str.ofString "__init__") 436), (.ref 78)⟩, ⟨PyData.keyHash P (Str.ofString "from_samples"), (.str (Str.ofString "from_samples") 456), (.ref 87)⟩, ⟨PyData.keyHash P (Str.ofString "samples"), (.str (Str.ofString "samples") 466), (.ref 96)⟩, ⟨PyData.keyHash P (Str.ofString "pdf"), (.str (Str.ofString "pdf") 474), (.ref 103)⟩, ⟨PyData.keyHash P (Str.ofString "cdf"), (.str (Str.ofString "cdf") 482), (.ref 110)⟩, ⟨PyData.keyHash P (Str.ofString "inv_cdf"), (.str (Str.ofString "inv_cdf") 490), (.ref 117)⟩, ⟨PyData.keyHash P (Str.ofString "quantiles"), (.str (Str.ofString "quantiles") 499), (.ref 125)⟩, ⟨PyData.keyHash P (Str.ofString "overlap"), (.str (Str.ofString "overlap") 507), (.ref 132)⟩, ⟨PyData.keyHash P (Str.ofString "zscore"), (.str (Str.ofString "zscore") 515), (.ref 139)⟩, ⟨PyData.keyHash P (Str.ofString "mean"), (.str (Str.ofString "mean") 523), (.ref 147)⟩, ⟨PyData.keyHash P (Str.ofString "median"), (.str (Str.ofString "median") 531), (.ref 155)⟩, ⟨PyData.keyHash P (Str.ofString "mode"), (.str (Str.ofString "mode") 539), (.ref 163)⟩, ⟨PyData.keyHash P (Str.ofString "stdev"), (.str (Str.ofString "stdev") 547), (.ref 171)⟩, ⟨PyData.keyHash P (Str.ofString "variance"), (.str (Str.ofString "variance") 555), (.ref 179)⟩, ⟨PyData.keyHash P (Str.ofString "__add__"), (.str (Str.ofString "__add__") 563), (.ref 186)⟩, ⟨PyData.keyHash P (Str.ofString "__sub__"), (.str (Str.ofString "__sub__") 571), (.ref 193)⟩, ⟨PyData.keyHash P (Str.ofString "__mul__"), (.str (Str.ofString "__mul__") 579), (.ref 200)⟩, ⟨PyData.keyHash P (Str.ofString "__truediv__"), (.str (Str.ofString "__truediv__") 587), (.ref 207)⟩, ⟨PyData.keyHash P (Str.ofString "__pos__"), (.str (Str.ofString "__pos__") 594), (.ref 214)⟩, ⟨PyData.keyHash P (Str.ofString "__neg__"), (.str (Str.ofString "__neg__") 601), (.ref 221)⟩, ⟨PyData.keyHash P (Str.ofString "__radd__"), (.str (Str.ofString "__radd__") 602), (.ref 186)⟩, ⟨PyData.keyHash P (Str.ofString "__rsub__"), (.str (Str.ofString "__rsub__") 610), (.ref 228)⟩, ⟨PyData.keyHash P (Str.ofString "__rmul__"), (.str (Str.ofString "__rmul__") 611), (.ref 200)⟩, ⟨PyData.keyHash P (Str.ofString "__eq__"), (.str (Str.ofString "__eq__") 619), (.ref 235)⟩, ⟨PyData.keyHash P (Str.ofString "__hash__"), (.str (Str.ofString "__hash__") 626), (.ref 242)⟩, ⟨PyData.keyHash P (Str.ofString "__repr__"), (.str (Str.ofString "__repr__") 633), (.ref 249)⟩, ⟨PyData.keyHash P (Str.ofString "__getstate__"), (.str (Str.ofString "__getstate__") 640), (.ref 256)⟩, ⟨PyData.keyHash P (Str.ofString "__setstate__"), (.str (Str.ofString "__setstate__") 648), (.ref 263)⟩, ⟨PyData.keyHash P (Str.ofString "__static_attributes__"), (.str (Str.ofString "__static_attributes__") 651), (.ref 264)⟩, ⟨PyData.keyHash P (Str.ofString "_mu"), (.str (Str.ofString "_mu") 653), (.ref 271)⟩, ⟨PyData.keyHash P (Str.ofString "_sigma"), (.str (Str.ofString "_sigma") 655), (.ref 272)⟩, ⟨PyData.keyHash P (Str.ofString "__doc__"), (.str (Str.ofString "__doc__") 656), .none⟩]) 4), #[]⟩),
  (nat_lit 270, ⟨(.type "type"), none, (.cls { name := (Str.ofString "NormalDist"), bases := [(.type "object")], mro := [(.ref 270), (.type "object")], ns := 269, qualname := (Str.ofString "NormalDist"), hasDict := false, slotNames := [(Str.ofString "_mu"), (Str.ofString "_sigma")] }), #[none, none, some (.str (Str.ofString "NormalDist") 407), some (.str (Str.ofString "NormalDist") 415), some (.builtin "object.__new__"), some (.bool false)]⟩),
  (nat_lit 271, ⟨(.type "member_descriptor"), none, (.fields #[(.str (Str.ofString "_mu") 652), (.ref 270), (.builtin "proto.slot"), (.builtin "proto.slot#set"), (.int (1) 0)]), #[]⟩),
  (nat_lit 272, ⟨(.type "member_descriptor"), none, (.fields #[(.str (Str.ofString "_sigma") 654), (.ref 270), (.builtin "proto.slot"), (.builtin "proto.slot#set"), (.int (0) 0)]), #[]⟩),
  (nat_lit 280, ⟨(.type "code"), none, (.fields #[(.str (Str.ofString "_law_near") 661), (.str (Str.ofString "_law_near") 662), (.str (Str.ofString "/claim/cut.py") 663), (.int (106) 0), (.int (2) 0), (.int (0) 0), (.int (0) 0), (.int (3) 0), (.ref 275), (.bool true), (.int (374) 0), (.ref 276), .none, (.ref 277), (.ref 278), (.ref 279), (.int (666) 0), (.int (106) 0), (.str (Str.ofString "/claim/cut.py") 667)]), #[]⟩),
  (nat_lit 281, fnAt (Str.ofString "_law_near") (Str.ofString "_law_near") (_h := (rfl : topDef 6 = some (_, _, _))) .none .none .none (.str (Str.ofString "law_oz0055_01") 659) none (.ref 280) .none),
  (nat_lit 287, ⟨(.type "code"), none, (.fields #[(.str (Str.ofString "_law_holds") 669), (.str (Str.ofString "_law_holds") 670), (.str (Str.ofString "/claim/cut.py") 671), (.int (111) 0), (.int (3) 0), (.int (0) 0), (.int (0) 0), (.int (3) 0), (.ref 282), (.bool true), (.int (374) 0), (.ref 283), .none, (.ref 284), (.ref 285), (.ref 286), (.int (687) 0), (.int (111) 0), (.str (Str.ofString "/claim/cut.py") 688)]), #[]⟩),
  (nat_lit 288, fnAt (Str.ofString "_law_holds") (Str.ofString "_law_holds") (_h := (rfl : topDef 7 = some (_, _, _))) .none .none .none (.str (Str.ofString "law_oz0055_01") 659) none (.ref 287) .none),
  (nat_lit 294, ⟨(.type "code"), none, (.fields #[(.str (Str.ofString "law") 690), (.str (Str.ofString "law") 691), (.str (Str.ofString "/claim/cut.py") 692), (.int (144) 0), (.int (1) 0), (.int (0) 0), (.int (0) 0), (.int (3) 0), (.ref 289), (.bool true), (.int (374) 0), (.ref 290), .none, (.ref 291), (.ref 292), (.ref 293), (.int (701) 0), (.int (144) 0), (.str (Str.ofString "/claim/cut.py") 702)]), #[]⟩),
  (nat_lit 295, fnAt (Str.ofString "law") (Str.ofString "law") (_h := (rfl : topDef 8 = some (_, _, _))) .none .none .none (.str (Str.ofString "law_oz0055_01") 659) none (.ref 294) .none)]
def qz : Program := { PySem.Challenge.pw_oz0055_01 with main := { PySem.Challenge.pw_oz0055_01.main with body := [0, 1, 3, 4, 6, 7, 8].filterMap fun i => PySem.Challenge.pw_oz0055_01.main.body[i]? } }
abbrev asZ : List Addr := [nat_lit 3, nat_lit 71, nat_lit 77, nat_lit 78, nat_lit 145, nat_lit 146, nat_lit 147, nat_lit 169, nat_lit 170, nat_lit 171, nat_lit 185, nat_lit 186, nat_lit 192, nat_lit 193, nat_lit 199, nat_lit 200, nat_lit 206, nat_lit 207, nat_lit 220, nat_lit 221, nat_lit 227, nat_lit 228, nat_lit 269, nat_lit 270, nat_lit 271, nat_lit 272, nat_lit 280, nat_lit 281, nat_lit 287, nat_lit 288, nat_lit 294, nat_lit 295]
abbrev HZ : Hook := kmHook KZ asZ (fun _ => by kernel_rfl) [283]
end Mine
end
section
namespace Mine
open PySem PySem.Float64
def nearF (n d : Int) : UInt64 := Float64.ofFrac ((n < 0) != (d < 0)) n.natAbs d.natAbs
/-- the nearest place is one place -/
theorem near_one {W D t t' : Nat} (hD : 0 < D)
    (h : ∀ u, dist W (D * V t) ≤ dist W (D * V u) ∧ (V u ≠ V t → dist W (D * V t) = dist W (D * V u) → t % 2 = 0))
    (h' : ∀ u, dist W (D * V t') ≤ dist W (D * V u) ∧ (V u ≠ V t' → dist W (D * V t') = dist W (D * V u) → t' % 2 = 0)) : t = t' := by
  have key : ∀ {t t' : Nat}, (∀ u, dist W (D * V t) ≤ dist W (D * V u) ∧ (V u ≠ V t → dist W (D * V t) = dist W (D * V u) → t % 2 = 0)) →
      (∀ u, dist W (D * V t') ≤ dist W (D * V u) ∧ (V u ≠ V t' → dist W (D * V t') = dist W (D * V u) → t' % 2 = 0)) → ¬ t < t' := by
    intro t t' h h' hlt
    have e1 := (h t').1
    have e2 := (h' t).1
    have e : dist W (D * V t) = dist W (D * V t') := Nat.le_antisymm e1 e2
    have hv : V t < V t' := V_lt hlt
    have p1 := (h t').2 (Nat.ne_of_gt hv) e
    have p2 := (h' t).2 (Nat.ne_of_lt hv) e.symm
    have hs : t + 1 < t' := by omega
    have v1 : V t < V (t + 1) := V_succ t
    have v2 : V (t + 1) < V t' := V_lt hs
    have d1 : D * V t < D * V (t + 1) := Nat.mul_lt_mul_of_pos_left v1 hD
    have d2 : D * V (t + 1) < D * V t' := Nat.mul_lt_mul_of_pos_left v2 hD
    have q := (h (t + 1)).1
    generalize D * V t = x at *
    generalize D * V (t + 1) = y at *
    generalize D * V t' = z at *
    unfold dist at *
    omega
  rcases Nat.lt_trichotomy t t' with q | q | q
  · exact absurd q (key h h')
  · exact q
  · exact absurd q (key h' h)
theorem right_one {r r' : UInt64} {a b : Bool} {W D : Nat} (hD : 0 < D) (h : Right r a W D) (h' : Right r' b W D) : ∃ t, r = pack a t ∧ r' = pack b t ∧ t ≤ infMag ∧ (W = 0 → t = 0) := by
  obtain ⟨t, rfl, k1, k2, k3⟩ := h
  obtain ⟨t', rfl, k1', k2', k3'⟩ := h'
  have e : t = t' := by
    rcases Nat.lt_or_ge t infMag with q | q
    · have q' : t' < infMag := by
        rcases Nat.lt_or_ge t' infMag with z | z
        · exact z
        · have := k2.mpr (k2'.mp (by omega)); omega
      exact near_one hD (k3 q) (k3' q')
    · have := k2'.mpr (k2.mp (by omega)); omega
  subst e
  refine ⟨t, rfl, rfl, k1, fun hW => ?_⟩
  subst hW
  have hlt : t < infMag := by
    rcases Nat.lt_or_ge t infMag with z | z
    · exact z
    · have z1 := k2.mp (by omega)
      have z2 : 0 < D * ((2 ^ 54 - 1) * 2 ^ 2045) := Nat.mul_pos hD (Nat.mul_pos (by decide) (Nat.two_pow_pos _))
      generalize D * ((2 ^ 54 - 1) * 2 ^ 2045) = zz at *
      omega
  have q := (k3 hlt 0).1
  rw [V_zero, Nat.mul_zero] at q
  have z : D * V t = 0 := by unfold dist at q; omega
  rcases Nat.lt_or_ge 0 t with z1 | z1
  · have := V_lt z1
    rw [V_zero] at this
    have := Nat.mul_pos hD this
    omega
  · omega
theorem cmp_pack {a b : Bool} {t : Nat} (ht : t ≤ infMag) (h : a = b ∨ t = 0) : cmp (pack a t) (pack b t) = some .eq := by
  rcases Nat.lt_or_ge t infMag with hlt | hge
  · obtain ⟨m, e, h1, _⟩ := decode_pack a hlt
    obtain ⟨m', e', h1', _⟩ := decode_pack b hlt
    rw [cmp_right h1 h1', val_pack a hlt, val_pack b hlt]
    rcases h with rfl | rfl
    · simp
    · rw [V_zero]; cases a <;> cases b <;> rfl
  · have e : t = infMag := by omega
    subst e
    rcases h with rfl | h
    · cases a <;> decide +kernel
    · exact absurd h (by decide)
/-- two readings of one fraction compare equal -/
theorem cmp_right_frac {r : UInt64} {a b : Bool} {W D n d : Nat} (hr : Right r a W D) (hD : 0 < D) (hd : 0 < d) (hW : n * 2 ^ 1074 * D = W * d) (hs : a = b ∨ W = 0) : cmp r (ofFrac b n d) = some .eq := by
  obtain ⟨t, rfl, e, ht, h0⟩ := right_one hD hr (ofFrac_right (neg := b) hd hW hD)
  rw [e]
  exact cmp_pack ht (hs.imp id h0)
theorem zero_frac {a b : Bool} {d : Nat} : cmp (zero a) (ofFrac b 0 d) = some .eq := by
  have e : ofFrac b 0 d = pack b 0 := by unfold ofFrac roundMag; rfl
  rw [e]
  exact cmp_pack (Nat.zero_le _) (.inr rfl)
/-- a reading of a fraction with signs, against the nearest of N / d -/
theorem cmp_near {r : UInt64} {a : Bool} {S N d : Int} {D : Nat} (hr : Right r a S.natAbs D) (ha : S ≠ 0 → a = decide (S < 0)) (hD : 0 < D) (hd : d ≠ 0) (h : N * 2 ^ 1074 * (D : Int) = S * d) : cmp r (nearF N d) = some .eq := by
  have hW : N.natAbs * 2 ^ 1074 * D = S.natAbs * d.natAbs := by
    have := congrArg Int.natAbs h
    rw [Int.natAbs_mul, Int.natAbs_mul, Int.natAbs_mul, Int.natAbs_natCast, Int.natAbs_pow] at this
    exact this
  refine cmp_right_frac hr hD (by omega) hW ?_
  by_cases h0 : S = 0
  · exact .inr (by rw [h0]; rfl)
  · left
    rw [ha h0]
    have hK : (0 : Int) < 2 ^ 1074 * (D : Int) := Int.mul_pos (Int.pow_pos (by decide)) (by omega)
    rw [Int.mul_assoc] at h
    generalize (2 : Int) ^ 1074 * (D : Int) = K at *
    clear hr ha hW
    by_cases hS : S < 0 <;> by_cases hd0 : d < 0
    · have z : 0 < S * d := Int.mul_pos_of_neg_of_neg hS hd0
      have : ¬ N < 0 := fun q => by have := Int.mul_neg_of_neg_of_pos q hK; omega
      simp [hS, hd0, this]
    · have z : S * d < 0 := Int.mul_neg_of_neg_of_pos hS (by omega)
      have : N < 0 := by
        rcases Int.lt_trichotomy N 0 with q | q | q
        · exact q
        · rw [q, Int.zero_mul] at h; omega
        · have := Int.mul_pos q hK; omega
      simp [hS, hd0, this]
    · have z : S * d < 0 := Int.mul_neg_of_pos_of_neg (by omega) hd0
      have : N < 0 := by
        rcases Int.lt_trichotomy N 0 with q | q | q
        · exact q
        · rw [q, Int.zero_mul] at h; omega
        · have := Int.mul_pos q hK; omega
      simp [hS, hd0, this]
    · have z : 0 < S * d := Int.mul_pos (by omega) (by omega)
      have : ¬ N < 0 := fun q => by have := Int.mul_neg_of_neg_of_pos q hK; omega
      simp [hS, hd0, this]
/-- what as_integer_ratio hands out of a finite float -/
structure IsRatio (y : UInt64) (p q : Int) : Prop where
  fin : ∃ a m e, decode y = .fin a m e
  pos : 0 < q
  eq : p * 2 ^ 1074 = val y * q
theorem ratio_is {y : UInt64} {a : Bool} {m : Nat} {e : Int} (h : decode y = .fin a m e) : IsRatio y (sgn a (ratio m e).1) ((ratio m e).2 : Int) := by
  have he := decode_ge h
  have hs := shift_one m e 1074 (by omega)
  have hM := shift_pos m 1 e (by decide)
  have hr : ratio m e = ((shift m 1 e).1 / (shift m 1 e).1.gcd (shift m 1 e).2, (shift m 1 e).2 / (shift m 1 e).1.gcd (shift m 1 e).2) := rfl
  rw [hr]
  generalize (shift m 1 e).1 = N at *
  generalize (shift m 1 e).2 = M at *
  have hg : 0 < N.gcd M := Nat.gcd_pos_of_pos_right _ hM
  have hN := Nat.div_mul_cancel (Nat.gcd_dvd_left N M)
  have hMM := Nat.div_mul_cancel (Nat.gcd_dvd_right N M)
  generalize N.gcd M = g at *
  generalize hn : N / g = n at *
  generalize hd : M / g = d at *
  have hd0 : 0 < d := by
    rcases Nat.eq_zero_or_pos d with z | z
    · rw [z, Nat.zero_mul] at hMM; omega
    · exact z
  refine ⟨⟨a, m, e, h⟩, by simpa using hd0, ?_⟩
  have key : n * 2 ^ 1074 = m * 2 ^ (e + 1074).toNat * d := by
    refine Nat.eq_of_mul_eq_mul_right hg ?_
    generalize (2 : Nat) ^ 1074 = K at *
    calc n * K * g = n * g * K := by ac_rfl
      _ = N * K := by rw [hN]
      _ = m * 2 ^ (e + ((1074 : Nat) : Int)).toNat * M := hs
      _ = m * 2 ^ (e + 1074).toNat * d * g := by rw [← hMM]; show m * 2 ^ (e + 1074).toNat * (d * g) = _; rw [Nat.mul_assoc (m * _)]
  rw [val_eq h]
  have k2 : ((n * 2 ^ 1074 : Nat) : Int) = ((m * 2 ^ (e + 1074).toNat * d : Nat) : Int) := by rw [key]
  have e1 : ((2 ^ 1074 : Nat) : Int) = (2 : Int) ^ 1074 := by rw [Int.natCast_pow]; rfl
  rw [← e1, ← sgn_mul, ← sgn_mul, key]
/-- an int that a float is, exactly -/
structure Exact (x : UInt64) (m : Int) : Prop where
  fin : ∃ a k e, decode x = .fin a k e
  eq : val x = m * 2 ^ 1074
  plus : 0 ≤ m → ∃ k e, decode x = .fin false k e
  is : x = ofInt m
theorem exact_of {m : Int} (h : m.natAbs < 2 ^ 53) : Exact (ofInt m) m ∧ isInf (ofInt m) = false := by
  obtain ⟨t, ht, k1, k2, k3⟩ := ofInt_right m
  have hlt : t < infMag := by
    rcases Nat.lt_or_ge t infMag with q | q
    · exact q
    · exfalso
      have z := k2.mp (by omega)
      have e1 : (2 : Nat) ^ 2045 = 2 ^ 971 * 2 ^ 1074 := by rw [← Nat.pow_add]
      have e2 : (2 : Nat) ^ 971 = 2 ^ 53 * 2 ^ 918 := by rw [← Nat.pow_add]
      have e3 : 0 < (2 : Nat) ^ 918 := Nat.two_pow_pos _
      rw [Nat.one_mul, e1, ← Nat.mul_assoc, ← Nat.mul_assoc] at z
      have z' := Nat.le_of_mul_le_mul_right z (Nat.two_pow_pos _)
      rw [e2] at z'
      generalize (2 : Nat) ^ 918 = K at *
      have : 2 ^ 53 * 1 ≤ 2 ^ 53 * K := Nat.mul_le_mul_left _ e3
      generalize (2 ^ 53 * K) = J at *
      omega
  have hV : V t = m.natAbs * 2 ^ 1074 := by
    obtain ⟨t', ht'⟩ : ∃ t', V t' = m.natAbs * 2 ^ 1074 := by
      by_cases h0 : m.natAbs = 0
      · exact ⟨0, by rw [V_zero, h0, Nat.zero_mul]⟩
      · have l1 := Nat.log2_self_le h0
        have l2 := @Nat.lt_log2_self m.natAbs
        have l3 : m.natAbs.log2 < 53 := (Nat.log2_lt h0).mpr h
        generalize m.natAbs.log2 = l at *
        refine ⟨(1022 + l) * 2 ^ 52 + m.natAbs * 2 ^ (52 - l), ?_⟩
        have p1 : 2 ^ 52 ≤ m.natAbs * 2 ^ (52 - l) := by
          have : 2 ^ l * 2 ^ (52 - l) = 2 ^ 52 := by rw [← Nat.pow_add]; congr 1; omega
          rw [← this]; exact Nat.mul_le_mul_right _ l1
        have p2 : m.natAbs * 2 ^ (52 - l) ≤ 2 ^ 53 := by
          have : 2 ^ (l + 1) * 2 ^ (52 - l) = 2 ^ 53 := by rw [← Nat.pow_add]; congr 1; omega
          rw [← this]; exact Nat.mul_le_mul_right _ (Nat.le_of_lt l2)
        rw [V_at p2 (.inl p1), Nat.mul_assoc, ← Nat.pow_add]
        congr 2
        omega
    have q := (k3 hlt t').1
    rw [ht', Nat.one_mul, Nat.one_mul] at q
    generalize m.natAbs * 2 ^ 1074 = W at *
    unfold dist at q
    omega
  refine ⟨?_, by rw [ht]; exact isInf_pack hlt⟩
  have hofi := ht
  rw [ht]
  obtain ⟨k, e, hd, _⟩ := decode_pack (decide (m < 0)) hlt
  refine ⟨⟨_, k, e, hd⟩, ?_, fun h0 => ⟨k, e, by rw [hd, show decide (m < 0) = false by simp; omega]⟩, hofi.symm⟩
  · rw [val_pack _ hlt, hV, sgn_mul]
    have e1 : ((2 ^ 1074 : Nat) : Int) = (2 : Int) ^ 1074 := by rw [Int.natCast_pow]; rfl
    rw [e1]
    congr 1
    unfold sgn
    by_cases hm : m < 0
    · simp [hm]; omega
    · simp [hm]; omega
section
variable {x y : UInt64} {m p q s : Int}
theorem sign_of {a : Bool} {k : Nat} {e : Int} (h : decode x = .fin a k e) (h0 : val x ≠ 0) : a = decide (val x < 0) := by
  rw [val_eq h] at h0 ⊢
  generalize k * 2 ^ (e + 1074).toNat = N at *
  unfold sgn at *
  cases a
  · have : ¬ ((N : Int) < 0) := by omega
    simp [this]
  · have hN : N ≠ 0 := fun z => h0 (by rw [z]; rfl)
    simp
    omega
theorem add_law (hx : Exact x m) (hy : IsRatio y p q) : cmp (add x y) (nearF (m * q + p) q) = some .eq := by
  obtain ⟨⟨a, k, e, h1⟩, h2, _⟩ := hx
  obtain ⟨⟨b, k', e', h3⟩, h4, h5⟩ := hy
  obtain ⟨z, nz⟩ := add_right h1 h3
  have key : (m * q + p) * 2 ^ 1074 = (val x + val y) * q := by rw [Int.add_mul, Int.add_mul, h5, h2]; congr 1; ac_rfl
  by_cases h0 : val x + val y = 0
  · rw [z h0]
    rw [h0, Int.zero_mul] at key
    have : m * q + p = 0 := (Int.mul_eq_zero.mp key).resolve_right (Int.ne_of_gt (Int.pow_pos (by decide)))
    rw [this]
    exact zero_frac
  · exact cmp_near (nz h0) (fun _ => rfl) (by decide) (Int.ne_of_gt h4) (by rw [Int.natCast_one, Int.mul_one, key])
theorem sub_law (hx : Exact x m) (hy : IsRatio y p q) : cmp (sub x y) (nearF (m * q - p) q) = some .eq := by
  obtain ⟨⟨a, k, e, h1⟩, h2, _⟩ := hx
  obtain ⟨⟨b, k', e', h3⟩, h4, h5⟩ := hy
  obtain ⟨z, nz⟩ := sub_right h1 h3
  have key : (m * q - p) * 2 ^ 1074 = (val x - val y) * q := by rw [Int.sub_mul, Int.sub_mul, h5, h2]; congr 1; ac_rfl
  by_cases h0 : val x - val y = 0
  · rw [z h0]
    rw [h0, Int.zero_mul] at key
    have : m * q - p = 0 := (Int.mul_eq_zero.mp key).resolve_right (Int.ne_of_gt (Int.pow_pos (by decide)))
    rw [this]
    exact zero_frac
  · exact cmp_near (nz h0) (fun _ => rfl) (by decide) (Int.ne_of_gt h4) (by rw [Int.natCast_one, Int.mul_one, key])
theorem neg_pack {a : Bool} {t : Nat} (h : t ≤ infMag) : neg (pack a t) = pack (!a) t := by
  have hi : infMag = 2047 * 2 ^ 52 := rfl
  have hn : isNaN (pack a t) = false := PySem.W.isNaN_pack a h
  obtain ⟨n1, n2⟩ := neg_toNat hn
  have t1 := pack_toNat a (t := t) (by omega)
  have t2 := pack_toNat (!a) (t := t) (by omega)
  apply UInt64.toNat_inj.mp
  have u := (neg (pack a t)).toNat_lt
  rw [t2]
  rw [t1] at n1 n2
  generalize (neg (pack a t)).toNat = w at *
  cases a
  · simp only [Bool.false_eq_true, if_false, Nat.zero_add, Bool.not_false, if_true] at *
    have e : (t / 2 ^ 63 == 1) = false := by
      have : t / 2 ^ 63 = 0 := by omega
      rw [this]; rfl
    rw [e] at n2
    have : w / 2 ^ 63 = 1 := by simpa using n2
    omega
  · simp only [Bool.false_eq_true, if_false, Nat.zero_add, Bool.not_true, if_true] at *
    have e : ((2 ^ 63 + t) / 2 ^ 63 == 1) = true := by
      have : (2 ^ 63 + t) / 2 ^ 63 = 1 := by omega
      rw [this]; rfl
    rw [e] at n2
    have : w / 2 ^ 63 ≠ 1 := by simpa using n2
    omega
theorem rsub_law (hx : Exact x m) (hy : IsRatio y p q) : cmp (neg (sub x y)) (nearF (p - m * q) q) = some .eq := by
  obtain ⟨⟨a, k, e, h1⟩, h2, _⟩ := hx
  obtain ⟨⟨b, k', e', h3⟩, h4, h5⟩ := hy
  obtain ⟨z, nz⟩ := sub_right h1 h3
  have key : (p - m * q) * 2 ^ 1074 = -(val x - val y) * q := by rw [Int.sub_mul, h5, Int.neg_mul, Int.sub_mul, h2, Int.neg_sub]; congr 1; ac_rfl
  by_cases h0 : val x - val y = 0
  · rw [z h0]
    rw [h0, Int.neg_zero, Int.zero_mul] at key
    have : p - m * q = 0 := (Int.mul_eq_zero.mp key).resolve_right (Int.ne_of_gt (Int.pow_pos (by decide)))
    rw [this]
    unfold zero
    rw [neg_pack (Nat.zero_le _)]
    exact zero_frac
  · obtain ⟨t, ht, k1, k2, k3⟩ := nz h0
    rw [ht, neg_pack k1]
    refine cmp_near (S := -(val x - val y)) (D := 1) ⟨t, rfl, k1, ?_, ?_⟩ (fun h => ?_) (by decide) (Int.ne_of_gt h4) (by rw [Int.natCast_one, Int.mul_one, key])
    · rw [Int.natAbs_neg]; exact k2
    · rw [Int.natAbs_neg]; exact k3
    · generalize val x - val y = S at *
      by_cases q1 : S < 0
      · have : ¬ -S < 0 := by omega
        simp [q1]; omega
      · have : -S < 0 := by omega
        simp [q1]; omega
theorem mul_law (hx : Exact x m) (hy : IsRatio y p q) : cmp (mul x y) (nearF (m * p) q) = some .eq := by
  obtain ⟨⟨a, k, e, h1⟩, h2, _⟩ := hx
  obtain ⟨⟨b, k', e', h3⟩, h4, h5⟩ := hy
  have hr := mul_right h1 h3
  rw [← Int.natAbs_mul] at hr
  refine cmp_near hr (fun h0 => ?_) (Nat.two_pow_pos _) (Int.ne_of_gt h4) ?_
  · have hx0 : val x ≠ 0 := fun z => h0 (by rw [z, Int.zero_mul])
    have hy0 : val y ≠ 0 := fun z => h0 (by rw [z, Int.mul_zero])
    have s1 := sign_of h1 hx0
    have s2 := sign_of h3 hy0
    generalize val x = X at *
    generalize val y = Y at *
    by_cases q1 : X < 0 <;> by_cases q2 : Y < 0
    · have := Int.mul_pos_of_neg_of_neg q1 q2
      have z : ¬ X * Y < 0 := by omega
      simp [s1, s2, q1, q2, z]
    · have z := Int.mul_neg_of_neg_of_pos q1 (show 0 < Y by omega)
      simp [s1, s2, q1, q2, z]
    · have z := Int.mul_neg_of_pos_of_neg (show 0 < X by omega) q2
      simp [s1, s2, q1, q2, z]
    · have := Int.mul_pos (show 0 < X by omega) (show 0 < Y by omega)
      have z : ¬ X * Y < 0 := by omega
      simp [s1, s2, q1, q2, z]
  · have e1 : ((2 ^ 1074 : Nat) : Int) = (2 : Int) ^ 1074 := by rw [Int.natCast_pow]; rfl
    rw [e1, h2]
    calc m * p * 2 ^ 1074 * 2 ^ 1074 = m * 2 ^ 1074 * (p * 2 ^ 1074) := by ac_rfl
      _ = m * 2 ^ 1074 * (val y * q) := by rw [h5]
      _ = m * 2 ^ 1074 * val y * q := by ac_rfl
theorem div_law (hx : Exact x m) (hy : IsRatio y p q) (hp : p ≠ 0) : cmp (div x y) (nearF (m * q) p) = some .eq := by
  obtain ⟨⟨a, k, e, h1⟩, h2, _⟩ := hx
  obtain ⟨⟨b, k', e', h3⟩, h4, h5⟩ := hy
  have hK : (0 : Int) < 2 ^ 1074 := Int.pow_pos (by decide)
  have hy0 : val y ≠ 0 := fun z => by
    rw [z, Int.zero_mul] at h5
    rcases Int.mul_eq_zero.mp h5 with q1 | q1
    · exact hp q1
    · omega
  have hk' : k' ≠ 0 := fun z => hy0 (by rw [val_eq h3, z, Nat.zero_mul]; cases b <;> rfl)
  have hr := div_right h1 h3 hk'
  have e1 : ((2 ^ 1074 : Nat) : Int) = (2 : Int) ^ 1074 := by rw [Int.natCast_pow]; rfl
  have e2 : ((2 : Int) ^ 1074).natAbs = 2 ^ 1074 := by rw [Int.natAbs_pow]; rfl
  by_cases hneg : val y < 0
  · have hr' : Right (div x y) (a != b) (-(val x * 2 ^ 1074)).natAbs (val y).natAbs := by rw [Int.natAbs_neg, Int.natAbs_mul, e2]; exact hr
    refine cmp_near hr' (fun h0 => ?_) (by omega) hp ?_
    · have hx0 : val x ≠ 0 := fun z => h0 (by rw [z, Int.zero_mul, Int.neg_zero])
      have s1 := sign_of h1 hx0
      have s2 := sign_of h3 hy0
      generalize val x = X at *
      by_cases q1 : X < 0
      · have := Int.mul_neg_of_neg_of_pos q1 hK
        have z : ¬ -(X * 2 ^ 1074) < 0 := by omega
        simp only [s1, s2, q1, hneg, z]; rfl
      · have := Int.mul_pos (show 0 < X by omega) hK
        have z : -(X * 2 ^ 1074) < 0 := by omega
        simp only [s1, s2, q1, hneg, z]; rfl
    · have e3 : ((val y).natAbs : Int) = -val y := by omega
      rw [e3, Int.mul_neg, Int.neg_mul, h2]
      congr 1
      calc m * q * 2 ^ 1074 * val y = m * 2 ^ 1074 * (val y * q) := by ac_rfl
        _ = m * 2 ^ 1074 * (p * 2 ^ 1074) := by rw [h5]
        _ = m * 2 ^ 1074 * 2 ^ 1074 * p := by ac_rfl
  · have hr' : Right (div x y) (a != b) (val x * 2 ^ 1074).natAbs (val y).natAbs := by rw [Int.natAbs_mul, e2]; exact hr
    refine cmp_near hr' (fun h0 => ?_) (by omega) hp ?_
    · have hx0 : val x ≠ 0 := fun z => h0 (by rw [z, Int.zero_mul])
      have s1 := sign_of h1 hx0
      have s2 := sign_of h3 hy0
      generalize val x = X at *
      by_cases q1 : X < 0
      · have z := Int.mul_neg_of_neg_of_pos q1 hK
        simp only [s1, s2, q1, hneg, z]; rfl
      · have := Int.mul_pos (show 0 < X by omega) hK
        have z : ¬ (X * 2 ^ 1074) < 0 := by omega
        simp only [s1, s2, q1, hneg, z]; rfl
    · have e3 : ((val y).natAbs : Int) = val y := by omega
      rw [e3, h2]
      calc m * q * 2 ^ 1074 * val y = m * 2 ^ 1074 * (val y * q) := by ac_rfl
        _ = m * 2 ^ 1074 * (p * 2 ^ 1074) := by rw [h5]
        _ = m * 2 ^ 1074 * 2 ^ 1074 * p := by ac_rfl
/-- the size of a float -/
theorem abs_ratio (hy : IsRatio y p q) : IsRatio (abs y) (p.natAbs : Int) q := by
  obtain ⟨⟨b, k, e, h3⟩, h4, h5⟩ := hy
  have hn : isNaN y = false := by unfold isNaN; rw [h3]
  have hlt : y.toNat % 2 ^ 63 < infMag := by
    have hi : infMag = 2047 * 2 ^ 52 := rfl
    have hle := PySem.W.mag_le hn
    refine Nat.lt_of_le_of_ne hle fun z => ?_
    unfold decode at h3
    simp only [] at h3
    rw [if_pos (by simp only [beq_iff_eq]; omega), if_pos (by simp only [beq_iff_eq]; omega)] at h3
    cases h3
  have ha : abs y = pack false (y.toNat % 2 ^ 63) := by unfold abs; rw [if_neg (by simp [hn])]
  have hyp : ∃ b', y = pack b' (y.toNat % 2 ^ 63) := by
    refine ⟨decide (2 ^ 63 ≤ y.toNat), UInt64.toNat_inj.mp ?_⟩
    rw [pack_toNat _ (by have : infMag = 2047 * 2 ^ 52 := rfl; omega)]
    have := y.toNat_lt
    by_cases h : 2 ^ 63 ≤ y.toNat
    · simp [h]; omega
    · simp [h]; omega
  obtain ⟨b', hy'⟩ := hyp
  obtain ⟨k1, e1, hd1, _⟩ := decode_pack false hlt
  have v1 : val (abs y) = V (y.toNat % 2 ^ 63) := by rw [ha, val_pack false hlt]; rfl
  have v2 : (val y).natAbs = V (y.toNat % 2 ^ 63) := by
    conv => lhs; rw [hy']
    rw [val_pack b' hlt, sgn_natAbs]
  refine ⟨⟨false, k1, e1, by rw [ha]; exact hd1⟩, h4, ?_⟩
  have h6 := congrArg Int.natAbs h5
  rw [Int.natAbs_mul, Int.natAbs_mul, v2, Int.natAbs_pow] at h6
  rw [v1]
  have e1 : ((2 ^ 1074 : Nat) : Int) = (2 : Int) ^ 1074 := by rw [Int.natCast_pow]; rfl
  have e3 : (q.natAbs : Int) = q := by omega
  have h7 := congrArg (fun n : Nat => (n : Int)) h6
  simp only [Int.natCast_mul] at h7
  rw [e3] at h7
  rw [← h7, ← e1]
  rfl
/-- spreads are never below nought -/
theorem not_below {t : Nat} (h : t ≤ infMag) : (cmp (pack false t) 0 == some .lt) = false := by
  rcases Nat.lt_or_ge t infMag with hlt | hge
  · obtain ⟨m, e, h1, _⟩ := decode_pack false hlt
    have h0 : decode 0 = .fin false 0 (-1074) := PySem.Flt.decode_zero
    rw [cmp_right h1 h0, val_pack false hlt]
    have v0 : val 0 = 0 := by rw [val_eq h0]; rfl
    rw [v0]
    have : ¬ ((sgn false (V t)) < 0) := by unfold sgn; simp
    cases hc : compare (sgn false (V t)) 0 with
    | lt => exact absurd (Int.compare_eq_lt.mp hc) this
    | eq => rfl
    | gt => rfl
  · have e : t = infMag := by omega
    subst e
    decide +kernel
theorem right_plus {r : UInt64} {W D : Nat} (h : Right r false W D) : (cmp r 0 == some .lt) = false := by
  obtain ⟨t, rfl, k, _⟩ := h
  exact not_below k
theorem plus_of {a : Bool} {k : Nat} {e : Int} (h : decode (abs y) = .fin a k e) (hn : isNaN y = false) : a = false := by
  have ha : abs y = pack false (y.toNat % 2 ^ 63) := by unfold abs; rw [if_neg (by simp [hn])]
  have hle := PySem.W.mag_le hn
  rw [ha] at h
  rcases Nat.lt_or_ge (y.toNat % 2 ^ 63) infMag with hlt | hge
  · obtain ⟨k1, e1, hd1, _⟩ := decode_pack false hlt
    rw [hd1] at h
    cases h; rfl
  · have e : y.toNat % 2 ^ 63 = infMag := by omega
    rw [e] at h
    have : decode (pack false infMag) = .inf false := by kernel_rfl
    rw [this] at h
    cases h
theorem mul_plus (hx : Exact x s) (hs : 0 ≤ s) (hy : IsRatio y p q) : (cmp (mul x (abs y)) 0 == some .lt) = false := by
  obtain ⟨⟨b, k', e', h3⟩, h5, h6⟩ := hy
  have hn : isNaN y = false := by unfold isNaN; rw [h3]
  obtain ⟨⟨b1, k1, e1, h4⟩, _, _⟩ := abs_ratio (p := p) (q := q) ⟨⟨b, k', e', h3⟩, h5, h6⟩
  have hb := plus_of h4 hn
  subst hb
  obtain ⟨k, e, h1⟩ := hx.plus hs
  exact right_plus (mul_right h1 h4)
theorem div_plus (hx : Exact x s) (hs : 0 ≤ s) (hy : IsRatio y p q) (hp : p ≠ 0) : (cmp (div x (abs y)) 0 == some .lt) = false := by
  obtain ⟨⟨b, k', e', h3⟩, h5, h6⟩ := hy
  have hn : isNaN y = false := by unfold isNaN; rw [h3]
  obtain ⟨⟨b1, k1, e1, h4⟩, h7, h8⟩ := abs_ratio (p := p) (q := q) ⟨⟨b, k', e', h3⟩, h5, h6⟩
  have hb := plus_of h4 hn
  subst hb
  obtain ⟨k, e, h1⟩ := hx.plus hs
  have hk1 : k1 ≠ 0 := fun z => by
    rw [val_eq h4, z, Nat.zero_mul] at h8
    have : (p.natAbs : Int) * 2 ^ 1074 = 0 := by rw [h8]; unfold sgn; simp
    rcases Int.mul_eq_zero.mp this with q1 | q1
    · omega
    · exact Int.ne_of_gt (Int.pow_pos (by decide)) q1
  exact right_plus (div_right h1 h4 hk1)
theorem exact_plus (hx : Exact x s) (hs : 0 ≤ s) : (cmp x 0 == some .lt) = false := by
  obtain ⟨k, e, h1⟩ := hx.plus hs
  have h0 : decode 0 = .fin false 0 (-1074) := PySem.Flt.decode_zero
  rw [cmp_right h1 h0, val_eq h1, val_eq h0]
  have : ¬ ((sgn false (k * 2 ^ (e + 1074).toNat)) < (sgn false (0 * 2 ^ ((-1074 : Int) + 1074).toNat))) := by unfold sgn; simp; exact Int.mul_nonneg (by omega) (Int.le_of_lt (Int.pow_pos (by decide)))
  cases hc : compare (sgn false (k * 2 ^ (e + 1074).toNat)) (sgn false (0 * 2 ^ ((-1074 : Int) + 1074).toNat)) with
  | lt => exact absurd (Int.compare_eq_lt.mp hc) this
  | eq => rfl
  | gt => rfl
theorem same_law (hx : Exact x s) : cmp x (nearF s 1) = some .eq := by
  obtain ⟨⟨a, k, e, h1⟩, h2, _, h3⟩ := hx
  have : nearF s 1 = x := by
    rw [h3]
    unfold nearF ofInt
    have e1 : (decide (s < 0) != decide ((1 : Int) < 0)) = decide (s < 0) := by simp
    rw [e1]
    rfl
  rw [this, cmp_right h1 h1]
  simp
theorem exact_int (hx : Exact x s) : cmpInt x s = some .eq := by
  obtain ⟨⟨a, k, e, h1⟩, h2, _⟩ := hx
  rw [cmpInt_right h1, h2]
  simp
end
end Mine
end
section
open PySem PySem.W PySem.Spec PySem.Calls PyProof.Rows
namespace Mine
section
variable {prog : Program} {w : World} {A₀ : Around} {E : Value → Shared → Prop} {s' : Shared} {base g g₀ G h : Heap} {outer : List Env} {L a e : Addr} {m : Str → Option Value} {name : Str} {scope : Scope} {cd cls : Value} {cl : List (Str × Addr)}
  {suite : List Stmt} {b₀ : Stmt} {pos np : Pos} {rest hs : List ExceptHandler} {Q : Flow → Shared → Prop} {news : List (Addr × Obj)} {KF : Frag}
  {p : Program} {loose : List Str} {mean : ExcName → Option Value} {mg mb : Str → Option Value} {x T' : String}
/-- an exception that the frame's own step raises, as one in flight into this frame: its traceback's first entry -/
theorem frame_hit (K : Below A₀ base outer g) (F : Fr g L h m) (N : News g L h news) (hk : scope.kind = .function) {M : Model} (hx : Heap.NewExc h s'.heap e x) {Q : Unit → Shared → Prop}
    (k : ∀ h', RaisedSN base (hideAll h (news.map (·.1))) (envX name scope L a cd cl :: outer) e (.type x) news h' → (hideAll h (news.map (·.1))).UpToSlots h' → Fr g L (hideAll h (news.map (·.1))) m → Q () { s' with heap := h' }) :
    wpAny M (A₀.deeper (envX name scope L a cd cl)) (noteFrame (.ref e) (envX name scope L a cd cl)) (fun _ s₂ => wpAny M (A₀.deeper (envX name scope L a cd cl)) (setFlight (.ref e) none) Q E s₂) E s' := by
  have K' : Below (A₀.deeper (envX name scope L a cd cl)) base (envX name scope L a cd cl :: outer) h := pushX K F rfl hk
  obtain ⟨FG, _, _, _⟩ := groundX (s := { s' with heap := h }) (A := A₀.deeper (envX name scope L a cd cl)) (env := envX name scope L a cd cl) (R := fun _ _ => True) K F N K'.stack rfl hk
  have hin : ∀ env ∈ (envX name scope L a cd cl :: outer), ∀ b, env.frame = some b → b ∈ (envX name scope L a cd cl :: outer).filterMap (·.frame) := fun env he b hb => List.mem_filterMap.mpr ⟨env, he, hb⟩
  have st : base.StaysIn (hideAll h ((envX name scope L a cd cl :: outer).filterMap (·.frame))) := fun b o q => hideAll_get _ (K'.stays b o q) fun hm => by
    rw [(K'.frames.mem hm).1] at q; cases q
  have sg : ∀ b o, (hideAll h (news.map (·.1))).get? b = some o → b ∉ (envX name scope L a cd cl :: outer).filterMap (·.frame) → (hideAll h ((envX name scope L a cd cl :: outer).filterMap (·.frame))).get? b = some o :=
    fun b o q nm => hideAll_get _ (of_hideAll _ q) nm
  have hl : ∀ q ∈ news, (hideAll h ((envX name scope L a cd cl :: outer).filterMap (·.frame))).get? q.1 = some q.2 ∧ (hideAll h (news.map (·.1))).get? q.1 = none ∧ base.get? q.1 = none := fun q hq => by
    refine ⟨hideAll_get _ (N q hq).1 fun hm => ?_, hideAll_none _ (List.mem_map_of_mem hq), fresh_of_stays K.stays (N q hq).2.2⟩
    obtain ⟨env, he, hf⟩ := List.mem_filterMap.mp hm
    rcases List.mem_cons.mp he with rfl | he
    · exact (N q hq).2.1 (Option.some.inj hf).symm
    · obtain ⟨o, ho, _⟩ := (K.frames.mem (List.mem_filterMap.mpr ⟨env, he, hf⟩)).2
      rw [(N q hq).2.2] at ho; cases ho
  obtain ⟨ob, tp, he, hcls, hd⟩ := hx.there
  have hen : (hideAll h ((envX name scope L a cd cl :: outer).filterMap (·.frame))).get? e = none := by
    cases q : (hideAll h ((envX name scope L a cd cl :: outer).filterMap (·.frame))).get? e with
    | none => rfl
    | some o => have := of_hideAll _ q; rw [hx.new] at this; cases this
  unfold noteFrame
  dsimp only
  refine wpAny_bind (wpAny_field he hd (x := .none) rfl ?_)
  rw [if_neg (by decide)]
  have FF := (funFrames_hide K'.frames hin).of_keeps (h' := s'.heap) fun b o hb _ => ⟨o, hx.keeps b o hb, rfl⟩
  refine wpAny_entryW (a0 := tp) K'.stack FF rfl he (fun b o hb => hx.keeps b o (of_hideAll _ hb)) hen hd (show 1 < 6 by decide) rfl fun h₁ hN => ?_
  obtain ⟨k1, k2, k3, k4⟩ := hN
  refine wpAny_landsW (base := hideAll h ((envX name scope L a cd cl :: outer).filterMap (·.frame))) (l := envX name scope L a cd cl :: outer) (cls := .type x) (a0 := tp) (L := L) ⟨k1, hen, k2, by rw [← hcls]; exact k3⟩ fun h₂ hfl hsm => ?_
  have hup : (hideAll h (news.map (·.1))).UpToSlots h₂ := ((((Heap.UpToSlots.of_keeps fun b o q => of_hideAll _ q).trans (Heap.UpToSlots.of_keeps hx.keeps)).trans k4).trans hsm)
  exact k h₂ ⟨_, tp, st, sg, hl, hfl⟩ hup FG
/-- one that came from a callee -/
theorem frame_look (K : Below A₀ base outer g) {M : Model} {Q : Unit → Shared → Prop} (R : RaisedSN base G (envX name scope L a cd cl :: outer) e cls news s'.heap) (hsm : G.UpToSlots s'.heap)
    (k : ∀ h', RaisedSN base G (envX name scope L a cd cl :: outer) e cls news h' → G.UpToSlots h' → Q () { s' with heap := h' }) :
    wpAny M (A₀.deeper (envX name scope L a cd cl)) (noteFrame (.ref e) (envX name scope L a cd cl)) (fun _ s₂ => wpAny M (A₀.deeper (envX name scope L a cd cl)) (setFlight (.ref e) none) Q E s₂) E s' := by
  obtain ⟨B, a0, hB, hBG, hl, hfl⟩ := R
  refine wpAny_looks_onW (Around.frames_deeper K.stack) rfl hfl fun h₄ hheld₄ hsm₄ => ?_
  refine wpAny_landsW hheld₄ fun h₅ hheld hsm₅ => ?_
  exact k h₅ ⟨B, a0, hB, hBG, hl, hheld⟩ (hsm.trans (hsm₄.trans hsm₅))
/-- a clause «except X» by a built-in class: not this one -/
theorem clause_pass {X : Str} (R : RaisedSN base G (envX name scope L a cd cl :: outer) e cls news s'.heap) (F : Fr g L G m) (K : Below A₀ base outer g) (hsm : G.UpToSlots s'.heap) (XB : KF.In base) (TB : Top p loose mean mg mb base)
    (ex : nsIn KF mainGlobals X = some none) (hv : bootBuiltins X = some (.type T')) (hn : X ≠ "__name__") (he : exmOne KF cls (.type T') = some false)
    (k : ∀ h', RaisedSN base G (envX name scope L a cd cl :: outer) e cls news h' → G.UpToSlots h' → wpAny (model prog w) (A₀.deeper (envX name scope L a cd cl)) (handleBy (.ref e) (envX name scope L a cd cl) rest) Q E { s' with heap := h' })
    (hk : scope.kind = .function := by rfl) (hx : (envX name scope L a cd cl).kindOf X = some .globalImplicit := by rfl) (hd : (X == ("__debug__" : Str)) = false := by decide) :
    wpAny (model prog w) (A₀.deeper (envX name scope L a cd cl)) (handleBy (.ref e) (envX name scope L a cd cl) (.ExceptHandler (some (.Name X np)) none suite pos :: rest)) Q E s' := by
  have R' := R
  obtain ⟨B, a0, hB, hBG, hl, hfl⟩ := R'
  obtain ⟨g₅, T₅, F₅, K₅⟩ := kts_ground (name := name) (scope := scope) (a := a) (cd := cd) K F hBG hfl.1 hsm
  have X₅ := XB.keeps K₅.stays
  refine wpAny_handleBy_cons (codeAny_handlers_test (nameX_B F₅ X₅ (topRead_of (TB.keeps K₅.stays)) ex hv hn ((exm_one (X₅.keeps F₅.keep) R.ty he).here ?_) hk hx hd)) (by intro q; cases q)
  exact k s'.heap R hsm
theorem clause_hit {X : Str} (R : RaisedSN base G (envX name scope L a cd cl :: outer) e cls news s'.heap) (F : Fr g L G m) (K : Below A₀ base outer g) (hsm : G.UpToSlots s'.heap) (XB : KF.In base) (TB : Top p loose mean mg mb base)
    (D : KtsDicts (outer.filterMap (·.frame)) g) (T0 : KtsTurn (outer.filterMap (·.frame)) g₀ g)
    (ex : nsIn KF mainGlobals X = some none) (hv : bootBuiltins X = some (.type T')) (hn : X ≠ "__name__") (he : exmOne KF cls (.type T') = some true)
    (k : ∀ h' g', KtsTurn (outer.filterMap (·.frame)) g₀ g' → Fr g' L h' m → News g' L h' news → Below A₀ base outer g' → KF.In g' → Top p loose mean mg mb g' → KtsDicts (outer.filterMap (·.frame)) g' →
      wpAny (model prog w) ((A₀.deeper (envX name scope L a cd cl)).mark (some (.ref e))) (execs (b₀ :: suite) (envX name scope L a cd cl)) Q (fun _ _ => False) { s' with heap := h' })
    (hk : scope.kind = .function := by rfl) (hx : (envX name scope L a cd cl).kindOf X = some .globalImplicit := by rfl) (hd : (X == ("__debug__" : Str)) = false := by decide) :
    wpAny (model prog w) (A₀.deeper (envX name scope L a cd cl)) (handleBy (.ref e) (envX name scope L a cd cl) (.ExceptHandler (some (.Name X np)) none (b₀ :: suite) pos :: rest)) Q (fun _ _ => False) s' := by
  have R' := R
  obtain ⟨B, a0, hB, hBG, hl, hfl⟩ := R'
  obtain ⟨g₅, T₅, F₅, K₅⟩ := kts_ground (name := name) (scope := scope) (a := a) (cd := cd) K F hBG hfl.1 hsm
  have X₅ := XB.keeps K₅.stays
  have hL : B.get? L = none := by
    obtain ⟨_, ⟨L', _, hf, hn', _⟩, _⟩ := hfl.2.2.1
    obtain rfl : L = L' := Option.some.inj hf
    exact hn'
  refine wpAny_handleBy_cons (codeAny_handlers_test (nameX_B F₅ X₅ (topRead_of (TB.keeps K₅.stays)) ex hv hn ((exm_one (X₅.keeps F₅.keep) R.ty he).here ?_) hk hx hd)) (by intro q; cases q)
  refine codeAny_handlers_suite ?_
  refine lands_againW hfl fun h₆ hfl₆ hsm₆ => ?_
  obtain ⟨g₆, T₆, F₆, K₆⟩ := kts_ground (name := name) (scope := scope) (a := a) (cd := cd) K F hBG hfl₆.1 (hsm.trans hsm₆)
  have Nl : News g₆ L h₆ news := fun q hq => ⟨hfl₆.1 _ _ (hl q hq).1, (fun z => by have := (hl q hq).1; rw [z, hL] at this; cases this), T₆.none_ _ (kts_none F.keep (hl q hq).2.1)⟩
  exact wpAny_passesOwnAt PassesOwnAt.never (k h₆ g₆ (T0.trans T₆) F₆ Nl K₆ (XB.keeps K₆.stays) (TB.keeps K₆.stays) (D.turn T₆))
end
section
variable {M : Model} {A : Around} {E : Value → Shared → Prop} {s' : Shared} {base g g₂ h : Heap} {outer : List Env} {L a e : Addr} {m : Str → Option Value} {name : Str} {scope : Scope} {cd : Value} {cl : List (Str × Addr)} {Q : Unit → Shared → Prop} {news : List (Addr × Obj)}
/-- an exception that is raised in a frame (with cells) leaves it -/
theorem leave_newX {cls : String} (K : Below A base outer g) (hx : Heap.NewExc h s'.heap e cls) (F : Fr g L h m) (N : News g L h news)
    (hQ : ∀ h', RaisedSN base g outer e (.type cls) news h' → g.UpToSlots h' → Q () { s' with heap := h' }) (hk : scope.kind = .function := by rfl) :
    wpAny M (A.deeper (envX name scope L a cd cl)) (leaving (envX name scope L a cd cl) (.ref e)) Q E s' := by
  have K' : Below (A.deeper (envX name scope L a cd cl)) base (envX name scope L a cd cl :: outer) h := pushX K F rfl hk
  have hin : ∀ env ∈ (envX name scope L a cd cl :: outer), ∀ b, env.frame = some b → b ∈ (envX name scope L a cd cl :: outer).filterMap (·.frame) := fun env he b hb => List.mem_filterMap.mpr ⟨env, he, hb⟩
  have st : base.StaysIn (hideAll h ((envX name scope L a cd cl :: outer).filterMap (·.frame))) := fun b o q => hideAll_get _ (K'.stays b o q) fun hm => by
    rw [(K'.frames.mem hm).1] at q; cases q
  have sg : ∀ b o, g.get? b = some o → b ∉ outer.filterMap (·.frame) → (hideAll h ((envX name scope L a cd cl :: outer).filterMap (·.frame))).get? b = some o := fun b o q nm => hideAll_get _ (F.keep b o q) fun hm => by
    rcases kts_mem (name := name) (scope := scope) (a := a) (cd := cd) hm with z | z
    · rw [z, kts_self F] at q
      cases q
    · exact nm z
  have hl : ∀ q ∈ news, (hideAll h ((envX name scope L a cd cl :: outer).filterMap (·.frame))).get? q.1 = some q.2 ∧ g.get? q.1 = none ∧ base.get? q.1 = none := fun q hq => by
    refine ⟨hideAll_get _ (N q hq).1 fun hm => ?_, (N q hq).2.2, fresh_of_stays K.stays (N q hq).2.2⟩
    obtain ⟨env, he, hf⟩ := List.mem_filterMap.mp hm
    rcases List.mem_cons.mp he with rfl | he
    · exact (N q hq).2.1 (Option.some.inj hf).symm
    · obtain ⟨o, ho, _⟩ := (K.frames.mem (List.mem_filterMap.mpr ⟨env, he, hf⟩)).2
      rw [(N q hq).2.2] at ho; cases ho
  obtain ⟨ob, tp, he, hcls, hd⟩ := hx.there
  have hen : (hideAll h ((envX name scope L a cd cl :: outer).filterMap (·.frame))).get? e = none := by
    cases q : (hideAll h ((envX name scope L a cd cl :: outer).filterMap (·.frame))).get? e with
    | none => rfl
    | some o => have := of_hideAll _ q; rw [hx.new] at this; cases this
  refine wpAny_leaving_firstW (a0 := tp) K'.stack ((funFrames_hide K'.frames hin).of_keeps fun b o hb _ => ⟨o, hx.keeps b o hb, rfl⟩) rfl he (fun b o hb => hx.keeps b o (of_hideAll _ hb)) hen hd rfl rfl fun h' hL => ?_
  obtain ⟨k1, ⟨_, _, k2⟩, k3, k4⟩ := hL
  exact hQ h' ⟨_, tp, st, sg, hl, k1, hen, k2, by rw [← hcls]; exact k3⟩ (((Heap.UpToSlots.of_keeps F.keep).trans (Heap.UpToSlots.of_keeps hx.keeps)).trans k4)
/-- an exception in flight goes on -/
theorem leave_onX {cls : Value} (K : Below A base outer g) (F : Fr g L g₂ m) (R : RaisedSN base g₂ (envX name scope L a cd cl :: outer) e cls news s'.heap) (hsm : g₂.UpToSlots s'.heap)
    (hQ : ∀ h', RaisedSN base g outer e cls news h' → g.UpToSlots h' → Q () { s' with heap := h' }) :
    wpAny M (A.deeper (envX name scope L a cd cl)) (leaving (envX name scope L a cd cl) (.ref e)) Q E s' := by
  obtain ⟨B, a0, hB, hBG, hl, hfl⟩ := R
  exact wpAny_leaves_onW (Around.frames_deeper K.stack) rfl hfl fun h' x1 x2 =>
    hQ h' ⟨B, a0, hB, fun b o q nm => hBG b o (F.keep b o q) (fun hm => by
      rcases kts_mem (name := name) (scope := scope) (a := a) (cd := cd) hm with z | z
      · rw [z, kts_self F] at q
        cases q
      · exact nm z), fun q hq => ⟨(hl q hq).1, kts_none F.keep (hl q hq).2.1, (hl q hq).2.2⟩, x1⟩ ((Heap.UpToSlots.of_keeps F.keep).trans (hsm.trans x2))
/-- fewer of the ledger -/
theorem raised_less {base G : Heap} {l : List Env} {cls : Value} {news news' : List (Addr × Obj)} (R : RaisedSN base G l e cls news' h) (hs : ∀ p ∈ news, p ∈ news') : RaisedSN base G l e cls news h := by
  obtain ⟨B, a0, hB, hBG, hl, hfl⟩ := R
  exact ⟨B, a0, hB, hBG, fun q hq => hl q (hs q hq), hfl⟩
end
section
variable {prog : Program} {w : World} {A₀ A : Around} {s : Shared} {base h₀ g₀ : Heap} {outer : List Env} {L a : Addr} {m : Str → Option Value} {cn : Str} {cs : Scope} {ccd : Value} {news : List (Addr × Obj)} {K : Frag} {p : Program} {loose : List Str} {mean : ExcName → Option Value} {mg mb : Str → Option Value}
    {R : Result → Shared → Prop} {name qual : Str} {params : Arguments} {body : List Stmt} {scope : Scope} {dV kV doc pm cdv ct oc : Value} {an od : Option Addr} {osl : Array (Option Value)} {f : Addr} {args : Args} {binds : List (Str × Value)}
/-- a def with cells that catches, called from the law's own frame -/
theorem enter_cells (B : Below A₀ base [] h₀) (F : Fr h₀ L s.heap m) (X₀ : K.In h₀) (N : News h₀ L s.heap news) (T : Top p loose mean mg mb h₀) (hA : A.frames = some [envOf cn cs L a ccd])
    (ho : K.lookup f = some ⟨oc, od, .func (fnOf name qual params body scope dV kV doc pm an cdv ct), osl⟩) (hcd : codeIn K cdv qual = true) (hroom : A.depth < recursionLimit)
    (hbind : BindsTo s (fnOf name qual params body scope dV kV doc pm an cdv ct) args binds) (hkind : (binds.all fun y => scope.names.lookup y.1 == some .local || scope.names.lookup y.1 == some .cell) = true)
    (hnd : ((cellsFrom 0 scope.names []).map (·.1)).Nodup)
    (h : ∀ g L' h₁ tk cells, Fr h₀ L g m → Fr g L' h₁ (bindL (envOfC qual scope L' f cdv).kindOf binds fun _ => none) → News g L' h₁ (cells ++ news) →
      CellsAre (bindC (envOfC qual scope L' f cdv).kindOf binds fun _ => none) (cellsFrom (L' + 1) scope.names []) cells → Below A base [envOf cn cs L a ccd] g → K.In g → Top p loose mean mg mb g → KtsDicts ([envOf cn cs L a ccd].filterMap (·.frame)) g → (∀ p ∈ news, p.1 < L') →
      wpAny (model prog w) (A.deeper (envOfC qual scope L' f cdv)) (execs body (envOfC qual scope L' f cdv))
        (fun fl s' => LeaveS0 ([envOf cn cs L a ccd].filterMap (·.frame)) h₀ L m g R (match fl with | .ret v => v | _ => .none) s') (fun _ _ => False) { s with heap := h₁, toks := tk })
    (hck : cs.kind = .function) (hco : scope.isCoroutine = false) (hgen : scope.isGenerator = false) (hk : scope.kind = .function) : codeAny (model prog w) A (.call (.ref f) args) R s := by
  have X := X₀.keeps F.keep
  obtain ⟨oL, es, ep, hLg, hLd, hN, hNs, st, B₂⟩ := kts_enter B F N hA hck
  refine codeAny_call_function hroom (X _ _ ho) rfl hco hgen rfl (codeRec_of X hcd) (hbind _ _ _ _ ?_)
  refine wpAny_newFunctionEnv_cells hk (kindsX hkind _) fun env' he s' x => ?_
  subst he
  refine ⟨(T.nolimit.keeps F.keep).keeps x.toInCall.keep, codeAny_func ?_⟩
  obtain ⟨h₁, tk, rfl, _⟩ := x.done
  have hk₁ := x.toInCall.keep
  obtain ⟨cells, NC, Y⟩ := Cl.news (h₀ := s.heap) (Nat.le_refl _) fun n c hm => ⟨x.cell n c (lookup_of_mem_nodup (cellsFrom_names scope.names 0 (s.heap.objs.size + 1) [] [] rfl ▸ hnd) hm), x.above n c hm⟩
  refine wpAny_mono (h _ s.heap.objs.size h₁ tk cells ⟨hN _ hLg, st, F.above⟩ ⟨x.toInCall.ns, fun b o e => hk₁ b o (of_hideAll _ e), Nat.le_of_eq (hideAll_size _ _)⟩ (fun p hp => ?_) Y B₂ (X₀.keeps st) (T.keeps st) (fun b hb => by
      rcases kts_mem hb with rfl | z
      · exact ⟨oL, es, ep, hLg, hLd⟩
      · simp at z) (fun p hp => Heap.lt_size (N p hp).1)) (fun fl s' hl => ?_) fun _ _ y => y.elim
  · rcases List.mem_append.mp hp with hp | hp
    · refine ⟨(NC p hp).1, (NC p hp).2.1, ?_⟩
      cases q : (hideAll s.heap (news.map (·.1))).get? p.1 with
      | none => rfl
      | some o => have := of_hideAll _ q; rw [(NC p hp).2.2] at this; cases this
    · exact ⟨hk₁ _ _ (N p hp).1, Nat.ne_of_lt (Heap.lt_size (N p hp).1), hideAll_none _ (List.mem_map_of_mem hp)⟩
  · obtain ⟨g', L', m', news', T', F', N', k⟩ := hl
    have nL₀ : h₀.get? L = none := kts_self F
    obtain ⟨sl, hs⟩ := T'.up hLg
    refine k ⟨hNs sl _ (F'.keep _ _ hs), fun b o e => F'.keep b o (T'.other b o (st b o e) (fun q => by
      rcases kts_mem q with z | z
      · rw [z, nL₀] at e
        cases e
      · simp at z)), F.above⟩ fun p hp => ⟨(N' p hp).1, fun q => ?_, ?_⟩
    · have := (N' p hp).2.2; rw [q, hs] at this; cases this
    · cases q : h₀.get? p.1 with
      | none => rfl
      | some o =>
        obtain ⟨sl', hs'⟩ := T'.up (st _ _ q)
        have := (N' p hp).2.2
        rw [hs'] at this
        cases this
end
abbrev LZ : List Str := looseW qz [Str.ofString "NormalDist"] ++ (recsOf qz).map (fun x => x.name) ++ (litsOf qz).map (fun x => x.1) ++ (clssOf qz (looseW qz [Str.ofString "NormalDist"])).map (fun x => x.name)
section
variable {prog : Program} {w : World} {A₀ A : Around} {s : Shared} {base h₀ g₀ : Heap} {outer : List Env} {L a : Addr} {m : Str → Option Value} {cn : Str} {cs : Scope} {ccd : Value} {cl : List (Str × Addr)} {news : List (Addr × Obj)} {K : Frag} {p : Program} {loose : List Str} {mean : ExcName → Option Value} {mg mb : Str → Option Value}
    {R : Result → Shared → Prop} {name qual : Str} {params : Arguments} {body : List Stmt} {scope : Scope} {dV kV doc pm cdv ct oc : Value} {an od : Option Addr} {osl : Array (Option Value)} {f : Addr} {args : Args} {binds : List (Str × Value)}
/-- how a def that may have caught comes back: the frames below may have turned -/
def LeaveOz (fs : List Addr) (A₀ : Around) (base : Heap) (outer : List Env) (K : Frag) (p : Program) (loose : List Str) (mean : ExcName → Option Value) (mg mb : Str → Option Value) (h₀ : Heap) (L : Addr) (m : Str → Option Value) (g : Heap) (R : Result → Shared → Prop) (v : Value) (s' : Shared) : Prop :=
  ∃ g' L' m' news', KtsTurn fs g g' ∧ Fr g' L' s'.heap m' ∧ News g' L' s'.heap news' ∧ ∀ h₀', KtsTurn (outer.filterMap (·.frame)) h₀ h₀' → Fr h₀' L s'.heap m → News h₀' L s'.heap news' → Below A₀ base outer h₀' → K.In h₀' → Top p loose mean mg mb h₀' →
    KtsDicts (outer.filterMap (·.frame)) h₀' → R (.ok (.ret v)) s'
theorem enter_catch (B : Below A₀ base outer h₀) (F : Fr h₀ L s.heap m) (X₀ : K.In h₀) (N : News h₀ L s.heap news) (T : Top p loose mean mg mb h₀) (XB : K.In base) (TB : Top p loose mean mg mb base) (D : KtsDicts (outer.filterMap (·.frame)) h₀)
    (hA : A.frames = some (envX cn cs L a ccd cl :: outer))
    (ho : K.lookup f = some ⟨oc, od, .func (fnOf name qual params body scope dV kV doc pm an cdv ct), osl⟩) (hcd : codeIn K cdv qual = true) (hroom : A.depth < recursionLimit)
    (hbind : BindsTo s (fnOf name qual params body scope dV kV doc pm an cdv ct) args binds) (hloc : ∀ y ∈ binds, scope.names.lookup y.1 = some .local)
    (h : ∀ g L' h₁, Fr h₀ L g m → Fr g L' h₁ (fun y => binds.reverse.lookup y) → News g L' h₁ news → Below A base (envX cn cs L a ccd cl :: outer) g → K.In g → Top p loose mean mg mb g → KtsDicts ((envX cn cs L a ccd cl :: outer).filterMap (·.frame)) g →
      wpAny (model prog w) (A.deeper (envOf qual scope L' f cdv)) (execs body (envOf qual scope L' f cdv))
        (fun fl s' => LeaveOz ((envX cn cs L a ccd cl :: outer).filterMap (·.frame)) A₀ base outer K p loose mean mg mb h₀ L m g R (match fl with | .ret v => v | _ => .none) s') (fun _ _ => False)
        { s with heap := h₁, toks := s.toks + binds.length })
    (hck : cs.kind = .function) (hco : scope.isCoroutine = false) (hgen : scope.isGenerator = false) (hk : scope.kind = .function)
    (hcell : ∀ x ∈ scope.names, x.2 ≠ .cell) : codeAny (model prog w) A (.call (.ref f) args) R s := by
  have X := X₀.keeps F.keep
  refine codeAny_call_def (fd := fnOf name qual params body scope dV kV doc pm an cdv ct) (body := body) (binds := binds) hroom (X _ _ ho) rfl (T.nolimit.keeps F.keep) (codeRec_of X hcd) rfl hbind hcell hloc (fun h₁ hns hk₁ => ?_) hco hgen hk
  have nm : ∀ b o, h₀.get? b = some o → b ∉ news.map (·.1) := fun b o e q => by
    obtain ⟨p, hp, rfl⟩ := List.mem_map.mp q
    rw [(N p hp).2.2] at e; cases e
  have st : h₀.StaysIn (hideAll s.heap (news.map (·.1))) := fun b o e => hideAll_get _ (F.keep b o e) (nm b o e)
  obtain ⟨FG, BG, _, _⟩ := groundX (A := A) (env := envX cn cs L a ccd cl) (R := fun _ _ => True) B F N hA rfl hck
  obtain ⟨oL, es, ep, hLg, hLd, hLk, hLf⟩ := FG.ns
  have hNs : ∀ (sl : Array (Option Value)) h', h'.get? L = some { oL with slots := sl } → Heap.Ns h' L m := fun sl h' e => ⟨_, es, ep, e, hLd, hLk, hLf⟩
  refine wpAny_mono (h _ s.heap.objs.size h₁ FG ⟨hns, fun b o e => hk₁ b o (of_hideAll _ e), Nat.le_of_eq (hideAll_size _ _)⟩
    (fun p hp => ⟨hk₁ _ _ (N p hp).1, Nat.ne_of_lt (Heap.lt_size (N p hp).1), hideAll_none _ (List.mem_map_of_mem hp)⟩) BG (X₀.keeps st) (T.keeps st) (fun b hb => by
      rcases kts_mem (name := cn) (scope := cs) (a := a) (cd := ccd) hb with rfl | hb
      · exact ⟨oL, es, ep, hLg, hLd⟩
      · obtain ⟨o, es', n', ho', hd'⟩ := D b hb
        exact ⟨o, es', n', st b o ho', hd'⟩)) (fun fl s' hl => ?_) fun _ _ y => y.elim
  have nL₀ : h₀.get? L = none := kts_self F
  obtain ⟨g', L', m', news', T', F', N', k⟩ := hl
  obtain ⟨sl, hs⟩ := T'.up hLg
  obtain ⟨T₁, S₁⟩ := kts_turn_at (h := s'.heap) (fs := outer.filterMap (·.frame)) (g := h₀)
    (fun b hb => by
      obtain ⟨_, o, ho', _⟩ := B.frames.mem hb
      exact ⟨o, ho'⟩)
    (fun b o e nmem => F'.keep b o (T'.other b o (st b o e) (fun q => by
      rcases kts_mem (name := cn) (scope := cs) (a := a) (cd := ccd) q with z | z
      · rw [z, nL₀] at e
        cases e
      · exact nmem z)))
    (fun b o e hm => by
      obtain ⟨sl', hs'⟩ := T'.up (st b o e)
      exact ⟨sl', F'.keep _ _ hs'⟩)
  have B₃ : Below A₀ base outer (ktsHeap s'.heap (outer.filterMap (·.frame)) h₀) := ⟨B.stack, fun b o e => T₁.other b o (B.stays b o e) (fun hm => by
    rw [(B.frames.mem hm).1] at e
    cases e), B.frames.of_keeps fun b o e _ => by
    obtain ⟨sl', hs'⟩ := T₁.up e
    exact ⟨_, hs', rfl⟩⟩
  refine k _ T₁ ⟨hNs sl _ (F'.keep _ _ hs), S₁, by rw [T₁.size]; exact F.above⟩ (fun p hp => ⟨(N' p hp).1, fun q => ?_, ?_⟩) B₃ (XB.keeps B₃.stays) (TB.keeps B₃.stays) (D.turn T₁)
  · have := (N' p hp).2.2; rw [q, hs] at this; cases this
  · refine T₁.none_ _ ?_
    cases q : h₀.get? p.1 with
    | none => rfl
    | some o =>
      obtain ⟨sl', hs'⟩ := T'.up (st _ _ q)
      have := (N' p hp).2.2
      rw [hs'] at this
      cases this
theorem leaveOz_ {fs : List Addr} {g g' : Heap} {L' : Addr} {m' : Str → Option Value} {news' : List (Addr × Obj)} {v : Value} {s' : Shared} (F' : Fr g' L' s'.heap m') (N' : News g' L' s'.heap news') (T : KtsTurn fs g g')
    (k : ∀ h₀', KtsTurn (outer.filterMap (·.frame)) h₀ h₀' → Fr h₀' L s'.heap m → News h₀' L s'.heap news' → Below A₀ base outer h₀' → K.In h₀' → Top p loose mean mg mb h₀' → KtsDicts (outer.filterMap (·.frame)) h₀' → R (.ok (.ret v)) s') :
    LeaveOz fs A₀ base outer K p loose mean mg mb h₀ L m g R v s' := ⟨g', L', m', news', T, F', N', k⟩
end
section
variable {prog : Program} {w : World} {A : Around} {E : Value → Shared → Prop} {s : Shared} {K : Frag} {x C L f f' : Addr} {h₀ : Heap} {m : Str → Option Value} {ox : Obj} {od : Option Obj} {T : String}
/-- an operation that the left's built-in class declines: the right's own reflected method -/
theorem rbin {op : Operator} {a : Value} {Q : Value → Shared → Prop} (F : Fr h₀ L s.heap m) (X₀ : K.In h₀) (I : InstAt s.heap x ox C od) (ha : typeOf a = pure (.type T)) (hc : selfFirst K C = true)
    (hs' : findIn K (.ref C) (PySem.dunder op.info.2) = some (some (.ref f'))) (hs : findIn K (.ref C) (dunderR op.info.2) = some (some (.ref f))) (hf : isFn K (.ref f) = true)
    (hfill : fillsNumberSlot (.type T) op.info.2 = pure true) (hsub : subIn K (.ref C) (.type T) = some false)
    (hdec : ∀ (Q' : Option Value → Shared → Prop), Q' none s → wpAny (model prog w) A (tryMethod a (PySem.dunder op.info.2) (.ref x)) Q' E s)
    (h : wpAny (model prog w) A (call (.ref f) [.ref x, a]) (PySem.W.CmpBack Q) E s) : wpAny (model prog w) A (binaryOp op a (.ref x)) Q E s := by
  have X := X₀.keeps F.keep
  obtain ⟨cd, rest, hcd, hm⟩ := ksp_first hc
  rcases hi : op.info with ⟨sym, nm'⟩
  rw [hi] at hs hs' hfill hdec
  dsimp only at hs hs' hfill hdec
  have one := ksp_try X I hs hf h
  obtain ⟨hh, g, d, tt, os⟩ := s
  have L1 : Looks (model prog w) hh (typeOf (.ref x)) (.ref C) := I.type
  have L2 : Looks (model prog w) hh (typeOf a) (.type T) := Looks.of_pure ha
  have L3 : Looks (model prog w) hh (fillsNumberSlot (.ref C) nm') true := fills_K X hcd hm hs'
  have L4 : Looks (model prog w) hh (fillsNumberSlot (.type T) nm') true := Looks.of_pure hfill
  have L5 : Looks (model prog w) hh (isSubtype (.ref C) (.type T)) false := looks_subIn X hsub
  have L7 : Looks (model prog w) hh (numberSlotInPython (.type T) nm') false := Looks.of_pure rfl
  have hne : (Value.type T == Value.ref C) = false := Bool.eq_false_iff.mpr fun q => by cases beq_iff_eq.mp q
  simp only [binaryOp, hi]
  refine wpAny_holding (wpAny_bind ?_)
  unfold binaryOp1
  refine wpAny_bind (L2.at (wpAny_bind (L1.at (wpAny_bind (L4.at ?_)))))
  simp only [hne, Bool.false_eq_true, if_false]
  ksp_lk
  refine hdec _ ?_
  ksp_lk
  refine wpAny_mono one (fun r s' hr' => ?_) fun _ _ e => e
  obtain ⟨v, rfl, hq⟩ := hr'
  ksp_lk
  exact hq
end
/-- a constant as the law makes them: an int, or a finite float; the float that it is as great as, if there is one -/
inductive Cst : Value → Option UInt64 → Prop
  | big {n : Int} {t : Tok} : Float64.isInf (Float64.ofInt n) = true → Cst (.int n t) none
  | int {n : Int} {t : Tok} : ¬ Float64.isInf (Float64.ofInt n) = true → Cst (.int n t) (some (Float64.ofInt n))
  | flt {b : UInt64} {t : Tok} : (∃ a m e, Float64.decode b = .fin a m e) → Cst (.float b t) (some b)
section
variable {prog : Program} {w : World} {A : Around} {E : Value → Shared → Prop} {s : Shared} {cv : Value} {fc : Option UInt64} {x y : UInt64} {t : Tok} {Q : Value → Shared → Prop}
theorem cst_isi {P : Params} (hc : Cst cv fc) (X : (KZ P).In s.heap) (h : ∀ tk, Q (.bool false) { s with toks := tk }) : wpAny (model prog w) A (call (.builtin "isinstance") [cv, .ref 270]) Q E s := by
  cases hc with
  | big _ => exact kia_one kitx_int X trivial (by kernel_rfl) (by intro q; cases q) h
  | int _ => exact kia_one kitx_int X trivial (by kernel_rfl) (by intro q; cases q) h
  | flt _ => exact kia_one kitx_float X trivial (by kernel_rfl) (by intro q; cases q) h
theorem cst_add (hc : Cst cv fc) (hA : A.handled = none) (ho : fc = none → PySem.Flt.Throws "OverflowError" E s) (h : ∀ y, fc = some y → Q (.float (Float64.add x y) s.toks) { s with toks := s.toks + 1 }) :
    wpAny (model prog w) A (binaryOp .Add (.float x t) cv) Q E s := by
  cases hc with
  | big q => exact PySem.AutoFloatOpsIf.add_fi (by rw [if_pos q]; exact ⟨hA, ho rfl⟩)
  | int q => exact PySem.AutoFloatOpsIf.add_fi (by rw [if_neg q]; exact h _ rfl)
  | flt q => exact add_float (h _ rfl)
theorem cst_sub (hc : Cst cv fc) (hA : A.handled = none) (ho : fc = none → PySem.Flt.Throws "OverflowError" E s) (h : ∀ y, fc = some y → Q (.float (Float64.sub x y) s.toks) { s with toks := s.toks + 1 }) :
    wpAny (model prog w) A (binaryOp .Sub (.float x t) cv) Q E s := by
  cases hc with
  | big q => exact PySem.AutoFloatOpsIf.sub_fi (by rw [if_pos q]; exact ⟨hA, ho rfl⟩)
  | int q => exact PySem.AutoFloatOpsIf.sub_fi (by rw [if_neg q]; exact h _ rfl)
  | flt q => exact sub_float (h _ rfl)
theorem cst_mul (hc : Cst cv fc) (hA : A.handled = none) (ho : fc = none → PySem.Flt.Throws "OverflowError" E s) (h : ∀ y, fc = some y → Q (.float (Float64.mul x y) s.toks) { s with toks := s.toks + 1 }) :
    wpAny (model prog w) A (binaryOp .Mult (.float x t) cv) Q E s := by
  cases hc with
  | big q => exact PySem.AutoFloatOpsIf.mul_fi (by rw [if_pos q]; exact ⟨hA, ho rfl⟩)
  | int q => exact PySem.AutoFloatOpsIf.mul_fi (by rw [if_neg q]; exact h _ rfl)
  | flt q => exact mul_float (h _ rfl)
theorem cst_div (hc : Cst cv fc) (hA : A.handled = none) (ho : fc = none → PySem.Flt.Throws "OverflowError" E s) (hz : ∀ y, fc = some y → Float64.isZero y = true → PySem.Flt.Throws "ZeroDivisionError" E s)
    (h : ∀ y, fc = some y → ¬ Float64.isZero y = true → Q (.float (Float64.div x y) s.toks) { s with toks := s.toks + 1 }) : wpAny (model prog w) A (binaryOp .Div (.float x t) cv) Q E s := by
  cases hc with
  | big q => exact PySem.AutoFloatOpsIf.truediv_fi (by rw [if_pos q]; exact ⟨hA, ho rfl⟩)
  | @int n _ q =>
    refine PySem.AutoFloatOpsIf.truediv_fi ?_
    rw [if_neg q]
    by_cases z : Float64.isZero (Float64.ofInt n) = true
    · rw [if_pos z]; exact ⟨hA, hz _ rfl z⟩
    · rw [if_neg z]; exact h _ rfl z
  | flt q => exact truediv_float_or hA (hz _ rfl) (h _ rfl)
theorem cst_fabs (hc : Cst cv fc) (hA : A.handled = none) (ho : fc = none → PySem.Flt.Throws "OverflowError" E s) (h : ∀ y tk tk', fc = some y → Q (.float (Float64.abs y) tk) { s with toks := tk' }) :
    wpAny (model prog w) A (call (.builtin "math.fabs") [cv]) Q E s := by
  cases hc with
  | big q => exact PySem.Flt.call_fabs_int hA (fun _ => ho rfl) (fun k => absurd q (PySem.Flt.fin_of_fits k))
  | int q => exact PySem.Flt.call_fabs_int hA (fun k => absurd (PySem.Flt.inf_of_over k) q) (fun _ => h _ _ _ rfl)
  | flt q => exact PySem.Flt.call_fabs_float (h _ _ _ rfl)
theorem cst_float (hc : Cst cv fc) (hA : A.handled = none) (ho : fc = none → PySem.Flt.Throws "OverflowError" E s) (h : ∀ y tk tk', fc = some y → Q (.float y tk) { s with toks := tk' }) :
    wpAny (model prog w) A (call (.type "float") [cv]) Q E s := by
  cases hc with
  | big q => exact call_float_int_or hA (fun _ => ho rfl) (fun k => absurd q k)
  | int q => exact call_float_int_or hA (fun k => absurd k q) (fun _ => h _ _ _ rfl)
  | flt q => exact call_float_float (h _ _ _ rfl)
theorem dec_int_add {n : Int} {b : UInt64} {t : Tok} {x : Addr} {ox : Obj} : Meets (Builtin.«int.__add__» ⟨[.int n t, .ref x], []⟩) (fun A R s => s.heap.get? x = some ox ∧ ox.data = .plain ∧ R (.ok (.ret .notImplemented)) s) := by
  refine Meets.of_wp fun prog w A R s hs => ?_
  obtain ⟨hp, gg, d, tk, os⟩ := s
  obtain ⟨k1, k2, k3⟩ := hs
  repeat (first | with_reducible refine wpAny_loadPart_at k1 ?_ | rw [k2] | wp_step)
  all_goals exact ⟨_, rfl, k3⟩
theorem dec_int_sub {n : Int} {b : UInt64} {t : Tok} {x : Addr} {ox : Obj} : Meets (Builtin.«int.__sub__» ⟨[.int n t, .ref x], []⟩) (fun A R s => s.heap.get? x = some ox ∧ ox.data = .plain ∧ R (.ok (.ret .notImplemented)) s) := by
  refine Meets.of_wp fun prog w A R s hs => ?_
  obtain ⟨hp, gg, d, tk, os⟩ := s
  obtain ⟨k1, k2, k3⟩ := hs
  repeat (first | with_reducible refine wpAny_loadPart_at k1 ?_ | rw [k2] | wp_step)
  all_goals exact ⟨_, rfl, k3⟩
theorem dec_int_mul {n : Int} {b : UInt64} {t : Tok} {x : Addr} {ox : Obj} : Meets (Builtin.«int.__mul__» ⟨[.int n t, .ref x], []⟩) (fun A R s => s.heap.get? x = some ox ∧ ox.data = .plain ∧ R (.ok (.ret .notImplemented)) s) := by
  refine Meets.of_wp fun prog w A R s hs => ?_
  obtain ⟨hp, gg, d, tk, os⟩ := s
  obtain ⟨k1, k2, k3⟩ := hs
  repeat (first | with_reducible refine wpAny_loadPart_at k1 ?_ | rw [k2] | wp_step)
  all_goals exact ⟨_, rfl, k3⟩
theorem dec_float_add {n : Int} {b : UInt64} {t : Tok} {x : Addr} {ox : Obj} : Meets (Builtin.«float.__add__» ⟨[.float b t, .ref x], []⟩) (fun A R s => s.heap.get? x = some ox ∧ ox.data = .plain ∧ R (.ok (.ret .notImplemented)) s) := by
  refine Meets.of_wp fun prog w A R s hs => ?_
  obtain ⟨hp, gg, d, tk, os⟩ := s
  obtain ⟨k1, k2, k3⟩ := hs
  repeat (first | with_reducible refine wpAny_loadPart_at k1 ?_ | rw [k2] | wp_step)
  all_goals exact ⟨_, rfl, k3⟩
theorem dec_float_sub {n : Int} {b : UInt64} {t : Tok} {x : Addr} {ox : Obj} : Meets (Builtin.«float.__sub__» ⟨[.float b t, .ref x], []⟩) (fun A R s => s.heap.get? x = some ox ∧ ox.data = .plain ∧ R (.ok (.ret .notImplemented)) s) := by
  refine Meets.of_wp fun prog w A R s hs => ?_
  obtain ⟨hp, gg, d, tk, os⟩ := s
  obtain ⟨k1, k2, k3⟩ := hs
  repeat (first | with_reducible refine wpAny_loadPart_at k1 ?_ | rw [k2] | wp_step)
  all_goals exact ⟨_, rfl, k3⟩
theorem dec_float_mul {n : Int} {b : UInt64} {t : Tok} {x : Addr} {ox : Obj} : Meets (Builtin.«float.__mul__» ⟨[.float b t, .ref x], []⟩) (fun A R s => s.heap.get? x = some ox ∧ ox.data = .plain ∧ R (.ok (.ret .notImplemented)) s) := by
  refine Meets.of_wp fun prog w A R s hs => ?_
  obtain ⟨hp, gg, d, tk, os⟩ := s
  obtain ⟨k1, k2, k3⟩ := hs
  repeat (first | with_reducible refine wpAny_loadPart_at k1 ?_ | rw [k2] | wp_step)
  all_goals exact ⟨_, rfl, k3⟩
theorem dec_try {a : Value} {T nm id : String} {B : Builtin} {x : Addr} {ox : Obj} {Q : Option Value → Shared → Prop} (slot : Slot T (PySem.dunder nm) id) (hT : ∀ s : Shared, s.TypeIs a T) (entry : entryFor table id = some B) (args : argsOk id ⟨[a, .ref x], []⟩)
    (g : Meets (B ⟨[a, .ref x], []⟩) (fun A R s => s.heap.get? x = some ox ∧ ox.data = .plain ∧ R (.ok (.ret .notImplemented)) s)) (hx : s.heap.get? x = some ox) (hd : ox.data = .plain) (h : Q none s) : wpAny (model prog w) A (tryMethod a (PySem.dunder nm) (.ref x)) Q E s := by
  unfold tryMethod
  refine wpAny_bind ?_
  refine wpAny_callSpecial?_slot (hT s) slot ?_
  exact call_meets slot (hT s) entry args g ⟨hx, hd, wpAny_pure h⟩
theorem cst_dec_add {x : Addr} {ox : Obj} {Q : Option Value → Shared → Prop} (hc : Cst cv fc) (hx : s.heap.get? x = some ox) (hd : ox.data = .plain) (h : Q none s) : wpAny (model prog w) A (tryMethod cv (PySem.dunder "add") (.ref x)) Q E s := by
  cases hc with
  | big _ => have e1 := @F.slot_int_add; have e3 := F.args_int_add_2; refine dec_try (T := "int") (nm := "add") (id := "int.__add__") (B := Builtin.«int.__add__») (ox := ox) e1 (fun s => typeIs_int s _ _) F.entry_int_add (e3 _ _) ?_ hx hd h; exact dec_int_add (b := 0)
  | int _ => have e1 := @F.slot_int_add; have e3 := F.args_int_add_2; refine dec_try (T := "int") (nm := "add") (id := "int.__add__") (B := Builtin.«int.__add__») (ox := ox) e1 (fun s => typeIs_int s _ _) F.entry_int_add (e3 _ _) ?_ hx hd h; exact dec_int_add (b := 0)
  | flt _ => have e1 := @F.slot_float_add; have e3 := F.args_float_add_2; refine dec_try (T := "float") (nm := "add") (id := "float.__add__") (B := Builtin.«float.__add__») (ox := ox) e1 (fun s => typeIs_float s _ _) F.entry_float_add (e3 _ _) ?_ hx hd h; exact dec_float_add (n := 0)
theorem cst_dec_sub {x : Addr} {ox : Obj} {Q : Option Value → Shared → Prop} (hc : Cst cv fc) (hx : s.heap.get? x = some ox) (hd : ox.data = .plain) (h : Q none s) : wpAny (model prog w) A (tryMethod cv (PySem.dunder "sub") (.ref x)) Q E s := by
  cases hc with
  | big _ => have e1 := @F.slot_int_sub; have e3 := F.args_int_sub_2; refine dec_try (T := "int") (nm := "sub") (id := "int.__sub__") (B := Builtin.«int.__sub__») (ox := ox) e1 (fun s => typeIs_int s _ _) F.entry_int_sub (e3 _ _) ?_ hx hd h; exact dec_int_sub (b := 0)
  | int _ => have e1 := @F.slot_int_sub; have e3 := F.args_int_sub_2; refine dec_try (T := "int") (nm := "sub") (id := "int.__sub__") (B := Builtin.«int.__sub__») (ox := ox) e1 (fun s => typeIs_int s _ _) F.entry_int_sub (e3 _ _) ?_ hx hd h; exact dec_int_sub (b := 0)
  | flt _ => have e1 := @F.slot_float_sub; have e3 := F.args_float_sub_2; refine dec_try (T := "float") (nm := "sub") (id := "float.__sub__") (B := Builtin.«float.__sub__») (ox := ox) e1 (fun s => typeIs_float s _ _) F.entry_float_sub (e3 _ _) ?_ hx hd h; exact dec_float_sub (n := 0)
theorem cst_dec_mul {x : Addr} {ox : Obj} {Q : Option Value → Shared → Prop} (hc : Cst cv fc) (hx : s.heap.get? x = some ox) (hd : ox.data = .plain) (h : Q none s) : wpAny (model prog w) A (tryMethod cv (PySem.dunder "mul") (.ref x)) Q E s := by
  cases hc with
  | big _ => have e1 := @F.slot_int_mul; have e3 := F.args_int_mul_2; refine dec_try (T := "int") (nm := "mul") (id := "int.__mul__") (B := Builtin.«int.__mul__») (ox := ox) e1 (fun s => typeIs_int s _ _) F.entry_int_mul (e3 _ _) ?_ hx hd h; exact dec_int_mul (b := 0)
  | int _ => have e1 := @F.slot_int_mul; have e3 := F.args_int_mul_2; refine dec_try (T := "int") (nm := "mul") (id := "int.__mul__") (B := Builtin.«int.__mul__») (ox := ox) e1 (fun s => typeIs_int s _ _) F.entry_int_mul (e3 _ _) ?_ hx hd h; exact dec_int_mul (b := 0)
  | flt _ => have e1 := @F.slot_float_mul; have e3 := F.args_float_mul_2; refine dec_try (T := "float") (nm := "mul") (id := "float.__mul__") (B := Builtin.«float.__mul__») (ox := ox) e1 (fun s => typeIs_float s _ _) F.entry_float_mul (e3 _ _) ?_ hx hd h; exact dec_float_mul (n := 0)
end
abbrev qlam : Str := Str.ofString "_law_holds" ++ ".<locals>." ++ "<lambda>"
def CodeZ (c' : Addr) (codes : List (Addr × Obj)) : Prop := ∃ oc vs t, (c', oc) ∈ codes ∧ oc.data = .fields vs ∧ vs[1]? = some (.str qlam t)
/-- the code table of `_law_holds`: empty, or the codes of its lambdas -/
structure TabOk (z : Addr) (codes₀ : List (Addr × Obj)) (ps : Array Value) (codes : List (Addr × Obj)) : Prop where
  tri : TriplesOk ps.toList
  get : ∀ pos v, codeAmong pos ps.toList = some v → ∃ c', v = .ref c' ∧ CodeZ c' codes
  ne : ∀ p ∈ codes, p.1 ≠ 283
  old : ∀ p ∈ codes₀, p ∈ codes
  new : ∀ p ∈ codes, p ∈ codes₀ ∨ z < p.1
inductive TabIn (ps : Array Value) (codes : List (Addr × Obj)) : List (Addr × Obj) → (Array Value → List (Addr × Obj) → List (Addr × Obj)) → Prop
  | head : TabIn ps codes ((283, tabObj ps) :: codes) (fun ps' codes' => (283, tabObj ps') :: codes')
  | tail {p r g} : p.1 ≠ 283 → TabIn ps codes r g → TabIn ps codes (p :: r) (fun ps' codes' => p :: g ps' codes')
theorem TabIn.split {ps : Array Value} {codes : List (Addr × Obj)} : ∀ {l : List (Addr × Obj)} {g}, TabIn ps codes l g → ∃ pre, l = pre ++ (283, tabObj ps) :: codes ∧ (∀ ps' c', g ps' c' = pre ++ (283, tabObj ps') :: c') ∧ ∀ p ∈ pre, p.1 ≠ 283
  | _, _, .head => ⟨[], rfl, fun _ _ => rfl, (fun _ h => (nomatch h))⟩
  | _, _, .tail (p := p) h r =>
    let ⟨pre, a, b, c⟩ := r.split
    ⟨p :: pre, by rw [a]; rfl, fun o' c' => by show p :: _ = _; rw [b]; rfl, (fun q hq => by rcases List.mem_cons.mp hq with rfl | hq; exact h; exact c q hq)⟩
theorem updF_of {o : Obj} {codes : List (Addr × Obj)} (hc : ∀ p ∈ codes, p.1 ≠ 283) : ∀ (pre : List (Addr × Obj)), (∀ p ∈ pre, p.1 ≠ 283) → UpdF 283 o (pre ++ (283, o) :: codes) (fun o' => pre ++ (283, o') :: codes)
  | [], _ => .head hc
  | p :: pre, h => .tail (h p (.head _)) (updF_of hc pre fun q hq => h q (.tail _ hq))
theorem among_snoc {pos pos' : Pos} {c v : Value} (l : List Value) (h : TriplesOk l) (hn : codeAmong pos' (l ++ [rawInt pos.line, rawInt pos.col, c]) = some v) : codeAmong pos' l = some v ∨ v = c := by
  fun_induction TriplesOk l with
  | case1 =>
    simp only [List.nil_append, rawInt, codeAmong] at hn
    split at hn
    · cases hn; exact .inr rfl
    · cases hn
  | case2 a b c2 d x rest ih =>
    simp only [List.cons_append, codeAmong] at hn ⊢
    split at hn
    · rename_i q; rw [if_pos q]; exact .inl hn
    · rename_i q; rw [if_neg q]; exact ih h hn
  | case3 => exact h.elim
theorem tri_snoc {pos : Pos} {c : Value} (l : List Value) (h : TriplesOk l) : TriplesOk (l ++ [rawInt pos.line, rawInt pos.col, c]) := by
  fun_induction TriplesOk l with
  | case1 => exact True.intro
  | case2 a b c2 d x rest ih => exact ih h
  | case3 => exact h.elim
section
variable {M : Model} {A : Around} {E : Value → Shared → Prop} {s : Shared} {h₀ : Heap} {L a : Addr} {m mg mb : Str → Option Value} {cn : Str} {cs : Scope} {cl : List (Str × Addr)} {news codes codes₀ : List (Addr × Obj)} {g : Array Value → List (Addr × Obj) → List (Addr × Obj)}
  {p : Program} {loose : List Str} {mean : ExcName → Option Value} {params : Arguments} {body : Expr} {scope : Scope} {ps : Array Value} {pos : Pos} {clos : List (Str × Addr)} {z : Addr}
theorem lam_make {Q : Value → Shared → Prop} (F : Fr h₀ L s.heap m) (N : News h₀ L s.heap news) (T : Top p loose mean mg mb h₀) (C : CodeHd h₀ 287 283) (U : TabIn ps codes news g) (ok : TabOk z codes₀ ps codes) (hz : ∃ q ∈ news, z ≤ q.1)
    (hdef : defaultsOf params (envX (Str.ofString "_law_holds") cs L a (.ref 287) cl) = ([], []))
    (hcl : closureFor scope (envX (Str.ofString "_law_holds") cs L a (.ref 287) cl) = pure clos)
    (h : ∀ f c' ctv h' tk ps' codes', Fr h₀ L h' m → News h₀ L h' ((f, kla_obj "<lambda>" qlam params body scope clos ((mg "__name__").getD .none) c' ctv) :: g ps' codes') →
      TabOk z codes₀ ps' codes' → CodeZ c' codes' → (∀ q ∈ codes, q ∈ codes') → (∀ q ∈ g ps' codes', q.1 < f) → Q (.ref f) { s with heap := h', toks := tk }) :
    wpAny M A (eval (.Lambda params body scope pos) (envX (Str.ofString "_law_holds") cs L a (.ref 287) cl)) Q E s := by
  refine kla_eval hdef ?_
  obtain ⟨pre, rfl, hg, hp⟩ := U.split
  show wpAny M A (makeFunction "<lambda>" qlam params (.expr body) scope (envX (Str.ofString "_law_holds") cs L a (.ref 287) cl) [] [] [] pos pos.line) Q E s
  cases hc : codeAmong pos ps.toList with
  | some v =>
    obtain ⟨c', rfl, hz'⟩ := ok.get _ _ hc
    refine kla_hit F N T C rfl (List.mem_append_right _ (.head _)) ok.tri hc hcl fun f ctv h' tk F' N' l1 => ?_
    refine h f c' ctv h' tk ps codes F' (by rw [hg]; exact N') ok hz' (fun _ q => q) (by rw [hg]; exact l1)
  | none =>
    refine kla_nest F N T C rfl (updF_of ok.ne pre hp) ok.tri hc hcl fun f c' oc vs t ctv h' tk F' N' hd hv l1 l2 => ?_
    have h283 : (283 : Addr) < c' := l1 (283, _) (List.mem_append_right _ (.head _))
    refine h f c' ctv h' tk _ ((c', oc) :: codes) F' (by
        rw [hg]
        intro q hq
        refine N' q ?_
        rcases List.mem_cons.mp hq with rfl | hq
        · exact .head _
        · refine .tail _ ?_
          rcases List.mem_append.mp hq with hq | hq
          · exact .tail _ (List.mem_append_left _ hq)
          · rcases List.mem_cons.mp hq with rfl | hq
            · exact .tail _ (List.mem_append_right _ (.head _))
            · rcases List.mem_cons.mp hq with rfl | hq
              · exact .head _
              · exact .tail _ (List.mem_append_right _ (.tail _ hq)))
      ⟨by rw [Array.toList_append]; exact tri_snoc _ ok.tri, fun pos' v hv' => by
        rw [Array.toList_append] at hv'
        rcases among_snoc _ ok.tri hv' with k | rfl
        · obtain ⟨c2, e2, oc2, vs2, t2, k1, k2, k3⟩ := ok.get _ _ k
          exact ⟨c2, e2, oc2, vs2, t2, .tail _ k1, k2, k3⟩
        · exact ⟨c', rfl, oc, vs, t, .head _, hd, hv⟩,
       fun q hq => by
        rcases List.mem_cons.mp hq with rfl | hq
        · exact Nat.ne_of_gt h283
        · exact ok.ne q hq,
       fun q hq => .tail _ (ok.old q hq),
       fun q hq => by
        rcases List.mem_cons.mp hq with rfl | hq
        · obtain ⟨r, hr, hzr⟩ := hz
          have : r.1 < c' := by
            rcases List.mem_append.mp hr with hr | hr
            · exact l1 r (List.mem_append_left _ hr)
            · rcases List.mem_cons.mp hr with rfl | hr
              · exact h283
              · exact l1 r (List.mem_append_right _ (.tail _ hr))
          exact .inr (Nat.lt_of_le_of_lt hzr this)
        · exact ok.new q hq⟩
      ⟨oc, vs, t, .head _, hd, hv⟩ (fun _ q => .tail _ q) (by
        rw [hg]
        intro q hq
        rcases List.mem_append.mp hq with hq | hq
        · exact Nat.lt_trans (l1 q (List.mem_append_left _ hq)) l2
        · rcases List.mem_cons.mp hq with rfl | hq
          · exact Nat.lt_trans h283 l2
          · rcases List.mem_cons.mp hq with rfl | hq
            · exact l2
            · exact Nat.lt_trans (l1 q (List.mem_append_right _ (.tail _ hq))) l2)
end
section
variable {prog : Program} {w : World} {A : Around} {s : Shared}
/-- a loop over a fresh list whose turns may catch: the state alone carries it -/
theorem for_moving (hh : A.handled = none) {l : Addr} {items : Array Value} {target iter : Expr} {body : List Stmt} {pos : Pos} {env : Env} {Q : Flow → Shared → Prop} (J : Nat → Addr → Shared → Prop)
    (hit : ∀ i it s, J i it s → s.heap.IsListIter it l i ∧ s.heap.IsList l items ∧ i ≤ items.size)
    (turn : ∀ i it v s h₁, J i it s → items[i]? = some v → h₁.IsListIter it l (i + 1) → Heap.SameBut it s.heap h₁ →
      wpAny (model prog w) A (assign target env v) (fun _ s₂ => wpAny (model prog w) A (execs body env) (fun f s₃ => match f with | .next => J (i + 1) it s₃ | .cont => J (i + 1) it s₃ | .brk => Q .next s₃ | .ret v => Q (.ret v) s₃) (fun _ _ => False) s₂) (fun _ _ => False) { s with heap := h₁ })
    (done : ∀ i it s h₁, J i it s → items[i]? = none → Heap.ExtBut it s.heap h₁ → Q .next { s with heap := h₁ })
    (hs : ∀ x, foldedSetIterable iter env x = pure x)
    (h : wpAny (model prog w) A (eval iter env) (fun xv s₁ => xv = .ref l ∧ s₁.heap.IsList l items ∧ J 0 s₁.heap.objs.size { s₁ with heap := s₁.heap.push { cls := .type "list_iterator", data := .fields #[.ref l, .int 0 0] } }) (fun _ _ => False) s) :
    wpAny (model prog w) A (exec (.For target iter body [] pos) env) Q (fun _ _ => False) s := by
  refine wpAny_For (wpAny_mono h (fun xv s₁ h₁ => ?_) fun _ _ e => e.elim) hs
  obtain ⟨rfl, hl, hJ⟩ := h₁
  refine wpAny_pyIter_list hl ?_
  refine codeAny_forLoop_any (fun n s' => ∃ i, J i s₁.heap.objs.size s' ∧ n = items.size + 1 - i) ?_ _ ⟨0, hJ, rfl⟩
  rintro n s' ⟨i, hJi, rfl⟩
  obtain ⟨k1, k2, k3⟩ := hit _ _ _ hJi
  by_cases hlt : i < items.size
  · have hx : items[i]? = some items[i] := by simp [hlt]
    refine wpAny_pyNext_list_item k1 k2 hx fun h₁ hit₁ hs₁ => ?_
    refine letGo_listiter hit₁ ?_
    refine wpAny_mono (turn i _ _ s' h₁ hJi hx hit₁ hs₁) (fun _ s₂ h₂ => wpAny_mono h₂ (fun f s₃ h₃ => ?_) fun _ _ e => e.elim) fun _ _ e => e.elim
    cases f with
    | next => exact ⟨_, by omega, i + 1, h₃, rfl⟩
    | cont => exact ⟨_, by omega, i + 1, h₃, rfl⟩
    | brk => exact h₃
    | ret v => exact h₃
  · have hx : items[i]? = none := by simp; omega
    refine wpAny_pyNext_list_end hh k1 k2 hx fun h₁ hs₁ => ?_
    exact wpAny_execs_nil (done i _ s' h₁ hJi hx hs₁)
end
section
variable {prog : Program} {w : World} {A : Around} {E : Value → Shared → Prop} {s : Shared} {h₀ : Heap} {L : Addr} {mm : Str → Option Value} {news : List (Addr × Obj)} {x : UInt64} {t : Tok}
theorem getMethod_air {M : Model} {pl : Sem Bool} {Q : Value × List Value → Shared → Prop} (h : Q (.builtin "float.as_integer_ratio", [.float x t]) s) : wpAny M A (getMethod (.float x t) "as_integer_ratio" pl) Q E s := by
  with_reducible exact getMethod_builtin (typeIs_float _ _ _) F.plainAttrs_float F.slot_float_as_integer_ratio F.type_float_as_integer_ratio (fun _ e => nomatch e) h
theorem call_air {Q : Value → Shared → Prop} {a : Bool} {m : Nat} {e : Int} (hd : Float64.decode x = .fin a m e) (F : Fr h₀ L s.heap mm) (N : News h₀ L s.heap news)
    (h : ∀ (p : Addr) (k : Nat) (t1 t2 : Tok) (h' : Heap), Fr h₀ L h' mm → News h₀ L h' ((p, { cls := .type "tuple", data := .seq #[.int (Float64.sgn a (Float64.ratio m e).1) t1, .int ((Float64.ratio m e).2 : Int) t2] 0 }) :: news) → (∀ q ∈ news, q.1 < p) → Q (.ref p) { s with heap := h', toks := k }) :
    wpAny (model prog w) A (call (.builtin "float.as_integer_ratio") [.float x t]) Q E s := by
  refine wpAny_call_entry PySem.F.slot_float_as_integer_ratio (typeIs_float s x t) PySem.F.entry_float_as_integer_ratio ?_ (PySem.F.args_float_as_integer_ratio_1 _)
  obtain ⟨hp, g, d, tk, os⟩ := s
  repeat (first | (refine kup_newTuple F N ?_ ?_) | rw [hd] | wp_step)
  · intro D h' F' N' l1
    exact wpAny_pure ⟨_, rfl, h D _ _ _ h' F' N' l1⟩
  · exact Nat.le_of_ble_eq_true rfl
end
section
variable {prog : Program} {w : World} {A : Around} {s : Shared}
/-- a loop over a range whose turns may write what they like: the state alone carries it -/
theorem range_moving (hh : A.handled = none) {a₀ b₀ : Int} {n : Nat} {target iter : Expr} {body : List Stmt} {pos : Pos} {env : Env} {Q : Flow → Shared → Prop} (J : Nat → Addr → Shared → Prop)
    (hit : ∀ i it s, J i it s → IsRangeIter s.heap it (a₀ + (i : Nat) * 1) ((n : Int) - (i : Nat)) 1 ∧ i ≤ n)
    (turn : ∀ i it t s h₁ tk₁, J i it s → i < n → IsRangeIter h₁ it (a₀ + ((i + 1 : Nat) : Int) * 1) ((n : Int) - ((i + 1 : Nat) : Int)) 1 → Heap.ExtBut it s.heap h₁ →
      wpAny (model prog w) A (assign target env (.int (a₀ + (i : Nat) * 1) t)) (fun _ s₂ => wpAny (model prog w) A (execs body env) (fun f s₃ => match f with | .next => J (i + 1) it s₃ | .cont => J (i + 1) it s₃ | .brk => Q .next s₃ | .ret v => Q (.ret v) s₃) (fun _ _ => False) s₂) (fun _ _ => False) { s with heap := h₁, toks := tk₁ })
    (done : ∀ it s h₁ tk₁, J n it s → Heap.ExtBut it s.heap h₁ → Q .next { s with heap := h₁, toks := tk₁ })
    (hs : ∀ x, foldedSetIterable iter env x = pure x) (hgo : ∀ it v, letOwnedTupleGo target it v = pure ())
    (h : wpAny (model prog w) A (eval iter env) (fun xv s₁ => ∃ r t₀ u₀ v₀, xv = .ref r ∧ IsRange s₁.heap r a₀ b₀ 1 t₀ u₀ v₀ ∧ Builtin.Range.small a₀ b₀ 1 = true ∧ Builtin.Range.rangeSize a₀ b₀ 1 = (n : Int) ∧ J 0 s₁.heap.objs.size { s₁ with heap := s₁.heap.push { cls := .type "range_iterator", data := .fields #[rawInt a₀, rawInt (n : Int), rawInt 1] } }) (fun _ _ => False) s) :
    wpAny (model prog w) A (exec (.For target iter body [] pos) env) Q (fun _ _ => False) s := by
  refine wpAny_For (wpAny_mono h (fun xv s₁ h₁ => ?_) fun _ _ e => e.elim) hs
  obtain ⟨r, t₀, u₀, v₀, rfl, hr, hsm, hn, hJ⟩ := h₁
  refine wpAny_pyIter_range hr hsm ?_
  rw [hn]
  have W := Walks.range (prog := prog) (w := w) hh s₁.heap.objs.size a₀ 1 n
  refine codeAny_forLoop (fun k s' => ∃ i, J i s₁.heap.objs.size s' ∧ k = n + 1 - i) ?_ _ ⟨0, hJ, rfl⟩ (fun v => hgo _ v)
  rintro k s' ⟨i, hJi, rfl⟩
  obtain ⟨k1, k3⟩ := hit _ _ _ hJi
  have ext : ∀ {g g' : Heap}, (∀ b o, b ∉ [s₁.heap.objs.size] → g.get? b = some o → g'.get? b = some o) → Heap.ExtBut s₁.heap.objs.size g g' := fun hk b o hb e => hk b o (by simpa using hb) e
  by_cases hlt : i < n
  · refine W.item i _ _ _ hlt k1 fun v h₁ tk₁ hP hst₁ hk₁ => ?_
    obtain ⟨t, rfl⟩ := hP
    refine wpAny_mono (turn i _ t s' h₁ tk₁ hJi hlt hst₁ (ext hk₁)) (fun _ s₂ h₂ => wpAny_mono h₂ (fun f s₃ h₃ => ?_) fun _ _ e => e.elim) fun _ _ e => e.elim
    cases f with
    | next => exact ⟨_, by omega, i + 1, h₃, rfl⟩
    | cont => exact ⟨_, by omega, i + 1, h₃, rfl⟩
    | brk => exact h₃
    | ret v => exact h₃
  · have : i = n := by omega
    subst this
    refine W.done _ _ _ k1 fun h₁ tk₁ hk₁ => ?_
    exact wpAny_execs_nil (done _ s' h₁ tk₁ hJi (ext hk₁))
end
/-- the int at an index that may lie behind nought -/
def pick (ns : List Int) (k : Int) : Int := ns.getD (if k < 0 then k + ns.length else k).toNat 0
section
variable {prog : Program} {w : World} {A : Around} {E : Value → Shared → Prop} {s : Shared}
theorem row_get {l : Addr} {vs : List Value} {ns : List Int} {k : Int} {u : Tok} {Q : Value → Shared → Prop} (hl : s.heap.IsList l vs.toArray) (hi : IntsAre vs ns)
    (h0 : -(ns.length : Int) ≤ k) (h1 : k < ns.length) (hfit : ns.length ≤ 13) (h : ∀ t, Q (.int (pick ns k) t) s) : wpAny (model prog w) A (getItem (.ref l) (.int k u)) Q E s := by
  have e := hi.length
  by_cases hk : k < 0
  · obtain ⟨t, hx⟩ := hi.get (k + ns.length).toNat _ (ints_getD (k := k + ns.length) (by omega) (by omega))
    refine wpAny_getItem_list_neg hl hk (by simpa [e] using h0) (by omega) (x := .int (pick ns k) t) ?_ (h t)
    simp only [pick, if_pos hk]
    simpa [e] using hx
  · obtain ⟨t, hx⟩ := hi.get k.toNat _ (ints_getD (by omega) h1)
    refine wpAny_getItem_list hl (by omega) (by omega) (x := .int (pick ns k) t) ?_ (h t)
    simp only [pick, if_neg hk]
    simpa using hx
theorem row_sub {value slice : PySem.Expr} {l : Addr} {vs : List Value} {ns : List Int} {k : Int} {u : Tok} {Q : Value → Shared → Prop} (hl : s.heap.IsList l vs.toArray) (hi : IntsAre vs ns)
    (h0 : -(ns.length : Int) ≤ k) (h1 : k < ns.length) (hfit : ns.length ≤ 13) (h : ∀ t, Q (.int (pick ns k) t) s)
    (hs : subscripted slice false (.ref l) (.int k u) = operate [.ref l, .int k u] (getItem (.ref l) (.int k u)) := by with_unfolding_all rfl) :
    wpAny (model prog w) A (subscriptTail value slice (.ref l) (.int k u)) Q E s :=
  tail_any hl.typeIs slot_list_getitem.lookup (row_get hl hi h0 h1 hfit h) hs
theorem row_len {l : Addr} {vs : List Value} {ns : List Int} {Q : Value → Shared → Prop} (hl : s.heap.IsList l vs.toArray) (hi : IntsAre vs ns) (hfit : ns.length ≤ 13)
    (h : Q (.int ns.length (s.toks + 1)) { s with toks := s.toks + 1 + 1 }) : wpAny (model prog w) A (call (.builtin "len") [.ref l]) Q E s := by
  have e : vs.toArray.size = ns.length := by simpa using hi.length
  exact len_list hl (by omega) (by rw [e]; exact h)
end
theorem ofFrac_inf {neg : Bool} {n d : Nat} (h : Float64.isInf (Float64.ofFrac neg n d) = true) : Float64.ofFrac neg n d = Float64.inf neg := by
  unfold Float64.ofFrac at h ⊢
  have hle : Float64.roundMag n d ≤ Float64.infMag := by rw [Float64.roundMag_min]; omega
  rcases Nat.lt_or_ge (Float64.roundMag n d) Float64.infMag with hlt | hge
  · rw [Float64.isInf_pack hlt] at h; cases h
  · rw [show Float64.roundMag n d = Float64.infMag by omega]; rfl
theorem near_pinf {n d : Int} (h : Float64.isInf (Float64.ofFrac (decide (n < 0) != decide (d < 0)) n.natAbs d.natAbs) = true) (e : (decide (n < 0) == decide (d < 0)) = true) : nearF n d = Float64.inf false := by
  have := ofFrac_inf h
  unfold nearF
  rw [this]
  congr 1
  revert e
  cases decide (n < 0) <;> cases decide (d < 0) <;> simp
theorem near_minf {n d : Int} (h : Float64.isInf (Float64.ofFrac (decide (n < 0) != decide (d < 0)) n.natAbs d.natAbs) = true) (e : (decide (n < 0) == decide (d < 0)) = false) : nearF n d = Float64.inf true := by
  have := ofFrac_inf h
  unfold nearF
  rw [this]
  congr 1
  revert e
  cases decide (n < 0) <;> cases decide (d < 0) <;> simp
theorem parse_inf : Num.parseText? (Str.ofString "inf") = some (Float64.inf false) := by decide +kernel
theorem parse_minf : Num.parseText? (Str.ofString "-inf") = some (Float64.inf true) := by decide +kernel
theorem float_text {prog : Program} {w : World} {A : Around} {E : Value → Shared → Prop} {s : Shared} {x : Str} {t : Tok} {b : UInt64} {Q : Value → Shared → Prop} (hb : Num.parseText? x = some b) (h : Q (.float b s.toks) { s with toks := s.toks + 1 }) :
    wpAny (model prog w) A (call (.type "float") [.str x t]) Q E s := call_float_1 (PySem.Flt.meets_float_new_str x t hb) (show (Made.float b).post _ s from ⟨rfl, h⟩)
local macro_rules | `(tactic| walk_at "noteFrame ref") => `(tactic| (k_here; (with_reducible rename Heap.NewExc _ _ _ _ => hxN); refine' frame_hit ?k1 ?k2 ?k3 ?k4 hxN ?_; (case k1 => k_asm); (case k2 => k_asm); (case k3 => k_asm); (case k4 => exact rfl); clear hxN; intro h' R' U' FG'; (try dsimp only at R' U' FG' ⊢)))
local macro_rules | `(tactic| walk_at "noteFrame ref") => `(tactic| (k_here; (rename RaisedSN _ _ _ _ _ _ _ => rsX); refine' frame_look ?k1 rsX ?k2 ?_; (case k1 => k_asm); (case k2 => assumption); clear rsX; intro h' R' U'; (try dsimp only at R' U' ⊢)))
local macro_rules | `(tactic| walk_at "handleBy ref") => `(tactic| (k_here; (rename RaisedSN _ _ _ _ _ _ _ => rsX); first
  | (refine' clause_pass rsX ?F ?K ?U ?XB ?TB ?ex ?hv ?hn ?he ?_; (case F => assumption); (case K => assumption); (case U => assumption); (case XB => assumption); (case TB => assumption); (case ex => k_is); (case hv => boot_by_name); (case hn => decide); (case he => kts_exm); k_whole; clear rsX; intro h' R' U'; (try dsimp only at R' U' ⊢))
  | (refine' clause_hit rsX ?F ?K ?U ?XB ?TB ?D ?T0 ?ex ?hv ?hn ?he ?_; (case F => assumption); (case K => assumption); (case U => assumption); (case XB => assumption); (case TB => assumption); (case D => assumption); (case T0 => first | assumption | exact KtsTurn.refl); (case ex => k_is); (case hv => boot_by_name); (case hn => decide); (case he => kts_exm); k_whole; clear rsX; intro h' g' T' F' N' B' X' P' D'; (try k_lift B'); (try k_sweep))))
local macro_rules | `(tactic| walk_at "LeaveOz") => `(tactic| (k_dflt (refine' leaveOz_ ?F ?N ?T ?_; (case F => k_asm); (case N => k_asm); (case T => first | assumption | exact KtsTurn.refl); k_whole); intro kg kT kF kN kB kX₀ kP kD))
local macro_rules | `(tactic| walk_at "call type:float") => `(tactic| ((with_reducible show wpAny _ _ (call _ [Value.str _ _]) _ _ _); first | refine float_text parse_inf ?_ | refine float_text parse_minf ?_))
theorem near_claim {w : World} {mean : ExcName → Option Value} {mg mb : Str → Option Value} {A₀ : Around} {dp un : Nat} {gd : Option (List Code)} {base h₀ : Heap} {outer : List Env} {cn : Str} {cs : Scope} {L a : Addr} {ccd : Value} {cl : List (Str × Addr)} {m : Str → Option Value} {s : Shared} {news : List (Addr × Obj)} {Q E : Value → Shared → Prop} {n d : Int} {tn td : Tok}
    (hd : d ≠ 0) (B : Below A₀ base outer h₀) (F : Fr h₀ L s.heap m) (X : (KZ w.params).In h₀) (N : News h₀ L s.heap news) (T : Top topProg LZ mean mg mb h₀) (XB : (KZ w.params).In base) (TB : Top topProg LZ mean mg mb base) (D : KtsDicts (outer.filterMap (·.frame)) h₀)
    (hck : cs.kind = .function) (hroom : dp + 1 < recursionLimit)
    (hret : ∀ (t : Tok) (h' h₀' : Heap) (tk' : Nat), KtsTurn (outer.filterMap (·.frame)) h₀ h₀' → Fr h₀' L h' m → News h₀' L h' news → Below A₀ base outer h₀' → (KZ w.params).In h₀' → Top topProg LZ mean mg mb h₀' → KtsDicts (outer.filterMap (·.frame)) h₀' →
      Q (.float (nearF n d) t) { s with heap := h', toks := tk' })
    (hrw : PySem.Challenge.rw_oz0055_01 = PySem.Challenge.rw_oz0055_01) :
    wpAny (model PySem.Challenge.rw_oz0055_01.prog w) (ktrTop dp un gd cn cs L a ccd cl outer) (call (.ref 281) [.int n tn, .int d td]) Q E s := by
  revert X
  k_fill
  intro X
  refine wpAny_call ?_
  refine' enter_catch B F X N T XB TB D (by rfl) ?k6 ?k7 (Nat.lt_trans (Nat.lt_succ_self _) hroom) ?k9 ?kB ?_ hck ?c2 ?c3 ?c4 ?c5
  case k6 => k_is
  case k7 => k_is
  case k9 => first | exact binds_K (by k_in) rfl (by k_is) rfl rfl rfl | exact BindsTo.of_eq rfl
  case kB => exact locs rfl
  case c2 => exact rfl
  case c3 => exact rfl
  case c4 => exact rfl
  case c5 => decide
  intro g' L' h' FG' F' N' B' X' T' D'
  dsimp only
  k_steps
  · dsimp only
    rw [← near_pinf (by assumption) (by assumption)]
    apply hret <;> assumption
  · dsimp only
    rw [← near_minf (by assumption) (by assumption)]
    apply hret <;> assumption
  · apply hret <;> assumption
theorem ltN {a b : Nat} (h : a < b) : @LT.lt Nat _ a b := h
local macro_rules | `(tactic| k_room) => `(tactic| ((try simp only [depth_under_make, depth_under_kw, depth_in1, depth_deeper, depth_caller]); (try dsimp only [ktrTop]); first | assumption | (simp only [recursionLimit] at *; omega)))
local macro_rules | `(tactic| k_enter) => `(tactic| (refine' code_def ?k1 ?k2 ?k3 ?k4 ?k5 ?kA ?kF ?kK ?k6 ?k7 ?k8 ?k9 ?kB ?_ ?c2 ?c3 ?c4 ?c5; (case kA => exact rfl); (case kF => exact rfl); (case kK => first | assumption | exact rfl); (case k1 => k_asm); (case k2 => k_asm); (case k3 => k_asm); (case k4 => k_asm); (case k5 => k_asm); (case k6 => k_is); (case k7 => k_is); (case k8 => k_room); (case k9 => first | exact BindsTo.of_eq rfl | exact binds_K (by k_in) rfl (by k_is) rfl rfl rfl | fail "k_enter: no rule for these arguments"); (case c5 => decide); (case kB => exact locs rfl); (case c2 => exact rfl); (case c3 => exact rfl); (case c4 => exact rfl); k_whole; intro g' L' h' FG' F' N' B' X' T'; (try dsimp only); (try k_lift B'); (try k_fold)))
local macro_rules | `(tactic| k_all) => `(tactic| first | exact List.forall_mem_nil _ | (refine' List.forall_mem_cons.mpr ⟨?a, ?b⟩; (case a => k_ne); (case b => k_all)) | (intro pz hz; (repeat ((rename (∀ p ∈ _, Prod.fst p < _) => hh); (first | (have hh' := ltN (hh pz hz); clear hh; (try dsimp only at hh')) | clear hh))); k_ne))
theorem make_claim {w : World} {mean : ExcName → Option Value} {mg mb : Str → Option Value} {A₀ : Around} {dp un : Nat} {gd : Option (List Code)} {base h₀ : Heap} {outer : List Env} {cn : Str} {cs : Scope} {L a : Addr} {ccd : Value} {cl : List (Str × Addr)} {m : Str → Option Value} {s : Shared} {news : List (Addr × Obj)} {Q E : Value → Shared → Prop} {x y : UInt64} {tx ty : Tok}
    (hy : (Float64.cmp y 0 == some .lt) = false) (B : Below A₀ base outer h₀) (F : Fr h₀ L s.heap m) (X : (KZ w.params).In h₀) (N : News h₀ L s.heap news) (T : Top topProg LZ mean mg mb h₀)
    (hQ : ∀ (p d : Addr) (k : Nat) (h : Heap), Fr h₀ L h m → News h₀ L h ((p, { cls := .ref 270, dict := some d, slots := #[some (.float x tx), some (.float y ty)] }) :: (d, dictOf [] 0) :: news) → (∀ q ∈ news, q.1 < d) → d < p → Q (.ref p) { s with heap := h, toks := k })
    (hck : cs.kind = .function) (hroom : dp + 3 < recursionLimit)
    (hrw : PySem.Challenge.rw_oz0055_01 = PySem.Challenge.rw_oz0055_01) :
    wpAny (model PySem.Challenge.rw_oz0055_01.prog w) (ktrTop dp un gd cn cs L a ccd cl outer) (call (.ref 270) [.float x tx, .float y ty]) Q E s := by
  revert X
  k_fill
  intro X
  k_steps
  k_steps
  exact hQ _ _ _ _ (by k_asm) (by k_asm) (by assumption) (by assumption)
abbrev instZ (d : Addr) (x : UInt64) (tx : Tok) (y : UInt64) (ty : Tok) : Obj := { cls := .ref 270, dict := some d, slots := #[some (.float x tx), some (.float y ty)] }
/-- a NormalDist comes back -/
def Res (h₀ : Heap) (L : Addr) (m : Str → Option Value) (news : List (Addr × Obj)) (s : Shared) (Q : Value → Shared → Prop) (mu sg : UInt64) : Prop :=
  ∀ (p d : Addr) (k : Nat) (t t' : Tok) (h' : Heap) (news' : List (Addr × Obj)), Fr h₀ L h' m → News h₀ L h' news' → (p, instZ d mu t sg t') ∈ news' → (d, dictOf [] 0) ∈ news' → (∀ q ∈ news, q ∈ news') → Q (.ref p) { s with heap := h', toks := k }
/-- an error comes up -/
def Rai (base h₀ : Heap) (L : Addr) (m : Str → Option Value) (news : List (Addr × Obj)) (l : List Env) (s : Shared) (E : Value → Shared → Prop) (cls : String) : Prop :=
  ∀ (e : Addr) (g₂ h' : Heap) (k : Nat), Fr h₀ L g₂ m → RaisedSN base g₂ l e (.type cls) news h' → g₂.UpToSlots h' → E (.ref e) { s with heap := h', toks := k }
theorem isZero_abs (b : UInt64) : Float64.isZero (Float64.abs b) = Float64.isZero b := by
  unfold Float64.abs
  by_cases hn : Float64.isNaN b = true
  · rw [if_pos hn]
    have : Float64.decode b = .nan := by
      unfold Float64.isNaN at hn
      cases h : Float64.decode b <;> rw [h] at hn <;> first | rfl | cases hn
    unfold Float64.isZero
    rw [this]
    decide +kernel
  · rw [if_neg hn]
    have h1 : (Float64.pack false (b.toNat % 2 ^ 63)).toNat = b.toNat % 2 ^ 63 := by
      rw [PySem.Float64.toNat_pack false (Nat.mod_lt _ (by decide))]; simp
    unfold Float64.isZero Float64.decode
    dsimp only
    rw [h1]
    have e1 : b.toNat % 2 ^ 63 / 2 ^ 52 % 2048 = b.toNat / 2 ^ 52 % 2048 := by omega
    have e2 : b.toNat % 2 ^ 63 % 2 ^ 52 = b.toNat % 2 ^ 52 := by omega
    rw [e1, e2]
    generalize b.toNat / 2 ^ 52 % 2048 = k1
    generalize b.toNat % 2 ^ 52 = k2
    generalize (b.toNat % 2 ^ 63 / 2 ^ 63 == 1) = n1
    generalize (b.toNat / 2 ^ 63 == 1) = n2
    by_cases c1 : (k1 == 2047) = true
    · rw [if_pos c1, if_pos c1]
      by_cases c3 : (k2 == 0) = true
      · rw [if_pos c3, if_pos c3]
      · rw [if_neg c3, if_neg c3]
    · rw [if_neg c1, if_neg c1]
      by_cases c2 : (k1 == 0) = true
      · rw [if_pos c2, if_pos c2]
        cases k2 <;> rfl
      · rw [if_neg c2, if_neg c2]
        have : ∃ j, 2 ^ 52 + k2 = j + 1 := ⟨2 ^ 52 + k2 - 1, by omega⟩
        obtain ⟨j, hj⟩ := this
        rw [hj]
        rfl
section
variable {prog : Program} {w : World} {A : Around} {E : Value → Shared → Prop} {s : Shared} {cv : Value} {b : UInt64} {x y : UInt64} {t : Tok} {Q : Value → Shared → Prop}
theorem cst_fabs_some (hc : Cst cv (some b)) (hA : A.handled = none) (h : ∀ tk tk', Q (.float (Float64.abs b) tk) { s with toks := tk' }) :
    wpAny (model prog w) A (call (.builtin "math.fabs") [cv]) Q E s := cst_fabs hc hA (fun q => nomatch q) fun y tk tk' q => by cases q; exact h _ _
theorem div_abs_some (hA : A.handled = none) (hb : ¬ Float64.isZero b = true) {t' : Tok} (h : Q (.float (Float64.div x (Float64.abs b)) s.toks) { s with toks := s.toks + 1 }) :
    wpAny (model prog w) A (binaryOp .Div (.float x t) (.float (Float64.abs b) t')) Q E s := by
  have e : Float64.isZero (Float64.abs b) = Float64.isZero b := by
    exact isZero_abs b
  exact truediv_float_or hA (fun q => absurd q (by rw [e]; exact hb)) fun _ => h
end
theorem cst_isiF {w : World} {A : Around} {P : Params} {cv : Value} {fc : Option UInt64} {s : Shared} {h₀ : Heap} {L : Addr} {m : Str → Option Value} {Q E : Value → Shared → Prop} (hc : Cst cv fc) (F : Fr h₀ L s.heap m) (X : (KZ P).In h₀) (h : ∀ tk, Q (.bool false) { s with toks := tk }) :
    wpAny (model PySem.Challenge.rw_oz0055_01.prog w) A (call (.builtin "isinstance") [cv, .ref 270]) Q E s := cst_isi hc (X.keeps F.keep) h
local macro_rules | `(tactic| walk_at "leaving ref") => `(tactic| (k_here; (with_reducible rename Heap.NewExc _ _ _ _ => hxN); (k_dflt (refine' leave_newX ?k1 hxN ?k2 ?k3 ?_)); (case k1 => k_asm); (case k2 => k_asm); (case k3 => k_asm); k_whole; clear hxN; intro h' R' U'; (try dsimp only)))
local macro_rules | `(tactic| walk_at "leaving ref") => `(tactic| (k_here; (rename RaisedSN _ _ _ _ _ _ _ => rsX); (k_dflt (refine' leave_onX ?k1 ?k2 rsX ?k3 ?_)); (case k1 => k_asm); (case k2 => k_asm); (case k3 => assumption); k_whole; clear rsX; intro h' R' U'; (try dsimp only)))
local macro_rules | `(tactic| walk_at "call builtin:isinstance") => `(tactic| (k_here; refine' cst_isiF ?k0 ?k1 ?k2 ?_; (case k0 => assumption); (case k1 => k_asm); (case k2 => k_asm); intro tk'; (try dsimp only)))
local macro_rules | `(tactic| walk_at "call ref") => `(tactic| (k_here; (with_reducible show wpAny _ _ (call (Value.ref 270) _) _ _ _); k_dflt (refine' make_claim ?k0 ?k1 ?k2 ?k3 ?k4 ?k5 ?_ ?k6 ?k7 rfl); (case k0 => first | assumption | ((rename ∀ b, _ = some b → (Float64.cmp _ 0 == some Ordering.lt) = false => hyy); exact hyy _ rfl) | ((rename ∀ b, _ = some b → ¬ Float64.isZero b = true → (Float64.cmp _ 0 == some Ordering.lt) = false => hyy); exact hyy _ rfl (by assumption))); (case k1 => k_asm); (case k2 => k_asm); (case k3 => k_asm); (case k4 => k_asm); (case k5 => k_asm); (case k6 => first | assumption | k_dflt (exact rfl)); (case k7 => k_room); intro p' d' k' h' F' N' l1 l2; (try dsimp only); (try k_sweep)))
section
local macro_rules | `(tactic| walk_at "binaryOp Add") => `(tactic| (k_here; refine' cst_add ?k0 ?k1 (fun hn' h' tk' e' hN' => ?_) (fun y' hy' => ?_); (case k0 => assumption); (case k1 => exact rfl); (try dsimp only at hN'); (try dsimp only); (try k_sweep)))
local macro_rules | `(tactic| walk_at "binaryOp Sub") => `(tactic| (k_here; refine' cst_sub ?k0 ?k1 (fun hn' h' tk' e' hN' => ?_) (fun y' hy' => ?_); (case k0 => assumption); (case k1 => exact rfl); (try dsimp only at hN'); (try dsimp only); (try k_sweep)))
local macro_rules | `(tactic| walk_at "binaryOp Mult") => `(tactic| (k_here; refine' cst_mul ?k0 ?k1 (fun hn' h' tk' e' hN' => ?_) (fun y' hy' => ?_); (case k0 => assumption); (case k1 => exact rfl); (try dsimp only at hN'); (all_goals (try subst hy')); (try dsimp only); (try k_sweep)))
local macro_rules | `(tactic| walk_at "binaryOp Div") => `(tactic| (k_here; refine' cst_div ?k0 ?k1 (fun hn' h' tk' e' hN' => ?_) (fun y' hy' hz' h' tk' e' hN' => ?_) (fun y' hy' hz' => ?_); (case k0 => assumption); (case k1 => exact rfl); (try dsimp only at hN'); (all_goals (try subst hy')); (try dsimp only); (try k_sweep)))
local macro_rules | `(tactic| walk_at "binaryOp Div float float") => `(tactic| (k_here; (with_reducible refine div_abs_some rfl (by assumption) ?_); (try dsimp only); (try k_sweep)))
local macro_rules | `(tactic| walk_at "call builtin:math.fabs") => `(tactic| (k_here; refine' cst_fabs_some ?k0 ?k1 (fun tk' tk'' => ?_); (case k0 => assumption); (case k1 => exact rfl); (try dsimp only)))
theorem add_claim {w : World} {mean : ExcName → Option Value} {mg mb : Str → Option Value} {A₀ : Around} {dp un : Nat} {gd : Option (List Code)} {base h₀ : Heap} {outer : List Env} {cn : Str} {cs : Scope} {L a : Addr} {ccd : Value} {cl : List (Str × Addr)} {m : Str → Option Value} {s : Shared} {news : List (Addr × Obj)} {Q E : Value → Shared → Prop}{xi xd : Addr} {x y : UInt64} {tx ty : Tok} {cv : Value} {fc : Option UInt64}
    (hc : Cst cv fc) (hy : (Float64.cmp y 0 == some .lt) = false) (B : Below A₀ base outer h₀) (F : Fr h₀ L s.heap m) (X : (KZ w.params).In h₀) (N : News h₀ L s.heap news) (T : Top topProg LZ mean mg mb h₀)
    (hxi : (xi, instZ xd x tx y ty) ∈ news) (hxd : (xd, dictOf [] 0) ∈ news)
    (hck : cs.kind = .function) (hroom : dp + 4 < recursionLimit)
    (hQ : ∀ b, fc = some b → Res h₀ L m news s Q (Float64.add x b) y)
    (hE : fc = none → Rai base h₀ L m news (envX cn cs L a ccd cl :: outer) s E "OverflowError")
    (hrw : PySem.Challenge.rw_oz0055_01 = PySem.Challenge.rw_oz0055_01) :
    wpAny (model PySem.Challenge.rw_oz0055_01.prog w) (ktrTop dp un gd cn cs L a ccd cl outer) (call (.ref 186) [.ref xi, cv]) Q E s := by
  revert X
  k_fill
  intro X
  k_steps
  · exact hE (by assumption) _ _ _ _ (by k_asm) (by assumption) (by assumption)
  · exact hQ _ (by assumption) _ _ _ _ _ _ _ (by k_asm) (by k_asm) (by k_mem) (by k_mem) (by intro q hq; simp only [List.mem_cons]; exact Or.inr (Or.inr hq))
theorem sub_claim {w : World} {mean : ExcName → Option Value} {mg mb : Str → Option Value} {A₀ : Around} {dp un : Nat} {gd : Option (List Code)} {base h₀ : Heap} {outer : List Env} {cn : Str} {cs : Scope} {L a : Addr} {ccd : Value} {cl : List (Str × Addr)} {m : Str → Option Value} {s : Shared} {news : List (Addr × Obj)} {Q E : Value → Shared → Prop}{xi xd : Addr} {x y : UInt64} {tx ty : Tok} {cv : Value} {fc : Option UInt64}
    (hc : Cst cv fc) (hy : (Float64.cmp y 0 == some .lt) = false) (B : Below A₀ base outer h₀) (F : Fr h₀ L s.heap m) (X : (KZ w.params).In h₀) (N : News h₀ L s.heap news) (T : Top topProg LZ mean mg mb h₀)
    (hxi : (xi, instZ xd x tx y ty) ∈ news) (hxd : (xd, dictOf [] 0) ∈ news)
    (hck : cs.kind = .function) (hroom : dp + 4 < recursionLimit)
    (hQ : ∀ b, fc = some b → Res h₀ L m news s Q (Float64.sub x b) y)
    (hE : fc = none → Rai base h₀ L m news (envX cn cs L a ccd cl :: outer) s E "OverflowError")
    (hrw : PySem.Challenge.rw_oz0055_01 = PySem.Challenge.rw_oz0055_01) :
    wpAny (model PySem.Challenge.rw_oz0055_01.prog w) (ktrTop dp un gd cn cs L a ccd cl outer) (call (.ref 193) [.ref xi, cv]) Q E s := by
  revert X
  k_fill
  intro X
  k_steps
  · exact hE (by assumption) _ _ _ _ (by k_asm) (by assumption) (by assumption)
  · exact hQ _ (by assumption) _ _ _ _ _ _ _ (by k_asm) (by k_asm) (by k_mem) (by k_mem) (by intro q hq; simp only [List.mem_cons]; exact Or.inr (Or.inr hq))
theorem mul_claim {w : World} {mean : ExcName → Option Value} {mg mb : Str → Option Value} {A₀ : Around} {dp un : Nat} {gd : Option (List Code)} {base h₀ : Heap} {outer : List Env} {cn : Str} {cs : Scope} {L a : Addr} {ccd : Value} {cl : List (Str × Addr)} {m : Str → Option Value} {s : Shared} {news : List (Addr × Obj)} {Q E : Value → Shared → Prop}{xi xd : Addr} {x y : UInt64} {tx ty : Tok} {cv : Value} {fc : Option UInt64}
    (hc : Cst cv fc) (hy : ∀ b, fc = some b → (Float64.cmp (Float64.mul y (Float64.abs b)) 0 == some .lt) = false) (B : Below A₀ base outer h₀) (F : Fr h₀ L s.heap m) (X : (KZ w.params).In h₀) (N : News h₀ L s.heap news) (T : Top topProg LZ mean mg mb h₀)
    (hxi : (xi, instZ xd x tx y ty) ∈ news) (hxd : (xd, dictOf [] 0) ∈ news)
    (hck : cs.kind = .function) (hroom : dp + 4 < recursionLimit)
    (hQ : ∀ b, fc = some b → Res h₀ L m news s Q (Float64.mul x b) (Float64.mul y (Float64.abs b)))
    (hE : fc = none → Rai base h₀ L m news (envX cn cs L a ccd cl :: outer) s E "OverflowError")
    (hrw : PySem.Challenge.rw_oz0055_01 = PySem.Challenge.rw_oz0055_01) :
    wpAny (model PySem.Challenge.rw_oz0055_01.prog w) (ktrTop dp un gd cn cs L a ccd cl outer) (call (.ref 200) [.ref xi, cv]) Q E s := by
  revert X
  k_fill
  intro X
  k_steps
  · exact hE (by assumption) _ _ _ _ (by k_asm) (by assumption) (by assumption)
  · exact hQ _ rfl _ _ _ _ _ _ _ (by k_asm) (by k_asm) (by k_mem) (by k_mem) (by intro q hq; simp only [List.mem_cons]; exact Or.inr (Or.inr hq))
theorem div_claim {w : World} {mean : ExcName → Option Value} {mg mb : Str → Option Value} {A₀ : Around} {dp un : Nat} {gd : Option (List Code)} {base h₀ : Heap} {outer : List Env} {cn : Str} {cs : Scope} {L a : Addr} {ccd : Value} {cl : List (Str × Addr)} {m : Str → Option Value} {s : Shared} {news : List (Addr × Obj)} {Q E : Value → Shared → Prop}{xi xd : Addr} {x y : UInt64} {tx ty : Tok} {cv : Value} {fc : Option UInt64}
    (hc : Cst cv fc) (hy : ∀ b, fc = some b → ¬ Float64.isZero b = true → (Float64.cmp (Float64.div y (Float64.abs b)) 0 == some .lt) = false) (B : Below A₀ base outer h₀) (F : Fr h₀ L s.heap m) (X : (KZ w.params).In h₀) (N : News h₀ L s.heap news) (T : Top topProg LZ mean mg mb h₀)
    (hxi : (xi, instZ xd x tx y ty) ∈ news) (hxd : (xd, dictOf [] 0) ∈ news)
    (hck : cs.kind = .function) (hroom : dp + 4 < recursionLimit)
    (hQ : ∀ b, fc = some b → ¬ Float64.isZero b = true → Res h₀ L m news s Q (Float64.div x b) (Float64.div y (Float64.abs b)))
    (hE : fc = none → Rai base h₀ L m news (envX cn cs L a ccd cl :: outer) s E "OverflowError")
    (hZ : ∀ b, fc = some b → Float64.isZero b = true → Rai base h₀ L m news (envX cn cs L a ccd cl :: outer) s E "ZeroDivisionError")
    (hrw : PySem.Challenge.rw_oz0055_01 = PySem.Challenge.rw_oz0055_01) :
    wpAny (model PySem.Challenge.rw_oz0055_01.prog w) (ktrTop dp un gd cn cs L a ccd cl outer) (call (.ref 207) [.ref xi, cv]) Q E s := by
  revert X
  k_fill
  intro X
  k_steps
  · exact hE (by assumption) _ _ _ _ (by k_asm) (by assumption) (by assumption)
  · exact hZ _ rfl (by assumption) _ _ _ _ (by k_asm) (by assumption) (by assumption)
  · exact hQ _ rfl (by assumption) _ _ _ _ _ _ _ (by k_asm) (by k_asm) (by k_mem) (by k_mem) (by intro q hq; simp only [List.mem_cons]; exact Or.inr (Or.inr hq))
end
theorem cmpBack_ref {Q : Value → Shared → Prop} {p : Addr} {s : Shared} (h : Q (.ref p) s) : PySem.W.CmpBack Q (.ref p) s := h
section
variable {w : World} {A : Around} {E : Value → Shared → Prop} {s : Shared} {cv : Value} {fc : Option UInt64} {x y : UInt64} {tx ty : Tok} {Q : Value → Shared → Prop} {h₀ : Heap} {L xi xd : Addr} {m : Str → Option Value} {news : List (Addr × Obj)} {P : Params}
theorem cst_ty (hc : Cst cv fc) : ∃ T, (T = "int" ∨ T = "float") ∧ typeOf cv = pure (.type T) := by
  cases hc with
  | big _ => exact ⟨"int", .inl rfl, rfl⟩
  | int _ => exact ⟨"int", .inl rfl, rfl⟩
  | flt _ => exact ⟨"float", .inr rfl, rfl⟩
theorem own_add (hc : Cst cv fc) (F : Fr h₀ L s.heap m) (X : (KZ P).In h₀) (N : News h₀ L s.heap news) (hxi : (xi, instZ xd x tx y ty) ∈ news) (hxd : (xd, dictOf [] 0) ∈ news)
    (h : wpAny (model PySem.Challenge.rw_oz0055_01.prog w) A (call (.ref 186) [.ref xi, cv]) (PySem.W.CmpBack Q) E s) : wpAny (model PySem.Challenge.rw_oz0055_01.prog w) A (binaryOp .Add (.ref xi) cv) Q E s := by
  obtain ⟨T, hT, ht⟩ := cst_ty hc
  rcases hT with rfl | rfl
  · exact ksp_binT (rc := some (.ref 186)) (fo := some (.builtin "int.__add__")) (ro := some (.builtin "int.__radd__")) F X (InstAt.of_news N hxi hxd) ht (by kernel_rfl) (by kernel_rfl) (by kernel_rfl) (by kernel_rfl) (.inr ⟨_, rfl⟩) (by kernel_rfl) (by kernel_rfl) (by kernel_rfl) h
  · exact ksp_binT (rc := some (.ref 186)) (fo := some (.builtin "float.__add__")) (ro := some (.builtin "float.__radd__")) F X (InstAt.of_news N hxi hxd) ht (by kernel_rfl) (by kernel_rfl) (by kernel_rfl) (by kernel_rfl) (.inr ⟨_, rfl⟩) (by kernel_rfl) (by kernel_rfl) (by kernel_rfl) h
theorem own_sub (hc : Cst cv fc) (F : Fr h₀ L s.heap m) (X : (KZ P).In h₀) (N : News h₀ L s.heap news) (hxi : (xi, instZ xd x tx y ty) ∈ news) (hxd : (xd, dictOf [] 0) ∈ news)
    (h : wpAny (model PySem.Challenge.rw_oz0055_01.prog w) A (call (.ref 193) [.ref xi, cv]) (PySem.W.CmpBack Q) E s) : wpAny (model PySem.Challenge.rw_oz0055_01.prog w) A (binaryOp .Sub (.ref xi) cv) Q E s := by
  obtain ⟨T, hT, ht⟩ := cst_ty hc
  rcases hT with rfl | rfl
  · exact ksp_binT (rc := some (.ref 228)) (fo := some (.builtin "int.__sub__")) (ro := some (.builtin "int.__rsub__")) F X (InstAt.of_news N hxi hxd) ht (by kernel_rfl) (by kernel_rfl) (by kernel_rfl) (by kernel_rfl) (.inr ⟨_, rfl⟩) (by kernel_rfl) (by kernel_rfl) (by kernel_rfl) h
  · exact ksp_binT (rc := some (.ref 228)) (fo := some (.builtin "float.__sub__")) (ro := some (.builtin "float.__rsub__")) F X (InstAt.of_news N hxi hxd) ht (by kernel_rfl) (by kernel_rfl) (by kernel_rfl) (by kernel_rfl) (.inr ⟨_, rfl⟩) (by kernel_rfl) (by kernel_rfl) (by kernel_rfl) h
theorem own_mul (hc : Cst cv fc) (F : Fr h₀ L s.heap m) (X : (KZ P).In h₀) (N : News h₀ L s.heap news) (hxi : (xi, instZ xd x tx y ty) ∈ news) (hxd : (xd, dictOf [] 0) ∈ news)
    (h : wpAny (model PySem.Challenge.rw_oz0055_01.prog w) A (call (.ref 200) [.ref xi, cv]) (PySem.W.CmpBack Q) E s) : wpAny (model PySem.Challenge.rw_oz0055_01.prog w) A (binaryOp .Mult (.ref xi) cv) Q E s := by
  obtain ⟨T, hT, ht⟩ := cst_ty hc
  rcases hT with rfl | rfl
  · exact ksp_binT (rc := some (.ref 200)) (fo := some (.builtin "int.__mul__")) (ro := some (.builtin "int.__rmul__")) F X (InstAt.of_news N hxi hxd) ht (by kernel_rfl) (by kernel_rfl) (by kernel_rfl) (by kernel_rfl) (.inr ⟨_, rfl⟩) (by kernel_rfl) (by kernel_rfl) (by kernel_rfl) h
  · exact ksp_binT (rc := some (.ref 200)) (fo := some (.builtin "float.__mul__")) (ro := some (.builtin "float.__rmul__")) F X (InstAt.of_news N hxi hxd) ht (by kernel_rfl) (by kernel_rfl) (by kernel_rfl) (by kernel_rfl) (.inr ⟨_, rfl⟩) (by kernel_rfl) (by kernel_rfl) (by kernel_rfl) h
theorem own_div (hc : Cst cv fc) (F : Fr h₀ L s.heap m) (X : (KZ P).In h₀) (N : News h₀ L s.heap news) (hxi : (xi, instZ xd x tx y ty) ∈ news) (hxd : (xd, dictOf [] 0) ∈ news)
    (h : wpAny (model PySem.Challenge.rw_oz0055_01.prog w) A (call (.ref 207) [.ref xi, cv]) (PySem.W.CmpBack Q) E s) : wpAny (model PySem.Challenge.rw_oz0055_01.prog w) A (binaryOp .Div (.ref xi) cv) Q E s := by
  obtain ⟨T, hT, ht⟩ := cst_ty hc
  rcases hT with rfl | rfl
  · exact ksp_binT (rc := none) (fo := some (.builtin "int.__truediv__")) (ro := some (.builtin "int.__rtruediv__")) F X (InstAt.of_news N hxi hxd) ht (by kernel_rfl) (by kernel_rfl) (by kernel_rfl) (by kernel_rfl) (.inl rfl) (by kernel_rfl) (by kernel_rfl) (by kernel_rfl) h
  · exact ksp_binT (rc := none) (fo := some (.builtin "float.__truediv__")) (ro := some (.builtin "float.__rtruediv__")) F X (InstAt.of_news N hxi hxd) ht (by kernel_rfl) (by kernel_rfl) (by kernel_rfl) (by kernel_rfl) (.inl rfl) (by kernel_rfl) (by kernel_rfl) (by kernel_rfl) h
theorem rb_add (hc : Cst cv fc) (F : Fr h₀ L s.heap m) (X : (KZ P).In h₀) (N : News h₀ L s.heap news) (hxi : (xi, instZ xd x tx y ty) ∈ news) (hxd : (xd, dictOf [] 0) ∈ news)
    (h : wpAny (model PySem.Challenge.rw_oz0055_01.prog w) A (call (.ref 186) [.ref xi, cv]) (PySem.W.CmpBack Q) E s) : wpAny (model PySem.Challenge.rw_oz0055_01.prog w) A (binaryOp .Add cv (.ref xi)) Q E s := by
  obtain ⟨T, hT, ht⟩ := cst_ty hc
  rcases hT with rfl | rfl
  · exact rbin (f' := 186) F X (InstAt.of_news N hxi hxd) ht (by kernel_rfl) (by kernel_rfl) (by kernel_rfl) (by kernel_rfl) (by rfl) (by kernel_rfl) (fun Q' q => cst_dec_add hc (N _ hxi).1 rfl q) h
  · exact rbin (f' := 186) F X (InstAt.of_news N hxi hxd) ht (by kernel_rfl) (by kernel_rfl) (by kernel_rfl) (by kernel_rfl) (by rfl) (by kernel_rfl) (fun Q' q => cst_dec_add hc (N _ hxi).1 rfl q) h
theorem rb_sub (hc : Cst cv fc) (F : Fr h₀ L s.heap m) (X : (KZ P).In h₀) (N : News h₀ L s.heap news) (hxi : (xi, instZ xd x tx y ty) ∈ news) (hxd : (xd, dictOf [] 0) ∈ news)
    (h : wpAny (model PySem.Challenge.rw_oz0055_01.prog w) A (call (.ref 228) [.ref xi, cv]) (PySem.W.CmpBack Q) E s) : wpAny (model PySem.Challenge.rw_oz0055_01.prog w) A (binaryOp .Sub cv (.ref xi)) Q E s := by
  obtain ⟨T, hT, ht⟩ := cst_ty hc
  rcases hT with rfl | rfl
  · exact rbin (f' := 193) F X (InstAt.of_news N hxi hxd) ht (by kernel_rfl) (by kernel_rfl) (by kernel_rfl) (by kernel_rfl) (by rfl) (by kernel_rfl) (fun Q' q => cst_dec_sub hc (N _ hxi).1 rfl q) h
  · exact rbin (f' := 193) F X (InstAt.of_news N hxi hxd) ht (by kernel_rfl) (by kernel_rfl) (by kernel_rfl) (by kernel_rfl) (by rfl) (by kernel_rfl) (fun Q' q => cst_dec_sub hc (N _ hxi).1 rfl q) h
theorem rb_mul (hc : Cst cv fc) (F : Fr h₀ L s.heap m) (X : (KZ P).In h₀) (N : News h₀ L s.heap news) (hxi : (xi, instZ xd x tx y ty) ∈ news) (hxd : (xd, dictOf [] 0) ∈ news)
    (h : wpAny (model PySem.Challenge.rw_oz0055_01.prog w) A (call (.ref 200) [.ref xi, cv]) (PySem.W.CmpBack Q) E s) : wpAny (model PySem.Challenge.rw_oz0055_01.prog w) A (binaryOp .Mult cv (.ref xi)) Q E s := by
  obtain ⟨T, hT, ht⟩ := cst_ty hc
  rcases hT with rfl | rfl
  · exact rbin (f' := 200) F X (InstAt.of_news N hxi hxd) ht (by kernel_rfl) (by kernel_rfl) (by kernel_rfl) (by kernel_rfl) (by rfl) (by kernel_rfl) (fun Q' q => cst_dec_mul hc (N _ hxi).1 rfl q) h
  · exact rbin (f' := 200) F X (InstAt.of_news N hxi hxd) ht (by kernel_rfl) (by kernel_rfl) (by kernel_rfl) (by kernel_rfl) (by rfl) (by kernel_rfl) (fun Q' q => cst_dec_mul hc (N _ hxi).1 rfl q) h
end
local macro_rules | `(tactic| walk_at "CmpBack ref") => `(tactic| (refine cmpBack_ref ?_; (try dsimp only)))
section
theorem neg_claim {w : World} {mean : ExcName → Option Value} {mg mb : Str → Option Value} {A₀ : Around} {dp un : Nat} {gd : Option (List Code)} {base h₀ : Heap} {outer : List Env} {cn : Str} {cs : Scope} {L a : Addr} {ccd : Value} {cl : List (Str × Addr)} {m : Str → Option Value} {s : Shared} {news : List (Addr × Obj)} {Q E : Value → Shared → Prop}{xi xd : Addr} {x y : UInt64} {tx ty : Tok} 
    (hy : (Float64.cmp y 0 == some .lt) = false) (B : Below A₀ base outer h₀) (F : Fr h₀ L s.heap m) (X : (KZ w.params).In h₀) (N : News h₀ L s.heap news) (T : Top topProg LZ mean mg mb h₀)
    (hxi : (xi, instZ xd x tx y ty) ∈ news) (hxd : (xd, dictOf [] 0) ∈ news)
    (hck : cs.kind = .function) (hroom : dp + 4 < recursionLimit)
    (hQ : Res h₀ L m news s Q (Float64.neg x) y)
    (hrw : PySem.Challenge.rw_oz0055_01 = PySem.Challenge.rw_oz0055_01) :
    wpAny (model PySem.Challenge.rw_oz0055_01.prog w) (ktrTop dp un gd cn cs L a ccd cl outer) (call (.ref 221) [.ref xi]) Q E s := by
  revert X
  k_fill
  intro X
  k_steps
  · exact hQ _ _ _ _ _ _ _ (by k_asm) (by k_asm) (by k_mem) (by k_mem) (by intro q hq; simp only [List.mem_cons]; exact Or.inr (Or.inr hq))
local macro_rules | `(tactic| walk_at "binaryOp Sub ref") => `(tactic| (k_here; refine' own_sub ?k0 ?k1 ?k2 ?k3 ?k4 ?k5 ?_; (case k0 => assumption); (case k1 => k_asm); (case k2 => k_asm); (case k3 => k_asm); (case k4 => k_mem); (case k5 => k_mem); (try dsimp only); (try k_sweep)))
local macro_rules | `(tactic| walk_at "call ref") => `(tactic| (k_here; (with_reducible show wpAny _ _ (call (Value.ref 193) _) _ _ _); k_dflt (refine' sub_claim ?k0 ?ky ?k1 ?k2 ?k3 ?k4 ?k5 ?k6 ?k7 ?k8 ?k9 (fun b' hb' p' d' k' t' t'' h' news' F' N' i1 i2 i3 => ?_) (fun hb' e' g' h' k' F' R' U' => ?_) rfl); (case k0 => assumption); (case ky => assumption); (case k1 => k_asm); (case k2 => k_asm); (case k3 => k_asm); (case k4 => k_asm); (case k5 => k_asm); (case k6 => k_mem); (case k7 => k_mem); (case k8 => first | assumption | k_dflt (exact rfl)); (case k9 => k_room); (try dsimp only); (try k_sweep)))
local macro_rules | `(tactic| walk_at "call ref") => `(tactic| (k_here; (with_reducible show wpAny _ _ (call (Value.ref 221) _) _ _ _); k_dflt (refine' neg_claim ?ky ?k1 ?k2 ?k3 ?k4 ?k5 ?k6 ?k7 ?k8 ?k9 (fun p' d' k' t' t'' h' news' F' N' i1 i2 i3 => ?_) rfl); (case ky => assumption); (case k1 => k_asm); (case k2 => k_asm); (case k3 => k_asm); (case k4 => k_asm); (case k5 => k_asm); (case k6 => k_mem); (case k7 => k_mem); (case k8 => first | assumption | k_dflt (exact rfl)); (case k9 => k_room); (try dsimp only); (try k_sweep)))
theorem rsub_claim {w : World} {mean : ExcName → Option Value} {mg mb : Str → Option Value} {A₀ : Around} {dp un : Nat} {gd : Option (List Code)} {base h₀ : Heap} {outer : List Env} {cn : Str} {cs : Scope} {L a : Addr} {ccd : Value} {cl : List (Str × Addr)} {m : Str → Option Value} {s : Shared} {news : List (Addr × Obj)} {Q E : Value → Shared → Prop}{xi xd : Addr} {x y : UInt64} {tx ty : Tok} {cv : Value} {fc : Option UInt64}
    (hc : Cst cv fc) (hy : (Float64.cmp y 0 == some .lt) = false) (B : Below A₀ base outer h₀) (F : Fr h₀ L s.heap m) (X : (KZ w.params).In h₀) (N : News h₀ L s.heap news) (T : Top topProg LZ mean mg mb h₀)
    (hxi : (xi, instZ xd x tx y ty) ∈ news) (hxd : (xd, dictOf [] 0) ∈ news)
    (hck : cs.kind = .function) (hroom : dp + 5 < recursionLimit)
    (hQ : ∀ b, fc = some b → Res h₀ L m news s Q (Float64.neg (Float64.sub x b)) y)
    (hE : fc = none → Rai base h₀ L m news (envX cn cs L a ccd cl :: outer) s E "OverflowError")
    (hrw : PySem.Challenge.rw_oz0055_01 = PySem.Challenge.rw_oz0055_01) :
    wpAny (model PySem.Challenge.rw_oz0055_01.prog w) (ktrTop dp un gd cn cs L a ccd cl outer) (call (.ref 228) [.ref xi, cv]) Q E s := by
  revert X
  k_fill
  intro X
  k_steps
  · exact hQ _ (by assumption) _ _ _ _ _ _ _ (by k_asm) (by k_asm) (by assumption) (by assumption) (fun q hq => ‹∀ q ∈ _, q ∈ _› q (‹∀ q ∈ news, q ∈ _› q hq))
  · exact hE (by assumption) _ _ _ _ (by k_asm) (by assumption) (by assumption)
end
theorem makeI_claim {w : World} {mean : ExcName → Option Value} {mg mb : Str → Option Value} {A₀ : Around} {dp un : Nat} {gd : Option (List Code)} {base h₀ : Heap} {outer : List Env} {cn : Str} {cs : Scope} {L a : Addr} {ccd : Value} {cl : List (Str × Addr)} {m : Str → Option Value} {s : Shared} {news : List (Addr × Obj)} {Q E : Value → Shared → Prop} {x y : Int} {tx ty : Tok}
    (hx : x.natAbs < 2 ^ 53) (hy : (Float64.cmpInt 0 y == some .gt) = false) (hy2 : y.natAbs < 2 ^ 53) (B : Below A₀ base outer h₀) (F : Fr h₀ L s.heap m) (X : (KZ w.params).In h₀) (N : News h₀ L s.heap news) (T : Top topProg LZ mean mg mb h₀)
    (hQ : ∀ (p d : Addr) (k : Nat) (t t' : Tok) (h : Heap), Fr h₀ L h m → News h₀ L h ((p, instZ d (Float64.ofInt x) t (Float64.ofInt y) t') :: (d, dictOf [] 0) :: news) → (∀ q ∈ news, q.1 < d) → d < p → Q (.ref p) { s with heap := h, toks := k })
    (hck : cs.kind = .function) (hroom : dp + 3 < recursionLimit)
    (hrw : PySem.Challenge.rw_oz0055_01 = PySem.Challenge.rw_oz0055_01) :
    wpAny (model PySem.Challenge.rw_oz0055_01.prog w) (ktrTop dp un gd cn cs L a ccd cl outer) (call (.ref 270) [.int x tx, .int y ty]) Q E s := by
  revert X
  k_fill
  intro X
  k_steps
  k_steps
  · exact hQ _ _ _ _ _ _ (by k_asm) (by k_asm) (by assumption) (by assumption)
section
variable {prog : Program} {w : World} {A : Around} {E : Value → Shared → Prop} {s : Shared} {K : Frag} {x C L p : Addr} {h₀ : Heap} {m : Str → Option Value} {ox od : Obj} {name : Str}
theorem get_propS {expr : Bool} {Q : Value → Shared → Prop} {fget : Addr} {rest : List Value} (F : Fr h₀ L s.heap m) (X₀ : K.In h₀) (I : InstAt s.heap x ox C (some od)) (hg : plainGet K C name = true) (hc : isClsIn K C = true)
    (ha : findIn K (.ref C) name = some (some (.ref p))) (hn : specialIn K (.ref p) "__get__" = some (some (.builtin "property.__get__"))) (ht : takesIn K (.ref p) = some true) (hp : recIn K p "property" = some (.ref fget :: rest))
    (h : codeAny (model prog w) A.in1 (.call (.ref fget) ⟨[.ref x], []⟩) (fun r s' => match r with | .ok (.ret v) => wpAny (model prog w) A (handedOut v) Q E s' | .ok _ => False | .error e => wpAny (model prog w) A (noteIf true (.ref x) (.str name s.toks) e) (fun _ s'' => E e s'') E s') { s with toks := s.toks + 1 }) :
    wpAny (model prog w) A (getAttr (.ref x) name expr) Q E s :=
  get_bind (X₀.keeps F.keep) I (plainGet_of hg).1 (findObj_data hc ha hn ht) (plainGet_of hg).2 (wpAny_call (prop_get (s := { s with toks := s.toks + 1 }) (X₀.keeps F.keep) hp h))
end
theorem mean_claim {w : World} {mean : ExcName → Option Value} {mg mb : Str → Option Value} {A₀ : Around} {dp un : Nat} {gd : Option (List Code)} {base h₀ : Heap} {outer : List Env} {cn : Str} {cs : Scope} {L a : Addr} {ccd : Value} {cl : List (Str × Addr)} {m : Str → Option Value} {s : Shared} {news : List (Addr × Obj)} {Q E : Value → Shared → Prop} {xi xd : Addr} {x y : UInt64} {tx ty : Tok}
    (B : Below A₀ base outer h₀) (F : Fr h₀ L s.heap m) (X : (KZ w.params).In h₀) (N : News h₀ L s.heap news) (T : Top topProg LZ mean mg mb h₀)
    (hxi : (xi, instZ xd x tx y ty) ∈ news) (hxd : (xd, dictOf [] 0) ∈ news)
    (hck : cs.kind = .function) (hroom : dp + 4 < recursionLimit)
    (hQ : ∀ (h' : Heap) (k : Nat), Fr h₀ L h' m → News h₀ L h' news → Q (.float x tx) { s with heap := h', toks := k })
    (hrw : PySem.Challenge.rw_oz0055_01 = PySem.Challenge.rw_oz0055_01) :
    wpAny (model PySem.Challenge.rw_oz0055_01.prog w) (ktrTop dp un gd cn cs L a ccd cl outer) (getAttr (.ref xi) (Str.ofString "mean") true) Q E s := by
  revert X
  k_fill
  intro X
  k_here
  (refine' get_propS ?k1 ?k2 ?k3 ?k4 ?k5 ?k6 ?k7 ?k8 ?k9 ?_; (case k1 => k_asm); (case k2 => k_asm); (case k3 => k_inst); (case k4 => k_is); (case k5 => k_is); (case k6 => k_is); (case k7 => k_is); (case k8 => k_is); (case k9 => k_is); k_whole; k_enter)
  k_steps
  · exact hQ _ _ (by k_asm) (by k_asm)
theorem stdev_claim {w : World} {mean : ExcName → Option Value} {mg mb : Str → Option Value} {A₀ : Around} {dp un : Nat} {gd : Option (List Code)} {base h₀ : Heap} {outer : List Env} {cn : Str} {cs : Scope} {L a : Addr} {ccd : Value} {cl : List (Str × Addr)} {m : Str → Option Value} {s : Shared} {news : List (Addr × Obj)} {Q E : Value → Shared → Prop} {xi xd : Addr} {x y : UInt64} {tx ty : Tok}
    (B : Below A₀ base outer h₀) (F : Fr h₀ L s.heap m) (X : (KZ w.params).In h₀) (N : News h₀ L s.heap news) (T : Top topProg LZ mean mg mb h₀)
    (hxi : (xi, instZ xd x tx y ty) ∈ news) (hxd : (xd, dictOf [] 0) ∈ news)
    (hck : cs.kind = .function) (hroom : dp + 4 < recursionLimit)
    (hQ : ∀ (h' : Heap) (k : Nat), Fr h₀ L h' m → News h₀ L h' news → Q (.float y ty) { s with heap := h', toks := k })
    (hrw : PySem.Challenge.rw_oz0055_01 = PySem.Challenge.rw_oz0055_01) :
    wpAny (model PySem.Challenge.rw_oz0055_01.prog w) (ktrTop dp un gd cn cs L a ccd cl outer) (getAttr (.ref xi) (Str.ofString "stdev") true) Q E s := by
  revert X
  k_fill
  intro X
  k_here
  (refine' get_propS ?k1 ?k2 ?k3 ?k4 ?k5 ?k6 ?k7 ?k8 ?k9 ?_; (case k1 => k_asm); (case k2 => k_asm); (case k3 => k_inst); (case k4 => k_is); (case k5 => k_is); (case k6 => k_is); (case k7 => k_is); (case k8 => k_is); (case k9 => k_is); k_whole; k_enter)
  k_steps
  · exact hQ _ _ (by k_asm) (by k_asm)
theorem news_sub {g h : Heap} {L : Addr} {news news' : List (Addr × Obj)} (N : News g L h news') (hs : ∀ q ∈ news, q ∈ news') : News g L h news := fun q hq => N q (hs q hq)
theorem leN {a b : Nat} (h : @LE.le Nat _ a b) : a ≤ b := h
def restZ : List Stmt := match topDef 7 with | some (_, b, _) => b.drop 3 | none => []
def scopeZ : Scope := match topDef 7 with | some (_, _, c) => c | none => default
def forT : Expr := match restZ with | _ :: .For t _ _ _ _ :: _ => t | _ => default
def forB : List Stmt := match restZ with | _ :: .For _ _ b _ _ :: _ => b | _ => []
abbrev envH (L' : Addr) : Env := envX (Str.ofString "_law_holds") scopeZ L' 288 (.ref 287) [(Str.ofString "x", L' + 1 + 1), (Str.ofString "c", L' + 1)]
/-- what one of the seven acts comes to -/
inductive Out | ok (mu sg : UInt64) | ovf | zdv
def LamOk (w : World) (mean : ExcName → Option Value) (mg mb : Str → Option Value) (A₀ : Around) (base : Heap) (outer : List Env) (A : Around) (env : Env) (L' : Addr) (news : List (Addr × Obj)) (f : Addr) (o : Out) : Prop :=
  ∀ (g : Heap) (m : Str → Option Value) (s : Shared) (Q E : Value → Shared → Prop) (news' : List (Addr × Obj)), (∀ q ∈ news, q ∈ news') → Below A₀ base outer g → Fr g L' s.heap m → (KZ w.params).In g → Top topProg LZ mean mg mb g → News g L' s.heap news' →
    (∀ mu sg, o = .ok mu sg → Res g L' m news' s Q mu sg) → (o = .ovf → Rai base g L' m news' (env :: outer) s E "OverflowError") → (o = .zdv → Rai base g L' m news' (env :: outer) s E "ZeroDivisionError") →
    wpAny (model PySem.Challenge.rw_oz0055_01.prog w) A (call (.ref f) []) Q E s
/-- what a turn of the loop must know of its act -/
def Good (o : Out) (room : Bool) (a b u v : Int) : Prop := match o with
  | .ok mu sg => room = true ∧ b ≠ 0 ∧ v ≠ 0 ∧ Float64.cmp mu (nearF a b) = some .eq ∧ Float64.cmp sg (nearF u v) = some .eq
  | .ovf => room = false
  | .zdv => room = true ∧ b = 0
theorem Good.ok_ {mu sg : UInt64} {room : Bool} {a b u v : Int} (h : Good (.ok mu sg) room a b u v) : room = true ∧ b ≠ 0 ∧ v ≠ 0 ∧ Float64.cmp mu (nearF a b) = some .eq ∧ Float64.cmp sg (nearF u v) = some .eq := h
theorem Good.ovf_ {room : Bool} {a b u v : Int} (h : Good .ovf room a b u v) : room = false := h
theorem Good.zdv_ {room : Bool} {a b u v : Int} (h : Good .zdv room a b u v) : room = true ∧ b = 0 := h
local macro_rules | `(tactic| walk_at "call ref") => `(tactic| (k_here; (with_reducible show wpAny _ _ (call (Value.ref 270) _) _ _ _); k_dflt (refine' makeI_claim ?k0 ?ky ?kz ?k1 ?k2 ?k3 ?k4 ?k5 ?_ ?k6 ?k7 rfl; (case k0 => assumption); (case ky => assumption); (case kz => assumption); (case k1 => k_asm); (case k2 => k_asm); (case k3 => k_asm); (case k4 => k_asm); (case k5 => k_asm); (case k6 => first | assumption | exact rfl); (case k7 => k_room)); intro p' d' k' t' t'' h' F' N' l1 l2; (replace l2 := ltN l2); (try dsimp only); (try k_lt l1); (try k_sweep)))
local macro_rules | `(tactic| k_upd) => `(tactic| first | exact TabIn.head | (refine' TabIn.tail ?a ?b; (case a => k_ne); (case b => k_upd)))
local macro_rules | `(tactic| walk_at "exec Try") => `(tactic| (k_here; refine wpAny_Try_except ?_))
local macro_rules | `(tactic| walk_at "eval Name") => `(tactic| (k_here; k_dflt (refine' nameX_L ?k1 ?k2 ?_ ?a ?b ?c; (case a => rfl); (case b => rfl); (case c => decide); (case k1 => k_asm); (case k2 => assumption))))
local macro_rules | `(tactic| walk_at "getAttr ref") => `(tactic| (k_here; (with_reducible show wpAny _ _ (getAttr (Value.ref _) (PySem.Str.ofString "mean") _) _ _ _); k_dflt (refine' mean_claim ?k1 ?k2 ?k3 ?k4 ?k5 ?i1 ?i2 ?k6 ?k7 ?_ rfl; (case k1 => k_asm); (case k2 => k_asm); (case k3 => k_asm); (case k4 => k_asm); (case k5 => k_asm); (case i1 => k_mem); (case i2 => k_mem); (case k6 => first | assumption | exact rfl); (case k7 => k_room)); intro h' k' F' N'; (try dsimp only); (try k_sweep)))
local macro_rules | `(tactic| walk_at "getAttr ref") => `(tactic| (k_here; (with_reducible show wpAny _ _ (getAttr (Value.ref _) (PySem.Str.ofString "stdev") _) _ _ _); k_dflt (refine' stdev_claim ?k1 ?k2 ?k3 ?k4 ?k5 ?i1 ?i2 ?k6 ?k7 ?_ rfl; (case k1 => k_asm); (case k2 => k_asm); (case k3 => k_asm); (case k4 => k_asm); (case k5 => k_asm); (case i1 => k_mem); (case i2 => k_mem); (case k6 => first | assumption | exact rfl); (case k7 => k_room)); intro h' k' F' N'; (try dsimp only); (try k_sweep)))
section
local macro_rules | `(tactic| walk_at "callWith ref") => `(tactic| (k_here; k_dflt (refine' callWith_F0 ?k1 ?_; (case k1 => exact FnAt.of (by k_asm) (by k_mem)); k_whole; try dsimp only [List.nil_append, List.cons_append])))
local macro_rules | `(tactic| walk_at "call ref") => `(tactic| (k_here; (with_reducible rename LamOk _ _ _ _ _ _ _ _ _ _ _ _ _ => lmX); k_dflt (refine' lmX _ _ _ _ _ _ ?k0 ?k1 ?k2 ?k3 ?k4 ?k5 (fun mu' sg' ho' p' d' k' t' t'' h' news' F' N' i1 i2 i3 => ?_) (fun ho' e' g' h' k' F' R' U' => ?_) (fun ho' e' g' h' k' F' R' U' => ?_); (case k0 => assumption); (case k1 => k_asm); (case k2 => k_asm); (case k3 => k_asm); (case k4 => k_asm); (case k5 => k_asm)); (all_goals subst ho'); (all_goals (rename Good _ _ _ _ _ _ => hgX)); (all_goals first | (have hg' := Good.ok_ hgX; obtain ⟨hr', hb', hv', q1', q2'⟩ := hg') | (have hg' := Good.zdv_ hgX; obtain ⟨hr', hb'⟩ := hg') | (have hr' := Good.ovf_ hgX)); (all_goals clear hgX); (all_goals subst hr'); (try dsimp only); (try k_sweep)))
local macro_rules | `(tactic| walk_at "call ref") => `(tactic| (k_here; (with_reducible show wpAny _ _ (call (Value.ref 281) _) _ _ _); k_dflt (refine' near_claim ?k0 ?k1 ?k2 ?k3 ?k4 ?k5 ?xb ?tb ?d ?k6 ?k7 ?_ rfl; (case k0 => assumption); (case k1 => k_asm); (case k2 => k_asm); (case k3 => k_asm); (case k4 => k_asm); (case k5 => k_asm); (case xb => assumption); (case tb => assumption); (case d => assumption); (case k6 => first | assumption | exact rfl); (case k7 => k_room)); intro t' h' g' tk' T' F' N' B' X' P' D'; (try dsimp only); (try k_lift B'); (try k_sweep)))
theorem turn_claim {w : World} {mean : ExcName → Option Value} {mg mb : Str → Option Value} {dp un : Nat} {gd : Option (List Code)} {base g : Heap} {cn : Str} {cs : Scope} {L a L' : Addr} {ccd : Value} {m : Str → Option Value} {s : Shared} {news news₀ : List (Addr × Obj)} {Q : Flow → Shared → Prop}
    {na nb nu nv : Int} {ta tb tu tv : Tok} {room : Bool} {tt f : Addr} {o : Out} {lpr : Arguments} {lbd : Expr} {lsc : Scope} {lcl : List (Str × Addr)} {lpm : Value} {lc : Addr} {lct : Value}
    (hlam : LamOk w mean mg mb (ktrTop dp un gd cn cs L a ccd [] []) base [envX cn cs L a ccd []] ((ktrTop dp un gd cn cs L a ccd [] []).deeper (envH L')) (envH L') L' news₀ f o) (hgood : Good o room na nb nu nv)
    (B : Below (ktrTop dp un gd cn cs L a ccd [] []) base [envX cn cs L a ccd []] g) (F : Fr g L' s.heap m) (X : (KZ w.params).In g)
    (N : News g L' s.heap news) (hsub : ∀ q ∈ news₀, q ∈ news) (T : Top topProg LZ mean mg mb g)
    (XB : (KZ w.params).In base) (TB : Top topProg LZ mean mg mb base) (D : KtsDicts ([envX cn cs L a ccd []].filterMap (·.frame)) g)
    (htt : (tt, { cls := .type "tuple", data := .seq #[.ref f, .int na ta, .int nb tb, .int nu tu, .int nv tv] 0 }) ∈ news)
    (hff : (f, kla_obj "<lambda>" qlam lpr lbd lsc lcl lpm lc lct) ∈ news)
    (hck : cs.kind = .function) (hroom : dp + 8 < recursionLimit)
    (vr : m (Str.ofString "room") = some (.bool room))
    (hQ : ∀ (g₁ h' : Heap) (tk : Nat) (m₁ : Str → Option Value) (fl : Flow), (fl = .next ∨ fl = .cont) → KtsTurn ([envX cn cs L a ccd []].filterMap (·.frame)) g g₁ → Below (ktrTop dp un gd cn cs L a ccd [] []) base [envX cn cs L a ccd []] g₁ → (KZ w.params).In g₁ → Top topProg LZ mean mg mb g₁ → KtsDicts ([envX cn cs L a ccd []].filterMap (·.frame)) g₁ → Fr g₁ L' h' m₁ → News g₁ L' h' news →
      (m₁ (Str.ofString "m") = m (Str.ofString "m") ∧ m₁ (Str.ofString "s") = m (Str.ofString "s") ∧ m₁ (Str.ofString "room") = m (Str.ofString "room")) → Q fl { s with heap := h', toks := tk })
    (hrw : PySem.Challenge.rw_oz0055_01 = PySem.Challenge.rw_oz0055_01) :
    wpAny (model PySem.Challenge.rw_oz0055_01.prog w) ((ktrTop dp un gd cn cs L a ccd [] []).deeper (envH L')) (assign forT (envH L') (.ref tt)) (fun _ s₂ => wpAny (model PySem.Challenge.rw_oz0055_01.prog w) ((ktrTop dp un gd cn cs L a ccd [] []).deeper (envH L')) (execs forB (envH L')) Q (fun _ _ => False) s₂) (fun _ _ => False) s := by
  revert X
  k_fill
  intro X
  simp only [envH, show forT = Expr.Tuple _ _ _ from rfl, show forB = [_, _, _, _] from rfl, show scopeZ = ⟨_, _, _, _, _⟩ from rfl] at *
  k_steps
  all_goals try (exfalso; omega)
  all_goals try (exfalso; (rename (_ != some Ordering.eq) = true => hx); rw [‹Float64.cmp _ (nearF na nb) = some Ordering.eq›] at hx; exact absurd hx (by decide))
  all_goals try (exfalso; (rename (_ != some Ordering.eq) = true => hx); rw [‹Float64.cmp _ (nearF nu nv) = some Ordering.eq›] at hx; exact absurd hx (by decide))
  · show Q Flow.next _
    refine' hQ _ _ _ _ _ (.inl rfl) (KtsTurn.trans ?zzt10 ?zzt20) ?zzb0 ?zzx0 ?zzp0 ?zzd0 ?zzf0 ?zzn0 ?zze0
    case zzf0 => k_asm
    case zzb0 => assumption
    case zzx0 => assumption
    case zzp0 => assumption
    case zzd0 => assumption
    case zzn0 => exact news_sub (by assumption) (by assumption)
    case zze0 => exact ⟨rfl, rfl, rfl⟩
    case zzt20 => assumption
    case zzt10 => assumption
  · show Q Flow.cont _
    refine' hQ _ _ _ _ _ (.inr rfl) ?zzt1 ?zzb1 ?zzx1 ?zzp1 ?zzd1 ?zzf1 ?zzn1 ?zze1
    case zzf1 => k_asm
    case zzb1 => assumption
    case zzx1 => assumption
    case zzp1 => assumption
    case zzd1 => assumption
    case zzn1 => k_asm
    case zze1 => exact ⟨rfl, rfl, rfl⟩
    case zzt1 => assumption
  · show Q Flow.cont _
    refine' hQ _ _ _ _ _ (.inr rfl) ?zzt2 ?zzb2 ?zzx2 ?zzp2 ?zzd2 ?zzf2 ?zzn2 ?zze2
    case zzf2 => k_asm
    case zzb2 => assumption
    case zzx2 => assumption
    case zzp2 => assumption
    case zzd2 => assumption
    case zzn2 => k_asm
    case zze2 => exact ⟨rfl, rfl, rfl⟩
    case zzt2 => assumption
end
abbrev lamP : Arguments := { posonlyargs := [], args := [], vararg := none, kwonlyargs := [], kw_defaults := [], kwarg := none, defaults := [] }
abbrev lamS : Scope := { kind := ScopeKind.function, names := [(Str.ofString "c", NameKind.free), (Str.ofString "x", NameKind.free)], isGenerator := false, isCoroutine := false }
section
local macro_rules | `(tactic| walk_at "eval Name") => `(tactic| (k_here; k_dflt (refine' nameX_F ?zN ?zc ?zm ?zd ?_ ?za ?zb ?ze ?zf; (case za => rfl); (case zb => rfl); (case ze => decide); (case zf => decide); (case zN => k_asm); (case zc => rfl); (case zm => first | with_reducible assumption | assumption); (case zd => assumption)); (try dsimp only)))
local macro_rules | `(tactic| walk_at "binaryOp Add") => `(tactic| (k_here; k_dflt (refine' own_add ?k0 ?k1 ?k2 ?k3 ?k4 ?k5 ?_; (case k0 => assumption); (case k1 => k_asm); (case k2 => k_asm); (case k3 => k_asm); (case k4 => assumption); (case k5 => assumption)); (try dsimp only); (try k_sweep)))
local macro_rules | `(tactic| walk_at "binaryOp Add") => `(tactic| (k_here; k_dflt (refine' rb_add ?k0 ?k1 ?k2 ?k3 ?k4 ?k5 ?_; (case k0 => assumption); (case k1 => k_asm); (case k2 => k_asm); (case k3 => k_asm); (case k4 => assumption); (case k5 => assumption)); (try dsimp only); (try k_sweep)))
local macro_rules | `(tactic| walk_at "binaryOp Sub") => `(tactic| (k_here; k_dflt (refine' own_sub ?k0 ?k1 ?k2 ?k3 ?k4 ?k5 ?_; (case k0 => assumption); (case k1 => k_asm); (case k2 => k_asm); (case k3 => k_asm); (case k4 => assumption); (case k5 => assumption)); (try dsimp only); (try k_sweep)))
local macro_rules | `(tactic| walk_at "binaryOp Sub") => `(tactic| (k_here; k_dflt (refine' rb_sub ?k0 ?k1 ?k2 ?k3 ?k4 ?k5 ?_; (case k0 => assumption); (case k1 => k_asm); (case k2 => k_asm); (case k3 => k_asm); (case k4 => assumption); (case k5 => assumption)); (try dsimp only); (try k_sweep)))
local macro_rules | `(tactic| walk_at "binaryOp Mult") => `(tactic| (k_here; k_dflt (refine' own_mul ?k0 ?k1 ?k2 ?k3 ?k4 ?k5 ?_; (case k0 => assumption); (case k1 => k_asm); (case k2 => k_asm); (case k3 => k_asm); (case k4 => assumption); (case k5 => assumption)); (try dsimp only); (try k_sweep)))
local macro_rules | `(tactic| walk_at "binaryOp Mult") => `(tactic| (k_here; k_dflt (refine' rb_mul ?k0 ?k1 ?k2 ?k3 ?k4 ?k5 ?_; (case k0 => assumption); (case k1 => k_asm); (case k2 => k_asm); (case k3 => k_asm); (case k4 => assumption); (case k5 => assumption)); (try dsimp only); (try k_sweep)))
local macro_rules | `(tactic| walk_at "binaryOp Div") => `(tactic| (k_here; k_dflt (refine' own_div ?k0 ?k1 ?k2 ?k3 ?k4 ?k5 ?_; (case k0 => assumption); (case k1 => k_asm); (case k2 => k_asm); (case k3 => k_asm); (case k4 => assumption); (case k5 => assumption)); (try dsimp only); (try k_sweep)))
local macro_rules | `(tactic| walk_at "call ref") => `(tactic| (k_here; (with_reducible show wpAny _ _ (call (Value.ref 186) _) _ _ _); k_dflt (refine' add_claim ?k0 ?ky ?k1 ?k2 ?k3 ?k4 ?k5 ?k6 ?k7 ?k8 ?k9 (fun b' hb' p' d' k' t' t'' h' news' F' N' i1 i2 i3 => ?_) (fun hb' e' g' h' k' F' R' U' => ?_) rfl; (case k0 => assumption); (case ky => assumption); (case k1 => k_asm); (case k2 => k_asm); (case k3 => k_asm); (case k4 => k_asm); (case k5 => k_asm); (case k6 => k_mem); (case k7 => k_mem); (case k8 => first | assumption | exact rfl); (case k9 => k_room)); (try dsimp only); (try k_sweep)))
local macro_rules | `(tactic| walk_at "call ref") => `(tactic| (k_here; (with_reducible show wpAny _ _ (call (Value.ref 193) _) _ _ _); k_dflt (refine' sub_claim ?k0 ?ky ?k1 ?k2 ?k3 ?k4 ?k5 ?k6 ?k7 ?k8 ?k9 (fun b' hb' p' d' k' t' t'' h' news' F' N' i1 i2 i3 => ?_) (fun hb' e' g' h' k' F' R' U' => ?_) rfl; (case k0 => assumption); (case ky => assumption); (case k1 => k_asm); (case k2 => k_asm); (case k3 => k_asm); (case k4 => k_asm); (case k5 => k_asm); (case k6 => k_mem); (case k7 => k_mem); (case k8 => first | assumption | exact rfl); (case k9 => k_room)); (try dsimp only); (try k_sweep)))
local macro_rules | `(tactic| walk_at "call ref") => `(tactic| (k_here; (with_reducible show wpAny _ _ (call (Value.ref 200) _) _ _ _); k_dflt (refine' mul_claim ?k0 ?ky ?k1 ?k2 ?k3 ?k4 ?k5 ?k6 ?k7 ?k8 ?k9 (fun b' hb' p' d' k' t' t'' h' news' F' N' i1 i2 i3 => ?_) (fun hb' e' g' h' k' F' R' U' => ?_) rfl; (case k0 => assumption); (case ky => assumption); (case k1 => k_asm); (case k2 => k_asm); (case k3 => k_asm); (case k4 => k_asm); (case k5 => k_asm); (case k6 => k_mem); (case k7 => k_mem); (case k8 => first | assumption | exact rfl); (case k9 => k_room)); (try dsimp only); (try k_sweep)))
local macro_rules | `(tactic| walk_at "call ref") => `(tactic| (k_here; (with_reducible show wpAny _ _ (call (Value.ref 228) _) _ _ _); k_dflt (refine' rsub_claim ?k0 ?ky ?k1 ?k2 ?k3 ?k4 ?k5 ?k6 ?k7 ?k8 ?k9 (fun b' hb' p' d' k' t' t'' h' news' F' N' i1 i2 i3 => ?_) (fun hb' e' g' h' k' F' R' U' => ?_) rfl; (case k0 => assumption); (case ky => assumption); (case k1 => k_asm); (case k2 => k_asm); (case k3 => k_asm); (case k4 => k_asm); (case k5 => k_asm); (case k6 => k_mem); (case k7 => k_mem); (case k8 => first | assumption | exact rfl); (case k9 => k_room)); (try dsimp only); (try k_sweep)))
local macro_rules | `(tactic| walk_at "call ref") => `(tactic| (k_here; (with_reducible show wpAny _ _ (call (Value.ref 207) _) _ _ _); k_dflt (refine' div_claim ?k0 ?ky ?k1 ?k2 ?k3 ?k4 ?k5 ?k6 ?k7 ?k8 ?k9 (fun b' hb' hz' p' d' k' t' t'' h' news' F' N' i1 i2 i3 => ?_) (fun hb' e' g' h' k' F' R' U' => ?_) (fun b' hb' hz' e' g' h' k' F' R' U' => ?_) rfl; (case k0 => assumption); (case ky => assumption); (case k1 => k_asm); (case k2 => k_asm); (case k3 => k_asm); (case k4 => k_asm); (case k5 => k_asm); (case k6 => k_mem); (case k7 => k_mem); (case k8 => first | assumption | exact rfl); (case k9 => k_room)); (try dsimp only); (try k_sweep)))
theorem lam0_ok {w : World} {mean : ExcName → Option Value} {mg mb : Str → Option Value} {A₀ : Around} {dp un : Nat} {gd : Option (List Code)} {base : Heap} {outer : List Env} {cn : Str} {cs : Scope} {L a : Addr} {ccd : Value} {cl : List (Str × Addr)} {news : List (Addr × Obj)} {xi xd cx cc f c' : Addr} {x y : UInt64} {tx ty : Tok} {cv pm ctv : Value} {fc : Option UInt64} {o : Out} {p1 p2 p3 : Pos} {o1 o2 : Obj}
    (hc : Cst cv fc) (hy : (Float64.cmp y 0 == some .lt) = false)
    (hf : (f, kla_obj (Str.ofString "<lambda>") qlam lamP (.BinOp (.Name (Str.ofString "x") p1) .Add (.Name (Str.ofString "c") p2) p3) lamS [(Str.ofString "x", cx), (Str.ofString "c", cc)] pm c' ctv) ∈ news) (hcz : CodeZ c' news)
    (h1 : (cx, o1) ∈ news) (d1 : o1.data = .cell (some (.ref xi))) (h2 : (cc, o2) ∈ news) (d2 : o2.data = .cell (some cv))
    (hxi : (xi, instZ xd x tx y ty) ∈ news) (hxd : (xd, dictOf [] 0) ∈ news) (hck : cs.kind = .function) (hroom : dp + 7 < recursionLimit)
    (ho1 : ∀ b, fc = some b → o = .ok (Float64.add x b) (y)) (ho2 : fc = none → o = .ovf)
    (hrw : PySem.Challenge.rw_oz0055_01 = PySem.Challenge.rw_oz0055_01) :
    LamOk w mean mg mb A₀ base outer (ktrTop dp un gd cn cs L a ccd cl outer) (envX cn cs L a ccd cl) L news f o := by
  intro h₀ m s Q E news' hs B F X T N hok hov hzd
  replace hf := hs _ hf
  replace h1 := hs _ h1
  replace h2 := hs _ h2
  replace hxi := hs _ hxi
  replace hxd := hs _ hxd
  obtain ⟨oc, vs, t, c1, c2, c3⟩ := hcz
  replace c1 := hs _ c1
  clear hs
  show wpAny (model PySem.Challenge.rw_oz0055_01.prog w) _ _ _ _ _
  revert X
  k_fill
  intro X
  refine wpAny_call ?_
  refine' kla_code B F X N T ?kkA ?kkF ?kkK hf ?kk7 ?kk8 ?kk9 ?kkB ?_ ?cc2 ?cc3 ?cc4 ?cc5
  case kkA => exact rfl
  case kkF => exact rfl
  case kkK => exact hck
  case kk9 => exact rfl
  case kkB => intro _ h; cases h
  case cc2 => exact rfl
  case cc3 => exact rfl
  case cc4 => exact rfl
  case cc5 => decide
  case kk7 => exact codeRec_news N c1 c2 c3
  case kk8 => k_room
  intro g' L' h' FG' F' N' B' X' T'; (try dsimp only); (try k_lift B'); (try k_fold)
  k_steps
  · exact hok _ _ (ho1 _ (by assumption)) _ _ _ _ _ _ _ (by k_asm) (by k_asm) (by assumption) (by assumption) (by assumption)
  · exact hov (ho2 (by assumption)) _ _ _ _ (by k_asm) (by assumption) (by assumption)
theorem lam1_ok {w : World} {mean : ExcName → Option Value} {mg mb : Str → Option Value} {A₀ : Around} {dp un : Nat} {gd : Option (List Code)} {base : Heap} {outer : List Env} {cn : Str} {cs : Scope} {L a : Addr} {ccd : Value} {cl : List (Str × Addr)} {news : List (Addr × Obj)} {xi xd cx cc f c' : Addr} {x y : UInt64} {tx ty : Tok} {cv pm ctv : Value} {fc : Option UInt64} {o : Out} {p1 p2 p3 : Pos} {o1 o2 : Obj}
    (hc : Cst cv fc) (hy : (Float64.cmp y 0 == some .lt) = false)
    (hf : (f, kla_obj (Str.ofString "<lambda>") qlam lamP (.BinOp (.Name (Str.ofString "c") p1) .Add (.Name (Str.ofString "x") p2) p3) lamS [(Str.ofString "x", cx), (Str.ofString "c", cc)] pm c' ctv) ∈ news) (hcz : CodeZ c' news)
    (h1 : (cx, o1) ∈ news) (d1 : o1.data = .cell (some (.ref xi))) (h2 : (cc, o2) ∈ news) (d2 : o2.data = .cell (some cv))
    (hxi : (xi, instZ xd x tx y ty) ∈ news) (hxd : (xd, dictOf [] 0) ∈ news) (hck : cs.kind = .function) (hroom : dp + 7 < recursionLimit)
    (ho1 : ∀ b, fc = some b → o = .ok (Float64.add x b) (y)) (ho2 : fc = none → o = .ovf)
    (hrw : PySem.Challenge.rw_oz0055_01 = PySem.Challenge.rw_oz0055_01) :
    LamOk w mean mg mb A₀ base outer (ktrTop dp un gd cn cs L a ccd cl outer) (envX cn cs L a ccd cl) L news f o := by
  intro h₀ m s Q E news' hs B F X T N hok hov hzd
  replace hf := hs _ hf
  replace h1 := hs _ h1
  replace h2 := hs _ h2
  replace hxi := hs _ hxi
  replace hxd := hs _ hxd
  obtain ⟨oc, vs, t, c1, c2, c3⟩ := hcz
  replace c1 := hs _ c1
  clear hs
  show wpAny (model PySem.Challenge.rw_oz0055_01.prog w) _ _ _ _ _
  revert X
  k_fill
  intro X
  refine wpAny_call ?_
  refine' kla_code B F X N T ?kkA ?kkF ?kkK hf ?kk7 ?kk8 ?kk9 ?kkB ?_ ?cc2 ?cc3 ?cc4 ?cc5
  case kkA => exact rfl
  case kkF => exact rfl
  case kkK => exact hck
  case kk9 => exact rfl
  case kkB => intro _ h; cases h
  case cc2 => exact rfl
  case cc3 => exact rfl
  case cc4 => exact rfl
  case cc5 => decide
  case kk7 => exact codeRec_news N c1 c2 c3
  case kk8 => k_room
  intro g' L' h' FG' F' N' B' X' T'; (try dsimp only); (try k_lift B'); (try k_fold)
  k_steps
  · exact hok _ _ (ho1 _ (by assumption)) _ _ _ _ _ _ _ (by k_asm) (by k_asm) (by assumption) (by assumption) (by assumption)
  · exact hov (ho2 (by assumption)) _ _ _ _ (by k_asm) (by assumption) (by assumption)
theorem lam2_ok {w : World} {mean : ExcName → Option Value} {mg mb : Str → Option Value} {A₀ : Around} {dp un : Nat} {gd : Option (List Code)} {base : Heap} {outer : List Env} {cn : Str} {cs : Scope} {L a : Addr} {ccd : Value} {cl : List (Str × Addr)} {news : List (Addr × Obj)} {xi xd cx cc f c' : Addr} {x y : UInt64} {tx ty : Tok} {cv pm ctv : Value} {fc : Option UInt64} {o : Out} {p1 p2 p3 : Pos} {o1 o2 : Obj}
    (hc : Cst cv fc) (hy : (Float64.cmp y 0 == some .lt) = false)
    (hf : (f, kla_obj (Str.ofString "<lambda>") qlam lamP (.BinOp (.Name (Str.ofString "x") p1) .Sub (.Name (Str.ofString "c") p2) p3) lamS [(Str.ofString "x", cx), (Str.ofString "c", cc)] pm c' ctv) ∈ news) (hcz : CodeZ c' news)
    (h1 : (cx, o1) ∈ news) (d1 : o1.data = .cell (some (.ref xi))) (h2 : (cc, o2) ∈ news) (d2 : o2.data = .cell (some cv))
    (hxi : (xi, instZ xd x tx y ty) ∈ news) (hxd : (xd, dictOf [] 0) ∈ news) (hck : cs.kind = .function) (hroom : dp + 7 < recursionLimit)
    (ho1 : ∀ b, fc = some b → o = .ok (Float64.sub x b) (y)) (ho2 : fc = none → o = .ovf)
    (hrw : PySem.Challenge.rw_oz0055_01 = PySem.Challenge.rw_oz0055_01) :
    LamOk w mean mg mb A₀ base outer (ktrTop dp un gd cn cs L a ccd cl outer) (envX cn cs L a ccd cl) L news f o := by
  intro h₀ m s Q E news' hs B F X T N hok hov hzd
  replace hf := hs _ hf
  replace h1 := hs _ h1
  replace h2 := hs _ h2
  replace hxi := hs _ hxi
  replace hxd := hs _ hxd
  obtain ⟨oc, vs, t, c1, c2, c3⟩ := hcz
  replace c1 := hs _ c1
  clear hs
  show wpAny (model PySem.Challenge.rw_oz0055_01.prog w) _ _ _ _ _
  revert X
  k_fill
  intro X
  refine wpAny_call ?_
  refine' kla_code B F X N T ?kkA ?kkF ?kkK hf ?kk7 ?kk8 ?kk9 ?kkB ?_ ?cc2 ?cc3 ?cc4 ?cc5
  case kkA => exact rfl
  case kkF => exact rfl
  case kkK => exact hck
  case kk9 => exact rfl
  case kkB => intro _ h; cases h
  case cc2 => exact rfl
  case cc3 => exact rfl
  case cc4 => exact rfl
  case cc5 => decide
  case kk7 => exact codeRec_news N c1 c2 c3
  case kk8 => k_room
  intro g' L' h' FG' F' N' B' X' T'; (try dsimp only); (try k_lift B'); (try k_fold)
  k_steps
  · exact hok _ _ (ho1 _ (by assumption)) _ _ _ _ _ _ _ (by k_asm) (by k_asm) (by assumption) (by assumption) (by assumption)
  · exact hov (ho2 (by assumption)) _ _ _ _ (by k_asm) (by assumption) (by assumption)
theorem lam3_ok {w : World} {mean : ExcName → Option Value} {mg mb : Str → Option Value} {A₀ : Around} {dp un : Nat} {gd : Option (List Code)} {base : Heap} {outer : List Env} {cn : Str} {cs : Scope} {L a : Addr} {ccd : Value} {cl : List (Str × Addr)} {news : List (Addr × Obj)} {xi xd cx cc f c' : Addr} {x y : UInt64} {tx ty : Tok} {cv pm ctv : Value} {fc : Option UInt64} {o : Out} {p1 p2 p3 : Pos} {o1 o2 : Obj}
    (hc : Cst cv fc) (hy : (Float64.cmp y 0 == some .lt) = false)
    (hf : (f, kla_obj (Str.ofString "<lambda>") qlam lamP (.BinOp (.Name (Str.ofString "c") p1) .Sub (.Name (Str.ofString "x") p2) p3) lamS [(Str.ofString "x", cx), (Str.ofString "c", cc)] pm c' ctv) ∈ news) (hcz : CodeZ c' news)
    (h1 : (cx, o1) ∈ news) (d1 : o1.data = .cell (some (.ref xi))) (h2 : (cc, o2) ∈ news) (d2 : o2.data = .cell (some cv))
    (hxi : (xi, instZ xd x tx y ty) ∈ news) (hxd : (xd, dictOf [] 0) ∈ news) (hck : cs.kind = .function) (hroom : dp + 7 < recursionLimit)
    (ho1 : ∀ b, fc = some b → o = .ok (Float64.neg (Float64.sub x b)) (y)) (ho2 : fc = none → o = .ovf)
    (hrw : PySem.Challenge.rw_oz0055_01 = PySem.Challenge.rw_oz0055_01) :
    LamOk w mean mg mb A₀ base outer (ktrTop dp un gd cn cs L a ccd cl outer) (envX cn cs L a ccd cl) L news f o := by
  intro h₀ m s Q E news' hs B F X T N hok hov hzd
  replace hf := hs _ hf
  replace h1 := hs _ h1
  replace h2 := hs _ h2
  replace hxi := hs _ hxi
  replace hxd := hs _ hxd
  obtain ⟨oc, vs, t, c1, c2, c3⟩ := hcz
  replace c1 := hs _ c1
  clear hs
  show wpAny (model PySem.Challenge.rw_oz0055_01.prog w) _ _ _ _ _
  revert X
  k_fill
  intro X
  refine wpAny_call ?_
  refine' kla_code B F X N T ?kkA ?kkF ?kkK hf ?kk7 ?kk8 ?kk9 ?kkB ?_ ?cc2 ?cc3 ?cc4 ?cc5
  case kkA => exact rfl
  case kkF => exact rfl
  case kkK => exact hck
  case kk9 => exact rfl
  case kkB => intro _ h; cases h
  case cc2 => exact rfl
  case cc3 => exact rfl
  case cc4 => exact rfl
  case cc5 => decide
  case kk7 => exact codeRec_news N c1 c2 c3
  case kk8 => k_room
  intro g' L' h' FG' F' N' B' X' T'; (try dsimp only); (try k_lift B'); (try k_fold)
  k_steps
  · exact hok _ _ (ho1 _ (by assumption)) _ _ _ _ _ _ _ (by k_asm) (by k_asm) (by assumption) (by assumption) (by assumption)
  · exact hov (ho2 (by assumption)) _ _ _ _ (by k_asm) (by assumption) (by assumption)
theorem lam4_ok {w : World} {mean : ExcName → Option Value} {mg mb : Str → Option Value} {A₀ : Around} {dp un : Nat} {gd : Option (List Code)} {base : Heap} {outer : List Env} {cn : Str} {cs : Scope} {L a : Addr} {ccd : Value} {cl : List (Str × Addr)} {news : List (Addr × Obj)} {xi xd cx cc f c' : Addr} {x y : UInt64} {tx ty : Tok} {cv pm ctv : Value} {fc : Option UInt64} {o : Out} {p1 p2 p3 : Pos} {o1 o2 : Obj}
    (hc : Cst cv fc) (hy : ∀ b, fc = some b → (Float64.cmp (Float64.mul y (Float64.abs b)) 0 == some .lt) = false)
    (hf : (f, kla_obj (Str.ofString "<lambda>") qlam lamP (.BinOp (.Name (Str.ofString "x") p1) .Mult (.Name (Str.ofString "c") p2) p3) lamS [(Str.ofString "x", cx), (Str.ofString "c", cc)] pm c' ctv) ∈ news) (hcz : CodeZ c' news)
    (h1 : (cx, o1) ∈ news) (d1 : o1.data = .cell (some (.ref xi))) (h2 : (cc, o2) ∈ news) (d2 : o2.data = .cell (some cv))
    (hxi : (xi, instZ xd x tx y ty) ∈ news) (hxd : (xd, dictOf [] 0) ∈ news) (hck : cs.kind = .function) (hroom : dp + 7 < recursionLimit)
    (ho1 : ∀ b, fc = some b → o = .ok (Float64.mul x b) (Float64.mul y (Float64.abs b))) (ho2 : fc = none → o = .ovf)
    (hrw : PySem.Challenge.rw_oz0055_01 = PySem.Challenge.rw_oz0055_01) :
    LamOk w mean mg mb A₀ base outer (ktrTop dp un gd cn cs L a ccd cl outer) (envX cn cs L a ccd cl) L news f o := by
  intro h₀ m s Q E news' hs B F X T N hok hov hzd
  replace hf := hs _ hf
  replace h1 := hs _ h1
  replace h2 := hs _ h2
  replace hxi := hs _ hxi
  replace hxd := hs _ hxd
  obtain ⟨oc, vs, t, c1, c2, c3⟩ := hcz
  replace c1 := hs _ c1
  clear hs
  show wpAny (model PySem.Challenge.rw_oz0055_01.prog w) _ _ _ _ _
  revert X
  k_fill
  intro X
  refine wpAny_call ?_
  refine' kla_code B F X N T ?kkA ?kkF ?kkK hf ?kk7 ?kk8 ?kk9 ?kkB ?_ ?cc2 ?cc3 ?cc4 ?cc5
  case kkA => exact rfl
  case kkF => exact rfl
  case kkK => exact hck
  case kk9 => exact rfl
  case kkB => intro _ h; cases h
  case cc2 => exact rfl
  case cc3 => exact rfl
  case cc4 => exact rfl
  case cc5 => decide
  case kk7 => exact codeRec_news N c1 c2 c3
  case kk8 => k_room
  intro g' L' h' FG' F' N' B' X' T'; (try dsimp only); (try k_lift B'); (try k_fold)
  k_steps
  · exact hok _ _ (ho1 _ (by assumption)) _ _ _ _ _ _ _ (by k_asm) (by k_asm) (by assumption) (by assumption) (by assumption)
  · exact hov (ho2 (by assumption)) _ _ _ _ (by k_asm) (by assumption) (by assumption)
theorem lam5_ok {w : World} {mean : ExcName → Option Value} {mg mb : Str → Option Value} {A₀ : Around} {dp un : Nat} {gd : Option (List Code)} {base : Heap} {outer : List Env} {cn : Str} {cs : Scope} {L a : Addr} {ccd : Value} {cl : List (Str × Addr)} {news : List (Addr × Obj)} {xi xd cx cc f c' : Addr} {x y : UInt64} {tx ty : Tok} {cv pm ctv : Value} {fc : Option UInt64} {o : Out} {p1 p2 p3 : Pos} {o1 o2 : Obj}
    (hc : Cst cv fc) (hy : ∀ b, fc = some b → (Float64.cmp (Float64.mul y (Float64.abs b)) 0 == some .lt) = false)
    (hf : (f, kla_obj (Str.ofString "<lambda>") qlam lamP (.BinOp (.Name (Str.ofString "c") p1) .Mult (.Name (Str.ofString "x") p2) p3) lamS [(Str.ofString "x", cx), (Str.ofString "c", cc)] pm c' ctv) ∈ news) (hcz : CodeZ c' news)
    (h1 : (cx, o1) ∈ news) (d1 : o1.data = .cell (some (.ref xi))) (h2 : (cc, o2) ∈ news) (d2 : o2.data = .cell (some cv))
    (hxi : (xi, instZ xd x tx y ty) ∈ news) (hxd : (xd, dictOf [] 0) ∈ news) (hck : cs.kind = .function) (hroom : dp + 7 < recursionLimit)
    (ho1 : ∀ b, fc = some b → o = .ok (Float64.mul x b) (Float64.mul y (Float64.abs b))) (ho2 : fc = none → o = .ovf)
    (hrw : PySem.Challenge.rw_oz0055_01 = PySem.Challenge.rw_oz0055_01) :
    LamOk w mean mg mb A₀ base outer (ktrTop dp un gd cn cs L a ccd cl outer) (envX cn cs L a ccd cl) L news f o := by
  intro h₀ m s Q E news' hs B F X T N hok hov hzd
  replace hf := hs _ hf
  replace h1 := hs _ h1
  replace h2 := hs _ h2
  replace hxi := hs _ hxi
  replace hxd := hs _ hxd
  obtain ⟨oc, vs, t, c1, c2, c3⟩ := hcz
  replace c1 := hs _ c1
  clear hs
  show wpAny (model PySem.Challenge.rw_oz0055_01.prog w) _ _ _ _ _
  revert X
  k_fill
  intro X
  refine wpAny_call ?_
  refine' kla_code B F X N T ?kkA ?kkF ?kkK hf ?kk7 ?kk8 ?kk9 ?kkB ?_ ?cc2 ?cc3 ?cc4 ?cc5
  case kkA => exact rfl
  case kkF => exact rfl
  case kkK => exact hck
  case kk9 => exact rfl
  case kkB => intro _ h; cases h
  case cc2 => exact rfl
  case cc3 => exact rfl
  case cc4 => exact rfl
  case cc5 => decide
  case kk7 => exact codeRec_news N c1 c2 c3
  case kk8 => k_room
  intro g' L' h' FG' F' N' B' X' T'; (try dsimp only); (try k_lift B'); (try k_fold)
  k_steps
  · exact hok _ _ (ho1 _ (by assumption)) _ _ _ _ _ _ _ (by k_asm) (by k_asm) (by assumption) (by assumption) (by assumption)
  · exact hov (ho2 (by assumption)) _ _ _ _ (by k_asm) (by assumption) (by assumption)
theorem lam6_ok {w : World} {mean : ExcName → Option Value} {mg mb : Str → Option Value} {A₀ : Around} {dp un : Nat} {gd : Option (List Code)} {base : Heap} {outer : List Env} {cn : Str} {cs : Scope} {L a : Addr} {ccd : Value} {cl : List (Str × Addr)} {news : List (Addr × Obj)} {xi xd cx cc f c' : Addr} {x y : UInt64} {tx ty : Tok} {cv pm ctv : Value} {fc : Option UInt64} {o : Out} {p1 p2 p3 : Pos} {o1 o2 : Obj}
    (hc : Cst cv fc) (hy : ∀ b, fc = some b → ¬ Float64.isZero b = true → (Float64.cmp (Float64.div y (Float64.abs b)) 0 == some .lt) = false)
    (hf : (f, kla_obj (Str.ofString "<lambda>") qlam lamP (.BinOp (.Name (Str.ofString "x") p1) .Div (.Name (Str.ofString "c") p2) p3) lamS [(Str.ofString "x", cx), (Str.ofString "c", cc)] pm c' ctv) ∈ news) (hcz : CodeZ c' news)
    (h1 : (cx, o1) ∈ news) (d1 : o1.data = .cell (some (.ref xi))) (h2 : (cc, o2) ∈ news) (d2 : o2.data = .cell (some cv))
    (hxi : (xi, instZ xd x tx y ty) ∈ news) (hxd : (xd, dictOf [] 0) ∈ news) (hck : cs.kind = .function) (hroom : dp + 7 < recursionLimit)
    (ho1 : ∀ b, fc = some b → ¬ Float64.isZero b = true → o = .ok (Float64.div x b) (Float64.div y (Float64.abs b))) (ho2 : fc = none → o = .ovf)
    (ho3 : ∀ b, fc = some b → Float64.isZero b = true → o = .zdv)
    (hrw : PySem.Challenge.rw_oz0055_01 = PySem.Challenge.rw_oz0055_01) :
    LamOk w mean mg mb A₀ base outer (ktrTop dp un gd cn cs L a ccd cl outer) (envX cn cs L a ccd cl) L news f o := by
  intro h₀ m s Q E news' hs B F X T N hok hov hzd
  replace hf := hs _ hf
  replace h1 := hs _ h1
  replace h2 := hs _ h2
  replace hxi := hs _ hxi
  replace hxd := hs _ hxd
  obtain ⟨oc, vs, t, c1, c2, c3⟩ := hcz
  replace c1 := hs _ c1
  clear hs
  show wpAny (model PySem.Challenge.rw_oz0055_01.prog w) _ _ _ _ _
  revert X
  k_fill
  intro X
  refine wpAny_call ?_
  refine' kla_code B F X N T ?kkA ?kkF ?kkK hf ?kk7 ?kk8 ?kk9 ?kkB ?_ ?cc2 ?cc3 ?cc4 ?cc5
  case kkA => exact rfl
  case kkF => exact rfl
  case kkK => exact hck
  case kk9 => exact rfl
  case kkB => intro _ h; cases h
  case cc2 => exact rfl
  case cc3 => exact rfl
  case cc4 => exact rfl
  case cc5 => decide
  case kk7 => exact codeRec_news N c1 c2 c3
  case kk8 => k_room
  intro g' L' h' FG' F' N' B' X' T'; (try dsimp only); (try k_lift B'); (try k_fold)
  k_steps
  · exact hok _ _ (ho1 _ (by assumption) (by assumption)) _ _ _ _ _ _ _ (by k_asm) (by k_asm) (by assumption) (by assumption) (by assumption)
  · exact hov (ho2 (by assumption)) _ _ _ _ (by k_asm) (by assumption) (by assumption)
  · exact hzd (ho3 _ (by assumption) (by assumption)) _ _ _ _ (by k_asm) (by assumption) (by assumption)
end
def forS : Stmt := match restZ with | _ :: s :: _ => s | _ => default
/-- an item of `asked`, as the loop needs it -/
def ItemOk (w : World) (mean : ExcName → Option Value) (mg mb : Str → Option Value) (A₀ : Around) (base : Heap) (outer : List Env) (A : Around) (env : Env) (L' : Addr) (news : List (Addr × Obj)) (room : Bool) (v : Value) : Prop :=
  ∃ (tt f : Addr) (o : Out) (na nb nu nv : Int) (ta tb tu tv : Tok) (lpr : Arguments) (lbd : Expr) (lsc : Scope) (lcl : List (Str × Addr)) (lpm : Value) (lc : Addr) (lct : Value), v = .ref tt ∧
    (tt, ({ cls := .type "tuple", data := .seq #[.ref f, .int na ta, .int nb tb, .int nu tu, .int nv tv] 0 } : Obj)) ∈ news ∧ (f, kla_obj "<lambda>" qlam lpr lbd lsc lcl lpm lc lct) ∈ news ∧
    LamOk w mean mg mb A₀ base outer A env L' news f o ∧ Good o room na nb nu nv
theorem loop_claim {w : World} {mean : ExcName → Option Value} {mg mb : Str → Option Value} {dp un : Nat} {gd : Option (List Code)} {base g : Heap} {cn : Str} {cs : Scope} {L a L' l : Addr} {ccd : Value} {m : Str → Option Value} {s : Shared} {news : List (Addr × Obj)} {Q : Flow → Shared → Prop} {items : Array Value} {room : Bool} {n : Nat}
    (hit : ∀ (i : Nat) (v : Value), items[i]? = some v → ItemOk w mean mg mb (ktrTop dp un gd cn cs L a ccd [] []) base [envX cn cs L a ccd []] ((ktrTop dp un gd cn cs L a ccd [] []).deeper (envH L')) (envH L') L' news room v)
    (hl : (l, ({ cls := .type "list", data := .seq items n } : Obj)) ∈ news)
    (B : Below (ktrTop dp un gd cn cs L a ccd [] []) base [envX cn cs L a ccd []] g) (F : Fr g L' s.heap m) (X : (KZ w.params).In g) (N : News g L' s.heap news) (T : Top topProg LZ mean mg mb g)
    (XB : (KZ w.params).In base) (TB : Top topProg LZ mean mg mb base) (D : KtsDicts ([envX cn cs L a ccd []].filterMap (·.frame)) g)
    (hck : cs.kind = .function) (hroom : dp + 8 < recursionLimit)
    (vr : m (Str.ofString "room") = some (.bool room)) (va : m (Str.ofString "asked") = some (.ref l))
    (hQ : ∀ (g₁ h' : Heap) (tk : Nat) (m₁ : Str → Option Value), KtsTurn ([envX cn cs L a ccd []].filterMap (·.frame)) g g₁ → Below (ktrTop dp un gd cn cs L a ccd [] []) base [envX cn cs L a ccd []] g₁ → (KZ w.params).In g₁ → Top topProg LZ mean mg mb g₁ → KtsDicts ([envX cn cs L a ccd []].filterMap (·.frame)) g₁ → Fr g₁ L' h' m₁ → News g₁ L' h' news →
      m₁ (Str.ofString "m") = m (Str.ofString "m") → m₁ (Str.ofString "s") = m (Str.ofString "s") → Q .next { s with heap := h', toks := tk }) :
    wpAny (model PySem.Challenge.rw_oz0055_01.prog w) ((ktrTop dp un gd cn cs L a ccd [] []).deeper (envH L')) (exec forS (envH L')) Q (fun _ _ => False) s := by
  show wpAny _ _ (exec (.For forT (.Name (Str.ofString "asked") _) forB [] _) (envH L')) Q (fun _ _ => False) s
  have hlL : l ≠ L' := (N _ hl).2.1
  have isl : ∀ {g₁ h : Heap} {r : List (Addr × Obj)}, News g₁ L' h r → (∀ q ∈ news, q ∈ r) → h.IsList l items := fun N₁ hs => ⟨_, (N₁ _ (hs _ hl)).1, rfl, n, rfl⟩
  let J : Nat → Addr → Shared → Prop := fun i it s' => ∃ (g₁ : Heap) (m₁ : Str → Option Value) (h : Heap) (tk : Nat) (oi : Obj), s' = { s with heap := h, toks := tk } ∧ KtsTurn ([envX cn cs L a ccd []].filterMap (·.frame)) g g₁ ∧ Below (ktrTop dp un gd cn cs L a ccd [] []) base [envX cn cs L a ccd []] g₁ ∧ (KZ w.params).In g₁ ∧ Top topProg LZ mean mg mb g₁ ∧ KtsDicts ([envX cn cs L a ccd []].filterMap (·.frame)) g₁ ∧
    Fr g₁ L' h m₁ ∧ News g₁ L' h ((it, oi) :: news) ∧ oi.cls = .type "list_iterator" ∧ oi.data = .fields #[.ref l, .int i 0] ∧ (m₁ (Str.ofString "m") = m (Str.ofString "m") ∧ m₁ (Str.ofString "s") = m (Str.ofString "s") ∧ m₁ (Str.ofString "room") = m (Str.ofString "room")) ∧ (∀ q ∈ news, q.1 ≠ it) ∧ i ≤ items.size
  have moved : ∀ {g₁ h h₁ : Heap} {m₁ : Str → Option Value} {it : Addr} {oi : Obj}, Fr g₁ L' h m₁ → News g₁ L' h ((it, oi) :: news) → (∀ q ∈ news, q.1 ≠ it) → Heap.ExtBut it h h₁ → Fr g₁ L' h₁ m₁ ∧ News g₁ L' h₁ news := by
    intro g₁ h h₁ m₁ it oi F₁ N₁ hne hx
    have hI := N₁ _ (.head _)
    refine ⟨⟨F₁.ns.at' fun o e => hx _ o (Ne.symm hI.2.1) e, fun b o e => hx b o (fun q => by rw [q, hI.2.2] at e; cases e) (F₁.keep b o e), F₁.above⟩, fun q hq => ?_⟩
    have n1 := N₁ q (.tail _ hq)
    exact ⟨hx _ _ (hne q hq) n1.1, n1.2⟩
  refine for_moving rfl (l := l) (items := items) J ?_ ?_ ?_ (by intro x; rfl) ?_
  · rintro i it s' ⟨g₁, m₁, h, tk, oi, rfl, T₁, B₁, X₁, P₁, D₁, F₁, N₁, c1, c2, vs, hne, hi⟩
    exact ⟨⟨oi, (N₁ _ (.head _)).1, c1, c2⟩, isl N₁ (fun q hq => .tail _ hq), hi⟩
  · rintro i it v s' h₁ ⟨g₁, m₁, h, tk, oi, rfl, T₁, B₁, X₁, P₁, D₁, F₁, N₁, c1, c2, vs, hne, hi⟩ hv hit₁ hs₁
    obtain ⟨F₂, N₂⟩ := moved F₁ N₁ hne hs₁.extBut
    obtain ⟨oi', k1, k2, k3⟩ := hit₁
    have hI := N₁ _ (.head _)
    have N₃ : News g₁ L' h₁ ((it, oi') :: news) := fun q hq => by
      rcases List.mem_cons.mp hq with rfl | hq
      · exact ⟨k1, hI.2⟩
      · exact N₂ q hq
    obtain ⟨tt, f, o, na, nb, nu, nv, ta, tb, tu, tv, lpr, lbd, lsc, lcl, lpm, lc, lct, rfl, q1, q2, q3, q4⟩ := hit i v hv
    have hlt : i < items.size := by
      rcases Nat.lt_or_ge i items.size with k | k
      · exact k
      · rw [Array.getElem?_eq_none k] at hv; cases hv
    refine turn_claim (s := { s with heap := h₁, toks := tk }) (o := o) q3 q4 B₁ F₂ X₁ N₃ (fun q hq => .tail _ hq) P₁ XB TB D₁ (.tail _ q1) (.tail _ q2) hck hroom (by rw [vs.2.2, vr]) (fun g₂ h' tk' m₂ fl hfl T₂ B₂ X₂ P₂ D₂ F₃ N₄ vs₂ => ?_) rfl
    have hJ : J (i + 1) it { s with heap := h', toks := tk' } := ⟨g₂, m₂, h', tk', oi', rfl, T₁.trans T₂, B₂, X₂, P₂, D₂, F₃, N₄, k2, k3, ⟨vs₂.1.trans vs.1, vs₂.2.1.trans vs.2.1, vs₂.2.2.trans vs.2.2⟩, hne, hlt⟩
    rcases hfl with rfl | rfl
    · exact hJ
    · exact hJ
  · rintro i it s' h₁ ⟨g₁, m₁, h, tk, oi, rfl, T₁, B₁, X₁, P₁, D₁, F₁, N₁, c1, c2, vs, hne, hi⟩ hv hx
    obtain ⟨F₂, N₂⟩ := moved F₁ N₁ hne hx
    exact hQ g₁ h₁ tk m₁ T₁ B₁ X₁ P₁ D₁ F₂ N₂ vs.1 vs.2.1
  · refine nameX_L F va ?_ rfl rfl (by decide)
    refine ⟨rfl, isl N (fun _ h => h), ?_⟩
    refine ⟨g, m, _, s.toks, { cls := .type "list_iterator", data := .fields #[.ref l, .int 0 0] }, rfl, KtsTurn.refl, B, X, T, D, F.push _, fun q hq => ?_, rfl, rfl, ⟨rfl, rfl, rfl⟩, fun q hq => Nat.ne_of_lt (Heap.lt_size (N q hq).1), Nat.zero_le _⟩
    rcases List.mem_cons.mp hq with rfl | hq
    · exact ⟨Heap.get?_push_size _ rfl, Nat.ne_of_gt F.ns.lt, next_is_new F⟩
    · exact ⟨Heap.get?_push_of_some _ (N q hq).1, (N q hq).2⟩
section
open PySem.Float64
theorem ratio_zero {y : UInt64} {p q : Int} (h : IsRatio y p q) : Float64.isZero y = true ↔ p = 0 := by
  obtain ⟨⟨a, m, e, h1⟩, h2, h3⟩ := h
  have hz : Float64.isZero y = true ↔ m = 0 := by
    unfold Float64.isZero
    rw [h1]
    cases m with
    | zero => simp
    | succ k => simp
  have hv : val y = 0 ↔ m = 0 := by
    rw [val_eq h1]
    have : 0 < 2 ^ (e + 1074).toNat := Nat.pow_pos (by decide)
    unfold sgn
    split <;> constructor <;> intro k
    · have k' : m * 2 ^ (e + 1074).toNat = 0 := by omega
      rcases Nat.mul_eq_zero.mp k' with k' | k'
      · exact k'
      · omega
    · subst k; simp
    · have k' : m * 2 ^ (e + 1074).toNat = 0 := by omega
      rcases Nat.mul_eq_zero.mp k' with k' | k'
      · exact k'
      · omega
    · subst k; simp
  rw [hz, ← hv]
  have hK : (0 : Int) < 2 ^ 1074 := Int.pow_pos (by decide)
  constructor
  · intro k
    rw [k, Int.zero_mul] at h3
    rcases Int.mul_eq_zero.mp h3 with k | k
    · exact k
    · omega
  · intro k
    rw [k, Int.zero_mul] at h3
    rcases Int.mul_eq_zero.mp h3.symm with k | k
    · exact k
    · omega
/-- the constant's ratio, when its float is there -/
def JZ (fc : Option UInt64) (p q : Int) (room : Bool) : Prop := (room = true ∧ ∃ b, fc = some b ∧ IsRatio b p q) ∨ (room = false ∧ fc = none ∧ p = 0 ∧ q = 1)
theorem abs_if (p : Int) : (if p < 0 then -p else p) = (p.natAbs : Int) := by split <;> omega
def oAdd (fc : Option UInt64) (x y : UInt64) : Out := match fc with | some b => .ok (Float64.add x b) y | none => .ovf
def oSub (fc : Option UInt64) (x y : UInt64) : Out := match fc with | some b => .ok (Float64.sub x b) y | none => .ovf
def oRsub (fc : Option UInt64) (x y : UInt64) : Out := match fc with | some b => .ok (Float64.neg (Float64.sub x b)) y | none => .ovf
def oMul (fc : Option UInt64) (x y : UInt64) : Out := match fc with | some b => .ok (Float64.mul x b) (Float64.mul y (Float64.abs b)) | none => .ovf
def oDiv (fc : Option UInt64) (x y : UInt64) : Out := match fc with | some b => (if Float64.isZero b = true then .zdv else .ok (Float64.div x b) (Float64.div y (Float64.abs b))) | none => .ovf
section
variable {fc : Option UInt64} {p q m s : Int} {room : Bool} {x y : UInt64} {b : UInt64}
theorem JZ.ratio (h : JZ fc p q room) (e : fc = some b) : IsRatio b p q := by
  rcases h with ⟨_, b', e', r⟩ | ⟨_, e', _⟩
  · rw [e] at e'; cases e'; exact r
  · rw [e] at e'; cases e'
theorem good_add (h : JZ fc p q room) (hx : Exact x m) (hy : Exact y s) : Good (oAdd fc x y) room (m * q + p) q s 1 := by
  rcases h with ⟨rfl, b, rfl, r⟩ | ⟨rfl, rfl, _⟩
  · exact ⟨rfl, by have := r.pos; omega, by decide, add_law hx r, same_law hy⟩
  · exact rfl
theorem good_sub (h : JZ fc p q room) (hx : Exact x m) (hy : Exact y s) : Good (oSub fc x y) room (m * q - p) q s 1 := by
  rcases h with ⟨rfl, b, rfl, r⟩ | ⟨rfl, rfl, _⟩
  · exact ⟨rfl, by have := r.pos; omega, by decide, sub_law hx r, same_law hy⟩
  · exact rfl
theorem good_rsub (h : JZ fc p q room) (hx : Exact x m) (hy : Exact y s) : Good (oRsub fc x y) room (p - m * q) q s 1 := by
  rcases h with ⟨rfl, b, rfl, r⟩ | ⟨rfl, rfl, _⟩
  · exact ⟨rfl, by have := r.pos; omega, by decide, rsub_law hx r, same_law hy⟩
  · exact rfl
theorem good_mul (h : JZ fc p q room) (hx : Exact x m) (hy : Exact y s) : Good (oMul fc x y) room (m * p) q (s * (if p < 0 then -p else p)) q := by
  rw [abs_if]
  rcases h with ⟨rfl, b, rfl, r⟩ | ⟨rfl, rfl, _⟩
  · exact ⟨rfl, by have := r.pos; omega, by have := r.pos; omega, mul_law hx r, mul_law hy (abs_ratio r)⟩
  · exact rfl
theorem good_div (h : JZ fc p q room) (hx : Exact x m) (hy : Exact y s) : Good (oDiv fc x y) room (m * q) p (s * q) (if p < 0 then -p else p) := by
  rw [abs_if]
  rcases h with ⟨rfl, b, rfl, r⟩ | ⟨rfl, rfl, _⟩
  · unfold oDiv
    dsimp only
    by_cases z : Float64.isZero b = true
    · rw [if_pos z]; exact ⟨rfl, (ratio_zero r).mp z⟩
    · rw [if_neg z]
      have hp : p ≠ 0 := fun k => z ((ratio_zero r).mpr k)
      exact ⟨rfl, hp, by omega, div_law hx r hp, div_law hy (abs_ratio r) (by omega)⟩
  · exact rfl
theorem zero_int {si : Int} (h : 0 ≤ si) : (Float64.cmpInt 0 si == some .gt) = false := by
  rw [cmpInt_right PySem.Flt.decode_zero, val_eq PySem.Flt.decode_zero]
  cases hc : compare (sgn false (0 * 2 ^ ((-1074 : Int) + 1074).toNat)) (si * 2 ^ 1074) with
  | gt =>
    have k := Int.compare_eq_gt.mp hc
    have hK : (0 : Int) < 2 ^ 1074 := Int.pow_pos (by decide)
    have := Int.mul_nonneg h (Int.le_of_lt hK)
    simp [sgn] at k
    omega
  | lt => decide
  | eq => decide
end
end
theorem CodeZ.mono {c : Addr} {l l' : List (Addr × Obj)} (h : CodeZ c l) (s : ∀ q ∈ l, q ∈ l') : CodeZ c l' := let ⟨a, b, d, e, f⟩ := h; ⟨a, b, d, s _ e, f⟩
section
local macro_rules | `(tactic| walk_at "eval Lambda") => `(tactic| (k_here; k_dflt (refine' lam_make ?F ?N ?T ?C ?U ?ok ?hz ?d ?cl ?_; (case F => k_asm); (case N => k_asm); (case T => k_asm); (case C => kn_code); (case U => k_upd); (case ok => assumption); (case hz => exact ⟨(_, _), by k_mem, by refine leN ?_; dsimp only; omega⟩); (case d => exact rfl); (case cl => exact rfl)); intro f' c' ctv' h' tk' ps' codes' F' N' ok' cz' hs' l1; (try dsimp only at N'); (try dsimp only at l1); (try dsimp only); (try k_lt l1); (try k_sweep)))
theorem holds_rest {w : World} {mean : ExcName → Option Value} {mg mb : Str → Option Value} {dp un : Nat} {gd : Option (List Code)} {base g : Heap} {cn : Str} {cs : Scope} {L a L' : Addr} {ccd : Value} {m : Str → Option Value} {s : Shared} {codes codes₀ : List (Addr × Obj)} {ps : Array Value} {Q : Flow → Shared → Prop}
    {mi si p q : Int} {tm ts tp tq t t' : Tok} {cv : Value} {fc : Option UInt64} {room : Bool} {xp xd : Addr} {o1 o2 : Obj}
    (hc : Cst cv fc) (hm : mi.natAbs < 2 ^ 53) (hs : 0 ≤ si) (hs2 : si.natAbs < 2 ^ 53) (hJ : JZ fc p q room)
    (B : Below (ktrTop dp un gd cn cs L a ccd [] []) base [envOf cn cs L a ccd] g) (F : Fr g L' s.heap m) (X : (KZ w.params).In g)
    (N : News g L' s.heap ((xp, instZ xd (Float64.ofInt mi) t (Float64.ofInt si) t') :: (xd, dictOf [] 0) :: (L' + 1 + 1, o1) :: (L' + 1, o2) :: (283, tabObj ps) :: codes)) (T : Top topProg LZ mean mg mb g)
    (XB : (KZ w.params).In base) (TB : Top topProg LZ mean mg mb base) (D : KtsDicts ([envOf cn cs L a ccd].filterMap (·.frame)) g)
    (C : CodeHd base 287 283) (ok : TabOk L' codes₀ ps codes) (h283 : (283 : Nat) < L') (hxd : ∀ q ∈ (L' + 1 + 1, o1) :: (L' + 1, o2) :: (283, tabObj ps) :: codes, q.1 < xd) (hxp : @LT.lt Nat _ xd xp)
    (d1 : o1.data = .cell (some (.ref xp))) (d2 : o2.data = .cell (some cv)) (hck : cs.kind = .function) (hroom : dp + 8 < recursionLimit)
    (vm : m (Str.ofString "m") = some (.int mi tm)) (vs : m (Str.ofString "s") = some (.int si ts)) (vp : m (Str.ofString "p") = some (.int p tp)) (vq : m (Str.ofString "q") = some (.int q tq)) (vr : m (Str.ofString "room") = some (.bool room))
    (hQ : ∀ (g₁ h' : Heap) (tk : Nat) (m₁ : Str → Option Value) (ps' : Array Value) (codes' : List (Addr × Obj)), KtsTurn ([envOf cn cs L a ccd].filterMap (·.frame)) g g₁ → Fr g₁ L' h' m₁ → News g₁ L' h' ((283, tabObj ps') :: codes') → TabOk L' codes₀ ps' codes' → Q (.ret (.bool true)) { s with heap := h', toks := tk })
    (hrw : PySem.Challenge.rw_oz0055_01 = PySem.Challenge.rw_oz0055_01) :
    wpAny (model PySem.Challenge.rw_oz0055_01.prog w) ((ktrTop dp un gd cn cs L a ccd [] []).deeper (envX (Str.ofString "_law_holds") scopeZ L' 288 (.ref 287) [(Str.ofString "x", L' + 1 + 1), (Str.ofString "c", L' + 1)])) (execs restZ (envX (Str.ofString "_law_holds") scopeZ L' 288 (.ref 287) [(Str.ofString "x", L' + 1 + 1), (Str.ofString "c", L' + 1)])) Q (fun _ _ => False) s := by
  k_lt hxd
  revert X
  k_fill
  intro X
  simp only [show restZ = [_, _, _] from rfl, show scopeZ = ⟨_, _, _, _, _⟩ from rfl]
  k_steps
  have EX := (exact_of hm).1
  have EY := (exact_of hs2).1
  have hp0 := exact_plus EY hs
  have hroom2 : dp + 1 + 7 < recursionLimit := hroom
  refine' loop_claim (room := room) ?zhit ?zhl ?zB ?zF ?zX ?zN ?zT XB TB D hck hroom ?zvr ?zva ?zQ
  case zF => k_asm
  case zva => exact rfl
  case zN => k_asm
  case zhl => exact List.Mem.head _
  case zB => k_asm
  case zX => k_asm
  case zT => k_asm
  case zvr => exact vr
  case zhit =>
    clear hQ
    intro i v hv
    match i, hv with
    | 0, hv =>
      obtain rfl : _ = v := Option.some.inj hv
      refine' ⟨_, _, oAdd fc (Float64.ofInt mi) (Float64.ofInt si), _, _, _, _, _, _, _, _, _, _, _, _, _, _, _, rfl, ?za0, ?zb0, ?zc0, good_add hJ EX EY⟩
      case za0 => k_mem
      case zb0 => k_mem
      case zc0 =>
        refine' lam0_ok hc hp0 ?zd0 ?ze0 ?zf0 d1 ?zg0 d2 ?zh0 ?zi0 rfl hroom2 (fun b e => by subst e; rfl) (fun e => by subst e; rfl) rfl
        case zd0 => k_mem
        case ze0 => exact CodeZ.mono (by assumption) (fun q hq => by (repeat (refine List.mem_cons_of_mem _ ?_)); solve_by_elim (maxDepth := 12))
        case zf0 => k_mem
        case zg0 => k_mem
        case zh0 => k_mem
        case zi0 => k_mem
    | 1, hv =>
      obtain rfl : _ = v := Option.some.inj hv
      refine' ⟨_, _, oAdd fc (Float64.ofInt mi) (Float64.ofInt si), _, _, _, _, _, _, _, _, _, _, _, _, _, _, _, rfl, ?za1, ?zb1, ?zc1, good_add hJ EX EY⟩
      case za1 => k_mem
      case zb1 => k_mem
      case zc1 =>
        refine' lam1_ok hc hp0 ?zd1 ?ze1 ?zf1 d1 ?zg1 d2 ?zh1 ?zi1 rfl hroom2 (fun b e => by subst e; rfl) (fun e => by subst e; rfl) rfl
        case zd1 => k_mem
        case ze1 => exact CodeZ.mono (by assumption) (fun q hq => by (repeat (refine List.mem_cons_of_mem _ ?_)); solve_by_elim (maxDepth := 12))
        case zf1 => k_mem
        case zg1 => k_mem
        case zh1 => k_mem
        case zi1 => k_mem
    | 2, hv =>
      obtain rfl : _ = v := Option.some.inj hv
      refine' ⟨_, _, oSub fc (Float64.ofInt mi) (Float64.ofInt si), _, _, _, _, _, _, _, _, _, _, _, _, _, _, _, rfl, ?za2, ?zb2, ?zc2, good_sub hJ EX EY⟩
      case za2 => k_mem
      case zb2 => k_mem
      case zc2 =>
        refine' lam2_ok hc hp0 ?zd2 ?ze2 ?zf2 d1 ?zg2 d2 ?zh2 ?zi2 rfl hroom2 (fun b e => by subst e; rfl) (fun e => by subst e; rfl) rfl
        case zd2 => k_mem
        case ze2 => exact CodeZ.mono (by assumption) (fun q hq => by (repeat (refine List.mem_cons_of_mem _ ?_)); solve_by_elim (maxDepth := 12))
        case zf2 => k_mem
        case zg2 => k_mem
        case zh2 => k_mem
        case zi2 => k_mem
    | 3, hv =>
      obtain rfl : _ = v := Option.some.inj hv
      refine' ⟨_, _, oRsub fc (Float64.ofInt mi) (Float64.ofInt si), _, _, _, _, _, _, _, _, _, _, _, _, _, _, _, rfl, ?za3, ?zb3, ?zc3, good_rsub hJ EX EY⟩
      case za3 => k_mem
      case zb3 => k_mem
      case zc3 =>
        refine' lam3_ok hc hp0 ?zd3 ?ze3 ?zf3 d1 ?zg3 d2 ?zh3 ?zi3 rfl hroom2 (fun b e => by subst e; rfl) (fun e => by subst e; rfl) rfl
        case zd3 => k_mem
        case ze3 => exact CodeZ.mono (by assumption) (fun q hq => by (repeat (refine List.mem_cons_of_mem _ ?_)); solve_by_elim (maxDepth := 12))
        case zf3 => k_mem
        case zg3 => k_mem
        case zh3 => k_mem
        case zi3 => k_mem
    | 4, hv =>
      obtain rfl : _ = v := Option.some.inj hv
      refine' ⟨_, _, oMul fc (Float64.ofInt mi) (Float64.ofInt si), _, _, _, _, _, _, _, _, _, _, _, _, _, _, _, rfl, ?za4, ?zb4, ?zc4, good_mul hJ EX EY⟩
      case za4 => k_mem
      case zb4 => k_mem
      case zc4 =>
        refine' lam4_ok hc (fun b e => mul_plus EY hs (hJ.ratio e)) ?zd4 ?ze4 ?zf4 d1 ?zg4 d2 ?zh4 ?zi4 rfl hroom2 (fun b e => by subst e; rfl) (fun e => by subst e; rfl) rfl
        case zd4 => k_mem
        case ze4 => exact CodeZ.mono (by assumption) (fun q hq => by (repeat (refine List.mem_cons_of_mem _ ?_)); solve_by_elim (maxDepth := 12))
        case zf4 => k_mem
        case zg4 => k_mem
        case zh4 => k_mem
        case zi4 => k_mem
    | 5, hv =>
      obtain rfl : _ = v := Option.some.inj hv
      refine' ⟨_, _, oMul fc (Float64.ofInt mi) (Float64.ofInt si), _, _, _, _, _, _, _, _, _, _, _, _, _, _, _, rfl, ?za5, ?zb5, ?zc5, good_mul hJ EX EY⟩
      case za5 => k_mem
      case zb5 => k_mem
      case zc5 =>
        refine' lam5_ok hc (fun b e => mul_plus EY hs (hJ.ratio e)) ?zd5 ?ze5 ?zf5 d1 ?zg5 d2 ?zh5 ?zi5 rfl hroom2 (fun b e => by subst e; rfl) (fun e => by subst e; rfl) rfl
        case zd5 => k_mem
        case ze5 => exact CodeZ.mono (by assumption) (fun q hq => by (repeat (refine List.mem_cons_of_mem _ ?_)); solve_by_elim (maxDepth := 12))
        case zf5 => k_mem
        case zg5 => k_mem
        case zh5 => k_mem
        case zi5 => k_mem
    | 6, hv =>
      obtain rfl : _ = v := Option.some.inj hv
      refine' ⟨_, _, oDiv fc (Float64.ofInt mi) (Float64.ofInt si), _, _, _, _, _, _, _, _, _, _, _, _, _, _, _, rfl, ?za6, ?zb6, ?zc6, good_div hJ EX EY⟩
      case za6 => k_mem
      case zb6 => k_mem
      case zc6 =>
        refine' lam6_ok hc (fun b e z => div_plus EY hs (hJ.ratio e) (fun k => z ((ratio_zero (hJ.ratio e)).mpr k))) ?zd6 ?ze6 ?zf6 d1 ?zg6 d2 ?zh6 ?zi6 rfl hroom2 (fun b e z => by subst e; exact if_neg z) (fun e => by subst e; rfl) (fun b e z => by subst e; exact if_pos z) rfl
        case zd6 => k_mem
        case ze6 => exact CodeZ.mono (by assumption) (fun q hq => by (repeat (refine List.mem_cons_of_mem _ ?_)); solve_by_elim (maxDepth := 12))
        case zf6 => k_mem
        case zg6 => k_mem
        case zh6 => k_mem
        case zi6 => k_mem
    | k + 7, hv => exact absurd hv (by simp)
  case zQ =>
    intro g₁ h' tk' m₁ T₁ B₁ X₁ P₁ D₁ F₁ N₁ vm₁ vs₁
    have vm' : m₁ (Str.ofString "m") = some (.int mi tm) := vm₁.trans vm
    have vs' : m₁ (Str.ofString "s") = some (.int si ts) := vs₁.trans vs
    clear vm₁ vs₁ vm vs
    have e1 := exact_int EX
    have e2 := exact_int EY
    k_steps
    · rw [show (Float64.cmpInt (Float64.ofInt si) si == some Ordering.eq) = true from by rw [e2]; rfl]
      refine' hQ _ _ _ _ _ _ T₁ ?wF ?wN ?wO
      case wF => k_asm
      case wO => assumption
      case wN => exact news_sub (by assumption) (fun q hq => by repeat (first | exact hq | refine List.mem_cons_of_mem _ ?_))
    · exfalso; (rename (Float64.cmpInt _ _ == some Ordering.eq) = false => hx); rw [e1] at hx; exact absurd hx (by decide)
end
theorem allLt_mem {d : Addr} : ∀ {l : List (Addr × Obj)}, AllLt d l → ∀ q ∈ l, q.1 < d
  | [], _, _, h => nomatch h
  | _ :: _, h, _, hq => by
    rcases List.mem_cons.mp hq with rfl | hq
    · exact h.1
    · exact allLt_mem h.2 _ hq
theorem cst_fin {cv : Value} {fc : Option UInt64} {b : UInt64} (hc : Cst cv fc) (e : fc = some b) : ∃ a m e, Float64.decode b = .fin a m e := by
  cases hc with
  | big _ => cases e
  | @int n _ h =>
    cases e
    obtain ⟨t, k1, ht, k2, k3⟩ := PySem.Float64.ofInt_right n
    rcases Nat.lt_or_ge t PySem.Float64.infMag with q | q
    · obtain ⟨m, e, r, _⟩ := PySem.Float64.decode_pack (decide (n < 0)) q
      rw [k1]
      exact ⟨_, m, e, r⟩
    · exfalso
      have : t = PySem.Float64.infMag := by omega
      rw [k1, this] at h
      cases hb : decide (n < 0) <;> rw [hb] at h <;> exact h (by decide +kernel)
  | flt h => cases e; exact h
def Stop (p : Prop) : Prop := p
theorem stop_of {p : Prop} (h : Stop p) : p := h
section
local macro_rules | `(tactic| walk_at "call builtin:float.as_integer_ratio") => `(tactic| (k_here; (with_reducible rename Cst _ _ => hcX); (with_reducible rename (_ : Option UInt64) = some (_ : UInt64) => hyX); obtain ⟨a', m', e', hd'⟩ := cst_fin hcX hyX; k_dflt (refine' call_air hd' ?zF ?zN ?_; (case zF => k_asm); (case zN => k_asm)); intro p' k' t1' t2' h' F' N' l1; (try dsimp only); (try k_lt l1); (try k_sweep)))
local macro_rules | `(tactic| walk_at "getMethod float") => `(tactic| (refine getMethod_air ?_; (try dsimp only)))
local macro_rules | `(tactic| walk_at "execs cons") => `(tactic| (k_here; (with_reducible show wpAny _ _ (execs (_ :: Stmt.For _ _ _ _ _ :: _) _) _ _ _); refine stop_of ?_))
local macro_rules | `(tactic| walk_at "call type:float") => `(tactic| (k_here; refine' cst_float ?k0 ?k1 (fun hn' h' tk' e' hN' => ?_) (fun y' tk' tk'' hy' => ?_); (case k0 => assumption); (case k1 => exact rfl); (try dsimp only at hN'); (try dsimp only); (try k_sweep)))
theorem holds_claim {w : World} {mean : ExcName → Option Value} {mg mb : Str → Option Value} {A₀ : Around} {dp un : Nat} {gd : Option (List Code)} {base h₀ : Heap} {cn : Str} {cs : Scope} {L a : Addr} {ccd : Value} {m : Str → Option Value} {s : Shared} {codes : List (Addr × Obj)} {Q E : Value → Shared → Prop} {z₀ : Addr} {codes₀ : List (Addr × Obj)} {ps : Array Value} {mi si : Int} {tm ts : Tok} {cv : Value} {fc : Option UInt64}
    (hc : Cst cv fc) (hm : mi.natAbs < 2 ^ 53) (hsi : 0 ≤ si) (hs2 : si.natAbs < 2 ^ 53) (B : Below A₀ base [] h₀) (F : Fr h₀ L s.heap m) (X : (KZ w.params).In h₀) (N : News h₀ L s.heap ((283, tabObj ps) :: codes)) (T : Top topProg LZ mean mg mb h₀)
    (XB : (KZ w.params).In base) (TB : Top topProg LZ mean mg mb base) (C : CodeHd base 287 283) (ok : TabOk z₀ codes₀ ps codes)
    (hck : cs.kind = .function) (hroom : dp + 8 < recursionLimit)
    (hQ : ∀ (z : Addr) (h' : Heap) (tk : Nat) (ps' : Array Value) (codes' : List (Addr × Obj)), Fr h₀ L h' m → News h₀ L h' ((283, tabObj ps') :: codes') → TabOk z codes ps' codes' → (∀ p ∈ codes, p.1 < z) → Q (.bool true) { s with heap := h', toks := tk })
    (hrw : PySem.Challenge.rw_oz0055_01 = PySem.Challenge.rw_oz0055_01) :
    wpAny (model PySem.Challenge.rw_oz0055_01.prog w) (ktrTop dp un gd cn cs L a ccd [] []) (call (.ref 288) [.int mi tm, .int si ts, cv]) Q E s := by
  have hs := zero_int hsi
  revert X
  k_fill
  intro X
  refine wpAny_call ?_
  refine' enter_cells B F X N T (by rfl) ?k6 ?k7 (Nat.lt_of_le_of_lt (Nat.le_add_right _ _) hroom) ?k9 ?kB ?kN ?_ hck ?c2 ?c3 ?c4
  case k6 => k_is
  case k7 => k_is
  case k9 => first | exact binds_K (by k_in) rfl (by k_is) rfl rfl rfl | exact BindsTo.of_eq rfl
  case kB => exact rfl
  case kN => decide
  case c2 => exact rfl
  case c3 => exact rfl
  case c4 => exact rfl
  intro g' L' h' tk' cells FG' F' N' CA' B' X' T' D' hl'
  have h283 : (283 : Nat) < L' := ltN (hl' _ (.head _))
  have hlc : ∀ p ∈ codes, Prod.fst p < L' := fun p hp => hl' p (.tail _ hp)
  obtain ⟨o1', o2', hE', d1', d2'⟩ := CellsAre.two CA'
  subst hE'
  clear CA' hl'
  replace d1' : o1'.data = .cell none := d1'
  replace d2' : o2'.data = .cell (some cv) := d2'
  dsimp only [List.cons_append, List.nil_append] at N'
  k_steps
  · show wpAny _ _ _ _ _ _
    refine' holds_rest (codes₀ := codes) ?ac1 hm hsi hs2 ?aj1 ?aB1 ?aF1 ?aX1 ?aN1 ?aT1 XB TB ?aD1 C ?aok1 h283 ?axd1 ?axp1 ?ad1 ?ae1 hck hroom ?vm1 ?vs1 ?vp1 ?vq1 ?vr1 ?aq1 rfl
    case aF1 => k_asm
    case ac1 => assumption
    case vp1 => exact rfl
    case vq1 => exact rfl
    case vr1 => exact rfl
    case vm1 => exact rfl
    case vs1 => exact rfl
    case aN1 => exact news_sub (by assumption) (fun q hq => by repeat (first | exact hq | refine List.mem_cons_of_mem _ ?_))
    case aB1 => assumption
    case aX1 => assumption
    case aT1 => assumption
    case aD1 => assumption
    case aok1 => exact ⟨ok.tri, ok.get, ok.ne, fun _ h => h, fun _ h => .inl h⟩
    case axd1 => exact allLt_mem (by assumption)
    case axp1 => assumption
    case ad1 => assumption
    case ae1 => assumption
    case aj1 => exact .inr ⟨rfl, by assumption, rfl, rfl⟩
    case aq1 =>
      intro g₁ h₁ tk₁ m₁ ps' codes' T₁ F₁ N₁ ok₁
      exact leaveS0_ F₁ N₁ (KtsTurn.trans (by assumption) T₁) (fun kF kN => hQ L' _ _ ps' codes' kF kN ok₁ hlc)
  · show wpAny _ _ _ _ _ _
    refine' holds_rest (codes₀ := codes) ?ac2 hm hsi hs2 ?aj2 ?aB2 ?aF2 ?aX2 ?aN2 ?aT2 XB TB ?aD2 C ?aok2 h283 ?axd2 ?axp2 ?ad2 ?ae2 hck hroom ?vm2 ?vs2 ?vp2 ?vq2 ?vr2 ?aq2 rfl
    case aF2 => k_asm
    case ac2 => assumption
    case vp2 => exact rfl
    case vq2 => exact rfl
    case vr2 => exact rfl
    case vm2 => exact rfl
    case vs2 => exact rfl
    case aN2 => exact news_sub (by assumption) (fun q hq => by repeat (first | exact hq | refine List.mem_cons_of_mem _ ?_))
    case aB2 => assumption
    case aX2 => assumption
    case aT2 => assumption
    case aD2 => assumption
    case aok2 => exact ⟨ok.tri, ok.get, ok.ne, fun _ h => h, fun _ h => .inl h⟩
    case axd2 => exact allLt_mem (by assumption)
    case axp2 => assumption
    case ad2 => assumption
    case ae2 => assumption
    case aj2 => exact .inl ⟨rfl, _, by assumption, ratio_is (by assumption)⟩
    case aq2 =>
      intro g₁ h₁ tk₁ m₁ ps' codes' T₁ F₁ N₁ ok₁
      exact leaveS0_ F₁ N₁ T₁ (fun kF kN => hQ L' _ _ ps' codes' kF kN ok₁ hlc)
end
def lawB : List Stmt := match topDef 8 with | some (_, b, _) => b | none => []
def lawS : Scope := match topDef 8 with | some (_, _, c) => c | none => default
def loopB : List Stmt := match lawB with | _ :: _ :: .For _ _ b _ _ :: _ => b | _ => []
local macro_rules | `(tactic| walk_at "call ref") => `(tactic| (k_here; (with_reducible show wpAny _ _ (call (Value.ref 288) _) _ _ _); (with_reducible rename TabOk _ _ _ _ => okX); k_dflt (refine' holds_claim ?k0 ?ka ?kb ?kc ?k1 ?k2 ?k3 ?k4 ?k5 ?xb ?tb ?cc okX ?k6 ?k7 ?_ rfl; (case k0 => assumption); (case ka => assumption); (case kb => assumption); (case kc => assumption); (case k1 => k_asm); (case k2 => k_asm); (case k3 => k_asm); (case k4 => k_asm); (case k5 => k_asm); (case xb => assumption); (case tb => assumption); (case cc => assumption); (case k6 => first | assumption | exact rfl); (case k7 => k_room)); clear okX; intro z' h' k' ps' codes' F' N' ok' hz'; have mo' := TabOk.old ok'; clear hz'; (try dsimp only); (try k_sweep)))
theorem lawT3 {w : World} {mean : ExcName → Option Value} {mg mb : Str → Option Value} {A₀ : Around} {dp un : Nat} {gd : Option (List Code)} {h₀ : Heap} {L a : Addr} {ccd : Value} {s : Shared} {Q : Flow → Shared → Prop} {m : Str → Option Value} {ps : Array Value} {codes codes₀ : List (Addr × Obj)} {z : Addr}
    {mi si ah : Int} {tm ts ta : Tok} {cv : Value} {fa fc : Option UInt64}
    (hca : Cst (.int ah ta) fa) (hcc : Cst cv fc) (hm : mi.natAbs < 2 ^ 53) (hs : 0 ≤ si) (hs2 : si.natAbs < 2 ^ 53)
    (B : Below A₀ h₀ [] h₀) (F : Fr h₀ L s.heap m) (X : (KZ w.params).In h₀) (N : News h₀ L s.heap ((283, tabObj ps) :: codes)) (T : Top topProg LZ mean mg mb h₀)
    (C : CodeHd h₀ 287 283) (ok : TabOk z codes₀ ps codes) (hroom : dp + 9 < recursionLimit)
    (vm : m (Str.ofString "m") = some (.int mi tm)) (vs : m (Str.ofString "s") = some (.int si ts)) (va : m (Str.ofString "ahead") = some (.int ah ta)) (vc : m (Str.ofString "c") = some cv)
    (hQ : ∀ (z' : Addr) (h' : Heap) (tk : Nat) (ps' : Array Value) (codes' codes₁ : List (Addr × Obj)), Fr h₀ L h' m → News h₀ L h' ((283, tabObj ps') :: codes') → TabOk z' codes₁ ps' codes' → (∀ p ∈ codes, p ∈ codes') → Q .next { s with heap := h', toks := tk })
    (hrw : PySem.Challenge.rw_oz0055_01 = PySem.Challenge.rw_oz0055_01) :
    wpAny (model PySem.Challenge.rw_oz0055_01.prog w) (ktrTop dp un gd (Str.ofString "law") lawS L a ccd [] []) (execs (loopB.drop 5) (envX (Str.ofString "law") lawS L a ccd [])) Q (fun _ _ => False) s := by
  revert X
  k_fill
  intro X
  have hroom2 : dp + 8 < recursionLimit := by omega
  simp only [show loopB.drop 5 = [_] from rfl, show lawS = ⟨_, _, _, _, _⟩ from rfl]
  k_steps
  · show Q Flow.next _
    rename_i mo₁ _ _ _ _ _ _ _ ok₂ mo₂
    exact hQ _ _ _ _ _ _ (by k_asm) (by k_asm) ok₂ fun p hp => mo₂ p (mo₁ p hp)
abbrev bot (dp un : Nat) (gd : Option (List Code)) : Around := { handled := none, depth := dp, frames := some [], guards := gd, units := un }
theorem frac_fin {neg : Bool} {n d : Nat} (h : ¬ Float64.isInf (Float64.ofFrac neg n d) = true) : ∃ a m e, Float64.decode (Float64.ofFrac neg n d) = .fin a m e := by
  unfold Float64.ofFrac at h ⊢
  have hle : Float64.roundMag n d ≤ Float64.infMag := by rw [Float64.roundMag_min]; omega
  rcases Nat.lt_or_ge (Float64.roundMag n d) Float64.infMag with hlt | hge
  · obtain ⟨m, e, r, _⟩ := Float64.decode_pack neg hlt
    exact ⟨_, m, e, r⟩
  · rw [show Float64.roundMag n d = Float64.infMag by omega] at h
    exfalso
    cases neg <;> exact h (by decide +kernel)
def Stop2 (p : Prop) : Prop := p
theorem stop_of2 {p : Prop} (h : Stop2 p) : p := h
theorem cst_int (n : Int) (t : Tok) : ∃ f, Cst (.int n t) f := by
  by_cases h : Float64.isInf (Float64.ofInt n) = true
  · exact ⟨_, .big h⟩
  · exact ⟨_, .int h⟩
theorem fr_back {h₀ g h : Heap} {L : Addr} {m : Str → Option Value} (T : KtsTurn (([] : List Env).filterMap (·.frame)) h₀ g) (F : Fr g L h m) : Fr h₀ L h m :=
  ⟨F.ns, fun b o e => F.keep b o (T.other b o e (fun q => nomatch q)), by rw [← T.size]; exact F.above⟩
theorem news_back {h₀ g h : Heap} {L : Addr} {news : List (Addr × Obj)} (T : KtsTurn (([] : List Env).filterMap (·.frame)) h₀ g) (N : News g L h news) : News h₀ L h news := fun q hq =>
  ⟨(N q hq).1, (N q hq).2.1, by
    cases e : h₀.get? q.1 with
    | none => rfl
    | some o =>
      have := T.other _ _ e (fun q => nomatch q)
      rw [(N q hq).2.2] at this
      cases this⟩
section
local macro_rules | `(tactic| walk_at "execs cons") => `(tactic| (k_here; (with_reducible show wpAny _ _ (execs (Stmt.If _ _ _ _ :: _) _) _ _ _); refine stop_of2 ?_))
theorem lawT2 {w : World} {mean : ExcName → Option Value} {mg mb : Str → Option Value} {dp un : Nat} {gd : Option (List Code)} {h₀ : Heap} {L a : Addr} {ccd : Value} {s : Shared} {Q : Flow → Shared → Prop} {m : Str → Option Value} {ps : Array Value} {codes codes₀ : List (Addr × Obj)} {z : Addr}
    {mi si ah af : Int} {tm ts ta tf : Tok} {r : Value}
    (hm : mi.natAbs < 2 ^ 53) (hs : 0 ≤ si) (hs2 : si.natAbs < 2 ^ 53)
    (B : Below (bot dp un gd) h₀ [] h₀) (F : Fr h₀ L s.heap m) (X : (KZ w.params).In h₀) (N : News h₀ L s.heap ((283, tabObj ps) :: codes)) (T : Top topProg LZ mean mg mb h₀) (D : KtsDicts (([] : List Env).filterMap (·.frame)) h₀)
    (C : CodeHd h₀ 287 283) (ok : TabOk z codes₀ ps codes) (hroom : dp + 10 < recursionLimit)
    (vm : m (Str.ofString "m") = some (.int mi tm)) (vs : m (Str.ofString "s") = some (.int si ts)) (va : m (Str.ofString "ahead") = some (.int ah ta)) (vf : m (Str.ofString "after") = some (.int af tf)) (vr : m (Str.ofString "row") = some r)
    (hQ : ∀ (z' : Addr) (h' : Heap) (tk : Nat) (ps' : Array Value) (codes' codes₁ : List (Addr × Obj)) (m' : Str → Option Value), m' (Str.ofString "row") = some r → Fr h₀ L h' m' → News h₀ L h' ((283, tabObj ps') :: codes') → TabOk z' codes₁ ps' codes' → (∀ p ∈ codes, p ∈ codes') → Q .next { s with heap := h', toks := tk })
    (hrw : PySem.Challenge.rw_oz0055_01 = PySem.Challenge.rw_oz0055_01) :
    wpAny (model PySem.Challenge.rw_oz0055_01.prog w) ((bot dp un gd).deeper (envX (Str.ofString "law") lawS L a ccd [])) (execs (loopB.drop 4) (envX (Str.ofString "law") lawS L a ccd [])) Q (fun _ _ => False) s := by
  revert X
  k_fill
  intro X
  simp only [show loopB.drop 4 = [_, _] from rfl, show lawS = ⟨_, _, _, _, _⟩ from rfl]
  have XB := X
  have TB := T
  k_steps
  · obtain ⟨fa, ca⟩ := cst_int ah ta
    refine' lawT3 ca ?cc1 hm hs hs2 B ?F1 XB ?N1 TB C ok ?R1 ?m1 ?s1 ?a1 ?c1 ?q1 rfl
    case F1 => exact fr_back (by assumption) (by k_asm)
    case N1 => exact news_back (by assumption) (by k_asm)
    case R1 => omega
    case m1 => exact vm
    case s1 => exact vs
    case a1 => exact va
    case c1 => exact rfl
    case cc1 => exact .flt ⟨false, 4503599627370496, -53, by kernel_rfl⟩
    case q1 => exact fun z' h' tk ps' codes' codes₁ F' N' ok' sb => hQ z' h' tk ps' codes' codes₁ _ (by exact vr) F' N' ok' sb
  · obtain ⟨fa, ca⟩ := cst_int ah ta
    refine' lawT3 ca ?cc2 hm hs hs2 B ?F2 XB ?N2 TB C ok ?R2 ?m2 ?s2 ?a2 ?c2 ?q2 rfl
    case F2 => k_asm
    case N2 => k_asm
    case R2 => omega
    case m2 => exact vm
    case s2 => exact vs
    case a2 => exact va
    case c2 => exact rfl
    case cc2 => exact .flt (frac_fin (by assumption))
    case q2 => exact fun z' h' tk ps' codes' codes₁ F' N' ok' sb => hQ z' h' tk ps' codes' codes₁ _ (by exact vr) F' N' ok' sb
end
theorem row_small {x : Int} (h : (if x < 0 then -x else x) < 2 ^ Int.toNat 53) : x.natAbs < 2 ^ 53 := by
  rw [show (2 : Int) ^ Int.toNat 53 = 9007199254740992 from rfl] at h
  split at h <;> omega
theorem row_small2 {x : Int} (h : (if x < 0 then -x else x) < 2 ^ Int.toNat 53) : (if x < 0 then -x else x).natAbs < 2 ^ 53 := by
  rw [show (2 : Int) ^ Int.toNat 53 = 9007199254740992 from rfl] at h
  split at h <;> omega
theorem row_plus (x : Int) : 0 ≤ (if x < 0 then -x else x) := by split <;> omega
theorem row_mod0 (x : Int) : 0 ≤ x.fmod (2 ^ Int.toNat 53) := Int.fmod_nonneg_of_pos _ (by decide)
theorem row_mod (x : Int) : (x.fmod (2 ^ Int.toNat 53)).natAbs < 2 ^ 53 := by
  have a := row_mod0 x
  have b : x.fmod (2 ^ Int.toNat 53) < 2 ^ Int.toNat 53 := Int.fmod_lt_of_pos _ (by decide)
  rw [show (2 : Int) ^ Int.toNat 53 = 9007199254740992 from rfl] at a b ⊢
  omega
theorem news_at {h₀ h : Heap} {L : Addr} {news : List (Addr × Obj)} {b : Addr} {o : Obj} {p : Addr × Obj} (N : News h₀ L h (p :: news)) (hm : (b, o) ∈ news) : h.get? b = some o := (N (b, o) (.tail _ hm)).1
section
local macro_rules | `(tactic| walk_at "eval Name") => `(tactic| (k_here; k_dflt (refine' nameX_L ?k1 ?k2 ?_ ?a ?b ?c; (case a => rfl); (case b => rfl); (case c => decide); (case k1 => k_asm); (case k2 => first | exact rfl | assumption))))
local macro_rules | `(tactic| walk_at "execs cons") => `(tactic| (k_here; (with_reducible show wpAny _ _ (execs (Stmt.Try _ _ _ _ _ :: _) _) _ _ _); refine stop_of2 ?_))
local macro_rules | `(tactic| walk_at "subscriptTail") => `(tactic| (k_here; (with_reducible show wpAny _ _ (subscriptTail _ _ (Value.ref _) (Value.int _ _)) _ _ _); (with_unfolding_all refine' row_sub (PySem.IsL.isList (n := 0) (news_at ?kN ?kM)) ?k2 ?k3 ?k4 ?k5 ?_ ?k6; (case kN => k_asm); (case kM => assumption); (case k2 => assumption); (case k3 => first | omega | assumption); (case k4 => first | omega | assumption); (case k5 => assumption); (case k6 => with_unfolding_all rfl); k_whole); intro _))
local macro_rules | `(tactic| walk_at "call builtin:len") => `(tactic| (k_here; (with_reducible show wpAny _ _ (call (Value.builtin "len") [Value.ref _]) _ _ _); k_dflt (refine' row_len (PySem.IsL.isList (n := 0) (news_at ?kN ?kM)) ?k2 ?k5 ?_; (case kN => k_asm); (case kM => assumption); (case k2 => assumption); (case k5 => assumption)); (try dsimp only)))
theorem lawT1 {w : World} {mean : ExcName → Option Value} {mg mb : Str → Option Value} {dp un : Nat} {gd : Option (List Code)} {h₀ : Heap} {L a : Addr} {ccd : Value} {s : Shared} {Q : Flow → Shared → Prop} {m : Str → Option Value} {ps : Array Value} {codes codes₀ : List (Addr × Obj)} {z : Addr}
    {vals : List Value} {ns : List Int} {k : Nat} {tk₀ : Tok} {r : Addr}
    (hi : IntsAre vals ns) (hk : k < ns.length) (hn : ns.length ≤ 13) (hr : (r, W.listOf vals.toArray 0) ∈ codes)
    (B : Below (bot dp un gd) h₀ [] h₀) (F : Fr h₀ L s.heap m) (X : (KZ w.params).In h₀) (N : News h₀ L s.heap ((283, tabObj ps) :: codes)) (T : Top topProg LZ mean mg mb h₀) (D : KtsDicts (([] : List Env).filterMap (·.frame)) h₀)
    (C : CodeHd h₀ 287 283) (ok : TabOk z codes₀ ps codes) (hroom : dp + 10 < recursionLimit)
    (vi : m (Str.ofString "i") = some (.int k tk₀)) (vr : m (Str.ofString "row") = some (.ref r))
    (hQ : ∀ (z' : Addr) (h' : Heap) (tk : Nat) (ps' : Array Value) (codes' codes₁ : List (Addr × Obj)) (m' : Str → Option Value), m' (Str.ofString "row") = some (.ref r) → Fr h₀ L h' m' → News h₀ L h' ((283, tabObj ps') :: codes') → TabOk z' codes₁ ps' codes' → (∀ p ∈ codes, p ∈ codes') → Q .next { s with heap := h', toks := tk })
    (hrw : PySem.Challenge.rw_oz0055_01 = PySem.Challenge.rw_oz0055_01) :
    wpAny (model PySem.Challenge.rw_oz0055_01.prog w) ((bot dp un gd).deeper (envX (Str.ofString "law") lawS L a ccd [])) (execs loopB (envX (Str.ofString "law") lawS L a ccd [])) Q (fun _ _ => False) s := by
  revert X
  k_fill
  intro X
  simp only [show loopB = [_, _, _, _, _, _] from rfl, show lawS = ⟨_, _, _, _, _⟩ from rfl]
  have XB := X
  have TB := T
  have hm0 : 0 ≤ ((k : Int) + 1).fmod (ns.length : Int) := Int.fmod_nonneg_of_pos _ (by omega)
  have hm1 : ((k : Int) + 1).fmod (ns.length : Int) < ns.length := Int.fmod_lt_of_pos _ (by omega)
  have hle := hi.length
  k_steps
  all_goals (
    refine' lawT2 ?hm ?hs ?hs2 B ?F XB ?N TB ?D C ok hroom ?vm ?vs ?va ?vf ?vr ?q rfl
    case F => k_asm
    case N => k_asm
    case D => assumption
    case vm => exact rfl
    case vs => exact rfl
    case va => exact rfl
    case vf => exact rfl
    case vr => exact vr
    case hm => first | exact row_small (by assumption) | exact row_mod _
    case hs2 => first | exact row_small2 (by assumption) | exact row_mod _
    case hs => first | exact row_plus _ | exact row_mod0 _
    case q => exact fun z' h' tk ps' codes' codes₁ m' v' F' N' ok' sb => hQ z' h' tk ps' codes' codes₁ m' v' F' N' ok' sb)
def lawFor : Stmt := match lawB with | _ :: _ :: f :: _ => f | _ => default
theorem tab_iter {z : Addr} {codes₀ codes : List (Addr × Obj)} {ps : Array Value} {h₀ h : Heap} {L it : Addr} {oi : Obj} {n0 n1 n2 : Value} (ok : TabOk z codes₀ ps codes) (N : News h₀ L h codes) (hi : (it, oi) ∈ codes) (hd : oi.data = .fields #[n0, n1, n2]) (hn : ∀ t, n1 ≠ .str qlam t) :
    TabOk z (codes.filter fun p => p.1 ≠ it) ps (codes.filter fun p => p.1 ≠ it) :=
  ⟨ok.tri, fun pos v hv => by
    obtain ⟨c', rfl, oc, vs, t, k1, k2, k3⟩ := ok.get pos v hv
    refine ⟨c', rfl, oc, vs, t, List.mem_filter.mpr ⟨k1, ?_⟩, k2, k3⟩
    refine decide_eq_true fun (q : c' = it) => ?_
    subst q
    have a := (N _ hi).1
    have b := (N _ k1).1
    dsimp only at a b
    rw [a] at b
    cases b
    rw [hd] at k2
    cases k2
    exact hn t (Option.some.inj k3),
  fun p hp => ok.ne p (List.mem_filter.mp hp).1, fun _ q => q, fun _ q => .inl q⟩
theorem tab_more {z : Addr} {codes₀ codes : List (Addr × Obj)} {ps : Array Value} {p : Addr × Obj} (ok : TabOk z codes₀ ps codes) (hp : p.1 ≠ 283) : TabOk z (p :: codes) ps (p :: codes) :=
  ⟨ok.tri, fun pos v hv => by
    obtain ⟨c', rfl, oc, vs, t, k1, k2, k3⟩ := ok.get pos v hv
    exact ⟨c', rfl, oc, vs, t, .tail _ k1, k2, k3⟩,
  fun q hq => by
    rcases List.mem_cons.mp hq with rfl | hq
    · exact hp
    · exact ok.ne q hq, fun _ q => q, fun _ q => .inl q⟩
def lawIt : Expr := match lawFor with | .For _ e _ _ _ => e | _ => default
theorem law_range {w : World} {mean : ExcName → Option Value} {mg mb : Str → Option Value} {dp un : Nat} {gd : Option (List Code)} {h₀ : Heap} {L a : Addr} {ccd : Value} {s : Shared} {m : Str → Option Value} {ps : Array Value} {codes codes₀ : List (Addr × Obj)} {z : Addr}
    {vals : List Value} {ns : List Int} {r : Addr} {Q : Value → Shared → Prop}
    (hi : IntsAre vals ns) (hn : ns.length ≤ 13) (hr : (r, W.listOf vals.toArray 0) ∈ codes)
    (B : Below (bot dp un gd) h₀ [] h₀) (F : Fr h₀ L s.heap m) (X : (KZ w.params).In h₀) (N : News h₀ L s.heap ((283, tabObj ps) :: codes)) (T : Top topProg LZ mean mg mb h₀) (D : KtsDicts (([] : List Env).filterMap (·.frame)) h₀)
    (C : CodeHd h₀ 287 283) (ok : TabOk z codes₀ ps codes) (hroom : dp + 10 < recursionLimit)
    (vr : m (Str.ofString "row") = some (.ref r))
    (hQ : ∀ rr t u v h' tk, IsRange h' rr 0 ns.length 1 t u v → Fr h₀ L h' m → News h₀ L h' ((283, tabObj ps) :: codes) → Q (.ref rr) { s with heap := h', toks := tk })
    (hrw : PySem.Challenge.rw_oz0055_01 = PySem.Challenge.rw_oz0055_01) :
    wpAny (model PySem.Challenge.rw_oz0055_01.prog w) ((bot dp un gd).deeper (envX (Str.ofString "law") lawS L a ccd [])) (eval lawIt (envX (Str.ofString "law") lawS L a ccd [])) Q (fun _ _ => False) s := by
  revert X
  k_fill
  intro X
  simp only [show lawIt = Expr.Call _ _ _ _ from rfl, show lawS = ⟨_, _, _, _, _⟩ from rfl]
  k_steps
  exact hQ _ _ _ _ _ _ (by assumption) (by assumption) (by assumption)
theorem law_turn {w : World} {mean : ExcName → Option Value} {mg mb : Str → Option Value} {dp un : Nat} {gd : Option (List Code)} {h₀ : Heap} {L a : Addr} {ccd : Value} {s : Shared} {m : Str → Option Value} {ps : Array Value} {codes codes₀ : List (Addr × Obj)} {z : Addr}
    {vals : List Value} {ns : List Int} {r : Addr} {k : Nat} {tk₀ : Tok} {Q : Flow → Shared → Prop} (hk : k < ns.length)
    (hi : IntsAre vals ns) (hn : ns.length ≤ 13) (hr : (r, W.listOf vals.toArray 0) ∈ codes)
    (B : Below (bot dp un gd) h₀ [] h₀) (F : Fr h₀ L s.heap m) (X : (KZ w.params).In h₀) (N : News h₀ L s.heap ((283, tabObj ps) :: codes)) (T : Top topProg LZ mean mg mb h₀) (D : KtsDicts (([] : List Env).filterMap (·.frame)) h₀)
    (C : CodeHd h₀ 287 283) (ok : TabOk z codes₀ ps codes) (hroom : dp + 10 < recursionLimit)
    (vr : m (Str.ofString "row") = some (.ref r))
    (hQ : ∀ (z' : Addr) (h' : Heap) (tk : Nat) (ps' : Array Value) (codes' codes₁ : List (Addr × Obj)) (m' : Str → Option Value), m' (Str.ofString "row") = some (.ref r) → Fr h₀ L h' m' → News h₀ L h' ((283, tabObj ps') :: codes') → TabOk z' codes₁ ps' codes' → (∀ p ∈ codes, p ∈ codes') → Q .next { s with heap := h', toks := tk })
    (hrw : PySem.Challenge.rw_oz0055_01 = PySem.Challenge.rw_oz0055_01) :
    wpAny (model PySem.Challenge.rw_oz0055_01.prog w) ((bot dp un gd).deeper (envX (Str.ofString "law") lawS L a ccd [])) (assign (.Name (Str.ofString "i") ⟨147, 8, 147, 9⟩) (envX (Str.ofString "law") lawS L a ccd []) (.int k tk₀)) (fun _ s₂ => wpAny (model PySem.Challenge.rw_oz0055_01.prog w) ((bot dp un gd).deeper (envX (Str.ofString "law") lawS L a ccd [])) (execs loopB (envX (Str.ofString "law") lawS L a ccd [])) Q (fun _ _ => False) s₂) (fun _ _ => False) s := by
  revert X
  k_fill
  intro X
  simp only [show lawS = ⟨_, _, _, _, _⟩ from rfl]
  generalize hb : loopB = B'
  walk1
  walk1
  subst hb
  refine' lawT1 hi hk hn hr B ?F X ?N T ?D C ok hroom ?vi ?vr ?q rfl
  case F => k_asm
  case N => k_asm
  case D => assumption
  case vi => exact rfl
  case vr => exact vr
  case q => exact fun z' h' tk ps' codes' codes₁ m' v' F' N' ok' sb => hQ z' h' tk ps' codes' codes₁ m' v' F' N' ok' sb
def itObj (x left : Int) : Obj := { cls := .type "range_iterator", data := .fields #[rawInt x, rawInt left, rawInt 1] }
theorem law_loop {w : World} {mean : ExcName → Option Value} {mg mb : Str → Option Value} {dp un : Nat} {gd : Option (List Code)} {h₀ : Heap} {L a : Addr} {ccd : Value} {s : Shared} {m : Str → Option Value} {ps : Array Value} {codes codes₀ : List (Addr × Obj)} {z : Addr}
    {vals : List Value} {ns : List Int} {r : Addr} {Q : Flow → Shared → Prop}
    (hi : IntsAre vals ns) (hn : ns.length ≤ 13) (hr : (r, W.listOf vals.toArray 0) ∈ codes)
    (B : Below (bot dp un gd) h₀ [] h₀) (F : Fr h₀ L s.heap m) (X : (KZ w.params).In h₀) (N : News h₀ L s.heap ((283, tabObj ps) :: codes)) (T : Top topProg LZ mean mg mb h₀) (D : KtsDicts (([] : List Env).filterMap (·.frame)) h₀)
    (C : CodeHd h₀ 287 283) (ok : TabOk z codes₀ ps codes) (hroom : dp + 10 < recursionLimit)
    (vr : m (Str.ofString "row") = some (.ref r))
    (hQ : ∀ (h' : Heap) (tk : Nat) (m' : Str → Option Value), Fr h₀ L h' m' → GrownAt 283 h' → Q .next { s with heap := h', toks := tk })
    (hrw : PySem.Challenge.rw_oz0055_01 = PySem.Challenge.rw_oz0055_01) :
    wpAny (model PySem.Challenge.rw_oz0055_01.prog w) ((bot dp un gd).deeper (envX (Str.ofString "law") lawS L a ccd [])) (exec lawFor (envX (Str.ofString "law") lawS L a ccd [])) Q (fun _ _ => False) s := by
  show wpAny _ _ (exec (.For (.Name (Str.ofString "i") _) lawIt loopB [] _) _) _ _ _
  have h283 : h₀.get? 283 = none := (N _ (.head _)).2.2
  let J : Nat → Addr → Shared → Prop := fun i it s' => ∃ (ps : Array Value) (codes codes₀ : List (Addr × Obj)) (z : Addr) (h : Heap) (tk : Nat) (m₁ : Str → Option Value) (oi : Obj), s' = { s with heap := h, toks := tk } ∧ Fr h₀ L h m₁ ∧ News h₀ L h ((283, tabObj ps) :: (it, oi) :: codes) ∧
    TabOk z codes₀ ps codes ∧ m₁ (Str.ofString "row") = some (.ref r) ∧ (r, W.listOf vals.toArray 0) ∈ codes ∧ (∀ p ∈ codes, p.1 ≠ it) ∧ it ≠ 283 ∧ IsRangeIter h it (0 + (i : Nat) * 1) ((ns.length : Int) - (i : Nat)) 1 ∧ i ≤ ns.length
  have moved : ∀ {h h₁ : Heap} {m₁ : Str → Option Value} {it : Addr} {oi : Obj} {ps : Array Value} {codes : List (Addr × Obj)}, Fr h₀ L h m₁ → News h₀ L h ((283, tabObj ps) :: (it, oi) :: codes) → (∀ q ∈ codes, q.1 ≠ it) → it ≠ 283 → Heap.ExtBut it h h₁ → Fr h₀ L h₁ m₁ ∧ News h₀ L h₁ ((283, tabObj ps) :: codes) := by
    intro h h₁ m₁ it oi ps codes F₁ N₁ hne ne hx
    have hI := N₁ _ (.tail _ (.head _))
    refine ⟨⟨F₁.ns.at' fun o e => hx _ o (Ne.symm hI.2.1) e, fun b o e => hx b o (fun q => by rw [q, hI.2.2] at e; cases e) (F₁.keep b o e), F₁.above⟩, fun q hq => ?_⟩
    rcases List.mem_cons.mp hq with rfl | hq
    · have n1 := N₁ _ (.head _)
      exact ⟨hx _ _ (Ne.symm ne) n1.1, n1.2⟩
    · have n1 := N₁ q (.tail _ (.tail _ hq))
      exact ⟨hx _ _ (hne q hq) n1.1, n1.2⟩
  refine range_moving (a₀ := 0) (b₀ := ns.length) (n := ns.length) rfl J ?hit ?turn ?done (by intro x; rfl) (by intro _ _; rfl) ?h
  case hit =>
    rintro i it s' ⟨ps, codes, codes₀, z, h, tk, m₁, oi, rfl, F₁, N₁, ok₁, v₁, r₁, c₁, ne, I, hle⟩
    exact ⟨I, hle⟩
  case turn =>
    rintro i it t s' h₁ tk₁ ⟨ps, codes, codes₀, z, h, tk, m₁, oi, rfl, F₁, N₁, ok₁, v₁, r₁, c₁, ne, I, hle⟩ hlt I₁ hx
    obtain ⟨F₂, N₂⟩ := moved F₁ N₁ c₁ ne hx
    have hI := N₁ _ (.tail _ (.head _))
    rw [show (0 : Int) + (i : Nat) * 1 = (i : Nat) by omega]
    refine law_turn (s := { s with heap := h₁, toks := tk₁ }) (codes := (it, itObj (0 + ((i + 1 : Nat) : Int) * 1) ((ns.length : Int) - ((i + 1 : Nat) : Int))) :: codes) hlt hi hn (.tail _ r₁) B F₂ X ?N T D C (tab_more ok₁ ne) hroom v₁ (fun z' h' tk ps' codes' codes₁ m' v' F' N' ok' sb => ?_) rfl
    case N =>
      intro q hq
      rcases List.mem_cons.mp hq with rfl | hq
      · exact N₂ _ (.head _)
      · rcases List.mem_cons.mp hq with rfl | hq
        · exact ⟨I₁, hI.2⟩
        · exact N₂ q (.tail _ hq)
    · have key : J (i + 1) it { s with heap := h', toks := tk } := by
        have hm := sb _ (.head _)
        refine ⟨ps', codes'.filter (fun p => p.1 ≠ it), _, _, h', tk, m', itObj (0 + ((i + 1 : Nat) : Int) * 1) ((ns.length : Int) - ((i + 1 : Nat) : Int)), rfl, F', fun q hq => ?_, tab_iter ok' (fun q hq => N' q (.tail _ hq)) hm rfl (by intro t q; cases q), v', List.mem_filter.mpr ⟨sb _ (.tail _ r₁), decide_eq_true (c₁ _ r₁)⟩, fun p hp => of_decide_eq_true (List.mem_filter.mp hp).2, ne, (N' _ (.tail _ hm)).1, hlt⟩
        rcases List.mem_cons.mp hq with rfl | hq
        · exact N' _ (.head _)
        · rcases List.mem_cons.mp hq with rfl | hq
          · exact N' _ (.tail _ hm)
          · exact N' _ (.tail _ (List.mem_filter.mp hq).1)
      exact key
  case done =>
    rintro it s' h₁ tk₁ ⟨ps, codes, codes₀, z, h, tk, m₁, oi, rfl, F₁, N₁, ok₁, v₁, r₁, c₁, ne, I, hle⟩ hx
    have k := moved F₁ N₁ c₁ ne hx
    exact hQ _ _ _ k.1 ⟨_, (k.2 _ (.head _)).1⟩
  case h =>
    refine law_range hi hn hr B F X N T D C ok hroom vr (fun rr t u v h' tk R F' N' => ?_) rfl
    refine ⟨rr, t, u, v, rfl, R, ?_, ?_, ps, codes, codes₀, z, _, tk, m, itObj 0 ns.length, rfl, F'.push _, fun q hq => ?_, ok, vr, hr, fun p hp => Nat.ne_of_lt (Heap.lt_size (N' p (.tail _ hp)).1), Nat.ne_of_gt (Heap.lt_size (N' _ (.head _)).1), ?_, Nat.zero_le _⟩
    · exact small_one (by omega) (by omega) (by omega) (by omega)
    · rw [rangeSize_one]; split <;> omega
    · rcases List.mem_cons.mp hq with rfl | hq
      · exact ⟨Heap.get?_push_of_some _ (N' _ (.head _)).1, (N' _ (.head _)).2⟩
      · rcases List.mem_cons.mp hq with rfl | hq
        · exact ⟨Heap.get?_push_size _ rfl, Nat.ne_of_gt F'.ns.lt, next_is_new F'⟩
        · exact ⟨Heap.get?_push_of_some _ (N' q (.tail _ hq)).1, (N' q (.tail _ hq)).2⟩
    · show Heap.get? _ _ = _
      have := Heap.get?_push_size h' (o := { cls := .type "range_iterator", data := .fields #[rawInt 0, rawInt ns.length, rawInt 1] }) rfl
      simpa using this
end
theorem any_exc {α : Type} {M : Model} {A : Around} {x : Sem α} {Q : α → Shared → Prop} {E : Value → Shared → Prop} {s : Shared} (h : wpAny M A x Q (fun _ _ => False) s) : wpAny M A x Q E s := wpAny_mono h (fun _ _ e => e) fun _ _ e => e.elim
theorem tab_start {p : Addr × Obj} (h : p.1 ≠ 283) : TabOk 0 [p] #[] [p] :=
  ⟨True.intro, fun pos v hv => (nomatch hv), fun q hq => (List.mem_singleton.mp hq).symm ▸ h, fun _ h => h, fun _ h => Or.inl h⟩
theorem law_claim {w : World} {mean : ExcName → Option Value} {mg mb : Str → Option Value} {dp un : Nat} {gd : Option (List Code)} {h₀ : Heap} {L a l : Addr} {ccd : Value} {s : Shared} {Q : Flow → Shared → Prop} {E : Value → Shared → Prop} {vs : List Value} {ns : List Int}
    (B : Below (bot dp un gd) h₀ [] h₀) (F : Fr h₀ L s.heap (fun x => List.lookup x [(Str.ofString "script", .ref l)])) (X : (KZ w.params).In h₀) (N : News h₀ L s.heap [(283, tabObj #[])]) (T : Top topProg LZ mean mg mb h₀)
    (C : CodeHd h₀ 287 283) (hl : h₀.IsList l vs.toArray) (hI : IntsAre vs ns) (h283 : (283 : Nat) < L) (hn : ¬ (63 : Int) < (ns.length : Int)) (hroom : dp + 10 < recursionLimit)
    (hQ : ∀ (h' : Heap) (tk : Nat) (m' : Str → Option Value), Fr h₀ L h' m' → GrownAt 283 h' → Q (.ret (.bool true)) { s with heap := h', toks := tk })
    (hrw : PySem.Challenge.rw_oz0055_01 = PySem.Challenge.rw_oz0055_01) :
    wpAny (model PySem.Challenge.rw_oz0055_01.prog w) ((bot dp un gd).deeper (envOf (Str.ofString "law") lawS L a ccd)) (execs lawB (envOf (Str.ofString "law") lawS L a ccd)) Q E s := by
  revert X
  k_fill
  intro X
  have XB := X
  have TB := T
  have DB : KtsDicts (([] : List Env).filterMap (·.frame)) h₀ := fun b hb => nomatch hb
  simp only [show lawB = [_, _, _, _] from rfl, show lawS = ⟨_, _, _, _, _⟩ from rfl]
  iterate 22 (first | (k_unfold; (try dsimp only)) | walk1 | (dsimp only; walk1))
  rename_i l1 h9 F9 N9
  replace l1 := ltN l1.2.2
  refine wpAny_execs_cons (any_exc ?_)
  refine' law_loop (by assumption) ?len (.head _) B F9 XB ?N TB DB C (tab_start (Nat.ne_of_gt l1)) hroom rfl ?q rfl
  case N =>
    intro q hq
    rcases List.mem_cons.mp hq with rfl | hq
    · exact N9 _ (by k_mem)
    · rcases List.mem_cons.mp hq with rfl | hq
      · exact N9 _ (.head _)
      · exact nomatch hq
  case len => simp only [List.length_append, List.length_take, List.length_singleton]; omega
  case q =>
    intro h' tk m' F' G'
    dsimp only
    k_steps
    exact hQ h' tk m' F' G'
end Mine
end
open PySem PySem.W PyProof.Rows
namespace Mine
/-- the whole look: pin the run by the library's quick twins -/
theorem left_ofQ {p q : Program} {loose : List Str} {Xt : Shared → Bool} {α : Type} {Yf : Shared → α} {Ya : World → α} {N : Nat} {g0 : Bool}
    (h : ∀ w, (wholeQ p w N).map (fun s => (PySem.W.Fast.tw4187177175401517315 q loose (PySem.W.Fast.tw5923862056798008813 p.main.body) Xt g0 s, Yf s)) = some (openGood q loose, Ya w)) : LeftO p q loose Xt Yf Ya N g0 :=
  left_of fun w => by
    rw [wholeQ_eq]
    have e := h w
    rw [← PySem.W.Fast.te4187177175401517315, ← PySem.W.Fast.te5923862056798008813] at e
    exact e
/-- the head's run, in a world of one row's word -/
abbrev HeadP (w : World) : Prop := Option.map (fun s => (PySem.W.Fast.tw4187177175401517315 qz [PySem.Str.ofString "NormalDist"] (PySem.W.Fast.tw5923862056798008813 PySem.Challenge.rw_oz0055_01.row.prog.main.body) (fun s => xlAt qz [] s && recOk PySem.Challenge.rw_oz0055_01.row.records s) true s, HZ.obs s)) (wholeQ PySem.Challenge.rw_oz0055_01.row.prog w 4012) = some (openGood qz [PySem.Str.ofString "NormalDist"], HZ.val w)
theorem head_f (w : World) : HeadP (w.withFollow "special-get-raises" false) := by kernel_rfl
theorem head_t (w : World) : HeadP (w.withFollow "special-get-raises" true) := by kernel_rfl
theorem head_all (w : World) : HeadP w := byRow2 "special-get-raises" (P := HeadP) head_f head_t w
end Mine
theorem PySem.Challenge.cw_oz0055_01_holds : PySem.Challenge.rw_oz0055_01.Holds := by
  w_on; o_law
  refine holds_open (q := Mine.qz) (loose := [PySem.Str.ofString "NormalDist"]) (Xt := fun s => xlAt Mine.qz [] s && recOk (RowW.records (OpenRow.toRowW (OpenLaw.row PySem.Challenge.rw_oz0055_01))) s) (XP := XL Mine.qz []) (Yf := Hook.obs Mine.HZ) (Ya := Hook.val Mine.HZ) (YP := Hook.says Mine.HZ) (N := 4012) ?hl (Hook.of Mine.HZ) (Hook.keeps Mine.HZ) (fun s e => xl_of s (Bool.and_eq_true_iff.mp e).1) XL.keeps (by rfl) (by rfl) (by rfl) (fun s e => recFacts_of (Bool.and_eq_true_iff.mp e).2) (by first | rfl | fail "open_line: no head takes a call that writes beside a table") (by first | assumption | decide +kernel) (by decide +kernel) ⟨rfl, rfl, rfl, rfl, rfl, by decide +kernel⟩ ?hw ?hc
  case hl => exact Mine.left_ofQ Mine.head_all
  case hw => w_witness2
  case hc =>
    delta Mine.HZ
    k_go0
    rename_i h₁ X' T' K' F' N' l0
    refine Mine.law_claim (mean := _) (dp := 1 + claimMargin) (un := 4) (gd := some []) K' F' X' N' T' codeHd lifted (by assumption) l0 (by assumption) (by decide) (fun h' tk m' F9 G9 => ⟨?_, G9, True.intro⟩) rfl
    k_steps
