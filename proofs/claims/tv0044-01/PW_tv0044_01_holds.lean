import PyProof.Rows.All
import Wide.All
import OpenK.AllK
import Wide.FinOn
import PyProof.IsiH_tuple
import PyProof.Raises
import KE.KDictIter
import KE.KCat
import KE.KDeep
import PyProof.Conv_bool
import PyProof.Rows.ReprOcc
import PyProof.StrWalks
import PyProof.WalksPairs
import PyProof.ForAny
import KE.KEqSeq
import KE.KLcPair
import Lean
import PySem.Challenge.RW_tv0044_01
/-- what is still to be shown -/
structure Mine.Cp (P : Prop) : Prop where
  out : P
open PySem PySem.W PyProof.Rows PySem.Spec PySem.Calls
set_option Elab.async false
set_option linter.all false
set_option compiler.extract_closed false
set_option maxRecDepth 100000
set_option maxHeartbeats 8000000
namespace Mine
/-- a word of a line -/
def lnW (w : String) : Lean.MacroM Lean.Syntax := do
  let q := String.ofList (w.toList.drop 1)
  if w == "_" then return (← `(term| _)).raw
  else if w == "?_" then return (← `(term| ?_)).raw
  else if w == ":=" then return Lean.mkAtom ":="
  else if w == "-1" then return (← `(term| -1)).raw
  else if w.front == '?' then return (← `(term| ?$(Lean.mkIdent (← Lean.MonadQuotation.addMacroScope (Lean.Name.mkSimple q))):ident)).raw
  else if w.front == '"' then return (Lean.Syntax.mkStrLit (String.ofList (q.toList.take (q.length - 1)))).raw
  else if w.front.isDigit then return (Lean.Syntax.mkNumLit w).raw
  else return .ident .none w.toRawSubstring (← Lean.MonadQuotation.addMacroScope w.toName) ((← Lean.Macro.resolveGlobalName w.toName).map fun x => .decl x.1 x.2)
def lnA (xs : Array Lean.Syntax) : Lean.Term := if xs.size == 1 then ⟨xs[0]!⟩ else Lean.Syntax.mkApp ⟨xs[0]!⟩ ((xs.extract 1 xs.size).map fun x => ⟨x⟩)
def lnS (st : List (Array Lean.Syntax × Array Lean.Syntax)) (w : String) : Lean.MacroM (List (Array Lean.Syntax × Array Lean.Syntax)) := do
  match st with
  | [] => return []
  | (a, e) :: r =>
    if w == "(" || w == "[" then return (#[], #[]) :: st
    else if w == "," then return (#[], e.push (lnA a).raw) :: r
    else if w == ")" then
      let x : Lean.Syntax ← if (a.getD 1 .missing).isAtom then pure (← `(Lean.Parser.Term.namedArgument| ($(⟨a[0]!.getId.eraseMacroScopes |> Lean.mkIdent⟩):ident := $(lnA (a.extract 2 a.size))))).raw else pure (← `(term| ($(lnA a)))).raw
      match r with
      | (b, f) :: r => return (b.push x, f) :: r
      | [] => return []
    else if w == "]" then
      let es : Array Lean.Term := (if a.isEmpty then e else e.push (lnA a).raw).map fun x => ⟨x⟩
      match r with
      | (b, f) :: r => return (b.push (← `(term| [$es,*])).raw, f) :: r
      | [] => return []
    else return (a.push (← lnW w), e) :: r
def lnT (s : String) : Lean.MacroM Lean.Term := do
  let ws := ((String.ofList (s.toList.flatMap fun c => if "()[],".toList.contains c then [' ', c, ' '] else [c])).splitOn " ").filter fun w => w != ""
  match ← ws.foldlM lnS [(#[], #[])] with
  | (a, _) :: _ => return lnA a
  | [] => Lean.Macro.throwUnsupported
/-- the letters of a line: the kit's own words, lines, terms -/
def lnTab : List (Char × Nat × String) := [('a', 0, "k_asm"), ('s', 2, "assumption"), ('m', 0, "k_mem"), ('r', 3, "rfl"), ('i', 0, "k_is"), ('p', 0, "kmk_pure"), ('S', 1, "sep"), ('b', 1, "below"), ('o', 0, "k_room"), ('U', 0, "k_upd"), ('F', 0, "k_updF"), ('c', 1, "loc"), ('A', 0, "k_all"), ('n', 0, "k_ne"), ('I', 0, "k_inst"), ('g', 0, "k_get"), ('T', 0, "kt_fact"), ('B', 3, "BindsTo.of_eq rfl"), ('x', 3, "locs rfl"), ('N', 3, "Nat.le_of_ble_eq_true rfl"), ('1', 1, "ne1"), ('2', 1, "ne"), ('h', 3, "List.Mem.head _"), ('t', 3, "ite_here"), ('H', 0, "k_here"), ('W', 0, "k_whole"), ('0', 2, "skip"), ('f', 3, "Nat.le_refl _"), ('X', 3, "put_rdy"), ('Y', 3, "put_npo"), ('Z', 3, "put_nfi")]
/-- a letter of a line -/
def lnK0 (c : Char) : Lean.MacroM (Lean.TSyntax `tactic) :=
  match lnTab.find? (fun x => x.1 == c) with
  | some (_, 0, s) => return ⟨.node .none (Lean.Name.mkStr `PySem.W ("tactic" ++ s.capitalize)) #[Lean.mkAtom s]⟩
  | some (_, 1, s) => return ⟨.node .none `PyProof.Rows.tacticWalk_at_ #[Lean.mkAtom "walk_at ", (Lean.Syntax.mkStrLit s).raw]⟩
  | some (_, 2, s) => return ⟨.node .none (Lean.Name.mkStr `Lean.Parser.Tactic s) #[Lean.mkAtom s]⟩
  | some (_, _, s) => do `(tactic| exact $(← lnT s))
  | none => match c with
    | 'l' => `(tactic| lia)
    | 'u' => `(tactic| with_unfolding_all rfl)
    | 'd' => `(tactic| decide)
    | 'w' => `(tactic| with_reducible assumption)
    | 'e' => `(tactic| decide +kernel)
    | 'K' => `(tactic| (try k_sweep))
    | 'D' => `(tactic| (try dsimp only))
    | 'Q' => `(tactic| (try dsimp only [Bool.not_true, Bool.not_false]))
    | 'G' => `(tactic| (try dsimp only [Option.getD]))
    | 'z' => `(tactic| (simp; lia))
    | _ => `(tactic| fail)
/-- a letter of a line; some stand for several, tried in turn -/
def lnK (c : Char) : Lean.MacroM (Lean.TSyntax `tactic) := do
  let cs := if c == 'L' then "sl" else if c == 'M' then "sm" else if c == 'E' then "fl" else if c == 'P' then "XYZ" else if c == 'y' then "sz" else c.toString
  let ts ← cs.toList.mapM lnK0
  ts.tail.foldlM (fun a b => `(tactic| first | $a:tactic | $b:tactic)) ts.head!
/-- the side goals of a line: a name and a letter each -/
def lnC (s : String) : Lean.MacroM (Lean.TSyntax `tactic) := do
  let ts ← (s.splitOn " ").toArray.mapM fun q => do
    let n := Lean.mkIdent (← Lean.MonadQuotation.addMacroScope (Lean.Name.mkSimple (String.ofList (q.toList.take (q.length - 1)))))
    let t ← lnK q.back
    `(tactic| case $n:ident => $t:tactic)
  `(tactic| ($[$ts:tactic]*))
/-- a line: what it is for; the lemma; its side goals; the names behind it -/
def ln (o : String) (s : String) : Lean.MacroM (Lean.TSyntax `tactic) := do
  let ps := (s.splitOn "|").toArray
  let has := fun (c : Char) => o.toList.contains c
  if has 'c' then lnK s.front else
  let a : Array (Lean.TSyntax `tactic) ← if has 'h' then pure #[← lnK 'H'] else pure #[]
  let b : Array (Lean.TSyntax `tactic) ← if ps[0]! != "" then pure #[← `(tactic| with_reducible show $(← lnT (if has 'q' then ps[0]! else "wpAny _ _ " ++ ps[0]! ++ " _ _ _")))] else pure #[]
  let d : Array (Lean.TSyntax `tactic) ← if has 'd' then do
      let r ← `(tactic| refine' $(← lnT ps[1]!))
      let r ← if has 'r' then `(tactic| with_reducible $r:tactic) else pure r
      let u ← `(tactic| ($r:tactic; $(← lnC ps[2]!):tactic; $(← lnK (if has 'w' then 'W' else '0')):tactic))
      pure #[← if has 'n' then pure u else `(tactic| k_dflt $u:tactic)]
    else pure #[]
  let i : Array (Lean.TSyntax `tactic) ← if ps.getD 3 "" != "" then do
      let ns ← (ps[3]!.splitOn " ").toArray.mapM fun q => return Lean.mkIdent (← Lean.MonadQuotation.addMacroScope (Lean.Name.mkSimple q))
      pure #[← `(tactic| intro $[$ns:ident]*)]
    else pure #[]
  let n (s : String) : Lean.MacroM Lean.Ident := return Lean.mkIdent (← Lean.MonadQuotation.addMacroScope (Lean.Name.mkSimple s))
  let e : Array (Lean.TSyntax `tactic) ← match ps.getD 4 "", ps.getD 5 "" with
    | "at", s => pure #[← `(tactic| (try dsimp only at $(← n s):ident))]
    | "lt", s => pure #[← `(tactic| (try k_lt $(← n s):ident))]
    | _, _ => pure #[]
  let ts := a ++ b ++ d ++ i ++ e ++ #[← lnK (if has 'K' then 'K' else if has 'D' then 'D' else if has 'Q' then 'Q' else if has 'G' then 'G' else '0')]
  `(tactic| ($[$ts:tactic]*))
/-- a line of several ways -/
def lf (o s : String) (xs : List (String × String)) : Lean.MacroM (Lean.TSyntax `tactic) := do
  let a ← ln o s
  let t ← xs.foldrM (fun x t => do `(tactic| first | $(← ln x.1 x.2):tactic | $t:tactic)) (← `(tactic| fail))
  `(tactic| ($a:tactic; $t:tactic))
/-- the goal is put aside -/
theorem park {G : Prop} (h : ∀ P : Prop, (G → P) → P) : G := h G id
section

/-- a ledger with the entry at `a` written anew -/
noncomputable def upd (l : List (Addr × Obj)) (a : Addr) (o : Obj) : List (Addr × Obj) := l.map fun p => if p.1 = a then (a, o) else p

theorem upd_addrs (l : List (Addr × Obj)) (a : Addr) (o : Obj) : (upd l a o).map (·.1) = l.map (·.1) := by
  unfold upd
  rw [List.map_map]
  refine List.map_congr_left fun p _ => ?_
  show (if p.1 = a then (a, o) else p).1 = p.1
  by_cases h : p.1 = a
  · rw [if_pos h]; exact h.symm
  · rw [if_neg h]

theorem mem_upd_self {l : List (Addr × Obj)} {a : Addr} {o o' : Obj} (h : (a, o) ∈ l) : (a, o') ∈ upd l a o' :=
  List.mem_map.mpr ⟨_, h, by simp⟩
theorem mem_upd_ne {l : List (Addr × Obj)} {a b : Addr} {o o' : Obj} (h : (b, o) ∈ l) (hne : b ≠ a) : (b, o) ∈ upd l a o' :=
  List.mem_map.mpr ⟨_, h, by simp [hne]⟩
theorem upd_none {l : List (Addr × Obj)} {a : Addr} {o : Obj} (h : ∀ p ∈ l, p.1 ≠ a) : upd l a o = l := by
  unfold upd
  conv => rhs; rw [← List.map_id l]
  refine List.map_congr_left fun p hp => ?_
  rw [if_neg (h p hp)]; rfl
theorem upd_append (l k : List (Addr × Obj)) (a : Addr) (o : Obj) : upd (l ++ k) a o = upd l a o ++ upd k a o := by
  unfold upd; rw [List.map_append]
theorem upd_cons (p : Addr × Obj) (l : List (Addr × Obj)) (a : Addr) (o : Obj) : upd (p :: l) a o = (if p.1 = a then (a, o) else p) :: upd l a o := rfl

/-- all addresses differ -/
noncomputable def Sep (l : List (Addr × Obj)) : Prop := (l.map (·.1)).Nodup

theorem Sep.upd {l : List (Addr × Obj)} {a : Addr} {o : Obj} (h : Sep l) : Sep (upd l a o) := by
  unfold Sep; rw [upd_addrs]; exact h
theorem Sep.cons {l : List (Addr × Obj)} {a : Addr} {o : Obj} (h : Sep l) (hl : ∀ p ∈ l, p.1 < a) : Sep ((a, o) :: l) := by
  unfold Sep
  rw [List.map_cons, List.nodup_cons]
  refine ⟨fun hm => ?_, h⟩
  refine park fun P9 k9 => ?_
  obtain ⟨p, hp, e⟩ := List.mem_map.mp hm
  refine k9 ?_
  clear k9 P9
  exact Nat.lt_irrefl _ (e ▸ hl p hp)
theorem Sep.cons_ne {l : List (Addr × Obj)} {a : Addr} {o : Obj} (h : Sep l) (hl : ∀ p ∈ l, p.1 ≠ a) : Sep ((a, o) :: l) := by
  unfold Sep
  rw [List.map_cons, List.nodup_cons]
  refine ⟨fun hm => ?_, h⟩
  refine park fun P9 k9 => ?_
  obtain ⟨p, hp, e⟩ := List.mem_map.mp hm
  refine k9 ?_
  clear k9 P9
  exact hl p hp e
theorem Sep.perm {l k : List (Addr × Obj)} (h : Sep l) (p : l.Perm k) : Sep k := (p.map _).nodup_iff.mp h
theorem Sep.tail {p : Addr × Obj} {l : List (Addr × Obj)} (h : Sep (p :: l)) : Sep l := (List.nodup_cons.mp h).2
theorem Sep.left {l k : List (Addr × Obj)} (h : Sep (l ++ k)) : Sep l := by
  unfold Sep at h ⊢; rw [List.map_append] at h; exact (List.nodup_append.mp h).1
theorem Sep.right {l k : List (Addr × Obj)} (h : Sep (l ++ k)) : Sep k := by
  unfold Sep at h ⊢; rw [List.map_append] at h; exact (List.nodup_append.mp h).2.1
theorem Sep.apart {l k : List (Addr × Obj)} (h : Sep (l ++ k)) {p q : Addr × Obj} (hp : p ∈ l) (hq : q ∈ k) : p.1 ≠ q.1 := by
  unfold Sep at h; rw [List.map_append] at h
  exact (List.nodup_append.mp h).2.2 _ (List.mem_map.mpr ⟨p, hp, rfl⟩) _ (List.mem_map.mpr ⟨q, hq, rfl⟩)
theorem Sep.head {p : Addr × Obj} {l : List (Addr × Obj)} (h : Sep (p :: l)) : ∀ q ∈ l, q.1 ≠ p.1 := fun q hq e =>
  (List.nodup_cons.mp h).1 (List.mem_map.mpr ⟨q, hq, e⟩)
theorem Sep.sub {l k : List (Addr × Obj)} (h : Sep l) (s : k.Sublist l) : Sep k := List.Sublist.nodup (s.map _) h
theorem Sep.nil : Sep [] := List.nodup_nil

theorem split_at {l : List (Addr × Obj)} {d : Addr} {o : Obj} (hs : Sep l) (hm : (d, o) ∈ l) :
    ∃ pre post, l = pre ++ (d, o) :: post ∧ (∀ p ∈ pre, p.1 ≠ d) ∧ ∀ p ∈ post, p.1 ≠ d := by
  refine park fun P9 k9 => ?_
  obtain ⟨pre, post, e⟩ := List.append_of_mem hm
  refine k9 ?_
  clear k9 P9
  subst e
  refine ⟨pre, post, rfl, fun p hp => ?_, fun p hp => ?_⟩
  · exact Sep.apart hs hp (.head _)
  · exact Sep.head (Sep.right hs) p hp
theorem Sep.one {l : List (Addr × Obj)} (hs : Sep l) {d : Addr} {o o' : Obj} (h : (d, o) ∈ l) (h' : (d, o') ∈ l) : o = o' := by
  refine park fun P9 k9 => ?_
  obtain ⟨pre, post, rfl, a, b⟩ := split_at hs h
  refine k9 ?_
  clear k9 P9
  rcases List.mem_append.mp h' with h' | h'
  · exact absurd rfl (a _ h')
  · rcases List.mem_cons.mp h' with h' | h'
    · exact (Prod.mk.inj h').2.symm
    · exact absurd rfl (b _ h')

theorem updF_aux {d : Addr} {o : Obj} : ∀ {pre post : List (Addr × Obj)}, (∀ p ∈ pre, p.1 ≠ d) → (∀ p ∈ post, p.1 ≠ d) → UpdF d o (pre ++ (d, o) :: post) (fun o' => upd (pre ++ (d, o) :: post) d o')
  | [], post, _, b => by
    have e : (fun o' => upd ([] ++ (d, o) :: post) d o') = fun o' => (d, o') :: post := by
      funext o'
      rw [List.nil_append, upd_cons, upd_none b]; simp
    rw [e]; exact UpdF.head b
  | p :: pre, post, a, b => by
    have h := updF_aux (d := d) (o := o) (pre := pre) (post := post) (fun q hq => a q (.tail _ hq)) b
    have e : (fun o' => upd (p :: pre ++ (d, o) :: post) d o') = fun o' => p :: upd (pre ++ (d, o) :: post) d o' := by
      funext o'
      rw [List.cons_append, upd_cons, if_neg (a p (.head _))]
    rw [e]; exact UpdF.tail (a p (.head _)) h
theorem updF_of {l : List (Addr × Obj)} {d : Addr} {o : Obj} (hs : Sep l) (hm : (d, o) ∈ l) : UpdF d o l (fun o' => upd l d o') := by
  refine park fun P9 k9 => ?_
  obtain ⟨pre, post, rfl, a, b⟩ := split_at hs hm
  refine k9 ?_
  clear k9 P9
  exact updF_aux a b
theorem upd_aux {d : Addr} {o o' : Obj} : ∀ {l : List (Addr × Obj)} {g : Obj → List (Addr × Obj)}, UpdF d o l g → Upd d o o' l (g o')
  | _, _, .head h => .head h
  | _, _, .tail h r => .tail h (upd_aux r)
theorem upd_of {l : List (Addr × Obj)} {d : Addr} {o o' : Obj} (hs : Sep l) (hm : (d, o) ∈ l) : Upd d o o' l (upd l d o') :=
  upd_aux (updF_of hs hm)

theorem lt_of_mem {l : List (Addr × Obj)} {a b : Addr} {o : Obj} (h : ∀ p ∈ l, p.1 < b) (hm : (a, o) ∈ l) : a < b := h _ hm

theorem below_cons {l : List (Addr × Obj)} {a b : Addr} {o : Obj} (h : @LT.lt Nat _ a b) (hl : ∀ p ∈ l, p.1 < b) : ∀ p ∈ (a, o) :: l, p.1 < b := fun p hp => by
  rcases List.mem_cons.mp hp with rfl | hp
  · exact h
  · exact hl p hp
theorem below_trans {l : List (Addr × Obj)} {a b : Addr} (hl : ∀ p ∈ l, p.1 < a) (h : @LT.lt Nat _ a b) : ∀ p ∈ l, p.1 < b := fun p hp => Nat.lt_trans (hl p hp) h
theorem below_upd {l : List (Addr × Obj)} {a b : Addr} {o : Obj} (hl : ∀ p ∈ l, p.1 < b) : ∀ p ∈ upd l a o, p.1 < b := fun p hp => by
  have : p.1 ∈ (upd l a o).map (·.1) := List.mem_map.mpr ⟨p, hp, rfl⟩
  rw [upd_addrs] at this
  refine park fun P9 k9 => ?_
  obtain ⟨q, hq, e⟩ := List.mem_map.mp this
  refine k9 ?_
  clear k9 P9
  exact e ▸ hl q hq
theorem off_of_below {l : List (Addr × Obj)} {b : Addr} (hl : ∀ p ∈ l, p.1 < b) : ∀ p ∈ l, p.1 ≠ b := fun p hp => Nat.ne_of_lt (hl p hp)
theorem ne_b1 {l : List (Addr × Obj)} {a b : Addr} {o : Obj} (h : ∀ p ∈ l, p.1 < b) (hm : (a, o) ∈ l) : a ≠ b := Nat.ne_of_lt (h _ hm)
theorem ne_b2 {l : List (Addr × Obj)} {a b c : Addr} {o : Obj} (h : ∀ p ∈ l, p.1 < b) (hm : (a, o) ∈ l) (hc : b < c) : a ≠ c := Nat.ne_of_lt (Nat.lt_trans (h _ hm) hc)
theorem ne_b3 {l : List (Addr × Obj)} {a b c : Addr} {o : Obj} (h : ∀ p ∈ l, p.1 < b) (hm : (a, o) ∈ l) (hc : @LE.le Nat _ b c) : a ≠ c := Nat.ne_of_lt (Nat.lt_of_lt_of_le (h _ hm) hc)
theorem seven_le {n : Nat} (h : n ≤ 1000000) : n ≤ sizeLine := by rw [sizeLine_eq]; omega

/-! ### the sorter -/

/-- a node's info: what it says and where it lies -/
structure Nd where
  key : Str
  np : Int
  succ : List Str
  x : Addr
  dx : Addr
  sa : Addr
  kt : Tok
  pt : Tok
  svs : List Value
  sn : Nat

noncomputable def Nd.info (Ci : Addr) (v : Nd) : Obj :=
  { cls := .ref Ci, dict := some v.dx, data := .plain, slots := [some (.str v.key v.kt), some (.int v.np v.pt), some (.ref v.sa)].toArray }
noncomputable def Nd.cells (Ci : Addr) (v : Nd) : List (Addr × Obj) := [(v.x, v.info Ci), (v.dx, dictOf [] 0), (v.sa, W.listOf v.svs.toArray v.sn)]
noncomputable def Nd.ok (v : Nd) : Prop := StrsAre v.svs v.succ
noncomputable def Nd.pair (v : Nd) : Str × Value := (v.key, .ref v.x)

/-- a sorter -/
structure So where
  x : Addr
  dx : Addr
  n2i : Addr
  hs : Nat → Int
  tk : Nat → Tok
  dn : Nat
  n2o : Obj
  nds : List Nd
  rdy : Option (Addr × List Value × Nat)
  rds : List Str
  npo : Int
  nfi : Int
  t1 : Tok
  t2 : Tok

noncomputable def So.rv (S : So) : Value := match S.rdy with
  | none => .none
  | some r => .ref r.1
noncomputable def So.rcells (S : So) : List (Addr × Obj) := match S.rdy with
  | none => []
  | some r => [(r.1, W.listOf r.2.1.toArray r.2.2)]
noncomputable def sorterEs (hs : Nat → Int) (tk : Nat → Tok) (n2i : Addr) (rv : Value) (np nf : Value) : List DictEntry :=
  [⟨hs 0, .str (Str.ofString "_node2info") (tk 0), .ref n2i⟩, ⟨hs 1, .str (Str.ofString "_ready_nodes") (tk 1), rv⟩, ⟨hs 2, .str (Str.ofString "_npassedout") (tk 2), np⟩, ⟨hs 3, .str (Str.ofString "_nfinished") (tk 3), nf⟩]
noncomputable def So.dobj (S : So) : Obj := dictOf (sorterEs S.hs S.tk S.n2i S.rv (.int S.npo S.t1) (.int S.nfi S.t2)) S.dn
noncomputable def So.cells (C Ci : Addr) (S : So) : List (Addr × Obj) :=
  (S.x, instObj C S.dx) :: (S.dx, S.dobj) :: (S.n2i, S.n2o) :: (S.rcells ++ S.nds.flatMap (Nd.cells Ci))
structure So.ok (prog : Program) (w : World) (S : So) : Prop where
  dict : S.n2o.IsDictOf (PySem.strKind prog w) (S.nds.map Nd.pair)
  low : (S.n2i == sysModules) = false
  nds : ∀ v ∈ S.nds, v.ok
  rds : match S.rdy with | none => S.rds = [] | some r => StrsAre r.2.1 S.rds

theorem So.keys {prog : Program} {w : World} {S : So} (h : S.ok prog w) : (S.nds.map (·.key)).Nodup := by
  refine park fun P9 k9 => ?_
  obtain ⟨es, ep, _, _, _, _, hn⟩ := h.dict
  refine k9 ?_
  clear k9 P9
  rw [List.map_map] at hn
  exact hn
theorem So.mem_nd {C Ci : Addr} {S : So} {v : Nd} {p : Addr × Obj} (hv : v ∈ S.nds) (hp : p ∈ v.cells Ci) : p ∈ S.cells C Ci := by
  unfold So.cells
  exact .tail _ (.tail _ (.tail _ (List.mem_append_right _ (List.mem_flatMap.mpr ⟨v, hv, hp⟩))))
end
section
/-! ### the search for a ring, plain -/
section
variable (sc : Str → List Str)
/-- what a frame knows: the top one has given `cur` last (`none`: what it gave is finished) -/
noncomputable def Lnk (fin : List Str) : Option Str → List (Str × Nat) → Prop
  | _, [] => True
  | none, (k, p) :: r => (∀ i c, i < p → (sc k)[i]? = some c → c ∈ fin) ∧ Lnk fin (some k) r
  | some c, (k, p) :: r => (∃ q, p = q + 1 ∧ (sc k)[q]? = some c ∧ ∀ i d, i < q → (sc k)[i]? = some d → d ∈ fin) ∧ Lnk fin (some k) r
/-- what is finished stands behind all that follows it -/
noncomputable def Ordd (fin : List Str) : Prop := ∀ (j : Nat) (v : Str), fin[j]? = some v → ∀ c ∈ sc v, ∃ i : Nat, i < j ∧ fin[i]? = some c
structure Dfs (keys seen fin : List Str) (cur : Option Str) (fr : List (Str × Nat)) : Prop where
  lnk : Lnk sc fin cur fr
  ord : Ordd sc fin
  nod : (fr.map (·.1)).Nodup
  dis : ∀ k ∈ fr.map (·.1), k ∉ fin
  see : ∀ k, k ∈ seen ↔ k ∈ fin ∨ k ∈ fr.map (·.1)
  key : ∀ k ∈ seen, k ∈ keys
noncomputable def muS (keys seen : List Str) : Nat := ((keys.filter fun k => decide (k ∉ seen)).map fun k => 1 + (sc k).length).sum
noncomputable def muF (fr : List (Str × Nat)) : Nat := (fr.map fun f => (sc f.1).length - f.2).sum
variable {sc} {keys seen fin : List Str} {fr : List (Str × Nat)} {n k : Str} {p : Nat}

theorem Lnk.mono {fin fin' : List Str} (h : ∀ c ∈ fin, c ∈ fin') : ∀ {fr : List (Str × Nat)} {cur : Option Str}, Lnk sc fin cur fr → Lnk sc fin' cur fr
  | [], _, _ => by unfold Lnk; trivial
  | (k, p) :: r, none, ⟨a, b⟩ => ⟨fun i c hi hc => h _ (a i c hi hc), Lnk.mono h b⟩
  | (k, p) :: r, some c, ⟨⟨q, e, x, y⟩, b⟩ => ⟨⟨q, e, x, fun i d hi hd => h _ (y i d hi hd)⟩, Lnk.mono h b⟩
theorem Lnk.skip {c : Str} (hc : c ∈ fin) : ∀ {fr : List (Str × Nat)}, Lnk sc fin (some c) fr → Lnk sc fin none fr
  | [], _ => by unfold Lnk; trivial
  | (k, p) :: r, ⟨⟨q, e, x, y⟩, b⟩ => ⟨fun i d hi hd => by
      rcases Nat.lt_or_ge i q with h | h
      · exact y i d h hd
      · obtain rfl : i = q := by lia
        rw [x] at hd; cases hd; exact hc, b⟩
theorem Dfs.push (D : Dfs sc keys seen fin (some n) fr) (hn : n ∉ seen) (hk : n ∈ keys) : Dfs sc keys (n :: seen) fin none ((n, 0) :: fr) := by
  have h1 : n ∉ fin := fun h => hn ((D.see n).mpr (.inl h))
  have h2 : n ∉ fr.map (·.1) := fun h => hn ((D.see n).mpr (.inr h))
  refine ⟨⟨fun i c hi _ => absurd hi (Nat.not_lt_zero _), D.lnk⟩, D.ord, ?_, ?_, ?_, ?_⟩
  · rw [List.map_cons, List.nodup_cons]; exact ⟨h2, D.nod⟩
  · intro j hj
    rcases List.mem_cons.mp hj with rfl | hj
    · exact h1
    · exact D.dis j hj
  · intro j
    rw [List.mem_cons, D.see j, List.map_cons, List.mem_cons]
    exact ⟨fun h => by rcases h with h | h | h <;> simp [h], fun h => by rcases h with h | h | h <;> simp [h]⟩
  · intro j hj
    rcases List.mem_cons.mp hj with rfl | hj
    · exact hk
    · exact D.key j hj
theorem Dfs.skip (D : Dfs sc keys seen fin (some n) fr) (hn : n ∈ seen) (hs : n ∉ fr.map (·.1)) : Dfs sc keys seen fin none fr :=
  ⟨D.lnk.skip ((D.see n).mp hn |>.resolve_right hs), D.ord, D.nod, D.dis, D.see, D.key⟩
theorem Dfs.next {r : List (Str × Nat)} {c : Str} (D : Dfs sc keys seen fin none ((k, p) :: r)) (hc : (sc k)[p]? = some c) : Dfs sc keys seen fin (some c) ((k, p + 1) :: r) :=
  ⟨⟨⟨p, rfl, hc, D.lnk.1⟩, D.lnk.2⟩, D.ord, D.nod, D.dis, D.see, D.key⟩
theorem Dfs.pop {r : List (Str × Nat)} (D : Dfs sc keys seen fin none ((k, p) :: r)) (hc : (sc k)[p]? = none) : Dfs sc keys seen (fin ++ [k]) none r := by
  have hall : ∀ c ∈ sc k, c ∈ fin := fun c hm => by
    refine park fun P9 k9 => ?_
    obtain ⟨i, hi, e⟩ := List.getElem_of_mem hm
    refine k9 ?_
    clear k9 P9
    have : (sc k).length ≤ p := List.getElem?_eq_none_iff.mp hc
    exact D.lnk.1 i c (by lia) (by rw [List.getElem?_eq_getElem hi, e])
  have nd := D.nod
  rw [List.map_cons, List.nodup_cons] at nd
  refine ⟨(D.lnk.2.mono fun c hc => List.mem_append_left _ hc).skip (List.mem_append_right _ (.head _)), ?_, nd.2, ?_, ?_, D.key⟩
  · intro j v hv c hm
    rcases Nat.lt_or_ge j fin.length with h | h
    · rw [List.getElem?_append_left h] at hv
      refine park fun P9 k9 => ?_
      obtain ⟨i, hi, e⟩ := D.ord j v hv c hm
      refine k9 ?_
      clear k9 P9
      exact ⟨i, hi, by rw [List.getElem?_append_left (by lia)]; exact e⟩
    · rw [List.getElem?_append_right h] at hv
      have : j - fin.length = 0 := by
        have := (List.getElem?_eq_some_iff.mp hv).1
        simp at this; lia
      rw [this] at hv
      obtain rfl : k = v := by simpa using hv
      refine park fun P9 k9 => ?_
      obtain ⟨i, hi, e⟩ := List.getElem_of_mem (hall c hm)
      refine k9 ?_
      clear k9 P9
      exact ⟨i, by lia, by rw [List.getElem?_append_left hi, List.getElem?_eq_getElem hi, e]⟩
  · intro j hj hm
    rcases List.mem_append.mp hm with hm | hm
    · exact D.dis j (List.mem_cons_of_mem _ hj) hm
    · rw [List.mem_singleton.mp hm] at hj; exact nd.1 hj
  · intro j
    rw [D.see j, List.map_cons, List.mem_cons, List.mem_append, List.mem_singleton]
    exact ⟨fun h => by rcases h with h | h | h <;> simp [h], fun h => by rcases h with (h | h) | h <;> simp [h]⟩

theorem sum_filter_le {f : Str → Nat} {a b : Str → Bool} (h : ∀ x, b x = true → a x = true) (l : List Str) : ((l.filter b).map f).sum ≤ ((l.filter a).map f).sum := by
  induction l with
  | nil => simp
  | cons x r ih =>
    by_cases hb : b x = true
    · simp [List.filter_cons, hb, h x hb]; lia
    · by_cases ha : a x = true
      · simp [List.filter_cons, hb, ha]; lia
      · simp [List.filter_cons, hb, ha]; lia
theorem muS_push (hn : n ∉ seen) (hk : n ∈ keys) : muS sc keys (n :: seen) + 1 + (sc n).length ≤ muS sc keys seen := by
  unfold muS
  induction keys with
  | nil => cases hk
  | cons x r ih =>
    have mono := sum_filter_le (f := fun k => 1 + (sc k).length) (a := fun k => decide (k ∉ seen)) (b := fun k => decide (k ∉ n :: seen)) (fun x hx => by simp at hx ⊢; exact hx.2) r
    by_cases hx : x = n
    · subst hx
      have e1 : decide (x ∉ x :: seen) = false := by simp
      have e2 : decide (x ∉ seen) = true := by simpa using hn
      rw [List.filter_cons, List.filter_cons, e1, e2]
      simp only [Bool.false_eq_true, if_false, if_true, List.map_cons, List.sum_cons]
      lia
    · have hk' : n ∈ r := (List.mem_cons.mp hk).resolve_left (fun e => hx e.symm)
      have ih := ih hk'
      have e : decide (x ∉ n :: seen) = decide (x ∉ seen) := by simp [hx]
      rw [List.filter_cons, List.filter_cons, e]
      by_cases hs : decide (x ∉ seen) = true
      · rw [if_pos hs, if_pos hs, List.map_cons, List.map_cons, List.sum_cons, List.sum_cons]; lia
      · rw [if_neg hs, if_neg hs]; exact ih
theorem muF_push : muF sc ((n, 0) :: fr) = (sc n).length + muF sc fr := by unfold muF; simp
theorem muF_next {r : List (Str × Nat)} {c : Str} (hc : (sc k)[p]? = some c) : muF sc ((k, p + 1) :: r) + 1 = muF sc ((k, p) :: r) := by
  unfold muF
  have := (List.getElem?_eq_some_iff.mp hc).1
  simp; lia
theorem muF_pop {r : List (Str × Nat)} : muF sc r ≤ muF sc ((k, p) :: r) := by unfold muF; simp

/-- what is told: a list whose first is its last, no other twice, each behind the one ahead of it -/
noncomputable def Ring (told : List Str) : Prop := ∃ c mid, told = c :: mid ++ [c] ∧ (c :: mid).Nodup ∧ ∀ (i : Nat) (a b : Str), told[i]? = some a → told[i + 1]? = some b → b ∈ sc a
theorem lnk_step : ∀ {l : List (Str × Nat)} {cur : Option Str} {i : Nat} {a b : Str × Nat}, Lnk sc fin cur l → l[i]? = some a → l[i + 1]? = some b → a.1 ∈ sc b.1
  | [], _, _, _, _, _, h, _ => by simp at h
  | [_], _, i, _, _, _, _, h => by simp at h
  | (k, p) :: (k', p') :: r, cur, 0, a, b, L, h1, h2 => by
    simp at h1 h2
    subst h1; subst h2
    have L2 : Lnk sc fin (some k) ((k', p') :: r) := by cases cur <;> exact L.2
    refine park fun P9 k9 => ?_
    obtain ⟨q, _, hq, _⟩ := L2.1
    refine k9 ?_
    clear k9 P9
    exact List.mem_of_getElem? hq
  | (k, p) :: (k', p') :: r, cur, i + 1, a, b, L, h1, h2 => by
    have L2 : Lnk sc fin (some k) ((k', p') :: r) := by cases cur <;> exact L.2
    exact lnk_step L2 (by simpa using h1) (by simpa using h2)
theorem Dfs.ring {a b : List (Str × Nat)} (D : Dfs sc keys seen fin (some n) (a ++ (n, p) :: b)) : Ring (sc := sc) (n :: (a.map (·.1)).reverse ++ [n]) := by
  refine ⟨n, (a.map (·.1)).reverse, rfl, ?_, ?_⟩
  · have nd := D.nod
    rw [List.map_append, List.map_cons] at nd
    have : ((a.map (·.1)) ++ [n]).Nodup := nd.sublist ((List.Sublist.refl _).append (List.Sublist.cons_cons _ (List.nil_sublist _)))
    have h9 := (List.reverse_perm (a.map (·.1) ++ [n])).nodup_iff.mpr this
    simpa using h9
  · intro i x y hx hy
    -- the told list, last first
    have e : (n :: (a.map (·.1)).reverse ++ [n]) = ((n :: (a ++ [(n, p)]).map (·.1))).reverse := by simp
    rw [e] at hx hy
    have hlen : ((n :: (a ++ [(n, p)]).map (·.1))).length = a.length + 2 := by simp
    have hi : i + 1 < a.length + 2 := by
      have := (List.getElem?_eq_some_iff.mp hy).1
      rw [List.length_reverse, hlen] at this; exact this
    rw [List.getElem?_reverse (by rw [hlen]; lia), hlen] at hx
    rw [List.getElem?_reverse (by rw [hlen]; lia), hlen] at hy
    have e1 : a.length + 2 - 1 - i = (a.length - i) + 1 := by lia
    have e2 : a.length + 2 - 1 - (i + 1) = a.length - i := by lia
    rw [e1, List.getElem?_cons_succ] at hx
    rw [e2] at hy
    have hpre : ∀ j z, (a ++ [(n, p)])[j]? = some z → (a ++ (n, p) :: b)[j]? = some z := fun j z h => by
      have : a ++ (n, p) :: b = (a ++ [(n, p)]) ++ b := by simp
      rw [this, List.getElem?_append_left (List.getElem?_eq_some_iff.mp h).1]; exact h
    rw [List.getElem?_map] at hx
    refine park fun P9 k9 => ?_
    obtain ⟨u, hu, rfl⟩ := Option.map_eq_some_iff.mp hx
    refine k9 ?_
    clear k9 P9
    cases hj : a.length - i with
    | zero =>
      rw [hj] at hy hu
      obtain rfl : n = y := by simpa using hy
      have hu' := hpre _ _ hu
      have L := D.lnk
      cases hl : a ++ (n, p) :: b with
      | nil => simp at hl
      | cons f r =>
        rw [hl] at L hu'
        obtain rfl : f = u := by simpa using hu'
        refine park fun P9 k9 => ?_
        obtain ⟨q, _, hq, _⟩ := L.1
        refine k9 ?_
        clear k9 P9
        exact List.mem_of_getElem? hq
    | succ j =>
      rw [hj] at hy hu
      rw [List.getElem?_cons_succ, List.getElem?_map] at hy
      refine park fun P9 k9 => ?_
      obtain ⟨v, hv, rfl⟩ := Option.map_eq_some_iff.mp hy
      refine k9 ?_
      clear k9 P9
      exact lnk_step D.lnk (hpre _ _ hv) (hpre _ _ hu)
/-- no ring: each stands higher than what follows it -/
noncomputable def Free (keys : List Str) : Prop := ∃ rk : Str → Nat, ∀ v ∈ keys, ∀ c ∈ sc v, rk c < rk v
theorem Dfs.free {cur : Option Str} (D : Dfs sc keys seen fin cur []) (h : ∀ k ∈ keys, k ∈ seen) : Free (sc := sc) keys := by
  refine ⟨fun k => fin.idxOf k, fun v hv c hc => ?_⟩
  have hm : v ∈ fin := by
    rcases (D.see v).mp (h v hv) with h | h
    · exact h
    · cases h
  have h1 : fin[fin.idxOf v]? = some v := by
    rw [List.getElem?_eq_getElem (List.idxOf_lt_length_iff.mpr hm), List.getElem_idxOf]
  refine park fun P9 k9 => ?_
  obtain ⟨i, hi, hic⟩ := D.ord _ _ h1 c hc
  refine k9 ?_
  clear k9 P9
  have : fin.idxOf c ≤ i := by
    rcases Nat.lt_or_ge i (fin.idxOf c) with h | h
    · refine park fun P9 k9 => ?_
      obtain ⟨hi2, e⟩ := List.getElem?_eq_some_iff.mp hic
      refine k9 ?_
      clear k9 P9
      exact absurd e (by
        have := List.not_of_lt_findIdx (p := fun x => x == c) (xs := fin) h
        simpa using this)
    · exact h
  show fin.idxOf c < fin.idxOf v
  lia
end
end
section
section
variable {prog : Program} {w : World} {A : Around} {E : Value → Shared → Prop} {s : Shared} {env : Env} {h₀ : Heap} {x : Str} {body : List Stmt} {Q : Flow → Shared → Prop}

/-- the end of a turn: the iterator as it stood, and a ledger of which J holds -/
noncomputable def EndG (h₀ : Heap) (L : Addr) (J : (Str → Option Value) → List (Addr × Obj) → Prop) (I : Addr) (oI : Obj) (s₁ s₂ : Shared) : Prop :=
  ∃ h' tk m' nx, s₂ = { s₁ with heap := h', toks := tk } ∧ Fr h₀ L h' m' ∧ News h₀ L h' ((I, oI) :: nx) ∧ (∀ p ∈ nx, p.1 ≠ I) ∧ J m' nx
theorem EndG.intro {L I : Addr} {oI : Obj} {J : (Str → Option Value) → List (Addr × Obj) → Prop} {s₁ : Shared} {h' : Heap} {tk : Nat} {m' : Str → Option Value} {nx : List (Addr × Obj)}
    (F : Fr h₀ L h' m') (N : News h₀ L h' ((I, oI) :: nx)) (hI : ∀ p ∈ nx, p.1 ≠ I) (hj : J m' nx) : EndG h₀ L J I oI s₁ { s₁ with heap := h', toks := tk } := ⟨h', tk, m', nx, rfl, F, N, hI, hj⟩
noncomputable def PostG (h₀ : Heap) (L : Addr) (J : (Str → Option Value) → List (Addr × Obj) → Prop) (I : Addr) (oI : Obj) (s₁ : Shared) (Q : Flow → Shared → Prop) (f : Flow) (s₂ : Shared) : Prop :=
  match f with
  | .ret v => Q (.ret v) s₂
  | .brk => Q .next s₂
  | _ => EndG h₀ L J I oI s₁ s₂

theorem loopG {I : Addr} {fp : List Addr} {n : Nat} {P : Nat → Value → Prop} {St : Nat → Heap → Prop} {m₀ : Str → Option Value} {news : List (Addr × Obj)}
    (J : Nat → (Str → Option Value) → List (Addr × Obj) → Prop)
    (W : Walks prog w A I fp [I] n P St) (hLf : env.locals ∉ fp) (hI : h₀.get? I = none) (hIn : ∀ p ∈ news, p.1 ≠ I) (hst : St 0 s.heap)
    (hlive : ∀ i h, St i h → ∃ o, h.get? I = some o)
    (hown : ∀ b ∈ fp, b = I ∨ (∃ o, h₀.get? b = some o) ∨ ∃ o, ∀ i m l, J i m l → (b, o) ∈ l)
    (F : Fr h₀ env.locals s.heap m₀) (N : News h₀ env.locals s.heap news) (hj : J 0 m₀ news)
    (turn : ∀ i v m₁ news₁ h tk oI, i < n → P i v → J i m₁ news₁ → (∀ p ∈ news₁, p.1 ≠ I) → Fr h₀ env.locals h (fun y => if y = x then some v else m₁ y) → News h₀ env.locals h ((I, oI) :: news₁) →
      wpAny (model prog w) A (execs body env) (PostG h₀ env.locals (J (i + 1)) I oI { s with heap := h, toks := tk } Q) E { s with heap := h, toks := tk })
    (done : ∀ m₁ news₁ h tk, J n m₁ news₁ → Fr h₀ env.locals h m₁ → News h₀ env.locals h news₁ → Q .next { s with heap := h, toks := tk }) :
    LoopAtV prog w A h₀ env x body Q E (.ref I) s := by
  refine ⟨I, fp, [I], n, P, St, m₀, news, J, rfl, W, hLf, ?_, ?_, hst, F, N, hj, ?_, ?_⟩
  · intro b hb; rw [List.mem_singleton.mp hb]; exact hI
  · intro p hp hb; exact hIn p hp (List.mem_singleton.mp hb)
  · intro i v m₁ news₁ s₁ own X96 hi hP hJ hoff hsub hget hall hst₁ F₁ N₁
    refine park fun P9 k9 => ?_
    obtain ⟨h, tk, rfl⟩ := X96
    obtain ⟨oI, hoI⟩ := hlive _ _ hst₁
    refine k9 ?_
    clear k9 P9
    have hIo : (I, oI) ∈ own := hall I (W.sub I (.head _)) hI oI hoI
    have hne : ∀ p ∈ news₁, p.1 ≠ I := fun p hp e => hoff p hp (by rw [e]; exact .head _)
    have N₂ : News h₀ env.locals h ((I, oI) :: news₁) := fun p hp => by
      rcases List.mem_cons.mp hp with rfl | hp
      · exact N₁ _ (List.mem_append_left _ hIo)
      · exact N₁ _ (List.mem_append_right _ hp)
    refine wpAny_mono (turn i v m₁ news₁ h tk oI hi hP hJ hne F₁ N₂) (fun f s₂ p => ?_) fun _ _ e => e
    have fin : EndG h₀ env.locals (J (i + 1)) I oI { s with heap := h, toks := tk } s₂ → LoopStepU h₀ env.locals [I] own (J (i + 1)) { s with heap := h, toks := tk } .next s₂ := by
      intro X90
      refine park fun P9 k9 => ?_
      obtain ⟨h', tk', m', nx, rfl, F', N', hI', hJ'⟩ := X90
      refine k9 ?_
      clear k9 P9
      refine LoopStepU.intro F' (fun p hp => ?_) (fun p hp hb => hI' p hp (List.mem_singleton.mp hb)) hJ'
      rcases List.mem_append.mp hp with hp | hp
      · rcases hown _ (hsub p hp) with e | ⟨o, ho⟩ | ⟨o, ho⟩
        · have e2 : p.2 = oI := by
            have := hget p hp
            rw [e] at this
            exact Option.some.inj (this.symm.trans hoI)
          have : p = (I, oI) := Prod.ext e e2
          rw [this]; exact N' _ (.head _)
        · have := (N₁ p (List.mem_append_left _ hp)).2.2
          rw [ho] at this; cases this
        · have h1 := (N₁ _ (List.mem_append_right own (ho i m₁ news₁ hJ))).1
          have h2 := hget p hp
          have e2 : p.2 = o := Option.some.inj (h2.symm.trans h1)
          have : p = (p.1, o) := Prod.ext rfl e2
          rw [this]
          exact N' _ (.tail _ (ho _ _ _ hJ'))
      · exact N' p (.tail _ hp)
    cases f with
    | ret v => exact .ret p
    | brk => exact .brk p
    | next => exact .next (fin p)
    | cont => exact .cont (fin p)
  · intro h' tk m' news' F' N' _ hJ
    exact done m' news' h' tk hJ F' N'

theorem ne_size {L : Addr} {h : Heap} {m : Str → Option Value} (F : Fr h₀ L h m) : L ≠ h.objs.size := Nat.ne_of_lt F.ns.lt
theorem old_ne {L t : Addr} {h : Heap} {m : Str → Option Value} {o : Obj} (F : Fr h₀ L h m) (ht : h₀.get? t = some o) : L ≠ t := fun e => by
  have := Heap.lt_size ht
  exact Nat.lt_irrefl _ (Nat.lt_of_lt_of_le (e ▸ this) F.above)

/-- where a sequence lies: old, or in every ledger of J -/
noncomputable def Lies (h₀ : Heap) (J : Nat → (Str → Option Value) → List (Addr × Obj) → Prop) (t : Addr) (o : Obj) : Prop := h₀.get? t = some o ∨ ∀ i m l, J i m l → (t, o) ∈ l

theorem iterList {t : Addr} {vs : List Value} {ep : Nat} {m₀ : Str → Option Value} {news : List (Addr × Obj)}
    (J : Nat → (Str → Option Value) → List (Addr × Obj) → Prop) (hh : A.handled = none) (ht : Lies h₀ J t (W.listOf vs.toArray ep))
    (F : Fr h₀ env.locals s.heap m₀) (N : News h₀ env.locals s.heap news) (hj : J 0 m₀ news)
    (turn : ∀ I i v m₁ news₁ h tk oI, vs[i]? = some v → J i m₁ news₁ → (∀ p ∈ news₁, p.1 ≠ I) → Fr h₀ env.locals h (fun y => if y = x then some v else m₁ y) → News h₀ env.locals h ((I, oI) :: news₁) →
      wpAny (model prog w) A (execs body env) (PostG h₀ env.locals (J (i + 1)) I oI { s with heap := h, toks := tk } Q) E { s with heap := h, toks := tk })
    (done : ∀ m₁ news₁ h tk, J vs.length m₁ news₁ → Fr h₀ env.locals h m₁ → News h₀ env.locals h news₁ → Q .next { s with heap := h, toks := tk }) :
    wpAny (model prog w) A (pyIter (.ref t)) (fun it s₂ => LoopAtV prog w A h₀ env x body Q E it s₂) E s := by
  have ho : s.heap.get? t = some (W.listOf vs.toArray ep) := by
    rcases ht with ht | ht
    · exact F.keep _ _ ht
    · exact (N _ (ht _ _ _ hj)).1
  have hls : s.heap.IsList t vs.toArray := ⟨_, ho, rfl, _, rfl⟩
  have hlt : t < s.heap.objs.size := Heap.lt_size ho
  have hne : t ≠ s.heap.objs.size := Nat.ne_of_lt hlt
  refine wpAny_pyIter_list hls ?_
  have W := Walks.list (prog := prog) (w := w) hh s.heap.objs.size t hne vs.toArray
  have hlen : vs.toArray.size = vs.length := by simp
  rw [hlen] at W
  refine loopG J W ?_ (next_is_new F) (fun p hp => Nat.ne_of_lt (Heap.lt_size (N p hp).1)) ⟨⟨_, Heap.get?_push_size _ rfl, rfl, rfl⟩, hls.at fun o e => Heap.get?_push_of_some _ e⟩
    (fun i h st => let ⟨o, ho, _⟩ := st.1; ⟨o, ho⟩) ?_ (F.push _) (fun p hp => ⟨Heap.get?_push_of_some _ (N p hp).1, (N p hp).2⟩) hj ?_ ?_
  · intro hm
    rcases List.mem_cons.mp hm with e | hm
    · exact ne_size F e
    · have e := List.mem_singleton.mp hm
      rcases ht with ht | ht
      · exact old_ne F ht e
      · exact (N _ (ht _ _ _ hj)).2.1 e.symm
  · intro b hb
    rcases List.mem_cons.mp hb with e | hb
    · exact .inl e
    · rw [List.mem_singleton.mp hb]
      rcases ht with ht | ht
      · exact .inr (.inl ⟨_, ht⟩)
      · exact .inr (.inr ⟨_, ht⟩)
  · intro i v m₁ news₁ h tk oI _ hP hJ hIn F₁ N₁
    exact turn _ i v m₁ news₁ h tk oI (by simpa using hP) hJ hIn F₁ N₁
  · intro m₁ news₁ h tk hJ F₁ N₁
    exact done m₁ news₁ h tk hJ F₁ N₁

abbrev tupOf (its : Array Value) (n : Nat) : Obj := { cls := .type "tuple", data := .seq its n }

theorem iterTup {t : Addr} {vs : List Value} {ep : Nat} {m₀ : Str → Option Value} {news : List (Addr × Obj)}
    (J : Nat → (Str → Option Value) → List (Addr × Obj) → Prop) (hh : A.handled = none) (ht : Lies h₀ J t (tupOf vs.toArray ep))
    (F : Fr h₀ env.locals s.heap m₀) (N : News h₀ env.locals s.heap news) (hj : J 0 m₀ news)
    (turn : ∀ I i v m₁ news₁ h tk oI, vs[i]? = some v → J i m₁ news₁ → (∀ p ∈ news₁, p.1 ≠ I) → Fr h₀ env.locals h (fun y => if y = x then some v else m₁ y) → News h₀ env.locals h ((I, oI) :: news₁) →
      wpAny (model prog w) A (execs body env) (PostG h₀ env.locals (J (i + 1)) I oI { s with heap := h, toks := tk } Q) E { s with heap := h, toks := tk })
    (done : ∀ m₁ news₁ h tk, J vs.length m₁ news₁ → Fr h₀ env.locals h m₁ → News h₀ env.locals h news₁ → Q .next { s with heap := h, toks := tk }) :
    wpAny (model prog w) A (pyIter (.ref t)) (fun it s₂ => LoopAtV prog w A h₀ env x body Q E it s₂) E s := by
  have ho : s.heap.get? t = some (tupOf vs.toArray ep) := by
    rcases ht with ht | ht
    · exact F.keep _ _ ht
    · exact (N _ (ht _ _ _ hj)).1
  have hls : s.heap.IsTuple t vs.toArray := ⟨_, ho, rfl, _, rfl⟩
  have hlt : t < s.heap.objs.size := Heap.lt_size ho
  have hne : t ≠ s.heap.objs.size := Nat.ne_of_lt hlt
  refine wpAny_pyIter_tuple hls ?_
  have W := Walks.tuple (prog := prog) (w := w) hh s.heap.objs.size t hne vs.toArray
  have hlen : vs.toArray.size = vs.length := by simp
  rw [hlen] at W
  refine loopG J W ?_ (next_is_new F) (fun p hp => Nat.ne_of_lt (Heap.lt_size (N p hp).1)) ⟨⟨_, Heap.get?_push_size _ rfl, rfl, rfl⟩, hls.at fun o e => Heap.get?_push_of_some _ e⟩
    (fun i h st => let ⟨o, ho, _⟩ := st.1; ⟨o, ho⟩) ?_ (F.push _) (fun p hp => ⟨Heap.get?_push_of_some _ (N p hp).1, (N p hp).2⟩) hj ?_ ?_
  · intro hm
    rcases List.mem_cons.mp hm with e | hm
    · exact ne_size F e
    · have e := List.mem_singleton.mp hm
      rcases ht with ht | ht
      · exact old_ne F ht e
      · exact (N _ (ht _ _ _ hj)).2.1 e.symm
  · intro b hb
    rcases List.mem_cons.mp hb with e | hb
    · exact .inl e
    · rw [List.mem_singleton.mp hb]
      rcases ht with ht | ht
      · exact .inr (.inl ⟨_, ht⟩)
      · exact .inr (.inr ⟨_, ht⟩)
  · intro i v m₁ news₁ h tk oI _ hP hJ hIn F₁ N₁
    exact turn _ i v m₁ news₁ h tk oI (by simpa using hP) hJ hIn F₁ N₁
  · intro m₁ news₁ h tk hJ F₁ N₁
    exact done m₁ news₁ h tk hJ F₁ N₁

theorem iterRange {r : Addr} {a b : Int} {t₀ u₀ v₀ : Tok} {n : Nat} {m₀ : Str → Option Value} {news : List (Addr × Obj)}
    (J : Nat → (Str → Option Value) → List (Addr × Obj) → Prop) (hh : A.handled = none)
    (hr : IsRange s.heap r a b 1 t₀ u₀ v₀) (hsmall : Builtin.Range.small a b 1 = true) (hn : Builtin.Range.rangeSize a b 1 = (n : Int))
    (F : Fr h₀ env.locals s.heap m₀) (N : News h₀ env.locals s.heap news) (hj : J 0 m₀ news)
    (turn : ∀ I i t m₁ news₁ h tk oI, i < n → J i m₁ news₁ → (∀ p ∈ news₁, p.1 ≠ I) → Fr h₀ env.locals h (fun y => if y = x then some (.int (a + (i : Int)) t) else m₁ y) → News h₀ env.locals h ((I, oI) :: news₁) →
      wpAny (model prog w) A (execs body env) (PostG h₀ env.locals (J (i + 1)) I oI { s with heap := h, toks := tk } Q) E { s with heap := h, toks := tk })
    (done : ∀ m₁ news₁ h tk, J n m₁ news₁ → Fr h₀ env.locals h m₁ → News h₀ env.locals h news₁ → Q .next { s with heap := h, toks := tk }) :
    wpAny (model prog w) A (pyIter (.ref r)) (fun it s₂ => LoopAtV prog w A h₀ env x body Q E it s₂) E s := by
  refine wpAny_pyIter_range hr hsmall ?_
  have W : Walks prog w A s.heap.objs.size [s.heap.objs.size] [s.heap.objs.size] n (fun i v => ∃ t, v = .int (a + i * 1) t)
      (fun i h => IsRangeIter h s.heap.objs.size (a + (i : Nat) * 1) ((n : Int) - (i : Nat)) 1) := Walks.range hh _ a 1 n
  refine loopG J W ?_ (next_is_new F) (fun p hp => Nat.ne_of_lt (Heap.lt_size (N p hp).1)) (by show IsRangeIter _ _ _ _ _; rw [hn]; simpa using Heap.get?_push_size _ rfl)
    (fun i h st => ⟨_, st⟩) ?_ (F.push _) (fun p hp => ⟨Heap.get?_push_of_some _ (N p hp).1, (N p hp).2⟩) hj ?_ ?_
  · intro hm
    exact ne_size F (List.mem_singleton.mp hm)
  · intro b hb
    exact .inl (List.mem_singleton.mp hb)
  · intro i v m₁ news₁ h tk oI hi X98 hJ hIn F₁ N₁
    refine park fun P9 k9 => ?_
    obtain ⟨t, rfl⟩ := X98
    refine k9 ?_
    clear k9 P9
    rw [Int.mul_one] at F₁
    exact turn _ i t m₁ news₁ h tk oI hi hJ hIn F₁ N₁
  · intro m₁ news₁ h tk hJ F₁ N₁
    exact done m₁ news₁ h tk hJ F₁ N₁
end
/-! ### what follows is put behind a name: so it does not stand in each step of the walk -/
section
variable {M : Model} {A : Around} {E : Value → Shared → Prop} {s : Shared}
theorem hideQ {α : Type} {x : Sem α} {Q : α → Shared → Prop} (h : ∀ T : α → Shared → Prop, (∀ f s, Q f s → T f s) → wpAny M A x T E s) : wpAny M A x Q E s := h Q fun _ _ h => h
theorem hideS {α β : Type} {x : Sem α} {y : Sem β} {Q : β → Shared → Prop} (h : ∀ T : β → Shared → Prop, (∀ f s, Q f s → T f s) → wpAny M A x (fun _ s₂ => wpAny M A y T E s₂) E s) : wpAny M A x (fun _ s₂ => wpAny M A y Q E s₂) E s := h Q fun _ _ h => h
theorem hideP {α β γ : Type} {x : Sem α} {z : Sem γ} {y : Sem β} {Q : β → Shared → Prop} (h : ∀ T : β → Shared → Prop, (∀ f s, Q f s → T f s) → wpAny M A x (fun _ s₂ => wpAny M A z (fun _ s₃ => wpAny M A y T E s₃) E s₂) E s) :
    wpAny M A x (fun _ s₂ => wpAny M A z (fun _ s₃ => wpAny M A y Q E s₃) E s₂) E s := h Q fun _ _ h => h
end
end
section
/-! ### the sorter's plain side -/
structure PN where
  key : Str
  np : Int
  succ : List Str
noncomputable def Nd.pn (v : Nd) : PN := ⟨v.key, v.np, v.succ⟩
noncomputable def hasK (g : List PN) (k : Str) : Bool := g.any fun v => decide (v.key = k)
noncomputable def touch (g : List PN) (k : Str) : List PN := if hasK g k = true then g else g ++ [⟨k, 0, []⟩]
noncomputable def addN (g : List PN) (k : Str) (n : Int) : List PN := g.map fun v => if v.key = k then { v with np := v.np + n } else v
noncomputable def addS (g : List PN) (p k : Str) : List PN := g.map fun v => if v.key = p then { v with succ := v.succ ++ [k] } else v
noncomputable def addPs (g : List PN) (k : Str) (ps : List Str) : List PN := ps.foldl (fun g p => addS (touch g p) p k) g
noncomputable def addG (g : List PN) (k : Str) (ps : List Str) : List PN := addPs (addN (touch g k) k ps.length) k ps

theorem hasK_nds {nds : List Nd} {k : Str} : hasK (nds.map Nd.pn) k = true ↔ k ∈ nds.map (·.key) := by
  unfold hasK
  rw [List.any_map, List.any_eq_true]
  constructor
  · intro X90
    refine park fun P9 k9 => ?_
    obtain ⟨v, hv, e⟩ := X90
    refine k9 ?_
    clear k9 P9
    exact List.mem_map.mpr ⟨v, hv, of_decide_eq_true e⟩
  · intro h
    refine park fun P9 k9 => ?_
    obtain ⟨v, hv, e⟩ := List.mem_map.mp h
    refine k9 ?_
    clear k9 P9
    exact ⟨v, hv, decide_eq_true e⟩
theorem addPs_snoc (g : List PN) (k p : Str) (ps : List Str) : addPs g k (ps ++ [p]) = addS (touch (addPs g k ps) p) p k := by
  unfold addPs; rw [List.foldl_append]; rfl

/-! ### cells -/
theorem upd_mid {pre post : List (Addr × Obj)} {a : Addr} {o o' : Obj} (hs : Sep (pre ++ (a, o) :: post)) : upd (pre ++ (a, o) :: post) a o' = pre ++ (a, o') :: post := by
  rw [upd_append, upd_cons, if_pos rfl, upd_none (l := pre) fun p hp => Sep.apart hs hp (.head _), upd_none (l := post) fun p hp => Sep.head (Sep.right hs) p hp]

section
variable {C Ci : Addr} {S : So} {rest : List (Addr × Obj)}
theorem upd_n2i (hs : Sep (S.cells C Ci ++ rest)) (o' : Obj) : upd (S.cells C Ci ++ rest) S.n2i o' = ({ S with n2o := o' } : So).cells C Ci ++ rest := by
  have e : S.cells C Ci ++ rest = [(S.x, instObj C S.dx), (S.dx, S.dobj)] ++ (S.n2i, S.n2o) :: (S.rcells ++ S.nds.flatMap (Nd.cells Ci) ++ rest) := by
    unfold So.cells; simp
  rw [e] at hs ⊢
  rw [upd_mid hs]
  rfl
theorem upd_dx (hs : Sep (S.cells C Ci ++ rest)) (o' : Obj) : upd (S.cells C Ci ++ rest) S.dx o' = (S.x, instObj C S.dx) :: (S.dx, o') :: (S.n2i, S.n2o) :: (S.rcells ++ S.nds.flatMap (Nd.cells Ci)) ++ rest := by
  have e : S.cells C Ci ++ rest = [(S.x, instObj C S.dx)] ++ (S.dx, S.dobj) :: ((S.n2i, S.n2o) :: (S.rcells ++ S.nds.flatMap (Nd.cells Ci)) ++ rest) := by
    unfold So.cells; simp
  rw [e] at hs ⊢
  rw [upd_mid hs]
  rfl
theorem upd_nx {a b : List Nd} {v : Nd} (hn : S.nds = a ++ v :: b) (hs : Sep (S.cells C Ci ++ rest)) (v' : Nd) (h1 : v'.x = v.x) (h2 : v'.dx = v.dx) (h3 : v'.sa = v.sa) (h4 : v'.svs = v.svs) (h5 : v'.sn = v.sn) :
    upd (S.cells C Ci ++ rest) v.x (v'.info Ci) = ({ S with nds := a ++ v' :: b } : So).cells C Ci ++ rest := by
  have e : S.cells C Ci ++ rest = ([(S.x, instObj C S.dx), (S.dx, S.dobj), (S.n2i, S.n2o)] ++ S.rcells ++ a.flatMap (Nd.cells Ci)) ++ (v.x, v.info Ci) :: ((v.dx, dictOf [] 0) :: (v.sa, W.listOf v.svs.toArray v.sn) :: (b.flatMap (Nd.cells Ci) ++ rest)) := by
    unfold So.cells; rw [hn]; simp [Nd.cells]
  rw [e] at hs ⊢
  rw [upd_mid hs]
  unfold So.cells
  simp [Nd.cells, h1, h2, h3, h4, h5]
  exact ⟨rfl, rfl⟩
theorem upd_ns {a b : List Nd} {v : Nd} (hn : S.nds = a ++ v :: b) (hs : Sep (S.cells C Ci ++ rest)) (v' : Nd) (h1 : v'.x = v.x) (h2 : v'.info Ci = v.info Ci) (h3 : v'.sa = v.sa) (h4 : v'.dx = v.dx) :
    upd (S.cells C Ci ++ rest) v.sa (W.listOf v'.svs.toArray v'.sn) = ({ S with nds := a ++ v' :: b } : So).cells C Ci ++ rest := by
  have e : S.cells C Ci ++ rest = ([(S.x, instObj C S.dx), (S.dx, S.dobj), (S.n2i, S.n2o)] ++ S.rcells ++ a.flatMap (Nd.cells Ci) ++ [(v.x, v.info Ci), (v.dx, dictOf [] 0)]) ++ (v.sa, W.listOf v.svs.toArray v.sn) :: (b.flatMap (Nd.cells Ci) ++ rest) := by
    unfold So.cells; rw [hn]; simp [Nd.cells]
  rw [e] at hs ⊢
  rw [upd_mid hs]
  unfold So.cells
  simp [Nd.cells, h1, h2, h3, h4]
  exact ⟨rfl, rfl⟩
theorem cells_snoc (v : Nd) : (v.cells Ci ++ (S.cells C Ci ++ rest)).Perm (({ S with nds := S.nds ++ [v] } : So).cells C Ci ++ rest) := by
  have e : ({ S with nds := S.nds ++ [v] } : So).cells C Ci ++ rest = S.cells C Ci ++ (v.cells Ci ++ rest) := by
    unfold So.cells; simp; exact ⟨rfl, rfl⟩
  rw [e, ← List.append_assoc, ← List.append_assoc]
  exact List.Perm.append_right _ List.perm_append_comm
end

theorem keys_split {a b : List Nd} {v : Nd} (hn : ((a ++ v :: b).map (·.key)).Nodup) : (∀ u ∈ a, u.key ≠ v.key) ∧ ∀ u ∈ b, u.key ≠ v.key := by
  rw [List.map_append, List.map_cons] at hn
  have h := List.nodup_append.mp hn
  refine ⟨fun u hu e => ?_, fun u hu e => ?_⟩
  · exact h.2.2 _ (List.mem_map.mpr ⟨u, hu, rfl⟩) _ (.head _) e
  · exact (List.nodup_cons.mp h.2.1).1 (List.mem_map.mpr ⟨u, hu, e⟩)
theorem map_one {α : Type} {a b : List Nd} {v v' : Nd} {f : PN → PN} (hn : ((a ++ v :: b).map (·.key)).Nodup) (hv : v'.pn = f v.pn) (hf : ∀ u : PN, u.key ≠ v.key → f u = u) (_ : α) :
    (a ++ v' :: b).map Nd.pn = ((a ++ v :: b).map Nd.pn).map f := by
  refine park fun P9 k9 => ?_
  obtain ⟨ha, hb⟩ := keys_split hn
  refine k9 ?_
  clear k9 P9
  have side : ∀ l : List Nd, (∀ u ∈ l, u.key ≠ v.key) → l.map Nd.pn = (l.map Nd.pn).map f := fun l hl => by
    rw [List.map_map]
    refine List.map_congr_left fun u hu => ?_
    exact (hf u.pn (hl u hu)).symm
  simp only [List.map_append, List.map_cons]
  rw [hv, ← side a ha, ← side b hb]
theorem pn_addN {a b : List Nd} {v v' : Nd} {n : Int} (hn : ((a ++ v :: b).map (·.key)).Nodup) (hv : v'.pn = { v.pn with np := v.np + n }) :
    (a ++ v' :: b).map Nd.pn = addN ((a ++ v :: b).map Nd.pn) v.key n :=
  map_one hn (by rw [hv]; simp [Nd.pn]) (fun u hu => by simp [hu]) ()
theorem pn_addS {a b : List Nd} {v v' : Nd} {k : Str} (hn : ((a ++ v :: b).map (·.key)).Nodup) (hv : v'.pn = { v.pn with succ := v.succ ++ [k] }) :
    (a ++ v' :: b).map Nd.pn = addS ((a ++ v :: b).map Nd.pn) v.key k :=
  map_one hn (by rw [hv]; simp [Nd.pn]) (fun u hu => by simp [hu]) ()
theorem ok_put {prog : Program} {w : World} {S : So} {a b : List Nd} {v v' : Nd} (hn : S.nds = a ++ v :: b) (ok : S.ok prog w) (hk : v'.key = v.key) (hx : v'.x = v.x) (hv : v'.ok) :
    ({ S with nds := a ++ v' :: b } : So).ok prog w where
  dict := by
    have := ok.dict
    rw [hn] at this
    simp only [List.map_append, List.map_cons] at this ⊢
    rw [show Nd.pair v' = Nd.pair v from by unfold Nd.pair; rw [hk, hx]]
    exact this
  low := ok.low
  nds := fun u hu => by
    rcases List.mem_append.mp hu with hu | hu
    · exact ok.nds u (by rw [hn]; exact List.mem_append_left _ hu)
    · rcases List.mem_cons.mp hu with rfl | hu
      · exact hv
      · exact ok.nds u (by rw [hn]; exact List.mem_append_right _ (.tail _ hu))
  rds := ok.rds
section
variable {C Ci : Addr} {S : So} {rest : List (Addr × Obj)} {h₀ h : Heap} {L : Addr} {a b : List Nd} {v : Nd} {o' : Obj}
theorem news_nx (N : News h₀ L h (upd (S.cells C Ci ++ rest) v.x o')) (hn : S.nds = a ++ v :: b) (hs : Sep (S.cells C Ci ++ rest)) {np' : Int} {pt' : Tok} (ho : o' = ({ v with np := np', pt := pt' } : Nd).info Ci) :
    News h₀ L h (({ S with nds := a ++ { v with np := np', pt := pt' } :: b } : So).cells C Ci ++ rest) ∧ Sep (({ S with nds := a ++ { v with np := np', pt := pt' } :: b } : So).cells C Ci ++ rest) := by
  have e := upd_nx hn hs { v with np := np', pt := pt' } rfl rfl rfl rfl rfl
  rw [← ho] at e
  exact ⟨e ▸ N, e ▸ hs.upd⟩
theorem news_ns (N : News h₀ L h (upd (S.cells C Ci ++ rest) v.sa o')) (hn : S.nds = a ++ v :: b) (hs : Sep (S.cells C Ci ++ rest)) {sc : List Str} {svs : List Value} {sn : Nat} (ho : o' = W.listOf svs.toArray sn) :
    News h₀ L h (({ S with nds := a ++ { v with succ := sc, svs := svs, sn := sn } :: b } : So).cells C Ci ++ rest) ∧ Sep (({ S with nds := a ++ { v with succ := sc, svs := svs, sn := sn } :: b } : So).cells C Ci ++ rest) := by
  have e := upd_ns hn hs { v with succ := sc, svs := svs, sn := sn } rfl rfl rfl rfl
  rw [← ho] at e
  exact ⟨e ▸ N, e ▸ hs.upd⟩
end
theorem So.mem_dx0 {C Ci : Addr} {S : So} (hr : S.rdy = none) : (S.dx, dictOf (sorterEs S.hs S.tk S.n2i .none (.int S.npo S.t1) (.int S.nfi S.t2)) S.dn) ∈ S.cells C Ci := by
  have h : (S.dx, S.dobj) ∈ S.cells C Ci := .tail _ (.head _)
  unfold So.dobj So.rv at h
  rw [hr] at h
  exact h
end
section
theorem bind_rest1 {fd : FuncData} {n1 nr : Str} {p1 p3 : Pos} {v1 : Value} {vs : List Value}
    (hp : fd.params = { posonlyargs := [], args := [⟨n1, none, p1⟩], vararg := some ⟨nr, none, p3⟩, kwonlyargs := [], kw_defaults := [], kwarg := none, defaults := [] }) (hd : fd.defaults = .none) :
    bindArgs fd ⟨v1 :: vs, []⟩ = (do let t ← newTuple vs; pure [(n1, v1), (nr, t)]) := by
  have h : List.lookup n1 [(n1, v1)] = some v1 := by simp [List.lookup]
  refine park fun P9 k9 => ?_
  obtain ⟨_, _, _, _, _, _, _, _, _, _, _, _⟩ := fd
  refine k9 ?_
  clear k9 P9
  subst hp hd
  unfold bindArgs
  dsimp [seqItems?, notAStandIn, -List.lookup]
  simp [h]
theorem bind_rest2 {fd : FuncData} {n1 n2 nr : Str} {p1 p2 p3 : Pos} {v1 v2 : Value} {vs : List Value}
    (hp : fd.params = { posonlyargs := [], args := [⟨n1, none, p1⟩, ⟨n2, none, p2⟩], vararg := some ⟨nr, none, p3⟩, kwonlyargs := [], kw_defaults := [], kwarg := none, defaults := [] }) (hd : fd.defaults = .none) (hne : (n2 == n1) = false) :
    bindArgs fd ⟨v1 :: v2 :: vs, []⟩ = (do let t ← newTuple vs; pure [(n1, v1), (n2, v2), (nr, t)]) := by
  have h : List.lookup n1 [(n1, v1), (n2, v2)] = some v1 := by simp [List.lookup]
  have h2 : List.lookup n2 [(n1, v1), (n2, v2)] = some v2 := by simp [List.lookup, hne]
  refine park fun P9 k9 => ?_
  obtain ⟨_, _, _, _, _, _, _, _, _, _, _, _⟩ := fd
  refine k9 ?_
  clear k9 P9
  subst hp hd
  unfold bindArgs
  dsimp [seqItems?, notAStandIn, -List.lookup]
  simp [h, h2]

section
variable {prog : Program} {w : World} {A A₀ : Around} {K : Frag} {base h₀ : Heap} {L : Addr} {m : Str → Option Value} {news : List (Addr × Obj)} {s : Shared} {p : Program} {loose : List Str} {mean : ExcName → Option Value} {mg mb : Str → Option Value}
theorem code_rest {env : Env} {outer : List Env} {R : Result → Shared → Prop} {name qual : Str} {params : Arguments} {body : List Stmt} {scope : Scope} {dV kV doc pm cdv ct oc : Value} {an od : Option Addr} {osl : Array (Option Value)} {f : Addr} {args : Args} {vs : List Value} {pre : List (Str × Value)} {nr : Str}
    (B : Below A₀ base outer h₀) (F : Fr h₀ L s.heap m) (X₀ : K.In h₀) (N : News h₀ L s.heap news) (T : Top p loose mean mg mb h₀) (hA : A.frames = some (env :: outer)) (hf : env.frame = some L) (hke : env.scope.kind = .function)
    (ho : K.lookup f = some ⟨oc, od, .func (fnOf name qual params body scope dV kV doc pm an cdv ct), osl⟩) (hcd : codeIn K cdv qual = true) (hroom : A.depth < recursionLimit)
    (hb : bindArgs (fnOf name qual params body scope dV kV doc pm an cdv ct) args = (do let t ← newTuple vs; pure (pre ++ [(nr, t)]))) (hsz : vs.length ≤ sizeLine)
    (hloc : ∀ D, ∀ y ∈ pre ++ [(nr, Value.ref D)], scope.names.lookup y.1 = some .local)
    (h : ∀ D g L' h₁, (∀ p ∈ news, p.1 < D) → Fr h₀ L g m → Fr g L' h₁ (fun y => (pre ++ [(nr, Value.ref D)]).reverse.lookup y) → News g L' h₁ ((D, ({ cls := .type "tuple", data := .seq vs.toArray } : Obj)) :: news) → Below A base (env :: outer) g → K.In g → Top p loose mean mg mb g →
      wpAny (model prog w) (A.deeper (envOf qual scope L' f cdv)) (execs body (envOf qual scope L' f cdv))
        (fun fl s' => LeaveK h₀ L m g R (match fl with | .ret v => v | _ => .none) s')
        (fun e s' => wpAny (model prog w) (A.deeper (envOf qual scope L' f cdv)) (leaving (envOf qual scope L' f cdv) e) (fun _ s'' => R (.error e) s'') (fun e' s'' => R (.error e') s'') s')
        { s with heap := h₁, toks := s.toks + (pre ++ [(nr, Value.ref D)]).length })
    (hco : scope.isCoroutine = false) (hgen : scope.isGenerator = false) (hk : scope.kind = .function)
    (hcell : ∀ x ∈ scope.names, x.2 ≠ .cell) : codeAny (model prog w) A (.call (.ref f) args) R s := by
  refine codeAny_call_function (fd := fnOf name qual params body scope dV kV doc pm an cdv ct) (body := body) hroom ((X₀.keeps F.keep) _ _ ho) rfl hco hgen rfl (codeRec_of (X₀.keeps F.keep) hcd) ?_
  rw [hb]
  refine wpAny_bind (newTuple_N F N (fun h' F' N' => wpAny_pure ?_) hsz)
  exact kp_frame (cl := []) (s := { s with heap := h' }) B F' N' T.nolimit hA hf hke (hloc _) (fun g L' h₁ FG FL NG BG st => h _ g L' h₁ (fun q hq => Heap.lt_size (N q hq).1) FG FL NG BG (X₀.keeps st) (T.keeps st)) hcell hk
end

section
variable {prog : Program} {w : World} {A : Around} {E : Value → Shared → Prop} {s : Shared} {h₀ : Heap} {L t : Addr} {m : Str → Option Value} {news : List (Addr × Obj)} {vs : List Value} {n : Nat}
theorem len_tupM {Q : Value → Shared → Prop} (N : News h₀ L s.heap news) (hm : (t, tupOf vs.toArray n) ∈ news) (hz : vs.length ≤ 1000000) (h : Q (.int (vs.length : Nat) (s.toks + 1)) { s with toks := s.toks + 1 + 1 }) :
    wpAny (model prog w) A (call (.builtin "len") [.ref t]) Q E s := by
  refine len_tuple (News.isTup N hm) (by simp; omega) ?_
  simpa using h
theorem len_listM {Q : Value → Shared → Prop} (N : News h₀ L s.heap news) (hm : (t, W.listOf vs.toArray n) ∈ news) (hz : vs.length ≤ 1000000) (h : Q (.int (vs.length : Nat) (s.toks + 1)) { s with toks := s.toks + 1 + 1 }) :
    wpAny (model prog w) A (call (.builtin "len") [.ref t]) Q E s := by
  refine len_list (News.isList N hm) (by simp; omega) ?_
  simpa using h
end

section
variable {prog : Program} {w : World} {A : Around} {E : Value → Shared → Prop} {s : Shared} {h₀ : Heap} {L t : Addr} {m : Str → Option Value} {news : List (Addr × Obj)} {vs : List Value} {n : Nat} {x : Value}
theorem append_M {Q : Value → Shared → Prop} (F : Fr h₀ L s.heap m) (N : News h₀ L s.heap news) (hs : Sep news) (hm : (t, W.listOf vs.toArray n) ∈ news) (hz : vs.length ≤ 1000000)
    (h : ∀ h', Fr h₀ L h' m → News h₀ L h' (upd news t (W.listOf (vs ++ [x]).toArray (n + 1))) → Q .none { s with heap := h' }) : wpAny (model prog w) A (call (.builtin "list.append") [.ref t, x]) Q E s := by
  refine append_K F N (upd_of hs hm) (fun h' F' N' => h h' F' ?_) (by rw [List.size_toArray]; exact seven_le hz)
  rw [List.push_toArray] at N'
  exact N'
end

theorem succ_touch {g : List PN} {k : Str} {b : Nat} (h : ∀ v ∈ g, v.succ.length ≤ b) : ∀ v ∈ touch g k, v.succ.length ≤ b := by
  intro v hv
  unfold touch at hv
  split at hv
  · exact h v hv
  · rcases List.mem_append.mp hv with hv | hv
    · exact h v hv
    · rw [List.mem_singleton.mp hv]; exact Nat.zero_le _
theorem succ_addN {g : List PN} {k : Str} {n : Int} {b : Nat} (h : ∀ v ∈ g, v.succ.length ≤ b) : ∀ v ∈ addN g k n, v.succ.length ≤ b := by
  intro v hv
  refine park fun P9 k9 => ?_
  obtain ⟨u, hu, rfl⟩ := List.mem_map.mp hv
  refine k9 ?_
  clear k9 P9
  split
  · exact h u hu
  · exact h u hu
theorem succ_addS {g : List PN} {p k : Str} {b : Nat} (h : ∀ v ∈ g, v.succ.length ≤ b) : ∀ v ∈ addS g p k, v.succ.length ≤ b + 1 := by
  intro v hv
  refine park fun P9 k9 => ?_
  obtain ⟨u, hu, rfl⟩ := List.mem_map.mp hv
  refine k9 ?_
  clear k9 P9
  split
  · have := h u hu; simp; exact this
  · exact Nat.le_succ_of_le (h u hu)
theorem succ_addPs {k : Str} : ∀ {ps : List Str} {g : List PN} {b : Nat}, (∀ v ∈ g, v.succ.length ≤ b) → ∀ v ∈ addPs g k ps, v.succ.length ≤ b + ps.length
  | [], _, _, h => h
  | p :: ps, g, b, h => by
    have := succ_addPs (k := k) (ps := ps) (succ_addS (p := p) (k := k) (succ_touch (k := p) h))
    intro v hv
    have := this v hv
    rw [List.length_cons]; omega

theorem ite_loc {α : Type} {x y : Str} {a b u : α} (h : x ≠ y) (e : b = u) : (if x = y then a else b) = u := by rw [if_neg h]; exact e
theorem ite_here {α : Type} {x : Str} {a b : α} : (if x = x then a else b) = a := if_pos rfl
end
section
/-! ### more of the sorter, plain -/
noncomputable def setN (g : List PN) (k : Str) (n : Int) : List PN := g.map fun v => if v.key = k then { v with np := n } else v
noncomputable def outG (g : List PN) (ks : List Str) : List PN := ks.foldl (fun g k => setN g k (-1)) g
noncomputable def npOf (g : List PN) (k : Str) : Int := ((g.find? fun v => decide (v.key = k)).map (·.np)).getD 0
noncomputable def sucOf (g : List PN) (k : Str) : List Str := ((g.find? fun v => decide (v.key = k)).map (·.succ)).getD []
noncomputable def lessS (st : List PN × List Str) (c : Str) : List PN × List Str := (addN st.1 c (-1), if npOf (addN st.1 c (-1)) c = 0 then st.2 ++ [c] else st.2)
noncomputable def doneOne (st : List PN × List Str) (k : Str) : List PN × List Str := (sucOf st.1 k).foldl lessS (setN st.1 k (-2), st.2)
noncomputable def DoneOk : List PN × List Str → List Str → Prop
  | _, [] => True
  | st, k :: ks => npOf st.1 k = -1 ∧ k ∈ st.1.map (·.key) ∧ DoneOk (doneOne st k) ks
theorem outG_snoc (g : List PN) (ks : List Str) (k : Str) : outG g (ks ++ [k]) = setN (outG g ks) k (-1) := by unfold outG; rw [List.foldl_append]; rfl
theorem find_pn {nds : List Nd} (hn : (nds.map (·.key)).Nodup) {v : Nd} (hv : v ∈ nds) : (nds.map Nd.pn).find? (fun u => decide (u.key = v.key)) = some v.pn := by
  induction nds with
  | nil => cases hv
  | cons u r ih =>
    rw [List.map_cons, List.nodup_cons] at hn
    rw [List.map_cons, List.find?_cons]
    by_cases h : u.key = v.key
    · rcases List.mem_cons.mp hv with rfl | hv
      · simp [Nd.pn]
      · exact absurd (List.mem_map.mpr ⟨v, hv, h.symm⟩) hn.1
    · rw [show (decide ((Nd.pn u).key = v.key)) = false from decide_eq_false h]
      rcases List.mem_cons.mp hv with rfl | hv
      · exact absurd rfl h
      · exact ih hn.2 hv
theorem npOf_nd {nds : List Nd} (hn : (nds.map (·.key)).Nodup) {v : Nd} (hv : v ∈ nds) : npOf (nds.map Nd.pn) v.key = v.np := by unfold npOf; rw [find_pn hn hv]; rfl
theorem sucOf_nd {nds : List Nd} (hn : (nds.map (·.key)).Nodup) {v : Nd} (hv : v ∈ nds) : sucOf (nds.map Nd.pn) v.key = v.succ := by unfold sucOf; rw [find_pn hn hv]; rfl
theorem keys_pn (nds : List Nd) : (nds.map Nd.pn).map (·.key) = nds.map (·.key) := by rw [List.map_map]; rfl
theorem pn_setN {a b : List Nd} {v v' : Nd} {n : Int} (hn : ((a ++ v :: b).map (·.key)).Nodup) (hv : v'.pn = { v.pn with np := n }) :
    (a ++ v' :: b).map Nd.pn = setN ((a ++ v :: b).map Nd.pn) v.key n :=
  map_one hn (by rw [hv]; simp [Nd.pn]) (fun u hu => by simp [hu]) ()
/-- what a node keeps while the sorter runs -/
noncomputable def Nd.sk (v : Nd) : Nd := { v with np := 0, pt := 0 }
theorem sk_put {a b : List Nd} {v : Nd} {np : Int} {pt : Tok} : (a ++ { v with np := np, pt := pt } :: b).map Nd.sk = (a ++ v :: b).map Nd.sk := by simp [Nd.sk]
theorem sk_keys {nds nds' : List Nd} (h : nds'.map Nd.sk = nds.map Nd.sk) : nds'.map (·.key) = nds.map (·.key) := by
  have e : ∀ l : List Nd, l.map (·.key) = (l.map Nd.sk).map (·.key) := fun l => by rw [List.map_map]; rfl
  rw [e, e nds, h]
theorem sk_mem {nds nds' : List Nd} (h : nds'.map Nd.sk = nds.map Nd.sk) {v : Nd} (hv : v ∈ nds) : ∃ v' ∈ nds', v'.sk = v.sk := by
  have : v.sk ∈ nds'.map Nd.sk := by rw [h]; exact List.mem_map.mpr ⟨v, hv, rfl⟩
  refine park fun P9 k9 => ?_
  obtain ⟨v', hv', e⟩ := List.mem_map.mp this
  refine k9 ?_
  clear k9 P9
  exact ⟨v', hv', e⟩
theorem sk_len {nds nds' : List Nd} (h : nds'.map Nd.sk = nds.map Nd.sk) : nds'.length = nds.length := by
  have := congrArg List.length h
  simpa using this
theorem key_at {nds : List Nd} {k : Str} (h : k ∈ nds.map (·.key)) : ∃ a v b, nds = a ++ v :: b ∧ v.key = k := by
  refine park fun P9 k9 => ?_
  obtain ⟨v, hv, e⟩ := List.mem_map.mp h
  obtain ⟨a, b, e2⟩ := List.append_of_mem hv
  refine k9 ?_
  clear k9 P9
  exact ⟨a, v, b, e2, e⟩

section
variable {C Ci : Addr} {S : So} {rest : List (Addr × Obj)} {h₀ h : Heap} {L : Addr} {r : Addr × List Value × Nat} {o' : Obj}
theorem So.mem_dx1 (hr : S.rdy = some r) : (S.dx, dictOf (sorterEs S.hs S.tk S.n2i (.ref r.1) (.int S.npo S.t1) (.int S.nfi S.t2)) S.dn) ∈ S.cells C Ci := by
  have h : (S.dx, S.dobj) ∈ S.cells C Ci := .tail _ (.head _)
  unfold So.dobj So.rv at h
  rw [hr] at h
  exact h
theorem So.mem_ra (hr : S.rdy = some r) : (r.1, W.listOf r.2.1.toArray r.2.2) ∈ S.cells C Ci := by
  unfold So.cells So.rcells
  rw [hr]
  exact .tail _ (.tail _ (.tail _ (.head _)))
theorem upd_ra (hr : S.rdy = some r) (hs : Sep (S.cells C Ci ++ rest)) (vs : List Value) (n : Nat) (rds : List Str) :
    upd (S.cells C Ci ++ rest) r.1 (W.listOf vs.toArray n) = ({ S with rdy := some (r.1, vs, n), rds := rds } : So).cells C Ci ++ rest := by
  have e : S.cells C Ci ++ rest = [(S.x, instObj C S.dx), (S.dx, S.dobj), (S.n2i, S.n2o)] ++ (r.1, W.listOf r.2.1.toArray r.2.2) :: (S.nds.flatMap (Nd.cells Ci) ++ rest) := by
    unfold So.cells So.rcells; rw [hr]; simp
  have e2 : ({ S with rdy := some (r.1, vs, n), rds := rds } : So).cells C Ci ++ rest = [(S.x, instObj C S.dx), (S.dx, S.dobj), (S.n2i, S.n2o)] ++ (r.1, W.listOf vs.toArray n) :: (S.nds.flatMap (Nd.cells Ci) ++ rest) := by
    unfold So.cells So.rcells So.dobj So.rv; rw [hr]; simp
  rw [e2, e]
  rw [e] at hs
  rw [upd_mid hs]
theorem news_dx (S' : So) (N : News h₀ L h (upd (S.cells C Ci ++ rest) S.dx o')) (hs : Sep (S.cells C Ci ++ rest)) (ho : o' = S'.dobj) (h1 : S'.x = S.x) (h2 : S'.dx = S.dx) (h3 : S'.n2i = S.n2i) (h4 : S'.n2o = S.n2o) (h5 : S'.nds = S.nds) (h6 : S'.rdy = S.rdy) :
    News h₀ L h (S'.cells C Ci ++ rest) ∧ Sep (S'.cells C Ci ++ rest) := by
  have e := upd_dx (C := C) (Ci := Ci) (rest := rest) hs o'
  have e2 : S'.cells C Ci ++ rest = (S.x, instObj C S.dx) :: (S.dx, o') :: (S.n2i, S.n2o) :: (S.rcells ++ S.nds.flatMap (Nd.cells Ci)) ++ rest := by
    unfold So.cells So.rcells; rw [h1, h2, h3, h4, h5, h6, ho]
  rw [← e2] at e
  exact ⟨e ▸ N, e ▸ hs.upd⟩
end
section
variable {hs : Nat → Int} {tk : Nat → Tok} {n2i : Addr} {rv np nf v k : Value} {n : Nat} {x : Int}
theorem put_rdy : (putL (Str.ofString "_ready_nodes") x k v (sorterEs hs tk n2i rv np nf), putN (Str.ofString "_ready_nodes") (sorterEs hs tk n2i rv np nf) n) = (sorterEs hs tk n2i v np nf, n) := by first | rfl | with_unfolding_all rfl
theorem put_npo : (putL (Str.ofString "_npassedout") x k v (sorterEs hs tk n2i rv np nf), putN (Str.ofString "_npassedout") (sorterEs hs tk n2i rv np nf) n) = (sorterEs hs tk n2i rv v nf, n) := by first | rfl | with_unfolding_all rfl
theorem put_nfi : (putL (Str.ofString "_nfinished") x k v (sorterEs hs tk n2i rv np nf), putN (Str.ofString "_nfinished") (sorterEs hs tk n2i rv np nf) n) = (sorterEs hs tk n2i rv np v, n) := by first | rfl | with_unfolding_all rfl
end
theorem done_at : ∀ {ks : List Str} {st : List PN × List Str} {i : Nat} {y : Str}, DoneOk st ks → ks[i]? = some y → npOf ((ks.take i).foldl doneOne st).1 y = -1 ∧ y ∈ ((ks.take i).foldl doneOne st).1.map (·.key)
  | [], _, _, _, _, h => by simp at h
  | k :: ks, st, 0, y, d, h => by
    obtain rfl : k = y := by simpa using h
    exact ⟨d.1, d.2.1⟩
  | k :: ks, st, i + 1, y, d, h => done_at (ks := ks) d.2.2 (by simpa using h)
theorem sk_eq {v v' : Nd} (h : v'.sk = v.sk) : v'.key = v.key ∧ v'.succ = v.succ ∧ v'.x = v.x ∧ v'.dx = v.dx ∧ v'.sa = v.sa ∧ v'.kt = v.kt ∧ v'.svs = v.svs ∧ v'.sn = v.sn := by
  unfold Nd.sk at h
  injection h with h1 h2 h3 h4 h5 h6 h7 h8 h9 h10
  exact ⟨h1, h3, h4, h5, h6, h7, h9, h10⟩
theorem So.cells_rds {C Ci : Addr} {S : So} {r : List Str} : ({ S with rds := r } : So).cells C Ci = S.cells C Ci := rfl
theorem foldl_take {α β : Type} {f : α → β → α} {l : List β} {j : Nat} {c : β} {z : α} (h : l[j]? = some c) : (l.take (j + 1)).foldl f z = f ((l.take j).foldl f z) c := by
  rw [List.take_add_one, h, List.foldl_append]; rfl
theorem npOf_addN {g : List PN} {c : Str} {n : Int} (h : c ∈ g.map (·.key)) : npOf (addN g c n) c = npOf g c + n := by
  unfold npOf addN
  induction g with
  | nil => cases h
  | cons u r ih =>
    rw [List.map_cons, List.find?_cons, List.find?_cons]
    by_cases hu : u.key = c
    · simp [hu]
    · have hc : c ∈ r.map (·.key) := by
        rcases List.mem_cons.mp h with h | h
        · exact absurd h.symm hu
        · exact h
      simp [hu]
      simpa using ih hc
theorem news_nxE {C Ci : Addr} {S : So} {rest : List (Addr × Obj)} {h₀ h : Heap} {L : Addr} {a b : List Nd} {v : Nd} {o' : Obj} (np' : Int) (N : News h₀ L h (upd (S.cells C Ci ++ rest) v.x o')) (hn : S.nds = a ++ v :: b) (hs : Sep (S.cells C Ci ++ rest)) {pt' : Tok} (ho : o' = ({ v with np := np', pt := pt' } : Nd).info Ci) :
    ∃ pt, News h₀ L h (({ S with nds := a ++ { v with np := np', pt := pt } :: b } : So).cells C Ci ++ rest) ∧ Sep (({ S with nds := a ++ { v with np := np', pt := pt } :: b } : So).cells C Ci ++ rest) := ⟨_, news_nx N hn hs ho⟩
theorem news_nx_raE {C Ci : Addr} {S : So} {rest : List (Addr × Obj)} {h₀ h : Heap} {L : Addr} {a b : List Nd} {v : Nd} {o' : Obj} {r : Addr × List Value × Nat} {vs : List Value} {n : Nat} (np' : Int) (N : News h₀ L h (upd (upd (S.cells C Ci ++ rest) v.x o') r.1 (W.listOf vs.toArray n))) (hn : S.nds = a ++ v :: b) (hr : S.rdy = some r) (hs : Sep (S.cells C Ci ++ rest)) {pt' : Tok} (ho : o' = ({ v with np := np', pt := pt' } : Nd).info Ci) (rds : List Str) :
    ∃ pt, News h₀ L h (({ S with nds := a ++ { v with np := np', pt := pt } :: b, rdy := some (r.1, vs, n), rds := rds } : So).cells C Ci ++ rest) ∧ Sep (({ S with nds := a ++ { v with np := np', pt := pt } :: b, rdy := some (r.1, vs, n), rds := rds } : So).cells C Ci ++ rest) := by
  have e := upd_nx (C := C) (Ci := Ci) (rest := rest) hn hs { v with np := np', pt := pt' } rfl rfl rfl rfl rfl
  have s2 : Sep (({ S with nds := a ++ { v with np := np', pt := pt' } :: b } : So).cells C Ci ++ rest) := e ▸ hs.upd
  have e2 := upd_ra (S := { S with nds := a ++ { v with np := np', pt := pt' } :: b }) (C := C) (Ci := Ci) (rest := rest) hr s2 vs n rds
  refine ⟨pt', ?_, ?_⟩
  · rw [ho, e, e2] at N
    exact N
  · rw [← e2]; exact s2.upd
theorem news_nfiE {C Ci : Addr} {S : So} {rest : List (Addr × Obj)} {h₀ h : Heap} {L : Addr} {o' : Obj} (nf : Int) (N : News h₀ L h (upd (S.cells C Ci ++ rest) S.dx o')) (hs : Sep (S.cells C Ci ++ rest)) {t : Tok} (ho : o' = ({ S with nfi := nf, t2 := t } : So).dobj) :
    ∃ t, News h₀ L h (({ S with nfi := nf, t2 := t } : So).cells C Ci ++ rest) ∧ Sep (({ S with nfi := nf, t2 := t } : So).cells C Ci ++ rest) := ⟨t, news_dx _ N hs ho rfl rfl rfl rfl rfl rfl⟩
theorem done_take {ks : List Str} {st : List PN × List Str} {i : Nat} {y : Str} (h : ks[i]? = some y) : (ks.take (i + 1)).foldl doneOne st = doneOne ((ks.take i).foldl doneOne st) y := foldl_take h
end
section
/-! ### the sorter, plain: look-ups -/
noncomputable def kys (g : List PN) : List Str := g.map (·.key)
theorem hasK_iff {g : List PN} {k : Str} : hasK g k = true ↔ k ∈ kys g := by
  unfold hasK kys
  rw [List.any_eq_true, List.mem_map]
  exact ⟨fun ⟨v, hv, e⟩ => ⟨v, hv, of_decide_eq_true e⟩, fun ⟨v, hv, e⟩ => ⟨v, hv, decide_eq_true e⟩⟩
theorem find_map {f : PN → PN} (hf : ∀ v, (f v).key = v.key) (g : List PN) (y : Str) : (g.map f).find? (fun v => decide (v.key = y)) = (g.find? fun v => decide (v.key = y)).map f := by
  rw [List.find?_map]
  congr 2
  funext v
  show decide ((f v).key = y) = _
  rw [hf]
theorem find_key {g : List PN} {y : Str} {v : PN} (h : g.find? (fun v => decide (v.key = y)) = some v) : v.key = y := by
  have := List.find?_some h
  exact of_decide_eq_true this
theorem find_none {g : List PN} {y : Str} : g.find? (fun v => decide (v.key = y)) = none ↔ y ∉ kys g := by
  rw [List.find?_eq_none]
  unfold kys
  rw [List.mem_map]
  exact ⟨fun h ⟨v, hv, e⟩ => h v hv (decide_eq_true e), fun h v hv e => h ⟨v, hv, of_decide_eq_true e⟩⟩
theorem kys_map {f : PN → PN} (hf : ∀ v, (f v).key = v.key) (g : List PN) : kys (g.map f) = kys g := by
  unfold kys
  rw [List.map_map]
  exact List.map_congr_left fun v _ => hf v
theorem kys_addN (g : List PN) (k : Str) (n : Int) : kys (addN g k n) = kys g := kys_map (fun v => by show (if v.key = k then ({ v with np := v.np + n } : PN) else v).key = _; split <;> rfl) g
theorem kys_addS (g : List PN) (p k : Str) : kys (addS g p k) = kys g := kys_map (fun v => by show (if v.key = p then ({ v with succ := v.succ ++ [k] } : PN) else v).key = _; split <;> rfl) g
theorem kys_setN (g : List PN) (k : Str) (n : Int) : kys (setN g k n) = kys g := kys_map (fun v => by show (if v.key = k then ({ v with np := n } : PN) else v).key = _; split <;> rfl) g
theorem np_addN {g : List PN} {k y : Str} {n : Int} : npOf (addN g k n) y = npOf g y + if y = k ∧ k ∈ kys g then n else 0 := by
  unfold npOf addN
  rw [find_map fun v => by split <;> rfl]
  cases h : g.find? (fun v => decide (v.key = y)) with
  | none =>
    rw [if_neg]
    · rfl
    · intro X90
      refine park fun P9 k9 => ?_
      obtain ⟨rfl, hk⟩ := X90
      refine k9 ?_
      clear k9 P9
      exact find_none.mp h hk
  | some v =>
    have hy := find_key h
    have hm : y ∈ kys g := hy ▸ List.mem_map.mpr ⟨v, List.mem_of_find?_eq_some h, rfl⟩
    by_cases hyk : y = k
    · subst hyk
      simp [hy, hm]
    · simp [hy, hyk]
theorem suc_addN {g : List PN} {k y : Str} {n : Int} : sucOf (addN g k n) y = sucOf g y := by
  unfold sucOf addN
  rw [find_map fun v => by split <;> rfl, Option.map_map]
  congr 2
  funext v
  show (if v.key = k then ({ v with np := v.np + n } : PN) else v).succ = _
  split <;> rfl
theorem np_addS {g : List PN} {p k y : Str} : npOf (addS g p k) y = npOf g y := by
  unfold npOf addS
  rw [find_map fun v => by split <;> rfl, Option.map_map]
  congr 2
  funext v
  show (if v.key = p then ({ v with succ := v.succ ++ [k] } : PN) else v).np = _
  split <;> rfl
theorem suc_addS {g : List PN} {p k y : Str} (hp : p ∈ kys g) : sucOf (addS g p k) y = sucOf g y ++ if y = p then [k] else [] := by
  unfold sucOf addS
  rw [find_map fun v => by split <;> rfl]
  cases h : g.find? (fun v => decide (v.key = y)) with
  | none =>
    rw [if_neg]
    · rfl
    · rintro rfl
      exact find_none.mp h hp
  | some v =>
    have hy := find_key h
    by_cases hyk : y = p
    · subst hyk
      simp [hy]
    · simp [hy, hyk]
theorem np_setN {g : List PN} {k y : Str} {n : Int} (hk : k ∈ kys g) : npOf (setN g k n) y = if y = k then n else npOf g y := by
  unfold npOf setN
  rw [find_map fun v => by split <;> rfl]
  cases h : g.find? (fun v => decide (v.key = y)) with
  | none =>
    rw [if_neg]
    · rfl
    · rintro rfl
      exact find_none.mp h hk
  | some v =>
    have hy := find_key h
    by_cases hyk : y = k
    · subst hyk
      simp [hy]
    · simp [hy, hyk]
theorem suc_setN {g : List PN} {k y : Str} {n : Int} : sucOf (setN g k n) y = sucOf g y := by
  unfold sucOf setN
  rw [find_map fun v => by split <;> rfl, Option.map_map]
  congr 2
  funext v
  show (if v.key = k then ({ v with np := n } : PN) else v).succ = _
  split <;> rfl
theorem kys_touch (g : List PN) (k : Str) : kys (touch g k) = if k ∈ kys g then kys g else kys g ++ [k] := by
  unfold touch
  by_cases h : k ∈ kys g
  · rw [if_pos h, if_pos (hasK_iff.mpr h)]
  · rw [if_neg h, if_neg fun e => h (hasK_iff.mp e)]
    unfold kys; simp
theorem np_touch {g : List PN} {k y : Str} : npOf (touch g k) y = npOf g y := by
  unfold touch
  split
  · rfl
  · rename_i h
    have hk : k ∉ kys g := fun e => h (hasK_iff.mpr e)
    unfold npOf
    rw [List.find?_append]
    cases e : g.find? (fun v => decide (v.key = y)) with
    | some v => rfl
    | none =>
      by_cases hy : k = y <;> simp [hy]
theorem suc_touch {g : List PN} {k y : Str} : sucOf (touch g k) y = sucOf g y := by
  unfold touch
  split
  · rfl
  · rename_i h
    unfold sucOf
    rw [List.find?_append]
    cases e : g.find? (fun v => decide (v.key = y)) with
    | some v => rfl
    | none =>
      by_cases hy : k = y <;> simp [hy]
theorem mem_touch {g : List PN} {k y : Str} : y ∈ kys (touch g k) ↔ y ∈ kys g ∨ y = k := by
  rw [kys_touch]
  split
  · exact ⟨.inl, fun h => h.elim id fun e => e ▸ by assumption⟩
  · simp
theorem nod_touch {g : List PN} {k : Str} (h : (kys g).Nodup) : (kys (touch g k)).Nodup := by
  rw [kys_touch]
  split
  · exact h
  · rename_i hk
    rw [List.nodup_append]
    exact ⟨h, by simp, fun a ha b hb => by rw [List.mem_singleton.mp hb]; exact fun e => hk (e ▸ ha)⟩
theorem addPs_cons (g : List PN) (k p : Str) (ps : List Str) : addPs g k (p :: ps) = addPs (addS (touch g p) p k) k ps := rfl
theorem np_addPs {k y : Str} : ∀ {ps : List Str} {g : List PN}, npOf (addPs g k ps) y = npOf g y
  | [], g => rfl
  | p :: ps, g => by rw [addPs_cons, np_addPs, np_addS, np_touch]
theorem suc_addPs {k y : Str} : ∀ {ps : List Str} {g : List PN}, sucOf (addPs g k ps) y = sucOf g y ++ List.replicate (ps.count y) k
  | [], g => by simp [addPs]
  | p :: ps, g => by
    rw [addPs_cons, suc_addPs, suc_addS (mem_touch.mpr (.inr rfl)), suc_touch, List.append_assoc, List.count_cons]
    congr 1
    by_cases h : y = p
    · subst h
      simp [List.replicate_succ]
    · have h' : ¬ p = y := fun e => h e.symm
      simp [h, h']
theorem mem_addPs {k y : Str} : ∀ {ps : List Str} {g : List PN}, y ∈ kys (addPs g k ps) ↔ y ∈ kys g ∨ y ∈ ps
  | [], g => by simp [addPs]
  | p :: ps, g => by
    rw [addPs_cons, mem_addPs, kys_addS, mem_touch, List.mem_cons, or_assoc]
theorem nod_addPs {k : Str} : ∀ {ps : List Str} {g : List PN}, (kys g).Nodup → (kys (addPs g k ps)).Nodup
  | [], g, h => h
  | p :: ps, g, h => by
    rw [addPs_cons]
    exact nod_addPs (by rw [kys_addS]; exact nod_touch h)
theorem np_addG {g : List PN} {k y : Str} {ps : List Str} : npOf (addG g k ps) y = npOf g y + if y = k then (ps.length : Int) else 0 := by
  unfold addG
  rw [np_addPs, np_addN, np_touch]
  by_cases h : y = k
  · subst h
    simp [mem_touch]
  · simp [h]
theorem suc_addG {g : List PN} {k y : Str} {ps : List Str} : sucOf (addG g k ps) y = sucOf g y ++ List.replicate (ps.count y) k := by
  unfold addG
  rw [suc_addPs, suc_addN, suc_touch]
theorem mem_addG {g : List PN} {k y : Str} {ps : List Str} : y ∈ kys (addG g k ps) ↔ y ∈ kys g ∨ y = k ∨ y ∈ ps := by
  unfold addG
  rw [mem_addPs, kys_addN, mem_touch, or_assoc]
theorem nod_addG {g : List PN} {k : Str} {ps : List Str} (h : (kys g).Nodup) : (kys (addG g k ps)).Nodup := by
  unfold addG
  exact nod_addPs (by rw [kys_addN]; exact nod_touch h)
theorem np_at {g : List PN} (hn : (kys g).Nodup) {v : PN} (hv : v ∈ g) : npOf g v.key = v.np ∧ sucOf g v.key = v.succ := by
  have : g.find? (fun u => decide (u.key = v.key)) = some v := by
    induction g with
    | nil => cases hv
    | cons u r ih =>
      unfold kys at hn ih
      rw [List.map_cons, List.nodup_cons] at hn
      rw [List.find?_cons]
      by_cases h : u.key = v.key
      · rcases List.mem_cons.mp hv with rfl | hv
        · simp
        · exact absurd (List.mem_map.mpr ⟨v, hv, h.symm⟩) hn.1
      · rw [decide_eq_false h]
        rcases List.mem_cons.mp hv with rfl | hv
        · exact absurd rfl h
        · exact ih hn.2 hv
  unfold npOf sucOf
  rw [this]
  exact ⟨rfl, rfl⟩
/-! ### all is told: a graph -/
noncomputable def addAll (ps : Str → List Str) (ks : List Str) : List PN := ks.foldl (fun g k => addG g k (ps k)) []
theorem addAll_snoc (ps : Str → List Str) (ks : List Str) (k : Str) : addAll ps (ks ++ [k]) = addG (addAll ps ks) k (ps k) := by unfold addAll; rw [List.foldl_append]; rfl
theorem snoc_ind {α : Type} {P : List α → Prop} (h0 : P []) (h1 : ∀ l a, P l → P (l ++ [a])) (l : List α) : P l := by
  have : ∀ r : List α, P r.reverse := fun r => by
    induction r with
    | nil => exact h0
    | cons a r ih => rw [List.reverse_cons]; exact h1 _ _ ih
  rw [← List.reverse_reverse l]; exact this _
theorem addAll_nod (ps : Str → List Str) (ks : List Str) : (kys (addAll ps ks)).Nodup := by
  induction ks using snoc_ind with
  | h0 => exact List.nodup_nil
  | h1 l a ih => rw [addAll_snoc]; exact nod_addG ih
theorem addAll_mem (ps : Str → List Str) (ks : List Str) {y : Str} : y ∈ kys (addAll ps ks) ↔ y ∈ ks ∨ ∃ k ∈ ks, y ∈ ps k := by
  induction ks using snoc_ind with
  | h0 => simp [addAll, kys]
  | h1 l a ih =>
    rw [addAll_snoc, mem_addG, ih, List.mem_append, List.mem_singleton]
    constructor
    · rintro ((h | ⟨k, hk, h⟩) | h | h)
      · exact .inl (.inl h)
      · exact .inr ⟨k, List.mem_append_left _ hk, h⟩
      · exact .inl (.inr h)
      · exact .inr ⟨a, by simp, h⟩
    · rintro ((h | h) | ⟨k, hk, h⟩)
      · exact .inl (.inl h)
      · exact .inr (.inl h)
      · rcases List.mem_append.mp hk with hk | hk
        · exact .inl (.inr ⟨k, hk, h⟩)
        · rw [List.mem_singleton.mp hk] at h; exact .inr (.inr h)
theorem addAll_np (ps : Str → List Str) {ks : List Str} (hn : ks.Nodup) {y : Str} : npOf (addAll ps ks) y = if y ∈ ks then ((ps y).length : Int) else 0 := by
  induction ks using snoc_ind with
  | h0 => rfl
  | h1 l a ih =>
    rw [List.nodup_append] at hn
    rw [addAll_snoc, np_addG, ih hn.1]
    by_cases h : y = a
    · subst h
      have : y ∉ l := fun hm => hn.2.2 y hm y (by simp) rfl
      simp [this]
    · simp [h]
theorem addAll_suc (ps : Str → List Str) {ks : List Str} {y : Str} : sucOf (addAll ps ks) y = ks.flatMap fun k => List.replicate ((ps k).count y) k := by
  induction ks using snoc_ind with
  | h0 => rfl
  | h1 l a ih =>
    rw [addAll_snoc, suc_addG, ih, List.flatMap_append]
    simp
theorem addAll_cnt (ps : Str → List Str) {ks : List Str} (hn : ks.Nodup) {y c : Str} : (sucOf (addAll ps ks) y).count c = if c ∈ ks then (ps c).count y else 0 := by
  rw [addAll_suc]
  induction ks with
  | nil => rfl
  | cons k r ih =>
    rw [List.nodup_cons] at hn
    rw [List.flatMap_cons, List.count_append, ih hn.2, List.count_replicate]
    by_cases h : k = c
    · subst h
      simp [hn.1]
    · have h' : ¬ c = k := fun e => h e.symm
      simp [h, h']
/-! ### a round -/
/-- the graph: who stands behind whom, how often -/
structure Gr (keys : List Str) (P S : Str → List Str) : Prop where
  nod : keys.Nodup
  pin : ∀ c ∈ keys, ∀ q ∈ P c, q ∈ keys
  sin : ∀ c, ∀ q ∈ S c, q ∈ keys
  cnt : ∀ c ∈ keys, ∀ k, (S k).count c = (P c).count k
theorem addAll_gr {ps : Str → List Str} {ks : List Str} (hn : ks.Nodup) (hp : ∀ k ∈ ks, ∀ q ∈ ps k, q ∈ ks) : Gr (kys (addAll ps ks)) ps (sucOf (addAll ps ks)) := by
  have hm : ∀ {y}, y ∈ kys (addAll ps ks) ↔ y ∈ ks := fun {y} => by
    rw [addAll_mem]
    exact ⟨fun h => h.elim id fun ⟨k, hk, h⟩ => hp k hk y h, .inl⟩
  refine ⟨addAll_nod _ _, fun c hc q hq => hm.mpr (hp c (hm.mp hc) q hq), fun c q hq => ?_, fun c hc k => ?_⟩
  · have h := List.count_pos_iff.mpr hq
    rw [addAll_cnt ps hn] at h
    by_cases e : q ∈ ks
    · exact hm.mpr e
    · rw [if_neg e] at h; lia
  · rw [addAll_cnt ps hn, if_pos (hm.mp hc)]
/-- the sorter behind what is done -/
structure Kn (keys : List Str) (P S : Str → List Str) (D : List Str) (g : List PN) (rd : List Str) : Prop where
  kye : kys g = keys
  suc : sucOf g = S
  cl : ∀ k ∈ D, k ∈ keys ∧ ∀ q ∈ P k, q ∈ D
  np : ∀ k ∈ keys, npOf g k = if k ∈ D then -2 else (((P k).filter fun q => decide (q ∉ D)).length : Int)
  rdn : rd.Nodup
  rdm : ∀ k, k ∈ rd ↔ k ∈ keys ∧ k ∉ D ∧ ∀ q ∈ P k, q ∈ D
theorem less_fold {cs : List Str} : ∀ {g : List PN} {rd : List Str}, (∀ c ∈ cs, c ∈ kys g ∧ (cs.count c : Int) ≤ npOf g c) →
    ∃ nw, (cs.foldl lessS (g, rd)).2 = rd ++ nw ∧ nw.Nodup ∧ (∀ c, c ∈ nw ↔ c ∈ cs ∧ npOf g c = (cs.count c : Int)) ∧ kys (cs.foldl lessS (g, rd)).1 = kys g ∧ sucOf (cs.foldl lessS (g, rd)).1 = sucOf g ∧
      ∀ c ∈ kys g, npOf (cs.foldl lessS (g, rd)).1 c = npOf g c - (cs.count c : Int) := by
  induction cs with
  | nil => intro g rd _; exact ⟨[], by simp, List.nodup_nil, fun c => by simp, rfl, rfl, fun c _ => by simp⟩
  | cons c r ih =>
    intro g rd h
    refine park fun P9 k9 => ?_
    obtain ⟨hc, hcn⟩ := h c (.head _)
    refine k9 ?_
    clear k9 P9
    have hk : kys (addN g c (-1)) = kys g := kys_addN _ _ _
    have hnp : ∀ d, npOf (addN g c (-1)) d = npOf g d - if d = c then 1 else 0 := fun d => by
      rw [np_addN]
      by_cases e : d = c
      · rw [if_pos ⟨e, hc⟩, if_pos e]; lia
      · rw [if_neg (fun x => e x.1), if_neg e]; lia
    have hsame : ∀ d, ((c :: r).count d : Int) = (r.count d : Int) + if d = c then 1 else 0 := fun d => by
      rw [List.count_cons]
      by_cases e : d = c
      · subst e; simp
      · have e' : ¬ c = d := fun x => e x.symm
        simp [e, e']
    rw [List.foldl_cons]
    refine park fun P9 k9 => ?_
    obtain ⟨nw, h1, h2, h3, h4, h5, h6⟩ := ih (g := (lessS (g, rd) c).1) (rd := (lessS (g, rd) c).2) (fun d hd => by
      show d ∈ kys (addN g c (-1)) ∧ _ ≤ npOf (addN g c (-1)) d
      obtain ⟨a, b⟩ := h d (.tail _ hd)
      rw [hk, hnp]
      rw [hsame] at b
      exact ⟨a, by lia⟩)
    refine k9 ?_
    clear k9 P9
    have hst : lessS (g, rd) c = ((lessS (g, rd) c).1, (lessS (g, rd) c).2) := rfl
    rw [hst]
    have hc1 := hnp c
    rw [if_pos rfl] at hc1
    have hcc := hsame c
    rw [if_pos rfl] at hcc
    rw [hcc] at hcn
    by_cases hz : npOf (addN g c (-1)) c = 0
    · have e2 : (lessS (g, rd) c).2 = rd ++ [c] := by unfold lessS; exact if_pos hz
      have hr0 : r.count c = 0 := by lia
      have hcr : c ∉ r := fun hm => by have := List.count_pos_iff.mpr hm; lia
      refine ⟨c :: nw, by rw [h1, e2]; simp, ?_, fun d => ?_, h4.trans hk, h5.trans (funext fun y => suc_addN), fun d hd => ?_⟩
      · rw [List.nodup_cons]
        exact ⟨fun hm => hcr ((h3 c).mp hm).1, h2⟩
      · rw [List.mem_cons, h3, List.mem_cons, hsame]
        show d = c ∨ d ∈ r ∧ npOf (addN g c (-1)) d = _ ↔ _
        rw [hnp]
        by_cases e : d = c
        · subst e
          rw [if_pos rfl]
          exact ⟨fun _ => ⟨.inl rfl, by lia⟩, fun _ => .inl rfl⟩
        · rw [if_neg e]
          exact ⟨fun x => x.elim (fun y => absurd y e) fun y => ⟨.inr y.1, by lia⟩, fun ⟨a, b⟩ => .inr ⟨a.resolve_left e, by lia⟩⟩
      · rw [h6 d (by show d ∈ kys (addN g c (-1)); rw [hk]; exact hd)]
        show npOf (addN g c (-1)) d - _ = _
        rw [hnp, hsame]; lia
    · have e2 : (lessS (g, rd) c).2 = rd := by unfold lessS; exact if_neg hz
      refine ⟨nw, by rw [h1, e2], h2, fun d => ?_, h4.trans hk, h5.trans (funext fun y => suc_addN), fun d hd => ?_⟩
      · rw [h3, List.mem_cons, hsame]
        show d ∈ r ∧ npOf (addN g c (-1)) d = _ ↔ _
        rw [hnp]
        by_cases e : d = c
        · subst e
          rw [if_pos rfl]
          constructor
          · intro X90
            refine park fun P9 k9 => ?_
            obtain ⟨a, b⟩ := X90
            refine k9 ?_
            clear k9 P9
            exact ⟨.inl rfl, by lia⟩
          · intro X90
            refine park fun P9 k9 => ?_
            obtain ⟨_, b⟩ := X90
            refine k9 ?_
            clear k9 P9
            have : r.count d ≠ 0 := by lia
            exact ⟨List.count_pos_iff.mp (by lia), by lia⟩
        · rw [if_neg e]
          exact ⟨fun ⟨a, b⟩ => ⟨.inr a, by lia⟩, fun ⟨a, b⟩ => ⟨a.resolve_left e, by lia⟩⟩
      · rw [h6 d (by show d ∈ kys (addN g c (-1)); rw [hk]; exact hd)]
        show npOf (addN g c (-1)) d - _ = _
        rw [hnp, hsame]; lia
theorem out_np {g : List PN} {y : Str} {ks : List Str} (h : ∀ k ∈ ks, k ∈ kys g) : kys (outG g ks) = kys g ∧ sucOf (outG g ks) = sucOf g ∧ npOf (outG g ks) y = if y ∈ ks then -1 else npOf g y := by
  induction ks using snoc_ind with
  | h0 => exact ⟨rfl, rfl, rfl⟩
  | h1 l a ih =>
    refine park fun P9 k9 => ?_
    obtain ⟨i1, i2, i3⟩ := ih fun k hk => h k (List.mem_append_left _ hk)
    refine k9 ?_
    clear k9 P9
    rw [outG_snoc]
    refine ⟨(kys_setN _ _ _).trans i1, (funext fun _ => suc_setN).trans i2, ?_⟩
    rw [np_setN (by rw [i1]; exact h a (by simp)), i3]
    by_cases e : y = a
    · simp [e]
    · simp [e]
theorem filt_cnt {X : List Str} {k : Str} (hk : k ∉ X) (l : List Str) : (l.filter fun q => decide (q ∉ X)).length = (l.filter fun q => decide (q ∉ X ++ [k])).length + l.count k := by
  induction l with
  | nil => rfl
  | cons q r ih =>
    rw [List.filter_cons, List.filter_cons, List.count_cons]
    by_cases e : q = k
    · subst e
      simp [hk] at ih ⊢
      lia
    · by_cases hx : q ∈ X
      · simp [hx, e] at ih ⊢
        lia
      · simp [hx, e] at ih ⊢
        lia
/-- within a round: a is done, b is handed out -/
structure Km (keys : List Str) (P S : Str → List Str) (D a b : List Str) (st : List PN × List Str) : Prop where
  kye : kys st.1 = keys
  suc : sucOf st.1 = S
  np : ∀ k ∈ keys, npOf st.1 k = if k ∈ D ++ a then -2 else if k ∈ b then -1 else (((P k).filter fun q => decide (q ∉ D ++ a)).length : Int)
  rdn : st.2.Nodup
  rdm : ∀ k, k ∈ st.2 ↔ k ∈ keys ∧ k ∉ D ++ (a ++ b) ∧ ∀ q ∈ P k, q ∈ D ++ a
theorem Km.step {keys : List Str} {P S : Str → List Str} {D a b : List Str} {k : Str} {st : List PN × List Str} (G : Gr keys P S) (hD : ∀ k ∈ D, k ∈ keys ∧ ∀ q ∈ P k, q ∈ D)
    (hr : ∀ c ∈ a ++ k :: b, c ∈ keys ∧ c ∉ D ∧ ∀ q ∈ P c, q ∈ D) (hn : (a ++ k :: b).Nodup) (h : Km keys P S D a (k :: b) st) :
    npOf st.1 k = -1 ∧ k ∈ st.1.map (·.key) ∧ Km keys P S D (a ++ [k]) b (doneOne st k) := by
  refine park fun P9 k9 => ?_
  obtain ⟨hk1, hk2, hk3⟩ := hr k (by simp)
  refine k9 ?_
  clear k9 P9
  have hka : k ∉ a := fun hm => (List.nodup_append.mp hn).2.2 k hm k (.head _) rfl
  have hkb : k ∉ b := (List.nodup_cons.mp (List.nodup_append.mp hn).2.1).1
  have hkD : k ∉ D ++ a := fun hm => (List.mem_append.mp hm).elim hk2 hka
  have hk0 : k ∈ kys st.1 := h.kye ▸ hk1
  refine ⟨?_, hk0, ?_⟩
  · rw [h.np k hk1, if_neg hkD, if_pos (.head _)]
  -- who stands behind k
  have hs : ∀ c ∈ S k, c ∈ keys ∧ k ∈ P c ∧ c ∉ D ++ a ∧ c ∉ k :: b ∧ (S k).count c = (P c).count k := fun c hc => by
    have h1 := G.sin k c hc
    have h2 := G.cnt c h1 k
    have h3 : k ∈ P c := List.count_pos_iff.mp (by rw [← h2]; exact List.count_pos_iff.mpr hc)
    refine ⟨h1, h3, fun hm => ?_, fun hm => ?_, h2⟩
    · rcases List.mem_append.mp hm with hm | hm
      · exact hk2 ((hD c hm).2 k h3)
      · exact hk2 ((hr c (List.mem_append_left _ hm)).2.2 k h3)
    · exact hk2 ((hr c (List.mem_append_right _ hm)).2.2 k h3)
  have kset : kys (setN st.1 k (-2)) = keys := (kys_setN _ _ _).trans h.kye
  have hnp : ∀ c, npOf (setN st.1 k (-2)) c = if c = k then -2 else npOf st.1 c := fun c => np_setN hk0
  have hpos : ∀ c ∈ S k, npOf (setN st.1 k (-2)) c = (((P c).filter fun q => decide (q ∉ D ++ (a ++ [k]))).length : Int) + ((S k).count c : Int) := fun c hc => by
    refine park fun P9 k9 => ?_
    obtain ⟨x1, x2, x3, x4, x5⟩ := hs c hc
    refine k9 ?_
    clear k9 P9
    rw [hnp, if_neg (fun e : c = k => x4 (by rw [e]; exact .head _)), h.np c x1, if_neg x3, if_neg x4, x5, filt_cnt hkD, ← List.append_assoc]
    lia
  refine park fun P9 k9 => ?_
  obtain ⟨nw, h1, h2, h3, h4, h5, h6⟩ := less_fold (g := setN st.1 k (-2)) (rd := st.2) (cs := S k) (fun c hc => ⟨kset ▸ (hs c hc).1, by rw [hpos c hc]; lia⟩)
  refine k9 ?_
  clear k9 P9
  have hd : doneOne st k = (S k).foldl lessS (setN st.1 k (-2), st.2) := by unfold doneOne; rw [h.suc]
  rw [← hd] at h1 h4 h5 h6
  have hnw : ∀ c, c ∈ nw ↔ c ∈ S k ∧ ∀ q ∈ P c, q ∈ D ++ (a ++ [k]) := fun c => by
    rw [h3]
    refine and_congr_right fun hc => ?_
    rw [hpos c hc]
    constructor
    · intro e q hq
      have e0 : ((P c).filter fun q => decide (q ∉ D ++ (a ++ [k]))).length = 0 := by lia
      have e1 := List.length_eq_zero_iff.mp e0
      rw [List.filter_eq_nil_iff] at e1
      have := e1 q hq
      exact Decidable.not_not.mp fun hc => this (decide_eq_true hc)
    · intro e
      have z : ((P c).filter fun q => decide (q ∉ D ++ (a ++ [k]))) = [] := List.filter_eq_nil_iff.mpr fun q hq hc => (of_decide_eq_true hc : q ∉ D ++ (a ++ [k])) (e q hq)
      rw [z]
      simp
  refine ⟨h4.trans kset, h5.trans ((funext fun _ => suc_setN).trans h.suc), fun c hc => ?_, ?_, fun c => ?_⟩
  · rw [h6 c (kset ▸ hc), hnp]
    by_cases e : c = k
    · subst e
      have hcs : c ∉ S c := fun hm => (hs c hm).2.2.2.1 (.head _)
      rw [if_pos rfl, List.count_eq_zero.mpr hcs, if_pos (by simp)]; rfl
    · rw [if_neg e, h.np c hc]
      have m1 : c ∈ D ++ (a ++ [k]) ↔ c ∈ D ++ a := by simp [e]
      have m2 : c ∈ k :: b ↔ c ∈ b := by simp [e]
      by_cases x1 : c ∈ D ++ a
      · have hcs : c ∉ S k := fun hm => (hs c hm).2.2.1 x1
        rw [if_pos x1, if_pos (m1.mpr x1), List.count_eq_zero.mpr hcs]; rfl
      · rw [if_neg x1, if_neg (fun y => x1 (m1.mp y))]
        by_cases x2 : c ∈ b
        · have hcs : c ∉ S k := fun hm => (hs c hm).2.2.2.1 (m2.mpr x2)
          rw [if_pos (m2.mpr x2), if_pos x2, List.count_eq_zero.mpr hcs]; rfl
        · rw [if_neg (fun y => x2 (m2.mp y)), if_neg x2, G.cnt c hc k, filt_cnt hkD, List.append_assoc]
          lia
  · rw [h1, List.nodup_append]
    refine ⟨h.rdn, h2, fun x hx y hy e => ?_⟩
    subst e
    exact hkD (((h.rdm x).mp hx).2.2 k (hs x ((hnw x).mp hy).1).2.1)
  · rw [h1, List.mem_append, h.rdm, hnw]
    have hab : a ++ [k] ++ b = a ++ k :: b := by simp
    rw [hab]
    constructor
    · rintro (⟨x1, x2, x3⟩ | ⟨x1, x2⟩)
      · exact ⟨x1, x2, fun q hq => by rw [← List.append_assoc]; exact List.mem_append_left _ (x3 q hq)⟩
      · refine park fun P9 k9 => ?_
        obtain ⟨y1, y2, y3, y4, y5⟩ := hs c x1
        refine k9 ?_
        clear k9 P9
        refine ⟨y1, fun hm => ?_, x2⟩
        rw [← List.append_assoc] at hm
        exact (List.mem_append.mp hm).elim y3 y4
    · intro X90
      refine park fun P9 k9 => ?_
      obtain ⟨x1, x2, x3⟩ := X90
      refine k9 ?_
      clear k9 P9
      by_cases e : k ∈ P c
      · refine .inr ⟨List.count_pos_iff.mp ?_, x3⟩
        rw [G.cnt c x1 k]; exact List.count_pos_iff.mpr e
      · refine .inl ⟨x1, x2, fun q hq => ?_⟩
        have := x3 q hq
        rw [← List.append_assoc] at this
        rcases List.mem_append.mp this with t | t
        · exact t
        · rw [List.mem_singleton.mp t] at hq; exact absurd hq e
theorem Km.run {keys : List Str} {P S : Str → List Str} {D : List Str} (G : Gr keys P S) (hD : ∀ k ∈ D, k ∈ keys ∧ ∀ q ∈ P k, q ∈ D) : ∀ {b a : List Str} {st : List PN × List Str},
    (∀ c ∈ a ++ b, c ∈ keys ∧ c ∉ D ∧ ∀ q ∈ P c, q ∈ D) → (a ++ b).Nodup → Km keys P S D a b st → DoneOk st b ∧ Km keys P S D (a ++ b) [] (b.foldl doneOne st)
  | [], a, st, _, _, h => ⟨trivial, by rw [List.append_nil]; exact h⟩
  | k :: b, a, st, hr, hn, h => by
    refine park fun P9 k9 => ?_
    obtain ⟨h1, h2, h3⟩ := h.step G hD hr hn
    have e : a ++ [k] ++ b = a ++ k :: b := by simp
    obtain ⟨i1, i2⟩ := Km.run G hD (b := b) (a := a ++ [k]) (by rw [e]; exact hr) (by rw [e]; exact hn) h3
    refine k9 ?_
    clear k9 P9
    rw [e] at i2
    exact ⟨⟨h1, h2, i1⟩, i2⟩
/-- a round -/
theorem Kn.round {keys : List Str} {P S : Str → List Str} {D : List Str} {g : List PN} {rd : List Str} (G : Gr keys P S) (h : Kn keys P S D g rd) :
    DoneOk (outG g rd, []) rd ∧ Kn keys P S (D ++ rd) (rd.foldl doneOne (outG g rd, [])).1 (rd.foldl doneOne (outG g rd, [])).2 := by
  have hr : ∀ c ∈ rd, c ∈ kys g := fun c hc => h.kye ▸ ((h.rdm c).mp hc).1
  have h0 : Km keys P S D [] rd (outG g rd, []) := by
    refine ⟨(out_np (y := Str.empty) hr).1.trans h.kye, (out_np (y := Str.empty) hr).2.1.trans h.suc, fun k hk => ?_, List.nodup_nil, fun k => ?_⟩
    · show npOf (outG g rd) k = _
      rw [(out_np hr).2.2, h.np k hk, List.append_nil]
      by_cases x1 : k ∈ D
      · have x2 : k ∉ rd := fun hm => ((h.rdm k).mp hm).2.1 x1
        rw [if_neg x2, if_pos x1, if_pos x1]
      · rw [if_neg x1, if_neg x1]
    · rw [List.append_nil, List.nil_append]
      constructor
      · intro hm; cases hm
      · intro X90
        refine park fun P9 k9 => ?_
        obtain ⟨x1, x2, x3⟩ := X90
        refine k9 ?_
        clear k9 P9
        exact absurd (List.mem_append_right D ((h.rdm k).mpr ⟨x1, fun hm => x2 (List.mem_append_left _ hm), x3⟩)) x2
  refine park fun P9 k9 => ?_
  obtain ⟨i1, i2⟩ := Km.run G h.cl (a := []) (b := rd) (fun c hc => (h.rdm c).mp hc) h.rdn h0
  refine k9 ?_
  clear k9 P9
  rw [List.nil_append] at i2
  refine ⟨i1, i2.kye, i2.suc, fun k hk => ?_, fun k hk => ?_, i2.rdn, fun k => ?_⟩
  · rcases List.mem_append.mp hk with hk | hk
    · exact ⟨(h.cl k hk).1, fun q hq => List.mem_append_left _ ((h.cl k hk).2 q hq)⟩
    · exact ⟨((h.rdm k).mp hk).1, fun q hq => List.mem_append_left _ (((h.rdm k).mp hk).2.2 q hq)⟩
  · have := i2.np k hk
    rw [if_neg (List.not_mem_nil (a := k))] at this
    exact this
  · have := i2.rdm k
    rw [List.append_nil] at this
    exact this
/-- at the start -/
theorem Kn.zero {ps : Str → List Str} {ks : List Str} (hn : ks.Nodup) (hp : ∀ k ∈ ks, ∀ q ∈ ps k, q ∈ ks) {rd : List Str} (hrd : rd.Nodup) (hm : ∀ k, k ∈ rd ↔ k ∈ kys (addAll ps ks) ∧ npOf (addAll ps ks) k = 0) :
    Kn (kys (addAll ps ks)) ps (sucOf (addAll ps ks)) [] (addAll ps ks) rd := by
  have hk : ∀ {y}, y ∈ kys (addAll ps ks) → y ∈ ks := fun {y} h => by
    rw [addAll_mem] at h
    exact h.elim id fun ⟨k, hk, h⟩ => hp k hk y h
  refine ⟨rfl, rfl, fun k h => (nomatch h), fun k h => ?_, hrd, fun k => ?_⟩
  · rw [addAll_np ps hn, if_pos (hk h), if_neg (List.not_mem_nil), List.filter_eq_self.mpr (by simp)]
  · rw [hm]
    refine and_congr_right fun h => ?_
    rw [addAll_np ps hn, if_pos (hk h)]
    constructor
    · intro e
      have : ps k = [] := List.length_eq_zero_iff.mp (by lia)
      rw [this]
      exact ⟨by simp, fun q hq => (nomatch hq)⟩
    · intro X90
      refine park fun P9 k9 => ?_
      obtain ⟨_, e⟩ := X90
      refine k9 ?_
      clear k9 P9
      cases hc : ps k with
      | nil => rfl
      | cons q r => exact absurd (e q (by rw [hc]; exact .head _)) (by simp)
end
section
theorem li_ga_slot : Slot "list_iterator" "__getattribute__" "object.__getattribute__" :=
  .of (owner := "object") (n := "__getattribute__") (by rw [typeLookup_type, builtinLookup_eq_fast]; kernel_rfl) (by decide +kernel) (by decide +kernel) (by decide +kernel)
    (by first | exact .inl (by decide +kernel) | exact .inr (by decide +kernel)) (by rw [isSubtype_type]; kernel_rfl)
theorem li_ga_entry : entryFor table "object.__getattribute__" = some Builtin.«object.__getattribute__» := entryFor_of_tree (by kernel_rfl)
theorem li_ga_args (a b : Value) : argsOk "object.__getattribute__" ⟨[a, b], []⟩ := by unfold argsOk; kernel_rfl
theorem wd_type : typeOf (.builtin "list_iterator.__next__") = pure (.type "wrapper_descriptor") := by show builtinType _ = _; rw [builtinType_eq_fast]; kernel_rfl
theorem wd_get : Slot "wrapper_descriptor" "__get__" "wrapper_descriptor.__get__" :=
  .of (owner := "wrapper_descriptor") (n := "__get__") (by rw [typeLookup_type, builtinLookup_eq_fast]; kernel_rfl) (by decide +kernel) (by decide +kernel) (by decide +kernel)
    (by first | exact .inl (by decide +kernel) | exact .inr (by decide +kernel)) (by rw [isSubtype_type]; kernel_rfl)
theorem wd_entry : entryFor table "wrapper_descriptor.__get__" = some Builtin.«wrapper_descriptor.__get__» := entryFor_of_tree (by kernel_rfl)
theorem wd_args (a b c : Value) : argsOk "wrapper_descriptor.__get__" ⟨[a, b, c], []⟩ := by unfold argsOk; kernel_rfl
theorem wd_noset : typeLookup (.type "wrapper_descriptor") "__set__" = pure none := by rw [typeLookup_type, builtinLookup_eq_fast]; kernel_rfl
theorem wd_nodel : typeLookup (.type "wrapper_descriptor") "__delete__" = pure none := by rw [typeLookup_type, builtinLookup_eq_fast]; kernel_rfl
theorem li_owner : (".".intercalate ("list_iterator.__next__".cutAt '.').dropLast) = "list_iterator" := by
  have e0 : "list_iterator.__next__".cutAt '.' = ["list_iterator", "__next__"] := by first | rfl | decide +kernel
  rw [e0]; decide +kernel
theorem li_sub : isSubtype (.type "list_iterator") (.type (".".intercalate ("list_iterator.__next__".cutAt '.').dropLast)) = pure true := by
  rw [li_owner, isSubtype_type]; kernel_rfl
section
variable {prog : Program} {w : World} {A : Around} {E : Value → Shared → Prop} {h : Heap} {g : Array GenState} {d : Drawn} {t : Nat} {os : OsState} {a : Addr} {o : Obj}
abbrev mwObj (it : Addr) : Obj := { cls := .type "method-wrapper", data := .fields #[.builtin "list_iterator.__next__", .ref it] }
theorem next_get {R : Result → Shared → Prop} (hx : h.get? a = some o) (hc : o.cls = .type "list_iterator") (hq : R (.ok (.ret (.ref h.objs.size))) ⟨h.push (mwObj a), g, d, t, os⟩) :
    codeAny (model prog w) A (.call (.builtin "wrapper_descriptor.__get__") ⟨[.builtin "list_iterator.__next__", .ref a, .type "list_iterator"], []⟩) R ⟨h, g, d, t, os⟩ := by
  have hT : (⟨h, g, d, t, os⟩ : Shared).TypeIs (.ref a) "list_iterator" := ⟨_, hx, hc⟩
  have hT5 : (⟨h, g, d, t, os⟩ : Shared).TypeIs (.builtin "list_iterator.__next__") "wrapper_descriptor" := wd_type
  have f8 := li_sub
  refine codeAny_call_builtin wd_get.plain wd_entry (wd_get.check _ _ _ _ _ _ _ _ hT5 (wd_args _ _ _) ?_)
  repeat (any_goals (first | assumption | wp_step))
abbrev liObj (l : Addr) (i : Int) : Obj := { cls := .type "list_iterator", data := .fields #[.ref l, .int i 0] }
theorem next_entry {l : Addr} {i : Int} {tk : Tok} {Q : Fin → Shared → Prop} (hx : h.get? a = some (liObj l i)) (hq : Q (.done (.ret (.ref h.objs.size))) ⟨h.push (mwObj a), g, d, t, os⟩) :
    wpAny (model prog w) A (Builtin.«object.__getattribute__» ⟨[.ref a, .str "__next__" tk], []⟩) Q E ⟨h, g, d, t, os⟩ := by
  have hc : (liObj l i).cls = .type "list_iterator" := rfl
  have hT : (⟨h, g, d, t, os⟩ : Shared).TypeIs (.ref a) "list_iterator" := ⟨_, hx, hc⟩
  have hT5 : (⟨h, g, d, t, os⟩ : Shared).TypeIs (.builtin "list_iterator.__next__") "wrapper_descriptor" := wd_type
  have f4 := slot_listiter_next.lookup
  have f5 := wd_type
  have f6 := wd_get.lookup
  have f7 := wd_noset
  have f8 := wd_nodel
  repeat (any_goals (first | assumption | wp_step))
  refine next_get hx rfl ?_
  repeat (any_goals (first | assumption | wp_step))
theorem next_by {l : Addr} {i : Int} {tk : Tok} {Q : Value → Shared → Prop} (hx : h.get? a = some (liObj l i)) (hq : Q (.ref h.objs.size) ⟨h.push (mwObj a), g, d, t, os⟩) :
    wpAny (model prog w) A (getAttrBy (.ref a) (.str "__next__" tk) true true) Q E ⟨h, g, d, t, os⟩ := by
  have hT : (⟨h, g, d, t, os⟩ : Shared).TypeIs (.ref a) "list_iterator" := ⟨_, hx, rfl⟩
  have f2 := li_ga_slot.lookup
  have f3 := li_ga_slot.bind (.ref a)
  repeat (any_goals (first | assumption | wp_step))
  refine codeAny_call_builtin li_ga_slot.plain li_ga_entry (li_ga_slot.check _ _ _ _ _ _ _ _ hT (li_ga_args _ _) (next_entry hx ?_))
  repeat (any_goals (first | assumption | wp_step))
theorem next_attr {l : Addr} {i : Int} {Q : Value → Shared → Prop} (hx : h.get? a = some (liObj l i)) (hq : Q (.ref h.objs.size) ⟨h.push (mwObj a), g, d, t + 1, os⟩) :
    wpAny (model prog w) A (getAttr (.ref a) "__next__" true) Q E ⟨h, g, d, t, os⟩ := by
  unfold getAttr
  repeat (any_goals (first | assumption | with_reducible apply next_by hx | wp_step))
end
end
section
theorem mw_check (it : Addr) : checkBoundCall "list_iterator.__next__" ⟨[.ref it], []⟩ = pure () := by first | kernel_rfl | rfl
theorem mw_quiet {as : Args} : (Code.builtin "list_iterator.__next__" as).quiet = true := Code.quiet_builtin _ (by decide +kernel)
section
variable {prog : Program} {w : World} {A : Around} {E : Value → Shared → Prop} {s : Shared} {h₀ : Heap} {L a it l : Addr} {m : Str → Option Value} {news : List (Addr × Obj)} {n : Nat}
theorem mw_call {Q : Value → Shared → Prop} (ha : s.heap.get? a = some (mwObj it))
    (h : ∀ {P : Fin → Shared → Prop} {E' : Value → Shared → Prop} {A' : Around}, A'.handled = A.handled → (∀ v s', Q v s' → P (.done (.ret v)) s') → (∀ e s', E e s' → E' e s') → wpAny (model prog w) A' (Builtin.«list_iterator.__next__» ⟨[.ref it], []⟩) P E' s) :
    wpAny (model prog w) A (call (.ref a) []) Q E s := by
  refine wpAny_call (codeAny_of_tree ?_)
  show wpAny _ A.in1 (callAny (.ref a) ⟨[], []⟩) _ _ s
  simp only [callAny]
  refine wpAny_bind (wpAny_load ha ?_)
  simp only
  rw [if_pos (by decide)]
  refine wpAny_bind (wpAny_of_eq (a := ()) (mw_check it) ?_)
  refine wpAny_bind (wpAny_pure (wpAny_pure ?_))
  refine ⟨mw_quiet, codeAny_builtin entry_listiter_next (h rfl (fun v s' q => q) fun e s' q => q)⟩
theorem mw_item {i : Nat} {vs : List Value} {x : Value} {Q : Value → Shared → Prop} (F : Fr h₀ L s.heap m) (N : News h₀ L s.heap news) (hs : Sep news)
    (ha : (a, mwObj it) ∈ news) (hit : (it, liObj l i) ∈ news) (hl : (l, W.listOf vs.toArray n) ∈ news) (hx : vs[i]? = some x)
    (h : ∀ h', Fr h₀ L h' m → News h₀ L h' (upd news it (liObj l (i + 1 : Nat))) → Q x { s with heap := h' }) : wpAny (model prog w) A (call (.ref a) []) Q E s := by
  refine mw_call (N _ ha).1 fun hA hP _ => ?_
  have ho := (N _ hit).1
  have hol := (N _ hl).1
  show wpAny _ _ (field (.ref it) 0 >>= _) _ _ s
  refine wpAny_bind (wpAny_field ho rfl (x := .ref l) rfl ?_)
  show wpAny _ _ (if (Value.ref l == Value.none) = true then _ else _) _ _ s
  rw [if_neg (show ¬ ((Value.ref l == Value.none) = true) from Bool.false_ne_true)]
  show wpAny _ _ (field (.ref it) 1 >>= _) _ _ s
  refine wpAny_bind (wpAny_field ho rfl (x := .int i 0) rfl ?_)
  show wpAny _ _ (seqItems? (.ref l) >>= _) _ _ s
  refine wpAny_bind (wpAny_seqItems hol rfl ?_)
  have hx' : vs.toArray[i]? = some x := by simpa using hx
  simp only [Int.toNat_natCast, hx']
  refine wpAny_bind (wpAny_setField ho rfl (by simp) (wpAny_pure (hP _ _ (h _ ?_ ?_))))
  · exact F.change (Heap.SameBut.update ..) (N _ hit).2.1 (N _ hit).2.2
  · refine park fun P9 k9 => ?_
    obtain ⟨pre, post, rfl, h2, h3, h4⟩ := (upd_of (o' := liObj l (i + 1 : Nat)) hs hit).split
    refine k9 ?_
    clear k9 P9
    rw [h2]
    refine news_set N h3 h4 (Heap.SameBut.update ..) ?_
    rw [Heap.get?_update_self _ ho (Obj.isFreed_of_fields (Obj.data_mapFields rfl _))]
    rfl
abbrev goneIt (i : Int) : Obj := { cls := .type "list_iterator", data := .fields #[.none, .int i 0] }
theorem mw_end {i : Nat} {vs : List Value} {Q : Value → Shared → Prop} (F : Fr h₀ L s.heap m) (N : News h₀ L s.heap news) (hs : Sep news)
    (ha : (a, mwObj it) ∈ news) (hit : (it, liObj l i) ∈ news) (hl : (l, W.listOf vs.toArray n) ∈ news) (hx : vs[i]? = none) (hh : A.handled = none)
    (h : ∀ h₁ h' e, Fr h₀ L h₁ m → News h₀ L h₁ (upd news it (goneIt i)) → Heap.NewExc h₁ h' e "StopIteration" → E (.ref e) { s with heap := h' }) : wpAny (model prog w) A (call (.ref a) []) Q E s := by
  refine mw_call (N _ ha).1 fun hA _ hE => ?_
  have ho := (N _ hit).1
  have hol := (N _ hl).1
  show wpAny _ _ (field (.ref it) 0 >>= _) _ _ s
  refine wpAny_bind (wpAny_field ho rfl (x := .ref l) rfl ?_)
  show wpAny _ _ (if (Value.ref l == Value.none) = true then _ else _) _ _ s
  rw [if_neg (show ¬ ((Value.ref l == Value.none) = true) from Bool.false_ne_true)]
  show wpAny _ _ (field (.ref it) 1 >>= _) _ _ s
  refine wpAny_bind (wpAny_field ho rfl (x := .int i 0) rfl ?_)
  show wpAny _ _ (seqItems? (.ref l) >>= _) _ _ s
  refine wpAny_bind (wpAny_seqItems hol rfl ?_)
  have hx' : vs.toArray[i]? = none := by simpa using hx
  simp only [Int.toNat_natCast, hx']
  refine wpAny_bind (wpAny_rule (wpAny_bind (wpAny_setField ho rfl (by simp) ?_)))
  show wpAny _ _ (newExc (.type "StopIteration") [] >>= _) _ _ _
  refine wpAny_bind ?_
  simp only [newExc, newTuple]
  refine wpAny_bind (wpAny_newObj_type ?_ (by size_fits))
  refine wpAny_bind (m := firstArgMember _ _) (wpAny_of_eq (a := Value.none) (by first | rfl | (simp only [firstArgMember]; rfl)) ?_)
  refine wpAny_newObj_type ?_ (by size_fits)
  refine wpAny_raiseNew_none (hA.trans hh) (hE _ _ (h (s.heap.update it (Obj.mapFields (·.setIfInBounds 0 .none))) _ _ ?_ ?_ ?_))
  · exact F.change (Heap.SameBut.update ..) (N _ hit).2.1 (N _ hit).2.2
  · refine park fun P9 k9 => ?_
    obtain ⟨pre, post, rfl, h2, h3, h4⟩ := (upd_of (o' := goneIt i) hs hit).split
    refine k9 ?_
    clear k9 P9
    rw [h2]
    refine news_set N h3 h4 (Heap.SameBut.update ..) ?_
    rw [Heap.get?_update_self _ ho (Obj.isFreed_of_fields (Obj.data_mapFields rfl _))]
    rfl
  · exact ⟨fun b o hb => Heap.get?_push_of_some _ (Heap.get?_push_of_some _ hb), Heap.get?_none_of_le (by simp), _, .ref _, Heap.get?_push_size _ rfl, rfl, by simp [ownMembersOf]; rfl⟩
end
section
variable {prog : Program} {w : World} {A₀ : Around} {E : Value → Shared → Prop} {s' : Shared} {base g g₀ h : Heap} {outer : List Env} {L a e : Addr} {m : Str → Option Value} {name : Str} {scope : Scope} {cd : Value}
  {b₀ : Stmt} {suite : List Stmt} {pos np : Pos} {rest : List ExceptHandler} {Q : Flow → Shared → Prop} {news : List (Addr × Obj)} {KF : Frag}
  {p : Program} {loose : List Str} {mean : ExcName → Option Value} {mg mb : Str → Option Value} {x : Str} {X T' : String}
theorem caught_new0 (hx : Heap.NewExc h s'.heap e X) (F : Fr g L h m) (N : News g L h news) (K : Below A₀ base outer g) (XB : KF.In base) (TB : Top p loose mean mg mb base)
    (D : KtsDicts (outer.filterMap (·.frame)) g) (T0 : KtsTurn (outer.filterMap (·.frame)) g₀ g)
    (ex : nsIn KF mainGlobals x = some none) (hv : bootBuiltins x = some (.type T')) (hn' : x ≠ "__name__")
    (hexc : isSubtype (.type T') (.type "BaseException") = pure true) (hnt : isSubtype (.type ((Manifest.find? T').elim "type" fun y => y.metatype)) (.type "tuple") = pure false) (hsub : isSubtype (.type X) (.type T') = pure true)
    (k : ∀ h' g', KtsTurn (outer.filterMap (·.frame)) g₀ g' → Fr g' L h' m → News g' L h' news → Below A₀ base outer g' → KF.In g' → Top p loose mean mg mb g' → KtsDicts (outer.filterMap (·.frame)) g' →
      wpAny (model prog w) ((A₀.deeper (envOf name scope L a cd)).mark (some (.ref e))) (execs (b₀ :: suite) (envOf name scope L a cd)) Q E { s' with heap := h' })
    (hk : scope.kind = .function := by rfl) (hx' : (envOf name scope L a cd).kindOf x = some .globalImplicit := by rfl) (hd : (x == ("__debug__" : Str)) = false := by decide)
    (hE : PassesOwnAt (model prog w) ((A₀.deeper (envOf name scope L a cd)).mark (some (.ref e))) (A₀.deeper (envOf name scope L a cd)) (envOf name scope L a cd) E := by passes_own) :
    wpAny (model prog w) (A₀.deeper (envOf name scope L a cd)) (noteFrame (.ref e) (envOf name scope L a cd))
      (fun _ s₂ => wpAny (model prog w) (A₀.deeper (envOf name scope L a cd)) (setFlight (.ref e) none) (fun _ s₃ =>
        wpAny (model prog w) (A₀.deeper (envOf name scope L a cd)) (handleBy (.ref e) (envOf name scope L a cd) (.ExceptHandler (some (.Name x np)) none (b₀ :: suite) pos :: rest)) Q E s₃) E s₂) E s' := by
  have K' := K.push (name := name) (a := a) (cd := cd) F hk
  have hin : ∀ env ∈ (envOf name scope L a cd :: outer), ∀ b, env.frame = some b → b ∈ (envOf name scope L a cd :: outer).filterMap (·.frame) := fun env he b hb => List.mem_filterMap.mpr ⟨env, he, hb⟩
  have sg : ∀ b o, h.get? b = some o → b ∉ (envOf name scope L a cd :: outer).filterMap (·.frame) → (hideAll h ((envOf name scope L a cd :: outer).filterMap (·.frame))).get? b = some o := fun b o q nm => hideAll_get _ q nm
  have st : base.StaysIn (hideAll h ((envOf name scope L a cd :: outer).filterMap (·.frame))) := fun b o q => hideAll_get _ (K'.stays b o q) fun hm => by
    rw [(K'.frames.mem hm).1] at q; cases q
  have hl : ∀ q ∈ news, (hideAll h ((envOf name scope L a cd :: outer).filterMap (·.frame))).get? q.1 = some q.2 ∧ g.get? q.1 = none := fun q hq => by
    refine ⟨hideAll_get _ (N q hq).1 fun hm => ?_, (N q hq).2.2⟩
    refine park fun P9 k9 => ?_
    obtain ⟨env, he, hf⟩ := List.mem_filterMap.mp hm
    refine k9 ?_
    clear k9 P9
    rcases List.mem_cons.mp he with rfl | he
    · exact (N q hq).2.1 (Option.some.inj hf).symm
    · refine park fun P9 k9 => ?_
      obtain ⟨o, ho, _⟩ := (K.frames.mem (List.mem_filterMap.mpr ⟨env, he, hf⟩)).2
      refine k9 ?_
      clear k9 P9
      rw [(N q hq).2.2] at ho; cases ho
  refine park fun P9 k9 => ?_
  obtain ⟨ob, tp, he, hcls, hdt⟩ := hx.there
  refine k9 ?_
  clear k9 P9
  have hen : (hideAll h ((envOf name scope L a cd :: outer).filterMap (·.frame))).get? e = none := by
    cases q : (hideAll h ((envOf name scope L a cd :: outer).filterMap (·.frame))).get? e with
    | none => rfl
    | some o => have := of_hideAll _ q; rw [hx.new] at this; cases this
  have hsm : h.UpToSlots s'.heap := Heap.UpToSlots.of_keeps hx.keeps
  unfold noteFrame
  simp only [show (envOf name scope L a cd).frame = some L from rfl]
  refine wpAny_bind (wpAny_field he hdt (x := .none) rfl ?_)
  rw [if_neg (by decide)]
  refine wpAny_entryW (a0 := tp) (Around.frames_deeper K.stack) ((funFrames_hide K'.frames hin).of_keeps fun b o hb _ => ⟨o, hx.keeps b o hb, rfl⟩) rfl he (fun b o hb => hx.keeps b o (of_hideAll _ hb)) hen hdt (by show 1 < 6; decide) rfl fun h₄ hN => ?_
  refine park fun P9 k9 => ?_
  obtain ⟨k1, k2, k3, k4⟩ := hN
  refine k9 ?_
  clear k9 P9
  have hheld₄ : Heap.HeldW (hideAll h ((envOf name scope L a cd :: outer).filterMap (·.frame))) (envOf name scope L a cd :: outer) e (.type X) tp L h₄ := ⟨k1, hen, k2, by rw [← hcls]; exact k3⟩
  have hsm₄ : s'.heap.UpToSlots h₄ := k4
  have hL : (hideAll h ((envOf name scope L a cd :: outer).filterMap (·.frame))).get? L = none := by
    refine park fun P9 k9 => ?_
    obtain ⟨_, ⟨L', _, hf, hn'', _⟩, _⟩ := hheld₄.2.2.1
    refine k9 ?_
    clear k9 P9
    obtain rfl : L = L' := Option.some.inj hf
    exact hn''
  refine wpAny_landsW hheld₄ fun h₅ hheld hsm₅' => ?_
  have hsm₅ := hsm₄.trans hsm₅'
  refine park fun P9 k9 => ?_
  obtain ⟨g₅, T₅, F₅, K₅⟩ := kts_ground K F sg hheld.1 (hsm.trans hsm₅)
  have X₅ : KF.In g₅ := XB.keeps K₅.stays
  have P₅ : TopRead p loose mg mb g₅ := topRead_of (TB.keeps K₅.stays)
  obtain ⟨ob, hob, hobc⟩ := hheld.there
  refine k9 ?_
  clear k9 P9
  refine wpAny_handleBy_builtin (X := X) (T := T') (b := true) hexc hnt hsub (name_B F₅ X₅ P₅ ex hv hn' ⟨rfl, ⟨ob, hob, hobc⟩, ?_⟩ hk hx' hd)
  refine lands_againW hheld fun h₆ hfl₆ hsm₆ => ?_
  refine park fun P9 k9 => ?_
  obtain ⟨g₆, T₆, F₆, K₆⟩ := kts_ground K F sg hfl₆.1 ((hsm.trans hsm₅).trans hsm₆)
  refine k9 ?_
  clear k9 P9
  have Nl : News g₆ L h₆ news := fun q hq => ⟨hfl₆.1 _ _ (hl q hq).1, (fun z => by have := (hl q hq).1; rw [z, hL] at this; cases this), T₆.none_ _ (hl q hq).2⟩
  have X₆ : KF.In g₆ := XB.keeps K₆.stays
  have P₆ : Top p loose mean mg mb g₆ := TB.keeps K₆.stays
  have D₆ : KtsDicts (outer.filterMap (·.frame)) g₆ := D.turn T₆
  exact wpAny_passesOwnAt hE (k h₆ g₆ (T0.trans T₆) F₆ Nl K₆ X₆ P₆ D₆)
end
end
section
section
variable {prog : Program} {w : World} {A : Around} {E : Value → Shared → Prop} {s : Shared} {env : Env} {x : Str} {px : Pos} {body : List Stmt} {Q : Flow → Shared → Prop}
/-- the end of a turn: the property again -/
structure AgainS (J : Shared → Prop) (s : Shared) : Prop where
  so : J s
noncomputable def PostS (J : Shared → Prop) (Q : Flow → Shared → Prop) (f : Flow) (s : Shared) : Prop :=
  match f with
  | .ret u => Q (.ret u) s
  | .brk => Q .next s
  | _ => AgainS J s
/-- a for loop by a property of the whole state -/
theorem forS {I : Addr} {fp wr : List Addr} {n : Nat} {P : Nat → Value → Prop} {St : Nat → Heap → Prop} (W : Walks prog w A I fp wr n P St) (hE : PassesOwn (model prog w) A env E)
    (J : Nat → Shared → Prop) (hst : ∀ i s, J i s → St i s.heap) (h0 : J 0 s)
    (turn : ∀ i s v h' tk, i < n → J i s → P i v → St (i + 1) h' → (∀ b o, b ∉ wr → s.heap.get? b = some o → h'.get? b = some o) →
      wpAny (model prog w) A (storeName env x v) (fun _ s₂ => wpAny (model prog w) A (execs body env) (PostS (J (i + 1)) Q) E s₂) E { s with heap := h', toks := tk })
    (done : ∀ s h' tk, J n s → (∀ b o, b ∉ wr → s.heap.get? b = some o → h'.get? b = some o) → Q .next { s with heap := h', toks := tk }) :
    codeAny (model prog w) A (.forLoop (.Name x px) (.ref I) body [] env) (fun r s' => match r with | .ok f => Q f s' | .error e => cameBackBy (model prog w) A env E e s') s := by
  refine codeAny_forLoop (fun k s => ∃ i, k + i = n ∧ J i s) (fun k s hI => ?_) n ⟨0, rfl, h0⟩
  refine park fun P9 k9 => ?_
  obtain ⟨i, hk, hJ⟩ := hI
  refine k9 ?_
  clear k9 P9
  cases k with
  | zero =>
    obtain rfl : i = n := by omega
    refine W.done s _ _ (hst _ _ hJ) fun h' tk hk' => ?_
    exact wpAny_pure (done s h' tk hJ hk')
  | succ k =>
    refine W.item i s _ _ (by omega) (hst _ _ hJ) fun v h' tk hP hS hk' => ?_
    refine wpAny_mono (wpAny_assign_Name (turn i s v h' tk (by omega) hJ hP hS hk')) (fun _ s₂ h₂ => ?_) hE
    refine wpAny_mono h₂ (fun f s₃ h₃ => ?_) hE
    cases f with
    | ret u => exact h₃
    | brk => exact h₃
    | next => exact ⟨k, Nat.lt_succ_self _, i + 1, by omega, h₃.so⟩
    | cont => exact ⟨k, Nat.lt_succ_self _, i + 1, by omega, h₃.so⟩

/-- a while loop by a property of the whole state and a number that falls -/
theorem whileS {test : Expr} {orelse : List Stmt} (J : Nat → Shared → Prop) (hE : PassesOwn (model prog w) A env E)
    (turn : ∀ n s, J n s → (∀ n' s', n' < n → J n' s' → WhlRest prog w A E env test body orelse Q 0 s') →
      wpAny (model prog w) A (isTrue test env (eval test env)) (fun b s₂ => WhlIf b (wpAny (model prog w) A (execs body env) (WhlPost prog w A E env test body orelse Q 0) E s₂) (wpAny (model prog w) A (execs orelse env) Q E s₂)) E s)
    (n : Nat) (h : J n s) : WhlRest prog w A E env test body orelse Q 0 s := by
  induction n using Nat.strongRecOn generalizing s with
  | ind n ih => exact whl_turn (k := 0) hE (turn n s h fun n' s' hl hJ => ih n' hl hJ)
end
theorem hidePS {M : Model} {A : Around} {E : Value → Shared → Prop} {s : Shared} {α : Type} {x : Sem α} {y : Sem Flow} {J : Shared → Prop} {Q : Flow → Shared → Prop} (h : ∀ (J' : Shared → Prop) (Q' : Flow → Shared → Prop), (∀ s, J s → J' s) → (∀ f s, Q f s → Q' f s) → wpAny M A x (fun (_ : α) s₂ => wpAny M A y (PostS J' Q') E s₂) E s) :
    wpAny M A x (fun _ s₂ => wpAny M A y (PostS J Q) E s₂) E s := h J Q (fun _ h => h) fun _ _ h => h
end
section
/-! ### the search, as it lies in the heap -/
structure Fm where
  nd : Nd
  pos : Nat
  mw : Addr
  it : Addr
noncomputable def Fm.pl (f : Fm) : Str × Nat := (f.nd.key, f.pos)
noncomputable def KvOf : List (Str × Value) → List Fm → Prop
  | kvs, [] => kvs = []
  | kvs, f :: fs => ∃ kvs' t, kvs = kvs' ++ [(f.nd.key, .int (fs.length : Nat) t)] ∧ KvOf kvs' fs
structure FcL (prog : Program) (w : World) (nds : List Nd) (Z : List (Addr × Obj)) (I stk its sn nd : Addr) (seen : List Str) (fs : List Fm) : Prop where
  stk : ∃ vs n, (stk, W.listOf vs.toArray n) ∈ Z ∧ StrsAre vs (fs.map (·.nd.key)).reverse
  its : ∃ n, (its, W.listOf (fs.map fun f => Value.ref f.mw).reverse.toArray n) ∈ Z
  fms : ∀ f ∈ fs, (f.mw, mwObj f.it) ∈ Z ∧ (f.it, liObj f.nd.sa f.pos) ∈ Z ∧ f.nd ∈ nds ∧ @LT.lt Nat _ I f.it ∧ @LT.lt Nat _ I f.mw
  set : ∃ o Sf, (sn, o) ∈ Z ∧ o.SetObjOf (PySem.strKind prog w) Sf seen.length ∧ ∀ k, Sf k = true ↔ k ∈ seen
  dct : ∃ o kvs, (nd, o) ∈ Z ∧ o.IsDictOf (PySem.strKind prog w) kvs ∧ KvOf kvs fs
  nod : (fs.map (·.it)).Nodup

theorem KvOf.keys : ∀ {fs : List Fm} {kvs : List (Str × Value)}, KvOf kvs fs → kvs.map (·.1) = (fs.map (·.nd.key)).reverse
  | [], _, h => by cases h; rfl
  | f :: fs, _, ⟨kvs', t, e, h⟩ => by rw [e, List.map_append, KvOf.keys h]; simp
theorem valueAt_some {kvs : List (Str × Value)} {k : Str} : (valueAt kvs k).isSome = decide (k ∈ kvs.map (·.1)) := by
  unfold valueAt
  rw [Option.isSome_map]
  induction kvs with
  | nil => rfl
  | cons p r ih =>
    rw [List.find?_cons, List.map_cons]
    by_cases h : p.1 = k
    · simp [h]
    · rw [show decide (p.1 = k) = false from decide_eq_false h]
      show (List.find? _ r).isSome = _
      rw [ih]
      have : k ≠ p.1 := fun e => h e.symm
      simp [this]
theorem valueAt_app {kvs l : List (Str × Value)} {k : Str} (h : k ∉ kvs.map (·.1)) : valueAt (kvs ++ l) k = valueAt l k := by
  unfold valueAt
  rw [List.find?_append, List.find?_eq_none.mpr]
  · rfl
  · intro p hp e
    exact h (List.mem_map.mpr ⟨p, hp, of_decide_eq_true e⟩)
theorem valueAt_app' {kvs l : List (Str × Value)} {k : Str} {v : Value} (h : valueAt kvs k = some v) : valueAt (kvs ++ l) k = some v := by
  unfold valueAt at h ⊢
  rw [List.find?_append]
  refine park fun P9 k9 => ?_
  obtain ⟨p, hp, e⟩ := Option.map_eq_some_iff.mp h
  refine k9 ?_
  clear k9 P9
  rw [hp]
  simpa using e
theorem KvOf.at {f : Fm} {b : List Fm} : ∀ {a : List Fm} {kvs : List (Str × Value)}, KvOf kvs (a ++ f :: b) → ((a ++ f :: b).map (·.nd.key)).Nodup → ∃ t, valueAt kvs f.nd.key = some (.int (b.length : Nat) t)
  | [], kvs, ⟨kvs', t, e, h⟩, nd => by
    refine ⟨t, ?_⟩
    rw [e, valueAt_app]
    · unfold valueAt; simp
    · rw [KvOf.keys h, List.mem_reverse]
      exact (List.nodup_cons.mp (by simpa using nd)).1
  | g :: a, kvs, ⟨kvs', t, e, h⟩, nd => by
    have nd' : ((a ++ f :: b).map (·.nd.key)).Nodup := by
      rw [List.cons_append, List.map_cons] at nd
      exact (List.nodup_cons.mp nd).2
    refine park fun P9 k9 => ?_
    obtain ⟨u, hu⟩ := KvOf.at h nd'
    refine k9 ?_
    clear k9 P9
    exact ⟨u, by rw [e]; exact valueAt_app' hu⟩
theorem KvOf.push {fs : List Fm} {kvs : List (Str × Value)} {f : Fm} {t : Tok} (h : KvOf kvs fs) (hn : f.nd.key ∉ fs.map (·.nd.key)) : KvOf (stored kvs f.nd.key (.int (fs.length : Nat) t)) (f :: fs) := by
  refine ⟨kvs, t, ?_, h⟩
  unfold stored
  rw [if_neg]
  intro hc
  refine park fun P9 k9 => ?_
  obtain ⟨x, hx, e⟩ := List.any_eq_true.mp hc
  refine k9 ?_
  clear k9 P9
  have : x.1 ∈ kvs.map (·.1) := List.mem_map.mpr ⟨x, hx, rfl⟩
  rw [of_decide_eq_true e, KvOf.keys h, List.mem_reverse] at this
  exact hn this
theorem KvOf.pop {fs : List Fm} {kvs : List (Str × Value)} {f : Fm} (h : KvOf kvs (f :: fs)) (hn : f.nd.key ∉ fs.map (·.nd.key)) : KvOf (without kvs f.nd.key) fs := by
  refine park fun P9 k9 => ?_
  obtain ⟨kvs', t, e, h⟩ := h
  refine k9 ?_
  clear k9 P9
  have : without kvs f.nd.key = kvs' := by
    rw [e]
    unfold without
    rw [List.filter_append]
    have h1 : (kvs'.filter fun kv => decide (kv.1 ≠ f.nd.key)) = kvs' := without_of_not_mem kvs' _ (by rw [KvOf.keys h, List.mem_reverse]; exact hn)
    rw [h1]
    simp
  rw [this]; exact h
theorem KvOf.same {f f' : Fm} {fs : List Fm} {kvs : List (Str × Value)} (h : KvOf kvs (f :: fs)) (e : f'.nd = f.nd) : KvOf kvs (f' :: fs) := by
  refine park fun P9 k9 => ?_
  obtain ⟨kvs', t, e1, h⟩ := h
  refine k9 ?_
  clear k9 P9
  exact ⟨kvs', t, by rw [e]; exact e1, h⟩
theorem ne_obj {Z : List (Addr × Obj)} (hs : Sep Z) {a b : Addr} {o o' : Obj} (h : (a, o) ∈ Z) (h' : (b, o') ∈ Z) (hne : o.cls ≠ o'.cls) : a ≠ b := fun e => by
  subst e
  exact hne (by rw [Sep.one hs h h'])

section
variable {KF : Frag} {p : Program} {loose : List Str} {mean : ExcName → Option Value} {mg mb : Str → Option Value} {A : Around} {base : Heap} {outer : List Env} {g₁ : Heap} {L : Addr} {s₀ : Shared}
/-- the state within the search -/
inductive FcS (prog : Program) (w : World) (KF : Frag) (p : Program) (loose : List Str) (mean : ExcName → Option Value) (mg mb : Str → Option Value) (A : Around) (base : Heap) (outer : List Env) (g₁ : Heap) (L : Addr) (s₀ : Shared)
    (nds : List Nd) (Y : List (Addr × Obj)) (I stk its sn nd n2 : Addr) (seen : List Str) (fs : List Fm) (PM : (Str → Option Value) → Prop) : Shared → Prop
  | mk {g' : Heap} {m : Str → Option Value} {Z : List (Addr × Obj)} {h' : Heap} {tk : Nat} (T : KtsTurn (outer.filterMap (·.frame)) g₁ g') (B : Below A base outer g') (X : KF.In g') (P : Top p loose mean mg mb g') (D : KtsDicts (outer.filterMap (·.frame)) g')
      (F : Fr g' L h' m) (N : News g' L h' Z) (hs : Sep Z) (hY : ∀ q ∈ Y, q ∈ Z) (c : FcL prog w nds Z I stk its sn nd seen fs)
      (h0 : m (Str.ofString "n2i") = some (.ref n2)) (h1 : m (Str.ofString "stack") = some (.ref stk)) (h2 : m (Str.ofString "itstack") = some (.ref its)) (h3 : m (Str.ofString "seen") = some (.ref sn)) (h4 : m (Str.ofString "node2stacki") = some (.ref nd)) (hm : PM m) :
      FcS prog w KF p loose mean mg mb A base outer g₁ L s₀ nds Y I stk its sn nd n2 seen fs PM { s₀ with heap := h', toks := tk }
theorem FcL.nil_upd {prog : Program} {w : World} {nds : List Nd} {Z : List (Addr × Obj)} {I stk its sn nd x : Addr} {seen : List Str} {o : Obj} (c : FcL prog w nds Z I stk its sn nd seen [])
    (e1 : stk ≠ x) (e2 : its ≠ x) (e3 : sn ≠ x) (e4 : nd ≠ x) : FcL prog w nds (upd Z x o) I stk its sn nd seen [] := by
  refine park fun P9 k9 => ?_
  obtain ⟨vs, n, k1, k2⟩ := c.stk
  obtain ⟨n', k3⟩ := c.its
  obtain ⟨o1, Sf, k4, k5⟩ := c.set
  obtain ⟨o2, kvs, k6, k7⟩ := c.dct
  refine k9 ?_
  clear k9 P9
  exact ⟨⟨vs, n, mem_upd_ne k1 e1, k2⟩, ⟨n', mem_upd_ne k3 e2⟩, fun f hf => (nomatch hf), ⟨o1, Sf, mem_upd_ne k4 e3, k5⟩, ⟨o2, kvs, mem_upd_ne k6 e4, k7⟩, c.nod⟩
theorem FcS.step {prog : Program} {w : World} {nds : List Nd} {Y : List (Addr × Obj)} {I stk its sn nd n2 : Addr} {oI oI' : Obj} {seen : List Str} {PM : (Str → Option Value) → Prop} {s h' : _} {tk : Nat}
    (H : FcS prog w KF p loose mean mg mb A base outer g₁ L s₀ nds ((I, oI) :: Y) I stk its sn nd n2 seen [] PM s) (hk : ∀ b o, b ∉ [I] → s.heap.get? b = some o → h'.get? b = some o) (hI : h'.get? I = some oI')
    (hY : ∀ q ∈ Y, q.1 ≠ I) (e1 : stk ≠ I) (e2 : its ≠ I) (e3 : sn ≠ I) (e4 : nd ≠ I) :
    FcS prog w KF p loose mean mg mb A base outer g₁ L s₀ nds ((I, oI') :: Y) I stk its sn nd n2 seen [] PM { s with heap := h', toks := tk } := by
  refine park fun P9 k9 => ?_
  cases H with
  | mk T B X P D F N hs hYZ c h0 h1 h2 h3 h4 hm =>
    refine k9 ?_
    clear k9 P9
    have mI := hYZ _ (.head _)
    refine .mk (Z := upd _ I oI') T B X P D ⟨F.ns.at' fun o e => hk _ _ (fun q => (N _ mI).2.1 (List.mem_singleton.mp q).symm) e, fun b o e => hk _ _ (fun q => ?_) (F.keep _ _ e), F.above⟩ ?_ hs.upd ?_ (c.nil_upd e1 e2 e3 e4) h0 h1 h2 h3 h4 hm
    · have := (N _ mI).2.2
      rw [← List.mem_singleton.mp q, e] at this; cases this
    · intro q hq
      unfold upd at hq
      refine park fun P9 k9 => ?_
      obtain ⟨r, hr, rfl⟩ := List.mem_map.mp hq
      refine k9 ?_
      clear k9 P9
      by_cases hx : r.1 = I
      · rw [if_pos hx]; exact ⟨hI, (N _ mI).2⟩
      · rw [if_neg hx]; exact ⟨hk _ _ (fun z => hx (List.mem_singleton.mp z)) (N _ hr).1, (N _ hr).2⟩
    · intro q hq
      rcases List.mem_cons.mp hq with rfl | hq
      · exact mem_upd_self mI
      · exact mem_upd_ne (hYZ _ (.tail _ hq)) (hY _ hq)
theorem FcS.last {prog : Program} {w : World} {nds : List Nd} {Y : List (Addr × Obj)} {I stk its sn nd n2 : Addr} {oI : Obj} {seen : List Str} {PM : (Str → Option Value) → Prop} {s : Shared} {h' : Heap}
    (H : FcS prog w KF p loose mean mg mb A base outer g₁ L s₀ nds ((I, oI) :: Y) I stk its sn nd n2 seen [] PM s) (hk : ∀ b o, b ∉ [I] → s.heap.get? b = some o → h'.get? b = some o)
    (hY : ∀ q ∈ Y, q.1 ≠ I) : ∃ g' m, KtsTurn (outer.filterMap (·.frame)) g₁ g' ∧ Below A base outer g' ∧ KF.In g' ∧ Top p loose mean mg mb g' ∧ KtsDicts (outer.filterMap (·.frame)) g' ∧ Fr g' L h' m ∧ News g' L h' Y ∧ ∃ h0 t0, s = { s₀ with heap := h0, toks := t0 } := by
  refine park fun P9 k9 => ?_
  cases H with
  | mk T B X P D F N hs hYZ c h0 h1 h2 h3 h4 hm =>
    refine k9 ?_
    clear k9 P9
    have mI := hYZ _ (.head _)
    refine ⟨_, _, T, B, X, P, D, ⟨F.ns.at' fun o e => hk _ _ (fun q => (N _ mI).2.1 (List.mem_singleton.mp q).symm) e, fun b o e => hk _ _ (fun q => ?_) (F.keep _ _ e), F.above⟩, ?_, _, _, rfl⟩
    · have := (N _ mI).2.2
      rw [← List.mem_singleton.mp q, e] at this; cases this
    · intro q hq
      have := N _ (hYZ _ (.tail _ hq))
      exact ⟨hk _ _ (fun z => hY _ hq (List.mem_singleton.mp z)) this.1, this.2⟩
end
end
section
section
variable {prog : Program} {w : World} {A : Around} {E : Value → Shared → Prop} {s : Shared} {env : Env} {h₀ : Heap} {L : Addr} {x : Str} {px : Pos} {body : List Stmt} {Q : Flow → Shared → Prop}
/-- a for loop over a list of the ledger, whose name lies wherever it lies (a cell) -/
theorem listC {t : Addr} {vs : List Value} {ep : Nat} {m₀ : Str → Option Value} {news : List (Addr × Obj)}
    (J : Nat → (Str → Option Value) → List (Addr × Obj) → Prop) (hh : A.handled = none) (hE : PassesOwn (model prog w) A env E)
    (ht : ∀ i m l, J i m l → (t, W.listOf vs.toArray ep) ∈ l)
    (F : Fr h₀ L s.heap m₀) (N : News h₀ L s.heap news) (hj : J 0 m₀ news)
    (turn : ∀ I i v m₁ news₁ h tk oI, vs[i]? = some v → J i m₁ news₁ → (∀ p ∈ news₁, p.1 ≠ I) → Fr h₀ L h m₁ → News h₀ L h ((I, oI) :: news₁) →
      wpAny (model prog w) A (storeName env x v) (fun _ s₂ => wpAny (model prog w) A (execs body env) (PostG h₀ L (J (i + 1)) I oI { s with heap := h, toks := tk } Q) E s₂) E { s with heap := h, toks := tk })
    (done : ∀ m₁ news₁ h tk, J vs.length m₁ news₁ → Fr h₀ L h m₁ → News h₀ L h news₁ → Q .next { s with heap := h, toks := tk }) :
    wpAny (model prog w) A (pyIter (.ref t)) (fun it s₂ => codeAny (model prog w) A (.forLoop (.Name x px) it body [] env) (fun r s' => match r with | .ok f => Q f s' | .error e => cameBackBy (model prog w) A env E e s') s₂) E s := by
  have ho : s.heap.get? t = some (W.listOf vs.toArray ep) := (N _ (ht _ _ _ hj)).1
  have hls : s.heap.IsList t vs.toArray := ⟨_, ho, rfl, _, rfl⟩
  have hne : t ≠ s.heap.objs.size := Nat.ne_of_lt (Heap.lt_size ho)
  refine wpAny_pyIter_list hls ?_
  have W := Walks.list (prog := prog) (w := w) hh s.heap.objs.size t hne vs.toArray
  rw [show vs.toArray.size = vs.length by simp] at W
  generalize hI : s.heap.objs.size = I at W hne
  have hI0 : ∀ q ∈ news, q.1 ≠ I := fun q hq => hI ▸ Nat.ne_of_lt (Heap.lt_size (N q hq).1)
  have hIh : h₀.get? I = none := hI ▸ next_is_new F
  have hLI : L ≠ I := hI ▸ ne_size F
  have nI : ∀ {b : Addr}, b ≠ I → b ∉ [I] := fun h hm => h (List.mem_singleton.mp hm)
  have fro : ∀ {h h' : Heap} {m₁ : Str → Option Value} {l : List (Addr × Obj)}, (∀ b o, b ∉ [I] → h.get? b = some o → h'.get? b = some o) → Fr h₀ L h m₁ → News h₀ L h l → (∀ q ∈ l, q.1 ≠ I) → Fr h₀ L h' m₁ ∧ News h₀ L h' l := fun hk F N ho => by
    refine ⟨⟨F.ns.at' fun o e => hk _ o (nI hLI) e, fun b o e => hk b o (nI fun q => ?_) (F.keep b o e), F.above⟩, fun q hq => ⟨hk _ _ (nI (ho q hq)) (N q hq).1, (N q hq).2⟩⟩
    rw [q, hIh] at e; cases e
  refine forS W hE (fun i s' => ∃ h tk m₁ l oI, s' = { s with heap := h, toks := tk } ∧ Fr h₀ L h m₁ ∧ News h₀ L h ((I, oI) :: l) ∧ (∀ p ∈ l, p.1 ≠ I) ∧ J i m₁ l ∧ h.IsListIter I t i) ?_ ?_ ?_ ?_
  · intro i s' X92
    refine park fun P9 k9 => ?_
    obtain ⟨h, tk, m₁, l, oI, rfl, _, N₁, _, hJ, hI⟩ := X92
    refine k9 ?_
    clear k9 P9
    exact ⟨hI, ⟨_, (N₁ _ (.tail _ (ht _ _ _ hJ))).1, rfl, _, rfl⟩⟩
  · refine park fun P9 k9 => ?_
    obtain ⟨oI, hoI⟩ : ∃ o, (s.heap.push { cls := .type "list_iterator", data := .fields #[.ref t, .int 0 0] } : Heap).get? I = some o := ⟨_, hI ▸ Heap.get?_push_size _ rfl⟩
    refine k9 ?_
    clear k9 P9
    refine ⟨_, _, m₀, news, oI, rfl, F.push _, fun q hq => ?_, hI0, hj, ?_⟩
    · rcases List.mem_cons.mp hq with rfl | hq
      · exact ⟨hoI, hLI.symm, hIh⟩
      · exact ⟨Heap.get?_push_of_some _ (N q hq).1, (N q hq).2⟩
    · rw [← hI]
      exact ⟨_, Heap.get?_push_size _ rfl, rfl, rfl⟩
  · intro i s' v h' tk' hi X96 hv hst hk
    refine park fun P9 k9 => ?_
    obtain ⟨h, tk, m₁, l, oI, rfl, F₁, N₁, ho, hJ, _⟩ := X96
    obtain ⟨F₂, N₂⟩ := fro hk F₁ (fun q hq => N₁ q (.tail _ hq)) ho
    obtain ⟨oI', hoI', hst'⟩ := id hst.1
    refine k9 ?_
    clear k9 P9
    refine wpAny_mono (turn I i v m₁ l h' tk' oI' (by simpa using hv) hJ ho F₂ (fun q hq => ?_)) (fun _ s₂ h₂ => ?_) fun _ _ e => e
    · rcases List.mem_cons.mp hq with rfl | hq
      · exact ⟨hoI', hLI.symm, hIh⟩
      · exact N₂ q hq
    · refine wpAny_mono h₂ (fun f s₃ h₃ => ?_) fun _ _ e => e
      have fin : EndG h₀ L (J (i + 1)) I oI' { s with heap := h', toks := tk' } s₃ → ∃ h tk m₁ l oI, s₃ = { s with heap := h, toks := tk } ∧ Fr h₀ L h m₁ ∧ News h₀ L h ((I, oI) :: l) ∧ (∀ p ∈ l, p.1 ≠ I) ∧ J (i + 1) m₁ l ∧ h.IsListIter I t (i + 1) := by
        intro X90
        refine park fun P9 k9 => ?_
        obtain ⟨h₄, tk₄, m₄, l₄, rfl, F₄, N₄, ho₄, hJ₄⟩ := X90
        refine k9 ?_
        clear k9 P9
        exact ⟨h₄, tk₄, m₄, l₄, oI', rfl, F₄, N₄, ho₄, hJ₄, ⟨oI', (N₄ _ (.head _)).1, hst'⟩⟩
      cases f with
      | ret v => exact h₃
      | brk => exact h₃
      | next => exact ⟨fin h₃⟩
      | cont => exact ⟨fin h₃⟩
  · intro s' h' tk' X93 hk
    refine park fun P9 k9 => ?_
    obtain ⟨h, tk, m₁, l, oI, rfl, F₁, N₁, ho, hJ, _⟩ := X93
    obtain ⟨F₂, N₂⟩ := fro hk F₁ (fun q hq => N₁ q (.tail _ hq)) ho
    refine k9 ?_
    clear k9 P9
    exact done m₁ l h' tk' hJ F₂ N₂
end
end
section
section
variable {prog : Program} {w : World} {A : Around} {E : Value → Shared → Prop} {s : Shared} {env : Env} {h₀ : Heap} {L : Addr} {x : Str} {px : Pos} {body : List Stmt} {Q : Flow → Shared → Prop}
/-- a for loop over a tuple of the ledger, whose name lies wherever it lies (a cell) -/
theorem tupC {t : Addr} {vs : List Value} {ep : Nat} {m₀ : Str → Option Value} {news : List (Addr × Obj)}
    (J : Nat → (Str → Option Value) → List (Addr × Obj) → Prop) (hh : A.handled = none) (hE : PassesOwn (model prog w) A env E)
    (ht : ∀ i m l, J i m l → (t, tupOf vs.toArray ep) ∈ l)
    (F : Fr h₀ L s.heap m₀) (N : News h₀ L s.heap news) (hj : J 0 m₀ news)
    (turn : ∀ I i v m₁ news₁ h tk oI, vs[i]? = some v → J i m₁ news₁ → (∀ p ∈ news₁, p.1 ≠ I) → Fr h₀ L h m₁ → News h₀ L h ((I, oI) :: news₁) →
      wpAny (model prog w) A (storeName env x v) (fun _ s₂ => wpAny (model prog w) A (execs body env) (PostG h₀ L (J (i + 1)) I oI { s with heap := h, toks := tk } Q) E s₂) E { s with heap := h, toks := tk })
    (done : ∀ m₁ news₁ h tk, J vs.length m₁ news₁ → Fr h₀ L h m₁ → News h₀ L h news₁ → Q .next { s with heap := h, toks := tk }) :
    wpAny (model prog w) A (pyIter (.ref t)) (fun it s₂ => codeAny (model prog w) A (.forLoop (.Name x px) it body [] env) (fun r s' => match r with | .ok f => Q f s' | .error e => cameBackBy (model prog w) A env E e s') s₂) E s := by
  have ho : s.heap.get? t = some (tupOf vs.toArray ep) := (N _ (ht _ _ _ hj)).1
  have hls : s.heap.IsTuple t vs.toArray := ⟨_, ho, rfl, _, rfl⟩
  have hne : t ≠ s.heap.objs.size := Nat.ne_of_lt (Heap.lt_size ho)
  refine wpAny_pyIter_tuple hls ?_
  have W := Walks.tuple (prog := prog) (w := w) hh s.heap.objs.size t hne vs.toArray
  rw [show vs.toArray.size = vs.length by simp] at W
  generalize hI : s.heap.objs.size = I at W hne
  have hI0 : ∀ q ∈ news, q.1 ≠ I := fun q hq => hI ▸ Nat.ne_of_lt (Heap.lt_size (N q hq).1)
  have hIh : h₀.get? I = none := hI ▸ next_is_new F
  have hLI : L ≠ I := hI ▸ ne_size F
  have nI : ∀ {b : Addr}, b ≠ I → b ∉ [I] := fun h hm => h (List.mem_singleton.mp hm)
  have fro : ∀ {h h' : Heap} {m₁ : Str → Option Value} {l : List (Addr × Obj)}, (∀ b o, b ∉ [I] → h.get? b = some o → h'.get? b = some o) → Fr h₀ L h m₁ → News h₀ L h l → (∀ q ∈ l, q.1 ≠ I) → Fr h₀ L h' m₁ ∧ News h₀ L h' l := fun hk F N ho => by
    refine ⟨⟨F.ns.at' fun o e => hk _ o (nI hLI) e, fun b o e => hk b o (nI fun q => ?_) (F.keep b o e), F.above⟩, fun q hq => ⟨hk _ _ (nI (ho q hq)) (N q hq).1, (N q hq).2⟩⟩
    rw [q, hIh] at e; cases e
  refine forS W hE (fun i s' => ∃ h tk m₁ l oI, s' = { s with heap := h, toks := tk } ∧ Fr h₀ L h m₁ ∧ News h₀ L h ((I, oI) :: l) ∧ (∀ p ∈ l, p.1 ≠ I) ∧ J i m₁ l ∧ h.IsTupleIter I t i) ?_ ?_ ?_ ?_
  · intro i s' X92
    refine park fun P9 k9 => ?_
    obtain ⟨h, tk, m₁, l, oI, rfl, _, N₁, _, hJ, hI⟩ := X92
    refine k9 ?_
    clear k9 P9
    exact ⟨hI, ⟨_, (N₁ _ (.tail _ (ht _ _ _ hJ))).1, rfl, _, rfl⟩⟩
  · refine park fun P9 k9 => ?_
    obtain ⟨oI, hoI⟩ : ∃ o, (s.heap.push { cls := .type "tuple_iterator", data := .fields #[.ref t, .int 0 0] } : Heap).get? I = some o := ⟨_, hI ▸ Heap.get?_push_size _ rfl⟩
    refine k9 ?_
    clear k9 P9
    refine ⟨_, _, m₀, news, oI, rfl, F.push _, fun q hq => ?_, hI0, hj, ?_⟩
    · rcases List.mem_cons.mp hq with rfl | hq
      · exact ⟨hoI, hLI.symm, hIh⟩
      · exact ⟨Heap.get?_push_of_some _ (N q hq).1, (N q hq).2⟩
    · rw [← hI]
      exact ⟨_, Heap.get?_push_size _ rfl, rfl, rfl⟩
  · intro i s' v h' tk' hi X96 hv hst hk
    refine park fun P9 k9 => ?_
    obtain ⟨h, tk, m₁, l, oI, rfl, F₁, N₁, ho, hJ, _⟩ := X96
    obtain ⟨F₂, N₂⟩ := fro hk F₁ (fun q hq => N₁ q (.tail _ hq)) ho
    obtain ⟨oI', hoI', hst'⟩ := id hst.1
    refine k9 ?_
    clear k9 P9
    refine wpAny_mono (turn I i v m₁ l h' tk' oI' (by simpa using hv) hJ ho F₂ (fun q hq => ?_)) (fun _ s₂ h₂ => ?_) fun _ _ e => e
    · rcases List.mem_cons.mp hq with rfl | hq
      · exact ⟨hoI', hLI.symm, hIh⟩
      · exact N₂ q hq
    · refine wpAny_mono h₂ (fun f s₃ h₃ => ?_) fun _ _ e => e
      have fin : EndG h₀ L (J (i + 1)) I oI' { s with heap := h', toks := tk' } s₃ → ∃ h tk m₁ l oI, s₃ = { s with heap := h, toks := tk } ∧ Fr h₀ L h m₁ ∧ News h₀ L h ((I, oI) :: l) ∧ (∀ p ∈ l, p.1 ≠ I) ∧ J (i + 1) m₁ l ∧ h.IsTupleIter I t (i + 1) := by
        intro X90
        refine park fun P9 k9 => ?_
        obtain ⟨h₄, tk₄, m₄, l₄, rfl, F₄, N₄, ho₄, hJ₄⟩ := X90
        refine k9 ?_
        clear k9 P9
        exact ⟨h₄, tk₄, m₄, l₄, oI', rfl, F₄, N₄, ho₄, hJ₄, ⟨oI', (N₄ _ (.head _)).1, hst'⟩⟩
      cases f with
      | ret v => exact h₃
      | brk => exact h₃
      | next => exact ⟨fin h₃⟩
      | cont => exact ⟨fin h₃⟩
  · intro s' h' tk' X93 hk
    refine park fun P9 k9 => ?_
    obtain ⟨h, tk, m₁, l, oI, rfl, F₁, N₁, ho, hJ, _⟩ := X93
    obtain ⟨F₂, N₂⟩ := fro hk F₁ (fun q hq => N₁ q (.tail _ hq)) ho
    refine k9 ?_
    clear k9 P9
    exact done m₁ l h' tk' hJ F₂ N₂
end
end
section
section
variable {M : Model} {A : Around} {E : Value → Shared → Prop} {s : Shared} {K : Frag} {env : Env} {pos apos : Pos} {first : List Value} {Q : Value → Shared → Prop} {e o : PySem.Expr} {rest args : List PySem.Expr} {name : Str}
/-- a method is called with starred arguments: it is bound first -/
theorem MethodStar_ (h : wpAny M A (eval o env) (fun ov s₁ => wpAny M A (getAttr ov name true) (fun f s₂ => wpAny M A (callWith pos f [] (backTo pos (starEach args env)) []) Q E s₂) E s₁) E s)
    (he : eval (.Call (.Attribute o name apos) args [] pos) env = (do
      let ov ← eval o env
      standAt apos.atName
      let (f, first) ← holding [ov] (do pure (← getAttr ov name true, []))
      callWith pos f first (backTo pos (starEach args env)) [])) :
    wpAny M A (eval (.Call (.Attribute o name apos) args [] pos) env) Q E s := by
  rw [he]
  refine wpAny_bind (wpAny_mono h (fun ov s₁ h₁ => wpAny_bind (wpAny_standAt (wpAny_bind (wpAny_holding (wpAny_bind (wpAny_mono h₁ (fun fx s₂ h₂ => wpAny_pure ?_) fun _ _ x => x)))))) fun _ _ x => x)
  exact h₂
theorem callWith_SM {q g : Addr} {self : Value} (hf : fnIn K g = true) (h : wpAny M A (spliced (backTo pos (starEach (e :: rest) env))) (fun vs s₁ => MethP K q g self s₁.heap ∧ wpAny M A (call (.ref q) (first ++ vs)) Q E s₁) E s)
    (he : starEach (e :: rest) env = (false, eval e env) :: starEach rest env) (hst : (backTo pos (starEach rest env)).any (·.1) = true) :
    wpAny M A (callWith pos (.ref q) first (backTo pos (starEach (e :: rest) env)) []) Q E s := by
  rw [he] at h ⊢
  exact ks_call (by show (false || (backTo pos (starEach rest env)).any (·.1)) = true; rw [hst]; rfl) (keeps_M hf) (evalArgs_plain h)
end
end
section
/-! ### entering a def that catches, from a frame of any form -/
section
variable {prog : Program} {w : World} {A₀ A : Around} {s : Shared} {base h₀ : Heap} {outer : List Env} {L : Addr} {m : Str → Option Value} {env : Env} {news : List (Addr × Obj)} {K : Frag} {p : Program} {loose : List Str} {mean : ExcName → Option Value} {mg mb : Str → Option Value}
    {R : Result → Shared → Prop} {name qual : Str} {params : Arguments} {body : List Stmt} {scope : Scope} {dV kV doc pm cdv ct oc : Value} {an od : Option Addr} {osl : Array (Option Value)} {f : Addr} {args : Args} {binds : List (Str × Value)}
/-- what the caller gets: a turned base -/
noncomputable def LeaveX (fs : List Addr) (A₀ : Around) (base : Heap) (outer : List Env) (K : Frag) (p : Program) (loose : List Str) (mean : ExcName → Option Value) (mg mb : Str → Option Value) (h₀ : Heap) (L : Addr) (m : Str → Option Value) (g : Heap) (R : Result → Shared → Prop) (v : Value) (s' : Shared) : Prop :=
  ∃ g' L' m' news', KtsTurn fs g g' ∧ Fr g' L' s'.heap m' ∧ News g' L' s'.heap news' ∧ ∀ h₀', KtsTurn (outer.filterMap (·.frame)) h₀ h₀' → Fr h₀' L s'.heap m → News h₀' L s'.heap news' → Below A₀ base outer h₀' → K.In h₀' → Top p loose mean mg mb h₀' →
    KtsDicts (outer.filterMap (·.frame)) h₀' → R (.ok (.ret v)) s'
theorem memX {b : Addr} (hf : env.frame = some L) (hm : b ∈ (env :: outer).filterMap (·.frame)) : b = L ∨ b ∈ outer.filterMap (·.frame) := by
  rw [List.filterMap_cons, hf] at hm
  exact List.mem_cons.mp hm
theorem code_defSX (B : Below A₀ base outer h₀) (F : Fr h₀ L s.heap m) (X₀ : K.In h₀) (N : News h₀ L s.heap news) (T : Top p loose mean mg mb h₀) (XB : K.In base) (TB : Top p loose mean mg mb base) (D : KtsDicts (outer.filterMap (·.frame)) h₀)
    (hA : A.frames = some (env :: outer)) (hf : env.frame = some L) (hke : env.scope.kind = .function)
    (ho : K.lookup f = some ⟨oc, od, .func (fnOf name qual params body scope dV kV doc pm an cdv ct), osl⟩) (hcd : codeIn K cdv qual = true) (hroom : A.depth < recursionLimit)
    (hbind : BindsTo s (fnOf name qual params body scope dV kV doc pm an cdv ct) args binds) (hloc : ∀ y ∈ binds, scope.names.lookup y.1 = some .local)
    (h : ∀ g L' h₁, Fr h₀ L g m → Fr g L' h₁ (fun y => binds.reverse.lookup y) → News g L' h₁ news → Below A base (env :: outer) g → K.In g → Top p loose mean mg mb g → KtsDicts ((env :: outer).filterMap (·.frame)) g →
      wpAny (model prog w) (A.deeper (envOf qual scope L' f cdv)) (execs body (envOf qual scope L' f cdv))
        (fun fl s' => LeaveX ((env :: outer).filterMap (·.frame)) A₀ base outer K p loose mean mg mb h₀ L m g R (match fl with | .ret v => v | _ => .none) s')
        (fun e s' => wpAny (model prog w) (A.deeper (envOf qual scope L' f cdv)) (leaving (envOf qual scope L' f cdv) e) (fun _ s'' => R (.error e) s'') (fun e' s'' => R (.error e') s'') s')
        { s with heap := h₁, toks := s.toks + binds.length })
    (hco : scope.isCoroutine = false) (hgen : scope.isGenerator = false) (hk : scope.kind = .function)
    (hcell : ∀ x ∈ scope.names, x.2 ≠ .cell) : codeAny (model prog w) A (.call (.ref f) args) R s := by
  have X := X₀.keeps F.keep
  refine codeAny_call_def (fd := fnOf name qual params body scope dV kV doc pm an cdv ct) (body := body) (binds := binds) hroom (X _ _ ho) rfl (T.nolimit.keeps F.keep) (codeRec_of X hcd) rfl hbind hcell hloc (fun h₁ hns hk₁ => ?_) hco hgen hk
  have nm : ∀ b o, h₀.get? b = some o → b ∉ news.map (·.1) := fun b o e q => by
    refine park fun P9 k9 => ?_
    obtain ⟨p, hp, rfl⟩ := List.mem_map.mp q
    refine k9 ?_
    clear k9 P9
    rw [(N p hp).2.2] at e; cases e
  have st : h₀.StaysIn (hideAll s.heap (news.map (·.1))) := fun b o e => hideAll_get _ (F.keep b o e) (nm b o e)
  refine park fun P9 k9 => ?_
  obtain ⟨oL, es, ep, hL, hLd, hLk, hLf⟩ := F.ns
  refine k9 ?_
  clear k9 P9
  have nL : L ∉ news.map (·.1) := fun q => by
    refine park fun P9 k9 => ?_
    obtain ⟨p, hp, e⟩ := List.mem_map.mp q
    refine k9 ?_
    clear k9 P9
    exact (N p hp).2.1 e
  have hLg := hideAll_get (news.map (·.1)) hL nL
  have hN : ∀ h', h'.get? L = some oL → Heap.Ns h' L m := fun h' e => ⟨oL, es, ep, e, hLd, hLk, hLf⟩
  have hNs : ∀ (sl : Array (Option Value)) h', h'.get? L = some { oL with slots := sl } → Heap.Ns h' L m := fun sl h' e => ⟨_, es, ep, e, hLd, hLk, hLf⟩
  have hnew : base.get? L = none := by
    cases hq : base.get? L with
    | none => rfl
    | some o => exact absurd (Nat.lt_of_lt_of_le (Heap.lt_size (B.stays L o hq)) F.above) (Nat.lt_irrefl _)
  have ff : s.heap.FunFrames base (env :: outer) := .cons (by rw [hke]; decide) hf F.ns hnew (B.frames.of_keeps fun b o e _ => ⟨o, F.keep b o e, rfl⟩)
  have B₂ : Below A base (env :: outer) (hideAll s.heap (news.map (·.1))) := ⟨hA, fun b o e => st b o (B.stays b o e), funFrames_hideAll ff fun e he b hb hfb => by
    cases he with
    | head => rw [hf] at hfb; exact nL ((Option.some.inj hfb : L = b) ▸ hb)
    | tail _ he =>
      refine park fun P9 k9 => ?_
      obtain ⟨L₁, o₁, hf₁, ho₁⟩ := funFrames_in B.frames e he
      refine k9 ?_
      clear k9 P9
      rw [hf₁] at hfb
      exact nm L₁ o₁ ho₁ ((Option.some.inj hfb : L₁ = b) ▸ hb)⟩
  refine wpAny_mono (h _ s.heap.objs.size h₁ ⟨hN _ hLg, st, F.above⟩ ⟨hns, fun b o e => hk₁ b o (of_hideAll _ e), Nat.le_of_eq (hideAll_size _ _)⟩
    (fun p hp => ⟨hk₁ _ _ (N p hp).1, Nat.ne_of_lt (Heap.lt_size (N p hp).1), hideAll_none _ (List.mem_map_of_mem hp)⟩) B₂ (X₀.keeps st) (T.keeps st) (fun b hb => by
      rcases memX hf hb with rfl | hb
      · exact ⟨oL, es, ep, hLg, hLd⟩
      · refine park fun P9 k9 => ?_
        obtain ⟨o, es', n', ho', hd'⟩ := D b hb
        refine k9 ?_
        clear k9 P9
        exact ⟨o, es', n', st b o ho', hd'⟩)) (fun fl s' hl => ?_) fun _ _ y => y
  have nL₀ : h₀.get? L = none := kts_self F
  refine park fun P9 k9 => ?_
  obtain ⟨g', L', m', news', T', F', N', k⟩ := hl
  obtain ⟨sl, hs⟩ := T'.up hLg
  obtain ⟨T₁, S₁⟩ := kts_turn_at (h := s'.heap) (fs := outer.filterMap (·.frame)) (g := h₀)
    (fun b hb => by
      obtain ⟨_, o, ho', _⟩ := B.frames.mem hb
      exact ⟨o, ho'⟩)
    (fun b o e nmem => F'.keep b o (T'.other b o (st b o e) (fun q => by
      rcases memX hf q with z | z
      · rw [z, nL₀] at e
        cases e
      · exact nmem z)))
    (fun b o e hm => by
      obtain ⟨sl', hs'⟩ := T'.up (st b o e)
      exact ⟨sl', F'.keep _ _ hs'⟩)
  refine k9 ?_
  clear k9 P9
  have B₃ : Below A₀ base outer (ktsHeap s'.heap (outer.filterMap (·.frame)) h₀) := ⟨B.stack, fun b o e => T₁.other b o (B.stays b o e) (fun hm => by
    rw [(B.frames.mem hm).1] at e
    cases e), B.frames.of_keeps fun b o e _ => by
    refine park fun P9 k9 => ?_
    obtain ⟨sl', hs'⟩ := T₁.up e
    refine k9 ?_
    clear k9 P9
    exact ⟨_, hs', rfl⟩⟩
  refine k _ T₁ ⟨hNs sl _ (F'.keep _ _ hs), S₁, by rw [T₁.size]; exact F.above⟩ (fun p hp => ⟨(N' p hp).1, fun q => ?_, ?_⟩) B₃ (XB.keeps B₃.stays) (TB.keeps B₃.stays) (D.turn T₁)
  · have := (N' p hp).2.2; rw [q, hs] at this; cases this
  · refine T₁.none_ _ ?_
    cases q : h₀.get? p.1 with
    | none => rfl
    | some o =>
      refine park fun P9 k9 => ?_
      obtain ⟨sl', hs'⟩ := T'.up (st _ _ q)
      refine k9 ?_
      clear k9 P9
      have := (N' p hp).2.2
      rw [hs'] at this
      cases this
end
end
section
section
variable {A₀ : Around} {base g G B h₅ g1 g2 h₀ : Heap} {outer : List Env} {L : Addr} {m : Str → Option Value} {env : Env}
/-- what a turn within a called def is to the caller -/
theorem turn_out (K : Below A₀ base outer h₀) (F1 : Fr h₀ L g1 m) (T' : KtsTurn ((env :: outer).filterMap (·.frame)) g1 g2) (hf : env.frame = some L) :
    ∃ g', KtsTurn (outer.filterMap (·.frame)) h₀ g' ∧ Fr g' L g2 m ∧ Below A₀ base outer g' := by
  refine park fun P9 k9 => ?_
  obtain ⟨oL, es, ep, hL, hLd, hLk, hLf⟩ := F1.ns
  have nL₀ : h₀.get? L = none := kts_self F1
  obtain ⟨sl, hs⟩ := T'.up hL
  have hNs : Heap.Ns g2 L m := ⟨_, es, ep, hs, hLd, hLk, hLf⟩
  obtain ⟨T₁, S₁⟩ := kts_turn_at (h := g2) (fs := outer.filterMap (·.frame)) (g := h₀)
    (fun b hb => by
      obtain ⟨_, o, ho', _⟩ := K.frames.mem hb
      exact ⟨o, ho'⟩)
    (fun b o e nmem => T'.other b o (F1.keep b o e) (fun q => by
      rcases memX hf q with z | z
      · rw [z, nL₀] at e
        cases e
      · exact nmem z))
    (fun b o e hm => T'.up (F1.keep b o e))
  refine k9 ?_
  clear k9 P9
  refine ⟨_, T₁, ⟨hNs, S₁, by rw [T₁.size]; exact F1.above⟩, ⟨K.stack, fun b o e => T₁.other b o (K.stays b o e) (fun hm => by
    rw [(K.frames.mem hm).1] at e
    cases e), K.frames.of_keeps fun b o e _ => ?_⟩⟩
  refine park fun P9 k9 => ?_
  obtain ⟨sl', hs'⟩ := T₁.up e
  refine k9 ?_
  clear k9 P9
  exact ⟨_, hs', rfl⟩
theorem ground_X (hfr : env.frame = some L) (K : Below A₀ base outer g) (F : Fr g L G m) (hBG : ∀ b o, G.get? b = some o → b ∉ (env :: outer).filterMap (·.frame) → B.get? b = some o) (hBh : B.StaysIn h₅) (hsm : G.UpToSlots h₅) :
    ∃ g', KtsTurn (outer.filterMap (·.frame)) g g' ∧ Fr g' L h₅ m ∧ Below A₀ base outer g' := by
  refine park fun P9 k9 => ?_
  obtain ⟨T, S⟩ := kts_turn_at (h := h₅) (fs := outer.filterMap (·.frame)) (g := g)
    (fun b hb => by
      obtain ⟨_, o, ho, _⟩ := K.frames.mem hb
      exact ⟨o, ho⟩)
    (fun b o e nm => hBh b o (hBG b o (F.keep b o e) (fun hm => by
      rcases memX hfr hm with z | z
      · rw [z, kts_self F] at e
        cases e
      · exact nm z)))
    (fun b o e hm => by
      obtain ⟨_, o', ho', hd⟩ := K.frames.mem hm
      rw [e] at ho'
      cases ho'
      exact hsm b o (F.keep b o e) hd)
  refine k9 ?_
  clear k9 P9
  refine ⟨_, T, ⟨hsm.ns F.ns, S, by rw [T.size]; exact F.above⟩, ⟨K.stack, fun b o e => T.other b o (K.stays b o e) (fun hm => by
    rw [(K.frames.mem hm).1] at e
    cases e), K.frames.of_keeps fun b o e _ => ?_⟩⟩
  refine park fun P9 k9 => ?_
  obtain ⟨sl, hs⟩ := T.up e
  refine k9 ?_
  clear k9 P9
  exact ⟨_, hs, rfl⟩
end
section
variable {prog : Program} {w : World} {A₀ : Around} {E : Value → Shared → Prop} {s' : Shared} {base g g₀ G : Heap} {outer : List Env} {L e t C : Addr} {m : Str → Option Value} {env : Env}
  {vs : List Value} {b₀ : Stmt} {suite : List Stmt} {pos np : Pos} {rest : List ExceptHandler} {Q : Flow → Shared → Prop} {news : List (Addr × Obj)} {KF : Frag}
  {p : Program} {loose : List Str} {mean : ExcName → Option Value} {mg mb : Str → Option Value} {x : Str}
/-- an exception of an own class, raised in a called def, is caught in a frame of any form -/
theorem caught_OX (R : RaisedS base G (env :: outer) e (.ref C) t vs news s'.heap) (F : Fr g L G m) (K : Below A₀ base outer g) (hsm : G.UpToSlots s'.heap) (XB : KF.In base) (TB : Top p loose mean mg mb base)
    (D : KtsDicts (outer.filterMap (·.frame)) g) (T0 : KtsTurn (outer.filterMap (·.frame)) g₀ g)
    (ex : nsIn KF mainGlobals x = some (some (.ref C))) (q : ktsIn KF C "BaseException" = true)
    (k : ∀ h' g', KtsTurn (outer.filterMap (·.frame)) g₀ g' → Fr g' L h' m → News g' L h' news → Below A₀ base outer g' → KF.In g' → Top p loose mean mg mb g' → KtsDicts (outer.filterMap (·.frame)) g' →
      wpAny (model prog w) ((A₀.deeper env).mark (some (.ref e))) (execs (b₀ :: suite) env) Q E { s' with heap := h' })
    (hfr : env.frame = some L) (hgl : env.globals = mainGlobals) (hk : env.scope.kind = .function) (hx : env.kindOf x = some .globalImplicit) (hd : (x == ("__debug__" : Str)) = false)
    (hE : PassesOwnAt (model prog w) ((A₀.deeper env).mark (some (.ref e))) (A₀.deeper env) env E) :
    wpAny (model prog w) (A₀.deeper env) (noteFrame (.ref e) env)
      (fun _ s₂ => wpAny (model prog w) (A₀.deeper env) (setFlight (.ref e) none) (fun _ s₃ =>
        wpAny (model prog w) (A₀.deeper env) (handleBy (.ref e) env (.ExceptHandler (some (.Name x np)) none (b₀ :: suite) pos :: rest)) Q E s₃) E s₂) E s' := by
  refine park fun P9 k9 => ?_
  obtain ⟨⟨B, hB, hBG, hl, hfl, hnew⟩, htup⟩ := R
  refine k9 ?_
  clear k9 P9
  have hL : B.get? L = none := by
    refine park fun P9 k9 => ?_
    obtain ⟨_, ⟨L', _, hf, hn', _⟩, _⟩ := hfl.2.2.1
    refine k9 ?_
    clear k9 P9
    rw [hfr] at hf
    obtain rfl : L = L' := Option.some.inj hf
    exact hn'
  refine wpAny_looks_onW (Around.frames_deeper K.stack) hfr hfl fun h₄ hheld₄ hsm₄ => ?_
  refine wpAny_landsW hheld₄ fun h₅ hheld hsm₅' => ?_
  have hsm₅ := hsm₄.trans hsm₅'
  refine park fun P9 k9 => ?_
  obtain ⟨g₅, T₅, F₅, K₅⟩ := ground_X hfr K F hBG hheld.1 (hsm.trans hsm₅)
  have X₅ : KF.In g₅ := XB.keeps K₅.stays
  have P₅ : TopRead p loose mg mb g₅ := topRead_of (TB.keeps K₅.stays)
  obtain ⟨ob, hob, hobc⟩ := hheld.there
  obtain ⟨nm, q', N, bs, bm, hdct, sn, sub, ab, col, dd, k0, k1, k2, k3, k5, newId, hC, hbase, hbT⟩ := kts_cls X₅ q
  refine k9 ?_
  clear k9 P9
  have hC₅ := F₅.keep _ _ hC
  refine wpAny_handleBy_cons (codeAny_handlers_test (nameG_K F₅ X₅ P₅ ex ?_ hgl hk hx hd)) (by intro q; cases q)
  refine wpAny_excMatches_sub_self hC₅ hob hobc hbase (codeAny_handlers_suite ?_)
  refine lands_againW hheld fun h₆ hfl₆ hsm₆ => ?_
  refine park fun P9 k9 => ?_
  obtain ⟨g₆, T₆, F₆, K₆⟩ := ground_X hfr K F hBG hfl₆.1 ((hsm.trans hsm₅).trans hsm₆)
  refine k9 ?_
  clear k9 P9
  have Nl : News g₆ L h₆ news := fun q hq => ⟨hfl₆.1 _ _ (hl q hq).1, (fun z => by have := (hl q hq).1; rw [z, hL] at this; cases this), T₆.none_ _ (kts_none F.keep (hl q hq).2.1)⟩
  have X₆ : KF.In g₆ := XB.keeps K₆.stays
  have P₆ : Top p loose mean mg mb g₆ := TB.keeps K₆.stays
  have D₆ : KtsDicts (outer.filterMap (·.frame)) g₆ := D.turn T₆
  exact wpAny_passesOwnAt hE (k h₆ g₆ (T0.trans T₆) F₆ Nl K₆ X₆ P₆ D₆)
end
end
section
section
variable {prog : Program} {w : World} {A : Around} {E : Value → Shared → Prop} {s : Shared} {h₀ : Heap} {L t : Addr} {m : Str → Option Value} {news : List (Addr × Obj)} {vs : List Value} {n : Nat}
theorem iter_M {Q : Value → Shared → Prop} (F : Fr h₀ L s.heap m) (N : News h₀ L s.heap news) (hp : (t, W.listOf vs.toArray n) ∈ news)
    (h : ∀ (I : Addr) h', Fr h₀ L h' m → News h₀ L h' ((I, liObj t (0 : Nat)) :: news) → (∀ p ∈ news, p.1 < I) → Q (.ref I) { s with heap := h' }) :
    wpAny (model prog w) A (call (.builtin "iter") [.ref t]) Q E s := by
  refine call_function_entry (by decide +kernel) (by decide +kernel) kdk_entry_iter (kdk_args_iter _) ?_
  unfold Builtin.«iter»
  refine wpAny_bind (m := someArgs "iter" 1 2 _) (wpAny_of_eq (a := [Value.ref t]) (by first | rfl | kernel_rfl!) ?_)
  show wpAny _ _ (pyIter (.ref t) >>= _) _ _ _
  refine wpAny_bind (wpAny_pyIter_list (items := vs.toArray) ⟨_, (N _ hp).1, rfl, _, rfl⟩ ?_)
  exact wpAny_pure ⟨_, rfl, h _ _ (F.push _) (News.push F N _ rfl) (fun q hq => Heap.lt_size (N q hq).1)⟩
theorem next_M {it l : Addr} {i : Int} {Q : Value → Shared → Prop} (F : Fr h₀ L s.heap m) (N : News h₀ L s.heap news) (hp : (it, liObj l i) ∈ news)
    (h : ∀ (M : Addr) h', Fr h₀ L h' m → News h₀ L h' ((M, mwObj it) :: news) → (∀ p ∈ news, p.1 < M) → Q (.ref M) { s with heap := h', toks := s.toks + 1 }) :
    wpAny (model prog w) A (getAttr (.ref it) "__next__" true) Q E s := by
  refine park fun P9 k9 => ?_
  obtain ⟨hp', gn, d, tk, os⟩ := s
  refine k9 ?_
  clear k9 P9
  exact next_attr (N _ hp).1 (h _ _ (F.push _) (News.push F N _ rfl) (fun q hq => Heap.lt_size (N q hq).1))
theorem last_M {value slice : PySem.Expr} {x : Value} {u : Tok} {Q : Value → Shared → Prop} (N : News h₀ L s.heap news) (hp : (t, W.listOf (vs ++ [x]).toArray n) ∈ news) (hz : vs.length ≤ 1000000) (h : Q x s)
    (hs : subscripted slice false (.ref t) (.int (-1) u) = operate [.ref t, .int (-1) u] (getItem (.ref t) (.int (-1) u)) := by with_unfolding_all rfl) :
    wpAny (model prog w) A (subscriptTail value slice (.ref t) (.int (-1) u)) Q E s := by
  have hl : s.heap.IsList t (vs ++ [x]).toArray := ⟨_, (N _ hp).1, rfl, _, rfl⟩
  refine tail_any hl.typeIs slot_list_getitem.lookup ?_ hs
  refine wpAny_getItem_list_neg hl (by decide) (by simp; omega) (by decide) ?_ h
  simp
  rw [show (-1 + ((vs.length : Int) + 1)).toNat = vs.length from by omega]
  simp
theorem pop_M {x : Value} {Q : Value → Shared → Prop} (F : Fr h₀ L s.heap m) (N : News h₀ L s.heap news) (hs : Sep news) (hp : (t, W.listOf (vs ++ [x]).toArray n) ∈ news) (hz : vs.length ≤ 1000000)
    (h : ∀ h', Fr h₀ L h' m → News h₀ L h' (upd news t (W.listOf vs.toArray (n + 1))) → Q x { s with heap := h' }) : wpAny (model prog w) A (call (.builtin "list.pop") [.ref t]) Q E s := by
  refine kl_pop F N (p := vs) (y := x) ?_ (upd_of hs hp) (by simp; rw [sizeLine_eq]; omega) h
  have := kpa_last x vs
  simpa using this
theorem truthy_none {Q : Bool → Shared → Prop} (N : News h₀ L s.heap news) (hp : (t, W.listOf #[] n) ∈ news) (h : Q false { s with toks := s.toks + 1 + 1 }) : wpAny (model prog w) A (truthy (.ref t)) Q E s :=
  wpAny_truthy_list (items := #[]) ⟨_, (N _ hp).1, rfl, _, rfl⟩ (by decide) h
theorem truthy_some {x : Value} {Q : Bool → Shared → Prop} (N : News h₀ L s.heap news) (hp : (t, W.listOf (vs ++ [x]).toArray n) ∈ news) (hz : vs.length ≤ 1000000) (h : Q true { s with toks := s.toks + 1 + 1 }) : wpAny (model prog w) A (truthy (.ref t)) Q E s :=
  wpAny_truthy_list (items := (vs ++ [x]).toArray) ⟨_, (N _ hp).1, rfl, _, rfl⟩ (by simp; omega) (by rw [show (!(vs ++ [x]).toArray.isEmpty) = true from by simp]; exact h)
theorem strs_snoc {vs : List Value} {ks : List Str} {k : Str} (h : StrsAre vs (ks ++ [k])) : ∃ us t, vs = us ++ [.str k t] ∧ StrsAre us ks := by
  induction ks generalizing vs with
  | nil =>
    refine park fun P9 k9 => ?_
    obtain ⟨t, vs', rfl, h2⟩ := StrsAre.cons_inv h
    refine k9 ?_
    clear k9 P9
    cases StrsAre.nil_inv h2
    exact ⟨[], t, rfl, .nil⟩
  | cons x r ih =>
    refine park fun P9 k9 => ?_
    obtain ⟨t, vs', rfl, h2⟩ := StrsAre.cons_inv h
    obtain ⟨us, u, rfl, h'⟩ := ih h2
    refine k9 ?_
    clear k9 P9
    exact ⟨_ :: us, u, rfl, .cons _ _ h'⟩
theorem in_set {sa : Addr} {so : Obj} {S : Str → Bool} {c : Nat} {k : Str} {u : Tok} (b : Bool) {Q : Value → Shared → Prop} (N : News h₀ L s.heap news) (hs : Sep news) (hm : (sa, so) ∈ news) (hso : so.SetObjOf (PySem.strKind prog w) S c) (hb : c ≤ 4000)
    (hS : S k = b) (h : Q (.bool b) { s with toks := s.toks + 1 }) : wpAny (model prog w) A (compareOp .In (.str k u) (.ref sa)) Q E s :=
  kse_in N (updF_of hs hm) hso (by unfold scanBound; omega) (strKind_is _ _ _ _) rfl (hS ▸ h)
end
theorem stop_exc : isSubtype (.type "StopIteration") (.type "BaseException") = pure true := by rw [isSubtype_type]; kernel_rfl
theorem stop_sub : isSubtype (.type "StopIteration") (.type "StopIteration") = pure true := by rw [isSubtype_type]; kernel_rfl
theorem stop_tup : isSubtype (.type ((Manifest.find? "StopIteration").elim "type" fun x => x.metatype)) (.type "tuple") = pure false := by
  rw [show (Manifest.find? "StopIteration").elim "type" (fun x => x.metatype) = "type" from by kernel_rfl, isSubtype_type]; kernel_rfl
theorem callWith_mw {M : Model} {A : Around} {E : Value → Shared → Prop} {s : Shared} {pos : Pos} {u it : Addr} {env : Env} {Q : Value → Shared → Prop} (ho : s.heap.get? u = some (mwObj it))
    (h : wpAny M A (call (.ref u) []) Q E s) : wpAny M A (callWith pos (.ref u) [] (backTo pos (starEach [] env)) []) Q E s := by
  show wpAny M A (callWith pos (.ref u) [] [] []) Q E s
  unfold callWith
  refine wpAny_bind (wpAny_holding (PyProof.Rows.evalArgs_none (wpAny_bind (wpAny_standAt ?_))))
  simp only [List.any_nil, Bool.or_false]
  refine wpAny_bind (m := keeperOf (.ref u)) ?_
  unfold keeperOf
  refine wpAny_bind (wpAny_load ho ?_)
  simp only [mwObj, show (Value.type "method-wrapper" != Value.type "method") = true by decide, show (Value.type "method-wrapper" == Value.type "builtin_function_or_method" || Value.type "method-wrapper" == Value.type "method-wrapper") = true by decide, if_true]
  refine wpAny_pure ?_
  exact wpAny_bind (wpAny_mono h (fun r s₂ hr => wpAny_bind (wpAny_holding (wpAny_point (wpAny_pure hr)))) fun _ _ x => x)
end
section
theorem pick_from (vs : List Value) (k : Nat) : (slicePick vs.toArray (some (k : Int)) none none).toList = vs.drop k := by
  have e : sliceBounds (some (k : Int)) none none vs.toArray.size = (((min k vs.toArray.size : Nat) : Int), ((vs.toArray.size : Nat) : Int), 1) := by
    simp only [sliceBounds, Option.getD_none, show (1 : Int) > 0 by decide, if_true, if_neg (show ¬ ((k : Int) < 0) by omega)]
    congr 1
    omega
  rw [kmk_pick_nat _ e]
  show (vs.drop (min k vs.toArray.size)).take (vs.toArray.size - min k vs.toArray.size) = _
  rw [List.size_toArray, kmk_drop_min, List.take_of_length_le (by rw [List.length_drop]; omega)]
section
variable {prog : Program} {w : World} {A : Around} {E : Value → Shared → Prop} {s : Shared} {h₀ : Heap} {L t : Addr} {m : Str → Option Value} {news : List (Addr × Obj)} {vs : List Value} {n : Nat} {value slice : PySem.Expr} {Q : Value → Shared → Prop}
theorem sliceFrom_M {k : Nat} {kt : Tok} (F : Fr h₀ L s.heap m) (N : News h₀ L s.heap news) (hp : (t, W.listOf vs.toArray n) ∈ news) (hz : vs.length ≤ 1000000)
    (h : ∀ D h', Fr h₀ L h' m → News h₀ L h' ((D, W.listOf (vs.drop k).toArray 0) :: news) → (∀ p ∈ news, p.1 < D) → Q (.ref D) { s with heap := h' })
    (hs : subscripted slice false (.ref t) (.ref s.heap.objs.size) = operate [.ref s.heap.objs.size, .ref t] (getItem (.ref t) (.ref s.heap.objs.size))) (ht : ∀ r, letTemporaryGo value (.ref t) r = pure ()) :
    wpAny (model prog w) A (subscriptTail value slice (.ref t) (.ref s.heap.objs.size)) Q E { s with heap := s.heap.push { cls := .type "slice", data := .fields #[.int (k : Nat) kt, .none, .none] } } :=
  kmk_slice_lit F N ⟨_, (N _ hp).1, rfl, _, rfl⟩ (.int _ _) .none (pick_from vs k) h hs ht (by rw [List.size_toArray]; exact seven_le hz)
theorem cat_M {b : Addr} {ws : List Value} {n' : Nat} (F : Fr h₀ L s.heap m) (N : News h₀ L s.heap news) (ha : (t, W.listOf vs.toArray n) ∈ news) (hb : (b, W.listOf ws.toArray n') ∈ news) (hz : vs.length + ws.length ≤ 1000000)
    (h : ∀ D h', Fr h₀ L h' m → News h₀ L h' ((D, W.listOf (vs ++ ws).toArray 0) :: news) → (∀ p ∈ news, p.1 < D) → Q (.ref D) { s with heap := h' }) : wpAny (model prog w) A (binaryOp .Add (.ref t) (.ref b)) Q E s :=
  kmk_add_lit F N ⟨_, (N _ ha).1, rfl, _, rfl⟩ ⟨_, (N _ hb).1, rfl, _, rfl⟩ rfl h (seven_le hz)
end
end
section
theorem meets_bool_list (l : Addr) : Meets (Builtin.«bool.__new__» ⟨[.type "bool", .ref l], []⟩) (fun _ R s => ∃ items, s.heap.IsList l items ∧ (items.size : Int) < 2 ^ 63 ∧ R (.ok (.ret (.bool (!items.isEmpty)))) { s with toks := s.toks + 1 + 1 }) :=
  Meets.of_wp fun prog w A R s ⟨items, hl, hz, hs⟩ => by
    have f1 := F.conv_sub_bool
    repeat (any_goals (first | assumption | with_reducible apply wpAny_truthy_list hl hz | wp_step))
    exact ⟨_, rfl, hs⟩
section
variable {prog : Program} {w : World} {A : Around} {E : Value → Shared → Prop} {s : Shared} {h₀ : Heap} {L t : Addr} {m : Str → Option Value} {news : List (Addr × Obj)} {vs : List Value} {n : Nat} {Q : Value → Shared → Prop}
theorem bool_M (N : News h₀ L s.heap news) (hp : (t, W.listOf vs.toArray n) ∈ news) (hz : vs.length ≤ 1000000) (h : Q (.bool (!vs.isEmpty)) { s with toks := s.toks + 1 + 1 }) : wpAny (model prog w) A (call (.type "bool") [.ref t]) Q E s := by
  refine call_bool_1 (meets_bool_list t) ⟨vs.toArray, ⟨_, (N _ hp).1, rfl, _, rfl⟩, by simp; omega, ?_⟩
  refine ⟨rfl, ?_⟩
  rw [show vs.toArray.isEmpty = vs.isEmpty from by simp]
  exact h
theorem tuple_M (F : Fr h₀ L s.heap m) (N : News h₀ L s.heap news) (hp : (t, W.listOf vs.toArray n) ∈ news) (hz : vs.length ≤ 16000)
    (h : ∀ D h', Fr h₀ L h' m → News h₀ L h' ((D, tupOf vs.toArray 0) :: news) → (∀ p ∈ news, p.1 < D) → Q (.ref D) { s with heap := h' }) : wpAny (model prog w) A (call (.type "tuple") [.ref t]) Q E s :=
  kde_tupleOf F N (items := vs.toArray) ⟨_, (N _ hp).1, rfl, _, rfl⟩ (by simp; omega) rfl h
theorem clear_M (F : Fr h₀ L s.heap m) (N : News h₀ L s.heap news) (hs : Sep news) (hp : (t, W.listOf vs.toArray n) ∈ news) (hz : vs.length ≤ 1000000) (hne : vs ≠ [])
    (h : ∀ h', Fr h₀ L h' m → News h₀ L h' (upd news t (W.listOf #[] (n + 1))) → Q .none { s with heap := h' }) : wpAny (model prog w) A (call (.builtin "list.clear") [.ref t]) Q E s :=
  kl_clear F N (upd_of hs hp) (fun q => hne (by simpa using q)) (by simp; rw [sizeLine_eq]; omega) h
end
end
section
section
variable {prog : Program} {w : World} {A : Around} {E : Value → Shared → Prop} {s : Shared} {h₀ : Heap} {L d : Addr} {m : Str → Option Value} {news : List (Addr × Obj)} {K : Type} [DecidableEq K] {knd : KeyKind prog w K} {kvs : List (K × Value)} {o : Obj}
abbrev viewObj (d : Addr) : Obj := { cls := .type "dict_values", data := .fields #[.ref d] }
theorem values_method {pl : Sem Bool} {Q : Value × List Value → Shared → Prop} (N : News h₀ L s.heap news) (hp : (d, o) ∈ news) (hd : o.IsDictOf knd kvs) (h : Q (.builtin "dict.values", [.ref d]) s) : wpAny (model prog w) A (getMethod (.ref d) "values" pl) Q E s :=
  have hD := kda_dict N hp hd
  getMethod_builtin hD.typeIs PySem.F.plainAttrs_dict PySem.F.slot_dict_values PySem.F.type_dict_values hD.mapOf.noDict h
theorem values_M {Q : Value → Shared → Prop} (F : Fr h₀ L s.heap m) (N : News h₀ L s.heap news) (hp : (d, o) ∈ news) (hd : o.IsDictOf knd kvs) (lo : (d == sysModules) = false)
    (h : ∀ V h', Fr h₀ L h' m → News h₀ L h' ((V, viewObj d) :: news) → (∀ p ∈ news, p.1 < V) → Q (.ref V) { s with heap := h' }) :
    wpAny (model prog w) A (call (.builtin "dict.values") [.ref d]) Q E s :=
  have hD := kda_dict N hp hd
  call_meetsIn PySem.F.slot_dict_values hD.typeIs PySem.F.entry_dict_values (PySem.F.args_dict_values_1 _) (meets_dict_values knd d lo)
    ⟨⟨_, hD⟩, h _ _ (F.push _) (News.push F N _ rfl) fun q hq => Heap.lt_size (N q hq).1⟩
end
/-! ### comprehensions over an opaque ledger -/
section
variable {prog : Program} {w : World} {A : Around} {E : Value → Shared → Prop} {env : Env} {h₀ : Heap} {L : Addr}
/-- what is known of a source's iterator, of an element and of the end -/
structure CompAt (prog : Program) (w : World) (A : Around) (env : Env) (scope : Scope) (cl : List (Str × Addr)) (x : Str) (ifs : List Expr) (elt : Expr) (p : Value → Bool) (G : Value → Value → Prop) (h₀ : Heap) (L : Addr) (Q : Value → Shared → Prop)
    (I : Addr) (fp : List Addr) (n : Nat) (P : Nat → Value → Prop) (St : Nat → Heap → Prop) (m : Str → Option Value) (news : List (Addr × Obj)) (s₂ : Shared) : Prop where
  wk : Walks prog w A I fp [I] n P St
  sz : n ≤ sizeLine
  st : St 0 s₂.heap
  fp : ∀ b ∈ fp, b < s₂.heap.objs.size
  F : Fr h₀ L s₂.heap m
  N : News h₀ L s₂.heap news
  off : ∀ q ∈ news, q.1 ≠ I
  new : h₀.get? I = none
  ne : L ≠ I
  tests : ∀ C i v s₃ m₃ E', P i v → Fr h₀ L s₃.heap m → News h₀ L s₃.heap news → s₃.heap.Ns C m₃ → m₃ x = some v →
    wpAny (model prog w) A (forIn ifs true fun c r => if r = true then do let ok ← isTrue c (compEnvC scope cl C env) (eval c (compEnvC scope cl C env)); pure (ForInStep.yield ok) else pure (ForInStep.yield r)) (fun ok s₄ => ok = p v ∧ Keeps s₃ s₄) E' s₃
  elt : ∀ C i v s₃ m₃ E', P i v → p v = true → Fr h₀ L s₃.heap m → News h₀ L s₃.heap news → s₃.heap.Ns C m₃ → m₃ x = some v →
    wpAny (model prog w) A (eval elt (compEnvC scope cl C env)) (fun y s₄ => G v y ∧ Keeps s₃ s₄) E' s₃
  done : ∀ D h' tk ys k (vs : List Value), vs.length = n → (∀ j v, vs[j]? = some v → P j v) → Paired G (vs.filter p) ys → Fr h₀ L h' m → News h₀ L h' ((D, W.listOf ys.toArray k) :: news) → (∀ q ∈ news, q.1 ≠ D) → Q (.ref D) { s₂ with heap := h', toks := tk }
theorem compW {s : Shared} {elt iter : Expr} {x : Str} {px : Pos} {ifs : List Expr} {scope : Scope} {cl : List (Str × Addr)} {pos : Pos} {Q : Value → Shared → Prop} (p : Value → Bool) (G : Value → Value → Prop)
    (hclos : closureFor scope env = pure cl) (hcell : ∀ y ∈ scope.names, y.2 ≠ .cell) (hkind : scope.kind = .function)
    (hnames : ∀ y ∈ scope.names, y.2 = .local → scope.names.lookup y.1 = some .local) (hx : scope.names.lookup x = some .local) (hs : ∀ x, foldedSetIterable iter env x = pure x)
    (h : wpAny (model prog w) A (eval iter env) (fun xv s₁ => wpAny (model prog w) A (pyIter xv) (fun it s₂ => ∃ I fp n P St m news, it = .ref I ∧ CompAt prog w A env scope cl x ifs elt p G h₀ L Q I fp n P St m news s₂) E s₁) E s) :
    wpAny (model prog w) A (eval (.ListComp elt [⟨.Name x px, iter, ifs, 0⟩] scope pos) env) Q E s := by
  refine wpAny_ListComp_free p G hclos hcell hkind hnames hx (wpAny_mono h (fun xv s₁ h₁ => wpAny_mono h₁ (fun it s₂ h₂ => ?_) fun _ _ e => e) fun _ _ e => e) hs
  refine park fun P9 k9 => ?_
  obtain ⟨I, fp, n, P, St, m, news, rfl, c⟩ := h₂
  refine k9 ?_
  clear k9 P9
  have up : ∀ {h' : Heap}, (∀ b o, b ∉ [I] → s₂.heap.get? b = some o → h'.get? b = some o) → Fr h₀ L h' m ∧ News h₀ L h' news := fun {h'} hk => by
    have nI : ∀ {b : Addr}, b ≠ I → b ∉ [I] := fun h hm => h (List.mem_singleton.mp hm)
    refine ⟨⟨c.F.ns.at' fun o e => hk _ o (nI c.ne) e, fun b o e => hk b o (nI fun q => ?_) (c.F.keep b o e), c.F.above⟩, fun q hq => ⟨hk _ _ (nI (c.off q hq)) (c.N q hq).1, (c.N q hq).2⟩⟩
    rw [q, c.new] at e; cases e
  refine ⟨I, fp, [I], n, P, St, rfl, c.wk, c.sz, c.st, c.fp, ⟨?_, ?_⟩, ?_⟩
  · intro C i v s₃ m₃ E' _ hv hn hm hk _
    refine park fun P9 k9 => ?_
    obtain ⟨F, N⟩ := up hk
    refine k9 ?_
    clear k9 P9
    exact c.tests C i v s₃ m₃ E' hv F N hn hm
  · intro C i v s₃ m₃ E' _ hv hp hn hm hk _
    refine park fun P9 k9 => ?_
    obtain ⟨F, N⟩ := up hk
    refine k9 ?_
    clear k9 P9
    exact c.elt C i v s₃ m₃ E' hv hp F N hn hm
  · intro D h' tk ys vs hD _ hpl hlen hP hF hk
    refine park fun P9 k9 => ?_
    obtain ⟨F, N⟩ := up hk
    obtain ⟨k, hk'⟩ := hpl
    have hne : ∀ {b : Addr} {o : Obj}, s₂.heap.get? b = some o → b ≠ D := fun e q => by rw [q, hD] at e; cases e
    obtain ⟨oL, _, _, hL, _⟩ := c.F.ns
    refine k9 ?_
    clear k9 P9
    refine c.done D h' tk ys.toList k vs hlen hP hF F (fun q hq => ?_) fun q hq => hne (c.N q hq).1
    rcases List.mem_cons.mp hq with rfl | hq
    · refine ⟨hk', (hne hL).symm, ?_⟩
      cases e : h₀.get? D with
      | none => rfl
      | some o => exact absurd rfl (hne (c.F.keep _ _ e))
    · exact N q hq
section
variable {s : Shared} {m : Str → Option Value} {news : List (Addr × Obj)} {K : Type} [DecidableEq K] {knd : KeyKind prog w K} {kvs : List (K × Value)} {o : Obj} {V d t : Addr} {vs : List Value} {k : Nat}
  {elt : Expr} {x : Str} {ifs : List Expr} {scope : Scope} {cl : List (Str × Addr)} {Q : Value → Shared → Prop} {p : Value → Bool} {G : Value → Value → Prop}
noncomputable def CompEls (prog : Program) (w : World) (A : Around) (env : Env) (scope : Scope) (cl : List (Str × Addr)) (x : Str) (ifs : List Expr) (elt : Expr) (p : Value → Bool) (G : Value → Value → Prop) (h₀ : Heap) (L : Addr) (m : Str → Option Value) (news : List (Addr × Obj)) (P : Nat → Value → Prop) : Prop :=
  (∀ C i v s₃ m₃ E', P i v → Fr h₀ L s₃.heap m → News h₀ L s₃.heap news → s₃.heap.Ns C m₃ → m₃ x = some v →
    wpAny (model prog w) A (forIn ifs true fun c r => if r = true then do let ok ← isTrue c (compEnvC scope cl C env) (eval c (compEnvC scope cl C env)); pure (ForInStep.yield ok) else pure (ForInStep.yield r)) (fun ok s₄ => ok = p v ∧ Keeps s₃ s₄) E' s₃) ∧
  ∀ C i v s₃ m₃ E', P i v → p v = true → Fr h₀ L s₃.heap m → News h₀ L s₃.heap news → s₃.heap.Ns C m₃ → m₃ x = some v →
    wpAny (model prog w) A (eval elt (compEnvC scope cl C env)) (fun y s₄ => G v y ∧ Keeps s₃ s₄) E' s₃
theorem compVals (F : Fr h₀ L s.heap m) (N : News h₀ L s.heap news) (hV : (V, viewObj d) ∈ news) (hd : (d, o) ∈ news) (ho : o.IsDictOf knd kvs) (hsz : kvs.length ≤ sizeLine) (hh : A.handled = none)
    (els : CompEls prog w A env scope cl x ifs elt p G h₀ L m news (fun i v => ∃ k, kvs[i]? = some (k, v)))
    (done : ∀ D h' tk ys k, Paired G ((kvs.map (·.2)).filter p) ys → Fr h₀ L h' m → News h₀ L h' ((D, W.listOf ys.toArray k) :: news) → (∀ q ∈ news, q.1 ≠ D) → Q (.ref D) { s with heap := h', toks := tk }) :
    wpAny (model prog w) A (pyIter (.ref V)) (fun it s₂ => ∃ I fp n P St m news, it = .ref I ∧ CompAt prog w A env scope cl x ifs elt p G h₀ L Q I fp n P St m news s₂) E s := by
  refine park fun P9 k9 => ?_
  obtain ⟨ep, hDa⟩ := (Heap.dictOf_iff.mpr ⟨_, (N _ hd).1, ho⟩).dictAt
  refine k9 ?_
  clear k9 P9
  have hI : ∀ q ∈ news, q.1 ≠ s.heap.objs.size := fun q hq => Nat.ne_of_lt (Heap.lt_size (N q hq).1)
  refine wpAny_pyIter_values ⟨_, (N _ hV).1, rfl, rfl⟩ hDa ⟨_, _, _, _, _, m, news, rfl, ⟨Walks.dictValues hh _ d (hI _ hd) kvs ep, hsz, ⟨⟨_, Heap.get?_push_size _ rfl, rfl, rfl⟩, hDa.at' fun o e => Heap.get?_push_of_some _ e⟩, ?_, F.push _, fun q hq => ⟨Heap.get?_push_of_some _ (N q hq).1, (N q hq).2⟩, hI, next_is_new F, ne_size F, els.1, els.2, ?_⟩⟩
  · intro b hb
    rw [Heap.size_push]
    rcases List.mem_cons.mp hb with rfl | hb
    · exact Nat.lt_succ_self _
    · rw [List.mem_singleton.mp hb]
      exact Nat.lt_succ_of_lt (Heap.lt_size (N _ hd).1)
  · intro D h' tk ys k vs hlen hP hF F' N' hn
    have e : vs = kvs.map (·.2) := by
      refine List.ext_getElem (by simpa using hlen) fun j h1 h2 => ?_
      refine park fun P9 k9 => ?_
      obtain ⟨k', hk'⟩ := hP j vs[j] (List.getElem?_eq_getElem h1)
      refine k9 ?_
      clear k9 P9
      rw [List.getElem_map]
      have := (List.getElem?_eq_some_iff.mp hk')
      refine park fun P9 k9 => ?_
      obtain ⟨h3, h4⟩ := this
      refine k9 ?_
      clear k9 P9
      rw [h4]
    rw [e] at hF
    exact done D h' tk ys k hF F' N' hn
end
end
theorem news_rdyE {C Ci : Addr} {S : So} {rest : List (Addr × Obj)} {h₀ h : Heap} {L D : Addr} {o' : Obj} {v : Addr × Obj} {ys : List Value} {k : Nat} (rds : List Str) (N : News h₀ L h ((D, W.listOf ys.toArray k) :: v :: upd (S.cells C Ci ++ rest) S.dx o')) (hr : S.rdy = none)
    (hs : Sep (S.cells C Ci ++ rest)) (hv : ∀ q ∈ S.cells C Ci ++ rest, q.1 ≠ v.1) (hD : ∀ q ∈ v :: (S.cells C Ci ++ rest), q.1 ≠ D) (ho : o' = ({ S with rdy := some (D, ys, k), rds := rds } : So).dobj) :
    News h₀ L h (({ S with rdy := some (D, ys, k), rds := rds } : So).cells C Ci ++ v :: rest) ∧ Sep (({ S with rdy := some (D, ys, k), rds := rds } : So).cells C Ci ++ v :: rest) := by
  have e := upd_dx (C := C) (Ci := Ci) (rest := rest) hs o'
  have s1 : Sep ((D, W.listOf ys.toArray k) :: v :: upd (S.cells C Ci ++ rest) S.dx o') := by
    have := (hs.cons_ne (o := v.2) hv).cons_ne (a := D) (o := W.listOf ys.toArray k) hD
    unfold Sep at this ⊢
    simp only [List.map_cons, upd_addrs] at this ⊢
    exact this
  rw [e] at N s1
  have p : ((D, W.listOf ys.toArray k) :: v :: ((S.x, instObj C S.dx) :: (S.dx, o') :: (S.n2i, S.n2o) :: (S.rcells ++ S.nds.flatMap (Nd.cells Ci)) ++ rest)).Perm (({ S with rdy := some (D, ys, k), rds := rds } : So).cells C Ci ++ v :: rest) := by
    unfold So.cells So.rcells
    rw [hr, ho]
    dsimp only
    refine List.Perm.trans ?_ List.perm_middle.symm
    refine (List.Perm.swap _ _ _).trans (List.Perm.cons _ ?_)
    refine List.Perm.trans ?_ ((List.Perm.cons _ (List.Perm.cons _ (List.Perm.swap _ _ _))))
    refine (List.Perm.swap _ _ _).trans (List.Perm.cons _ ?_)
    exact List.Perm.swap _ _ _
  exact ⟨fun q hq => N q (p.mem_iff.mpr hq), s1.perm p⟩
/-- the ready ones at the start -/
noncomputable def ready0 (nds : List Nd) : List Str := (nds.filter fun u => decide (u.np = 0)).map (·.key)
theorem nd_of {S : So} {i : Nat} {k : Str} {v : Value} (h : (S.nds.map Nd.pair)[i]? = some (k, v)) : ∃ u ∈ S.nds, v = .ref u.x := by
  have := List.mem_of_getElem? h
  refine park fun P9 k9 => ?_
  obtain ⟨u, hu, e⟩ := List.mem_map.mp this
  refine k9 ?_
  clear k9 P9
  exact ⟨u, hu, (Prod.mk.inj e).2.symm⟩
theorem nd_any {l : List (Addr × Obj)} {Ci : Addr} {nds : List Nd} (hs : Sep l) (hm : ∀ v ∈ nds, ∀ q ∈ v.cells Ci, q ∈ l) {u : Nd} (hu : u ∈ nds) : (nds.any fun v => decide (Value.ref u.x = .ref v.x) && decide (v.np = 0)) = decide (u.np = 0) := by
  by_cases h : u.np = 0
  · rw [decide_eq_true h, List.any_eq_true]
    exact ⟨u, hu, by simp [h]⟩
  · rw [decide_eq_false h, List.any_eq_false]
    intro v hv e
    simp only [Bool.and_eq_true, decide_eq_true_eq, Value.ref.injEq] at e
    have h1 := hm u hu _ (.head _)
    have h2 := hm v hv _ (.head _)
    rw [← e.1] at h2
    have h3 := Sep.one hs h1 h2
    unfold Nd.info at h3
    injection h3 with _ _ _ h4
    simp at h4
    exact h (by rw [h4.2.1.1]; exact e.2)
theorem strs_paired {nds : List Nd} {pr : Value → Bool} (q : Nd → Bool) (hq : ∀ u ∈ nds, pr (.ref u.x) = q u) (hinj : ∀ u ∈ nds, ∀ v ∈ nds, u.x = v.x → u.key = v.key) : ∀ {us : List Nd} {ys : List Value}, (∀ u ∈ us, u ∈ nds) →
    Paired (fun v r => ∃ u ∈ nds, v = .ref u.x ∧ r = .str u.key u.kt) (((us.map Nd.pair).map (·.2)).filter pr) ys → StrsAre ys ((us.filter q).map (·.key))
  | [], ys, _, h => by cases h; exact .nil
  | u :: us, ys, hm, h => by
    rw [List.map_cons, List.map_cons, List.filter_cons, show (Nd.pair u).2 = .ref u.x from rfl, hq u (hm u (.head _))] at h
    rw [List.filter_cons]
    have hm' : ∀ u ∈ us, u ∈ nds := fun v hv => hm v (.tail _ hv)
    by_cases e : q u = true
    · rw [if_pos e] at h ⊢
      cases h with
      | cons hd tl =>
        refine park fun P9 k9 => ?_
        obtain ⟨v, hv, e1, rfl⟩ := hd
        refine k9 ?_
        clear k9 P9
        injection e1 with e1
        rw [List.map_cons, hinj u (hm u (.head _)) v hv e1]
        exact .cons _ _ (strs_paired q hq hinj hm' tl)
    · rw [if_neg e] at h ⊢
      exact strs_paired q hq hinj hm' h
theorem truthy_ne {prog : Program} {w : World} {A : Around} {E : Value → Shared → Prop} {s : Shared} {h₀ : Heap} {L t : Addr} {news : List (Addr × Obj)} {vs : List Value} {n : Nat} {Q : Bool → Shared → Prop} (N : News h₀ L s.heap news) (hp : (t, W.listOf vs.toArray n) ∈ news) (hz : vs.length ≤ 1000000) (hne : vs ≠ [])
    (h : Q true { s with toks := s.toks + 1 + 1 }) : wpAny (model prog w) A (truthy (.ref t)) Q E s := by
  refine park fun P9 k9 => ?_
  obtain ⟨us, x, rfl⟩ : ∃ us x, vs = us ++ [x] := ⟨vs.dropLast, vs.getLast hne, (List.dropLast_concat_getLast hne).symm⟩
  refine k9 ?_
  clear k9 P9
  exact truthy_some N hp (by simp at hz; omega) h
theorem raisedS_sub {base G h : Heap} {l : List Env} {e t : Addr} {cls : Value} {vs : List Value} {news news' : List (Addr × Obj)} (R : RaisedS base G l e cls t vs news h) (hs : ∀ q ∈ news', q ∈ news) : RaisedS base G l e cls t vs news' h := by
  refine park fun P9 k9 => ?_
  obtain ⟨⟨B, a, b, c, d, e⟩, f⟩ := R
  refine k9 ?_
  clear k9 P9
  exact ⟨⟨B, a, b, fun q hq => c q (hs q hq), d, e⟩, f⟩
end
section
theorem newList_MK {prog : Program} {w : World} {A : Around} {E : Value → Shared → Prop} {s : Shared} {h₀ : Heap} {L : Addr} {m : Str → Option Value} {news : List (Addr × Obj)} {vs : List Value} {Q : Value → Shared → Prop} (F : Fr h₀ L s.heap m) (N : News h₀ L s.heap news)
    (h : ∀ l h', Fr h₀ L h' m → News h₀ L h' ((l, W.listOf vs.toArray 0) :: news) → (∀ p ∈ news, p.1 < l) → (∀ b o, s.heap.get? b = some o → h'.get? b = some o) → Q (.ref l) { s with heap := h' }) (hsz : vs.length ≤ sizeLine := by size_fits) : wpAny (model prog w) A (newList vs) Q E s :=
  newList_NK F N (fun h' F' N' K => h _ h' F' N' (fun p hp => Heap.lt_size (N p hp).1) K) hsz
theorem strs_filter (pf : Str → Bool) : ∀ {vs : List Value} {xs : List Str}, StrsAre vs xs → StrsAre (vs.filter fun v => match v with | .str q _ => pf q | _ => false) (xs.filter pf)
  | _, _, .nil => .nil
  | _, _, .cons x t h => by
    have ih := strs_filter pf h
    by_cases hp : pf x = true
    · rw [List.filter_cons_of_pos (by exact hp), List.filter_cons_of_pos hp]
      exact .cons x t ih
    · rw [List.filter_cons_of_neg (by exact hp), List.filter_cons_of_neg hp]
      exact ih
/-! ### a comprehension that keeps all that stands -/
section
variable {prog : Program} {w : World} {A : Around} {E : Value → Shared → Prop} {env : Env} {h₀ : Heap} {L : Addr}
/-- what is known of a source's iterator, of an element and of the end -/
structure CompAtK (prog : Program) (w : World) (A : Around) (env : Env) (scope : Scope) (cl : List (Str × Addr)) (x : Str) (ifs : List Expr) (elt : Expr) (p : Value → Bool) (G : Value → Value → Prop) (h₀ : Heap) (L : Addr) (Q : Value → Shared → Prop)
    (I : Addr) (fp : List Addr) (n : Nat) (P : Nat → Value → Prop) (St : Nat → Heap → Prop) (m : Str → Option Value) (news : List (Addr × Obj)) (s₂ : Shared) : Prop where
  wk : Walks prog w A I fp [I] n P St
  sz : n ≤ sizeLine
  st : St 0 s₂.heap
  fp : ∀ b ∈ fp, b < s₂.heap.objs.size
  F : Fr h₀ L s₂.heap m
  N : News h₀ L s₂.heap news
  off : ∀ q ∈ news, q.1 ≠ I
  new : h₀.get? I = none
  ne : L ≠ I
  tests : ∀ C i v s₃ m₃ E', P i v → Fr h₀ L s₃.heap m → News h₀ L s₃.heap news → s₃.heap.Ns C m₃ → m₃ x = some v →
    wpAny (model prog w) A (forIn ifs true fun c r => if r = true then do let ok ← isTrue c (compEnvC scope cl C env) (eval c (compEnvC scope cl C env)); pure (ForInStep.yield ok) else pure (ForInStep.yield r)) (fun ok s₄ => ok = p v ∧ Keeps s₃ s₄) E' s₃
  elt : ∀ C i v s₃ m₃ E', P i v → p v = true → Fr h₀ L s₃.heap m → News h₀ L s₃.heap news → s₃.heap.Ns C m₃ → m₃ x = some v →
    wpAny (model prog w) A (eval elt (compEnvC scope cl C env)) (fun y s₄ => G v y ∧ Keeps s₃ s₄) E' s₃
  done : ∀ D h' tk ys k (vs : List Value), vs.length = n → (∀ j v, vs[j]? = some v → P j v) → Paired G (vs.filter p) ys → Fr h₀ L h' m → News h₀ L h' ((D, W.listOf ys.toArray k) :: news) → (∀ q ∈ news, q.1 ≠ D) → (∀ b o, b ≠ I → s₂.heap.get? b = some o → h'.get? b = some o) → Q (.ref D) { s₂ with heap := h', toks := tk }
theorem compWK {s : Shared} {elt iter : Expr} {x : Str} {px : Pos} {ifs : List Expr} {scope : Scope} {cl : List (Str × Addr)} {pos : Pos} {Q : Value → Shared → Prop} (p : Value → Bool) (G : Value → Value → Prop)
    (hclos : closureFor scope env = pure cl) (hcell : ∀ y ∈ scope.names, y.2 ≠ .cell) (hkind : scope.kind = .function)
    (hnames : ∀ y ∈ scope.names, y.2 = .local → scope.names.lookup y.1 = some .local) (hx : scope.names.lookup x = some .local) (hs : ∀ x, foldedSetIterable iter env x = pure x)
    (h : wpAny (model prog w) A (eval iter env) (fun xv s₁ => wpAny (model prog w) A (pyIter xv) (fun it s₂ => ∃ I fp n P St m news, it = .ref I ∧ CompAtK prog w A env scope cl x ifs elt p G h₀ L Q I fp n P St m news s₂) E s₁) E s) :
    wpAny (model prog w) A (eval (.ListComp elt [⟨.Name x px, iter, ifs, 0⟩] scope pos) env) Q E s := by
  refine wpAny_ListComp_free p G hclos hcell hkind hnames hx (wpAny_mono h (fun xv s₁ h₁ => wpAny_mono h₁ (fun it s₂ h₂ => ?_) fun _ _ e => e) fun _ _ e => e) hs
  refine park fun P9 k9 => ?_
  obtain ⟨I, fp, n, P, St, m, news, rfl, c⟩ := h₂
  refine k9 ?_
  clear k9 P9
  have up : ∀ {h' : Heap}, (∀ b o, b ∉ [I] → s₂.heap.get? b = some o → h'.get? b = some o) → Fr h₀ L h' m ∧ News h₀ L h' news := fun {h'} hk => by
    have nI : ∀ {b : Addr}, b ≠ I → b ∉ [I] := fun h hm => h (List.mem_singleton.mp hm)
    refine ⟨⟨c.F.ns.at' fun o e => hk _ o (nI c.ne) e, fun b o e => hk b o (nI fun q => ?_) (c.F.keep b o e), c.F.above⟩, fun q hq => ⟨hk _ _ (nI (c.off q hq)) (c.N q hq).1, (c.N q hq).2⟩⟩
    rw [q, c.new] at e; cases e
  refine ⟨I, fp, [I], n, P, St, rfl, c.wk, c.sz, c.st, c.fp, ⟨?_, ?_⟩, ?_⟩
  · intro C i v s₃ m₃ E' _ hv hn hm hk _
    refine park fun P9 k9 => ?_
    obtain ⟨F, N⟩ := up hk
    refine k9 ?_
    clear k9 P9
    exact c.tests C i v s₃ m₃ E' hv F N hn hm
  · intro C i v s₃ m₃ E' _ hv hp hn hm hk _
    refine park fun P9 k9 => ?_
    obtain ⟨F, N⟩ := up hk
    refine k9 ?_
    clear k9 P9
    exact c.elt C i v s₃ m₃ E' hv hp F N hn hm
  · intro D h' tk ys vs hD _ hpl hlen hP hF hk
    refine park fun P9 k9 => ?_
    obtain ⟨F, N⟩ := up hk
    obtain ⟨k, hk'⟩ := hpl
    have hne : ∀ {b : Addr} {o : Obj}, s₂.heap.get? b = some o → b ≠ D := fun e q => by rw [q, hD] at e; cases e
    obtain ⟨oL, _, _, hL, _⟩ := c.F.ns
    refine k9 ?_
    clear k9 P9
    refine c.done D h' tk ys.toList k vs hlen hP hF F (fun q hq => ?_) (fun q hq => hne (c.N q hq).1) fun b o hb => hk b o fun hm => hb (List.mem_singleton.mp hm)
    rcases List.mem_cons.mp hq with rfl | hq
    · refine ⟨hk', (hne hL).symm, ?_⟩
      cases e : h₀.get? D with
      | none => rfl
      | some o => exact absurd rfl (hne (c.F.keep _ _ e))
    · exact N q hq
section
variable {s : Shared} {m : Str → Option Value} {news : List (Addr × Obj)} {t : Addr} {vs : List Value} {k : Nat}
  {elt : Expr} {x : Str} {ifs : List Expr} {scope : Scope} {cl : List (Str × Addr)} {Q : Value → Shared → Prop} {p : Value → Bool} {G : Value → Value → Prop}
theorem compListK (F : Fr h₀ L s.heap m) (N : News h₀ L s.heap news) (ht : (t, W.listOf vs.toArray k) ∈ news) (hsz : vs.length ≤ sizeLine) (hh : A.handled = none)
    (els : CompEls prog w A env scope cl x ifs elt p G h₀ L m news (fun i v => vs[i]? = some v))
    (done : ∀ D h' tk ys k, Paired G (vs.filter p) ys → Fr h₀ L h' m → News h₀ L h' ((D, W.listOf ys.toArray k) :: news) → (∀ q ∈ news, q.1 ≠ D) → (∀ b o, s.heap.get? b = some o → h'.get? b = some o) → Q (.ref D) { s with heap := h', toks := tk }) :
    wpAny (model prog w) A (pyIter (.ref t)) (fun it s₂ => ∃ I fp n P St m news, it = .ref I ∧ CompAtK prog w A env scope cl x ifs elt p G h₀ L Q I fp n P St m news s₂) E s := by
  have hI : ∀ q ∈ news, q.1 ≠ s.heap.objs.size := fun q hq => Nat.ne_of_lt (Heap.lt_size (N q hq).1)
  have hls : s.heap.IsList t vs.toArray := ⟨_, (N _ ht).1, rfl, _, rfl⟩
  have W := Walks.list (prog := prog) (w := w) hh s.heap.objs.size t (hI _ ht) vs.toArray
  rw [show vs.toArray.size = vs.length by simp] at W
  refine wpAny_pyIter_list hls ⟨_, _, _, _, _, m, news, rfl, ⟨W, hsz, ⟨⟨_, Heap.get?_push_size _ rfl, rfl, rfl⟩, hls.at fun o e => Heap.get?_push_of_some _ e⟩, ?_, F.push _, fun q hq => ⟨Heap.get?_push_of_some _ (N q hq).1, (N q hq).2⟩, hI, next_is_new F, ne_size F,
    fun C i v s₃ m₃ E' hP => els.1 C i v s₃ m₃ E' (by simpa using hP), fun C i v s₃ m₃ E' hP => els.2 C i v s₃ m₃ E' (by simpa using hP), ?_⟩⟩
  · intro b hb
    rw [Heap.size_push]
    rcases List.mem_cons.mp hb with rfl | hb
    · exact Nat.lt_succ_self _
    · rw [List.mem_singleton.mp hb]
      exact Nat.lt_succ_of_lt (Heap.lt_size (N _ ht).1)
  · intro D h' tk ys k us hlen hP hF F' N' hn hkp
    have e : us = vs := by
      refine List.ext_getElem hlen fun j h1 h2 => ?_
      have := hP j us[j] (List.getElem?_eq_getElem h1)
      rw [List.getElem?_toArray] at this
      refine park fun P9 k9 => ?_
      obtain ⟨h3, h4⟩ := List.getElem?_eq_some_iff.mp this
      refine k9 ?_
      clear k9 P9
      exact h4.symm
    rw [e] at hF
    exact done D h' tk ys k hF F' N' hn fun b o e => hkp b o (Nat.ne_of_lt (Heap.lt_size e)) (Heap.get?_push_of_some _ e)
end
/-! ### a comprehension whose list goes straight to a name -/
/-- what is known of a source's iterator, of an element and of the end -/
structure CompAtA (prog : Program) (w : World) (A : Around) (env : Env) (scope : Scope) (cl : List (Str × Addr)) (x : Str) (ifs : List Expr) (elt : Expr) (p : Value → Bool) (G : Value → Value → Prop) (h₀ : Heap) (y : Str) (Q : Flow → Shared → Prop)
    (I : Addr) (fp : List Addr) (n : Nat) (P : Nat → Value → Prop) (St : Nat → Heap → Prop) (m : Str → Option Value) (news : List (Addr × Obj)) (s₂ : Shared) : Prop where
  wk : Walks prog w A I fp [I] n P St
  sz : n ≤ sizeLine
  st : St 0 s₂.heap
  fp : ∀ b ∈ fp, b < s₂.heap.objs.size
  F : Fr h₀ env.locals s₂.heap m
  N : News h₀ env.locals s₂.heap news
  off : ∀ q ∈ news, q.1 ≠ I
  new : h₀.get? I = none
  ne : env.locals ≠ I
  tests : ∀ C i v s₃ m₃ E', P i v → Fr h₀ env.locals s₃.heap m → News h₀ env.locals s₃.heap news → s₃.heap.Ns C m₃ → m₃ x = some v →
    wpAny (model prog w) A (forIn ifs true fun c r => if r = true then do let ok ← isTrue c (compEnvC scope cl C env) (eval c (compEnvC scope cl C env)); pure (ForInStep.yield ok) else pure (ForInStep.yield r)) (fun ok s₄ => ok = p v ∧ Keeps s₃ s₄) E' s₃
  elt : ∀ C i v s₃ m₃ E', P i v → p v = true → Fr h₀ env.locals s₃.heap m → News h₀ env.locals s₃.heap news → s₃.heap.Ns C m₃ → m₃ x = some v →
    wpAny (model prog w) A (eval elt (compEnvC scope cl C env)) (fun y s₄ => G v y ∧ Keeps s₃ s₄) E' s₃
  done : ∀ D h' tk ys k (vs : List Value), vs.length = n → (∀ j v, vs[j]? = some v → P j v) → Paired G (vs.filter p) ys → Fr h₀ env.locals h' (fun z => if z = y then some (.ref D) else m z) → News h₀ env.locals h' ((D, W.listOf ys.toArray k) :: news) → (∀ q ∈ news, q.1 ≠ D) → Q .next { s₂ with heap := h', toks := tk }
theorem compAW {s : Shared} {elt iter : Expr} {x y : Str} {px py : Pos} {ifs : List Expr} {scope : Scope} {cl : List (Str × Addr)} {pos spos : Pos} {Q : Flow → Shared → Prop} (p : Value → Bool) (G : Value → Value → Prop)
    (hsw : swapsWith (.ListComp elt [⟨.Name x px, iter, ifs, 0⟩] scope pos) (some (.Name y py)) spos.line env = pure true)
    (hclos : closureFor scope env = pure cl) (hcell : ∀ y ∈ scope.names, y.2 ≠ .cell) (hkind : scope.kind = .function)
    (hnames : ∀ y ∈ scope.names, y.2 = .local → scope.names.lookup y.1 = some .local) (hx : scope.names.lookup x = some .local)
    (hy : env.kindOf y = some .local) (hp : (env.scope.kind == .class || (env.scope.kind == .module && env.locals != env.globals)) = false) (hs : ∀ x, foldedSetIterable iter env x = pure x)
    (h : wpAny (model prog w) A (eval iter env) (fun xv s₁ => wpAny (model prog w) A (pyIter xv) (fun it s₂ => ∃ I fp n P St m news, it = .ref I ∧ CompAtA prog w A env scope cl x ifs elt p G h₀ y Q I fp n P St m news s₂) E s₁) E s) :
    wpAny (model prog w) A (exec (.Assign [.Name y py] (.ListComp elt [⟨.Name x px, iter, ifs, 0⟩] scope pos) spos) env) Q E s := by
  refine wpAny_Assign_ListComp_free p G hsw hclos hcell hkind hnames hx hy hp (wpAny_mono h (fun xv s₁ h₁ => wpAny_mono h₁ (fun it s₂ h₂ => ?_) fun _ _ e => e) fun _ _ e => e) hs
  refine park fun P9 k9 => ?_
  obtain ⟨I, fp, n, P, St, m, news, rfl, c⟩ := h₂
  refine k9 ?_
  clear k9 P9
  have up : ∀ {h' : Heap}, (∀ b o, b ∉ [I] → s₂.heap.get? b = some o → h'.get? b = some o) → Fr h₀ env.locals h' m ∧ News h₀ env.locals h' news := fun {h'} hk => by
    have nI : ∀ {b : Addr}, b ≠ I → b ∉ [I] := fun h hm => h (List.mem_singleton.mp hm)
    refine ⟨⟨c.F.ns.at' fun o e => hk _ o (nI c.ne) e, fun b o e => hk b o (nI fun q => ?_) (c.F.keep b o e), c.F.above⟩, fun q hq => ⟨hk _ _ (nI (c.off q hq)) (c.N q hq).1, (c.N q hq).2⟩⟩
    rw [q, c.new] at e; cases e
  refine ⟨I, fp, [I], n, P, St, m, rfl, c.wk, c.sz, c.st, c.fp, fun hm => c.ne (List.mem_singleton.mp hm), c.F.ns, ⟨?_, ?_⟩, ?_⟩
  · intro C i v s₃ m₃ E' _ hv hn hm hk _
    refine park fun P9 k9 => ?_
    obtain ⟨F, N⟩ := up hk
    refine k9 ?_
    clear k9 P9
    exact c.tests C i v s₃ m₃ E' hv F N hn hm
  · intro C i v s₃ m₃ E' _ hv hp hn hm hk _
    refine park fun P9 k9 => ?_
    obtain ⟨F, N⟩ := up hk
    refine k9 ?_
    clear k9 P9
    exact c.elt C i v s₃ m₃ E' hv hp F N hn hm
  · intro D h' tk ys vs hD _ hpl hlen hP hF hns hk
    refine park fun P9 k9 => ?_
    obtain ⟨k, hk'⟩ := hpl
    have hne : ∀ {b : Addr} {o : Obj}, s₂.heap.get? b = some o → b ≠ D := fun e q => by rw [q, hD] at e; cases e
    have nI : ∀ {b : Addr}, b ≠ I → b ∉ [I] := fun h hm => h (List.mem_singleton.mp hm)
    obtain ⟨oL, _, _, hL, _⟩ := c.F.ns
    refine k9 ?_
    clear k9 P9
    refine c.done D h' tk ys.toList k vs hlen hP hF ⟨hns, fun b o e => hk b o (fun q => ?_) (nI fun q => ?_) (c.F.keep b o e), c.F.above⟩ (fun q hq => ?_) fun q hq => hne (c.N q hq).1
    · have := Heap.lt_size e
      rw [q] at this
      exact absurd c.F.above (Nat.not_le.mpr this)
    · rw [q, c.new] at e; cases e
    · rcases List.mem_cons.mp hq with rfl | hq
      · refine ⟨hk', (hne hL).symm, ?_⟩
        cases e : h₀.get? D with
        | none => rfl
        | some o => exact absurd rfl (hne (c.F.keep _ _ e))
      · exact ⟨hk _ _ (c.N q hq).2.1 (nI (c.off q hq)) (c.N q hq).1, (c.N q hq).2⟩
section
variable {s : Shared} {m : Str → Option Value} {news : List (Addr × Obj)} {t : Addr} {vs : List Value} {k : Nat}
  {elt : Expr} {x : Str} {ifs : List Expr} {scope : Scope} {cl : List (Str × Addr)} {y : Str} {env : Env} {Q : Flow → Shared → Prop} {p : Value → Bool} {G : Value → Value → Prop}
theorem compListA (F : Fr h₀ env.locals s.heap m) (N : News h₀ env.locals s.heap news) (ht : (t, W.listOf vs.toArray k) ∈ news) (hsz : vs.length ≤ sizeLine) (hh : A.handled = none)
    (els : CompEls prog w A env scope cl x ifs elt p G h₀ env.locals m news (fun i v => vs[i]? = some v))
    (done : ∀ D h' tk ys k, Paired G (vs.filter p) ys → Fr h₀ env.locals h' (fun z => if z = y then some (.ref D) else m z) → News h₀ env.locals h' ((D, W.listOf ys.toArray k) :: news) → (∀ q ∈ news, q.1 ≠ D) → Q .next { s with heap := h', toks := tk }) :
    wpAny (model prog w) A (pyIter (.ref t)) (fun it s₂ => ∃ I fp n P St m news, it = .ref I ∧ CompAtA prog w A env scope cl x ifs elt p G h₀ y Q I fp n P St m news s₂) E s := by
  have hI : ∀ q ∈ news, q.1 ≠ s.heap.objs.size := fun q hq => Nat.ne_of_lt (Heap.lt_size (N q hq).1)
  have hls : s.heap.IsList t vs.toArray := ⟨_, (N _ ht).1, rfl, _, rfl⟩
  have W := Walks.list (prog := prog) (w := w) hh s.heap.objs.size t (hI _ ht) vs.toArray
  rw [show vs.toArray.size = vs.length by simp] at W
  refine wpAny_pyIter_list hls ⟨_, _, _, _, _, m, news, rfl, ⟨W, hsz, ⟨⟨_, Heap.get?_push_size _ rfl, rfl, rfl⟩, hls.at fun o e => Heap.get?_push_of_some _ e⟩, ?_, F.push _, fun q hq => ⟨Heap.get?_push_of_some _ (N q hq).1, (N q hq).2⟩, hI, next_is_new F, ne_size F,
    fun C i v s₃ m₃ E' hP => els.1 C i v s₃ m₃ E' (by simpa using hP), fun C i v s₃ m₃ E' hP => els.2 C i v s₃ m₃ E' (by simpa using hP), ?_⟩⟩
  · intro b hb
    rw [Heap.size_push]
    rcases List.mem_cons.mp hb with rfl | hb
    · exact Nat.lt_succ_self _
    · rw [List.mem_singleton.mp hb]
      exact Nat.lt_succ_of_lt (Heap.lt_size (N _ ht).1)
  · intro D h' tk ys k us hlen hP hF F' N' hn
    have e : us = vs := by
      refine List.ext_getElem hlen fun j h1 h2 => ?_
      have := hP j us[j] (List.getElem?_eq_getElem h1)
      rw [List.getElem?_toArray] at this
      refine park fun P9 k9 => ?_
      obtain ⟨h3, h4⟩ := List.getElem?_eq_some_iff.mp this
      refine k9 ?_
      clear k9 P9
      exact h4.symm
    rw [e] at hF
    exact done D h' tk ys k hF F' N' hn
end
end
end
section
/-! ### a comprehension with two generators, no tests -/
section
variable {prog : Program} {w : World} {A : Around} {E : Value → Shared → Prop} {R : Result → Shared → Prop} {s : Shared} {env : Env}
  {elt t1 i1 t2 i2 : Expr} {scope : Scope} {pos : Pos} {it acc : Value}
theorem two_start (h0 : codeAny (model prog w) A (.compLoop (.ListComp elt [⟨t1, i1, [], 0⟩, ⟨t2, i2, [], 0⟩] scope pos) 1 it acc env) R s)
    (h : wpAny (model prog w) A (pyIter it) (fun it' s' => codeAny (model prog w) A (.compLoop (.ListComp elt [⟨t1, i1, [], 0⟩, ⟨t2, i2, [], 0⟩] scope pos) 1 it' acc env) R s')
      (notedBy (model prog w) A env fun x s' => R (.error x) s') s) :
    codeAny (model prog w) A (.compStart (.ListComp elt [⟨t1, i1, [], 0⟩, ⟨t2, i2, [], 0⟩] scope pos) 1 it acc env) R s := by
  refine codeAny_of_tree ?_
  show wpAny _ _ ((compStart (.ListComp elt [⟨t1, i1, [], 0⟩, ⟨t2, i2, [], 0⟩] scope pos) 1 it acc env).onRaise (fun x => do noteFrame x env; standAt theWindowsPlace)) _ _ s
  refine wpAny_notedAt ?_
  unfold compStart
  show wpAny _ _ (ask >>= _) _ _ s
  refine wpAny_bind (wpAny_askSetting (wpAny_ite ?_))
  split
  · first
      | exact wpAny_bind (wpAny_pure (wpAny_pure (And.intro rfl h0)))
      | exact wpAny_pure (And.intro rfl h0)
  · first
      | exact wpAny_bind (wpAny_rule (wpAny_bind (wpAny_standAt (wpAny_bind (wpAny_mono h (fun it' s' h' => wpAny_pure (And.intro rfl h')) fun _ _ x => x)))))
      | (refine wpAny_bind (wpAny_rule ?_); show wpAny _ _ (standAt i2.pos >>= _) _ _ s; exact wpAny_bind (wpAny_standAt (wpAny_bind (wpAny_mono h (fun it' s' h' => wpAny_pure (And.intro rfl h')) fun _ _ x => x))))
theorem two_turn1 : compTurn (.ListComp elt [⟨t1, i1, [], 0⟩, ⟨t2, i2, [], 0⟩] scope pos) 1 it acc env = (standAt i2.pos >>= fun _ => pyNext it >>= fun r => match r with
      | none => pure (.done .next)
      | some v => letOwnedTupleGo t2 it v >>= fun _ => assign t2 env v >>= fun _ =>
        (eval elt env >>= fun x => call (.builtin "list.append") [acc, x] >>= fun _ => pure ()) >>= fun _ =>
          again (.compLoop (.ListComp elt [⟨t1, i1, [], 0⟩, ⟨t2, i2, [], 0⟩] scope pos) 1 it acc env)) := by rfl
theorem two_turn0 : compTurn (.ListComp elt [⟨t1, i1, [], 0⟩, ⟨t2, i2, [], 0⟩] scope pos) 0 it acc env = (standAt i1.pos >>= fun _ => pyNext it >>= fun r => match r with
      | none => pure (.done .next)
      | some v => letOwnedTupleGo t1 it v >>= fun _ => assign t1 env v >>= fun _ =>
        eval i2 env >>= fun x => standAt i2.pos >>= fun _ => foldedSetIterable i2 env x >>= fun x => holding [x] (pyIter x) >>= fun it2 =>
        runOwn (.compStart (.ListComp elt [⟨t1, i1, [], 0⟩, ⟨t2, i2, [], 0⟩] scope pos) 1 it2 acc env) env >>= fun _ =>
          again (.compLoop (.ListComp elt [⟨t1, i1, [], 0⟩, ⟨t2, i2, [], 0⟩] scope pos) 0 it acc env)) := by rfl
theorem two_loop1 (I : Nat → Shared → Prop)
    (turn : ∀ n s, I n s → wpAny (model prog w) A (pyNext it) (fun r s₁ => match r with
      | none => R (.ok .next) s₁
      | some v => wpAny (model prog w) A (assign t2 env v) (fun _ s₂ => wpAny (model prog w) A (eval elt env) (fun x s₃ =>
          wpAny (model prog w) A (call (.builtin "list.append") [acc, x]) (fun _ s₄ => ∃ m, m < n ∧ I m s₄) (notedBy (model prog w) A env fun e s' => R (.error e) s') s₃)
          (notedBy (model prog w) A env fun e s' => R (.error e) s') s₂) (notedBy (model prog w) A env fun e s' => R (.error e) s') s₁) (notedBy (model prog w) A env fun e s' => R (.error e) s') s)
    (n : Nat) (h : I n s) (ht : ∀ v, letOwnedTupleGo t2 it v = pure () := by intro _; rfl) :
    codeAny (model prog w) A (.compLoop (.ListComp elt [⟨t1, i1, [], 0⟩, ⟨t2, i2, [], 0⟩] scope pos) 1 it acc env) R s := by
  refine codeAny_loop rfl I (fun n s hI => ?_) n h
  show wpAny _ _ ((compTurn (.ListComp elt [⟨t1, i1, [], 0⟩, ⟨t2, i2, [], 0⟩] scope pos) 1 it acc env).onRaise (fun x => do noteFrame x env; theTreesLotGoes x)) _ _ s
  refine wpAny_noted ?_
  rw [two_turn1]
  refine wpAny_bind (wpAny_standAt (wpAny_bind (wpAny_mono (turn n s hI) (fun r s₁ h₁ => ?_) fun _ _ h' => h')))
  cases r with
  | none => exact wpAny_pure h₁
  | some v =>
    refine wpAny_bind (wpAny_of_eq (ht v) ?_)
    exact wpAny_bind (wpAny_mono h₁ (fun _ s₂ h₂ => wpAny_bind (wpAny_bind (wpAny_mono h₂ (fun x s₃ h₃ => wpAny_bind (wpAny_mono h₃
      (fun _ s₄ h₄ => wpAny_pure (wpAny_pure ⟨rfl, h₄⟩)) fun _ _ h' => h')) fun _ _ h' => h'))) fun _ _ h' => h')
theorem two_loop0 (I : Nat → Shared → Prop)
    (turn : ∀ n s, I n s → wpAny (model prog w) A (pyNext it) (fun r s₁ => match r with
      | none => R (.ok .next) s₁
      | some v => wpAny (model prog w) A (assign t1 env v) (fun _ s₂ => wpAny (model prog w) A (eval i2 env) (fun x s₃ => wpAny (model prog w) A (pyIter x) (fun it2 s₄ =>
          codeAny (model prog w) A (.compStart (.ListComp elt [⟨t1, i1, [], 0⟩, ⟨t2, i2, [], 0⟩] scope pos) 1 it2 acc env) (fun r s' => match r with | .ok _ => ∃ m, m < n ∧ I m s' | .error _ => False) s₄)
          (notedBy (model prog w) A env fun e s' => R (.error e) s') s₃)
          (notedBy (model prog w) A env fun e s' => R (.error e) s') s₂) (notedBy (model prog w) A env fun e s' => R (.error e) s') s₁) (notedBy (model prog w) A env fun e s' => R (.error e) s') s)
    (n : Nat) (h : I n s) (ht : ∀ v, letOwnedTupleGo t1 it v = pure () := by intro _; rfl) (hs : ∀ x, foldedSetIterable i2 env x = pure x := by intro _; rfl) :
    codeAny (model prog w) A (.compLoop (.ListComp elt [⟨t1, i1, [], 0⟩, ⟨t2, i2, [], 0⟩] scope pos) 0 it acc env) R s := by
  refine codeAny_loop rfl I (fun n s hI => ?_) n h
  show wpAny _ _ ((compTurn (.ListComp elt [⟨t1, i1, [], 0⟩, ⟨t2, i2, [], 0⟩] scope pos) 0 it acc env).onRaise (fun x => do noteFrame x env; theTreesLotGoes x)) _ _ s
  refine wpAny_noted ?_
  rw [two_turn0]
  refine wpAny_bind (wpAny_standAt (wpAny_bind (wpAny_mono (turn n s hI) (fun r s₁ h₁ => ?_) fun _ _ h' => h')))
  cases r with
  | none => exact wpAny_pure h₁
  | some v =>
    refine wpAny_bind (wpAny_of_eq (ht v) ?_)
    refine wpAny_bind (wpAny_mono h₁ (fun _ s₂ h₂ => ?_) fun _ _ h' => h')
    refine wpAny_bind (wpAny_mono h₂ (fun x s₃ h₃ => ?_) fun _ _ h' => h')
    refine wpAny_bind (wpAny_standAt ?_)
    refine wpAny_bind (wpAny_of_eq (hs x) ?_)
    refine wpAny_bind (wpAny_holding (wpAny_mono h₃ (fun it2 s₄ h₄ => ?_) fun _ _ h' => h'))
    refine wpAny_bind (wpAny_runOwn (h := none) (codeAny_mono h₄ fun r s' hr => ?_) (by intro q; cases q))
    cases r with
    | ok f => exact wpAny_pure ⟨rfl, hr⟩
    | error e => exact hr.elim
end
section
variable {prog : Program} {w : World} {A : Around} {R : Result → Shared → Prop} {s : Shared} {elt i1 i2 : Expr} {x y : Str} {px py : Pos} {scope : Scope} {pos : Pos}
theorem paired_at {α β : Type} {P : Nat → α → Prop} {n : Nat} {vs : List α} {v : α} (hP : ∀ j u, vs[j]? = some u → P j u) (hv : P vs.length v) : ∀ j u, (vs ++ [v])[j]? = some u → P j u := fun j u hj => by
  rcases Nat.lt_trichotomy j vs.length with h | h | h
  · exact hP j u (by rwa [List.getElem?_append_left h] at hj)
  · subst h; simp at hj; subst hj; exact hv
  · have hnone : (vs ++ [v])[j]? = none := List.getElem?_eq_none (by rw [List.length_append, List.length_singleton]; omega)
    rw [hnone] at hj; cases hj
theorem two_inner {I2 D : Addr} {fp2 : List Addr} {n2 : Nat} {P2 : Nat → Value → Prop} {St2 : Nat → Heap → Prop} {cenv : Env} {m : Str → Option Value} {ys0 : Array Value} (W : Walks prog w A I2 fp2 [I2] n2 P2 St2) (FF : Value → Value → Prop)
    (hy : cenv.kindOf y = some .local) (hp : (cenv.scope.kind == .class || (cenv.scope.kind == .module && cenv.locals != cenv.globals)) = false)
    (hDC : D ≠ cenv.locals) (hDf : D ∉ fp2) (hCf : cenv.locals ∉ fp2) (hst : St2 0 s.heap) (hacc : s.heap.PlainList D ys0) (hn : s.heap.Ns cenv.locals m)
    (helt : ∀ j u s₂ m₂ E', P2 j u → s₂.heap.Ns cenv.locals m₂ → m₂ y = some u → (∀ z, z ≠ y → m₂ z = m z) → (∀ b o, b ≠ cenv.locals → b ≠ I2 → b ≠ D → s.heap.get? b = some o → s₂.heap.get? b = some o) →
      wpAny (model prog w) A (eval elt cenv) (fun r s₃ => FF u r ∧ Keeps s₂ s₃) E' s₂)
    (hR : ∀ h' tk m' (ys us : List Value), h'.Ns cenv.locals m' → (∀ z, z ≠ y → m' z = m z) → h'.PlainList D (ys0 ++ ys.toArray) → us.length = n2 → (∀ j u, us[j]? = some u → P2 j u) → Paired FF us ys →
      (∀ b o, b ≠ cenv.locals → b ≠ I2 → b ≠ D → s.heap.get? b = some o → h'.get? b = some o) → R (.ok .next) { s with heap := h', toks := tk })
    (hsz : ys0.size + n2 ≤ sizeLine) :
    codeAny (model prog w) A (.compLoop (.ListComp elt [⟨.Name x px, i1, [], 0⟩, ⟨.Name y py, i2, [], 0⟩] scope pos) 1 (.ref I2) (.ref D) cenv) R s := by
  have hIf : I2 ∈ fp2 := W.sub _ (.head _)
  have hCI : cenv.locals ≠ I2 := fun e => hCf (e ▸ hIf)
  have hDI : D ≠ I2 := fun e => hDf (e ▸ hIf)
  have one : ∀ {b : Addr}, b ≠ I2 → b ∉ [I2] := fun h hm => h (List.mem_singleton.mp hm)
  refine two_loop1
    (fun k s' => ∃ h' tk m' ys, ∃ us : List Value, s' = { s with heap := h', toks := tk } ∧ St2 us.length h' ∧ h'.PlainList D (ys0 ++ (ys : List Value).toArray) ∧ h'.Ns cenv.locals m' ∧ (∀ z, z ≠ y → m' z = m z) ∧ (∀ j v, us[j]? = some v → P2 j v) ∧
      Paired FF us ys ∧ us.length ≤ n2 ∧ k = n2 + 1 - us.length ∧ (∀ b o, b ≠ cenv.locals → b ≠ I2 → b ≠ D → s.heap.get? b = some o → h'.get? b = some o)) ?_ (n2 + 1)
    ⟨s.heap, s.toks, m, [], [], rfl, hst, by simpa using hacc, hn, fun _ _ => rfl, by simp, .nil, Nat.zero_le _, rfl, fun _ _ _ _ _ e => e⟩
  intro k s' X92
  refine park fun P9 k9 => ?_
  obtain ⟨H, tk, m', ys, us, rfl, hst', hacc', hn', hm', hP, hF, hi, rfl, hk⟩ := X92
  refine k9 ?_
  clear k9 P9
  by_cases hlt : us.length < n2
  · refine W.item us.length _ _ _ hlt hst' fun v h₁ tk₁ hPv hst₁ hk₁ => ?_
    refine wpAny_assign_Name (wpAny_storeName_local hy (hn'.at' fun o e => hk₁ _ o (one hCI) e) (fun h₂ hn₂ hs₂ => ?_) hp)
    have up₂ : ∀ b o, b ≠ cenv.locals → b ≠ I2 → H.get? b = some o → h₂.get? b = some o := fun b o hbC hbI e => hs₂.extBut b o hbC (hk₁ b o (one hbI) e)
    have hst₂ : St2 (us.length + 1) h₂ := W.frame _ _ _ hst₁ fun b hb o e => hs₂.extBut b o (fun h => hCf (h ▸ hb)) e
    refine wpAny_mono (helt us.length v _ _ _ hPv hn₂ (by simp) (fun z hz => by simp [hz, hm' z hz]) (fun b o hbC hbI hbD e => up₂ b o hbC hbI (hk b o hbC hbI hbD e))) (fun r s₄ h₄ => ?_) fun _ _ e => e
    refine park fun P9 k9 => ?_
    obtain ⟨hFr, h₄, tk₄, rfl, hk₄⟩ := h₄
    refine k9 ?_
    clear k9 P9
    have hys : (ys0 ++ ys.toArray).size ≤ sizeLine := by
      have e1 := hF.length
      simp only [Array.size_append, List.size_toArray]
      omega
    have hacc₄ : h₄.PlainList D (ys0 ++ ys.toArray) := hacc'.at fun o e => hk₄ _ o (up₂ D o hDC hDI e)
    refine wpAny_list_append_plain (hsz := hys) hacc₄ fun h₅ hl₅ hs₅ => ?_
    refine ⟨n2 + 1 - (us.length + 1), by omega, h₅, tk₄, _, ys ++ [r], us ++ [v], rfl, ?_, ?_, (hn₂.keeps hk₄).sameBut hs₅ (Ne.symm hDC), fun z hz => by simp [hz, hm' z hz], paired_at (β := Nat) (n := 0) hP hPv, hF.snoc hFr, by rw [List.length_append, List.length_singleton]; exact hlt, by rw [List.length_append, List.length_singleton],
      fun b o hbC hbI hbD e => hs₅.extBut b o hbD (hk₄ b o (up₂ b o hbC hbI (hk b o hbC hbI hbD e)))⟩
    · have := W.frame _ _ h₅ hst₂ fun b hb o e => hs₅.extBut b o (fun h => hDf (h ▸ hb)) (hk₄ b o e)
      simpa using this
    · have e : (ys0 ++ ys.toArray).push r = ys0 ++ (ys ++ [r]).toArray := by simp
      rw [← e]; exact hl₅
  · have hin : us.length = n2 := by omega
    refine W.done _ _ _ (hin ▸ hst') fun h₁ tk₁ hk₁ => ?_
    exact hR h₁ tk₁ m' ys us (hn'.at' fun o e => hk₁ _ o (one hCI) e) hm' (hacc'.at fun o e => hk₁ _ o (one hDI) e) hin hP hF fun b o hbC hbI hbD e => hk₁ b o (one hbI) (hk b o hbC hbI hbD e)
end
section
variable {prog : Program} {w : World} {A : Around} {E : Value → Shared → Prop} {env : Env} {h₀ : Heap} {L : Addr}
/-- what a turn of the outer generator brings -/
structure Two2 (prog : Program) (w : World) (A : Around) (cenv : Env) (C : Addr) (x y : Str) (elt : Expr) (FF : Value → Value → Value → Prop) (Gin : Value → List Value → Prop) (h₀ : Heap) (L : Addr) (m : Str → Option Value) (news : List (Addr × Obj)) (s₂ : Shared) (v it2 : Value) (s₅ : Shared) (s₃ : Shared)
    (I2 : Addr) (fp2 : List Addr) (n2 : Nat) (P2 : Nat → Value → Prop) (St2 : Nat → Heap → Prop) : Prop where
  is : it2 = .ref I2
  wk : Walks prog w A I2 fp2 [I2] n2 P2 St2
  sz : n2 ≤ 100
  st : St2 0 s₅.heap
  kp : Keeps s₃ s₅
  new : s₃.heap.get? I2 = none
  fp : ∀ b ∈ fp2, b = I2 ∨ ∃ o, s₂.heap.get? b = some o
  elt : ∀ j u s₆ m₆ E', P2 j u → Fr h₀ L s₆.heap m → News h₀ L s₆.heap news → s₆.heap.Ns C m₆ → m₆ x = some v → m₆ y = some u → wpAny (model prog w) A (eval elt cenv) (fun r s₇ => FF v u r ∧ Keeps s₆ s₇) E' s₆
  col : ∀ us yl, us.length = n2 → (∀ j u, us[j]? = some u → P2 j u) → Paired (FF v) us yl → Gin v yl
structure TwoAt (prog : Program) (w : World) (A : Around) (env : Env) (scope : Scope) (cl : List (Str × Addr)) (x y : Str) (i2 elt : Expr) (FF : Value → Value → Value → Prop) (Gin : Value → List Value → Prop) (h₀ : Heap) (L : Addr) (Q : Value → Shared → Prop)
    (I : Addr) (fp : List Addr) (n : Nat) (P : Nat → Value → Prop) (St : Nat → Heap → Prop) (m : Str → Option Value) (news : List (Addr × Obj)) (s₂ : Shared) : Prop where
  wk : Walks prog w A I fp [I] n P St
  sz : n ≤ 100
  st : St 0 s₂.heap
  fp : ∀ b ∈ fp, b < s₂.heap.objs.size
  F : Fr h₀ L s₂.heap m
  N : News h₀ L s₂.heap news
  off : ∀ q ∈ news, q.1 ≠ I
  new : h₀.get? I = none
  ne : L ≠ I
  inner : ∀ C i v s₃ m₃ E', P i v → Fr h₀ L s₃.heap m → News h₀ L s₃.heap news → s₃.heap.Ns C m₃ → m₃ x = some v →
    wpAny (model prog w) A (eval i2 (compEnvC scope cl C env)) (fun xv s₄ => wpAny (model prog w) A (pyIter xv) (fun it2 s₅ => ∃ I2 fp2 n2 P2 St2, Two2 prog w A (compEnvC scope cl C env) C x y elt FF Gin h₀ L m news s₂ v it2 s₅ s₃ I2 fp2 n2 P2 St2) E' s₄) E' s₃
  done : ∀ D h' tk k (vs : List Value) (yss : List (List Value)), vs.length = n → (∀ j v, vs[j]? = some v → P j v) → Paired Gin vs yss → Fr h₀ L h' m → News h₀ L h' ((D, W.listOf yss.flatten.toArray k) :: news) → (∀ q ∈ news, q.1 ≠ D) → Q (.ref D) { s₂ with heap := h', toks := tk }
theorem flat_le {Gin : Value → List Value → Prop} {vs : List Value} {yss : List (List Value)} (h : Paired (fun v yl => Gin v yl ∧ yl.length ≤ 100) vs yss) : yss.flatten.length ≤ 100 * vs.length := by
  induction h with
  | nil => exact Nat.le_refl _
  | cons hd tl ih => rw [List.flatten_cons, List.length_append, List.length_cons]; have := hd.2; omega
theorem paired_left {α β : Type} {F G : α → β → Prop} (hi : ∀ a b, F a b → G a b) {l : List α} {k : List β} (h : Paired F l k) : Paired G l k := by
  induction h with
  | nil => exact .nil
  | cons hd tl ih => exact .cons (hi _ _ hd) ih
noncomputable def TwoInv (Gin : Value → List Value → Prop) (C D I : Addr) (n : Nat) (P : Nat → Value → Prop) (St : Nat → Heap → Prop) (s₂ : Shared) (k : Nat) (s' : Shared) : Prop :=
  ∃ h' tk m' yss, ∃ vs : List Value, s' = { s₂ with heap := h', toks := tk } ∧ St vs.length h' ∧ h'.PlainList D (yss.flatten : List Value).toArray ∧ h'.Ns C m' ∧ (∀ j v, vs[j]? = some v → P j v) ∧
        Paired (fun v yl => Gin v yl ∧ yl.length ≤ 100) vs yss ∧ vs.length ≤ n ∧ k = n + 1 - vs.length ∧ (∀ b o, b ≠ I → s₂.heap.get? b = some o → h'.get? b = some o)
theorem compTwo {s : Shared} {elt i1 i2 : Expr} {x y : Str} {px py : Pos} {scope : Scope} {cl : List (Str × Addr)} {pos : Pos} {Q : Value → Shared → Prop} (FF : Value → Value → Value → Prop) (Gin : Value → List Value → Prop)
    (hclos : closureFor scope env = pure cl) (hcell : ∀ z ∈ scope.names, z.2 ≠ .cell) (hkind : scope.kind = .function)
    (hnames : ∀ z ∈ scope.names, z.2 = .local → scope.names.lookup z.1 = some .local) (hx : scope.names.lookup x = some .local) (hy : scope.names.lookup y = some .local) (hxy : x ≠ y) (hs : ∀ x, foldedSetIterable i1 env x = pure x)
    (hs2 : ∀ C x, foldedSetIterable i2 (compEnvC scope cl C env) x = pure x)
    (h : wpAny (model prog w) A (eval i1 env) (fun xv s₁ => wpAny (model prog w) A (pyIter xv) (fun it s₂ => ∃ I fp n P St m news, it = .ref I ∧ TwoAt prog w A env scope cl x y i2 elt FF Gin h₀ L Q I fp n P St m news s₂) E s₁) E s) :
    wpAny (model prog w) A (eval (.ListComp elt [⟨.Name x px, i1, [], 0⟩, ⟨.Name y py, i2, [], 0⟩] scope pos) env) Q E s := by
  rw [eval_ListComp]
  refine wpAny_comprehension_free (use := none) rfl hs hclos hkind hnames (wpAny_mono h (fun xv s₁ h₁ => wpAny_mono h₁ (fun it s₂ h₂ => ?_) fun _ _ e => e) fun _ _ e => e)
  refine park fun P9 k9 => ?_
  obtain ⟨I, fp, n, P, St, m, news, rfl, c⟩ := h₂
  refine k9 ?_
  clear k9 P9
  have W := c.wk
  refine wpAny_newObj_type (wpAny_newFunctionEnv hcell (by intro y hy; simp at hy) (fun h₁ hns₁ hsb₁ => ?_) hkind)
  dsimp only at hns₁ hsb₁ ⊢
  generalize hH2 : s₂.heap.push { cls := .type "list", dict := none, data := .seq ([] : List Value).toArray } = H2 at hns₁ hsb₁ ⊢
  have hC : H2.objs.size = s₂.heap.objs.size + 1 := by rw [← hH2, Heap.size_push]
  generalize hD : s₂.heap.objs.size = D at hC
  generalize hCC : H2.objs.size = C at hC hns₁ hsb₁
  have hDC : D ≠ C := by rw [hC]; exact Nat.ne_of_lt (Nat.lt_succ_self _)
  have hDf : D ∉ fp := fun hm => Nat.lt_irrefl _ (by have := c.fp _ hm; rw [hD] at this; exact this)
  have hCf : C ∉ fp := fun hm => by have := c.fp _ hm; rw [hD] at this; rw [hC] at this; exact Nat.lt_irrefl _ (Nat.lt_of_succ_lt this)
  have oldlt : ∀ {b : Addr} {o : Obj}, s₂.heap.get? b = some o → b ≠ C ∧ b ≠ D := fun {b o} e => by
    have := Heap.lt_size e
    rw [hD] at this
    exact ⟨by rw [hC]; exact Nat.ne_of_lt (Nat.lt_succ_of_lt this), Nat.ne_of_lt this⟩
  have old : ∀ b o, s₂.heap.get? b = some o → h₁.get? b = some o := fun b o e => hsb₁.extBut b o (oldlt e).1 (Heap.get?_push_of_some _ (hH2 ▸ Heap.get?_push_of_some _ e))
  have hacc : h₁.PlainList D #[] := ⟨_, hsb₁.extBut _ _ hDC (Heap.get?_push_of_some _ (hH2 ▸ hD ▸ Heap.get?_push_size _ rfl))⟩
  have hst₁ : St 0 h₁ := W.frame _ _ _ c.st fun b _ o e => old b o e
  have hIf : I ∈ fp := W.sub _ (.head _)
  have hCI : C ≠ I := fun e => hCf (e ▸ hIf)
  have hDI : D ≠ I := fun e => hDf (e ▸ hIf)
  have one : ∀ {b : Addr}, b ≠ I → b ∉ [I] := fun h hm => h (List.mem_singleton.mp hm)
  -- what stood ahead of it stands
  have up : ∀ {h' : Heap}, (∀ b o, b ≠ I → s₂.heap.get? b = some o → h'.get? b = some o) → Fr h₀ L h' m ∧ News h₀ L h' news := fun {h'} hk => by
    refine ⟨⟨c.F.ns.at' fun o e => hk _ o c.ne e, fun b o e => hk b o (fun q => ?_) (c.F.keep b o e), c.F.above⟩, fun q hq => ⟨hk _ _ (c.off q hq) (c.N q hq).1, (c.N q hq).2⟩⟩
    rw [q, c.new] at e; cases e
  have cenvL : (compEnvC scope cl C env).locals = C := rfl
  have kx : (compEnvC scope cl C env).kindOf x = some .local := lookup_relabel_local hx
  have ky : (compEnvC scope cl C env).kindOf y = some .local := lookup_relabel_local hy
  have kp : ((compEnvC scope cl C env).scope.kind == .class || ((compEnvC scope cl C env).scope.kind == .module && (compEnvC scope cl C env).locals != (compEnvC scope cl C env).globals)) = false := by simp [compEnvC, relabel, hkind]
  have loop : ∀ s₃ : Shared, s₃ = { s₂ with heap := h₁, toks := s₂.toks + ([] : List (Str × Value)).length } →
      codeAny (model prog w) A (.compLoop (.ListComp elt [⟨.Name x px, i1, [], 0⟩, ⟨.Name y py, i2, [], 0⟩] scope pos) 0 (.ref I) (.ref D) (compEnvC scope cl C env))
        (compPost (model prog w) A E none Q (.ref D) C) s₃ := by
    rintro s₃ rfl
    refine two_loop0
      (TwoInv Gin C D I n P St s₂) ?_ (n + 1)
      ⟨h₁, _, _, [], [], rfl, hst₁, hacc, hns₁, by simp, .nil, Nat.zero_le _, rfl, fun b o _ e => old b o e⟩ (hs := fun z => hs2 C z)
    intro k s' X92
    refine park fun P9 k9 => ?_
    obtain ⟨H, tk, m', yss, vs, rfl, hst', hacc', hn', hP, hF, hi, rfl, hk⟩ := X92
    refine k9 ?_
    clear k9 P9
    by_cases hlt : vs.length < n
    · refine W.item vs.length _ _ _ hlt hst' fun v h₂ tk₂ hPv hst₂ hk₂ => ?_
      refine wpAny_assign_Name (wpAny_storeName_local kx (hn'.at' fun o e => hk₂ _ o (one hCI) e) (fun h₃ hn₃ hs₃ => ?_) kp)
      replace hs₃ : Heap.SameBut C h₂ h₃ := hs₃
      replace hn₃ : h₃.Ns C _ := hn₃
      have k₃ : ∀ b o, b ≠ I → s₂.heap.get? b = some o → h₃.get? b = some o := fun b o hb e => hs₃.extBut b o (oldlt e).1 (hk₂ b o (one hb) (hk b o hb e))
      have hst₃ : St (vs.length + 1) h₃ := W.frame _ _ _ hst₂ fun b hb o e => hs₃.extBut b o (fun h => hCf (h ▸ hb)) e
      have hacc₃ : h₃.PlainList D yss.flatten.toArray := hacc'.at fun o e => hs₃.extBut _ o hDC (hk₂ _ o (one hDI) e)
      refine park fun P9 k9 => ?_
      obtain ⟨F₃, N₃⟩ := up k₃
      refine k9 ?_
      clear k9 P9
      refine wpAny_mono (c.inner C vs.length v _ _ _ hPv F₃ N₃ hn₃ (by simp)) (fun xv s₄ h₄ => wpAny_mono h₄ (fun it2 s₅ h₅ => ?_) fun _ _ e => e) fun _ _ e => e
      refine park fun P9 k9 => ?_
      obtain ⟨I2, fp2, n2, P2, St2, t⟩ := h₅
      refine k9 ?_
      clear k9 P9
      obtain rfl := t.is
      refine park fun P9 k9 => ?_
      obtain ⟨h₅, tk₅, rfl, k₅⟩ := t.kp
      refine k9 ?_
      clear k9 P9
      have hI2D : I2 ≠ D := fun e => by have := t.new; obtain ⟨_, q⟩ := hacc₃; rw [e, q] at this; cases this
      have hI2C : I2 ≠ C := fun e => by have := t.new; obtain ⟨_, _, _, q, _⟩ := hn₃; rw [e, q] at this; cases this
      have hfD : D ∉ fp2 := fun hm => (t.fp _ hm).elim (fun e => hI2D e.symm) fun ⟨o, e⟩ => (oldlt e).2 rfl
      have hfC : C ∉ fp2 := fun hm => (t.fp _ hm).elim (fun e => hI2C e.symm) fun ⟨o, e⟩ => (oldlt e).1 rfl
      have hn₅ := hn₃.keeps k₅
      have hacc₅ : h₅.PlainList D yss.flatten.toArray := hacc₃.at fun o e => k₅ _ o e
      have inner : codeAny (model prog w) A (.compLoop (.ListComp elt [⟨.Name x px, i1, [], 0⟩, ⟨.Name y py, i2, [], 0⟩] scope pos) 1 (.ref I2) (.ref D) (compEnvC scope cl C env))
          (fun r s' => match r with | .ok _ => ∃ k, k < n + 1 - vs.length ∧ TwoInv Gin C D I n P St s₂ k s' | .error _ => False) { s₂ with heap := h₅, toks := tk₅ } := by
        have keep2 : ∀ {h' : Heap}, (∀ b o, b ≠ C → b ≠ I2 → b ≠ D → h₅.get? b = some o → h'.get? b = some o) → ∀ b o, b ≠ I → s₂.heap.get? b = some o → h'.get? b = some o := fun {h'} hk' b o hb e =>
          hk' b o (oldlt e).1 (fun q => by have := t.new; rw [← q, k₃ b o hb e] at this; cases this) (oldlt e).2 (k₅ b o (k₃ b o hb e))
        refine two_inner (D := D) t.wk (FF v) ky kp hDC hfD hfC t.st hacc₅ hn₅ (fun j u s₆ m₆ E' hPu hn₆ hm₆ hz₆ hk₆ => ?_) (fun h' tk' m₆ ys us hn₆ hz₆ hl₆ hul hPu hFu hk₆ => ?_) ?_
        · refine park fun P9 k9 => ?_
          obtain ⟨F₆, N₆⟩ := up (keep2 hk₆)
          refine k9 ?_
          clear k9 P9
          exact t.elt j u s₆ m₆ E' hPu F₆ N₆ hn₆ (by rw [hz₆ _ hxy]; simp) hm₆
        · refine ⟨n + 1 - (vs.length + 1), by omega, h', tk', m₆, yss ++ [ys], vs ++ [v], rfl, ?_, ?_, hn₆, paired_at (β := Nat) (n := 0) hP hPv, hF.snoc ⟨t.col us ys hul hPu hFu, by have := hFu.length; have := t.sz; omega⟩, by rw [List.length_append, List.length_singleton]; exact hlt, by rw [List.length_append, List.length_singleton], keep2 hk₆⟩
          · have : St (vs.length + 1) h' := W.frame _ _ _ hst₃ fun b hb o e => hk₆ b o (fun q : b = C => hCf (q ▸ hb)) (fun q => by have := t.new; rw [← q, e] at this; cases this) (fun q => hDf (q ▸ hb)) (k₅ b o e)
            simpa using this
          · have e : (yss ++ [ys]).flatten.toArray = yss.flatten.toArray ++ ys.toArray := by simp
            rw [e]; exact hl₆
        · have := flat_le hF
          have := t.sz
          have := c.sz
          rw [List.size_toArray, sizeLine_eq]
          omega
      exact two_start inner (t.wk.self 0 _ _ _ t.st inner)
    · have hin : vs.length = n := by omega
      refine W.done _ _ _ (hin ▸ hst') fun h₂ tk₂ hk₂ => ?_
      refine ⟨m', hn'.at' fun o e => hk₂ _ o (one hCI) e, fun h'' hs'' => ?_⟩
      have k₂ : ∀ b o, b ≠ I → s₂.heap.get? b = some o → h''.get? b = some o := fun b o hb e => hs''.extBut b o (oldlt e).1 (hk₂ b o (one hb) (hk b o hb e))
      refine park fun P9 k9 => ?_
      obtain ⟨F₂, N₂⟩ := up k₂
      have hl : h''.PlainList D yss.flatten.toArray := (hacc'.at fun o e => hk₂ _ o (one hDI) e).extBut hs''.extBut hDC
      obtain ⟨k, hk'⟩ := hl
      obtain ⟨oL, _, _, hL, _⟩ := c.F.ns
      refine k9 ?_
      clear k9 P9
      refine c.done D h'' tk₂ k vs yss hin hP (paired_left (fun _ _ q => q.1) hF) F₂ (fun q hq => ?_) fun q hq => (oldlt (c.N q hq).1).2
      rcases List.mem_cons.mp hq with rfl | hq
      · refine ⟨hk', (oldlt hL).2.symm, ?_⟩
        cases e : h₀.get? D with
        | none => rfl
        | some o => exact absurd rfl (oldlt (c.F.keep _ _ e)).2
      · exact N₂ q hq
  exact codeAny_compStart_list (loop _ rfl) (W.self 0 _ _ _ hst₁ (loop _ rfl))
section
variable {s : Shared} {m : Str → Option Value} {news : List (Addr × Obj)} {t : Addr} {vs : List Value} {k : Nat} {x y : Str} {i2 elt : Expr} {scope : Scope} {cl : List (Str × Addr)} {Q : Value → Shared → Prop} {FF : Value → Value → Value → Prop} {Gin : Value → List Value → Prop}
theorem twoList (F : Fr h₀ L s.heap m) (N : News h₀ L s.heap news) (ht : (t, W.listOf vs.toArray k) ∈ news) (hsz : vs.length ≤ 100) (hh : A.handled = none)
    (inner : ∀ s₂, (∀ q ∈ news, ∃ o, s₂.heap.get? q.1 = some o) → ∀ C (i : Nat) (v : Value) s₃ m₃ E', vs[i]? = some v → Fr h₀ L s₃.heap m → News h₀ L s₃.heap news → s₃.heap.Ns C m₃ → m₃ x = some v →
      wpAny (model prog w) A (eval i2 (compEnvC scope cl C env)) (fun xv s₄ => wpAny (model prog w) A (pyIter xv) (fun it2 s₅ => ∃ I2 fp2 n2 P2 St2, Two2 prog w A (compEnvC scope cl C env) C x y elt FF Gin h₀ L m news s₂ v it2 s₅ s₃ I2 fp2 n2 P2 St2) E' s₄) E' s₃)
    (done : ∀ D h' tk k (yss : List (List Value)), Paired Gin vs yss → Fr h₀ L h' m → News h₀ L h' ((D, W.listOf yss.flatten.toArray k) :: news) → (∀ q ∈ news, q.1 ≠ D) → Q (.ref D) { s with heap := h', toks := tk }) :
    wpAny (model prog w) A (pyIter (.ref t)) (fun it s₂ => ∃ I fp n P St m news, it = .ref I ∧ TwoAt prog w A env scope cl x y i2 elt FF Gin h₀ L Q I fp n P St m news s₂) E s := by
  have ho : s.heap.get? t = some (W.listOf vs.toArray k) := (N _ ht).1
  have hls : s.heap.IsList t vs.toArray := ⟨_, ho, rfl, _, rfl⟩
  have hne : t ≠ s.heap.objs.size := Nat.ne_of_lt (Heap.lt_size ho)
  have hI : ∀ q ∈ news, q.1 ≠ s.heap.objs.size := fun q hq => Nat.ne_of_lt (Heap.lt_size (N q hq).1)
  refine wpAny_pyIter_list hls ⟨_, _, _, _, _, m, news, rfl, Walks.list hh _ t hne _, by simpa using hsz, ⟨⟨_, Heap.get?_push_size _ rfl, rfl, rfl⟩, hls.at fun o e => Heap.get?_push_of_some _ e⟩, ?_, F.push _, fun q hq => ⟨Heap.get?_push_of_some _ (N q hq).1, (N q hq).2⟩, hI, next_is_new F, ne_size F, ?_, ?_⟩
  · intro b hb
    rw [Heap.size_push]
    rcases List.mem_cons.mp hb with rfl | hb
    · exact Nat.lt_succ_self _
    · rw [List.mem_singleton.mp hb]
      exact Nat.lt_succ_of_lt (Heap.lt_size ho)
  · intro C i v s₃ m₃ E' hv F₃ N₃ hn hm
    exact inner _ (fun q hq => ⟨_, Heap.get?_push_of_some _ (N q hq).1⟩) C i v s₃ m₃ E' (by simpa using hv) F₃ N₃ hn hm
  · intro D h' tk k' ws yss hlen hP hF F' N' hn
    have e : ws = vs := by
      refine List.ext_getElem (by simpa using hlen) fun j h1 h2 => ?_
      have := hP j ws[j] (List.getElem?_eq_getElem h1)
      have h3 : vs[j]? = some vs[j] := List.getElem?_eq_getElem h2
      have h4 : vs[j]? = some ws[j] := by simpa using this
      rw [h3] at h4
      exact (Option.some.inj h4).symm
    rw [e] at hF
    exact done D h' tk k' yss hF F' N' hn
theorem two2_str {cenv : Env} {C : Addr} {s₂ s₃ s₄ : Shared} {v : Value} {z : Str} {zt : Tok} {E' : Value → Shared → Prop} (kp : Keeps s₃ s₄) (hh : A.handled = none) (hz : z.length ≤ 100)
    (helt : ∀ (u : Value) s₆ m₆ E', (∃ c t, c ∈ z.cps.toList ∧ u = .str ⟨#[c]⟩ t) → Fr h₀ L s₆.heap m → News h₀ L s₆.heap news → s₆.heap.Ns C m₆ → m₆ x = some v → m₆ y = some u → wpAny (model prog w) A (eval elt cenv) (fun r s₇ => FF v u r ∧ Keeps s₆ s₇) E' s₆)
    (col : ∀ us yl, us.length = z.length → (∀ (j : Nat) (u : Value), us[j]? = some u → ∃ c t, z.cps[j]? = some c ∧ u = .str ⟨#[c]⟩ t) → Paired (FF v) us yl → Gin v yl) :
    wpAny (model prog w) A (pyIter (.str z zt)) (fun it2 s₅ => ∃ I2 fp2 n2 P2 St2, Two2 prog w A cenv C x y elt FF Gin h₀ L m news s₂ v it2 s₅ s₃ I2 fp2 n2 P2 St2) E' s₄ := by
  refine wpAny_pyIter_str fun o St W st => ?_
  refine park fun P9 k9 => ?_
  obtain ⟨h₄, tk₄, rfl, k₄⟩ := kp
  refine k9 ?_
  clear k9 P9
  refine ⟨_, _, _, _, _, rfl, W A hh, hz, st, ⟨_, _, rfl, fun b o e => Heap.get?_push_of_some _ (k₄ b o e)⟩, ?_, fun b hb => .inl (List.mem_singleton.mp hb), fun j u s₆ m₆ E' hu F₆ N₆ n₆ h1 h2 => ?_, fun us yl hl hu hF => col us yl hl hu hF⟩
  · cases e : s₃.heap.get? h₄.objs.size with
    | none => rfl
    | some o => exact absurd (Heap.lt_size (k₄ _ _ e)) (Nat.lt_irrefl _)
  · refine park fun P9 k9 => ?_
    obtain ⟨c, t, hc, e⟩ := hu
    refine k9 ?_
    clear k9 P9
    exact helt u s₆ m₆ E' ⟨c, t, by rw [← Array.getElem?_toList] at hc; exact List.mem_of_getElem? hc, e⟩ F₆ N₆ n₆ h1 h2
theorem two2_list {cenv : Env} {C : Addr} {s₂ s₃ s₄ : Shared} {v : Value} {us : List Value} {n : Nat} {E' : Value → Shared → Prop} (kp : Keeps s₃ s₄) (hh : A.handled = none) (N₃ : News h₀ L s₃.heap news) (hs₂ : ∀ q ∈ news, ∃ o, s₂.heap.get? q.1 = some o) (ht : (t, W.listOf us.toArray n) ∈ news) (hz : us.length ≤ 100)
    (helt : ∀ (j : Nat) (u : Value) s₆ m₆ E', us[j]? = some u → Fr h₀ L s₆.heap m → News h₀ L s₆.heap news → s₆.heap.Ns C m₆ → m₆ x = some v → m₆ y = some u → wpAny (model prog w) A (eval elt cenv) (fun r s₇ => FF v u r ∧ Keeps s₆ s₇) E' s₆)
    (col : ∀ yl, Paired (FF v) us yl → Gin v yl) :
    wpAny (model prog w) A (pyIter (.ref t)) (fun it2 s₅ => ∃ I2 fp2 n2 P2 St2, Two2 prog w A cenv C x y elt FF Gin h₀ L m news s₂ v it2 s₅ s₃ I2 fp2 n2 P2 St2) E' s₄ := by
  refine park fun P9 k9 => ?_
  obtain ⟨h₄, tk₄, rfl, k₄⟩ := kp
  refine k9 ?_
  clear k9 P9
  have ho : h₄.get? t = some (W.listOf us.toArray n) := k₄ _ _ (N₃ _ ht).1
  have hls : h₄.IsList t us.toArray := ⟨_, ho, rfl, _, rfl⟩
  have hne : t ≠ h₄.objs.size := Nat.ne_of_lt (Heap.lt_size ho)
  refine wpAny_pyIter_list hls ⟨_, _, _, _, _, rfl, Walks.list hh _ t hne _, by simpa using hz, ⟨⟨_, Heap.get?_push_size _ rfl, rfl, rfl⟩, hls.at fun o e => Heap.get?_push_of_some _ e⟩, ⟨_, _, rfl, fun b o e => Heap.get?_push_of_some _ (k₄ b o e)⟩, ?_, ?_, fun j u s₆ m₆ E' hu F₆ N₆ n₆ h1 h2 => ?_, fun ws yl hl hu hF => ?_⟩
  · cases e : s₃.heap.get? h₄.objs.size with
    | none => rfl
    | some o => exact absurd (Heap.lt_size (k₄ _ _ e)) (Nat.lt_irrefl _)
  · intro b hb
    rcases List.mem_cons.mp hb with rfl | hb
    · exact .inl rfl
    · rw [List.mem_singleton.mp hb]
      exact .inr (hs₂ _ ht)
  · exact helt j u s₆ m₆ E' (by simpa using hu) F₆ N₆ n₆ h1 h2
  · have e : ws = us := by
      refine List.ext_getElem (by simpa using hl) fun j h1 h2 => ?_
      have := hu j ws[j] (List.getElem?_eq_getElem h1)
      have h3 : us[j]? = some us[j] := List.getElem?_eq_getElem h2
      have h4 : us[j]? = some ws[j] := by simpa using this
      rw [h3] at h4
      exact (Option.some.inj h4).symm
    rw [e] at hF
    exact col yl hF
end
end
end
section
section
variable {prog : Program} {w : World} {A : Around} {E : Value → Shared → Prop} {s : Shared} {env : Env} {h₀ : Heap} {L : Addr} {x y : Str} {px py pt : Pos} {x1 : Nat} {body : List Stmt} {Q : Flow → Shared → Prop}
/-- a pair of the ledger -/
noncomputable def PairIn (l : List (Addr × Obj)) (v v0 v1 : Value) : Prop := ∃ a n, v = .ref a ∧ (a, tupOf #[v0, v1] n) ∈ l
/-- a for loop over a list of pairs of the ledger; the names lie wherever they lie -/
theorem pairC {t : Addr} {vs : List Value} {ep : Nat} {m₀ : Str → Option Value} {news : List (Addr × Obj)}
    (J : Nat → (Str → Option Value) → List (Addr × Obj) → Prop) (hh : A.handled = none) (hE : PassesOwn (model prog w) A env E)
    (ht : ∀ i m l, J i m l → (t, W.listOf vs.toArray ep) ∈ l) (htup : ∀ i m l, J i m l → ∀ (j : Nat) (v : Value), vs[j]? = some v → ∃ v0 v1, PairIn l v v0 v1)
    (F : Fr h₀ L s.heap m₀) (N : News h₀ L s.heap news) (hj : J 0 m₀ news)
    (turn : ∀ I i v v0 v1 m₁ news₁ h tk oI, vs[i]? = some v → PairIn news₁ v v0 v1 → J i m₁ news₁ → (∀ p ∈ news₁, p.1 ≠ I) → Fr h₀ L h m₁ → News h₀ L h ((I, oI) :: news₁) →
      wpAny (model prog w) A (storeName env x v0) (fun _ s₂ => wpAny (model prog w) A (storeName env y v1) (fun _ s₃ => wpAny (model prog w) A (execs body env) (PostG h₀ L (J (i + 1)) I oI { s with heap := h, toks := tk } Q) E s₃) E s₂) E { s with heap := h, toks := tk })
    (done : ∀ m₁ news₁ h tk, J vs.length m₁ news₁ → Fr h₀ L h m₁ → News h₀ L h news₁ → Q .next { s with heap := h, toks := tk }) :
    wpAny (model prog w) A (pyIter (.ref t)) (fun it s₂ => codeAny (model prog w) A (.forLoop (.Tuple [.Name x px, .Name y py] x1 pt) it body [] env) (fun r s' => match r with | .ok f => Q f s' | .error e => cameBackBy (model prog w) A env E e s') s₂) E s := by
  have ho : s.heap.get? t = some (W.listOf vs.toArray ep) := (N _ (ht _ _ _ hj)).1
  have hls : s.heap.IsList t vs.toArray := ⟨_, ho, rfl, _, rfl⟩
  have hne : t ≠ s.heap.objs.size := Nat.ne_of_lt (Heap.lt_size ho)
  refine wpAny_pyIter_list hls ?_
  have W := Walks.list (prog := prog) (w := w) hh s.heap.objs.size t hne vs.toArray
  rw [show vs.toArray.size = vs.length by simp] at W
  generalize hI : s.heap.objs.size = I at W hne
  have hI0 : ∀ q ∈ news, q.1 ≠ I := fun q hq => hI ▸ Nat.ne_of_lt (Heap.lt_size (N q hq).1)
  have hIh : h₀.get? I = none := hI ▸ next_is_new F
  have hLI : L ≠ I := hI ▸ ne_size F
  have nI : ∀ {b : Addr}, b ≠ I → b ∉ [I] := fun h hm => h (List.mem_singleton.mp hm)
  have fro : ∀ {h h' : Heap} {m₁ : Str → Option Value} {l : List (Addr × Obj)}, (∀ b o, b ∉ [I] → h.get? b = some o → h'.get? b = some o) → Fr h₀ L h m₁ → News h₀ L h l → (∀ q ∈ l, q.1 ≠ I) → Fr h₀ L h' m₁ ∧ News h₀ L h' l := fun hk F N ho => by
    refine ⟨⟨F.ns.at' fun o e => hk _ o (nI hLI) e, fun b o e => hk b o (nI fun q => ?_) (F.keep b o e), F.above⟩, fun q hq => ⟨hk _ _ (nI (ho q hq)) (N q hq).1, (N q hq).2⟩⟩
    rw [q, hIh] at e; cases e
  refine park fun P9 k9 => ?_
  obtain ⟨oI, hoI⟩ : ∃ o, (s.heap.push { cls := .type "list_iterator", data := .fields #[.ref t, .int 0 0] } : Heap).get? I = some o := ⟨_, hI ▸ Heap.get?_push_size _ rfl⟩
  refine k9 ?_
  clear k9 P9
  refine codeAny_forLoop_any (fun k s' => ∃ i, k + i = vs.length ∧ ∃ h tk m₁ l oI, s' = { s with heap := h, toks := tk } ∧ Fr h₀ L h m₁ ∧ News h₀ L h ((I, oI) :: l) ∧ (∀ p ∈ l, p.1 ≠ I) ∧ J i m₁ l ∧ h.IsListIter I t i) (fun k s' hI' => ?_) vs.length
    ⟨0, rfl, _, _, m₀, news, oI, rfl, F.push _, fun q hq => ?_, hI0, hj, ?_⟩
  · refine park fun P9 k9 => ?_
    obtain ⟨i, hk, h, tk, m₁, l, oI, rfl, F₁, N₁, ho₁, hJ, hit⟩ := hI'
    refine k9 ?_
    clear k9 P9
    have hst : h.IsListIter I t i ∧ h.IsList t vs.toArray := ⟨hit, ⟨_, (N₁ _ (.tail _ (ht _ _ _ hJ))).1, rfl, _, rfl⟩⟩
    cases k with
    | zero =>
      obtain rfl : i = vs.length := by omega
      refine W.done _ _ _ hst fun h' tk' hk' => ?_
      refine park fun P9 k9 => ?_
      obtain ⟨F₂, N₂⟩ := fro hk' F₁ (fun q hq => N₁ q (.tail _ hq)) ho₁
      refine k9 ?_
      clear k9 P9
      exact wpAny_pure (done m₁ l h' tk' hJ F₂ N₂)
    | succ k =>
      refine W.item i _ _ _ (by omega) hst fun v h' tk' hv hS hk' => ?_
      have hv' : vs[i]? = some v := by simpa using hv
      refine park fun P9 k9 => ?_
      obtain ⟨F₂, N₂⟩ := fro hk' F₁ (fun q hq => N₁ q (.tail _ hq)) ho₁
      obtain ⟨v0, v1, a, n, rfl, hm⟩ := htup i m₁ l hJ i v hv'
      refine k9 ?_
      clear k9 P9
      refine wpAny_letOwnedTupleGo_listiter hS.1 ?_
      refine wpAny_assign_Tuple hh (items := #[v0, v1]) ⟨_, (N₂ _ hm).1, rfl, _, rfl⟩ rfl rfl fun h₃ hx₃ => ?_
      replace hx₃ : Heap.ExtBut h'.objs.size h' h₃ := hx₃
      have up₃ : ∀ b o, h'.get? b = some o → h₃.get? b = some o := fun b o e => hx₃ b o (Nat.ne_of_lt (Heap.lt_size e)) e
      have F₃ : Fr h₀ L h₃ m₁ := ⟨F₂.ns.keeps up₃, fun b o e => up₃ b o (F₂.keep b o e), F₂.above⟩
      have N₃ : News h₀ L h₃ l := fun q hq => ⟨up₃ _ _ (N₂ q hq).1, (N₂ q hq).2⟩
      refine park fun P9 k9 => ?_
      obtain ⟨oI', hoI', hst'⟩ := id hS.1
      refine k9 ?_
      clear k9 P9
      have hIt : h₃.get? I = some oI' := up₃ _ _ hoI'
      show wpAny _ A (do holding [v1] (assign (.Name x px) env v0); do holding [] (assign (.Name y py) env v1); pure ()) _ _ _
      refine wpAny_bind (wpAny_holding (wpAny_assign_Name ?_))
      refine wpAny_mono (turn I i (.ref a) v0 v1 m₁ l h₃ _ oI' hv' ⟨a, n, rfl, hm⟩ hJ ho₁ F₃ (fun q hq => ?_)) (fun _ s₂ h₂ => ?_) hE
      · rcases List.mem_cons.mp hq with rfl | hq
        · exact ⟨hIt, hLI.symm, hIh⟩
        · exact N₃ q hq
      · refine wpAny_bind (wpAny_holding (wpAny_assign_Name (wpAny_mono h₂ (fun _ s₃ h₃' => wpAny_pure ?_) hE)))
        refine wpAny_mono h₃' (fun f s₄ h₄ => ?_) hE
        have fin : EndG h₀ L (J (i + 1)) I oI' { s with heap := h₃, toks := tk' } s₄ → ∃ m, m < k + 1 ∧ ∃ i, m + i = vs.length ∧ ∃ h tk m₁ l oI, s₄ = { s with heap := h, toks := tk } ∧ Fr h₀ L h m₁ ∧ News h₀ L h ((I, oI) :: l) ∧ (∀ p ∈ l, p.1 ≠ I) ∧ J i m₁ l ∧ h.IsListIter I t i := by
          intro X90
          refine park fun P9 k9 => ?_
          obtain ⟨h₅, tk₅, m₅, l₅, rfl, F₅, N₅, ho₅, hJ₅⟩ := X90
          refine k9 ?_
          clear k9 P9
          exact ⟨k, Nat.lt_succ_self _, i + 1, by omega, h₅, tk₅, m₅, l₅, oI', rfl, F₅, N₅, ho₅, hJ₅, ⟨oI', (N₅ _ (.head _)).1, hst'⟩⟩
        cases f with
        | ret v => exact h₄
        | brk => exact h₄
        | next => exact fin h₄
        | cont => exact fin h₄
  · rcases List.mem_cons.mp hq with rfl | hq
    · exact ⟨hoI, hLI.symm, hIh⟩
    · exact ⟨Heap.get?_push_of_some _ (N q hq).1, (N q hq).2⟩
  · rw [← hI]
    exact ⟨_, Heap.get?_push_size _ rfl, rfl, rfl⟩
end
end
section
/-! ### borders -/
/-- the first k of the first j signs are their last k -/
abbrev isB (l : List Nat) (j k : Nat) : Prop := k < j ∧ ∀ m, m < k → l[m]? = l[j - k + m]?
noncomputable def bdTo (l : List Nat) (j : Nat) : Nat → Nat
  | 0 => 0
  | b + 1 => if isB l j (b + 1) then b + 1 else bdTo l j b
/-- the longest -/
noncomputable def bd (l : List Nat) (j : Nat) : Nat := bdTo l j (j - 1)
theorem isB_zero {l : List Nat} {j : Nat} (h : 0 < j) : isB l j 0 := ⟨h, fun _ h => absurd h (Nat.not_lt_zero _)⟩
theorem bdTo_is {l : List Nat} {j : Nat} (h : 0 < j) : ∀ b, isB l j (bdTo l j b)
  | 0 => isB_zero h
  | b + 1 => by
    unfold bdTo
    split
    · assumption
    · exact bdTo_is h b
theorem bdTo_max {l : List Nat} {j k : Nat} (h : isB l j k) : ∀ b, k ≤ b → k ≤ bdTo l j b
  | 0, hb => hb
  | b + 1, hb => by
    unfold bdTo
    split
    · exact hb
    · rename_i hn
      rcases Nat.lt_or_eq_of_le hb with hb | rfl
      · exact bdTo_max h b (Nat.le_of_lt_succ hb)
      · exact absurd h hn
theorem bd_is {l : List Nat} {j : Nat} (h : 0 < j) : isB l j (bd l j) := bdTo_is h _
theorem bd_max {l : List Nat} {j k : Nat} (h : isB l j k) : k ≤ bd l j := bdTo_max h _ (Nat.le_sub_one_of_lt h.1)
theorem bd_lt {l : List Nat} {j : Nat} (h : 0 < j) : bd l j < j := (bd_is h).1
theorem bd_eq {l : List Nat} {j k : Nat} (h : isB l j k) (hm : ∀ k', isB l j k' → k' ≤ k) : bd l j = k :=
  Nat.le_antisymm (hm _ (bd_is (Nat.zero_lt_of_lt h.1))) (bd_max h)
theorem isB.trans {l : List Nat} {i j k : Nat} (h : isB l i j) (h' : isB l j k) : isB l i k := by
  refine ⟨Nat.lt_trans h'.1 h.1, fun m hm => ?_⟩
  have a := h'.1
  have b := h.1
  rw [h'.2 m hm, h.2 (j - k + m) (by lia)]
  congr 1; lia
theorem isB.down {l : List Nat} {i j k : Nat} (h : isB l i j) (h' : isB l i k) (hk : k < j) : isB l j k := by
  refine ⟨hk, fun m hm => ?_⟩
  have b := h.1
  rw [h'.2 m hm, h.2 (j - k + m) (by lia)]
  congr 1; lia
theorem isB.snoc {l : List Nat} {i k : Nat} (h : isB l i k) (e : l[k]? = l[i]?) : isB l (i + 1) (k + 1) := by
  refine ⟨Nat.succ_lt_succ h.1, fun m hm => ?_⟩
  have b := h.1
  rcases Nat.lt_succ_iff_lt_or_eq.mp hm with hm | rfl
  · rw [h.2 m hm]; congr 1; lia
  · rw [e]; congr 1; lia
theorem isB.pre {l : List Nat} {i k : Nat} (h : isB l (i + 1) (k + 1)) (hi : 0 < i) : isB l i k ∧ l[k]? = l[i]? := by
  have b := h.1
  refine ⟨⟨by lia, fun m hm => ?_⟩, ?_⟩
  · rw [h.2 m (by lia)]; congr 1; lia
  · rw [h.2 k (by lia)]; congr 1; lia
/-- the loop: j is a border of the first i, and no longer one goes on -/
noncomputable def Kmp (l : List Nat) (i j : Nat) : Prop := isB l i j ∧ ∀ k, isB l i k → j < k → l[k]? ≠ l[i]?
theorem Kmp.init {l : List Nat} {i : Nat} (h : 0 < i) : Kmp l i (bd l i) := ⟨bd_is h, fun k hk hl => absurd (bd_max hk) (by lia)⟩
theorem Kmp.next {l : List Nat} {i j : Nat} (h : Kmp l i j) (hj : 0 < j) (hne : l[j]? ≠ l[i]?) : Kmp l i (bd l j) := by
  refine ⟨h.1.trans (bd_is hj), fun k hk hl => ?_⟩
  rcases Nat.lt_trichotomy k j with hkj | rfl | hkj
  · exact absurd (bd_max (h.1.down hk hkj)) (by lia)
  · exact hne
  · exact h.2 k hk hkj
theorem Kmp.hit {l : List Nat} {i j : Nat} (h : Kmp l i j) (hi : 0 < i) (e : l[j]? = l[i]?) : bd l (i + 1) = j + 1 := by
  refine bd_eq (h.1.snoc e) fun k' hk' => ?_
  cases k' with
  | zero => lia
  | succ k =>
    refine park fun P9 k9 => ?_
    obtain ⟨a, b⟩ := hk'.pre hi
    refine k9 ?_
    clear k9 P9
    rcases Nat.lt_or_ge j k with hl | hl
    · exact absurd b (h.2 k a hl)
    · lia
theorem Kmp.miss {l : List Nat} {i : Nat} (h : Kmp l i 0) (hi : 0 < i) (hne : l[0]? ≠ l[i]?) : bd l (i + 1) = 0 := by
  refine bd_eq (isB_zero (by lia)) fun k' hk' => ?_
  cases k' with
  | zero => lia
  | succ k =>
    refine park fun P9 k9 => ?_
    obtain ⟨a, b⟩ := hk'.pre hi
    refine k9 ?_
    clear k9 P9
    cases k with
    | zero => exact absurd b hne
    | succ k => exact absurd b (h.2 _ a (by lia))
theorem bd_one (l : List Nat) : bd l 1 = 0 := by
  have := bd_lt (l := l) (j := 1) (by lia)
  lia
/-- the table of a text -/
noncomputable def tabTo (l : List Nat) (i : Nat) : List Int := (List.range l.length).map fun k => if k < i then (bd l (k + 1) : Int) else 0
noncomputable def tabOf (l : List Nat) : List Int := (List.range l.length).map fun k => (bd l (k + 1) : Int)
theorem tabTo_one (l : List Nat) : tabTo l 1 = List.replicate l.length 0 := by
  refine List.eq_replicate_iff.mpr ⟨by simp [tabTo], fun b hb => ?_⟩
  refine park fun P9 k9 => ?_
  obtain ⟨k, hk, rfl⟩ := List.mem_map.mp hb
  refine k9 ?_
  clear k9 P9
  split
  · have : k = 0 := by lia
    subst this
    rw [bd_one]; rfl
  · rfl
theorem tabTo_all (l : List Nat) {i : Nat} (h : l.length ≤ i) : tabTo l i = tabOf l := by
  refine List.map_congr_left fun k hk => ?_
  rw [if_pos (by have := List.mem_range.mp hk; lia)]
theorem tabTo_at {l : List Nat} {i k : Nat} (hk : k < i) (hl : k < l.length) : (tabTo l i)[k]? = some (bd l (k + 1) : Int) := by
  unfold tabTo
  rw [List.getElem?_map, List.getElem?_range hl]
  simp [hk]
theorem tabTo_set {l : List Nat} {i : Nat} (hl : i < l.length) : (tabTo l i).set i (bd l (i + 1) : Int) = tabTo l (i + 1) := by
  refine List.ext_getElem? fun k => ?_
  unfold tabTo
  rw [List.getElem?_set]
  simp only [List.length_map, List.length_range, List.getElem?_map]
  by_cases hk : i = k
  · subst hk
    rw [if_pos rfl, if_pos hl, List.getElem?_range hl]; simp
  · rw [if_neg hk]
    by_cases h2 : k < l.length
    · rw [List.getElem?_range h2]
      simp only [Option.map_some]
      congr 1
      by_cases h3 : k < i
      · rw [if_pos h3, if_pos (by lia)]
      · rw [if_neg h3, if_neg (by lia)]
    · rw [List.getElem?_eq_none (by simp; lia)]; rfl
theorem tabTo_length (l : List Nat) (i : Nat) : (tabTo l i).length = l.length := by simp [tabTo]
theorem upd_hd {D : Addr} {o o' : Obj} {l : List (Addr × Obj)} (h : Sep ((D, o) :: l)) : upd ((D, o) :: l) D o' = (D, o') :: l := by
  rw [upd_cons, if_pos rfl, upd_none (Sep.head h)]
theorem Sep.hd {D : Addr} {o : Obj} (o' : Obj) {l : List (Addr × Obj)} (h : Sep ((D, o) :: l)) : Sep ((D, o') :: l) := h
/-! ### texts, opaque -/
section
variable {prog : Program} {w : World} {A : Around} {E : Value → Shared → Prop} {s : Shared} {value slice : PySem.Expr} {x y : PySem.Str} {t u : Tok} {i : Int} {Q : Value → Shared → Prop}
/-- the text of one sign -/
noncomputable def sg (x : Str) (k : Nat) : Str := ⟨#[(x.cps[k]?).getD 0]⟩
theorem sg_eq {x : Str} {j k : Nat} (hj : j < x.length) (hk : k < x.length) : (sg x j = sg x k) ↔ x.cps.toList[j]? = x.cps.toList[k]? := by
  have hj' : j < x.cps.size := hj
  have hk' : k < x.cps.size := hk
  unfold sg
  simp [Array.getElem?_eq_getElem hj', Array.getElem?_eq_getElem hk', hj', hk']
theorem item_sg (h0 : 0 ≤ i) (h1 : i < (x.length : Int)) : Txt.item x i = sg x i.toNat := by
  unfold Txt.item Txt.charAt sg seqIndex?
  simp only [show ¬ i < 0 by lia, if_false, h0, h1, decide_true, Bool.and_self, if_true, Option.bind_some]
theorem item_ne {j : Int} (h0 : 0 ≤ i) (h1 : i < (x.length : Int)) (h2 : 0 ≤ j) (h3 : j < (x.length : Int)) : (Txt.item x i != Txt.item x j) = !decide (x.cps.toList[j.toNat]? = x.cps.toList[i.toNat]?) := by
  rw [item_sg h0 h1, item_sg h2 h3, bne, show (sg x i.toNat == sg x j.toNat) = decide (sg x i.toNat = sg x j.toNat) from rfl]
  congr 1
  refine decide_eq_decide.mpr ((sg_eq (by lia) (by lia)).trans eq_comm)
theorem eq_strB {b : Bool} (e : decide (x = y) = b) (h : Q (.bool b) s) : wpAny (model prog w) A (compareOp .Eq (.str x t) (.str y u)) Q E s := by
  refine eq_str ?_
  rw [show (x == y) = b from by rw [← e]; rfl]
  exact h
end
/-- how long a beginning of the first text ends the second one -/
noncomputable def lapN (b f : List Nat) : Nat := bd (b ++ 124 :: f) (b.length + 1 + f.length)
theorem tabOf_last {l : List Nat} (h : l ≠ []) : ∃ ms, tabOf l = ms ++ [(bd l l.length : Int)] := by
  refine park fun P9 k9 => ?_
  obtain ⟨n, hn⟩ : ∃ n, l.length = n + 1 := ⟨l.length - 1, by have := List.length_pos_iff.mpr h; lia⟩
  refine k9 ?_
  clear k9 P9
  refine ⟨(List.range n).map fun k => (bd l (k + 1) : Int), ?_⟩
  unfold tabOf
  rw [hn, List.range_succ, List.map_append]; rfl
theorem lap_text (b f : Str) : ((b ++ Str.ofString "|") ++ f).cps.toList = b.cps.toList ++ 124 :: f.cps.toList := by
  rw [KT.app_list, KT.app_list]
  simp [show (Str.ofString "|").cps.toList = [124] from by rfl]
theorem bd_lap (b f : Str) : bd ((b ++ Str.ofString "|") ++ f).cps.toList ((b ++ Str.ofString "|") ++ f).cps.toList.length = lapN b.cps.toList f.cps.toList := by
  rw [lap_text]
  unfold lapN
  congr 1
  simp; lia
theorem keeps_of {h g h₀ h' : Heap} {L L' : Addr} {m' : Str → Option Value} {news : List (Addr × Obj)} (N : News h₀ L h news) (k : GSub h g (news.map (·.1))) (F' : Fr g L' h' m') {l' : List (Addr × Obj)} (N' : News g L' h' l') (hl : ∀ q ∈ news, q ∈ l') :
    ∀ b o, h.get? b = some o → h'.get? b = some o := fun b o e => by
  by_cases hm : b ∈ news.map (·.1)
  · refine park fun P9 k9 => ?_
    obtain ⟨q, hq, rfl⟩ := List.mem_map.mp hm
    refine k9 ?_
    clear k9 P9
    have h1 := (N q hq).1
    rw [e] at h1
    rw [(N' q (hl q hq)).1, h1]
  · exact F'.keep b o (k b o e hm)
section
variable {prog : Program} {w : World} {A : Around} {E : Value → Shared → Prop} {s : Shared} {h₀ : Heap} {L l : Addr} {news : List (Addr × Obj)} {vs : List Value} {ys : List Str} {k : Str} {t : Tok} {n : Nat} {Q : Value → Shared → Prop}
theorem notin_M {b : Bool} (N : News h₀ L s.heap news) (hm : (l, W.listOf vs.toArray n) ∈ news) (hi : StrsAre vs ys) (hb : decide (k ∈ ys) = b) (h : Q (.bool (!b)) s) : wpAny (model prog w) A (compareOp .NotIn (.str k t) (.ref l)) Q E s := by
  refine notin_list_strs ⟨_, (N _ hm).1, rfl, _, rfl⟩ hi ?_
  rw [show ys.any (· == k) = b from by rw [← hb]; rw [Bool.eq_iff_iff]; simp]
  exact h
end
end
section
/-! ### laps, plain -/
noncomputable def LapK (b f : List Nat) (k : Nat) : Prop := k ≤ b.length ∧ k ≤ f.length ∧ b.take k = f.drop (f.length - k)
theorem isB_lap {b f : List Nat} (hb : 124 ∉ b) (hf : 124 ∉ f) {k : Nat} : isB (b ++ 124 :: f) (b.length + 1 + f.length) k ↔ LapK b f k := by
  have bar : (b ++ 124 :: f)[b.length]? = some 124 := by simp
  constructor
  · intro X90
    refine park fun P9 k9 => ?_
    obtain ⟨h1, h2⟩ := X90
    refine k9 ?_
    clear k9 P9
    have kf : k ≤ f.length := by
      rcases Nat.lt_or_ge f.length k with h | h
      · exfalso
        have e := h2 (k - f.length - 1) (by lia)
        rw [show b.length + 1 + f.length - k + (k - f.length - 1) = b.length from by lia, bar, List.getElem?_append_left (by lia)] at e
        exact hb (List.mem_of_getElem? e)
      · exact h
    have kb : k ≤ b.length := by
      rcases Nat.lt_or_ge b.length k with h | h
      · exfalso
        have e := h2 b.length h
        rw [bar, List.getElem?_append_right (by lia), show b.length + 1 + f.length - k + b.length - b.length = (b.length + f.length - k) + 1 from by lia, List.getElem?_cons_succ] at e
        exact hf (List.mem_of_getElem? e.symm)
      · exact h
    refine ⟨kb, kf, List.ext_getElem? fun m => ?_⟩
    rw [List.getElem?_take, List.getElem?_drop]
    by_cases hm : m < k
    · have e := h2 m hm
      rw [if_pos hm]
      rw [List.getElem?_append_left (by lia), List.getElem?_append_right (by lia), show b.length + 1 + f.length - k + m - b.length = (f.length - k + m) + 1 from by lia, List.getElem?_cons_succ] at e
      exact e
    · rw [if_neg hm, List.getElem?_eq_none (by lia)]
  · intro X90
    refine park fun P9 k9 => ?_
    obtain ⟨kb, kf, e⟩ := X90
    refine k9 ?_
    clear k9 P9
    refine ⟨by lia, fun m hm => ?_⟩
    have e2 : (b.take k)[m]? = (f.drop (f.length - k))[m]? := by rw [e]
    rw [List.getElem?_take, if_pos hm, List.getElem?_drop] at e2
    rw [List.getElem?_append_left (by lia), List.getElem?_append_right (by lia), show b.length + 1 + f.length - k + m - b.length = (f.length - k + m) + 1 from by lia, List.getElem?_cons_succ]
    exact e2
theorem lapN_is {b f : List Nat} (hb : 124 ∉ b) (hf : 124 ∉ f) : LapK b f (lapN b f) := (isB_lap hb hf).mp (bd_is (by lia))
theorem lapN_max {b f : List Nat} (hb : 124 ∉ b) (hf : 124 ∉ f) {k : Nat} (h : LapK b f k) : k ≤ lapN b f := bd_max ((isB_lap hb hf).mpr h)
end
section
/-! ### a hindrance, plain -/
noncomputable def cutN (l : List Nat) (p k : Nat) : List Nat := (l.drop p).take k
noncomputable def manyN (size least p q : Nat) : Nat := max least (size + p - q)
noncomputable def HindAt (l : List Nat) (size least p q : Nat) : Prop := p < q ∧ q + manyN size least p q ≤ l.length ∧ cutN l p (manyN size least p q) = cutN l q (manyN size least p q)
noncomputable def Hind (l : List Nat) (size least p : Nat) : Prop := ∃ q, HindAt l size least p q
/-- the first one, or the number of places -/
noncomputable def FirstH (l : List Nat) (size least r : Nat) : Prop := (∀ p, p < r → ¬ Hind l size least p) ∧ (r ≤ l.length - size ∧ Hind l size least r ∨ r = l.length - size + 1)
theorem slice_cut {x : Str} {i j : Int} (h0 : 0 ≤ i) (h1 : i ≤ j) (h2 : j ≤ x.length) : Txt.slice x (some i) (some j) = ⟨(cutN x.cps.toList i.toNat (j - i).toNat).toArray⟩ := by
  have := slice_closesL (x := x) h0 h1 h2
  exact eq_of_beq this
theorem slice_upto {x : Str} {j : Int} (h0 : 0 ≤ j) (h2 : j ≤ x.length) : Txt.slice x none (some j) = ⟨(x.cps.toList.take j.toNat).toArray⟩ := by
  have := slice_closes_toL (x := x) h0 h2
  rw [eq_of_beq this]; simp
theorem slice_from {x : Str} {i : Int} (h0 : 0 ≤ i) (h2 : i ≤ x.length) : Txt.slice x (some i) none = ⟨(x.cps.toList.drop i.toNat).toArray⟩ := by
  have := slice_closes_fromL (x := x) (b := x.length) h0 h2 rfl
  rw [eq_of_beq this, List.take_of_length_le]
  rw [List.length_drop, show x.cps.toList.length = x.length from by simp [PySem.Str.length]]; lia
theorem str_ext {x y : Str} : x = y ↔ x.cps.toList = y.cps.toList := by
  cases x; cases y; simp
theorem str_beq {x y : Str} : (x == y) = decide (x.cps.toList = y.cps.toList) := by
  rw [show (x == y) = decide (x = y) from rfl]
  exact decide_eq_decide.mpr str_ext
end
section
section
variable {prog : Program} {w : World} {A : Around} {E : Value → Shared → Prop} {s : Shared} {h₀ : Heap} {L t : Addr} {m : Str → Option Value} {news : List (Addr × Obj)} {vs : List Value} {ys : List Str} {u : Tok} {n : Nat} {Q : Value → Shared → Prop} {value slice : PySem.Expr} {i : Int}
theorem item_strs (N : News h₀ L s.heap news) (hm : (t, W.listOf vs.toArray n) ∈ news) (hi : StrsAre vs ys) (h0 : 0 ≤ i) (h1 : i < ys.length) (hz : ys.length ≤ 1000000) (h : ∀ u, Q (.str (ys.getD i.toNat Str.empty) u) s)
    (hs : subscripted slice false (.ref t) (.int i u) = operate [.ref t, .int i u] (getItem (.ref t) (.int i u)) := by with_unfolding_all rfl) :
    wpAny (model prog w) A (subscriptTail value slice (.ref t) (.int i u)) Q E s := by
  have hl : s.heap.IsList t vs.toArray := ⟨_, (N _ hm).1, rfl, _, rfl⟩
  have hy : ys[i.toNat]? = some (ys.getD i.toNat Str.empty) := by
    rw [List.getD_eq_getElem?_getD, List.getElem?_eq_getElem (by omega)]; rfl
  refine park fun P9 k9 => ?_
  obtain ⟨u', hu⟩ := hi.get _ _ hy
  refine k9 ?_
  clear k9 P9
  refine tail_any hl.typeIs slot_list_getitem.lookup ?_ hs
  exact wpAny_getItem_list hl h0 (by omega) (by simpa using hu) (h u')
end
/-! ### slices of texts that tell what they keep -/
theorem keptK {h₀ H : Heap} {L : Addr} {m : Str → Option Value} {news : List (Addr × Obj)} : KeptH (fun h => (Fr h₀ L h m ∧ News h₀ L h news) ∧ ∀ b o, H.get? b = some o → h.get? b = some o) :=
  fun _ ob a => ⟨⟨Fr.pushS a.1.1 ob, a.1.2.pushKeep ob⟩, fun b o e => Heap.get?_push_of_some _ (a.2 b o e)⟩
section
variable {prog : Program} {w : World} {A : Around} {E : Value → Shared → Prop} {s : Shared} {value slice : PySem.Expr} {x : Str} {t : Tok} {h₀ : Heap} {L : Addr} {m : Str → Option Value} {news : List (Addr × Obj)} {Q : Value → Shared → Prop}
theorem slice_K_ns {j : Int} {uj : Tok} (hF : Fr h₀ L s.heap m) (hN : News h₀ L s.heap news) (hsz : x.length ≤ 1000000) (h : ∀ h' t' k, Fr h₀ L h' m → News h₀ L h' news → (∀ b o, s.heap.get? b = some o → h'.get? b = some o) → Q (.str (Txt.slice x none (some j)) t') { s with heap := h', toks := k })
    (hs : subscripted slice false (.str x t) (.ref s.heap.objs.size) = operate [.ref s.heap.objs.size, .str x t] (getItem (.str x t) (.ref s.heap.objs.size)) := by with_unfolding_all rfl)
    (ht : ∀ r, letTemporaryGo value (.str x t) r = pure () := by intro _; with_unfolding_all rfl) :
    wpAny (model prog w) A (subscriptTail value slice (.str x t) (.ref s.heap.objs.size)) Q E { s with heap := s.heap.push { cls := .type "slice", data := .fields #[.none, .int j uj, .none] } } :=
  tail_of_ItemOn (SBH.sliceItem_ns keptK ⟨⟨hF, hN⟩, fun _ _ e => e⟩ (fun h' t' k a => h h' t' k a.1.1 a.1.2 a.2) (seven_le hsz)) hs ht
theorem slice_K_sn {i : Int} {ui : Tok} (hF : Fr h₀ L s.heap m) (hN : News h₀ L s.heap news) (hsz : x.length ≤ 1000000) (h : ∀ h' t' k, Fr h₀ L h' m → News h₀ L h' news → (∀ b o, s.heap.get? b = some o → h'.get? b = some o) → Q (.str (Txt.slice x (some i) none) t') { s with heap := h', toks := k })
    (hs : subscripted slice false (.str x t) (.ref s.heap.objs.size) = operate [.ref s.heap.objs.size, .str x t] (getItem (.str x t) (.ref s.heap.objs.size)) := by with_unfolding_all rfl)
    (ht : ∀ r, letTemporaryGo value (.str x t) r = pure () := by intro _; with_unfolding_all rfl) :
    wpAny (model prog w) A (subscriptTail value slice (.str x t) (.ref s.heap.objs.size)) Q E { s with heap := s.heap.push { cls := .type "slice", data := .fields #[.int i ui, .none, .none] } } :=
  tail_of_ItemOn (SBH.sliceItem_sn keptK ⟨⟨hF, hN⟩, fun _ _ e => e⟩ (fun h' t' k a => h h' t' k a.1.1 a.1.2 a.2) (seven_le hsz)) hs ht
theorem slice_K_ss {i j : Int} {ui uj : Tok} (hF : Fr h₀ L s.heap m) (hN : News h₀ L s.heap news) (hsz : x.length ≤ 1000000) (h : ∀ h' t' k, Fr h₀ L h' m → News h₀ L h' news → (∀ b o, s.heap.get? b = some o → h'.get? b = some o) → Q (.str (Txt.slice x (some i) (some j)) t') { s with heap := h', toks := k })
    (hs : subscripted slice false (.str x t) (.ref s.heap.objs.size) = operate [.ref s.heap.objs.size, .str x t] (getItem (.str x t) (.ref s.heap.objs.size)) := by with_unfolding_all rfl)
    (ht : ∀ r, letTemporaryGo value (.str x t) r = pure () := by intro _; with_unfolding_all rfl) :
    wpAny (model prog w) A (subscriptTail value slice (.str x t) (.ref s.heap.objs.size)) Q E { s with heap := s.heap.push { cls := .type "slice", data := .fields #[.int i ui, .int j uj, .none] } } :=
  tail_of_ItemOn (SBH.sliceItem_ss keptK ⟨⟨hF, hN⟩, fun _ _ e => e⟩ (fun h' t' k a => h h' t' k a.1.1 a.1.2 a.2) (seven_le hsz)) hs ht
end
end
section
theorem strs_carried : ∀ {vs : List Value} {xs : List Str}, StrsAre vs xs → CarriedAll vs (xs.map fun a => PyData.str (id a))
  | _, _, .nil => .nil
  | _, _, .cons _ t h => .cons (.str _ t) (strs_carried h)
structure LetterG (v r : Value) : Prop where
  is : ∃ z t t', v = Value.int z t ∧ r = Value.str (Txt.item (Str.ofString "abcd") (z.fmod 4)) t'
/-- the read at a place; the reads of the first places, each once -/
noncomputable def rdAt (x : Str) (size k : Nat) : Str := Txt.slice x (some (k : Int)) (some ((k : Int) + (size : Int)))
noncomputable def readsTo (x : Str) (size : Nat) : Nat → List Str
  | 0 => []
  | k + 1 => if rdAt x size k ∈ readsTo x size k then readsTo x size k else readsTo x size k ++ [rdAt x size k]
/-- a new sorter -/
theorem new_end {prog : Program} {w : World} {h₀ h : Heap} {L d x dx C Ci rl : Addr} {o' orl : Obj} {h1 h2 h3 h4 : Int} {k1 k2 k3 k4 t1 t2 : Tok} {n : Nat} {led : List (Addr × Obj)}
    (N : News h₀ L h ((d, o') :: (x, instObj C dx) :: (dx, dictOf [⟨h1, .str (Str.ofString "_node2info") k1, .ref d⟩, ⟨h2, .str (Str.ofString "_ready_nodes") k2, .none⟩, ⟨h3, .str (Str.ofString "_npassedout") k3, .int 0 t1⟩, ⟨h4, .str (Str.ofString "_nfinished") k4, .int 0 t2⟩] n) :: (rl, orl) :: led))
    (hd : o'.IsDictOf (PySem.strKind prog w) ([] : List (Str × Value))) (lo : (d == sysModules) = false) (hs : Sep ((rl, orl) :: led)) (q1 : rl < dx ∧ AllLt dx led) (q2 : dx < x) (q3 : x < d ∧ dx < d ∧ rl < d ∧ AllLt d led) :
    ∃ S : So, S.ok prog w ∧ S.nds = [] ∧ S.rdy = none ∧ S.rds = [] ∧ S.npo = 0 ∧ S.nfi = 0 ∧ S.x = x ∧ News h₀ L h (S.cells C Ci ++ (rl, orl) :: led) ∧ Sep (S.cells C Ci ++ (rl, orl) :: led) := by
  have b1 : ∀ p ∈ (rl, orl) :: led, @LT.lt Nat _ p.1 dx := fun p hp => by
    rcases List.mem_cons.mp hp with rfl | hp
    · exact q1.1
    · exact ktn_ltOf q1.2 p hp
  have a2 : @LT.lt Nat _ dx x := q2
  have a3 : @LT.lt Nat _ x d := q3.1
  have s1 : Sep ((dx, dictOf [⟨h1, .str (Str.ofString "_node2info") k1, .ref d⟩, ⟨h2, .str (Str.ofString "_ready_nodes") k2, .none⟩, ⟨h3, .str (Str.ofString "_npassedout") k3, .int 0 t1⟩, ⟨h4, .str (Str.ofString "_nfinished") k4, .int 0 t2⟩] n) :: (rl, orl) :: led) := hs.cons b1
  have s2 := s1.cons (a := x) (o := instObj C dx) fun p hp => by
    rcases List.mem_cons.mp hp with rfl | hp
    · exact a2
    · exact Nat.lt_trans (b1 p hp) a2
  have s3 := s2.cons (a := d) (o := o') fun p hp => by
    rcases List.mem_cons.mp hp with rfl | hp
    · exact a3
    · rcases List.mem_cons.mp hp with rfl | hp
      · exact Nat.lt_trans a2 a3
      · exact Nat.lt_trans (Nat.lt_trans (b1 p hp) a2) a3
  let S : So := ⟨x, dx, d, fun i => [h1, h2, h3, h4].getD i 0, fun i => [k1, k2, k3, k4].getD i 0, n, o', [], none, [], 0, 0, t1, t2⟩
  have pm : ((d, o') :: (x, instObj C dx) :: (dx, dictOf [⟨h1, .str (Str.ofString "_node2info") k1, .ref d⟩, ⟨h2, .str (Str.ofString "_ready_nodes") k2, .none⟩, ⟨h3, .str (Str.ofString "_npassedout") k3, .int 0 t1⟩, ⟨h4, .str (Str.ofString "_nfinished") k4, .int 0 t2⟩] n) :: (rl, orl) :: led).Perm (S.cells C Ci ++ (rl, orl) :: led) := by
    refine (List.Perm.swap _ _ _).trans (List.Perm.cons _ ?_)
    exact List.Perm.swap _ _ _
  exact ⟨S, ⟨hd, lo, fun v hv => (nomatch hv), rfl⟩, rfl, rfl, rfl, rfl, rfl, rfl, fun p hp => N p (pm.mem_iff.mpr hp), s3.perm pm⟩
/-- what is told to the sorter -/
noncomputable def predsOf (rds : List Str) (least : Nat) (k : Str) : List Str := rds.filter fun f => decide (least ≤ lapN k.cps.toList (f.cps.toList.drop 1))
noncomputable def gTo (rds : List Str) (least : Nat) (sds : List Str) (i : Nat) : List PN := (sds.take i).foldl (fun g k => addG g k (predsOf rds least k)) []
theorem gTo_succ {rds : List Str} {least : Nat} {sds : List Str} {i : Nat} {k : Str} (h : sds[i]? = some k) : gTo rds least sds (i + 1) = addG (gTo rds least sds i) k (predsOf rds least k) := foldl_take h
theorem predsOf_le (rds : List Str) (least : Nat) (k : Str) : (predsOf rds least k).length ≤ rds.length := List.length_filter_le _ _
theorem succ_addG {g : List PN} {k : Str} {ps : List Str} {b : Nat} (h : ∀ v ∈ g, v.succ.length ≤ b) : ∀ v ∈ addG g k ps, v.succ.length ≤ b + ps.length :=
  succ_addPs (succ_addN (succ_touch h))
end
section
/-! ### lists of lists of texts, in the ledger -/
noncomputable def LstIn (l : List (Addr × Obj)) (v : Value) (xs : List Str) : Prop := ∃ a vs n, v = .ref a ∧ (a, W.listOf vs.toArray n) ∈ l ∧ StrsAre vs xs
theorem LstIn.mono {l l' : List (Addr × Obj)} {v : Value} {xs : List Str} (h : LstIn l v xs) (hs : ∀ q ∈ l, q ∈ l') : LstIn l' v xs := by
  refine park fun P9 k9 => ?_
  obtain ⟨a, vs, n, e, hm, hi⟩ := h
  refine k9 ?_
  clear k9 P9
  exact ⟨a, vs, n, e, hs _ hm, hi⟩
theorem lsts_mono {l l' : List (Addr × Obj)} {rvs : List Value} {xss : List (List Str)} (h : Paired (LstIn l) rvs xss) (hs : ∀ q ∈ l, q ∈ l') : Paired (LstIn l') rvs xss :=
  paired_left (fun _ _ q => q.mono hs) h
theorem paired_get {α β : Type} {F : α → β → Prop} {l : List α} {k : List β} (h : Paired F l k) : ∀ {i : Nat} {a : α}, l[i]? = some a → ∃ b, k[i]? = some b ∧ F a b := by
  induction h with
  | nil => intro i a e; cases e
  | cons hd tl ih =>
    intro i a e
    cases i with
    | zero => obtain rfl := Option.some.inj e; exact ⟨_, rfl, hd⟩
    | succ i => exact ih (by simpa using e)
theorem paired_append {α β : Type} {F : α → β → Prop} {l l' : List α} {k k' : List β} (h : Paired F l k) (h' : Paired F l' k') : Paired F (l ++ l') (k ++ k') := by
  induction h with
  | nil => exact h'
  | cons hd tl ih => exact .cons hd ih
theorem ab_two {v : Value} {wd : Str} {wt : Tok} (hv : v = .str wd wt) {us yl : List Value} (hl : us.length = (Str.ofString "ab").length) (hu : ∀ (j : Nat) (u : Value), us[j]? = some u → ∃ c t, (Str.ofString "ab").cps[j]? = some c ∧ u = .str ⟨#[c]⟩ t)
    (hF : Paired (fun u r => ∃ wd sgn t1 t2 t3, v = .str wd t1 ∧ u = .str sgn t2 ∧ r = .str (wd ++ sgn) t3) us yl) : ∃ xs, StrsAre yl xs ∧ ∃ wd t, v = .str wd t ∧ xs = [wd ++ Str.ofString "a", wd ++ Str.ofString "b"] := by
  have hl2 : us.length = 2 := hl
  cases hF with
  | nil => cases hl2
  | cons h1 t1 =>
    cases t1 with
    | nil => cases hl2
    | cons h2 t2 =>
      cases t2 with
      | cons h3 t3 => simp at hl2
      | nil =>
        refine park fun P9 k9 => ?_
        obtain ⟨c1, k1, e1, rfl⟩ := hu 0 _ rfl
        obtain ⟨c2, k2, e2, rfl⟩ := hu 1 _ rfl
        refine k9 ?_
        clear k9 P9
        have e1' : c1 = 97 := (Option.some.inj (show some 97 = some c1 from e1)).symm
        have e2' : c2 = 98 := (Option.some.inj (show some 98 = some c2 from e2)).symm
        subst e1'; subst e2'; subst hv
        refine park fun P9 k9 => ?_
        obtain ⟨w1, s1, p1, p2, p3, a1, a2, rfl⟩ := h1
        obtain ⟨w2, s2, q1, q2, q3, b1, b2, rfl⟩ := h2
        refine k9 ?_
        clear k9 P9
        cases a1; cases a2; cases b1; cases b2
        exact ⟨_, .cons _ _ (.cons _ _ .nil), wd, wt, rfl, rfl⟩
/-! ### all words -/
noncomputable def rowW : Nat → List Str
  | 0 => [Str.ofString ""]
  | k + 1 => (rowW k).flatMap fun w => [w ++ Str.ofString "a", w ++ Str.ofString "b"]
noncomputable def rowsW (n : Nat) : List (List Str) := (List.range (n + 1)).map rowW
noncomputable def wordsTo (n : Nat) : List Str := (rowsW n).flatten
theorem rowsW_zero : rowsW 0 = [[Str.ofString ""]] := rfl
theorem rowsW_succ (n : Nat) : rowsW (n + 1) = rowsW n ++ [rowW (n + 1)] := by
  unfold rowsW; rw [List.range_succ (n := n + 1), List.map_append]; rfl
theorem rowsW_last (n : Nat) : rowsW n = (List.range n).map rowW ++ [rowW n] := by
  unfold rowsW; rw [List.range_succ, List.map_append]; rfl
theorem paired_snoc_inv {α β : Type} {F : α → β → Prop} {b : β} : ∀ {l : List α} {k : List β}, Paired F l (k ++ [b]) → ∃ l' a, l = l' ++ [a] ∧ Paired F l' k ∧ F a b
  | _, [], .cons hd .nil => ⟨[], _, rfl, .nil, hd⟩
  | _, c :: k, .cons hd tl => by
    refine park fun P9 k9 => ?_
    obtain ⟨l', a, e, h1, h2⟩ := paired_snoc_inv tl
    refine k9 ?_
    clear k9 P9
    exact ⟨_ :: l', a, by rw [e]; rfl, .cons hd h1, h2⟩
theorem row_next {vs : List Value} {ws : List Str} {yss : List (List Value)} (hi : StrsAre vs ws) (h : Paired (fun v yl => ∃ xs, StrsAre yl xs ∧ ∃ wd t, v = Value.str wd t ∧ xs = [wd ++ Str.ofString "a", wd ++ Str.ofString "b"]) vs yss) :
    StrsAre yss.flatten (ws.flatMap fun w => [w ++ Str.ofString "a", w ++ Str.ofString "b"]) := by
  induction hi generalizing yss with
  | nil => cases h; exact .nil
  | cons wd t r ih =>
    cases h with
    | cons hd tl =>
      refine park fun P9 k9 => ?_
      obtain ⟨xs, h1, wd', t', e, rfl⟩ := hd
      refine k9 ?_
      clear k9 P9
      cases e
      rw [List.flatten_cons, List.flatMap_cons]
      exact h1.append' (ih tl)
theorem StrsAre.inj : ∀ {vs : List Value} {xs ys : List Str}, StrsAre vs xs → StrsAre vs ys → xs = ys
  | _, _, _, .nil, .nil => rfl
  | _, _, _, .cons x t h, .cons _ _ h' => by rw [StrsAre.inj h h']
theorem flat_all {l : List (Addr × Obj)} {rvs : List Value} {xss : List (List Str)} {yss : List (List Value)} (hr : Paired (LstIn l) rvs xss) (h : Paired (fun v yl => ∃ xs, LstIn l v xs ∧ StrsAre yl xs) rvs yss) (hs : Sep l) : StrsAre yss.flatten xss.flatten := by
  induction hr generalizing yss with
  | nil => cases h; exact .nil
  | cons hd tl ih =>
    cases h with
    | cons h1 h2 =>
      refine park fun P9 k9 => ?_
      obtain ⟨xs, ⟨a, vs, n, e, hm, hi⟩, hy⟩ := h1
      obtain ⟨a', vs', n', e', hm', hi'⟩ := hd
      refine k9 ?_
      clear k9 P9
      rw [e] at e'
      cases e'
      have := Sep.one hs hm hm'
      have e2 : vs = vs' := by
        have := congrArg Obj.data this
        injection this with h1 _
        exact congrArg Array.toList h1
      subst e2
      rw [List.flatten_cons, List.flatten_cons]
      rw [StrsAre.inj hi' hi]
      exact hy.append' (ih h2)
theorem rowW_len : ∀ n, (rowW n).length = 2 ^ n
  | 0 => rfl
  | n + 1 => by
    unfold rowW
    have : ∀ l : List Str, (l.flatMap fun w => [w ++ Str.ofString "a", w ++ Str.ofString "b"]).length = 2 * l.length := fun l => by
      induction l with
      | nil => rfl
      | cons a r ih => rw [List.flatMap_cons, List.length_append, ih, List.length_cons, List.length_cons, List.length_cons, List.length_nil]; omega
    rw [this, rowW_len n, Nat.pow_succ]; omega
theorem slen (x : Str) : x.cps.toList.length = x.length := by simp [PySem.Str.length]
theorem len_app (u c : Str) : (u ++ c).length = u.length + c.length := by
  rw [← slen, KT.app_list, List.length_append, slen, slen]
theorem rowW_wlen : ∀ {n : Nat} {w : Str}, w ∈ rowW n → w.length = n
  | 0, w, h => by
    rw [List.mem_singleton.mp h]; rfl
  | n + 1, w, h => by
    unfold rowW at h
    refine park fun P9 k9 => ?_
    obtain ⟨u, hu, h⟩ := List.mem_flatMap.mp h
    refine k9 ?_
    clear k9 P9
    have hl := rowW_wlen hu
    rcases List.mem_cons.mp h with rfl | h
    · rw [len_app, hl]; rfl
    · rw [List.mem_singleton.mp h, len_app, hl]; rfl
theorem rowsW_get {n j : Nat} {xs : List Str} (h : (rowsW n)[j]? = some xs) : xs = rowW j ∧ j ≤ n := by
  unfold rowsW at h
  rw [List.getElem?_map] at h
  refine park fun P9 k9 => ?_
  obtain ⟨k, hk, rfl⟩ := Option.map_eq_some_iff.mp h
  refine k9 ?_
  clear k9 P9
  have hl := (List.getElem?_eq_some_iff.mp hk).1
  rw [List.length_range] at hl
  rw [List.getElem?_range hl] at hk
  cases hk
  exact ⟨rfl, by omega⟩
theorem rowsW_len (n : Nat) : (rowsW n).length = n + 1 := by unfold rowsW; simp
theorem paired_same {us yl : List Value} (h : Paired (fun u r => r = u) us yl) : yl = us := by
  induction h with
  | nil => rfl
  | cons hd tl ih => rw [hd, ih]
/-! ### one step of the rules -/
noncomputable def nextAt (w l r : Str) (k : Nat) : Str := (Txt.slice w none (some (k : Int)) ++ r) ++ Txt.slice w (some ((k : Int) + (l.length : Int))) none
noncomputable def nextsTo (w l r : Str) : Nat → List Str
  | 0 => []
  | k + 1 => nextsTo w l r k ++ if Txt.slice w (some (k : Int)) (some ((k : Int) + (l.length : Int))) = l then [nextAt w l r k] else []
noncomputable def nextsOf (rules : List (Str × Str)) (w : Str) : List Str := rules.flatMap fun lr => nextsTo w lr.1 lr.2 (w.length + 1 - lr.1.length)
theorem nextsTo_len (w l r : Str) : ∀ k, (nextsTo w l r k).length ≤ k
  | 0 => Nat.le_refl _
  | k + 1 => by
    have := nextsTo_len w l r k
    unfold nextsTo
    split <;> simp <;> omega
theorem nextsOf_len (rules : List (Str × Str)) (w : Str) : (nextsOf rules w).length ≤ rules.length * (w.length + 1) := by
  induction rules with
  | nil => simp [nextsOf]
  | cons lr r ih =>
    have h : nextsOf (lr :: r) w = nextsTo w lr.1 lr.2 (w.length + 1 - lr.1.length) ++ nextsOf r w := rfl
    have h1 := nextsTo_len w lr.1 lr.2 (w.length + 1 - lr.1.length)
    rw [h, List.length_append, List.length_cons, Nat.succ_mul]
    omega
theorem nextsOf_take {rules : List (Str × Str)} {w : Str} {i : Nat} {lr : Str × Str} (h : rules[i]? = some lr) : nextsOf (rules.take (i + 1)) w = nextsOf (rules.take i) w ++ nextsTo w lr.1 lr.2 (w.length + 1 - lr.1.length) := by
  unfold nextsOf
  rw [List.take_add_one, h, List.flatMap_append]; simp
/-- the rules, in the ledger -/
noncomputable def RuleIn (l : List (Addr × Obj)) (v : Value) (lr : Str × Str) : Prop := ∃ t1 t2, PairIn l v (.str lr.1 t1) (.str lr.2 t2)
theorem RuleIn.mono {l l' : List (Addr × Obj)} {v : Value} {lr : Str × Str} (h : RuleIn l v lr) (hs : ∀ q ∈ l, q ∈ l') : RuleIn l' v lr := by
  refine park fun P9 k9 => ?_
  obtain ⟨t1, t2, a, n, e, hm⟩ := h
  refine k9 ?_
  clear k9 P9
  exact ⟨t1, t2, a, n, e, hs _ hm⟩
theorem pairIn_one {l : List (Addr × Obj)} (hs : Sep l) {v a b c d : Value} (h : PairIn l v a b) (h' : PairIn l v c d) : a = c ∧ b = d := by
  refine park fun P9 k9 => ?_
  obtain ⟨x, n, e, hm⟩ := h
  obtain ⟨x', n', e', hm'⟩ := h'
  refine k9 ?_
  clear k9 P9
  rw [e] at e'
  cases e'
  have := congrArg Obj.data (Sep.one hs hm hm')
  injection this with h1 _
  have h2 := congrArg Array.toList h1
  simp at h2
  exact h2
end
section
section
open PyProof.Rows.LCg PyProof.Rows.LCp
variable {prog : Program} {w : World} {A : Around} {env : Env} {h₀ : Heap} {L : Addr} {m : Str → Option Value} {news : List (Addr × Obj)} {s : Shared} {x x₂ : Str} {px : Pos} {scope : Scope} {cl : List (Str × Addr)} {Q : Value → Shared → Prop}
theorem Off1.all {D : Addr} : ∀ {l : List (Addr × Obj)}, Off1 D l → ∀ q ∈ l, q.1 ≠ D
  | [], _, _, hq => nomatch hq
  | p :: r, h, q, hq => by
    rcases List.mem_cons.mp hq with rfl | hq
    · exact h.1
    · exact Off1.all h.2 q hq
/-- the first texts of a list of pairs, by a comprehension -/
theorem firsts_src {ra : Addr} {rvs : List Value} {rn : Nat} {rules : List (Str × Str)} (F : Fr h₀ L s.heap m) (N : News h₀ L s.heap news) (hm : (ra, W.listOf rvs.toArray rn) ∈ news) (hR : Paired (RuleIn news) rvs rules) (hsz : rvs.length ≤ sizeLine) (hh : A.handled = none)
    (hk : ∀ C, (compEnvC scope cl C env).scope.kind = .function) (hx : ∀ C, (compEnvC scope cl C env).kindOf x = some .local) (hd : (x == ("__debug__" : Str)) = false)
    (done : ∀ D h tk ys, StrsAre ys (rules.map (·.1)) → Fr h₀ L h m → News h₀ L h ((D, W.listOf ys.toArray ys.length) :: news) → (∀ q ∈ news, q.1 ≠ D) → Q (.ref D) { s with heap := h, toks := tk }) :
    SrcLP prog w A h₀ L m env (.Name x px) x x₂ scope cl (fun s₂ => FinE h₀ L m s₂ Q) (.ref ra) s := by
  refine SrcLP.ledger hh F N hm (by simpa using hsz) fun g => ?_
  rw [show rvs.toArray.size = rvs.length by simp]
  have hl := hR.length
  have key : ∀ (k i : Nat) (ys : List Value), i + k = rvs.length → StrsAre ys ((rules.take i).map (·.1)) →
      CompRestP prog w A h₀ L m env (.Name x px) x x₂ scope cl { s with heap := g } (SrcAt h₀ ra rvs.toArray) (fun i v => rvs.toArray[i]? = some v) (FinE h₀ L m { s with heap := g } Q) k i ys news := by
    intro k
    induction k with
    | zero =>
      intro i ys hi hy
      rw [List.take_of_length_le (by lia)] at hy
      refine CompRestP.zero fun D h tk F N off => done D h tk ys hy F N (Off1.all off)
    | succ k ih =>
      intro i ys hi hy
      refine CompRestP.succ fun v hv => ?_
      refine park fun P9 k9 => ?_
      obtain ⟨lr, hlr, t1, t2, a, n, rfl, hmt⟩ := paired_get hR (show rvs[i]? = some v by simpa using hv)
      refine k9 ?_
      clear k9 P9
      refine ⟨a, _, .str lr.1 t1, .str lr.2 t2, n, rfl, hmt, rfl, rfl, fun I oI C oC D m₂ h tk E' hC hx1 hx2 F N off ne => ?_⟩
      refine ldVarK (hC.ns (N _ (.tail _ (.head _))).1) hx1 ?_ (hk C) (hx C) hd
      refine CompEnd.intro F N news (fun p hp => hp) off (.inr ⟨_, hm, rfl, _, rfl⟩) (ih (i + 1) _ (by lia) ?_)
      rw [List.take_add_one, hlr, List.map_append]
      exact StrsAre.append' hy (.cons _ _ .nil)
  exact key rvs.length 0 [] (Nat.zero_add _) .nil
end
end
section
/-! ### lists of texts compared; lists of such lists -/
/-- a word of the letters a and b -/
abbrev abS (x : Str) : Prop := ∀ c ∈ x.cps.toList, c = 97 ∨ c = 98
theorem abS_ok {x : Str} (h : abS x) : PyData.strOk x = true := by
  unfold PyData.strOk
  rw [Array.all_eq_true]
  intro i hi
  have := h x.cps[i] (by simp)
  rcases this with e | e <;> rw [e] <;> decide
theorem lay_strs : ∀ {ns : List Str}, (∀ x ∈ ns, abS x) → PyData.canLayAll0 (ns.map PyData.str) = true
  | [], _ => rfl
  | x :: r, h => by simp [PyData.canLayAll0, PyData.canLay0, lay_strs (ns := r) fun y hy => h y (.tail _ hy), abS_ok (h x (.head _))]
theorem deep_strs : ∀ ns : List Str, PyData.depthAll (ns.map PyData.str) = 0
  | [] => rfl
  | _ :: r => by simp [PyData.depthAll, PyData.depth, deep_strs r]
theorem shaped_strs {ns : List Str} (h : ∀ x ∈ ns, abS x) : SeqAt.shaped (.list (ns.map PyData.str)) = true := by
  simp [SeqAt.shaped, PyData.canLay0, PyData.depth, lay_strs h, deep_strs]
noncomputable def dSS (xss : List (List Str)) : List PyData := xss.map fun xs => .list (xs.map PyData.str)
theorem lay_SS : ∀ {xss : List (List Str)}, (∀ xs ∈ xss, ∀ x ∈ xs, abS x) → PyData.canLayAll0 (dSS xss) = true
  | [], _ => rfl
  | xs :: r, h => by
    have := lay_SS (xss := r) fun y hy => h y (.tail _ hy)
    unfold dSS at this ⊢
    simp [PyData.canLayAll0, PyData.canLay0, lay_strs (h xs (.head _)), this]
theorem deep_SS : ∀ xss : List (List Str), PyData.depthAll (dSS xss) ≤ 1
  | [] => Nat.zero_le _
  | xs :: r => by
    have := deep_SS r
    unfold dSS at this ⊢
    simp only [List.map_cons, PyData.depthAll, PyData.depth, deep_strs]
    omega
theorem shaped_SS {xss : List (List Str)} (h : ∀ xs ∈ xss, ∀ x ∈ xs, abS x) : SeqAt.shaped (.list (dSS xss)) = true := by
  have := deep_SS xss
  simp only [SeqAt.shaped, PyData.canLay0, PyData.depth, lay_SS h, Bool.true_and]
  exact decide_eq_true (by omega)
theorem eqv_strs : ∀ ns ms : List Str, PyData.eqvAll (ns.map PyData.str) (ms.map PyData.str) = decide (ns = ms)
  | [], [] => by simp [PyData.eqvAll]
  | [], _ :: _ => by simp [PyData.eqvAll]
  | _ :: _, [] => by simp [PyData.eqvAll]
  | a :: r, b :: t => by
    simp only [List.map_cons, PyData.eqvAll, PyData.eqv, eqv_strs r t]
    have e : (a == b) = decide (a = b) := rfl
    rw [e]
    by_cases h : a = b <;> by_cases h' : r = t <;> simp [h, h']
theorem eqv_SS : ∀ ns ms : List (List Str), PyData.eqvAll (dSS ns) (dSS ms) = decide (ns = ms)
  | [], [] => by simp [dSS, PyData.eqvAll]
  | [], _ :: _ => by simp [dSS, PyData.eqvAll]
  | _ :: _, [] => by simp [dSS, PyData.eqvAll]
  | a :: r, b :: t => by
    have := eqv_SS r t
    unfold dSS at this ⊢
    simp only [List.map_cons, PyData.eqvAll, PyData.eqv, this, eqv_strs]
    by_cases h : a = b <;> by_cases h' : r = t <;> simp [h, h']
section
variable {prog : Program} {w : World} {A : Around} {E : Value → Shared → Prop} {s : Shared} {h₀ : Heap} {L a b : Addr} {news : List (Addr × Obj)} {Q : Value → Shared → Prop} {xs ys : List Value} {n k : Nat} {ns ms : List Str}
theorem reads_strs (N : News h₀ L s.heap news) (ha : (a, W.listOf xs.toArray n) ∈ news) (hi : StrsAre xs ns) : Reads s.heap (.ref a) (.list (ns.map PyData.str)) [a] := by
  have := strs_carried hi
  simp only [id] at this
  exact reads_newData ⟨_, (N _ ha).1, rfl, _, rfl⟩ this
theorem reads_SS (N : News h₀ L s.heap news) {rvs : List Value} {xss : List (List Str)} (h : Paired (LstIn news) rvs xss) : ∃ as, ReadsAll s.heap rvs (dSS xss) as := by
  induction h with
  | nil => exact ⟨_, .nil⟩
  | cons hd tl ih =>
    refine park fun P9 k9 => ?_
    obtain ⟨as, ih⟩ := ih
    obtain ⟨c, vs, k, rfl, hm, hi⟩ := hd
    refine k9 ?_
    clear k9 P9
    exact ⟨_, .cons (reads_strs N hm hi) ih⟩
theorem eqS_M {c : Bool} (N : News h₀ L s.heap news) (ha : (a, W.listOf xs.toArray n) ∈ news) (hb : (b, W.listOf ys.toArray k) ∈ news) (hi : StrsAre xs ns) (hj : StrsAre ys ms) (hok : ∀ x ∈ ns, abS x) (hok' : ∀ x ∈ ms, abS x) (hc : decide (ns = ms) = c) (hu : A.units + 64 < cLine) (h : Q (.bool c) s) :
    wpAny (model prog w) A (compareOp .Eq (.ref a) (.ref b)) Q E s :=
  eq_dataH (reads_strs N ha hi) (reads_strs N hb hj) (shaped_strs hok) (shaped_strs hok') hu (by rw [PyData.eqv, eqv_strs, hc]; exact h)
theorem neS_M {c : Bool} (N : News h₀ L s.heap news) (ha : (a, W.listOf xs.toArray n) ∈ news) (hb : (b, W.listOf ys.toArray k) ∈ news) (hi : StrsAre xs ns) (hj : StrsAre ys ms) (hok : ∀ x ∈ ns, abS x) (hok' : ∀ x ∈ ms, abS x) (hc : decide (ns = ms) = c) (hu : A.units + 64 < cLine) (h : Q (.bool (!c)) s) :
    wpAny (model prog w) A (compareOp .NotEq (.ref a) (.ref b)) Q E s :=
  ne_dataH (reads_strs N ha hi) (reads_strs N hb hj) (shaped_strs hok) (shaped_strs hok') hu (by rw [PyData.eqv, eqv_strs, hc]; exact h)
theorem neSS_M {c : Bool} {xss yss : List (List Str)} (N : News h₀ L s.heap news) (ha : (a, W.listOf xs.toArray n) ∈ news) (hb : (b, W.listOf ys.toArray k) ∈ news) (hi : Paired (LstIn news) xs xss) (hj : Paired (LstIn news) ys yss) (hok : ∀ xs ∈ xss, ∀ x ∈ xs, abS x) (hok' : ∀ xs ∈ yss, ∀ x ∈ xs, abS x) (hc : decide (xss = yss) = c) (hu : A.units + 64 < cLine) (h : Q (.bool (!c)) s) :
    wpAny (model prog w) A (compareOp .NotEq (.ref a) (.ref b)) Q E s := by
  refine park fun P9 k9 => ?_
  obtain ⟨as, ra⟩ := reads_SS N hi
  obtain ⟨bs, rb⟩ := reads_SS N hj
  refine k9 ?_
  clear k9 P9
  exact ne_dataH (reads_list_at (N _ ha).1 rfl rfl ra) (reads_list_at (N _ hb).1 rfl rfl rb) (shaped_SS hok) (shaped_SS hok') hu (by rw [PyData.eqv, eqv_SS, hc]; exact h)
end
/-! ### ends -/
noncomputable def addNew (found : List Str) (e : Str) : List Str := if e ∈ found then found else found ++ [e]
noncomputable def endsOf (f : Str → List Str) (word : Str) (after : List Str) : List Str := if after = [] then [word] else after.foldl (fun found one => (f one).foldl addNew found) []
theorem addNew_len (found : List Str) (e : Str) : (addNew found e).length ≤ found.length + 1 := by
  unfold addNew; split <;> simp
/-- a dict of lists of texts -/
noncomputable def DicIn (l : List (Addr × Obj)) (kvs : List (Str × Value)) (f : Str → Option (List Str)) : Prop := ∀ k, match valueAt kvs k with | none => f k = none | some v => ∃ xs, f k = some xs ∧ LstIn l v xs
theorem DicIn.mono {l l' : List (Addr × Obj)} {kvs : List (Str × Value)} {f : Str → Option (List Str)} (h : DicIn l kvs f) (hs : ∀ q ∈ l, q ∈ l') : DicIn l' kvs f := fun k => by
  have := h k
  cases e : valueAt kvs k with
  | none => rw [e] at this; exact this
  | some v =>
    rw [e] at this
    refine park fun P9 k9 => ?_
    obtain ⟨xs, h1, h2⟩ := this
    refine k9 ?_
    clear k9 P9
    exact ⟨xs, h1, h2.mono hs⟩
theorem DicIn.get {l : List (Addr × Obj)} {kvs : List (Str × Value)} {f : Str → Option (List Str)} (h : DicIn l kvs f) {k : Str} {d : Value} (hd : LstIn l d []) : LstIn l ((valueAt kvs k).getD d) ((f k).getD []) := by
  have := h k
  cases e : valueAt kvs k with
  | none => rw [e] at this; rw [this]; exact hd
  | some v =>
    rw [e] at this
    refine park fun P9 k9 => ?_
    obtain ⟨xs, h1, h2⟩ := this
    refine k9 ?_
    clear k9 P9
    rw [h1]; exact h2
theorem fold_len (f : Str → List Str) (b : Nat) : ∀ (ks acc : List Str), (∀ k ∈ ks, (f k).length ≤ b) → (ks.foldl (fun found one => (f one).foldl addNew found) acc).length ≤ acc.length + ks.length * b
  | [], acc, _ => by simp
  | k :: r, acc, h => by
    rw [List.foldl_cons, List.length_cons]
    have h1 := fold_len f b r ((f k).foldl addNew acc) fun y hy => h y (.tail _ hy)
    have h2 : ∀ (es acc : List Str), (es.foldl addNew acc).length ≤ acc.length + es.length := fun es => by
      induction es with
      | nil => intro acc; exact Nat.le_refl _
      | cons e r ih =>
        intro acc
        rw [List.foldl_cons, List.length_cons]
        have := ih (addNew acc e)
        have := addNew_len acc e
        omega
    have h3 := h2 (f k) acc
    have h4 := h k (.head _)
    rw [Nat.succ_mul]
    omega
theorem fold1_len : ∀ (es acc : List Str), (es.foldl addNew acc).length ≤ acc.length + es.length
  | [], acc => Nat.le_refl _
  | e :: r, acc => by
    rw [List.foldl_cons, List.length_cons]
    have := fold1_len r (addNew acc e)
    have := addNew_len acc e
    omega
theorem off_same {l l' : List (Addr × Obj)} {I : Addr} (h : ∀ p ∈ l, p.1 ≠ I) (e : l'.map (·.1) = l.map (·.1)) : ∀ p ∈ l', p.1 ≠ I := fun p hp => by
  have : p.1 ∈ l.map (·.1) := e ▸ List.mem_map.mpr ⟨p, hp, rfl⟩
  refine park fun P9 k9 => ?_
  obtain ⟨q, hq, e2⟩ := List.mem_map.mp this
  refine k9 ?_
  clear k9 P9
  exact e2 ▸ h q hq
/-! ### the rules -/
structure RuleOk (lr : Str × Str) : Prop where
  l2 : 2 ≤ lr.1.length
  l3 : lr.1.length ≤ 3
  rl : lr.2.length ≤ lr.1.length
  la : abS lr.1
  ra : abS lr.2
theorem words3_len : (wordsTo 3).length = 15 := by decide +kernel
theorem words3_a : ∀ i, i < 15 → ((wordsTo 3).getD i Str.empty).length ≤ 3 ∧ abS ((wordsTo 3).getD i Str.empty) := by decide +kernel
theorem words3_b : ∀ i, i < 12 → 2 ≤ ((wordsTo 3).getD (3 + i) Str.empty).length := by decide +kernel
theorem words3_c : ∀ i, i < 15 → ∀ j : Nat, j < 4 → abS (Txt.slice ((wordsTo 3).getD i Str.empty) none (some (j : Int))) ∧ (Txt.slice ((wordsTo 3).getD i Str.empty) none (some (j : Int))).length ≤ j := by decide +kernel
theorem abS_from {x : Str} (h : abS x) (h1 : 1 ≤ x.length) : abS (Txt.slice x (some 1) none) ∧ (Txt.slice x (some 1) none).length = x.length - 1 := by
  rw [slice_from (by omega) (by omega)]
  refine ⟨fun c hc => h c (List.drop_subset 1 _ (by simpa using hc)), ?_⟩
  rw [← slen]
  simp only [List.toList_toArray, List.length_drop]
  rw [slen]; rfl
/-- what a rule's number says -/
structure RuleFacts (lw rw : Str) : Prop where
  l2 : 2 ≤ lw.length
  l3 : lw.length ≤ 3
  la : abS lw
  rl : rw.length ≤ lw.length
  ra : abS rw
theorem rule_facts (z : Int) : RuleFacts ((wordsTo 3).getD (3 + z.fmod 12).toNat Str.empty) (Txt.slice ((wordsTo 3).getD ((z.fdiv 12).fmod 15).toNat Str.empty) none (some (((wordsTo 3).getD (3 + z.fmod 12).toNat Str.empty).length : Int))) := by
  have f1 := Int.fmod_nonneg_of_pos z (b := 12) (by omega)
  have f2 := Int.fmod_lt_of_pos z (b := 12) (by omega)
  have f3 := Int.fmod_nonneg_of_pos (z.fdiv 12) (b := 15) (by omega)
  have f4 := Int.fmod_lt_of_pos (z.fdiv 12) (b := 15) (by omega)
  have e : (3 + z.fmod 12).toNat = 3 + (z.fmod 12).toNat := by omega
  have a1 := words3_a (3 + z.fmod 12).toNat (by omega)
  have a2 := words3_b (z.fmod 12).toNat (by omega)
  rw [← e] at a2
  have a3 := words3_c ((z.fdiv 12).fmod 15).toNat (by omega) ((wordsTo 3).getD (3 + z.fmod 12).toNat Str.empty).length (by omega)
  exact ⟨a2, a1.1, a1.2, a3.2, a3.1⟩
theorem RuleFacts.ok {lw rw : Str} (h : RuleFacts lw rw) : RuleOk (lw, rw) := ⟨h.l2, h.l3, h.rl, h.la, h.ra⟩
theorem RuleFacts.same {lw rw : Str} (h : RuleFacts lw rw) (e : rw = lw) : RuleFacts lw (Txt.slice lw (some 1) none) := by
  have := abS_from h.la (by have := h.l2; omega)
  exact ⟨h.l2, h.l3, h.la, by omega, this.1⟩
theorem RuleFacts.swap {lw rw : Str} (h : RuleFacts lw rw) (e : rw.length = lw.length) : RuleFacts rw lw := by
  have := h.l2
  have := h.l3
  exact ⟨by omega, by omega, h.ra, by omega, h.la⟩
theorem pick_to (vs : List Value) (k : Nat) : (slicePick vs.toArray none (some (k : Int)) none).toList = vs.take k := by
  have e : sliceBounds none (some (k : Int)) none vs.toArray.size = (((0 : Nat) : Int), ((min k vs.toArray.size : Nat) : Int), 1) := by
    simp only [sliceBounds, Option.getD_none, show (1 : Int) > 0 by decide, if_true, if_neg (show ¬ ((k : Int) < 0) by omega)]
    congr 1
    congr 1
    omega
  rw [kmk_pick_nat _ e]
  show (vs.drop 0).take (min k vs.toArray.size - 0) = _
  rw [List.size_toArray, List.drop_zero, Nat.sub_zero]
  by_cases h : k ≤ vs.length
  · rw [Nat.min_eq_left h]
  · rw [Nat.min_eq_right (by omega), List.take_of_length_le (Nat.le_refl _), List.take_of_length_le (by omega)]
section
variable {prog : Program} {w : World} {A : Around} {E : Value → Shared → Prop} {s : Shared} {h₀ : Heap} {L t : Addr} {m : Str → Option Value} {news : List (Addr × Obj)} {vs : List Value} {n : Nat} {value slice : PySem.Expr} {Q : Value → Shared → Prop}
theorem sliceToI_M {a : Int} {kt : Tok} (F : Fr h₀ L s.heap m) (N : News h₀ L s.heap news) (hp : (t, W.listOf vs.toArray n) ∈ news) (hz : vs.length ≤ 1000000) (ha : 0 ≤ a)
    (h : ∀ D h', Fr h₀ L h' m → News h₀ L h' ((D, W.listOf (vs.take a.toNat).toArray 0) :: news) → (∀ p ∈ news, p.1 < D) → Q (.ref D) { s with heap := h' })
    (hs : subscripted slice false (.ref t) (.ref s.heap.objs.size) = operate [.ref s.heap.objs.size, .ref t] (getItem (.ref t) (.ref s.heap.objs.size))) (ht : ∀ r, letTemporaryGo value (.ref t) r = pure ()) :
    wpAny (model prog w) A (subscriptTail value slice (.ref t) (.ref s.heap.objs.size)) Q E { s with heap := s.heap.push { cls := .type "slice", data := .fields #[.none, .int a kt, .none] } } := by
  refine park fun P9 k9 => ?_
  obtain ⟨a, rfl⟩ := Int.eq_ofNat_of_zero_le ha
  refine k9 ?_
  clear k9 P9
  exact kmk_slice_lit F N ⟨_, (N _ hp).1, rfl, _, rfl⟩ .none (.int _ _) (pick_to vs a) h hs ht (by rw [List.size_toArray]; exact seven_le hz)
end
end
section
/-! ### a tuple of texts, sorted -/
section
variable {prog : Program} {w : World} {A : Around} {E : Value → Shared → Prop} {s : Shared}
theorem collect_tup {l : Addr} {vs : List Value} {Q : List Value → Shared → Prop} (hl : IsTup s.heap l vs.toArray)
    (h : Q vs { s with heap := (s.heap.push (seqObj "list" #[] 0)).update s.heap.objs.size (Obj.mapSeq (· ++ vs.toArray)) }) (hsz : vs.length ≤ sizeLine := by size_fits) :
    wpAny (model prog w) A (collect (.ref l)) Q E s := by
  refine park fun P9 k9 => ?_
  obtain ⟨o, ho, hc, n, hd⟩ := id hl
  refine k9 ?_
  clear k9 P9
  unfold collect
  refine wpAny_bind (wpAny_runValue (codeAny_builtin entry_proto_collect' ?_))
  show wpAny _ _ (do again (.builtin "list.__iadd__" ⟨[← newList [], .ref l], []⟩)) _ _ s
  refine wpAny_bind (wpAny_newList (wpAny_pure ⟨Code.quiet_builtin _ (by decide +kernel), codeAny_builtin entry_list_iadd' ?_⟩))
  show wpAny _ _ (Builtin.List.listExtendWith (.ref s.heap.objs.size) (.ref l) (.ref s.heap.objs.size)) _ _ { s with heap := s.heap.push (seqObj "list" #[] 0) }
  unfold Builtin.List.listExtendWith
  have ho' : (s.heap.push (seqObj "list" #[] 0)).get? l = some o := Heap.get?_push_of_some _ ho
  refine wpAny_bind (wpAny_typeOf (T := "tuple") ⟨o, ho', hc⟩ ?_)
  have ht : (Value.type "tuple" == Value.type "tuple") = true := by rfl
  rw [if_pos (by rw [ht]; simp)]
  refine wpAny_bind (listItems_at ho' hd ?_)
  refine wpAny_bind (listItems_at (xs := #[]) (n := 0) (Heap.get?_push_size _ rfl) rfl ?_)
  rw [if_neg (by simp)]
  refine wpAny_bind (listUpdate_at (xs := #[]) (n := 0) (Heap.get?_push_size _ rfl) rfl ?_ (Nat.zero_le _) (by show (#[] ++ vs.toArray).size ≤ sizeLine + 1; simp only [Array.size_append, List.size_toArray, List.length_nil]; omega))
  refine wpAny_pure ?_
  show wpAny (model prog w) A (do
      let o ← load s.heap.objs.size
      match o.data with
      | .seq xs _ => pure xs.toList
      | _ => unsupported "internal:collect") Q E { s with heap := (s.heap.push (seqObj "list" #[] 0)).update s.heap.objs.size (Obj.mapSeq (· ++ vs.toArray)) }
  refine wpAny_bind (wpAny_load (get?_update_seq (Heap.get?_push_size _ rfl) _) ?_)
  show wpAny _ _ (pure ((#[] : Array Value) ++ vs.toArray).toList) Q E _
  rw [show ((#[] : Array Value) ++ vs.toArray).toList = vs by simp]
  exact wpAny_pure h
theorem sortedK_tup {κ : KeyKind} (hO : κ.OneLt) {l : Addr} {vs : List Value} {Q : Value → Shared → Prop} (hl : IsTup s.heap l vs.toArray) (h0 : KeysOf κ (pairsOf vs)) (hkk : ∀ v₁ v₂ rest, vs = v₁ :: v₂ :: rest → keyKind' (v₁ :: v₂ :: rest).toArray = pure oneType') (h64 : vs.length < 64)
    (h : ∀ st' : SortSt, (arrOf st').Perm (pairsOf vs) → SortedToK κ (arrOf st') (pairsOf vs).size → Q (.ref (s.heap.objs.size + 1)) { s with heap := sortedAll s.heap vs ((arrOf st').map (·.2)) }) :
    wpAny (model prog w) A (call (.builtin "sorted") [.ref l]) Q E s := by
  refine Calls.call_function_entry kind_sorted plain_sorted entry_sorted (args_sorted1 _) ?_
  unfold Builtin.«sorted»
  refine wpAny_bind (m := checkCount "sorted" 1 1 _) (wpAny_pure ?_)
  refine wpAny_bind (collect_tup hl ?_ (by rw [sizeLine_eq]; omega))
  refine wpAny_bind (wpAny_newList ?_)
  have hsz : ((s.heap.push (seqObj "list" #[] 0)).update s.heap.objs.size (Obj.mapSeq (· ++ vs.toArray))).objs.size = s.heap.objs.size + 1 := by
    rw [Heap.size_update, size_push']
  have hoL : (((s.heap.push (seqObj "list" #[] 0)).update s.heap.objs.size (Obj.mapSeq (· ++ vs.toArray))).push (seqObj "list" vs.toArray 0)).get? (s.heap.objs.size + 1) = some (seqObj "list" vs.toArray 0) := by
    rw [← hsz]; exact Heap.get?_push_size _ rfl
  show wpAny _ _ _ _ _ { s with heap := ((s.heap.push (seqObj "list" #[] 0)).update s.heap.objs.size (Obj.mapSeq (· ++ vs.toArray))).push (seqObj "list" vs.toArray 0) }
  rw [hsz]
  refine wpAny_bind (wpAny_holding (wpAny_call_entry slot_list_sort ⟨_, hoL, rfl⟩ entry_list_sort (list_sort_treeK hO hoL h0 hkk h64 fun st' a1 a2 => ⟨_, rfl, ?_⟩) (args_list_sort _)))
  exact wpAny_pure ⟨_, rfl, h st' a1 a2⟩
theorem sortedT_M {h₀ : Heap} {L : Addr} {m : Str → Option Value} {news : List (Addr × Obj)} {l : Addr} {vs : List Value} {ss : List Str} {n : Nat} {Q : Value → Shared → Prop}
    (F : Fr h₀ L s.heap m) (N : News h₀ L s.heap news) (hm : (l, tupOf vs.toArray n) ∈ news) (hS : StrsAre vs ss) (h64 : vs.length < 64)
    (h : ∀ D vs' ss' c h', Fr h₀ L h' m → News h₀ L h' ((D, W.listOf vs'.toArray c) :: news) → (∀ q ∈ news, q.1 < D) → StrsAre vs' ss' → ss'.Perm ss → sortedS ss' = true → Q (.ref D) { s with heap := h' }) :
    wpAny (model prog w) A (call (.builtin "sorted") [.ref l]) Q E s := by
  refine sortedK_tup strKind_oneLt (News.isTup N hm) hS.keysOf (fun v₁ v₂ rest e => keyKind_strs (by rw [← e]; exact hS)) h64 fun st' hp hs => ?_
  refine park fun P9 k9 => ?_
  obtain ⟨ss', h1, h2, h3⟩ := sorted_out_str hS hp hs
  obtain ⟨e, he⟩ := sortedAll_at s.heap vs ((arrOf st').map (·.2))
  refine k9 ?_
  clear k9 P9
  exact h _ ((arrOf st').map (·.2)).toList ss' e _ (F.kept fun _ _ => sortedAll_old) (N.kept_cons F (fun _ _ => sortedAll_old) (Nat.le_succ _) he) (fun p hp => Nat.lt_succ_of_lt (Heap.lt_size (N p hp).1)) h1 h2 h3
theorem sortedL_M {h₀ : Heap} {L : Addr} {m : Str → Option Value} {news : List (Addr × Obj)} {l : Addr} {vs : List Value} {ss : List Str} {n : Nat} {Q : Value → Shared → Prop}
    (F : Fr h₀ L s.heap m) (N : News h₀ L s.heap news) (hm : (l, W.listOf vs.toArray n) ∈ news) (hS : StrsAre vs ss) (h64 : vs.length < 64)
    (h : ∀ D vs' ss' c h', Fr h₀ L h' m → News h₀ L h' ((D, W.listOf vs'.toArray c) :: news) → (∀ q ∈ news, q.1 < D) → StrsAre vs' ss' → ss'.Perm ss → sortedS ss' = true → Q (.ref D) { s with heap := h' }) :
    wpAny (model prog w) A (call (.builtin "sorted") [.ref l]) Q E s :=
  sorted_N_str F N ⟨_, (N _ hm).1, rfl, _, rfl⟩ hS h64 fun h' vs' ss' e F' N' a1 a2 a3 => h _ vs' ss' e h' F' N' (fun p hp => Nat.lt_succ_of_lt (Heap.lt_size (N p hp).1)) a1 a2 a3
end
/-! ### two sorted lists of the same texts are one list -/
theorem risingS_pw : ∀ {r : List Str} {x : Str}, risingS x r = true → (x :: r).Pairwise (fun a b => a.cps.toList ≤ b.cps.toList)
  | [], x, _ => by simp
  | y :: r, x, h => by
    unfold risingS at h
    rw [Bool.and_eq_true, ltCps_eq] at h
    have h1 : x.cps.toList ≤ y.cps.toList := by
      have := h.1
      simp at this
      exact this
    have h2 := risingS_pw h.2
    refine List.pairwise_cons.mpr ⟨fun z hz => ?_, h2⟩
    rcases List.mem_cons.mp hz with rfl | hz
    · exact h1
    · exact List.le_trans h1 (List.rel_of_pairwise_cons h2 hz)
theorem sortedS_pw {l : List Str} (h : sortedS l = true) : l.Pairwise (fun a b => a.cps.toList ≤ b.cps.toList) := by
  cases l with
  | nil => exact .nil
  | cons x r => exact risingS_pw h
theorem sorted_one {l k : List Str} (hl : sortedS l = true) (hk : sortedS k = true) (hp : l.Perm k) : l = k :=
  List.Perm.eq_of_pairwise (fun a b _ _ h1 h2 => str_ext.mpr (List.le_antisymm h1 h2)) (sortedS_pw hl) (sortedS_pw hk) hp
end
section
/-! ### the plain law of the rules -/
noncomputable def mkS (l : List Nat) : Str := ⟨l.toArray⟩
theorem mkS_list (l : List Nat) : (mkS l).cps.toList = l := by simp [mkS]
theorem mkS_of (x : Str) : mkS x.cps.toList = x := by rw [str_ext, mkS_list]
section
variable (N : Str → List Str)
/-- by no step or more -/
inductive Rch : Str → Str → Prop
  | refl (w : Str) : Rch w w
  | step {w v e : Str} : v ∈ N w → Rch v e → Rch w e
noncomputable def EndsOk (w : Str) (l : List Str) : Prop := l.Nodup ∧ ∀ e, e ∈ l ↔ Rch N w e ∧ N e = []
/-- no step can go on for ever -/
noncomputable def Term (w : Str) : Prop := Acc (fun v w => v ∈ N w) w
variable {N}
theorem Rch.trans {a b c : Str} (h : Rch N a b) (h' : Rch N b c) : Rch N a c := by
  induction h with
  | refl => exact h'
  | step hv _ ih => exact .step hv (ih h')
theorem Rch.nil {w e : Str} (h : Rch N w e) (hn : N w = []) : e = w := by
  cases h with
  | refl => rfl
  | step hv _ => rw [hn] at hv; cases hv
theorem Term.next {w v : Str} (h : Term N w) (hv : v ∈ N w) : Term N v := h.inv hv
theorem Term.rch {w v : Str} (h : Term N w) (r : Rch N w v) : Term N v := by
  induction r with
  | refl => exact h
  | step hv _ ih => exact ih (h.next hv)
theorem Term.ends {w : Str} (h : Term N w) : ∃ e, Rch N w e ∧ N e = [] := by
  induction h with
  | intro w _ ih =>
    cases hn : N w with
    | nil => exact ⟨w, .refl w, hn⟩
    | cons v r =>
      refine park fun P9 k9 => ?_
      obtain ⟨e, h1, h2⟩ := ih v (by rw [hn]; exact .head _)
      refine k9 ?_
      clear k9 P9
      exact ⟨e, .step (by rw [hn]; exact .head _) h1, h2⟩
theorem mem_add1 {e : Str} : ∀ {es acc : List Str}, e ∈ es.foldl addNew acc ↔ e ∈ acc ∨ e ∈ es
  | [], acc => by simp
  | x :: r, acc => by
    rw [List.foldl_cons, mem_add1, List.mem_cons]
    unfold addNew
    split
    · rename_i hx
      exact ⟨fun h => h.elim .inl fun h => .inr (.inr h), fun h => h.elim .inl fun h => h.elim (fun e => .inl (e ▸ hx)) .inr⟩
    · rw [List.mem_append, List.mem_singleton, or_assoc]
theorem nod_add1 : ∀ {es acc : List Str}, acc.Nodup → (es.foldl addNew acc).Nodup
  | [], _, h => h
  | x :: r, acc, h => by
    rw [List.foldl_cons]
    refine nod_add1 ?_
    unfold addNew
    split
    · exact h
    · rename_i hx
      rw [List.nodup_append]
      exact ⟨h, by simp, fun a ha b hb e => hx (by rw [← List.mem_singleton.mp hb, ← e]; exact ha)⟩
theorem mem_addF {f : Str → List Str} {e : Str} : ∀ {ks acc : List Str}, e ∈ ks.foldl (fun found one => (f one).foldl addNew found) acc ↔ e ∈ acc ∨ ∃ k ∈ ks, e ∈ f k
  | [], acc => by simp
  | k :: r, acc => by
    rw [List.foldl_cons, mem_addF, mem_add1, or_assoc]
    simp
theorem nod_addF {f : Str → List Str} : ∀ {ks acc : List Str}, acc.Nodup → (ks.foldl (fun found one => (f one).foldl addNew found) acc).Nodup
  | [], _, h => h
  | k :: r, acc, h => by
    rw [List.foldl_cons]
    exact nod_addF (nod_add1 h)
theorem ends_ok {f : Str → List Str} {w : Str} (h : ∀ v ∈ N w, EndsOk N v (f v)) : EndsOk N w (endsOf f w (N w)) := by
  unfold endsOf
  split
  · rename_i hn
    refine ⟨by simp, fun e => ?_⟩
    rw [List.mem_singleton]
    exact ⟨fun h => by subst h; exact ⟨.refl _, hn⟩, fun ⟨h, _⟩ => h.nil hn⟩
  · rename_i hn
    refine ⟨nod_addF List.nodup_nil, fun e => ?_⟩
    rw [mem_addF]
    constructor
    · rintro (h' | ⟨v, hv, h'⟩)
      · cases h'
      · refine park fun P9 k9 => ?_
        obtain ⟨h1, h2⟩ := ((h v hv).2 e).mp h'
        refine k9 ?_
        clear k9 P9
        exact ⟨.step hv h1, h2⟩
    · intro X90
      refine park fun P9 k9 => ?_
      obtain ⟨h1, h2⟩ := X90
      refine k9 ?_
      clear k9 P9
      cases h1 with
      | refl => exact absurd h2 hn
      | step hv h3 => exact .inr ⟨_, hv, ((h _ hv).2 e).mpr ⟨h3, h2⟩⟩
theorem EndsOk.two {w : Str} {l : List Str} (h : EndsOk N w l) : 1 < l.length ↔ ∃ e1 e2, e1 ≠ e2 ∧ (Rch N w e1 ∧ N e1 = []) ∧ Rch N w e2 ∧ N e2 = [] := by
  constructor
  · intro hl
    match l, h, hl with
    | a :: b :: r, h, _ =>
      have hne : a ≠ b := fun e => (List.nodup_cons.mp h.1).1 (e ▸ .head _)
      exact ⟨a, b, hne, (h.2 a).mp (.head _), (h.2 b).mp (.tail _ (.head _))⟩
  · intro X90
    refine park fun P9 k9 => ?_
    obtain ⟨e1, e2, hne, h1, h2⟩ := X90
    refine k9 ?_
    clear k9 P9
    have m1 := (h.2 e1).mpr h1
    have m2 := (h.2 e2).mpr h2
    match l, m1, m2 with
    | [a], m1, m2 => exact absurd ((List.mem_singleton.mp m1).trans (List.mem_singleton.mp m2).symm) hne
    | _ :: _ :: _, _, _ => simp
end
/-! ### steps, as lists -/
theorem nextAt_list {w l r : Str} {k : Nat} (h : k + l.length ≤ w.length) : (nextAt w l r k).cps.toList = w.cps.toList.take k ++ (r.cps.toList ++ w.cps.toList.drop (k + l.length)) := by
  unfold nextAt
  rw [KT.app_list, KT.app_list, slice_upto (by omega) (by omega), slice_from (by omega) (by omega)]
  simp only [List.toList_toArray, Int.toNat_natCast]
  rw [show ((k : Int) + (l.length : Int)).toNat = k + l.length from by omega, List.append_assoc]
theorem mem_nextsTo {w l r v : Str} : ∀ {n : Nat}, v ∈ nextsTo w l r n ↔ ∃ k, k < n ∧ Txt.slice w (some (k : Int)) (some ((k : Int) + (l.length : Int))) = l ∧ v = nextAt w l r k
  | 0 => ⟨fun h => (nomatch h), fun ⟨_, h, _⟩ => absurd h (Nat.not_lt_zero _)⟩
  | n + 1 => by
    unfold nextsTo
    rw [List.mem_append, mem_nextsTo]
    constructor
    · rintro (⟨k, h1, h2⟩ | h)
      · exact ⟨k, Nat.lt_succ_of_lt h1, h2⟩
      · split at h
        · exact ⟨n, Nat.lt_succ_self _, by assumption, List.mem_singleton.mp h⟩
        · cases h
    · intro X90
      refine park fun P9 k9 => ?_
      obtain ⟨k, h1, h2, h3⟩ := X90
      refine k9 ?_
      clear k9 P9
      rcases Nat.lt_succ_iff_lt_or_eq.mp h1 with h | rfl
      · exact .inl ⟨k, h, h2, h3⟩
      · refine .inr ?_
        rw [if_pos h2]
        exact List.mem_singleton.mpr h3
/-- a step -/
noncomputable def Stp (rules : List (Str × Str)) (w v : List Nat) : Prop := ∃ lr ∈ rules, ∃ p s, w = p ++ (lr.1.cps.toList ++ s) ∧ v = p ++ (lr.2.cps.toList ++ s)
theorem nexts_iff {rules : List (Str × Str)} {w v : Str} : v ∈ nextsOf rules w ↔ Stp rules w.cps.toList v.cps.toList := by
  unfold nextsOf
  rw [List.mem_flatMap]
  constructor
  · intro X90
    refine park fun P9 k9 => ?_
    obtain ⟨lr, hm, h⟩ := X90
    obtain ⟨k, h1, h2, rfl⟩ := mem_nextsTo.mp h
    refine k9 ?_
    clear k9 P9
    have hk : k + lr.1.length ≤ w.length := by omega
    rw [str_ext, slice_cut (by omega) (by omega) (by omega)] at h2
    simp only [List.toList_toArray, Int.toNat_natCast] at h2
    rw [show ((k : Int) + (lr.1.length : Int) - (k : Int)).toNat = lr.1.length from by omega] at h2
    refine ⟨lr, hm, w.cps.toList.take k, w.cps.toList.drop (k + lr.1.length), ?_, nextAt_list hk⟩
    rw [← h2]
    unfold cutN
    rw [← List.drop_drop, List.take_append_drop, List.take_append_drop]
  · intro X90
    refine park fun P9 k9 => ?_
    obtain ⟨lr, hm, p, s, h1, h2⟩ := X90
    refine k9 ?_
    clear k9 P9
    refine ⟨lr, hm, mem_nextsTo.mpr ⟨p.length, ?_, ?_, ?_⟩⟩
    · have := congrArg List.length h1
      rw [List.length_append, List.length_append, slen, slen] at this
      omega
    · have hl := congrArg List.length h1
      rw [List.length_append, List.length_append, slen, slen] at hl
      rw [str_ext, slice_cut (by omega) (by omega) (by omega)]
      simp only [List.toList_toArray, Int.toNat_natCast]
      rw [show ((p.length : Int) + (lr.1.length : Int) - (p.length : Int)).toNat = lr.1.length from by omega]
      unfold cutN
      rw [h1, List.drop_left, List.take_left' (slen _)]
    · have hl := congrArg List.length h1
      rw [List.length_append, List.length_append, slen, slen] at hl
      rw [str_ext, nextAt_list (by omega), h2, h1, List.take_left, ← List.drop_drop, List.drop_left, List.drop_left' (slen _)]
section
variable {rules : List (Str × Str)}
theorem Stp.wrap {w v : List Nat} (h : Stp rules w v) (p s : List Nat) : Stp rules (p ++ (w ++ s)) (p ++ (v ++ s)) := by
  refine park fun P9 k9 => ?_
  obtain ⟨lr, hm, p', s', rfl, rfl⟩ := h
  refine k9 ?_
  clear k9 P9
  exact ⟨lr, hm, p ++ p', s' ++ s, by simp, by simp⟩
theorem Rch.wrap {u f : Str} (h : Rch (nextsOf rules) u f) (p s : List Nat) : Rch (nextsOf rules) (mkS (p ++ (u.cps.toList ++ s))) (mkS (p ++ (f.cps.toList ++ s))) := by
  induction h with
  | refl => exact .refl _
  | step hv _ ih => exact .step (nexts_iff.mpr (by rw [mkS_list, mkS_list]; exact (nexts_iff.mp hv).wrap p s)) ih
theorem Term.part {p s : List Nat} {x : Str} (h : Term (nextsOf rules) x) : ∀ {u : Str}, x = mkS (p ++ (u.cps.toList ++ s)) → Term (nextsOf rules) u := by
  induction h with
  | intro x _ ih =>
    rintro u rfl
    refine Acc.intro u fun v hv => ?_
    exact ih (mkS (p ++ (v.cps.toList ++ s))) (nexts_iff.mpr (by rw [mkS_list, mkS_list]; exact (nexts_iff.mp hv).wrap p s)) rfl
/-- a lapped word -/
noncomputable def Lapped (rules : List (Str × Str)) (u : Str) : Prop := ∃ a ∈ rules, ∃ b ∈ rules, ∃ k, 1 ≤ k ∧ LapK b.1.cps.toList a.1.cps.toList k ∧ u.cps.toList = a.1.cps.toList ++ b.1.cps.toList.drop k
noncomputable def TwoEnds (rules : List (Str × Str)) (w : Str) : Prop := ∃ e1 e2, e1 ≠ e2 ∧ (Rch (nextsOf rules) w e1 ∧ nextsOf rules e1 = []) ∧ Rch (nextsOf rules) w e2 ∧ nextsOf rules e2 = []
noncomputable def BadW (rules : List (Str × Str)) (u : Str) : Prop := Lapped rules u ∧ u.length ≤ 4 ∧ Term (nextsOf rules) u ∧ TwoEnds rules u
noncomputable def Infix (b v : Str) : Prop := ∃ p s, v.cps.toList = p ++ (b.cps.toList ++ s)
noncomputable def LedW (rules : List (Str × Str)) (w : Str) : Prop := ∃ v, Rch (nextsOf rules) w v ∧ ∃ b, BadW rules b ∧ Infix b v
theorem LedW.iff {w : Str} : LedW rules w ↔ (∃ b, BadW rules b ∧ Infix b w) ∨ ∃ v ∈ nextsOf rules w, LedW rules v := by
  constructor
  · intro X90
    refine park fun P9 k9 => ?_
    obtain ⟨v, h, hb⟩ := X90
    refine k9 ?_
    clear k9 P9
    cases h with
    | refl => exact .inl hb
    | step hv h => exact .inr ⟨_, hv, _, h, hb⟩
  · rintro (hb | ⟨v, hv, x, h, hb⟩)
    · exact ⟨w, .refl _, hb⟩
    · exact ⟨x, .step hv h, hb⟩
/-- two steps that lap, the first one's left side at p, the second one's as far as the first one's or farther -/
theorem crit_lap {w e1 e2 : Str} (T : Term (nextsOf rules) w) (hw : w.length ≤ 4) {a b : Str × Str} (ha : a ∈ rules) (hb : b ∈ rules) {p1 s1 p2 s2 : List Nat} (w1 : w.cps.toList = p1 ++ (a.1.cps.toList ++ s1)) (w2 : w.cps.toList = p2 ++ (b.1.cps.toList ++ s2))
    (c1 : p1.length ≤ p2.length) (c2 : p2.length < p1.length + a.1.length) (c3 : p1.length + a.1.length ≤ p2.length + b.1.length)
    (u1 : ∀ e, Rch (nextsOf rules) (mkS (p1 ++ (a.2.cps.toList ++ s1))) e → nextsOf rules e = [] → e = e1) (u2 : ∀ e, Rch (nextsOf rules) (mkS (p2 ++ (b.2.cps.toList ++ s2))) e → nextsOf rules e = [] → e = e2) (hne : e1 ≠ e2) : LedW rules w := by
  -- the stretch
  refine park fun P9 k9 => ?_
  obtain ⟨k, hk⟩ : ∃ k, k = p1.length + a.1.length - p2.length := ⟨_, rfl⟩
  refine k9 ?_
  clear k9 P9
  have hla := slen a.1
  have hlb := slen b.1
  have eq := w1.symm.trans w2
  -- p2 is p1 and a beginning of a's left side
  have hp2 : p2 = p1 ++ a.1.cps.toList.take (a.1.length - k) := by
    have h1 := congrArg (List.take p2.length) eq
    rw [List.take_left] at h1
    rw [← h1, List.take_append, List.take_of_length_le c1, List.take_append_of_le_length (by omega)]
    congr 2; omega
  have hlen : a.1.cps.toList ++ s1 = a.1.cps.toList.take (a.1.length - k) ++ (b.1.cps.toList ++ s2) := by
    rw [hp2, List.append_assoc] at eq
    exact List.append_cancel_left eq
  have hsuf : a.1.cps.toList.drop (a.1.length - k) ++ s1 = b.1.cps.toList ++ s2 := by
    have h1 : a.1.cps.toList = a.1.cps.toList.take (a.1.length - k) ++ a.1.cps.toList.drop (a.1.length - k) := (List.take_append_drop _ _).symm
    rw [h1, List.append_assoc] at hlen
    rw [← h1] at hlen
    exact List.append_cancel_left hlen
  have hdl : (a.1.cps.toList.drop (a.1.length - k)).length = k := by rw [List.length_drop]; omega
  have hlap : b.1.cps.toList.take k = a.1.cps.toList.drop (a.1.length - k) := by
    have h1 := congrArg (List.take k) hsuf
    rw [List.take_append_of_le_length (by omega), List.take_of_length_le (by omega), List.take_append_of_le_length (by omega)] at h1
    exact h1.symm
  have hs1 : s1 = b.1.cps.toList.drop k ++ s2 := by
    have h1 := congrArg (List.drop k) hsuf
    rw [List.drop_append_of_le_length (by omega), List.drop_of_length_le (by omega), List.nil_append, List.drop_append_of_le_length (by omega)] at h1
    exact h1
  let u : Str := mkS (a.1.cps.toList ++ b.1.cps.toList.drop k)
  have hu : u.cps.toList = a.1.cps.toList ++ b.1.cps.toList.drop k := mkS_list _
  have hu' : u.cps.toList = a.1.cps.toList.take (a.1.length - k) ++ b.1.cps.toList := by
    rw [hu]
    have h1 : b.1.cps.toList = b.1.cps.toList.take k ++ b.1.cps.toList.drop k := (List.take_append_drop _ _).symm
    rw [h1, hlap, ← List.append_assoc, List.take_append_drop, ← hlap, List.take_append_drop]
  have hwu : w.cps.toList = p1 ++ (u.cps.toList ++ s2) := by rw [w1, hs1, hu, List.append_assoc]
  have hwm : w = mkS (p1 ++ (u.cps.toList ++ s2)) := by rw [← hwu, mkS_of]
  have Tu : Term (nextsOf rules) u := T.part hwm
  have n1 : mkS (a.2.cps.toList ++ b.1.cps.toList.drop k) ∈ nextsOf rules u := nexts_iff.mpr ⟨a, ha, [], b.1.cps.toList.drop k, by rw [hu]; rfl, by rw [mkS_list]; rfl⟩
  have n2 : mkS (a.1.cps.toList.take (a.1.length - k) ++ b.2.cps.toList) ∈ nextsOf rules u := nexts_iff.mpr ⟨b, hb, a.1.cps.toList.take (a.1.length - k), [], by rw [hu', List.append_nil], by rw [mkS_list, List.append_nil]⟩
  refine ⟨w, .refl _, u, ⟨⟨a, ha, b, hb, k, by omega, ⟨by omega, by omega, by rw [hlap, slen]⟩, hu⟩, ?_, Tu, ?_⟩, p1, s2, hwu⟩
  · have := congrArg List.length hwu
    rw [List.length_append, List.length_append, slen, slen] at this
    omega
  · refine park fun P9 k9 => ?_
    obtain ⟨f1, r1, z1⟩ := (Tu.next n1).ends
    obtain ⟨f2, r2, z2⟩ := (Tu.next n2).ends
    refine k9 ?_
    clear k9 P9
    by_cases hf : f1 = f2
    · exfalso
      subst hf
      have g1 := r1.wrap p1 s2
      have g2 := r2.wrap p1 s2
      rw [mkS_list] at g1 g2
      have Tx : Term (nextsOf rules) (mkS (p1 ++ (f1.cps.toList ++ s2))) := by
        refine T.rch (.trans (.step (nexts_iff.mpr ?_) (.refl _)) g1)
        rw [mkS_list]
        have := (nexts_iff.mp n1).wrap p1 s2
        rw [mkS_list] at this
        rw [hwu]; exact this
      refine park fun P9 k9 => ?_
      obtain ⟨e, h1, h2⟩ := Tx.ends
      refine k9 ?_
      clear k9 P9
      have a1 := u1 e (by
        have : p1 ++ (a.2.cps.toList ++ s1) = p1 ++ (a.2.cps.toList ++ b.1.cps.toList.drop k ++ s2) := by rw [hs1]; simp
        rw [this]; exact g1.trans h1) h2
      have a2 := u2 e (by
        have : p2 ++ (b.2.cps.toList ++ s2) = p1 ++ (a.1.cps.toList.take (a.1.length - k) ++ b.2.cps.toList ++ s2) := by rw [hp2]; simp
        rw [this]; exact g2.trans h1) h2
      exact hne (a1.symm.trans a2)
    · exact ⟨f1, f2, hf, ⟨.step n1 r1, z1⟩, .step n2 r2, z2⟩
/-- two steps apart meet -/
theorem crit_apart {w : Str} (T : Term (nextsOf rules) w) {a b : Str × Str} (ha : a ∈ rules) (hb : b ∈ rules) {p1 s1 p2 s2 : List Nat} (w1 : w.cps.toList = p1 ++ (a.1.cps.toList ++ s1)) (w2 : w.cps.toList = p2 ++ (b.1.cps.toList ++ s2))
    (c : p1.length + a.1.length ≤ p2.length) : ∃ e, Rch (nextsOf rules) (mkS (p1 ++ (a.2.cps.toList ++ s1))) e ∧ Rch (nextsOf rules) (mkS (p2 ++ (b.2.cps.toList ++ s2))) e ∧ nextsOf rules e = [] := by
  have hla := slen a.1
  have eq := w1.symm.trans w2
  refine park fun P9 k9 => ?_
  obtain ⟨m, hp2⟩ : ∃ m, p2 = p1 ++ (a.1.cps.toList ++ m) := by
    refine ⟨p2.drop (p1.length + a.1.length), ?_⟩
    have h1 := congrArg (List.take (p1.length + a.1.length)) eq
    rw [List.take_append_of_le_length c, ← List.append_assoc, List.take_left' (by rw [List.length_append, hla])] at h1
    rw [← List.append_assoc, h1, List.take_append_drop]
  have hs1 : s1 = m ++ (b.1.cps.toList ++ s2) := by
    rw [hp2] at eq
    simp only [List.append_assoc] at eq
    exact List.append_cancel_left (List.append_cancel_left eq)
  have k1 : mkS (p1 ++ (a.2.cps.toList ++ (m ++ (b.2.cps.toList ++ s2)))) ∈ nextsOf rules (mkS (p1 ++ (a.2.cps.toList ++ s1))) :=
    nexts_iff.mpr ⟨b, hb, p1 ++ (a.2.cps.toList ++ m), s2, by rw [mkS_list, hs1]; simp, by rw [mkS_list]; simp⟩
  have k2 : mkS (p1 ++ (a.2.cps.toList ++ (m ++ (b.2.cps.toList ++ s2)))) ∈ nextsOf rules (mkS (p2 ++ (b.2.cps.toList ++ s2))) :=
    nexts_iff.mpr ⟨a, ha, p1, m ++ (b.2.cps.toList ++ s2), by rw [mkS_list, hp2]; simp, by rw [mkS_list]⟩
  have Tv : Term (nextsOf rules) (mkS (p1 ++ (a.2.cps.toList ++ s1))) := T.next (nexts_iff.mpr ⟨a, ha, p1, s1, w1, by rw [mkS_list]⟩)
  obtain ⟨e, h1, h2⟩ := (Tv.next k1).ends
  refine k9 ?_
  clear k9 P9
  exact ⟨e, .step k1 h1, .step k2 h1, h2⟩
/-- Newman, Knuth and Bendix: a word with two ends leads to a lapped word with two ends -/
theorem crit (hr : ∀ lr ∈ rules, RuleOk lr) {w : Str} (T : Term (nextsOf rules) w) : w.length ≤ 4 → TwoEnds rules w → LedW rules w := by
  induction T with
  | intro w acc ih =>
    intro hw ht
    have T : Term (nextsOf rules) w := Acc.intro w acc
    by_cases hx : ∃ v ∈ nextsOf rules w, TwoEnds rules v
    · refine park fun P9 k9 => ?_
      obtain ⟨v, hv, h2⟩ := hx
      refine k9 ?_
      clear k9 P9
      have hvl : v.length ≤ 4 := by
        refine park fun P9 k9 => ?_
        obtain ⟨lr, hm, p, s, h3, h4⟩ := nexts_iff.mp hv
        refine k9 ?_
        clear k9 P9
        have e3 := congrArg List.length h3
        have e4 := congrArg List.length h4
        simp only [List.length_append, slen] at e3 e4
        have := (hr lr hm).rl
        omega
      exact LedW.iff.mpr (.inr ⟨v, hv, ih v hv hvl h2⟩)
    · have one : ∀ v ∈ nextsOf rules w, ∀ e e', Rch (nextsOf rules) v e → nextsOf rules e = [] → Rch (nextsOf rules) v e' → nextsOf rules e' = [] → e = e' := fun v hv e e' h1 h2 h3 h4 =>
        Classical.byContradiction fun hne => hx ⟨v, hv, e, e', hne, ⟨h1, h2⟩, h3, h4⟩
      refine park fun P9 k9 => ?_
      obtain ⟨e1, e2, hne, ⟨r1, z1⟩, r2, z2⟩ := ht
      refine k9 ?_
      clear k9 P9
      cases r1 with
      | refl => exact absurd (r2.nil z1).symm hne
      | step hv1 r1 =>
        cases r2 with
        | refl => exact absurd (Rch.nil (.step hv1 r1) z2) hne
        | step hv2 r2 =>
          rename_i v1 v2
          refine park fun P9 k9 => ?_
          obtain ⟨a, ha, p1, s1, w1, x1⟩ := nexts_iff.mp hv1
          obtain ⟨b, hb, p2, s2, w2, x2⟩ := nexts_iff.mp hv2
          refine k9 ?_
          clear k9 P9
          have y1 : v1 = mkS (p1 ++ (a.2.cps.toList ++ s1)) := by rw [← x1, mkS_of]
          have y2 : v2 = mkS (p2 ++ (b.2.cps.toList ++ s2)) := by rw [← x2, mkS_of]
          subst y1; subst y2
          have u1 := fun e h1 h2 => one _ hv1 e e1 h1 h2 r1 z1
          have u2 := fun e h1 h2 => one _ hv2 e e2 h1 h2 r2 z2
          have qa := hr a ha
          have qb := hr b hb
          have := qa.l2
          have := qa.l3
          have := qb.l2
          have := qb.l3
          rcases Nat.lt_or_ge p2.length (p1.length + a.1.length) with c1 | c1
          · rcases Nat.lt_or_ge p1.length (p2.length + b.1.length) with c2 | c2
            · by_cases c3 : p1.length ≤ p2.length ∧ p1.length + a.1.length ≤ p2.length + b.1.length
              · exact crit_lap T hw ha hb w1 w2 c3.1 c1 c3.2 u1 u2 hne
              · exact crit_lap T hw hb ha w2 w1 (by omega) c2 (by omega) u2 u1 hne.symm
            · refine park fun P9 k9 => ?_
              obtain ⟨e, h1, h2, h3⟩ := crit_apart T hb ha w2 w1 c2
              refine k9 ?_
              clear k9 P9
              exact absurd ((u1 e h2 h3).symm.trans (u2 e h1 h3)) hne
          · refine park fun P9 k9 => ?_
            obtain ⟨e, h1, h2, h3⟩ := crit_apart T ha hb w1 w2 c1
            refine k9 ?_
            clear k9 P9
            exact absurd ((u1 e h1 h3).symm.trans (u2 e h2 h3)) hne
end
end
section
/-! ### lapped words, plain -/
noncomputable def chainK (l : List Nat) (k : Nat) : List Nat := if h : 0 < k then k :: chainK l (bd l k) else []
termination_by k
decreasing_by exact bd_lt h
theorem chainK_zero (l : List Nat) : chainK l 0 = [] := by rw [chainK]; simp
theorem chainK_pos {l : List Nat} {k : Nat} (h : 0 < k) : chainK l k = k :: chainK l (bd l k) := by rw [chainK]; simp [h]
theorem chainK_len (l : List Nat) (k : Nat) : (chainK l k).length ≤ k := by
  induction k using Nat.strongRecOn with
  | ind k ih =>
    rcases Nat.eq_zero_or_pos k with rfl | h
    · rw [chainK_zero]; exact Nat.le_refl _
    · rw [chainK_pos h, List.length_cons]
      have := ih _ (bd_lt (l := l) h)
      have := bd_lt (l := l) h
      lia
theorem chainK_mem {l : List Nat} {m : Nat} : ∀ {j : Nat}, 0 < j → (m ∈ chainK l (bd l j) ↔ 1 ≤ m ∧ isB l j m) := by
  intro j
  induction j using Nat.strongRecOn with
  | ind j ih =>
    intro hj
    have h1 := bd_is (l := l) hj
    rcases Nat.eq_zero_or_pos (bd l j) with h0 | h
    · rw [h0, chainK_zero]
      refine ⟨fun h => (nomatch h), fun ⟨a, b⟩ => ?_⟩
      have := bd_max b
      lia
    · rw [chainK_pos h, List.mem_cons, ih _ (bd_lt hj) h]
      constructor
      · rintro (rfl | ⟨a, b⟩)
        · exact ⟨h, h1⟩
        · exact ⟨a, h1.trans b⟩
      · intro X90
        refine park fun P9 k9 => ?_
        obtain ⟨a, b⟩ := X90
        refine k9 ?_
        clear k9 P9
        rcases Nat.lt_or_eq_of_le (bd_max b) with c | c
        · exact .inr ⟨a, h1.down b c⟩
        · exact .inl c
noncomputable def lapPairs (one other : Str) : List (Str × Str) := (chainK (other.cps.toList ++ 124 :: one.cps.toList) (lapN other.cps.toList one.cps.toList)).map fun (k : Nat) => (one ++ Txt.slice other (some (k : Int)) none, other)
noncomputable def lappedOf (lefts : List Str) : List (Str × Str) := lefts.flatMap fun one => lefts.flatMap fun other => lapPairs one other
theorem bar_abS {x : Str} (h : abS x) : 124 ∉ x.cps.toList := fun hm => by
  rcases h _ hm with e | e <;> exact absurd e (by decide)
theorem lapN_le (b f : List Nat) : lapN b f ≤ b.length + f.length := by
  have := bd_lt (l := b ++ 124 :: f) (j := b.length + 1 + f.length) (by lia)
  unfold lapN
  lia
theorem lapPairs_len (one other : Str) : (lapPairs one other).length ≤ one.length + other.length := by
  unfold lapPairs
  rw [List.length_map]
  have h1 := chainK_len (other.cps.toList ++ 124 :: one.cps.toList) (lapN other.cps.toList one.cps.toList)
  have h2 := lapN_le other.cps.toList one.cps.toList
  rw [slen, slen] at h2
  lia
theorem flat_len {α β : Type} (f : α → List β) (b : Nat) : ∀ l : List α, (∀ x ∈ l, (f x).length ≤ b) → (l.flatMap f).length ≤ l.length * b
  | [], _ => by simp
  | x :: r, h => by
    rw [List.flatMap_cons, List.length_append, List.length_cons, Nat.succ_mul]
    have := flat_len f b r fun y hy => h y (.tail _ hy)
    have := h x (.head _)
    lia
theorem mem_lapped {rules : List (Str × Str)} (hr : ∀ lr ∈ rules, RuleOk lr) {u t : Str} : (u, t) ∈ lappedOf (rules.map (·.1)) ↔ ∃ a ∈ rules, ∃ b ∈ rules, ∃ k, 1 ≤ k ∧ LapK b.1.cps.toList a.1.cps.toList k ∧ u = a.1 ++ Txt.slice b.1 (some (k : Int)) none ∧ t = b.1 := by
  unfold lappedOf
  rw [List.mem_flatMap]
  constructor
  · intro X90
    refine park fun P9 k9 => ?_
    obtain ⟨one, ho, h⟩ := X90
    obtain ⟨a, ha, rfl⟩ := List.mem_map.mp ho
    obtain ⟨other, ho2, h⟩ := List.mem_flatMap.mp h
    obtain ⟨b, hb, rfl⟩ := List.mem_map.mp ho2
    obtain ⟨k, hk, e⟩ := List.mem_map.mp h
    refine k9 ?_
    clear k9 P9
    unfold lapN at hk
    refine park fun P9 k9 => ?_
    obtain ⟨h1, h2⟩ := (chainK_mem (by lia)).mp hk
    refine k9 ?_
    clear k9 P9
    cases e
    exact ⟨a, ha, b, hb, k, h1, (isB_lap (bar_abS (hr b hb).la) (bar_abS (hr a ha).la)).mp h2, rfl, rfl⟩
  · intro X90
    refine park fun P9 k9 => ?_
    obtain ⟨a, ha, b, hb, k, h1, h2, rfl, rfl⟩ := X90
    refine k9 ?_
    clear k9 P9
    refine ⟨a.1, List.mem_map.mpr ⟨a, ha, rfl⟩, List.mem_flatMap.mpr ⟨b.1, List.mem_map.mpr ⟨b, hb, rfl⟩, List.mem_map.mpr ⟨k, ?_, rfl⟩⟩⟩
    unfold lapN
    exact (chainK_mem (by lia)).mpr ⟨h1, (isB_lap (bar_abS (hr b hb).la) (bar_abS (hr a ha).la)).mpr h2⟩
theorem lapped_list {a b : Str} {k : Nat} (hk : k ≤ b.length) : (a ++ Txt.slice b (some (k : Int)) none).cps.toList = a.cps.toList ++ b.cps.toList.drop k := by
  rw [KT.app_list, slice_from (by lia) (by lia)]
  simp
theorem lapped_iff {rules : List (Str × Str)} (hr : ∀ lr ∈ rules, RuleOk lr) {u : Str} : Lapped rules u ↔ ∃ t, (u, t) ∈ lappedOf (rules.map (·.1)) := by
  constructor
  · intro X90
    refine park fun P9 k9 => ?_
    obtain ⟨a, ha, b, hb, k, h1, h2, h3⟩ := X90
    refine k9 ?_
    clear k9 P9
    refine ⟨b.1, (mem_lapped hr).mpr ⟨a, ha, b, hb, k, h1, h2, ?_, rfl⟩⟩
    have hkl := h2.1
    rw [slen] at hkl
    rw [str_ext, lapped_list hkl, h3]
  · intro X90
    refine park fun P9 k9 => ?_
    obtain ⟨t, h⟩ := X90
    obtain ⟨a, ha, b, hb, k, h1, h2, rfl, rfl⟩ := (mem_lapped hr).mp h
    refine k9 ?_
    clear k9 P9
    have hkl := h2.1
    rw [slen] at hkl
    exact ⟨a, ha, b, hb, k, h1, h2, lapped_list hkl⟩
/-- a lapped word ends with the second left side -/
theorem lapped_tail {rules : List (Str × Str)} (hr : ∀ lr ∈ rules, RuleOk lr) {u t : Str} (h : (u, t) ∈ lappedOf (rules.map (·.1))) : ∃ p, u.cps.toList = p ++ t.cps.toList := by
  refine park fun P9 k9 => ?_
  obtain ⟨a, ha, b, hb, k, h1, h2, rfl, rfl⟩ := (mem_lapped hr).mp h
  obtain ⟨g1, g2, g3⟩ := h2
  refine k9 ?_
  clear k9 P9
  rw [slen] at g1 g2
  refine ⟨a.1.cps.toList.take (a.1.length - k), ?_⟩
  rw [lapped_list g1]
  have e1 : a.1.cps.toList = a.1.cps.toList.take (a.1.length - k) ++ a.1.cps.toList.drop (a.1.length - k) := (List.take_append_drop _ _).symm
  have e2 : b.1.cps.toList = b.1.cps.toList.take k ++ b.1.cps.toList.drop k := (List.take_append_drop _ _).symm
  rw [slen] at g3
  rw [e2, g3, ← List.append_assoc, ← e1, ← g3, ← e2]
theorem getD_last {ms : List Int} {z : Int} : (ms ++ [z]).getD (-1 + ((ms ++ [z]).length : Int)).toNat 0 = z := by
  have e : (-1 + ((ms ++ [z]).length : Int)).toNat = ms.length := by rw [List.length_append, List.length_singleton]; lia
  rw [e]; simp [List.getD]
theorem tabOf_at {l : List Nat} {k : Nat} (h0 : 0 < k) (hk : k ≤ l.length) : (tabOf l).getD ((k : Int) - 1).toNat 0 = (bd l k : Int) := by
  rw [show ((k : Int) - 1).toNat = k - 1 from by lia, ← tabTo_all l (Nat.le_refl _), List.getD_eq_getElem?_getD, tabTo_at (by lia) (by lia), show k - 1 + 1 = k from by lia]
  rfl
theorem take_flat {α β : Type} {f : α → List β} {l : List α} {i : Nat} {a : α} (h : l[i]? = some a) : (l.take (i + 1)).flatMap f = (l.take i).flatMap f ++ f a := by
  rw [List.take_add_one, h, List.flatMap_append]
  simp
end
section
/-! ### a text within a text -/
theorem sub_true {x y : Str} {p s : List Nat} (h : x.cps.toList = p ++ (y.cps.toList ++ s)) : Builtin.Str.subAt x y p.length = true := by
  unfold Builtin.Str.subAt
  rw [beq_iff_eq, ← Array.toList_inj, Array.toList_extract, h]
  show List.extract _ _ _ = _
  rw [List.extract_eq_take_drop, List.drop_left, show p.length + y.length - p.length = y.cps.toList.length from by rw [slen]; lia, List.take_left]
theorem ends_true {x y : Str} {p : List Nat} (h : x.cps.toList = p ++ y.cps.toList) : Txt.endswith x y = true := by
  have hl := congrArg List.length h
  rw [List.length_append, slen, slen] at hl
  unfold Txt.endswith
  rw [show x.length - y.length = p.length from by lia, sub_true (s := []) (by rw [h]; simp)]
  simp; lia
noncomputable def occStep (x y : Str) (n : Nat) (i : Nat) (s : Array Nat × Nat) : Id (ForInStep (Array Nat × Nat)) :=
  if (decide (s.fst.size < 1) && decide (s.snd ≤ i) && decide (i + y.length ≤ n) && Builtin.Str.subAt x y i) = true then pure (ForInStep.yield (s.fst.push i, i + y.length)) else pure (ForInStep.yield (s.fst, s.snd))
theorem occ_loop {x y : Str} {i0 n : Nat} (hs : Builtin.Str.subAt x y i0 = true) (hl : i0 + y.length ≤ n) : ∀ (l : List Nat) (st : Array Nat × Nat), (i0 ∈ l ∧ st.2 = 0 ∧ st.1.size = 0) ∨ 0 < st.1.size →
    0 < (Id.run (forIn l st (occStep x y n))).1.size
  | [], st, h => by
    rcases h with ⟨h, _⟩ | h
    · cases h
    · exact h
  | i :: r, st, h => by
    rw [List.forIn_cons]
    unfold occStep
    by_cases hc : (decide (st.fst.size < 1) && decide (st.snd ≤ i) && decide (i + y.length ≤ n) && Builtin.Str.subAt x y i) = true
    · rw [if_pos hc]
      exact occ_loop hs hl r _ (.inr (by simp))
    · rw [if_neg hc]
      refine occ_loop hs hl r _ ?_
      rcases h with ⟨hm, h2, h3⟩ | h
      · rcases List.mem_cons.mp hm with rfl | hm
        · exact absurd (by rw [h2, h3, hs]; simp [hl]) hc
        · exact .inl ⟨hm, h2, h3⟩
      · exact .inr h
theorem occ_ne {x y : Str} {p s : List Nat} (h : x.cps.toList = p ++ (y.cps.toList ++ s)) : (Builtin.Str.occurrences x y 0 x.length 1).isEmpty = false := by
  have hl := congrArg List.length h
  rw [List.length_append, List.length_append, slen, slen] at hl
  have key := occ_loop (n := x.length) (sub_true h) (by lia) (List.range' 0 [:x.length + 1].size) ((#[] : Array Nat), 0) (.inl ⟨by simp [Std.Legacy.Range.size]; lia, rfl, rfl⟩)
  unfold Builtin.Str.occurrences
  simp only [Std.Legacy.Range.forIn_eq_forIn_range']
  have e : ∀ a : Array Nat, 0 < a.size → a.toList.isEmpty = false := fun a ha => by
    rw [List.isEmpty_eq_false_iff]
    intro hn
    have := congrArg List.length hn
    simp at this
    rw [this] at ha
    exact absurd ha (by decide)
  exact e _ key
end
section
/-! ### rounds, plain -/
section
variable (words : List Str) (N : Str → List Str)
noncomputable def rowOf (D : List Str) : List Str := words.filter fun w => decide (w ∉ D) && decide (∀ q ∈ N w, q ∈ D)
/-- sorted rounds -/
noncomputable def RdL (xss : List (List Str)) : Prop := ∀ (i : Nat) (ys : List Str), xss[i]? = some ys → ys ≠ [] ∧ sortedS ys = true ∧ ys.Perm (rowOf words N (xss.take i).flatten)
variable {words N}
theorem mem_rowOf {D : List Str} {w : Str} : w ∈ rowOf words N D ↔ w ∈ words ∧ w ∉ D ∧ ∀ q ∈ N w, q ∈ D := by
  unfold rowOf; rw [List.mem_filter, Bool.and_eq_true, decide_eq_true_iff, decide_eq_true_iff]
theorem rowOf_congr {D D' : List Str} (h : ∀ k, k ∈ D ↔ k ∈ D') : rowOf words N D = rowOf words N D' := by
  unfold rowOf
  refine List.filter_congr fun w _ => ?_
  rw [decide_eq_decide.mpr (not_congr (h w)), decide_eq_decide.mpr (forall_congr' fun q => imp_congr_right fun _ => h q)]
theorem RdL.nil : RdL words N [] := fun i ys h => by simp at h
theorem RdL.snoc {xss : List (List Str)} {ys D : List Str} (h : RdL words N xss) (hD : ∀ k, k ∈ D ↔ k ∈ xss.flatten) (hne : ys ≠ []) (hs : sortedS ys = true) (hp : ys.Perm (rowOf words N D)) : RdL words N (xss ++ [ys]) := by
  intro i zs hz
  rcases Nat.lt_trichotomy i xss.length with h1 | h1 | h1
  · rw [List.getElem?_append_left h1] at hz
    rw [List.take_append_of_le_length (by omega)]
    exact h i zs hz
  · subst h1
    rw [List.getElem?_append_right (Nat.le_refl _), Nat.sub_self] at hz
    obtain rfl : ys = zs := by simpa using hz
    rw [List.take_left]
    exact ⟨hne, hs, by rw [← rowOf_congr hD]; exact hp⟩
  · have := (List.getElem?_eq_some_iff.mp hz).1
    rw [List.length_append, List.length_singleton] at this
    omega
theorem RdL.same {xss yss : List (List Str)} (h : RdL words N xss) (h' : RdL words N yss) : ∀ n, n ≤ xss.length → n ≤ yss.length → xss.take n = yss.take n
  | 0, _, _ => rfl
  | n + 1, h1, h2 => by
    have ih := h.same h' n (by omega) (by omega)
    have e1 : xss[n]? = some xss[n] := List.getElem?_eq_getElem (by omega)
    have e2 : yss[n]? = some yss[n] := List.getElem?_eq_getElem (by omega)
    refine park fun P9 k9 => ?_
    obtain ⟨_, a2, a3⟩ := h _ _ e1
    obtain ⟨_, b2, b3⟩ := h' _ _ e2
    refine k9 ?_
    clear k9 P9
    rw [List.take_add_one, List.take_add_one, e1, e2, ih, sorted_one a2 b2 (a3.trans (by rw [ih]; exact b3.symm))]
theorem RdL.short {xss yss : List (List Str)} (h : RdL words N xss) (h' : RdL words N yss) (c : rowOf words N xss.flatten = []) : yss.length ≤ xss.length := by
  rcases Nat.lt_or_ge xss.length yss.length with hl | hl
  · exfalso
    have e := h.same h' xss.length (Nat.le_refl _) (by omega)
    rw [List.take_length] at e
    refine park fun P9 k9 => ?_
    obtain ⟨b1, _, b3⟩ := h' _ _ (List.getElem?_eq_getElem hl)
    refine k9 ?_
    clear k9 P9
    rw [← e, c] at b3
    exact b1 b3.eq_nil
  · exact hl
/-- the rounds are one list -/
theorem RdL.one {xss yss : List (List Str)} (h : RdL words N xss) (h' : RdL words N yss) (c : rowOf words N xss.flatten = []) (c' : rowOf words N yss.flatten = []) : xss = yss := by
  have h1 := h.short h' c
  have h2 := h'.short h c'
  have e := h.same h' xss.length (Nat.le_refl _) h2
  rw [List.take_length, List.take_of_length_le h1] at e
  exact e
theorem RdL.term {xss : List (List Str)} (h : RdL words N xss) : ∀ n, ∀ w ∈ (xss.take n).flatten, w ∈ words ∧ Term N w
  | 0, w, hw => by simp at hw
  | n + 1, w, hw => by
    rw [List.take_add_one, List.flatten_append, List.mem_append] at hw
    rcases hw with hw | hw
    · exact h.term n w hw
    · cases e : xss[n]? with
      | none => rw [e] at hw; simp at hw
      | some ys =>
        rw [e] at hw
        have hw : w ∈ ys := by simpa using hw
        refine park fun P9 k9 => ?_
        obtain ⟨_, _, a3⟩ := h _ _ e
        obtain ⟨m1, _, m3⟩ := mem_rowOf.mp (a3.mem_iff.mp hw)
        refine k9 ?_
        clear k9 P9
        exact ⟨m1, Acc.intro w fun v hv => (h.term n v (m3 v hv)).2⟩
theorem RdL.mem {xss : List (List Str)} (h : RdL words N xss) {w : Str} (hw : w ∈ xss.flatten) : w ∈ words ∧ Term N w := h.term xss.length w (by rw [List.take_length]; exact hw)
theorem row_all {D : List Str} (c : rowOf words N D = []) (cl : ∀ w ∈ words, ∀ q ∈ N w, q ∈ words) {w : Str} (T : Term N w) : w ∈ words → w ∈ D := by
  induction T with
  | intro w _ ih =>
    intro hw
    refine Classical.byContradiction fun h => ?_
    have : w ∈ rowOf words N D := mem_rowOf.mpr ⟨hw, h, fun q hq => ih q hq (cl w hw q hq)⟩
    rw [c] at this
    cases this
theorem ring_term {sc : Str → List Str} {told : List Str} (r : Ring (sc := sc) told) (hs : ∀ a ∈ told, ∀ b ∈ sc a, a ∈ N b) : ∀ w ∈ told, ¬ Term N w := by
  refine park fun P9 k9 => ?_
  obtain ⟨c, mid, rfl, _, hr⟩ := r
  refine k9 ?_
  clear k9 P9
  have step : ∀ (i : Nat) (b : Str), (c :: mid ++ [c])[i + 1]? = some b → ∃ p ∈ c :: mid ++ [c], p ∈ N b := fun i b hb => by
    have hi := (List.getElem?_eq_some_iff.mp hb).1
    have hx : (c :: mid ++ [c])[i]? = some ((c :: mid ++ [c])[i]'(by omega)) := List.getElem?_eq_getElem _
    have hm := List.mem_of_getElem? hx
    exact ⟨_, hm, hs _ hm b (hr i _ b hx hb)⟩
  have pre : ∀ w ∈ c :: mid ++ [c], ∃ p ∈ c :: mid ++ [c], p ∈ N w := fun w hw => by
    refine park fun P9 k9 => ?_
    obtain ⟨i, hi, e⟩ := List.getElem_of_mem hw
    refine k9 ?_
    clear k9 P9
    have e' : (c :: mid ++ [c])[i]? = some w := by rw [List.getElem?_eq_getElem hi, e]
    cases i with
    | zero =>
      obtain rfl : c = w := by simpa using e'
      exact step mid.length c (by simp)
    | succ i => exact step i w e'
  intro w hw T
  induction T with
  | intro w _ ih =>
    refine park fun P9 k9 => ?_
    obtain ⟨p, hp, hpn⟩ := pre w hw
    refine k9 ?_
    clear k9 P9
    exact ih p hpn hp
theorem rk_bound (rk : Str → Nat) : ∀ ks : List Str, ∃ M, ∀ k ∈ ks, rk k ≤ M
  | [] => ⟨0, fun k h => nomatch h⟩
  | k :: r => by
    refine park fun P9 k9 => ?_
    obtain ⟨M, h⟩ := rk_bound rk r
    refine k9 ?_
    clear k9 P9
    refine ⟨max (rk k) M, fun x hx => ?_⟩
    rcases List.mem_cons.mp hx with rfl | hx
    · exact Nat.le_max_left _ _
    · exact Nat.le_trans (h x hx) (Nat.le_max_right _ _)
theorem free_term {sc : Str → List Str} {keys : List Str} (h : Free (sc := sc) keys) (cl : ∀ w ∈ keys, ∀ q ∈ N w, q ∈ keys ∧ w ∈ sc q) : ∀ w ∈ keys, Term N w := by
  refine park fun P9 k9 => ?_
  obtain ⟨rk, hr⟩ := h
  obtain ⟨M, hM⟩ := rk_bound rk keys
  refine k9 ?_
  clear k9 P9
  have key : ∀ n, ∀ w ∈ keys, M - rk w < n → Term N w := by
    intro n
    induction n with
    | zero => intro w _ h; omega
    | succ n ih =>
      intro w hw hn
      refine Acc.intro w fun v hv => ?_
      refine park fun P9 k9 => ?_
      obtain ⟨c1, c2⟩ := cl w hw v hv
      refine k9 ?_
      clear k9 P9
      have h1 := hr v c1 w c2
      have h2 := hM v c1
      exact ih v c1 (by omega)
  exact fun w hw => key _ w hw (Nat.lt_succ_self _)
/-- a ring: some word is never handed out -/
theorem ring_less {sc : Str → List Str} {told D : List Str} {xss : List (List Str)} (h : RdL words N xss) (hD : ∀ k, k ∈ D ↔ k ∈ xss.flatten) (hn : D.Nodup) (r : Ring (sc := sc) told) (hk : ∀ x ∈ told, x ∈ words) (hs : ∀ a ∈ told, ∀ b ∈ sc a, a ∈ N b) : D.length < words.length := by
  have hc : ∃ c, c ∈ told := by
    refine park fun P9 k9 => ?_
    obtain ⟨c, mid, rfl, _⟩ := r
    refine k9 ?_
    clear k9 P9
    exact ⟨c, .head _⟩
  refine park fun P9 k9 => ?_
  obtain ⟨c, hc⟩ := hc
  refine k9 ?_
  clear k9 P9
  have hcD : c ∉ D := fun hm => ring_term r hs c hc (h.mem ((hD c).mp hm)).2
  have h1 : (c :: D).Nodup := List.nodup_cons.mpr ⟨hcD, hn⟩
  have := List.Nodup.length_le_of_subset h1 (l₂ := words) fun x hx => by
    rcases List.mem_cons.mp hx with rfl | hx
    · exact hk _ hc
    · exact (h.mem ((hD x).mp hx)).1
  rw [List.length_cons] at this
  exact this
theorem free_all {sc : Str → List Str} {keys D : List Str} (hw : words.Nodup) (c : rowOf words N D = []) (h : Free (sc := sc) keys) (hk : ∀ x, x ∈ keys ↔ x ∈ words) (cl : ∀ w ∈ words, ∀ q ∈ N w, q ∈ words ∧ w ∈ sc q) : ¬ D.length < words.length := by
  have T := free_term h (N := N) fun w hw q hq => by
    refine park fun P9 k9 => ?_
    obtain ⟨a, b⟩ := cl w ((hk w).mp hw) q hq
    refine k9 ?_
    clear k9 P9
    exact ⟨(hk q).mpr a, b⟩
  have := List.Nodup.length_le_of_subset hw (l₂ := D) fun x hx => row_all c (fun w hw q hq => (cl w hw q hq).1) (T x ((hk x).mpr hx)) hx
  omega
end
end
section
/-! ### all words of up to four signs -/
theorem app_a (w : Str) : (w ++ Str.ofString "a").cps.toList = w.cps.toList ++ [97] := by
  rw [KT.app_list]; rfl
theorem app_b (w : Str) : (w ++ Str.ofString "b").cps.toList = w.cps.toList ++ [98] := by
  rw [KT.app_list]; rfl
theorem rowW_abS : ∀ {n : Nat} {w : Str}, w ∈ rowW n → abS w
  | 0, w, h => by
    have e : w = Str.ofString "" := by simpa [rowW] using h
    rw [e]
    intro c hc
    have : (Str.ofString "").cps.toList = [] := by rfl
    rw [this] at hc
    cases hc
  | n + 1, w, h => by
    unfold rowW at h
    refine park fun P9 k9 => ?_
    obtain ⟨u, hu, h⟩ := List.mem_flatMap.mp h
    refine k9 ?_
    clear k9 P9
    have ih := rowW_abS hu
    rcases List.mem_cons.mp h with rfl | h
    · intro c hc
      rw [app_a, List.mem_append] at hc
      exact hc.elim (ih c) fun h => .inl (List.mem_singleton.mp h)
    · rw [List.mem_singleton.mp h]
      intro c hc
      rw [app_b, List.mem_append] at hc
      exact hc.elim (ih c) fun h => .inr (List.mem_singleton.mp h)
theorem rowW_mem : ∀ {n : Nat} {w : Str}, abS w → w.length = n → w ∈ rowW n
  | 0, w, _, h => by
    have e : w = Str.ofString "" := by
      have h0 : w.cps.toList = [] := List.length_eq_zero_iff.mp (by rw [slen]; exact h)
      rw [str_ext, h0]; rfl
    rw [e]
    unfold rowW
    exact .head _
  | n + 1, w, ha, h => by
    have hl : w.cps.toList.length = n + 1 := by rw [slen]; exact h
    have hne : w.cps.toList ≠ [] := fun e => by rw [e] at hl; cases hl
    have hd := (List.dropLast_concat_getLast hne).symm
    generalize hi : w.cps.toList.dropLast = i at hd
    generalize w.cps.toList.getLast hne = c at hd
    have hil : i.length = n := by rw [hd, List.length_append, List.length_singleton] at hl; lia
    have hw : abS (mkS i) := fun x hx => ha x (by rw [hd]; rw [mkS_list] at hx; exact List.mem_append_left _ hx)
    have ih := rowW_mem hw (n := n) (by rw [← slen, mkS_list]; exact hil)
    unfold rowW
    refine List.mem_flatMap.mpr ⟨mkS i, ih, ?_⟩
    rcases ha c (by rw [hd]; simp) with rfl | rfl
    · have : w = mkS i ++ Str.ofString "a" := by rw [str_ext, app_a, mkS_list]; exact hd
      rw [this]; exact .head _
    · have : w = mkS i ++ Str.ofString "b" := by rw [str_ext, app_b, mkS_list]; exact hd
      rw [this]; exact .tail _ (.head _)
theorem mem_words {w : Str} {n : Nat} : w ∈ wordsTo n ↔ abS w ∧ w.length ≤ n := by
  unfold wordsTo rowsW
  rw [List.mem_flatten]
  constructor
  · intro X90
    refine park fun P9 k9 => ?_
    obtain ⟨l, hl, hw⟩ := X90
    obtain ⟨j, hj, rfl⟩ := List.mem_map.mp hl
    refine k9 ?_
    clear k9 P9
    have := rowW_wlen hw
    exact ⟨rowW_abS hw, by have := List.mem_range.mp hj; lia⟩
  · intro X90
    refine park fun P9 k9 => ?_
    obtain ⟨ha, hl⟩ := X90
    refine k9 ?_
    clear k9 P9
    exact ⟨_, List.mem_map.mpr ⟨w.length, List.mem_range.mpr (by lia), rfl⟩, rowW_mem ha rfl⟩
theorem words4_nod : (wordsTo 4).Nodup := by decide +kernel
theorem words4_len : (wordsTo 4).length = 31 := by decide +kernel
theorem step_closed {rules : List (Str × Str)} (hr : ∀ lr ∈ rules, RuleOk lr) {n : Nat} {w v : Str} (hw : w ∈ wordsTo n) (hv : v ∈ nextsOf rules w) : v ∈ wordsTo n := by
  refine park fun P9 k9 => ?_
  obtain ⟨ha, hl⟩ := mem_words.mp hw
  obtain ⟨lr, hm, p, s, h1, h2⟩ := nexts_iff.mp hv
  refine k9 ?_
  clear k9 P9
  have q := hr lr hm
  have l1 := congrArg List.length h1
  have l2 := congrArg List.length h2
  simp only [List.length_append, slen] at l1 l2
  refine mem_words.mpr ⟨fun c hc => ?_, by have := q.rl; lia⟩
  rw [h2, List.mem_append, List.mem_append] at hc
  rcases hc with h | h | h
  · exact ha c (by rw [h1]; exact List.mem_append_left _ h)
  · exact q.ra c h
  · exact ha c (by rw [h1]; exact List.mem_append_right _ (List.mem_append_right _ h))
theorem nexts_len {rules : List (Str × Str)} (h3 : rules.length ≤ 3) {w : Str} (hw : w.length ≤ 4) : (nextsOf rules w).length ≤ 15 :=
  Nat.le_trans (nextsOf_len rules w) (Nat.le_trans (Nat.mul_le_mul h3 (Nat.succ_le_succ hw)) (by decide))
end
section
/-! ### the end of the rules' law, plain -/
section
variable {rules : List (Str × Str)} {xss : List (List Str)} {fE : Str → Option (List Str)}
/-- the ends of what was handed out -/
structure EndF (rules : List (Str × Str)) (D : List Str) (fE : Str → Option (List Str)) : Prop where
  some_ : ∀ k ∈ D, ∃ l, fE k = some l ∧ EndsOk (nextsOf rules) k l
  none_ : ∀ k, k ∉ D → fE k = none
noncomputable def badOf (rules : List (Str × Str)) (fE : Str → Option (List Str)) : List Str := ((lappedOf (rules.map (·.1))).map (·.1)).filter fun u => decide (1 < ((fE u).getD []).length)
/-- one text within another, as the program asks it -/
noncomputable def within (one word : Str) : Bool := !(Builtin.Str.occurrences word one 0 word.length 1).isEmpty
theorem within_true {one word : Str} (h : Infix one word) : within one word = true := by
  refine park fun P9 k9 => ?_
  obtain ⟨p, s, e⟩ := h
  refine k9 ?_
  clear k9 P9
  unfold within
  rw [occ_ne e]; rfl
theorem lapped_abS (hr : ∀ lr ∈ rules, RuleOk lr) {u : Str} (h : Lapped rules u) : abS u := by
  refine park fun P9 k9 => ?_
  obtain ⟨a, ha, b, hb, k, _, _, e⟩ := h
  refine k9 ?_
  clear k9 P9
  intro c hc
  rw [e, List.mem_append] at hc
  rcases hc with h | h
  · exact (hr a ha).la c h
  · exact (hr b hb).la c (List.drop_subset _ _ h)
theorem bad_of (hr : ∀ lr ∈ rules, RuleOk lr) {D : List Str} (hc : rowOf (wordsTo 4) (nextsOf rules) D = []) (e : EndF rules D fE) {u : Str} (h : BadW rules u) : u ∈ badOf rules fE := by
  refine park fun P9 k9 => ?_
  obtain ⟨h1, h2, h3, h4⟩ := h
  have hu : u ∈ wordsTo 4 := mem_words.mpr ⟨lapped_abS hr h1, h2⟩
  obtain ⟨l, hl, ho⟩ := e.some_ u (row_all hc (fun w hw q hq => step_closed hr hw hq) h3 hu)
  obtain ⟨t, ht⟩ := (lapped_iff hr).mp h1
  refine k9 ?_
  clear k9 P9
  unfold badOf
  refine List.mem_filter.mpr ⟨List.mem_map.mpr ⟨(u, t), ht, rfl⟩, decide_eq_true ?_⟩
  rw [hl]
  exact ho.two.mpr h4
theorem led_true (hr : ∀ lr ∈ rules, RuleOk lr) {D : List Str} (hc : rowOf (wordsTo 4) (nextsOf rules) D = []) (e : EndF rules D fE) {word : Str} {fL : Str → Bool} (hb : ∀ v ∈ nextsOf rules word, LedW rules v → fL v = true) (h : LedW rules word) :
    ((badOf rules fE).filter fun one => within one word) ≠ [] ∨ ((nextsOf rules word).filter fL) ≠ [] := by
  rcases LedW.iff.mp h with ⟨b, hb1, hb2⟩ | ⟨v, hv, hl⟩
  · exact .inl fun hn => by
      have : b ∈ (badOf rules fE).filter fun one => within one word := List.mem_filter.mpr ⟨bad_of hr hc e hb1, within_true hb2⟩
      rw [hn] at this; cases this
  · exact .inr fun hn => by
      have : v ∈ (nextsOf rules word).filter fL := List.mem_filter.mpr ⟨hv, hb v hv hl⟩
      rw [hn] at this; cases this
theorem two_led (hr : ∀ lr ∈ rules, RuleOk lr) (R : RdL (wordsTo 4) (nextsOf rules) xss) {word : Str} (hw : word ∈ xss.flatten) {l : List Str} (ho : EndsOk (nextsOf rules) word l) (h : 1 < l.length) : LedW rules word := by
  refine park fun P9 k9 => ?_
  obtain ⟨h1, h2⟩ := R.mem hw
  refine k9 ?_
  clear k9 P9
  exact crit hr h2 (mem_words.mp h1).2 (ho.two.mp h)
theorem lapped_ends (hr : ∀ lr ∈ rules, RuleOk lr) {u t : Str} (h : (u, t) ∈ lappedOf (rules.map (·.1))) : Txt.endswith u t = true := by
  refine park fun P9 k9 => ?_
  obtain ⟨p, e⟩ := lapped_tail hr h
  refine k9 ?_
  clear k9 P9
  exact ends_true e
/-! ### the sorter's graph -/
theorem gr01 (hr : ∀ lr ∈ rules, RuleOk lr) : Gr (kys (addAll (nextsOf rules) (wordsTo 4))) (nextsOf rules) (sucOf (addAll (nextsOf rules) (wordsTo 4))) :=
  addAll_gr words4_nod fun k hk q hq => step_closed hr hk hq
theorem kys01 (hr : ∀ lr ∈ rules, RuleOk lr) {y : Str} : y ∈ kys (addAll (nextsOf rules) (wordsTo 4)) ↔ y ∈ wordsTo 4 := by
  rw [addAll_mem]
  exact ⟨fun h => h.elim id fun ⟨k, hk, h⟩ => step_closed hr hk h, .inl⟩
theorem suc01 (hr : ∀ lr ∈ rules, RuleOk lr) {a b : Str} : b ∈ sucOf (addAll (nextsOf rules) (wordsTo 4)) a ↔ b ∈ wordsTo 4 ∧ a ∈ nextsOf rules b := by
  rw [← List.count_pos_iff, addAll_cnt _ words4_nod]
  by_cases h : b ∈ wordsTo 4
  · rw [if_pos h, List.count_pos_iff]; exact ⟨fun x => ⟨h, x⟩, fun x => x.2⟩
  · rw [if_neg h]; exact ⟨fun x => absurd x (Nat.lt_irrefl _), fun x => absurd x.1 h⟩
/-- a round of the sorter is a row of the sweeps -/
theorem rd_row (hr : ∀ lr ∈ rules, RuleOk lr) {D rd : List Str} {g : List PN} (h : Kn (kys (addAll (nextsOf rules) (wordsTo 4))) (nextsOf rules) (sucOf (addAll (nextsOf rules) (wordsTo 4))) D g rd) : rd.Perm (rowOf (wordsTo 4) (nextsOf rules) D) := by
  refine (List.perm_ext_iff_of_nodup h.rdn (words4_nod.sublist List.filter_sublist)).mpr fun k => ?_
  exact (h.rdm k).trans ((and_congr_left fun _ => kys01 hr).trans mem_rowOf.symm)
end
end
section
/-! ### the sorter of the rules' law stays small -/
section
variable {rules : List (Str × Str)}
theorem rep_len (c : Str → Nat) (y : Str) (b : Nat) : ∀ l : List Str, (∀ k ∈ l, c k ≤ b) → (l.flatMap fun k => List.replicate (c k) k).length ≤ l.length * b
  | [], _ => by simp
  | k :: r, h => by
    rw [List.flatMap_cons, List.length_append, List.length_cons, List.length_replicate, Nat.succ_mul]
    have := rep_len c y b r fun x hx => h x (.tail _ hx)
    have := h k (.head _)
    lia
theorem kn_small (hr : ∀ lr ∈ rules, RuleOk lr) (h3 : rules.length ≤ 3) {D rd : List Str} {g : List PN} (h : Kn (kys (addAll (nextsOf rules) (wordsTo 4))) (nextsOf rules) (sucOf (addAll (nextsOf rules) (wordsTo 4))) D g rd) :
    g.length ≤ 31 ∧ (∀ v ∈ g, v.succ.length ≤ 465) ∧ ∀ v ∈ g, ∀ c ∈ v.succ, c ∈ g.map (·.key) := by
  have hnd : (kys g).Nodup := by rw [h.kye]; exact addAll_nod _ _
  have hsuc : ∀ v ∈ g, v.succ = sucOf (addAll (nextsOf rules) (wordsTo 4)) v.key := fun v hv => by rw [← (np_at hnd hv).2, h.suc]
  refine ⟨?_, fun v hv => ?_, fun v hv c hc => ?_⟩
  · have h1 : (kys g).length ≤ (wordsTo 4).length := List.Nodup.length_le_of_subset hnd fun k hkm => by
      rw [h.kye] at hkm
      exact (kys01 hr).mp hkm
    have h2 : (kys g).length = g.length := by unfold kys; rw [List.length_map]
    rw [words4_len] at h1
    lia
  · rw [hsuc v hv, addAll_suc]
    have := rep_len (fun k => (nextsOf rules k).count v.key) v.key 15 (wordsTo 4) fun k hk => Nat.le_trans (List.count_le_length) (nexts_len h3 (mem_words.mp hk).2)
    rw [words4_len] at this
    exact this
  · rw [hsuc v hv] at hc
    show c ∈ kys g
    rw [h.kye]
    exact (kys01 hr).mpr ((suc01 hr).mp hc).1
theorem kn_rd (hr : ∀ lr ∈ rules, RuleOk lr) {D rd : List Str} {g : List PN} (h : Kn (kys (addAll (nextsOf rules) (wordsTo 4))) (nextsOf rules) (sucOf (addAll (nextsOf rules) (wordsTo 4))) D g rd) : rd.length ≤ 31 ∧ ∀ k ∈ rd, k ∈ wordsTo 4 ∧ k ∈ g.map (·.key) := by
  have h1 : ∀ k ∈ rd, k ∈ wordsTo 4 := fun k hk => (kys01 hr).mp ((h.rdm k).mp hk).1
  refine ⟨by rw [← words4_len]; exact List.Nodup.length_le_of_subset h.rdn h1, fun k hk => ⟨h1 k hk, ?_⟩⟩
  show k ∈ kys g
  rw [h.kye]
  exact ((h.rdm k).mp hk).1
theorem rch_words (hr : ∀ lr ∈ rules, RuleOk lr) {w e : Str} (h : Rch (nextsOf rules) w e) : w ∈ wordsTo 4 → e ∈ wordsTo 4 := by
  induction h with
  | refl => exact id
  | step hv _ ih => exact fun hw => ih (step_closed hr hw hv)
theorem ends_small (hr : ∀ lr ∈ rules, RuleOk lr) {w : Str} (hw : w ∈ wordsTo 4) {l : List Str} (h : EndsOk (nextsOf rules) w l) : l.length ≤ 31 := by
  rw [← words4_len]
  exact List.Nodup.length_le_of_subset h.1 fun e he => rch_words hr ((h.2 e).mp he).1 hw
end
end
section
/-! ### the ends grow by a word -/
theorem valueAt_add {kvs : List (Str × Value)} {k y : Str} {v : Value} (h : k ∉ kvs.map (·.1)) : valueAt (kvs ++ [(k, v)]) y = if y = k then some v else valueAt kvs y := by
  by_cases e : y = k
  · subst e
    rw [valueAt_app h, if_pos rfl]
    unfold valueAt; simp
  · rw [if_neg e]
    unfold valueAt
    rw [List.find?_append]
    cases hf : kvs.find? (fun p => decide (p.1 = y)) with
    | some p => rfl
    | none =>
      have : ¬ k = y := fun x => e x.symm
      simp [this]
theorem valueAt_new {kvs : List (Str × Value)} {k : Str} (h : k ∉ kvs.map (·.1)) : valueAt kvs k = none := by
  have h2 := valueAt_some (kvs := kvs) (k := k)
  rw [decide_eq_false h] at h2
  cases e : valueAt kvs k with
  | none => rfl
  | some v => rw [e] at h2; cases h2
theorem DicIn.snoc {l : List (Addr × Obj)} {kvs : List (Str × Value)} {f : Str → Option (List Str)} {k : Str} {v : Value} {xs : List Str} (h : DicIn l kvs f) (hk : k ∉ kvs.map (·.1)) (hv : LstIn l v xs) :
    DicIn l (kvs ++ [(k, v)]) (fun y => if y = k then some xs else f y) := fun y => by
  rw [valueAt_add hk]
  by_cases e : y = k
  · rw [if_pos e]
    exact ⟨xs, if_pos e, hv⟩
  · rw [if_neg e]
    have := h y
    cases hv2 : valueAt kvs y with
    | none => rw [hv2] at this; exact (if_neg e).trans this
    | some u =>
      rw [hv2] at this
      refine park fun P9 k9 => ?_
      obtain ⟨ys, h1, h2⟩ := this
      refine k9 ?_
      clear k9 P9
      exact ⟨ys, (if_neg e).trans h1, h2⟩
section
variable {rules : List (Str × Str)} {fE : Str → Option (List Str)} {D : List Str}
theorem EndF.snoc {k : Str} (h : EndF rules D fE) (hk : k ∉ D) (hN : ∀ v ∈ nextsOf rules k, v ∈ D) :
    EndF rules (D ++ [k]) (fun y => if y = k then some (endsOf (fun x => (fE x).getD []) k (nextsOf rules k)) else fE y) := by
  constructor
  · intro y hy
    by_cases e : y = k
    · subst e
      refine ⟨_, if_pos rfl, ends_ok fun v hv => ?_⟩
      refine park fun P9 k9 => ?_
      obtain ⟨l, h1, h2⟩ := h.some_ v (hN v hv)
      refine k9 ?_
      clear k9 P9
      rw [h1]; exact h2
    · rcases List.mem_append.mp hy with hy | hy
      · refine park fun P9 k9 => ?_
        obtain ⟨l, h1, h2⟩ := h.some_ y hy
        refine k9 ?_
        clear k9 P9
        exact ⟨l, (if_neg e).trans h1, h2⟩
      · exact absurd (List.mem_singleton.mp hy) e
  · intro y hy
    have h1 : y ∉ D := fun hm => hy (List.mem_append_left _ hm)
    have h2 : y ≠ k := fun e => hy (List.mem_append_right _ (by rw [e]; exact .head _))
    exact (if_neg h2).trans (h.none_ y h1)
theorem EndF.small (hr : ∀ lr ∈ rules, RuleOk lr) (h : EndF rules D fE) (hD : ∀ k ∈ D, k ∈ wordsTo 4) : ∀ k xs, fE k = some xs → xs.length ≤ 31 := by
  intro k xs e
  by_cases hk : k ∈ D
  · refine park fun P9 k9 => ?_
    obtain ⟨l, h1, h2⟩ := h.some_ k hk
    refine k9 ?_
    clear k9 P9
    rw [h1] at e
    cases e
    exact ends_small hr (hD k hk) h2
  · rw [h.none_ k hk] at e; cases e
theorem EndF.nil : EndF rules [] (fun _ => none) := ⟨fun k h => (nomatch h), fun _ _ => rfl⟩
theorem kn_D (hr : ∀ lr ∈ rules, RuleOk lr) {rd : List Str} {g : List PN} (h : Kn (kys (addAll (nextsOf rules) (wordsTo 4))) (nextsOf rules) (sucOf (addAll (nextsOf rules) (wordsTo 4))) D g rd) : ∀ k ∈ D, k ∈ wordsTo 4 :=
  fun k hk => (kys01 hr).mp (h.cl k hk).1
theorem kn_nod (hr : ∀ lr ∈ rules, RuleOk lr) {rd : List Str} {g : List PN} (h : Kn (kys (addAll (nextsOf rules) (wordsTo 4))) (nextsOf rules) (sucOf (addAll (nextsOf rules) (wordsTo 4))) D g rd) (hn : D.Nodup) : (D ++ rd).Nodup ∧ (D ++ rd).length ≤ 31 := by
  have h1 : (D ++ rd).Nodup := List.nodup_append.mpr ⟨hn, h.rdn, fun a ha b hb e => ((h.rdm b).mp hb).2.1 (e ▸ ha)⟩
  refine ⟨h1, ?_⟩
  rw [← words4_len]
  refine List.Nodup.length_le_of_subset h1 fun k hk => ?_
  rcases List.mem_append.mp hk with hk | hk
  · exact kn_D hr h k hk
  · exact ((kn_rd hr h).2 k hk).1
/-- a word of a round -/
theorem rd_word (hr : ∀ lr ∈ rules, RuleOk lr) {rd : List Str} {g : List PN} (h : Kn (kys (addAll (nextsOf rules) (wordsTo 4))) (nextsOf rules) (sucOf (addAll (nextsOf rules) (wordsTo 4))) D g rd) {i : Nat} {k : Str} (hk : rd[i]? = some k) :
    k ∈ wordsTo 4 ∧ k ∉ D ++ rd.take i ∧ (∀ v ∈ nextsOf rules k, v ∈ D ++ rd.take i) ∧ rd.take (i + 1) = rd.take i ++ [k] := by
  have hm := List.mem_of_getElem? hk
  refine park fun P9 k9 => ?_
  obtain ⟨_, h2, h3⟩ := (h.rdm k).mp hm
  refine k9 ?_
  clear k9 P9
  refine ⟨((kn_rd hr h).2 k hm).1, fun hx => ?_, fun v hv => List.mem_append_left _ (h3 v hv), by rw [List.take_add_one, hk]; rfl⟩
  rcases List.mem_append.mp hx with hx | hx
  · exact h2 hx
  · refine park fun P9 k9 => ?_
    obtain ⟨j, hj, e⟩ := List.getElem_of_mem hx
    refine k9 ?_
    clear k9 P9
    rw [List.length_take] at hj
    rw [List.getElem_take] at e
    refine park fun P9 k9 => ?_
    obtain ⟨h4, h5⟩ := List.getElem?_eq_some_iff.mp hk
    refine k9 ?_
    clear k9 P9
    have := (List.getElem_inj h.rdn).mp (e.trans h5.symm)
    lia
end
section
variable {M : Model} {A : Around} {E : Value → Shared → Prop} {s : Shared} {K : Frag} {env : Env} {pos p : Pos} {first : List Value} {Q : Value → Shared → Prop} {e : PySem.Expr}
/-- a bound method is called with one starred argument alone -/
theorem callWith_SL {q g : Addr} {self : Value} (hf : fnIn K g = true) (h : wpAny M A (eval e env) (fun v s₁ => StarOf M A E v (fun vs s₂ => MethP K q g self s₂.heap ∧ wpAny M A (call (.ref q) (first ++ vs)) Q E s₂) s₁) E s)
    (he : starEach [.Starred e p] env = [(true, eval e env)]) :
    wpAny M A (callWith pos (.ref q) first (backTo pos (starEach [.Starred e p] env)) []) Q E s := by
  rw [he]
  exact ks_call rfl (keeps_M hf) (ks_lone h)
end
end
section
/-- the text without the rows that name the modules -/
noncomputable def keepRows : List Stmt → List Stmt
  | [] => []
  | .Assign _ (.Constant _ _ _) _ :: r => keepRows r
  | s :: r => s :: keepRows r
noncomputable def view : Program := { PySem.Challenge.rw_tv0044_01.row.prog with main := { PySem.Challenge.rw_tv0044_01.row.prog.main with body := keepRows PySem.Challenge.rw_tv0044_01.row.prog.main.body } }
-- the top of the text is run at once, by the kernel, not in pieces: the pieces' twins take 12 MiB of the compiled file
local macro_rules | `(tactic| o_head $H) => `(tactic| (refine holds_open (q := view) (loose := [Str.ofString "_NodeInfo"]) (Xt := fun s => xlAt view ([] : List (Str × WData)) s && recOk (RowW.records (OpenRow.toRowW PySem.Challenge.rw_tv0044_01.row)) s) (XP := XL view ([] : List (Str × WData))) (Yf := Hook.obs $H) (Ya := Hook.val $H) (YP := Hook.says $H) (N := 2742) ?hl (Hook.of $H) (Hook.keeps $H) (fun s e => xl_of s (Bool.and_eq_true_iff.mp e).1) XL.keeps (by rfl) (by rfl) (by rfl) (fun s e => recFacts_of (Bool.and_eq_true_iff.mp e).2) (by rfl) (by first | assumption | decide +kernel) (by decide +kernel) ⟨rfl, rfl, rfl, rfl, rfl, by decide +kernel⟩ ?hw ?hc; (case hl => (intro w; kernel_rfl))))
local macro_rules | `(tactic| o_law) => `(tactic| refine holds_law (by decide +kernel) fun said => ?_)
open_top hd for PySem.Challenge.rw_tv0044_01
end
section
-- lines of the walk over an opaque ledger
local macro_rules | `(tactic| walk_at "ne1") => ln "dn" "|ne_b3 ?neA ?neB ?neC|neAs neBM neCE|"
local macro_rules | `(tactic| walk_at "ne") => lf "" "|||" [("c", "s"), ("dn", "|Ne.symm ?q|qs|"), ("c", "1"), ("dn", "|Ne.symm ?q|q1|"), ("dn", "|neN ?q|ql|")]
local macro_rules | `(tactic| k_ne) => `(tactic| (refine neN ?_; (try dsimp only); walk_at "ne"))
local macro_rules | `(tactic| walk_at "below") => lf "" "|||" [("c", "s"), ("dnr", "|below_cons ?beA ?beB|beAL beBb|"), ("dnr", "|below_upd ?beA|beAb|"), ("dnr", "|below_trans ?beA ?beB|beAs beBL|")]
local macro_rules | `(tactic| walk_at "sep") => lf "" "|||" [("c", "s"), ("dnr", "|Sep.upd ?seA|seAS|"), ("dnr", "|Sep.cons ?seA ?seB|seAS seBb|")]
local macro_rules | `(tactic| k_all) => ln "dnr" "|off_of_below ?ofA|ofAb|"
local macro_rules | `(tactic| k_upd) => lf "" "|||" [("dn", "|Upd.head ?a|aA|"), ("dn", "|Upd.tail ?a ?b|an bU|"), ("dn", "|upd_of ?s1 ?s2|s1S s2m|")]
local macro_rules | `(tactic| k_updF) => lf "" "|||" [("dn", "|UpdF.head ?a|aA|"), ("dn", "|UpdF.tail ?a ?b|an bF|"), ("dn", "|updF_of ?s1 ?s2|s1S s2m|")]
local macro_rules | `(tactic| k_mem) => do `(tactic| (with_reducible show _ ∈ upd _ _ _; $(← lf "" "|||" [("dn", "|mem_upd_self ?kmA|kmAm|"), ("dn", "|mem_upd_ne ?kmA ?kmB|kmAm kmB2|")]):tactic))
local macro_rules | `(tactic| walk_at "getMethod ref") => ln "hdw" "(getMethod (Value.ref _) (PySem.Str.ofString \"get\") _)|kdg_method (knd := PySem.strKind _ _) ?k1 ?k2 ?k3 ?_|k1a k2m k3s|"
local macro_rules | `(tactic| walk_at "call builtin:dict.get") => ln "hdwG" "(call _ [Value.ref _, Value.str _ _])|kdg_get1 (knd := PySem.strKind _ _) ?k1 ?k2 ?k3 ?k4 (strKind_is _ _ _ _) _ ?k6 ?_|k1a k2m k3s k4s k6s|"
local macro_rules | `(tactic| walk_at "setItem ref str") => ln "hdw" "|kda_set (knd := PySem.strKind _ _) ?F ?N ?U ?d (strKind_is _ _ _ _) ?z ?_|Fa Na UF ds zs|h' o' F' N' hd'|at|N'"
local macro_rules | `(tactic| k_room) => `(tactic| ((try simp only [depth_mark, depth_under_make, depth_under_kw, depth_in1, depth_deeper, depth_caller]); (try dsimp only [ktrTop]); lia))
local macro_rules | `(tactic| k_mem) => lf "" "|||" [("c", "h"), ("dnr", "|List.mem_cons_of_mem _ ?kmC|kmCm|")]
local macro_rules | `(tactic| walk_at "go") => `(tactic| repeat' (first | ((fail_if_success (walk_at "stop")); first | (k_unfold; (try dsimp only)) | (k_end; kc_close) | walk1 | (dsimp only; walk1) | (leave1; (try dsimp only))) | fail "no step"))
local macro_rules | `(tactic| walk_at "stop") => ln "q" "wpAny _ _ (exec (Stmt.For _ _ _ _ _) _) _ _ _"
local macro_rules | `(tactic| walk_at "stop") => ln "q" "wpAny _ _ (exec (Stmt.While _ _ _ _) _) _ _ _"
local macro_rules | `(tactic| walk_at "call builtin:len") => ln "hdw" "(call (Value.builtin \"len\") [Value.ref _])|len_listM ?k1 ?k2 ?k3 ?_|k1a k2m k3L|"
local macro_rules | `(tactic| walk_at "call builtin:len") => ln "hdw" "(call (Value.builtin \"len\") [Value.ref _])|len_tupM ?k1 ?k2 ?k3 ?_|k1a k2m k3L|"
local macro_rules | `(tactic| walk_at "loc") => lf "D" "|||" [("c", "w"), ("c", "t"), ("dn", "|ite_loc ?lcA ?lcB|lcAd lcBc|"), ("c", "r")]
local macro_rules | `(tactic| walk_at "eval Name") => ln "hdw" "(eval (PySem.Expr.Name _ _) (envOf _ _ _ _ _))|ld ?k1 ?k2 ?_|k1a k2c|"
local macro_rules | `(tactic| walk_at "call builtin:list.append") => ln "hdwK" "(call (Value.builtin _) [Value.ref _, _])|append_M ?k1 ?k2 ?k3 ?k4 ?k5 ?_|k1a k2a k4m k3S k5L|h' F' N'"
local macro_rules | `(tactic| walk_at "fold") => `(tactic| ((try k_unmd); k_fold))
local macro_rules | `(tactic| walk_at "post") => `(tactic| (repeat (first | k_unfold | dsimp only [PostG])))
section
theorem anew_Gni_01 : True := by w_top off; trivial

theorem valueAt_nd {nds : List Nd} (hn : (nds.map (·.key)).Nodup) {v : Nd} (hv : v ∈ nds) : valueAt (nds.map Nd.pair) v.key = some (.ref v.x) := by
  induction nds with
  | nil => cases hv
  | cons u r ih =>
    rw [List.map_cons, List.nodup_cons] at hn
    unfold valueAt at ih ⊢
    rw [List.map_cons, List.find?_cons]
    by_cases h : (Nd.pair u).1 = v.key
    · rcases List.mem_cons.mp hv with rfl | hv
      · simp [Nd.pair]
      · exact absurd (List.mem_map.mpr ⟨v, hv, h.symm⟩) hn.1
    · rw [show (decide ((Nd.pair u).1 = v.key)) = false from decide_eq_false h]
      rcases List.mem_cons.mp hv with rfl | hv
      · exact absurd rfl h
      · exact ih hn.2 hv
theorem valueAt_off {nds : List Nd} {k : Str} (h : k ∉ nds.map (·.key)) : valueAt (nds.map Nd.pair) k = none := by
  unfold valueAt
  rw [List.find?_eq_none.mpr]; rfl
  intro p hp
  refine park fun P9 k9 => ?_
  obtain ⟨u, hu, rfl⟩ := List.mem_map.mp hp
  refine k9 ?_
  clear k9 P9
  intro e
  exact h (List.mem_map.mpr ⟨u, hu, of_decide_eq_true e⟩)

theorem gni_end {h₀ : Heap} {L : Addr} {h : Heap} {l x d Ci : Addr} {k : Str} {t u : Tok} {r : List (Addr × Obj)}
    (N : News h₀ L h ((l, W.listOf #[] 0) :: (x, { cls := .ref Ci, dict := some d, slots := #[some (.str k t), some (.int 0 u), some (.ref l)] }) :: (d, dictOf [] 0) :: r))
    (hs : Sep ((l, W.listOf #[] 0) :: (x, { cls := .ref Ci, dict := some d, slots := #[some (.str k t), some (.int 0 u), some (.ref l)] }) :: (d, dictOf [] 0) :: r)) :
    ∃ v : Nd, v.x = x ∧ v.key = k ∧ v.np = 0 ∧ v.succ = [] ∧ v.ok ∧ News h₀ L h (v.cells Ci ++ r) ∧ Sep (v.cells Ci ++ r) := by
  have pm : ((l, W.listOf #[] 0) :: (x, { cls := .ref Ci, dict := some d, slots := #[some (.str k t), some (.int 0 u), some (.ref l)] }) :: (d, dictOf [] 0) :: r).Perm
      (Nd.cells Ci ⟨k, 0, [], x, d, l, t, u, [], 0⟩ ++ r) := by
    refine (List.Perm.swap _ _ _).trans (List.Perm.cons _ ?_)
    exact List.Perm.swap _ _ _
  exact ⟨⟨k, 0, [], x, d, l, t, u, [], 0⟩, rfl, rfl, rfl, rfl, .nil, fun p hp => N p (pm.mem_iff.mpr hp), hs.perm pm⟩
theorem stored_new {K : Type} [DecidableEq K] {kvs : List (K × Value)} {k : K} {v : Value} (h : valueAt kvs k = none) : stored kvs k v = kvs ++ [(k, v)] := by
  unfold stored
  rw [if_neg]
  intro hc
  unfold valueAt at h
  rw [Option.map_eq_none_iff, List.find?_eq_none] at h
  refine park fun P9 k9 => ?_
  obtain ⟨x, hx, e⟩ := List.any_eq_true.mp hc
  refine k9 ?_
  clear k9 P9
  exact h x hx e


section
variable {w : World} {p : Program} {loose : List Str} {mean : ExcName → Option Value} {mg mb : Str → Option Value}
  {dp un : Nat} {gd : Option (List Code)} {cn : Str} {cs : Scope} {a : Addr} {ccd : Value} {cl : List (Str × Addr)} {outer : List Env} {A₀ : Around} {base h₀ : Heap} {L : Addr} {m : Str → Option Value} {news : List (Addr × Obj)} {s : Shared}
    {Q E : Value → Shared → Prop}
  (B : Below A₀ base outer h₀) (F : Fr h₀ L s.heap m) (X : (Mine.hd.heap_1 w.params).In h₀) (N : News h₀ L s.heap news) (T : Top p loose mean mg mb h₀) (hk : cs.kind = .function)
include B F X N T hk
theorem gni_there (S : So) (ok : S.ok PySem.Challenge.rw_tv0044_01.row.prog w) (hc : ∀ q ∈ S.cells 144 47, q ∈ news) (v : Nd) (hv : v ∈ S.nds) (t : Tok)
  (hdp : dp + 2 < recursionLimit) (hun : un + 16 < cLine)
  (ret : ∀ h' tk', Fr h₀ L h' m → News h₀ L h' news → Q (.ref v.x) { s with heap := h', toks := tk' }) :
    wpAny (model PySem.Challenge.rw_tv0044_01.row.prog w) (ktrTop dp un gd cn cs L a ccd cl outer) (call (.ref 87) [.ref S.x, .str v.key t]) Q E s := by
  revert X; k_fill; intro X
  have hx : (S.x, instObj 144 S.dx) ∈ news := hc _ (.head _)
  have hdx : (S.dx, dictOf (sorterEs S.hs S.tk S.n2i S.rv (.int S.npo S.t1) (.int S.nfi S.t2)) S.dn) ∈ news := hc _ (.tail _ (.head _))
  have hn2 : (S.n2i, S.n2o) ∈ news := hc _ (.tail _ (.tail _ (.head _)))
  have hD := ok.dict
  have hlow := ok.low
  have hval := valueAt_nd (So.keys ok) hv
  refine wpAny_call ?_
  k_dflt ktr_enter
  k_steps
  all_goals exact ret _ _ (by assumption) (by assumption)
theorem gni_new (S : So) (ok : S.ok PySem.Challenge.rw_tv0044_01.row.prog w) (hc : ∀ q ∈ S.cells 144 47, q ∈ news) (hs : Sep news) (k : Str) (hv : k ∉ S.nds.map (·.key)) (t : Tok) (hsz : S.nds.length ≤ 1000)
  (hdp : dp + 3 < recursionLimit) (hun : un + 24 < cLine)
  (ret : ∀ h' tk' (v : Nd) o', Fr h₀ L h' m → News h₀ L h' (v.cells 47 ++ upd news S.n2i o') → Sep (v.cells 47 ++ upd news S.n2i o') → v.key = k → v.np = 0 → v.succ = [] → v.ok → o'.IsDictOf (PySem.strKind PySem.Challenge.rw_tv0044_01.row.prog w) ((S.nds ++ [v]).map Nd.pair) → Q (.ref v.x) { s with heap := h', toks := tk' }) :
    wpAny (model PySem.Challenge.rw_tv0044_01.row.prog w) (ktrTop dp un gd cn cs L a ccd cl outer) (call (.ref 87) [.ref S.x, .str k t]) Q E s := by
  revert X; k_fill; intro X
  have hx : (S.x, instObj 144 S.dx) ∈ news := hc _ (.head _)
  have hdx : (S.dx, dictOf (sorterEs S.hs S.tk S.n2i S.rv (.int S.npo S.t1) (.int S.nfi S.t2)) S.dn) ∈ news := hc _ (.tail _ (.head _))
  have hn2 : (S.n2i, S.n2o) ∈ news := hc _ (.tail _ (.tail _ (.head _)))
  have hD := ok.dict
  have hlow := ok.low
  have hval := valueAt_off hv
  have hz : (S.nds.map Nd.pair).length ≤ sizeLine := seven_le (by rw [List.length_map]; lia)
  refine wpAny_call ?_
  k_dflt ktr_enter
  k_steps
  rename News _ _ _ _ => kN'
  rename Obj.IsDictOf _ _ _ => hd9
  refine park fun P9 k9 => ?_
  obtain ⟨v, rfl, e2, e3, e4, e5, N9, s9⟩ := gni_end kN' (by walk_at "sep")
  refine k9 ?_
  clear k9 P9
  refine ret _ _ v _ (by assumption) N9 s9 e2 e3 e4 e5 ?_
  rw [stored_new hval] at hd9
  rw [List.map_append, List.map_singleton, show Nd.pair v = (k, .ref v.x) from by unfold Nd.pair; rw [e2]]
  exact hd9
end
end
section
theorem anew_AddX_01 : True := by w_top off; trivial
local macro_rules | `(tactic| walk_at "stop") => ln "q" "wpAny _ _ (call (Value.ref 87) _) _ _ _"
section
variable {w : World} {p : Program} {loose : List Str} {mean : ExcName → Option Value} {mg mb : Str → Option Value}
  {dp un : Nat} {gd : Option (List Code)} {cn : Str} {cs : Scope} {a : Addr} {ccd : Value} {cl : List (Str × Addr)} {outer : List Env} {A₀ : Around} {base h₀ : Heap} {L : Addr} {m : Str → Option Value} {s : Shared}
    {Q E : Value → Shared → Prop}
  (B : Below A₀ base outer h₀) (F : Fr h₀ L s.heap m) (X : (Mine.hd.heap_1 w.params).In h₀) (T : Top p loose mean mg mb h₀) (hk : cs.kind = .function)
include B F X T hk
theorem gni (S : So) (rest : List (Addr × Obj)) (N : News h₀ L s.heap (S.cells 144 47 ++ rest)) (hs : Sep (S.cells 144 47 ++ rest)) (ok : S.ok PySem.Challenge.rw_tv0044_01.row.prog w) (k : Str) (t : Tok) (hsz : S.nds.length ≤ 1000)
  (hdp : dp + 3 < recursionLimit) (hun : un + 24 < cLine)
  (ret : ∀ h' tk' nds' o' v, ({ S with nds := nds', n2o := o' } : So).ok PySem.Challenge.rw_tv0044_01.row.prog w → v ∈ nds' → v.key = k → nds'.map Nd.pn = touch (S.nds.map Nd.pn) k → nds'.length ≤ S.nds.length + 1 →
    Fr h₀ L h' m → News h₀ L h' (({ S with nds := nds', n2o := o' } : So).cells 144 47 ++ rest) → Sep (({ S with nds := nds', n2o := o' } : So).cells 144 47 ++ rest) → Q (.ref v.x) { s with heap := h', toks := tk' }) :
    wpAny (model PySem.Challenge.rw_tv0044_01.row.prog w) (ktrTop dp un gd cn cs L a ccd cl outer) (call (.ref 87) [.ref S.x, .str k t]) Q E s := by
  by_cases hm : k ∈ S.nds.map (·.key)
  · refine park fun P9 k9 => ?_
    obtain ⟨v, hv, rfl⟩ := List.mem_map.mp hm
    refine k9 ?_
    clear k9 P9
    refine gni_there B F X N T hk S ok (fun q hq => List.mem_append_left _ hq) v hv t (by lia) (by lia) fun h' tk' F' N' => ?_
    exact ret h' tk' S.nds S.n2o v ok hv rfl (by unfold touch; rw [if_pos (hasK_nds.mpr hm)]) (Nat.le_succ _) F' N' hs
  · refine gni_new B F X N T hk S ok (fun q hq => List.mem_append_left _ hq) hs k hm t hsz hdp hun fun h' tk' v o' F' N' hs' e1 e2 e3 e4 hd => ?_
    have e : v.cells 47 ++ upd (S.cells 144 47 ++ rest) S.n2i o' = v.cells 47 ++ (({ S with n2o := o' } : So).cells 144 47 ++ rest) := by rw [upd_n2i hs]
    rw [e] at N' hs'
    have pm := cells_snoc (C := 144) (Ci := 47) (S := { S with n2o := o' }) (rest := rest) v
    refine ret h' tk' (S.nds ++ [v]) o' v ⟨hd, ok.low, fun u hu => ?_, ok.rds⟩ (List.mem_append_right _ (.head _)) e1 ?_ (by simp) F' (fun q hq => N' q (pm.mem_iff.mpr hq)) (hs'.perm pm)
    · rcases List.mem_append.mp hu with hu | hu
      · exact ok.nds u hu
      · rw [List.mem_singleton.mp hu]; exact e4
    · unfold touch
      rw [if_neg (fun h => hm (hasK_nds.mp h)), List.map_append, List.map_singleton]
      unfold Nd.pn
      rw [e1, e2, e3]

theorem add_code (S : So) (rest : List (Addr × Obj)) (N : News h₀ L s.heap (S.cells 144 47 ++ rest)) (hs : Sep (S.cells 144 47 ++ rest)) (ok : S.ok PySem.Challenge.rw_tv0044_01.row.prog w) (hr : S.rdy = none) (k : Str) (t : Tok) (vs : List Value) (ps : List Str) (hps : StrsAre vs ps)
  (hsz : S.nds.length + ps.length + 1 ≤ 1000) {b : Nat} (hb : ∀ v ∈ S.nds.map Nd.pn, v.succ.length ≤ b) (hbz : b ≤ 900000) (hdp : dp + 4 < recursionLimit) (hun : un + 32 < cLine)
  (ret : ∀ h' tk' nds' o', ({ S with nds := nds', n2o := o' } : So).ok PySem.Challenge.rw_tv0044_01.row.prog w → nds'.map Nd.pn = addG (S.nds.map Nd.pn) k ps → nds'.length ≤ S.nds.length + ps.length + 1 →
    Fr h₀ L h' m → News h₀ L h' (({ S with nds := nds', n2o := o' } : So).cells 144 47 ++ rest) → Sep (({ S with nds := nds', n2o := o' } : So).cells 144 47 ++ rest) → Q .none { s with heap := h', toks := tk' }) :
    codeAny (model PySem.Challenge.rw_tv0044_01.row.prog w) (ktrTop dp un gd cn cs L a ccd cl outer) (.call (.ref 94) ⟨.ref S.x :: .str k t :: vs, []⟩) (fun r s' => match r with | .ok (.ret v) => Q v s' | .ok _ => False | .error e => E e s') s := by
  revert X; k_fill; intro X
  have hvl : vs.length ≤ 1000000 := by rw [StrsAre.length hps]; lia
  k_dflt (refine' code_rest (vs := vs) (pre := [(Str.ofString "self", Value.ref S.x), (Str.ofString "node", Value.str k t)]) (nr := Str.ofString "predecessors") ?k1 ?k2 ?k3 ?k4 ?k5 ?kA ?kF ?kK ?k6 ?k7 ?k8 ?kV ?kP ?kB ?_ ?c2 ?c3 ?c4 ?c5; (case kA => exact rfl); (case kF => exact rfl); (case kK => assumption); (case k1 => k_asm); (case k2 => k_asm); (case k3 => k_asm); (case k4 => k_asm); (case k5 => k_asm); (case k6 => k_is); (case k7 => k_is); (case k8 => k_room); (case kV => exact bind_rest2 rfl rfl (by decide)); (case kP => exact seven_le (by rw [StrsAre.length hps]; lia)); (case kB => exact fun _ => locs rfl); (case c5 => decide); (case c2 => exact rfl); (case c3 => exact rfl); (case c4 => exact rfl); k_whole)
  intro D' g' L' h' l1 FG' F' N' B' X' T'
  (try dsimp only); (try k_fold)
  have hs1 : Sep ((D', tupOf vs.toArray 0) :: (S.cells 144 47 ++ rest)) := Sep.cons hs l1
  have hx : (S.x, instObj 144 S.dx) ∈ (D', tupOf vs.toArray 0) :: (S.cells 144 47 ++ rest) := .tail _ (List.mem_append_left _ (.head _))
  have hdx : (S.dx, dictOf (sorterEs S.hs S.tk S.n2i .none (.int S.npo S.t1) (.int S.nfi S.t2)) S.dn) ∈ (D', tupOf vs.toArray 0) :: (S.cells 144 47 ++ rest) := .tail _ (List.mem_append_left _ (So.mem_dx0 hr))
  generalize hl : (D', tupOf vs.toArray 0) :: (S.cells 144 47 ++ rest) = news1 at N' hs1 hx hdx
  walk_at "go"
  rename News _ _ _ _ => N1
  have pm1 : news1.Perm (S.cells 144 47 ++ ((D', tupOf vs.toArray 0) :: rest)) := by rw [← hl]; exact List.perm_middle.symm
  refine gni (S := S) (rest := (D', tupOf vs.toArray 0) :: rest) B' (by assumption) X' T' rfl (fun q hq => N1 q (pm1.mem_iff.mpr hq)) (hs1.perm pm1) ok k t (by lia) (by show dp + 1 + 3 < recursionLimit; lia) (by show un + 3 + 24 < cLine; lia) ?_
  intro h2 tk2 nds2 o2 v ok2 hv2 hk2 hg2 hz2 F2 N2 hs2
  clear N1 hs1 hx hdx pm1
  refine park fun P9 k9 => ?_
  obtain ⟨na, nb, hnab⟩ := List.append_of_mem hv2
  refine k9 ?_
  clear k9 P9
  subst hnab
  have hx : (S.x, instObj 144 S.dx) ∈ ({ S with nds := na ++ v :: nb, n2o := o2 } : So).cells 144 47 ++ (D', tupOf vs.toArray 0) :: rest := List.mem_append_left _ (.head _)
  have hvx : (v.x, ({ cls := .ref 47, dict := some v.dx, data := .plain, slots := [some (.str v.key v.kt), some (.int v.np v.pt), some (.ref v.sa)].toArray } : Obj)) ∈ ({ S with nds := na ++ v :: nb, n2o := o2 } : So).cells 144 47 ++ (D', tupOf vs.toArray 0) :: rest := List.mem_append_left _ (So.mem_nd (v := v) (List.mem_append_right _ (.head _)) (.head _))
  have hvd : (v.dx, dictOf [] 0) ∈ ({ S with nds := na ++ v :: nb, n2o := o2 } : So).cells 144 47 ++ (D', tupOf vs.toArray 0) :: rest := List.mem_append_left _ (So.mem_nd (v := v) (List.mem_append_right _ (.head _)) (.tail _ (.head _)))
  have hD : (D', tupOf vs.toArray 0) ∈ ({ S with nds := na ++ v :: nb, n2o := o2 } : So).cells 144 47 ++ (D', tupOf vs.toArray 0) :: rest := List.mem_append_right _ (.head _)
  generalize hl2 : ({ S with nds := na ++ v :: nb, n2o := o2 } : So).cells 144 47 ++ (D', tupOf vs.toArray 0) :: rest = news2 at N2 hs2 hx hvx hvd hD
  walk_at "go"
  rename News _ _ _ _ => N3
  rename Fr _ _ _ _ => F3
  rw [← hl2] at N3 hs2
  dsimp only at N3
  have N4' := news_nx (S := { S with nds := na ++ v :: nb, n2o := o2 }) (C := 144) (Ci := 47) (rest := (D', tupOf vs.toArray 0) :: rest) (v := v) (np' := v.np + (vs.length : Int)) (pt' := _) N3 rfl hs2 rfl
  refine park fun P9 k9 => ?_
  obtain ⟨N4, s4⟩ := N4'
  refine k9 ?_
  clear k9 P9
  have kn : ((na ++ v :: nb).map (·.key)).Nodup := So.keys ok2
  refine For_invVF F3 rfl rfl ?_
  walk1
  refine iterTup (vs := vs) (ep := 0) (fun i m l => ∃ nds o, l = ({ S with nds := nds, n2o := o } : So).cells 144 47 ++ (D', tupOf vs.toArray 0) :: rest ∧ Sep l ∧ ({ S with nds := nds, n2o := o } : So).ok PySem.Challenge.rw_tv0044_01.row.prog w ∧
    nds.map Nd.pn = addPs (addN (touch (S.nds.map Nd.pn) k) k ps.length) k (ps.take i) ∧ nds.length ≤ S.nds.length + 1 + i ∧ m (Str.ofString "self") = some (.ref S.x) ∧ m (Str.ofString "node") = some (.str k t))
    rfl (.inr fun i m l => ?_) (by assumption) N4 ?_ ?_ ?_
  · intro X90
    refine park fun P9 k9 => ?_
    obtain ⟨nds, o, rfl, _⟩ := X90
    refine k9 ?_
    clear k9 P9
    exact List.mem_append_right _ (.head _)
  · refine ⟨_, _, rfl, s4, ok_put (S := { S with nds := na ++ v :: nb, n2o := o2 }) rfl ok2 rfl rfl (ok2.nds v hv2), ?_, ?_, ?_, ?_⟩
    · rw [List.take_zero, pn_addN (v := v) kn (n := ps.length) (by unfold Nd.pn; simp [StrsAre.length hps]), hg2, hk2]; rfl
    · simp at hz2 ⊢; lia
    · walk_at "loc"
    · walk_at "loc"
  · intro I i u m₁ news₁ h5 tk5 oI hu X99 hoff F5 N5
    refine hideQ fun T9 k9 => ?_
    refine park fun P9 k9 => ?_
    obtain ⟨nds, o, rfl, s5, ok5, hg5, hz5, hm1, hm2⟩ := X99
    obtain ⟨y, t5, rfl, hy⟩ := StrsAre.item hps i u hu
    refine k9 ?_
    clear k9 P9
    have s5c : Sep ((I, oI) :: (({ S with nds := nds, n2o := o } : So).cells 144 47 ++ (D', tupOf vs.toArray 0) :: rest)) := s5.cons_ne hoff
    have hx : (S.x, instObj 144 S.dx) ∈ (I, oI) :: (({ S with nds := nds, n2o := o } : So).cells 144 47 ++ (D', tupOf vs.toArray 0) :: rest) := .tail _ (List.mem_append_left _ (.head _))
    have hdx : (S.dx, dictOf (sorterEs S.hs S.tk S.n2i .none (.int S.npo S.t1) (.int S.nfi S.t2)) S.dn) ∈ (I, oI) :: (({ S with nds := nds, n2o := o } : So).cells 144 47 ++ (D', tupOf vs.toArray 0) :: rest) := .tail _ (List.mem_append_left _ (So.mem_dx0 (S := { S with nds := nds, n2o := o }) hr))
    generalize hl5 : (I, oI) :: (({ S with nds := nds, n2o := o } : So).cells 144 47 ++ (D', tupOf vs.toArray 0) :: rest) = news5 at N5 hx hdx s5c
    walk_at "go"
    rename News _ _ _ _ => N6
    rename Fr _ _ _ _ => F6
    have pm5 : news5.Perm (({ S with nds := nds, n2o := o } : So).cells 144 47 ++ (I, oI) :: (D', tupOf vs.toArray 0) :: rest) := by rw [← hl5]; exact List.perm_middle.symm
    have hil : i < ps.length := by rw [← StrsAre.length hps]; exact (List.getElem?_eq_some_iff.mp hu).1
    refine gni (S := { S with nds := nds, n2o := o }) (rest := (I, oI) :: (D', tupOf vs.toArray 0) :: rest) B' F6 X' T' rfl (fun q hq => N6 q (pm5.mem_iff.mpr hq)) (s5c.perm pm5) ok5 y t5 (by show nds.length ≤ 1000; lia) (by show dp + 1 + 3 < recursionLimit; lia) (by show un + 3 + 24 < cLine; lia) ?_
    intro h7 tk7 nds7 o7 v7 ok7 hv7 hk7 hg7 hz7 F7 N7 s7
    clear N6 F6 hx hdx s5c pm5 hl5
    refine park fun P9 k9 => ?_
    obtain ⟨ma, mb, hmab⟩ := List.append_of_mem hv7
    refine k9 ?_
    clear k9 P9
    subst hmab
    have hvx : (v7.x, ({ cls := .ref 47, dict := some v7.dx, data := .plain, slots := [some (.str v7.key v7.kt), some (.int v7.np v7.pt), some (.ref v7.sa)].toArray } : Obj)) ∈ ({ S with nds := ma ++ v7 :: mb, n2o := o7 } : So).cells 144 47 ++ (I, oI) :: (D', tupOf vs.toArray 0) :: rest := List.mem_append_left _ (So.mem_nd (v := v7) (List.mem_append_right _ (.head _)) (.head _))
    have hvd : (v7.dx, dictOf [] 0) ∈ ({ S with nds := ma ++ v7 :: mb, n2o := o7 } : So).cells 144 47 ++ (I, oI) :: (D', tupOf vs.toArray 0) :: rest := List.mem_append_left _ (So.mem_nd (v := v7) (List.mem_append_right _ (.head _)) (.tail _ (.head _)))
    have hvs : (v7.sa, W.listOf v7.svs.toArray v7.sn) ∈ ({ S with nds := ma ++ v7 :: mb, n2o := o7 } : So).cells 144 47 ++ (I, oI) :: (D', tupOf vs.toArray 0) :: rest := List.mem_append_left _ (So.mem_nd (v := v7) (List.mem_append_right _ (.head _)) (.tail _ (.tail _ (.head _))))
    have hz9 : v7.svs.length ≤ 1000000 := by
      have h1 : v7.pn ∈ (ma ++ v7 :: mb).map Nd.pn := List.mem_map.mpr ⟨v7, List.mem_append_right _ (.head _), rfl⟩
      rw [hg7, hg5] at h1
      have h2 := succ_touch (succ_addPs (succ_addN (succ_touch hb))) _ h1
      have h3 : v7.svs.length = v7.succ.length := StrsAre.length (ok7.nds v7 (List.mem_append_right _ (.head _)))
      have h4 : v7.pn.succ = v7.succ := rfl
      rw [h4, List.length_take] at h2
      lia
    generalize hl7 : ({ S with nds := ma ++ v7 :: mb, n2o := o7 } : So).cells 144 47 ++ (I, oI) :: (D', tupOf vs.toArray 0) :: rest = news7 at N7 s7 hvx hvd hvs
    walk_at "go"
    rename News _ _ _ _ => N8
    rename Fr _ _ _ _ => F8
    rw [← hl7] at N8 s7
    have N9' := news_ns (S := { S with nds := ma ++ v7 :: mb, n2o := o7 }) (C := 144) (Ci := 47) (rest := (I, oI) :: (D', tupOf vs.toArray 0) :: rest) (v := v7) (sc := v7.succ ++ [k]) (svs := v7.svs ++ [.str k t]) (sn := v7.sn + 1) N8 rfl s7 rfl
    refine park fun P9 k9 => ?_
    obtain ⟨N9, s9⟩ := N9'
    refine k9 ?_
    clear k9 P9
    have s10 := s9.perm List.perm_middle
    have ok10 := ok_put (S := { S with nds := ma ++ v7 :: mb, n2o := o7 }) (v' := { v7 with succ := v7.succ ++ [k], svs := v7.svs ++ [.str k t], sn := v7.sn + 1 }) rfl ok7 rfl rfl (StrsAre.append' (ok7.nds v7 (List.mem_append_right _ (.head _))) (StrsAre.cons _ _ StrsAre.nil))
    refine k9 _ _ ?_
    dsimp only [PostG]
    refine EndG.intro F8 (fun q hq => N9 q (List.perm_middle.mem_iff.mpr hq)) (Sep.head s10) ⟨_, _, rfl, s10.tail, ok10, ?_, ?_, ?_, ?_⟩
    · have ht : ps.take (i + 1) = ps.take i ++ [y] := by rw [List.take_add_one, hy]; rfl
      rw [ht, addPs_snoc, pn_addS (v := v7) (k := k) (So.keys ok7) rfl, hg7, hg5, hk7]
    · simp at hz7 ⊢; lia
    · walk_at "loc"
    · walk_at "loc"
  · intro m₁ news₁ h9 tk9 X94 F9 N9
    refine park fun P9 k9 => ?_
    obtain ⟨nds, o, rfl, s9, ok9, hg9, hz9, hm1, hm2⟩ := X94
    refine k9 ?_
    clear k9 P9
    dsimp only
    walk_at "go"
    refine ret _ _ nds o ok9 ?_ (by rw [StrsAre.length hps] at hz9; lia) (by assumption) (fun q hq => ?_) (s9.sub ?_)
    · rw [hg9, StrsAre.length hps, List.take_length]; rfl
    · rename News _ _ _ _ => N10
      refine N10 q ?_
      rcases List.mem_append.mp hq with hq | hq
      · exact List.mem_append_left _ hq
      · exact List.mem_append_right _ (.tail _ hq)
    · exact (List.Sublist.refl _).append (List.sublist_cons_self _ _)
theorem add_star (S : So) (rest : List (Addr × Obj)) (N : News h₀ L s.heap (S.cells 144 47 ++ rest)) (hs : Sep (S.cells 144 47 ++ rest)) (ok : S.ok PySem.Challenge.rw_tv0044_01.row.prog w) (hr : S.rdy = none) (k : Str) (t : Tok) (vs : List Value) (ps : List Str) (hps : StrsAre vs ps)
  (hsz : S.nds.length + ps.length + 1 ≤ 1000) {b : Nat} (hb : ∀ v ∈ S.nds.map Nd.pn, v.succ.length ≤ b) (hbz : b ≤ 900000) (hdp : dp + 4 < recursionLimit) (hun : un + 32 < cLine)
  (ret : ∀ h' tk' nds' o', ({ S with nds := nds', n2o := o' } : So).ok PySem.Challenge.rw_tv0044_01.row.prog w → nds'.map Nd.pn = addG (S.nds.map Nd.pn) k ps → nds'.length ≤ S.nds.length + ps.length + 1 →
    Fr h₀ L h' m → News h₀ L h' (({ S with nds := nds', n2o := o' } : So).cells 144 47 ++ rest) → Sep (({ S with nds := nds', n2o := o' } : So).cells 144 47 ++ rest) → Q .none { s with heap := h', toks := tk' }) 
  (qm : Addr) (hq : s.heap.get? qm = some (methodObj (.ref 94) (.ref S.x))) :
    wpAny (model PySem.Challenge.rw_tv0044_01.row.prog w) (ktrTop dp un gd cn cs L a ccd cl outer) (call (.ref qm) (.str k t :: vs)) Q E s :=
  wpAny_call (method_call hq (add_code B F X T hk S rest N hs ok hr k t vs ps hps hsz hb hbz hdp hun ret))
end
end
section
theorem anew_FindC_01 : True := by w_top off; trivial
local macro_rules | `(tactic| walk_at "foldable") => lf "" "|||" [("q", "wpAny _ _ (execs _ _) (PostS _ _) _ _|||"), ("q", "wpAny _ _ (execs _ _) (WhlPost _ _ _ _ _ _ _ _ _ _) _ _|||")]
local macro_rules | `(tactic| walk_at "go") => `(tactic| repeat' (first | ((fail_if_success (walk_at "stop")); first | ((fail_if_success (fail_if_success (walk_at "foldable"))); k_fold) | (k_unfold; (try dsimp only)) | (k_end; kc_close) | walk1 | (dsimp only; walk1) | (leave1; (try dsimp only))) | fail "no step"))
local macro_rules | `(tactic| walk_at "stop") => ln "q" "LeaveX _ _ _ _ _ _ _ _ _ _ _ _ _ _ _ _ _"
local macro_rules | `(tactic| walk_at "enterS") => ln "dwn" "|code_defSX ?k1 ?k2 ?k3 ?k4 ?k5 ?XB ?TB ?D ?kA ?kF ?cK ?k6 ?k7 ?k8 ?k9 ?kB ?_ ?c2 ?c3 ?c4 ?c5|kAr kFr k2a k1a XBs TBs Ds k3a k4a k5a k6i k7i k8o k9B kBx cKs c2r c3r c4r c5d|"
local macro_rules | `(tactic| walk_at "compareOp In str ref") => ln "hdwD" "|kda_in (knd := PySem.strKind _ _) ?N ?m ?d ?lo (strKind_is _ _ _ _) _ ?b ?_|Na mm ds los bs|"
local macro_rules | `(tactic| walk_at "compareOp In str ref") => ln "hdwD" "|in_set _ ?N ?s ?m ?d ?z ?b ?_|Na mm sS ds zL bs|"
local macro_rules | `(tactic| walk_at "subscriptTail") => ln "hdw" "(subscriptTail _ _ (Value.ref _) (Value.str _ _))|kda_item (knd := PySem.strKind _ _) ?N ?m ?d (strKind_is _ _ _ _) ?l ?_|Na mm ds ls|"
local macro_rules | `(tactic| walk_at "getAttr ref") => ln "hdw" "(getAttr (Value.ref _) (PySem.Str.ofString \"__next__\") true)|next_M ?F ?N ?m ?_|Fa Na mm|nxM nxh nxF nxN nxl"
local macro_rules | `(tactic| walk_at "truthy ref") => lf "h" "(truthy (Value.ref _))|||" [("dw", "|truthy_none ?N ?m ?_|Na mm|"), ("dw", "|truthy_some ?N ?m ?z ?_|Na mm zL|")]
local macro_rules | `(tactic| walk_at "call builtin:iter") => ln "hdw" "(call (Value.builtin \"iter\") [Value.ref _])|iter_M ?F ?N ?m ?_|Fa Na mm|itI ith itF itN itl"
local macro_rules | `(tactic| walk_at "subscriptTail") => ln "hdw" "(subscriptTail _ _ (Value.ref _) (Value.int (-1) _))|last_M ?N ?m ?z ?_|Na mm zs|"
local macro_rules | `(tactic| walk_at "call builtin:list.pop") => ln "hdwK" "(call (Value.builtin _) [Value.ref _])|pop_M ?F ?N ?s ?m ?z ?_|Fa Na mm sS zs|ppH ppF ppN"
local macro_rules | `(tactic| walk_at "stop") => ln "q" "wpAny _ _ (call (Value.ref _) []) _ _ _"
local macro_rules | `(tactic| walk_at "stop") => ln "q" "WhlRest _ _ _ _ _ _ _ _ _ _ _"
local macro_rules | `(tactic| walk_at "delItem ref str") => ln "hdw" "|kob_del (knd := PySem.strKind _ _) ?F ?N ?U ?d (strKind_is _ _ _ _) ?l ?z ?_|Fa Na UF ds ls zs|dlh dlo dlF dlN dlD|at|dlN"
local macro_rules | `(tactic| walk_at "subscriptTail Name Slice ref ref") => ln "hdwK" "(subscriptTail _ (PySem.Expr.Slice _ none none _) (Value.ref _) (Value.ref _))|sliceFrom_M ?F ?N ?m ?z ?_ ?s ?t|Fa Na mm zs su tp|slD slh slF slN sll"
local macro_rules | `(tactic| walk_at "binaryOp Add ref ref") => ln "hdwK" "(binaryOp _ (Value.ref _) (Value.ref _))|cat_M ?F ?N ?a ?b ?z ?_|Fa Na am bm zy|caD cah caF caN cal"
theorem inner_cut {P : Prop} {prog : Program} {w : World} {A : Around} {E : Value → Shared → Prop} {env : Env} {test : Expr} {body orelse : List Stmt} {Q : Flow → Shared → Prop} (J : Nat → Shared → Prop)
    (main : (∀ n s, J n s → WhlRest prog w A E env test body orelse Q 0 s) → P) (inn : ∀ n s, J n s → WhlRest prog w A E env test body orelse Q 0 s) : P := main inn
/-- what follows a key -/
noncomputable def scOf (nds : List Nd) (k : Str) : List Str := ((nds.find? fun v => decide (v.key = k)).map (·.succ)).getD []
theorem scOf_nd {nds : List Nd} (hn : (nds.map (·.key)).Nodup) {v : Nd} (hv : v ∈ nds) : scOf nds v.key = v.succ := by
  unfold scOf
  induction nds with
  | nil => cases hv
  | cons u r ih =>
    rw [List.map_cons, List.nodup_cons] at hn
    rw [List.find?_cons]
    by_cases h : u.key = v.key
    · rcases List.mem_cons.mp hv with rfl | hv
      · simp
      · exact absurd (List.mem_map.mpr ⟨v, hv, h.symm⟩) hn.1
    · rw [show (decide (u.key = v.key)) = false from decide_eq_false h]
      rcases List.mem_cons.mp hv with rfl | hv
      · exact absurd rfl h
      · exact ih hn.2 hv
section
variable {w : World} {p : Program} {loose : List Str} {mean : ExcName → Option Value} {mg mb : Str → Option Value}
  {dp un : Nat} {gd : Option (List Code)} {cn : Str} {cs : Scope} {a : Addr} {ccd : Value} {cl : List (Str × Addr)} {outer : List Env} {A₀ : Around} {base h₀ : Heap} {L : Addr} {m : Str → Option Value} {s : Shared}
    {Q E : Value → Shared → Prop}
  (B : Below A₀ base outer h₀) (F : Fr h₀ L s.heap m) (X : (Mine.hd.heap_1 w.params).In h₀) (T : Top p loose mean mg mb h₀) (hk : cs.kind = .function)
  (XB : (Mine.hd.heap_1 w.params).In base) (TB : Top p loose mean mg mb base) (D : KtsDicts (outer.filterMap (·.frame)) h₀)
include B F X T hk XB TB D
theorem find_tells (S : So) (rest : List (Addr × Obj)) (N : News h₀ L s.heap (S.cells 144 47 ++ rest)) (hs : Sep (S.cells 144 47 ++ rest)) (ok : S.ok PySem.Challenge.rw_tv0044_01.row.prog w)
  (hsz : S.nds.length ≤ 1000) (hcl : ∀ v ∈ S.nds, ∀ c ∈ v.succ, c ∈ S.nds.map (·.key)) (hdp : dp + 4 < recursionLimit) (hun : un + 32 < cLine)
  (none_ : ∀ h' g' tk', KtsTurn (outer.filterMap (·.frame)) h₀ g' → Free (sc := scOf S.nds) (S.nds.map (·.key)) → Fr g' L h' m → News g' L h' (S.cells 144 47 ++ rest) → Below A₀ base outer g' → (Mine.hd.heap_1 w.params).In g' → Top p loose mean mg mb g' → KtsDicts (outer.filterMap (·.frame)) g' →
    Q .none { s with heap := h', toks := tk' })
  (ring_ : ∀ h' g' tk' t vs told, KtsTurn (outer.filterMap (·.frame)) h₀ g' → Ring (sc := scOf S.nds) told → (∀ x ∈ told, x ∈ S.nds.map (·.key)) → StrsAre vs told → Fr g' L h' m → News g' L h' ((t, W.listOf vs.toArray 0) :: (S.cells 144 47 ++ rest)) → Sep ((t, W.listOf vs.toArray 0) :: (S.cells 144 47 ++ rest)) →
    Below A₀ base outer g' → (Mine.hd.heap_1 w.params).In g' → Top p loose mean mg mb g' → KtsDicts (outer.filterMap (·.frame)) g' → Q (.ref t) { s with heap := h', toks := tk' }) :
    wpAny (model PySem.Challenge.rw_tv0044_01.row.prog w) (ktrTop dp un gd cn cs L a ccd cl outer) (call (.ref 134) [.ref S.x]) Q E s := by
  revert X XB; k_fill; intro X XB
  refine wpAny_call ?_
  walk_at "enterS"
  intro g1 L1 h1 FG1 F' N' B' X' T' D'
  (try dsimp only); (try k_fold)
  have hx : (S.x, instObj 144 S.dx) ∈ S.cells 144 47 ++ rest := List.mem_append_left _ (.head _)
  have hdx : (S.dx, dictOf (sorterEs S.hs S.tk S.n2i S.rv (.int S.npo S.t1) (.int S.nfi S.t2)) S.dn) ∈ S.cells 144 47 ++ rest := List.mem_append_left _ (.tail _ (.head _))
  have hn2 : (S.n2i, S.n2o) ∈ S.cells 144 47 ++ rest := List.mem_append_left _ (.tail _ (.tail _ (.head _)))
  have hnds : ∀ v ∈ S.nds, ∀ q ∈ v.cells 47, q ∈ S.cells 144 47 ++ rest := fun v hv q hq => List.mem_append_left _ (So.mem_nd hv hq)
  generalize hl : S.cells 144 47 ++ rest = news1 at N' hs hx hdx hn2 hnds
  walk_at "go"
  rename News _ _ _ _ => N1
  rename Fr _ _ _ _ => F1
  refine wpAny_For ?_
  walk1
  have hg := (N1 (S.n2i, S.n2o) (.tail _ (.tail _ (.tail _ (.tail _ hn2))))).1
  refine park fun P9 k9 => ?_
  obtain ⟨ep, hDa⟩ := (Heap.dictOf_iff.mpr ⟨_, hg, ok.dict⟩).dictAt
  refine k9 ?_
  clear k9 P9
  refine wpAny_pyIter_dict (knd := PySem.strKind _ _) ok.low hDa ?_
  rename_i h8 stk h7 l13 h6 tk0 its h5 l12 h4 sn h3 led hsi hss l11 h2 nd hh1 o5 lo5 hso5 hfs5 hi5 hfi5 l1 hF
  have a1 : ∀ p ∈ news1, p.1 < stk := l13
  have a1' : ∀ p ∈ news1, @LT.lt Nat _ p.1 stk := l13
  have a2 : @LT.lt Nat _ stk its := l12.1
  have a3 : @LT.lt Nat _ its sn := l11.1
  have a4 : @LT.lt Nat _ sn nd := l1.1
  have hI : @LT.lt Nat _ nd hF.objs.size := Heap.lt_size (N1 _ (.head _)).1
  generalize hII : ({ heap := hF, gens := s.gens, drawn := s.drawn, toks := tk + 1 + 1, os := s.os } : Shared).heap.objs.size = I
  have hII' : hF.objs.size = I := hII
  rw [hII'] at hI
  have b1 : ∀ q ∈ news1, q.1 ≠ I := fun q hq => Nat.ne_of_lt (by have := a1 q hq; exact Nat.lt_trans (a1 q hq) (by lia))
  have n1 : its ≠ stk := neN (by lia)
  have n2 : sn ≠ stk := neN (by lia)
  have n3 : nd ≠ stk := neN (by lia)
  have n4 : sn ≠ its := neN (by lia)
  have n5 : nd ≠ its := neN (by lia)
  have n6 : nd ≠ sn := neN (by lia)
  have i1 : stk ≠ I := neN (by lia)
  have i2 : its ≠ I := neN (by lia)
  have i3 : sn ≠ I := neN (by lia)
  have i4 : nd ≠ I := neN (by lia)
  have hms : (S.nds.map Nd.pair).map (·.1) = S.nds.map (·.key) := by rw [List.map_map]; rfl
  have hnd : (S.nds.map (·.key)).Nodup := So.keys ok
  refine forS (Walks.dictKeys (knd := PySem.strKind PySem.Challenge.rw_tv0044_01.row.prog w) rfl I S.n2i (fun e => b1 _ hn2 e) (S.nds.map Nd.pair) ep) (by with_unfolding_all passes_own) (fun i s' => ∃ seen fin oI, FcS PySem.Challenge.rw_tv0044_01.row.prog w (Mine.hd.heap_1 w.params) p loose mean mg mb (ktrTop dp un gd cn cs L a ccd cl outer) base (envX cn cs L a ccd cl :: outer) g1 L1 s S.nds ((I, oI) :: news1) I stk its sn nd S.n2i seen [] (fun _ => True) s' ∧
    Dfs (scOf S.nds) (S.nds.map (·.key)) seen fin none [] ∧ seen.Nodup ∧ (∀ j k, j < i → (S.nds.map (·.key))[j]? = some k → k ∈ seen) ∧ oI.cls = .type "dict_keyiterator" ∧ oI.data = .fields #[.ref S.n2i, .int i 0, .int (S.nds.map Nd.pair).length 0, .int ep 0]) ?hst ?h0 ?turn ?done
  case hst =>
    intro i s' X92
    refine park fun P9 k9 => ?_
    obtain ⟨_, _, oI, H, _, _, _, k1, k2⟩ := X92
    refine k9 ?_
    clear k9 P9
    refine park fun P9 k9 => ?_
    cases H with
    | mk T B X P D F N hs hYZ c h0 h1 h2 h3 h4 hm =>
      refine k9 ?_
      clear k9 P9
      refine ⟨⟨oI, (N _ (hYZ _ (.head _))).1, k1, k2⟩, hDa.at' fun o e => ?_⟩
      rw [hg] at e
      cases e
      exact (N _ (hYZ _ (.tail _ hn2))).1
  case h0 =>
    refine ⟨[], [], { cls := .type "dict_keyiterator", data := .fields #[.ref S.n2i, .int (0 : Nat) 0, .int (S.nds.map Nd.pair).length 0, .int ep 0] }, ?_, ⟨trivial, fun j v h => by simp at h, List.nodup_nil, fun k hk => (nomatch hk), fun k => by simp, fun k hk => (nomatch hk)⟩, List.nodup_nil, fun j k hj => absurd hj (Nat.not_lt_zero _), rfl, rfl⟩
    have sZ : Sep ((nd, o5) :: (sn, { cls := Value.type "set", data := Data.set #[] 0 (SetTable.fresh 0 0 led) }) :: (its, W.listOf #[] 0) :: (stk, W.listOf #[] 0) :: news1) := by walk_at "sep"
    refine .mk (m := _) (Z := (I, { cls := .type "dict_keyiterator", data := .fields #[.ref S.n2i, .int (0 : Nat) 0, .int (S.nds.map Nd.pair).length 0, .int ep 0] }) :: (nd, o5) :: (sn, { cls := Value.type "set", data := Data.set #[] 0 (SetTable.fresh 0 0 led) }) :: (its, W.listOf #[] 0) :: (stk, W.listOf #[] 0) :: news1) KtsTurn.refl B' X' T' D' (F1.push _) ?_ ?_ ?_ ?_ (by walk_at "loc") (by walk_at "loc") (by walk_at "loc") (by walk_at "loc") (by walk_at "loc") trivial
    · intro q hq
      rcases List.mem_cons.mp hq with rfl | hq
      · refine ⟨?_, ?_, next_is_new F1 ▸ ?_⟩
        · rw [← hII]; exact Heap.get?_push_size _ rfl
        · rw [← hII']; exact (ne_size F1).symm
        · rw [← hII']
      · exact ⟨Heap.get?_push_of_some _ (N1 q hq).1, (N1 q hq).2⟩
    · refine Sep.cons sZ fun q hq => ?_
      rw [← hII']; exact Heap.lt_size (N1 q hq).1
    · intro q hq
      rcases List.mem_cons.mp hq with rfl | hq
      · exact .head _
      · exact .tail _ (.tail _ (.tail _ (.tail _ (.tail _ hq))))
    · exact ⟨⟨[], 0, .tail _ (.tail _ (.tail _ (.tail _ (.head _)))), .nil⟩, ⟨0, .tail _ (.tail _ (.tail _ (.head _)))⟩, fun f hf => (nomatch hf), ⟨_, _, .tail _ (.tail _ (.head _)), hss, fun k => by simp⟩, ⟨_, [], .tail _ (.head _), hso5, rfl⟩, List.nodup_nil⟩
  case done =>
    intro s1 hE tkE X93 hkeep
    refine park fun P9 k9 => ?_
    obtain ⟨seen, fin, oI, H, Dd, hsn, hall, k1, k2⟩ := X93
    obtain ⟨gE, mE, TE, BE, XE, PE, DE, FE, NE, h0, t0, rfl⟩ := H.last hkeep b1
    refine k9 ?_
    clear k9 P9
    dsimp only
    have fr : Free (sc := scOf S.nds) (S.nds.map (·.key)) := Dd.free fun k hk => by
      refine park fun P9 k9 => ?_
      obtain ⟨j, hj, e⟩ := List.getElem_of_mem hk
      refine k9 ?_
      clear k9 P9
      exact hall j k (by simpa using hj) (by rw [List.getElem?_eq_getElem hj, e])
    clear hkeep H
    --[
    walk_at "go"
    rename News _ _ _ _ => N9
    rename Fr _ _ _ _ => F9
    refine ⟨_, _, _, _, TE, F9, N9, fun h0' kT kF kN kB kX kP kD => ?_⟩
    exact none_ _ _ _ kT fr kF (by rw [hl]; exact kN) kB kX kP kD
    --]
  case turn =>
    intro i s1 v hT tkT hi X91 X92 X93 hkeep
    refine hidePS fun J9 Q9 j9 q9 => ?_
    refine park fun P9 k9 => ?_
    obtain ⟨seen0, fin, oI, H, Dd, hsn, hall, k1, k2⟩ := X91
    obtain ⟨key, x, hkx, hkv⟩ := X92
    obtain ⟨⟨oI', hoI, k3, k4⟩, _⟩ := X93
    obtain ⟨kt, rfl⟩ := Value.isStrOf_shape hkv
    refine k9 ?_
    clear k9 P9
    have hYb : ∀ q ∈ (I, oI') :: news1, @LE.le Nat _ q.1 I := fun q hq => by
      rcases List.mem_cons.mp hq with rfl | hq
      · exact Nat.le_refl _
      · have := a1' q hq; lia
    have hYn : ∀ q ∈ (I, oI') :: news1, q.1 ≠ stk ∧ q.1 ≠ its ∧ q.1 ≠ sn ∧ q.1 ≠ nd := fun q hq => by
      rcases List.mem_cons.mp hq with rfl | hq
      · exact ⟨i1.symm, i2.symm, i3.symm, i4.symm⟩
      · have := a1' q hq
        exact ⟨neN (by lia), neN (by lia), neN (by lia), neN (by lia)⟩
    have H1 := H.step (tk := tkT) hkeep hoI b1 i1 i2 i3 i4
    have hkey : (S.nds.map (·.key))[i]? = some key := by rw [← hms, List.getElem?_map, hkx]; rfl
    have hkeyM : key ∈ S.nds.map (·.key) := List.mem_of_getElem? hkey
    clear H hkeep hkv
    generalize ({ s1 with heap := hT, toks := tkT } : Shared) = s2 at H1
    refine park fun P9 k9 => ?_
    cases H1 with
    | mk T2 B2 X2 P2 D2 F2 N2 hs2 hY2 c2 m0 m1 m2 m3 m4 hm2 =>
    refine k9 ?_
    clear k9 P9
    refine stN F2 N2 (fun h3 F3 N3 => ?_)
    refine park fun P9 k9 => ?_
    obtain ⟨o1, Sf, c3, c3', c3''⟩ := c2.set
    refine k9 ?_
    clear k9 P9
    have hlen : seen0.length ≤ 1000 := Nat.le_trans (List.Nodup.length_le_of_subset hsn (fun k hk => Dd.key k hk)) (by rw [List.length_map]; exact hsz)
    clear F1 N1
    walk_at "go"
    · dsimp only [PostS]
      refine ⟨j9 _ ⟨seen0, fin, oI', .mk T2 B2 X2 P2 D2 (by assumption) (by assumption) hs2 hY2 c2 (by walk_at "loc") (by walk_at "loc") (by walk_at "loc") (by walk_at "loc") (by walk_at "loc") trivial, Dd, hsn, fun j k hj hk => ?_, k3, k4⟩⟩
      rcases Nat.lt_succ_iff_lt_or_eq.mp hj with hj | rfl
      · exact hall j k hj hk
      · rw [hkey] at hk
        cases hk
        exact (c3'' key).mp (by assumption)
    · rename News _ _ _ _ => N4
      rename Fr _ _ _ _ => F4
      have hnot : key ∉ seen0 := fun h => by
        have := (c3'' key).mpr h
        simp_all
      refine whl_start 0 (whileS (fun n s' => ∃ seen fin fs node, FcS PySem.Challenge.rw_tv0044_01.row.prog w (Mine.hd.heap_1 w.params) p loose mean mg mb (ktrTop dp un gd cn cs L a ccd cl outer) base (envX cn cs L a ccd cl :: outer) g1 L1 s S.nds ((I, oI') :: news1) I stk its sn nd S.n2i seen fs (fun m => ∃ t, m (Str.ofString "node") = some (.str node t)) s' ∧
        Dfs (scOf S.nds) (S.nds.map (·.key)) seen fin (some node) (fs.map Fm.pl) ∧ seen.Nodup ∧ node ∈ S.nds.map (·.key) ∧ muS (scOf S.nds) (S.nds.map (·.key)) seen + muF (scOf S.nds) (fs.map Fm.pl) ≤ n ∧ (∀ k, k ∈ seen0 → k ∈ seen) ∧ (key ∈ seen ∨ node = key)) (by with_unfolding_all passes_own) ?wturn (muS (scOf S.nds) (S.nds.map (·.key)) seen0 + 0) ?wh0)
      case wh0 =>
        exact ⟨seen0, fin, [], key, .mk T2 B2 X2 P2 D2 F4 N4 hs2 hY2 c2 (by walk_at "loc") (by walk_at "loc") (by walk_at "loc") (by walk_at "loc") (by walk_at "loc") ⟨kt, by walk_at "loc"⟩, ⟨trivial, Dd.ord, Dd.nod, Dd.dis, Dd.see, Dd.key⟩, hsn, hkeyM, Nat.le_refl _, fun k hk => hk, .inr rfl⟩
      case wturn =>
        clear F4 N4 T2 B2 X2 P2 D2 hs2 hY2 c2 m0 m1 m2 m3 m4 hm2 c3 c3' c3''
        intro n s3 X92 again
        refine park fun P9 k9 => ?_
        obtain ⟨seen, fin1, fs, node, H, Dd1, hsn1, hnk, hmu, hmono, hor⟩ := X92
        refine k9 ?_
        clear k9 P9
        refine park fun P9 k9 => ?_
        cases H with
        | @mk gZ mZ Z hZ tkZ T2 B2 X2 P2 D2 F2 N2 hs2 hY2 c2 m0 m1 m2 m3 m4 hm2 =>
        refine k9 ?_
        clear k9 P9
        refine park fun P9 k9 => ?_
        obtain ⟨tn, hnode⟩ := hm2
        obtain ⟨o1, Sf, c3, c3', c3''⟩ := c2.set
        obtain ⟨o2, kvs, c4, c4', c4''⟩ := c2.dct
        obtain ⟨svs, svn, c5, c5'⟩ := c2.stk
        obtain ⟨itn, c6⟩ := c2.its
        have hfsl : fs.length ≤ 1000 := by
          have := List.Nodup.length_le_of_subset Dd1.nod (fun k hk => Dd1.key k ((Dd1.see k).mpr (.inr hk)))
          simp at this
          lia
        have hl5 : svs.length = fs.length := by rw [StrsAre.length c5']; simp
        have hz5 : svs.length ≤ 1000000 := by lia
        have hz6 : (List.map (fun f => Value.ref f.mw) fs).reverse.length ≤ 1000000 := by simp; lia
        have hz7 : kvs.length ≤ sizeLine := seven_le (by rw [← List.length_map (f := (·.1)), c4''.keys]; simp; lia)
        obtain ⟨v, hv, rfl⟩ := List.mem_map.mp hnk
        refine k9 ?_
        clear k9 P9
        have hmemk : ∀ k, k ∈ (fs.map Fm.pl).map (·.1) ↔ k ∈ fs.map (·.nd.key) := fun k => by rw [List.map_map]; rfl
        have hval := valueAt_nd (So.keys ok) hv
        have hvx : (v.x, ({ cls := .ref 47, dict := some v.dx, data := .plain, slots := [some (.str v.key v.kt), some (.int v.np v.pt), some (.ref v.sa)].toArray } : Obj)) ∈ Z := hY2 _ (.tail _ (hnds v hv _ (.head _)))
        have hvd : (v.dx, dictOf [] 0) ∈ Z := hY2 _ (.tail _ (hnds v hv _ (.tail _ (.head _))))
        have hvs : (v.sa, W.listOf v.svs.toArray v.sn) ∈ Z := hY2 _ (.tail _ (hnds v hv _ (.tail _ (.tail _ (.head _)))))
        have hn2Z : (S.n2i, S.n2o) ∈ Z := hY2 _ (.tail _ hn2)
        have hdicO := ok.dict
        have q1 : v.x ≠ stk := neN (Nat.ne_of_lt (a1 _ (hnds v hv _ (.head _))))
        have q2 : v.sa ≠ stk := neN (Nat.ne_of_lt (a1 _ (hnds v hv _ (.tail _ (.tail _ (.head _))))))
        have q1' : v.x ≠ its := neN (by have := a1' _ (hnds v hv _ (.head _)); lia)
        have q1'' : v.x ≠ sn := neN (by have := a1' _ (hnds v hv _ (.head _)); lia)
        have q3 : v.dx ≠ sn := neN (by have := a1' _ (hnds v hv _ (.tail _ (.head _))); lia)
        have q2' : v.sa ≠ its := neN (by have := a1' _ (hnds v hv _ (.tail _ (.tail _ (.head _)))); lia)
        have q2'' : v.sa ≠ sn := neN (by have := a1' _ (hnds v hv _ (.tail _ (.tail _ (.head _)))); lia)
        have q4 : S.n2i ≠ sn := neN (by have := a1' _ hn2; lia)
        have hlen1 : seen.length ≤ 1000 := Nat.le_trans (List.Nodup.length_le_of_subset hsn1 (fun k hk => Dd1.key k hk)) (by rw [List.length_map]; exact hsz)
        refine' inner_cut (fun n' s' => ∃ seen fin fs, FcS PySem.Challenge.rw_tv0044_01.row.prog w (Mine.hd.heap_1 w.params) p loose mean mg mb (ktrTop dp un gd cn cs L a ccd cl outer) base (envX cn cs L a ccd cl :: outer) g1 L1 s S.nds ((I, oI') :: news1) I stk its sn nd S.n2i seen fs (fun m => True) s' ∧
            Dfs (scOf S.nds) (S.nds.map (·.key)) seen fin none (fs.map Fm.pl) ∧ seen.Nodup ∧ muS (scOf S.nds) (S.nds.map (·.key)) seen + muF (scOf S.nds) (fs.map Fm.pl) ≤ n ∧ (∀ k, k ∈ seen0 → k ∈ seen) ∧ key ∈ seen ∧ fs.length ≤ n') (fun inner => ?fcMain) (fun n4 s4 h4 => ?fcIn)
        case fcMain =>
          rcases Decidable.em (v.key ∈ seen) with hin | hin
          · have hS : Sf v.key = true := (c3'' _).mpr hin
            rcases Decidable.em (v.key ∈ fs.map (·.nd.key)) with hst | hst
            · have hvb : (valueAt kvs v.key).isSome = true := by rw [valueAt_some, c4''.keys]; simpa using hst
              refine park fun P9 k9 => ?_
              obtain ⟨f, hf, hfk⟩ := List.mem_map.mp hst
              obtain ⟨fa, fb, rfl⟩ := List.append_of_mem hf
              have hnodk : ((fa ++ f :: fb).map (·.nd.key)).Nodup := by
                have := Dd1.nod
                rw [List.map_map] at this
                exact this
              obtain ⟨pt, hpt⟩ := KvOf.at c4'' hnodk
              refine k9 ?_
              clear k9 P9
              rw [hfk] at hpt
              have hring : Ring (sc := scOf S.nds) (v.key :: (fa.map (·.nd.key)).reverse ++ [v.key]) := by
                have Dd2 := Dd1
                rw [List.map_append, List.map_cons, show Fm.pl f = (v.key, f.pos) from by rw [← hfk]; rfl] at Dd2
                have := Dd2.ring
                rw [List.map_map] at this
                exact this
              have hstr : StrsAre (List.drop fb.length svs ++ [Value.str v.key tn]) (v.key :: (fa.map (·.nd.key)).reverse ++ [v.key]) := by
                refine StrsAre.append' ?_ (.cons _ _ .nil)
                have := StrsAre.drop' c5' fb.length
                rw [List.map_append, List.map_cons, List.reverse_append, List.reverse_cons, List.append_assoc, List.drop_left' (by simp), hfk] at this
                exact this
              have hkeys : ∀ x ∈ (v.key :: (fa.map (·.nd.key)).reverse ++ [v.key]), x ∈ S.nds.map (·.key) := by
                intro x hx
                have hvk : v.key ∈ S.nds.map (·.key) := List.mem_map.mpr ⟨v, hv, rfl⟩
                rcases List.mem_append.mp hx with hx | hx
                · rcases List.mem_cons.mp hx with rfl | hx
                  · exact hvk
                  · refine Dd1.key _ ((Dd1.see _).mpr (.inr ?_))
                    rw [List.map_append, List.map_append, List.map_map]
                    exact List.mem_append_left _ (List.mem_reverse.mp hx)
                · rw [List.mem_singleton.mp hx]; exact hvk
              walk_at "go"
              rename_i slD slh sll l5 h5 l15 caD cah caF caN cal
              dsimp only [PostS]
              refine q9 _ _ ?_
              (try dsimp only)
              walk_at "go"
              refine ⟨_, _, _, _, T2, caF, caN, fun h0' kT F9 N9 kB kX kP kD => ?_⟩
              refine ring_ _ _ _ _ _ _ kT hring hkeys hstr F9 ?_ ?_ kB kX kP kD
              · intro q hq
                rcases List.mem_cons.mp hq with rfl | hq
                · exact N9 _ (.head _)
                · rw [hl] at hq
                  exact N9 _ (.tail _ (.tail _ (.tail _ (hY2 _ (.tail _ hq)))))
              · refine Sep.cons (by rw [hl]; exact hs) fun q hq => ?_
                rw [hl] at hq
                exact cal _ (.tail _ (.tail _ (hY2 _ (.tail _ hq))))
            --[
            · have hvb : (valueAt kvs v.key).isSome = false := by rw [valueAt_some, c4''.keys]; simpa using hst
              walk_at "go"
              rename News _ _ _ _ => N4
              rename Fr _ _ _ _ => F4
              have hoff : v.key ∉ (fs.map Fm.pl).map (·.1) := fun h => hst ((hmemk _).mp h)
              refine whl_start 0 (inner fs.length _ ?ih0)
              case ih0 =>
                refine ⟨seen, fin1, fs, .mk T2 B2 X2 P2 D2 F4 N4 hs2 hY2 c2 m0 m1 m2 m3 m4 trivial, Dd1.skip hin hoff, hsn1, hmu, hmono, ?_, Nat.le_refl _⟩
                rcases hor with h | h
                · exact h
                · exact h ▸ hin
            --]
          --[
          · have hS : Sf v.key = false := by
              cases hh : Sf v.key with
              | false => rfl
              | true => exact absurd ((c3'' _).mp hh) hin
            walk_at "go"
            rename_i t4 t3 hp3 o9 hs9 t2 itI ith itl nxM nxh nxl hp2 t1 hp1 o8 hd8 t0 hp0 F4 N4
            have hoff : v.key ∉ fs.map (·.nd.key) := fun h => hin ((Dd1.see _).mpr (.inr ((hmemk _).mpr h)))
            have w1 : @LT.lt Nat _ I itI := itl _ (mem_upd_ne (hY2 _ (.head _)) i3.symm)
            have w2 : @LT.lt Nat _ itI nxM := nxl _ (.head _)
            have w3 : itI ≠ stk := neN (by lia)
            have w4 : itI ≠ its := neN (by lia)
            have w5 : itI ≠ nd := neN (by lia)
            have w6 : nxM ≠ stk := neN (by lia)
            have w7 : nxM ≠ its := neN (by lia)
            have w8 : nxM ≠ nd := neN (by lia)
            refine whl_start 0 (inner (fs.length + 1) _ ?ih0)
            case ih0 =>
              refine ⟨v.key :: seen, fin1, ⟨v, 0, nxM, itI⟩ :: fs, .mk T2 B2 X2 P2 D2 F4 N4 ?ss ?yy ?cc m0 m1 m2 m3 m4 trivial, Dd1.push hin (List.mem_map.mpr ⟨v, hv, rfl⟩), List.nodup_cons.mpr ⟨hin, hsn1⟩, ?mu, fun k hk => .tail _ (hmono k hk), ?_, Nat.le_refl _⟩
              case mu =>
                have q5 := muS_push (sc := scOf S.nds) hin (List.mem_map.mpr ⟨v, hv, rfl⟩ : v.key ∈ S.nds.map (·.key))
                have q6 := muF_push (sc := scOf S.nds) (n := v.key) (fr := fs.map Fm.pl)
                rw [List.map_cons, show Fm.pl ⟨v, 0, nxM, itI⟩ = (v.key, 0) from rfl]
                lia
              case ss => walk_at "sep"
              case yy =>
                intro X90 hq
                refine park fun P9 k9 => ?_
                obtain ⟨b, o⟩ := X90
                have hq' := hY2 _ hq
                obtain ⟨y1, y2, y3, y4⟩ := hYn _ hq
                refine k9 ?_
                clear k9 P9
                dsimp only at y1 y2 y3 y4
                k_mem
              case cc =>
                refine ⟨⟨_, _, by k_mem, by rw [List.map_cons, List.reverse_cons]; exact StrsAre.append' c5' (.cons _ _ .nil)⟩, ⟨itn + 1, by rw [List.map_cons, List.reverse_cons]; k_mem⟩, ?_, ⟨o9, _, by k_mem, by rw [hS, if_neg (by decide)] at hs9; exact hs9, fun k => ?_⟩, ⟨o8, _, by k_mem, hd8, ?_⟩, ?_⟩
                · intro f' hf'
                  rcases List.mem_cons.mp hf' with rfl | hf'
                  · exact ⟨mem_upd_ne (mem_upd_ne (mem_upd_ne (List.Mem.head _) w7) w8) w6, mem_upd_ne (mem_upd_ne (mem_upd_ne (List.mem_cons_of_mem _ (List.Mem.head _)) w4) w5) w3, hv, w1, by dsimp only; lia⟩
                  · refine park fun P9 k9 => ?_
                    obtain ⟨x1, x2, x3, x4, x5⟩ := c2.fms f' hf'
                    refine k9 ?_
                    clear k9 P9
                    have z3 : f'.it ≠ stk := neN (by lia)
                    have z4 : f'.it ≠ its := neN (by lia)
                    have z5 : f'.it ≠ nd := neN (by lia)
                    have z9 : f'.it ≠ sn := neN (by lia)
                    have z6 : f'.mw ≠ stk := neN (by lia)
                    have z7 : f'.mw ≠ its := neN (by lia)
                    have z8 : f'.mw ≠ nd := neN (by lia)
                    have z0 : f'.mw ≠ sn := neN (by lia)
                    exact ⟨by k_mem, by k_mem, x3, x4, x5⟩
                · rw [List.mem_cons, Bool.or_eq_true, c3'' k, decide_eq_true_eq, Or.comm]
                · rw [hl5]
                  exact KvOf.push (f := ⟨v, 0, nxM, itI⟩) c4'' hoff
                · rw [List.map_cons, List.nodup_cons]
                  refine ⟨fun hm => ?_, c2.nod⟩
                  refine park fun P9 k9 => ?_
                  obtain ⟨f', hf', z⟩ := List.mem_map.mp hm
                  obtain ⟨x1, x2, x3, x4, x5⟩ := c2.fms f' hf'
                  refine k9 ?_
                  clear k9 P9
                  have z9 : f'.it ≠ sn := neN (by lia)
                  have zz : @LT.lt Nat _ f'.it itI := itl _ (mem_upd_ne x2 z9)
                  dsimp only at z
                  rw [z] at zz
                  exact Nat.lt_irrefl _ zz
              · rcases hor with h | h
                · exact .tail _ h
                · exact h ▸ .head _
          --]
        case fcIn =>
          refine whileS (fun n' s' => ∃ seen fin fs, FcS PySem.Challenge.rw_tv0044_01.row.prog w (Mine.hd.heap_1 w.params) p loose mean mg mb (ktrTop dp un gd cn cs L a ccd cl outer) base (envX cn cs L a ccd cl :: outer) g1 L1 s S.nds ((I, oI') :: news1) I stk its sn nd S.n2i seen fs (fun m => True) s' ∧
            Dfs (scOf S.nds) (S.nds.map (·.key)) seen fin none (fs.map Fm.pl) ∧ seen.Nodup ∧ muS (scOf S.nds) (S.nds.map (·.key)) seen + muF (scOf S.nds) (fs.map Fm.pl) ≤ n ∧ (∀ k, k ∈ seen0 → k ∈ seen) ∧ key ∈ seen ∧ fs.length ≤ n') (by with_unfolding_all passes_own) ?iturn n4 h4
          clear h4
          (try clear F2); (try clear N2); (try clear T2); (try clear B2); (try clear X2); (try clear P2); (try clear D2); (try clear hs2); (try clear hY2); (try clear c2); (try clear m0); (try clear m1); (try clear m2); (try clear m3); (try clear m4); (try clear c3); (try clear c3'); (try clear c3''); (try clear c4); (try clear c4'); (try clear c4''); (try clear c5); (try clear c5'); (try clear c6); (try clear hval); (try clear hvx); (try clear hvd); (try clear hvs); (try clear hn2Z); (try clear q1); (try clear q2); (try clear q1'); (try clear q1''); (try clear q2'); (try clear q2''); (try clear q3); (try clear q4); (try clear hfsl); (try clear hl5); (try clear hz5); (try clear hz6); (try clear hz7); (try clear hmemk)
          --[
          intro n' s4 X92 againI
          refine park fun P9 k9 => ?_
          obtain ⟨seen, fin1, fs, H, Dd1, hsn1, hmu, hmono, hks, hln⟩ := X92
          refine k9 ?_
          clear k9 P9
          refine park fun P9 k9 => ?_
          cases H with
          | @mk gZ mZ Z hZ tkZ T2 B2 X2 P2 D2 F2 N2 hs2 hY2 c2 m0 m1 m2 m3 m4 hm2 =>
          refine k9 ?_
          clear k9 P9
          refine park fun P9 k9 => ?_
          obtain ⟨o2, kvs, c4, c4', c4''⟩ := c2.dct
          obtain ⟨svs, svn, c5, c5'⟩ := c2.stk
          obtain ⟨itn, c6⟩ := c2.its
          obtain ⟨o1, Sf, c3, c3', c3''⟩ := c2.set
          refine k9 ?_
          clear k9 P9
          cases fs with
          | nil =>
            --[
            obtain rfl := StrsAre.nil_inv c5'
            walk_at "go"
            dsimp only [PostS]
            refine ⟨j9 _ ⟨seen, fin1, oI', .mk T2 B2 X2 P2 D2 (by assumption) (by assumption) hs2 hY2 c2 m0 m1 m2 m3 m4 trivial, Dd1, hsn1, fun j k hj hk => ?_, k3, k4⟩⟩
            rcases Nat.lt_succ_iff_lt_or_eq.mp hj with hj | rfl
            · exact hmono _ (hall j k hj hk)
            · rw [hkey] at hk
              cases hk
              exact hks
            --]
          | cons f r =>
            refine park fun P9 k9 => ?_
            obtain ⟨ma, mit, hfn, hIf, hIm⟩ := c2.fms f (.head _)
            refine k9 ?_
            clear k9 P9
            rw [List.map_cons, List.reverse_cons] at c5' c6
            refine park fun P9 k9 => ?_
            obtain ⟨us, ut, rfl, c5''⟩ := strs_snoc c5'
            refine k9 ?_
            clear k9 P9
            have hfl : (W.listOf f.nd.svs.toArray f.nd.sn) = (W.listOf f.nd.svs.toArray f.nd.sn) := rfl
            have hvs : (f.nd.sa, W.listOf f.nd.svs.toArray f.nd.sn) ∈ Z := hY2 _ (.tail _ (hnds f.nd hfn _ (.tail _ (.tail _ (.head _)))))
            have hfsl : (f :: r).length ≤ 1000 := by
              have := List.Nodup.length_le_of_subset Dd1.nod (fun k hk => Dd1.key k ((Dd1.see k).mpr (.inr hk)))
              simp at this
              simp
              lia
            have hzu : us.length ≤ 1000000 := by rw [StrsAre.length c5'']; simp at hfsl ⊢; lia
            have hzr : (List.map (fun f => Value.ref f.mw) r).reverse.length ≤ 1000000 := by simp at hfsl ⊢; lia
            have hsc : scOf S.nds f.nd.key = f.nd.succ := scOf_nd hnd hfn
            have nodk : f.nd.key ∉ r.map (·.nd.key) := by
              have := Dd1.nod
              rw [List.map_cons, List.map_cons, List.nodup_cons, List.map_map] at this
              exact this.1
            have hvb : (valueAt kvs f.nd.key).isSome = true := by rw [valueAt_some, c4''.keys]; simp
            have hz7 : kvs.length ≤ sizeLine := seven_le (by rw [← List.length_map (f := (·.1)), c4''.keys]; simp at hfsl ⊢; lia)
            have e1 : f.it ≠ stk := neN (by lia)
            have e2 : f.it ≠ its := neN (by lia)
            have e3 : f.it ≠ sn := neN (by lia)
            have e4 : f.it ≠ nd := neN (by lia)
            have e5 : f.it ≠ I := neN (by lia)
            have e6 : f.mw ≠ f.it := ne_obj hs2 ma mit (by simp)
            walk_at "go"
            rename News _ _ _ _ => N4
            rename Fr _ _ _ _ => F4
            cases hx : (scOf S.nds f.nd.key)[f.pos]? with
            | some c =>
              refine park fun P9 k9 => ?_
              obtain ⟨ct, hct⟩ := StrsAre.get (ok.nds f.nd hfn) f.pos c (by rw [← hsc]; exact hx)
              refine k9 ?_
              clear k9 P9
              refine callWith_mw (N4 _ ma).1 (mw_item F4 N4 hs2 ma mit hvs hct fun h6 F6 N6 => ?_)
              walk_at "go"
              rename News _ _ _ _ => N9
              rename Fr _ _ _ _ => F9
              refine again _ _ ?lt ⟨seen, fin1, { f with pos := f.pos + 1 } :: r, c, .mk T2 B2 X2 P2 D2 F9 N9 hs2.upd ?yy ?cc (by walk_at "loc") (by walk_at "loc") (by walk_at "loc") (by walk_at "loc") (by walk_at "loc") ⟨ct, by walk_at "loc"⟩, Dd1.next hx, hsn1, ?ky, Nat.le_refl _, hmono, .inl hks⟩
              case lt =>
                have := muF_next (r := r.map Fm.pl) hx
                rw [List.map_cons] at hmu ⊢
                have e8 : (f.nd.key, f.pos) = Fm.pl f := rfl
                have e9 : Fm.pl { f with pos := f.pos + 1 } = (f.nd.key, f.pos + 1) := rfl
                rw [e9]
                rw [e8] at this
                lia
              case ky => exact hcl f.nd hfn c (by rw [← hsc]; exact List.mem_of_getElem? hx)
              case yy =>
                intro X90 hq
                refine park fun P9 k9 => ?_
                obtain ⟨b, o⟩ := X90
                refine k9 ?_
                clear k9 P9
                exact mem_upd_ne (hY2 _ hq) (neN (by have := hYb _ hq; dsimp only at this; lia))
              case cc =>
                refine ⟨⟨us ++ [.str f.nd.key ut], svn, mem_upd_ne c5 e1.symm, by rw [List.map_cons, List.reverse_cons]; exact c5'⟩, ⟨itn, ?_⟩, ?_, ⟨o1, Sf, mem_upd_ne c3 e3.symm, c3', c3''⟩, ⟨o2, kvs, mem_upd_ne c4 e4.symm, c4', KvOf.same c4'' rfl⟩, c2.nod⟩
                · rw [List.map_cons, List.reverse_cons]
                  exact mem_upd_ne c6 e2.symm
                · intro f' hf'
                  rcases List.mem_cons.mp hf' with rfl | hf'
                  · exact ⟨mem_upd_ne ma e6, mem_upd_self mit, hfn, hIf, hIm⟩
                  · refine park fun P9 k9 => ?_
                    obtain ⟨x1, x2, x3, x4, x5⟩ := c2.fms f' (.tail _ hf')
                    refine k9 ?_
                    clear k9 P9
                    refine ⟨mem_upd_ne x1 (ne_obj hs2 x1 mit (by simp)), mem_upd_ne x2 fun z => ?_, x3, x4, x5⟩
                    have := c2.nod
                    rw [List.map_cons, List.nodup_cons] at this
                    exact this.1 (List.mem_map.mpr ⟨f', hf', z⟩)
            | none =>
              have hno : f.nd.svs[f.pos]? = none := by
                rw [List.getElem?_eq_none_iff, StrsAre.length (ok.nds f.nd hfn), ← hsc]
                exact List.getElem?_eq_none_iff.mp hx
              refine callWith_mw (N4 _ ma).1 (mw_end F4 N4 hs2 ma mit hvs hno rfl fun h6 h7 e F6 N6 hx6 => ?_)
              refine caught_new0 (X := "StopIteration") (T' := "StopIteration") hx6 F6 N6 B2 XB TB D2 T2 ?ex PyProof.Rows.Boot.«StopIteration» (by decide) stop_exc stop_tup stop_sub ?_
              case ex => k_is
              intro h8 g8 T8 F8 N8 B8 X8 P8 D8
              walk_at "go"
              rename News _ _ _ _ => N9
              rename Fr _ _ _ _ => F9
              rename Obj.IsDictOf _ _ _ => hd9
              refine againI _ _ ?lt ⟨seen, fin1 ++ [f.nd.key], r, .mk T8 B8 X8 P8 D8 F9 N9 ?ss ?yy ?cc m0 m1 m2 m3 m4 trivial, Dd1.pop hx, hsn1, Nat.le_trans (Nat.add_le_add_left muF_pop _) hmu, hmono, hks, Nat.le_refl _⟩
              case lt => simp at hln; lia
              case ss => walk_at "sep"
              case yy =>
                intro X90 hq
                refine park fun P9 k9 => ?_
                obtain ⟨b, o⟩ := X90
                have hq' := hY2 _ hq
                obtain ⟨y1, y2, y3, y4⟩ := hYn _ hq
                refine k9 ?_
                clear k9 P9
                have y5 : b ≠ f.it := neN (by have := hYb _ hq; dsimp only at this; lia)
                dsimp only at y1 y2 y3 y4
                k_mem
              case cc =>
                refine ⟨⟨us, _, by k_mem, c5''⟩, ⟨_, by k_mem⟩, ?_, ⟨o1, Sf, by k_mem, c3', c3''⟩, ⟨_, _, by k_mem, hd9, KvOf.pop c4'' nodk⟩, ?_⟩
                · intro f' hf'
                  refine park fun P9 k9 => ?_
                  obtain ⟨x1, x2, x3, x4, x5⟩ := c2.fms f' (.tail _ hf')
                  refine k9 ?_
                  clear k9 P9
                  have z1 : f'.it ≠ f.it := fun z => by
                    have := c2.nod
                    rw [List.map_cons, List.nodup_cons] at this
                    exact this.1 (List.mem_map.mpr ⟨f', hf', z⟩)
                  have z2 : f'.mw ≠ f.it := ne_obj hs2 x1 mit (by simp)
                  have z3 : f'.it ≠ stk := neN (by lia)
                  have z4 : f'.it ≠ its := neN (by lia)
                  have z5 : f'.it ≠ nd := neN (by lia)
                  have z6 : f'.mw ≠ stk := neN (by lia)
                  have z7 : f'.mw ≠ its := neN (by lia)
                  have z8 : f'.mw ≠ nd := neN (by lia)
                  exact ⟨by k_mem, by k_mem, x3, x4, x5⟩
                · exact (List.nodup_cons.mp c2.nod).2
          --]
end
end
section
local macro_rules | `(tactic| walk_at "call type:bool") => ln "hdw" "(call (Value.type \"bool\") [Value.ref _])|bool_M ?N ?m ?z ?_|Na mm zL|"
local macro_rules | `(tactic| walk_at "call type:tuple") => ln "hdwK" "(call (Value.type \"tuple\") [Value.ref _])|tuple_M ?F ?N ?m ?z ?_|Fa Na mm zL|tuD tuh tuF tuN tul"
local macro_rules | `(tactic| walk_at "call builtin:list.clear") => ln "hdwK" "(call (Value.builtin _) [Value.ref _])|clear_M ?F ?N ?s ?m ?z ?ne ?_|Fa Na mm sS zL nes|clh clF clN"
local macro_rules | `(tactic| walk_at "subscriptTail") => ln "hdw" "(subscriptTail _ _ (Value.ref _) (Value.str _ _))|kda_item (knd := PySem.strKind _ _) ?N ?m ?d (strKind_is _ _ _ _) ?l ?_|Na mm ds ls|"
local macro_rules | `(tactic| walk_at "setAttr ref") => ln "hdwK" "|set_dict ?k1 ?k2 ?k3 ?k4 ?k5 ?k6 ?k7 ?k8 ?k9 ?k10 ?k11 ?k12 ?k13 ?_|k1a k2a k3a k4I k5r k6i k7i k8i k9i k10g k11P k12U k13N|seh seF seN"
local macro_rules | `(tactic| walk_at "stop") => ln "q" "wpAny _ _ (pyIter _) _ _ _"
local macro_rules | `(tactic| walk_at "getMethod ref") => ln "hdw" "(getMethod (Value.ref _) (PySem.Str.ofString \"values\") _)|values_method (knd := PySem.strKind _ _) ?k1 ?k2 ?k3 ?_|k1a k2m k3s|"
local macro_rules | `(tactic| walk_at "call builtin:dict.values") => ln "hdw" "(call _ [Value.ref _])|values_M (knd := PySem.strKind _ _) ?F ?N ?k2 ?k3 ?k4 ?_|Fa Na k2m k3s k4s|vwV vwh vwF vwN vwl"
local macro_rules | `(tactic| walk_at "stop") => ln "q" "wpAny _ _ (call (Value.ref 134) _) _ _ _"
section
theorem anew_Ops_01 : True := by w_top off; trivial
theorem perm2 {α : Type} {a b : α} {c r : List α} : (a :: b :: (c ++ r)).Perm (c ++ a :: b :: r) := (List.Perm.cons a List.perm_middle.symm).trans List.perm_middle.symm
section
variable {w : World} {p : Program} {loose : List Str} {mean : ExcName → Option Value} {mg mb : Str → Option Value}
  {dp un : Nat} {gd : Option (List Code)} {cn : Str} {cs : Scope} {a : Addr} {ccd : Value} {cl : List (Str × Addr)} {outer : List Env} {A₀ : Around} {base h₀ : Heap} {L : Addr} {m : Str → Option Value} {s : Shared}
    {Q E : Value → Shared → Prop}
  (B : Below A₀ base outer h₀) (F : Fr h₀ L s.heap m) (X : (Mine.hd.heap_1 w.params).In h₀) (T : Top p loose mean mg mb h₀) (hk : cs.kind = .function)
include B F X T hk
--<
theorem active_tells (S : So) (rest : List (Addr × Obj)) (N : News h₀ L s.heap (S.cells 144 47 ++ rest)) (hs : Sep (S.cells 144 47 ++ rest)) (ok : S.ok PySem.Challenge.rw_tv0044_01.row.prog w) {ra : Addr} {rvs : List Value} {rn : Nat} (hr : S.rdy = some (ra, rvs, rn)) (hz : S.rds.length ≤ 10000)
  (hdp : dp + 2 < recursionLimit) (hun : un + 16 < cLine)
  (ret : ∀ h' tk', Fr h₀ L h' m → News h₀ L h' (S.cells 144 47 ++ rest) → Q (.bool (decide (S.nfi < S.npo) || !S.rds.isEmpty)) { s with heap := h', toks := tk' }) :
    wpAny (model PySem.Challenge.rw_tv0044_01.row.prog w) (ktrTop dp un gd cn cs L a ccd cl outer) (call (.ref 113) [.ref S.x]) Q E s := by
  revert X; k_fill; intro X
  have hrs : StrsAre rvs S.rds := by have := ok.rds; rw [hr] at this; exact this
  have hzz : rvs.length ≤ 1000000 := by rw [StrsAre.length hrs]; lia
  have hemp : rvs.isEmpty = S.rds.isEmpty := by
    have := StrsAre.length hrs
    cases rvs <;> cases hS : S.rds <;> simp_all
  have hx : (S.x, instObj 144 S.dx) ∈ S.cells 144 47 ++ rest := List.mem_append_left _ (.head _)
  have hdx : (S.dx, dictOf (sorterEs S.hs S.tk S.n2i (.ref ra) (.int S.npo S.t1) (.int S.nfi S.t2)) S.dn) ∈ S.cells 144 47 ++ rest := List.mem_append_left _ (So.mem_dx1 hr)
  have hra : (ra, W.listOf rvs.toArray rn) ∈ S.cells 144 47 ++ rest := List.mem_append_left _ (So.mem_ra hr)
  generalize hl : S.cells 144 47 ++ rest = news1 at N hs hx hdx hra ret
  refine wpAny_call ?_
  k_dflt ktr_enter
  walk_at "go"
  all_goals refine (?_ : ∀ h' tk' b, b = (decide (S.nfi < S.npo) || !S.rds.isEmpty) → Fr h₀ L h' m → News h₀ L h' news1 → Q (.bool b) { s with heap := h', toks := tk' }) _ _ _ ?_ (by assumption) (by assumption)
  · rintro h' tk' b rfl F N
    exact ret h' tk' F N
  · rw [decide_eq_true (by assumption)]; rfl
  · rintro h' tk' b rfl F N
    exact ret h' tk' F N
  · rw [decide_eq_false (by assumption), hemp]; rfl
theorem ready_tells (S : So) (rest : List (Addr × Obj)) (N : News h₀ L s.heap (S.cells 144 47 ++ rest)) (hs : Sep (S.cells 144 47 ++ rest)) (ok : S.ok PySem.Challenge.rw_tv0044_01.row.prog w) {ra : Addr} {rvs : List Value} {rn : Nat} (hr : S.rdy = some (ra, rvs, rn)) (hz : S.rds.length ≤ 10000)
  (hne : S.rds ≠ []) (hin : ∀ k ∈ S.rds, k ∈ S.nds.map (·.key)) (hdp : dp + 2 < recursionLimit) (hun : un + 16 < cLine)
  (ret : ∀ h' tk' t nds' rn' t1', ({ S with nds := nds', rdy := some (ra, [], rn'), rds := [], npo := S.npo + S.rds.length, t1 := t1' } : So).ok PySem.Challenge.rw_tv0044_01.row.prog w → nds'.map Nd.pn = outG (S.nds.map Nd.pn) S.rds → nds'.map Nd.sk = S.nds.map Nd.sk →
    Fr h₀ L h' m → News h₀ L h' ((t, tupOf rvs.toArray 0) :: (({ S with nds := nds', rdy := some (ra, [], rn'), rds := [], npo := S.npo + S.rds.length, t1 := t1' } : So).cells 144 47 ++ rest)) →
    Sep ((t, tupOf rvs.toArray 0) :: (({ S with nds := nds', rdy := some (ra, [], rn'), rds := [], npo := S.npo + S.rds.length, t1 := t1' } : So).cells 144 47 ++ rest)) → Q (.ref t) { s with heap := h', toks := tk' }) :
    wpAny (model PySem.Challenge.rw_tv0044_01.row.prog w) (ktrTop dp un gd cn cs L a ccd cl outer) (call (.ref 106) [.ref S.x]) Q E s := by
  revert X; k_fill; intro X
  have hrs : StrsAre rvs S.rds := by have := ok.rds; rw [hr] at this; exact this
  have hzz : rvs.length ≤ 16000 := by rw [StrsAre.length hrs]; lia
  have hzy : rvs.length ≤ 1000000 := by lia
  have hne' : rvs ≠ [] := fun e => hne (List.length_eq_zero_iff.mp (by rw [← StrsAre.length hrs, e]; rfl))
  have hx : (S.x, instObj 144 S.dx) ∈ S.cells 144 47 ++ rest := List.mem_append_left _ (.head _)
  have hdx : (S.dx, dictOf (sorterEs S.hs S.tk S.n2i (.ref ra) (.int S.npo S.t1) (.int S.nfi S.t2)) S.dn) ∈ S.cells 144 47 ++ rest := List.mem_append_left _ (So.mem_dx1 hr)
  have hra : (ra, W.listOf rvs.toArray rn) ∈ S.cells 144 47 ++ rest := List.mem_append_left _ (So.mem_ra hr)
  generalize hl : S.cells 144 47 ++ rest = news1 at N hs hx hdx hra
  refine wpAny_call ?_
  k_dflt ktr_enter
  walk_at "go"
  rename_i tD th tl ha6 hb6 hc6 hd6
  rename News _ _ _ _ => N1
  rename Fr _ _ _ _ => F1
  rename Below _ _ _ _ => B'
  rename Top _ _ _ _ _ _ => T'
  rename Frag.In _ _ => X'
  have s1 : Sep ((tD, tupOf rvs.toArray 0) :: news1) := Sep.cons hs tl
  refine For_invVF F1 rfl rfl ?_
  walk1
  refine iterTup (vs := rvs) (ep := 0) (fun i m l => ∃ nds, l = (tD, tupOf rvs.toArray 0) :: (({ S with nds := nds } : So).cells 144 47 ++ rest) ∧ Sep l ∧ ({ S with nds := nds } : So).ok PySem.Challenge.rw_tv0044_01.row.prog w ∧
    nds.map Nd.pn = outG (S.nds.map Nd.pn) (S.rds.take i) ∧ nds.map Nd.sk = S.nds.map Nd.sk ∧ m (Str.ofString "self") = some (.ref S.x) ∧ m (Str.ofString "n2i") = some (.ref S.n2i) ∧ m (Str.ofString "result") = some (.ref tD))
    rfl (.inr fun i m l => ?_) F1 N1 ?_ ?_ ?_
  · intro X90
    refine park fun P9 k9 => ?_
    obtain ⟨nds, rfl, _⟩ := X90
    refine k9 ?_
    clear k9 P9
    exact .head _
  · exact ⟨S.nds, by rw [hl], s1, ok, rfl, rfl, by walk_at "loc", by walk_at "loc", by walk_at "loc"⟩
  · intro I i u m₁ news₁ h5 tk5 oI hu X99 hoff F5 N5
    refine hideQ fun T9 k9 => ?_
    refine park fun P9 k9 => ?_
    obtain ⟨nds, rfl, s5, ok5, hg5, hk5, hm1, hm2, hm3⟩ := X99
    obtain ⟨y, t5, rfl, hy⟩ := StrsAre.item hrs i u hu
    have s5c : Sep ((I, oI) :: (tD, tupOf rvs.toArray 0) :: (({ S with nds := nds } : So).cells 144 47 ++ rest)) := s5.cons_ne hoff
    obtain ⟨na, v, nb, rfl, rfl⟩ := key_at (nds := nds) (k := y) (by rw [sk_keys hk5]; exact hin y (List.mem_of_getElem? hy))
    refine k9 ?_
    clear k9 P9
    have hval := valueAt_nd (So.keys ok5) (v := v) (List.mem_append_right _ (.head _))
    have hdic := ok5.dict
    have N5' : News _ _ h5 (({ S with nds := na ++ v :: nb } : So).cells 144 47 ++ (I, oI) :: (tD, tupOf rvs.toArray 0) :: rest) := fun q hq => N5 q (perm2.mem_iff.mpr hq)
    have s5' := s5c.perm perm2
    clear N5 s5c s5 hoff
    have hvx : (v.x, ({ cls := .ref 47, dict := some v.dx, data := .plain, slots := [some (.str v.key v.kt), some (.int v.np v.pt), some (.ref v.sa)].toArray } : Obj)) ∈ ({ S with nds := na ++ v :: nb } : So).cells 144 47 ++ (I, oI) :: (tD, tupOf rvs.toArray 0) :: rest := List.mem_append_left _ (So.mem_nd (v := v) (List.mem_append_right _ (.head _)) (.head _))
    have hvd : (v.dx, dictOf [] 0) ∈ ({ S with nds := na ++ v :: nb } : So).cells 144 47 ++ (I, oI) :: (tD, tupOf rvs.toArray 0) :: rest := List.mem_append_left _ (So.mem_nd (v := v) (List.mem_append_right _ (.head _)) (.tail _ (.head _)))
    have hn2 : (S.n2i, S.n2o) ∈ ({ S with nds := na ++ v :: nb } : So).cells 144 47 ++ (I, oI) :: (tD, tupOf rvs.toArray 0) :: rest := List.mem_append_left _ (.tail _ (.tail _ (.head _)))
    generalize hl5 : ({ S with nds := na ++ v :: nb } : So).cells 144 47 ++ (I, oI) :: (tD, tupOf rvs.toArray 0) :: rest = news5 at N5' s5' hvx hvd hn2
    walk_at "go"
    rename News _ _ _ _ => N8
    rename Fr _ _ _ _ => F8
    rw [← hl5] at N8 s5'
    refine park fun P9 k9 => ?_
    obtain ⟨N9, s9⟩ := news_nx (S := { S with nds := na ++ v :: nb }) (C := 144) (Ci := 47) (rest := (I, oI) :: (tD, tupOf rvs.toArray 0) :: rest) (v := v) (np' := -1) (pt' := _) N8 rfl s5' rfl
    refine k9 ?_
    clear k9 P9
    have s10 := s9.perm perm2.symm
    have kn : ((na ++ v :: nb).map (·.key)).Nodup := So.keys ok5
    refine k9 _ _ ?_
    dsimp only [PostG]
    refine EndG.intro F8 (fun q hq => N9 q (perm2.mem_iff.mp hq)) (Sep.head s10) ⟨_, rfl, s10.tail, ok_put (S := { S with nds := na ++ v :: nb }) rfl ok5 rfl rfl (ok5.nds v (List.mem_append_right _ (.head _))), ?_, ?_, by walk_at "loc", by walk_at "loc", by walk_at "loc"⟩
    · have ht : S.rds.take (i + 1) = S.rds.take i ++ [v.key] := by rw [List.take_add_one, hy]; rfl
      rw [ht, outG_snoc, ← hg5]
      exact pn_setN kn (by simp [Nd.pn])
    · rw [sk_put]; exact hk5
  · intro m₁ news₁ h9 tk9 X94 F9 N9
    refine park fun P9 k9 => ?_
    obtain ⟨nds, rfl, s9, ok9, hg9, hk9, hm1, hm2, hm3⟩ := X94
    refine k9 ?_
    clear k9 P9
    dsimp only
    have N9' : News _ _ h9 (({ S with nds := nds } : So).cells 144 47 ++ (tD, tupOf rvs.toArray 0) :: rest) := fun q hq => N9 q (List.perm_middle.mem_iff.mp hq)
    have s9 := s9.perm List.perm_middle.symm
    clear N9
    have hx : (S.x, instObj 144 S.dx) ∈ ({ S with nds := nds } : So).cells 144 47 ++ (tD, tupOf rvs.toArray 0) :: rest := (List.mem_append_left _ (.head _))
    have hdx : (S.dx, dictOf (sorterEs S.hs S.tk S.n2i (.ref ra) (.int S.npo S.t1) (.int S.nfi S.t2)) S.dn) ∈ ({ S with nds := nds } : So).cells 144 47 ++ (tD, tupOf rvs.toArray 0) :: rest := (List.mem_append_left _ (So.mem_dx1 (S := { S with nds := nds }) hr))
    have hra : (ra, W.listOf rvs.toArray rn) ∈ ({ S with nds := nds } : So).cells 144 47 ++ (tD, tupOf rvs.toArray 0) :: rest := (List.mem_append_left _ (So.mem_ra (S := { S with nds := nds }) hr))
    have htD : (tD, tupOf rvs.toArray 0) ∈ ({ S with nds := nds } : So).cells 144 47 ++ (tD, tupOf rvs.toArray 0) :: rest := List.mem_append_right _ (.head _)
    have r1 : S.x ≠ ra := ne_obj s9 hx hra (by simp)
    have r2 : S.dx ≠ ra := ne_obj s9 hdx hra (by simp)
    have r3 : tD ≠ ra := ne_obj s9 htD hra (by simp)
    generalize hl9 : ({ S with nds := nds } : So).cells 144 47 ++ (tD, tupOf rvs.toArray 0) :: rest = news9 at N9' s9 hx hdx hra htD
    walk_at "go"
    rename News _ _ _ _ => N10
    rename Fr _ _ _ _ => F10
    rw [← hl9, upd_ra (S := { S with nds := nds }) (r := (ra, rvs, rn)) hr (by rw [hl9]; exact s9) [] (rn + 1) []] at N10
    have s11 : Sep (({ S with nds := nds, rdy := some (ra, [], rn + 1), rds := [] } : So).cells 144 47 ++ (tD, tupOf rvs.toArray 0) :: rest) := by
      rw [← hl9] at s9
      have := s9.upd (a := ra) (o := W.listOf #[] (rn + 1))
      rw [upd_ra (S := { S with nds := nds }) (r := (ra, rvs, rn)) hr s9 [] (rn + 1) []] at this
      exact this
    refine park fun P9 k9 => ?_
    obtain ⟨N11, s12⟩ := news_dx (S := { S with nds := nds, rdy := some (ra, [], rn + 1), rds := [] }) ({ S with nds := nds, rdy := some (ra, [], rn + 1), rds := [], npo := S.npo + S.rds.length, t1 := _ }) N10 s11 (by rw [StrsAre.length hrs]; rfl) rfl rfl rfl rfl rfl rfl
    refine k9 ?_
    clear k9 P9
    refine ret _ _ tD nds (rn + 1) _ ⟨ok9.dict, ok9.low, ok9.nds, .nil⟩ ?_ hk9 F10 (fun q hq => N11 q (List.perm_middle.mem_iff.mpr hq)) (s12.perm List.perm_middle)
    rw [hg9, StrsAre.length hrs, List.take_length]
-->
theorem done_code (S : So) (rest : List (Addr × Obj)) (N : News h₀ L s.heap (S.cells 144 47 ++ rest)) (hs : Sep (S.cells 144 47 ++ rest)) (ok : S.ok PySem.Challenge.rw_tv0044_01.row.prog w) {ra : Addr} {rvs : List Value} {rn : Nat} (hr : S.rdy = some (ra, rvs, rn))
  (vs : List Value) (ks : List Str) (hks : StrsAre vs ks) (hkz : ks.length ≤ 500) (hz : S.rds.length ≤ 10000) (hsz : S.nds.length ≤ 1000) (hsu : ∀ v ∈ S.nds, v.succ.length ≤ 1000) (hcl : ∀ v ∈ S.nds, ∀ c ∈ v.succ, c ∈ S.nds.map (·.key)) (hok : DoneOk (S.nds.map Nd.pn, S.rds) ks)
  (hdp : dp + 2 < recursionLimit) (hun : un + 16 < cLine)
  (ret : ∀ h' tk' nds' rvs' rn' rds' t2', ({ S with nds := nds', rdy := some (ra, rvs', rn'), rds := rds', nfi := S.nfi + ks.length, t2 := t2' } : So).ok PySem.Challenge.rw_tv0044_01.row.prog w → (nds'.map Nd.pn, rds') = ks.foldl doneOne (S.nds.map Nd.pn, S.rds) → nds'.map Nd.sk = S.nds.map Nd.sk →
    Fr h₀ L h' m → News h₀ L h' (({ S with nds := nds', rdy := some (ra, rvs', rn'), rds := rds', nfi := S.nfi + ks.length, t2 := t2' } : So).cells 144 47 ++ rest) →
    Sep (({ S with nds := nds', rdy := some (ra, rvs', rn'), rds := rds', nfi := S.nfi + ks.length, t2 := t2' } : So).cells 144 47 ++ rest) → Q .none { s with heap := h', toks := tk' }) :
    codeAny (model PySem.Challenge.rw_tv0044_01.row.prog w) (ktrTop dp un gd cn cs L a ccd cl outer) (.call (.ref 127) ⟨.ref S.x :: vs, []⟩) (fun r s' => match r with | .ok (.ret v) => Q v s' | .ok _ => False | .error e => E e s') s := by
  revert X; k_fill; intro X
  have hvl : vs.length ≤ 1000000 := by rw [StrsAre.length hks]; lia
  k_dflt (refine' code_rest (vs := vs) (pre := [(Str.ofString "self", Value.ref S.x)]) (nr := Str.ofString "nodes") ?k1 ?k2 ?k3 ?k4 ?k5 ?kA ?kF ?kK ?k6 ?k7 ?k8 ?kV ?kP ?kB ?_ ?c2 ?c3 ?c4 ?c5; (case kA => exact rfl); (case kF => exact rfl); (case kK => assumption); (case k1 => k_asm); (case k2 => k_asm); (case k3 => k_asm); (case k4 => k_asm); (case k5 => k_asm); (case k6 => k_is); (case k7 => k_is); (case k8 => k_room); (case kV => exact bind_rest1 rfl rfl); (case kP => exact seven_le (by rw [StrsAre.length hks]; lia)); (case kB => exact fun _ => locs rfl); (case c5 => decide); (case c2 => exact rfl); (case c3 => exact rfl); (case c4 => exact rfl); k_whole)
  intro D' g' L' h' l1 FG' F' N' B' X' T'
  (try dsimp only); (try k_fold)
  have s0 : Sep (S.cells 144 47 ++ (D', tupOf vs.toArray 0) :: rest) := (Sep.cons hs l1).perm List.perm_middle.symm
  have N0 : News g' L' h' (S.cells 144 47 ++ (D', tupOf vs.toArray 0) :: rest) := fun q hq => N' q (List.perm_middle.mem_iff.mp hq)
  clear N'
  have hx : (S.x, instObj 144 S.dx) ∈ S.cells 144 47 ++ (D', tupOf vs.toArray 0) :: rest := List.mem_append_left _ (.head _)
  have hdx : (S.dx, dictOf (sorterEs S.hs S.tk S.n2i (.ref ra) (.int S.npo S.t1) (.int S.nfi S.t2)) S.dn) ∈ S.cells 144 47 ++ (D', tupOf vs.toArray 0) :: rest := List.mem_append_left _ (So.mem_dx1 hr)
  generalize hl : S.cells 144 47 ++ (D', tupOf vs.toArray 0) :: rest = news1 at N0 s0 hx hdx
  walk_at "go"
  rename News _ _ _ _ => N1
  rename Fr _ _ _ _ => F1
  refine For_invVF F1 rfl rfl ?_
  walk1
  refine iterTup (vs := vs) (ep := 0) (fun i m l => ∃ nds rvs rn rds t2, l = ({ S with nds := nds, rdy := some (ra, rvs, rn), rds := rds, nfi := S.nfi + (i : Nat), t2 := t2 } : So).cells 144 47 ++ (D', tupOf vs.toArray 0) :: rest ∧ Sep l ∧
    ({ S with nds := nds, rdy := some (ra, rvs, rn), rds := rds, nfi := S.nfi + (i : Nat), t2 := t2 } : So).ok PySem.Challenge.rw_tv0044_01.row.prog w ∧ (nds.map Nd.pn, rds) = (ks.take i).foldl doneOne (S.nds.map Nd.pn, S.rds) ∧ nds.map Nd.sk = S.nds.map Nd.sk ∧ rds.length ≤ S.rds.length + i * 1000 ∧
    m (Str.ofString "self") = some (.ref S.x) ∧ m (Str.ofString "n2i") = some (.ref S.n2i))
    rfl (.inr fun i m l => ?_) F1 N1 ?_ ?_ ?_
  · intro X90
    refine park fun P9 k9 => ?_
    obtain ⟨nds, rvs, rn, rds, t2, rfl, _⟩ := X90
    refine k9 ?_
    clear k9 P9
    exact List.mem_append_right _ (.head _)
  · refine ⟨S.nds, rvs, rn, S.rds, S.t2, ?_, s0, ?_, rfl, rfl, by lia, by walk_at "loc", by walk_at "loc"⟩
    · rw [← hl]
      unfold So.cells So.rcells So.dobj So.rv
      simp [hr]
      try exact ⟨rfl, rfl⟩
    · exact ⟨ok.dict, ok.low, ok.nds, by have := ok.rds; rw [hr] at this; exact this⟩
  · intro I i u m₁ news₁ h5 tk5 oI hu X99 hoff F5 N5
    refine hideQ fun T9 k9 => ?_
    refine park fun P9 k9 => ?_
    obtain ⟨nds, rv1, rn1, rd1, tt1, rfl, s5, ok5, hg5, hk5, hz5, hm1, hm2⟩ := X99
    obtain ⟨y, t5, rfl, hy⟩ := StrsAre.item hks i u hu
    have hil : i < ks.length := (List.getElem?_eq_some_iff.mp hy).1
    obtain ⟨d1, d2⟩ := done_at hok hy
    refine k9 ?_
    clear k9 P9
    rw [← hg5] at d1 d2
    dsimp only at d1 d2
    rw [keys_pn] at d2
    refine park fun P9 k9 => ?_
    obtain ⟨na, v, nb, rfl, rfl⟩ := key_at d2
    refine k9 ?_
    clear k9 P9
    have kn : ((na ++ v :: nb).map (·.key)).Nodup := So.keys ok5
    have hvm : v ∈ na ++ v :: nb := List.mem_append_right _ (.head _)
    rw [npOf_nd kn hvm] at d1
    have hval := valueAt_nd kn hvm
    have hdic := ok5.dict
    have hlow := ok5.low
    have s5c : Sep ((I, oI) :: (({ S with nds := na ++ v :: nb, rdy := some (ra, rv1, rn1), rds := rd1, nfi := S.nfi + (i : Nat), t2 := tt1 } : So).cells 144 47 ++ (D', tupOf vs.toArray 0) :: rest)) := s5.cons_ne hoff
    have N5' : News _ _ h5 (({ S with nds := na ++ v :: nb, rdy := some (ra, rv1, rn1), rds := rd1, nfi := S.nfi + (i : Nat), t2 := tt1 } : So).cells 144 47 ++ (I, oI) :: (D', tupOf vs.toArray 0) :: rest) := fun q hq => N5 q (List.perm_middle.mem_iff.mp hq)
    have s5' := s5c.perm List.perm_middle.symm
    clear N5 s5c s5 hoff
    generalize hS1 : ({ S with nds := na ++ v :: nb, rdy := some (ra, rv1, rn1), rds := rd1, nfi := S.nfi + (i : Nat), t2 := tt1 } : So) = S1 at N5' s5' ok5 hdic
    have e1 : S1.x = S.x := by rw [← hS1]
    have e2 : S1.n2i = S.n2i := by rw [← hS1]
    have e3 : S1.nds = na ++ v :: nb := by rw [← hS1]
    have hvx : (v.x, ({ cls := .ref 47, dict := some v.dx, data := .plain, slots := [some (.str v.key v.kt), some (.int (-1) v.pt), some (.ref v.sa)].toArray } : Obj)) ∈ S1.cells 144 47 ++ (I, oI) :: (D', tupOf vs.toArray 0) :: rest := by
      rw [← d1]
      exact List.mem_append_left _ (So.mem_nd (v := v) (e3 ▸ hvm) (.head _))
    have hvd : (v.dx, dictOf [] 0) ∈ S1.cells 144 47 ++ (I, oI) :: (D', tupOf vs.toArray 0) :: rest := List.mem_append_left _ (So.mem_nd (v := v) (e3 ▸ hvm) (.tail _ (.head _)))
    have hn2 : (S.n2i, S1.n2o) ∈ S1.cells 144 47 ++ (I, oI) :: (D', tupOf vs.toArray 0) :: rest := by
      rw [← e2]
      exact List.mem_append_left _ (.tail _ (.tail _ (.head _)))
    have hdic' : S1.n2o.IsDictOf (PySem.strKind PySem.Challenge.rw_tv0044_01.row.prog w) ((na ++ v :: nb).map Nd.pair) := by rw [← e3]; exact ok5.dict
    generalize hl5 : S1.cells 144 47 ++ (I, oI) :: (D', tupOf vs.toArray 0) :: rest = news5 at N5' s5' hvx hvd hn2
    walk_at "go"
    rename News _ _ _ _ => N6
    rename Fr _ _ _ _ => F6
    rw [← hl5] at N6 s5'
    refine park fun P9 k9 => ?_
    obtain ⟨pq, N7, s7⟩ := news_nxE (S := S1) (C := 144) (Ci := 47) (rest := (I, oI) :: (D', tupOf vs.toArray 0) :: rest) (v := v) (-2) N6 e3 s5' rfl
    refine k9 ?_
    clear k9 P9
    have ok7 := ok_put (S := S1) (v' := { v with np := -2, pt := pq }) e3 ok5 rfl rfl (ok5.nds v (by rw [e3]; exact hvm))
    clear N6 s5' hvx hvd hn2 hl5 hdic hdic'
    have hvok : StrsAre v.svs v.succ := ok5.nds v (by rw [e3]; exact hvm)
    subst hS1
    dsimp only at N7 s7 ok7
    have hvm2 : ({ v with np := -2, pt := pq } : Nd) ∈ na ++ { v with np := -2, pt := pq } :: nb := List.mem_append_right _ (.head _)
    have hvx2 : (v.x, ({ cls := .ref 47, dict := some v.dx, data := .plain, slots := [some (.str v.key v.kt), some (.int (-2) pq), some (.ref v.sa)].toArray } : Obj)) ∈ ({ S with nds := na ++ { v with np := -2, pt := pq } :: nb, rdy := some (ra, rv1, rn1), rds := rd1, nfi := S.nfi + (i : Nat), t2 := tt1 } : So).cells 144 47 ++ (I, oI) :: (D', tupOf vs.toArray 0) :: rest := List.mem_append_left _ (So.mem_nd hvm2 (.head _))
    have hvd2 : (v.dx, dictOf [] 0) ∈ ({ S with nds := na ++ { v with np := -2, pt := pq } :: nb, rdy := some (ra, rv1, rn1), rds := rd1, nfi := S.nfi + (i : Nat), t2 := tt1 } : So).cells 144 47 ++ (I, oI) :: (D', tupOf vs.toArray 0) :: rest := List.mem_append_left _ (So.mem_nd hvm2 (.tail _ (.head _)))
    refine For_invVF F6 rfl rfl ?_
    walk_at "go"
    have sk7 : (na ++ { v with np := -2, pt := pq } :: nb).map Nd.sk = S.nds.map Nd.sk := by rw [sk_put]; exact hk5
    refine iterList (vs := v.svs) (ep := v.sn) (fun j m l => ∃ nds rv rn rd, l = ({ S with nds := nds, rdy := some (ra, rv, rn), rds := rd, nfi := S.nfi + (i : Nat), t2 := tt1 } : So).cells 144 47 ++ (I, oI) :: (D', tupOf vs.toArray 0) :: rest ∧ Sep l ∧
      ({ S with nds := nds, rdy := some (ra, rv, rn), rds := rd, nfi := S.nfi + (i : Nat), t2 := tt1 } : So).ok PySem.Challenge.rw_tv0044_01.row.prog w ∧ (nds.map Nd.pn, rd) = (v.succ.take j).foldl lessS (setN ((na ++ v :: nb).map Nd.pn) v.key (-2), rd1) ∧ nds.map Nd.sk = S.nds.map Nd.sk ∧ rd.length ≤ rd1.length + j ∧
      m (Str.ofString "self") = some (.ref S.x) ∧ m (Str.ofString "n2i") = some (.ref S.n2i))
      rfl (.inr fun j m l => ?_) F6 N7 ?_ ?_ ?_
    · intro X90
      refine park fun P9 k9 => ?_
      obtain ⟨nds, rv, rn, rd, rfl, _, _, _, hk, _⟩ := X90
      obtain ⟨v', hv', he⟩ := sk_mem (hk.trans sk7.symm) hvm2
      obtain ⟨_, _, _, _, h5, _, h7, h8⟩ := sk_eq he
      refine k9 ?_
      clear k9 P9
      have := So.mem_nd (C := 144) (Ci := 47) (S := { S with nds := nds, rdy := some (ra, rv, rn), rds := rd, nfi := S.nfi + (i : Nat), t2 := tt1 }) hv' (.tail _ (.tail _ (.head _)))
      rw [h5, h7, h8] at this
      exact List.mem_append_left _ this
    · refine ⟨_, rv1, rn1, rd1, rfl, s7, ok7, ?_, sk7, Nat.le_refl _, by walk_at "loc", by walk_at "loc"⟩
      rw [pn_setN kn (v' := { v with np := -2, pt := pq }) (n := -2) rfl]; rfl
    · intro I2 j u2 m₂ news₂ h7 tk7 oI2 hu2 X99 hoff2 F8 N8
      refine hideQ fun T9 k9 => ?_
      refine park fun P9 k9 => ?_
      obtain ⟨nds, rv, rn, rd, rfl, s8, ok8, hg8, hk8, hz8, hm3, hm4⟩ := X99
      obtain ⟨c, ct, rfl, hc⟩ := StrsAre.item hvok j u2 hu2
      have hck : c ∈ nds.map (·.key) := by
        obtain ⟨v0, hv0, he⟩ := sk_mem sk7.symm hvm2
        obtain ⟨_, h2, _⟩ := sk_eq he
        rw [sk_keys hk8]
        exact hcl v0 hv0 c (by rw [h2]; exact List.mem_of_getElem? hc)
      obtain ⟨ma, u, mb, rfl, rfl⟩ := key_at hck
      refine k9 ?_
      clear k9 P9
      have kn2 : ((ma ++ u :: mb).map (·.key)).Nodup := So.keys ok8
      have hum : u ∈ ma ++ u :: mb := List.mem_append_right _ (.head _)
      have hval2 := valueAt_nd kn2 hum
      have s8c : Sep ((I2, oI2) :: (({ S with nds := ma ++ u :: mb, rdy := some (ra, rv, rn), rds := rd, nfi := S.nfi + (i : Nat), t2 := tt1 } : So).cells 144 47 ++ (I, oI) :: (D', tupOf vs.toArray 0) :: rest)) := s8.cons_ne hoff2
      have N8' : News _ _ h7 (({ S with nds := ma ++ u :: mb, rdy := some (ra, rv, rn), rds := rd, nfi := S.nfi + (i : Nat), t2 := tt1 } : So).cells 144 47 ++ (I2, oI2) :: (I, oI) :: (D', tupOf vs.toArray 0) :: rest) := fun q hq => N8 q (List.perm_middle.mem_iff.mp hq)
      have s8' := s8c.perm List.perm_middle.symm
      clear N8 s8c s8 hoff2
      generalize hS2 : ({ S with nds := ma ++ u :: mb, rdy := some (ra, rv, rn), rds := rd, nfi := S.nfi + (i : Nat), t2 := tt1 } : So) = S2 at N8' s8' ok8
      have e1 : S2.x = S.x := by rw [← hS2]
      have e2 : S2.n2i = S.n2i := by rw [← hS2]
      have e3 : S2.nds = ma ++ u :: mb := by rw [← hS2]
      have e4 : S2.rdy = some (ra, rv, rn) := by rw [← hS2]
      have hum' : u ∈ S2.nds := by rw [e3]; exact hum
      have hrv : StrsAre rv rd := by
        have := ok8.rds
        rw [e4] at this
        rw [← hS2] at this
        exact this
      have hux : (u.x, ({ cls := .ref 47, dict := some u.dx, data := .plain, slots := [some (.str u.key u.kt), some (.int u.np u.pt), some (.ref u.sa)].toArray } : Obj)) ∈ S2.cells 144 47 ++ (I2, oI2) :: (I, oI) :: (D', tupOf vs.toArray 0) :: rest := List.mem_append_left _ (So.mem_nd hum' (.head _))
      have hud : (u.dx, dictOf [] 0) ∈ S2.cells 144 47 ++ (I2, oI2) :: (I, oI) :: (D', tupOf vs.toArray 0) :: rest := List.mem_append_left _ (So.mem_nd hum' (.tail _ (.head _)))
      have hn22 : (S.n2i, S2.n2o) ∈ S2.cells 144 47 ++ (I2, oI2) :: (I, oI) :: (D', tupOf vs.toArray 0) :: rest := by
        rw [← e2]
        exact List.mem_append_left _ (.tail _ (.tail _ (.head _)))
      have hdic2 : S2.n2o.IsDictOf (PySem.strKind PySem.Challenge.rw_tv0044_01.row.prog w) ((ma ++ u :: mb).map Nd.pair) := by rw [← e3]; exact ok8.dict
      have hx2 : (S.x, instObj 144 S2.dx) ∈ S2.cells 144 47 ++ (I2, oI2) :: (I, oI) :: (D', tupOf vs.toArray 0) :: rest := by
        rw [← e1]
        exact List.mem_append_left _ (.head _)
      have hdx2 : (S2.dx, dictOf (sorterEs S2.hs S2.tk S2.n2i (.ref ra) (.int S2.npo S2.t1) (.int S2.nfi S2.t2)) S2.dn) ∈ S2.cells 144 47 ++ (I2, oI2) :: (I, oI) :: (D', tupOf vs.toArray 0) :: rest := List.mem_append_left _ (So.mem_dx1 e4)
      have hra2 : (ra, W.listOf rv.toArray rn) ∈ S2.cells 144 47 ++ (I2, oI2) :: (I, oI) :: (D', tupOf vs.toArray 0) :: rest := List.mem_append_left _ (So.mem_ra e4)
      have g1 : ra ≠ u.x := ne_obj s8' hra2 hux (by simp)
      have g2 : S.x ≠ u.x := ne_obj s8' hx2 hux (by simp)
      have g3 : S2.dx ≠ u.x := ne_obj s8' hdx2 hux (by simp)
      have g4 : u.dx ≠ u.x := ne_obj s8' hud hux (by simp)
      have hrz : rv.length ≤ 1000000 := by
        have h1 : v.succ.length ≤ 1000 := by
          refine park fun P9 k9 => ?_
          obtain ⟨v0, hv0, he⟩ := sk_mem sk7.symm hvm2
          obtain ⟨_, h2, _⟩ := sk_eq he
          refine k9 ?_
          clear k9 P9
          have := hsu v0 hv0
          rw [h2] at this
          exact this
        have h2 := (List.getElem?_eq_some_iff.mp hc).1
        rw [StrsAre.length hrv]
        lia
      generalize hl8 : S2.cells 144 47 ++ (I2, oI2) :: (I, oI) :: (D', tupOf vs.toArray 0) :: rest = news8 at N8' s8' hux hud hn22 hx2 hdx2 hra2
      walk_at "go"
      · rename News _ _ _ _ => N9
        rename Fr _ _ _ _ => F9
        rw [← hl8] at N9 s8'
        refine park fun P9 k9 => ?_
        obtain ⟨pq2, N10, s10⟩ := news_nx_raE (S := S2) (C := 144) (Ci := 47) (rest := (I2, oI2) :: (I, oI) :: (D', tupOf vs.toArray 0) :: rest) (v := u) (r := (ra, rv, rn)) (u.np - 1) N9 e3 e4 s8' rfl (rd ++ [u.key])
        refine k9 ?_
        clear k9 P9
        have ok10 := ok_put (S := S2) (v' := { u with np := u.np - 1, pt := pq2 }) e3 ok8 rfl rfl (ok8.nds u hum')
        have s11 := s10.perm List.perm_middle
        subst hS2
        refine k9 _ _ ?_
        dsimp only [PostG]
        refine EndG.intro F9 (fun q hq => N10 q (List.perm_middle.mem_iff.mpr hq)) (Sep.head s11) ⟨_, _, _, _, rfl, s11.tail, ⟨ok10.dict, ok10.low, ok10.nds, StrsAre.append' hrv (.cons _ _ .nil)⟩, ?_, ?_, by simp; lia, by walk_at "loc", by walk_at "loc"⟩
        · rw [foldl_take hc, ← hg8]
          unfold lessS
          dsimp only
          rw [npOf_addN (by rw [keys_pn]; exact List.mem_map.mpr ⟨u, hum, rfl⟩), npOf_nd kn2 hum, if_pos (by lia), pn_addN kn2 (v' := { u with np := u.np - 1, pt := pq2 }) (n := -1) (by simp [Nd.pn]; lia)]
        · rw [sk_put]; exact hk8
      · rename News _ _ _ _ => N9
        rename Fr _ _ _ _ => F9
        rw [← hl8] at N9 s8'
        refine park fun P9 k9 => ?_
        obtain ⟨pq2, N10, s10⟩ := news_nxE (S := S2) (C := 144) (Ci := 47) (rest := (I2, oI2) :: (I, oI) :: (D', tupOf vs.toArray 0) :: rest) (v := u) (u.np - 1) N9 e3 s8' rfl
        refine k9 ?_
        clear k9 P9
        have ok10 := ok_put (S := S2) (v' := { u with np := u.np - 1, pt := pq2 }) e3 ok8 rfl rfl (ok8.nds u hum')
        have s11 := s10.perm List.perm_middle
        subst hS2
        refine k9 _ _ ?_
        dsimp only [PostG]
        refine EndG.intro F9 (fun q hq => N10 q (List.perm_middle.mem_iff.mpr hq)) (Sep.head s11) ⟨_, _, _, _, rfl, s11.tail, ok10, ?_, ?_, by show rd.length ≤ _; lia, by walk_at "loc", by walk_at "loc"⟩
        · rw [foldl_take hc, ← hg8]
          unfold lessS
          dsimp only
          rw [npOf_addN (by rw [keys_pn]; exact List.mem_map.mpr ⟨u, hum, rfl⟩), npOf_nd kn2 hum, if_neg (by lia), pn_addN kn2 (v' := { u with np := u.np - 1, pt := pq2 }) (n := -1) (by simp [Nd.pn]; lia)]
        · rw [sk_put]; exact hk8
    · intro m₂ news₂ h7 tk7 X94 F8 N8
      refine park fun P9 k9 => ?_
      obtain ⟨nds, rv, rn, rd, rfl, s8, ok8, hg8, hk8, hz8, hm3, hm4⟩ := X94
      refine k9 ?_
      clear k9 P9
      dsimp only
      generalize hS2 : ({ S with nds := nds, rdy := some (ra, rv, rn), rds := rd, nfi := S.nfi + (i : Nat), t2 := tt1 } : So) = S2 at N8 s8 ok8
      have e1 : S2.x = S.x := by rw [← hS2]
      have e4 : S2.rdy = some (ra, rv, rn) := by rw [← hS2]
      have hx2 : (S.x, instObj 144 S2.dx) ∈ S2.cells 144 47 ++ (I, oI) :: (D', tupOf vs.toArray 0) :: rest := by
        rw [← e1]
        exact List.mem_append_left _ (.head _)
      have hdx2 : (S2.dx, dictOf (sorterEs S2.hs S2.tk S2.n2i (.ref ra) (.int S2.npo S2.t1) (.int S2.nfi S2.t2)) S2.dn) ∈ S2.cells 144 47 ++ (I, oI) :: (D', tupOf vs.toArray 0) :: rest := List.mem_append_left _ (So.mem_dx1 e4)
      generalize hl8 : S2.cells 144 47 ++ (I, oI) :: (D', tupOf vs.toArray 0) :: rest = news8 at N8 s8 hx2 hdx2
      walk_at "go"
      rename News _ _ _ _ => N9
      rename Fr _ _ _ _ => F9
      rw [← hl8] at N9 s8
      refine park fun P9 k9 => ?_
      obtain ⟨tq, N10, s10⟩ := news_nfiE (S := S2) (C := 144) (Ci := 47) (rest := (I, oI) :: (D', tupOf vs.toArray 0) :: rest) (S2.nfi + 1) N9 s8 (by unfold So.dobj So.rv; rw [e4])
      refine k9 ?_
      clear k9 P9
      have s11 := s10.perm List.perm_middle
      subst hS2
      have en : S.nfi + (i : Int) + 1 = S.nfi + ((i + 1 : Nat) : Int) := by lia
      dsimp only at N10 s10 s11
      rw [en] at N10 s11
      refine k9 _ _ ?_
      dsimp only [PostG]
      refine EndG.intro F9 (fun q hq => N10 q (List.perm_middle.mem_iff.mpr hq)) (Sep.head s11) ⟨nds, rv, rn, rd, tq, rfl, s11.tail, ⟨ok8.dict, ok8.low, ok8.nds, ok8.rds⟩, ?_, hk8, ?_, by walk_at "loc", by walk_at "loc"⟩
      · rw [done_take hy, ← hg5]
        unfold doneOne
        dsimp only
        rw [sucOf_nd kn hvm, hg8, StrsAre.length hvok, List.take_length]
      · have h1 : v.succ.length ≤ 1000 := by
          refine park fun P9 k9 => ?_
          obtain ⟨v0, hv0, he⟩ := sk_mem sk7.symm hvm2
          obtain ⟨_, h2, _⟩ := sk_eq he
          refine k9 ?_
          clear k9 P9
          have := hsu v0 hv0
          rw [h2] at this
          exact this
        rw [StrsAre.length hvok] at hz8
        lia
  · intro m₁ news₁ h9 tk9 X94 F9 N9
    refine park fun P9 k9 => ?_
    obtain ⟨nds, rv1, rn1, rd1, tt1, rfl, s9, ok9, hg9, hk9, hz9, hm1, hm2⟩ := X94
    refine k9 ?_
    clear k9 P9
    dsimp only
    walk_at "go"
    have el := StrsAre.length hks
    rw [el] at N9 s9 ok9 hg9
    refine ret _ _ nds rv1 rn1 rd1 tt1 ok9 (by rw [hg9, List.take_length]) hk9 (by assumption) (fun q hq => ?_) (s9.sub ((List.Sublist.refl _).append (List.sublist_cons_self _ _)))
    rename News _ L _ _ => N10
    rw [el] at N10
    refine N10 q ?_
    rcases List.mem_append.mp hq with hq | hq
    · exact List.mem_append_left _ hq
    · exact List.mem_append_right _ (.tail _ hq)
theorem done_star (S : So) (rest : List (Addr × Obj)) (N : News h₀ L s.heap (S.cells 144 47 ++ rest)) (hs : Sep (S.cells 144 47 ++ rest)) (ok : S.ok PySem.Challenge.rw_tv0044_01.row.prog w) {ra : Addr} {rvs : List Value} {rn : Nat} (hr : S.rdy = some (ra, rvs, rn))
  (vs : List Value) (ks : List Str) (hks : StrsAre vs ks) (hkz : ks.length ≤ 500) (hz : S.rds.length ≤ 10000) (hsz : S.nds.length ≤ 1000) (hsu : ∀ v ∈ S.nds, v.succ.length ≤ 1000) (hcl : ∀ v ∈ S.nds, ∀ c ∈ v.succ, c ∈ S.nds.map (·.key)) (hok : DoneOk (S.nds.map Nd.pn, S.rds) ks)
  (hdp : dp + 2 < recursionLimit) (hun : un + 16 < cLine)
  (ret : ∀ h' tk' nds' rvs' rn' rds' t2', ({ S with nds := nds', rdy := some (ra, rvs', rn'), rds := rds', nfi := S.nfi + ks.length, t2 := t2' } : So).ok PySem.Challenge.rw_tv0044_01.row.prog w → (nds'.map Nd.pn, rds') = ks.foldl doneOne (S.nds.map Nd.pn, S.rds) → nds'.map Nd.sk = S.nds.map Nd.sk →
    Fr h₀ L h' m → News h₀ L h' (({ S with nds := nds', rdy := some (ra, rvs', rn'), rds := rds', nfi := S.nfi + ks.length, t2 := t2' } : So).cells 144 47 ++ rest) →
    Sep (({ S with nds := nds', rdy := some (ra, rvs', rn'), rds := rds', nfi := S.nfi + ks.length, t2 := t2' } : So).cells 144 47 ++ rest) → Q .none { s with heap := h', toks := tk' })
  (qm : Addr) (hq : s.heap.get? qm = some (methodObj (.ref 127) (.ref S.x))) :
    wpAny (model PySem.Challenge.rw_tv0044_01.row.prog w) (ktrTop dp un gd cn cs L a ccd cl outer) (call (.ref qm) vs) Q E s :=
  wpAny_call (method_call hq (done_code B F X T hk S rest N hs ok hr vs ks hks hkz hz hsz hsu hcl hok hdp hun ret))
end
end
section
theorem anew_Prep_01 : True := by w_top off; trivial
local macro_rules | `(tactic| walk_at "stop") => ln "q" "LeaveX _ _ _ _ _ _ _ _ _ _ _ _ _ _ _ _ _"
local macro_rules | `(tactic| walk_at "stop") => ln "q" "wpAny _ _ (leaving _ _) _ _ _"
local macro_rules | `(tactic| walk_at "truthy ref") => ln "hdw" "(truthy (Value.ref _))|truthy_ne ?N ?m ?z ?ne ?_|Na mm zs nes|"
local macro_rules | `(tactic| walk_at "enterS") => ln "dwn" "|code_defSX ?k1 ?k2 ?k3 ?k4 ?k5 ?XB ?TB ?D ?kA ?kF ?cK ?k6 ?k7 ?k8 ?k9 ?kB ?_ ?c2 ?c3 ?c4 ?c5|kAr kFr k2a k1a XBs TBs Ds k3a k4a k5a k6i k7i k8o k9B kBx cKs c2r c3r c4r c5d|"
local macro_rules | `(tactic| walk_at "stop") => ln "q" "wpAny _ _ (eval (PySem.Expr.ListComp _ _ _ _) _) _ _ _"
section
variable {w : World} {p : Program} {loose : List Str} {mean : ExcName → Option Value} {mg mb : Str → Option Value}
  {dp un : Nat} {gd : Option (List Code)} {cn : Str} {cs : Scope} {a : Addr} {ccd : Value} {cl : List (Str × Addr)} {outer : List Env} {A₀ : Around} {base h₀ : Heap} {L : Addr} {m : Str → Option Value} {s : Shared}
    {Q E : Value → Shared → Prop}
  (B : Below A₀ base outer h₀) (F : Fr h₀ L s.heap m) (X : (Mine.hd.heap_1 w.params).In h₀) (T : Top p loose mean mg mb h₀) (hk : cs.kind = .function)
  (XB : (Mine.hd.heap_1 w.params).In base) (TB : Top p loose mean mg mb base) (D : KtsDicts (outer.filterMap (·.frame)) h₀)
include B F X T hk XB TB D
theorem prep_tells (S : So) (rest : List (Addr × Obj)) (N : News h₀ L s.heap (S.cells 144 47 ++ rest)) (hs : Sep (S.cells 144 47 ++ rest)) (ok : S.ok PySem.Challenge.rw_tv0044_01.row.prog w) (hr : S.rdy = none)
  (hsz : S.nds.length ≤ 1000) (hcl : ∀ v ∈ S.nds, ∀ c ∈ v.succ, c ∈ S.nds.map (·.key)) (hdp : dp + 6 < recursionLimit) (hun : un + 48 < cLine)
  (none_ : ∀ h' g' tk' D ys k, KtsTurn (outer.filterMap (·.frame)) h₀ g' → Free (sc := scOf S.nds) (S.nds.map (·.key)) → ({ S with rdy := some (D, ys, k), rds := ready0 S.nds } : So).ok PySem.Challenge.rw_tv0044_01.row.prog w → Fr g' L h' m → News g' L h' (({ S with rdy := some (D, ys, k), rds := ready0 S.nds } : So).cells 144 47 ++ rest) →
    Sep (({ S with rdy := some (D, ys, k), rds := ready0 S.nds } : So).cells 144 47 ++ rest) → Below A₀ base outer g' → (Mine.hd.heap_1 w.params).In g' → Top p loose mean mg mb g' → KtsDicts (outer.filterMap (·.frame)) g' → Q .none { s with heap := h', toks := tk' })
  (raise_ : ∀ h' g' G tk' D ys k e t vs told, KtsTurn (outer.filterMap (·.frame)) h₀ g' → Ring (sc := scOf S.nds) told → (∀ x ∈ told, x ∈ S.nds.map (·.key)) → ({ S with rdy := some (D, ys, k), rds := ready0 S.nds } : So).ok PySem.Challenge.rw_tv0044_01.row.prog w → Fr g' L G m →
    RaisedS base G (envX cn cs L a ccd cl :: outer) e (.ref 62) t vs (({ S with rdy := some (D, ys, k), rds := ready0 S.nds } : So).cells 144 47 ++ rest) h' → G.UpToSlots h' →
    Sep (({ S with rdy := some (D, ys, k), rds := ready0 S.nds } : So).cells 144 47 ++ rest) → Below A₀ base outer g' → KtsDicts (outer.filterMap (·.frame)) g' → E (.ref e) { s with heap := h', toks := tk' }) :
    wpAny (model PySem.Challenge.rw_tv0044_01.row.prog w) (ktrTop dp un gd cn cs L a ccd cl outer) (call (.ref 99) [.ref S.x]) Q E s := by
  revert X XB; k_fill; intro X XB
  refine wpAny_call ?_
  walk_at "enterS"
  intro g1 L1 h1 FG1 F' N' B' X' T' D'
  (try dsimp only); (try k_fold)
  have hrv : S.rv = .none := by unfold So.rv; rw [hr]
  have hx : (S.x, instObj 144 S.dx) ∈ S.cells 144 47 ++ rest := List.mem_append_left _ (.head _)
  have hdx : (S.dx, dictOf (sorterEs S.hs S.tk S.n2i .none (.int S.npo S.t1) (.int S.nfi S.t2)) S.dn) ∈ S.cells 144 47 ++ rest := List.mem_append_left _ (by rw [← hrv]; exact .tail _ (.head _))
  have hn2 : (S.n2i, S.n2o) ∈ S.cells 144 47 ++ rest := List.mem_append_left _ (.tail _ (.tail _ (.head _)))
  have hnds : ∀ v ∈ S.nds, ∀ q ∈ v.cells 47, q ∈ S.cells 144 47 ++ rest := fun v hv q hq => List.mem_append_left _ (So.mem_nd hv hq)
  generalize hl : S.cells 144 47 ++ rest = news1 at N' hs hx hdx hn2 hnds
  walk_at "go"
  have hdicO := ok.dict
  have hlow := ok.low
  refine compW (h₀ := g1) (L := L1) (cl := []) (p := fun v => S.nds.any fun u => decide (v = .ref u.x) && decide (u.np = 0)) (G := fun v r => ∃ u ∈ S.nds, v = .ref u.x ∧ r = .str u.key u.kt) ?hc ?c ?k ?n ?x ?s ?h
  case hc => with_unfolding_all rfl
  case c => decide
  case k => exact rfl
  case n => decide
  case x => exact rfl
  case s => intro _; with_unfolding_all rfl
  walk_at "go"
  rename Fr _ _ _ _ => F2
  rename News _ _ _ _ => N2
  rename_i vwV vwh vwl
  refine compVals F2 N2 (.head _) (.tail _ hn2) hdicO (seven_le (by rw [List.length_map]; lia)) rfl ⟨?tests, ?elts⟩ ?done
  case tests =>
    intro C i v s3 m3 E' X96 F3 N3 hn3 hm3
    refine park fun P9 k9 => ?_
    obtain ⟨k, hk⟩ := X96
    obtain ⟨u, hu, rfl⟩ := nd_of hk
    refine k9 ?_
    clear k9 P9
    have hux : (u.x, ({ cls := .ref 47, dict := some u.dx, data := .plain, slots := [some (.str u.key u.kt), some (.int u.np u.pt), some (.ref u.sa)].toArray } : Obj)) ∈ news1 := hnds u hu _ (.head _)
    have hud : (u.dx, dictOf [] 0) ∈ news1 := hnds u hu _ (.tail _ (.head _))
    refine wpAny_tests_one ?_
    dsimp only
    rw [nd_any hs hnds hu]
    walk_at "go"
    exact ⟨_, _, rfl, fun _ _ e => e⟩
  case elts =>
    intro C i v s3 m3 E' X96 hp F3 N3 hn3 hm3
    refine park fun P9 k9 => ?_
    obtain ⟨k, hk⟩ := X96
    obtain ⟨u, hu, rfl⟩ := nd_of hk
    refine k9 ?_
    clear k9 P9
    have hux : (u.x, ({ cls := .ref 47, dict := some u.dx, data := .plain, slots := [some (.str u.key u.kt), some (.int u.np u.pt), some (.ref u.sa)].toArray } : Obj)) ∈ news1 := hnds u hu _ (.head _)
    have hud : (u.dx, dictOf [] 0) ∈ news1 := hnds u hu _ (.tail _ (.head _))
    walk_at "go"
    · exact hu
    · exact ⟨_, _, rfl, fun _ _ e => e⟩
  case done =>
    rintro Dl h2 tk2 ys k hG F3 N3 hoff
    have r1 : S.dx ≠ Dl := hoff _ (.tail _ hdx)
    have r2 : S.x ≠ Dl := hoff _ (.tail _ hx)
    have hst : StrsAre ys (ready0 S.nds) := strs_paired (fun u => decide (u.np = 0)) (fun u hu => nd_any hs hnds hu) (fun u hu v hv e => by
      have h1 := hnds u hu _ (.head _)
      have h2 := hnds v hv _ (.head _)
      rw [← e] at h2
      have h3 := Sep.one hs h1 h2
      unfold Nd.info at h3
      injection h3 with _ _ _ h4
      simp at h4
      exact h4.1.1) (fun u hu => hu) hG
    walk_at "go"
    rename Fr _ _ _ _ => F4
    rename News _ _ _ _ => N4
    rw [← hl] at N4 hoff vwl
    have hsS : Sep (S.cells 144 47 ++ rest) := by rw [hl]; exact hs
    refine park fun P9 k9 => ?_
    obtain ⟨N5, s5⟩ := news_rdyE (S := S) (C := 144) (Ci := 47) (rest := rest) (v := (vwV, viewObj S.n2i)) (ready0 S.nds) N4 hr hsS (fun q hq => Nat.ne_of_lt (vwl q hq)) hoff rfl
    refine k9 ?_
    clear k9 P9
    generalize hS' : ({ S with rdy := some (Dl, ys, k), rds := ready0 S.nds } : So) = S' at N5 s5
    have ex : S'.x = S.x := by rw [← hS']
    have en : S'.nds = S.nds := by rw [← hS']
    have er : S'.rdy = some (Dl, ys, k) := by rw [← hS']
    have ok5 : S'.ok PySem.Challenge.rw_tv0044_01.row.prog w := by
      rw [← hS']
      exact ⟨ok.dict, ok.low, ok.nds, hst⟩
    have hx5 : (S.x, instObj 144 S'.dx) ∈ S'.cells 144 47 ++ (vwV, viewObj S.n2i) :: rest := by
      rw [← ex]; exact List.mem_append_left _ (.head _)
    have hdx5 : (S'.dx, dictOf (sorterEs S'.hs S'.tk S'.n2i (.ref Dl) (.int S'.npo S'.t1) (.int S'.nfi S'.t2)) S'.dn) ∈ S'.cells 144 47 ++ (vwV, viewObj S.n2i) :: rest := List.mem_append_left _ (So.mem_dx1 er)
    clear N4 hx hdx hn2 hnds
    generalize hl5 : S'.cells 144 47 ++ (vwV, viewObj S.n2i) :: rest = news5 at N5 s5 hx5 hdx5
    walk_at "go"
    rename Fr _ _ _ _ => F6
    rename News _ _ _ _ => N6
    dsimp only [List.append_nil]
    rw [show (Value.ref S.x) = Value.ref S'.x from by rw [ex]]
    rw [← hl5] at N6 s5
    refine find_tells (S := S') (rest := (vwV, viewObj S.n2i) :: rest) B' F6 X' T' rfl XB TB D' N6 s5 ok5 (by rw [en]; exact hsz) (by rw [en]; exact hcl) (by show dp + 1 + 4 < recursionLimit; lia) (by show un + 3 + 32 < cLine; lia) ?fnone ?fring
    case fnone =>
      intro h7 g7 tk7 T7 free7 F7 N7 B7 X7 P7 D7
      clear F6 N6
      generalize hl7 : S'.cells 144 47 ++ (vwV, viewObj S.n2i) :: rest = news7 at N7
      walk_at "go"
      rename Fr _ _ _ _ => F8
      rename News _ _ _ _ => N8
      refine ⟨g7, L1, _, _, T7, F8, N8, fun h9 T9 F9 N9 B9 X9 P9 D9 => ?_⟩
      rw [← hl7] at N9
      subst hS'
      exact none_ _ _ _ _ _ _ T9 free7 ok5 F9 (fun q hq => N9 q (by
        rcases List.mem_append.mp hq with hq | hq
        · exact List.mem_append_left _ hq
        · exact List.mem_append_right _ (.tail _ hq))) (s5.sub ((List.Sublist.refl _).append (List.sublist_cons_self _ _))) B9 X9 P9 D9
    case fring =>
      intro h7 g7 tk7 t vs told T7 ring7 keys7 str7 F7 N7 s7 B7 X7 P7 D7
      clear F6 N6
      generalize hl7 : S'.cells 144 47 ++ (vwV, viewObj S.n2i) :: rest = news7 at N7 s7
      have hvz : vs.length ≤ 1000000 := by
        rw [StrsAre.length str7]
        refine park fun P9 k9 => ?_
        obtain ⟨c, mid, rfl, hnd, _⟩ := ring7
        refine k9 ?_
        clear k9 P9
        have := List.Nodup.length_le_of_subset hnd (fun x hx => keys7 x (List.mem_append_left _ hx))
        rw [en] at this
        simp at this ⊢
        lia
      have hvn : vs ≠ [] := by
        rintro rfl
        refine park fun P9 k9 => ?_
        obtain ⟨c, mid, rfl, hnd, _⟩ := ring7
        refine k9 ?_
        clear k9 P9
        have := StrsAre.length str7
        simp at this
      walk_at "go"
      rename Fr _ _ _ _ => F8
      rename News _ _ _ _ => N8
      rename Heap.MadeExcOf _ _ _ _ _ => hM
      refine leave_raiseS B7 hM F8 N8 fun h9 t9 R9 _ up9 => ?_
      refine park fun P9 k9 => ?_
      obtain ⟨g9, T9, F9, B9⟩ := turn_out B FG1 T7 rfl
      refine k9 ?_
      clear k9 P9
      subst hS'
      refine raise_ _ g9 g7 _ _ _ _ _ _ _ told T9 ring7 keys7 ok5 F9 (raisedS_sub R9 fun q hq => ?_) up9 (s5.sub ((List.Sublist.refl _).append (List.sublist_cons_self _ _))) B9 (D.turn T9)
      rw [← hl7]
      rcases List.mem_append.mp hq with hq | hq
      · exact .tail _ (List.mem_append_left _ hq)
      · exact .tail _ (List.mem_append_right _ (.tail _ hq))
end
end
section
local macro_rules | `(tactic| walk_at "call builtin:len") => ln "hdwn" "(call (Value.builtin \"len\") [Value.str _ _])|P.len_str ?z1 ?_|z1T|"
local macro_rules | `(tactic| walk_at "compareOp Eq str str") => ln "hdwn" "|eq_strB ?z1 ?_|z1s|"
local macro_rules | `(tactic| walk_at "setItem ref int") => ln "hdwK" "(setItem (Value.ref _) (Value.int _ _) (Value.int _ _))|ksa_set ?k1 ?k2 ?k3 ?k4 ?k5 ?k6 ?k7 ?_|k1a k2a k3U k4w k5l k6l k7l|sth stF stN sti stl sts"
local macro_rules | `(tactic| walk_at "subscriptTail") => ln "hdw" "(subscriptTail _ _ (Value.ref _) (Value.int _ _))|ksa_sub ?k1 ?k2 ?k3 ?k4 ?k5 ?k6 ?_ ?k7|k1a k2m k3w k4l k5l k6l k7u|_"
local macro_rules | `(tactic| walk_at "stop") => ln "q" "wpAny _ _ (pyIter _) _ _ _"
local macro_rules | `(tactic| walk_at "enterG") => ln "dwn" "|code_defG ?k1 ?k2 ?k3 ?k4 ?k5 ?kA ?kF ?kK ?k6 ?k7 ?k8 ?k9 ?kB ?_ ?c2 ?c3 ?c4 ?c5|kAr kFr kKs k1a k2a k3a k4a k5a k6i k7i k8o k9B c5d kBx c2r c3r c4r|"
local macro_rules | `(tactic| walk_at "compareOp NotIn str ref") => ln "hdwQ" "(compareOp CmpOp.NotIn (Value.str _ _) (Value.ref _))|notin_M ?N ?m ?i ?b ?_|Na mm is bs|"
local macro_rules | `(tactic| walk_at "call builtin:len") => ln "hdw" "(call (Value.builtin \"len\") [Value.ref _])|len_listM ?k1 ?k2 ?k3 ?_|k1a k2m k3L|"
section
theorem anew_Tab_01 : True := by w_top off; trivial
local macro_rules | `(tactic| walk_at "stop") => ln "q" "WhlRest _ _ _ _ _ _ _ _ _ _ _"
section
variable {w : World} {p : Program} {loose : List Str} {mean : ExcName → Option Value} {mg mb : Str → Option Value}
  {dp un : Nat} {gd : Option (List Code)} {cn : Str} {cs : Scope} {a : Addr} {ccd : Value} {cl : List (Str × Addr)} {outer : List Env} {A₀ : Around} {base h₀ : Heap} {L : Addr} {m : Str → Option Value} {s : Shared}
    {Q E : Value → Shared → Prop}
  (B : Below A₀ base outer h₀) (F : Fr h₀ L s.heap m) (X : (Mine.hd.heap_1 w.params).In h₀) (T : Top p loose mean mg mb h₀) (hk : cs.kind = .function)
include B F X T hk
theorem table_tells (x : Str) (xt : Tok) (news : List (Addr × Obj)) (N : News h₀ L s.heap news) (hs : Sep news) (hx : x.length ≤ 1000) (h0 : 0 < x.length) (hdp : dp + 2 < recursionLimit) (hun : un + 16 < cLine)
  (ret : ∀ h' tk' t vs n, IntsAre vs (tabOf x.cps.toList) → Fr h₀ L h' m → (∀ b o, s.heap.get? b = some o → h'.get? b = some o) → News h₀ L h' ((t, W.listOf vs.toArray n) :: news) → Sep ((t, W.listOf vs.toArray n) :: news) → Q (.ref t) { s with heap := h', toks := tk' }) :
    wpAny (model PySem.Challenge.rw_tv0044_01.row.prog w) (ktrTop dp un gd cn cs L a ccd cl outer) (call (.ref 28) [.str x xt]) Q E s := by
  revert X; k_fill; intro X
  refine wpAny_call ?_
  k_dflt (walk_at "enterG")
  intro g2 L2 h2 FG2 F2 N2 B2 X2 T2 kG2
  (try dsimp only); (k_fold)
  walk_at "go"
  rename News _ _ _ _ => N0
  rename Fr _ _ _ _ => F0
  rename IntsAre _ _ => i1
  have hlen : x.cps.toList.length = x.length := by simp [PySem.Str.length]
  have hz : (List.replicate ((x.length : Int)).toNat [(0 : Int)]).flatten = tabTo x.cps.toList 1 := by
    rw [tabTo_one, hlen]; simp
  rw [hz] at i1
  generalize hvs : (List.replicate ((x.length : Int)).toNat [Value.int 0 _]).flatten = vs0 at N0 i1
  walk_at "fold"
  refine For_invVF F0 rfl rfl ?_
  walk_at "go"
  rename IsRange _ _ _ _ _ _ _ _ => R

  rename Fr _ _ _ _ => F0
  rename News _ _ _ _ => N0
  have hsz : Builtin.Range.rangeSize 1 (x.length : Int) 1 = ((x.length - 1 : Nat) : Int) := by
    rw [rangeSize_nat]; lia
  have hsm : Builtin.Range.small 1 (x.length : Int) 1 = true := small_one (by lia) (by lia) (by lia) (by lia)
  refine iterRange (fun i m l => ∃ D vs n l', l = (D, W.listOf vs.toArray n) :: l' ∧ news.Sublist l' ∧ Sep l ∧ IntsAre vs (tabTo x.cps.toList (i + 1)) ∧ m (Str.ofString "prefix") = some (.str x xt) ∧ m (Str.ofString "table") = some (.ref D))
    rfl R hsm hsz F0 N0 ?_ ?_ ?_
  · exact ⟨_, vs0, 0, _, rfl, List.sublist_cons_self _ _, by walk_at "sep", i1, by walk_at "loc", by walk_at "loc"⟩
  · intro I i t m1 news1 h1 tk1 oI hi X99 hoff F1 N1
    refine park fun P9 k9 => ?_
    obtain ⟨D, vs, n, l', rfl, hsub, s1, i1, hm1, hm2⟩ := X99
    refine k9 ?_
    clear k9 P9
    have s2 := s1.cons_ne (o := oI) hoff
    have hne : D ≠ I := hoff _ (.head _)
    clear F0 N0 R hvs
    generalize hns : tabTo x.cps.toList (i + 1) = ns at i1
    have hnl : ns.length = x.length := by rw [← hns, tabTo_length, hlen]
    have hat : ∀ k, k < i + 1 → ns.getD k 0 = (bd x.cps.toList (k + 1) : Int) := fun k hk => by
      rw [← hns, List.getD_eq_getElem?_getD, tabTo_at hk (by lia)]; rfl
    walk_at "fold"
    walk_at "go"
    rename News _ _ _ _ => N2
    rename Fr _ _ _ _ => F2
    have e1 : (1 + (i : Int) - 1).toNat = i := by lia
    rw [e1, hat i (by lia)] at F2
    walk_at "fold"
    refine whl_start 0 (whileS (fun n' s' => ∃ h tk m2 j tj, s' = { s with heap := h, toks := tk } ∧ Fr g2 L2 h m2 ∧ News g2 L2 h ((I, oI) :: (D, W.listOf vs.toArray n) :: l') ∧ Kmp x.cps.toList (i + 1) j ∧ j ≤ n' ∧
      m2 (Str.ofString "prefix") = some (.str x xt) ∧ m2 (Str.ofString "table") = some (.ref D) ∧ m2 (Str.ofString "i") = some (.int (1 + (i : Int)) t) ∧ m2 (Str.ofString "idx") = some (.int (j : Nat) tj)) (by with_unfolding_all passes_own) ?wturn (bd x.cps.toList (i + 1)) ?wh0)
    case wh0 => exact ⟨_, _, _, _, _, rfl, F2, N2, Kmp.init (by lia), Nat.le_refl _, by walk_at "loc", by walk_at "loc", by walk_at "loc", by walk_at "loc"⟩
    case wturn =>
      intro n1 s3 X92 again
      refine park fun P9 k9 => ?_
      obtain ⟨h3, tk3, m3, j, tj, rfl, F3, N3, K3, hj, q1, q2, q3, q4⟩ := X92
      refine k9 ?_
      clear k9 P9
      have hji : j < i + 1 := K3.1.1
      have hne2 := item_ne (x := x) (i := 1 + (i : Int)) (j := (j : Int)) (by lia) (by lia) (by lia) (by lia)
      rw [show (1 + (i : Int)).toNat = i + 1 from by lia, Int.toNat_natCast] at hne2
      walk_at "go"
      rw [hne2]
      rename Fr _ _ _ _ => F4
      rename News _ _ _ _ => N4
      rcases Decidable.em (x.cps.toList[j]? = x.cps.toList[i + 1]?) with he | he
      · rw [decide_eq_true he]
        dsimp only [Bool.not_true]
        walk_at "go"
        rename Fr _ _ _ _ => F5
        rename News _ _ _ _ => N5
        rename IntsAre _ (List.set _ _ _) => i5
        rw [upd_hd s1] at N5
        walk_at "post"
        refine EndG.intro F5 N5 (fun q hq => ?_) ⟨D, _, n, l', rfl, hsub, s1.hd _, ?_, by walk_at "loc", by walk_at "loc"⟩
        · rcases List.mem_cons.mp hq with rfl | hq
          · exact hne
          · exact hoff q (.tail _ hq)
        · have en : ns.set (1 + (i : Int)).toNat ((j : Int) + 1) = tabTo x.cps.toList (i + 1 + 1) := by
            rw [← hns, show (1 + (i : Int)).toNat = i + 1 from by lia, show ((j : Int) + 1) = (bd x.cps.toList (i + 1 + 1) : Int) from by rw [K3.hit (by lia) he]; rfl, tabTo_set (by lia)]
          rw [en] at i5
          exact i5
      · rw [decide_eq_false he]
        dsimp only [Bool.not_false]
        walk_at "go"
        · have hj0 : j = 0 := by lia
          subst hj0
          rename Fr _ _ _ _ => F5
          rename News _ _ _ _ => N5
          rename IntsAre _ (List.set _ _ _) => i5
          rw [upd_hd s1] at N5
          walk_at "post"
          refine EndG.intro F5 N5 (fun q hq => ?_) ⟨D, _, n, l', rfl, hsub, s1.hd _, ?_, by walk_at "loc", by walk_at "loc"⟩
          · rcases List.mem_cons.mp hq with rfl | hq
            · exact hne
            · exact hoff q (.tail _ hq)
          · have en : ns.set (1 + (i : Int)).toNat 0 = tabTo x.cps.toList (i + 1 + 1) := by
              rw [← hns, show (1 + (i : Int)).toNat = i + 1 from by lia, show (0 : Int) = (bd x.cps.toList (i + 1 + 1) : Int) from by rw [K3.miss (by lia) he]; rfl, tabTo_set (by lia)]
            rw [en] at i5
            exact i5
        · rename Fr _ _ _ _ => F5
          rename News _ _ _ _ => N5
          have hj0 : 0 < j := by lia
          rw [show ((j : Int) - 1).toNat = j - 1 from by lia, hat (j - 1) (by lia), show j - 1 + 1 = j from by lia] at F5
          exact again (bd x.cps.toList j) _ (Nat.lt_of_lt_of_le (bd_lt hj0) hj) ⟨_, _, _, _, _, rfl, F5, N5, K3.next hj0 he, Nat.le_refl _, by walk_at "loc", by walk_at "loc", by walk_at "loc", by walk_at "loc"⟩
  · intro m1 news1 h1 tk1 X94 F1 N1
    refine park fun P9 k9 => ?_
    obtain ⟨D, vs, n, l', rfl, hsub, s1, i1, hm1, hm2⟩ := X94
    refine k9 ?_
    clear k9 P9
    dsimp only
    rw [show x.length - 1 + 1 = x.length from by lia, tabTo_all _ (by lia)] at i1
    have kp := keeps_of N kG2 F1 N1 (fun q hq => .tail _ (hsub.subset hq))
    walk_at "go"
    exact ret _ _ D vs n i1 (by assumption) kp (fun q hq => by
      rename News _ L _ _ => N9
      exact N9 q (by
        rcases List.mem_cons.mp hq with rfl | hq
        · exact .head _
        · exact .tail _ (hsub.subset hq))) (s1.sub (hsub.cons₂ _))
end
end
section
local macro_rules | `(tactic| walk_at "subscriptTail") => ln "hdw" "(subscriptTail _ _ (Value.ref _) (Value.int _ _))|item_strs ?N ?m ?i ?h0 ?h1 ?hz ?_|Na mm is h0l h1l hzl|_"
section
local macro_rules | `(tactic| walk_at "eval Name") => lf "h" "(eval (PySem.Expr.Name _ _) (envOfC _ _ _ _ _))|||" [("dw", "|nameX_C ?N ?c ?m ?d ?_ ?a ?b|ar br Na cr mm ds|"), ("dw", "|nameX_L ?F ?v ?_ ?a ?b|ar br Fa vc|")]
section
local macro_rules | `(tactic| walk_at "subscriptTail") => ln "hdw" "(subscriptTail _ (PySem.Expr.Slice none (some _) none _) (Value.str _ _) (Value.ref _))|slice_K_ns ?F ?N ?z ?_ ?s ?t|Fa Na zl su tp|skh skt skk skF skN skK"
local macro_rules | `(tactic| walk_at "subscriptTail") => ln "hdw" "(subscriptTail _ (PySem.Expr.Slice (some _) none none _) (Value.str _ _) (Value.ref _))|slice_K_sn ?F ?N ?z ?_ ?s ?t|Fa Na zl su tp|skh skt skk skF skN skK"
local macro_rules | `(tactic| walk_at "subscriptTail") => ln "hdw" "(subscriptTail _ (PySem.Expr.Slice (some _) (some _) none _) (Value.str _ _) (Value.ref _))|slice_K_ss ?F ?N ?z ?_ ?s ?t|Fa Na zl su tp|skh skt skk skF skN skK"
local macro_rules | `(tactic| walk_at "subscriptTail Name Slice str ref") => ln "hdw" "(subscriptTail _ (PySem.Expr.Slice none (some _) none _) (Value.str _ _) (Value.ref _))|slice_K_ns ?F ?N ?z ?_ ?s ?t|Fa Na zl su tp|skh skt skk skF skN skK"
local macro_rules | `(tactic| walk_at "subscriptTail Name Slice str ref") => ln "hdw" "(subscriptTail _ (PySem.Expr.Slice (some _) none none _) (Value.str _ _) (Value.ref _))|slice_K_sn ?F ?N ?z ?_ ?s ?t|Fa Na zl su tp|skh skt skk skF skN skK"
local macro_rules | `(tactic| walk_at "subscriptTail Name Slice str ref") => ln "hdw" "(subscriptTail _ (PySem.Expr.Slice (some _) (some _) none _) (Value.str _ _) (Value.ref _))|slice_K_ss ?F ?N ?z ?_ ?s ?t|Fa Na zl su tp|skh skt skk skF skN skK"
section
local macro_rules | `(tactic| walk_at "call type:range") => lf "h" "|||" [("dw", "|range1_rows ?F ?N ?_|Fa Na|rgh rgt rg1 rg2 rg3 rgR rgF rgN rgK"), ("dw", "|range2_rows ?F ?N ?_|Fa Na|rgh rgt rg1 rg2 rg3 rgR rgF rgN rgK")]
local macro_rules | `(tactic| walk_at "subscriptTail") => ln "hdw" "(subscriptTail _ _ (Value.ref _) (Value.int (-1) _))|last_M ?N ?m ?hz ?_|Na mm hzl|"
local macro_rules | `(tactic| walk_at "subscriptTail Name Slice ref ref") => ln "hdwK" "(subscriptTail _ (PySem.Expr.Slice none (some _) none _) (Value.ref _) (Value.ref _))|sliceToI_M ?F ?N ?m ?z ?a ?_ ?s ?t|Fa Na mm zl al su tp|slD slh slF slN sll"
section
theorem anew_LappedX_01 : True := by w_top off; trivial
local macro_rules | `(tactic| walk_at "stop") => ln "q" "wpAny _ _ (call (Value.ref 28) _) _ _ _"
local macro_rules | `(tactic| walk_at "stop") => ln "q" "WhlRest _ _ _ _ _ _ _ _ _ _ _"
theorem perm5 {α : Type} {a b c d e : α} {l : List α} : (a :: b :: c :: d :: e :: l).Perm (b :: c :: d :: e :: a :: l) :=
  (List.Perm.swap _ _ _).trans (List.Perm.cons _ ((List.Perm.swap _ _ _).trans (List.Perm.cons _ ((List.Perm.swap _ _ _).trans (List.Perm.cons _ (List.Perm.swap _ _ _))))))
/-- within the search for laps -/
inductive LapSt (g : Heap) (L : Addr) (s : Shared) (news : List (Addr × Obj)) (R0 I1 I2 t4 : Addr) (o1 o2 : Obj) (vs4 : List Value) (n4 : Nat) (one other : Str) (la : Addr) (A : List (Str × Str)) (n : Nat) : Shared → Prop
  | mk {h : Heap} {tk : Nat} {m : Str → Option Value} {rvs : List Value} {rn : Nat} {te : List (Addr × Obj)} {k : Nat} {kt ot ot2 : Tok} {done : List (Str × Str)} (F : Fr g L h m)
      (N : News g L h ((t4, W.listOf vs4.toArray n4) :: (I2, o2) :: (I1, o1) :: (R0, W.listOf rvs.toArray rn) :: (te ++ news))) (S : Sep ((t4, W.listOf vs4.toArray n4) :: (I2, o2) :: (I1, o1) :: (R0, W.listOf rvs.toArray rn) :: (te ++ news)))
      (P : Paired (RuleIn te) rvs (A ++ done)) (e : done ++ (chainK (other.cps.toList ++ 124 :: one.cps.toList) k).map (fun (k : Nat) => (one ++ Txt.slice other (some (k : Int)) none, other)) = lapPairs one other) (kn : k ≤ n) (kl : k ≤ one.length + other.length)
      (m1 : m (Str.ofString "lapped") = some (.ref R0)) (m2 : m (Str.ofString "lefts") = some (.ref la)) (m3 : m (Str.ofString "one") = some (.str one ot)) (m4 : m (Str.ofString "other") = some (.str other ot2)) (m5 : m (Str.ofString "table") = some (.ref t4))
      (m6 : m (Str.ofString "many") = some (.int (k : Nat) kt)) : LapSt g L s news R0 I1 I2 t4 o1 o2 vs4 n4 one other la A n { s with heap := h, toks := tk }
section
variable {w : World} {p : Program} {loose : List Str} {mean : ExcName → Option Value} {mg mb : Str → Option Value}
  {dp un : Nat} {gd : Option (List Code)} {cn : Str} {cs : Scope} {a : Addr} {ccd : Value} {cl : List (Str × Addr)} {outer : List Env} {A₀ : Around} {base h₀ : Heap} {L : Addr} {m : Str → Option Value} {s : Shared}
    {Q E : Value → Shared → Prop}
  (B : Below A₀ base outer h₀) (F : Fr h₀ L s.heap m) (X : (Mine.hd.heap_1 w.params).In h₀) (T : Top p loose mean mg mb h₀) (hk : cs.kind = .function)
include B F X T hk
theorem lapped_tells (la : Addr) (lvs : List Value) (ln : Nat) (lefts : List Str) (news : List (Addr × Obj)) (N : News h₀ L s.heap news) (hs : Sep news) (hla : (la, W.listOf lvs.toArray ln) ∈ news) (hl : StrsAre lvs lefts) (hlen : lefts.length ≤ 3) (hw : ∀ x ∈ lefts, x.length ≤ 3) (hdp : dp + 3 < recursionLimit) (hun : un + 24 < cLine)
  (ret : ∀ h' tk' t rvs n te, Paired (RuleIn te) rvs (lappedOf lefts) → Fr h₀ L h' m → News h₀ L h' ((t, W.listOf rvs.toArray n) :: (te ++ news)) → Sep ((t, W.listOf rvs.toArray n) :: (te ++ news)) → Q (.ref t) { s with heap := h', toks := tk' }) :
    wpAny (model PySem.Challenge.rw_tv0044_01.row.prog w) (ktrTop dp un gd cn cs L a ccd cl outer) (call (.ref 186) [.ref la]) Q E s := by
  revert X; k_fill; intro X
  refine wpAny_call ?_
  k_dflt ktr_enter
  rename_i g2 L2 _ FG2 _ _ B2 X2 T2
  walk_at "go"
  rename Fr g2 _ _ _ => F0
  rename News g2 _ _ _ => N0
  rename_i R0 _ l0 _
  have s0 : Sep ((R0, W.listOf ([] : List Value).toArray 0) :: news) := hs.cons l0
  have hll := hl.length
  refine For_invVF F0 rfl rfl ?_
  walk_at "go"
  refine iterList (vs := lvs) (ep := ln) (fun i m l => ∃ rvs rn te, l = (R0, W.listOf rvs.toArray rn) :: (te ++ news) ∧ Sep l ∧ Paired (RuleIn te) rvs ((lefts.take i).flatMap fun one => lefts.flatMap fun other => lapPairs one other) ∧
      m (Str.ofString "lapped") = some (.ref R0) ∧ m (Str.ofString "lefts") = some (.ref la))
    rfl (.inr ?lt) F0 N0 ?l0 ?lturn ?ldone
  case lt =>
    intro i m l X93
    refine park fun P9 k9 => ?_
    obtain ⟨rvs, rn, te, rfl, _⟩ := X93
    refine k9 ?_
    clear k9 P9
    exact .tail _ (List.mem_append_right _ hla)
  case l0 => exact ⟨[], 0, [], rfl, s0, .nil, by walk_at "loc", by walk_at "loc"⟩
  case lturn =>
    intro I1 i v m1 news1 h1 tk1 o1 hv X99 hoff F1 N1
    refine hideQ fun T9 k9 => ?_
    refine park fun P9 k9 => ?_
    obtain ⟨rvs, rn, te, rfl, s1, hP, q1, q2⟩ := X99
    obtain ⟨one, ot, rfl, ho⟩ := hl.item i v hv
    refine k9 ?_
    clear k9 P9
    have hi3 := (List.getElem?_eq_some_iff.mp ho).1
    have hw1 := hw one (List.mem_of_getElem? ho)
    have s2 := s1.cons_ne (o := o1) hoff
    have hA1 : ((lefts.take i).flatMap fun one => lefts.flatMap fun other => lapPairs one other).length ≤ 3 * 18 := Nat.le_trans (flat_len _ 18 _ fun x hx => Nat.le_trans (flat_len _ 6 _ fun y hy => Nat.le_trans (lapPairs_len x y) (by
      have := hw x (List.take_subset _ _ hx)
      have := hw y hy
      lia)) (by lia)) (by rw [List.length_take]; lia)
    clear F0 N0
    walk_at "go"
    refine For_invVF F1 rfl rfl ?_
    walk_at "go"
    refine iterList (vs := lvs) (ep := ln) (fun j m l => ∃ rvs rn te, l = (I1, o1) :: (R0, W.listOf rvs.toArray rn) :: (te ++ news) ∧ Sep l ∧ Paired (RuleIn te) rvs (((lefts.take i).flatMap fun one => lefts.flatMap fun other => lapPairs one other) ++ (lefts.take j).flatMap fun other => lapPairs one other) ∧
        m (Str.ofString "lapped") = some (.ref R0) ∧ m (Str.ofString "lefts") = some (.ref la) ∧ ∃ ot, m (Str.ofString "one") = some (.str one ot))
      rfl (.inr ?mt) F1 N1 ?m0 ?mturn ?mdone
    case mt =>
      intro j m l X93
      refine park fun P9 k9 => ?_
      obtain ⟨rvs, rn, te, rfl, _⟩ := X93
      refine k9 ?_
      clear k9 P9
      exact .tail _ (.tail _ (List.mem_append_right _ hla))
    case m0 => exact ⟨rvs, rn, te, rfl, s2, by simpa using hP, by walk_at "loc", by walk_at "loc", _, by walk_at "loc"⟩
    case mturn =>
      clear F1 N1 hP s1 s2 hoff q1 q2
      intro I2 j v m2 news2 h2 tk2 o2 hv2 X99 hoff2 F2 N2
      refine hideQ fun T9 k9 => ?_
      refine park fun P9 k9 => ?_
      obtain ⟨rvs, rn, te, rfl, s3, hP, q1, q2, ot1, q3⟩ := X99
      obtain ⟨other, ot2, rfl, ho2⟩ := hl.item j v hv2
      refine k9 ?_
      clear k9 P9
      have hj3 := (List.getElem?_eq_some_iff.mp ho2).1
      have hw2 := hw other (List.mem_of_getElem? ho2)
      have hA2 : ((lefts.take j).flatMap fun other => lapPairs one other).length ≤ 18 := Nat.le_trans (flat_len _ 6 _ fun y hy => Nat.le_trans (lapPairs_len one y) (by
        have := hw y (List.take_subset _ _ hy)
        lia)) (by rw [List.length_take]; lia)
      have hA3 := lapPairs_len one other
      generalize hA : ((lefts.take i).flatMap fun one => lefts.flatMap fun other => lapPairs one other) ++ ((lefts.take j).flatMap fun other => lapPairs one other) = A at hP
      have hAl : A.length ≤ 72 := by rw [← hA, List.length_append]; lia
      have s4 := s3.cons_ne (o := o2) hoff2
      walk_at "go"
      rename Fr _ _ _ _ => F3
      rename News _ _ _ _ => N3
      have hz : ((other ++ Str.ofString "|") ++ one).length = other.length + 1 + one.length := by
        rw [PySem.Str.length_append, PySem.Str.length_append]; rfl
      refine table_tells B2 F3 X2 T2 rfl ((other ++ Str.ofString "|") ++ one) _ _ N3 s4 (by rw [hz]; lia) (by rw [hz]; lia) (by show dp + 1 + 2 < recursionLimit; omega) (by show un + 3 + 16 < cLine; omega) ?_
      intro h4 tk4 t4 vs4 n4 i4 F4 kp4 N4 s5
      clear F3 N3 kp4
      refine park fun P9 k9 => ?_
      obtain ⟨ms4, hms⟩ := tabOf_last (l := ((other ++ Str.ofString "|") ++ one).cps.toList) (fun e => by
        have := congrArg List.length e
        rw [Array.length_toList] at this
        have h2 : ((other ++ Str.ofString "|") ++ one).length = 0 := this
        lia)
      refine k9 ?_
      clear k9 P9
      rw [bd_lap] at hms
      have hl4 : (tabOf ((other ++ Str.ofString "|") ++ one).cps.toList).length = other.length + 1 + one.length := by
        unfold tabOf
        rw [List.length_map, List.length_range, Array.length_toList]
        exact hz
      have hl5 : (tabOf ((other ++ Str.ofString "|") ++ one).cps.toList).length ≤ 1000000 := by lia
      walk_at "go"
      rename Fr _ _ _ _ => F5
      rename News _ _ _ _ => N5
      have hk0 : (tabOf ((other ++ Str.ofString "|") ++ one).cps.toList).getD (-1 + ((tabOf ((other ++ Str.ofString "|") ++ one).cps.toList).length : Int)).toNat 0 = ((lapN other.cps.toList one.cps.toList : Nat) : Int) := by
        rw [hms]; exact getD_last
      rw [hk0] at F5
      have hlt := lap_text other one
      have hln := lapN_le other.cps.toList one.cps.toList
      rw [slen, slen] at hln
      refine whl_start 0 (whileS (LapSt g2 L2 s news R0 I1 I2 t4 o1 o2 vs4 n4 one other la A) (by with_unfolding_all passes_own) ?wturn (lapN other.cps.toList one.cps.toList) ?wh0)
      case wh0 => exact .mk (done := []) F5 N5 s5 (by rw [List.append_nil]; exact hP) rfl (Nat.le_refl _) (by lia) (by walk_at "loc") (by walk_at "loc") (by walk_at "loc") (by walk_at "loc") (by walk_at "loc") (by walk_at "loc")
      case wturn =>
        clear F5 N5 s5 hP hk0 hms s4 s3
        rintro n3 s3 H again
        refine park fun P9 k9 => ?_
        cases H with
        | @mk h6 tk6 m6 rvs6 rn6 te6 k kt ot' ot2' done F6 N6 S6 P6 e6 kn kl c1 c2 c3 c4 c5 c6 =>
        refine k9 ?_
        clear k9 P9
        have hPl := P6.length
        have hel := congrArg List.length e6
        rw [List.length_append] at hel hPl
        have hrz : rvs6.length ≤ 1000000 := by lia
        rcases Nat.eq_zero_or_pos k with rfl | hkp
        · walk_at "go"
          rename Fr _ _ _ _ => F7
          rename News _ _ _ _ => N7
          refine k9 _ _ ?_
          dsimp only [PostG]
          rw [chainK_zero, List.map_nil, List.append_nil] at e6
          refine EndG.intro F7 (fun q hq => N7 q (.tail _ hq)) (Sep.head S6.tail) ⟨rvs6, rn6, te6, rfl, S6.tail.tail, ?_, by walk_at "loc", by walk_at "loc", _, by walk_at "loc"⟩
          rw [take_flat ho2, ← e6, ← List.append_assoc, hA]
          exact P6
        · have hsl : (Txt.slice other (some (k : Int)) none).length ≤ 1000 := Nat.le_trans (Txt.slice_le _ _ _) (by lia)
          have hta := tabOf_at (l := ((other ++ Str.ofString "|") ++ one).cps.toList) hkp (by rw [slen, hz]; lia)
          have ne4 : t4 ≠ R0 := (Sep.head S6 _ (.tail _ (.tail _ (.head _)))).symm
          have neI2 : I2 ≠ R0 := (Sep.head S6.tail _ (.tail _ (.head _))).symm
          have neI1 : I1 ≠ R0 := (Sep.head S6.tail.tail _ (.head _)).symm
          walk_at "go"
          rw [show decide ((0 : Int) < ((k : Nat) : Int)) = true from decide_eq_true (by omega)]
          walk_at "go"
          rename Fr _ _ _ _ => F7
          rename News _ _ _ _ => N7
          rename_i tq _ _ T0 _ lT _
          refine ksa_sub N7 (.tail _ (mem_upd_ne (.head _) ne4)) i4 (by omega) (by rw [hl4]; omega) (by omega) (fun t7 => ?_) (by with_unfolding_all rfl)
          rw [hta]
          walk_at "go"
          rename Fr _ _ _ _ => F8
          rename News _ _ _ _ => N8
          rw [hlt] at F8
          rw [upd_cons, if_neg ne4, upd_cons, if_neg neI2, upd_cons, if_neg neI1, upd_hd S6.tail.tail.tail, List.push_toArray] at N8
          have S7 : Sep ((t4, W.listOf vs4.toArray n4) :: (I2, o2) :: (I1, o1) :: (R0, W.listOf (rvs6 ++ [Value.ref T0]).toArray (rn6 + 1)) :: (te6 ++ news)) := S6
          have S8 : Sep ((T0, tupOf #[Value.str (one ++ Txt.slice other (some (k : Int)) none) tq, Value.str other ot2'] 0) :: (t4, W.listOf vs4.toArray n4) :: (I2, o2) :: (I1, o1) :: (R0, W.listOf (rvs6 ++ [Value.ref T0]).toArray (rn6 + 1)) :: (te6 ++ news)) := S7.cons fun q hq => by
            rcases List.mem_cons.mp hq with rfl | hq
            · exact lT.1
            · rcases List.mem_cons.mp hq with rfl | hq
              · exact lT.2.1
              · rcases List.mem_cons.mp hq with rfl | hq
                · exact lT.2.2.1
                · rcases List.mem_cons.mp hq with rfl | hq
                  · exact lT.2.2.2.1
                  · exact ktn_ltOf lT.2.2.2.2 q hq
          refine again (bd (other.cps.toList ++ 124 :: one.cps.toList) k) _ (Nat.lt_of_lt_of_le (bd_lt hkp) kn) (.mk (done := done ++ [(one ++ Txt.slice other (some (k : Int)) none, other)]) (te := (T0, tupOf #[Value.str (one ++ Txt.slice other (some (k : Int)) none) tq, Value.str other ot2'] 0) :: te6)
            F8 (fun q hq => N8 q (perm5.mem_iff.mpr hq)) (S8.perm perm5) ?par ?ee (Nat.le_refl _) (by have := bd_lt (l := other.cps.toList ++ 124 :: one.cps.toList) hkp; lia) (by walk_at "loc") (by walk_at "loc") (by walk_at "loc") (by walk_at "loc") (by walk_at "loc") (by walk_at "loc"))
          case par =>
            rw [← List.append_assoc]
            exact paired_append (paired_left (fun _ _ h => h.mono fun q hq => .tail _ hq) P6) (.cons ⟨tq, ot2', T0, 0, rfl, .head _⟩ .nil)
          case ee =>
            rw [chainK_pos hkp, List.map_cons] at e6
            rw [List.append_assoc]
            exact e6
    case mdone =>
      intro m2 news2 h2 tk2 X94 F2 N2
      refine park fun P9 k9 => ?_
      obtain ⟨rvs, rn, te, rfl, s3, hP, q1, q2, ot1, q3⟩ := X94
      refine k9 ?_
      clear k9 P9
      dsimp only
      walk_at "go"
      refine k9 _ _ ?_
      dsimp only [PostG]
      refine EndG.intro F2 (fun q hq => N2 q hq) (Sep.head s3) ⟨rvs, rn, te, rfl, s3.tail, ?_, by walk_at "loc", by walk_at "loc"⟩
      rw [take_flat ho]
      rw [hll, List.take_length] at hP
      exact hP
  case ldone =>
    intro m1 news1 h1 tk1 X94 F1 N1
    refine park fun P9 k9 => ?_
    obtain ⟨rvs, rn, te, rfl, s1, hP, q1, q2⟩ := X94
    refine k9 ?_
    clear k9 P9
    dsimp only
    rw [hll, List.take_length] at hP
    walk_at "go"
    exact ret _ _ R0 rvs rn te hP (by assumption) (by assumption) s1
end
end
section
theorem anew_RoundsX_01 : True := by w_top off; trivial
local macro_rules | `(tactic| walk_at "enterC") => ln "dwn" "|code_defC ?k1 ?k2 ?k3 ?k4 ?k5 ?kA ?kF ?kK ?k6 ?k7 ?k8 ?k9 ?kB ?kD ?_ ?c2 ?c3 ?c4|kAr kFr kKs k1a k2a k3a k4a k5a k6i k7i k8o k9B kBr kDe c2r c3r c4r|"
local macro_rules | `(tactic| walk_at "stop") => ln "q" "wpAny _ _ (eval (PySem.Expr.ListComp _ _ _ _) _) _ _ _"
local macro_rules | `(tactic| walk_at "stop") => ln "q" "wpAny _ _ (compareOp _ (Value.ref _) _) _ _ _"
local macro_rules | `(tactic| walk_at "stop") => ln "q" "wpAny _ _ (call (Value.builtin \"sorted\") _) _ _ _"
local macro_rules | `(tactic| walk_at "compareOp NotIn str ref") => ln "hdwQ" "(compareOp CmpOp.NotIn (Value.str _ _) (Value.ref _))|kdg_notin (knd := PySem.strKind _ _) ?N ?m ?d ?lo (strKind_is _ _ _ _) _ ?b ?_|Na mm ds los bs|"
local macro_rules | `(tactic| walk_at "stop") => ln "q" "WhlRest _ _ _ _ _ _ _ _ _ _ _"
local macro_rules | `(tactic| walk_at "newList") => ln "hdwK" "|newList_MK ?k1 ?k2 ?_|k1a k2a|l' h' F' N' l1 kK|lt|l1"
local macro_rules | `(tactic| walk_at "stop") => ln "q" "wpAny _ _ (exec (Stmt.Assign _ (PySem.Expr.ListComp _ _ _ _) _) _) _ _ _"
/-- between the rounds -/
inductive RndSt (prog : Program) (w : World) (g : Heap) (L : Addr) (s : Shared) (led : List (Addr × Obj)) (R0 kd wa : Addr) (words : List Str) (NX : Str → List Str) (n : Nat) : Shared → Prop
  | mk {h : Heap} {tk : Nat} {m : Str → Option Value} {kvsK : List (Str × Value)} {ko : Obj} {rvs : List Value} {rn : Nat} {te : List (Addr × Obj)} {xss : List (List Str)} (F : Fr g L h m)
      (N : News g L h ((R0, W.listOf rvs.toArray rn) :: (kd, ko) :: (te ++ led))) (S : Sep ((R0, W.listOf rvs.toArray rn) :: (kd, ko) :: (te ++ led))) (hk : ko.IsDictOf (PySem.strKind prog w) kvsK) (nod : (kvsK.map (·.1)).Nodup)
      (mem : ∀ k, k ∈ kvsK.map (·.1) ↔ k ∈ xss.flatten) (R : RdL words NX xss) (P : Paired (LstIn te) rvs xss) (le : words.length ≤ (kvsK.map (·.1)).length + n) (xl : xss.length ≤ (kvsK.map (·.1)).length)
      (m1 : m (Str.ofString "rounds") = some (.ref R0)) (m2 : m (Str.ofString "words") = some (.ref wa)) : RndSt prog w g L s led R0 kd wa words NX n { s with heap := h, toks := tk }
section
variable {w : World} {p : Program} {loose : List Str} {mean : ExcName → Option Value} {mg mb : Str → Option Value}
  {dp un : Nat} {gd : Option (List Code)} {cn : Str} {cs : Scope} {a : Addr} {ccd : Value} {cl : List (Str × Addr)} {outer : List Env} {A₀ : Around} {base h₀ : Heap} {L : Addr} {m : Str → Option Value} {s : Shared}
    {Q E : Value → Shared → Prop}
  (B : Below A₀ base outer h₀) (F : Fr h₀ L s.heap m) (X : (Mine.hd.heap_1 w.params).In h₀) (T : Top p loose mean mg mb h₀) (hk : cs.kind = .function)
include B F X T hk
theorem rounds_tells (wa : Addr) (wvs : List Value) (wn : Nat) (words : List Str) (nd : Addr) (no : Obj) (kvs : List (Str × Value)) (NX : Str → List Str) (news : List (Addr × Obj)) (N : News h₀ L s.heap news) (hs : Sep news)
  (hwa : (wa, W.listOf wvs.toArray wn) ∈ news) (hw : StrsAre wvs words) (hnd : (nd, no) ∈ news) (hno : no.IsDictOf (PySem.strKind PySem.Challenge.rw_tv0044_01.row.prog w) kvs) (lo : (nd == sysModules) = false) (hD : ∀ x ∈ words, ∃ v, valueAt kvs x = some v ∧ LstIn news v (NX x))
  (hab : ∀ x ∈ words, abS x) (hnw : words.Nodup) (hwl : words.length ≤ 60) (hnl : ∀ x ∈ words, (NX x).length ≤ 1000) (hcl : ∀ x ∈ words, ∀ q ∈ NX x, q ∈ words) (hdp : dp + 3 < recursionLimit) (hun : un + 128 < cLine)
  (ret : ∀ h' tk' t rvs n xss te, RdL words NX xss → rowOf words NX xss.flatten = [] → Paired (LstIn te) rvs xss → Fr h₀ L h' m → News h₀ L h' ((t, W.listOf rvs.toArray n) :: (te ++ news)) → Sep ((t, W.listOf rvs.toArray n) :: (te ++ news)) → Q (.ref t) { s with heap := h', toks := tk' }) :
    wpAny (model PySem.Challenge.rw_tv0044_01.row.prog w) (ktrTop dp un gd cn cs L a ccd cl outer) (call (.ref 179) [.ref wa, .ref nd]) Q E s := by
  revert X; k_fill; intro X
  refine wpAny_call ?_
  k_dflt (walk_at "enterC")
  intro gr L2 h2 tk2 cells FG2 F2 N2 Y2 B2 X2 T2 l2
  refine park fun P9 k9 => ?_
  k_cells Y2
  refine k9 ?_
  clear k9 P9
  (try dsimp only); (try k_unmd); k_fold
  rename_i o1 o2 d1 d2
  dsimp only [List.cons_append, List.nil_append] at N2
  have c2 : o2.data = .cell (some (.ref nd)) := d2
  have c1 : o1.data = .cell none := d1
  clear d1 d2
  have F2' : Fr gr L2 h2 (fun y => if y = Str.ofString "words" then some (.ref wa) else none) := F2
  clear F2
  have b0 : ∀ q ∈ (L2 + 1, o2) :: news, @LT.lt Nat _ q.1 (L2 + 1 + 1) := fun q hq => by
    rcases List.mem_cons.mp hq with rfl | hq
    · exact Nat.lt_succ_self _
    · have h3 : @LT.lt Nat _ q.1 L2 := l2 q hq
      show @LT.lt Nat _ q.1 _
      omega
  have s2 : Sep ((L2 + 1 + 1, o1) :: (L2 + 1, o2) :: news) := (hs.cons fun q hq => (by have h3 : @LT.lt Nat _ q.1 L2 := l2 q hq; show @LT.lt Nat _ q.1 _; omega)).cons b0
  walk_at "go"
  rename Fr _ _ _ _ => F3
  rename News _ _ _ _ => N3
  rename_i kd _ ko lo3 hso3 hfs3 hi3 hfi3 l3 _ oc dc R0 _ _ l4 _
  have s3 : Sep ((R0, W.listOf ([] : List Value).toArray 0) :: (kd, ko) :: (L2 + 1 + 1, oc) :: (L2 + 1, o2) :: news) := by
    have s4 : Sep ((L2 + 1 + 1, oc) :: (L2 + 1, o2) :: news) := s2
    refine (s4.cons fun q hq => ?_).cons fun q hq => ?_
    · rcases List.mem_cons.mp hq with rfl | hq
      · exact l3.1
      · rcases List.mem_cons.mp hq with rfl | hq
        · exact l3.2.1
        · exact ktn_ltOf l3.2.2 q hq
    · rcases List.mem_cons.mp hq with rfl | hq
      · exact l4.1
      · rcases List.mem_cons.mp hq with rfl | hq
        · exact l4.2.1
        · rcases List.mem_cons.mp hq with rfl | hq
          · exact l4.2.2.1
          · exact ktn_ltOf l4.2.2.2 q hq
  refine whl_start 0 (whileS (RndSt PySem.Challenge.rw_tv0044_01.row.prog w gr L2 s ((L2 + 1 + 1, oc) :: (L2 + 1, o2) :: news) R0 kd wa words NX) (by with_unfolding_all passes_own) ?wturn words.length ?wh0)
  case wh0 => exact .mk (te := []) (xss := []) F3 N3 s3 hso3 List.nodup_nil (fun k => by simp) RdL.nil .nil (by simp) (Nat.zero_le _) (by walk_at "loc") (by walk_at "loc")
  case wturn =>
    clear F3 N3 s3 hso3 hfs3 hi3 hfi3 l3 l4 s2
    rintro n3 s3 H again
    refine park fun P9 k9 => ?_
    cases H with
    | @mk h6 tk6 m6 kvsK ko rvs rn te xss F6 N6 S6 hk6 nod6 mem6 R6 P6 le6 xl6 c5 c6 =>
    refine k9 ?_
    clear k9 P9
    walk_at "go"
    refine compAW (h₀ := gr) (cl := [(Str.ofString "nexts", L2 + 1), (Str.ofString "known", L2 + 1 + 1)]) (p := fun v => match v with | .str x _ => decide (x ∉ kvsK.map (·.1)) && decide (∀ q ∈ NX x, q ∈ kvsK.map (·.1)) | _ => false) (G := fun v r => r = v) ?hsw ?hc ?c ?k ?n ?x ?y ?pp ?s ?h
    case hsw => with_unfolding_all rfl
    case hc => with_unfolding_all rfl
    case c => decide
    case k => exact rfl
    case n => decide
    case x => exact rfl
    case y => exact rfl
    case pp => exact rfl
    case s => intro _; with_unfolding_all rfl
    have mwa : (wa, W.listOf wvs.toArray wn) ∈ te ++ ((L2 + 1 + 1, oc) :: (L2 + 1, o2) :: news) := List.mem_append_right _ (.tail _ (.tail _ hwa))
    have mc1 : (L2 + 1 + 1, oc) ∈ te ++ ((L2 + 1 + 1, oc) :: (L2 + 1, o2) :: news) := List.mem_append_right _ (.head _)
    have mc2 : (L2 + 1, o2) ∈ te ++ ((L2 + 1 + 1, oc) :: (L2 + 1, o2) :: news) := List.mem_append_right _ (.tail _ (.head _))
    have mnd : (nd, no) ∈ te ++ ((L2 + 1 + 1, oc) :: (L2 + 1, o2) :: news) := List.mem_append_right _ (.tail _ (.tail _ hnd))
    have mnw : ∀ q ∈ news, q ∈ te ++ ((L2 + 1 + 1, oc) :: (L2 + 1, o2) :: news) := fun q hq => List.mem_append_right _ (.tail _ (.tail _ hq))
    generalize hled : te ++ ((L2 + 1 + 1, oc) :: (L2 + 1, o2) :: news) = led at N6 S6 mwa mc1 mc2 mnd mnw
    walk_at "go"
    rename Fr _ _ _ _ => F7
    rename News _ _ _ _ => N7
    refine compListA F7 N7 (.tail _ (.tail _ mwa)) (seven_le (by have := hw.length; lia)) rfl ⟨?tests, ?elts⟩ ?done
    case tests =>
      intro C j v s3 m3 E' hv F8 N8 hn8 hm8
      refine park fun P9 k9 => ?_
      obtain ⟨x, xt, rfl, hx⟩ := hw.item j v hv
      have hxw := List.mem_of_getElem? hx
      obtain ⟨v0, hv0, na, nvs, nn, rfl, hna, hns⟩ := hD x hxw
      refine k9 ?_
      clear k9 P9
      have hna' := mnw _ hna
      clear F7 N7
      refine wpAny_tests_one ?_
      by_cases hxD : x ∈ kvsK.map (·.1)
      · have hb : (valueAt kvsK x).isSome = true := by rw [valueAt_some, decide_eq_true hxD]
        walk_at "go"
        · simp [hxD]
        · exact ⟨_, _, rfl, fun _ _ e => e⟩
      · have hb : (valueAt kvsK x).isSome = false := by rw [valueAt_some, decide_eq_false hxD]
        walk_at "go"
        refine compWK (h₀ := gr) (L := L2) (cl := [(Str.ofString "known", L2 + 1 + 1)]) (p := fun v => match v with | .str q _ => decide (q ∉ kvsK.map (·.1)) | _ => false) (G := fun v r => r = v) ?ihc ?ic ?ik ?inn ?ix ?is ?ih
        case ihc => with_unfolding_all rfl
        case ic => decide
        case ik => exact rfl
        case inn => decide
        case ix => exact rfl
        case is => intro _; with_unfolding_all rfl
        walk_at "go"
        rename Fr _ _ _ _ => F9
        rename News _ _ _ _ => N9'
        have hnl9 := hnl x hxw
        refine compListK F9 N9' (.tail _ (.tail _ hna')) (seven_le (by have := hns.length; lia)) rfl ⟨?itests, ?ielts⟩ ?idone
        case itests =>
          intro C2 j2 v2 s4 m4 E4 hv2 F10 N10 hn10 hm10
          refine park fun P9 k9 => ?_
          obtain ⟨q, qt, rfl, hq⟩ := hns.item j2 v2 hv2
          refine k9 ?_
          clear k9 P9
          clear F9 N9'
          refine wpAny_tests_one ?_
          by_cases hqD : q ∈ kvsK.map (·.1)
          · have hb2 : (valueAt kvsK q).isSome = true := by rw [valueAt_some, decide_eq_true hqD]
            walk_at "go"
            · simp [hqD]
            · exact ⟨_, _, rfl, fun _ _ e => e⟩
          · have hb2 : (valueAt kvsK q).isSome = false := by rw [valueAt_some, decide_eq_false hqD]
            walk_at "go"
            · simp [hqD]
            · exact ⟨_, _, rfl, fun _ _ e => e⟩
        case ielts =>
          intro C2 j2 v2 s4 m4 E4 hv2 hp2 F10 N10 hn10 hm10
          refine park fun P9 k9 => ?_
          obtain ⟨q, qt, rfl, hq⟩ := hns.item j2 v2 hv2
          refine k9 ?_
          clear k9 P9
          clear F9 N9'
          walk_at "go"
          exact ⟨_, _, rfl, fun _ _ e => e⟩
        case idone =>
          intro D2 h9 tk9 ys9 k9 hG9 F10 N10 hoff10 hkp10
          clear F9 N9'
          walk_at "go"
          rename News _ _ _ _ => N11
          rename_i l5 h11 kK11 lt11
          have hf9 : StrsAre ys9 ((NX x).filter fun q => decide (q ∉ kvsK.map (·.1))) := by
            rw [paired_same hG9]; exact strs_filter (fun q => decide (q ∉ kvsK.map (·.1))) hns
          have hqab : ∀ q ∈ NX x, abS q := fun q hq => hab q (hcl x hxw q hq)
          refine eqS_M (c := decide (((NX x).filter fun q => decide (q ∉ kvsK.map (·.1))) = [])) N11 (.tail _ (.head _)) (.head _) hf9 .nil (fun q hq => hqab q (List.mem_filter.mp hq).1) (fun _ h => nomatch h) rfl ?hu ?_
          case hu => show un + 3 + 64 < cLine; omega
          have hpe : (decide (((NX x).filter fun q => decide (q ∉ kvsK.map (·.1))) = [])) = decide (∀ q ∈ NX x, q ∈ kvsK.map (·.1)) := decide_eq_decide.mpr (by
            rw [List.filter_eq_nil_iff]
            exact ⟨fun h q hq => Decidable.not_not.mp fun hc => h q hq (decide_eq_true hc), fun h q hq hc => (of_decide_eq_true hc : q ∉ _) (h q hq)⟩)
          rw [hpe]
          by_cases hall : ∀ q ∈ NX x, q ∈ kvsK.map (·.1)
          · rw [decide_eq_true hall]
            walk_at "go"
            · simp only [hxD, decide_eq_true hall]; rfl
            · exact ⟨_, _, rfl, fun b o e => kK11 b o (hkp10 b o e)⟩
          · rw [decide_eq_false hall]
            walk_at "go"
            · simp only [hxD, decide_eq_false hall]; rfl
            · exact ⟨_, _, rfl, fun b o e => kK11 b o (hkp10 b o e)⟩
    case elts =>
      intro C j v s3 m3 E' hv hp F8 N8 hn8 hm8
      refine park fun P9 k9 => ?_
      obtain ⟨x, xt, rfl, hx⟩ := hw.item j v hv
      refine k9 ?_
      clear k9 P9
      clear F7 N7
      walk_at "go"
      exact ⟨_, _, rfl, fun _ _ e => e⟩
    case done =>
      intro D h9 tk9 ys9 k9 hG9 F9 N9 hoff9
      have hrow : StrsAre ys9 (rowOf words NX (kvsK.map (·.1))) := by
        rw [paired_same hG9]
        exact strs_filter (fun x => decide (x ∉ kvsK.map (·.1)) && decide (∀ q ∈ NX x, q ∈ kvsK.map (·.1))) hw
      generalize hrw : rowOf words NX (kvsK.map (·.1)) = row at hrow
      have hrin : ∀ q ∈ row, q ∈ words := fun q hq => (mem_rowOf.mp (hrw ▸ hq)).1
      have hrout : ∀ q ∈ row, q ∉ kvsK.map (·.1) := fun q hq => (mem_rowOf.mp (hrw ▸ hq)).2.1
      have hrnd : row.Nodup := by rw [← hrw]; exact hnw.sublist (List.filter_sublist)
      have hrlen : row.length ≤ words.length := List.Nodup.length_le_of_subset hrnd hrin
      have hyl := hrow.length
      have hkl : (kvsK.map (·.1)).length ≤ words.length := List.Nodup.length_le_of_subset nod6 fun q hq => (R6.mem ((mem6 q).mp hq)).1
      have s9 := S6.cons_ne (o := W.listOf ys9.toArray k9) hoff9
      dsimp only
      walk_at "go"
      rename News _ _ _ _ => N10
      rename Fr _ _ _ _ => F10
      refine eqS_M (c := decide (row = [])) N10 (.tail _ (.head _)) (.head _) hrow .nil (fun q hq => hab q (hrin q hq)) (fun _ h => nomatch h) rfl ?hu ?_
      case hu => show un + 3 + 64 < cLine; omega
      have N11 : News _ _ _ ((D, W.listOf ys9.toArray k9) :: (R0, W.listOf rvs.toArray rn) :: (kd, ko) :: led) := fun q hq => N10 q (.tail _ hq)
      clear N10
      by_cases hr0 : row = []
      · rw [decide_eq_true hr0]
        walk_at "go"
        rename Fr h₀ _ _ _ => kF9
        rename News h₀ _ _ _ => kN9
        refine ret _ _ R0 rvs rn xss te R6 (by rw [← rowOf_congr mem6, hrw, hr0]) P6 kF9 (fun q hq => kN9 q ?_) ?_
        · rcases List.mem_cons.mp hq with rfl | hq
          · exact .tail _ (.head _)
          · refine .tail _ (.tail _ (.tail _ ?_))
            rw [← hled]
            rcases List.mem_append.mp hq with hq | hq
            · exact List.mem_append_left _ hq
            · exact List.mem_append_right _ (.tail _ (.tail _ hq))
        · rw [← hled] at S6
          exact S6.sub (.cons₂ _ (.cons _ ((List.Sublist.refl _).append (.cons _ (List.sublist_cons_self _ _)))))
      · rw [decide_eq_false hr0]
        walk_at "go"
        rename Fr _ _ _ _ => F12
        rename News _ _ _ _ => N12
        refine wpAny_For ?_
        walk_at "go"
        refine listC (vs := ys9) (ep := k9) (fun i m l => ∃ kvsI koI, l = (D, W.listOf ys9.toArray k9) :: (R0, W.listOf rvs.toArray rn) :: (kd, koI) :: led ∧ Sep l ∧ koI.IsDictOf (PySem.strKind PySem.Challenge.rw_tv0044_01.row.prog w) kvsI ∧ kvsI.map (·.1) = kvsK.map (·.1) ++ row.take i ∧
            m (Str.ofString "rounds") = some (.ref R0) ∧ m (Str.ofString "words") = some (.ref wa) ∧ m (Str.ofString "row") = some (.ref D))
          rfl PassesOwn.leaving ?lt F12 N12 ?l0 ?lturn ?ldone
        case lt =>
          intro i m l X93
          refine park fun P9 k9 => ?_
          obtain ⟨kvsI, koI, rfl, _⟩ := X93
          refine k9 ?_
          clear k9 P9
          exact .head _
        case l0 => exact ⟨kvsK, ko, rfl, s9, hk6, by simp, by walk_at "loc", by walk_at "loc", by walk_at "loc"⟩
        case lturn =>
          clear F12 N12
          intro I i v m1 news1 h1 tk1 oI hv X99 hoff1 F13 N13
          refine hideS fun T9 kT9 => ?_
          refine park fun P9 k9 => ?_
          obtain ⟨kvsI, koI, rfl, s11, hkI, hkm, q1, q2, q3⟩ := X99
          obtain ⟨x, xt, rfl, hx⟩ := hrow.item i v hv
          refine k9 ?_
          clear k9 P9
          have hxr := List.mem_of_getElem? hx
          have hxk : x ∉ kvsI.map (·.1) := by
            rw [hkm, List.mem_append]
            rintro (h | h)
            · exact hrout x hxr h
            · refine park fun P9 k9 => ?_
              obtain ⟨j, hj, e⟩ := List.getElem_of_mem h
              refine k9 ?_
              clear k9 P9
              rw [List.length_take] at hj
              rw [List.getElem_take] at e
              have h2 := (List.getElem?_eq_some_iff.mp hx)
              refine park fun P9 k9 => ?_
              obtain ⟨h3, h4⟩ := h2
              refine k9 ?_
              clear k9 P9
              have := (List.getElem_inj hrnd).mp (e.trans h4.symm)
              lia
          have s12 := s11.cons_ne (o := oI) hoff1
          have hzI : kvsI.length ≤ sizeLine := seven_le (by
            rw [← List.length_map (f := (·.1)), hkm, List.length_append, List.length_take]; lia)
          have nkI : kd ≠ I := hoff1 _ (.tail _ (.tail _ (.head _)))
          have nk1 : kd ≠ D := (Sep.head s11 _ (.tail _ (.head _)))
          have nk2 : kd ≠ R0 := (Sep.head s11.tail _ (.head _))
          walk_at "go"
          rename Fr _ _ _ _ => F14
          rename News _ _ _ _ => N14
          rename_i o14 hd14
          rw [upd_cons, if_neg nk2.symm, upd_hd s11.tail.tail] at N14
          have hvn : valueAt kvsI x = none := by
            have h2 := valueAt_some (kvs := kvsI) (k := x)
            rw [decide_eq_false hxk] at h2
            cases e : valueAt kvsI x with
            | none => rfl
            | some v => rw [e] at h2; cases h2
          rw [stored_new hvn] at hd14
          have s13 : Sep ((D, W.listOf ys9.toArray k9) :: (R0, W.listOf rvs.toArray rn) :: (kd, o14) :: led) := s11
          refine kT9 _ _ ?_
          dsimp only [PostG]
          refine EndG.intro F14 N14 (off_same hoff1 rfl) ⟨kvsI ++ [(x, .bool true)], o14, rfl, s13, hd14, ?_, by walk_at "loc", by walk_at "loc", by walk_at "loc"⟩
          rw [List.map_append, hkm, List.append_assoc, List.take_add_one, hx]
          rfl
        case ldone =>
          clear F12 N12
          intro m1 news1 h1 tk1 X94 F13 N13
          refine park fun P9 k9 => ?_
          obtain ⟨kvsI, koI, rfl, s11, hkI, hkm, q1, q2, q3⟩ := X94
          refine k9 ?_
          clear k9 P9
          dsimp only
          rw [hyl, List.take_length] at hkm
          have hrz : rvs.length ≤ 1000000 := by have := P6.length; lia
          walk_at "go"
          rename Fr _ _ _ _ => F14
          rename News _ _ _ _ => N14
          refine sortedL_M F14 N14 (.head _) hrow (by lia) ?_
          intro D2 vs2 ss2 c2 h2 F15 N15 hb2 hst2 hperm hsrt
          clear F14 N14
          have s14 := s11.cons (o := W.listOf vs2.toArray c2) hb2
          have n02 : R0 ≠ D2 := Nat.ne_of_lt (hb2 _ (.tail _ (.head _)))
          have n0D : R0 ≠ D := Sep.head s11 _ (.head _)
          walk_at "go"
          rename Fr _ _ _ _ => F16
          rename News _ _ _ _ => N16
          rw [upd_cons, if_neg n02.symm, upd_cons, if_neg n0D.symm, upd_hd s11.tail] at N16
          have nodI : (kvsI.map (·.1)).Nodup := by
            rw [hkm, List.nodup_append]
            exact ⟨nod6, hrnd, fun a ha b hb e => hrout b hb (e ▸ ha)⟩
          have hlI : (kvsI.map (·.1)).length = (kvsK.map (·.1)).length + row.length := by rw [hkm, List.length_append]
          have hrp : 0 < row.length := List.length_pos_iff.mpr hr0
          have hIs : (kvsI.map (·.1)).length ≤ words.length := List.Nodup.length_le_of_subset nodI fun q hq => by
            rw [hkm] at hq
            rcases List.mem_append.mp hq with h | h
            · exact (R6.mem ((mem6 q).mp h)).1
            · exact hrin q h
          have s16 : Sep ((D2, W.listOf vs2.toArray c2) :: (D, W.listOf ys9.toArray k9) :: (R0, W.listOf (rvs ++ [Value.ref D2]).toArray (rn + 1)) :: (kd, koI) :: led) := s14
          subst hled
          have pm : ((D2, W.listOf vs2.toArray c2) :: (R0, W.listOf (rvs ++ [Value.ref D2]).toArray (rn + 1)) :: (kd, koI) :: (te ++ ((L2 + 1 + 1, oc) :: (L2 + 1, o2) :: news))).Perm ((R0, W.listOf (rvs ++ [Value.ref D2]).toArray (rn + 1)) :: (kd, koI) :: (D2, W.listOf vs2.toArray c2) :: (te ++ ((L2 + 1 + 1, oc) :: (L2 + 1, o2) :: news))) :=
            (List.Perm.swap _ _ _).trans (List.Perm.cons _ (List.Perm.swap _ _ _))
          refine again (n3 - 1) _ (by lia) (.mk (te := (D2, W.listOf vs2.toArray c2) :: te) (xss := xss ++ [ss2]) F16 (fun q hq => N16 q ?mem) ((s16.sub (.cons₂ _ (List.sublist_cons_self _ _))).perm pm) hkI nodI ?flat (R6.snoc mem6 ?ne hsrt (by rw [hrw]; exact hperm)) ?par (by lia) ?xl (by walk_at "loc") (by walk_at "loc"))
          case mem =>
            rcases List.mem_cons.mp (pm.mem_iff.mpr hq) with h | h
            · rw [h]; exact .head _
            · exact .tail _ (.tail _ h)
          case flat =>
            intro k
            rw [hkm, List.mem_append, mem6, List.flatten_append, List.mem_append]
            simp [hperm.mem_iff]
          case ne => exact fun e => hr0 (by rw [e] at hperm; exact hperm.symm.eq_nil)
          case par => exact paired_append (lsts_mono P6 fun q hq => .tail _ hq) (.cons ⟨D2, vs2, c2, rfl, .head _, hst2⟩ .nil)
          case xl => rw [List.length_append, List.length_singleton]; lia
end
end
section
theorem anew_EndsX_01 : True := by w_top off; trivial
local macro_rules | `(tactic| walk_at "stop") => ln "q" "wpAny _ _ (compareOp _ (Value.ref _) (Value.ref _)) _ _ _"
local macro_rules | `(tactic| walk_at "stop") => ln "q" "wpAny _ _ (call (Value.builtin \"dict.get\") [_, _, _]) _ _ _"
section
variable {w : World} {p : Program} {loose : List Str} {mean : ExcName → Option Value} {mg mb : Str → Option Value}
  {dp un : Nat} {gd : Option (List Code)} {cn : Str} {cs : Scope} {a : Addr} {ccd : Value} {cl : List (Str × Addr)} {outer : List Env} {A₀ : Around} {base h₀ : Heap} {L : Addr} {m : Str → Option Value} {s : Shared}
    {Q E : Value → Shared → Prop}
  (B : Below A₀ base outer h₀) (F : Fr h₀ L s.heap m) (X : (Mine.hd.heap_1 w.params).In h₀) (T : Top p loose mean mg mb h₀) (hk : cs.kind = .function)
include B F X T hk
theorem ends_tells (word : Str) (wt : Tok) (aa : Addr) (avs : List Value) (an : Nat) (after : List Str) (ed : Addr) (eo : Obj) (kvs : List (Str × Value)) (f : Str → Option (List Str)) (news : List (Addr × Obj)) (N : News h₀ L s.heap news) (hs : Sep news)
  (haa : (aa, W.listOf avs.toArray an) ∈ news) (hav : StrsAre avs after) (hed : (ed, eo) ∈ news) (hd : eo.IsDictOf (PySem.strKind PySem.Challenge.rw_tv0044_01.row.prog w) kvs) (lo : (ed == sysModules) = false) (hD : DicIn news kvs f)
  (hok : ∀ x ∈ after, abS x) (hal : after.length ≤ 900) (hfl : ∀ k xs, f k = some xs → xs.length ≤ 900) (hdp : dp + 2 < recursionLimit) (hun : un + 128 < cLine)
  (ret : ∀ h' tk' t vs n, StrsAre vs (endsOf (fun k => (f k).getD []) word after) → Fr h₀ L h' m → News h₀ L h' ((t, W.listOf vs.toArray n) :: news) → Sep ((t, W.listOf vs.toArray n) :: news) → Q (.ref t) { s with heap := h', toks := tk' }) :
    wpAny (model PySem.Challenge.rw_tv0044_01.row.prog w) (ktrTop dp un gd cn cs L a ccd cl outer) (call (.ref 174) [.str word wt, .ref aa, .ref ed]) Q E s := by
  revert X; k_fill; intro X
  refine wpAny_call ?_
  k_dflt ktr_enter
  rename_i g2 L2 _ FG2 _ _ _ _ _
  walk_at "go"
  rename Fr g2 _ _ _ => F0
  rename News g2 _ _ _ => N0
  refine eqS_M (c := decide (after = [])) N0 (.tail _ haa) (.head _) hav .nil hok (fun _ h => nomatch h) rfl ?hu ?_
  case hu => show un + 3 + 64 < cLine; omega
  by_cases ha : after = []
  · rw [decide_eq_true ha]
    walk_at "go"
    rename Fr h₀ _ _ _ => kF9
    rename News h₀ _ _ _ => kN9
    rename_i lD _ _ _ l1D _ _
    refine ret _ _ lD [.str word wt] 0 (by unfold endsOf; rw [if_pos ha]; exact .cons _ _ .nil) kF9 (fun q hq => kN9 q ?_) (hs.cons fun q hq => ktn_ltOf l1D.2 q hq)
    rcases List.mem_cons.mp hq with rfl | hq
    · exact .head _
    · exact .tail _ (.tail _ hq)
  · rw [decide_eq_false ha]
    walk_at "go"
    rename Fr g2 _ _ _ => F1
    rename News g2 _ _ _ => N1
    rename_i D0 _ l0D _
    have s0 : Sep ((D0, W.listOf ([] : List Value).toArray 0) :: news) := hs.cons fun q hq => ktn_ltOf l0D.2 q hq
    have N1 : News g2 L2 _ ((D0, W.listOf ([] : List Value).toArray 0) :: news) := fun q hq => N1 q (by
      rcases List.mem_cons.mp hq with rfl | hq
      · exact .head _
      · exact .tail _ (.tail _ hq))
    have havl := hav.length
    refine For_invVF F1 rfl rfl ?_
    walk_at "go"
    refine iterList (vs := avs) (ep := an) (fun i m l => ∃ fvs fn, l = (D0, W.listOf fvs.toArray fn) :: news ∧ Sep l ∧ StrsAre fvs ((after.take i).foldl (fun found one => ((f one).getD []).foldl addNew found) []) ∧ m (Str.ofString "found") = some (.ref D0) ∧ m (Str.ofString "ends") = some (.ref ed))
      rfl (.inr ?lt) F1 N1 ?l0 ?lturn ?ldone
    case lt =>
      intro i m l X93
      refine park fun P9 k9 => ?_
      obtain ⟨fvs, fn, rfl, _⟩ := X93
      refine k9 ?_
      clear k9 P9
      exact .tail _ haa
    case l0 => exact ⟨[], 0, rfl, s0, .nil, by walk_at "loc", by walk_at "loc"⟩
    case lturn =>
      intro I i v m1 news1 h1 tk1 oI hv X99 hoff F2 N2
      refine hideQ fun T9 k9 => ?_
      refine park fun P9 k9 => ?_
      obtain ⟨fvs, fn, rfl, s1, hst, g1, g2'⟩ := X99
      obtain ⟨one, ot, rfl, ho⟩ := hav.item i v hv
      refine k9 ?_
      clear k9 P9
      have hil := (List.getElem?_eq_some_iff.mp ho).1
      clear F1 N1 s0
      have s2 := s1.cons_ne (o := oI) hoff
      have hne : D0 ≠ I := hoff _ (.head _)
      have hG0 : ((after.take i).foldl (fun found one => ((f one).getD []).foldl addNew found) []).length ≤ i * 900 := by
        have h1 := fold_len (fun k => (f k).getD []) 900 (after.take i) [] (fun k _ => by
          cases e : f k with
          | none => exact Nat.zero_le _
          | some xs => exact hfl k xs e)
        rw [List.length_take, Nat.min_eq_left (by omega)] at h1
        simpa using h1
      have hfz : fvs.length ≤ i * 900 := by rw [hst.length]; exact hG0
      walk_at "go"
      refine For_invVF F2 rfl rfl ?_
      walk_at "go"
      rename Fr g2 _ _ _ => F3
      rename News g2 _ _ _ => N3
      rename_i d0 _ l0d
      refine kdg_get2 (knd := PySem.strKind _ _) N3 (.tail _ (.tail _ (.tail _ hed))) hd lo (strKind_is _ _ _ _) _ rfl ?_
      have hlv := DicIn.get (l := (d0, W.listOf ([] : List Value).toArray 0) :: news) (hD.mono fun q hq => .tail _ hq) (k := one) (d := .ref d0) ⟨d0, [], 0, rfl, .head _, .nil⟩
      refine park fun P9 k9 => ?_
      obtain ⟨b0, bvs, bn, hb1, hb2, hb3⟩ := hlv
      refine k9 ?_
      clear k9 P9
      rw [hb1]
      dsimp only
      have s3 : Sep ((d0, W.listOf ([] : List Value).toArray 0) :: (I, oI) :: (D0, W.listOf fvs.toArray fn) :: news) := s2.cons fun q hq => by
        rcases List.mem_cons.mp hq with rfl | hq
        · exact l0d.1
        · rcases List.mem_cons.mp hq with rfl | hq
          · exact l0d.2.1
          · exact ktn_ltOf l0d.2.2 q hq
      have hneD : d0 ≠ D0 := (Sep.head s3 _ (.tail _ (.head _))).symm
      have hfo : ((f one).getD []).length ≤ 900 := by
        cases e : f one with
        | none => exact Nat.zero_le _
        | some xs => exact hfl one xs e
      have hbl := hb3.length
      refine iterList (vs := bvs) (ep := bn) (fun j m l => ∃ fvs fn, l = (d0, W.listOf ([] : List Value).toArray 0) :: (I, oI) :: (D0, W.listOf fvs.toArray fn) :: news ∧ Sep l ∧ StrsAre fvs ((((f one).getD []).take j).foldl addNew ((after.take i).foldl (fun found one => ((f one).getD []).foldl addNew found) [])) ∧ m (Str.ofString "found") = some (.ref D0) ∧ m (Str.ofString "ends") = some (.ref ed))
        rfl (.inr ?mt) F3 N3 ?m0 ?mturn ?mdone
      case mt =>
        intro j m l X93
        refine park fun P9 k9 => ?_
        obtain ⟨fvs, fn, rfl, _⟩ := X93
        refine k9 ?_
        clear k9 P9
        rcases List.mem_cons.mp hb2 with e | h
        · rw [e]; exact .head _
        · exact .tail _ (.tail _ (.tail _ h))
      case m0 => exact ⟨fvs, fn, rfl, s3, hst, by walk_at "loc", by walk_at "loc"⟩
      case mturn =>
        intro I4 j v m4 news4 h4 tk4 oI4 hv4 X99 hoff4 F4 N4
        refine hideQ fun T9 k9 => ?_
        refine park fun P9 k9 => ?_
        obtain ⟨fvs4, fn4, rfl, s4, hst4, g41, g42⟩ := X99
        refine k9 ?_
        clear k9 P9
        clear F3 N3 hst s1 s2 s3
        refine park fun P9 k9 => ?_
        obtain ⟨e4, et4, rfl, he4⟩ := hb3.item j v hv4
        refine k9 ?_
        clear k9 P9
        have hjl := (List.getElem?_eq_some_iff.mp he4).1
        have s5 := s4.cons_ne (o := oI4) hoff4
        have hne4 : I4 ≠ D0 := (hoff4 _ (.tail _ (.tail _ (.head _)))).symm
        have hz4 : fvs4.length ≤ 1000000 := by
          rw [hst4.length]
          have h1 := fold1_len (((f one).getD []).take j) ((after.take i).foldl (fun found one => ((f one).getD []).foldl addNew found) [])
          rw [List.length_take] at h1
          omega
        rw [foldl_take (f := addNew) he4] at k9
        generalize hG : (((f one).getD []).take j).foldl addNew ((after.take i).foldl (fun found one => ((f one).getD []).foldl addNew found) []) = G at hst4 k9
        rcases Decidable.em (e4 ∈ G) with hin | hin
        · have hb : decide (e4 ∈ G) = true := decide_eq_true hin
          walk_at "go"
          rename Fr g2 _ _ _ => F7
          rename News g2 _ _ _ => N7
          refine k9 _ _ ?_
          dsimp only [PostG]
          refine EndG.intro F7 N7 hoff4 ⟨fvs4, fn4, rfl, s4, ?_, by walk_at "loc", by walk_at "loc"⟩
          unfold addNew
          rw [if_pos hin]; exact hst4
        · have hb : decide (e4 ∈ G) = false := decide_eq_false hin
          walk_at "go"
          rename Fr g2 _ _ _ => F7
          rename News g2 _ _ _ => N7
          rw [upd_cons, if_neg hne4, upd_cons, if_neg hneD, upd_cons, if_neg hne.symm, upd_hd s4.tail.tail] at N7
          refine k9 _ _ ?_
          dsimp only [PostG]
          refine EndG.intro F7 N7 (off_same hoff4 rfl) ⟨_, fn4 + 1, rfl, s4, ?_, by walk_at "loc", by walk_at "loc"⟩
          unfold addNew
          rw [if_neg hin]
          exact StrsAre.append' hst4 (.cons _ _ .nil)
      case mdone =>
        intro m4 news4 h4 tk4 X94 F4 N4
        refine park fun P9 k9 => ?_
        obtain ⟨fvs4, fn4, rfl, s4, hst4, g41, g42⟩ := X94
        refine k9 ?_
        clear k9 P9
        dsimp only
        clear F3 N3
        have e9 : ((f one).getD []).take bvs.length = (f one).getD [] := List.take_of_length_le (by omega)
        rw [e9] at hst4
        walk_at "go"
        refine k9 _ _ ?_
        dsimp only [PostG]
        refine EndG.intro F4 (fun q hq => N4 q (.tail _ hq)) (Sep.head s4.tail) ⟨fvs4, fn4, rfl, s4.tail.tail, ?_, by walk_at "loc", by walk_at "loc"⟩
        rw [foldl_take ho]
        exact hst4
    case ldone =>
      intro m1 news1 h1 tk1 X94 F2 N2
      refine park fun P9 k9 => ?_
      obtain ⟨fvs, fn, rfl, s1, hst, g1, g2'⟩ := X94
      refine k9 ?_
      clear k9 P9
      clear F1 N1
      dsimp only
      rw [List.take_of_length_le (by omega)] at hst
      walk_at "go"
      refine ret _ _ D0 fvs fn ?_ (by assumption) (by assumption) s1
      unfold endsOf
      rw [if_neg ha]
      exact hst
end
end
section
theorem anew_Nexts_01 : True := by w_top off; trivial
section
variable {w : World} {p : Program} {loose : List Str} {mean : ExcName → Option Value} {mg mb : Str → Option Value}
  {dp un : Nat} {gd : Option (List Code)} {cn : Str} {cs : Scope} {a : Addr} {ccd : Value} {cl : List (Str × Addr)} {outer : List Env} {A₀ : Around} {base h₀ : Heap} {L : Addr} {m : Str → Option Value} {s : Shared}
    {Q E : Value → Shared → Prop}
  (B : Below A₀ base outer h₀) (F : Fr h₀ L s.heap m) (X : (Mine.hd.heap_1 w.params).In h₀) (T : Top p loose mean mg mb h₀) (hk : cs.kind = .function)
include B F X T hk
theorem nexts_tells (ra : Addr) (rvs : List Value) (rn : Nat) (rules : List (Str × Str)) (word : Str) (wt : Tok) (news : List (Addr × Obj)) (N : News h₀ L s.heap news) (hs : Sep news) (hra : (ra, W.listOf rvs.toArray rn) ∈ news) (hR : Paired (RuleIn news) rvs rules)
  (hw : word.length ≤ 1000) (hlr : ∀ lr ∈ rules, lr.1.length ≤ 1000 ∧ lr.2.length ≤ 1000) (hrl : rules.length ≤ 100) (hdp : dp + 2 < recursionLimit) (hun : un + 16 < cLine)
  (ret : ∀ h' tk' t vs n, StrsAre vs (nextsOf rules word) → Fr h₀ L h' m → News h₀ L h' ((t, W.listOf vs.toArray n) :: news) → Sep ((t, W.listOf vs.toArray n) :: news) → Q (.ref t) { s with heap := h', toks := tk' }) :
    wpAny (model PySem.Challenge.rw_tv0044_01.row.prog w) (ktrTop dp un gd cn cs L a ccd cl outer) (call (.ref 167) [.ref ra, .str word wt]) Q E s := by
  revert X; k_fill; intro X
  refine wpAny_call ?_
  k_dflt ktr_enter
  rename_i g2 L2 _ FG2 _ _ _ _ _
  walk_at "go"
  rename Fr g2 _ _ _ => F0
  rename News g2 _ _ _ => N0
  rename_i D0 _ l00 _
  have s0 : Sep ((D0, W.listOf ([] : List Value).toArray 0) :: news) := hs.cons l00
  refine wpAny_For ?_
  walk_at "go"
  refine pairC (vs := rvs) (ep := rn) (fun i m l => ∃ fvs fn, l = (D0, W.listOf fvs.toArray fn) :: news ∧ Sep l ∧ StrsAre fvs (nextsOf (rules.take i) word) ∧ m (Str.ofString "found") = some (.ref D0) ∧ m (Str.ofString "word") = some (.str word wt))
    rfl PassesOwn.leaving ?pt ?pp F0 N0 ?p0 ?pturn ?pdone
  case pt =>
    intro i m l X93
    refine park fun P9 k9 => ?_
    obtain ⟨fvs, fn, rfl, _⟩ := X93
    refine k9 ?_
    clear k9 P9
    exact .tail _ hra
  case pp =>
    intro i m l X93 j v hv
    refine park fun P9 k9 => ?_
    obtain ⟨fvs, fn, rfl, _⟩ := X93
    obtain ⟨lr, _, t1, t2, a, n, e, hm⟩ := paired_get hR hv
    refine k9 ?_
    clear k9 P9
    exact ⟨_, _, a, n, e, .tail _ hm⟩
  case p0 => exact ⟨[], 0, rfl, s0, .nil, by walk_at "loc", by walk_at "loc"⟩
  case pturn =>
    intro I i v v0 v1 m1 news1 h1 tk1 oI hv hP X912 hoff F1 N1
    refine hideP fun T9 k9 => ?_
    refine park fun P9 k9 => ?_
    obtain ⟨fvs, fn, rfl, s1, hst, g1, g2'⟩ := X912
    obtain ⟨lr, hlr', t1, t2, hq⟩ := paired_get hR hv
    obtain ⟨rfl, rfl⟩ := pairIn_one s1 hP (by obtain ⟨a, n, e, hm⟩ := hq; exact ⟨a, n, e, .tail _ hm⟩)
    obtain ⟨hl1, hl2⟩ := hlr lr (List.mem_of_getElem? hlr')
    refine k9 ?_
    clear k9 P9
    have s2 := s1.cons_ne (o := oI) hoff
    have hne : D0 ≠ I := hoff _ (.head _)
    clear F0 N0 hP
    walk_at "go"
    rename Fr g2 _ _ _ => F2
    rename News g2 _ _ _ => N2
    refine For_invVF F2 rfl rfl ?_
    walk_at "go"
    rename IsRange _ _ _ _ _ _ _ _ => RR
    rename Fr g2 _ _ _ => F3
    rename News g2 _ _ _ => N3
    have hsz : Builtin.Range.rangeSize 0 ((word.length : Int) - (lr.1.length : Int) + 1) 1 = ((word.length + 1 - lr.1.length : Nat) : Int) := by
      rw [rangeSize_nat]; omega
    have hsm : Builtin.Range.small 0 ((word.length : Int) - (lr.1.length : Int) + 1) 1 = true := small_one (by omega) (by omega) (by omega) (by omega)
    refine iterRange (fun k m l => ∃ fvs fn, l = (I, oI) :: (D0, W.listOf fvs.toArray fn) :: news ∧ Sep l ∧ StrsAre fvs (nextsOf (rules.take i) word ++ nextsTo word lr.1 lr.2 k) ∧ m (Str.ofString "found") = some (.ref D0) ∧ m (Str.ofString "word") = some (.str word wt) ∧
        m (Str.ofString "left") = some (.str lr.1 t1) ∧ m (Str.ofString "right") = some (.str lr.2 t2))
      rfl RR hsm hsz F3 N3 ?_ ?_ ?_
    · exact ⟨fvs, fn, rfl, s2, by rw [show nextsTo word lr.1 lr.2 0 = [] from rfl, List.append_nil]; exact hst, by walk_at "loc", by walk_at "loc", by walk_at "loc", by walk_at "loc"⟩
    · intro I4 k t m4 news4 h4 tk4 oI4 hk4 X99 hoff4 F4 N4
      refine hideQ fun T9 k9 => ?_
      refine park fun P9 k9 => ?_
      obtain ⟨fvs4, fn4, rfl, s4, hst4, g41, g42, g43, g44⟩ := X99
      refine k9 ?_
      clear k9 P9
      clear F2 N2 F3 N3 RR hst s2 s1
      rw [Int.zero_add] at F4
      have s5 := s4.cons_ne (o := oI4) hoff4
      have hne4 : I4 ≠ D0 := (hoff4 _ (.tail _ (.head _))).symm
      have hn1 := nextsOf_len (rules.take i) word
      have hn2 := nextsTo_len word lr.1 lr.2 k
      have hn3 : (rules.take i).length * (word.length + 1) ≤ 100 * 1001 := Nat.mul_le_mul (by rw [List.length_take]; omega) (by omega)
      have hn4 := hst4.length
      rw [List.length_append] at hn4
      have hfz : fvs4.length ≤ 1000000 := by omega
      have hw1 : (Txt.slice word none (some (k : Int))).length ≤ 1000 := Nat.le_trans (Txt.slice_le _ _ _) hw
      have hw2 : (Txt.slice word (some ((k : Int) + (lr.1.length : Int))) none).length ≤ 1000 := Nat.le_trans (Txt.slice_le _ _ _) hw
      have hw3 : (Txt.slice word none (some (k : Int)) ++ lr.2).length ≤ 2000 := by rw [len_app]; omega
      rcases Decidable.em (Txt.slice word (some (k : Int)) (some ((k : Int) + (lr.1.length : Int))) = lr.1) with heq | heq
      · have hb : decide (Txt.slice word (some (k : Int)) (some ((k : Int) + (lr.1.length : Int))) = lr.1) = true := decide_eq_true heq
        walk_at "go"
        rename Fr g2 _ _ _ => F7
        rename News g2 _ _ _ => N7
        rw [upd_cons, if_neg hne4, upd_cons, if_neg hne.symm, upd_hd s4.tail] at N7
        refine k9 _ _ ?_
        dsimp only [PostG]
        refine EndG.intro F7 N7 (fun q hq => ?_) ⟨_, fn4 + 1, rfl, s4, ?_, by walk_at "loc", by walk_at "loc", by walk_at "loc", by walk_at "loc"⟩
        · rcases List.mem_cons.mp hq with rfl | hq
          · exact hoff4 _ (.head _)
          · rcases List.mem_cons.mp hq with rfl | hq
            · exact hne4.symm
            · exact hoff4 _ (.tail _ (.tail _ hq))
        · unfold nextsTo
          rw [if_pos heq, ← List.append_assoc]
          exact StrsAre.append' hst4 (.cons _ _ .nil)
      · have hb : decide (Txt.slice word (some (k : Int)) (some ((k : Int) + (lr.1.length : Int))) = lr.1) = false := decide_eq_false heq
        walk_at "go"
        rename Fr g2 _ _ _ => F7
        rename News g2 _ _ _ => N7
        refine k9 _ _ ?_
        dsimp only [PostG]
        refine EndG.intro F7 N7 hoff4 ⟨fvs4, fn4, rfl, s4, ?_, by walk_at "loc", by walk_at "loc", by walk_at "loc", by walk_at "loc"⟩
        unfold nextsTo
        rw [if_neg heq, List.append_nil]
        exact hst4
    · intro m4 news4 h4 tk4 X94 F4 N4
      refine park fun P9 k9 => ?_
      obtain ⟨fvs4, fn4, rfl, s4, hst4, g41, g42, g43, g44⟩ := X94
      refine k9 ?_
      clear k9 P9
      dsimp only
      clear F2 N2 F3 N3 RR
      walk_at "go"
      refine k9 _ _ ?_
      dsimp only [PostG]
      refine EndG.intro F4 N4 (Sep.head s4) ⟨fvs4, fn4, rfl, s4.tail, ?_, by walk_at "loc", by walk_at "loc"⟩
      rw [nextsOf_take hlr']
      exact hst4
  case pdone =>
    intro m1 news1 h1 tk1 X94 F1 N1
    refine park fun P9 k9 => ?_
    obtain ⟨fvs, fn, rfl, s1, hst, g1, g2'⟩ := X94
    refine k9 ?_
    clear k9 P9
    clear F0 N0
    dsimp only
    rw [List.take_of_length_le (Nat.le_of_eq hR.length.symm)] at hst
    walk_at "go"
    exact ret _ _ D0 fvs fn hst (by assumption) (by assumption) s1
end
end
section
theorem anew_WordsX_01 : True := by w_top off; trivial
local macro_rules | `(tactic| walk_at "stop") => ln "q" "wpAny _ _ (eval (PySem.Expr.ListComp _ _ _ _) _) _ _ _"
section
variable {w : World} {p : Program} {loose : List Str} {mean : ExcName → Option Value} {mg mb : Str → Option Value}
  {dp un : Nat} {gd : Option (List Code)} {cn : Str} {cs : Scope} {a : Addr} {ccd : Value} {cl : List (Str × Addr)} {outer : List Env} {A₀ : Around} {base h₀ : Heap} {L : Addr} {m : Str → Option Value} {s : Shared}
    {Q E : Value → Shared → Prop}
  (B : Below A₀ base outer h₀) (F : Fr h₀ L s.heap m) (X : (Mine.hd.heap_1 w.params).In h₀) (T : Top p loose mean mg mb h₀) (hk : cs.kind = .function)
include B F X T hk
theorem words_tells (most : Nat) (mt : Tok) (hm4 : most ≤ 4) (news : List (Addr × Obj)) (N : News h₀ L s.heap news) (hs : Sep news) (hdp : dp + 2 < recursionLimit) (hun : un + 16 < cLine)
  (ret : ∀ h' tk' t vs n, StrsAre vs (wordsTo most) → Fr h₀ L h' m → News h₀ L h' ((t, W.listOf vs.toArray n) :: news) → Sep ((t, W.listOf vs.toArray n) :: news) → Q (.ref t) { s with heap := h', toks := tk' }) :
    wpAny (model PySem.Challenge.rw_tv0044_01.row.prog w) (ktrTop dp un gd cn cs L a ccd cl outer) (call (.ref 153) [.int (most : Nat) mt]) Q E s := by
  revert X; k_fill; intro X
  refine wpAny_call ?_
  k_dflt ktr_enter
  rename_i g2 L2 _ FG2 _ _ _ _ _
  walk_at "go"
  rename Fr g2 _ _ _ => F0
  rename News g2 _ _ _ => N0
  rename_i tk0 l0 _ l00 R0 _ l01 _
  have s0 : Sep ((R0, W.listOf [Value.ref l0].toArray 0) :: (l0, W.listOf [Value.str (Str.ofString "") tk0].toArray 0) :: news) := (hs.cons l00).cons fun q hq => by
    rcases List.mem_cons.mp hq with rfl | hq
    · exact l01.1
    · exact ktn_ltOf l01.2 q hq
  refine For_invVF F0 rfl rfl ?_
  walk_at "go"
  rename IsRange _ _ _ _ _ _ _ _ => RR
  rename Fr g2 _ _ _ => F1
  rename News g2 _ _ _ => N1
  have hsz : Builtin.Range.rangeSize 0 (most : Int) 1 = ((most : Nat) : Int) := by
    rw [rangeSize_nat]; omega
  have hsm : Builtin.Range.small 0 (most : Int) 1 = true := small_one (by omega) (by omega) (by omega) (by omega)
  refine iterRange (fun i m l => ∃ rvs rn l', l = (R0, W.listOf rvs.toArray rn) :: l' ∧ (∀ q ∈ news, q ∈ l') ∧ Sep l ∧ Paired (LstIn l') rvs (rowsW i) ∧ m (Str.ofString "most") = some (.int (most : Nat) mt) ∧ m (Str.ofString "rows") = some (.ref R0))
    rfl RR hsm hsz F1 N1 ?_ ?_ ?_
  · exact ⟨[Value.ref l0], 0, (l0, W.listOf [Value.str (Str.ofString "") tk0].toArray 0) :: news, rfl, fun q hq => .tail _ hq, s0, by rw [rowsW_zero]; exact .cons ⟨l0, [Value.str (Str.ofString "") tk0], 0, rfl, .head _, .cons _ _ .nil⟩ .nil, by walk_at "loc", by walk_at "loc"⟩
  · intro I i t m1 news1 h1 tk1 oI hi X99 hoff F2 N2
    refine hideQ fun T9 k9 => ?_
    refine park fun P9 k9 => ?_
    obtain ⟨rvs, rn, l', rfl, hsub, s1, hrow, hm1, hm2⟩ := X99
    refine k9 ?_
    clear k9 P9
    have s2 := s1.cons_ne (o := oI) hoff
    have hne : R0 ≠ I := hoff _ (.head _)
    clear F0 F1 N0 N1 RR
    rw [Int.zero_add] at F2
    rw [rowsW_last] at hrow
    refine park fun P9 k9 => ?_
    obtain ⟨us, v0, rfl, hrow1, ⟨a0, vs0, n0, rfl, hm0, hi0⟩⟩ := paired_snoc_inv hrow
    refine k9 ?_
    clear k9 P9
    have hlv := hi0.length
    have hrl := rowW_len i
    have hul : us.length = i := by rw [hrow1.length]; simp
    have hpw : 2 ^ i ≤ 2 ^ 4 := Nat.pow_le_pow_right (by omega) (by omega)
    walk_at "go"
    refine compTwo (h₀ := g2) (L := L2) (cl := []) (FF := fun v u r => ∃ wd sgn t1 t2 t3, v = .str wd t1 ∧ u = .str sgn t2 ∧ r = .str (wd ++ sgn) t3)
      (Gin := fun v yl => ∃ xs, StrsAre yl xs ∧ ∃ wd t, v = .str wd t ∧ xs = [wd ++ Str.ofString "a", wd ++ Str.ofString "b"]) ?thc ?tc ?tk ?tn ?tx ?ty ?txy ?ts1 ?ts2 ?th
    case thc => with_unfolding_all rfl
    case tc => decide
    case tk => exact rfl
    case tn => decide
    case tx => exact rfl
    case ty => exact rfl
    case txy => decide
    case ts1 => intro _; with_unfolding_all rfl
    case ts2 => intro _ _; with_unfolding_all rfl
    walk_at "go"
    refine twoList F2 N2 (.tail _ (.tail _ hm0)) (by omega) rfl ?inner ?done
    case inner =>
      intro s2' hs2' C j v s3 m3 E' hv F3 N3 hn3 hm3
      refine park fun P9 k9 => ?_
      obtain ⟨wd, wt, rfl, hwd⟩ := hi0.item j v hv
      refine k9 ?_
      clear k9 P9
      have hwl := rowW_wlen (List.mem_of_getElem? hwd)
      clear F2 N2
      walk_at "go"
      refine two2_str ⟨_, _, rfl, fun _ _ e => e⟩ rfl (by decide) ?e1 ?c1
      case c1 => exact fun us yl h1 h2 h3 => ab_two rfl h1 h2 h3
      case e1 =>
        intro u s6 m6 E6 X94 F6 N6 hn6 h61 h62
        refine park fun P9 k9 => ?_
        obtain ⟨c, ct, hc, rfl⟩ := X94
        refine k9 ?_
        clear k9 P9
        clear F3 N3
        have hc1 : (⟨#[c]⟩ : Str).length = 1 := rfl
        walk_at "go"
        exact ⟨_, _, rfl, fun _ _ e => e⟩
    case done =>
      intro D h3 tk3 k3 yss hG F3 N3 hoff3
      clear F2 N2
      have s3 := s2.cons_ne (o := W.listOf yss.flatten.toArray k3) hoff3
      have hneD : D ≠ R0 := (hoff3 _ (.tail _ (.head _))).symm
      have hnx := row_next hi0 hG
      have hz3 : (us ++ [Value.ref a0]).length ≤ 1000000 := by rw [List.length_append]; simp; omega
      walk_at "go"
      rename Fr g2 _ _ _ => F5
      rename News g2 _ _ _ => N5
      rw [upd_cons, if_neg hneD, upd_cons, if_neg hne.symm, upd_hd s1] at N5
      refine k9 _ _ ?_
      dsimp only [PostG]
      have pm : ((D, W.listOf yss.flatten.toArray k3) :: (I, oI) :: (R0, W.listOf (us ++ [Value.ref a0] ++ [Value.ref D]).toArray (rn + 1)) :: l').Perm ((I, oI) :: (R0, W.listOf (us ++ [Value.ref a0] ++ [Value.ref D]).toArray (rn + 1)) :: (D, W.listOf yss.flatten.toArray k3) :: l') :=
        (List.Perm.swap _ _ _).trans (List.Perm.cons _ (List.Perm.swap _ _ _))
      have s5 : Sep ((D, W.listOf yss.flatten.toArray k3) :: (I, oI) :: (R0, W.listOf (us ++ [Value.ref a0] ++ [Value.ref D]).toArray (rn + 1)) :: l') := s3
      have s6 := s5.perm pm
      refine EndG.intro F5 (fun q hq => N5 q (pm.mem_iff.mpr hq)) (Sep.head s6) ⟨_, _, _, rfl, fun q hq => .tail _ (hsub q hq), s6.tail, ?_, by walk_at "loc", by walk_at "loc"⟩
      rw [rowsW_succ, rowsW_last]
      exact paired_append (paired_append (lsts_mono hrow1 fun q hq => .tail _ hq) (.cons ⟨a0, vs0, n0, rfl, .tail _ hm0, hi0⟩ .nil)) (.cons ⟨D, _, k3, rfl, .head _, hnx⟩ .nil)
  · intro m1 news1 h1 tk1 X94 F2 N2
    refine park fun P9 k9 => ?_
    obtain ⟨rvs, rn, l', rfl, hsub, s1, hrow, hm1, hm2⟩ := X94
    refine k9 ?_
    clear k9 P9
    dsimp only
    clear F0 F1 N0 N1 RR
    walk_at "go"
    have hrl := hrow.length
    rw [rowsW_len] at hrl
    refine compTwo (h₀ := g2) (L := L2) (cl := []) (FF := fun v u r => r = u)
      (Gin := fun v yl => ∃ xs, LstIn l' v xs ∧ StrsAre yl xs) ?vthc ?vtc ?vtk ?vtn ?vtx ?vty ?vtxy ?vts1 ?vts2 ?vth
    case vthc => with_unfolding_all rfl
    case vtc => decide
    case vtk => exact rfl
    case vtn => decide
    case vtx => exact rfl
    case vty => exact rfl
    case vtxy => decide
    case vts1 => intro _; with_unfolding_all rfl
    case vts2 => intro _ _; with_unfolding_all rfl
    walk_at "go"
    refine twoList F2 N2 (.head _) (by omega) rfl ?vinner ?vdone
    case vinner =>
      intro s2' hs2' C j v s3 m3 E' hv F3 N3 hn3 hm3
      refine park fun P9 k9 => ?_
      obtain ⟨xs, hx, ⟨a0, vs0, n0, rfl, hm0, hi0⟩⟩ := paired_get hrow hv
      obtain ⟨rfl, hj⟩ := rowsW_get hx
      refine k9 ?_
      clear k9 P9
      have hl0 := hi0.length
      rw [rowW_len] at hl0
      have hpw : 2 ^ j ≤ 2 ^ 4 := Nat.pow_le_pow_right (by omega) (by omega)
      clear F2 N2
      walk_at "go"
      refine two2_list ⟨_, _, rfl, fun _ _ e => e⟩ rfl N3 hs2' (.tail _ hm0) (by omega) ?ve1 ?vc1
      case vc1 =>
        intro yl h
        rw [paired_same h]
        exact ⟨_, ⟨a0, vs0, n0, rfl, hm0, hi0⟩, hi0⟩
      case ve1 =>
        intro j2 u s6 m6 E6 hu F6 N6 hn6 h61 h62
        clear F3 N3
        walk_at "go"
        exact ⟨_, _, rfl, fun _ _ e => e⟩
    case vdone =>
      intro D h3 tk3 k3 yss hG F3 N3 hoff3
      clear F2 N2
      have hfl := flat_all hrow hG s1.tail
      walk_at "go"
      rename Fr h₀ _ _ _ => kF9
      rename News h₀ _ _ _ => kN9
      refine ret _ _ D _ k3 hfl kF9 (fun q hq => kN9 q ?_) (hs.cons_ne fun q hq => hoff3 q (.tail _ (hsub q hq)))
      rcases List.mem_cons.mp hq with rfl | hq
      · exact .head _
      · exact .tail _ (.tail _ (hsub q hq))
end
end
section
theorem anew_RulesX_01 : True := by w_top off; trivial
local macro_rules | `(tactic| walk_at "stop") => ln "q" "wpAny _ _ (call (Value.ref 153) _) _ _ _"
local macro_rules | `(tactic| walk_at "stop") => ln "q" "wpAny _ _ (exec (Stmt.If _ _ _ _) _) _ _ _"
local macro_rules | `(tactic| walk_at "stop") => ln "q" "RuleSt _ _ _ _ _ _ _ _"
/-- behind the question of a rule -/
inductive RuleSt (g : Heap) (L : Addr) (s : Shared) (led : List (Addr × Obj)) (W4 R0 : Addr) : Flow → Shared → Prop
  | mk {h : Heap} {tk : Nat} {m : Str → Option Value} {lw rw : Str} {t1 t2 : Tok} (F : Fr g L h m) (N : News g L h led) (R : RuleFacts lw rw) (a1 : m (Str.ofString "left") = some (.str lw t1)) (a2 : m (Str.ofString "right") = some (.str rw t2))
      (a3 : m (Str.ofString "words") = some (.ref W4)) (a4 : m (Str.ofString "rules") = some (.ref R0)) : RuleSt g L s led W4 R0 .next { s with heap := h, toks := tk }
section
variable {w : World} {p : Program} {loose : List Str} {mean : ExcName → Option Value} {mg mb : Str → Option Value}
  {dp un : Nat} {gd : Option (List Code)} {cn : Str} {cs : Scope} {a : Addr} {ccd : Value} {cl : List (Str × Addr)} {outer : List Env} {A₀ : Around} {base h₀ : Heap} {L : Addr} {m : Str → Option Value} {s : Shared}
    {Q E : Value → Shared → Prop}
  (B : Below A₀ base outer h₀) (F : Fr h₀ L s.heap m) (X : (Mine.hd.heap_1 w.params).In h₀) (T : Top p loose mean mg mb h₀) (hk : cs.kind = .function)
include B F X T hk
theorem rules_tells (sc : Addr) (us : List Value) (ks : List Int) (hsc : h₀.IsList sc us.toArray) (hi0 : IntsAre us ks) (hkl : ks.length ≤ 63) (news : List (Addr × Obj)) (N : News h₀ L s.heap news) (hs : Sep news) (hdp : dp + 3 < recursionLimit) (hun : un + 24 < cLine)
  (ret : ∀ h' tk' t rvs rules n te, (∀ lr ∈ rules, RuleOk lr) → rules.length ≤ 3 → Paired (RuleIn te) rvs rules → Fr h₀ L h' m → News h₀ L h' ((t, W.listOf rvs.toArray n) :: (te ++ news)) → Sep ((t, W.listOf rvs.toArray n) :: (te ++ news)) → Q (.ref t) { s with heap := h', toks := tk' }) :
    wpAny (model PySem.Challenge.rw_tv0044_01.row.prog w) (ktrTop dp un gd cn cs L a ccd cl outer) (call (.ref 160) [.ref sc]) Q E s := by
  revert X; k_fill; intro X
  refine wpAny_call ?_
  k_dflt ktr_enter
  rename_i g2 L2 _ FG2 _ _ B2 X2 T2
  have hsc2 : g2.IsList sc us.toArray := hsc.at fun o e => FG2.keep _ o e
  clear hsc
  walk_at "go"
  rename Fr _ _ _ _ => F0
  rename News _ _ _ _ => N0
  refine For_invVF F0 rfl rfl ?_
  walk_at "go"
  rename IsRange _ _ _ _ _ _ _ _ => R
  rename Fr _ _ _ _ => F1
  rename News _ _ _ _ => N1
  have e63 : (if (63 : Int) < (ks.length : Int) then 63 else (ks.length : Int)) = (ks.length : Int) := if_neg (by omega)
  rw [e63] at R
  have hsz : Builtin.Range.rangeSize 0 (ks.length : Int) 1 = ((ks.length : Nat) : Int) := by
    rw [rangeSize_nat]; omega
  have hsm : Builtin.Range.small 0 (ks.length : Int) 1 = true := small_one (by omega) (by omega) (by omega) (by omega)
  have huk : us.length = ks.length := hi0.length
  refine iterRange (fun i m l => ∃ D vs ns n, l = (D, W.listOf vs.toArray n) :: news ∧ Sep l ∧ IntsAre vs ns ∧ ns.length = 3 ∧ m (Str.ofString "script") = some (.ref sc) ∧ m (Str.ofString "numbers") = some (.ref D))
    rfl R hsm hsz F1 N1 ?_ ?_ ?_
  · exact ⟨_, [_, _, _], [1, 26, 27], 0, rfl, by walk_at "sep", by repeat' constructor, rfl, by walk_at "loc", by walk_at "loc"⟩
  · intro I i t m1 news1 h1 tk1 oI hi X99 hoff F2 N2
    refine hideQ fun T9 k9 => ?_
    refine park fun P9 k9 => ?_
    obtain ⟨D, vs, ns, n, rfl, s1, i1, hn1, hm1, hm2⟩ := X99
    refine k9 ?_
    clear k9 P9
    have s2 := s1.cons_ne (o := oI) hoff
    have hne : D ≠ I := hoff _ (.head _)
    rw [Int.zero_add] at F2
    have f1 := Int.fmod_nonneg_of_pos (i : Int) (b := 3) (by omega)
    have f2 := Int.fmod_lt_of_pos (i : Int) (b := 3) (by omega)
    walk_at "go"
    rename Fr _ _ _ _ => F5
    rename News _ _ _ _ => N5
    rename IntsAre _ (List.set _ _ _) => i5
    rename List.length (List.set _ _ _) = _ => l5
    rw [upd_hd s1] at N5
    refine k9 _ _ ?_
    dsimp only [PostG]
    refine EndG.intro F5 N5 (fun q hq => ?_) ⟨D, _, _, n, rfl, s1.hd _, i5, l5.trans hn1, by walk_at "loc", by walk_at "loc"⟩
    rcases List.mem_cons.mp hq with rfl | hq
    · exact hne
    · exact hoff q (.tail _ hq)
  · intro m1 news1 h1 tk1 X94 F2 N2
    refine park fun P9 k9 => ?_
    obtain ⟨D, vs, ns, n, rfl, s1, i1, hn1, hm1, hm2⟩ := X94
    refine k9 ?_
    clear k9 P9
    dsimp only
    walk_at "go"
    refine words_tells B2 F2 X2 T2 rfl 3 _ (by omega) _ N2 s1 (by show dp + 1 + 2 < recursionLimit; omega) (by show un + 3 + 16 < cLine; omega) ?_
    intro h4 tk4 W4 wvs wn hw4 F4 N4 s4
    have hvl := i1.length
    clear F1 N1 R F2 N2 hsz hsm e63
    refine park fun P9 k9 => ?_
    obtain ⟨ws, hws⟩ : ∃ ws, ws = wordsTo 3 := ⟨_, rfl⟩
    refine k9 ?_
    clear k9 P9
    have hwl : ws.length = 15 := by rw [hws]; exact words3_len
    have RF : ∀ z : Int, RuleFacts (ws.getD (3 + z.fmod 12).toNat Str.empty) (Txt.slice (ws.getD ((z.fdiv 12).fmod 15).toNat Str.empty) none (some ((ws.getD (3 + z.fmod 12).toNat Str.empty).length : Int))) := fun z => by rw [hws]; exact rule_facts z
    have WL : ∀ i, i < 15 → (ws.getD i Str.empty).length ≤ 3 := fun i hi => by rw [hws]; exact (words3_a i hi).1
    rw [← hws] at hw4
    clear hws
    iterate 6 (first | (k_unfold; (try dsimp only)) | (k_end; kc_close) | walk1 | (dsimp only; walk1) | (leave1; (try dsimp only)))
    k_here
    refine' newList_K ?k1 ?k2 ?_
    case k1 => k_asm
    case k2 => k_asm
    intro R0 h5 F5 N5 l5
    k_sweep
    have s5 : Sep ((R0, W.listOf ([] : List Value).toArray 0) :: (W4, W.listOf wvs.toArray wn) :: (D, W.listOf vs.toArray n) :: news) := s4.cons l5
    have f1 := Int.fmod_nonneg_of_pos (ks.length : Int) (b := 2) (by omega)
    have f2 := Int.fmod_lt_of_pos (ks.length : Int) (b := 2) (by omega)
    walk_at "go"
    rename Fr _ _ _ _ => F6
    rename News _ _ _ _ => N6
    refine For_invVF F6 rfl rfl ?_
    walk_at "go"
    rename Fr _ _ _ _ => F7
    rename News _ _ _ _ => N7
    rename_i SD _ sll
    generalize hkk : (2 + (ks.length : Int).fmod 2).toNat = kk at N7
    have hkk2 : kk ≤ 3 := by omega
    have s7 := s5.cons (o := W.listOf (vs.take kk).toArray 0) sll
    clear sll hkk
    have N70 : News g2 L2 _ ((R0, W.listOf ([] : List Value).toArray 0) :: (SD, W.listOf (vs.take kk).toArray 0) :: (W4, W.listOf wvs.toArray wn) :: (D, W.listOf vs.toArray n) :: news) := fun q hq => N7 q ((List.Perm.swap _ _ _).mem_iff.mpr hq)
    refine iterList (vs := vs.take kk) (ep := 0) (fun i m l => ∃ rvs rn te rules, l = (R0, W.listOf rvs.toArray rn) :: (te ++ ((SD, W.listOf (vs.take kk).toArray 0) :: (W4, W.listOf wvs.toArray wn) :: (D, W.listOf vs.toArray n) :: news)) ∧ Sep l ∧ (∀ lr ∈ rules, RuleOk lr) ∧ rules.length = i ∧ Paired (RuleIn te) rvs rules ∧
        m (Str.ofString "words") = some (.ref W4) ∧ m (Str.ofString "rules") = some (.ref R0))
      rfl (.inr ?lt) F7 N70 ?l0 ?lturn ?ldone
    case lt =>
      intro i m l X93
      refine park fun P9 k9 => ?_
      obtain ⟨rvs, rn, te, rules, rfl, _⟩ := X93
      refine k9 ?_
      clear k9 P9
      exact .tail _ (List.mem_append_right _ (.head _))
    case l0 =>
      exact ⟨[], 0, [], [], rfl, s7.perm (List.Perm.swap _ _ _), fun _ h => (nomatch h), rfl, .nil, by walk_at "loc", by walk_at "loc"⟩
    case lturn =>
      intro I i v m2 news2 h8 tk8 oI hv X99 hoff F8 N8
      refine hideQ fun T9 k9 => ?_
      refine park fun P9 k9 => ?_
      obtain ⟨rvs, rn, te, rules, rfl, s8, hok, hrl, hR, g1, g2'⟩ := X99
      obtain ⟨z, zt, rfl⟩ : ∃ z zt, v = .int z zt := by
        have hv' : vs[i]? = some v := by
          rw [List.getElem?_take] at hv
          split at hv
          · exact hv
          · cases hv
        obtain ⟨z, zt, e, _⟩ := i1.at i v hv'
        exact ⟨z, zt, e⟩
      refine k9 ?_
      clear k9 P9
      have s9 := s8.cons_ne (o := oI) hoff
      have hne : R0 ≠ I := hoff _ (.head _)
      have hW : (W4, W.listOf wvs.toArray wn) ∈ te ++ ((SD, W.listOf (vs.take kk).toArray 0) :: (W4, W.listOf wvs.toArray wn) :: (D, W.listOf vs.toArray n) :: news) := List.mem_append_right _ (.tail _ (.head _))
      generalize hl9 : te ++ ((SD, W.listOf (vs.take kk).toArray 0) :: (W4, W.listOf wvs.toArray wn) :: (D, W.listOf vs.toArray n) :: news) = l9 at hW s8 s9 N8 hoff
      have q1 := Int.fmod_nonneg_of_pos z (b := 12) (by omega)
      have q2 := Int.fmod_lt_of_pos z (b := 12) (by omega)
      have q3 := Int.fmod_nonneg_of_pos (z.fdiv 12) (b := 15) (by omega)
      have q4 := Int.fmod_lt_of_pos (z.fdiv 12) (b := 15) (by omega)
      have q5 := Int.fmod_nonneg_of_pos z (b := 720) (by omega)
      have q6 := Int.fmod_lt_of_pos z (b := 720) (by omega)
      have RFz := RF z
      have rz3 := RFz.l3
      have wz := WL ((z.fdiv 12).fmod 15).toNat (by omega)
      clear RF WL F7 N7 s7 s5 s4 s1 f1 f2
      walk_at "go"
      rename Fr _ _ _ _ => F90
      rename News _ _ _ _ => N9
      generalize ws.getD (3 + z.fmod 12).toNat Str.empty = lw0 at RFz rz3 F90
      generalize Txt.slice (ws.getD ((z.fdiv 12).fmod 15).toNat Str.empty) none (some ((lw0.length : Nat) : Int)) = rw0 at RFz F90
      have rl0 := RFz.rl
      refine park fun P9 k9 => ?_
      obtain ⟨m3, F10, tl0, tr0, a1, a2, a3, a4, a5⟩ : ∃ m3, Fr g2 L2 _ m3 ∧ ∃ tl0 tr0, m3 (Str.ofString "left") = some (.str lw0 tl0) ∧ m3 (Str.ofString "right") = some (.str rw0 tr0) ∧ m3 (Str.ofString "words") = some (.ref W4) ∧ m3 (Str.ofString "rules") = some (.ref R0) ∧ m3 (Str.ofString "number") = some (.int z zt) :=
        ⟨_, F90, _, _, by walk_at "loc", by walk_at "loc", by walk_at "loc", by walk_at "loc", by walk_at "loc"⟩
      refine k9 ?_
      clear k9 P9
      clear F90 hW q1 q2 q3 q4 wz
      refine wpAny_mono (Q := RuleSt g2 L2 s ((I, oI) :: (R0, W.listOf rvs.toArray rn) :: l9) W4 R0) ?ifA (fun f s' hh => ?ifB) (fun _ _ e => e)
      case ifA =>
        walk1
        walk_at "go"
        · rcases Decidable.em (rw0 = lw0) with he | he
          · have hb : decide (rw0 = lw0) = true := decide_eq_true he
            have hl2 := RFz.l2
            have hsl := (abS_from RFz.la (by omega)).2
            walk1
            walk_at "go"
            walk1
            walk_at "go"
            all_goals try (exfalso; omega)
            exact .mk (by assumption) (by assumption) (RFz.same he) (by walk_at "loc") (by walk_at "loc") (by walk_at "loc") (by walk_at "loc")
          · have hb : decide (rw0 = lw0) = false := decide_eq_false he
            walk1
            walk_at "go"
            walk1
            walk_at "go"
            all_goals first
              | exact .mk (by assumption) (by assumption) RFz (by walk_at "loc") (by walk_at "loc") (by walk_at "loc") (by walk_at "loc")
              | (rename News _ _ _ _ => kN; exact .mk (by assumption) (fun q hq => kN q (.tail _ hq)) (RFz.swap (by omega)) (by walk_at "loc") (by walk_at "loc") (by walk_at "loc") (by walk_at "loc"))
        · exact .mk F10 N9 RFz a1 a2 a3 a4
      case ifB =>
        refine park fun P9 k9 => ?_
        cases hh with
        | @mk h10 tk10 m10 lw rw t1 t2 F11 N11 R11 b1 b2 b3 b4 =>
        refine k9 ?_
        clear k9 P9
        dsimp only
        clear F10 N9
        have hrz : rvs.length ≤ 1000000 := by
          have h1 := hR.length
          have h2 := (List.getElem?_eq_some_iff.mp hv).1
          rw [List.length_take] at h2
          omega
        walk_at "go"
        rename Fr _ _ _ _ => F12
        rename News _ _ _ _ => N12
        rename_i T0 _ lT _
        rw [upd_hd s8] at N12
        refine k9 _ _ ?_
        dsimp only [PostG]
        have hoff' : ∀ p ∈ (R0, W.listOf (rvs ++ [Value.ref T0]).toArray (rn + 1)) :: l9, p.1 ≠ I := off_same hoff rfl
        have sT : Sep ((T0, tupOf #[Value.str lw t1, Value.str rw t2] 0) :: (I, oI) :: (R0, W.listOf (rvs ++ [Value.ref T0]).toArray (rn + 1)) :: l9) := Sep.cons ((s8.hd _).cons_ne (o := oI) hoff') fun q hq => by
          rcases List.mem_cons.mp hq with rfl | hq
          · exact lT.1
          · rcases List.mem_cons.mp hq with rfl | hq
            · exact lT.2.1
            · exact ktn_ltOf lT.2.2 q hq
        subst hl9
        have pm := fun (q : Addr × Obj) (l9 : List (Addr × Obj)) => (List.Perm.swap (I, oI) q ((R0, W.listOf (rvs ++ [Value.ref T0]).toArray (rn + 1)) :: l9)).trans (List.Perm.cons _ (List.Perm.swap _ q l9))
        have sU := sT.perm (pm _ _)
        refine EndG.intro F12 (fun q hq => N12 q ?mem) (Sep.head sU) ⟨rvs ++ [.ref T0], rn + 1, (T0, tupOf #[Value.str lw t1, Value.str rw t2] 0) :: te, rules ++ [(lw, rw)], rfl, sU.tail, ?rok, by rw [List.length_append, hrl]; rfl, ?par, by walk_at "loc", by walk_at "loc"⟩
        case mem =>
          have := (pm (T0, tupOf #[Value.str lw t1, Value.str rw t2] 0) (te ++ ((SD, W.listOf (vs.take kk).toArray 0) :: (W4, W.listOf wvs.toArray wn) :: (D, W.listOf vs.toArray n) :: news))).mem_iff.mpr hq
          rw [List.push_toArray]
          exact this
        case rok =>
          intro lr hlr
          rcases List.mem_append.mp hlr with h | h
          · exact hok lr h
          · rw [List.mem_singleton.mp h]; exact R11.ok
        case par => exact paired_append (paired_left (fun _ _ h => h.mono fun q hq => .tail _ hq) hR) (.cons ⟨t1, t2, T0, 0, rfl, .head _⟩ .nil)
    case ldone =>
      intro m2 news2 h8 tk8 X94 F8 N8
      refine park fun P9 k9 => ?_
      obtain ⟨rvs, rn, te, rules, rfl, s8, hok, hrl, hR, g1, g2'⟩ := X94
      refine k9 ?_
      clear k9 P9
      dsimp only
      clear F7 N7
      have hrl3 : rules.length ≤ 3 := by
        rw [hrl, List.length_take]; omega
      walk_at "go"
      rename Fr h₀ _ _ _ => kF9
      rename News h₀ _ _ _ => kN9
      refine ret _ _ R0 rvs rules rn te hok hrl3 hR kF9 (fun q hq => kN9 q ?_) (s8.sub ?_)
      · rcases List.mem_cons.mp hq with rfl | hq
        · exact .head _
        · rcases List.mem_append.mp hq with hq | hq
          · exact .tail _ (List.mem_append_left _ hq)
          · exact .tail _ (List.mem_append_right _ (.tail _ (.tail _ (.tail _ hq))))
      · exact ((List.Sublist.refl _).append (((List.sublist_cons_self _ _).cons _).cons _)).cons₂ _
end
end
section
local macro_rules | `(tactic| walk_at "stop") => ln "q" "wpAny _ _ (call (Value.ref 160) _) _ _ _"
local macro_rules | `(tactic| walk_at "stop") => ln "q" "wpAny _ _ (call (Value.ref 153) _) _ _ _"
local macro_rules | `(tactic| walk_at "stop") => ln "q" "wpAny _ _ (call (Value.ref 167) _) _ _ _"
local macro_rules | `(tactic| walk_at "stop") => ln "q" "wpAny _ _ (call (Value.ref 174) _) _ _ _"
local macro_rules | `(tactic| walk_at "stop") => ln "q" "wpAny _ _ (call (Value.ref 179) _) _ _ _"
local macro_rules | `(tactic| walk_at "stop") => ln "q" "wpAny _ _ (call (Value.ref 186) _) _ _ _"
local macro_rules | `(tactic| walk_at "stop") => ln "q" "wpAny _ _ (eval (PySem.Expr.ListComp _ _ _ _) _) _ _ _"
local macro_rules | `(tactic| walk_at "stop") => ln "q" "wpAny _ _ (call (Value.builtin \"sorted\") _) _ _ _"
section
theorem anew_W1A_01 : True := by w_top off; trivial
-- the two looks at the text are run by the kernel as they stand: their twins would take 2 MiB
local macro_rules | `(tactic| k_qdec) => `(tactic| decide +kernel)
local macro_rules | `(tactic| walk_at "stop") => ln "q" "wpAny _ _ (call (Value.ref 144) _) _ _ _"
theorem sep2' {h₀ h : Heap} {L a : Addr} {o o' : Obj} (N : News h₀ L h [(a + 1, o), (a, o')]) : Sep [(a + 1, o), (a, o')] := by
  unfold Sep; simp
noncomputable def law1A : (P : Prop) ×' (Cp P → PySem.Challenge.rw_tv0044_01.Holds) := ⟨_, fun hP9 => hd (by
  k_go0
  all_goals try k_fold
  walk_at "go"
  rename IntsAre _ _ => hi0
  rename Heap.IsList _ _ _ => hsc
  rename Fr _ _ _ _ => F0
  rename News _ _ _ _ => N0
  rename CellsAre _ _ _ => Y0
  rename Shared => sS
  rename Below _ _ _ _ => B00
  have B0 : Below callerA sS.heap [] sS.heap := B00
  clear B00
  rename Top _ _ _ _ _ _ => T0
  rename Frag.In _ _ => X0
  rename ¬ (_ < _) => hkl
  rename _ = Data.cell _ => c10
  clear Y0
  rename_i hD0 h00 tk0 o2 o1 c20
  have c1 : o1.data = .cell none := c10
  have c2 : o2.data = .cell none := c20
  clear c10 c20
  have hkl' := Int.not_lt.mp hkl
  have s0 : Sep [_, _] := sep2' N0
  refine rules_tells B0 F0 X0 T0 rfl _ _ _ hsc hi0 (by lia) _ N0 s0 (by decide) (by exact Nat.le_of_ble_eq_true rfl) ?_
  intro h1 tk1 ra rvs rules rn te hok hr3 hR F1 N1 s1
  clear hsc hi0 F0 N0
  walk_at "go"
  rename Fr _ _ _ _ => F2
  rename News _ _ _ _ => N2
  refine words_tells B0 F2 X0 T0 rfl 4 _ (by decide) _ N2 s1 (by decide) (by exact Nat.le_of_ble_eq_true rfl) ?_
  intro h3 tk3 wa wvs wn hw3 F3 N3 s3
  clear F2 N2
  walk_at "go"
  rename Fr _ _ _ _ => F40
  rename News _ _ _ _ => N4
  rename_i nd h40 no lo4 hno4 fs4 hi4 fi4 l4 h41
  have s4 : Sep ((nd, no) :: (wa, W.listOf wvs.toArray wn) :: (ra, W.listOf rvs.toArray rn) :: (te ++ [(sS.heap.objs.size + 1 + 1, o2), (sS.heap.objs.size + 1, o1)])) := s3.cons fun q hq => by
    rcases List.mem_cons.mp hq with rfl | hq
    · exact l4.1
    · rcases List.mem_cons.mp hq with rfl | hq
      · exact l4.2.1
      · exact ktn_ltOf l4.2.2 q hq
  clear fs4 hi4 fi4 l4 s3 s1
  refine park fun P9 k9 => ?_
  obtain ⟨m4, F4, a1, a2, a3⟩ : ∃ m4, Fr _ _ _ m4 ∧ m4 (Str.ofString "rules") = some (.ref ra) ∧ m4 (Str.ofString "words") = some (.ref wa) ∧ m4 (Str.ofString "nexts") = some (.ref nd) := ⟨_, F40, by walk_at "loc", by walk_at "loc", by walk_at "loc"⟩
  refine k9 ?_
  clear k9 P9
  clear F40
  have hR' := paired_left (fun (_ : Value) (_ : Str × Str) h => RuleIn.mono h (l' := (wa, W.listOf wvs.toArray wn) :: (ra, W.listOf rvs.toArray rn) :: te) fun q hq => .tail _ (.tail _ hq)) hR
  have M1 : (wa, W.listOf wvs.toArray wn) ∈ (wa, W.listOf wvs.toArray wn) :: (ra, W.listOf rvs.toArray rn) :: te := .head _
  have M2 : (ra, W.listOf rvs.toArray rn) ∈ (wa, W.listOf wvs.toArray wn) :: (ra, W.listOf rvs.toArray rn) :: te := .tail _ (.head _)
  have pm4 : ((nd, no) :: (wa, W.listOf wvs.toArray wn) :: (ra, W.listOf rvs.toArray rn) :: (te ++ [(sS.heap.objs.size + 1 + 1, o2), (sS.heap.objs.size + 1, o1)])).Perm ((nd, no) :: (sS.heap.objs.size + 1, o1) :: (sS.heap.objs.size + 1 + 1, o2) :: (wa, W.listOf wvs.toArray wn) :: (ra, W.listOf rvs.toArray rn) :: te) :=
    List.Perm.cons _ ((List.perm_append_comm (l₁ := (wa, W.listOf wvs.toArray wn) :: (ra, W.listOf rvs.toArray rn) :: te) (l₂ := [(sS.heap.objs.size + 1 + 1, o2), (sS.heap.objs.size + 1, o1)])).trans (List.Perm.swap _ _ _))
  have s5 := s4.perm pm4
  have N5 : News sS.heap sS.heap.objs.size h41 ((nd, no) :: (sS.heap.objs.size + 1, o1) :: (sS.heap.objs.size + 1 + 1, o2) :: (wa, W.listOf wvs.toArray wn) :: (ra, W.listOf rvs.toArray rn) :: te) := fun q hq => N4 q (pm4.mem_iff.mpr hq)
  clear N4 s4 pm4
  generalize (wa, W.listOf wvs.toArray wn) :: (ra, W.listOf rvs.toArray rn) :: te = led at N5 s5 hR' M1 M2
  generalize hl5 : (sS.heap.objs.size + 1, o1) :: (sS.heap.objs.size + 1 + 1, o2) :: led = led5 at N5 s5
  clear hR
  walk1
  walk_at "go"
  rename _ ∧ _ ∧ _ ∧ AllLt _ _ => q3
  rename _ ∧ AllLt _ _ => q1
  rename _ < _ => q2
  rename Obj.IsDictOf _ _ ([] : List (Str × Value)) => hd0
  rename (_ == sysModules) = false => lo0
  rename Fr _ _ _ _ => F12
  rename News _ _ _ _ => N12
  refine park fun P9 k9 => ?_
  obtain ⟨S, ok0, e1, e2, e3, e4, e5, e6, N13, s13⟩ := new_end (Ci := 47) N12 hd0 lo0 s5 q1 q2 q3
  refine k9 ?_
  clear k9 P9
  rw [← e6] at F12
  rw [← hl5] at N13 s13
  refine park fun P9 k9 => ?_
  obtain ⟨m13, F13, p1, p2, p3, p4⟩ : ∃ m13, Fr _ _ _ m13 ∧ m13 (Str.ofString "rules") = some (.ref ra) ∧ m13 (Str.ofString "words") = some (.ref wa) ∧ m13 (Str.ofString "nexts") = some (.ref nd) ∧ m13 (Str.ofString "sorter") = some (.ref S.x) := ⟨_, F12, by walk_at "loc", by walk_at "loc", by walk_at "loc", by walk_at "loc"⟩
  refine k9 ?_
  clear k9 P9
  clear F12 N12 hd0 lo0 s5 q1 q2 q3 a1 a2 a3 e6 hl5 hkl hkl'
  rename World => w
  (try dsimp only)
  rename_i zz1 zz3 zz4 zz5 zz6 zz7 zz8 zz9 zz10 zz11 zz12 zz14 zz15 zz16 zz18 zz19 zz20 zz21 zz22 zz23 zz24 zz25 zz26 zz27 zz28 zz29 zz30 zz31 zz32 zz33 zz34 zz35 zz36 zz37 zz38 zz39 zz40 zz41 zz42 zz48 zz49 zz63 zz64 zz71 zz72 zz85 zz86 zz87 zz88 zz89 zz90 zz91 zz92 zz93 zz94 zz95 zz99 zz100 zz101 zz102 zz103 zz104 zz105 zz106 zz107 zz108 zz109 zz110 zz111 zz112 zz113 zz114 zz115
  clear zz6 zz10 zz14 zz15 zz16 zz18 zz19 zz20 zz21 zz22 zz23 zz25 zz26 zz29 zz33 zz34 zz40 zz41 zz42 hD0 h00 tk0 tk1 zz71 zz72 h40 zz87 zz91 zz92 zz93 zz94 zz95 lifted qk ek zz103 zz104 zz105 zz112 zz113
  revert w zz1 sS zz3 zz4 zz5 zz7 zz8 zz9 zz11 zz12 X0 T0 zz24 zz27 zz28 zz30 zz31 zz32 zz35 zz36 zz37 zz38 zz39 o2 o1 zz48 zz49 B0 c1 c2 s0 h1 ra rvs rules rn te hok hr3 zz63 zz64 h3 tk3 wa wvs wn hw3 nd no lo4 hno4 h41 m4 led hR' M1 M2 led5 zz85 zz86 zz88 zz89 zz90 zz99 zz100 zz101 zz102 zz106 zz107 zz108 zz109 zz110 zz111 zz114 zz115 tk S ok0 e1 e2 e3 e4 e5 N13 s13 m13 F13 p1 p2 p3 p4
  exact hP9.out)⟩
end
section
theorem anew_W1B_01 : True := by w_top off; trivial
theorem valueAt_snoc {kvs : List (Str × Value)} {k y : Str} {v : Value} (h : k ∉ kvs.map (·.1)) : valueAt (kvs ++ [(k, v)]) y = if y = k then some v else valueAt kvs y := by
  by_cases e : y = k
  · subst e
    rw [valueAt_app h, if_pos rfl]
    unfold valueAt; simp
  · rw [if_neg e]
    unfold valueAt
    rw [List.find?_append]
    cases hf : kvs.find? (fun p => decide (p.1 = y)) with
    | some p => rfl
    | none =>
      have : ¬ k = y := fun x => e x.symm
      simp [this]
theorem rot4 {α : Type} {a b c d : α} {l : List α} : (a :: b :: c :: d :: l).Perm (b :: c :: d :: a :: l) :=
  (List.Perm.swap _ _ _).trans (List.Perm.cons _ ((List.Perm.swap _ _ _).trans (List.Perm.cons _ (List.Perm.swap _ _ _))))
/-- between the words that are told -/
inductive W1J (prog : Program) (w : World) (C Ci : Addr) (S : So) (nd wa ra a : Addr) (o2 : Obj) (led : List (Addr × Obj)) (rules : List (Str × Str)) (i : Nat) (m : Str → Option Value) : List (Addr × Obj) → Prop
  | mk {nds : List Nd} {n2o okc no : Obj} {v0 : Option Value} {kvs : List (Str × Value)} {te : List (Addr × Obj)} (s : Sep ((a + 1, okc) :: (nd, no) :: (({ S with nds := nds, n2o := n2o } : So).cells C Ci ++ (te ++ (a + 1 + 1, o2) :: led))))
      (ok : ({ S with nds := nds, n2o := n2o } : So).ok prog w) (hg : nds.map Nd.pn = addAll (nextsOf rules) ((wordsTo 4).take i)) (hn : nds.length ≤ i * 16) (hs : ∀ v ∈ nds.map Nd.pn, v.succ.length ≤ i * 15) (hc : okc.data = .cell v0)
      (hd : no.IsDictOf (PySem.strKind prog w) kvs) (hk : kvs.map (·.1) = (wordsTo 4).take i) (hv : ∀ x ∈ (wordsTo 4).take i, ∃ v, valueAt kvs x = some v ∧ LstIn te v (nextsOf rules x))
      (g1 : m (Str.ofString "rules") = some (.ref ra)) (g2 : m (Str.ofString "words") = some (.ref wa)) (g3 : m (Str.ofString "nexts") = some (.ref nd)) (g4 : m (Str.ofString "sorter") = some (.ref S.x)) :
      W1J prog w C Ci S nd wa ra a o2 led rules i m ((a + 1, okc) :: (nd, no) :: (({ S with nds := nds, n2o := n2o } : So).cells C Ci ++ (te ++ (a + 1 + 1, o2) :: led)))
noncomputable def law1B : (P : Prop) ×' (Cp P → law1A.1) := ⟨_, fun hP9 => by
  intro w s₀ sS mg mb G fa o pm ho hg X0 T0 w_3 w_5 hs hL hr hl2 w_8 w_9 w_10 ra w1 o2 o1 qk ek B0 c1 c2 s0 h1 ra_1 rvs rules rn te hok hr3 h' tk h3 tk3 wa wvs wn hw3 nd no lo4 hno4 h41 m4 led hR' M1 M2 led5 x' d' g' L' h'_3 tk_2 d'_1 h'_4 o' h'_5 h'_6 h'_7 h'_8 F' N' kX h'_9 tk_4 S ok0 e1 e2 e3 e4 e5 N13 s13 m13 F13 p1 p2 p3 p4
  revert X0; k_fill; intro X0
  refine wpAny_For ?_
  have hlv := hw3.length
  have M5 := List.mem_append_right (S.cells 144 47) (List.mem_cons_of_mem (nd, no) (List.mem_cons_of_mem (sS.heap.objs.size + 1, o1) (List.mem_cons_of_mem (sS.heap.objs.size + 1 + 1, o2) M1)))
  generalize hled : S.cells 144 47 ++ (nd, no) :: (sS.heap.objs.size + 1, o1) :: (sS.heap.objs.size + 1 + 1, o2) :: led = led6 at N13 s13 M5
  walk_at "go"
  rw [← hled] at N13 s13
  clear M5 hled
  have pm0 : (S.cells 144 47 ++ (nd, no) :: (sS.heap.objs.size + 1, o1) :: (sS.heap.objs.size + 1 + 1, o2) :: led).Perm ((sS.heap.objs.size + 1, o1) :: (nd, no) :: (S.cells 144 47 ++ ([] ++ (sS.heap.objs.size + 1 + 1, o2) :: led))) :=
    List.perm_middle.trans ((List.Perm.cons _ List.perm_middle).trans (List.Perm.swap _ _ _))
  have s14 := s13.perm pm0
  have N14 : News sS.heap sS.heap.objs.size _ ((sS.heap.objs.size + 1, o1) :: (nd, no) :: (S.cells 144 47 ++ ([] ++ (sS.heap.objs.size + 1 + 1, o2) :: led))) := fun q hq => N13 q (pm0.mem_iff.mpr hq)
  clear N13 s13 pm0
  have e0 : ({ S with nds := [], n2o := S.n2o } : So) = S := by rw [← e1]
  refine listC (vs := wvs) (ep := wn) (W1J PySem.Challenge.rw_tv0044_01.row.prog w 144 47 S nd wa ra_1 sS.heap.objs.size o2 led rules) rfl PassesOwn.leaving ?lt F13 N14 ?l0 ?lturn ?ldone
  case lt =>
    intro i m l H
    cases H
    exact .tail _ (.tail _ (List.mem_append_right _ (List.mem_append_right _ (.tail _ M1))))
  case l0 =>
    rw [← e0]
    rw [← e0] at s14 ok0
    exact .mk s14 ok0 rfl (Nat.zero_le _) (fun v hv => (nomatch hv)) c1 hno4 rfl (fun x hx => (nomatch hx)) p1 p2 p3 p4
  case lturn =>
    clear F13 N14 s14
    intro I i v m1 news1 h5 tk5 oI hv H hoff F15 N16
    refine hideS fun T9 k9 => ?_
    refine park fun P9 k9 => ?_
    cases H with
    | @mk nds n2o okc no2 v0 kvs te2 s15 okS hg hn1 hn2 dok hno hkm hkv g1 g2 g3 g4 =>
    refine k9 ?_
    clear k9 P9
    refine park fun P9 k9 => ?_
    obtain ⟨k, kt, rfl, hk⟩ := hw3.item i v hv
    refine k9 ?_
    clear k9 P9
    have hil := (List.getElem?_eq_some_iff.mp hk).1
    rw [words4_len] at hil
    have hkw := List.mem_of_getElem? hk
    have hk4 := (mem_words.mp hkw).2
    have hIo : I ≠ sS.heap.objs.size + 1 := (hoff _ (.head _)).symm
    have hIn : I ≠ nd := (hoff _ (.tail _ (.head _))).symm
    have sI := s15.cons_ne (o := oI) hoff
    generalize hS1 : ({ S with nds := nds, n2o := n2o } : So) = S1 at s15 okS N16 hoff sI
    have x1 : S1.x = S.x := by rw [← hS1]
    have x2 : S1.nds = nds := by rw [← hS1]
    have x3 : S1.rdy = none := by rw [← hS1]; exact e2
    have x4 : S1.rv = .none := by unfold So.rv; rw [x3]
    have hx4 : (S.x, instObj 144 S1.dx) ∈ S1.cells 144 47 ++ (te2 ++ (sS.heap.objs.size + 1 + 1, o2) :: led) := by rw [← x1]; exact List.mem_append_left _ (.head _)
    have hdx4 : (S1.dx, dictOf (sorterEs S1.hs S1.tk S1.n2i .none (.int S1.npo S1.t1) (.int S1.nfi S1.t2)) S1.dn) ∈ S1.cells 144 47 ++ (te2 ++ (sS.heap.objs.size + 1 + 1, o2) :: led) := List.mem_append_left _ (by rw [← x4]; exact .tail _ (.head _))
    have hra4 : (ra_1, W.listOf rvs.toArray rn) ∈ S1.cells 144 47 ++ (te2 ++ (sS.heap.objs.size + 1 + 1, o2) :: led) := List.mem_append_right _ (List.mem_append_right _ (.tail _ M2))
    have hR4 := paired_left (fun (_ : Value) (_ : Str × Str) h => RuleIn.mono h (l' := S1.cells 144 47 ++ (te2 ++ (sS.heap.objs.size + 1 + 1, o2) :: led)) fun q hq => List.mem_append_right _ (List.mem_append_right _ (.tail _ hq))) hR'
    generalize hl4 : S1.cells 144 47 ++ (te2 ++ (sS.heap.objs.size + 1 + 1, o2) :: led) = led4 at s15 N16 sI hx4 hdx4 hra4 hR4 hoff
    refine storeX_C F15 N16 (by exact rfl) (UpdF.tail hIo (UpdF.head (Sep.head s15))) dok ?_ rfl rfl
    intro h6 ob F18 N18 dob
    (try dsimp only at N18)
    clear F15 N16
    walk_at "go"
    rename Fr _ _ _ _ => F19
    rename News _ _ _ _ => N19
    have s17 : Sep ((I, oI) :: (sS.heap.objs.size + 1, ob) :: (nd, no2) :: led4) := sI
    refine nexts_tells B0 F19 X0 T0 rfl ra_1 rvs rn rules k kt _ N19 s17 (.tail _ (.tail _ (.tail _ hra4))) (paired_left (fun _ _ h => h.mono fun q hq => .tail _ (.tail _ (.tail _ hq))) hR4) (by lia) (fun lr hlr => ?hlr) (by lia) (by decide) (by exact Nat.le_of_ble_eq_true rfl) ?_
    case hlr =>
      have h3 := hok lr hlr
      have := h3.l3
      have := h3.rl
      exact ⟨by lia, by lia⟩
    intro h7 tk7 t7 nvs nn hnv F20 N20 s20
    have hnl := nexts_len hr3 hk4
    have hnvl := hnv.length
    have hkl : kvs.length ≤ sizeLine := seven_le (by rw [← List.length_map (f := (·.1)), hkm, List.length_take]; lia)
    have hkn : k ∉ kvs.map (·.1) := by
      rw [hkm]
      intro h
      refine park fun P9 k9 => ?_
      obtain ⟨j, hj, e⟩ := List.getElem_of_mem h
      refine k9 ?_
      clear k9 P9
      rw [List.length_take] at hj
      rw [List.getElem_take] at e
      refine park fun P9 k9 => ?_
      obtain ⟨h3, h4⟩ := List.getElem?_eq_some_iff.mp hk
      refine k9 ?_
      clear k9 P9
      have := (List.getElem_inj words4_nod).mp (e.trans h4.symm)
      lia
    have ht7I : I ≠ t7 := Sep.head s20 _ (.head _)
    clear F19 N19
    have n1 : t7 ≠ nd := (Sep.head s20 _ (.tail _ (.tail _ (.head _)))).symm
    have n2 : sS.heap.objs.size + 1 ≠ nd := (Sep.head s17.tail _ (.head _)).symm
    walk_at "go"
    rename Fr _ _ _ _ => F21
    rename News _ _ _ _ => N21
    rename_i h21 o21 hd21
    rw [upd_cons, if_neg n2, upd_hd s17.tail.tail] at N21
    have hvn : valueAt kvs k = none := by
      have h2 := valueAt_some (kvs := kvs) (k := k)
      rw [decide_eq_false hkn] at h2
      cases e : valueAt kvs k with
      | none => rfl
      | some v => rw [e] at h2; cases h2
    rw [stored_new hvn] at hd21
    have hvk : valueAt (kvs ++ [(k, Value.ref t7)]) k = some (.ref t7) := by rw [valueAt_snoc hkn, if_pos rfl]
    have s21 : Sep ((t7, W.listOf nvs.toArray nn) :: (I, oI) :: (sS.heap.objs.size + 1, ob) :: (nd, o21) :: led4) := s20
    refine MethodStar_ ?_ (by rfl)
    walk_at "go"
    rename Fr _ _ _ _ => F22
    rename News _ _ _ _ => N22
    rename_i qm _ l22
    have s22 : Sep ((qm, methodObj (Value.ref 94) (Value.ref S.x)) :: (t7, W.listOf nvs.toArray nn) :: (I, oI) :: (sS.heap.objs.size + 1, ob) :: (nd, o21) :: led4) := s21.cons fun q hq => by
      rcases List.mem_cons.mp hq with rfl | hq
      · exact l22.1
      · rcases List.mem_cons.mp hq with rfl | hq
        · exact l22.2.1
        · rcases List.mem_cons.mp hq with rfl | hq
          · exact l22.2.2.1
          · rcases List.mem_cons.mp hq with rfl | hq
            · exact l22.2.2.2.1
            · exact ktn_ltOf l22.2.2.2.2 q hq
    clear l22
    refine callWith_SM (K := Mine.hd.heap_1 w.params) (g := 94) (self := .ref S.x) ?hf ?hh rfl rfl
    case hf => k_is
    walk_at "go"
    refine star_seq F22 N22 (.tail _ (.head _)) rfl rfl (.inl rfl) (ws := nvs) (by simp) (seven_le (by simp; lia)) ?_
    intro h23 F23 N23
    clear F22 N22
    walk_at "go"
    rw [List.append_nil]
    rw [← hl4] at N23 s22
    have pm := List.perm_append_comm_assoc [(qm, methodObj (Value.ref 94) (Value.ref S.x)), (t7, W.listOf nvs.toArray nn), (I, oI), (sS.heap.objs.size + 1, ob), (nd, o21)] (S1.cells 144 47) (te2 ++ (sS.heap.objs.size + 1 + 1, o2) :: led)
    have htl : ((wordsTo 4).take (i + 1)) = (wordsTo 4).take i ++ [k] := by rw [List.take_add_one, hk]; rfl
    refine add_star B0 F23 X0 T0 rfl S1 ([(qm, methodObj (Value.ref 94) (Value.ref S.x)), (t7, W.listOf nvs.toArray nn), (I, oI), (sS.heap.objs.size + 1, ob), (nd, o21)] ++ (te2 ++ (sS.heap.objs.size + 1 + 1, o2) :: led))
      (fun q hq => N23 q (pm.mem_iff.mpr hq)) (s22.perm pm) okS x3 k kt nvs (nextsOf rules k) hnv ?z1 (b := i * 15) ?z2 ?z3 (by decide) (by exact Nat.le_of_ble_eq_true rfl) ?zret qm ?zq
    case z1 => rw [x2]; lia
    case z2 => rw [x2]; exact hn2
    case z3 => lia
    case zq => rw [x1]; exact (N23 _ (.head _)).1
    case zret =>
      intro h24 tk24 nds' o' ok24 hg24 hl24 F24 N24 s24
      clear N23 F23
      have hg25 : nds'.map Nd.pn = addAll (nextsOf rules) ((wordsTo 4).take (i + 1)) := by rw [htl, addAll_snoc, ← hg, ← x2]; exact hg24
      have hl25 : nds'.length ≤ (i + 1) * 16 := by rw [x2] at hl24; lia
      have hs25 : ∀ v ∈ nds'.map Nd.pn, v.succ.length ≤ (i + 1) * 15 := fun v hv => by
        rw [hg24] at hv
        have := succ_addG (b := i * 15) (by rw [x2]; exact hn2) v hv
        lia
      walk_at "go"
      rename Fr _ _ _ _ => F26
      rename News _ _ _ _ => N26
      clear hl4
      subst hS1
      refine k9 _ _ ?_
      dsimp only [PostG]
      have pm2 : (({ S with nds := nds', n2o := o' } : So).cells 144 47 ++ ([(qm, methodObj (Value.ref 94) (Value.ref S.x)), (t7, W.listOf nvs.toArray nn), (I, oI), (sS.heap.objs.size + 1, ob), (nd, o21)] ++ (te2 ++ (sS.heap.objs.size + 1 + 1, o2) :: led))).Perm
          ((qm, methodObj (Value.ref 94) (Value.ref S.x)) :: (I, oI) :: (sS.heap.objs.size + 1, ob) :: (nd, o21) :: (({ S with nds := nds', n2o := o' } : So).cells 144 47 ++ ((t7, W.listOf nvs.toArray nn) :: te2 ++ (sS.heap.objs.size + 1 + 1, o2) :: led))) :=
        (List.Perm.append_left _ (List.Perm.cons _ rot4)).trans (List.perm_append_comm_assoc [(qm, methodObj (Value.ref 94) (Value.ref S.x)), (I, oI), (sS.heap.objs.size + 1, ob), (nd, o21)] _ _).symm
      have s27 := (s24.perm pm2).tail
      refine EndG.intro F26 (fun q hq => N26 q (pm2.mem_iff.mpr (.tail _ hq))) (Sep.head s27) (.mk (te := (t7, W.listOf nvs.toArray nn) :: te2) s27.tail ok24 hg25 hl25 hs25 dob hd21 ?_ ?_ g1 g2 g3 g4)
      · rw [List.map_append, hkm, htl]; rfl
      · intro x hx
        rw [htl] at hx
        rcases List.mem_append.mp hx with hx1 | hx1
        · refine park fun P9 k9 => ?_
          obtain ⟨v, h1, h2⟩ := hkv x hx1
          refine k9 ?_
          clear k9 P9
          refine ⟨v, ?_, h2.mono fun q hq => .tail _ hq⟩
          rw [valueAt_snoc hkn, if_neg]
          · exact h1
          · intro e
            exact hkn (by rw [hkm, ← e]; exact hx1)
        · rw [List.mem_singleton.mp hx1]
          exact ⟨_, hvk, t7, nvs, nn, rfl, .head _, hnv⟩
  case ldone =>
    intro m1 news1 h5 tk5 H F15 N16
    refine park fun P9 k9 => ?_
    cases H with
    | @mk nds n2o okc no2 v0 kvs te2 s15 okS hg hn1 hn2 dok hno hkm hkv g1 g2 g3 g4 =>
    refine k9 ?_
    clear k9 P9
    dsimp only
    clear F13 N14 s14
    rw [hlv, List.take_length] at hg hkm hkv
    generalize hS2 : ({ S with nds := nds, n2o := n2o } : So) = T2 at s15 okS N16
    have y1 : T2.x = S.x := by rw [← hS2]
    have y2 : T2.nds.map Nd.pn = addAll (nextsOf rules) (wordsTo 4) := by rw [← hS2]; exact hg
    have y3 : T2.rdy = none := by rw [← hS2]; exact e2
    have y4 : T2.npo = 0 := by rw [← hS2]; exact e4
    have y5 : T2.nfi = 0 := by rw [← hS2]; exact e5
    have y6 : T2.nds.length ≤ 1000 := by
      rw [← hS2]
      show nds.length ≤ 1000
      rw [hlv, words4_len] at hn1
      lia
    rw [← y1] at g4
    have pm3 : ((sS.heap.objs.size + 1, okc) :: (nd, no2) :: (T2.cells 144 47 ++ (te2 ++ (sS.heap.objs.size + 1 + 1, o2) :: led))).Perm (T2.cells 144 47 ++ ((sS.heap.objs.size + 1, okc) :: (nd, no2) :: (te2 ++ (sS.heap.objs.size + 1 + 1, o2) :: led))) :=
      List.perm_append_comm_assoc [(sS.heap.objs.size + 1, okc), (nd, no2)] (T2.cells 144 47) (te2 ++ (sS.heap.objs.size + 1 + 1, o2) :: led)
    have N17 : News sS.heap sS.heap.objs.size h5 (T2.cells 144 47 ++ ((sS.heap.objs.size + 1, okc) :: (nd, no2) :: (te2 ++ (sS.heap.objs.size + 1 + 1, o2) :: led))) := fun q hq => N16 q (pm3.mem_iff.mpr hq)
    have s17 := s15.perm pm3
    have F16 : Fr sS.heap sS.heap.objs.size h5 m1 := F15
    have hcl : ∀ v ∈ T2.nds, ∀ c ∈ v.succ, c ∈ T2.nds.map (·.key) := fun v hv c hc => by
      have h2 : v.pn ∈ addAll (nextsOf rules) (wordsTo 4) := by rw [← y2]; exact List.mem_map.mpr ⟨v, hv, rfl⟩
      have h3 := (np_at (addAll_nod _ _) h2).2
      have h4 : c ∈ sucOf (addAll (nextsOf rules) (wordsTo 4)) v.pn.key := by rw [h3]; exact hc
      have h5 := (kys01 hok).mpr ((suc01 hok).mp h4).1
      rw [← y2] at h5
      unfold kys at h5
      rw [List.map_map] at h5
      exact h5
    clear N16 s15 pm3 F15 hS2 hg hn1 hn2 e1 e2 e3 e4 e5 ok0 p1 p2 p3 p4 y1 e0 c1 hno4
    clear pm kX h'_9 tk_4 m13 n2o hkm
    revert w s₀ sS mg mb G fa o ho hg T0 w_3 w_5 hs hL hr hl2 w_8 w_9 w_10 ra w1 o2 o1 qk ek B0 c2 s0 h1 ra_1 rvs rules rn te hok hr3 h' tk h3 tk3 wa wvs wn hw3 nd no lo4 h41 m4 led hR' M1 M2 led5 x' d' g' L' h'_3 tk_2 d'_1 h'_4 o' h'_5 h'_6 h'_7 h'_8 F' N' S X0 hlv led6 m1 h5 tk5 nds okc no2 v0 kvs te2 dok hno hkv g1 g2 g3 T2 g4 okS y2 y3 y4 y5 y6 N17 s17 F16 hcl
    exact hP9.out⟩
end
section
theorem anew_W1C_01 : True := by w_top off; trivial
local macro_rules | `(tactic| walk_at "stop") => ln "q" "wpAny _ _ (call (Value.ref 99) _) _ _ _"
theorem scOf_pn1 (nds : List Nd) : scOf nds = sucOf (nds.map Nd.pn) := funext fun k => by
  unfold scOf sucOf
  rw [List.find?_map, Option.map_map]; rfl
theorem keys_pn1 (nds : List Nd) : nds.map (·.key) = (nds.map Nd.pn).map (·.key) := by rw [List.map_map]; rfl
theorem ready_mem1 {nds : List Nd} (hn : (nds.map (·.key)).Nodup) : (ready0 nds).Nodup ∧ ∀ k, k ∈ ready0 nds ↔ k ∈ kys (nds.map Nd.pn) ∧ npOf (nds.map Nd.pn) k = 0 := by
  unfold ready0
  refine ⟨hn.sublist (List.Sublist.map _ (List.filter_sublist)), fun k => ?_⟩
  rw [List.mem_map]
  constructor
  · intro X90
    refine park fun P9 k9 => ?_
    obtain ⟨v, hv, rfl⟩ := X90
    obtain ⟨h1, h2⟩ := List.mem_filter.mp hv
    refine k9 ?_
    clear k9 P9
    refine ⟨List.mem_map.mpr ⟨v.pn, List.mem_map.mpr ⟨v, h1, rfl⟩, rfl⟩, ?_⟩
    rw [npOf_nd hn h1]; exact of_decide_eq_true h2
  · intro X90
    refine park fun P9 k9 => ?_
    obtain ⟨h1, h2⟩ := X90
    obtain ⟨u, hu, rfl⟩ := List.mem_map.mp h1
    obtain ⟨v, hv, rfl⟩ := List.mem_map.mp hu
    refine k9 ?_
    clear k9 P9
    refine ⟨v, List.mem_filter.mpr ⟨hv, decide_eq_true ?_⟩, rfl⟩
    rw [← npOf_nd hn hv]; exact h2
/-- what the walk leaves alone -/
structure Box1 (P : Prop) : Prop where
  out : P
noncomputable def law1C : (P : Prop) ×' (Cp P → law1B.1) := ⟨_, fun hP9 => by
  intro w s₀ sS mg mb G fa o ho hg T0 w_3 w_5 hs hL hr hl2 w_8 w_9 w_10 ra w1 o2 o1 qk ek B0 c2 s0 h1 ra_1 rvs rules rn te hok hr3 h' tk h3 tk3 wa wvs wn hw3 nd no lo4 h41 m4 led hR' M1 M2 led5 x' d' g' L' h'_3 tk_2 d'_1 h'_4 o' h'_5 h'_6 h'_7 h'_8 F' N' S X0 hlv led6 m1 h5 tk5 nds okc no2 v0 kvs te2 dok hno hkv g1 g2 g3 T2 g4 okS y2 y3 y4 y5 y6 N17 s17 F16 hcl
  revert X0; k_fill; intro X0
  have y7 : T2.rv = .none := by unfold So.rv; rw [y3]
  have mn : (nd, no2) ∈ (nd, no2) :: (te2 ++ (sS.heap.objs.size + 1 + 1, o2) :: led) := .head _
  have m2c : (sS.heap.objs.size + 1 + 1, o2) ∈ (nd, no2) :: (te2 ++ (sS.heap.objs.size + 1 + 1, o2) :: led) := .tail _ (List.mem_append_right _ (.head _))
  have mw : (wa, W.listOf wvs.toArray wn) ∈ (nd, no2) :: (te2 ++ (sS.heap.objs.size + 1 + 1, o2) :: led) := .tail _ (List.mem_append_right _ (.tail _ M1))
  have mr : (ra_1, W.listOf rvs.toArray rn) ∈ (nd, no2) :: (te2 ++ (sS.heap.objs.size + 1 + 1, o2) :: led) := .tail _ (List.mem_append_right _ (.tail _ M2))
  have hR2 := paired_left (fun (_ : Value) (_ : Str × Str) h => RuleIn.mono h (l' := (nd, no2) :: (te2 ++ (sS.heap.objs.size + 1 + 1, o2) :: led)) fun q hq => .tail _ (List.mem_append_right _ (.tail _ hq))) hR'
  have hkv2 : ∀ x ∈ wordsTo 4, ∃ v, valueAt kvs x = some v ∧ LstIn ((nd, no2) :: (te2 ++ (sS.heap.objs.size + 1 + 1, o2) :: led)) v (nextsOf rules x) := fun x hx => by
    refine park fun P9 k9 => ?_
    obtain ⟨v, h1, h2⟩ := hkv x hx
    refine k9 ?_
    clear k9 P9
    exact ⟨v, h1, h2.mono fun q hq => .tail _ (List.mem_append_left _ hq)⟩
  generalize (nd, no2) :: (te2 ++ (sS.heap.objs.size + 1 + 1, o2) :: led) = rest at N17 s17 mn m2c mw mr hkv2 hR2
  clear hkv M1 M2 hR'
  have hx5 : (T2.x, instObj 144 T2.dx) ∈ T2.cells 144 47 ++ (sS.heap.objs.size + 1, okc) :: rest := List.mem_append_left _ (.head _)
  have hdx5 : (T2.dx, dictOf (sorterEs T2.hs T2.tk T2.n2i .none (.int T2.npo T2.t1) (.int T2.nfi T2.t2)) T2.dn) ∈ T2.cells 144 47 ++ (sS.heap.objs.size + 1, okc) :: rest := List.mem_append_left _ (by rw [← y7]; exact .tail _ (.head _))
  generalize hl6 : T2.cells 144 47 ++ (sS.heap.objs.size + 1, okc) :: rest = led6 at s17 N17 hx5 hdx5
  walk_at "go"
  rename Fr _ _ _ _ => F190
  rename News _ _ _ _ => N19
  refine park fun P9 k9 => ?_
  obtain ⟨mE, F19, r1, r2, r3, r4, r6⟩ : ∃ mE, Fr _ _ _ mE ∧ mE (Str.ofString "rules") = some (.ref ra_1) ∧ mE (Str.ofString "words") = some (.ref wa) ∧ mE (Str.ofString "nexts") = some (.ref nd) ∧ mE (Str.ofString "sorter") = some (.ref T2.x) ∧ mE (Str.ofString "ring") = some (.bool false) :=
    ⟨_, F190, by walk_at "loc", by walk_at "loc", by walk_at "loc", by walk_at "loc", by walk_at "loc"⟩
  refine k9 ?_
  clear k9 P9
  clear F190
  refine wpAny_mono (Q := fun fl s' => Box1 (fl = Flow.next ∧ ∃ h' g' tk' Dl ys kk b m', s' = { sS with heap := h', toks := tk' } ∧ Fr g' sS.heap.objs.size h' m' ∧ News g' sS.heap.objs.size h' (({ T2 with rdy := some (Dl, ys, kk), rds := ready0 T2.nds } : So).cells 144 47 ++ (sS.heap.objs.size + 1, okc) :: rest) ∧
      Sep (({ T2 with rdy := some (Dl, ys, kk), rds := ready0 T2.nds } : So).cells 144 47 ++ (sS.heap.objs.size + 1, okc) :: rest) ∧ ({ T2 with rdy := some (Dl, ys, kk), rds := ready0 T2.nds } : So).ok PySem.Challenge.rw_tv0044_01.row.prog w ∧
      Below callerA sS.heap [] g' ∧ (Mine.hd.heap_1 w.params).In g' ∧ Top view (looseW view [Str.ofString "_NodeInfo"]) (ExcName.means s₀.heap) mg mb g' ∧
      m' (Str.ofString "rules") = some (.ref ra_1) ∧ m' (Str.ofString "words") = some (.ref wa) ∧ m' (Str.ofString "nexts") = some (.ref nd) ∧ m' (Str.ofString "sorter") = some (.ref T2.x) ∧ m' (Str.ofString "ring") = some (.bool b) ∧
      (b = false ∧ Free (sc := scOf T2.nds) (T2.nds.map (·.key)) ∨ b = true ∧ ∃ told, Ring (sc := scOf T2.nds) told ∧ ∀ x ∈ told, x ∈ T2.nds.map (·.key)))) ?tryb (fun fl s' h => ?_) fun _ _ e => e
  case tryb =>
    refine wpAny_Try_except ?_
    walk_at "go"
    dsimp only [List.append_nil]
    rw [← hl6] at N19 s17
    refine prep_tells (S := T2) (rest := (sS.heap.objs.size + 1, okc) :: rest) B0 F19 X0 T0 rfl X0 T0 ktsDicts_nil N19 s17 okS y3 y6 hcl (by decide) (by exact Nat.le_of_ble_eq_true rfl) ?pnone ?praise
    case pnone =>
      intro h7 g7 tk7 Dl ys kk T7 free7 ok7 F7 N7 s7 B7 X7 P7 D7
      walk_at "go"
      exact ⟨⟨rfl, h7, g7, _, Dl, ys, kk, false, mE, rfl, F7, N7, s7, ok7, B7, X7, P7, r1, r2, r3, r4, r6, .inl ⟨rfl, free7⟩⟩⟩
    case praise =>
      intro h7 g7 G7 tk7 Dl ys kk e7 t7 vs7 told7 T7 ring7 keys7 ok7 F7 R7 up7 s7 B7 D7
      refine caught_OX (KF := Mine.hd.heap_1 w.params) R7 F7 B7 up7 X0 T0 D7 T7 ?q1 ?q2 ?q3 rfl rfl rfl rfl (by decide) ?q4
      case q1 => k_is
      case q2 => kts_isx
      case q3 =>
        intro h9 g9 T9 F9 N9 B9 X9 P9 D9
        walk_at "go"
        rename Fr _ _ _ _ => F10
        rename News _ _ _ _ => N10
        exact ⟨⟨rfl, _, g9, _, Dl, ys, kk, true, _, rfl, F10, N10, s7, ok7, B9, X9, P9, by walk_at "loc", by walk_at "loc", by walk_at "loc", by walk_at "loc", by walk_at "loc", .inr ⟨rfl, told7, ring7, keys7⟩⟩⟩
      case q4 => exact PassesOwnAt.leaving
  refine park fun P9 k9 => ?_
  obtain ⟨rfl, h20, g20, tk20, DlE, ysE, kkE, b, mF, rfl, F20, N20, s20, ok20, B20, X20, P20, u1, u2, u3, u4, u5, hfr⟩ := h.out
  refine k9 ?_
  clear k9 P9
  dsimp only
  rw [scOf_pn1, keys_pn1, y2] at hfr
  have kn0 : Kn (kys (addAll (nextsOf rules) (wordsTo 4))) (nextsOf rules) (sucOf (addAll (nextsOf rules) (wordsTo 4))) [] (T2.nds.map Nd.pn) (ready0 T2.nds) := by
    have hn : (T2.nds.map (·.key)).Nodup := by
      rw [keys_pn1, y2]; exact addAll_nod _ _
    refine park fun P9 k9 => ?_
    obtain ⟨k1, k2⟩ := ready_mem1 hn
    refine k9 ?_
    clear k9 P9
    rw [y2] at k2 ⊢
    exact Kn.zero words4_nod (fun k hk q hq => step_closed hok hk hq) k1 k2
  generalize hT3 : ({ T2 with rdy := some (DlE, ysE, kkE), rds := ready0 T2.nds } : So) = T3 at N20 s20 ok20
  have v1 : T3.x = T2.x := by rw [← hT3]
  have v2 : T3.rdy = some (DlE, ysE, kkE) := by rw [← hT3]
  have v3 : Kn (kys (addAll (nextsOf rules) (wordsTo 4))) (nextsOf rules) (sucOf (addAll (nextsOf rules) (wordsTo 4))) [] (T3.nds.map Nd.pn) T3.rds := by rw [← hT3]; exact kn0
  have v4 : T3.npo = 0 := by rw [← hT3]; exact y4
  have v5 : T3.nfi = 0 := by rw [← hT3]; exact y5
  rw [← v1] at u4
  clear hT3 kn0 r1 r2 r3 r4 r6 F19 s17 hx5 hdx5 N19 hl6 y2 y3 y4 y5 y6 y7 okS hcl v1 hlv g1 g2 g3 g4 s0
  rename_i zz112 zz136
  clear T0 o1 B0 zz112 te2 led6 zz136 mE
  revert w s₀ sS mg mb G fa o ho hg w_3 w_5 hs hL hr hl2 w_8 w_9 w_10 ra w1 o2 qk ek c2 h1 ra_1 rvs rules rn te hok hr3 h' tk h3 tk3 wa wvs wn hw3 nd no lo4 h41 m4 led led5 x' d' g' L' h'_3 tk_2 d'_1 h'_4 o' h'_5 h'_6 h'_7 h'_8 F' N' S m1 h5 tk5 nds okc no2 v0 kvs dok hno T2 X0 rest mn m2c mw mr hkv2 hR2 h20 g20 tk20 DlE ysE kkE b mF h F20 B20 X20 P20 u1 u2 u3 u5 hfr T3 u4 N20 s20 ok20 v2 v3 v4 v5
  exact hP9.out⟩
end
section
theorem anew_W1D_01 : True := by w_top off; trivial
local macro_rules | `(tactic| walk_at "stop") => ln "q" "wpAny _ _ (call (Value.ref 113) _) _ _ _"
local macro_rules | `(tactic| walk_at "stop") => ln "q" "wpAny _ _ (call (Value.ref 106) _) _ _ _"
local macro_rules | `(tactic| walk_at "stop") => ln "q" "wpAny _ _ (call (Value.ref 127) _) _ _ _"
local macro_rules | `(tactic| walk_at "stop") => ln "q" "WhlRest _ _ _ _ _ _ _ _ _ _ _"
/-- between the sorter's rounds -/
inductive W1W (prog : Program) (w : World) (C Ci : Addr) (g : Heap) (L : Addr) (s : Shared) (rest : List (Addr × Obj)) (rules : List (Str × Str)) (sx ed R0 ra wa nd a : Addr) (b : Bool) (n : Nat) : Shared → Prop
  | mk {h : Heap} {tk : Nat} {m : Str → Option Value} {T : So} {Dw : Addr} {rvw : List Value} {rnw : Nat} {fE : Str → Option (List Str)} {kvsE : List (Str × Value)} {eo okc : Obj} {v0 : Option Value} {rvs : List Value} {rn : Nat} {te : List (Addr × Obj)} {xss : List (List Str)}
      (F : Fr g L h m) (N : News g L h (T.cells C Ci ++ ((R0, W.listOf rvs.toArray rn) :: (ed, eo) :: (a + 1, okc) :: (te ++ rest)))) (S : Sep (T.cells C Ci ++ ((R0, W.listOf rvs.toArray rn) :: (ed, eo) :: (a + 1, okc) :: (te ++ rest)))) (ok : T.ok prog w)
      (rdy : T.rdy = some (Dw, rvw, rnw)) (x : T.x = sx) (hc : okc.data = .cell v0) (kn : Kn (kys (addAll (nextsOf rules) (wordsTo 4))) (nextsOf rules) (sucOf (addAll (nextsOf rules) (wordsTo 4))) (kvsE.map (·.1)) (T.nds.map Nd.pn) T.rds) (np : T.npo = T.nfi)
      (hd : eo.IsDictOf (PySem.strKind prog w) kvsE) (nod : (kvsE.map (·.1)).Nodup) (mem : ∀ k, k ∈ kvsE.map (·.1) ↔ k ∈ xss.flatten) (dic : DicIn te kvsE fE) (ef : EndF rules (kvsE.map (·.1)) fE) (R : RdL (wordsTo 4) (nextsOf rules) xss) (P : Paired (LstIn te) rvs xss)
      (xl : xss.length ≤ (kvsE.map (·.1)).length) (le : 31 ≤ (kvsE.map (·.1)).length + n) (u1 : m (Str.ofString "rules") = some (.ref ra)) (u2 : m (Str.ofString "words") = some (.ref wa)) (u3 : m (Str.ofString "nexts") = some (.ref nd)) (u4 : m (Str.ofString "sorter") = some (.ref sx))
      (u5 : m (Str.ofString "ring") = some (.bool b)) (u6 : m (Str.ofString "ends") = some (.ref ed)) (u7 : m (Str.ofString "rounds") = some (.ref R0)) :
      W1W prog w C Ci g L s rest rules sx ed R0 ra wa nd a b n { s with heap := h, toks := tk }
/-- within a round: the words that are told -/
inductive W1R (prog : Program) (w : World) (te3 base : List (Addr × Obj)) (rules : List (Str × Str)) (D rd : List Str) (sx ed R0 ra wa nd a t9 : Addr) (b : Bool) (i : Nat) (m : Str → Option Value) : List (Addr × Obj) → Prop
  | mk {fE : Str → Option (List Str)} {kvsE : List (Str × Value)} {eo okc : Obj} {v0 : Option Value} {te : List (Addr × Obj)} (S : Sep ((a + 1, okc) :: (ed, eo) :: (te ++ base))) (hc : okc.data = .cell v0) (hd : eo.IsDictOf (PySem.strKind prog w) kvsE) (hk : kvsE.map (·.1) = D ++ rd.take i)
      (dic : DicIn te kvsE fE) (sub : ∀ q ∈ te3, q ∈ te) (ef : EndF rules (D ++ rd.take i) fE) (u1 : m (Str.ofString "rules") = some (.ref ra)) (u2 : m (Str.ofString "words") = some (.ref wa)) (u3 : m (Str.ofString "nexts") = some (.ref nd)) (u4 : m (Str.ofString "sorter") = some (.ref sx))
      (u5 : m (Str.ofString "ring") = some (.bool b)) (u6 : m (Str.ofString "ends") = some (.ref ed)) (u7 : m (Str.ofString "rounds") = some (.ref R0)) (u8 : m (Str.ofString "ready") = some (.ref t9)) : W1R prog w te3 base rules D rd sx ed R0 ra wa nd a t9 b i m ((a + 1, okc) :: (ed, eo) :: (te ++ base))
theorem permU {α : Type} {r d o c : α} {C te l1 l2 : List α} : (C ++ (r :: d :: o :: (te ++ (l1 ++ c :: l2)))).Perm (r :: d :: o :: c :: (te ++ (l1 ++ l2 ++ C))) := by
  classical
  exact List.perm_iff_count.mpr fun x => by simp only [List.count_append, List.count_cons]; lia
theorem LstIn.but {l l' : List (Addr × Obj)} {v : Value} {xs : List Str} {o2 : Obj} {v0 : Option Value} (c : o2.data = .cell v0) (hs : ∀ q ∈ l, q.2 ≠ o2 → q ∈ l') (h : LstIn l v xs) : LstIn l' v xs := by
  refine park fun P9 k9 => ?_
  obtain ⟨a, vs, n, e, hm, hx⟩ := h
  refine k9 ?_
  clear k9 P9
  exact ⟨a, vs, n, e, hs _ hm (fun e => by (try dsimp only at e); rw [← e] at c; cases c), hx⟩
theorem RuleIn.but {l l' : List (Addr × Obj)} {v : Value} {lr : Str × Str} {o2 : Obj} {v0 : Option Value} (c : o2.data = .cell v0) (hs : ∀ q ∈ l, q.2 ≠ o2 → q ∈ l') (h : RuleIn l v lr) : RuleIn l' v lr := by
  refine park fun P9 k9 => ?_
  obtain ⟨t1, t2, a, n, e, hm⟩ := h
  refine k9 ?_
  clear k9 P9
  exact ⟨t1, t2, a, n, e, hs _ hm (fun e => by (try dsimp only at e); rw [← e] at c; cases c)⟩
theorem permR {α : Type} {t r d o : α} {C te rest : List α} : (t :: (C ++ r :: d :: o :: (te ++ rest))).Perm (o :: d :: (te ++ (C ++ t :: r :: rest))) := by
  classical
  exact List.perm_iff_count.mpr fun x => by simp only [List.count_append, List.count_cons]; lia
theorem permS {α : Type} {t r d o : α} {C te rest : List α} : (o :: d :: (te ++ (C ++ t :: r :: rest))).Perm (r :: (C ++ (o :: d :: (te ++ (t :: rest))))) := by
  classical
  exact List.perm_iff_count.mpr fun x => by simp only [List.count_append, List.count_cons]; lia
theorem permT {α : Type} {q D t r d o : α} {C te rest : List α} : (q :: D :: r :: (C ++ (o :: d :: (te ++ (t :: rest))))).Perm (C ++ (q :: t :: r :: d :: o :: ((D :: te) ++ rest))) := by
  classical
  exact List.perm_iff_count.mpr fun x => by simp only [List.count_append, List.count_cons]; lia
noncomputable def law1D : (P : Prop) ×' (Cp P → law1C.1) := ⟨_, fun hP9 => by
  intro w s₀ sS mg mb G fa o ho hg w_3 w_5 hs hL hr hl2 w_8 w_9 w_10 ra w1 o2 qk ek c2 h1 ra_1 rvs rules rn te hok hr3 h' tk h3 tk3 wa wvs wn hw3 nd no lo4 h41 m4 led led5 x' d' g' L' h'_3 tk_2 d'_1 h'_4 o' h'_5 h'_6 h'_7 h'_8 F' N' S m1 h5 tk5 nds okc no2 v0 kvs dok hno T2 X0 rest mn m2c mw mr hkv2 hR2 h20 g20 tk20 DlE ysE kkE b mF h F20 B20 X20 P20 u1 u2 u3 u5 hfr T3 u4 N20 s20 ok20 v2 v3 v4 v5
  revert X0 X20; k_fill; intro X0 X20
  generalize hl7 : T3.cells 144 47 ++ (sS.heap.objs.size + 1, okc) :: rest = led7 at N20 s20
  walk_at "go"
  rename Fr _ _ _ _ => F21
  rename News _ _ _ _ => N21
  rename_i dE _ oE l1E loE hdE _ _ _ _ R0 _ l1R _
  rw [← hl7] at N21 s20 l1E l1R
  have s21 : Sep ((R0, W.listOf ([] : List Value).toArray 0) :: (dE, oE) :: (T3.cells 144 47 ++ (sS.heap.objs.size + 1, okc) :: rest)) := (s20.cons l1E).cons fun q hq => by
    rcases List.mem_cons.mp hq with rfl | hq
    · exact l1R.1
    · exact ktn_ltOf l1R.2 q hq
  have pm0 := List.perm_append_comm_assoc [(R0, W.listOf ([] : List Value).toArray 0), (dE, oE)] (T3.cells 144 47) ((sS.heap.objs.size + 1, okc) :: rest)
  have N22 : News g20 sS.heap.objs.size _ (T3.cells 144 47 ++ ((R0, W.listOf ([] : List Value).toArray 0) :: (dE, oE) :: (sS.heap.objs.size + 1, okc) :: ([] ++ rest))) := fun q hq => N21 q (pm0.mem_iff.mpr hq)
  have s22 := s21.perm pm0
  clear s21 pm0 N21 hl7 l1E l1R s20
  refine whl_start 0 (whileS (W1W PySem.Challenge.rw_tv0044_01.row.prog w 144 47 g20 sS.heap.objs.size sS rest rules T3.x dE R0 ra_1 wa nd sS.heap.objs.size b) PassesOwn.leaving ?wturn 31 ?wh0)
  case wh0 =>
    exact .mk (T := T3) (te := []) (xss := []) (kvsE := []) (fE := fun _ => none) (rvs := []) F21 N22 s22 ok20 v2 rfl dok v3 (v4.trans v5.symm) hdE List.nodup_nil (fun k => by simp) (fun k => rfl) EndF.nil RdL.nil .nil (Nat.zero_le _) (by simp)
      (by walk_at "loc") (by walk_at "loc") (by walk_at "loc") (by walk_at "loc") (by walk_at "loc") (by walk_at "loc") (by walk_at "loc")
  case wturn =>
    intro n s3 H again
    clear F21 N22 s22 ok20 v2 v3 v4 v5 hdE dok u1 u2 u3 u4 u5
    refine park fun P9 k9 => ?_
    cases H with
    | @mk h3 tk3 m3 T Dw rvw rnw fE kvsE eo okc3 v3 rvs3 rn3 te3 xss F22 N22 s22 okw rw2 rw1 hc3 kn np hdE nodE memE dicE efE RE PE xl le z1 z2 z3 z4 z5 z6 z7 =>
    refine k9 ?_
    clear k9 P9
    have hx7 : (T.x, instObj 144 T.dx) ∈ T.cells 144 47 ++ ((R0, W.listOf rvs3.toArray rn3) :: (dE, eo) :: (sS.heap.objs.size + 1, okc3) :: (te3 ++ rest)) := List.mem_append_left _ (.head _)
    have hdx7 : (T.dx, dictOf (sorterEs T.hs T.tk T.n2i (.ref Dw) (.int T.npo T.t1) (.int T.nfi T.t2)) T.dn) ∈ T.cells 144 47 ++ ((R0, W.listOf rvs3.toArray rn3) :: (dE, eo) :: (sS.heap.objs.size + 1, okc3) :: (te3 ++ rest)) := List.mem_append_left _ (So.mem_dx1 rw2)
    rw [← rw1] at z4
    generalize hl7 : T.cells 144 47 ++ ((R0, W.listOf rvs3.toArray rn3) :: (dE, eo) :: (sS.heap.objs.size + 1, okc3) :: (te3 ++ rest)) = led7 at N22 s22 hx7 hdx7
    walk_at "go"
    rename Fr _ _ _ _ => F23
    rename News _ _ _ _ => N23
    (try dsimp only [List.append_nil])
    rw [← hl7] at N23 s22 hx7 hdx7
    clear hl7
    refine park fun P9 k9 => ?_
    obtain ⟨hrl, hrk⟩ := kn_rd hok kn
    refine k9 ?_
    clear k9 P9
    refine active_tells (S := T) (rest := (R0, W.listOf rvs3.toArray rn3) :: (dE, eo) :: (sS.heap.objs.size + 1, okc3) :: (te3 ++ rest)) B20 F23 X20 P20 rfl N23 s22 okw rw2 (by lia) (by decide) (by exact Nat.le_of_ble_eq_true rfl) ?_
    intro h8 tk8 F24 N24
    rw [decide_eq_false (by lia), Bool.false_or]
    clear F23 N23
    rcases Decidable.em (T.rds = []) with hemp | hne
    · rw [hemp]
      have hrow : rowOf (wordsTo 4) (nextsOf rules) (kvsE.map (·.1)) = [] := by
        have := rd_row hok kn
        rw [hemp] at this
        exact this.symm.eq_nil
      have kD := kn_D hok kn
      refine park fun P9 k9 => ?_
      obtain ⟨l1, l2, hsp⟩ := List.append_of_mem m2c
      refine k9 ?_
      clear k9 P9
      have hin : ∀ q ∈ rest, q.2 ≠ o2 → q ∈ te3 ++ (l1 ++ l2 ++ T.cells 144 47) := fun q hq hne => by
        rw [hsp] at hq
        refine List.mem_append_right _ (List.mem_append_left _ ?_)
        rcases List.mem_append.mp hq with hq | hq
        · exact List.mem_append_left _ hq
        · rcases List.mem_cons.mp hq with rfl | hq
          · exact absurd rfl hne
          · exact List.mem_append_right _ hq
      have N25 : News g20 sS.heap.objs.size h8 ((R0, W.listOf rvs3.toArray rn3) :: (dE, eo) :: (sS.heap.objs.size + 1, okc3) :: (sS.heap.objs.size + 1 + 1, o2) :: (te3 ++ (l1 ++ l2 ++ T.cells 144 47))) := fun q hq => N24 q (by rw [hsp]; exact permU.mem_iff.mpr hq)
      rw [hsp] at s22
      have s25 := s22.perm permU
      have hlo : ∀ vs n, W.listOf vs n ≠ o2 := fun vs n e => by rw [← e] at c2; cases c2
      have mn5 := hin _ mn fun e => by
        refine park fun P9 k9 => ?_
        obtain ⟨es, ep, _, hd, _⟩ := hno
        refine k9 ?_
        clear k9 P9
        dsimp only at e
        rw [e, c2] at hd
        cases hd
      have mw5 := hin _ mw (hlo _ _)
      have mr5 := hin _ mr (hlo _ _)
      have hkv5 : ∀ x ∈ wordsTo 4, ∃ v, valueAt kvs x = some v ∧ LstIn (te3 ++ (l1 ++ l2 ++ T.cells 144 47)) v (nextsOf rules x) := fun x hx => by
        refine park fun P9 k9 => ?_
        obtain ⟨v, h1, h2⟩ := hkv2 x hx
        refine k9 ?_
        clear k9 P9
        exact ⟨v, h1, h2.but c2 hin⟩
      have hR5 := paired_left (fun (_ : Value) (_ : Str × Str) h => RuleIn.but c2 hin h) hR2
      have dic5 : DicIn (te3 ++ (l1 ++ l2 ++ T.cells 144 47)) kvsE fE := dicE.mono fun q hq => List.mem_append_left _ hq
      have PE5 := lsts_mono PE (l' := te3 ++ (l1 ++ l2 ++ T.cells 144 47)) fun q hq => List.mem_append_left _ hq
      generalize te3 ++ (l1 ++ l2 ++ T.cells 144 47) = led25 at N25 s25 mn5 mw5 mr5 hkv5 hR5 dic5 PE5
      clear again hin hlo hsp N24 s22 hx7 hdx7 okw rw2 hrl hrk kn np le z4 hemp rw1 mn m2c mw mr hkv2 hR2 dicE PE l1 l2
      rename_i zz61 zz62 zz63 zz145 zz147 zz150 zz151 zz152 zz153 zz155 zz156
      clear hs w_9 w_10 ra zz63 tk5 nds DlE ysE kkE mF T3 zz145 zz147 oE zz150 zz151 zz152 zz153 zz155 zz156 tk T Dw rvw rnw te3 xl led7
      revert w s₀ sS mg mb G fa o ho hg w_3 w_5 hL hr hl2 w_8 w1 o2 qk ek c2 h1 ra_1 rvs rules rn te hok hr3 h' zz61 zz62 wa wvs wn hw3 nd no lo4 h41 m4 led led5 x' d' g' L' h'_3 tk_2 d'_1 h'_4 o' h'_5 h'_6 h'_7 h'_8 F' N' S m1 h5 okc no2 v0 kvs hno T2 rest h20 g20 tk20 b h B20 P20 hfr X0 X20 dE loE R0 n h3 tk3 m3 fE kvsE eo okc3 v3 rvs3 rn3 xss hc3 hdE nodE memE efE RE z1 z2 z3 z5 z6 z7 h8 tk8 F24 hrow kD led25 N25 s25 mn5 mw5 mr5 hkv5 hR5 dic5 PE5
      exact hP9.out
    · rw [show T.rds.isEmpty = false by cases hq : T.rds with | nil => exact absurd hq hne | cons a l => rfl]
      generalize hl8 : T.cells 144 47 ++ ((R0, W.listOf rvs3.toArray rn3) :: (dE, eo) :: (sS.heap.objs.size + 1, okc3) :: (te3 ++ rest)) = led8 at N24 s22 hx7 hdx7
      walk_at "go"
      rename Fr _ _ _ _ => F25
      rename News _ _ _ _ => N25
      (try dsimp only [List.append_nil])
      rw [← hl8] at N25 s22
      clear hl8
      refine ready_tells (S := T) (rest := (R0, W.listOf rvs3.toArray rn3) :: (dE, eo) :: (sS.heap.objs.size + 1, okc3) :: (te3 ++ rest)) B20 F25 X20 P20 rfl N25 s22 okw rw2 (by lia) hne (fun k hk => by rw [keys_pn1]; exact (hrk k hk).2) (by decide) (by exact Nat.le_of_ble_eq_true rfl) ?_
      intro h9 tk9 t9 nds9 rn9 t19 ok9 hg9 hk9 F26 N26 s26
      have hrv : StrsAre rvw T.rds := by
        have := okw.rds
        rw [rw2] at this
        exact this
      generalize hT9 : ({ T with nds := nds9, rdy := some (Dw, [], rn9), rds := [], npo := T.npo + (T.rds.length : Nat), t1 := t19 } : So) = T9 at ok9 N26 s26
      have a1 : T9.x = T.x := by rw [← hT9]
      have a2 : T9.rdy = some (Dw, [], rn9) := by rw [← hT9]
      have a3 : T9.nds.map Nd.pn = outG (T.nds.map Nd.pn) T.rds := by rw [← hT9]; exact hg9
      have a4 : T9.rds = [] := by rw [← hT9]
      have a5 : T9.npo = T.npo + (T.rds.length : Nat) := by rw [← hT9]
      have a6 : T9.nfi = T.nfi := by rw [← hT9]
      have a7 : T9.nds.map Nd.sk = T.nds.map Nd.sk := by rw [← hT9]; exact hk9
      clear F25 N25 hx7 hdx7 hT9 hg9 hk9
      have s27 := s26.perm permR
      have hxb : (T.x, instObj 144 T9.dx) ∈ T9.cells 144 47 := by rw [← a1]; exact .head _
      have hdxb : (T9.dx, dictOf (sorterEs T9.hs T9.tk T9.n2i (.ref Dw) (.int T9.npo T9.t1) (.int T9.nfi T9.t2)) T9.dn) ∈ T9.cells 144 47 := So.mem_dx1 a2
      walk_at "go"
      rename Fr _ _ _ _ => F27
      rename News _ _ _ _ => N270
      have N27 := fun q hq => N270 q (permR.mem_iff.mpr hq)
      clear N270 s26
      refine wpAny_For ?_
      walk_at "go"
      rename Fr _ _ _ _ => F28
      refine tupC (t := t9) (vs := rvw) (ep := 0) (W1R PySem.Challenge.rw_tv0044_01.row.prog w te3 (T9.cells 144 47 ++ (t9, tupOf rvw.toArray 0) :: (R0, W.listOf rvs3.toArray rn3) :: rest) rules (kvsE.map (·.1)) T.rds T.x dE R0 ra_1 wa nd sS.heap.objs.size t9 b) rfl PassesOwn.leaving ?lt F28 N27 ?l0 ?lturn ?ldone
      case lt =>
        intro i m l H
        cases H
        exact .tail _ (.tail _ (List.mem_append_right _ (List.mem_append_right _ (.head _))))
      case l0 =>
        exact .mk s27 hc3 hdE (by simp) dicE (fun q hq => hq) (by simpa using efE) (by walk_at "loc") (by walk_at "loc") (by walk_at "loc") (by walk_at "loc") (by walk_at "loc") (by walk_at "loc") (by walk_at "loc") (by walk_at "loc")
      case lturn =>
        clear F28 N27 s27 z1 z2 z3 z4 z5 z6 z7 dicE efE hdE hc3
        intro I i v m1 news1 h5 tk5 oI hv H hoff F15 N16
        refine hideS fun TT9 k9 => ?_
        refine park fun P9 k9 => ?_
        cases H with
        | @mk fE5 kvs5 eo5 okc5 v5 te5 s15 hc5 hdE hk5 dic5 sub5 ef5 g1 g2 g3 g4 g5 g6 g7 g8 =>
        refine k9 ?_
        clear k9 P9
        refine park fun P9 k9 => ?_
        obtain ⟨k, kt, rfl, hk⟩ := hrv.item i v hv
        have hil := (List.getElem?_eq_some_iff.mp hk).1
        obtain ⟨hkw, hkD, hkN, htk⟩ := rd_word hok kn hk
        have hk4 := (mem_words.mp hkw).2
        obtain ⟨_, hkv, aa, avs, an, rfl, haa, hav⟩ := hkv2 k hkw
        refine k9 ?_
        clear k9 P9
        have sI := s15.cons_ne (o := oI) hoff
        have hIo : I ≠ sS.heap.objs.size + 1 := (hoff _ (.head _)).symm
        have hId : I ≠ dE := (hoff _ (.tail _ (.head _))).symm
        have hr5 : ∀ q ∈ rest, q ∈ te5 ++ (T9.cells 144 47 ++ (t9, tupOf rvw.toArray 0) :: (R0, W.listOf rvs3.toArray rn3) :: rest) := fun q hq => List.mem_append_right _ (List.mem_append_right _ (.tail _ (.tail _ hq)))
        have hnd5 := hr5 _ mn
        have haa5 := hr5 _ haa
        have dicE : DicIn (te5 ++ (T9.cells 144 47 ++ (t9, tupOf rvw.toArray 0) :: (R0, W.listOf rvs3.toArray rn3) :: rest)) kvs5 fE5 := dic5.mono fun q hq => List.mem_append_left _ hq
        generalize hl4 : te5 ++ (T9.cells 144 47 ++ (t9, tupOf rvw.toArray 0) :: (R0, W.listOf rvs3.toArray rn3) :: rest) = led4 at s15 N16 sI hnd5 haa5 dicE hoff
        refine storeX_C F15 N16 (by exact rfl) (UpdF.tail hIo (UpdF.head (Sep.head s15))) hc5 ?_ rfl rfl
        intro h6 ob F18 N18 dob
        (try dsimp only at N18)
        clear F15 N16
        walk_at "go"
        rename Fr _ _ _ _ => F19
        rename News _ _ _ _ => N19
        have s17 : Sep ((I, oI) :: (sS.heap.objs.size + 1, ob) :: (dE, eo5) :: led4) := sI
        have hD5 : ∀ k ∈ kvsE.map (·.1) ++ T.rds.take i, k ∈ wordsTo 4 := fun x hx => by
          rcases List.mem_append.mp hx with hx | hx
          · exact kn_D hok kn x hx
          · exact (hrk x (List.mem_of_mem_take hx)).1
        have hnl := nexts_len hr3 hk4
        refine ends_tells B20 F19 X20 P20 rfl k kt aa avs an (nextsOf rules k) dE eo5 kvs5 fE5 _ N19 s17 (.tail _ (.tail _ (.tail _ haa5))) hav (.tail _ (.tail _ (.head _))) hdE loE (dicE.mono fun q hq => .tail _ (.tail _ (.tail _ hq)))
          (fun x hx => (mem_words.mp (step_closed hok hkw hx)).1) (by lia) (fun x xs hx => Nat.le_trans (ef5.small hok hD5 x xs hx) (by decide)) (by decide) (by exact Nat.le_of_ble_eq_true rfl) ?_
        intro h7 tk7 t7 evs en hev F20 N20 s20
        clear F19 N19
        have hkl : kvs5.length ≤ sizeLine := seven_le (by rw [← List.length_map (f := (·.1)), hk5, List.length_append, List.length_take]; have := (kn_nod hok kn nodE).2; rw [List.length_append] at this; lia)
        have hkn : k ∉ kvs5.map (·.1) := by rw [hk5]; exact hkD
        have n1 : t7 ≠ dE := (Sep.head s20 _ (.tail _ (.tail _ (.head _)))).symm
        have n2 : sS.heap.objs.size + 1 ≠ dE := (Sep.head s17.tail _ (.head _)).symm
        walk_at "go"
        rename Fr _ _ _ _ => F21
        rename News _ _ _ _ => N21
        rename_i h21 o21 hd21
        rw [upd_cons, if_neg n2, upd_hd s17.tail.tail] at N21
        rw [stored_new (valueAt_new hkn)] at hd21
        have s21 : Sep ((t7, W.listOf evs.toArray en) :: (I, oI) :: (sS.heap.objs.size + 1, ob) :: (dE, o21) :: led4) := s20
        refine k9 _ _ ?_
        dsimp only [PostG]
        subst hl4
        have s27 := s21.perm rot4
        refine EndG.intro F21 (fun q hq => N21 q (rot4.mem_iff.mpr hq)) (Sep.head s27) (.mk (te := (t7, W.listOf evs.toArray en) :: te5) s27.tail dob hd21 ?hk ((dic5.mono fun q hq => .tail _ hq).snoc hkn ⟨t7, evs, en, rfl, .head _, hev⟩) (fun q hq => .tail _ (sub5 q hq)) ?ef g1 g2 g3 g4 g5 g6 g7 g8)
        case hk => rw [List.map_append, hk5, htk, List.append_assoc]; rfl
        case ef => rw [htk, ← List.append_assoc]; exact ef5.snoc hkD hkN
      case ldone =>
        intro m1 news1 h5 tk5 H F15 N16
        refine park fun P9 k9 => ?_
        cases H with
        | @mk fE5 kvs5 eo5 okc5 v5 te5 s15 hc5 hdE5 hk5 dic5 sub5 ef5 g1 g2 g3 g4 g5 g6 g7 g8 =>
        refine k9 ?_
        clear k9 P9
        dsimp only
        clear F28 N27 s27 z1 z2 z3 z4 z5 z6 z7 dicE efE hdE hc3
        rw [hrv.length, List.take_length] at hk5 ef5
        have s16 := s15.perm permS
        have N17 := fun q hq => N16 q (permS.mem_iff.mpr hq)
        clear s15 N16
        have ht : (t9, tupOf rvw.toArray 0) ∈ T9.cells 144 47 ++ ((sS.heap.objs.size + 1, okc5) :: (dE, eo5) :: (te5 ++ ((t9, tupOf rvw.toArray 0) :: rest))) := List.mem_append_right _ (.tail _ (.tail _ (List.mem_append_right _ (.head _))))
        have hx9 := List.mem_append_left ((sS.heap.objs.size + 1, okc5) :: (dE, eo5) :: (te5 ++ ((t9, tupOf rvw.toArray 0) :: rest))) hxb
        have hdx9 := List.mem_append_left ((sS.heap.objs.size + 1, okc5) :: (dE, eo5) :: (te5 ++ ((t9, tupOf rvw.toArray 0) :: rest))) hdxb
        have hrz : rvs3.length ≤ 1000000 := by
          have := PE.length
          have := (kn_nod hok kn nodE).2
          rw [List.length_append] at this
          lia
        generalize hl9 : T9.cells 144 47 ++ ((sS.heap.objs.size + 1, okc5) :: (dE, eo5) :: (te5 ++ ((t9, tupOf rvw.toArray 0) :: rest))) = led9 at s16 N17 ht hx9 hdx9
        walk_at "go"
        rename Fr _ _ _ _ => F29
        rename News _ _ _ _ => N29
        refine sortedT_M F29 N29 (.tail _ ht) hrv (by have := hrv.length; lia) ?_
        intro Ds vs2 ss2 cc2 h30 F30 N30 lt30 hS2 hperm hsort
        clear F29 N29
        have s30 : Sep ((Ds, W.listOf vs2.toArray cc2) :: (R0, W.listOf rvs3.toArray rn3) :: led9) := s16.cons lt30
        have n3 : Ds ≠ R0 := (Nat.ne_of_lt (lt30 _ (.head _))).symm
        walk_at "go"
        rename Fr _ _ _ _ => F31
        rename News _ _ _ _ => N31
        rw [upd_cons, if_neg n3, upd_hd s16] at N31
        have s31 : Sep ((Ds, W.listOf vs2.toArray cc2) :: (R0, W.listOf (rvs3 ++ [Value.ref Ds]).toArray (rn3 + 1)) :: led9) := s30
        refine MethodStar_ ?_ (by rfl)
        walk_at "go"
        rename Fr _ _ _ _ => F32
        rename News _ _ _ _ => N32
        rename_i qm _ l32
        have s32 : Sep ((qm, methodObj (Value.ref 127) (Value.ref T.x)) :: (Ds, W.listOf vs2.toArray cc2) :: (R0, W.listOf (rvs3 ++ [Value.ref Ds]).toArray (rn3 + 1)) :: led9) := s31.cons fun q hq => by
          rcases List.mem_cons.mp hq with rfl | hq
          · exact l32.1
          · rcases List.mem_cons.mp hq with rfl | hq
            · exact l32.2.1
            · exact ktn_ltOf l32.2.2 q hq
        clear l32
        refine callWith_SL (K := Mine.hd.heap_1 w.params) (g := 127) (self := .ref T.x) ?hf ?hh rfl
        case hf => k_is
        walk_at "go"
        refine star_seq F32 N32 (.tail _ (.tail _ (.tail _ ht))) rfl rfl (.inr rfl) (ws := rvw) (by simp) (seven_le (by have := hrv.length; simp; lia)) ?_
        intro h33 F33 N33
        clear F32 N32
        walk_at "go"
        refine park fun P9 k9 => ?_
        obtain ⟨ks1, ks2, ks3⟩ := kn_small hok hr3 kn
        refine k9 ?_
        clear k9 P9
        subst hl9
        have s33 := s32.perm permT
        refine park fun P9 k9 => ?_
        obtain ⟨don, kn9⟩ := Kn.round (gr01 hok) kn
        refine k9 ?_
        clear k9 P9
        refine done_star (S := T9) B20 F33 X20 P20 rfl _ (fun q hq => N33 q (permT.mem_iff.mpr hq)) s33 ok9 a2 rvw T.rds hrv (by lia) (by rw [a4]; exact Nat.zero_le _) ?hsz ?hsu ?hcl (by rw [a3, a4]; exact don) (by decide) (by exact Nat.le_of_ble_eq_true rfl) ?zret qm (by rw [a1]; exact (N33 _ (.head _)).1)
        case hsz => rw [sk_len a7]; rw [List.length_map] at ks1; lia
        case hsu =>
          intro v hv
          refine park fun P9 k9 => ?_
          obtain ⟨v0, hv0, he⟩ := sk_mem a7.symm hv
          obtain ⟨_, h2, _⟩ := sk_eq he
          refine k9 ?_
          clear k9 P9
          rw [← h2]
          exact Nat.le_trans (ks2 v0.pn (List.mem_map.mpr ⟨v0, hv0, rfl⟩)) (by decide)
        case hcl =>
          intro v hv c hc
          refine park fun P9 k9 => ?_
          obtain ⟨v0, hv0, he⟩ := sk_mem a7.symm hv
          obtain ⟨_, h2, _⟩ := sk_eq he
          refine k9 ?_
          clear k9 P9
          rw [sk_keys a7, keys_pn1]
          exact ks3 v0.pn (List.mem_map.mpr ⟨v0, hv0, rfl⟩) c (by show c ∈ v0.succ; rw [h2]; exact hc)
        case zret =>
          intro h34 tk34 nds34 rvs34 rn34 rds34 t34 ok34 hg34 hk34 F34 N34 s34
          clear F33 N33 s33 s32 s31 s30
          rw [a3, a4] at hg34
          have e1 := congrArg Prod.fst hg34
          have e2 := congrArg Prod.snd hg34
          dsimp only at e1 e2
          rw [← e1, ← e2, ← hk5] at kn9
          have hlen : (kvs5.map (·.1)).length = (kvsE.map (·.1)).length + T.rds.length := by rw [hk5, List.length_append]
          have hpos : 0 < T.rds.length := List.length_pos_iff.mpr hne
          refine park fun P9 k9 => ?_
          obtain ⟨nod5, len5⟩ := kn_nod hok kn nodE
          refine k9 ?_
          clear k9 P9
          rw [← hk5] at nod5 len5
          walk_at "go"
          refine again (n - 1) _ (by lia) (.mk (T := { T9 with nds := nds34, rdy := some (Dw, rvs34, rn34), rds := rds34, nfi := T9.nfi + (T.rds.length : Nat), t2 := t34 }) (rvs := rvs3 ++ [Value.ref Ds]) (rn := rn3 + 1) (te := (Ds, W.listOf vs2.toArray cc2) :: te5) (xss := xss ++ [ss2]) F34 (fun q hq => N34 q ?mem) ?sep ok34 rfl (a1.trans rw1) hc5 kn9 ?np hdE5 nod5 ?flat (dic5.mono fun q hq => .tail _ hq) (by rw [hk5]; exact ef5)
            (RE.snoc memE ?ne hsort (hperm.trans (rd_row hok kn))) ?par ?xl (by lia) (by walk_at "loc") (by walk_at "loc") (by walk_at "loc") (by rw [← rw1]; walk_at "loc") (by walk_at "loc") (by walk_at "loc") (by walk_at "loc"))
          case mem =>
            rcases List.mem_append.mp hq with hq | hq
            · exact List.mem_append_left _ hq
            · exact List.mem_append_right _ (.tail _ (.tail _ hq))
          case sep => exact s34.sub ((List.Sublist.refl _).append (.cons _ (List.sublist_cons_self _ _)))
          case np => show T9.npo = T9.nfi + _; rw [a5, a6, np]
          case flat =>
            intro k
            rw [hk5, List.mem_append, memE, List.flatten_append, List.mem_append]
            simp [hperm.mem_iff]
          case ne => exact fun e => hne (by rw [e] at hperm; exact hperm.symm.eq_nil)
          case par => exact paired_append (lsts_mono PE fun q hq => .tail _ (sub5 q hq)) (.cons ⟨Ds, vs2, cc2, rfl, .head _, hS2⟩ .nil)
          case xl => rw [List.length_append, List.length_singleton]; lia⟩
end
section
local macro_rules | `(tactic| walk_at "nothing") => `(tactic| fail)
theorem anew_W1E_01 : True := by w_top off; trivial
local macro_rules | `(tactic| walk_at "stop") => ln "q" "wpAny _ _ (compareOp _ (Value.ref _) (Value.ref _)) _ _ _"
local macro_rules | `(tactic| walk_at "stop") => ln "q" "wpAny _ _ (compareOp _ (Value.bool _) (Value.bool _)) _ _ _"
local macro_rules | `(tactic| walk_at "stop") => ln "q" "wpAny _ _ (compareOp CmpOp.Lt (Value.int _ _) (Value.int _ _)) _ _ _"
local macro_rules | `(tactic| walk_at "call builtin:len") => ln "hdw" "(call (Value.builtin \"len\") [Value.ref _])|kda_len (knd := PySem.strKind _ _) ?k1 ?k2 ?k3 ?k4 ?k5 ?_|k1a k2m k3s k4s k5s|"
noncomputable def law1E : (P : Prop) ×' (Cp P → law1D.1) := ⟨_, fun hP9 => by
  intro w s₀ sS mg mb G fa o ho hg w_3 w_5 hL hr hl2 w_8 w1 o2 qk ek c2 h1 ra_1 rvs rules rn te hok hr3 h' tk h3 wa wvs wn hw3 nd no lo4 h41 m4 led led5 x' d' g' L' h'_3 tk_2 d'_1 h'_4 o' h'_5 h'_6 h'_7 h'_8 F' N' S m1 h5 okc no2 v0 kvs hno T2 rest h20 g20 tk20 b h B20 P20 hfr X0 X20 dE loE R0 n h3_1 tk3_1 m3 fE kvsE eo okc3 v3 rvs3 rn3 xss hc3 hdE nodE memE efE RE z1 z2 z3 z5 z6 z7 h8 tk8 F24 hrow kD led25 N25 s25 mn5 mw5 mr5 hkv5 hR5 dic5 PE5
  revert X0 X20; k_fill; intro X0 X20
  walk_at "go"
  rename Fr _ _ _ _ => F26
  rename News _ _ _ _ => N26
  refine rounds_tells B20 F26 X20 P20 rfl wa wvs wn (wordsTo 4) nd no2 kvs (nextsOf rules) _ N26 s25 (.tail _ (.tail _ (.tail _ (.tail _ mw5)))) hw3 (.tail _ (.tail _ (.tail _ (.tail _ mn5)))) hno lo4
    (fun x hx => by obtain ⟨v, h1, h2⟩ := hkv5 x hx; exact ⟨v, h1, h2.mono fun q hq => .tail _ (.tail _ (.tail _ (.tail _ hq)))⟩) (fun x hx => (mem_words.mp hx).1) words4_nod (by rw [words4_len]; decide) (fun x hx => Nat.le_trans (nexts_len hr3 (mem_words.mp hx).2) (by decide)) (fun x hx q hq => step_closed hok hx hq) (by decide) (by exact Nat.le_of_ble_eq_true rfl) ?_
  intro h27 tk27 t27 rvs27 n27 yss te27 RY hry PY F27 N27 s27
  clear F26 N26
  walk_at "go"
  have hxy : xss = yss := RE.one RY (by rw [← rowOf_congr memE]; exact hrow) hry
  subst hxy
  have hab5 : ∀ xs ∈ xss, ∀ x ∈ xs, abS x := fun xs hxs x hx => (mem_words.mp (kD x ((memE x).mpr (List.mem_flatten.mpr ⟨xs, hxs, hx⟩)))).1
  refine neSS_M (c := true) N27 (.tail _ (List.mem_append_right _ (.head _))) (.head _) (lsts_mono PE5 fun q hq => .tail _ (List.mem_append_right _ (.tail _ (.tail _ (.tail _ (.tail _ hq)))))) (lsts_mono PY fun q hq => .tail _ (List.mem_append_left _ hq)) hab5 hab5 (decide_eq_true rfl) (by exact Nat.le_of_ble_eq_true rfl) ?_
  have N28 : News g20 sS.heap.objs.size h27 ((R0, W.listOf rvs3.toArray rn3) :: (dE, eo) :: (sS.heap.objs.size + 1, okc3) :: (sS.heap.objs.size + 1 + 1, o2) :: led25) := fun q hq => N27 q (.tail _ (List.mem_append_right _ hq))
  clear N27 s27 PY RY hry
  have hw31 : wvs.length ≤ 1000000 := by rw [hw3.length, words4_len]; decide
  have hE31 : (kvsE.map (·.1)).length ≤ 31 := by rw [← words4_len]; exact List.Nodup.length_le_of_subset nodE fun k hk => kD k hk
  have hE32 : kvsE.length ≤ 16777216 := by rw [List.length_map] at hE31; lia
  walk_at "go"
  have hb : decide ((kvsE.length : Int) < (wvs.length : Int)) = b := by
    rw [hw3.length, ← List.length_map (as := kvsE) (f := (·.1))]
    rcases hfr with ⟨rfl, hfree⟩ | ⟨rfl, told, ring, hkey⟩
    · have := free_all words4_nod hrow hfree (fun x => kys01 hok) fun w hw q hq => ⟨step_closed hok hw hq, (suc01 hok).mpr ⟨hw, hq⟩⟩
      exact decide_eq_false (by lia)
    · have := ring_less RE memE nodE ring (fun x hx => (kys01 hok).mp (hkey x hx)) fun a ha b hb => ((suc01 hok).mp hb).2
      exact decide_eq_true (by lia)
  refine lt_int ?_
  rw [hb]
  refine ne_bool ?_
  rw [bne_self_eq_false]
  clear hb hfr hw31
  walk_at "go"
  rename Fr _ _ _ _ => F30
  rename News _ _ _ _ => N30
  rename_i bl _ l30 _
  have s30 : Sep ((bl, W.listOf ([] : List Value).toArray 0) :: (R0, W.listOf rvs3.toArray rn3) :: (dE, eo) :: (sS.heap.objs.size + 1, okc3) :: (sS.heap.objs.size + 1 + 1, o2) :: led25) := s25.cons fun q hq => by
    rcases List.mem_cons.mp hq with rfl | hq
    · exact l30.1
    · rcases List.mem_cons.mp hq with rfl | hq
      · exact l30.2.1
      · rcases List.mem_cons.mp hq with rfl | hq
        · exact l30.2.2.1
        · rcases List.mem_cons.mp hq with rfl | hq
          · exact l30.2.2.2.1
          · exact ktn_ltOf l30.2.2.2.2 q hq
  refine park fun P9 k9 => ?_
  obtain ⟨m30, F31, y1, y3, y6, y7, y8⟩ : ∃ m30, Fr _ _ _ m30 ∧ m30 (Str.ofString "rules") = some (.ref ra_1) ∧ m30 (Str.ofString "nexts") = some (.ref nd) ∧ m30 (Str.ofString "ends") = some (.ref dE) ∧ m30 (Str.ofString "rounds") = some (.ref R0) ∧ m30 (Str.ofString "bad") = some (.ref bl) :=
    ⟨_, F30, by walk_at "loc", by walk_at "loc", by walk_at "loc", by walk_at "loc", by walk_at "loc"⟩
  refine k9 ?_
  clear k9 P9
  clear F30 l30 s25 z1 z2 z3 z5 z6 z7 mw5
  rename_i zz61 zz202 zz204 zz205
  clear wvs wn hw3 lo4 h3_1 tk3_1 m3 nodE h8 tk8 h27 tk27 t27 rvs27 n27 te27 hab5 hE31 hE32 zz202 zz204
  revert w s₀ sS mg mb G fa o ho hg w_3 w_5 hL hr hl2 w_8 w1 o2 qk ek c2 h1 ra_1 rvs rules rn te hok hr3 h' zz61 h3 wa nd no h41 m4 led led5 x' d' g' L' h'_3 tk_2 d'_1 h'_4 o' h'_5 h'_6 h'_7 h'_8 F' N' S m1 h5 okc no2 v0 kvs hno T2 rest h20 g20 tk20 b h B20 P20 dE loE R0 n fE kvsE eo okc3 v3 rvs3 rn3 xss hc3 hdE memE efE RE hrow kD led25 mn5 mr5 hkv5 hR5 dic5 PE5 X0 X20 bl zz205 N30 tk s30 m30 F31 y1 y3 y6 y7 y8
  exact hP9.out⟩
end
section
theorem anew_W1F_01 : True := by w_top off; trivial
local macro_rules | `(tactic| walk_at "stop") => ln "q" "wpAny _ _ (call (Value.builtin \"dict.get\") [_, _, _]) _ _ _"
local macro_rules | `(tactic| walk_at "stop") => ln "q" "PyProof.Rows.LCp.SrcLP _ _ _ _ _ _ _ _ _ _ _ _ _ _ _"
theorem permV {α : Type} {t d b r e o c : α} {te l : List α} : (t :: (te ++ d :: b :: r :: e :: o :: c :: l)).Perm (o :: b :: c :: (t :: (te ++ d :: r :: e :: l))) := by
  classical
  exact List.perm_iff_count.mpr fun x => by simp only [List.count_append, List.count_cons]; lia
/-- the laps that are told -/
inductive W1L (led : List (Addr × Obj)) (rules : List (Str × Str)) (fE : Str → Option (List Str)) (bl a nd dE R0 : Addr) (o2 : Obj) (lap : List (Str × Str)) (i : Nat) (m : Str → Option Value) : List (Addr × Obj) → Prop
  | mk {okc : Obj} {v0 : Option Value} {bvs : List Value} {bn : Nat} (S : Sep ((a + 1, okc) :: (bl, W.listOf bvs.toArray bn) :: (a + 1 + 1, o2) :: led)) (hc : okc.data = .cell v0) (hb : StrsAre bvs (((lap.take i).map (·.1)).filter fun u => decide (1 < ((fE u).getD []).length))) (bz : bvs.length ≤ i)
      (u3 : m (Str.ofString "nexts") = some (.ref nd)) (u6 : m (Str.ofString "ends") = some (.ref dE)) (u7 : m (Str.ofString "rounds") = some (.ref R0)) (u8 : m (Str.ofString "bad") = some (.ref bl)) : W1L led rules fE bl a nd dE R0 o2 lap i m ((a + 1, okc) :: (bl, W.listOf bvs.toArray bn) :: (a + 1 + 1, o2) :: led)
theorem lapped_small {rules : List (Str × Str)} (hr : ∀ lr ∈ rules, RuleOk lr) (h3 : rules.length ≤ 3) : (lappedOf (rules.map (·.1))).length ≤ 54 := by
  have hl : (rules.map (·.1)).length ≤ 3 := by rw [List.length_map]; exact h3
  have hx : ∀ x ∈ rules.map (·.1), x.length ≤ 3 := fun x hx => by
    refine park fun P9 k9 => ?_
    obtain ⟨lr, hlr, rfl⟩ := List.mem_map.mp hx
    refine k9 ?_
    clear k9 P9
    exact (hr lr hlr).l3
  unfold lappedOf
  have h1 := flat_len (fun one => (rules.map (·.1)).flatMap fun other => lapPairs one other) 18 (rules.map (·.1)) fun one ho => by
    have := flat_len (fun other => lapPairs one other) 6 (rules.map (·.1)) fun other hoo => by
      have := lapPairs_len one other
      have := hx one ho
      have := hx other hoo
      lia
    lia
  lia
noncomputable def law1F : (P : Prop) ×' (Cp P → law1E.1) := ⟨_, fun hP9 => by
  intro w s₀ sS mg mb G fa o ho hg w_3 w_5 hL hr hl2 w_8 w1 o2 qk ek c2 h1 ra_1 rvs rules rn te hok hr3 h' tk h3 wa nd no h41 m4 led led5 x' d' g' L' h'_3 tk_2 d'_1 h'_4 o' h'_5 h'_6 h'_7 h'_8 F' N' S m1 h5 okc no2 v0 kvs hno T2 rest h20 g20 tk20 b h B20 P20 dE loE R0 n fE kvsE eo okc3 v3 rvs3 rn3 xss hc3 hdE memE efE RE hrow kD led25 mn5 mr5 hkv5 hR5 dic5 PE5 X0 X20 bl h'_16 N30 tk_7 s30 m30 F31 y1 y3 y6 y7 y8
  revert X0 X20; k_fill; intro X0 X20
  refine wpAny_For ?_
  walk_at "go"
  refine LCp.ListComp_P (cl := []) F31 ?ihc ?ic ?ik ?inn ?ix ?ix2 ?ixx ?src ?is
  case ihc => with_unfolding_all rfl
  case ic => decide
  case ik => exact rfl
  case inn => decide
  case ix => exact rfl
  case ix2 => exact rfl
  case ixx => decide
  case is => intro _; with_unfolding_all rfl
  walk_at "go"
  rename Fr _ _ _ _ => F32
  rename News _ _ _ _ => N32
  refine firsts_src F32 N32 (.tail _ (.tail _ (.tail _ (.tail _ (.tail _ mr5))))) (paired_left (fun _ _ h => h.mono fun q hq => .tail _ (.tail _ (.tail _ (.tail _ (.tail _ hq))))) hR5) (seven_le (by have := hR5.length; lia)) rfl (fun _ => rfl) (fun _ => rfl) (by decide) ?_
  intro ld h33 tk33 ys33 hy33 F33 N33 off33
  clear F32 N32
  have s33 := s30.cons_ne (o := W.listOf ys33.toArray ys33.length) off33
  walk_at "go"
  rename Fr _ _ _ _ => F34
  rename News _ _ _ _ => N34
  refine lapped_tells B20 F34 X20 P20 rfl ld ys33 ys33.length (rules.map (·.1)) _ N34 s33 (.head _) hy33 (by rw [List.length_map]; exact hr3) ?hw (by decide) (by exact Nat.le_of_ble_eq_true rfl) ?_
  case hw =>
    intro x hx
    refine park fun P9 k9 => ?_
    obtain ⟨lr, hlr, rfl⟩ := List.mem_map.mp hx
    refine k9 ?_
    clear k9 P9
    exact (hok lr hlr).l3
  intro h35 tk35 lt lvs ln te35 hP35 F35 N35 s35
  clear F34 N34
  walk_at "go"
  have s36 := s35.perm permV
  have N36 : News g20 sS.heap.objs.size h35 ((sS.heap.objs.size + 1, okc3) :: (bl, W.listOf ([] : List Value).toArray 0) :: (sS.heap.objs.size + 1 + 1, o2) :: ((lt, W.listOf lvs.toArray ln) :: (te35 ++ (ld, W.listOf ys33.toArray ys33.length) :: (R0, W.listOf rvs3.toArray rn3) :: (dE, eo) :: led25))) := fun q hq => N35 q (permV.mem_iff.mpr hq)
  have hin : ∀ q ∈ led25, q ∈ (lt, W.listOf lvs.toArray ln) :: (te35 ++ (ld, W.listOf ys33.toArray ys33.length) :: (R0, W.listOf rvs3.toArray rn3) :: (dE, eo) :: led25) := fun q hq => .tail _ (List.mem_append_right _ (.tail _ (.tail _ (.tail _ hq))))
  have mlt : (lt, W.listOf lvs.toArray ln) ∈ (lt, W.listOf lvs.toArray ln) :: (te35 ++ (ld, W.listOf ys33.toArray ys33.length) :: (R0, W.listOf rvs3.toArray rn3) :: (dE, eo) :: led25) := .head _
  have mR0 : (R0, W.listOf rvs3.toArray rn3) ∈ (lt, W.listOf lvs.toArray ln) :: (te35 ++ (ld, W.listOf ys33.toArray ys33.length) :: (R0, W.listOf rvs3.toArray rn3) :: (dE, eo) :: led25) := .tail _ (List.mem_append_right _ (.tail _ (.head _)))
  have mdE : (dE, eo) ∈ (lt, W.listOf lvs.toArray ln) :: (te35 ++ (ld, W.listOf ys33.toArray ys33.length) :: (R0, W.listOf rvs3.toArray rn3) :: (dE, eo) :: led25) := .tail _ (List.mem_append_right _ (.tail _ (.tail _ (.head _))))
  have mn6 := hin _ mn5
  have hkv6 : ∀ x ∈ wordsTo 4, ∃ v, valueAt kvs x = some v ∧ LstIn ((lt, W.listOf lvs.toArray ln) :: (te35 ++ (ld, W.listOf ys33.toArray ys33.length) :: (R0, W.listOf rvs3.toArray rn3) :: (dE, eo) :: led25)) v (nextsOf rules x) := fun x hx => by
    refine park fun P9 k9 => ?_
    obtain ⟨v, h1, h2⟩ := hkv5 x hx
    refine k9 ?_
    clear k9 P9
    exact ⟨v, h1, h2.mono hin⟩
  have dic6 := dic5.mono hin
  have PE6 := lsts_mono PE5 hin
  have hP6 := paired_left (fun (_ : Value) (_ : Str × Str) h => RuleIn.mono h (l' := (lt, W.listOf lvs.toArray ln) :: (te35 ++ (ld, W.listOf ys33.toArray ys33.length) :: (R0, W.listOf rvs3.toArray rn3) :: (dE, eo) :: led25)) fun q hq => .tail _ (List.mem_append_left _ hq)) hP35
  generalize (lt, W.listOf lvs.toArray ln) :: (te35 ++ (ld, W.listOf ys33.toArray ys33.length) :: (R0, W.listOf rvs3.toArray rn3) :: (dE, eo) :: led25) = led35 at N36 s36 hin mlt mR0 mdE mn6 hkv6 dic6 PE6 hP6
  clear N35 s35 hin mn5 mr5 hkv5 hR5 dic5 PE5 hP35 s33 s30
  refine pairC (vs := lvs) (ep := ln) (W1L led35 rules fE bl sS.heap.objs.size nd dE R0 o2 (lappedOf (rules.map (·.1)))) rfl PassesOwn.leaving ?lt ?ltup F35 N36 ?l0 ?lturn ?ldone
  case lt =>
    intro i m l H
    cases H
    exact .tail _ (.tail _ (.tail _ mlt))
  case ltup =>
    intro i m l H j v hj
    refine park fun P9 k9 => ?_
    obtain ⟨lr, _, t1, t2, a7, n7, e7, hm7⟩ := paired_get hP6 hj
    refine k9 ?_
    clear k9 P9
    cases H
    exact ⟨_, _, a7, n7, e7, .tail _ (.tail _ (.tail _ hm7))⟩
  case l0 => exact .mk s36 hc3 .nil (Nat.zero_le _) y3 y6 y7 y8
  case lturn =>
    clear F35 N36 s36 y1 y3 y6 y7 y8 hc3
    intro I i v w0 w1 m1 news1 h36 tk36 oI hv hpv H hoff F36 N36
    refine hideP fun T9 k9 => ?_
    refine park fun P9 k9 => ?_
    obtain ⟨lr, hlr, hru⟩ := paired_get hP6 hv
    refine k9 ?_
    clear k9 P9
    refine park fun P9 k9 => ?_
    cases H with
    | @mk okc v0 bvs bn s37 hc hb bz u3 u6 u7 u8 =>
    refine k9 ?_
    clear k9 P9
    refine park fun P9 k9 => ?_
    obtain ⟨t1, t2, hp1⟩ := hru
    obtain ⟨rfl, rfl⟩ := pairIn_one s37 (show PairIn _ v (.str lr.1 t1) (.str lr.2 t2) from by obtain ⟨a7, n7, e7, hm7⟩ := hp1; exact ⟨a7, n7, e7, .tail _ (.tail _ (.tail _ hm7))⟩) hpv
    refine k9 ?_
    clear k9 P9
    have hlm := List.mem_of_getElem? hlr
    have htail := lapped_ends hok (u := lr.1) (t := lr.2) hlm
    have sI := s37.cons_ne (o := oI) hoff
    have hIo : I ≠ sS.heap.objs.size + 1 := (hoff _ (.head _)).symm
    refine storeX_C F36 N36 (by exact rfl) (UpdF.tail hIo (UpdF.head (Sep.head s37))) hc ?_ rfl rfl
    intro h38 ob F38 N38 dob
    (try dsimp only at N38)
    clear F36 N36
    walk_at "go"
    rename Fr _ _ _ _ => F39
    rename News _ _ _ _ => N39
    rename_i _ d0 _ l0d
    refine kdg_get2 (knd := PySem.strKind _ _) N39 (.tail _ (.tail _ (.tail _ (.tail _ (.tail _ mdE))))) hdE loE (strKind_is _ _ _ _) _ rfl ?_
    refine park fun P9 k9 => ?_
    obtain ⟨b0, bvs0, bn0, hb1, hb2, hb3⟩ := DicIn.get (l := (d0, W.listOf ([] : List Value).toArray 0) :: (I, oI) :: (sS.heap.objs.size + 1, ob) :: (bl, W.listOf bvs.toArray bn) :: (sS.heap.objs.size + 1 + 1, o2) :: led35)
      (dic6.mono fun q hq => .tail _ (.tail _ (.tail _ (.tail _ (.tail _ hq))))) (k := lr.1) (d := .ref d0) ⟨d0, [], 0, rfl, .head _, .nil⟩
    refine k9 ?_
    clear k9 P9
    rw [hb1]
    have hb4 := hb3.length
    have hfo : ((fE lr.1).getD []).length ≤ 31 := by
      cases e : fE lr.1 with
      | none => exact Nat.zero_le _
      | some xs => exact efE.small hok kD lr.1 xs e
    have hb5 : bvs0.length ≤ 1000000 := by lia
    have hil := (List.getElem?_eq_some_iff.mp hlr).1
    have hbz : bvs.length ≤ 1000000 := by have := lapped_small hok hr3; lia
    have s39 : Sep ((I, oI) :: (sS.heap.objs.size + 1, ob) :: (bl, W.listOf bvs.toArray bn) :: (sS.heap.objs.size + 1 + 1, o2) :: led35) := sI
    have s40 : Sep ((d0, W.listOf ([] : List Value).toArray 0) :: (I, oI) :: (sS.heap.objs.size + 1, ob) :: (bl, W.listOf bvs.toArray bn) :: (sS.heap.objs.size + 1 + 1, o2) :: led35) := s39.cons fun q hq => by
      rcases List.mem_cons.mp hq with rfl | hq
      · exact l0d.1
      · rcases List.mem_cons.mp hq with rfl | hq
        · exact l0d.2.1
        · rcases List.mem_cons.mp hq with rfl | hq
          · exact l0d.2.2.1
          · rcases List.mem_cons.mp hq with rfl | hq
            · exact l0d.2.2.2.1
            · exact ktn_ltOf l0d.2.2.2.2 q hq
    have n1 : d0 ≠ bl := (Sep.head s40 _ (.tail _ (.tail _ (.head _)))).symm
    have n2 : I ≠ bl := (Sep.head s39 _ (.tail _ (.head _))).symm
    have n3 : sS.heap.objs.size + 1 ≠ bl := (Sep.head s39.tail _ (.head _)).symm
    clear l0d
    dsimp only
    walk_at "go"
    · rename Fr _ _ _ _ => F41
      rename News _ _ _ _ => N41
      rename 1 < _ => hgt
      rw [upd_cons, if_neg n1, upd_cons, if_neg n2, upd_cons, if_neg n3, upd_hd s39.tail.tail] at N41
      have s42 : Sep ((I, oI) :: (sS.heap.objs.size + 1, ob) :: (bl, W.listOf (bvs ++ [Value.str lr.1 t1]).toArray (bn + 1)) :: (sS.heap.objs.size + 1 + 1, o2) :: led35) := s39
      refine k9 _ _ ?_
      dsimp only [PostG]
      refine EndG.intro F41 (fun q hq => N41 q (.tail _ hq)) (Sep.head s42) (.mk s42.tail dob ?_ (by rw [List.length_append, List.length_singleton]; lia) (by walk_at "loc") (by walk_at "loc") (by walk_at "loc") (by walk_at "loc"))
      rw [List.take_add_one, hlr, List.map_append, List.filter_append]
      refine StrsAre.append' hb ?_
      show StrsAre _ (List.filter _ [lr.1])
      rw [List.filter_cons_of_pos (by exact decide_eq_true (by lia))]
      exact .cons _ _ .nil
    · rename ¬ (1 < _) => hgt
      refine k9 _ _ ?_
      dsimp only [PostG]
      refine EndG.intro F39 (fun q hq => N39 q (.tail _ hq)) (Sep.head s39) (.mk s39.tail dob ?_ (by lia) (by walk_at "loc") (by walk_at "loc") (by walk_at "loc") (by walk_at "loc"))
      rw [List.take_add_one, hlr, List.map_append, List.filter_append]
      show StrsAre _ (_ ++ List.filter _ [lr.1])
      rw [List.filter_cons_of_neg (by rw [decide_eq_true_iff]; lia), List.filter_nil, List.append_nil]
      exact hb
  case ldone =>
    intro m1 news1 h36 tk36 H F37 N37
    refine park fun P9 k9 => ?_
    cases H with
    | @mk okc v0 bvs bn s37 hc hb bz u3 u6 u7 u8 =>
    refine k9 ?_
    clear k9 P9
    dsimp only
    rw [hP6.length, List.take_length] at hb
    have hbad : StrsAre bvs (badOf rules fE) := hb
    have hbz : bvs.length ≤ 54 := by have := lapped_small hok hr3; have := hP6.length; lia
    clear hb bz F35 N36 s36 y1 y3 y6 y7 y8 hc3 hP6 mlt
    rename_i zz113 zz118 zz120
    clear ho hr w_8 w1 rvs rn te h3 loE okc3 v3 kD led25 h'_16 tk_7 m30 h33 tk33 ys33 hy33 off33 h35 tk35 lvs ln te35
    revert w s₀ sS mg mb G fa o hg w_3 w_5 hL hl2 o2 qk ek c2 h1 ra_1 rules hok hr3 h' tk wa nd no h41 m4 led led5 x' d' g' L' h'_3 tk_2 d'_1 h'_4 o' h'_5 h'_6 h'_7 h'_8 F' N' S zz113 h5 zz118 no2 zz120 kvs hno T2 rest h20 g20 tk20 b h B20 P20 dE R0 n fE kvsE eo rvs3 rn3 xss hdE memE efE RE hrow bl X0 X20 ld lt led35 mR0 mdE mn6 hkv6 dic6 PE6 m1 h36 tk36 F37 okc v0 bvs bn s37 hc u3 u6 u7 u8 N37 hbad hbz
    exact hP9.out⟩
end
section
theorem anew_W1G_01 : True := by w_top off; trivial
local macro_rules | `(tactic| walk_at "stop") => ln "q" "wpAny _ _ (compareOp _ (Value.ref _) (Value.ref _)) _ _ _"
local macro_rules | `(tactic| walk_at "stop") => ln "q" "wpAny _ _ (storeName _ (PySem.Str.ofString \"led\") _) _ _ _"
local macro_rules | `(tactic| walk_at "stop") => ln "q" "wpAny _ _ (eval (PySem.Expr.BoolOp _ _ _) _) _ _ _"
local macro_rules | `(tactic| walk_at "stop") => ln "q" "wpAny _ _ (eval (PySem.Expr.ListComp _ _ _ _) _) _ _ _"
local macro_rules | `(tactic| walk_at "newList") => ln "hdwK" "|newList_MK ?k1 ?k2 ?_|k1a k2a|l' h' F' N' l1 kK|lt|l1"
local macro_rules | `(tactic| walk_at "stop") => ln "q" "wpAny _ _ (exec (PySem.Stmt.If _ _ _ _) _) _ _ _"
theorem goodT {cl : Str → Option Addr} {mean : ExcName → Option Value} {args : List WData} {s₁ s' : Shared} (K : ∀ b o, s₁.heap.get? b = some o → s'.heap.get? b = some o) (hg : s'.gens = #[]) (hos : s'.os = s₁.os := by rfl) :
    GoodW PySem.Challenge.rw_tv0044_01.row.claim cl mean args s₁ (.ok (.ret (.bool true))) s' := by
  refine ⟨.inl ⟨_, _, [], rfl, raisesW_false allW_false_nil, .bool true, ?_, unshared_nil⟩, K, hos, hg⟩
  refine postW_of ?_ (w_eq_bool (w_res rfl) w_lit) ?_
  · rfl
  · rfl
/-- the words that are led -/
inductive W1O (prog : Program) (w : World) (led : List (Addr × Obj)) (rules : List (Str × Str)) (a ld nd dE R0 bl : Addr) (done : List Str) (m : Str → Option Value) : List (Addr × Obj) → Prop
  | mk {okc lo : Obj} {v0 : Option Value} {kvsL : List (Str × Value)} {fL : Str → Bool} (S : Sep ((a + 1, okc) :: (ld, lo) :: led)) (hc : okc.data = .cell v0) (hd : lo.IsDictOf (PySem.strKind prog w) kvsL) (hk : kvsL.map (·.1) = done) (nodL : done.Nodup)
      (hv : ∀ x ∈ done, valueAt kvsL x = some (.bool (fL x))) (hl : ∀ x ∈ done, LedW rules x → fL x = true)
      (u3 : m (Str.ofString "nexts") = some (.ref nd)) (u6 : m (Str.ofString "ends") = some (.ref dE)) (u7 : m (Str.ofString "rounds") = some (.ref R0)) (u8 : m (Str.ofString "bad") = some (.ref bl)) : W1O prog w led rules a ld nd dE R0 bl done m ((a + 1, okc) :: (ld, lo) :: led)
theorem rot3 {α : Type} {a b c : α} {l : List α} : (a :: b :: c :: l).Perm (b :: c :: a :: l) := (List.Perm.swap _ _ _).trans (List.Perm.cons _ (List.Perm.swap _ _ _))
theorem law1G : law1F.1 := by
  intro w s₀ sS mg mb G fa o hg w_3 w_5 hL hl2 o2 qk ek c2 h1 ra_1 rules hok hr3 h' tk wa nd no h41 m4 led led5 x' d' g' L' h'_3 tk_2 d'_1 h'_4 o' h'_5 h'_6 h'_7 h'_8 F' N' S m1 h5 okc no2 v0 kvs hno T2 rest h20 g20 tk20 b h B20 P20 dE R0 n fE kvsE eo rvs3 rn3 xss hdE memE efE RE hrow bl X0 X20 ld lt led35 mR0 mdE mn6 hkv6 dic6 PE6 m1_1 h36 tk36 F37 okc_1 v0_1 bvs bn s37 hc u3 u6 u7 u8 N37 hbad hbz
  revert X0 X20; k_fill; intro X0 X20
  walk_at "go"
  rename Fr _ _ _ _ => F38
  rename News _ _ _ _ => N38
  rename_i ldd _ oL hldd lddd _ _ _ l38
  have s38 : Sep ((ldd, oL) :: (sS.heap.objs.size + 1, okc_1) :: (bl, W.listOf bvs.toArray bn) :: (sS.heap.objs.size + 1 + 1, o2) :: led35) := s37.cons fun q hq => by
    rcases List.mem_cons.mp hq with rfl | hq
    · exact l38.1
    · rcases List.mem_cons.mp hq with rfl | hq
      · exact l38.2.1
      · rcases List.mem_cons.mp hq with rfl | hq
        · exact l38.2.2.1
        · exact ktn_ltOf l38.2.2.2 q hq
  have n1 : ldd ≠ sS.heap.objs.size + 1 + 1 := (Sep.head s38 _ (.tail _ (.tail _ (.head _)))).symm
  have n2 : sS.heap.objs.size + 1 ≠ sS.heap.objs.size + 1 + 1 := (Sep.head s38.tail _ (.tail _ (.head _))).symm
  have n3 : bl ≠ sS.heap.objs.size + 1 + 1 := (Sep.head s38.tail.tail _ (.head _)).symm
  refine storeX_C F38 N38 (by exact rfl) (UpdF.tail n1 (UpdF.tail n2 (UpdF.tail n3 (UpdF.head (Sep.head s38.tail.tail.tail))))) c2 ?_ rfl rfl
  intro h39 ob F39 N39 dob
  (try dsimp only at N39)
  have s39 : Sep ((ldd, oL) :: (sS.heap.objs.size + 1, okc_1) :: (bl, W.listOf bvs.toArray bn) :: (sS.heap.objs.size + 1 + 1, ob) :: led35) := s38
  clear n1 n2 n3 l38 s37 s38
  walk_at "go"
  rename Fr _ _ _ _ => F40
  rename News _ _ _ _ => N40
  have hin : ∀ q ∈ led35, q ∈ (bl, W.listOf bvs.toArray bn) :: (sS.heap.objs.size + 1 + 1, ob) :: led35 := fun q hq => .tail _ (.tail _ hq)
  have mbl : (bl, W.listOf bvs.toArray bn) ∈ (bl, W.listOf bvs.toArray bn) :: (sS.heap.objs.size + 1 + 1, ob) :: led35 := .head _
  have mcl : (sS.heap.objs.size + 1 + 1, ob) ∈ (bl, W.listOf bvs.toArray bn) :: (sS.heap.objs.size + 1 + 1, ob) :: led35 := .tail _ (.head _)
  have mR1 := hin _ mR0
  have mE1 := hin _ mdE
  have mn7 := hin _ mn6
  have hkv7 : ∀ x ∈ wordsTo 4, ∃ v, valueAt kvs x = some v ∧ LstIn ((bl, W.listOf bvs.toArray bn) :: (sS.heap.objs.size + 1 + 1, ob) :: led35) v (nextsOf rules x) := fun x hx => by
    refine park fun P9 k9 => ?_
    obtain ⟨v, h1, h2⟩ := hkv6 x hx
    refine k9 ?_
    clear k9 P9
    exact ⟨v, h1, h2.mono hin⟩
  have dic7 := dic6.mono hin
  have PE7 := lsts_mono PE6 hin
  have s40 := s39.perm (List.Perm.swap (sS.heap.objs.size + 1, okc_1) (ldd, oL) _)
  have N41 : News g20 sS.heap.objs.size h39 ((sS.heap.objs.size + 1, okc_1) :: (ldd, oL) :: (bl, W.listOf bvs.toArray bn) :: (sS.heap.objs.size + 1 + 1, ob) :: led35) := fun q hq => N40 q ((List.Perm.swap (sS.heap.objs.size + 1, okc_1) (ldd, oL) _).mem_iff.mpr hq)
  generalize (bl, W.listOf bvs.toArray bn) :: (sS.heap.objs.size + 1 + 1, ob) :: led35 = led36 at s40 N41 hin mbl mcl mR1 mE1 mn7 hkv7 dic7 PE7
  clear hin mR0 mdE mn6 hkv6 dic6 PE6 s39 N40
  have hKeep : ∀ {h' : Heap} {m' : Str → Option Value}, Fr g20 sS.heap.objs.size h' m' → ∀ b o, sS.heap.get? b = some o → h'.get? b = some o := fun F b o e => F.keep b o (B20.stays b o e)
  refine wpAny_For ?_
  walk_at "go"
  refine listC (vs := rvs3) (ep := rn3) (fun i m l => W1O PySem.Challenge.rw_tv0044_01.row.prog w led36 rules sS.heap.objs.size ldd nd dE R0 bl (xss.take i).flatten m l) rfl PassesOwn.leaving ?lt F40 N41 ?l0 ?lturn ?ldone
  case lt =>
    intro i m l H
    cases H
    exact .tail _ (.tail _ mR1)
  case l0 => exact .mk (kvsL := []) (fL := fun _ => false) s40 hc lddd rfl List.nodup_nil (fun x hx => (nomatch hx)) (fun x hx => (nomatch hx)) u3 u6 u7 u8
  case lturn =>
    intro I i v m1 news1 h41 tk41 oI hv H hoff F41 N42
    refine hideS fun T9 k9 => ?_
    clear F40 N41 s40 u3 u6 u7 u8 hc lddd
    refine park fun P9 k9 => ?_
    obtain ⟨row, hrw7, ra7, rvs7, rn7, rfl, mrow, hrs⟩ := paired_get PE7 hv
    obtain ⟨_, _, hperm⟩ := RE i row hrw7
    refine k9 ?_
    clear k9 P9
    have hrnd : row.Nodup := hperm.symm.nodup_iff.mp (words4_nod.sublist List.filter_sublist)
    refine park fun P9 k9 => ?_
    cases H with
    | @mk okc lo v0 kvsL fL s42 hc hd hk nodL hv2 hl u3 u6 u7 u8 =>
    refine k9 ?_
    clear k9 P9
    walk_at "go"
    rename Fr _ _ _ _ => F42
    rename News _ _ _ _ => N43
    refine wpAny_For ?_
    walk_at "go"
    have s43 := s42.cons_ne (o := oI) hoff
    have s44 := s43.perm rot3
    have N44 : News g20 sS.heap.objs.size _ ((sS.heap.objs.size + 1, okc) :: (ldd, lo) :: (I, oI) :: led36) := fun q hq => N43 q (rot3.mem_iff.mpr hq)
    clear s43 N43
    have mrow7 : (ra7, W.listOf rvs7.toArray rn7) ∈ (I, oI) :: led36 := .tail _ mrow
    refine listC (vs := rvs7) (ep := rn7) (fun j m l => W1O PySem.Challenge.rw_tv0044_01.row.prog w ((I, oI) :: led36) rules sS.heap.objs.size ldd nd dE R0 bl ((xss.take i).flatten ++ row.take j) m l) rfl PassesOwn.leaving ?mt F42 N44 ?m0 ?mturn ?mdone
    case mt =>
      intro j m l H
      cases H
      exact .tail _ (.tail _ mrow7)
    case m0 => exact .mk s44 hc hd (by simpa using hk) (by simpa using nodL) (by simpa using hv2) (by simpa using hl) (by walk_at "loc") (by walk_at "loc") (by walk_at "loc") (by walk_at "loc")
    case mturn =>
      clear F42 N44 s44 u3 u6 u7 u8 hc hd hk nodL hv2 hl
      intro I2 j v2 m2 news2 h45 tk45 oI2 hv2 H hoff2 F45 N45
      refine hideS fun T9 k9 => ?_
      refine park fun P9 k9 => ?_
      obtain ⟨word, wt, rfl, hw⟩ := hrs.item j v2 hv2
      have hwr := List.mem_of_getElem? hw
      obtain ⟨hw4, hwn, hwN⟩ := mem_rowOf.mp (hperm.mem_iff.mp hwr)
      have hwf : word ∈ xss.flatten := List.mem_flatten.mpr ⟨row, List.mem_of_getElem? hrw7, hwr⟩
      obtain ⟨_, hkv, aa, avs, an, rfl, haa0, hav⟩ := hkv7 word hw4
      refine k9 ?_
      clear k9 P9
      refine park fun P9 k9 => ?_
      cases H with
      | @mk okc lo v0 kvsL fL s46 hc hd hk nodL hv3 hl u3 u6 u7 u8 =>
      refine k9 ?_
      clear k9 P9
      have hnew : word ∉ kvsL.map (·.1) := by
        rw [hk]
        intro hx
        rcases List.mem_append.mp hx with hx | hx
        · exact hwn hx
        · refine park fun P9 k9 => ?_
          obtain ⟨y, hy, e⟩ := List.getElem_of_mem hx
          refine k9 ?_
          clear k9 P9
          rw [List.length_take] at hy
          rw [List.getElem_take] at e
          refine park fun P9 k9 => ?_
          obtain ⟨h4, h5⟩ := List.getElem?_eq_some_iff.mp hw
          refine k9 ?_
          clear k9 P9
          have := (List.getElem_inj hrnd).mp (e.trans h5.symm)
          lia
      have sI := s46.cons_ne (o := oI2) hoff2
      have hIo : I2 ≠ sS.heap.objs.size + 1 := (hoff2 _ (.head _)).symm
      have mbl7 : (bl, W.listOf bvs.toArray bn) ∈ (I, oI) :: led36 := .tail _ mbl
      have mcl7 : (sS.heap.objs.size + 1 + 1, ob) ∈ (I, oI) :: led36 := .tail _ mcl
      have mE7 : (dE, eo) ∈ (I, oI) :: led36 := .tail _ mE1
      have mn8 : (nd, no2) ∈ (I, oI) :: led36 := .tail _ mn7
      have haa : (aa, W.listOf avs.toArray an) ∈ (I, oI) :: led36 := .tail _ haa0
      generalize hled : (I, oI) :: led36 = led37 at s46 N45 sI hoff2 mbl7 mcl7 mE7 mn8 haa k9
      refine storeX_C F45 N45 (by exact rfl) (UpdF.tail hIo (UpdF.head (Sep.head s46))) hc ?_ rfl rfl
      intro h47 ob2 F47 N47 dob2
      (try dsimp only at N47)
      have s47 : Sep ((I2, oI2) :: (sS.heap.objs.size + 1, ob2) :: (ldd, lo) :: led37) := sI
      clear F45 N45 sI
      walk_at "go"
      refine wpAny_mono (Q := fun v s' => ∃ h tk nb, v = Value.bool nb ∧ s' = { sS with heap := h, toks := tk } ∧ Fr g20 sS.heap.objs.size h m2 ∧ News g20 sS.heap.objs.size h ((I2, oI2) :: (sS.heap.objs.size + 1, ob2) :: (ldd, lo) :: led37) ∧ (LedW rules word → nb = true)) ?bo (fun v s' h => ?_) fun _ _ e => e
      case bo =>
        walk1
        walk_at "go"
        refine compWK (h₀ := g20) (L := sS.heap.objs.size) (cl := [(Str.ofString "word", sS.heap.objs.size + 1)]) (p := fun v => match v with | .str q _ => within q word | _ => false) (G := fun v r => r = v) ?ihc ?ic ?ik ?inn ?ix ?is ?ih
        case ihc => with_unfolding_all rfl
        case ic => decide
        case ik => exact rfl
        case inn => decide
        case ix => exact rfl
        case is => intro _; with_unfolding_all rfl
        walk_at "go"
        rename Fr _ _ _ _ => F48
        rename News _ _ _ _ => N48
        refine compListK F48 N48 (.tail _ (.tail _ (.tail _ mbl7))) (seven_le (by lia)) rfl ⟨?tests, ?elts⟩ ?done
        case tests =>
          intro C2 j2 v2 s4 m4 E4 hv2 F10 N10 hn10 hm10
          refine park fun P9 k9 => ?_
          obtain ⟨q, qt, rfl, hq⟩ := hbad.item j2 v2 hv2
          refine k9 ?_
          clear k9 P9
          clear F48 N48
          refine wpAny_tests_one ?_
          walk_at "go"
          exact ⟨_, _, rfl, fun _ _ e => e⟩
        case elts =>
          intro C2 j2 v2 s4 m4 E4 hv2 hp2 F10 N10 hn10 hm10
          refine park fun P9 k9 => ?_
          obtain ⟨q, qt, rfl, hq⟩ := hbad.item j2 v2 hv2
          refine k9 ?_
          clear k9 P9
          clear F48 N48
          walk_at "go"
          exact ⟨_, _, rfl, fun _ _ e => e⟩
        case done =>
          intro D2 h9 tk9 ys9 k9 hG9 F9 N9 hoff9 hkp9
          clear F48 N48
          have hf9 : StrsAre ys9 ((badOf rules fE).filter fun q => within q word) := by
            rw [paired_same hG9]; exact strs_filter (fun q => within q word) hbad
          walk_at "go"
          rename News _ _ _ _ => N10
          rename Fr _ _ _ _ => F10
          refine neS_M (c := decide ((badOf rules fE).filter (fun q => within q word) = [])) N10 (.tail _ (.head _)) (.head _) hf9 .nil ?hab (fun _ h => nomatch h) rfl ?hu ?_
          case hab =>
            intro q hq
            refine park fun P9 k9 => ?_
            obtain ⟨⟨_, t⟩, h1, rfl⟩ := List.mem_map.mp (List.mem_filter.mp (List.mem_filter.mp hq).1).1
            refine k9 ?_
            clear k9 P9
            exact lapped_abS hok ((lapped_iff hok).mpr ⟨t, h1⟩)
          case hu => exact Nat.le_of_ble_eq_true rfl
          have N11 : News g20 sS.heap.objs.size _ ((I2, oI2) :: (sS.heap.objs.size + 1, ob2) :: (ldd, lo) :: led37) := fun q hq => N10 q (.tail _ (.tail _ hq))
          clear N10
          by_cases hr0 : (badOf rules fE).filter (fun q => within q word) = []
          · rw [decide_eq_true hr0]
            clear hkp9 hoff9 hf9 hG9
            walk_at "go"
            walk1
            walk_at "go"
            refine compWK (h₀ := g20) (L := sS.heap.objs.size) (cl := [(Str.ofString "led", sS.heap.objs.size + 1 + 1)]) (p := fun v => match v with | .str q _ => fL q | _ => false) (G := fun v r => r = v) ?jhc ?jc ?jk ?jnn ?jx ?js ?jh
            case jhc => with_unfolding_all rfl
            case jc => decide
            case jk => exact rfl
            case jnn => decide
            case jx => exact rfl
            case js => intro _; with_unfolding_all rfl
            walk_at "go"
            rename Fr _ _ _ _ => F48
            rename News _ _ _ _ => N48
            refine compListK F48 N48 (.tail _ (.tail _ (.tail _ haa))) (seven_le (by have := hav.length; have := nexts_len hr3 (mem_words.mp hw4).2; lia)) rfl ⟨?jtests, ?jelts⟩ ?jdone
            case jtests =>
              intro C2 j2 v2 s4 m4 E4 hv2 F10 N10 hn10 hm10
              refine park fun P9 k9 => ?_
              obtain ⟨q, qt, rfl, hq⟩ := hav.item j2 v2 hv2
              refine k9 ?_
              clear k9 P9
              clear F48 N48
              have hq3 := hv3 q (List.mem_append_left _ (hwN q (List.mem_of_getElem? hq)))
              refine wpAny_tests_one ?_
              walk_at "go"
              exact ⟨_, _, rfl, fun _ _ e => e⟩
            case jelts =>
              intro C2 j2 v2 s4 m4 E4 hv2 hp2 F10 N10 hn10 hm10
              refine park fun P9 k9 => ?_
              obtain ⟨q, qt, rfl, hq⟩ := hav.item j2 v2 hv2
              refine k9 ?_
              clear k9 P9
              clear F48 N48
              walk_at "go"
              exact ⟨_, _, rfl, fun _ _ e => e⟩
            case jdone =>
              intro D2 h9 tk9 ys9 k9 hG9 F9 N9 hoff9 hkp9
              clear F48 N48
              have hf9 : StrsAre ys9 ((nextsOf rules word).filter fL) := by
                rw [paired_same hG9]; exact strs_filter fL hav
              walk_at "go"
              rename News _ _ _ _ => N10
              rename Fr _ _ _ _ => F10
              refine neS_M (c := decide ((nextsOf rules word).filter fL = [])) N10 (.tail _ (.head _)) (.head _) hf9 .nil ?jab (fun _ h => nomatch h) rfl ?ju ?_
              case jab =>
                intro q hq
                exact (mem_words.mp (step_closed hok hw4 (List.mem_filter.mp hq).1)).1
              case ju => exact Nat.le_of_ble_eq_true rfl
              have N11 : News g20 sS.heap.objs.size _ ((I2, oI2) :: (sS.heap.objs.size + 1, ob2) :: (ldd, lo) :: led37) := fun q hq => N10 q (.tail _ (.tail _ hq))
              clear N10
              refine ⟨_, _, !decide ((nextsOf rules word).filter fL = []), rfl, rfl, F10, N11, fun hl9 => ?_⟩
              rcases led_true hok hrow efE (hb := fun v hv hl' => hl v (List.mem_append_left _ (hwN v hv)) hl') hl9 with h | h
              · exact absurd hr0 h
              · rw [decide_eq_false h]; rfl
          · rw [decide_eq_false hr0]
            walk_at "go"
            · assumption
            · exact N11
      refine park fun P9 k9 => ?_
      obtain ⟨h48, tk48, nb, rfl, rfl, F48, N48, hnb⟩ := h
      refine k9 ?_
      clear k9 P9
      clear F47 N47
      have hwD : word ∈ kvsE.map (·.1) := (memE word).mpr hwf
      refine park fun P9 k9 => ?_
      obtain ⟨l0, hl0, hok0⟩ := efE.some_ word hwD
      obtain ⟨ea, evs, en, he1, he2, he3⟩ : ∃ ea evs en, valueAt kvsE word = some (.ref ea) ∧ (ea, W.listOf evs.toArray en) ∈ led37 ∧ StrsAre evs l0 := by
        have h1 := dic7 word
        cases hv9 : valueAt kvsE word with
        | none => rw [hv9, hl0] at h1; cases h1
        | some u =>
          rw [hv9] at h1
          obtain ⟨ys, h2, a, vs, n, rfl, h4, h5⟩ := h1
          rw [hl0] at h2; cases h2
          exact ⟨a, vs, n, rfl, by rw [← hled]; exact .tail _ h4, h5⟩
      refine k9 ?_
      clear k9 P9
      have he5 : evs.length ≤ 1000000 := by have := he3.length; have := ends_small hok hw4 hok0; lia
      have hkl : kvsL.length ≤ sizeLine := seven_le (by
        rw [← List.length_map (f := (·.1)), hk]
        have := List.Nodup.length_le_of_subset (l₂ := wordsTo 4) nodL fun k hk => by
          rcases List.mem_append.mp hk with hk | hk
          · exact (RE.term i k hk).1
          · exact (mem_rowOf.mp (hperm.mem_iff.mp (List.mem_of_mem_take hk))).1
        rw [words4_len] at this
        lia)
      have n1 : I2 ≠ ldd := (Sep.head s47 _ (.tail _ (.head _))).symm
      have n2 : sS.heap.objs.size + 1 ≠ ldd := (Sep.head s47.tail _ (.head _)).symm
      walk_at "go"
      rename Fr _ _ _ _ => F49
      rename News _ _ _ _ => N49
      rename_i o49 hd49
      rw [upd_cons, if_neg n2, upd_hd s47.tail.tail] at N49
      rw [stored_new (valueAt_new hnew)] at hd49
      have s49 : Sep ((I2, oI2) :: (sS.heap.objs.size + 1, ob2) :: (ldd, o49) :: led37) := s47
      have hvw : valueAt (kvsL ++ [(word, Value.bool nb)]) word = some (.bool nb) := by rw [valueAt_add hnew, if_pos rfl]
      have hdone : (xss.take i).flatten ++ row.take (j + 1) = ((xss.take i).flatten ++ row.take j) ++ [word] := by rw [List.take_add_one, hw, List.append_assoc]; rfl
      have fin : W1O PySem.Challenge.rw_tv0044_01.row.prog w led37 rules sS.heap.objs.size ldd nd dE R0 bl ((xss.take i).flatten ++ row.take (j + 1)) m2 ((sS.heap.objs.size + 1, ob2) :: (ldd, o49) :: led37) := by
        rw [hdone]
        have hsp : ∀ x ∈ ((xss.take i).flatten ++ row.take j) ++ [word], x ≠ word → x ∈ (xss.take i).flatten ++ row.take j := fun x hx e => by
          rcases List.mem_append.mp hx with hx | hx
          · exact hx
          · exact absurd (List.mem_singleton.mp hx) e
        refine W1O.mk (fL := fun x => if x = word then nb else fL x) s49.tail dob2 hd49 (by rw [List.map_append, hk]; rfl) ?_ (fun x hx => ?_) (fun x hx hL => ?_) u3 u6 u7 u8
        · rw [hk] at hnew
          exact List.nodup_append.mpr ⟨nodL, (by simp), fun a ha b hb e => hnew (List.mem_singleton.mp hb ▸ e ▸ ha)⟩
        · rw [valueAt_add hnew]
          by_cases e : x = word
          · rw [if_pos e, if_pos e]
          · rw [if_neg e, if_neg e]; exact hv3 x (hsp x hx e)
        · by_cases e : x = word
          · exact (if_pos e).trans (hnb (e ▸ hL))
          · exact (if_neg e).trans (hl x (hsp x hx e) hL)
      clear hk nodL hv3 hl hnew u3 hkl hdone n1 n2 haa hkv hv2 hav hwN hwn hbad mbl7 dic7 haa0 mrow7 hrs hbz
      walk1
      walk_at "go"
      all_goals
        rename Fr _ _ _ _ => F50
        rename News _ _ _ _ => N50
        refine k9 _ _ ?_
        dsimp only [PostG]
        first
        | exact EndG.intro F50 N50 (Sep.head s49) fin
        | (exfalso
           rename_i e1 e2
           have e3 := hnb (two_led hok RE hwf hok0 (by rw [← he3.length]; lia))
           rw [e2] at e3
           exact nomatch e3)
    case mdone =>
      intro m2 news2 h45 tk45 H F45 N45
      refine park fun P9 k9 => ?_
      cases H with
      | @mk okc lo v0 kvsL fL s46 hc hd hk nodL hv3 hl u3 u6 u7 u8 =>
      refine k9 ?_
      clear k9 P9
      have hfl : (xss.take i).flatten ++ row.take rvs7.length = (xss.take (i + 1)).flatten := by
        rw [hrs.length, List.take_length, List.take_add_one, hrw7, List.flatten_append]; simp
      rw [hfl] at hk nodL hv3 hl
      walk_at "go"
      refine k9 _ _ ?_
      dsimp only [PostG]
      have s47 := s46.perm rot3.symm
      refine EndG.intro F45 (fun q hq => N45 q (rot3.symm.mem_iff.mpr hq)) (Sep.head s47) (W1O.mk s47.tail hc hd hk nodL hv3 hl u3 u6 u7 u8)
  case ldone =>
    intro m1 news1 h41 tk41 H F41 N42
    walk_at "go"
    dsimp only
    exact goodT (hKeep F41) (by assumption)
end
end
end
end
end
end
end
end
end
end Mine
set_option maxRecDepth 100000 in
set_option maxHeartbeats 8000000 in
theorem PySem.Challenge.cw_tv0044_01_holds : PySem.Challenge.rw_tv0044_01.Holds := by
  exact (Mine.law1A.2 ⟨(Mine.law1B.2 ⟨(Mine.law1C.2 ⟨(Mine.law1D.2 ⟨(Mine.law1E.2 ⟨(Mine.law1F.2 ⟨Mine.law1G⟩)⟩)⟩)⟩)⟩)⟩)
