import PyProof.Rows.All
import Wide.All
import OpenK.AllK
import Wide.FinOn
import PyProof.IsiH_tuple
import PyProof.Raises
import KE.KDictIter
import KE.KCat
import KE.KDeep
import PyProof.Conv_bool
import PyProof.Rows.ReprOcc
import Lean
import PySem.Challenge.RW_tv0044_02
/-- what is still to be shown -/
structure Mine.Cp (P : Prop) : Prop where
  out : P
open PySem PySem.W PyProof.Rows PySem.Spec PySem.Calls
set_option Elab.async false
set_option linter.all false
set_option compiler.extract_closed false
set_option maxRecDepth 100000
set_option maxHeartbeats 8000000
namespace Mine
section

/-- a ledger with the entry at `a` written anew -/
noncomputable def upd (l : List (Addr × Obj)) (a : Addr) (o : Obj) : List (Addr × Obj) := l.map fun p => if p.1 = a then (a, o) else p

theorem upd_addrs (l : List (Addr × Obj)) (a : Addr) (o : Obj) : (upd l a o).map (·.1) = l.map (·.1) := by
  unfold upd
  rw [List.map_map]
  refine List.map_congr_left fun p _ => ?_
  show (if p.1 = a then (a, o) else p).1 = p.1
  by_cases h : p.1 = a
  · rw [if_pos h]; exact h.symm
  · rw [if_neg h]

theorem mem_upd_self {l : List (Addr × Obj)} {a : Addr} {o o' : Obj} (h : (a, o) ∈ l) : (a, o') ∈ upd l a o' :=
  List.mem_map.mpr ⟨_, h, by simp⟩
theorem mem_upd_ne {l : List (Addr × Obj)} {a b : Addr} {o o' : Obj} (h : (b, o) ∈ l) (hne : b ≠ a) : (b, o) ∈ upd l a o' :=
  List.mem_map.mpr ⟨_, h, by simp [hne]⟩
theorem upd_none {l : List (Addr × Obj)} {a : Addr} {o : Obj} (h : ∀ p ∈ l, p.1 ≠ a) : upd l a o = l := by
  unfold upd
  conv => rhs; rw [← List.map_id l]
  refine List.map_congr_left fun p hp => ?_
  rw [if_neg (h p hp)]; rfl
theorem upd_append (l k : List (Addr × Obj)) (a : Addr) (o : Obj) : upd (l ++ k) a o = upd l a o ++ upd k a o := by
  unfold upd; rw [List.map_append]
theorem upd_cons (p : Addr × Obj) (l : List (Addr × Obj)) (a : Addr) (o : Obj) : upd (p :: l) a o = (if p.1 = a then (a, o) else p) :: upd l a o := rfl

/-- all addresses differ -/
noncomputable def Sep (l : List (Addr × Obj)) : Prop := (l.map (·.1)).Nodup

theorem Sep.upd {l : List (Addr × Obj)} {a : Addr} {o : Obj} (h : Sep l) : Sep (upd l a o) := by
  unfold Sep; rw [upd_addrs]; exact h
theorem Sep.cons {l : List (Addr × Obj)} {a : Addr} {o : Obj} (h : Sep l) (hl : ∀ p ∈ l, p.1 < a) : Sep ((a, o) :: l) := by
  unfold Sep
  rw [List.map_cons, List.nodup_cons]
  refine ⟨fun hm => ?_, h⟩
  obtain ⟨p, hp, e⟩ := List.mem_map.mp hm
  exact Nat.lt_irrefl _ (e ▸ hl p hp)
theorem Sep.cons_ne {l : List (Addr × Obj)} {a : Addr} {o : Obj} (h : Sep l) (hl : ∀ p ∈ l, p.1 ≠ a) : Sep ((a, o) :: l) := by
  unfold Sep
  rw [List.map_cons, List.nodup_cons]
  refine ⟨fun hm => ?_, h⟩
  obtain ⟨p, hp, e⟩ := List.mem_map.mp hm
  exact hl p hp e
theorem Sep.perm {l k : List (Addr × Obj)} (h : Sep l) (p : l.Perm k) : Sep k := (p.map _).nodup_iff.mp h
theorem Sep.tail {p : Addr × Obj} {l : List (Addr × Obj)} (h : Sep (p :: l)) : Sep l := (List.nodup_cons.mp h).2
theorem Sep.left {l k : List (Addr × Obj)} (h : Sep (l ++ k)) : Sep l := by
  unfold Sep at h ⊢; rw [List.map_append] at h; exact (List.nodup_append.mp h).1
theorem Sep.right {l k : List (Addr × Obj)} (h : Sep (l ++ k)) : Sep k := by
  unfold Sep at h ⊢; rw [List.map_append] at h; exact (List.nodup_append.mp h).2.1
theorem Sep.apart {l k : List (Addr × Obj)} (h : Sep (l ++ k)) {p q : Addr × Obj} (hp : p ∈ l) (hq : q ∈ k) : p.1 ≠ q.1 := by
  unfold Sep at h; rw [List.map_append] at h
  exact (List.nodup_append.mp h).2.2 _ (List.mem_map.mpr ⟨p, hp, rfl⟩) _ (List.mem_map.mpr ⟨q, hq, rfl⟩)
theorem Sep.head {p : Addr × Obj} {l : List (Addr × Obj)} (h : Sep (p :: l)) : ∀ q ∈ l, q.1 ≠ p.1 := fun q hq e =>
  (List.nodup_cons.mp h).1 (List.mem_map.mpr ⟨q, hq, e⟩)
theorem Sep.sub {l k : List (Addr × Obj)} (h : Sep l) (s : k.Sublist l) : Sep k := List.Sublist.nodup (s.map _) h
theorem Sep.nil : Sep [] := List.nodup_nil

theorem split_at {l : List (Addr × Obj)} {d : Addr} {o : Obj} (hs : Sep l) (hm : (d, o) ∈ l) :
    ∃ pre post, l = pre ++ (d, o) :: post ∧ (∀ p ∈ pre, p.1 ≠ d) ∧ ∀ p ∈ post, p.1 ≠ d := by
  obtain ⟨pre, post, e⟩ := List.append_of_mem hm
  subst e
  refine ⟨pre, post, rfl, fun p hp => ?_, fun p hp => ?_⟩
  · exact Sep.apart hs hp (.head _)
  · exact Sep.head (Sep.right hs) p hp
theorem Sep.one {l : List (Addr × Obj)} (hs : Sep l) {d : Addr} {o o' : Obj} (h : (d, o) ∈ l) (h' : (d, o') ∈ l) : o = o' := by
  obtain ⟨pre, post, rfl, a, b⟩ := split_at hs h
  rcases List.mem_append.mp h' with h' | h'
  · exact absurd rfl (a _ h')
  · rcases List.mem_cons.mp h' with h' | h'
    · exact (Prod.mk.inj h').2.symm
    · exact absurd rfl (b _ h')

theorem updF_aux {d : Addr} {o : Obj} : ∀ {pre post : List (Addr × Obj)}, (∀ p ∈ pre, p.1 ≠ d) → (∀ p ∈ post, p.1 ≠ d) → UpdF d o (pre ++ (d, o) :: post) (fun o' => upd (pre ++ (d, o) :: post) d o')
  | [], post, _, b => by
    have e : (fun o' => upd ([] ++ (d, o) :: post) d o') = fun o' => (d, o') :: post := by
      funext o'
      rw [List.nil_append, upd_cons, upd_none b]; simp
    rw [e]; exact UpdF.head b
  | p :: pre, post, a, b => by
    have h := updF_aux (d := d) (o := o) (pre := pre) (post := post) (fun q hq => a q (.tail _ hq)) b
    have e : (fun o' => upd (p :: pre ++ (d, o) :: post) d o') = fun o' => p :: upd (pre ++ (d, o) :: post) d o' := by
      funext o'
      rw [List.cons_append, upd_cons, if_neg (a p (.head _))]
    rw [e]; exact UpdF.tail (a p (.head _)) h
theorem updF_of {l : List (Addr × Obj)} {d : Addr} {o : Obj} (hs : Sep l) (hm : (d, o) ∈ l) : UpdF d o l (fun o' => upd l d o') := by
  obtain ⟨pre, post, rfl, a, b⟩ := split_at hs hm
  exact updF_aux a b
theorem upd_aux {d : Addr} {o o' : Obj} : ∀ {l : List (Addr × Obj)} {g : Obj → List (Addr × Obj)}, UpdF d o l g → Upd d o o' l (g o')
  | _, _, .head h => .head h
  | _, _, .tail h r => .tail h (upd_aux r)
theorem upd_of {l : List (Addr × Obj)} {d : Addr} {o o' : Obj} (hs : Sep l) (hm : (d, o) ∈ l) : Upd d o o' l (upd l d o') :=
  upd_aux (updF_of hs hm)

theorem lt_of_mem {l : List (Addr × Obj)} {a b : Addr} {o : Obj} (h : ∀ p ∈ l, p.1 < b) (hm : (a, o) ∈ l) : a < b := h _ hm

theorem below_cons {l : List (Addr × Obj)} {a b : Addr} {o : Obj} (h : @LT.lt Nat _ a b) (hl : ∀ p ∈ l, p.1 < b) : ∀ p ∈ (a, o) :: l, p.1 < b := fun p hp => by
  rcases List.mem_cons.mp hp with rfl | hp
  · exact h
  · exact hl p hp
theorem below_trans {l : List (Addr × Obj)} {a b : Addr} (hl : ∀ p ∈ l, p.1 < a) (h : @LT.lt Nat _ a b) : ∀ p ∈ l, p.1 < b := fun p hp => Nat.lt_trans (hl p hp) h
theorem below_upd {l : List (Addr × Obj)} {a b : Addr} {o : Obj} (hl : ∀ p ∈ l, p.1 < b) : ∀ p ∈ upd l a o, p.1 < b := fun p hp => by
  have : p.1 ∈ (upd l a o).map (·.1) := List.mem_map.mpr ⟨p, hp, rfl⟩
  rw [upd_addrs] at this
  obtain ⟨q, hq, e⟩ := List.mem_map.mp this
  exact e ▸ hl q hq
theorem off_of_below {l : List (Addr × Obj)} {b : Addr} (hl : ∀ p ∈ l, p.1 < b) : ∀ p ∈ l, p.1 ≠ b := fun p hp => Nat.ne_of_lt (hl p hp)
theorem ne_b1 {l : List (Addr × Obj)} {a b : Addr} {o : Obj} (h : ∀ p ∈ l, p.1 < b) (hm : (a, o) ∈ l) : a ≠ b := Nat.ne_of_lt (h _ hm)
theorem ne_b2 {l : List (Addr × Obj)} {a b c : Addr} {o : Obj} (h : ∀ p ∈ l, p.1 < b) (hm : (a, o) ∈ l) (hc : b < c) : a ≠ c := Nat.ne_of_lt (Nat.lt_trans (h _ hm) hc)
theorem ne_b3 {l : List (Addr × Obj)} {a b c : Addr} {o : Obj} (h : ∀ p ∈ l, p.1 < b) (hm : (a, o) ∈ l) (hc : @LE.le Nat _ b c) : a ≠ c := Nat.ne_of_lt (Nat.lt_of_lt_of_le (h _ hm) hc)
theorem seven_le {n : Nat} (h : n ≤ 1000000) : n ≤ sizeLine := by rw [sizeLine_eq]; omega

/-! ### the sorter -/

/-- a node's info: what it says and where it lies -/
structure Nd where
  key : Str
  np : Int
  succ : List Str
  x : Addr
  dx : Addr
  sa : Addr
  kt : Tok
  pt : Tok
  svs : List Value
  sn : Nat

noncomputable def Nd.info (Ci : Addr) (v : Nd) : Obj :=
  { cls := .ref Ci, dict := some v.dx, data := .plain, slots := [some (.str v.key v.kt), some (.int v.np v.pt), some (.ref v.sa)].toArray }
noncomputable def Nd.cells (Ci : Addr) (v : Nd) : List (Addr × Obj) := [(v.x, v.info Ci), (v.dx, dictOf [] 0), (v.sa, W.listOf v.svs.toArray v.sn)]
noncomputable def Nd.ok (v : Nd) : Prop := StrsAre v.svs v.succ
noncomputable def Nd.pair (v : Nd) : Str × Value := (v.key, .ref v.x)

/-- a sorter -/
structure So where
  x : Addr
  dx : Addr
  n2i : Addr
  hs : Nat → Int
  tk : Nat → Tok
  dn : Nat
  n2o : Obj
  nds : List Nd
  rdy : Option (Addr × List Value × Nat)
  rds : List Str
  npo : Int
  nfi : Int
  t1 : Tok
  t2 : Tok

noncomputable def So.rv (S : So) : Value := match S.rdy with
  | none => .none
  | some r => .ref r.1
noncomputable def So.rcells (S : So) : List (Addr × Obj) := match S.rdy with
  | none => []
  | some r => [(r.1, W.listOf r.2.1.toArray r.2.2)]
noncomputable def sorterEs (hs : Nat → Int) (tk : Nat → Tok) (n2i : Addr) (rv : Value) (np nf : Value) : List DictEntry :=
  [⟨hs 0, .str (Str.ofString "_node2info") (tk 0), .ref n2i⟩, ⟨hs 1, .str (Str.ofString "_ready_nodes") (tk 1), rv⟩, ⟨hs 2, .str (Str.ofString "_npassedout") (tk 2), np⟩, ⟨hs 3, .str (Str.ofString "_nfinished") (tk 3), nf⟩]
noncomputable def So.dobj (S : So) : Obj := dictOf (sorterEs S.hs S.tk S.n2i S.rv (.int S.npo S.t1) (.int S.nfi S.t2)) S.dn
noncomputable def So.cells (C Ci : Addr) (S : So) : List (Addr × Obj) :=
  (S.x, instObj C S.dx) :: (S.dx, S.dobj) :: (S.n2i, S.n2o) :: (S.rcells ++ S.nds.flatMap (Nd.cells Ci))
structure So.ok (prog : Program) (w : World) (S : So) : Prop where
  dict : S.n2o.IsDictOf (PySem.strKind prog w) (S.nds.map Nd.pair)
  low : (S.n2i == sysModules) = false
  nds : ∀ v ∈ S.nds, v.ok
  rds : match S.rdy with | none => S.rds = [] | some r => StrsAre r.2.1 S.rds

theorem So.keys {prog : Program} {w : World} {S : So} (h : S.ok prog w) : (S.nds.map (·.key)).Nodup := by
  obtain ⟨es, ep, _, _, _, _, hn⟩ := h.dict
  rw [List.map_map] at hn
  exact hn
theorem So.mem_nd {C Ci : Addr} {S : So} {v : Nd} {p : Addr × Obj} (hv : v ∈ S.nds) (hp : p ∈ v.cells Ci) : p ∈ S.cells C Ci := by
  unfold So.cells
  exact .tail _ (.tail _ (.tail _ (List.mem_append_right _ (List.mem_flatMap.mpr ⟨v, hv, hp⟩))))
end
section
/-! ### the search for a ring, plain -/
section
variable (sc : Str → List Str)
/-- what a frame knows: the top one has given `cur` last (`none`: what it gave is finished) -/
noncomputable def Lnk (fin : List Str) : Option Str → List (Str × Nat) → Prop
  | _, [] => True
  | none, (k, p) :: r => (∀ i c, i < p → (sc k)[i]? = some c → c ∈ fin) ∧ Lnk fin (some k) r
  | some c, (k, p) :: r => (∃ q, p = q + 1 ∧ (sc k)[q]? = some c ∧ ∀ i d, i < q → (sc k)[i]? = some d → d ∈ fin) ∧ Lnk fin (some k) r
/-- what is finished stands behind all that follows it -/
noncomputable def Ordd (fin : List Str) : Prop := ∀ (j : Nat) (v : Str), fin[j]? = some v → ∀ c ∈ sc v, ∃ i : Nat, i < j ∧ fin[i]? = some c
structure Dfs (keys seen fin : List Str) (cur : Option Str) (fr : List (Str × Nat)) : Prop where
  lnk : Lnk sc fin cur fr
  ord : Ordd sc fin
  nod : (fr.map (·.1)).Nodup
  dis : ∀ k ∈ fr.map (·.1), k ∉ fin
  see : ∀ k, k ∈ seen ↔ k ∈ fin ∨ k ∈ fr.map (·.1)
  key : ∀ k ∈ seen, k ∈ keys
noncomputable def muS (keys seen : List Str) : Nat := ((keys.filter fun k => decide (k ∉ seen)).map fun k => 1 + (sc k).length).sum
noncomputable def muF (fr : List (Str × Nat)) : Nat := (fr.map fun f => (sc f.1).length - f.2).sum
variable {sc} {keys seen fin : List Str} {fr : List (Str × Nat)} {n k : Str} {p : Nat}

theorem Lnk.mono {fin fin' : List Str} (h : ∀ c ∈ fin, c ∈ fin') : ∀ {fr : List (Str × Nat)} {cur : Option Str}, Lnk sc fin cur fr → Lnk sc fin' cur fr
  | [], _, _ => by unfold Lnk; trivial
  | (k, p) :: r, none, ⟨a, b⟩ => ⟨fun i c hi hc => h _ (a i c hi hc), Lnk.mono h b⟩
  | (k, p) :: r, some c, ⟨⟨q, e, x, y⟩, b⟩ => ⟨⟨q, e, x, fun i d hi hd => h _ (y i d hi hd)⟩, Lnk.mono h b⟩
theorem Lnk.skip {c : Str} (hc : c ∈ fin) : ∀ {fr : List (Str × Nat)}, Lnk sc fin (some c) fr → Lnk sc fin none fr
  | [], _ => by unfold Lnk; trivial
  | (k, p) :: r, ⟨⟨q, e, x, y⟩, b⟩ => ⟨fun i d hi hd => by
      rcases Nat.lt_or_ge i q with h | h
      · exact y i d h hd
      · obtain rfl : i = q := by lia
        rw [x] at hd; cases hd; exact hc, b⟩
theorem Dfs.push (D : Dfs sc keys seen fin (some n) fr) (hn : n ∉ seen) (hk : n ∈ keys) : Dfs sc keys (n :: seen) fin none ((n, 0) :: fr) := by
  have h1 : n ∉ fin := fun h => hn ((D.see n).mpr (.inl h))
  have h2 : n ∉ fr.map (·.1) := fun h => hn ((D.see n).mpr (.inr h))
  refine ⟨⟨fun i c hi _ => absurd hi (Nat.not_lt_zero _), D.lnk⟩, D.ord, ?_, ?_, ?_, ?_⟩
  · rw [List.map_cons, List.nodup_cons]; exact ⟨h2, D.nod⟩
  · intro j hj
    rcases List.mem_cons.mp hj with rfl | hj
    · exact h1
    · exact D.dis j hj
  · intro j
    rw [List.mem_cons, D.see j, List.map_cons, List.mem_cons]
    exact ⟨fun h => by rcases h with h | h | h <;> simp [h], fun h => by rcases h with h | h | h <;> simp [h]⟩
  · intro j hj
    rcases List.mem_cons.mp hj with rfl | hj
    · exact hk
    · exact D.key j hj
theorem Dfs.skip (D : Dfs sc keys seen fin (some n) fr) (hn : n ∈ seen) (hs : n ∉ fr.map (·.1)) : Dfs sc keys seen fin none fr :=
  ⟨D.lnk.skip ((D.see n).mp hn |>.resolve_right hs), D.ord, D.nod, D.dis, D.see, D.key⟩
theorem Dfs.next {r : List (Str × Nat)} {c : Str} (D : Dfs sc keys seen fin none ((k, p) :: r)) (hc : (sc k)[p]? = some c) : Dfs sc keys seen fin (some c) ((k, p + 1) :: r) :=
  ⟨⟨⟨p, rfl, hc, D.lnk.1⟩, D.lnk.2⟩, D.ord, D.nod, D.dis, D.see, D.key⟩
theorem Dfs.pop {r : List (Str × Nat)} (D : Dfs sc keys seen fin none ((k, p) :: r)) (hc : (sc k)[p]? = none) : Dfs sc keys seen (fin ++ [k]) none r := by
  have hall : ∀ c ∈ sc k, c ∈ fin := fun c hm => by
    obtain ⟨i, hi, e⟩ := List.getElem_of_mem hm
    have : (sc k).length ≤ p := List.getElem?_eq_none_iff.mp hc
    exact D.lnk.1 i c (by lia) (by rw [List.getElem?_eq_getElem hi, e])
  have nd := D.nod
  rw [List.map_cons, List.nodup_cons] at nd
  refine ⟨(D.lnk.2.mono fun c hc => List.mem_append_left _ hc).skip (List.mem_append_right _ (.head _)), ?_, nd.2, ?_, ?_, D.key⟩
  · intro j v hv c hm
    rcases Nat.lt_or_ge j fin.length with h | h
    · rw [List.getElem?_append_left h] at hv
      obtain ⟨i, hi, e⟩ := D.ord j v hv c hm
      exact ⟨i, hi, by rw [List.getElem?_append_left (by lia)]; exact e⟩
    · rw [List.getElem?_append_right h] at hv
      have : j - fin.length = 0 := by
        have := (List.getElem?_eq_some_iff.mp hv).1
        simp at this; lia
      rw [this] at hv
      obtain rfl : k = v := by simpa using hv
      obtain ⟨i, hi, e⟩ := List.getElem_of_mem (hall c hm)
      exact ⟨i, by lia, by rw [List.getElem?_append_left hi, List.getElem?_eq_getElem hi, e]⟩
  · intro j hj hm
    rcases List.mem_append.mp hm with hm | hm
    · exact D.dis j (List.mem_cons_of_mem _ hj) hm
    · rw [List.mem_singleton.mp hm] at hj; exact nd.1 hj
  · intro j
    rw [D.see j, List.map_cons, List.mem_cons, List.mem_append, List.mem_singleton]
    exact ⟨fun h => by rcases h with h | h | h <;> simp [h], fun h => by rcases h with (h | h) | h <;> simp [h]⟩

theorem sum_filter_le {f : Str → Nat} {a b : Str → Bool} (h : ∀ x, b x = true → a x = true) (l : List Str) : ((l.filter b).map f).sum ≤ ((l.filter a).map f).sum := by
  induction l with
  | nil => simp
  | cons x r ih =>
    by_cases hb : b x = true
    · simp [List.filter_cons, hb, h x hb]; lia
    · by_cases ha : a x = true
      · simp [List.filter_cons, hb, ha]; lia
      · simp [List.filter_cons, hb, ha]; lia
theorem muS_push (hn : n ∉ seen) (hk : n ∈ keys) : muS sc keys (n :: seen) + 1 + (sc n).length ≤ muS sc keys seen := by
  unfold muS
  induction keys with
  | nil => cases hk
  | cons x r ih =>
    have mono := sum_filter_le (f := fun k => 1 + (sc k).length) (a := fun k => decide (k ∉ seen)) (b := fun k => decide (k ∉ n :: seen)) (fun x hx => by simp at hx ⊢; exact hx.2) r
    by_cases hx : x = n
    · subst hx
      have e1 : decide (x ∉ x :: seen) = false := by simp
      have e2 : decide (x ∉ seen) = true := by simpa using hn
      rw [List.filter_cons, List.filter_cons, e1, e2]
      simp only [Bool.false_eq_true, if_false, if_true, List.map_cons, List.sum_cons]
      lia
    · have hk' : n ∈ r := (List.mem_cons.mp hk).resolve_left (fun e => hx e.symm)
      have ih := ih hk'
      have e : decide (x ∉ n :: seen) = decide (x ∉ seen) := by simp [hx]
      rw [List.filter_cons, List.filter_cons, e]
      by_cases hs : decide (x ∉ seen) = true
      · rw [if_pos hs, if_pos hs, List.map_cons, List.map_cons, List.sum_cons, List.sum_cons]; lia
      · rw [if_neg hs, if_neg hs]; exact ih
theorem muF_push : muF sc ((n, 0) :: fr) = (sc n).length + muF sc fr := by unfold muF; simp
theorem muF_next {r : List (Str × Nat)} {c : Str} (hc : (sc k)[p]? = some c) : muF sc ((k, p + 1) :: r) + 1 = muF sc ((k, p) :: r) := by
  unfold muF
  have := (List.getElem?_eq_some_iff.mp hc).1
  simp; lia
theorem muF_pop {r : List (Str × Nat)} : muF sc r ≤ muF sc ((k, p) :: r) := by unfold muF; simp

/-- what is told: a list whose first is its last, no other twice, each behind the one ahead of it -/
noncomputable def Ring (told : List Str) : Prop := ∃ c mid, told = c :: mid ++ [c] ∧ (c :: mid).Nodup ∧ ∀ (i : Nat) (a b : Str), told[i]? = some a → told[i + 1]? = some b → b ∈ sc a
theorem lnk_step : ∀ {l : List (Str × Nat)} {cur : Option Str} {i : Nat} {a b : Str × Nat}, Lnk sc fin cur l → l[i]? = some a → l[i + 1]? = some b → a.1 ∈ sc b.1
  | [], _, _, _, _, _, h, _ => by simp at h
  | [_], _, i, _, _, _, _, h => by simp at h
  | (k, p) :: (k', p') :: r, cur, 0, a, b, L, h1, h2 => by
    simp at h1 h2
    subst h1; subst h2
    have L2 : Lnk sc fin (some k) ((k', p') :: r) := by cases cur <;> exact L.2
    obtain ⟨q, _, hq, _⟩ := L2.1
    exact List.mem_of_getElem? hq
  | (k, p) :: (k', p') :: r, cur, i + 1, a, b, L, h1, h2 => by
    have L2 : Lnk sc fin (some k) ((k', p') :: r) := by cases cur <;> exact L.2
    exact lnk_step L2 (by simpa using h1) (by simpa using h2)
theorem Dfs.ring {a b : List (Str × Nat)} (D : Dfs sc keys seen fin (some n) (a ++ (n, p) :: b)) : Ring (sc := sc) (n :: (a.map (·.1)).reverse ++ [n]) := by
  refine ⟨n, (a.map (·.1)).reverse, rfl, ?_, ?_⟩
  · have nd := D.nod
    rw [List.map_append, List.map_cons] at nd
    have : ((a.map (·.1)) ++ [n]).Nodup := nd.sublist ((List.Sublist.refl _).append (List.Sublist.cons_cons _ (List.nil_sublist _)))
    have h9 := (List.reverse_perm (a.map (·.1) ++ [n])).nodup_iff.mpr this
    simpa using h9
  · intro i x y hx hy
    -- the told list, last first
    have e : (n :: (a.map (·.1)).reverse ++ [n]) = ((n :: (a ++ [(n, p)]).map (·.1))).reverse := by simp
    rw [e] at hx hy
    have hlen : ((n :: (a ++ [(n, p)]).map (·.1))).length = a.length + 2 := by simp
    have hi : i + 1 < a.length + 2 := by
      have := (List.getElem?_eq_some_iff.mp hy).1
      rw [List.length_reverse, hlen] at this; exact this
    rw [List.getElem?_reverse (by rw [hlen]; lia), hlen] at hx
    rw [List.getElem?_reverse (by rw [hlen]; lia), hlen] at hy
    have e1 : a.length + 2 - 1 - i = (a.length - i) + 1 := by lia
    have e2 : a.length + 2 - 1 - (i + 1) = a.length - i := by lia
    rw [e1, List.getElem?_cons_succ] at hx
    rw [e2] at hy
    have hpre : ∀ j z, (a ++ [(n, p)])[j]? = some z → (a ++ (n, p) :: b)[j]? = some z := fun j z h => by
      have : a ++ (n, p) :: b = (a ++ [(n, p)]) ++ b := by simp
      rw [this, List.getElem?_append_left (List.getElem?_eq_some_iff.mp h).1]; exact h
    rw [List.getElem?_map] at hx
    obtain ⟨u, hu, rfl⟩ := Option.map_eq_some_iff.mp hx
    cases hj : a.length - i with
    | zero =>
      rw [hj] at hy hu
      obtain rfl : n = y := by simpa using hy
      have hu' := hpre _ _ hu
      have L := D.lnk
      cases hl : a ++ (n, p) :: b with
      | nil => simp at hl
      | cons f r =>
        rw [hl] at L hu'
        obtain rfl : f = u := by simpa using hu'
        obtain ⟨q, _, hq, _⟩ := L.1
        exact List.mem_of_getElem? hq
    | succ j =>
      rw [hj] at hy hu
      rw [List.getElem?_cons_succ, List.getElem?_map] at hy
      obtain ⟨v, hv, rfl⟩ := Option.map_eq_some_iff.mp hy
      exact lnk_step D.lnk (hpre _ _ hv) (hpre _ _ hu)
/-- no ring: each stands higher than what follows it -/
noncomputable def Free (keys : List Str) : Prop := ∃ rk : Str → Nat, ∀ v ∈ keys, ∀ c ∈ sc v, rk c < rk v
theorem Dfs.free {cur : Option Str} (D : Dfs sc keys seen fin cur []) (h : ∀ k ∈ keys, k ∈ seen) : Free (sc := sc) keys := by
  refine ⟨fun k => fin.idxOf k, fun v hv c hc => ?_⟩
  have hm : v ∈ fin := by
    rcases (D.see v).mp (h v hv) with h | h
    · exact h
    · cases h
  have h1 : fin[fin.idxOf v]? = some v := by
    rw [List.getElem?_eq_getElem (List.idxOf_lt_length_iff.mpr hm), List.getElem_idxOf]
  obtain ⟨i, hi, hic⟩ := D.ord _ _ h1 c hc
  have : fin.idxOf c ≤ i := by
    rcases Nat.lt_or_ge i (fin.idxOf c) with h | h
    · obtain ⟨hi2, e⟩ := List.getElem?_eq_some_iff.mp hic
      exact absurd e (by
        have := List.not_of_lt_findIdx (p := fun x => x == c) (xs := fin) h
        simpa using this)
    · exact h
  show fin.idxOf c < fin.idxOf v
  lia
end
end
section
section
variable {prog : Program} {w : World} {A : Around} {E : Value → Shared → Prop} {s : Shared} {env : Env} {h₀ : Heap} {x : Str} {body : List Stmt} {Q : Flow → Shared → Prop}

/-- the end of a turn: the iterator as it stood, and a ledger of which J holds -/
noncomputable def EndG (h₀ : Heap) (L : Addr) (J : (Str → Option Value) → List (Addr × Obj) → Prop) (I : Addr) (oI : Obj) (s₁ s₂ : Shared) : Prop :=
  ∃ h' tk m' nx, s₂ = { s₁ with heap := h', toks := tk } ∧ Fr h₀ L h' m' ∧ News h₀ L h' ((I, oI) :: nx) ∧ (∀ p ∈ nx, p.1 ≠ I) ∧ J m' nx
theorem EndG.intro {L I : Addr} {oI : Obj} {J : (Str → Option Value) → List (Addr × Obj) → Prop} {s₁ : Shared} {h' : Heap} {tk : Nat} {m' : Str → Option Value} {nx : List (Addr × Obj)}
    (F : Fr h₀ L h' m') (N : News h₀ L h' ((I, oI) :: nx)) (hI : ∀ p ∈ nx, p.1 ≠ I) (hj : J m' nx) : EndG h₀ L J I oI s₁ { s₁ with heap := h', toks := tk } := ⟨h', tk, m', nx, rfl, F, N, hI, hj⟩
noncomputable def PostG (h₀ : Heap) (L : Addr) (J : (Str → Option Value) → List (Addr × Obj) → Prop) (I : Addr) (oI : Obj) (s₁ : Shared) (Q : Flow → Shared → Prop) (f : Flow) (s₂ : Shared) : Prop :=
  match f with
  | .ret v => Q (.ret v) s₂
  | .brk => Q .next s₂
  | _ => EndG h₀ L J I oI s₁ s₂

theorem loopG {I : Addr} {fp : List Addr} {n : Nat} {P : Nat → Value → Prop} {St : Nat → Heap → Prop} {m₀ : Str → Option Value} {news : List (Addr × Obj)}
    (J : Nat → (Str → Option Value) → List (Addr × Obj) → Prop)
    (W : Walks prog w A I fp [I] n P St) (hLf : env.locals ∉ fp) (hI : h₀.get? I = none) (hIn : ∀ p ∈ news, p.1 ≠ I) (hst : St 0 s.heap)
    (hlive : ∀ i h, St i h → ∃ o, h.get? I = some o)
    (hown : ∀ b ∈ fp, b = I ∨ (∃ o, h₀.get? b = some o) ∨ ∃ o, ∀ i m l, J i m l → (b, o) ∈ l)
    (F : Fr h₀ env.locals s.heap m₀) (N : News h₀ env.locals s.heap news) (hj : J 0 m₀ news)
    (turn : ∀ i v m₁ news₁ h tk oI, i < n → P i v → J i m₁ news₁ → (∀ p ∈ news₁, p.1 ≠ I) → Fr h₀ env.locals h (fun y => if y = x then some v else m₁ y) → News h₀ env.locals h ((I, oI) :: news₁) →
      wpAny (model prog w) A (execs body env) (PostG h₀ env.locals (J (i + 1)) I oI { s with heap := h, toks := tk } Q) E { s with heap := h, toks := tk })
    (done : ∀ m₁ news₁ h tk, J n m₁ news₁ → Fr h₀ env.locals h m₁ → News h₀ env.locals h news₁ → Q .next { s with heap := h, toks := tk }) :
    LoopAtV prog w A h₀ env x body Q E (.ref I) s := by
  refine ⟨I, fp, [I], n, P, St, m₀, news, J, rfl, W, hLf, ?_, ?_, hst, F, N, hj, ?_, ?_⟩
  · intro b hb; rw [List.mem_singleton.mp hb]; exact hI
  · intro p hp hb; exact hIn p hp (List.mem_singleton.mp hb)
  · rintro i v m₁ news₁ s₁ own ⟨h, tk, rfl⟩ hi hP hJ hoff hsub hget hall hst₁ F₁ N₁
    obtain ⟨oI, hoI⟩ := hlive _ _ hst₁
    have hIo : (I, oI) ∈ own := hall I (W.sub I (.head _)) hI oI hoI
    have hne : ∀ p ∈ news₁, p.1 ≠ I := fun p hp e => hoff p hp (by rw [e]; exact .head _)
    have N₂ : News h₀ env.locals h ((I, oI) :: news₁) := fun p hp => by
      rcases List.mem_cons.mp hp with rfl | hp
      · exact N₁ _ (List.mem_append_left _ hIo)
      · exact N₁ _ (List.mem_append_right _ hp)
    refine wpAny_mono (turn i v m₁ news₁ h tk oI hi hP hJ hne F₁ N₂) (fun f s₂ p => ?_) fun _ _ e => e
    have fin : EndG h₀ env.locals (J (i + 1)) I oI { s with heap := h, toks := tk } s₂ → LoopStepU h₀ env.locals [I] own (J (i + 1)) { s with heap := h, toks := tk } .next s₂ := by
      rintro ⟨h', tk', m', nx, rfl, F', N', hI', hJ'⟩
      refine LoopStepU.intro F' (fun p hp => ?_) (fun p hp hb => hI' p hp (List.mem_singleton.mp hb)) hJ'
      rcases List.mem_append.mp hp with hp | hp
      · rcases hown _ (hsub p hp) with e | ⟨o, ho⟩ | ⟨o, ho⟩
        · have e2 : p.2 = oI := by
            have := hget p hp
            rw [e] at this
            exact Option.some.inj (this.symm.trans hoI)
          have : p = (I, oI) := Prod.ext e e2
          rw [this]; exact N' _ (.head _)
        · have := (N₁ p (List.mem_append_left _ hp)).2.2
          rw [ho] at this; cases this
        · have h1 := (N₁ _ (List.mem_append_right own (ho i m₁ news₁ hJ))).1
          have h2 := hget p hp
          have e2 : p.2 = o := Option.some.inj (h2.symm.trans h1)
          have : p = (p.1, o) := Prod.ext rfl e2
          rw [this]
          exact N' _ (.tail _ (ho _ _ _ hJ'))
      · exact N' p (.tail _ hp)
    cases f with
    | ret v => exact .ret p
    | brk => exact .brk p
    | next => exact .next (fin p)
    | cont => exact .cont (fin p)
  · intro h' tk m' news' F' N' _ hJ
    exact done m' news' h' tk hJ F' N'

theorem ne_size {L : Addr} {h : Heap} {m : Str → Option Value} (F : Fr h₀ L h m) : L ≠ h.objs.size := Nat.ne_of_lt F.ns.lt
theorem old_ne {L t : Addr} {h : Heap} {m : Str → Option Value} {o : Obj} (F : Fr h₀ L h m) (ht : h₀.get? t = some o) : L ≠ t := fun e => by
  have := Heap.lt_size ht
  exact Nat.lt_irrefl _ (Nat.lt_of_lt_of_le (e ▸ this) F.above)

/-- where a sequence lies: old, or in every ledger of J -/
noncomputable def Lies (h₀ : Heap) (J : Nat → (Str → Option Value) → List (Addr × Obj) → Prop) (t : Addr) (o : Obj) : Prop := h₀.get? t = some o ∨ ∀ i m l, J i m l → (t, o) ∈ l

theorem iterList {t : Addr} {vs : List Value} {ep : Nat} {m₀ : Str → Option Value} {news : List (Addr × Obj)}
    (J : Nat → (Str → Option Value) → List (Addr × Obj) → Prop) (hh : A.handled = none) (ht : Lies h₀ J t (W.listOf vs.toArray ep))
    (F : Fr h₀ env.locals s.heap m₀) (N : News h₀ env.locals s.heap news) (hj : J 0 m₀ news)
    (turn : ∀ I i v m₁ news₁ h tk oI, vs[i]? = some v → J i m₁ news₁ → (∀ p ∈ news₁, p.1 ≠ I) → Fr h₀ env.locals h (fun y => if y = x then some v else m₁ y) → News h₀ env.locals h ((I, oI) :: news₁) →
      wpAny (model prog w) A (execs body env) (PostG h₀ env.locals (J (i + 1)) I oI { s with heap := h, toks := tk } Q) E { s with heap := h, toks := tk })
    (done : ∀ m₁ news₁ h tk, J vs.length m₁ news₁ → Fr h₀ env.locals h m₁ → News h₀ env.locals h news₁ → Q .next { s with heap := h, toks := tk }) :
    wpAny (model prog w) A (pyIter (.ref t)) (fun it s₂ => LoopAtV prog w A h₀ env x body Q E it s₂) E s := by
  have ho : s.heap.get? t = some (W.listOf vs.toArray ep) := by
    rcases ht with ht | ht
    · exact F.keep _ _ ht
    · exact (N _ (ht _ _ _ hj)).1
  have hls : s.heap.IsList t vs.toArray := ⟨_, ho, rfl, _, rfl⟩
  have hlt : t < s.heap.objs.size := Heap.lt_size ho
  have hne : t ≠ s.heap.objs.size := Nat.ne_of_lt hlt
  refine wpAny_pyIter_list hls ?_
  have W := Walks.list (prog := prog) (w := w) hh s.heap.objs.size t hne vs.toArray
  have hlen : vs.toArray.size = vs.length := by simp
  rw [hlen] at W
  refine loopG J W ?_ (next_is_new F) (fun p hp => Nat.ne_of_lt (Heap.lt_size (N p hp).1)) ⟨⟨_, Heap.get?_push_size _ rfl, rfl, rfl⟩, hls.at fun o e => Heap.get?_push_of_some _ e⟩
    (fun i h st => let ⟨o, ho, _⟩ := st.1; ⟨o, ho⟩) ?_ (F.push _) (fun p hp => ⟨Heap.get?_push_of_some _ (N p hp).1, (N p hp).2⟩) hj ?_ ?_
  · intro hm
    rcases List.mem_cons.mp hm with e | hm
    · exact ne_size F e
    · have e := List.mem_singleton.mp hm
      rcases ht with ht | ht
      · exact old_ne F ht e
      · exact (N _ (ht _ _ _ hj)).2.1 e.symm
  · intro b hb
    rcases List.mem_cons.mp hb with e | hb
    · exact .inl e
    · rw [List.mem_singleton.mp hb]
      rcases ht with ht | ht
      · exact .inr (.inl ⟨_, ht⟩)
      · exact .inr (.inr ⟨_, ht⟩)
  · intro i v m₁ news₁ h tk oI _ hP hJ hIn F₁ N₁
    exact turn _ i v m₁ news₁ h tk oI (by simpa using hP) hJ hIn F₁ N₁
  · intro m₁ news₁ h tk hJ F₁ N₁
    exact done m₁ news₁ h tk hJ F₁ N₁

abbrev tupOf (its : Array Value) (n : Nat) : Obj := { cls := .type "tuple", data := .seq its n }

theorem iterTup {t : Addr} {vs : List Value} {ep : Nat} {m₀ : Str → Option Value} {news : List (Addr × Obj)}
    (J : Nat → (Str → Option Value) → List (Addr × Obj) → Prop) (hh : A.handled = none) (ht : Lies h₀ J t (tupOf vs.toArray ep))
    (F : Fr h₀ env.locals s.heap m₀) (N : News h₀ env.locals s.heap news) (hj : J 0 m₀ news)
    (turn : ∀ I i v m₁ news₁ h tk oI, vs[i]? = some v → J i m₁ news₁ → (∀ p ∈ news₁, p.1 ≠ I) → Fr h₀ env.locals h (fun y => if y = x then some v else m₁ y) → News h₀ env.locals h ((I, oI) :: news₁) →
      wpAny (model prog w) A (execs body env) (PostG h₀ env.locals (J (i + 1)) I oI { s with heap := h, toks := tk } Q) E { s with heap := h, toks := tk })
    (done : ∀ m₁ news₁ h tk, J vs.length m₁ news₁ → Fr h₀ env.locals h m₁ → News h₀ env.locals h news₁ → Q .next { s with heap := h, toks := tk }) :
    wpAny (model prog w) A (pyIter (.ref t)) (fun it s₂ => LoopAtV prog w A h₀ env x body Q E it s₂) E s := by
  have ho : s.heap.get? t = some (tupOf vs.toArray ep) := by
    rcases ht with ht | ht
    · exact F.keep _ _ ht
    · exact (N _ (ht _ _ _ hj)).1
  have hls : s.heap.IsTuple t vs.toArray := ⟨_, ho, rfl, _, rfl⟩
  have hlt : t < s.heap.objs.size := Heap.lt_size ho
  have hne : t ≠ s.heap.objs.size := Nat.ne_of_lt hlt
  refine wpAny_pyIter_tuple hls ?_
  have W := Walks.tuple (prog := prog) (w := w) hh s.heap.objs.size t hne vs.toArray
  have hlen : vs.toArray.size = vs.length := by simp
  rw [hlen] at W
  refine loopG J W ?_ (next_is_new F) (fun p hp => Nat.ne_of_lt (Heap.lt_size (N p hp).1)) ⟨⟨_, Heap.get?_push_size _ rfl, rfl, rfl⟩, hls.at fun o e => Heap.get?_push_of_some _ e⟩
    (fun i h st => let ⟨o, ho, _⟩ := st.1; ⟨o, ho⟩) ?_ (F.push _) (fun p hp => ⟨Heap.get?_push_of_some _ (N p hp).1, (N p hp).2⟩) hj ?_ ?_
  · intro hm
    rcases List.mem_cons.mp hm with e | hm
    · exact ne_size F e
    · have e := List.mem_singleton.mp hm
      rcases ht with ht | ht
      · exact old_ne F ht e
      · exact (N _ (ht _ _ _ hj)).2.1 e.symm
  · intro b hb
    rcases List.mem_cons.mp hb with e | hb
    · exact .inl e
    · rw [List.mem_singleton.mp hb]
      rcases ht with ht | ht
      · exact .inr (.inl ⟨_, ht⟩)
      · exact .inr (.inr ⟨_, ht⟩)
  · intro i v m₁ news₁ h tk oI _ hP hJ hIn F₁ N₁
    exact turn _ i v m₁ news₁ h tk oI (by simpa using hP) hJ hIn F₁ N₁
  · intro m₁ news₁ h tk hJ F₁ N₁
    exact done m₁ news₁ h tk hJ F₁ N₁

theorem iterRange {r : Addr} {a b : Int} {t₀ u₀ v₀ : Tok} {n : Nat} {m₀ : Str → Option Value} {news : List (Addr × Obj)}
    (J : Nat → (Str → Option Value) → List (Addr × Obj) → Prop) (hh : A.handled = none)
    (hr : IsRange s.heap r a b 1 t₀ u₀ v₀) (hsmall : Builtin.Range.small a b 1 = true) (hn : Builtin.Range.rangeSize a b 1 = (n : Int))
    (F : Fr h₀ env.locals s.heap m₀) (N : News h₀ env.locals s.heap news) (hj : J 0 m₀ news)
    (turn : ∀ I i t m₁ news₁ h tk oI, i < n → J i m₁ news₁ → (∀ p ∈ news₁, p.1 ≠ I) → Fr h₀ env.locals h (fun y => if y = x then some (.int (a + (i : Int)) t) else m₁ y) → News h₀ env.locals h ((I, oI) :: news₁) →
      wpAny (model prog w) A (execs body env) (PostG h₀ env.locals (J (i + 1)) I oI { s with heap := h, toks := tk } Q) E { s with heap := h, toks := tk })
    (done : ∀ m₁ news₁ h tk, J n m₁ news₁ → Fr h₀ env.locals h m₁ → News h₀ env.locals h news₁ → Q .next { s with heap := h, toks := tk }) :
    wpAny (model prog w) A (pyIter (.ref r)) (fun it s₂ => LoopAtV prog w A h₀ env x body Q E it s₂) E s := by
  refine wpAny_pyIter_range hr hsmall ?_
  have W : Walks prog w A s.heap.objs.size [s.heap.objs.size] [s.heap.objs.size] n (fun i v => ∃ t, v = .int (a + i * 1) t)
      (fun i h => IsRangeIter h s.heap.objs.size (a + (i : Nat) * 1) ((n : Int) - (i : Nat)) 1) := Walks.range hh _ a 1 n
  refine loopG J W ?_ (next_is_new F) (fun p hp => Nat.ne_of_lt (Heap.lt_size (N p hp).1)) (by show IsRangeIter _ _ _ _ _; rw [hn]; simpa using Heap.get?_push_size _ rfl)
    (fun i h st => ⟨_, st⟩) ?_ (F.push _) (fun p hp => ⟨Heap.get?_push_of_some _ (N p hp).1, (N p hp).2⟩) hj ?_ ?_
  · intro hm
    exact ne_size F (List.mem_singleton.mp hm)
  · intro b hb
    exact .inl (List.mem_singleton.mp hb)
  · rintro i v m₁ news₁ h tk oI hi ⟨t, rfl⟩ hJ hIn F₁ N₁
    rw [Int.mul_one] at F₁
    exact turn _ i t m₁ news₁ h tk oI hi hJ hIn F₁ N₁
  · intro m₁ news₁ h tk hJ F₁ N₁
    exact done m₁ news₁ h tk hJ F₁ N₁
end
/-! ### what follows is put behind a name: so it does not stand in each step of the walk -/
section
variable {M : Model} {A : Around} {E : Value → Shared → Prop} {s : Shared}
theorem hideQ {α : Type} {x : Sem α} {Q : α → Shared → Prop} (h : ∀ T : α → Shared → Prop, (∀ f s, Q f s → T f s) → wpAny M A x T E s) : wpAny M A x Q E s := h Q fun _ _ h => h
theorem hideS {α β : Type} {x : Sem α} {y : Sem β} {Q : β → Shared → Prop} (h : ∀ T : β → Shared → Prop, (∀ f s, Q f s → T f s) → wpAny M A x (fun _ s₂ => wpAny M A y T E s₂) E s) : wpAny M A x (fun _ s₂ => wpAny M A y Q E s₂) E s := h Q fun _ _ h => h
theorem hideP {α β γ : Type} {x : Sem α} {z : Sem γ} {y : Sem β} {Q : β → Shared → Prop} (h : ∀ T : β → Shared → Prop, (∀ f s, Q f s → T f s) → wpAny M A x (fun _ s₂ => wpAny M A z (fun _ s₃ => wpAny M A y T E s₃) E s₂) E s) :
    wpAny M A x (fun _ s₂ => wpAny M A z (fun _ s₃ => wpAny M A y Q E s₃) E s₂) E s := h Q fun _ _ h => h
end
end
section
/-! ### the sorter's plain side -/
structure PN where
  key : Str
  np : Int
  succ : List Str
noncomputable def Nd.pn (v : Nd) : PN := ⟨v.key, v.np, v.succ⟩
noncomputable def hasK (g : List PN) (k : Str) : Bool := g.any fun v => decide (v.key = k)
noncomputable def touch (g : List PN) (k : Str) : List PN := if hasK g k = true then g else g ++ [⟨k, 0, []⟩]
noncomputable def addN (g : List PN) (k : Str) (n : Int) : List PN := g.map fun v => if v.key = k then { v with np := v.np + n } else v
noncomputable def addS (g : List PN) (p k : Str) : List PN := g.map fun v => if v.key = p then { v with succ := v.succ ++ [k] } else v
noncomputable def addPs (g : List PN) (k : Str) (ps : List Str) : List PN := ps.foldl (fun g p => addS (touch g p) p k) g
noncomputable def addG (g : List PN) (k : Str) (ps : List Str) : List PN := addPs (addN (touch g k) k ps.length) k ps

theorem hasK_nds {nds : List Nd} {k : Str} : hasK (nds.map Nd.pn) k = true ↔ k ∈ nds.map (·.key) := by
  unfold hasK
  rw [List.any_map, List.any_eq_true]
  constructor
  · rintro ⟨v, hv, e⟩
    exact List.mem_map.mpr ⟨v, hv, of_decide_eq_true e⟩
  · intro h
    obtain ⟨v, hv, e⟩ := List.mem_map.mp h
    exact ⟨v, hv, decide_eq_true e⟩
theorem addPs_snoc (g : List PN) (k p : Str) (ps : List Str) : addPs g k (ps ++ [p]) = addS (touch (addPs g k ps) p) p k := by
  unfold addPs; rw [List.foldl_append]; rfl

/-! ### cells -/
theorem upd_mid {pre post : List (Addr × Obj)} {a : Addr} {o o' : Obj} (hs : Sep (pre ++ (a, o) :: post)) : upd (pre ++ (a, o) :: post) a o' = pre ++ (a, o') :: post := by
  rw [upd_append, upd_cons, if_pos rfl, upd_none (l := pre) fun p hp => Sep.apart hs hp (.head _), upd_none (l := post) fun p hp => Sep.head (Sep.right hs) p hp]

section
variable {C Ci : Addr} {S : So} {rest : List (Addr × Obj)}
theorem upd_n2i (hs : Sep (S.cells C Ci ++ rest)) (o' : Obj) : upd (S.cells C Ci ++ rest) S.n2i o' = ({ S with n2o := o' } : So).cells C Ci ++ rest := by
  have e : S.cells C Ci ++ rest = [(S.x, instObj C S.dx), (S.dx, S.dobj)] ++ (S.n2i, S.n2o) :: (S.rcells ++ S.nds.flatMap (Nd.cells Ci) ++ rest) := by
    unfold So.cells; simp
  rw [e] at hs ⊢
  rw [upd_mid hs]
  rfl
theorem upd_dx (hs : Sep (S.cells C Ci ++ rest)) (o' : Obj) : upd (S.cells C Ci ++ rest) S.dx o' = (S.x, instObj C S.dx) :: (S.dx, o') :: (S.n2i, S.n2o) :: (S.rcells ++ S.nds.flatMap (Nd.cells Ci)) ++ rest := by
  have e : S.cells C Ci ++ rest = [(S.x, instObj C S.dx)] ++ (S.dx, S.dobj) :: ((S.n2i, S.n2o) :: (S.rcells ++ S.nds.flatMap (Nd.cells Ci)) ++ rest) := by
    unfold So.cells; simp
  rw [e] at hs ⊢
  rw [upd_mid hs]
  rfl
theorem upd_nx {a b : List Nd} {v : Nd} (hn : S.nds = a ++ v :: b) (hs : Sep (S.cells C Ci ++ rest)) (v' : Nd) (h1 : v'.x = v.x) (h2 : v'.dx = v.dx) (h3 : v'.sa = v.sa) (h4 : v'.svs = v.svs) (h5 : v'.sn = v.sn) :
    upd (S.cells C Ci ++ rest) v.x (v'.info Ci) = ({ S with nds := a ++ v' :: b } : So).cells C Ci ++ rest := by
  have e : S.cells C Ci ++ rest = ([(S.x, instObj C S.dx), (S.dx, S.dobj), (S.n2i, S.n2o)] ++ S.rcells ++ a.flatMap (Nd.cells Ci)) ++ (v.x, v.info Ci) :: ((v.dx, dictOf [] 0) :: (v.sa, W.listOf v.svs.toArray v.sn) :: (b.flatMap (Nd.cells Ci) ++ rest)) := by
    unfold So.cells; rw [hn]; simp [Nd.cells]
  rw [e] at hs ⊢
  rw [upd_mid hs]
  unfold So.cells
  simp [Nd.cells, h1, h2, h3, h4, h5]
  exact ⟨rfl, rfl⟩
theorem upd_ns {a b : List Nd} {v : Nd} (hn : S.nds = a ++ v :: b) (hs : Sep (S.cells C Ci ++ rest)) (v' : Nd) (h1 : v'.x = v.x) (h2 : v'.info Ci = v.info Ci) (h3 : v'.sa = v.sa) (h4 : v'.dx = v.dx) :
    upd (S.cells C Ci ++ rest) v.sa (W.listOf v'.svs.toArray v'.sn) = ({ S with nds := a ++ v' :: b } : So).cells C Ci ++ rest := by
  have e : S.cells C Ci ++ rest = ([(S.x, instObj C S.dx), (S.dx, S.dobj), (S.n2i, S.n2o)] ++ S.rcells ++ a.flatMap (Nd.cells Ci) ++ [(v.x, v.info Ci), (v.dx, dictOf [] 0)]) ++ (v.sa, W.listOf v.svs.toArray v.sn) :: (b.flatMap (Nd.cells Ci) ++ rest) := by
    unfold So.cells; rw [hn]; simp [Nd.cells]
  rw [e] at hs ⊢
  rw [upd_mid hs]
  unfold So.cells
  simp [Nd.cells, h1, h2, h3, h4]
  exact ⟨rfl, rfl⟩
theorem cells_snoc (v : Nd) : (v.cells Ci ++ (S.cells C Ci ++ rest)).Perm (({ S with nds := S.nds ++ [v] } : So).cells C Ci ++ rest) := by
  have e : ({ S with nds := S.nds ++ [v] } : So).cells C Ci ++ rest = S.cells C Ci ++ (v.cells Ci ++ rest) := by
    unfold So.cells; simp; exact ⟨rfl, rfl⟩
  rw [e, ← List.append_assoc, ← List.append_assoc]
  exact List.Perm.append_right _ List.perm_append_comm
end

theorem keys_split {a b : List Nd} {v : Nd} (hn : ((a ++ v :: b).map (·.key)).Nodup) : (∀ u ∈ a, u.key ≠ v.key) ∧ ∀ u ∈ b, u.key ≠ v.key := by
  rw [List.map_append, List.map_cons] at hn
  have h := List.nodup_append.mp hn
  refine ⟨fun u hu e => ?_, fun u hu e => ?_⟩
  · exact h.2.2 _ (List.mem_map.mpr ⟨u, hu, rfl⟩) _ (.head _) e
  · exact (List.nodup_cons.mp h.2.1).1 (List.mem_map.mpr ⟨u, hu, e⟩)
theorem map_one {α : Type} {a b : List Nd} {v v' : Nd} {f : PN → PN} (hn : ((a ++ v :: b).map (·.key)).Nodup) (hv : v'.pn = f v.pn) (hf : ∀ u : PN, u.key ≠ v.key → f u = u) (_ : α) :
    (a ++ v' :: b).map Nd.pn = ((a ++ v :: b).map Nd.pn).map f := by
  obtain ⟨ha, hb⟩ := keys_split hn
  have side : ∀ l : List Nd, (∀ u ∈ l, u.key ≠ v.key) → l.map Nd.pn = (l.map Nd.pn).map f := fun l hl => by
    rw [List.map_map]
    refine List.map_congr_left fun u hu => ?_
    exact (hf u.pn (hl u hu)).symm
  simp only [List.map_append, List.map_cons]
  rw [hv, ← side a ha, ← side b hb]
theorem pn_addN {a b : List Nd} {v v' : Nd} {n : Int} (hn : ((a ++ v :: b).map (·.key)).Nodup) (hv : v'.pn = { v.pn with np := v.np + n }) :
    (a ++ v' :: b).map Nd.pn = addN ((a ++ v :: b).map Nd.pn) v.key n :=
  map_one hn (by rw [hv]; simp [Nd.pn]) (fun u hu => by simp [hu]) ()
theorem pn_addS {a b : List Nd} {v v' : Nd} {k : Str} (hn : ((a ++ v :: b).map (·.key)).Nodup) (hv : v'.pn = { v.pn with succ := v.succ ++ [k] }) :
    (a ++ v' :: b).map Nd.pn = addS ((a ++ v :: b).map Nd.pn) v.key k :=
  map_one hn (by rw [hv]; simp [Nd.pn]) (fun u hu => by simp [hu]) ()
theorem ok_put {prog : Program} {w : World} {S : So} {a b : List Nd} {v v' : Nd} (hn : S.nds = a ++ v :: b) (ok : S.ok prog w) (hk : v'.key = v.key) (hx : v'.x = v.x) (hv : v'.ok) :
    ({ S with nds := a ++ v' :: b } : So).ok prog w where
  dict := by
    have := ok.dict
    rw [hn] at this
    simp only [List.map_append, List.map_cons] at this ⊢
    rw [show Nd.pair v' = Nd.pair v from by unfold Nd.pair; rw [hk, hx]]
    exact this
  low := ok.low
  nds := fun u hu => by
    rcases List.mem_append.mp hu with hu | hu
    · exact ok.nds u (by rw [hn]; exact List.mem_append_left _ hu)
    · rcases List.mem_cons.mp hu with rfl | hu
      · exact hv
      · exact ok.nds u (by rw [hn]; exact List.mem_append_right _ (.tail _ hu))
  rds := ok.rds
section
variable {C Ci : Addr} {S : So} {rest : List (Addr × Obj)} {h₀ h : Heap} {L : Addr} {a b : List Nd} {v : Nd} {o' : Obj}
theorem news_nx (N : News h₀ L h (upd (S.cells C Ci ++ rest) v.x o')) (hn : S.nds = a ++ v :: b) (hs : Sep (S.cells C Ci ++ rest)) {np' : Int} {pt' : Tok} (ho : o' = ({ v with np := np', pt := pt' } : Nd).info Ci) :
    News h₀ L h (({ S with nds := a ++ { v with np := np', pt := pt' } :: b } : So).cells C Ci ++ rest) ∧ Sep (({ S with nds := a ++ { v with np := np', pt := pt' } :: b } : So).cells C Ci ++ rest) := by
  have e := upd_nx hn hs { v with np := np', pt := pt' } rfl rfl rfl rfl rfl
  rw [← ho] at e
  exact ⟨e ▸ N, e ▸ hs.upd⟩
theorem news_ns (N : News h₀ L h (upd (S.cells C Ci ++ rest) v.sa o')) (hn : S.nds = a ++ v :: b) (hs : Sep (S.cells C Ci ++ rest)) {sc : List Str} {svs : List Value} {sn : Nat} (ho : o' = W.listOf svs.toArray sn) :
    News h₀ L h (({ S with nds := a ++ { v with succ := sc, svs := svs, sn := sn } :: b } : So).cells C Ci ++ rest) ∧ Sep (({ S with nds := a ++ { v with succ := sc, svs := svs, sn := sn } :: b } : So).cells C Ci ++ rest) := by
  have e := upd_ns hn hs { v with succ := sc, svs := svs, sn := sn } rfl rfl rfl rfl
  rw [← ho] at e
  exact ⟨e ▸ N, e ▸ hs.upd⟩
end
theorem So.mem_dx0 {C Ci : Addr} {S : So} (hr : S.rdy = none) : (S.dx, dictOf (sorterEs S.hs S.tk S.n2i .none (.int S.npo S.t1) (.int S.nfi S.t2)) S.dn) ∈ S.cells C Ci := by
  have h : (S.dx, S.dobj) ∈ S.cells C Ci := .tail _ (.head _)
  unfold So.dobj So.rv at h
  rw [hr] at h
  exact h
end
section
theorem bind_rest1 {fd : FuncData} {n1 nr : Str} {p1 p3 : Pos} {v1 : Value} {vs : List Value}
    (hp : fd.params = { posonlyargs := [], args := [⟨n1, none, p1⟩], vararg := some ⟨nr, none, p3⟩, kwonlyargs := [], kw_defaults := [], kwarg := none, defaults := [] }) (hd : fd.defaults = .none) :
    bindArgs fd ⟨v1 :: vs, []⟩ = (do let t ← newTuple vs; pure [(n1, v1), (nr, t)]) := by
  have h : List.lookup n1 [(n1, v1)] = some v1 := by simp [List.lookup]
  obtain ⟨_, _, _, _, _, _, _, _, _, _, _, _⟩ := fd
  subst hp hd
  unfold bindArgs
  dsimp [seqItems?, notAStandIn, -List.lookup]
  simp [h]
theorem bind_rest2 {fd : FuncData} {n1 n2 nr : Str} {p1 p2 p3 : Pos} {v1 v2 : Value} {vs : List Value}
    (hp : fd.params = { posonlyargs := [], args := [⟨n1, none, p1⟩, ⟨n2, none, p2⟩], vararg := some ⟨nr, none, p3⟩, kwonlyargs := [], kw_defaults := [], kwarg := none, defaults := [] }) (hd : fd.defaults = .none) (hne : (n2 == n1) = false) :
    bindArgs fd ⟨v1 :: v2 :: vs, []⟩ = (do let t ← newTuple vs; pure [(n1, v1), (n2, v2), (nr, t)]) := by
  have h : List.lookup n1 [(n1, v1), (n2, v2)] = some v1 := by simp [List.lookup]
  have h2 : List.lookup n2 [(n1, v1), (n2, v2)] = some v2 := by simp [List.lookup, hne]
  obtain ⟨_, _, _, _, _, _, _, _, _, _, _, _⟩ := fd
  subst hp hd
  unfold bindArgs
  dsimp [seqItems?, notAStandIn, -List.lookup]
  simp [h, h2]

section
variable {prog : Program} {w : World} {A A₀ : Around} {K : Frag} {base h₀ : Heap} {L : Addr} {m : Str → Option Value} {news : List (Addr × Obj)} {s : Shared} {p : Program} {loose : List Str} {mean : ExcName → Option Value} {mg mb : Str → Option Value}
theorem code_rest {env : Env} {outer : List Env} {R : Result → Shared → Prop} {name qual : Str} {params : Arguments} {body : List Stmt} {scope : Scope} {dV kV doc pm cdv ct oc : Value} {an od : Option Addr} {osl : Array (Option Value)} {f : Addr} {args : Args} {vs : List Value} {pre : List (Str × Value)} {nr : Str}
    (B : Below A₀ base outer h₀) (F : Fr h₀ L s.heap m) (X₀ : K.In h₀) (N : News h₀ L s.heap news) (T : Top p loose mean mg mb h₀) (hA : A.frames = some (env :: outer)) (hf : env.frame = some L) (hke : env.scope.kind = .function)
    (ho : K.lookup f = some ⟨oc, od, .func (fnOf name qual params body scope dV kV doc pm an cdv ct), osl⟩) (hcd : codeIn K cdv qual = true) (hroom : A.depth < recursionLimit)
    (hb : bindArgs (fnOf name qual params body scope dV kV doc pm an cdv ct) args = (do let t ← newTuple vs; pure (pre ++ [(nr, t)]))) (hsz : vs.length ≤ sizeLine)
    (hloc : ∀ D, ∀ y ∈ pre ++ [(nr, Value.ref D)], scope.names.lookup y.1 = some .local)
    (h : ∀ D g L' h₁, (∀ p ∈ news, p.1 < D) → Fr h₀ L g m → Fr g L' h₁ (fun y => (pre ++ [(nr, Value.ref D)]).reverse.lookup y) → News g L' h₁ ((D, ({ cls := .type "tuple", data := .seq vs.toArray } : Obj)) :: news) → Below A base (env :: outer) g → K.In g → Top p loose mean mg mb g →
      wpAny (model prog w) (A.deeper (envOf qual scope L' f cdv)) (execs body (envOf qual scope L' f cdv))
        (fun fl s' => LeaveK h₀ L m g R (match fl with | .ret v => v | _ => .none) s')
        (fun e s' => wpAny (model prog w) (A.deeper (envOf qual scope L' f cdv)) (leaving (envOf qual scope L' f cdv) e) (fun _ s'' => R (.error e) s'') (fun e' s'' => R (.error e') s'') s')
        { s with heap := h₁, toks := s.toks + (pre ++ [(nr, Value.ref D)]).length })
    (hco : scope.isCoroutine = false) (hgen : scope.isGenerator = false) (hk : scope.kind = .function)
    (hcell : ∀ x ∈ scope.names, x.2 ≠ .cell) : codeAny (model prog w) A (.call (.ref f) args) R s := by
  refine codeAny_call_function (fd := fnOf name qual params body scope dV kV doc pm an cdv ct) (body := body) hroom ((X₀.keeps F.keep) _ _ ho) rfl hco hgen rfl (codeRec_of (X₀.keeps F.keep) hcd) ?_
  rw [hb]
  refine wpAny_bind (newTuple_N F N (fun h' F' N' => wpAny_pure ?_) hsz)
  exact kp_frame (cl := []) (s := { s with heap := h' }) B F' N' T.nolimit hA hf hke (hloc _) (fun g L' h₁ FG FL NG BG st => h _ g L' h₁ (fun q hq => Heap.lt_size (N q hq).1) FG FL NG BG (X₀.keeps st) (T.keeps st)) hcell hk
end

section
variable {prog : Program} {w : World} {A : Around} {E : Value → Shared → Prop} {s : Shared} {h₀ : Heap} {L t : Addr} {m : Str → Option Value} {news : List (Addr × Obj)} {vs : List Value} {n : Nat}
theorem len_tupM {Q : Value → Shared → Prop} (N : News h₀ L s.heap news) (hm : (t, tupOf vs.toArray n) ∈ news) (hz : vs.length ≤ 1000000) (h : Q (.int (vs.length : Nat) (s.toks + 1)) { s with toks := s.toks + 1 + 1 }) :
    wpAny (model prog w) A (call (.builtin "len") [.ref t]) Q E s := by
  refine len_tuple (News.isTup N hm) (by simp; omega) ?_
  simpa using h
theorem len_listM {Q : Value → Shared → Prop} (N : News h₀ L s.heap news) (hm : (t, W.listOf vs.toArray n) ∈ news) (hz : vs.length ≤ 1000000) (h : Q (.int (vs.length : Nat) (s.toks + 1)) { s with toks := s.toks + 1 + 1 }) :
    wpAny (model prog w) A (call (.builtin "len") [.ref t]) Q E s := by
  refine len_list (News.isList N hm) (by simp; omega) ?_
  simpa using h
end

section
variable {prog : Program} {w : World} {A : Around} {E : Value → Shared → Prop} {s : Shared} {h₀ : Heap} {L t : Addr} {m : Str → Option Value} {news : List (Addr × Obj)} {vs : List Value} {n : Nat} {x : Value}
theorem append_M {Q : Value → Shared → Prop} (F : Fr h₀ L s.heap m) (N : News h₀ L s.heap news) (hs : Sep news) (hm : (t, W.listOf vs.toArray n) ∈ news) (hz : vs.length ≤ 1000000)
    (h : ∀ h', Fr h₀ L h' m → News h₀ L h' (upd news t (W.listOf (vs ++ [x]).toArray (n + 1))) → Q .none { s with heap := h' }) : wpAny (model prog w) A (call (.builtin "list.append") [.ref t, x]) Q E s := by
  refine append_K F N (upd_of hs hm) (fun h' F' N' => h h' F' ?_) (by rw [List.size_toArray]; exact seven_le hz)
  rw [List.push_toArray] at N'
  exact N'
end

theorem succ_touch {g : List PN} {k : Str} {b : Nat} (h : ∀ v ∈ g, v.succ.length ≤ b) : ∀ v ∈ touch g k, v.succ.length ≤ b := by
  intro v hv
  unfold touch at hv
  split at hv
  · exact h v hv
  · rcases List.mem_append.mp hv with hv | hv
    · exact h v hv
    · rw [List.mem_singleton.mp hv]; exact Nat.zero_le _
theorem succ_addN {g : List PN} {k : Str} {n : Int} {b : Nat} (h : ∀ v ∈ g, v.succ.length ≤ b) : ∀ v ∈ addN g k n, v.succ.length ≤ b := by
  intro v hv
  obtain ⟨u, hu, rfl⟩ := List.mem_map.mp hv
  split
  · exact h u hu
  · exact h u hu
theorem succ_addS {g : List PN} {p k : Str} {b : Nat} (h : ∀ v ∈ g, v.succ.length ≤ b) : ∀ v ∈ addS g p k, v.succ.length ≤ b + 1 := by
  intro v hv
  obtain ⟨u, hu, rfl⟩ := List.mem_map.mp hv
  split
  · have := h u hu; simp; exact this
  · exact Nat.le_succ_of_le (h u hu)
theorem succ_addPs {k : Str} : ∀ {ps : List Str} {g : List PN} {b : Nat}, (∀ v ∈ g, v.succ.length ≤ b) → ∀ v ∈ addPs g k ps, v.succ.length ≤ b + ps.length
  | [], _, _, h => h
  | p :: ps, g, b, h => by
    have := succ_addPs (k := k) (ps := ps) (succ_addS (p := p) (k := k) (succ_touch (k := p) h))
    intro v hv
    have := this v hv
    rw [List.length_cons]; omega

theorem ite_loc {α : Type} {x y : Str} {a b u : α} (h : x ≠ y) (e : b = u) : (if x = y then a else b) = u := by rw [if_neg h]; exact e
theorem ite_here {α : Type} {x : Str} {a b : α} : (if x = x then a else b) = a := if_pos rfl
end
section
/-! ### more of the sorter, plain -/
noncomputable def setN (g : List PN) (k : Str) (n : Int) : List PN := g.map fun v => if v.key = k then { v with np := n } else v
noncomputable def outG (g : List PN) (ks : List Str) : List PN := ks.foldl (fun g k => setN g k (-1)) g
noncomputable def npOf (g : List PN) (k : Str) : Int := ((g.find? fun v => decide (v.key = k)).map (·.np)).getD 0
noncomputable def sucOf (g : List PN) (k : Str) : List Str := ((g.find? fun v => decide (v.key = k)).map (·.succ)).getD []
noncomputable def lessS (st : List PN × List Str) (c : Str) : List PN × List Str := (addN st.1 c (-1), if npOf (addN st.1 c (-1)) c = 0 then st.2 ++ [c] else st.2)
noncomputable def doneOne (st : List PN × List Str) (k : Str) : List PN × List Str := (sucOf st.1 k).foldl lessS (setN st.1 k (-2), st.2)
noncomputable def DoneOk : List PN × List Str → List Str → Prop
  | _, [] => True
  | st, k :: ks => npOf st.1 k = -1 ∧ k ∈ st.1.map (·.key) ∧ DoneOk (doneOne st k) ks
theorem outG_snoc (g : List PN) (ks : List Str) (k : Str) : outG g (ks ++ [k]) = setN (outG g ks) k (-1) := by unfold outG; rw [List.foldl_append]; rfl
theorem find_pn {nds : List Nd} (hn : (nds.map (·.key)).Nodup) {v : Nd} (hv : v ∈ nds) : (nds.map Nd.pn).find? (fun u => decide (u.key = v.key)) = some v.pn := by
  induction nds with
  | nil => cases hv
  | cons u r ih =>
    rw [List.map_cons, List.nodup_cons] at hn
    rw [List.map_cons, List.find?_cons]
    by_cases h : u.key = v.key
    · rcases List.mem_cons.mp hv with rfl | hv
      · simp [Nd.pn]
      · exact absurd (List.mem_map.mpr ⟨v, hv, h.symm⟩) hn.1
    · rw [show (decide ((Nd.pn u).key = v.key)) = false from decide_eq_false h]
      rcases List.mem_cons.mp hv with rfl | hv
      · exact absurd rfl h
      · exact ih hn.2 hv
theorem npOf_nd {nds : List Nd} (hn : (nds.map (·.key)).Nodup) {v : Nd} (hv : v ∈ nds) : npOf (nds.map Nd.pn) v.key = v.np := by unfold npOf; rw [find_pn hn hv]; rfl
theorem sucOf_nd {nds : List Nd} (hn : (nds.map (·.key)).Nodup) {v : Nd} (hv : v ∈ nds) : sucOf (nds.map Nd.pn) v.key = v.succ := by unfold sucOf; rw [find_pn hn hv]; rfl
theorem keys_pn (nds : List Nd) : (nds.map Nd.pn).map (·.key) = nds.map (·.key) := by rw [List.map_map]; rfl
theorem pn_setN {a b : List Nd} {v v' : Nd} {n : Int} (hn : ((a ++ v :: b).map (·.key)).Nodup) (hv : v'.pn = { v.pn with np := n }) :
    (a ++ v' :: b).map Nd.pn = setN ((a ++ v :: b).map Nd.pn) v.key n :=
  map_one hn (by rw [hv]; simp [Nd.pn]) (fun u hu => by simp [hu]) ()
/-- what a node keeps while the sorter runs -/
noncomputable def Nd.sk (v : Nd) : Nd := { v with np := 0, pt := 0 }
theorem sk_put {a b : List Nd} {v : Nd} {np : Int} {pt : Tok} : (a ++ { v with np := np, pt := pt } :: b).map Nd.sk = (a ++ v :: b).map Nd.sk := by simp [Nd.sk]
theorem sk_keys {nds nds' : List Nd} (h : nds'.map Nd.sk = nds.map Nd.sk) : nds'.map (·.key) = nds.map (·.key) := by
  have e : ∀ l : List Nd, l.map (·.key) = (l.map Nd.sk).map (·.key) := fun l => by rw [List.map_map]; rfl
  rw [e, e nds, h]
theorem sk_mem {nds nds' : List Nd} (h : nds'.map Nd.sk = nds.map Nd.sk) {v : Nd} (hv : v ∈ nds) : ∃ v' ∈ nds', v'.sk = v.sk := by
  have : v.sk ∈ nds'.map Nd.sk := by rw [h]; exact List.mem_map.mpr ⟨v, hv, rfl⟩
  obtain ⟨v', hv', e⟩ := List.mem_map.mp this
  exact ⟨v', hv', e⟩
theorem sk_len {nds nds' : List Nd} (h : nds'.map Nd.sk = nds.map Nd.sk) : nds'.length = nds.length := by
  have := congrArg List.length h
  simpa using this
theorem key_at {nds : List Nd} {k : Str} (h : k ∈ nds.map (·.key)) : ∃ a v b, nds = a ++ v :: b ∧ v.key = k := by
  obtain ⟨v, hv, e⟩ := List.mem_map.mp h
  obtain ⟨a, b, e2⟩ := List.append_of_mem hv
  exact ⟨a, v, b, e2, e⟩

section
variable {C Ci : Addr} {S : So} {rest : List (Addr × Obj)} {h₀ h : Heap} {L : Addr} {r : Addr × List Value × Nat} {o' : Obj}
theorem So.mem_dx1 (hr : S.rdy = some r) : (S.dx, dictOf (sorterEs S.hs S.tk S.n2i (.ref r.1) (.int S.npo S.t1) (.int S.nfi S.t2)) S.dn) ∈ S.cells C Ci := by
  have h : (S.dx, S.dobj) ∈ S.cells C Ci := .tail _ (.head _)
  unfold So.dobj So.rv at h
  rw [hr] at h
  exact h
theorem So.mem_ra (hr : S.rdy = some r) : (r.1, W.listOf r.2.1.toArray r.2.2) ∈ S.cells C Ci := by
  unfold So.cells So.rcells
  rw [hr]
  exact .tail _ (.tail _ (.tail _ (.head _)))
theorem upd_ra (hr : S.rdy = some r) (hs : Sep (S.cells C Ci ++ rest)) (vs : List Value) (n : Nat) (rds : List Str) :
    upd (S.cells C Ci ++ rest) r.1 (W.listOf vs.toArray n) = ({ S with rdy := some (r.1, vs, n), rds := rds } : So).cells C Ci ++ rest := by
  have e : S.cells C Ci ++ rest = [(S.x, instObj C S.dx), (S.dx, S.dobj), (S.n2i, S.n2o)] ++ (r.1, W.listOf r.2.1.toArray r.2.2) :: (S.nds.flatMap (Nd.cells Ci) ++ rest) := by
    unfold So.cells So.rcells; rw [hr]; simp
  have e2 : ({ S with rdy := some (r.1, vs, n), rds := rds } : So).cells C Ci ++ rest = [(S.x, instObj C S.dx), (S.dx, S.dobj), (S.n2i, S.n2o)] ++ (r.1, W.listOf vs.toArray n) :: (S.nds.flatMap (Nd.cells Ci) ++ rest) := by
    unfold So.cells So.rcells So.dobj So.rv; rw [hr]; simp
  rw [e2, e]
  rw [e] at hs
  rw [upd_mid hs]
theorem news_dx (S' : So) (N : News h₀ L h (upd (S.cells C Ci ++ rest) S.dx o')) (hs : Sep (S.cells C Ci ++ rest)) (ho : o' = S'.dobj) (h1 : S'.x = S.x) (h2 : S'.dx = S.dx) (h3 : S'.n2i = S.n2i) (h4 : S'.n2o = S.n2o) (h5 : S'.nds = S.nds) (h6 : S'.rdy = S.rdy) :
    News h₀ L h (S'.cells C Ci ++ rest) ∧ Sep (S'.cells C Ci ++ rest) := by
  have e := upd_dx (C := C) (Ci := Ci) (rest := rest) hs o'
  have e2 : S'.cells C Ci ++ rest = (S.x, instObj C S.dx) :: (S.dx, o') :: (S.n2i, S.n2o) :: (S.rcells ++ S.nds.flatMap (Nd.cells Ci)) ++ rest := by
    unfold So.cells So.rcells; rw [h1, h2, h3, h4, h5, h6, ho]
  rw [← e2] at e
  exact ⟨e ▸ N, e ▸ hs.upd⟩
end
section
variable {hs : Nat → Int} {tk : Nat → Tok} {n2i : Addr} {rv np nf v k : Value} {n : Nat} {x : Int}
theorem put_rdy : (putL (Str.ofString "_ready_nodes") x k v (sorterEs hs tk n2i rv np nf), putN (Str.ofString "_ready_nodes") (sorterEs hs tk n2i rv np nf) n) = (sorterEs hs tk n2i v np nf, n) := by first | rfl | with_unfolding_all rfl
theorem put_npo : (putL (Str.ofString "_npassedout") x k v (sorterEs hs tk n2i rv np nf), putN (Str.ofString "_npassedout") (sorterEs hs tk n2i rv np nf) n) = (sorterEs hs tk n2i rv v nf, n) := by first | rfl | with_unfolding_all rfl
theorem put_nfi : (putL (Str.ofString "_nfinished") x k v (sorterEs hs tk n2i rv np nf), putN (Str.ofString "_nfinished") (sorterEs hs tk n2i rv np nf) n) = (sorterEs hs tk n2i rv np v, n) := by first | rfl | with_unfolding_all rfl
end
theorem done_at : ∀ {ks : List Str} {st : List PN × List Str} {i : Nat} {y : Str}, DoneOk st ks → ks[i]? = some y → npOf ((ks.take i).foldl doneOne st).1 y = -1 ∧ y ∈ ((ks.take i).foldl doneOne st).1.map (·.key)
  | [], _, _, _, _, h => by simp at h
  | k :: ks, st, 0, y, d, h => by
    obtain rfl : k = y := by simpa using h
    exact ⟨d.1, d.2.1⟩
  | k :: ks, st, i + 1, y, d, h => done_at (ks := ks) d.2.2 (by simpa using h)
theorem sk_eq {v v' : Nd} (h : v'.sk = v.sk) : v'.key = v.key ∧ v'.succ = v.succ ∧ v'.x = v.x ∧ v'.dx = v.dx ∧ v'.sa = v.sa ∧ v'.kt = v.kt ∧ v'.svs = v.svs ∧ v'.sn = v.sn := by
  unfold Nd.sk at h
  injection h with h1 h2 h3 h4 h5 h6 h7 h8 h9 h10
  exact ⟨h1, h3, h4, h5, h6, h7, h9, h10⟩
theorem So.cells_rds {C Ci : Addr} {S : So} {r : List Str} : ({ S with rds := r } : So).cells C Ci = S.cells C Ci := rfl
theorem foldl_take {α β : Type} {f : α → β → α} {l : List β} {j : Nat} {c : β} {z : α} (h : l[j]? = some c) : (l.take (j + 1)).foldl f z = f ((l.take j).foldl f z) c := by
  rw [List.take_add_one, h, List.foldl_append]; rfl
theorem npOf_addN {g : List PN} {c : Str} {n : Int} (h : c ∈ g.map (·.key)) : npOf (addN g c n) c = npOf g c + n := by
  unfold npOf addN
  induction g with
  | nil => cases h
  | cons u r ih =>
    rw [List.map_cons, List.find?_cons, List.find?_cons]
    by_cases hu : u.key = c
    · simp [hu]
    · have hc : c ∈ r.map (·.key) := by
        rcases List.mem_cons.mp h with h | h
        · exact absurd h.symm hu
        · exact h
      simp [hu]
      simpa using ih hc
theorem news_nxE {C Ci : Addr} {S : So} {rest : List (Addr × Obj)} {h₀ h : Heap} {L : Addr} {a b : List Nd} {v : Nd} {o' : Obj} (np' : Int) (N : News h₀ L h (upd (S.cells C Ci ++ rest) v.x o')) (hn : S.nds = a ++ v :: b) (hs : Sep (S.cells C Ci ++ rest)) {pt' : Tok} (ho : o' = ({ v with np := np', pt := pt' } : Nd).info Ci) :
    ∃ pt, News h₀ L h (({ S with nds := a ++ { v with np := np', pt := pt } :: b } : So).cells C Ci ++ rest) ∧ Sep (({ S with nds := a ++ { v with np := np', pt := pt } :: b } : So).cells C Ci ++ rest) := ⟨_, news_nx N hn hs ho⟩
theorem news_nx_raE {C Ci : Addr} {S : So} {rest : List (Addr × Obj)} {h₀ h : Heap} {L : Addr} {a b : List Nd} {v : Nd} {o' : Obj} {r : Addr × List Value × Nat} {vs : List Value} {n : Nat} (np' : Int) (N : News h₀ L h (upd (upd (S.cells C Ci ++ rest) v.x o') r.1 (W.listOf vs.toArray n))) (hn : S.nds = a ++ v :: b) (hr : S.rdy = some r) (hs : Sep (S.cells C Ci ++ rest)) {pt' : Tok} (ho : o' = ({ v with np := np', pt := pt' } : Nd).info Ci) (rds : List Str) :
    ∃ pt, News h₀ L h (({ S with nds := a ++ { v with np := np', pt := pt } :: b, rdy := some (r.1, vs, n), rds := rds } : So).cells C Ci ++ rest) ∧ Sep (({ S with nds := a ++ { v with np := np', pt := pt } :: b, rdy := some (r.1, vs, n), rds := rds } : So).cells C Ci ++ rest) := by
  have e := upd_nx (C := C) (Ci := Ci) (rest := rest) hn hs { v with np := np', pt := pt' } rfl rfl rfl rfl rfl
  have s2 : Sep (({ S with nds := a ++ { v with np := np', pt := pt' } :: b } : So).cells C Ci ++ rest) := e ▸ hs.upd
  have e2 := upd_ra (S := { S with nds := a ++ { v with np := np', pt := pt' } :: b }) (C := C) (Ci := Ci) (rest := rest) hr s2 vs n rds
  refine ⟨pt', ?_, ?_⟩
  · rw [ho, e, e2] at N
    exact N
  · rw [← e2]; exact s2.upd
theorem news_nfiE {C Ci : Addr} {S : So} {rest : List (Addr × Obj)} {h₀ h : Heap} {L : Addr} {o' : Obj} (nf : Int) (N : News h₀ L h (upd (S.cells C Ci ++ rest) S.dx o')) (hs : Sep (S.cells C Ci ++ rest)) {t : Tok} (ho : o' = ({ S with nfi := nf, t2 := t } : So).dobj) :
    ∃ t, News h₀ L h (({ S with nfi := nf, t2 := t } : So).cells C Ci ++ rest) ∧ Sep (({ S with nfi := nf, t2 := t } : So).cells C Ci ++ rest) := ⟨t, news_dx _ N hs ho rfl rfl rfl rfl rfl rfl⟩
theorem done_take {ks : List Str} {st : List PN × List Str} {i : Nat} {y : Str} (h : ks[i]? = some y) : (ks.take (i + 1)).foldl doneOne st = doneOne ((ks.take i).foldl doneOne st) y := foldl_take h
end
section
/-! ### the sorter, plain: look-ups -/
noncomputable def kys (g : List PN) : List Str := g.map (·.key)
theorem hasK_iff {g : List PN} {k : Str} : hasK g k = true ↔ k ∈ kys g := by
  unfold hasK kys
  rw [List.any_eq_true, List.mem_map]
  exact ⟨fun ⟨v, hv, e⟩ => ⟨v, hv, of_decide_eq_true e⟩, fun ⟨v, hv, e⟩ => ⟨v, hv, decide_eq_true e⟩⟩
theorem find_map {f : PN → PN} (hf : ∀ v, (f v).key = v.key) (g : List PN) (y : Str) : (g.map f).find? (fun v => decide (v.key = y)) = (g.find? fun v => decide (v.key = y)).map f := by
  rw [List.find?_map]
  congr 2
  funext v
  show decide ((f v).key = y) = _
  rw [hf]
theorem find_key {g : List PN} {y : Str} {v : PN} (h : g.find? (fun v => decide (v.key = y)) = some v) : v.key = y := by
  have := List.find?_some h
  exact of_decide_eq_true this
theorem find_none {g : List PN} {y : Str} : g.find? (fun v => decide (v.key = y)) = none ↔ y ∉ kys g := by
  rw [List.find?_eq_none]
  unfold kys
  rw [List.mem_map]
  exact ⟨fun h ⟨v, hv, e⟩ => h v hv (decide_eq_true e), fun h v hv e => h ⟨v, hv, of_decide_eq_true e⟩⟩
theorem kys_map {f : PN → PN} (hf : ∀ v, (f v).key = v.key) (g : List PN) : kys (g.map f) = kys g := by
  unfold kys
  rw [List.map_map]
  exact List.map_congr_left fun v _ => hf v
theorem kys_addN (g : List PN) (k : Str) (n : Int) : kys (addN g k n) = kys g := kys_map (fun v => by show (if v.key = k then ({ v with np := v.np + n } : PN) else v).key = _; split <;> rfl) g
theorem kys_addS (g : List PN) (p k : Str) : kys (addS g p k) = kys g := kys_map (fun v => by show (if v.key = p then ({ v with succ := v.succ ++ [k] } : PN) else v).key = _; split <;> rfl) g
theorem kys_setN (g : List PN) (k : Str) (n : Int) : kys (setN g k n) = kys g := kys_map (fun v => by show (if v.key = k then ({ v with np := n } : PN) else v).key = _; split <;> rfl) g
theorem np_addN {g : List PN} {k y : Str} {n : Int} : npOf (addN g k n) y = npOf g y + if y = k ∧ k ∈ kys g then n else 0 := by
  unfold npOf addN
  rw [find_map fun v => by split <;> rfl]
  cases h : g.find? (fun v => decide (v.key = y)) with
  | none =>
    rw [if_neg]
    · rfl
    · rintro ⟨rfl, hk⟩
      exact find_none.mp h hk
  | some v =>
    have hy := find_key h
    have hm : y ∈ kys g := hy ▸ List.mem_map.mpr ⟨v, List.mem_of_find?_eq_some h, rfl⟩
    by_cases hyk : y = k
    · subst hyk
      simp [hy, hm]
    · simp [hy, hyk]
theorem suc_addN {g : List PN} {k y : Str} {n : Int} : sucOf (addN g k n) y = sucOf g y := by
  unfold sucOf addN
  rw [find_map fun v => by split <;> rfl, Option.map_map]
  congr 2
  funext v
  show (if v.key = k then ({ v with np := v.np + n } : PN) else v).succ = _
  split <;> rfl
theorem np_addS {g : List PN} {p k y : Str} : npOf (addS g p k) y = npOf g y := by
  unfold npOf addS
  rw [find_map fun v => by split <;> rfl, Option.map_map]
  congr 2
  funext v
  show (if v.key = p then ({ v with succ := v.succ ++ [k] } : PN) else v).np = _
  split <;> rfl
theorem suc_addS {g : List PN} {p k y : Str} (hp : p ∈ kys g) : sucOf (addS g p k) y = sucOf g y ++ if y = p then [k] else [] := by
  unfold sucOf addS
  rw [find_map fun v => by split <;> rfl]
  cases h : g.find? (fun v => decide (v.key = y)) with
  | none =>
    rw [if_neg]
    · rfl
    · rintro rfl
      exact find_none.mp h hp
  | some v =>
    have hy := find_key h
    by_cases hyk : y = p
    · subst hyk
      simp [hy]
    · simp [hy, hyk]
theorem np_setN {g : List PN} {k y : Str} {n : Int} (hk : k ∈ kys g) : npOf (setN g k n) y = if y = k then n else npOf g y := by
  unfold npOf setN
  rw [find_map fun v => by split <;> rfl]
  cases h : g.find? (fun v => decide (v.key = y)) with
  | none =>
    rw [if_neg]
    · rfl
    · rintro rfl
      exact find_none.mp h hk
  | some v =>
    have hy := find_key h
    by_cases hyk : y = k
    · subst hyk
      simp [hy]
    · simp [hy, hyk]
theorem suc_setN {g : List PN} {k y : Str} {n : Int} : sucOf (setN g k n) y = sucOf g y := by
  unfold sucOf setN
  rw [find_map fun v => by split <;> rfl, Option.map_map]
  congr 2
  funext v
  show (if v.key = k then ({ v with np := n } : PN) else v).succ = _
  split <;> rfl
theorem kys_touch (g : List PN) (k : Str) : kys (touch g k) = if k ∈ kys g then kys g else kys g ++ [k] := by
  unfold touch
  by_cases h : k ∈ kys g
  · rw [if_pos h, if_pos (hasK_iff.mpr h)]
  · rw [if_neg h, if_neg fun e => h (hasK_iff.mp e)]
    unfold kys; simp
theorem np_touch {g : List PN} {k y : Str} : npOf (touch g k) y = npOf g y := by
  unfold touch
  split
  · rfl
  · rename_i h
    have hk : k ∉ kys g := fun e => h (hasK_iff.mpr e)
    unfold npOf
    rw [List.find?_append]
    cases e : g.find? (fun v => decide (v.key = y)) with
    | some v => rfl
    | none =>
      by_cases hy : k = y <;> simp [hy]
theorem suc_touch {g : List PN} {k y : Str} : sucOf (touch g k) y = sucOf g y := by
  unfold touch
  split
  · rfl
  · rename_i h
    unfold sucOf
    rw [List.find?_append]
    cases e : g.find? (fun v => decide (v.key = y)) with
    | some v => rfl
    | none =>
      by_cases hy : k = y <;> simp [hy]
theorem mem_touch {g : List PN} {k y : Str} : y ∈ kys (touch g k) ↔ y ∈ kys g ∨ y = k := by
  rw [kys_touch]
  split
  · exact ⟨.inl, fun h => h.elim id fun e => e ▸ by assumption⟩
  · simp
theorem nod_touch {g : List PN} {k : Str} (h : (kys g).Nodup) : (kys (touch g k)).Nodup := by
  rw [kys_touch]
  split
  · exact h
  · rename_i hk
    rw [List.nodup_append]
    exact ⟨h, by simp, fun a ha b hb => by rw [List.mem_singleton.mp hb]; exact fun e => hk (e ▸ ha)⟩
theorem addPs_cons (g : List PN) (k p : Str) (ps : List Str) : addPs g k (p :: ps) = addPs (addS (touch g p) p k) k ps := rfl
theorem np_addPs {k y : Str} : ∀ {ps : List Str} {g : List PN}, npOf (addPs g k ps) y = npOf g y
  | [], g => rfl
  | p :: ps, g => by rw [addPs_cons, np_addPs, np_addS, np_touch]
theorem suc_addPs {k y : Str} : ∀ {ps : List Str} {g : List PN}, sucOf (addPs g k ps) y = sucOf g y ++ List.replicate (ps.count y) k
  | [], g => by simp [addPs]
  | p :: ps, g => by
    rw [addPs_cons, suc_addPs, suc_addS (mem_touch.mpr (.inr rfl)), suc_touch, List.append_assoc, List.count_cons]
    congr 1
    by_cases h : y = p
    · subst h
      simp [List.replicate_succ]
    · have h' : ¬ p = y := fun e => h e.symm
      simp [h, h']
theorem mem_addPs {k y : Str} : ∀ {ps : List Str} {g : List PN}, y ∈ kys (addPs g k ps) ↔ y ∈ kys g ∨ y ∈ ps
  | [], g => by simp [addPs]
  | p :: ps, g => by
    rw [addPs_cons, mem_addPs, kys_addS, mem_touch, List.mem_cons, or_assoc]
theorem nod_addPs {k : Str} : ∀ {ps : List Str} {g : List PN}, (kys g).Nodup → (kys (addPs g k ps)).Nodup
  | [], g, h => h
  | p :: ps, g, h => by
    rw [addPs_cons]
    exact nod_addPs (by rw [kys_addS]; exact nod_touch h)
theorem np_addG {g : List PN} {k y : Str} {ps : List Str} : npOf (addG g k ps) y = npOf g y + if y = k then (ps.length : Int) else 0 := by
  unfold addG
  rw [np_addPs, np_addN, np_touch]
  by_cases h : y = k
  · subst h
    simp [mem_touch]
  · simp [h]
theorem suc_addG {g : List PN} {k y : Str} {ps : List Str} : sucOf (addG g k ps) y = sucOf g y ++ List.replicate (ps.count y) k := by
  unfold addG
  rw [suc_addPs, suc_addN, suc_touch]
theorem mem_addG {g : List PN} {k y : Str} {ps : List Str} : y ∈ kys (addG g k ps) ↔ y ∈ kys g ∨ y = k ∨ y ∈ ps := by
  unfold addG
  rw [mem_addPs, kys_addN, mem_touch, or_assoc]
theorem nod_addG {g : List PN} {k : Str} {ps : List Str} (h : (kys g).Nodup) : (kys (addG g k ps)).Nodup := by
  unfold addG
  exact nod_addPs (by rw [kys_addN]; exact nod_touch h)
theorem np_at {g : List PN} (hn : (kys g).Nodup) {v : PN} (hv : v ∈ g) : npOf g v.key = v.np ∧ sucOf g v.key = v.succ := by
  have : g.find? (fun u => decide (u.key = v.key)) = some v := by
    induction g with
    | nil => cases hv
    | cons u r ih =>
      unfold kys at hn ih
      rw [List.map_cons, List.nodup_cons] at hn
      rw [List.find?_cons]
      by_cases h : u.key = v.key
      · rcases List.mem_cons.mp hv with rfl | hv
        · simp
        · exact absurd (List.mem_map.mpr ⟨v, hv, h.symm⟩) hn.1
      · rw [decide_eq_false h]
        rcases List.mem_cons.mp hv with rfl | hv
        · exact absurd rfl h
        · exact ih hn.2 hv
  unfold npOf sucOf
  rw [this]
  exact ⟨rfl, rfl⟩
/-! ### all is told: a graph -/
noncomputable def addAll (ps : Str → List Str) (ks : List Str) : List PN := ks.foldl (fun g k => addG g k (ps k)) []
theorem addAll_snoc (ps : Str → List Str) (ks : List Str) (k : Str) : addAll ps (ks ++ [k]) = addG (addAll ps ks) k (ps k) := by unfold addAll; rw [List.foldl_append]; rfl
theorem snoc_ind {α : Type} {P : List α → Prop} (h0 : P []) (h1 : ∀ l a, P l → P (l ++ [a])) (l : List α) : P l := by
  have : ∀ r : List α, P r.reverse := fun r => by
    induction r with
    | nil => exact h0
    | cons a r ih => rw [List.reverse_cons]; exact h1 _ _ ih
  rw [← List.reverse_reverse l]; exact this _
theorem addAll_nod (ps : Str → List Str) (ks : List Str) : (kys (addAll ps ks)).Nodup := by
  induction ks using snoc_ind with
  | h0 => exact List.nodup_nil
  | h1 l a ih => rw [addAll_snoc]; exact nod_addG ih
theorem addAll_mem (ps : Str → List Str) (ks : List Str) {y : Str} : y ∈ kys (addAll ps ks) ↔ y ∈ ks ∨ ∃ k ∈ ks, y ∈ ps k := by
  induction ks using snoc_ind with
  | h0 => simp [addAll, kys]
  | h1 l a ih =>
    rw [addAll_snoc, mem_addG, ih, List.mem_append, List.mem_singleton]
    constructor
    · rintro ((h | ⟨k, hk, h⟩) | h | h)
      · exact .inl (.inl h)
      · exact .inr ⟨k, List.mem_append_left _ hk, h⟩
      · exact .inl (.inr h)
      · exact .inr ⟨a, by simp, h⟩
    · rintro ((h | h) | ⟨k, hk, h⟩)
      · exact .inl (.inl h)
      · exact .inr (.inl h)
      · rcases List.mem_append.mp hk with hk | hk
        · exact .inl (.inr ⟨k, hk, h⟩)
        · rw [List.mem_singleton.mp hk] at h; exact .inr (.inr h)
theorem addAll_np (ps : Str → List Str) {ks : List Str} (hn : ks.Nodup) {y : Str} : npOf (addAll ps ks) y = if y ∈ ks then ((ps y).length : Int) else 0 := by
  induction ks using snoc_ind with
  | h0 => rfl
  | h1 l a ih =>
    rw [List.nodup_append] at hn
    rw [addAll_snoc, np_addG, ih hn.1]
    by_cases h : y = a
    · subst h
      have : y ∉ l := fun hm => hn.2.2 y hm y (by simp) rfl
      simp [this]
    · simp [h]
theorem addAll_suc (ps : Str → List Str) {ks : List Str} {y : Str} : sucOf (addAll ps ks) y = ks.flatMap fun k => List.replicate ((ps k).count y) k := by
  induction ks using snoc_ind with
  | h0 => rfl
  | h1 l a ih =>
    rw [addAll_snoc, suc_addG, ih, List.flatMap_append]
    simp
theorem addAll_cnt (ps : Str → List Str) {ks : List Str} (hn : ks.Nodup) {y c : Str} : (sucOf (addAll ps ks) y).count c = if c ∈ ks then (ps c).count y else 0 := by
  rw [addAll_suc]
  induction ks with
  | nil => rfl
  | cons k r ih =>
    rw [List.nodup_cons] at hn
    rw [List.flatMap_cons, List.count_append, ih hn.2, List.count_replicate]
    by_cases h : k = c
    · subst h
      simp [hn.1]
    · have h' : ¬ c = k := fun e => h e.symm
      simp [h, h']
/-! ### a round -/
/-- the graph: who stands behind whom, how often -/
structure Gr (keys : List Str) (P S : Str → List Str) : Prop where
  nod : keys.Nodup
  pin : ∀ c ∈ keys, ∀ q ∈ P c, q ∈ keys
  sin : ∀ c, ∀ q ∈ S c, q ∈ keys
  cnt : ∀ c ∈ keys, ∀ k, (S k).count c = (P c).count k
theorem addAll_gr {ps : Str → List Str} {ks : List Str} (hn : ks.Nodup) (hp : ∀ k ∈ ks, ∀ q ∈ ps k, q ∈ ks) : Gr (kys (addAll ps ks)) ps (sucOf (addAll ps ks)) := by
  have hm : ∀ {y}, y ∈ kys (addAll ps ks) ↔ y ∈ ks := fun {y} => by
    rw [addAll_mem]
    exact ⟨fun h => h.elim id fun ⟨k, hk, h⟩ => hp k hk y h, .inl⟩
  refine ⟨addAll_nod _ _, fun c hc q hq => hm.mpr (hp c (hm.mp hc) q hq), fun c q hq => ?_, fun c hc k => ?_⟩
  · have h := List.count_pos_iff.mpr hq
    rw [addAll_cnt ps hn] at h
    by_cases e : q ∈ ks
    · exact hm.mpr e
    · rw [if_neg e] at h; lia
  · rw [addAll_cnt ps hn, if_pos (hm.mp hc)]
/-- the sorter behind what is done -/
structure Kn (keys : List Str) (P S : Str → List Str) (D : List Str) (g : List PN) (rd : List Str) : Prop where
  kye : kys g = keys
  suc : sucOf g = S
  cl : ∀ k ∈ D, k ∈ keys ∧ ∀ q ∈ P k, q ∈ D
  np : ∀ k ∈ keys, npOf g k = if k ∈ D then -2 else (((P k).filter fun q => decide (q ∉ D)).length : Int)
  rdn : rd.Nodup
  rdm : ∀ k, k ∈ rd ↔ k ∈ keys ∧ k ∉ D ∧ ∀ q ∈ P k, q ∈ D
theorem less_fold {cs : List Str} : ∀ {g : List PN} {rd : List Str}, (∀ c ∈ cs, c ∈ kys g ∧ (cs.count c : Int) ≤ npOf g c) →
    ∃ nw, (cs.foldl lessS (g, rd)).2 = rd ++ nw ∧ nw.Nodup ∧ (∀ c, c ∈ nw ↔ c ∈ cs ∧ npOf g c = (cs.count c : Int)) ∧ kys (cs.foldl lessS (g, rd)).1 = kys g ∧ sucOf (cs.foldl lessS (g, rd)).1 = sucOf g ∧
      ∀ c ∈ kys g, npOf (cs.foldl lessS (g, rd)).1 c = npOf g c - (cs.count c : Int) := by
  induction cs with
  | nil => intro g rd _; exact ⟨[], by simp, List.nodup_nil, fun c => by simp, rfl, rfl, fun c _ => by simp⟩
  | cons c r ih =>
    intro g rd h
    obtain ⟨hc, hcn⟩ := h c (.head _)
    have hk : kys (addN g c (-1)) = kys g := kys_addN _ _ _
    have hnp : ∀ d, npOf (addN g c (-1)) d = npOf g d - if d = c then 1 else 0 := fun d => by
      rw [np_addN]
      by_cases e : d = c
      · rw [if_pos ⟨e, hc⟩, if_pos e]; lia
      · rw [if_neg (fun x => e x.1), if_neg e]; lia
    have hsame : ∀ d, ((c :: r).count d : Int) = (r.count d : Int) + if d = c then 1 else 0 := fun d => by
      rw [List.count_cons]
      by_cases e : d = c
      · subst e; simp
      · have e' : ¬ c = d := fun x => e x.symm
        simp [e, e']
    rw [List.foldl_cons]
    obtain ⟨nw, h1, h2, h3, h4, h5, h6⟩ := ih (g := (lessS (g, rd) c).1) (rd := (lessS (g, rd) c).2) (fun d hd => by
      show d ∈ kys (addN g c (-1)) ∧ _ ≤ npOf (addN g c (-1)) d
      obtain ⟨a, b⟩ := h d (.tail _ hd)
      rw [hk, hnp]
      rw [hsame] at b
      exact ⟨a, by lia⟩)
    have hst : lessS (g, rd) c = ((lessS (g, rd) c).1, (lessS (g, rd) c).2) := rfl
    rw [hst]
    have hc1 := hnp c
    rw [if_pos rfl] at hc1
    have hcc := hsame c
    rw [if_pos rfl] at hcc
    rw [hcc] at hcn
    by_cases hz : npOf (addN g c (-1)) c = 0
    · have e2 : (lessS (g, rd) c).2 = rd ++ [c] := by unfold lessS; exact if_pos hz
      have hr0 : r.count c = 0 := by lia
      have hcr : c ∉ r := fun hm => by have := List.count_pos_iff.mpr hm; lia
      refine ⟨c :: nw, by rw [h1, e2]; simp, ?_, fun d => ?_, h4.trans hk, h5.trans (funext fun y => suc_addN), fun d hd => ?_⟩
      · rw [List.nodup_cons]
        exact ⟨fun hm => hcr ((h3 c).mp hm).1, h2⟩
      · rw [List.mem_cons, h3, List.mem_cons, hsame]
        show d = c ∨ d ∈ r ∧ npOf (addN g c (-1)) d = _ ↔ _
        rw [hnp]
        by_cases e : d = c
        · subst e
          rw [if_pos rfl]
          exact ⟨fun _ => ⟨.inl rfl, by lia⟩, fun _ => .inl rfl⟩
        · rw [if_neg e]
          exact ⟨fun x => x.elim (fun y => absurd y e) fun y => ⟨.inr y.1, by lia⟩, fun ⟨a, b⟩ => .inr ⟨a.resolve_left e, by lia⟩⟩
      · rw [h6 d (by show d ∈ kys (addN g c (-1)); rw [hk]; exact hd)]
        show npOf (addN g c (-1)) d - _ = _
        rw [hnp, hsame]; lia
    · have e2 : (lessS (g, rd) c).2 = rd := by unfold lessS; exact if_neg hz
      refine ⟨nw, by rw [h1, e2], h2, fun d => ?_, h4.trans hk, h5.trans (funext fun y => suc_addN), fun d hd => ?_⟩
      · rw [h3, List.mem_cons, hsame]
        show d ∈ r ∧ npOf (addN g c (-1)) d = _ ↔ _
        rw [hnp]
        by_cases e : d = c
        · subst e
          rw [if_pos rfl]
          constructor
          · rintro ⟨a, b⟩
            exact ⟨.inl rfl, by lia⟩
          · rintro ⟨_, b⟩
            have : r.count d ≠ 0 := by lia
            exact ⟨List.count_pos_iff.mp (by lia), by lia⟩
        · rw [if_neg e]
          exact ⟨fun ⟨a, b⟩ => ⟨.inr a, by lia⟩, fun ⟨a, b⟩ => ⟨a.resolve_left e, by lia⟩⟩
      · rw [h6 d (by show d ∈ kys (addN g c (-1)); rw [hk]; exact hd)]
        show npOf (addN g c (-1)) d - _ = _
        rw [hnp, hsame]; lia
theorem out_np {g : List PN} {y : Str} {ks : List Str} (h : ∀ k ∈ ks, k ∈ kys g) : kys (outG g ks) = kys g ∧ sucOf (outG g ks) = sucOf g ∧ npOf (outG g ks) y = if y ∈ ks then -1 else npOf g y := by
  induction ks using snoc_ind with
  | h0 => exact ⟨rfl, rfl, rfl⟩
  | h1 l a ih =>
    obtain ⟨i1, i2, i3⟩ := ih fun k hk => h k (List.mem_append_left _ hk)
    rw [outG_snoc]
    refine ⟨(kys_setN _ _ _).trans i1, (funext fun _ => suc_setN).trans i2, ?_⟩
    rw [np_setN (by rw [i1]; exact h a (by simp)), i3]
    by_cases e : y = a
    · simp [e]
    · simp [e]
theorem filt_cnt {X : List Str} {k : Str} (hk : k ∉ X) (l : List Str) : (l.filter fun q => decide (q ∉ X)).length = (l.filter fun q => decide (q ∉ X ++ [k])).length + l.count k := by
  induction l with
  | nil => rfl
  | cons q r ih =>
    rw [List.filter_cons, List.filter_cons, List.count_cons]
    by_cases e : q = k
    · subst e
      simp [hk] at ih ⊢
      lia
    · by_cases hx : q ∈ X
      · simp [hx, e] at ih ⊢
        lia
      · simp [hx, e] at ih ⊢
        lia
/-- within a round: a is done, b is handed out -/
structure Km (keys : List Str) (P S : Str → List Str) (D a b : List Str) (st : List PN × List Str) : Prop where
  kye : kys st.1 = keys
  suc : sucOf st.1 = S
  np : ∀ k ∈ keys, npOf st.1 k = if k ∈ D ++ a then -2 else if k ∈ b then -1 else (((P k).filter fun q => decide (q ∉ D ++ a)).length : Int)
  rdn : st.2.Nodup
  rdm : ∀ k, k ∈ st.2 ↔ k ∈ keys ∧ k ∉ D ++ (a ++ b) ∧ ∀ q ∈ P k, q ∈ D ++ a
theorem Km.step {keys : List Str} {P S : Str → List Str} {D a b : List Str} {k : Str} {st : List PN × List Str} (G : Gr keys P S) (hD : ∀ k ∈ D, k ∈ keys ∧ ∀ q ∈ P k, q ∈ D)
    (hr : ∀ c ∈ a ++ k :: b, c ∈ keys ∧ c ∉ D ∧ ∀ q ∈ P c, q ∈ D) (hn : (a ++ k :: b).Nodup) (h : Km keys P S D a (k :: b) st) :
    npOf st.1 k = -1 ∧ k ∈ st.1.map (·.key) ∧ Km keys P S D (a ++ [k]) b (doneOne st k) := by
  obtain ⟨hk1, hk2, hk3⟩ := hr k (by simp)
  have hka : k ∉ a := fun hm => (List.nodup_append.mp hn).2.2 k hm k (.head _) rfl
  have hkb : k ∉ b := (List.nodup_cons.mp (List.nodup_append.mp hn).2.1).1
  have hkD : k ∉ D ++ a := fun hm => (List.mem_append.mp hm).elim hk2 hka
  have hk0 : k ∈ kys st.1 := h.kye ▸ hk1
  refine ⟨?_, hk0, ?_⟩
  · rw [h.np k hk1, if_neg hkD, if_pos (.head _)]
  -- who stands behind k
  have hs : ∀ c ∈ S k, c ∈ keys ∧ k ∈ P c ∧ c ∉ D ++ a ∧ c ∉ k :: b ∧ (S k).count c = (P c).count k := fun c hc => by
    have h1 := G.sin k c hc
    have h2 := G.cnt c h1 k
    have h3 : k ∈ P c := List.count_pos_iff.mp (by rw [← h2]; exact List.count_pos_iff.mpr hc)
    refine ⟨h1, h3, fun hm => ?_, fun hm => ?_, h2⟩
    · rcases List.mem_append.mp hm with hm | hm
      · exact hk2 ((hD c hm).2 k h3)
      · exact hk2 ((hr c (List.mem_append_left _ hm)).2.2 k h3)
    · exact hk2 ((hr c (List.mem_append_right _ hm)).2.2 k h3)
  have kset : kys (setN st.1 k (-2)) = keys := (kys_setN _ _ _).trans h.kye
  have hnp : ∀ c, npOf (setN st.1 k (-2)) c = if c = k then -2 else npOf st.1 c := fun c => np_setN hk0
  have hpos : ∀ c ∈ S k, npOf (setN st.1 k (-2)) c = (((P c).filter fun q => decide (q ∉ D ++ (a ++ [k]))).length : Int) + ((S k).count c : Int) := fun c hc => by
    obtain ⟨x1, x2, x3, x4, x5⟩ := hs c hc
    rw [hnp, if_neg (fun e : c = k => x4 (by rw [e]; exact .head _)), h.np c x1, if_neg x3, if_neg x4, x5, filt_cnt hkD, ← List.append_assoc]
    lia
  obtain ⟨nw, h1, h2, h3, h4, h5, h6⟩ := less_fold (g := setN st.1 k (-2)) (rd := st.2) (cs := S k) (fun c hc => ⟨kset ▸ (hs c hc).1, by rw [hpos c hc]; lia⟩)
  have hd : doneOne st k = (S k).foldl lessS (setN st.1 k (-2), st.2) := by unfold doneOne; rw [h.suc]
  rw [← hd] at h1 h4 h5 h6
  have hnw : ∀ c, c ∈ nw ↔ c ∈ S k ∧ ∀ q ∈ P c, q ∈ D ++ (a ++ [k]) := fun c => by
    rw [h3]
    refine and_congr_right fun hc => ?_
    rw [hpos c hc]
    constructor
    · intro e q hq
      have e0 : ((P c).filter fun q => decide (q ∉ D ++ (a ++ [k]))).length = 0 := by lia
      have e1 := List.length_eq_zero_iff.mp e0
      rw [List.filter_eq_nil_iff] at e1
      have := e1 q hq
      exact Decidable.not_not.mp fun hc => this (decide_eq_true hc)
    · intro e
      have z : ((P c).filter fun q => decide (q ∉ D ++ (a ++ [k]))) = [] := List.filter_eq_nil_iff.mpr fun q hq hc => (of_decide_eq_true hc : q ∉ D ++ (a ++ [k])) (e q hq)
      rw [z]
      simp
  refine ⟨h4.trans kset, h5.trans ((funext fun _ => suc_setN).trans h.suc), fun c hc => ?_, ?_, fun c => ?_⟩
  · rw [h6 c (kset ▸ hc), hnp]
    by_cases e : c = k
    · subst e
      have hcs : c ∉ S c := fun hm => (hs c hm).2.2.2.1 (.head _)
      rw [if_pos rfl, List.count_eq_zero.mpr hcs, if_pos (by simp)]; rfl
    · rw [if_neg e, h.np c hc]
      have m1 : c ∈ D ++ (a ++ [k]) ↔ c ∈ D ++ a := by simp [e]
      have m2 : c ∈ k :: b ↔ c ∈ b := by simp [e]
      by_cases x1 : c ∈ D ++ a
      · have hcs : c ∉ S k := fun hm => (hs c hm).2.2.1 x1
        rw [if_pos x1, if_pos (m1.mpr x1), List.count_eq_zero.mpr hcs]; rfl
      · rw [if_neg x1, if_neg (fun y => x1 (m1.mp y))]
        by_cases x2 : c ∈ b
        · have hcs : c ∉ S k := fun hm => (hs c hm).2.2.2.1 (m2.mpr x2)
          rw [if_pos (m2.mpr x2), if_pos x2, List.count_eq_zero.mpr hcs]; rfl
        · rw [if_neg (fun y => x2 (m2.mp y)), if_neg x2, G.cnt c hc k, filt_cnt hkD, List.append_assoc]
          lia
  · rw [h1, List.nodup_append]
    refine ⟨h.rdn, h2, fun x hx y hy e => ?_⟩
    subst e
    exact hkD (((h.rdm x).mp hx).2.2 k (hs x ((hnw x).mp hy).1).2.1)
  · rw [h1, List.mem_append, h.rdm, hnw]
    have hab : a ++ [k] ++ b = a ++ k :: b := by simp
    rw [hab]
    constructor
    · rintro (⟨x1, x2, x3⟩ | ⟨x1, x2⟩)
      · exact ⟨x1, x2, fun q hq => by rw [← List.append_assoc]; exact List.mem_append_left _ (x3 q hq)⟩
      · obtain ⟨y1, y2, y3, y4, y5⟩ := hs c x1
        refine ⟨y1, fun hm => ?_, x2⟩
        rw [← List.append_assoc] at hm
        exact (List.mem_append.mp hm).elim y3 y4
    · rintro ⟨x1, x2, x3⟩
      by_cases e : k ∈ P c
      · refine .inr ⟨List.count_pos_iff.mp ?_, x3⟩
        rw [G.cnt c x1 k]; exact List.count_pos_iff.mpr e
      · refine .inl ⟨x1, x2, fun q hq => ?_⟩
        have := x3 q hq
        rw [← List.append_assoc] at this
        rcases List.mem_append.mp this with t | t
        · exact t
        · rw [List.mem_singleton.mp t] at hq; exact absurd hq e
theorem Km.run {keys : List Str} {P S : Str → List Str} {D : List Str} (G : Gr keys P S) (hD : ∀ k ∈ D, k ∈ keys ∧ ∀ q ∈ P k, q ∈ D) : ∀ {b a : List Str} {st : List PN × List Str},
    (∀ c ∈ a ++ b, c ∈ keys ∧ c ∉ D ∧ ∀ q ∈ P c, q ∈ D) → (a ++ b).Nodup → Km keys P S D a b st → DoneOk st b ∧ Km keys P S D (a ++ b) [] (b.foldl doneOne st)
  | [], a, st, _, _, h => ⟨trivial, by rw [List.append_nil]; exact h⟩
  | k :: b, a, st, hr, hn, h => by
    obtain ⟨h1, h2, h3⟩ := h.step G hD hr hn
    have e : a ++ [k] ++ b = a ++ k :: b := by simp
    obtain ⟨i1, i2⟩ := Km.run G hD (b := b) (a := a ++ [k]) (by rw [e]; exact hr) (by rw [e]; exact hn) h3
    rw [e] at i2
    exact ⟨⟨h1, h2, i1⟩, i2⟩
/-- a round -/
theorem Kn.round {keys : List Str} {P S : Str → List Str} {D : List Str} {g : List PN} {rd : List Str} (G : Gr keys P S) (h : Kn keys P S D g rd) :
    DoneOk (outG g rd, []) rd ∧ Kn keys P S (D ++ rd) (rd.foldl doneOne (outG g rd, [])).1 (rd.foldl doneOne (outG g rd, [])).2 := by
  have hr : ∀ c ∈ rd, c ∈ kys g := fun c hc => h.kye ▸ ((h.rdm c).mp hc).1
  have h0 : Km keys P S D [] rd (outG g rd, []) := by
    refine ⟨(out_np (y := Str.empty) hr).1.trans h.kye, (out_np (y := Str.empty) hr).2.1.trans h.suc, fun k hk => ?_, List.nodup_nil, fun k => ?_⟩
    · show npOf (outG g rd) k = _
      rw [(out_np hr).2.2, h.np k hk, List.append_nil]
      by_cases x1 : k ∈ D
      · have x2 : k ∉ rd := fun hm => ((h.rdm k).mp hm).2.1 x1
        rw [if_neg x2, if_pos x1, if_pos x1]
      · rw [if_neg x1, if_neg x1]
    · rw [List.append_nil, List.nil_append]
      constructor
      · intro hm; cases hm
      · rintro ⟨x1, x2, x3⟩
        exact absurd (List.mem_append_right D ((h.rdm k).mpr ⟨x1, fun hm => x2 (List.mem_append_left _ hm), x3⟩)) x2
  obtain ⟨i1, i2⟩ := Km.run G h.cl (a := []) (b := rd) (fun c hc => (h.rdm c).mp hc) h.rdn h0
  rw [List.nil_append] at i2
  refine ⟨i1, i2.kye, i2.suc, fun k hk => ?_, fun k hk => ?_, i2.rdn, fun k => ?_⟩
  · rcases List.mem_append.mp hk with hk | hk
    · exact ⟨(h.cl k hk).1, fun q hq => List.mem_append_left _ ((h.cl k hk).2 q hq)⟩
    · exact ⟨((h.rdm k).mp hk).1, fun q hq => List.mem_append_left _ (((h.rdm k).mp hk).2.2 q hq)⟩
  · have := i2.np k hk
    rw [if_neg (List.not_mem_nil (a := k))] at this
    exact this
  · have := i2.rdm k
    rw [List.append_nil] at this
    exact this
/-- at the start -/
theorem Kn.zero {ps : Str → List Str} {ks : List Str} (hn : ks.Nodup) (hp : ∀ k ∈ ks, ∀ q ∈ ps k, q ∈ ks) {rd : List Str} (hrd : rd.Nodup) (hm : ∀ k, k ∈ rd ↔ k ∈ kys (addAll ps ks) ∧ npOf (addAll ps ks) k = 0) :
    Kn (kys (addAll ps ks)) ps (sucOf (addAll ps ks)) [] (addAll ps ks) rd := by
  have hk : ∀ {y}, y ∈ kys (addAll ps ks) → y ∈ ks := fun {y} h => by
    rw [addAll_mem] at h
    exact h.elim id fun ⟨k, hk, h⟩ => hp k hk y h
  refine ⟨rfl, rfl, fun k h => (nomatch h), fun k h => ?_, hrd, fun k => ?_⟩
  · rw [addAll_np ps hn, if_pos (hk h), if_neg (List.not_mem_nil), List.filter_eq_self.mpr (by simp)]
  · rw [hm]
    refine and_congr_right fun h => ?_
    rw [addAll_np ps hn, if_pos (hk h)]
    constructor
    · intro e
      have : ps k = [] := List.length_eq_zero_iff.mp (by lia)
      rw [this]
      exact ⟨by simp, fun q hq => (nomatch hq)⟩
    · rintro ⟨_, e⟩
      cases hc : ps k with
      | nil => rfl
      | cons q r => exact absurd (e q (by rw [hc]; exact .head _)) (by simp)
end
section
theorem li_ga_slot : Slot "list_iterator" "__getattribute__" "object.__getattribute__" :=
  .of (owner := "object") (n := "__getattribute__") (by rw [typeLookup_type, builtinLookup_eq_fast]; kernel_rfl) (by decide +kernel) (by decide +kernel) (by decide +kernel)
    (by first | exact .inl (by decide +kernel) | exact .inr (by decide +kernel)) (by rw [isSubtype_type]; kernel_rfl)
theorem li_ga_entry : entryFor table "object.__getattribute__" = some Builtin.«object.__getattribute__» := entryFor_of_tree (by kernel_rfl)
theorem li_ga_args (a b : Value) : argsOk "object.__getattribute__" ⟨[a, b], []⟩ := by unfold argsOk; kernel_rfl
theorem wd_type : typeOf (.builtin "list_iterator.__next__") = pure (.type "wrapper_descriptor") := by show builtinType _ = _; rw [builtinType_eq_fast]; kernel_rfl
theorem wd_get : Slot "wrapper_descriptor" "__get__" "wrapper_descriptor.__get__" :=
  .of (owner := "wrapper_descriptor") (n := "__get__") (by rw [typeLookup_type, builtinLookup_eq_fast]; kernel_rfl) (by decide +kernel) (by decide +kernel) (by decide +kernel)
    (by first | exact .inl (by decide +kernel) | exact .inr (by decide +kernel)) (by rw [isSubtype_type]; kernel_rfl)
theorem wd_entry : entryFor table "wrapper_descriptor.__get__" = some Builtin.«wrapper_descriptor.__get__» := entryFor_of_tree (by kernel_rfl)
theorem wd_args (a b c : Value) : argsOk "wrapper_descriptor.__get__" ⟨[a, b, c], []⟩ := by unfold argsOk; kernel_rfl
theorem wd_noset : typeLookup (.type "wrapper_descriptor") "__set__" = pure none := by rw [typeLookup_type, builtinLookup_eq_fast]; kernel_rfl
theorem wd_nodel : typeLookup (.type "wrapper_descriptor") "__delete__" = pure none := by rw [typeLookup_type, builtinLookup_eq_fast]; kernel_rfl
theorem li_owner : (".".intercalate ("list_iterator.__next__".cutAt '.').dropLast) = "list_iterator" := by
  have e0 : "list_iterator.__next__".cutAt '.' = ["list_iterator", "__next__"] := by first | rfl | decide +kernel
  rw [e0]; decide +kernel
theorem li_sub : isSubtype (.type "list_iterator") (.type (".".intercalate ("list_iterator.__next__".cutAt '.').dropLast)) = pure true := by
  rw [li_owner, isSubtype_type]; kernel_rfl
section
variable {prog : Program} {w : World} {A : Around} {E : Value → Shared → Prop} {h : Heap} {g : Array GenState} {d : Drawn} {t : Nat} {os : OsState} {a : Addr} {o : Obj}
abbrev mwObj (it : Addr) : Obj := { cls := .type "method-wrapper", data := .fields #[.builtin "list_iterator.__next__", .ref it] }
theorem next_get {R : Result → Shared → Prop} (hx : h.get? a = some o) (hc : o.cls = .type "list_iterator") (hq : R (.ok (.ret (.ref h.objs.size))) ⟨h.push (mwObj a), g, d, t, os⟩) :
    codeAny (model prog w) A (.call (.builtin "wrapper_descriptor.__get__") ⟨[.builtin "list_iterator.__next__", .ref a, .type "list_iterator"], []⟩) R ⟨h, g, d, t, os⟩ := by
  have hT : (⟨h, g, d, t, os⟩ : Shared).TypeIs (.ref a) "list_iterator" := ⟨_, hx, hc⟩
  have hT5 : (⟨h, g, d, t, os⟩ : Shared).TypeIs (.builtin "list_iterator.__next__") "wrapper_descriptor" := wd_type
  have f8 := li_sub
  refine codeAny_call_builtin wd_get.plain wd_entry (wd_get.check _ _ _ _ _ _ _ _ hT5 (wd_args _ _ _) ?_)
  repeat (any_goals (first | assumption | wp_step))
abbrev liObj (l : Addr) (i : Int) : Obj := { cls := .type "list_iterator", data := .fields #[.ref l, .int i 0] }
theorem next_entry {l : Addr} {i : Int} {tk : Tok} {Q : Fin → Shared → Prop} (hx : h.get? a = some (liObj l i)) (hq : Q (.done (.ret (.ref h.objs.size))) ⟨h.push (mwObj a), g, d, t, os⟩) :
    wpAny (model prog w) A (Builtin.«object.__getattribute__» ⟨[.ref a, .str "__next__" tk], []⟩) Q E ⟨h, g, d, t, os⟩ := by
  have hc : (liObj l i).cls = .type "list_iterator" := rfl
  have hT : (⟨h, g, d, t, os⟩ : Shared).TypeIs (.ref a) "list_iterator" := ⟨_, hx, hc⟩
  have hT5 : (⟨h, g, d, t, os⟩ : Shared).TypeIs (.builtin "list_iterator.__next__") "wrapper_descriptor" := wd_type
  have f4 := slot_listiter_next.lookup
  have f5 := wd_type
  have f6 := wd_get.lookup
  have f7 := wd_noset
  have f8 := wd_nodel
  repeat (any_goals (first | assumption | wp_step))
  refine next_get hx rfl ?_
  repeat (any_goals (first | assumption | wp_step))
theorem next_by {l : Addr} {i : Int} {tk : Tok} {Q : Value → Shared → Prop} (hx : h.get? a = some (liObj l i)) (hq : Q (.ref h.objs.size) ⟨h.push (mwObj a), g, d, t, os⟩) :
    wpAny (model prog w) A (getAttrBy (.ref a) (.str "__next__" tk) true true) Q E ⟨h, g, d, t, os⟩ := by
  have hT : (⟨h, g, d, t, os⟩ : Shared).TypeIs (.ref a) "list_iterator" := ⟨_, hx, rfl⟩
  have f2 := li_ga_slot.lookup
  have f3 := li_ga_slot.bind (.ref a)
  repeat (any_goals (first | assumption | wp_step))
  refine codeAny_call_builtin li_ga_slot.plain li_ga_entry (li_ga_slot.check _ _ _ _ _ _ _ _ hT (li_ga_args _ _) (next_entry hx ?_))
  repeat (any_goals (first | assumption | wp_step))
theorem next_attr {l : Addr} {i : Int} {Q : Value → Shared → Prop} (hx : h.get? a = some (liObj l i)) (hq : Q (.ref h.objs.size) ⟨h.push (mwObj a), g, d, t + 1, os⟩) :
    wpAny (model prog w) A (getAttr (.ref a) "__next__" true) Q E ⟨h, g, d, t, os⟩ := by
  unfold getAttr
  repeat (any_goals (first | assumption | with_reducible apply next_by hx | wp_step))
end
end
section
theorem mw_check (it : Addr) : checkBoundCall "list_iterator.__next__" ⟨[.ref it], []⟩ = pure () := by first | kernel_rfl | rfl
theorem mw_quiet {as : Args} : (Code.builtin "list_iterator.__next__" as).quiet = true := Code.quiet_builtin _ (by decide +kernel)
section
variable {prog : Program} {w : World} {A : Around} {E : Value → Shared → Prop} {s : Shared} {h₀ : Heap} {L a it l : Addr} {m : Str → Option Value} {news : List (Addr × Obj)} {n : Nat}
theorem mw_call {Q : Value → Shared → Prop} (ha : s.heap.get? a = some (mwObj it))
    (h : ∀ {P : Fin → Shared → Prop} {E' : Value → Shared → Prop} {A' : Around}, A'.handled = A.handled → (∀ v s', Q v s' → P (.done (.ret v)) s') → (∀ e s', E e s' → E' e s') → wpAny (model prog w) A' (Builtin.«list_iterator.__next__» ⟨[.ref it], []⟩) P E' s) :
    wpAny (model prog w) A (call (.ref a) []) Q E s := by
  refine wpAny_call (codeAny_of_tree ?_)
  show wpAny _ A.in1 (callAny (.ref a) ⟨[], []⟩) _ _ s
  simp only [callAny]
  refine wpAny_bind (wpAny_load ha ?_)
  simp only
  rw [if_pos (by decide)]
  refine wpAny_bind (wpAny_of_eq (a := ()) (mw_check it) ?_)
  refine wpAny_bind (wpAny_pure (wpAny_pure ?_))
  refine ⟨mw_quiet, codeAny_builtin entry_listiter_next (h rfl (fun v s' q => q) fun e s' q => q)⟩
theorem mw_item {i : Nat} {vs : List Value} {x : Value} {Q : Value → Shared → Prop} (F : Fr h₀ L s.heap m) (N : News h₀ L s.heap news) (hs : Sep news)
    (ha : (a, mwObj it) ∈ news) (hit : (it, liObj l i) ∈ news) (hl : (l, W.listOf vs.toArray n) ∈ news) (hx : vs[i]? = some x)
    (h : ∀ h', Fr h₀ L h' m → News h₀ L h' (upd news it (liObj l (i + 1 : Nat))) → Q x { s with heap := h' }) : wpAny (model prog w) A (call (.ref a) []) Q E s := by
  refine mw_call (N _ ha).1 fun hA hP _ => ?_
  have ho := (N _ hit).1
  have hol := (N _ hl).1
  show wpAny _ _ (field (.ref it) 0 >>= _) _ _ s
  refine wpAny_bind (wpAny_field ho rfl (x := .ref l) rfl ?_)
  show wpAny _ _ (if (Value.ref l == Value.none) = true then _ else _) _ _ s
  rw [if_neg (show ¬ ((Value.ref l == Value.none) = true) from Bool.false_ne_true)]
  show wpAny _ _ (field (.ref it) 1 >>= _) _ _ s
  refine wpAny_bind (wpAny_field ho rfl (x := .int i 0) rfl ?_)
  show wpAny _ _ (seqItems? (.ref l) >>= _) _ _ s
  refine wpAny_bind (wpAny_seqItems hol rfl ?_)
  have hx' : vs.toArray[i]? = some x := by simpa using hx
  simp only [Int.toNat_natCast, hx']
  refine wpAny_bind (wpAny_setField ho rfl (by simp) (wpAny_pure (hP _ _ (h _ ?_ ?_))))
  · exact F.change (Heap.SameBut.update ..) (N _ hit).2.1 (N _ hit).2.2
  · obtain ⟨pre, post, rfl, h2, h3, h4⟩ := (upd_of (o' := liObj l (i + 1 : Nat)) hs hit).split
    rw [h2]
    refine news_set N h3 h4 (Heap.SameBut.update ..) ?_
    rw [Heap.get?_update_self _ ho (Obj.isFreed_of_fields (Obj.data_mapFields rfl _))]
    rfl
abbrev goneIt (i : Int) : Obj := { cls := .type "list_iterator", data := .fields #[.none, .int i 0] }
theorem mw_end {i : Nat} {vs : List Value} {Q : Value → Shared → Prop} (F : Fr h₀ L s.heap m) (N : News h₀ L s.heap news) (hs : Sep news)
    (ha : (a, mwObj it) ∈ news) (hit : (it, liObj l i) ∈ news) (hl : (l, W.listOf vs.toArray n) ∈ news) (hx : vs[i]? = none) (hh : A.handled = none)
    (h : ∀ h₁ h' e, Fr h₀ L h₁ m → News h₀ L h₁ (upd news it (goneIt i)) → Heap.NewExc h₁ h' e "StopIteration" → E (.ref e) { s with heap := h' }) : wpAny (model prog w) A (call (.ref a) []) Q E s := by
  refine mw_call (N _ ha).1 fun hA _ hE => ?_
  have ho := (N _ hit).1
  have hol := (N _ hl).1
  show wpAny _ _ (field (.ref it) 0 >>= _) _ _ s
  refine wpAny_bind (wpAny_field ho rfl (x := .ref l) rfl ?_)
  show wpAny _ _ (if (Value.ref l == Value.none) = true then _ else _) _ _ s
  rw [if_neg (show ¬ ((Value.ref l == Value.none) = true) from Bool.false_ne_true)]
  show wpAny _ _ (field (.ref it) 1 >>= _) _ _ s
  refine wpAny_bind (wpAny_field ho rfl (x := .int i 0) rfl ?_)
  show wpAny _ _ (seqItems? (.ref l) >>= _) _ _ s
  refine wpAny_bind (wpAny_seqItems hol rfl ?_)
  have hx' : vs.toArray[i]? = none := by simpa using hx
  simp only [Int.toNat_natCast, hx']
  refine wpAny_bind (wpAny_rule (wpAny_bind (wpAny_setField ho rfl (by simp) ?_)))
  show wpAny _ _ (newExc (.type "StopIteration") [] >>= _) _ _ _
  refine wpAny_bind ?_
  simp only [newExc, newTuple]
  refine wpAny_bind (wpAny_newObj_type ?_ (by size_fits))
  refine wpAny_bind (m := firstArgMember _ _) (wpAny_of_eq (a := Value.none) (by first | rfl | (simp only [firstArgMember]; rfl)) ?_)
  refine wpAny_newObj_type ?_ (by size_fits)
  refine wpAny_raiseNew_none (hA.trans hh) (hE _ _ (h (s.heap.update it (Obj.mapFields (·.setIfInBounds 0 .none))) _ _ ?_ ?_ ?_))
  · exact F.change (Heap.SameBut.update ..) (N _ hit).2.1 (N _ hit).2.2
  · obtain ⟨pre, post, rfl, h2, h3, h4⟩ := (upd_of (o' := goneIt i) hs hit).split
    rw [h2]
    refine news_set N h3 h4 (Heap.SameBut.update ..) ?_
    rw [Heap.get?_update_self _ ho (Obj.isFreed_of_fields (Obj.data_mapFields rfl _))]
    rfl
  · exact ⟨fun b o hb => Heap.get?_push_of_some _ (Heap.get?_push_of_some _ hb), Heap.get?_none_of_le (by simp), _, .ref _, Heap.get?_push_size _ rfl, rfl, by simp [ownMembersOf]; rfl⟩
end
section
variable {prog : Program} {w : World} {A₀ : Around} {E : Value → Shared → Prop} {s' : Shared} {base g g₀ h : Heap} {outer : List Env} {L a e : Addr} {m : Str → Option Value} {name : Str} {scope : Scope} {cd : Value}
  {b₀ : Stmt} {suite : List Stmt} {pos np : Pos} {rest : List ExceptHandler} {Q : Flow → Shared → Prop} {news : List (Addr × Obj)} {KF : Frag}
  {p : Program} {loose : List Str} {mean : ExcName → Option Value} {mg mb : Str → Option Value} {x : Str} {X T' : String}
theorem caught_new0 (hx : Heap.NewExc h s'.heap e X) (F : Fr g L h m) (N : News g L h news) (K : Below A₀ base outer g) (XB : KF.In base) (TB : Top p loose mean mg mb base)
    (D : KtsDicts (outer.filterMap (·.frame)) g) (T0 : KtsTurn (outer.filterMap (·.frame)) g₀ g)
    (ex : nsIn KF mainGlobals x = some none) (hv : bootBuiltins x = some (.type T')) (hn' : x ≠ "__name__")
    (hexc : isSubtype (.type T') (.type "BaseException") = pure true) (hnt : isSubtype (.type ((Manifest.find? T').elim "type" fun y => y.metatype)) (.type "tuple") = pure false) (hsub : isSubtype (.type X) (.type T') = pure true)
    (k : ∀ h' g', KtsTurn (outer.filterMap (·.frame)) g₀ g' → Fr g' L h' m → News g' L h' news → Below A₀ base outer g' → KF.In g' → Top p loose mean mg mb g' → KtsDicts (outer.filterMap (·.frame)) g' →
      wpAny (model prog w) ((A₀.deeper (envOf name scope L a cd)).mark (some (.ref e))) (execs (b₀ :: suite) (envOf name scope L a cd)) Q E { s' with heap := h' })
    (hk : scope.kind = .function := by rfl) (hx' : (envOf name scope L a cd).kindOf x = some .globalImplicit := by rfl) (hd : (x == ("__debug__" : Str)) = false := by decide)
    (hE : PassesOwnAt (model prog w) ((A₀.deeper (envOf name scope L a cd)).mark (some (.ref e))) (A₀.deeper (envOf name scope L a cd)) (envOf name scope L a cd) E := by passes_own) :
    wpAny (model prog w) (A₀.deeper (envOf name scope L a cd)) (noteFrame (.ref e) (envOf name scope L a cd))
      (fun _ s₂ => wpAny (model prog w) (A₀.deeper (envOf name scope L a cd)) (setFlight (.ref e) none) (fun _ s₃ =>
        wpAny (model prog w) (A₀.deeper (envOf name scope L a cd)) (handleBy (.ref e) (envOf name scope L a cd) (.ExceptHandler (some (.Name x np)) none (b₀ :: suite) pos :: rest)) Q E s₃) E s₂) E s' := by
  have K' := K.push (name := name) (a := a) (cd := cd) F hk
  have hin : ∀ env ∈ (envOf name scope L a cd :: outer), ∀ b, env.frame = some b → b ∈ (envOf name scope L a cd :: outer).filterMap (·.frame) := fun env he b hb => List.mem_filterMap.mpr ⟨env, he, hb⟩
  have sg : ∀ b o, h.get? b = some o → b ∉ (envOf name scope L a cd :: outer).filterMap (·.frame) → (hideAll h ((envOf name scope L a cd :: outer).filterMap (·.frame))).get? b = some o := fun b o q nm => hideAll_get _ q nm
  have st : base.StaysIn (hideAll h ((envOf name scope L a cd :: outer).filterMap (·.frame))) := fun b o q => hideAll_get _ (K'.stays b o q) fun hm => by
    rw [(K'.frames.mem hm).1] at q; cases q
  have hl : ∀ q ∈ news, (hideAll h ((envOf name scope L a cd :: outer).filterMap (·.frame))).get? q.1 = some q.2 ∧ g.get? q.1 = none := fun q hq => by
    refine ⟨hideAll_get _ (N q hq).1 fun hm => ?_, (N q hq).2.2⟩
    obtain ⟨env, he, hf⟩ := List.mem_filterMap.mp hm
    rcases List.mem_cons.mp he with rfl | he
    · exact (N q hq).2.1 (Option.some.inj hf).symm
    · obtain ⟨o, ho, _⟩ := (K.frames.mem (List.mem_filterMap.mpr ⟨env, he, hf⟩)).2
      rw [(N q hq).2.2] at ho; cases ho
  obtain ⟨ob, tp, he, hcls, hdt⟩ := hx.there
  have hen : (hideAll h ((envOf name scope L a cd :: outer).filterMap (·.frame))).get? e = none := by
    cases q : (hideAll h ((envOf name scope L a cd :: outer).filterMap (·.frame))).get? e with
    | none => rfl
    | some o => have := of_hideAll _ q; rw [hx.new] at this; cases this
  have hsm : h.UpToSlots s'.heap := Heap.UpToSlots.of_keeps hx.keeps
  unfold noteFrame
  simp only [show (envOf name scope L a cd).frame = some L from rfl]
  refine wpAny_bind (wpAny_field he hdt (x := .none) rfl ?_)
  rw [if_neg (by decide)]
  refine wpAny_entryW (a0 := tp) (Around.frames_deeper K.stack) ((funFrames_hide K'.frames hin).of_keeps fun b o hb _ => ⟨o, hx.keeps b o hb, rfl⟩) rfl he (fun b o hb => hx.keeps b o (of_hideAll _ hb)) hen hdt (by show 1 < 6; decide) rfl fun h₄ hN => ?_
  obtain ⟨k1, k2, k3, k4⟩ := hN
  have hheld₄ : Heap.HeldW (hideAll h ((envOf name scope L a cd :: outer).filterMap (·.frame))) (envOf name scope L a cd :: outer) e (.type X) tp L h₄ := ⟨k1, hen, k2, by rw [← hcls]; exact k3⟩
  have hsm₄ : s'.heap.UpToSlots h₄ := k4
  have hL : (hideAll h ((envOf name scope L a cd :: outer).filterMap (·.frame))).get? L = none := by
    obtain ⟨_, ⟨L', _, hf, hn'', _⟩, _⟩ := hheld₄.2.2.1
    obtain rfl : L = L' := Option.some.inj hf
    exact hn''
  refine wpAny_landsW hheld₄ fun h₅ hheld hsm₅' => ?_
  have hsm₅ := hsm₄.trans hsm₅'
  obtain ⟨g₅, T₅, F₅, K₅⟩ := kts_ground K F sg hheld.1 (hsm.trans hsm₅)
  have X₅ : KF.In g₅ := XB.keeps K₅.stays
  have P₅ : TopRead p loose mg mb g₅ := topRead_of (TB.keeps K₅.stays)
  obtain ⟨ob, hob, hobc⟩ := hheld.there
  refine wpAny_handleBy_builtin (X := X) (T := T') (b := true) hexc hnt hsub (name_B F₅ X₅ P₅ ex hv hn' ⟨rfl, ⟨ob, hob, hobc⟩, ?_⟩ hk hx' hd)
  refine lands_againW hheld fun h₆ hfl₆ hsm₆ => ?_
  obtain ⟨g₆, T₆, F₆, K₆⟩ := kts_ground K F sg hfl₆.1 ((hsm.trans hsm₅).trans hsm₆)
  have Nl : News g₆ L h₆ news := fun q hq => ⟨hfl₆.1 _ _ (hl q hq).1, (fun z => by have := (hl q hq).1; rw [z, hL] at this; cases this), T₆.none_ _ (hl q hq).2⟩
  have X₆ : KF.In g₆ := XB.keeps K₆.stays
  have P₆ : Top p loose mean mg mb g₆ := TB.keeps K₆.stays
  have D₆ : KtsDicts (outer.filterMap (·.frame)) g₆ := D.turn T₆
  exact wpAny_passesOwnAt hE (k h₆ g₆ (T0.trans T₆) F₆ Nl K₆ X₆ P₆ D₆)
end
end
section
section
variable {prog : Program} {w : World} {A : Around} {E : Value → Shared → Prop} {s : Shared} {env : Env} {x : Str} {px : Pos} {body : List Stmt} {Q : Flow → Shared → Prop}
/-- the end of a turn: the property again -/
structure AgainS (J : Shared → Prop) (s : Shared) : Prop where
  so : J s
noncomputable def PostS (J : Shared → Prop) (Q : Flow → Shared → Prop) (f : Flow) (s : Shared) : Prop :=
  match f with
  | .ret u => Q (.ret u) s
  | .brk => Q .next s
  | _ => AgainS J s
/-- a for loop by a property of the whole state -/
theorem forS {I : Addr} {fp wr : List Addr} {n : Nat} {P : Nat → Value → Prop} {St : Nat → Heap → Prop} (W : Walks prog w A I fp wr n P St) (hE : PassesOwn (model prog w) A env E)
    (J : Nat → Shared → Prop) (hst : ∀ i s, J i s → St i s.heap) (h0 : J 0 s)
    (turn : ∀ i s v h' tk, i < n → J i s → P i v → St (i + 1) h' → (∀ b o, b ∉ wr → s.heap.get? b = some o → h'.get? b = some o) →
      wpAny (model prog w) A (storeName env x v) (fun _ s₂ => wpAny (model prog w) A (execs body env) (PostS (J (i + 1)) Q) E s₂) E { s with heap := h', toks := tk })
    (done : ∀ s h' tk, J n s → (∀ b o, b ∉ wr → s.heap.get? b = some o → h'.get? b = some o) → Q .next { s with heap := h', toks := tk }) :
    codeAny (model prog w) A (.forLoop (.Name x px) (.ref I) body [] env) (fun r s' => match r with | .ok f => Q f s' | .error e => cameBackBy (model prog w) A env E e s') s := by
  refine codeAny_forLoop (fun k s => ∃ i, k + i = n ∧ J i s) (fun k s hI => ?_) n ⟨0, rfl, h0⟩
  obtain ⟨i, hk, hJ⟩ := hI
  cases k with
  | zero =>
    obtain rfl : i = n := by omega
    refine W.done s _ _ (hst _ _ hJ) fun h' tk hk' => ?_
    exact wpAny_pure (done s h' tk hJ hk')
  | succ k =>
    refine W.item i s _ _ (by omega) (hst _ _ hJ) fun v h' tk hP hS hk' => ?_
    refine wpAny_mono (wpAny_assign_Name (turn i s v h' tk (by omega) hJ hP hS hk')) (fun _ s₂ h₂ => ?_) hE
    refine wpAny_mono h₂ (fun f s₃ h₃ => ?_) hE
    cases f with
    | ret u => exact h₃
    | brk => exact h₃
    | next => exact ⟨k, Nat.lt_succ_self _, i + 1, by omega, h₃.so⟩
    | cont => exact ⟨k, Nat.lt_succ_self _, i + 1, by omega, h₃.so⟩

/-- a while loop by a property of the whole state and a number that falls -/
theorem whileS {test : Expr} {orelse : List Stmt} (J : Nat → Shared → Prop) (hE : PassesOwn (model prog w) A env E)
    (turn : ∀ n s, J n s → (∀ n' s', n' < n → J n' s' → WhlRest prog w A E env test body orelse Q 0 s') →
      wpAny (model prog w) A (isTrue test env (eval test env)) (fun b s₂ => WhlIf b (wpAny (model prog w) A (execs body env) (WhlPost prog w A E env test body orelse Q 0) E s₂) (wpAny (model prog w) A (execs orelse env) Q E s₂)) E s)
    (n : Nat) (h : J n s) : WhlRest prog w A E env test body orelse Q 0 s := by
  induction n using Nat.strongRecOn generalizing s with
  | ind n ih => exact whl_turn (k := 0) hE (turn n s h fun n' s' hl hJ => ih n' hl hJ)
end
theorem hidePS {M : Model} {A : Around} {E : Value → Shared → Prop} {s : Shared} {α : Type} {x : Sem α} {y : Sem Flow} {J : Shared → Prop} {Q : Flow → Shared → Prop} (h : ∀ (J' : Shared → Prop) (Q' : Flow → Shared → Prop), (∀ s, J s → J' s) → (∀ f s, Q f s → Q' f s) → wpAny M A x (fun (_ : α) s₂ => wpAny M A y (PostS J' Q') E s₂) E s) :
    wpAny M A x (fun _ s₂ => wpAny M A y (PostS J Q) E s₂) E s := h J Q (fun _ h => h) fun _ _ h => h
end
section
/-! ### the search, as it lies in the heap -/
structure Fm where
  nd : Nd
  pos : Nat
  mw : Addr
  it : Addr
noncomputable def Fm.pl (f : Fm) : Str × Nat := (f.nd.key, f.pos)
noncomputable def KvOf : List (Str × Value) → List Fm → Prop
  | kvs, [] => kvs = []
  | kvs, f :: fs => ∃ kvs' t, kvs = kvs' ++ [(f.nd.key, .int (fs.length : Nat) t)] ∧ KvOf kvs' fs
structure FcL (prog : Program) (w : World) (nds : List Nd) (Z : List (Addr × Obj)) (I stk its sn nd : Addr) (seen : List Str) (fs : List Fm) : Prop where
  stk : ∃ vs n, (stk, W.listOf vs.toArray n) ∈ Z ∧ StrsAre vs (fs.map (·.nd.key)).reverse
  its : ∃ n, (its, W.listOf (fs.map fun f => Value.ref f.mw).reverse.toArray n) ∈ Z
  fms : ∀ f ∈ fs, (f.mw, mwObj f.it) ∈ Z ∧ (f.it, liObj f.nd.sa f.pos) ∈ Z ∧ f.nd ∈ nds ∧ @LT.lt Nat _ I f.it ∧ @LT.lt Nat _ I f.mw
  set : ∃ o Sf, (sn, o) ∈ Z ∧ o.SetObjOf (PySem.strKind prog w) Sf seen.length ∧ ∀ k, Sf k = true ↔ k ∈ seen
  dct : ∃ o kvs, (nd, o) ∈ Z ∧ o.IsDictOf (PySem.strKind prog w) kvs ∧ KvOf kvs fs
  nod : (fs.map (·.it)).Nodup

theorem KvOf.keys : ∀ {fs : List Fm} {kvs : List (Str × Value)}, KvOf kvs fs → kvs.map (·.1) = (fs.map (·.nd.key)).reverse
  | [], _, h => by cases h; rfl
  | f :: fs, _, ⟨kvs', t, e, h⟩ => by rw [e, List.map_append, KvOf.keys h]; simp
theorem valueAt_some {kvs : List (Str × Value)} {k : Str} : (valueAt kvs k).isSome = decide (k ∈ kvs.map (·.1)) := by
  unfold valueAt
  rw [Option.isSome_map]
  induction kvs with
  | nil => rfl
  | cons p r ih =>
    rw [List.find?_cons, List.map_cons]
    by_cases h : p.1 = k
    · simp [h]
    · rw [show decide (p.1 = k) = false from decide_eq_false h]
      show (List.find? _ r).isSome = _
      rw [ih]
      have : k ≠ p.1 := fun e => h e.symm
      simp [this]
theorem valueAt_app {kvs l : List (Str × Value)} {k : Str} (h : k ∉ kvs.map (·.1)) : valueAt (kvs ++ l) k = valueAt l k := by
  unfold valueAt
  rw [List.find?_append, List.find?_eq_none.mpr]
  · rfl
  · intro p hp e
    exact h (List.mem_map.mpr ⟨p, hp, of_decide_eq_true e⟩)
theorem valueAt_app' {kvs l : List (Str × Value)} {k : Str} {v : Value} (h : valueAt kvs k = some v) : valueAt (kvs ++ l) k = some v := by
  unfold valueAt at h ⊢
  rw [List.find?_append]
  obtain ⟨p, hp, e⟩ := Option.map_eq_some_iff.mp h
  rw [hp]
  simpa using e
theorem KvOf.at {f : Fm} {b : List Fm} : ∀ {a : List Fm} {kvs : List (Str × Value)}, KvOf kvs (a ++ f :: b) → ((a ++ f :: b).map (·.nd.key)).Nodup → ∃ t, valueAt kvs f.nd.key = some (.int (b.length : Nat) t)
  | [], kvs, ⟨kvs', t, e, h⟩, nd => by
    refine ⟨t, ?_⟩
    rw [e, valueAt_app]
    · unfold valueAt; simp
    · rw [KvOf.keys h, List.mem_reverse]
      exact (List.nodup_cons.mp (by simpa using nd)).1
  | g :: a, kvs, ⟨kvs', t, e, h⟩, nd => by
    have nd' : ((a ++ f :: b).map (·.nd.key)).Nodup := by
      rw [List.cons_append, List.map_cons] at nd
      exact (List.nodup_cons.mp nd).2
    obtain ⟨u, hu⟩ := KvOf.at h nd'
    exact ⟨u, by rw [e]; exact valueAt_app' hu⟩
theorem KvOf.push {fs : List Fm} {kvs : List (Str × Value)} {f : Fm} {t : Tok} (h : KvOf kvs fs) (hn : f.nd.key ∉ fs.map (·.nd.key)) : KvOf (stored kvs f.nd.key (.int (fs.length : Nat) t)) (f :: fs) := by
  refine ⟨kvs, t, ?_, h⟩
  unfold stored
  rw [if_neg]
  intro hc
  obtain ⟨x, hx, e⟩ := List.any_eq_true.mp hc
  have : x.1 ∈ kvs.map (·.1) := List.mem_map.mpr ⟨x, hx, rfl⟩
  rw [of_decide_eq_true e, KvOf.keys h, List.mem_reverse] at this
  exact hn this
theorem KvOf.pop {fs : List Fm} {kvs : List (Str × Value)} {f : Fm} (h : KvOf kvs (f :: fs)) (hn : f.nd.key ∉ fs.map (·.nd.key)) : KvOf (without kvs f.nd.key) fs := by
  obtain ⟨kvs', t, e, h⟩ := h
  have : without kvs f.nd.key = kvs' := by
    rw [e]
    unfold without
    rw [List.filter_append]
    have h1 : (kvs'.filter fun kv => decide (kv.1 ≠ f.nd.key)) = kvs' := without_of_not_mem kvs' _ (by rw [KvOf.keys h, List.mem_reverse]; exact hn)
    rw [h1]
    simp
  rw [this]; exact h
theorem KvOf.same {f f' : Fm} {fs : List Fm} {kvs : List (Str × Value)} (h : KvOf kvs (f :: fs)) (e : f'.nd = f.nd) : KvOf kvs (f' :: fs) := by
  obtain ⟨kvs', t, e1, h⟩ := h
  exact ⟨kvs', t, by rw [e]; exact e1, h⟩
theorem ne_obj {Z : List (Addr × Obj)} (hs : Sep Z) {a b : Addr} {o o' : Obj} (h : (a, o) ∈ Z) (h' : (b, o') ∈ Z) (hne : o.cls ≠ o'.cls) : a ≠ b := fun e => by
  subst e
  exact hne (by rw [Sep.one hs h h'])

section
variable {KF : Frag} {p : Program} {loose : List Str} {mean : ExcName → Option Value} {mg mb : Str → Option Value} {A : Around} {base : Heap} {outer : List Env} {g₁ : Heap} {L : Addr} {s₀ : Shared}
/-- the state within the search -/
inductive FcS (prog : Program) (w : World) (KF : Frag) (p : Program) (loose : List Str) (mean : ExcName → Option Value) (mg mb : Str → Option Value) (A : Around) (base : Heap) (outer : List Env) (g₁ : Heap) (L : Addr) (s₀ : Shared)
    (nds : List Nd) (Y : List (Addr × Obj)) (I stk its sn nd n2 : Addr) (seen : List Str) (fs : List Fm) (PM : (Str → Option Value) → Prop) : Shared → Prop
  | mk {g' : Heap} {m : Str → Option Value} {Z : List (Addr × Obj)} {h' : Heap} {tk : Nat} (T : KtsTurn (outer.filterMap (·.frame)) g₁ g') (B : Below A base outer g') (X : KF.In g') (P : Top p loose mean mg mb g') (D : KtsDicts (outer.filterMap (·.frame)) g')
      (F : Fr g' L h' m) (N : News g' L h' Z) (hs : Sep Z) (hY : ∀ q ∈ Y, q ∈ Z) (c : FcL prog w nds Z I stk its sn nd seen fs)
      (h0 : m (Str.ofString "n2i") = some (.ref n2)) (h1 : m (Str.ofString "stack") = some (.ref stk)) (h2 : m (Str.ofString "itstack") = some (.ref its)) (h3 : m (Str.ofString "seen") = some (.ref sn)) (h4 : m (Str.ofString "node2stacki") = some (.ref nd)) (hm : PM m) :
      FcS prog w KF p loose mean mg mb A base outer g₁ L s₀ nds Y I stk its sn nd n2 seen fs PM { s₀ with heap := h', toks := tk }
theorem FcL.nil_upd {prog : Program} {w : World} {nds : List Nd} {Z : List (Addr × Obj)} {I stk its sn nd x : Addr} {seen : List Str} {o : Obj} (c : FcL prog w nds Z I stk its sn nd seen [])
    (e1 : stk ≠ x) (e2 : its ≠ x) (e3 : sn ≠ x) (e4 : nd ≠ x) : FcL prog w nds (upd Z x o) I stk its sn nd seen [] := by
  obtain ⟨vs, n, k1, k2⟩ := c.stk
  obtain ⟨n', k3⟩ := c.its
  obtain ⟨o1, Sf, k4, k5⟩ := c.set
  obtain ⟨o2, kvs, k6, k7⟩ := c.dct
  exact ⟨⟨vs, n, mem_upd_ne k1 e1, k2⟩, ⟨n', mem_upd_ne k3 e2⟩, fun f hf => (nomatch hf), ⟨o1, Sf, mem_upd_ne k4 e3, k5⟩, ⟨o2, kvs, mem_upd_ne k6 e4, k7⟩, c.nod⟩
theorem FcS.step {prog : Program} {w : World} {nds : List Nd} {Y : List (Addr × Obj)} {I stk its sn nd n2 : Addr} {oI oI' : Obj} {seen : List Str} {PM : (Str → Option Value) → Prop} {s h' : _} {tk : Nat}
    (H : FcS prog w KF p loose mean mg mb A base outer g₁ L s₀ nds ((I, oI) :: Y) I stk its sn nd n2 seen [] PM s) (hk : ∀ b o, b ∉ [I] → s.heap.get? b = some o → h'.get? b = some o) (hI : h'.get? I = some oI')
    (hY : ∀ q ∈ Y, q.1 ≠ I) (e1 : stk ≠ I) (e2 : its ≠ I) (e3 : sn ≠ I) (e4 : nd ≠ I) :
    FcS prog w KF p loose mean mg mb A base outer g₁ L s₀ nds ((I, oI') :: Y) I stk its sn nd n2 seen [] PM { s with heap := h', toks := tk } := by
  cases H with
  | mk T B X P D F N hs hYZ c h0 h1 h2 h3 h4 hm =>
    have mI := hYZ _ (.head _)
    refine .mk (Z := upd _ I oI') T B X P D ⟨F.ns.at' fun o e => hk _ _ (fun q => (N _ mI).2.1 (List.mem_singleton.mp q).symm) e, fun b o e => hk _ _ (fun q => ?_) (F.keep _ _ e), F.above⟩ ?_ hs.upd ?_ (c.nil_upd e1 e2 e3 e4) h0 h1 h2 h3 h4 hm
    · have := (N _ mI).2.2
      rw [← List.mem_singleton.mp q, e] at this; cases this
    · intro q hq
      unfold upd at hq
      obtain ⟨r, hr, rfl⟩ := List.mem_map.mp hq
      by_cases hx : r.1 = I
      · rw [if_pos hx]; exact ⟨hI, (N _ mI).2⟩
      · rw [if_neg hx]; exact ⟨hk _ _ (fun z => hx (List.mem_singleton.mp z)) (N _ hr).1, (N _ hr).2⟩
    · intro q hq
      rcases List.mem_cons.mp hq with rfl | hq
      · exact mem_upd_self mI
      · exact mem_upd_ne (hYZ _ (.tail _ hq)) (hY _ hq)
theorem FcS.last {prog : Program} {w : World} {nds : List Nd} {Y : List (Addr × Obj)} {I stk its sn nd n2 : Addr} {oI : Obj} {seen : List Str} {PM : (Str → Option Value) → Prop} {s : Shared} {h' : Heap}
    (H : FcS prog w KF p loose mean mg mb A base outer g₁ L s₀ nds ((I, oI) :: Y) I stk its sn nd n2 seen [] PM s) (hk : ∀ b o, b ∉ [I] → s.heap.get? b = some o → h'.get? b = some o)
    (hY : ∀ q ∈ Y, q.1 ≠ I) : ∃ g' m, KtsTurn (outer.filterMap (·.frame)) g₁ g' ∧ Below A base outer g' ∧ KF.In g' ∧ Top p loose mean mg mb g' ∧ KtsDicts (outer.filterMap (·.frame)) g' ∧ Fr g' L h' m ∧ News g' L h' Y ∧ ∃ h0 t0, s = { s₀ with heap := h0, toks := t0 } := by
  cases H with
  | mk T B X P D F N hs hYZ c h0 h1 h2 h3 h4 hm =>
    have mI := hYZ _ (.head _)
    refine ⟨_, _, T, B, X, P, D, ⟨F.ns.at' fun o e => hk _ _ (fun q => (N _ mI).2.1 (List.mem_singleton.mp q).symm) e, fun b o e => hk _ _ (fun q => ?_) (F.keep _ _ e), F.above⟩, ?_, _, _, rfl⟩
    · have := (N _ mI).2.2
      rw [← List.mem_singleton.mp q, e] at this; cases this
    · intro q hq
      have := N _ (hYZ _ (.tail _ hq))
      exact ⟨hk _ _ (fun z => hY _ hq (List.mem_singleton.mp z)) this.1, this.2⟩
end
end
section
section
variable {prog : Program} {w : World} {A : Around} {E : Value → Shared → Prop} {s : Shared} {env : Env} {h₀ : Heap} {L : Addr} {x : Str} {px : Pos} {body : List Stmt} {Q : Flow → Shared → Prop}
/-- a for loop over a range whose name lies wherever it lies (a cell) -/
theorem rangeC {r : Addr} {a b : Int} {t₀ u₀ v₀ : Tok} {n : Nat} {m₀ : Str → Option Value} {news : List (Addr × Obj)}
    (J : Nat → (Str → Option Value) → List (Addr × Obj) → Prop) (hh : A.handled = none) (hE : PassesOwn (model prog w) A env E)
    (hr : IsRange s.heap r a b 1 t₀ u₀ v₀) (hsmall : Builtin.Range.small a b 1 = true) (hn : Builtin.Range.rangeSize a b 1 = (n : Int))
    (F : Fr h₀ L s.heap m₀) (N : News h₀ L s.heap news) (hj : J 0 m₀ news)
    (turn : ∀ I i t m₁ news₁ h tk oI, i < n → J i m₁ news₁ → (∀ p ∈ news₁, p.1 ≠ I) → Fr h₀ L h m₁ → News h₀ L h ((I, oI) :: news₁) →
      wpAny (model prog w) A (storeName env x (.int (a + (i : Int)) t)) (fun _ s₂ => wpAny (model prog w) A (execs body env) (PostG h₀ L (J (i + 1)) I oI { s with heap := h, toks := tk } Q) E s₂) E { s with heap := h, toks := tk })
    (done : ∀ m₁ news₁ h tk, J n m₁ news₁ → Fr h₀ L h m₁ → News h₀ L h news₁ → Q .next { s with heap := h, toks := tk }) :
    wpAny (model prog w) A (pyIter (.ref r)) (fun it s₂ => codeAny (model prog w) A (.forLoop (.Name x px) it body [] env) (fun r s' => match r with | .ok f => Q f s' | .error e => cameBackBy (model prog w) A env E e s') s₂) E s := by
  refine wpAny_pyIter_range hr hsmall ?_
  have W : Walks prog w A s.heap.objs.size [s.heap.objs.size] [s.heap.objs.size] n (fun i v => ∃ t : Tok, v = Value.int (a + i * 1) t)
      (fun i h => IsRangeIter h s.heap.objs.size (a + (i : Nat) * 1) ((n : Int) - (i : Nat)) 1) := Walks.range hh _ a 1 n
  generalize hI : s.heap.objs.size = I at W
  have hI0 : ∀ q ∈ news, q.1 ≠ I := fun q hq => hI ▸ Nat.ne_of_lt (Heap.lt_size (N q hq).1)
  have hIh : h₀.get? I = none := hI ▸ next_is_new F
  have hLI : L ≠ I := hI ▸ ne_size F
  have nI : ∀ {b : Addr}, b ≠ I → b ∉ [I] := fun h hm => h (List.mem_singleton.mp hm)
  have fro : ∀ {h h' : Heap} {m₁ : Str → Option Value} {l : List (Addr × Obj)}, (∀ b o, b ∉ [I] → h.get? b = some o → h'.get? b = some o) → Fr h₀ L h m₁ → News h₀ L h l → (∀ q ∈ l, q.1 ≠ I) → Fr h₀ L h' m₁ ∧ News h₀ L h' l := fun hk F N ho => by
    refine ⟨⟨F.ns.at' fun o e => hk _ o (nI hLI) e, fun b o e => hk b o (nI fun q => ?_) (F.keep b o e), F.above⟩, fun q hq => ⟨hk _ _ (nI (ho q hq)) (N q hq).1, (N q hq).2⟩⟩
    rw [q, hIh] at e; cases e
  refine forS W hE (fun i s' => ∃ h tk m₁ l oI, s' = { s with heap := h, toks := tk } ∧ Fr h₀ L h m₁ ∧ News h₀ L h ((I, oI) :: l) ∧ (∀ p ∈ l, p.1 ≠ I) ∧ J i m₁ l ∧ IsRangeIter h I (a + (i : Nat) * 1) ((n : Int) - (i : Nat)) 1) ?_ ?_ ?_ ?_
  · rintro i s' ⟨h, tk, m₁, l, oI, rfl, _, _, _, _, hI⟩
    exact hI
  · refine ⟨_, _, m₀, news, { cls := .type "range_iterator", data := .fields #[rawInt a, rawInt (Builtin.Range.rangeSize a b 1), rawInt 1] }, rfl, F.push _, fun q hq => ?_, hI0, hj, ?_⟩
    · rcases List.mem_cons.mp hq with rfl | hq
      · refine ⟨hI ▸ Heap.get?_push_size _ rfl, hLI.symm, hIh⟩
      · exact ⟨Heap.get?_push_of_some _ (N q hq).1, (N q hq).2⟩
    · show IsRangeIter _ _ _ _ _
      rw [← hI, hn]; simpa using Heap.get?_push_size _ rfl
  · rintro i s' v h' tk' hi ⟨h, tk, m₁, l, oI, rfl, F₁, N₁, ho, hJ, _⟩ ⟨t, rfl⟩ hst hk
    obtain ⟨F₂, N₂⟩ := fro hk F₁ (fun q hq => N₁ q (.tail _ hq)) ho
    rw [Int.mul_one]
    obtain ⟨oI', hoI'⟩ : ∃ o, h'.get? I = some o := ⟨_, hst⟩
    refine wpAny_mono (turn I i t m₁ l h' tk' oI' hi hJ ho F₂ (fun q hq => ?_)) (fun _ s₂ h₂ => ?_) fun _ _ e => e
    · rcases List.mem_cons.mp hq with rfl | hq
      · exact ⟨hoI', hLI.symm, hIh⟩
      · exact N₂ q hq
    · refine wpAny_mono h₂ (fun f s₃ h₃ => ?_) fun _ _ e => e
      have fin : EndG h₀ L (J (i + 1)) I oI' { s with heap := h', toks := tk' } s₃ → ∃ h tk m₁ l oI, s₃ = { s with heap := h, toks := tk } ∧ Fr h₀ L h m₁ ∧ News h₀ L h ((I, oI) :: l) ∧ (∀ p ∈ l, p.1 ≠ I) ∧ J (i + 1) m₁ l ∧ IsRangeIter h I (a + ((i + 1 : Nat) : Int) * 1) ((n : Int) - ((i + 1 : Nat) : Int)) 1 := by
        rintro ⟨h₄, tk₄, m₄, l₄, rfl, F₄, N₄, ho₄, hJ₄⟩
        exact ⟨h₄, tk₄, m₄, l₄, oI', rfl, F₄, N₄, ho₄, hJ₄, (N₄ _ (.head _)).1.trans (hoI'.symm.trans hst)⟩
      cases f with
      | ret v => exact h₃
      | brk => exact h₃
      | next => exact ⟨fin h₃⟩
      | cont => exact ⟨fin h₃⟩
  · rintro s' h' tk' ⟨h, tk, m₁, l, oI, rfl, F₁, N₁, ho, hJ, _⟩ hk
    obtain ⟨F₂, N₂⟩ := fro hk F₁ (fun q hq => N₁ q (.tail _ hq)) ho
    exact done m₁ l h' tk' hJ F₂ N₂
/-- a for loop over a list of the ledger, whose name lies wherever it lies (a cell) -/
theorem listC {t : Addr} {vs : List Value} {ep : Nat} {m₀ : Str → Option Value} {news : List (Addr × Obj)}
    (J : Nat → (Str → Option Value) → List (Addr × Obj) → Prop) (hh : A.handled = none) (hE : PassesOwn (model prog w) A env E)
    (ht : ∀ i m l, J i m l → (t, W.listOf vs.toArray ep) ∈ l)
    (F : Fr h₀ L s.heap m₀) (N : News h₀ L s.heap news) (hj : J 0 m₀ news)
    (turn : ∀ I i v m₁ news₁ h tk oI, vs[i]? = some v → J i m₁ news₁ → (∀ p ∈ news₁, p.1 ≠ I) → Fr h₀ L h m₁ → News h₀ L h ((I, oI) :: news₁) →
      wpAny (model prog w) A (storeName env x v) (fun _ s₂ => wpAny (model prog w) A (execs body env) (PostG h₀ L (J (i + 1)) I oI { s with heap := h, toks := tk } Q) E s₂) E { s with heap := h, toks := tk })
    (done : ∀ m₁ news₁ h tk, J vs.length m₁ news₁ → Fr h₀ L h m₁ → News h₀ L h news₁ → Q .next { s with heap := h, toks := tk }) :
    wpAny (model prog w) A (pyIter (.ref t)) (fun it s₂ => codeAny (model prog w) A (.forLoop (.Name x px) it body [] env) (fun r s' => match r with | .ok f => Q f s' | .error e => cameBackBy (model prog w) A env E e s') s₂) E s := by
  have ho : s.heap.get? t = some (W.listOf vs.toArray ep) := (N _ (ht _ _ _ hj)).1
  have hls : s.heap.IsList t vs.toArray := ⟨_, ho, rfl, _, rfl⟩
  have hne : t ≠ s.heap.objs.size := Nat.ne_of_lt (Heap.lt_size ho)
  refine wpAny_pyIter_list hls ?_
  have W := Walks.list (prog := prog) (w := w) hh s.heap.objs.size t hne vs.toArray
  rw [show vs.toArray.size = vs.length by simp] at W
  generalize hI : s.heap.objs.size = I at W hne
  have hI0 : ∀ q ∈ news, q.1 ≠ I := fun q hq => hI ▸ Nat.ne_of_lt (Heap.lt_size (N q hq).1)
  have hIh : h₀.get? I = none := hI ▸ next_is_new F
  have hLI : L ≠ I := hI ▸ ne_size F
  have nI : ∀ {b : Addr}, b ≠ I → b ∉ [I] := fun h hm => h (List.mem_singleton.mp hm)
  have fro : ∀ {h h' : Heap} {m₁ : Str → Option Value} {l : List (Addr × Obj)}, (∀ b o, b ∉ [I] → h.get? b = some o → h'.get? b = some o) → Fr h₀ L h m₁ → News h₀ L h l → (∀ q ∈ l, q.1 ≠ I) → Fr h₀ L h' m₁ ∧ News h₀ L h' l := fun hk F N ho => by
    refine ⟨⟨F.ns.at' fun o e => hk _ o (nI hLI) e, fun b o e => hk b o (nI fun q => ?_) (F.keep b o e), F.above⟩, fun q hq => ⟨hk _ _ (nI (ho q hq)) (N q hq).1, (N q hq).2⟩⟩
    rw [q, hIh] at e; cases e
  refine forS W hE (fun i s' => ∃ h tk m₁ l oI, s' = { s with heap := h, toks := tk } ∧ Fr h₀ L h m₁ ∧ News h₀ L h ((I, oI) :: l) ∧ (∀ p ∈ l, p.1 ≠ I) ∧ J i m₁ l ∧ h.IsListIter I t i) ?_ ?_ ?_ ?_
  · rintro i s' ⟨h, tk, m₁, l, oI, rfl, _, N₁, _, hJ, hI⟩
    exact ⟨hI, ⟨_, (N₁ _ (.tail _ (ht _ _ _ hJ))).1, rfl, _, rfl⟩⟩
  · obtain ⟨oI, hoI⟩ : ∃ o, (s.heap.push { cls := .type "list_iterator", data := .fields #[.ref t, .int 0 0] } : Heap).get? I = some o := ⟨_, hI ▸ Heap.get?_push_size _ rfl⟩
    refine ⟨_, _, m₀, news, oI, rfl, F.push _, fun q hq => ?_, hI0, hj, ?_⟩
    · rcases List.mem_cons.mp hq with rfl | hq
      · exact ⟨hoI, hLI.symm, hIh⟩
      · exact ⟨Heap.get?_push_of_some _ (N q hq).1, (N q hq).2⟩
    · rw [← hI]
      exact ⟨_, Heap.get?_push_size _ rfl, rfl, rfl⟩
  · rintro i s' v h' tk' hi ⟨h, tk, m₁, l, oI, rfl, F₁, N₁, ho, hJ, _⟩ hv hst hk
    obtain ⟨F₂, N₂⟩ := fro hk F₁ (fun q hq => N₁ q (.tail _ hq)) ho
    obtain ⟨oI', hoI', hst'⟩ := id hst.1
    refine wpAny_mono (turn I i v m₁ l h' tk' oI' (by simpa using hv) hJ ho F₂ (fun q hq => ?_)) (fun _ s₂ h₂ => ?_) fun _ _ e => e
    · rcases List.mem_cons.mp hq with rfl | hq
      · exact ⟨hoI', hLI.symm, hIh⟩
      · exact N₂ q hq
    · refine wpAny_mono h₂ (fun f s₃ h₃ => ?_) fun _ _ e => e
      have fin : EndG h₀ L (J (i + 1)) I oI' { s with heap := h', toks := tk' } s₃ → ∃ h tk m₁ l oI, s₃ = { s with heap := h, toks := tk } ∧ Fr h₀ L h m₁ ∧ News h₀ L h ((I, oI) :: l) ∧ (∀ p ∈ l, p.1 ≠ I) ∧ J (i + 1) m₁ l ∧ h.IsListIter I t (i + 1) := by
        rintro ⟨h₄, tk₄, m₄, l₄, rfl, F₄, N₄, ho₄, hJ₄⟩
        exact ⟨h₄, tk₄, m₄, l₄, oI', rfl, F₄, N₄, ho₄, hJ₄, ⟨oI', (N₄ _ (.head _)).1, hst'⟩⟩
      cases f with
      | ret v => exact h₃
      | brk => exact h₃
      | next => exact ⟨fin h₃⟩
      | cont => exact ⟨fin h₃⟩
  · rintro s' h' tk' ⟨h, tk, m₁, l, oI, rfl, F₁, N₁, ho, hJ, _⟩ hk
    obtain ⟨F₂, N₂⟩ := fro hk F₁ (fun q hq => N₁ q (.tail _ hq)) ho
    exact done m₁ l h' tk' hJ F₂ N₂
end
end
section
section
variable {M : Model} {A : Around} {E : Value → Shared → Prop} {s : Shared} {K : Frag} {env : Env} {pos apos : Pos} {first : List Value} {Q : Value → Shared → Prop} {e o : PySem.Expr} {rest args : List PySem.Expr} {name : Str}
/-- a method is called with starred arguments: it is bound first -/
theorem MethodStar_ (h : wpAny M A (eval o env) (fun ov s₁ => wpAny M A (getAttr ov name true) (fun f s₂ => wpAny M A (callWith pos f [] (backTo pos (starEach args env)) []) Q E s₂) E s₁) E s)
    (he : eval (.Call (.Attribute o name apos) args [] pos) env = (do
      let ov ← eval o env
      standAt apos.atName
      let (f, first) ← holding [ov] (do pure (← getAttr ov name true, []))
      callWith pos f first (backTo pos (starEach args env)) [])) :
    wpAny M A (eval (.Call (.Attribute o name apos) args [] pos) env) Q E s := by
  rw [he]
  refine wpAny_bind (wpAny_mono h (fun ov s₁ h₁ => wpAny_bind (wpAny_standAt (wpAny_bind (wpAny_holding (wpAny_bind (wpAny_mono h₁ (fun fx s₂ h₂ => wpAny_pure ?_) fun _ _ x => x)))))) fun _ _ x => x)
  exact h₂
theorem callWith_SM {q g : Addr} {self : Value} (hf : fnIn K g = true) (h : wpAny M A (spliced (backTo pos (starEach (e :: rest) env))) (fun vs s₁ => MethP K q g self s₁.heap ∧ wpAny M A (call (.ref q) (first ++ vs)) Q E s₁) E s)
    (he : starEach (e :: rest) env = (false, eval e env) :: starEach rest env) (hst : (backTo pos (starEach rest env)).any (·.1) = true) :
    wpAny M A (callWith pos (.ref q) first (backTo pos (starEach (e :: rest) env)) []) Q E s := by
  rw [he] at h ⊢
  exact ks_call (by show (false || (backTo pos (starEach rest env)).any (·.1)) = true; rw [hst]; rfl) (keeps_M hf) (evalArgs_plain h)
end
end
section
/-! ### entering a def that catches, from a frame of any form -/
section
variable {prog : Program} {w : World} {A₀ A : Around} {s : Shared} {base h₀ : Heap} {outer : List Env} {L : Addr} {m : Str → Option Value} {env : Env} {news : List (Addr × Obj)} {K : Frag} {p : Program} {loose : List Str} {mean : ExcName → Option Value} {mg mb : Str → Option Value}
    {R : Result → Shared → Prop} {name qual : Str} {params : Arguments} {body : List Stmt} {scope : Scope} {dV kV doc pm cdv ct oc : Value} {an od : Option Addr} {osl : Array (Option Value)} {f : Addr} {args : Args} {binds : List (Str × Value)}
/-- what the caller gets: a turned base -/
noncomputable def LeaveX (fs : List Addr) (A₀ : Around) (base : Heap) (outer : List Env) (K : Frag) (p : Program) (loose : List Str) (mean : ExcName → Option Value) (mg mb : Str → Option Value) (h₀ : Heap) (L : Addr) (m : Str → Option Value) (g : Heap) (R : Result → Shared → Prop) (v : Value) (s' : Shared) : Prop :=
  ∃ g' L' m' news', KtsTurn fs g g' ∧ Fr g' L' s'.heap m' ∧ News g' L' s'.heap news' ∧ ∀ h₀', KtsTurn (outer.filterMap (·.frame)) h₀ h₀' → Fr h₀' L s'.heap m → News h₀' L s'.heap news' → Below A₀ base outer h₀' → K.In h₀' → Top p loose mean mg mb h₀' →
    KtsDicts (outer.filterMap (·.frame)) h₀' → R (.ok (.ret v)) s'
theorem memX {b : Addr} (hf : env.frame = some L) (hm : b ∈ (env :: outer).filterMap (·.frame)) : b = L ∨ b ∈ outer.filterMap (·.frame) := by
  rw [List.filterMap_cons, hf] at hm
  exact List.mem_cons.mp hm
theorem code_defSX (B : Below A₀ base outer h₀) (F : Fr h₀ L s.heap m) (X₀ : K.In h₀) (N : News h₀ L s.heap news) (T : Top p loose mean mg mb h₀) (XB : K.In base) (TB : Top p loose mean mg mb base) (D : KtsDicts (outer.filterMap (·.frame)) h₀)
    (hA : A.frames = some (env :: outer)) (hf : env.frame = some L) (hke : env.scope.kind = .function)
    (ho : K.lookup f = some ⟨oc, od, .func (fnOf name qual params body scope dV kV doc pm an cdv ct), osl⟩) (hcd : codeIn K cdv qual = true) (hroom : A.depth < recursionLimit)
    (hbind : BindsTo s (fnOf name qual params body scope dV kV doc pm an cdv ct) args binds) (hloc : ∀ y ∈ binds, scope.names.lookup y.1 = some .local)
    (h : ∀ g L' h₁, Fr h₀ L g m → Fr g L' h₁ (fun y => binds.reverse.lookup y) → News g L' h₁ news → Below A base (env :: outer) g → K.In g → Top p loose mean mg mb g → KtsDicts ((env :: outer).filterMap (·.frame)) g →
      wpAny (model prog w) (A.deeper (envOf qual scope L' f cdv)) (execs body (envOf qual scope L' f cdv))
        (fun fl s' => LeaveX ((env :: outer).filterMap (·.frame)) A₀ base outer K p loose mean mg mb h₀ L m g R (match fl with | .ret v => v | _ => .none) s')
        (fun e s' => wpAny (model prog w) (A.deeper (envOf qual scope L' f cdv)) (leaving (envOf qual scope L' f cdv) e) (fun _ s'' => R (.error e) s'') (fun e' s'' => R (.error e') s'') s')
        { s with heap := h₁, toks := s.toks + binds.length })
    (hco : scope.isCoroutine = false) (hgen : scope.isGenerator = false) (hk : scope.kind = .function)
    (hcell : ∀ x ∈ scope.names, x.2 ≠ .cell) : codeAny (model prog w) A (.call (.ref f) args) R s := by
  have X := X₀.keeps F.keep
  refine codeAny_call_def (fd := fnOf name qual params body scope dV kV doc pm an cdv ct) (body := body) (binds := binds) hroom (X _ _ ho) rfl (T.nolimit.keeps F.keep) (codeRec_of X hcd) rfl hbind hcell hloc (fun h₁ hns hk₁ => ?_) hco hgen hk
  have nm : ∀ b o, h₀.get? b = some o → b ∉ news.map (·.1) := fun b o e q => by
    obtain ⟨p, hp, rfl⟩ := List.mem_map.mp q
    rw [(N p hp).2.2] at e; cases e
  have st : h₀.StaysIn (hideAll s.heap (news.map (·.1))) := fun b o e => hideAll_get _ (F.keep b o e) (nm b o e)
  obtain ⟨oL, es, ep, hL, hLd, hLk, hLf⟩ := F.ns
  have nL : L ∉ news.map (·.1) := fun q => by
    obtain ⟨p, hp, e⟩ := List.mem_map.mp q
    exact (N p hp).2.1 e
  have hLg := hideAll_get (news.map (·.1)) hL nL
  have hN : ∀ h', h'.get? L = some oL → Heap.Ns h' L m := fun h' e => ⟨oL, es, ep, e, hLd, hLk, hLf⟩
  have hNs : ∀ (sl : Array (Option Value)) h', h'.get? L = some { oL with slots := sl } → Heap.Ns h' L m := fun sl h' e => ⟨_, es, ep, e, hLd, hLk, hLf⟩
  have hnew : base.get? L = none := by
    cases hq : base.get? L with
    | none => rfl
    | some o => exact absurd (Nat.lt_of_lt_of_le (Heap.lt_size (B.stays L o hq)) F.above) (Nat.lt_irrefl _)
  have ff : s.heap.FunFrames base (env :: outer) := .cons (by rw [hke]; decide) hf F.ns hnew (B.frames.of_keeps fun b o e _ => ⟨o, F.keep b o e, rfl⟩)
  have B₂ : Below A base (env :: outer) (hideAll s.heap (news.map (·.1))) := ⟨hA, fun b o e => st b o (B.stays b o e), funFrames_hideAll ff fun e he b hb hfb => by
    cases he with
    | head => rw [hf] at hfb; exact nL ((Option.some.inj hfb : L = b) ▸ hb)
    | tail _ he =>
      obtain ⟨L₁, o₁, hf₁, ho₁⟩ := funFrames_in B.frames e he
      rw [hf₁] at hfb
      exact nm L₁ o₁ ho₁ ((Option.some.inj hfb : L₁ = b) ▸ hb)⟩
  refine wpAny_mono (h _ s.heap.objs.size h₁ ⟨hN _ hLg, st, F.above⟩ ⟨hns, fun b o e => hk₁ b o (of_hideAll _ e), Nat.le_of_eq (hideAll_size _ _)⟩
    (fun p hp => ⟨hk₁ _ _ (N p hp).1, Nat.ne_of_lt (Heap.lt_size (N p hp).1), hideAll_none _ (List.mem_map_of_mem hp)⟩) B₂ (X₀.keeps st) (T.keeps st) (fun b hb => by
      rcases memX hf hb with rfl | hb
      · exact ⟨oL, es, ep, hLg, hLd⟩
      · obtain ⟨o, es', n', ho', hd'⟩ := D b hb
        exact ⟨o, es', n', st b o ho', hd'⟩)) (fun fl s' hl => ?_) fun _ _ y => y
  have nL₀ : h₀.get? L = none := kts_self F
  obtain ⟨g', L', m', news', T', F', N', k⟩ := hl
  obtain ⟨sl, hs⟩ := T'.up hLg
  obtain ⟨T₁, S₁⟩ := kts_turn_at (h := s'.heap) (fs := outer.filterMap (·.frame)) (g := h₀)
    (fun b hb => by
      obtain ⟨_, o, ho', _⟩ := B.frames.mem hb
      exact ⟨o, ho'⟩)
    (fun b o e nmem => F'.keep b o (T'.other b o (st b o e) (fun q => by
      rcases memX hf q with z | z
      · rw [z, nL₀] at e
        cases e
      · exact nmem z)))
    (fun b o e hm => by
      obtain ⟨sl', hs'⟩ := T'.up (st b o e)
      exact ⟨sl', F'.keep _ _ hs'⟩)
  have B₃ : Below A₀ base outer (ktsHeap s'.heap (outer.filterMap (·.frame)) h₀) := ⟨B.stack, fun b o e => T₁.other b o (B.stays b o e) (fun hm => by
    rw [(B.frames.mem hm).1] at e
    cases e), B.frames.of_keeps fun b o e _ => by
    obtain ⟨sl', hs'⟩ := T₁.up e
    exact ⟨_, hs', rfl⟩⟩
  refine k _ T₁ ⟨hNs sl _ (F'.keep _ _ hs), S₁, by rw [T₁.size]; exact F.above⟩ (fun p hp => ⟨(N' p hp).1, fun q => ?_, ?_⟩) B₃ (XB.keeps B₃.stays) (TB.keeps B₃.stays) (D.turn T₁)
  · have := (N' p hp).2.2; rw [q, hs] at this; cases this
  · refine T₁.none_ _ ?_
    cases q : h₀.get? p.1 with
    | none => rfl
    | some o =>
      obtain ⟨sl', hs'⟩ := T'.up (st _ _ q)
      have := (N' p hp).2.2
      rw [hs'] at this
      cases this
end
end
section
section
variable {A₀ : Around} {base g G B h₅ g1 g2 h₀ : Heap} {outer : List Env} {L : Addr} {m : Str → Option Value} {env : Env}
/-- what a turn within a called def is to the caller -/
theorem turn_out (K : Below A₀ base outer h₀) (F1 : Fr h₀ L g1 m) (T' : KtsTurn ((env :: outer).filterMap (·.frame)) g1 g2) (hf : env.frame = some L) :
    ∃ g', KtsTurn (outer.filterMap (·.frame)) h₀ g' ∧ Fr g' L g2 m ∧ Below A₀ base outer g' := by
  obtain ⟨oL, es, ep, hL, hLd, hLk, hLf⟩ := F1.ns
  have nL₀ : h₀.get? L = none := kts_self F1
  obtain ⟨sl, hs⟩ := T'.up hL
  have hNs : Heap.Ns g2 L m := ⟨_, es, ep, hs, hLd, hLk, hLf⟩
  obtain ⟨T₁, S₁⟩ := kts_turn_at (h := g2) (fs := outer.filterMap (·.frame)) (g := h₀)
    (fun b hb => by
      obtain ⟨_, o, ho', _⟩ := K.frames.mem hb
      exact ⟨o, ho'⟩)
    (fun b o e nmem => T'.other b o (F1.keep b o e) (fun q => by
      rcases memX hf q with z | z
      · rw [z, nL₀] at e
        cases e
      · exact nmem z))
    (fun b o e hm => T'.up (F1.keep b o e))
  refine ⟨_, T₁, ⟨hNs, S₁, by rw [T₁.size]; exact F1.above⟩, ⟨K.stack, fun b o e => T₁.other b o (K.stays b o e) (fun hm => by
    rw [(K.frames.mem hm).1] at e
    cases e), K.frames.of_keeps fun b o e _ => ?_⟩⟩
  obtain ⟨sl', hs'⟩ := T₁.up e
  exact ⟨_, hs', rfl⟩
theorem ground_X (hfr : env.frame = some L) (K : Below A₀ base outer g) (F : Fr g L G m) (hBG : ∀ b o, G.get? b = some o → b ∉ (env :: outer).filterMap (·.frame) → B.get? b = some o) (hBh : B.StaysIn h₅) (hsm : G.UpToSlots h₅) :
    ∃ g', KtsTurn (outer.filterMap (·.frame)) g g' ∧ Fr g' L h₅ m ∧ Below A₀ base outer g' := by
  obtain ⟨T, S⟩ := kts_turn_at (h := h₅) (fs := outer.filterMap (·.frame)) (g := g)
    (fun b hb => by
      obtain ⟨_, o, ho, _⟩ := K.frames.mem hb
      exact ⟨o, ho⟩)
    (fun b o e nm => hBh b o (hBG b o (F.keep b o e) (fun hm => by
      rcases memX hfr hm with z | z
      · rw [z, kts_self F] at e
        cases e
      · exact nm z)))
    (fun b o e hm => by
      obtain ⟨_, o', ho', hd⟩ := K.frames.mem hm
      rw [e] at ho'
      cases ho'
      exact hsm b o (F.keep b o e) hd)
  refine ⟨_, T, ⟨hsm.ns F.ns, S, by rw [T.size]; exact F.above⟩, ⟨K.stack, fun b o e => T.other b o (K.stays b o e) (fun hm => by
    rw [(K.frames.mem hm).1] at e
    cases e), K.frames.of_keeps fun b o e _ => ?_⟩⟩
  obtain ⟨sl, hs⟩ := T.up e
  exact ⟨_, hs, rfl⟩
end
section
variable {prog : Program} {w : World} {A₀ : Around} {E : Value → Shared → Prop} {s' : Shared} {base g g₀ G : Heap} {outer : List Env} {L e t C : Addr} {m : Str → Option Value} {env : Env}
  {vs : List Value} {b₀ : Stmt} {suite : List Stmt} {pos np : Pos} {rest : List ExceptHandler} {Q : Flow → Shared → Prop} {news : List (Addr × Obj)} {KF : Frag}
  {p : Program} {loose : List Str} {mean : ExcName → Option Value} {mg mb : Str → Option Value} {x : Str}
/-- an exception of an own class, raised in a called def, is caught in a frame of any form -/
theorem caught_OX (R : RaisedS base G (env :: outer) e (.ref C) t vs news s'.heap) (F : Fr g L G m) (K : Below A₀ base outer g) (hsm : G.UpToSlots s'.heap) (XB : KF.In base) (TB : Top p loose mean mg mb base)
    (D : KtsDicts (outer.filterMap (·.frame)) g) (T0 : KtsTurn (outer.filterMap (·.frame)) g₀ g)
    (ex : nsIn KF mainGlobals x = some (some (.ref C))) (q : ktsIn KF C "BaseException" = true)
    (k : ∀ h' g', KtsTurn (outer.filterMap (·.frame)) g₀ g' → Fr g' L h' m → News g' L h' news → Below A₀ base outer g' → KF.In g' → Top p loose mean mg mb g' → KtsDicts (outer.filterMap (·.frame)) g' →
      wpAny (model prog w) ((A₀.deeper env).mark (some (.ref e))) (execs (b₀ :: suite) env) Q E { s' with heap := h' })
    (hfr : env.frame = some L) (hgl : env.globals = mainGlobals) (hk : env.scope.kind = .function) (hx : env.kindOf x = some .globalImplicit) (hd : (x == ("__debug__" : Str)) = false)
    (hE : PassesOwnAt (model prog w) ((A₀.deeper env).mark (some (.ref e))) (A₀.deeper env) env E) :
    wpAny (model prog w) (A₀.deeper env) (noteFrame (.ref e) env)
      (fun _ s₂ => wpAny (model prog w) (A₀.deeper env) (setFlight (.ref e) none) (fun _ s₃ =>
        wpAny (model prog w) (A₀.deeper env) (handleBy (.ref e) env (.ExceptHandler (some (.Name x np)) none (b₀ :: suite) pos :: rest)) Q E s₃) E s₂) E s' := by
  obtain ⟨⟨B, hB, hBG, hl, hfl, hnew⟩, htup⟩ := R
  have hL : B.get? L = none := by
    obtain ⟨_, ⟨L', _, hf, hn', _⟩, _⟩ := hfl.2.2.1
    rw [hfr] at hf
    obtain rfl : L = L' := Option.some.inj hf
    exact hn'
  refine wpAny_looks_onW (Around.frames_deeper K.stack) hfr hfl fun h₄ hheld₄ hsm₄ => ?_
  refine wpAny_landsW hheld₄ fun h₅ hheld hsm₅' => ?_
  have hsm₅ := hsm₄.trans hsm₅'
  obtain ⟨g₅, T₅, F₅, K₅⟩ := ground_X hfr K F hBG hheld.1 (hsm.trans hsm₅)
  have X₅ : KF.In g₅ := XB.keeps K₅.stays
  have P₅ : TopRead p loose mg mb g₅ := topRead_of (TB.keeps K₅.stays)
  obtain ⟨ob, hob, hobc⟩ := hheld.there
  obtain ⟨nm, q', N, bs, bm, hdct, sn, sub, ab, col, dd, k0, k1, k2, k3, k5, newId, hC, hbase, hbT⟩ := kts_cls X₅ q
  have hC₅ := F₅.keep _ _ hC
  refine wpAny_handleBy_cons (codeAny_handlers_test (nameG_K F₅ X₅ P₅ ex ?_ hgl hk hx hd)) (by intro q; cases q)
  refine wpAny_excMatches_sub_self hC₅ hob hobc hbase (codeAny_handlers_suite ?_)
  refine lands_againW hheld fun h₆ hfl₆ hsm₆ => ?_
  obtain ⟨g₆, T₆, F₆, K₆⟩ := ground_X hfr K F hBG hfl₆.1 ((hsm.trans hsm₅).trans hsm₆)
  have Nl : News g₆ L h₆ news := fun q hq => ⟨hfl₆.1 _ _ (hl q hq).1, (fun z => by have := (hl q hq).1; rw [z, hL] at this; cases this), T₆.none_ _ (kts_none F.keep (hl q hq).2.1)⟩
  have X₆ : KF.In g₆ := XB.keeps K₆.stays
  have P₆ : Top p loose mean mg mb g₆ := TB.keeps K₆.stays
  have D₆ : KtsDicts (outer.filterMap (·.frame)) g₆ := D.turn T₆
  exact wpAny_passesOwnAt hE (k h₆ g₆ (T0.trans T₆) F₆ Nl K₆ X₆ P₆ D₆)
end
end
section
section
variable {prog : Program} {w : World} {A : Around} {E : Value → Shared → Prop} {s : Shared} {h₀ : Heap} {L t : Addr} {m : Str → Option Value} {news : List (Addr × Obj)} {vs : List Value} {n : Nat}
theorem iter_M {Q : Value → Shared → Prop} (F : Fr h₀ L s.heap m) (N : News h₀ L s.heap news) (hp : (t, W.listOf vs.toArray n) ∈ news)
    (h : ∀ (I : Addr) h', Fr h₀ L h' m → News h₀ L h' ((I, liObj t (0 : Nat)) :: news) → (∀ p ∈ news, p.1 < I) → Q (.ref I) { s with heap := h' }) :
    wpAny (model prog w) A (call (.builtin "iter") [.ref t]) Q E s := by
  refine call_function_entry (by decide +kernel) (by decide +kernel) kdk_entry_iter (kdk_args_iter _) ?_
  unfold Builtin.«iter»
  refine wpAny_bind (m := someArgs "iter" 1 2 _) (wpAny_of_eq (a := [Value.ref t]) (by first | rfl | kernel_rfl!) ?_)
  show wpAny _ _ (pyIter (.ref t) >>= _) _ _ _
  refine wpAny_bind (wpAny_pyIter_list (items := vs.toArray) ⟨_, (N _ hp).1, rfl, _, rfl⟩ ?_)
  exact wpAny_pure ⟨_, rfl, h _ _ (F.push _) (News.push F N _ rfl) (fun q hq => Heap.lt_size (N q hq).1)⟩
theorem next_M {it l : Addr} {i : Int} {Q : Value → Shared → Prop} (F : Fr h₀ L s.heap m) (N : News h₀ L s.heap news) (hp : (it, liObj l i) ∈ news)
    (h : ∀ (M : Addr) h', Fr h₀ L h' m → News h₀ L h' ((M, mwObj it) :: news) → (∀ p ∈ news, p.1 < M) → Q (.ref M) { s with heap := h', toks := s.toks + 1 }) :
    wpAny (model prog w) A (getAttr (.ref it) "__next__" true) Q E s := by
  obtain ⟨hp', gn, d, tk, os⟩ := s
  exact next_attr (N _ hp).1 (h _ _ (F.push _) (News.push F N _ rfl) (fun q hq => Heap.lt_size (N q hq).1))
theorem last_M {value slice : PySem.Expr} {x : Value} {u : Tok} {Q : Value → Shared → Prop} (N : News h₀ L s.heap news) (hp : (t, W.listOf (vs ++ [x]).toArray n) ∈ news) (hz : vs.length ≤ 1000000) (h : Q x s)
    (hs : subscripted slice false (.ref t) (.int (-1) u) = operate [.ref t, .int (-1) u] (getItem (.ref t) (.int (-1) u)) := by with_unfolding_all rfl) :
    wpAny (model prog w) A (subscriptTail value slice (.ref t) (.int (-1) u)) Q E s := by
  have hl : s.heap.IsList t (vs ++ [x]).toArray := ⟨_, (N _ hp).1, rfl, _, rfl⟩
  refine tail_any hl.typeIs slot_list_getitem.lookup ?_ hs
  refine wpAny_getItem_list_neg hl (by decide) (by simp; omega) (by decide) ?_ h
  simp
  rw [show (-1 + ((vs.length : Int) + 1)).toNat = vs.length from by omega]
  simp
theorem pop_M {x : Value} {Q : Value → Shared → Prop} (F : Fr h₀ L s.heap m) (N : News h₀ L s.heap news) (hs : Sep news) (hp : (t, W.listOf (vs ++ [x]).toArray n) ∈ news) (hz : vs.length ≤ 1000000)
    (h : ∀ h', Fr h₀ L h' m → News h₀ L h' (upd news t (W.listOf vs.toArray (n + 1))) → Q x { s with heap := h' }) : wpAny (model prog w) A (call (.builtin "list.pop") [.ref t]) Q E s := by
  refine kl_pop F N (p := vs) (y := x) ?_ (upd_of hs hp) (by simp; rw [sizeLine_eq]; omega) h
  have := kpa_last x vs
  simpa using this
theorem truthy_none {Q : Bool → Shared → Prop} (N : News h₀ L s.heap news) (hp : (t, W.listOf #[] n) ∈ news) (h : Q false { s with toks := s.toks + 1 + 1 }) : wpAny (model prog w) A (truthy (.ref t)) Q E s :=
  wpAny_truthy_list (items := #[]) ⟨_, (N _ hp).1, rfl, _, rfl⟩ (by decide) h
theorem truthy_some {x : Value} {Q : Bool → Shared → Prop} (N : News h₀ L s.heap news) (hp : (t, W.listOf (vs ++ [x]).toArray n) ∈ news) (hz : vs.length ≤ 1000000) (h : Q true { s with toks := s.toks + 1 + 1 }) : wpAny (model prog w) A (truthy (.ref t)) Q E s :=
  wpAny_truthy_list (items := (vs ++ [x]).toArray) ⟨_, (N _ hp).1, rfl, _, rfl⟩ (by simp; omega) (by rw [show (!(vs ++ [x]).toArray.isEmpty) = true from by simp]; exact h)
theorem strs_snoc {vs : List Value} {ks : List Str} {k : Str} (h : StrsAre vs (ks ++ [k])) : ∃ us t, vs = us ++ [.str k t] ∧ StrsAre us ks := by
  induction ks generalizing vs with
  | nil =>
    obtain ⟨t, vs', rfl, h2⟩ := StrsAre.cons_inv h
    cases StrsAre.nil_inv h2
    exact ⟨[], t, rfl, .nil⟩
  | cons x r ih =>
    obtain ⟨t, vs', rfl, h2⟩ := StrsAre.cons_inv h
    obtain ⟨us, u, rfl, h'⟩ := ih h2
    exact ⟨_ :: us, u, rfl, .cons _ _ h'⟩
theorem in_set {sa : Addr} {so : Obj} {S : Str → Bool} {c : Nat} {k : Str} {u : Tok} (b : Bool) {Q : Value → Shared → Prop} (N : News h₀ L s.heap news) (hs : Sep news) (hm : (sa, so) ∈ news) (hso : so.SetObjOf (PySem.strKind prog w) S c) (hb : c ≤ 4000)
    (hS : S k = b) (h : Q (.bool b) { s with toks := s.toks + 1 }) : wpAny (model prog w) A (compareOp .In (.str k u) (.ref sa)) Q E s :=
  kse_in N (updF_of hs hm) hso (by unfold scanBound; omega) (strKind_is _ _ _ _) rfl (hS ▸ h)
end
theorem stop_exc : isSubtype (.type "StopIteration") (.type "BaseException") = pure true := by rw [isSubtype_type]; kernel_rfl
theorem stop_sub : isSubtype (.type "StopIteration") (.type "StopIteration") = pure true := by rw [isSubtype_type]; kernel_rfl
theorem stop_tup : isSubtype (.type ((Manifest.find? "StopIteration").elim "type" fun x => x.metatype)) (.type "tuple") = pure false := by
  rw [show (Manifest.find? "StopIteration").elim "type" (fun x => x.metatype) = "type" from by kernel_rfl, isSubtype_type]; kernel_rfl
theorem callWith_mw {M : Model} {A : Around} {E : Value → Shared → Prop} {s : Shared} {pos : Pos} {u it : Addr} {env : Env} {Q : Value → Shared → Prop} (ho : s.heap.get? u = some (mwObj it))
    (h : wpAny M A (call (.ref u) []) Q E s) : wpAny M A (callWith pos (.ref u) [] (backTo pos (starEach [] env)) []) Q E s := by
  show wpAny M A (callWith pos (.ref u) [] [] []) Q E s
  unfold callWith
  refine wpAny_bind (wpAny_holding (PyProof.Rows.evalArgs_none (wpAny_bind (wpAny_standAt ?_))))
  simp only [List.any_nil, Bool.or_false]
  refine wpAny_bind (m := keeperOf (.ref u)) ?_
  unfold keeperOf
  refine wpAny_bind (wpAny_load ho ?_)
  simp only [mwObj, show (Value.type "method-wrapper" != Value.type "method") = true by decide, show (Value.type "method-wrapper" == Value.type "builtin_function_or_method" || Value.type "method-wrapper" == Value.type "method-wrapper") = true by decide, if_true]
  refine wpAny_pure ?_
  exact wpAny_bind (wpAny_mono h (fun r s₂ hr => wpAny_bind (wpAny_holding (wpAny_point (wpAny_pure hr)))) fun _ _ x => x)
end
section
theorem pick_from (vs : List Value) (k : Nat) : (slicePick vs.toArray (some (k : Int)) none none).toList = vs.drop k := by
  have e : sliceBounds (some (k : Int)) none none vs.toArray.size = (((min k vs.toArray.size : Nat) : Int), ((vs.toArray.size : Nat) : Int), 1) := by
    simp only [sliceBounds, Option.getD_none, show (1 : Int) > 0 by decide, if_true, if_neg (show ¬ ((k : Int) < 0) by omega)]
    congr 1
    omega
  rw [kmk_pick_nat _ e]
  show (vs.drop (min k vs.toArray.size)).take (vs.toArray.size - min k vs.toArray.size) = _
  rw [List.size_toArray, kmk_drop_min, List.take_of_length_le (by rw [List.length_drop]; omega)]
theorem pick_cut (vs : List Value) (a b : Nat) : (slicePick vs.toArray (some (a : Int)) (some (b : Int)) none).toList = (vs.drop a).take (b - a) := by
  have e : sliceBounds (some (a : Int)) (some (b : Int)) none vs.toArray.size = (((min a vs.toArray.size : Nat) : Int), ((min b vs.toArray.size : Nat) : Int), 1) := by
    simp only [sliceBounds, Option.getD_none, show (1 : Int) > 0 by decide, if_true, if_neg (show ¬ ((a : Int) < 0) by omega), if_neg (show ¬ ((b : Int) < 0) by omega)]
    congr 1
    · omega
    · congr 1
      omega
  rw [kmk_pick_nat _ e]
  show (vs.drop (min a vs.toArray.size)).take (min b vs.toArray.size - min a vs.toArray.size) = _
  rw [List.size_toArray, kmk_drop_min]
  by_cases h : a ≤ vs.length
  · by_cases h2 : b ≤ vs.length
    · rw [Nat.min_eq_left h2, Nat.min_eq_left h]
    · rw [Nat.min_eq_right (by omega), Nat.min_eq_left h, List.take_of_length_le (by rw [List.length_drop]; omega), List.take_of_length_le (by rw [List.length_drop]; omega)]
  · rw [List.drop_of_length_le (by omega)]; simp
section
variable {prog : Program} {w : World} {A : Around} {E : Value → Shared → Prop} {s : Shared} {h₀ : Heap} {L t : Addr} {m : Str → Option Value} {news : List (Addr × Obj)} {vs : List Value} {n : Nat} {value slice : PySem.Expr} {Q : Value → Shared → Prop}
theorem sliceFrom_M {k : Nat} {kt : Tok} (F : Fr h₀ L s.heap m) (N : News h₀ L s.heap news) (hp : (t, W.listOf vs.toArray n) ∈ news) (hz : vs.length ≤ 1000000)
    (h : ∀ D h', Fr h₀ L h' m → News h₀ L h' ((D, W.listOf (vs.drop k).toArray 0) :: news) → (∀ p ∈ news, p.1 < D) → Q (.ref D) { s with heap := h' })
    (hs : subscripted slice false (.ref t) (.ref s.heap.objs.size) = operate [.ref s.heap.objs.size, .ref t] (getItem (.ref t) (.ref s.heap.objs.size))) (ht : ∀ r, letTemporaryGo value (.ref t) r = pure ()) :
    wpAny (model prog w) A (subscriptTail value slice (.ref t) (.ref s.heap.objs.size)) Q E { s with heap := s.heap.push { cls := .type "slice", data := .fields #[.int (k : Nat) kt, .none, .none] } } :=
  kmk_slice_lit F N ⟨_, (N _ hp).1, rfl, _, rfl⟩ (.int _ _) .none (pick_from vs k) h hs ht (by rw [List.size_toArray]; exact seven_le hz)
theorem sliceCut_M {a b : Nat} {ta tb : Tok} (F : Fr h₀ L s.heap m) (N : News h₀ L s.heap news) (hp : (t, W.listOf vs.toArray n) ∈ news) (hz : vs.length ≤ 1000000)
    (h : ∀ D h', Fr h₀ L h' m → News h₀ L h' ((D, W.listOf ((vs.drop a).take (b - a)).toArray 0) :: news) → (∀ p ∈ news, p.1 < D) → Q (.ref D) { s with heap := h' })
    (hs : subscripted slice false (.ref t) (.ref s.heap.objs.size) = operate [.ref s.heap.objs.size, .ref t] (getItem (.ref t) (.ref s.heap.objs.size))) (ht : ∀ r, letTemporaryGo value (.ref t) r = pure ()) :
    wpAny (model prog w) A (subscriptTail value slice (.ref t) (.ref s.heap.objs.size)) Q E { s with heap := s.heap.push { cls := .type "slice", data := .fields #[.int (a : Nat) ta, .int (b : Nat) tb, .none] } } :=
  kmk_slice_lit F N ⟨_, (N _ hp).1, rfl, _, rfl⟩ (.int _ _) (.int _ _) (pick_cut vs a b) h hs ht (by rw [List.size_toArray]; exact seven_le hz)
theorem cat_M {b : Addr} {ws : List Value} {n' : Nat} (F : Fr h₀ L s.heap m) (N : News h₀ L s.heap news) (ha : (t, W.listOf vs.toArray n) ∈ news) (hb : (b, W.listOf ws.toArray n') ∈ news) (hz : vs.length + ws.length ≤ 1000000)
    (h : ∀ D h', Fr h₀ L h' m → News h₀ L h' ((D, W.listOf (vs ++ ws).toArray 0) :: news) → (∀ p ∈ news, p.1 < D) → Q (.ref D) { s with heap := h' }) : wpAny (model prog w) A (binaryOp .Add (.ref t) (.ref b)) Q E s :=
  kmk_add_lit F N ⟨_, (N _ ha).1, rfl, _, rfl⟩ ⟨_, (N _ hb).1, rfl, _, rfl⟩ rfl h (seven_le hz)
end
end
section
theorem meets_bool_list (l : Addr) : Meets (Builtin.«bool.__new__» ⟨[.type "bool", .ref l], []⟩) (fun _ R s => ∃ items, s.heap.IsList l items ∧ (items.size : Int) < 2 ^ 63 ∧ R (.ok (.ret (.bool (!items.isEmpty)))) { s with toks := s.toks + 1 + 1 }) :=
  Meets.of_wp fun prog w A R s ⟨items, hl, hz, hs⟩ => by
    have f1 := F.conv_sub_bool
    repeat (any_goals (first | assumption | with_reducible apply wpAny_truthy_list hl hz | wp_step))
    exact ⟨_, rfl, hs⟩
section
variable {prog : Program} {w : World} {A : Around} {E : Value → Shared → Prop} {s : Shared} {h₀ : Heap} {L t : Addr} {m : Str → Option Value} {news : List (Addr × Obj)} {vs : List Value} {n : Nat} {Q : Value → Shared → Prop}
theorem bool_M (N : News h₀ L s.heap news) (hp : (t, W.listOf vs.toArray n) ∈ news) (hz : vs.length ≤ 1000000) (h : Q (.bool (!vs.isEmpty)) { s with toks := s.toks + 1 + 1 }) : wpAny (model prog w) A (call (.type "bool") [.ref t]) Q E s := by
  refine call_bool_1 (meets_bool_list t) ⟨vs.toArray, ⟨_, (N _ hp).1, rfl, _, rfl⟩, by simp; omega, ?_⟩
  refine ⟨rfl, ?_⟩
  rw [show vs.toArray.isEmpty = vs.isEmpty from by simp]
  exact h
theorem tuple_M (F : Fr h₀ L s.heap m) (N : News h₀ L s.heap news) (hp : (t, W.listOf vs.toArray n) ∈ news) (hz : vs.length ≤ 16000)
    (h : ∀ D h', Fr h₀ L h' m → News h₀ L h' ((D, tupOf vs.toArray 0) :: news) → (∀ p ∈ news, p.1 < D) → Q (.ref D) { s with heap := h' }) : wpAny (model prog w) A (call (.type "tuple") [.ref t]) Q E s :=
  kde_tupleOf F N (items := vs.toArray) ⟨_, (N _ hp).1, rfl, _, rfl⟩ (by simp; omega) rfl h
theorem clear_M (F : Fr h₀ L s.heap m) (N : News h₀ L s.heap news) (hs : Sep news) (hp : (t, W.listOf vs.toArray n) ∈ news) (hz : vs.length ≤ 1000000) (hne : vs ≠ [])
    (h : ∀ h', Fr h₀ L h' m → News h₀ L h' (upd news t (W.listOf #[] (n + 1))) → Q .none { s with heap := h' }) : wpAny (model prog w) A (call (.builtin "list.clear") [.ref t]) Q E s :=
  kl_clear F N (upd_of hs hp) (fun q => hne (by simpa using q)) (by simp; rw [sizeLine_eq]; omega) h
end
end
section
section
variable {prog : Program} {w : World} {A : Around} {E : Value → Shared → Prop} {s : Shared} {h₀ : Heap} {L d : Addr} {m : Str → Option Value} {news : List (Addr × Obj)} {K : Type} [DecidableEq K] {knd : KeyKind prog w K} {kvs : List (K × Value)} {o : Obj}
abbrev viewObj (d : Addr) : Obj := { cls := .type "dict_values", data := .fields #[.ref d] }
theorem values_method {pl : Sem Bool} {Q : Value × List Value → Shared → Prop} (N : News h₀ L s.heap news) (hp : (d, o) ∈ news) (hd : o.IsDictOf knd kvs) (h : Q (.builtin "dict.values", [.ref d]) s) : wpAny (model prog w) A (getMethod (.ref d) "values" pl) Q E s :=
  have hD := kda_dict N hp hd
  getMethod_builtin hD.typeIs PySem.F.plainAttrs_dict PySem.F.slot_dict_values PySem.F.type_dict_values hD.mapOf.noDict h
theorem values_M {Q : Value → Shared → Prop} (F : Fr h₀ L s.heap m) (N : News h₀ L s.heap news) (hp : (d, o) ∈ news) (hd : o.IsDictOf knd kvs) (lo : (d == sysModules) = false)
    (h : ∀ V h', Fr h₀ L h' m → News h₀ L h' ((V, viewObj d) :: news) → (∀ p ∈ news, p.1 < V) → Q (.ref V) { s with heap := h' }) :
    wpAny (model prog w) A (call (.builtin "dict.values") [.ref d]) Q E s :=
  have hD := kda_dict N hp hd
  call_meetsIn PySem.F.slot_dict_values hD.typeIs PySem.F.entry_dict_values (PySem.F.args_dict_values_1 _) (meets_dict_values knd d lo)
    ⟨⟨_, hD⟩, h _ _ (F.push _) (News.push F N _ rfl) fun q hq => Heap.lt_size (N q hq).1⟩
end
/-! ### comprehensions over an opaque ledger -/
section
variable {prog : Program} {w : World} {A : Around} {E : Value → Shared → Prop} {env : Env} {h₀ : Heap} {L : Addr}
/-- what is known of a source's iterator, of an element and of the end -/
structure CompAt (prog : Program) (w : World) (A : Around) (env : Env) (scope : Scope) (cl : List (Str × Addr)) (x : Str) (ifs : List Expr) (elt : Expr) (p : Value → Bool) (G : Value → Value → Prop) (h₀ : Heap) (L : Addr) (Q : Value → Shared → Prop)
    (I : Addr) (fp : List Addr) (n : Nat) (P : Nat → Value → Prop) (St : Nat → Heap → Prop) (m : Str → Option Value) (news : List (Addr × Obj)) (s₂ : Shared) : Prop where
  wk : Walks prog w A I fp [I] n P St
  sz : n ≤ sizeLine
  st : St 0 s₂.heap
  fp : ∀ b ∈ fp, b < s₂.heap.objs.size
  F : Fr h₀ L s₂.heap m
  N : News h₀ L s₂.heap news
  off : ∀ q ∈ news, q.1 ≠ I
  new : h₀.get? I = none
  ne : L ≠ I
  tests : ∀ C i v s₃ m₃ E', P i v → Fr h₀ L s₃.heap m → News h₀ L s₃.heap news → s₃.heap.Ns C m₃ → m₃ x = some v →
    wpAny (model prog w) A (forIn ifs true fun c r => if r = true then do let ok ← isTrue c (compEnvC scope cl C env) (eval c (compEnvC scope cl C env)); pure (ForInStep.yield ok) else pure (ForInStep.yield r)) (fun ok s₄ => ok = p v ∧ Keeps s₃ s₄) E' s₃
  elt : ∀ C i v s₃ m₃ E', P i v → p v = true → Fr h₀ L s₃.heap m → News h₀ L s₃.heap news → s₃.heap.Ns C m₃ → m₃ x = some v →
    wpAny (model prog w) A (eval elt (compEnvC scope cl C env)) (fun y s₄ => G v y ∧ Keeps s₃ s₄) E' s₃
  done : ∀ D h' tk ys k (vs : List Value), vs.length = n → (∀ j v, vs[j]? = some v → P j v) → Paired G (vs.filter p) ys → Fr h₀ L h' m → News h₀ L h' ((D, W.listOf ys.toArray k) :: news) → (∀ q ∈ news, q.1 ≠ D) → Q (.ref D) { s₂ with heap := h', toks := tk }
theorem compW {s : Shared} {elt iter : Expr} {x : Str} {px : Pos} {ifs : List Expr} {scope : Scope} {cl : List (Str × Addr)} {pos : Pos} {Q : Value → Shared → Prop} (p : Value → Bool) (G : Value → Value → Prop)
    (hclos : closureFor scope env = pure cl) (hcell : ∀ y ∈ scope.names, y.2 ≠ .cell) (hkind : scope.kind = .function)
    (hnames : ∀ y ∈ scope.names, y.2 = .local → scope.names.lookup y.1 = some .local) (hx : scope.names.lookup x = some .local) (hs : ∀ x, foldedSetIterable iter env x = pure x)
    (h : wpAny (model prog w) A (eval iter env) (fun xv s₁ => wpAny (model prog w) A (pyIter xv) (fun it s₂ => ∃ I fp n P St m news, it = .ref I ∧ CompAt prog w A env scope cl x ifs elt p G h₀ L Q I fp n P St m news s₂) E s₁) E s) :
    wpAny (model prog w) A (eval (.ListComp elt [⟨.Name x px, iter, ifs, 0⟩] scope pos) env) Q E s := by
  refine wpAny_ListComp_free p G hclos hcell hkind hnames hx (wpAny_mono h (fun xv s₁ h₁ => wpAny_mono h₁ (fun it s₂ h₂ => ?_) fun _ _ e => e) fun _ _ e => e) hs
  obtain ⟨I, fp, n, P, St, m, news, rfl, c⟩ := h₂
  have up : ∀ {h' : Heap}, (∀ b o, b ∉ [I] → s₂.heap.get? b = some o → h'.get? b = some o) → Fr h₀ L h' m ∧ News h₀ L h' news := fun {h'} hk => by
    have nI : ∀ {b : Addr}, b ≠ I → b ∉ [I] := fun h hm => h (List.mem_singleton.mp hm)
    refine ⟨⟨c.F.ns.at' fun o e => hk _ o (nI c.ne) e, fun b o e => hk b o (nI fun q => ?_) (c.F.keep b o e), c.F.above⟩, fun q hq => ⟨hk _ _ (nI (c.off q hq)) (c.N q hq).1, (c.N q hq).2⟩⟩
    rw [q, c.new] at e; cases e
  refine ⟨I, fp, [I], n, P, St, rfl, c.wk, c.sz, c.st, c.fp, ⟨?_, ?_⟩, ?_⟩
  · intro C i v s₃ m₃ E' _ hv hn hm hk _
    obtain ⟨F, N⟩ := up hk
    exact c.tests C i v s₃ m₃ E' hv F N hn hm
  · intro C i v s₃ m₃ E' _ hv hp hn hm hk _
    obtain ⟨F, N⟩ := up hk
    exact c.elt C i v s₃ m₃ E' hv hp F N hn hm
  · intro D h' tk ys vs hD _ hpl hlen hP hF hk
    obtain ⟨F, N⟩ := up hk
    obtain ⟨k, hk'⟩ := hpl
    have hne : ∀ {b : Addr} {o : Obj}, s₂.heap.get? b = some o → b ≠ D := fun e q => by rw [q, hD] at e; cases e
    obtain ⟨oL, _, _, hL, _⟩ := c.F.ns
    refine c.done D h' tk ys.toList k vs hlen hP hF F (fun q hq => ?_) fun q hq => hne (c.N q hq).1
    rcases List.mem_cons.mp hq with rfl | hq
    · refine ⟨hk', (hne hL).symm, ?_⟩
      cases e : h₀.get? D with
      | none => rfl
      | some o => exact absurd rfl (hne (c.F.keep _ _ e))
    · exact N q hq
section
variable {s : Shared} {m : Str → Option Value} {news : List (Addr × Obj)} {K : Type} [DecidableEq K] {knd : KeyKind prog w K} {kvs : List (K × Value)} {o : Obj} {V d t : Addr} {vs : List Value} {k : Nat}
  {elt : Expr} {x : Str} {ifs : List Expr} {scope : Scope} {cl : List (Str × Addr)} {Q : Value → Shared → Prop} {p : Value → Bool} {G : Value → Value → Prop}
noncomputable def CompEls (prog : Program) (w : World) (A : Around) (env : Env) (scope : Scope) (cl : List (Str × Addr)) (x : Str) (ifs : List Expr) (elt : Expr) (p : Value → Bool) (G : Value → Value → Prop) (h₀ : Heap) (L : Addr) (m : Str → Option Value) (news : List (Addr × Obj)) (P : Nat → Value → Prop) : Prop :=
  (∀ C i v s₃ m₃ E', P i v → Fr h₀ L s₃.heap m → News h₀ L s₃.heap news → s₃.heap.Ns C m₃ → m₃ x = some v →
    wpAny (model prog w) A (forIn ifs true fun c r => if r = true then do let ok ← isTrue c (compEnvC scope cl C env) (eval c (compEnvC scope cl C env)); pure (ForInStep.yield ok) else pure (ForInStep.yield r)) (fun ok s₄ => ok = p v ∧ Keeps s₃ s₄) E' s₃) ∧
  ∀ C i v s₃ m₃ E', P i v → p v = true → Fr h₀ L s₃.heap m → News h₀ L s₃.heap news → s₃.heap.Ns C m₃ → m₃ x = some v →
    wpAny (model prog w) A (eval elt (compEnvC scope cl C env)) (fun y s₄ => G v y ∧ Keeps s₃ s₄) E' s₃
theorem compVals (F : Fr h₀ L s.heap m) (N : News h₀ L s.heap news) (hV : (V, viewObj d) ∈ news) (hd : (d, o) ∈ news) (ho : o.IsDictOf knd kvs) (hsz : kvs.length ≤ sizeLine) (hh : A.handled = none)
    (els : CompEls prog w A env scope cl x ifs elt p G h₀ L m news (fun i v => ∃ k, kvs[i]? = some (k, v)))
    (done : ∀ D h' tk ys k, Paired G ((kvs.map (·.2)).filter p) ys → Fr h₀ L h' m → News h₀ L h' ((D, W.listOf ys.toArray k) :: news) → (∀ q ∈ news, q.1 ≠ D) → Q (.ref D) { s with heap := h', toks := tk }) :
    wpAny (model prog w) A (pyIter (.ref V)) (fun it s₂ => ∃ I fp n P St m news, it = .ref I ∧ CompAt prog w A env scope cl x ifs elt p G h₀ L Q I fp n P St m news s₂) E s := by
  obtain ⟨ep, hDa⟩ := (Heap.dictOf_iff.mpr ⟨_, (N _ hd).1, ho⟩).dictAt
  have hI : ∀ q ∈ news, q.1 ≠ s.heap.objs.size := fun q hq => Nat.ne_of_lt (Heap.lt_size (N q hq).1)
  refine wpAny_pyIter_values ⟨_, (N _ hV).1, rfl, rfl⟩ hDa ⟨_, _, _, _, _, m, news, rfl, ⟨Walks.dictValues hh _ d (hI _ hd) kvs ep, hsz, ⟨⟨_, Heap.get?_push_size _ rfl, rfl, rfl⟩, hDa.at' fun o e => Heap.get?_push_of_some _ e⟩, ?_, F.push _, fun q hq => ⟨Heap.get?_push_of_some _ (N q hq).1, (N q hq).2⟩, hI, next_is_new F, ne_size F, els.1, els.2, ?_⟩⟩
  · intro b hb
    rw [Heap.size_push]
    rcases List.mem_cons.mp hb with rfl | hb
    · exact Nat.lt_succ_self _
    · rw [List.mem_singleton.mp hb]
      exact Nat.lt_succ_of_lt (Heap.lt_size (N _ hd).1)
  · intro D h' tk ys k vs hlen hP hF F' N' hn
    have e : vs = kvs.map (·.2) := by
      refine List.ext_getElem (by simpa using hlen) fun j h1 h2 => ?_
      obtain ⟨k', hk'⟩ := hP j vs[j] (List.getElem?_eq_getElem h1)
      rw [List.getElem_map]
      have := (List.getElem?_eq_some_iff.mp hk')
      obtain ⟨h3, h4⟩ := this
      rw [h4]
    rw [e] at hF
    exact done D h' tk ys k hF F' N' hn
theorem compList (F : Fr h₀ L s.heap m) (N : News h₀ L s.heap news) (ht : (t, W.listOf vs.toArray k) ∈ news) (hsz : vs.length ≤ sizeLine) (hh : A.handled = none)
    (els : CompEls prog w A env scope cl x ifs elt p G h₀ L m news (fun i v => vs[i]? = some v))
    (done : ∀ D h' tk ys k, Paired G (vs.filter p) ys → Fr h₀ L h' m → News h₀ L h' ((D, W.listOf ys.toArray k) :: news) → (∀ q ∈ news, q.1 ≠ D) → Q (.ref D) { s with heap := h', toks := tk }) :
    wpAny (model prog w) A (pyIter (.ref t)) (fun it s₂ => ∃ I fp n P St m news, it = .ref I ∧ CompAt prog w A env scope cl x ifs elt p G h₀ L Q I fp n P St m news s₂) E s := by
  have hI : ∀ q ∈ news, q.1 ≠ s.heap.objs.size := fun q hq => Nat.ne_of_lt (Heap.lt_size (N q hq).1)
  have hls : s.heap.IsList t vs.toArray := ⟨_, (N _ ht).1, rfl, _, rfl⟩
  have W := Walks.list (prog := prog) (w := w) hh s.heap.objs.size t (hI _ ht) vs.toArray
  rw [show vs.toArray.size = vs.length by simp] at W
  refine wpAny_pyIter_list hls ⟨_, _, _, _, _, m, news, rfl, ⟨W, hsz, ⟨⟨_, Heap.get?_push_size _ rfl, rfl, rfl⟩, hls.at fun o e => Heap.get?_push_of_some _ e⟩, ?_, F.push _, fun q hq => ⟨Heap.get?_push_of_some _ (N q hq).1, (N q hq).2⟩, hI, next_is_new F, ne_size F,
    fun C i v s₃ m₃ E' hP => els.1 C i v s₃ m₃ E' (by simpa using hP), fun C i v s₃ m₃ E' hP => els.2 C i v s₃ m₃ E' (by simpa using hP), ?_⟩⟩
  · intro b hb
    rw [Heap.size_push]
    rcases List.mem_cons.mp hb with rfl | hb
    · exact Nat.lt_succ_self _
    · rw [List.mem_singleton.mp hb]
      exact Nat.lt_succ_of_lt (Heap.lt_size (N _ ht).1)
  · intro D h' tk ys k us hlen hP hF F' N' hn
    have e : us = vs := by
      refine List.ext_getElem hlen fun j h1 h2 => ?_
      have := hP j us[j] (List.getElem?_eq_getElem h1)
      rw [List.getElem?_toArray] at this
      obtain ⟨h3, h4⟩ := List.getElem?_eq_some_iff.mp this
      exact h4.symm
    rw [e] at hF
    exact done D h' tk ys k hF F' N' hn
theorem compRange {r : Addr} {a b : Int} {t₀ u₀ v₀ : Tok} {n : Nat} (F : Fr h₀ L s.heap m) (N : News h₀ L s.heap news) (hr : IsRange s.heap r a b 1 t₀ u₀ v₀) (hsmall : Builtin.Range.small a b 1 = true) (hn : Builtin.Range.rangeSize a b 1 = (n : Int)) (hsz : n ≤ sizeLine) (hh : A.handled = none)
    (els : CompEls prog w A env scope cl x ifs elt p G h₀ L m news (fun i v => ∃ t : Tok, v = Value.int (a + (i : Int)) t))
    (done : ∀ D h' tk ys k (vs : List Value), vs.length = n → (∀ (j : Nat) (v : Value), vs[j]? = some v → ∃ t : Tok, v = Value.int (a + (j : Int)) t) → Paired G (vs.filter p) ys → Fr h₀ L h' m → News h₀ L h' ((D, W.listOf ys.toArray k) :: news) → (∀ q ∈ news, q.1 ≠ D) → Q (.ref D) { s with heap := h', toks := tk }) :
    wpAny (model prog w) A (pyIter (.ref r)) (fun it s₂ => ∃ I fp n P St m news, it = .ref I ∧ CompAt prog w A env scope cl x ifs elt p G h₀ L Q I fp n P St m news s₂) E s := by
  have hI : ∀ q ∈ news, q.1 ≠ s.heap.objs.size := fun q hq => Nat.ne_of_lt (Heap.lt_size (N q hq).1)
  have W : Walks prog w A s.heap.objs.size [s.heap.objs.size] [s.heap.objs.size] n (fun i v => ∃ t, v = .int (a + i * 1) t)
      (fun i h => IsRangeIter h s.heap.objs.size (a + (i : Nat) * 1) ((n : Int) - (i : Nat)) 1) := Walks.range hh _ a 1 n
  refine wpAny_pyIter_range hr hsmall ⟨_, _, _, _, _, m, news, rfl, ⟨W, hsz, (by show IsRangeIter _ _ _ _ _; rw [hn]; simpa using Heap.get?_push_size _ rfl), ?_, F.push _, fun q hq => ⟨Heap.get?_push_of_some _ (N q hq).1, (N q hq).2⟩, hI, next_is_new F, ne_size F,
    fun C i v s₃ m₃ E' hP => els.1 C i v s₃ m₃ E' (by simpa using hP), fun C i v s₃ m₃ E' hP => els.2 C i v s₃ m₃ E' (by simpa using hP), ?_⟩⟩
  · intro b hb
    rw [Heap.size_push, List.mem_singleton.mp hb]
    exact Nat.lt_succ_self _
  · intro D h' tk ys k us hlen hP hF F' N' hn
    exact done D h' tk ys k us hlen (fun j v hj => by simpa using hP j v hj) hF F' N' hn
end
end
theorem news_rdyE {C Ci : Addr} {S : So} {rest : List (Addr × Obj)} {h₀ h : Heap} {L D : Addr} {o' : Obj} {v : Addr × Obj} {ys : List Value} {k : Nat} (rds : List Str) (N : News h₀ L h ((D, W.listOf ys.toArray k) :: v :: upd (S.cells C Ci ++ rest) S.dx o')) (hr : S.rdy = none)
    (hs : Sep (S.cells C Ci ++ rest)) (hv : ∀ q ∈ S.cells C Ci ++ rest, q.1 ≠ v.1) (hD : ∀ q ∈ v :: (S.cells C Ci ++ rest), q.1 ≠ D) (ho : o' = ({ S with rdy := some (D, ys, k), rds := rds } : So).dobj) :
    News h₀ L h (({ S with rdy := some (D, ys, k), rds := rds } : So).cells C Ci ++ v :: rest) ∧ Sep (({ S with rdy := some (D, ys, k), rds := rds } : So).cells C Ci ++ v :: rest) := by
  have e := upd_dx (C := C) (Ci := Ci) (rest := rest) hs o'
  have s1 : Sep ((D, W.listOf ys.toArray k) :: v :: upd (S.cells C Ci ++ rest) S.dx o') := by
    have := (hs.cons_ne (o := v.2) hv).cons_ne (a := D) (o := W.listOf ys.toArray k) hD
    unfold Sep at this ⊢
    simp only [List.map_cons, upd_addrs] at this ⊢
    exact this
  rw [e] at N s1
  have p : ((D, W.listOf ys.toArray k) :: v :: ((S.x, instObj C S.dx) :: (S.dx, o') :: (S.n2i, S.n2o) :: (S.rcells ++ S.nds.flatMap (Nd.cells Ci)) ++ rest)).Perm (({ S with rdy := some (D, ys, k), rds := rds } : So).cells C Ci ++ v :: rest) := by
    unfold So.cells So.rcells
    rw [hr, ho]
    dsimp only
    refine List.Perm.trans ?_ List.perm_middle.symm
    refine (List.Perm.swap _ _ _).trans (List.Perm.cons _ ?_)
    refine List.Perm.trans ?_ ((List.Perm.cons _ (List.Perm.cons _ (List.Perm.swap _ _ _))))
    refine (List.Perm.swap _ _ _).trans (List.Perm.cons _ ?_)
    exact List.Perm.swap _ _ _
  exact ⟨fun q hq => N q (p.mem_iff.mpr hq), s1.perm p⟩
/-- the ready ones at the start -/
noncomputable def ready0 (nds : List Nd) : List Str := (nds.filter fun u => decide (u.np = 0)).map (·.key)
theorem nd_of {S : So} {i : Nat} {k : Str} {v : Value} (h : (S.nds.map Nd.pair)[i]? = some (k, v)) : ∃ u ∈ S.nds, v = .ref u.x := by
  have := List.mem_of_getElem? h
  obtain ⟨u, hu, e⟩ := List.mem_map.mp this
  exact ⟨u, hu, (Prod.mk.inj e).2.symm⟩
theorem nd_any {l : List (Addr × Obj)} {Ci : Addr} {nds : List Nd} (hs : Sep l) (hm : ∀ v ∈ nds, ∀ q ∈ v.cells Ci, q ∈ l) {u : Nd} (hu : u ∈ nds) : (nds.any fun v => decide (Value.ref u.x = .ref v.x) && decide (v.np = 0)) = decide (u.np = 0) := by
  by_cases h : u.np = 0
  · rw [decide_eq_true h, List.any_eq_true]
    exact ⟨u, hu, by simp [h]⟩
  · rw [decide_eq_false h, List.any_eq_false]
    intro v hv e
    simp only [Bool.and_eq_true, decide_eq_true_eq, Value.ref.injEq] at e
    have h1 := hm u hu _ (.head _)
    have h2 := hm v hv _ (.head _)
    rw [← e.1] at h2
    have h3 := Sep.one hs h1 h2
    unfold Nd.info at h3
    injection h3 with _ _ _ h4
    simp at h4
    exact h (by rw [h4.2.1.1]; exact e.2)
theorem strs_paired {nds : List Nd} {pr : Value → Bool} (q : Nd → Bool) (hq : ∀ u ∈ nds, pr (.ref u.x) = q u) (hinj : ∀ u ∈ nds, ∀ v ∈ nds, u.x = v.x → u.key = v.key) : ∀ {us : List Nd} {ys : List Value}, (∀ u ∈ us, u ∈ nds) →
    Paired (fun v r => ∃ u ∈ nds, v = .ref u.x ∧ r = .str u.key u.kt) (((us.map Nd.pair).map (·.2)).filter pr) ys → StrsAre ys ((us.filter q).map (·.key))
  | [], ys, _, h => by cases h; exact .nil
  | u :: us, ys, hm, h => by
    rw [List.map_cons, List.map_cons, List.filter_cons, show (Nd.pair u).2 = .ref u.x from rfl, hq u (hm u (.head _))] at h
    rw [List.filter_cons]
    have hm' : ∀ u ∈ us, u ∈ nds := fun v hv => hm v (.tail _ hv)
    by_cases e : q u = true
    · rw [if_pos e] at h ⊢
      cases h with
      | cons hd tl =>
        obtain ⟨v, hv, e1, rfl⟩ := hd
        injection e1 with e1
        rw [List.map_cons, hinj u (hm u (.head _)) v hv e1]
        exact .cons _ _ (strs_paired q hq hinj hm' tl)
    · rw [if_neg e] at h ⊢
      exact strs_paired q hq hinj hm' h
theorem truthy_ne {prog : Program} {w : World} {A : Around} {E : Value → Shared → Prop} {s : Shared} {h₀ : Heap} {L t : Addr} {news : List (Addr × Obj)} {vs : List Value} {n : Nat} {Q : Bool → Shared → Prop} (N : News h₀ L s.heap news) (hp : (t, W.listOf vs.toArray n) ∈ news) (hz : vs.length ≤ 1000000) (hne : vs ≠ [])
    (h : Q true { s with toks := s.toks + 1 + 1 }) : wpAny (model prog w) A (truthy (.ref t)) Q E s := by
  obtain ⟨us, x, rfl⟩ : ∃ us x, vs = us ++ [x] := ⟨vs.dropLast, vs.getLast hne, (List.dropLast_concat_getLast hne).symm⟩
  exact truthy_some N hp (by simp at hz; omega) h
theorem raisedS_sub {base G h : Heap} {l : List Env} {e t : Addr} {cls : Value} {vs : List Value} {news news' : List (Addr × Obj)} (R : RaisedS base G l e cls t vs news h) (hs : ∀ q ∈ news', q ∈ news) : RaisedS base G l e cls t vs news' h := by
  obtain ⟨⟨B, a, b, c, d, e⟩, f⟩ := R
  exact ⟨⟨B, a, b, fun q hq => c q (hs q hq), d, e⟩, f⟩
end
section
/-! ### borders -/
/-- the first k of the first j signs are their last k -/
abbrev isB (l : List Nat) (j k : Nat) : Prop := k < j ∧ ∀ m, m < k → l[m]? = l[j - k + m]?
noncomputable def bdTo (l : List Nat) (j : Nat) : Nat → Nat
  | 0 => 0
  | b + 1 => if isB l j (b + 1) then b + 1 else bdTo l j b
/-- the longest -/
noncomputable def bd (l : List Nat) (j : Nat) : Nat := bdTo l j (j - 1)
theorem bdTo_le (l : List Nat) (j : Nat) : ∀ b, bdTo l j b ≤ b
  | 0 => Nat.le_refl _
  | b + 1 => by
    unfold bdTo
    split
    · exact Nat.le_refl _
    · exact Nat.le_succ_of_le (bdTo_le l j b)
theorem isB_zero {l : List Nat} {j : Nat} (h : 0 < j) : isB l j 0 := ⟨h, fun _ h => absurd h (Nat.not_lt_zero _)⟩
theorem bdTo_is {l : List Nat} {j : Nat} (h : 0 < j) : ∀ b, isB l j (bdTo l j b)
  | 0 => isB_zero h
  | b + 1 => by
    unfold bdTo
    split
    · assumption
    · exact bdTo_is h b
theorem bdTo_max {l : List Nat} {j k : Nat} (h : isB l j k) : ∀ b, k ≤ b → k ≤ bdTo l j b
  | 0, hb => hb
  | b + 1, hb => by
    unfold bdTo
    split
    · exact hb
    · rename_i hn
      rcases Nat.lt_or_eq_of_le hb with hb | rfl
      · exact bdTo_max h b (Nat.le_of_lt_succ hb)
      · exact absurd h hn
theorem bd_is {l : List Nat} {j : Nat} (h : 0 < j) : isB l j (bd l j) := bdTo_is h _
theorem bd_max {l : List Nat} {j k : Nat} (h : isB l j k) : k ≤ bd l j := bdTo_max h _ (Nat.le_sub_one_of_lt h.1)
theorem bd_lt {l : List Nat} {j : Nat} (h : 0 < j) : bd l j < j := (bd_is h).1
theorem bd_eq {l : List Nat} {j k : Nat} (h : isB l j k) (hm : ∀ k', isB l j k' → k' ≤ k) : bd l j = k :=
  Nat.le_antisymm (hm _ (bd_is (Nat.zero_lt_of_lt h.1))) (bd_max h)
theorem isB.trans {l : List Nat} {i j k : Nat} (h : isB l i j) (h' : isB l j k) : isB l i k := by
  refine ⟨Nat.lt_trans h'.1 h.1, fun m hm => ?_⟩
  have a := h'.1
  have b := h.1
  rw [h'.2 m hm, h.2 (j - k + m) (by lia)]
  congr 1; lia
theorem isB.down {l : List Nat} {i j k : Nat} (h : isB l i j) (h' : isB l i k) (hk : k < j) : isB l j k := by
  refine ⟨hk, fun m hm => ?_⟩
  have b := h.1
  rw [h'.2 m hm, h.2 (j - k + m) (by lia)]
  congr 1; lia
theorem isB.snoc {l : List Nat} {i k : Nat} (h : isB l i k) (e : l[k]? = l[i]?) : isB l (i + 1) (k + 1) := by
  refine ⟨Nat.succ_lt_succ h.1, fun m hm => ?_⟩
  have b := h.1
  rcases Nat.lt_succ_iff_lt_or_eq.mp hm with hm | rfl
  · rw [h.2 m hm]; congr 1; lia
  · rw [e]; congr 1; lia
theorem isB.pre {l : List Nat} {i k : Nat} (h : isB l (i + 1) (k + 1)) (hi : 0 < i) : isB l i k ∧ l[k]? = l[i]? := by
  have b := h.1
  refine ⟨⟨by lia, fun m hm => ?_⟩, ?_⟩
  · rw [h.2 m (by lia)]; congr 1; lia
  · rw [h.2 k (by lia)]; congr 1; lia
/-- the loop: j is a border of the first i, and no longer one goes on -/
noncomputable def Kmp (l : List Nat) (i j : Nat) : Prop := isB l i j ∧ ∀ k, isB l i k → j < k → l[k]? ≠ l[i]?
theorem Kmp.init {l : List Nat} {i : Nat} (h : 0 < i) : Kmp l i (bd l i) := ⟨bd_is h, fun k hk hl => absurd (bd_max hk) (by lia)⟩
theorem Kmp.next {l : List Nat} {i j : Nat} (h : Kmp l i j) (hj : 0 < j) (hne : l[j]? ≠ l[i]?) : Kmp l i (bd l j) := by
  refine ⟨h.1.trans (bd_is hj), fun k hk hl => ?_⟩
  rcases Nat.lt_trichotomy k j with hkj | rfl | hkj
  · exact absurd (bd_max (h.1.down hk hkj)) (by lia)
  · exact hne
  · exact h.2 k hk hkj
theorem Kmp.hit {l : List Nat} {i j : Nat} (h : Kmp l i j) (hi : 0 < i) (e : l[j]? = l[i]?) : bd l (i + 1) = j + 1 := by
  refine bd_eq (h.1.snoc e) fun k' hk' => ?_
  cases k' with
  | zero => lia
  | succ k =>
    obtain ⟨a, b⟩ := hk'.pre hi
    rcases Nat.lt_or_ge j k with hl | hl
    · exact absurd b (h.2 k a hl)
    · lia
theorem Kmp.miss {l : List Nat} {i : Nat} (h : Kmp l i 0) (hi : 0 < i) (hne : l[0]? ≠ l[i]?) : bd l (i + 1) = 0 := by
  refine bd_eq (isB_zero (by lia)) fun k' hk' => ?_
  cases k' with
  | zero => lia
  | succ k =>
    obtain ⟨a, b⟩ := hk'.pre hi
    cases k with
    | zero => exact absurd b hne
    | succ k => exact absurd b (h.2 _ a (by lia))
theorem bd_one (l : List Nat) : bd l 1 = 0 := by
  have := bd_lt (l := l) (j := 1) (by lia)
  lia
/-- the table of a text -/
noncomputable def tabTo (l : List Nat) (i : Nat) : List Int := (List.range l.length).map fun k => if k < i then (bd l (k + 1) : Int) else 0
noncomputable def tabOf (l : List Nat) : List Int := (List.range l.length).map fun k => (bd l (k + 1) : Int)
theorem tabTo_one (l : List Nat) : tabTo l 1 = List.replicate l.length 0 := by
  refine List.eq_replicate_iff.mpr ⟨by simp [tabTo], fun b hb => ?_⟩
  obtain ⟨k, hk, rfl⟩ := List.mem_map.mp hb
  split
  · have : k = 0 := by lia
    subst this
    rw [bd_one]; rfl
  · rfl
theorem tabTo_all (l : List Nat) {i : Nat} (h : l.length ≤ i) : tabTo l i = tabOf l := by
  refine List.map_congr_left fun k hk => ?_
  rw [if_pos (by have := List.mem_range.mp hk; lia)]
theorem tabTo_at {l : List Nat} {i k : Nat} (hk : k < i) (hl : k < l.length) : (tabTo l i)[k]? = some (bd l (k + 1) : Int) := by
  unfold tabTo
  rw [List.getElem?_map, List.getElem?_range hl]
  simp [hk]
theorem tabTo_set {l : List Nat} {i : Nat} (hl : i < l.length) : (tabTo l i).set i (bd l (i + 1) : Int) = tabTo l (i + 1) := by
  refine List.ext_getElem? fun k => ?_
  unfold tabTo
  rw [List.getElem?_set]
  simp only [List.length_map, List.length_range, List.getElem?_map]
  by_cases hk : i = k
  · subst hk
    rw [if_pos rfl, if_pos hl, List.getElem?_range hl]; simp
  · rw [if_neg hk]
    by_cases h2 : k < l.length
    · rw [List.getElem?_range h2]
      simp only [Option.map_some]
      congr 1
      by_cases h3 : k < i
      · rw [if_pos h3, if_pos (by lia)]
      · rw [if_neg h3, if_neg (by lia)]
    · rw [List.getElem?_eq_none (by simp; lia)]; rfl
theorem tabTo_length (l : List Nat) (i : Nat) : (tabTo l i).length = l.length := by simp [tabTo]
theorem upd_hd {D : Addr} {o o' : Obj} {l : List (Addr × Obj)} (h : Sep ((D, o) :: l)) : upd ((D, o) :: l) D o' = (D, o') :: l := by
  rw [upd_cons, if_pos rfl, upd_none (Sep.head h)]
theorem Sep.hd {D : Addr} {o : Obj} (o' : Obj) {l : List (Addr × Obj)} (h : Sep ((D, o) :: l)) : Sep ((D, o') :: l) := h
/-! ### texts, opaque -/
section
variable {prog : Program} {w : World} {A : Around} {E : Value → Shared → Prop} {s : Shared} {value slice : PySem.Expr} {x y : PySem.Str} {t u : Tok} {i : Int} {Q : Value → Shared → Prop}
/-- the text of one sign -/
noncomputable def sg (x : Str) (k : Nat) : Str := ⟨#[(x.cps[k]?).getD 0]⟩
theorem sg_eq {x : Str} {j k : Nat} (hj : j < x.length) (hk : k < x.length) : (sg x j = sg x k) ↔ x.cps.toList[j]? = x.cps.toList[k]? := by
  have hj' : j < x.cps.size := hj
  have hk' : k < x.cps.size := hk
  unfold sg
  simp [Array.getElem?_eq_getElem hj', Array.getElem?_eq_getElem hk', hj', hk']
theorem item_sg (h0 : 0 ≤ i) (h1 : i < (x.length : Int)) : Txt.item x i = sg x i.toNat := by
  unfold Txt.item Txt.charAt sg seqIndex?
  simp only [show ¬ i < 0 by lia, if_false, h0, h1, decide_true, Bool.and_self, if_true, Option.bind_some]
theorem item_ne {j : Int} (h0 : 0 ≤ i) (h1 : i < (x.length : Int)) (h2 : 0 ≤ j) (h3 : j < (x.length : Int)) : (Txt.item x i != Txt.item x j) = !decide (x.cps.toList[j.toNat]? = x.cps.toList[i.toNat]?) := by
  rw [item_sg h0 h1, item_sg h2 h3, bne, show (sg x i.toNat == sg x j.toNat) = decide (sg x i.toNat = sg x j.toNat) from rfl]
  congr 1
  refine decide_eq_decide.mpr ((sg_eq (by lia) (by lia)).trans eq_comm)
theorem ne_strB {b : Bool} (e : decide (x = y) = b) (h : Q (.bool (!b)) s) : wpAny (model prog w) A (compareOp .NotEq (.str x t) (.str y u)) Q E s := by
  refine ne_str ?_
  rw [show (x != y) = !b from by rw [← e, bne, show (x == y) = decide (x = y) from rfl]]
  exact h
theorem last_ints {value slice : PySem.Expr} {h₀ : Heap} {L a : Addr} {news : List (Addr × Obj)} {vs : List Value} {ns ms : List Int} {n : Nat} {z : Int} (N : News h₀ L s.heap news) (hp : (a, W.listOf vs.toArray n) ∈ news) (hi : IntsAre vs ns) (hn : ns = ms ++ [z]) (hz : ns.length ≤ 1000000) (h : ∀ t, Q (.int z t) s)
    (hs : subscripted slice false (.ref a) (.int (-1) u) = operate [.ref a, .int (-1) u] (getItem (.ref a) (.int (-1) u)) := by with_unfolding_all rfl) :
    wpAny (model prog w) A (subscriptTail value slice (.ref a) (.int (-1) u)) Q E s := by
  have hl := hi.length
  rw [hn, List.length_append] at hl hz
  simp only [List.length_cons, List.length_nil] at hl hz
  obtain ⟨t, ht⟩ := hi.get ms.length z (by rw [hn]; simp)
  obtain ⟨us, x, rfl⟩ : ∃ us x, vs = us ++ [x] := by
    have hne : vs ≠ [] := fun e => by rw [e] at hl; simp at hl
    exact ⟨vs.dropLast, vs.getLast hne, (List.dropLast_concat_getLast hne).symm⟩
  have hu : us.length = ms.length := by simp at hl; lia
  rw [← hu] at ht
  simp at ht
  subst ht
  exact last_M N hp (by lia) (h t) hs
end
/-- how long a beginning of the first text ends the second one -/
noncomputable def lapN (b f : List Nat) : Nat := bd (b ++ 124 :: f) (b.length + 1 + f.length)
theorem tabOf_last {l : List Nat} (h : l ≠ []) : ∃ ms, tabOf l = ms ++ [(bd l l.length : Int)] := by
  obtain ⟨n, hn⟩ : ∃ n, l.length = n + 1 := ⟨l.length - 1, by have := List.length_pos_iff.mpr h; lia⟩
  refine ⟨(List.range n).map fun k => (bd l (k + 1) : Int), ?_⟩
  unfold tabOf
  rw [hn, List.range_succ, List.map_append]; rfl
theorem lap_text (b f : Str) : ((b ++ Str.ofString "|") ++ f).cps.toList = b.cps.toList ++ 124 :: f.cps.toList := by
  rw [KT.app_list, KT.app_list]
  simp [show (Str.ofString "|").cps.toList = [124] from by rfl]
theorem bd_lap (b f : Str) : bd ((b ++ Str.ofString "|") ++ f).cps.toList ((b ++ Str.ofString "|") ++ f).cps.toList.length = lapN b.cps.toList f.cps.toList := by
  rw [lap_text]
  unfold lapN
  congr 1
  simp; lia
theorem keeps_of {h g h₀ h' : Heap} {L L' : Addr} {m' : Str → Option Value} {news : List (Addr × Obj)} (N : News h₀ L h news) (k : GSub h g (news.map (·.1))) (F' : Fr g L' h' m') {l' : List (Addr × Obj)} (N' : News g L' h' l') (hl : ∀ q ∈ news, q ∈ l') :
    ∀ b o, h.get? b = some o → h'.get? b = some o := fun b o e => by
  by_cases hm : b ∈ news.map (·.1)
  · obtain ⟨q, hq, rfl⟩ := List.mem_map.mp hm
    have h1 := (N q hq).1
    rw [e] at h1
    rw [(N' q (hl q hq)).1, h1]
  · exact F'.keep b o (k b o e hm)
section
variable {prog : Program} {w : World} {A : Around} {E : Value → Shared → Prop} {s : Shared} {h₀ : Heap} {L l : Addr} {news : List (Addr × Obj)} {vs : List Value} {ys : List Str} {k : Str} {t : Tok} {n : Nat} {Q : Value → Shared → Prop}
theorem in_M {b : Bool} (N : News h₀ L s.heap news) (hm : (l, W.listOf vs.toArray n) ∈ news) (hi : StrsAre vs ys) (hb : decide (k ∈ ys) = b) (h : Q (.bool b) s) : wpAny (model prog w) A (compareOp .In (.str k t) (.ref l)) Q E s := by
  refine in_list_strs ⟨_, (N _ hm).1, rfl, _, rfl⟩ hi ?_
  rw [show ys.any (· == k) = b from by rw [← hb]; rw [Bool.eq_iff_iff]; simp]
  exact h
theorem notin_M {b : Bool} (N : News h₀ L s.heap news) (hm : (l, W.listOf vs.toArray n) ∈ news) (hi : StrsAre vs ys) (hb : decide (k ∈ ys) = b) (h : Q (.bool (!b)) s) : wpAny (model prog w) A (compareOp .NotIn (.str k t) (.ref l)) Q E s := by
  refine notin_list_strs ⟨_, (N _ hm).1, rfl, _, rfl⟩ hi ?_
  rw [show ys.any (· == k) = b from by rw [← hb]; rw [Bool.eq_iff_iff]; simp]
  exact h
end
end
section
/-! ### laps, plain -/
noncomputable def LapK (b f : List Nat) (k : Nat) : Prop := k ≤ b.length ∧ k ≤ f.length ∧ b.take k = f.drop (f.length - k)
theorem isB_lap {b f : List Nat} (hb : 124 ∉ b) (hf : 124 ∉ f) {k : Nat} : isB (b ++ 124 :: f) (b.length + 1 + f.length) k ↔ LapK b f k := by
  have bar : (b ++ 124 :: f)[b.length]? = some 124 := by simp
  constructor
  · rintro ⟨h1, h2⟩
    have kf : k ≤ f.length := by
      rcases Nat.lt_or_ge f.length k with h | h
      · exfalso
        have e := h2 (k - f.length - 1) (by lia)
        rw [show b.length + 1 + f.length - k + (k - f.length - 1) = b.length from by lia, bar, List.getElem?_append_left (by lia)] at e
        exact hb (List.mem_of_getElem? e)
      · exact h
    have kb : k ≤ b.length := by
      rcases Nat.lt_or_ge b.length k with h | h
      · exfalso
        have e := h2 b.length h
        rw [bar, List.getElem?_append_right (by lia), show b.length + 1 + f.length - k + b.length - b.length = (b.length + f.length - k) + 1 from by lia, List.getElem?_cons_succ] at e
        exact hf (List.mem_of_getElem? e.symm)
      · exact h
    refine ⟨kb, kf, List.ext_getElem? fun m => ?_⟩
    rw [List.getElem?_take, List.getElem?_drop]
    by_cases hm : m < k
    · have e := h2 m hm
      rw [if_pos hm]
      rw [List.getElem?_append_left (by lia), List.getElem?_append_right (by lia), show b.length + 1 + f.length - k + m - b.length = (f.length - k + m) + 1 from by lia, List.getElem?_cons_succ] at e
      exact e
    · rw [if_neg hm, List.getElem?_eq_none (by lia)]
  · rintro ⟨kb, kf, e⟩
    refine ⟨by lia, fun m hm => ?_⟩
    have e2 : (b.take k)[m]? = (f.drop (f.length - k))[m]? := by rw [e]
    rw [List.getElem?_take, if_pos hm, List.getElem?_drop] at e2
    rw [List.getElem?_append_left (by lia), List.getElem?_append_right (by lia), show b.length + 1 + f.length - k + m - b.length = (f.length - k + m) + 1 from by lia, List.getElem?_cons_succ]
    exact e2
theorem lapN_is {b f : List Nat} (hb : 124 ∉ b) (hf : 124 ∉ f) : LapK b f (lapN b f) := (isB_lap hb hf).mp (bd_is (by lia))
theorem lapN_max {b f : List Nat} (hb : 124 ∉ b) (hf : 124 ∉ f) {k : Nat} (h : LapK b f k) : k ≤ lapN b f := bd_max ((isB_lap hb hf).mpr h)
end
section
/-! ### a hindrance, plain -/
noncomputable def cutN (l : List Nat) (p k : Nat) : List Nat := (l.drop p).take k
noncomputable def manyN (size least p q : Nat) : Nat := max least (size + p - q)
noncomputable def HindAt (l : List Nat) (size least p q : Nat) : Prop := p < q ∧ q + manyN size least p q ≤ l.length ∧ cutN l p (manyN size least p q) = cutN l q (manyN size least p q)
noncomputable def Hind (l : List Nat) (size least p : Nat) : Prop := ∃ q, HindAt l size least p q
/-- the first one, or the number of places -/
noncomputable def FirstH (l : List Nat) (size least r : Nat) : Prop := (∀ p, p < r → ¬ Hind l size least p) ∧ (r ≤ l.length - size ∧ Hind l size least r ∨ r = l.length - size + 1)
theorem slice_cut {x : Str} {i j : Int} (h0 : 0 ≤ i) (h1 : i ≤ j) (h2 : j ≤ x.length) : Txt.slice x (some i) (some j) = ⟨(cutN x.cps.toList i.toNat (j - i).toNat).toArray⟩ := by
  have := slice_closesL (x := x) h0 h1 h2
  exact eq_of_beq this
theorem slice_upto {x : Str} {j : Int} (h0 : 0 ≤ j) (h2 : j ≤ x.length) : Txt.slice x none (some j) = ⟨(x.cps.toList.take j.toNat).toArray⟩ := by
  have := slice_closes_toL (x := x) h0 h2
  rw [eq_of_beq this]; simp
theorem slice_from {x : Str} {i : Int} (h0 : 0 ≤ i) (h2 : i ≤ x.length) : Txt.slice x (some i) none = ⟨(x.cps.toList.drop i.toNat).toArray⟩ := by
  have := slice_closes_fromL (x := x) (b := x.length) h0 h2 rfl
  rw [eq_of_beq this, List.take_of_length_le]
  rw [List.length_drop, show x.cps.toList.length = x.length from by simp [PySem.Str.length]]; lia
theorem str_ext {x y : Str} : x = y ↔ x.cps.toList = y.cps.toList := by
  cases x; cases y; simp
theorem str_beq {x y : Str} : (x == y) = decide (x.cps.toList = y.cps.toList) := by
  rw [show (x == y) = decide (x = y) from rfl]
  exact decide_eq_decide.mpr str_ext
theorem slice_eq {x : Str} {p q k : Nat} (hp : p + k ≤ x.length) (hq : q + k ≤ x.length) {a b c d : Int} (ha : a = p) (hb : b = (p + k : Nat)) (hc : c = q) (hd : d = (q + k : Nat)) :
    (Txt.slice x (some a) (some b) == Txt.slice x (some c) (some d)) = decide (cutN x.cps.toList p k = cutN x.cps.toList q k) := by
  subst ha; subst hb; subst hc; subst hd
  rw [slice_cut (by lia) (by lia) (by lia), slice_cut (by lia) (by lia) (by lia), str_beq]
  simp only [List.toList_toArray, Int.toNat_natCast]
  rw [show (((p + k : Nat) : Int) - p).toNat = k from by lia, show (((q + k : Nat) : Int) - q).toNat = k from by lia]
theorem many_int {size least i q : Nat} {z : Int} (hz : z = q) : (if (size : Int) + (i : Int) - z > (least : Int) then (size : Int) + (i : Int) - z else (least : Int)) = ((manyN size least i q : Nat) : Int) := by
  subst hz
  unfold manyN
  split <;> lia
theorem FirstH.step {l : List Nat} {size least i : Nat} (h1 : 1 ≤ least) (h : ∀ p, p < i → ¬ Hind l size least p) (h' : ∀ q, q < l.length → ¬ HindAt l size least i q) : ∀ p, p < i + 1 → ¬ Hind l size least p := fun p hp => by
  rcases Nat.lt_succ_iff_lt_or_eq.mp hp with hp | rfl
  · exact h p hp
  · rintro ⟨q, hq⟩
    refine h' q ?_ hq
    have h1 := hq.2.1
    unfold manyN at h1
    lia
theorem HindAt.iff {x : Str} {size least i q : Nat} (hi : i < q) (hb : q + manyN size least i q ≤ x.length) : (Txt.slice x (some (i : Int)) (some ((i : Int) + (manyN size least i q : Nat))) == Txt.slice x (some (q : Int)) (some ((q : Int) + (manyN size least i q : Nat)))) = true ↔ HindAt x.cps.toList size least i q := by
  rw [slice_eq (p := i) (q := q) (k := manyN size least i q) (by lia) hb rfl (by lia) rfl (by lia), decide_eq_true_iff]
  unfold HindAt
  rw [show x.cps.toList.length = x.length from by simp [PySem.Str.length]]
  exact ⟨fun h => ⟨hi, hb, h⟩, fun h => h.2.2⟩
end
section
section
variable {prog : Program} {w : World} {A : Around} {E : Value → Shared → Prop} {s : Shared} {h₀ : Heap} {L t : Addr} {m : Str → Option Value} {news : List (Addr × Obj)} {vs : List Value} {ys : List Str} {u : Tok} {n : Nat} {Q : Value → Shared → Prop} {value slice : PySem.Expr} {i : Int}
theorem item_strs (N : News h₀ L s.heap news) (hm : (t, W.listOf vs.toArray n) ∈ news) (hi : StrsAre vs ys) (h0 : 0 ≤ i) (h1 : i < ys.length) (hz : ys.length ≤ 1000000) (h : ∀ u, Q (.str (ys.getD i.toNat Str.empty) u) s)
    (hs : subscripted slice false (.ref t) (.int i u) = operate [.ref t, .int i u] (getItem (.ref t) (.int i u)) := by with_unfolding_all rfl) :
    wpAny (model prog w) A (subscriptTail value slice (.ref t) (.int i u)) Q E s := by
  have hl : s.heap.IsList t vs.toArray := ⟨_, (N _ hm).1, rfl, _, rfl⟩
  have hy : ys[i.toNat]? = some (ys.getD i.toNat Str.empty) := by
    rw [List.getD_eq_getElem?_getD, List.getElem?_eq_getElem (by omega)]; rfl
  obtain ⟨u', hu⟩ := hi.get _ _ hy
  refine tail_any hl.typeIs slot_list_getitem.lookup ?_ hs
  exact wpAny_getItem_list hl h0 (by omega) (by simpa using hu) (h u')
theorem last_strs {ms : List Str} {z : Str} (N : News h₀ L s.heap news) (hp : (t, W.listOf vs.toArray n) ∈ news) (hi : StrsAre vs ys) (hn : ys = ms ++ [z]) (hz : ys.length ≤ 1000000) (h : ∀ u, Q (.str z u) s)
    (hs : subscripted slice false (.ref t) (.int (-1) u) = operate [.ref t, .int (-1) u] (getItem (.ref t) (.int (-1) u)) := by with_unfolding_all rfl) :
    wpAny (model prog w) A (subscriptTail value slice (.ref t) (.int (-1) u)) Q E s := by
  have hl := hi.length
  rw [hn, List.length_append] at hl hz
  simp only [List.length_cons, List.length_nil] at hl hz
  obtain ⟨t, ht⟩ := hi.get ms.length z (by rw [hn]; simp)
  obtain ⟨us, x, rfl⟩ : ∃ us x, vs = us ++ [x] := by
    have hne : vs ≠ [] := fun e => by rw [e] at hl; simp at hl
    exact ⟨vs.dropLast, vs.getLast hne, (List.dropLast_concat_getLast hne).symm⟩
  have hu : us.length = ms.length := by simp at hl; omega
  rw [← hu] at ht
  simp at ht
  subst ht
  exact last_M N hp (by omega) (h t) hs
theorem sliceI_M {a b : Int} {ta tb : Tok} (F : Fr h₀ L s.heap m) (N : News h₀ L s.heap news) (hp : (t, W.listOf vs.toArray n) ∈ news) (hz : vs.length ≤ 1000000) (ha : 0 ≤ a) (hb : 0 ≤ b)
    (h : ∀ D h', Fr h₀ L h' m → News h₀ L h' ((D, W.listOf ((vs.drop a.toNat).take (b.toNat - a.toNat)).toArray 0) :: news) → (∀ p ∈ news, p.1 < D) → Q (.ref D) { s with heap := h' })
    (hs : subscripted slice false (.ref t) (.ref s.heap.objs.size) = operate [.ref s.heap.objs.size, .ref t] (getItem (.ref t) (.ref s.heap.objs.size))) (ht : ∀ r, letTemporaryGo value (.ref t) r = pure ()) :
    wpAny (model prog w) A (subscriptTail value slice (.ref t) (.ref s.heap.objs.size)) Q E { s with heap := s.heap.push { cls := .type "slice", data := .fields #[.int a ta, .int b tb, .none] } } := by
  obtain ⟨a, rfl⟩ := Int.eq_ofNat_of_zero_le ha
  obtain ⟨b, rfl⟩ := Int.eq_ofNat_of_zero_le hb
  exact sliceCut_M F N hp hz h hs ht
theorem neI_M {a b : Addr} {xs zs : List Value} {ns ms : List Int} {k : Nat} {c : Bool} (N : News h₀ L s.heap news) (ha : (a, W.listOf xs.toArray n) ∈ news) (hb : (b, W.listOf zs.toArray k) ∈ news) (hi : IntsAre xs ns) (hj : IntsAre zs ms) (hc : decide (ns = ms) = c) (hu : A.units + 64 < cLine) (h : Q (.bool (!c)) s) :
    wpAny (model prog w) A (compareOp .NotEq (.ref a) (.ref b)) Q E s :=
  ke_ne_ints ⟨_, (N _ ha).1, rfl, _, rfl⟩ ⟨_, (N _ hb).1, rfl, _, rfl⟩ hi hj hu (by rw [hc]; exact h)
theorem eqI_M {a b : Addr} {xs zs : List Value} {ns ms : List Int} {k : Nat} {c : Bool} (N : News h₀ L s.heap news) (ha : (a, W.listOf xs.toArray n) ∈ news) (hb : (b, W.listOf zs.toArray k) ∈ news) (hi : IntsAre xs ns) (hj : IntsAre zs ms) (hc : decide (ns = ms) = c) (hu : A.units + 64 < cLine) (h : Q (.bool c) s) :
    wpAny (model prog w) A (compareOp .Eq (.ref a) (.ref b)) Q E s :=
  ke_eq_ints ⟨_, (N _ ha).1, rfl, _, rfl⟩ ⟨_, (N _ hb).1, rfl, _, rfl⟩ hi hj hu (by rw [hc]; exact h)
end
theorem ring_new {z0 : Str} {mid : List Str} (hnd : (z0 :: mid).Nodup) {i : Nat} (hi : i < mid.length + 1) (e : Str) : (z0 :: mid ++ [z0]).getD (1 + i) e ∉ ((z0 :: mid ++ [z0]).drop 1).take i := by
  rw [List.nodup_cons] at hnd
  have h1 : ((z0 :: mid ++ [z0]).drop 1).take i = mid.take i := by
    rw [List.cons_append, List.drop_succ_cons, List.drop_zero, List.take_append_of_le_length (by omega)]
  rw [h1, List.getD_eq_getElem?_getD, Nat.add_comm 1 i, List.cons_append, List.getElem?_cons_succ]
  by_cases hl : i < mid.length
  · rw [List.getElem?_append_left hl, List.getElem?_eq_getElem hl]
    intro hm
    obtain ⟨j, hj, hj'⟩ := List.getElem_of_mem hm
    rw [List.length_take] at hj
    rw [List.getElem_take] at hj'
    have hne := List.pairwise_iff_getElem.mp hnd.2 j i (by omega) hl (by omega)
    exact hne hj'
  · rw [show i = mid.length from by omega, List.getElem?_append_right (Nat.le_refl _)]
    simp
    exact hnd.1
theorem comp_ints {pr : Value → Bool} {least : Int} {vs ys : List Value} (hv : ∀ (j : Nat) (v : Value), vs[j]? = some v → ∃ t : Tok, v = Value.int (least + (j : Int)) t) (hp : Paired (fun v r => r = v) (vs.filter pr) ys) {j : Nat} (hj : j < vs.length) (h : ∀ t, pr (.int (least + (j : Int)) t) = true) :
    ∃ ns, IntsAre ys ns ∧ ns ≠ [] := by
  have key : ∀ {us ys : List Value}, (∀ v ∈ us, ∃ z t, v = Value.int z t) → Paired (fun v r => r = v) us ys → ∃ ns, IntsAre ys ns ∧ ns.length = us.length := by
    intro us ys hu h
    induction h with
    | nil => exact ⟨[], .nil, rfl⟩
    | cons hd tl ih =>
      obtain ⟨ns, h1, h2⟩ := ih fun v hv => hu v (.tail _ hv)
      obtain ⟨z, t, rfl⟩ := hu _ (.head _)
      subst hd
      exact ⟨z :: ns, .cons _ _ h1, by rw [List.length_cons, h2, List.length_cons]⟩
  obtain ⟨ns, h1, h2⟩ := key (fun v hm => by
    obtain ⟨j, hj⟩ := List.getElem?_of_mem (List.mem_filter.mp hm).1
    obtain ⟨t, e⟩ := hv j v hj
    exact ⟨_, t, e⟩) hp
  refine ⟨ns, h1, fun e => ?_⟩
  rw [e] at h2
  have he : vs.filter pr = [] := List.length_eq_zero_iff.mp h2.symm
  have hm : vs[j] ∈ vs.filter pr := by
    obtain ⟨t, ht⟩ := hv j vs[j] (List.getElem?_eq_getElem hj)
    refine List.mem_filter.mpr ⟨List.getElem_mem hj, ?_⟩
    rw [ht]; exact h t
  rw [he] at hm
  cases hm
/-! ### slices of texts that tell what they keep -/
theorem keptK {h₀ H : Heap} {L : Addr} {m : Str → Option Value} {news : List (Addr × Obj)} : KeptH (fun h => (Fr h₀ L h m ∧ News h₀ L h news) ∧ ∀ b o, H.get? b = some o → h.get? b = some o) :=
  fun _ ob a => ⟨⟨Fr.pushS a.1.1 ob, a.1.2.pushKeep ob⟩, fun b o e => Heap.get?_push_of_some _ (a.2 b o e)⟩
section
variable {prog : Program} {w : World} {A : Around} {E : Value → Shared → Prop} {s : Shared} {value slice : PySem.Expr} {x : Str} {t : Tok} {h₀ : Heap} {L : Addr} {m : Str → Option Value} {news : List (Addr × Obj)} {Q : Value → Shared → Prop}
theorem slice_K_ns {j : Int} {uj : Tok} (hF : Fr h₀ L s.heap m) (hN : News h₀ L s.heap news) (hsz : x.length ≤ 1000000) (h : ∀ h' t' k, Fr h₀ L h' m → News h₀ L h' news → (∀ b o, s.heap.get? b = some o → h'.get? b = some o) → Q (.str (Txt.slice x none (some j)) t') { s with heap := h', toks := k })
    (hs : subscripted slice false (.str x t) (.ref s.heap.objs.size) = operate [.ref s.heap.objs.size, .str x t] (getItem (.str x t) (.ref s.heap.objs.size)) := by with_unfolding_all rfl)
    (ht : ∀ r, letTemporaryGo value (.str x t) r = pure () := by intro _; with_unfolding_all rfl) :
    wpAny (model prog w) A (subscriptTail value slice (.str x t) (.ref s.heap.objs.size)) Q E { s with heap := s.heap.push { cls := .type "slice", data := .fields #[.none, .int j uj, .none] } } :=
  tail_of_ItemOn (SBH.sliceItem_ns keptK ⟨⟨hF, hN⟩, fun _ _ e => e⟩ (fun h' t' k a => h h' t' k a.1.1 a.1.2 a.2) (seven_le hsz)) hs ht
theorem slice_K_sn {i : Int} {ui : Tok} (hF : Fr h₀ L s.heap m) (hN : News h₀ L s.heap news) (hsz : x.length ≤ 1000000) (h : ∀ h' t' k, Fr h₀ L h' m → News h₀ L h' news → (∀ b o, s.heap.get? b = some o → h'.get? b = some o) → Q (.str (Txt.slice x (some i) none) t') { s with heap := h', toks := k })
    (hs : subscripted slice false (.str x t) (.ref s.heap.objs.size) = operate [.ref s.heap.objs.size, .str x t] (getItem (.str x t) (.ref s.heap.objs.size)) := by with_unfolding_all rfl)
    (ht : ∀ r, letTemporaryGo value (.str x t) r = pure () := by intro _; with_unfolding_all rfl) :
    wpAny (model prog w) A (subscriptTail value slice (.str x t) (.ref s.heap.objs.size)) Q E { s with heap := s.heap.push { cls := .type "slice", data := .fields #[.int i ui, .none, .none] } } :=
  tail_of_ItemOn (SBH.sliceItem_sn keptK ⟨⟨hF, hN⟩, fun _ _ e => e⟩ (fun h' t' k a => h h' t' k a.1.1 a.1.2 a.2) (seven_le hsz)) hs ht
theorem slice_K_ss {i j : Int} {ui uj : Tok} (hF : Fr h₀ L s.heap m) (hN : News h₀ L s.heap news) (hsz : x.length ≤ 1000000) (h : ∀ h' t' k, Fr h₀ L h' m → News h₀ L h' news → (∀ b o, s.heap.get? b = some o → h'.get? b = some o) → Q (.str (Txt.slice x (some i) (some j)) t') { s with heap := h', toks := k })
    (hs : subscripted slice false (.str x t) (.ref s.heap.objs.size) = operate [.ref s.heap.objs.size, .str x t] (getItem (.str x t) (.ref s.heap.objs.size)) := by with_unfolding_all rfl)
    (ht : ∀ r, letTemporaryGo value (.str x t) r = pure () := by intro _; with_unfolding_all rfl) :
    wpAny (model prog w) A (subscriptTail value slice (.str x t) (.ref s.heap.objs.size)) Q E { s with heap := s.heap.push { cls := .type "slice", data := .fields #[.int i ui, .int j uj, .none] } } :=
  tail_of_ItemOn (SBH.sliceItem_ss keptK ⟨⟨hF, hN⟩, fun _ _ e => e⟩ (fun h' t' k a => h h' t' k a.1.1 a.1.2 a.2) (seven_le hsz)) hs ht
end
end
section
theorem strs_carried : ∀ {vs : List Value} {xs : List Str}, StrsAre vs xs → CarriedAll vs (xs.map fun a => PyData.str (id a))
  | _, _, .nil => .nil
  | _, _, .cons _ t h => .cons (.str _ t) (strs_carried h)
theorem join_M {prog : Program} {w : World} {A : Around} {E : Value → Shared → Prop} {s : Shared} {h₀ : Heap} {L D : Addr} {news : List (Addr × Obj)} {t : Tok} {Q : Value → Shared → Prop} {ys : List Value} {xs : List Str} {k : Nat}
    (N : News h₀ L s.heap news) (hm : (D, W.listOf ys.toArray k) ∈ news) (hi : StrsAre ys xs) (h1 : ∀ a ∈ xs, a.length = 1 ∧ 124 ∉ a.cps.toList) (hn : xs.length ≤ 100000)
    (h : ∀ x t' k, x.length = xs.length → 124 ∉ x.cps.toList → Q (.str x t') { s with toks := k }) : wpAny (model prog w) A (call (.builtin "str.join") [.str (PySem.Str.ofString "") t, .ref D]) Q E s := by
  refine KT.join_1 (l := xs) (g := id) ⟨_, (N _ hm).1, rfl, _, rfl⟩ (strs_carried hi) (fun a ha => (h1 a ha).1) (by lia) fun t' k hl => h _ t' k hl fun hm => ?_
  rw [List.map_id] at hm
  rw [show PySem.Txt.join (PySem.Str.ofString "") xs = Builtin.Str.glued (PySem.Str.ofString "") xs from rfl, StrLaws.glued_eq_join] at hm
  rcases (mem_join _ _ _).mp hm with ⟨a, ha, hc⟩ | ⟨_, hc⟩
  · exact (h1 a ha).2 hc
  · rw [show (PySem.Str.ofString "").cps.toList = [] from by decide] at hc
    cases hc
/-- a letter of the law's -/
theorem abcd_at (z : Int) : (Txt.item (Str.ofString "abcd") (z.fmod 4)).length = 1 ∧ 124 ∉ (Txt.item (Str.ofString "abcd") (z.fmod 4)).cps.toList := by
  have h1 := Int.fmod_nonneg_of_pos z (b := 4) (by lia)
  have h2 := Int.fmod_lt_of_pos z (b := 4) (by lia)
  rcases (show z.fmod 4 = 0 ∨ z.fmod 4 = 1 ∨ z.fmod 4 = 2 ∨ z.fmod 4 = 3 from by lia) with e | e | e | e <;> rw [e] <;> decide +kernel
structure LetterG (v r : Value) : Prop where
  is : ∃ z t t', v = Value.int z t ∧ r = Value.str (Txt.item (Str.ofString "abcd") (z.fmod 4)) t'
theorem letters {us ys : List Value} (h : Paired LetterG us ys) :
    ∃ xs, StrsAre ys xs ∧ xs.length = us.length ∧ ∀ a ∈ xs, a.length = 1 ∧ 124 ∉ a.cps.toList := by
  induction h with
  | nil => exact ⟨[], .nil, rfl, fun a ha => nomatch ha⟩
  | cons hd tl ih =>
    obtain ⟨xs, h1, h2, h3⟩ := ih
    obtain ⟨z, t, t', rfl, rfl⟩ := hd.is
    refine ⟨_ :: xs, .cons _ _ h1, by rw [List.length_cons, h2, List.length_cons], fun a ha => ?_⟩
    rcases List.mem_cons.mp ha with rfl | ha
    · exact abcd_at z
    · exact h3 a ha
theorem sep3 {led : List (Addr × Obj)} {D D' l : Addr} {o1 o2 o3 : Obj} (S : Sep led) (hb : ∀ p ∈ led, p.1 < D') (hoff : ∀ q ∈ (D', o3) :: led, q.1 ≠ D) (hq : D < l ∧ D' < l ∧ AllLt l led) : Sep ((l, o1) :: (D, o2) :: (D', o3) :: led) :=
  ((S.cons hb).cons_ne hoff).cons fun p hp => by
    rcases List.mem_cons.mp hp with rfl | hp
    · exact hq.1
    · rcases List.mem_cons.mp hp with rfl | hp
      · exact hq.2.1
      · exact ktn_ltOf hq.2.2 p hp
/-- the read at a place; the reads of the first places, each once -/
noncomputable def rdAt (x : Str) (size k : Nat) : Str := Txt.slice x (some (k : Int)) (some ((k : Int) + (size : Int)))
noncomputable def readsTo (x : Str) (size : Nat) : Nat → List Str
  | 0 => []
  | k + 1 => if rdAt x size k ∈ readsTo x size k then readsTo x size k else readsTo x size k ++ [rdAt x size k]
theorem readsTo_le (x : Str) (size : Nat) : ∀ k, (readsTo x size k).length ≤ k
  | 0 => Nat.le_refl _
  | k + 1 => by
    have := readsTo_le x size k
    unfold readsTo
    split <;> simp <;> lia
/-- a new sorter -/
theorem new_end {prog : Program} {w : World} {h₀ h : Heap} {L d x dx C Ci rl : Addr} {o' orl : Obj} {h1 h2 h3 h4 : Int} {k1 k2 k3 k4 t1 t2 : Tok} {n : Nat} {led : List (Addr × Obj)}
    (N : News h₀ L h ((d, o') :: (x, instObj C dx) :: (dx, dictOf [⟨h1, .str (Str.ofString "_node2info") k1, .ref d⟩, ⟨h2, .str (Str.ofString "_ready_nodes") k2, .none⟩, ⟨h3, .str (Str.ofString "_npassedout") k3, .int 0 t1⟩, ⟨h4, .str (Str.ofString "_nfinished") k4, .int 0 t2⟩] n) :: (rl, orl) :: led))
    (hd : o'.IsDictOf (PySem.strKind prog w) ([] : List (Str × Value))) (lo : (d == sysModules) = false) (hs : Sep ((rl, orl) :: led)) (q1 : rl < dx ∧ AllLt dx led) (q2 : dx < x) (q3 : x < d ∧ dx < d ∧ rl < d ∧ AllLt d led) :
    ∃ S : So, S.ok prog w ∧ S.nds = [] ∧ S.rdy = none ∧ S.rds = [] ∧ S.npo = 0 ∧ S.nfi = 0 ∧ S.x = x ∧ News h₀ L h (S.cells C Ci ++ (rl, orl) :: led) ∧ Sep (S.cells C Ci ++ (rl, orl) :: led) := by
  have b1 : ∀ p ∈ (rl, orl) :: led, @LT.lt Nat _ p.1 dx := fun p hp => by
    rcases List.mem_cons.mp hp with rfl | hp
    · exact q1.1
    · exact ktn_ltOf q1.2 p hp
  have a2 : @LT.lt Nat _ dx x := q2
  have a3 : @LT.lt Nat _ x d := q3.1
  have s1 : Sep ((dx, dictOf [⟨h1, .str (Str.ofString "_node2info") k1, .ref d⟩, ⟨h2, .str (Str.ofString "_ready_nodes") k2, .none⟩, ⟨h3, .str (Str.ofString "_npassedout") k3, .int 0 t1⟩, ⟨h4, .str (Str.ofString "_nfinished") k4, .int 0 t2⟩] n) :: (rl, orl) :: led) := hs.cons b1
  have s2 := s1.cons (a := x) (o := instObj C dx) fun p hp => by
    rcases List.mem_cons.mp hp with rfl | hp
    · exact a2
    · exact Nat.lt_trans (b1 p hp) a2
  have s3 := s2.cons (a := d) (o := o') fun p hp => by
    rcases List.mem_cons.mp hp with rfl | hp
    · exact a3
    · rcases List.mem_cons.mp hp with rfl | hp
      · exact Nat.lt_trans a2 a3
      · exact Nat.lt_trans (Nat.lt_trans (b1 p hp) a2) a3
  let S : So := ⟨x, dx, d, fun i => [h1, h2, h3, h4].getD i 0, fun i => [k1, k2, k3, k4].getD i 0, n, o', [], none, [], 0, 0, t1, t2⟩
  have pm : ((d, o') :: (x, instObj C dx) :: (dx, dictOf [⟨h1, .str (Str.ofString "_node2info") k1, .ref d⟩, ⟨h2, .str (Str.ofString "_ready_nodes") k2, .none⟩, ⟨h3, .str (Str.ofString "_npassedout") k3, .int 0 t1⟩, ⟨h4, .str (Str.ofString "_nfinished") k4, .int 0 t2⟩] n) :: (rl, orl) :: led).Perm (S.cells C Ci ++ (rl, orl) :: led) := by
    refine (List.Perm.swap _ _ _).trans (List.Perm.cons _ ?_)
    exact List.Perm.swap _ _ _
  exact ⟨S, ⟨hd, lo, fun v hv => (nomatch hv), rfl⟩, rfl, rfl, rfl, rfl, rfl, rfl, fun p hp => N p (pm.mem_iff.mpr hp), s3.perm pm⟩
theorem sorted_M {prog : Program} {w : World} {A : Around} {E : Value → Shared → Prop} {s : Shared} {h₀ : Heap} {L l : Addr} {m : Str → Option Value} {news : List (Addr × Obj)} {vs : List Value} {ss : List Str} {n : Nat} {Q : Value → Shared → Prop}
    (F : Fr h₀ L s.heap m) (N : News h₀ L s.heap news) (hm : (l, W.listOf vs.toArray n) ∈ news) (hS : StrsAre vs ss) (h64 : vs.length < 64)
    (h : ∀ D vs' ss' c h', Fr h₀ L h' m → News h₀ L h' ((D, W.listOf vs'.toArray c) :: news) → (∀ q ∈ news, q.1 < D) → StrsAre vs' ss' → ss'.Perm ss → Q (.ref D) { s with heap := h' }) :
    wpAny (model prog w) A (call (.builtin "sorted") [.ref l]) Q E s :=
  sorted_N_str F N ⟨_, (N _ hm).1, rfl, _, rfl⟩ hS h64 fun h' vs' ss' e F' N' a1 a2 _ => h _ vs' ss' e h' F' N' (fun p hp => Nat.lt_succ_of_lt (Heap.lt_size (N p hp).1)) a1 a2
/-- what is told to the sorter -/
noncomputable def predsOf (rds : List Str) (least : Nat) (k : Str) : List Str := rds.filter fun f => decide (least ≤ lapN k.cps.toList (f.cps.toList.drop 1))
noncomputable def gTo (rds : List Str) (least : Nat) (sds : List Str) (i : Nat) : List PN := (sds.take i).foldl (fun g k => addG g k (predsOf rds least k)) []
theorem gTo_succ {rds : List Str} {least : Nat} {sds : List Str} {i : Nat} {k : Str} (h : sds[i]? = some k) : gTo rds least sds (i + 1) = addG (gTo rds least sds i) k (predsOf rds least k) := foldl_take h
theorem predsOf_le (rds : List Str) (least : Nat) (k : Str) : (predsOf rds least k).length ≤ rds.length := List.length_filter_le _ _
theorem ledger_cell {a b : List (Addr × Obj)} {c : Addr} {oc : Obj} {cs : List (Addr × Obj)} {p q : Addr × Obj} : (p :: (cs ++ q :: (a ++ (c, oc) :: b))).Perm (cs ++ (c, oc) :: (p :: q :: (a ++ b))) := by
  refine List.perm_middle.symm.trans (List.Perm.append_left _ ?_)
  refine List.Perm.trans ?_ (List.Perm.swap _ _ _)
  refine List.Perm.cons _ ?_
  refine List.Perm.trans ?_ (List.Perm.swap _ _ _)
  exact List.Perm.cons _ List.perm_middle
theorem rdAt_len {x : Str} {size k : Nat} (h : k + size ≤ x.length) : (rdAt x size k).length = size := by
  unfold rdAt
  rw [slice_cut (by lia) (by lia) (by lia)]
  show (List.toArray _).size = size
  rw [List.size_toArray]
  unfold cutN
  rw [List.length_take, List.length_drop, show x.cps.toList.length = x.length from by simp [PySem.Str.length]]
  lia
theorem rdAt_list {x : Str} {size k : Nat} (h : k + size ≤ x.length) : (rdAt x size k).cps.toList = cutN x.cps.toList k size := by
  unfold rdAt
  rw [slice_cut (by lia) (by lia) (by lia)]
  simp only [List.toList_toArray, Int.toNat_natCast]
  rw [show ((k : Int) + (size : Int) - (k : Int)).toNat = size from by lia]
theorem reads_mem {x : Str} {size : Nat} {f : Str} : ∀ {n : Nat}, f ∈ readsTo x size n ↔ ∃ k, k < n ∧ f = rdAt x size k
  | 0 => ⟨fun h => (nomatch h), fun ⟨_, h, _⟩ => absurd h (Nat.not_lt_zero _)⟩
  | n + 1 => by
    unfold readsTo
    split
    · rename_i hin
      rw [reads_mem]
      constructor
      · rintro ⟨k, hk, e⟩
        exact ⟨k, Nat.lt_succ_of_lt hk, e⟩
      · rintro ⟨k, hk, rfl⟩
        rcases Nat.lt_succ_iff_lt_or_eq.mp hk with h | rfl
        · exact ⟨k, h, rfl⟩
        · exact reads_mem.mp hin
    · rw [List.mem_append, reads_mem, List.mem_singleton]
      constructor
      · rintro (⟨k, hk, e⟩ | e)
        · exact ⟨k, Nat.lt_succ_of_lt hk, e⟩
        · exact ⟨n, Nat.lt_succ_self _, e⟩
      · rintro ⟨k, hk, e⟩
        rcases Nat.lt_succ_iff_lt_or_eq.mp hk with h | rfl
        · exact .inl ⟨k, h, e⟩
        · exact .inr e
theorem reads_len {x : Str} {size : Nat} (hs : size ≤ x.length) {f : Str} (h : f ∈ readsTo x size (x.length - size + 1)) : f.length = size := by
  obtain ⟨k, hk, rfl⟩ := reads_mem.mp h
  exact rdAt_len (by lia)
theorem lap_slice {f : Str} (b : List Nat) (h : 1 ≤ f.length) : lapN b (Txt.slice f (some 1) none).cps.toList = lapN b (f.cps.toList.drop 1) := by
  rw [slice_from (by lia) (by lia)]; rfl
theorem preds_strs {rvs ys : List Value} {rds : List Str} {least : Nat} {k : Str} (hst : StrsAre rvs rds)
    (h : Paired (fun v r => r = v) (rvs.filter fun v => match v with | .str f _ => decide (least ≤ lapN k.cps.toList (f.cps.toList.drop 1)) | _ => false) ys) : StrsAre ys (predsOf rds least k) := by
  unfold predsOf
  induction hst generalizing ys with
  | nil => cases h; exact .nil
  | cons f t r ih =>
    rw [List.filter_cons] at h
    rw [List.filter_cons]
    dsimp only at h
    by_cases e : decide (least ≤ lapN k.cps.toList (f.cps.toList.drop 1)) = true
    · rw [if_pos e] at h ⊢
      cases h with
      | cons hd tl => rw [hd]; exact .cons _ _ (ih tl)
    · rw [if_neg e] at h ⊢
      exact ih h
theorem perm4 {α : Type} {a b c d : α} {cs r : List α} : (a :: b :: c :: d :: (cs ++ r)).Perm (cs ++ a :: b :: c :: d :: r) :=
  (List.Perm.cons a ((List.Perm.cons b ((List.Perm.cons c List.perm_middle.symm).trans List.perm_middle.symm)).trans List.perm_middle.symm)).trans List.perm_middle.symm
theorem succ_addG {g : List PN} {k : Str} {ps : List Str} {b : Nat} (h : ∀ v ∈ g, v.succ.length ≤ b) : ∀ v ∈ addG g k ps, v.succ.length ≤ b + ps.length :=
  succ_addPs (succ_addN (succ_touch h))
end
section
/-! ### the plain law  -/
theorem free_ring {sc : Str → List Str} {keys told : List Str} (h : Free (sc := sc) keys) (r : Ring (sc := sc) told) (hk : ∀ x ∈ told, x ∈ keys) : False := by
  obtain ⟨rk, hr⟩ := h
  obtain ⟨c, mid, rfl, _, hs⟩ := r
  have key : ∀ i y, (c :: mid ++ [c])[i]? = some y → rk y + i ≤ rk c := by
    intro i
    induction i with
    | zero =>
      intro y hy
      obtain rfl : c = y := by simpa using hy
      lia
    | succ i ih =>
      intro y hy
      have hi := (List.getElem?_eq_some_iff.mp hy).1
      have hx : (c :: mid ++ [c])[i]? = some ((c :: mid ++ [c])[i]'(by lia)) := List.getElem?_eq_getElem _
      have h1 := ih _ hx
      have h2 := hr _ (hk _ (List.mem_of_getElem? hx)) y (hs i _ y hx hy)
      lia
  have := key (mid.length + 1) c (by simp)
  lia
theorem gTo_all (rds : List Str) (least : Nat) (sds : List Str) : gTo rds least sds sds.length = addAll (predsOf rds least) sds := by
  unfold gTo addAll
  rw [List.take_length]
theorem kys_all {rds sds : List Str} {least : Nat} (hp : sds.Perm rds) {y : Str} : y ∈ kys (addAll (predsOf rds least) sds) ↔ y ∈ rds := by
  rw [addAll_mem]
  constructor
  · rintro (h | ⟨k, _, h⟩)
    · exact hp.mem_iff.mp h
    · exact (List.mem_filter.mp h).1
  · exact fun h => .inl (hp.mem_iff.mpr h)
theorem gTo_closed {rds sds : List Str} {least : Nat} (hp : sds.Perm rds) : ∀ v ∈ gTo rds least sds sds.length, v.key ∈ rds ∧ ∀ c ∈ v.succ, c ∈ (gTo rds least sds sds.length).map (·.key) := by
  rw [gTo_all]
  intro v hv
  refine ⟨(kys_all hp).mp (List.mem_map.mpr ⟨v, hv, rfl⟩), fun c hc => ?_⟩
  rw [← (np_at (addAll_nod _ _) hv).2, addAll_suc, List.mem_flatMap] at hc
  obtain ⟨k, hk, hc⟩ := hc
  rw [List.eq_of_mem_replicate hc]
  exact (addAll_mem _ _).mpr (.inl hk)
/-- a proposition that the walk leaves alone -/
structure Box (P : Prop) : Prop where
  out : P
/-- what the search gave -/
noncomputable def ToldIs (sc : Str → List Str) (keys : List Str) (v : Value) (te : List (Addr × Obj)) : Prop :=
  (v = .none ∧ te = [] ∧ Free (sc := sc) keys) ∨ ∃ t vs told, v = .ref t ∧ te = [(t, W.listOf vs.toArray 0)] ∧ Ring (sc := sc) told ∧ (∀ x ∈ told, x ∈ keys) ∧ StrsAre vs told
/-- a plain sorter that is small and closed -/
noncomputable def Small (g : List PN) : Prop := g.length ≤ 1000 ∧ (∀ v ∈ g, v.succ.length ≤ 1000) ∧ ∀ v ∈ g, ∀ c ∈ v.succ, c ∈ g.map (·.key)
theorem setN_keys (g : List PN) (k : Str) (n : Int) : (setN g k n).map (·.key) = g.map (·.key) := by
  unfold setN
  rw [List.map_map]
  refine List.map_congr_left fun v _ => ?_
  show (if v.key = k then ({ v with np := n } : PN) else v).key = v.key
  split <;> rfl
theorem Small.setN {g : List PN} (h : Small g) (k : Str) (n : Int) : Small (setN g k n) := by
  have hm : ∀ v ∈ Mine.setN g k n, ∃ u ∈ g, u.succ = v.succ := fun v hv => by
    obtain ⟨u, hu, rfl⟩ := List.mem_map.mp hv
    refine ⟨u, hu, ?_⟩
    split <;> rfl
  refine ⟨by unfold Mine.setN; rw [List.length_map]; exact h.1, fun v hv => ?_, fun v hv c hc => ?_⟩
  · obtain ⟨u, hu, e⟩ := hm v hv
    rw [← e]; exact h.2.1 u hu
  · obtain ⟨u, hu, e⟩ := hm v hv
    rw [setN_keys]
    exact h.2.2 u hu c (by rw [e]; exact hc)
/-- the line behind p reads -/
noncomputable def lineTo (l : List Nat) (size p : Nat) : List Nat := if p = 0 then [] else l.take (p - 1 + size)
theorem first_ex (l : List Nat) (size least : Nat) : ∃ f, FirstH l size least f := by
  have key : ∀ n, (∀ p, p < n → ¬ Hind l size least p) ∨ ∃ p, p < n ∧ Hind l size least p ∧ ∀ q, q < p → ¬ Hind l size least q := by
    intro n
    induction n with
    | zero => exact .inl fun p h => absurd h (Nat.not_lt_zero _)
    | succ n ih =>
      rcases ih with h | ⟨p, h1, h2, h3⟩
      · by_cases e : Hind l size least n
        · exact .inr ⟨n, Nat.lt_succ_self _, e, h⟩
        · refine .inl fun p hp => ?_
          rcases Nat.lt_succ_iff_lt_or_eq.mp hp with hp | rfl
          · exact h p hp
          · exact e
      · exact .inr ⟨p, Nat.lt_succ_of_lt h1, h2, h3⟩
  rcases key (l.length - size + 1) with h | ⟨p, h1, h2, h3⟩
  · exact ⟨_, h, .inr rfl⟩
  · exact ⟨p, h3, .inl ⟨by lia, h2⟩⟩
theorem FirstH.le {l : List Nat} {size least f g : Nat} (h : FirstH l size least f) (h' : FirstH l size least g) : f ≤ g := by
  rcases Nat.lt_or_ge g f with hl | hl
  · rcases h'.2 with ⟨_, e⟩ | e
    · exact absurd e (h.1 g hl)
    · rcases h.2 with e2 | e2 <;> lia
  · exact hl
theorem FirstH.one {l : List Nat} {size least f g : Nat} (h : FirstH l size least f) (h' : FirstH l size least g) : f = g := Nat.le_antisymm (h.le h') (h'.le h)
/-! ### reads and places -/
theorem cut_len {l : List Nat} {i k : Nat} (h : i + k ≤ l.length) : (cutN l i k).length = k := by
  unfold cutN; rw [List.length_take, List.length_drop]; lia
theorem cut_take {l : List Nat} {i k m : Nat} (h : m ≤ k) : (cutN l i k).take m = cutN l i m := by
  unfold cutN; rw [List.take_take, Nat.min_eq_left h]
theorem cut_drop {l : List Nat} {i k m : Nat} : (cutN l i k).drop m = cutN l (i + m) (k - m) := by
  unfold cutN; rw [List.drop_take, List.drop_drop]
theorem cut_bar {l : List Nat} (h : 124 ∉ l) (i k : Nat) : 124 ∉ cutN l i k := fun hm => h (List.drop_subset _ _ (List.take_subset _ _ hm))
/-- one read on another one's end -/
noncomputable def Edge (l : List Nat) (size least i j : Nat) : Prop := ∃ k, least ≤ k ∧ k < size ∧ cutN l j k = cutN l (i + (size - k)) k
theorem Edge.hind {l : List Nat} {size least i j : Nat} (hi : i + size ≤ l.length) (hj : j ≤ i) (h : Edge l size least i j) : Hind l size least j := by
  obtain ⟨k, h1, h2, e⟩ := h
  have hm : manyN size least j (i + (size - k)) ≤ k := by unfold manyN; lia
  refine ⟨i + (size - k), by lia, by lia, ?_⟩
  rw [← cut_take hm, ← cut_take (k := k) (i := i + (size - k)) hm, e]
theorem Hind.edge {l : List Nat} {size least j : Nat} (hl : least < size) (h : Hind l size least j) : ∃ i, j ≤ i ∧ i + size ≤ l.length ∧ Edge l size least i j := by
  obtain ⟨q, h1, h2, e⟩ := h
  have hm : size + j - q ≤ manyN size least j q ∧ least ≤ manyN size least j q ∧ manyN size least j q < size := by unfold manyN; lia
  refine ⟨q + manyN size least j q - size, by lia, by lia, manyN size least j q, hm.2.1, hm.2.2, ?_⟩
  rw [show q + manyN size least j q - size + (size - manyN size least j q) = q from by lia]
  exact e
theorem edge_next {l : List Nat} {size least i : Nat} (hl : least < size) : Edge l size least i (i + 1) := ⟨size - 1, by lia, by lia, by rw [show size - (size - 1) = 1 from by lia]⟩
section
variable {x : Str} {size least f p : Nat} {rds sds : List Str} {g : List PN} {rd : List Str} {npo nfi : Int}
/-- what is known of the text and of what was told -/
structure Lw (x : Str) (size least : Nat) (rds sds : List Str) (f : Nat) : Prop where
  size3 : 3 ≤ size
  least1 : 1 ≤ least
  least2 : least < size
  fits : size ≤ x.length
  short : x.length ≤ 1000
  bar : 124 ∉ x.cps.toList
  rds_ : rds = readsTo x size (x.length - size + 1)
  perm : sds.Perm rds
  first : FirstH x.cps.toList size least f
theorem str_len (x : Str) : x.cps.toList.length = x.length := by simp [PySem.Str.length]
theorem Lw.flt (w : Lw x size least rds sds f) : f ≤ x.length - size + 1 := by
  have e := str_len x
  rcases w.first.2 with h | h <;> lia
theorem Lw.mem (w : Lw x size least rds sds f) {y : Str} : y ∈ rds ↔ ∃ k, k + size ≤ x.length ∧ y = rdAt x size k := by
  rw [w.rds_, reads_mem]
  have := w.fits
  exact ⟨fun ⟨k, hk, e⟩ => ⟨k, by lia, e⟩, fun ⟨k, hk, e⟩ => ⟨k, by lia, e⟩⟩
theorem readsTo_nod (x : Str) (size : Nat) : ∀ k, (readsTo x size k).Nodup
  | 0 => List.nodup_nil
  | k + 1 => by
    unfold readsTo
    split
    · exact readsTo_nod x size k
    · rename_i h
      rw [List.nodup_append]
      exact ⟨readsTo_nod x size k, by simp, fun a ha b hb e => h (by rw [← List.mem_singleton.mp hb, ← e]; exact ha)⟩
theorem Lw.rnod (w : Lw x size least rds sds f) : rds.Nodup := w.rds_ ▸ readsTo_nod _ _ _
theorem Lw.snod (w : Lw x size least rds sds f) : sds.Nodup := w.perm.nodup_iff.mpr w.rnod
theorem Lw.rlen (w : Lw x size least rds sds f) : rds.length ≤ x.length - size + 1 := w.rds_ ▸ readsTo_le _ _ _
theorem Lw.pred (w : Lw x size least rds sds f) {i j : Nat} (hi : i + size ≤ x.length) (hj : j + size ≤ x.length) : rdAt x size i ∈ predsOf rds least (rdAt x size j) ↔ Edge x.cps.toList size least i j := by
  have e := str_len x
  have b1 := cut_bar w.bar j size
  have b2 : 124 ∉ (cutN x.cps.toList i size).drop 1 := fun h => cut_bar w.bar i size (List.drop_subset _ _ h)
  have l1 : (cutN x.cps.toList j size).length = size := cut_len (by lia)
  have l2 : ((cutN x.cps.toList i size).drop 1).length = size - 1 := by rw [List.length_drop, cut_len (by lia)]
  have hs := w.size3
  unfold predsOf
  rw [List.mem_filter, decide_eq_true_iff, rdAt_list hi, rdAt_list hj]
  constructor
  · rintro ⟨_, h⟩
    obtain ⟨h1, h2, h3⟩ := lapN_is b1 b2
    rw [l2] at h2 h3
    generalize lapN (cutN x.cps.toList j size) ((cutN x.cps.toList i size).drop 1) = K at h h1 h2 h3
    refine ⟨K, h, by lia, ?_⟩
    rw [cut_take (by lia), List.drop_drop, cut_drop] at h3
    rw [h3]
    congr 1 <;> lia
  · rintro ⟨k, h1, h2, h3⟩
    refine ⟨w.mem.mpr ⟨i, hi, rfl⟩, Nat.le_trans h1 (lapN_max b1 b2 ⟨by lia, by lia, ?_⟩)⟩
    rw [l2, cut_take (by lia), List.drop_drop, cut_drop, h3]
    congr 1 <;> lia
/-- ahead of the first hindrance no read stands twice -/
theorem Lw.uniq (w : Lw x size least rds sds f) {i j : Nat} (hj : j < f) (hi : i + size ≤ x.length) (h : rdAt x size i = rdAt x size j) : i = j := by
  have e := str_len x
  have hf := w.flt
  have hfit := w.fits
  have aux : ∀ {a b : Nat}, a < b → b + size ≤ x.length → a < f → rdAt x size b = rdAt x size a → False := fun {a b} h1 h2 h3 h4 => by
    have h5 : Edge x.cps.toList size least (b - 1) b := by
      have := edge_next (l := x.cps.toList) (i := b - 1) w.least2
      rwa [show b - 1 + 1 = b from by lia] at this
    have h6 := (w.pred (i := b - 1) (j := b) (by lia) h2).mpr h5
    rw [h4] at h6
    exact w.first.1 a h3 (Edge.hind (i := b - 1) (by lia) (by lia) ((w.pred (by lia) (by lia)).mp h6))
  rcases Nat.lt_trichotomy i j with h1 | h1 | h1
  · exact (aux h1 (by lia) (by lia) h.symm).elim
  · exact h1
  · exact (aux h1 hi hj h).elim
theorem Lw.lower (w : Lw x size least rds sds f) {j : Nat} (hj : j < f) {q : Str} (hq : q ∈ predsOf rds least (rdAt x size j)) : ∃ i, i < j ∧ q = rdAt x size i := by
  have e := str_len x
  have hf := w.flt
  have hfit := w.fits
  obtain ⟨i, hi, rfl⟩ := w.mem.mp (List.mem_filter.mp hq).1
  have h := (w.pred hi (by lia)).mp hq
  rcases Nat.lt_or_ge i j with h1 | h1
  · exact ⟨i, h1, rfl⟩
  · exact absurd (h.hind (by lia) h1) (w.first.1 j hj)
theorem Lw.ready (w : Lw x size least rds sds f) (hp : p ≤ f) {k : Str} : (k ∈ rds ∧ k ∉ (List.range p).map (rdAt x size) ∧ ∀ q ∈ predsOf rds least k, q ∈ (List.range p).map (rdAt x size)) ↔ p < f ∧ k = rdAt x size p := by
  have e := str_len x
  have hf := w.flt
  have hfit := w.fits
  have dm : ∀ {y}, y ∈ (List.range p).map (rdAt x size) ↔ ∃ m, m < p ∧ y = rdAt x size m := fun {y} => by
    rw [List.mem_map]
    exact ⟨fun ⟨m, hm, e⟩ => ⟨m, List.mem_range.mp hm, e.symm⟩, fun ⟨m, hm, e⟩ => ⟨m, List.mem_range.mpr hm, e.symm⟩⟩
  constructor
  · rintro ⟨h1, h2, h3⟩
    obtain ⟨j, hj, rfl⟩ := w.mem.mp h1
    have hjp : p ≤ j := Nat.le_of_not_lt fun h => h2 (dm.mpr ⟨j, h, rfl⟩)
    rcases Nat.lt_or_eq_of_le hjp with hlt | rfl
    · exfalso
      have h5 : Edge x.cps.toList size least (j - 1) j := by
        have := edge_next (l := x.cps.toList) (i := j - 1) w.least2
        rwa [show j - 1 + 1 = j from by lia] at this
      obtain ⟨m, hm, e2⟩ := dm.mp (h3 _ ((w.pred (by lia) hj).mpr h5))
      have := w.uniq (i := j - 1) (j := m) (by lia) (by lia) e2
      lia
    · rcases Nat.lt_or_eq_of_le hp with h | rfl
      · exact ⟨h, rfl⟩
      · exfalso
        rcases w.first.2 with ⟨_, hh⟩ | hh
        · obtain ⟨i, i1, i2, i3⟩ := hh.edge w.least2
          obtain ⟨m, hm, e2⟩ := dm.mp (h3 _ ((w.pred (by lia) hj).mpr i3))
          have := w.uniq (i := i) (j := m) (by lia) (by lia) e2
          lia
        · lia
  · rintro ⟨h1, rfl⟩
    refine ⟨w.mem.mpr ⟨p, by lia, rfl⟩, fun h => ?_, fun q hq => ?_⟩
    · obtain ⟨m, hm, e2⟩ := dm.mp h
      have := w.uniq (i := p) (j := m) (by lia) (by lia) e2
      lia
    · obtain ⟨i, hi, rfl⟩ := w.lower h1 hq
      exact dm.mpr ⟨i, hi, rfl⟩
theorem Lw.gr (w : Lw x size least rds sds f) : Gr (kys (addAll (predsOf rds least) sds)) (predsOf rds least) (sucOf (addAll (predsOf rds least) sds)) :=
  addAll_gr w.snod fun k _ q hq => w.perm.mem_iff.mpr (List.mem_filter.mp hq).1
theorem one_of {l : List Str} {a : Str} (hn : l.Nodup) (hm : ∀ k, k ∈ l ↔ k = a) : l = [a] := by
  cases l with
  | nil => exact absurd ((hm a).mpr rfl) (List.not_mem_nil)
  | cons b r =>
    obtain rfl := (hm b).mp (.head _)
    cases r with
    | nil => rfl
    | cons c t =>
      obtain rfl := (hm c).mp (.tail _ (.head _))
      exact absurd (.head _) (List.nodup_cons.mp hn).1
/-- the sorter behind p rounds -/
structure Lp (x : Str) (size least : Nat) (rds : List Str) (G0 : List PN) (f p : Nat) (g : List PN) (rd : List Str) (npo nfi : Int) : Prop where
  le : p ≤ f
  kn : Kn (kys G0) (predsOf rds least) (sucOf G0) ((List.range p).map (rdAt x size)) g rd
  rd_ : rd = if p < f then [rdAt x size p] else []
  npo_ : npo = p
  nfi_ : nfi = p
theorem Lw.rd_of (w : Lw x size least rds sds f) (hp : p ≤ f) (h : Kn (kys (addAll (predsOf rds least) sds)) (predsOf rds least) (sucOf (addAll (predsOf rds least) sds)) ((List.range p).map (rdAt x size)) g rd) :
    rd = if p < f then [rdAt x size p] else [] := by
  have hm : ∀ k, k ∈ rd ↔ p < f ∧ k = rdAt x size p := fun k => by
    rw [h.rdm, kys_all w.perm]
    exact w.ready hp
  split
  · rename_i hl
    exact one_of h.rdn fun k => by rw [hm]; exact ⟨fun x => x.2, fun x => ⟨hl, x⟩⟩
  · rename_i hl
    exact List.eq_nil_iff_forall_not_mem.mpr fun k hk => hl ((hm k).mp hk).1
theorem ready_mem {nds : List Nd} (hn : (nds.map (·.key)).Nodup) : (ready0 nds).Nodup ∧ ∀ k, k ∈ ready0 nds ↔ k ∈ kys (nds.map Nd.pn) ∧ npOf (nds.map Nd.pn) k = 0 := by
  unfold ready0
  refine ⟨hn.sublist (List.Sublist.map _ (List.filter_sublist)), fun k => ?_⟩
  rw [List.mem_map]
  constructor
  · rintro ⟨v, hv, rfl⟩
    obtain ⟨h1, h2⟩ := List.mem_filter.mp hv
    refine ⟨List.mem_map.mpr ⟨v.pn, List.mem_map.mpr ⟨v, h1, rfl⟩, rfl⟩, ?_⟩
    rw [npOf_nd hn h1]; exact of_decide_eq_true h2
  · rintro ⟨h1, h2⟩
    obtain ⟨u, hu, rfl⟩ := List.mem_map.mp h1
    obtain ⟨v, hv, rfl⟩ := List.mem_map.mp hu
    refine ⟨v, List.mem_filter.mpr ⟨hv, decide_eq_true ?_⟩, rfl⟩
    rw [← npOf_nd hn hv]; exact h2
theorem Lw.start (w : Lw x size least rds sds f) {nds : List Nd} (h : nds.map Nd.pn = gTo rds least sds sds.length) : Lp x size least rds (gTo rds least sds sds.length) f 0 (nds.map Nd.pn) (ready0 nds) 0 0 := by
  rw [gTo_all] at h ⊢
  have hn : (nds.map (·.key)).Nodup := by
    rw [← keys_pn, h]; exact addAll_nod _ _
  obtain ⟨h1, h2⟩ := ready_mem hn
  have k : Kn (kys (addAll (predsOf rds least) sds)) (predsOf rds least) (sucOf (addAll (predsOf rds least) sds)) ((List.range 0).map (rdAt x size)) (nds.map Nd.pn) (ready0 nds) := by
    rw [h] at h2 ⊢
    exact Kn.zero w.snod (fun k _ q hq => w.perm.mem_iff.mpr (List.mem_filter.mp hq).1) h1 h2
  exact ⟨Nat.zero_le _, k, w.rd_of (Nat.zero_le _) k, rfl, rfl⟩
theorem Lp.active (h : Lp x size least rds (gTo rds least sds sds.length) f p g rd npo nfi) : (decide (nfi < npo) || !rd.isEmpty) = decide (p < f) := by
  rw [h.npo_, h.nfi_, h.rd_]
  by_cases e : p < f <;> simp [e]
theorem Lp.key (w : Lw x size least rds sds f) (h : Lp x size least rds (gTo rds least sds sds.length) f p g rd npo nfi) (hp : p < f) : rdAt x size p ∈ g.map (·.key) := by
  have h1 := h.kn.kye
  rw [gTo_all] at h1
  show _ ∈ kys g
  rw [h1, kys_all w.perm]
  have := w.flt
  have := w.fits
  exact w.mem.mpr ⟨p, by lia, rfl⟩
theorem Lp.step (w : Lw x size least rds sds f) (h : Lp x size least rds (gTo rds least sds sds.length) f p g rd npo nfi) (hp : p < f) : DoneOk (outG g [rdAt x size p], []) [rdAt x size p] ∧
    Lp x size least rds (gTo rds least sds sds.length) f (p + 1) ([rdAt x size p].foldl doneOne (outG g [rdAt x size p], [])).1 ([rdAt x size p].foldl doneOne (outG g [rdAt x size p], [])).2 (npo + 1) (nfi + 1) := by
  have hk := h.kn
  have hr := h.rd_
  rw [if_pos hp] at hr
  rw [gTo_all, hr] at hk
  obtain ⟨i1, i2⟩ := hk.round w.gr
  have e : (List.range p).map (rdAt x size) ++ [rdAt x size p] = (List.range (p + 1)).map (rdAt x size) := by rw [List.range_succ, List.map_append]; rfl
  rw [e] at i2
  refine ⟨i1, hp, ?_, ?_, ?_, ?_⟩
  · rw [gTo_all]; exact i2
  · exact w.rd_of hp i2
  · rw [h.npo_]; rfl
  · rw [h.nfi_]; rfl
theorem lap_zero (b : List Nat) (hb : 124 ∉ b) : lapN b [] = 0 := by
  have := (lapN_is hb (f := []) (by simp)).2.1
  simpa using this
theorem Lw.line (w : Lw x size least rds sds f) (hp : p < f) : lineTo x.cps.toList size (p + 1) = lineTo x.cps.toList size p ++ (rdAt x size p).cps.toList.drop (lapN (rdAt x size p).cps.toList (lineTo x.cps.toList size p)) ∧ lapN (rdAt x size p).cps.toList (lineTo x.cps.toList size p) ≤ size := by
  have e := str_len x
  have hf := w.flt
  have hfit := w.fits
  have hs := w.size3
  have hb := cut_bar w.bar p size
  have hl : (cutN x.cps.toList p size).length = size := cut_len (by lia)
  rw [rdAt_list (by lia)]
  unfold lineTo
  rw [if_neg (Nat.succ_ne_zero p)]
  rcases Nat.eq_zero_or_pos p with rfl | h0
  · rw [if_pos rfl, lap_zero _ hb]
    refine ⟨?_, by lia⟩
    unfold cutN
    simp
  · rw [if_neg (by lia)]
    have hbf : 124 ∉ x.cps.toList.take (p - 1 + size) := fun h => w.bar (List.take_subset _ _ h)
    have hlf : (x.cps.toList.take (p - 1 + size)).length = p - 1 + size := by rw [List.length_take]; lia
    have dr : ∀ a, a ≤ size → (x.cps.toList.take (p - 1 + size)).drop (p - 1 + size - a) = cutN x.cps.toList (p - 1 + size - a) a := fun a ha => by
      unfold cutN
      rw [List.drop_take]
      congr 1; lia
    have hmx : size - 1 ≤ lapN (cutN x.cps.toList p size) (x.cps.toList.take (p - 1 + size)) := lapN_max hb hbf ⟨by lia, by lia, by
      rw [hlf, dr _ (by lia), cut_take (by lia)]
      congr 1; lia⟩
    have his := lapN_is hb hbf
    have hle : lapN (cutN x.cps.toList p size) (x.cps.toList.take (p - 1 + size)) ≤ size := by have := his.1; lia
    have hne : lapN (cutN x.cps.toList p size) (x.cps.toList.take (p - 1 + size)) ≠ size := fun h => by
      rw [h] at his
      have h3 := his.2.2
      rw [hlf, dr _ (Nat.le_refl _), cut_take (Nat.le_refl _), show p - 1 + size - size = p - 1 from by lia] at h3
      have h4 : rdAt x size (p - 1) = rdAt x size p := by rw [str_ext, rdAt_list (by lia), rdAt_list (by lia), h3]
      have := w.uniq (i := p - 1) (j := p) hp (by lia) h4
      lia
    have heq : lapN (cutN x.cps.toList p size) (x.cps.toList.take (p - 1 + size)) = size - 1 := by lia
    rw [heq]
    refine ⟨?_, by lia⟩
    rw [cut_drop, show p + 1 - 1 + size = (p - 1 + size) + 1 from by lia, List.take_add]
    congr 1
    unfold cutN
    rw [show size - (size - 1) = 1 from by lia, show p + (size - 1) = p - 1 + size from by lia]
theorem flat_len {c : Str → Nat} (h : ∀ k, c k ≤ 1) : ∀ l : List Str, (l.flatMap fun k => List.replicate (c k) k).length ≤ l.length
  | [] => Nat.le_refl _
  | k :: l => by
    rw [List.flatMap_cons, List.length_append, List.length_replicate, List.length_cons]
    have := flat_len h l
    have := h k
    lia
theorem Lp.small (w : Lw x size least rds sds f) (h : Lp x size least rds (gTo rds least sds sds.length) f p g rd npo nfi) : Small g := by
  have hk := h.kn
  rw [gTo_all] at hk
  have hnd : (kys g).Nodup := by rw [hk.kye]; exact addAll_nod _ _
  have hfit := w.fits
  have hsh := w.short
  have hs := w.size3
  have hrl := w.rlen
  have hsuc : ∀ v ∈ g, v.succ = sucOf (addAll (predsOf rds least) sds) v.key := fun v hv => by rw [← (np_at hnd hv).2, hk.suc]
  refine ⟨?_, fun v hv => ?_, fun v hv c hc => ?_⟩
  · have h1 : (kys g).length ≤ rds.length := List.Nodup.length_le_of_subset hnd fun k hkm => by
      rw [hk.kye] at hkm
      exact (kys_all w.perm).mp hkm
    have h2 : (kys g).length = g.length := by unfold kys; rw [List.length_map]
    lia
  · rw [hsuc v hv, addAll_suc]
    have := flat_len (c := fun k => (predsOf rds least k).count v.key) (fun k => List.nodup_iff_count.mp (w.rnod.filter _) _) sds
    have := w.perm.length_eq
    lia
  · rw [hsuc v hv, addAll_suc, List.mem_flatMap] at hc
    obtain ⟨k, hkm, hc⟩ := hc
    rw [List.eq_of_mem_replicate hc]
    show k ∈ kys g
    rw [hk.kye]
    exact (addAll_mem _ _).mpr (.inl hkm)
theorem Lw.suc (w : Lw x size least rds sds f) {i j : Nat} (hi : i + size ≤ x.length) (hj : j + size ≤ x.length) : rdAt x size j ∈ sucOf (addAll (predsOf rds least) sds) (rdAt x size i) ↔ Edge x.cps.toList size least i j := by
  rw [← w.pred hi hj, ← List.count_pos_iff, addAll_cnt _ w.snod, if_pos (w.perm.mem_iff.mpr (w.mem.mpr ⟨j, hj, rfl⟩)), List.count_pos_iff]
/-- the end: no ring, if and only if there is no hindrance -/
theorem Lw.free (w : Lw x size least rds sds f) (hf : Free (sc := sucOf (gTo rds least sds sds.length)) ((gTo rds least sds sds.length).map (·.key))) : f = x.length - size + 1 := by
  rw [gTo_all] at hf
  obtain ⟨rk, hr⟩ := hf
  have e := str_len x
  have hfit := w.fits
  rcases w.first.2 with ⟨h1, h2⟩ | h
  · exfalso
    obtain ⟨i, i1, i2, i3⟩ := h2.edge w.least2
    have hk : ∀ m, m + size ≤ x.length → rdAt x size m ∈ (addAll (predsOf rds least) sds).map (·.key) := fun m hm => (kys_all w.perm).mpr (w.mem.mpr ⟨m, hm, rfl⟩)
    have down : ∀ m, f + m + size ≤ x.length → rk (rdAt x size (f + m)) ≤ rk (rdAt x size f) := fun m => by
      induction m with
      | zero => intro _; exact Nat.le_refl _
      | succ m ih =>
        intro hm
        have h3 := ih (by lia)
        have h4 := hr _ (hk (f + m) (by lia)) _ ((w.suc (i := f + m) (j := f + (m + 1)) (by lia) (by lia)).mpr (edge_next w.least2))
        lia
    have h5 := down (i - f) (by lia)
    rw [show f + (i - f) = i from by lia] at h5
    have h6 := hr _ (hk i (by lia)) _ ((w.suc (i := i) (j := f) (by lia) (by lia)).mpr i3)
    lia
  · lia
theorem Lw.edge (w : Lw x size least rds sds f) {a b : Str} (h : b ∈ sucOf (addAll (predsOf rds least) sds) a) (ha : a ∈ rds) : ∃ i j, i + size ≤ x.length ∧ j + size ≤ x.length ∧ a = rdAt x size i ∧ b = rdAt x size j ∧ Edge x.cps.toList size least i j := by
  obtain ⟨i, hi, rfl⟩ := w.mem.mp ha
  have hb : b ∈ rds := by
    rw [addAll_suc, List.mem_flatMap] at h
    obtain ⟨k, hk, hb⟩ := h
    rw [List.eq_of_mem_replicate hb]
    exact w.perm.mem_iff.mp hk
  obtain ⟨j, hj, rfl⟩ := w.mem.mp hb
  exact ⟨i, j, hi, hj, rfl, rfl, (w.suc hi hj).mp h⟩
theorem Lw.ring (w : Lw x size least rds sds f) {told : List Str} (r : Ring (sc := sucOf (gTo rds least sds sds.length)) told) (hk : ∀ y ∈ told, y ∈ (gTo rds least sds sds.length).map (·.key)) : f < x.length - size + 1 := by
  rw [gTo_all] at r hk
  have e := str_len x
  have hfit := w.fits
  have hflt := w.flt
  rcases Nat.lt_or_ge f (x.length - size + 1) with h | h
  · exact h
  exfalso
  have pl : ∀ y ∈ rds, ∃ k, k + size ≤ x.length ∧ y = rdAt x size k := fun y hy => w.mem.mp hy
  let pos : Str → Nat := fun y => if h : y ∈ rds then Classical.choose (pl y h) else 0
  have hpos : ∀ y (h : y ∈ rds), pos y + size ≤ x.length ∧ y = rdAt x size (pos y) := fun y h => by
    have : pos y = Classical.choose (pl y h) := dif_pos h
    rw [this]
    exact Classical.choose_spec (pl y h)
  refine free_ring (keys := kys (addAll (predsOf rds least) sds)) ⟨fun y => x.length - pos y, fun v hv c hc => ?_⟩ r hk
  have hvr := (kys_all w.perm).mp hv
  obtain ⟨a1, a2⟩ := hpos v hvr
  obtain ⟨i, j, _, hj, _, hcj, _⟩ := w.edge hc hvr
  have hcr : c ∈ rds := w.mem.mpr ⟨j, hj, hcj⟩
  obtain ⟨b1, b2⟩ := hpos c hcr
  have hed : Edge x.cps.toList size least (pos v) (pos c) := (w.suc a1 b1).mp (by rw [← a2, ← b2]; exact hc)
  have hlt : pos v < pos c := by
    rcases Nat.lt_or_ge (pos v) (pos c) with h | h'
    · exact h
    · exact absurd (hed.hind (by lia) h') (w.first.1 _ (by lia))
  show x.length - pos c < x.length - pos v
  lia
/-- a ring, as the law asks for it -/
theorem Lw.asks (w : Lw x size least rds sds f) {told : List Str} (r : Ring (sc := sucOf (gTo rds least sds sds.length)) told) (hk : ∀ y ∈ told, y ∈ (gTo rds least sds sds.length).map (·.key)) :
    (∀ y ∈ told, y ∈ rds) ∧ told.length ≤ 1000 ∧ ∃ z0 mid, told = z0 :: mid ++ [z0] ∧ (z0 :: mid).Nodup ∧
      ∀ k, 1 ≤ k → k < told.length → ∃ many, least ≤ many ∧ many < size ∧ (told.getD (k - 1) Str.empty).cps.toList.drop (size - many) = (told.getD k Str.empty).cps.toList.take many := by
  rw [gTo_all] at r hk
  have e := str_len x
  have hfit := w.fits
  have hs := w.size3
  have hsh := w.short
  have hrl := w.rlen
  have h1 : ∀ y ∈ told, y ∈ rds := fun y hy => (kys_all w.perm).mp (hk y hy)
  obtain ⟨c, mid, rfl, hn, hst⟩ := r
  refine ⟨h1, ?_, c, mid, rfl, hn, fun k k1 k2 => ?_⟩
  · have := List.Nodup.length_le_of_subset hn fun y hy => h1 y (by
      rcases List.mem_cons.mp hy with rfl | hy
      · exact .head _
      · exact .tail _ (List.mem_append_left _ hy))
    simp at this ⊢
    lia
  · have ha : (c :: mid ++ [c])[k - 1]? = some ((c :: mid ++ [c]).getD (k - 1) Str.empty) := by rw [List.getD_eq_getElem?_getD, List.getElem?_eq_getElem (by lia)]; rfl
    have hb : (c :: mid ++ [c])[k - 1 + 1]? = some ((c :: mid ++ [c]).getD k Str.empty) := by rw [show k - 1 + 1 = k from by lia, List.getD_eq_getElem?_getD, List.getElem?_eq_getElem (by lia)]; rfl
    obtain ⟨i, j, hi, hj, e1, e2, m, m1, m2, m3⟩ := w.edge (hst _ _ _ ha hb) (h1 _ (List.mem_of_getElem? ha))
    refine ⟨m, m1, m2, ?_⟩
    rw [e1, e2, rdAt_list hi, rdAt_list hj, cut_drop, cut_take (by lia), m3, show size - (size - m) = m from by lia]
end
end
section
/-- the text without the rows that name the modules -/
noncomputable def keepRows : List Stmt → List Stmt
  | [] => []
  | .Assign _ (.Constant _ _ _) _ :: r => keepRows r
  | s :: r => s :: keepRows r
noncomputable def view : Program := { PySem.Challenge.rw_tv0044_02.row.prog with main := { PySem.Challenge.rw_tv0044_02.row.prog.main with body := keepRows PySem.Challenge.rw_tv0044_02.row.prog.main.body } }
-- the top of the text is run at once, by the kernel, not in pieces: the pieces' twins take 12 MiB of the compiled file
local macro_rules | `(tactic| o_head $H) => `(tactic| (refine holds_open (q := view) (loose := [Str.ofString "_NodeInfo"]) (Xt := fun s => xlAt view ([] : List (Str × WData)) s && recOk (RowW.records (OpenRow.toRowW PySem.Challenge.rw_tv0044_02.row)) s) (XP := XL view ([] : List (Str × WData))) (Yf := Hook.obs $H) (Ya := Hook.val $H) (YP := Hook.says $H) (N := 2604) ?hl (Hook.of $H) (Hook.keeps $H) (fun s e => xl_of s (Bool.and_eq_true_iff.mp e).1) XL.keeps (by rfl) (by rfl) (by rfl) (fun s e => recFacts_of (Bool.and_eq_true_iff.mp e).2) (by rfl) (by first | assumption | decide +kernel) (by decide +kernel) ⟨rfl, rfl, rfl, rfl, rfl, by decide +kernel⟩ ?hw ?hc; (case hl => (intro w; kernel_rfl))))
local macro_rules | `(tactic| o_law) => `(tactic| refine holds_law (by decide +kernel) fun said => ?_)
open_top hd for PySem.Challenge.rw_tv0044_02
end
section
-- lines of the walk over an opaque ledger
local macro_rules | `(tactic| walk_at "ne1") => `(tactic| (refine' ne_b3 ?neA ?neB ?neC; (case neA => assumption); (case neB => first | assumption | k_mem); (case neC => first | exact Nat.le_refl _ | lia)))
local macro_rules | `(tactic| walk_at "ne") => `(tactic| first | assumption | exact Ne.symm (by assumption) | (walk_at "ne1") | (refine Ne.symm ?_; walk_at "ne1") | (refine neN ?_; lia))
local macro_rules | `(tactic| k_ne) => `(tactic| (refine neN ?_; (try dsimp only); walk_at "ne"))
local macro_rules | `(tactic| walk_at "below") => `(tactic| first | assumption | ((with_reducible refine' below_cons ?beA ?beB); (case beA => first | assumption | lia); (case beB => walk_at "below")) | ((with_reducible refine' below_upd ?beA); (case beA => walk_at "below")) | ((with_reducible refine' below_trans ?beA ?beB); (case beA => assumption); (case beB => first | assumption | lia)))
local macro_rules | `(tactic| walk_at "sep") => `(tactic| first | assumption | ((with_reducible refine' Sep.upd ?seA); (case seA => walk_at "sep")) | ((with_reducible refine' Sep.cons ?seA ?seB); (case seA => walk_at "sep"); (case seB => walk_at "below")))
local macro_rules | `(tactic| k_all) => `(tactic| ((with_reducible refine' off_of_below ?ofA); (case ofA => walk_at "below")))
local macro_rules | `(tactic| k_upd) => `(tactic| first | (refine' Upd.head ?a; (case a => k_all)) | (refine' Upd.tail ?a ?b; (case a => k_ne); (case b => k_upd)) | (refine' upd_of ?s1 ?s2; (case s1 => walk_at "sep"); (case s2 => k_mem)))
local macro_rules | `(tactic| k_updF) => `(tactic| first | (refine' UpdF.head ?a; (case a => k_all)) | (refine' UpdF.tail ?a ?b; (case a => k_ne); (case b => k_updF)) | (refine' updF_of ?s1 ?s2; (case s1 => walk_at "sep"); (case s2 => k_mem)))
local macro_rules | `(tactic| k_mem) => `(tactic| (with_reducible show _ ∈ upd _ _ _; first | (refine' mem_upd_self ?kmA; (case kmA => k_mem)) | (refine' mem_upd_ne ?kmA ?kmB; (case kmA => k_mem); (case kmB => walk_at "ne"))))
local macro_rules | `(tactic| walk_at "getMethod ref") => `(tactic| (k_here; (with_reducible show wpAny _ _ (getMethod (Value.ref _) (PySem.Str.ofString "get") _) _ _ _); k_dflt (refine' kdg_method (knd := PySem.strKind _ _) ?k1 ?k2 ?k3 ?_; (case k1 => k_asm); (case k2 => k_mem); (case k3 => assumption); k_whole)))
local macro_rules | `(tactic| walk_at "call builtin:dict.get") => `(tactic| (k_here; (with_reducible show wpAny _ _ (call _ [Value.ref _, Value.str _ _]) _ _ _); k_dflt (refine' kdg_get1 (knd := PySem.strKind _ _) ?k1 ?k2 ?k3 ?k4 (strKind_is _ _ _ _) _ ?k6 ?_; (case k1 => k_asm); (case k2 => k_mem); (case k3 => assumption); (case k4 => assumption); (case k6 => assumption); k_whole); (try dsimp only [Option.getD])))
local macro_rules | `(tactic| walk_at "setItem ref str") => `(tactic| (k_here; k_dflt (refine' kda_set (knd := PySem.strKind _ _) ?F ?N ?U ?d (strKind_is _ _ _ _) ?z ?_; (case F => k_asm); (case N => k_asm); (case U => k_updF); (case d => assumption); (case z => assumption); k_whole); intro h' o' F' N' hd'; (try dsimp only at N')))
local macro_rules | `(tactic| k_room) => `(tactic| ((try simp only [depth_mark, depth_under_make, depth_under_kw, depth_in1, depth_deeper, depth_caller]); (try dsimp only [ktrTop]); lia))
local macro_rules | `(tactic| k_mem) => `(tactic| first | exact List.Mem.head _ | ((with_reducible refine' List.mem_cons_of_mem _ ?kmC); (case kmC => k_mem)))
local macro_rules | `(tactic| walk_at "go") => `(tactic| repeat' (first | ((fail_if_success (walk_at "stop")); first | (k_unfold; (try dsimp only)) | (k_end; kc_close) | walk1 | (dsimp only; walk1) | (leave1; (try dsimp only))) | fail "no step"))
local macro_rules | `(tactic| walk_at "stop") => `(tactic| (with_reducible show wpAny _ _ (exec (Stmt.For _ _ _ _ _) _) _ _ _))
local macro_rules | `(tactic| walk_at "stop") => `(tactic| (with_reducible show wpAny _ _ (exec (Stmt.While _ _ _ _) _) _ _ _))
local macro_rules | `(tactic| walk_at "call builtin:len") => `(tactic| (k_here; (with_reducible show wpAny _ _ (call (Value.builtin "len") [Value.ref _]) _ _ _); k_dflt (refine' len_listM ?k1 ?k2 ?k3 ?_; (case k1 => k_asm); (case k2 => k_mem); (case k3 => first | assumption | lia); k_whole)))
local macro_rules | `(tactic| walk_at "call builtin:len") => `(tactic| (k_here; (with_reducible show wpAny _ _ (call (Value.builtin "len") [Value.ref _]) _ _ _); k_dflt (refine' len_tupM ?k1 ?k2 ?k3 ?_; (case k1 => k_asm); (case k2 => k_mem); (case k3 => first | assumption | lia); k_whole)))
local macro_rules | `(tactic| walk_at "loc") => `(tactic| ((try dsimp only); first | with_reducible assumption | exact ite_here | (refine' ite_loc ?lcA ?lcB; (case lcA => decide); (case lcB => walk_at "loc")) | exact rfl))
local macro_rules | `(tactic| walk_at "eval Name") => `(tactic| (k_here; (with_reducible show wpAny _ _ (eval (PySem.Expr.Name _ _) (envOf _ _ _ _ _)) _ _ _); k_dflt (refine' ld ?k1 ?k2 ?_; (case k1 => k_asm); (case k2 => walk_at "loc"); k_whole)))
local macro_rules | `(tactic| walk_at "call builtin:list.append") => `(tactic| (k_here; (with_reducible show wpAny _ _ (call (Value.builtin _) [Value.ref _, _]) _ _ _); k_dflt (refine' append_M ?k1 ?k2 ?k3 ?k4 ?k5 ?_; (case k1 => k_asm); (case k2 => k_asm); (case k4 => k_mem); (case k3 => walk_at "sep"); (case k5 => first | assumption | lia); k_whole); intro h' F' N'; (try k_sweep)))
local macro_rules | `(tactic| walk_at "fold") => `(tactic| ((try k_unmd); k_fold))
local macro_rules | `(tactic| walk_at "post") => `(tactic| (repeat (first | k_unfold | dsimp only [PostG])))
section
theorem anew_Gni_02 : True := by w_top off; trivial

theorem valueAt_nd {nds : List Nd} (hn : (nds.map (·.key)).Nodup) {v : Nd} (hv : v ∈ nds) : valueAt (nds.map Nd.pair) v.key = some (.ref v.x) := by
  induction nds with
  | nil => cases hv
  | cons u r ih =>
    rw [List.map_cons, List.nodup_cons] at hn
    unfold valueAt at ih ⊢
    rw [List.map_cons, List.find?_cons]
    by_cases h : (Nd.pair u).1 = v.key
    · rcases List.mem_cons.mp hv with rfl | hv
      · simp [Nd.pair]
      · exact absurd (List.mem_map.mpr ⟨v, hv, h.symm⟩) hn.1
    · rw [show (decide ((Nd.pair u).1 = v.key)) = false from decide_eq_false h]
      rcases List.mem_cons.mp hv with rfl | hv
      · exact absurd rfl h
      · exact ih hn.2 hv
theorem valueAt_off {nds : List Nd} {k : Str} (h : k ∉ nds.map (·.key)) : valueAt (nds.map Nd.pair) k = none := by
  unfold valueAt
  rw [List.find?_eq_none.mpr]; rfl
  intro p hp
  obtain ⟨u, hu, rfl⟩ := List.mem_map.mp hp
  intro e
  exact h (List.mem_map.mpr ⟨u, hu, of_decide_eq_true e⟩)

theorem gni_end {h₀ : Heap} {L : Addr} {h : Heap} {l x d Ci : Addr} {k : Str} {t u : Tok} {r : List (Addr × Obj)}
    (N : News h₀ L h ((l, W.listOf #[] 0) :: (x, { cls := .ref Ci, dict := some d, slots := #[some (.str k t), some (.int 0 u), some (.ref l)] }) :: (d, dictOf [] 0) :: r))
    (hs : Sep ((l, W.listOf #[] 0) :: (x, { cls := .ref Ci, dict := some d, slots := #[some (.str k t), some (.int 0 u), some (.ref l)] }) :: (d, dictOf [] 0) :: r)) :
    ∃ v : Nd, v.x = x ∧ v.key = k ∧ v.np = 0 ∧ v.succ = [] ∧ v.ok ∧ News h₀ L h (v.cells Ci ++ r) ∧ Sep (v.cells Ci ++ r) := by
  have pm : ((l, W.listOf #[] 0) :: (x, { cls := .ref Ci, dict := some d, slots := #[some (.str k t), some (.int 0 u), some (.ref l)] }) :: (d, dictOf [] 0) :: r).Perm
      (Nd.cells Ci ⟨k, 0, [], x, d, l, t, u, [], 0⟩ ++ r) := by
    refine (List.Perm.swap _ _ _).trans (List.Perm.cons _ ?_)
    exact List.Perm.swap _ _ _
  exact ⟨⟨k, 0, [], x, d, l, t, u, [], 0⟩, rfl, rfl, rfl, rfl, .nil, fun p hp => N p (pm.mem_iff.mpr hp), hs.perm pm⟩
theorem stored_new {K : Type} [DecidableEq K] {kvs : List (K × Value)} {k : K} {v : Value} (h : valueAt kvs k = none) : stored kvs k v = kvs ++ [(k, v)] := by
  unfold stored
  rw [if_neg]
  intro hc
  unfold valueAt at h
  rw [Option.map_eq_none_iff, List.find?_eq_none] at h
  obtain ⟨x, hx, e⟩ := List.any_eq_true.mp hc
  exact h x hx e


section
variable {w : World} {p : Program} {loose : List Str} {mean : ExcName → Option Value} {mg mb : Str → Option Value}
  {dp un : Nat} {gd : Option (List Code)} {cn : Str} {cs : Scope} {a : Addr} {ccd : Value} {cl : List (Str × Addr)} {outer : List Env} {A₀ : Around} {base h₀ : Heap} {L : Addr} {m : Str → Option Value} {news : List (Addr × Obj)} {s : Shared}
    {Q E : Value → Shared → Prop}
  (B : Below A₀ base outer h₀) (F : Fr h₀ L s.heap m) (X : (Mine.hd.heap_1 w.params).In h₀) (N : News h₀ L s.heap news) (T : Top p loose mean mg mb h₀) (hk : cs.kind = .function)
include B F X N T hk
theorem gni_there (S : So) (ok : S.ok PySem.Challenge.rw_tv0044_02.row.prog w) (hc : ∀ q ∈ S.cells 137 40, q ∈ news) (v : Nd) (hv : v ∈ S.nds) (t : Tok)
  (hdp : dp + 2 < recursionLimit) (hun : un + 16 < cLine)
  (ret : ∀ h' tk', Fr h₀ L h' m → News h₀ L h' news → Q (.ref v.x) { s with heap := h', toks := tk' }) :
    wpAny (model PySem.Challenge.rw_tv0044_02.row.prog w) (ktrTop dp un gd cn cs L a ccd cl outer) (call (.ref 80) [.ref S.x, .str v.key t]) Q E s := by
  revert X; k_fill; intro X
  have hx : (S.x, instObj 137 S.dx) ∈ news := hc _ (.head _)
  have hdx : (S.dx, dictOf (sorterEs S.hs S.tk S.n2i S.rv (.int S.npo S.t1) (.int S.nfi S.t2)) S.dn) ∈ news := hc _ (.tail _ (.head _))
  have hn2 : (S.n2i, S.n2o) ∈ news := hc _ (.tail _ (.tail _ (.head _)))
  have hD := ok.dict
  have hlow := ok.low
  have hval := valueAt_nd (So.keys ok) hv
  refine wpAny_call ?_
  k_dflt ktr_enter
  k_steps
  all_goals exact ret _ _ (by assumption) (by assumption)
theorem gni_new (S : So) (ok : S.ok PySem.Challenge.rw_tv0044_02.row.prog w) (hc : ∀ q ∈ S.cells 137 40, q ∈ news) (hs : Sep news) (k : Str) (hv : k ∉ S.nds.map (·.key)) (t : Tok) (hsz : S.nds.length ≤ 1000)
  (hdp : dp + 3 < recursionLimit) (hun : un + 24 < cLine)
  (ret : ∀ h' tk' (v : Nd) o', Fr h₀ L h' m → News h₀ L h' (v.cells 40 ++ upd news S.n2i o') → Sep (v.cells 40 ++ upd news S.n2i o') → v.key = k → v.np = 0 → v.succ = [] → v.ok → o'.IsDictOf (PySem.strKind PySem.Challenge.rw_tv0044_02.row.prog w) ((S.nds ++ [v]).map Nd.pair) → Q (.ref v.x) { s with heap := h', toks := tk' }) :
    wpAny (model PySem.Challenge.rw_tv0044_02.row.prog w) (ktrTop dp un gd cn cs L a ccd cl outer) (call (.ref 80) [.ref S.x, .str k t]) Q E s := by
  revert X; k_fill; intro X
  have hx : (S.x, instObj 137 S.dx) ∈ news := hc _ (.head _)
  have hdx : (S.dx, dictOf (sorterEs S.hs S.tk S.n2i S.rv (.int S.npo S.t1) (.int S.nfi S.t2)) S.dn) ∈ news := hc _ (.tail _ (.head _))
  have hn2 : (S.n2i, S.n2o) ∈ news := hc _ (.tail _ (.tail _ (.head _)))
  have hD := ok.dict
  have hlow := ok.low
  have hval := valueAt_off hv
  have hz : (S.nds.map Nd.pair).length ≤ sizeLine := seven_le (by rw [List.length_map]; lia)
  refine wpAny_call ?_
  k_dflt ktr_enter
  k_steps
  rename News _ _ _ _ => kN'
  rename Obj.IsDictOf _ _ _ => hd9
  obtain ⟨v, rfl, e2, e3, e4, e5, N9, s9⟩ := gni_end kN' (by walk_at "sep")
  refine ret _ _ v _ (by assumption) N9 s9 e2 e3 e4 e5 ?_
  rw [stored_new hval] at hd9
  rw [List.map_append, List.map_singleton, show Nd.pair v = (k, .ref v.x) from by unfold Nd.pair; rw [e2]]
  exact hd9
end
end
section
theorem anew_AddX_02 : True := by w_top off; trivial
local macro_rules | `(tactic| walk_at "stop") => `(tactic| (with_reducible show wpAny _ _ (call (Value.ref 80) _) _ _ _))
section
variable {w : World} {p : Program} {loose : List Str} {mean : ExcName → Option Value} {mg mb : Str → Option Value}
  {dp un : Nat} {gd : Option (List Code)} {cn : Str} {cs : Scope} {a : Addr} {ccd : Value} {cl : List (Str × Addr)} {outer : List Env} {A₀ : Around} {base h₀ : Heap} {L : Addr} {m : Str → Option Value} {s : Shared}
    {Q E : Value → Shared → Prop}
  (B : Below A₀ base outer h₀) (F : Fr h₀ L s.heap m) (X : (Mine.hd.heap_1 w.params).In h₀) (T : Top p loose mean mg mb h₀) (hk : cs.kind = .function)
include B F X T hk
theorem gni (S : So) (rest : List (Addr × Obj)) (N : News h₀ L s.heap (S.cells 137 40 ++ rest)) (hs : Sep (S.cells 137 40 ++ rest)) (ok : S.ok PySem.Challenge.rw_tv0044_02.row.prog w) (k : Str) (t : Tok) (hsz : S.nds.length ≤ 1000)
  (hdp : dp + 3 < recursionLimit) (hun : un + 24 < cLine)
  (ret : ∀ h' tk' nds' o' v, ({ S with nds := nds', n2o := o' } : So).ok PySem.Challenge.rw_tv0044_02.row.prog w → v ∈ nds' → v.key = k → nds'.map Nd.pn = touch (S.nds.map Nd.pn) k → nds'.length ≤ S.nds.length + 1 →
    Fr h₀ L h' m → News h₀ L h' (({ S with nds := nds', n2o := o' } : So).cells 137 40 ++ rest) → Sep (({ S with nds := nds', n2o := o' } : So).cells 137 40 ++ rest) → Q (.ref v.x) { s with heap := h', toks := tk' }) :
    wpAny (model PySem.Challenge.rw_tv0044_02.row.prog w) (ktrTop dp un gd cn cs L a ccd cl outer) (call (.ref 80) [.ref S.x, .str k t]) Q E s := by
  by_cases hm : k ∈ S.nds.map (·.key)
  · obtain ⟨v, hv, rfl⟩ := List.mem_map.mp hm
    refine gni_there B F X N T hk S ok (fun q hq => List.mem_append_left _ hq) v hv t (by lia) (by lia) fun h' tk' F' N' => ?_
    exact ret h' tk' S.nds S.n2o v ok hv rfl (by unfold touch; rw [if_pos (hasK_nds.mpr hm)]) (Nat.le_succ _) F' N' hs
  · refine gni_new B F X N T hk S ok (fun q hq => List.mem_append_left _ hq) hs k hm t hsz hdp hun fun h' tk' v o' F' N' hs' e1 e2 e3 e4 hd => ?_
    have e : v.cells 40 ++ upd (S.cells 137 40 ++ rest) S.n2i o' = v.cells 40 ++ (({ S with n2o := o' } : So).cells 137 40 ++ rest) := by rw [upd_n2i hs]
    rw [e] at N' hs'
    have pm := cells_snoc (C := 137) (Ci := 40) (S := { S with n2o := o' }) (rest := rest) v
    refine ret h' tk' (S.nds ++ [v]) o' v ⟨hd, ok.low, fun u hu => ?_, ok.rds⟩ (List.mem_append_right _ (.head _)) e1 ?_ (by simp) F' (fun q hq => N' q (pm.mem_iff.mpr hq)) (hs'.perm pm)
    · rcases List.mem_append.mp hu with hu | hu
      · exact ok.nds u hu
      · rw [List.mem_singleton.mp hu]; exact e4
    · unfold touch
      rw [if_neg (fun h => hm (hasK_nds.mp h)), List.map_append, List.map_singleton]
      unfold Nd.pn
      rw [e1, e2, e3]

theorem add_code (S : So) (rest : List (Addr × Obj)) (N : News h₀ L s.heap (S.cells 137 40 ++ rest)) (hs : Sep (S.cells 137 40 ++ rest)) (ok : S.ok PySem.Challenge.rw_tv0044_02.row.prog w) (hr : S.rdy = none) (k : Str) (t : Tok) (vs : List Value) (ps : List Str) (hps : StrsAre vs ps)
  (hsz : S.nds.length + ps.length + 1 ≤ 1000) {b : Nat} (hb : ∀ v ∈ S.nds.map Nd.pn, v.succ.length ≤ b) (hbz : b ≤ 900000) (hdp : dp + 4 < recursionLimit) (hun : un + 32 < cLine)
  (ret : ∀ h' tk' nds' o', ({ S with nds := nds', n2o := o' } : So).ok PySem.Challenge.rw_tv0044_02.row.prog w → nds'.map Nd.pn = addG (S.nds.map Nd.pn) k ps → nds'.length ≤ S.nds.length + ps.length + 1 →
    Fr h₀ L h' m → News h₀ L h' (({ S with nds := nds', n2o := o' } : So).cells 137 40 ++ rest) → Sep (({ S with nds := nds', n2o := o' } : So).cells 137 40 ++ rest) → Q .none { s with heap := h', toks := tk' }) :
    codeAny (model PySem.Challenge.rw_tv0044_02.row.prog w) (ktrTop dp un gd cn cs L a ccd cl outer) (.call (.ref 87) ⟨.ref S.x :: .str k t :: vs, []⟩) (fun r s' => match r with | .ok (.ret v) => Q v s' | .ok _ => False | .error e => E e s') s := by
  revert X; k_fill; intro X
  have hvl : vs.length ≤ 1000000 := by rw [StrsAre.length hps]; lia
  k_dflt (refine' code_rest (vs := vs) (pre := [(Str.ofString "self", Value.ref S.x), (Str.ofString "node", Value.str k t)]) (nr := Str.ofString "predecessors") ?k1 ?k2 ?k3 ?k4 ?k5 ?kA ?kF ?kK ?k6 ?k7 ?k8 ?kV ?kP ?kB ?_ ?c2 ?c3 ?c4 ?c5; (case kA => exact rfl); (case kF => exact rfl); (case kK => assumption); (case k1 => k_asm); (case k2 => k_asm); (case k3 => k_asm); (case k4 => k_asm); (case k5 => k_asm); (case k6 => k_is); (case k7 => k_is); (case k8 => k_room); (case kV => exact bind_rest2 rfl rfl (by decide)); (case kP => exact seven_le (by rw [StrsAre.length hps]; lia)); (case kB => exact fun _ => locs rfl); (case c5 => decide); (case c2 => exact rfl); (case c3 => exact rfl); (case c4 => exact rfl); k_whole)
  intro D' g' L' h' l1 FG' F' N' B' X' T'
  (try dsimp only); (try k_fold)
  have hs1 : Sep ((D', tupOf vs.toArray 0) :: (S.cells 137 40 ++ rest)) := Sep.cons hs l1
  have hx : (S.x, instObj 137 S.dx) ∈ (D', tupOf vs.toArray 0) :: (S.cells 137 40 ++ rest) := .tail _ (List.mem_append_left _ (.head _))
  have hdx : (S.dx, dictOf (sorterEs S.hs S.tk S.n2i .none (.int S.npo S.t1) (.int S.nfi S.t2)) S.dn) ∈ (D', tupOf vs.toArray 0) :: (S.cells 137 40 ++ rest) := .tail _ (List.mem_append_left _ (So.mem_dx0 hr))
  generalize hl : (D', tupOf vs.toArray 0) :: (S.cells 137 40 ++ rest) = news1 at N' hs1 hx hdx
  walk_at "go"
  rename News _ _ _ _ => N1
  have pm1 : news1.Perm (S.cells 137 40 ++ ((D', tupOf vs.toArray 0) :: rest)) := by rw [← hl]; exact List.perm_middle.symm
  refine gni (S := S) (rest := (D', tupOf vs.toArray 0) :: rest) B' (by assumption) X' T' rfl (fun q hq => N1 q (pm1.mem_iff.mpr hq)) (hs1.perm pm1) ok k t (by lia) (by show dp + 1 + 3 < recursionLimit; lia) (by show un + 3 + 24 < cLine; lia) ?_
  intro h2 tk2 nds2 o2 v ok2 hv2 hk2 hg2 hz2 F2 N2 hs2
  clear N1 hs1 hx hdx pm1
  obtain ⟨na, nb, hnab⟩ := List.append_of_mem hv2
  subst hnab
  have hx : (S.x, instObj 137 S.dx) ∈ ({ S with nds := na ++ v :: nb, n2o := o2 } : So).cells 137 40 ++ (D', tupOf vs.toArray 0) :: rest := List.mem_append_left _ (.head _)
  have hvx : (v.x, ({ cls := .ref 40, dict := some v.dx, data := .plain, slots := [some (.str v.key v.kt), some (.int v.np v.pt), some (.ref v.sa)].toArray } : Obj)) ∈ ({ S with nds := na ++ v :: nb, n2o := o2 } : So).cells 137 40 ++ (D', tupOf vs.toArray 0) :: rest := List.mem_append_left _ (So.mem_nd (v := v) (List.mem_append_right _ (.head _)) (.head _))
  have hvd : (v.dx, dictOf [] 0) ∈ ({ S with nds := na ++ v :: nb, n2o := o2 } : So).cells 137 40 ++ (D', tupOf vs.toArray 0) :: rest := List.mem_append_left _ (So.mem_nd (v := v) (List.mem_append_right _ (.head _)) (.tail _ (.head _)))
  have hD : (D', tupOf vs.toArray 0) ∈ ({ S with nds := na ++ v :: nb, n2o := o2 } : So).cells 137 40 ++ (D', tupOf vs.toArray 0) :: rest := List.mem_append_right _ (.head _)
  generalize hl2 : ({ S with nds := na ++ v :: nb, n2o := o2 } : So).cells 137 40 ++ (D', tupOf vs.toArray 0) :: rest = news2 at N2 hs2 hx hvx hvd hD
  walk_at "go"
  rename News _ _ _ _ => N3
  rename Fr _ _ _ _ => F3
  rw [← hl2] at N3 hs2
  dsimp only at N3
  have N4' := news_nx (S := { S with nds := na ++ v :: nb, n2o := o2 }) (C := 137) (Ci := 40) (rest := (D', tupOf vs.toArray 0) :: rest) (v := v) (np' := v.np + (vs.length : Int)) (pt' := _) N3 rfl hs2 rfl
  obtain ⟨N4, s4⟩ := N4'
  have kn : ((na ++ v :: nb).map (·.key)).Nodup := So.keys ok2
  refine For_invVF F3 rfl rfl ?_
  walk1
  refine iterTup (vs := vs) (ep := 0) (fun i m l => ∃ nds o, l = ({ S with nds := nds, n2o := o } : So).cells 137 40 ++ (D', tupOf vs.toArray 0) :: rest ∧ Sep l ∧ ({ S with nds := nds, n2o := o } : So).ok PySem.Challenge.rw_tv0044_02.row.prog w ∧
    nds.map Nd.pn = addPs (addN (touch (S.nds.map Nd.pn) k) k ps.length) k (ps.take i) ∧ nds.length ≤ S.nds.length + 1 + i ∧ m (Str.ofString "self") = some (.ref S.x) ∧ m (Str.ofString "node") = some (.str k t))
    rfl (.inr fun i m l => ?_) (by assumption) N4 ?_ ?_ ?_
  · rintro ⟨nds, o, rfl, _⟩
    exact List.mem_append_right _ (.head _)
  · refine ⟨_, _, rfl, s4, ok_put (S := { S with nds := na ++ v :: nb, n2o := o2 }) rfl ok2 rfl rfl (ok2.nds v hv2), ?_, ?_, ?_, ?_⟩
    · rw [List.take_zero, pn_addN (v := v) kn (n := ps.length) (by unfold Nd.pn; simp [StrsAre.length hps]), hg2, hk2]; rfl
    · simp at hz2 ⊢; lia
    · walk_at "loc"
    · walk_at "loc"
  · intro I i u m₁ news₁ h5 tk5 oI hu X99 hoff F5 N5
    refine hideQ fun T9 k9 => ?_
    obtain ⟨nds, o, rfl, s5, ok5, hg5, hz5, hm1, hm2⟩ := X99
    obtain ⟨y, t5, rfl, hy⟩ := StrsAre.item hps i u hu
    have s5c : Sep ((I, oI) :: (({ S with nds := nds, n2o := o } : So).cells 137 40 ++ (D', tupOf vs.toArray 0) :: rest)) := s5.cons_ne hoff
    have hx : (S.x, instObj 137 S.dx) ∈ (I, oI) :: (({ S with nds := nds, n2o := o } : So).cells 137 40 ++ (D', tupOf vs.toArray 0) :: rest) := .tail _ (List.mem_append_left _ (.head _))
    have hdx : (S.dx, dictOf (sorterEs S.hs S.tk S.n2i .none (.int S.npo S.t1) (.int S.nfi S.t2)) S.dn) ∈ (I, oI) :: (({ S with nds := nds, n2o := o } : So).cells 137 40 ++ (D', tupOf vs.toArray 0) :: rest) := .tail _ (List.mem_append_left _ (So.mem_dx0 (S := { S with nds := nds, n2o := o }) hr))
    generalize hl5 : (I, oI) :: (({ S with nds := nds, n2o := o } : So).cells 137 40 ++ (D', tupOf vs.toArray 0) :: rest) = news5 at N5 hx hdx s5c
    walk_at "go"
    rename News _ _ _ _ => N6
    rename Fr _ _ _ _ => F6
    have pm5 : news5.Perm (({ S with nds := nds, n2o := o } : So).cells 137 40 ++ (I, oI) :: (D', tupOf vs.toArray 0) :: rest) := by rw [← hl5]; exact List.perm_middle.symm
    have hil : i < ps.length := by rw [← StrsAre.length hps]; exact (List.getElem?_eq_some_iff.mp hu).1
    refine gni (S := { S with nds := nds, n2o := o }) (rest := (I, oI) :: (D', tupOf vs.toArray 0) :: rest) B' F6 X' T' rfl (fun q hq => N6 q (pm5.mem_iff.mpr hq)) (s5c.perm pm5) ok5 y t5 (by show nds.length ≤ 1000; lia) (by show dp + 1 + 3 < recursionLimit; lia) (by show un + 3 + 24 < cLine; lia) ?_
    intro h7 tk7 nds7 o7 v7 ok7 hv7 hk7 hg7 hz7 F7 N7 s7
    clear N6 F6 hx hdx s5c pm5 hl5
    obtain ⟨ma, mb, hmab⟩ := List.append_of_mem hv7
    subst hmab
    have hvx : (v7.x, ({ cls := .ref 40, dict := some v7.dx, data := .plain, slots := [some (.str v7.key v7.kt), some (.int v7.np v7.pt), some (.ref v7.sa)].toArray } : Obj)) ∈ ({ S with nds := ma ++ v7 :: mb, n2o := o7 } : So).cells 137 40 ++ (I, oI) :: (D', tupOf vs.toArray 0) :: rest := List.mem_append_left _ (So.mem_nd (v := v7) (List.mem_append_right _ (.head _)) (.head _))
    have hvd : (v7.dx, dictOf [] 0) ∈ ({ S with nds := ma ++ v7 :: mb, n2o := o7 } : So).cells 137 40 ++ (I, oI) :: (D', tupOf vs.toArray 0) :: rest := List.mem_append_left _ (So.mem_nd (v := v7) (List.mem_append_right _ (.head _)) (.tail _ (.head _)))
    have hvs : (v7.sa, W.listOf v7.svs.toArray v7.sn) ∈ ({ S with nds := ma ++ v7 :: mb, n2o := o7 } : So).cells 137 40 ++ (I, oI) :: (D', tupOf vs.toArray 0) :: rest := List.mem_append_left _ (So.mem_nd (v := v7) (List.mem_append_right _ (.head _)) (.tail _ (.tail _ (.head _))))
    have hz9 : v7.svs.length ≤ 1000000 := by
      have h1 : v7.pn ∈ (ma ++ v7 :: mb).map Nd.pn := List.mem_map.mpr ⟨v7, List.mem_append_right _ (.head _), rfl⟩
      rw [hg7, hg5] at h1
      have h2 := succ_touch (succ_addPs (succ_addN (succ_touch hb))) _ h1
      have h3 : v7.svs.length = v7.succ.length := StrsAre.length (ok7.nds v7 (List.mem_append_right _ (.head _)))
      have h4 : v7.pn.succ = v7.succ := rfl
      rw [h4, List.length_take] at h2
      lia
    generalize hl7 : ({ S with nds := ma ++ v7 :: mb, n2o := o7 } : So).cells 137 40 ++ (I, oI) :: (D', tupOf vs.toArray 0) :: rest = news7 at N7 s7 hvx hvd hvs
    walk_at "go"
    rename News _ _ _ _ => N8
    rename Fr _ _ _ _ => F8
    rw [← hl7] at N8 s7
    have N9' := news_ns (S := { S with nds := ma ++ v7 :: mb, n2o := o7 }) (C := 137) (Ci := 40) (rest := (I, oI) :: (D', tupOf vs.toArray 0) :: rest) (v := v7) (sc := v7.succ ++ [k]) (svs := v7.svs ++ [.str k t]) (sn := v7.sn + 1) N8 rfl s7 rfl
    obtain ⟨N9, s9⟩ := N9'
    have s10 := s9.perm List.perm_middle
    have ok10 := ok_put (S := { S with nds := ma ++ v7 :: mb, n2o := o7 }) (v' := { v7 with succ := v7.succ ++ [k], svs := v7.svs ++ [.str k t], sn := v7.sn + 1 }) rfl ok7 rfl rfl (StrsAre.append' (ok7.nds v7 (List.mem_append_right _ (.head _))) (StrsAre.cons _ _ StrsAre.nil))
    refine k9 _ _ ?_
    dsimp only [PostG]
    refine EndG.intro F8 (fun q hq => N9 q (List.perm_middle.mem_iff.mpr hq)) (Sep.head s10) ⟨_, _, rfl, s10.tail, ok10, ?_, ?_, ?_, ?_⟩
    · have ht : ps.take (i + 1) = ps.take i ++ [y] := by rw [List.take_add_one, hy]; rfl
      rw [ht, addPs_snoc, pn_addS (v := v7) (k := k) (So.keys ok7) rfl, hg7, hg5, hk7]
    · simp at hz7 ⊢; lia
    · walk_at "loc"
    · walk_at "loc"
  · rintro m₁ news₁ h9 tk9 ⟨nds, o, rfl, s9, ok9, hg9, hz9, hm1, hm2⟩ F9 N9
    dsimp only
    walk_at "go"
    refine ret _ _ nds o ok9 ?_ (by rw [StrsAre.length hps] at hz9; lia) (by assumption) (fun q hq => ?_) (s9.sub ?_)
    · rw [hg9, StrsAre.length hps, List.take_length]; rfl
    · rename News _ _ _ _ => N10
      refine N10 q ?_
      rcases List.mem_append.mp hq with hq | hq
      · exact List.mem_append_left _ hq
      · exact List.mem_append_right _ (.tail _ hq)
    · exact (List.Sublist.refl _).append (List.sublist_cons_self _ _)
theorem add_star (S : So) (rest : List (Addr × Obj)) (N : News h₀ L s.heap (S.cells 137 40 ++ rest)) (hs : Sep (S.cells 137 40 ++ rest)) (ok : S.ok PySem.Challenge.rw_tv0044_02.row.prog w) (hr : S.rdy = none) (k : Str) (t : Tok) (vs : List Value) (ps : List Str) (hps : StrsAre vs ps)
  (hsz : S.nds.length + ps.length + 1 ≤ 1000) {b : Nat} (hb : ∀ v ∈ S.nds.map Nd.pn, v.succ.length ≤ b) (hbz : b ≤ 900000) (hdp : dp + 4 < recursionLimit) (hun : un + 32 < cLine)
  (ret : ∀ h' tk' nds' o', ({ S with nds := nds', n2o := o' } : So).ok PySem.Challenge.rw_tv0044_02.row.prog w → nds'.map Nd.pn = addG (S.nds.map Nd.pn) k ps → nds'.length ≤ S.nds.length + ps.length + 1 →
    Fr h₀ L h' m → News h₀ L h' (({ S with nds := nds', n2o := o' } : So).cells 137 40 ++ rest) → Sep (({ S with nds := nds', n2o := o' } : So).cells 137 40 ++ rest) → Q .none { s with heap := h', toks := tk' }) 
  (qm : Addr) (hq : s.heap.get? qm = some (methodObj (.ref 87) (.ref S.x))) :
    wpAny (model PySem.Challenge.rw_tv0044_02.row.prog w) (ktrTop dp un gd cn cs L a ccd cl outer) (call (.ref qm) (.str k t :: vs)) Q E s :=
  wpAny_call (method_call hq (add_code B F X T hk S rest N hs ok hr k t vs ps hps hsz hb hbz hdp hun ret))
end
end
section
theorem anew_FindC_02 : True := by w_top off; trivial
local macro_rules | `(tactic| walk_at "foldable") => `(tactic| first | (with_reducible show wpAny _ _ (execs _ _) (PostS _ _) _ _) | (with_reducible show wpAny _ _ (execs _ _) (WhlPost _ _ _ _ _ _ _ _ _ _) _ _))
local macro_rules | `(tactic| walk_at "go") => `(tactic| repeat' (first | ((fail_if_success (walk_at "stop")); first | ((fail_if_success (fail_if_success (walk_at "foldable"))); k_fold) | (k_unfold; (try dsimp only)) | (k_end; kc_close) | walk1 | (dsimp only; walk1) | (leave1; (try dsimp only))) | fail "no step"))
local macro_rules | `(tactic| walk_at "stop") => `(tactic| (with_reducible show LeaveX _ _ _ _ _ _ _ _ _ _ _ _ _ _ _ _ _))
local macro_rules | `(tactic| walk_at "enterS") => `(tactic| (refine' code_defSX ?k1 ?k2 ?k3 ?k4 ?k5 ?XB ?TB ?D ?kA ?kF ?cK ?k6 ?k7 ?k8 ?k9 ?kB ?_ ?c2 ?c3 ?c4 ?c5; (case kA => exact rfl); (case kF => exact rfl); (case k2 => k_asm); (case k1 => k_asm); (case XB => assumption); (case TB => assumption); (case D => assumption); (case k3 => k_asm); (case k4 => k_asm); (case k5 => k_asm); (case k6 => k_is); (case k7 => k_is); (case k8 => k_room); (case k9 => exact BindsTo.of_eq rfl); (case kB => exact locs rfl); (case cK => assumption); (case c2 => exact rfl); (case c3 => exact rfl); (case c4 => exact rfl); (case c5 => decide); k_whole))
local macro_rules | `(tactic| walk_at "compareOp In str ref") => `(tactic| (k_here; k_dflt (refine' kda_in (knd := PySem.strKind _ _) ?N ?m ?d ?lo (strKind_is _ _ _ _) _ ?b ?_; (case N => k_asm); (case m => k_mem); (case d => assumption); (case lo => assumption); (case b => assumption); k_whole); (try dsimp only)))
local macro_rules | `(tactic| walk_at "compareOp In str ref") => `(tactic| (k_here; k_dflt (refine' in_set _ ?N ?s ?m ?d ?z ?b ?_; (case N => k_asm); (case m => k_mem); (case s => walk_at "sep"); (case d => assumption); (case z => first | assumption | lia); (case b => assumption); k_whole); (try dsimp only)))
local macro_rules | `(tactic| walk_at "subscriptTail") => `(tactic| (k_here; (with_reducible show wpAny _ _ (subscriptTail _ _ (Value.ref _) (Value.str _ _)) _ _ _); k_dflt (refine' kda_item (knd := PySem.strKind _ _) ?N ?m ?d (strKind_is _ _ _ _) ?l ?_; (case N => k_asm); (case m => k_mem); (case d => assumption); (case l => assumption); k_whole)))
local macro_rules | `(tactic| walk_at "getAttr ref") => `(tactic| (k_here; (with_reducible show wpAny _ _ (getAttr (Value.ref _) (PySem.Str.ofString "__next__") true) _ _ _); k_dflt (refine' next_M ?F ?N ?m ?_; (case F => k_asm); (case N => k_asm); (case m => k_mem); k_whole); intro nxM nxh nxF nxN nxl))
local macro_rules | `(tactic| walk_at "truthy ref") => `(tactic| (k_here; (with_reducible show wpAny _ _ (truthy (Value.ref _)) _ _ _); k_dflt (first | (refine' truthy_none ?N ?m ?_; (case N => k_asm); (case m => k_mem); k_whole) | (refine' truthy_some ?N ?m ?z ?_; (case N => k_asm); (case m => k_mem); (case z => first | assumption | lia); k_whole))))
local macro_rules | `(tactic| walk_at "call builtin:iter") => `(tactic| (k_here; (with_reducible show wpAny _ _ (call (Value.builtin "iter") [Value.ref _]) _ _ _); k_dflt (refine' iter_M ?F ?N ?m ?_; (case F => k_asm); (case N => k_asm); (case m => k_mem); k_whole); intro itI ith itF itN itl))
local macro_rules | `(tactic| walk_at "subscriptTail") => `(tactic| (k_here; (with_reducible show wpAny _ _ (subscriptTail _ _ (Value.ref _) (Value.int (-1) _)) _ _ _); k_dflt (refine' last_M ?N ?m ?z ?_; (case N => k_asm); (case m => k_mem); (case z => assumption); k_whole)))
local macro_rules | `(tactic| walk_at "call builtin:list.pop") => `(tactic| (k_here; (with_reducible show wpAny _ _ (call (Value.builtin _) [Value.ref _]) _ _ _); k_dflt (refine' pop_M ?F ?N ?s ?m ?z ?_; (case F => k_asm); (case N => k_asm); (case m => k_mem); (case s => walk_at "sep"); (case z => assumption); k_whole); intro ppH ppF ppN; (try k_sweep)))
local macro_rules | `(tactic| walk_at "stop") => `(tactic| (with_reducible show wpAny _ _ (call (Value.ref _) []) _ _ _))
local macro_rules | `(tactic| walk_at "stop") => `(tactic| (with_reducible show WhlRest _ _ _ _ _ _ _ _ _ _ _))
local macro_rules | `(tactic| walk_at "delItem ref str") => `(tactic| (k_here; k_dflt (refine' kob_del (knd := PySem.strKind _ _) ?F ?N ?U ?d (strKind_is _ _ _ _) ?l ?z ?_; (case F => k_asm); (case N => k_asm); (case U => k_updF); (case d => assumption); (case l => assumption); (case z => assumption); k_whole); intro dlh dlo dlF dlN dlD; (try dsimp only at dlN)))
local macro_rules | `(tactic| walk_at "subscriptTail Name Slice ref ref") => `(tactic| (k_here; (with_reducible show wpAny _ _ (subscriptTail _ (PySem.Expr.Slice _ none none _) (Value.ref _) (Value.ref _)) _ _ _); k_dflt (refine' sliceFrom_M ?F ?N ?m ?z ?_ ?s ?t; (case F => k_asm); (case N => k_asm); (case m => k_mem); (case z => assumption); (case s => with_unfolding_all rfl); (case t => kmk_pure); k_whole); intro slD slh slF slN sll; (try k_sweep)))
local macro_rules | `(tactic| walk_at "binaryOp Add ref ref") => `(tactic| (k_here; (with_reducible show wpAny _ _ (binaryOp _ (Value.ref _) (Value.ref _)) _ _ _); k_dflt (refine' cat_M ?F ?N ?a ?b ?z ?_; (case F => k_asm); (case N => k_asm); (case a => k_mem); (case b => k_mem); (case z => first | assumption | (simp; lia)); k_whole); intro caD cah caF caN cal; (try k_sweep)))
theorem inner_cut {P : Prop} {prog : Program} {w : World} {A : Around} {E : Value → Shared → Prop} {env : Env} {test : Expr} {body orelse : List Stmt} {Q : Flow → Shared → Prop} (J : Nat → Shared → Prop)
    (main : (∀ n s, J n s → WhlRest prog w A E env test body orelse Q 0 s) → P) (inn : ∀ n s, J n s → WhlRest prog w A E env test body orelse Q 0 s) : P := main inn
/-- what follows a key -/
noncomputable def scOf (nds : List Nd) (k : Str) : List Str := ((nds.find? fun v => decide (v.key = k)).map (·.succ)).getD []
theorem scOf_nd {nds : List Nd} (hn : (nds.map (·.key)).Nodup) {v : Nd} (hv : v ∈ nds) : scOf nds v.key = v.succ := by
  unfold scOf
  induction nds with
  | nil => cases hv
  | cons u r ih =>
    rw [List.map_cons, List.nodup_cons] at hn
    rw [List.find?_cons]
    by_cases h : u.key = v.key
    · rcases List.mem_cons.mp hv with rfl | hv
      · simp
      · exact absurd (List.mem_map.mpr ⟨v, hv, h.symm⟩) hn.1
    · rw [show (decide (u.key = v.key)) = false from decide_eq_false h]
      rcases List.mem_cons.mp hv with rfl | hv
      · exact absurd rfl h
      · exact ih hn.2 hv
section
variable {w : World} {p : Program} {loose : List Str} {mean : ExcName → Option Value} {mg mb : Str → Option Value}
  {dp un : Nat} {gd : Option (List Code)} {cn : Str} {cs : Scope} {a : Addr} {ccd : Value} {cl : List (Str × Addr)} {outer : List Env} {A₀ : Around} {base h₀ : Heap} {L : Addr} {m : Str → Option Value} {s : Shared}
    {Q E : Value → Shared → Prop}
  (B : Below A₀ base outer h₀) (F : Fr h₀ L s.heap m) (X : (Mine.hd.heap_1 w.params).In h₀) (T : Top p loose mean mg mb h₀) (hk : cs.kind = .function)
  (XB : (Mine.hd.heap_1 w.params).In base) (TB : Top p loose mean mg mb base) (D : KtsDicts (outer.filterMap (·.frame)) h₀)
include B F X T hk XB TB D
theorem find_tells (S : So) (rest : List (Addr × Obj)) (N : News h₀ L s.heap (S.cells 137 40 ++ rest)) (hs : Sep (S.cells 137 40 ++ rest)) (ok : S.ok PySem.Challenge.rw_tv0044_02.row.prog w)
  (hsz : S.nds.length ≤ 1000) (hcl : ∀ v ∈ S.nds, ∀ c ∈ v.succ, c ∈ S.nds.map (·.key)) (hdp : dp + 4 < recursionLimit) (hun : un + 32 < cLine)
  (none_ : ∀ h' g' tk', KtsTurn (outer.filterMap (·.frame)) h₀ g' → Free (sc := scOf S.nds) (S.nds.map (·.key)) → Fr g' L h' m → News g' L h' (S.cells 137 40 ++ rest) → Below A₀ base outer g' → (Mine.hd.heap_1 w.params).In g' → Top p loose mean mg mb g' → KtsDicts (outer.filterMap (·.frame)) g' →
    Q .none { s with heap := h', toks := tk' })
  (ring_ : ∀ h' g' tk' t vs told, KtsTurn (outer.filterMap (·.frame)) h₀ g' → Ring (sc := scOf S.nds) told → (∀ x ∈ told, x ∈ S.nds.map (·.key)) → StrsAre vs told → Fr g' L h' m → News g' L h' ((t, W.listOf vs.toArray 0) :: (S.cells 137 40 ++ rest)) → Sep ((t, W.listOf vs.toArray 0) :: (S.cells 137 40 ++ rest)) →
    Below A₀ base outer g' → (Mine.hd.heap_1 w.params).In g' → Top p loose mean mg mb g' → KtsDicts (outer.filterMap (·.frame)) g' → Q (.ref t) { s with heap := h', toks := tk' }) :
    wpAny (model PySem.Challenge.rw_tv0044_02.row.prog w) (ktrTop dp un gd cn cs L a ccd cl outer) (call (.ref 127) [.ref S.x]) Q E s := by
  revert X XB; k_fill; intro X XB
  refine wpAny_call ?_
  walk_at "enterS"
  intro g1 L1 h1 FG1 F' N' B' X' T' D'
  (try dsimp only); (try k_fold)
  have hx : (S.x, instObj 137 S.dx) ∈ S.cells 137 40 ++ rest := List.mem_append_left _ (.head _)
  have hdx : (S.dx, dictOf (sorterEs S.hs S.tk S.n2i S.rv (.int S.npo S.t1) (.int S.nfi S.t2)) S.dn) ∈ S.cells 137 40 ++ rest := List.mem_append_left _ (.tail _ (.head _))
  have hn2 : (S.n2i, S.n2o) ∈ S.cells 137 40 ++ rest := List.mem_append_left _ (.tail _ (.tail _ (.head _)))
  have hnds : ∀ v ∈ S.nds, ∀ q ∈ v.cells 40, q ∈ S.cells 137 40 ++ rest := fun v hv q hq => List.mem_append_left _ (So.mem_nd hv hq)
  generalize hl : S.cells 137 40 ++ rest = news1 at N' hs hx hdx hn2 hnds
  walk_at "go"
  rename News _ _ _ _ => N1
  rename Fr _ _ _ _ => F1
  refine wpAny_For ?_
  walk1
  have hg := (N1 (S.n2i, S.n2o) (.tail _ (.tail _ (.tail _ (.tail _ hn2))))).1
  obtain ⟨ep, hDa⟩ := (Heap.dictOf_iff.mpr ⟨_, hg, ok.dict⟩).dictAt
  refine wpAny_pyIter_dict (knd := PySem.strKind _ _) ok.low hDa ?_
  rename_i h8 stk h7 l13 h6 tk0 its h5 l12 h4 sn h3 led hsi hss l11 h2 nd hh1 o5 lo5 hso5 hfs5 hi5 hfi5 l1 hF
  have a1 : ∀ p ∈ news1, p.1 < stk := l13
  have a1' : ∀ p ∈ news1, @LT.lt Nat _ p.1 stk := l13
  have a2 : @LT.lt Nat _ stk its := l12.1
  have a3 : @LT.lt Nat _ its sn := l11.1
  have a4 : @LT.lt Nat _ sn nd := l1.1
  have hI : @LT.lt Nat _ nd hF.objs.size := Heap.lt_size (N1 _ (.head _)).1
  generalize hII : ({ heap := hF, gens := s.gens, drawn := s.drawn, toks := tk + 1 + 1, os := s.os } : Shared).heap.objs.size = I
  have hII' : hF.objs.size = I := hII
  rw [hII'] at hI
  have b1 : ∀ q ∈ news1, q.1 ≠ I := fun q hq => Nat.ne_of_lt (by have := a1 q hq; exact Nat.lt_trans (a1 q hq) (by lia))
  have n1 : its ≠ stk := neN (by lia)
  have n2 : sn ≠ stk := neN (by lia)
  have n3 : nd ≠ stk := neN (by lia)
  have n4 : sn ≠ its := neN (by lia)
  have n5 : nd ≠ its := neN (by lia)
  have n6 : nd ≠ sn := neN (by lia)
  have i1 : stk ≠ I := neN (by lia)
  have i2 : its ≠ I := neN (by lia)
  have i3 : sn ≠ I := neN (by lia)
  have i4 : nd ≠ I := neN (by lia)
  have hms : (S.nds.map Nd.pair).map (·.1) = S.nds.map (·.key) := by rw [List.map_map]; rfl
  have hnd : (S.nds.map (·.key)).Nodup := So.keys ok
  refine forS (Walks.dictKeys (knd := PySem.strKind PySem.Challenge.rw_tv0044_02.row.prog w) rfl I S.n2i (fun e => b1 _ hn2 e) (S.nds.map Nd.pair) ep) (by with_unfolding_all passes_own) (fun i s' => ∃ seen fin oI, FcS PySem.Challenge.rw_tv0044_02.row.prog w (Mine.hd.heap_1 w.params) p loose mean mg mb (ktrTop dp un gd cn cs L a ccd cl outer) base (envX cn cs L a ccd cl :: outer) g1 L1 s S.nds ((I, oI) :: news1) I stk its sn nd S.n2i seen [] (fun _ => True) s' ∧
    Dfs (scOf S.nds) (S.nds.map (·.key)) seen fin none [] ∧ seen.Nodup ∧ (∀ j k, j < i → (S.nds.map (·.key))[j]? = some k → k ∈ seen) ∧ oI.cls = .type "dict_keyiterator" ∧ oI.data = .fields #[.ref S.n2i, .int i 0, .int (S.nds.map Nd.pair).length 0, .int ep 0]) ?hst ?h0 ?turn ?done
  case hst =>
    rintro i s' ⟨_, _, oI, H, _, _, _, k1, k2⟩
    cases H with
    | mk T B X P D F N hs hYZ c h0 h1 h2 h3 h4 hm =>
      refine ⟨⟨oI, (N _ (hYZ _ (.head _))).1, k1, k2⟩, hDa.at' fun o e => ?_⟩
      rw [hg] at e
      cases e
      exact (N _ (hYZ _ (.tail _ hn2))).1
  case h0 =>
    refine ⟨[], [], { cls := .type "dict_keyiterator", data := .fields #[.ref S.n2i, .int (0 : Nat) 0, .int (S.nds.map Nd.pair).length 0, .int ep 0] }, ?_, ⟨trivial, fun j v h => by simp at h, List.nodup_nil, fun k hk => (nomatch hk), fun k => by simp, fun k hk => (nomatch hk)⟩, List.nodup_nil, fun j k hj => absurd hj (Nat.not_lt_zero _), rfl, rfl⟩
    have sZ : Sep ((nd, o5) :: (sn, { cls := Value.type "set", data := Data.set #[] 0 (SetTable.fresh 0 0 led) }) :: (its, W.listOf #[] 0) :: (stk, W.listOf #[] 0) :: news1) := by walk_at "sep"
    refine .mk (m := _) (Z := (I, { cls := .type "dict_keyiterator", data := .fields #[.ref S.n2i, .int (0 : Nat) 0, .int (S.nds.map Nd.pair).length 0, .int ep 0] }) :: (nd, o5) :: (sn, { cls := Value.type "set", data := Data.set #[] 0 (SetTable.fresh 0 0 led) }) :: (its, W.listOf #[] 0) :: (stk, W.listOf #[] 0) :: news1) KtsTurn.refl B' X' T' D' (F1.push _) ?_ ?_ ?_ ?_ (by walk_at "loc") (by walk_at "loc") (by walk_at "loc") (by walk_at "loc") (by walk_at "loc") trivial
    · intro q hq
      rcases List.mem_cons.mp hq with rfl | hq
      · refine ⟨?_, ?_, next_is_new F1 ▸ ?_⟩
        · rw [← hII]; exact Heap.get?_push_size _ rfl
        · rw [← hII']; exact (ne_size F1).symm
        · rw [← hII']
      · exact ⟨Heap.get?_push_of_some _ (N1 q hq).1, (N1 q hq).2⟩
    · refine Sep.cons sZ fun q hq => ?_
      rw [← hII']; exact Heap.lt_size (N1 q hq).1
    · intro q hq
      rcases List.mem_cons.mp hq with rfl | hq
      · exact .head _
      · exact .tail _ (.tail _ (.tail _ (.tail _ (.tail _ hq))))
    · exact ⟨⟨[], 0, .tail _ (.tail _ (.tail _ (.tail _ (.head _)))), .nil⟩, ⟨0, .tail _ (.tail _ (.tail _ (.head _)))⟩, fun f hf => (nomatch hf), ⟨_, _, .tail _ (.tail _ (.head _)), hss, fun k => by simp⟩, ⟨_, [], .tail _ (.head _), hso5, rfl⟩, List.nodup_nil⟩
  case done =>
    rintro s1 hE tkE ⟨seen, fin, oI, H, Dd, hsn, hall, k1, k2⟩ hkeep
    obtain ⟨gE, mE, TE, BE, XE, PE, DE, FE, NE, h0, t0, rfl⟩ := H.last hkeep b1
    dsimp only
    have fr : Free (sc := scOf S.nds) (S.nds.map (·.key)) := Dd.free fun k hk => by
      obtain ⟨j, hj, e⟩ := List.getElem_of_mem hk
      exact hall j k (by simpa using hj) (by rw [List.getElem?_eq_getElem hj, e])
    clear hkeep H
    --[
    walk_at "go"
    rename News _ _ _ _ => N9
    rename Fr _ _ _ _ => F9
    refine ⟨_, _, _, _, TE, F9, N9, fun h0' kT kF kN kB kX kP kD => ?_⟩
    exact none_ _ _ _ kT fr kF (by rw [hl]; exact kN) kB kX kP kD
    --]
  case turn =>
    intro i s1 v hT tkT hi X91 X92 X93 hkeep
    refine hidePS fun J9 Q9 j9 q9 => ?_
    obtain ⟨seen0, fin, oI, H, Dd, hsn, hall, k1, k2⟩ := X91
    obtain ⟨key, x, hkx, hkv⟩ := X92
    obtain ⟨⟨oI', hoI, k3, k4⟩, _⟩ := X93
    obtain ⟨kt, rfl⟩ := Value.isStrOf_shape hkv
    have hYb : ∀ q ∈ (I, oI') :: news1, @LE.le Nat _ q.1 I := fun q hq => by
      rcases List.mem_cons.mp hq with rfl | hq
      · exact Nat.le_refl _
      · have := a1' q hq; lia
    have hYn : ∀ q ∈ (I, oI') :: news1, q.1 ≠ stk ∧ q.1 ≠ its ∧ q.1 ≠ sn ∧ q.1 ≠ nd := fun q hq => by
      rcases List.mem_cons.mp hq with rfl | hq
      · exact ⟨i1.symm, i2.symm, i3.symm, i4.symm⟩
      · have := a1' q hq
        exact ⟨neN (by lia), neN (by lia), neN (by lia), neN (by lia)⟩
    have H1 := H.step (tk := tkT) hkeep hoI b1 i1 i2 i3 i4
    have hkey : (S.nds.map (·.key))[i]? = some key := by rw [← hms, List.getElem?_map, hkx]; rfl
    have hkeyM : key ∈ S.nds.map (·.key) := List.mem_of_getElem? hkey
    clear H hkeep hkv
    generalize ({ s1 with heap := hT, toks := tkT } : Shared) = s2 at H1
    cases H1 with
    | mk T2 B2 X2 P2 D2 F2 N2 hs2 hY2 c2 m0 m1 m2 m3 m4 hm2 =>
    refine stN F2 N2 (fun h3 F3 N3 => ?_)
    obtain ⟨o1, Sf, c3, c3', c3''⟩ := c2.set
    have hlen : seen0.length ≤ 1000 := Nat.le_trans (List.Nodup.length_le_of_subset hsn (fun k hk => Dd.key k hk)) (by rw [List.length_map]; exact hsz)
    clear F1 N1
    walk_at "go"
    · dsimp only [PostS]
      refine ⟨j9 _ ⟨seen0, fin, oI', .mk T2 B2 X2 P2 D2 (by assumption) (by assumption) hs2 hY2 c2 (by walk_at "loc") (by walk_at "loc") (by walk_at "loc") (by walk_at "loc") (by walk_at "loc") trivial, Dd, hsn, fun j k hj hk => ?_, k3, k4⟩⟩
      rcases Nat.lt_succ_iff_lt_or_eq.mp hj with hj | rfl
      · exact hall j k hj hk
      · rw [hkey] at hk
        cases hk
        exact (c3'' key).mp (by assumption)
    · rename News _ _ _ _ => N4
      rename Fr _ _ _ _ => F4
      have hnot : key ∉ seen0 := fun h => by
        have := (c3'' key).mpr h
        simp_all
      refine whl_start 0 (whileS (fun n s' => ∃ seen fin fs node, FcS PySem.Challenge.rw_tv0044_02.row.prog w (Mine.hd.heap_1 w.params) p loose mean mg mb (ktrTop dp un gd cn cs L a ccd cl outer) base (envX cn cs L a ccd cl :: outer) g1 L1 s S.nds ((I, oI') :: news1) I stk its sn nd S.n2i seen fs (fun m => ∃ t, m (Str.ofString "node") = some (.str node t)) s' ∧
        Dfs (scOf S.nds) (S.nds.map (·.key)) seen fin (some node) (fs.map Fm.pl) ∧ seen.Nodup ∧ node ∈ S.nds.map (·.key) ∧ muS (scOf S.nds) (S.nds.map (·.key)) seen + muF (scOf S.nds) (fs.map Fm.pl) ≤ n ∧ (∀ k, k ∈ seen0 → k ∈ seen) ∧ (key ∈ seen ∨ node = key)) (by with_unfolding_all passes_own) ?wturn (muS (scOf S.nds) (S.nds.map (·.key)) seen0 + 0) ?wh0)
      case wh0 =>
        exact ⟨seen0, fin, [], key, .mk T2 B2 X2 P2 D2 F4 N4 hs2 hY2 c2 (by walk_at "loc") (by walk_at "loc") (by walk_at "loc") (by walk_at "loc") (by walk_at "loc") ⟨kt, by walk_at "loc"⟩, ⟨trivial, Dd.ord, Dd.nod, Dd.dis, Dd.see, Dd.key⟩, hsn, hkeyM, Nat.le_refl _, fun k hk => hk, .inr rfl⟩
      case wturn =>
        clear F4 N4 T2 B2 X2 P2 D2 hs2 hY2 c2 m0 m1 m2 m3 m4 hm2 c3 c3' c3''
        rintro n s3 ⟨seen, fin1, fs, node, H, Dd1, hsn1, hnk, hmu, hmono, hor⟩ again
        cases H with
        | @mk gZ mZ Z hZ tkZ T2 B2 X2 P2 D2 F2 N2 hs2 hY2 c2 m0 m1 m2 m3 m4 hm2 =>
        obtain ⟨tn, hnode⟩ := hm2
        obtain ⟨o1, Sf, c3, c3', c3''⟩ := c2.set
        obtain ⟨o2, kvs, c4, c4', c4''⟩ := c2.dct
        obtain ⟨svs, svn, c5, c5'⟩ := c2.stk
        obtain ⟨itn, c6⟩ := c2.its
        have hfsl : fs.length ≤ 1000 := by
          have := List.Nodup.length_le_of_subset Dd1.nod (fun k hk => Dd1.key k ((Dd1.see k).mpr (.inr hk)))
          simp at this
          lia
        have hl5 : svs.length = fs.length := by rw [StrsAre.length c5']; simp
        have hz5 : svs.length ≤ 1000000 := by lia
        have hz6 : (List.map (fun f => Value.ref f.mw) fs).reverse.length ≤ 1000000 := by simp; lia
        have hz7 : kvs.length ≤ sizeLine := seven_le (by rw [← List.length_map (f := (·.1)), c4''.keys]; simp; lia)
        obtain ⟨v, hv, rfl⟩ := List.mem_map.mp hnk
        have hmemk : ∀ k, k ∈ (fs.map Fm.pl).map (·.1) ↔ k ∈ fs.map (·.nd.key) := fun k => by rw [List.map_map]; rfl
        have hval := valueAt_nd (So.keys ok) hv
        have hvx : (v.x, ({ cls := .ref 40, dict := some v.dx, data := .plain, slots := [some (.str v.key v.kt), some (.int v.np v.pt), some (.ref v.sa)].toArray } : Obj)) ∈ Z := hY2 _ (.tail _ (hnds v hv _ (.head _)))
        have hvd : (v.dx, dictOf [] 0) ∈ Z := hY2 _ (.tail _ (hnds v hv _ (.tail _ (.head _))))
        have hvs : (v.sa, W.listOf v.svs.toArray v.sn) ∈ Z := hY2 _ (.tail _ (hnds v hv _ (.tail _ (.tail _ (.head _)))))
        have hn2Z : (S.n2i, S.n2o) ∈ Z := hY2 _ (.tail _ hn2)
        have hdicO := ok.dict
        have q1 : v.x ≠ stk := neN (Nat.ne_of_lt (a1 _ (hnds v hv _ (.head _))))
        have q2 : v.sa ≠ stk := neN (Nat.ne_of_lt (a1 _ (hnds v hv _ (.tail _ (.tail _ (.head _))))))
        have q1' : v.x ≠ its := neN (by have := a1' _ (hnds v hv _ (.head _)); lia)
        have q1'' : v.x ≠ sn := neN (by have := a1' _ (hnds v hv _ (.head _)); lia)
        have q3 : v.dx ≠ sn := neN (by have := a1' _ (hnds v hv _ (.tail _ (.head _))); lia)
        have q2' : v.sa ≠ its := neN (by have := a1' _ (hnds v hv _ (.tail _ (.tail _ (.head _)))); lia)
        have q2'' : v.sa ≠ sn := neN (by have := a1' _ (hnds v hv _ (.tail _ (.tail _ (.head _)))); lia)
        have q4 : S.n2i ≠ sn := neN (by have := a1' _ hn2; lia)
        have hlen1 : seen.length ≤ 1000 := Nat.le_trans (List.Nodup.length_le_of_subset hsn1 (fun k hk => Dd1.key k hk)) (by rw [List.length_map]; exact hsz)
        refine' inner_cut (fun n' s' => ∃ seen fin fs, FcS PySem.Challenge.rw_tv0044_02.row.prog w (Mine.hd.heap_1 w.params) p loose mean mg mb (ktrTop dp un gd cn cs L a ccd cl outer) base (envX cn cs L a ccd cl :: outer) g1 L1 s S.nds ((I, oI') :: news1) I stk its sn nd S.n2i seen fs (fun m => True) s' ∧
            Dfs (scOf S.nds) (S.nds.map (·.key)) seen fin none (fs.map Fm.pl) ∧ seen.Nodup ∧ muS (scOf S.nds) (S.nds.map (·.key)) seen + muF (scOf S.nds) (fs.map Fm.pl) ≤ n ∧ (∀ k, k ∈ seen0 → k ∈ seen) ∧ key ∈ seen ∧ fs.length ≤ n') (fun inner => ?fcMain) (fun n4 s4 h4 => ?fcIn)
        case fcMain =>
          rcases Decidable.em (v.key ∈ seen) with hin | hin
          · have hS : Sf v.key = true := (c3'' _).mpr hin
            rcases Decidable.em (v.key ∈ fs.map (·.nd.key)) with hst | hst
            · have hvb : (valueAt kvs v.key).isSome = true := by rw [valueAt_some, c4''.keys]; simpa using hst
              obtain ⟨f, hf, hfk⟩ := List.mem_map.mp hst
              obtain ⟨fa, fb, rfl⟩ := List.append_of_mem hf
              have hnodk : ((fa ++ f :: fb).map (·.nd.key)).Nodup := by
                have := Dd1.nod
                rw [List.map_map] at this
                exact this
              obtain ⟨pt, hpt⟩ := KvOf.at c4'' hnodk
              rw [hfk] at hpt
              have hring : Ring (sc := scOf S.nds) (v.key :: (fa.map (·.nd.key)).reverse ++ [v.key]) := by
                have Dd2 := Dd1
                rw [List.map_append, List.map_cons, show Fm.pl f = (v.key, f.pos) from by rw [← hfk]; rfl] at Dd2
                have := Dd2.ring
                rw [List.map_map] at this
                exact this
              have hstr : StrsAre (List.drop fb.length svs ++ [Value.str v.key tn]) (v.key :: (fa.map (·.nd.key)).reverse ++ [v.key]) := by
                refine StrsAre.append' ?_ (.cons _ _ .nil)
                have := StrsAre.drop' c5' fb.length
                rw [List.map_append, List.map_cons, List.reverse_append, List.reverse_cons, List.append_assoc, List.drop_left' (by simp), hfk] at this
                exact this
              have hkeys : ∀ x ∈ (v.key :: (fa.map (·.nd.key)).reverse ++ [v.key]), x ∈ S.nds.map (·.key) := by
                intro x hx
                have hvk : v.key ∈ S.nds.map (·.key) := List.mem_map.mpr ⟨v, hv, rfl⟩
                rcases List.mem_append.mp hx with hx | hx
                · rcases List.mem_cons.mp hx with rfl | hx
                  · exact hvk
                  · refine Dd1.key _ ((Dd1.see _).mpr (.inr ?_))
                    rw [List.map_append, List.map_append, List.map_map]
                    exact List.mem_append_left _ (List.mem_reverse.mp hx)
                · rw [List.mem_singleton.mp hx]; exact hvk
              walk_at "go"
              rename_i slD slh sll l5 h5 l15 caD cah caF caN cal
              dsimp only [PostS]
              refine q9 _ _ ?_
              (try dsimp only)
              walk_at "go"
              refine ⟨_, _, _, _, T2, caF, caN, fun h0' kT F9 N9 kB kX kP kD => ?_⟩
              refine ring_ _ _ _ _ _ _ kT hring hkeys hstr F9 ?_ ?_ kB kX kP kD
              · intro q hq
                rcases List.mem_cons.mp hq with rfl | hq
                · exact N9 _ (.head _)
                · rw [hl] at hq
                  exact N9 _ (.tail _ (.tail _ (.tail _ (hY2 _ (.tail _ hq)))))
              · refine Sep.cons (by rw [hl]; exact hs) fun q hq => ?_
                rw [hl] at hq
                exact cal _ (.tail _ (.tail _ (hY2 _ (.tail _ hq))))
            --[
            · have hvb : (valueAt kvs v.key).isSome = false := by rw [valueAt_some, c4''.keys]; simpa using hst
              walk_at "go"
              rename News _ _ _ _ => N4
              rename Fr _ _ _ _ => F4
              have hoff : v.key ∉ (fs.map Fm.pl).map (·.1) := fun h => hst ((hmemk _).mp h)
              refine whl_start 0 (inner fs.length _ ?ih0)
              case ih0 =>
                refine ⟨seen, fin1, fs, .mk T2 B2 X2 P2 D2 F4 N4 hs2 hY2 c2 m0 m1 m2 m3 m4 trivial, Dd1.skip hin hoff, hsn1, hmu, hmono, ?_, Nat.le_refl _⟩
                rcases hor with h | h
                · exact h
                · exact h ▸ hin
            --]
          --[
          · have hS : Sf v.key = false := by
              cases hh : Sf v.key with
              | false => rfl
              | true => exact absurd ((c3'' _).mp hh) hin
            walk_at "go"
            rename_i t4 t3 hp3 o9 hs9 t2 itI ith itl nxM nxh nxl hp2 t1 hp1 o8 hd8 t0 hp0 F4 N4
            have hoff : v.key ∉ fs.map (·.nd.key) := fun h => hin ((Dd1.see _).mpr (.inr ((hmemk _).mpr h)))
            have w1 : @LT.lt Nat _ I itI := itl _ (mem_upd_ne (hY2 _ (.head _)) i3.symm)
            have w2 : @LT.lt Nat _ itI nxM := nxl _ (.head _)
            have w3 : itI ≠ stk := neN (by lia)
            have w4 : itI ≠ its := neN (by lia)
            have w5 : itI ≠ nd := neN (by lia)
            have w6 : nxM ≠ stk := neN (by lia)
            have w7 : nxM ≠ its := neN (by lia)
            have w8 : nxM ≠ nd := neN (by lia)
            refine whl_start 0 (inner (fs.length + 1) _ ?ih0)
            case ih0 =>
              refine ⟨v.key :: seen, fin1, ⟨v, 0, nxM, itI⟩ :: fs, .mk T2 B2 X2 P2 D2 F4 N4 ?ss ?yy ?cc m0 m1 m2 m3 m4 trivial, Dd1.push hin (List.mem_map.mpr ⟨v, hv, rfl⟩), List.nodup_cons.mpr ⟨hin, hsn1⟩, ?mu, fun k hk => .tail _ (hmono k hk), ?_, Nat.le_refl _⟩
              case mu =>
                have q5 := muS_push (sc := scOf S.nds) hin (List.mem_map.mpr ⟨v, hv, rfl⟩ : v.key ∈ S.nds.map (·.key))
                have q6 := muF_push (sc := scOf S.nds) (n := v.key) (fr := fs.map Fm.pl)
                rw [List.map_cons, show Fm.pl ⟨v, 0, nxM, itI⟩ = (v.key, 0) from rfl]
                lia
              case ss => walk_at "sep"
              case yy =>
                rintro ⟨b, o⟩ hq
                have hq' := hY2 _ hq
                obtain ⟨y1, y2, y3, y4⟩ := hYn _ hq
                dsimp only at y1 y2 y3 y4
                k_mem
              case cc =>
                refine ⟨⟨_, _, by k_mem, by rw [List.map_cons, List.reverse_cons]; exact StrsAre.append' c5' (.cons _ _ .nil)⟩, ⟨itn + 1, by rw [List.map_cons, List.reverse_cons]; k_mem⟩, ?_, ⟨o9, _, by k_mem, by rw [hS, if_neg (by decide)] at hs9; exact hs9, fun k => ?_⟩, ⟨o8, _, by k_mem, hd8, ?_⟩, ?_⟩
                · intro f' hf'
                  rcases List.mem_cons.mp hf' with rfl | hf'
                  · exact ⟨mem_upd_ne (mem_upd_ne (mem_upd_ne (List.Mem.head _) w7) w8) w6, mem_upd_ne (mem_upd_ne (mem_upd_ne (List.mem_cons_of_mem _ (List.Mem.head _)) w4) w5) w3, hv, w1, by dsimp only; lia⟩
                  · obtain ⟨x1, x2, x3, x4, x5⟩ := c2.fms f' hf'
                    have z3 : f'.it ≠ stk := neN (by lia)
                    have z4 : f'.it ≠ its := neN (by lia)
                    have z5 : f'.it ≠ nd := neN (by lia)
                    have z9 : f'.it ≠ sn := neN (by lia)
                    have z6 : f'.mw ≠ stk := neN (by lia)
                    have z7 : f'.mw ≠ its := neN (by lia)
                    have z8 : f'.mw ≠ nd := neN (by lia)
                    have z0 : f'.mw ≠ sn := neN (by lia)
                    exact ⟨by k_mem, by k_mem, x3, x4, x5⟩
                · rw [List.mem_cons, Bool.or_eq_true, c3'' k, decide_eq_true_eq, Or.comm]
                · rw [hl5]
                  exact KvOf.push (f := ⟨v, 0, nxM, itI⟩) c4'' hoff
                · rw [List.map_cons, List.nodup_cons]
                  refine ⟨fun hm => ?_, c2.nod⟩
                  obtain ⟨f', hf', z⟩ := List.mem_map.mp hm
                  obtain ⟨x1, x2, x3, x4, x5⟩ := c2.fms f' hf'
                  have z9 : f'.it ≠ sn := neN (by lia)
                  have zz : @LT.lt Nat _ f'.it itI := itl _ (mem_upd_ne x2 z9)
                  dsimp only at z
                  rw [z] at zz
                  exact Nat.lt_irrefl _ zz
              · rcases hor with h | h
                · exact .tail _ h
                · exact h ▸ .head _
          --]
        case fcIn =>
          refine whileS (fun n' s' => ∃ seen fin fs, FcS PySem.Challenge.rw_tv0044_02.row.prog w (Mine.hd.heap_1 w.params) p loose mean mg mb (ktrTop dp un gd cn cs L a ccd cl outer) base (envX cn cs L a ccd cl :: outer) g1 L1 s S.nds ((I, oI') :: news1) I stk its sn nd S.n2i seen fs (fun m => True) s' ∧
            Dfs (scOf S.nds) (S.nds.map (·.key)) seen fin none (fs.map Fm.pl) ∧ seen.Nodup ∧ muS (scOf S.nds) (S.nds.map (·.key)) seen + muF (scOf S.nds) (fs.map Fm.pl) ≤ n ∧ (∀ k, k ∈ seen0 → k ∈ seen) ∧ key ∈ seen ∧ fs.length ≤ n') (by with_unfolding_all passes_own) ?iturn n4 h4
          clear h4
          (try clear F2); (try clear N2); (try clear T2); (try clear B2); (try clear X2); (try clear P2); (try clear D2); (try clear hs2); (try clear hY2); (try clear c2); (try clear m0); (try clear m1); (try clear m2); (try clear m3); (try clear m4); (try clear c3); (try clear c3'); (try clear c3''); (try clear c4); (try clear c4'); (try clear c4''); (try clear c5); (try clear c5'); (try clear c6); (try clear hval); (try clear hvx); (try clear hvd); (try clear hvs); (try clear hn2Z); (try clear q1); (try clear q2); (try clear q1'); (try clear q1''); (try clear q2'); (try clear q2''); (try clear q3); (try clear q4); (try clear hfsl); (try clear hl5); (try clear hz5); (try clear hz6); (try clear hz7); (try clear hmemk)
          --[
          rintro n' s4 ⟨seen, fin1, fs, H, Dd1, hsn1, hmu, hmono, hks, hln⟩ againI
          cases H with
          | @mk gZ mZ Z hZ tkZ T2 B2 X2 P2 D2 F2 N2 hs2 hY2 c2 m0 m1 m2 m3 m4 hm2 =>
          obtain ⟨o2, kvs, c4, c4', c4''⟩ := c2.dct
          obtain ⟨svs, svn, c5, c5'⟩ := c2.stk
          obtain ⟨itn, c6⟩ := c2.its
          obtain ⟨o1, Sf, c3, c3', c3''⟩ := c2.set
          cases fs with
          | nil =>
            --[
            obtain rfl := StrsAre.nil_inv c5'
            walk_at "go"
            dsimp only [PostS]
            refine ⟨j9 _ ⟨seen, fin1, oI', .mk T2 B2 X2 P2 D2 (by assumption) (by assumption) hs2 hY2 c2 m0 m1 m2 m3 m4 trivial, Dd1, hsn1, fun j k hj hk => ?_, k3, k4⟩⟩
            rcases Nat.lt_succ_iff_lt_or_eq.mp hj with hj | rfl
            · exact hmono _ (hall j k hj hk)
            · rw [hkey] at hk
              cases hk
              exact hks
            --]
          | cons f r =>
            obtain ⟨ma, mit, hfn, hIf, hIm⟩ := c2.fms f (.head _)
            rw [List.map_cons, List.reverse_cons] at c5' c6
            obtain ⟨us, ut, rfl, c5''⟩ := strs_snoc c5'
            have hfl : (W.listOf f.nd.svs.toArray f.nd.sn) = (W.listOf f.nd.svs.toArray f.nd.sn) := rfl
            have hvs : (f.nd.sa, W.listOf f.nd.svs.toArray f.nd.sn) ∈ Z := hY2 _ (.tail _ (hnds f.nd hfn _ (.tail _ (.tail _ (.head _)))))
            have hfsl : (f :: r).length ≤ 1000 := by
              have := List.Nodup.length_le_of_subset Dd1.nod (fun k hk => Dd1.key k ((Dd1.see k).mpr (.inr hk)))
              simp at this
              simp
              lia
            have hzu : us.length ≤ 1000000 := by rw [StrsAre.length c5'']; simp at hfsl ⊢; lia
            have hzr : (List.map (fun f => Value.ref f.mw) r).reverse.length ≤ 1000000 := by simp at hfsl ⊢; lia
            have hsc : scOf S.nds f.nd.key = f.nd.succ := scOf_nd hnd hfn
            have nodk : f.nd.key ∉ r.map (·.nd.key) := by
              have := Dd1.nod
              rw [List.map_cons, List.map_cons, List.nodup_cons, List.map_map] at this
              exact this.1
            have hvb : (valueAt kvs f.nd.key).isSome = true := by rw [valueAt_some, c4''.keys]; simp
            have hz7 : kvs.length ≤ sizeLine := seven_le (by rw [← List.length_map (f := (·.1)), c4''.keys]; simp at hfsl ⊢; lia)
            have e1 : f.it ≠ stk := neN (by lia)
            have e2 : f.it ≠ its := neN (by lia)
            have e3 : f.it ≠ sn := neN (by lia)
            have e4 : f.it ≠ nd := neN (by lia)
            have e5 : f.it ≠ I := neN (by lia)
            have e6 : f.mw ≠ f.it := ne_obj hs2 ma mit (by simp)
            walk_at "go"
            rename News _ _ _ _ => N4
            rename Fr _ _ _ _ => F4
            cases hx : (scOf S.nds f.nd.key)[f.pos]? with
            | some c =>
              obtain ⟨ct, hct⟩ := StrsAre.get (ok.nds f.nd hfn) f.pos c (by rw [← hsc]; exact hx)
              refine callWith_mw (N4 _ ma).1 (mw_item F4 N4 hs2 ma mit hvs hct fun h6 F6 N6 => ?_)
              walk_at "go"
              rename News _ _ _ _ => N9
              rename Fr _ _ _ _ => F9
              refine again _ _ ?lt ⟨seen, fin1, { f with pos := f.pos + 1 } :: r, c, .mk T2 B2 X2 P2 D2 F9 N9 hs2.upd ?yy ?cc (by walk_at "loc") (by walk_at "loc") (by walk_at "loc") (by walk_at "loc") (by walk_at "loc") ⟨ct, by walk_at "loc"⟩, Dd1.next hx, hsn1, ?ky, Nat.le_refl _, hmono, .inl hks⟩
              case lt =>
                have := muF_next (r := r.map Fm.pl) hx
                rw [List.map_cons] at hmu ⊢
                have e8 : (f.nd.key, f.pos) = Fm.pl f := rfl
                have e9 : Fm.pl { f with pos := f.pos + 1 } = (f.nd.key, f.pos + 1) := rfl
                rw [e9]
                rw [e8] at this
                lia
              case ky => exact hcl f.nd hfn c (by rw [← hsc]; exact List.mem_of_getElem? hx)
              case yy =>
                rintro ⟨b, o⟩ hq
                exact mem_upd_ne (hY2 _ hq) (neN (by have := hYb _ hq; dsimp only at this; lia))
              case cc =>
                refine ⟨⟨us ++ [.str f.nd.key ut], svn, mem_upd_ne c5 e1.symm, by rw [List.map_cons, List.reverse_cons]; exact c5'⟩, ⟨itn, ?_⟩, ?_, ⟨o1, Sf, mem_upd_ne c3 e3.symm, c3', c3''⟩, ⟨o2, kvs, mem_upd_ne c4 e4.symm, c4', KvOf.same c4'' rfl⟩, c2.nod⟩
                · rw [List.map_cons, List.reverse_cons]
                  exact mem_upd_ne c6 e2.symm
                · intro f' hf'
                  rcases List.mem_cons.mp hf' with rfl | hf'
                  · exact ⟨mem_upd_ne ma e6, mem_upd_self mit, hfn, hIf, hIm⟩
                  · obtain ⟨x1, x2, x3, x4, x5⟩ := c2.fms f' (.tail _ hf')
                    refine ⟨mem_upd_ne x1 (ne_obj hs2 x1 mit (by simp)), mem_upd_ne x2 fun z => ?_, x3, x4, x5⟩
                    have := c2.nod
                    rw [List.map_cons, List.nodup_cons] at this
                    exact this.1 (List.mem_map.mpr ⟨f', hf', z⟩)
            | none =>
              have hno : f.nd.svs[f.pos]? = none := by
                rw [List.getElem?_eq_none_iff, StrsAre.length (ok.nds f.nd hfn), ← hsc]
                exact List.getElem?_eq_none_iff.mp hx
              refine callWith_mw (N4 _ ma).1 (mw_end F4 N4 hs2 ma mit hvs hno rfl fun h6 h7 e F6 N6 hx6 => ?_)
              refine caught_new0 (X := "StopIteration") (T' := "StopIteration") hx6 F6 N6 B2 XB TB D2 T2 ?ex PyProof.Rows.Boot.«StopIteration» (by decide) stop_exc stop_tup stop_sub ?_
              case ex => k_is
              intro h8 g8 T8 F8 N8 B8 X8 P8 D8
              walk_at "go"
              rename News _ _ _ _ => N9
              rename Fr _ _ _ _ => F9
              rename Obj.IsDictOf _ _ _ => hd9
              refine againI _ _ ?lt ⟨seen, fin1 ++ [f.nd.key], r, .mk T8 B8 X8 P8 D8 F9 N9 ?ss ?yy ?cc m0 m1 m2 m3 m4 trivial, Dd1.pop hx, hsn1, Nat.le_trans (Nat.add_le_add_left muF_pop _) hmu, hmono, hks, Nat.le_refl _⟩
              case lt => simp at hln; lia
              case ss => walk_at "sep"
              case yy =>
                rintro ⟨b, o⟩ hq
                have hq' := hY2 _ hq
                obtain ⟨y1, y2, y3, y4⟩ := hYn _ hq
                have y5 : b ≠ f.it := neN (by have := hYb _ hq; dsimp only at this; lia)
                dsimp only at y1 y2 y3 y4
                k_mem
              case cc =>
                refine ⟨⟨us, _, by k_mem, c5''⟩, ⟨_, by k_mem⟩, ?_, ⟨o1, Sf, by k_mem, c3', c3''⟩, ⟨_, _, by k_mem, hd9, KvOf.pop c4'' nodk⟩, ?_⟩
                · intro f' hf'
                  obtain ⟨x1, x2, x3, x4, x5⟩ := c2.fms f' (.tail _ hf')
                  have z1 : f'.it ≠ f.it := fun z => by
                    have := c2.nod
                    rw [List.map_cons, List.nodup_cons] at this
                    exact this.1 (List.mem_map.mpr ⟨f', hf', z⟩)
                  have z2 : f'.mw ≠ f.it := ne_obj hs2 x1 mit (by simp)
                  have z3 : f'.it ≠ stk := neN (by lia)
                  have z4 : f'.it ≠ its := neN (by lia)
                  have z5 : f'.it ≠ nd := neN (by lia)
                  have z6 : f'.mw ≠ stk := neN (by lia)
                  have z7 : f'.mw ≠ its := neN (by lia)
                  have z8 : f'.mw ≠ nd := neN (by lia)
                  exact ⟨by k_mem, by k_mem, x3, x4, x5⟩
                · exact (List.nodup_cons.mp c2.nod).2
          --]
end
end
section
local macro_rules | `(tactic| walk_at "call type:bool") => `(tactic| (k_here; (with_reducible show wpAny _ _ (call (Value.type "bool") [Value.ref _]) _ _ _); k_dflt (refine' bool_M ?N ?m ?z ?_; (case N => k_asm); (case m => k_mem); (case z => first | assumption | lia); k_whole)))
local macro_rules | `(tactic| walk_at "call type:tuple") => `(tactic| (k_here; (with_reducible show wpAny _ _ (call (Value.type "tuple") [Value.ref _]) _ _ _); k_dflt (refine' tuple_M ?F ?N ?m ?z ?_; (case F => k_asm); (case N => k_asm); (case m => k_mem); (case z => first | assumption | lia); k_whole); intro tuD tuh tuF tuN tul; (try k_sweep)))
local macro_rules | `(tactic| walk_at "call builtin:list.clear") => `(tactic| (k_here; (with_reducible show wpAny _ _ (call (Value.builtin _) [Value.ref _]) _ _ _); k_dflt (refine' clear_M ?F ?N ?s ?m ?z ?ne ?_; (case F => k_asm); (case N => k_asm); (case m => k_mem); (case s => walk_at "sep"); (case z => first | assumption | lia); (case ne => assumption); k_whole); intro clh clF clN; (try k_sweep)))
local macro_rules | `(tactic| walk_at "subscriptTail") => `(tactic| (k_here; (with_reducible show wpAny _ _ (subscriptTail _ _ (Value.ref _) (Value.str _ _)) _ _ _); k_dflt (refine' kda_item (knd := PySem.strKind _ _) ?N ?m ?d (strKind_is _ _ _ _) ?l ?_; (case N => k_asm); (case m => k_mem); (case d => assumption); (case l => assumption); k_whole)))
local macro_rules | `(tactic| walk_at "setAttr ref") => `(tactic| (k_here; k_dflt (refine' set_dict ?k1 ?k2 ?k3 ?k4 ?k5 ?k6 ?k7 ?k8 ?k9 ?k10 ?k11 ?k12 ?k13 ?_; (case k1 => k_asm); (case k2 => k_asm); (case k3 => k_asm); (case k4 => k_inst); (case k5 => exact rfl); (case k6 => k_is); (case k7 => k_is); (case k8 => k_is); (case k9 => k_is); (case k10 => k_get); (case k11 => first | exact put_rdy | exact put_npo | exact put_nfi); (case k12 => k_upd); (case k13 => exact Nat.le_of_ble_eq_true rfl); k_whole); intro seh seF seN; (try k_sweep)))
local macro_rules | `(tactic| walk_at "stop") => `(tactic| (with_reducible show wpAny _ _ (pyIter _) _ _ _))
local macro_rules | `(tactic| walk_at "getMethod ref") => `(tactic| (k_here; (with_reducible show wpAny _ _ (getMethod (Value.ref _) (PySem.Str.ofString "values") _) _ _ _); k_dflt (refine' values_method (knd := PySem.strKind _ _) ?k1 ?k2 ?k3 ?_; (case k1 => k_asm); (case k2 => k_mem); (case k3 => assumption); k_whole)))
local macro_rules | `(tactic| walk_at "call builtin:dict.values") => `(tactic| (k_here; (with_reducible show wpAny _ _ (call _ [Value.ref _]) _ _ _); k_dflt (refine' values_M (knd := PySem.strKind _ _) ?F ?N ?k2 ?k3 ?k4 ?_; (case F => k_asm); (case N => k_asm); (case k2 => k_mem); (case k3 => assumption); (case k4 => assumption); k_whole); intro vwV vwh vwF vwN vwl))
local macro_rules | `(tactic| walk_at "stop") => `(tactic| (with_reducible show wpAny _ _ (call (Value.ref 127) _) _ _ _))
section
theorem anew_Ops_02 : True := by w_top off; trivial
theorem perm2 {α : Type} {a b : α} {c r : List α} : (a :: b :: (c ++ r)).Perm (c ++ a :: b :: r) := (List.Perm.cons a List.perm_middle.symm).trans List.perm_middle.symm
section
variable {w : World} {p : Program} {loose : List Str} {mean : ExcName → Option Value} {mg mb : Str → Option Value}
  {dp un : Nat} {gd : Option (List Code)} {cn : Str} {cs : Scope} {a : Addr} {ccd : Value} {cl : List (Str × Addr)} {outer : List Env} {A₀ : Around} {base h₀ : Heap} {L : Addr} {m : Str → Option Value} {s : Shared}
    {Q E : Value → Shared → Prop}
  (B : Below A₀ base outer h₀) (F : Fr h₀ L s.heap m) (X : (Mine.hd.heap_1 w.params).In h₀) (T : Top p loose mean mg mb h₀) (hk : cs.kind = .function)
include B F X T hk
--<
theorem active_tells (S : So) (rest : List (Addr × Obj)) (N : News h₀ L s.heap (S.cells 137 40 ++ rest)) (hs : Sep (S.cells 137 40 ++ rest)) (ok : S.ok PySem.Challenge.rw_tv0044_02.row.prog w) {ra : Addr} {rvs : List Value} {rn : Nat} (hr : S.rdy = some (ra, rvs, rn)) (hz : S.rds.length ≤ 10000)
  (hdp : dp + 2 < recursionLimit) (hun : un + 16 < cLine)
  (ret : ∀ h' tk', Fr h₀ L h' m → News h₀ L h' (S.cells 137 40 ++ rest) → Q (.bool (decide (S.nfi < S.npo) || !S.rds.isEmpty)) { s with heap := h', toks := tk' }) :
    wpAny (model PySem.Challenge.rw_tv0044_02.row.prog w) (ktrTop dp un gd cn cs L a ccd cl outer) (call (.ref 106) [.ref S.x]) Q E s := by
  revert X; k_fill; intro X
  have hrs : StrsAre rvs S.rds := by have := ok.rds; rw [hr] at this; exact this
  have hzz : rvs.length ≤ 1000000 := by rw [StrsAre.length hrs]; lia
  have hemp : rvs.isEmpty = S.rds.isEmpty := by
    have := StrsAre.length hrs
    cases rvs <;> cases hS : S.rds <;> simp_all
  have hx : (S.x, instObj 137 S.dx) ∈ S.cells 137 40 ++ rest := List.mem_append_left _ (.head _)
  have hdx : (S.dx, dictOf (sorterEs S.hs S.tk S.n2i (.ref ra) (.int S.npo S.t1) (.int S.nfi S.t2)) S.dn) ∈ S.cells 137 40 ++ rest := List.mem_append_left _ (So.mem_dx1 hr)
  have hra : (ra, W.listOf rvs.toArray rn) ∈ S.cells 137 40 ++ rest := List.mem_append_left _ (So.mem_ra hr)
  generalize hl : S.cells 137 40 ++ rest = news1 at N hs hx hdx hra ret
  refine wpAny_call ?_
  k_dflt ktr_enter
  walk_at "go"
  all_goals refine (?_ : ∀ h' tk' b, b = (decide (S.nfi < S.npo) || !S.rds.isEmpty) → Fr h₀ L h' m → News h₀ L h' news1 → Q (.bool b) { s with heap := h', toks := tk' }) _ _ _ ?_ (by assumption) (by assumption)
  · rintro h' tk' b rfl F N
    exact ret h' tk' F N
  · rw [decide_eq_true (by assumption)]; rfl
  · rintro h' tk' b rfl F N
    exact ret h' tk' F N
  · rw [decide_eq_false (by assumption), hemp]; rfl
theorem ready_tells (S : So) (rest : List (Addr × Obj)) (N : News h₀ L s.heap (S.cells 137 40 ++ rest)) (hs : Sep (S.cells 137 40 ++ rest)) (ok : S.ok PySem.Challenge.rw_tv0044_02.row.prog w) {ra : Addr} {rvs : List Value} {rn : Nat} (hr : S.rdy = some (ra, rvs, rn)) (hz : S.rds.length ≤ 10000)
  (hne : S.rds ≠ []) (hin : ∀ k ∈ S.rds, k ∈ S.nds.map (·.key)) (hdp : dp + 2 < recursionLimit) (hun : un + 16 < cLine)
  (ret : ∀ h' tk' t nds' rn' t1', ({ S with nds := nds', rdy := some (ra, [], rn'), rds := [], npo := S.npo + S.rds.length, t1 := t1' } : So).ok PySem.Challenge.rw_tv0044_02.row.prog w → nds'.map Nd.pn = outG (S.nds.map Nd.pn) S.rds → nds'.map Nd.sk = S.nds.map Nd.sk →
    Fr h₀ L h' m → News h₀ L h' ((t, tupOf rvs.toArray 0) :: (({ S with nds := nds', rdy := some (ra, [], rn'), rds := [], npo := S.npo + S.rds.length, t1 := t1' } : So).cells 137 40 ++ rest)) →
    Sep ((t, tupOf rvs.toArray 0) :: (({ S with nds := nds', rdy := some (ra, [], rn'), rds := [], npo := S.npo + S.rds.length, t1 := t1' } : So).cells 137 40 ++ rest)) → Q (.ref t) { s with heap := h', toks := tk' }) :
    wpAny (model PySem.Challenge.rw_tv0044_02.row.prog w) (ktrTop dp un gd cn cs L a ccd cl outer) (call (.ref 99) [.ref S.x]) Q E s := by
  revert X; k_fill; intro X
  have hrs : StrsAre rvs S.rds := by have := ok.rds; rw [hr] at this; exact this
  have hzz : rvs.length ≤ 16000 := by rw [StrsAre.length hrs]; lia
  have hzy : rvs.length ≤ 1000000 := by lia
  have hne' : rvs ≠ [] := fun e => hne (List.length_eq_zero_iff.mp (by rw [← StrsAre.length hrs, e]; rfl))
  have hx : (S.x, instObj 137 S.dx) ∈ S.cells 137 40 ++ rest := List.mem_append_left _ (.head _)
  have hdx : (S.dx, dictOf (sorterEs S.hs S.tk S.n2i (.ref ra) (.int S.npo S.t1) (.int S.nfi S.t2)) S.dn) ∈ S.cells 137 40 ++ rest := List.mem_append_left _ (So.mem_dx1 hr)
  have hra : (ra, W.listOf rvs.toArray rn) ∈ S.cells 137 40 ++ rest := List.mem_append_left _ (So.mem_ra hr)
  generalize hl : S.cells 137 40 ++ rest = news1 at N hs hx hdx hra
  refine wpAny_call ?_
  k_dflt ktr_enter
  walk_at "go"
  rename_i tD th tl ha6 hb6 hc6 hd6
  rename News _ _ _ _ => N1
  rename Fr _ _ _ _ => F1
  rename Below _ _ _ _ => B'
  rename Top _ _ _ _ _ _ => T'
  rename Frag.In _ _ => X'
  have s1 : Sep ((tD, tupOf rvs.toArray 0) :: news1) := Sep.cons hs tl
  refine For_invVF F1 rfl rfl ?_
  walk1
  refine iterTup (vs := rvs) (ep := 0) (fun i m l => ∃ nds, l = (tD, tupOf rvs.toArray 0) :: (({ S with nds := nds } : So).cells 137 40 ++ rest) ∧ Sep l ∧ ({ S with nds := nds } : So).ok PySem.Challenge.rw_tv0044_02.row.prog w ∧
    nds.map Nd.pn = outG (S.nds.map Nd.pn) (S.rds.take i) ∧ nds.map Nd.sk = S.nds.map Nd.sk ∧ m (Str.ofString "self") = some (.ref S.x) ∧ m (Str.ofString "n2i") = some (.ref S.n2i) ∧ m (Str.ofString "result") = some (.ref tD))
    rfl (.inr fun i m l => ?_) F1 N1 ?_ ?_ ?_
  · rintro ⟨nds, rfl, _⟩
    exact .head _
  · exact ⟨S.nds, by rw [hl], s1, ok, rfl, rfl, by walk_at "loc", by walk_at "loc", by walk_at "loc"⟩
  · intro I i u m₁ news₁ h5 tk5 oI hu X99 hoff F5 N5
    refine hideQ fun T9 k9 => ?_
    obtain ⟨nds, rfl, s5, ok5, hg5, hk5, hm1, hm2, hm3⟩ := X99
    obtain ⟨y, t5, rfl, hy⟩ := StrsAre.item hrs i u hu
    have s5c : Sep ((I, oI) :: (tD, tupOf rvs.toArray 0) :: (({ S with nds := nds } : So).cells 137 40 ++ rest)) := s5.cons_ne hoff
    obtain ⟨na, v, nb, rfl, rfl⟩ := key_at (nds := nds) (k := y) (by rw [sk_keys hk5]; exact hin y (List.mem_of_getElem? hy))
    have hval := valueAt_nd (So.keys ok5) (v := v) (List.mem_append_right _ (.head _))
    have hdic := ok5.dict
    have N5' : News _ _ h5 (({ S with nds := na ++ v :: nb } : So).cells 137 40 ++ (I, oI) :: (tD, tupOf rvs.toArray 0) :: rest) := fun q hq => N5 q (perm2.mem_iff.mpr hq)
    have s5' := s5c.perm perm2
    clear N5 s5c s5 hoff
    have hvx : (v.x, ({ cls := .ref 40, dict := some v.dx, data := .plain, slots := [some (.str v.key v.kt), some (.int v.np v.pt), some (.ref v.sa)].toArray } : Obj)) ∈ ({ S with nds := na ++ v :: nb } : So).cells 137 40 ++ (I, oI) :: (tD, tupOf rvs.toArray 0) :: rest := List.mem_append_left _ (So.mem_nd (v := v) (List.mem_append_right _ (.head _)) (.head _))
    have hvd : (v.dx, dictOf [] 0) ∈ ({ S with nds := na ++ v :: nb } : So).cells 137 40 ++ (I, oI) :: (tD, tupOf rvs.toArray 0) :: rest := List.mem_append_left _ (So.mem_nd (v := v) (List.mem_append_right _ (.head _)) (.tail _ (.head _)))
    have hn2 : (S.n2i, S.n2o) ∈ ({ S with nds := na ++ v :: nb } : So).cells 137 40 ++ (I, oI) :: (tD, tupOf rvs.toArray 0) :: rest := List.mem_append_left _ (.tail _ (.tail _ (.head _)))
    generalize hl5 : ({ S with nds := na ++ v :: nb } : So).cells 137 40 ++ (I, oI) :: (tD, tupOf rvs.toArray 0) :: rest = news5 at N5' s5' hvx hvd hn2
    walk_at "go"
    rename News _ _ _ _ => N8
    rename Fr _ _ _ _ => F8
    rw [← hl5] at N8 s5'
    obtain ⟨N9, s9⟩ := news_nx (S := { S with nds := na ++ v :: nb }) (C := 137) (Ci := 40) (rest := (I, oI) :: (tD, tupOf rvs.toArray 0) :: rest) (v := v) (np' := -1) (pt' := _) N8 rfl s5' rfl
    have s10 := s9.perm perm2.symm
    have kn : ((na ++ v :: nb).map (·.key)).Nodup := So.keys ok5
    refine k9 _ _ ?_
    dsimp only [PostG]
    refine EndG.intro F8 (fun q hq => N9 q (perm2.mem_iff.mp hq)) (Sep.head s10) ⟨_, rfl, s10.tail, ok_put (S := { S with nds := na ++ v :: nb }) rfl ok5 rfl rfl (ok5.nds v (List.mem_append_right _ (.head _))), ?_, ?_, by walk_at "loc", by walk_at "loc", by walk_at "loc"⟩
    · have ht : S.rds.take (i + 1) = S.rds.take i ++ [v.key] := by rw [List.take_add_one, hy]; rfl
      rw [ht, outG_snoc, ← hg5]
      exact pn_setN kn (by simp [Nd.pn])
    · rw [sk_put]; exact hk5
  · rintro m₁ news₁ h9 tk9 ⟨nds, rfl, s9, ok9, hg9, hk9, hm1, hm2, hm3⟩ F9 N9
    dsimp only
    have N9' : News _ _ h9 (({ S with nds := nds } : So).cells 137 40 ++ (tD, tupOf rvs.toArray 0) :: rest) := fun q hq => N9 q (List.perm_middle.mem_iff.mp hq)
    have s9 := s9.perm List.perm_middle.symm
    clear N9
    have hx : (S.x, instObj 137 S.dx) ∈ ({ S with nds := nds } : So).cells 137 40 ++ (tD, tupOf rvs.toArray 0) :: rest := (List.mem_append_left _ (.head _))
    have hdx : (S.dx, dictOf (sorterEs S.hs S.tk S.n2i (.ref ra) (.int S.npo S.t1) (.int S.nfi S.t2)) S.dn) ∈ ({ S with nds := nds } : So).cells 137 40 ++ (tD, tupOf rvs.toArray 0) :: rest := (List.mem_append_left _ (So.mem_dx1 (S := { S with nds := nds }) hr))
    have hra : (ra, W.listOf rvs.toArray rn) ∈ ({ S with nds := nds } : So).cells 137 40 ++ (tD, tupOf rvs.toArray 0) :: rest := (List.mem_append_left _ (So.mem_ra (S := { S with nds := nds }) hr))
    have htD : (tD, tupOf rvs.toArray 0) ∈ ({ S with nds := nds } : So).cells 137 40 ++ (tD, tupOf rvs.toArray 0) :: rest := List.mem_append_right _ (.head _)
    have r1 : S.x ≠ ra := ne_obj s9 hx hra (by simp)
    have r2 : S.dx ≠ ra := ne_obj s9 hdx hra (by simp)
    have r3 : tD ≠ ra := ne_obj s9 htD hra (by simp)
    generalize hl9 : ({ S with nds := nds } : So).cells 137 40 ++ (tD, tupOf rvs.toArray 0) :: rest = news9 at N9' s9 hx hdx hra htD
    walk_at "go"
    rename News _ _ _ _ => N10
    rename Fr _ _ _ _ => F10
    rw [← hl9, upd_ra (S := { S with nds := nds }) (r := (ra, rvs, rn)) hr (by rw [hl9]; exact s9) [] (rn + 1) []] at N10
    have s11 : Sep (({ S with nds := nds, rdy := some (ra, [], rn + 1), rds := [] } : So).cells 137 40 ++ (tD, tupOf rvs.toArray 0) :: rest) := by
      rw [← hl9] at s9
      have := s9.upd (a := ra) (o := W.listOf #[] (rn + 1))
      rw [upd_ra (S := { S with nds := nds }) (r := (ra, rvs, rn)) hr s9 [] (rn + 1) []] at this
      exact this
    obtain ⟨N11, s12⟩ := news_dx (S := { S with nds := nds, rdy := some (ra, [], rn + 1), rds := [] }) ({ S with nds := nds, rdy := some (ra, [], rn + 1), rds := [], npo := S.npo + S.rds.length, t1 := _ }) N10 s11 (by rw [StrsAre.length hrs]; rfl) rfl rfl rfl rfl rfl rfl
    refine ret _ _ tD nds (rn + 1) _ ⟨ok9.dict, ok9.low, ok9.nds, .nil⟩ ?_ hk9 F10 (fun q hq => N11 q (List.perm_middle.mem_iff.mpr hq)) (s12.perm List.perm_middle)
    rw [hg9, StrsAre.length hrs, List.take_length]
-->
theorem done_code (S : So) (rest : List (Addr × Obj)) (N : News h₀ L s.heap (S.cells 137 40 ++ rest)) (hs : Sep (S.cells 137 40 ++ rest)) (ok : S.ok PySem.Challenge.rw_tv0044_02.row.prog w) {ra : Addr} {rvs : List Value} {rn : Nat} (hr : S.rdy = some (ra, rvs, rn))
  (vs : List Value) (ks : List Str) (hks : StrsAre vs ks) (hkz : ks.length ≤ 500) (hz : S.rds.length ≤ 10000) (hsz : S.nds.length ≤ 1000) (hsu : ∀ v ∈ S.nds, v.succ.length ≤ 1000) (hcl : ∀ v ∈ S.nds, ∀ c ∈ v.succ, c ∈ S.nds.map (·.key)) (hok : DoneOk (S.nds.map Nd.pn, S.rds) ks)
  (hdp : dp + 2 < recursionLimit) (hun : un + 16 < cLine)
  (ret : ∀ h' tk' nds' rvs' rn' rds' t2', ({ S with nds := nds', rdy := some (ra, rvs', rn'), rds := rds', nfi := S.nfi + ks.length, t2 := t2' } : So).ok PySem.Challenge.rw_tv0044_02.row.prog w → (nds'.map Nd.pn, rds') = ks.foldl doneOne (S.nds.map Nd.pn, S.rds) → nds'.map Nd.sk = S.nds.map Nd.sk →
    Fr h₀ L h' m → News h₀ L h' (({ S with nds := nds', rdy := some (ra, rvs', rn'), rds := rds', nfi := S.nfi + ks.length, t2 := t2' } : So).cells 137 40 ++ rest) →
    Sep (({ S with nds := nds', rdy := some (ra, rvs', rn'), rds := rds', nfi := S.nfi + ks.length, t2 := t2' } : So).cells 137 40 ++ rest) → Q .none { s with heap := h', toks := tk' }) :
    codeAny (model PySem.Challenge.rw_tv0044_02.row.prog w) (ktrTop dp un gd cn cs L a ccd cl outer) (.call (.ref 120) ⟨.ref S.x :: vs, []⟩) (fun r s' => match r with | .ok (.ret v) => Q v s' | .ok _ => False | .error e => E e s') s := by
  revert X; k_fill; intro X
  have hvl : vs.length ≤ 1000000 := by rw [StrsAre.length hks]; lia
  k_dflt (refine' code_rest (vs := vs) (pre := [(Str.ofString "self", Value.ref S.x)]) (nr := Str.ofString "nodes") ?k1 ?k2 ?k3 ?k4 ?k5 ?kA ?kF ?kK ?k6 ?k7 ?k8 ?kV ?kP ?kB ?_ ?c2 ?c3 ?c4 ?c5; (case kA => exact rfl); (case kF => exact rfl); (case kK => assumption); (case k1 => k_asm); (case k2 => k_asm); (case k3 => k_asm); (case k4 => k_asm); (case k5 => k_asm); (case k6 => k_is); (case k7 => k_is); (case k8 => k_room); (case kV => exact bind_rest1 rfl rfl); (case kP => exact seven_le (by rw [StrsAre.length hks]; lia)); (case kB => exact fun _ => locs rfl); (case c5 => decide); (case c2 => exact rfl); (case c3 => exact rfl); (case c4 => exact rfl); k_whole)
  intro D' g' L' h' l1 FG' F' N' B' X' T'
  (try dsimp only); (try k_fold)
  have s0 : Sep (S.cells 137 40 ++ (D', tupOf vs.toArray 0) :: rest) := (Sep.cons hs l1).perm List.perm_middle.symm
  have N0 : News g' L' h' (S.cells 137 40 ++ (D', tupOf vs.toArray 0) :: rest) := fun q hq => N' q (List.perm_middle.mem_iff.mp hq)
  clear N'
  have hx : (S.x, instObj 137 S.dx) ∈ S.cells 137 40 ++ (D', tupOf vs.toArray 0) :: rest := List.mem_append_left _ (.head _)
  have hdx : (S.dx, dictOf (sorterEs S.hs S.tk S.n2i (.ref ra) (.int S.npo S.t1) (.int S.nfi S.t2)) S.dn) ∈ S.cells 137 40 ++ (D', tupOf vs.toArray 0) :: rest := List.mem_append_left _ (So.mem_dx1 hr)
  generalize hl : S.cells 137 40 ++ (D', tupOf vs.toArray 0) :: rest = news1 at N0 s0 hx hdx
  walk_at "go"
  rename News _ _ _ _ => N1
  rename Fr _ _ _ _ => F1
  refine For_invVF F1 rfl rfl ?_
  walk1
  refine iterTup (vs := vs) (ep := 0) (fun i m l => ∃ nds rvs rn rds t2, l = ({ S with nds := nds, rdy := some (ra, rvs, rn), rds := rds, nfi := S.nfi + (i : Nat), t2 := t2 } : So).cells 137 40 ++ (D', tupOf vs.toArray 0) :: rest ∧ Sep l ∧
    ({ S with nds := nds, rdy := some (ra, rvs, rn), rds := rds, nfi := S.nfi + (i : Nat), t2 := t2 } : So).ok PySem.Challenge.rw_tv0044_02.row.prog w ∧ (nds.map Nd.pn, rds) = (ks.take i).foldl doneOne (S.nds.map Nd.pn, S.rds) ∧ nds.map Nd.sk = S.nds.map Nd.sk ∧ rds.length ≤ S.rds.length + i * 1000 ∧
    m (Str.ofString "self") = some (.ref S.x) ∧ m (Str.ofString "n2i") = some (.ref S.n2i))
    rfl (.inr fun i m l => ?_) F1 N1 ?_ ?_ ?_
  · rintro ⟨nds, rvs, rn, rds, t2, rfl, _⟩
    exact List.mem_append_right _ (.head _)
  · refine ⟨S.nds, rvs, rn, S.rds, S.t2, ?_, s0, ?_, rfl, rfl, by lia, by walk_at "loc", by walk_at "loc"⟩
    · rw [← hl]
      unfold So.cells So.rcells So.dobj So.rv
      simp [hr]
      try exact ⟨rfl, rfl⟩
    · exact ⟨ok.dict, ok.low, ok.nds, by have := ok.rds; rw [hr] at this; exact this⟩
  · intro I i u m₁ news₁ h5 tk5 oI hu X99 hoff F5 N5
    refine hideQ fun T9 k9 => ?_
    obtain ⟨nds, rv1, rn1, rd1, tt1, rfl, s5, ok5, hg5, hk5, hz5, hm1, hm2⟩ := X99
    obtain ⟨y, t5, rfl, hy⟩ := StrsAre.item hks i u hu
    have hil : i < ks.length := (List.getElem?_eq_some_iff.mp hy).1
    obtain ⟨d1, d2⟩ := done_at hok hy
    rw [← hg5] at d1 d2
    dsimp only at d1 d2
    rw [keys_pn] at d2
    obtain ⟨na, v, nb, rfl, rfl⟩ := key_at d2
    have kn : ((na ++ v :: nb).map (·.key)).Nodup := So.keys ok5
    have hvm : v ∈ na ++ v :: nb := List.mem_append_right _ (.head _)
    rw [npOf_nd kn hvm] at d1
    have hval := valueAt_nd kn hvm
    have hdic := ok5.dict
    have hlow := ok5.low
    have s5c : Sep ((I, oI) :: (({ S with nds := na ++ v :: nb, rdy := some (ra, rv1, rn1), rds := rd1, nfi := S.nfi + (i : Nat), t2 := tt1 } : So).cells 137 40 ++ (D', tupOf vs.toArray 0) :: rest)) := s5.cons_ne hoff
    have N5' : News _ _ h5 (({ S with nds := na ++ v :: nb, rdy := some (ra, rv1, rn1), rds := rd1, nfi := S.nfi + (i : Nat), t2 := tt1 } : So).cells 137 40 ++ (I, oI) :: (D', tupOf vs.toArray 0) :: rest) := fun q hq => N5 q (List.perm_middle.mem_iff.mp hq)
    have s5' := s5c.perm List.perm_middle.symm
    clear N5 s5c s5 hoff
    generalize hS1 : ({ S with nds := na ++ v :: nb, rdy := some (ra, rv1, rn1), rds := rd1, nfi := S.nfi + (i : Nat), t2 := tt1 } : So) = S1 at N5' s5' ok5 hdic
    have e1 : S1.x = S.x := by rw [← hS1]
    have e2 : S1.n2i = S.n2i := by rw [← hS1]
    have e3 : S1.nds = na ++ v :: nb := by rw [← hS1]
    have hvx : (v.x, ({ cls := .ref 40, dict := some v.dx, data := .plain, slots := [some (.str v.key v.kt), some (.int (-1) v.pt), some (.ref v.sa)].toArray } : Obj)) ∈ S1.cells 137 40 ++ (I, oI) :: (D', tupOf vs.toArray 0) :: rest := by
      rw [← d1]
      exact List.mem_append_left _ (So.mem_nd (v := v) (e3 ▸ hvm) (.head _))
    have hvd : (v.dx, dictOf [] 0) ∈ S1.cells 137 40 ++ (I, oI) :: (D', tupOf vs.toArray 0) :: rest := List.mem_append_left _ (So.mem_nd (v := v) (e3 ▸ hvm) (.tail _ (.head _)))
    have hn2 : (S.n2i, S1.n2o) ∈ S1.cells 137 40 ++ (I, oI) :: (D', tupOf vs.toArray 0) :: rest := by
      rw [← e2]
      exact List.mem_append_left _ (.tail _ (.tail _ (.head _)))
    have hdic' : S1.n2o.IsDictOf (PySem.strKind PySem.Challenge.rw_tv0044_02.row.prog w) ((na ++ v :: nb).map Nd.pair) := by rw [← e3]; exact ok5.dict
    generalize hl5 : S1.cells 137 40 ++ (I, oI) :: (D', tupOf vs.toArray 0) :: rest = news5 at N5' s5' hvx hvd hn2
    walk_at "go"
    rename News _ _ _ _ => N6
    rename Fr _ _ _ _ => F6
    rw [← hl5] at N6 s5'
    obtain ⟨pq, N7, s7⟩ := news_nxE (S := S1) (C := 137) (Ci := 40) (rest := (I, oI) :: (D', tupOf vs.toArray 0) :: rest) (v := v) (-2) N6 e3 s5' rfl
    have ok7 := ok_put (S := S1) (v' := { v with np := -2, pt := pq }) e3 ok5 rfl rfl (ok5.nds v (by rw [e3]; exact hvm))
    clear N6 s5' hvx hvd hn2 hl5 hdic hdic'
    have hvok : StrsAre v.svs v.succ := ok5.nds v (by rw [e3]; exact hvm)
    subst hS1
    dsimp only at N7 s7 ok7
    have hvm2 : ({ v with np := -2, pt := pq } : Nd) ∈ na ++ { v with np := -2, pt := pq } :: nb := List.mem_append_right _ (.head _)
    have hvx2 : (v.x, ({ cls := .ref 40, dict := some v.dx, data := .plain, slots := [some (.str v.key v.kt), some (.int (-2) pq), some (.ref v.sa)].toArray } : Obj)) ∈ ({ S with nds := na ++ { v with np := -2, pt := pq } :: nb, rdy := some (ra, rv1, rn1), rds := rd1, nfi := S.nfi + (i : Nat), t2 := tt1 } : So).cells 137 40 ++ (I, oI) :: (D', tupOf vs.toArray 0) :: rest := List.mem_append_left _ (So.mem_nd hvm2 (.head _))
    have hvd2 : (v.dx, dictOf [] 0) ∈ ({ S with nds := na ++ { v with np := -2, pt := pq } :: nb, rdy := some (ra, rv1, rn1), rds := rd1, nfi := S.nfi + (i : Nat), t2 := tt1 } : So).cells 137 40 ++ (I, oI) :: (D', tupOf vs.toArray 0) :: rest := List.mem_append_left _ (So.mem_nd hvm2 (.tail _ (.head _)))
    refine For_invVF F6 rfl rfl ?_
    walk_at "go"
    have sk7 : (na ++ { v with np := -2, pt := pq } :: nb).map Nd.sk = S.nds.map Nd.sk := by rw [sk_put]; exact hk5
    refine iterList (vs := v.svs) (ep := v.sn) (fun j m l => ∃ nds rv rn rd, l = ({ S with nds := nds, rdy := some (ra, rv, rn), rds := rd, nfi := S.nfi + (i : Nat), t2 := tt1 } : So).cells 137 40 ++ (I, oI) :: (D', tupOf vs.toArray 0) :: rest ∧ Sep l ∧
      ({ S with nds := nds, rdy := some (ra, rv, rn), rds := rd, nfi := S.nfi + (i : Nat), t2 := tt1 } : So).ok PySem.Challenge.rw_tv0044_02.row.prog w ∧ (nds.map Nd.pn, rd) = (v.succ.take j).foldl lessS (setN ((na ++ v :: nb).map Nd.pn) v.key (-2), rd1) ∧ nds.map Nd.sk = S.nds.map Nd.sk ∧ rd.length ≤ rd1.length + j ∧
      m (Str.ofString "self") = some (.ref S.x) ∧ m (Str.ofString "n2i") = some (.ref S.n2i))
      rfl (.inr fun j m l => ?_) F6 N7 ?_ ?_ ?_
    · rintro ⟨nds, rv, rn, rd, rfl, _, _, _, hk, _⟩
      obtain ⟨v', hv', he⟩ := sk_mem (hk.trans sk7.symm) hvm2
      obtain ⟨_, _, _, _, h5, _, h7, h8⟩ := sk_eq he
      have := So.mem_nd (C := 137) (Ci := 40) (S := { S with nds := nds, rdy := some (ra, rv, rn), rds := rd, nfi := S.nfi + (i : Nat), t2 := tt1 }) hv' (.tail _ (.tail _ (.head _)))
      rw [h5, h7, h8] at this
      exact List.mem_append_left _ this
    · refine ⟨_, rv1, rn1, rd1, rfl, s7, ok7, ?_, sk7, Nat.le_refl _, by walk_at "loc", by walk_at "loc"⟩
      rw [pn_setN kn (v' := { v with np := -2, pt := pq }) (n := -2) rfl]; rfl
    · intro I2 j u2 m₂ news₂ h7 tk7 oI2 hu2 X99 hoff2 F8 N8
      refine hideQ fun T9 k9 => ?_
      obtain ⟨nds, rv, rn, rd, rfl, s8, ok8, hg8, hk8, hz8, hm3, hm4⟩ := X99
      obtain ⟨c, ct, rfl, hc⟩ := StrsAre.item hvok j u2 hu2
      have hck : c ∈ nds.map (·.key) := by
        obtain ⟨v0, hv0, he⟩ := sk_mem sk7.symm hvm2
        obtain ⟨_, h2, _⟩ := sk_eq he
        rw [sk_keys hk8]
        exact hcl v0 hv0 c (by rw [h2]; exact List.mem_of_getElem? hc)
      obtain ⟨ma, u, mb, rfl, rfl⟩ := key_at hck
      have kn2 : ((ma ++ u :: mb).map (·.key)).Nodup := So.keys ok8
      have hum : u ∈ ma ++ u :: mb := List.mem_append_right _ (.head _)
      have hval2 := valueAt_nd kn2 hum
      have s8c : Sep ((I2, oI2) :: (({ S with nds := ma ++ u :: mb, rdy := some (ra, rv, rn), rds := rd, nfi := S.nfi + (i : Nat), t2 := tt1 } : So).cells 137 40 ++ (I, oI) :: (D', tupOf vs.toArray 0) :: rest)) := s8.cons_ne hoff2
      have N8' : News _ _ h7 (({ S with nds := ma ++ u :: mb, rdy := some (ra, rv, rn), rds := rd, nfi := S.nfi + (i : Nat), t2 := tt1 } : So).cells 137 40 ++ (I2, oI2) :: (I, oI) :: (D', tupOf vs.toArray 0) :: rest) := fun q hq => N8 q (List.perm_middle.mem_iff.mp hq)
      have s8' := s8c.perm List.perm_middle.symm
      clear N8 s8c s8 hoff2
      generalize hS2 : ({ S with nds := ma ++ u :: mb, rdy := some (ra, rv, rn), rds := rd, nfi := S.nfi + (i : Nat), t2 := tt1 } : So) = S2 at N8' s8' ok8
      have e1 : S2.x = S.x := by rw [← hS2]
      have e2 : S2.n2i = S.n2i := by rw [← hS2]
      have e3 : S2.nds = ma ++ u :: mb := by rw [← hS2]
      have e4 : S2.rdy = some (ra, rv, rn) := by rw [← hS2]
      have hum' : u ∈ S2.nds := by rw [e3]; exact hum
      have hrv : StrsAre rv rd := by
        have := ok8.rds
        rw [e4] at this
        rw [← hS2] at this
        exact this
      have hux : (u.x, ({ cls := .ref 40, dict := some u.dx, data := .plain, slots := [some (.str u.key u.kt), some (.int u.np u.pt), some (.ref u.sa)].toArray } : Obj)) ∈ S2.cells 137 40 ++ (I2, oI2) :: (I, oI) :: (D', tupOf vs.toArray 0) :: rest := List.mem_append_left _ (So.mem_nd hum' (.head _))
      have hud : (u.dx, dictOf [] 0) ∈ S2.cells 137 40 ++ (I2, oI2) :: (I, oI) :: (D', tupOf vs.toArray 0) :: rest := List.mem_append_left _ (So.mem_nd hum' (.tail _ (.head _)))
      have hn22 : (S.n2i, S2.n2o) ∈ S2.cells 137 40 ++ (I2, oI2) :: (I, oI) :: (D', tupOf vs.toArray 0) :: rest := by
        rw [← e2]
        exact List.mem_append_left _ (.tail _ (.tail _ (.head _)))
      have hdic2 : S2.n2o.IsDictOf (PySem.strKind PySem.Challenge.rw_tv0044_02.row.prog w) ((ma ++ u :: mb).map Nd.pair) := by rw [← e3]; exact ok8.dict
      have hx2 : (S.x, instObj 137 S2.dx) ∈ S2.cells 137 40 ++ (I2, oI2) :: (I, oI) :: (D', tupOf vs.toArray 0) :: rest := by
        rw [← e1]
        exact List.mem_append_left _ (.head _)
      have hdx2 : (S2.dx, dictOf (sorterEs S2.hs S2.tk S2.n2i (.ref ra) (.int S2.npo S2.t1) (.int S2.nfi S2.t2)) S2.dn) ∈ S2.cells 137 40 ++ (I2, oI2) :: (I, oI) :: (D', tupOf vs.toArray 0) :: rest := List.mem_append_left _ (So.mem_dx1 e4)
      have hra2 : (ra, W.listOf rv.toArray rn) ∈ S2.cells 137 40 ++ (I2, oI2) :: (I, oI) :: (D', tupOf vs.toArray 0) :: rest := List.mem_append_left _ (So.mem_ra e4)
      have g1 : ra ≠ u.x := ne_obj s8' hra2 hux (by simp)
      have g2 : S.x ≠ u.x := ne_obj s8' hx2 hux (by simp)
      have g3 : S2.dx ≠ u.x := ne_obj s8' hdx2 hux (by simp)
      have g4 : u.dx ≠ u.x := ne_obj s8' hud hux (by simp)
      have hrz : rv.length ≤ 1000000 := by
        have h1 : v.succ.length ≤ 1000 := by
          obtain ⟨v0, hv0, he⟩ := sk_mem sk7.symm hvm2
          obtain ⟨_, h2, _⟩ := sk_eq he
          have := hsu v0 hv0
          rw [h2] at this
          exact this
        have h2 := (List.getElem?_eq_some_iff.mp hc).1
        rw [StrsAre.length hrv]
        lia
      generalize hl8 : S2.cells 137 40 ++ (I2, oI2) :: (I, oI) :: (D', tupOf vs.toArray 0) :: rest = news8 at N8' s8' hux hud hn22 hx2 hdx2 hra2
      walk_at "go"
      · rename News _ _ _ _ => N9
        rename Fr _ _ _ _ => F9
        rw [← hl8] at N9 s8'
        obtain ⟨pq2, N10, s10⟩ := news_nx_raE (S := S2) (C := 137) (Ci := 40) (rest := (I2, oI2) :: (I, oI) :: (D', tupOf vs.toArray 0) :: rest) (v := u) (r := (ra, rv, rn)) (u.np - 1) N9 e3 e4 s8' rfl (rd ++ [u.key])
        have ok10 := ok_put (S := S2) (v' := { u with np := u.np - 1, pt := pq2 }) e3 ok8 rfl rfl (ok8.nds u hum')
        have s11 := s10.perm List.perm_middle
        subst hS2
        refine k9 _ _ ?_
        dsimp only [PostG]
        refine EndG.intro F9 (fun q hq => N10 q (List.perm_middle.mem_iff.mpr hq)) (Sep.head s11) ⟨_, _, _, _, rfl, s11.tail, ⟨ok10.dict, ok10.low, ok10.nds, StrsAre.append' hrv (.cons _ _ .nil)⟩, ?_, ?_, by simp; lia, by walk_at "loc", by walk_at "loc"⟩
        · rw [foldl_take hc, ← hg8]
          unfold lessS
          dsimp only
          rw [npOf_addN (by rw [keys_pn]; exact List.mem_map.mpr ⟨u, hum, rfl⟩), npOf_nd kn2 hum, if_pos (by lia), pn_addN kn2 (v' := { u with np := u.np - 1, pt := pq2 }) (n := -1) (by simp [Nd.pn]; lia)]
        · rw [sk_put]; exact hk8
      · rename News _ _ _ _ => N9
        rename Fr _ _ _ _ => F9
        rw [← hl8] at N9 s8'
        obtain ⟨pq2, N10, s10⟩ := news_nxE (S := S2) (C := 137) (Ci := 40) (rest := (I2, oI2) :: (I, oI) :: (D', tupOf vs.toArray 0) :: rest) (v := u) (u.np - 1) N9 e3 s8' rfl
        have ok10 := ok_put (S := S2) (v' := { u with np := u.np - 1, pt := pq2 }) e3 ok8 rfl rfl (ok8.nds u hum')
        have s11 := s10.perm List.perm_middle
        subst hS2
        refine k9 _ _ ?_
        dsimp only [PostG]
        refine EndG.intro F9 (fun q hq => N10 q (List.perm_middle.mem_iff.mpr hq)) (Sep.head s11) ⟨_, _, _, _, rfl, s11.tail, ok10, ?_, ?_, by show rd.length ≤ _; lia, by walk_at "loc", by walk_at "loc"⟩
        · rw [foldl_take hc, ← hg8]
          unfold lessS
          dsimp only
          rw [npOf_addN (by rw [keys_pn]; exact List.mem_map.mpr ⟨u, hum, rfl⟩), npOf_nd kn2 hum, if_neg (by lia), pn_addN kn2 (v' := { u with np := u.np - 1, pt := pq2 }) (n := -1) (by simp [Nd.pn]; lia)]
        · rw [sk_put]; exact hk8
    · rintro m₂ news₂ h7 tk7 ⟨nds, rv, rn, rd, rfl, s8, ok8, hg8, hk8, hz8, hm3, hm4⟩ F8 N8
      dsimp only
      generalize hS2 : ({ S with nds := nds, rdy := some (ra, rv, rn), rds := rd, nfi := S.nfi + (i : Nat), t2 := tt1 } : So) = S2 at N8 s8 ok8
      have e1 : S2.x = S.x := by rw [← hS2]
      have e4 : S2.rdy = some (ra, rv, rn) := by rw [← hS2]
      have hx2 : (S.x, instObj 137 S2.dx) ∈ S2.cells 137 40 ++ (I, oI) :: (D', tupOf vs.toArray 0) :: rest := by
        rw [← e1]
        exact List.mem_append_left _ (.head _)
      have hdx2 : (S2.dx, dictOf (sorterEs S2.hs S2.tk S2.n2i (.ref ra) (.int S2.npo S2.t1) (.int S2.nfi S2.t2)) S2.dn) ∈ S2.cells 137 40 ++ (I, oI) :: (D', tupOf vs.toArray 0) :: rest := List.mem_append_left _ (So.mem_dx1 e4)
      generalize hl8 : S2.cells 137 40 ++ (I, oI) :: (D', tupOf vs.toArray 0) :: rest = news8 at N8 s8 hx2 hdx2
      walk_at "go"
      rename News _ _ _ _ => N9
      rename Fr _ _ _ _ => F9
      rw [← hl8] at N9 s8
      obtain ⟨tq, N10, s10⟩ := news_nfiE (S := S2) (C := 137) (Ci := 40) (rest := (I, oI) :: (D', tupOf vs.toArray 0) :: rest) (S2.nfi + 1) N9 s8 (by unfold So.dobj So.rv; rw [e4])
      have s11 := s10.perm List.perm_middle
      subst hS2
      have en : S.nfi + (i : Int) + 1 = S.nfi + ((i + 1 : Nat) : Int) := by lia
      dsimp only at N10 s10 s11
      rw [en] at N10 s11
      refine k9 _ _ ?_
      dsimp only [PostG]
      refine EndG.intro F9 (fun q hq => N10 q (List.perm_middle.mem_iff.mpr hq)) (Sep.head s11) ⟨nds, rv, rn, rd, tq, rfl, s11.tail, ⟨ok8.dict, ok8.low, ok8.nds, ok8.rds⟩, ?_, hk8, ?_, by walk_at "loc", by walk_at "loc"⟩
      · rw [done_take hy, ← hg5]
        unfold doneOne
        dsimp only
        rw [sucOf_nd kn hvm, hg8, StrsAre.length hvok, List.take_length]
      · have h1 : v.succ.length ≤ 1000 := by
          obtain ⟨v0, hv0, he⟩ := sk_mem sk7.symm hvm2
          obtain ⟨_, h2, _⟩ := sk_eq he
          have := hsu v0 hv0
          rw [h2] at this
          exact this
        rw [StrsAre.length hvok] at hz8
        lia
  · rintro m₁ news₁ h9 tk9 ⟨nds, rv1, rn1, rd1, tt1, rfl, s9, ok9, hg9, hk9, hz9, hm1, hm2⟩ F9 N9
    dsimp only
    walk_at "go"
    have el := StrsAre.length hks
    rw [el] at N9 s9 ok9 hg9
    refine ret _ _ nds rv1 rn1 rd1 tt1 ok9 (by rw [hg9, List.take_length]) hk9 (by assumption) (fun q hq => ?_) (s9.sub ((List.Sublist.refl _).append (List.sublist_cons_self _ _)))
    rename News _ L _ _ => N10
    rw [el] at N10
    refine N10 q ?_
    rcases List.mem_append.mp hq with hq | hq
    · exact List.mem_append_left _ hq
    · exact List.mem_append_right _ (.tail _ hq)
theorem done_tells (S : So) (rest : List (Addr × Obj)) (N : News h₀ L s.heap (S.cells 137 40 ++ rest)) (hs : Sep (S.cells 137 40 ++ rest)) (ok : S.ok PySem.Challenge.rw_tv0044_02.row.prog w) {ra : Addr} {rvs : List Value} {rn : Nat} (hr : S.rdy = some (ra, rvs, rn))
  (vs : List Value) (ks : List Str) (hks : StrsAre vs ks) (hkz : ks.length ≤ 500) (hz : S.rds.length ≤ 10000) (hsz : S.nds.length ≤ 1000) (hsu : ∀ v ∈ S.nds, v.succ.length ≤ 1000) (hcl : ∀ v ∈ S.nds, ∀ c ∈ v.succ, c ∈ S.nds.map (·.key)) (hok : DoneOk (S.nds.map Nd.pn, S.rds) ks)
  (hdp : dp + 2 < recursionLimit) (hun : un + 16 < cLine)
  (ret : ∀ h' tk' nds' rvs' rn' rds' t2', ({ S with nds := nds', rdy := some (ra, rvs', rn'), rds := rds', nfi := S.nfi + ks.length, t2 := t2' } : So).ok PySem.Challenge.rw_tv0044_02.row.prog w → (nds'.map Nd.pn, rds') = ks.foldl doneOne (S.nds.map Nd.pn, S.rds) → nds'.map Nd.sk = S.nds.map Nd.sk →
    Fr h₀ L h' m → News h₀ L h' (({ S with nds := nds', rdy := some (ra, rvs', rn'), rds := rds', nfi := S.nfi + ks.length, t2 := t2' } : So).cells 137 40 ++ rest) →
    Sep (({ S with nds := nds', rdy := some (ra, rvs', rn'), rds := rds', nfi := S.nfi + ks.length, t2 := t2' } : So).cells 137 40 ++ rest) → Q .none { s with heap := h', toks := tk' }) :
    wpAny (model PySem.Challenge.rw_tv0044_02.row.prog w) (ktrTop dp un gd cn cs L a ccd cl outer) (call (.ref 120) (.ref S.x :: vs)) Q E s :=
  wpAny_call (done_code B F X T hk S rest N hs ok hr vs ks hks hkz hz hsz hsu hcl hok hdp hun ret)
end
end
section
theorem anew_Prep_02 : True := by w_top off; trivial
local macro_rules | `(tactic| walk_at "stop") => `(tactic| (with_reducible show LeaveX _ _ _ _ _ _ _ _ _ _ _ _ _ _ _ _ _))
local macro_rules | `(tactic| walk_at "stop") => `(tactic| (with_reducible show wpAny _ _ (leaving _ _) _ _ _))
local macro_rules | `(tactic| walk_at "truthy ref") => `(tactic| (k_here; (with_reducible show wpAny _ _ (truthy (Value.ref _)) _ _ _); k_dflt (refine' truthy_ne ?N ?m ?z ?ne ?_; (case N => k_asm); (case m => k_mem); (case z => assumption); (case ne => assumption); k_whole)))
local macro_rules | `(tactic| walk_at "enterS") => `(tactic| (refine' code_defSX ?k1 ?k2 ?k3 ?k4 ?k5 ?XB ?TB ?D ?kA ?kF ?cK ?k6 ?k7 ?k8 ?k9 ?kB ?_ ?c2 ?c3 ?c4 ?c5; (case kA => exact rfl); (case kF => exact rfl); (case k2 => k_asm); (case k1 => k_asm); (case XB => assumption); (case TB => assumption); (case D => assumption); (case k3 => k_asm); (case k4 => k_asm); (case k5 => k_asm); (case k6 => k_is); (case k7 => k_is); (case k8 => k_room); (case k9 => exact BindsTo.of_eq rfl); (case kB => exact locs rfl); (case cK => assumption); (case c2 => exact rfl); (case c3 => exact rfl); (case c4 => exact rfl); (case c5 => decide); k_whole))
local macro_rules | `(tactic| walk_at "stop") => `(tactic| (with_reducible show wpAny _ _ (eval (PySem.Expr.ListComp _ _ _ _) _) _ _ _))
section
variable {w : World} {p : Program} {loose : List Str} {mean : ExcName → Option Value} {mg mb : Str → Option Value}
  {dp un : Nat} {gd : Option (List Code)} {cn : Str} {cs : Scope} {a : Addr} {ccd : Value} {cl : List (Str × Addr)} {outer : List Env} {A₀ : Around} {base h₀ : Heap} {L : Addr} {m : Str → Option Value} {s : Shared}
    {Q E : Value → Shared → Prop}
  (B : Below A₀ base outer h₀) (F : Fr h₀ L s.heap m) (X : (Mine.hd.heap_1 w.params).In h₀) (T : Top p loose mean mg mb h₀) (hk : cs.kind = .function)
  (XB : (Mine.hd.heap_1 w.params).In base) (TB : Top p loose mean mg mb base) (D : KtsDicts (outer.filterMap (·.frame)) h₀)
include B F X T hk XB TB D
theorem prep_tells (S : So) (rest : List (Addr × Obj)) (N : News h₀ L s.heap (S.cells 137 40 ++ rest)) (hs : Sep (S.cells 137 40 ++ rest)) (ok : S.ok PySem.Challenge.rw_tv0044_02.row.prog w) (hr : S.rdy = none)
  (hsz : S.nds.length ≤ 1000) (hcl : ∀ v ∈ S.nds, ∀ c ∈ v.succ, c ∈ S.nds.map (·.key)) (hdp : dp + 6 < recursionLimit) (hun : un + 48 < cLine)
  (none_ : ∀ h' g' tk' D ys k, KtsTurn (outer.filterMap (·.frame)) h₀ g' → Free (sc := scOf S.nds) (S.nds.map (·.key)) → ({ S with rdy := some (D, ys, k), rds := ready0 S.nds } : So).ok PySem.Challenge.rw_tv0044_02.row.prog w → Fr g' L h' m → News g' L h' (({ S with rdy := some (D, ys, k), rds := ready0 S.nds } : So).cells 137 40 ++ rest) →
    Sep (({ S with rdy := some (D, ys, k), rds := ready0 S.nds } : So).cells 137 40 ++ rest) → Below A₀ base outer g' → (Mine.hd.heap_1 w.params).In g' → Top p loose mean mg mb g' → KtsDicts (outer.filterMap (·.frame)) g' → Q .none { s with heap := h', toks := tk' })
  (raise_ : ∀ h' g' G tk' D ys k e t vs told, KtsTurn (outer.filterMap (·.frame)) h₀ g' → Ring (sc := scOf S.nds) told → (∀ x ∈ told, x ∈ S.nds.map (·.key)) → ({ S with rdy := some (D, ys, k), rds := ready0 S.nds } : So).ok PySem.Challenge.rw_tv0044_02.row.prog w → Fr g' L G m →
    RaisedS base G (envX cn cs L a ccd cl :: outer) e (.ref 55) t vs (({ S with rdy := some (D, ys, k), rds := ready0 S.nds } : So).cells 137 40 ++ rest) h' → G.UpToSlots h' →
    Sep (({ S with rdy := some (D, ys, k), rds := ready0 S.nds } : So).cells 137 40 ++ rest) → Below A₀ base outer g' → KtsDicts (outer.filterMap (·.frame)) g' → E (.ref e) { s with heap := h', toks := tk' }) :
    wpAny (model PySem.Challenge.rw_tv0044_02.row.prog w) (ktrTop dp un gd cn cs L a ccd cl outer) (call (.ref 92) [.ref S.x]) Q E s := by
  revert X XB; k_fill; intro X XB
  refine wpAny_call ?_
  walk_at "enterS"
  intro g1 L1 h1 FG1 F' N' B' X' T' D'
  (try dsimp only); (try k_fold)
  have hrv : S.rv = .none := by unfold So.rv; rw [hr]
  have hx : (S.x, instObj 137 S.dx) ∈ S.cells 137 40 ++ rest := List.mem_append_left _ (.head _)
  have hdx : (S.dx, dictOf (sorterEs S.hs S.tk S.n2i .none (.int S.npo S.t1) (.int S.nfi S.t2)) S.dn) ∈ S.cells 137 40 ++ rest := List.mem_append_left _ (by rw [← hrv]; exact .tail _ (.head _))
  have hn2 : (S.n2i, S.n2o) ∈ S.cells 137 40 ++ rest := List.mem_append_left _ (.tail _ (.tail _ (.head _)))
  have hnds : ∀ v ∈ S.nds, ∀ q ∈ v.cells 40, q ∈ S.cells 137 40 ++ rest := fun v hv q hq => List.mem_append_left _ (So.mem_nd hv hq)
  generalize hl : S.cells 137 40 ++ rest = news1 at N' hs hx hdx hn2 hnds
  walk_at "go"
  have hdicO := ok.dict
  have hlow := ok.low
  refine compW (h₀ := g1) (L := L1) (cl := []) (p := fun v => S.nds.any fun u => decide (v = .ref u.x) && decide (u.np = 0)) (G := fun v r => ∃ u ∈ S.nds, v = .ref u.x ∧ r = .str u.key u.kt) ?hc ?c ?k ?n ?x ?s ?h
  case hc => with_unfolding_all rfl
  case c => decide
  case k => exact rfl
  case n => decide
  case x => exact rfl
  case s => intro _; with_unfolding_all rfl
  walk_at "go"
  rename Fr _ _ _ _ => F2
  rename News _ _ _ _ => N2
  rename_i vwV vwh vwl
  refine compVals F2 N2 (.head _) (.tail _ hn2) hdicO (seven_le (by rw [List.length_map]; lia)) rfl ⟨?tests, ?elts⟩ ?done
  case tests =>
    rintro C i v s3 m3 E' ⟨k, hk⟩ F3 N3 hn3 hm3
    obtain ⟨u, hu, rfl⟩ := nd_of hk
    have hux : (u.x, ({ cls := .ref 40, dict := some u.dx, data := .plain, slots := [some (.str u.key u.kt), some (.int u.np u.pt), some (.ref u.sa)].toArray } : Obj)) ∈ news1 := hnds u hu _ (.head _)
    have hud : (u.dx, dictOf [] 0) ∈ news1 := hnds u hu _ (.tail _ (.head _))
    refine wpAny_tests_one ?_
    dsimp only
    rw [nd_any hs hnds hu]
    walk_at "go"
    exact ⟨_, _, rfl, fun _ _ e => e⟩
  case elts =>
    rintro C i v s3 m3 E' ⟨k, hk⟩ hp F3 N3 hn3 hm3
    obtain ⟨u, hu, rfl⟩ := nd_of hk
    have hux : (u.x, ({ cls := .ref 40, dict := some u.dx, data := .plain, slots := [some (.str u.key u.kt), some (.int u.np u.pt), some (.ref u.sa)].toArray } : Obj)) ∈ news1 := hnds u hu _ (.head _)
    have hud : (u.dx, dictOf [] 0) ∈ news1 := hnds u hu _ (.tail _ (.head _))
    walk_at "go"
    · exact hu
    · exact ⟨_, _, rfl, fun _ _ e => e⟩
  case done =>
    rintro Dl h2 tk2 ys k hG F3 N3 hoff
    have r1 : S.dx ≠ Dl := hoff _ (.tail _ hdx)
    have r2 : S.x ≠ Dl := hoff _ (.tail _ hx)
    have hst : StrsAre ys (ready0 S.nds) := strs_paired (fun u => decide (u.np = 0)) (fun u hu => nd_any hs hnds hu) (fun u hu v hv e => by
      have h1 := hnds u hu _ (.head _)
      have h2 := hnds v hv _ (.head _)
      rw [← e] at h2
      have h3 := Sep.one hs h1 h2
      unfold Nd.info at h3
      injection h3 with _ _ _ h4
      simp at h4
      exact h4.1.1) (fun u hu => hu) hG
    walk_at "go"
    rename Fr _ _ _ _ => F4
    rename News _ _ _ _ => N4
    rw [← hl] at N4 hoff vwl
    have hsS : Sep (S.cells 137 40 ++ rest) := by rw [hl]; exact hs
    obtain ⟨N5, s5⟩ := news_rdyE (S := S) (C := 137) (Ci := 40) (rest := rest) (v := (vwV, viewObj S.n2i)) (ready0 S.nds) N4 hr hsS (fun q hq => Nat.ne_of_lt (vwl q hq)) hoff rfl
    generalize hS' : ({ S with rdy := some (Dl, ys, k), rds := ready0 S.nds } : So) = S' at N5 s5
    have ex : S'.x = S.x := by rw [← hS']
    have en : S'.nds = S.nds := by rw [← hS']
    have er : S'.rdy = some (Dl, ys, k) := by rw [← hS']
    have ok5 : S'.ok PySem.Challenge.rw_tv0044_02.row.prog w := by
      rw [← hS']
      exact ⟨ok.dict, ok.low, ok.nds, hst⟩
    have hx5 : (S.x, instObj 137 S'.dx) ∈ S'.cells 137 40 ++ (vwV, viewObj S.n2i) :: rest := by
      rw [← ex]; exact List.mem_append_left _ (.head _)
    have hdx5 : (S'.dx, dictOf (sorterEs S'.hs S'.tk S'.n2i (.ref Dl) (.int S'.npo S'.t1) (.int S'.nfi S'.t2)) S'.dn) ∈ S'.cells 137 40 ++ (vwV, viewObj S.n2i) :: rest := List.mem_append_left _ (So.mem_dx1 er)
    clear N4 hx hdx hn2 hnds
    generalize hl5 : S'.cells 137 40 ++ (vwV, viewObj S.n2i) :: rest = news5 at N5 s5 hx5 hdx5
    walk_at "go"
    rename Fr _ _ _ _ => F6
    rename News _ _ _ _ => N6
    dsimp only [List.append_nil]
    rw [show (Value.ref S.x) = Value.ref S'.x from by rw [ex]]
    rw [← hl5] at N6 s5
    refine find_tells (S := S') (rest := (vwV, viewObj S.n2i) :: rest) B' F6 X' T' rfl XB TB D' N6 s5 ok5 (by rw [en]; exact hsz) (by rw [en]; exact hcl) (by show dp + 1 + 4 < recursionLimit; lia) (by show un + 3 + 32 < cLine; lia) ?fnone ?fring
    case fnone =>
      intro h7 g7 tk7 T7 free7 F7 N7 B7 X7 P7 D7
      clear F6 N6
      generalize hl7 : S'.cells 137 40 ++ (vwV, viewObj S.n2i) :: rest = news7 at N7
      walk_at "go"
      rename Fr _ _ _ _ => F8
      rename News _ _ _ _ => N8
      refine ⟨g7, L1, _, _, T7, F8, N8, fun h9 T9 F9 N9 B9 X9 P9 D9 => ?_⟩
      rw [← hl7] at N9
      subst hS'
      exact none_ _ _ _ _ _ _ T9 free7 ok5 F9 (fun q hq => N9 q (by
        rcases List.mem_append.mp hq with hq | hq
        · exact List.mem_append_left _ hq
        · exact List.mem_append_right _ (.tail _ hq))) (s5.sub ((List.Sublist.refl _).append (List.sublist_cons_self _ _))) B9 X9 P9 D9
    case fring =>
      intro h7 g7 tk7 t vs told T7 ring7 keys7 str7 F7 N7 s7 B7 X7 P7 D7
      clear F6 N6
      generalize hl7 : S'.cells 137 40 ++ (vwV, viewObj S.n2i) :: rest = news7 at N7 s7
      have hvz : vs.length ≤ 1000000 := by
        rw [StrsAre.length str7]
        obtain ⟨c, mid, rfl, hnd, _⟩ := ring7
        have := List.Nodup.length_le_of_subset hnd (fun x hx => keys7 x (List.mem_append_left _ hx))
        rw [en] at this
        simp at this ⊢
        lia
      have hvn : vs ≠ [] := by
        rintro rfl
        obtain ⟨c, mid, rfl, hnd, _⟩ := ring7
        have := StrsAre.length str7
        simp at this
      walk_at "go"
      rename Fr _ _ _ _ => F8
      rename News _ _ _ _ => N8
      rename Heap.MadeExcOf _ _ _ _ _ => hM
      refine leave_raiseS B7 hM F8 N8 fun h9 t9 R9 _ up9 => ?_
      obtain ⟨g9, T9, F9, B9⟩ := turn_out B FG1 T7 rfl
      subst hS'
      refine raise_ _ g9 g7 _ _ _ _ _ _ _ told T9 ring7 keys7 ok5 F9 (raisedS_sub R9 fun q hq => ?_) up9 (s5.sub ((List.Sublist.refl _).append (List.sublist_cons_self _ _))) B9 (D.turn T9)
      rw [← hl7]
      rcases List.mem_append.mp hq with hq | hq
      · exact .tail _ (List.mem_append_left _ hq)
      · exact .tail _ (List.mem_append_right _ (.tail _ hq))
end
end
section
local macro_rules | `(tactic| walk_at "call builtin:len") => `(tactic| (k_here; (with_reducible show wpAny _ _ (call (Value.builtin "len") [Value.str _ _]) _ _ _); (refine P.len_str (by kt_fact) ?_)))
local macro_rules | `(tactic| walk_at "compareOp NotEq str str") => `(tactic| (k_here; refine ne_strB (by assumption) ?_; (try dsimp only [Bool.not_true, Bool.not_false])))
local macro_rules | `(tactic| walk_at "setItem ref int") => `(tactic| (k_here; (with_reducible show wpAny _ _ (setItem (Value.ref _) (Value.int _ _) (Value.int _ _)) _ _ _); k_dflt (refine' ksa_set ?k1 ?k2 ?k3 ?k4 ?k5 ?k6 ?k7 ?_; (case k1 => k_asm); (case k2 => k_asm); (case k3 => k_upd); (case k4 => with_reducible assumption); (case k5 => lia); (case k6 => lia); (case k7 => lia); k_whole); intro sth stF stN sti stl sts; (try k_sweep)))
local macro_rules | `(tactic| walk_at "subscriptTail") => `(tactic| (k_here; (with_reducible show wpAny _ _ (subscriptTail _ _ (Value.ref _) (Value.int _ _)) _ _ _); k_dflt (refine' ksa_sub ?k1 ?k2 ?k3 ?k4 ?k5 ?k6 ?_ ?k7; (case k1 => k_asm); (case k2 => k_mem); (case k3 => with_reducible assumption); (case k4 => lia); (case k5 => lia); (case k6 => lia); (case k7 => with_unfolding_all rfl); k_whole); intro _))
local macro_rules | `(tactic| walk_at "stop") => `(tactic| (with_reducible show wpAny _ _ (pyIter _) _ _ _))
local macro_rules | `(tactic| walk_at "enterG") => `(tactic| (refine' code_defG ?k1 ?k2 ?k3 ?k4 ?k5 ?kA ?kF ?kK ?k6 ?k7 ?k8 ?k9 ?kB ?_ ?c2 ?c3 ?c4 ?c5; (case kA => exact rfl); (case kF => exact rfl); (case kK => assumption); (case k1 => k_asm); (case k2 => k_asm); (case k3 => k_asm); (case k4 => k_asm); (case k5 => k_asm); (case k6 => k_is); (case k7 => k_is); (case k8 => k_room); (case k9 => exact BindsTo.of_eq rfl); (case c5 => decide); (case kB => exact locs rfl); (case c2 => exact rfl); (case c3 => exact rfl); (case c4 => exact rfl); k_whole))
local macro_rules | `(tactic| walk_at "compareOp NotIn str ref") => `(tactic| (k_here; (with_reducible show wpAny _ _ (compareOp CmpOp.NotIn (Value.str _ _) (Value.ref _)) _ _ _); k_dflt (refine' notin_M ?N ?m ?i ?b ?_; (case N => k_asm); (case m => k_mem); (case i => assumption); (case b => assumption); k_whole); (try dsimp only [Bool.not_true, Bool.not_false])))
local macro_rules | `(tactic| walk_at "compareOp In str ref") => `(tactic| (k_here; (with_reducible show wpAny _ _ (compareOp CmpOp.In (Value.str _ _) (Value.ref _)) _ _ _); k_dflt (refine' in_M ?N ?m ?i ?b ?_; (case N => k_asm); (case m => k_mem); (case i => assumption); (case b => assumption); k_whole)))
local macro_rules | `(tactic| walk_at "call builtin:len") => `(tactic| (k_here; (with_reducible show wpAny _ _ (call (Value.builtin "len") [Value.ref _]) _ _ _); k_dflt (refine' len_listM ?k1 ?k2 ?k3 ?_; (case k1 => k_asm); (case k2 => k_mem); (case k3 => first | assumption | lia); k_whole)))
section
theorem anew_Hind_02 : True := by w_top off; trivial
section
variable {w : World} {p : Program} {loose : List Str} {mean : ExcName → Option Value} {mg mb : Str → Option Value}
  {dp un : Nat} {gd : Option (List Code)} {cn : Str} {cs : Scope} {a : Addr} {ccd : Value} {cl : List (Str × Addr)} {outer : List Env} {A₀ : Around} {base h₀ : Heap} {L : Addr} {m : Str → Option Value} {s : Shared}
    {Q E : Value → Shared → Prop}
  (B : Below A₀ base outer h₀) (F : Fr h₀ L s.heap m) (X : (Mine.hd.heap_1 w.params).In h₀) (T : Top p loose mean mg mb h₀) (hk : cs.kind = .function)
include B F X T hk
theorem hind_tells (x : Str) (xt : Tok) (size least : Nat) (st lt : Tok) (news : List (Addr × Obj)) (N : News h₀ L s.heap news) (hs : Sep news) (hx : x.length ≤ 1000) (hsz : size ≤ x.length) (h1 : 1 ≤ least) (h2 : least < size) (hdp : dp + 3 < recursionLimit) (hun : un + 24 < cLine)
  (ret : ∀ h' tk' (r : Nat) t, FirstH x.cps.toList size least r → Fr h₀ L h' m → News h₀ L h' news → Q (.int (r : Nat) t) { s with heap := h', toks := tk' }) :
    wpAny (model PySem.Challenge.rw_tv0044_02.row.prog w) (ktrTop dp un gd cn cs L a ccd cl outer) (call (.ref 169) [.str x xt, .int (size : Nat) st, .int (least : Nat) lt]) Q E s := by
  revert X; k_fill; intro X
  refine wpAny_call ?_
  k_dflt ktr_enter
  rename_i g2 L2 _ FG2 _ _ _ _ _
  walk_at "go"
  rename Fr _ _ _ _ => F0
  rename News _ _ _ _ => N0
  refine For_invVF F0 rfl rfl ?_
  walk_at "go"
  rename IsRange _ _ _ _ _ _ _ _ => R
  rename Fr _ _ _ _ => F1
  rename News _ _ _ _ => N1
  have hszr : Builtin.Range.rangeSize 0 ((x.length : Int) - (size : Int) + 1) 1 = ((x.length - size + 1 : Nat) : Int) := by
    rw [rangeSize_nat]; lia
  have hsm : Builtin.Range.small 0 ((x.length : Int) - (size : Int) + 1) 1 = true := small_one (by lia) (by lia) (by lia) (by lia)
  refine iterRange (fun i m l => l = news ∧ (∀ p, p < i → ¬ Hind x.cps.toList size least p) ∧ m (Str.ofString "text") = some (.str x xt) ∧ m (Str.ofString "size") = some (.int (size : Nat) st) ∧ m (Str.ofString "least") = some (.int (least : Nat) lt))
    rfl R hsm hszr F1 N1 ?_ ?_ ?_
  · exact ⟨rfl, fun p hp => absurd hp (Nat.not_lt_zero _), by walk_at "loc", by walk_at "loc", by walk_at "loc"⟩
  · rintro I i t m1 news1 hh1 tk1 oI hi ⟨rfl, hno, hm1, hm2, hm3⟩ hoff F2 N2
    rw [Int.zero_add] at F2
    clear R F1 N1
    walk_at "go"
    rename Fr _ _ _ _ => F3
    rename News _ _ _ _ => N3
    refine For_invVF F3 rfl rfl ?_
    walk_at "go"
    rename IsRange _ _ _ _ _ _ _ _ => R
    rename Fr _ _ _ _ => F4
    rename News _ _ _ _ => N4
    have hszr : Builtin.Range.rangeSize ((i : Int) + 1) (x.length : Int) 1 = ((x.length - (i + 1) : Nat) : Int) := by
      rw [rangeSize_nat]; lia
    have hsm : Builtin.Range.small ((i : Int) + 1) (x.length : Int) 1 = true := small_one (by lia) (by lia) (by lia) (by lia)
    refine iterRange (fun j m l => l = (I, oI) :: news1 ∧ (∀ q, q < i + 1 + j → ¬ HindAt x.cps.toList size least i q) ∧ m (Str.ofString "text") = some (.str x xt) ∧ m (Str.ofString "size") = some (.int (size : Nat) st) ∧ m (Str.ofString "least") = some (.int (least : Nat) lt) ∧ m (Str.ofString "p") = some (.int (i : Nat) t))
      rfl R hsm hszr F4 N4 ?_ ?_ ?_
    · exact ⟨rfl, fun q hq h => by have := h.1; lia, by walk_at "loc", by walk_at "loc", by walk_at "loc", by walk_at "loc"⟩
    · rintro I2 j t2 m2 news2 hh2 tk2 oI2 hj ⟨rfl, hno2, hm4, hm5, hm6, hm7⟩ hoff2 F5 N5
      clear R F4 N4
      have eq1 : ((i : Int) + 1 + (j : Int)) = ((i + 1 + j : Nat) : Int) := by lia
      rw [eq1] at F5
      have hmi := many_int (size := size) (least := least) (i := i) (q := i + 1 + j) rfl
      have hxl : x.cps.toList.length = x.length := by simp [PySem.Str.length]
      walk_at "go"
      · rename _ + _ ≤ _ => hb
        rename (_ == _) = true => he
        rw [hmi] at hb he
        have hH := (HindAt.iff (by lia) (by lia)).mp he
        have hHi : Hind x.cps.toList size least i := ⟨_, hH⟩
        have hil : i ≤ x.cps.toList.length - size := by lia
        dsimp only [PostG]
        walk_at "go"
        exact ret _ _ _ _ ⟨hno, .inl ⟨hil, hHi⟩⟩ (by assumption) (fun q hq => by
          rename News _ L _ _ => N9
          exact N9 q (.tail _ (.tail _ hq)))
      · rename _ + _ ≤ _ => hb
        rename Fr _ _ _ _ => F6
        rename News _ _ _ _ => N6
        rename (_ == _) = false => he
        rw [hmi] at hb he
        dsimp only [PostG]
        refine EndG.intro F6 N6 hoff2 ⟨rfl, fun q hq => ?_, by walk_at "loc", by walk_at "loc", by walk_at "loc", by walk_at "loc"⟩
        rcases (show q < i + 1 + j ∨ q = i + 1 + j from by lia) with hq | rfl
        · exact hno2 q hq
        · intro hH
          rw [(HindAt.iff (by lia) (by lia)).mpr hH] at he
          cases he
      · rename ¬ (_ + _ ≤ _) => hb
        rename Fr _ _ _ _ => F6
        rename News _ _ _ _ => N6
        rw [hmi] at hb
        dsimp only [PostG]
        refine EndG.intro F6 N6 hoff2 ⟨rfl, fun q hq => ?_, by walk_at "loc", by walk_at "loc", by walk_at "loc", by walk_at "loc"⟩
        rcases (show q < i + 1 + j ∨ q = i + 1 + j from by lia) with hq | rfl
        · exact hno2 q hq
        · intro hH
          have := hH.2.1
          lia
    · rintro m2 news2 hh2 tk2 ⟨rfl, hno2, hm4, hm5, hm6, hm7⟩ F5 N5
      dsimp only
      clear R F4 N4
      walk_at "go"
      rename Fr _ _ _ _ => F6
      rename News _ _ _ _ => N6
      have hxl : x.cps.toList.length = x.length := by simp [PySem.Str.length]
      dsimp only [PostG]
      exact EndG.intro F6 N6 hoff ⟨rfl, FirstH.step h1 hno fun q hq => hno2 q (by lia), by walk_at "loc", by walk_at "loc", by walk_at "loc"⟩
  · rintro m1 news1 hh1 tk1 ⟨rfl, hno, hm1, hm2, hm3⟩ F2 N2
    dsimp only
    clear R F1 N1
    walk_at "go"
    rw [show ((x.length : Int) - (size : Int) + 1) = ((x.length - size + 1 : Nat) : Int) from by lia]
    exact ret _ _ _ _ ⟨hno, .inr rfl⟩ (by assumption) (by assumption)
end
end
section
theorem anew_Tab_02 : True := by w_top off; trivial
local macro_rules | `(tactic| walk_at "stop") => `(tactic| (with_reducible show WhlRest _ _ _ _ _ _ _ _ _ _ _))
section
variable {w : World} {p : Program} {loose : List Str} {mean : ExcName → Option Value} {mg mb : Str → Option Value}
  {dp un : Nat} {gd : Option (List Code)} {cn : Str} {cs : Scope} {a : Addr} {ccd : Value} {cl : List (Str × Addr)} {outer : List Env} {A₀ : Around} {base h₀ : Heap} {L : Addr} {m : Str → Option Value} {s : Shared}
    {Q E : Value → Shared → Prop}
  (B : Below A₀ base outer h₀) (F : Fr h₀ L s.heap m) (X : (Mine.hd.heap_1 w.params).In h₀) (T : Top p loose mean mg mb h₀) (hk : cs.kind = .function)
include B F X T hk
theorem table_tells (x : Str) (xt : Tok) (news : List (Addr × Obj)) (N : News h₀ L s.heap news) (hs : Sep news) (hx : x.length ≤ 1000) (h0 : 0 < x.length) (hdp : dp + 2 < recursionLimit) (hun : un + 16 < cLine)
  (ret : ∀ h' tk' t vs n, IntsAre vs (tabOf x.cps.toList) → Fr h₀ L h' m → (∀ b o, s.heap.get? b = some o → h'.get? b = some o) → News h₀ L h' ((t, W.listOf vs.toArray n) :: news) → Sep ((t, W.listOf vs.toArray n) :: news) → Q (.ref t) { s with heap := h', toks := tk' }) :
    wpAny (model PySem.Challenge.rw_tv0044_02.row.prog w) (ktrTop dp un gd cn cs L a ccd cl outer) (call (.ref 148) [.str x xt]) Q E s := by
  revert X; k_fill; intro X
  refine wpAny_call ?_
  k_dflt (walk_at "enterG")
  intro g2 L2 h2 FG2 F2 N2 B2 X2 T2 kG2
  (try dsimp only); (k_fold)
  walk_at "go"
  rename News _ _ _ _ => N0
  rename Fr _ _ _ _ => F0
  rename IntsAre _ _ => i1
  have hlen : x.cps.toList.length = x.length := by simp [PySem.Str.length]
  have hz : (List.replicate ((x.length : Int)).toNat [(0 : Int)]).flatten = tabTo x.cps.toList 1 := by
    rw [tabTo_one, hlen]; simp
  rw [hz] at i1
  generalize hvs : (List.replicate ((x.length : Int)).toNat [Value.int 0 _]).flatten = vs0 at N0 i1
  walk_at "fold"
  refine For_invVF F0 rfl rfl ?_
  walk_at "go"
  rename IsRange _ _ _ _ _ _ _ _ => R

  rename Fr _ _ _ _ => F0
  rename News _ _ _ _ => N0
  have hsz : Builtin.Range.rangeSize 1 (x.length : Int) 1 = ((x.length - 1 : Nat) : Int) := by
    rw [rangeSize_nat]; lia
  have hsm : Builtin.Range.small 1 (x.length : Int) 1 = true := small_one (by lia) (by lia) (by lia) (by lia)
  refine iterRange (fun i m l => ∃ D vs n l', l = (D, W.listOf vs.toArray n) :: l' ∧ news.Sublist l' ∧ Sep l ∧ IntsAre vs (tabTo x.cps.toList (i + 1)) ∧ m (Str.ofString "prefix") = some (.str x xt) ∧ m (Str.ofString "table") = some (.ref D))
    rfl R hsm hsz F0 N0 ?_ ?_ ?_
  · exact ⟨_, vs0, 0, _, rfl, List.sublist_cons_self _ _, by walk_at "sep", i1, by walk_at "loc", by walk_at "loc"⟩
  · rintro I i t m1 news1 h1 tk1 oI hi ⟨D, vs, n, l', rfl, hsub, s1, i1, hm1, hm2⟩ hoff F1 N1
    have s2 := s1.cons_ne (o := oI) hoff
    have hne : D ≠ I := hoff _ (.head _)
    clear F0 N0 R hvs
    generalize hns : tabTo x.cps.toList (i + 1) = ns at i1
    have hnl : ns.length = x.length := by rw [← hns, tabTo_length, hlen]
    have hat : ∀ k, k < i + 1 → ns.getD k 0 = (bd x.cps.toList (k + 1) : Int) := fun k hk => by
      rw [← hns, List.getD_eq_getElem?_getD, tabTo_at hk (by lia)]; rfl
    walk_at "fold"
    walk_at "go"
    rename News _ _ _ _ => N2
    rename Fr _ _ _ _ => F2
    have e1 : (1 + (i : Int) - 1).toNat = i := by lia
    rw [e1, hat i (by lia)] at F2
    walk_at "fold"
    refine whl_start 0 (whileS (fun n' s' => ∃ h tk m2 j tj, s' = { s with heap := h, toks := tk } ∧ Fr g2 L2 h m2 ∧ News g2 L2 h ((I, oI) :: (D, W.listOf vs.toArray n) :: l') ∧ Kmp x.cps.toList (i + 1) j ∧ j ≤ n' ∧
      m2 (Str.ofString "prefix") = some (.str x xt) ∧ m2 (Str.ofString "table") = some (.ref D) ∧ m2 (Str.ofString "i") = some (.int (1 + (i : Int)) t) ∧ m2 (Str.ofString "idx") = some (.int (j : Nat) tj)) (by with_unfolding_all passes_own) ?wturn (bd x.cps.toList (i + 1)) ?wh0)
    case wh0 => exact ⟨_, _, _, _, _, rfl, F2, N2, Kmp.init (by lia), Nat.le_refl _, by walk_at "loc", by walk_at "loc", by walk_at "loc", by walk_at "loc"⟩
    case wturn =>
      rintro n1 s3 ⟨h3, tk3, m3, j, tj, rfl, F3, N3, K3, hj, q1, q2, q3, q4⟩ again
      have hji : j < i + 1 := K3.1.1
      have hne2 := item_ne (x := x) (i := 1 + (i : Int)) (j := (j : Int)) (by lia) (by lia) (by lia) (by lia)
      rw [show (1 + (i : Int)).toNat = i + 1 from by lia, Int.toNat_natCast] at hne2
      walk_at "go"
      rw [hne2]
      rename Fr _ _ _ _ => F4
      rename News _ _ _ _ => N4
      rcases Decidable.em (x.cps.toList[j]? = x.cps.toList[i + 1]?) with he | he
      · rw [decide_eq_true he]
        dsimp only [Bool.not_true]
        walk_at "go"
        rename Fr _ _ _ _ => F5
        rename News _ _ _ _ => N5
        rename IntsAre _ (List.set _ _ _) => i5
        rw [upd_hd s1] at N5
        walk_at "post"
        refine EndG.intro F5 N5 (fun q hq => ?_) ⟨D, _, n, l', rfl, hsub, s1.hd _, ?_, by walk_at "loc", by walk_at "loc"⟩
        · rcases List.mem_cons.mp hq with rfl | hq
          · exact hne
          · exact hoff q (.tail _ hq)
        · have en : ns.set (1 + (i : Int)).toNat ((j : Int) + 1) = tabTo x.cps.toList (i + 1 + 1) := by
            rw [← hns, show (1 + (i : Int)).toNat = i + 1 from by lia, show ((j : Int) + 1) = (bd x.cps.toList (i + 1 + 1) : Int) from by rw [K3.hit (by lia) he]; rfl, tabTo_set (by lia)]
          rw [en] at i5
          exact i5
      · rw [decide_eq_false he]
        dsimp only [Bool.not_false]
        walk_at "go"
        · have hj0 : j = 0 := by lia
          subst hj0
          rename Fr _ _ _ _ => F5
          rename News _ _ _ _ => N5
          rename IntsAre _ (List.set _ _ _) => i5
          rw [upd_hd s1] at N5
          walk_at "post"
          refine EndG.intro F5 N5 (fun q hq => ?_) ⟨D, _, n, l', rfl, hsub, s1.hd _, ?_, by walk_at "loc", by walk_at "loc"⟩
          · rcases List.mem_cons.mp hq with rfl | hq
            · exact hne
            · exact hoff q (.tail _ hq)
          · have en : ns.set (1 + (i : Int)).toNat 0 = tabTo x.cps.toList (i + 1 + 1) := by
              rw [← hns, show (1 + (i : Int)).toNat = i + 1 from by lia, show (0 : Int) = (bd x.cps.toList (i + 1 + 1) : Int) from by rw [K3.miss (by lia) he]; rfl, tabTo_set (by lia)]
            rw [en] at i5
            exact i5
        · rename Fr _ _ _ _ => F5
          rename News _ _ _ _ => N5
          have hj0 : 0 < j := by lia
          rw [show ((j : Int) - 1).toNat = j - 1 from by lia, hat (j - 1) (by lia), show j - 1 + 1 = j from by lia] at F5
          exact again (bd x.cps.toList j) _ (Nat.lt_of_lt_of_le (bd_lt hj0) hj) ⟨_, _, _, _, _, rfl, F5, N5, K3.next hj0 he, Nat.le_refl _, by walk_at "loc", by walk_at "loc", by walk_at "loc", by walk_at "loc"⟩
  · rintro m1 news1 h1 tk1 ⟨D, vs, n, l', rfl, hsub, s1, i1, hm1, hm2⟩ F1 N1
    dsimp only
    rw [show x.length - 1 + 1 = x.length from by lia, tabTo_all _ (by lia)] at i1
    have kp := keeps_of N kG2 F1 N1 (fun q hq => .tail _ (hsub.subset hq))
    walk_at "go"
    exact ret _ _ D vs n i1 (by assumption) kp (fun q hq => by
      rename News _ L _ _ => N9
      exact N9 q (by
        rcases List.mem_cons.mp hq with rfl | hq
        · exact .head _
        · exact .tail _ (hsub.subset hq))) (s1.sub (hsub.cons₂ _))
end
end
section
theorem anew_Lap_02 : True := by w_top off; trivial
local macro_rules | `(tactic| walk_at "stop") => `(tactic| (with_reducible show wpAny _ _ (call (Value.ref 148) _) _ _ _))
local macro_rules | `(tactic| walk_at "subscriptTail") => `(tactic| (k_here; (with_reducible show wpAny _ _ (subscriptTail _ _ (Value.ref _) (Value.int (-1) _)) _ _ _); k_dflt (refine' last_ints ?N ?m ?i ?hn ?z ?_; (case N => k_asm); (case m => k_mem); (case i => assumption); (case hn => assumption); (case z => assumption); k_whole); intro _))
section
variable {w : World} {p : Program} {loose : List Str} {mean : ExcName → Option Value} {mg mb : Str → Option Value}
  {dp un : Nat} {gd : Option (List Code)} {cn : Str} {cs : Scope} {a : Addr} {ccd : Value} {cl : List (Str × Addr)} {outer : List Env} {A₀ : Around} {base h₀ : Heap} {L : Addr} {m : Str → Option Value} {s : Shared}
    {Q E : Value → Shared → Prop}
  (B : Below A₀ base outer h₀) (F : Fr h₀ L s.heap m) (X : (Mine.hd.heap_1 w.params).In h₀) (T : Top p loose mean mg mb h₀) (hk : cs.kind = .function)
include B F X T hk
theorem lap_tells (f b : Str) (ft bt : Tok) (news : List (Addr × Obj)) (N : News h₀ L s.heap news) (hs : Sep news) (hf : f.length ≤ 400) (hb : b.length ≤ 400) (hdp : dp + 3 < recursionLimit) (hun : un + 24 < cLine)
  (ret : ∀ h' tk' t, Fr h₀ L h' m → (∀ b o, s.heap.get? b = some o → h'.get? b = some o) → News h₀ L h' news → Q (.int (lapN b.cps.toList f.cps.toList : Nat) t) { s with heap := h', toks := tk' }) :
    wpAny (model PySem.Challenge.rw_tv0044_02.row.prog w) (ktrTop dp un gd cn cs L a ccd cl outer) (call (.ref 162) [.str f ft, .str b bt]) Q E s := by
  revert X; k_fill; intro X
  refine wpAny_call ?_
  k_dflt (walk_at "enterG")
  intro g2 L2 h2 FG2 F2 N2 B2 X2 T2 kG2
  (try dsimp only); (try k_fold)
  walk_at "go"
  rename Fr _ _ _ _ => F1
  rename News _ _ _ _ => N1
  rename Below _ _ _ _ => B1
  rename Frag.In _ _ => X1
  rename Top _ _ _ _ _ _ => T1
  have hz : ((b ++ Str.ofString "|") ++ f).length = b.length + 1 + f.length := by
    rw [PySem.Str.length_append, PySem.Str.length_append]; rfl
  refine table_tells B1 F1 X1 T1 rfl ((b ++ Str.ofString "|") ++ f) _ news N1 hs (by rw [hz]; lia) (by rw [hz]; lia) (by show dp + 1 + 2 < recursionLimit; lia) (by show un + 3 + 16 < cLine; lia) ?_
  intro h4 tk4 t4 vs4 n4 i4 F4 kp4 N4 s4
  have kp := keeps_of N kG2 F4 N4 (fun q hq => .tail _ hq)
  clear F1 N1
  obtain ⟨ms4, hms⟩ := tabOf_last (l := ((b ++ Str.ofString "|") ++ f).cps.toList) (fun e => by
    have := congrArg List.length e
    rw [Array.length_toList] at this
    have h2 : ((b ++ Str.ofString "|") ++ f).length = 0 := this
    lia)
  rw [bd_lap] at hms
  have hl4 : (tabOf ((b ++ Str.ofString "|") ++ f).cps.toList).length ≤ 1000000 := by
    unfold tabOf
    rw [List.length_map, List.length_range, Array.length_toList]
    have : ((b ++ Str.ofString "|") ++ f).cps.size = b.length + 1 + f.length := hz
    lia
  walk_at "go"
  exact ret _ _ _ (by assumption) kp (fun q hq => by
    rename News _ L _ _ => N9
    exact N9 q (.tail _ hq))
end
end
section
theorem anew_Nums_02 : True := by w_top off; trivial
section
variable {w : World} {p : Program} {loose : List Str} {mean : ExcName → Option Value} {mg mb : Str → Option Value}
  {dp un : Nat} {gd : Option (List Code)} {cn : Str} {cs : Scope} {a : Addr} {ccd : Value} {cl : List (Str × Addr)} {outer : List Env} {A₀ : Around} {base h₀ : Heap} {L : Addr} {m : Str → Option Value} {s : Shared}
    {Q E : Value → Shared → Prop}
  (B : Below A₀ base outer h₀) (F : Fr h₀ L s.heap m) (X : (Mine.hd.heap_1 w.params).In h₀) (T : Top p loose mean mg mb h₀) (hk : cs.kind = .function)
include B F X T hk
theorem numbers_tells (sc : Addr) (us : List Value) (ks : List Int) (hsc : h₀.IsList sc us.toArray) (hi0 : IntsAre us ks) (hkl : ks.length ≤ 63) (news : List (Addr × Obj)) (N : News h₀ L s.heap news) (hs : Sep news) (hdp : dp + 2 < recursionLimit) (hun : un + 16 < cLine)
  (ret : ∀ h' tk' t vs ns n, IntsAre vs ns → ns.length = 11 → Fr h₀ L h' m → News h₀ L h' ((t, W.listOf vs.toArray n) :: news) → Sep ((t, W.listOf vs.toArray n) :: news) → Q (.ref t) { s with heap := h', toks := tk' }) :
    wpAny (model PySem.Challenge.rw_tv0044_02.row.prog w) (ktrTop dp un gd cn cs L a ccd cl outer) (call (.ref 155) [.ref sc]) Q E s := by
  revert X; k_fill; intro X
  refine wpAny_call ?_
  k_dflt ktr_enter
  rename_i g2 L2 _ FG2 _ _ _ _ _
  have hsc2 : g2.IsList sc us.toArray := hsc.at fun o e => FG2.keep _ o e
  clear hsc
  walk_at "go"
  rename Fr _ _ _ _ => F0
  rename News _ _ _ _ => N0
  refine For_invVF F0 rfl rfl ?_
  walk_at "go"
  rename IsRange _ _ _ _ _ _ _ _ => R
  rename Fr _ _ _ _ => F1
  rename News _ _ _ _ => N1
  have e63 : (if (63 : Int) < (ks.length : Int) then 63 else (ks.length : Int)) = (ks.length : Int) := if_neg (by lia)
  rw [e63] at R
  have hsz : Builtin.Range.rangeSize 0 (ks.length : Int) 1 = ((ks.length : Nat) : Int) := by
    rw [rangeSize_nat]; lia
  have hsm : Builtin.Range.small 0 (ks.length : Int) 1 = true := small_one (by lia) (by lia) (by lia) (by lia)
  have huk : us.length = ks.length := hi0.length
  refine iterRange (fun i m l => ∃ D vs ns n, l = (D, W.listOf vs.toArray n) :: news ∧ Sep l ∧ IntsAre vs ns ∧ ns.length = 11 ∧ m (Str.ofString "script") = some (.ref sc) ∧ m (Str.ofString "numbers") = some (.ref D))
    rfl R hsm hsz F1 N1 ?_ ?_ ?_
  · exact ⟨_, [_, _, _, _, _, _, _, _, _, _, _], [7, 3, 0, 1, 2, 0, 1, 3, 1, 2, 1], 0, rfl, by walk_at "sep", by repeat' constructor, rfl, by walk_at "loc", by walk_at "loc"⟩
  · rintro I i t m1 news1 h1 tk1 oI hi ⟨D, vs, ns, n, rfl, s1, i1, hn1, hm1, hm2⟩ hoff F2 N2
    have s2 := s1.cons_ne (o := oI) hoff
    have hne : D ≠ I := hoff _ (.head _)
    rw [Int.zero_add] at F2
    have f1 := Int.fmod_nonneg_of_pos (i : Int) (b := 11) (by lia)
    have f2 := Int.fmod_lt_of_pos (i : Int) (b := 11) (by lia)
    walk_at "go"
    rename Fr _ _ _ _ => F5
    rename News _ _ _ _ => N5
    rename IntsAre _ (List.set _ _ _) => i5
    rename List.length (List.set _ _ _) = _ => l5
    rw [upd_hd s1] at N5
    dsimp only [PostG]
    refine EndG.intro F5 N5 (fun q hq => ?_) ⟨D, _, _, n, rfl, s1.hd _, i5, l5.trans hn1, by walk_at "loc", by walk_at "loc"⟩
    rcases List.mem_cons.mp hq with rfl | hq
    · exact hne
    · exact hoff q (.tail _ hq)
  · rintro m1 news1 h1 tk1 ⟨D, vs, ns, n, rfl, s1, i1, hn1, hm1, hm2⟩ F2 N2
    dsimp only
    walk_at "go"
    exact ret _ _ D vs ns n i1 hn1 (by assumption) (by assumption) s1
end
end
section
local macro_rules | `(tactic| walk_at "subscriptTail") => `(tactic| (k_here; (with_reducible show wpAny _ _ (subscriptTail _ _ (Value.ref _) (Value.int _ _)) _ _ _); k_dflt (refine' item_strs ?N ?m ?i ?h0 ?h1 ?hz ?_; (case N => k_asm); (case m => k_mem); (case i => assumption); (case h0 => lia); (case h1 => lia); (case hz => lia); k_whole); intro _))
local macro_rules | `(tactic| walk_at "subscriptTail") => `(tactic| (k_here; (with_reducible show wpAny _ _ (subscriptTail _ _ (Value.ref _) (Value.int (-1) _)) _ _ _); k_dflt (refine' last_strs ?N ?m ?i ?hn ?hz ?_; (case N => k_asm); (case m => k_mem); (case i => assumption); (case hn => assumption); (case hz => lia); k_whole); intro _))
local macro_rules | `(tactic| walk_at "subscriptTail Name Slice ref ref") => `(tactic| (k_here; (with_reducible show wpAny _ _ (subscriptTail _ (PySem.Expr.Slice (some _) (some _) none _) (Value.ref _) (Value.ref _)) _ _ _); k_dflt (refine' sliceI_M ?F ?N ?m ?z ?a ?b ?_ ?s ?t; (case F => k_asm); (case N => k_asm); (case m => k_mem); (case z => lia); (case a => lia); (case b => lia); (case s => with_unfolding_all rfl); (case t => kmk_pure); k_whole); intro slD slh slF slN sll; (try k_sweep)))
section
local macro_rules | `(tactic| walk_at "eval Name") => `(tactic| (k_here; (with_reducible show wpAny _ _ (eval (PySem.Expr.Name _ _) (envOfC _ _ _ _ _)) _ _ _); first
  | (k_dflt (refine' nameX_C ?N ?c ?m ?d ?_ ?a ?b; (case a => exact rfl); (case b => exact rfl); (case N => k_asm); (case c => exact rfl); (case m => k_mem); (case d => assumption); k_whole))
  | (k_dflt (refine' nameX_L ?F ?v ?_ ?a ?b; (case a => exact rfl); (case b => exact rfl); (case F => k_asm); (case v => walk_at "loc"); k_whole))))
section
local macro_rules | `(tactic| walk_at "subscriptTail") => `(tactic| (k_here; (with_reducible show wpAny _ _ (subscriptTail _ (PySem.Expr.Slice none (some _) none _) (Value.str _ _) (Value.ref _)) _ _ _); k_dflt (refine' slice_K_ns ?F ?N ?z ?_ ?s ?t; (case F => k_asm); (case N => k_asm); (case z => lia); (case s => with_unfolding_all rfl); (case t => kmk_pure); k_whole); intro skh skt skk skF skN skK))
local macro_rules | `(tactic| walk_at "subscriptTail") => `(tactic| (k_here; (with_reducible show wpAny _ _ (subscriptTail _ (PySem.Expr.Slice (some _) none none _) (Value.str _ _) (Value.ref _)) _ _ _); k_dflt (refine' slice_K_sn ?F ?N ?z ?_ ?s ?t; (case F => k_asm); (case N => k_asm); (case z => lia); (case s => with_unfolding_all rfl); (case t => kmk_pure); k_whole); intro skh skt skk skF skN skK))
local macro_rules | `(tactic| walk_at "subscriptTail") => `(tactic| (k_here; (with_reducible show wpAny _ _ (subscriptTail _ (PySem.Expr.Slice (some _) (some _) none _) (Value.str _ _) (Value.ref _)) _ _ _); k_dflt (refine' slice_K_ss ?F ?N ?z ?_ ?s ?t; (case F => k_asm); (case N => k_asm); (case z => lia); (case s => with_unfolding_all rfl); (case t => kmk_pure); k_whole); intro skh skt skk skF skN skK))
local macro_rules | `(tactic| walk_at "subscriptTail Name Slice str ref") => `(tactic| (k_here; (with_reducible show wpAny _ _ (subscriptTail _ (PySem.Expr.Slice none (some _) none _) (Value.str _ _) (Value.ref _)) _ _ _); k_dflt (refine' slice_K_ns ?F ?N ?z ?_ ?s ?t; (case F => k_asm); (case N => k_asm); (case z => lia); (case s => with_unfolding_all rfl); (case t => kmk_pure); k_whole); intro skh skt skk skF skN skK))
local macro_rules | `(tactic| walk_at "subscriptTail Name Slice str ref") => `(tactic| (k_here; (with_reducible show wpAny _ _ (subscriptTail _ (PySem.Expr.Slice (some _) none none _) (Value.str _ _) (Value.ref _)) _ _ _); k_dflt (refine' slice_K_sn ?F ?N ?z ?_ ?s ?t; (case F => k_asm); (case N => k_asm); (case z => lia); (case s => with_unfolding_all rfl); (case t => kmk_pure); k_whole); intro skh skt skk skF skN skK))
local macro_rules | `(tactic| walk_at "subscriptTail Name Slice str ref") => `(tactic| (k_here; (with_reducible show wpAny _ _ (subscriptTail _ (PySem.Expr.Slice (some _) (some _) none _) (Value.str _ _) (Value.ref _)) _ _ _); k_dflt (refine' slice_K_ss ?F ?N ?z ?_ ?s ?t; (case F => k_asm); (case N => k_asm); (case z => lia); (case s => with_unfolding_all rfl); (case t => kmk_pure); k_whole); intro skh skt skk skF skN skK))
section
theorem anew_Ring_02 : True := by w_top off; trivial
local macro_rules | `(tactic| walk_at "enterC") => `(tactic| (refine' code_defC ?k1 ?k2 ?k3 ?k4 ?k5 ?kA ?kF ?kK ?k6 ?k7 ?k8 ?k9 ?kB ?kD ?_ ?c2 ?c3 ?c4; (case kA => exact rfl); (case kF => exact rfl); (case kK => assumption); (case k1 => k_asm); (case k2 => k_asm); (case k3 => k_asm); (case k4 => k_asm); (case k5 => k_asm); (case k6 => k_is); (case k7 => k_is); (case k8 => k_room); (case k9 => exact BindsTo.of_eq rfl); (case kB => exact rfl); (case kD => decide +kernel); (case c2 => exact rfl); (case c3 => exact rfl); (case c4 => exact rfl); k_whole))
local macro_rules | `(tactic| walk_at "stop") => `(tactic| (with_reducible show wpAny _ _ (compareOp _ (Value.ref _) _) _ _ _))
local macro_rules | `(tactic| walk_at "stop") => `(tactic| (with_reducible show wpAny _ _ (eval (PySem.Expr.ListComp _ _ _ _) _) _ _ _))
section
variable {w : World} {p : Program} {loose : List Str} {mean : ExcName → Option Value} {mg mb : Str → Option Value}
  {dp un : Nat} {gd : Option (List Code)} {cn : Str} {cs : Scope} {a : Addr} {ccd : Value} {cl : List (Str × Addr)} {outer : List Env} {A₀ : Around} {base h₀ : Heap} {L : Addr} {m : Str → Option Value} {s : Shared}
    {Q E : Value → Shared → Prop}
  (B : Below A₀ base outer h₀) (F : Fr h₀ L s.heap m) (X : (Mine.hd.heap_1 w.params).In h₀) (T : Top p loose mean mg mb h₀) (hk : cs.kind = .function)
include B F X T hk
theorem ring_tells (td rd : Addr) (tvs rvs : List Value) (told rds : List Str) (tn rn size least : Nat) (st lt : Tok) (news : List (Addr × Obj)) (N : News h₀ L s.heap news) (hs : Sep news)
  (htd : (td, W.listOf tvs.toArray tn) ∈ news) (hrd : (rd, W.listOf rvs.toArray rn) ∈ news) (ht : StrsAre tvs told) (hr : StrsAre rvs rds) (hzt : told.length ≤ 1000) (hzr : rds.length ≤ 1000)
  (g1 : ∀ x ∈ told, x ∈ rds) (z0 : Str) (mid : List Str) (g2 : told = z0 :: mid ++ [z0]) (g3 : (z0 :: mid).Nodup) (gl : ∀ x ∈ told, x.length = size) (hsz0 : size ≤ 1000)
  (g4 : ∀ k, 1 ≤ k → k < told.length → ∃ many, least ≤ many ∧ many < size ∧ (told.getD (k - 1) Str.empty).cps.toList.drop (size - many) = (told.getD k Str.empty).cps.toList.take many) (hdp : dp + 3 < recursionLimit) (hun : un + 128 < cLine)
  (ret : ∀ h' tk', Fr h₀ L h' m → News h₀ L h' news → Q (.bool true) { s with heap := h', toks := tk' }) :
    wpAny (model PySem.Challenge.rw_tv0044_02.row.prog w) (ktrTop dp un gd cn cs L a ccd cl outer) (call (.ref 174) [.ref td, .ref rd, .int (size : Nat) st, .int (least : Nat) lt]) Q E s := by
  revert X; k_fill; intro X
  refine wpAny_call ?_
  k_dflt (walk_at "enterC")
  intro gr L2 h2 tk2 cells FG2 F2 N2 Y2 B2 X2 T2 l2
  k_cells Y2
  (try dsimp only); (try k_unmd); k_fold
  rename_i o1 o2 o3 o4 d1 d2 d3 d4
  dsimp only [List.cons_append, List.nil_append] at N2
  have c4 : o4.data = .cell (some (.ref td)) := d4
  have c3 : o3.data = .cell (some (.ref rd)) := d3
  have c2 : o2.data = .cell (some (.int (size : Nat) st)) := d2
  have c1 : o1.data = .cell none := d1
  clear d1 d2 d3 d4
  have F2' : Fr gr L2 h2 (fun y => if y = Str.ofString "least" then some (.int (least : Nat) lt) else none) := F2
  clear F2
  have b0 : ∀ q ∈ (L2 + 1 + 1 + 1, o2) :: (L2 + 1 + 1, o3) :: (L2 + 1, o4) :: news, @LT.lt Nat _ q.1 (L2 + 1 + 1 + 1 + 1) := fun q hq => by
    rcases List.mem_cons.mp hq with rfl | hq
    · exact Nat.lt_succ_self _
    · rcases List.mem_cons.mp hq with rfl | hq
      · show @LT.lt Nat _ (L2 + 1 + 1) _
        lia
      · rcases List.mem_cons.mp hq with rfl | hq
        · show @LT.lt Nat _ (L2 + 1) _
          lia
        · have := l2 q hq
          show @LT.lt Nat _ q.1 _
          have h3 : @LT.lt Nat _ q.1 L2 := this
          lia
  have m2 : (L2 + 1 + 1 + 1, o2) ∈ (L2 + 1 + 1 + 1, o2) :: (L2 + 1 + 1, o3) :: (L2 + 1, o4) :: news := .head _
  have m3 : (L2 + 1 + 1, o3) ∈ (L2 + 1 + 1 + 1, o2) :: (L2 + 1 + 1, o3) :: (L2 + 1, o4) :: news := .tail _ (.head _)
  have m4 : (L2 + 1, o4) ∈ (L2 + 1 + 1 + 1, o2) :: (L2 + 1 + 1, o3) :: (L2 + 1, o4) :: news := .tail _ (.tail _ (.head _))
  have msub : ∀ q ∈ news, q ∈ (L2 + 1 + 1 + 1, o2) :: (L2 + 1 + 1, o3) :: (L2 + 1, o4) :: news := fun q hq => .tail _ (.tail _ (.tail _ hq))
  have htd' := msub _ htd
  have hrd' := msub _ hrd
  generalize hled : (L2 + 1 + 1 + 1, o2) :: (L2 + 1 + 1, o3) :: (L2 + 1, o4) :: news = led at N2 m2 m3 m4 msub htd' hrd' b0
  walk_at "go"
  refine compW (h₀ := gr) (L := L2) (cl := [(Str.ofString "reads", L2 + 1 + 1)]) (p := fun _ => false) (G := fun _ _ => True) ?hc ?c ?k ?n ?x ?s ?h
  case hc => with_unfolding_all rfl
  case c => decide
  case k => exact rfl
  case n => decide
  case x => exact rfl
  case s => intro _; with_unfolding_all rfl
  walk_at "go"
  rename Fr _ _ _ _ => F3
  rename News _ _ _ _ => N3
  have hvt : tvs.length = told.length := ht.length
  refine compList F3 N3 (.tail _ htd') (seven_le (by lia)) rfl ⟨?tests, fun C i v s3 m3 E' hv hp => Bool.noConfusion hp⟩ ?done
  case tests =>
    rintro C i v s3 m3 E' hv F4 N4 hn4 hm4
    obtain ⟨y, t4, rfl, hy⟩ := ht.item i v hv
    have hyr : decide (y ∈ rds) = true := decide_eq_true (g1 y (List.mem_of_getElem? hy))
    clear F3 N3
    refine wpAny_tests_one ?_
    walk_at "go"
    exact ⟨_, _, rfl, fun _ _ e => e⟩
  case done =>
    rintro D h4 tk4 ys k hG F4 N4 hoff
    rw [List.filter_eq_nil_iff.mpr (by simp)] at hG
    cases hG
    clear F3 N3
    walk_at "go"
    rename News _ _ _ _ => N5
    refine neI_M (ns := []) (ms := []) (c := true) N5 (.tail _ (.head _)) (.head _) .nil .nil (decide_eq_true rfl) (by show un + 3 + 64 < cLine; lia) ?_
    dsimp only [Bool.not_true]
    have N6 : News _ _ _ ((L2 + 1 + 1 + 1 + 1, o1) :: led) := fun q hq => N5 q (.tail _ (.tail _ hq))
    clear N5
    have hn0 : decide (told.getD 0 Str.empty = z0) = true := by rw [g2]; exact decide_eq_true rfl
    have hl2 : told.length = mid.length + 2 := by rw [g2]; simp
    have g2' : told = (z0 :: mid) ++ [z0] := g2
    walk_at "go"
    · exfalso
      rename (_ != _) = true => hx
      rw [g2] at hx
      simp at hx
    rename Fr _ _ _ _ => F6
    refine wpAny_For ?_
    walk_at "go"
    rename IsRange _ _ _ _ _ _ _ _ => R
    rw [hvt] at R
    rename Fr _ _ _ _ => F7
    rename News _ _ _ _ => N7
    have hsz : Builtin.Range.rangeSize 1 (told.length : Int) 1 = ((told.length - 1 : Nat) : Int) := by
      rw [rangeSize_nat]; lia
    have hsm : Builtin.Range.small 1 (told.length : Int) 1 = true := small_one (by lia) (by lia) (by lia) (by lia)
    refine rangeC (fun i m l => ∃ ok v0, l = (L2 + 1 + 1 + 1 + 1, ok) :: led ∧ ok.data = .cell v0 ∧ m (Str.ofString "least") = some (.int (least : Nat) lt)) rfl PassesOwn.leaving R hsm hsz F7 N7 ?_ ?_ ?_
    · exact ⟨o1, none, rfl, c1, by walk_at "loc"⟩
    · rintro I i t m1 news1 h5 tk5 oI hi ⟨ok, v0, rfl, hok, hm1⟩ hoff5 F8 N8
      clear F7 N7 R
      have hIk : I ≠ L2 + 1 + 1 + 1 + 1 := (hoff5 _ (.head _)).symm
      rw [show (1 + (i : Int)) = ((1 + i : Nat) : Int) from by lia]
      have hsl : StrsAre (List.take (((1 + i : Nat) : Int).toNat - (1 : Int).toNat) (List.drop (1 : Int).toNat tvs)) (List.take (((1 + i : Nat) : Int).toNat - (1 : Int).toNat) (List.drop (1 : Int).toNat told)) := (ht.drop' _).take' _
      have hin : decide (told.getD ((1 + i : Nat) : Int).toNat Str.empty ∈ List.take (((1 + i : Nat) : Int).toNat - (1 : Int).toNat) (List.drop (1 : Int).toNat told)) = false := by
        refine decide_eq_false ?_
        rw [g2, Int.toNat_natCast, show (1 : Int).toNat = 1 from rfl, show 1 + i - 1 = i from by lia]
        exact ring_new g3 (by lia) _
      obtain ⟨many, hm3, hm4, hm5⟩ := g4 (1 + i) (by lia) (by lia)
      have hA : (told.getD (1 + i - 1) Str.empty).length = size := gl _ (by
        rw [List.getD_eq_getElem?_getD, List.getElem?_eq_getElem (by lia)]
        exact List.getElem_mem _)
      have hB : (told.getD (1 + i) Str.empty).length = size := gl _ (by
        rw [List.getD_eq_getElem?_getD, List.getElem?_eq_getElem (by lia)]
        exact List.getElem_mem _)
      walk_at "go"
      rename Obj => o12
      rename Obj.data o12 = _ => hd12
      refine compW (h₀ := gr) (L := L2) (cl := [(Str.ofString "told", L2 + 1), (Str.ofString "size", L2 + 1 + 1 + 1), (Str.ofString "k", L2 + 1 + 1 + 1 + 1)])
        (p := fun v => match v with | .int z _ => (Txt.slice (told.getD (1 + i - 1) Str.empty) (some ((size : Int) - z)) none == Txt.slice (told.getD (1 + i) Str.empty) none (some z)) | _ => false) (G := fun v r => r = v) ?hc ?c ?k ?n ?x ?s ?h
      case hc => with_unfolding_all rfl
      case c => decide
      case k => exact rfl
      case n => decide
      case x => exact rfl
      case s => intro _; with_unfolding_all rfl
      walk_at "go"
      rename IsRange _ _ _ _ _ _ _ _ => R
      rename Fr _ _ _ _ => F9
      rename News _ _ _ _ => N9
      have hsz9 : Builtin.Range.rangeSize (least : Int) (size : Int) 1 = ((size - least : Nat) : Int) := by
        rw [rangeSize_nat]; lia
      have hsm9 : Builtin.Range.small (least : Int) (size : Int) 1 = true := small_one (by lia) (by lia) (by lia) (by lia)
      refine compRange F9 N9 R hsm9 hsz9 (seven_le (by lia)) rfl ⟨?tests9, ?elts9⟩ ?done9
      case tests9 =>
        rintro C j v s3 m3 E' ⟨t9, rfl⟩ F10 N10 hn10 hm10
        clear F9 N9 R
        have e9 : ((((1 + i : Nat) : Int) - 1).toNat) = 1 + i - 1 := by lia
        have hA' : (told.getD (((1 + i : Nat) : Int) - 1).toNat Str.empty).length = size := by rw [e9]; exact hA
        have hB' : (told.getD ((1 + i : Nat) : Int).toNat Str.empty).length = size := hB
        refine wpAny_tests_one ?_
        walk_at "go"
        rename_i u1 skh skt skk skF skN skK u2
        have hn11 : skh.Ns C m3 := hn10.keeps skK
        walk_at "go"
        · dsimp only
          rw [e9]; rfl
        · rename_i kk2
          exact ⟨_, _, rfl, fun b o e => kk2 b o (skK b o e)⟩
      case elts9 =>
        rintro C j v s3 m3 E' ⟨t9, rfl⟩ hp F10 N10 hn10 hm10
        clear F9 N9 R
        walk_at "go"
        exact ⟨_, _, rfl, fun _ _ e => e⟩
      case done9 =>
        rintro D9 h9 tk9 ys k vs hvl hvs hG F10 N10 hoff10
        clear F9 N9 R
        obtain ⟨ns, hi9, hne9⟩ := comp_ints hvs hG (j := many - least) (by lia) (fun t => by
          dsimp only
          rw [show (least : Int) + ((many - least : Nat) : Int) = ((many : Nat) : Int) from by lia, slice_from (by lia) (by lia), slice_upto (by lia) (by lia), str_beq]
          simp only [List.toList_toArray, Int.toNat_natCast]
          rw [show ((size : Int) - (many : Int)).toNat = size - many from by lia]
          exact decide_eq_true hm5)
        walk_at "go"
        rename News _ _ _ _ => N11
        refine eqI_M (ns := ns) (ms := []) (c := false) N11 (.tail _ (.head _)) (.head _) hi9 .nil (decide_eq_false hne9) (by show un + 3 + 64 < cLine; lia) ?_
        walk_at "go"
        rename Fr _ _ _ _ => F12
        rename News _ _ _ _ => N12
        dsimp only [PostG]
        refine EndG.intro (nx := (L2 + 1 + 1 + 1 + 1, o12) :: led) F12 (fun q hq => N12 q (.tail _ (.tail _ (.tail _ hq)))) (fun q hq => ?_) ⟨o12, _, rfl, hd12, hm1⟩
        rcases List.mem_cons.mp hq with rfl | hq
        · exact hIk.symm
        · exact hoff5 q (.tail _ hq)
    · rintro m1 news1 h5 tk5 ⟨ok, v0, rfl, hok, hm1⟩ F8 N8
      clear F7 N7 R
      walk_at "go"
      exact ret _ _ (by assumption) (fun q hq => by
        rename News _ L _ _ => N9
        exact N9 q (.tail _ (msub q hq)))
end
end
section
theorem anew_LawA_02 : True := by w_top off; trivial
-- the two looks at the text are run by the kernel as they stand: their twins would take 2 MiB
local macro_rules | `(tactic| k_qdec) => `(tactic| decide +kernel)
local macro_rules | `(tactic| walk_at "stop") => `(tactic| (with_reducible show wpAny _ _ (call (Value.ref 155) _) _ _ _))
local macro_rules | `(tactic| walk_at "stop") => `(tactic| (with_reducible show wpAny _ _ (call (Value.ref 169) _) _ _ _))
local macro_rules | `(tactic| walk_at "stop") => `(tactic| (with_reducible show wpAny _ _ (call (Value.ref 174) _) _ _ _))
local macro_rules | `(tactic| walk_at "stop") => `(tactic| (with_reducible show wpAny _ _ (call (Value.ref 162) _) _ _ _))
local macro_rules | `(tactic| walk_at "stop") => `(tactic| (with_reducible show wpAny _ _ (eval (PySem.Expr.ListComp _ _ _ _) _) _ _ _))
theorem sep2 {h₀ h : Heap} {L a : Addr} {o o' : Obj} (N : News h₀ L h [(a + 1, o), (a, o')]) : Sep [(a + 1, o), (a, o')] := by
  unfold Sep; simp
theorem led3 {nl a : Addr} {oN oB oA ol : Obj} (s1 : Sep [(nl, oN), (a + 1 + 1, oB), (a + 1, oA)]) :
    (nl, oN) ∈ upd [(nl, oN), (a + 1 + 1, oB), (a + 1, oA)] (a + 1) ol ∧ (a + 1 + 1, oB) ∈ upd [(nl, oN), (a + 1 + 1, oB), (a + 1, oA)] (a + 1) ol ∧ (a + 1, ol) ∈ upd [(nl, oN), (a + 1 + 1, oB), (a + 1, oA)] (a + 1) ol ∧ Sep (upd [(nl, oN), (a + 1 + 1, oB), (a + 1, oA)] (a + 1) ol) :=
  ⟨mem_upd_ne (.head _) fun e => Sep.head s1 (a + 1, oA) (.tail _ (.head _)) e.symm, mem_upd_ne (.tail _ (.head _)) fun e => Nat.succ_ne_self _ e, mem_upd_self (.tail _ (.tail _ (.head _))), s1.upd⟩
noncomputable def lawA : (P : Prop) ×' (Cp P → PySem.Challenge.rw_tv0044_02.Holds) := ⟨_, fun hP9 => hd (by
  k_go0
  all_goals try k_fold
  walk_at "go"
  rename IntsAre _ _ => hi0
  rename Heap.IsList _ _ _ => hsc
  rename Fr _ _ _ _ => F0
  rename News _ _ _ _ => N0
  rename CellsAre _ _ _ => Y0
  rename Shared => sS
  rename Below _ _ _ _ => B00
  have B0 : Below callerA sS.heap [] sS.heap := B00
  clear B00
  rename Top _ _ _ _ _ _ => T0
  rename Frag.In _ _ => X0
  rename ¬ (_ < _) => hkl
  rename _ = Data.cell _ => c2
  rename _ = Data.cell _ => c1
  clear Y0
  have hkl' := Int.not_lt.mp hkl
  have s0 : Sep [_, _] := sep2 N0
  refine numbers_tells B0 F0 X0 T0 rfl _ _ _ hsc hi0 (by lia) _ N0 s0 (by decide) (by exact Nat.le_of_ble_eq_true rfl) ?_
  intro h1 tk1 nl nvs ns nn hi1 hn11 F1 N1 s1
  clear hsc hi0 F0 N0
  have f1 := Int.fmod_nonneg_of_pos (ns.getD (Int.toNat 0) 0) (b := 3) (by lia)
  have f2 := Int.fmod_lt_of_pos (ns.getD (Int.toNat 0) 0) (b := 3) (by lia)
  have hnz : 3 + (ns.getD (Int.toNat 0) 0).fmod 3 - 1 ≠ 0 := by lia
  walk_at "go"
  rename Fr _ _ _ _ => F20
  rename News _ _ _ _ => N2
  rename Obj => ol
  rename Obj.data ol = _ => dl0
  rename World => w
  obtain ⟨tl, dl⟩ : ∃ t, ol.data = .cell (some (.int (1 + ((ns.getD (Int.toNat 0) 0).fdiv 3).fmod (3 + (ns.getD (Int.toNat 0) 0).fmod 3 - 1)) t)) := ⟨_, dl0⟩
  obtain ⟨m2, F2, ts, hm1, hm2⟩ : ∃ m2, Fr _ _ _ m2 ∧ ∃ ts, m2 (Str.ofString "size") = some (.int (3 + (ns.getD (Int.toNat 0) 0).fmod 3) ts) ∧ m2 (Str.ofString "numbers") = some (.ref nl) := ⟨_, F20, _, by walk_at "loc", by walk_at "loc"⟩
  clear F20 dl0
  obtain ⟨size, hz1, hz2, hz3⟩ : ∃ z : Nat, 3 + (ns.getD (Int.toNat 0) 0).fmod 3 = (z : Int) ∧ 3 ≤ z ∧ z ≤ 5 := ⟨(3 + (ns.getD (Int.toNat 0) 0).fmod 3).toNat, by lia, by lia, by lia⟩
  rw [hz1] at hm1 dl
  have f3 := Int.fmod_nonneg_of_pos ((ns.getD (Int.toNat 0) 0).fdiv 3) (b := (size : Int) - 1) (by lia)
  have f4 := Int.fmod_lt_of_pos ((ns.getD (Int.toNat 0) 0).fdiv 3) (b := (size : Int) - 1) (by lia)
  obtain ⟨least, hle1, hle2, hle3⟩ : ∃ z : Nat, 1 + ((ns.getD (Int.toNat 0) 0).fdiv 3).fmod ((size : Int) - 1) = (z : Int) ∧ 1 ≤ z ∧ z < size := ⟨(1 + ((ns.getD (Int.toNat 0) 0).fdiv 3).fmod ((size : Int) - 1)).toNat, by lia, by lia, by lia⟩
  rw [hle1] at dl
  obtain ⟨M1, M20, M3, S2⟩ := led3 (ol := ol) s1
  generalize hled : upd _ (sS.heap.objs.size + 1) ol = led at N2 M1 M20 M3 S2
  obtain ⟨oB, M2, dB⟩ : ∃ o, (sS.heap.objs.size + 1 + 1, o) ∈ led ∧ o.data = .cell none := ⟨_, M20, by assumption⟩
  clear M20
  clear hled s1 s0 f1 f2 f3 f4 hz1 hle1 hnz
  dsimp only
  rename_i zz1 zz3 zz4 zz5 zz6 zz7 zz8 zz9 zz10 zz11 zz12 zz14 zz15 zz16 zz18 zz19 zz20 zz21 zz22 zz23 zz24 zz25 zz26 zz27 zz28 zz29 zz30 zz31 zz32 zz33 zz34 zz35 zz36 zz37 zz38 zz39 zz40 zz41 zz43 zz44 zz45 zz46 zz47 zz48 zz49 zz63 zz65 zz66 zz67 zz68
  revert w zz1 sS zz3 zz4 zz5 zz6 zz7 zz8 zz9 zz10 zz11 zz12 X0 zz14 zz15 zz16 T0 zz18 zz19 zz20 zz21 zz22 zz23 zz24 zz25 zz26 zz27 zz28 zz29 zz30 zz31 zz32 zz33 zz34 zz35 zz36 zz37 zz38 zz39 zz40 zz41 hkl zz43 zz44 zz45 zz46 zz47 zz48 zz49 c1 qk ek B0 hkl' h1 tk1 nl nvs ns nn hi1 hn11 zz63 tk zz65 zz66 zz67 zz68 ol tl m2 F2 ts hm2 size hm1 hz2 hz3 least dl hle2 hle3 led N2 M1 M3 S2 oB M2 dB
  exact hP9.out)⟩
end
section
local macro_rules | `(tactic| walk_at "stop") => `(tactic| (with_reducible show wpAny _ _ (call (Value.ref 155) _) _ _ _))
local macro_rules | `(tactic| walk_at "stop") => `(tactic| (with_reducible show wpAny _ _ (call (Value.ref 169) _) _ _ _))
local macro_rules | `(tactic| walk_at "stop") => `(tactic| (with_reducible show wpAny _ _ (call (Value.ref 174) _) _ _ _))
local macro_rules | `(tactic| walk_at "stop") => `(tactic| (with_reducible show wpAny _ _ (call (Value.ref 162) _) _ _ _))
local macro_rules | `(tactic| walk_at "stop") => `(tactic| (with_reducible show wpAny _ _ (eval (PySem.Expr.ListComp _ _ _ _) _) _ _ _))
local macro_rules | `(tactic| walk_at "stop") => `(tactic| (with_reducible show wpAny _ _ (call (Value.builtin "str.join") _) _ _ _))
local macro_rules | `(tactic| walk_at "call type:range") => `(tactic| (k_here; k_dflt (first | (refine' range1_rows ?F ?N ?_; (case F => k_asm); (case N => k_asm); k_whole) | (refine' range2_rows ?F ?N ?_; (case F => k_asm); (case N => k_asm); k_whole)); intro rgh rgt rg1 rg2 rg3 rgR rgF rgN rgK))
local macro_rules | `(tactic| walk_at "stop") => `(tactic| (with_reducible show wpAny _ _ (call (Value.builtin "sorted") _) _ _ _))
section
theorem anew_LawB_02 : True := by w_top off; trivial
noncomputable def lawB : (P : Prop) ×' (Cp P → lawA.1) := ⟨_, fun hP9 => by
  intro w s₀ sS mg mb G Y fa o pm doc ho hg X0 X V GL T0 B TE TW w_1 w_2 M w_3 w_4 hcd w_5 hs hlay0 hL hr hl2 w_6 w_7 w_8 w_9 w_10 ra w1 r0 hr_1 hkl hcond' hD h₁ tk₁ w_11 w_12 left c1 qk ek B0 hkl' h1 tk1 nl nvs ns nn hi1 hn11 h' tk t h'_1 t_1 h'_2 ol tl m2 F2 ts hm2 size hm1 hz2 hz3 least dl hle2 hle3 led N2 M1 M3 S2 oB M2 dB
  revert X0; k_fill; intro X0
  refine compW (h₀ := sS.heap) (L := sS.heap.objs.size) (cl := []) (p := fun _ => true) (G := LetterG) ?hc ?c ?k ?n ?x ?s ?h
  case hc => with_unfolding_all rfl
  case c => decide
  case k => exact rfl
  case n => decide
  case x => exact rfl
  case s => intro _; with_unfolding_all rfl
  walk_at "go"
  rename Fr _ _ _ _ => F3
  rename News _ _ _ _ => N3
  rename IntsAre _ (List.drop _ _) => hi3
  rename (∀ p ∈ led, _) => hb3
  have hl3' := hi3.length
  rw [List.length_drop, hn11] at hl3'
  refine compList F3 N3 (.head _) (seven_le (by lia)) rfl ⟨?tests, ?elts⟩ ?done
  case tests =>
    intro C i v s3 m3 E' hv F4 N4 hn4 hm4
    exact wpAny_tests_nil ⟨rfl, _, _, rfl, fun _ _ e => e⟩
  case elts =>
    intro C i v s3 m3 E' hv hp F4 N4 hn4 hm4
    obtain ⟨z, t4, rfl, hz⟩ := hi3.at i v hv
    clear F3 N3
    have f1 := Int.fmod_nonneg_of_pos z (b := 4) (by lia)
    have f2 := Int.fmod_lt_of_pos z (b := 4) (by lia)
    walk_at "go"
    · exact ⟨⟨_, _, _, rfl, rfl⟩⟩
    · exact ⟨_, _, rfl, fun _ _ e => e⟩
  case done =>
    intro D h4 tk4 ys k hG F4 N4 hoff
    rw [List.filter_eq_self.mpr (by simp)] at hG
    obtain ⟨xs, hx1, hx2, hx3⟩ := letters hG
    rw [hl3'] at hx2
    clear F3 N3
    walk_at "go"
    rename Fr _ _ _ _ => F5
    rename News _ _ _ _ => N5
    refine join_M N5 (.head _) hx1 hx3 (by lia) ?_
    intro text tt k5 htl ht124
    rw [hx2] at htl
    walk_at "go"
    rename Fr _ _ _ _ => F60
    rename News _ _ _ _ => N6
    rename _ ∧ _ ∧ AllLt _ _ => hq
    rename_i rl _ _
    have S3 := sep3 (o1 := W.listOf #[] 0) (o2 := W.listOf ys.toArray k) S2 hb3 hoff hq
    generalize hled : (D, W.listOf ys.toArray k) :: _ = led1 at N6 S3
    have M4 : (sS.heap.objs.size + 1 + 1, oB) ∈ led1 := by rw [← hled]; exact .tail _ (.tail _ M2)
    have M5 : (sS.heap.objs.size + 1, ol) ∈ led1 := by rw [← hled]; exact .tail _ (.tail _ M3)
    obtain ⟨m6, F6, h61, ts6, h62, h63⟩ : ∃ m6, Fr _ _ _ m6 ∧ m6 (Str.ofString "text") = some (.str text tt) ∧ ∃ ts, m6 (Str.ofString "size") = some (.int (size : Nat) ts) ∧ m6 (Str.ofString "reads") = some (.ref rl) := ⟨_, F60, by walk_at "loc", _, by walk_at "loc", by walk_at "loc"⟩
    clear F60
    clear hled hq hoff hb3 hG hx1 hx3 hx2 hi3 hl3' hi1 hn11 hm1 hm2 M1 M2 M3 S2
    (try dsimp only)
    rename_i zz61 zz81 zz82 zz83 zz84 zz85 zz97 zz98 zz100 zz101
    revert w s₀ sS mg mb G Y fa o pm doc ho hg X V GL T0 B TE TW w_1 w_2 M w_3 w_4 hcd w_5 hs hlay0 hL hr hl2 w_6 w_7 w_8 w_9 w_10 ra w1 r0 hr_1 hkl hcond' hD h₁ tk₁ w_11 w_12 left c1 qk ek B0 hkl' h1 tk1 nl nvs ns nn h' zz61 t h'_1 t_1 h'_2 ol tl m2 ts size hz2 hz3 least dl hle2 hle3 led oB dB X0 zz81 zz82 zz83 zz84 zz85 D h4 tk4 ys k xs text tt k5 htl ht124 zz97 zz98 rl zz100 zz101 tk led1 N6 S3 M4 M5 m6 F6 h61 ts6 h62 h63
    exact hP9.out⟩
end
section
local macro_rules | `(tactic| walk_at "nothing") => `(tactic| fail)
theorem anew_LawC_02 : True := by w_top off; trivial
noncomputable def lawC : (P : Prop) ×' (Cp P → lawB.1) := ⟨_, fun hP9 => by
  intro w s₀ sS mg mb G Y fa o pm doc ho hg X V GL T0 B TE TW w_1 w_2 M w_3 w_4 hcd w_5 hs hlay0 hL hr hl2 w_6 w_7 w_8 w_9 w_10 ra w1 r0 hr_1 hkl hcond' hD h₁ tk₁ w_11 w_12 left c1 qk ek B0 hkl' h1 tk1 nl nvs ns nn h' tk t h'_1 t_1 h'_2 ol tl m2 ts size hz2 hz3 least dl hle2 hle3 led oB dB X0 D' ws' h'_3 hC' hL' D h4 tk4 ys k xs text tt k5 htl ht124 h'_4 tk_1 rl h'_5 h'_6 tk_2 led1 N6 S3 M4 M5 m6 F6 h61 ts6 h62 h63
  revert X0; k_fill; intro X0
  refine For_invVF F6 rfl rfl ?_
  walk_at "go"
  rename IsRange _ _ _ _ _ _ _ _ => R7
  rename Fr _ _ _ _ => F7
  rename News _ _ _ _ => N7
  have hszr : Builtin.Range.rangeSize 0 ((text.length : Int) - (size : Int) + 1) 1 = ((text.length - size + 1 : Nat) : Int) := by
    rw [rangeSize_nat]; lia
  have hsmr : Builtin.Range.small 0 ((text.length : Int) - (size : Int) + 1) 1 = true := small_one (by lia) (by lia) (by lia) (by lia)
  refine iterRange (fun i m l => ∃ rvs rn, l = (rl, W.listOf rvs.toArray rn) :: led1 ∧ Sep l ∧ StrsAre rvs (readsTo text size i) ∧ m (Str.ofString "text") = some (.str text tt) ∧ m (Str.ofString "size") = some (.int (size : Nat) ts6) ∧ m (Str.ofString "reads") = some (.ref rl))
    rfl R7 hsmr hszr F7 N7 ?_ ?_ ?_
  · exact ⟨[], 0, rfl, S3, .nil, h61, h62, h63⟩
  · rintro I i t m1 news1 h5 tk5 oI hi ⟨rvs, rn, rfl, s8, hst, g1, g2, g3⟩ hoff F8 N8
    clear F7 N7 R7
    rw [Int.zero_add] at F8
    have s9 := s8.cons_ne (o := oI) hoff
    have hne : rl ≠ I := hoff _ (.head _)
    have hlen := readsTo_le text size i
    have hlv := hst.length
    rcases Decidable.em (rdAt text size i ∈ readsTo text size i) with hin | hin
    · have hb : decide (Txt.slice text (some (i : Int)) (some ((i : Int) + (size : Int))) ∈ readsTo text size i) = true := decide_eq_true hin
      walk_at "go"
      rename Fr _ _ _ _ => F10
      rename News _ _ _ _ => N10
      dsimp only [PostG]
      refine EndG.intro F10 N10 hoff ⟨rvs, rn, rfl, s8, ?_, by walk_at "loc", by walk_at "loc", by walk_at "loc"⟩
      unfold readsTo
      rw [if_pos hin]
      exact hst
    · have hb : decide (Txt.slice text (some (i : Int)) (some ((i : Int) + (size : Int))) ∈ readsTo text size i) = false := decide_eq_false hin
      walk_at "go"
      rename Fr _ _ _ _ => F10
      rename News _ _ _ _ => N10
      rw [upd_cons, if_neg hne.symm, upd_hd s8] at N10
      dsimp only [PostG]
      refine EndG.intro F10 N10 (fun q hq => ?_) ⟨_, rn + 1, rfl, s8.hd _, ?_, by walk_at "loc", by walk_at "loc", by walk_at "loc"⟩
      · rcases List.mem_cons.mp hq with rfl | hq
        · exact hne
        · exact hoff q (.tail _ hq)
      · unfold readsTo
        rw [if_neg hin]
        exact StrsAre.append' hst (.cons _ _ .nil)
  · rintro m1 news1 h5 tk5 ⟨rvs, rn, rfl, s8, hst, g1, g2, g3⟩ F8 N8
    dsimp only
    clear F7 N7 R7
    have hrl := readsTo_le text size (text.length - size + 1)
    have hfl : ∀ f ∈ readsTo text size (text.length - size + 1), f.length = size := fun f hf => reads_len (by lia) hf
    generalize hrds : readsTo text size (text.length - size + 1) = rds at hst hrl hfl
    have F9 : Fr sS.heap sS.heap.objs.size h5 m1 := F8
    have N9 : News sS.heap sS.heap.objs.size h5 ((rl, W.listOf rvs.toArray rn) :: led1) := N8
    clear F8 N8 F6
    walk_at "go"
    rename _ ∧ _ ∧ _ ∧ AllLt _ _ => q3
    rename _ ∧ AllLt _ _ => q1
    rename _ < _ => q2
    rename Obj.IsDictOf _ _ ([] : List (Str × Value)) => hd0
    rename (_ == sysModules) = false => lo0
    rename Fr _ _ _ _ => F12
    rename News _ _ _ _ => N12
    obtain ⟨S, ok0, e1, e2, e3, e4, e5, e6, N13, s13⟩ := new_end (Ci := 40) N12 hd0 lo0 s8 q1 q2 q3
    rw [← e6] at F12
    obtain ⟨m13, F13, p1, p2, p3, p4⟩ : ∃ m13, Fr _ _ _ m13 ∧ m13 (Str.ofString "text") = some (.str text tt) ∧ m13 (Str.ofString "size") = some (.int (size : Nat) ts6) ∧ m13 (Str.ofString "reads") = some (.ref rl) ∧ m13 (Str.ofString "sorter") = some (.ref S.x) := ⟨_, F12, by walk_at "loc", by walk_at "loc", by walk_at "loc", by walk_at "loc"⟩
    clear F12 N12 hd0 lo0 s8 q1 q2 q3 g1 g2 g3 h61 h62 h63 hszr hsmr S3 e6
    clear ek qk
    (try dsimp only)
    rename_i zz61 zz108 zz109 zz110 zz111 zz112 zz113 zz124 zz125 zz126 zz127 zz128 zz129 zz130 zz131 zz132 zz133 zz134 zz136 zz137 zz138 zz139 zz140 zz141 zz142 zz143 zz144 zz145 zz146 zz147 zz148 zz149 zz150 zz151 zz152
    revert w s₀ sS mg mb G Y fa o pm doc ho hg X V GL T0 B TE TW w_1 w_2 M w_3 w_4 hcd w_5 hs hlay0 hL hr hl2 w_6 w_7 w_8 w_9 w_10 ra w1 r0 hr_1 hkl hcond' hD h₁ tk₁ w_11 w_12 left c1 qk ek B0 hkl' h1 tk1 nl nvs ns nn h' zz61 t h'_1 t_1 h'_2 ol tl m2 ts size hz2 hz3 least dl hle2 hle3 led oB dB D' ws' h'_3 hC' hL' D h4 tk4 ys k xs text tt k5 htl ht124 h'_4 tk_1 rl h'_5 h'_6 tk_2 led1 M4 M5 m6 ts6 X0 zz108 zz109 zz110 zz111 zz112 zz113 m1 h5 tk5 rvs rn rds hrds hst hrl hfl zz124 zz125 zz126 zz127 zz128 zz129 zz130 zz131 zz132 zz133 zz134 lifted zz136 zz137 zz138 zz139 zz140 zz141 zz142 zz143 zz144 zz145 zz146 zz147 zz148 zz149 zz150 zz151 zz152 tk S ok0 e1 e2 e3 e4 e5 N13 s13 m13 F13 p1 p2 p3 p4
    exact hP9.out⟩
end
section
theorem anew_LawD_02 : True := by w_top off; trivial
noncomputable def lawD : (P : Prop) ×' (Cp P → lawC.1) := ⟨_, fun hP9 => by
  intro w s₀ sS mg mb G Y fa o pm doc ho hg X V GL T0 B TE TW w_1 w_2 M w_3 w_4 hcd w_5 hs hlay0 hL hr hl2 w_6 w_7 w_8 w_9 w_10 ra w1 r0 hr_1 hkl hcond' hD h₁ tk₁ w_11 w_12 left c1 qk ek B0 hkl' h1 tk1 nl nvs ns nn h' tk t h'_1 t_1 h'_2 ol tl m2 ts size hz2 hz3 least dl hle2 hle3 led oB dB D' ws' h'_3 hC' hL' D h4 tk4 ys k xs text tt k5 htl ht124 h'_4 tk_1 rl h'_5 h'_6 tk_2 led1 M4 M5 m6 ts6 X0 rgh rgt rg1 rg2 rg3 rgK m1 h5 tk5 rvs rn rds hrds hst hrl hfl x' d' h'_7 g' L' h'_8 B' X' T' lifted lifted_1 lifted_2 tk_3 d'_1 h'_9 o' fs' hi' fi' h'_10 h'_11 h'_12 h'_13 F' N' tk_4 Gc' kX h'_14 tk_5 S ok0 e1 e2 e3 e4 e5 N13 s13 m13 F13 p1 p2 p3 p4
  revert X0; k_fill; intro X0
  refine wpAny_For ?_
  have hlv := hst.length
  have hrl' := List.mem_append_right (S.cells 137 40) (List.mem_cons_self .. : (rl, W.listOf rvs.toArray rn) ∈ (rl, W.listOf rvs.toArray rn) :: led1)
  generalize hled : S.cells 137 40 ++ (rl, W.listOf rvs.toArray rn) :: led1 = led2 at N13 s13 hrl'
  walk_at "go"
  refine sorted_M F13 N13 hrl' hst (by lia) ?_
  intro sl svs sds sn h14 F14 N14 hb14 hst14 hperm
  rw [← hled] at N14 s13 hb14
  clear hrl' hled N13 F13
  obtain ⟨la, lb, rfl⟩ := List.append_of_mem M4
  have s14 := (s13.cons (a := sl) (o := W.listOf svs.toArray sn) hb14).perm ledger_cell
  have N15 : News sS.heap sS.heap.objs.size h14 (S.cells 137 40 ++ (sS.heap.objs.size + 1 + 1, oB) :: (sl, W.listOf svs.toArray sn) :: (rl, W.listOf rvs.toArray rn) :: (la ++ lb)) := fun q hq => N14 q (ledger_cell.mem_iff.mpr hq)
  have M6 : (sS.heap.objs.size + 1, ol) ∈ la ++ lb := by
    rcases List.mem_append.mp M5 with h | h
    · exact List.mem_append_left _ h
    · rcases List.mem_cons.mp h with h | h
      · exact absurd (Prod.mk.inj h).1 (fun e => Nat.succ_ne_self _ e.symm)
      · exact List.mem_append_right _ h
  generalize la ++ lb = led3 at N15 s14 M6
  clear M5 M4 N14 s13 hb14
  refine listC (vs := svs) (ep := sn) (fun i m l => ∃ nds n2o ok v0, l = ({ S with nds := nds, n2o := n2o } : So).cells 137 40 ++ (sS.heap.objs.size + 1 + 1, ok) :: (sl, W.listOf svs.toArray sn) :: (rl, W.listOf rvs.toArray rn) :: led3 ∧ Sep l ∧ ({ S with nds := nds, n2o := n2o } : So).ok PySem.Challenge.rw_tv0044_02.row.prog w ∧
      nds.map Nd.pn = gTo rds least sds i ∧ nds.length ≤ i * 9 ∧ (∀ v ∈ nds.map Nd.pn, v.succ.length ≤ i * 8) ∧ ok.data = .cell v0 ∧
      m (Str.ofString "text") = some (.str text tt) ∧ m (Str.ofString "size") = some (.int (size : Nat) ts6) ∧ m (Str.ofString "reads") = some (.ref rl) ∧ m (Str.ofString "sorter") = some (.ref S.x))
    rfl PassesOwn.leaving ?_ F14 N15 ?_ ?_ ?_
  · rintro i m l ⟨nds, n2o, ok, v0, rfl, _⟩
    exact List.mem_append_right _ (.tail _ (.head _))
  · refine ⟨[], S.n2o, oB, none, ?_, s14, ?_, rfl, Nat.zero_le _, fun v hv => (nomatch hv), dB, p1, p2, p3, p4⟩
    · have e : ({ S with nds := [], n2o := S.n2o } : So) = S := by rw [← e1]
      rw [e]
    · have e : ({ S with nds := [], n2o := S.n2o } : So) = S := by rw [← e1]
      rw [e]; exact ok0
  · rintro I i v m1 news1 h5 tk5 oI hv ⟨nds, n2o, ok, v0, rfl, s15, okS, hg, hn1, hn2, dok, g1, g2, g3, g4⟩ hoff F15 N16
    clear F14 N15
    obtain ⟨k, kt, rfl, hk⟩ := hst14.item i v hv
    have hIo : I ≠ sS.heap.objs.size + 1 + 1 := (hoff _ (List.mem_append_right _ (.head _))).symm
    have sI := s15.cons_ne (o := oI) hoff
    generalize hS1 : ({ S with nds := nds, n2o := n2o } : So) = S1 at s15 okS N16 hoff sI
    have x1 : S1.x = S.x := by rw [← hS1]
    have x2 : S1.nds = nds := by rw [← hS1]
    have x3 : S1.rdy = none := by rw [← hS1]; exact e2
    have x4 : S1.rv = .none := by unfold So.rv; rw [x3]
    have s16 := sI.perm (List.Perm.cons _ List.perm_middle)
    have N17 : News _ _ _ ((I, oI) :: (sS.heap.objs.size + 1 + 1, ok) :: (S1.cells 137 40 ++ (sl, W.listOf svs.toArray sn) :: (rl, W.listOf rvs.toArray rn) :: led3)) := fun q hq => N16 q ((List.Perm.cons _ List.perm_middle).mem_iff.mpr hq)
    clear N16 sI
    have hx4 : (S.x, instObj 137 S1.dx) ∈ S1.cells 137 40 ++ (sl, W.listOf svs.toArray sn) :: (rl, W.listOf rvs.toArray rn) :: led3 := by rw [← x1]; exact List.mem_append_left _ (.head _)
    have hdx4 : (S1.dx, dictOf (sorterEs S1.hs S1.tk S1.n2i .none (.int S1.npo S1.t1) (.int S1.nfi S1.t2)) S1.dn) ∈ S1.cells 137 40 ++ (sl, W.listOf svs.toArray sn) :: (rl, W.listOf rvs.toArray rn) :: led3 := List.mem_append_left _ (by rw [← x4]; exact .tail _ (.head _))
    have hrl4 : (rl, W.listOf rvs.toArray rn) ∈ S1.cells 137 40 ++ (sl, W.listOf svs.toArray sn) :: (rl, W.listOf rvs.toArray rn) :: led3 := List.mem_append_right _ (.tail _ (.head _))
    have hol4 : (sS.heap.objs.size + 1, ol) ∈ S1.cells 137 40 ++ (sl, W.listOf svs.toArray sn) :: (rl, W.listOf rvs.toArray rn) :: led3 := List.mem_append_right _ (.tail _ (.tail _ M6))
    generalize hl4 : S1.cells 137 40 ++ (sl, W.listOf svs.toArray sn) :: (rl, W.listOf rvs.toArray rn) :: led3 = led4 at N17 s16 hx4 hdx4 hrl4 hol4
    refine storeX_C F15 N17 (by exact rfl) (UpdF.tail hIo (UpdF.head (Sep.head s16.tail))) dok ?_ rfl rfl
    intro h6 ob F18 N18 dob
    (try dsimp only at N18)
    clear F15 N17
    walk_at "go"
    refine MethodStar_ ?_ (by rfl)
    walk_at "go"
    rename Fr _ _ _ _ => F19
    rename News _ _ _ _ => N19
    rename_i qm _ _
    rename _ ∧ _ ∧ AllLt _ _ => hq19
    have s17 : Sep ((I, oI) :: (sS.heap.objs.size + 1 + 1, ob) :: led4) := s16
    have s19 : Sep ((qm, methodObj (Value.ref 87) (Value.ref S.x)) :: (I, oI) :: (sS.heap.objs.size + 1 + 1, ob) :: led4) := s17.cons fun p hp => by
      rcases List.mem_cons.mp hp with rfl | hp
      · exact hq19.1
      · rcases List.mem_cons.mp hp with rfl | hp
        · exact hq19.2.1
        · exact ktn_ltOf hq19.2.2 p hp
    refine callWith_SM (K := hd.heap_1 w.params) (g := 87) (self := .ref S.x) ?hf ?hh rfl rfl
    case hf => k_is
    walk_at "go"
    refine compW (h₀ := sS.heap) (L := sS.heap.objs.size) (cl := [(Str.ofString "least", sS.heap.objs.size + 1), (Str.ofString "back", sS.heap.objs.size + 1 + 1)])
      (p := fun v => match v with | .str f _ => decide (least ≤ lapN k.cps.toList (f.cps.toList.drop 1)) | _ => false) (G := fun v r => r = v) ?hc ?c ?k ?n ?x ?s ?h
    case hc => with_unfolding_all rfl
    case c => decide
    case k => exact rfl
    case n => decide
    case x => exact rfl
    case s => intro _; with_unfolding_all rfl
    walk_at "go"
    rename Fr _ _ _ _ => F20
    rename News _ _ _ _ => N20
    refine compList F20 N20 (.tail _ (.tail _ (.tail _ hrl4))) (seven_le (by lia)) rfl ⟨?tests, ?elts⟩ ?done
    case tests =>
      intro C j v s3 m3 E' hv F21 N21 hn21 hm21
      obtain ⟨f, ft, rfl, hf⟩ := hst.item j v hv
      clear F20 N20
      have hflf : f.length = size := hfl f (List.mem_of_getElem? hf)
      have hklk : k.length = size := hfl k (hperm.mem_iff.mp (List.mem_of_getElem? hk))
      refine wpAny_tests_one ?_
      walk_at "go"
      rename_i skh skt skk skF skN skK
      refine lap_tells B0 skF X0 T0 rfl _ _ _ _ _ skN s19 ?l1 ?l2 (by decide) (by exact Nat.le_of_ble_eq_true rfl) ?_
      case l1 => exact Nat.le_trans (Txt.slice_le f _ _) (by lia)
      case l2 => lia
      intro h22 tk22 t22 F22 kp22 N22
      rw [lap_slice _ (by lia)]
      walk_at "go"
      · exact decide_eq_decide.mpr Int.ofNat_le
      · exact ⟨_, _, rfl, fun b o e => kp22 b o (skK b o e)⟩
    case elts =>
      intro C j v s3 m3 E' hv hp F21 N21 hn21 hm21
      obtain ⟨f, ft, rfl, hf⟩ := hst.item j v hv
      clear F20 N20
      walk_at "go"
      exact ⟨_, _, rfl, fun _ _ e => e⟩
    case done =>
      intro D21 h21 tk21 ys kk hG F21 N21 hoff21
      clear F20 N20
      have hps : StrsAre ys (predsOf rds least k) := preds_strs hst hG
      have hpl := predsOf_le rds least k
      have hyl := hps.length
      refine star_seq F21 N21 (.head _) rfl rfl (.inl rfl) (ws := ys) (by simp) (seven_le (by simp; lia)) ?_
      intro h23 F23 N23
      clear F21 N21
      walk_at "go"
      rw [List.append_nil]
      have s23 := (s19.cons_ne (o := W.listOf ys.toArray kk) hoff21)
      rw [← hl4] at N23 s23
      have hil : i < svs.length := (List.getElem?_eq_some_iff.mp hv).1
      have hsl : svs.length = sds.length := hst14.length
      have hpl2 := hperm.length_eq
      refine add_star B0 F23 X0 T0 rfl S1 ((D21, W.listOf ys.toArray kk) :: (qm, methodObj (Value.ref 87) (Value.ref S.x)) :: (I, oI) :: (sS.heap.objs.size + 1 + 1, ob) :: (sl, W.listOf svs.toArray sn) :: (rl, W.listOf rvs.toArray rn) :: led3)
        (fun q hq => N23 q (perm4.mem_iff.mpr hq)) (s23.perm perm4) okS x3 k kt ys (predsOf rds least k) hps ?z1 (b := i * 8) ?z2 ?z3 (by decide) (by exact Nat.le_of_ble_eq_true rfl) ?zret qm ?zq
      case z1 => rw [x2]; lia
      case z2 => rw [x2]; exact hn2
      case z3 => lia
      case zq => rw [x1]; exact (N23 _ (.tail _ (.head _))).1
      case zret =>
        intro h24 tk24 nds' o' ok24 hg24 hl24 F24 N24 s24
        clear N23 F23
        have hg25 : nds'.map Nd.pn = gTo rds least sds (i + 1) := by rw [gTo_succ hk, ← hg, ← x2]; exact hg24
        have hl25 : nds'.length ≤ (i + 1) * 9 := by rw [x2] at hl24; lia
        have hs25 : ∀ v ∈ nds'.map Nd.pn, v.succ.length ≤ (i + 1) * 8 := fun v hv => by
          rw [hg24] at hv
          have := succ_addG (b := i * 8) (by rw [x2]; exact hn2) v hv
          lia
        walk_at "go"
        rename Fr _ _ _ _ => F26
        rename News _ _ _ _ => N26
        clear hl4
        subst hS1
        dsimp only [PostG]
        have N27 : News sS.heap sS.heap.objs.size _ ((I, oI) :: (({ S with nds := nds', n2o := o' } : So).cells 137 40 ++ (sS.heap.objs.size + 1 + 1, ob) :: (sl, W.listOf svs.toArray sn) :: (rl, W.listOf rvs.toArray rn) :: led3)) := fun q hq => N26 q (by
          rcases List.mem_cons.mp hq with rfl | hq
          · exact List.mem_append_right _ (.tail _ (.tail _ (.head _)))
          · rcases List.mem_append.mp hq with hq | hq
            · exact List.mem_append_left _ hq
            · exact List.mem_append_right _ (.tail _ (.tail _ (.tail _ hq))))
        have s27 : Sep ((I, oI) :: (({ S with nds := nds', n2o := o' } : So).cells 137 40 ++ (sS.heap.objs.size + 1 + 1, ob) :: (sl, W.listOf svs.toArray sn) :: (rl, W.listOf rvs.toArray rn) :: led3)) :=
          (s24.perm perm4.symm).tail.tail.perm (List.Perm.cons _ List.perm_middle.symm)
        exact EndG.intro F26 N27 (Sep.head s27) ⟨nds', o', ob, _, rfl, s27.tail, ok24, hg25, hl25, hs25, dob, g1, g2, g3, g4⟩
  · rintro mD newsD hD tkD ⟨nds, n2o, ok, v0, rfl, s15, okS, hg, hn1, hn2, dok, g1, g2, g3, g4⟩ F15 N16
    clear F14 N15
    dsimp only
    generalize hS2 : ({ S with nds := nds, n2o := n2o } : So) = T2 at s15 okS N16
    have y1 : T2.x = S.x := by rw [← hS2]
    have y2 : T2.nds.map Nd.pn = gTo rds least sds sds.length := by rw [← hS2, ← hst14.length]; exact hg
    have y3 : T2.rdy = none := by rw [← hS2]; exact e2
    have y4 : T2.npo = 0 := by rw [← hS2]; exact e4
    have y5 : T2.nfi = 0 := by rw [← hS2]; exact e5
    have y6 : T2.nds.length ≤ 1000 := by
      have := hst14.length
      have := hperm.length_eq
      rw [← hS2]
      show nds.length ≤ 1000
      lia
    have F16 : Fr sS.heap sS.heap.objs.size hD mD := F15
    rw [← y1] at g4
    have K1 : (rl, W.listOf rvs.toArray rn) ∈ (sS.heap.objs.size + 1 + 1, ok) :: (sl, W.listOf svs.toArray sn) :: (rl, W.listOf rvs.toArray rn) :: led3 := .tail _ (.tail _ (.head _))
    have K2 : (sS.heap.objs.size + 1, ol) ∈ (sS.heap.objs.size + 1 + 1, ok) :: (sl, W.listOf svs.toArray sn) :: (rl, W.listOf rvs.toArray rn) :: led3 := .tail _ (.tail _ (.tail _ M6))
    generalize hl5 : (sS.heap.objs.size + 1 + 1, ok) :: (sl, W.listOf svs.toArray sn) :: (rl, W.listOf rvs.toArray rn) :: led3 = led5 at s15 N16 K1 K2
    clear hl5 hS2 hg hn1 hn2 dok F15 hst14 M6 e1 e2 e3 e4 e5 ok0 p1 p2 p3 p4 y1 s14 dB
    rename_i zz43
    revert w s₀ sS mg mb G Y fa o pm doc ho hg X V GL T0 B TE TW w_1 w_2 M w_3 w_4 hcd w_5 hs hlay0 hL hr hl2 w_6 w_7 w_8 w_9 w_10 ra w1 r0 hr_1 hkl hcond' zz43 h₁ tk₁ w_11 w_12 left c1 qk ek B0 hkl' h1 tk1 nl nvs ns nn h' tk t h'_1 t_1 h'_2 ol tl m2 ts size hz2 hz3 least dl hle2 hle3 led oB D' ws' h'_3 hC' hL' D h4 tk4 ys k xs text tt k5 htl ht124 h'_4 tk_1 rl h'_5 h'_6 tk_2 m6 ts6 rgh rgt rg1 rg2 rg3 rgK m1 h5 tk5 rvs rn rds hrds hst hrl hfl x' d' h'_7 g' L' h'_8 B' X' T' lifted lifted_1 lifted_2 tk_3 d'_1 h'_9 o' fs' hi' fi' h'_10 h'_11 h'_12 h'_13 F' tk_4 Gc' kX h'_14 tk_5 S m13 X0 hlv led2 sl svs sds sn h14 hperm la lb N' led3 mD hD tkD nds n2o ok v0 g1 g2 g3 T2 g4 okS y2 y3 y4 y5 y6 F16 led5 s15 N16 K1 K2
    exact hP9.out⟩
end
section
theorem anew_LawE_02 : True := by w_top off; trivial
local macro_rules | `(tactic| walk_at "stop") => `(tactic| (with_reducible show wpAny _ _ (call (Value.ref 92) _) _ _ _))
theorem scOf_pn (nds : List Nd) : scOf nds = sucOf (nds.map Nd.pn) := funext fun k => by
  unfold scOf sucOf
  rw [List.find?_map, Option.map_map]; rfl
theorem keys_pn' (nds : List Nd) : nds.map (·.key) = (nds.map Nd.pn).map (·.key) := by rw [List.map_map]; rfl
noncomputable def lawE : (P : Prop) ×' (Cp P → lawD.1) := ⟨_, fun hP9 => by
  intro w s₀ sS mg mb G Y fa o pm doc ho hg X V GL T0 B TE TW w_1 w_2 M w_3 w_4 hcd w_5 hs hlay0 hL hr hl2 w_6 w_7 w_8 w_9 w_10 ra w1 r0 hr_1 hkl hcond' hD h₁ tk₁ w_11 w_12 left c1 qk ek B0 hkl' h1 tk1 nl nvs ns nn h' tk t h'_1 t_1 h'_2 ol tl m2 ts size hz2 hz3 least dl hle2 hle3 led oB D' ws' h'_3 hC' hL' D h4 tk4 ys k xs text tt k5 htl ht124 h'_4 tk_1 rl h'_5 h'_6 tk_2 m6 ts6 rgh rgt rg1 rg2 rg3 rgK m1 h5 tk5 rvs rn rds hrds hst hrl hfl x' d' h'_7 g' L' h'_8 B' X' T' lifted lifted_1 lifted_2 tk_3 d'_1 h'_9 o' fs' hi' fi' h'_10 h'_11 h'_12 h'_13 F' tk_4 Gc' kX h'_14 tk_5 S m13 X0 hlv led2 sl svs sds sn h14 hperm la lb N' led3 mD hD_1 tkD nds n2o ok v0 g1 g2 g3 T2 g4 okS y2 y3 y4 y5 y6 F16 led5 s15 N16 K1 K2
  revert X0; k_fill; intro X0
  have y7 : T2.rv = .none := by unfold So.rv; rw [y3]
  have hx5 : (T2.x, instObj 137 T2.dx) ∈ T2.cells 137 40 ++ led5 := List.mem_append_left _ (.head _)
  have hdx5 : (T2.dx, dictOf (sorterEs T2.hs T2.tk T2.n2i .none (.int T2.npo T2.t1) (.int T2.nfi T2.t2)) T2.dn) ∈ T2.cells 137 40 ++ led5 := List.mem_append_left _ (by rw [← y7]; exact .tail _ (.head _))
  generalize hl6 : T2.cells 137 40 ++ led5 = led6 at s15 N16 hx5 hdx5
  walk_at "go"
  rename Fr _ _ _ _ => F17
  rename News _ _ _ _ => N17
  dsimp only [List.append_nil]
  rw [← hl6] at N17 s15
  have hcl : ∀ v ∈ T2.nds, ∀ c ∈ v.succ, c ∈ T2.nds.map (·.key) := fun v hv c hc => by
    have := (gTo_closed (least := least) hperm v.pn (by rw [← y2]; exact List.mem_map.mpr ⟨v, hv, rfl⟩)).2 c hc
    rw [← y2, List.map_map] at this
    exact this
  refine wpAny_mono (Q := fun v s' => ∃ h' g' tk' te, s' = { sS with heap := h', toks := tk' } ∧ ToldIs (scOf T2.nds) (T2.nds.map (·.key)) v te ∧ Fr g' sS.heap.objs.size h' mD ∧ News g' sS.heap.objs.size h' (te ++ (T2.cells 137 40 ++ led5)) ∧ Sep (te ++ (T2.cells 137 40 ++ led5)) ∧
      Below callerA sS.heap [] g' ∧ (hd.heap_1 w.params).In g' ∧ Top view (looseW view [Str.ofString "_NodeInfo"]) (ExcName.means s₀.heap) mg mb g') ?find (fun v s' h => ?_) fun _ _ e => e
  case find =>
    refine find_tells (S := T2) (rest := led5) B0 F17 X0 T0 rfl X0 T0 ktsDicts_nil N17 s15 okS y6 hcl (by decide) (by exact Nat.le_of_ble_eq_true rfl) ?fnone ?fring
    case fnone =>
      intro h7 g7 tk7 T7 free7 F7 N7 B7 X7 P7 D7
      exact ⟨h7, g7, tk7, [], rfl, .inl ⟨rfl, rfl, free7⟩, F7, N7, s15, B7, X7, P7⟩
    case fring =>
      intro h7 g7 tk7 t7 vs7 told7 T7 ring7 keys7 str7 F7 N7 s7 B7 X7 P7 D7
      exact ⟨h7, g7, tk7, [_], rfl, .inr ⟨t7, vs7, told7, rfl, rfl, ring7, keys7, str7⟩, F7, N7, s7, B7, X7, P7⟩
  obtain ⟨h8, g8, tk8, te, rfl, htold, F18, N18, s18, B18, X18, P18⟩ := h
  clear F17 N17 hx5 hdx5
  have hx6 : (T2.x, instObj 137 T2.dx) ∈ te ++ (T2.cells 137 40 ++ led5) := List.mem_append_right _ (List.mem_append_left _ (.head _))
  have hdx6 : (T2.dx, dictOf (sorterEs T2.hs T2.tk T2.n2i .none (.int T2.npo T2.t1) (.int T2.nfi T2.t2)) T2.dn) ∈ te ++ (T2.cells 137 40 ++ led5) := List.mem_append_right _ (List.mem_append_left _ (by rw [← y7]; exact .tail _ (.head _)))
  clear hl6
  generalize hl6 : te ++ (T2.cells 137 40 ++ led5) = led6 at s18 N18 hx6 hdx6
  walk_at "go"
  rename Fr _ _ _ _ => F190
  rename News _ _ _ _ => N19
  obtain ⟨mE, F19, r1, r2, r3, r4, r5, r6⟩ : ∃ mE, Fr _ _ _ mE ∧ mE (Str.ofString "text") = some (.str text tt) ∧ mE (Str.ofString "size") = some (.int (size : Nat) ts6) ∧ mE (Str.ofString "reads") = some (.ref rl) ∧ mE (Str.ofString "sorter") = some (.ref T2.x) ∧ mE (Str.ofString "told") = some v ∧ mE (Str.ofString "refused") = some (.bool false) :=
    ⟨_, F190, by walk_at "loc", by walk_at "loc", by walk_at "loc", by walk_at "loc", by walk_at "loc", by walk_at "loc"⟩
  clear F190
  refine wpAny_mono (Q := fun fl s' => Box (fl = Flow.next ∧ ∃ h' g' tk' Dl ys kk b m', s' = { sS with heap := h', toks := tk' } ∧ Fr g' sS.heap.objs.size h' m' ∧ News g' sS.heap.objs.size h' (({ T2 with rdy := some (Dl, ys, kk), rds := ready0 T2.nds } : So).cells 137 40 ++ (te ++ led5)) ∧
      Sep (({ T2 with rdy := some (Dl, ys, kk), rds := ready0 T2.nds } : So).cells 137 40 ++ (te ++ led5)) ∧ ({ T2 with rdy := some (Dl, ys, kk), rds := ready0 T2.nds } : So).ok PySem.Challenge.rw_tv0044_02.row.prog w ∧
      Below callerA sS.heap [] g' ∧ (hd.heap_1 w.params).In g' ∧ Top view (looseW view [Str.ofString "_NodeInfo"]) (ExcName.means s₀.heap) mg mb g' ∧
      m' (Str.ofString "text") = some (.str text tt) ∧ m' (Str.ofString "size") = some (.int (size : Nat) ts6) ∧ m' (Str.ofString "reads") = some (.ref rl) ∧ m' (Str.ofString "sorter") = some (.ref T2.x) ∧ m' (Str.ofString "told") = some v ∧ m' (Str.ofString "refused") = some (.bool b) ∧
      (b = false ∧ Free (sc := scOf T2.nds) (T2.nds.map (·.key)) ∨ b = true ∧ ∃ told, Ring (sc := scOf T2.nds) told ∧ ∀ x ∈ told, x ∈ T2.nds.map (·.key)))) ?tryb (fun fl s' h => ?_) fun _ _ e => e
  case tryb =>
    refine wpAny_Try_except ?_
    walk_at "go"
    dsimp only [List.append_nil]
    have pe : (te ++ (T2.cells 137 40 ++ led5)).Perm (T2.cells 137 40 ++ (te ++ led5)) := List.perm_append_comm_assoc _ _ _
    rw [← hl6] at N19 s18
    refine prep_tells (S := T2) (rest := te ++ led5) B18 F19 X18 P18 rfl X0 T0 ktsDicts_nil (fun q hq => N19 q (pe.mem_iff.mpr hq)) (s18.perm pe) okS y3 y6 hcl (by decide) (by exact Nat.le_of_ble_eq_true rfl) ?pnone ?praise
    case pnone =>
      intro h7 g7 tk7 Dl ys kk T7 free7 ok7 F7 N7 s7 B7 X7 P7 D7
      walk_at "go"
      exact ⟨⟨rfl, h7, g7, _, Dl, ys, kk, false, mE, rfl, F7, N7, s7, ok7, B7, X7, P7, r1, r2, r3, r4, r5, r6, .inl ⟨rfl, free7⟩⟩⟩
    case praise =>
      intro h7 g7 G7 tk7 Dl ys kk e7 t7 vs7 told7 T7 ring7 keys7 ok7 F7 R7 up7 s7 B7 D7
      refine caught_OX (KF := hd.heap_1 w.params) R7 F7 B7 up7 X0 T0 D7 T7 ?q1 ?q2 ?q3 rfl rfl rfl rfl (by decide) ?q4
      case q1 => k_is
      case q2 => kts_isx
      case q3 =>
        intro h9 g9 T9 F9 N9 B9 X9 P9 D9
        walk_at "go"
        rename Fr _ _ _ _ => F10
        rename News _ _ _ _ => N10
        exact ⟨⟨rfl, _, g9, _, Dl, ys, kk, true, _, rfl, F10, N10, s7, ok7, B9, X9, P9, by walk_at "loc", by walk_at "loc", by walk_at "loc", by walk_at "loc", by walk_at "loc", by walk_at "loc", .inr ⟨rfl, told7, ring7, keys7⟩⟩⟩
      case q4 => exact PassesOwnAt.leaving
  obtain ⟨rfl, h20, g20, tk20, DlE, ysE, kkE, b, mF, rfl, F20, N20, s20, ok20, B20, X20, P20, u1, u2, u3, u4, u5, u6, hfr⟩ := h.out
  dsimp only
  obtain ⟨f, hf⟩ := first_ex text.cps.toList size least
  have hW : Lw text size least rds sds f := ⟨hz2, hle2, hle3, by lia, by lia, ht124, hrds.symm, hperm, hf⟩
  rw [scOf_pn, keys_pn', y2] at hfr htold
  have hP : Lp text size least rds (gTo rds least sds sds.length) f 0 (T2.nds.map Nd.pn) (ready0 T2.nds) T2.npo T2.nfi := by rw [y4, y5]; exact hW.start y2
  generalize hT3 : ({ T2 with rdy := some (DlE, ysE, kkE), rds := ready0 T2.nds } : So) = T3 at N20 s20 ok20
  have v1 : T3.x = T2.x := by rw [← hT3]
  have v2 : T3.rdy = some (DlE, ysE, kkE) := by rw [← hT3]
  have v3 : Lp text size least rds (gTo rds least sds sds.length) f 0 (T3.nds.map Nd.pn) T3.rds T3.npo T3.nfi := by rw [← hT3]; exact hP
  have K3 : (rl, W.listOf rvs.toArray rn) ∈ te ++ led5 := List.mem_append_right _ K1
  have K4 : (sS.heap.objs.size + 1, ol) ∈ te ++ led5 := List.mem_append_right _ K2
  clear hT3 hP r1 r2 r3 r4 r5 r6 F19 B18 X18 P18 s18 hx6 hdx6 N19 hl6 K1 K2 y3 y4 y5 y6 y7 okS hcl
  rename_i zz61 zz177 zz186 zz188
  revert w s₀ sS mg mb G Y fa o pm doc ho hg X V GL T0 B TE TW w_1 w_2 M w_3 w_4 hcd w_5 hs hlay0 hL hr hl2 w_6 w_7 w_8 w_9 w_10 ra w1 r0 hr_1 hkl hcond' hD h₁ tk₁ w_11 w_12 left c1 qk ek B0 hkl' h1 tk1 nl nvs ns nn h' zz61 t h'_1 t_1 h'_2 ol tl m2 ts size hz2 hz3 least dl hle2 hle3 led oB D' ws' h'_3 hC' hL' D h4 tk4 ys k xs text tt k5 htl ht124 h'_4 tk_1 rl h'_5 h'_6 tk_2 m6 ts6 rgh rgt rg1 rg2 rg3 rgK m1 h5 tk5 rvs rn rds hrds hst hrl hfl x' d' h'_7 g' L' h'_8 B' X' T' lifted lifted_1 lifted_2 tk_3 d'_1 h'_9 o' fs' hi' fi' h'_10 h'_11 h'_12 h'_13 F' tk_4 Gc' kX h'_14 tk_5 S m13 hlv led2 sl svs sds sn h14 hperm la lb N' led3 mD hD_1 tkD nds n2o ok v0 g1 g2 g3 T2 g4 y2 led5 X0 zz177 s15 v h8 g8 tk8 te htold led6 zz186 tk zz188 mE h20 g20 tk20 DlE ysE kkE b mF h F20 B20 X20 P20 u1 u2 u3 u4 u5 u6 hfr f hf hW T3 N20 s20 ok20 v1 v2 v3 K3 K4
  exact hP9.out⟩
end
section
theorem anew_LawF_02 : True := by w_top off; trivial
local macro_rules | `(tactic| walk_at "stop") => `(tactic| (with_reducible show wpAny _ _ (call (Value.ref 106) _) _ _ _))
local macro_rules | `(tactic| walk_at "stop") => `(tactic| (with_reducible show wpAny _ _ (call (Value.ref 99) _) _ _ _))
local macro_rules | `(tactic| walk_at "stop") => `(tactic| (with_reducible show wpAny _ _ (call (Value.ref 120) _) _ _ _))
local macro_rules | `(tactic| walk_at "stop") => `(tactic| (with_reducible show WhlRest _ _ _ _ _ _ _ _ _ _ _))
noncomputable def lawF : (P : Prop) ×' (Cp P → lawE.1) := ⟨_, fun hP9 => by
  intro w s₀ sS mg mb G Y fa o pm doc ho hg X V GL T0 B TE TW w_1 w_2 M w_3 w_4 hcd w_5 hs hlay0 hL hr hl2 w_6 w_7 w_8 w_9 w_10 ra w1 r0 hr_1 hkl hcond' hD h₁ tk₁ w_11 w_12 left c1 qk ek B0 hkl' h1 tk1 nl nvs ns nn h' tk t h'_1 t_1 h'_2 ol tl m2 ts size hz2 hz3 least dl hle2 hle3 led oB D' ws' h'_3 hC' hL' D h4 tk4 ys k xs text tt k5 htl ht124 h'_4 tk_1 rl h'_5 h'_6 tk_2 m6 ts6 rgh rgt rg1 rg2 rg3 rgK m1 h5 tk5 rvs rn rds hrds hst hrl hfl x' d' h'_7 g' L' h'_8 B' X' T' lifted lifted_1 lifted_2 tk_3 d'_1 h'_9 o' fs' hi' fi' h'_10 h'_11 h'_12 h'_13 F' tk_4 Gc' kX h'_14 tk_5 S m13 hlv led2 sl svs sds sn h14 hperm la lb N' led3 mD hD_1 tkD nds n2o ok v0 g1 g2 g3 T2 g4 y2 led5 X0 led6 s15 v h8 g8 tk8 te htold led6_1 h'_15 tk_6 h'_16 mE h20 g20 tk20 DlE ysE kkE b mF h F20 B20 X20 P20 u1 u2 u3 u4 u5 u6 hfr f hf hW T3 N20 s20 ok20 v1 v2 v3 K3 K4
  revert X0 X20; k_fill; intro X0 X20
  generalize hrest : te ++ led5 = rest at N20 s20 K3 K4
  generalize hl6 : T3.cells 137 40 ++ rest = led6 at N20 s20
  walk_at "go"
  rename Fr _ _ _ _ => F21
  rename News _ _ _ _ => N21
  rw [← hl6] at N21 s20
  clear hl6
  refine whl_start 0 (whileS (fun n s' => ∃ (h : Heap) (tk : Nat) (T : So) (Dl : Addr) (rvs : List Value) (rn p : Nat) (line : Str) (tl : Tok) (m : Str → Option Value), s' = { sS with heap := h, toks := tk } ∧ Fr g20 sS.heap.objs.size h m ∧ News g20 sS.heap.objs.size h (T.cells 137 40 ++ rest) ∧ Sep (T.cells 137 40 ++ rest) ∧ T.ok PySem.Challenge.rw_tv0044_02.row.prog w ∧ T.rdy = some (Dl, rvs, rn) ∧ T.x = T2.x ∧
      Lp text size least rds (gTo rds least sds sds.length) f p (T.nds.map Nd.pn) T.rds T.npo T.nfi ∧ line.cps.toList = lineTo text.cps.toList size p ∧ n + p = f ∧
      m (Str.ofString "line") = some (.str line tl) ∧ m (Str.ofString "text") = some (.str text tt) ∧ m (Str.ofString "size") = some (.int (size : Nat) ts6) ∧ m (Str.ofString "reads") = some (.ref rl) ∧ m (Str.ofString "sorter") = some (.ref T2.x) ∧ m (Str.ofString "told") = some v ∧ m (Str.ofString "refused") = some (.bool b))
      PassesOwn.leaving ?wturn f ?wh0)
  case wh0 =>
    exact ⟨_, _, T3, DlE, ysE, kkE, 0, Str.ofString "", _, _, rfl, F21, N21, s20, ok20, v2, v1, v3, by unfold lineTo; rw [if_pos rfl]; decide, rfl, by walk_at "loc", by walk_at "loc", by walk_at "loc", by walk_at "loc", by walk_at "loc", by walk_at "loc", by walk_at "loc"⟩
  case wturn =>
    rintro n s3 ⟨h3, tk3, T, Dw, rvw, rnw, p, line, tl, mw, rfl, F22, N22, s22, okw, rw2, rw1, hP, hline, hnp, z1, z2, z3, z4, z5, z6, z7⟩ again
    clear F21 N21
    have hfl2 := hW.flt
    have hpf := hP.le
    have hll : line.length ≤ text.length := by
      have e : line.length = line.cps.toList.length := by simp [PySem.Str.length]
      rw [e, hline]
      unfold lineTo
      split
      · exact Nat.zero_le _
      · rw [List.length_take]
        have : text.cps.toList.length = text.length := by simp [PySem.Str.length]
        lia
    have hx7 : (T.x, instObj 137 T.dx) ∈ T.cells 137 40 ++ rest := List.mem_append_left _ (.head _)
    have hdx7 : (T.dx, dictOf (sorterEs T.hs T.tk T.n2i (.ref Dw) (.int T.npo T.t1) (.int T.nfi T.t2)) T.dn) ∈ T.cells 137 40 ++ rest := List.mem_append_left _ (So.mem_dx1 rw2)
    rw [← rw1] at z5
    generalize hl7 : T.cells 137 40 ++ rest = led7 at N22 s22 hx7 hdx7
    walk_at "go"
    rename Fr _ _ _ _ => F23
    rename News _ _ _ _ => N23
    dsimp only [List.append_nil]
    rw [← hl7] at N23 s22 hx7 hdx7
    clear hl7
    have hrl7 : T.rds.length ≤ 1 := by
      rw [hP.rd_]
      split <;> simp
    refine active_tells (S := T) (rest := rest) B20 F23 X20 P20 rfl N23 s22 okw rw2 (by lia) (by decide) (by exact Nat.le_of_ble_eq_true rfl) ?_
    intro h8 tk8 F24 N24
    rw [hP.active]
    clear F23 N23
    have hol8 := List.mem_append_right (T.cells 137 40) K4
    have hrl8 := List.mem_append_right (T.cells 137 40) K3
    rcases Nat.lt_or_ge p f with hpf2 | hpf2
    · rw [decide_eq_true hpf2]
      have hrd : T.rds = [rdAt text size p] := by rw [hP.rd_, if_pos hpf2]
      generalize hl8 : T.cells 137 40 ++ rest = led8 at N24 s22 hx7 hdx7 hol8 hrl8
      walk_at "go"
      rename Fr _ _ _ _ => F25
      rename News _ _ _ _ => N25
      dsimp only [List.append_nil]
      rw [← hl8] at N25 s22
      clear hl8
      refine ready_tells (S := T) (rest := rest) B20 F25 X20 P20 rfl N25 s22 okw rw2 (by lia) (by rw [hrd]; simp) (by rw [hrd]; intro k hk; rw [List.mem_singleton.mp hk, keys_pn']; exact hP.key hW hpf2) (by decide) (by exact Nat.le_of_ble_eq_true rfl) ?_
      intro h9 tk9 t9 nds9 rn9 t19 ok9 hg9 hk9 F26 N26 s26
      have hrv : StrsAre rvw [rdAt text size p] := by
        have := okw.rds
        rw [rw2, hrd] at this
        exact this
      obtain ⟨y9, rfl⟩ : ∃ y, rvw = [.str (rdAt text size p) y] := by
        cases hrv with
        | cons _ t h => cases h; exact ⟨_, rfl⟩
      generalize hT9 : ({ T with nds := nds9, rdy := some (Dw, [], rn9), rds := [], npo := T.npo + (T.rds.length : Nat), t1 := t19 } : So) = T9 at ok9 N26 s26
      have a1 : T9.x = T.x := by rw [← hT9]
      have a2 : T9.rdy = some (Dw, [], rn9) := by rw [← hT9]
      have a3 : T9.nds.map Nd.pn = outG (T.nds.map Nd.pn) [rdAt text size p] := by rw [← hT9, ← hrd]; exact hg9
      have a4 : T9.rds = [] := by rw [← hT9]
      have a5 : T9.npo = T.npo + 1 := by rw [← hT9, hrd]; rfl
      have a6 : T9.nfi = T.nfi := by rw [← hT9]
      have hx9 : (T.x, instObj 137 T9.dx) ∈ (t9, tupOf [Value.str (rdAt text size p) y9].toArray 0) :: (T9.cells 137 40 ++ rest) := by rw [← a1]; exact .tail _ (List.mem_append_left _ (.head _))
      have hdx9 : (T9.dx, dictOf (sorterEs T9.hs T9.tk T9.n2i (.ref Dw) (.int T9.npo T9.t1) (.int T9.nfi T9.t2)) T9.dn) ∈ (t9, tupOf [Value.str (rdAt text size p) y9].toArray 0) :: (T9.cells 137 40 ++ rest) := .tail _ (List.mem_append_left _ (So.mem_dx1 a2))
      clear F25 N25 hx7 hdx7 hol8 hrl8
      generalize hl9 : T9.cells 137 40 ++ rest = led9 at N26 s26 hx9 hdx9
      have hrlen : (rdAt text size p).length = size := rdAt_len (by lia)
      have hll2 : line.length ≤ 1000 := by lia
      walk_at "go"
      rename Fr _ _ _ _ => F27
      rename News _ _ _ _ => N27
      refine lap_tells B20 F27 X20 P20 rfl _ _ _ _ _ N27 s26 ?l1 ?l2 (by decide) (by exact Nat.le_of_ble_eq_true rfl) ?_
      case l1 => lia
      case l2 => lia
      intro h28 tk28 t28 F28 kp28 N28
      clear F27 N27
      rw [hline]
      obtain ⟨w1, w2⟩ := hW.line hpf2
      have hsl2 : (Txt.slice (rdAt text size p) (some (lapN (rdAt text size p).cps.toList (lineTo text.cps.toList size p) : Nat)) none).length ≤ 1000 := Nat.le_trans (Txt.slice_le _ _ _) (by lia)
      walk_at "go"
      rename Fr _ _ _ _ => F29
      rename News _ _ _ _ => N29
      rw [show (Value.ref T.x) = Value.ref T9.x from by rw [a1]]
      rw [← hl9] at N29 s26
      clear hl9
      have hsm : Small (T9.nds.map Nd.pn) := by rw [a3]; exact (hP.small hW).setN _ _
      obtain ⟨st1, st2⟩ := hP.step hW hpf2
      have pm9 : ((t9, tupOf [Value.str (rdAt text size p) y9].toArray 0) :: (T9.cells 137 40 ++ rest)).Perm (T9.cells 137 40 ++ (t9, tupOf [Value.str (rdAt text size p) y9].toArray 0) :: rest) := List.perm_middle.symm
      refine done_tells (S := T9) (rest := (t9, tupOf [Value.str (rdAt text size p) y9].toArray 0) :: rest) B20 F29 X20 P20 rfl (fun q hq => N29 q (pm9.mem_iff.mpr hq)) (s26.perm pm9) ok9 a2 [.str (rdAt text size p) y9] [rdAt text size p] (.cons _ _ .nil) (by simp) (by rw [a4]; simp)
        (by have := hsm.1; rwa [List.length_map] at this) (fun v hv => hsm.2.1 v.pn (List.mem_map.mpr ⟨v, hv, rfl⟩)) (fun v hv c hc => by rw [keys_pn']; exact hsm.2.2 v.pn (List.mem_map.mpr ⟨v, hv, rfl⟩) c hc) (by rw [a3, a4]; exact st1) (by decide) (by exact Nat.le_of_ble_eq_true rfl) ?_
      intro h30 tk30 nds30 rvs30 rn30 rds30 t30 ok30 hg30 hk30 F30 N30 s30
      rw [a3, a4] at hg30
      walk_at "go"
      have hn1 : n - 1 < n := by lia
      have hn2 : n - 1 + (p + 1) = f := by lia
      have hP2 : Lp text size least rds (gTo rds least sds sds.length) f (p + 1) (nds30.map Nd.pn) rds30 T9.npo (T9.nfi + 1) := by
        have e1 := congrArg Prod.fst hg30
        have e2 := congrArg Prod.snd hg30
        dsimp only at e1 e2
        rw [e1, e2, a5, a6]
        exact st2
      have hl30 : (line ++ Txt.slice (rdAt text size p) (some (lapN (rdAt text size p).cps.toList (lineTo text.cps.toList size p) : Nat)) none).cps.toList = lineTo text.cps.toList size (p + 1) := by
        rw [KT.app_list, hline, slice_from (by lia) (by lia), w1, Int.toNat_natCast]
      refine again (n - 1) _ hn1 ⟨_, _, ({ T9 with nds := nds30, rdy := some (Dw, rvs30, rn30), rds := rds30, nfi := T9.nfi + 1, t2 := t30 } : So), Dw, rvs30, rn30, p + 1, _, _, _, rfl, F30, fun q hq => N30 q ?_, ?_, ok30, rfl, a1.trans rw1, hP2, hl30, hn2, by walk_at "loc", by walk_at "loc", by walk_at "loc", by walk_at "loc", ?_, by walk_at "loc", by walk_at "loc"⟩
      · rcases List.mem_append.mp hq with hq | hq
        · exact List.mem_append_left _ hq
        · exact List.mem_append_right _ (.tail _ hq)
      · exact s30.sub ((List.Sublist.refl _).append (List.sublist_cons_self _ _))
      · rw [← rw1]; walk_at "loc"
    · rw [decide_eq_false (by lia)]
      generalize hl8 : T.cells 137 40 ++ rest = led8 at N24 s22 hx7 hdx7 hol8 hrl8
      have hpe : p = f := Nat.le_antisymm hpf hpf2
      have hlF : line.cps.toList = lineTo text.cps.toList size f := by rw [← hpe]; exact hline
      have htF : ∀ q ∈ rest, q ∈ led8 := fun q hq => by rw [← hl8]; exact List.mem_append_right _ hq
      rw [← hrest] at htF
      clear again hP hline hnp hl8 okw rw2 hrl7 hx7 hdx7 hpf hpf2 hpe K3 K4 hrest
      rename_i zz67 zz176 zz179 zz181 zz220
      revert w s₀ sS mg mb G Y fa o pm doc ho hg X V GL T0 B TE TW w_1 w_2 M w_3 w_4 hcd w_5 hs hlay0 hL hr hl2 w_6 w_7 w_8 w_9 w_10 ra w1 r0 hr_1 hkl hcond' hD h₁ tk₁ w_11 w_12 left c1 qk ek B0 hkl' h1 tk1 nl nvs ns nn h' tk t h'_1 t_1 h'_2 ol zz67 m2 ts size hz2 hz3 least dl hle2 hle3 led oB D' ws' h'_3 hC' hL' D h4 tk4 ys k xs text tt k5 htl ht124 h'_4 tk_1 rl h'_5 h'_6 tk_2 m6 ts6 rgh rgt rg1 rg2 rg3 rgK m1 h5 tk5 rvs rn rds hrds hst hrl hfl x' d' h'_7 g' L' h'_8 B' X' T' lifted lifted_1 lifted_2 tk_3 d'_1 h'_9 o' fs' hi' fi' h'_10 h'_11 h'_12 h'_13 F' tk_4 Gc' kX h'_14 tk_5 S m13 hlv led2 sl svs sds sn h14 hperm la lb N' led3 mD hD_1 tkD nds n2o ok v0 g1 g2 g3 T2 g4 y2 led5 zz176 s15 v zz179 g8 zz181 te htold led6_1 h'_15 tk_6 h'_16 mE h20 g20 tk20 DlE ysE kkE b mF h B20 P20 u1 u2 u3 u4 u5 u6 hfr f hf hW T3 ok20 v1 v2 v3 X0 X20 rest led6 s20 zz220 n h3 tk3 T Dw rvw rnw p line tl mw rw1 z1 z2 z3 z4 z5 z6 z7 hfl2 hll led7 h8 tk8 F24 led8 N24 s22 hol8 hrl8 hlF htF
      exact hP9.out⟩
end
section
theorem anew_LawG_02 : True := by w_top off; trivial
theorem goodT {cl : Str → Option Addr} {mean : ExcName → Option Value} {args : List WData} {s₁ s' : Shared} (K : ∀ b o, s₁.heap.get? b = some o → s'.heap.get? b = some o) (hg : s'.gens = #[]) (hos : s'.os = s₁.os := by rfl) :
    GoodW PySem.Challenge.rw_tv0044_02.row.claim cl mean args s₁ (.ok (.ret (.bool true))) s' := by
  refine ⟨.inl ⟨_, _, [], rfl, raisesW_false allW_false_nil, .bool true, ?_, unshared_nil⟩, K, hos, hg⟩
  refine postW_of ?_ (w_eq_bool (w_res rfl) w_lit) ?_
  · rfl
  · rfl
local macro_rules | `(tactic| walk_at "stop") => `(tactic| (with_reducible show GoodW _ _ _ _ _ _ _))
theorem lawG : lawF.1 := by
  intro w s₀ sS mg mb G Y fa o pm doc ho hg X V GL T0 B TE TW w_1 w_2 M w_3 w_4 hcd w_5 hs hlay0 hL hr hl2 w_6 w_7 w_8 w_9 w_10 ra w1 r0 hr_1 hkl hcond' hD h₁ tk₁ w_11 w_12 left c1 qk ek B0 hkl' h1 tk1 nl nvs ns nn h' tk t h'_1 t_1 h'_2 ol tl m2 ts size hz2 hz3 least dl hle2 hle3 led oB D' ws' h'_3 hC' hL' D h4 tk4 ys k xs text tt k5 htl ht124 h'_4 tk_1 rl h'_5 h'_6 tk_2 m6 ts6 rgh rgt rg1 rg2 rg3 rgK m1 h5 tk5 rvs rn rds hrds hst hrl hfl x' d' h'_7 g' L' h'_8 B' X' T' lifted lifted_1 lifted_2 tk_3 d'_1 h'_9 o' fs' hi' fi' h'_10 h'_11 h'_12 h'_13 F' tk_4 Gc' kX h'_14 tk_5 S m13 hlv led2 sl svs sds sn h14 hperm la lb N' led3 mD hD_1 tkD nds n2o ok v0 g1 g2 g3 T2 g4 y2 led5 led6 s15 v h8 g8 tk8 te htold led6_1 h'_15 tk_6 h'_16 mE h20 g20 tk20 DlE ysE kkE b mF h B20 P20 u1 u2 u3 u4 u5 u6 hfr f hf hW T3 ok20 v1 v2 v3 X0 X20 rest led6_2 s20 h'_17 n h3 tk3 T Dw rvw rnw p line tl_1 mw rw1 z1 z2 z3 z4 z5 z6 z7 hfl2 hll led7 h8_1 tk8_1 F24 led8 N24 s22 hol8 hrl8 hlF htF
  revert X0 X20; k_fill; intro X0 X20
  walk_at "go"
  rename Fr _ _ _ _ => F40
  rename News _ _ _ _ => N40
  have hfit := hW.fits
  have hshort := hW.short
  have hKeep : ∀ {h' : Heap} {m' : Str → Option Value}, Fr g20 sS.heap.objs.size h' m' → ∀ b o, sS.heap.get? b = some o → h'.get? b = some o := fun F b o e => F.keep b o (B20.stays b o e)
  refine hind_tells B20 F40 X20 P20 rfl text _ size least _ _ _ N40 s22 (by lia) (by lia) hle2 hle3 (by decide) (by exact Nat.le_of_ble_eq_true rfl) ?_
  intro h41 tk41 r41 t41 hr41 F41 N41
  rw [hr41.one hW.first]
  clear F40 N40 hr41
  have hxl : text.cps.toList.length = text.length := by simp [PySem.Str.length]
  rcases Nat.eq_zero_or_pos f with hf0 | hf0
  · have hc0 : decide (line = Str.ofString "") = true := decide_eq_true (str_ext.mpr (by rw [hlF, hf0]; unfold lineTo; rw [if_pos rfl]; decide))
    have hfm : f < text.length - size + 1 := by lia
    rcases hfr with ⟨_, hfree⟩ | ⟨rfl, _⟩
    · exact absurd (hW.free hfree) (by lia)
    rcases htold with ⟨_, _, hfree⟩ | ⟨tt9, tv9, told9, rfl, hte9, ring9, tk9', ts9⟩
    · exact absurd (hW.free hfree) (by lia)
    have htm := htF (tt9, W.listOf tv9.toArray 0) (by rw [hte9]; exact .head _)
    walk_at "go"
    all_goals try (exfalso; lia)
    rename Fr _ _ _ _ => F42
    rename News _ _ _ _ => N42
    obtain ⟨a1, a2, z0, mid, a3, a4, a5⟩ := hW.asks ring9 tk9'
    refine ring_tells B20 F42 X20 P20 rfl tt9 rl tv9 rvs told9 rds 0 rn size least _ _ _ N42 s22 htm hrl8 ts9 hst a2 (by lia) a1 z0 mid a3 a4 (fun y hy => hfl y (a1 y hy)) (by lia) a5 (by decide) (by exact Nat.le_of_ble_eq_true rfl) ?_
    intro h43 tk43 F43 N43
    walk_at "go"
    exact goodT (hKeep F43) (by assumption)
  · have hc0 : decide (line = Txt.slice text none (some ((f : Int) + (size : Int) - 1))) = true := decide_eq_true (str_ext.mpr (by
      rw [slice_upto (by lia) (by lia), hlF]
      unfold lineTo
      rw [if_neg (by lia)]
      simp only []
      congr 1; lia))
    rcases Nat.lt_or_ge f (text.length - size + 1) with hfm | hfm
    · rcases hfr with ⟨_, hfree⟩ | ⟨rfl, _⟩
      · exact absurd (hW.free hfree) (by lia)
      rcases htold with ⟨_, _, hfree⟩ | ⟨tt9, tv9, told9, rfl, hte9, ring9, tk9', ts9⟩
      · exact absurd (hW.free hfree) (by lia)
      have htm := htF (tt9, W.listOf tv9.toArray 0) (by rw [hte9]; exact .head _)
      walk_at "go"
      all_goals try (exfalso; lia)
      rename Fr _ _ _ _ => F42
      rename News _ _ _ _ => N42
      obtain ⟨a1, a2, z0, mid, a3, a4, a5⟩ := hW.asks ring9 tk9'
      refine ring_tells B20 F42 X20 P20 rfl tt9 rl tv9 rvs told9 rds 0 rn size least _ _ _ N42 s22 htm hrl8 ts9 hst a2 (by lia) a1 z0 mid a3 a4 (fun y hy => hfl y (a1 y hy)) (by lia) a5 (by decide) (by exact Nat.le_of_ble_eq_true rfl) ?_
      intro h43 tk43 F43 N43
      walk_at "go"
      exact goodT (hKeep F43) (by assumption)
    · rcases hfr with ⟨rfl, _⟩ | ⟨_, tr, hr9, hk9⟩
      · rcases htold with ⟨rfl, _, hfree⟩ | ⟨tt9, tv9, told9, _, _, ring9, tk9', ts9⟩
        · walk_at "go"
          all_goals try (exfalso; lia)
          all_goals dsimp only
          rename Fr _ _ _ _ => F43
          exact goodT (hKeep F43) (by assumption)
        · exact absurd (hW.ring ring9 tk9') (by lia)
      · exact absurd (hW.ring hr9 hk9) (by lia)
end
end
end
end
end
end
end
end
end Mine
set_option maxRecDepth 100000 in
set_option maxHeartbeats 8000000 in
theorem PySem.Challenge.cw_tv0044_02_holds : PySem.Challenge.rw_tv0044_02.Holds := by
  exact (Mine.lawA.2 ⟨(Mine.lawB.2 ⟨(Mine.lawC.2 ⟨(Mine.lawD.2 ⟨(Mine.lawE.2 ⟨(Mine.lawF.2 ⟨Mine.lawG⟩)⟩)⟩)⟩)⟩)⟩)
