import PyProof.Rows.All
import Wide.All
import OpenK.AllK
import Wide.FinOn
import OpenK.XHead
import KE.KBytesWalk
import KE.KBytesCut
import KE.KSortAsk
import PySem.Challenge.RW_oc0261_02
set_option Elab.async false
set_option linter.all false
set_option rowWalk.seconds 0
set_option genInjectivity false
set_option genSizeOf false
set_option bootstrap.genMatcherCode false
noncomputable section
/-! the tactics that fill the last places of many rules, each written once -/
namespace Mine
def sxS (xs : Array Lean.Syntax) : Lean.Syntax := .node .none `Lean.Parser.Tactic.tacticSeq #[.node .none `Lean.Parser.Tactic.tacticSeq1Indented #[.node .none `null xs]]
def sxR : Lean.Syntax := .node .none `Lean.Parser.Tactic.tacticRfl #[.atom .none "rfl"]
def sxH : Lean.Syntax := .node .none `Lean.Parser.Term.hole #[.atom .none "_"]
def sxI (xs : Array Lean.Syntax) : Lean.Syntax := .node .none `Lean.Parser.Tactic.intro #[.atom .none "intro", .node .none `null xs]
def sx0 : Lean.Syntax := sxS #[sxR]
def sx1 : Lean.Syntax := sxS #[sxI #[sxH], .atom .none ";", sxR]
def sx2 : Lean.Syntax := sxS #[sxI #[sxH, sxH], .atom .none ";", sxR]
def sx3 : Lean.Syntax := sxS #[.node .none `Lean.Parser.Tactic.decide #[.atom .none "decide", .node .none `Lean.Parser.Tactic.optConfig #[.node .none `null #[]]]]
def sx4 : Lean.Syntax := sxS #[.node .none `Lean.Parser.Tactic.withUnfoldingAll #[.atom .none "with_unfolding_all", sx0]]
end Mine

/-! short proofs of the bounds that most calls ask for; what they miss goes to `omega` -/
namespace Mine
theorem o1 {x k m L : Nat} (h : x + k ≤ L) (d : Nat.ble (m + 1) k = true) : x + m < L :=
  Nat.lt_of_lt_of_le (Nat.add_lt_add_left (Nat.le_of_ble_eq_true d) x) h
theorem o2 {x k m d L : Nat} (h : x + (d + k) < L) (e : Nat.ble m k = true) : x + m + d ≤ L := by
  rw [Nat.add_assoc, Nat.add_comm m d]
  exact Nat.le_of_lt (Nat.lt_of_le_of_lt (Nat.add_le_add_left (Nat.add_le_add_left (Nat.le_of_ble_eq_true e) d) x) h)
theorem o3 {i n : Nat} (h : i < n) : n - (i + 1) < n - i := Nat.sub_lt_sub_left h (Nat.lt_succ_self i)
theorem o4 {i n c : Nat} (h : i < n) : n + c - (i + 1) < n + c - i := Nat.sub_lt_sub_left (Nat.lt_add_right c h) (Nat.lt_succ_self i)
theorem o5 {n k m : Nat} (h : n ≤ k) (d : Nat.ble k m = true) : n ≤ m := Nat.le_trans h (Nat.le_of_ble_eq_true d)
theorem o6 {n k m : Nat} (h : n < k) (d : Nat.ble k m = true) : n ≤ m := Nat.le_of_lt (Nat.lt_of_lt_of_le h (Nat.le_of_ble_eq_true d))
theorem o7 {n k m : Nat} (h : n ≤ k) (d : Nat.ble (k + 1) m = true) : n < m := Nat.lt_of_le_of_lt h (Nat.le_of_ble_eq_true d)
theorem o8 {n k m : Nat} (h : n < k) (d : Nat.ble k m = true) : n < m := Nat.lt_of_lt_of_le h (Nat.le_of_ble_eq_true d)
theorem pos_of {n i : Nat} (h : i < n) : ∃ z, n - i = z + 1 := Nat.exists_eq_add_one.mpr (Nat.sub_pos_of_lt h)
theorem suc_of {n i z : Nat} (h : n - i = z + 1) : n - (i + 1) = z := by rw [Nat.sub_add_eq, h]; rfl
theorem lt_sub {n i z : Nat} (h : n - i = z + 1) : i < n := Nat.sub_pos_iff_lt.mp (by rw [h]; exact Nat.succ_pos z)
theorem ge_sub {n i : Nat} (h : n - i = 0) : n ≤ i := Nat.le_of_sub_eq_zero h
theorem eq_sub {n i : Nat} (h : n - i = 0) (h2 : i ≤ n) : i = n := Nat.le_antisymm h2 (Nat.le_of_sub_eq_zero h)
theorem add_sub' {n i z : Nat} (h : n - i = z + 1) : i + z + 1 = n := by
  rw [Nat.add_assoc, ← h]; exact Nat.add_sub_cancel' (Nat.le_of_lt (lt_sub h))
theorem eq_of_sub {n j j' k : Nat} (h : j' + (k + 1 - 1) + 1 = n) (hj : j < n) (hk : n - j = k + 1) : j' = j := Nat.add_right_cancel (m := k + 1) (h.trans (add_sub' hk).symm)
theorem lt_addn {i d j n : Nat} (h : i + (d + 1) = j) (h2 : j < n) : i < n := Nat.lt_of_le_of_lt (h ▸ Nat.le_add_right i (d + 1)) h2
theorem lt_addj {i d j : Nat} (h : i + (d + 1) = j) : i < j := h ▸ Nat.lt_add_of_pos_right (Nat.succ_pos d)
theorem add_suc {i d j : Nat} (h : i + (d + 1) = j) : i + 1 + d = j := by rw [Nat.add_assoc, Nat.add_comm 1 d]; exact h
theorem two_sub {n m i j k l : Nat} (h : i + 1 ≤ k) (h1 : k < n) (h2 : j + 1 ≤ l) (h3 : l < m) : n - k + (m - l) < n - i + (m - j) := Nat.add_lt_add (Nat.sub_lt_sub_left (Nat.lt_trans h h1) h) (Nat.sub_lt_sub_left (Nat.lt_trans h2 h3) h2)
theorem one_sub {n m i j k : Nat} (h : i + 1 ≤ k) (h1 : k < n) : n - k + (m - j) < n - i + (m - j) := Nat.add_lt_add_right (Nat.sub_lt_sub_left (Nat.lt_trans h h1) h) _
theorem one_subr {n m i j k : Nat} (h : j + 1 ≤ k) (h1 : k < m) : n - i + (m - k) < n - i + (m - j) := Nat.add_lt_add_left (Nat.sub_lt_sub_left (Nat.lt_trans h h1) h) _
theorem snoc_le {α : Type} {l : List α} {a : α} {i k : Nat} (h : l.length ≤ i) (h2 : i + 1 ≤ k) : (l ++ [a]).length ≤ k := by
  rw [List.length_append]; exact Nat.le_trans (Nat.succ_le_succ h) h2
theorem le_step {n i k : Nat} (h : n ≤ i) (h2 : i + 1 ≤ k) : n ≤ k := Nat.le_trans h (Nat.le_of_succ_le h2)
theorem g1 {d C k p : Nat} : d + (C + k) + p = C + p + (k + d) := by omega
theorem sub_up {n j i : Nat} (h : n - (j + 1) = i) (h2 : j + 1 ≤ n) : n - j = i + 1 := by
  obtain ⟨z, e⟩ := pos_of h2
  rw [suc_of e] at h; rw [e, h]
theorem lt_up {n j i : Nat} (h : n - j = i + 1) : i < n := Nat.lt_of_lt_of_le (Nat.lt_succ_self i) (Nat.le_trans (Nat.le_of_eq h.symm) (Nat.sub_le n j))
theorem r0 {x a b L : Nat} (h : x + (a + b) ≤ L) : x + a ≤ L := Nat.le_trans (Nat.add_le_add_left (Nat.le_add_right a b) x) h
theorem r1 {x a h L : Nat} (h0 : x + (a + 9 * (h + 1)) ≤ L) : x + (a + 9 * h + 8) < L := by omega
theorem r2 {x a h L : Nat} (h0 : x + (a + 2 * (h + 1)) ≤ L) : x + (a + 2 * h + 1) < L := by omega
end Mine

local macro_rules | `(tactic| walk_at "om") => `(tactic| (first|(with_reducible first|(refine Mine.o1 ‹_› ?_;decide)|exact Mine.o3 ‹_›|exact Mine.o4 ‹_›|exact Nat.succ_le_of_lt ‹_›|exact Int.natCast_nonneg _|(refine Mine.o2 ‹_› ?_;decide)|(refine Mine.o5 ‹_› ?_;decide)|(refine Mine.o6 ‹_› ?_;decide)|(refine Mine.o7 ‹_› ?_;decide)|(refine Mine.o8 ‹_› ?_;decide)|exact Int.ofNat_lt.mpr ‹_›)|omega))
local macro_rules | `(tactic| k_ne) => `(tactic| assumption)
local macro_rules | `(tactic| k_all) => `(tactic| assumption)

section
open PySem PySem.W PyProof.Rows PySem.Calls
namespace Mine

noncomputable def ofL? : List Obj → Nat → BT → Option BT
  | [], _, t => some t
  | o :: r, n, t => match ((t.ins n o).get n).isSome with
    | true => ofL? r (n + 1) (t.ins n o)
    | false => none
theorem ofL_abs (life : Life) : ∀ (l : List Obj) (n : Nat) (t t' : BT), ofL? l n t = some t' → absHeap t' (n + l.length) life = ⟨(absHeap t n life).objs ++ l.toArray, life⟩
  | [], n, t, t', h => by cases h; simp [absHeap]
  | o :: r, n, t, t', h => by
    unfold ofL? at h
    split at h
    · rename_i e
      have := ofL_abs life r (n + 1) _ t' h
      rw [List.length_cons, show n + (r.length + 1) = n + 1 + r.length by walk_at "om", this, absHeap_ins e]
      show Heap.mk (((absHeap t n life).objs.push o) ++ r.toArray) life = _
      congr 1
      simp
    · cases h
noncomputable def toT? (s : Shared) : Option SharedT := (ofL? s.heap.objs.toList 0 .nil).map fun t => ⟨t, s.heap.objs.toList.length, s.heap.life, s.gens, s.drawn, s.toks, s.os⟩
theorem toT_abs {s : Shared} {t : SharedT} (h : toT? s = some t) : t.abs = s := by
  unfold toT? at h
  obtain ⟨b, hb, rfl⟩ := Option.map_eq_some_iff.mp h
  have := ofL_abs s.heap.life _ _ _ _ hb
  obtain ⟨⟨objs, life⟩, gens, drawn, toks, os⟩ := s
  show Shared.mk (absHeap b _ life) gens drawn toks os = _
  rw [Nat.zero_add] at this
  rw [this]
  congr 1
  simp [absHeap, BT.list]

noncomputable def topRunT (tb : String → Option Builtin) (p : Program) (w : World) (n₀ : Nat) (ann : Option Value) : Nat → SharedT → Thread → Option SharedT
  | 0, _, _ => none
  | n + 1, s, t => match through t with
    | true => some s
    | false => match stepOk n₀ ann t with
      | false => none
      | true => match stepT (denote tb) p w s t with
        | some x => topRunT tb p w n₀ ann n x.1 x.2
        | none => none
theorem topRun_of {tb : String → Option Builtin} {p : Program} {w : World} {n₀ : Nat} {ann : Option Value} : ∀ {n : Nat} {s s' : SharedT} {t : Thread}, topRunT tb p w n₀ ann n s t = some s' → topRun tb p w n₀ ann n s.abs t = some s'.abs
  | 0, _, _, _, h => by cases h
  | n + 1, s, s', t, h => by
    unfold topRunT at h
    unfold topRun
    cases he : through t with
    | true => rw [he] at h; cases h; rfl
    | false =>
      rw [he] at h
      cases hk : stepOk n₀ ann t with
      | false => rw [hk] at h; cases h
      | true =>
        rw [hk] at h
        cases hs : stepT (denote tb) p w s t with
        | none => rw [hs] at h; cases h
        | some r => obtain ⟨s₂, t₂⟩ := r; rw [hs] at h; dsimp only at h ⊢; rw [stepT_spec hs]; exact topRun_of h
noncomputable def impRunT (tb : String → Option Builtin) (p : Program) (w : World) : Nat → SharedT → Thread → Option SharedT
  | 0, _, _ => none
  | n + 1, s, t => match t.atExitBegin with
    | some [] => some s
    | some (_ :: _) => none
    | none => match stepT (denote tb) p w s t with
      | some x => impRunT tb p w n x.1 x.2
      | none => none
theorem impRun_of {tb : String → Option Builtin} {p : Program} {w : World} : ∀ {n : Nat} {s s' : SharedT} {t : Thread}, impRunT tb p w n s t = some s' → importEnds tb p w n s.abs t = some s'.abs
  | 0, _, _, _, h => by cases h
  | n + 1, s, s', t, h => by
    unfold impRunT at h
    unfold importEnds
    cases he : t.atExitBegin with
    | some l =>
      rw [he] at h
      cases l with
      | nil => cases h; rfl
      | cons => cases h
    | none =>
      rw [he] at h
      cases hs : stepT (denote tb) p w s t with
      | none => rw [hs] at h; cases h
      | some r => obtain ⟨s₂, t₂⟩ := r; rw [hs] at h; dsimp only at h ⊢; rw [stepT_spec hs]; exact impRun_of h

noncomputable def start0 (p : Program) : SharedT := ⟨.nil, 0, {}, #[], {}, 1, { stdin := p.given.stdin.toArray }⟩
theorem start0_abs (p : Program) : (start0 p).abs = (start p).1 := by
  show Shared.mk (absHeap .nil 0 {}) #[] {} 1 _ = _
  rfl

noncomputable def endsT (tb : String → Option Builtin) (p : Program) (w : World) (N : Nat) : Option (Shared × SharedT) :=
  match impRunT tb (opening p) w N (start0 (opening p)) (start (opening p)).2 with
  | none => none
  | some si => match fenceModules? p si.abs with
    | none => none
    | some s₀ => match toT? s₀ with
      | none => none
      | some t₀ => match topRunT tb p w t₀.n (s₀.heap.nsMap mainGlobals "__annotations__") N t₀ (topStub p) with
        | none => none
        | some s₁ => some (s₀, s₁)
noncomputable def lookT {α : Type} (p q : Program) (loose : List Str) (Xt : Shared → Bool) (Yt : SharedT → α) (s₀ : Shared) (s₁ : SharedT) :=
  ((s₀.heap.isNs mainGlobals && s₀.gens.size == 0) && (staticsOk (importedModules p.main.body) s₀.heap s₁.abs.heap && namesBound p s₁.abs.heap && gensDone s₁.abs && laidKept s₀.heap s₁.abs.heap),
    openSeen q loose (importedModules p.main.body) Xt true s₁.abs, Yt s₁)
theorem left_of {α : Type} {p q : Program} {loose : List Str} {Xt : Shared → Bool} {Yf : Shared → α} {Yt : SharedT → α} {Ya : World → α} {N : Nat} (hY : ∀ s, Yf s.abs = Yt s)
    (h : ∀ w, (endsT treeTable p w N).map (fun x => lookT p q loose Xt Yt x.1 x.2) = some (true, openGood q loose, Ya w)) : LeftO p q loose Xt Yf Ya N := by
  intro w
  have e := h w
  cases hx : endsT treeTable p w N with
  | none => rw [hx] at e; cases e
  | some x =>
  rw [hx, Option.map_some] at e
  unfold endsT at hx
  split at hx <;> try (cases hx; done)
  rename_i si hi
  split at hx <;> try (cases hx; done)
  rename_i s₀ hf
  split at hx <;> try (cases hx; done)
  rename_i t₀ ht
  split at hx <;> try (cases hx; done)
  rename_i s₁ hr
  cases hx
  have a1 := impRun_of hi
  rw [start0_abs] at a1
  have a2 := toT_abs ht
  have a3 := topRun_of hr
  rw [a2] at a3
  have hn : t₀.n = s₀.heap.objs.size := by
    have := congrArg (fun s : Shared => s.heap.objs.size) a2
    simpa [SharedT.abs, absHeap_size] using this
  rw [hn] at a3
  simp only [lookT, Option.some.injEq, Prod.mk.injEq, Bool.and_eq_true] at e
  obtain ⟨⟨⟨e1, e1'⟩, e2⟩, e3, e4⟩ := e
  unfold openEnds fencedOpening
  rw [a1, Option.bind_some, hf, Option.bind_some]
  unfold topFrom
  rw [e1, e1', a3]
  show (Option.bind (some s₁.abs) _).map _ = _
  rw [Option.bind_some]
  have e2' : (staticsOk (importedModules p.main.body) s₀.heap s₁.abs.heap && namesBound p s₁.abs.heap && gensDone s₁.abs && laidKept s₀.heap s₁.abs.heap) = true := by
    simp only [Bool.and_eq_true]; exact e2
  rw [e2']
  show some (openSeen q loose (importedModules p.main.body) Xt true s₁.abs, Yf s₁.abs) = _
  rw [e3, hY, e4]
end Mine

end
section
set_option maxRecDepth 100000
set_option Elab.async false
lay_quick Mine.endsT Mine.lookT

end
section
open PySem PySem.W PyProof.Rows
set_option Elab.async false
set_option maxRecDepth 100000
set_option maxHeartbeats 0
namespace Mine
section
local macro_rules | `(tactic| o_head $_) => `(tactic| assumption)
theorem kk : PySem.Challenge.rw_oc0261_02.row.Holds → PySem.Challenge.rw_oc0261_02.row.Holds := by intro h; x_head
end
inductive Less {α : Type} : Nat → List α → List α → Prop
  | zero {a : α} {l : List α} : Less 0 (a :: l) l
  | succ {n : Nat} {a : α} {l l' : List α} : Less n l l' → Less (n + 1) (a :: l) (a :: l')
noncomputable def K1 : Params → Frag := by
  refine' (?f : (K : Params → Frag) → (∀ P, ∃ L, Less 663 (kk.heap_1 P) L ∧ K P = L) → Params → Frag) _ ?h
  case h =>
    intro P
    refine' ⟨_, ?a, ?b⟩
    case a =>
      delta kk.heap_1
      repeat' (first | exact Less.zero | refine' Less.succ ?_)
    case b => exact rfl
  case f => exact fun K _ => K
end Mine

end
section
open PySem PySem.W PyProof.Rows PySem.Calls
set_option maxRecDepth 100000
set_option Elab.async false
namespace Mine
noncomputable def q1 : Program := view PySem.Challenge.pw_oc0261_02 [0, 1, 2, 3, 5, 6, 7, 8, 9, 10, 11, 12, 14, 15, 16, 17, 19, 20, 22, 24, 25, 26, 27, 29, 31, 33, 34, 35, 36, 37, 38, 39, 40, 41, 42, 43]
noncomputable def loose1 : List Str := ["_twin_re_1", "UnsupportedOperation", "IOBase", "BufferedIOBase", "TextIOBase", "BytesIO", "StringIO", "join_path", "shlex", "split", "join_shlex", "_find_unsafe"]
noncomputable def getT (s : SharedT) (a : Addr) : Option Obj := match Nat.blt a s.n with
  | true => match s.tree.get a with
    | some o => alive o
    | none => s.abs.heap.get? a
  | false => s.abs.heap.get? a
theorem getT_abs (s : SharedT) (a : Addr) : s.abs.heap.get? a = getT s a := by
  unfold getT
  split
  · rename_i h
    split
    · rename_i o g
      exact abs_get (Nat.le_of_ble_eq_true h) g
    · rfl
  · rfl
noncomputable def P0 : Params := { strHash := fun _ => 0, shareClass := fun _ => 0, mergeTok := fun t => t, idOf := fun _ => 0, idOfShared := fun _ _ => 0, followText := fun _ => false, idOfImm := fun _ => 0 }
noncomputable def as1 : List Addr := (kk.heap_1 P0).map (·.1)
theorem chkC (w : World) : (PySem.W.Fast.tw1631092723544549014 PySem.W.Fast.tw14364793385576792824 PySem.Challenge.pw_oc0261_02 w 12000).map (fun x => PySem.W.Fast.tw16432311211671700021 PySem.Challenge.pw_oc0261_02 q1 loose1 (fun s => xlAt q1 [] s && recOk [] s) (fun s => as1.map (getT s)) x.1 x.2) = some (true, openGood q1 loose1, (kk.heap_1 w.params).map (fun p => some p.2)) := by kernel_rfl
theorem left1 : LeftO PySem.Challenge.pw_oc0261_02 q1 loose1 (fun s => xlAt q1 [] s && recOk [] s) (fun s => as1.map s.heap.get?) (fun w => (kk.heap_1 w.params).map fun p => some p.2) 12000 := by
  refine left_of (Yt := fun s => as1.map (getT s)) (fun s => List.map_congr_left fun a _ => getT_abs s a) (fun w => ?_)
  rw [PySem.W.Fast.te1631092723544549014, PySem.W.Fast.te14364793385576792824, PySem.W.Fast.te16432311211671700021]
  exact chkC w
end Mine

end
section
open PySem PySem.W PyProof.Rows PySem.Calls
set_option maxRecDepth 100000
set_option maxHeartbeats 0
set_option Elab.async false
namespace Mine
theorem as_K : ∀ P, as1 = (kk.heap_1 P).map (·.1) := fun _ => by kernel_rfl
end Mine

end
section
open PySem PySem.W PyProof.Rows PySem.Calls
set_option maxRecDepth 100000
set_option maxHeartbeats 0
set_option Elab.async false
namespace Mine
theorem well1 : PySem.Challenge.rw_oc0261_02.wellSaid = true := by
  rw [PySem.W.Fast.te9446332074065402090]
  kernel_rfl
end Mine

end
section
open PySem PySem.W PyProof.Rows PySem.Calls
set_option Elab.async false
namespace Mine

noncomputable abbrev NoE : Value → Shared → Prop := fun _ _ => False
noncomputable abbrev put (x : Str) (v : Value) (m : Str → Option Value) : Str → Option Value := fun y => if y = x then some v else m y

theorem Fr_put {h₀ h : Heap} {L : Addr} {m : Str → Option Value} {x : Str} {v : Value} (F : Fr h₀ L h m) (e : m x = some v) : Fr h₀ L h (put x v m) := by
  have : put x v m = m := by
    funext y
    unfold put
    split
    · rename_i q; rw [q, e]
    · rfl
  rw [this]; exact F

structure Fin1 (P : Prop) : Prop where
  out : P

section
variable {prog : Program} {w : World} {A : Around} {s : Shared} {env : Env}
theorem wp_while {D : Type} {test : Expr} {body orelse : List Stmt} {pos : Pos} {Q : Flow → Shared → Prop} (I : D → Heap → Prop) (sz : D → Nat) (d : D) (h : I d s.heap)
    (turn : ∀ d h tk, I d h → wpAny (model prog w) A (isTrue test env (eval test env)) (fun b s₂ =>
        (b = true → wpAny (model prog w) A (execs body env) (fun f s₃ => match f with
            | .next | .cont => Fin1 (∃ d', sz d' < sz d ∧ ∃ h' tk', s₃ = { s with heap := h', toks := tk' } ∧ I d' h')
            | .brk => Q .next s₃
            | .ret v => Q (.ret v) s₃) NoE s₂) ∧
        (b = false → wpAny (model prog w) A (execs orelse env) Q NoE s₂)) NoE { s with heap := h, toks := tk }) :
    wpAny (model prog w) A (exec (.While test body orelse pos) env) Q NoE s := by
  refine wpAny_While (codeAny_whileLoop (I := fun n s' => ∃ d, sz d = n ∧ ∃ h' tk', s' = { s with heap := h', toks := tk' } ∧ I d h') ?_ (sz d) ⟨d, rfl, s.heap, s.toks, rfl, h⟩)
  rintro n s' ⟨d, rfl, h', tk', rfl, hI⟩
  refine wpAny_mono (turn d h' tk' hI) (fun b s₂ hb => ?_) (fun _ _ x => x.elim)
  cases b with
  | true =>
    simp only [if_true]
    refine wpAny_mono (hb.1 rfl) (fun f s₃ h₃ => ?_) (fun _ _ x => x.elim)
    cases f with
    | next => obtain ⟨d', a, b⟩ := h₃.out; exact ⟨_, a, d', rfl, b⟩
    | cont => obtain ⟨d', a, b⟩ := h₃.out; exact ⟨_, a, d', rfl, b⟩
    | brk => exact h₃
    | ret v => exact h₃
  | false =>
    simp only [Bool.false_eq_true, if_false]
    exact wpAny_mono (hb.2 rfl) (fun f s₃ h₃ => h₃) (fun _ _ x => x.elim)
end
theorem wp_noE {α : Type} {M : Model} {A : Around} {t : Sem α} {Q : α → Shared → Prop} {E : Value → Shared → Prop} {s : Shared} (h : wpAny M A t Q NoE s) : wpAny M A t Q E s := wpAny_mono h (fun _ _ x => x) (fun _ _ x => x.elim)
end Mine
namespace Mine
structure TopR (p : Program) (loose : List Str) (mean : ExcName → Option Value) (mg mb : Str → Option Value) (h : Heap) : Prop extends TopRead p loose mg mb h where
  bm : ∃ bm ob, BMod h mainGlobals mg bm ob
theorem TopR.keeps {p : Program} {loose : List Str} {mean : ExcName → Option Value} {mg mb : Str → Option Value} {h h' : Heap} (T : TopR p loose mean mg mb h) (hk : ∀ b o, h.get? b = some o → h'.get? b = some o) : TopR p loose mean mg mb h' :=
  { T.toTopRead.keeps hk with bm := let ⟨b, o, M⟩ := T.bm; ⟨b, o, M.ns.keeps hk, M.name, M.ne, hk _ _ M.obj, M.cls, M.dict, M.data⟩ }
structure Gd (K : Frag) (p : Program) (loose : List Str) (mean : ExcName → Option Value) (mg mb : Str → Option Value) (A₀ : Around) (base : Heap) (outer : List Env) (h : Heap) : Prop where
  B : Below A₀ base outer h
  X : K.In h
  T : TopR p loose mean mg mb h
  XB : K.In base
  TB : TopR p loose mean mg mb base
  D : KtsDicts (outer.filterMap (·.frame)) h
noncomputable abbrev fsOf (outer : List Env) : List Addr := outer.filterMap (·.frame)
end Mine
namespace Mine
section
variable {prog : Program} {w : World} {A : Around} {s : Shared} {env : Env}
theorem wp_loop {D : Type} {test : Expr} {body orelse : List Stmt} {pos : Pos} {Q : Flow → Shared → Prop} (I : D → Heap → Prop) (sz : D → Nat) (d : D) (h : I d s.heap)
    (turn : ∀ d h tk, I d h → wpAny (model prog w) A (isTrue test env (eval test env)) (fun b s₂ =>
        b = true ∧ wpAny (model prog w) A (execs body env) (fun f s₃ => match f with
            | .next | .cont => Fin1 (∃ d', sz d' < sz d ∧ ∃ h' tk', s₃ = { s with heap := h', toks := tk' } ∧ I d' h')
            | .brk => Q .next s₃
            | .ret v => Q (.ret v) s₃) NoE s₂) NoE { s with heap := h, toks := tk }) :
    wpAny (model prog w) A (exec (.While test body orelse pos) env) Q NoE s :=
  wp_while I sz d h fun d h tk i => wpAny_mono (turn d h tk i) (fun b s₂ hb => ⟨fun _ => hb.2, fun e => by rw [hb.1] at e; cases e⟩) (fun _ _ x => x)
end
end Mine
namespace Mine
end Mine
namespace Mine
theorem st_at {α : Type} {M : Model} {A : Around} {t : Sem α} {Q : α → Shared → Prop} {E : Value → Shared → Prop} {g h : Heap} {L : Addr} {m : Str → Option Value} (_ : Fr g L h m) {s : Shared} {e : Nat} (k : ∀ tk, wpAny M A t Q E ⟨h, s.gens, s.drawn, tk, s.os⟩) : wpAny M A t Q E ⟨h, s.gens, s.drawn, e, s.os⟩ := k e
end Mine
namespace Mine
theorem wp_abs3 {M : Model} {A : Around} {t : Sem Flow} {Q : Flow → Shared → Prop} {E : Value → Shared → Prop} {s : Shared} (P q : Shared → Prop) (hN : ∀ s', P s' → Q .next s') (hC : ∀ s', P s' → Q .cont s') (hB : ∀ s', q s' → Q .brk s')
    (h : ∀ Q' : Flow → Shared → Prop, (∀ s', P s' → Q' .next s') → (∀ s', P s' → Q' .cont s') → (∀ s', q s' → Q' .brk s') → wpAny M A t Q' E s) : wpAny M A t Q E s := h Q hN hC hB
end Mine
namespace Mine
theorem execs_one {M : Model} {A : Around} {st : Stmt} {env : Env} {Q : Flow → Shared → Prop} {E : Value → Shared → Prop} {s : Shared} (h : wpAny M A (exec st env) Q E s) : wpAny M A (execs [st] env) Q E s :=
  wpAny_execs_cons (wpAny_mono h (fun f s' hq => by
    cases f with
    | next => exact wpAny_execs_nil hq
    | _ => exact hq) (fun _ _ x => x))
end Mine

end
section
open PySem PySem.W PyProof.Rows PySem.Calls
set_option Elab.async false
namespace Mine

noncomputable def NewX (g : Heap) (L : Addr) (h : Heap) (m : Str → Option Value) (news : List (Addr × Obj)) (e : Addr) (cls : String) (ctx : Value) : Prop :=
  Fr g L h m ∧ ∃ oe vs, News g L h ((e, oe) :: news) ∧ oe.cls = .type cls ∧ oe.data = .fields vs ∧ vs[1]? = some .none ∧ vs[2]? = some ctx ∧ ∀ q ∈ news, q.1 ≠ e
noncomputable def HeldX (g : Heap) (L : Addr) (h : Heap) (m : Str → Option Value) (news : List (Addr × Obj)) (e : Addr) (cls : String) (ctx fl : Value) : Prop :=
  Fr g L h m ∧ ∃ oe vs T oT ts, News g L h ((e, oe) :: (T, oT) :: news) ∧ oe.cls = .type cls ∧ oe.data = .fields vs ∧ vs[1]? = some (.ref T) ∧ vs[2]? = some ctx ∧ oT.data = .fields ts ∧ ts[3]? = some fl ∧ T ≠ e ∧ ∀ q ∈ news, q.1 ≠ e ∧ q.1 ≠ T

theorem NewX.of {g h h' : Heap} {L e : Addr} {m : Str → Option Value} {news : List (Addr × Obj)} {cls : String} (F : Fr g L h m) (N : News g L h news) (hx : Heap.NewExc h h' e cls) : NewX g L h' m news e cls .none := by
  obtain ⟨ob, t, he, hc, hd⟩ := hx.there
  obtain ⟨oL, es, ep, hL, r⟩ := F.ns
  refine ⟨⟨⟨oL, es, ep, hx.keeps _ _ hL, r⟩, fun b o q => hx.keeps _ _ (F.keep b o q), F.above⟩, ob, _, ?_, hc, hd, rfl, rfl, fun q hq z => ?_⟩
  · intro p hp
    rcases List.mem_cons.mp hp with rfl | hp
    · refine ⟨he, fun z => ?_, ?_⟩
      · have := hx.new; rw [show e = L from z, hL] at this; cases this
      · cases q : g.get? e with
        | none => rfl
        | some o => have := F.keep _ _ q; rw [hx.new] at this; cases this
    · exact ⟨hx.keeps _ _ (N p hp).1, (N p hp).2⟩
  · have := (N q hq).1; rw [z, hx.new] at this; cases this

theorem NewX.ctx {g h : Heap} {L e : Addr} {m : Str → Option Value} {news : List (Addr × Obj)} {cls : String} {c : Value} (X : NewX g L h m news e cls c) (x : Value) :
    NewX g L (h.update e (Obj.mapFields (·.setIfInBounds 2 x))) m news e cls x := by
  obtain ⟨F, oe, vs, N, hc, hd, h1, h2, hap⟩ := X
  have hd' := Obj.data_mapFields hd (·.setIfInBounds 2 x)
  have U := news_upd (pre := []) (post := news) (d := e) (o := oe) (f := Obj.mapFields (·.setIfInBounds 2 x)) F N (fun _ hp => nomatch hp) hap rfl (Obj.isFreed_of_fields hd')
  exact ⟨U.1, _, _, U.2, (Obj.cls_mapFields _ _).trans hc, hd', by rw [Array.getElem?_setIfInBounds_ne (by decide)]; exact h1, by simp [(Array.getElem?_eq_some_iff.mp h2).1], hap⟩

section
variable {M : Model} {A A' : Around} {E : Value → Shared → Prop} {s : Shared} {base g : Heap} {outer : List Env} {L a e : Addr} {m : Str → Option Value} {name : Str} {scope : Scope} {cd : Value} {news : List (Addr × Obj)} {cls : String} {ctx fl : Value} {Q : Unit → Shared → Prop}

theorem note_new (B : Below A base outer g) (hfr : A'.frames = some (envOf name scope L a cd :: outer)) (hk : scope.kind = .function) (H : NewX g L s.heap m news e cls ctx)
    (k : ∀ h' g', KtsTurn (fsOf outer) g g' → Below A base outer g' → HeldX g' L h' m news e cls ctx (rawInt L) → Q () { s with heap := h' }) :
    wpAny M A' (noteFrame (.ref e) (envOf name scope L a cd)) Q E s := by
  obtain ⟨F, oe, vs, N, hc, hd, h1, h2, hap⟩ := H
  have Nx := N _ (.head _)
  have he : s.heap.get? e = some oe := Nx.1
  have heL : e ≠ L := Nx.2.1
  have heg : g.get? e = none := Nx.2.2
  have hl := (B.push (name := name) (scope := scope) (a := a) (cd := cd) F hk).frames
  have hef : e ∉ (envOf name scope L a cd :: outer).filterMap (·.frame) := fun hm => by
    obtain ⟨_, o, ho, hnf⟩ := hl.mem hm
    rw [he] at ho; cases ho; exact hnf vs hd
  have hsz : 1 < vs.size := (Array.getElem?_eq_some_iff.mp h1).1
  unfold noteFrame
  show wpAny M A' (field (.ref e) 1 >>= _) Q E s
  refine wpAny_bind (wpAny_field he hd h1 ?_)
  rw [if_neg (by decide)]
  refine wpAny_bind (wpAny_frameOf_fun hfr hl rfl fun h₁ hs₁ => ?_)
  refine wpAny_bind (wpAny_entryPlaceOf fun pl hpl => ?_)
  unfold EntryCells.newEntry newFields
  refine wpAny_bind (wpAny_newObj_type ?_ (hpl.sizeOk5 _ _ _ _ _))
  generalize hts : ([Value.none, Value.ref L, Value.none, rawInt L, Value.none] ++ (if pl.isEmpty then List.replicate 6 Value.none else pl)).toArray = ts
  have ht3 : ts[3]? = some (rawInt L) := by rw [← hts]; rfl
  have he₁ : h₁.get? e = some oe := (hs₁.2.1 e hef).trans he
  refine wpAny_setField (Heap.get?_push_of_some _ he₁) hd hsz ?_
  generalize hT : h₁.objs.size = T
  have hTe : T ≠ e := by rw [← hT]; exact Nat.ne_of_gt (Heap.lt_size he₁)
  have hTn : s.heap.get? T = none := by rw [← hT, hs₁.1]; exact Heap.get?_none_of_le (Nat.le_refl _)
  have keep : ∀ b o, b ≠ e → h₁.get? b = some o → ((h₁.push { cls := .type "traceback", dict := none, data := .fields ts }).update e (Obj.mapFields (·.setIfInBounds 1 (.ref T)))).get? b = some o := fun b o hb q => by
    rw [Heap.get?_update_other _ _ (Ne.symm hb)]; exact Heap.get?_push_of_some _ q
  have hT' : ((h₁.push { cls := .type "traceback", dict := none, data := .fields ts }).update e (Obj.mapFields (·.setIfInBounds 1 (.ref T)))).get? T = some { cls := .type "traceback", dict := none, data := .fields ts } := by
    rw [Heap.get?_update_other _ _ (Ne.symm hTe), ← hT]; exact Heap.get?_push_size _ rfl
  have hd' := Obj.data_mapFields hd (·.setIfInBounds 1 (Value.ref T))
  have he' : ((h₁.push { cls := .type "traceback", dict := none, data := .fields ts }).update e (Obj.mapFields (·.setIfInBounds 1 (.ref T)))).get? e = some (Obj.mapFields (·.setIfInBounds 1 (.ref T)) oe) :=
    Heap.get?_update_self _ (Heap.get?_push_of_some _ he₁) (Obj.isFreed_of_fields hd')
  generalize hh : (h₁.push { cls := .type "traceback", dict := none, data := .fields ts }).update e (Obj.mapFields (·.setIfInBounds 1 (.ref T))) = h' at keep hT' he' ⊢
  obtain ⟨oL, es, ep, hL, rL⟩ := F.ns
  have F' : Fr g L (hideAll s.heap [e]) m := ⟨⟨oL, es, ep, hideAll_get _ hL (by simp only [List.mem_singleton]; exact fun z => heL z.symm), rL⟩,
    fun b o q => hideAll_get _ (F.keep b o q) (by simp only [List.mem_singleton]; intro z; rw [z, heg] at q; cases q), by rw [show g.objs.size ≤ L ↔ g.objs.size ≤ L from Iff.rfl]; exact F.above⟩
  have inB : ∀ b o, (hideAll s.heap [e]).get? b = some o → b ≠ e := fun b o q z => by
    rw [z, hideAll_none [e] (.head _)] at q; cases q
  obtain ⟨g', T1, F2, B2⟩ := kts_ground (name := name) (scope := scope) (a := a) (cd := cd) (B := hideAll (hideAll s.heap [e]) ((envOf name scope L a cd :: outer).filterMap (·.frame))) B F' (fun b o q nm => hideAll_get _ q nm) (h₅ := h')
    (fun b o q => by
      have q1 := of_hideAll _ q
      have nf : b ∉ (envOf name scope L a cd :: outer).filterMap (·.frame) := fun z => by rw [hideAll_none _ z] at q; cases q
      exact keep b o (inB b o q1) ((hs₁.2.1 b nf).trans (of_hideAll _ q1)))
    (fun b o q nf => by
      obtain ⟨sl, hs⟩ := hs₁.2.2 b o (of_hideAll _ q)
      exact ⟨sl, keep b _ (inB b o q) hs⟩)
  refine k h' g' T1 B2 ⟨F2, _, _, T, { cls := .type "traceback", dict := none, data := .fields ts }, ts, ?_, (Obj.cls_mapFields _ _).trans hc, hd', by simp [hsz], ?_, rfl, ht3, hTe, fun q hq => ⟨hap q hq, fun z => ?_⟩⟩
  · intro p hp
    rcases List.mem_cons.mp hp with rfl | hp
    · exact ⟨he', heL, T1.none_ _ heg⟩
    · rcases List.mem_cons.mp hp with rfl | hp
      · refine ⟨hT', fun z => ?_, T1.none_ _ ?_⟩
        · rw [show T = L from z] at hTn; rw [hTn] at hL; cases hL
        · cases q : g.get? T with
          | none => rfl
          | some o => have := F.keep _ _ q; rw [hTn] at this; cases this
      · have P := N p (.tail _ hp)
        refine ⟨keep _ _ (hap p hp) ((hs₁.2.1 _ fun z => ?_).trans P.1), P.2.1, T1.none_ _ P.2.2⟩
        obtain ⟨env, he, hf⟩ := List.mem_filterMap.mp z
        rcases List.mem_cons.mp he with rfl | he
        · exact P.2.1 (Option.some.inj hf).symm
        · obtain ⟨_, o, ho, _⟩ := B.frames.mem (List.mem_filterMap.mpr ⟨env, he, hf⟩)
          rw [P.2.2] at ho; cases ho
  · rw [Array.getElem?_setIfInBounds_ne (by decide)]; exact h2
  · have := (N q (.tail _ hq)).1; rw [z, hTn] at this; cases this

theorem note_again (hf : (envOf name scope L a cd).frame = some L) (H : HeldX g L s.heap m news e cls ctx (rawInt L)) (k : Q () s) : wpAny M A' (noteFrame (.ref e) (envOf name scope L a cd)) Q E s := by
  obtain ⟨F, oe, vs, T, oT, ts, N, hc, hd, h1, h2, hdT, h3, hTe, hap⟩ := H
  unfold noteFrame
  show wpAny M A' (field (.ref e) 1 >>= _) Q E s
  refine wpAny_bind (wpAny_field (N _ (.head _)).1 hd h1 ?_)
  rw [if_pos (show (Value.ref T != Value.none) = true from by simp)]
  refine wpAny_bind (wpAny_field (N _ (.tail _ (.head _))).1 hdT h3 ?_)
  rw [if_pos (by simp)]
  exact wpAny_pure k

theorem flight (H : HeldX g L s.heap m news e cls ctx fl) (x : Option Addr) (k : ∀ h', HeldX g L h' m news e cls ctx (x.elim .none fun f => rawInt f) → Q () { s with heap := h' }) :
    wpAny M A' (setFlight (.ref e) x) Q E s := by
  obtain ⟨F, oe, vs, T, oT, ts, N, hc, hd, h1, h2, hdT, h3, hTe, hap⟩ := H
  have hsz : 3 < ts.size := (Array.getElem?_eq_some_iff.mp h3).1
  unfold setFlight
  refine wpAny_bind (wpAny_field (N _ (.head _)).1 hd h1 ?_)
  rw [if_pos (show (Value.ref T != Value.none) = true from by simp)]
  refine wpAny_setField (N _ (.tail _ (.head _))).1 hdT hsz (k _ ?_)
  have hdT' := Obj.data_mapFields hdT (·.setIfInBounds 3 (x.elim .none fun f => rawInt f))
  have U := news_upd (pre := [(e, oe)]) (post := news) (d := T) (o := oT) (f := Obj.mapFields (·.setIfInBounds 3 (x.elim .none fun f => rawInt f))) F N (by intro p hp; rw [List.mem_singleton.mp hp]; exact Ne.symm hTe) (fun p hp => (hap p hp).2) rfl (Obj.isFreed_of_fields hdT')
  exact ⟨U.1, oe, vs, T, _, _, U.2, hc, hd, h1, h2, hdT', by simp [hsz], hTe, hap⟩

theorem came_back {Ek : Value → Shared → Prop} (H : HeldX g L s.heap m news e cls ctx fl) (k : ∀ h', HeldX g L h' m news e cls ctx (rawInt L) → Ek (.ref e) { s with heap := h' }) :
    cameBackBy M A' (envOf name scope L a cd) Ek (.ref e) s := by
  have H' := H
  obtain ⟨F, oe, vs, T, oT, ts, N, hc, hd, h1, h2, hdT, h3, hTe, hap⟩ := H
  unfold cameBackBy
  refine wpAny_bind (wpAny_field (N _ (.head _)).1 hd h1 ?_)
  rw [if_neg (by simp)]
  exact flight H' (some L) k
theorem pass_on {α : Type} {Ek : Value → Shared → Prop} {Qa : α → Shared → Prop} {what : String} (H : HeldX g L s.heap m news e cls ctx fl) (k : ∀ h', HeldX g L h' m news e cls ctx (rawInt L) → Ek (.ref e) { s with heap := h' }) :
    wpAny M A' (PySem.passOn what (.ref e) (envOf name scope L a cd) : Sem α) Qa Ek s := by
  have H' := H
  obtain ⟨F, oe, vs, T, oT, ts, N, hc, hd, h1, h2, hdT, h3, hTe, hap⟩ := H
  unfold PySem.passOn
  refine wpAny_bind (wpAny_field (N _ (.head _)).1 hd h1 ?_)
  rw [if_neg (by simp)]
  exact wpAny_bind (flight H' (some L) fun h' H => wpAny_throw (k h' H))
end

section
variable {K : Frag} {p : Program} {loose : List Str} {mean : ExcName → Option Value} {mg mb : Str → Option Value} {A : Around} {base g g' : Heap} {outer : List Env}
theorem Gd.turn (G : Gd K p loose mean mg mb A base outer g) (T : KtsTurn (fsOf outer) g g') (B : Below A base outer g') : Gd K p loose mean mg mb A base outer g' :=
  ⟨B, G.XB.keeps B.stays, G.TB.keeps B.stays, G.XB, G.TB, G.D.turn T⟩
noncomputable def ExE (K : Frag) (p : Program) (loose : List Str) (mean : ExcName → Option Value) (mg mb : Str → Option Value) (A : Around) (base : Heap) (outer : List Env) (g : Heap) (L : Addr) (s : Shared) (cls : String) (C : Value → Prop)
    (J : (Str → Option Value) → List (Addr × Obj) → Prop) (v : Value) (s' : Shared) : Prop :=
  ∃ e h tk g' m news ctx, v = .ref e ∧ s' = { s with heap := h, toks := tk } ∧ KtsTurn (fsOf outer) g g' ∧ Gd K p loose mean mg mb A base outer g' ∧ C ctx ∧ J m news ∧ (NewX g' L h m news e cls ctx ∨ HeldX g' L h m news e cls ctx (rawInt L))
variable {M : Model} {A' : Around} {s s' : Shared} {L a : Addr} {name : Str} {scope : Scope} {cd : Value} {cls : String} {v : Value} {C : Value → Prop} {J : (Str → Option Value) → List (Addr × Obj) → Prop} {Ek : Value → Shared → Prop}
theorem ExE.note {Q : Unit → Shared → Prop} {E : Value → Shared → Prop} (hfr : A'.frames = some (envOf name scope L a cd :: outer)) (hk : scope.kind = .function) (X : ExE K p loose mean mg mb A base outer g L s cls C J v s')
    (k : ∀ e h tk g' m news ctx, v = .ref e → KtsTurn (fsOf outer) g g' → Gd K p loose mean mg mb A base outer g' → C ctx → J m news → HeldX g' L h m news e cls ctx (rawInt L) → Q () { s with heap := h, toks := tk }) :
    wpAny M A' (noteFrame v (envOf name scope L a cd)) Q E s' := by
  obtain ⟨e, h, tk, g', m, news, ctx, rfl, rfl, T, G, hC, hJ, hX⟩ := X
  rcases hX with hX | hX
  · exact note_new G.B hfr hk hX fun h' g'' T' B' H => k e h' tk g'' m news ctx rfl (T.trans T') (G.turn T' B') hC hJ H
  · exact note_again rfl hX (k e h tk g' m news ctx rfl T G hC hJ hX)
theorem ExE.passes (hfr : A'.frames = some (envOf name scope L a cd :: outer)) (hk : scope.kind = .function) : PassesOwn M A' (envOf name scope L a cd) (ExE K p loose mean mg mb A base outer g L s cls C J) := fun v s' X =>
  ExE.note hfr hk X fun e h tk g' m news ctx hv T G hC hJ H => by
    subst hv
    exact came_back (s := { s with heap := h, toks := tk }) H fun h' H' => ⟨e, h', tk, g', m, news, ctx, rfl, rfl, T, G, hC, hJ, .inr H'⟩
theorem NewX.put {g h : Heap} {L e : Addr} {m : Str → Option Value} {news : List (Addr × Obj)} {cls : String} {ctx : Value} {x : Str} {v : Value} (X : NewX g L h m news e cls ctx) (hv : m x = some v) : NewX g L h (put x v m) news e cls ctx := ⟨Fr_put X.1 hv, X.2⟩
theorem HeldX.put {g h : Heap} {L e : Addr} {m : Str → Option Value} {news : List (Addr × Obj)} {cls : String} {ctx fl : Value} {x : Str} {v : Value} (X : HeldX g L h m news e cls ctx fl) (hv : m x = some v) : HeldX g L h (put x v m) news e cls ctx fl := ⟨Fr_put X.1 hv, X.2⟩
theorem HeldX.less {g h : Heap} {L e : Addr} {m : Str → Option Value} {news news' : List (Addr × Obj)} {cls : String} {ctx fl : Value} (X : HeldX g L h m news e cls ctx fl) (hs : ∀ q ∈ news', q ∈ news) : HeldX g L h m news' e cls ctx fl := by
  obtain ⟨F, oe, vs, T, oT, ts, N, a1, a2, a3, a4, a5, a6, a7, a8⟩ := X
  refine ⟨F, oe, vs, T, oT, ts, fun p hp => N p ?_, a1, a2, a3, a4, a5, a6, a7, fun q hq => a8 q (hs q hq)⟩
  rcases List.mem_cons.mp hp with e | hp
  · rw [e]; exact .head _
  · rcases List.mem_cons.mp hp with e | hp
    · rw [e]; exact .tail _ (.head _)
    · exact .tail _ (.tail _ (hs p hp))
end

section
variable {prog : Program} {w : World} {A : Around} {s : Shared} {env : Env} {E : Value → Shared → Prop}
theorem wp_whileE {D : Type} {test : Expr} {body orelse : List Stmt} {pos : Pos} {Q : Flow → Shared → Prop} (hE : PassesOwn (model prog w) A env E) (I : D → Heap → Prop) (sz : D → Nat) (d : D) (h : I d s.heap)
    (turn : ∀ d h tk, I d h → wpAny (model prog w) A (isTrue test env (eval test env)) (fun b s₂ =>
        (b = true → wpAny (model prog w) A (execs body env) (fun f s₃ => match f with
            | .next | .cont => Fin1 (∃ d', sz d' < sz d ∧ ∃ h' tk', s₃ = { s with heap := h', toks := tk' } ∧ I d' h')
            | .brk => Q .next s₃
            | .ret v => Q (.ret v) s₃) E s₂) ∧
        (b = false → wpAny (model prog w) A (execs orelse env) Q E s₂)) E { s with heap := h, toks := tk }) :
    wpAny (model prog w) A (exec (.While test body orelse pos) env) Q E s := by
  refine wpAny_While (codeAny_whileLoop (I := fun n s' => ∃ d, sz d = n ∧ ∃ h' tk', s' = { s with heap := h', toks := tk' } ∧ I d h') ?_ (sz d) ⟨d, rfl, s.heap, s.toks, rfl, h⟩)
  rintro n s' ⟨d, rfl, h', tk', rfl, hI⟩
  refine wpAny_mono (turn d h' tk' hI) (fun b s₂ hb => ?_) hE
  cases b with
  | true =>
    simp only [if_true]
    refine wpAny_mono (hb.1 rfl) (fun f s₃ h₃ => ?_) hE
    cases f with
    | next => obtain ⟨d', a, b⟩ := h₃.out; exact ⟨_, a, d', rfl, b⟩
    | cont => obtain ⟨d', a, b⟩ := h₃.out; exact ⟨_, a, d', rfl, b⟩
    | brk => exact h₃
    | ret v => exact h₃
  | false =>
    simp only [Bool.false_eq_true, if_false]
    exact wpAny_mono (hb.2 rfl) (fun f s₃ h₃ => h₃) hE

theorem raise_marked {α : Type} {e h : Addr} {oe oh : Obj} {vs ws : Array Value} {Q : α → Shared → Prop} (hA : A.handled = some (.ref h)) (hne : h ≠ e) (he : s.heap.get? e = some oe) (hd : oe.data = .fields vs) (hz : 2 < vs.size)
    (hh : s.heap.get? h = some oh) (hdh : oh.data = .fields ws) (h2 : ws[2]? = some .none) (k : E (.ref e) { s with heap := s.heap.update e (Obj.mapFields (·.setIfInBounds 2 (.ref h))) }) :
    wpAny (model prog w) A (raiseNew (.ref e) : Sem α) Q E s := by
  unfold raiseNew
  refine wpAny_bind (wpAny_handled ?_)
  rw [hA]
  dsimp only
  rw [if_pos (by simp [hne])]
  refine wpAny_bind (wpAny_holding (wpAny_runValue ?_))
  refine codeAny_builtin (b := Builtin.«proto.unchain») (entryFor_of_tree (by kernel_rfl)) ?_
  unfold Builtin.«proto.unchain»
  show wpAny _ _ (field (.ref h) 2 >>= _) _ _ _
  refine wpAny_bind (wpAny_field hh hdh h2 ?_)
  show wpAny _ _ (ret Value.none >>= fun r => pure r) _ _ _
  refine wpAny_bind (wpAny_pure (wpAny_pure ?_))
  show wpAny _ _ (updateField e 2 (.ref h) >>= fun _ => throw (.ref e)) Q E s
  refine wpAny_bind ?_
  have := wpAny_setField (M := model prog w) (A := A) (E := E) (a := e) (i := 2) (x := .ref h) (Q := fun _ s' => wpAny (model prog w) A (throw (.ref e) : Sem α) Q E s') he hd hz (wpAny_throw k)
  exact this

variable {g : Heap} {L : Addr} {m : Str → Option Value} {news : List (Addr × Obj)}
theorem getItem_out_marked {l h : Addr} {items : Array Value} {k : Int} {t : Tok} {oh : Obj} {ws : Array Value} {Q : Value → Shared → Prop} (hA : A.handled = some (.ref h)) (F : Fr g L s.heap m) (N : News g L s.heap news)
    (hl : s.heap.IsList l items) (hout : (items.size : Int) ≤ k) (hhi : k < 2 ^ 63) (hh : s.heap.get? h = some oh) (hdh : oh.data = .fields ws) (h2 : ws[2]? = some .none)
    (kk : ∀ h' tk e, NewX g L h' m news e "IndexError" (.ref h) → E (.ref e) { s with heap := h', toks := tk }) : wpAny (model prog w) A (getItem (.ref l) (.int k t)) Q E s := by
  obtain ⟨o, ho, hc, ne, hd⟩ := id hl
  unfold getItem
  refine wpAny_holding ?_
  refine wpAny_bind (wpAny_sequenceKey hl.typeIs (by decide) ?_)
  refine wpAny_bind (wpAny_callSpecial?_slot (name := Str.ofString "__getitem__") hl.typeIs slot_list_getitem (wpAny_call_entry slot_list_getitem hl.typeIs entry_list_getitem ?_ (args_list_getitem _ _)))
  show wpAny _ _ (Builtin.List.listSubscript? (.int k t) >>= _) _ _ s
  refine wpAny_bind (wpAny_listSubscript_int (fitsIndex_both (by walk_at "om") hhi) ?_)
  obtain ⟨j, rfl⟩ : ∃ j : Nat, k = j := ⟨k.toNat, by walk_at "om"⟩
  have hx : items[j]? = none := Array.getElem?_eq_none (by walk_at "om")
  show wpAny _ _ ((seqItemAt l j >>= fun r => pure (r.map (j, ·))) >>= _) _ _ s
  refine wpAny_bind (wpAny_bind (wpAny_seqItemAt ho hd (wpAny_pure ?_)))
  rw [hx]
  have fin : ∀ {β : Type} {Q' : β → Shared → Prop} (A' : Around), A'.handled = some (.ref h) → wpAny (model prog w) A' (raiseErrorWords "IndexError" "list index out of range" : Sem β) Q' E s := by
    intro β Q' A' hA'
    unfold raiseErrorWords
    refine wpAny_bind (wpAny_mkText (wpAny_bind (wpAny_newExc_plain plainExc_IndexError fun h' e hm => ?_)))
    obtain ⟨tt, ht, _, _⟩ := hm.there
    have X := NewX.of F N hm.newExc
    refine raise_marked hA' (fun z => ?_) ht rfl (show 2 < 6 by decide) (hm.keeps _ _ hh) hdh h2 (kk _ _ e (X.ctx (.ref h)))
    have := hm.new; rw [← z] at this; rw [show s.heap.get? h = none from this] at hh; cases hh
  first
    | exact wpAny_bind (wpAny_rule (fin _ hA))
    | exact wpAny_bind (wpAny_rule (wpAny_bind (fin _ hA)))
    | exact wpAny_bind (wpAny_bind (wpAny_rule (fin _ hA)))
    | exact wpAny_rule (fin _ hA)
end

section
variable {prog : Program} {w : World} {K : Frag} {p : Program} {loose : List Str} {mean : ExcName → Option Value} {mg mb : Str → Option Value} {A A' : Around} {base g : Heap} {outer : List Env} {s : Shared} {L a e : Addr} {m : Str → Option Value} {name : Str} {scope : Scope} {cd : Value} {news : List (Addr × Obj)} {cls : String} {ctx fl : Value}
  {x : Str} {np pos : Pos} {b₀ : Stmt} {suite : List Stmt} {rest : List ExceptHandler} {Q : Flow → Shared → Prop}
theorem handle_one (G : Gd K p loose mean mg mb A base outer g) (H : HeldX g L s.heap m news e cls ctx fl) (hn : nsIn K mainGlobals x = some none) (hv : bootBuiltins x = some (.type cls)) (hx : x ≠ "__name__")
    (hexc : isSubtype (.type cls) (.type "BaseException") = pure true) (hnt : isSubtype (.type ((Manifest.find? cls).elim "type" fun x => x.metatype)) (.type "tuple") = pure false) (hsub : isSubtype (.type cls) (.type cls) = pure true)
    (hk : scope.kind = .function) (hxk : (envOf name scope L a cd).kindOf x = some .globalImplicit) (hd : (x == ("__debug__" : Str)) = false)
    (k : ∀ h', Fr g L h' m → News g L h' news → wpAny (model prog w) (A'.mark (some (.ref e))) (execs (b₀ :: suite) (envOf name scope L a cd)) Q NoE { s with heap := h' }) :
    wpAny (model prog w) A' (handleBy (.ref e) (envOf name scope L a cd) (.ExceptHandler (some (.Name x np)) none (b₀ :: suite) pos :: rest)) Q NoE s := by
  have F := H.1
  refine wpAny_handleBy_builtin (X := cls) (T := cls) (b := true) hexc hnt hsub ?_
  refine name_B F G.X G.T.toTopRead hn hv hx ⟨rfl, ?_, ?_⟩ hk hxk hd
  · obtain ⟨_, oe, vs, T, oT, ts, N, hc, _⟩ := H
    exact ⟨oe, (N _ (.head _)).1, hc⟩
  · rw [if_pos rfl]
    refine flight H none fun h' H' => ?_
    obtain ⟨F', oe, vs, T, oT, ts, N, _⟩ := H'
    exact wpAny_mono (k h' F' fun q hq => N q (.tail _ (.tail _ hq))) (fun _ _ z => z) (fun _ _ z => z.elim)
end
end Mine

end
section
open PySem PySem.W PyProof.Rows PySem.Calls
set_option Elab.async false
namespace Mine
theorem ints_at {vs : List Value} {ns : List Int} (h : IntsAre vs ns) : ∀ (i : Nat), i < ns.length → ∃ tk, vs[i]? = some (.int (ns.getD i 0) tk) := by
  induction h with
  | nil => intro i hi; simp at hi
  | cons n t rest ih =>
    intro i hi
    cases i with
    | zero => exact ⟨_, rfl⟩
    | succ i => simpa using ih i (by simpa using hi)
section
variable {prog : Program} {w : World} {A : Around} {E : Value → Shared → Prop} {s : Shared} {g : Heap} {L l : Addr} {m : Str → Option Value} {led : List (Addr × Obj)} {vs : List Value} {ns : List Int} {n : Nat} {k : Int} {t : Tok} {value slice : Expr} {Q : Value → Shared → Prop}
theorem isList_of (N : News g L s.heap led) (hm : (l, listOf vs.toArray n) ∈ led) : s.heap.IsList l vs.toArray := ⟨_, (N _ hm).1, rfl, n, rfl⟩
theorem item_in (N : News g L s.heap led) (hm : (l, listOf vs.toArray n) ∈ led) (ia : IntsAre vs ns) (h0 : 0 ≤ k) (hk : k < (ns.length : Int)) (hz : ns.length < 2 ^ 62) (h : ∀ tk, Q (.int (ns.getD k.toNat 0) tk) s)
    (hs : autoParam (subscripted slice false (.ref l) (.int k t) = operate [.ref l, .int k t] (getItem (.ref l) (.int k t))) Mine.sx4) : wpAny (model prog w) A (subscriptTail value slice (.ref l) (.int k t)) Q E s := by
  obtain ⟨tk, hv⟩ := ints_at ia k.toNat (by walk_at "om")
  have hl := isList_of N hm
  exact tail_any hl.typeIs slot_list_getitem.lookup (wpAny_getItem_list hl h0 (by walk_at "om") (by simpa using hv) (h tk)) hs
theorem item_out (hA : A.handled = none) (F : Fr g L s.heap m) (N : News g L s.heap led) (hm : (l, listOf vs.toArray n) ∈ led) (ia : IntsAre vs ns) (hk : (ns.length : Int) ≤ k) (hz : k < 2 ^ 62) (h : ∀ h' tk e, NewX g L h' m led e "IndexError" .none → E (.ref e) { s with heap := h', toks := tk })
    (hs : autoParam (subscripted slice false (.ref l) (.int k t) = operate [.ref l, .int k t] (getItem (.ref l) (.int k t))) Mine.sx4) : wpAny (model prog w) A (subscriptTail value slice (.ref l) (.int k t)) Q E s := by
  have hl := isList_of N hm
  have hlen := ia.length
  exact tail_any hl.typeIs slot_list_getitem.lookup (wpAny_getItem_list_out hA hl (.inr (by rw [List.size_toArray]; walk_at "om")) (by walk_at "om") (by walk_at "om") fun h' tk e hx => h h' tk e (NewX.of F N hx)) hs
theorem item_outM {hh : Addr} {oh : Obj} {ws : Array Value} (hA : A.handled = some (.ref hh)) (F : Fr g L s.heap m) (N : News g L s.heap led) (hm : (l, listOf vs.toArray n) ∈ led) (ia : IntsAre vs ns) (hk : (ns.length : Int) ≤ k) (hz : k < 2 ^ 62)
    (he : (hh, oh) ∈ led) (hd : oh.data = .fields ws) (h2 : ws[2]? = some .none) (h : ∀ h' tk e, NewX g L h' m led e "IndexError" (.ref hh) → E (.ref e) { s with heap := h', toks := tk })
    (hs : autoParam (subscripted slice false (.ref l) (.int k t) = operate [.ref l, .int k t] (getItem (.ref l) (.int k t))) Mine.sx4) : wpAny (model prog w) A (subscriptTail value slice (.ref l) (.int k t)) Q E s := by
  have hl := isList_of N hm
  have hlen := ia.length
  exact tail_any hl.typeIs slot_list_getitem.lookup (getItem_out_marked hA F N hl (by rw [List.size_toArray]; walk_at "om") (by walk_at "om") (N _ he).1 hd h2 h) hs
end

theorem lt_of_allLt {d : Addr} {l : List (Addr × Obj)} (h : AllLt d l) : ∀ p ∈ l, p.1 < d := by
  induction l with
  | nil => intro p hp; cases hp
  | cons q r ih =>
    intro p hp
    rcases List.mem_cons.mp hp with e | e
    · rw [e]; exact h.1
    · exact ih h.2 p e

section
variable {prog : Program} {w : World} {A : Around} {E : Value → Shared → Prop} {s : Shared} {g : Heap} {L l b : Addr} {m : Str → Option Value} {led led' : List (Addr × Obj)} {vs us : List Value} {n n2 : Nat} {v : Value} {Q : Value → Shared → Prop}
theorem append_L (F : Fr g L s.heap m) (N : News g L s.heap led) (U : Upd l (listOf vs.toArray n) (listOf (vs ++ [v]).toArray (n + 1)) led led') (hz : vs.length ≤ 16777216) (h : ∀ h', Fr g L h' m → News g L h' led' → Q .none { s with heap := h' }) :
    wpAny (model prog w) A (call (.builtin "list.append") [.ref l, v]) Q E s :=
  append_K (its := vs.toArray) (x := v) F N (by rw [List.push_toArray]; exact U) h (by rw [List.size_toArray, sizeLine_eq]; exact hz)
end

theorem ints_snoc {vs : List Value} {ns : List Int} (h : IntsAre vs ns) (x : Int) (t : Tok) : IntsAre (vs ++ [.int x t]) (ns ++ [x]) := by
  induction h with
  | nil => exact .cons _ _ .nil
  | cons n u _ ih => exact .cons _ _ ih
theorem ints_app {vs us : List Value} {ns ks : List Int} (h : IntsAre vs ns) (h' : IntsAre us ks) : IntsAre (vs ++ us) (ns ++ ks) := by
  induction h with
  | nil => exact h'
  | cons n u _ ih => exact .cons _ _ ih
section
variable {prog : Program} {w : World} {A : Around} {E : Value → Shared → Prop} {s : Shared} {g : Heap} {L l b : Addr} {m : Str → Option Value} {led : List (Addr × Obj)} {led' : Nat → List (Addr × Obj)} {vs us : List Value} {ns : List Int} {n n2 : Nat} {x : Int} {t : Tok} {value slice : Expr} {Q : Value → Shared → Prop}
theorem slice_from (F : Fr g L s.heap m) (N : News g L s.heap led) (hm : (l, listOf vs.toArray n) ∈ led) (ia : IntsAre vs ns) (h0 : 0 ≤ x) (hx : x ≤ (ns.length : Int)) (hz : ns.length ≤ 16777216)
    (h : ∀ h' r us, IntsAre us (ns.drop x.toNat) → Fr g L h' m → News g L h' ((r, listOf us.toArray 0) :: led) → (∀ p ∈ led, p.1 < r) → Q (.ref r) { s with heap := h' })
    (hs : autoParam (subscripted slice false (.ref l) (.ref s.heap.objs.size) = operate [.ref s.heap.objs.size, .ref l] (getItem (.ref l) (.ref s.heap.objs.size))) Mine.sx4)
    (ht : ∀ r, letTemporaryGo value (.ref l) r = pure () := by intro _; with_unfolding_all rfl) :
    wpAny (model prog w) A (subscriptTail value slice (.ref l) (.ref s.heap.objs.size)) Q E { s with heap := s.heap.push { cls := .type "slice", data := .fields #[.int x t, .none, .none] } } :=
  slice_list F N (isList_of N hm) (.int x t) .none (fun h' F' N' => h h' _ _ (slice_ints_from ia h0 hx) F' (by rw [Array.toArray_toList]; exact N') fun p hp => Nat.lt_succ_of_lt (Heap.lt_size (N p hp).1)) hs ht
    (by rw [List.size_toArray, ia.length, sizeLine_eq]; exact hz)
theorem extend_L (F : Fr g L s.heap m) (N : News g L s.heap led) (hb : (b, listOf us.toArray n2) ∈ led) (U : ∀ k, Upd l (listOf vs.toArray n) (listOf (vs ++ us).toArray k) led (led' k)) (hz : vs.length + us.length ≤ 1000000)
    (h : ∀ h' k, Fr g L h' m → News g L h' (led' k) → Q .none { s with heap := h' }) : wpAny (model prog w) A (call (.builtin "list.extend") [.ref l, .ref b]) Q E s := by
  have no : ∀ k : Nat, k ≤ 1000000 → Builtin.List.listTooLong k = false := fun k hk => by unfold Builtin.List.listTooLong; rw [sizeLine_eq]; exact decide_eq_false (by walk_at "om")
  by_cases hu : us = []
  · subst hu
    refine kxn_extend (n := n) (its := vs.toArray) (its2 := #[]) F N hb rfl (by have := U n; rwa [List.append_nil] at this) ?_ ?_ ?_ fun h' F' N' => h h' n F' N'
    · rw [no _ (by simp at hz ⊢; walk_at "om")]; simp
    · rw [sizeLine_eq]; simp at hz ⊢; walk_at "om"
    · rw [sizeLine_eq]; simp at hz ⊢; walk_at "om"
  · refine kl_extend (n := n) (its := vs.toArray) (its2 := us.toArray) F N hb rfl (by simpa using hu) (U (n + 1)) ?_ ?_ ?_ fun h' F' N' => h h' (n + 1) F' N'
    · rw [no _ (by simp; walk_at "om")]; simp
    · rw [sizeLine_eq]; simp; walk_at "om"
    · rw [sizeLine_eq]; simp; walk_at "om"
end

theorem News_tail {g h : Heap} {L : Addr} {p : Addr × Obj} {l : List (Addr × Obj)} (N : News g L h (p :: l)) : News g L h l := fun q hq => N q (.tail _ hq)
end Mine

end
section
open PySem PySem.W PyProof.Rows PySem.Calls
set_option Elab.async false
namespace Mine

structure Out (L : Addr) (outer : List Env) (news : List (Addr × Obj)) (h h' : Heap) (news' : List (Addr × Obj)) : Prop where
  keep : ∀ b o, h.get? b = some o → b ∉ news.map (·.1) → b ≠ L → b ∉ fsOf outer → h'.get? b = some o
  fresh : ∀ p ∈ news', p.1 ∈ news.map (·.1) ∨ h.get? p.1 = none

noncomputable def Spec (prog : Program) (w : World) (K : Frag) (f : Addr) (vs : List Value) (d u : Nat) (news : List (Addr × Obj)) (Post : Value → List (Addr × Obj) → Prop) : Prop :=
  ∀ (p : Program) (loose : List Str) (mean : ExcName → Option Value) (mg mb : Str → Option Value) (dp un : Nat) (gd : Option (List Code)) (cn : Str) (cs : Scope) (a : Addr) (ccd : Value) (cl : List (Str × Addr)) (outer : List Env) (A₀ : Around) (base h₀ : Heap) (L : Addr) (m : Str → Option Value) (s : Shared) (R : Result → Shared → Prop),
    Gd K p loose mean mg mb A₀ base outer h₀ → Fr h₀ L s.heap m → News h₀ L s.heap news → cs.kind = .function → dp + d < recursionLimit → un + u < cLine →
    (∀ v g' h' tk' news', Gd K p loose mean mg mb A₀ base outer g' → KtsTurn (fsOf outer) h₀ g' → Fr g' L h' m → News g' L h' news' → Out L outer news s.heap h' news' → Post v news' → R (.ok (.ret v)) { s with heap := h', toks := tk' }) →
    codeAny (model prog w) (ktrTop dp un gd cn cs L a ccd cl outer) (.call (.ref f) ⟨vs, []⟩) R s

theorem Spec.call {prog : Program} {w : World} {K : Frag} {f : Addr} {vs : List Value} {d u : Nat} {news : List (Addr × Obj)} {Post : Value → List (Addr × Obj) → Prop} (H : Spec prog w K f vs d u news Post)
    {p : Program} {loose : List Str} {mean : ExcName → Option Value} {mg mb : Str → Option Value} {dp un : Nat} {gd : Option (List Code)} {cn : Str} {cs : Scope} {a : Addr} {ccd : Value} {cl : List (Str × Addr)} {outer : List Env} {A₀ : Around} {base h₀ : Heap} {L : Addr} {m : Str → Option Value} {s : Shared} {Q E : Value → Shared → Prop}
    (G : Gd K p loose mean mg mb A₀ base outer h₀) (F : Fr h₀ L s.heap m) (N : News h₀ L s.heap news) (hk : cs.kind = .function) (hd : dp + d < recursionLimit) (hu : un + u < cLine)
    (k : ∀ v g' h' tk' news', Gd K p loose mean mg mb A₀ base outer g' → KtsTurn (fsOf outer) h₀ g' → Fr g' L h' m → News g' L h' news' → Post v news' → Q v { s with heap := h', toks := tk' }) :
    wpAny (model prog w) (ktrTop dp un gd cn cs L a ccd cl outer) (PySem.call (.ref f) vs) Q E s :=
  wpAny_call (H p loose mean mg mb dp un gd cn cs a ccd cl outer A₀ base h₀ L m s _ G F N hk hd hu fun v g' h' tk' news' G' T' F' N' _ P' => k v g' h' tk' news' G' T' F' N' P')

theorem Spec.prop {prog : Program} {w : World} {K : Frag} {f x C q : Addr} {d u : Nat} {news : List (Addr × Obj)} {Post : Value → List (Addr × Obj) → Prop} (H : Spec prog w K f [.ref x] d u news Post)
    {p : Program} {loose : List Str} {mean : ExcName → Option Value} {mg mb : Str → Option Value} {dp un : Nat} {gd : Option (List Code)} {cn : Str} {cs : Scope} {a : Addr} {ccd : Value} {cl : List (Str × Addr)} {outer : List Env} {A₀ : Around} {base h₀ : Heap} {L : Addr} {m : Str → Option Value} {s : Shared} {Q E : Value → Shared → Prop} {name : Str} {expr : Bool} {rest : List Value} {ox od : Obj}
    (G : Gd K p loose mean mg mb A₀ base outer h₀) (F : Fr h₀ L s.heap m) (N : News h₀ L s.heap news) (hk : cs.kind = .function) (hd : dp + d < recursionLimit) (hu : un + u + 1 < cLine)
    (I : InstAt s.heap x ox C (some od)) (hg : plainGet K C name = true) (hh : hasDictIn K C = true)
    (ha : findIn K (.ref C) name = some (some (.ref q))) (hn : specialIn K (.ref q) "__get__" = some (some (.builtin "property.__get__"))) (ht : takesIn K (.ref q) = some true) (hp : recIn K q "property" = some (.ref f :: rest))
    (hv : ∀ v n', Post v n' → handedIn v = true)
    (k : ∀ v g' h' tk' news', Gd K p loose mean mg mb A₀ base outer g' → KtsTurn (fsOf outer) h₀ g' → Fr g' L h' m → News g' L h' news' → Post v news' → Q v { s with heap := h', toks := tk' }) :
    wpAny (model prog w) (ktrTop dp un gd cn cs L a ccd cl outer) (getAttr (.ref x) name expr) Q E s :=
  get_prop F G.X I hg hh ha hn ht hp (H p loose mean mg mb dp (un + 1) gd cn cs a ccd cl outer A₀ base h₀ L m { s with toks := s.toks + 1 } _ G F N hk hd (by walk_at "om") fun v g' h' tk' news' G' T' F' N' _ P' => handed_on (hv _ _ P') (k v g' h' tk' news' G' T' F' N' P'))

section
variable {K : Frag} {p : Program} {loose : List Str} {mean : ExcName → Option Value} {mg mb : Str → Option Value} {A₀ A : Around} {base h₀ g g' h : Heap} {outer : List Env} {env : Env} {L L' : Addr} {m m' : Str → Option Value} {news news' : List (Addr × Obj)}
theorem mem_fs {b : Addr} (hf : env.frame = some L) (hm : b ∈ fsOf (env :: outer)) : b = L ∨ b ∈ fsOf outer := by
  obtain ⟨e, he, hb⟩ := List.mem_filterMap.mp hm
  rcases List.mem_cons.mp he with rfl | he
  · exact .inl (Option.some.inj (hb.symm.trans hf))
  · exact .inr (List.mem_filterMap.mpr ⟨e, he, hb⟩)
theorem enter_X {s : Shared} (G : Gd K p loose mean mg mb A₀ base outer h₀) (F : Fr h₀ L s.heap m) (N : News h₀ L s.heap news) (hA : A.frames = some (env :: outer)) (hf : env.frame = some L) (hke : env.scope.kind = .function) :
    Fr h₀ L (hideAll s.heap (news.map (·.1))) m ∧ Gd K p loose mean mg mb A base (env :: outer) (hideAll s.heap (news.map (·.1))) := by
  obtain ⟨FG, BG, st, _⟩ := groundX (A := A) (s := s) (R := fun _ _ => True) G.B F N hA hf hke
  refine ⟨FG, BG, G.X.keeps st, G.T.keeps st, G.XB, G.TB, fun b hb => ?_⟩
  rcases mem_fs hf hb with rfl | hb
  · obtain ⟨o, es, ep, ho, hd, _⟩ := FG.ns
    exact ⟨o, es, ep, ho, hd⟩
  · obtain ⟨o, es, n, ho, hd⟩ := G.D b hb
    exact ⟨o, es, n, st b o ho, hd⟩
theorem back_X (G : Gd K p loose mean mg mb A₀ base outer h₀) (FG : Fr h₀ L g m) (hf : env.frame = some L) (T' : KtsTurn (fsOf (env :: outer)) g g') (F' : Fr g' L' h m') (N' : News g' L' h news') :
    ∃ h₀', KtsTurn (fsOf outer) h₀ h₀' ∧ Gd K p loose mean mg mb A₀ base outer h₀' ∧ Fr h₀' L h m ∧ News h₀' L h news' := by
  obtain ⟨B, X, T, XB, TB, D⟩ := G
  have st := FG.keep
  obtain ⟨oL, es, ep, hLg, hLd, hLk, hLf⟩ := FG.ns
  have hNs : ∀ (sl : Array (Option Value)) h', h'.get? L = some { oL with slots := sl } → Heap.Ns h' L m := fun sl h' e => ⟨_, es, ep, e, hLd, hLk, hLf⟩
  have nL₀ : h₀.get? L = none := kts_self FG
  obtain ⟨sl, hs⟩ := T'.up hLg
  obtain ⟨T₁, S₁⟩ := kts_turn_at (h := h) (fs := outer.filterMap (·.frame)) (g := h₀)
    (fun b hb => by
      obtain ⟨_, o, ho', _⟩ := B.frames.mem hb
      exact ⟨o, ho'⟩)
    (fun b o e nmem => F'.keep b o (T'.other b o (st b o e) (fun q => by
      rcases mem_fs hf q with z | z
      · rw [z, nL₀] at e
        cases e
      · exact nmem z)))
    (fun b o e hm => by
      obtain ⟨sl', hs'⟩ := T'.up (st b o e)
      exact ⟨sl', F'.keep _ _ hs'⟩)
  have B₃ : Below A₀ base outer (ktsHeap h (outer.filterMap (·.frame)) h₀) := ⟨B.stack, fun b o e => T₁.other b o (B.stays b o e) (fun hm => by
    rw [(B.frames.mem hm).1] at e
    cases e), B.frames.of_keeps fun b o e _ => by
    obtain ⟨sl', hs'⟩ := T₁.up e
    exact ⟨_, hs', rfl⟩⟩
  refine ⟨_, T₁, ⟨B₃, XB.keeps B₃.stays, TB.keeps B₃.stays, XB, TB, D.turn T₁⟩, ⟨hNs sl _ (F'.keep _ _ hs), S₁, by rw [T₁.size]; exact FG.above⟩, fun p hp => ⟨(N' p hp).1, fun q => ?_, ?_⟩⟩
  · have := (N' p hp).2.2; rw [q, hs] at this; cases this
  · refine T₁.none_ _ ?_
    cases q : h₀.get? p.1 with
    | none => rfl
    | some o =>
      obtain ⟨sl', hs'⟩ := T'.up (st _ _ q)
      have := (N' p hp).2.2
      rw [hs'] at this
      cases this
theorem out_X (hf : env.frame = some L) {h₁ : Heap} (T' : KtsTurn (fsOf (env :: outer)) (hideAll h (news.map (·.1))) g') (F' : Fr g' L' h₁ m') (N' : News g' L' h₁ news') : Out L outer news h h₁ news' := by
  refine ⟨fun b o e nb nL nf => ?_, fun p hp => ?_⟩
  · refine F'.keep b o (T'.other b o (hideAll_get _ e nb) fun q => ?_)
    rcases mem_fs hf q with z | z
    · exact nL z
    · exact nf z
  · by_cases q : p.1 ∈ news.map (·.1)
    · exact .inl q
    · refine .inr ?_
      cases z : h.get? p.1 with
      | none => rfl
      | some o =>
        obtain ⟨sl, hs⟩ := T'.up (hideAll_get _ z q)
        have := (N' p hp).2.2
        rw [hs] at this; cases this
end

noncomputable def Body (prog : Program) (w : World) (K : Frag) (d u : Nat) (news : List (Addr × Obj)) (Post : Value → List (Addr × Obj) → Prop) (binds : List (Str × Value)) (body : List Stmt) (qual : Str) (scope : Scope) (f : Addr) (cdv : Value) : Prop :=
  ∀ (p : Program) (loose : List Str) (mean : ExcName → Option Value) (mg mb : Str → Option Value) (dp un : Nat) (gd : Option (List Code)) (A₀ : Around) (base g : Heap) (outer : List Env) (L : Addr) (s : Shared) (Q : Flow → Shared → Prop),
    dp + d ≤ recursionLimit → un + u ≤ cLine →
    Gd K p loose mean mg mb A₀ base outer g → Fr g L s.heap (fun y => binds.reverse.lookup y) → News g L s.heap news →
    (∀ fl g' h' tk' m' news', KtsTurn (fsOf outer) g g' → Fr g' L h' m' → News g' L h' news' → Post (match fl with | .ret v => v | _ => .none) news' → Q fl { s with heap := h', toks := tk' }) →
    wpAny (model prog w) (ktrTop dp un gd qual scope L f cdv [] outer) (execs body (envOf qual scope L f cdv)) Q NoE s

theorem spec_of {prog : Program} {w : World} {K : Frag} {f : Addr} {vs : List Value} {d u : Nat} {news : List (Addr × Obj)} {Post : Value → List (Addr × Obj) → Prop} {binds : List (Str × Value)}
    {name qual : Str} {params : Arguments} {body : List Stmt} {scope : Scope} {dV kV doc pm cdv ct oc : Value} {an od : Option Addr} {osl : Array (Option Value)}
    (ho : K.lookup f = some ⟨oc, od, .func (fnOf name qual params body scope dV kV doc pm an cdv ct), osl⟩) (hcd : codeIn K cdv qual = true)
    (hbind : ∀ s : Shared, K.In s.heap → BindsTo s (fnOf name qual params body scope dV kV doc pm an cdv ct) ⟨vs, []⟩ binds) (hloc : ∀ y ∈ binds, scope.names.lookup y.1 = some .local)
    (hco : scope.isCoroutine = false) (hgen : scope.isGenerator = false) (hk : scope.kind = .function) (hcell : ∀ x ∈ scope.names, x.2 ≠ .cell)
    (h : Body prog w K d u news Post binds body qual scope f cdv) : Spec prog w K f vs (d + 1) (u + 8) news Post := by
  intro p loose mean mg mb dp un gd cn cs a ccd cl outer A₀ base h₀ L m s R G F N hck hd hu hret
  have X := G.X.keeps F.keep
  obtain ⟨FG, G1⟩ := enter_X (env := envX cn cs L a ccd cl) (A := ktrTop dp un gd cn cs L a ccd cl outer) G F N rfl rfl hck
  refine codeAny_call_def (fd := fnOf name qual params body scope dV kV doc pm an cdv ct) (body := body) (binds := binds) (by show dp < recursionLimit; walk_at "om") (X _ _ ho) rfl (G.T.nolimit.keeps F.keep) (codeRec_of X hcd) rfl (hbind s X) hcell hloc (fun h₁ hns hk₁ => ?_) hco hgen hk
  have F1 : Fr (hideAll s.heap (news.map (·.1))) s.heap.objs.size h₁ (fun x => binds.reverse.lookup x) := ⟨hns, fun b o e => hk₁ b o (of_hideAll _ e), Nat.le_of_eq (hideAll_size _ _)⟩
  have N1 : News (hideAll s.heap (news.map (·.1))) s.heap.objs.size h₁ news := fun p hp => ⟨hk₁ _ _ (N p hp).1, Nat.ne_of_lt (Heap.lt_size (N p hp).1), hideAll_none _ (List.mem_map_of_mem hp)⟩
  refine wp_noE ?_
  refine h p loose mean mg mb (dp + 1) (un + 3) gd _ base _ (envX cn cs L a ccd cl :: outer) _ { s with heap := h₁, toks := s.toks + binds.length } _ (by walk_at "om") (by walk_at "om") G1 F1 N1 ?_
  intro fl g' h' tk' m' news' T' F' N' hP
  obtain ⟨h₀', T2, G2, F2, N2⟩ := back_X G FG rfl T' F' N'
  exact hret _ h₀' h' tk' news' G2 T2 F2 N2 (out_X rfl T' F' N') hP

noncomputable def BodyC (prog : Program) (w : World) (K : Frag) (d u : Nat) (news : List (Addr × Obj)) (Post : Value → List (Addr × Obj) → Prop) (binds : List (Str × Value)) (body : List Stmt) (qual : Str) (scope : Scope) (f : Addr) (cdv : Value) : Prop :=
  ∀ (p : Program) (loose : List Str) (mean : ExcName → Option Value) (mg mb : Str → Option Value) (dp un : Nat) (gd : Option (List Code)) (A₀ : Around) (base g : Heap) (outer : List Env) (L : Addr) (s : Shared) (Q : Flow → Shared → Prop) (cells : List (Addr × Obj)),
    dp + d ≤ recursionLimit → un + u ≤ cLine →
    Gd K p loose mean mg mb A₀ base outer g → Fr g L s.heap (bindL (envOfC qual scope L f cdv).kindOf binds fun _ => none) → News g L s.heap (cells ++ news) →
    CellsAre (bindC (envOfC qual scope L f cdv).kindOf binds fun _ => none) (cellsFrom (L + 1) scope.names []) cells → (∀ p ∈ news, p.1 < L) → (∀ p ∈ cells, L < p.1) → ((cellsFrom (L + 1) scope.names []).Pairwise fun x y => x.2 ≠ y.2) →
    (∀ fl g' h' tk' m' news', KtsTurn (fsOf outer) g g' → Fr g' L h' m' → News g' L h' news' → Post (match fl with | .ret v => v | _ => .none) news' → Q fl { s with heap := h', toks := tk' }) →
    wpAny (model prog w) (ktrTop dp un gd qual scope L f cdv (cellsFrom (L + 1) scope.names []) outer) (execs body (envOfC qual scope L f cdv)) Q NoE s

theorem cells_above {cm : Str → Option Value} {L : Addr} : ∀ {cs : List (Str × Addr)} {cells : List (Addr × Obj)}, CellsAre cm cs cells → (∀ n c, (n, c) ∈ cs → L < c) → ∀ p ∈ cells, L < p.1 := by
  intro cs cells X
  induction X with
  | nil => intro _ p hp; cases hp
  | cons _ _ ih =>
    intro h p hp
    rcases List.mem_cons.mp hp with rfl | hp
    · exact h _ _ (List.Mem.head _)
    · exact ih (fun n c hm => h n c (List.Mem.tail _ hm)) p hp

theorem spec_ofC {prog : Program} {w : World} {K : Frag} {f : Addr} {vs : List Value} {d u : Nat} {news : List (Addr × Obj)} {Post : Value → List (Addr × Obj) → Prop} {binds : List (Str × Value)}
    {name qual : Str} {params : Arguments} {body : List Stmt} {scope : Scope} {dV kV doc pm cdv ct oc : Value} {an od : Option Addr} {osl : Array (Option Value)}
    (ho : K.lookup f = some ⟨oc, od, .func (fnOf name qual params body scope dV kV doc pm an cdv ct), osl⟩) (hcd : codeIn K cdv qual = true)
    (hbind : ∀ s : Shared, K.In s.heap → BindsTo s (fnOf name qual params body scope dV kV doc pm an cdv ct) ⟨vs, []⟩ binds)
    (hkind : ∀ n, ∀ x ∈ binds, scope.names.lookup x.1 = some .local ∨ (scope.names.lookup x.1 = some .cell ∧ ((cellsFrom n scope.names []).lookup x.1).isSome = true))
    (hnd : ((cellsFrom 0 scope.names []).map (·.1)).Nodup)
    (hco : scope.isCoroutine = false) (hgen : scope.isGenerator = false) (hk : scope.kind = .function)
    (h : BodyC prog w K d u news Post binds body qual scope f cdv) : Spec prog w K f vs (d + 1) (u + 8) news Post := by
  intro p loose mean mg mb dp un gd cn cs a ccd cl outer A₀ base h₀ L m s R G F N hck hd hu hret
  have X := G.X.keeps F.keep
  obtain ⟨FG, G1⟩ := enter_X (env := envX cn cs L a ccd cl) (A := ktrTop dp un gd cn cs L a ccd cl outer) G F N rfl rfl hck
  refine codeAny_call_function (fd := fnOf name qual params body scope dV kV doc pm an cdv ct) (by show dp < recursionLimit; walk_at "om") (X _ _ ho) rfl hco hgen rfl (codeRec_of X hcd) ((hbind s X) _ _ _ _ ?_)
  refine wpAny_newFunctionEnv_cells hk (hkind _) fun env' he s' x => ?_
  subst he
  refine ⟨(G.T.nolimit.keeps F.keep).keeps x.toInCall.keep, codeAny_func ?_⟩
  obtain ⟨h₁, tk, rfl, _⟩ := x.done
  have hk₁ := x.toInCall.keep
  obtain ⟨cells, NC, Y⟩ := Cl.news (h₀ := s.heap) (Nat.le_refl _) fun n c hm => ⟨x.cell n c (lookup_of_mem_nodup (cellsFrom_names scope.names 0 (s.heap.objs.size + 1) [] [] rfl ▸ hnd) hm), x.above n c hm⟩
  have F1 : Fr (hideAll s.heap (news.map (·.1))) s.heap.objs.size h₁ (bindL (envOfC qual scope s.heap.objs.size f cdv).kindOf binds fun _ => none) := ⟨x.toInCall.ns, fun b o e => hk₁ b o (of_hideAll _ e), Nat.le_of_eq (hideAll_size _ _)⟩
  have N1 : News (hideAll s.heap (news.map (·.1))) s.heap.objs.size h₁ (cells ++ news) := fun p hp => by
    rcases List.mem_append.mp hp with hp | hp
    · refine ⟨(NC p hp).1, (NC p hp).2.1, ?_⟩
      cases q : (hideAll s.heap (news.map (·.1))).get? p.1 with
      | none => rfl
      | some o => have := of_hideAll _ q; rw [(NC p hp).2.2] at this; cases this
    · exact ⟨hk₁ _ _ (N p hp).1, Nat.ne_of_lt (Heap.lt_size (N p hp).1), hideAll_none _ (List.mem_map_of_mem hp)⟩
  refine wpAny_mono (h p loose mean mg mb (dp + 1) (un + 3) gd _ base _ (envX cn cs L a ccd cl :: outer) _ { s with heap := h₁, toks := tk } (fun fl s' => R (.ok (.ret (match fl with | .ret v => v | _ => .none))) s') cells (by walk_at "om") (by walk_at "om") G1 F1 N1 Y (fun p hp => Heap.lt_size (N p hp).1) (cells_above Y fun n c hm => x.above n c hm) x.apart ?_) (fun _ _ y => y) (fun _ _ y => y.elim)
  intro fl g' h' tk' m' news' T' F' N' hP
  obtain ⟨h₀', T2, G2, F2, N2⟩ := back_X G FG rfl T' F' N'
  exact hret _ h₀' h' tk' news' G2 T2 F2 N2 (out_X rfl T' F' N') hP
end Mine

end
section
open PySem PySem.W PyProof.Rows PySem.Calls Builtin Builtin.ObjectAttr Builtin.Getset_descriptor
set_option Elab.async false
set_option maxRecDepth 100000
set_option maxHeartbeats 4000000
set_option linter.unusedVariables false
namespace Mine
section
variable {prog : Program} {w : World} {A : Around} {K : Frag} {C : Addr} {R : Result → Shared → Prop} {h : Heap} {g : Array GenState} {d : Drawn} {t : Nat} {os : OsState}
theorem make_own {rest : List Value} {kw : List (Str × Value)} {fN fI p : Addr} {mc : Value} {more : List Value} {oc : Value} {od : Option Addr} {cd : ClassData} {sl : Array (Option Value)} (X : K.In h)
    (hC : K.lookup C = some ⟨oc, od, .cls cd, sl⟩) (e4 : cd.mro.isEmpty = false) (hmade : ∀ S, peek K S (Bind.madeBy (.ref C)) = some none) (hcall : specialIn K (.ref C) "__call__" = some (some (.builtin "type.__call__"))) (htyp : instIn K (.ref C) (.type "type") = some true)
    (hsub : mroIn K C (.ref C) = some true) (hm : typeIn K (.ref C) = some mc) (hr : readsIn K C mc = true) (hget : findCls K (.ref C) mc "__new__" = some (.get (.builtin "staticmethod.__get__") (.ref p) .none (.ref C))) (hp : recIn K p "staticmethod" = some (.ref fN :: more)) (hv : handedIn (.ref fN) = true)
    (hi : findIn K (.ref C) "__init__" = some (some (.ref fI))) (hf : typeIn K (.ref fI) = some (.type "function"))
    (hnew : codeAny (model prog w) (A.under (.builtin "type.__call__" ⟨.ref C :: rest, kw⟩)) (.call (.ref fN) ⟨.ref C :: rest, kw⟩) (fun r s' => ∃ x ox, r = .ok (.ret (.ref x)) ∧ K.In s'.heap ∧ s'.heap.get? x = some ox ∧ ox.cls = .ref C ∧
      codeAny (model prog w) (A.under (.builtin "type.__call__" ⟨.ref C :: rest, kw⟩)) (.call (.ref fI) ⟨.ref x :: rest, kw⟩) (InitBack x R) s') ⟨h, g, d, t + 1, os⟩) :
    codeAny (model prog w) A (.call (.ref C) ⟨rest, kw⟩) R ⟨h, g, d, t, os⟩ := by
  have made : Looks (model prog w) h (Bind.madeBy (.ref C)) none := Looks.of_peek X (hmade _)
  have call := looks_specialIn (M := model prog w) X hcall
  have typ := looks_instIn (M := model prog w) X htyp
  have self := looks_mroIn (M := model prog w) X hsub
  have hi' := looks_findIn (M := model prog w) X hi
  have hC' := X _ _ hC
  refine codeAny_of_tree ?_
  show wpAny _ _ (callAny (.ref C) _) _ _ _
  refine nd_load hC' ?_
  show wpAny _ _ (callAny.viaDunder (.ref C) _) _ _ _
  unfold callAny.viaDunder
  refine wpAny_bind (call.at ?_)
  dsimp only
  rw [tc_bind]
  refine wpAny_bind (wpAny_pure (wpAny_bind (wpAny_pure ?_)))
  refine wpAny_pure (a := Fin.again (.call (.builtin "type.__call__") ⟨.ref C :: rest, kw⟩)) (And.intro rfl ?_)
  refine codeAny_call_builtin_at (Code.quiet_builtin _ (by decide +kernel)) entry_typeCall (check_slot tc_kind tc_split typ (tc_args _ _ _) ?_)
  unfold Builtin.«type.__call__»
  have hm' : Looks (model prog w) h (mroOf (.ref C)) cd.mro := ((Looks.ld (part := none) hC').andThen .now).andThen .now
  repeat ((fail_if_success (with_reducible show wpAny _ _ (getAttr _ _ _) _ _ _)); (first | simp only [e4, Bool.false_eq_true, if_false] | lk))
  refine cls_bind (s := ⟨h, g, d, t, os⟩) X hr hget (wpAny_call (sm_get (s := ⟨h, g, d, t + 1, os⟩) X hp (handed_on hv ?_)))
  refine wpAny_bind (wpAny_holding (wpAny_call (codeAny_mono hnew fun r s' z => ?_)))
  obtain ⟨x, ox, rfl, kp, hx, hcl, hin⟩ := z
  obtain ⟨h', g', d', t', os'⟩ := s'
  have t1 : Looks (model prog w) h' (typeOf (.ref x)) (.ref C) := hcl ▸ (Looks.ld hx).andThen .now
  have s1 := looks_mroIn (M := model prog w) kp hsub
  have i1 := looks_findIn (M := model prog w) kp hi
  have b1 := bind_fn (M := model prog w) kp (.ref x) hf
  dsimp only
  unfold isInstance callSpecial? specialOf
  repeat (first | with_reducible refine wpAny_call ?_ | lk)
  refine codeAny_mono hin fun r s' z => ?_
  rcases r with e | (v | _ | _ | _) <;> first | exact z | exact z.elim | skip
  obtain ⟨rfl, z⟩ := z
  exact wpAny_pure (wpAny_pure z)
end
theorem under_mk {dp un : Nat} {gd : Option (List Code)} {cn : Str} {cs : Scope} {L a : Addr} {ccd : Value} {cl : List (Str × Addr)} {outer : List Env} {C : Addr} {rest : List Value} {kw : List (Str × Value)} :
    (ktrTop dp un gd cn cs L a ccd cl outer).under (.builtin "type.__call__" ⟨.ref C :: rest, kw⟩) = ktrTop (dp + 1) (un + 1) gd cn cs L a ccd cl outer := by kernel_rfl
theorem Out.trans {L : Addr} {outer : List Env} {n1 n2 n3 : List (Addr × Obj)} {h1 h2 h3 : Heap} (a : Out L outer n1 h1 h2 n2) (b : Out L outer n2 h2 h3 n3) (hL : ∃ o, h2.get? L = some o) (hf : ∀ x ∈ fsOf outer, ∃ o, h2.get? x = some o) : Out L outer n1 h1 h3 n3 := by
  refine ⟨fun x o e x1 x2 x3 => b.keep x o (a.keep x o e x1 x2 x3) (fun q => ?_) x2 x3, fun p hp => ?_⟩
  · obtain ⟨r, hr, er⟩ := List.mem_map.mp q
    rcases a.fresh r hr with z | z
    · exact x1 (er ▸ z)
    · rw [er, e] at z; cases z
  · rcases b.fresh p hp with z | z
    · obtain ⟨r, hr, er⟩ := List.mem_map.mp z
      rw [← er]
      exact a.fresh r hr
    · cases q : h1.get? p.1 with
      | none => exact .inr rfl
      | some o =>
        by_cases x1 : p.1 ∈ n1.map (·.1)
        · exact .inl x1
        · by_cases x2 : p.1 = L
          · obtain ⟨o', ho'⟩ := hL
            rw [x2, ho'] at z; cases z
          · by_cases x3 : p.1 ∈ fsOf outer
            · obtain ⟨o', ho'⟩ := hf _ x3
              rw [ho'] at z; cases z
            · rw [a.keep _ _ q x1 x2 x3] at z; cases z
theorem Out.trans' {K : Frag} {p : Program} {loose : List Str} {mean : ExcName → Option Value} {mg mb : Str → Option Value} {A₀ : Around} {base g : Heap} {m : Str → Option Value} {L : Addr} {outer : List Env} {n1 n2 n3 : List (Addr × Obj)} {h1 h2 h3 : Heap} (a : Out L outer n1 h1 h2 n2) (b : Out L outer n2 h2 h3 n3)
    (G : Gd K p loose mean mg mb A₀ base outer g) (F : Fr g L h2 m) : Out L outer n1 h1 h3 n3 :=
  a.trans b (let ⟨o, _, _, ho, _⟩ := F.ns; ⟨o, ho⟩) fun x hx => let ⟨o, _, _, ho, _⟩ := G.D x hx; ⟨o, F.keep _ _ ho⟩
end Mine

end
section
open PySem PySem.W PyProof.Rows PySem.Calls
set_option Elab.async false
set_option maxRecDepth 100000
set_option maxHeartbeats 0
namespace Mine

theorem c_index {w : World} {news : List (Addr × Obj)} {n : Int} {t1 t2 : Tok} {x : Str} (h1 : n ≤ 1099511627776) (h2 : -1099511627776 ≤ n) : Spec PySem.Challenge.pw_oc0261_02 w (Mine.K1 w.params) 63 [.int n t1, .str x t2] (3 + 1) (40 + 8) news (fun v news' => news' = news ∧ ∃ t, v = .int n t) := by
  refine (?_ : PySem.Challenge.rw_oc0261_02 = PySem.Challenge.rw_oc0261_02 → (Mine.K1 w.params) = (Mine.K1 w.params) → _) rfl rfl
  k_fill
  intro _ _
  refine spec_of (binds := [(Str.ofString "n", .int n t1), (Str.ofString "what", .str x t2)]) (by k_is) (by k_is) (fun _ _ => by first | exact BindsTo.of_eq rfl | (refine binds_K (by assumption) rfl (by k_is) rfl rfl rfl)) (locs rfl) rfl rfl rfl (by decide) ?_
  intro p loose mean mg mb dp un gd A₀ base g outer L1 s Q hdp hun G F1 N1 hq
  k_with_none
  have XB := G.XB
  have TB := G.TB.toTopRead
  have D1 := G.D
  have B1 := G.B
  have X1 := G.X
  have T1 := G.T.toTopRead
  have T0 : KtsTurn (fsOf outer) g g := KtsTurn.refl
  obtain ⟨m0, F1⟩ : ∃ m0, Fr g L1 _ (put "n" (.int n t1) (put "what" (.str x t2) m0)) := ⟨_, (Fr_put (x := "n") (Fr_put (x := "what") F1 rfl) rfl)⟩
  k_steps
  (with_reducible rename Fr _ _ _ _ => F9); (with_reducible rename News _ _ _ _ => N9)
  exact hq _ _ _ _ _ _ KtsTurn.refl F9 N9 ⟨rfl, _, rfl⟩


end Mine

end
section
open PySem PySem.W PyProof.Rows PySem.Calls
set_option Elab.async false
set_option maxRecDepth 100000
set_option maxHeartbeats 0
namespace Mine


noncomputable abbrev ent (w : World) (x : String) (t : Tok) (v : Value) : DictEntry := ⟨PyData.keyHash w.params (Str.ofString x), .str (Str.ofString x) t, v⟩
noncomputable abbrev sioD (w : World) (k1 k2 k3 : Tok) (nl bf ps : Value) : List DictEntry := [ent w "_StringIO__newline" k1 nl, ent w "_StringIO__buf" k2 bf, ent w "_StringIO__pos" k3 ps]

theorem one_slice {x : Str} {ps c : Nat} {j : Int} (hc : x.cps[ps]? = some c) (hp : ps < x.length) (hj : j = (ps : Int) + 1) : Txt.slice x (some (ps : Int)) (some j) = ⟨#[c]⟩ := by
  subst hj
  rw [eq_of_beq (slice_closesL (by walk_at "om") (by walk_at "om") (by walk_at "om"))]
  obtain ⟨⟨l⟩⟩ := x
  have hp' : ps < l.length := hp
  have hc' : l[ps] = c := by simpa [hp'] using hc
  have e2 : ((ps : Int) + 1 - (ps : Int)).toNat = 1 := by walk_at "om"
  rw [e2, Int.toNat_natCast]
  show (⟨(List.take 1 (List.drop ps l)).toArray⟩ : Str) = _
  rw [List.drop_eq_getElem_cons hp', hc']
  rfl

theorem c_check {w : World}  {sx sd : Addr} {rest : List (Addr × Obj)} {k1 k2 k3 t1 t2 t3 : Tok} {x : Str} {ps : Nat} : Spec PySem.Challenge.pw_oc0261_02 w (Mine.K1 w.params) 381 [.ref sx] (0 + 1) (40 + 8) ((sx, instObj 597 sd) :: (sd, dictOf (sioD w k1 k2 k3 (.str "\n" t1) (.str x t2) (.int (ps : Int) t3)) 3) :: rest) (fun v news' => news' = ((sx, instObj 597 sd) :: (sd, dictOf (sioD w k1 k2 k3 (.str "\n" t1) (.str x t2) (.int (ps : Int) t3)) 3) :: rest) ∧ v = .none) := by
  refine (?_ : PySem.Challenge.rw_oc0261_02 = PySem.Challenge.rw_oc0261_02 → (Mine.K1 w.params) = (Mine.K1 w.params) → _) rfl rfl
  k_fill
  intro _ _
  refine spec_of (binds := [(Str.ofString "self", .ref sx)]) (by k_is) (by k_is) (fun _ _ => by first | exact BindsTo.of_eq rfl | (refine binds_K (by assumption) rfl (by k_is) rfl rfl rfl)) (locs rfl) rfl rfl rfl (by decide) ?_
  intro p loose mean mg mb dp un gd A₀ base g outer L1 s Q hdp hun G F1 N1 hq
  k_with_none
  have XB := G.XB
  have TB := G.TB.toTopRead
  have D1 := G.D
  have B1 := G.B
  have X1 := G.X
  have T1 := G.T.toTopRead
  have T0 : KtsTurn (fsOf outer) g g := KtsTurn.refl
  obtain ⟨m0, F1⟩ : ∃ m0, Fr g L1 _ (put "self" (.ref sx) m0) := ⟨_, (Fr_put (x := "self") F1 rfl)⟩
  repeat' (first | (k_unfold; (try dsimp only)) | (with_reducible refine execs_one ?_) | ((with_reducible show wpAny _ _ (exec _ _) _ _ _); (with_reducible rename Fr _ _ _ _ => F9); (refine st_at (s := s) F9 fun tk9 => ?_); (try k_fold); walk1) | (k_end; wrow_close) | walk1 | (dsimp only; walk1) | (leave1; try dsimp only) | fail "no step")
  (with_reducible rename Fr _ _ _ _ => F9); (with_reducible rename News _ _ _ _ => N9)
  exact hq _ _ _ _ _ _ KtsTurn.refl F9 N9 ⟨rfl, rfl⟩


theorem c_readE {w : World}  {sx sd : Addr} {rest : List (Addr × Obj)} {k1 k2 k3 t1 t2 t3 : Tok} {x : Str} {ps : Nat} {t : Tok} (hx : x.length < 1000000) (hne : sx ≠ sd) (hne2 : sd ≠ sx) (ha : ∀ q ∈ rest, q.1 ≠ sd) (hp : ps = x.length) : Spec PySem.Challenge.pw_oc0261_02 w (Mine.K1 w.params) 543 [.ref sx, .int 1 t] (8 + 1) (80 + 8) ((sx, instObj 597 sd) :: (sd, dictOf (sioD w k1 k2 k3 (.str "\n" t1) (.str x t2) (.int (ps : Int) t3)) 3) :: rest) (fun v news' => news' = ((sx, instObj 597 sd) :: (sd, dictOf (sioD w k1 k2 k3 (.str "\n" t1) (.str x t2) (.int (ps : Int) t3)) 3) :: rest) ∧ ∃ u, v = .str (Str.ofString "") u) := by
  refine (?_ : PySem.Challenge.rw_oc0261_02 = PySem.Challenge.rw_oc0261_02 → (Mine.K1 w.params) = (Mine.K1 w.params) → _) rfl rfl
  k_fill
  intro _ _
  refine spec_of (binds := [(Str.ofString "self", .ref sx), (Str.ofString "size", .int 1 t)]) (by k_is) (by k_is) (fun _ _ => by first | exact BindsTo.of_eq rfl | (refine binds_K (by assumption) rfl (by k_is) rfl rfl rfl)) (locs rfl) rfl rfl rfl (by decide) ?_
  intro p loose mean mg mb dp un gd A₀ base g outer L1 s Q hdp hun G F1 N1 hq
  k_with_none
  have XB := G.XB
  have TB := G.TB.toTopRead
  have D1 := G.D
  have B1 := G.B
  have X1 := G.X
  have T1 := G.T.toTopRead
  have T0 : KtsTurn (fsOf outer) g g := KtsTurn.refl
  obtain ⟨m0, F1⟩ : ∃ m0, Fr g L1 _ (put "self" (.ref sx) (put "size" (.int 1 t) m0)) := ⟨_, (Fr_put (x := "self") (Fr_put (x := "size") F1 rfl) rfl)⟩
  k_with "call ref cons nil" => ((with_reducible rename Fr _ _ _ _ => F9); (with_reducible rename News _ _ _ _ => N9); (first | refine (c_index (by decide) (by decide)).call G F9 N9 rfl (by walk_at "om") (by walk_at "om") ?_); clear G B1 X1 T1 D1 F9 N9; intro v9 g9 hh9 tk9 news9 G T8 F8 N8 P8; replace T0 := KtsTurn.trans T0 T8; clear T8; (first | (obtain ⟨e9, t9, rfl⟩ := P8; subst e9) | (obtain ⟨e9, e8⟩ := P8; subst e9 e8)); have D1 := G.D; have B1 := G.B; have X1 := G.X; have T1 := G.T.toTopRead)
  k_with "call ref nil" => ((with_reducible rename Fr _ _ _ _ => F9); (with_reducible rename News _ _ _ _ => N9); (first | refine (c_check).call G F9 N9 rfl (by walk_at "om") (by walk_at "om") ?_); clear G B1 X1 T1 D1 F9 N9; intro v9 g9 hh9 tk9 news9 G T8 F8 N8 P8; replace T0 := KtsTurn.trans T0 T8; clear T8; (first | (obtain ⟨e9, t9, rfl⟩ := P8; subst e9) | (obtain ⟨e9, e8⟩ := P8; subst e9 e8)); have D1 := G.D; have B1 := G.B; have X1 := G.X; have T1 := G.T.toTopRead)
  repeat' (first | (k_unfold; (try dsimp only)) | (with_reducible refine execs_one ?_) | ((with_reducible show wpAny _ _ (exec _ _) _ _ _); (with_reducible rename Fr _ _ _ _ => F9); (refine st_at (s := s) F9 fun tk9 => ?_); (try k_fold); walk1) | (k_end; wrow_close) | walk1 | (dsimp only; walk1) | (leave1; try dsimp only) | fail "no step")
  (with_reducible rename Fr _ _ _ _ => F9); (with_reducible rename News _ _ _ _ => N9)
  exact hq _ _ _ _ _ _ T0 F9 N9 ⟨rfl, _, rfl⟩


theorem c_readC {w : World}  {sx sd : Addr} {rest : List (Addr × Obj)} {k1 k2 k3 t1 t2 t3 : Tok} {x : Str} {ps : Nat} {t : Tok} (hx : x.length < 1000000) (hne : sx ≠ sd) (hne2 : sd ≠ sx) (ha : ∀ q ∈ rest, q.1 ≠ sd) {c : Nat} (hp : ps < x.length) (hc : x.cps[ps]? = some c) : Spec PySem.Challenge.pw_oc0261_02 w (Mine.K1 w.params) 543 [.ref sx, .int 1 t] (8 + 1) (80 + 8) ((sx, instObj 597 sd) :: (sd, dictOf (sioD w k1 k2 k3 (.str "\n" t1) (.str x t2) (.int (ps : Int) t3)) 3) :: rest) (fun v news' => ∃ t4 u, news' = ((sx, instObj 597 sd) :: (sd, dictOf (sioD w k1 k2 k3 (.str "\n" t1) (.str x t2) (.int (ps + 1 : Nat) t4)) 3) :: rest) ∧ v = .str ⟨#[c]⟩ u) := by
  refine (?_ : PySem.Challenge.rw_oc0261_02 = PySem.Challenge.rw_oc0261_02 → (Mine.K1 w.params) = (Mine.K1 w.params) → _) rfl rfl
  k_fill
  intro _ _
  refine spec_of (binds := [(Str.ofString "self", .ref sx), (Str.ofString "size", .int 1 t)]) (by k_is) (by k_is) (fun _ _ => by first | exact BindsTo.of_eq rfl | (refine binds_K (by assumption) rfl (by k_is) rfl rfl rfl)) (locs rfl) rfl rfl rfl (by decide) ?_
  intro p loose mean mg mb dp un gd A₀ base g outer L1 s Q hdp hun G F1 N1 hq
  k_with_none
  have XB := G.XB
  have TB := G.TB.toTopRead
  have D1 := G.D
  have B1 := G.B
  have X1 := G.X
  have T1 := G.T.toTopRead
  have T0 : KtsTurn (fsOf outer) g g := KtsTurn.refl
  obtain ⟨m0, F1⟩ : ∃ m0, Fr g L1 _ (put "self" (.ref sx) (put "size" (.int 1 t) m0)) := ⟨_, (Fr_put (x := "self") (Fr_put (x := "size") F1 rfl) rfl)⟩
  k_with "call ref cons nil" => ((with_reducible rename Fr _ _ _ _ => F9); (with_reducible rename News _ _ _ _ => N9); (first | refine (c_index (by decide) (by decide)).call G F9 N9 rfl (by walk_at "om") (by walk_at "om") ?_); clear G B1 X1 T1 D1 F9 N9; intro v9 g9 hh9 tk9 news9 G T8 F8 N8 P8; replace T0 := KtsTurn.trans T0 T8; clear T8; (first | (obtain ⟨e9, t9, rfl⟩ := P8; subst e9) | (obtain ⟨e9, e8⟩ := P8; subst e9 e8)); have D1 := G.D; have B1 := G.B; have X1 := G.X; have T1 := G.T.toTopRead)
  k_with "call ref nil" => ((with_reducible rename Fr _ _ _ _ => F9); (with_reducible rename News _ _ _ _ => N9); (first | refine (c_check).call G F9 N9 rfl (by walk_at "om") (by walk_at "om") ?_); clear G B1 X1 T1 D1 F9 N9; intro v9 g9 hh9 tk9 news9 G T8 F8 N8 P8; replace T0 := KtsTurn.trans T0 T8; clear T8; (first | (obtain ⟨e9, t9, rfl⟩ := P8; subst e9) | (obtain ⟨e9, e8⟩ := P8; subst e9 e8)); have D1 := G.D; have B1 := G.B; have X1 := G.X; have T1 := G.T.toTopRead)
  repeat' (first | (k_unfold; (try dsimp only)) | (with_reducible refine execs_one ?_) | ((with_reducible show wpAny _ _ (exec _ _) _ _ _); (with_reducible rename Fr _ _ _ _ => F9); (refine st_at (s := s) F9 fun tk9 => ?_); (try k_fold); walk1) | (k_end; wrow_close) | walk1 | (dsimp only; walk1) | (leave1; try dsimp only) | fail "no step")
  all_goals ((with_reducible rename Fr _ _ _ _ => F9); (with_reducible rename News _ _ _ _ => N9); refine hq _ _ _ _ _ _ T0 F9 N9 ?_; dsimp only)
  · exact ⟨_, _, rfl, congrArg (fun z => Value.str z _) (one_slice hc (by walk_at "om") rfl)⟩
  · have e : ((x.length : Nat) : Int) = ((ps + 1 : Nat) : Int) := by walk_at "om"
    rw [e]
    exact ⟨_, _, rfl, congrArg (fun z => Value.str z _) (one_slice hc (by walk_at "om") (by walk_at "om"))⟩


end Mine

end
section
open PySem PySem.W PyProof.Rows PySem.Calls
set_option Elab.async false
set_option maxRecDepth 100000
set_option maxHeartbeats 0
namespace Mine


theorem c_trans {w : World}  {sx sd : Addr} {rest : List (Addr × Obj)} {x : Str} {t : Tok} (hx : x.length < 1000000) (hne : sx ≠ sd) (hne2 : sd ≠ sx) (ha : ∀ q ∈ rest, q.1 ≠ sd) {k1 k2 k3 t1 t2 t3 : Tok} : Spec PySem.Challenge.pw_oc0261_02 w (Mine.K1 w.params) 374 [.ref sx, .str x t] (3 + 1) (40 + 8) ((sx, instObj 597 sd) :: (sd, dictOf (sioD w k1 k2 k3 (.str "\n" t1) (.str (Str.ofString "") t2) (.int 0 t3)) 3) :: rest) (fun v news' => news' = ((sx, instObj 597 sd) :: (sd, dictOf (sioD w k1 k2 k3 (.str "\n" t1) (.str (Str.ofString "") t2) (.int 0 t3)) 3) :: rest) ∧ ∃ u, v = .str x u) := by
  refine (?_ : PySem.Challenge.rw_oc0261_02 = PySem.Challenge.rw_oc0261_02 → (Mine.K1 w.params) = (Mine.K1 w.params) → _) rfl rfl
  k_fill
  intro _ _
  refine spec_of (binds := [(Str.ofString "self", .ref sx), (Str.ofString "s", .str x t)]) (by k_is) (by k_is) (fun _ _ => by first | exact BindsTo.of_eq rfl | (refine binds_K (by assumption) rfl (by k_is) rfl rfl rfl)) (locs rfl) rfl rfl rfl (by decide) ?_
  intro p loose mean mg mb dp un gd A₀ base g outer L1 s Q hdp hun G F1 N1 hq
  k_with_none
  have XB := G.XB
  have TB := G.TB.toTopRead
  have D1 := G.D
  have B1 := G.B
  have X1 := G.X
  have T1 := G.T.toTopRead
  have T0 : KtsTurn (fsOf outer) g g := KtsTurn.refl
  obtain ⟨m0, F1⟩ : ∃ m0, Fr g L1 _ (put "self" (.ref sx) (put "s" (.str x t) m0)) := ⟨_, (Fr_put (x := "self") (Fr_put (x := "s") F1 rfl) rfl)⟩
  repeat' (first | (k_unfold; (try dsimp only)) | (with_reducible refine execs_one ?_) | ((with_reducible show wpAny _ _ (exec _ _) _ _ _); (with_reducible rename Fr _ _ _ _ => F9); (refine st_at (s := s) F9 fun tk9 => ?_); (try k_fold); walk1) | (k_end; wrow_close) | walk1 | (dsimp only; walk1) | (leave1; try dsimp only) | fail "no step")
  (with_reducible rename Fr _ _ _ _ => F9); (with_reducible rename News _ _ _ _ => N9)
  exact hq _ _ _ _ _ _ T0 F9 N9 ⟨rfl, _, rfl⟩


theorem c_sinit {w : World}  {sx sd : Addr} {rest : List (Addr × Obj)} {x : Str} {t : Tok} (hx : x.length < 1000000) (hne : sx ≠ sd) (hne2 : sd ≠ sx) (ha : ∀ q ∈ rest, q.1 ≠ sd) : Spec PySem.Challenge.pw_oc0261_02 w (Mine.K1 w.params) 367 [.ref sx, .str x t] (8 + 1) (80 + 8) ((sx, instObj 597 sd) :: (sd, emptyDict) :: rest) (fun v news' => v = .none ∧ ∃ k1 k2 k3 t1 t2 t3, news' = ((sx, instObj 597 sd) :: (sd, dictOf (sioD w k1 k2 k3 (.str "\n" t1) (.str x t2) (.int ((0 : Nat) : Int) t3)) 3) :: rest)) := by
  refine (?_ : PySem.Challenge.rw_oc0261_02 = PySem.Challenge.rw_oc0261_02 → (Mine.K1 w.params) = (Mine.K1 w.params) → _) rfl rfl
  k_fill
  intro _ _
  refine spec_of (binds := [(Str.ofString "self", .ref sx), (Str.ofString "initial_value", .str x t), (Str.ofString "newline", .str "\n" 756)]) (by k_is) (by k_is) (fun _ _ => by first | exact BindsTo.of_eq rfl | (refine binds_K (by assumption) rfl (by k_is) rfl rfl rfl)) (locs rfl) rfl rfl rfl (by decide) ?_
  intro p loose mean mg mb dp un gd A₀ base g outer L1 s Q hdp hun G F1 N1 hq
  k_with_none
  have XB := G.XB
  have TB := G.TB.toTopRead
  have D1 := G.D
  have B1 := G.B
  have X1 := G.X
  have T1 := G.T.toTopRead
  have T0 : KtsTurn (fsOf outer) g g := KtsTurn.refl
  obtain ⟨m0, F1⟩ : ∃ m0, Fr g L1 _ (put "self" (.ref sx) (put "initial_value" (.str x t) (put "newline" (.str "\n" 756) m0))) := ⟨_, (Fr_put (x := "self") (Fr_put (x := "initial_value") (Fr_put (x := "newline") F1 rfl) rfl) rfl)⟩
  k_with "call ref cons nil" => ((with_reducible rename Fr _ _ _ _ => F9); (with_reducible rename News _ _ _ _ => N9); (first | refine (c_trans hx hne hne2 ha).call G F9 N9 rfl (by walk_at "om") (by walk_at "om") ?_); clear G B1 X1 T1 D1 F9 N9; intro v9 g9 hh9 tk9 news9 G T8 F8 N8 P8; replace T0 := KtsTurn.trans T0 T8; clear T8; (first | (obtain ⟨e9, t9, rfl⟩ := P8; subst e9) | (obtain ⟨e9, e8⟩ := P8; subst e9 e8)); have D1 := G.D; have B1 := G.B; have X1 := G.X; have T1 := G.T.toTopRead)
  repeat' (first | (k_unfold; (try dsimp only)) | (with_reducible refine execs_one ?_) | ((with_reducible show wpAny _ _ (exec _ _) _ _ _); (with_reducible rename Fr _ _ _ _ => F9); (refine st_at (s := s) F9 fun tk9 => ?_); (try k_fold); walk1) | (k_end; wrow_close) | walk1 | (dsimp only; walk1) | (leave1; try dsimp only) | fail "no step")
  (with_reducible rename Fr _ _ _ _ => F9); (with_reducible rename News _ _ _ _ => N9)
  refine hq _ _ _ _ _ _ T0 F9 N9 ?_
  dsimp only
  exact ⟨rfl, _, _, _, _, _, _, rfl⟩


end Mine

end
section
open PySem PySem.W PyProof.Rows PySem.Calls
set_option Elab.async false
set_option maxRecDepth 100000
set_option linter.unusedVariables false
namespace Mine
theorem spec_of2 {prog : Program} {w : World} {K : Frag} {f : Addr} {vs : List Value} {d u : Nat} {news : List (Addr × Obj)} {Post : Value → List (Addr × Obj) → Prop} {binds : Addr → List (Str × Value)} {o1 o2 : Obj}
    {name qual : Str} {params : Arguments} {body : List Stmt} {scope : Scope} {dV kV doc pm cdv ct oc : Value} {an od : Option Addr} {osl : Array (Option Value)}
    (ho : K.lookup f = some ⟨oc, od, .func (fnOf name qual params body scope dV kV doc pm an cdv ct), osl⟩) (hcd : codeIn K cdv qual = true)
    (hbind : ∀ (s : Shared) (M : Model) (A : Around) (E : Value → Shared → Prop) (Q : List (Str × Value) → Shared → Prop), Q (binds s.heap.objs.size) { s with heap := (s.heap.push o1).push o2 } → wpAny M A (bindArgs (fnOf name qual params body scope dV kV doc pm an cdv ct) ⟨vs, []⟩) Q E s)
    (f1 : o1.isFreed = false) (f2 : o2.isFreed = false) (hloc : ∀ n, ∀ y ∈ binds n, scope.names.lookup y.1 = some .local)
    (hco : scope.isCoroutine = false) (hgen : scope.isGenerator = false) (hk : scope.kind = .function) (hcell : ∀ x ∈ scope.names, x.2 ≠ .cell)
    (h : ∀ n, (∀ p ∈ news, p.1 < n) → Body prog w K d u ((n + 1, o2) :: (n, o1) :: news) Post (binds n) body qual scope f cdv) : Spec prog w K f vs (d + 1) (u + 8) news Post := by
  intro p loose mean mg mb dp un gd cn cs a ccd cl outer A₀ base h₀ L m s R G F N hck hd hu hret
  have X := G.X.keeps F.keep
  obtain ⟨FG, G1⟩ := enter_X (env := envX cn cs L a ccd cl) (A := ktrTop dp un gd cn cs L a ccd cl outer) G F N rfl rfl hck
  have hk2 : ∀ b o, s.heap.get? b = some o → ((s.heap.push o1).push o2).get? b = some o := fun b o e => Heap.get?_push_of_some _ (Heap.get?_push_of_some _ e)
  have sz2 : ((s.heap.push o1).push o2).objs.size = s.heap.objs.size + 2 := by rw [Heap.size_push, Heap.size_push]
  refine codeAny_call_function (fd := fnOf name qual params body scope dV kV doc pm an cdv ct) (by show dp < recursionLimit; walk_at "om") (X _ _ ho) rfl hco hgen rfl (codeRec_of X hcd) (hbind s _ _ _ _ ?_)
  refine wpAny_newFunctionEnv hcell (hloc _) (fun h' hn' hs' => ?_) hk
  have hk' : ∀ b o, s.heap.get? b = some o → h'.get? b = some o := fun b o e => hs'.extBut b o (Nat.ne_of_lt (Heap.lt_size (hk2 b o e))) (Heap.get?_push_of_some _ (hk2 b o e))
  have get1 : h'.get? s.heap.objs.size = some o1 := hs'.extBut _ _ (Nat.ne_of_lt (by show s.heap.objs.size < ((s.heap.push o1).push o2).objs.size; rw [sz2]; walk_at "om")) (Heap.get?_push_of_some _ (Heap.get?_push_of_some _ (Heap.get?_push_size _ f1)))
  have get2 : h'.get? (s.heap.objs.size + 1) = some o2 := hs'.extBut _ _ (Nat.ne_of_lt (by show s.heap.objs.size + 1 < ((s.heap.push o1).push o2).objs.size; rw [sz2]; walk_at "om")) (Heap.get?_push_of_some _ (by
    have q := Heap.get?_push_size (s.heap.push o1) f2
    rw [Heap.size_push] at q
    exact q))
  refine ⟨(G.T.nolimit.keeps F.keep).keeps hk', codeAny_func ?_⟩
  have F1 : Fr (hideAll s.heap (news.map (·.1))) (s.heap.objs.size + 2) h' (fun x => (binds s.heap.objs.size).reverse.lookup x) := ⟨by
    have := hn'
    rw [sz2] at this
    exact this, fun b o e => hk' b o (of_hideAll _ e), by rw [hideAll_size]; walk_at "om"⟩
  have hout : ∀ b, s.heap.objs.size ≤ b → (hideAll s.heap (news.map (·.1))).get? b = none := fun b hb => by
    cases q : (hideAll s.heap (news.map (·.1))).get? b with
    | none => rfl
    | some o => exact absurd (Heap.lt_size (of_hideAll _ q)) (Nat.not_lt.mpr hb)
  have N1 : News (hideAll s.heap (news.map (·.1))) (s.heap.objs.size + 2) h' ((s.heap.objs.size + 1, o2) :: (s.heap.objs.size, o1) :: news) := fun p hp => by
    rcases List.mem_cons.mp hp with e | hp
    · rw [e]; exact ⟨get2, Nat.ne_of_lt (Nat.lt_succ_self _), hout _ (Nat.le_succ _)⟩
    · rcases List.mem_cons.mp hp with e | hp
      · rw [e]; exact ⟨get1, Nat.ne_of_lt (by show s.heap.objs.size < s.heap.objs.size + 2; walk_at "om"), hout _ (Nat.le_refl _)⟩
      · exact ⟨hk' _ _ (N p hp).1, Nat.ne_of_lt (Nat.lt_add_right 2 (Heap.lt_size (N p hp).1)), hideAll_none _ (List.mem_map_of_mem hp)⟩
  have ez : ({ s with heap := (s.heap.push o1).push o2 } : Shared).heap.objs.size = s.heap.objs.size + 2 := sz2
  rw [ez]
  refine wpAny_mono (h s.heap.objs.size (fun p hp => Heap.lt_size (N p hp).1) p loose mean mg mb (dp + 1) (un + 3) gd _ base _ (envX cn cs L a ccd cl :: outer) (s.heap.objs.size + 2) { s with heap := h', toks := s.toks + (binds s.heap.objs.size).length } (fun fl s' => R (.ok (.ret (match fl with | .ret v => v | _ => .none))) s') (by walk_at "om") (by walk_at "om") G1 F1 N1 ?_) (fun _ _ y => y) (fun _ _ y => y.elim)
  intro fl g' h3 tk' m' news' T' F' N' hP
  obtain ⟨h₀', T2, G2, F2, N2⟩ := back_X G FG rfl T' F' N'
  exact hret _ h₀' h3 tk' news' G2 T2 F2 N2 (out_X rfl T' F' N') hP
end Mine

end
section
open PySem PySem.W PyProof.Rows PySem.Calls Builtin Builtin.ObjectAttr Builtin.Getset_descriptor
set_option Elab.async false
set_option maxRecDepth 100000
set_option maxHeartbeats 4000000
set_option linter.unusedVariables false
namespace Mine
section
variable {prog : Program} {w : World} {A : Around} {K : Frag} {C : Addr} {R : Result → Shared → Prop} {h : Heap} {g : Array GenState} {d : Drawn} {t : Nat} {os : OsState}
theorem new_own {oc : Value} {od : Option Addr} {cd : ClassData} {sl : Array (Option Value)} (X : K.In h) (ho : K.lookup C = some ⟨oc, od, .cls cd, sl⟩) (e1 : cd.abstract = false) (e2 : cd.hasDel = false)
    (hchk : ∀ S, peek K S (checkBuiltinCall "object.__new__" ⟨[.ref C], []⟩) = some ()) (hty : ∀ S, peek K S (isType (.ref C)) = some true) (hmh : ∀ S, peek K S (Bind.madeHere "object.__new__" (.ref C)) = some ())
    (hq : R (.ok (.ret (.ref (h.objs.size + 1)))) ⟨(h.push emptyDict).push (instObj C h.objs.size), g, d, t, os⟩) :
    codeAny (model prog w) A (.call (.builtin "object.__new__") ⟨[.ref C], []⟩) R ⟨h, g, d, t, os⟩ := by
  have F := PySem.F.objNew
  have hC := X _ _ ho
  refine codeAny_call_builtin_code (Code.quiet_builtin _ F.quiet) ?_
  refine (Looks.of_peek (M := model prog w) X (hchk _)).at ?_
  refine codeAny_builtin F.entry ?_
  have lty := Looks.of_peek (M := model prog w) X (hty _)
  have here := Looks.of_peek (M := model prog w) X (hmh _)
  unfold Builtin.«object.__new__»
  have fin : ∀ A', wpAny (model prog w) A' (do
      let d ← if typeHasDict (.ref C) then some <$> alloc { cls := .type "dict", data := .dict #[] } else pure none
      ret (← newObj (.ref C) .plain d)) (fun fin s' => match fin with | .done f => R (.ok f) s' | .again c' => c'.quiet = true ∧ codeAny (model prog w) A c' R s') (fun e s' => R (.error e) s') ⟨h, g, d, t, os⟩ := by
    intro A'
    show wpAny _ _ ((alloc emptyDict >>= fun x => pure (some x)) >>= _) _ _ _
    refine wpAny_bind (wpAny_bind (wpAny_alloc (wpAny_pure (wpAny_bind ?_))))
    show wpAny _ _ (newObjAsIs _ _ _) _ _ _
    unfold newObjAsIs classHasDel
    refine wpAny_bind (wpAny_alloc (wpAny_bind (wpAny_bind (wpAny_load (Heap.get?_push_of_some _ (Heap.get?_push_of_some _ hC)) (wpAny_pure ?_)))))
    rw [e2]
    refine wpAny_pure (wpAny_pure ?_)
    show R _ _
    rw [Heap.size_push]
    exact hq
  have lcd : Looks (model prog w) h (classData C) cd := (Looks.ld (part := none) hC).andThen .now
  refine wpAny_bind (lty.at ?_)
  simp only [Bool.not_true, Bool.false_eq_true, if_false]
  refine wpAny_bind (here.at ?_)
  simp only [List.isEmpty_nil, Bool.not_true, Bool.or_self, Bool.false_eq_true, if_false]
  refine wpAny_bind (lcd.at ?_)
  simp only [e1, Bool.false_eq_true, if_false]
  exact fin _
end
end Mine

end
section
open PySem PySem.W PyProof.Rows PySem.Calls
set_option Elab.async false
set_option maxRecDepth 100000
set_option maxHeartbeats 0
namespace Mine

theorem k_611 {w : World} : (∀ S, peek (Mine.K1 w.params) S (checkBuiltinCall "object.__new__" ⟨[.ref 597], []⟩) = some ()) ∧ (∀ S, peek (Mine.K1 w.params) S (isType (.ref 597)) = some true) ∧ (∀ S, peek (Mine.K1 w.params) S (Bind.madeHere "object.__new__" (.ref 597)) = some ()) ∧ (∀ S, peek (Mine.K1 w.params) S (Bind.madeBy (.ref 597)) = some none) :=
  ⟨fun S => by kernel_rfl, fun S => by kernel_rfl, fun S => by kernel_rfl, fun S => by kernel_rfl⟩
theorem new_611 {w : World} {A : Around} {s : Shared} {h₀ : Heap} {L : Addr} {m : Str → Option Value} {news : List (Addr × Obj)} {Q E : Value → Shared → Prop} (F : Fr h₀ L s.heap m) (N : News h₀ L s.heap news) (X : ((Mine.K1 w.params)).In h₀)
    (k : ∀ nx nd h', Fr h₀ L h' m → News h₀ L h' ((nx, instObj 597 nd) :: (nd, emptyDict) :: news) → nd < nx → (∀ p ∈ news, p.1 < nd) → Q (.ref nx) { s with heap := h' }) : wpAny (model PySem.Challenge.pw_oc0261_02 w) A (PySem.call (.builtin "object.__new__") [.ref 597]) Q E s := by
  refine (?_ : PySem.Challenge.rw_oc0261_02 = PySem.Challenge.rw_oc0261_02 → (Mine.K1 w.params) = (Mine.K1 w.params) → _) rfl rfl
  k_fill
  intro _ _
  obtain ⟨hh, g, d, t, os⟩ := s
  refine wpAny_call (new_own (X.keeps F.keep) (by k_is) rfl rfl k_611.1 k_611.2.1 k_611.2.2.1 ?_)
  have N' := (N.push F emptyDict).push (F.push _) (instObj 597 hh.objs.size)
  rw [Heap.size_push] at N'
  exact k _ hh.objs.size _ ((F.push _).push _) N' (Nat.lt_succ_self _) (fun p hp => Heap.lt_size (N p hp).1)

theorem c_new {w : World} {news : List (Addr × Obj)} {x : Str} {t : Tok} : Spec PySem.Challenge.pw_oc0261_02 w (Mine.K1 w.params) 90 [.ref 597, .str x t] (8 + 1) (80 + 8) news (fun v news' => ∃ nx nd, v = .ref nx ∧ nd < nx ∧ (∀ p ∈ news, p.1 < nd) ∧ news' = (nx, instObj 597 nd) :: (nd, emptyDict) :: news) := by
  refine (?_ : PySem.Challenge.rw_oc0261_02 = PySem.Challenge.rw_oc0261_02 → (Mine.K1 w.params) = (Mine.K1 w.params) → _) rfl rfl
  k_fill
  intro _ _
  refine spec_of2 (o1 := { cls := .type "tuple", data := .seq #[.str x t] }) (o2 := { cls := .type "dict", data := .dict #[] }) (binds := fun n => [("cls", .ref 597), ("args", .ref n), ("kwargs", .ref (n + 1))]) (by k_is) (by k_is) (fun s M A E Q hq => ?_) rfl rfl (fun n => locs rfl) rfl rfl rfl (by decide) (fun n hn => ?_)
  · show wpAny M A (newTuple [.str x t] >>= fun v => alloc { cls := .type "dict", data := .dict #[] } >>= fun d => pure [(Str.ofString "cls", Value.ref 597), (Str.ofString "args", v), (Str.ofString "kwargs", .ref d)]) Q E s
    refine wpAny_bind (wpAny_newObj_type (wpAny_bind (wpAny_alloc (wpAny_pure ?_))) (by size_fits))
    have q := hq
    show Q [(Str.ofString "cls", Value.ref 597), (Str.ofString "args", .ref s.heap.objs.size), (Str.ofString "kwargs", .ref (s.heap.push _).objs.size)] _
    rw [Heap.size_push]
    exact q
  intro p loose mean mg mb dp un gd A₀ base g outer L1 s Q hdp hun G F1 N1 hq
  k_with_none
  have XB := G.XB
  have TB := G.TB.toTopRead
  have D1 := G.D
  have B1 := G.B
  have X1 := G.X
  have T1 := G.T.toTopRead
  have T0 : KtsTurn (fsOf outer) g g := KtsTurn.refl
  obtain ⟨m0, F1⟩ : ∃ m0, Fr g L1 _ (put "cls" (.ref 597) (put "args" (.ref n) (put "kwargs" (.ref (n + 1)) m0))) := ⟨_, (Fr_put (x := "cls") (Fr_put (x := "args") (Fr_put (x := "kwargs") F1 rfl) rfl) rfl)⟩
  k_with "call builtin:object.__new__ cons nil" => ((with_reducible rename Fr _ _ _ _ => F9); (with_reducible rename News _ _ _ _ => N9); refine new_611 F9 N9 X1 ?_; clear F9 N9; intro nx nd h9 F8 N8 l1 l2)
  repeat' (first | (k_unfold; (try dsimp only)) | (with_reducible refine execs_one ?_) | ((with_reducible show wpAny _ _ (exec _ _) _ _ _); (with_reducible rename Fr _ _ _ _ => F9); (refine st_at (s := s) F9 fun tk9 => ?_); (try k_fold); walk1) | (k_end; wrow_close) | walk1 | (dsimp only; walk1) | (leave1; try dsimp only) | fail "no step")
  (with_reducible rename Fr _ _ _ _ => F9); (with_reducible rename News _ _ _ _ => N9)
  refine hq _ _ _ _ _ _ T0 F9 (fun p hp => N9 p ?_) ⟨nx, nd, rfl, l1, fun p hp => l2 p (.tail _ (.tail _ hp)), rfl⟩
  rcases List.mem_cons.mp hp with e | e
  · rw [e]; exact .head _
  · rcases List.mem_cons.mp e with e | e
    · rw [e]; exact .tail _ (.head _)
    · exact .tail _ (.tail _ (.tail _ (.tail _ e)))

end Mine

end
section
open PySem PySem.W PyProof.Rows PySem.Calls
set_option Elab.async false
set_option maxRecDepth 100000
set_option maxHeartbeats 0
set_option linter.unusedVariables false
namespace Mine
theorem c_sio {w : World} {news : List (Addr × Obj)} {x : Str} {t : Tok} (hx : x.length < 1000000) : Spec PySem.Challenge.pw_oc0261_02 w (Mine.K1 w.params) 597 [.str x t] 12 100 news
    (fun v news' => ∃ sx sd k1 k2 k3 t1 t2 t3, v = .ref sx ∧ sd < sx ∧ (∀ p ∈ news, p.1 < sd) ∧ news' = (sx, instObj 597 sd) :: (sd, dictOf (sioD w k1 k2 k3 (.str "\n" t1) (.str x t2) (.int ((0 : Nat) : Int) t3)) 3) :: news) := by
  refine (?_ : PySem.Challenge.rw_oc0261_02 = PySem.Challenge.rw_oc0261_02 → (Mine.K1 w.params) = (Mine.K1 w.params) → _) rfl rfl
  k_fill
  intro _ _
  intro p loose mean mg mb dp un gd cn cs a ccd cl outer A₀ base h₀ L m s R G F N hck hd hu hret
  obtain ⟨h, g, dr, tk, os⟩ := s
  refine make_own (G.X.keeps F.keep) (fN := 90) (fI := 367) (p := 94) (mc := .type "type") (by k_is) rfl k_611.2.2.2 (by k_is) (by k_is) (by k_is) (by k_is) (by k_is) (by k_is) (by k_is) rfl (by k_is) (by k_is) ?_
  rw [under_mk]
  refine c_new p loose mean mg mb (dp + 1) (un + 1) gd cn cs a ccd cl outer A₀ base h₀ L m ⟨h, g, dr, tk + 1, os⟩ _ G F N hck (by walk_at "om") (by walk_at "om") fun v g' h' tk' news' G' T' F' N' O' P' => ?_
  obtain ⟨nx, nd, rfl, l1, l2, rfl⟩ := P'
  refine ⟨nx, instObj 597 nd, rfl, G'.X.keeps F'.keep, (N' _ (.head _)).1, rfl, ?_⟩
  refine c_sinit hx (Nat.ne_of_gt l1) (Nat.ne_of_lt l1) (fun q hq => Nat.ne_of_lt (l2 q hq)) p loose mean mg mb (dp + 1) (un + 1) gd cn cs a ccd cl outer A₀ base g' L m ⟨h', g, dr, tk', os⟩ _ G' F' N' hck (by walk_at "om") (by walk_at "om") fun v g2 h2 tk2 news2 G2 T2 F2 N2 O2 P2 => ?_
  obtain ⟨rfl, k1, k2, k3, t1, t2, t3, rfl⟩ := P2
  exact ⟨rfl, hret _ g2 h2 tk2 _ G2 (T'.trans T2) F2 N2 (O'.trans' O2 G' F') ⟨nx, nd, k1, k2, k3, t1, t2, t3, rfl, l1, l2, rfl⟩⟩
end Mine

end
section
open PySem PySem.W PyProof.Rows PySem.Calls
set_option Elab.async false
set_option maxRecDepth 100000
namespace Mine
theorem slot_dq_len : Slot "collections.deque" "__len__" "collections.deque.__len__" :=
  .of (owner := "collections.deque") (n := "__len__") (by rw [typeLookup_type, builtinLookup_eq_fast]; kernel_rfl) (by decide +kernel) (by decide +kernel) (by decide +kernel)
    (by first | exact .inl (by decide +kernel) | exact .inr (by decide +kernel)) (by rw [isSubtype_type]; kernel_rfl)
theorem entry_dq_len : entryFor table "collections.deque.__len__" = some Builtin.«collections.deque.__len__» := entryFor_of_tree (by kernel_rfl)
theorem args_dq_len (a : Value) : argsOk "collections.deque.__len__" ⟨[a], []⟩ := by unfold argsOk; kernel_rfl
theorem noBool_dq : typeLookup (.type "collections.deque") "__bool__" = pure none := by rw [typeLookup_type, builtinLookup_eq_fast]; kernel_rfl
noncomputable abbrev dqObj (d : Option Addr) : Obj := { cls := .type "collections.deque", dict := d, data := .fields #[.none, rawInt 0] }
section
variable {prog : Program} {w : World} {A : Around} {E : Value → Shared → Prop} {s : Shared} {t : Addr}
theorem dq_len {d : Option Addr} {Q : Value → Shared → Prop} (ht : s.heap.get? t = some (dqObj d))
    (h : Q (.int 0 (s.toks + 1)) { s with toks := s.toks + 1 + 1 }) : wpAny (model prog w) A (Builtin.«len» ⟨[.ref t], []⟩) (fun fin s' => ∃ r, fin = .done (.ret r) ∧ Q r s') E s := by
  have hT : s.TypeIs (.ref t) "collections.deque" := ⟨_, ht, rfl⟩
  unfold Builtin.«len»
  refine wpAny_bind (m := oneArg "len" _) (wpAny_pure ?_)
  refine wpAny_bind (m := callSpecial? (.ref t) (Str.ofString "__len__")) (wpAny_callSpecial?_slot (name := Str.ofString "__len__") hT slot_dq_len
    (wpAny_call_entry slot_dq_len hT entry_dq_len ?_ (args_dq_len _)))
  show wpAny _ _ (Builtin.Deque.size (.ref t) >>= _) _ _ s
  refine wpAny_bind (wpAny_bind ?_)
  unfold fieldsOf
  refine wpAny_bind (wpAny_load ht (wpAny_pure (wpAny_pure ?_)))
  refine wpAny_bind (wpAny_mkInt (wpAny_pure ⟨_, rfl, ?_⟩))
  show wpAny _ _ _ _ _ { s with toks := s.toks + 1 }
  refine wpAny_bind (wpAny_holding (wpAny_pure ?_))
  refine wpAny_bind (wpAny_letGo ?_)
  exact wpAny_bind (wpAny_mkInt (wpAny_pure ⟨_, rfl, h⟩))
theorem dq_truthy {d : Option Addr} {Q : Bool → Shared → Prop} (ht : s.heap.get? t = some (dqObj d)) (h : Q false { s with toks := s.toks + 1 + 1 }) : wpAny (model prog w) A (truthy (.ref t)) Q E s := by
  have hT : s.TypeIs (.ref t) "collections.deque" := ⟨_, ht, rfl⟩
  have key : wpAny (model prog w) A (runValue (.builtin "len" ⟨[.ref t], []⟩)) (fun r s' => r = .int 0 (s.toks + 1) ∧ Q false s') E s := by
    refine wpAny_runValue (codeAny_builtin entry_len ?_)
    rw [Around.under_plainId plain_len _]
    exact wpAny_mono (dq_len (Q := fun r s' => r = .int 0 (s.toks + 1) ∧ Q false s') ht ⟨rfl, h⟩)
      (fun fin s' h' => by obtain ⟨r, rfl, hq⟩ := h'; exact hq) fun _ _ e => e
  unfold truthy
  first
    | refine wpAny_bind (wpAny_callSpecial?_none (name := Str.ofString "__bool__") hT noBool_dq ?_)
    | refine wpAny_bind (wpAny_pure (wpAny_bind (wpAny_callSpecial?_none (name := Str.ofString "__bool__") hT noBool_dq ?_)))
  first
    | refine wpAny_bind (wpAny_specialOf (name := Str.ofString "__len__") hT slot_dq_len.lookup ?_)
    | refine wpAny_bind (wpAny_pure (wpAny_bind (wpAny_specialOf (name := Str.ofString "__len__") hT slot_dq_len.lookup ?_)))
  first
    | exact wpAny_bind (wpAny_mono key (fun r s' h' => by obtain ⟨rfl, hq⟩ := h'; exact wpAny_pure hq) fun _ _ e => e)
    | exact wpAny_bind (wpAny_pure (wpAny_bind (wpAny_mono key (fun r s' h' => by obtain ⟨rfl, hq⟩ := h'; exact wpAny_pure hq) fun _ _ e => e)))
end
end Mine

end
section
open PySem PySem.W PyProof.Rows PySem.Calls
set_option Elab.async false
set_option maxRecDepth 1000000
set_option maxHeartbeats 4000000
namespace Mine
theorem slot_dq_init : Slot "collections.deque" "__init__" "collections.deque.__init__" :=
  .of (owner := "collections.deque") (n := "__init__") (by rw [typeLookup_type, builtinLookup_eq_fast]; kernel_rfl) (by decide +kernel) (by decide +kernel) (by decide +kernel)
    (by first | exact .inl (by decide +kernel) | exact .inr (by decide +kernel)) (by rw [isSubtype_type]; kernel_rfl)
theorem entry_dq_init : entryFor table "collections.deque.__init__" = some Builtin.«collections.deque.__init__» := entryFor_of_tree (by kernel_rfl)
theorem entry_dq_new : entryFor table "collections.deque.__new__" = some Builtin.«collections.deque.__new__» := entryFor_of_tree (by kernel_rfl)
theorem args_dq_init (a : Value) : argsOk "collections.deque.__init__" ⟨[a], []⟩ := by unfold argsOk; kernel_rfl
theorem mro_dq : mroOf (.type "collections.deque") = pure [.type "collections.deque", .type "object"] := by rw [mroOf_type]; kernel_rfl
theorem lookup_dq_new : typeLookup (.type "collections.deque") "__new__" = pure (some (.builtin "collections.deque.__new__")) := by rw [typeLookup_type, builtinLookup_eq_fast]; kernel_rfl
theorem called_dq : TypeCalled "collections.deque" "collections.deque.__new__" "collections.deque.__init__" :=
  ⟨by decide +kernel, by decide +kernel, ⟨_, _, mro_dq⟩, madeBy_type mro_dq lookup_dq_new (by decide +kernel), by decide +kernel, by rw [isSubtype_type]; kernel_rfl, slot_dq_init⟩
theorem typeCall_dq : checkTypeCall "collections.deque" ⟨[], []⟩ = pure () := by kernel_rfl
theorem newCall_dq : checkBuiltinCall "collections.deque.__new__" ⟨[.type "collections.deque"], []⟩ = pure () := by kernel_rfl
theorem plain_dq_new : plainId "collections.deque.__new__" = true := by decide +kernel
theorem sub_dq : isSubtype (.type "collections.deque") (.type "collections.deque") = pure true := by rw [isSubtype_type]; kernel_rfl
theorem dq_new_is : Builtin.«collections.deque.__new__» ⟨[.type "collections.deque"], []⟩ = (newObj (.type "collections.deque") (.fields #[.none, rawInt 0]) none >>= fun v => pure (.done (.ret v))) := by kernel_rfl
theorem dq_init_is (a : Addr) : Builtin.«collections.deque.__init__» ⟨[.ref a], []⟩ = (setField (.ref a) 0 .none >>= fun _ => Builtin.Deque.clear (.ref a) >>= fun _ => ret .none) := by rfl
section
variable {prog : Program} {w : World} {A : Around} {E : Value → Shared → Prop} {s : Shared}
theorem code_dq_new {Q₁ : Value → Shared → Prop} (h : Q₁ (.ref s.heap.objs.size) { s with heap := s.heap.push (dqObj none) }) :
    codeAny (model prog w) A (.call (.builtin "collections.deque.__new__") ⟨[.type "collections.deque"], []⟩) (wants Q₁ E) s := by
  refine codeAny_of_tree ?_
  show wpAny _ A.in1 (do checkBuiltinCall "collections.deque.__new__" ⟨[.type "collections.deque"], []⟩; again (.builtin "collections.deque.__new__" ⟨[.type "collections.deque"], []⟩)) _ _ s
  refine wpAny_bind (wpAny_of_eq newCall_dq (wpAny_pure ⟨plainId_quiet plain_dq_new _, codeAny_builtin entry_dq_new ?_⟩))
  rw [Around.under_plainId plain_dq_new _]
  rw [dq_new_is]
  exact wpAny_bind (wpAny_newObj_type (wpAny_pure h) (by size_fits))
theorem call_dq {Q : Value → Shared → Prop} (h : ∀ h', (∀ b o, s.heap.get? b = some o → h'.get? b = some o) → h'.get? s.heap.objs.size = some (dqObj none) → h'.objs.size = s.heap.objs.size + 1 → Q (.ref s.heap.objs.size) { s with heap := h' }) : wpAny (model prog w) A (call (.type "collections.deque") []) Q E s := by
  refine callType_codes (Q₁ := fun obj s₁ => obj = .ref s.heap.objs.size ∧ s₁ = { s with heap := s.heap.push (dqObj none) }) called_dq typeCall_dq entry_dq_init (code_dq_new ⟨rfl, rfl⟩) fun obj s₁ h₁ => ?_
  obtain ⟨rfl, rfl⟩ := h₁
  have hS : (s.heap.push (dqObj none)).get? s.heap.objs.size = some (dqObj none) := Heap.get?_push_size _ rfl
  refine ⟨⟨_, hS, rfl⟩, args_dq_init _, ?_⟩
  rw [dq_init_is]
  refine wpAny_bind (wpAny_setField hS rfl (by decide) ?_)
  have hS2 : ((s.heap.push (dqObj none)).update s.heap.objs.size (Obj.mapFields (·.setIfInBounds 0 Value.none))).get? s.heap.objs.size = some (dqObj none) := Heap.get?_update_self (Obj.mapFields (·.setIfInBounds 0 Value.none)) hS rfl
  unfold Builtin.Deque.clear Builtin.Deque.items
  refine wpAny_bind (wpAny_bind (wpAny_bind (wpAny_fieldsOf hS2 rfl (wpAny_pure ?_))))
  refine wpAny_pure ?_
  refine wpAny_pure ?_
  refine ⟨rfl, h _ (fun b o e => ?_) hS2 ?_⟩
  · have hb : s.heap.objs.size ≠ b := fun z => absurd (Heap.lt_size e) (by rw [← z]; exact Nat.lt_irrefl _)
    exact (Heap.get?_update_other _ _ hb).trans (Heap.get?_push_of_some _ e)
  · rw [Heap.size_update, Heap.size_push]
end
end Mine

end
section
open PySem PySem.W PyProof.Rows PySem.Calls
set_option Elab.async false
set_option maxRecDepth 100000
set_option linter.unusedVariables false
namespace Mine
noncomputable def SpecA (prog : Program) (w : World) (K : Frag) (f : Addr) (args : Args) (d u : Nat) (news : List (Addr × Obj)) (Post : Value → List (Addr × Obj) → Prop) : Prop :=
  ∀ (p : Program) (loose : List Str) (mean : ExcName → Option Value) (mg mb : Str → Option Value) (dp un : Nat) (gd : Option (List Code)) (cn : Str) (cs : Scope) (a : Addr) (ccd : Value) (cl : List (Str × Addr)) (outer : List Env) (A₀ : Around) (base h₀ : Heap) (L : Addr) (m : Str → Option Value) (s : Shared) (R : Result → Shared → Prop),
    Gd K p loose mean mg mb A₀ base outer h₀ → Fr h₀ L s.heap m → News h₀ L s.heap news → cs.kind = .function → dp + d < recursionLimit → un + u < cLine →
    (∀ v g' h' tk' news', Gd K p loose mean mg mb A₀ base outer g' → KtsTurn (fsOf outer) h₀ g' → Fr g' L h' m → News g' L h' news' → Out L outer news s.heap h' news' → Post v news' → R (.ok (.ret v)) { s with heap := h', toks := tk' }) →
    codeAny (model prog w) (ktrTop dp un gd cn cs L a ccd cl outer) (.call (.ref f) args) R s

theorem specA_of {prog : Program} {w : World} {K : Frag} {f : Addr} {args : Args} {d u : Nat} {news : List (Addr × Obj)} {Post : Value → List (Addr × Obj) → Prop} {binds : List (Str × Value)}
    {name qual : Str} {params : Arguments} {body : List Stmt} {scope : Scope} {dV kV doc pm cdv ct oc : Value} {an od : Option Addr} {osl : Array (Option Value)}
    (ho : K.lookup f = some ⟨oc, od, .func (fnOf name qual params body scope dV kV doc pm an cdv ct), osl⟩) (hcd : codeIn K cdv qual = true)
    (hbind : ∀ s : Shared, K.In s.heap → BindsTo s (fnOf name qual params body scope dV kV doc pm an cdv ct) args binds) (hloc : ∀ y ∈ binds, scope.names.lookup y.1 = some .local)
    (hco : scope.isCoroutine = false) (hgen : scope.isGenerator = false) (hk : scope.kind = .function) (hcell : ∀ x ∈ scope.names, x.2 ≠ .cell)
    (h : Body prog w K d u news Post binds body qual scope f cdv) : SpecA prog w K f args (d + 1) (u + 8) news Post := by
  intro p loose mean mg mb dp un gd cn cs a ccd cl outer A₀ base h₀ L m s R G F N hck hd hu hret
  have X := G.X.keeps F.keep
  obtain ⟨FG, G1⟩ := enter_X (env := envX cn cs L a ccd cl) (A := ktrTop dp un gd cn cs L a ccd cl outer) G F N rfl rfl hck
  refine codeAny_call_def (fd := fnOf name qual params body scope dV kV doc pm an cdv ct) (body := body) (binds := binds) (by show dp < recursionLimit; walk_at "om") (X _ _ ho) rfl (G.T.nolimit.keeps F.keep) (codeRec_of X hcd) rfl (hbind s X) hcell hloc (fun h₁ hns hk₁ => ?_) hco hgen hk
  have F1 : Fr (hideAll s.heap (news.map (·.1))) s.heap.objs.size h₁ (fun x => binds.reverse.lookup x) := ⟨hns, fun b o e => hk₁ b o (of_hideAll _ e), Nat.le_of_eq (hideAll_size _ _)⟩
  have N1 : News (hideAll s.heap (news.map (·.1))) s.heap.objs.size h₁ news := fun p hp => ⟨hk₁ _ _ (N p hp).1, Nat.ne_of_lt (Heap.lt_size (N p hp).1), hideAll_none _ (List.mem_map_of_mem hp)⟩
  refine wp_noE ?_
  refine h p loose mean mg mb (dp + 1) (un + 3) gd _ base _ (envX cn cs L a ccd cl :: outer) _ { s with heap := h₁, toks := s.toks + binds.length } _ (by walk_at "om") (by walk_at "om") G1 F1 N1 ?_
  intro fl g' h' tk' m' news' T' F' N' hP
  obtain ⟨h₀', T2, G2, F2, N2⟩ := back_X G FG rfl T' F' N'
  exact hret _ h₀' h' tk' news' G2 T2 F2 N2 (out_X rfl T' F' N') hP


section
variable {prog : Program} {w : World} {A : Around} {s : Shared} {h₀ : Heap} {L : Addr} {m : Str → Option Value} {news : List (Addr × Obj)} {Q E : Value → Shared → Prop}
theorem dq_call (F : Fr h₀ L s.heap m) (N : News h₀ L s.heap news) (k : ∀ q h', Fr h₀ L h' m → News h₀ L h' ((q, dqObj none) :: news) → (∀ p ∈ news, p.1 < q) → Q (.ref q) { s with heap := h' }) : wpAny (model prog w) A (PySem.call (.type "collections.deque") []) Q E s := by
  refine call_dq fun h' hk hg hz => ?_
  refine k s.heap.objs.size h' (F.keeps hk) (fun p hp => ?_) fun p hp => Heap.lt_size (N p hp).1
  rcases List.mem_cons.mp hp with e | e
  · rw [e]
    refine ⟨hg, fun q => ?_, ?_⟩
    · obtain ⟨o, _, _, ho, _⟩ := F.ns
      exact absurd (Heap.lt_size ho) (by rw [← q]; exact Nat.lt_irrefl _)
    · cases q : h₀.get? s.heap.objs.size with
      | none => rfl
      | some o => exact absurd (Heap.lt_size (F.keep _ _ q)) (Nat.lt_irrefl _)
  · exact ⟨hk _ _ (N p e).1, (N p e).2⟩
end
end Mine

end
section
open PySem PySem.W PyProof.Rows PySem.Calls
set_option Elab.async false
set_option maxRecDepth 100000
set_option maxHeartbeats 0
namespace Mine


structure Keys (D : List DictEntry) (ks : List Str) : Prop where
  all : ∀ e ∈ D, ∃ k ∈ ks, ∃ t, e.key = .str k t
  len : D.length ≤ ks.length
theorem Keys.nil : Keys [] [] := ⟨(fun _ h => nomatch h), Nat.le_refl _⟩
theorem Keys.cons {D : List DictEntry} {ks : List Str} {hsh : Int} {k : Str} {t : Tok} {v : Value} (h : Keys D ks) : Keys (⟨hsh, .str k t, v⟩ :: D) (k :: ks) := by
  refine ⟨fun e he => ?_, Nat.succ_le_succ h.len⟩
  rcases List.mem_cons.mp he with e1 | he
  · subst e1; exact ⟨k, List.mem_cons_self, t, rfl⟩
  · obtain ⟨k', m, t', e2⟩ := h.all e he
    exact ⟨k', List.mem_cons_of_mem _ m, t', e2⟩
theorem Keys.snoc {D : List DictEntry} {ks : List Str} {hsh : Int} {k : Str} {t : Tok} {v : Value} (h : Keys D ks) : Keys (D ++ [⟨hsh, .str k t, v⟩]) (k :: ks) := by
  refine ⟨fun e he => ?_, by rw [List.length_append]; exact Nat.succ_le_succ h.len⟩
  rcases List.mem_append.mp he with he | he
  · obtain ⟨k', m, t', e2⟩ := h.all e he
    exact ⟨k', List.mem_cons_of_mem _ m, t', e2⟩
  · rw [List.mem_singleton.mp he]; exact ⟨k, List.mem_cons_self, t, rfl⟩
theorem Keys.no {D : List DictEntry} {ks : List Str} {name : Str} (h : Keys D ks) (hn : (ks.all fun k => !(k == name)) = true) : ∀ e ∈ D, e.key.isStr name = false ∧ e.refKey = false := fun e he => by
  obtain ⟨k, m, t, e2⟩ := h.all e he
  have q := List.all_eq_true.mp hn k m
  obtain ⟨hsh, key, v⟩ := e
  dsimp only at e2
  subst e2
  refine ⟨?_, rfl⟩
  show (k == name) = false
  cases h : (k == name) with
  | false => rfl
  | true => rw [h] at q; cases q
theorem put_end {D : List DictEntry} {name : Str} {hsh : Int} {key v : Value} (h : ∀ e ∈ D, e.key.isStr name = false) : putL name hsh key v D = D ++ [⟨hsh, key, v⟩] := by
  induction D with
  | nil => rfl
  | cons e r ih =>
    show (if e.key.isStr name then _ else e :: putL name hsh key v r) = _
    rw [if_neg (by rw [h e List.mem_cons_self]; decide), ih fun e he => h e (List.mem_cons_of_mem _ he)]; rfl
structure SetB (K : Frag) (C : Addr) : Prop where
  s : findIn K (.ref C) "__setattr__" = some (some (.builtin "object.__setattr__"))
  o : plainOver K C = true
  d : hasDictIn K C = true
theorem k_setB {w : World} : SetB (Mine.K1 w.params) 732 ∧ takerIn (Mine.K1 w.params) 732 "whitespace" = some none ∧ takerIn (Mine.K1 w.params) 732 "whitespace_split" = some none ∧ takerIn (Mine.K1 w.params) 732 "quotes" = some none ∧ takerIn (Mine.K1 w.params) 732 "escape" = some none ∧ takerIn (Mine.K1 w.params) 732 "escapedquotes" = some none ∧ takerIn (Mine.K1 w.params) 732 "state" = some none ∧ takerIn (Mine.K1 w.params) 732 "pushback" = some none ∧ takerIn (Mine.K1 w.params) 732 "lineno" = some none ∧ takerIn (Mine.K1 w.params) 732 "debug" = some none ∧ takerIn (Mine.K1 w.params) 732 "token" = some none ∧ takerIn (Mine.K1 w.params) 732 "filestack" = some none ∧ takerIn (Mine.K1 w.params) 732 "source" = some none ∧ takerIn (Mine.K1 w.params) 732 "_punctuation_chars" = some none := by
  refine (?_ : PySem.Challenge.rw_oc0261_02 = PySem.Challenge.rw_oc0261_02 → (Mine.K1 w.params) = (Mine.K1 w.params) → _) rfl rfl
  k_fill
  intro _ _
  exact ⟨⟨by k_is, by k_is, by k_is⟩, by k_is, by k_is, by k_is, by k_is, by k_is, by k_is, by k_is, by k_is, by k_is, by k_is, by k_is, by k_is, by k_is⟩
theorem set_app {prog : Program} {w : World} {A : Around} {E : Value → Shared → Prop} {s : Shared} {K : Frag} {L lx dx C : Addr} {h₀ : Heap} {m : Str → Option Value} {news : List (Addr × Obj)} {D : List DictEntry} {n : Nat} {ks : List Str} {name : Str} {v : Value} {g : Obj → List (Addr × Obj)} {Q : Unit → Shared → Prop}
    (F : Fr h₀ L s.heap m) (X₀ : K.In h₀) (N : News h₀ L s.heap news) (m1 : (lx, instObj C dx) ∈ news) (m2 : (dx, dictOf D n) ∈ news) (a : SetB K C) (ht : takerIn K C name = some none) (hk : Keys D ks) (hn : (ks.all fun k => !(k == name)) = true) (hz : Nat.ble ks.length 900 = true) (U : UpdF dx (dictOf D n) news g)
    (h : ∀ h' D', D' = D ++ [⟨PyData.keyHash w.params name, .str name (s.toks + 1), v⟩] → Keys D' (name :: ks) → Fr h₀ L h' m → News h₀ L h' (g (dictOf D' (n + 1))) → Q () { s with heap := h', toks := s.toks + 2 }) :
    wpAny (model prog w) A (setAttr (.ref lx) name v) Q E s := by
  have q := hk.no hn
  have e1 : getL name D = some none := by
    unfold getL
    have f1 : D.find? (·.key.isStr name) = none := List.find?_eq_none.mpr fun e he => by rw [(q e he).1]; decide
    have f2 : D.any (·.refKey) = false := List.any_eq_false.mpr fun e he => by rw [(q e he).2]; decide
    rw [f1]
    show (if D.any (·.refKey) = true then none else some none) = _
    rw [f2]; rfl
  have e2 : putN name D n = n + 1 := by
    unfold putN
    have f1 : D.any (·.key.isStr name) = false := List.any_eq_false.mpr fun e he => by rw [(q e he).1]; decide
    rw [f1]; rfl
  have I : InstAt s.heap lx (instObj C dx) C (some (dictOf D n)) := InstAt.of_news N m1 m2
  obtain ⟨pre, post, rfl, hg, a1, a2⟩ := U.split
  have hl := Nat.le_of_ble_eq_true hz
  refine set_dict F X₀ N I rfl a.s a.o ht a.d (by rw [e1]; rfl) (es' := D ++ [⟨PyData.keyHash w.params name, .str name (s.toks + 1), v⟩]) (n' := n + 1) (by rw [put_end fun e he => (q e he).1, e2]) (news' := g (dictOf (D ++ [⟨PyData.keyHash w.params name, .str name (s.toks + 1), v⟩]) (n + 1))) ?_ ?_ fun h' F' N' => h h' _ rfl hk.snoc F' N'
  · rw [hg]
    have up : ∀ (pre post : List (Addr × Obj)) (o o' : Obj), (∀ p ∈ pre, p.1 ≠ dx) → (∀ p ∈ post, p.1 ≠ dx) → Upd dx o o' (pre ++ (dx, o) :: post) (pre ++ (dx, o') :: post) := by
      intro pre post o o' h1 h2
      induction pre with
      | nil => exact .head h2
      | cons p r ih => exact .tail (h1 p List.mem_cons_self) (ih fun p hp => h1 p (List.mem_cons_of_mem _ hp))
    exact up _ _ _ _ a1 a2
  · rw [List.length_append]
    exact Nat.le_trans (Nat.succ_le_succ (Nat.le_trans hk.len hl)) (by decide)
inductive LexNew (w : World) (x : Str) (lx ld : Addr) (rest news' : List (Addr × Obj)) : Prop
  | mk (sx sd pb fs : Addr) (k1 k2 k3 t1 t2 t3 a0 a1 a2 a3 a4 a5 a6 a7 a8 a9 a10 a11 a12 a13 a14 a15 a16 a17 a18 b4 b5 b6 b8 b9 b10 b11 b13 b14 b15 b18 : Tok) : sd < sx → sx < pb → pb < fs → (∀ p ∈ (lx, instObj 732 ld) :: (ld, emptyDict) :: rest, p.1 < sd) → news' = (fs, dqObj none) :: (pb, dqObj none) :: (sx, instObj 597 sd) :: (sd, dictOf (sioD w k1 k2 k3 (.str "\n" t1) (.str x t2) (.int ((0 : Nat) : Int) t3)) 3) :: (lx, instObj 732 ld) :: (ld, dictOf [ent w "instream" a0 (.ref sx), ent w "infile" a1 (.none), ent w "posix" a2 (.bool true), ent w "eof" a3 (.none), ent w "commenters" a4 (.str (Str.ofString "#") b4), ent w "wordchars" a5 (.str (Str.ofString "abcdfeghijklmnopqrstuvwxyzABCDEFGHIJKLMNOPQRSTUVWXYZ0123456789_ßàáâãäåæçèéêëìíîïðñòóôõöøùúûüýþÿÀÁÂÃÄÅÆÇÈÉÊËÌÍÎÏÐÑÒÓÔÕÖØÙÚÛÜÝÞ") b5), ent w "whitespace" a6 (.str (Str.ofString " \t\r\n") b6), ent w "whitespace_split" a7 (.bool false), ent w "quotes" a8 (.str (Str.ofString "'\"") b8), ent w "escape" a9 (.str (Str.ofString "\\") b9), ent w "escapedquotes" a10 (.str (Str.ofString "\"") b10), ent w "state" a11 (.str (Str.ofString " ") b11), ent w "pushback" a12 (.ref pb), ent w "lineno" a13 (.int 1 b13), ent w "debug" a14 (.int 0 b14), ent w "token" a15 (.str (Str.ofString "") b15), ent w "filestack" a16 (.ref fs), ent w "source" a17 (.none), ent w "_punctuation_chars" a18 (.str (Str.ofString "") b18)] 19) :: rest → LexNew w x lx ld rest news'
theorem c_linit {w : World} {lx ld : Addr} {rest : List (Addr × Obj)} {x : Str} {t : Tok} (hx : x.length < 1000000) (hne : lx ≠ ld) (hne2 : ld ≠ lx) (ha : ∀ q ∈ rest, q.1 ≠ ld) : SpecA PySem.Challenge.pw_oc0261_02 w (Mine.K1 w.params) 656 ⟨[.ref lx, .str x t], [(Str.ofString "posix", .bool true)]⟩ (15 + 1) (150 + 8) ((lx, instObj 732 ld) :: (ld, emptyDict) :: rest) (fun v news' => v = .none ∧ LexNew w x lx ld rest news') := by
  refine (?_ : PySem.Challenge.rw_oc0261_02 = PySem.Challenge.rw_oc0261_02 → (Mine.K1 w.params) = (Mine.K1 w.params) → _) rfl rfl
  k_fill
  intro _ _
  refine specA_of (binds := [("self", .ref lx), ("instream", .str x t), ("infile", .none), ("posix", .bool true), ("punctuation_chars", .bool false)]) (by k_is) (by k_is) (fun _ X => kp_binds X (fun S => by kernel_rfl)) (locs rfl) rfl rfl rfl (by decide) ?_
  intro p loose mean mg mb dp un gd A₀ base g outer L1 s Q hdp hun G F1 N1 hq
  k_with_none
  have XB := G.XB
  have TB := G.TB.toTopRead
  have D1 := G.D
  have B1 := G.B
  have X1 := G.X
  have T1 := G.T.toTopRead
  have T0 : KtsTurn (fsOf outer) g g := KtsTurn.refl
  obtain ⟨m0, F1⟩ : ∃ m0, Fr g L1 _ (put "self" (.ref lx) (put "instream" (.str x t) (put "infile" (.none) (put "posix" (.bool true) (put "punctuation_chars" (.bool false) m0))))) := ⟨_, (Fr_put (x := "self") (Fr_put (x := "instream") (Fr_put (x := "infile") (Fr_put (x := "posix") (Fr_put (x := "punctuation_chars") F1 rfl) rfl) rfl) rfl) rfl)⟩
  k_with "call ref cons nil" => ((with_reducible rename Fr _ _ _ _ => F9); (with_reducible rename News _ _ _ _ => N9); (first | refine (c_sio hx).call G F9 N9 rfl (by walk_at "om") (by walk_at "om") ?_); clear G B1 X1 T1 D1 F9 N9; intro v9 g9 hh9 tk9 news9 G T8 F8 N8 P8; replace T0 := KtsTurn.trans T0 T8; clear T8; (obtain ⟨sx, sd, k1, k2, k3, t1, t2, t3, e9, l1, l2, e8⟩ := P8; subst e9 e8; have hA : ld < sd := l2 _ (.tail _ (.head _)); have hB : lx < sd := l2 _ (.head _); have n1 : sx ≠ sd := Nat.ne_of_gt l1; have n2 : sd ≠ sx := Nat.ne_of_lt l1; have n3 : lx ≠ sd := Nat.ne_of_lt hB; have n4 : sd ≠ lx := Nat.ne_of_gt hB; have n5 : ld ≠ sd := Nat.ne_of_lt hA; have n6 : sd ≠ ld := Nat.ne_of_gt hA; have n7 : lx ≠ sx := Nat.ne_of_lt (Nat.lt_trans hB l1); have n8 : sx ≠ lx := Nat.ne_of_gt (Nat.lt_trans hB l1); have n9 : ld ≠ sx := Nat.ne_of_lt (Nat.lt_trans hA l1); have n10 : sx ≠ ld := Nat.ne_of_gt (Nat.lt_trans hA l1)); have D1 := G.D; have B1 := G.B; have X1 := G.X; have T1 := G.T.toTopRead)
  k_with "setAttr ref" => ((with_reducible rename Fr _ _ _ _ => F9); (with_reducible rename News _ _ _ _ => N9); refine' set_app F9 X1 N9 ?zzp ?zzq k_setB.1 ?zzt ?zzk ?zzn ?zzz ?zzU ?_; (case zzp => with_unfolding_all repeat (first | exact List.Mem.head _ | apply List.Mem.tail)); (case zzq => with_unfolding_all repeat (first | exact List.Mem.head _ | apply List.Mem.tail)); (case zzt => with_reducible first | exact k_setB.2.1 | exact k_setB.2.2.1 | exact k_setB.2.2.2.1 | exact k_setB.2.2.2.2.1 | exact k_setB.2.2.2.2.2.1 | exact k_setB.2.2.2.2.2.2.1 | exact k_setB.2.2.2.2.2.2.2.1 | exact k_setB.2.2.2.2.2.2.2.2.1 | exact k_setB.2.2.2.2.2.2.2.2.2.1 | exact k_setB.2.2.2.2.2.2.2.2.2.2.1 | exact k_setB.2.2.2.2.2.2.2.2.2.2.2.1 | exact k_setB.2.2.2.2.2.2.2.2.2.2.2.2.1 | exact k_setB.2.2.2.2.2.2.2.2.2.2.2.2.2); (case zzk => first | assumption | with_unfolding_all exact .cons (.cons (.cons (.cons (.cons (.cons .nil)))))); (case zzn => with_unfolding_all decide); (case zzz => with_unfolding_all exact rfl); (case zzU => k_updF); intro hh9 D9 e9 K9 F8 N8; clear F9 N9; (try dsimp only at N8))
  k_with "call type:collections.deque nil nil" => ((with_reducible rename Fr _ _ _ _ => F9); (with_reducible rename News _ _ _ _ => N9); refine dq_call F9 N9 ?_; clear F9 N9; intro q9 h9 F8 N8 l9; have m0' := l9 _ (.head _); have m00 : (_ : Nat) < q9 := m0'; have m1 : ld < q9 := l9 (ld, _) (by repeat (first | exact List.Mem.head _ | apply List.Mem.tail)); have m2 : ld ≠ q9 := Nat.ne_of_lt m1; have m3 : q9 ≠ ld := Nat.ne_of_gt m1)
  repeat' (first | (k_unfold; (try dsimp only)) | (with_reducible refine execs_one ?_) | ((with_reducible show wpAny _ _ (exec _ _) _ _ _); (with_reducible rename Fr _ _ _ _ => F9); (refine st_at (s := s) F9 fun tk9 => ?_); (try k_fold); walk1) | (k_end; wrow_close) | walk1 | (dsimp only; walk1) | (leave1; try dsimp only) | fail "no step")
  (with_reducible rename Fr _ _ _ _ => F9); (with_reducible rename News _ _ _ _ => N9)
  repeat (rename (_ : List DictEntry) = _ ++ _ => e9; rw [e9] at N9; clear e9)
  refine hq _ _ _ _ _ _ T0 F9 N9 ⟨rfl, sx, sd, _, _, _, _, _, _, _, _, _, _, _, _, _, _, _, _, _, _, _, _, _, _, _, _, _, _, _, _, _, _, _, _, _, _, _, _, _, _, l1, ?_, ?_, l2, rfl⟩
  all_goals assumption

end Mine

end
section
open PySem PySem.W PyProof.Rows PySem.Calls
set_option Elab.async false
set_option maxRecDepth 100000
set_option maxHeartbeats 0
set_option linter.unusedVariables false
namespace Mine
theorem lex_call {w : World} {x : Str} {t : Tok} (hx : x.length < 1000000) {p : Program} {loose : List Str} {mean : ExcName → Option Value} {mg mb : Str → Option Value} {dp un : Nat} {gd : Option (List Code)} {cn : Str} {cs : Scope} {a : Addr} {ccd : Value} {cl : List (Str × Addr)} {outer : List Env} {A₀ : Around} {base h₀ : Heap} {L : Addr} {m : Str → Option Value} {s : Shared} {news : List (Addr × Obj)} {Q E : Value → Shared → Prop}
    (G : Gd (Mine.K1 w.params) p loose mean mg mb A₀ base outer h₀) (F : Fr h₀ L s.heap m) (N : News h₀ L s.heap news) (hk : cs.kind = .function) (hd : dp + 17 < recursionLimit) (hu : un + 160 < cLine)
    (k : ∀ lx ld g' h' tk' news', Gd (Mine.K1 w.params) p loose mean mg mb A₀ base outer g' → KtsTurn (fsOf outer) h₀ g' → Fr g' L h' m → News g' L h' news' → ld < lx → (∀ p ∈ news, p.1 < ld) → LexNew w x lx ld news news' → Q (.ref lx) { s with heap := h', toks := tk' }) :
    wpAny (model PySem.Challenge.pw_oc0261_02 w) (ktrTop dp un gd cn cs L a ccd cl outer) (PySem.call (.ref 732) [.str x t] [(Str.ofString "posix", .bool true)]) Q E s := by
  refine (?_ : PySem.Challenge.rw_oc0261_02 = PySem.Challenge.rw_oc0261_02 → (Mine.K1 w.params) = (Mine.K1 w.params) → _) rfl rfl
  k_fill
  intro _ _
  refine wpAny_call (make_K (fI := 656) F N (G.X.keeps F.keep) (by k_is) (by k_is) (by k_is) fun lx ld h1 F1 N1 l1 l2 => ?_)
  rw [under_mk]
  refine c_linit hx (Nat.ne_of_gt l2) (Nat.ne_of_lt l2) (fun q hq => Nat.ne_of_lt (l1 q hq)) p loose mean mg mb (dp + 1) (un + 1) gd cn cs a ccd cl outer A₀ base h₀ L m { s with heap := h1 } _ G F1 N1 hk (by walk_at "om") (by walk_at "om") fun v g2 h2 tk2 news2 G2 T2 F2 N2 O2 P2 => ?_
  obtain ⟨rfl, P2⟩ := P2
  exact ⟨rfl, k lx ld g2 h2 tk2 news2 G2 T2 F2 N2 l2 l1 P2⟩
end Mine

end
section
open PySem PySem.W PyProof.Rows PySem.Calls
set_option Elab.async false
set_option maxRecDepth 100000
set_option maxHeartbeats 0
namespace Mine

theorem c_iter {w : World} {news : List (Addr × Obj)} {lx : Addr} : Spec PySem.Challenge.pw_oc0261_02 w (Mine.K1 w.params) 722 [.ref lx] (0 + 1) (40 + 8) news (fun v news' => v = .ref lx ∧ news' = news) := by
  refine (?_ : PySem.Challenge.rw_oc0261_02 = PySem.Challenge.rw_oc0261_02 → (Mine.K1 w.params) = (Mine.K1 w.params) → _) rfl rfl
  k_fill
  intro _ _
  refine spec_of (binds := [(Str.ofString "self", .ref lx)]) (by k_is) (by k_is) (fun _ _ => by first | exact BindsTo.of_eq rfl | (refine binds_K (by assumption) rfl (by k_is) rfl rfl rfl)) (locs rfl) rfl rfl rfl (by decide) ?_
  intro p loose mean mg mb dp un gd A₀ base g outer L1 s Q hdp hun G F1 N1 hq
  k_with_none
  have XB := G.XB
  have TB := G.TB.toTopRead
  have D1 := G.D
  have B1 := G.B
  have X1 := G.X
  have T1 := G.T.toTopRead
  have T0 : KtsTurn (fsOf outer) g g := KtsTurn.refl
  obtain ⟨m0, F1⟩ : ∃ m0, Fr g L1 _ (put "self" (.ref lx) m0) := ⟨_, (Fr_put (x := "self") F1 rfl)⟩
  k_steps
  (with_reducible rename Fr _ _ _ _ => F9); (with_reducible rename News _ _ _ _ => N9)
  exact hq _ _ _ _ _ _ T0 F9 N9 ⟨rfl, rfl⟩


end Mine

end
section
open PySem PySem.W PyProof.Rows PySem.Calls
set_option Elab.async false
set_option maxRecDepth 100000
set_option maxHeartbeats 0
namespace Mine


noncomputable abbrev lexD (w : World) (ks vt : Nat → Tok) (sx pb fs : Addr) (st tok : Value) : List DictEntry := [ent w "instream" (ks 0) (.ref sx), ent w "infile" (ks 1) (.none), ent w "posix" (ks 2) (.bool true), ent w "eof" (ks 3) (.none), ent w "commenters" (ks 4) (.str (Str.ofString "") (vt 4)), ent w "wordchars" (ks 5) (.str (Str.ofString "abcdfeghijklmnopqrstuvwxyzABCDEFGHIJKLMNOPQRSTUVWXYZ0123456789_ßàáâãäåæçèéêëìíîïðñòóôõöøùúûüýþÿÀÁÂÃÄÅÆÇÈÉÊËÌÍÎÏÐÑÒÓÔÕÖØÙÚÛÜÝÞ") (vt 5)), ent w "whitespace" (ks 6) (.str (Str.ofString " \t\r\n") (vt 6)), ent w "whitespace_split" (ks 7) (.bool true), ent w "quotes" (ks 8) (.str (Str.ofString "'\"") (vt 8)), ent w "escape" (ks 9) (.str (Str.ofString "\\") (vt 9)), ent w "escapedquotes" (ks 10) (.str (Str.ofString "\"") (vt 10)), ent w "state" (ks 11) (st), ent w "pushback" (ks 12) (.ref pb), ent w "lineno" (ks 13) (.int 1 (vt 13)), ent w "debug" (ks 14) (.int 0 (vt 14)), ent w "token" (ks 15) (tok), ent w "filestack" (ks 16) (.ref fs), ent w "source" (ks 17) (.none), ent w "_punctuation_chars" (ks 18) (.str (Str.ofString "") (vt 18))]
noncomputable abbrev lexL (w : World) (ks vt : Nat → Tok) (k1 k2 k3 t1 t2 t3 : Tok) (lx ld sx sd pb fs : Addr) (st tok : Value) (x : Str) (ps : Nat) (rest : List (Addr × Obj)) : List (Addr × Obj) := (sx, instObj 597 sd) :: (sd, dictOf (sioD w k1 k2 k3 (.str "\n" t1) (.str x t2) (.int (ps : Int) t3)) 3) :: (lx, instObj 732 ld) :: (ld, dictOf (lexD w ks vt sx pb fs st tok) 19) :: rest


noncomputable def AL : List Nat := [65,66,67,68,69,70,71,72,73,74,75,76,77,78,79,80,32,34,39]
noncomputable abbrev Lett (c : Nat) : Prop := 65 ≤ c ∧ c ≤ 80
noncomputable def rt : List Nat → Nat → List Nat → Bool → Option (Option (List Nat) × Option Nat × List Nat)
  | [], st, tok, q => if st = 32 ∧ q = false ∧ tok = [] then some (none, none, []) else if st = 97 ∧ ¬ (q = false ∧ tok = []) then some (some tok, none, []) else none
  | c :: l, st, tok, q =>
    if st = 32 then (if Lett c then rt l 97 [c] q else if c = 39 then rt l 39 tok q else none)
    else if st = 97 then (if c = 32 then (if q = false ∧ tok = [] then none else some (some tok, some 32, l)) else if Lett c then rt l 97 (tok ++ [c]) q else if c = 39 ∨ c = 34 then rt l c tok q else none)
    else if st = 39 ∨ st = 34 then (if c = st then rt l 97 tok true else if c ∈ AL then rt l st (tok ++ [c]) true else none)
    else none
theorem lett_mem {c : Nat} (h : Lett c) : c ∈ AL := by
  have : ∀ d : Fin 16, 65 + d.val ∈ AL := by decide
  have q := this ⟨c - 65, by have := h.1; have := h.2; walk_at "om"⟩
  have e : 65 + (c - 65) = c := by have := h.1; walk_at "om"
  simpa only [e] using q
noncomputable abbrev occ (S : String) (c : Nat) : Bool := (Builtin.Str.occurrences (Str.ofString S) (⟨#[c]⟩ : Str) 0 (Str.ofString S).length 1).isEmpty
noncomputable abbrev WCH : String := "abcdfeghijklmnopqrstuvwxyzABCDEFGHIJKLMNOPQRSTUVWXYZ0123456789_ßàáâãäåæçèéêëìíîïðñòóôõöøùúûüýþÿÀÁÂÃÄÅÆÇÈÉÊËÌÍÎÏÐÑÒÓÔÕÖØÙÚÛÜÝÞ"
theorem al_facts : ∀ c ∈ AL, ((⟨#[c]⟩ : Str) == Str.ofString "\n") = false ∧ occ "" c = true ∧ occ "\\" c = true := by decide +kernel
theorem lett_facts : ∀ c ∈ AL, Lett c → occ " \t\r\n" c = true ∧ occ "'\"" c = true ∧ occ WCH c = false := by decide +kernel
theorem quo_facts : ∀ c ∈ [39, 34], occ " \t\r\n" c = true ∧ occ WCH c = true ∧ occ "'\"" c = false := by decide +kernel
theorem spc_facts : occ " \t\r\n" 32 = false := by decide +kernel
theorem al_ne : ∀ c ∈ AL, ∀ d ∈ AL, c ≠ d → ((⟨#[c]⟩ : Str) == (⟨#[d]⟩ : Str)) = false := by decide +kernel
theorem tok_app {tok : List Nat} {c : Nat} : (⟨tok.toArray⟩ : Str) ++ (⟨#[c]⟩ : Str) = ⟨(tok ++ [c]).toArray⟩ := by
  show (⟨tok.toArray ++ #[c]⟩ : Str) = _
  simp
theorem at_ {x : Str} {ps c : Nat} {l : List Nat} (h : x.cps.toList.drop ps = c :: l) : ps < x.length ∧ x.cps[ps]? = some c ∧ x.cps.toList.drop (ps + 1) = l := by
  obtain ⟨⟨xs⟩⟩ := x
  have hl : ps < xs.length := by
    by_cases q : ps < xs.length
    · exact q
    · rw [show (⟨⟨xs⟩⟩ : Str).cps.toList = xs from rfl, List.drop_eq_nil_of_le (by walk_at "om")] at h; cases h
  have h2 : xs.drop ps = c :: l := h
  rw [List.drop_eq_getElem_cons hl] at h2
  injection h2 with a b
  exact ⟨hl, by simp [hl, a], b⟩
theorem at_end {x : Str} {ps : Nat} (hp : ps ≤ x.length) (h : x.cps.toList.drop ps = []) : ps = x.length := by
  have := congrArg List.length h
  rw [List.length_drop] at this
  have e : x.cps.toList.length = x.length := by simp [Str.length]
  rw [e] at this
  simp at this
  walk_at "om"

theorem rt_cons {c : Nat} {l : List Nat} {st : Nat} {tok : List Nat} {q : Bool} {R : Option (List Nat) × Option Nat × List Nat} (h : rt (c :: l) st tok q = some R) :
    (st = 32 ∧ Lett c ∧ rt l 97 [c] q = some R) ∨ (st = 32 ∧ c = 39 ∧ rt l 39 tok q = some R) ∨ (st = 97 ∧ c = 32 ∧ ¬ (q = false ∧ tok = []) ∧ R = (some tok, some 32, l)) ∨
    (st = 97 ∧ Lett c ∧ rt l 97 (tok ++ [c]) q = some R) ∨ (st = 97 ∧ (c = 39 ∨ c = 34) ∧ rt l c tok q = some R) ∨ ((st = 39 ∨ st = 34) ∧ c = st ∧ rt l 97 tok true = some R) ∨
    ((st = 39 ∨ st = 34) ∧ c ≠ st ∧ c ∈ AL ∧ rt l st (tok ++ [c]) true = some R) := by
  rw [rt] at h
  split at h
  · split at h
    · exact .inl ⟨by assumption, by assumption, h⟩
    · split at h
      · exact .inr (.inl ⟨by assumption, by assumption, h⟩)
      · cases h
  · split at h
    · split at h
      · split at h
        · cases h
        · exact .inr (.inr (.inl ⟨by assumption, by assumption, by assumption, (Option.some.inj h).symm⟩))
      · split at h
        · exact .inr (.inr (.inr (.inl ⟨by assumption, by assumption, h⟩)))
        · split at h
          · exact .inr (.inr (.inr (.inr (.inl ⟨by assumption, by assumption, h⟩))))
          · cases h
    · split at h
      · split at h
        · exact .inr (.inr (.inr (.inr (.inr (.inl ⟨by assumption, by assumption, h⟩)))))
        · split at h
          · exact .inr (.inr (.inr (.inr (.inr (.inr ⟨by assumption, by assumption, by assumption, h⟩)))))
          · cases h
      · cases h
theorem rt_nil {st : Nat} {tok : List Nat} {q : Bool} {R : Option (List Nat) × Option Nat × List Nat} (h : rt [] st tok q = some R) : (st = 32 ∧ (q = false ∧ tok = []) ∧ R = (none, none, [])) ∨ (st = 97 ∧ ¬ (q = false ∧ tok = []) ∧ R = (some tok, none, [])) := by
  rw [rt] at h
  split at h
  · rename_i a; exact .inl ⟨a.1, a.2, (Option.some.inj h).symm⟩
  · split at h
    · rename_i a; exact .inr ⟨a.1, a.2, (Option.some.inj h).symm⟩
    · cases h

theorem rt_al {c : Nat} {l : List Nat} {st : Nat} {tok : List Nat} {q : Bool} {R : Option (List Nat) × Option Nat × List Nat} (h : rt (c :: l) st tok q = some R) : c ∈ AL := by
  rcases rt_cons h with ⟨_, hL, _⟩ | ⟨_, rfl, _⟩ | ⟨_, rfl, _⟩ | ⟨_, hL, _⟩ | ⟨_, rfl | rfl, _⟩ | ⟨rfl | rfl, rfl, _⟩ | ⟨_, _, hA, _⟩
  all_goals first | exact lett_mem hL | exact hA | decide
theorem st_a : Str.ofString "a" = (⟨#[97]⟩ : Str) := by decide +kernel
theorem st_s : Str.ofString " " = (⟨#[32]⟩ : Str) := by decide +kernel
theorem st_e : Str.ofString "" = (⟨([] : List Nat).toArray⟩ : Str) := by decide +kernel

theorem _root_.PyProof.Rows.News.less1 {g h : Heap} {L : Addr} {a : Addr × Obj} {l : List (Addr × Obj)} (N : News g L h (a :: l)) : News g L h l := fun p hp => N p (.tail _ hp)
theorem tok_len {tok : List Nat} (h : tok ≠ []) : ((⟨tok.toArray⟩ : Str).length : Int) ≠ 0 := by
  have : tok.length ≠ 0 := fun e => h (List.eq_nil_of_length_eq_zero e)
  show ((tok.toArray.size : Nat) : Int) ≠ 0
  rw [List.size_toArray]; walk_at "om"
theorem tok_ne {tok : List Nat} (h : tok ≠ []) : ((⟨tok.toArray⟩ : Str) == Str.ofString "") = false := by
  rw [st_e]
  apply beq_false_of_ne
  intro e
  injection e with e
  exact h (by injection e)

section
variable {prog : Program} {w : World} {A : Around} {s : Shared} {E : Value → Shared → Prop} {t : Tok} {Q : Bool → Shared → Prop}
theorem truthy_chr {c : Nat} (h : Q true { s with toks := s.toks + 1 + 1 }) : wpAny (model prog w) A (PySem.truthy (.str (⟨#[c]⟩ : Str) t)) Q E s := P.truthy_str (by show ¬ (((1 : Nat) : Int) ≥ 2 ^ 63); walk_at "om") h
theorem truthy_tok {tok : List Nat} (hn : tok ≠ []) (hl : tok.length < 1000000) (h : Q true { s with toks := s.toks + 1 + 1 }) : wpAny (model prog w) A (PySem.truthy (.str (⟨tok.toArray⟩ : Str) t)) Q E s := by
  refine P.truthy_str (by show ¬ (((tok.toArray.size : Nat) : Int) ≥ 2 ^ 63); rw [List.size_toArray]; walk_at "om") ?_
  rw [show (((⟨tok.toArray⟩ : Str).length : Int) != 0) = true from bne_iff_ne.mpr (tok_len hn)]
  exact h
end


inductive RtI (K : Frag) (p : Program) (loose : List Str) (mean : ExcName → Option Value) (mg mb : Str → Option Value) (A₀ : Around) (base : Heap) (outer : List Env) (g : Heap) (L1 : Addr) (w : World) (ks vt : Nat → Tok) (k1 k2 k3 t1 t2 : Tok) (lx ld sx sd pb fs : Addr) (x : Str) (rest : List (Addr × Obj)) (R : Option (List Nat) × Option Nat × List Nat) (d : Nat × List Nat × Bool × Nat) (h : Heap) : Prop
  | mk (g1 : Heap) (m0 : Str → Option Value) (e1 u1 u2 t3 : Tok) : KtsTurn (fsOf outer) g g1 → Gd K p loose mean mg mb A₀ base outer g1 → Fr g1 L1 h (put "self" (.ref lx) (put "quoted" (.bool d.2.2.1) (put "escapedstate" (.str (Str.ofString " ") e1) m0))) → News g1 L1 h (lexL w ks vt k1 k2 k3 t1 t2 t3 lx ld sx sd pb fs (.str (⟨#[d.1]⟩ : Str) u1) (.str ⟨(d.2.1).toArray⟩ u2) x (d.2.2.2) rest) → rt (x.cps.toList.drop d.2.2.2) d.1 d.2.1 d.2.2.1 = some R → d.2.2.2 ≤ x.length → d.2.1.length ≤ d.2.2.2 → RtI K p loose mean mg mb A₀ base outer g L1 w ks vt k1 k2 k3 t1 t2 lx ld sx sd pb fs x rest R d h


noncomputable def rdY (x : Str) (ps : Nat) : Str := if ps < x.length then ⟨#[x.cps.getD ps 0]⟩ else Str.ofString ""
noncomputable def rdP (x : Str) (ps : Nat) : Nat := if ps < x.length then ps + 1 else ps
theorem spec_mono {prog : Program} {w : World} {K : Frag} {f : Addr} {vs : List Value} {d u : Nat} {news : List (Addr × Obj)} {Post Post' : Value → List (Addr × Obj) → Prop} (h : Spec prog w K f vs d u news Post) (k : ∀ v n, Post v n → Post' v n) : Spec prog w K f vs d u news Post' :=
  fun p loose mean mg mb dp un gd cn cs a ccd cl outer A₀ base h₀ L m s R G F N hk hd hu hret => h p loose mean mg mb dp un gd cn cs a ccd cl outer A₀ base h₀ L m s R G F N hk hd hu fun v g' h' tk' n' G' T' F' N' O P => hret v g' h' tk' n' G' T' F' N' O (k _ _ P)
theorem c_read1 {w : World} {sx sd : Addr} {rest : List (Addr × Obj)} {k1 k2 k3 t1 t2 t3 : Tok} {x : Str} {ps : Nat} {t : Tok} (hx : x.length < 1000000) (hne : sx ≠ sd) (hne2 : sd ≠ sx) (ha : ∀ q ∈ rest, q.1 ≠ sd) (hp : ps ≤ x.length) {y : Str} {ps2 : Nat} (hy : y = rdY x ps) (h2 : ps2 = rdP x ps) :
    Spec PySem.Challenge.pw_oc0261_02 w (Mine.K1 w.params) 543 [.ref sx, .int 1 t] (8 + 1) (80 + 8) ((sx, instObj 597 sd) :: (sd, dictOf (sioD w k1 k2 k3 (.str "\n" t1) (.str x t2) (.int (ps : Int) t3)) 3) :: rest) (fun v news' => ∃ t4 u, news' = ((sx, instObj 597 sd) :: (sd, dictOf (sioD w k1 k2 k3 (.str "\n" t1) (.str x t2) (.int (ps2 : Int) t4)) 3) :: rest) ∧ v = .str y u) := by
  unfold rdY at hy
  unfold rdP at h2
  by_cases h : ps < x.length
  · rw [if_pos h] at hy h2
    subst hy h2
    have hc : x.cps[ps]? = some (x.cps.getD ps 0) := by
      have h' : ps < x.cps.size := h
      simp [Array.getD, h']
    exact c_readC hx hne hne2 ha h hc
  · rw [if_neg h] at hy h2
    subst hy h2
    refine spec_mono (c_readE hx hne hne2 ha (by walk_at "om")) ?_
    rintro v n ⟨rfl, u, rfl⟩
    exact ⟨_, u, rfl, rfl⟩
theorem rd_nil {x : Str} {ps : Nat} (h : ps = x.length) : rdY x ps = Str.ofString "" ∧ rdP x ps = ps := by
  unfold rdY rdP
  rw [if_neg (by walk_at "om"), if_neg (by walk_at "om")]
  exact ⟨rfl, rfl⟩
theorem rd_cons {x : Str} {ps c : Nat} (h : ps < x.length) (hc : x.cps[ps]? = some c) : rdY x ps = ⟨#[c]⟩ ∧ rdP x ps = ps + 1 := by
  unfold rdY rdP
  rw [if_pos h, if_pos h]
  have h' : ps < x.cps.size := h
  have e : x.cps.getD ps 0 = c := by
    rw [Array.getElem?_eq_getElem h'] at hc
    simp [Array.getD, h', Option.some.inj hc]
  rw [e]
  exact ⟨rfl, rfl⟩
theorem rd_nl {x : Str} {ps st : Nat} {tok : List Nat} {q : Bool} {R : Option (List Nat) × Option Nat × List Nat} (hps : ps ≤ x.length) (h : rt (x.cps.toList.drop ps) st tok q = some R) : (rdY x ps == Str.ofString "\n") = false := by
  cases hl : x.cps.toList.drop ps with
  | nil =>
    rw [(rd_nil (at_end hps hl)).1]
    decide +kernel
  | cons c l =>
    rw [hl] at h
    obtain ⟨hp, hc, _⟩ := at_ hl
    rw [(rd_cons hp hc).1]
    exact (al_facts _ (rt_al h)).1

theorem c_punct {w : World}  {ks vt : Nat → Tok} {k1 k2 k3 t1 t2 t3 : Tok} {lx ld sx sd pb fs : Addr} {x : Str} {ps : Nat} {rest : List (Addr × Obj)} {st tok : Value} : Spec PySem.Challenge.pw_oc0261_02 w (Mine.K1 w.params) 663 [.ref lx] (0 + 1) (40 + 8) (lexL w ks vt k1 k2 k3 t1 t2 t3 lx ld sx sd pb fs (st) (tok) x (ps) rest) (fun v news' => news' = (lexL w ks vt k1 k2 k3 t1 t2 t3 lx ld sx sd pb fs (st) (tok) x (ps) rest) ∧ ∃ u, v = .str (Str.ofString "") u) := by
  refine (?_ : PySem.Challenge.rw_oc0261_02 = PySem.Challenge.rw_oc0261_02 → (Mine.K1 w.params) = (Mine.K1 w.params) → _) rfl rfl
  k_fill
  intro _ _
  refine spec_of (binds := [(Str.ofString "self", .ref lx)]) (by k_is) (by k_is) (fun _ _ => by first | exact BindsTo.of_eq rfl | (refine binds_K (by assumption) rfl (by k_is) rfl rfl rfl)) (locs rfl) rfl rfl rfl (by decide) ?_
  intro p loose mean mg mb dp un gd A₀ base g outer L1 s Q hdp hun G F1 N1 hq
  k_with_none
  have XB := G.XB
  have TB := G.TB.toTopRead
  have D1 := G.D
  have B1 := G.B
  have X1 := G.X
  have T1 := G.T.toTopRead
  have T0 : KtsTurn (fsOf outer) g g := KtsTurn.refl
  obtain ⟨m0, F1⟩ : ∃ m0, Fr g L1 _ (put "self" (.ref lx) m0) := ⟨_, (Fr_put (x := "self") F1 rfl)⟩
  k_steps
  (with_reducible rename Fr _ _ _ _ => F9); (with_reducible rename News _ _ _ _ => N9)
  exact hq _ _ _ _ _ _ T0 F9 N9 ⟨rfl, _, rfl⟩


structure LexA (K : Frag) (C : Addr) (name : Str) : Prop where
  g : plainGet K C name = true
  d : hasDictIn K C = true
  a : findIn K (.ref C) name = some none
theorem k_lexA {w : World} : LexA (Mine.K1 w.params) 732 "state" ∧ LexA (Mine.K1 w.params) 732 "posix" ∧ LexA (Mine.K1 w.params) 732 "debug" ∧ LexA (Mine.K1 w.params) 732 "whitespace" ∧ LexA (Mine.K1 w.params) 732 "quotes" ∧ LexA (Mine.K1 w.params) 732 "escape" ∧ LexA (Mine.K1 w.params) 732 "wordchars" ∧ LexA (Mine.K1 w.params) 732 "commenters" ∧ LexA (Mine.K1 w.params) 732 "token" ∧ LexA (Mine.K1 w.params) 732 "instream" ∧ LexA (Mine.K1 w.params) 732 "whitespace_split" ∧ LexA (Mine.K1 w.params) 732 "escapedquotes" := by
  refine (?_ : PySem.Challenge.rw_oc0261_02 = PySem.Challenge.rw_oc0261_02 → (Mine.K1 w.params) = (Mine.K1 w.params) → _) rfl rfl
  k_fill
  intro _ _
  exact ⟨⟨by k_is, by k_is, by k_is⟩, ⟨by k_is, by k_is, by k_is⟩, ⟨by k_is, by k_is, by k_is⟩, ⟨by k_is, by k_is, by k_is⟩, ⟨by k_is, by k_is, by k_is⟩, ⟨by k_is, by k_is, by k_is⟩, ⟨by k_is, by k_is, by k_is⟩, ⟨by k_is, by k_is, by k_is⟩, ⟨by k_is, by k_is, by k_is⟩, ⟨by k_is, by k_is, by k_is⟩, ⟨by k_is, by k_is, by k_is⟩, ⟨by k_is, by k_is, by k_is⟩⟩
section
variable {prog : Program} {w w' : World} {A : Around} {E : Value → Shared → Prop} {s : Shared} {K : Frag} {L : Addr} {h₀ : Heap} {m : Str → Option Value} {ks vt : Nat → Tok} {k1 k2 k3 t1 t2 t3 : Tok} {lx ld sx sd pb fs : Addr} {x : Str} {ps : Nat} {rest : List (Addr × Obj)} {st tok : Value} {env : Env}
structure LX (K : Frag) (h₀ : Heap) (L : Addr) (h : Heap) (m : Str → Option Value) (env : Env) (w' : World) (ks vt : Nat → Tok) (k1 k2 k3 t1 t2 t3 : Tok) (lx ld sx sd pb fs : Addr) (st tok : Value) (x : Str) (ps : Nat) (rest : List (Addr × Obj)) : Prop where
  F : Fr h₀ L h m
  X : K.In h₀
  N : News h₀ L h (lexL w' ks vt k1 k2 k3 t1 t2 t3 lx ld sx sd pb fs st tok x ps rest)
  self : m "self" = some (.ref lx)
  kind : env.scope.kind = .function
  loc : env.locals = L
  k : env.kindOf "self" = some .local
theorem ev_la {attr : Str} {v : Value} {p ap : Pos} {Q : Value → Shared → Prop} (B : LX K h₀ L s.heap m env w' ks vt k1 k2 k3 t1 t2 t3 lx ld sx sd pb fs st tok x ps rest) (a : LexA K 732 attr) (hl : getL attr (lexD w' ks vt sx pb fs st tok) = some (some v)) (hv : handedIn v = true) (h : Q v { s with toks := s.toks + 1 }) :
    wpAny (model prog w) A (eval (.Attribute (.Name "self" p) attr ap) env) Q E s :=
  Attribute_Name_ (wpAny_Name (wpAny_loadName_local B.kind B.k (B.loc ▸ B.F.ns) B.self (get_own B.F B.X (InstAt.of_news B.N (.tail _ (.tail _ (.head _))) (.tail _ (.tail _ (.tail _ (.head _))))) a.g a.d a.a rfl hl hv h)) (by decide))
theorem LX.any (B : LX K h₀ L s.heap m env w' ks vt k1 k2 k3 t1 t2 t3 lx ld sx sd pb fs st tok x ps rest) (n : Nat) : LX K h₀ L ({ s with toks := n } : Shared).heap m env w' ks vt k1 k2 k3 t1 t2 t3 lx ld sx sd pb fs st tok x ps rest := B
theorem lt_bool {attr : Str} {p ap : Pos} {b : Bool} {Q : Bool → Shared → Prop} (B : LX K h₀ L s.heap m env w' ks vt k1 k2 k3 t1 t2 t3 lx ld sx sd pb fs st tok x ps rest) (a : LexA K 732 attr) (hl : getL attr (lexD w' ks vt sx pb fs st tok) = some (some (.bool b))) (h : ∀ n, Q b { s with toks := n }) :
    wpAny (model prog w) A (isTrue (.Attribute (.Name "self" p) attr ap) env (eval (.Attribute (.Name "self" p) attr ap) env)) Q E s :=
  isTrue_plain (ev_la B a hl rfl (wpAny_truthy_bool (h _)))
theorem lt_chr {nm : Str} {p : Pos} {c : Nat} {t : Tok} {Q : Bool → Shared → Prop} (F : Fr h₀ L s.heap m) (kind : env.scope.kind = .function) (loc : env.locals = L) (kx : env.kindOf nm = some .local) (hx : m nm = some (.str ⟨#[c]⟩ t)) (hd : (nm == ("__debug__" : Str)) = false) (h : ∀ n, Q true { s with toks := n }) :
    wpAny (model prog w) A (isTrue (.Name nm p) env (eval (.Name nm p) env)) Q E s :=
  isTrue_plain (wpAny_Name (wpAny_loadName_local kind kx (loc ▸ F.ns) hx (truthy_chr (h _))) hd)
theorem lt_tup {attr c1 c2 y : Str} {t : Tok} {p ap p2 p3 p4 p5 : Pos} {kk q1 q2 : Nat} {b : Bool} {whole : Sem Value} {Q : Bool → Shared → Prop} (B : LX K h₀ L s.heap m env w' ks vt k1 k2 k3 t1 t2 t3 lx ld sx sd pb fs st tok x ps rest) (a : LexA K 732 attr) (hl : getL attr (lexD w' ks vt sx pb fs st tok) = some (some (.str y t))) (hb : ([c1, c2].any fun x => x == y) = b) (h : ∀ h' n, Fr h₀ L h' m → News h₀ L h' (lexL w' ks vt k1 k2 k3 t1 t2 t3 lx ld sx sd pb fs st tok x ps rest) → Q b { s with heap := h', toks := n }) :
    wpAny (model prog w) A (isTrue (.Compare (.Attribute (.Name "self" p) attr ap) [.In] [.Tuple [.Constant (.str c1) q1 p4, .Constant (.str c2) q2 p5] kk p2] p3) env whole) Q E s := by
  refine wpAny_isTrue_Compare1 (ev_la B a hl rfl (Tuple_ ?_))
  show wpAny _ _ (spliced [(false, eval (.Constant (.str c1) q1 p4) env), (false, eval (.Constant (.str c2) q2 p5) env)]) _ _ _
  refine spliced_cons (Constant_str (spliced_cons (Constant_str (spliced_nil ?_))))
  refine wpAny_newObj_type ?_ (by show 2 ≤ sizeLine; rw [sizeLine_eq]; decide)
  refine in_tuple_strs (ys := [c1, c2]) ⟨_, Heap.get?_push_size _ rfl, rfl, _, rfl⟩ (.cons _ _ (.cons _ _ .nil)) ?_
  rw [hb]
  exact wpAny_truthy_bool (h _ _ (B.F.push _) fun p hp => News.push B.F B.N _ rfl p (List.mem_cons_of_mem _ hp))
theorem lt_none {attr : Str} {y : Str} {t : Tok} {p ap p2 p3 : Pos} {kk : Nat} {whole : Sem Value} {Q : Bool → Shared → Prop} (B : LX K h₀ L s.heap m env w' ks vt k1 k2 k3 t1 t2 t3 lx ld sx sd pb fs st tok x ps rest) (a : LexA K 732 attr) (hl : getL attr (lexD w' ks vt sx pb fs st tok) = some (some (.str y t))) (h : ∀ n, Q false { s with toks := n }) :
    wpAny (model prog w) A (isTrue (.Compare (.Attribute (.Name "self" p) attr ap) [.Is] [.Constant .none kk p2] p3) env whole) Q E s :=
  wpAny_isTrue_Compare1 (ev_la B a hl rfl (wpAny_Constant_none (is_str_none (wpAny_truthy_bool (h _)))))
theorem lt_eq {attr : Str} {y c : Str} {t : Tok} {p ap p2 p3 : Pos} {kk : Nat} {b : Bool} {whole : Sem Value} {Q : Bool → Shared → Prop} (B : LX K h₀ L s.heap m env w' ks vt k1 k2 k3 t1 t2 t3 lx ld sx sd pb fs st tok x ps rest) (a : LexA K 732 attr) (hl : getL attr (lexD w' ks vt sx pb fs st tok) = some (some (.str y t))) (hb : (y == c) = b) (h : ∀ n, Q b { s with toks := n }) :
    wpAny (model prog w) A (isTrue (.Compare (.Attribute (.Name "self" p) attr ap) [.Eq] [.Constant (.str c) kk p2] p3) env whole) Q E s :=
  wpAny_isTrue_Compare1 (ev_la B a hl rfl (Constant_str (PyProof.Rows.eq_str (wpAny_truthy_bool (hb ▸ h _)))))
theorem lt_in {attr : Str} {nm y z : Str} {t u : Tok} {p ap p2 p3 : Pos} {b : Bool} {whole : Sem Value} {Q : Bool → Shared → Prop} (B : LX K h₀ L s.heap m env w' ks vt k1 k2 k3 t1 t2 t3 lx ld sx sd pb fs st tok x ps rest) (a : LexA K 732 attr) (hl : getL attr (lexD w' ks vt sx pb fs st tok) = some (some (.str z u))) (hx : m nm = some (.str y t)) (kx : env.kindOf nm = some .local) (hb : (Builtin.Str.occurrences z y 0 z.length 1).isEmpty = b) (hd : (nm == ("__debug__" : Str)) = false) (h : ∀ n, Q (!b) { s with toks := n }) :
    wpAny (model prog w) A (isTrue (.Compare (.Name nm p2) [.In] [.Attribute (.Name "self" p) attr ap] p3) env whole) Q E s :=
  wpAny_isTrue_Compare1 (wpAny_Name (wpAny_loadName_local B.kind kx (B.loc ▸ B.F.ns) hx (ev_la B a hl rfl (PyProof.Rows.in_str (wpAny_truthy_bool (hb ▸ h _))))) hd)
theorem lt_inA {attr at2 : Str} {y z : Str} {t u : Tok} {p ap p2 ap2 p3 : Pos} {b : Bool} {whole : Sem Value} {Q : Bool → Shared → Prop} (B : LX K h₀ L s.heap m env w' ks vt k1 k2 k3 t1 t2 t3 lx ld sx sd pb fs st tok x ps rest) (a : LexA K 732 attr) (a2 : LexA K 732 at2) (hl : getL attr (lexD w' ks vt sx pb fs st tok) = some (some (.str y t))) (hl2 : getL at2 (lexD w' ks vt sx pb fs st tok) = some (some (.str z u))) (hb : (Builtin.Str.occurrences z y 0 z.length 1).isEmpty = b) (h : ∀ n, Q (!b) { s with toks := n }) :
    wpAny (model prog w) A (isTrue (.Compare (.Attribute (.Name "self" p) attr ap) [.In] [.Attribute (.Name "self" p2) at2 ap2] p3) env whole) Q E s :=
  wpAny_isTrue_Compare1 (ev_la B a hl rfl (ev_la (B.any _) a2 hl2 rfl (PyProof.Rows.in_str (wpAny_truthy_bool (hb ▸ h _)))))
end
structure SetA (K : Frag) (C : Addr) (name : Str) : Prop where
  s : findIn K (.ref C) "__setattr__" = some (some (.builtin "object.__setattr__"))
  o : plainOver K C = true
  t : takerIn K C name = some none
  d : hasDictIn K C = true
theorem k_setA {w : World} : SetA (Mine.K1 w.params) 732 "state" ∧ SetA (Mine.K1 w.params) 732 "token" := by
  refine (?_ : PySem.Challenge.rw_oc0261_02 = PySem.Challenge.rw_oc0261_02 → (Mine.K1 w.params) = (Mine.K1 w.params) → _) rfl rfl
  k_fill
  intro _ _
  exact ⟨⟨by k_is, by k_is, by k_is, by k_is⟩, ⟨by k_is, by k_is, by k_is, by k_is⟩⟩
section
variable {prog : Program} {w : World} {A : Around} {E : Value → Shared → Prop} {s : Shared} {K : Frag} {L : Addr} {h₀ : Heap} {m : Str → Option Value} {ks vt : Nat → Tok} {k1 k2 k3 t1 t2 t3 : Tok} {lx ld sx sd pb fs : Addr} {x : Str} {ps : Nat} {rest : List (Addr × Obj)} {st tok v : Value}
theorem set_state {Q : Unit → Shared → Prop} (F : Fr h₀ L s.heap m) (X₀ : K.In h₀) (N : News h₀ L s.heap (lexL w ks vt k1 k2 k3 t1 t2 t3 lx ld sx sd pb fs st tok x ps rest)) (h5 : sx ≠ ld) (h6 : sd ≠ ld) (h7 : lx ≠ ld) (h9 : ∀ q ∈ rest, q.1 ≠ ld) (a : SetA K 732 "state")
    (h : ∀ h', Fr h₀ L h' m → News h₀ L h' (lexL w ks vt k1 k2 k3 t1 t2 t3 lx ld sx sd pb fs v tok x ps rest) → Q () { s with heap := h', toks := s.toks + 2 }) : wpAny (model prog w) A (setAttr (.ref lx) "state" v) Q E s :=
  set_dict F X₀ N (InstAt.of_news N (.tail _ (.tail _ (.head _))) (.tail _ (.tail _ (.tail _ (.head _))))) rfl a.s a.o a.t a.d rfl (es' := lexD w ks vt sx pb fs v tok) (n' := 19) rfl (.tail h5 (.tail h6 (.tail h7 (.head h9)))) (Nat.le_of_ble_eq_true rfl) h
theorem set_token {Q : Unit → Shared → Prop} (F : Fr h₀ L s.heap m) (X₀ : K.In h₀) (N : News h₀ L s.heap (lexL w ks vt k1 k2 k3 t1 t2 t3 lx ld sx sd pb fs st tok x ps rest)) (h5 : sx ≠ ld) (h6 : sd ≠ ld) (h7 : lx ≠ ld) (h9 : ∀ q ∈ rest, q.1 ≠ ld) (a : SetA K 732 "token")
    (h : ∀ h', Fr h₀ L h' m → News h₀ L h' (lexL w ks vt k1 k2 k3 t1 t2 t3 lx ld sx sd pb fs st v x ps rest) → Q () { s with heap := h', toks := s.toks + 2 }) : wpAny (model prog w) A (setAttr (.ref lx) "token" v) Q E s :=
  set_dict F X₀ N (InstAt.of_news N (.tail _ (.tail _ (.head _))) (.tail _ (.tail _ (.tail _ (.head _))))) rfl a.s a.o a.t a.d rfl (es' := lexD w ks vt sx pb fs st v) (n' := 19) rfl (.tail h5 (.tail h6 (.tail h7 (.head h9)))) (Nat.le_of_ble_eq_true rfl) h
end
theorem c_rt {w : World}  {ks vt : Nat → Tok} {k1 k2 k3 t1 t2 t3 : Tok} {lx ld sx sd pb fs : Addr} {x : Str} {ps : Nat} {rest : List (Addr × Obj)} {u1 u2 : Tok} (hx : x.length < 1000000) (h1 : sx ≠ sd) (h2 : sd ≠ sx) (h3 : lx ≠ sd) (h4 : ld ≠ sd) (h5 : sx ≠ ld) (h6 : sd ≠ ld) (h7 : lx ≠ ld) (h8 : ∀ q ∈ rest, q.1 ≠ sd) (h9 : ∀ q ∈ rest, q.1 ≠ ld) {R : Option (List Nat) × Option Nat × List Nat} (hp0 : ps ≤ x.length) (hR : rt (x.cps.toList.drop ps) 32 [] false = some R) : Spec PySem.Challenge.pw_oc0261_02 w (Mine.K1 w.params) 700 [.ref lx] (30 + 1) (300 + 8) (lexL w ks vt k1 k2 k3 t1 t2 t3 lx ld sx sd pb fs (.str (Str.ofString " ") u1) (.str (Str.ofString "") u2) x (ps) rest) (fun v news' => ∃ ps' u1 u2 t3, (match R.1 with | none => v = .none | some l => ∃ u, v = .str ⟨l.toArray⟩ u) ∧ news' = (lexL w ks vt k1 k2 k3 t1 t2 t3 lx ld sx sd pb fs (match R.2.1 with | none => .none | some c => .str ⟨#[c]⟩ u1) (.str (Str.ofString "") u2) x (ps') rest) ∧ x.cps.toList.drop ps' = R.2.2 ∧ ps' ≤ x.length) := by
  refine (?_ : PySem.Challenge.rw_oc0261_02 = PySem.Challenge.rw_oc0261_02 → (Mine.K1 w.params) = (Mine.K1 w.params) → _) rfl rfl
  k_fill
  intro _ _
  refine spec_of (binds := [(Str.ofString "self", .ref lx)]) (by k_is) (by k_is) (fun _ _ => by first | exact BindsTo.of_eq rfl | (refine binds_K (by assumption) rfl (by k_is) rfl rfl rfl)) (locs rfl) rfl rfl rfl (by decide) ?_
  intro p loose mean mg mb dp un gd A₀ base g outer L1 s Q hdp hun G F1 N1 hq
  k_with_none
  have XB := G.XB
  have TB := G.TB.toTopRead
  have D1 := G.D
  have B1 := G.B
  have X1 := G.X
  have T1 := G.T.toTopRead
  have T0 : KtsTurn (fsOf outer) g g := KtsTurn.refl
  obtain ⟨m0, F1⟩ : ∃ m0, Fr g L1 _ (put "self" (.ref lx) m0) := ⟨_, (Fr_put (x := "self") F1 rfl)⟩
  repeat (first | (k_unfold; (try dsimp only)) | (with_reducible refine execs_one ?_) | ((fail_if_success (with_reducible show wpAny _ _ (exec (Stmt.While _ _ _ _) _) _ _ _)); walk1))
  k_fold
  have tail : ∀ (g1 h : Heap) (m1 : Str → Option Value) (tk : Nat) (q : Bool) (st : Value) (tok : List Nat) (u1 u2 t3 : Tok) (ps' : Nat), KtsTurn (fsOf outer) g g1 → Gd (Mine.K1 w.params) p loose mean mg mb A₀ base outer g1 → Fr g1 L1 h (put "self" (.ref lx) (put "quoted" (.bool q) m1)) →
      News g1 L1 h (lexL w ks vt k1 k2 k3 t1 t2 t3 lx ld sx sd pb fs st (.str ⟨tok.toArray⟩ u2) x ps' rest) → tok.length < 1000000 → R.1 = (if q = false ∧ tok = [] then none else some tok) → st = (match R.2.1 with | none => .none | some c => .str ⟨#[c]⟩ u1) → x.cps.toList.drop ps' = R.2.2 → ps' ≤ x.length → qk .next { s with heap := h, toks := tk } := by
    clear G B1 X1 T1 D1 T0 hp0 hR
    (try ((with_reducible rename Fr _ _ _ _ => F9); clear F9)); (try ((with_reducible rename News _ _ _ _ => N9); clear N9))
    intro g1 h m1 tk q st tok u1 u2 t3 ps' T0 G F2 N2 hlen hR1 hst hd hl
    have D1 := G.D
    have B1 := G.B
    have X1 := G.X
    have T1 := G.T.toTopRead
    by_cases ht : tok = []
    · subst ht
      cases q with
      | false =>
        repeat' (first | (k_unfold; (try dsimp only)) | (with_reducible refine execs_one ?_) | ((with_reducible show wpAny _ _ (exec _ _) _ _ _); (with_reducible rename Fr _ _ _ _ => F9); (refine st_at (s := s) F9 fun tk9 => ?_); (try k_fold); walk1) | (k_end; wrow_close) | walk1 | (dsimp only; walk1) | (leave1; try dsimp only) | fail "no step")
        (with_reducible rename Fr _ _ _ _ => F9); (with_reducible rename News _ _ _ _ => N9)
        refine hq _ _ _ _ _ _ T0 F9 N9 ⟨ps', u1, ?_⟩
        rw [← hst]
        refine ⟨_, _, ?_, rfl, hd, hl⟩
        rw [hR1, if_pos ⟨rfl, rfl⟩]
      | true =>
        repeat' (first | (k_unfold; (try dsimp only)) | (with_reducible refine execs_one ?_) | ((with_reducible show wpAny _ _ (exec _ _) _ _ _); (with_reducible rename Fr _ _ _ _ => F9); (refine st_at (s := s) F9 fun tk9 => ?_); (try k_fold); walk1) | (k_end; wrow_close) | walk1 | (dsimp only; walk1) | (leave1; try dsimp only) | fail "no step")
        (with_reducible rename Fr _ _ _ _ => F9); (with_reducible rename News _ _ _ _ => N9)
        refine hq _ _ _ _ _ _ T0 F9 N9 ⟨ps', u1, ?_⟩
        rw [← hst]
        refine ⟨_, _, ?_, rfl, hd, hl⟩
        rw [hR1, if_neg (fun z => nomatch z.1)]; exact ⟨_, rfl⟩
    · have f6 : ((⟨tok.toArray⟩ : Str) == Str.ofString "") = false := tok_ne ht
      repeat' (first | (k_unfold; (try dsimp only)) | (with_reducible refine execs_one ?_) | ((with_reducible show wpAny _ _ (exec _ _) _ _ _); (with_reducible rename Fr _ _ _ _ => F9); (refine st_at (s := s) F9 fun tk9 => ?_); (try k_fold); walk1) | (k_end; wrow_close) | walk1 | (dsimp only; walk1) | (leave1; try dsimp only) | fail "no step")
      all_goals ((with_reducible rename Fr _ _ _ _ => F9); (with_reducible rename News _ _ _ _ => N9))
      all_goals (refine hq _ _ _ _ _ _ T0 F9 N9 ⟨ps', u1, ?_⟩)
      all_goals (rw [← hst]; refine ⟨_, _, ?_, rfl, hd, hl⟩; rw [hR1, if_neg (fun z => ht z.2)]; exact ⟨_, rfl⟩)
  clear_value qk
  refine wp_loop (RtI (Mine.K1 w.params) p loose mean mg mb A₀ base outer g L1 w ks vt k1 k2 k3 t1 t2 lx ld sx sd pb fs x rest R) (fun d => x.length - d.2.2.2) (32, [], false, ps) ?_ ?_
  · (with_reducible rename Fr _ _ _ _ => F9); (with_reducible rename News _ _ _ _ => N9)
    exact ⟨_, _, _, _, _, _, T0, G, (Fr_put (Fr_put (Fr_put F9 rfl) rfl) rfl), N9, hR, hp0, Nat.zero_le _⟩
  clear G B1 X1 T1 D1 T0 hp0 hR
  (with_reducible rename Fr _ _ _ _ => F9); (with_reducible rename News _ _ _ _ => N9); clear F9 N9
  rintro ⟨st, tok, q, ps⟩ h tk ⟨g1, m0, e1, u1, u2, t3, T0, G, F2, N2, hr, hps, htk⟩
  dsimp only at F2 N2 hr hps htk ⊢
  have D1 := G.D
  have B1 := G.B
  have X1 := G.X
  have T1 := G.T.toTopRead
  repeat ((fail_if_success (with_reducible show _ ∧ _)); walk1)
  refine ⟨rfl, ?_⟩
  refine wp_abs3 (fun s₃ => ∃ d' : Nat × List Nat × Bool × Nat, x.length - d'.2.2.2 < x.length - ps ∧ ∃ h' tk', s₃ = { s with heap := h', toks := tk' } ∧ RtI (Mine.K1 w.params) p loose mean mg mb A₀ base outer g L1 w ks vt k1 k2 k3 t1 t2 lx ld sx sd pb fs x rest R d' h') (qk .next) (fun _ h => ⟨h⟩) (fun _ h => ⟨h⟩) (fun _ h => h) fun Q' hN hC hB => ?_
  obtain ⟨y, hy⟩ : ∃ y, y = rdY x ps := ⟨_, rfl⟩
  obtain ⟨ps2, hps2⟩ : ∃ z, z = rdP x ps := ⟨_, rfl⟩
  have f1 : (y == Str.ofString "\n") = false := by rw [hy]; exact rd_nl hps hr
  k_with "call ref cons nil" => ((with_reducible rename Fr _ _ _ _ => F9); (with_reducible rename News _ _ _ _ => N9); (first | refine (c_read1 hx h1 h2 (by intro q hq; rcases List.mem_cons.mp hq with rfl | hq; exact h3; rcases List.mem_cons.mp hq with rfl | hq; exact h4; exact h8 q hq) hps hy hps2).call G F9 N9 rfl (by walk_at "om") (by walk_at "om") ?_); clear G B1 X1 T1 D1 F9 N9; intro v9 g9 hh9 tk9 news9 G T8 F8 N8 P8; replace T0 := KtsTurn.trans T0 T8; clear T8; (first | (obtain ⟨e9, t9, rfl⟩ := P8; subst e9) | (obtain ⟨e9, e8⟩ := P8; subst e9 e8) | (obtain ⟨t4, u4, e9, e8⟩ := P8; subst e9 e8)); have D1 := G.D; have B1 := G.B; have X1 := G.X; have T1 := G.T.toTopRead)
  k_with "getAttr ref true" => ((with_reducible show wpAny _ _ (getAttr (Value.ref _) (PySem.Str.ofString "punctuation_chars") _) _ _ _); (with_reducible rename Fr _ _ _ _ => F9); (with_reducible rename News _ _ _ _ => N9); refine (c_punct).prop G F9 N9 rfl (by walk_at "om") (by walk_at "om") (by k_inst) (by k_is) (by k_is) (by k_is) (by k_is) (by k_is) (by k_is) (by rintro v n' ⟨_, u, rfl⟩; rfl) ?_; clear G B1 X1 T1 D1 F9 N9; intro v9 g9 hh9 tk9 news9 G T8 F8 N8 P8; replace T0 := KtsTurn.trans T0 T8; clear T8; (first | (obtain ⟨e9, t9, rfl⟩ := P8; subst e9) | (obtain ⟨e9, e8⟩ := P8; subst e9 e8) | (obtain ⟨t4, u4, e9, e8⟩ := P8; subst e9 e8)); have D1 := G.D; have B1 := G.B; have X1 := G.X; have T1 := G.T.toTopRead)
  k_with "setAttr ref" => ((with_reducible rename Fr _ _ _ _ => F9); (with_reducible rename News _ _ _ _ => N9); (first | refine set_state F9 X1 N9 h5 h6 h7 h9 k_setA.1 ?_ | refine set_token F9 X1 N9 h5 h6 h7 h9 k_setA.2 ?_ | refine set_state F9 X1 N9.less1 h5 h6 h7 h9 k_setA.1 ?_ | refine set_token F9 X1 N9.less1 h5 h6 h7 h9 k_setA.2 ?_); intro hh9 F8 N8; clear F9 N9; (try k_sweep))
  k_with "isTrue" => (first | ((with_reducible rename Fr _ _ _ _ => F9); (with_reducible rename News _ _ _ _ => N9); refine' lt_bool ?yB ?ya ?yl ?_; (case yB => with_unfolding_all exact ⟨F9, X1, N9, rfl, rfl, rfl, rfl⟩); (case ya => with_reducible first | exact k_lexA.1 | exact k_lexA.2.1 | exact k_lexA.2.2.1 | exact k_lexA.2.2.2.1 | exact k_lexA.2.2.2.2.1 | exact k_lexA.2.2.2.2.2.1 | exact k_lexA.2.2.2.2.2.2.1 | exact k_lexA.2.2.2.2.2.2.2.1 | exact k_lexA.2.2.2.2.2.2.2.2.1 | exact k_lexA.2.2.2.2.2.2.2.2.2.1 | exact k_lexA.2.2.2.2.2.2.2.2.2.2.1 | exact k_lexA.2.2.2.2.2.2.2.2.2.2.2); (case yl => k_get); intro tk9) | ((with_reducible rename Fr _ _ _ _ => F9); refine' lt_chr F9 ?yk ?yo ?yx ?ym ?yd ?_; (case yk => with_unfolding_all exact rfl); (case yo => with_unfolding_all exact rfl); (case yx => with_unfolding_all exact rfl); (case ym => with_unfolding_all exact rfl); (case yd => with_unfolding_all decide); intro tk9))
  k_with "isTrue Compare" => (first | ((with_reducible rename Fr _ _ _ _ => F9); (with_reducible rename News _ _ _ _ => N9); refine' lt_tup ?yB ?ya ?yl ?yb ?_; (case yB => with_unfolding_all exact ⟨F9, X1, N9, rfl, rfl, rfl, rfl⟩); (case ya => with_reducible exact k_lexA.1); (case yl => k_get); (case yb => assumption); clear F9 N9; intro hh9 tk9 F8 N8) | ((with_reducible rename Fr _ _ _ _ => F9); (with_reducible rename News _ _ _ _ => N9); refine' lt_none ?B ?a ?l ?_; (case B => with_unfolding_all exact ⟨F9, X1, N9, rfl, rfl, rfl, rfl⟩); (case a => with_reducible first | exact k_lexA.1 | exact k_lexA.2.1 | exact k_lexA.2.2.1 | exact k_lexA.2.2.2.1 | exact k_lexA.2.2.2.2.1 | exact k_lexA.2.2.2.2.2.1 | exact k_lexA.2.2.2.2.2.2.1 | exact k_lexA.2.2.2.2.2.2.2.1 | exact k_lexA.2.2.2.2.2.2.2.2.1 | exact k_lexA.2.2.2.2.2.2.2.2.2.1 | exact k_lexA.2.2.2.2.2.2.2.2.2.2.1 | exact k_lexA.2.2.2.2.2.2.2.2.2.2.2); (case l => k_get); intro tk9) | ((with_reducible rename Fr _ _ _ _ => F9); (with_reducible rename News _ _ _ _ => N9); refine' lt_eq ?B ?a ?l ?b ?_; (case B => with_unfolding_all exact ⟨F9, X1, N9, rfl, rfl, rfl, rfl⟩); (case a => with_reducible first | exact k_lexA.1 | exact k_lexA.2.1 | exact k_lexA.2.2.1 | exact k_lexA.2.2.2.1 | exact k_lexA.2.2.2.2.1 | exact k_lexA.2.2.2.2.2.1 | exact k_lexA.2.2.2.2.2.2.1 | exact k_lexA.2.2.2.2.2.2.2.1 | exact k_lexA.2.2.2.2.2.2.2.2.1 | exact k_lexA.2.2.2.2.2.2.2.2.2.1 | exact k_lexA.2.2.2.2.2.2.2.2.2.2.1 | exact k_lexA.2.2.2.2.2.2.2.2.2.2.2); (case l => k_get); (case b => assumption); intro tk9) | ((with_reducible rename Fr _ _ _ _ => F9); (with_reducible rename News _ _ _ _ => N9); refine' lt_in ?B ?a ?l ?x ?k ?b ?d ?_; (case B => with_unfolding_all exact ⟨F9, X1, N9, rfl, rfl, rfl, rfl⟩); (case a => with_reducible first | exact k_lexA.1 | exact k_lexA.2.1 | exact k_lexA.2.2.1 | exact k_lexA.2.2.2.1 | exact k_lexA.2.2.2.2.1 | exact k_lexA.2.2.2.2.2.1 | exact k_lexA.2.2.2.2.2.2.1 | exact k_lexA.2.2.2.2.2.2.2.1 | exact k_lexA.2.2.2.2.2.2.2.2.1 | exact k_lexA.2.2.2.2.2.2.2.2.2.1 | exact k_lexA.2.2.2.2.2.2.2.2.2.2.1 | exact k_lexA.2.2.2.2.2.2.2.2.2.2.2); (case l => k_get); (case x => with_unfolding_all exact rfl); (case k => with_unfolding_all exact rfl); (case d => with_unfolding_all decide); (case b => assumption); intro tk9) | ((with_reducible rename Fr _ _ _ _ => F9); (with_reducible rename News _ _ _ _ => N9); refine' lt_inA ?B ?a ?a2 ?l ?l2 ?b ?_; (case B => with_unfolding_all exact ⟨F9, X1, N9, rfl, rfl, rfl, rfl⟩); (case a => with_reducible first | exact k_lexA.1 | exact k_lexA.2.1 | exact k_lexA.2.2.1 | exact k_lexA.2.2.2.1 | exact k_lexA.2.2.2.2.1 | exact k_lexA.2.2.2.2.2.1 | exact k_lexA.2.2.2.2.2.2.1 | exact k_lexA.2.2.2.2.2.2.2.1 | exact k_lexA.2.2.2.2.2.2.2.2.1 | exact k_lexA.2.2.2.2.2.2.2.2.2.1 | exact k_lexA.2.2.2.2.2.2.2.2.2.2.1 | exact k_lexA.2.2.2.2.2.2.2.2.2.2.2); (case a2 => with_reducible first | exact k_lexA.1 | exact k_lexA.2.1 | exact k_lexA.2.2.1 | exact k_lexA.2.2.2.1 | exact k_lexA.2.2.2.2.1 | exact k_lexA.2.2.2.2.2.1 | exact k_lexA.2.2.2.2.2.2.1 | exact k_lexA.2.2.2.2.2.2.2.1 | exact k_lexA.2.2.2.2.2.2.2.2.1 | exact k_lexA.2.2.2.2.2.2.2.2.2.1 | exact k_lexA.2.2.2.2.2.2.2.2.2.2.1 | exact k_lexA.2.2.2.2.2.2.2.2.2.2.2); (case l => k_get); (case l2 => k_get); (case b => assumption); intro tk9))
  k_with "truthy str" => (first | refine truthy_chr ?_ | refine truthy_tok (by assumption) (by walk_at "om") ?_)
  repeat (first | (k_unfold; (try dsimp only)) | (with_reducible refine execs_one ?_) | ((fail_if_success (with_reducible show wpAny _ _ (exec (Stmt.If (Expr.Compare (Expr.Attribute _ (Str.ofString "state") _) [CmpOp.Is] _ _) _ _ _) _) _ _ _)); walk1))

  cases hl : x.cps.toList.drop ps with
  | nil =>
    rw [hl] at hr
    have hp := at_end hps hl
    obtain ⟨r1, r2⟩ := rd_nil hp
    rw [r1] at hy
    rw [r2] at hps2
    subst hy
    replace hps2 := hps2.symm
    subst hps2
    rcases rt_nil hr with ⟨hst, ⟨hq1, hq2⟩, hRR⟩ | ⟨hst, hq0, hRR⟩
    · skip
      subst hq1 hq2
      have g1 : ((⟨#[st]⟩ : Str) == Str.ofString " ") = true := by subst hst; decide +kernel
      try k_fold
      repeat' (first | (k_unfold; (try dsimp only)) | (with_reducible refine execs_one ?_) | ((with_reducible show wpAny _ _ (exec _ _) _ _ _); (with_reducible rename Fr _ _ _ _ => F9); (refine st_at (s := s) F9 fun tk9 => ?_); (try k_fold); walk1) | (k_end; wrow_close) | walk1 | (dsimp only; walk1) | (leave1; try dsimp only) | fail "no step")
      all_goals ((with_reducible rename Fr _ _ _ _ => F9); (with_reducible rename News _ _ _ _ => N9))
      all_goals (subst hRR; refine hB _ ?_; exact tail _ _ _ _ _ _ _ 0 _ _ _ T0 G (Fr_put (Fr_put F9 rfl) rfl) N9 (by first | walk_at "om" | (simp; done)) (if_pos ⟨rfl, rfl⟩).symm rfl hl hps)
  
    · skip
      have g1 : ((⟨#[st]⟩ : Str) == Str.ofString " ") = false := by subst hst; decide +kernel
      have g2 : (Builtin.Str.occurrences (Str.ofString "'\"") (⟨#[st]⟩ : Str) 0 (Str.ofString "'\"").length 1).isEmpty = true := by subst hst; decide +kernel
      have g3 : (Builtin.Str.occurrences (Str.ofString "\\") (⟨#[st]⟩ : Str) 0 (Str.ofString "\\").length 1).isEmpty = true := by subst hst; decide +kernel
      have g4 : ((⟨#[st]⟩ : Str) == Str.ofString "a") = true := by subst hst; decide +kernel
      have g5 : ((⟨#[st]⟩ : Str) == Str.ofString "c") = false := by subst hst; decide +kernel
      have g8 : ([Str.ofString "a", Str.ofString "c"].any fun x => x == (⟨#[st]⟩ : Str)) = true := by subst hst; decide +kernel
      try k_fold
      repeat' (first | (k_unfold; (try dsimp only)) | (with_reducible refine execs_one ?_) | ((with_reducible show wpAny _ _ (exec _ _) _ _ _); (with_reducible rename Fr _ _ _ _ => F9); (refine st_at (s := s) F9 fun tk9 => ?_); (try k_fold); walk1) | (k_end; wrow_close) | walk1 | (dsimp only; walk1) | (leave1; try dsimp only) | fail "no step")
      all_goals ((with_reducible rename Fr _ _ _ _ => F9); (with_reducible rename News _ _ _ _ => N9))
      all_goals (subst hRR; refine hB _ ?_; exact tail _ _ _ _ _ _ _ 0 _ _ _ T0 G (Fr_put (Fr_put F9 rfl) rfl) N9 (by first | walk_at "om" | (simp; done)) (if_neg hq0).symm rfl hl hps)
  
  | cons c l =>
    rw [hl] at hr
    obtain ⟨hp, hc, hl'⟩ := at_ hl
    obtain ⟨r1, r2⟩ := rd_cons hp hc
    rw [r1] at hy
    rw [r2] at hps2
    subst hy
    replace hps2 := hps2.symm
    subst hps2
    have hA : c ∈ AL := rt_al hr
    have f0 : ((⟨#[c]⟩ : Str).length : Int) ≠ 0 := by show ((1 : Nat) : Int) ≠ 0; decide
    have f2 : (Builtin.Str.occurrences (Str.ofString "") (⟨#[c]⟩ : Str) 0 (Str.ofString "").length 1).isEmpty = true := (al_facts _ hA).2.1
    have f3 : (Builtin.Str.occurrences (Str.ofString "\\") (⟨#[c]⟩ : Str) 0 (Str.ofString "\\").length 1).isEmpty = true := (al_facts _ hA).2.2
    rcases rt_cons hr with ⟨hst, hL, hr'⟩ | ⟨hst, h39, hr'⟩ | ⟨hst, h32, hq0, hRR⟩ | ⟨hst, hL, hr'⟩ | ⟨hst, hcc, hr'⟩ | ⟨hst, rfl, hr'⟩ | ⟨hst, hne, hA', hr'⟩
    · skip
      have f4 : (Builtin.Str.occurrences (Str.ofString " \t\r\n") (⟨#[c]⟩ : Str) 0 (Str.ofString " \t\r\n").length 1).isEmpty = true := (lett_facts _ hA hL).1
      have f5 : (Builtin.Str.occurrences (Str.ofString "'\"") (⟨#[c]⟩ : Str) 0 (Str.ofString "'\"").length 1).isEmpty = true := (lett_facts _ hA hL).2.1
      have f6 : (Builtin.Str.occurrences (Str.ofString "abcdfeghijklmnopqrstuvwxyzABCDEFGHIJKLMNOPQRSTUVWXYZ0123456789_ßàáâãäåæçèéêëìíîïðñòóôõöøùúûüýþÿÀÁÂÃÄÅÆÇÈÉÊËÌÍÎÏÐÑÒÓÔÕÖØÙÚÛÜÝÞ") (⟨#[c]⟩ : Str) 0 (Str.ofString "abcdfeghijklmnopqrstuvwxyzABCDEFGHIJKLMNOPQRSTUVWXYZ0123456789_ßàáâãäåæçèéêëìíîïðñòóôõöøùúûüýþÿÀÁÂÃÄÅÆÇÈÉÊËÌÍÎÏÐÑÒÓÔÕÖØÙÚÛÜÝÞ").length 1).isEmpty = false := (lett_facts _ hA hL).2.2
      have g1 : ((⟨#[st]⟩ : Str) == Str.ofString " ") = true := by subst hst; decide +kernel
      try k_fold
      repeat' (first | (k_unfold; (try dsimp only)) | (with_reducible refine execs_one ?_) | ((with_reducible show wpAny _ _ (exec _ _) _ _ _); (with_reducible rename Fr _ _ _ _ => F9); (refine st_at (s := s) F9 fun tk9 => ?_); (try k_fold); walk1) | (k_end; wrow_close) | walk1 | (dsimp only; walk1) | (leave1; try dsimp only) | fail "no step")
      · (with_reducible rename Fr _ _ _ _ => F9); (with_reducible rename News _ _ _ _ => N9)
        rw [st_a] at N9
        first | refine hN _ ?_ | refine hC _ ?_
        exact ⟨(97, [c], q, ps + 1), by dsimp only; walk_at "om", _, _, rfl, _, _, _, _, _, _, T0, G, (Fr_put (Fr_put (Fr_put F9 rfl) rfl) rfl), by first | exact N9 | exact fun p hp => N9 p (.tail _ hp), by dsimp only; rw [hl']; (first | exact hr' | (rw [hst]; exact hr') | (rw [h39]; exact hr')), by dsimp only; walk_at "om", by dsimp only; first | walk_at "om" | (simp; done) | (simp; walk_at "om")⟩
  
    · skip
      have g1 : ((⟨#[st]⟩ : Str) == Str.ofString " ") = true := by subst hst; decide +kernel
      have f4 : (Builtin.Str.occurrences (Str.ofString " \t\r\n") (⟨#[c]⟩ : Str) 0 (Str.ofString " \t\r\n").length 1).isEmpty = true := (quo_facts c (by subst h39; decide)).1
      have f5 : (Builtin.Str.occurrences (Str.ofString "abcdfeghijklmnopqrstuvwxyzABCDEFGHIJKLMNOPQRSTUVWXYZ0123456789_ßàáâãäåæçèéêëìíîïðñòóôõöøùúûüýþÿÀÁÂÃÄÅÆÇÈÉÊËÌÍÎÏÐÑÒÓÔÕÖØÙÚÛÜÝÞ") (⟨#[c]⟩ : Str) 0 (Str.ofString "abcdfeghijklmnopqrstuvwxyzABCDEFGHIJKLMNOPQRSTUVWXYZ0123456789_ßàáâãäåæçèéêëìíîïðñòóôõöøùúûüýþÿÀÁÂÃÄÅÆÇÈÉÊËÌÍÎÏÐÑÒÓÔÕÖØÙÚÛÜÝÞ").length 1).isEmpty = true := (quo_facts c (by subst h39; decide)).2.1
      have f6 : (Builtin.Str.occurrences (Str.ofString "'\"") (⟨#[c]⟩ : Str) 0 (Str.ofString "'\"").length 1).isEmpty = false := (quo_facts c (by subst h39; decide)).2.2
      try k_fold
      repeat' (first | (k_unfold; (try dsimp only)) | (with_reducible refine execs_one ?_) | ((with_reducible show wpAny _ _ (exec _ _) _ _ _); (with_reducible rename Fr _ _ _ _ => F9); (refine st_at (s := s) F9 fun tk9 => ?_); (try k_fold); walk1) | (k_end; wrow_close) | walk1 | (dsimp only; walk1) | (leave1; try dsimp only) | fail "no step")
      · (with_reducible rename Fr _ _ _ _ => F9); (with_reducible rename News _ _ _ _ => N9)
        first | refine hN _ ?_ | refine hC _ ?_
        exact ⟨(c, tok, q, ps + 1), by dsimp only; walk_at "om", _, _, rfl, _, _, _, _, _, _, T0, G, (Fr_put (Fr_put (Fr_put F9 rfl) rfl) rfl), by first | exact N9 | exact fun p hp => N9 p (.tail _ hp), by dsimp only; rw [hl']; (first | exact hr' | (rw [hst]; exact hr') | (rw [h39]; exact hr')), by dsimp only; walk_at "om", by dsimp only; first | walk_at "om" | (simp; done) | (simp; walk_at "om")⟩
  
    · by_cases ht : tok = []
      · have hqt : q = true := by cases q <;> simp_all
        subst hqt ht
        have g1 : ((⟨#[st]⟩ : Str) == Str.ofString " ") = false := by subst hst; decide +kernel
        have g2 : (Builtin.Str.occurrences (Str.ofString "'\"") (⟨#[st]⟩ : Str) 0 (Str.ofString "'\"").length 1).isEmpty = true := by subst hst; decide +kernel
        have g3 : (Builtin.Str.occurrences (Str.ofString "\\") (⟨#[st]⟩ : Str) 0 (Str.ofString "\\").length 1).isEmpty = true := by subst hst; decide +kernel
        have g4 : ((⟨#[st]⟩ : Str) == Str.ofString "a") = true := by subst hst; decide +kernel
        have g5 : ((⟨#[st]⟩ : Str) == Str.ofString "c") = false := by subst hst; decide +kernel
        have g8 : ([Str.ofString "a", Str.ofString "c"].any fun x => x == (⟨#[st]⟩ : Str)) = true := by subst hst; decide +kernel
        have f4 : (Builtin.Str.occurrences (Str.ofString " \t\r\n") (⟨#[c]⟩ : Str) 0 (Str.ofString " \t\r\n").length 1).isEmpty = false := by subst h32; exact spc_facts
        try k_fold
        repeat' (first | (k_unfold; (try dsimp only)) | (with_reducible refine execs_one ?_) | ((with_reducible show wpAny _ _ (exec _ _) _ _ _); (with_reducible rename Fr _ _ _ _ => F9); (refine st_at (s := s) F9 fun tk9 => ?_); (try k_fold); walk1) | (k_end; wrow_close) | walk1 | (dsimp only; walk1) | (leave1; try dsimp only) | fail "no step")
        all_goals ((with_reducible rename Fr _ _ _ _ => F9); (with_reducible rename News _ _ _ _ => N9))
        all_goals (rw [st_s] at N9)
        all_goals (subst hRR; refine hB _ ?_; exact tail _ _ _ _ _ _ _ _ _ _ _ T0 G (Fr_put (Fr_put F9 rfl) rfl) N9 (by first | walk_at "om" | (simp; done)) (if_neg hq0).symm rfl hl' (by walk_at "om"))
    
      · skip
        have g1 : ((⟨#[st]⟩ : Str) == Str.ofString " ") = false := by subst hst; decide +kernel
        have g2 : (Builtin.Str.occurrences (Str.ofString "'\"") (⟨#[st]⟩ : Str) 0 (Str.ofString "'\"").length 1).isEmpty = true := by subst hst; decide +kernel
        have g3 : (Builtin.Str.occurrences (Str.ofString "\\") (⟨#[st]⟩ : Str) 0 (Str.ofString "\\").length 1).isEmpty = true := by subst hst; decide +kernel
        have g4 : ((⟨#[st]⟩ : Str) == Str.ofString "a") = true := by subst hst; decide +kernel
        have g5 : ((⟨#[st]⟩ : Str) == Str.ofString "c") = false := by subst hst; decide +kernel
        have g8 : ([Str.ofString "a", Str.ofString "c"].any fun x => x == (⟨#[st]⟩ : Str)) = true := by subst hst; decide +kernel
        have f4 : (Builtin.Str.occurrences (Str.ofString " \t\r\n") (⟨#[c]⟩ : Str) 0 (Str.ofString " \t\r\n").length 1).isEmpty = false := by subst h32; exact spc_facts
        have f6 : ((⟨tok.toArray⟩ : Str) == Str.ofString "") = false := tok_ne ht
        try k_fold
        repeat' (first | (k_unfold; (try dsimp only)) | (with_reducible refine execs_one ?_) | ((with_reducible show wpAny _ _ (exec _ _) _ _ _); (with_reducible rename Fr _ _ _ _ => F9); (refine st_at (s := s) F9 fun tk9 => ?_); (try k_fold); walk1) | (k_end; wrow_close) | walk1 | (dsimp only; walk1) | (leave1; try dsimp only) | fail "no step")
        all_goals ((with_reducible rename Fr _ _ _ _ => F9); (with_reducible rename News _ _ _ _ => N9))
        all_goals (rw [st_s] at N9)
        all_goals (subst hRR; refine hB _ ?_; exact tail _ _ _ _ _ _ _ _ _ _ _ T0 G (Fr_put (Fr_put F9 rfl) rfl) N9 (by first | walk_at "om" | (simp; done)) (if_neg hq0).symm rfl hl' (by walk_at "om"))
    

    · skip
      have g1 : ((⟨#[st]⟩ : Str) == Str.ofString " ") = false := by subst hst; decide +kernel
      have g2 : (Builtin.Str.occurrences (Str.ofString "'\"") (⟨#[st]⟩ : Str) 0 (Str.ofString "'\"").length 1).isEmpty = true := by subst hst; decide +kernel
      have g3 : (Builtin.Str.occurrences (Str.ofString "\\") (⟨#[st]⟩ : Str) 0 (Str.ofString "\\").length 1).isEmpty = true := by subst hst; decide +kernel
      have g4 : ((⟨#[st]⟩ : Str) == Str.ofString "a") = true := by subst hst; decide +kernel
      have g5 : ((⟨#[st]⟩ : Str) == Str.ofString "c") = false := by subst hst; decide +kernel
      have g8 : ([Str.ofString "a", Str.ofString "c"].any fun x => x == (⟨#[st]⟩ : Str)) = true := by subst hst; decide +kernel
      have f4 : (Builtin.Str.occurrences (Str.ofString " \t\r\n") (⟨#[c]⟩ : Str) 0 (Str.ofString " \t\r\n").length 1).isEmpty = true := (lett_facts _ hA hL).1
      have f5 : (Builtin.Str.occurrences (Str.ofString "'\"") (⟨#[c]⟩ : Str) 0 (Str.ofString "'\"").length 1).isEmpty = true := (lett_facts _ hA hL).2.1
      have f6 : (Builtin.Str.occurrences (Str.ofString "abcdfeghijklmnopqrstuvwxyzABCDEFGHIJKLMNOPQRSTUVWXYZ0123456789_ßàáâãäåæçèéêëìíîïðñòóôõöøùúûüýþÿÀÁÂÃÄÅÆÇÈÉÊËÌÍÎÏÐÑÒÓÔÕÖØÙÚÛÜÝÞ") (⟨#[c]⟩ : Str) 0 (Str.ofString "abcdfeghijklmnopqrstuvwxyzABCDEFGHIJKLMNOPQRSTUVWXYZ0123456789_ßàáâãäåæçèéêëìíîïðñòóôõöøùúûüýþÿÀÁÂÃÄÅÆÇÈÉÊËÌÍÎÏÐÑÒÓÔÕÖØÙÚÛÜÝÞ").length 1).isEmpty = false := (lett_facts _ hA hL).2.2
      try k_fold
      repeat' (first | (k_unfold; (try dsimp only)) | (with_reducible refine execs_one ?_) | ((with_reducible show wpAny _ _ (exec _ _) _ _ _); (with_reducible rename Fr _ _ _ _ => F9); (refine st_at (s := s) F9 fun tk9 => ?_); (try k_fold); walk1) | (k_end; wrow_close) | walk1 | (dsimp only; walk1) | (leave1; try dsimp only) | fail "no step")
      · (with_reducible rename Fr _ _ _ _ => F9); (with_reducible rename News _ _ _ _ => N9)
        rw [tok_app] at N9
        first | refine hN _ ?_ | refine hC _ ?_
        exact ⟨(st, tok ++ [c], q, ps + 1), by dsimp only; walk_at "om", _, _, rfl, _, _, _, _, _, _, T0, G, (Fr_put (Fr_put (Fr_put F9 rfl) rfl) rfl), by first | exact N9 | exact fun p hp => N9 p (.tail _ hp), by dsimp only; rw [hl']; (first | exact hr' | (rw [hst]; exact hr') | (rw [h39]; exact hr')), by dsimp only; walk_at "om", by dsimp only; first | walk_at "om" | (simp; done) | (simp; walk_at "om")⟩
  
    · skip
      have g1 : ((⟨#[st]⟩ : Str) == Str.ofString " ") = false := by subst hst; decide +kernel
      have g2 : (Builtin.Str.occurrences (Str.ofString "'\"") (⟨#[st]⟩ : Str) 0 (Str.ofString "'\"").length 1).isEmpty = true := by subst hst; decide +kernel
      have g3 : (Builtin.Str.occurrences (Str.ofString "\\") (⟨#[st]⟩ : Str) 0 (Str.ofString "\\").length 1).isEmpty = true := by subst hst; decide +kernel
      have g4 : ((⟨#[st]⟩ : Str) == Str.ofString "a") = true := by subst hst; decide +kernel
      have g5 : ((⟨#[st]⟩ : Str) == Str.ofString "c") = false := by subst hst; decide +kernel
      have g8 : ([Str.ofString "a", Str.ofString "c"].any fun x => x == (⟨#[st]⟩ : Str)) = true := by subst hst; decide +kernel
      have f4 : (Builtin.Str.occurrences (Str.ofString " \t\r\n") (⟨#[c]⟩ : Str) 0 (Str.ofString " \t\r\n").length 1).isEmpty = true := (quo_facts c (by rcases hcc with rfl | rfl <;> decide)).1
      have f5 : (Builtin.Str.occurrences (Str.ofString "abcdfeghijklmnopqrstuvwxyzABCDEFGHIJKLMNOPQRSTUVWXYZ0123456789_ßàáâãäåæçèéêëìíîïðñòóôõöøùúûüýþÿÀÁÂÃÄÅÆÇÈÉÊËÌÍÎÏÐÑÒÓÔÕÖØÙÚÛÜÝÞ") (⟨#[c]⟩ : Str) 0 (Str.ofString "abcdfeghijklmnopqrstuvwxyzABCDEFGHIJKLMNOPQRSTUVWXYZ0123456789_ßàáâãäåæçèéêëìíîïðñòóôõöøùúûüýþÿÀÁÂÃÄÅÆÇÈÉÊËÌÍÎÏÐÑÒÓÔÕÖØÙÚÛÜÝÞ").length 1).isEmpty = true := (quo_facts c (by rcases hcc with rfl | rfl <;> decide)).2.1
      have f6 : (Builtin.Str.occurrences (Str.ofString "'\"") (⟨#[c]⟩ : Str) 0 (Str.ofString "'\"").length 1).isEmpty = false := (quo_facts c (by rcases hcc with rfl | rfl <;> decide)).2.2
      try k_fold
      repeat' (first | (k_unfold; (try dsimp only)) | (with_reducible refine execs_one ?_) | ((with_reducible show wpAny _ _ (exec _ _) _ _ _); (with_reducible rename Fr _ _ _ _ => F9); (refine st_at (s := s) F9 fun tk9 => ?_); (try k_fold); walk1) | (k_end; wrow_close) | walk1 | (dsimp only; walk1) | (leave1; try dsimp only) | fail "no step")
      · (with_reducible rename Fr _ _ _ _ => F9); (with_reducible rename News _ _ _ _ => N9)
        first | refine hN _ ?_ | refine hC _ ?_
        exact ⟨(c, tok, q, ps + 1), by dsimp only; walk_at "om", _, _, rfl, _, _, _, _, _, _, T0, G, (Fr_put (Fr_put (Fr_put F9 rfl) rfl) rfl), by first | exact N9 | exact fun p hp => N9 p (.tail _ hp), by dsimp only; rw [hl']; (first | exact hr' | (rw [hst]; exact hr') | (rw [h39]; exact hr')), by dsimp only; walk_at "om", by dsimp only; first | walk_at "om" | (simp; done) | (simp; walk_at "om")⟩
  
    · skip
      have g1 : ((⟨#[c]⟩ : Str) == Str.ofString " ") = false := by rcases hst with rfl | rfl <;> decide +kernel
      have g2 : (Builtin.Str.occurrences (Str.ofString "'\"") (⟨#[c]⟩ : Str) 0 (Str.ofString "'\"").length 1).isEmpty = false := by rcases hst with rfl | rfl <;> decide +kernel
      have g6 : c ∈ AL := by rcases hst with rfl | rfl <;> decide
      have g7 : ((⟨#[c]⟩ : Str) == (⟨#[c]⟩ : Str)) = true := beq_self_eq_true _
      try k_fold
      repeat' (first | (k_unfold; (try dsimp only)) | (with_reducible refine execs_one ?_) | ((with_reducible show wpAny _ _ (exec _ _) _ _ _); (with_reducible rename Fr _ _ _ _ => F9); (refine st_at (s := s) F9 fun tk9 => ?_); (try k_fold); walk1) | (k_end; wrow_close) | walk1 | (dsimp only; walk1) | (leave1; try dsimp only) | fail "no step")
      · (with_reducible rename Fr _ _ _ _ => F9); (with_reducible rename News _ _ _ _ => N9)
        rw [st_a] at N9
        first | refine hN _ ?_ | refine hC _ ?_
        exact ⟨(97, tok, true, ps + 1), by dsimp only; walk_at "om", _, _, rfl, _, _, _, _, _, _, T0, G, (Fr_put (Fr_put (Fr_put F9 rfl) rfl) rfl), by first | exact N9 | exact fun p hp => N9 p (.tail _ hp), by dsimp only; rw [hl']; (first | exact hr' | (rw [hst]; exact hr') | (rw [h39]; exact hr')), by dsimp only; walk_at "om", by dsimp only; first | walk_at "om" | (simp; done) | (simp; walk_at "om")⟩
  
    · skip
      have g1 : ((⟨#[st]⟩ : Str) == Str.ofString " ") = false := by rcases hst with rfl | rfl <;> decide +kernel
      have g2 : (Builtin.Str.occurrences (Str.ofString "'\"") (⟨#[st]⟩ : Str) 0 (Str.ofString "'\"").length 1).isEmpty = false := by rcases hst with rfl | rfl <;> decide +kernel
      have g6 : st ∈ AL := by rcases hst with rfl | rfl <;> decide
      have g7 : ((⟨#[c]⟩ : Str) == (⟨#[st]⟩ : Str)) = false := al_ne _ hA _ g6 hne
      try k_fold
      repeat' (first | (k_unfold; (try dsimp only)) | (with_reducible refine execs_one ?_) | ((with_reducible show wpAny _ _ (exec _ _) _ _ _); (with_reducible rename Fr _ _ _ _ => F9); (refine st_at (s := s) F9 fun tk9 => ?_); (try k_fold); walk1) | (k_end; wrow_close) | walk1 | (dsimp only; walk1) | (leave1; try dsimp only) | fail "no step")
      · (with_reducible rename Fr _ _ _ _ => F9); (with_reducible rename News _ _ _ _ => N9)
        rw [tok_app] at N9
        first | refine hN _ ?_ | refine hC _ ?_
        exact ⟨(st, tok ++ [c], true, ps + 1), by dsimp only; walk_at "om", _, _, rfl, _, _, _, _, _, _, T0, G, (Fr_put (Fr_put (Fr_put F9 rfl) rfl) rfl), by first | exact N9 | exact fun p hp => N9 p (.tail _ hp), by dsimp only; rw [hl']; (first | exact hr' | (rw [hst]; exact hr') | (rw [h39]; exact hr')), by dsimp only; walk_at "om", by dsimp only; first | walk_at "om" | (simp; done) | (simp; walk_at "om")⟩
  


end Mine

end
section
open PySem PySem.W PyProof.Rows PySem.Calls
set_option Elab.async false
set_option maxRecDepth 100000
set_option maxHeartbeats 0
namespace Mine


theorem Spec.mono {prog : Program} {w : World} {K : Frag} {f : Addr} {vs : List Value} {d u : Nat} {news : List (Addr × Obj)} {Post Post' : Value → List (Addr × Obj) → Prop} (H : Spec prog w K f vs d u news Post) (h : ∀ v n, Post v n → Post' v n) :
    Spec prog w K f vs d u news Post' := fun p loose mean mg mb dp un gd cn cs a ccd cl outer A₀ base h₀ L m s R G F N hk hd hu k =>
  H p loose mean mg mb dp un gd cn cs a ccd cl outer A₀ base h₀ L m s R G F N hk hd hu fun v g' h' tk' news' G' T' F' N' O' P' => k v g' h' tk' news' G' T' F' N' O' (h v news' P')

theorem c_gtE {w : World}  {ks vt : Nat → Tok} {k1 k2 k3 t1 t2 t3 : Tok} {lx ld sx sd pb fs : Addr} {x : Str} {ps : Nat} {rest : List (Addr × Obj)} {u2 : Tok} {stv : Value} (H : Spec PySem.Challenge.pw_oc0261_02 w (Mine.K1 w.params) 700 [.ref lx] (30 + 1) (300 + 8) (lexL w ks vt k1 k2 k3 t1 t2 t3 lx ld sx sd pb fs (stv) (.str (Str.ofString "") u2) x (ps) ((pb, dqObj none) :: (fs, dqObj none) :: rest)) (fun v news' => ∃ u2 t3, v = .none ∧ news' = (lexL w ks vt k1 k2 k3 t1 t2 t3 lx ld sx sd pb fs (.none) (.str (Str.ofString "") u2) x (x.length) ((pb, dqObj none) :: (fs, dqObj none) :: rest)))) : Spec PySem.Challenge.pw_oc0261_02 w (Mine.K1 w.params) 693 [.ref lx] (40 + 1) (400 + 8) (lexL w ks vt k1 k2 k3 t1 t2 t3 lx ld sx sd pb fs (stv) (.str (Str.ofString "") u2) x (ps) ((pb, dqObj none) :: (fs, dqObj none) :: rest)) (fun v news' => ∃ u2 t3, v = .none ∧ news' = (lexL w ks vt k1 k2 k3 t1 t2 t3 lx ld sx sd pb fs (.none) (.str (Str.ofString "") u2) x (x.length) ((pb, dqObj none) :: (fs, dqObj none) :: rest))) := by
  refine (?_ : PySem.Challenge.rw_oc0261_02 = PySem.Challenge.rw_oc0261_02 → (Mine.K1 w.params) = (Mine.K1 w.params) → _) rfl rfl
  k_fill
  intro _ _
  refine spec_of (binds := [(Str.ofString "self", .ref lx)]) (by k_is) (by k_is) (fun _ _ => by first | exact BindsTo.of_eq rfl | (refine binds_K (by assumption) rfl (by k_is) rfl rfl rfl)) (locs rfl) rfl rfl rfl (by decide) ?_
  intro p loose mean mg mb dp un gd A₀ base g outer L1 s Q hdp hun G F1 N1 hq
  k_with_none
  have XB := G.XB
  have TB := G.TB.toTopRead
  have D1 := G.D
  have B1 := G.B
  have X1 := G.X
  have T1 := G.T.toTopRead
  have T0 : KtsTurn (fsOf outer) g g := KtsTurn.refl
  obtain ⟨m0, F1⟩ : ∃ m0, Fr g L1 _ (put "self" (.ref lx) m0) := ⟨_, (Fr_put (x := "self") F1 rfl)⟩
  k_with "call ref nil" => ((with_reducible rename Fr _ _ _ _ => F9); (with_reducible rename News _ _ _ _ => N9); (first | refine (H).call G F9 N9 rfl (by walk_at "om") (by walk_at "om") ?_); clear G B1 X1 T1 D1 F9 N9; intro v9 g9 hh9 tk9 news9 G T8 F8 N8 P8; replace T0 := KtsTurn.trans T0 T8; clear T8; (obtain ⟨u2', t3', e8, e9⟩ := P8; subst e8 e9); have D1 := G.D; have B1 := G.B; have X1 := G.X; have T1 := G.T.toTopRead)
  k_with "truthy ref" => ((with_reducible rename News _ _ _ _ => N9); refine dq_truthy (d := none) (N9 (_, _) (by repeat (first | assumption | exact List.Mem.head _ | apply List.Mem.tail))).1 ?_)
  repeat (first | (k_unfold; (try dsimp only)) | (with_reducible refine execs_one ?_) | ((fail_if_success (with_reducible show wpAny _ _ (exec (Stmt.While _ _ _ _) _) _ _ _)); walk1))
  refine wp_while (fun (d : Unit) h => ∃ m0, Fr g9 L1 h (put "self" (.ref lx) (put "raw" .none m0)) ∧ News g9 L1 h (lexL w ks vt k1 k2 k3 t1 t2 t3' lx ld sx sd pb fs (.none) (.str (Str.ofString "") u2') x (x.length) ((pb, dqObj none) :: (fs, dqObj none) :: rest))) (fun d => 0) () ?_ ?_
  · (with_reducible rename Fr _ _ _ _ => F9); (with_reducible rename News _ _ _ _ => N9)
    exact ⟨_, Fr_put (Fr_put F9 rfl) rfl, N9⟩
  (with_reducible rename Fr _ _ _ _ => F9); (with_reducible rename News _ _ _ _ => N9); clear F9 N9
  rintro ⟨⟩ h tk ⟨m0, F2, N2⟩
  repeat ((fail_if_success (with_reducible show _ ∧ _)); walk1)
  refine ⟨fun _ => ?_, fun e => (by cases e)⟩
  repeat' (first | (k_unfold; (try dsimp only)) | (with_reducible refine execs_one ?_) | ((with_reducible show wpAny _ _ (exec _ _) _ _ _); (with_reducible rename Fr _ _ _ _ => F9); (refine st_at (s := s) F9 fun tk9 => ?_); (try k_fold); walk1) | (k_end; wrow_close) | walk1 | (dsimp only; walk1) | (leave1; try dsimp only) | fail "no step")
  (with_reducible rename Fr _ _ _ _ => F9); (with_reducible rename News _ _ _ _ => N9)
  exact hq _ _ _ _ _ _ T0 F9 N9 ⟨_, _, rfl, rfl⟩


end Mine

end
section
open PySem PySem.W PyProof.Rows PySem.Calls
set_option Elab.async false
set_option maxRecDepth 100000
set_option maxHeartbeats 0
namespace Mine


theorem c_gtT {w : World}  {ks vt : Nat → Tok} {k1 k2 k3 t1 t2 t3 : Tok} {lx ld sx sd pb fs : Addr} {x : Str} {ps : Nat} {rest : List (Addr × Obj)} {u1 u2 : Tok} (hx : x.length < 1000000) (h1 : sx ≠ sd) (h2 : sd ≠ sx) (h3 : lx ≠ sd) (h4 : ld ≠ sd) (h5 : sx ≠ ld) (h6 : sd ≠ ld) (h7 : lx ≠ ld) (h8 : ∀ q ∈ ((pb, dqObj none) :: (fs, dqObj none) :: rest), q.1 ≠ sd) (h9 : ∀ q ∈ ((pb, dqObj none) :: (fs, dqObj none) :: rest), q.1 ≠ ld) {wd : List Nat} {R : Option Nat × List Nat} (hp0 : ps ≤ x.length) (hR : rt (x.cps.toList.drop ps) 32 [] false = some (some wd, R)) : Spec PySem.Challenge.pw_oc0261_02 w (Mine.K1 w.params) 693 [.ref lx] (40 + 1) (400 + 8) (lexL w ks vt k1 k2 k3 t1 t2 t3 lx ld sx sd pb fs (.str (Str.ofString " ") u1) (.str (Str.ofString "") u2) x (ps) ((pb, dqObj none) :: (fs, dqObj none) :: rest)) (fun v news' => ∃ ps' u1 u2 t3 u, v = .str ⟨wd.toArray⟩ u ∧ news' = (lexL w ks vt k1 k2 k3 t1 t2 t3 lx ld sx sd pb fs (match R.1 with | none => .none | some c => .str ⟨#[c]⟩ u1) (.str (Str.ofString "") u2) x (ps') ((pb, dqObj none) :: (fs, dqObj none) :: rest)) ∧ x.cps.toList.drop ps' = R.2 ∧ ps' ≤ x.length) := by
  refine (?_ : PySem.Challenge.rw_oc0261_02 = PySem.Challenge.rw_oc0261_02 → (Mine.K1 w.params) = (Mine.K1 w.params) → _) rfl rfl
  k_fill
  intro _ _
  refine spec_of (binds := [(Str.ofString "self", .ref lx)]) (by k_is) (by k_is) (fun _ _ => by first | exact BindsTo.of_eq rfl | (refine binds_K (by assumption) rfl (by k_is) rfl rfl rfl)) (locs rfl) rfl rfl rfl (by decide) ?_
  intro p loose mean mg mb dp un gd A₀ base g outer L1 s Q hdp hun G F1 N1 hq
  k_with_none
  have XB := G.XB
  have TB := G.TB.toTopRead
  have D1 := G.D
  have B1 := G.B
  have X1 := G.X
  have T1 := G.T.toTopRead
  have T0 : KtsTurn (fsOf outer) g g := KtsTurn.refl
  obtain ⟨m0, F1⟩ : ∃ m0, Fr g L1 _ (put "self" (.ref lx) m0) := ⟨_, (Fr_put (x := "self") F1 rfl)⟩
  k_with "call ref nil" => ((with_reducible rename Fr _ _ _ _ => F9); (with_reducible rename News _ _ _ _ => N9); (first | refine (c_rt hx h1 h2 h3 h4 h5 h6 h7 h8 h9 hp0 hR).call G F9 N9 rfl (by walk_at "om") (by walk_at "om") ?_); clear G B1 X1 T1 D1 F9 N9; intro v9 g9 hh9 tk9 news9 G T8 F8 N8 P8; replace T0 := KtsTurn.trans T0 T8; clear T8; (obtain ⟨ps', u1', u2', t3', e8, e9, hd8, hl8⟩ := P8; subst e9; dsimp only at e8; obtain ⟨u8, e8⟩ := e8; subst e8); have D1 := G.D; have B1 := G.B; have X1 := G.X; have T1 := G.T.toTopRead)
  k_with "truthy ref" => ((with_reducible rename News _ _ _ _ => N9); refine dq_truthy (d := none) (N9 (_, _) (by repeat (first | assumption | exact List.Mem.head _ | apply List.Mem.tail))).1 ?_)
  repeat (first | (k_unfold; (try dsimp only)) | (with_reducible refine execs_one ?_) | ((fail_if_success (with_reducible show wpAny _ _ (exec (Stmt.While _ _ _ _) _) _ _ _)); walk1))
  refine wp_while (fun (d : Unit) h => ∃ m0, Fr g9 L1 h (put "self" (.ref lx) (put "raw" (.str ⟨wd.toArray⟩ u8) m0)) ∧ News g9 L1 h (lexL w ks vt k1 k2 k3 t1 t2 t3' lx ld sx sd pb fs (match R.1 with | none => .none | some c => .str ⟨#[c]⟩ u1') (.str (Str.ofString "") u2') x (ps') ((pb, dqObj none) :: (fs, dqObj none) :: rest))) (fun d => 0) () ?_ ?_
  · (with_reducible rename Fr _ _ _ _ => F9); (with_reducible rename News _ _ _ _ => N9)
    exact ⟨_, Fr_put (Fr_put F9 rfl) rfl, N9⟩
  (with_reducible rename Fr _ _ _ _ => F9); (with_reducible rename News _ _ _ _ => N9); clear F9 N9
  rintro ⟨⟩ h tk ⟨m0, F2, N2⟩
  repeat ((fail_if_success (with_reducible show _ ∧ _)); walk1)
  refine ⟨fun e => (by cases e), fun _ => ?_⟩
  repeat' (first | (k_unfold; (try dsimp only)) | (with_reducible refine execs_one ?_) | ((with_reducible show wpAny _ _ (exec _ _) _ _ _); (with_reducible rename Fr _ _ _ _ => F9); (refine st_at (s := s) F9 fun tk9 => ?_); (try k_fold); walk1) | (k_end; wrow_close) | walk1 | (dsimp only; walk1) | (leave1; try dsimp only) | fail "no step")
  (with_reducible rename Fr _ _ _ _ => F9); (with_reducible rename News _ _ _ _ => N9)
  exact hq _ _ _ _ _ _ T0 F9 N9 ⟨ps', _, _, _, _, rfl, rfl, hd8, hl8⟩


end Mine

end
section
open PySem PySem.W PyProof.Rows PySem.Calls
set_option Elab.async false
set_option maxRecDepth 100000
set_option maxHeartbeats 0
namespace Mine


theorem c_nextT {w : World}  {ks vt : Nat → Tok} {k1 k2 k3 t1 t2 t3 : Tok} {lx ld sx sd pb fs : Addr} {x : Str} {ps : Nat} {rest : List (Addr × Obj)} {u1 u2 : Tok} (hx : x.length < 1000000) (h1 : sx ≠ sd) (h2 : sd ≠ sx) (h3 : lx ≠ sd) (h4 : ld ≠ sd) (h5 : sx ≠ ld) (h6 : sd ≠ ld) (h7 : lx ≠ ld) (h8 : ∀ q ∈ ((pb, dqObj none) :: (fs, dqObj none) :: rest), q.1 ≠ sd) (h9 : ∀ q ∈ ((pb, dqObj none) :: (fs, dqObj none) :: rest), q.1 ≠ ld) {wd : List Nat} {R : Option Nat × List Nat} (hp0 : ps ≤ x.length) (hR : rt (x.cps.toList.drop ps) 32 [] false = some (some wd, R)) : Spec PySem.Challenge.pw_oc0261_02 w (Mine.K1 w.params) 729 [.ref lx] (50 + 1) (500 + 8) (lexL w ks vt k1 k2 k3 t1 t2 t3 lx ld sx sd pb fs (.str (Str.ofString " ") u1) (.str (Str.ofString "") u2) x (ps) ((pb, dqObj none) :: (fs, dqObj none) :: rest)) (fun v news' => ∃ ps' u1 u2 t3 u, v = .str ⟨wd.toArray⟩ u ∧ news' = (lexL w ks vt k1 k2 k3 t1 t2 t3 lx ld sx sd pb fs (match R.1 with | none => .none | some c => .str ⟨#[c]⟩ u1) (.str (Str.ofString "") u2) x (ps') ((pb, dqObj none) :: (fs, dqObj none) :: rest)) ∧ x.cps.toList.drop ps' = R.2 ∧ ps' ≤ x.length) := by
  refine (?_ : PySem.Challenge.rw_oc0261_02 = PySem.Challenge.rw_oc0261_02 → (Mine.K1 w.params) = (Mine.K1 w.params) → _) rfl rfl
  k_fill
  intro _ _
  refine spec_of (binds := [(Str.ofString "self", .ref lx)]) (by k_is) (by k_is) (fun _ _ => by first | exact BindsTo.of_eq rfl | (refine binds_K (by assumption) rfl (by k_is) rfl rfl rfl)) (locs rfl) rfl rfl rfl (by decide) ?_
  intro p loose mean mg mb dp un gd A₀ base g outer L1 s Q hdp hun G F1 N1 hq
  k_with_none
  have XB := G.XB
  have TB := G.TB.toTopRead
  have D1 := G.D
  have B1 := G.B
  have X1 := G.X
  have T1 := G.T.toTopRead
  have T0 : KtsTurn (fsOf outer) g g := KtsTurn.refl
  obtain ⟨m0, F1⟩ : ∃ m0, Fr g L1 _ (put "self" (.ref lx) m0) := ⟨_, (Fr_put (x := "self") F1 rfl)⟩
  k_with "call ref nil" => ((with_reducible rename Fr _ _ _ _ => F9); (with_reducible rename News _ _ _ _ => N9); (first | refine (c_gtT hx h1 h2 h3 h4 h5 h6 h7 h8 h9 hp0 hR).call G F9 N9 rfl (by walk_at "om") (by walk_at "om") ?_); clear G B1 X1 T1 D1 F9 N9; intro v9 g9 hh9 tk9 news9 G T8 F8 N8 P8; replace T0 := KtsTurn.trans T0 T8; clear T8; (obtain ⟨ps', u1', u2', t3', u8, e8, e9, hd8, hl8⟩ := P8; subst e8 e9); have D1 := G.D; have B1 := G.B; have X1 := G.X; have T1 := G.T.toTopRead)
  repeat' (first | (k_unfold; (try dsimp only)) | (with_reducible refine execs_one ?_) | ((with_reducible show wpAny _ _ (exec _ _) _ _ _); (with_reducible rename Fr _ _ _ _ => F9); (refine st_at (s := s) F9 fun tk9 => ?_); (try k_fold); walk1) | (k_end; wrow_close) | walk1 | (dsimp only; walk1) | (leave1; try dsimp only) | fail "no step")
  (with_reducible rename Fr _ _ _ _ => F9); (with_reducible rename News _ _ _ _ => N9)
  exact hq _ _ _ _ _ _ T0 F9 N9 ⟨ps', _, _, _, _, rfl, rfl, hd8, hl8⟩


end Mine

end
section
open PySem PySem.W PyProof.Rows PySem.Calls
set_option Elab.async false
namespace Mine
section
variable {K : Frag} {p : Program} {loose : List Str} {mean : ExcName → Option Value} {mg mb : Str → Option Value} {A₀ : Around} {base h₀ g g' h : Heap} {outer : List Env} {L L' a : Addr} {m m' : Str → Option Value} {news' : List (Addr × Obj)} {cn : Str} {cs : Scope} {ccd : Value}
theorem back (G : Gd K p loose mean mg mb A₀ base outer h₀) (FG : Fr h₀ L g m) (T' : KtsTurn (fsOf (envOf cn cs L a ccd :: outer)) g g') (F' : Fr g' L' h m') (N' : News g' L' h news') :
    ∃ h₀', KtsTurn (fsOf outer) h₀ h₀' ∧ Gd K p loose mean mg mb A₀ base outer h₀' ∧ Fr h₀' L h m ∧ News h₀' L h news' := by
  obtain ⟨B, X, T, XB, TB, D⟩ := G
  have st := FG.keep
  obtain ⟨oL, es, ep, hLg, hLd, hLk, hLf⟩ := FG.ns
  have hNs : ∀ (sl : Array (Option Value)) h', h'.get? L = some { oL with slots := sl } → Heap.Ns h' L m := fun sl h' e => ⟨_, es, ep, e, hLd, hLk, hLf⟩
  have nL₀ : h₀.get? L = none := kts_self FG
  obtain ⟨sl, hs⟩ := T'.up hLg
  obtain ⟨T₁, S₁⟩ := kts_turn_at (h := h) (fs := outer.filterMap (·.frame)) (g := h₀)
    (fun b hb => by
      obtain ⟨_, o, ho', _⟩ := B.frames.mem hb
      exact ⟨o, ho'⟩)
    (fun b o e nmem => F'.keep b o (T'.other b o (st b o e) (fun q => by
      rcases kts_mem q with z | z
      · rw [z, nL₀] at e
        cases e
      · exact nmem z)))
    (fun b o e hm => by
      obtain ⟨sl', hs'⟩ := T'.up (st b o e)
      exact ⟨sl', F'.keep _ _ hs'⟩)
  have B₃ : Below A₀ base outer (ktsHeap h (outer.filterMap (·.frame)) h₀) := ⟨B.stack, fun b o e => T₁.other b o (B.stays b o e) (fun hm => by
    rw [(B.frames.mem hm).1] at e
    cases e), B.frames.of_keeps fun b o e _ => by
    obtain ⟨sl', hs'⟩ := T₁.up e
    exact ⟨_, hs', rfl⟩⟩
  refine ⟨_, T₁, ⟨B₃, XB.keeps B₃.stays, TB.keeps B₃.stays, XB, TB, D.turn T₁⟩, ⟨hNs sl _ (F'.keep _ _ hs), S₁, by rw [T₁.size]; exact FG.above⟩, fun p hp => ⟨(N' p hp).1, fun q => ?_, ?_⟩⟩
  · have := (N' p hp).2.2; rw [q, hs] at this; cases this
  · refine T₁.none_ _ ?_
    cases q : h₀.get? p.1 with
    | none => rfl
    | some o =>
      obtain ⟨sl', hs'⟩ := T'.up (st _ _ q)
      have := (N' p hp).2.2
      rw [hs'] at this
      cases this
end
noncomputable def SpecX (prog : Program) (w : World) (K : Frag) (f : Addr) (vs : List Value) (d u : Nat) (news : List (Addr × Obj)) (cls : String) (Post : List (Addr × Obj) → Prop) : Prop :=
  ∀ (p : Program) (loose : List Str) (mean : ExcName → Option Value) (mg mb : Str → Option Value) (dp un : Nat) (gd : Option (List Code)) (cn : Str) (cs : Scope) (a : Addr) (ccd : Value) (outer : List Env) (A₀ : Around) (base h₀ : Heap) (L : Addr) (m : Str → Option Value) (s : Shared) (R : Result → Shared → Prop),
    Gd K p loose mean mg mb A₀ base outer h₀ → Fr h₀ L s.heap m → News h₀ L s.heap news → cs.kind = .function → dp + d < recursionLimit → un + u < cLine →
    (∀ e g' h' tk' news', Gd K p loose mean mg mb A₀ base outer g' → KtsTurn (fsOf outer) h₀ g' → HeldX g' L h' m news' e cls .none .none → Post news' → R (.error (.ref e)) { s with heap := h', toks := tk' }) →
    codeAny (model prog w) (ktrTop dp un gd cn cs L a ccd [] outer) (.call (.ref f) ⟨vs, []⟩) R s
noncomputable def BodyX (prog : Program) (w : World) (K : Frag) (d u : Nat) (news : List (Addr × Obj)) (cls : String) (Post : List (Addr × Obj) → Prop) (binds : List (Str × Value)) (body : List Stmt) (qual : Str) (scope : Scope) (f : Addr) (cdv : Value) : Prop :=
  ∀ (p : Program) (loose : List Str) (mean : ExcName → Option Value) (mg mb : Str → Option Value) (dp un : Nat) (gd : Option (List Code)) (A₀ : Around) (base g : Heap) (outer : List Env) (L : Addr) (s : Shared),
    dp + d ≤ recursionLimit → un + u ≤ cLine →
    Gd K p loose mean mg mb A₀ base outer g → Fr g L s.heap (fun y => binds.reverse.lookup y) → News g L s.heap news →
    wpAny (model prog w) (ktrTop dp un gd qual scope L f cdv [] outer) (execs body (envOf qual scope L f cdv)) (fun _ _ => False) (ExE K p loose mean mg mb A₀ base outer g L s cls (· = .none) (fun _ n => Post n)) s
theorem specx_of {prog : Program} {w : World} {K : Frag} {f : Addr} {vs : List Value} {d u : Nat} {news : List (Addr × Obj)} {cls : String} {Post : List (Addr × Obj) → Prop} {binds : List (Str × Value)}
    {name qual : Str} {params : Arguments} {body : List Stmt} {scope : Scope} {dV kV doc pm cdv ct oc : Value} {an od : Option Addr} {osl : Array (Option Value)}
    (ho : K.lookup f = some ⟨oc, od, .func (fnOf name qual params body scope dV kV doc pm an cdv ct), osl⟩) (hcd : codeIn K cdv qual = true)
    (hbind : ∀ s : Shared, K.In s.heap → BindsTo s (fnOf name qual params body scope dV kV doc pm an cdv ct) ⟨vs, []⟩ binds) (hloc : ∀ y ∈ binds, scope.names.lookup y.1 = some .local)
    (hco : scope.isCoroutine = false) (hgen : scope.isGenerator = false) (hk : scope.kind = .function) (hcell : ∀ x ∈ scope.names, x.2 ≠ .cell)
    (h : BodyX prog w K d u news cls Post binds body qual scope f cdv) : SpecX prog w K f vs (d + 1) (u + 8) news cls Post := by
  intro p loose mean mg mb dp un gd cn cs a ccd outer A₀ base h₀ L m s R G F N hck hd hu hret
  have X := G.X.keeps F.keep
  obtain ⟨FG, G1⟩ := enter_X (env := envX cn cs L a ccd []) (A := ktrTop dp un gd cn cs L a ccd [] outer) G F N rfl rfl hck
  refine codeAny_call_def (fd := fnOf name qual params body scope dV kV doc pm an cdv ct) (body := body) (binds := binds) (by show dp < recursionLimit; walk_at "om") (X _ _ ho) rfl (G.T.nolimit.keeps F.keep) (codeRec_of X hcd) rfl (hbind s X) hcell hloc (fun h₁ hns hk₁ => ?_) hco hgen hk
  have F1 : Fr (hideAll s.heap (news.map (·.1))) s.heap.objs.size h₁ (fun x => binds.reverse.lookup x) := ⟨hns, fun b o e => hk₁ b o (of_hideAll _ e), Nat.le_of_eq (hideAll_size _ _)⟩
  have N1 : News (hideAll s.heap (news.map (·.1))) s.heap.objs.size h₁ news := fun p hp => ⟨hk₁ _ _ (N p hp).1, Nat.ne_of_lt (Heap.lt_size (N p hp).1), hideAll_none _ (List.mem_map_of_mem hp)⟩
  refine wpAny_mono (h p loose mean mg mb (dp + 1) (un + 3) gd _ base _ (envX cn cs L a ccd [] :: outer) _ { s with heap := h₁, toks := s.toks + binds.length } (by walk_at "om") (by walk_at "om") G1 F1 N1) (fun _ _ x => x.elim) (fun e s' hX => ?_)
  unfold leaving
  refine wpAny_bind (ExE.note rfl hk hX fun e h2 tk g' m2 news2 ctx hv T' G' hC hJ H => ?_)
  subst hv hC
  refine flight (s := { s with heap := h2, toks := tk }) H none fun h3 H3 => ?_
  obtain ⟨F3, oe, ws, Tb, oT, ts, N3, a1, a2, a3, a4, a5, a6, a7, a8⟩ := H3
  obtain ⟨h₀', T4, G4, F4, N4⟩ := back G FG T' F3 N3
  exact hret e h₀' h3 tk news2 G4 T4 ⟨F4, oe, ws, Tb, oT, ts, N4, a1, a2, a3, a4, a5, a6, a7, a8⟩ hJ
end Mine

end
section
open PySem PySem.W PyProof.Rows PySem.Calls
set_option Elab.async false
set_option maxRecDepth 100000
set_option maxHeartbeats 0
namespace Mine


theorem c_nextE {w : World}  {ks vt : Nat → Tok} {k1 k2 k3 t1 t2 t3 : Tok} {lx ld sx sd pb fs : Addr} {x : Str} {ps : Nat} {rest : List (Addr × Obj)} {u2 : Tok} {stv : Value} (H : Spec PySem.Challenge.pw_oc0261_02 w (Mine.K1 w.params) 693 [.ref lx] (40 + 1) (400 + 8) (lexL w ks vt k1 k2 k3 t1 t2 t3 lx ld sx sd pb fs (stv) (.str (Str.ofString "") u2) x (ps) ((pb, dqObj none) :: (fs, dqObj none) :: rest)) (fun v news' => ∃ u2 t3, v = .none ∧ news' = (lexL w ks vt k1 k2 k3 t1 t2 t3 lx ld sx sd pb fs (.none) (.str (Str.ofString "") u2) x (x.length) ((pb, dqObj none) :: (fs, dqObj none) :: rest)))) : SpecX PySem.Challenge.pw_oc0261_02 w (Mine.K1 w.params) 729 [.ref lx] (50 + 1) (500 + 8) (lexL w ks vt k1 k2 k3 t1 t2 t3 lx ld sx sd pb fs (stv) (.str (Str.ofString "") u2) x (ps) ((pb, dqObj none) :: (fs, dqObj none) :: rest)) "StopIteration" (fun news' => ∃ u2 t3, news' = (lexL w ks vt k1 k2 k3 t1 t2 t3 lx ld sx sd pb fs (.none) (.str (Str.ofString "") u2) x (x.length) ((pb, dqObj none) :: (fs, dqObj none) :: rest))) := by
  refine (?_ : PySem.Challenge.rw_oc0261_02 = PySem.Challenge.rw_oc0261_02 → (Mine.K1 w.params) = (Mine.K1 w.params) → _) rfl rfl
  k_fill
  intro _ _
  refine specx_of (binds := [(Str.ofString "self", .ref lx)]) (by k_is) (by k_is) (fun _ _ => by first | exact BindsTo.of_eq rfl | (refine binds_K (by assumption) rfl (by k_is) rfl rfl rfl)) (locs rfl) rfl rfl rfl (by decide) ?_
  intro p loose mean mg mb dp un gd A₀ base g outer L1 s hdp hun G F1 N1
  k_with_none
  have XB := G.XB
  have TB := G.TB.toTopRead
  have D1 := G.D
  have B1 := G.B
  have X1 := G.X
  have T1 := G.T.toTopRead
  have T0 : KtsTurn (fsOf outer) g g := KtsTurn.refl
  obtain ⟨m0, F1⟩ : ∃ m0, Fr g L1 _ (put "self" (.ref lx) m0) := ⟨_, (Fr_put (x := "self") F1 rfl)⟩
  k_with "call ref nil" => ((with_reducible rename Fr _ _ _ _ => F9); (with_reducible rename News _ _ _ _ => N9); (first | refine (H).call G F9 N9 rfl (by walk_at "om") (by walk_at "om") ?_); clear G B1 X1 T1 D1 F9 N9; intro v9 g9 hh9 tk9 news9 G T8 F8 N8 P8; replace T0 := KtsTurn.trans T0 T8; clear T8; (obtain ⟨u2', t3', e8, e9⟩ := P8; subst e8 e9); have D1 := G.D; have B1 := G.B; have X1 := G.X; have T1 := G.T.toTopRead)
  repeat (first | (k_unfold; (try dsimp only)) | (with_reducible refine execs_one ?_) | ((fail_if_success (with_reducible show wpAny _ _ (exec (Stmt.Raise _ _ _) _) _ _ _)); walk1))
  (with_reducible rename Fr _ _ _ _ => kF)
  refine owsi_raiseC rfl (by (refine' name_B kF ?k1 ?k2 ?k3 ?k4 ?k5 ?_; (case k1 => k_asm); (case k2 => k_asm); (case k3 => k_is); (case k4 => boot_by_name); (case k5 => decide); exact ⟨rfl, rfl⟩)) ?_
  intro h8 e8 hm
  (with_reducible rename News _ _ _ _ => N9)
  exact ⟨e8, _, _, _, _, _, _, rfl, rfl, T0, G, rfl, ⟨_, _, rfl⟩, .inl (NewX.of kF N9 hm.newExc)⟩


end Mine

end
section
open PySem PySem.W PyProof.Rows PySem.Calls
set_option Elab.async false
set_option maxRecDepth 100000
set_option maxHeartbeats 0
namespace Mine


theorem c_rtN {w : World}  {ks vt : Nat → Tok} {k1 k2 k3 t1 t2 t3 : Tok} {lx ld sx sd pb fs : Addr} {x : Str} {ps : Nat} {rest : List (Addr × Obj)} {u2 : Tok} (hx : x.length < 1000000) (h1 : sx ≠ sd) (h2 : sd ≠ sx) (h3 : lx ≠ sd) (h4 : ld ≠ sd) (h5 : sx ≠ ld) (h6 : sd ≠ ld) (h7 : lx ≠ ld) (h8 : ∀ q ∈ rest, q.1 ≠ sd) (h9 : ∀ q ∈ rest, q.1 ≠ ld) (hp : ps = x.length) : Spec PySem.Challenge.pw_oc0261_02 w (Mine.K1 w.params) 700 [.ref lx] (30 + 1) (300 + 8) (lexL w ks vt k1 k2 k3 t1 t2 t3 lx ld sx sd pb fs (.none) (.str (Str.ofString "") u2) x (ps) rest) (fun v news' => ∃ u2, v = .none ∧ news' = (lexL w ks vt k1 k2 k3 t1 t2 t3 lx ld sx sd pb fs (.none) (.str (Str.ofString "") u2) x (ps) rest)) := by
  refine (?_ : PySem.Challenge.rw_oc0261_02 = PySem.Challenge.rw_oc0261_02 → (Mine.K1 w.params) = (Mine.K1 w.params) → _) rfl rfl
  k_fill
  intro _ _
  refine spec_of (binds := [(Str.ofString "self", .ref lx)]) (by k_is) (by k_is) (fun _ _ => by first | exact BindsTo.of_eq rfl | (refine binds_K (by assumption) rfl (by k_is) rfl rfl rfl)) (locs rfl) rfl rfl rfl (by decide) ?_
  intro p loose mean mg mb dp un gd A₀ base g outer L1 s Q hdp hun G F1 N1 hq
  k_with_none
  have XB := G.XB
  have TB := G.TB.toTopRead
  have D1 := G.D
  have B1 := G.B
  have X1 := G.X
  have T1 := G.T.toTopRead
  have T0 : KtsTurn (fsOf outer) g g := KtsTurn.refl
  obtain ⟨m0, F1⟩ : ∃ m0, Fr g L1 _ (put "self" (.ref lx) m0) := ⟨_, (Fr_put (x := "self") F1 rfl)⟩
  repeat (first | (k_unfold; (try dsimp only)) | (with_reducible refine execs_one ?_) | ((fail_if_success (with_reducible show wpAny _ _ (exec (Stmt.While _ _ _ _) _) _ _ _)); walk1))
  refine wp_loop (fun (d : Unit) h => ∃ g1 m0 e1 u2, KtsTurn (fsOf outer) g g1 ∧ Gd (Mine.K1 w.params) p loose mean mg mb A₀ base outer g1 ∧ Fr g1 L1 h (put "self" (.ref lx) (put "quoted" (.bool false) (put "escapedstate" (.str (Str.ofString " ") e1) m0))) ∧ News g1 L1 h (lexL w ks vt k1 k2 k3 t1 t2 t3 lx ld sx sd pb fs (.none) (.str (Str.ofString "") u2) x (ps) rest)) (fun d => 0) () ?_ ?_
  · (with_reducible rename Fr _ _ _ _ => F9); (with_reducible rename News _ _ _ _ => N9)
    exact ⟨_, _, _, _, T0, G, (Fr_put (Fr_put (Fr_put F9 rfl) rfl) rfl), N9⟩
  clear G B1 X1 T1 D1 T0
  (with_reducible rename Fr _ _ _ _ => F9); (with_reducible rename News _ _ _ _ => N9); clear F9 N9
  rintro ⟨⟩ h tk ⟨g1, m0, e1, u2, T0, G, F2, N2⟩
  have D1 := G.D
  have B1 := G.B
  have X1 := G.X
  have T1 := G.T.toTopRead
  repeat ((fail_if_success (with_reducible show _ ∧ _)); walk1)
  refine ⟨rfl, ?_⟩
  try k_fold
  k_with "call ref cons nil" => ((with_reducible rename Fr _ _ _ _ => F9); (with_reducible rename News _ _ _ _ => N9); (first | refine (c_readC hx h1 h2 (by intro q hq; rcases List.mem_cons.mp hq with rfl | hq; exact h3; rcases List.mem_cons.mp hq with rfl | hq; exact h4; exact h8 q hq) hp hc).call G F9 N9 rfl (by walk_at "om") (by walk_at "om") ?_ | refine (c_readE hx h1 h2 (by intro q hq; rcases List.mem_cons.mp hq with rfl | hq; exact h3; rcases List.mem_cons.mp hq with rfl | hq; exact h4; exact h8 q hq) hp).call G F9 N9 rfl (by walk_at "om") (by walk_at "om") ?_); clear G B1 X1 T1 D1 F9 N9; intro v9 g9 hh9 tk9 news9 G T8 F8 N8 P8; replace T0 := KtsTurn.trans T0 T8; clear T8; (first | (obtain ⟨e9, t9, rfl⟩ := P8; subst e9) | (obtain ⟨e9, e8⟩ := P8; subst e9 e8) | (obtain ⟨t4, u4, e9, e8⟩ := P8; subst e9 e8)); have D1 := G.D; have B1 := G.B; have X1 := G.X; have T1 := G.T.toTopRead)
  k_with "getAttr ref true" => ((with_reducible show wpAny _ _ (getAttr (Value.ref _) (PySem.Str.ofString "punctuation_chars") _) _ _ _); (with_reducible rename Fr _ _ _ _ => F9); (with_reducible rename News _ _ _ _ => N9); refine (c_punct).prop G F9 N9 rfl (by walk_at "om") (by walk_at "om") (by k_inst) (by k_is) (by k_is) (by k_is) (by k_is) (by k_is) (by k_is) (by rintro v n' ⟨_, u, rfl⟩; rfl) ?_; clear G B1 X1 T1 D1 F9 N9; intro v9 g9 hh9 tk9 news9 G T8 F8 N8 P8; replace T0 := KtsTurn.trans T0 T8; clear T8; (first | (obtain ⟨e9, t9, rfl⟩ := P8; subst e9) | (obtain ⟨e9, e8⟩ := P8; subst e9 e8) | (obtain ⟨t4, u4, e9, e8⟩ := P8; subst e9 e8)); have D1 := G.D; have B1 := G.B; have X1 := G.X; have T1 := G.T.toTopRead)
  k_with "setAttr ref" => ((with_reducible rename Fr _ _ _ _ => F9); (with_reducible rename News _ _ _ _ => N9); (first | refine set_state F9 X1 N9 h5 h6 h7 h9 k_setA.1 ?_ | refine set_token F9 X1 N9 h5 h6 h7 h9 k_setA.2 ?_ | refine set_state F9 X1 N9.less1 h5 h6 h7 h9 k_setA.1 ?_ | refine set_token F9 X1 N9.less1 h5 h6 h7 h9 k_setA.2 ?_); intro hh9 F8 N8; clear F9 N9; (try k_sweep))
  k_with "isTrue" => (first | ((with_reducible rename Fr _ _ _ _ => F9); (with_reducible rename News _ _ _ _ => N9); refine' lt_bool ?yB ?ya ?yl ?_; (case yB => with_unfolding_all exact ⟨F9, X1, N9, rfl, rfl, rfl, rfl⟩); (case ya => with_reducible first | exact k_lexA.1 | exact k_lexA.2.1 | exact k_lexA.2.2.1 | exact k_lexA.2.2.2.1 | exact k_lexA.2.2.2.2.1 | exact k_lexA.2.2.2.2.2.1 | exact k_lexA.2.2.2.2.2.2.1 | exact k_lexA.2.2.2.2.2.2.2.1 | exact k_lexA.2.2.2.2.2.2.2.2.1 | exact k_lexA.2.2.2.2.2.2.2.2.2.1 | exact k_lexA.2.2.2.2.2.2.2.2.2.2.1 | exact k_lexA.2.2.2.2.2.2.2.2.2.2.2); (case yl => k_get); intro tk9) | ((with_reducible rename Fr _ _ _ _ => F9); refine' lt_chr F9 ?yk ?yo ?yx ?ym ?yd ?_; (case yk => with_unfolding_all exact rfl); (case yo => with_unfolding_all exact rfl); (case yx => with_unfolding_all exact rfl); (case ym => with_unfolding_all exact rfl); (case yd => with_unfolding_all decide); intro tk9))
  repeat' (first | (k_unfold; (try dsimp only)) | (with_reducible refine execs_one ?_) | ((with_reducible show wpAny _ _ (exec _ _) _ _ _); (with_reducible rename Fr _ _ _ _ => F9); (refine st_at (s := s) F9 fun tk9 => ?_); (try k_fold); walk1) | (k_end; wrow_close) | walk1 | (dsimp only; walk1) | (leave1; try dsimp only) | fail "no step")
  (with_reducible rename Fr _ _ _ _ => F9); (with_reducible rename News _ _ _ _ => N9)
  exact hq _ _ _ _ _ _ T0 F9 N9 ⟨_, rfl, rfl⟩


end Mine

end
section
open PySem PySem.W PyProof.Rows PySem.Calls
set_option Elab.async false
set_option maxRecDepth 100000
namespace Mine
section
variable {prog : Program} {w : World} {A : Around} {R : Result → Shared → Prop} {x S : Addr} {res : Value}
theorem ext_loop {D : Type} (J : D → Shared → Prop) (sz : D → Nat)
    (step : ∀ d s, J d s → wpAny (model prog w) A.in1 (pyNext (.ref x)) (fun r s' => match r with
      | none => R (.ok (.ret res)) s'
      | some v => wpAny (model prog w) A.in1 (updateSeq S (·.push v)) (fun _ s'' => ∃ d', sz d' < sz d ∧ J d' s'') (fun e s'' => R (.error e) s'') s') (fun e s' => R (.error e) s') s) :
    ∀ (n : Nat) (d : D) (s : Shared), sz d < n → J d s → codeAny (model prog w) A (.builtin "list.extend.loop" ⟨[.ref S, .ref x, res], []⟩) R s := by
  intro n
  induction n with
  | zero => intro d s h; walk_at "om"
  | succ n ih =>
    intro d s h hJ
    refine codeAny_builtin F.entry_extend_loop ?_
    rw [Around.under_plainId F.plain_extend_loop _]
    show wpAny _ A.in1 (pyNext (.ref x) >>= _) _ _ s
    refine wpAny_bind (wpAny_mono (step d s hJ) (fun r s' hr => ?_) fun _ _ e => e)
    cases r with
    | none => exact wpAny_pure hr
    | some v =>
      show wpAny _ A.in1 (updateSeq S (·.push v) >>= _) _ _ _
      refine wpAny_bind (wpAny_mono hr (fun _ s'' h2 => ?_) fun _ _ e => e)
      obtain ⟨d', hlt, hJ'⟩ := h2
      exact wpAny_pure ⟨plainId_quiet F.plain_extend_loop _, ih d' s'' (by walk_at "om") hJ'⟩
end
section
variable {prog : Program} {w : World} {A : Around} {E : Value → Shared → Prop} {s : Shared} {x C : Addr}
noncomputable abbrev listO (vs : Array Value) (c : Nat) : Obj := { cls := .type "list", data := .seq vs c }
theorem list_own {Q : Value → Shared → Prop} (hx : x ≠ s.heap.objs.size)
    (hType : ∀ (s₁ : Shared), (∀ b o, s.heap.get? b = some o → s₁.heap.get? b = some o) → ∀ (A' : Around) (Q' : Value → Shared → Prop) (E' : Value → Shared → Prop), Q' (.ref C) s₁ → wpAny (model prog w) A' (typeOf (.ref x)) Q' E' s₁)
    (hIter : ∀ h₁ c, (∀ b o, s.heap.get? b = some o → h₁.get? b = some o) → h₁.objs.size = s.heap.objs.size + 1 → h₁.get? s.heap.objs.size = some (listO #[] c) →
      wpAny (model prog w) A.in1.in1 (pyIter (.ref x)) (fun v s₂ => v = .ref x ∧
        wpAny (model prog w) A.in1.in1 (Builtin.List.listLengthHint (.ref x)) (fun b s₃ => b = true ∧ ∃ c, s₃.heap.get? s.heap.objs.size = some (listO #[] c) ∧
          ∀ h₄ c₄, h₄.get? s.heap.objs.size = some (listO #[] c₄) → (∀ b o, b ≠ s.heap.objs.size → s₃.heap.get? b = some o → h₄.get? b = some o) → h₄.objs.size = s₃.heap.objs.size →
            codeAny (model prog w) A.in1 (.builtin "list.extend.loop" ⟨[.ref s.heap.objs.size, .ref x, .none], []⟩) (wants (fun r s₂ => r = .none ∧ Q (.ref s.heap.objs.size) s₂) E) { s₃ with heap := h₄ })
          (fun e s' => wants (fun r s₂ => r = .none ∧ Q (.ref s.heap.objs.size) s₂) E (.error e) s') s₂) (fun e s' => wants (fun r s₂ => r = .none ∧ Q (.ref s.heap.objs.size) s₂) E (.error e) s') { s with heap := h₁ }) :
    wpAny (model prog w) A (call (.type "list") [.ref x]) Q E s := by
  refine callType_codes (Q₁ := fun obj s₁ => obj = .ref s.heap.objs.size ∧ s₁ = { s with heap := s.heap.push { cls := .type "list", data := .seq #[] } }) F.called_list (F.typeCall_list_1 _) F.entry_list_init
    (code_list_new _ ⟨rfl, rfl⟩) fun obj s₁ h₁ => ?_
  obtain ⟨rfl, rfl⟩ := h₁
  generalize hSS : s.heap.objs.size = S at *
  have hS : (s.heap.push { cls := .type "list", data := .seq #[] }).get? S = some { cls := .type "list", data := .seq #[] } := by rw [← hSS]; exact Heap.get?_push_size _ rfl
  refine ⟨⟨_, hS, rfl⟩, F.args_list_init_2 _ _, ?_⟩
  show wpAny _ A.in1.in1 (do let old ← Builtin.List.listItems (.ref S); Builtin.List.listUpdate (.ref S) (fun _ => #[]); letGo old.toList.reverse; Builtin.List.listExtendWith (.ref S) (.ref x) .none) _ _ _
  refine wpAny_bind ?_
  unfold Builtin.List.listItems
  refine wpAny_bind (wpAny_seqItems hS rfl (wpAny_pure ?_))
  show wpAny _ A.in1.in1 (updateSeq S (fun _ => #[]) >>= fun _ => letGo (#[] : Array Value).toList.reverse >>= fun _ => Builtin.List.listExtendWith (.ref S) (.ref x) .none) _ _ _
  refine wpAny_bind (wpAny_updateSeq hS rfl ?_)
  have hS₂ := Heap.get?_update_self (Obj.mapSeq (fun _ => (#[] : Array Value))) hS rfl
  have oth : ∀ b o, s.heap.get? b = some o → ((s.heap.push { cls := .type "list", data := .seq #[] }).update S (Obj.mapSeq (fun _ => (#[] : Array Value)))).get? b = some o :=
    fun b o e => (Heap.get?_update_other _ _ (fun z => absurd (Heap.lt_size e) (by rw [← z, hSS]; exact Nat.lt_irrefl _))).trans (Heap.get?_push_of_some _ e)
  refine wpAny_bind (wpAny_letGo ?_)
  unfold Builtin.List.listExtendWith
  refine wpAny_bind (hType _ oth _ _ _ ?_)
  have h1 : Builtin.List.listSameRef (.ref S) (.ref x) = false := by simp [Builtin.List.listSameRef, Ne.symm hx]
  have h2 : (Value.ref C == Value.type "list") = false := by rfl
  have h3 : (Value.ref C == Value.type "tuple") = false := by rfl
  simp only [h1, h2, h3, Bool.or_false, Bool.false_eq_true, if_false]
  refine wpAny_bind (wpAny_mono (hIter _ _ oth ?_ hS₂) (fun v s₂ hv => ?_) fun _ _ e => e)
  · rw [Heap.size_update]; show (s.heap.objs.push _).size = _; rw [Array.size_push, hSS]
  obtain ⟨rfl, hv⟩ := hv
  refine wpAny_bind (wpAny_holding (wpAny_mono hv (fun b s₃ hb => ?_) fun _ _ e => e))
  obtain ⟨rfl, c₃, hS₃, hk⟩ := hb
  show wpAny _ A.in1.in1 (rule "list.extend.makes-room" >>= fun _ => Builtin.List.listTouch (.ref S) >>= fun _ => again (.builtin "list.extend.loop" ⟨[.ref S, .ref x, .none], []⟩)) _ _ _
  refine wpAny_bind (wpAny_rule ?_)
  refine wpAny_bind ?_
  show wpAny _ A.in1.in1 (updateSeq S (·.push .none) >>= fun _ => updateSeq S (·.pop)) _ _ _
  refine wpAny_bind (wpAny_updateSeq hS₃ rfl ?_)
  have hS₄ := Heap.get?_update_self (Obj.mapSeq (·.push Value.none)) hS₃ rfl
  refine wpAny_updateSeq (hz := by seq_fits) hS₄ rfl ?_
  have hS₅ := Heap.get?_update_self (Obj.mapSeq (·.pop)) hS₄ rfl
  exact wpAny_pure ⟨plainId_quiet F.plain_extend_loop _, hk _ _ hS₅ (fun b o hb e => (Heap.get?_update_other _ _ (Ne.symm hb)).trans ((Heap.get?_update_other _ _ (Ne.symm hb)).trans e)) (by rw [Heap.size_update, Heap.size_update])⟩
end
end Mine

end
section
open PySem PySem.W PyProof.Rows PySem.Calls
set_option Elab.async false
set_option maxRecDepth 100000
namespace Mine
theorem SpecX.call {prog : Program} {w : World} {K : Frag} {f : Addr} {vs : List Value} {d u : Nat} {news : List (Addr × Obj)} {cls : String} {Post : List (Addr × Obj) → Prop} (H : SpecX prog w K f vs d u news cls Post)
    {p : Program} {loose : List Str} {mean : ExcName → Option Value} {mg mb : Str → Option Value} {dp un : Nat} {gd : Option (List Code)} {cn : Str} {cs : Scope} {a : Addr} {ccd : Value} {outer : List Env} {A₀ : Around} {base h₀ : Heap} {L : Addr} {m : Str → Option Value} {s : Shared} {Q E : Value → Shared → Prop}
    (G : Gd K p loose mean mg mb A₀ base outer h₀) (F : Fr h₀ L s.heap m) (N : News h₀ L s.heap news) (hk : cs.kind = .function) (hd : dp + d < recursionLimit) (hu : un + u < cLine)
    (k : ∀ e g' h' tk' news', Gd K p loose mean mg mb A₀ base outer g' → KtsTurn (fsOf outer) h₀ g' → HeldX g' L h' m news' e cls .none .none → Post news' → E (.ref e) { s with heap := h', toks := tk' }) :
    wpAny (model prog w) (ktrTop dp un gd cn cs L a ccd [] outer) (PySem.call (.ref f) vs) Q E s :=
  wpAny_call (H p loose mean mg mb dp un gd cn cs a ccd outer A₀ base h₀ L m s _ G F N hk hd hu fun e g' h' tk' news' G' T' X' P' => k e g' h' tk' news' G' T' X' P')
theorem held_stop {M : Model} {A : Around} {Q : Option Value → Shared → Prop} {E : Value → Shared → Prop} {s : Shared} {g : Heap} {L e : Addr} {m : Str → Option Value} {news : List (Addr × Obj)} {ctx fl : Value}
    (H : HeldX g L s.heap m news e "StopIteration" ctx fl) (k : Fr g L s.heap m → News g L s.heap news → Q none s) : OwitStop M A Q E (.ref e) s := by
  obtain ⟨F, oe, vs, T, oT, ts, N, hc, _⟩ := H
  have hT : s.TypeIs (.ref e) "StopIteration" := ⟨oe, (N _ (.head _)).1, hc⟩
  unfold OwitStop
  refine wpAny_isInstance hT owsi_facts.sub ?_
  show (if true = true then Q none s else E (.ref e) s)
  rw [if_pos rfl]
  exact k F fun q hq => N q (.tail _ (.tail _ hq))
end Mine

end
section
open PySem PySem.W PyProof.Rows PySem.Calls
set_option Elab.async false
set_option maxRecDepth 100000
namespace Mine
noncomputable def Rel2 {W : Type} (rel : Value → W → Prop) : List Value → List W → Prop
  | [], [] => True
  | v :: vs, x :: ws => rel v x ∧ Rel2 rel vs ws
  | _, _ => False
theorem Rel2.snoc {W : Type} {rel : Value → W → Prop} : ∀ {vs : List Value} {ws : List W} {v : Value} {x : W}, Rel2 rel vs ws → rel v x → Rel2 rel (vs ++ [v]) (ws ++ [x])
  | [], [], _, _, _, h => ⟨h, trivial⟩
  | [], _ :: _, _, _, h, _ => h.elim
  | _ :: _, [], _, _, h, _ => h.elim
  | _ :: _, _ :: _, _, _, h, h2 => ⟨h.1, Rel2.snoc h.2 h2⟩
theorem Rel2.len {W : Type} {rel : Value → W → Prop} : ∀ {vs : List Value} {ws : List W}, Rel2 rel vs ws → vs.length = ws.length
  | [], [], _ => rfl
  | [], _ :: _, h => h.elim
  | _ :: _, [], h => h.elim
  | _ :: _, _ :: _, h => congrArg Nat.succ (Rel2.len h.2)
theorem InstAt_keeps {h h' : Heap} {x C : Addr} {ox : Obj} {od : Option Obj} (I : InstAt h x ox C od) (k : ∀ b o, h.get? b = some o → h'.get? b = some o) : InstAt h' x ox C od := by
  obtain ⟨a, b, c, d⟩ := I
  refine ⟨k _ _ a, b, c, ?_⟩
  revert d
  cases ox.dict <;> cases od <;> intro d
  · trivial
  · exact d
  · exact d
  · exact k _ _ d
theorem hint_own {M : Model} {A : Around} {K : Frag} {E : Value → Shared → Prop} {s : Shared} {x C : Addr} {ox : Obj} {od : Option Obj} {Q : Bool → Shared → Prop} (X : K.In s.heap) (I : InstAt s.heap x ox C od)
    (hlen : findIn K (.ref C) "__len__" = some none) (hhint : findIn K (.ref C) "__length_hint__" = some none) (h : Q true s) : wpAny M A (Builtin.List.listLengthHint (.ref x)) Q E s := by
  unfold Builtin.List.listLengthHint
  refine wpAny_bind (wpAny_bind (I.type.here ((looks_findIn X hlen).here ?_)))
  show wpAny _ A (specialOf (Value.ref x) (Str.ofString "__length_hint__") >>= _) _ _ _
  refine wpAny_bind (wpAny_bind (I.type.here ((looks_findIn X hhint).here ?_)))
  exact wpAny_pure h

inductive ExtI (K : Frag) (p : Program) (loose : List Str) (mean : ExcName → Option Value) (mg mb : Str → Option Value) (A₀ : Around) (base : Heap) (outer : List Env) (h₀ : Heap) (L : Addr) (m : Str → Option Value) (S : Addr) (rest : List (Addr × Obj)) {D W : Type} (led : D → List (Addr × Obj)) (ws : D → List W) (rel : Value → W → Prop) (all : List W) (s : Shared) (e : D × List Value) (s' : Shared) : Prop
  | mk (g' h' : Heap) (tk' c' : Nat) : s' = { s with heap := h', toks := tk' } → Gd K p loose mean mg mb A₀ base outer g' → KtsTurn (fsOf outer) h₀ g' → Fr g' L h' m → News g' L h' (led e.1 ++ (S, listO e.2.toArray c') :: rest) → (∃ done, Rel2 rel e.2 done ∧ done ++ ws e.1 = all) → ExtI K p loose mean mg mb A₀ base outer h₀ L m S rest led ws rel all s e s'
section
variable {prog : Program} {w : World} {K : Frag} {x C fi fn : Addr} {D W : Type} {led : D → List (Addr × Obj)} {ws : D → List W} {rel : Value → W → Prop} {keys : List Addr} {dd uu : Nat}
theorem list_iter
    (hinst : ∀ d rest h₀ L h, News h₀ L h (led d ++ rest) → ∃ ox od, InstAt h x ox C (some od))
    (hi : findIn K (.ref C) "__iter__" = some (some (.ref fi))) (hif : isFn K (.ref fi) = true) (hn : findIn K (.ref C) "__next__" = some (some (.ref fn))) (hnf : isFn K (.ref fn) = true)
    (hlen : findIn K (.ref C) "__len__" = some none) (hhint : findIn K (.ref C) "__length_hint__" = some none)
    (hled : ∀ d d' S, (∀ q ∈ led d, q.1 ≠ S) → ∀ q ∈ led d', q.1 ≠ S) (hkeys : ∀ d, ∀ a ∈ keys, ∃ o, (a, o) ∈ led d)
    (iterSpec : ∀ d rest, Spec prog w K fi [.ref x] dd uu (led d ++ rest) (fun v n => v = .ref x ∧ n = led d ++ rest))
    (nextE : ∀ d rest, ws d = [] → (∀ q ∈ rest, q.1 ∉ keys) → SpecX prog w K fn [.ref x] dd uu (led d ++ rest) "StopIteration" (fun n => ∃ d', n = led d' ++ rest))
    (nextT : ∀ d rest w0 r, ws d = w0 :: r → (∀ q ∈ rest, q.1 ∉ keys) → Spec prog w K fn [.ref x] dd uu (led d ++ rest) (fun v n => ∃ d', ws d' = r ∧ rel v w0 ∧ n = led d' ++ rest))
    {d : D} {rest : List (Addr × Obj)} (hfresh : ∀ q ∈ rest, q.1 ∉ keys) (hsz : (ws d).length ≤ 1000000)
    {p : Program} {loose : List Str} {mean : ExcName → Option Value} {mg mb : Str → Option Value} {dp un : Nat} {gd : Option (List Code)} {cn : Str} {cs : Scope} {a : Addr} {ccd : Value} {outer : List Env} {A₀ : Around} {base h₀ : Heap} {L : Addr} {m : Str → Option Value} {s : Shared} {Q E : Value → Shared → Prop}
    (G : Gd K p loose mean mg mb A₀ base outer h₀) (F : Fr h₀ L s.heap m) (N : News h₀ L s.heap (led d ++ rest)) (hk : cs.kind = .function) (hd : dp + dd < recursionLimit) (hu : un + uu + 8 < cLine)
    (k : ∀ S vs c g' h' tk' d', Gd K p loose mean mg mb A₀ base outer g' → KtsTurn (fsOf outer) h₀ g' → Fr g' L h' m → News g' L h' (led d' ++ (S, listO vs.toArray c) :: rest) → Rel2 rel vs (ws d) → Q (.ref S) { s with heap := h', toks := tk' }) :
    wpAny (model prog w) (ktrTop dp un gd cn cs L a ccd [] outer) (PySem.call (.type "list") [.ref x]) Q E s := by
  obtain ⟨ox, od, I⟩ := hinst d rest h₀ L s.heap N
  obtain ⟨oL, es, ep, hL, rL⟩ := id F.ns
  have hLS : L ≠ s.heap.objs.size := Nat.ne_of_lt (Heap.lt_size hL)
  have hSn : s.heap.get? s.heap.objs.size = none := Heap.get?_none_of_le (Nat.le_refl _)
  have hneS : ∀ q ∈ led d ++ rest, q.1 ≠ s.heap.objs.size := fun q hq => Nat.ne_of_lt (Heap.lt_size (N q hq).1)
  refine list_own (C := C) (Nat.ne_of_lt (Heap.lt_size I.at_)) (fun s₁ k A' Q' E' h => (InstAt_keeps I k).type.here h) ?_
  intro h₁ c oth hsize hS
  generalize hSS : s.heap.objs.size = S at *
  have hS₀ : h₀.get? S = none := by
    cases q : h₀.get? S with
    | none => rfl
    | some o => have := F.keep _ _ q; rw [hSn] at this; cases this
  have F1 : Fr h₀ L h₁ m := ⟨⟨oL, es, ep, oth _ _ hL, rL⟩, fun b o q => oth _ _ (F.keep b o q), F.above⟩
  have N1 : News h₀ L h₁ (led d ++ (S, listO #[] c) :: rest) := fun p hp => by
    rcases List.mem_append.mp hp with hp | hp
    · have := N p (List.mem_append_left _ hp); exact ⟨oth _ _ this.1, this.2⟩
    · rcases List.mem_cons.mp hp with rfl | hp
      · exact ⟨hS, Ne.symm hLS, hS₀⟩
      · have := N p (List.mem_append_right _ hp); exact ⟨oth _ _ this.1, this.2⟩
  have hSk : S ∉ keys := fun hm => by
    obtain ⟨o, ho⟩ := hkeys d S hm
    exact hneS _ (List.mem_append_left _ ho) rfl
  have hfr : ∀ vs c, ∀ q ∈ (S, listO vs c) :: rest, q.1 ∉ keys := fun vs c q hq => by
    rcases List.mem_cons.mp hq with rfl | hq
    · exact hSk
    · exact hfresh q hq
  have hdl : ∀ d', ∀ q ∈ led d', q.1 ≠ S := fun d' => hled d d' S (fun q hq => hneS q (List.mem_append_left _ hq))
  have hrl : ∀ q ∈ rest, q.1 ≠ S := fun q hq => hneS q (List.mem_append_right _ hq)
  obtain ⟨ox1, od1, I1⟩ := hinst _ _ _ _ _ N1
  refine owit_iter (s := { s with heap := h₁ }) F1 G.X I1 hi hif ?_
  refine (iterSpec d _).call (un := un + 1 + 1) (s := { s with heap := h₁ }) G F1 N1 hk hd (by walk_at "om") ?_
  rintro v g2 h2 tk2 news2 G2 T2 F2 N2 ⟨rfl, rfl⟩
  obtain ⟨ox2, od2, I2⟩ := hinst _ _ _ _ _ N2
  refine owit_it (s := { s with heap := h2, toks := tk2 }) F2 G2.X I2 hn ⟨rfl, ?_⟩
  have S2 := N2 (S, listO #[] c) (List.mem_append_right _ (.head _))
  refine hint_own (s := { s with heap := h2, toks := tk2 }) (G2.X.keeps F2.keep) I2 hlen hhint ⟨rfl, c, S2.1, ?_⟩
  intro h4 c4 hS4 oth4 hz4
  refine ext_loop (A := ktrTop dp (un + 1) gd cn cs L a ccd [] outer) (D := D × List Value)
    (ExtI K p loose mean mg mb A₀ base outer h₀ L m S rest led ws rel (ws d) s)
    (fun e => (ws e.1).length) ?_ _ (d, []) _ (Nat.lt_succ_self _) ?_
  · rintro ⟨d', vs⟩ s' ⟨g', h', tk', c', rfl, G', T', F', N', done, hR, hdone⟩
    dsimp only at N' hR hdone ⊢
    obtain ⟨ox', od', I'⟩ := hinst _ _ _ _ _ N'
    refine owit_next (s := { s with heap := h', toks := tk' }) F' G'.X I' hn hnf ?_
    cases hws : ws d' with
    | nil =>
      refine (nextE d' _ hws (hfr _ _)).call (un := un + 1 + 1) (s := { s with heap := h', toks := tk' }) G' F' N' hk hd (by walk_at "om") ?_
      rintro e5 g5 h5 tk5 news5 G5 T5 X5 ⟨d5, rfl⟩
      refine held_stop (s := { s with heap := h5, toks := tk5 }) X5 fun F6 N6 => ⟨rfl, ?_⟩
      rw [hws, List.append_nil] at hdone
      exact k S vs _ g5 h5 tk5 d5 G5 (T'.trans T5) F6 N6 (hdone ▸ hR)
    | cons w0 r =>
      refine (nextT d' _ w0 r hws (hfr _ _)).call (un := un + 1 + 1) (s := { s with heap := h', toks := tk' }) G' F' N' hk hd (by walk_at "om") ?_
      rintro v g5 h5 tk5 news5 G5 T5 F5 N5 ⟨d5, hw5, hrel, rfl⟩
      have S5 := N5 (S, listO vs.toArray c') (List.mem_append_right _ (.head _))
      have hl : vs.length < 1000000 := by
        have := congrArg List.length hdone
        rw [List.length_append, hws, List.length_cons] at this
        have := hR.len
        walk_at "om"
      refine wpAny_updateSeq (s := { s with heap := h5, toks := tk5 }) S5.1 rfl ?_ (by rw [List.size_toArray]; show vs.length ≤ 16777216; walk_at "om") (by rw [Array.size_push, List.size_toArray]; show vs.length + 1 ≤ 16777216 + 1; walk_at "om")
      have U := news_upd (f := Obj.mapSeq (·.push v)) F5 N5 (hdl d5) hrl rfl rfl
      obtain ⟨c6, U2⟩ : ∃ c6, News g5 L (h5.update S (Obj.mapSeq (·.push v))) (led d5 ++ (S, listO (vs ++ [v]).toArray c6) :: rest) := by
        have e : (vs ++ [v]).toArray = vs.toArray.push v := by simp
        rw [e]
        exact ⟨_, U.2⟩
      refine ⟨(d5, vs ++ [v]), by dsimp only; rw [hw5]; exact Nat.lt_succ_self _, g5, _, _, c6, rfl, G5, T'.trans T5, U.1, U2, done ++ [w0], hR.snoc hrel, ?_⟩
      dsimp only; rw [hw5, ← hdone, hws]; simp
  · have hg2 : ∀ b o, g2.get? b = some o → b ≠ S := fun b o e z => by rw [z] at e; rw [S2.2.2] at e; cases e
    obtain ⟨oL2, es2, ep2, hL2, rL2⟩ := F2.ns
    refine ⟨g2, h4, tk2, c4, rfl, G2, T2, ⟨⟨oL2, es2, ep2, oth4 _ _ hLS hL2, rL2⟩, fun b o q => oth4 _ _ (hg2 b o q) (F2.keep b o q), F2.above⟩, ?_, [], trivial, rfl⟩
    intro p hp
    rcases List.mem_append.mp hp with hp | hp
    · have := N2 p (List.mem_append_left _ hp); exact ⟨oth4 _ _ (hdl d p hp) this.1, this.2⟩
    · rcases List.mem_cons.mp hp with rfl | hp
      · exact ⟨hS4, S2.2⟩
      · have := N2 p (List.mem_append_right _ (.tail _ hp)); exact ⟨oth4 _ _ (hrl p hp) this.1, this.2⟩
end
end Mine

end
section
open PySem PySem.W PyProof.Rows PySem.Calls
set_option Elab.async false
namespace Mine
theorem Spec.up {prog : Program} {w : World} {K : Frag} {f : Addr} {vs : List Value} {d u d' u' : Nat} {news : List (Addr × Obj)} {Post : Value → List (Addr × Obj) → Prop} (H : Spec prog w K f vs d u news Post) (hd : d ≤ d') (hu : u ≤ u') :
    Spec prog w K f vs d' u' news Post := fun p loose mean mg mb dp un gd cn cs a ccd cl outer A₀ base h₀ L m s R G F N hk h1 h2 k =>
  H p loose mean mg mb dp un gd cn cs a ccd cl outer A₀ base h₀ L m s R G F N hk (by walk_at "om") (by walk_at "om") k
theorem SpecX.mono {prog : Program} {w : World} {K : Frag} {f : Addr} {vs : List Value} {d u : Nat} {news : List (Addr × Obj)} {cls : String} {Post Post' : List (Addr × Obj) → Prop} (H : SpecX prog w K f vs d u news cls Post) (h : ∀ n, Post n → Post' n) :
    SpecX prog w K f vs d u news cls Post' := fun p loose mean mg mb dp un gd cn cs a ccd outer A₀ base h₀ L m s R G F N hk h1 h2 k =>
  H p loose mean mg mb dp un gd cn cs a ccd outer A₀ base h₀ L m s R G F N hk h1 h2 fun e g' h' tk' news' G' T' X' P' => k e g' h' tk' news' G' T' X' (h _ P')
end Mine

end
section
open PySem PySem.W PyProof.Rows PySem.Calls
set_option Elab.async false
set_option maxRecDepth 100000
set_option maxHeartbeats 0
namespace Mine


noncomputable def tokR (f : List Nat → Option (List (List Nat))) (R : Option (List Nat) × Option Nat × List Nat) : Option (List (List Nat)) :=
  R.1.elim (if R.2 = (none, []) then some [] else none) fun v => if R.2.1 = some 32 then (f R.2.2).map (v :: ·) else if R.2 = (none, []) then some [v] else none
noncomputable def toks : Nat → List Nat → Option (List (List Nat))
  | 0 => fun _ => none
  | n + 1 => fun l => (rt l 32 [] false).bind (tokR (toks n))
theorem toks_some {n : Nat} {l : List Nat} {z : List (List Nat)} (h : toks n l = some z) :
    (∃ v k r ws, rt l 32 [] false = some (some v, some 32, r) ∧ toks k r = some ws ∧ z = v :: ws) ∨ (∃ v, rt l 32 [] false = some (some v, none, []) ∧ z = [v]) ∨ (rt l 32 [] false = some (none, none, []) ∧ z = []) := by
  cases n with
  | zero => cases h
  | succ n =>
    have h : (rt l 32 [] false).bind (tokR (toks n)) = some z := h
    cases e : rt l 32 [] false with
    | none => rw [e] at h; cases h
    | some R =>
      rw [e] at h
      obtain ⟨o, k, r⟩ := R
      cases o with
      | none =>
        have g : (if (k, r) = (none, []) then some [] else none) = some z := h
        by_cases q : (k, r) = (none, [])
        · rw [if_pos q] at g; cases q; exact .inr (.inr ⟨rfl, (Option.some.inj g).symm⟩)
        · rw [if_neg q] at g; cases g
      | some v =>
        have g : (if k = some 32 then (toks n r).map (v :: ·) else if (k, r) = (none, []) then some [v] else none) = some z := h
        by_cases q1 : k = some 32
        · rw [if_pos q1] at g
          cases q : toks n r with
          | none => rw [q] at g; cases g
          | some ws => rw [q] at g; cases q1; exact .inl ⟨v, n, r, ws, rfl, q, (Option.some.inj g).symm⟩
        · rw [if_neg q1] at g
          by_cases q : (k, r) = (none, [])
          · rw [if_pos q] at g; cases q; exact .inr (.inl ⟨v, rfl, (Option.some.inj g).symm⟩)
          · rw [if_neg q] at g; cases g
theorem toks_cons {n : Nat} {l v : List Nat} {ws : List (List Nat)} (h : toks n l = some (v :: ws)) :
    (∃ k r, rt l 32 [] false = some (some v, some 32, r) ∧ toks k r = some ws) ∨ (rt l 32 [] false = some (some v, none, []) ∧ ws = []) := by
  rcases toks_some h with ⟨v', k, r, ws', e, q, h⟩ | ⟨v', e, h⟩ | ⟨_, h⟩
  · cases h; exact .inl ⟨k, r, e, q⟩
  · cases h; exact .inr ⟨e, rfl⟩
  · cases h
theorem toks_nil {n : Nat} {l : List Nat} (h : toks n l = some []) : rt l 32 [] false = some (none, none, []) := by
  rcases toks_some h with ⟨v', k, r, ws', e, q, h⟩ | ⟨v', e, h⟩ | ⟨e, _⟩
  · cases h
  · cases h
  · exact e


structure LS (x : Str) where
  fin : Bool
  ps : Nat
  u1 : Tok
  u2 : Tok
  t3 : Tok
  ws : List (List Nat)
  ok : if fin = true then ps = x.length ∧ ws = [] else ps ≤ x.length ∧ ∃ n, toks n (x.cps.toList.drop ps) = some ws
noncomputable abbrev ledOf (w : World) (ks vt : Nat → Tok) (k1 k2 k3 t1 t2 : Tok) (lx ld sx sd pb fs : Addr) (x : Str) (d : LS x) : List (Addr × Obj) :=
  lexL w ks vt k1 k2 k3 t1 t2 d.t3 lx ld sx sd pb fs (if d.fin = true then .none else .str (Str.ofString " ") d.u1) (.str (Str.ofString "") d.u2) x d.ps [(pb, dqObj none), (fs, dqObj none)]
structure Apart (lx ld sx sd pb fs : Addr) : Prop where
  h1 : sx ≠ sd
  h2 : sd ≠ sx
  h3 : lx ≠ sd
  h4 : ld ≠ sd
  h5 : sx ≠ ld
  h6 : sd ≠ ld
  h7 : lx ≠ ld
  a1 : pb ≠ sd
  a2 : fs ≠ sd
  a3 : pb ≠ ld
  a4 : fs ≠ ld
theorem next_t {w : World} {ks vt : Nat → Tok} {k1 k2 k3 t1 t2 : Tok} {lx ld sx sd pb fs : Addr} {x : Str} (hx : x.length < 1000000) (P : Apart lx ld sx sd pb fs) (d : LS x) (rest : List (Addr × Obj)) (w0 : List Nat) (r : List (List Nat)) (hw : d.ws = w0 :: r) (hf : ∀ q ∈ rest, q.1 ∉ [sd, ld]) :
    Spec PySem.Challenge.pw_oc0261_02 w (Mine.K1 w.params) 729 [.ref lx] (50 + 1) (500 + 8) (ledOf w ks vt k1 k2 k3 t1 t2 lx ld sx sd pb fs x d ++ rest) (fun v n => ∃ d' : LS x, d'.ws = r ∧ (∃ u, v = .str ⟨w0.toArray⟩ u) ∧ n = ledOf w ks vt k1 k2 k3 t1 t2 lx ld sx sd pb fs x d' ++ rest) := by
  obtain ⟨fin, ps, u1, u2, t3, ws, ok⟩ := d
  dsimp only at hw
  subst hw
  cases fin with
  | true => exact absurd ok.2 (by simp)
  | false =>
    obtain ⟨hp, n, hn⟩ := ok
    have h8 : ∀ q ∈ (pb, dqObj none) :: (fs, dqObj none) :: rest, q.1 ≠ sd := fun q hq => by
      rcases List.mem_cons.mp hq with rfl | hq
      · exact P.a1
      · rcases List.mem_cons.mp hq with rfl | hq
        · exact P.a2
        · exact fun e => hf q hq (by rw [e]; exact .head _)
    have h9 : ∀ q ∈ (pb, dqObj none) :: (fs, dqObj none) :: rest, q.1 ≠ ld := fun q hq => by
      rcases List.mem_cons.mp hq with rfl | hq
      · exact P.a3
      · rcases List.mem_cons.mp hq with rfl | hq
        · exact P.a4
        · exact fun e => hf q hq (by rw [e]; exact .tail _ (.head _))
    rcases toks_cons hn with ⟨k, r', hr, hk⟩ | ⟨hr, rfl⟩
    · refine (c_nextT hx P.h1 P.h2 P.h3 P.h4 P.h5 P.h6 P.h7 h8 h9 hp hr).mono ?_
      rintro v n ⟨ps', u1', u2', t3', u, rfl, rfl, hd, hl⟩
      refine ⟨⟨false, ps', u1', u2', t3', r, ⟨hl, k, by rw [hd]; exact hk⟩⟩, rfl, ⟨_, rfl⟩, ?_⟩
      show _ = lexL _ _ _ _ _ _ _ _ _ _ _ _ _ _ _ _ _ _ _ _
      rw [st_s]
      rfl
    · refine (c_nextT hx P.h1 P.h2 P.h3 P.h4 P.h5 P.h6 P.h7 h8 h9 hp hr).mono ?_
      rintro v n ⟨ps', u1', u2', t3', u, rfl, rfl, hd, hl⟩
      exact ⟨⟨true, ps', u1', u2', t3', [], ⟨at_end hl hd, rfl⟩⟩, rfl, ⟨_, rfl⟩, rfl⟩


theorem next_e {w : World} {ks vt : Nat → Tok} {k1 k2 k3 t1 t2 : Tok} {lx ld sx sd pb fs : Addr} {x : Str} (hx : x.length < 1000000) (P : Apart lx ld sx sd pb fs) (d : LS x) (rest : List (Addr × Obj)) (hw : d.ws = []) (hf : ∀ q ∈ rest, q.1 ∉ [sd, ld]) :
    SpecX PySem.Challenge.pw_oc0261_02 w (Mine.K1 w.params) 729 [.ref lx] (50 + 1) (500 + 8) (ledOf w ks vt k1 k2 k3 t1 t2 lx ld sx sd pb fs x d ++ rest) "StopIteration" (fun n => ∃ d' : LS x, n = ledOf w ks vt k1 k2 k3 t1 t2 lx ld sx sd pb fs x d' ++ rest) := by
  obtain ⟨fin, ps, u1, u2, t3, ws, ok⟩ := d
  dsimp only at hw
  subst hw
  have h8 : ∀ q ∈ (pb, dqObj none) :: (fs, dqObj none) :: rest, q.1 ≠ sd := fun q hq => by
    rcases List.mem_cons.mp hq with rfl | hq
    · exact P.a1
    · rcases List.mem_cons.mp hq with rfl | hq
      · exact P.a2
      · exact fun e => hf q hq (by rw [e]; exact .head _)
  have h9 : ∀ q ∈ (pb, dqObj none) :: (fs, dqObj none) :: rest, q.1 ≠ ld := fun q hq => by
    rcases List.mem_cons.mp hq with rfl | hq
    · exact P.a3
    · rcases List.mem_cons.mp hq with rfl | hq
      · exact P.a4
      · exact fun e => hf q hq (by rw [e]; exact .tail _ (.head _))
  cases fin with
  | true =>
    obtain ⟨hp, _⟩ := ok
    refine (c_nextE (c_gtE ((c_rtN hx P.h1 P.h2 P.h3 P.h4 P.h5 P.h6 P.h7 h8 h9 hp).mono ?_))).mono ?_
    · rintro v n ⟨u2', rfl, rfl⟩
      subst hp
      exact ⟨_, _, rfl, rfl⟩
    · rintro n ⟨u2', t3', rfl⟩
      exact ⟨⟨true, x.length, u1, u2', t3', [], ⟨rfl, rfl⟩⟩, rfl⟩
  | false =>
    obtain ⟨hp, n, hn⟩ := ok
    refine (c_nextE (c_gtE ((c_rt hx P.h1 P.h2 P.h3 P.h4 P.h5 P.h6 P.h7 h8 h9 hp (toks_nil hn)).mono ?_))).mono ?_
    · rintro v n ⟨ps', u1', u2', t3', e, rfl, hd, hl⟩
      have := at_end hl hd
      subst this
      exact ⟨_, _, e, rfl⟩
    · rintro n ⟨u2', t3', rfl⟩
      exact ⟨⟨true, x.length, u1, u2', t3', [], ⟨rfl, rfl⟩⟩, rfl⟩

end Mine

end
section
open PySem PySem.W PyProof.Rows PySem.Calls
set_option Elab.async false
set_option maxRecDepth 100000
set_option maxHeartbeats 0
namespace Mine


theorem c_list {w : World} {ks vt : Nat → Tok} {k1 k2 k3 t1 t2 : Tok} {lx ld sx sd pb fs : Addr} {x : Str} (hx : x.length < 1000000) (P : Apart lx ld sx sd pb fs) {d : LS x} {rest : List (Addr × Obj)} (hfresh : ∀ q ∈ rest, q.1 ∉ [sd, ld]) (hsz : d.ws.length ≤ 1000000)
    {p : Program} {loose : List Str} {mean : ExcName → Option Value} {mg mb : Str → Option Value} {dp un : Nat} {gd : Option (List Code)} {cn : Str} {cs : Scope} {a : Addr} {ccd : Value} {outer : List Env} {A₀ : Around} {base h₀ : Heap} {L : Addr} {m : Str → Option Value} {s : Shared} {Q E : Value → Shared → Prop}
    (G : Gd (Mine.K1 w.params) p loose mean mg mb A₀ base outer h₀) (F : Fr h₀ L s.heap m) (N : News h₀ L s.heap (ledOf w ks vt k1 k2 k3 t1 t2 lx ld sx sd pb fs x d ++ rest)) (hk : cs.kind = .function) (hd : dp + 51 < recursionLimit) (hu : un + 508 + 8 < cLine)
    (k : ∀ S vs c g' h' tk' (d' : LS x), Gd (Mine.K1 w.params) p loose mean mg mb A₀ base outer g' → KtsTurn (fsOf outer) h₀ g' → Fr g' L h' m → News g' L h' (ledOf w ks vt k1 k2 k3 t1 t2 lx ld sx sd pb fs x d' ++ (S, listO vs.toArray c) :: rest) → Rel2 (fun v (wd : List Nat) => ∃ u, v = .str ⟨wd.toArray⟩ u) vs d.ws → Q (.ref S) { s with heap := h', toks := tk' }) :
    wpAny (model PySem.Challenge.pw_oc0261_02 w) (ktrTop dp un gd cn cs L a ccd [] outer) (PySem.call (.type "list") [.ref lx]) Q E s := by
  have f1 : findIn (Mine.K1 w.params) (.ref 732) "__iter__" = some (some (.ref 722)) ∧ isFn (Mine.K1 w.params) (.ref 722) = true ∧ findIn (Mine.K1 w.params) (.ref 732) "__next__" = some (some (.ref 729)) ∧ isFn (Mine.K1 w.params) (.ref 729) = true ∧ findIn (Mine.K1 w.params) (.ref 732) "__len__" = some none ∧ findIn (Mine.K1 w.params) (.ref 732) "__length_hint__" = some none := by
    refine (?_ : PySem.Challenge.rw_oc0261_02 = PySem.Challenge.rw_oc0261_02 → (Mine.K1 w.params) = (Mine.K1 w.params) → _) rfl rfl
    k_fill
    intro _ _
    refine ⟨by k_is, by k_is, by k_is, by k_is, by k_is, by k_is⟩
  refine list_iter (led := ledOf w ks vt k1 k2 k3 t1 t2 lx ld sx sd pb fs x) (ws := LS.ws) (rel := fun v (wd : List Nat) => ∃ u, v = .str ⟨wd.toArray⟩ u) (keys := [sd, ld]) (dd := 51) (uu := 508) (C := 732) (fi := 722) (fn := 729) ?_ f1.1 f1.2.1 f1.2.2.1 f1.2.2.2.1 f1.2.2.2.2.1 f1.2.2.2.2.2 ?_ ?_ ?_ (fun d rest hw hf => next_e hx P d rest hw hf) (fun d rest w0 r hw hf => next_t hx P d rest w0 r hw hf) hfresh hsz G F N hk hd hu k
  · intro d rest h₀ L h N
    exact ⟨_, _, InstAt.of_news N (.tail _ (.tail _ (.head _))) (.tail _ (.tail _ (.tail _ (.head _))))⟩
  · intro d d' S h q hq
    have e : ∀ d : LS x, (ledOf w ks vt k1 k2 k3 t1 t2 lx ld sx sd pb fs x d).map (·.1) = [sx, sd, lx, ld, pb, fs] := fun _ => rfl
    have m := List.mem_map_of_mem (f := (·.1)) hq
    rw [e d', ← e d] at m
    obtain ⟨q', hq', e'⟩ := List.mem_map.mp m
    rw [← e']
    exact h q' hq'
  · intro d a ha
    rcases List.mem_cons.mp ha with rfl | ha
    · exact ⟨_, .tail _ (.head _)⟩
    · rcases List.mem_cons.mp ha with rfl | ha
      · exact ⟨_, .tail _ (.tail _ (.tail _ (.head _)))⟩
      · cases ha
  · intro d rest
    exact c_iter.up (by decide) (by decide)

end Mine

end
section
open PySem PySem.W PyProof.Rows PySem.Calls
set_option Elab.async false
set_option maxRecDepth 100000
set_option maxHeartbeats 0
namespace Mine


theorem c_list2 {w : World} {k1 k2 k3 t1 t2 t3 a0 a1 a2 a3 a4 a5 a6 a7 a8 a9 a10 a11 a12 a13 a14 a15 a16 a17 a18 b4 b5 b6 b8 b9 b10 b11 b13 b14 b15 b18 : Tok} {lx ld sx sd pb fs : Addr} {x : Str} {n : Nat} {ws : List (List Nat)} (hx : x.length < 1000000) (hn : toks n x.cps.toList = some ws) (hz : ws.length ≤ 1000000) (P : Apart lx ld sx sd pb fs) {rest : List (Addr × Obj)} (hfresh : ∀ q ∈ rest, q.1 ∉ [sd, ld])
    {p : Program} {loose : List Str} {mean : ExcName → Option Value} {mg mb : Str → Option Value} {dp un : Nat} {gd : Option (List Code)} {cn : Str} {cs : Scope} {a : Addr} {ccd : Value} {outer : List Env} {A₀ : Around} {base h₀ : Heap} {L : Addr} {m : Str → Option Value} {s : Shared} {Q E : Value → Shared → Prop}
    (G : Gd (Mine.K1 w.params) p loose mean mg mb A₀ base outer h₀) (F : Fr h₀ L s.heap m) (N : News h₀ L s.heap ((fs, dqObj none) :: (pb, dqObj none) :: (sx, instObj 597 sd) :: (sd, dictOf (sioD w k1 k2 k3 (.str "\n" t1) (.str x t2) (.int ((0 : Nat) : Int) t3)) 3) :: (lx, instObj 732 ld) :: (ld, dictOf [ent w "instream" a0 (.ref sx), ent w "infile" a1 (.none), ent w "posix" a2 (.bool true), ent w "eof" a3 (.none), ent w "commenters" a4 (.str (Str.ofString "") b4), ent w "wordchars" a5 (.str (Str.ofString "abcdfeghijklmnopqrstuvwxyzABCDEFGHIJKLMNOPQRSTUVWXYZ0123456789_ßàáâãäåæçèéêëìíîïðñòóôõöøùúûüýþÿÀÁÂÃÄÅÆÇÈÉÊËÌÍÎÏÐÑÒÓÔÕÖØÙÚÛÜÝÞ") b5), ent w "whitespace" a6 (.str (Str.ofString " \t\r\n") b6), ent w "whitespace_split" a7 (.bool true), ent w "quotes" a8 (.str (Str.ofString "'\"") b8), ent w "escape" a9 (.str (Str.ofString "\\") b9), ent w "escapedquotes" a10 (.str (Str.ofString "\"") b10), ent w "state" a11 (.str (Str.ofString " ") b11), ent w "pushback" a12 (.ref pb), ent w "lineno" a13 (.int 1 b13), ent w "debug" a14 (.int 0 b14), ent w "token" a15 (.str (Str.ofString "") b15), ent w "filestack" a16 (.ref fs), ent w "source" a17 (.none), ent w "_punctuation_chars" a18 (.str (Str.ofString "") b18)] 19) :: rest)) (hk : cs.kind = .function) (hd : dp + 51 < recursionLimit) (hu : un + 508 + 8 < cLine)
    (k : ∀ S vs c g' h' tk', Gd (Mine.K1 w.params) p loose mean mg mb A₀ base outer g' → KtsTurn (fsOf outer) h₀ g' → Fr g' L h' m → News g' L h' ((S, listO vs.toArray c) :: rest) → Rel2 (fun v (wd : List Nat) => ∃ u, v = .str ⟨wd.toArray⟩ u) vs ws → Q (.ref S) { s with heap := h', toks := tk' }) :
    wpAny (model PySem.Challenge.pw_oc0261_02 w) (ktrTop dp un gd cn cs L a ccd [] outer) (PySem.call (.type "list") [.ref lx]) Q E s := by
  refine c_list (ks := (fun i => [a0, a1, a2, a3, a4, a5, a6, a7, a8, a9, a10, a11, a12, a13, a14, a15, a16, a17, a18].getD i 0)) (vt := (fun i => [0, 0, 0, 0, b4, b5, b6, 0, b8, b9, b10, 0, 0, b13, b14, 0, 0, 0, b18].getD i 0)) (k1 := k1) (k2 := k2) (k3 := k3) (t1 := t1) (t2 := t2) (lx := lx) (ld := ld) (sx := sx) (sd := sd) (pb := pb) (fs := fs) (x := x) hx P (d := ⟨false, 0, b11, b15, t3, ws, ⟨Nat.zero_le _, n, hn⟩⟩) (rest := rest) hfresh hz G F (fun q hq => N q ?_) hk hd hu ?_
  · rcases List.mem_cons.mp hq with e | hq
    · rw [e]; exact .tail _ (.tail _ (.head _))
    rcases List.mem_cons.mp hq with e | hq
    · rw [e]; exact .tail _ (.tail _ (.tail _ (.head _)))
    rcases List.mem_cons.mp hq with e | hq
    · rw [e]; exact .tail _ (.tail _ (.tail _ (.tail _ (.head _))))
    rcases List.mem_cons.mp hq with e | hq
    · rw [e]; exact .tail _ (.tail _ (.tail _ (.tail _ (.tail _ (.head _)))))
    rcases List.mem_cons.mp hq with e | hq
    · rw [e]; exact .tail _ (.head _)
    rcases List.mem_cons.mp hq with e | hq
    · rw [e]; exact .head _
    · exact .tail _ (.tail _ (.tail _ (.tail _ (.tail _ (.tail _ hq)))))
  · intro S vs c g' h' tk' d' G' T' F' N' hr
    exact k S vs c g' h' tk' G' T' F' (fun q hq => N' q (List.mem_append_right _ hq)) hr

theorem c_split {w : World} {news : List (Addr × Obj)} {x : Str} {t : Tok} {n : Nat} {ws : List (List Nat)} (hx : x.length < 1000000) (hn : toks n x.cps.toList = some ws) (hz : ws.length ≤ 1000000) : Spec PySem.Challenge.pw_oc0261_02 w (Mine.K1 w.params) 744 [.str x t] (60 + 1) (600 + 8) news (fun v news' => ∃ S vs c, v = .ref S ∧ Rel2 (fun v (wd : List Nat) => ∃ u, v = .str ⟨wd.toArray⟩ u) vs ws ∧ news' = (S, listO vs.toArray c) :: news) := by
  refine (?_ : PySem.Challenge.rw_oc0261_02 = PySem.Challenge.rw_oc0261_02 → (Mine.K1 w.params) = (Mine.K1 w.params) → _) rfl rfl
  k_fill
  intro _ _
  refine spec_of (binds := [("s", .str x t), ("comments", .bool false), ("posix", .bool true)]) (by k_is) (by k_is) (fun _ X => kp_binds X (fun S => by kernel_rfl)) (locs rfl) rfl rfl rfl (by decide) ?_
  intro p loose mean mg mb dp un gd A₀ base g outer L1 s Q hdp hun G F1 N1 hq
  k_with_none
  have XB := G.XB
  have TB := G.TB.toTopRead
  have D1 := G.D
  have B1 := G.B
  have X1 := G.X
  have T1 := G.T.toTopRead
  have T0 : KtsTurn (fsOf outer) g g := KtsTurn.refl
  obtain ⟨m0, F1⟩ : ∃ m0, Fr g L1 _ (put "s" (.str x t) (put "comments" (.bool false) (put "posix" (.bool true) m0))) := ⟨_, (Fr_put (x := "s") (Fr_put (x := "comments") (Fr_put (x := "posix") F1 rfl) rfl) rfl)⟩
  k_with "call ref cons" => ((with_reducible rename Fr _ _ _ _ => F9); (with_reducible rename News _ _ _ _ => N9); refine lex_call hx G F9 N9 rfl (by walk_at "om") (by walk_at "om") ?_; clear G B1 X1 T1 D1 F9 N9; intro lx ld g9 hh9 tk9 news9 G T8 F8 N8 l1 l2 P8; replace T0 := KtsTurn.trans T0 T8; clear T8; obtain ⟨sx, sd, pb, fs, k1, k2, k3, t1, t2, t3, a0, a1, a2, a3, a4, a5, a6, a7, a8, a9, a10, a11, a12, a13, a14, a15, a16, a17, a18, b4, b5, b6, b8, b9, b10, b11, b13, b14, b15, b18, o1, o2, o3, o4, e0⟩ := P8; subst e0; have q1 : ld < sd := o4 _ (.tail _ (.head _)); have q2 : lx < sd := o4 _ (.head _); have e1 : sd ≠ sx := Nat.ne_of_lt o1; have e1' : sx ≠ sd := Nat.ne_of_gt o1; have e2 : ld ≠ sd := Nat.ne_of_lt q1; have e2' : sd ≠ ld := Nat.ne_of_gt q1; have e3 : lx ≠ sd := Nat.ne_of_lt q2; have e3' : sd ≠ lx := Nat.ne_of_gt q2; have e4 : ld ≠ lx := Nat.ne_of_lt l1; have e4' : lx ≠ ld := Nat.ne_of_gt l1; have e5 : ld ≠ sx := Nat.ne_of_lt (Nat.lt_trans q1 o1); have e5' : sx ≠ ld := Nat.ne_of_gt (Nat.lt_trans q1 o1); have e6 : ld ≠ pb := Nat.ne_of_lt (Nat.lt_trans (Nat.lt_trans q1 o1) o2); have e6' : pb ≠ ld := Nat.ne_of_gt (Nat.lt_trans (Nat.lt_trans q1 o1) o2); have e7 : ld ≠ fs := Nat.ne_of_lt (Nat.lt_trans (Nat.lt_trans (Nat.lt_trans q1 o1) o2) o3); have e7' : fs ≠ ld := Nat.ne_of_gt (Nat.lt_trans (Nat.lt_trans (Nat.lt_trans q1 o1) o2) o3); have e8 : sd ≠ pb := Nat.ne_of_lt (Nat.lt_trans o1 o2); have e8' : pb ≠ sd := Nat.ne_of_gt (Nat.lt_trans o1 o2); have e9 : sd ≠ fs := Nat.ne_of_lt (Nat.lt_trans (Nat.lt_trans o1 o2) o3); have e9' : fs ≠ sd := Nat.ne_of_gt (Nat.lt_trans (Nat.lt_trans o1 o2) o3); have e10 : ∀ q ∈ news, q.1 ≠ ld := fun q hq => Nat.ne_of_lt (l2 q hq); have D1 := G.D; have B1 := G.B; have X1 := G.X; have T1 := G.T.toTopRead)
  repeat (first | (k_unfold; (try dsimp only)) | (with_reducible refine execs_one ?_) | ((fail_if_success (with_reducible show wpAny _ _ (PySem.call (Value.type "list") _ _) _ _ _)); walk1))
  (with_reducible rename Fr _ _ _ _ => F9); (with_reducible rename News _ _ _ _ => N9)
  refine c_list2 hx hn hz ⟨e1', e1, e3, e2, e5', e2', e4', e8', e9', e6', e7'⟩ (rest := news) (fun q hq h9 => ?_) G F9 N9 rfl (by walk_at "om") (by walk_at "om") ?_
  · rcases List.mem_cons.mp h9 with e | e
    · exact Nat.ne_of_lt (Nat.lt_trans (l2 q hq) q1) e
    · exact e10 q hq (List.mem_singleton.mp e)
  · intro S vs c g' h' tk' G' T' F' N' hr
    exact hq _ _ _ _ _ _ (T0.trans T') F' N' ⟨S, vs, c, rfl, hr, rfl⟩

end Mine

end
section
open PySem PySem.W PyProof.Rows PySem.Calls
set_option Elab.async false
namespace Mine

structure Cx (K : Frag) where
  p : Program
  loose : List Str
  mean : ExcName → Option Value
  mg : Str → Option Value
  mb : Str → Option Value
  dp : Nat
  un : Nat
  gd : Option (List Code)
  cn : Str
  cs : Scope
  a : Addr
  ccd : Value
  cl : List (Str × Addr)
  outer : List Env
  A₀ : Around
  base : Heap
  ge : Heap
  L : Addr
  hcs : cs.kind = .function

noncomputable abbrev Cx.A {K : Frag} (c : Cx K) : Around := ktrTop c.dp c.un c.gd c.cn c.cs c.L c.a c.ccd c.cl c.outer

noncomputable abbrev Led := List (Addr × Obj)

structure Rel {K : Frag} (c : Cx K) (m : Str → Option Value) (mu fz : Led) (h : Heap) : Prop where
  ex : ∃ h₀, Gd K c.p c.loose c.mean c.mg c.mb c.A₀ c.base c.outer h₀ ∧ KtsTurn (fsOf c.outer) c.ge h₀ ∧ Fr h₀ c.L h m ∧ News h₀ c.L h (mu ++ fz)
  off : ∀ p ∈ mu, ∀ q ∈ fz, p.1 ≠ q.1
  nd : mu.Pairwise (fun p q => p.1 ≠ q.1)

noncomputable abbrev Sub (a b : Led) : Prop := ∀ p ∈ a, p ∈ b
theorem Sub.trans {a b c : Led} (x : Sub a b) (y : Sub b c) : Sub a c := fun p hp => y p (x p hp)

section
variable {K : Frag} {c : Cx K} {m : Str → Option Value} {mu fz fz' : Led} {h h' : Heap}
theorem Rel.get (R : Rel c m mu fz h) {p : Addr × Obj} (hp : p ∈ mu ++ fz) : h.get? p.1 = some p.2 := by
  obtain ⟨h₀, _, _, _, N⟩ := R.ex
  exact (N p hp).1
theorem Rel.keeps (R : Rel c m mu fz h) (k : ∀ b o, h.get? b = some o → h'.get? b = some o) : Rel c m mu fz h' := by
  obtain ⟨h₀, G, T, F, N⟩ := R.ex
  exact ⟨⟨h₀, G, T, F.keeps k, N.grown k⟩, R.off, R.nd⟩
theorem Rel.less (R : Rel c m mu fz h) (s : Sub fz' fz) : Rel c m mu fz' h := by
  obtain ⟨h₀, G, T, F, N⟩ := R.ex
  refine ⟨⟨h₀, G, T, F, fun p hp => N p ?_⟩, fun p hp q hq => R.off p hp q (s q hq), R.nd⟩
  rcases List.mem_append.mp hp with x | x
  · exact List.mem_append_left _ x
  · exact List.mem_append_right _ (s p x)
theorem Rel.lt (R : Rel c m mu fz h) {p : Addr × Obj} (hp : p ∈ mu ++ fz) : p.1 < h.objs.size := Heap.lt_size (R.get hp)
theorem Rel.push (R : Rel c m mu fz h) (o : Obj) (hf : autoParam (o.isFreed = false) Mine.sx0) : Rel c m mu ((h.objs.size, o) :: fz) (h.push o) := by
  obtain ⟨h₀, G, T, F, N⟩ := R.ex
  refine ⟨⟨h₀, G, T, F.push o, ?_⟩, fun p hp q hq => ?_, R.nd⟩
  · have N' := News.push F N o hf
    intro p hp
    refine N' p ?_
    rcases List.mem_append.mp hp with x | x
    · exact List.mem_cons_of_mem _ (List.mem_append_left _ x)
    · rcases List.mem_cons.mp x with x | x
      · rw [x]; exact List.mem_cons_self
      · exact List.mem_cons_of_mem _ (List.mem_append_right _ x)
  · rcases List.mem_cons.mp hq with x | x
    · rw [x]; exact Nat.ne_of_lt (R.lt (List.mem_append_left _ hp))
    · exact R.off p hp q x
theorem Rel.pushMu (R : Rel c m mu fz h) (o : Obj) (hf : autoParam (o.isFreed = false) Mine.sx0) : Rel c m ((h.objs.size, o) :: mu) fz (h.push o) := by
  obtain ⟨h₀, G, T, F, N⟩ := R.ex
  refine ⟨⟨h₀, G, T, F.push o, News.push F N o hf⟩, fun p hp q hq => ?_, List.pairwise_cons.mpr ⟨fun q hq => Nat.ne_of_gt (R.lt (List.mem_append_left _ hq)), R.nd⟩⟩
  rcases List.mem_cons.mp hp with x | x
  · rw [x]; exact Nat.ne_of_gt (R.lt (List.mem_append_right _ hq))
  · exact R.off p x q hq
theorem Rel.pop {q : Addr × Obj} (R : Rel c m (q :: mu) fz h) : Rel c m mu fz h := by
  obtain ⟨h₀, G, T, F, N⟩ := R.ex
  exact ⟨⟨h₀, G, T, F, fun p hp => N p (List.mem_cons_of_mem _ hp)⟩, fun p hp => R.off p (List.mem_cons_of_mem _ hp), (List.pairwise_cons.mp R.nd).2⟩
theorem Rel.freeze {q : Addr × Obj} (R : Rel c m (q :: mu) fz h) : Rel c m mu (q :: fz) h := by
  obtain ⟨h₀, G, T, F, N⟩ := R.ex
  obtain ⟨n1, n2⟩ := List.pairwise_cons.mp R.nd
  refine ⟨⟨h₀, G, T, F, fun p hp => N p ?_⟩, fun p hp r hr => ?_, n2⟩
  · rcases List.mem_append.mp hp with x | x
    · exact List.mem_cons_of_mem _ (List.mem_append_left _ x)
    · rcases List.mem_cons.mp x with x | x
      · rw [x]; exact List.mem_cons_self
      · exact List.mem_cons_of_mem _ (List.mem_append_right _ x)
  · rcases List.mem_cons.mp hr with x | x
    · rw [x]; exact fun e => n1 p hp e.symm
    · exact R.off p (List.mem_cons_of_mem _ hp) r x
theorem Rel.perm {mu' : Led} (R : Rel c m mu fz h) (e : mu.Perm mu') : Rel c m mu' fz h := by
  obtain ⟨h₀, G, T, F, N⟩ := R.ex
  refine ⟨⟨h₀, G, T, F, fun p hp => N p ?_⟩, fun p hp => R.off p (e.mem_iff.mpr hp), (e.pairwise_iff fun h q => h q.symm).mp R.nd⟩
  rcases List.mem_append.mp hp with x | x
  · exact List.mem_append_left _ (e.mem_iff.mpr x)
  · exact List.mem_append_right _ x
theorem Rel.turn {a : Addr} {o o' : Obj} (R : Rel c m ((a, o) :: mu) fz h) (hs : ∀ b x, b ≠ a → h.get? b = some x → h'.get? b = some x) (ho : h'.get? a = some o') : Rel c m ((a, o') :: mu) fz h' := by
  obtain ⟨h₀, G, T, F, N⟩ := R.ex
  obtain ⟨n1, n2⟩ := List.pairwise_cons.mp R.nd
  have A := N (a, o) List.mem_cons_self
  refine ⟨⟨h₀, G, T, ⟨F.ns.at' fun x e => hs _ x (Ne.symm A.2.1) e, fun b x e => hs b x (fun q => ?_) (F.keep b x e), F.above⟩, fun p hp => ?_⟩, fun p hp q hq => ?_, List.pairwise_cons.mpr ⟨n1, n2⟩⟩
  · have := A.2.2; rw [← q, e] at this; cases this
  · rcases List.mem_cons.mp hp with x | x
    · rw [x]; exact ⟨ho, A.2⟩
    · have P := N p (List.mem_cons_of_mem _ x)
      refine ⟨hs p.1 p.2 (fun q => ?_) P.1, P.2⟩
      rcases List.mem_append.mp x with x | x
      · exact n1 p x q.symm
      · exact R.off (a, o) List.mem_cons_self p x q.symm
  · rcases List.mem_cons.mp hp with x | x
    · rw [x]; exact R.off (a, o) List.mem_cons_self q hq
    · exact R.off p (List.mem_cons_of_mem _ x) q hq
theorem Rel.turnIn {a : Addr} {o o' : Obj} (l1 : Led) {l2 : Led} (R : Rel c m (l1 ++ (a, o) :: l2) fz h) (hs : ∀ b x, b ≠ a → h.get? b = some x → h'.get? b = some x) (ho : h'.get? a = some o') : Rel c m (l1 ++ (a, o') :: l2) fz h' :=
  ((R.perm List.perm_middle).turn hs ho).perm List.perm_middle.symm
theorem Rel.popBut {a : Addr} {o : Obj} (R : Rel c m ((a, o) :: mu) fz h) (hs : ∀ b x, b ≠ a → h.get? b = some x → h'.get? b = some x) : Rel c m mu fz h' := by
  obtain ⟨h₀, G, T, F, N⟩ := R.ex
  obtain ⟨n1, n2⟩ := List.pairwise_cons.mp R.nd
  have A := N (a, o) List.mem_cons_self
  refine ⟨⟨h₀, G, T, ⟨F.ns.at' fun x e => hs _ x (Ne.symm A.2.1) e, fun b x e => hs b x (fun q => ?_) (F.keep b x e), F.above⟩, fun p hp => ?_⟩, fun p hp => R.off p (List.mem_cons_of_mem _ hp), n2⟩
  · have := A.2.2; rw [← q, e] at this; cases this
  · have P := N p (List.mem_cons_of_mem _ hp)
    refine ⟨hs p.1 p.2 (fun q => ?_) P.1, P.2⟩
    rcases List.mem_append.mp hp with x | x
    · exact n1 p x q.symm
    · exact R.off (a, o) List.mem_cons_self p x q.symm
theorem Rel.put {m' : Str → Option Value} (R : Rel c m mu fz h) (hn : h'.Ns c.L m') (hs : Heap.SameBut c.L h h') : Rel c m' mu fz h' := by
  obtain ⟨h₀, G, T, F, N⟩ := R.ex
  exact ⟨⟨h₀, G, T, F.set hn hs, N.set hs⟩, R.off, R.nd⟩
theorem Rel.in_ (R : Rel c m mu fz h) : K.In h := by
  obtain ⟨h₀, G, T, F, N⟩ := R.ex
  exact G.X.keeps F.keep
theorem Rel.noLimit (R : Rel c m mu fz h) : h.NoLimit := by
  obtain ⟨h₀, G, T, F, N⟩ := R.ex
  exact G.T.nolimit.keeps F.keep
end

inductive Slot where
  | val (d : Dat)
  | own (ds : List Dat)
noncomputable abbrev St := List (Str × Slot)

noncomputable def NsO (o : Obj) (m : Str → Option Value) : Prop := ∃ es ep, o.data = .dict es ep ∧ StrKeys es ∧ ∀ name, nsFind es name = m name

inductive At {K : Frag} (c : Cx K) (env : Env) (m : Str → Option Value) (mu : Led) (x : Str) (v : Value) : Prop
  | loc : env.kindOf x = some .local → env.locals = c.L → m x = some v → At c env m mu x v
  | blk {o : Obj} {mc : Str → Option Value} : env.kindOf x = some .local → (env.locals, o) ∈ mu → NsO o mc → mc x = some v → At c env m mu x v
  | cell {a : Addr} {o : Obj} : env.kindOf x = some .cell → env.cells.lookup x = some a → (a, o) ∈ mu → o.data = .cell (some v) → At c env m mu x v

structure Sat {K : Frag} (c : Cx K) (env : Env) (S : St) (m : Str → Option Value) (mu fz : Led) : Prop where
  kind : env.scope.kind = .function
  glob : env.globals = mainGlobals
  bult : env.builtins = builtinsNs
  val : ∀ x d, S.lookup x = some (.val d) → ∃ v, At c env m mu x v ∧ DatIn fz v d
  own : ∀ x ds, S.lookup x = some (.own ds) → ∃ a vs n, At c env m mu x (.ref a) ∧ (a, listOf vs.toArray n) ∈ mu ∧ DatAll fz vs ds

theorem Sat.mono {K : Frag} {c : Cx K} {env : Env} {S : St} {m : Str → Option Value} {mu fz fz' : Led} (X : Sat c env S m mu fz) (s : Sub fz fz') : Sat c env S m mu fz' :=
  ⟨X.kind, X.glob, X.bult, fun x d e => let ⟨v, a, b⟩ := X.val x d e; ⟨v, a, b.mono s⟩, fun x ds e => let ⟨a, vs, n, h1, h2, h3⟩ := X.own x ds e; ⟨a, vs, n, h1, h2, h3.mono s⟩⟩

noncomputable def Ev (prog : Program) (w : World) {K : Frag} (c : Cx K) (env : Env) (S : St) (e : Expr) (d : Dat) : Prop :=
  ∀ m mu fz (s : Shared) (Q : Value → Shared → Prop), Rel c m mu fz s.heap → Sat c env S m mu fz →
    (∀ v fz' h' tk', Sub fz fz' → Rel c m mu fz' h' → DatIn fz' v d → Q v { s with heap := h', toks := tk' }) →
    wpAny (model prog w) c.A (eval e env) Q NoE s
noncomputable def EvB (prog : Program) (w : World) {K : Frag} (c : Cx K) (env : Env) (S : St) (e : Expr) (d : Dat) : Prop :=
  ∀ m mu fz (s : Shared) (Q : Value → Shared → Prop), Rel c m mu fz s.heap → Sat c env S m mu fz →
    (∀ v fz' h' tk', Sub fz fz' → Rel c m mu fz' h' → DatIn (mu ++ fz') v d → Q v { s with heap := h', toks := tk' }) →
    wpAny (model prog w) c.A (eval e env) Q NoE s
noncomputable def Tst (prog : Program) (w : World) {K : Frag} (c : Cx K) (env : Env) (S : St) (e : Expr) (b : Bool) : Prop :=
  ∀ m mu fz (s : Shared) (Q : Bool → Shared → Prop), Rel c m mu fz s.heap → Sat c env S m mu fz →
    (∀ fz' h' tk', Sub fz fz' → Rel c m mu fz' h' → Q b { s with heap := h', toks := tk' }) →
    wpAny (model prog w) c.A (isTrue e env (eval e env)) Q NoE s
noncomputable def EvL (prog : Program) (w : World) {K : Frag} (c : Cx K) (env : Env) (S : St) (es : List Expr) (ds : List Dat) : Prop :=
  ∀ m mu fz (s : Shared) (pos : Pos) (Q : List Value → Shared → Prop), Rel c m mu fz s.heap → Sat c env S m mu fz →
    (∀ vs fz' h' tk', Sub fz fz' → Rel c m mu fz' h' → DatAll fz' vs ds → Q vs { s with heap := h', toks := tk' }) →
    wpAny (model prog w) c.A (spliced (backTo pos (starEach es env))) Q NoE s

theorem sub_app {mu fz : Led} : Sub fz (mu ++ fz) := fun _ h => List.mem_append_right _ h

section
variable {prog : Program} {w : World} {K : Frag} {c : Cx K} {env : Env} {S : St}
theorem Ev.b {e : Expr} {d : Dat} (h : Ev prog w c env S e d) : EvB prog w c env S e d := fun m mu fz s Q R X k => h m mu fz s Q R X fun v fz' h' tk' a b d => k v fz' h' tk' a b (d.mono sub_app)
theorem EvB.int {e : Expr} {i : Int} (h : EvB prog w c env S e (.int i)) : Ev prog w c env S e (.int i) := fun m mu fz s Q R X k => h m mu fz s Q R X fun v fz' h' tk' a b d => k v fz' h' tk' a b (by cases d; exact .int _ _)

theorem load_at {x : Str} {v : Value} {m : Str → Option Value} {mu fz : Led} {s : Shared} {Q : Value → Shared → Prop} {E : Value → Shared → Prop} (R : Rel c m mu fz s.heap) (hk : env.scope.kind = .function) (a : At c env m mu x v) (h : Q v s) :
    wpAny (model prog w) c.A (loadName env x) Q E s := by
  obtain ⟨h₀, G, T, F, N⟩ := R.ex
  cases a with
  | loc k e hm => exact wpAny_loadName_local hk k (e ▸ F.ns) hm h
  | blk k hm o hv =>
    obtain ⟨es, ep, o1, o2, o3⟩ := o
    exact wpAny_loadName_local hk k ⟨_, es, ep, (N _ (List.mem_append_left _ hm)).1, o1, o2, o3⟩ hv h
  | cell k hc hm o => exact wpAny_loadName_cell hk k hc ⟨_, (N _ (List.mem_append_left _ hm)).1, o⟩ h

theorem Ev.name {x : Str} {pos : Pos} {d : Dat} (hx : S.lookup x = some (.val d)) (hd : autoParam ((x == ("__debug__" : Str)) = false) Mine.sx3) : Ev prog w c env S (.Name x pos) d := by
  intro m mu fz s Q R X k
  obtain ⟨v, a, D⟩ := X.val x d hx
  exact wpAny_Name (load_at R X.kind a (k v fz s.heap s.toks (fun _ h => h) R D)) hd
theorem Ev.cInt {i : Int} {k : Nat} {pos : Pos} : Ev prog w c env S (.Constant (.int i) k pos) (.int i) := fun _ _ fz s _ R _ q => wpAny_Constant_int (q _ fz s.heap _ (fun _ h => h) R (.int _ _))
theorem Ev.cStr {x : Str} {k : Nat} {pos : Pos} : Ev prog w c env S (.Constant (.str x) k pos) (.str x) := fun _ _ fz s _ R _ q => Constant_str (q _ fz s.heap _ (fun _ h => h) R (.str _ _))
theorem Ev.cNone {k : Nat} {pos : Pos} : Ev prog w c env S (.Constant .none k pos) .none := fun _ _ fz s _ R _ q => wpAny_pure (q _ fz s.heap s.toks (fun _ h => h) R .none)
theorem EvL.nil : EvL prog w c env S [] [] := fun _ _ fz s _ _ R _ k => spliced_nil (k [] fz s.heap s.toks (fun _ h => h) R .nil)
theorem EvL.cons {e : Expr} {es : List Expr} {d : Dat} {ds : List Dat} (he : Ev prog w c env S e d) (hs : EvL prog w c env S es ds) (hn : autoParam (∀ rest, starEach (e :: rest) env = (false, eval e env) :: starEach rest env) Mine.sx1) : EvL prog w c env S (e :: es) (d :: ds) := by
  intro m mu fz s pos Q R X k
  rw [hn]
  show wpAny _ _ (spliced ((false, eval e env) :: backTo pos (starEach es env))) _ _ _
  refine spliced_cons (he m mu fz s _ R X fun v fz1 h1 t1 s1 R1 D1 => ?_)
  refine hs m mu fz1 _ pos _ R1 (X.mono s1) fun vs fz2 h2 t2 s2 R2 D2 => ?_
  exact k (v :: vs) fz2 h2 t2 (s1.trans s2) R2 (.cons (D1.mono s2) D2)

theorem Ev.binInt {l r : Expr} {op : Operator} {pos : Pos} {a b z : Int} (hl : Ev prog w c env S l (.int a)) (hr : Ev prog w c env S r (.int b))
    (hop : ∀ (t u : Tok) (s : Shared) (Q : Value → Shared → Prop), s.heap.NoLimit → (∀ t' tk', Q (.int z t') { s with toks := tk' }) → wpAny (model prog w) c.A (binaryOp op (.int a t) (.int b u)) Q NoE s) :
    Ev prog w c env S (.BinOp l op r pos) (.int z) := by
  intro m mu fz s Q R X k
  refine wpAny_BinOp (hl m mu fz s _ R X fun v fz1 h1 t1 s1 R1 D1 => ?_)
  refine hr m mu fz1 _ _ R1 (X.mono s1) fun v2 fz2 h2 t2 s2 R2 D2 => ?_
  cases D1; cases D2
  exact hop _ _ _ _ R2.noLimit fun t' tk' => k _ fz2 h2 tk' (s1.trans s2) R2 (.int _ _)
theorem Ev.add {l r : Expr} {pos : Pos} {a b : Int} (hl : Ev prog w c env S l (.int a)) (hr : Ev prog w c env S r (.int b)) : Ev prog w c env S (.BinOp l .Add r pos) (.int (a + b)) := Ev.binInt hl hr fun _ _ _ _ _ h => PyProof.Rows.add_int (h _ _)
theorem Ev.sub {l r : Expr} {pos : Pos} {a b : Int} (hl : Ev prog w c env S l (.int a)) (hr : Ev prog w c env S r (.int b)) : Ev prog w c env S (.BinOp l .Sub r pos) (.int (a - b)) := Ev.binInt hl hr fun _ _ _ _ _ h => PyProof.Rows.sub_int (h _ _)
theorem Ev.mul {l r : Expr} {pos : Pos} {a b : Int} (hl : Ev prog w c env S l (.int a)) (hr : Ev prog w c env S r (.int b)) (hm : IntMulOk a b) : Ev prog w c env S (.BinOp l .Mult r pos) (.int (a * b)) := Ev.binInt hl hr fun _ _ _ _ _ h => PyProof.Rows.mul_int (h _ _) hm
theorem Ev.fdiv {l r : Expr} {pos : Pos} {a b : Int} (hl : Ev prog w c env S l (.int a)) (hr : Ev prog w c env S r (.int b)) (hb : b ≠ 0) (hs : b.natAbs < 1073741824) : Ev prog w c env S (.BinOp l .FloorDiv r pos) (.int (a.fdiv b)) :=
  Ev.binInt hl hr fun _ _ _ _ _ h => PyProof.Rows.floordiv_int hb (h _ _) (.inl (PyProof.noPylong_small hs))
theorem Ev.fmod {l r : Expr} {pos : Pos} {a b : Int} (hl : Ev prog w c env S l (.int a)) (hr : Ev prog w c env S r (.int b)) (hb : b ≠ 0) : Ev prog w c env S (.BinOp l .Mod r pos) (.int (a.fmod b)) := Ev.binInt hl hr fun _ _ _ _ _ h => mod_int' hb (h _ _)
theorem Ev.addStr {l r : Expr} {pos : Pos} {a b : Str} (hl : Ev prog w c env S l (.str a)) (hr : Ev prog w c env S r (.str b)) (hz : a.length + b.length ≤ sizeLine) : Ev prog w c env S (.BinOp l .Add r pos) (.str (a ++ b)) := by
  intro m mu fz s Q R X k
  refine wpAny_BinOp (hl m mu fz s _ R X fun v fz1 h1 t1 s1 R1 D1 => ?_)
  refine hr m mu fz1 _ _ R1 (X.mono s1) fun v2 fz2 h2 t2 s2 R2 D2 => ?_
  cases D1; cases D2
  exact PyProof.Rows.add_str (fun t' tk' => k _ fz2 h2 tk' (s1.trans s2) R2 (.str _ _)) hz
end
end Mine

end
section
open PySem PySem.W PyProof.Rows PySem.Calls
set_option Elab.async false
namespace Mine

noncomputable def DFun (prog : Program) (w : World) (K : Frag) (f : Addr) (d u : Nat) (ds : List Dat) (r : Dat) : Prop :=
  ∀ vs fz, DatAll fz vs ds → Spec prog w K f vs d u fz (fun v fz' => Sub fz fz' ∧ DatIn fz' v r)

section
variable {K : Frag} {c : Cx K} {m : Str → Option Value} {mu fz fz' : Led} {h h' h₀ : Heap}
theorem Rel.mk1 {a : Addr} {o : Obj} (G : Gd K c.p c.loose c.mean c.mg c.mb c.A₀ c.base c.outer h₀) (T : KtsTurn (fsOf c.outer) c.ge h₀) (F : Fr h₀ c.L h' m) (N : News h₀ c.L h' ((a, o) :: (mu ++ fz)))
    (off : ∀ p ∈ mu, ∀ q ∈ fz, p.1 ≠ q.1) (nd : mu.Pairwise (fun p q => p.1 ≠ q.1)) (ha : ∀ p ∈ mu, p.1 ≠ a) : Rel c m mu ((a, o) :: fz) h' := by
  refine ⟨⟨h₀, G, T, F, fun p hp => N p ?_⟩, fun p hp q hq => ?_, nd⟩
  · rcases List.mem_append.mp hp with x | x
    · exact List.mem_cons_of_mem _ (List.mem_append_left _ x)
    · rcases List.mem_cons.mp x with x | x
      · rw [x]; exact List.mem_cons_self
      · exact List.mem_cons_of_mem _ (List.mem_append_right _ x)
  · rcases List.mem_cons.mp hq with x | x
    · rw [x]; exact ha p hp
    · exact off p hp q x
end

section
variable {prog : Program} {w : World} {K : Frag} {c : Cx K} {env : Env} {S : St}

theorem load_builtin {x : Str} {pos : Pos} {v : Value} {m : Str → Option Value} {mu fz : Led} {s : Shared} {Q : Value → Shared → Prop} {E : Value → Shared → Prop} (R : Rel c m mu fz s.heap) (X : Sat c env S m mu fz)
    (hx : env.kindOf x = some .globalImplicit) (e : nsIn K mainGlobals x = some none) (hv : bootBuiltins x = some v) (hn : x ≠ "__name__") (hd : (x == ("__debug__" : Str)) = false) (h : Q v s) :
    wpAny (model prog w) c.A (eval (.Name x pos) env) Q E s := by
  obtain ⟨h₀, G, T, F, N⟩ := R.ex
  exact Name_function_global X.kind hx (loadGlobal_builtin (by rw [X.glob]; exact G.T.g.keeps F.keep) (mg_none_of G.X G.T.g e) (by rw [X.bult]; exact G.T.b.keeps F.keep) ((G.T.builtins x hn).trans hv) h) hd
theorem load_global {x : Str} {pos : Pos} {v : Value} {m : Str → Option Value} {mu fz : Led} {s : Shared} {Q : Value → Shared → Prop} {E : Value → Shared → Prop} (R : Rel c m mu fz s.heap) (X : Sat c env S m mu fz)
    (hx : env.kindOf x = some .globalImplicit) (e : nsIn K mainGlobals x = some (some v)) (hd : (x == ("__debug__" : Str)) = false) (h : Q v s) :
    wpAny (model prog w) c.A (eval (.Name x pos) env) Q E s := by
  obtain ⟨h₀, G, T, F, N⟩ := R.ex
  exact Name_function_global X.kind hx (loadGlobal_global (by rw [X.glob]; exact G.T.g.keeps F.keep) (mg_of G.X G.T.g e) h) hd

theorem call_d {f : Addr} {vs : List Value} {ds : List Dat} {r : Dat} {d u : Nat} {m : Str → Option Value} {mu fz : Led} {s : Shared} {Q : Value → Shared → Prop} {E : Value → Shared → Prop} (D : DFun prog w K f d u ds r)
    (hd : c.dp + d < recursionLimit) (hu : c.un + u < cLine) (R : Rel c m mu fz s.heap) (Dv : DatAll fz vs ds)
    (k : ∀ v fz' h' tk', Sub fz fz' → Rel c m mu fz' h' → DatIn fz' v r → Q v { s with heap := h', toks := tk' }) : wpAny (model prog w) c.A (PySem.call (.ref f) vs) Q E s := by
  obtain ⟨h₀, G, T, F, N⟩ := R.ex
  refine wpAny_call (D vs fz Dv c.p c.loose c.mean c.mg c.mb c.dp c.un c.gd c.cn c.cs c.a c.ccd c.cl c.outer c.A₀ c.base h₀ c.L m s _ G F (fun p hp => N p (List.mem_append_right _ hp)) c.hcs hd hu fun v g' h' tk' news' G' T' F' N' O' P' => ?_)
  obtain ⟨sub, Dr⟩ := P'
  have nL : ∀ p ∈ mu, p.1 ≠ c.L := fun p hp => (N p (List.mem_append_left _ hp)).2.1
  have nf : ∀ p ∈ mu, p.1 ∉ fz.map (·.1) := fun p hp q => by
    obtain ⟨r, hr, e⟩ := List.mem_map.mp q
    exact R.off p hp r hr e.symm
  have no : ∀ p ∈ mu, p.1 ∉ fsOf c.outer := fun p hp q => by
    obtain ⟨o, es, n, ho, _⟩ := G.D p.1 q
    have := (N p (List.mem_append_left _ hp)).2.2
    rw [ho] at this; cases this
  have kp : ∀ p ∈ mu, h'.get? p.1 = some p.2 := fun p hp => O'.keep p.1 p.2 (N p (List.mem_append_left _ hp)).1 (nf p hp) (nL p hp) (no p hp)
  refine k v news' h' tk' sub ⟨⟨g', G', T.trans T', F', fun p hp => ?_⟩, fun p hp q hq e => ?_, R.nd⟩ Dr
  · rcases List.mem_append.mp hp with x | x
    · exact ⟨kp p x, nL p x, T'.none_ _ (N p (List.mem_append_left _ x)).2.2⟩
    · exact N' p x
  · rcases O'.fresh q hq with x | x
    · exact nf p hp (e ▸ x)
    · rw [← e, (N p (List.mem_append_left _ hp)).1] at x; cases x

noncomputable def isDef (K : Frag) (f : Addr) : Bool := match K.lookup f with
  | some ⟨_, _, .func _, _⟩ => true
  | _ => false
theorem isDef_of {f : Addr} {oc : Value} {od : Option Addr} {fd : FuncData} {sl : Array (Option Value)} (h : K.lookup f = some ⟨oc, od, .func fd, sl⟩) : isDef K f = true := by unfold isDef; rw [h]
theorem isDef_get {f : Addr} {h : Heap} (X : K.In h) (e : isDef K f = true) : ∃ o fd, h.get? f = some o ∧ o.data = .func fd := by
  unfold isDef at e
  split at e
  · rename_i q; exact ⟨_, _, X _ _ q, rfl⟩
  · cases e

theorem Ev.call {x : Str} {np pos : Pos} {f : Addr} {e : Expr} {es : List Expr} {ds : List Dat} {r : Dat} {d u : Nat} (ha : EvL prog w c env S (e :: es) ds) (D : DFun prog w K f d u ds r)
    (hx : env.kindOf x = some .globalImplicit) (hg : nsIn K mainGlobals x = some (some (.ref f))) (hf : isDef K f = true) (hd : c.dp + d < recursionLimit) (hu : c.un + u < cLine)
    (hn : autoParam (starEach (e :: es) env = (false, eval e env) :: starEach es env) Mine.sx0) (hb : autoParam ((x == ("__debug__" : Str)) = false) Mine.sx3) : Ev prog w c env S (.Call (.Name x np) (e :: es) [] pos) r := by
  intro m mu fz s Q R X k
  refine wpAny_Call_Name_kw (load_global R X hx hg hb ?_)
  obtain ⟨o, fd, ho, hdt⟩ := isDef_get R.in_ hf
  refine callWith_function_kw (o := o) (fd := fd) ?_
  have E1 := ha m mu fz s pos
  rw [hn] at E1 ⊢
  refine evalArgs_plain (E1 _ R X fun vs fz1 h1 t1 s1 R1 D1 => ?_)
  refine ⟨?_, call_d D hd hu R1 D1 fun v fz2 h2 t2 s2 R2 D2 => k v fz2 h2 t2 (s1.trans s2) R2 D2⟩
  obtain ⟨o', fd', ho', hdt'⟩ := isDef_get R1.in_ hf
  have := R1.in_ f
  unfold isDef at hf
  split at hf
  · rename_i q
    have a1 := R.in_ _ _ q
    have a2 := R1.in_ _ _ q
    rw [a1] at ho; cases ho
    exact ⟨a2, hdt⟩
  · cases hf

noncomputable def CmpR (prog : Program) (w : World) (A : Around) (op : CmpOp) (d e : Dat) (b : Bool) : Prop :=
  ∀ (h₀ : Heap) (L : Addr) (nw : Led) v1 v2 (s : Shared) (Q : Value → Shared → Prop), News h₀ L s.heap nw → DatIn nw v1 d → DatIn nw v2 e → Q (.bool b) s → wpAny (model prog w) A (compareOp op v1 v2) Q NoE s

theorem Tst.cmp {l r : Expr} {op : CmpOp} {pos : Pos} {d e : Dat} {b : Bool} (hl : EvB prog w c env S l d) (hr : EvB prog w c env S r e) (h : CmpR prog w c.A op d e b) (hm : autoParam (behindInMarks op r = false) Mine.sx0) :
    Tst prog w c env S (.Compare l [op] [r] pos) b := by
  intro m mu fz s Q R X k
  refine wpAny_isTrue_Compare1 (hl m mu fz s _ R X fun v fz1 h1 t1 s1 R1 D1 => ?_) hm
  refine hr m mu fz1 _ _ R1 (X.mono s1) fun v2 fz2 h2 t2 s2 R2 D2 => ?_
  obtain ⟨h₀, G, T, F, N⟩ := R2.ex
  refine h h₀ c.L (mu ++ fz2) _ _ _ _ N (D1.mono fun p hp => (List.mem_append.mp hp).elim (fun x => List.mem_append_left _ x) fun x => List.mem_append_right _ (s2 p x)) D2 ?_
  exact wpAny_truthy_bool (k fz2 h2 t2 (s1.trans s2) R2)
theorem Ev.cmp {l r : Expr} {op : CmpOp} {pos : Pos} {d e : Dat} {b : Bool} (hl : EvB prog w c env S l d) (hr : EvB prog w c env S r e) (h : CmpR prog w c.A op d e b) (hm : autoParam (behindInMarks op r = false) Mine.sx0) :
    Ev prog w c env S (.Compare l [op] [r] pos) (.bool b) := by
  intro m mu fz s Q R X k
  refine wpAny_Compare1 (hl m mu fz s _ R X fun v fz1 h1 t1 s1 R1 D1 => ?_) hm
  refine hr m mu fz1 _ _ R1 (X.mono s1) fun v2 fz2 h2 t2 s2 R2 D2 => ?_
  obtain ⟨h₀, G, T, F, N⟩ := R2.ex
  refine h h₀ c.L (mu ++ fz2) _ _ _ _ N (D1.mono fun p hp => (List.mem_append.mp hp).elim (fun x => List.mem_append_left _ x) fun x => List.mem_append_right _ (s2 p x)) D2 ?_
  exact k _ fz2 h2 t2 (s1.trans s2) R2 (.bool b)
end

section
variable {prog : Program} {w : World} {A : Around} {d e : Dat} {b : Bool}
theorem shaped_of (h : kqdOk 9 d = true) : SeqAt.shaped (kqdP d) = true := by
  have l := kqd_lay 9 d h
  unfold SeqAt.shaped; rw [l.1, Bool.true_and]; exact decide_eq_true (Nat.le_trans l.2 (by decide))
theorem eqv_of (h1 : kqdOk 9 d = true) (h2 : kqdOk 9 e = true) (hb : b = true ↔ d = e) : PyData.eqv (kqdP d) (kqdP e) = b := by
  have q := kqd_eqv 9 d e 9 h1 h2
  cases b with
  | true => exact q.mpr (hb.mp rfl)
  | false => exact Bool.eq_false_iff.mpr fun x => by have := hb.mpr (q.mp x); cases this
theorem CmpR.eq (h1 : kqdOk 9 d = true) (h2 : kqdOk 9 e = true) (hu : A.units + 64 < cLine) (hb : b = true ↔ d = e) : CmpR prog w A .Eq d e b := by
  intro h₀ L nw v1 v2 s Q N D1 D2 k
  obtain ⟨as, r1⟩ := kqd_in N 9 D1 h1
  obtain ⟨bs, r2⟩ := kqd_in N 9 D2 h2
  exact eq_dataH r1 r2 (shaped_of h1) (shaped_of h2) hu (by rw [eqv_of h1 h2 hb]; exact k)
theorem CmpR.ne (h1 : kqdOk 9 d = true) (h2 : kqdOk 9 e = true) (hu : A.units + 64 < cLine) (hb : b = true ↔ d = e) : CmpR prog w A .NotEq d e (!b) := by
  intro h₀ L nw v1 v2 s Q N D1 D2 k
  obtain ⟨as, r1⟩ := kqd_in N 9 D1 h1
  obtain ⟨bs, r2⟩ := kqd_in N 9 D2 h2
  exact ne_dataH r1 r2 (shaped_of h1) (shaped_of h2) hu (by rw [eqv_of h1 h2 hb]; exact k)
theorem CmpR.gt {a b : Int} : CmpR prog w A .Gt (.int a) (.int b) (decide (b < a)) := by
  intro h₀ L nw v1 v2 s Q N D1 D2 k
  cases D1; cases D2
  exact PyProof.Rows.gt_int k
theorem CmpR.eqInt {a b : Int} : CmpR prog w A .Eq (.int a) (.int b) (a == b) := by
  intro h₀ L nw v1 v2 s Q N D1 D2 k
  cases D1; cases D2
  exact PyProof.Rows.eq_int k
theorem CmpR.neInt {a b : Int} : CmpR prog w A .NotEq (.int a) (.int b) (a != b) := by
  intro h₀ L nw v1 v2 s Q N D1 D2 k
  cases D1; cases D2
  exact PyProof.Rows.ne_int k
theorem CmpR.isNone (hb : b = true ↔ d = .none) : CmpR prog w A .Is d .none b := by
  intro h₀ L nw v1 v2 s Q N D1 D2 k
  cases D2
  refine is_none_gen ?_
  have : (v1 == Value.none) = b := by
    cases D1 <;> cases b <;> first | rfl | (simp at hb; done) | simp_all
  rw [this]; exact k
theorem CmpR.notIn {ds : List Dat} (h1 : ∀ x ∈ ds, kqdOk 8 x = true) (h2 : kqdOk 8 d = true) (hu : A.units + 64 < cLine) (hb : b = true ↔ d ∈ ds) : CmpR prog w A .NotIn d (.list ds) (!b) := by
  intro h₀ L nw v1 v2 s Q N D1 D2 k
  cases D2 with
  | list hm r =>
    refine kqd_notIn N hm rfl rfl r (fun _ h => h) D1 (fun _ h => h) h1 h2 hu ?_
    have : ∀ i : Decidable (d ∈ ds), @decide _ i = b := fun i => by
      cases b with
      | true => exact decide_eq_true (hb.mp rfl)
      | false => exact decide_eq_false fun x => by have := hb.mpr x; cases this
    rw [this]; exact k
theorem CmpR.isIn {ds : List Dat} (h1 : ∀ x ∈ ds, kqdOk 8 x = true) (h2 : kqdOk 8 d = true) (hu : A.units + 64 < cLine) (hb : b = true ↔ d ∈ ds) : CmpR prog w A .In d (.list ds) b := by
  intro h₀ L nw v1 v2 s Q N D1 D2 k
  cases D2 with
  | list hm r =>
    refine kqd_isIn N hm rfl rfl r (fun _ h => h) D1 (fun _ h => h) h1 h2 hu ?_
    have : ∀ i : Decidable (d ∈ ds), @decide _ i = b := fun i => by
      cases b with
      | true => exact decide_eq_true (hb.mp rfl)
      | false => exact decide_eq_false fun x => by have := hb.mpr x; cases this
    rw [this]; exact k
end
end Mine

end
section
open PySem PySem.W PyProof.Rows PySem.Calls
set_option Elab.async false
namespace Mine

noncomputable abbrev intsD (ns : List Int) : List Dat := ns.map Dat.int
noncomputable abbrev strsD (ss : List Str) : List Dat := ss.map Dat.str
noncomputable abbrev upTo (n : Nat) : List Int := (List.range n).map fun (i : Nat) => (i : Int)

theorem intsAre_of {nw : Led} : ∀ {vs : List Value} {ns : List Int}, DatAll nw vs (intsD ns) → IntsAre vs ns
  | [], [], _ => .nil
  | _ :: _, [], h => by cases h
  | [], _ :: _, h => by cases h
  | v :: vs, n :: ns, h => by
    cases h with
    | cons a b => cases a; exact .cons _ _ (intsAre_of b)
theorem datAll_ints {nw : Led} : ∀ {vs : List Value} {ns : List Int}, IntsAre vs ns → DatAll nw vs (intsD ns) := by
  intro vs ns h
  induction h with
  | nil => exact .nil
  | cons n t _ ih => exact .cons (.int _ _) ih

theorem isList_at {h : Heap} {a : Addr} {vs : List Value} {n : Nat} (e : h.get? a = some (listOf vs.toArray n)) : h.IsList a vs.toArray := ⟨_, e, rfl, n, rfl⟩

section
variable {prog : Program} {w : World} {K : Frag} {c : Cx K} {env : Env} {S : St}

theorem sub_cons {a : Addr × Obj} {l : Led} : Sub l (a :: l) := fun _ h => List.mem_cons_of_mem _ h

theorem new_list {vs : List Value} {ds : List Dat} {m : Str → Option Value} {mu fz : Led} {s : Shared} {Q : Value → Shared → Prop} {E : Value → Shared → Prop} (R : Rel c m mu fz s.heap) (D : DatAll fz vs ds) (hz : ds.length ≤ sizeLine)
    (k : ∀ v fz' h' tk', Sub fz fz' → Rel c m mu fz' h' → DatIn fz' v (.list ds) → Q v { s with heap := h', toks := tk' }) : wpAny (model prog w) c.A (newList vs) Q E s := by
  refine wpAny_newObj_type (k _ _ _ s.toks sub_cons (R.push (listOf vs.toArray 0)) (.list List.mem_cons_self (D.mono sub_cons))) ?_
  show vs.toArray.size ≤ sizeLine
  rw [List.size_toArray, D.length]; exact hz
theorem Ev.list {es : List Expr} {ds : List Dat} {pos : Pos} (h : EvL prog w c env S es ds) (hz : ds.length ≤ sizeLine) : Ev prog w c env S (.List es pos) (.list ds) := by
  intro m mu fz s Q R X k
  refine List_ (h m mu fz s pos _ R X fun vs fz1 h1 t1 s1 R1 D1 => ?_)
  exact new_list R1 D1 hz fun v fz2 h2 t2 s2 R2 D2 => k v fz2 h2 t2 (s1.trans s2) R2 D2
theorem Ev.tuple {es : List Expr} {ds : List Dat} {pos : Pos} {kk : Nat} (h : EvL prog w c env S es ds) (hz : ds.length ≤ sizeLine) : Ev prog w c env S (.Tuple es kk pos) (.tuple ds) := by
  intro m mu fz s Q R X k
  refine Tuple_ (h m mu fz s pos _ R X fun vs fz1 h1 t1 s1 R1 D1 => ?_)
  refine wpAny_newObj_type (k _ _ _ _ (s1.trans sub_cons) (R1.push { cls := .type "tuple", data := .seq vs.toArray 0 }) (.tuple List.mem_cons_self (D1.mono sub_cons))) ?_
  show vs.toArray.size ≤ sizeLine
  rw [List.size_toArray, D1.length]; exact hz

theorem Ev.neg {e : Expr} {pos : Pos} {a : Int} (h : Ev prog w c env S e (.int a)) : Ev prog w c env S (.UnaryOp .USub e pos) (.int (-a)) := by
  intro m mu fz s Q R X k
  show wpAny _ _ (do let v ← eval e env; standAt pos; holding [v] (unaryOp .USub v)) _ _ _
  refine wpAny_bind (h m mu fz s _ R X fun v fz1 h1 t1 s1 R1 D1 => ?_)
  cases D1
  exact wpAny_bind (wpAny_standAt (wpAny_holding (neg_int (k _ fz1 h1 _ s1 R1 (.int _ _)))))

theorem EvB.item {value slice : Expr} {pos : Pos} {ds : List Dat} {i : Int} {d : Dat} (hv : EvB prog w c env S value (.list ds)) (hi : Ev prog w c env S slice (.int i)) (h0 : 0 ≤ i) (hd : ds[i.toNat]? = some d) (hz : i < 2 ^ 63)
    (hs : autoParam (∀ o i, subscripted slice false o i = operate [o, i] (getItem o i)) Mine.sx2) : EvB prog w c env S (.Subscript value slice pos) d := by
  intro m mu fz s Q R X k
  refine Subscript_ (hv m mu fz s _ R X fun v fz1 h1 t1 s1 R1 D1 => ?_)
  refine hi m mu fz1 _ _ R1 (X.mono s1) fun v2 fz2 h2 t2 s2 R2 D2 => ?_
  cases D2
  cases D1 with
  | list hm r =>
    have up : Sub (mu ++ fz1) (mu ++ fz2) := fun p hp => (List.mem_append.mp hp).elim (fun x => List.mem_append_left _ x) fun x => List.mem_append_right _ (s2 p x)
    have hl := isList_at (R2.get (up _ hm))
    have hlt : i.toNat < ds.length := (List.getElem?_eq_some_iff.mp hd).1
    obtain ⟨v, hv1, hv2⟩ := r.get hlt
    have e : ds[i.toNat] = d := (List.getElem?_eq_some_iff.mp hd).2
    rw [e] at hv2
    exact tail_any hl.typeIs slot_list_getitem.lookup (wpAny_getItem_list hl h0 hz (by simpa using hv1) (k _ fz2 h2 t2 (s1.trans s2) R2 (hv2.mono up))) (hs _ _)
theorem Ev.item {value slice : Expr} {pos : Pos} {ds : List Dat} {i : Int} {d : Dat} (hv : Ev prog w c env S value (.list ds)) (hi : Ev prog w c env S slice (.int i)) (h0 : 0 ≤ i) (hd : ds[i.toNat]? = some d) (hz : i < 2 ^ 63)
    (hs : autoParam (∀ o i, subscripted slice false o i = operate [o, i] (getItem o i)) Mine.sx2) : Ev prog w c env S (.Subscript value slice pos) d := by
  intro m mu fz s Q R X k
  refine Subscript_ (hv m mu fz s _ R X fun v fz1 h1 t1 s1 R1 D1 => ?_)
  refine hi m mu fz1 _ _ R1 (X.mono s1) fun v2 fz2 h2 t2 s2 R2 D2 => ?_
  cases D2
  cases D1 with
  | list hm r =>
    have hl := isList_at (R2.get (List.mem_append_right _ (s2 _ hm)))
    have hlt : i.toNat < ds.length := (List.getElem?_eq_some_iff.mp hd).1
    obtain ⟨v, hv1, hv2⟩ := r.get hlt
    have e : ds[i.toNat] = d := (List.getElem?_eq_some_iff.mp hd).2
    rw [e] at hv2
    exact tail_any hl.typeIs slot_list_getitem.lookup (wpAny_getItem_list hl h0 hz (by simpa using hv1) (k _ fz2 h2 t2 (s1.trans s2) R2 (hv2.mono s2))) (hs _ _)
theorem Ev.itemTup {value slice : Expr} {pos : Pos} {ds : List Dat} {i : Int} {d : Dat} (hv : Ev prog w c env S value (.tuple ds)) (hi : Ev prog w c env S slice (.int i)) (h0 : 0 ≤ i) (hd : ds[i.toNat]? = some d) (hz : i < 2 ^ 63)
    (hs : autoParam (∀ o i, subscripted slice false o i = operate [o, i] (getItem o i)) Mine.sx2) : Ev prog w c env S (.Subscript value slice pos) d := by
  intro m mu fz s Q R X k
  refine Subscript_ (hv m mu fz s _ R X fun v fz1 h1 t1 s1 R1 D1 => ?_)
  refine hi m mu fz1 _ _ R1 (X.mono s1) fun v2 fz2 h2 t2 s2 R2 D2 => ?_
  cases D2
  cases D1 with
  | @tuple _ vs _ _ hm r =>
    have ht := R2.get (List.mem_append_right _ (s2 _ hm))
    have hlt : i.toNat < ds.length := (List.getElem?_eq_some_iff.mp hd).1
    obtain ⟨v, hv1, hv2⟩ := r.get hlt
    have e : ds[i.toNat] = d := (List.getElem?_eq_some_iff.mp hd).2
    rw [e] at hv2
    have hT : (Shared.mk h2 s.gens s.drawn t2 s.os).TypeIs (.ref _) "tuple" := ⟨_, ht, rfl⟩
    refine tail_any hT F.slot_tuple_getitem.lookup (P.getItem_tuple ht (by walk_at "om") hz (k := i.toNat) ?_ (by simpa using hv1) (k _ fz2 h2 t2 (s1.trans s2) R2 (hv2.mono s2))) (hs _ _)
    exact seqIndex_of h0 (by rw [List.size_toArray, r.length]; walk_at "om")
theorem Ev.itemStr {value slice : Expr} {pos : Pos} {x : Str} {i : Int} {cp : Nat} (hv : Ev prog w c env S value (.str x)) (hi : Ev prog w c env S slice (.int i)) (h0 : 0 ≤ i) (hc : x.cps[i.toNat]? = some cp) (hz : i < 2 ^ 63)
    (hs : autoParam (∀ o i, subscripted slice false o i = operate [o, i] (getItem o i)) Mine.sx2) : Ev prog w c env S (.Subscript value slice pos) (.str ⟨#[cp]⟩) := by
  intro m mu fz s Q R X k
  refine Subscript_ (hv m mu fz s _ R X fun v fz1 h1 t1 s1 R1 D1 => ?_)
  refine hi m mu fz1 _ _ R1 (X.mono s1) fun v2 fz2 h2 t2 s2 R2 D2 => ?_
  cases D2
  cases D1
  have hlt : i.toNat < x.cps.size := (Array.getElem?_eq_some_iff.mp hc).1
  refine tail_any (typeIs_str _ _ _) F.slot_str_getitem.lookup (P.getItem_str (by simp; walk_at "om") (c := cp) ?_ (k _ fz2 h2 _ (s1.trans s2) R2 (.str _ _))) (hs _ _)
  rw [seqIndex_of h0 (by show i < ((x.cps.size : Nat) : Int); walk_at "om")]
  exact hc

theorem call_b1 {x : Str} {id : String} {np pos : Pos} {e : Expr} {m : Str → Option Value} {mu fz : Led} {s : Shared} {Q : Value → Shared → Prop} (R : Rel c m mu fz s.heap) (X : Sat c env S m mu fz)
    (hx : env.kindOf x = some .globalImplicit) (hg : nsIn K mainGlobals x = some none) (hv : bootBuiltins x = some (.builtin id)) (hn : x ≠ "__name__") (hd : (x == ("__debug__" : Str)) = false) (hs : starEach [e] env = [(false, eval e env)])
    (h : wpAny (model prog w) c.A (eval e env) (fun v s₁ => wpAny (model prog w) c.A (PySem.call (.builtin id) [v]) Q NoE s₁) NoE s) : wpAny (model prog w) c.A (eval (.Call (.Name x np) [e] [] pos) env) Q NoE s :=
  Call_name1 hs (load_builtin R X hx hg hv hn hd (callWith_builtin1 h))
theorem call_t1 {x : Str} {T : String} {np pos : Pos} {e : Expr} {m : Str → Option Value} {mu fz : Led} {s : Shared} {Q : Value → Shared → Prop} (R : Rel c m mu fz s.heap) (X : Sat c env S m mu fz)
    (hx : env.kindOf x = some .globalImplicit) (hg : nsIn K mainGlobals x = some none) (hv : bootBuiltins x = some (.type T)) (hn : x ≠ "__name__") (hd : (x == ("__debug__" : Str)) = false) (hs : starEach [e] env = [(false, eval e env)])
    (h : wpAny (model prog w) c.A (eval e env) (fun v s₁ => wpAny (model prog w) c.A (PySem.call (.type T) [v]) Q NoE s₁) NoE s) : wpAny (model prog w) c.A (eval (.Call (.Name x np) [e] [] pos) env) Q NoE s :=
  Call_name1 hs (load_builtin R X hx hg hv hn hd (callWith_type1 h))

theorem boot_len : bootBuiltins "len" = some (.builtin "len") := by decide +kernel
theorem boot_sorted : bootBuiltins "sorted" = some (.builtin "sorted") := by decide +kernel
theorem boot_list : bootBuiltins "list" = some (.type "list") := by decide +kernel
theorem boot_range : bootBuiltins "range" = some (.type "range") := by decide +kernel

theorem Ev.len {np pos : Pos} {e : Expr} {ds : List Dat} (he : EvB prog w c env S e (.list ds)) (hz : (ds.length : Int) < 2 ^ 63) (hg : nsIn K mainGlobals "len" = some none) (hx : autoParam (env.kindOf "len" = some .globalImplicit) Mine.sx0) (hs : autoParam (starEach [e] env = [(false, eval e env)]) Mine.sx0) :
    Ev prog w c env S (.Call (.Name "len" np) [e] [] pos) (.int ds.length) := by
  intro m mu fz s Q R X k
  refine call_b1 R X hx hg boot_len (by decide) (by decide) hs (he m mu fz s _ R X fun v fz1 h1 t1 s1 R1 D1 => ?_)
  cases D1 with
  | @list _ vs _ _ hm r =>
    have e1 : vs.toArray.size = ds.length := by rw [List.size_toArray, r.length]
    refine call_len_list (isList_at (R1.get hm)) (by rw [e1]; exact hz) ?_
    rw [e1]
    exact k _ fz1 h1 _ s1 R1 (.int _ _)
theorem Ev.lenStr {np pos : Pos} {e : Expr} {x : Str} (he : Ev prog w c env S e (.str x)) (hz : (x.length : Int) < 2 ^ 63) (hg : nsIn K mainGlobals "len" = some none) (hx : autoParam (env.kindOf "len" = some .globalImplicit) Mine.sx0) (hs : autoParam (starEach [e] env = [(false, eval e env)]) Mine.sx0) :
    Ev prog w c env S (.Call (.Name "len" np) [e] [] pos) (.int x.length) := by
  intro m mu fz s Q R X k
  refine call_b1 R X hx hg boot_len (by decide) (by decide) hs (he m mu fz s _ R X fun v fz1 h1 t1 s1 R1 D1 => ?_)
  cases D1
  exact PyProof.Rows.len_str (by walk_at "om") (k _ fz1 h1 _ s1 R1 (.int _ _))
theorem Ev.sum {np pos : Pos} {e : Expr} {ns : List Int} (he : EvB prog w c env S e (.list (intsD ns))) (hg : nsIn K mainGlobals "sum" = some none) (hx : autoParam (env.kindOf "sum" = some .globalImplicit) Mine.sx0) (hs : autoParam (starEach [e] env = [(false, eval e env)]) Mine.sx0) :
    Ev prog w c env S (.Call (.Name "sum" np) [e] [] pos) (.int ns.sum) := by
  intro m mu fz s Q R X k
  refine call_b1 R X hx hg boot_sum (by decide) (by decide) hs (he m mu fz s _ R X fun v fz1 h1 t1 s1 R1 D1 => ?_)
  cases D1 with
  | @list _ vs _ _ hm r =>
    have hi := intsAre_of r
    obtain ⟨xs, hxs⟩ := hi.allInts.items
    have hl := isList_at (R1.get hm)
    rw [hxs] at hl
    refine sum_intListG rfl hl fun h' tk t' hk => ?_
    have e1 : preSum (numAt xs) xs.size = ns.sum := by
      have := nums_intItems xs
      rw [← hxs, show vs.toArray.toList = vs from rfl, hi.numsOf] at this
      rw [preSum_eq, List.take_of_length_le (by simp), this]
    rw [e1]
    exact k _ fz1 h' _ s1 (R1.keeps hk) (.int _ _)
theorem Ev.sorted {np pos : Pos} {e : Expr} {ns ns' : List Int} (he : EvB prog w c env S e (.list (intsD ns))) (hz : ns.length < 64) (hg : nsIn K mainGlobals "sorted" = some none) (hp : ∀ l : List Int, l.Perm ns → l.Pairwise (· ≤ ·) → l = ns')
    (hx : autoParam (env.kindOf "sorted" = some .globalImplicit) Mine.sx0) (hs : autoParam (starEach [e] env = [(false, eval e env)]) Mine.sx0) : Ev prog w c env S (.Call (.Name "sorted" np) [e] [] pos) (.list (intsD ns')) := by
  intro m mu fz s Q R X k
  refine call_b1 R X hx hg boot_sorted (by decide) (by decide) hs (he m mu fz s _ R X fun v fz1 h1 t1 s1 R1 D1 => ?_)
  cases D1 with
  | @list _ vs _ _ hm r =>
    have hi := intsAre_of r
    obtain ⟨h₀, G, T, F, N⟩ := R1.ex
    refine sorted_N F N (isList_at (R1.get hm)) hi (by rw [hi.length]; exact hz) fun h' vs' ns2 e2 F' N' hi' p1 p2 => ?_
    obtain rfl := hp ns2 p1 p2
    exact k _ _ h' t1 (s1.trans sub_cons) (Rel.mk1 G T F' N' R1.off R1.nd fun p hp => Nat.ne_of_lt (Nat.lt_succ_of_lt (R1.lt (List.mem_append_left _ hp)))) (.list List.mem_cons_self (datAll_ints hi'))
end

theorem small_upTo {n : Nat} (h : n ≤ 2 ^ 30) : Builtin.Range.small 0 n 1 = true := by
  have e := rangeSize_nat 0 n
  unfold Builtin.Range.small
  rw [e]
  have f : ∀ k : Int, 0 ≤ k → k ≤ 2 ^ 31 → Builtin.Range.rangeFitsLong k = true := fun k h0 h1 => by
    unfold Builtin.Range.rangeFitsLong; simp; walk_at "om"
  rw [f 0 (by decide) (by decide), f n (by walk_at "om") (by walk_at "om"), f 1 (by decide) (by decide), f _ (by walk_at "om") (by walk_at "om"), f ((n : Int) + (1 - 1)) (by walk_at "om") (by walk_at "om")]
  simp

section
variable {prog : Program} {w : World} {K : Frag} {c : Cx K} {env : Env} {S : St}
theorem Ev.listRange {np pos np2 pos2 : Pos} {e : Expr} {n : Nat} (he : Ev prog w c env S e (.int n)) (hz : n ≤ 2 ^ 20) (hg : nsIn K mainGlobals "list" = some none) (hg2 : nsIn K mainGlobals "range" = some none)
    (hx : autoParam (env.kindOf "list" = some .globalImplicit) Mine.sx0) (hx2 : autoParam (env.kindOf "range" = some .globalImplicit) Mine.sx0) (hs : autoParam (starEach [e] env = [(false, eval e env)]) Mine.sx0) :
    Ev prog w c env S (.Call (.Name "list" np) [.Call (.Name "range" np2) [e] [] pos2] [] pos) (.list (intsD (upTo n))) := by
  intro m mu fz s Q R X k
  refine call_t1 R X hx hg boot_list (by decide) (by decide) rfl (call_t1 R X hx2 hg2 boot_range (by decide) (by decide) hs (he m mu fz s _ R X fun v fz1 h1 t1 s1 R1 D1 => ?_))
  cases D1
  rename_i tn
  refine call_range_1 ?_
  refine call_list_range rfl (IsRange.new ..) (small_upTo (Nat.le_trans hz (by decide))) (rangeSize_nat 0 n) (by walk_at "om") fun h' tk acc' c' hk hS' hacc => ?_
  have R2 := R1.push { cls := .type "range", data := .fields #[.int 0 t1, .int n tn, .int 1 (t1 + 1)] }
  obtain ⟨h₀, G, T, F, N⟩ := R2.ex
  have hn : ((n : Int) - 0).toNat = n := by walk_at "om"
  rw [hn] at hacc
  have hD : DatAll fz1 acc'.toList (intsD (upTo n)) := by
    have key : ∀ (k : Nat) (l : List Value), l.length ≤ n → (∀ j v, l[j]? = some v → ∃ t, v = Value.int ((k + j : Nat) : Int) t) → DatAll fz1 l (intsD ((List.range' k l.length).map fun (i : Nat) => (i : Int))) := by
      intro k l
      induction l generalizing k with
      | nil => intro _ _; exact .nil
      | cons v l ih =>
        intro hl hv
        obtain ⟨t, rfl⟩ := hv 0 v rfl
        refine .cons (.int _ _) (ih (k + 1) (by simp at hl; walk_at "om") fun j u hj => ?_)
        obtain ⟨t', e⟩ := hv (j + 1) u hj
        exact ⟨t', by rw [e]; congr 2; walk_at "om"⟩
    have := key 0 acc'.toList (by simp [hacc.1]) fun j v hv => by
      obtain ⟨t, e⟩ := hacc.2 j v (by simpa using hv)
      exact ⟨t, by rw [e]; congr 1; walk_at "om"⟩
    simpa [hacc.1, List.range_eq_range'] using this
  refine k _ _ h' tk (s1.trans (sub_cons (a := (_, listOf acc'.toList.toArray c')))) ⟨⟨h₀, G, T, F.keeps hk, fun p hp => ?_⟩, fun p hp q hq => ?_, R1.nd⟩ (.list List.mem_cons_self (hD.mono sub_cons))
  · rcases List.mem_append.mp hp with x | x
    · have P := N p (List.mem_append_left _ x)
      exact ⟨hk _ _ P.1, P.2⟩
    · rcases List.mem_cons.mp x with x | x
      · rw [x]
        refine ⟨by simpa [W.listOf] using hS', Nat.ne_of_gt F.ns.lt, ?_⟩
        cases e : h₀.get? _ with
        | none => rfl
        | some o => exact absurd (Heap.lt_size (F.keep _ _ e)) (Nat.lt_irrefl _)
      · have P := N p (List.mem_append_right _ (List.mem_cons_of_mem _ x))
        exact ⟨hk _ _ P.1, P.2⟩
  · rcases List.mem_cons.mp hq with x | x
    · rw [x]; exact Nat.ne_of_lt (R2.lt (List.mem_append_left _ hp))
    · exact R1.off p hp q x
end
end Mine

end
section
open PySem PySem.W PyProof.Rows PySem.Calls
set_option Elab.async false
namespace Mine

structure ItOk (prog : Program) (w : World) {K : Frag} (c : Cx K) (I : Addr) (fz : Led) (ds : List Dat) (fp : List Addr) (P : Nat → Value → Prop) (Sx : Nat → Heap → Prop) : Prop where
  W : Walks prog w c.A I fp [I] ds.length P Sx
  fpIn : ∀ b ∈ fp, b = I ∨ ∃ o, (b, o) ∈ fz
  dat : ∀ i v, i < ds.length → P i v → ∃ d, ds[i]? = some d ∧ DatIn fz v d
  ob : ∀ i h, Sx i h → ∃ o, h.get? I = some o

section
variable {prog : Program} {w : World} {K : Frag} {c : Cx K} {env : Env} {S : St} {I : Addr} {fz fz' mu mu' : Led} {ds : List Dat} {fp : List Addr} {P : Nat → Value → Prop} {Sx : Nat → Heap → Prop} {m m' : Str → Option Value} {h h' : Heap} {o : Obj} {i : Nat}
theorem ItOk.mono (O : ItOk prog w c I fz ds fp P Sx) (s : Sub fz fz') : ItOk prog w c I fz' ds fp P Sx :=
  ⟨O.W, fun b hb => (O.fpIn b hb).imp id fun ⟨o, ho⟩ => ⟨o, s _ ho⟩, fun i v hi hp => let ⟨d, a, b⟩ := O.dat i v hi hp; ⟨d, a, b.mono s⟩, O.ob⟩
theorem ItOk.frame (O : ItOk prog w c I fz ds fp P Sx) (R1 : Rel c m mu fz h) (R2 : Rel c m' mu' fz' h') (a : (I, o) ∈ mu) (b : (I, o) ∈ mu') (s : Sub fz fz') (st : Sx i h) : Sx i h' := by
  refine O.W.frame i h h' st fun x hx ox e => ?_
  rcases O.fpIn x hx with rfl | ⟨o1, h1⟩
  · have := R1.get (List.mem_append_left _ a)
    rw [e] at this; cases this
    exact R2.get (List.mem_append_left _ b)
  · have := R1.get (List.mem_append_right _ h1)
    rw [e] at this; cases this
    exact R2.get (p := (x, _)) (List.mem_append_right _ (s _ h1))
theorem next_some {s : Shared} {Q : Option Value → Shared → Prop} {E : Value → Shared → Prop} (l1 : Led) {l2 : Led} (O : ItOk prog w c I fz ds fp P Sx) (R : Rel c m (l1 ++ (I, o) :: l2) fz s.heap) (st : Sx i s.heap) (hi : i < ds.length)
    (k : ∀ v o' h' tk' d, ds[i]? = some d → DatIn fz v d → Rel c m (l1 ++ (I, o') :: l2) fz h' → Sx (i + 1) h' → Q (some v) { s with heap := h', toks := tk' }) : wpAny (model prog w) c.A (pyNext (.ref I)) Q E s := by
  refine O.W.item i s Q E hi st fun v h' tk hp st' hk => ?_
  obtain ⟨d, e, D⟩ := O.dat i v hi hp
  obtain ⟨o', ho'⟩ := O.ob _ _ st'
  exact k v o' h' tk d e D (Rel.turnIn l1 R (fun b x hb q => hk b x (by simpa using hb) q) ho') st'
theorem next_none {s : Shared} {Q : Option Value → Shared → Prop} {E : Value → Shared → Prop} (l1 : Led) {l2 : Led} (O : ItOk prog w c I fz ds fp P Sx) (R : Rel c m (l1 ++ (I, o) :: l2) fz s.heap) (st : Sx ds.length s.heap)
    (k : ∀ h' tk', Rel c m (l1 ++ l2) fz h' → Q none { s with heap := h', toks := tk' }) : wpAny (model prog w) c.A (pyNext (.ref I)) Q E s := by
  refine O.W.done s Q E st fun h' tk hk => ?_
  exact k h' tk ((R.perm List.perm_middle).popBut fun b x hb q => hk b x (by simpa using hb) q)

noncomputable def EvIt (prog : Program) (w : World) {K : Frag} (c : Cx K) (env : Env) (S : St) (e : Expr) (ds : List Dat) : Prop :=
  ∀ m mu fz (s : Shared) (Q : Value → Shared → Prop), Rel c m mu fz s.heap → Sat c env S m mu fz →
    (∀ I o fp P Sx fz' h' tk', Sub fz fz' → Rel c m ((I, o) :: mu) fz' h' → ItOk prog w c I fz' ds fp P Sx → Sx 0 h' → Q (.ref I) { s with heap := h', toks := tk' }) →
    wpAny (model prog w) c.A (eval e env) (fun x s₁ => wpAny (model prog w) c.A (pyIter x) Q NoE s₁) NoE s

theorem EvIt.list {e : Expr} (he : Ev prog w c env S e (.list ds)) : EvIt prog w c env S e ds := by
  intro m mu fz s Q R X k
  refine he m mu fz s _ R X fun v fz1 h1 t1 s1 R1 D1 => ?_
  cases D1 with
  | @list a vs n _ hm r =>
    have hl := isList_at (R1.get (List.mem_append_right _ hm))
    have hne : a ≠ h1.objs.size := Nat.ne_of_lt (R1.lt (List.mem_append_right _ hm))
    refine wpAny_pyIter_list hl ?_
    have R2 := R1.pushMu { cls := .type "list_iterator", data := .fields #[.ref a, .int 0 0] }
    have W := Walks.list (prog := prog) (w := w) (A := c.A) rfl h1.objs.size a hne vs.toArray
    have ez : vs.toArray.size = ds.length := by rw [List.size_toArray, r.length]
    rw [ez] at W
    refine k h1.objs.size _ _ _ _ fz1 _ t1 s1 R2 ⟨W, fun b hb => ?_, fun i v hi hp => ?_, fun i h st => ?_⟩ ⟨⟨_, Heap.get?_push_size _ rfl, rfl, rfl⟩, isList_at (R2.get (List.mem_append_right _ hm))⟩
    · rcases List.mem_cons.mp hb with x | x
      · exact .inl x
      · rw [List.mem_singleton.mp x]; exact .inr ⟨_, hm⟩
    · obtain ⟨v', e1, e2⟩ := r.get hi
      have : vs[i]? = some v := by simpa using hp
      rw [e1] at this; cases this
      exact ⟨_, List.getElem?_eq_getElem hi, e2⟩
    · obtain ⟨⟨o, ho, _⟩, _⟩ := st
      exact ⟨o, ho⟩
theorem EvIt.range {np pos : Pos} {e : Expr} {n : Nat} (he : Ev prog w c env S e (.int n)) (hz : n ≤ 2 ^ 20) (hg : nsIn K mainGlobals "range" = some none)
    (hx : autoParam (env.kindOf "range" = some .globalImplicit) Mine.sx0) (hs : autoParam (starEach [e] env = [(false, eval e env)]) Mine.sx0) : EvIt prog w c env S (.Call (.Name "range" np) [e] [] pos) (intsD (upTo n)) := by
  intro m mu fz s Q R X k
  refine call_t1 R X hx hg boot_range (by decide) (by decide) hs (he m mu fz s _ R X fun v fz1 h1 t1 s1 R1 D1 => ?_)
  cases D1
  rename_i tn
  refine call_range_1 ?_
  refine wpAny_pyIter_range (IsRange.new ..) (small_upTo (Nat.le_trans hz (by decide))) ?_
  have R2 := R1.push { cls := .type "range", data := .fields #[.int 0 t1, .int n tn, .int 1 (t1 + 1)] }
  have R3 := (R2.less (fz' := fz1) sub_cons).pushMu { cls := .type "range_iterator", data := .fields #[rawInt 0, rawInt (Builtin.Range.rangeSize 0 n 1), rawInt 1] }
  have hn : (intsD (upTo n)).length = n := by simp [intsD, upTo]
  have W := Walks.range (prog := prog) (w := w) (A := c.A) rfl (h1.push { cls := .type "range", data := .fields #[.int 0 t1, .int n tn, .int 1 (t1 + 1)] }).objs.size 0 1 n
  refine k _ _ _ _ _ fz1 _ _ s1 R3 ⟨by rw [hn]; exact W, fun b hb => .inl (List.mem_singleton.mp hb), fun i v hi hp => ?_, fun i h st => ⟨_, st⟩⟩ ?_
  · obtain ⟨t, rfl⟩ := hp
    rw [hn] at hi
    refine ⟨.int i, by simp [intsD, upTo, hi], ?_⟩
    have e1 : (0 : Int) + (i : Int) * 1 = i := by walk_at "om"
    rw [e1]; exact .int _ _
  · show IsRangeIter _ _ _ _ _
    rw [rangeSize_nat]
    have e1 : (((n : Int) - 0).toNat : Int) = (n : Int) - ((0 : Nat) : Int) := by walk_at "om"
    rw [e1]
    exact Heap.get?_push_size _ rfl
end

noncomputable def Tsts (prog : Program) (w : World) {K : Frag} (c : Cx K) (env : Env) (S : St) (ifs : List Expr) (b : Bool) : Prop :=
  ∀ m mu fz (s : Shared) (Q : Bool → Shared → Prop), Rel c m mu fz s.heap → Sat c env S m mu fz →
    (∀ fz' h' tk', Sub fz fz' → Rel c m mu fz' h' → Q b { s with heap := h', toks := tk' }) →
    wpAny (model prog w) c.A (forIn ifs true fun c r => if r = true then do let ok ← isTrue c env (eval c env); pure (ForInStep.yield ok) else pure (ForInStep.yield r)) Q NoE s
section
variable {prog : Program} {w : World} {K : Frag} {c : Cx K} {env : Env} {S : St}
theorem Tsts.nil : Tsts prog w c env S [] true := fun _ _ fz s _ R _ k => by
  rw [List.forIn_nil]; exact wpAny_pure (k fz s.heap s.toks (fun _ h => h) R)
theorem Tsts.one {e : Expr} {b : Bool} (h : Tst prog w c env S e b) : Tsts prog w c env S [e] b := fun m mu fz s Q R X k => by
  rw [List.forIn_cons]
  refine wpAny_bind (wpAny_bind (h m mu fz s _ R X fun fz1 h1 t1 s1 R1 => wpAny_pure ?_))
  dsimp only
  rw [List.forIn_nil]
  exact wpAny_pure (k fz1 h1 t1 s1 R1)

theorem lookup_relabel_cell {env : Env} (hk : env.scope.kind = .function) : ∀ {names : List (Str × NameKind)} {x : Str}, names.lookup x = some .free → env.kindOf x = some .cell →
    (names.map fun (n, k) => if (k == NameKind.free && env.scope.kind == .function && env.kindOf n == some .cell) then (n, NameKind.cell) else (n, k)).lookup x = some .cell
  | [], _, h, _ => by simp at h
  | (n, k) :: r, x, h, hc => by
    have ih := @lookup_relabel_cell env hk r x
    show List.lookup x ((if (k == NameKind.free && env.scope.kind == .function && env.kindOf n == some .cell) = true then (n, NameKind.cell) else (n, k)) :: _) = _
    cases hx : x == n with
    | true =>
      simp only [List.lookup_cons, hx] at h
      cases h
      have e := eq_of_beq hx
      subst e
      simp [hk, hc]
    | false =>
      simp only [List.lookup_cons, hx] at h
      by_cases hb : (k == NameKind.free && env.scope.kind == .function && env.kindOf n == some .cell) = true
      · rw [if_pos hb]; simp only [List.lookup_cons, hx]; exact ih h hc
      · rw [if_neg hb]; simp only [List.lookup_cons, hx]; exact ih h hc

structure Cap (env : Env) (S : St) (scope : Scope) (cl : List (Str × Addr)) (Cp : St) : Prop where
  it : ∀ p ∈ Cp, S.lookup p.1 = some p.2 ∧ env.kindOf p.1 = some .cell ∧ scope.names.lookup p.1 = some .free ∧ cl.lookup p.1 = env.cells.lookup p.1

theorem mem_of_lookup' {α : Type} : ∀ {l : List (Str × α)} {n : Str} {c : α}, l.lookup n = some c → (n, c) ∈ l := fun h => PySem.mem_of_lookup h

theorem sat_comp {scope : Scope} {cl : List (Str × Addr)} {Cp : St} {m : Str → Option Value} {mu mu' fz fz' : Led} {C : Addr} {oC : Obj} {mc : Str → Option Value} {V : List (Str × Dat)} (X : Sat c env S m mu fz) (hcap : Cap env S scope cl Cp) (hkind : scope.kind = .function)
    (hC : (C, oC) ∈ mu') (hn : NsO oC mc) (hsub : Sub mu mu') (hf : Sub fz fz') (hV : ∀ x d, (x, d) ∈ V → scope.names.lookup x = some .local ∧ ∃ v, mc x = some v ∧ DatIn fz' v d) :
    Sat c (compEnvC scope cl C env) (V.map (fun p => (p.1, Slot.val p.2)) ++ Cp) m mu' fz' := by
  have key : ∀ x v, env.kindOf x = some .cell → scope.names.lookup x = some .free → cl.lookup x = env.cells.lookup x → At c env m mu x v → At c (compEnvC scope cl C env) m mu' x v := by
    intro x v hk hfree hl a
    cases a with
    | loc k _ _ => rw [hk] at k; cases k
    | blk k _ _ _ => rw [hk] at k; cases k
    | cell k hc hm hd => exact .cell (lookup_relabel_cell X.kind hfree hk) (hl.trans hc) (hsub _ hm) hd
  have look : ∀ x sl, (V.map (fun p => (p.1, Slot.val p.2)) ++ Cp).lookup x = some sl → (∃ d, sl = .val d ∧ (x, d) ∈ V) ∨ (x, sl) ∈ Cp := by
    intro x sl h
    rcases List.mem_append.mp (mem_of_lookup' h) with q | q
    · obtain ⟨p, hp, e⟩ := List.mem_map.mp q
      cases e
      exact .inl ⟨_, rfl, hp⟩
    · exact .inr q
  refine ⟨hkind, X.glob, X.bult, fun x d h => ?_, fun x ds h => ?_⟩
  · rcases look x _ h with ⟨d', e, hm⟩ | hm
    · cases e
      obtain ⟨h1, v, h2, h3⟩ := hV x d hm
      exact ⟨v, .blk (lookup_relabel_local h1) hC hn h2, h3⟩
    · obtain ⟨h1, h2, h3, h4⟩ := hcap.it _ hm
      obtain ⟨v, a, D⟩ := X.val x d h1
      exact ⟨v, key x v h2 h3 h4 a, D.mono hf⟩
  · rcases look x _ h with ⟨d', e, hm⟩ | hm
    · cases e
    · obtain ⟨h1, h2, h3, h4⟩ := hcap.it _ hm
      obtain ⟨a, vs, n, h5, h6, h7⟩ := X.own x ds h1
      exact ⟨a, vs, n, key x _ h2 h3 h4 h5, hsub _ h6, h7.mono hf⟩
end
end Mine

end
section
open PySem PySem.W PyProof.Rows PySem.Calls
set_option Elab.async false
namespace Mine
section
variable {prog : Program} {w : World} {K : Frag} {c : Cx K} {env : Env} {S : St}

inductive CompI {K : Frag} (c : Cx K) (m : Str → Option Value) (mu fz : Led) (s : Shared) (C D I : Addr) (Sx : Nat → Heap → Prop) (len : Nat) (N : Led → (Str → Option Value) → Prop) (dat : Nat → List Dat) (q : Nat) (s' : Shared) : Prop
  | mk (i : Nat) (oC' oI' : Obj) (vs : Array Value) (n : Nat) (fz' : Led) (h' : Heap) (tk' : Nat) : s' = { s with heap := h', toks := tk' } → Sub fz fz' → Rel c m ((C, oC') :: (D, listOf vs n) :: (I, oI') :: mu) fz' h' → (∃ mc, NsO oC' mc ∧ N fz' mc) → Sx i h' → i ≤ len →
      DatAll fz' vs.toList (dat i) → q = len + 1 - i → CompI c m mu fz s C D I Sx len N dat q s'
theorem take_step {ds : List Dat} {i : Nat} {d : Dat} (h : ds[i]? = some d) : ds.take (i + 1) = ds.take i ++ [d] := by
  rw [List.take_add_one, h]; rfl

theorem comp_loop {elt iter : Expr} {x : Str} {px : Pos} {ifs : List Expr} {scope : Scope} {cl : List (Str × Addr)} {pos : Pos} {Cp : St} {m : Str → Option Value} {mu fz : Led} {s : Shared} {I C D : Addr} {oI oC : Obj} {ds : List Dat} {fp : List Addr} {P : Nat → Value → Prop} {Sx : Nat → Heap → Prop} {Rr : Result → Shared → Prop}
    (t : Dat → Bool) (f : Dat → Dat) (hcap : Cap env S scope cl Cp) (hkind : scope.kind = .function) (hx : scope.names.lookup x = some .local)
    (ht : ∀ d ∈ ds, Tsts prog w c (compEnvC scope cl C env) ((x, .val d) :: Cp) ifs (t d)) (hf : ∀ d ∈ ds, t d = true → Ev prog w c (compEnvC scope cl C env) ((x, .val d) :: Cp) elt (f d)) (hz : ds.length ≤ 2 ^ 20)
    (X : Sat c env S m mu fz) (O : ItOk prog w c I fz ds fp P Sx) (st : Sx 0 s.heap) (R : Rel c m ((C, oC) :: (D, listOf #[] 0) :: (I, oI) :: mu) fz s.heap) (hn : ∃ mc, NsO oC mc)
    (k : ∀ oC' vs n fz' h' tk', Sub fz fz' → Rel c m ((C, oC') :: (D, listOf vs n) :: mu) fz' h' → (∃ mc, NsO oC' mc) → DatAll fz' vs.toList ((ds.filter t).map f) → Rr (.ok .next) { s with heap := h', toks := tk' }) :
    codeAny (model prog w) c.A (.compLoop (.ListComp elt [⟨.Name x px, iter, ifs, 0⟩] scope pos) 0 (.ref I) (.ref D) (compEnvC scope cl C env)) Rr s := by
  refine codeAny_compLoop_tests (CompI c m mu fz s C D I Sx ds.length (fun _ _ => True) (fun i => ((ds.take i).filter t).map f)) ?_ (ds.length + 1) ⟨0, oC, oI, #[], 0, fz, s.heap, s.toks, rfl, fun _ h => h, R, (let ⟨mc, h⟩ := hn; ⟨mc, h, trivial⟩), st, Nat.zero_le _, by simpa using DatAll.nil, rfl⟩
  rintro q s' ⟨i, oC', oI', vs, n, fz1, h1, tk1, rfl, s1, R1, ⟨mc, hn1, _⟩, st1, hi, D1, rfl⟩
  by_cases hlt : i < ds.length
  · refine next_some [(C, oC'), (D, listOf vs n)] (O.mono s1) R1 st1 hlt fun v o2 h2 t2 d hd Dd R2 st2 => ?_
    have hdm : d ∈ ds := List.mem_of_getElem? hd
    obtain ⟨es, ep, n1, n2, n3⟩ := hn1
    refine wpAny_assign_Name (wpAny_storeName_local (m := mc) (lookup_relabel_local hx) ⟨oC', es, ep, R2.get (p := (C, oC')) List.mem_cons_self, n1, n2, n3⟩ (fun h3 hn3 hs3 => ?_) (by simp [compEnvC, relabel, hkind]))
    obtain ⟨oC3, es3, ep3, g3, d3, k3, m3⟩ := hn3
    have R3 : Rel c m ((C, oC3) :: (D, listOf vs n) :: (I, o2) :: mu) fz1 h3 := R2.turn (fun b y hb e => hs3.extBut b y hb e) g3
    have st3 : Sx (i + 1) h3 := O.frame (R2.less s1) (R3.less s1) (o := o2) (by simp) (by simp) (fun _ h => h) st2
    have hN3 : NsO oC3 (fun y => if y = x then some v else mc y) := ⟨es3, ep3, d3, k3, m3⟩
    have sat : ∀ fz2, Sub fz1 fz2 → Sat c (compEnvC scope cl C env) ((x, .val d) :: Cp) m ((C, oC3) :: (D, listOf vs n) :: (I, o2) :: mu) fz2 := fun fz2 s2 =>
      sat_comp (V := [(x, d)]) X hcap hkind List.mem_cons_self hN3 (fun p hp => List.mem_cons_of_mem _ (List.mem_cons_of_mem _ (List.mem_cons_of_mem _ hp))) (s1.trans s2) (fun y e hm => by
        rw [List.mem_singleton] at hm; cases hm
        exact ⟨hx, v, if_pos rfl, Dd.mono s2⟩)
    refine wpAny_mono (ht d hdm m _ fz1 { s with heap := h3, toks := t2 + 1 } (fun ok s₃ => ok = t d ∧ ∃ fz' h' tk', s₃ = { s with heap := h', toks := tk' } ∧ Sub fz1 fz' ∧ Rel c m ((C, oC3) :: (D, listOf vs n) :: (I, o2) :: mu) fz' h') R3 (sat fz1 fun _ h => h) fun fz2 h4 t4 s2 R4 => ⟨rfl, fz2, h4, t4, rfl, s2, R4⟩) (fun ok s₃ => ?_) fun _ _ y => y.elim
    rintro ⟨rfl, fz2, h4, t4, rfl, s2, R4⟩
    have st4 : Sx (i + 1) h4 := (O.mono s1).frame R3 R4 (o := o2) (by simp) (by simp) s2 st3
    cases htd : t d with
    | false =>
      simp only [Bool.false_eq_true, if_false]
      refine ⟨ds.length + 1 - (i + 1), by walk_at "om", i + 1, oC3, o2, vs, n, fz2, h4, t4, rfl, s1.trans s2, R4, ⟨_, hN3, trivial⟩, st4, hlt, ?_, rfl⟩
      try dsimp only
      rw [take_step hd, List.filter_append]
      simpa [htd] using D1.mono s2
    | true =>
      simp only [if_true]
      refine wpAny_mono (hf d hdm htd m _ fz2 { s with heap := h4, toks := t4 } (fun y s₄ => ∃ fz' h' tk', s₄ = { s with heap := h', toks := tk' } ∧ Sub fz2 fz' ∧ Rel c m ((C, oC3) :: (D, listOf vs n) :: (I, o2) :: mu) fz' h' ∧ DatIn fz' y (f d)) R4 (sat fz2 s2) fun y fz3 h5 t5 s3 R5 D5 => ⟨fz3, h5, t5, rfl, s3, R5, D5⟩) (fun y s₄ => ?_) fun _ _ y => y.elim
      rintro ⟨fz3, h5, t5, rfl, s3, R5, D5⟩
      have hvs : vs.size ≤ sizeLine := by
        have e1 := D1.length
        have e2 : (((ds.take i).filter t).map f).length ≤ ds.length := by
          rw [List.length_map]
          exact Nat.le_trans (List.length_filter_le _ _) (by rw [List.length_take]; exact Nat.min_le_right _ _)
        have e3 : vs.toList.length = vs.size := by simp
        have e4 : sizeLine = 2 ^ 24 := sizeLine_eq
        walk_at "om"
      have hpl : h5.PlainList D vs := ⟨n, R5.get (p := (D, listOf vs n)) (by simp)⟩
      refine wpAny_list_append_plain (hsz := hvs) hpl fun h6 hl6 hs6 => ?_
      obtain ⟨n6, g6⟩ := hl6
      have R6 : Rel c m ((C, oC3) :: (D, listOf (vs.push y) n6) :: (I, o2) :: mu) fz3 h6 := Rel.turnIn [(C, oC3)] R5 (fun b z hb e => hs6.extBut b z hb e) g6
      have st5 : Sx (i + 1) h5 := (O.mono (s1.trans s2)).frame R4 R5 (o := o2) (by simp) (by simp) s3 st4
      have st6 : Sx (i + 1) h6 := (O.mono (s1.trans (s2.trans s3))).frame R5 R6 (o := o2) (by simp) (by simp) (fun _ h => h) st5
      refine ⟨ds.length + 1 - (i + 1), by walk_at "om", i + 1, oC3, o2, vs.push y, n6, fz3, h6, t5, rfl, s1.trans (s2.trans s3), R6, ⟨_, hN3, trivial⟩, st6, hlt, ?_, rfl⟩
      rw [take_step hd, List.filter_append, List.map_append, Array.toList_push]
      refine DatAll.append (D1.mono (s2.trans s3)) ?_
      simpa [htd] using DatAll.one D5
  · have e : i = ds.length := by walk_at "om"
    subst e
    refine next_none [(C, oC'), (D, listOf vs n)] (O.mono s1) R1 st1 fun h2 t2 R2 => ?_
    rw [List.take_length] at D1
    exact k oC' vs n fz1 h2 t2 s1 R2 ⟨mc, hn1⟩ D1

theorem comp_core {elt iter : Expr} {x : Str} {px : Pos} {ifs : List Expr} {scope : Scope} {cl : List (Str × Addr)} {pos : Pos} {Cp : St} {m : Str → Option Value} {mu fz : Led} {s : Shared} {ds : List Dat} {RR : Value → Addr → Result → Shared → Prop}
    (t : Dat → Bool) (f : Dat → Dat) (hit : EvIt prog w c env S iter ds) (hcap : Cap env S scope cl Cp) (hkind : scope.kind = .function) (hcell : ∀ y ∈ scope.names, y.2 ≠ .cell) (hx : scope.names.lookup x = some .local)
    (ht : ∀ C, ∀ d ∈ ds, Tsts prog w c (compEnvC scope cl C env) ((x, .val d) :: Cp) ifs (t d)) (hf : ∀ C, ∀ d ∈ ds, t d = true → Ev prog w c (compEnvC scope cl C env) ((x, .val d) :: Cp) elt (f d)) (hz : ds.length ≤ 2 ^ 20)
    (R : Rel c m mu fz s.heap) (X : Sat c env S m mu fz)
    (k : ∀ D C oC vs n fz' h' tk', Sub fz fz' → Rel c m ((C, oC) :: (D, listOf vs n) :: mu) fz' h' → (∃ mc, NsO oC mc) → DatAll fz' vs.toList ((ds.filter t).map f) → RR (.ref D) C (.ok .next) { s with heap := h', toks := tk' }) :
    wpAny (model prog w) c.A (eval iter env) (fun x1 s₁ => wpAny (model prog w) c.A (pyIter x1) (fun it s₂ => wpAny (model prog w) c.A (newList []) (fun acc s₃ =>
      wpAny (model prog w) c.A (newFunctionEnv scope env.globals cl [] env.qual none .none (some env)) (fun cenv s₄ =>
        codeAny (model prog w) c.A (.compStart (.ListComp elt [⟨.Name x px, iter, ifs, 0⟩] scope pos) 0 it acc { cenv with scope := relabel scope env }) (RR acc cenv.locals) s₄) NoE s₃) NoE s₂) NoE s₁) NoE s := by
  refine hit m mu fz s _ R X fun I o fp P Sx fz1 h1 t1 s1 R1 O st => ?_
  refine wpAny_newObj_type (wpAny_newFunctionEnv hcell (by intro y hy; simp at hy) (fun h2 hns hsb => ?_) hkind)
  have RD := R1.pushMu (listOf #[] 0)
  have RC := RD.pushMu { cls := .type "dict", data := .dict #[] }
  obtain ⟨oC, es, ep, g1, g2, g3, g4⟩ := hns
  have R2 := RC.turn (fun b y hb e => hsb.extBut b y hb e) g1
  have st2 : Sx 0 h2 := O.frame R1 R2 (o := o) (by simp) (by simp) (fun _ h => h) st
  have loop := comp_loop (prog := prog) (w := w) (elt := elt) (iter := iter) (x := x) (px := px) (ifs := ifs) (pos := pos) (s := { s with heap := h2, toks := t1 + ([] : List (Str × Value)).length }) (Rr := RR (.ref h1.objs.size) (h1.push (listOf #[] 0)).objs.size) t f hcap hkind hx (ht _) (hf _) hz (X.mono s1) O st2 R2 ⟨_, es, ep, g2, g3, g4⟩ (fun oC' vs n fz' h' tk' s2 R3 hN D3 => k _ _ oC' vs n fz' h' tk' (s1.trans s2) R3 hN D3)
  exact codeAny_compStart_list loop (O.W.self 0 _ _ _ st2 loop)

theorem Ev.comp {elt iter : Expr} {x : Str} {px : Pos} {ifs : List Expr} {scope : Scope} {cl : List (Str × Addr)} {pos : Pos} {Cp : St} {ds : List Dat} (t : Dat → Bool) (f : Dat → Dat) (hit : EvIt prog w c env S iter ds)
    (hclos : closureFor scope env = pure cl) (hcap : Cap env S scope cl Cp) (hkind : scope.kind = .function) (hcell : ∀ y ∈ scope.names, y.2 ≠ .cell) (hnames : ∀ x ∈ scope.names, x.2 = .local → scope.names.lookup x.1 = some .local) (hx : scope.names.lookup x = some .local)
    (ht : ∀ C, ∀ d ∈ ds, Tsts prog w c (compEnvC scope cl C env) ((x, .val d) :: Cp) ifs (t d)) (hf : ∀ C, ∀ d ∈ ds, t d = true → Ev prog w c (compEnvC scope cl C env) ((x, .val d) :: Cp) elt (f d)) (hz : ds.length ≤ 2 ^ 20)
    (hs : autoParam (∀ x, foldedSetIterable iter env x = pure x) Mine.sx1) : Ev prog w c env S (.ListComp elt [⟨.Name x px, iter, ifs, 0⟩] scope pos) (.list ((ds.filter t).map f)) := by
  intro m mu fz s Q R X k
  rw [eval_ListComp]
  refine wpAny_comprehension_free (use := none) rfl hs hclos hkind hnames ?_
  refine comp_core (RR := compPost (model prog w) c.A NoE none Q) t f hit hcap hkind hcell hx ht hf hz R X fun D C oC vs n fz' h' tk' s1 R1 hN D1 => ?_
  obtain ⟨mc, es, ep, n1, n2, n3⟩ := hN
  refine ⟨mc, ⟨oC, es, ep, R1.get (p := (C, oC)) List.mem_cons_self, n1, n2, n3⟩, fun h2 hs2 => ?_⟩
  have R2 : Rel c m ((D, listOf vs n) :: mu) fz' h2 := R1.popBut fun b y hb e => hs2.extBut b y hb e
  have e : listOf vs n = listOf vs.toList.toArray n := by simp
  rw [e] at R2
  exact k _ _ _ _ (s1.trans sub_cons) R2.freeze (.list List.mem_cons_self (D1.mono sub_cons))
end
end Mine

end
section
open PySem PySem.W PyProof.Rows PySem.Calls
set_option Elab.async false
namespace Mine

structure SatS {K : Frag} (c : Cx K) (env : Env) (S : St) (m : Str → Option Value) (mu fz : Led) : Prop extends Sat c env S m mu fz where
  loc : env.locals = c.L
  cel : ∀ x a, env.cells.lookup x = some a → ∃ o v, (a, o) ∈ mu ∧ o.data = .cell v
  inj : ∀ x y a, env.cells.lookup x = some a → env.cells.lookup y = some a → x = y
  one : ∀ x y ds es a, S.lookup x = some (.own ds) → S.lookup y = some (.own es) → At c env m mu x (.ref a) → At c env m mu y (.ref a) → x = y
structure Jk {K : Frag} (c : Cx K) (env : Env) (S : St) (jk : Led) (m : Str → Option Value) (mu : Led) : Prop where
  mem : ∀ p ∈ jk, p ∈ mu
  cel : ∀ p ∈ jk, ∀ x a, env.cells.lookup x = some a → p.1 ≠ a
  own : ∀ p ∈ jk, ∀ x ds a, S.lookup x = some (.own ds) → At c env m mu x (.ref a) → p.1 ≠ a
  nd : jk.Pairwise (fun p q => p.1 ≠ q.1)
structure Full {K : Frag} (c : Cx K) (env : Env) (S : St) (jk : Led) (m : Str → Option Value) (mu fz : Led) (h : Heap) : Prop where
  R : Rel c m mu fz h
  X : SatS c env S m mu fz
  J : Jk c env S jk m mu

inductive Oc where
  | next (S : St)
  | ret (d : Dat)

noncomputable def Goes {K : Frag} (c : Cx K) (env : Env) (jk fz : Led) (s : Shared) (Q : Flow → Shared → Prop) : Oc → Prop
  | .next S' => ∀ m' mu' fz' h' tk', Sub fz fz' → Full c env S' jk m' mu' fz' h' → Q .next { s with heap := h', toks := tk' }
  | .ret d => ∀ v m' mu' fz' h' tk', Sub fz fz' → Rel c m' mu' fz' h' → DatIn fz' v d → Q (.ret v) { s with heap := h', toks := tk' }
noncomputable def Ex1 (prog : Program) (w : World) {K : Frag} (c : Cx K) (env : Env) (S : St) (st : Stmt) (out : Oc) : Prop :=
  ∀ jk m mu fz (s : Shared) (Q : Flow → Shared → Prop), Full c env S jk m mu fz s.heap → Goes c env jk fz s Q out → wpAny (model prog w) c.A (exec st env) Q NoE s
noncomputable def Ex (prog : Program) (w : World) {K : Frag} (c : Cx K) (env : Env) (S : St) (st : List Stmt) (out : Oc) : Prop :=
  ∀ jk m mu fz (s : Shared) (Q : Flow → Shared → Prop), Full c env S jk m mu fz s.heap → Goes c env jk fz s Q out → wpAny (model prog w) c.A (execs st env) Q NoE s

theorem SatS.mono {K : Frag} {c : Cx K} {env : Env} {S : St} {m : Str → Option Value} {mu fz fz' : Led} (X : SatS c env S m mu fz) (s : Sub fz fz') : SatS c env S m mu fz' :=
  { X.toSat.mono s with loc := X.loc, cel := X.cel, inj := X.inj, one := X.one }
theorem Full.to {K : Frag} {c : Cx K} {env : Env} {S : St} {jk : Led} {m : Str → Option Value} {mu fz fz' : Led} {h h' : Heap} (F : Full c env S jk m mu fz h) (s : Sub fz fz') (R : Rel c m mu fz' h') : Full c env S jk m mu fz' h' := ⟨R, F.X.mono s, F.J⟩
theorem Goes.sub {K : Frag} {c : Cx K} {env : Env} {jk fz fz' : Led} {s : Shared} {Q : Flow → Shared → Prop} {h : Heap} {tk : Nat} {out : Oc} (g : Goes c env jk fz s Q out) (s1 : Sub fz fz') : Goes c env jk fz' { s with heap := h, toks := tk } Q out := by
  cases out with
  | next S' => exact fun m' mu' fz2 h' tk' s2 F => g m' mu' fz2 h' tk' (s1.trans s2) F
  | ret d => exact fun v m' mu' fz2 h' tk' s2 R D => g v m' mu' fz2 h' tk' (s1.trans s2) R D

theorem Rel.uniq {K : Frag} {c : Cx K} {m : Str → Option Value} {mu fz : Led} {h : Heap} (R : Rel c m mu fz h) {a : Addr} {o o' : Obj} (h1 : (a, o) ∈ mu) (h2 : (a, o') ∈ mu) : o = o' := by
  have e1 := R.get (p := (a, o)) (List.mem_append_left _ h1)
  have e2 := R.get (p := (a, o')) (List.mem_append_left _ h2)
  rw [e1] at e2; exact Option.some.inj e2
theorem Rel.notL {K : Frag} {c : Cx K} {m : Str → Option Value} {mu fz : Led} {h : Heap} (R : Rel c m mu fz h) {p : Addr × Obj} (h1 : p ∈ mu) : p.1 ≠ c.L := by
  obtain ⟨h₀, _, _, _, N⟩ := R.ex
  exact (N p (List.mem_append_left _ h1)).2.1

noncomputable def upd (a : Addr) (o : Obj) (mu : Led) : Led := mu.map fun p => if p.1 = a then (a, o) else p
theorem mem_upd {a : Addr} {o : Obj} {mu : Led} {p : Addr × Obj} (h : p ∈ mu) (hn : p.1 ≠ a) : p ∈ upd a o mu := List.mem_map.mpr ⟨p, h, if_neg hn⟩
theorem mem_upd_self {a : Addr} {o o' : Obj} {mu : Led} (h : (a, o) ∈ mu) : (a, o') ∈ upd a o' mu := List.mem_map.mpr ⟨(a, o), h, if_pos rfl⟩
theorem of_upd {a : Addr} {o : Obj} {mu : Led} {p : Addr × Obj} (h : p ∈ upd a o mu) : p = (a, o) ∨ (p ∈ mu ∧ p.1 ≠ a) := by
  obtain ⟨q, hq, e⟩ := List.mem_map.mp h
  by_cases hb : q.1 = a
  · rw [if_pos hb] at e; exact .inl e.symm
  · rw [if_neg hb] at e; subst e; exact .inr ⟨hq, hb⟩
theorem Rel.upd {K : Frag} {c : Cx K} {m : Str → Option Value} {mu fz : Led} {h h' : Heap} {a : Addr} {o o' : Obj} (R : Rel c m mu fz h) (hm : (a, o) ∈ mu) (hs : ∀ b x, b ≠ a → h.get? b = some x → h'.get? b = some x) (ho : h'.get? a = some o') : Rel c m (upd a o' mu) fz h' := by
  obtain ⟨l1, l2, e⟩ := List.append_of_mem hm
  subst e
  have R' := Rel.turnIn l1 R hs ho
  have : Mine.upd a o' (l1 ++ (a, o) :: l2) = l1 ++ (a, o') :: l2 := by
    have nd := R.nd
    rw [List.pairwise_append] at nd
    obtain ⟨_, n2, n3⟩ := nd
    obtain ⟨n4, _⟩ := List.pairwise_cons.mp n2
    have k1 : ∀ p ∈ l1, (if p.1 = a then (a, o') else p) = p := fun p hp => if_neg (n3 p hp _ List.mem_cons_self)
    have k2 : ∀ p ∈ l2, (if p.1 = a then (a, o') else p) = p := fun p hp => if_neg fun e => n4 p hp e.symm
    unfold Mine.upd
    rw [List.map_append, List.map_cons, if_pos rfl, map_eq_self k1, map_eq_self k2]
  rw [this]; exact R'

section
variable {prog : Program} {w : World} {K : Frag} {c : Cx K} {env : Env} {S : St} {jk : Led} {m : Str → Option Value} {mu fz : Led} {s : Shared}

noncomputable def Wr (env : Env) (x : Str) : Prop := env.kindOf x = some .local ∨ (env.kindOf x = some .cell ∧ (env.cells.lookup x).isSome = true)

theorem store_core {x : Str} {v : Value} {Q : Unit → Shared → Prop} {E : Value → Shared → Prop} (F : Full c env S jk m mu fz s.heap) (hw : Wr env x)
    (k : ∀ m' mu' h' tk', Rel c m' mu' fz h' → At c env m' mu' x v → (∀ y u, y ≠ x → At c env m' mu' y u → At c env m mu y u) → (∀ y u, y ≠ x → At c env m mu y u → At c env m' mu' y u) → (∀ p ∈ mu, (∀ a, env.cells.lookup x = some a → p.1 ≠ a) → p ∈ mu') →
      (∀ y a, env.cells.lookup y = some a → ∃ o v, (a, o) ∈ mu' ∧ o.data = .cell v) → Q () { s with heap := h', toks := tk' }) : wpAny (model prog w) c.A (storeName env x v) Q E s := by
  have R := F.R
  obtain ⟨h₀, G, T, Fr0, N⟩ := R.ex
  rcases hw with hl | ⟨hc, ha⟩
  · refine wpAny_storeName_local (m := m) hl (F.X.loc ▸ Fr0.ns) (fun h' hn hs => ?_) (by rw [F.X.kind]; rfl)
    rw [F.X.loc] at hn hs
    refine k _ mu h' _ (R.put hn hs) (.loc hl F.X.loc (if_pos rfl)) (fun y u hy a => ?_) (fun y u hy a => ?_) (fun p hp _ => hp) F.X.cel
    · cases a with
      | loc k1 k2 k3 => exact .loc k1 k2 (by rw [if_neg hy] at k3; exact k3)
      | blk k1 k2 k3 k4 => exact .blk k1 k2 k3 k4
      | cell k1 k2 k3 k4 => exact .cell k1 k2 k3 k4
    · cases a with
      | loc k1 k2 k3 => exact .loc k1 k2 (by rw [if_neg hy]; exact k3)
      | blk k1 k2 k3 k4 => exact .blk k1 k2 k3 k4
      | cell k1 k2 k3 k4 => exact .cell k1 k2 k3 k4
  · obtain ⟨a, ha⟩ := Option.isSome_iff_exists.mp ha
    obtain ⟨o, v0, hm, hd⟩ := F.X.cel x a ha
    refine wpAny_storeName_cell F.X.kind hc ha ⟨o, R.get (p := (a, o)) (List.mem_append_left _ hm), hd⟩ fun h' hv hs => ?_
    obtain ⟨o', ho', hd'⟩ := hv
    have R' := R.upd hm (fun b y hb e => hs.extBut b y hb e) ho'
    refine k m (upd a o' mu) h' s.toks R' (.cell hc ha (mem_upd_self hm) hd') (fun y u hy q => ?_) (fun y u hy q => ?_) (fun p hp hn => mem_upd hp (hn a ha)) (fun y b hb => ?_)
    · cases q with
      | loc k1 k2 k3 => exact .loc k1 k2 k3
      | blk k1 k2 k3 k4 => exact absurd F.X.loc (R'.notL k2)
      | cell k1 k2 k3 k4 =>
        rcases of_upd k3 with e | ⟨e, _⟩
        · cases e; exact absurd (F.X.inj _ _ _ k2 ha) hy
        · exact .cell k1 k2 e k4
    · cases q with
      | loc k1 k2 k3 => exact .loc k1 k2 k3
      | blk k1 k2 k3 k4 => exact absurd F.X.loc (R.notL k2)
      | cell k1 k2 k3 k4 => exact .cell k1 k2 (mem_upd k3 fun e => hy (F.X.inj _ _ _ (e ▸ k2) ha)) k4
    · obtain ⟨o1, v1, h1, h2⟩ := F.X.cel y b hb
      by_cases e : b = a
      · subst e; exact ⟨o', _, mem_upd_self hm, hd'⟩
      · exact ⟨o1, v1, mem_upd h1 e, h2⟩

theorem look_cons {α : Type} {x y : Str} {a b : α} {l : List (Str × α)} (h : ((x, a) :: l).lookup y = some b) : (y = x ∧ a = b) ∨ (y ≠ x ∧ l.lookup y = some b) := by
  rw [List.lookup_cons] at h
  cases e : y == x with
  | true => rw [e] at h; exact .inl ⟨eq_of_beq e, Option.some.inj h⟩
  | false => rw [e] at h; exact .inr ⟨beq_eq_false_iff_ne.mp e, h⟩

theorem own_not_cell (F : Full c env S jk m mu fz s.heap) {a b : Addr} {vs : Array Value} {n : Nat} {x : Str} (h1 : (a, listOf vs n) ∈ mu) (h2 : env.cells.lookup x = some b) : a ≠ b := fun e => by
  subst e
  obtain ⟨o, v, hm, hd⟩ := F.X.cel x a h2
  have := F.R.uniq h1 hm
  subst this; cases hd

theorem store_val {x : Str} {v : Value} {d : Dat} {Q : Unit → Shared → Prop} {E : Value → Shared → Prop} (F : Full c env S jk m mu fz s.heap) (hw : Wr env x) (D : DatIn fz v d)
    (k : ∀ m' mu' h' tk', Full c env ((x, .val d) :: S) jk m' mu' fz h' → Q () { s with heap := h', toks := tk' }) : wpAny (model prog w) c.A (storeName env x v) Q E s := by
  refine store_core F hw fun m' mu' h' tk' R' a1 a2 a3 a4 a5 => k m' mu' h' tk' ⟨R', ⟨⟨F.X.kind, F.X.glob, F.X.bult, fun y e h => ?_, fun y es h => ?_⟩, F.X.loc, a5, F.X.inj, fun y z es es' a h1 h2 b1 b2 => ?_⟩, ⟨fun p hp => a4 p (F.J.mem p hp) fun a ha => F.J.cel p hp x a ha, F.J.cel, fun p hp y es a h b => ?_, F.J.nd⟩⟩
  · rcases look_cons h with ⟨rfl, e⟩ | ⟨hy, h⟩
    · cases e; exact ⟨v, a1, D⟩
    · obtain ⟨u, b1, b2⟩ := F.X.val y e h
      exact ⟨u, a3 y u hy b1, b2⟩
  · rcases look_cons h with ⟨_, e⟩ | ⟨hy, h⟩
    · cases e
    · obtain ⟨a, vs, n, b1, b2, b3⟩ := F.X.own y es h
      exact ⟨a, vs, n, a3 y _ hy b1, a4 _ b2 fun b hb => own_not_cell F b2 hb, b3⟩
  · rcases look_cons h1 with ⟨_, e⟩ | ⟨hy, h1⟩
    · cases e
    · rcases look_cons h2 with ⟨_, e⟩ | ⟨hz, h2⟩
      · cases e
      · exact F.X.one y z es es' a h1 h2 (a2 y _ hy b1) (a2 z _ hz b2)
  · rcases look_cons h with ⟨_, e⟩ | ⟨hy, h⟩
    · cases e
    · exact F.J.own p hp y es a h (a2 y _ hy b)

theorem At.uniq (R : Rel c m mu fz s.heap) (hl : env.locals = c.L) {x : Str} {u v : Value} (a : At c env m mu x u) (b : At c env m mu x v) : u = v := by
  cases a with
  | loc k1 k2 k3 =>
    cases b with
    | loc q1 q2 q3 => rw [k3] at q3; exact Option.some.inj q3
    | blk q1 q2 _ _ => exact absurd hl (R.notL q2)
    | cell q1 _ _ _ => rw [k1] at q1; cases q1
  | blk _ q2 _ _ => exact absurd hl (R.notL q2)
  | cell k1 k2 k3 k4 =>
    cases b with
    | loc q1 _ _ => rw [k1] at q1; cases q1
    | blk q1 q2 _ _ => exact absurd hl (R.notL q2)
    | cell q1 q2 q3 q4 =>
      rw [k2] at q2; cases q2
      have e := R.uniq k3 q3
      subst e
      rw [k4] at q4; cases q4; rfl

theorem store_own {x : Str} {D : Addr} {vs : List Value} {n : Nat} {ds : List Dat} {Q : Unit → Shared → Prop} {E : Value → Shared → Prop} (F : Full c env S jk m mu fz s.heap) (hw : Wr env x) (hm : (D, listOf vs.toArray n) ∈ mu) (Dv : DatAll fz vs ds)
    (f1 : ∀ y es a, y ≠ x → S.lookup y = some (.own es) → At c env m mu y (.ref a) → a ≠ D) (f2 : ∀ p ∈ jk, p.1 ≠ D)
    (k : ∀ m' mu' h' tk', Full c env ((x, .own ds) :: S) jk m' mu' fz h' → Q () { s with heap := h', toks := tk' }) : wpAny (model prog w) c.A (storeName env x (.ref D)) Q E s := by
  refine store_core F hw fun m' mu' h' tk' R' a1 a2 a3 a4 a5 => k m' mu' h' tk' ⟨R', ⟨⟨F.X.kind, F.X.glob, F.X.bult, fun y e h => ?_, fun y es h => ?_⟩, F.X.loc, a5, F.X.inj, fun y z es es' a h1 h2 b1 b2 => ?_⟩, ⟨fun p hp => a4 p (F.J.mem p hp) fun a ha => F.J.cel p hp x a ha, F.J.cel, fun p hp y es a h b => ?_, F.J.nd⟩⟩
  · rcases look_cons h with ⟨_, e⟩ | ⟨hy, h⟩
    · cases e
    · obtain ⟨u, b1, b2⟩ := F.X.val y e h
      exact ⟨u, a3 y u hy b1, b2⟩
  · rcases look_cons h with ⟨rfl, e⟩ | ⟨hy, h⟩
    · cases e
      exact ⟨D, vs, n, a1, a4 _ hm fun b hb => own_not_cell F hm hb, Dv⟩
    · obtain ⟨a, vs, n, b1, b2, b3⟩ := F.X.own y es h
      exact ⟨a, vs, n, a3 y _ hy b1, a4 _ b2 fun b hb => own_not_cell F b2 hb, b3⟩
  · rcases look_cons h1 with ⟨rfl, e⟩ | ⟨hy, h1'⟩
    · rcases look_cons h2 with ⟨rfl, _⟩ | ⟨hz, h2⟩
      · rfl
      · have e := At.uniq (s := { s with heap := h' }) R' F.X.loc a1 b1
        cases e
        exact absurd rfl (f1 z es' _ hz h2 (a2 z _ hz b2))
    · rcases look_cons h2 with ⟨hz, _⟩ | ⟨hz, h2⟩
      · subst hz
        have e := At.uniq (s := { s with heap := h' }) R' F.X.loc a1 b2
        cases e
        exact absurd rfl (f1 y es _ hy h1' (a2 y _ hy b1))
      · exact F.X.one y z es es' a h1' h2 (a2 y _ hy b1) (a2 z _ hz b2)
  · rcases look_cons h with ⟨rfl, _⟩ | ⟨hy, h⟩
    · have e := At.uniq (s := { s with heap := h' }) R' F.X.loc a1 b
      cases e
      exact f2 p hp
    · exact F.J.own p hp y es a h (a2 y _ hy b)
end
end Mine

end
section
open PySem PySem.W PyProof.Rows PySem.Calls
set_option Elab.async false
namespace Mine
section
variable {prog : Program} {w : World} {K : Frag} {c : Cx K} {env : Env} {S : St} {jk : Led} {m : Str → Option Value} {mu fz fz' : Led} {h h' : Heap} {I : Addr} {o o' : Obj}

theorem At.uniqR (R : Rel c m mu fz h) (hl : env.locals = c.L) {x : Str} {u v : Value} (a : At c env m mu x u) (b : At c env m mu x v) : u = v := by
  cases a with
  | loc k1 k2 k3 =>
    cases b with
    | loc q1 q2 q3 => rw [k3] at q3; exact Option.some.inj q3
    | blk q1 q2 _ _ => exact absurd hl (R.notL q2)
    | cell q1 _ _ _ => rw [k1] at q1; cases q1
  | blk _ q2 _ _ => exact absurd hl (R.notL q2)
  | cell k1 k2 k3 k4 =>
    cases b with
    | loc q1 _ _ => rw [k1] at q1; cases q1
    | blk q1 q2 _ _ => exact absurd hl (R.notL q2)
    | cell q1 q2 q3 q4 =>
      rw [k2] at q2; cases q2
      have e := R.uniq k3 q3
      subst e
      rw [k4] at q4; cases q4; rfl

theorem Full.move {mu' : Led} {jk' : Led} (F : Full c env S jk m mu fz h) (s : Sub fz fz') (R' : Rel c m mu' fz' h')
    (kc : ∀ x a ob, env.cells.lookup x = some a → (a, ob) ∈ mu → (a, ob) ∈ mu') (ko : ∀ x ds a ob, S.lookup x = some (.own ds) → At c env m mu x (.ref a) → (a, ob) ∈ mu → (a, ob) ∈ mu')
    (J' : (∀ x u, At c env m mu x u → At c env m mu' x u) → (∀ x ds a, S.lookup x = some (.own ds) → At c env m mu' x (.ref a) → At c env m mu x (.ref a)) → Jk c env S jk' m mu') : Full c env S jk' m mu' fz' h' := by
  have up : ∀ x u, At c env m mu x u → At c env m mu' x u := fun x u a => by
    cases a with
    | loc k1 k2 k3 => exact .loc k1 k2 k3
    | blk _ q2 _ _ => exact absurd F.X.loc (F.R.notL q2)
    | cell k1 k2 k3 k4 => exact .cell k1 k2 (kc _ _ _ k2 k3) k4
  have dn : ∀ x ds a, S.lookup x = some (.own ds) → At c env m mu' x (.ref a) → At c env m mu x (.ref a) := fun x ds a hx q => by
    obtain ⟨a0, vs, n, b1, _, _⟩ := F.X.own x ds hx
    have := At.uniqR R' F.X.loc (up _ _ b1) q
    cases this; exact b1
  refine ⟨R', ⟨⟨F.X.kind, F.X.glob, F.X.bult, fun x d hx => ?_, fun x ds hx => ?_⟩, F.X.loc, fun x a hx => ?_, F.X.inj, fun x y ds es a h1 h2 b1 b2 => F.X.one x y ds es a h1 h2 (dn _ _ _ h1 b1) (dn _ _ _ h2 b2)⟩, J' up dn⟩
  · obtain ⟨v, a, D⟩ := F.X.val x d hx
    exact ⟨v, up _ _ a, D.mono s⟩
  · obtain ⟨a, vs, n, b1, b2, b3⟩ := F.X.own x ds hx
    exact ⟨a, vs, n, up _ _ b1, ko _ _ _ _ hx b1 b2, b3.mono s⟩
  · obtain ⟨ob, v, h1, h2⟩ := F.X.cel x a hx
    exact ⟨ob, v, kc _ _ _ hx h1, h2⟩

theorem Full.pushJk (F : Full c env S jk m mu fz h) (s : Sub fz fz') (R' : Rel c m ((I, o) :: mu) fz' h') : Full c env S ((I, o) :: jk) m ((I, o) :: mu) fz' h' := by
  obtain ⟨n1, n2⟩ := List.pairwise_cons.mp R'.nd
  refine F.move s R' (fun _ _ _ _ hm => List.mem_cons_of_mem _ hm) (fun _ _ _ _ _ _ hm => List.mem_cons_of_mem _ hm) fun up dn => ⟨fun p hp => ?_, fun p hp x a hx => ?_, fun p hp x ds a hx q => ?_, List.pairwise_cons.mpr ⟨fun q hq => n1 q (F.J.mem q hq), F.J.nd⟩⟩
  · rcases List.mem_cons.mp hp with e | e
    · rw [e]; exact List.mem_cons_self
    · exact List.mem_cons_of_mem _ (F.J.mem p e)
  · rcases List.mem_cons.mp hp with e | e
    · rw [e]
      obtain ⟨ob, v, h1, _⟩ := F.X.cel x a hx
      exact n1 _ h1
    · exact F.J.cel p e x a hx
  · have q' := dn _ _ _ hx q
    rcases List.mem_cons.mp hp with e | e
    · rw [e]
      obtain ⟨a0, vs, n, b1, b2, _⟩ := F.X.own x ds hx
      have := At.uniqR F.R F.X.loc b1 q'
      cases this
      exact n1 _ b2
    · exact F.J.own p e x ds a hx q'
theorem Full.turnJk (F : Full c env S ((I, o) :: jk) m mu fz h) (R' : Rel c m (upd I o' mu) fz h') : Full c env S ((I, o') :: jk) m (upd I o' mu) fz h' := by
  obtain ⟨n1, n2⟩ := List.pairwise_cons.mp F.J.nd
  have hI := F.J.mem (I, o) List.mem_cons_self
  refine F.move (fun _ h => h) R' (fun x a ob hx hm => mem_upd hm fun e => F.J.cel (I, o) List.mem_cons_self x a hx e.symm) (fun x ds a ob hx q hm => mem_upd hm fun e => F.J.own (I, o) List.mem_cons_self x ds a hx q e.symm) fun up dn =>
    ⟨fun p hp => ?_, fun p hp x a hx => ?_, fun p hp x ds a hx q => ?_, List.pairwise_cons.mpr ⟨n1, n2⟩⟩
  · rcases List.mem_cons.mp hp with e | e
    · rw [e]; exact mem_upd_self hI
    · exact mem_upd (F.J.mem p (List.mem_cons_of_mem _ e)) fun q => n1 p e q.symm
  · rcases List.mem_cons.mp hp with e | e
    · rw [e]; exact F.J.cel (I, o) List.mem_cons_self x a hx
    · exact F.J.cel p (List.mem_cons_of_mem _ e) x a hx
  · have q' := dn _ _ _ hx q
    rcases List.mem_cons.mp hp with e | e
    · rw [e]; exact F.J.own (I, o) List.mem_cons_self x ds a hx q'
    · exact F.J.own p (List.mem_cons_of_mem _ e) x ds a hx q'
noncomputable def del (a : Addr) (mu : Led) : Led := mu.filter fun p => decide (p.1 ≠ a)
theorem mem_del {a : Addr} {p : Addr × Obj} (hp : p ∈ mu) (hn : p.1 ≠ a) : p ∈ del a mu := List.mem_filter.mpr ⟨hp, by simpa using hn⟩
theorem Rel.del {a : Addr} (R : Rel c m mu fz h) (hm : (a, o) ∈ mu) (hs : ∀ b x, b ≠ a → h.get? b = some x → h'.get? b = some x) : Rel c m (del a mu) fz h' := by
  obtain ⟨l1, l2, e⟩ := List.append_of_mem hm
  subst e
  have nd := R.nd
  rw [List.pairwise_append] at nd
  obtain ⟨_, n2, n3⟩ := nd
  obtain ⟨n4, _⟩ := List.pairwise_cons.mp n2
  have R' := (R.perm List.perm_middle).popBut hs
  have : Mine.del a (l1 ++ (a, o) :: l2) = l1 ++ l2 := by
    unfold Mine.del
    rw [List.filter_append, List.filter_cons_of_neg (by simp), List.filter_eq_self.mpr, List.filter_eq_self.mpr]
    · intro p hp; simpa using fun e => n4 p hp e.symm
    · intro p hp; simpa using n3 p hp _ List.mem_cons_self
  rw [this]; exact R'
theorem Full.delJk (F : Full c env S ((I, o) :: jk) m mu fz h) (R' : Rel c m (Mine.del I mu) fz h') : Full c env S jk m (Mine.del I mu) fz h' := by
  obtain ⟨n1, n2⟩ := List.pairwise_cons.mp F.J.nd
  refine F.move (fun _ h => h) R' (fun x a ob hx hm => mem_del hm fun e => F.J.cel (I, o) List.mem_cons_self x a hx e.symm) (fun x ds a ob hx q hm => mem_del hm fun e => F.J.own (I, o) List.mem_cons_self x ds a hx q e.symm) fun up dn =>
    ⟨fun p hp => mem_del (F.J.mem p (List.mem_cons_of_mem _ hp)) fun q => n1 p hp q.symm, fun p hp => F.J.cel p (List.mem_cons_of_mem _ hp), fun p hp x ds a hx q => F.J.own p (List.mem_cons_of_mem _ hp) x ds a hx (dn _ _ _ hx q), n2⟩

noncomputable def Le (S S' : St) : Prop := ∀ x sl, S'.lookup x = some sl → S.lookup x = some sl
theorem Le.nil {S : St} : Le S [] := fun _ _ h => by cases h
theorem Le.cons {S S' : St} {x : Str} {sl : Slot} (h : S.lookup x = some sl) (l : Le S S') : Le S ((x, sl) :: S') := fun y sl' hy => by
  rcases look_cons hy with ⟨rfl, rfl⟩ | ⟨_, hy⟩
  · exact h
  · exact l y sl' hy
theorem Le.look {S S' : St} (l : Le S S') {x : Str} {sl : Slot} (hx : S'.lookup x = some sl) : S.lookup x = some sl := l _ _ hx
theorem Full.less {S' : St} (F : Full c env S jk m mu fz h) (l : Le S S') : Full c env S' jk m mu fz h :=
  ⟨F.R, ⟨⟨F.X.kind, F.X.glob, F.X.bult, fun x d hx => F.X.val x d (l.look hx), fun x ds hx => F.X.own x ds (l.look hx)⟩, F.X.loc, F.X.cel, F.X.inj, fun x y ds es a h1 h2 => F.X.one x y ds es a (l.look h1) (l.look h2)⟩,
    ⟨F.J.mem, F.J.cel, fun p hp x ds a hx => F.J.own p hp x ds a (l.look hx), F.J.nd⟩⟩

theorem Full.freeze {x : Str} {ds : List Dat} (F : Full c env S jk m mu fz h) (hx : S.lookup x = some (.own ds)) : ∃ mu' fz', Sub fz fz' ∧ Full c env ((x, .val (.list ds)) :: S) jk m mu' fz' h := by
  obtain ⟨a, vs, n, b1, b2, b3⟩ := F.X.own x ds hx
  have R' : Rel c m (Mine.del a mu) ((a, listOf vs.toArray n) :: fz) h := by
    obtain ⟨l1, l2, e⟩ := List.append_of_mem b2
    subst e
    have nd := F.R.nd
    rw [List.pairwise_append] at nd
    obtain ⟨_, n2, n3⟩ := nd
    obtain ⟨n4, _⟩ := List.pairwise_cons.mp n2
    have R' := (F.R.perm List.perm_middle).freeze
    have : Mine.del a (l1 ++ (a, listOf vs.toArray n) :: l2) = l1 ++ l2 := by
      unfold Mine.del
      rw [List.filter_append, List.filter_cons_of_neg (by simp), List.filter_eq_self.mpr, List.filter_eq_self.mpr]
      · intro p hp; simpa using fun e => n4 p hp e.symm
      · intro p hp; simpa using n3 p hp _ List.mem_cons_self
    rw [this]; exact R'
  refine ⟨Mine.del a mu, (a, listOf vs.toArray n) :: fz, sub_cons, ?_⟩
  have up : ∀ y u, At c env m mu y u → At c env m (Mine.del a mu) y u := fun y u q => by
    cases q with
    | loc k1 k2 k3 => exact .loc k1 k2 k3
    | blk _ q2 _ _ => exact absurd F.X.loc (F.R.notL q2)
    | cell k1 k2 k3 k4 =>
      refine .cell k1 k2 (mem_del k3 fun e => ?_) k4
      have q := F.R.get (List.mem_append_left _ k3)
      have q2 := F.R.get (List.mem_append_left _ b2)
      rw [e, q2] at q
      have q3 := Option.some.inj q
      dsimp only at q3
      rw [← q3] at k4; cases k4
  have dn : ∀ y es b, S.lookup y = some (.own es) → At c env m (Mine.del a mu) y (.ref b) → At c env m mu y (.ref b) := fun y es b hy q => by
    obtain ⟨a0, vs, n, c1, _, _⟩ := F.X.own y es hy
    have := At.uniqR R' F.X.loc (up _ _ c1) q
    cases this; exact c1
  refine ⟨R', ⟨⟨F.X.kind, F.X.glob, F.X.bult, fun y d hy => ?_, fun y es hy => ?_⟩, F.X.loc, fun y b hb => ?_, F.X.inj, fun y z es es' b h1 h2 c1 c2 => ?_⟩, ⟨fun p hp => mem_del (F.J.mem p hp) (F.J.own p hp x ds a hx b1), F.J.cel, fun p hp y es b hy q => ?_, F.J.nd⟩⟩
  · rcases look_cons hy with ⟨rfl, e⟩ | ⟨hn, hy⟩
    · cases e
      exact ⟨_, up _ _ b1, .list List.mem_cons_self (b3.mono sub_cons)⟩
    · obtain ⟨v, c1, c2⟩ := F.X.val y d hy
      exact ⟨v, up _ _ c1, c2.mono sub_cons⟩
  · rcases look_cons hy with ⟨_, e⟩ | ⟨hn, hy⟩
    · cases e
    · obtain ⟨a0, vs0, n0, c1, c2, c3⟩ := F.X.own y es hy
      exact ⟨a0, vs0, n0, up _ _ c1, mem_del c2 fun e => hn (F.X.one y x es ds a hy hx (by have e' : a0 = a := e; exact e' ▸ c1) b1), c3.mono sub_cons⟩
  · obtain ⟨ob, v, h1, h2⟩ := F.X.cel y b hb
    refine ⟨ob, v, mem_del h1 fun e => ?_, h2⟩
    have e' : b = a := e
    subst e'
    have := F.R.uniq h1 b2
    subst this; cases h2
  · rcases look_cons h1 with ⟨_, e⟩ | ⟨_, h1⟩
    · cases e
    · rcases look_cons h2 with ⟨_, e⟩ | ⟨_, h2⟩
      · cases e
      · exact F.X.one y z es es' b h1 h2 (dn _ _ _ h1 c1) (dn _ _ _ h2 c2)
  · rcases look_cons hy with ⟨_, e⟩ | ⟨_, hy⟩
    · cases e
    · exact F.J.own p hp y es b hy (dn _ _ _ hy q)
end
end Mine

end
section
open PySem PySem.W PyProof.Rows PySem.Calls
set_option Elab.async false
set_option linter.unusedVariables false
namespace Mine
section
variable {prog : Program} {w : World} {K : Frag} {c : Cx K} {env : Env} {S : St}

theorem Ex.nil : Ex prog w c env S [] (.next S) := fun _ m mu fz s _ F g => wpAny_execs_nil (g m mu fz s.heap s.toks (fun _ h => h) F)
theorem Ex.cons {st : Stmt} {rest : List Stmt} {S' : St} {out : Oc} (h1 : Ex1 prog w c env S st (.next S')) (h2 : Ex prog w c env S' rest out) : Ex prog w c env S (st :: rest) out := fun jk m mu fz s Q F g =>
  wpAny_execs_cons (h1 jk m mu fz s _ F fun m' mu' fz' h' tk' s1 F' => h2 jk m' mu' fz' _ Q F' (g.sub s1))
theorem Ex.ret {st : Stmt} {rest : List Stmt} {d : Dat} (h1 : Ex1 prog w c env S st (.ret d)) : Ex prog w c env S (st :: rest) (.ret d) := fun jk m mu fz s Q F g =>
  wpAny_execs_cons (h1 jk m mu fz s _ F fun v m' mu' fz' h' tk' s1 R' D => g v m' mu' fz' h' tk' s1 R' D)
theorem Ex.post {st : List Stmt} {S' S'' : St} (h : Ex prog w c env S st (.next S')) (l : Le S' S'') : Ex prog w c env S st (.next S'') := fun jk m mu fz s Q F g => h jk m mu fz s Q F fun m' mu' fz' h' tk' s1 F' => g m' mu' fz' h' tk' s1 (F'.less l)
theorem Ex.freeze {x : Str} {ds : List Dat} {st : List Stmt} {out : Oc} (hx : S.lookup x = some (.own ds)) (h : Ex prog w c env ((x, .val (.list ds)) :: S) st out) : Ex prog w c env S st out := fun jk m mu fz s Q F g => by
  obtain ⟨mu', fz', s1, F'⟩ := F.freeze hx
  exact h jk m mu' fz' s Q F' (g.sub (h := s.heap) (tk := s.toks) s1)
theorem Ex1.ret {e : Expr} {pos : Pos} {d : Dat} (h : Ev prog w c env S e d) : Ex1 prog w c env S (.Return (some e) pos) (.ret d) := fun jk m mu fz s Q F g =>
  wpAny_Return_some (h m mu fz s _ F.R F.X.toSat fun v fz' h' tk' s1 R' D => g v m mu fz' h' tk' s1 R' D)
theorem Ex1.assign {x : Str} {p pos : Pos} {e : Expr} {d : Dat} (h : Ev prog w c env S e d) (hw : Wr env x) (hs : autoParam (swapsWith e (some (.Name x p)) pos.line env = pure false) Mine.sx0) : Ex1 prog w c env S (.Assign [.Name x p] e pos) (.next ((x, .val d) :: S)) := fun jk m mu fz s Q F g =>
  wpAny_Assign_Name (h m mu fz s _ F.R F.X.toSat fun v fz' h' tk' s1 R' D => store_val (s := { s with heap := h', toks := tk' }) (F.to s1 R') hw D fun m' mu' h2 t2 F2 => g m' mu' fz' h2 t2 s1 F2) hs
theorem Ex1.assignList {x : Str} {p pos lp : Pos} {es : List Expr} {ds : List Dat} (h : EvL prog w c env S es ds) (hw : Wr env x) (hz : ds.length ≤ sizeLine) : Ex1 prog w c env S (.Assign [.Name x p] (.List es lp) pos) (.next ((x, .own ds) :: S)) := by
  intro jk m mu fz s Q F g
  refine wpAny_Assign_Name (List_ (h m mu fz s lp _ F.R F.X.toSat fun vs fz' h' tk' s1 R' D => ?_))
  refine wpAny_newObj_type ?_ (by show vs.toArray.size ≤ sizeLine; rw [List.size_toArray, D.length]; exact hz)
  have R2 := R'.pushMu (listOf vs.toArray 0)
  have F2 := F.pushJk s1 R2
  have F3 : Full c env S jk m ((h'.objs.size, listOf vs.toArray 0) :: mu) fz' _ := ⟨F2.R, F2.X, ⟨fun p hp => F2.J.mem p (List.mem_cons_of_mem _ hp), fun p hp => F2.J.cel p (List.mem_cons_of_mem _ hp), fun p hp => F2.J.own p (List.mem_cons_of_mem _ hp), (List.pairwise_cons.mp F2.J.nd).2⟩⟩
  refine store_own (s := { s with heap := h'.push (listOf vs.toArray 0), toks := tk' }) F3 hw List.mem_cons_self D (fun y es a _ hy q => Ne.symm (F2.J.own _ List.mem_cons_self y es a hy q)) (fun p hp => ?_) fun m' mu' h2 t2 F4 => g m' mu' fz' h2 t2 s1 F4
  exact Ne.symm ((List.pairwise_cons.mp F2.J.nd).1 p hp)
theorem Ex1.ite {e : Expr} {body orelse : List Stmt} {pos : Pos} {b : Bool} {out : Oc} (ht : Tst prog w c env S e b) (h1 : b = true → Ex prog w c env S body out) (h2 : b = false → Ex prog w c env S orelse out) : Ex1 prog w c env S (.If e body orelse pos) out := by
  intro jk m mu fz s Q F g
  refine wpAny_If (ht m mu fz s _ F.R F.X.toSat fun fz' h' tk' s1 R' => ?_)
  cases b with
  | true => exact h1 rfl jk m mu fz' _ Q (F.to s1 R') (g.sub s1)
  | false => exact h2 rfl jk m mu fz' _ Q (F.to s1 R') (g.sub s1)
theorem Ex1.augInt {x : Str} {np pos : Pos} {e : Expr} {a b : Int} (hx : S.lookup x = some (.val (.int a))) (h : Ev prog w c env S e (.int b)) (hw : Wr env x) : Ex1 prog w c env S (.AugAssign (.Name x np) .Add e pos) (.next ((x, .val (.int (a + b))) :: S)) := by
  intro jk m mu fz s Q F g
  obtain ⟨v, av, D⟩ := F.X.val x _ hx
  cases D
  refine wpAny_AugAssign_Name (load_at F.R F.X.kind av (h m mu fz s _ F.R F.X.toSat fun v2 fz' h' tk' s1 R' D2 => ?_))
  cases D2
  exact PyProof.Rows.iadd_int (store_val (s := { s with heap := h', toks := tk' + 1 }) (F.to s1 R') hw (.int _ _) fun m' mu' h2 t2 F2 => g m' mu' fz' h2 t2 s1 F2)

theorem line_rel {o : Obj} {I : Addr} {ds : List Dat} {fp : List Addr} {P : Nat → Value → Prop} {Sx : Nat → Heap → Prop} {fz mu : Led} {m : Str → Option Value} {s : Shared} {i : Nat} {Q : Option Value → Shared → Prop} {E : Value → Shared → Prop} (O : ItOk prog w c I fz ds fp P Sx) (R : Rel c m mu fz s.heap) (hm : (I, o) ∈ mu) (st : Sx i s.heap) (hi : i < ds.length)
    (k : ∀ v o' h' tk' d, ds[i]? = some d → DatIn fz v d → Rel c m (upd I o' mu) fz h' → Sx (i + 1) h' → Q (some v) { s with heap := h', toks := tk' }) : wpAny (model prog w) c.A (pyNext (.ref I)) Q E s := by
  refine O.W.item i s Q E hi st fun v h' tk hp st' hk => ?_
  obtain ⟨d, e, D⟩ := O.dat i v hi hp
  obtain ⟨o', ho'⟩ := O.ob _ _ st'
  exact k v o' h' tk d e D (R.upd hm (fun b x hb q => hk b x (by simpa using hb) q) ho') st'

inductive ForI {K : Frag} (c : Cx K) (env : Env) (Si : Nat → St) (fz1 : Led) (I : Addr) (jk : Led) (Sx : Nat → Heap → Prop) (len : Nat) (s : Shared) (q : Nat) (s' : Shared) : Prop
  | mk (i : Nat) (oI : Obj) (m' : Str → Option Value) (mu' fz' : Led) (h' : Heap) (tk' : Nat) : s' = { s with heap := h', toks := tk' } → Sub fz1 fz' → Full c env (Si i) ((I, oI) :: jk) m' mu' fz' h' → Sx i h' → i ≤ len → q = len + 1 - i → ForI c env Si fz1 I jk Sx len s q s'
theorem Ex1.for_ {x : Str} {px pos : Pos} {iter : Expr} {body : List Stmt} {ds : List Dat} (Si : Nat → St) (hit : EvIt prog w c env S iter ds) (h0 : Le S (Si 0)) (hw : Wr env x)
    (hb : ∀ i d, ds[i]? = some d → Ex prog w c env ((x, .val d) :: Si i) body (.next (Si (i + 1)))) (hs : autoParam (∀ x, foldedSetIterable iter env x = pure x) Mine.sx1) :
    Ex1 prog w c env S (.For (.Name x px) iter body [] pos) (.next (Si ds.length)) := by
  intro jk m mu fz s Q F g
  refine wpAny_For (hit m mu fz s _ F.R F.X.toSat fun I o fp P Sx fz1 h1 t1 s1 R1 O st => ?_) hs
  have F1 := (F.pushJk s1 R1).less h0
  refine codeAny_forLoop (ForI c env Si fz1 I jk Sx ds.length s) ?_ (ds.length + 1)
    ⟨0, o, m, _, fz1, h1, t1, rfl, fun _ h => h, F1, st, Nat.zero_le _, rfl⟩
  rintro q s' ⟨i, oI, m2, mu2, fz2, h2, t2, rfl, s2, F2, st2, hi, rfl⟩
  have hI := F2.J.mem (I, oI) List.mem_cons_self
  by_cases hlt : i < ds.length
  · refine line_rel (s := { s with heap := h2, toks := t2 }) (O.mono s2) F2.R hI st2 hlt fun v o3 h3 t3 d hd Dd R3 st3 => ?_
    have F3 := F2.turnJk R3
    refine wpAny_assign_Name (store_val (s := { s with heap := h3, toks := t3 }) F3 hw Dd fun m4 mu4 h4 t4 F4 => ?_)
    have st4 : Sx (i + 1) h4 := (O.mono s2).frame R3 F4.R (o := o3) (mem_upd_self hI) (F4.J.mem _ List.mem_cons_self) (fun _ h => h) st3
    refine wpAny_mono (hb i d hd _ m4 mu4 fz2 { s with heap := h4, toks := t4 } (fun fl s5 => fl = .next ∧ ∃ m' mu' fz' h' tk', s5 = { s with heap := h', toks := tk' } ∧ Sub fz2 fz' ∧ Full c env (Si (i + 1)) ((I, o3) :: jk) m' mu' fz' h') F4 fun m' mu' fz' h' tk' s5 F5 => ⟨rfl, m', mu', fz', h', tk', rfl, s5, F5⟩) (fun fl s5 => ?_) fun _ _ y => y.elim
    rintro ⟨rfl, m5, mu5, fz5, h5, t5, rfl, s5, F5⟩
    exact ⟨ds.length + 1 - (i + 1), by walk_at "om", i + 1, o3, m5, mu5, fz5, h5, t5, rfl, s2.trans s5, F5, (O.mono s2).frame F4.R F5.R (o := o3) (F4.J.mem _ List.mem_cons_self) (F5.J.mem _ List.mem_cons_self) s5 st4, hlt, rfl⟩
  · have e : i = ds.length := by walk_at "om"
    subst e
    refine (O.mono s2).W.done _ _ _ st2 fun h3 t3 hk => ?_
    have R3 := F2.R.del hI (h' := h3) fun b y hb e => hk b y (by simpa using hb) e
    exact wpAny_execs_nil (g m2 _ fz2 h3 t3 (s1.trans s2) (F2.delJk R3))

theorem Ex1.append {x : Str} {np ap cp pos : Pos} {e : Expr} {ds : List Dat} {d : Dat} (hx : S.lookup x = some (.own ds)) (h : Ev prog w c env S e d) (hz : ds.length ≤ 2 ^ 20) (hxs : autoParam ((x == ("__debug__" : Str)) = false) Mine.sx3)
    (hline : autoParam ((ap.endLine == cp.line) = true) Mine.sx0) (hbase : autoParam (attributeBase (.Name x np) "append" env (eval (.Name x np) env) = eval (.Name x np) env) Mine.sx0) (htrees : autoParam (backTo cp (starEach [e] env) = [(false, eval e env)]) Mine.sx0)
    (hi : autoParam (interactive env = false) Mine.sx0) (hs : autoParam (swapsWith (.Call (.Attribute (.Name x np) "append" ap) [e] [] cp) none pos.line env = pure false) Mine.sx0) :
    Ex1 prog w c env S (.Expr (.Call (.Attribute (.Name x np) "append" ap) [e] [] cp) pos) (.next ((x, .own (ds ++ [d])) :: S)) := by
  intro jk m mu fz s Q F g
  obtain ⟨a, vs, n, b1, b2, b3⟩ := F.X.own x ds hx
  refine wpAny_Expr ?_ hi hs
  refine wpAny_Call_method1_late hbase hline htrees (wpAny_Name (load_at F.R F.X.kind b1 ?_) hxs)
  have hl := isList_at (F.R.get (List.mem_append_left _ b2))
  refine ⟨"list", "list.append", PySem.F.plainAttrs_list, slot_list_append, by with_unfolding_all rfl, hl.typeIs, fun a' e' => ?_, ?_⟩
  · cases e'; exact ⟨_, F.R.get (List.mem_append_left _ b2), rfl⟩
  refine callWith_builtin rfl (evalArgs_plain (spliced_cons (h m mu fz s _ F.R F.X.toSat fun v fz' h' tk' s1 R' D => spliced_nil ?_)))
  have e1 := b3.length
  refine wpAny_list_append_plain (items := vs.toArray) (hsz := by rw [List.size_toArray, e1, sizeLine_eq]; walk_at "om") ⟨n, R'.get (List.mem_append_left _ b2)⟩ fun h2 hl2 hs2 => ?_
  obtain ⟨n2, g2⟩ := hl2
  have g3 : h2.get? a = some (listOf (vs ++ [v]).toArray n2) := by rw [← List.push_toArray]; exact g2
  have R2 := R'.upd b2 (fun b y hb e => hs2.extBut b y hb e) g3
  have F1 := F.to s1 R'
  have F2 : Full c env ((x, .own (ds ++ [d])) :: S) jk m (upd a (listOf (vs ++ [v]).toArray n2) mu) fz' h2 := by
    have up : ∀ y u, At c env m mu y u → At c env m (upd a (listOf (vs ++ [v]).toArray n2) mu) y u := fun y u q => by
      cases q with
      | loc k1 k2 k3 => exact .loc k1 k2 k3
      | blk _ q2 _ _ => exact absurd F.X.loc (F.R.notL q2)
      | cell k1 k2 k3 k4 => exact .cell k1 k2 (mem_upd k3 fun e => own_not_cell F b2 k2 e.symm) k4
    have dn : ∀ y es b, S.lookup y = some (.own es) → At c env m (upd a (listOf (vs ++ [v]).toArray n2) mu) y (.ref b) → At c env m mu y (.ref b) := fun y es b hy q => by
      obtain ⟨a0, vs0, n0, c1, _, _⟩ := F.X.own y es hy
      have := At.uniqR R2 F.X.loc (up _ _ c1) q
      cases this; exact c1
    have dn' : ∀ y es b, ((x, Slot.own (ds ++ [d])) :: S).lookup y = some (.own es) → At c env m (upd a (listOf (vs ++ [v]).toArray n2) mu) y (.ref b) → ∃ es', S.lookup y = some (.own es') ∧ At c env m mu y (.ref b) := fun y es b hy q => by
      rcases look_cons hy with ⟨rfl, _⟩ | ⟨_, hy⟩
      · exact ⟨ds, hx, dn _ _ _ hx q⟩
      · exact ⟨es, hy, dn _ _ _ hy q⟩
    refine ⟨R2, ⟨⟨F.X.kind, F.X.glob, F.X.bult, fun y d' hy => ?_, fun y es hy => ?_⟩, F.X.loc, fun y b hb => ?_, F.X.inj, fun y z es es' b h1 h2 c1 c2 => ?_⟩, ⟨fun p hp => mem_upd (F.J.mem p hp) (F.J.own p hp x ds a hx b1), F.J.cel, fun p hp y es b hy q => ?_, F.J.nd⟩⟩
    · rcases look_cons hy with ⟨_, e⟩ | ⟨_, hy⟩
      · cases e
      · obtain ⟨u, c1, c2⟩ := F1.X.val y d' hy
        exact ⟨u, up _ _ c1, c2⟩
    · rcases look_cons hy with ⟨rfl, e⟩ | ⟨hn, hy⟩
      · cases e
        exact ⟨a, vs ++ [v], n2, up _ _ b1, mem_upd_self b2, DatAll.append (b3.mono s1) (.one D)⟩
      · obtain ⟨a0, vs0, n0, c1, c2, c3⟩ := F1.X.own y es hy
        exact ⟨a0, vs0, n0, up _ _ c1, mem_upd c2 fun e => hn (F.X.one y x es ds a hy hx (by have e' : a0 = a := e; exact e' ▸ c1) b1), c3⟩
    · obtain ⟨ob, u, h1, h2⟩ := F.X.cel y b hb
      exact ⟨ob, u, mem_upd h1 fun e => own_not_cell F b2 hb e.symm, h2⟩
    · obtain ⟨_, q1, q2⟩ := dn' _ _ _ h1 c1
      obtain ⟨_, q3, q4⟩ := dn' _ _ _ h2 c2
      exact F.X.one y z _ _ b q1 q3 q2 q4
    · obtain ⟨_, q1, q2⟩ := dn' _ _ _ hy q
      exact F.J.own p hp y _ b q1 q2
  exact g m _ fz' h2 tk' s1 F2
end
end Mine

end
section
open PySem PySem.W PyProof.Rows PySem.Calls
set_option Elab.async false
set_option linter.unusedVariables false
namespace Mine
theorem bindL_not {k : Str → Option NameKind} {x : Str} : ∀ {b : List (Str × Value)} {m : Str → Option Value}, (∀ p ∈ b, p.1 ≠ x) → bindL k b m x = m x
  | [], _, _ => rfl
  | (n, v) :: r, m, h => by
    rw [bindL, bindL_not fun p hp => h p (List.mem_cons_of_mem _ hp)]
    have hn := h (n, v) List.mem_cons_self
    split
    · exact if_neg fun e => hn e.symm
    · rfl
theorem bindL_at {k : Str → Option NameKind} {x : Str} {v : Value} (hk : k x = some .local) : ∀ {b : List (Str × Value)} {m : Str → Option Value}, (b.map (·.1)).Nodup → (x, v) ∈ b → bindL k b m x = some v
  | [], _, _, h => nomatch h
  | (n, u) :: r, m, nd, h => by
    rw [List.map_cons, List.nodup_cons] at nd
    rw [bindL]
    rcases List.mem_cons.mp h with e | e
    · cases e
      rw [bindL_not fun p hp (e : p.1 = x) => nd.1 (e ▸ List.mem_map_of_mem (f := (·.1)) hp), if_pos hk, if_pos rfl]
    · exact bindL_at hk nd.2 e
theorem bindC_not {k : Str → Option NameKind} {x : Str} : ∀ {b : List (Str × Value)} {m : Str → Option Value}, (∀ p ∈ b, p.1 ≠ x) → bindC k b m x = m x
  | [], _, _ => rfl
  | (n, v) :: r, m, h => by
    rw [bindC, bindC_not fun p hp => h p (List.mem_cons_of_mem _ hp)]
    have hn := h (n, v) List.mem_cons_self
    split
    · rfl
    · exact if_neg fun e => hn e.symm
theorem bindC_at {k : Str → Option NameKind} {x : Str} {v : Value} (hk : k x ≠ some .local) : ∀ {b : List (Str × Value)} {m : Str → Option Value}, (b.map (·.1)).Nodup → (x, v) ∈ b → bindC k b m x = some v
  | [], _, _, h => nomatch h
  | (n, u) :: r, m, nd, h => by
    rw [List.map_cons, List.nodup_cons] at nd
    rw [bindC]
    rcases List.mem_cons.mp h with e | e
    · cases e
      rw [bindC_not fun p hp (e : p.1 = x) => nd.1 (e ▸ List.mem_map_of_mem (f := (·.1)) hp), if_neg hk, if_pos rfl]
    · exact bindC_at hk nd.2 e
theorem cellsAre_mem {cm : Str → Option Value} : ∀ {cs : List (Str × Addr)} {cells : List (Addr × Obj)}, CellsAre cm cs cells → ∀ {n : Str} {a : Addr}, (n, a) ∈ cs → ∃ o, (a, o) ∈ cells ∧ o.data = .cell (cm n) := by
  intro cs cells X
  induction X with
  | nil => intro n a h; cases h
  | cons h _ ih =>
    intro n a hm
    rcases List.mem_cons.mp hm with e | e
    · cases e; exact ⟨_, List.mem_cons_self, h⟩
    · obtain ⟨o, h1, h2⟩ := ih e
      exact ⟨o, List.mem_cons_of_mem _ h1, h2⟩
theorem cellsAre_addr {cm : Str → Option Value} : ∀ {cs : List (Str × Addr)} {cells : List (Addr × Obj)}, CellsAre cm cs cells → cells.map (·.1) = cs.map (·.2) := by
  intro cs cells X
  induction X with
  | nil => rfl
  | cons _ _ ih => simp [ih]

theorem look_names {α β : Type} {x : Str} : ∀ {l : List (Str × α)} {l' : List (Str × β)}, l.map (·.1) = l'.map (·.1) → (l.lookup x).isSome = (l'.lookup x).isSome
  | [], [], _ => rfl
  | [], _ :: _, h => by simp at h
  | _ :: _, [], h => by simp at h
  | (a, u) :: l, (b, v) :: l', h => by
    simp only [List.map_cons, List.cons.injEq] at h
    obtain ⟨h1, h2⟩ := h
    subst h1
    rw [List.lookup_cons, List.lookup_cons]
    cases x == a with
    | true => rfl
    | false => exact look_names h2
theorem dfun_of {prog : Program} {w : World} {K : Frag} {f : Addr} {d u : Nat} {ps : List Str} {ds : List Dat} {r : Dat}
    {name qual : Str} {params : Arguments} {body : List Stmt} {scope : Scope} {dV kV doc pm cdv ct oc : Value} {an od : Option Addr} {osl : Array (Option Value)}
    (ho : K.lookup f = some ⟨oc, od, .func (fnOf name qual params body scope dV kV doc pm an cdv ct), osl⟩) (hcd : codeIn K cdv qual = true)
    (hlen : ps.length = ds.length) (hbind : ∀ (vs : List Value), vs.length = ps.length → ∀ s : Shared, K.In s.heap → BindsTo s (fnOf name qual params body scope dV kV doc pm an cdv ct) ⟨vs, []⟩ (ps.zip vs)) (hps : ps.Nodup)
    (hkb : (ps.all fun x => decide (scope.names.lookup x = some .local) || (decide (scope.names.lookup x = some .cell) && ((cellsFrom 0 scope.names []).lookup x).isSome)) = true)
    (hnd : ((cellsFrom 0 scope.names []).map (·.1)).Nodup)
    (hco : scope.isCoroutine = false) (hgen : scope.isGenerator = false) (hk : scope.kind = .function)
    (h : ∀ c : Cx K, c.dp + d ≤ recursionLimit → c.un + u ≤ cLine → Ex prog w c (envOfC qual scope c.L f cdv) (ps.zip (ds.map Slot.val)) body (.ret r)) : DFun prog w K f (d + 1) (u + 8) ds r := by
  intro vs fz Dv
  have hkind : ∀ n, ∀ x ∈ ps, scope.names.lookup x = some .local ∨ (scope.names.lookup x = some .cell ∧ ((cellsFrom n scope.names []).lookup x).isSome = true) := fun n x hx => by
    have q := List.all_eq_true.mp hkb x hx
    rw [Bool.or_eq_true, Bool.and_eq_true, decide_eq_true_eq, decide_eq_true_eq] at q
    exact q.imp id fun ⟨a, b⟩ => ⟨a, (look_names (cellsFrom_names scope.names n 0 [] [] rfl)).trans b⟩
  have hl : vs.length = ps.length := by rw [Dv.length, hlen]
  refine spec_ofC (binds := ps.zip vs) ho hcd (hbind vs hl) (fun n x hx => hkind n x.1 (List.of_mem_zip hx).1) hnd hco hgen hk ?_
  intro p loose mean mg mb dp un gd A₀ base g outer L s Q cells hdp hun G F N Y hlt hgt hap k
  let c : Cx K := { p, loose, mean, mg, mb, dp, un, gd, cn := qual, cs := scope, a := f, ccd := cdv, cl := cellsFrom (L + 1) scope.names [], outer, A₀, base, ge := g, L, hcs := hk }
  have nd : cells.Pairwise fun p q => p.1 ≠ q.1 := by
    have e := cellsAre_addr Y
    have h1 : (cells.map (·.1)).Pairwise (· ≠ ·) := by rw [e]; exact List.pairwise_map.mpr hap
    exact List.pairwise_map.mp h1
  have R : Rel c _ cells fz s.heap := ⟨⟨g, G, KtsTurn.refl, F, N⟩, fun p hp q hq => Nat.ne_of_gt (Nat.lt_trans (hlt q hq) (hgt p hp)), nd⟩
  have bn : ((ps.zip vs).map (·.1)).Nodup := by rw [List.map_fst_zip (by walk_at "om")]; exact hps
  have zip : ∀ (ps : List Str) (vs : List Value) (ds : List Dat), DatAll fz vs ds → ps.length = ds.length → ∀ x sl, (x, sl) ∈ ps.zip (ds.map Slot.val) → ∃ v d, sl = .val d ∧ (x, v) ∈ ps.zip vs ∧ DatIn fz v d := by
    intro ps
    induction ps with
    | nil => intro vs ds _ _ x sl hm; simp at hm
    | cons y ps ih =>
      intro vs ds D hl x sl hm
      cases D with
      | nil => simp at hl
      | cons D1 D2 =>
        simp only [List.map_cons, List.zip_cons_cons, List.mem_cons] at hm
        rcases hm with e | e
        · cases e; exact ⟨_, _, rfl, List.mem_cons_self, D1⟩
        · obtain ⟨v, d, h1, h2, h3⟩ := ih _ _ D2 (by simpa using hl) x sl e
          exact ⟨v, d, h1, List.mem_cons_of_mem _ h2, h3⟩
  have X : SatS c (envOfC qual scope L f cdv) (ps.zip (ds.map Slot.val)) (bindL (envOfC qual scope L f cdv).kindOf (ps.zip vs) fun _ => none) cells fz := by
    refine ⟨⟨hk, rfl, rfl, fun x d hx => ?_, fun x es hx => ?_⟩, rfl, fun x a hx => ?_, fun x y a h1 h2 => name_of_addr hap (mem_of_lookup' h1) (mem_of_lookup' h2), fun x y es es' a h1 => ?_⟩
    · obtain ⟨v, d', e, h2, h3⟩ := zip ps vs ds Dv hlen x _ (mem_of_lookup' hx)
      cases e
      refine ⟨v, ?_, h3⟩
      rcases hkind (L + 1) x (List.of_mem_zip h2).1 with kx | ⟨kx, cx⟩
      · exact .loc kx rfl (bindL_at kx bn h2)
      · obtain ⟨a, ha⟩ := Option.isSome_iff_exists.mp cx
        obtain ⟨o, ho, hd⟩ := cellsAre_mem Y (mem_of_lookup' ha)
        refine .cell kx ha ho (hd.trans ?_)
        rw [bindC_at (show (envOfC qual scope L f cdv).kindOf x ≠ some .local from fun q => by
          have q2 : scope.names.lookup x = some .local := q
          rw [kx] at q2; cases q2) bn h2]
    · obtain ⟨v, d', e, _, _⟩ := zip ps vs ds Dv hlen x _ (mem_of_lookup' hx)
      cases e
    · obtain ⟨o, ho, hd⟩ := cellsAre_mem Y (mem_of_lookup' hx)
      exact ⟨o, _, ho, hd⟩
    · obtain ⟨v, d', e, _, _⟩ := zip ps vs ds Dv hlen x _ (mem_of_lookup' h1)
      cases e
  refine h c hdp hun [] _ cells fz s Q ⟨R, X, ⟨(fun _ hp => nomatch hp), (fun _ hp => nomatch hp), (fun _ hp => nomatch hp), List.Pairwise.nil⟩⟩ ?_
  intro v m' mu' fz' h' tk' s1 R' D
  obtain ⟨h₀, G', T', F', N'⟩ := R'.ex
  exact k (.ret v) h₀ h' tk' m' fz' T' F' (fun p hp => N' p (List.mem_append_right _ hp)) ⟨s1, D⟩
end Mine

end
section
open PySem PySem.W PyProof.Rows PySem.Calls
set_option Elab.async false
set_option linter.unusedVariables false
namespace Mine
noncomputable def toI : Dat → Int | .int i => i | _ => 0
noncomputable def toL : Dat → List Int | .list ds => ds.map toI | _ => []
noncomputable abbrev lD (l : List Int) : Dat := .list (intsD l)
noncomputable abbrev gD (g : List (List Int)) : List Dat := g.map lD
theorem gD_snoc (g : List (List Int)) (l : List Int) : gD (g ++ [l]) = gD g ++ [lD l] := List.map_append
theorem toL_lD (l : List Int) : toL (lD l) = l := by
  simp only [toL, intsD, List.map_map]
  exact (List.map_congr_left fun _ _ => rfl).trans (List.map_id _)
section
variable {prog : Program} {w : World} {K : Frag} {c : Cx K} {env : Env} {S : St}
theorem Ev.cast {e : Expr} {d d' : Dat} (h : Ev prog w c env S e d) (q : d = d') : Ev prog w c env S e d' := q ▸ h
theorem pick_map {α : Type} (g : α → Dat) (inv : Dat → α) (hinv : ∀ a, inv (g a) = a) (t : α → Bool) (f : α → Dat) (xs : List α) : ((xs.map g).filter fun d => t (inv d)).map (fun d => f (inv d)) = (xs.filter t).map f := by
  induction xs with
  | nil => rfl
  | cons x xs ih =>
    rw [List.map_cons, List.filter_cons, List.filter_cons, hinv]
    split
    · rw [List.map_cons, List.map_cons, hinv, ih]
    · exact ih
theorem Ev.compA {α : Type} (g : α → Dat) (inv : Dat → α) (hinv : ∀ a, inv (g a) = a) {elt iter : Expr} {x : Str} {px : Pos} {ifs : List Expr} {scope : Scope} {cl : List (Str × Addr)} {pos : Pos} {Cp : St} {xs : List α} (t : α → Bool) (f : α → Dat) (hit : EvIt prog w c env S iter (xs.map g))
    (hclos : closureFor scope env = pure cl) (hcap : Cap env S scope cl Cp) (hkind : scope.kind = .function) (hcell : ∀ y ∈ scope.names, y.2 ≠ .cell) (hnames : ∀ x ∈ scope.names, x.2 = .local → scope.names.lookup x.1 = some .local) (hx : scope.names.lookup x = some .local) (hz : xs.length ≤ 2 ^ 20)
    (ht : ∀ C, ∀ a ∈ xs, Tsts prog w c (compEnvC scope cl C env) ((x, .val (g a)) :: Cp) ifs (t a)) (hf : ∀ C, ∀ a ∈ xs, t a = true → Ev prog w c (compEnvC scope cl C env) ((x, .val (g a)) :: Cp) elt (f a))
    (hs : autoParam (∀ x, foldedSetIterable iter env x = pure x) Mine.sx1) : Ev prog w c env S (.ListComp elt [⟨.Name x px, iter, ifs, 0⟩] scope pos) (.list ((xs.filter t).map f)) := by
  rw [← pick_map g inv hinv t f xs]
  refine Ev.comp (fun d => t (inv d)) (fun d => f (inv d)) hit hclos hcap hkind hcell hnames hx (fun C d hd => ?_) (fun C d hd => ?_) (by simpa using hz) hs
  · obtain ⟨a, ha, rfl⟩ := List.mem_map.mp hd
    rw [hinv]; exact ht C a ha
  · obtain ⟨a, ha, rfl⟩ := List.mem_map.mp hd
    rw [hinv]; exact hf C a ha
end
end Mine

end
section
open PySem PySem.W PyProof.Rows PySem.Calls
set_option Elab.async false
set_option linter.unusedVariables false
set_option maxRecDepth 100000
namespace Mine
section
variable {prog : Program} {w : World} {K : Frag} {c : Cx K} {env : Env} {S : St}

theorem Full.ownTurn {x : Str} {jk : Led} {m : Str → Option Value} {mu fz fz' : Led} {h h' : Heap} {ds ds' : List Dat} {a : Addr} {vs vs' : List Value} {n n' : Nat} (F : Full c env S jk m mu fz h) (hx : S.lookup x = some (.own ds)) (b1 : At c env m mu x (.ref a)) (b2 : (a, listOf vs.toArray n) ∈ mu)
    (s1 : Sub fz fz') (R2 : Rel c m (upd a (listOf vs'.toArray n') mu) fz' h') (D : DatAll fz' vs' ds') : Full c env ((x, .own ds') :: S) jk m (upd a (listOf vs'.toArray n') mu) fz' h' := by
  have nc : ∀ y b, env.cells.lookup y = some b → b ≠ a := fun y b hb e => by
    subst e
    obtain ⟨o, v, hm, hd⟩ := F.X.cel y b hb
    have := F.R.uniq b2 hm
    subst this; cases hd
  have up : ∀ y u, At c env m mu y u → At c env m (upd a (listOf vs'.toArray n') mu) y u := fun y u q => by
    cases q with
    | loc k1 k2 k3 => exact .loc k1 k2 k3
    | blk _ q2 _ _ => exact absurd F.X.loc (F.R.notL q2)
    | cell k1 k2 k3 k4 => exact .cell k1 k2 (mem_upd k3 (nc _ _ k2)) k4
  have dn : ∀ y es b, S.lookup y = some (.own es) → At c env m (upd a (listOf vs'.toArray n') mu) y (.ref b) → At c env m mu y (.ref b) := fun y es b hy q => by
    obtain ⟨a0, vs0, n0, c1, _, _⟩ := F.X.own y es hy
    have := At.uniqR R2 F.X.loc (up _ _ c1) q
    cases this; exact c1
  have dn' : ∀ y es b, ((x, Slot.own ds') :: S).lookup y = some (.own es) → At c env m (upd a (listOf vs'.toArray n') mu) y (.ref b) → ∃ es', S.lookup y = some (.own es') ∧ At c env m mu y (.ref b) := fun y es b hy q => by
    rcases look_cons hy with ⟨rfl, _⟩ | ⟨_, hy⟩
    · exact ⟨ds, hx, dn _ _ _ hx q⟩
    · exact ⟨es, hy, dn _ _ _ hy q⟩
  refine ⟨R2, ⟨⟨F.X.kind, F.X.glob, F.X.bult, fun y d' hy => ?_, fun y es hy => ?_⟩, F.X.loc, fun y b hb => ?_, F.X.inj, fun y z es es' b h1 h2 c1 c2 => ?_⟩, ⟨fun p hp => mem_upd (F.J.mem p hp) (F.J.own p hp x ds a hx b1), F.J.cel, fun p hp y es b hy q => ?_, F.J.nd⟩⟩
  · rcases look_cons hy with ⟨_, e⟩ | ⟨_, hy⟩
    · cases e
    · obtain ⟨u, c1, c2⟩ := F.X.val y d' hy
      exact ⟨u, up _ _ c1, c2.mono s1⟩
  · rcases look_cons hy with ⟨rfl, e⟩ | ⟨hn, hy⟩
    · cases e
      exact ⟨a, vs', n', up _ _ b1, mem_upd_self b2, D⟩
    · obtain ⟨a0, vs0, n0, c1, c2, c3⟩ := F.X.own y es hy
      exact ⟨a0, vs0, n0, up _ _ c1, mem_upd c2 fun e => hn (F.X.one y x es ds a hy hx (by have e' : a0 = a := e; exact e' ▸ c1) b1), c3.mono s1⟩
  · obtain ⟨ob, u, h1, h2⟩ := F.X.cel y b hb
    exact ⟨ob, u, mem_upd h1 (nc _ _ hb), h2⟩
  · obtain ⟨_, q1, q2⟩ := dn' _ _ _ h1 c1
    obtain ⟨_, q3, q4⟩ := dn' _ _ _ h2 c2
    exact F.X.one y z _ _ b q1 q3 q2 q4
  · obtain ⟨_, q1, q2⟩ := dn' _ _ _ hy q
    exact F.J.own p hp y _ b q1 q2

theorem seq_list_iadd : seqSlot? (.type "list") (dunderI "add") = pure (some (.builtin "list.__iadd__")) := PySem.seqSlot_of PySem.F.slot_list_iadd.lookup (by decide +kernel)
theorem noFill_list_iadd : fillsInplaceSlot (.type "list") "add" (Operator.Add == .Add) = pure false := by
  unfold fillsInplaceSlot
  show (typeLookup (.type "list") (dunderI "add") >>= fun fi => pure (fi.isSome && !isSeqSlot fi)) = pure false
  rw [PySem.F.slot_list_iadd.lookup]
  have e : isSeqSlot (some (.builtin "list.__iadd__")) = true := by decide +kernel
  show (pure ((some (Value.builtin "list.__iadd__")).isSome && !isSeqSlot (some (.builtin "list.__iadd__"))) : Sem Bool) = pure false
  rw [e]; rfl
theorem iadd_lists {A : Around} {E : Value → Shared → Prop} {s : Shared} {a b : Addr} {vs us : List Value} {n n2 : Nat} {Q : Value → Shared → Prop} (ha : s.heap.get? a = some (listOf vs.toArray n)) (hb : s.heap.get? b = some (listOf us.toArray n2)) (hz : vs.length + us.length ≤ 1000000)
    (h : ∀ h' n', h'.get? a = some (listOf (vs ++ us).toArray n') → Heap.SameBut a s.heap h' → Q (.ref a) { s with heap := h' }) : wpAny (model prog w) A (inplaceOp .Add (.ref a) (.ref b)) Q E s := by
  have no : ∀ k : Nat, k ≤ 1000000 → Builtin.List.listTooLong k = false := fun k hk => by unfold Builtin.List.listTooLong; rw [sizeLine_eq]; exact decide_eq_false (by walk_at "om")
  unfold inplaceOp
  refine wpAny_holding ?_
  have Ta : s.TypeIs (.ref a) "list" := ⟨_, ha, rfl⟩
  have Tb : s.TypeIs (.ref b) "list" := ⟨_, hb, rfl⟩
  refine wpAny_bind (wpAny_typeOf Ta (wpAny_bind (wpAny_of_eq noFill_list_iadd ?_)))
  show wpAny (model prog w) A (if false = true then _ else _) Q E s
  rw [if_neg Bool.false_ne_true]
  refine wpAny_bind (wpAny_binaryOp1_none (nm := "add") Ta Tb noFill_list_add ?_)
  refine wpAny_bind (wpAny_of_eq seq_list_iadd ?_)
  refine wpAny_bind (wpAny_rule ?_)
  refine call_meets PySem.F.slot_list_iadd Ta PySem.F.entry_list_iadd (PySem.F.args_list_iadd_2 _ _) (AutoSeq1.list___iadd___list_list_0 a vs.toArray n b us.toArray n2 ?_ ?_ ?_) ⟨ha, hb, ?_⟩
  · rw [no _ (by simpa using hz)]; simp
  · rw [sizeLine_eq]; simp; walk_at "om"
  · rw [sizeLine_eq]; simp; walk_at "om"
  have e : (vs.toArray ++ us.toArray) = (vs ++ us).toArray := by simp
  obtain ⟨n', hn'⟩ : ∃ n', Obj.mapSeq (fun x => x ++ us.toArray) (listOf vs.toArray n) = listOf (vs ++ us).toArray n' := by rw [← e]; exact ⟨_, rfl⟩
  refine h _ n' ?_ (Heap.SameBut.update ..)
  rw [← hn']
  exact Heap.get?_update_self _ ha (by rw [hn']; rfl)

theorem Ex1.augList {x : Str} {np pos : Pos} {e : Expr} {ds es : List Dat} (hx : S.lookup x = some (.own ds)) (h : Ev prog w c env S e (.list es)) (hw : Wr env x) (hz : ds.length + es.length ≤ 1000000) : Ex1 prog w c env S (.AugAssign (.Name x np) .Add e pos) (.next ((x, .own (ds ++ es)) :: S)) := by
  intro jk m mu fz s Q F g
  obtain ⟨a, vs, n, b1, b2, b3⟩ := F.X.own x ds hx
  refine wpAny_AugAssign_Name (load_at F.R F.X.kind b1 (h m mu fz s _ F.R F.X.toSat fun v2 fz' h' tk' s1 R' D2 => ?_))
  cases D2 with
  | @list b us n2 _ hm r =>
    have l1 := b3.length
    have l2 := r.length
    refine iadd_lists (R'.get (List.mem_append_left _ b2)) (R'.get (List.mem_append_right _ hm)) (by walk_at "om") fun h2 n3 g2 hs2 => ?_
    have R2 := R'.upd b2 (fun b y hb e => hs2.extBut b y hb e) g2
    have F2 := F.ownTurn hx b1 b2 s1 R2 (DatAll.append (b3.mono s1) r)
    refine store_own (s := { s with heap := h2, toks := tk' }) F2 hw (mem_upd_self b2) (DatAll.append (b3.mono s1) r) (fun y es' a' hn hy q e => ?_) (fun p hp => ?_) fun m' mu' h3 t3 F3 => g m' mu' fz' h3 t3 s1 (F3.less ?_)
    · subst e
      obtain ⟨a2, _, _, q1, _, _⟩ := F2.X.own x (ds ++ es) (by rw [List.lookup_cons_self])
      have hxa : At c env m (upd a' (listOf (vs ++ us).toArray n3) mu) x (.ref a') := by
        cases b1 with
        | loc k1 k2 k3 => exact .loc k1 k2 k3
        | blk _ q2 _ _ => exact absurd F.X.loc (F.R.notL q2)
        | cell k1 k2 k3 k4 => exact .cell k1 k2 (mem_upd k3 fun e => own_not_cell F b2 k2 e.symm) k4
      exact hn (F2.X.one y x es' (ds ++ es) a' hy (by rw [List.lookup_cons_self]) q hxa)
    · exact F.J.own p hp x ds a hx b1
    · intro y sl hy
      rcases look_cons hy with ⟨rfl, rfl⟩ | ⟨hn, hy⟩
      · exact List.lookup_cons_self
      · have e : (y == x) = false := beq_eq_false_iff_ne.mpr hn
        simp only [List.lookup_cons, e]
        exact hy
end
end Mine

end
section
open PySem PySem.W PyProof.Rows PySem.Calls
set_option Elab.async false
set_option linter.unusedVariables false
set_option maxRecDepth 100000
namespace Mine
theorem strsAre_of {nw : Led} : ∀ {vs : List Value} {ss : List Str}, DatAll nw vs (strsD ss) → StrsAre vs ss
  | [], [], _ => .nil
  | _ :: _, [], h => by cases h
  | [], _ :: _, h => by cases h
  | v :: vs, n :: ns, h => by
    cases h with
    | cons a b => cases a; exact .cons _ _ (strsAre_of b)
section
variable {prog : Program} {w : World} {K : Frag} {c : Cx K} {env : Env} {S : St}
theorem Ev.addList {l r : Expr} {pos : Pos} {ds es : List Dat} (hl : Ev prog w c env S l (.list ds)) (hr : Ev prog w c env S r (.list es)) (hz : ds.length + es.length ≤ sizeLine) : Ev prog w c env S (.BinOp l .Add r pos) (.list (ds ++ es)) := by
  intro m mu fz s Q R X k
  refine wpAny_BinOp (hl m mu fz s _ R X fun v fz1 h1 t1 s1 R1 D1 => ?_)
  refine hr m mu fz1 _ _ R1 (X.mono s1) fun v2 fz2 h2 t2 s2 R2 D2 => ?_
  cases D1 with
  | @list a vs n _ hm r1 =>
    cases D2 with
    | @list b us n2 _ hm2 r2 =>
      have l1 := r1.length
      have l2 := r2.length
      refine P.add_list (R2.get (List.mem_append_right _ (s2 _ hm))) (R2.get (List.mem_append_right _ hm2)) ?_ (by simp; walk_at "om")
      have e : vs.toArray ++ us.toArray = (vs ++ us).toArray := by simp
      rw [e]
      exact k _ _ _ t2 (s1.trans (s2.trans sub_cons)) (R2.push (listOf (vs ++ us).toArray 0)) (.list List.mem_cons_self ((DatAll.append (r1.mono s2) r2).mono sub_cons))

theorem Ev.join {o e : Expr} {ap cp : Pos} {x : Str} {ss : List Str} (ho : Ev prog w c env S o (.str x)) (he : EvB prog w c env S e (.list (strsD ss))) (hz : (ss.map (·.length)).sum + ss.length * x.length ≤ 16777216) (hline : autoParam ((ap.endLine == cp.line) = true) Mine.sx0) (hbase : autoParam (attributeBase o "join" env (eval o env) = eval o env) Mine.sx0)
    (hs : autoParam (starEach [e] env = [(false, eval e env)]) Mine.sx0) : Ev prog w c env S (.Call (.Attribute o "join" ap) [e] [] cp) (.str (PySem.Txt.join x ss)) := by
  intro m mu fz s Q R X k
  refine Call_method1 hbase hs hline (ho m mu fz s _ R X fun v fz1 h1 t1 s1 R1 D1 => ?_)
  cases D1
  refine SB.join (he m mu fz1 _ _ R1 (X.mono s1) fun v2 fz2 h2 t2 s2 R2 D2 => ?_)
  cases D2 with
  | @list a vs n _ hm r =>
    obtain ⟨l, hv, ht⟩ := strsAre_values (strsAre_of r)
    refine ⟨a, l, rfl, ?_, ss, ht, joinOk_of hz, fun t' tk => k _ fz2 h2 tk (s1.trans s2) R2 (.str _ _)⟩
    rw [← hv]
    exact isList_at (R2.get hm)

theorem Ex1.assignComp {elt iter : Expr} {x y : Str} {px py pos lp : Pos} {ifs : List Expr} {scope : Scope} {cl : List (Str × Addr)} {Cp : St} {ds : List Dat} (t : Dat → Bool) (f : Dat → Dat) (hit : EvIt prog w c env S iter ds)
    (hclos : closureFor scope env = pure cl) (hcap : Cap env S scope cl Cp) (hkind : scope.kind = .function) (hcell : ∀ y ∈ scope.names, y.2 ≠ .cell) (hnames : ∀ x ∈ scope.names, x.2 = .local → scope.names.lookup x.1 = some .local) (hx : scope.names.lookup x = some .local)
    (ht : ∀ C, ∀ d ∈ ds, Tsts prog w c (compEnvC scope cl C env) ((x, .val d) :: Cp) ifs (t d)) (hf : ∀ C, ∀ d ∈ ds, t d = true → Ev prog w c (compEnvC scope cl C env) ((x, .val d) :: Cp) elt (f d)) (hz : ds.length ≤ 2 ^ 20)
    (hw : Wr env y) (hsw : autoParam (swapsWith (.ListComp elt [⟨.Name x px, iter, ifs, 0⟩] scope lp) (some (.Name y py)) pos.line env = pure true) Mine.sx0) (hs : autoParam (∀ x, foldedSetIterable iter env x = pure x) Mine.sx1) :
    Ex1 prog w c env S (.Assign [.Name y py] (.ListComp elt [⟨.Name x px, iter, ifs, 0⟩] scope lp) pos) (.next ((y, .val (.list ((ds.filter t).map f))) :: S)) := by
  intro jk m mu fz s Q F g
  have e : exec (.Assign [.Name y py] (.ListComp elt [⟨.Name x px, iter, ifs, 0⟩] scope lp) pos) env = (standAt pos >>= fun _ => swapsWith (.ListComp elt [⟨.Name x px, iter, ifs, 0⟩] scope lp) (some (.Name y py)) pos.line env >>= fun b => if b = true then
      (comprehension (.ListComp elt [⟨.Name x px, iter, ifs, 0⟩] scope lp) scope env (firstIterPos [⟨.Name x px, iter, ifs, 0⟩] lp) (newList []) (firstAsync [⟨.Name x px, iter, ifs, 0⟩]) (firstIter [⟨.Name x px, iter, ifs, 0⟩] env) (some (PySem.assign (.Name y py) env)) >>= fun _ => pure ()) >>= fun _ => pure .next
      else (eval (.ListComp elt [⟨.Name x px, iter, ifs, 0⟩] scope lp) env >>= fun v => swappedStores [.Name y py] (.ListComp elt [⟨.Name x px, iter, ifs, 0⟩] scope lp) env >>= fun sw => assignStores env v sw ((assignEach [.Name y py] env).map (·.2)))) := rfl
  rw [e, hsw, pure_bind, if_pos rfl]
  refine wpAny_bind (wpAny_standAt (wpAny_bind (wpAny_bind (wpAny_comprehension_free (use := some (PySem.assign (.Name y py) env)) rfl hs hclos hkind hnames ?_))))
  refine comp_core (RR := compPost (model prog w) c.A NoE (some (PySem.assign (.Name y py) env)) _) t f hit hcap hkind hcell hx ht hf hz F.R F.X.toSat fun D C oC vs n fz' h' tk' s1 R1 hN D1 => ?_
  have e2 : listOf vs n = listOf vs.toList.toArray n := by simp
  rw [e2] at R1
  have R2 : Rel c m ((C, oC) :: mu) ((D, listOf vs.toList.toArray n) :: fz') h' := (R1.perm (List.Perm.swap _ _ _)).freeze
  have F2 := F.pushJk (s1.trans sub_cons) R2
  refine wpAny_assign_Name (store_val (s := { s with heap := h', toks := tk' }) F2 hw (.list List.mem_cons_self (D1.mono sub_cons)) fun m3 mu3 h3 t3 F3 => ?_)
  have hC := F3.J.mem _ List.mem_cons_self
  obtain ⟨mc, es, ep, n1, n2, n3⟩ := hN
  refine ⟨mc, ⟨oC, es, ep, F3.R.get (p := (C, oC)) (List.mem_append_left _ hC), n1, n2, n3⟩, fun h4 hs4 => ?_⟩
  have R4 := F3.R.del hC (h' := h4) fun b y hb e => hs4.extBut b y hb e
  exact wpAny_pure (wpAny_pure (g m3 _ _ h4 t3 (s1.trans sub_cons) (F3.delJk R4)))
theorem Ex1.assignCompA {α : Type} (g : α → Dat) (inv : Dat → α) (hinv : ∀ a, inv (g a) = a) {elt iter : Expr} {x y : Str} {px py pos lp : Pos} {ifs : List Expr} {scope : Scope} {cl : List (Str × Addr)} {Cp : St} {xs : List α} (t : α → Bool) (f : α → Dat) (hit : EvIt prog w c env S iter (xs.map g))
    (hclos : closureFor scope env = pure cl) (hcap : Cap env S scope cl Cp) (hkind : scope.kind = .function) (hcell : ∀ y ∈ scope.names, y.2 ≠ .cell) (hnames : ∀ x ∈ scope.names, x.2 = .local → scope.names.lookup x.1 = some .local) (hx : scope.names.lookup x = some .local) (hz : xs.length ≤ 2 ^ 20) (hw : Wr env y)
    (ht : ∀ C, ∀ a ∈ xs, Tsts prog w c (compEnvC scope cl C env) ((x, .val (g a)) :: Cp) ifs (t a)) (hf : ∀ C, ∀ a ∈ xs, t a = true → Ev prog w c (compEnvC scope cl C env) ((x, .val (g a)) :: Cp) elt (f a))
    (hsw : autoParam (swapsWith (.ListComp elt [⟨.Name x px, iter, ifs, 0⟩] scope lp) (some (.Name y py)) pos.line env = pure true) Mine.sx0) (hs : autoParam (∀ x, foldedSetIterable iter env x = pure x) Mine.sx1) :
    Ex1 prog w c env S (.Assign [.Name y py] (.ListComp elt [⟨.Name x px, iter, ifs, 0⟩] scope lp) pos) (.next ((y, .val (.list ((xs.filter t).map f))) :: S)) := by
  rw [← pick_map g inv hinv t f xs]
  refine Ex1.assignComp (fun d => t (inv d)) (fun d => f (inv d)) hit hclos hcap hkind hcell hnames hx (fun C d hd => ?_) (fun C d hd => ?_) (by simpa using hz) hw hsw hs
  · obtain ⟨a, ha, rfl⟩ := List.mem_map.mp hd
    rw [hinv]; exact ht C a ha
  · obtain ⟨a, ha, rfl⟩ := List.mem_map.mp hd
    rw [hinv]; exact hf C a ha
end
end Mine

end
section
open PySem PySem.W PyProof.Rows PySem.Calls
set_option Elab.async false
set_option maxRecDepth 100000
set_option linter.unusedVariables false
namespace Mine
open Builtin Builtin.Re
noncomputable def CODE : Array Nat := #[14, 17, 4, 1, 1, 21, 9, 0, 604043296, 1, 0, 0, 0, 0, 0, 8, 4, 0, 13, 14, 21, 9, 0, 604043296, 1, 0, 0, 0, 0, 0, 8, 4, 0, 1]
structure Pat (h : Heap) : Prop where
  o766 : h.get? 752 = some { cls := .type "builtin_function_or_method", data := .fields #[.builtin "re.Pattern.search", .ref 49] }
  o63 : ∃ o fs, h.get? 49 = some o ∧ o.cls = .type "re.Pattern" ∧ o.data = .fields fs ∧ fs.getD 5 .none = .ref 48 ∧ reRawNat (fs.getD 2 .none) = 0 ∧ reRawNat (fs.getD 6 .none) = 0
  o62 : ∃ o its n, h.get? 48 = some o ∧ o.data = .seq its n ∧ (its.map reRawOf).map (·.toNat) = CODE
noncomputable def SAFE : List Nat := [65, 66, 67, 68, 69, 70, 71, 72, 73, 74, 75, 76, 77, 78, 79, 80]
noncomputable def UNS : List Nat := [32, 39, 34]
noncomputable def seen1 (s : Sre.Seen) : Sre.Seen := (((s.add 21).add 9).add 8).add 59
theorem set_safe : ∀ c ∈ SAFE, ∀ seen, Sre.inSet CODE c CODE.size 5 true seen = .ok (false, seen1 seen) := by
  intro c hc seen
  simp only [SAFE, List.mem_cons, List.not_mem_nil, or_false] at hc
  rcases hc with rfl | rfl | rfl | rfl | rfl | rfl | rfl | rfl | rfl | rfl | rfl | rfl | rfl | rfl | rfl | rfl <;> rfl
theorem set_uns : ∀ c ∈ UNS, ∀ seen, Sre.inSet CODE c CODE.size 5 true seen = .ok (true, (seen1 seen).add 0) := by
  intro c hc seen
  simp only [UNS, List.mem_cons, List.not_mem_nil, or_false] at hc
  rcases hc with rfl | rfl | rfl <;> rfl
theorem set_uns20 : ∀ c ∈ UNS, ∀ seen, Sre.inSet CODE c CODE.size 20 true seen = .ok (true, (seen1 seen).add 0) := by
  intro c hc seen
  simp only [UNS, List.mem_cons, List.not_mem_nil, or_false] at hc
  rcases hc with rfl | rfl | rfl <;> rfl
noncomputable def m0 (text : Array Nat) (n : Nat) (seen : Sre.Seen) : Sre.M := { code := CODE, text, lim := n, start := 0, lastStart := n, pc := 18, pos := 0, handed := 0, marks := #[], seen }
theorem search_m0 (text : Array Nat) (k : Nat) : Sre.forSearch CODE text 0 0 (k + 1) false = (m0 text (k + 1) (({} : Sre.Seen).add 14)).attemptFrom 0 true := rfl
theorem adm_none {text : Array Nat} {n : Nat} {sd : Sre.Seen} : ∀ (fuel s : Nat) (seen : Sre.Seen), (∀ i, s ≤ i → i < n → text.getD i 0 ∈ SAFE) → ∃ seen', Sre.M.admitted (m0 text n sd) fuel s seen = .ok (none, seen')
  | 0, s, seen, _ => ⟨seen, rfl⟩
  | fuel + 1, s, seen, h => by
    rw [Sre.M.admitted]
    by_cases q : s ≥ n
    · exact ⟨seen, if_pos q⟩
    · rw [if_neg (show ¬ s ≥ (m0 text n sd).lim from q)]
      have e : Sre.inSet (m0 text n sd).code ((m0 text n sd).text.getD s 0) (m0 text n sd).code.size 5 true seen = .ok (false, seen1 seen) := set_safe _ (h s (Nat.le_refl _) (by walk_at "om")) seen
      rw [e]
      exact adm_none fuel (s + 1) _ fun i h1 h2 => h i (by walk_at "om") h2
theorem adm_some {text : Array Nat} {n j : Nat} {sd : Sre.Seen} (hj : j < n) (hu : text.getD j 0 ∈ UNS) : ∀ (fuel s : Nat) (seen : Sre.Seen), j < s + fuel → s ≤ j → (∀ i, s ≤ i → i < j → text.getD i 0 ∈ SAFE) → ∃ seen', Sre.M.admitted (m0 text n sd) fuel s seen = .ok (some j, seen')
  | 0, s, seen, h1, h2, _ => by walk_at "om"
  | fuel + 1, s, seen, h1, h2, h => by
    rw [Sre.M.admitted]
    rw [if_neg (show ¬ s ≥ (m0 text n sd).lim from by show ¬ s ≥ n; walk_at "om")]
    by_cases e : s = j
    · subst e
      have e1 : Sre.inSet (m0 text n sd).code ((m0 text n sd).text.getD s 0) (m0 text n sd).code.size 5 true seen = .ok (true, (seen1 seen).add 0) := set_uns _ hu seen
      rw [e1]
      exact ⟨_, rfl⟩
    · have e1 : Sre.inSet (m0 text n sd).code ((m0 text n sd).text.getD s 0) (m0 text n sd).code.size 5 true seen = .ok (false, seen1 seen) := set_safe _ (h s (Nat.le_refl _) (by walk_at "om")) seen
      rw [e1]
      exact adm_some hj hu fuel (s + 1) _ (by walk_at "om") (by walk_at "om") fun i h1 h2 => h i (by walk_at "om") h2
theorem drive_done {m : Sre.M} {n : Nat} (h : (m.runFor 4).outcome.isSome = true) : reDrive (n + 1) m = pure (m.runFor 4) := by
  rw [reDrive]
  show (if (m.runFor 4).outcome.isSome = true then _ else _) = _
  rw [if_pos h]; rfl
section
variable {prog : Program} {w : World} {A : Around} {E : Value → Shared → Prop} {s : Shared} {x : PySem.Str} {t : Tok}
theorem to_end {m : Sre.M} {Q : Option Sre.M → Shared → Prop} {o : Sre.Outcome} (h : (m.runFor 4).outcome = some o) (hq : (match o with | .matched => Q (some (m.runFor 4)) s | .failed => Q none s | .stuck _ => False)) :
    wpAny (model prog w) A (reRunToEnd m) Q E s := by
  unfold reRunToEnd
  have e : reDrive (2 ^ 64) m = pure (m.runFor 4) := drive_done (n := 2 ^ 64 - 1) (by rw [h]; rfl)
  refine wpAny_bind (wpAny_of_eq e ?_)
  refine wpAny_bind (wpAny_forIn_list _ (fun _ _ s' => s' = s) (fun _ s' => s' = s ∧ wpAny (model prog w) A (match (m.runFor 4).outcome with | some .matched => pure (some (m.runFor 4)) | some .failed => pure none | some (.stuck why) => unsupported s!"_sre:{why}" | none => unsupported "internal:sre:no-outcome") Q E s') ?_ ?_ _ _ rfl |> fun z => wpAny_mono z (fun _ s' q => q.2) fun _ _ y => y)
  · rintro i rest b s' rfl
    split
    · exact wpAny_bind (wpAny_rule (wpAny_pure rfl))
    · exact wpAny_pure rfl
  · rintro b s' rfl
    refine ⟨rfl, ?_⟩
    rw [h]
    cases o with
    | matched => exact wpAny_pure hq
    | failed => exact wpAny_pure hq
    | stuck w => exact hq.elim
theorem re_target {Q : ReTarget → Shared → Prop} (hp : Pat s.heap) (hz : x.cps.size < 2 ^ 62) (h : Q { pattern := .ref 49, string := .str x t, code := CODE, text := x.cps, kind := 0, groups := 0, pos := 0, lim := x.cps.size } s) :
    wpAny (model prog w) A (reTarget "re.Pattern.search" "search" ⟨[.ref 49, .str x t], []⟩) Q E s := by
  obtain ⟨o, fs, g1, _, g2, g3, g4, g5⟩ := hp.o63
  obtain ⟨o2, its, n, q1, q2, q3⟩ := hp.o62
  unfold reTarget
  refine wpAny_bind (wpAny_of_eq (a := [some (.str x t), none, none]) (by rfl) ?_)
  refine wpAny_bind (wpAny_pure ?_)
  refine wpAny_bind (wpAny_pure ?_)
  refine wpAny_bind (wpAny_fieldsOf g1 g2 ?_)
  refine wpAny_bind (wpAny_of_eq (a := (x.cps, 0)) (by rfl) ?_)
  dsimp only
  rw [g5]
  simp only [beq_self_eq_true, show ((0 : Nat) == 1) = false from rfl, Bool.and_false, Bool.false_and, Bool.false_eq_true, if_false]
  refine wpAny_bind (wpAny_of_eq (a := ()) (by rfl) ?_)
  rw [g3, g4]
  refine wpAny_bind ?_
  unfold reRawItems
  refine wpAny_bind (wpAny_seqItems q1 q2 (wpAny_pure (wpAny_pure ?_)))
  have e1 : min (Int.toNat (2 ^ 63 - 1)) x.cps.size = x.cps.size := Nat.min_eq_right (by walk_at "om")
  have e2 : min (Int.toNat 0) x.cps.size = 0 := by simp
  rw [Option.getD_some, q3, e1, e2]
  exact h
theorem search_none {P : Fin → Shared → Prop} (hp : Pat s.heap) (hz : x.cps.size < 2 ^ 62) (hn : 0 < x.cps.size) (hs : ∀ i, i < x.cps.size → x.cps.getD i 0 ∈ SAFE) (h : P (.done (.ret .none)) s) :
    wpAny (model prog w) A (Builtin.«re.Pattern.search» ⟨[.ref 49, .str x t], []⟩) P E s := by
  unfold Builtin.«re.Pattern.search»
  refine wpAny_bind (re_target hp hz ?_)
  obtain ⟨k, hk⟩ : ∃ k, x.cps.size = k + 1 := Nat.exists_eq_add_one.mpr hn
  dsimp only
  rw [hk, search_m0]
  obtain ⟨seen', e⟩ := adm_none (text := x.cps) (n := k + 1) (sd := ({} : Sre.Seen).add 14) (k + 1 + 1 - 0) 0 (({} : Sre.Seen).add 14) fun i _ hi => hs i (by walk_at "om")
  have e2 : (m0 x.cps (k + 1) (({} : Sre.Seen).add 14)).attemptFrom 0 true = ({ m0 x.cps (k + 1) (({} : Sre.Seen).add 14) with seen := seen' }).say false := by
    unfold Sre.M.attemptFrom
    rw [if_neg (show ¬ (!(m0 x.cps (k + 1) (({} : Sre.Seen).add 14)).hasFirstSet) = true from by have q : (m0 x.cps (k + 1) (({} : Sre.Seen).add 14)).hasFirstSet = true := rfl; rw [q]; decide)]
    have e3 : Sre.M.admitted (m0 x.cps (k + 1) (({} : Sre.Seen).add 14)) ((m0 x.cps (k + 1) (({} : Sre.Seen).add 14)).lim + 1 - 0) 0 (m0 x.cps (k + 1) (({} : Sre.Seen).add 14)).seen = .ok (none, seen') := e
    rw [e3]
  rw [e2]
  unfold reAnswer
  refine wpAny_bind (to_end (o := .failed) rfl ?_)
  exact wpAny_pure h

noncomputable def m1 (text : Array Nat) (n j : Nat) (seen : Sre.Seen) : Sre.M :=
  { code := CODE, text, lim := n, start := j, lastStart := n, pc := 18, pos := j, handed := j, marks := #[], seen, frames := [{ wait := .nextStart, pc := 18, pos := j, outermost := true }], weight := 1 }
theorem m1_run {text : Array Nat} {n j : Nat} {seen : Sre.Seen} (hj : j < n) (hu : text.getD j 0 ∈ UNS) : ∃ m', (m1 text n j seen).runFor 4 = m' ∧ m'.outcome = some .matched := by
  have e1 : (m1 text n j seen).step = { m1 text n j seen with seen := (seen1 (seen.add 13)).add 0, pc := 33, pos := j + 1 } := by
    unfold Sre.M.step
    show (m1 text n j seen).exec = _
    have q : Sre.accepts CODE 18 (text.getD j 0) (seen.add 13) = .ok (true, (seen1 (seen.add 13)).add 0) := set_uns20 _ hu (seen.add 13)
    have e : (m1 text n j seen).exec = (if j ≥ n then _ else match Sre.accepts CODE 18 (text.getD j 0) (seen.add 13) with | .error why => _ | .ok (false, seen2) => _ | .ok (true, seen2) => { m1 text n j seen with seen := seen2, pc := 33, pos := j + 1 }) := rfl
    rw [e, if_neg (by walk_at "om"), q]
  refine ⟨_, rfl, ?_⟩
  show (Sre.M.runFor 3 (m1 text n j seen).step).outcome = _
  rw [e1]
  rfl
theorem search_some {P : Fin → Shared → Prop} {j : Nat} (hp : Pat s.heap) (hz : x.cps.size < 2 ^ 62) (hj : j < x.cps.size) (hu : x.cps.getD j 0 ∈ UNS) (hs : ∀ i, i < j → x.cps.getD i 0 ∈ SAFE) (h : ∀ a h' tk, (∀ b o, s.heap.get? b = some o → h'.get? b = some o) → P (.done (.ret (.ref a))) { s with heap := h', toks := tk }) :
    wpAny (model prog w) A (Builtin.«re.Pattern.search» ⟨[.ref 49, .str x t], []⟩) P E s := by
  unfold Builtin.«re.Pattern.search»
  refine wpAny_bind (re_target hp hz ?_)
  obtain ⟨k, hk⟩ : ∃ k, x.cps.size = k + 1 := Nat.exists_eq_add_one.mpr (Nat.zero_lt_of_lt hj)
  dsimp only
  rw [hk, search_m0]
  obtain ⟨seen', e⟩ := adm_some (text := x.cps) (n := k + 1) (j := j) (sd := ({} : Sre.Seen).add 14) (by walk_at "om") hu (k + 1 + 1 - 0) 0 (({} : Sre.Seen).add 14) (by walk_at "om") (Nat.zero_le _) fun i _ hi => hs i hi
  have e2 : (m0 x.cps (k + 1) (({} : Sre.Seen).add 14)).attemptFrom 0 true = m1 x.cps (k + 1) j seen' := by
    unfold Sre.M.attemptFrom
    rw [if_neg (show ¬ (!(m0 x.cps (k + 1) (({} : Sre.Seen).add 14)).hasFirstSet) = true from by have q : (m0 x.cps (k + 1) (({} : Sre.Seen).add 14)).hasFirstSet = true := rfl; rw [q]; decide)]
    have e3 : Sre.M.admitted (m0 x.cps (k + 1) (({} : Sre.Seen).add 14)) ((m0 x.cps (k + 1) (({} : Sre.Seen).add 14)).lim + 1 - 0) 0 (m0 x.cps (k + 1) (({} : Sre.Seen).add 14)).seen = .ok (some j, seen') := e
    rw [e3]
    rfl
  rw [e2]
  unfold reAnswer
  obtain ⟨m', q1, q2⟩ := m1_run (text := x.cps) (n := k + 1) (j := j) (seen := seen') (by walk_at "om") hu
  refine wpAny_bind (to_end (o := .matched) (by rw [q1, q2]) ?_)
  show wpAny _ _ (do ret (← reNewMatch (.ref 49) (.str x t) 0 0 (k + 1) ((m1 x.cps (k + 1) j seen').runFor 4))) _ _ _
  generalize (m1 x.cps (k + 1) j seen').runFor 4 = mm
  refine wpAny_bind ?_
  unfold reNewMatch
  show wpAny _ _ (newTuple [rawInt mm.start, rawInt mm.handed] >>= fun tp => newFields "re.Match" [.str x t, .ref 49, rawInt 0, rawInt ((k + 1 : Nat) : Int), rawInt mm.lastindex, tp]) _ _ _
  refine wpAny_bind (wpAny_newObj_type ?_)
  refine wpAny_newObj_type (wpAny_pure (h _ _ s.toks fun b o e => Heap.get?_push_of_some _ (Heap.get?_push_of_some _ e)))
end
end Mine

end
section
open PySem PySem.W PyProof.Rows PySem.Calls
set_option Elab.async false
set_option maxRecDepth 100000
set_option maxHeartbeats 0
set_option linter.unusedVariables false
namespace Mine
noncomputable abbrev PW := PySem.Challenge.pw_oc0261_02
theorem k_tops {w : World} : nsIn (Mine.K1 w.params) mainGlobals "len" = some none ∧ nsIn (Mine.K1 w.params) mainGlobals "range" = some none ∧ nsIn (Mine.K1 w.params) mainGlobals "list" = some none ∧ nsIn (Mine.K1 w.params) mainGlobals "sum" = some none ∧ nsIn (Mine.K1 w.params) mainGlobals "sorted" = some none := by
  refine (?_ : PySem.Challenge.rw_oc0261_02 = PySem.Challenge.rw_oc0261_02 → (Mine.K1 w.params) = (Mine.K1 w.params) → _) rfl rfl
  k_fill
  intro _ _
  refine ⟨by k_is, by k_is, by k_is, by k_is, by k_is⟩

theorem filt {α : Type} (l : List α) : (l.filter fun _ => true) = l := by simp
theorem getD_some {α : Type} {l : List α} {i : Nat} {d : α} (h : i < l.length) : l[i]? = some (l.getD i d) := by simp [h]
noncomputable abbrev sC (l : List Nat) : Str := ⟨l.toArray⟩
theorem ok_lD (n : Nat) (l : List Int) : kqdOk (n + 1) (lD l) = true := by simp [kqdOk]
theorem intsD_inj {l l' : List Int} : intsD l = intsD l' ↔ l = l' := by
  constructor
  · intro h
    have := congrArg (List.map toI) h
    simpa [intsD, toI, Function.comp_def] using this
  · intro h; rw [h]
theorem lD_inj {l l' : List Int} : lD l = lD l' ↔ l = l' := by
  constructor
  · intro h; injection h with h; exact intsD_inj.mp h
  · intro h; rw [h]
theorem sC_append (a b : List Nat) : sC a ++ sC b = sC (a ++ b) := by
  show (⟨a.toArray ++ b.toArray⟩ : Str) = ⟨(a ++ b).toArray⟩
  simp
theorem sC_len (a : List Nat) : (sC a).length = a.length := by show a.toArray.size = _; simp
theorem str_nil : Str.ofString "" = sC [] := by decide +kernel
noncomputable def joinC : List (List Nat) → List Nat
  | [] => []
  | [x] => x
  | x :: y :: r => x ++ 32 :: joinC (y :: r)
theorem str_sp : Str.ofString " " = sC [32] := by decide +kernel
theorem join_sC : ∀ ws : List (List Nat), Txt.join (Str.ofString " ") (ws.map sC) = sC (joinC ws) := by
  intro ws
  show Builtin.Str.glued _ _ = _
  rw [StrLaws.glued_eq_join]
  induction ws with
  | nil => rfl
  | cons x r ih =>
    cases r with
    | nil => rfl
    | cons y r =>
      show sC x ++ Str.ofString " " ++ Str.join (Str.ofString " ") ((y :: r).map sC) = _
      rw [ih, str_sp, sC_append, sC_append, List.append_assoc]
      rfl
theorem str_qq : Str.ofString "''" = sC [39, 39] := by decide +kernel
theorem sum_le {ls : List Nat} {n k : Nat} (h : ∀ x ∈ ls, x ≤ k) (hn : ls.length ≤ n) : ls.sum ≤ n * k := by
  induction ls generalizing n with
  | nil => simp
  | cons x r ih =>
    cases n with
    | zero => simp at hn
    | succ n =>
      rw [List.sum_cons, Nat.succ_mul]
      have := h x List.mem_cons_self
      have := ih (fun y hy => h y (List.mem_cons_of_mem _ hy)) (by simpa using hn)
      walk_at "om"

end Mine

end
section
open PySem PySem.W PyProof.Rows PySem.Calls
set_option Elab.async false
set_option maxRecDepth 100000
set_option maxHeartbeats 0
set_option linter.unusedVariables false
namespace Mine
noncomputable def repl (c : Nat) (z : List Nat) (l : List Nat) : List Nat := l.flatMap fun k => if k = c then z else [k]
theorem repl_free {c : Nat} {z : List Nat} : ∀ {l : List Nat}, c ∉ l → repl c z l = l
  | [], _ => rfl
  | k :: r, h => by
    have h1 : ¬ k = c := fun e => h (e ▸ List.mem_cons_self ..)
    have h2 : c ∉ r := fun m => h (List.mem_cons_of_mem _ m)
    have ih := repl_free (z := z) h2
    unfold repl at ih ⊢
    rw [List.flatMap_cons, if_neg h1, ih]; rfl
theorem repl_join {c : Nat} {z : Str} : ∀ parts : List Str, (∀ p ∈ parts, c ∉ p.cps.toList) → repl c z.cps.toList (Str.join ⟨#[c]⟩ parts).cps.toList = (Str.join z parts).cps.toList
  | [], _ => rfl
  | [p], h => repl_free (h p (List.mem_singleton.mpr rfl))
  | p :: q :: r, h => by
    have ih := repl_join (z := z) (q :: r) fun a ha => h a (List.mem_cons_of_mem _ ha)
    show repl c z.cps.toList (p ++ ⟨#[c]⟩ ++ Str.join ⟨#[c]⟩ (q :: r)).cps.toList = (p ++ z ++ Str.join z (q :: r)).cps.toList
    simp only [Str.cps_append, Array.toList_append]
    unfold repl at ih ⊢
    rw [List.flatMap_append, List.flatMap_append, ih]
    have := repl_free (z := z.cps.toList) (h p (List.mem_cons_self ..))
    unfold repl at this
    rw [this]
    simp
theorem replace_is (l z : List Nat) (c : Nat) : Txt.replace (sC l) ⟨#[c]⟩ (sC z) = sC (repl c z l) := by
  have e : (Txt.replace (sC l) ⟨#[c]⟩ (sC z)).cps.toList = repl c z l := by
    rw [StrLaws.replace_one, ← repl_join (c := c) (z := sC z) _ (StrLaws.split_free (sC l) c), StrLaws.join_split]
  refine Str.ext' ?_
  rw [← e]
noncomputable def DQ : List Nat := [39, 34, 39, 34, 39]
noncomputable def quoteC (l : List Nat) : List Nat := if l = [] then [39, 39] else if (l.all fun c => decide (c ∈ SAFE)) = true then l else 39 :: repl 39 DQ l ++ [39]

theorem kind_search : builtinKind "re.Pattern.search" = some .method := by decide +kernel
theorem has_sig : (Manifest.signature? "re.Pattern.search").isSome = true := by decide +kernel
noncomputable def sigS : Manifest.Signature := (Manifest.signature? "re.Pattern.search").get has_sig
theorem sig_search : Manifest.signature? "re.Pattern.search" = some sigS := (Option.some_get has_sig).symm
theorem args_search {x : PySem.Str} {t : Tok} : Bind.checkArgs "re.Pattern.search" { sigS with full := s!"{Bind.lastOf "re.Pattern"}.{Bind.lastOf "re.Pattern.search"}" } ⟨[.ref 49, .str x t], []⟩ = pure () := by kernel_rfl
theorem sub_search : isSubtype (.type "re.Pattern") (.type "module") = pure false := by rw [isSubtype_type]; kernel_rfl
theorem check_search {prog : Program} {w : World} {A : Around} {E : Value → Shared → Prop} {s : Shared} {x : PySem.Str} {t : Tok} {Q : Unit → Shared → Prop} (hp : Pat s.heap) (h : Q () s) : wpAny (model prog w) A (checkBoundCall "re.Pattern.search" ⟨[.ref 49, .str x t], []⟩) Q E s := by
  obtain ⟨o, fs, g1, gc, g2, g3, g4, g5⟩ := hp.o63
  have T : s.TypeIs (.ref 49) "re.Pattern" := ⟨_, g1, gc⟩
  unfold checkBoundCall
  rw [sig_search, kind_search]
  show wpAny _ _ (isInstance (.ref 49) (.type "module") >>= fun ofModule => _) _ _ _
  refine wpAny_bind (wpAny_isInstance T sub_search ?_)
  show wpAny _ _ (if (Manifest.varargsMethods.contains "re.Pattern.search" || false) = true then _ else _) _ _ _
  refine KFB.if_not (by decide +kernel) ?_
  refine wpAny_bind (m := isType (.ref 49)) ?_
  unfold isType
  refine wpAny_bind (m := loadHead 49) (wpAny_loadPart g1 (wpAny_pure ?_))
  rw [g2]
  show wpAny _ _ (typeOf (.ref 49) >>= fun cls => _) _ _ _
  refine wpAny_bind (wpAny_typeOf T ?_)
  exact wpAny_of_eq args_search h
theorem entry_search : entryFor table "re.Pattern.search" = some Builtin.«re.Pattern.search» := entryFor_of_tree (by kernel_rfl)
theorem quiet_search {as : Args} : (Code.builtin "re.Pattern.search" as).quiet = true := Code.quiet_builtin _ (by decide +kernel)
section
variable {prog : Program} {w : World} {A : Around} {E : Value → Shared → Prop} {s : Shared} {x : PySem.Str} {t : Tok}
theorem call_search {Q : Value → Shared → Prop} (hp : Pat s.heap)
    (tree : ∀ {P : Fin → Shared → Prop} {A' : Around} {E' : Value → Shared → Prop}, (∀ v h' tk, (∀ b o, s.heap.get? b = some o → h'.get? b = some o) → Q v { s with heap := h', toks := tk } → P (.done (.ret v)) { s with heap := h', toks := tk }) → wpAny (model prog w) A' (Builtin.«re.Pattern.search» ⟨[.ref 49, .str x t], []⟩) P E' s) :
    wpAny (model prog w) A (PySem.call (.ref 752) [.str x t]) Q E s := by
  refine wpAny_call (codeAny_of_tree ?_)
  show wpAny _ A.in1 (callAny (.ref 752) ⟨[.str x t], []⟩) _ _ s
  simp only [callAny]
  refine wpAny_bind (wpAny_load hp.o766 ?_)
  simp only [show (Value.type "builtin_function_or_method" == Value.type "method" || Value.type "builtin_function_or_method" == Value.type "builtin_function_or_method" || Value.type "builtin_function_or_method" == Value.type "method-wrapper") = true by decide, if_true]
  refine KFB.if_so (by decide) ?_
  refine wpAny_bind (check_search hp ?_)
  refine wpAny_bind (wpAny_pure (wpAny_pure ?_))
  exact ⟨quiet_search, codeAny_builtin entry_search (tree fun v h' tk _ q => q)⟩
end
end Mine

end
section
open PySem PySem.W PyProof.Rows PySem.Calls
set_option Elab.async false
set_option linter.unusedVariables false
namespace Mine
noncomputable def PSt (o : Obj) : Prop := ∃ ps : Array Value, o = { cls := .none, data := .fields ps } ∧ TriplesOk ps.toList

noncomputable def SpecP (prog : Program) (w : World) (K : Frag) (P f : Addr) (vs : List Value) (d u : Nat) (fz : Led) (Post : Value → Led → Prop) : Prop :=
  ∀ (p : Program) (loose : List Str) (mean : ExcName → Option Value) (mg mb : Str → Option Value) (dp un : Nat) (gd : Option (List Code)) (cn : Str) (cs : Scope) (a : Addr) (ccd : Value) (cl : List (Str × Addr)) (outer : List Env) (A₀ : Around) (base h₀ : Heap) (L : Addr) (m : Str → Option Value) (s : Shared) (R : Result → Shared → Prop) (oP : Obj),
    Gd K p loose mean mg mb A₀ base outer h₀ → Fr h₀ L s.heap m → News h₀ L s.heap ((P, oP) :: fz) → PSt oP → AllBare s.gens → (∀ q ∈ fz, P ≠ q.1) → cs.kind = .function → dp + d < recursionLimit → un + u < cLine →
    (∀ v g' h' tk' gn' oP' fz', Gd K p loose mean mg mb A₀ base outer g' → KtsTurn (fsOf outer) h₀ g' → Fr g' L h' m → News g' L h' ((P, oP') :: fz') → Out L outer ((P, oP) :: fz) s.heap h' ((P, oP') :: fz') → PSt oP' → AllBare gn' → (∀ q ∈ fz', P ≠ q.1) → Post v fz' → R (.ok (.ret v)) { s with heap := h', toks := tk', gens := gn' }) →
    codeAny (model prog w) (ktrTop dp un gd cn cs L a ccd cl outer) (.call (.ref f) ⟨vs, []⟩) R s
noncomputable def DFunP (prog : Program) (w : World) (K : Frag) (P f : Addr) (d u : Nat) (ds : List Dat) (r : Dat) : Prop :=
  ∀ vs fz, DatAll fz vs ds → SpecP prog w K P f vs d u fz (fun v fz' => Sub fz fz' ∧ DatIn fz' v r)

noncomputable def EvP (prog : Program) (w : World) {K : Frag} (c : Cx K) (P : Addr) (env : Env) (S : St) (e : Expr) (d : Dat) : Prop :=
  ∀ jk m mu fz (s : Shared) (Q : Value → Shared → Prop) oP, PSt oP → AllBare s.gens → Full c env S ((P, oP) :: jk) m mu fz s.heap →
    (∀ v mu' fz' h' tk' gn' oP', PSt oP' → AllBare gn' → Sub fz fz' → Full c env S ((P, oP') :: jk) m mu' fz' h' → DatIn fz' v d → Q v { s with heap := h', toks := tk', gens := gn' }) →
    wpAny (model prog w) c.A (eval e env) Q NoE s
noncomputable def EvLP (prog : Program) (w : World) {K : Frag} (c : Cx K) (P : Addr) (env : Env) (S : St) (es : List Expr) (ds : List Dat) : Prop :=
  ∀ jk m mu fz (s : Shared) (pos : Pos) (Q : List Value → Shared → Prop) oP, PSt oP → AllBare s.gens → Full c env S ((P, oP) :: jk) m mu fz s.heap →
    (∀ vs mu' fz' h' tk' gn' oP', PSt oP' → AllBare gn' → Sub fz fz' → Full c env S ((P, oP') :: jk) m mu' fz' h' → DatAll fz' vs ds → Q vs { s with heap := h', toks := tk', gens := gn' }) →
    wpAny (model prog w) c.A (spliced (backTo pos (starEach es env))) Q NoE s
noncomputable def PEx (prog : Program) (w : World) {K : Frag} (c : Cx K) (P : Addr) (env : Env) (S : St) (st : List Stmt) (d : Dat) : Prop :=
  ∀ jk m mu fz (s : Shared) (Q : Flow → Shared → Prop) oP, PSt oP → AllBare s.gens → Full c env S ((P, oP) :: jk) m mu fz s.heap →
    (∀ v m' mu' fz' h' tk' gn' oP', PSt oP' → AllBare gn' → Sub fz fz' → Rel c m' mu' fz' h' → (P, oP') ∈ mu' → DatIn fz' v d → Q (.ret v) { s with heap := h', toks := tk', gens := gn' }) →
    wpAny (model prog w) c.A (execs st env) Q NoE s

section
variable {prog : Program} {w : World} {K : Frag} {c : Cx K} {P : Addr} {env : Env} {S : St}
theorem EvP.of {e : Expr} {d : Dat} (h : Ev prog w c env S e d) : EvP prog w c P env S e d := fun jk m mu fz s Q oP hP hA F k =>
  h m mu fz s Q F.R F.X.toSat fun v fz' h' tk' s1 R1 D1 => k v mu fz' h' tk' s.gens oP hP hA s1 (F.to s1 R1) D1
theorem EvLP.nil : EvLP prog w c P env S [] [] := fun jk m mu fz s _ _ oP hP hA F k => spliced_nil (k [] mu fz s.heap s.toks s.gens oP hP hA (fun _ h => h) F .nil)
theorem EvLP.cons {e : Expr} {es : List Expr} {d : Dat} {ds : List Dat} (he : EvP prog w c P env S e d) (hs : EvLP prog w c P env S es ds) (hn : autoParam (∀ rest, starEach (e :: rest) env = (false, eval e env) :: starEach rest env) Mine.sx1) : EvLP prog w c P env S (e :: es) (d :: ds) := by
  intro jk m mu fz s pos Q oP hP hA F k
  rw [hn]
  show wpAny _ _ (spliced ((false, eval e env) :: backTo pos (starEach es env))) _ _ _
  refine spliced_cons (he jk m mu fz s _ oP hP hA F fun v mu1 fz1 h1 t1 gn1 o1 hP1 hA1 s1 F1 D1 => ?_)
  refine hs jk m mu1 fz1 _ pos _ o1 hP1 hA1 F1 fun vs mu2 fz2 h2 t2 gn2 o2 hP2 hA2 s2 F2 D2 => ?_
  exact k (v :: vs) mu2 fz2 h2 t2 gn2 o2 hP2 hA2 (s1.trans s2) F2 (.cons (D1.mono s2) D2)
theorem call_p {f : Addr} {vs : List Value} {ds : List Dat} {r : Dat} {d u : Nat} {jk : Led} {m : Str → Option Value} {mu fz : Led} {s : Shared} {Q : Value → Shared → Prop} {E : Value → Shared → Prop} {oP : Obj} (D : DFunP prog w K P f d u ds r)
    (hd : c.dp + d < recursionLimit) (hu : c.un + u < cLine) (hP : PSt oP) (hA : AllBare s.gens) (F0 : Full c env S ((P, oP) :: jk) m mu fz s.heap) (Dv : DatAll fz vs ds)
    (k : ∀ v mu' fz' h' tk' gn' oP', PSt oP' → AllBare gn' → Sub fz fz' → Full c env S ((P, oP') :: jk) m mu' fz' h' → DatIn fz' v r → Q v { s with heap := h', toks := tk', gens := gn' }) : wpAny (model prog w) c.A (PySem.call (.ref f) vs) Q E s := by
  have R := F0.R
  have hPm := F0.J.mem (P, oP) List.mem_cons_self
  obtain ⟨h₀, G, T, F, N⟩ := R.ex
  have offP : ∀ q ∈ fz, P ≠ q.1 := fun q hq => R.off _ hPm q hq
  have N1 : News h₀ c.L s.heap ((P, oP) :: fz) := fun p hp => by
    rcases List.mem_cons.mp hp with e | e
    · rw [e]; exact N _ (List.mem_append_left _ hPm)
    · exact N p (List.mem_append_right _ e)
  refine wpAny_call (D vs fz Dv c.p c.loose c.mean c.mg c.mb c.dp c.un c.gd c.cn c.cs c.a c.ccd c.cl c.outer c.A₀ c.base h₀ c.L m s _ oP G F N1 hP hA offP c.hcs hd hu fun v g' h' tk' gn' oP' fz' G' T' F' N' O' hP' hA' off' P' => ?_)
  obtain ⟨sub, Dr⟩ := P'
  have nL : ∀ p ∈ mu, p.1 ≠ c.L := fun p hp => (N p (List.mem_append_left _ hp)).2.1
  have nf : ∀ p ∈ mu, p.1 ≠ P → p.1 ∉ ((P, oP) :: fz).map (·.1) := fun p hp hne q => by
    obtain ⟨r, hr, e⟩ := List.mem_map.mp q
    rcases List.mem_cons.mp hr with x | x
    · rw [x] at e; exact hne e.symm
    · exact R.off p hp r x e.symm
  have no : ∀ p ∈ mu, p.1 ∉ fsOf c.outer := fun p hp q => by
    obtain ⟨o, es, n, ho, _⟩ := G.D p.1 q
    have := (N p (List.mem_append_left _ hp)).2.2
    rw [ho] at this; cases this
  have kp : ∀ p ∈ mu, p.1 ≠ P → h'.get? p.1 = some p.2 := fun p hp hne => O'.keep p.1 p.2 (N p (List.mem_append_left _ hp)).1 (nf p hp hne) (nL p hp) (no p hp)
  have updm : ∀ p ∈ upd P oP' mu, p = (P, oP') ∨ (p ∈ mu ∧ p.1 ≠ P) := fun p hp => of_upd hp
  have R' : Rel c m (upd P oP' mu) fz' h' := by
    refine ⟨⟨g', G', T.trans T', F', fun p hp => ?_⟩, fun p hp q hq e => ?_, ?_⟩
    · rcases List.mem_append.mp hp with x | x
      · rcases updm p x with y | ⟨y, z⟩
        · rw [y]; exact N' _ List.mem_cons_self
        · exact ⟨kp p y z, nL p y, T'.none_ _ (N p (List.mem_append_left _ y)).2.2⟩
      · exact N' p (List.mem_cons_of_mem _ x)
    · rcases updm p hp with y | ⟨y, z⟩
      · rw [y] at e; exact off' q hq e
      · rcases O'.fresh q (List.mem_cons_of_mem _ hq) with x | x
        · exact nf p y z (e ▸ x)
        · rw [← e, (N p (List.mem_append_left _ y)).1] at x; cases x
    · refine List.pairwise_map.mpr (R.nd.imp fun {p q} h => ?_)
      have e1 : (if p.1 = P then (P, oP') else p).1 = p.1 := by split <;> simp_all
      have e2 : (if q.1 = P then (P, oP') else q).1 = q.1 := by split <;> simp_all
      rw [e1, e2]; exact h
  have R0 : Full c env S ((P, oP') :: jk) m (upd P oP' mu) fz' h' := by
    obtain ⟨n1, n2⟩ := List.pairwise_cons.mp F0.J.nd
    refine F0.move sub R' (fun x a ob hx hm => mem_upd hm fun e => F0.J.cel (P, oP) List.mem_cons_self x a hx e.symm) (fun x ds a ob hx q hm => mem_upd hm fun e => F0.J.own (P, oP) List.mem_cons_self x ds a hx q e.symm) fun up dn =>
      ⟨fun p hp => ?_, fun p hp x a hx => ?_, fun p hp x ds a hx q => ?_, List.pairwise_cons.mpr ⟨n1, n2⟩⟩
    · rcases List.mem_cons.mp hp with e | e
      · rw [e]; exact mem_upd_self hPm
      · exact mem_upd (F0.J.mem p (List.mem_cons_of_mem _ e)) fun q => n1 p e q.symm
    · rcases List.mem_cons.mp hp with e | e
      · rw [e]; exact F0.J.cel (P, oP) List.mem_cons_self x a hx
      · exact F0.J.cel p (List.mem_cons_of_mem _ e) x a hx
    · rcases List.mem_cons.mp hp with e | e
      · rw [e]; exact F0.J.own (P, oP) List.mem_cons_self x ds a hx (dn _ _ _ hx q)
      · exact F0.J.own p (List.mem_cons_of_mem _ e) x ds a hx (dn _ _ _ hx q)
  exact k v _ fz' h' tk' gn' oP' hP' hA' sub R0 Dr

theorem EvP.callP {x : Str} {np pos : Pos} {f : Addr} {e : Expr} {es : List Expr} {ds : List Dat} {r : Dat} {d u : Nat} (ha : EvLP prog w c P env S (e :: es) ds) (D : DFunP prog w K P f d u ds r)
    (hx : env.kindOf x = some .globalImplicit) (hg : nsIn K mainGlobals x = some (some (.ref f))) (hf : isDef K f = true) (hd : c.dp + d < recursionLimit) (hu : c.un + u < cLine)
    (hn : autoParam (starEach (e :: es) env = (false, eval e env) :: starEach es env) Mine.sx0) (hb : autoParam ((x == ("__debug__" : Str)) = false) Mine.sx3) : EvP prog w c P env S (.Call (.Name x np) (e :: es) [] pos) r := by
  intro jk m mu fz s Q oP hP hA F k
  refine wpAny_Call_Name_kw (load_global F.R F.X.toSat hx hg hb ?_)
  obtain ⟨o, fd, ho, hdt⟩ := isDef_get F.R.in_ hf
  refine callWith_function_kw (o := o) (fd := fd) ?_
  have E1 := ha jk m mu fz s pos
  rw [hn] at E1 ⊢
  refine evalArgs_plain (E1 _ oP hP hA F fun vs mu1 fz1 h1 t1 gn1 o1 hP1 hA1 s1 F1 D1 => ?_)
  refine ⟨?_, call_p D hd hu hP1 hA1 F1 D1 fun v mu2 fz2 h2 t2 gn2 o2 hP2 hA2 s2 F2 D2 => k v mu2 fz2 h2 t2 gn2 o2 hP2 hA2 (s1.trans s2) F2 D2⟩
  unfold isDef at hf
  split at hf
  · rename_i q
    have a1 := F.R.in_ _ _ q
    have a2 := F1.R.in_ _ _ q
    rw [a1] at ho; cases ho
    exact ⟨a2, hdt⟩
  · cases hf
theorem PEx.cons {st : Stmt} {rest : List Stmt} {S' : St} {d : Dat} (h1 : Ex1 prog w c env S st (.next S')) (h2 : PEx prog w c P env S' rest d) : PEx prog w c P env S (st :: rest) d := fun jk m mu fz s Q oP hP hA F k =>
  wpAny_execs_cons (h1 ((P, oP) :: jk) m mu fz s _ F fun m' mu' fz' h' tk' s1 F' => h2 jk m' mu' fz' _ Q oP hP hA F' fun v m2 mu2 fz2 h2 t2 gn2 o2 hP2 hA2 s2 => k v m2 mu2 fz2 h2 t2 gn2 o2 hP2 hA2 (s1.trans s2))
theorem PEx.freeze {x : Str} {ds : List Dat} {st : List Stmt} {d : Dat} (hx : S.lookup x = some (.own ds)) (h : PEx prog w c P env ((x, .val (.list ds)) :: S) st d) : PEx prog w c P env S st d := fun jk m mu fz s Q oP hP hA F k => by
  obtain ⟨mu', fz', s1, F'⟩ := F.freeze hx
  exact h jk m mu' fz' s Q oP hP hA F' fun v m2 mu2 fz2 h2 t2 gn2 o2 hP2 hA2 s2 => k v m2 mu2 fz2 h2 t2 gn2 o2 hP2 hA2 (s1.trans s2)
theorem PEx.ret {e : Expr} {pos : Pos} {rest : List Stmt} {d : Dat} (h : EvP prog w c P env S e d) : PEx prog w c P env S (.Return (some e) pos :: rest) d := fun jk m mu fz s Q oP hP hA F k =>
  wpAny_execs_cons (wpAny_Return_some (h jk m mu fz s _ oP hP hA F fun v mu1 fz1 h1 t1 gn1 o1 hP1 hA1 s1 F1 D1 => k v m mu1 fz1 h1 t1 gn1 o1 hP1 hA1 s1 F1.R (F1.J.mem _ List.mem_cons_self) D1))
theorem PEx.assign {x : Str} {p pos : Pos} {e : Expr} {rest : List Stmt} {d r : Dat} (h : EvP prog w c P env S e d) (hw : Wr env x) (h2 : PEx prog w c P env ((x, .val d) :: S) rest r) (hs : autoParam (swapsWith e (some (.Name x p)) pos.line env = pure false) Mine.sx0) : PEx prog w c P env S (.Assign [.Name x p] e pos :: rest) r := fun jk m mu fz s Q oP hP hA F k =>
  wpAny_execs_cons (wpAny_Assign_Name (h jk m mu fz s _ oP hP hA F fun v mu1 fz1 h1 t1 gn1 o1 hP1 hA1 s1 F1 D1 => store_val (s := { s with heap := h1, toks := t1, gens := gn1 }) F1 hw D1 fun m' mu' h3 t3 F3 => h2 jk m' mu' fz1 _ Q o1 hP1 hA1 F3 fun v m2 mu2 fz2 h2 t2 gn2 o2 hP2 hA2 s2 => k v m2 mu2 fz2 h2 t2 gn2 o2 hP2 hA2 (s1.trans s2)) hs)
theorem PEx.ite {e : Expr} {body rest : List Stmt} {pos : Pos} {b : Bool} {d : Dat} (ht : Tst prog w c env S e b) (h1 : b = true → PEx prog w c P env S body d) (h2 : b = false → PEx prog w c P env S rest d) : PEx prog w c P env S (.If e body [] pos :: rest) d := by
  intro jk m mu fz s Q oP hP hA F k
  cases b with
  | true =>
    refine wpAny_execs_cons (wpAny_If (ht m mu fz s _ F.R F.X.toSat fun fz' h' tk' s1 R' => ?_))
    exact h1 rfl jk m mu fz' _ _ oP hP hA (F.to s1 R') fun v m2 mu2 fz2 h2 t2 gn2 o2 hP2 hA2 s2 => k v m2 mu2 fz2 h2 t2 gn2 o2 hP2 hA2 (s1.trans s2)
  | false =>
    refine wpAny_execs_cons (wpAny_If (ht m mu fz s _ F.R F.X.toSat fun fz' h' tk' s1 R' => ?_))
    exact wpAny_execs_nil (h2 rfl jk m mu fz' _ _ oP hP hA (F.to s1 R') fun v m2 mu2 fz2 h2 t2 gn2 o2 hP2 hA2 s2 => k v m2 mu2 fz2 h2 t2 gn2 o2 hP2 hA2 (s1.trans s2))
end
end Mine

end
section
open PySem PySem.W PyProof.Rows PySem.Calls
set_option Elab.async false
set_option linter.unusedVariables false
namespace Mine
theorem dfunP_of {prog : Program} {w : World} {K : Frag} {P f : Addr} {d u : Nat} {ps : List Str} {ds : List Dat} {r : Dat}
    {name qual : Str} {params : Arguments} {body : List Stmt} {scope : Scope} {dV kV doc pm cdv ct oc : Value} {an od : Option Addr} {osl : Array (Option Value)}
    (ho : K.lookup f = some ⟨oc, od, .func (fnOf name qual params body scope dV kV doc pm an cdv ct), osl⟩) (hcd : codeIn K cdv qual = true)
    (hlen : ps.length = ds.length) (hbind : ∀ (vs : List Value), vs.length = ps.length → ∀ s : Shared, K.In s.heap → BindsTo s (fnOf name qual params body scope dV kV doc pm an cdv ct) ⟨vs, []⟩ (ps.zip vs)) (hps : ps.Nodup)
    (hkb : (ps.all fun x => decide (scope.names.lookup x = some .local) || (decide (scope.names.lookup x = some .cell) && ((cellsFrom 0 scope.names []).lookup x).isSome)) = true)
    (hnd : ((cellsFrom 0 scope.names []).map (·.1)).Nodup)
    (hco : scope.isCoroutine = false) (hgen : scope.isGenerator = false) (hk : scope.kind = .function)
    (h : ∀ c : Cx K, c.dp + d ≤ recursionLimit → c.un + u ≤ cLine → c.a = f → c.ccd = cdv → PEx prog w c P (envOfC qual scope c.L f cdv) (ps.zip (ds.map Slot.val)) body r) : DFunP prog w K P f (d + 1) (u + 8) ds r := by
  intro vs fz Dv
  have hkind : ∀ n, ∀ x ∈ ps, scope.names.lookup x = some .local ∨ (scope.names.lookup x = some .cell ∧ ((cellsFrom n scope.names []).lookup x).isSome = true) := fun n x hx => by
    have q := List.all_eq_true.mp hkb x hx
    rw [Bool.or_eq_true, Bool.and_eq_true, decide_eq_true_eq, decide_eq_true_eq] at q
    exact q.imp id fun ⟨a, b⟩ => ⟨a, (look_names (cellsFrom_names scope.names n 0 [] [] rfl)).trans b⟩
  have hl : vs.length = ps.length := by rw [Dv.length, hlen]
  intro p loose mean mg mb dp un gd cn cs a ccd cl outer A₀ base h₀ Lc mc s R oP Gc Fc Nc hP hA hoff hck hdp hun hret
  have Xc := Gc.X.keeps Fc.keep
  obtain ⟨FG, G⟩ := enter_X (env := envX cn cs Lc a ccd cl) (A := ktrTop dp un gd cn cs Lc a ccd cl outer) Gc Fc Nc rfl rfl hck
  refine codeAny_call_function (fd := fnOf name qual params body scope dV kV doc pm an cdv ct) (by show dp < recursionLimit; walk_at "om") (Xc _ _ ho) rfl hco hgen rfl (codeRec_of Xc hcd) ((hbind vs hl s Xc) _ _ _ _ ?_)
  refine wpAny_newFunctionEnv_cells hk (fun x hx => hkind _ x.1 (List.of_mem_zip hx).1) fun env' he s' x => ?_
  subst he
  refine ⟨(Gc.T.nolimit.keeps Fc.keep).keeps x.toInCall.keep, codeAny_func ?_⟩
  obtain ⟨h₁, tk, rfl, _⟩ := x.done
  have hk₁ := x.toInCall.keep
  obtain ⟨cells, NC, Y⟩ := Cl.news (h₀ := s.heap) (Nat.le_refl _) fun n c hm => ⟨x.cell n c (lookup_of_mem_nodup (cellsFrom_names scope.names 0 (s.heap.objs.size + 1) [] [] rfl ▸ hnd) hm), x.above n c hm⟩
  have Y : CellsAre (bindC (envOfC qual scope s.heap.objs.size f cdv).kindOf (ps.zip vs) fun _ => none) (cellsFrom (s.heap.objs.size + 1) scope.names []) cells := Y
  have hgt := cells_above Y fun n c hm => x.above n c hm
  have hlt : ∀ p ∈ (P, oP) :: fz, p.1 < s.heap.objs.size := fun p hp => Heap.lt_size (Nc p hp).1
  have F : Fr (hideAll s.heap (((P, oP) :: fz).map (·.1))) s.heap.objs.size h₁ (bindL (envOfC qual scope s.heap.objs.size f cdv).kindOf (ps.zip vs) fun _ => none) := ⟨x.toInCall.ns, fun b o e => hk₁ b o (of_hideAll _ e), Nat.le_of_eq (hideAll_size _ _)⟩
  have NP : ∀ p ∈ (P, oP) :: fz, h₁.get? p.1 = some p.2 ∧ p.1 ≠ s.heap.objs.size ∧ (hideAll s.heap (((P, oP) :: fz).map (·.1))).get? p.1 = none := fun p hp => ⟨hk₁ _ _ (Nc p hp).1, Nat.ne_of_lt (Heap.lt_size (Nc p hp).1), hideAll_none _ (List.mem_map_of_mem hp)⟩
  have N : News (hideAll s.heap (((P, oP) :: fz).map (·.1))) s.heap.objs.size h₁ (((P, oP) :: cells) ++ fz) := fun p hp => by
    rcases List.mem_append.mp hp with hp | hp
    · rcases List.mem_cons.mp hp with e | hp
      · rw [e]; exact NP _ List.mem_cons_self
      · refine ⟨(NC p hp).1, (NC p hp).2.1, ?_⟩
        cases q : (hideAll s.heap (((P, oP) :: fz).map (·.1))).get? p.1 with
        | none => rfl
        | some o => have := of_hideAll _ q; rw [(NC p hp).2.2] at this; cases this
    · exact NP p (List.mem_cons_of_mem _ hp)
  have hap := x.apart
  let c : Cx K := { p, loose, mean, mg, mb, dp := dp + 1, un := un + 3, gd, cn := qual, cs := scope, a := f, ccd := cdv, cl := cellsFrom (s.heap.objs.size + 1) scope.names [], outer := envX cn cs Lc a ccd cl :: outer, A₀ := ktrTop dp un gd cn cs Lc a ccd cl outer, base, ge := hideAll s.heap (((P, oP) :: fz).map (·.1)), L := s.heap.objs.size, hcs := hk }
  have nd : cells.Pairwise fun p q => p.1 ≠ q.1 := by
    have e := cellsAre_addr Y
    have h1 : (cells.map (·.1)).Pairwise (· ≠ ·) := by rw [e]; exact List.pairwise_map.mpr hap
    exact List.pairwise_map.mp h1
  have Pne : ∀ q ∈ cells, P ≠ q.1 := fun q hq => Nat.ne_of_lt (Nat.lt_trans (hlt (P, oP) List.mem_cons_self) (hgt q hq))
  have Rl : Rel c (bindL (envOfC qual scope s.heap.objs.size f cdv).kindOf (ps.zip vs) fun _ => none) ((P, oP) :: cells) fz h₁ := ⟨⟨_, G, KtsTurn.refl, F, N⟩, fun p hp q hq => by
    rcases List.mem_cons.mp hp with e | hp
    · rw [e]; exact hoff q hq
    · exact Nat.ne_of_gt (Nat.lt_trans (hlt q (List.mem_cons_of_mem _ hq)) (hgt p hp)), List.pairwise_cons.mpr ⟨Pne, nd⟩⟩
  have bn : ((ps.zip vs).map (·.1)).Nodup := by rw [List.map_fst_zip (by walk_at "om")]; exact hps
  have zip : ∀ (ps : List Str) (vs : List Value) (ds : List Dat), DatAll fz vs ds → ps.length = ds.length → ∀ x sl, (x, sl) ∈ ps.zip (ds.map Slot.val) → ∃ v d, sl = .val d ∧ (x, v) ∈ ps.zip vs ∧ DatIn fz v d := by
    intro ps
    induction ps with
    | nil => intro vs ds _ _ x sl hm; simp at hm
    | cons y ps ih =>
      intro vs ds D hl x sl hm
      cases D with
      | nil => simp at hl
      | cons D1 D2 =>
        simp only [List.map_cons, List.zip_cons_cons, List.mem_cons] at hm
        rcases hm with e | e
        · cases e; exact ⟨_, _, rfl, List.mem_cons_self, D1⟩
        · obtain ⟨v, d, h1, h2, h3⟩ := ih _ _ D2 (by simpa using hl) x sl e
          exact ⟨v, d, h1, List.mem_cons_of_mem _ h2, h3⟩
  have noOwn : ∀ x es, (ps.zip (ds.map Slot.val)).lookup x ≠ some (.own es) := fun x es hx => by
    obtain ⟨v, d', e, _, _⟩ := zip ps vs ds Dv hlen x _ (mem_of_lookup' hx)
    cases e
  have X : SatS c (envOfC qual scope s.heap.objs.size f cdv) (ps.zip (ds.map Slot.val)) (bindL (envOfC qual scope s.heap.objs.size f cdv).kindOf (ps.zip vs) fun _ => none) ((P, oP) :: cells) fz := by
    refine ⟨⟨hk, rfl, rfl, fun x d hx => ?_, fun x es hx => absurd hx (noOwn x es)⟩, rfl, fun x a hx => ?_, fun x y a h1 h2 => name_of_addr hap (mem_of_lookup' h1) (mem_of_lookup' h2), fun x y es es' a h1 => absurd h1 (noOwn x es)⟩
    · obtain ⟨v, d', e, h2, h3⟩ := zip ps vs ds Dv hlen x _ (mem_of_lookup' hx)
      cases e
      refine ⟨v, ?_, h3⟩
      rcases hkind (s.heap.objs.size + 1) x (List.of_mem_zip h2).1 with kx | ⟨kx, cx⟩
      · exact .loc kx rfl (bindL_at kx bn h2)
      · obtain ⟨a, ha⟩ := Option.isSome_iff_exists.mp cx
        obtain ⟨o, ho, hd⟩ := cellsAre_mem Y (mem_of_lookup' ha)
        refine .cell kx ha (List.mem_cons_of_mem _ ho) (hd.trans ?_)
        rw [bindC_at (show (envOfC qual scope s.heap.objs.size f cdv).kindOf x ≠ some .local from fun q => by
          have q2 : scope.names.lookup x = some .local := q
          rw [kx] at q2; cases q2) bn h2]
    · obtain ⟨o, ho, hd⟩ := cellsAre_mem Y (mem_of_lookup' hx)
      exact ⟨o, _, List.mem_cons_of_mem _ ho, hd⟩
  have J : Jk c (envOfC qual scope s.heap.objs.size f cdv) (ps.zip (ds.map Slot.val)) [(P, oP)] (bindL (envOfC qual scope s.heap.objs.size f cdv).kindOf (ps.zip vs) fun _ => none) ((P, oP) :: cells) := by
    refine ⟨fun p hp => ?_, fun p hp x a hx => ?_, fun p hp x es a hx => absurd hx (noOwn x es), List.pairwise_singleton _ _⟩
    · rw [List.mem_singleton.mp hp]; exact List.mem_cons_self
    · rw [List.mem_singleton.mp hp]
      obtain ⟨o, ho, _⟩ := cellsAre_mem Y (mem_of_lookup' hx)
      exact Pne _ ho
  refine wpAny_mono (h c (by show dp + 1 + d ≤ _; walk_at "om") (by show un + 3 + u ≤ _; walk_at "om") rfl rfl [] _ ((P, oP) :: cells) fz { s with heap := h₁, toks := tk } (fun fl s' => R (.ok (.ret (match fl with | .ret v => v | _ => .none))) s') oP hP hA ⟨Rl, X, J⟩ ?_) (fun _ _ y => y) (fun _ _ y => y.elim)
  intro v m' mu' fz' h' tk' gn' oP' hP' hA' s1 R' hm' D
  obtain ⟨g', G', T', F', N'⟩ := R'.ex
  have N2 : News g' c.L h' ((P, oP') :: fz') := fun p hp => by
    rcases List.mem_cons.mp hp with e | e
    · rw [e]; exact N' _ (List.mem_append_left _ hm')
    · exact N' p (List.mem_append_right _ e)
  obtain ⟨h₀', T2, G2, F2, N3⟩ := back_X Gc FG rfl T' F' N2
  exact hret v h₀' h' tk' gn' oP' fz' G2 T2 F2 N3 (out_X rfl T' F' N2) hP' hA' (fun q hq => R'.off _ hm' q hq) ⟨s1, D⟩
end Mine

end
section
open PySem PySem.W PyProof.Rows PySem.Calls
set_option Elab.async false
set_option maxRecDepth 100000
set_option linter.unusedVariables false
namespace Mine
section
variable {prog : Program} {w : World} {A : Around} {E : Value → Shared → Prop} {s : Shared} {I : Addr} {g n : Nat}
theorem collect_J {Q : List Value → Shared → Prop} (J : Nat → List Value → Shared → Prop) (hg : s.heap.IsGen I g) (hn : n ≤ sizeLine)
    (h0 : ∀ h c, (∀ b o, s.heap.get? b = some o → h.get? b = some o) → h.get? s.heap.objs.size = some (listO #[] c) → J 0 [] { s with heap := h })
    (step : ∀ j acc s', j < n → acc.length = j → J j acc s' → wpAny (model prog w) A.in1 (pyNext (.ref I)) (fun r s'' => ∃ v c, r = some v ∧ s''.heap.get? s.heap.objs.size = some (listO acc.toArray c) ∧
      ∀ h c', h.get? s.heap.objs.size = some (listO (acc ++ [v]).toArray c') → (∀ b o, b ≠ s.heap.objs.size → s''.heap.get? b = some o → h.get? b = some o) → J (j + 1) (acc ++ [v]) { s'' with heap := h }) NoE s')
    (fin : ∀ acc s', acc.length = n → J n acc s' → wpAny (model prog w) A.in1 (pyNext (.ref I)) (fun r s'' => r = none ∧ ∃ c, s''.heap.get? s.heap.objs.size = some (listO acc.toArray c) ∧ Q acc s'') NoE s') :
    wpAny (model prog w) A (collect (.ref I)) Q E s := by
  have hSI : s.heap.objs.size ≠ I := fun e => by
    obtain ⟨o, _, _, ho, _⟩ := hg
    exact absurd (Heap.lt_size ho) (by rw [e]; exact Nat.lt_irrefl _)
  unfold collect
  refine wpAny_bind (wpAny_runValue (codeAny_builtin F.entry_proto_collect ?_))
  rw [Around.under_plainId F.plain_proto_collect _]
  show wpAny _ A.in1 (newList [] >>= fun l => again (.builtin "list.__iadd__" ⟨[l, .ref I], []⟩)) _ _ s
  refine wpAny_bind (wpAny_newObj_type ?_)
  refine wpAny_pure ⟨plainId_quiet F.plain_list_iadd _, codeAny_builtin F.entry_list_iadd ?_⟩
  rw [Around.under_plainId F.plain_list_iadd _]
  generalize hSS : s.heap.objs.size = Sx at *
  have hS₁ : (s.heap.push { cls := .type "list", data := .seq ([] : List Value).toArray }).get? Sx = some { cls := .type "list", data := .seq ([] : List Value).toArray } := by rw [← hSS]; exact Heap.get?_push_size _ rfl
  have hg₁ : (s.heap.push { cls := .type "list", data := .seq ([] : List Value).toArray }).IsGen I g := hg.push _
  show wpAny _ A.in1 (Builtin.List.listExtendWith (.ref Sx) (.ref I) (.ref Sx)) _ _ _
  unfold Builtin.List.listExtendWith
  refine wpAny_bind (wpAny_typeOf (hg₁.typeIs (s := { s with heap := _ })) ?_)
  have h1 : Builtin.List.listSameRef (.ref Sx) (.ref I) = false := by simp [Builtin.List.listSameRef, hSI]
  have h2 : (Value.type "generator" == Value.type "list") = false := by decide
  have h3 : (Value.type "generator" == Value.type "tuple") = false := by decide
  simp only [h1, h2, h3, Bool.or_false, Bool.false_eq_true, if_false]
  refine wpAny_bind (wpAny_pyIter_gen hg₁ ?_)
  refine wpAny_bind (wpAny_holding ?_)
  unfold Builtin.List.listLengthHint
  refine wpAny_bind (wpAny_specialOf (hg₁.typeIs (s := { s with heap := _ })) F.gen_no_len ?_)
  show wpAny _ A.in1 (specialOf (Value.ref I) (Str.ofString "__length_hint__") >>= _) _ _ _
  refine wpAny_bind (wpAny_specialOf (hg₁.typeIs (s := { s with heap := _ })) F.gen_no_hint ?_)
  refine wpAny_pure ?_
  show wpAny _ A.in1 (rule "list.extend.makes-room" >>= fun _ => Builtin.List.listTouch (.ref Sx) >>= fun _ =>
    again (.builtin "list.extend.loop" ⟨[.ref Sx, .ref I, .ref Sx], []⟩)) _ _ _
  refine wpAny_bind (wpAny_rule ?_)
  refine wpAny_bind ?_
  show wpAny _ A.in1 (updateSeq Sx (·.push .none) >>= fun _ => updateSeq Sx (·.pop)) _ _ _
  refine wpAny_bind (wpAny_updateSeq hS₁ rfl ?_)
  have hS₂ := Heap.get?_update_self (Obj.mapSeq (·.push Value.none)) hS₁ rfl
  refine wpAny_updateSeq hS₂ rfl ?_
  have hS₃ := Heap.get?_update_self (Obj.mapSeq (·.pop)) hS₂ rfl
  have oth : ∀ b o, s.heap.get? b = some o → (((s.heap.push { cls := .type "list", data := .seq ([] : List Value).toArray }).update Sx (Obj.mapSeq (·.push Value.none))).update Sx (Obj.mapSeq (·.pop))).get? b = some o :=
    fun b o e => by
      have hb : Sx ≠ b := fun z => absurd (Heap.lt_size e) (by rw [← z, hSS]; exact Nat.lt_irrefl _)
      exact (Heap.get?_update_other _ _ hb).trans ((Heap.get?_update_other _ _ hb).trans (Heap.get?_push_of_some _ e))
  refine wpAny_pure ⟨plainId_quiet F.plain_extend_loop _, ?_⟩
  refine ext_loop (D := Nat × List Value) (fun d s' => d.2.length = d.1 ∧ d.1 ≤ n ∧ J d.1 d.2 s') (fun d => n - d.1) (fun d s' hJ => ?_) (n + 1) (0, []) _ (by show n - 0 < n + 1; walk_at "om") ⟨rfl, Nat.zero_le _, h0 _ _ oth hS₃⟩
  obtain ⟨j, acc⟩ := d
  obtain ⟨hl, hjn, hJ⟩ := hJ
  have hl : acc.length = j := hl
  by_cases hlt : j < n
  · refine wpAny_mono (step j acc s' hlt hl hJ) (fun r s'' hr => ?_) fun _ _ e => e.elim
    obtain ⟨v, c, rfl, hc, k⟩ := hr
    refine wpAny_updateSeq hc rfl ?_ (by show acc.toArray.size ≤ _; rw [List.size_toArray]; walk_at "om") (by show (acc.toArray.push v).size ≤ _; rw [Array.size_push, List.size_toArray]; walk_at "om")
    refine ⟨(j + 1, acc ++ [v]), by show n - (j + 1) < n - j; walk_at "om", by simp; exact hl, hlt, k _ (c + 1) ?_ fun b o hb e => (Heap.get?_update_other _ _ (Ne.symm hb)).trans e⟩
    have := Heap.get?_update_self (Obj.mapSeq (·.push v)) hc rfl
    rw [this]
    simp [Obj.mapSeq, listO]
  · have e : j = n := by have : j ≤ n := hjn; walk_at "om"
    subst e
    refine wpAny_mono (fin acc s' hl hJ) (fun r s'' hr => ?_) fun _ _ e => e.elim
    obtain ⟨rfl, c, hc, hq⟩ := hr
    show wpAny _ A (load Sx >>= _) _ _ s''
    refine wpAny_bind (wpAny_load hc ?_)
    exact wpAny_pure (by simpa using hq)

theorem join_J {Q : Value → Shared → Prop} {x : Str} {t : Tok} {ss : List Str} (J : Nat → List Value → Shared → Prop) (hg : s.heap.IsGen I g) (hn : n ≤ sizeLine) (hok : JoinOk x ss = true)
    (h0 : ∀ h c, (∀ b o, s.heap.get? b = some o → h.get? b = some o) → h.get? s.heap.objs.size = some (listO #[] c) → J 0 [] { s with heap := h })
    (step : ∀ j acc s', j < n → acc.length = j → J j acc s' → wpAny (model prog w) A.in1.in1 (pyNext (.ref I)) (fun r s'' => ∃ v c, r = some v ∧ s''.heap.get? s.heap.objs.size = some (listO acc.toArray c) ∧
      ∀ h c', h.get? s.heap.objs.size = some (listO (acc ++ [v]).toArray c') → (∀ b o, b ≠ s.heap.objs.size → s''.heap.get? b = some o → h.get? b = some o) → J (j + 1) (acc ++ [v]) { s'' with heap := h }) NoE s')
    (fin : ∀ acc s', acc.length = n → J n acc s' → wpAny (model prog w) A.in1.in1 (pyNext (.ref I)) (fun r s'' => r = none ∧ ∃ c, s''.heap.get? s.heap.objs.size = some (listO acc.toArray c) ∧ StrsAre acc ss ∧ ∀ t' k, Q (.str (Txt.join x ss) t') { s'' with toks := k }) NoE s') :
    wpAny (model prog w) A (call (.builtin "str.join") [.str x t, .ref I]) Q E s := by
  refine wpAny_call (codeAny_call_builtin F.slot_str_join.plain F.entry_str_join (F.slot_str_join.check _ _ _ _ _ _ _ _ (typeIs_str _ _ _) (F.args_str_join_2 _ _) ?_))
  rw [join_tree_other]
  refine wpAny_bind (wpAny_typeOf hg.typeIs ?_)
  show wpAny _ A.in1 ((pyIter (.ref I)).tryCatch _ >>= fun it => collect it >>= fun items => joinTail x items) _ _ s
  refine wpAny_bind (wpAny_tryCatch (wpAny_pyIter_gen hg ?_))
  refine wpAny_bind (collect_J (Q := fun acc s'' => StrsAre acc ss ∧ ∀ t' k, Q (.str (Txt.join x ss) t') { s'' with toks := k }) J hg hn h0 step fin |> fun z => wpAny_mono z (fun acc s'' h => ?_) fun _ _ e => e)
  obtain ⟨hs, hpost⟩ := h
  obtain ⟨l, hv, ht⟩ := strsAre_values hs
  subst hv
  subst ht
  unfold JoinOk at hok
  rw [Bool.not_eq_true'] at hok
  have gv : Gives (joinTail x (strValues l)) (joinMade x l) := by
    have g0 := gives_joinTail x l hok
    cases l with
    | nil => exact g0
    | cons p r => cases r with
      | nil => exact g0
      | cons q r' => exact g0
  exact gv prog w A (wants Q E) s'' (post_join l ⟨joinFit_length hok, hpost⟩)
end
end Mine

end
section
open PySem PySem.W PyProof.Rows PySem.Calls
set_option Elab.async false
set_option linter.unusedVariables false
namespace Mine
noncomputable def DFunG (prog : Program) (w : World) (K : Frag) (f : Addr) (d u : Nat) (ds : List Dat) (r : Dat) : Prop :=
  ∀ vs fz, DatAll fz vs ds → ∀ (p : Program) (loose : List Str) (mean : ExcName → Option Value) (mg mb : Str → Option Value) (dp un : Nat) (gd : Option (List Code)) (env : Env) (outer : List Env) (A₀ : Around) (base h₀ : Heap) (L : Addr) (m : Str → Option Value) (s : Shared) (R : Result → Shared → Prop),
    Gd K p loose mean mg mb A₀ base outer h₀ → Fr h₀ L s.heap m → News h₀ L s.heap fz → env.frame = some L → env.scope.kind = .function → dp + d < recursionLimit → un + u < cLine →
    (∀ v g' h' tk' fz', Gd K p loose mean mg mb A₀ base outer g' → KtsTurn (fsOf outer) h₀ g' → Fr g' L h' m → News g' L h' fz' → Out L outer fz s.heap h' fz' → Sub fz fz' → DatIn fz' v r → R (.ok (.ret v)) { s with heap := h', toks := tk' }) →
    codeAny (model prog w) { handled := none, depth := dp, frames := some (env :: outer), guards := gd, units := un } (.call (.ref f) ⟨vs, []⟩) R s
theorem dfunG_of {prog : Program} {w : World} {K : Frag} {f : Addr} {d u : Nat} {ps : List Str} {ds : List Dat} {r : Dat}
    {name qual : Str} {params : Arguments} {body : List Stmt} {scope : Scope} {dV kV doc pm cdv ct oc : Value} {an od : Option Addr} {osl : Array (Option Value)}
    (ho : K.lookup f = some ⟨oc, od, .func (fnOf name qual params body scope dV kV doc pm an cdv ct), osl⟩) (hcd : codeIn K cdv qual = true)
    (hlen : ps.length = ds.length) (hbind : ∀ (vs : List Value), vs.length = ps.length → ∀ s : Shared, K.In s.heap → BindsTo s (fnOf name qual params body scope dV kV doc pm an cdv ct) ⟨vs, []⟩ (ps.zip vs)) (hps : ps.Nodup)
    (hkb : (ps.all fun x => decide (scope.names.lookup x = some .local) || (decide (scope.names.lookup x = some .cell) && ((cellsFrom 0 scope.names []).lookup x).isSome)) = true)
    (hnd : ((cellsFrom 0 scope.names []).map (·.1)).Nodup)
    (hco : scope.isCoroutine = false) (hgen : scope.isGenerator = false) (hk : scope.kind = .function)
    (h : ∀ c : Cx K, c.dp + d ≤ recursionLimit → c.un + u ≤ cLine → Ex prog w c (envOfC qual scope c.L f cdv) (ps.zip (ds.map Slot.val)) body (.ret r)) : DFunG prog w K f (d + 1) (u + 8) ds r := by
  intro vs fz Dv
  have hkind : ∀ n, ∀ x ∈ ps, scope.names.lookup x = some .local ∨ (scope.names.lookup x = some .cell ∧ ((cellsFrom n scope.names []).lookup x).isSome = true) := fun n x hx => by
    have q := List.all_eq_true.mp hkb x hx
    rw [Bool.or_eq_true, Bool.and_eq_true, decide_eq_true_eq, decide_eq_true_eq] at q
    exact q.imp id fun ⟨a, b⟩ => ⟨a, (look_names (cellsFrom_names scope.names n 0 [] [] rfl)).trans b⟩
  have hl : vs.length = ps.length := by rw [Dv.length, hlen]
  intro p loose mean mg mb dp un gd envc outer A₀ base h₀ Lc mc s R Gc Fc Nc hfr hck hdp hun hret
  have Xc := Gc.X.keeps Fc.keep
  obtain ⟨FG, G⟩ := enter_X (env := envc) (A := { handled := none, depth := dp, frames := some (envc :: outer), guards := gd, units := un }) Gc Fc Nc rfl hfr hck
  refine codeAny_call_function (fd := fnOf name qual params body scope dV kV doc pm an cdv ct) (by show dp < recursionLimit; walk_at "om") (Xc _ _ ho) rfl hco hgen rfl (codeRec_of Xc hcd) ((hbind vs hl s Xc) _ _ _ _ ?_)
  refine wpAny_newFunctionEnv_cells hk (fun x hx => hkind _ x.1 (List.of_mem_zip hx).1) fun env' he s' x => ?_
  subst he
  refine ⟨(Gc.T.nolimit.keeps Fc.keep).keeps x.toInCall.keep, codeAny_func ?_⟩
  obtain ⟨h₁, tk, rfl, _⟩ := x.done
  have hk₁ := x.toInCall.keep
  obtain ⟨cells, NC, Y⟩ := Cl.news (h₀ := s.heap) (Nat.le_refl _) fun n c hm => ⟨x.cell n c (lookup_of_mem_nodup (cellsFrom_names scope.names 0 (s.heap.objs.size + 1) [] [] rfl ▸ hnd) hm), x.above n c hm⟩
  have Y : CellsAre (bindC (envOfC qual scope s.heap.objs.size f cdv).kindOf (ps.zip vs) fun _ => none) (cellsFrom (s.heap.objs.size + 1) scope.names []) cells := Y
  have hgt := cells_above Y fun n c hm => x.above n c hm
  have hlt : ∀ p ∈ fz, p.1 < s.heap.objs.size := fun p hp => Heap.lt_size (Nc p hp).1
  have F : Fr (hideAll s.heap (fz.map (·.1))) s.heap.objs.size h₁ (bindL (envOfC qual scope s.heap.objs.size f cdv).kindOf (ps.zip vs) fun _ => none) := ⟨x.toInCall.ns, fun b o e => hk₁ b o (of_hideAll _ e), Nat.le_of_eq (hideAll_size _ _)⟩
  have NP : ∀ p ∈ fz, h₁.get? p.1 = some p.2 ∧ p.1 ≠ s.heap.objs.size ∧ (hideAll s.heap (fz.map (·.1))).get? p.1 = none := fun p hp => ⟨hk₁ _ _ (Nc p hp).1, Nat.ne_of_lt (Heap.lt_size (Nc p hp).1), hideAll_none _ (List.mem_map_of_mem hp)⟩
  have N : News (hideAll s.heap (fz.map (·.1))) s.heap.objs.size h₁ (cells ++ fz) := fun p hp => by
    rcases List.mem_append.mp hp with hp | hp
    · refine ⟨(NC p hp).1, (NC p hp).2.1, ?_⟩
      cases q : (hideAll s.heap (fz.map (·.1))).get? p.1 with
      | none => rfl
      | some o => have := of_hideAll _ q; rw [(NC p hp).2.2] at this; cases this
    · exact NP p hp
  have hap := x.apart
  let c : Cx K := { p, loose, mean, mg, mb, dp := dp + 1, un := un + 3, gd, cn := qual, cs := scope, a := f, ccd := cdv, cl := cellsFrom (s.heap.objs.size + 1) scope.names [], outer := envc :: outer, A₀ := { handled := none, depth := dp, frames := some (envc :: outer), guards := gd, units := un }, base, ge := hideAll s.heap (fz.map (·.1)), L := s.heap.objs.size, hcs := hk }
  have nd : cells.Pairwise fun p q => p.1 ≠ q.1 := by
    have e := cellsAre_addr Y
    have h1 : (cells.map (·.1)).Pairwise (· ≠ ·) := by rw [e]; exact List.pairwise_map.mpr hap
    exact List.pairwise_map.mp h1
  have Rl : Rel c (bindL (envOfC qual scope s.heap.objs.size f cdv).kindOf (ps.zip vs) fun _ => none) cells fz h₁ := ⟨⟨_, G, KtsTurn.refl, F, N⟩, fun p hp q hq => Nat.ne_of_gt (Nat.lt_trans (hlt q hq) (hgt p hp)), nd⟩
  have bn : ((ps.zip vs).map (·.1)).Nodup := by rw [List.map_fst_zip (by walk_at "om")]; exact hps
  have zip : ∀ (ps : List Str) (vs : List Value) (ds : List Dat), DatAll fz vs ds → ps.length = ds.length → ∀ x sl, (x, sl) ∈ ps.zip (ds.map Slot.val) → ∃ v d, sl = .val d ∧ (x, v) ∈ ps.zip vs ∧ DatIn fz v d := by
    intro ps
    induction ps with
    | nil => intro vs ds _ _ x sl hm; simp at hm
    | cons y ps ih =>
      intro vs ds D hl x sl hm
      cases D with
      | nil => simp at hl
      | cons D1 D2 =>
        simp only [List.map_cons, List.zip_cons_cons, List.mem_cons] at hm
        rcases hm with e | e
        · cases e; exact ⟨_, _, rfl, List.mem_cons_self, D1⟩
        · obtain ⟨v, d, h1, h2, h3⟩ := ih _ _ D2 (by simpa using hl) x sl e
          exact ⟨v, d, h1, List.mem_cons_of_mem _ h2, h3⟩
  have noOwn : ∀ x es, (ps.zip (ds.map Slot.val)).lookup x ≠ some (.own es) := fun x es hx => by
    obtain ⟨v, d', e, _, _⟩ := zip ps vs ds Dv hlen x _ (mem_of_lookup' hx)
    cases e
  have X : SatS c (envOfC qual scope s.heap.objs.size f cdv) (ps.zip (ds.map Slot.val)) (bindL (envOfC qual scope s.heap.objs.size f cdv).kindOf (ps.zip vs) fun _ => none) cells fz := by
    refine ⟨⟨hk, rfl, rfl, fun x d hx => ?_, fun x es hx => absurd hx (noOwn x es)⟩, rfl, fun x a hx => ?_, fun x y a h1 h2 => name_of_addr hap (mem_of_lookup' h1) (mem_of_lookup' h2), fun x y es es' a h1 => absurd h1 (noOwn x es)⟩
    · obtain ⟨v, d', e, h2, h3⟩ := zip ps vs ds Dv hlen x _ (mem_of_lookup' hx)
      cases e
      refine ⟨v, ?_, h3⟩
      rcases hkind (s.heap.objs.size + 1) x (List.of_mem_zip h2).1 with kx | ⟨kx, cx⟩
      · exact .loc kx rfl (bindL_at kx bn h2)
      · obtain ⟨a, ha⟩ := Option.isSome_iff_exists.mp cx
        obtain ⟨o, ho, hd⟩ := cellsAre_mem Y (mem_of_lookup' ha)
        refine .cell kx ha ho (hd.trans ?_)
        rw [bindC_at (show (envOfC qual scope s.heap.objs.size f cdv).kindOf x ≠ some .local from fun q => by
          have q2 : scope.names.lookup x = some .local := q
          rw [kx] at q2; cases q2) bn h2]
    · obtain ⟨o, ho, hd⟩ := cellsAre_mem Y (mem_of_lookup' hx)
      exact ⟨o, _, ho, hd⟩
  refine wpAny_mono (h c (by show dp + 1 + d ≤ _; walk_at "om") (by show un + 3 + u ≤ _; walk_at "om") [] _ cells fz { s with heap := h₁, toks := tk } (fun fl s' => R (.ok (.ret (match fl with | .ret v => v | _ => .none))) s') ⟨Rl, X, ⟨(fun _ hp => nomatch hp), (fun _ hp => nomatch hp), (fun _ hp => nomatch hp), List.Pairwise.nil⟩⟩ ?_) (fun _ _ y => y) (fun _ _ y => y.elim)
  intro v m' mu' fz' h' tk' s1 R' D
  obtain ⟨g', G', T', F', N'⟩ := R'.ex
  have N2 : News g' c.L h' fz' := fun p hp => N' p (List.mem_append_right _ hp)
  obtain ⟨h₀', T2, G2, F2, N3⟩ := back_X Gc FG hfr T' F' N2
  exact hret v h₀' h' tk' fz' G2 T2 F2 N3 (out_X hfr T' F' N2) s1 D
end Mine

end
section
open PySem PySem.W PyProof.Rows PySem.Calls
set_option Elab.async false
set_option maxRecDepth 100000
set_option linter.unusedVariables false
namespace Mine
structure ItG (prog : Program) (w : World) (I : Addr) (fz : Led) (xs : List Str) (fp : List Addr) (P : Nat → Value → Prop) (Sx : Nat → Heap → Prop) : Prop where
  W : ∀ A' : Around, A'.handled = none → Walks prog w A' I fp [I] xs.length P Sx
  fpIn : ∀ b ∈ fp, b = I ∨ ∃ o, (b, o) ∈ fz
  dat : ∀ i v, i < xs.length → P i v → ∃ t, v = .str (xs.getD i "") t
  ob : ∀ i h, Sx i h → ∃ o, h.get? I = some o

section
variable {K : Frag}
noncomputable def HI (cG : Cx K) (I Sl a : Addr) (oG : Obj) (fz : Led) (Sx : Nat → Heap → Prop) (j : Nat) (h : Heap) : Prop := ∃ m oI oS, Rel cG m [(I, oI), (Sl, oS), (a, oG)] fz h ∧ Sx j h
noncomputable def HE (cG : Cx K) (Sl a : Addr) (oG : Obj) (fz : Led) (h : Heap) : Prop := ∃ m oS, Rel cG m [(Sl, oS), (a, oG)] fz h
noncomputable def Since (Sl : Addr) (s₀ s : Shared) : Prop := ∃ h tk, s = { s₀ with heap := h, toks := tk } ∧ h.get? Sl = s₀.heap.get? Sl
theorem Since.refl (Sl : Addr) (s : Shared) : Since Sl s s := ⟨s.heap, s.toks, rfl, rfl⟩
theorem Since.step {Sl : Addr} {s₀ s : Shared} (x : Since Sl s₀ s) {h : Heap} {tk : Nat} (e : h.get? Sl = s.heap.get? Sl) : Since Sl s₀ { s with heap := h, toks := tk } := by
  obtain ⟨h1, t1, rfl, e1⟩ := x
  exact ⟨h, tk, rfl, e.trans e1⟩
noncomputable def GR (cG : Cx K) (Sl a : Addr) (oG : Obj) (fz : Led) : Nat → Shared → Shared → Prop := fun n s₀ s₁ => n = 0 ∧ Since Sl s₀ s₁ ∧ HE cG Sl a oG fz s₁.heap
noncomputable def GY (cG : Cx K) (I Sl a : Addr) (oG : Obj) (fz : Led) (Sx : Nat → Heap → Prop) (ys : List Str) : Protocol := fun n s₀ v s kap =>
  ∃ j, j + n + 1 = ys.length ∧ (∃ t, v = .str (ys.getD j "") t) ∧ Since Sl s₀ s ∧ HI cG I Sl a oG fz Sx (j + 1) s.heap ∧ ∀ s'' : Shared, HI cG I Sl a oG fz Sx (j + 1) s''.heap → kap (.send .none) s''
end

section
variable {prog : Program} {w : World} {K : Frag} {cG : Cx K} {A : Around} {I Sl a : Addr} {oG : Obj} {fz : Led} {xs ys : List Str} {fp : List Addr} {P : Nat → Value → Prop} {Sx : Nat → Heap → Prop} {cenv : Env} {elt iter : Expr} {x : Str} {px pos : Pos} {scope : Scope}
noncomputable abbrev gLoop (elt iter : Expr) (x : Str) (px : Pos) (scope : Scope) (pos : Pos) (I : Addr) (cenv : Env) : Code := .compLoop (.GeneratorExp elt [⟨.Name x px, iter, [], 0⟩] scope pos) 0 (.ref I) .none cenv
noncomputable abbrev gStart (elt iter : Expr) (x : Str) (px : Pos) (scope : Scope) (pos : Pos) (I : Addr) (cenv : Env) : Code := .compStart (.GeneratorExp elt [⟨.Name x px, iter, [], 0⟩] scope pos) 0 (.ref I) .none cenv

theorem seg_loop (hh : A.handled = none) (O : ItG prog w I fz xs fp P Sx) (hy : ys.length = xs.length) (hloc : cenv.locals = cG.L) (hck : cenv.scope.kind = .function) (hco : cenv.scope.isCoroutine = false) (hx : cenv.kindOf x = some .local)
    (helt : ∀ i m mu (s : Shared) (t : Tok) (Q : Value → Shared → Prop), i < xs.length → Rel cG m mu fz s.heap → m x = some (.str (xs.getD i "") t) →
      (∀ v h' tk', Rel cG m mu fz h' → (∃ t, v = .str (ys.getD i "") t) → Q v { s with heap := h', toks := tk' }) →
      wpAny (model prog w) (A.over (gLoop elt iter x px scope pos I cenv) []) (eval elt cenv) Q NoE s) :
    ∀ (k j : Nat) (s₀ s : Shared), xs.length - j = k → j ≤ xs.length → HI cG I Sl a oG fz Sx j s.heap → Since Sl s₀ s →
      Seg (model prog w) A (fun n s₀ r s₁ => r = .ok .next ∧ GR cG Sl a oG fz n s₀ s₁) (GY cG I Sl a oG fz Sx ys) k s₀ (gLoop elt iter x px scope pos I cenv) ((model prog w).den (gLoop elt iter x px scope pos I cenv)) [] s := by
  have hh' : (A.over (gLoop elt iter x px scope pos I cenv) []).handled = none := hh
  intro k
  induction k with
  | zero =>
    intro j s₀ s hk hj hI hs
    have hin : j = xs.length := eq_sub hk hj
    subst hin
    obtain ⟨m, oI, oS, R, st⟩ := hI
    show Seg _ A _ _ _ s₀ _ ((compTurn (.GeneratorExp elt [⟨.Name x px, iter, [], 0⟩] scope pos) 0 (.ref I) .none cenv).onRaise (leaving cenv)) [] s
    rw [compTurn_gen, Sem.onRaise_eq_wrap]
    refine seg_bind_wrap (wpAny_standAt ?_)
    refine seg_bind_wrap ((O.W _ hh').done s _ _ st fun h' tk hk' => ?_)
    have R1 := R.popBut (h' := h') fun b y hb e => hk' b y (by simpa using hb) e
    refine seg_end (.ok .next) ⟨rfl, rfl, hs.step ?_, m, oS, R1⟩
    rw [R1.get (p := (Sl, oS)) (by simp), R.get (p := (Sl, oS)) (by simp)]
  | succ k ih =>
    intro j s₀ s hk hj hI hs
    have hlt : j < xs.length := lt_sub hk
    obtain ⟨m, oI, oS, R, st⟩ := hI
    show Seg _ A _ _ _ s₀ _ ((compTurn (.GeneratorExp elt [⟨.Name x px, iter, [], 0⟩] scope pos) 0 (.ref I) .none cenv).onRaise (leaving cenv)) [] s
    rw [compTurn_gen, Sem.onRaise_eq_wrap]
    refine seg_bind_wrap (wpAny_standAt ?_)
    refine seg_bind_wrap ((O.W _ hh').item j s _ _ hlt st fun v h₁ tk₁ hPv st₁ hk₁ => ?_)
    obtain ⟨o', ho'⟩ := O.ob _ _ st₁
    obtain ⟨t, rfl⟩ := O.dat j v hlt hPv
    have R1 := R.turn (h' := h₁) (fun b y hb e => hk₁ b y (by simpa using hb) e) ho'
    refine seg_bind_wrap (wpAny_of_eq (rfl : letOwnedTupleGo (.Name x px) (.ref I) _ = pure ()) ?_)
    obtain ⟨h₀, G, T, Fr0, N⟩ := R1.ex
    refine seg_bind_wrap (wpAny_assign_Name (wpAny_storeName_local hx (hloc ▸ Fr0.ns) (fun h₂ hn₂ hs₂ => ?_) (by rw [hck]; rfl)))
    rw [hloc] at hn₂ hs₂
    have R2 := R1.put hn₂ hs₂
    refine seg_bind_wrap ?_
    rw [List.forIn_nil]
    refine wpAny_pure ?_
    simp only [if_true]
    have hyo : ∀ v, yieldOut cenv v = yieldValue v := fun v => by simp only [yieldOut, hco, Bool.false_eq_true, if_false]
    simp only [hyo]
    rw [Sem.bind_eq_wrap', Sem.bind_eq_wrap', Sem.wrap_wrap, Sem.wrap_wrap]
    refine seg_wrap (wpAny_mono (helt j _ _ { s with heap := h₂, toks := tk₁ + 1 } t (fun v s₄ => ∃ h₄ tk₄, s₄ = { s with heap := h₄, toks := tk₄ } ∧ Rel cG _ _ fz h₄ ∧ ∃ t, v = .str (ys.getD j "") t) hlt R2 (by simp) fun v h₄ tk₄ R4 hv => ⟨h₄, tk₄, rfl, R4, hv⟩) (fun y s₄ h₄ => ?_) fun _ _ e => e.elim)
    obtain ⟨h₄, tk₄, rfl, R4, hv⟩ := h₄
    have eS : h₄.get? Sl = s.heap.get? Sl := by rw [R4.get (p := (Sl, oS)) (by simp), R.get (p := (Sl, oS)) (by simp)]
    have st₄ : Sx (j + 1) h₄ := by
      refine (O.W A hh).frame _ _ _ st₁ fun b hb o e => ?_
      rcases O.fpIn b hb with rfl | ⟨o1, h1⟩
      · rw [ho'] at e; cases e
        exact R4.get (p := (b, o')) (by simp)
      · rw [R1.get (p := (b, o1)) (List.mem_append_right _ h1)] at e; cases e
        exact R4.get (p := (b, o1)) (List.mem_append_right _ h1)
    have hI4 : HI cG I Sl a oG fz Sx (j + 1) h₄ := ⟨_, o', oS, R4, st₄⟩
    refine seg_at (seg_yield rfl rfl rfl ⟨j, by rw [hy]; exact add_sub' hk, hv, hs.step eS, hI4, fun s'' hI'' => ?_⟩)
    exact seg_again rfl (ih (j + 1) s'' s'' (suc_of hk) hlt hI'' (Since.refl _ _))

theorem seg_start (hh : A.handled = none) (O : ItG prog w I fz xs fp P Sx) (hy : ys.length = xs.length) (hloc : cenv.locals = cG.L) (hck : cenv.scope.kind = .function) (hco : cenv.scope.isCoroutine = false) (hx : cenv.kindOf x = some .local)
    (helt : ∀ i m mu (s : Shared) (t : Tok) (Q : Value → Shared → Prop), i < xs.length → Rel cG m mu fz s.heap → m x = some (.str (xs.getD i "") t) →
      (∀ v h' tk', Rel cG m mu fz h' → (∃ t, v = .str (ys.getD i "") t) → Q v { s with heap := h', toks := tk' }) →
      wpAny (model prog w) (A.over (gLoop elt iter x px scope pos I cenv) []) (eval elt cenv) Q NoE s)
    (s : Shared) (hI : HI cG I Sl a oG fz Sx 0 s.heap) :
      Seg (model prog w) A (fun n s₀ r s₁ => r = .ok .next ∧ GR cG Sl a oG fz n s₀ s₁) (GY cG I Sl a oG fz Sx ys) xs.length s (gStart elt iter x px scope pos I cenv) ((model prog w).den (gStart elt iter x px scope pos I cenv)) [] s := by
  have hh' : (A.over (gStart elt iter x px scope pos I cenv) []).handled = none := hh
  have loop := seg_loop (iter := iter) (px := px) (scope := scope) (pos := pos) hh O hy hloc hck hco hx helt xs.length 0 s s (Nat.sub_zero _) (Nat.zero_le _) hI (Since.refl _ _)
  obtain ⟨m, oI, oS, R, st⟩ := hI
  show Seg _ A _ _ _ s _ ((compStart (.GeneratorExp elt [⟨.Name x px, iter, [], 0⟩] scope pos) 0 (.ref I) .none cenv).onRaise (leaving cenv)) [] s
  unfold compStart
  rw [Sem.onRaise_eq_wrap]
  show Seg _ A _ _ _ s _ ((ask >>= _).wrap _ _ _ _) [] s
  refine seg_bind_wrap (wpAny_askSetting ?_)
  split
  · exact seg_again rfl loop
  · first
      | exact seg_bind_wrap (wpAny_rule (seg_bind_wrap (wpAny_standAt (seg_bind_wrap ((O.W _ hh').self 0 s _ _ st (seg_again rfl loop))))))
      | (refine seg_bind_wrap (wpAny_rule ?_); show Seg _ A _ _ _ s _ ((standAt iter.pos >>= _).wrap _ _ _ _) [] s; exact seg_bind_wrap (wpAny_standAt (seg_bind_wrap ((O.W _ hh').self 0 s _ _ st (seg_again rfl loop)))))
end
end Mine

end
section
open PySem PySem.W PyProof.Rows PySem.Calls
set_option Elab.async false
set_option maxRecDepth 100000
set_option linter.unusedVariables false
namespace Mine
theorem Full.turnP {K : Frag} {c : Cx K} {env : Env} {S : St} {P : Addr} {oP oP' : Obj} {jk : Led} {m : Str → Option Value} {mu fz fz' : Led} {h h' : Heap} (F0 : Full c env S ((P, oP) :: jk) m mu fz h) (sub : Sub fz fz') (R' : Rel c m (upd P oP' mu) fz' h') : Full c env S ((P, oP') :: jk) m (upd P oP' mu) fz' h' := by
  have hPm := F0.J.mem (P, oP) List.mem_cons_self
  obtain ⟨n1, n2⟩ := List.pairwise_cons.mp F0.J.nd
  refine F0.move sub R' (fun x a ob hx hm => mem_upd hm fun e => F0.J.cel (P, oP) List.mem_cons_self x a hx e.symm) (fun x ds a ob hx q hm => mem_upd hm fun e => F0.J.own (P, oP) List.mem_cons_self x ds a hx q e.symm) fun up dn =>
    ⟨fun p hp => ?_, fun p hp x a hx => ?_, fun p hp x ds a hx q => ?_, List.pairwise_cons.mpr ⟨n1, n2⟩⟩
  · rcases List.mem_cons.mp hp with e | e
    · rw [e]; exact mem_upd_self hPm
    · exact mem_upd (F0.J.mem p (List.mem_cons_of_mem _ e)) fun q => n1 p e q.symm
  · rcases List.mem_cons.mp hp with e | e
    · rw [e]; exact F0.J.cel (P, oP) List.mem_cons_self x a hx
    · exact F0.J.cel p (List.mem_cons_of_mem _ e) x a hx
  · rcases List.mem_cons.mp hp with e | e
    · rw [e]; exact F0.J.own (P, oP) List.mem_cons_self x ds a hx (dn _ _ _ hx q)
    · exact F0.J.own p (List.mem_cons_of_mem _ e) x ds a hx (dn _ _ _ hx q)

section
variable {prog : Program} {w : World} {K : Frag} {c : Cx K}
theorem call_g {f : Addr} {vs : List Value} {ds : List Dat} {r : Dat} {d u dp un : Nat} {gd : Option (List Code)} {env : Env} {m : Str → Option Value} {mu fz : Led} {s : Shared} {Q : Value → Shared → Prop} {E : Value → Shared → Prop} (D : DFunG prog w K f d u ds r)
    (hfr : env.frame = some c.L) (hke : env.scope.kind = .function) (hd : dp + d < recursionLimit) (hu : un + u < cLine) (R : Rel c m mu fz s.heap) (Dv : DatAll fz vs ds)
    (k : ∀ v fz' h' tk', Sub fz fz' → Rel c m mu fz' h' → DatIn fz' v r → Q v { s with heap := h', toks := tk' }) :
    wpAny (model prog w) { handled := none, depth := dp, frames := some (env :: c.outer), guards := gd, units := un } (PySem.call (.ref f) vs) Q E s := by
  obtain ⟨h₀, G, T, F, N⟩ := R.ex
  refine wpAny_call (D vs fz Dv c.p c.loose c.mean c.mg c.mb dp un gd env c.outer c.A₀ c.base h₀ c.L m s _ G F (fun p hp => N p (List.mem_append_right _ hp)) hfr hke hd hu fun v g' h' tk' news' G' T' F' N' O' sub Dr => ?_)
  have nL : ∀ p ∈ mu, p.1 ≠ c.L := fun p hp => (N p (List.mem_append_left _ hp)).2.1
  have nf : ∀ p ∈ mu, p.1 ∉ fz.map (·.1) := fun p hp q => by
    obtain ⟨r, hr, e⟩ := List.mem_map.mp q
    exact R.off p hp r hr e.symm
  have no : ∀ p ∈ mu, p.1 ∉ fsOf c.outer := fun p hp q => by
    obtain ⟨o, es, n, ho, _⟩ := G.D p.1 q
    have := (N p (List.mem_append_left _ hp)).2.2
    rw [ho] at this; cases this
  have kp : ∀ p ∈ mu, h'.get? p.1 = some p.2 := fun p hp => O'.keep p.1 p.2 (N p (List.mem_append_left _ hp)).1 (nf p hp) (nL p hp) (no p hp)
  refine k v news' h' tk' sub ⟨⟨g', G', T.trans T', F', fun p hp => ?_⟩, fun p hp q hq e => ?_, R.nd⟩ Dr
  · rcases List.mem_append.mp hp with x | x
    · exact ⟨kp p x, nL p x, T'.none_ _ (N p (List.mem_append_left _ x)).2.2⟩
    · exact N' p x
  · rcases O'.fresh q hq with x | x
    · exact nf p hp (e ▸ x)
    · rw [← e, (N p (List.mem_append_left _ hp)).1] at x; cases x

theorem elt_call {A' : Around} {dp un d u : Nat} {gd : Option (List Code)} {cenv : Env} {fn x X Y : Str} {fa : Addr} {np p1 ep : Pos} {t : Tok} {m : Str → Option Value} {mu fz : Led} {s : Shared} {Q : Value → Shared → Prop}
    (hA : A' = { handled := none, depth := dp, frames := some (cenv :: c.outer), guards := gd, units := un }) (hloc : cenv.locals = c.L) (hfr : cenv.frame = some c.L) (hke : cenv.scope.kind = .function) (hgl : cenv.globals = mainGlobals)
    (hkx : cenv.kindOf x = some .local) (hkf : cenv.kindOf fn = some .globalImplicit) (hg : nsIn K mainGlobals fn = some (some (.ref fa))) (hf : isDef K fa = true) (D : DFunG prog w K fa d u [.str X] (.str Y))
    (hd : dp + d < recursionLimit) (hu : un + u < cLine) (R : Rel c m mu fz s.heap) (hm : m x = some (.str X t)) (hb : (fn == ("__debug__" : Str)) = false) (hb2 : (x == ("__debug__" : Str)) = false)
    (k : ∀ v h' tk', Rel c m mu fz h' → (∃ t, v = .str Y t) → Q v { s with heap := h', toks := tk' }) :
    wpAny (model prog w) A' (eval (.Call (.Name fn np) [.Name x p1] [] ep) cenv) Q NoE s := by
  subst hA
  obtain ⟨h₀, G, T, F, N⟩ := id R.ex
  refine wpAny_Call_Name_kw (Name_function_global hke hkf (loadGlobal_global (by rw [hgl]; exact G.T.g.keeps F.keep) (mg_of G.X G.T.g hg) ?_) hb)
  obtain ⟨o, fd, ho, hdt⟩ := isDef_get R.in_ hf
  refine callWith_function_kw (o := o) (fd := fd) ?_
  refine evalArgs_plain ?_
  show wpAny _ _ (spliced ((false, eval (.Name x p1) cenv) :: [])) _ _ _
  refine spliced_cons (wpAny_Name (wpAny_loadName_local hke hkx (hloc ▸ F.ns) hm (spliced_nil ?_)) hb2)
  refine ⟨⟨ho, hdt⟩, call_g D hfr hke hd hu R (.cons (.str _ _) .nil) fun v fz' h' tk' s' R' D' => ?_⟩
  cases D'
  exact k _ h' tk' (R'.less s') ⟨_, rfl⟩
end
end Mine

end
section
open PySem PySem.W PyProof.Rows PySem.Calls
set_option Elab.async false
set_option maxRecDepth 100000
set_option linter.unusedVariables false
namespace Mine
noncomputable def CodeAt (K : Frag) (cc P : Addr) : Prop := ∃ o vs file tf flags tg inF text tt, K.lookup cc = some o ∧ o.cls = .type "code" ∧ o.data = .fields vs ∧ vs.getD 11 .none = .ref P ∧ vs.getD 18 .none = .str file tf ∧
    vs.getD 7 .none = .int flags tg ∧ vs.getD 9 .none = .bool inF ∧ vs.getD 10 .none = .int text tt ∧ cc ≠ P

theorem genexpr_code {M : Model} {A : Around} {E : Value → Shared → Prop} {s : Shared} {env : Env} {cc P : Addr} {ps : Array Value} {pos : Pos} {qualname : Str} {scope : Scope} {Q : Value → Shared → Prop} (hc : env.code = .ref cc) (hok : s.heap.IsCode cc P ps) (htr : TriplesOk ps.toList) (htab : s.heap.TableAt cc P ps)
    (hQ : ∀ code h' tk ps', Heap.ExtBut P s.heap h' → TriplesOk ps'.toList → h'.get? P = some { cls := .none, data := .fields ps' } → Q code { s with heap := h', toks := tk }) : wpAny M A (genexprCode env pos qualname scope) Q E s := by
  cases e : codeAmong pos ps.toList with
  | some c' => exact wpAny_genexprCode_hit hc hok e (hQ _ s.heap s.toks ps (Heap.ExtBut.refl _ _) htr htab.2)
  | none =>
    refine wpAny_genexprCodeX hc hok htab e fun c' h' tk x _ _ hk _ tab _ => hQ _ h' tk _ x ?_ tab.2
    have hl : (ps ++ #[rawInt pos.line, rawInt pos.col, Value.ref c']).toList = ps.toList ++ [rawInt pos.line, rawInt pos.col, .ref c'] := by simp
    rw [hl]
    exact TriplesOk_snoc _ _ _ _ htr
inductive GJ (prog : Program) (w : World) {K : Frag} (cG : Cx K) (A3 : Around) (s5 : Shared) (g : Nat) (I Sl a : Addr) (oG : Obj) (fz : Led) (Sx : Nat → Heap → Prop) (ys : List Str) (n j : Nat) (acc : List Value) (s' : Shared) : Prop
  | mk (h : Heap) (tk : Nat) (gs : GenState) (Gn : Array GenState) : s' = { s5 with heap := h, toks := tk, gens := Gn } → AllBare Gn → Gn[g]? = some gs →
    (∀ s'' : Shared, HI cG I Sl a oG fz Sx j s''.heap → gs.Goes (model prog w) A3 (fun n s₀ r s₁ => r = .ok .next ∧ GR cG Sl a oG fz n s₀ s₁) (GY cG I Sl a oG fz Sx ys) (n - j) (.send .none) s'') →
    (∃ m oI cS, Rel cG m [(I, oI), (Sl, listO acc.toArray cS), (a, oG)] fz h ∧ Sx j h) → StrsAre acc (ys.take j) → GJ prog w cG A3 s5 g I Sl a oG fz Sx ys n j acc s'

section
variable {prog : Program} {w : World} {K : Frag} {cG : Cx K} {A2 : Around} {s5 : Shared} {g : Nat} {I Sl a : Addr} {oG : Obj} {fz : Led} {Sx : Nat → Heap → Prop} {ys : List Str}
theorem bare_set {Gn : Array GenState} {x : GenState} {s : Shared} (h : AllBare s.gens) (hb : x.bare = true) : AllBare (s.setGen g x).gens := by
  intro y hy
  show y.bare = true
  have hy' : y ∈ s.gens.setIfInBounds g x := hy
  rcases Array.mem_or_eq_of_mem_setIfInBounds hy' with h1 | h1
  · exact h y h1
  · rw [h1]; exact hb

theorem gj_step (hh : A2.handled = none) (hroom : A2.depth < recursionLimit) (hG : oG.cls = .type "generator" ∧ (∃ nm qn, oG.data = .fields #[.int g 0, nm, qn]) ∧ oG.slots = #[]) (Sne : Sl ≠ I) {j : Nat} {acc : List Value} {s' : Shared} (hj : j < ys.length)
    (fr : ∀ j h h', Sx j h → (∀ o, h.get? I = some o → h'.get? I = some o) → (∀ p ∈ fz, h'.get? p.1 = some p.2) → Sx j h')
    (hJ : GJ prog w cG A2.in1 s5 g I Sl a oG fz Sx ys ys.length j acc s') :
    wpAny (model prog w) A2 (pyNext (.ref a)) (fun r s'' => ∃ v c, r = some v ∧ s''.heap.get? Sl = some (listO acc.toArray c) ∧
      ∀ h c', h.get? Sl = some (listO (acc ++ [v]).toArray c') → (∀ b o, b ≠ Sl → s''.heap.get? b = some o → h.get? b = some o) → GJ prog w cG A2.in1 s5 g I Sl a oG fz Sx ys ys.length (j + 1) (acc ++ [v]) { s'' with heap := h }) NoE s' := by
  obtain ⟨h, tk, gs, Gn, rfl, hA, hgs, hgo, ⟨m, oI, cS, R, st⟩, hacc⟩ := hJ
  obtain ⟨g1, ⟨nm, qn, g2⟩, g3⟩ := hG
  have hgen : h.IsGen a g := ⟨oG, nm, qn, R.get (p := (a, oG)) (by simp), g1, g2, g3⟩
  obtain ⟨k, hk⟩ : ∃ k, ys.length - j = k + 1 := pos_of hj
  have hI : HI cG I Sl a oG fz Sx j h := ⟨m, oI, _, R, st⟩
  rw [hk] at hgo
  refine wpAny_pyNext_genexpQ (s := { s5 with heap := h, toks := tk, gens := Gn }) (P := GR cG Sl a oG fz) hh R.noLimit hroom hgen hgs (hgo _ hI) (fun v s₁ gs' hb hv => ?_) (fun s₁ hp h' hk' => ?_)
  · obtain ⟨j', hj', hv', ⟨h₁, tk₁, rfl, eS⟩, ⟨m1, oI1, oS1, R1, st1⟩, kap⟩ := hv
    have e : j' = j := eq_of_sub hj' hj hk
    subst e
    have hS1 : h₁.get? Sl = some (listO acc.toArray cS) := eS.trans (R.get (p := (Sl, _)) (by simp))
    refine ⟨v, cS, rfl, hS1, fun h2 c' hS2 ho2 => ?_⟩
    have e1 : oS1 = listO acc.toArray cS := by
      have := R1.get (p := (Sl, oS1)) (by simp)
      rw [hS1] at this; exact (Option.some.inj this).symm
    subst e1
    have R2 : Rel cG m1 [(I, oI1), (Sl, listO (acc ++ [v]).toArray c'), (a, oG)] fz h2 := Rel.turnIn [(I, oI1)] R1 (fun b x hb e => ho2 b x hb e) hS2
    obtain ⟨t, rfl⟩ := hv'
    refine ⟨h2, tk₁, gs', _, rfl, bare_set (g := g) (bare_set (s := { s5 with heap := h, toks := tk, gens := Gn }) (g := g) (Gn := Gn) (x := .running) hA rfl) (Gn := Gn) hb, setGen_self (gs := .running) (setGen_self hgs), fun s'' hI'' => ?_, ⟨m1, oI1, c', R2, ?_⟩, ?_⟩
    · have e2 : ys.length - (j' + 1) = k := suc_of hk
      rw [e2]
      exact kap s'' hI''
    · refine fr _ _ _ st1 (fun o e => ho2 I o (Ne.symm Sne) e) fun p hp => ?_
      exact R2.get (List.mem_append_right _ hp)
    · have e3 : ys.take (j' + 1) = ys.take j' ++ [ys.getD j' ""] := by
        rw [List.take_succ, List.getElem?_eq_getElem (by walk_at "om")]; simp [List.getD_eq_getElem?_getD, List.getElem?_eq_getElem hj]
      rw [e3]
      exact StrsAre.append' hacc (.cons _ _ .nil)
  · exact absurd hp.1 (Nat.succ_ne_zero k)

theorem gj_fin (hh : A2.handled = none) (hroom : A2.depth < recursionLimit) (hG : oG.cls = .type "generator" ∧ (∃ nm qn, oG.data = .fields #[.int g 0, nm, qn]) ∧ oG.slots = #[]) {acc : List Value} {s' : Shared} {Q : List Value → Shared → Prop}
    (hJ : GJ prog w cG A2.in1 s5 g I Sl a oG fz Sx ys ys.length ys.length acc s')
    (k : ∀ h tk Gn, AllBare Gn → HE cG Sl a oG fz h → StrsAre acc ys → Q acc { s5 with heap := h, toks := tk, gens := Gn }) :
    wpAny (model prog w) A2 (pyNext (.ref a)) (fun r s'' => r = none ∧ ∃ c, s''.heap.get? Sl = some (listO acc.toArray c) ∧ Q acc s'') NoE s' := by
  obtain ⟨h, tk, gs, Gn, rfl, hA, hgs, hgo, ⟨m, oI, cS, R, st⟩, hacc⟩ := hJ
  obtain ⟨g1, ⟨nm, qn, g2⟩, g3⟩ := hG
  have hgen : h.IsGen a g := ⟨oG, nm, qn, R.get (p := (a, oG)) (by simp), g1, g2, g3⟩
  have hI : HI cG I Sl a oG fz Sx ys.length h := ⟨m, oI, _, R, st⟩
  rw [Nat.sub_self] at hgo
  rw [List.take_length] at hacc
  refine wpAny_pyNext_genexpQ (s := { s5 with heap := h, toks := tk, gens := Gn }) (P := GR cG Sl a oG fz) hh R.noLimit hroom hgen hgs (hgo _ hI) (fun v s₁ gs' hb hv => ?_) (fun s₁ hp h' hk' => ?_)
  · obtain ⟨j', hj', hv', hsn, hI1, kap⟩ := hv
    exact False.elim (kap s₁ hI1)
  · obtain ⟨_, ⟨h₁, tk₁, rfl, eS⟩, m1, oS1, R1⟩ := hp
    have hS1 : h₁.get? Sl = some (listO acc.toArray cS) := eS.trans (R.get (p := (Sl, _)) (by simp))
    refine ⟨rfl, cS, hk' _ _ hS1, ?_⟩
    exact k h' tk₁ _ (bare_set (g := g) (bare_set (s := { s5 with heap := h, toks := tk, gens := Gn }) (g := g) (Gn := Gn) (x := .running) hA rfl) (Gn := Gn) rfl) ⟨m1, oS1, R1.keeps hk'⟩ hacc
end
end Mine

end
section
open PySem PySem.W PyProof.Rows PySem.Calls
set_option Elab.async false
set_option maxRecDepth 100000
set_option linter.unusedVariables false
namespace Mine
theorem wp_q {α : Type} {M : Model} {A : Around} {E : Value → Shared → Prop} {t : Sem α} {Q : α → Shared → Prop} {s : Shared} (h : ∀ Q' : α → Shared → Prop, (∀ v s', Q v s' → Q' v s') → wpAny M A t Q' E s) : wpAny M A t Q E s := h Q fun _ _ h => h
section
variable {prog : Program} {w : World} {K : Frag} {c : Cx K} {P : Addr} {env : Env} {S : St}

theorem upd_cons_ne {I P : Addr} {o o' : Obj} {mu : Led} (h : I ≠ P) : upd P o' ((I, o) :: mu) = (I, o) :: upd P o' mu := by
  unfold upd
  rw [List.map_cons, if_neg h]

theorem EvP.joinGen {y x fn sep : Str} {py px p0 ap cp gp np ep p1 : Pos} {k0 : Nat} {xs ys : List Str} {scope : Scope} {fa cc : Addr} {d u : Nat}
    (hy : S.lookup y = some (.val (.list (strsD xs)))) (hyd : (y == ("__debug__" : Str)) = false) (hxd : (x == ("__debug__" : Str)) = false) (hfd : (fn == ("__debug__" : Str)) = false)
    (hcode : env.code = .ref cc) (hcc : CodeAt K cc P) (hco : scope.isCoroutine = false) (hclos : closureFor scope env = pure []) (hcell : ∀ y ∈ scope.names, y.2 ≠ .cell) (h0 : scope.names.lookup (".0" : Str) = some NameKind.local)
    (hx : scope.names.lookup x = some .local) (hkind : scope.kind = .function) (hfn : scope.names.lookup fn = some .globalImplicit)
    (hg : nsIn K mainGlobals fn = some (some (.ref fa))) (hf : isDef K fa = true)
    (hlen : ys.length = xs.length) (D : ∀ i, i < xs.length → DFunG prog w K fa d u [.str (xs.getD i "")] (.str (ys.getD i "")))
    (hd : c.dp + 2 + d < recursionLimit) (hu : c.un + 20 + u < cLine) (hok : JoinOk sep ys = true) (hz : xs.length ≤ 2 ^ 20)
    (hline : autoParam ((ap.endLine == cp.line) = true) Mine.sx0) (hbase : autoParam (attributeBase (.Constant (.str sep) k0 p0) "join" env (eval (.Constant (.str sep) k0 p0) env) = eval (.Constant (.str sep) k0 p0) env) Mine.sx0)
    (htrees : autoParam (backTo cp (starEach [.GeneratorExp (.Call (.Name fn np) [.Name x p1] [] ep) [⟨.Name x px, .Name y py, [], 0⟩] scope gp] env) = [(false, eval (.GeneratorExp (.Call (.Name fn np) [.Name x p1] [] ep) [⟨.Name x px, .Name y py, [], 0⟩] scope gp) env)]) Mine.sx0)
    (hs : autoParam (∀ z, genFold (.Name y py) env z = pure z) Mine.sx1) :
    EvP prog w c P env S (.Call (.Attribute (.Constant (.str sep) k0 p0) "join" ap) [.GeneratorExp (.Call (.Name fn np) [.Name x p1] [] ep) [⟨.Name x px, .Name y py, [], 0⟩] scope gp] [] cp) (.str (PySem.Txt.join sep ys)) := by
  intro jk m mu fz s Q oP hP hA F k
  refine wpAny_Call_method1_late hbase hline htrees (Constant_str ?_)
  refine ⟨"str", "str.join", PySem.F.plainAttrs_str, PySem.F.slot_str_join, PySem.F.type_str_join, typeIs_str _ _ _, (fun _ e => nomatch e), ?_⟩
  refine callWith_builtin rfl (evalArgs_plain (spliced_cons (wp_q fun Q' hQ => ?_)))
  obtain ⟨v, av, Dv⟩ := F.X.val y _ hy
  cases Dv with
  | @list l vs n _ hm r =>
  have hPm := F.J.mem (P, oP) List.mem_cons_self
  refine wpAny_GeneratorExp_make hco hclos hcell h0 hkind (by show c.dp < _; walk_at "om") (wpAny_Name (load_at (s := { s with toks := s.toks + 1 }) F.R F.X.kind av ?_) hyd) hs
  have hl := isList_at (F.R.get (List.mem_append_right _ hm))
  refine wpAny_pyIter_list hl ?_
  have R2 := F.R.pushMu { cls := .type "list_iterator", data := .fields #[.ref l, .int 0 0] }
  have hIP : s.heap.objs.size ≠ P := Nat.ne_of_gt (F.R.lt (List.mem_append_left _ hPm))
  generalize hIe : s.heap.objs.size = I at *
  refine ⟨R2.noLimit, ?_⟩
  obtain ⟨ps, hps1, hps2⟩ := hP
  obtain ⟨co, cvs, file, tf, flags, tg, inF, text, tt, q1, qc, q2, q3, q4, q5, q6, q7, q8⟩ := hcc
  have hgP := R2.get (p := (P, oP)) (List.mem_append_left _ (List.mem_cons_of_mem _ hPm))
  have q3' : cvs[11]? = some (.ref P) := by
    rw [Array.getD_eq_getD_getElem?] at q3
    cases e : cvs[11]? with
    | none => rw [e] at q3; cases q3
    | some v => rw [e] at q3; exact congrArg some q3
  refine genexpr_code hcode (P := P) (ps := ps) ⟨co, cvs, file, tf, flags, tg, inF, text, tt, oP, R2.in_ _ _ q1, q2, q3, q4, q5, q6, q7, hgP, by rw [hps1], hps2, q8⟩ hps2 ⟨⟨co, cvs, R2.in_ _ _ q1, qc, q2, q3'⟩, by rw [← hps1]; exact hgP⟩ fun code h3 tk3 ps' hext z3 z1 => ?_
  obtain ⟨oP', hoP'⟩ : ∃ oP' : Obj, oP' = { cls := .none, data := .fields ps' } := ⟨_, rfl⟩
  rw [← hoP'] at z1
  have hP' : PSt oP' := ⟨ps', hoP', z3⟩
  have R3 := R2.upd (List.mem_cons_of_mem _ hPm) (fun b z hb e => hext b z hb e) z1
  rw [upd_cons_ne hIP] at R3
  obtain ⟨h₀, G, T, Fr0, N⟩ := id R3.ex
  obtain ⟨bm, obm, M⟩ := G.T.bm
  refine wpAny_builtinsFor (m := c.mg) (bm := bm) (o := obm) (by rw [F.X.glob]; exact M.ns.keeps Fr0.keep) M.name M.ne (Fr0.keep _ _ M.obj) M.cls M.dict M.data ?_
  intro h4 hn4 hs4
  refine hQ _ _ (spliced_nil ?_)
  have hn4 : h4.Ns h3.objs.size (fun y => if y = ".0" then some (.ref I) else none) := hn4
  have hs4 : Heap.SameBut h3.objs.size (h3.push { cls := .type "frame", data := .dict #[] }) h4 := hs4
  have sz4 : h4.objs.size = h3.objs.size + 1 := by rw [hs4.1, Heap.size_push]
  have keep4 : ∀ b o, h3.get? b = some o → h4.get? b = some o := fun b o e => hs4.extBut b o (Nat.ne_of_lt (Heap.lt_size e)) (Heap.get?_push_of_some _ e)
  obtain ⟨oI, hoI⟩ : ∃ oI : Obj, oI = { cls := .type "list_iterator", data := .fields #[.ref l, .int 0 0] } := ⟨_, rfl⟩
  rw [← hoI] at R3 N
  obtain ⟨fzG, hfG⟩ : ∃ fzG : Led, fzG = upd P oP' mu ++ fz := ⟨_, rfl⟩
  have N' : News h₀ c.L h3 ((I, oI) :: fzG) := by rw [hfG]; exact N
  obtain ⟨FG, G1⟩ := enter_X (s := { s with heap := h3 }) (env := envX c.cn c.cs c.L c.a c.ccd c.cl) (A := c.A) G Fr0 N' rfl rfl c.hcs
  let cG : Cx K := { p := c.p, loose := c.loose, mean := c.mean, mg := c.mg, mb := c.mb, dp := 0, un := 0, gd := none, cn := "", cs := scope, a := 0, ccd := .none, cl := [], outer := envX c.cn c.cs c.L c.a c.ccd c.cl :: c.outer, A₀ := c.A, base := c.base, ge := hideAll h3 (((I, oI) :: fzG).map (·.1)), L := h3.objs.size, hcs := hkind }
  have hlI : l ≠ I := by rw [← hIe]; exact Nat.ne_of_lt (F.R.lt (List.mem_append_right _ hm))
  have ez : vs.toArray.size = xs.length := by rw [List.size_toArray, r.length]; simp [strsD]
  have sA : StrsAre vs xs := strsAre_of r
  have subG : Sub fz fzG := fun p hp => by rw [hfG]; exact List.mem_append_right _ hp
  have O : ItG prog w I fzG xs [I, l] (fun i v => vs.toArray[i]? = some v) (fun i h => h.IsListIter I l i ∧ h.IsList l vs.toArray) := by
    refine ⟨fun A' hh => ?_, fun b hb => ?_, fun i v hi hv => ?_, fun i h st => ?_⟩
    · have W := Walks.list (prog := prog) (w := w) (A := A') hh I l hlI vs.toArray
      rw [ez] at W
      exact W
    · rcases List.mem_cons.mp hb with z | z
      · exact .inl z
      · rw [List.mem_singleton.mp z]; exact .inr ⟨_, subG _ hm⟩
    · have hv' : vs[i]? = some v := by simpa using hv
      obtain ⟨y', t, e1, e2⟩ := StrsAre.item sA i v hv'
      exact ⟨t, by rw [e1]; simp [List.getD_eq_getElem?_getD, e2]⟩
    · obtain ⟨⟨o, ho, _⟩, _⟩ := st
      exact ⟨o, ho⟩
  have ltI : I < h3.objs.size := R3.lt (p := (I, oI)) (List.mem_append_left _ List.mem_cons_self)
  have ltG : ∀ p ∈ fzG, p.1 < h3.objs.size := fun p hp => by rw [hfG] at hp; exact R3.lt (p := p) (List.mem_append.mpr ((List.mem_append.mp hp).imp (List.mem_cons_of_mem _) id))
  have neI : ∀ p ∈ fzG, I ≠ p.1 := fun p hp => by
    rw [hfG] at hp
    rcases List.mem_append.mp hp with z | z
    · exact (List.pairwise_cons.mp R3.nd).1 p z
    · exact R3.off (I, oI) List.mem_cons_self p z
  obtain ⟨oG, hoG⟩ : ∃ oG : Obj, oG = { cls := .type "generator", data := .fields #[.int s.gens.size 0, .str "<genexpr>" (tk3 + 1), .str (env.qual ++ "<genexpr>") (tk3 + 1 + 1)] } := ⟨_, rfl⟩
  obtain ⟨cenv, hcenv⟩ : ∃ cenv : Env, cenv = genEnv scope [] h3.objs.size code builtinsNs env := ⟨_, rfl⟩
  obtain ⟨s5, hs5⟩ : ∃ s5 : Shared, s5 = { s with heap := h4.push oG, toks := tk3 + 1 + 1 + 1, gens := s.gens.push (.fresh (gStart (.Call (.Name fn np) [.Name x p1] [] ep) (.Name y py) x px scope gp I cenv)) } := ⟨_, rfl⟩
  suffices wpAny (model prog w) c.A (PySem.call (.builtin "str.join") [.str sep s.toks, .ref h4.objs.size]) Q NoE s5 by
    rw [hs5, hoG, hcenv] at this
    exact this
  have e5 : s5.heap = h4.push oG := by rw [hs5]
  have sz5 : s5.heap.objs.size = h3.objs.size + 2 := by rw [e5, Heap.size_push, sz4]
  have keep5 : ∀ b o, h3.get? b = some o → s5.heap.get? b = some o := fun b o e => by rw [e5]; exact Heap.get?_push_of_some _ (keep4 b o e)
  have getG : s5.heap.get? h4.objs.size = some oG := by rw [e5]; exact Heap.get?_push_size _ (by rw [hoG]; rfl)
  have hGen : oG.cls = .type "generator" ∧ (∃ nm qn, oG.data = .fields #[.int s.gens.size 0, nm, qn]) ∧ oG.slots = #[] := by rw [hoG]; exact ⟨rfl, ⟨_, _, rfl⟩, rfl⟩
  have fr : ∀ (j : Nat) (h h' : Heap), (h.IsListIter I l j ∧ h.IsList l vs.toArray) → (∀ o, h.get? I = some o → h'.get? I = some o) → (∀ p ∈ fzG, h'.get? p.1 = some p.2) → (h'.IsListIter I l j ∧ h'.IsList l vs.toArray) := by
    intro j h h' st k1 k2
    exact ⟨st.1.at k1, isList_at (k2 _ (subG _ hm))⟩
  have neS : s5.heap.objs.size ≠ I := Nat.ne_of_gt (by rw [sz5]; exact Nat.lt_trans ltI (by walk_at "om"))
  have hok2 : ys.length ≤ sizeLine := by rw [hlen, sizeLine_eq]; walk_at "om"
  refine join_J (I := h4.objs.size) (g := s.gens.size) (n := ys.length) (ss := ys) (GJ prog w cG c.A.in1.in1.in1 s5 s.gens.size I s5.heap.objs.size h4.objs.size oG fzG (fun i h => h.IsListIter I l i ∧ h.IsList l vs.toArray) ys ys.length)
    ⟨oG, hGen.2.1.choose, hGen.2.1.choose_spec.choose, getG, hGen.1, hGen.2.1.choose_spec.choose_spec, hGen.2.2⟩ hok2 hok (fun h cS hk hS => ?_) (fun j acc s' hj _ hJ => gj_step (A2 := c.A.in1.in1) rfl (by show c.dp < _; walk_at "om") hGen neS hj fr hJ) (fun acc s' _ hJ => gj_fin (A2 := c.A.in1.in1) (Q := fun acc s'' => StrsAre acc ys ∧ ∀ t' k, Q (.str (Txt.join sep ys) t') { s'' with toks := k }) rfl (by show c.dp < _; walk_at "om") hGen hJ fun h tk Gn hA' hE sA' => ?_)
  · have ns4 : h.Ns h3.objs.size (fun y => if y = ".0" then some (.ref I) else none) := hn4.keeps fun b o e => hk b o (by rw [e5]; exact Heap.get?_push_of_some _ e)
    have getG' := hk _ _ getG
    have keepH : ∀ b o, h3.get? b = some o → h.get? b = some o := fun b o e => hk b o (keep5 b o e)
    have RG : Rel cG (fun y => if y = ".0" then some (.ref I) else none) [(I, oI), (s5.heap.objs.size, listO ([] : List Value).toArray cS), (h4.objs.size, oG)] fzG h := by
      have hin : ∀ p ∈ (I, oI) :: fzG, h.get? p.1 = some p.2 ∧ p.1 ≠ h3.objs.size ∧ (hideAll h3 (((I, oI) :: fzG).map (·.1))).get? p.1 = none := fun p hp =>
        ⟨keepH _ _ (N' p hp).1, Nat.ne_of_lt (Heap.lt_size (N' p hp).1), hideAll_none _ (List.mem_map_of_mem hp)⟩
      have hout : ∀ b, h3.objs.size ≤ b → (hideAll h3 (((I, oI) :: fzG).map (·.1))).get? b = none := fun b hb => by
        cases q : (hideAll h3 (((I, oI) :: fzG).map (·.1))).get? b with
        | none => rfl
        | some o => exact absurd (Heap.lt_size (of_hideAll _ q)) (Nat.not_lt.mpr hb)
      refine ⟨⟨_, G1, KtsTurn.refl, ⟨ns4, fun b o e => keepH b o (of_hideAll _ e), Nat.le_of_eq (hideAll_size _ _)⟩, fun p hp => ?_⟩, fun p hp q hq => ?_, ?_⟩
      · simp only [List.cons_append, List.nil_append, List.mem_cons] at hp
        rcases hp with z | z | z | z
        · rw [z]; exact hin _ List.mem_cons_self
        · rw [z]; exact ⟨hS, by show s5.heap.objs.size ≠ h3.objs.size; rw [sz5]; walk_at "om", hout _ (by show h3.objs.size ≤ s5.heap.objs.size; rw [sz5]; walk_at "om")⟩
        · rw [z]; exact ⟨getG', by show h4.objs.size ≠ h3.objs.size; rw [sz4]; walk_at "om", hout _ (by show h3.objs.size ≤ h4.objs.size; rw [sz4]; walk_at "om")⟩
        · exact hin _ (List.mem_cons_of_mem _ z)
      · have := ltG q hq
        simp only [List.mem_cons, List.not_mem_nil, or_false] at hp
        rcases hp with z | z | z
        · rw [z]; exact neI q hq
        · rw [z]; exact Nat.ne_of_gt (by show q.1 < s5.heap.objs.size; rw [sz5]; exact Nat.lt_add_right 2 this)
        · rw [z]; exact Nat.ne_of_gt (by show q.1 < h4.objs.size; rw [sz4]; exact Nat.lt_add_right 1 this)
      · refine List.pairwise_cons.mpr ⟨fun q hq => ?_, List.pairwise_cons.mpr ⟨fun q hq => ?_, List.pairwise_singleton _ _⟩⟩
        · simp only [List.mem_cons, List.not_mem_nil, or_false] at hq
          rcases hq with z | z
          · rw [z]; exact Ne.symm neS
          · rw [z]; exact Nat.ne_of_lt (by show I < h4.objs.size; rw [sz4]; walk_at "om")
        · rw [List.mem_singleton.mp hq]; exact Nat.ne_of_gt (by show h4.objs.size < s5.heap.objs.size; rw [sz5, sz4]; walk_at "om")
    have st0 : h.IsListIter I l 0 ∧ h.IsList l vs.toArray := by
      refine ⟨⟨oI, RG.get (p := (I, oI)) (by simp), ?_, ?_⟩, isList_at (RG.get (p := (l, _)) (List.mem_append_right _ (subG _ hm)))⟩
      · rw [hoI]
      · rw [hoI]; rfl
    refine ⟨h, s5.toks, .fresh (gStart (.Call (.Name fn np) [.Name x p1] [] ep) (.Name y py) x px scope gp I cenv), s5.gens, rfl, ?_, ?_, fun s'' hI => ⟨rfl, ?_⟩, ⟨_, oI, cS, RG, st0⟩, ?_⟩
    · rw [hs5]
      intro z hz
      rcases Array.mem_push.mp hz with e | e
      · exact hA z e
      · rw [e]; rfl
    · rw [hs5]; exact Array.getElem?_push_size ..
    · rw [Nat.sub_zero, hlen]
      refine seg_start (cG := cG) rfl O hlen (by rw [hcenv]; rfl) (by rw [hcenv]; exact hkind) (by rw [hcenv]; exact hco) (by rw [hcenv]; exact hx) (fun i m2 mu2 s2 t2 Q2 hi R2' hm2 k2 => ?_) s'' hI
      exact elt_call (c := cG) (dp := c.dp + 1) (un := c.un + 3 + 3) (gd := c.gd) rfl (by rw [hcenv]; rfl) (by rw [hcenv]; rfl) (by rw [hcenv]; exact hkind) (by rw [hcenv]; exact F.X.glob) (by rw [hcenv]; exact hx) (by rw [hcenv]; exact hfn) hg hf (D i hi) (by walk_at "om") (by walk_at "om") R2' hm2 hfd hxd k2
    · exact .nil
  · obtain ⟨mE, oSE, RE⟩ := hE
    obtain ⟨gE, GE, TE, FE, NE⟩ := RE.ex
    obtain ⟨h₀', T2, G2, F2, N2⟩ := back_X G FG rfl TE FE (news' := fzG) (fun p hp => NE p (List.mem_append_right _ hp))
    have Rf : Rel c m (upd P oP' mu) fz h := ⟨⟨h₀', G2, T.trans T2, F2, by rw [hfG] at N2; exact N2⟩, R3.pop.off, R3.pop.nd⟩
    refine ⟨sA', fun t' k' => ?_⟩
    rw [hs5]
    exact k _ _ fz h k' Gn oP' hP' hA' (fun _ q => q) (F.turnP (fun _ q => q) Rf) (.str _ _)
end
end Mine

end
section
open PySem PySem.W PyProof.Rows PySem.Calls
set_option Elab.async false
set_option maxRecDepth 100000
set_option maxHeartbeats 0
set_option linter.unusedVariables false
namespace Mine
theorem k_pat {w : World} {h : Heap} : (Mine.K1 w.params).In h → Pat h := by
  refine (?_ : PySem.Challenge.rw_oc0261_02 = PySem.Challenge.rw_oc0261_02 → (Mine.K1 w.params) = (Mine.K1 w.params) → _) rfl rfl
  k_fill
  intro _ _ X
  exact ⟨X _ _ (by k_is), ⟨_, _, X _ _ (by k_is), rfl, rfl, rfl, rfl, rfl⟩, ⟨_, _, _, X _ _ (by k_is), rfl, by decide +kernel⟩⟩
theorem k_unsafe {w : World} : nsIn (Mine.K1 w.params) mainGlobals "_find_unsafe" = some (some (.ref 752)) := by
  refine (?_ : PySem.Challenge.rw_oc0261_02 = PySem.Challenge.rw_oc0261_02 → (Mine.K1 w.params) = (Mine.K1 w.params) → _) rfl rfl
  k_fill
  intro _ _
  k_is
section
variable {M : Model} {A : Around} {E : Value → Shared → Prop} {s : Shared}
theorem callWith_766 {pos : Pos} {t : Sem Value} {Q : Value → Shared → Prop}
    (h : wpAny M A t (fun v s₁ => Pat s₁.heap ∧ wpAny M A (PySem.call (.ref 752) [v]) Q E s₁) E s) : wpAny M A (callWith pos (.ref 752) [] [(false, t)] []) Q E s := by
  unfold callWith
  refine wpAny_bind (wpAny_holding (evalArgs_plain (spliced_cons (wpAny_mono h (fun v s₁ h₁ => spliced_nil (wpAny_bind (wpAny_standAt ?_))) fun _ _ x => x))))
  obtain ⟨ho, hcall⟩ := h₁
  refine wpAny_bind (m := keeperOf (.ref 752)) ?_
  unfold keeperOf
  refine wpAny_bind (wpAny_load ho.o766 ?_)
  simp only [show (Value.type "builtin_function_or_method" != Value.type "method") = true by decide, show (Value.type "builtin_function_or_method" == Value.type "builtin_function_or_method" || Value.type "builtin_function_or_method" == Value.type "method-wrapper") = true by decide, if_true]
  refine wpAny_pure ?_
  exact wpAny_bind (wpAny_mono hcall (fun r s₂ hr => wpAny_bind (wpAny_holding (wpAny_point (wpAny_pure hr)))) fun _ _ x => x)
end
section
variable {prog : Program} {w : World} {K : Frag} {c : Cx K} {env : Env} {S : St}
theorem Tst.notStr {e : Expr} {pos : Pos} {y : Str} (h : Ev prog w c env S e (.str y)) (hz : (y.length : Int) < 2 ^ 63) (hp : autoParam (isTrue e env (eval e env) = (do let v ← eval e env; standAt e.pos; holding [v] (truthy v))) Mine.sx0) : Tst prog w c env S (.UnaryOp .Not e pos) (!((y.length : Int) != 0)) := by
  intro m mu fz s Q R X k
  show wpAny _ _ (do return !(← isTrue e env (eval e env))) _ _ _
  rw [hp]
  refine wpAny_bind (wpAny_bind (h m mu fz s _ R X fun v fz1 h1 t1 s1 R1 D1 => ?_))
  cases D1
  refine wpAny_bind (wpAny_standAt (wpAny_holding (P.truthy_str (by walk_at "om") ?_)))
  exact wpAny_pure (k fz1 h1 _ s1 R1)
theorem Tst.unsafe {x : Str} {np p cp kp pos : Pos} {kk : Nat} {y : Str} {b : Bool} (hx : S.lookup x = some (.val (.str y))) (hP : ∀ h : Heap, K.In h → Pat h) (hg : nsIn K mainGlobals "_find_unsafe" = some (some (.ref 752))) (hk : env.kindOf "_find_unsafe" = some .globalImplicit)
    (hz : y.cps.size < 2 ^ 62) (hc : (b = true ∧ 0 < y.cps.size ∧ ∀ i, i < y.cps.size → y.cps.getD i 0 ∈ SAFE) ∨ (b = false ∧ ∃ j, j < y.cps.size ∧ y.cps.getD j 0 ∈ UNS ∧ ∀ i, i < j → y.cps.getD i 0 ∈ SAFE)) (hxd : autoParam ((x == ("__debug__" : Str)) = false) Mine.sx3) :
    Tst prog w c env S (.Compare (.Call (.Name "_find_unsafe" np) [.Name x p] [] cp) [.Is] [.Constant .none kk kp] pos) b := by
  intro m mu fz s Q R X k
  refine wpAny_isTrue_Compare1 (Call_name1 rfl (load_global R X hk hg (by decide) (callWith_766 (Ev.name hx hxd m mu fz s _ R X fun v fz1 h1 t1 s1 R1 D1 => ⟨hP _ R1.in_, ?_⟩)))) rfl
  cases D1
  refine call_search (hP _ R1.in_) fun {P A' E'} out => ?_
  rcases hc with ⟨rfl, h0, hs⟩ | ⟨rfl, j, hj, hu, hs⟩
  · refine search_none (hP _ R1.in_) hz h0 hs (out .none h1 t1 (fun _ _ e => e) ?_)
    refine wpAny_pure (a := Value.none) ?_
    exact is_none_gen (wpAny_truthy_bool (k fz1 h1 t1 s1 R1))
  · refine search_some (hP _ R1.in_) hz hj hu hs fun a h' tk hk' => out (.ref a) h' tk hk' ?_
    refine wpAny_pure (a := Value.none) ?_
    exact is_none_gen (wpAny_truthy_bool (k fz1 h' tk s1 (R1.keeps hk')))
theorem repl_len (l : List Nat) : (repl 39 DQ l).length ≤ 5 * l.length := by
  induction l with
  | nil => simp [repl]
  | cons c r ih =>
    unfold repl at ih ⊢
    rw [List.flatMap_cons, List.length_append, List.length_cons]
    have : (if c = 39 then DQ else [c]).length ≤ 5 := by
      split
      · decide
      · simp
    walk_at "om"
theorem Ev.quoted {x : Str} {p1 p2 p3 p4 p5 ap cp q1 q2 : Pos} {k1 k2 k3 k4 : Nat} {l : List Nat} (hx : S.lookup x = some (.val (.str (sC l)))) (hz : l.length ≤ 1000000) (hxd : autoParam ((x == ("__debug__" : Str)) = false) Mine.sx3) (hline : autoParam ((ap.endLine == cp.line) = true) Mine.sx0) (hbase : autoParam (attributeBase (.Name x p2) "replace" env (eval (.Name x p2) env) = eval (.Name x p2) env) Mine.sx0) :
    Ev prog w c env S (.BinOp (.BinOp (.Constant (.str "'") k1 p1) .Add (.Call (.Attribute (.Name x p2) "replace" ap) [.Constant (.str "'") k2 p3, .Constant (.str "'\"'\"'") k3 p4] [] cp) q1) .Add (.Constant (.str "'") k4 p5) q2) (.str (sC (39 :: repl 39 DQ l ++ [39]))) := by
  intro m mu fz s Q R X k
  have e1 : Str.ofString "'" = sC [39] := by decide +kernel
  have e2 : Str.ofString "'\"'\"'" = sC DQ := by decide +kernel
  obtain ⟨v, a, D⟩ := X.val x _ hx
  cases D
  refine wpAny_BinOp (wpAny_BinOp (Constant_str ?_))
  refine wpAny_Call_method2_late hbase hline rfl (wpAny_Name (load_at (s := { s with toks := s.toks + 1 }) R X.kind a ?_) hxd)
  refine ⟨"str", "str.replace", PySem.F.plainAttrs_str, PySem.F.slot_str_replace, PySem.F.type_str_replace, typeIs_str _ _ _, (fun _ e => nomatch e), ?_⟩
  refine callWith_builtin rfl (evalArgs_plain (spliced_cons (Constant_str (spliced_cons (Constant_str (spliced_nil ?_))))))
  have hl := repl_len l
  have hb : (sC l).length + ((sC l).length + 1) * (Str.ofString "'\"'\"'").length ≤ 16777216 := by
    rw [e2, sC_len, sC_len]; show l.length + (l.length + 1) * 5 ≤ _; walk_at "om"
  refine SC.replace (by show s.toks + 1 ≠ 0; walk_at "om") (by show s.toks + 1 + 1 ≠ 0; walk_at "om") (by show s.toks + 1 ≠ s.toks + 1 + 1; walk_at "om") (by decide +kernel) hb fun t' tk => ?_
  have e3 : Txt.replace (sC l) (Str.ofString "'") (Str.ofString "'\"'\"'") = sC (repl 39 DQ l) := by
    rw [e1, e2]; exact replace_is l DQ 39
  rw [e3]
  refine PyProof.Rows.add_str (fun t2 tk2 => ?_) (by rw [e1, sC_len, sC_len, sizeLine_eq]; simp; walk_at "om")
  refine Constant_str ?_
  refine PyProof.Rows.add_str (fun t3 tk3 => ?_) (by rw [e1, sC_append, sC_len, sC_len, sizeLine_eq]; simp; walk_at "om")
  have e4 : Str.ofString "'" ++ sC (repl 39 DQ l) ++ Str.ofString "'" = sC (39 :: repl 39 DQ l ++ [39]) := by
    rw [e1, sC_append, sC_append]; rfl
  rw [e4]
  exact k _ fz s.heap tk3 (fun _ h => h) R (.str _ _)
end
theorem first_uns {l : List Nat} (h : ∀ c ∈ l, c ∈ SAFE ∨ c ∈ UNS) (hn : ¬ (l.all fun c => decide (c ∈ SAFE)) = true) : ∃ j, j < l.length ∧ l.getD j 0 ∈ UNS ∧ ∀ i, i < j → l.getD i 0 ∈ SAFE := by
  induction l with
  | nil => simp at hn
  | cons c r ih =>
    by_cases hc : c ∈ SAFE
    · have hr : ¬ (r.all fun c => decide (c ∈ SAFE)) = true := fun q => hn (by simp only [List.all_cons, q, Bool.and_true]; exact decide_eq_true hc)
      obtain ⟨j, h1, h2, h3⟩ := ih (fun d hd => h d (List.mem_cons_of_mem _ hd)) hr
      refine ⟨j + 1, by simp; walk_at "om", h2, fun i hi => ?_⟩
      cases i with
      | zero => exact hc
      | succ i => exact h3 i (by walk_at "om")
    · exact ⟨0, by simp, (h c List.mem_cons_self).resolve_left hc, fun i hi => by walk_at "om"⟩
theorem sC_getD (l : List Nat) (i : Nat) : (sC l).cps.getD i 0 = l.getD i 0 := by
  show l.toArray.getD i 0 = _
  simp [Array.getD_eq_getD_getElem?]
theorem dG_quote {w : World} {l : List Nat} (hl : l.length ≤ 1000000) (hc : ∀ c ∈ l, c ∈ SAFE ∨ c ∈ UNS) : DFunG PW w (Mine.K1 w.params) 759 (20 + 1) (200 + 8) [.str (sC l)] (.str (sC (quoteC l))) := by
  refine (?_ : PySem.Challenge.rw_oc0261_02 = PySem.Challenge.rw_oc0261_02 → (Mine.K1 w.params) = (Mine.K1 w.params) → _) rfl rfl
  k_fill
  intro _ _
  refine dfunG_of (ps := ["s"]) (by k_is) (by k_is) rfl (fun vs hl s _ => ?_) (by decide) (by decide) (by decide) rfl rfl rfl ?_
  · cases vs with
    | nil => cases hl
    | cons v r =>
      cases r with
      | nil => exact BindsTo.of_eq rfl
      | cons _ _ => cases hl
  intro c hdp hun
  have hlen : (sC l).length = l.length := sC_len l
  have hb : (!(((sC l).length : Int) != 0)) = decide (l = []) := by
    rw [hlen]
    cases l with
    | nil => rfl
    | cons a r => simp; walk_at "om"
  have hT : ∀ {env : Env} {S : St} {p pos : Pos}, S.lookup (Str.ofString "s") = some (Slot.val (Dat.str (sC l))) → Tst PW w c env S (.UnaryOp .Not (.Name "s" p) pos) (decide (l = [])) := by
    intro env S p pos h
    rw [← hb]
    exact Tst.notStr (Ev.name h) (by rw [hlen]; walk_at "om")
  by_cases he : l = []
  · rw [quoteC, if_pos he]
    refine Ex.ret (Ex1.ite (b := decide (l = [])) (hT rfl) (fun _ => Ex.ret (Ex1.ret (Ev.cStr.cast (by rw [str_qq])))) (fun q => by simp [he] at q))
  · refine Ex.cons (Ex1.ite (b := decide (l = [])) (hT rfl) (fun q => by simp [he] at q) (fun _ => Ex.nil)) ?_
    have hpos : 0 < l.length := List.length_pos_iff.mpr he
    have hsz : (sC l).cps.size = l.length := sC_len l
    rw [quoteC, if_neg he]
    by_cases hs : (l.all fun c => decide (c ∈ SAFE)) = true
    · rw [if_pos hs]
      refine Ex.ret (Ex1.ite (b := true) (Tst.unsafe rfl (fun h => k_pat) k_unsafe rfl (by rw [hsz]; walk_at "om") (.inl ⟨rfl, by rw [hsz]; exact hpos, fun i hi => ?_⟩)) (fun _ => Ex.ret (Ex1.ret (Ev.name rfl))) (fun q => nomatch q))
      rw [sC_getD]
      rw [hsz] at hi
      have := List.all_eq_true.mp hs (l.getD i 0) (List.mem_of_getElem? (getD_some hi))
      exact of_decide_eq_true this
    · rw [if_neg hs]
      obtain ⟨j, h1, h2, h3⟩ := first_uns hc hs
      refine Ex.cons (Ex1.ite (b := false) (Tst.unsafe rfl (fun h => k_pat) k_unsafe rfl (by rw [hsz]; walk_at "om") (.inr ⟨rfl, j, by rw [hsz]; exact h1, by rw [sC_getD]; exact h2, fun i hi => by rw [sC_getD]; exact h3 i hi⟩)) (fun q => nomatch q) (fun _ => Ex.nil)) ?_
      exact Ex.ret (Ex1.ret (Ev.quoted rfl hl))
end Mine

end
section
open PySem PySem.W PyProof.Rows PySem.Calls
set_option Elab.async false
set_option maxRecDepth 100000
set_option maxHeartbeats 0
set_option linter.unusedVariables false
namespace Mine
noncomputable abbrev PJ : Addr := 746
theorem k_join {w : World} : (nsIn (Mine.K1 w.params) mainGlobals "quote" = some (some (.ref 759)) ∧ isDef (Mine.K1 w.params) 759 = true) ∧ CodeAt (Mine.K1 w.params) 750 PJ := by
  refine (?_ : PySem.Challenge.rw_oc0261_02 = PySem.Challenge.rw_oc0261_02 → (Mine.K1 w.params) = (Mine.K1 w.params) → _) rfl rfl
  k_fill
  intro _ _
  exact ⟨⟨by k_is, isDef_of (by k_is)⟩, ⟨_, _, _, _, _, _, _, _, _, by k_is, rfl, rfl, rfl, rfl, rfl, rfl, rfl, by decide⟩⟩
theorem getD_map_sC {ws : List (List Nat)} {i : Nat} (hi : i < ws.length) : (ws.map sC).getD i (Str.ofString "") = sC (ws.getD i []) := by
  simp [List.getD_eq_getElem?_getD, List.getElem?_eq_getElem hi]
theorem quoteC_len (l : List Nat) : (quoteC l).length ≤ 5 * l.length + 2 := by
  unfold quoteC
  have := repl_len l
  split
  · simp
  · split
    · walk_at "om"
    · simp; walk_at "om"
theorem d_join {w : World} {ws : List (List Nat)} (hz : ws.length ≤ 20) (hc : ∀ l ∈ ws, l.length ≤ 150000 ∧ ∀ c ∈ l, c ∈ SAFE ∨ c ∈ UNS) : DFunP PW w (Mine.K1 w.params) PJ 751 (24 + 1) (250 + 8) [.list (strsD (ws.map sC))] (.str (sC (joinC (ws.map quoteC)))) := by
  refine (?_ : PySem.Challenge.rw_oc0261_02 = PySem.Challenge.rw_oc0261_02 → (Mine.K1 w.params) = (Mine.K1 w.params) → _) rfl rfl
  k_fill
  intro _ _
  refine dfunP_of (ps := ["split_command"]) (by k_is) (by k_is) rfl (fun vs hl s _ => ?_) (by decide) (by decide) (by decide) rfl rfl rfl ?_
  · cases vs with
    | nil => cases hl
    | cons v r =>
      cases r with
      | nil => exact BindsTo.of_eq rfl
      | cons _ _ => cases hl
  intro c hdp hun _ _
  rw [← join_sC, List.map_map]
  refine PEx.ret (EvP.joinGen (xs := ws.map sC) (ys := ws.map (sC ∘ quoteC)) (fa := 759) (cc := 750) (d := 20 + 1) (u := 200 + 8) rfl (by decide) (by decide) (by decide) rfl k_join.2 rfl rfl (by decide) rfl rfl rfl rfl k_join.1.1 k_join.1.2 (by simp) (fun i hi => ?_) (by walk_at "om") (by walk_at "om") ?_ (by simp; walk_at "om"))
  · have hi' : i < ws.length := by simpa using hi
    have e2 : (ws.map (sC ∘ quoteC)).getD i (Str.ofString "") = sC (quoteC (ws.getD i [])) := by simp [List.getD_eq_getElem?_getD, List.getElem?_eq_getElem hi']
    rw [getD_map_sC hi', e2]
    have hm : ws.getD i [] ∈ ws := by rw [List.getD_eq_getElem?_getD, List.getElem?_eq_getElem hi']; exact List.getElem_mem hi'
    exact dG_quote (by have := (hc _ hm).1; walk_at "om") (hc _ hm).2
  · refine joinOk_of ?_
    have h1 : ∀ x ∈ (ws.map (sC ∘ quoteC)).map (·.length), x ≤ 750002 := by
      intro x hx
      simp only [List.map_map, List.mem_map, Function.comp_apply] at hx
      obtain ⟨l, hl, rfl⟩ := hx
      rw [sC_len]
      have := quoteC_len l
      have := (hc l hl).1
      walk_at "om"
    have h2 := sum_le (n := 20) h1 (by simpa using hz)
    have h3 : (Str.ofString " ").length = 1 := by rw [str_sp, sC_len]; rfl
    rw [h3, List.length_map]
    walk_at "om"
end Mine

end
section
open PySem PySem.W PyProof.Rows PySem.Calls
set_option Elab.async false
set_option maxRecDepth 100000
set_option linter.unusedVariables false
namespace Mine
theorem words_dat {fz : Led} : ∀ {vs : List Value} {ws : List (List Nat)}, Rel2 (fun v (wd : List Nat) => ∃ u, v = .str ⟨wd.toArray⟩ u) vs ws → DatAll fz vs (strsD (ws.map sC)) := by
  intro vs
  induction vs with
  | nil =>
    intro ws h
    cases ws with
    | nil => exact .nil
    | cons _ _ => exact h.elim
  | cons v vs ih =>
    intro ws h
    cases ws with
    | nil => exact h.elim
    | cons w0 ws =>
      obtain ⟨⟨u, rfl⟩, h2⟩ := h
      exact .cons (.str _ _) (ih h2)
theorem d_split {w : World} {l : List Nat} {n : Nat} {ws : List (List Nat)} (hx : l.length < 1000000) (hn : toks n l = some ws) (hz : ws.length ≤ 1000000) : DFun PW w (Mine.K1 w.params) 744 (60 + 1) (600 + 8) [.str (sC l)] (.list (strsD (ws.map sC))) := by
  intro vs fz D
  cases D with
  | cons D1 D2 =>
    cases D1
    cases D2
    refine Spec.mono (c_split (n := n) (ws := ws) (by show (sC l).length < _; rw [sC_len]; exact hx) hn hz) ?_
    rintro v n' ⟨S, vs, c, rfl, hr, rfl⟩
    exact ⟨fun p hp => List.mem_cons_of_mem _ hp, .list List.mem_cons_self ((words_dat hr).mono fun _ h => h)⟩
end Mine

end
section
open PySem PySem.W PyProof.Rows PySem.Calls
set_option Elab.async false
set_option maxRecDepth 100000
set_option maxHeartbeats 0
namespace Mine


noncomputable def ap (n : Nat) : List UInt8 := if h : n = 0 then [] else ap (n / 16) ++ [UInt8.ofNat (65 + n % 16)]
termination_by n
decreasing_by walk_at "om"
theorem ap_zero : ap 0 = [] := by rw [ap]; rfl
theorem ap_step {n : Nat} (h : n ≠ 0) : ap n = ap (n / 16) ++ [UInt8.ofNat (65 + n % 16)] := by rw [ap]; simp [h]
theorem ap_len : ∀ (k n : Nat), n < 16 ^ k → (ap n).length ≤ k
  | 0, n, h => by
    have : n = 0 := by simpa using h
    subst this; rw [ap_zero]; exact Nat.le_refl _
  | k + 1, n, h => by
    by_cases q : n = 0
    · subst q; rw [ap_zero]; exact Nat.zero_le _
    · rw [ap_step q, List.length_append, List.length_singleton]
      have := ap_len k (n / 16) (by rw [Nat.pow_succ] at h; walk_at "om")
      walk_at "om"
noncomputable abbrev apTab : Array UInt8 := #[65,66,67,68,69,70,71,72,73,74,75,76,77,78,79,80]
theorem ap_cut : ∀ k : Fin 16, KBy.whole apTab (some ((k : Nat) : Int)) (some (((k : Nat) : Int) + 1)) = false ∧ KBy.picked apTab (some ((k : Nat) : Int)) (some (((k : Nat) : Int) + 1)) = #[UInt8.ofNat (65 + k)] := by decide +kernel
theorem ap_cut' {k : Nat} : KBy.whole apTab (some ((k : Int).fmod 16)) (some ((k : Int).fmod 16 + 1)) = false ∧ KBy.picked apTab (some ((k : Int).fmod 16)) (some ((k : Int).fmod 16 + 1)) = #[UInt8.ofNat (65 + k % 16)] := by
  have e : (k : Int).fmod 16 = ((k % 16 : Nat) : Int) := by rw [Int.fmod_eq_emod_of_nonneg _ (by decide)]; walk_at "om"
  rw [e]
  exact ap_cut ⟨k % 16, Nat.mod_lt _ (by decide)⟩
theorem ap_div {k : Nat} : (k : Int).fdiv 16 = ((k / 16 : Nat) : Int) := by rw [Int.fdiv_eq_ediv_of_nonneg _ (by decide)]; walk_at "om"

theorem c_int2ap {w : World} {news : List (Addr × Obj)} {n : Int} {t1 : Tok} (hn : 0 ≤ n) (hn2 : n < 16 ^ 16) : Spec PySem.Challenge.pw_oc0261_02 w (Mine.K1 w.params) 766 [.int n t1] (0 + 1) (40 + 8) news (fun v news' => news' = news ∧ ∃ t, v = .bytes (ap n.toNat).toArray t) := by
  refine (?_ : PySem.Challenge.rw_oc0261_02 = PySem.Challenge.rw_oc0261_02 → (Mine.K1 w.params) = (Mine.K1 w.params) → _) rfl rfl
  k_fill
  intro _ _
  refine spec_of (binds := [(Str.ofString "num", .int n t1)]) (by k_is) (by k_is) (fun _ _ => by first | exact BindsTo.of_eq rfl | (refine binds_K (by assumption) rfl (by k_is) rfl rfl rfl)) (locs rfl) rfl rfl rfl (by decide) ?_
  intro p loose mean mg mb dp un gd A₀ base g outer L1 s Q hdp hun G F1 N1 hq
  k_with_none
  have XB := G.XB
  have TB := G.TB.toTopRead
  have D1 := G.D
  have B1 := G.B
  have X1 := G.X
  have T1 := G.T.toTopRead
  have T0 : KtsTurn (fsOf outer) g g := KtsTurn.refl
  obtain ⟨m0, F1⟩ : ∃ m0, Fr g L1 _ (put "num" (.int n t1) m0) := ⟨_, (Fr_put (x := "num") F1 rfl)⟩
  repeat (first | (k_unfold; (try dsimp only)) | (with_reducible refine execs_one ?_) | ((fail_if_success (with_reducible show wpAny _ _ (exec (Stmt.While _ _ _ _) _) _ _ _)); walk1))
  have hlen : (ap n.toNat).length ≤ 16 := ap_len 16 _ (by walk_at "om")
  have hif : (if n < 0 then -n else n) = (n.toNat : Int) := by rw [if_neg (by walk_at "om")]; walk_at "om"
  refine wp_while (D := Nat × List UInt8) (fun d h => ∃ m0 t1 t2 t3, Fr g L1 h (put "num" (.int (d.1 : Int) t1) (put "val" (.bytes d.2.toArray t2) (put "AP" (.bytes apTab t3) m0))) ∧ News g L1 h news ∧ ap d.1 ++ d.2 = ap n.toNat) (fun d => d.1) (n.toNat, []) ?_ ?_
  · (with_reducible rename Fr _ _ _ _ => F9); (with_reducible rename News _ _ _ _ => N9)
    rw [hif] at F9
    exact ⟨_, _, _, _, (Fr_put (Fr_put (Fr_put F9 rfl) rfl) rfl), N9, List.append_nil _⟩
  · rintro ⟨k, val⟩ h tk ⟨m0, t1, t2, t3, F2, N2, hap⟩
    dsimp only at F2 N2 hap ⊢
    have hvl : val.length ≤ 16 := by have := congrArg List.length hap; rw [List.length_append] at this; walk_at "om"
    k_with "subscriptTail Name Slice bytes ref" => ((with_reducible rename Fr _ _ _ _ => F9); (with_reducible rename News _ _ _ _ => N9); refine KBy.slice_N (s := ⟨_, _, _, _, _⟩) F9 N9 (.int _ _) (.int _ _) ap_cut'.1 (by rw [ap_cut'.2]; exact (by decide : 1 ≤ 16777216)) ?_; intro _ _ _ _ _; rw [ap_cut'.2])
    k_with "binaryOp Add bytes bytes" => (refine KBy.add_bytes (by simp only [List.size_toArray, List.length_cons, List.length_nil]; walk_at "om") ?_; intro _ _)
    repeat' (first | (k_unfold; (try dsimp only)) | (with_reducible refine execs_one ?_) | ((with_reducible show wpAny _ _ (exec _ _) _ _ _); (with_reducible rename Fr _ _ _ _ => F9); (refine st_at (s := s) F9 fun tk9 => ?_); (try k_fold); walk1) | (k_end; wrow_close) | walk1 | (dsimp only; walk1) | (leave1; try dsimp only) | fail "no step")
    · (with_reducible rename Fr _ _ _ _ => F9); (with_reducible rename News _ _ _ _ => N9)
      have hk0 : k ≠ 0 := by intro e; subst e; simp_all
      refine ⟨(k / 16, UInt8.ofNat (65 + k % 16) :: val), by dsimp only; walk_at "om", _, _, rfl, _, _, _, _, Fr_put (Fr_put (Fr_put F9 rfl) (congrArg (fun b => some (Value.bytes b _)) (by simp : #[UInt8.ofNat (65 + k % 16)] ++ val.toArray = (UInt8.ofNat (65 + k % 16) :: val).toArray))) (congrArg (fun b => some (Value.int b _)) ap_div), fun p hp => N9 p (.tail _ hp), ?_⟩
      dsimp only
      rw [← hap, ap_step hk0]; simp
    · have hk0 : k = 0 := by simp_all
      subst hk0
      rw [ap_zero, List.nil_append] at hap
      rw [hap]
      (with_reducible rename Fr _ _ _ _ => F9); (with_reducible rename News _ _ _ _ => N9)
      exact hq _ _ _ _ _ _ KtsTurn.refl F9 N9 ⟨rfl, _, rfl⟩


end Mine

end
section
open PySem PySem.W PyProof.Rows PySem.Calls
set_option Elab.async false
set_option linter.unusedVariables false
namespace Mine
noncomputable abbrev two (elt t0 i0 t1 i1 : Expr) (scope : Scope) (pos : Pos) : Expr := .ListComp elt [⟨t0, i0, [], 0⟩, ⟨t1, i1, [], 0⟩] scope pos
theorem turn_in (elt t0 i0 t1 i1 : Expr) (scope : Scope) (pos : Pos) (it acc : Value) (env : Env) :
    compTurn (two elt t0 i0 t1 i1 scope pos) 1 it acc env = (standAt i1.pos >>= fun _ => pyNext it >>= fun r => match r with
      | none => pure (.done .next)
      | some v => letOwnedTupleGo t1 it v >>= fun _ => assign t1 env v >>= fun _ =>
        (eval elt env >>= fun x => call (.builtin "list.append") [acc, x] >>= fun _ => pure ()) >>= fun _ =>
          again (.compLoop (two elt t0 i0 t1 i1 scope pos) 1 it acc env)) := by rfl
theorem turn_out (elt t0 i0 t1 i1 : Expr) (scope : Scope) (pos : Pos) (it acc : Value) (env : Env) :
    compTurn (two elt t0 i0 t1 i1 scope pos) 0 it acc env = (standAt i0.pos >>= fun _ => pyNext it >>= fun r => match r with
      | none => pure (.done .next)
      | some v => letOwnedTupleGo t0 it v >>= fun _ => assign t0 env v >>= fun _ =>
        eval i1 env >>= fun x => standAt i1.pos >>= fun _ => foldedSetIterable i1 env x >>= fun x => holding [x] (pyIter x) >>= fun j => runOwn (.compStart (two elt t0 i0 t1 i1 scope pos) 1 j acc env) env >>= fun _ =>
          again (.compLoop (two elt t0 i0 t1 i1 scope pos) 0 it acc env)) := by rfl
section
variable {prog : Program} {w : World} {K : Frag} {c : Cx K} {env : Env} {S : St}
theorem comp2_in {elt i0 i1 : Expr} {x y : Str} {px py : Pos} {scope : Scope} {cl : List (Str × Addr)} {pos : Pos} {Cp : St} {m : Str → Option Value} {mu fz : Led} {s : Shared} {I C D : Addr} {oI oC : Obj} {ds ds0 : List Dat} {dx : Dat} {fp : List Addr} {P : Nat → Value → Prop} {Sx : Nat → Heap → Prop} {Rr : Result → Shared → Prop} {vs0 : Array Value} {n0 : Nat}
    (f : Dat → Dat) (hcap : Cap env S scope cl Cp) (hkind : scope.kind = .function) (hx : scope.names.lookup x = some .local) (hy : scope.names.lookup y = some .local) (hxy : x ≠ y)
    (hf : ∀ d ∈ ds, Ev prog w c (compEnvC scope cl C env) ((y, .val d) :: (x, .val dx) :: Cp) elt (f d)) (hz : ds0.length + ds.length ≤ 2 ^ 20)
    (X : Sat c env S m mu fz) (O : ItOk prog w c I fz ds fp P Sx) (st : Sx 0 s.heap) (R : Rel c m ((C, oC) :: (D, listOf vs0 n0) :: (I, oI) :: mu) fz s.heap) (D0 : DatAll fz vs0.toList ds0) (hn : ∃ mc vx, NsO oC mc ∧ mc x = some vx ∧ DatIn fz vx dx)
    (k : ∀ oC' vs n fz' h' tk', Sub fz fz' → Rel c m ((C, oC') :: (D, listOf vs n) :: mu) fz' h' → (∃ mc, NsO oC' mc) → DatAll fz' vs.toList (ds0 ++ ds.map f) → Rr (.ok .next) { s with heap := h', toks := tk' }) :
    codeAny (model prog w) c.A (.compLoop (two elt (.Name x px) i0 (.Name y py) i1 scope pos) 1 (.ref I) (.ref D) (compEnvC scope cl C env)) Rr s := by
  refine codeAny_loop rfl (CompI c m mu fz s C D I Sx ds.length (fun fz' mc => ∃ vx, mc x = some vx ∧ DatIn fz' vx dx) (fun i => ds0 ++ (ds.take i).map f)) ?_ (ds.length + 1) ⟨0, oC, oI, vs0, n0, fz, s.heap, s.toks, rfl, fun _ h => h, R, (let ⟨mc, vx, h1, h2, h3⟩ := hn; ⟨mc, h1, vx, h2, h3⟩), st, Nat.zero_le _, by simpa using D0, rfl⟩
  rintro q s' ⟨i, oC', oI', vs, n, fz1, h1, tk1, rfl, s1, R1, ⟨mc, hn1, vx, hmx, Dx⟩, st1, hi, D1, rfl⟩
  show wpAny _ c.A ((compTurn (two elt (.Name x px) i0 (.Name y py) i1 scope pos) 1 (.ref I) (.ref D) (compEnvC scope cl C env)).onRaise (fun x => do noteFrame x _; theTreesLotGoes x)) _ _ _
  refine wpAny_noted ?_
  rw [turn_in]
  refine wpAny_bind (wpAny_standAt (wpAny_bind ?_))
  by_cases hlt : i < ds.length
  · refine next_some [(C, oC'), (D, listOf vs n)] (O.mono s1) R1 st1 hlt fun v o2 h2 t2 d hd Dd R2 st2 => ?_
    have hdm : d ∈ ds := List.mem_of_getElem? hd
    obtain ⟨es, ep, n1, n2, n3⟩ := hn1
    refine wpAny_bind (wpAny_of_eq (rfl : letOwnedTupleGo (.Name y py) (.ref I) v = pure ()) ?_)
    refine wpAny_bind (wpAny_assign_Name (wpAny_storeName_local (m := mc) (lookup_relabel_local hy) ⟨oC', es, ep, R2.get (p := (C, oC')) List.mem_cons_self, n1, n2, n3⟩ (fun h3 hn3 hs3 => ?_) (by simp [compEnvC, relabel, hkind])))
    obtain ⟨oC3, es3, ep3, g3, d3, k3, m3⟩ := hn3
    have R3 : Rel c m ((C, oC3) :: (D, listOf vs n) :: (I, o2) :: mu) fz1 h3 := R2.turn (fun b y hb e => hs3.extBut b y hb e) g3
    have st3 : Sx (i + 1) h3 := O.frame (R2.less s1) (R3.less s1) (o := o2) (by simp) (by simp) (fun _ h => h) st2
    have hN3 : NsO oC3 (fun z => if z = y then some v else mc z) := ⟨es3, ep3, d3, k3, m3⟩
    have sat : Sat c (compEnvC scope cl C env) ((y, .val d) :: (x, .val dx) :: Cp) m ((C, oC3) :: (D, listOf vs n) :: (I, o2) :: mu) fz1 :=
      sat_comp (V := [(y, d), (x, dx)]) X hcap hkind List.mem_cons_self hN3 (fun p hp => List.mem_cons_of_mem _ (List.mem_cons_of_mem _ (List.mem_cons_of_mem _ hp))) s1 (fun z e hm => by
        simp only [List.mem_cons, List.not_mem_nil, or_false] at hm
        rcases hm with hm | hm
        · cases hm; exact ⟨hy, v, if_pos rfl, Dd⟩
        · cases hm; exact ⟨hx, vx, by rw [if_neg hxy]; exact hmx, Dx⟩)
    refine wpAny_bind (wpAny_bind (wpAny_mono (hf d hdm m _ fz1 { s with heap := h3, toks := t2 + 1 } (fun y s₄ => ∃ fz' h' tk', s₄ = { s with heap := h', toks := tk' } ∧ Sub fz1 fz' ∧ Rel c m ((C, oC3) :: (D, listOf vs n) :: (I, o2) :: mu) fz' h' ∧ DatIn fz' y (f d)) R3 sat fun y fz3 h5 t5 s3 R5 D5 => ⟨fz3, h5, t5, rfl, s3, R5, D5⟩) (fun yv s₄ h₄ => ?_) fun _ _ e => e.elim))
    obtain ⟨fz3, h5, t5, rfl, s3, R5, D5⟩ := h₄
    have hvs : vs.size ≤ sizeLine := by
      have e1 := D1.length
      have e2 : (ds0 ++ (ds.take i).map f).length ≤ ds0.length + ds.length := by
        rw [List.length_append, List.length_map, List.length_take]; walk_at "om"
      have e3 : vs.toList.length = vs.size := by simp
      have e4 : sizeLine = 2 ^ 24 := sizeLine_eq
      walk_at "om"
    have hpl : h5.PlainList D vs := ⟨n, R5.get (p := (D, listOf vs n)) (by simp)⟩
    refine wpAny_bind (wpAny_list_append_plain (hsz := hvs) hpl fun h6 hl6 hs6 => wpAny_pure (wpAny_pure ⟨rfl, ?_⟩))
    obtain ⟨n6, g6⟩ := hl6
    have R6 : Rel c m ((C, oC3) :: (D, listOf (vs.push yv) n6) :: (I, o2) :: mu) fz3 h6 := Rel.turnIn [(C, oC3)] R5 (fun b z hb e => hs6.extBut b z hb e) g6
    have st5 : Sx (i + 1) h5 := (O.mono s1).frame R3 R5 (o := o2) (by simp) (by simp) s3 st3
    have st6 : Sx (i + 1) h6 := (O.mono (s1.trans s3)).frame R5 R6 (o := o2) (by simp) (by simp) (fun _ h => h) st5
    refine ⟨ds.length + 1 - (i + 1), by walk_at "om", i + 1, oC3, o2, vs.push yv, n6, fz3, h6, t5, rfl, s1.trans s3, R6, ⟨_, hN3, vx, by rw [if_neg hxy]; exact hmx, Dx.mono s3⟩, st6, hlt, ?_, rfl⟩
    try dsimp only
    rw [take_step hd, List.map_append, ← List.append_assoc, Array.toList_push]
    exact DatAll.append (D1.mono s3) (DatAll.one D5)
  · have e : i = ds.length := by walk_at "om"
    subst e
    refine next_none [(C, oC'), (D, listOf vs n)] (O.mono s1) R1 st1 fun h2 t2 R2 => ?_
    rw [List.take_length] at D1
    exact wpAny_pure (k oC' vs n fz1 h2 t2 s1 R2 ⟨mc, hn1⟩ D1)
end
end Mine

end
section
open PySem PySem.W PyProof.Rows PySem.Calls
set_option Elab.async false
set_option linter.unusedVariables false
namespace Mine
section
variable {prog : Program} {w : World} {K : Frag} {c : Cx K} {env : Env} {S : St}
theorem Sat.more {m : Str → Option Value} {mu mu' fz : Led} (X : Sat c env S m mu fz) (s : Sub mu mu') : Sat c env S m mu' fz := by
  have up : ∀ x v, At c env m mu x v → At c env m mu' x v := fun x v a => by
    cases a with
    | loc k1 k2 k3 => exact .loc k1 k2 k3
    | blk k1 k2 k3 k4 => exact .blk k1 (s _ k2) k3 k4
    | cell k1 k2 k3 k4 => exact .cell k1 k2 (s _ k3) k4
  exact ⟨X.kind, X.glob, X.bult, fun x d h => let ⟨v, a, D⟩ := X.val x d h; ⟨v, up _ _ a, D⟩, fun x ds h => let ⟨a, vs, n, b1, b2, b3⟩ := X.own x ds h; ⟨a, vs, n, up _ _ b1, s _ b2, b3⟩⟩
theorem start_in {elt i0 i1 t0 t1 : Expr} {scope : Scope} {pos : Pos} {it acc : Value} {cenv : Env} {Rr : Result → Shared → Prop} {A : Around} {s : Shared}
    (h0 : codeAny (model prog w) A (.compLoop (two elt t0 i0 t1 i1 scope pos) 1 it acc cenv) Rr s)
    (h : wpAny (model prog w) A (pyIter it) (fun it' s' => codeAny (model prog w) A (.compLoop (two elt t0 i0 t1 i1 scope pos) 1 it' acc cenv) Rr s') NoE s) :
    codeAny (model prog w) A (.compStart (two elt t0 i0 t1 i1 scope pos) 1 it acc cenv) Rr s := by
  refine codeAny_of_tree ?_
  show wpAny _ _ ((compStart (two elt t0 i0 t1 i1 scope pos) 1 it acc cenv).onRaise (fun x => do noteFrame x cenv; standAt theWindowsPlace)) _ _ s
  refine wpAny_notedAt ?_
  unfold compStart
  show wpAny _ _ (ask >>= _) _ _ s
  refine wpAny_bind (wpAny_askSetting (wpAny_ite ?_))
  split
  · exact wpAny_pure (And.intro rfl h0)
  · refine wpAny_bind (wpAny_rule ?_)
    show wpAny _ _ (standAt i1.pos >>= _) _ _ s
    exact wpAny_bind (wpAny_standAt (wpAny_bind (wpAny_mono h (fun it' s' h' => wpAny_pure (And.intro rfl h')) fun _ _ x => x.elim)))
theorem comp2_out {elt i0 i1 : Expr} {x y : Str} {px py : Pos} {scope : Scope} {cl : List (Str × Addr)} {pos : Pos} {Cp : St} {m : Str → Option Value} {mu fz : Led} {s : Shared} {I C D : Addr} {oI oC : Obj} {xs : List Dat} {fp : List Addr} {P : Nat → Value → Prop} {Sx : Nat → Heap → Prop} {Rr : Result → Shared → Prop}
    (g : Dat → List Dat) (f : Dat → Dat → Dat) (hcap : Cap env S scope cl Cp) (hkind : scope.kind = .function) (hx : scope.names.lookup x = some .local) (hy : scope.names.lookup y = some .local) (hxy : x ≠ y)
    (hit : ∀ d ∈ xs, EvIt prog w c (compEnvC scope cl C env) ((x, .val d) :: Cp) i1 (g d)) (hs : ∀ z, foldedSetIterable i1 (compEnvC scope cl C env) z = pure z)
    (hf : ∀ d ∈ xs, ∀ e ∈ g d, Ev prog w c (compEnvC scope cl C env) ((y, .val e) :: (x, .val d) :: Cp) elt (f d e)) (hz : (xs.flatMap g).length ≤ 2 ^ 20)
    (X : Sat c env S m mu fz) (O : ItOk prog w c I fz xs fp P Sx) (st : Sx 0 s.heap) (R : Rel c m ((C, oC) :: (D, listOf #[] 0) :: (I, oI) :: mu) fz s.heap) (hn : ∃ mc, NsO oC mc)
    (k : ∀ oC' vs n fz' h' tk', Sub fz fz' → Rel c m ((C, oC') :: (D, listOf vs n) :: mu) fz' h' → (∃ mc, NsO oC' mc) → DatAll fz' vs.toList (xs.flatMap fun d => (g d).map (f d)) → Rr (.ok .next) { s with heap := h', toks := tk' }) :
    codeAny (model prog w) c.A (.compLoop (two elt (.Name x px) i0 (.Name y py) i1 scope pos) 0 (.ref I) (.ref D) (compEnvC scope cl C env)) Rr s := by
  refine codeAny_loop rfl (CompI c m mu fz s C D I Sx xs.length (fun _ _ => True) (fun i => (xs.take i).flatMap fun d => (g d).map (f d))) ?_ (xs.length + 1) ⟨0, oC, oI, #[], 0, fz, s.heap, s.toks, rfl, fun _ h => h, R, (let ⟨mc, h⟩ := hn; ⟨mc, h, trivial⟩), st, Nat.zero_le _, by simpa using DatAll.nil, rfl⟩
  rintro q s' ⟨i, oC', oI', vs, n, fz1, h1, tk1, rfl, s1, R1, ⟨mc, hn1, _⟩, st1, hi, D1, rfl⟩
  show wpAny _ c.A ((compTurn (two elt (.Name x px) i0 (.Name y py) i1 scope pos) 0 (.ref I) (.ref D) (compEnvC scope cl C env)).onRaise (fun x => do noteFrame x _; theTreesLotGoes x)) _ _ _
  refine wpAny_noted ?_
  rw [turn_out]
  refine wpAny_bind (wpAny_standAt (wpAny_bind ?_))
  by_cases hlt : i < xs.length
  · refine next_some [(C, oC'), (D, listOf vs n)] (O.mono s1) R1 st1 hlt fun v o2 h2 t2 d hd Dd R2 st2 => ?_
    have hdm : d ∈ xs := List.mem_of_getElem? hd
    obtain ⟨es, ep, n1, n2, n3⟩ := hn1
    refine wpAny_bind (wpAny_of_eq (rfl : letOwnedTupleGo (.Name x px) (.ref I) v = pure ()) ?_)
    refine wpAny_bind (wpAny_assign_Name (wpAny_storeName_local (m := mc) (lookup_relabel_local hx) ⟨oC', es, ep, R2.get (p := (C, oC')) List.mem_cons_self, n1, n2, n3⟩ (fun h3 hn3 hs3 => ?_) (by simp [compEnvC, relabel, hkind])))
    obtain ⟨oC3, es3, ep3, g3, d3, k3, m3⟩ := hn3
    have R3 : Rel c m ((C, oC3) :: (D, listOf vs n) :: (I, o2) :: mu) fz1 h3 := R2.turn (fun b y hb e => hs3.extBut b y hb e) g3
    have st3 : Sx (i + 1) h3 := O.frame (R2.less s1) (R3.less s1) (o := o2) (by simp) (by simp) (fun _ h => h) st2
    have hN3 : NsO oC3 (fun z => if z = x then some v else mc z) := ⟨es3, ep3, d3, k3, m3⟩
    have sat : Sat c (compEnvC scope cl C env) ((x, .val d) :: Cp) m ((C, oC3) :: (D, listOf vs n) :: (I, o2) :: mu) fz1 :=
      sat_comp (V := [(x, d)]) X hcap hkind List.mem_cons_self hN3 (fun p hp => List.mem_cons_of_mem _ (List.mem_cons_of_mem _ (List.mem_cons_of_mem _ hp))) s1 (fun z e hm => by
        rw [List.mem_singleton] at hm; cases hm
        exact ⟨hx, v, if_pos rfl, Dd⟩)
    have hlen0 : ((xs.take i).flatMap fun d => (g d).map (f d)).length + (g d).length ≤ 2 ^ 20 := by
      have e1 : xs = xs.take i ++ d :: xs.drop (i + 1) := by
        have := List.getElem?_eq_some_iff.mp hd
        obtain ⟨h1, h2⟩ := this
        rw [← h2, ← List.drop_eq_getElem_cons h1, List.take_append_drop]
      have e2 : (xs.flatMap g).length = ((xs.take i).flatMap g).length + ((g d).length + ((xs.drop (i + 1)).flatMap g).length) := by
        conv => lhs; rw [e1]
        rw [List.flatMap_append, List.flatMap_cons, List.length_append, List.length_append]
      have e3 : ((xs.take i).flatMap fun d => (g d).map (f d)).length = ((xs.take i).flatMap g).length := by
        simp [List.length_flatMap]
      walk_at "om"
    refine wpAny_bind (wpAny_mono (hit d hdm m _ fz1 { s with heap := h3, toks := t2 + 1 } _ R3 sat (fun I1 o1 fp1 P1 Sx1 fz2 h4 t4 s2 R4 O1 st4 => ?_)) (fun xv s₁ h₁ => wpAny_bind (wpAny_standAt (wpAny_bind (wpAny_of_eq (hs xv) (wpAny_bind (wpAny_holding (wpAny_mono h₁ (fun j s₂ h₂ => h₂) fun _ _ e => e.elim))))))) fun _ _ e => e.elim)
    have R5 : Rel c m ((C, oC3) :: (D, listOf vs n) :: (I1, o1) :: (I, o2) :: mu) fz2 h4 := R4.perm (by
      refine (List.Perm.swap _ _ _).trans (List.Perm.cons _ ?_)
      exact List.Perm.swap _ _ _)
    have X5 : Sat c env S m ((I, o2) :: mu) fz2 := (X.mono (s1.trans s2)).more fun p hp => List.mem_cons_of_mem _ hp
    have st5 : Sx (i + 1) h4 := (O.mono s1).frame R3 R5 (o := o2) (by simp) (by simp) s2 st3
    refine wpAny_bind (wpAny_runOwn ?_)
    show codeAny (model prog w) c.A _ _ _
    have loop := comp2_in (prog := prog) (w := w) (elt := elt) (i0 := i0) (i1 := i1) (x := x) (y := y) (px := px) (py := py) (pos := pos) (s := { s with heap := h4, toks := t4 }) (Rr := fun r s' => match r with | .ok _ => wpAny (model prog w) c.A (again (.compLoop (two elt (.Name x px) i0 (.Name y py) i1 scope pos) 0 (.ref I) (.ref D) (compEnvC scope cl C env))) (fun fin s' => match fin with | .done f => Rr (.ok f) s' | .again c' => c' = .compLoop (two elt (.Name x px) i0 (.Name y py) i1 scope pos) 0 (.ref I) (.ref D) (compEnvC scope cl C env) ∧ ∃ m₁, m₁ < xs.length + 1 - i ∧ CompI c m mu fz s C D I Sx xs.length (fun _ _ => True) (fun i => (xs.take i).flatMap fun d => (g d).map (f d)) m₁ s') (notedBy (model prog w) c.A (compEnvC scope cl C env) fun e s' => Rr (.error e) s') s' | .error e => False) (f d) hcap hkind hx hy hxy (hf d hdm) hlen0 X5 O1 st4 R5 (D1.mono s2) ⟨_, v, hN3, if_pos rfl, Dd.mono s2⟩ (fun oC6 vs6 n6 fz6 h6 t6 s6 R6 hN6 D6 => ?_)
    · refine codeAny_mono (start_in loop (O1.W.self 0 _ _ _ st4 loop)) fun r s' hr => ?_
      cases r with
      | ok f => exact hr
      | error e => exact hr.elim
    · refine wpAny_pure ⟨rfl, xs.length + 1 - (i + 1), by walk_at "om", i + 1, oC6, o2, vs6, n6, fz6, h6, t6, rfl, s1.trans (s2.trans s6), R6, (let ⟨mc, h⟩ := hN6; ⟨mc, h, trivial⟩), ?_, hlt, ?_, rfl⟩
      · exact (O.mono (s1.trans s2)).frame R5 R6 (o := o2) (by simp) (by simp) s6 st5
      · try dsimp only
        rw [take_step hd, List.flatMap_append]
        simpa using D6
  · have e : i = xs.length := by walk_at "om"
    subst e
    refine next_none [(C, oC'), (D, listOf vs n)] (O.mono s1) R1 st1 fun h2 t2 R2 => ?_
    rw [List.take_length] at D1
    exact wpAny_pure (k oC' vs n fz1 h2 t2 s1 R2 ⟨mc, hn1⟩ D1)
end
end Mine

end
section
open PySem PySem.W PyProof.Rows PySem.Calls
set_option Elab.async false
set_option linter.unusedVariables false
namespace Mine
section
variable {prog : Program} {w : World} {K : Frag} {c : Cx K} {env : Env} {S : St}
theorem Ev.comp2 {elt i0 i1 : Expr} {x y : Str} {px py : Pos} {scope : Scope} {cl : List (Str × Addr)} {pos : Pos} {Cp : St} {xs : List Dat} (g : Dat → List Dat) (f : Dat → Dat → Dat) (hit0 : EvIt prog w c env S i0 xs)
    (hclos : closureFor scope env = pure cl) (hcap : Cap env S scope cl Cp) (hkind : scope.kind = .function) (hcell : ∀ y ∈ scope.names, y.2 ≠ .cell) (hnames : ∀ x ∈ scope.names, x.2 = .local → scope.names.lookup x.1 = some .local) (hx : scope.names.lookup x = some .local) (hy : scope.names.lookup y = some .local) (hxy : x ≠ y)
    (hit : ∀ C, ∀ d ∈ xs, EvIt prog w c (compEnvC scope cl C env) ((x, .val d) :: Cp) i1 (g d)) (hs1 : ∀ C z, foldedSetIterable i1 (compEnvC scope cl C env) z = pure z)
    (hf : ∀ C, ∀ d ∈ xs, ∀ e ∈ g d, Ev prog w c (compEnvC scope cl C env) ((y, .val e) :: (x, .val d) :: Cp) elt (f d e)) (hz : (xs.flatMap g).length ≤ 2 ^ 20) (hs : autoParam (∀ z, foldedSetIterable i0 env z = pure z) Mine.sx1) :
    Ev prog w c env S (two elt (.Name x px) i0 (.Name y py) i1 scope pos) (.list (xs.flatMap fun d => (g d).map (f d))) := by
  intro m mu fz s Q R X k
  rw [eval_ListComp]
  refine wpAny_comprehension_free (use := none) rfl hs hclos hkind hnames ?_
  refine hit0 m mu fz s _ R X fun I o fp P Sx fz1 h1 t1 s1 R1 O st => ?_
  refine wpAny_newObj_type (wpAny_newFunctionEnv hcell (by intro y hy; simp at hy) (fun h2 hns hsb => ?_) hkind)
  have RD := R1.pushMu (listOf #[] 0)
  have RC := RD.pushMu { cls := .type "dict", data := .dict #[] }
  obtain ⟨oC, es, ep, g1, g2, g3, g4⟩ := hns
  have R2 := RC.turn (fun b y hb e => hsb.extBut b y hb e) g1
  have st2 : Sx 0 h2 := O.frame R1 R2 (o := o) (by simp) (by simp) (fun _ h => h) st
  have loop := comp2_out (prog := prog) (w := w) (elt := elt) (i0 := i0) (i1 := i1) (x := x) (y := y) (px := px) (py := py) (pos := pos) (s := { s with heap := h2, toks := t1 + ([] : List (Str × Value)).length })
    (Rr := compPost (model prog w) c.A NoE none Q (.ref h1.objs.size) (h1.push (listOf #[] 0)).objs.size) g f hcap hkind hx hy hxy (hit _) (hs1 _) (hf _) hz (X.mono s1) O st2 R2 ⟨_, es, ep, g2, g3, g4⟩ (fun oC' vs n fz' h' tk' s2 R3 hN D3 => ?_)
  · exact codeAny_compStart_list loop (O.W.self 0 _ _ _ st2 loop)
  · obtain ⟨mc, es', ep', n1, n2, n3⟩ := hN
    refine ⟨mc, ⟨oC', es', ep', R3.get (p := (_, oC')) List.mem_cons_self, n1, n2, n3⟩, fun h4 hs4 => ?_⟩
    have R4 : Rel c m ((_, listOf vs n) :: mu) fz' h4 := R3.popBut fun b y hb e => hs4.extBut b y hb e
    have e : listOf vs n = listOf vs.toList.toArray n := by simp
    rw [e] at R4
    exact k _ _ _ _ ((s1.trans s2).trans sub_cons) R4.freeze (.list List.mem_cons_self (D3.mono sub_cons))

theorem Ev.listCopy {np pos : Pos} {e : Expr} {ds : List Dat} (he : Ev prog w c env S e (.list ds)) (hz : ds.length ≤ sizeLine) (hg : nsIn K mainGlobals "list" = some none)
    (hx : autoParam (env.kindOf "list" = some .globalImplicit) Mine.sx0) (hs : autoParam (starEach [e] env = [(false, eval e env)]) Mine.sx0) :
    Ev prog w c env S (.Call (.Name "list" np) [e] [] pos) (.list ds) := by
  intro m mu fz s Q R X k
  refine call_t1 R X hx hg boot_list (by decide) (by decide) hs (he m mu fz s _ R X fun v fz1 h1 t1 s1 R1 D1 => ?_)
  cases D1 with
  | @list a vs n _ hm r =>
    obtain ⟨h₀, G, T, F, N⟩ := R1.ex
    refine list_copyK (s := { s with heap := h1, toks := t1 }) F N (isList_at (R1.get (List.mem_append_right _ hm))) (fun D c' h' F' N' l1 => ?_) (by rw [List.size_toArray, r.length]; exact hz)
    exact k _ _ h' t1 (s1.trans sub_cons) (Rel.mk1 G T F' N' R1.off R1.nd fun p hp => Nat.ne_of_lt (l1 p (List.mem_append_left _ hp))) (.list List.mem_cons_self (r.mono sub_cons))

end
end Mine

end
section
open PySem PySem.W PyProof.Rows PySem.Calls
set_option Elab.async false
set_option linter.unusedVariables false
namespace Mine
noncomputable def TopP (prog : Program) (w : World) (K : Frag) (P f : Addr) (d u : Nat) (ds : List Dat) (r : Dat) : Prop :=
  ∀ (p : Program) (loose : List Str) (mean : ExcName → Option Value) (mg mb : Str → Option Value) (s : Shared) (vs : List Value) (fz : Led) (oP : Obj) (R : Result → Shared → Prop),
    K.In (hideAll s.heap (((P, oP) :: fz).map (·.1))) → TopR p loose mean mg mb (hideAll s.heap (((P, oP) :: fz).map (·.1))) → DatAll fz vs ds → (∀ q ∈ (P, oP) :: fz, s.heap.get? q.1 = some q.2) → (∀ q ∈ fz, P ≠ q.1) → PSt oP → AllBare s.gens →
    1 + claimMargin + 1 + d ≤ recursionLimit → 4 + 3 + u ≤ cLine →
    (∀ v h' tk' gn' oP' fz', PSt oP' → AllBare gn' → h'.get? P = some oP' → (∀ b o, s.heap.get? b = some o → b ≠ P → h'.get? b = some o) → Sub fz fz' → DatIn fz' v r → (∀ q ∈ fz', h'.get? q.1 = some q.2) → R (.ok (.ret v)) { s with heap := h', toks := tk', gens := gn' }) →
    codeAny (model prog w) callerA (.call (.ref f) ⟨vs, []⟩) R s
theorem topP_of {prog : Program} {w : World} {K : Frag} {P f : Addr} {d u : Nat} {ps : List Str} {ds : List Dat} {r : Dat}
    {name qual : Str} {params : Arguments} {body : List Stmt} {scope : Scope} {dV kV doc pm cdv ct oc : Value} {an od : Option Addr} {osl : Array (Option Value)}
    (ho : K.lookup f = some ⟨oc, od, .func (fnOf name qual params body scope dV kV doc pm an cdv ct), osl⟩) (hcd : codeIn K cdv qual = true)
    (hlen : ps.length = ds.length) (hbind : ∀ (vs : List Value), vs.length = ps.length → ∀ s : Shared, K.In s.heap → BindsTo s (fnOf name qual params body scope dV kV doc pm an cdv ct) ⟨vs, []⟩ (ps.zip vs)) (hps : ps.Nodup)
    (hkb : (ps.all fun x => decide (scope.names.lookup x = some .local) || (decide (scope.names.lookup x = some .cell) && ((cellsFrom 0 scope.names []).lookup x).isSome)) = true)
    (hnd : ((cellsFrom 0 scope.names []).map (·.1)).Nodup)
    (hco : scope.isCoroutine = false) (hgen : scope.isGenerator = false) (hk : scope.kind = .function)
    (h : ∀ c : Cx K, c.dp + d ≤ recursionLimit → c.un + u ≤ cLine → c.a = f → c.ccd = cdv → PEx prog w c P (envOfC qual scope c.L f cdv) (ps.zip (ds.map Slot.val)) body r) : TopP prog w K P f d u ds r := by
  intro p loose mean mg mb s vs fz oP R X0 T0 Dv hN hoff hP hA hdp hun hret
  have hkind : ∀ n, ∀ x ∈ ps, scope.names.lookup x = some .local ∨ (scope.names.lookup x = some .cell ∧ ((cellsFrom n scope.names []).lookup x).isSome = true) := fun n x hx => by
    have q := List.all_eq_true.mp hkb x hx
    rw [Bool.or_eq_true, Bool.and_eq_true, decide_eq_true_eq, decide_eq_true_eq] at q
    exact q.imp id fun ⟨a, b⟩ => ⟨a, (look_names (cellsFrom_names scope.names n 0 [] [] rfl)).trans b⟩
  have hl : vs.length = ps.length := by rw [Dv.length, hlen]
  have up : ∀ b o, (hideAll s.heap (((P, oP) :: fz).map (·.1))).get? b = some o → s.heap.get? b = some o := fun b o e => of_hideAll _ e
  have Xc : K.In s.heap := X0.keeps up
  have G : Gd K p loose mean mg mb callerA (hideAll s.heap (((P, oP) :: fz).map (·.1))) [] (hideAll s.heap (((P, oP) :: fz).map (·.1))) := ⟨⟨rfl, fun _ _ e => e, trivial⟩, X0, T0, X0, T0, fun b hb => nomatch hb⟩
  refine codeAny_call_function (fd := fnOf name qual params body scope dV kV doc pm an cdv ct) (by show 1 + claimMargin < recursionLimit; walk_at "om") (Xc _ _ ho) rfl hco hgen rfl (codeRec_of Xc hcd) ((hbind vs hl s Xc) _ _ _ _ ?_)
  refine wpAny_newFunctionEnv_cells hk (fun x hx => hkind _ x.1 (List.of_mem_zip hx).1) fun env' he s' x => ?_
  subst he
  refine ⟨(T0.nolimit.keeps up).keeps x.toInCall.keep, codeAny_func ?_⟩
  obtain ⟨h₁, tk, rfl, _⟩ := x.done
  have hk₁ := x.toInCall.keep
  obtain ⟨cells, NC, Y⟩ := Cl.news (h₀ := s.heap) (Nat.le_refl _) fun n c hm => ⟨x.cell n c (lookup_of_mem_nodup (cellsFrom_names scope.names 0 (s.heap.objs.size + 1) [] [] rfl ▸ hnd) hm), x.above n c hm⟩
  have Y : CellsAre (bindC (envOfC qual scope s.heap.objs.size f cdv).kindOf (ps.zip vs) fun _ => none) (cellsFrom (s.heap.objs.size + 1) scope.names []) cells := Y
  have hgt := cells_above Y fun n c hm => x.above n c hm
  have hlt : ∀ p ∈ (P, oP) :: fz, p.1 < s.heap.objs.size := fun p hp => Heap.lt_size (hN p hp)
  have F : Fr (hideAll s.heap (((P, oP) :: fz).map (·.1))) s.heap.objs.size h₁ (bindL (envOfC qual scope s.heap.objs.size f cdv).kindOf (ps.zip vs) fun _ => none) := ⟨x.toInCall.ns, fun b o e => hk₁ b o (of_hideAll _ e), Nat.le_of_eq (hideAll_size _ _)⟩
  have NP : ∀ p ∈ (P, oP) :: fz, h₁.get? p.1 = some p.2 ∧ p.1 ≠ s.heap.objs.size ∧ (hideAll s.heap (((P, oP) :: fz).map (·.1))).get? p.1 = none := fun p hp => ⟨hk₁ _ _ (hN p hp), Nat.ne_of_lt (Heap.lt_size (hN p hp)), hideAll_none _ (List.mem_map_of_mem hp)⟩
  have N : News (hideAll s.heap (((P, oP) :: fz).map (·.1))) s.heap.objs.size h₁ (((P, oP) :: cells) ++ fz) := fun p hp => by
    rcases List.mem_append.mp hp with hp | hp
    · rcases List.mem_cons.mp hp with e | hp
      · rw [e]; exact NP _ List.mem_cons_self
      · refine ⟨(NC p hp).1, (NC p hp).2.1, ?_⟩
        cases q : (hideAll s.heap (((P, oP) :: fz).map (·.1))).get? p.1 with
        | none => rfl
        | some o => have := of_hideAll _ q; rw [(NC p hp).2.2] at this; cases this
    · exact NP p (List.mem_cons_of_mem _ hp)
  have hap := x.apart
  let c : Cx K := { p, loose, mean, mg, mb, dp := 1 + claimMargin + 1, un := 4 + 3, gd := some [], cn := qual, cs := scope, a := f, ccd := cdv, cl := cellsFrom (s.heap.objs.size + 1) scope.names [], outer := [], A₀ := callerA, base := hideAll s.heap (((P, oP) :: fz).map (·.1)), ge := hideAll s.heap (((P, oP) :: fz).map (·.1)), L := s.heap.objs.size, hcs := hk }
  have nd : cells.Pairwise fun p q => p.1 ≠ q.1 := by
    have e := cellsAre_addr Y
    have h1 : (cells.map (·.1)).Pairwise (· ≠ ·) := by rw [e]; exact List.pairwise_map.mpr hap
    exact List.pairwise_map.mp h1
  have Pne : ∀ q ∈ cells, P ≠ q.1 := fun q hq => Nat.ne_of_lt (Nat.lt_trans (hlt (P, oP) List.mem_cons_self) (hgt q hq))
  have Rl : Rel c (bindL (envOfC qual scope s.heap.objs.size f cdv).kindOf (ps.zip vs) fun _ => none) ((P, oP) :: cells) fz h₁ := ⟨⟨_, G, KtsTurn.refl, F, N⟩, fun p hp q hq => by
    rcases List.mem_cons.mp hp with e | hp
    · rw [e]; exact hoff q hq
    · exact Nat.ne_of_gt (Nat.lt_trans (hlt q (List.mem_cons_of_mem _ hq)) (hgt p hp)), List.pairwise_cons.mpr ⟨Pne, nd⟩⟩
  have bn : ((ps.zip vs).map (·.1)).Nodup := by rw [List.map_fst_zip (by walk_at "om")]; exact hps
  have zip : ∀ (ps : List Str) (vs : List Value) (ds : List Dat), DatAll fz vs ds → ps.length = ds.length → ∀ x sl, (x, sl) ∈ ps.zip (ds.map Slot.val) → ∃ v d, sl = .val d ∧ (x, v) ∈ ps.zip vs ∧ DatIn fz v d := by
    intro ps
    induction ps with
    | nil => intro vs ds _ _ x sl hm; simp at hm
    | cons y ps ih =>
      intro vs ds D hl x sl hm
      cases D with
      | nil => simp at hl
      | cons D1 D2 =>
        simp only [List.map_cons, List.zip_cons_cons, List.mem_cons] at hm
        rcases hm with e | e
        · cases e; exact ⟨_, _, rfl, List.mem_cons_self, D1⟩
        · obtain ⟨v, d, h1, h2, h3⟩ := ih _ _ D2 (by simpa using hl) x sl e
          exact ⟨v, d, h1, List.mem_cons_of_mem _ h2, h3⟩
  have noOwn : ∀ x es, (ps.zip (ds.map Slot.val)).lookup x ≠ some (.own es) := fun x es hx => by
    obtain ⟨v, d', e, _, _⟩ := zip ps vs ds Dv hlen x _ (mem_of_lookup' hx)
    cases e
  have X : SatS c (envOfC qual scope s.heap.objs.size f cdv) (ps.zip (ds.map Slot.val)) (bindL (envOfC qual scope s.heap.objs.size f cdv).kindOf (ps.zip vs) fun _ => none) ((P, oP) :: cells) fz := by
    refine ⟨⟨hk, rfl, rfl, fun x d hx => ?_, fun x es hx => absurd hx (noOwn x es)⟩, rfl, fun x a hx => ?_, fun x y a h1 h2 => name_of_addr hap (mem_of_lookup' h1) (mem_of_lookup' h2), fun x y es es' a h1 => absurd h1 (noOwn x es)⟩
    · obtain ⟨v, d', e, h2, h3⟩ := zip ps vs ds Dv hlen x _ (mem_of_lookup' hx)
      cases e
      refine ⟨v, ?_, h3⟩
      rcases hkind (s.heap.objs.size + 1) x (List.of_mem_zip h2).1 with kx | ⟨kx, cx⟩
      · exact .loc kx rfl (bindL_at kx bn h2)
      · obtain ⟨a, ha⟩ := Option.isSome_iff_exists.mp cx
        obtain ⟨o, ho, hd⟩ := cellsAre_mem Y (mem_of_lookup' ha)
        refine .cell kx ha (List.mem_cons_of_mem _ ho) (hd.trans ?_)
        rw [bindC_at (show (envOfC qual scope s.heap.objs.size f cdv).kindOf x ≠ some .local from fun q => by
          have q2 : scope.names.lookup x = some .local := q
          rw [kx] at q2; cases q2) bn h2]
    · obtain ⟨o, ho, hd⟩ := cellsAre_mem Y (mem_of_lookup' hx)
      exact ⟨o, _, List.mem_cons_of_mem _ ho, hd⟩
  have J : Jk c (envOfC qual scope s.heap.objs.size f cdv) (ps.zip (ds.map Slot.val)) [(P, oP)] (bindL (envOfC qual scope s.heap.objs.size f cdv).kindOf (ps.zip vs) fun _ => none) ((P, oP) :: cells) := by
    refine ⟨fun p hp => ?_, fun p hp x a hx => ?_, fun p hp x es a hx => absurd hx (noOwn x es), List.pairwise_singleton _ _⟩
    · rw [List.mem_singleton.mp hp]; exact List.mem_cons_self
    · rw [List.mem_singleton.mp hp]
      obtain ⟨o, ho, _⟩ := cellsAre_mem Y (mem_of_lookup' hx)
      exact Pne _ ho
  refine wpAny_mono (h c (by show 1 + claimMargin + 1 + d ≤ _; walk_at "om") (by show 4 + 3 + u ≤ _; walk_at "om") rfl rfl [] _ ((P, oP) :: cells) fz { s with heap := h₁, toks := tk } (fun fl s' => R (.ok (.ret (match fl with | .ret v => v | _ => .none))) s') oP hP hA ⟨Rl, X, J⟩ ?_) (fun _ _ y => y) (fun _ _ y => y.elim)
  intro v m' mu' fz' h' tk' gn' oP' hP' hA' s1 R' hm' D
  obtain ⟨g', G', T', F', N'⟩ := R'.ex
  have N2 : ∀ q ∈ fz', h'.get? q.1 = some q.2 := fun q hq => (N' q (List.mem_append_right _ hq)).1
  refine hret v h' tk' gn' oP' fz' hP' hA' (N' _ (List.mem_append_left _ hm')).1 (fun b o e hb => ?_) s1 D N2
  by_cases hbf : b ∈ fz.map (·.1)
  · obtain ⟨q, hq, rfl⟩ := List.mem_map.mp hbf
    have := hN q (List.mem_cons_of_mem _ hq)
    rw [e] at this; cases this
    exact N2 q (s1 q hq)
  · have e1 : (hideAll s.heap (((P, oP) :: fz).map (·.1))).get? b = some o := hideAll_get _ e fun hm => by
      rcases List.mem_cons.mp hm with z | z
      · exact hb z
      · exact hbf z
    exact F'.keep b o (T'.other b o e1 fun z => nomatch z)
end Mine

end
section
open PySem PySem.W PyProof.Rows PySem.Calls
set_option Elab.async false
set_option linter.unusedVariables false
set_option maxRecDepth 100000
namespace Mine
section
variable {prog : Program} {w : World} {K : Frag} {c : Cx K} {env : Env} {S : St}
inductive WhI {K : Frag} (c : Cx K) (env : Env) (Si : Nat → St) (fz : Led) (jk : Led) (n : Nat) (s : Shared) (q : Nat) (s' : Shared) : Prop
  | mk (i : Nat) (m' : Str → Option Value) (mu' fz' : Led) (h' : Heap) (tk' : Nat) : s' = { s with heap := h', toks := tk' } → Sub fz fz' → Full c env (Si i) jk m' mu' fz' h' → i ≤ n → q = n - i → WhI c env Si fz jk n s q s'
theorem Ex1.while_ {test : Expr} {body : List Stmt} {pos : Pos} (Si : Nat → St) (n : Nat) (h0 : Le S (Si 0)) (ht : ∀ i, i < n → Tst prog w c env (Si i) test true) (hz : Tst prog w c env (Si n) test false)
    (hb : ∀ i, i < n → Ex prog w c env (Si i) body (.next (Si (i + 1)))) : Ex1 prog w c env S (.While test body [] pos) (.next (Si n)) := by
  intro jk m mu fz s Q F g
  refine wpAny_While (codeAny_whileLoop (I := WhI c env Si fz jk n s) ?_ n ⟨0, m, mu, fz, s.heap, s.toks, rfl, fun _ h => h, F.less h0, Nat.zero_le _, rfl⟩)
  rintro q s' ⟨i, m1, mu1, fz1, h1, t1, rfl, s1, F1, hi, rfl⟩
  by_cases hlt : i < n
  · refine wpAny_mono (ht i hlt m1 mu1 fz1 { s with heap := h1, toks := t1 } (fun b s₂ => b = true ∧ ∃ fz' h' tk', s₂ = { s with heap := h', toks := tk' } ∧ Sub fz1 fz' ∧ Rel c m1 mu1 fz' h') F1.R F1.X.toSat fun fz' h' tk' s2 R2 => ⟨rfl, fz', h', tk', rfl, s2, R2⟩) (fun b s₂ hb2 => ?_) fun _ _ x => x.elim
    obtain ⟨rfl, fz2, h2, t2, rfl, s2, R2⟩ := hb2
    simp only [if_true]
    refine wpAny_mono (hb i hlt jk m1 mu1 fz2 { s with heap := h2, toks := t2 } (fun fl s5 => fl = .next ∧ ∃ m' mu' fz' h' tk', s5 = { s with heap := h', toks := tk' } ∧ Sub fz2 fz' ∧ Full c env (Si (i + 1)) jk m' mu' fz' h') (F1.to s2 R2) fun m' mu' fz' h' tk' s5 F5 => ⟨rfl, m', mu', fz', h', tk', rfl, s5, F5⟩) (fun fl s5 h5 => ?_) fun _ _ x => x.elim
    obtain ⟨rfl, m5, mu5, fz5, h5, t5, rfl, s5, F5⟩ := h5
    exact ⟨n - (i + 1), by walk_at "om", i + 1, m5, mu5, fz5, h5, t5, rfl, s1.trans (s2.trans s5), F5, hlt, rfl⟩
  · obtain rfl : i = n := by walk_at "om"
    refine wpAny_mono (hz m1 mu1 fz1 { s with heap := h1, toks := t1 } (fun b s₂ => b = false ∧ ∃ fz' h' tk', s₂ = { s with heap := h', toks := tk' } ∧ Sub fz1 fz' ∧ Rel c m1 mu1 fz' h') F1.R F1.X.toSat fun fz' h' tk' s2 R2 => ⟨rfl, fz', h', tk', rfl, s2, R2⟩) (fun b s₂ hb2 => ?_) fun _ _ x => x.elim
    obtain ⟨rfl, fz2, h2, t2, rfl, s2, R2⟩ := hb2
    simp only [Bool.false_eq_true, if_false]
    exact wpAny_execs_nil (g m1 mu1 fz2 h2 t2 (s1.trans s2) (F1.to s2 R2))

theorem Ev.count {o e : Expr} {ap cp : Pos} {ns : List Int} {k : Int} (ho : EvB prog w c env S o (.list (intsD ns))) (he : Ev prog w c env S e (.int k)) (hline : autoParam ((ap.endLine == cp.line) = true) Mine.sx0) (hbase : autoParam (attributeBase o "count" env (eval o env) = eval o env) Mine.sx0)
    (htrees : autoParam (backTo cp (starEach [e] env) = [(false, eval e env)]) Mine.sx0) : Ev prog w c env S (.Call (.Attribute o "count" ap) [e] [] cp) (.int (ns.count k : Nat)) := by
  intro m mu fz s Q R X kk
  refine wpAny_Call_method1_late hbase hline htrees (ho m mu fz s _ R X fun v fz1 h1 t1 s1 R1 D1 => ?_)
  cases D1 with
  | @list a vs n _ hm r =>
  have hl := isList_at (R1.get hm)
  refine ⟨"list", "list.count", PySem.F.plainAttrs_list, PySem.F.slot_list_count, PySem.F.type_list_count, hl.typeIs, fun a' e' => ?_, ?_⟩
  · cases e'; exact ⟨_, R1.get hm, rfl⟩
  refine callWith_builtin rfl (evalArgs_plain (spliced_cons (he m mu fz1 _ _ R1 (X.mono s1) fun v fz' h' tk' s2 R' D => spliced_nil ?_)))
  cases D
  have up : Sub (mu ++ fz1) (mu ++ fz') := fun p hp => (List.mem_append.mp hp).elim (fun x => List.mem_append_left _ x) fun x => List.mem_append_right _ (s2 p x)
  exact count_list_ints (isList_at (R'.get (up _ hm))) (intsAre_of r) (kk _ fz' h' _ (s1.trans s2) R' (.int _ _))

theorem boot_min : bootBuiltins "min" = some (.builtin "min") := by decide +kernel
theorem Ev.min {np pos : Pos} {e : Expr} {ns : List Int} {a : Int} (he : EvB prog w c env S e (.list (intsD ns))) (ha : ∀ M, M ∈ ns → (∀ x ∈ ns, M ≤ x) → M = a) (hne : 0 < ns.length) (hg : nsIn K mainGlobals "min" = some none) (hx : autoParam (env.kindOf "min" = some .globalImplicit) Mine.sx0) (hs : autoParam (starEach [e] env = [(false, eval e env)]) Mine.sx0) :
    Ev prog w c env S (.Call (.Name "min" np) [e] [] pos) (.int a) := by
  intro m mu fz s Q R X k
  refine call_b1 R X hx hg boot_min (by decide) (by decide) hs (he m mu fz s _ R X fun v fz1 h1 t1 s1 R1 D1 => ?_)
  cases D1 with
  | @list _ vs _ _ hm r =>
    obtain ⟨h₀, G, T, F, N⟩ := R1.ex
    refine min_list_N rfl F N (isList_at (R1.get hm)) (intsAre_of r) hne fun h' M t tk F' N' hM hle => ?_
    obtain rfl := ha M hM hle
    exact k _ fz1 h' tk s1 ⟨⟨h₀, G, T, F', N'⟩, R1.off, R1.nd⟩ (.int _ _)

theorem Ev.countStr {o e : Expr} {ap cp : Pos} {x y : Str} (ho : Ev prog w c env S o (.str x)) (he : Ev prog w c env S e (.str y)) (hline : autoParam ((ap.endLine == cp.line) = true) Mine.sx0) (hbase : autoParam (attributeBase o "count" env (eval o env) = eval o env) Mine.sx0)
    (hs : autoParam (starEach [e] env = [(false, eval e env)]) Mine.sx0) : Ev prog w c env S (.Call (.Attribute o "count" ap) [e] [] cp) (.int (PySem.Txt.count x y)) := by
  intro m mu fz s Q R X k
  refine Call_method1 hbase hs hline (ho m mu fz s _ R X fun v fz1 h1 t1 s1 R1 D1 => ?_)
  cases D1
  refine SB.count (he m mu fz1 _ _ R1 (X.mono s1) fun v2 fz2 h2 t2 s2 R2 D2 => ?_)
  cases D2
  exact ⟨_, _, rfl, k _ fz2 h2 _ (s1.trans s2) R2 (.int _ _)⟩
end
end Mine

end
section
open PySem PySem.W PyProof.Rows PySem.Calls
set_option Elab.async false
set_option linter.unusedVariables false
set_option maxRecDepth 100000
namespace Mine
section
variable {prog : Program} {w : World} {K : Frag} {c : Cx K} {env : Env} {S : St}

theorem tup2 {x y : Str} {px py tp : Pos} {kk : Nat} {d1 d2 : Dat} {jk : Led} {m : Str → Option Value} {mu fz : Led} {s : Shared} {v : Value} {Q : Unit → Shared → Prop} (F : Full c env S jk m mu fz s.heap) (D : DatIn fz v (.tuple [d1, d2])) (hwx : Wr env x) (hwy : Wr env y)
    (k : ∀ m' mu' h' tk', Full c env ((y, .val d2) :: (x, .val d1) :: S) jk m' mu' fz h' → Q () { s with heap := h', toks := tk' }) :
    wpAny (model prog w) c.A (assign (.Tuple [.Name x px, .Name y py] kk tp) env v) Q NoE s := by
  cases D with
  | @tuple a vs _ _ hm r =>
  have ht := F.R.get (List.mem_append_right _ hm)
  obtain ⟨h₀, G, T, F0, N⟩ := F.R.ex
  cases r with
  | @cons v1 _ vs _ D1 r =>
  cases r with
  | @cons v2 _ vs _ D2 r =>
  cases r
  refine unpackN_ (items := [v1, v2].toArray) F0 N ⟨_, ht, rfl, _, rfl⟩ rfl rfl rfl fun h' F' N' => ?_
  have R' : Rel c m mu fz h' := ⟨⟨h₀, G, T, F', N'⟩, F.R.off, F.R.nd⟩
  have F1 := F.to (fun _ h => h) R'
  show wpAny _ _ (holding [v2] (assign (.Name x px) env v1) >>= fun _ => (holding [] (assign (.Name y py) env v2) >>= fun _ => pure ())) _ _ _
  refine wpAny_bind (wpAny_holding (wpAny_assign_Name (store_val (s := { s with heap := h' }) F1 hwx D1 fun m1 mu1 h1 t1 F2 => ?_)))
  refine wpAny_bind (wpAny_holding (wpAny_assign_Name (store_val (s := { s with heap := h1, toks := t1 }) F2 hwy D2 fun m2 mu2 h2 t2 F3 => ?_)))
  exact wpAny_pure (k m2 mu2 h2 t2 F3)
theorem Ex1.assignTup2 {x y : Str} {px py tp pos : Pos} {kk : Nat} {e : Expr} {d1 d2 : Dat} (h : Ev prog w c env S e (.tuple [d1, d2])) (hwx : Wr env x) (hwy : Wr env y)
    (hs : autoParam (swapsWithSole [.Tuple [.Name x px, .Name y py] kk tp] e pos.line env = pure false) Mine.sx0) (hw : autoParam (swappedStores [.Tuple [.Name x px, .Name y py] kk tp] e env = pure none) Mine.sx0) :
    Ex1 prog w c env S (.Assign [.Tuple [.Name x px, .Name y py] kk tp] e pos) (.next ((y, .val d2) :: (x, .val d1) :: S)) := by
  intro jk m mu fz s Q F g
  refine Assign_Tuple (h m mu fz s _ F.R F.X.toSat fun v fz1 h1 t1 s1 R1 D1 => ?_) hs hw
  exact tup2 (s := { s with heap := h1, toks := t1 }) (F.to s1 R1) D1 hwx hwy fun m' mu' h' tk' F' => g m' mu' fz1 h' tk' s1 F'

theorem boolAnd_true {M : Model} {A : Around} {E : Value → Shared → Prop} {Q : Value → Shared → Prop} {s : Shared} {pos : Pos} {x : Sem Value} {y : Sem Value} {rest : List (Sem Value)} (h : wpAny M A x (fun v s' => v = .bool true ∧ wpAny M A (boolOp pos .And (y :: rest)) Q E s') E s) : wpAny M A (boolOp pos .And (x :: y :: rest)) Q E s := by
  show wpAny M A (x >>= fun v => standAt pos >>= fun _ => holding [v] (truthy v) >>= fun t => _) Q E s
  refine wpAny_bind (wpAny_mono h (fun v s' hv => ?_) fun _ _ e => e)
  obtain ⟨rfl, h2⟩ := hv
  exact wpAny_bind (wpAny_standAt (wpAny_bind (wpAny_holding (wpAny_truthy_bool h2))))
theorem Ev.and3 {e1 e2 e3 : Expr} {pos : Pos} (h1 : Ev prog w c env S e1 (.bool true)) (h2 : Ev prog w c env S e2 (.bool true)) (h3 : Ev prog w c env S e3 (.bool true)) : Ev prog w c env S (.BoolOp .And [e1, e2, e3] pos) (.bool true) := by
  intro m mu fz s Q R X k
  show wpAny _ _ (boolOp pos .And [eval e1 env, eval e2 env, eval e3 env]) _ _ _
  refine boolAnd_true (h1 m mu fz s _ R X fun v fz1 t1 k1 s1 R1 D1 => ?_)
  cases D1
  refine ⟨rfl, boolAnd_true (h2 m mu fz1 _ _ R1 (X.mono s1) fun v fz2 t2 k2 s2 R2 D2 => ?_)⟩
  cases D2
  refine ⟨rfl, ?_⟩
  show wpAny _ _ (eval e3 env) _ _ _
  exact h3 m mu fz2 _ _ R2 (X.mono (s1.trans s2)) fun v fz3 t3 k3 s3 R3 D3 => k v fz3 t3 k3 (s1.trans (s2.trans s3)) R3 D3
theorem EvP.and2 {P : Addr} {e1 e2 : Expr} {pos : Pos} (h1 : EvP prog w c P env S e1 (.bool true)) (h2 : EvP prog w c P env S e2 (.bool true)) : EvP prog w c P env S (.BoolOp .And [e1, e2] pos) (.bool true) := by
  intro jk m mu fz s Q oP hP hA F k
  show wpAny _ _ (boolOp pos .And [eval e1 env, eval e2 env]) _ _ _
  refine boolAnd_true (h1 jk m mu fz s _ oP hP hA F fun v mu1 fz1 t1 k1 g1 o1 hP1 hA1 s1 F1 D1 => ?_)
  cases D1
  refine ⟨rfl, ?_⟩
  show wpAny _ _ (eval e2 env) _ _ _
  exact h2 jk m mu1 fz1 _ _ o1 hP1 hA1 F1 fun v mu2 fz2 t2 k2 g2 o2 hP2 hA2 s2 F2 D2 => k v mu2 fz2 t2 k2 g2 o2 hP2 hA2 (s1.trans s2) F2 D2

noncomputable def pickL {α : Type} (l : List α) (lo hi st : Option Int) : List α := (sliceRange (sliceBounds lo hi st l.length).1 (sliceBounds lo hi st l.length).2.1 (sliceBounds lo hi st l.length).2.2).filterMap (l[·]?)
theorem datAll_places {nw : Led} {vs : List Value} {ds : List Dat} (h : DatAll nw vs ds) : ∀ js : List Nat, DatAll nw (js.filterMap (vs[·]?)) (js.filterMap (ds[·]?))
  | [] => .nil
  | j :: js => by
    have ih := datAll_places h js
    by_cases hj : j < ds.length
    · obtain ⟨v, hv1, hv2⟩ := h.get hj
      simp only [List.filterMap_cons, hv1, List.getElem?_eq_getElem hj]
      exact .cons hv2 ih
    · have e1 : ds[j]? = none := List.getElem?_eq_none (by walk_at "om")
      have e2 : vs[j]? = none := List.getElem?_eq_none (by rw [h.length]; walk_at "om")
      simp only [List.filterMap_cons, e1, e2]
      exact ih
theorem datAll_pick {nw : Led} {vs : List Value} {ds : List Dat} (h : DatAll nw vs ds) (lo hi st : Option Int) : DatAll nw (slicePick vs.toArray lo hi st).toList (pickL ds lo hi st) := by
  have e : (slicePick vs.toArray lo hi st).toList = (sliceRange (sliceBounds lo hi st ds.length).1 (sliceBounds lo hi st ds.length).2.1 (sliceBounds lo hi st ds.length).2.2).filterMap (vs[·]?) := by
    simp [slicePick, h.length]
  rw [e]
  exact datAll_places h _
theorem pickL_map {α β : Type} (f : α → β) (l : List α) (lo hi st : Option Int) : pickL (l.map f) lo hi st = (pickL l lo hi st).map f := by
  unfold pickL
  rw [List.length_map, List.map_filterMap]
  congr 1
  funext j
  simp

noncomputable def PartOk (prog : Program) (w : World) {K : Frag} (c : Cx K) (env : Env) (S : St) (e : Option Expr) (i : Option Int) : Prop :=
  match e, i with
  | none, none => True
  | some e, some i => Ev prog w c env S e (.int i)
  | _, _ => False
theorem PartOk.go {e : Option Expr} {i : Option Int} (h : PartOk prog w c env S e i) {m : Str → Option Value} {mu fz : Led} {s : Shared} {Q : Value → Shared → Prop} (R : Rel c m mu fz s.heap) (X : Sat c env S m mu fz)
    (k : ∀ v fz' h' tk', Sub fz fz' → Rel c m mu fz' h' → IsPart v i → Q v { s with heap := h', toks := tk' }) : wpAny (model prog w) c.A (evalPart e env) Q NoE s := by
  match e, i, h with
  | none, none, _ => rw [evalPart_none]; exact wpAny_pure (k _ fz s.heap s.toks (fun _ h => h) R .none)
  | some e, some i, h =>
    rw [evalPart_some]
    refine h m mu fz s _ R X fun v fz' h' tk' s1 R1 D => ?_
    cases D
    exact k _ fz' h' tk' s1 R1 (.int _ _)

theorem Ev.slice {value : Expr} {lo hi : Option Expr} {pos sp : Pos} {ds : List Dat} {a b : Option Int} (hv : Ev prog w c env S value (.list ds)) (ha : PartOk prog w c env S lo a) (hb : PartOk prog w c env S hi b) (hz : ds.length ≤ sizeLine)
    (hs : autoParam (∀ o i, subscripted (.Slice lo hi none sp) false o i = operate [i, o] (getItem o i)) Mine.sx2) (ht : autoParam (∀ o r, letTemporaryGo value o r = pure ()) Mine.sx2) :
    Ev prog w c env S (.Subscript value (.Slice lo hi none sp) pos) (.list (pickL ds a b none)) := by
  intro m mu fz s Q R X k
  refine Subscript_ (hv m mu fz s _ R X fun v fz1 h1 t1 s1 R1 D1 => ?_)
  cases D1 with
  | @list l vs n _ hm r =>
    refine wpAny_Slice (ha.go (s := { s with heap := h1, toks := t1 }) R1 (X.mono s1) fun v1 fz2 h2 t2 s2 R2 p1 => hb.go (s := { s with heap := h2, toks := t2 }) R2 (X.mono (s1.trans s2)) fun v2 fz3 h3 t3 s3 R3 p2 => ?_)
    rw [evalPart_none]
    refine wpAny_pure ?_
    have hl := isList_at (R3.get (List.mem_append_right _ (s3 _ (s2 _ hm))))
    obtain ⟨h₀, G, T, F, N⟩ := R3.ex
    refine slice_list (s := { s with heap := h3, toks := t3 }) F N hl p1 p2 (fun h' F' N' => ?_) (hs _ _) (ht _) (by rw [List.size_toArray, r.length]; exact hz)
    have e : slicePick vs.toArray a b none = (slicePick vs.toArray a b none).toList.toArray := by simp
    rw [e] at N'
    exact k _ _ h' _ (s1.trans (s2.trans (s3.trans (sub_cons (a := (_, listOf (slicePick vs.toArray a b none).toList.toArray 0)))))) (Rel.mk1 G T F' N' R3.off R3.nd fun p hp => Nat.ne_of_lt (Nat.lt_succ_of_lt (R3.lt (List.mem_append_left _ hp)))) (.list List.mem_cons_self ((datAll_pick (r.mono (s2.trans s3)) a b none).mono sub_cons))
theorem Ev.sliceSt {value st : Expr} {lo hi : Option Expr} {pos sp : Pos} {ds : List Dat} {a b : Option Int} {z : Int} (hv : Ev prog w c env S value (.list ds)) (ha : PartOk prog w c env S lo a) (hb : PartOk prog w c env S hi b) (hst : Ev prog w c env S st (.int z)) (h0 : z ≠ 0) (hz : ds.length ≤ sizeLine)
    (hs : autoParam (∀ o i, subscripted (.Slice lo hi (some st) sp) false o i = operate [o, i] (getItem o i)) Mine.sx2) (ht : autoParam (∀ o r, letTemporaryGo value o r = pure ()) Mine.sx2) :
    Ev prog w c env S (.Subscript value (.Slice lo hi (some st) sp) pos) (.list (pickL ds a b (some z))) := by
  intro m mu fz s Q R X k
  refine Subscript_ (hv m mu fz s _ R X fun v fz1 h1 t1 s1 R1 D1 => ?_)
  cases D1 with
  | @list l vs n _ hm r =>
    refine wpAny_Slice (ha.go (s := { s with heap := h1, toks := t1 }) R1 (X.mono s1) fun v1 fz2 h2 t2 s2 R2 p1 => hb.go (s := { s with heap := h2, toks := t2 }) R2 (X.mono (s1.trans s2)) fun v2 fz3 h3 t3 s3 R3 p2 => ?_)
    rw [evalPart_some]
    refine hst m mu fz3 { s with heap := h3, toks := t3 } _ R3 (X.mono (s1.trans (s2.trans s3))) fun v3 fz4 h4 t4 s4 R4 D4 => ?_
    cases D4
    have hl := isList_at (R4.get (List.mem_append_right _ (s4 _ (s3 _ (s2 _ hm)))))
    obtain ⟨h₀, G, T, F, N⟩ := R4.ex
    refine slice_list3 (s := { s with heap := h4, toks := t4 }) F N hl p1 p2 (.int _ _) (by simpa using h0) (fun h' F' N' => ?_) (hs _ _) (ht _) (by rw [List.size_toArray, r.length]; exact hz)
    have e : slicePick vs.toArray a b (some z) = (slicePick vs.toArray a b (some z)).toList.toArray := by simp
    rw [e] at N'
    exact k _ _ h' _ (s1.trans (s2.trans (s3.trans (s4.trans (sub_cons (a := (_, listOf (slicePick vs.toArray a b (some z)).toList.toArray 0))))))) (Rel.mk1 G T F' N' R4.off R4.nd fun p hp => Nat.ne_of_lt (Nat.lt_succ_of_lt (R4.lt (List.mem_append_left _ hp)))) (.list List.mem_cons_self ((datAll_pick (r.mono (s2.trans (s3.trans s4))) a b (some z)).mono sub_cons))
end
end Mine

end
section
open PySem PySem.W PyProof.Rows PySem.Calls
set_option Elab.async false
set_option maxRecDepth 100000
set_option linter.unusedVariables false
namespace Mine
open Builtin
theorem forIn_walk {σ : Type} {f : Nat → σ → Sem (ForInStep σ)} {st : Nat → σ} (N : Nat) (h : ∀ k i, i < N → f k (st i) = pure (.yield (st (i + 1)))) : ∀ (n k i : Nat), i + n = N → forIn (List.range' k n) (st i) f = pure (st N)
  | 0, k, i, e => by
    have : i = N := by walk_at "om"
    rw [this]; rfl
  | n + 1, k, i, e => by
    rw [List.range'_succ, List.forIn_cons, h k i (by walk_at "om"), pure_bind]
    exact forIn_walk N h n (k + 1) (i + 1) (by walk_at "om")
theorem run_ascii {id : String} {b : List UInt8} (hb : ∀ c ∈ b, c.toNat < 128) (hz : b.length ≤ 1000) : _codecs.runDecoder id _codecs.asciiDecoder none true b.toArray 0 [] = pure ((b.map (·.toNat)).toArray, b.length) := by
  unfold _codecs.runDecoder
  simp only [Std.Legacy.Range.forIn_eq_forIn_range', Std.Legacy.Range.size]
  have e0 : (b.toArray.size - 0 + 1 - 1) / 1 = b.length := by simp
  rw [e0]
  refine (congrArg (· >>= _) (forIn_walk (σ := Nat × Array Nat × _codecs.Faults) (st := fun i => (i, ((b.take i).map (·.toNat)).toArray, {})) b.length (fun k i hi => ?_) b.length 0 0 (by walk_at "om"))).trans ?_
  · dsimp only
    have h1 : ¬ ((b.take i).map (·.toNat)).toArray.size > sizeLine := by
      rw [List.size_toArray, List.length_map, List.length_take, sizeLine_eq]; walk_at "om"
    have h2 : ¬ i ≥ b.toArray.size := by rw [List.size_toArray]; walk_at "om"
    rw [if_neg h1, if_neg h2]
    have h3 : _codecs.asciiDecoder.find true b.toArray i = .text [b[i].toNat] (i + 1) := by
      show (if ((b.toArray.getD i 0).toNat) < 128 then _ else _) = _
      have e1 : b.toArray.getD i 0 = b[i] := by simp [hi]
      rw [e1, if_pos (hb _ (List.getElem_mem hi))]
      rfl
    rw [h3]
    have e4 : ((b.take i).map (·.toNat)).toArray ++ [b[i].toNat].toArray = ((b.take (i + 1)).map (·.toNat)).toArray := by
      rw [List.append_toArray, List.take_add_one, List.getElem?_eq_getElem hi, List.map_append]; rfl
    show pure (ForInStep.yield (i + 1, ((b.take i).map (·.toNat)).toArray ++ [b[i].toNat].toArray, _)) = _
    rw [e4]
  · simp
theorem road_ascii {id : String} {b : Array UInt8} : _codecs.decodeRoad id b (PySem.Str.ofString "ascii") none [] = (_codecs.runDecoder id _codecs.asciiDecoder none true b 0 [] >>= fun r => mkStr ⟨r.1⟩) := by kernel_rfl
section
variable {b : Array UInt8} {c : UInt8} {cs : List UInt8} {t : Tok} {x : PySem.Str} {n : Nat}
theorem meets_textA {t1 t2 : Tok} {d : PySem.Str} (hd : ∀ id, _codecs.runDecoder id _codecs.asciiDecoder none true b 0 [] = pure (x.cps, n)) :
    Meets («_codecs.decode.text» ⟨[.bytes b t, .str (PySem.Str.ofString "ascii") t1, .none, .str d t2], []⟩) (fun _ R s => x.length ≤ sizeLine ∧ R (.ok (.ret (.str x s.toks))) { s with toks := s.toks + 1 }) := by
  refine .of_wp fun prog w A R s hS => ?_
  obtain ⟨hsz, h⟩ := hS
  show wpAny _ _ (Bytes.bytesLike _ (.bytes b t) >>= fun r => _) _ _ s
  refine wpAny_bind (wpAny_of_eq KBd.like_eq ?_)
  refine wpAny_bind (wpAny_of_eq KBd.held_eq ?_)
  show wpAny _ _ (_codecs.decodeRoad _ b (PySem.Str.ofString "ascii") none [] >>= fun v => _) _ _ s
  rw [road_ascii, hd]
  refine wpAny_bind (wpAny_bind (wpAny_pure ?_))
  exact wpAny_mkStr (wpAny_pure ⟨_, rfl, h⟩) hsz
theorem entry_eqA {t2 : Tok} : «bytes.decode» ⟨[.bytes (c :: cs).toArray t, .str (PySem.Str.ofString "ascii") t2], []⟩ = (mkStr (PySem.Str.ofString "utf-8") >>= fun _ => mkStr (PySem.Str.ofString "ascii") >>= fun e => mkStr (PySem.Str.ofString "bytes.decode") >>= fun d =>
    call (.builtin "_codecs.decode.text") [.bytes (c :: cs).toArray t, e, .none, d] >>= fun v => ret v) := by kernel_rfl
theorem entry_eqA0 {t2 : Tok} : «bytes.decode» ⟨[.bytes #[] t, .str (PySem.Str.ofString "ascii") t2], []⟩ = (rule "bytes.decode.empty" >>= fun _ => retStr Str.empty) := by kernel_rfl
theorem args_decode_2 (a b : Value) : argsOk "bytes.decode" ⟨[a, b], []⟩ := by
  unfold argsOk; rw [signature?_of (id := "bytes.decode") (n := ['e', 'd', 'o', 'c', 'e', 'd']) (o := ['s', 'e', 't', 'y', 'b']) (by kernel_rfl) FB.owner_bytes]; kernel_rfl
theorem meets_decodeA {b : List UInt8} {t2 : Tok} (hb : ∀ c ∈ b, c.toNat < 128) (hz : b.length ≤ 1000) :
    Meets («bytes.decode» ⟨[.bytes b.toArray t, .str (PySem.Str.ofString "ascii") t2], []⟩) (fun _ R s => ∀ t' k, R (.ok (.ret (.str ⟨(b.map (·.toNat)).toArray⟩ t'))) { s with toks := k }) := by
  refine .of_wp fun prog w A R s h => ?_
  have hsz : (⟨(b.map (·.toNat)).toArray⟩ : PySem.Str).length ≤ sizeLine := by
    show (b.map (·.toNat)).toArray.size ≤ sizeLine
    rw [List.size_toArray, List.length_map, sizeLine_eq]; walk_at "om"
  cases b with
  | nil =>
    show wpAny _ _ («bytes.decode» ⟨[.bytes #[] t, .str (PySem.Str.ofString "ascii") t2], []⟩) _ _ s
    rw [entry_eqA0]
    refine wpAny_bind (wpAny_rule ?_)
    unfold retStr
    exact wpAny_bind (wpAny_mkStr (wpAny_pure ⟨_, rfl, h _ _⟩) (by decide))
  | cons c cs =>
    rw [entry_eqA]
    refine wpAny_bind (wpAny_mkStr ?_ (by decide))
    refine wpAny_bind (wpAny_mkStr ?_ (by decide))
    refine wpAny_bind (wpAny_mkStr ?_ (by decide))
    exact wpAny_bind (call_function_meets KBd.kind_text KBd.plain_text KBd.entry_text (KBd.args_text _ _ _ _) (meets_textA fun id => run_ascii hb hz) ⟨hsz, wpAny_pure ⟨_, rfl, h _ _⟩⟩)
theorem decodeA {prog : Program} {w : World} {A : Around} {E : Value → Shared → Prop} {s : Shared} {b : List UInt8} {t2 : Tok} {Q : Value → Shared → Prop} (hb : ∀ c ∈ b, c.toNat < 128) (hz : b.length ≤ 1000) (h : ∀ t' k, Q (.str ⟨(b.map (·.toNat)).toArray⟩ t') { s with toks := k }) :
    wpAny (model prog w) A (call (.builtin "bytes.decode") [.bytes b.toArray t, .str (PySem.Str.ofString "ascii") t2]) Q E s :=
  call_meets FB.slot_bytes_decode (typeIs_bytes _ _ _) FB.entry_bytes_decode (args_decode_2 _ _) (meets_decodeA hb hz) h
end
section
variable {prog : Program} {w : World} {K : Frag} {c : Cx K} {env : Env} {S : St}
theorem Ev.decode {e : Expr} {ap cp kp : Pos} {kk : Nat} {b : List UInt8} (he : Ev prog w c env S e (.bytes b.toArray)) (hb : ∀ c ∈ b, c.toNat < 128) (hz : b.length ≤ 1000)
    (hline : autoParam ((ap.endLine == cp.line) = true) Mine.sx0) (hbase : autoParam (attributeBase e "decode" env (eval e env) = eval e env) Mine.sx0) :
    Ev prog w c env S (.Call (.Attribute e "decode" ap) [.Constant (.str "ascii") kk kp] [] cp) (.str ⟨(b.map (·.toNat)).toArray⟩) := by
  intro m mu fz s Q R X k
  refine wpAny_Call_method1_late hbase hline rfl (he m mu fz s _ R X fun v fz1 h1 t1 s1 R1 D1 => ?_)
  cases D1
  refine ⟨"bytes", "bytes.decode", FB.plainAttrs_bytes, FB.slot_bytes_decode, FB.type_bytes_decode, typeIs_bytes _ _ _, (fun _ e => nomatch e), ?_⟩
  refine callWith_builtin rfl (evalArgs_plain (spliced_cons (Constant_str (spliced_nil ?_))))
  exact decodeA hb hz fun t' tk => k _ fz1 h1 tk s1 R1 (.str _ _)
end
end Mine

end
section
open PySem PySem.W PyProof.Rows PySem.Calls
set_option Elab.async false
set_option maxRecDepth 100000
set_option linter.unusedVariables false
namespace Mine
section
variable {prog : Program} {w : World} {K : Frag} {c : Cx K} {env : Env} {S : St} {A : Around}
theorem CmpR.neBytes {a b : Array UInt8} : CmpR prog w A .NotEq (.bytes a) (.bytes b) (a.toList != b.toList) := by
  intro h₀ L news v u s Q hn hv hu k
  cases hv; cases hu
  exact ne_bytes k
theorem EvIt.bytes {e : Expr} {b : Array UInt8} (he : Ev prog w c env S e (.bytes b)) : EvIt prog w c env S e (intsD (KBw.bInts b)) := by
  intro m mu fz s Q R X k
  refine he m mu fz s _ R X fun v fz1 h1 t1 s1 R1 D1 => ?_
  cases D1 with
  | bytes _ t =>
    refine KBw.pyIter_bytes ?_
    have R2 := R1.pushMu { cls := .type "bytes_iterator", data := .fields #[.bytes b t, .int 0 0] }
    have W := KBw.walks (prog := prog) (w := w) (A := c.A) rfl h1.objs.size b t
    have ez : b.size = (intsD (KBw.bInts b)).length := by rw [List.length_map, KBw.ints_length]
    rw [ez] at W
    refine k h1.objs.size _ _ _ _ fz1 _ t1 s1 R2 ⟨W, fun x hx => .inl (List.mem_singleton.mp hx), fun i v hi hp => ?_, fun i h st => ?_⟩ ⟨_, Heap.get?_push_size _ rfl, rfl, rfl⟩
    · obtain ⟨cc, u, e1, rfl⟩ := hp
      refine ⟨.int (cc.toNat : Int), ?_, .int _ _⟩
      rw [List.getElem?_map, KBw.ints_get e1]; rfl
    · obtain ⟨o, ho, _⟩ := st
      exact ⟨o, ho⟩
theorem Ev.sliceBytes {value : Expr} {lo hi : Option Expr} {pos sp : Pos} {b : Array UInt8} {i j : Option Int} (hv : Ev prog w c env S value (.bytes b)) (ha : PartOk prog w c env S lo i) (hb : PartOk prog w c env S hi j) (hz : b.size ≤ 16777216)
    (hs : autoParam (∀ o i, subscripted (.Slice lo hi none sp) false o i = operate [i, o] (getItem o i)) Mine.sx2) (ht : autoParam (∀ o r, letTemporaryGo value o r = pure ()) Mine.sx2) :
    Ev prog w c env S (.Subscript value (.Slice lo hi none sp) pos) (.bytes (KBy.picked b i j)) := by
  intro m mu fz s Q R X k
  refine Subscript_ (hv m mu fz s _ R X fun v fz1 h1 t1 s1 R1 D1 => ?_)
  cases D1 with
  | bytes _ t =>
    refine wpAny_Slice (ha.go (s := { s with heap := h1, toks := t1 }) R1 (X.mono s1) fun v1 fz2 h2 t2 s2 R2 p1 => hb.go (s := { s with heap := h2, toks := t2 }) R2 (X.mono (s1.trans s2)) fun v2 fz3 h3 t3 s3 R3 p2 => ?_)
    rw [evalPart_none]
    refine wpAny_pure ?_
    obtain ⟨h₀, G, T, F, N⟩ := R3.ex
    refine KBc.slice_K (s := { s with heap := h3, toks := t3 }) F N rfl p1 p2 (by rw [KBw.ints_length]; exact hz) (fun h' t' tk F' N' _ => ?_) (hs _ _) (ht _)
    exact k _ _ h' _ (s1.trans (s2.trans s3)) ⟨⟨h₀, G, T, F', N'⟩, R3.off, R3.nd⟩ (.bytes _ _)
end
end Mine

end
section
open PySem PySem.W PyProof.Rows PySem.Calls
set_option Elab.async false
set_option maxRecDepth 100000
set_option linter.unusedVariables false
namespace Mine
open Builtin
theorem fold_ascii : ∀ (l : List Nat) (a : Array UInt8), l.foldl (fun acc y => acc ++ (_codecs.asciiCodec.bytesOf y).toArray) a = a ++ (l.map (·.toUInt8)).toArray
  | [], a => by simp
  | c :: l, a => by
    rw [List.foldl_cons, fold_ascii l, List.map_cons]
    show a ++ [c.toUInt8].toArray ++ _ = _
    simp
theorem loop2 {σ : Type} {f : Nat → σ → Sem (ForInStep σ)} {s0 s1 : σ} {n : Nat} (h0 : 0 < n → ∀ i, f i s0 = pure (.yield s1)) (h1 : ∀ i, f i s1 = pure (.done s1)) (hz : n = 0 → s0 = s1) : (forIn (m := Sem) [0:n] s0 fun i r => f i r) = pure s1 := by
  rw [Std.Legacy.Range.forIn_eq_forIn_range']
  show forIn (List.range' 0 ((n - 0 + 1 - 1) / 1)) s0 f = pure s1
  have e0 : (n - 0 + 1 - 1) / 1 = n := by simp
  rw [e0]
  cases n with
  | zero => rw [hz rfl]; rfl
  | succ n =>
    rw [List.range'_succ, List.forIn_cons, h0 (Nat.succ_pos _), pure_bind]
    cases n with
    | zero => rfl
    | succ n =>
      dsimp only
      rw [List.range'_succ, List.forIn_cons, h1]; rfl
theorem narrow_loop {x : PySem.Str} (hx : ∀ c ∈ x.cps.toList, c < 128) (hz : x.length ≤ 1000) (U : Sem PUnit) (BIG : Nat × Array UInt8 × _codecs.Faults → Nat → Sem (ForInStep (Nat × Array UInt8 × _codecs.Faults))) :
    (forIn (m := Sem) [0:x.length] ((0, #[], {}) : Nat × Array UInt8 × _codecs.Faults) fun _ r =>
      if r.2.1.size > sizeLine then U >>= fun _ => (match x.cps[r.1]? with
        | some y => if (!_codecs.asciiCodec.bad y) = true then pure (ForInStep.yield (r.1 + (Array.findIdx? _codecs.asciiCodec.bad (x.cps.extract r.1)).getD (x.cps.extract r.1).size, Array.foldl (fun acc y => acc ++ (_codecs.asciiCodec.bytesOf y).toArray) r.2.1 ((x.cps.extract r.1).extract 0 ((Array.findIdx? _codecs.asciiCodec.bad (x.cps.extract r.1)).getD (x.cps.extract r.1).size)), r.2.2)) else BIG r y
        | _ => pure (ForInStep.done (r.1, r.2.1, r.2.2)))
      else (match x.cps[r.1]? with
        | some y => if (!_codecs.asciiCodec.bad y) = true then pure (ForInStep.yield (r.1 + (Array.findIdx? _codecs.asciiCodec.bad (x.cps.extract r.1)).getD (x.cps.extract r.1).size, Array.foldl (fun acc y => acc ++ (_codecs.asciiCodec.bytesOf y).toArray) r.2.1 ((x.cps.extract r.1).extract 0 ((Array.findIdx? _codecs.asciiCodec.bad (x.cps.extract r.1)).getD (x.cps.extract r.1).size)), r.2.2)) else BIG r y
        | _ => pure (ForInStep.done (r.1, r.2.1, r.2.2)))) = pure (x.cps.size, (x.cps.toList.map (·.toUInt8)).toArray, {}) := by
  have en : x.length = x.cps.size := rfl
  refine loop2 (fun h0 i => ?_) (fun i => ?_) (fun h0 => ?_)
  · have h0 : 0 < x.cps.size := h0
    have e1 : x.cps[0]? = some x.cps[0] := Array.getElem?_eq_getElem h0
    refine (if_neg (Nat.not_lt_zero _)).trans ?_
    dsimp only
    rw [e1]
    refine (if_pos ?_).trans ?_
    · have := hx x.cps[0] (by simp)
      show (!decide (x.cps[0] ≥ 128)) = true
      simp; walk_at "om"
    · have e3 : x.cps.extract 0 x.cps.size = x.cps := by simp
      have e4 : Array.findIdx? _codecs.asciiCodec.bad x.cps = none := by
        rw [Array.findIdx?_eq_none_iff]
        intro c hc
        have := hx c (by simpa using hc)
        show decide (c ≥ 128) = false
        simp; walk_at "om"
      have e5 : Array.foldl (fun acc y => acc ++ (_codecs.asciiCodec.bytesOf y).toArray) #[] x.cps = (x.cps.toList.map (·.toUInt8)).toArray := by
        rw [← Array.foldl_toList, fold_ascii]; simp
      rw [e3, e4, Option.getD_none, e3, e5, Nat.zero_add]
  · have e7 : ¬ ((x.cps.toList.map (·.toUInt8)).toArray.size > sizeLine) := by
      rw [List.size_toArray, List.length_map, sizeLine_eq, Array.length_toList, ← en]; walk_at "om"
    refine (if_neg e7).trans ?_
    dsimp only
    rw [Array.getElem?_eq_none (Nat.le_refl _)]
  · have : x.cps = #[] := Array.size_eq_zero_iff.mp h0
    rw [this]; rfl
theorem narrow_ascii {id : String} {self : Value} {x : PySem.Str} (hx : ∀ c ∈ x.cps.toList, c < 128) (hz : x.length ≤ 1000) : _codecs.encodeNarrow id _codecs.asciiCodec none self x = pure ((x.cps.toList.map (·.toUInt8)).toArray) := by
  unfold _codecs.encodeNarrow
  exact (congrArg (· >>= _) (narrow_loop hx hz _ _)).trans rfl
theorem road_asciiE {id : String} {self : Value} {x : PySem.Str} : _codecs.encodeRoad id self x (PySem.Str.ofString "ascii") none = (_codecs.encodeNarrow id _codecs.asciiCodec none self x >>= fun b => mkBytes b) := by first | rfl | kernel_rfl
theorem encode_eqA {x : PySem.Str} {t t2 : Tok} : «str.encode» ⟨[.str x t, .str (PySem.Str.ofString "ascii") t2], []⟩ = (_codecs.encodeRoad "str.encode" (.str x t) x (PySem.Str.ofString "ascii") none >>= fun v => ret v) := by first | rfl | kernel_rfl
theorem meets_encodeA {x : PySem.Str} {t t2 : Tok} (hx : ∀ c ∈ x.cps.toList, c < 128) (hz : x.length ≤ 1000) :
    Meets («str.encode» ⟨[.str x t, .str (PySem.Str.ofString "ascii") t2], []⟩) (fun _ R s => ∀ t' k, R (.ok (.ret (.bytes ((x.cps.toList.map (·.toUInt8)).toArray) t'))) { s with toks := k }) := by
  refine .of_wp fun prog w A R s h => ?_
  rw [encode_eqA, road_asciiE, narrow_ascii hx hz, pure_bind]
  refine wpAny_bind (wpAny_mkBytes (wpAny_pure ⟨_, rfl, h _ _⟩) ?_)
  rw [List.size_toArray, List.length_map, sizeLine_eq, Array.length_toList]
  have en : x.length = x.cps.size := rfl
  walk_at "om"
theorem encodeA {prog : Program} {w : World} {A : Around} {E : Value → Shared → Prop} {s : Shared} {x : PySem.Str} {t t2 : Tok} {Q : Value → Shared → Prop} (hx : ∀ c ∈ x.cps.toList, c < 128) (hz : x.length ≤ 1000) (h : ∀ t' k, Q (.bytes ((x.cps.toList.map (·.toUInt8)).toArray) t') { s with toks := k }) :
    wpAny (model prog w) A (call (.builtin "str.encode") [.str x t, .str (PySem.Str.ofString "ascii") t2]) Q E s :=
  call_meets F.slot_str_encode (typeIs_str _ _ _) F.entry_str_encode (F.args_str_encode_2 _ _) (meets_encodeA hx hz) h
section
variable {prog : Program} {w : World} {K : Frag} {c : Cx K} {env : Env} {S : St}
theorem Ev.encode {e : Expr} {ap cp kp : Pos} {kk : Nat} {x : PySem.Str} (he : Ev prog w c env S e (.str x)) (hx : ∀ c ∈ x.cps.toList, c < 128) (hz : x.length ≤ 1000)
    (hline : autoParam ((ap.endLine == cp.line) = true) Mine.sx0) (hbase : autoParam (attributeBase e "encode" env (eval e env) = eval e env) Mine.sx0) :
    Ev prog w c env S (.Call (.Attribute e "encode" ap) [.Constant (.str "ascii") kk kp] [] cp) (.bytes ((x.cps.toList.map (·.toUInt8)).toArray)) := by
  intro m mu fz s Q R X k
  refine wpAny_Call_method1_late hbase hline rfl (he m mu fz s _ R X fun v fz1 h1 t1 s1 R1 D1 => ?_)
  cases D1
  refine ⟨"str", "str.encode", F.plainAttrs_str, F.slot_str_encode, F.type_str_encode, typeIs_str _ _ _, (fun _ e => nomatch e), ?_⟩
  refine callWith_builtin rfl (evalArgs_plain (spliced_cons (Constant_str (spliced_nil ?_))))
  exact encodeA hx hz fun t' tk => k _ fz1 h1 tk s1 R1 (.bytes _ _)
end
end Mine

end
section
open PySem PySem.W PyProof.Rows PySem.Calls
set_option Elab.async false
set_option maxRecDepth 100000
set_option linter.unusedVariables false
namespace Mine
open Builtin
theorem tuple_index {a : Addr} {o : Obj} {items : Array Value} {n : Nat} {x : Value} (e : Value → Bool) (he : ∀ y, y ∈ items → MeetsSeq.EqGives y x (e y)) (j : Nat) (hj : j < items.size) (hit : e items[j] = true) (hno : ∀ m (hm : m < items.size), m < j → e items[m] = false) (hd : o.data = .seq items n) :
    Meets («tuple.index» ⟨[.ref a, x], []⟩) (fun _ R s => s.heap.get? a = some o ∧ R (.ok (.ret (.int j s.toks))) { s with toks := s.toks + 1 }) := by
  refine .of_wp fun prog w A R s hS => ?_
  obtain ⟨ho, h⟩ := hS
  show wpAny _ _ (Tuple.tupleItemsOf (.ref a) >>= fun xs => _) _ _ s
  refine wpAny_bind (wpAny_tupleItemsOf ho hd ?_)
  simp only [Std.Legacy.Range.forIn_eq_forIn_range', Std.Legacy.Range.size]
  refine wpAny_bind (wpAny_pure (wpAny_bind (wpAny_pure ?_)))
  have e0 : (Min.min items.size items.size - 0 + 1 - 1) / 1 = items.size := by simp
  rw [e0]
  clear e0
  have loop : ∀ (d i : Nat), i + d = j → ∀ (Q : Option Fin × Unit → Shared → Prop), Q (some (.done (.ret (.int j s.toks))), ()) { s with toks := s.toks + 1 } → wpAny (model prog w) A.in1 (forIn (List.range' i (items.size - i)) ((none : Option Fin), ()) fun (i : Nat) (_ : Option Fin × Unit) =>
            match items[i]? with
            | some y => do
              let __do_lift ← eqBool y x
              if __do_lift = true then do
                  let __do_lift ← retInt (i : Int)
                  pure (ForInStep.done (some __do_lift, ()))
                else pure (ForInStep.yield (none, ()))
            | x => pure (ForInStep.yield (none, ()))) Q (fun e s' => R (Except.error e) s') s := by
    intro d
    induction d with
    | zero =>
      intro i hi Q hQ
      obtain rfl : i = j := hi
      obtain ⟨z, hz⟩ : ∃ z, items.size - i = z + 1 := pos_of hj
      rw [hz, List.range'_succ, List.forIn_cons, Array.getElem?_eq_getElem hj]
      refine wpAny_bind (wpAny_bind ?_)
      refine he _ (Array.getElem_mem hj) prog w _ _ _ _ ?_
      rw [hit]
      simp only [if_true]
      unfold retInt
      exact wpAny_bind (wpAny_bind (wpAny_mkInt (wpAny_pure (wpAny_pure (wpAny_pure hQ)))))
    | succ d ih =>
      intro i hi Q hQ
      have hl : i < items.size := lt_addn hi hj
      obtain ⟨z, hz⟩ : ∃ z, items.size - i = z + 1 := pos_of hl
      rw [hz, List.range'_succ, List.forIn_cons, Array.getElem?_eq_getElem hl]
      refine wpAny_bind (wpAny_bind ?_)
      refine he _ (Array.getElem_mem hl) prog w _ _ _ _ ?_
      rw [hno i hl (lt_addj hi)]
      simp only [Bool.false_eq_true, if_false]
      refine wpAny_pure ?_
      dsimp only
      have : z = items.size - (i + 1) := (suc_of hz).symm
      rw [this]
      exact ih (i + 1) (add_suc hi) Q hQ
  refine wpAny_bind (loop j 0 (Nat.zero_add j) _ ?_)
  exact wpAny_pure ⟨_, rfl, h⟩
noncomputable def strOf? : Value → Option PySem.Str
  | .str z _ => some z
  | _ => none
noncomputable def isStr (y : PySem.Str) (v : Value) : Bool := match strOf? v with
  | some z => z.cps.toList == y.cps.toList
  | none => false
theorem isStr_at {items : Array Value} {ss : List PySem.Str} (hs : items.toList.map strOf? = ss.map some) (i : Nat) (hi : i < items.size) : ∃ z t, items[i] = .str z t ∧ ss[i]? = some z := by
  have e : (items.toList.map strOf?)[i]? = (ss.map some)[i]? := by rw [hs]
  rw [List.getElem?_map, List.getElem?_map] at e
  have e2 : items.toList[i]? = some items[i] := by simp [hi]
  rw [e2] at e
  cases hz : ss[i]? with
  | none => rw [hz] at e; cases e
  | some z =>
    rw [hz] at e
    have e3 : strOf? items[i] = some z := by simpa using e
    revert e3
    cases items[i] with
    | str z' t => intro e3; cases e3; exact ⟨_, _, rfl, rfl⟩
    | _ => intro e3; cases e3
section
variable {prog : Program} {w : World} {K : Frag} {c : Cx K} {env : Env} {S : St}
theorem Ev.indexTop {x : PySem.Str} {np ap cp : Pos} {e : Expr} {a : Addr} {o : Obj} {items : Array Value} {n : Nat} {ss : List PySem.Str} {y : PySem.Str} {j : Nat} (hg : nsIn K mainGlobals x = some (some (.ref a))) (ho : K.lookup a = some o) (hc : o.cls = .type "tuple") (hdd : o.dict = none) (hd : o.data = .seq items n) (hs : items.toList.map strOf? = ss.map some)
    (he : Ev prog w c env S e (.str y)) (hj : ss[j]? = some y) (hno : ∀ i z, i < j → ss[i]? = some z → z.cps.toList ≠ y.cps.toList) (hx : autoParam (env.kindOf x = some .globalImplicit) Mine.sx0) (hb : autoParam ((x == ("__debug__" : PySem.Str)) = false) Mine.sx3)
    (hline : autoParam ((ap.endLine == cp.line) = true) Mine.sx0) (hbase : autoParam (attributeBase (.Name x np) "index" env (eval (.Name x np) env) = eval (.Name x np) env) Mine.sx0)
    (htrees : autoParam (backTo cp (starEach [e] env) = [(false, eval e env)]) Mine.sx0) : Ev prog w c env S (.Call (.Attribute (.Name x np) "index" ap) [e] [] cp) (.int (j : Nat)) := by
  intro m mu fz s Q R X kk
  refine wpAny_Call_method1_late hbase hline htrees (load_global R X hx hg hb ?_)
  have hget : s.heap.get? a = some o := R.in_ a o ho
  refine ⟨"tuple", "tuple.index", PySem.F.plainAttrs_tuple, PySem.F.slot_tuple_index, PySem.F.type_tuple_index, ⟨o, hget, hc⟩, fun a' e' => ?_, ?_⟩
  · cases e'; exact ⟨_, hget, hdd⟩
  refine callWith_builtin rfl (evalArgs_plain (spliced_cons (he m mu fz _ _ R X fun v fz' h' tk' s2 R' D => spliced_nil ?_)))
  cases D
  have hget' : h'.get? a = some o := R'.in_ a o ho
  have hsz : items.size = ss.length := by have := congrArg List.length hs; simpa using this
  have hjl : j < items.size := by
    rw [hsz]; exact (List.getElem?_eq_some_iff.mp hj).1
  refine call_meets PySem.F.slot_tuple_index ⟨o, hget', hc⟩ PySem.F.entry_tuple_index (PySem.F.args_tuple_index_2 _ _) (tuple_index (isStr y) (fun v hv => ?_) j hjl ?_ (fun i hi hlt => ?_) hd) ⟨hget', ?_⟩
  · obtain ⟨i, hi, rfl⟩ := Array.mem_iff_getElem.mp hv
    obtain ⟨z, t, e1, e2⟩ := isStr_at hs i hi
    rw [e1]
    exact PySem.SeqRoads2.EqGives.str _ _ _ _
  · obtain ⟨z, t, e1, e2⟩ := isStr_at hs j hjl
    rw [hj] at e2; cases e2
    rw [e1]
    show (y.cps.toList == y.cps.toList) = true
    simp
  · obtain ⟨z, t, e1, e2⟩ := isStr_at hs i hi
    rw [e1]
    show (z.cps.toList == y.cps.toList) = false
    have := hno i z hlt e2
    simpa using this
  · exact kk _ fz' h' _ s2 R' (.int _ _)
end
end Mine

end
section
open PySem PySem.W PyProof.Rows PySem.Calls
set_option Elab.async false
set_option linter.unusedVariables false
namespace Mine
section
variable {prog : Program} {w : World} {K : Frag} {c : Cx K} {env : Env} {S : St}
end
end Mine

end
section
open PySem PySem.W PyProof.Rows PySem.Calls
set_option Elab.async false
set_option linter.unusedVariables false
set_option maxRecDepth 100000
namespace Mine
noncomputable def lexLt : List Int → List Int → Bool
  | x :: xs, y :: ys => if x = y then lexLt xs ys else decide (x < y)
  | [], [] => false
  | [], _ :: _ => true
  | _ :: _, [] => false
open AutoSeq1 (wpAny_loadPart') in
open MeetsSeq MeetsSeq2 MeetsSeq3 SeqAt in
theorem lt_loop (l b : Addr) (vs us : List Value) (xs ys : List Int) (hv : IntsAre vs xs) (hu : IntsAre us ys) (hsz : xs.length = ys.length) (n n2 : Nat) (k : Nat) :
    ∀ i : Nat, xs.length - i = k → Meets (Builtin.«list.__eq__.loop» ⟨[.ref l, .ref b, rawInt i, rawInt 0], []⟩)
      (fun A R s => s.heap.get? l = some (listOf vs.toArray n) ∧ s.heap.get? b = some (listOf us.toArray n2) ∧ R (.ok (.ret (.bool (lexLt (xs.drop i) (ys.drop i))))) s) := by
  have lv := hv.length
  have lu := hu.length
  induction k with
  | zero =>
    intro i hk prog w A R s h
    obtain ⟨hp, g, d, tk, os⟩ := s; obtain ⟨hl, hb, h⟩ := h
    wp_walk using wpAny_loadPart' hl, wpAny_loadPart' hb
    have hi1 : vs.toArray[((i : Nat) : Int).toNat]? = none := by simp; walk_at "om"
    have hi2 : us.toArray[((i : Nat) : Int).toNat]? = none := by simp; walk_at "om"
    have hd : xs.drop i = [] := List.drop_of_length_le (by walk_at "om")
    have hd2 : ys.drop i = [] := List.drop_of_length_le (by walk_at "om")
    rw [hd, hd2] at h
    rw [hi1, hi2]
    wp_walk using wpAny_loadPart' hl, wpAny_loadPart' hb
    show R (.ok (.ret (.bool (decide (vs.toArray.size < us.toArray.size))))) _
    have e : decide (vs.toArray.size < us.toArray.size) = false := by simp; walk_at "om"
    rw [e]
    exact h
  | succ k ih =>
    intro i hk prog w A R s h
    obtain ⟨hp, g, d, tk, os⟩ := s; obtain ⟨hl, hb, h⟩ := h
    wp_walk using wpAny_loadPart' hl, wpAny_loadPart' hb
    have hlt : i < xs.length := lt_sub hk
    have hlt2 : i < ys.length := Nat.lt_of_lt_of_eq hlt hsz
    obtain ⟨t, e1⟩ := hv.get i xs[i] (List.getElem?_eq_getElem hlt)
    obtain ⟨u, e2⟩ := hu.get i ys[i] (List.getElem?_eq_getElem hlt2)
    have hi1 : vs.toArray[((i : Nat) : Int).toNat]? = some (.int xs[i] t) := by simpa using e1
    have hi2 : us.toArray[((i : Nat) : Int).toNat]? = some (.int ys[i] u) := by simpa using e2
    have hc : ((i : Int) + 1) = ((i + 1 : Nat) : Int) := by push_cast; rfl
    rw [List.drop_eq_getElem_cons hlt, List.drop_eq_getElem_cons hlt2, lexLt] at h
    rw [hi1, hi2]
    refine wpAny_bind (EqAt.int_int xs[i] t ys[i] u prog w _ _ ?_)
    cases hb' : xs[i] == ys[i] with
    | true =>
      rw [if_pos (eq_of_beq hb')] at h
      wp_walk
      rw [hc]
      exact ⟨plainId_quiet plain_eq_loop _, codeAny_builtin entry_eq_loop (by
        rw [Around.under_plainId plain_eq_loop _]
        exact ih (i + 1) (suc_of hk) prog w A R _ ⟨hl, hb, h⟩)⟩
    | false =>
      rw [if_neg (by simpa using hb')] at h
      wp_walk using wpAny_loadPart' hl, wpAny_loadPart' hb
      rw [hi1, hi2]
      show wpAny _ _ (richCompare .Lt (.int xs[i] t) (.int ys[i] u) >>= fun r => ret r) _ _ _
      exact wpAny_bind (PyProof.Rows.lt_int (wpAny_pure h))
open AutoSeq1 (wpAny_loadPart') in
open MeetsSeq MeetsSeq2 MeetsSeq3 SeqAt in
theorem list_ltM (l b : Addr) (vs us : List Value) (xs ys : List Int) (hv : IntsAre vs xs) (hu : IntsAre us ys) (hsz : xs.length = ys.length) (n n2 : Nat) :
    Meets (Builtin.«list.__lt__» ⟨[.ref l, .ref b], []⟩) (fun A R s => s.heap.get? l = some (listOf vs.toArray n) ∧ s.heap.get? b = some (listOf us.toArray n2) ∧ R (.ok (.ret (.bool (lexLt xs ys)))) s) := by
  intro prog w A R s h
  obtain ⟨hp, g, d, tk, os⟩ := s; obtain ⟨hl, hb, h⟩ := h
  have f3 := AutoSeq1.sub_list_list
  wp_walk using wpAny_loadPart' hl, wpAny_loadPart' hb
  exact ⟨plainId_quiet plain_eq_loop _, codeAny_builtin entry_eq_loop (by
    rw [Around.under_plainId plain_eq_loop _]
    exact lt_loop l b vs us xs ys hv hu hsz n n2 _ 0 rfl prog w A R _ ⟨hl, hb, by simpa using h⟩)⟩
section
variable {prog : Program} {w : World} {A : Around} {E : Value → Shared → Prop} {s : Shared}
theorem kas_lt_lists {l b : Addr} {vs us : List Value} {xs ys : List Int} {n n2 : Nat} {Q : Bool → Shared → Prop} (hl : s.heap.get? l = some (listOf vs.toArray n)) (hb : s.heap.get? b = some (listOf us.toArray n2)) (hv : IntsAre vs xs) (hu : IntsAre us ys) (hsz : xs.length = ys.length) (hun : A.units < cLine)
    (h : Q (lexLt xs ys) s) : wpAny (model prog w) A (keyLt' oneType' (.ref l) (.ref b)) Q E s := by
  rw [keyLt'_oneType, oneLt'_eq]
  simp only [if_true]
  refine wpAny_bind (wpAny_cRoomFor hun ?_)
  have Tl : s.TypeIs (.ref l) "list" := ⟨_, hl, rfl⟩
  refine wpAny_bind (wpAny_callSpecialIfBound?_slot Tl PySem.F.slot_list_lt (call_meets PySem.F.slot_list_lt Tl PySem.F.entry_list_lt (PySem.F.args_list_lt_2 _ _) (list_ltM l b vs us xs ys hv hu hsz n n2) ⟨hl, hb, ?_⟩))
  exact wpAny_truthy_bool h
end

noncomputable def KOk {α : Type} (N : Nat) (G : α → Prop) : KasT α → Prop
  | .ret a => G a
  | .ask i j k => i < N ∧ j < N ∧ ∀ b, KOk N G (k b)
noncomputable def krun {α : Type} (lt : Nat → Nat → Bool) : KasT α → α
  | .ret a => a
  | .ask i j k => krun lt (k (lt i j))
theorem KOk.mono {α : Type} {N : Nat} {G G' : α → Prop} (hg : ∀ a, G a → G' a) : ∀ {t : KasT α}, KOk N G t → KOk N G' t
  | .ret a, h => hg a h
  | .ask i j k, ⟨h1, h2, h3⟩ => ⟨h1, h2, fun b => (h3 b).mono hg⟩
theorem KOk.bind {α β : Type} {N : Nat} {G : α → Prop} {G' : β → Prop} {f : α → KasT β} (hf : ∀ a, G a → KOk N G' (f a)) : ∀ {t : KasT α}, KOk N G t → KOk N G' (t.bind f)
  | .ret a, h => hf a h
  | .ask i j k, ⟨h1, h2, h3⟩ => ⟨h1, h2, fun b => (h3 b).bind hf⟩
theorem KOk.run {α : Type} {N : Nat} {G : α → Prop} (lt : Nat → Nat → Bool) : ∀ {t : KasT α}, KOk N G t → G (krun lt t)
  | .ret a, h => h
  | .ask i j k, ⟨_, _, h3⟩ => (h3 (lt i j)).run lt
theorem KOk.wp {α : Type} {N : Nat} {G : α → Prop} {lt : Nat → Nat → Bool} {cmp : Nat → Nat → (Bool → Shared → Prop) → Shared → Prop} {s : Shared} (hc : ∀ i j C, i < N → j < N → C (lt i j) s → cmp i j C s) {Q : α → Shared → Prop} : ∀ {t : KasT α}, KOk N G t → Q (krun lt t) s → t.kasWp cmp Q s
  | .ret a, _, h => h
  | .ask i j k, ⟨h1, h2, h3⟩, h => hc i j _ h1 h2 ((h3 (lt i j)).wp hc h)
noncomputable abbrev PRange (N : Nat) (p : Array Nat) : Prop := p.Perm (List.toArray (List.range N))
theorem prange_lt {N : Nat} {p : Array Nat} (h : PRange N p) (h0 : 0 < N) (k : Nat) : p.getD k 0 < N := by
  by_cases hk : k < p.size
  · have e : p.getD k 0 = p[k] := by simp [Array.getD, hk]
    have : p[k] ∈ List.toArray (List.range N) := h.mem_iff.mp (Array.getElem_mem hk)
    rw [e]
    simpa using this
  · have e : p.getD k 0 = 0 := by simp [Array.getD, hk]
    rw [e]; exact h0
theorem prange_rev {N : Nat} {p : Array Nat} (h : PRange N p) (i j : Nat) : PRange N (kas_rev p i j) := (mirror_perm _ _ _ _).trans h
theorem ok_asc {N : Nat} {p : Array Nat} (h : PRange N p) (h0 : 0 < N) : ∀ f n, KOk N (fun _ => True) (kas_asc p f n)
  | 0, _ => trivial
  | f + 1, n => ⟨prange_lt h h0 _, prange_lt h h0 _, fun b => match b with | true => trivial | false => ok_asc h h0 f (n + 1)⟩
theorem ok_desc {N : Nat} (h0 : 0 < N) : ∀ f (p : Array Nat) n q, PRange N p → KOk N (fun r => PRange N r.1) (kas_desc f p n q)
  | 0, p, n, q, h => h
  | f + 1, p, n, q, h => by
    refine ⟨prange_lt h h0 _, prange_lt h h0 _, fun b => ?_⟩
    cases b with
    | true =>
      simp only [if_true]
      split
      · exact ok_desc h0 f _ _ _ (prange_rev h _ _)
      · exact ok_desc h0 f _ _ _ h
    | false =>
      simp only [Bool.false_eq_true, if_false]
      refine ⟨prange_lt h h0 _, prange_lt h h0 _, fun d => ?_⟩
      cases d with
      | true => exact h
      | false => exact ok_desc h0 f _ _ _ h
theorem ok_tail3 {N : Nat} (h0 : 0 < N) {p : Array Nat} (h : PRange N p) (n nrem : Nat) : KOk N (fun r => PRange N r.2) (kas_tail3 n nrem p) :=
  KOk.bind (G := fun _ => True) (G' := fun r : Nat × Array Nat => PRange N r.2) (f := fun m => KasT.ret (m, kas_rev p 0 n)) (fun a _ => prange_rev h 0 n) (ok_asc (prange_rev h _ _) h0 _ _)
theorem ok_descPart {N : Nat} (h0 : 0 < N) {p : Array Nat} (h : PRange N p) (n nrem : Nat) : KOk N (fun r => PRange N r.2) (kas_descPart n nrem p) := by
  refine (ok_desc h0 _ _ _ _ h).bind fun r hr => ?_
  split
  · exact ok_tail3 h0 (prange_rev hr _ _) _ _
  · exact ok_tail3 h0 hr _ _
theorem ok_count {N : Nat} (h0 : 0 < N) {p : Array Nat} (h : PRange N p) (nrem : Nat) : KOk N (fun r => PRange N r.2) (kas_count nrem p) := by
  refine (ok_asc h h0 _ _).bind fun n _ => ?_
  split
  · exact h
  · split
    · refine ⟨prange_lt h h0 _, prange_lt h h0 _, fun c => ?_⟩
      cases c with
      | true => exact h
      | false => exact ok_descPart h0 (prange_rev h _ _) _ _
    · exact ok_descPart h0 h _ _
theorem ok_place {N : Nat} (h0 : 0 < N) {p : Array Nat} (h : PRange N p) (k : Nat) : ∀ f l r, KOk N (fun _ => True) (kas_place p k f l r)
  | 0, _, _ => trivial
  | f + 1, l, r => by
    unfold kas_place
    split
    · exact trivial
    · refine ⟨prange_lt h h0 _, prange_lt h h0 _, fun c => ?_⟩
      cases c with
      | true => exact ok_place h0 h k f _ _
      | false => exact ok_place h0 h k f _ _
theorem ok_bin {N : Nat} (h0 : 0 < N) : ∀ f (p : Array Nat) k, PRange N p → KOk N (PRange N) (kas_bin f p k)
  | 0, p, k, h => h
  | f + 1, p, k, h => (ok_place h0 h k _ _ _).bind fun l _ => ok_bin h0 f _ _ ((bubble_perm _ _ _).trans h)
theorem ok_sort {N : Nat} (h0 : 0 < N) : KOk N (PRange N) (kas_sort N) := by
  refine (ok_count h0 (Array.Perm.refl _) N).bind fun r hr => ?_
  split
  · exact ok_bin h0 _ _ _ hr
  · exact hr
noncomputable def sortI (g : List (List Int)) : List Nat := (krun (fun i j => lexLt (g.getD i []) (g.getD j [])) (kas_sort g.length)).toList
noncomputable def sortL (g : List (List Int)) : List (List Int) := (sortI g).map fun i => g.getD i []
theorem sortI_perm (g : List (List Int)) (h : 0 < g.length) : (sortI g).Perm (List.range g.length) := by
  have := (ok_sort h).run (fun i j => lexLt (g.getD i []) (g.getD j []))
  exact Array.perm_iff_toList_perm.mp this
theorem range_map_getD {α : Type} (d : α) (g : List α) : (List.range g.length).map (fun i => g.getD i d) = g := by
  refine List.ext_getElem (by simp) fun i h1 h2 => ?_
  simp [h2]
theorem sortL_perm (g : List (List Int)) (h : 0 < g.length) : (sortL g).Perm g := by
  have := (sortI_perm g h).map fun i => g.getD i []
  rw [range_map_getD] at this
  exact this
section
variable {prog : Program} {w : World} {K : Frag} {c : Cx K} {env : Env} {S : St}
theorem gD_item {nw : Led} : ∀ {vs : List Value} {g : List (List Int)}, DatAll nw vs (gD g) → ∀ i, i < g.length → ∃ a us n, vs.getD i Value.none = .ref a ∧ (a, listOf us.toArray n) ∈ nw ∧ IntsAre us (g.getD i [])
  | [], [], _, i, h => absurd h (Nat.not_lt_zero _)
  | _ :: _, [], h, _, _ => by cases h
  | [], _ :: _, h, _, _ => by cases h
  | v :: vs, l :: g, h, i, hi => by
    cases h with
    | cons h1 h2 =>
      cases i with
      | zero =>
        cases h1 with
        | list hm r => exact ⟨_, _, _, rfl, hm, intsAre_of r⟩
      | succ i => simpa using gD_item h2 i (by simpa using hi)
theorem Ev.sortedL {np pos : Pos} {e : Expr} {g : List (List Int)} {k : Nat} (he : Ev prog w c env S e (.list (gD g))) (hk : ∀ l ∈ g, l.length = k) (h2 : 2 ≤ g.length) (h64 : g.length < 64) (hun : c.A.in1.in1.units < cLine) (hg : nsIn K mainGlobals "sorted" = some none)
    (hx : autoParam (env.kindOf "sorted" = some .globalImplicit) Mine.sx0) (hs : autoParam (starEach [e] env = [(false, eval e env)]) Mine.sx0) : Ev prog w c env S (.Call (.Name "sorted" np) [e] [] pos) (.list (gD (sortL g))) := by
  intro m mu fz s Q R X q
  refine call_b1 R X hx hg boot_sorted (by decide) (by decide) hs (he m mu fz s _ R X fun v fz1 h1 t1 s1 R1 D1 => ?_)
  cases D1 with
  | @list a vs n _ hm r =>
    have lv : vs.length = g.length := by rw [r.length, List.length_map]
    obtain ⟨h₀, G, T, F, N⟩ := R1.ex
    have hl := isList_at (R1.get (List.mem_append_right _ hm))
    refine kas_sorted (T := .type "list") (s := { s with heap := h1, toks := t1 }) F N hl (by walk_at "om") (by walk_at "om") (fun h F' N' v hv => ?_) (by rfl) fun D e1 h' F' N' l1 => ?_
    · obtain ⟨i, hi, rfl⟩ := List.mem_iff_getElem.mp hv
      obtain ⟨b, us, n2, e2, hb, _⟩ := gD_item r i (by walk_at "om")
      have e3 : vs[i] = .ref b := by rw [← e2]; simp [hi]
      rw [e3]
      exact (Looks.ld (N' _ (List.mem_append_right _ hb)).1).andThen .now
    · rw [lv]
      have N1 : News h₀ c.L h' (mu ++ fz1) := fun p hp => N' p (List.mem_cons_of_mem _ hp)
      refine (ok_sort (N := g.length) (by walk_at "om")).wp (lt := fun i j => lexLt (g.getD i []) (g.getD j [])) (fun i j C hi hj hC => ?_) ?_
      · obtain ⟨b1, us1, n1, e1', hb1, hi1⟩ := gD_item r i hi
        obtain ⟨b2, us2, n2, e2', hb2, hi2⟩ := gD_item r j hj
        unfold kas_ask
        rw [e1', e2']
        refine kas_lt_lists (N1 _ (List.mem_append_right _ hb1)).1 (N1 _ (List.mem_append_right _ hb2)).1 hi1 hi2 ?_ hun hC
        have m1 : g.getD i [] ∈ g := by rw [List.getD_eq_getElem?_getD, List.getElem?_eq_getElem hi]; exact List.getElem_mem hi
        have m2 : g.getD j [] ∈ g := by rw [List.getD_eq_getElem?_getD, List.getElem?_eq_getElem hj]; exact List.getElem_mem hj
        rw [hk _ m1, hk _ m2]
      · refine KasFin.intro F' N' (UpdF.head fun p hp => Nat.ne_of_lt (l1 p hp)) fun h'' cc F'' N'' => ?_
        have hD : DatAll fz1 ((sortI g).map fun i => vs.getD i Value.none) (gD (sortL g)) := by
          have hp := sortI_perm g (by walk_at "om")
          have : ∀ l : List Nat, (∀ i ∈ l, i < g.length) → DatAll fz1 (l.map fun i => vs.getD i Value.none) (gD (l.map fun i => g.getD i [])) := by
            intro l
            induction l with
            | nil => intro _; exact .nil
            | cons i l ih =>
              intro hl2
              have hi := hl2 i List.mem_cons_self
              refine .cons ?_ (ih fun j hj => hl2 j (List.mem_cons_of_mem _ hj))
              obtain ⟨v, hv1, hv2⟩ := r.get (k := i) (by rw [List.length_map]; exact hi)
              have e1 : vs.getD i Value.none = v := by rw [List.getD_eq_getElem?_getD, hv1]; rfl
              have e2 : (gD g)[i]'(by rw [List.length_map]; exact hi) = lD (g.getD i []) := by simp [hi]
              show DatIn fz1 (vs.getD i Value.none) (lD (g.getD i []))
              rw [e1, ← e2]
              exact hv2
          exact this _ fun i hi => by simpa using hp.mem_iff.mp hi
        exact q _ _ h'' t1 (s1.trans (sub_cons (a := (D, listOf ((sortI g).map fun i => vs.getD i Value.none).toArray cc)))) (Rel.mk1 G T F'' N'' R1.off R1.nd fun p hp => Nat.ne_of_lt (l1 p (List.mem_append_left _ hp))) (.list List.mem_cons_self (hD.mono sub_cons))
end
end Mine

end
section
open PySem PySem.W PyProof.Rows PySem.Calls
set_option Elab.async false
set_option maxRecDepth 100000
set_option maxHeartbeats 0
set_option linter.unusedVariables false
namespace Mine
theorem PartOk.one {prog : Program} {w : World} {K : Frag} {c : Cx K} {env : Env} {S : St} {e : Expr} {i : Int} (h : Ev prog w c env S e (.int i)) : PartOk prog w c env S (some e) (some i) := h
theorem PartOk.no {prog : Program} {w : World} {K : Frag} {c : Cx K} {env : Env} {S : St} : PartOk prog w c env S none none := trivial
noncomputable def figs (ns : List Int) (n : Nat) : List Int := (upTo (n - 2)).map fun k => (([2, 2, 5, 2, 2] : List Int).getD k.toNat 0 + (pickL ns (some k) none (some 5)).sum).fmod (n : Int)
theorem pickL_ints (ns : List Int) (a b st : Option Int) : pickL (intsD ns) a b st = intsD (pickL ns a b st) := pickL_map _ _ _ _ _
theorem d_figs {w : World} {ns : List Int} {n : Nat} (h2 : 2 ≤ n) (h7 : n ≤ 7) (hn : ns.length ≤ 63) : DFun PW w (Mine.K1 w.params) 779 (0 + 1) (40 + 8) [lD ns, .int n] (lD (figs ns n)) := by
  refine (?_ : PySem.Challenge.rw_oc0261_02 = PySem.Challenge.rw_oc0261_02 → (Mine.K1 w.params) = (Mine.K1 w.params) → _) rfl rfl
  k_fill
  intro _ _
  refine dfun_of (ps := ["script", "size"]) (by k_is) (by k_is) rfl (fun vs hl s _ => ?_) (by decide) (by decide) (by decide) rfl rfl rfl ?_
  · cases vs with
    | nil => cases hl
    | cons v r =>
      cases r with
      | nil => cases hl
      | cons v2 r =>
        cases r with
        | nil => exact BindsTo.of_eq rfl
        | cons _ _ => cases hl
  intro c hdp hun
  refine Ex.cons (Ex1.assign (d := lD [2, 2, 5, 2, 2]) (Ev.list (ds := intsD [2, 2, 5, 2, 2]) (EvL.cons Ev.cInt (EvL.cons Ev.cInt (EvL.cons Ev.cInt (EvL.cons Ev.cInt (EvL.cons Ev.cInt EvL.nil))))) (by rw [sizeLine_eq]; decide)) (.inr ⟨rfl, rfl⟩)) ?_
  refine Ex.ret (Ex1.ret ?_)
  refine Ev.cast (Ev.compA Dat.int toI (fun _ => rfl) (xs := upTo (n - 2)) (Cp := [("own", .val (lD [2, 2, 5, 2, 2])), ("script", .val (lD ns)), ("size", .val (.int n))]) (fun _ => true) (fun k => .int ((([2, 2, 5, 2, 2] : List Int).getD k.toNat 0 + (pickL ns (some k) none (some 5)).sum).fmod (n : Int))) (EvIt.range ((Ev.sub (Ev.name rfl) Ev.cInt).cast (by congr 1; walk_at "om")) (by walk_at "om") k_tops.2.1) rfl ⟨?_⟩ rfl (by decide) (by decide) rfl (by simp; walk_at "om") ?_ ?_) ?_
  · intro p hp
    simp only [List.mem_cons, List.not_mem_nil, or_false] at hp
    rcases hp with rfl | rfl | rfl <;> exact ⟨rfl, rfl, rfl, rfl⟩
  · intro C k hk
    exact Tsts.nil
  · intro C k hk _
    obtain ⟨j, hj, rfl⟩ := List.mem_map.mp hk
    have hj := List.mem_range.mp hj
    refine Ev.fmod (Ev.add (EvB.int (EvB.item (d := .int (([2, 2, 5, 2, 2] : List Int).getD j 0)) (Ev.name rfl).b (Ev.name rfl) (by walk_at "om") ?_ (by walk_at "om"))) (Ev.sum (Ev.cast (Ev.sliceSt (a := some (j : Int)) (b := none) (Ev.name rfl) (PartOk.one (Ev.name rfl)) PartOk.no Ev.cInt (by decide) (by rw [List.length_map, sizeLine_eq]; walk_at "om")) (congrArg Dat.list (pickL_ints _ _ _ _))).b k_tops.2.2.2.1)) (Ev.name rfl) (by walk_at "om")
    have h5 : j < 5 := by walk_at "om"
    show (intsD [2, 2, 5, 2, 2])[j]? = _
    rw [List.getElem?_map, getD_some (l := ([2, 2, 5, 2, 2] : List Int)) (d := 0) h5]; rfl
  · rw [filt]; simp [figs]
end Mine

end
section
open PySem PySem.W PyProof.Rows PySem.Calls
set_option Elab.async false
set_option maxRecDepth 100000
set_option maxHeartbeats 0
set_option linter.unusedVariables false
namespace Mine
theorem d_int2ap {w : World} {n : Int} (hn : 0 ≤ n) (hn2 : n < 16 ^ 16) : DFun PW w (Mine.K1 w.params) 766 (0 + 1) (40 + 8) [.int n] (.bytes (ap n.toNat).toArray) := by
  intro vs fz D
  cases D with
  | cons D1 D2 =>
    cases D1
    cases D2
    refine Spec.mono (c_int2ap hn hn2) ?_
    rintro v n' ⟨rfl, t, rfl⟩
    exact ⟨fun _ h => h, .bytes _ _⟩
noncomputable def numW (fs : List Int) : Int := fs.foldl (fun n f => n * 16 + f) 1
theorem numW_snoc (fs : List Int) (f : Int) : numW (fs ++ [f]) = numW fs * 16 + f := by simp [numW]
theorem fold_bound : ∀ (fs : List Int) (a : Int), 0 < a → (∀ f ∈ fs, 0 ≤ f ∧ f < 16) → 0 < fs.foldl (fun n f => n * 16 + f) a ∧ fs.foldl (fun n f => n * 16 + f) a < (a + 1) * 16 ^ fs.length
  | [], a, ha, _ => by simp; walk_at "om"
  | f :: fs, a, ha, h => by
    have ⟨a1, a2⟩ := h f List.mem_cons_self
    have ⟨i1, i2⟩ := fold_bound fs (a * 16 + f) (by walk_at "om") fun g hg => h g (List.mem_cons_of_mem _ hg)
    refine ⟨i1, Int.lt_of_lt_of_le i2 ?_⟩
    rw [List.length_cons, Int.pow_succ, Int.mul_comm (16 ^ fs.length) 16, ← Int.mul_assoc]
    exact Int.mul_le_mul_of_nonneg_right (by walk_at "om") (Int.le_of_lt (Int.pow_pos (by decide)))
theorem numW_bound (fs : List Int) (h : ∀ f ∈ fs, 0 ≤ f ∧ f < 16) : 0 < numW fs ∧ numW fs < 2 * 16 ^ fs.length := fold_bound fs 1 (by decide) h
theorem k_w1 {w : World} : (nsIn (Mine.K1 w.params) mainGlobals "Int2AP" = some (some (.ref 766)) ∧ isDef (Mine.K1 w.params) 766 = true) := by
  refine (?_ : PySem.Challenge.rw_oc0261_02 = PySem.Challenge.rw_oc0261_02 → (Mine.K1 w.params) = (Mine.K1 w.params) → _) rfl rfl
  k_fill
  intro _ _
  exact ⟨by k_is, isDef_of (by k_is)⟩
theorem d_wordL {w : World} {fs : List Int} (hf : ∀ f ∈ fs, 0 ≤ f ∧ f < 16) (hl : fs.length ≤ 10) : DFun PW w (Mine.K1 w.params) 786 (10 + 1) (100 + 8) [lD fs] (.bytes (ap (numW fs).toNat).toArray) := by
  refine (?_ : PySem.Challenge.rw_oc0261_02 = PySem.Challenge.rw_oc0261_02 → (Mine.K1 w.params) = (Mine.K1 w.params) → _) rfl rfl
  k_fill
  intro _ _
  refine dfun_of (ps := ["figures"]) (by k_is) (by k_is) rfl (fun vs hl s _ => ?_) (by decide) (by decide) (by decide) rfl rfl rfl ?_
  · cases vs with
    | nil => cases hl
    | cons v r =>
      cases r with
      | nil => exact BindsTo.of_eq rfl
      | cons _ _ => cases hl
  intro c hdp hun
  have hb := numW_bound fs hf
  have hb2 : numW fs < 16 ^ 16 := by
    have : (16 : Int) ^ fs.length ≤ 16 ^ 10 := by exact_mod_cast Nat.pow_le_pow_right (by decide) hl
    walk_at "om"
  refine Ex.cons (Ex1.assign (d := .int 1) Ev.cInt (.inl rfl)) ?_
  refine Ex.cons (Ex1.for_ (fun i => [("number", .val (.int (numW (fs.take i)))), ("figures", .val (lD fs))]) (EvIt.list (ds := intsD fs) (Ev.name rfl)) ?_ (.inl rfl) ?_) ?_
  · exact .cons rfl (.cons rfl .nil)
  · intro i d hd
    obtain ⟨f, hin, rfl⟩ : ∃ n, fs[i]? = some n ∧ d = .int n := by
      rw [List.getElem?_map] at hd
      cases e : fs[i]? with
      | none => rw [e] at hd; cases hd
      | some n => rw [e] at hd; cases hd; exact ⟨n, rfl, rfl⟩
    have hstep : fs.take (i + 1) = fs.take i ++ [f] := by rw [List.take_add_one, hin]; rfl
    refine Ex.post (Ex.cons (Ex1.assign (d := .int (numW (fs.take i) * 16 + f)) (Ev.add (Ev.mul (Ev.name rfl) Ev.cInt (.of_right (by decide))) (Ev.name rfl)) (.inl rfl)) Ex.nil) ?_
    refine .cons ?_ (.cons rfl .nil)
    rw [hstep, numW_snoc]; rfl
  · refine Ex.ret (Ex1.ret (Ev.call (EvL.cons (Ev.name (d := .int (numW fs)) ?_) EvL.nil) (d_int2ap (by walk_at "om") hb2) rfl k_w1.1 k_w1.2 (by walk_at "om") (by walk_at "om")))
    rw [List.length_map, List.take_length]; rfl
end Mine

end
section
open PySem PySem.W PyProof.Rows PySem.Calls
set_option Elab.async false
set_option linter.unusedVariables false
namespace Mine
noncomputable def ixm (m : Str → Option Value) (ix : Str) (k : Nat) (t : Tok) : Str → Option Value := fun x => if x = ix then some (.int (k : Int) t) else m x
theorem ixm_self {m : Str → Option Value} {ix : Str} {k : Nat} {t : Tok} (h : m ix = some (.int (k : Int) t)) : ixm m ix k t = m := by
  funext x
  unfold ixm
  split
  · rename_i e; rw [e, h]
  · rfl
theorem ixm_set {m : Str → Option Value} {ix : Str} {k k' : Nat} {t t' : Tok} : (fun x => if x = ix then some (Value.int (k' : Int) t') else ixm m ix k t x) = ixm m ix k' t' := by
  funext x
  unfold ixm
  split <;> rfl
theorem fr_ixm {g h : Heap} {L : Addr} {m : Str → Option Value} {ix : Str} {k k' : Nat} {t t' : Tok} {z : Int} (F : Fr g L h (fun x => if x = ix then some (Value.int z t') else ixm m ix k t x)) (e : z = (k' : Int)) : Fr g L h (ixm m ix k' t') := by
  subst e
  rw [ixm_set] at F
  exact F
inductive SkI (g : Heap) (L : Addr) (m : Str → Option Value) (led : Led) (ix : Str) (ns : List Int) (v : Int) (k0 : Nat) (k : Nat) (h : Heap) : Prop
  | mk (t : Tok) : Fr g L h (ixm m ix k t) → News g L h led → k0 ≤ k → k ≤ ns.length → (ns.drop k0).dropWhile (· == v) = (ns.drop k).dropWhile (· == v) → SkI g L m led ix ns v k0 k h
theorem skd_at {xs : List Int} {i : Nat} (h : i < xs.length) : xs.drop i = xs.getD i 0 :: xs.drop (i + 1) := by
  rw [List.drop_eq_getElem_cons h]; congr 1; simp [List.getD, h]
theorem skip_loop {prog : Program} {w : World} {A : Around} {E : Value → Shared → Prop} {s : Shared} {Q : Flow → Shared → Prop} {g : Heap} {L l : Addr} {m : Str → Option Value} {led : Led} {env : Env} {sq ix vl : Str} {p1 p2 p3 p4 p5 p6 p7 p8 p9 : Pos} {kk n k0 : Nat} {vs : List Value} {ns : List Int} {v : Int} {ctx : Value} {t0 t1 : Tok}
    (F : Fr g L s.heap m) (N : News g L s.heap led) (ms : m sq = some (.ref l)) (mi : m ix = some (.int (k0 : Int) t0)) (mv : m vl = some (.int v t1)) (hm : (l, listOf vs.toArray n) ∈ led) (ia : IntsAre vs ns) (hz : ns.length < 2 ^ 62) (h0 : k0 ≤ ns.length)
    (hE : PassesOwn (model prog w) A env E) (hk : env.scope.kind = .function) (hL : env.locals = L) (h1 : env.kindOf sq = some .local) (h2 : env.kindOf ix = some .local) (h3 : env.kindOf vl = some .local) (n1 : sq ≠ ix) (n2 : vl ≠ ix)
    (d1 : (sq == ("__debug__" : Str)) = false) (d2 : (ix == ("__debug__" : Str)) = false) (d3 : (vl == ("__debug__" : Str)) = false) (hs : ∀ k t, subscripted (.Name ix p2) false (.ref l) (.int k t) = operate [.ref l, .int k t] (getItem (.ref l) (.int k t)))
    (out : ∀ (s' : Shared) (m' : Str → Option Value) (k : Int) (tk : Tok) (Q' : Value → Shared → Prop), Fr g L s'.heap m' → News g L s'.heap led → (ns.length : Int) ≤ k → k < 2 ^ 62 → (∀ h' tk' e, NewX g L h' m' led e "IndexError" ctx → E (.ref e) { s' with heap := h', toks := tk' }) → wpAny (model prog w) A (subscriptTail (.Name sq p1) (.Name ix p2) (.ref l) (.int k tk)) Q' E s')
    (next : ∀ k h' tk' t, k0 ≤ k → k < ns.length → (ns.drop k0).dropWhile (· == v) = ns.drop k → Fr g L h' (ixm m ix k t) → News g L h' led → Q .next { s with heap := h', toks := tk' })
    (raise : ∀ h' tk' t e, (ns.drop k0).dropWhile (· == v) = [] → NewX g L h' (ixm m ix ns.length t) led e "IndexError" ctx → E (.ref e) { s with heap := h', toks := tk' }) :
    wpAny (model prog w) A (exec (.While (.Compare (.Subscript (.Name sq p1) (.Name ix p2) p3) [.Eq] [.Name vl p4] p5) [.AugAssign (.Name ix p6) .Add (.Constant (.int 1) kk p7) p8] [] p9) env) Q E s := by
  subst hL
  refine wp_whileE hE (SkI g env.locals m led ix ns v k0) (fun k => ns.length - k) k0 ⟨t0, (ixm_self mi).symm ▸ F, N, Nat.le_refl _, h0, rfl⟩ ?_
  rintro k h tk ⟨t, F, N, a1, a2, a3⟩
  have es : ixm m ix k t sq = some (.ref l) := (if_neg n1).trans ms
  have ei : ixm m ix k t ix = some (.int (k : Int) t) := if_pos rfl
  have ev : ixm m ix k t vl = some (.int v t1) := (if_neg n2).trans mv
  refine wpAny_isTrue_Compare1 (Subscript_ (wpAny_Name (wpAny_loadName_local hk h1 F.ns es (wpAny_Name (wpAny_loadName_local hk h2 F.ns ei ?_) d2)) d1)) rfl
  by_cases hlt : k < ns.length
  · refine item_in N hm ia (Int.natCast_nonneg _) (Int.ofNat_lt.mpr hlt) hz (fun tk1 => wpAny_Name (wpAny_loadName_local hk h3 F.ns ev (PyProof.Rows.eq_int (wpAny_truthy_bool ⟨fun hb => ?_, fun hb => ?_⟩))) d3) (hs _ _)
    · have hb : ns.getD k 0 = v := beq_iff_eq.mp hb
      refine wpAny_execs_cons (wpAny_AugAssign_Name (wpAny_loadName_local hk h2 F.ns ei (wpAny_Constant_int (PyProof.Rows.iadd_int (wpAny_storeName_local h2 F.ns (fun h' hn hsb => ?_) (by rw [hk]; rfl))))))
      exact wpAny_execs_nil ⟨k + 1, Nat.sub_lt_sub_left hlt (Nat.lt_succ_self k), h', _, rfl, ⟨_, fr_ixm (F.set hn hsb) rfl, N.set hsb, Nat.le_succ_of_le a1, hlt, by rw [a3, skd_at hlt, List.dropWhile_cons, if_pos (beq_iff_eq.mpr hb)]⟩⟩
    · refine wpAny_execs_nil (next k h _ t a1 hlt ?_ F N)
      rw [a3, skd_at hlt, List.dropWhile_cons, if_neg (show ¬ (ns.getD k 0 == v) = true from Bool.eq_false_iff.mp hb)]
  · obtain rfl : k = ns.length := Nat.le_antisymm a2 (Nat.le_of_not_lt hlt)
    refine out _ _ _ _ _ F N (Int.le_refl _) (by walk_at "om") fun h' tk' e X => raise h' tk' t e ?_ X
    rw [a3, List.drop_length]; rfl
theorem wp_out {M : Model} {A : Around} {env : Env} {st : List Stmt} {Q : Flow → Shared → Prop} {E : Value → Shared → Prop} {s : Shared} (N : Shared → Prop) (X : Value → Shared → Prop) (hN : ∀ s', N s' → Q .next s') (hX : ∀ v s', X v s' → E v s') (hP : PassesOwn M A env X)
    (h : ∀ (Q' : Flow → Shared → Prop) (X' : Value → Shared → Prop), (∀ s', N s' → Q' .next s') → (∀ v s', X v s' → X' v s') → PassesOwn M A env X' → wpAny M A (execs st env) Q' X' s) : wpAny M A (execs st env) Q E s :=
  wpAny_mono (h (fun f s' => f = .next ∧ N s') X (fun _ h => ⟨rfl, h⟩) (fun _ _ h => h) hP) (fun _ _ h => h.1 ▸ hN _ h.2) hX
end Mine

end
section
open PySem PySem.W PyProof.Rows PySem.Calls
set_option Elab.async false
set_option maxRecDepth 100000
set_option maxHeartbeats 0
namespace Mine


theorem dw_le (f : Int → Bool) : ∀ l : List Int, (l.dropWhile f).length ≤ l.length
  | [] => Nat.le_refl _
  | x :: l => by
    rw [List.dropWhile_cons]
    split
    · exact Nat.le_succ_of_le (dw_le f l)
    · exact Nat.le_refl _
noncomputable def sld : List Int → List Int → List Int × List Int
  | [], ys => ([], ys)
  | x :: xs, [] => (x :: xs, [])
  | x :: xs, y :: ys =>
    if x < y then (x :: (sld (xs.dropWhile (· == x)) (y :: ys)).1, (sld (xs.dropWhile (· == x)) (y :: ys)).2)
    else if y < x then ((sld (x :: xs) (ys.dropWhile (· == y))).1, y :: (sld (x :: xs) (ys.dropWhile (· == y))).2)
    else sld (xs.dropWhile (· == x)) (ys.dropWhile (· == y))
termination_by xs ys => xs.length + ys.length
decreasing_by
  all_goals simp only [List.length_cons]
  all_goals (first | (have := dw_le (· == x) xs; have := dw_le (· == y) ys; walk_at "om") | (have := dw_le (· == x) xs; walk_at "om"))
theorem sld_nil (ys : List Int) : sld [] ys = ([], ys) := by rw [sld]
theorem sld_nil' (xs : List Int) : sld xs [] = (xs, []) := by cases xs <;> rw [sld]
theorem sld_lt {x y : Int} {xs ys : List Int} (h : x < y) : sld (x :: xs) (y :: ys) = (x :: (sld (xs.dropWhile (· == x)) (y :: ys)).1, (sld (xs.dropWhile (· == x)) (y :: ys)).2) := by rw [sld, if_pos h]
theorem sld_gt {x y : Int} {xs ys : List Int} (h : y < x) : sld (x :: xs) (y :: ys) = ((sld (x :: xs) (ys.dropWhile (· == y))).1, y :: (sld (x :: xs) (ys.dropWhile (· == y))).2) := by rw [sld, if_neg (by walk_at "om"), if_pos h]
theorem sld_eq {x y : Int} {xs ys : List Int} (h : x = y) : sld (x :: xs) (y :: ys) = sld (xs.dropWhile (· == x)) (ys.dropWhile (· == y)) := by rw [sld, if_neg (by walk_at "om"), if_neg (by walk_at "om")]
theorem drop_at {xs : List Int} {i : Nat} (h : i < xs.length) : xs.drop i = xs.getD i 0 :: xs.drop (i + 1) := by
  rw [List.drop_eq_getElem_cons h]; congr 1; simp [List.getD, h]
theorem dw_on {xs : List Int} {i : Nat} {x : Int} (h : i < xs.length) (e : xs.getD i 0 = x) : (xs.drop i).dropWhile (· == x) = (xs.drop (i + 1)).dropWhile (· == x) := by
  rw [drop_at h, List.dropWhile_cons, if_pos (by simpa using e)]
theorem dw_off {xs : List Int} {i : Nat} {x : Int} (h : i < xs.length) (e : xs.getD i 0 ≠ x) : (xs.drop i).dropWhile (· == x) = xs.drop i := by
  rw [drop_at h, List.dropWhile_cons, if_neg (by simpa using e)]
theorem dw_end {xs : List Int} {i : Nat} {x : Int} (h : xs.length ≤ i) : (xs.drop i).dropWhile (· == x) = xs.drop i := by
  rw [List.drop_eq_nil_of_le h]; rfl

local macro_rules | `(tactic| k_all) => `(tactic| exact ne_of_lt' (by assumption))
inductive SldI (g : Heap) (L1 ax ay am au : Addr) (news : List (Addr × Obj)) (xs ys : List Int) (d : Nat × Nat × List Int × List Int) (h : Heap) : Prop
  | mk (m0 : Str → Option Value) (ti tj : Tok) (nm nu : Nat) (vm vu : List Value) : Fr g L1 h (put "expected" (.ref ax) (put "actual" (.ref ay) (put "i" (.int (d.1 : Int) ti) (put "j" (.int (d.2.1 : Int) tj) (put "missing" (.ref am) (put "unexpected" (.ref au) m0)))))) → News g L1 h ((au, listOf (vu : List Value).toArray nu) :: (am, listOf (vm : List Value).toArray nm) :: news) → IntsAre vm d.2.2.1 → IntsAre vu d.2.2.2 → d.1 ≤ xs.length → d.2.1 ≤ ys.length → d.2.2.1.length ≤ d.1 → d.2.2.2.length ≤ d.2.1 →
    sld xs ys = (d.2.2.1 ++ (sld (xs.drop d.1) (ys.drop d.2.1)).1, d.2.2.2 ++ (sld (xs.drop d.1) (ys.drop d.2.1)).2) → SldI g L1 ax ay am au news xs ys d h
inductive SldE (ax ay am au : Addr) (news : List (Addr × Obj)) (xs ys : List Int) (m : Str → Option Value) (led : List (Addr × Obj)) : Prop
  | mk (i j : Nat) (ms us : List Int) (m0 : Str → Option Value) (ti tj : Tok) (nm nu : Nat) (vm vu : List Value) : m = (put "expected" (.ref ax) (put "actual" (.ref ay) (put "i" (.int (i : Int) ti) (put "j" (.int (j : Int) tj) (put "missing" (.ref am) (put "unexpected" (.ref au) m0)))))) → led = ((au, listOf (vu : List Value).toArray nu) :: (am, listOf (vm : List Value).toArray nm) :: news) → IntsAre vm ms → IntsAre vu us → i ≤ xs.length → j ≤ ys.length → ms.length ≤ i → us.length ≤ j → sld xs ys = (ms ++ xs.drop i, us ++ ys.drop j) → SldE ax ay am au news xs ys m led
inductive SldL (g : Heap) (L1 ax ay am au : Addr) (iv jv ev av : Int) (led : List (Addr × Obj)) (lo hi : Nat) (P : Prop) (k : Nat) (h : Heap) : Prop
  | mk (m0 : Str → Option Value) (ti tj te ta : Tok) : Fr g L1 h (put "expected" (.ref ax) (put "actual" (.ref ay) (put "i" (.int iv ti) (put "j" (.int jv tj) (put "missing" (.ref am) (put "unexpected" (.ref au) (put "e" (.int ev te) (put "a" (.int av ta) m0)))))))) → News g L1 h led → lo ≤ k → k ≤ hi → P → SldL g L1 ax ay am au iv jv ev av led lo hi P k h
inductive SldF (ax ay am au : Addr) (iv jv ev av : Int) (led0 : List (Addr × Obj)) (P : Prop) (m : Str → Option Value) (led : List (Addr × Obj)) : Prop
  | mk (m0 : Str → Option Value) (ti tj te ta : Tok) : m = (put "expected" (.ref ax) (put "actual" (.ref ay) (put "i" (.int iv ti) (put "j" (.int jv tj) (put "missing" (.ref am) (put "unexpected" (.ref au) (put "e" (.int ev te) (put "a" (.int av ta) m0)))))))) → led = led0 → P → SldF ax ay am au iv jv ev av led0 P m led
inductive SldG (ax ay am au : Addr) (iv ev av : Int) (led0 : List (Addr × Obj)) (n j : Nat) (P : Nat → Prop) (m : Str → Option Value) (led : List (Addr × Obj)) : Prop
  | mk (l : Nat) (m0 : Str → Option Value) (ti tj te ta : Tok) : m = (put "expected" (.ref ax) (put "actual" (.ref ay) (put "i" (.int iv ti) (put "j" (.int (l : Int) tj) (put "missing" (.ref am) (put "unexpected" (.ref au) (put "e" (.int ev te) (put "a" (.int av ta) m0)))))))) → led = led0 → l ≤ n → j + 1 ≤ l → P l → SldG ax ay am au iv ev av led0 n j P m led
theorem c_sld {w : World} {news : List (Addr × Obj)} (ax ay : Addr) (vx vy : List Value) (xs ys : List Int) (nx ny : Nat) (hx : (ax, listOf vx.toArray nx) ∈ news) (hy : (ay, listOf vy.toArray ny) ∈ news) (ix : IntsAre vx xs) (iy : IntsAre vy ys) (lx : xs.length < 1000) (ly : ys.length < 1000) :
    Spec PySem.Challenge.pw_oc0261_02 w (Mine.K1 w.params) 773 [.ref ax, .ref ay] (0 + 1) (40 + 8) news (fun v news' => Sub news news' ∧ DatIn news' v (.tuple [.list (intsD (sld xs ys).1), .list (intsD (sld xs ys).2)])) := by
  refine (?_ : PySem.Challenge.rw_oc0261_02 = PySem.Challenge.rw_oc0261_02 → (Mine.K1 w.params) = (Mine.K1 w.params) → _) rfl rfl
  k_fill
  intro _ _
  refine spec_of (binds := [(Str.ofString "expected", .ref ax), (Str.ofString "actual", .ref ay)]) (by k_is) (by k_is) (fun _ _ => BindsTo.of_eq rfl) (locs rfl) rfl rfl rfl (by decide) ?_
  intro p loose mean mg mb dp un gd A₀ base g outer L1 s Q hdp hun G F1 N1 hq
  k_with_none
  have XB := G.XB
  have TB := G.TB.toTopRead
  have D1 := G.D
  have B1 := G.B
  have X1 := G.X
  have T1 := G.T.toTopRead
  obtain ⟨m0, F1⟩ : ∃ m0, Fr g L1 _ (put "expected" (.ref ax) (put "actual" (.ref ay) m0)) := ⟨_, (Fr_put (x := "expected") (Fr_put (x := "actual") F1 rfl) rfl)⟩
  repeat (first | (k_unfold; (try dsimp only)) | (with_reducible refine execs_one ?_) | ((fail_if_success (with_reducible show wpAny _ _ (exec (Stmt.While _ _ _ _) _) _ _ _)); walk1))
  obtain ⟨am, au, m0, ti, tj, F2, N2, la, lu, lu2⟩ : ∃ am au m0 ti tj, Fr g L1 _ (put "expected" (.ref ax) (put "actual" (.ref ay) (put "i" (.int 0 ti) (put "j" (.int 0 tj) (put "missing" (.ref am) (put "unexpected" (.ref au) m0)))))) ∧ News g L1 _ ((au, listOf #[] 0) :: (am, listOf #[] 0) :: news) ∧ (∀ p ∈ news, p.1 < am) ∧ am < au ∧ (∀ p ∈ news, p.1 < au) :=
    ⟨_, _, _, _, _, (Fr_put (Fr_put (Fr_put (Fr_put (Fr_put (Fr_put (by assumption) rfl) rfl) rfl) rfl) rfl) rfl), by assumption, by assumption, (by rename_i q _ _ _; exact q.1), (by rename_i q _ _ _; exact lt_of_allLt q.2)⟩
  have Uu : ∀ (o o' oa : Obj), Upd au o o' ((au, o) :: (am, oa) :: news) ((au, o') :: (am, oa) :: news) := fun o o' oa => .head (by
    intro p hp
    rcases List.mem_cons.mp hp with e | e
    · rw [e]; exact Nat.ne_of_lt lu
    · exact Nat.ne_of_lt (lu2 p e))
  have Um : ∀ (o o' oa : Obj), Upd am o o' ((au, oa) :: (am, o) :: news) ((au, oa) :: (am, o') :: news) := fun o o' oa => .tail (Nat.ne_of_gt lu) (.head fun p hp => Nat.ne_of_lt (la p hp))
  have G1 : Gd (Mine.K1 w.params) p loose mean mg mb A₀ base outer g := G
  refine wp_while (SldI g L1 ax ay am au news xs ys) (fun d => (xs.length - d.1) + (ys.length - d.2.1)) (0, 0, [], []) ?_ ?_
  · exact ⟨_, _, _, _, _, [], [], F2, N2, .nil, .nil, by simp, by simp, by simp, by simp, by simp⟩
  · rintro ⟨i, j, ms, us⟩ h tk ⟨m0, ti, tj, nm, nu, vm, vu, F3, N3, im, iu, hi, hj, hms, hus, hsp⟩
    dsimp only at F3 N3 hi hj im iu hms hus hsp ⊢
    refine wpAny_mono (Q := fun b s₂ => b = true ∧ s₂ = { s with heap := h, toks := tk }) (by k_steps) ?_ (fun _ _ h => h)
    rintro _ _ ⟨rfl, rfl⟩
    refine ⟨fun _ => ?_, fun h => nomatch h⟩
    refine wpAny_execs_cons (wpAny_Try_except ?_)
    refine wp_out (fun s' => ∃ d' : Nat × Nat × List Int × List Int, (xs.length - d'.1) + (ys.length - d'.2.1) < (xs.length - i) + (ys.length - j) ∧ ∃ h' tk', s' = { s with heap := h', toks := tk' } ∧ SldI g L1 ax ay am au news xs ys d' h') (ExE (Mine.K1 w.params) p loose mean mg mb A₀ base outer g L1 s "IndexError" (fun _ => True) (SldE ax ay am au news xs ys)) (fun s' hs' => ?_) ?_ (ExE.passes rfl rfl) (fun Q' X' hQ hX hP => ?_)
    · obtain ⟨d', hd, h', tk', rfl, hI⟩ := hs'
      clear F3 N3
      repeat' (first | (k_unfold; (try dsimp only)) | (with_reducible refine execs_one ?_) | ((with_reducible show wpAny _ _ (exec _ _) _ _ _); (with_reducible rename Fr _ _ _ _ => F9); (refine st_at (s := s) F9 fun tk9 => ?_); (try k_fold); walk1) | (k_end; wrow_close) | walk1 | (dsimp only; walk1) | (leave1; try dsimp only) | fail "no step")
      exact ⟨d', hd, h', tk', rfl, hI⟩
    rotate_left
    · k_with "subscriptTail Name Name ref int" => ((with_reducible rename Fr _ _ _ _ => F9); (with_reducible rename News _ _ _ _ => N9); first | (refine item_in N9 (by repeat (first | assumption | exact List.Mem.head _ | apply List.Mem.tail)) (by assumption) (by walk_at "om") (by walk_at "om") (by walk_at "om") ?_; intro _; (try simp only [Int.toNat_natCast])) | (refine item_out rfl F9 N9 (by repeat (first | assumption | exact List.Mem.head _ | apply List.Mem.tail)) (by assumption) (by walk_at "om") (by walk_at "om") ?_; intro _ _ _ hX9; refine Fin1.out (P := _) ?_))
      k_with "call builtin:list.append" => ((with_reducible rename Fr _ _ _ _ => F9); (with_reducible rename News _ _ _ _ => N9); refine append_L F9 N9 (by first | exact Uu _ _ _ | exact Um _ _ _) (by walk_at "om") ?_; intro _ _ _)
      k_with "exec While Compare cons nil" => refine Fin1.out ?_
      k_with "exec Try cons nil nil cons" => refine Fin1.out ?_
      have hlm := im.length
      have hlu := iu.length
      by_cases hi2 : i < xs.length
      · by_cases hj2 : j < ys.length
        · rw [drop_at hi2, drop_at hj2] at hsp
          repeat' (first | (k_unfold; (try dsimp only)) | (with_reducible refine execs_one ?_) | ((with_reducible show wpAny _ _ (exec _ _) _ _ _); (with_reducible rename Fr _ _ _ _ => F9); (refine st_at (s := s) F9 fun tk9 => ?_); (try k_fold); walk1) | (k_end; wrow_close) | walk1 | (dsimp only; walk1) | (leave1; try dsimp only) | fail "no step")
          · (with_reducible rename Fr _ _ _ _ => F9); (with_reducible rename News _ _ _ _ => N9)
            have hlt : xs.getD i 0 < ys.getD j 0 := by assumption
            obtain ⟨t1, N9⟩ : ∃ t1, News g L1 _ ((au, listOf (vu : List Value).toArray nu) :: (am, listOf ((vm ++ [Value.int (xs.getD i 0) t1]) : List Value).toArray (nm + 1)) :: news) := ⟨_, N9⟩
            rw [sld_lt hlt] at hsp
            refine ⟨skip_loop (k0 := i + 1) (ctx := .none) F9 N9 rfl rfl rfl (.tail _ (.tail _ hx)) ix (Nat.lt_trans lx (by decide)) hi2 hP rfl rfl rfl rfl rfl (by decide) (by decide) (by decide) (by decide) (by decide) (fun _ _ => by with_unfolding_all rfl) (fun s' m' k tk Q' F N h1 h2 h3 => item_out rfl F N (.tail _ (.tail _ hx)) ix h1 h2 h3) (fun k h tk t q1 q2 q3 F8 N8 => ?_) (fun h tk t e q3 X8 => ?_)⟩
            · clear F9 N9
              repeat' (first | (k_unfold; (try dsimp only)) | (with_reducible refine execs_one ?_) | ((with_reducible show wpAny _ _ (exec _ _) _ _ _); (with_reducible rename Fr _ _ _ _ => F9); (refine st_at (s := s) F9 fun tk9 => ?_); (try k_fold); walk1) | (k_end; wrow_close) | walk1 | (dsimp only; walk1) | (leave1; try dsimp only) | fail "no step")
              (with_reducible rename Fr _ _ _ _ => F9); (with_reducible rename News _ _ _ _ => N9)
              refine hQ _ ⟨(k, j, ms ++ [xs.getD i 0], us), one_sub q1 q2, _, _, rfl, _, _, _, nm + 1, nu, _, vu, (Fr_put (Fr_put (Fr_put (Fr_put (Fr_put (Fr_put F9 rfl) rfl) rfl) rfl) rfl) rfl), N9, ints_snoc im _ _, iu, Nat.le_of_lt q2, hj, snoc_le hms q1, hus, ?_⟩; dsimp only; rw [hsp, q3, ← drop_at hj2]; simp
            · refine hX _ _ ⟨_, _, _, g, _, _, .none, rfl, rfl, KtsTurn.refl, G1, trivial, ⟨xs.length, j, ms ++ [xs.getD i 0], us, _, _, _, nm + 1, nu, _, vu, rfl, rfl, ints_snoc im _ _, iu, Nat.le_refl _, hj, snoc_le hms hi2, hus, ?_⟩, .inl (NewX.put (NewX.put (NewX.put (NewX.put (NewX.put (NewX.put X8 rfl) rfl) rfl) rfl) rfl) rfl)⟩; rw [hsp, q3, List.drop_length, sld_nil, ← drop_at hj2]; simp

          · (with_reducible rename Fr _ _ _ _ => F9); (with_reducible rename News _ _ _ _ => N9)
            have hlt : ys.getD j 0 < xs.getD i 0 := by assumption
            obtain ⟨t1, N9⟩ : ∃ t1, News g L1 _ ((au, listOf ((vu ++ [Value.int (ys.getD j 0) t1]) : List Value).toArray (nu + 1)) :: (am, listOf (vm : List Value).toArray nm) :: news) := ⟨_, N9⟩
            rw [sld_gt hlt] at hsp
            refine ⟨skip_loop (k0 := j + 1) (ctx := .none) F9 N9 rfl rfl rfl (.tail _ (.tail _ hy)) iy (Nat.lt_trans ly (by decide)) hj2 hP rfl rfl rfl rfl rfl (by decide) (by decide) (by decide) (by decide) (by decide) (fun _ _ => by with_unfolding_all rfl) (fun s' m' k tk Q' F N h1 h2 h3 => item_out rfl F N (.tail _ (.tail _ hy)) iy h1 h2 h3) (fun k h tk t q1 q2 q3 F8 N8 => ?_) (fun h tk t e q3 X8 => ?_)⟩
            · clear F9 N9
              repeat' (first | (k_unfold; (try dsimp only)) | (with_reducible refine execs_one ?_) | ((with_reducible show wpAny _ _ (exec _ _) _ _ _); (with_reducible rename Fr _ _ _ _ => F9); (refine st_at (s := s) F9 fun tk9 => ?_); (try k_fold); walk1) | (k_end; wrow_close) | walk1 | (dsimp only; walk1) | (leave1; try dsimp only) | fail "no step")
              (with_reducible rename Fr _ _ _ _ => F9); (with_reducible rename News _ _ _ _ => N9)
              refine hQ _ ⟨(i, k, ms, us ++ [ys.getD j 0]), one_subr q1 q2, _, _, rfl, _, _, _, nm, nu + 1, vm, _, (Fr_put (Fr_put (Fr_put (Fr_put (Fr_put (Fr_put F9 rfl) rfl) rfl) rfl) rfl) rfl), N9, im, ints_snoc iu _ _, hi, Nat.le_of_lt q2, hms, snoc_le hus q1, ?_⟩; dsimp only; rw [hsp, q3, ← drop_at hi2]; simp
            · refine hX _ _ ⟨_, _, _, g, _, _, .none, rfl, rfl, KtsTurn.refl, G1, trivial, ⟨i, ys.length, ms, us ++ [ys.getD j 0], _, _, _, nm, nu + 1, vm, _, rfl, rfl, im, ints_snoc iu _ _, hi, Nat.le_refl _, hms, snoc_le hus hj2, ?_⟩, .inl (NewX.put (NewX.put (NewX.put (NewX.put (NewX.put (NewX.put X8 rfl) rfl) rfl) rfl) rfl) rfl)⟩; rw [hsp, q3, List.drop_length, sld_nil', ← drop_at hi2]; simp

          · (with_reducible rename Fr _ _ _ _ => F9); (with_reducible rename News _ _ _ _ => N9)
            have hxy : xs.getD i 0 = ys.getD j 0 := Int.le_antisymm (Int.not_lt.mp (show ¬ ys.getD j 0 < xs.getD i 0 by assumption)) (Int.not_lt.mp (show ¬ xs.getD i 0 < ys.getD j 0 by assumption))
            rw [sld_eq hxy] at hsp
            refine ⟨wpAny_Try_finally ?_⟩
            refine wpAny_mono (E := ExE (Mine.K1 w.params) p loose mean mg mb A₀ base outer g L1 s "IndexError" (· = Value.none) (SldF ax ay am au (xs.length : Int) (j : Int) (xs.getD i 0) (ys.getD j 0) ((au, listOf (vu : List Value).toArray nu) :: (am, listOf (vm : List Value).toArray nm) :: news) ((xs.drop (i + 1)).dropWhile (· == xs.getD i 0) = []))) ?_ (fun _ _ h => h) ?_
            · refine wpAny_execs_cons ?_
              refine skip_loop (k0 := i + 1) (ctx := .none) F9 N9 rfl rfl rfl (.tail _ (.tail _ hx)) ix (Nat.lt_trans lx (by decide)) hi2 (ExE.passes rfl rfl) rfl rfl rfl rfl rfl (by decide) (by decide) (by decide) (by decide) (by decide) (fun _ _ => by with_unfolding_all rfl) (fun s' m' k tk Q' F N h1 h2 h3 => item_out rfl F N (.tail _ (.tail _ hx)) ix h1 h2 h3) (fun k h tk t q1 q2 q3 F8 N8 => ?_) (fun h tk t e q3 X8 => ?_)
              · clear F9 N9
                repeat' (first | (k_unfold; (try dsimp only)) | (with_reducible refine execs_one ?_) | ((with_reducible show wpAny _ _ (exec _ _) _ _ _); (with_reducible rename Fr _ _ _ _ => F9); (refine st_at (s := s) F9 fun tk9 => ?_); (try k_fold); walk1) | (k_end; wrow_close) | walk1 | (dsimp only; walk1) | (leave1; try dsimp only) | fail "no step")
                (with_reducible rename Fr _ _ _ _ => F9); (with_reducible rename News _ _ _ _ => N9)
                rw [q3] at hsp
                refine ⟨wpAny_mono (E := X') ?_ (fun _ _ h => h) hP⟩
                refine skip_loop (k0 := j + 1) (ctx := .none) F9 N9 rfl rfl rfl (.tail _ (.tail _ hy)) iy (Nat.lt_trans ly (by decide)) hj2 hP rfl rfl rfl rfl rfl (by decide) (by decide) (by decide) (by decide) (by decide) (fun _ _ => by with_unfolding_all rfl) (fun s' m' k tk Q' F N h1 h2 h3 => item_out rfl F N (.tail _ (.tail _ hy)) iy h1 h2 h3) (fun l h tk t r1 r2 r3 F7 N7 => ?_) (fun h tk t e r3 X7 => ?_)
                · clear F9 N9
                  repeat' (first | (k_unfold; (try dsimp only)) | (with_reducible refine execs_one ?_) | ((with_reducible show wpAny _ _ (exec _ _) _ _ _); (with_reducible rename Fr _ _ _ _ => F9); (refine st_at (s := s) F9 fun tk9 => ?_); (try k_fold); walk1) | (k_end; wrow_close) | walk1 | (dsimp only; walk1) | (leave1; try dsimp only) | fail "no step")
                  (with_reducible rename Fr _ _ _ _ => F9); (with_reducible rename News _ _ _ _ => N9)
                  rw [r3] at hsp
                  exact hQ _ ⟨(k, l, ms, us), two_sub q1 q2 r1 r2, _, _, rfl, _, _, _, nm, nu, vm, vu, (Fr_put (Fr_put (Fr_put (Fr_put (Fr_put (Fr_put F9 rfl) rfl) rfl) rfl) rfl) rfl), N9, im, iu, Nat.le_of_lt q2, Nat.le_of_lt r2, le_step hms q1, le_step hus r1, hsp⟩
                · rw [r3] at hsp
                  refine hX _ _ ⟨_, _, _, g, _, _, .none, rfl, rfl, KtsTurn.refl, G1, trivial, ⟨k, ys.length, ms, us, _, _, _, nm, nu, vm, vu, rfl, rfl, im, iu, Nat.le_of_lt q2, Nat.le_refl _, le_step hms q1, Nat.le_trans hus hj, ?_⟩, .inl (NewX.put (NewX.put (NewX.put (NewX.put (NewX.put (NewX.put X7 rfl) rfl) rfl) rfl) rfl) rfl)⟩
                  rw [hsp, List.drop_length, sld_nil']
              · exact ⟨_, _, _, g, _, _, .none, rfl, rfl, KtsTurn.refl, G1, rfl, ⟨_, _, _, _, _, rfl, rfl, q3⟩, .inl (NewX.put (NewX.put (NewX.put (NewX.put (NewX.put (NewX.put (NewX.put (NewX.put X8 rfl) rfl) rfl) rfl) rfl) rfl) rfl) rfl)⟩
            · intro v s₁ X
              refine ExE.note rfl rfl X ?_
              intro e h tk g' m' led' ctx hv T5 G5 hC hJ H
              obtain ⟨m0, ti, tj, te, ta, rfl, rfl, hdw⟩ := hJ
              subst hv hC
              refine ⟨ref_ne_byPass e, note_again rfl H (flight H none fun h' H' => ?_)⟩
              obtain ⟨F5, oe, vs, T6, oT, ts, N5, hc5, hd5, h15, h25, hdT5, h35, hTe5, hap5⟩ := H'
              obtain ⟨B5, X5, TT5, _, _, D5⟩ := id G5
              clear F9 N9
              k_with "subscriptTail Name Name ref int" => ((with_reducible rename Fr _ _ _ _ => F9); (with_reducible rename News _ _ _ _ => N9); first | (refine item_in N9 (by repeat (first | assumption | exact List.Mem.head _ | apply List.Mem.tail)) (by assumption) (by walk_at "om") (by walk_at "om") (by walk_at "om") ?_; intro _; (try simp only [Int.toNat_natCast])) | (refine item_outM rfl F9 N9 (by repeat (first | assumption | exact List.Mem.head _ | apply List.Mem.tail)) (by assumption) (by walk_at "om") (by walk_at "om") (.head _) hd5 h25 ?_; intro _ _ _ hX9; refine Fin1.out (P := _) ?_))
              repeat' (first | (k_unfold; (try dsimp only)) | (with_reducible refine execs_one ?_) | ((with_reducible show wpAny _ _ (exec _ _) _ _ _); (with_reducible rename Fr _ _ _ _ => F9); (refine st_at (s := s) F9 fun tk9 => ?_); (try k_fold); walk1) | (k_end; wrow_close) | walk1 | (dsimp only; walk1) | (leave1; try dsimp only) | fail "no step")
              (with_reducible rename Fr _ _ _ _ => F9); (with_reducible rename News _ _ _ _ => N9)
              refine ⟨wpAny_mono (E := ExE (Mine.K1 w.params) p loose mean mg mb A₀ base outer g L1 s "IndexError" (fun _ => True) (SldG ax ay am au (xs.length : Int) (xs.getD i 0) (ys.getD j 0) ((e, oe) :: (T6, oT) :: ((au, listOf (vu : List Value).toArray nu) :: (am, listOf (vm : List Value).toArray nm) :: news)) ys.length j (fun l => sld xs ys = (ms ++ [], us ++ ys.drop l)))) ?_ (fun _ _ h => h) ?_⟩
              · refine skip_loop (k0 := j + 1) (ctx := .ref e) F9 N9 rfl rfl rfl (.tail _ (.tail _ (.tail _ (.tail _ hy)))) iy (Nat.lt_trans ly (by decide)) hj2 (ExE.passes rfl rfl) rfl rfl rfl rfl rfl (by decide) (by decide) (by decide) (by decide) (by decide) (fun _ _ => by with_unfolding_all rfl) (fun s' m' k tk Q' F N h1 h2 h3 => item_outM rfl F N (.tail _ (.tail _ (.tail _ (.tail _ hy)))) iy h1 h2 (.head _) hd5 h25 h3) (fun l h tk t r1 r2 r3 F7 N7 => ?_) (fun h tk t e2 r3 X7 => ?_)
                · clear F9 N9
                  repeat' (first | (k_unfold; (try dsimp only)) | (with_reducible refine execs_one ?_) | ((with_reducible show wpAny _ _ (exec _ _) _ _ _); (with_reducible rename Fr _ _ _ _ => F9); (refine st_at (s := s) F9 fun tk9 => ?_); (try k_fold); walk1) | (k_end; wrow_close) | walk1 | (dsimp only; walk1) | (leave1; try dsimp only) | fail "no step")
                  (with_reducible rename Fr _ _ _ _ => F9); (with_reducible rename News _ _ _ _ => N9)
                  rw [hdw, r3, sld_nil] at hsp
                  refine pass_on (ctx := .none) (cls := "IndexError") ⟨F9, oe, vs, T6, oT, ts, N9, hc5, hd5, h15, h25, hdT5, h35, hTe5, hap5⟩ fun h9 H9 => ?_
                  exact hX _ _ ⟨_, _, _, g', _, _, .none, rfl, rfl, T5, G5, trivial, ⟨xs.length, l, ms, us, _, _, _, nm, nu, vm, vu, rfl, rfl, im, iu, Nat.le_refl _, Nat.le_of_lt r2, Nat.le_trans hms hi, le_step hus r1, by rw [hsp, List.drop_eq_nil_of_le (Nat.le_refl _)]⟩, .inr (HeldX.put (HeldX.put (HeldX.put (HeldX.put (HeldX.put (HeldX.put H9 rfl) rfl) rfl) rfl) rfl) rfl)⟩
                · rw [hdw, r3, sld_nil] at hsp
                  exact ⟨_, _, _, g', _, _, _, rfl, rfl, T5, G5, trivial, ⟨ys.length, _, _, _, _, _, rfl, rfl, Nat.le_refl _, hj2, by rw [hsp, List.drop_length]⟩, .inl (NewX.put (NewX.put (NewX.put (NewX.put (NewX.put (NewX.put (NewX.put (NewX.put X7 rfl) rfl) rfl) rfl) rfl) rfl) rfl) rfl)⟩
              · intro v s₁ X
                (try k_unfold); (try dsimp only); unfold notedBy
                refine ExE.note rfl rfl X ?_
                intro e2 h tk g'' m' led' ctx hv T7 G7 _ hJ H
                obtain ⟨l, m0, ti, tj, te, ta, rfl, rfl, hl2, hl4, hsp6⟩ := hJ
                subst hv
                refine came_back (s := { s with heap := h, toks := tk }) H fun h9 H9 => ?_
                exact hX _ _ ⟨_, _, _, g'', _, _, ctx, rfl, rfl, T7, G7, trivial, ⟨xs.length, l, ms, us, _, _, _, nm, nu, vm, vu, rfl, rfl, im, iu, Nat.le_refl _, hl2, Nat.le_trans hms hi, le_step hus hl4, by rw [hsp6, List.drop_eq_nil_of_le (Nat.le_refl _)]⟩, .inr (HeldX.less (HeldX.put (HeldX.put (HeldX.put (HeldX.put (HeldX.put (HeldX.put H9 rfl) rfl) rfl) rfl) rfl) rfl) fun q hq => .tail _ (.tail _ hq))⟩
        · repeat' (first | (k_unfold; (try dsimp only)) | (with_reducible refine execs_one ?_) | ((with_reducible show wpAny _ _ (exec _ _) _ _ _); (with_reducible rename Fr _ _ _ _ => F9); (refine st_at (s := s) F9 fun tk9 => ?_); (try k_fold); walk1) | (k_end; wrow_close) | walk1 | (dsimp only; walk1) | (leave1; try dsimp only) | fail "no step")
          · (with_reducible rename NewX _ _ _ _ _ _ _ _ => X9)
            refine ⟨hX _ _ ⟨_, _, _, g, _, _, .none, rfl, rfl, KtsTurn.refl, G1, trivial, ⟨i, j, ms, us, _, ti, tj, nm, nu, vm, vu, rfl, rfl, im, iu, hi, hj, hms, hus, ?_⟩, .inl (NewX.put (NewX.put (NewX.put (NewX.put (NewX.put (NewX.put X9 rfl) rfl) rfl) rfl) rfl) rfl)⟩⟩
            rw [List.drop_eq_nil_of_le (Nat.le_of_not_lt hj2), sld_nil'] at hsp
            rw [hsp, List.drop_eq_nil_of_le (Nat.le_of_not_lt hj2)]
      · repeat' (first | (k_unfold; (try dsimp only)) | (with_reducible refine execs_one ?_) | ((with_reducible show wpAny _ _ (exec _ _) _ _ _); (with_reducible rename Fr _ _ _ _ => F9); (refine st_at (s := s) F9 fun tk9 => ?_); (try k_fold); walk1) | (k_end; wrow_close) | walk1 | (dsimp only; walk1) | (leave1; try dsimp only) | fail "no step")
        · (with_reducible rename NewX _ _ _ _ _ _ _ _ => X9)
          refine ⟨hX _ _ ⟨_, _, _, g, _, _, .none, rfl, rfl, KtsTurn.refl, G1, trivial, ⟨i, j, ms, us, _, ti, tj, nm, nu, vm, vu, rfl, rfl, im, iu, hi, hj, hms, hus, ?_⟩, .inl (NewX.put (NewX.put (NewX.put (NewX.put (NewX.put (NewX.put X9 rfl) rfl) rfl) rfl) rfl) rfl)⟩⟩
          rw [List.drop_eq_nil_of_le (Nat.le_of_not_lt hi2), sld_nil] at hsp
          rw [hsp, List.drop_eq_nil_of_le (Nat.le_of_not_lt hi2)]
    · intro v s₁ X
      refine ExE.note rfl rfl X ?_
      intro e h tk g' m' led' ctx hv T5 G5 hC hJ H
      obtain ⟨i, j, ms, us, m0, ti, tj, nm, nu, vm, vu, rfl, rfl, im, iu, hi, hj, hms, hus, hsp⟩ := hJ
      subst hv
      refine flight H none fun h' H' => ?_
      refine handle_one (cls := "IndexError") G5 H' (by k_is) PyProof.Rows.Boot.«IndexError» (by decide) PySem.F.isExc_IndexError PySem.F.notTuple_IndexError (isSubtype_of_subB (by decide +kernel)) rfl rfl (by decide) ?_
      intro h'' F5 N5
      obtain ⟨B5, X5, TT5, _, _, D5⟩ := id G5
      have hlm := im.length
      have hlu := iu.length
      k_with "subscriptTail Name Slice ref ref" => ((with_reducible rename Fr _ _ _ _ => F9); (with_reducible rename News _ _ _ _ => N9); refine slice_from (s := ⟨_, _, _, _, _⟩) F9 N9 (by repeat (first | assumption | exact List.Mem.head _ | apply List.Mem.tail)) (by assumption) (by walk_at "om") (by walk_at "om") (by walk_at "om") ?_; intro _ r9 us9 iu9 _ _ lr9; (simp only [Int.toNat_natCast] at iu9); have q1 := lr9 _ (.head _); have q2 := lr9 _ (.tail _ (.head _)); dsimp only at q1 q2; clear lr9)
      k_with "call builtin:list.extend" => ((with_reducible rename Fr _ _ _ _ => F9); (with_reducible rename News _ _ _ _ => N9); (with_reducible rename IntsAre _ (List.drop _ _) => iu9); have hl9 := iu9.length; rw [List.length_drop] at hl9; (refine extend_L F9 N9 (.head _) (fun k => by first | exact Upd.tail (Nat.ne_of_gt (by assumption)) (Uu _ _ _) | exact Upd.tail (Nat.ne_of_gt (by assumption)) (Um _ _ _)) (by walk_at "om") ?_); intro _ _ _ N8; have N7 := News_tail N8; clear N8)
      repeat' (first | (k_unfold; (try dsimp only)) | (with_reducible refine execs_one ?_) | ((with_reducible show wpAny _ _ (exec _ _) _ _ _); (with_reducible rename Fr _ _ _ _ => F9); (refine st_at (s := s) F9 fun tk9 => ?_); (try k_fold); walk1) | (k_end; wrow_close) | walk1 | (dsimp only; walk1) | (leave1; try dsimp only) | fail "no step")
      (with_reducible rename Fr _ _ _ _ => F9); (with_reducible rename News _ _ _ _ => N9)
      refine hq _ _ _ _ _ _ T5 F9 N9 ⟨fun p hp => .tail _ (.tail _ (.tail _ hp)), ?_⟩
      rw [hsp]
      exact .tuple (vs := [.ref am, .ref au]) (.head _) (.cons (.list (.tail _ (.tail _ (.head _))) (datAll_ints (ints_app im (by assumption)))) (.cons (.list (.tail _ (.head _)) (datAll_ints (ints_app iu (by assumption)))) .nil))


end Mine


end
section
open PySem PySem.W PyProof.Rows PySem.Calls
set_option Elab.async false
set_option linter.unusedVariables false
namespace Mine
noncomputable def ins (x : Int) : List Int → List Int
  | [] => [x]
  | y :: ys => if x ≤ y then x :: y :: ys else y :: ins x ys
noncomputable def isort : List Int → List Int
  | [] => []
  | x :: xs => ins x (isort xs)
theorem ins_perm (x : Int) : ∀ l, (ins x l).Perm (x :: l)
  | [] => .refl _
  | y :: ys => by
    unfold ins
    split
    · exact .refl _
    · exact ((ins_perm x ys).cons y).trans (.swap ..)
theorem isort_perm : ∀ l, (isort l).Perm l
  | [] => .refl _
  | x :: xs => (ins_perm x _).trans ((isort_perm xs).cons x)
theorem ins_sorted {x : Int} : ∀ {l : List Int}, l.Pairwise (· ≤ ·) → (ins x l).Pairwise (· ≤ ·)
  | [], _ => List.pairwise_singleton _ _
  | y :: ys, h => by
    obtain ⟨h1, h2⟩ := List.pairwise_cons.mp h
    unfold ins
    split
    · rename_i q
      refine List.pairwise_cons.mpr ⟨fun z hz => ?_, h⟩
      rcases List.mem_cons.mp hz with e | e
      · rw [e]; exact q
      · exact Int.le_trans q (h1 z e)
    · rename_i q
      refine List.pairwise_cons.mpr ⟨fun z hz => ?_, ins_sorted h2⟩
      rcases List.mem_cons.mp ((ins_perm x ys).mem_iff.mp hz) with e | e
      · rw [e]; walk_at "om"
      · exact h1 z e
theorem isort_sorted : ∀ l, (isort l).Pairwise (· ≤ ·)
  | [] => .nil
  | x :: xs => ins_sorted (isort_sorted xs)
theorem sorted_eq {ns l : List Int} (p : l.Perm ns) (s : l.Pairwise (· ≤ ·)) : l = isort ns :=
  (p.trans (isort_perm ns).symm).eq_of_pairwise (fun a b _ _ h1 h2 => Int.le_antisymm h1 h2) s (isort_sorted ns)

noncomputable def lad (k m : Nat) : List Int := (List.range' k m).map fun (i : Nat) => (i : Int)
theorem lad_upTo (n : Nat) : upTo n = lad 0 n := by simp [upTo, lad, List.range_eq_range']
theorem mem_lad {k m : Nat} {x : Int} : x ∈ lad k m ↔ (k : Int) ≤ x ∧ x < k + m := by
  simp only [lad, List.mem_map, List.mem_range'_1]
  constructor
  · rintro ⟨i, h, rfl⟩; walk_at "om"
  · intro h; exact ⟨x.toNat, by walk_at "om", by walk_at "om"⟩
theorem drop_above {k : Nat} : ∀ {ys : List Int}, ys.Pairwise (· ≤ ·) → (∀ y ∈ ys, (k : Int) ≤ y) → (∀ y ∈ ys.dropWhile (· == (k : Int)), ((k + 1 : Nat) : Int) ≤ y) ∧ (ys.dropWhile (· == (k : Int))).Pairwise (· ≤ ·) ∧ (∀ y, (k : Int) < y → (y ∈ ys.dropWhile (· == (k : Int)) ↔ y ∈ ys)) ∧ (∀ n : Int, (k : Int) ≤ n → (ys.dropWhile (· == (k : Int))).filter (fun y => decide (n < y)) = ys.filter (fun y => decide (n < y)))
  | [], _, _ => ⟨(fun _ h => nomatch h), .nil, (fun _ _ => Iff.rfl), (fun _ _ => rfl)⟩
  | y :: ys, hs, hk => by
    obtain ⟨h1, h2⟩ := List.pairwise_cons.mp hs
    rw [List.dropWhile_cons]
    by_cases e : y = (k : Int)
    · rw [if_pos (by simpa using e)]
      obtain ⟨a, b, c, d⟩ := drop_above h2 fun z hz => hk z (List.mem_cons_of_mem _ hz)
      refine ⟨a, b, fun z hz => (c z hz).trans ?_, fun n hn => (d n hn).trans ?_⟩
      · rw [List.mem_cons]
        constructor
        · exact .inr
        · rintro (q | q)
          · walk_at "om"
          · exact q
      · rw [List.filter_cons, if_neg (by simp; walk_at "om")]
    · rw [if_neg (by simpa using e)]
      have hy := hk y List.mem_cons_self
      refine ⟨fun z hz => ?_, hs, fun _ _ => Iff.rfl, fun _ _ => rfl⟩
      rcases List.mem_cons.mp hz with q | q
      · rw [q]; walk_at "om"
      · have := h1 z q; walk_at "om"
theorem filter_all {α : Type} {l : List α} {p : α → Bool} (h : ∀ x ∈ l, p x = true) : l.filter p = l := List.filter_eq_self.mpr h
end Mine

end
section
open PySem PySem.W PyProof.Rows PySem.Calls
set_option Elab.async false
set_option maxRecDepth 100000
set_option maxHeartbeats 0
set_option linter.unusedVariables false
namespace Mine
noncomputable def matesP (p : Int) (ties : List (List Int)) : List Int := isort ((ties.filter fun l => l.contains p).map fun l => l.getD 0 0 + l.getD 1 0 - p)
theorem mem_intsD {p : Int} {l : List Int} : Dat.int p ∈ intsD l ↔ p ∈ l := by
  constructor
  · intro h
    obtain ⟨a, ha, e⟩ := List.mem_map.mp h
    cases e; exact ha
  · exact fun h => List.mem_map.mpr ⟨p, h, rfl⟩
theorem d_mates {w : World} {p : Int} {ties : List (List Int)} (hl : ties.length < 64) (h2 : ∀ l ∈ ties, l.length = 2) : DFun PW w (Mine.K1 w.params) 796 (0 + 1) (100 + 8) [.int p, .list (gD ties)] (lD (matesP p ties)) := by
  refine (?_ : PySem.Challenge.rw_oc0261_02 = PySem.Challenge.rw_oc0261_02 → (Mine.K1 w.params) = (Mine.K1 w.params) → _) rfl rfl
  k_fill
  intro _ _
  refine dfun_of (ps := ["place", "ties"]) (by k_is) (by k_is) rfl (fun vs hl s _ => ?_) (by decide) (by decide) (by decide) rfl rfl rfl ?_
  · cases vs with
    | nil => cases hl
    | cons v r =>
      cases r with
      | nil => cases hl
      | cons v2 r =>
        cases r with
        | nil => exact BindsTo.of_eq rfl
        | cons _ _ => cases hl
  intro c hdp hun
  refine Ex.ret (Ex1.ret ?_)
  refine Ev.sorted (ns := (ties.filter fun l => l.contains p).map fun l => l.getD 0 0 + l.getD 1 0 - p) (Ev.b (Ev.cast (Ev.compA lD toL (fun l => toL_lD l) (xs := ties) (Cp := [("place", .val (.int p))]) (fun l => l.contains p) (fun l => .int (l.getD 0 0 + l.getD 1 0 - p)) (EvIt.list (Ev.name rfl)) rfl ⟨?_⟩ rfl (by decide) (by decide) rfl (by walk_at "om") ?_ ?_) ?_)) ?_ k_tops.2.2.2.2 (fun l p s => sorted_eq p s)
  · intro p hp
    rw [List.mem_singleton] at hp; subst hp
    exact ⟨rfl, rfl, rfl, rfl⟩
  · intro C l hl
    refine Tsts.one (Tst.cmp (Ev.name rfl).b (Ev.name rfl).b (CmpR.isIn (fun x hx => ?_) rfl (by show c.un + 64 < _; walk_at "om") ?_))
    · obtain ⟨a, _, rfl⟩ := List.mem_map.mp hx; rfl
    · rw [mem_intsD]; simp
  · intro C l hl _
    have hlen := h2 l hl
    refine Ev.sub (Ev.add (Ev.item (d := .int (l.getD 0 0)) (Ev.name rfl) Ev.cInt (by decide) ?_ (by decide)) (Ev.item (d := .int (l.getD 1 0)) (Ev.name rfl) Ev.cInt (by decide) ?_ (by decide))) (Ev.name rfl)
    · show (intsD l)[0]? = _
      rw [List.getElem?_map, getD_some (d := 0) (by rw [hlen]; decide)]; rfl
    · show (intsD l)[1]? = _
      rw [List.getElem?_map, getD_some (d := 0) (by rw [hlen]; decide)]; rfl
  · simp [intsD]
  · rw [List.length_map]
    exact Nat.lt_of_le_of_lt (List.length_filter_le _ _) hl
end Mine

end
section
open PySem PySem.W PyProof.Rows PySem.Calls
set_option Elab.async false
set_option maxRecDepth 100000
set_option maxHeartbeats 0
set_option linter.unusedVariables false
namespace Mine
theorem Tst.cast {prog : Program} {w : World} {K : Frag} {c : Cx K} {env : Env} {S : St} {e : Expr} {b b' : Bool} (h : Tst prog w c env S e b) (q : b = b') : Tst prog w c env S e b' := q ▸ h
theorem flat_ints (t : List (List Int)) : ((gD t).flatMap fun d => (intsD (toL d)).map fun e => e) = intsD t.flatten := by
  induction t with
  | nil => rfl
  | cons l r ih =>
    rw [show gD (l :: r) = lD l :: gD r from rfl, List.flatMap_cons, ih, toL_lD, List.map_id', List.flatten_cons, intsD, intsD, intsD, List.map_append]
noncomputable def leaves (ties : List (List Int)) : List Int := ties.flatten.filter fun x => ((ties.flatten.count x : Nat) : Int) == 1
structure IsLeast (ties : List (List Int)) (a : Int) : Prop where
  mem : a ∈ leaves ties
  le : ∀ x ∈ leaves ties, a ≤ x
inductive Told : List (List Int) → List Int → Prop
  | done {ties} : ties.length ≤ 1 → Told ties []
  | step {ties a f fs} : 1 < ties.length → IsLeast ties a → (matesP a ties)[0]? = some f → Told (ties.filter fun l => !l.contains a) fs → Told ties (f :: fs)
structure ToldRun (ties : List (List Int)) (fs : List Int) (T : Nat → List (List Int)) (a : Nat → Int) : Prop where
  zero : T 0 = ties
  last : (T fs.length).length ≤ 1
  step : ∀ i, i < fs.length → 1 < (T i).length ∧ IsLeast (T i) (a i) ∧ (matesP (a i) (T i))[0]? = some (fs.getD i 0) ∧ T (i + 1) = (T i).filter fun l => !l.contains (a i)
theorem Told.run {ties : List (List Int)} {fs : List Int} (h : Told ties fs) : ∃ T a, ToldRun ties fs T a := by
  induction h with
  | @done ties h => exact ⟨fun _ => ties, fun _ => 0, rfl, h, fun i hi => absurd hi (Nat.not_lt_zero _)⟩
  | @step ties b f fs h1 h2 h3 _ ih =>
    obtain ⟨T, a, r⟩ := ih
    refine ⟨fun i => match i with | 0 => ties | i + 1 => T i, fun i => match i with | 0 => b | i + 1 => a i, rfl, r.last, fun i hi => ?_⟩
    cases i with
    | zero => exact ⟨h1, h2, h3, r.zero⟩
    | succ i => exact r.step i (Nat.lt_of_succ_lt_succ hi)
theorem ToldRun.inv {ties : List (List Int)} {fs : List Int} {T : Nat → List (List Int)} {a : Nat → Int} (r : ToldRun ties fs T a) : ∀ i, i ≤ fs.length → (T i).length ≤ ties.length ∧ ∀ l ∈ T i, l ∈ ties
  | 0, _ => by rw [r.zero]; exact ⟨Nat.le_refl _, fun l h => h⟩
  | i + 1, h => by
    have ⟨i1, i2⟩ := r.inv i (Nat.le_of_succ_le h)
    rw [(r.step i h).2.2.2]
    exact ⟨Nat.le_trans (List.length_filter_le _ _) i1, fun l hl => i2 l (List.mem_filter.mp hl).1⟩
theorem k_w2 {w : World} : (nsIn (Mine.K1 w.params) mainGlobals "_law_mates" = some (some (.ref 796)) ∧ isDef (Mine.K1 w.params) 796 = true) ∧ nsIn (Mine.K1 w.params) mainGlobals "min" = some none := by
  refine (?_ : PySem.Challenge.rw_oc0261_02 = PySem.Challenge.rw_oc0261_02 → (Mine.K1 w.params) = (Mine.K1 w.params) → _) rfl rfl
  k_fill
  intro _ _
  exact ⟨⟨by k_is, isDef_of (by k_is)⟩, by k_is⟩
theorem flat_len {ties : List (List Int)} (h2 : ∀ l ∈ ties, l.length = 2) : ties.flatten.length = 2 * ties.length := by
  induction ties with
  | nil => rfl
  | cons l r ih =>
    rw [List.flatten_cons, List.length_append, ih fun l hl => h2 l (List.mem_cons_of_mem _ hl), h2 l List.mem_cons_self, List.length_cons]; walk_at "om"
theorem d_toldF {w : World} {ties : List (List Int)} {fs : List Int} (hl : ties.length < 60) (h2 : ∀ l ∈ ties, l.length = 2) (hT : Told ties fs) (hf : fs.length ≤ 100) : DFun PW w (Mine.K1 w.params) 822 (10 + 1) (200 + 8) [.list (gD ties)] (lD fs) := by
  obtain ⟨T, a, r⟩ := hT.run
  refine (?_ : PySem.Challenge.rw_oc0261_02 = PySem.Challenge.rw_oc0261_02 → (Mine.K1 w.params) = (Mine.K1 w.params) → _) rfl rfl
  k_fill
  intro _ _
  refine dfun_of (ps := ["ties"]) (by k_is) (by k_is) rfl (fun vs hl s _ => ?_) (by decide) (by decide) (by decide) rfl rfl rfl ?_
  · cases vs with
    | nil => cases hl
    | cons v r =>
      cases r with
      | nil => exact BindsTo.of_eq rfl
      | cons _ _ => cases hl
  intro c hdp hun
  refine Ex.cons (Ex1.assignList EvL.nil (.inl rfl) (by decide)) ?_
  refine Ex.cons (Ex1.while_ (fun i => [("ties", .val (.list (gD (T i)))), ("figures", .own (intsD (fs.take i)))]) fs.length ?_ (fun i hi => ?_) ?_ (fun i hi => ?_)) ?_
  · rw [r.zero]; exact .cons rfl (.cons rfl .nil)
  · have := (r.step i hi).1
    have i1 := (r.inv i (Nat.le_of_lt hi)).1
    exact Tst.cast (Tst.cmp (Ev.len (Ev.name rfl).b (by rw [List.length_map]; walk_at "om") k_tops.1).b Ev.cInt.b CmpR.gt) (by rw [List.length_map]; simp; walk_at "om")
  · have := r.last
    have i1 := (r.inv fs.length (Nat.le_refl _)).1
    exact Tst.cast (Tst.cmp (Ev.len (Ev.name rfl).b (by rw [List.length_map]; walk_at "om") k_tops.1).b Ev.cInt.b CmpR.gt) (by rw [List.length_map]; simp; walk_at "om")
  · obtain ⟨s1, s2, s3, s4⟩ := r.step i hi
    obtain ⟨i1, i2⟩ := r.inv i (Nat.le_of_lt hi)
    have h2' : ∀ l ∈ T i, l.length = 2 := fun l hl => h2 l (i2 l hl)
    have hlen := flat_len h2'
    refine Ex.post (S' := [("ties", .val (.list (gD (T (i + 1))))), ("figures", .own (intsD (fs.take (i + 1))))]) ?_ (.cons rfl (.cons rfl .nil))
    have i3 : (T i).length < 60 := Nat.lt_of_le_of_lt i1 hl
    refine Ex.cons (Ex1.assign (d := lD (T i).flatten) (Ev.cast (Ev.comp2 (xs := gD (T i)) (Cp := []) (fun d => intsD (toL d)) (fun _ e => e) (EvIt.list (Ev.name rfl)) rfl ⟨?_⟩ rfl (by decide) (by decide) rfl rfl (by decide) ?_ (fun _ _ => rfl) ?_ ?_) (congrArg Dat.list (flat_ints _))) (.inr ⟨rfl, rfl⟩)) ?_
    · intro p hp; cases hp
    · intro C d hd
      obtain ⟨l, _, rfl⟩ := List.mem_map.mp hd
      rw [toL_lD]
      exact EvIt.list (Ev.name rfl)
    · intro C d hd e he
      exact Ev.name rfl
    · have := congrArg List.length (flat_ints (T i))
      simp only [List.map_id'] at this
      rw [this, List.length_map, hlen]; walk_at "om"
    refine Ex.cons (Ex1.assign (d := .int (a i)) (Ev.min (ns := leaves (T i)) (Ev.b (Ev.cast (Ev.compA Dat.int toI (fun _ => rfl) (xs := (T i).flatten) (Cp := [("ends", .val (lD (T i).flatten))]) (fun x => (((T i).flatten.count x : Nat) : Int) == 1) Dat.int (EvIt.list (Ev.name rfl)) rfl ⟨?_⟩ rfl (by decide) (by decide) rfl (by walk_at "om") ?_ ?_) rfl)) ?_ (List.length_pos_of_mem s2.mem) k_w2.2) (.inr ⟨rfl, rfl⟩)) ?_
    · intro p hp
      rw [List.mem_singleton] at hp; subst hp
      exact ⟨rfl, rfl, rfl, rfl⟩
    · intro C x hx
      exact Tsts.one (Tst.cmp (Ev.count (Ev.name rfl).b (Ev.name rfl)).b Ev.cInt.b CmpR.eqInt)
    · intro C x hx _
      exact Ev.name rfl
    · intro M hM hle
      exact Int.le_antisymm (hle _ s2.mem) (s2.le _ hM)
    refine Ex.cons (Ex1.assign (d := lD (matesP (a i) (T i))) (Ev.call (EvL.cons (Ev.name rfl) (EvL.cons (Ev.name rfl) EvL.nil)) (d_mates (by walk_at "om") h2') rfl k_w2.1.1 k_w2.1.2 (by walk_at "om") (by walk_at "om")) (.inl rfl)) ?_
    refine Ex.cons (Ex1.append (d := .int (fs.getD i 0)) rfl (Ev.item (Ev.name rfl) Ev.cInt (by decide) ?_ (by decide)) ?_) ?_
    · show (intsD (matesP (a i) (T i)))[0]? = _
      rw [List.getElem?_map, s3]; rfl
    · rw [List.length_map, List.length_take]; walk_at "om"
    refine Ex.post (S' := _) (Ex.cons (Ex1.assignCompA lD toL toL_lD (xs := T i) (Cp := [("least", .val (.int (a i)))]) (fun l => !l.contains (a i)) lD (EvIt.list (Ev.name rfl)) rfl ⟨?_⟩ rfl (by decide) (by decide) rfl (by walk_at "om") (.inl rfl) ?_ ?_) Ex.nil) ?_
    · intro p hp
      rw [List.mem_singleton] at hp; subst hp
      exact ⟨rfl, rfl, rfl, rfl⟩
    · intro C l hl
      refine Tsts.one (Tst.cmp (Ev.name rfl).b (Ev.name rfl).b (CmpR.notIn (fun x hx => ?_) rfl (by show c.un + 64 < _; walk_at "om") ?_))
      · obtain ⟨a, _, rfl⟩ := List.mem_map.mp hx; rfl
      · rw [mem_intsD]; simp
    · intro C l hl _
      exact Ev.name rfl
    · refine .cons ?_ (.cons ?_ .nil)
      · rw [s4]; rfl
      · have e5 : fs.take (i + 1) = fs.take i ++ [fs.getD i 0] := by rw [List.take_add_one, getD_some hi]; rfl
        rw [e5, show intsD (fs.take i ++ [fs.getD i 0]) = intsD (fs.take i) ++ intsD [fs.getD i 0] from List.map_append]; rfl
  · refine Ex.freeze (x := "figures") rfl (Ex.ret (Ex1.ret (Ev.name ?_)))
    rw [List.take_length]; rfl
end Mine

end
section
open PySem PySem.W PyProof.Rows PySem.Calls
set_option Elab.async false
set_option maxRecDepth 100000
set_option maxHeartbeats 0
set_option linter.unusedVariables false
namespace Mine
theorem pickL_arr (vs : List Value) (lo hi : Option Int) : pickL vs lo hi none = (slicePick vs.toArray lo hi none).toList := by
  simp [pickL, slicePick]
theorem pickL_eq {α : Type} (f : α → Value) (inj : ∀ a b, f a = f b → a = b) (l : List α) (lo hi : Option Int) : pickL l lo hi none = (l.drop (kms_lo lo l.length)).take (kms_hi hi l.length - kms_lo lo l.length) := by
  have e : (pickL l lo hi none).map f = ((l.drop (kms_lo lo l.length)).take (kms_hi hi l.length - kms_lo lo l.length)).map f := by
    rw [← pickL_map, pickL_arr, kms_pick_eq, kms_pick, List.map_take, List.map_drop]
    simp
  exact (List.map_inj_right fun a b => inj a b).mp e
theorem pick_tl {α : Type} (f : α → Value) (inj : ∀ a b, f a = f b → a = b) (l : List α) : pickL l (some 1) none none = l.drop 1 := by
  rw [pickL_eq f inj]
  show (l.drop (min 1 l.length)).take (l.length - min 1 l.length) = _
  cases l with
  | nil => rfl
  | cons a r => simp
theorem pick_hd {α : Type} (f : α → Value) (inj : ∀ a b, f a = f b → a = b) (l : List α) : pickL l none (some 1) none = l.take 1 := by
  rw [pickL_eq f inj]
  show (l.drop 0).take (min 1 l.length - 0) = _
  cases l with
  | nil => rfl
  | cons a r => simp
noncomputable def intV (i : Int) : Value := .int i 0
theorem intV_inj (a b : Int) (h : intV a = intV b) : a = b := by cases h; rfl
theorem d_sld {w : World} {xs ys : List Int} (lx : xs.length < 1000) (ly : ys.length < 1000) : DFun PW w (Mine.K1 w.params) 773 (0 + 1) (40 + 8) [lD xs, lD ys] (.tuple [lD (sld xs ys).1, lD (sld xs ys).2]) := by
  intro vs fz D
  cases D with
  | cons D1 D =>
    cases D with
    | cons D2 D =>
      cases D
      cases D1 with
      | list h1 r1 =>
        cases D2 with
        | list h2 r2 => exact c_sld _ _ _ _ xs ys _ _ h1 h2 (intsAre_of r1) (intsAre_of r2) lx ly
theorem two_le {a b : Dat} : [a, b].length ≤ sizeLine := by rw [sizeLine_eq]; show 2 ≤ _; decide
theorem ok_pair (a b : List Int) : kqdOk 9 (.tuple [lD a, lD b]) = true := by simp [kqdOk]
end Mine

end
section
open PySem PySem.W PyProof.Rows PySem.Calls
set_option Elab.async false
set_option maxRecDepth 100000
set_option maxHeartbeats 0
set_option linter.unusedVariables false
namespace Mine
noncomputable def freeP (left rest : List Int) : List Int := left.filter fun p => !rest.contains p
noncomputable def leftAt (n : Nat) (fs : List Int) : Nat → List Int
  | 0 => upTo n
  | i + 1 => (leftAt n fs i).filter fun p => p != (freeP (leftAt n fs i) (fs.drop i)).headD 0
noncomputable def tieAt (n : Nat) (fs : List Int) (j : Nat) : List Int := isort [(freeP (leftAt n fs j) (fs.drop j)).headD 0, fs.getD j 0]
noncomputable def tiesAt (n : Nat) (fs : List Int) (i : Nat) : List (List Int) := (List.range i).map (tieAt n fs)
structure TiedOk (n : Nat) (fs : List Int) : Prop where
  free : ∀ i, i < fs.length → 0 < (freeP (leftAt n fs i) (fs.drop i)).length
  told : ∀ i, i < fs.length → sld (leftAt n fs i) (isort (fs.drop i)) = (freeP (leftAt n fs i) (fs.drop i), [])
  stay : ∀ i, i < fs.length → sld (leftAt n fs i) ((freeP (leftAt n fs i) (fs.drop i)).take 1) = (leftAt n fs (i + 1), [])
  last : (leftAt n fs fs.length).length = 2
noncomputable def tiedP (n : Nat) (fs : List Int) : List (List Int) := sortL (tiesAt n fs fs.length ++ [leftAt n fs fs.length])
theorem leftAt_len (n : Nat) (fs : List Int) : ∀ i, (leftAt n fs i).length ≤ n
  | 0 => by simp [leftAt]
  | i + 1 => Nat.le_trans (List.length_filter_le _ _) (leftAt_len n fs i)
theorem k_w3 {w : World} : (nsIn (Mine.K1 w.params) mainGlobals "sorted_list_difference" = some (some (.ref 773)) ∧ isDef (Mine.K1 w.params) 773 = true) := by
  refine (?_ : PySem.Challenge.rw_oc0261_02 = PySem.Challenge.rw_oc0261_02 → (Mine.K1 w.params) = (Mine.K1 w.params) → _) rfl rfl
  k_fill
  intro _ _
  exact ⟨by k_is, isDef_of (by k_is)⟩
theorem d_tied {w : World} {n : Nat} {fs : List Int} (hn : n ≤ 20) (hl : fs.length ≤ 20) (h0 : 0 < fs.length) (H : TiedOk n fs) : DFun PW w (Mine.K1 w.params) 791 (10 + 1) (200 + 8) [lD fs, .int n] (.list (gD (tiedP n fs))) := by
  refine (?_ : PySem.Challenge.rw_oc0261_02 = PySem.Challenge.rw_oc0261_02 → (Mine.K1 w.params) = (Mine.K1 w.params) → _) rfl rfl
  k_fill
  intro _ _
  refine dfun_of (ps := ["figures", "size"]) (by k_is) (by k_is) rfl (fun vs hl s _ => ?_) (by decide) (by decide) (by decide) rfl rfl rfl ?_
  · cases vs with
    | nil => cases hl
    | cons v r =>
      cases r with
      | nil => cases hl
      | cons v2 r =>
        cases r with
        | nil => exact BindsTo.of_eq rfl
        | cons _ _ => cases hl
  intro c hdp hun
  have hu64 : c.A.units + 64 < cLine := by show c.un + 64 < _; walk_at "om"
  refine Ex.cons (Ex1.assign (d := lD (upTo n)) (Ev.listRange (Ev.name rfl) (by walk_at "om") k_tops.2.2.1 k_tops.2.1) (.inl rfl)) ?_
  refine Ex.cons (Ex1.assign (d := lD fs) (Ev.listCopy (Ev.name rfl) (by rw [List.length_map, sizeLine_eq]; walk_at "om") k_tops.2.2.1) (.inr ⟨rfl, rfl⟩)) ?_
  refine Ex.cons (Ex1.assignList EvL.nil (.inl rfl) (by decide)) ?_
  refine Ex.cons (Ex1.while_ (fun i => [("left", .val (lD (leftAt n fs i))), ("rest", .val (lD (fs.drop i))), ("ties", .own (gD (tiesAt n fs i)))]) fs.length ?_ (fun i hi => ?_) ?_ (fun i hi => ?_)) ?_
  · exact .cons rfl (.cons rfl (.cons rfl .nil))
  · refine Tst.cast (Tst.cmp (Ev.name rfl).b (Ev.list (ds := intsD []) EvL.nil (by decide)).b (CmpR.ne (b := false) (ok_lD 8 _) (ok_lD 8 _) hu64 ?_)) rfl
    rw [lD_inj]
    constructor
    · intro h; cases h
    · intro h
      have := congrArg List.length h
      rw [List.length_drop, List.length_nil] at this; exact absurd this (Nat.sub_ne_zero_of_lt hi)
  · refine Tst.cast (Tst.cmp (Ev.name rfl).b (Ev.list (ds := intsD []) EvL.nil (by decide)).b (CmpR.ne (b := true) (ok_lD 8 _) (ok_lD 8 _) hu64 ?_)) rfl
    rw [lD_inj]
    simp
  · have f1 := H.free i hi
    have f2 := H.told i hi
    have f3 := H.stay i hi
    have hi20 : i ≤ 20 := Nat.le_trans (Nat.le_of_lt hi) hl
    have l1 := Nat.le_trans (leftAt_len n fs i) hn
    have l2 : (freeP (leftAt n fs i) (fs.drop i)).length ≤ 20 := Nat.le_trans (List.length_filter_le _ _) l1
    generalize hL : leftAt n fs i = L at *
    generalize hF : freeP L (fs.drop i) = F at *
    refine Ex.cons (Ex1.assign (d := lD F) (Ev.cast (Ev.compA Dat.int toI (fun _ => rfl) (xs := L) (Cp := [("rest", .val (lD (fs.drop i)))]) (fun p => !(fs.drop i).contains p) Dat.int (EvIt.list (Ev.name rfl)) rfl ⟨?_⟩ rfl (by decide) (by decide) rfl (by walk_at "om") ?_ ?_) ?_) (.inr ⟨rfl, rfl⟩)) ?_
    · intro p hp
      rw [List.mem_singleton] at hp; subst hp
      exact ⟨rfl, rfl, rfl, rfl⟩
    · intro C x hx
      refine Tsts.one (Tst.cmp (Ev.name rfl).b (Ev.name rfl).b (CmpR.notIn (fun x hx => ?_) rfl hu64 ?_))
      · obtain ⟨a, _, rfl⟩ := List.mem_map.mp hx; rfl
      · rw [mem_intsD]; simp
    · intro C x hx _
      exact Ev.name rfl
    · rw [← hF]; rfl
    have lR : (fs.drop i).length ≤ 20 := by rw [List.length_drop]; exact Nat.le_trans (Nat.sub_le _ _) hl
    have lI : (isort (fs.drop i)).length < 1000 := by rw [(isort_perm _).length_eq]; walk_at "om"
    have hF0 : (intsD F)[0]? = some (.int (F.headD 0)) := by
      cases F with
      | nil => exact absurd f1 (Nat.lt_irrefl 0)
      | cons a r => rfl
    have hR0 : (intsD (fs.drop i))[0]? = some (.int (fs.getD i 0)) := by
      rw [List.getElem?_map, List.getElem?_drop, Nat.add_zero, getD_some hi]; rfl
    refine Ex.cons (Ex1.assign (d := .tuple [lD F, lD []]) (Ev.cast (Ev.call (EvL.cons (Ev.name rfl) (EvL.cons (Ev.sorted (ns := fs.drop i) (ns' := isort (fs.drop i)) (Ev.name rfl).b (by walk_at "om") k_tops.2.2.2.2 (fun l p s => sorted_eq p s)) EvL.nil)) (d_sld (by walk_at "om") lI) rfl k_w3.1 k_w3.2 (by walk_at "om") (by walk_at "om")) (by rw [f2])) (.inl rfl)) ?_
    refine Ex.cons (Ex1.ite (b := !true) (Tst.cmp (Ev.name rfl).b (Ev.tuple (EvL.cons (Ev.name rfl) (EvL.cons (Ev.list (ds := intsD []) EvL.nil (by decide)) EvL.nil)) two_le).b (CmpR.ne (b := true) (ok_pair F []) (ok_pair F []) hu64 (by simp))) (fun q => nomatch q) (fun _ => Ex.nil)) ?_
    refine Ex.cons (Ex1.append (d := lD (tieAt n fs i)) rfl (Ev.sorted (ns := [F.headD 0, fs.getD i 0]) (ns' := tieAt n fs i) (Ev.list (ds := intsD [F.headD 0, fs.getD i 0]) (EvL.cons (Ev.item (i := 0) (d := .int (F.headD 0)) (Ev.itemTup (d := lD F) (Ev.name rfl) Ev.cInt (by decide) rfl (by decide)) Ev.cInt (by decide) hF0 (by decide)) (EvL.cons (Ev.item (i := 0) (Ev.name rfl) Ev.cInt (by decide) hR0 (by decide)) EvL.nil)) two_le).b (by show 2 < 64; decide) k_tops.2.2.2.2 (fun l p s => by rw [tieAt, hL, hF]; exact sorted_eq p s)) ?_) ?_
    · rw [List.length_map, tiesAt, List.length_map, List.length_range]; walk_at "om"
    have e6 : leftAt n fs (i + 1) = L.filter fun p => p != F.headD 0 := by rw [leftAt, hL, hF]
    refine Ex.cons (Ex1.assignCompA Dat.int toI (fun _ => rfl) (xs := L) (Cp := [("free", .val (lD F))]) (fun p => p != F.headD 0) Dat.int (EvIt.list (Ev.name rfl)) rfl ⟨?_⟩ rfl (by decide) (by decide) rfl (by walk_at "om") (.inl rfl) ?_ ?_) ?_
    · intro p hp
      rw [List.mem_singleton] at hp; subst hp
      exact ⟨rfl, rfl, rfl, rfl⟩
    · intro C x hx
      exact Tsts.one (Tst.cmp (Ev.name rfl).b (Ev.item (i := 0) (Ev.name rfl) Ev.cInt (by decide) hF0 (by decide)).b CmpR.neInt)
    · intro C x hx _
      exact Ev.name rfl
    have l3 := Nat.le_trans (leftAt_len n fs (i + 1)) hn
    rw [show (L.filter fun p => p != F.headD 0).map Dat.int = intsD (leftAt n fs (i + 1)) from by rw [e6]]
    generalize leftAt n fs (i + 1) = L' at *
    have lT : (F.take 1).length < 1000 := by rw [List.length_take]; exact Nat.lt_of_le_of_lt (Nat.min_le_left _ _) (by decide)
    refine Ex.cons (Ex1.assign (d := .tuple [lD L', lD []]) (Ev.cast (Ev.call (EvL.cons (Ev.name rfl) (EvL.cons (Ev.cast (Ev.slice (a := none) (b := some 1) (Ev.name rfl) PartOk.no (PartOk.one Ev.cInt) (by rw [List.length_map, sizeLine_eq]; walk_at "om")) (congrArg Dat.list ((pickL_ints _ _ _ _).trans (congrArg intsD (pick_hd intV intV_inj F))))) EvL.nil)) (d_sld (by walk_at "om") lT) rfl k_w3.1 k_w3.2 (by walk_at "om") (by walk_at "om")) (by rw [f3])) (.inl rfl)) ?_
    refine Ex.cons (Ex1.ite (b := !true) (Tst.cmp (Ev.name rfl).b (Ev.tuple (EvL.cons (Ev.name rfl) (EvL.cons (Ev.list (ds := intsD []) EvL.nil (by decide)) EvL.nil)) two_le).b (CmpR.ne (b := true) (ok_pair L' []) (ok_pair L' []) hu64 (by simp))) (fun q => nomatch q) (fun _ => Ex.nil)) ?_
    refine Ex.cons (Ex1.assign (d := lD L') (Ev.itemTup (Ev.name rfl) Ev.cInt (by decide) rfl (by decide)) (.inl rfl)) ?_
    refine Ex.post (Ex.cons (Ex1.assign (d := lD (fs.drop (i + 1))) (Ev.cast (Ev.slice (a := some 1) (b := none) (Ev.name rfl) (PartOk.one Ev.cInt) PartOk.no (by rw [List.length_map, sizeLine_eq]; walk_at "om")) (congrArg Dat.list ((pickL_ints _ _ _ _).trans (congrArg intsD ((pick_tl intV intV_inj (fs.drop i)).trans (by rw [List.drop_drop])))))) (.inr ⟨rfl, rfl⟩)) Ex.nil) (.cons rfl (.cons rfl (.cons ?_ .nil)))
    have e7 : tiesAt n fs (i + 1) = tiesAt n fs i ++ [tieAt n fs i] := by rw [tiesAt, List.range_succ, List.map_append]; rfl
    rw [e7, gD_snoc]; rfl
  · refine Ex.freeze (x := "ties") rfl (Ex.ret (Ex1.ret ?_))
    have l9 : (tiesAt n fs fs.length).length = fs.length := by rw [tiesAt, List.length_map, List.length_range]
    refine Ev.sortedL (g := tiesAt n fs fs.length ++ [leftAt n fs fs.length]) (k := 2) (Ev.cast (Ev.addList (Ev.name rfl) (Ev.list (ds := [lD (leftAt n fs fs.length)]) (EvL.cons (Ev.name rfl) EvL.nil) (by rw [sizeLine_eq]; show 1 ≤ _; decide)) ?_) ?_) ?_ ?_ ?_ ?_ k_tops.2.2.2.2
    · rw [List.length_map, l9, sizeLine_eq]; show fs.length + 1 ≤ _; exact Nat.le_trans (Nat.succ_le_succ hl) (by decide)
    · rw [gD_snoc]
    · intro l hl
      rcases List.mem_append.mp hl with h | h
      · obtain ⟨j, _, rfl⟩ := List.mem_map.mp h
        rw [tieAt, (isort_perm _).length_eq]; rfl
      · rw [List.mem_singleton.mp h]; exact H.last
    · rw [List.length_append, l9, List.length_singleton]; exact Nat.succ_le_succ h0
    · rw [List.length_append, l9, List.length_singleton]; exact Nat.lt_of_le_of_lt (Nat.succ_le_succ hl) (by decide)
    · show c.un + 1 + 1 < _; walk_at "om"
end Mine

end
section
open PySem PySem.W PyProof.Rows PySem.Calls
set_option Elab.async false
set_option maxRecDepth 100000
set_option maxHeartbeats 0
set_option linter.unusedVariables false
namespace Mine
set_option genSizeOf true in
inductive RT where
  | node (p : Int) (kids : List RT)
noncomputable def RT.place : RT → Int
  | .node p _ => p
noncomputable def grown (s : Int × Int) : Int × Int := if 1 < s.1 then (s.1 + 4 * s.2 + 2, 3 * s.2 + 2) else s
noncomputable def begun (p : Int) : Int × Int := if p = 0 then (2, 2) else (1, 0)
mutual
noncomputable def sizeT : RT → Int × Int
  | .node p kids => sizeTs kids (begun p)
noncomputable def sizeTs : List RT → Int × Int → Int × Int
  | [], a => a
  | t :: ts, a => sizeTs ts (a.1 + ((grown (sizeT t)).1 + 1), a.2 + (grown (sizeT t)).2)
end
theorem sizeTs_snoc : ∀ (ts : List RT) (t : RT) (a : Int × Int), sizeTs (ts ++ [t]) a = ((sizeTs ts a).1 + ((grown (sizeT t)).1 + 1), (sizeTs ts a).2 + (grown (sizeT t)).2)
  | [], t, a => by simp [sizeTs]
  | x :: ts, t, a => by rw [List.cons_append, sizeTs, sizeTs_snoc ts t, sizeTs]
inductive IsT (ties : List (List Int)) : Nat → Int → RT → Prop
  | mk (h : Nat) (above p : Int) (sub : Int → RT) : (∀ m ∈ matesP p ties, m ≠ above → (sub m).place = m) → (∀ m ∈ matesP p ties, m ≠ above → IsT ties h p (sub m)) → IsT ties (h + 1) above (.node p (((matesP p ties).filter (· != above)).map sub))
theorem k_w4 {w : World} : (nsIn (Mine.K1 w.params) mainGlobals "_law_size" = some (some (.ref 810)) ∧ isDef (Mine.K1 w.params) 810 = true) := by
  refine (?_ : PySem.Challenge.rw_oc0261_02 = PySem.Challenge.rw_oc0261_02 → (Mine.K1 w.params) = (Mine.K1 w.params) → _) rfl rfl
  k_fill
  intro _ _
  exact ⟨by k_is, isDef_of (by k_is)⟩
theorem d_size {w : World} {ties : List (List Int)} (hl : ties.length < 64) (h2 : ∀ l ∈ ties, l.length = 2) : ∀ (h : Nat) (above : Int) (t : RT), IsT ties h above t → DFun PW w (Mine.K1 w.params) 810 ((10 + 2 * h) + 1) ((200 + 9 * h) + 8) [.int t.place, .int above, .list (gD ties)] (.tuple [.int (sizeT t).1, .int (sizeT t).2]) := by
  intro h
  induction h with
  | zero => intro above t ht; cases ht
  | succ h ih =>
    intro above t ht
    cases ht with
    | mk _ _ p sub hp hs =>
    refine (?_ : PySem.Challenge.rw_oc0261_02 = PySem.Challenge.rw_oc0261_02 → (Mine.K1 w.params) = (Mine.K1 w.params) → _) rfl rfl
    k_fill
    intro _ _
    refine dfun_of (ps := ["place", "above", "ties"]) (by k_is) (by k_is) rfl (fun vs hl s _ => ?_) (by decide) (by decide) (by decide) rfl rfl rfl ?_
    · cases vs with
      | nil => cases hl
      | cons v r =>
        cases r with
        | nil => cases hl
        | cons v2 r =>
          cases r with
          | nil => cases hl
          | cons v3 r =>
            cases r with
            | nil => exact BindsTo.of_eq rfl
            | cons _ _ => cases hl
    intro c hdp hun
    have hU := r0 hun
    have hD := r0 hdp
    refine Ex.cons (Ex1.assign (d := .int 1) Ev.cInt (.inl rfl)) ?_
    refine Ex.cons (Ex1.assign (d := .int 0) Ev.cInt (.inl rfl)) ?_
    refine Ex.cons (S' := [("place", .val (.int p)), ("above", .val (.int above)), ("ties", .val (.list (gD ties))), ("length", .val (.int (begun p).1)), ("marks", .val (.int (begun p).2))]) ?_ ?_
    · refine Ex1.ite (b := p == 0) (Tst.cmp (Ev.name rfl).b Ev.cInt.b CmpR.eqInt) (fun q => ?_) (fun q => ?_)
      · have q : p = 0 := by simpa using q
        refine Ex.post (Ex.cons (Ex1.assign (d := .int 2) Ev.cInt (.inl rfl)) (Ex.cons (Ex1.assign (d := .int 2) Ev.cInt (.inl rfl)) Ex.nil)) ?_
        rw [begun, if_pos q]
        exact .cons rfl (.cons rfl (.cons rfl (.cons rfl (.cons rfl .nil))))
      · have q : ¬ p = 0 := by simpa using q
        refine Ex.post Ex.nil ?_
        rw [begun, if_neg q]
        exact .cons rfl (.cons rfl (.cons rfl (.cons rfl (.cons rfl .nil))))
    have hml : (matesP p ties).length < 64 := by
      rw [matesP, (isort_perm _).length_eq, List.length_map]
      exact Nat.lt_of_le_of_lt (List.length_filter_le _ _) hl
    generalize hM : matesP p ties = M at *
    refine Ex.cons (Ex1.for_ (fun i => [("place", .val (.int p)), ("above", .val (.int above)), ("ties", .val (.list (gD ties))), ("length", .val (.int (sizeTs (((M.take i).filter (· != above)).map sub) (begun p)).1)), ("marks", .val (.int (sizeTs (((M.take i).filter (· != above)).map sub) (begun p)).2))]) (EvIt.list (ds := intsD M) (Ev.cast (Ev.call (EvL.cons (Ev.name rfl) (EvL.cons (Ev.name rfl) EvL.nil)) (d_mates hl h2) rfl k_w2.1.1 k_w2.1.2 (by walk_at "om") (by walk_at "om")) (by rw [hM]))) ?_ (.inl rfl) ?_) ?_
    · exact .cons rfl (.cons rfl (.cons rfl (.cons rfl (.cons rfl .nil))))
    · intro i d hd
      obtain ⟨m, hin, rfl⟩ : ∃ n, M[i]? = some n ∧ d = .int n := by
        rw [List.getElem?_map] at hd
        cases e : M[i]? with
        | none => rw [e] at hd; cases hd
        | some n => rw [e] at hd; cases hd; exact ⟨n, rfl, rfl⟩
      have hmem : m ∈ M := List.mem_of_getElem? hin
      have hstep : M.take (i + 1) = M.take i ++ [m] := by rw [List.take_add_one, hin]; rfl
      rw [hstep, List.filter_append, List.map_append]
      generalize ((M.take i).filter (· != above)).map sub = ts
      by_cases hab : m = above
      · have e1 : ([m].filter (· != above)).map sub = [] := by simp [hab]
        rw [e1, List.append_nil]
        refine Ex.post (Ex.cons (Ex1.ite (b := m != above) (Tst.cmp (Ev.name rfl).b (Ev.name rfl).b CmpR.neInt) (fun q => absurd hab (by simpa using q)) (fun _ => Ex.nil)) Ex.nil) ?_
        exact .cons rfl (.cons rfl (.cons rfl (.cons rfl (.cons rfl .nil))))
      · have e1 : ([m].filter (· != above)).map sub = [sub m] := by simp [hab]
        rw [e1, sizeTs_snoc]
        have D := ih p (sub m) (hs m hmem hab)
        rw [hp m hmem hab] at D
        generalize sizeT (sub m) = st at D ⊢
        refine Ex.post (Ex.cons (Ex1.ite (b := m != above) (Tst.cmp (Ev.name rfl).b (Ev.name rfl).b CmpR.neInt) (fun _ => ?_) (fun q => absurd (by simpa using q) hab)) Ex.nil) (S' := [("place", .val (.int p)), ("above", .val (.int above)), ("ties", .val (.list (gD ties))), ("length", .val (.int ((sizeTs ts (begun p)).1 + ((grown st).1 + 1)))), ("marks", .val (.int ((sizeTs ts (begun p)).2 + (grown st).2)))]) ?_
        · refine Ex.cons (Ex1.assignTup2 (d1 := .int st.1) (d2 := .int st.2) (Ev.call (EvL.cons (Ev.name rfl) (EvL.cons (Ev.name rfl) (EvL.cons (Ev.name rfl) EvL.nil))) D rfl k_w4.1 k_w4.2 (r2 hdp) (r1 hun)) (.inl rfl) (.inl rfl)) ?_
          refine Ex.cons (S' := [("place", .val (.int p)), ("above", .val (.int above)), ("ties", .val (.list (gD ties))), ("length", .val (.int (sizeTs ts (begun p)).1)), ("marks", .val (.int (sizeTs ts (begun p)).2)), ("inner", .val (.int (grown st).1)), ("within", .val (.int (grown st).2))]) ?_ ?_
          · refine Ex1.ite (b := decide (1 < st.1)) (Tst.cmp (Ev.name rfl).b Ev.cInt.b CmpR.gt) (fun q => ?_) (fun q => ?_)
            · have q : 1 < st.1 := of_decide_eq_true q
              refine Ex.post (Ex.cons (Ex1.assign (d := .int (st.1 + 4 * st.2 + 2)) (Ev.add (Ev.add (Ev.name rfl) (Ev.mul Ev.cInt (Ev.name rfl) (.of_left (by decide)))) Ev.cInt) (.inl rfl)) (Ex.cons (Ex1.assign (d := .int (3 * st.2 + 2)) (Ev.add (Ev.mul Ev.cInt (Ev.name rfl) (.of_left (by decide))) Ev.cInt) (.inl rfl)) Ex.nil)) ?_
              rw [grown, if_pos q]
              exact .cons rfl (.cons rfl (.cons rfl (.cons rfl (.cons rfl (.cons rfl (.cons rfl .nil))))))
            · have q : ¬ 1 < st.1 := of_decide_eq_false q
              refine Ex.post Ex.nil ?_
              rw [grown, if_neg q]
              exact .cons rfl (.cons rfl (.cons rfl (.cons rfl (.cons rfl (.cons rfl (.cons rfl .nil))))))
          · refine Ex.post (Ex.cons (Ex1.augInt rfl (Ev.add (Ev.name rfl) Ev.cInt) (.inl rfl)) (Ex.cons (Ex1.augInt rfl (Ev.name rfl) (.inl rfl)) Ex.nil)) ?_
            exact .cons rfl (.cons rfl (.cons rfl (.cons rfl (.cons rfl .nil))))
        · exact .cons rfl (.cons rfl (.cons rfl (.cons rfl (.cons rfl .nil))))
    · refine Ex.ret (Ex1.ret ?_)
      rw [show (intsD M).length = M.length from List.length_map _, List.take_length]
      exact Ev.tuple (EvL.cons (Ev.name rfl) (EvL.cons (Ev.name rfl) EvL.nil)) two_le
end Mine

end
section
open PySem PySem.W PyProof.Rows PySem.Calls
set_option Elab.async false
set_option maxRecDepth 100000
set_option maxHeartbeats 0
set_option linter.unusedVariables false
namespace Mine
noncomputable def nameC (p : Int) : List Nat := if p = 0 then [] else [65 + p.toNat]
noncomputable def namesS : List Str := ["", "B", "C", "D", "E", "F", "G"]
noncomputable def foundT : RT → List (List Int)
  | .node p kids => (kids.attach.map fun ⟨k, _⟩ => isort [p, k.place] :: foundT k).flatten
noncomputable def foundTs (p : Int) (kids : List RT) : List (List Int) := (kids.map fun k => isort [p, k.place] :: foundT k).flatten
theorem foundT_eq (p : Int) (kids : List RT) : foundT (.node p kids) = foundTs p kids := by
  rw [foundT, foundTs]; congr 1; exact List.attach_map_val (l := kids) (f := fun k => isort [p, k.place] :: foundT k)
theorem foundTs_snoc (p : Int) (ks : List RT) (k : RT) : foundTs p (ks ++ [k]) = foundTs p ks ++ (isort [p, k.place] :: foundT k) := by
  simp [foundTs]
inductive ReadsT (line : RT → List Nat) : Nat → RT → Prop
  | mk (h : Nat) (p : Int) (kids : List RT) (n : Nat) : 0 ≤ p → p < 7 → kids.length < 100 → (foundTs p kids).length < 1000 → (line (.node p kids)).length < 1000000 → toks n (line (.node p kids)) = some (nameC p :: kids.map line) → (∀ k ∈ kids, ReadsT line h k) → ReadsT line (h + 1) (.node p kids)
theorem fin_of {p : Int} (h : 0 ≤ p ∧ p < 7) : ∃ q : Fin 7, p = ((q : Nat) : Int) := ⟨⟨p.toNat, by walk_at "om"⟩, by show p = ((p.toNat : Nat) : Int); walk_at "om"⟩
theorem name_at : ∀ p : Fin 7, namesS[(p : Nat)]? = some (sC (nameC ((p : Nat) : Int))) ∧ ∀ i : Fin 7, i < p → (namesS.getD i "").cps.toList ≠ (sC (nameC ((p : Nat) : Int))).cps.toList := by decide +kernel
theorem k_w5 {w : World} : (nsIn (Mine.K1 w.params) mainGlobals "_law_read" = some (some (.ref 817)) ∧ isDef (Mine.K1 w.params) 817 = true) ∧ (nsIn (Mine.K1 w.params) mainGlobals "split" = some (some (.ref 744)) ∧ isDef (Mine.K1 w.params) 744 = true) ∧ nsIn (Mine.K1 w.params) mainGlobals "_law_names" = some (some (.ref 774)) := by
  refine (?_ : PySem.Challenge.rw_oc0261_02 = PySem.Challenge.rw_oc0261_02 → (Mine.K1 w.params) = (Mine.K1 w.params) → _) rfl rfl
  k_fill
  intro _ _
  exact ⟨⟨by k_is, isDef_of (by k_is)⟩, ⟨by k_is, isDef_of (by k_is)⟩, by k_is⟩
theorem k_names {w : World} : ∃ o items n, (Mine.K1 w.params).lookup 774 = some o ∧ o.cls = .type "tuple" ∧ o.dict = none ∧ o.data = .seq items n ∧ items.toList.map strOf? = namesS.map some := by
  refine (?_ : PySem.Challenge.rw_oc0261_02 = PySem.Challenge.rw_oc0261_02 → (Mine.K1 w.params) = (Mine.K1 w.params) → _) rfl rfl
  k_fill
  intro _ _
  exact ⟨_, _, _, by k_is, rfl, rfl, rfl, rfl⟩
noncomputable def strV (s : Str) : Value := .str s 0
theorem strV_inj (a b : Str) (h : strV a = strV b) : a = b := by cases h; rfl
theorem d_readT {w : World} {line : RT → List Nat} : ∀ (h : Nat) (t : RT), ReadsT line h t → DFun PW w (Mine.K1 w.params) 817 ((62 + 2 * h) + 1) ((610 + 9 * h) + 8) [.str (sC (line t))] (.tuple [.int t.place, .list (gD (foundT t))]) := by
  intro h
  induction h with
  | zero => intro t ht; cases ht
  | succ h ih =>
    intro t ht
    cases ht with
    | mk _ p kids n p0 p7 hk hf hl ht hs =>
    obtain ⟨o, items, nn, ko, kc, kd, kdat, kst⟩ := k_names (w := w)
    refine (?_ : PySem.Challenge.rw_oc0261_02 = PySem.Challenge.rw_oc0261_02 → (Mine.K1 w.params) = (Mine.K1 w.params) → _) rfl rfl
    k_fill
    intro _ _
    refine dfun_of (ps := ["line"]) (by k_is) (by k_is) rfl (fun vs hl s _ => ?_) (by decide) (by decide) (by decide) rfl rfl rfl ?_
    · cases vs with
      | nil => cases hl
      | cons v r =>
        cases r with
        | nil => exact BindsTo.of_eq rfl
        | cons _ _ => cases hl
    intro c hdp hun
    have hU := r0 hun
    have hD := r0 hdp
    obtain ⟨q, rfl⟩ := fin_of ⟨p0, p7⟩
    obtain ⟨nm1, nm2⟩ := name_at q
    have hq := q.isLt
    refine Ex.cons (Ex1.assign (d := .list (strsD ((nameC ((q : Nat) : Int) :: kids.map line).map sC))) (Ev.call (EvL.cons (Ev.name rfl) EvL.nil) (d_split hl ht (by rw [List.length_cons, List.length_map]; walk_at "om")) rfl k_w5.2.1.1 k_w5.2.1.2 (by walk_at "om") (by walk_at "om")) (.inl rfl)) ?_
    refine Ex.cons (Ex1.assign (d := .int ((q : Nat) : Int)) (Ev.indexTop (ss := namesS) (y := sC (nameC ((q : Nat) : Int))) (j := q) k_w5.2.2 ko kc kd kdat kst (Ev.item (i := 0) (Ev.name rfl) Ev.cInt (by decide) rfl (by decide)) nm1 (fun i z hi hz => ?_)) (.inl rfl)) ?_
    · have := nm2 ⟨i, Nat.lt_trans hi hq⟩ hi
      rw [List.getD_eq_getElem?_getD, hz] at this
      exact this
    refine Ex.cons (Ex1.assignList EvL.nil (.inl rfl) (by decide)) ?_
    refine Ex.cons (Ex1.for_ (fun i => [("place", .val (.int ((q : Nat) : Int))), ("ties", .own (gD (foundTs ((q : Nat) : Int) (kids.take i))))]) (EvIt.list (ds := strsD ((kids.map line).map sC)) (Ev.cast (Ev.slice (a := some 1) (b := none) (Ev.name rfl) (PartOk.one Ev.cInt) PartOk.no (by rw [List.length_map, List.length_map, List.length_cons, List.length_map, sizeLine_eq]; walk_at "om")) ?_)) ?_ (.inl rfl) ?_) ?_
    · rw [pickL_map, pick_tl strV strV_inj]; rfl
    · exact .cons rfl (.cons rfl .nil)
    · intro i d hd
      obtain ⟨k, hin, rfl⟩ : ∃ k, kids[i]? = some k ∧ d = .str (sC (line k)) := by
        rw [List.getElem?_map, List.getElem?_map, List.getElem?_map] at hd
        cases e : kids[i]? with
        | none => rw [e] at hd; cases hd
        | some n => rw [e] at hd; cases hd; exact ⟨n, rfl, rfl⟩
      have hmem : k ∈ kids := List.mem_of_getElem? hin
      have hstep : kids.take (i + 1) = kids.take i ++ [k] := by rw [List.take_add_one, hin]; rfl
      have hle : (foundTs ((q : Nat) : Int) (kids.take (i + 1))).length ≤ (foundTs ((q : Nat) : Int) kids).length := by
        conv => rhs; rw [← List.take_append_drop (i + 1) kids]
        rw [foundTs, foundTs, List.map_append, List.flatten_append, List.length_append]; exact Nat.le_add_right _ _
      rw [hstep, foundTs_snoc, List.length_append, List.length_cons] at hle
      have hle2 := Nat.lt_of_le_of_lt hle hf
      have hfk : (foundT k).length < 1000 := Nat.lt_of_le_of_lt (Nat.le_trans (Nat.le_succ _) (Nat.le_add_left _ _)) hle2
      refine Ex.post (Ex.cons (Ex1.assignTup2 (d1 := .int k.place) (d2 := .list (gD (foundT k))) (Ev.call (EvL.cons (Ev.name rfl) EvL.nil) (ih k (hs k hmem)) rfl k_w5.1.1 k_w5.1.2 (r2 hdp) (r1 hun)) (.inl rfl) (.inl rfl)) (Ex.cons (Ex1.augList rfl (Ev.addList (Ev.list (ds := [lD (isort [((q : Nat) : Int), k.place])]) (EvL.cons (Ev.sorted (ns := [((q : Nat) : Int), k.place]) (ns' := isort [((q : Nat) : Int), k.place]) (Ev.list (ds := intsD [((q : Nat) : Int), k.place]) (EvL.cons (Ev.name rfl) (EvL.cons (Ev.name rfl) EvL.nil)) two_le).b (by show 2 < 64; decide) k_tops.2.2.2.2 (fun l p s => sorted_eq p s)) EvL.nil) (by rw [sizeLine_eq]; show 1 ≤ _; decide)) (Ev.name rfl) ?_) (.inl rfl) ?_) Ex.nil)) (.cons rfl (.cons ?_ .nil))
      · rw [List.length_map, sizeLine_eq]; show 1 + _ ≤ _; exact Nat.le_trans (Nat.add_le_add_left (Nat.le_of_lt hfk) 1) (by decide)
      · rw [List.length_append, List.length_map, List.length_map]; show _ + (1 + _) ≤ _; rw [Nat.add_comm 1]; exact Nat.le_trans (Nat.le_of_lt hle2) (by decide)
      · rw [hstep, foundTs_snoc]
        show some (Slot.own _) = some (Slot.own _)
        simp
    · refine Ex.freeze (x := "ties") rfl (Ex.ret (Ex1.ret ?_))
      rw [show (strsD ((kids.map line).map sC)).length = kids.length by simp, List.take_length, foundT_eq]
      exact Ev.tuple (EvL.cons (Ev.name rfl) (EvL.cons (Ev.name rfl) EvL.nil)) two_le
end Mine

end
section
open PySem PySem.W PyProof.Rows PySem.Calls
set_option Elab.async false
set_option linter.unusedVariables false
namespace Mine
noncomputable def PS1 (prog : Program) (w : World) {K : Frag} (c : Cx K) (P : Addr) (env : Env) (S : St) (st : Stmt) (S' : St) : Prop :=
  ∀ jk m mu fz (s : Shared) (Q : Flow → Shared → Prop) oP, PSt oP → AllBare s.gens → Full c env S ((P, oP) :: jk) m mu fz s.heap →
    (∀ m' mu' fz' h' tk' gn' oP', PSt oP' → AllBare gn' → Sub fz fz' → Full c env S' ((P, oP') :: jk) m' mu' fz' h' → Q .next { s with heap := h', toks := tk', gens := gn' }) →
    wpAny (model prog w) c.A (exec st env) Q NoE s
noncomputable def PSs (prog : Program) (w : World) {K : Frag} (c : Cx K) (P : Addr) (env : Env) (S : St) (st : List Stmt) (S' : St) : Prop :=
  ∀ jk m mu fz (s : Shared) (Q : Flow → Shared → Prop) oP, PSt oP → AllBare s.gens → Full c env S ((P, oP) :: jk) m mu fz s.heap →
    (∀ m' mu' fz' h' tk' gn' oP', PSt oP' → AllBare gn' → Sub fz fz' → Full c env S' ((P, oP') :: jk) m' mu' fz' h' → Q .next { s with heap := h', toks := tk', gens := gn' }) →
    wpAny (model prog w) c.A (execs st env) Q NoE s
section
variable {prog : Program} {w : World} {K : Frag} {c : Cx K} {P : Addr} {env : Env} {S S' S'' : St}
theorem Jk.perm {jk jk' : Led} {m : Str → Option Value} {mu : Led} (J : Jk c env S jk m mu) (e : jk.Perm jk') : Jk c env S jk' m mu :=
  ⟨fun p hp => J.mem p (e.mem_iff.mpr hp), fun p hp => J.cel p (e.mem_iff.mpr hp), fun p hp => J.own p (e.mem_iff.mpr hp), (e.pairwise_iff fun h q => h q.symm).mp J.nd⟩
theorem Full.perm {jk jk' : Led} {m : Str → Option Value} {mu fz : Led} {h : Heap} (F : Full c env S jk m mu fz h) (e : jk.Perm jk') : Full c env S jk' m mu fz h := ⟨F.R, F.X, F.J.perm e⟩
theorem PS1.of {st : Stmt} (h : Ex1 prog w c env S st (.next S')) : PS1 prog w c P env S st S' := fun jk m mu fz s Q oP hP hA F k =>
  h ((P, oP) :: jk) m mu fz s Q F fun m' mu' fz' h' tk' s1 F' => k m' mu' fz' h' tk' s.gens oP hP hA s1 F'
theorem PSs.nil : PSs prog w c P env S [] S := fun jk m mu fz s Q oP hP hA F k => wpAny_execs_nil (k m mu fz s.heap s.toks s.gens oP hP hA (fun _ h => h) F)
theorem PSs.cons {st : Stmt} {rest : List Stmt} (h1 : PS1 prog w c P env S st S') (h2 : PSs prog w c P env S' rest S'') : PSs prog w c P env S (st :: rest) S'' := fun jk m mu fz s Q oP hP hA F k =>
  wpAny_execs_cons (h1 jk m mu fz s _ oP hP hA F fun m1 mu1 fz1 h1 t1 g1 o1 hP1 hA1 s1 F1 => h2 jk m1 mu1 fz1 _ Q o1 hP1 hA1 F1 fun m2 mu2 fz2 h2 t2 g2 o2 hP2 hA2 s2 F2 => k m2 mu2 fz2 h2 t2 g2 o2 hP2 hA2 (s1.trans s2) F2)
theorem PSs.post {st : List Stmt} (h : PSs prog w c P env S st S') (l : Le S' S'') : PSs prog w c P env S st S'' := fun jk m mu fz s Q oP hP hA F k => h jk m mu fz s Q oP hP hA F fun m1 mu1 fz1 h1 t1 g1 o1 hP1 hA1 s1 F1 => k m1 mu1 fz1 h1 t1 g1 o1 hP1 hA1 s1 (F1.less l)
theorem PEx.consP {st : Stmt} {rest : List Stmt} {d : Dat} (h1 : PS1 prog w c P env S st S') (h2 : PEx prog w c P env S' rest d) : PEx prog w c P env S (st :: rest) d := fun jk m mu fz s Q oP hP hA F k =>
  wpAny_execs_cons (h1 jk m mu fz s _ oP hP hA F fun m1 mu1 fz1 h1 t1 g1 o1 hP1 hA1 s1 F1 => h2 jk m1 mu1 fz1 _ Q o1 hP1 hA1 F1 fun v m2 mu2 fz2 h2 t2 g2 o2 hP2 hA2 s2 => k v m2 mu2 fz2 h2 t2 g2 o2 hP2 hA2 (s1.trans s2))
theorem PS1.ite {e : Expr} {body orelse : List Stmt} {pos : Pos} {b : Bool} (ht : Tst prog w c env S e b) (h1 : b = true → PSs prog w c P env S body S') (h2 : b = false → PSs prog w c P env S orelse S') : PS1 prog w c P env S (.If e body orelse pos) S' := by
  intro jk m mu fz s Q oP hP hA F k
  refine wpAny_If (ht m mu fz s _ F.R F.X.toSat fun fz' h' tk' s1 R' => ?_)
  cases b with
  | true => exact h1 rfl jk m mu fz' _ Q oP hP hA (F.to s1 R') fun m2 mu2 fz2 h2 t2 g2 o2 hP2 hA2 s2 F2 => k m2 mu2 fz2 h2 t2 g2 o2 hP2 hA2 (s1.trans s2) F2
  | false => exact h2 rfl jk m mu fz' _ Q oP hP hA (F.to s1 R') fun m2 mu2 fz2 h2 t2 g2 o2 hP2 hA2 s2 F2 => k m2 mu2 fz2 h2 t2 g2 o2 hP2 hA2 (s1.trans s2) F2
inductive ForP {K : Frag} (c : Cx K) (P : Addr) (env : Env) (Si : Nat → St) (fz1 : Led) (I : Addr) (jk : Led) (Sx : Nat → Heap → Prop) (len : Nat) (s : Shared) (q : Nat) (s' : Shared) : Prop
  | mk (i : Nat) (oI oP : Obj) (m' : Str → Option Value) (mu' fz' : Led) (h' : Heap) (tk' : Nat) (gn' : Array GenState) : s' = { s with heap := h', toks := tk', gens := gn' } → PSt oP → AllBare gn' → Sub fz1 fz' → Full c env (Si i) ((I, oI) :: (P, oP) :: jk) m' mu' fz' h' → Sx i h' → i ≤ len → q = len + 1 - i → ForP c P env Si fz1 I jk Sx len s q s'
theorem PS1.for_ {x : Str} {px pos : Pos} {iter : Expr} {body : List Stmt} {ds : List Dat} (Si : Nat → St) (hit : EvIt prog w c env S iter ds) (h0 : Le S (Si 0)) (hw : Wr env x)
    (hb : ∀ i d, ds[i]? = some d → PSs prog w c P env ((x, .val d) :: Si i) body (Si (i + 1))) (hs : autoParam (∀ x, foldedSetIterable iter env x = pure x) Mine.sx1) :
    PS1 prog w c P env S (.For (.Name x px) iter body [] pos) (Si ds.length) := by
  intro jk m mu fz s Q oP0 hP0 hA0 F g
  refine wpAny_For (hit m mu fz s _ F.R F.X.toSat fun I o fp Pp Sx fz1 h1 t1 s1 R1 O st => ?_) hs
  have F1 := (F.pushJk s1 R1).less h0
  refine codeAny_forLoop (ForP c P env Si fz1 I jk Sx ds.length s) ?_ (ds.length + 1)
    ⟨0, o, oP0, m, _, fz1, h1, t1, s.gens, rfl, hP0, hA0, fun _ h => h, F1, st, Nat.zero_le _, rfl⟩
  rintro q s' ⟨i, oI, oP, m2, mu2, fz2, h2, t2, g2, rfl, hP, hA, s2, F2, st2, hi, rfl⟩
  have hI := F2.J.mem (I, oI) List.mem_cons_self
  by_cases hlt : i < ds.length
  · refine line_rel (s := { s with heap := h2, toks := t2, gens := g2 }) (O.mono s2) F2.R hI st2 hlt fun v o3 h3 t3 d hd Dd R3 st3 => ?_
    have F3 := F2.turnJk R3
    refine wpAny_assign_Name (store_val (s := { s with heap := h3, toks := t3, gens := g2 }) F3 hw Dd fun m4 mu4 h4 t4 F4 => ?_)
    have st4 : Sx (i + 1) h4 := (O.mono s2).frame R3 F4.R (o := o3) (mem_upd_self hI) (F4.J.mem _ List.mem_cons_self) (fun _ h => h) st3
    refine wpAny_mono (hb i d hd _ m4 mu4 fz2 { s with heap := h4, toks := t4, gens := g2 } (fun fl s5 => fl = .next ∧ ∃ m' mu' fz' h' tk' gn' oP', PSt oP' ∧ AllBare gn' ∧ s5 = { s with heap := h', toks := tk', gens := gn' } ∧ Sub fz2 fz' ∧ Full c env (Si (i + 1)) ((P, oP') :: (I, o3) :: jk) m' mu' fz' h') oP hP hA (F4.perm (List.Perm.swap _ _ _)) fun m' mu' fz' h' tk' gn' oP' hP' hA' s5 F5 => ⟨rfl, m', mu', fz', h', tk', gn', oP', hP', hA', rfl, s5, F5⟩) (fun fl s5 => ?_) fun _ _ y => y.elim
    rintro ⟨rfl, m5, mu5, fz5, h5, t5, g5, o5, hP5, hA5, rfl, s5, F5⟩
    have F6 := F5.perm (List.Perm.swap _ _ _)
    exact ⟨ds.length + 1 - (i + 1), by walk_at "om", i + 1, o3, o5, m5, mu5, fz5, h5, t5, g5, rfl, hP5, hA5, s2.trans s5, F6, (O.mono s2).frame F4.R F6.R (o := o3) (F4.J.mem _ List.mem_cons_self) (F6.J.mem _ List.mem_cons_self) s5 st4, hlt, rfl⟩
  · have e : i = ds.length := by walk_at "om"
    subst e
    refine (O.mono s2).W.done _ _ _ st2 fun h3 t3 hk => ?_
    have R3 := F2.R.del hI (h' := h3) fun b y hb e => hk b y (by simpa using hb) e
    exact wpAny_execs_nil (g m2 _ fz2 h3 t3 g2 oP hP hA (s1.trans s2) (F2.delJk R3))
theorem PS1.append {x : Str} {np ap cp pos : Pos} {e : Expr} {ds : List Dat} {d : Dat} (hx : S.lookup x = some (.own ds)) (hk : env.kindOf x = some .local) (h : EvP prog w c P env S e d) (hz : ds.length ≤ 2 ^ 20) (hxs : autoParam ((x == ("__debug__" : Str)) = false) Mine.sx3)
    (hline : autoParam ((ap.endLine == cp.line) = true) Mine.sx0) (hbase : autoParam (attributeBase (.Name x np) "append" env (eval (.Name x np) env) = eval (.Name x np) env) Mine.sx0) (htrees : autoParam (backTo cp (starEach [e] env) = [(false, eval e env)]) Mine.sx0)
    (hi : autoParam (interactive env = false) Mine.sx0) (hs : autoParam (swapsWith (.Call (.Attribute (.Name x np) "append" ap) [e] [] cp) none pos.line env = pure false) Mine.sx0) :
    PS1 prog w c P env S (.Expr (.Call (.Attribute (.Name x np) "append" ap) [e] [] cp) pos) ((x, .own (ds ++ [d])) :: S) := by
  intro jk m mu fz s Q oP hP hA F g
  obtain ⟨a, vs0, n0, b10, b20, b30⟩ := F.X.own x ds hx
  refine wpAny_Expr ?_ hi hs
  refine wpAny_Call_method1_late hbase hline htrees (wpAny_Name (load_at F.R F.X.kind b10 ?_) hxs)
  have hl := isList_at (F.R.get (List.mem_append_left _ b20))
  refine ⟨"list", "list.append", PySem.F.plainAttrs_list, slot_list_append, by with_unfolding_all rfl, hl.typeIs, fun a' e' => ?_, ?_⟩
  · cases e'; exact ⟨_, F.R.get (List.mem_append_left _ b20), rfl⟩
  refine callWith_builtin rfl (evalArgs_plain (spliced_cons (h jk m mu fz s _ oP hP hA F fun v mu1 fz1 h1 t1 g1 o1 hP1 hA1 s1 F0 D => spliced_nil ?_)))
  obtain ⟨a1, vs, n, b1, b2, b3⟩ := F0.X.own x ds hx
  have ea : a1 = a := by
    cases b10 with
    | loc _ _ e1 =>
      cases b1 with
      | loc _ _ e2 => rw [e1] at e2; cases e2; rfl
      | blk _ q2 _ _ => exact absurd F0.X.loc (F0.R.notL q2)
      | cell k1 _ _ _ => rw [hk] at k1; cases k1
    | blk _ q2 _ _ => exact absurd F.X.loc (F.R.notL q2)
    | cell k1 _ _ _ => rw [hk] at k1; cases k1
  subst ea
  have e1 := b3.length
  refine wpAny_list_append_plain (items := vs.toArray) (hsz := by rw [List.size_toArray, e1, sizeLine_eq]; walk_at "om") ⟨n, F0.R.get (List.mem_append_left _ b2)⟩ fun h2 hl2 hs2 => ?_
  obtain ⟨n2, g2⟩ := hl2
  have g3 : h2.get? a1 = some (listOf (vs ++ [v]).toArray n2) := by rw [← List.push_toArray]; exact g2
  have R2 := F0.R.upd b2 (fun b y hb e => hs2.extBut b y hb e) g3
  have F2 : Full c env ((x, .own (ds ++ [d])) :: S) ((P, o1) :: jk) m (upd a1 (listOf (vs ++ [v]).toArray n2) mu1) fz1 h2 := by
    have up : ∀ y u, At c env m mu1 y u → At c env m (upd a1 (listOf (vs ++ [v]).toArray n2) mu1) y u := fun y u q => by
      cases q with
      | loc k1 k2 k3 => exact .loc k1 k2 k3
      | blk _ q2 _ _ => exact absurd F0.X.loc (F0.R.notL q2)
      | cell k1 k2 k3 k4 => exact .cell k1 k2 (mem_upd k3 fun e => own_not_cell (s := { s with heap := h1, toks := t1, gens := g1 }) F0 b2 k2 e.symm) k4
    have dn : ∀ y es b, S.lookup y = some (.own es) → At c env m (upd a1 (listOf (vs ++ [v]).toArray n2) mu1) y (.ref b) → At c env m mu1 y (.ref b) := fun y es b hy q => by
      obtain ⟨a0, vs0, n0, c1, _, _⟩ := F0.X.own y es hy
      have := At.uniqR R2 F0.X.loc (up _ _ c1) q
      cases this; exact c1
    have dn' : ∀ y es b, ((x, Slot.own (ds ++ [d])) :: S).lookup y = some (.own es) → At c env m (upd a1 (listOf (vs ++ [v]).toArray n2) mu1) y (.ref b) → ∃ es', S.lookup y = some (.own es') ∧ At c env m mu1 y (.ref b) := fun y es b hy q => by
      rcases look_cons hy with ⟨rfl, _⟩ | ⟨_, hy⟩
      · exact ⟨ds, hx, dn _ _ _ hx q⟩
      · exact ⟨es, hy, dn _ _ _ hy q⟩
    refine ⟨R2, ⟨⟨F0.X.kind, F0.X.glob, F0.X.bult, fun y d' hy => ?_, fun y es hy => ?_⟩, F0.X.loc, fun y b hb => ?_, F0.X.inj, fun y z es es' b h1 h2 c1 c2 => ?_⟩, ⟨fun p hp => mem_upd (F0.J.mem p hp) (F0.J.own p hp x ds a1 hx b1), F0.J.cel, fun p hp y es b hy q => ?_, F0.J.nd⟩⟩
    · rcases look_cons hy with ⟨_, e⟩ | ⟨_, hy⟩
      · cases e
      · obtain ⟨u, c1, c2⟩ := F0.X.val y d' hy
        exact ⟨u, up _ _ c1, c2⟩
    · rcases look_cons hy with ⟨rfl, e⟩ | ⟨hn, hy⟩
      · cases e
        exact ⟨a1, vs ++ [v], n2, up _ _ b1, mem_upd_self b2, DatAll.append (b3) (.one D)⟩
      · obtain ⟨a0, vs0, n0, c1, c2, c3⟩ := F0.X.own y es hy
        exact ⟨a0, vs0, n0, up _ _ c1, mem_upd c2 fun e => hn (F0.X.one y x es ds a1 hy hx (by have e' : a0 = a1 := e; exact e' ▸ c1) b1), c3⟩
    · obtain ⟨ob, u, k1, k2⟩ := F0.X.cel y b hb
      exact ⟨ob, u, mem_upd k1 fun e => own_not_cell (s := { s with heap := h1, toks := t1, gens := g1 }) F0 b2 hb e.symm, k2⟩
    · obtain ⟨_, q1, q2⟩ := dn' _ _ _ h1 c1
      obtain ⟨_, q3, q4⟩ := dn' _ _ _ h2 c2
      exact F0.X.one y z _ _ b q1 q3 q2 q4
    · obtain ⟨_, q1, q2⟩ := dn' _ _ _ hy q
      exact F0.J.own p hp y _ b q1 q2
  exact g m _ fz1 h2 t1 g1 o1 hP1 hA1 s1 F2
end
end Mine

end
section
open PySem PySem.W PyProof.Rows PySem.Calls
set_option Elab.async false
set_option maxRecDepth 100000
set_option maxHeartbeats 0
set_option linter.unusedVariables false
namespace Mine
noncomputable def lineT : RT → List Nat
  | .node p kids => joinC ((nameC p :: kids.attach.map fun ⟨k, _⟩ => lineT k).map quoteC)
theorem lineT_eq (p : Int) (kids : List RT) : lineT (.node p kids) = joinC ((nameC p :: kids.map lineT).map quoteC) := by
  rw [lineT]; congr 3; exact List.attach_map_val (l := kids) (f := lineT)
inductive LineOk : RT → Prop
  | mk (p : Int) (kids : List RT) : 0 ≤ p → p < 7 → kids.length < 20 → (∀ k ∈ kids, (lineT k).length ≤ 150000 ∧ ∀ c ∈ lineT k, c ∈ SAFE ∨ c ∈ UNS) → (∀ k ∈ kids, LineOk k) → LineOk (.node p kids)
theorem name_ap : ∀ p : Fin 7, (ap (p : Nat)).map (·.toNat) = nameC ((p : Nat) : Int) := by decide +kernel
theorem name_safe : ∀ p : Fin 7, ∀ c ∈ nameC ((p : Nat) : Int), c ∈ SAFE ∨ c ∈ UNS := by decide +kernel
theorem k_w6 {w : World} : (nsIn (Mine.K1 w.params) mainGlobals "_law_line" = some (some (.ref 803)) ∧ isDef (Mine.K1 w.params) 803 = true) ∧ (nsIn (Mine.K1 w.params) mainGlobals "join_shlex" = some (some (.ref 751)) ∧ isDef (Mine.K1 w.params) 751 = true) := by
  refine (?_ : PySem.Challenge.rw_oc0261_02 = PySem.Challenge.rw_oc0261_02 → (Mine.K1 w.params) = (Mine.K1 w.params) → _) rfl rfl
  k_fill
  intro _ _
  exact ⟨⟨by k_is, isDef_of (by k_is)⟩, ⟨by k_is, isDef_of (by k_is)⟩⟩
theorem d_line {w : World} {ties : List (List Int)} (hl : ties.length < 64) (h2 : ∀ l ∈ ties, l.length = 2) : ∀ (h : Nat) (above : Int) (t : RT), IsT ties h above t → LineOk t → DFunP PW w (Mine.K1 w.params) PJ 803 ((30 + 2 * h) + 1) ((300 + 9 * h) + 8) [.int t.place, .int above, .list (gD ties)] (.str (sC (lineT t))) := by
  intro h
  induction h with
  | zero => intro above t ht; cases ht
  | succ h ih =>
    intro above t ht hok
    cases ht with
    | mk _ _ p sub hp hs =>
    cases hok with
    | mk _ _ p0 p7 hk hw ho =>
    refine (?_ : PySem.Challenge.rw_oc0261_02 = PySem.Challenge.rw_oc0261_02 → (Mine.K1 w.params) = (Mine.K1 w.params) → _) rfl rfl
    k_fill
    intro _ _
    refine dfunP_of (ps := ["place", "above", "ties"]) (by k_is) (by k_is) rfl (fun vs hl s _ => ?_) (by decide) (by decide) (by decide) rfl rfl rfl ?_
    · cases vs with
      | nil => cases hl
      | cons v r =>
        cases r with
        | nil => cases hl
        | cons v2 r =>
          cases r with
          | nil => cases hl
          | cons v3 r =>
            cases r with
            | nil => exact BindsTo.of_eq rfl
            | cons _ _ => cases hl
    intro c hdp hun _ _
    have hU := r0 hun
    have hD := r0 hdp
    obtain ⟨q, rfl⟩ := fin_of ⟨p0, p7⟩
    have hq := q.isLt
    have hml : (matesP ((q : Nat) : Int) ties).length < 64 := by
      rw [matesP, (isort_perm _).length_eq, List.length_map]
      exact Nat.lt_of_le_of_lt (List.length_filter_le _ _) hl
    have hkey : lineT (.node ((q : Nat) : Int) (((matesP ((q : Nat) : Int) ties).filter (· != above)).map sub)) = joinC ((nameC ((q : Nat) : Int) :: (((matesP ((q : Nat) : Int) ties).filter (· != above)).map sub).map lineT).map quoteC) := lineT_eq _ _
    rw [hkey]
    have hb16 : ((q : Nat) : Int) < 16 ^ 16 := Int.lt_of_lt_of_le p7 (by decide)
    have hap : ∀ c ∈ ap (q : Nat), c.toNat < 128 := by
      have : ∀ q : Fin 7, ∀ c ∈ ap (q : Nat), c.toNat < 128 := by decide +kernel
      exact this q
    have hap2 : (ap (q : Nat)).length ≤ 1000 := by
      have : ∀ q : Fin 7, (ap (q : Nat)).length ≤ 1000 := by decide +kernel
      exact this q
    generalize hM : matesP ((q : Nat) : Int) ties = M at *
    refine PEx.cons (Ex1.assignList (ds := strsD ([nameC ((q : Nat) : Int)].map sC)) (EvL.cons (Ev.cast (Ev.decode (b := ap (q : Nat)) (Ev.call (EvL.cons (Ev.name (d := .int ((q : Nat) : Int)) rfl) EvL.nil) (d_int2ap (by walk_at "om") hb16) rfl k_w1.1 k_w1.2 (by walk_at "om") (by walk_at "om")) hap hap2) (by rw [← name_ap q])) EvL.nil) (.inl rfl) (by rw [sizeLine_eq]; show 1 ≤ _; decide)) ?_
    refine PEx.consP (PS1.for_ (fun i => [("place", .val (.int ((q : Nat) : Int))), ("above", .val (.int above)), ("ties", .val (.list (gD ties))), ("words", .own (strsD ((nameC ((q : Nat) : Int) :: (((M.take i).filter (· != above)).map sub).map lineT).map sC)))]) (EvIt.list (ds := intsD M) (Ev.cast (Ev.call (EvL.cons (Ev.name (d := .int ((q : Nat) : Int)) rfl) (EvL.cons (Ev.name rfl) EvL.nil)) (d_mates hl h2) rfl k_w2.1.1 k_w2.1.2 (by walk_at "om") (by walk_at "om")) (by rw [hM]))) ?_ (.inl rfl) ?_) ?_
    · exact .cons rfl (.cons rfl (.cons rfl (.cons rfl .nil)))
    · intro i d hd
      obtain ⟨m, hin, rfl⟩ : ∃ n, M[i]? = some n ∧ d = .int n := by
        rw [List.getElem?_map] at hd
        cases e : M[i]? with
        | none => rw [e] at hd; cases hd
        | some n => rw [e] at hd; cases hd; exact ⟨n, rfl, rfl⟩
      have hmem : m ∈ M := List.mem_of_getElem? hin
      have hstep : M.take (i + 1) = M.take i ++ [m] := by rw [List.take_add_one, hin]; rfl
      have hts : (((M.take i).filter (· != above)).map sub).length < 64 := by
        rw [List.length_map]
        exact Nat.lt_of_le_of_lt (Nat.le_trans (List.length_filter_le _ _) (by rw [List.length_take]; exact Nat.min_le_right _ _)) hml
      rw [hstep, List.filter_append, List.map_append]
      generalize ((M.take i).filter (· != above)).map sub = ts at *
      by_cases hab : m = above
      · have e1 : ([m].filter (· != above)).map sub = [] := by simp [hab]
        rw [e1, List.append_nil]
        refine PSs.post (PSs.cons (PS1.of (Ex1.ite (b := m != above) (Tst.cmp (Ev.name rfl).b (Ev.name rfl).b CmpR.neInt) (fun q => absurd hab (by simpa using q)) (fun _ => Ex.nil))) PSs.nil) ?_
        exact .cons rfl (.cons rfl (.cons rfl (.cons rfl .nil)))
      · have e1 : ([m].filter (· != above)).map sub = [sub m] := by simp [hab]
        have hin2 : sub m ∈ (M.filter (· != above)).map sub := List.mem_map_of_mem (List.mem_filter.mpr ⟨hmem, by simpa using hab⟩)
        rw [e1]
        have D := ih ((q : Nat) : Int) (sub m) (hs m hmem hab) (ho _ hin2)
        rw [hp m hmem hab] at D
        refine PSs.post (PSs.cons (PS1.ite (b := m != above) (Tst.cmp (Ev.name rfl).b (Ev.name rfl).b CmpR.neInt) (fun _ => PSs.cons (PS1.append (d := .str (sC (lineT (sub m)))) rfl rfl (EvP.callP (EvLP.cons (EvP.of (Ev.name rfl)) (EvLP.cons (EvP.of (Ev.name (d := .int ((q : Nat) : Int)) rfl)) (EvLP.cons (EvP.of (Ev.name rfl)) EvLP.nil))) D rfl k_w6.1.1 k_w6.1.2 (r2 hdp) (r1 hun)) ?_) PSs.nil) (fun q => absurd (by simpa using q) hab)) PSs.nil) ?_
        · simp only [List.length_map, List.length_cons]; walk_at "om"
        · refine .cons rfl (.cons rfl (.cons rfl (.cons ?_ .nil)))
          show some (Slot.own _) = some (Slot.own _)
          simp
    · rw [show (intsD M).length = M.length from List.length_map _, List.take_length]
      generalize hts : ((M.filter (· != above)).map sub) = ts at *
      refine PEx.freeze (x := "words") rfl (PEx.ret (EvP.callP (EvLP.cons (EvP.of (Ev.name rfl)) EvLP.nil) (d_join (ws := nameC ((q : Nat) : Int) :: ts.map lineT) ?_ ?_) rfl k_w6.2.1 k_w6.2.2 (by walk_at "om") (by walk_at "om")))
      · rw [List.length_cons, List.length_map]; walk_at "om"
      · intro l hl
        rcases List.mem_cons.mp hl with rfl | hl
        · refine ⟨?_, name_safe q⟩
          have : ∀ q : Fin 7, (nameC ((q : Nat) : Int)).length ≤ 150000 := by decide +kernel
          exact this q
        · obtain ⟨k, hk, rfl⟩ := List.mem_map.mp hl
          exact hw k hk
end Mine

end
section
open PySem PySem.W PyProof.Rows PySem.Calls
set_option Elab.async false
set_option linter.unusedVariables false
namespace Mine
theorem safe_rng {c : Nat} (h : c ∈ SAFE) : 65 ≤ c ∧ c ≤ 80 := by
  have : ∀ c ∈ SAFE, 65 ≤ c ∧ c ≤ 80 := by decide
  exact this c h
theorem rt_word : ∀ (l r tok : List Nat) (q : Bool), (∀ c ∈ l, c ∈ SAFE) → rt (l ++ r) 97 tok q = rt r 97 (tok ++ l) q
  | [], r, tok, q, _ => by simp
  | c :: l, r, tok, q, h => by
    have hc := safe_rng (h c List.mem_cons_self)
    have e : rt (c :: (l ++ r)) 97 tok q = rt (l ++ r) 97 (tok ++ [c]) q := by
      rw [rt, if_neg (by decide), if_pos rfl, if_neg (by walk_at "om"), if_pos (show 65 ≤ c ∧ c ≤ 80 from hc)]
    rw [List.cons_append, e, rt_word l r _ q fun d hd => h d (List.mem_cons_of_mem _ hd), List.append_assoc]; rfl
theorem al_of {c : Nat} (h : c ∈ SAFE ∨ c ∈ UNS) : c ∈ AL := by
  have : ∀ c ∈ SAFE ++ UNS, c ∈ AL := by decide
  exact this c (List.mem_append.mpr h)
theorem rt_q1 {r tok : List Nat} {q : Bool} : rt (39 :: r) 39 tok q = rt r 97 tok true := by rw [rt, if_neg (by decide), if_neg (by decide), if_pos (by decide), if_pos rfl]
theorem rt_q2 {r tok : List Nat} {q : Bool} : rt (34 :: r) 97 tok q = rt r 34 tok q := by rw [rt, if_neg (by decide), if_pos rfl, if_neg (by decide), if_neg (by decide), if_pos (by decide)]
theorem rt_q3 {r tok : List Nat} {q : Bool} : rt (39 :: r) 34 tok q = rt r 34 (tok ++ [39]) true := by rw [rt, if_neg (by decide), if_neg (by decide), if_pos (by decide), if_neg (by decide), if_pos (by decide)]
theorem rt_q4 {r tok : List Nat} {q : Bool} : rt (34 :: r) 34 tok q = rt r 97 tok true := by rw [rt, if_neg (by decide), if_neg (by decide), if_pos (by decide), if_pos rfl]
theorem rt_q5 {r tok : List Nat} {q : Bool} : rt (39 :: r) 97 tok q = rt r 39 tok q := by rw [rt, if_neg (by decide), if_pos rfl, if_neg (by decide), if_neg (by decide), if_pos (by decide)]
theorem rt_quo : ∀ (l r tok : List Nat) (q : Bool), (∀ c ∈ l, c ∈ SAFE ∨ c ∈ UNS) → rt (repl 39 DQ l ++ 39 :: r) 39 tok q = rt r 97 (tok ++ l) true
  | [], r, tok, q, _ => by rw [List.append_nil]; exact rt_q1
  | c :: l, r, tok, q, h => by
    have hc := al_of (h c List.mem_cons_self)
    have ih := fun tok q => rt_quo l r tok q fun d hd => h d (List.mem_cons_of_mem _ hd)
    have e : repl 39 DQ (c :: l) = (if c = 39 then DQ else [c]) ++ repl 39 DQ l := by simp [repl]
    rw [e]
    by_cases h9 : c = 39
    · subst h9
      rw [if_pos rfl]
      show rt (39 :: 34 :: 39 :: 34 :: 39 :: (repl 39 DQ l ++ 39 :: r)) 39 tok q = _
      rw [rt_q1, rt_q2, rt_q3, rt_q4, rt_q5, ih, List.append_assoc]; rfl
    · rw [if_neg h9]
      show rt (c :: (repl 39 DQ l ++ 39 :: r)) 39 tok q = _
      rw [rt, if_neg (by decide), if_neg (by decide), if_pos (by decide), if_neg h9, if_pos hc, ih, List.append_assoc]; rfl
theorem rt_quoted {l r : List Nat} (h : ∀ c ∈ l, c ∈ SAFE ∨ c ∈ UNS) : ∃ q, ¬ (q = false ∧ l = []) ∧ rt (quoteC l ++ r) 32 [] false = rt r 97 l q := by
  unfold quoteC
  split
  · rename_i e
    subst e
    refine ⟨true, by simp, ?_⟩
    show rt (39 :: 39 :: r) 32 [] false = _
    rw [rt, if_pos rfl, if_neg (by decide), if_pos rfl, rt_q1]
  · rename_i hne
    split
    · rename_i hs
      have hs : ∀ c ∈ l, c ∈ SAFE := fun c hc => by simpa using List.all_eq_true.mp hs c hc
      refine ⟨false, by simpa using hne, ?_⟩
      cases l with
      | nil => exact absurd rfl hne
      | cons c l =>
        have hc := safe_rng (hs c List.mem_cons_self)
        rw [List.cons_append, rt, if_pos rfl, if_pos (show 65 ≤ c ∧ c ≤ 80 from hc), rt_word _ _ _ _ fun d hd => hs d (List.mem_cons_of_mem _ hd)]; rfl
    · refine ⟨true, by simp, ?_⟩
      rw [List.append_assoc, List.cons_append, rt, if_pos rfl, if_neg (by decide), if_pos rfl]
      exact rt_quo l r [] false h
theorem rt_end {l : List Nat} {q : Bool} (h : ¬ (q = false ∧ l = [])) : rt [] 97 l q = some (some l, none, []) := by
  rw [rt, if_neg (fun e => absurd e.1 (by decide)), if_pos ⟨rfl, h⟩]
theorem rt_sep {l r : List Nat} {q : Bool} (h : ¬ (q = false ∧ l = [])) : rt (32 :: r) 97 l q = some (some l, some 32, r) := by
  rw [rt, if_neg (by decide), if_pos rfl, if_pos rfl, if_neg h]
theorem toks_join : ∀ (ws : List (List Nat)), (∀ w ∈ ws, ∀ c ∈ w, c ∈ SAFE ∨ c ∈ UNS) → toks (ws.length + 1) (joinC (ws.map quoteC)) = some ws
  | [], _ => by rfl
  | [a], h => by
    obtain ⟨q, h1, h2⟩ := rt_quoted (r := []) (h a List.mem_cons_self)
    rw [List.append_nil, rt_end h1] at h2
    show (rt (quoteC a) 32 [] false).bind (tokR (toks 1)) = _
    rw [h2]; rfl
  | a :: b :: r, h => by
    obtain ⟨q, h1, h2⟩ := rt_quoted (r := joinC ((b :: r).map quoteC)|> (32 :: ·)) (h a List.mem_cons_self)
    rw [rt_sep h1] at h2
    show (rt (quoteC a ++ 32 :: joinC ((b :: r).map quoteC)) 32 [] false).bind (tokR (toks ((b :: r).length + 1))) = _
    rw [h2]
    show (toks ((b :: r).length + 1) _).map _ = _
    rw [toks_join (b :: r) fun w hw => h w (List.mem_cons_of_mem _ hw)]
    rfl
theorem repl_in {l : List Nat} (h : ∀ c ∈ l, c ∈ SAFE ∨ c ∈ UNS) : ∀ c ∈ repl 39 DQ l, c ∈ SAFE ∨ c ∈ UNS := fun c hc => by
  obtain ⟨d, hd, hc⟩ := List.mem_flatMap.mp hc
  split at hc
  · right
    have : ∀ c ∈ DQ, c ∈ UNS := by decide
    exact this c hc
  · rw [List.mem_singleton] at hc; rw [hc]; exact h d hd
theorem quote_in {l : List Nat} (h : ∀ c ∈ l, c ∈ SAFE ∨ c ∈ UNS) : ∀ c ∈ quoteC l, c ∈ SAFE ∨ c ∈ UNS := fun c hc => by
  have q39 : (39 : Nat) ∈ UNS := by decide
  unfold quoteC at hc
  split at hc
  · right
    have : ∀ c ∈ [39, 39], c ∈ UNS := by decide
    exact this c hc
  · split at hc
    · exact h c hc
    · rcases List.mem_append.mp hc with hc | hc
      · rcases List.mem_cons.mp hc with e | hc
        · rw [e]; exact .inr q39
        · exact repl_in h c hc
      · rw [List.mem_singleton.mp hc]; exact .inr q39
theorem join_in : ∀ {ws : List (List Nat)}, (∀ w ∈ ws, ∀ c ∈ w, c ∈ SAFE ∨ c ∈ UNS) → ∀ c ∈ joinC ws, c ∈ SAFE ∨ c ∈ UNS
  | [], _, c, hc => nomatch hc
  | [x], h, c, hc => h x List.mem_cons_self c hc
  | x :: y :: r, h, c, hc => by
    rcases List.mem_append.mp hc with hc | hc
    · exact h x List.mem_cons_self c hc
    · rcases List.mem_cons.mp hc with e | hc
      · rw [e]; right; decide
      · exact join_in (fun w hw => h w (List.mem_cons_of_mem _ hw)) c hc
end Mine

end
section
set_option Elab.async false
set_option linter.unusedVariables false
namespace Mine
theorem isort_congr {a b : List Int} (h : a.Perm b) : isort a = isort b := sorted_eq ((isort_perm a).trans h) (isort_sorted a)
theorem mates_perm {p : Int} {a b : List (List Int)} (h : a.Perm b) : matesP p a = matesP p b := isort_congr ((h.filter _).map _)
theorem leaves_perm {a b : List (List Int)} (h : a.Perm b) (x : Int) : x ∈ leaves a ↔ x ∈ leaves b := by
  have hf : a.flatten.Perm b.flatten := h.flatten
  simp only [leaves, List.mem_filter, hf.mem_iff, hf.count_eq]
theorem told_perm {a : List (List Int)} {fs : List Int} (h : Told a fs) : ∀ {b : List (List Int)}, a.Perm b → Told b fs := by
  induction h with
  | done h => intro b p; exact .done (p.length_eq ▸ h)
  | step h1 h2 h3 _ ih =>
    intro b p
    exact .step (p.length_eq ▸ h1) ⟨(leaves_perm p _).mp h2.mem, fun x hx => h2.le x ((leaves_perm p x).mpr hx)⟩ (by rw [← mates_perm p]; exact h3) (ih (p.filter _))
theorem isT_perm {a b : List (List Int)} (p : a.Perm b) : ∀ {h : Nat} {z : Int} {t : RT}, IsT a h z t → IsT b h z t := by
  intro h
  induction h with
  | zero => intro z t ht; cases ht
  | succ h ih =>
    intro z t ht
    cases ht with
    | mk _ _ q sub hp hs =>
      rw [mates_perm (p := q) p] at hp hs ⊢
      exact .mk h z q sub hp fun m h1 h2 => ih (hs m h1 h2)
theorem isT_up {a : List (List Int)} : ∀ {h : Nat} {z : Int} {t : RT}, IsT a h z t → IsT a (h + 1) z t := by
  intro h
  induction h with
  | zero => intro z t ht; cases ht
  | succ h ih =>
    intro z t ht
    cases ht with
    | mk _ _ q sub hp hs => exact .mk (h + 1) z q sub hp fun m h1 h2 => ih (hs m h1 h2)
theorem isT_le {a : List (List Int)} {h k : Nat} {z : Int} {t : RT} (l : h ≤ k) (ht : IsT a h z t) : IsT a k z t := by
  induction l with
  | refl => exact ht
  | step _ ih => exact isT_up ih
theorem RT.ind {P : RT → Prop} (h : ∀ p kids, (∀ k ∈ kids, P k) → P (.node p kids)) (t : RT) : P t :=
  RT.rec (motive_1 := P) (motive_2 := fun l => ∀ k ∈ l, P k) (fun p kids ih => h p kids ih) (fun _ hk => nomatch hk) (fun k ks h1 h2 x hx => (List.mem_cons.mp hx).elim (fun e => e ▸ h1) (h2 x)) t
noncomputable def placesT : RT → List Int
  | .node p kids => p :: (kids.attach.map fun ⟨k, _⟩ => placesT k).flatten
theorem placesT_eq (p : Int) (kids : List RT) : placesT (.node p kids) = p :: (kids.map placesT).flatten := by
  rw [placesT]; congr 2; exact List.attach_map_val (l := kids) (f := placesT)
theorem count_grow {α : Type} [BEq α] [LawfulBEq α] (xs : List Int) (G G0 : Int → List α) (P : Int → List Int) (l : α) (f : Int) (δ : Nat) (h : ∀ m ∈ xs, (G m).count l = (G0 m).count l + (P m).count f * δ) :
    ((xs.map G).flatten).count l = ((xs.map G0).flatten).count l + ((xs.map P).flatten).count f * δ := by
  induction xs with
  | nil => simp
  | cons x xs ih =>
    have h1 := h x List.mem_cons_self
    have h2 := ih fun m hm => h m (List.mem_cons_of_mem _ hm)
    simp only [List.map_cons, List.flatten_cons, List.count_append, h1, h2, Nat.add_mul]
    exact Nat.add_add_add_comm _ _ _ _
structure Grow (E' E : List (List Int)) (a f : Int) : Prop where
  other : ∀ x, x ≠ a → x ≠ f → matesP x E = matesP x E'
  atf : matesP f E = isort (a :: matesP f E')
  ata : matesP a E = [f]
  noa : ∀ x, a ∉ matesP x E'
  ne : a ≠ f
theorem leaf_is {E : List (List Int)} {a f : Int} (h : matesP a E = [f]) (k : Nat) : IsT E (k + 1) f (.node a []) := by
  have e : RT.node a [] = .node a (((matesP a E).filter (· != f)).map fun _ => .node 0 []) := by rw [h]; simp
  rw [e]
  refine .mk k f a _ (fun m hm hne => ?_) (fun m hm hne => ?_)
  · rw [h, List.mem_singleton] at hm; exact absurd hm hne
  · rw [h, List.mem_singleton] at hm; exact absurd hm hne
theorem found_perm {p : Int} {a b : List Int} {sub : Int → RT} (h : a.Perm b) : (foundTs p (a.map sub)).Perm (foundTs p (b.map sub)) := by
  unfold foundTs; exact ((h.map _).map _).flatten
theorem grow {E' E : List (List Int)} {a f : Int} (g : Grow E' E a f) : ∀ (h : Nat) (z : Int) (t : RT), IsT E' h z t → t.place ≠ a → z ≠ a →
    ∃ t', IsT E (h + 1) z t' ∧ t'.place = t.place ∧ (∀ l, (foundT t').count l = (foundT t).count l + (placesT t).count f * (if l = isort [a, f] then 1 else 0)) ∧ (∀ x, (placesT t').count x = (placesT t).count x + (placesT t).count f * (if x = a then 1 else 0)) := by
  intro h
  induction h with
  | zero => intro z t ht; cases ht
  | succ h ih =>
    intro z t ht hpa hza
    cases ht with
    | mk _ _ p sub hp hs =>
    have hpa : p ≠ a := hpa
    have all : ∀ m, ∃ t', m ∈ matesP p E' → m ≠ z → IsT E (h + 1) p t' ∧ t'.place = m ∧ (∀ l, (foundT t').count l = (foundT (sub m)).count l + (placesT (sub m)).count f * (if l = isort [a, f] then 1 else 0)) ∧ (∀ x, (placesT t').count x = (placesT (sub m)).count x + (placesT (sub m)).count f * (if x = a then 1 else 0)) := by
      intro m
      by_cases hm : m ∈ matesP p E' ∧ m ≠ z
      · have hma : m ≠ a := fun e => g.noa p (e ▸ hm.1)
        obtain ⟨t', h1, h2, h3⟩ := ih p (sub m) (hs m hm.1 hm.2) (by rw [hp m hm.1 hm.2]; exact hma) hpa
        exact ⟨t', fun _ _ => ⟨h1, h2.trans (hp m hm.1 hm.2), h3⟩⟩
      · exact ⟨.node 0 [], fun q1 q2 => absurd ⟨q1, q2⟩ hm⟩
    let sb : Int → RT := fun m => (all m).choose
    have hsb : ∀ m ∈ matesP p E', m ≠ z → IsT E (h + 1) p (sb m) ∧ (sb m).place = m ∧ (∀ l, (foundT (sb m)).count l = (foundT (sub m)).count l + (placesT (sub m)).count f * (if l = isort [a, f] then 1 else 0)) ∧ (∀ x, (placesT (sb m)).count x = (placesT (sub m)).count x + (placesT (sub m)).count f * (if x = a then 1 else 0)) := fun m => (all m).choose_spec
    clear_value sb
    have mem : ∀ {m}, m ∈ (matesP p E').filter (· != z) → m ∈ matesP p E' ∧ m ≠ z := fun hm => ⟨(List.mem_filter.mp hm).1, by simpa using (List.mem_filter.mp hm).2⟩
    -- the kids that were there
    have cf : ∀ l, (foundTs p (((matesP p E').filter (· != z)).map sb)).count l = (foundTs p (((matesP p E').filter (· != z)).map sub)).count l + ((((matesP p E').filter (· != z)).map sub).map placesT).flatten.count f * (if l = isort [a, f] then 1 else 0) := by
      intro l
      unfold foundTs
      rw [List.map_map, List.map_map, List.map_map]
      refine count_grow _ _ _ _ l f _ fun m hm => ?_
      obtain ⟨m1, m2⟩ := mem hm
      obtain ⟨_, q2, q3, _⟩ := hsb m m1 m2
      show (isort [p, (sb m).place] :: foundT (sb m)).count l = (isort [p, (sub m).place] :: foundT (sub m)).count l + (placesT (sub m)).count f * _
      rw [List.count_cons, List.count_cons, q2, hp m m1 m2, q3]; exact Nat.add_right_comm _ _ _
    have cp : ∀ x, ((((matesP p E').filter (· != z)).map sb).map placesT).flatten.count x = ((((matesP p E').filter (· != z)).map sub).map placesT).flatten.count x + ((((matesP p E').filter (· != z)).map sub).map placesT).flatten.count f * (if x = a then 1 else 0) := by
      intro x
      rw [List.map_map, List.map_map]
      refine count_grow _ _ _ _ x f _ fun m hm => ?_
      obtain ⟨m1, m2⟩ := mem hm
      exact (hsb m m1 m2).2.2.2 x
    by_cases hpf : p = f
    · subst hpf
      let s2 : Int → RT := fun m => if m = a then .node a [] else sb m
      have e2 : ∀ m, m ≠ a → s2 m = sb m := fun m hm => if_neg hm
      have ea : s2 a = .node a [] := if_pos rfl
      clear_value s2
      have hin : ∀ {m}, m ∈ matesP p E → m = a ∨ m ∈ matesP p E' := fun {m} hm => by
        rw [g.atf] at hm
        exact List.mem_cons.mp ((isort_perm _).mem_iff.mp hm)
      have hperm : ((matesP p E).filter (· != z)).Perm (a :: (matesP p E').filter (· != z)) := by
        rw [g.atf]
        have := (isort_perm (a :: matesP p E')).filter (· != z)
        rw [List.filter_cons, if_pos (by simpa using Ne.symm hza)] at this
        exact this
      have hmap : ((matesP p E').filter (· != z)).map s2 = ((matesP p E').filter (· != z)).map sb := List.map_congr_left fun m hm => e2 m fun e => g.noa p (e ▸ (mem hm).1)
      refine ⟨.node p (((matesP p E).filter (· != z)).map s2), .mk (h + 1) z p s2 (fun m hm hne => ?_) (fun m hm hne => ?_), rfl, fun l => ?_, fun x => ?_⟩
      · by_cases e : m = a
        · rw [e, ea]; rfl
        · rw [e2 m e]; exact (hsb m ((hin hm).resolve_left e) hne).2.1
      · by_cases e : m = a
        · rw [e, ea]; exact leaf_is g.ata h
        · rw [e2 m e]; exact (hsb m ((hin hm).resolve_left e) hne).1
      · rw [foundT_eq, foundT_eq, (found_perm hperm).count_eq, List.map_cons, hmap, ea, placesT_eq, List.count_cons_self]
        have := cf l
        have e3 : foundTs p (.node a [] :: ((matesP p E').filter (· != z)).map sb) = isort [p, a] :: foundTs p (((matesP p E').filter (· != z)).map sb) := by
          unfold foundTs
          rw [List.map_cons, List.flatten_cons, foundT_eq]; rfl
        rw [e3, List.count_cons, this, Nat.add_mul, isort_congr (List.Perm.swap a p [])]
        by_cases hl : l = isort [a, p]
        · rw [if_pos hl, if_pos (by simpa using hl.symm)]; exact (Nat.add_assoc _ _ _)
        · rw [if_neg hl, if_neg (by simpa using Ne.symm hl)]; rfl
      · rw [placesT_eq, placesT_eq, List.count_cons, List.count_cons, List.count_cons_self, ((hperm.map s2).map placesT).flatten.count_eq, List.map_cons, hmap, ea, List.map_cons, List.flatten_cons, placesT_eq, List.count_append, cp x, Nat.add_mul]
        have e4 : List.count x (a :: (List.map placesT []).flatten) = if x = a then 1 else 0 := by
          by_cases hx : x = a
          · simp [hx]
          · simp [hx, Ne.symm hx]
        rw [e4, Nat.one_mul]; exact g1
    · have e1 := g.other p hpa hpf
      refine ⟨.node p (((matesP p E').filter (· != z)).map sb), ?_, rfl, fun l => ?_, fun x => ?_⟩
      · have := hsb
        rw [← e1] at this ⊢
        exact .mk (h + 1) z p sb (fun m hm hne => (this m hm hne).2.1) (fun m hm hne => (this m hm hne).1)
      · rw [foundT_eq, foundT_eq, cf l, placesT_eq, List.count_cons_of_ne hpf]
      · rw [placesT_eq, placesT_eq, List.count_cons, List.count_cons, List.count_cons_of_ne hpf, cp x]; exact Nat.add_right_comm _ _ _
theorem reroot {E' E : List (List Int)} {a f : Int} (g : Grow E' E a f) : ∀ (h : Nat) (z : Int) (t : RT), IsT E' h z t → t.place ≠ a → f ∉ placesT t → IsT E h z t := by
  intro h
  induction h with
  | zero => intro z t ht; cases ht
  | succ h ih =>
    intro z t ht hpa hf
    cases ht with
    | mk _ _ p sub hp hs =>
    have hpa : p ≠ a := hpa
    rw [placesT_eq, List.mem_cons, not_or] at hf
    have e := g.other p hpa (Ne.symm hf.1)
    have hkid : ∀ m ∈ matesP p E', m ≠ z → IsT E h p (sub m) := fun m hm hne => by
      refine ih p (sub m) (hs m hm hne) (by rw [hp m hm hne]; exact fun q => g.noa p (q ▸ hm)) fun q => hf.2 ?_
      exact List.mem_flatten.mpr ⟨_, List.mem_map_of_mem (List.mem_map_of_mem (List.mem_filter.mpr ⟨hm, by simpa using hne⟩)), q⟩
    rw [← e] at hp hkid ⊢
    exact .mk h z p sub hp hkid
end Mine

end
section
set_option Elab.async false
set_option linter.unusedVariables false
namespace Mine
theorem two_of {l : List Int} (h : l.length = 2) : ∃ u v, l = [u, v] := by
  cases l with
  | nil => cases h
  | cons u r =>
    cases r with
    | nil => cases h
    | cons v r =>
      cases r with
      | nil => exact ⟨u, v, rfl⟩
      | cons _ _ => cases h
theorem isort2 (a f : Int) : isort [a, f] = [a, f] ∨ isort [a, f] = [f, a] := by
  show (if a ≤ f then [a, f] else [f, a]) = [a, f] ∨ (if a ≤ f then [a, f] else [f, a]) = [f, a]
  split
  · exact .inl rfl
  · exact .inr rfl
theorem isort2_sum (a f x : Int) : (isort [a, f]).getD 0 0 + (isort [a, f]).getD 1 0 - x = a + f - x := by
  rcases isort2 a f with e | e <;> rw [e]
  · rfl
  · show f + a - x = _; rw [Int.add_comm]
theorem mem_isort2 {a f x : Int} : x ∈ isort [a, f] ↔ x = a ∨ x = f := by
  rw [(isort_perm _).mem_iff]; simp
theorem grow_of {E' : List (List Int)} {a f : Int} (ne : a ≠ f) (two : ∀ l ∈ E', l.length = 2) (ha : a ∉ E'.flatten) : Grow E' (isort [a, f] :: E') a f := by
  have ha' : ∀ l ∈ E', a ∉ l := fun l hl h => ha (List.mem_flatten.mpr ⟨l, hl, h⟩)
  have m : ∀ x, matesP x (isort [a, f] :: E') = if x = a ∨ x = f then isort ((a + f - x) :: (E'.filter fun l => l.contains x).map fun l => l.getD 0 0 + l.getD 1 0 - x) else matesP x E' := by
    intro x
    unfold matesP
    rw [List.filter_cons]
    by_cases h : x = a ∨ x = f
    · rw [if_pos (by simpa using mem_isort2.mpr h), if_pos h, List.map_cons, isort2_sum]
    · rw [if_neg (by simpa using fun q => h (mem_isort2.mp q)), if_neg h]
  refine ⟨fun x h1 h2 => ?_, ?_, ?_, fun x hx => ?_, ne⟩
  · rw [m, if_neg fun h => h.elim h1 h2]
  · rw [m, if_pos (.inr rfl)]
    refine isort_congr ?_
    rw [show a + f - f = a from Int.add_sub_cancel a f]
    exact (isort_perm _).symm.cons a
  · rw [m, if_pos (.inl rfl)]
    have : (E'.filter fun l => l.contains a) = [] := List.filter_eq_nil_iff.mpr fun l hl => by simpa using ha' l hl
    rw [this, show a + f - a = f by rw [Int.add_comm]; exact Int.add_sub_cancel f a]; rfl
  · rw [matesP, (isort_perm _).mem_iff] at hx
    obtain ⟨l, hl, e⟩ := List.mem_map.mp hx
    obtain ⟨h1, h2⟩ := List.mem_filter.mp hl
    have h2 : x ∈ l := by simpa using h2
    have h3 := ha' l h1
    obtain ⟨u, v, rfl⟩ := two_of (two l h1)
    have e : u + v - x = a := e
    simp only [List.mem_cons, List.not_mem_nil, or_false, not_or] at h2 h3
    walk_at "om"
structure Stage (L R : List Int) (E : List (List Int)) : Prop where
  nd : L.Nodup
  deg : ∀ x ∈ L, E.flatten.count x = 1 + R.count x
  out : ∀ x, x ∉ L → x ∉ E.flatten
  two : ∀ l ∈ E, l.length = 2
  len : E.length + 1 = L.length
  tree : ∀ p ∈ L, ∀ z, z ∉ L → ∃ t, IsT E L.length z t ∧ t.place = p ∧ (foundT t).Perm E ∧ (placesT t).Perm L
  told : Told E R
theorem count_le_one {L : List Int} (h : L.Nodup) {x : Int} (hx : x ∈ L) : L.count x = 1 := by
  have h1 := List.nodup_iff_count.mp h x
  have h2 := List.count_pos_iff.mpr hx
  walk_at "om"
theorem stage_base {u v : Int} (h : u < v) : Stage [u, v] [] [[u, v]] := by
  have mu : matesP u [[u, v]] = [v] := by
    unfold matesP
    rw [List.filter_cons, if_pos (by simp)]
    show [u + v - u] = _
    rw [show u + v - u = v by rw [Int.add_comm]; exact Int.add_sub_cancel v u]
  have mv : matesP v [[u, v]] = [u] := by
    unfold matesP
    rw [List.filter_cons, if_pos (by simp)]
    show [u + v - v] = _
    rw [show u + v - v = u from Int.add_sub_cancel u v]
  have es : isort [u, v] = [u, v] := by
    show (if u ≤ v then [u, v] else [v, u]) = _
    rw [if_pos (by walk_at "om")]
  have es2 : isort [v, u] = [u, v] := by rw [isort_congr (List.Perm.swap u v [])]; exact es
  have one : ∀ (p q z : Int), matesP p [[u, v]] = [q] → matesP q [[u, v]] = [p] → q ≠ z → IsT [[u, v]] 2 z (.node p [.node q []]) := by
    intro p q z h1 h2 h3
    have e : RT.node p [.node q []] = .node p (((matesP p [[u, v]]).filter (· != z)).map fun _ => .node q []) := by rw [h1]; simp [h3]
    rw [e]
    refine .mk 1 z p _ (fun m hm _ => ?_) (fun m hm _ => ?_)
    · rw [h1, List.mem_singleton] at hm; exact hm.symm
    · exact leaf_is h2 0
  refine ⟨by simp; walk_at "om", fun x hx => ?_, fun x hx => by simpa using hx, fun l hl => by rw [List.mem_singleton.mp hl]; rfl, rfl, fun p hp z hz => ?_, .done (Nat.le_refl _)⟩
  · rw [show [[u, v]].flatten = [u, v] by simp]
    exact count_le_one (by simp; walk_at "om") hx
  · simp only [List.mem_cons, List.not_mem_nil, or_false, not_or] at hp hz
    rcases hp with rfl | rfl
    · refine ⟨_, one p v z mu mv (Ne.symm hz.2), rfl, ?_, ?_⟩
      · rw [foundT_eq]
        show (isort [p, v] :: (foundT (.node v []) ++ [])).Perm _
        rw [es, foundT_eq]
        exact .refl _
      · rw [placesT_eq]
        show (p :: (placesT (.node v []) ++ [])).Perm _
        rw [placesT_eq]
        exact .refl _
    · refine ⟨_, one p u z mv mu (Ne.symm hz.1), rfl, ?_, ?_⟩
      · rw [foundT_eq]
        show (isort [p, u] :: (foundT (.node u []) ++ [])).Perm _
        rw [es2, foundT_eq]
        exact .refl _
      · rw [placesT_eq]
        show (p :: (placesT (.node u []) ++ [])).Perm _
        rw [placesT_eq]
        exact .swap ..
theorem stage_step {L' R' L : List Int} {E' : List (List Int)} {a f : Int} (S : Stage L' R' E') (hL : L.Perm (a :: L')) (haL : a ∉ L') (hf : f ∈ L') (haR : a ∉ R') (hleast : ∀ x ∈ L, x ∉ f :: R' → a ≤ x) : Stage L (f :: R') (isort [a, f] :: E') := by
  have ne : a ≠ f := fun e => haL (e ▸ hf)
  have haE := S.out a haL
  have g := grow_of ne S.two haE
  have cnt2 : ∀ x, (isort [a, f]).count x = (if x = a then 1 else 0) + (if x = f then 1 else 0) := fun x => by
    rw [(isort_perm _).count_eq]
    simp only [List.count_cons, List.count_nil, beq_iff_eq, eq_comm (b := x)]
    walk_at "om"
  have nd : L.Nodup := hL.nodup_iff.mpr (List.nodup_cons.mpr ⟨haL, S.nd⟩)
  have hlen : L.length = L'.length + 1 := hL.length_eq
  have mem : ∀ {x}, x ∈ L ↔ x = a ∨ x ∈ L' := fun {x} => by rw [hL.mem_iff, List.mem_cons]
  have deg : ∀ x ∈ L, (isort [a, f] :: E').flatten.count x = 1 + (f :: R').count x := by
    intro x hx
    rw [List.flatten_cons, List.count_append, cnt2, List.count_cons]
    by_cases e : x = a
    · subst e
      rw [if_pos rfl, if_neg ne, List.count_eq_zero.mpr haE, List.count_eq_zero.mpr haR]; simp [Ne.symm ne]
    · have := S.deg x ((mem.mp hx).resolve_left e)
      rw [if_neg e, this]
      by_cases e2 : x = f
      · subst e2; simp; walk_at "om"
      · simp [e2, Ne.symm e2]
  have out : ∀ x, x ∉ L → x ∉ (isort [a, f] :: E').flatten := by
    intro x hx h
    rw [List.flatten_cons, List.mem_append] at h
    rcases h with h | h
    · rcases mem_isort2.mp h with e | e
      · exact hx (mem.mpr (.inl e))
      · exact hx (mem.mpr (.inr (e ▸ hf)))
    · exact S.out x (fun q => hx (mem.mpr (.inr q))) h
  refine ⟨nd, deg, out, fun l hl => ?_, ?_, fun p hp z hz => ?_, ?_⟩
  · rcases List.mem_cons.mp hl with e | e
    · rw [e, (isort_perm _).length_eq]; rfl
    · exact S.two l e
  · rw [List.length_cons, S.len, hlen]
  · have hza : z ≠ a := fun e => hz (mem.mpr (.inl e))
    have hzL : z ∉ L' := fun e => hz (mem.mpr (.inr e))
    by_cases e : p = a
    · subst e
      obtain ⟨t, h1, h2, h3, h4⟩ := S.tree f hf p haL
      have key : IsT (isort [p, f] :: E') L'.length p t := by
        have hnd := h4.nodup_iff.mpr S.nd
        revert h1 h2 hnd
        generalize L'.length = n
        intro h1 h2 hnd
        cases h1 with
        | mk h _ q sub hp hs =>
        have h2 : q = f := h2
        subst h2
        rw [placesT_eq, List.nodup_cons] at hnd
        have em : ((matesP q (isort [p, q] :: E')).filter (· != p)).Perm ((matesP q E').filter (· != p)) := by
          rw [g.atf]
          have := (isort_perm (p :: matesP q E')).filter (· != p)
          rw [List.filter_cons, if_neg (by simp)] at this
          exact this
        have em : (matesP q (isort [p, q] :: E')).filter (· != p) = (matesP q E').filter (· != p) := by
          refine em.eq_of_pairwise (fun a b _ _ h1 h2 => Int.le_antisymm h1 h2) ?_ ?_
          · exact (isort_sorted _).filter _
          · exact (isort_sorted _).filter _
        have hm : ∀ {m}, m ∈ matesP q (isort [p, q] :: E') → m ≠ p → m ∈ matesP q E' := fun {m} h1 h2 => by
          have : m ∈ (matesP q (isort [p, q] :: E')).filter (· != p) := List.mem_filter.mpr ⟨h1, by simpa using h2⟩
          rw [em] at this
          exact (List.mem_filter.mp this).1
        rw [← em]
        refine .mk h p q sub (fun m h1 h2 => hp m (hm h1 h2) h2) (fun m h1 h2 => ?_)
        have m1 := hm h1 h2
        refine reroot g h q (sub m) (hs m m1 h2) (by rw [hp m m1 h2]; exact h2) fun x => hnd.1 ?_
        exact List.mem_flatten.mpr ⟨_, List.mem_map_of_mem (List.mem_map_of_mem (List.mem_filter.mpr ⟨m1, by simpa using h2⟩)), x⟩
      have hfz : f ≠ z := fun e => hzL (e ▸ hf)
      refine ⟨.node p [t], ?_, rfl, ?_, ?_⟩
      · have e : RT.node p [t] = .node p (((matesP p (isort [p, f] :: E')).filter (· != z)).map fun _ => t) := by rw [g.ata]; simp [hfz]
        rw [e, hlen]
        refine .mk _ z p _ (fun m hm _ => ?_) (fun m hm _ => key)
        rw [g.ata, List.mem_singleton] at hm; rw [hm, h2]
      · rw [foundT_eq]
        show (isort [p, t.place] :: (foundT t ++ [])).Perm _
        rw [h2, List.append_nil]
        exact h3.cons _
      · rw [placesT_eq]
        show (p :: (placesT t ++ [])).Perm _
        rw [List.append_nil]
        exact (h4.cons p).trans hL.symm
    · have hp' := (mem.mp hp).resolve_left e
      obtain ⟨t, h1, h2, h3, h4⟩ := S.tree p hp' z hzL
      obtain ⟨t', q1, q2, q3, q4⟩ := grow g _ z t h1 (by rw [h2]; exact e) hza
      have c1 : (placesT t).count f = 1 := by rw [h4.count_eq]; exact count_le_one S.nd hf
      refine ⟨t', hlen ▸ q1, q2.trans h2, List.perm_iff_count.mpr fun l => ?_, List.perm_iff_count.mpr fun x => ?_⟩
      · rw [q3, c1, h3.count_eq, List.count_cons, Nat.one_mul]
        by_cases e3 : l = isort [a, f]
        · simp [e3]
        · simp [e3, Ne.symm e3]
      · rw [q4, c1, h4.count_eq, hL.count_eq, List.count_cons, Nat.one_mul]
        by_cases e3 : x = a
        · simp [e3]
        · simp [e3, Ne.symm e3]
  · refine .step (a := a) ?_ ⟨?_, fun x hx => ?_⟩ (by rw [g.ata]; rfl) ?_
    · have := S.len
      have := List.length_pos_of_mem hf
      rw [List.length_cons]
      have : 1 < L'.length := by
        have h := S.deg f hf
        cases E' with
        | nil => rw [List.flatten_nil, List.count_nil] at h; walk_at "om"
        | cons l r => simp only [List.length_cons] at this ⊢; have := S.len; simp only [List.length_cons] at this; walk_at "om"
      walk_at "om"
    · rw [leaves, List.mem_filter]
      refine ⟨List.mem_flatten.mpr ⟨_, List.mem_cons_self, mem_isort2.mpr (.inl rfl)⟩, ?_⟩
      rw [deg a (mem.mpr (.inl rfl)), List.count_eq_zero.mpr (by simp [ne, haR])]; rfl
    · rw [leaves, List.mem_filter] at hx
      have hxL : x ∈ L := Classical.byContradiction fun q => out x q hx.1
      refine hleast x hxL fun q => ?_
      have h1 : (isort [a, f] :: E').flatten.count x = 1 := by
        have := hx.2
        simp only [beq_iff_eq] at this
        walk_at "om"
      rw [deg x hxL] at h1
      have := List.count_pos_iff.mpr q
      walk_at "om"
    · have e : (isort [a, f] :: E').filter (fun l => !l.contains a) = E' := by
        rw [List.filter_cons, if_neg (by simpa using mem_isort2.mpr (.inl rfl))]
        exact filter_all fun l hl => by
          have : a ∉ l := fun q => haE (List.mem_flatten.mpr ⟨l, hl, q⟩)
          simpa using this
      rw [e]; exact S.told
end Mine

end
section
set_option Elab.async false
set_option linter.unusedVariables false
namespace Mine
theorem nodup_len : ∀ {L R : List Int}, L.Nodup → (∀ x ∈ L, x ∈ R) → L.length ≤ R.length
  | [], R, _, _ => Nat.zero_le _
  | x :: L, R, hn, h => by
    obtain ⟨h1, h2⟩ := List.nodup_cons.mp hn
    have hx := h x List.mem_cons_self
    have := nodup_len h2 (R := R.erase x) fun y hy => (List.mem_erase_of_ne (fun e : y = x => h1 (e ▸ hy))).mpr (h y (List.mem_cons_of_mem _ hy))
    rw [List.length_erase_of_mem hx] at this
    have := List.length_pos_of_mem hx
    simp only [List.length_cons]; walk_at "om"
theorem dropW {x : Int} {xs : List Int} (h : ∀ z ∈ xs, x < z) : xs.dropWhile (· == x) = xs := by
  cases xs with
  | nil => rfl
  | cons z r =>
    have := h z List.mem_cons_self
    rw [List.dropWhile_cons, if_neg (by simp; walk_at "om")]
theorem sld_sub : ∀ (xs ys : List Int), xs.Pairwise (· < ·) → ys.Pairwise (· ≤ ·) → (∀ y ∈ ys, y ∈ xs) → (∀ x ∈ xs, 0 ≤ x) → sld xs ys = (xs.filter (fun x => !ys.contains x), [])
  | [], ys, _, _, h, _ => by
    obtain rfl : ys = [] := List.eq_nil_iff_forall_not_mem.mpr fun y hy => nomatch h y hy
    rw [sld_nil]; rfl
  | x :: xs, [], _, _, _, _ => by
    rw [sld_nil', filter_all]
    intro z _; rfl
  | x :: xs, y :: ys, hx, hy, h, h0 => by
    obtain ⟨x1, x2⟩ := List.pairwise_cons.mp hx
    obtain ⟨y1, y2⟩ := List.pairwise_cons.mp hy
    have hle : ∀ z ∈ x :: xs, x ≤ z := fun z hz => (List.mem_cons.mp hz).elim (fun e => by rw [e]; exact Int.le_refl _) fun e => Int.le_of_lt (x1 z e)
    have hxy := hle y (h y List.mem_cons_self)
    have hge : ∀ z ∈ y :: ys, y ≤ z := fun z hz => (List.mem_cons.mp hz).elim (fun e => by rw [e]; exact Int.le_refl _) fun e => y1 z e
    have h0' : ∀ z ∈ xs, 0 ≤ z := fun z hz => h0 z (List.mem_cons_of_mem _ hz)
    have hx0 := h0 x List.mem_cons_self
    by_cases q : x < y
    · have hn : x ∉ y :: ys := fun hz => by have := hge x hz; walk_at "om"
      rw [sld_lt q, dropW x1, sld_sub xs (y :: ys) x2 hy (fun z hz => (List.mem_cons.mp (h z hz)).resolve_left fun e => hn (e ▸ hz)) h0', List.filter_cons, if_pos (by simpa using hn)]
    · obtain rfl : x = y := by walk_at "om"
      have hk : x = ((x.toNat : Nat) : Int) := by walk_at "om"
      obtain ⟨a, b, c, _⟩ := drop_above (k := x.toNat) y2 fun z hz => by have := y1 z hz; walk_at "om"
      rw [← hk] at a b c
      have hd : ∀ z, z ∈ ys.dropWhile (· == x) → z ∈ ys ∧ x < z := fun z hz => by
        have h1 := a z hz
        have h1 : x < z := by walk_at "om"
        exact ⟨(c z h1).mp hz, h1⟩
      rw [sld_eq rfl, dropW x1, sld_sub xs (ys.dropWhile (· == x)) x2 b (fun z hz => (List.mem_cons.mp (h z (List.mem_cons_of_mem _ (hd z hz).1))).resolve_left fun e => by have := (hd z hz).2; walk_at "om") h0', List.filter_cons, if_neg (by simp)]
      congr 1
      refine List.filter_congr fun z hz => ?_
      have h1 := x1 z hz
      have h2 := c z h1
      have h3 : z ≠ x := by walk_at "om"
      rw [Bool.eq_iff_iff]
      simp [h2, h3]
structure LeftOk (n i : Nat) (fs : List Int) (L : List Int) : Prop where
  sorted : L.Pairwise (· < ·)
  rng : ∀ x ∈ L, 0 ≤ x ∧ x < (n : Int)
  len : L.length + i = n
  sub : ∀ f ∈ fs.drop i, f ∈ L
theorem LeftOk.nodup {n i : Nat} {fs L : List Int} (h : LeftOk n i fs L) : L.Nodup := h.sorted.imp fun h e => by walk_at "om"
inductive FreeOk (L R : List Int) : Prop
  | mk (a : Int) (r : List Int) : freeP L R = a :: r → a ∈ L → a ∉ R → (∀ x ∈ L, x ∉ R → a ≤ x) → FreeOk L R
theorem free_ok {n i : Nat} {fs L : List Int} (h : LeftOk n i fs L) (hn : n = fs.length + 2) (hi : i ≤ fs.length) : FreeOk L (fs.drop i) := by
  cases e : freeP L (fs.drop i) with
  | nil =>
    exfalso
    have h1 := nodup_len h.nodup (R := fs.drop i) fun x hx => Classical.byContradiction fun q => by
      have : x ∈ freeP L (fs.drop i) := List.mem_filter.mpr ⟨hx, by simpa using q⟩
      rw [e] at this; cases this
    rw [List.length_drop] at h1
    have h2 := Nat.add_le_add_right h1 i
    rw [h.len, Nat.sub_add_cancel hi, hn] at h2
    exact absurd h2 (Nat.not_le_of_lt (Nat.lt_add_of_pos_right (by decide)))
  | cons a r =>
    have hm : a ∈ freeP L (fs.drop i) := by rw [e]; exact List.mem_cons_self
    obtain ⟨m1, m2⟩ := List.mem_filter.mp hm
    refine ⟨a, r, e, m1, by simpa using m2, fun x hx hxR => ?_⟩
    have hs : (freeP L (fs.drop i)).Pairwise (· < ·) := h.sorted.filter _
    have hxm : x ∈ freeP L (fs.drop i) := List.mem_filter.mpr ⟨hx, by simpa using hxR⟩
    rw [e] at hs hxm
    rcases List.mem_cons.mp hxm with q | q
    · rw [q]; exact Int.le_refl _
    · exact Int.le_of_lt ((List.pairwise_cons.mp hs).1 x q)
theorem less_perm {L : List Int} {a : Int} (hn : L.Nodup) (ha : a ∈ L) : L.Perm (a :: L.filter (· != a)) := by
  have := List.perm_cons_erase ha
  rw [hn.erase_eq_filter] at this
  exact this
theorem leftAt_succ {n i : Nat} {fs : List Int} {a : Int} {r : List Int} (e : freeP (leftAt n fs i) (fs.drop i) = a :: r) : leftAt n fs (i + 1) = (leftAt n fs i).filter (· != a) := by rw [leftAt, e]; rfl
theorem left_ok {n : Nat} {fs : List Int} (hr : ∀ f ∈ fs, 0 ≤ f ∧ f < (n : Int)) (hn : n = fs.length + 2) : ∀ i, i ≤ fs.length → LeftOk n i fs (leftAt n fs i)
  | 0, _ => by
    have e : leftAt n fs 0 = lad 0 n := lad_upTo n
    rw [e]
    refine ⟨?_, fun x hx => ?_, ?_, fun f hf => ?_⟩
    · unfold lad
      exact List.pairwise_map.mpr (List.Pairwise.imp (R := fun a b : Nat => a < b) (fun h => by walk_at "om") List.pairwise_lt_range')
    · have := mem_lad.mp hx; walk_at "om"
    · simp [lad]
    · have := hr f hf
      exact mem_lad.mpr (by walk_at "om")
  | i + 1, hi => by
    have h := left_ok hr hn i (Nat.le_of_succ_le hi)
    obtain ⟨a, r, e, m1, m2, m3⟩ := free_ok h hn (Nat.le_of_succ_le hi)
    rw [leftAt_succ e]
    refine ⟨h.sorted.filter _, fun x hx => h.rng x (List.mem_filter.mp hx).1, ?_, fun f hf => ?_⟩
    · have := (less_perm h.nodup m1).length_eq
      rw [List.length_cons] at this
      exact (show _ + (i + 1) = _ + 1 + i by rw [Nat.add_assoc, Nat.add_comm 1 i]).trans ((congrArg (· + i) this.symm).trans h.len)
    · have hf' : f ∈ fs.drop i := by
        rw [← List.drop_drop] at hf
        exact List.mem_of_mem_drop hf
      exact List.mem_filter.mpr ⟨h.sub f hf', by simpa using fun q : f = a => m2 (q ▸ hf')⟩
theorem drop_getD {fs : List Int} {i : Nat} (h : i < fs.length) : fs.drop i = fs.getD i 0 :: fs.drop (i + 1) := by
  rw [List.drop_eq_getElem_cons h]; simp [h]
theorem stages {n : Nat} {fs : List Int} (hr : ∀ f ∈ fs, 0 ≤ f ∧ f < (n : Int)) (hn : n = fs.length + 2) : ∀ j, j ≤ fs.length → Stage (leftAt n fs (fs.length - j)) (fs.drop (fs.length - j)) ((List.range' (fs.length - j) j).map (tieAt n fs) ++ [leftAt n fs fs.length])
  | 0, _ => by
    have h := left_ok hr hn fs.length (Nat.le_refl _)
    have hlen : (leftAt n fs fs.length).length = 2 := Nat.add_right_cancel (h.len.trans (hn.trans (Nat.add_comm _ _)))
    have hs := h.sorted
    rw [Nat.sub_zero, List.drop_length]
    show Stage _ _ [leftAt n fs fs.length]
    generalize leftAt n fs fs.length = L at *
    match L, hlen with
    | [u, v], _ => exact stage_base ((List.pairwise_cons.mp hs).1 v List.mem_cons_self)
  | j + 1, hj => by
    have S := stages hr hn j (Nat.le_of_succ_le hj)
    obtain ⟨i, hi⟩ : ∃ i, fs.length - (j + 1) = i := ⟨_, rfl⟩
    have hi1 : fs.length - j = i + 1 := sub_up hi hj
    have hil : i < fs.length := lt_up hi1
    rw [hi1] at S
    rw [hi]
    have h := left_ok hr hn i (Nat.le_of_lt hil)
    have h' := left_ok hr hn (i + 1) hil
    obtain ⟨a, r, e, m1, m2, m3⟩ := free_ok h hn (Nat.le_of_lt hil)
    have es := leftAt_succ e
    have et : tieAt n fs i = isort [a, fs.getD i 0] := by rw [tieAt, e]; rfl
    rw [List.range'_succ, List.map_cons, List.cons_append, et, drop_getD hil]
    rw [drop_getD hil] at m2 m3
    rw [List.mem_cons, not_or] at m2
    refine stage_step S ?_ ?_ ?_ m2.2 m3
    · rw [es]; exact less_perm h.nodup m1
    · rw [es]; exact fun q => by have := (List.mem_filter.mp q).2; simp at this
    · rw [es]
      exact List.mem_filter.mpr ⟨h.sub _ (by rw [drop_getD hil]; exact List.mem_cons_self), by simpa using Ne.symm m2.1⟩
theorem stage_all {n : Nat} {fs : List Int} (hr : ∀ f ∈ fs, 0 ≤ f ∧ f < (n : Int)) (hn : n = fs.length + 2) : Stage (upTo n) fs (tiesAt n fs fs.length ++ [leftAt n fs fs.length]) := by
  have := stages hr hn fs.length (Nat.le_refl _)
  rw [Nat.sub_self] at this
  rw [tiesAt, List.range_eq_range']
  exact this
theorem tied_ok {n : Nat} {fs : List Int} (hr : ∀ f ∈ fs, 0 ≤ f ∧ f < (n : Int)) (hn : n = fs.length + 2) : TiedOk n fs := by
  refine ⟨fun i hi => ?_, fun i hi => ?_, fun i hi => ?_, ?_⟩
  · obtain ⟨a, r, e, _⟩ := free_ok (left_ok hr hn i (Nat.le_of_lt hi)) hn (Nat.le_of_lt hi)
    rw [e]; exact Nat.succ_pos _
  · have h := left_ok hr hn i (Nat.le_of_lt hi)
    rw [sld_sub _ _ h.sorted (isort_sorted _) (fun y hy => h.sub y ((isort_perm _).mem_iff.mp hy)) (fun x hx => (h.rng x hx).1), freeP]
    congr 1
    refine List.filter_congr fun z _ => ?_
    have := (isort_perm (fs.drop i)).mem_iff (a := z)
    rw [Bool.eq_iff_iff]
    simp [this]
  · have h := left_ok hr hn i (Nat.le_of_lt hi)
    obtain ⟨a, r, e, m1, _⟩ := free_ok h hn (Nat.le_of_lt hi)
    rw [leftAt_succ e, e]
    show sld _ [a] = _
    rw [sld_sub _ _ h.sorted (List.pairwise_singleton _ _) (fun y hy => by rw [List.mem_singleton.mp hy]; exact m1) (fun x hx => (h.rng x hx).1)]
    congr 1
    refine List.filter_congr fun z _ => ?_
    rw [Bool.eq_iff_iff]
    simp
  · have h := (left_ok hr hn fs.length (Nat.le_refl _)).len
    exact Nat.add_right_cancel (h.trans (hn.trans (Nat.add_comm _ _)))
theorem tied_perm {n : Nat} {fs : List Int} : (tiedP n fs).Perm (tiesAt n fs fs.length ++ [leftAt n fs fs.length]) := sortL_perm _ (by simp)
end Mine

end
section
open PySem PySem.W PyProof.Rows PySem.Calls
set_option Elab.async false
set_option maxRecDepth 100000
set_option maxHeartbeats 0
set_option linter.unusedVariables false
namespace Mine
structure HungOk (ties : List (List Int)) (fs : List Int) (p : Int) (t : RT) : Prop where
  place : t.place = p
  is : IsT ties 10 (-1) t
  line : LineOk t
  reads : ReadsT lineT 10 t
  size : sizeT t = (((lineT t).length : Int), (((lineT t).count 39 : Nat) : Int))
  len : (foundT t).length = ties.length
  two : ∀ l ∈ foundT t, l.length = 2
  told : Told (foundT t) fs
  short : (lineT t).length < 1000000
theorem k_w7 {w : World} : (nsIn (Mine.K1 w.params) mainGlobals "_law_told" = some (some (.ref 822)) ∧ isDef (Mine.K1 w.params) 822 = true) := by
  refine (?_ : PySem.Challenge.rw_oc0261_02 = PySem.Challenge.rw_oc0261_02 → (Mine.K1 w.params) = (Mine.K1 w.params) → _) rfl rfl
  k_fill
  intro _ _
  exact ⟨by k_is, isDef_of (by k_is)⟩
theorem str_ap : Str.ofString "'" = sC [39] := by decide +kernel
theorem cnt_count : ∀ l : List Nat, cnt 39 l = ((l.count 39 : Nat) : Int)
  | [] => rfl
  | n :: r => by
    rw [cnt_cons, cnt_count r, List.count_cons]
    by_cases h : n = 39
    · simp [h]; walk_at "om"
    · simp [h]
theorem count_sC (l : List Nat) : Txt.count (sC l) (Str.ofString "'") = (((l.count 39 : Nat)) : Int) := by
  rw [str_ap]
  show Txt.count (sC l) ⟨#[39]⟩ = _
  rw [count_cnt]
  show cnt 39 l.toArray.toList = _
  rw [List.toList_toArray, cnt_count]
theorem ok_pairI (a b : Int) : kqdOk 9 (.tuple [.int a, .int b]) = true := by simp [kqdOk]
theorem d_hung {w : World} {ties : List (List Int)} {fs : List Int} {p : Int} {t : RT} (hl : ties.length < 60) (h2 : ∀ l ∈ ties, l.length = 2) (hf : fs.length ≤ 100) (H : HungOk ties fs p t) :
    DFunP PW w (Mine.K1 w.params) PJ 829 (100 + 1) (740 + 8) [.int p, .list (gD ties), lD fs] (.bool true) := by
  obtain ⟨rfl, hi, hline, hr, hsz, hlen, htwo, htold, hsh⟩ := H
  refine (?_ : PySem.Challenge.rw_oc0261_02 = PySem.Challenge.rw_oc0261_02 → (Mine.K1 w.params) = (Mine.K1 w.params) → _) rfl rfl
  k_fill
  intro _ _
  refine dfunP_of (ps := ["place", "ties", "figures"]) (by k_is) (by k_is) rfl (fun vs hl s _ => ?_) (by decide) (by decide) (by decide) rfl rfl rfl ?_
  · cases vs with
    | nil => cases hl
    | cons v r =>
      cases r with
      | nil => cases hl
      | cons v2 r =>
        cases r with
        | nil => cases hl
        | cons v3 r =>
          cases r with
          | nil => exact BindsTo.of_eq rfl
          | cons _ _ => cases hl
  intro c hdp hun _ _
  have hu64 : c.A.units + 64 < cLine := by show c.un + 64 < _; walk_at "om"
  refine PEx.assign (d := .str (sC (lineT t))) (EvP.callP (EvLP.cons (EvP.of (Ev.name rfl)) (EvLP.cons (EvP.of (Ev.neg Ev.cInt)) (EvLP.cons (EvP.of (Ev.name rfl)) EvLP.nil))) (d_line (by walk_at "om") h2 10 (-1) t hi hline) rfl k_w6.1.1 k_w6.1.2 (by walk_at "om") (by walk_at "om")) (.inl rfl) ?_
  refine PEx.ite (b := !true) (Tst.cmp (Ev.tuple (EvL.cons (Ev.lenStr (Ev.name rfl) (by rw [sC_len]; walk_at "om") k_tops.1) (EvL.cons (Ev.countStr (Ev.name rfl) Ev.cStr) EvL.nil)) two_le).b (Ev.call (EvL.cons (Ev.name rfl) (EvL.cons (Ev.neg Ev.cInt) (EvL.cons (Ev.name rfl) EvL.nil))) (d_size (by walk_at "om") h2 10 (-1) t hi) rfl k_w4.1 k_w4.2 (by walk_at "om") (by walk_at "om")).b (CmpR.ne (b := true) (ok_pairI _ _) (ok_pairI _ _) hu64 ?_)) (fun q => nomatch q) fun _ => ?_
  · rw [hsz, count_sC, sC_len]; simp
  refine PEx.cons (Ex1.assignTup2 (d1 := .int t.place) (d2 := .list (gD (foundT t))) (Ev.call (EvL.cons (Ev.name rfl) EvL.nil) (d_readT 10 t hr) rfl k_w5.1.1 k_w5.1.2 (by walk_at "om") (by walk_at "om")) (.inl rfl) (.inl rfl)) ?_
  refine PEx.ret (EvP.of (Ev.and3 (Ev.cast (Ev.cmp (Ev.name rfl).b (Ev.name rfl).b CmpR.eqInt) (by simp)) (Ev.cast (Ev.cmp (Ev.len (Ev.name rfl).b (by rw [List.length_map]; walk_at "om") k_tops.1).b (Ev.len (Ev.name rfl).b (by rw [List.length_map]; walk_at "om") k_tops.1).b CmpR.eqInt) ?_) (Ev.cmp (b := true) (Ev.call (EvL.cons (Ev.name rfl) EvL.nil) (d_toldF (by walk_at "om") htwo htold hf) rfl k_w7.1 k_w7.2 (by walk_at "om") (by walk_at "om")).b (Ev.name rfl).b (CmpR.eq (ok_lD 8 _) (ok_lD 8 _) hu64 (by simp)))))
  rw [List.length_map, List.length_map, hlen]; simp
end Mine

end
section
set_option Elab.async false
set_option linter.unusedVariables false
namespace Mine
theorem joinC_cons : ∀ (r : List (List Nat)) (x : List Nat), joinC (x :: r) = x ++ (r.map fun y => 32 :: y).flatten
  | [], x => by simp [joinC]
  | y :: r, x => by rw [joinC, joinC_cons r y]; simp
noncomputable def szC (l : List Nat) : Int × Int := ((l.length : Int), ((l.count 39 : Nat) : Int))
theorem repl_sz : ∀ l : List Nat, (repl 39 DQ l).length = l.length + 4 * l.count 39 ∧ (repl 39 DQ l).count 39 = 3 * l.count 39
  | [] => by simp [repl]
  | c :: r => by
    obtain ⟨h1, h2⟩ := repl_sz r
    have e : repl 39 DQ (c :: r) = (if c = 39 then DQ else [c]) ++ repl 39 DQ r := by simp [repl]
    rw [e, List.length_append, List.count_append, h1, h2, List.count_cons, List.length_cons]
    by_cases h : c = 39
    · have q1 : DQ.length = 5 := rfl
      have q2 : DQ.count 39 = 3 := rfl
      subst h
      simp only [if_true, q1, q2, beq_self_eq_true]; walk_at "om"
    · simp [h]; walk_at "om"
structure Sound (l : List Nat) : Prop where
  pos : 0 < l.length
  one : l.length = 1 → ∀ c ∈ l, c ∈ SAFE
  more : 1 < l.length → ∃ c, c ∈ l ∧ c ∉ SAFE
theorem quote_sz {l : List Nat} (h : Sound l) : szC (quoteC l) = grown (szC l) := by
  have hne : l ≠ [] := fun e => by have := h.pos; rw [e] at this; exact Nat.lt_irrefl 0 this
  unfold quoteC
  rw [if_neg hne]
  by_cases q : 1 < l.length
  · obtain ⟨c, c1, c2⟩ := h.more q
    rw [if_neg (fun e => c2 (by simpa using List.all_eq_true.mp e c c1))]
    obtain ⟨r1, r2⟩ := repl_sz l
    have e1 : (39 :: repl 39 DQ l ++ [39]).length = l.length + 4 * l.count 39 + 2 := by simp [r1]
    have e2 : (39 :: repl 39 DQ l ++ [39]).count 39 = 3 * l.count 39 + 2 := by simp [List.count_cons, List.count_append, r2]
    unfold szC grown
    rw [e1, e2, if_pos (by show 1 < (l.length : Int); walk_at "om")]
    ext
    · show ((l.length + 4 * l.count 39 + 2 : Nat) : Int) = (l.length : Int) + 4 * ((l.count 39 : Nat) : Int) + 2; walk_at "om"
    · show ((3 * l.count 39 + 2 : Nat) : Int) = 3 * ((l.count 39 : Nat) : Int) + 2; walk_at "om"
  · have hl : l.length = 1 := by have := h.pos; walk_at "om"
    rw [if_pos (List.all_eq_true.mpr fun c hc => by simpa using h.one hl c hc)]
    unfold grown
    rw [if_neg (by show ¬ 1 < (l.length : Int); walk_at "om")]
theorem lineT_app (p : Int) (kids : List RT) : lineT (.node p kids) = quoteC (nameC p) ++ (kids.map fun k => 32 :: quoteC (lineT k)).flatten := by
  rw [lineT_eq, List.map_cons, joinC_cons, List.map_map, List.map_map]; rfl
theorem name_q : ∀ p : Fin 7, szC (quoteC (nameC ((p : Nat) : Int))) = begun ((p : Nat) : Int) ∧ 0 < (quoteC (nameC ((p : Nat) : Int))).length ∧ (quoteC (nameC ((p : Nat) : Int))).length ≤ 2 ∧ ((quoteC (nameC ((p : Nat) : Int))).length = 1 → ∀ c ∈ quoteC (nameC ((p : Nat) : Int)), c ∈ SAFE) ∧ (1 < (quoteC (nameC ((p : Nat) : Int))).length → 39 ∈ quoteC (nameC ((p : Nat) : Int))) := by decide +kernel
theorem kid_in {p : Int} {kids : List RT} {k : RT} (hk : k ∈ kids) {x : Int} (hx : x ∈ placesT k) : x ∈ placesT (.node p kids) := by
  rw [placesT_eq]
  exact List.mem_cons_of_mem _ (List.mem_flatten.mpr ⟨_, List.mem_map_of_mem hk, hx⟩)
theorem kid_len {kids : List RT} {k : RT} (hk : k ∈ kids) : (placesT k).length ≤ (kids.map placesT).flatten.length := (List.sublist_flatten_of_mem (List.mem_map_of_mem hk)).length_le
theorem places_pos (t : RT) : 0 < (placesT t).length := by
  cases t with
  | node p kids => rw [placesT_eq]; exact Nat.succ_pos _
theorem kids_len : ∀ kids : List RT, kids.length ≤ (kids.map placesT).flatten.length
  | [] => Nat.le_refl _
  | k :: r => by
    have := kids_len r
    have := places_pos k
    rw [List.map_cons, List.flatten_cons, List.length_append, List.length_cons]; walk_at "om"
theorem sound_line {p : Int} {kids : List RT} (h : 0 ≤ p ∧ p < 7) : Sound (lineT (.node p kids)) := by
  obtain ⟨q, rfl⟩ := fin_of h
  obtain ⟨_, n1, _, n3, n4⟩ := name_q q
  rw [lineT_app]
  have s39 : (39 : Nat) ∉ SAFE := by decide
  have s32 : (32 : Nat) ∉ SAFE := by decide
  cases kids with
  | nil =>
    rw [List.map_nil, List.flatten_nil, List.append_nil]
    exact ⟨n1, n3, fun hh => ⟨39, n4 hh, s39⟩⟩
  | cons k r =>
    rw [List.map_cons, List.flatten_cons, List.cons_append]
    refine ⟨?_, fun hh => ?_, fun _ => ⟨32, by simp, s32⟩⟩
    · rw [List.length_append, List.length_cons]; walk_at "om"
    · rw [List.length_append, List.length_cons] at hh; walk_at "om"
theorem sizeTs_line : ∀ (kids : List RT) (l : List Nat), (∀ k ∈ kids, sizeT k = szC (lineT k) ∧ Sound (lineT k)) → sizeTs kids (szC l) = szC (l ++ (kids.map fun k => 32 :: quoteC (lineT k)).flatten)
  | [], l, _ => by rw [sizeTs]; simp
  | k :: r, l, h => by
    obtain ⟨h1, h2⟩ := h k List.mem_cons_self
    have e : (((szC l).1 + ((grown (sizeT k)).1 + 1), (szC l).2 + (grown (sizeT k)).2) : Int × Int) = szC (l ++ 32 :: quoteC (lineT k)) := by
      rw [h1, ← quote_sz h2]
      unfold szC
      ext
      · show (l.length : Int) + (((quoteC (lineT k)).length : Int) + 1) = _
        rw [List.length_append, List.length_cons]; walk_at "om"
      · show ((l.count 39 : Nat) : Int) + (((quoteC (lineT k)).count 39 : Nat) : Int) = _
        rw [List.count_append, List.count_cons_of_ne (by decide)]; walk_at "om"
    rw [sizeTs, e, sizeTs_line r _ fun k hk => h k (List.mem_cons_of_mem _ hk)]
    rw [List.map_cons, List.flatten_cons, List.append_assoc]
theorem size_line (t : RT) : (∀ x ∈ placesT t, 0 ≤ x ∧ x < 7) → sizeT t = szC (lineT t) ∧ Sound (lineT t) := by
  induction t using RT.ind with
  | h p kids ih =>
    intro hr
    have hp := hr p (by rw [placesT_eq]; exact List.mem_cons_self)
    refine ⟨?_, sound_line hp⟩
    obtain ⟨q, rfl⟩ := fin_of hp
    rw [sizeT, ← (name_q q).1, sizeTs_line kids _ fun k hk => ih k hk fun x hx => hr x (kid_in hk hx), lineT_app]
theorem line_in (t : RT) : (∀ x ∈ placesT t, 0 ≤ x ∧ x < 7) → ∀ c ∈ lineT t, c ∈ SAFE ∨ c ∈ UNS := by
  induction t using RT.ind with
  | h p kids ih =>
    intro hr
    have hp := hr p (by rw [placesT_eq]; exact List.mem_cons_self)
    obtain ⟨q, rfl⟩ := fin_of hp
    rw [lineT_eq]
    refine join_in fun w hw => ?_
    obtain ⟨l, hl, rfl⟩ := List.mem_map.mp hw
    rcases List.mem_cons.mp hl with rfl | hl
    · exact quote_in (name_safe q)
    · obtain ⟨k, hk, rfl⟩ := List.mem_map.mp hl
      exact quote_in (ih k hk fun x hx => hr x (kid_in hk hx))
theorem lines_len : ∀ kids : List RT, (∀ k ∈ kids, 2 * ((lineT k).length + 1) ≤ 6 ^ (placesT k).length) → 2 * (kids.map fun k => 32 :: quoteC (lineT k)).flatten.length + 6 ≤ 6 * 6 ^ (kids.map placesT).flatten.length
  | [], _ => by simp
  | k :: r, h => by
    have h1 := h k List.mem_cons_self
    have h2 := lines_len r fun k hk => h k (List.mem_cons_of_mem _ hk)
    have h3 := quoteC_len (lineT k)
    rw [List.map_cons, List.map_cons, List.flatten_cons, List.flatten_cons, List.length_append, List.length_append, List.length_cons, Nat.pow_add]
    generalize 6 ^ (r.map placesT).flatten.length = X at *
    have hX : 1 ≤ X := by walk_at "om"
    have hy : 6 ≤ 6 ^ (placesT k).length := Nat.le_trans (by decide) (Nat.pow_le_pow_right (by decide) (places_pos k))
    obtain ⟨y, hy2⟩ : ∃ y, 6 ^ (placesT k).length = y + 1 := ⟨6 ^ (placesT k).length - 1, by walk_at "om"⟩
    rw [hy2] at h1 hy ⊢
    have := Nat.mul_le_mul_left y hX
    rw [Nat.add_mul]
    walk_at "om"
theorem line_len (t : RT) : (∀ x ∈ placesT t, 0 ≤ x ∧ x < 7) → 2 * ((lineT t).length + 1) ≤ 6 ^ (placesT t).length := by
  induction t using RT.ind with
  | h p kids ih =>
    intro hr
    have hp := hr p (by rw [placesT_eq]; exact List.mem_cons_self)
    obtain ⟨q, rfl⟩ := fin_of hp
    have h1 := lines_len kids fun k hk => ih k hk fun x hx => hr x (kid_in hk hx)
    have h2 := (name_q q).2.2.1
    rw [lineT_app, placesT_eq, List.length_append, List.length_cons, Nat.pow_succ, Nat.mul_comm _ 6]
    walk_at "om"
theorem found_lens (p : Int) : ∀ kids : List RT, (∀ k ∈ kids, (foundT k).length + 1 = (placesT k).length) → (foundTs p kids).length = (kids.map placesT).flatten.length
  | [], _ => rfl
  | k :: r, h => by
    have h1 := h k List.mem_cons_self
    have h2 := found_lens p r fun k hk => h k (List.mem_cons_of_mem _ hk)
    unfold foundTs at h2 ⊢
    rw [List.map_cons, List.map_cons, List.flatten_cons, List.flatten_cons, List.length_append, List.length_append, List.length_cons, h2]; walk_at "om"
theorem found_len (t : RT) : (foundT t).length + 1 = (placesT t).length := by
  induction t using RT.ind with
  | h p kids ih => rw [foundT_eq, placesT_eq, List.length_cons, found_lens p kids ih]
theorem line_ok (t : RT) : (∀ x ∈ placesT t, 0 ≤ x ∧ x < 7) → (placesT t).length ≤ 7 → LineOk t := by
  induction t using RT.ind with
  | h p kids ih =>
    intro hr hl
    have hp := hr p (by rw [placesT_eq]; exact List.mem_cons_self)
    rw [placesT_eq, List.length_cons] at hl
    have hk : ∀ k ∈ kids, (∀ x ∈ placesT k, 0 ≤ x ∧ x < 7) ∧ (placesT k).length ≤ 6 := fun k hk => ⟨fun x hx => hr x (kid_in hk hx), by have := kid_len hk; walk_at "om"⟩
    refine .mk p kids hp.1 hp.2 (by have := kids_len kids; walk_at "om") (fun k hk' => ⟨?_, line_in k (hk k hk').1⟩) (fun k hk' => ih k hk' (hk k hk').1 (by have := (hk k hk').2; walk_at "om"))
    have h1 := line_len k (hk k hk').1
    have h2 : 6 ^ (placesT k).length ≤ 6 ^ 6 := Nat.pow_le_pow_right (by decide) (hk k hk').2
    have h3 : (6 : Nat) ^ 6 = 46656 := by decide
    walk_at "om"
theorem reads_ok : ∀ (h : Nat) (t : RT), h ≤ 7 → (∀ x ∈ placesT t, 0 ≤ x ∧ x < 7) → (placesT t).length ≤ h → ReadsT lineT h t
  | 0, t, _, _, hl => by have := places_pos t; walk_at "om"
  | h + 1, .node p kids, hh, hr, hl => by
    have hp := hr p (by rw [placesT_eq]; exact List.mem_cons_self)
    obtain ⟨q, rfl⟩ := fin_of hp
    have h1 := line_len (.node ((q : Nat) : Int) kids) hr
    have h2 : 6 ^ (placesT (.node ((q : Nat) : Int) kids)).length ≤ 6 ^ 7 := Nat.pow_le_pow_right (by decide) (by walk_at "om")
    have h3 : (6 : Nat) ^ 7 = 279936 := by decide
    have hf := found_lens ((q : Nat) : Int) kids fun k _ => found_len k
    have hk := kids_len kids
    rw [placesT_eq, List.length_cons] at hl
    refine .mk h _ kids ((nameC ((q : Nat) : Int) :: kids.map lineT).length + 1) hp.1 hp.2 (by walk_at "om") (by walk_at "om") (by walk_at "om") ?_ fun k hk => reads_ok h k (by walk_at "om") (fun x hx => hr x (kid_in hk hx)) (by have := kid_len hk; walk_at "om")
    rw [lineT_eq]
    refine toks_join _ fun w hw => ?_
    rcases List.mem_cons.mp hw with rfl | hw
    · exact name_safe q
    · obtain ⟨k, hk, rfl⟩ := List.mem_map.mp hw
      exact line_in k fun x hx => hr x (kid_in hk hx)
theorem reads_up {line : RT → List Nat} : ∀ {h : Nat} {t : RT}, ReadsT line h t → ReadsT line (h + 1) t := by
  intro h
  induction h with
  | zero => intro t ht; cases ht
  | succ h ih =>
    intro t ht
    cases ht with
    | mk _ p kids n a b c d e f g => exact .mk _ p kids n a b c d e f fun k hk => ih (g k hk)
theorem hung_ok {n : Nat} {fs : List Int} {p : Int} (h7 : n ≤ 7) (hr : ∀ f ∈ fs, 0 ≤ f ∧ f < (n : Int)) (hn : n = fs.length + 2) (hp : 0 ≤ p ∧ p < (n : Int)) : ∃ t, HungOk (tiedP n fs) fs p t := by
  have S := stage_all hr hn
  have L := left_ok hr hn 0 (Nat.zero_le _)
  have hl : (upTo n).length = n := L.len
  have hin : ∀ x, x ∈ upTo n ↔ 0 ≤ x ∧ x < (n : Int) := fun x => by rw [lad_upTo, mem_lad]; walk_at "om"
  obtain ⟨t, h1, h2, h3, h4⟩ := S.tree p ((hin p).mpr hp) (-1) (fun q => by have := (hin _).mp q; walk_at "om")
  have hrt : ∀ x ∈ placesT t, 0 ≤ x ∧ x < 7 := fun x hx => by have := (hin x).mp (h4.mem_iff.mp hx); walk_at "om"
  have hlt : (placesT t).length ≤ 7 := by rw [h4.length_eq, hl]; exact h7
  have P := tied_perm (n := n) (fs := fs)
  have h1 : IsT (tiedP n fs) 10 (-1) t := isT_le (by walk_at "om") (isT_perm P.symm h1)
  refine ⟨t, h2, h1, line_ok t hrt hlt, reads_up (reads_up (reads_up (reads_ok 7 t (Nat.le_refl _) hrt hlt))), (size_line t hrt).1, ?_, fun l hl => ?_, told_perm S.told h3.symm, ?_⟩
  · rw [(h3.trans P.symm).length_eq]
  · exact S.two l (h3.mem_iff.mp hl)
  · have h5 := line_len t hrt
    have h6 : 6 ^ (placesT t).length ≤ 6 ^ 7 := Nat.pow_le_pow_right (by decide) hlt
    have h8 : (6 : Nat) ^ 7 = 279936 := by decide
    walk_at "om"
end Mine

end
section
open PySem PySem.W PyProof.Rows PySem.Calls
set_option Elab.async false
set_option maxRecDepth 100000
set_option maxHeartbeats 0
set_option linter.unusedVariables false
namespace Mine
noncomputable def sizeN (ns : List Int) : Nat := 4 + (ns.length + 2) % 4
theorem figs_rng {ns : List Int} {n : Nat} (hn : 0 < n) : ∀ f ∈ figs ns n, 0 ≤ f ∧ f < (n : Int) := fun f hf => by
  obtain ⟨k, _, rfl⟩ := List.mem_map.mp hf
  exact ⟨Int.fmod_nonneg_of_pos _ (by walk_at "om"), Int.fmod_lt_of_pos _ (by walk_at "om")⟩
theorem figs_len (ns : List Int) (n : Nat) : (figs ns n).length = n - 2 := by simp [figs]
noncomputable def lets (fs : List Int) : List Nat := fs.map fun f => 65 + f.toNat
theorem ap_fold : ∀ (fs : List Int) (a : Int), 0 < a → (∀ f ∈ fs, 0 ≤ f ∧ f < 16) → ap (fs.foldl (fun n f => n * 16 + f) a).toNat = ap a.toNat ++ (lets fs).map (·.toUInt8)
  | [], a, _, _ => by simp [lets]
  | f :: fs, a, ha, h => by
    obtain ⟨f1, f2⟩ := h f List.mem_cons_self
    obtain ⟨b, rfl⟩ := Int.eq_ofNat_of_zero_le (Int.le_of_lt ha)
    obtain ⟨g, rfl⟩ := Int.eq_ofNat_of_zero_le f1
    have hg : g < 16 := Int.ofNat_lt.mp f2
    have hb : 0 < b := Int.ofNat_lt.mp ha
    have hp : 0 < b * 16 + g := Nat.lt_of_lt_of_le (Nat.mul_pos hb (by decide)) (Nat.le_add_right _ _)
    rw [List.foldl_cons, show (b : Int) * 16 + (g : Int) = ((b * 16 + g : Nat) : Int) from rfl, ap_fold fs _ (Int.ofNat_lt.mpr hp) fun g hg => h g (List.mem_cons_of_mem _ hg)]
    show ap (b * 16 + g) ++ _ = ap b ++ _
    have e2 : (b * 16 + g) / 16 = b := by rw [Nat.mul_comm, Nat.mul_add_div (by decide), Nat.div_eq_of_lt hg, Nat.add_zero]
    have e3 : (b * 16 + g) % 16 = g := by rw [Nat.mul_comm, Nat.mul_add_mod, Nat.mod_eq_of_lt hg]
    rw [ap_step (Nat.pos_iff_ne_zero.mp hp), e2, e3, List.append_assoc]
    rfl
theorem ap_word {fs : List Int} (h : ∀ f ∈ fs, 0 ≤ f ∧ f < 16) : ap (numW fs).toNat = (66 :: lets fs).map (·.toUInt8) := by
  rw [numW, ap_fold fs 1 (by decide) h]
  have : ap (1 : Int).toNat = [66] := by decide +kernel
  rw [this]; rfl
theorem lets_small {fs : List Int} (h : ∀ f ∈ fs, 0 ≤ f ∧ f < 16) : ∀ c ∈ 66 :: lets fs, c < 128 := fun c hc => by
  rcases List.mem_cons.mp hc with e | hc
  · rw [e]; decide
  · obtain ⟨f, hf, rfl⟩ := List.mem_map.mp hc
    obtain ⟨f1, f2⟩ := h f hf
    obtain ⟨g, rfl⟩ := Int.eq_ofNat_of_zero_le f1
    exact Nat.lt_trans (Nat.add_lt_add_left (Int.ofNat_lt.mp f2) 65) (by decide)
theorem tail_word {fs : List Int} (h : ∀ f ∈ fs, 0 ≤ f ∧ f < 16) : (KBw.bInts (KBy.picked (ap (numW fs).toNat).toArray (some 1) none)).map (fun x => x - 65) = fs := by
  rw [ap_word h, KBc.picked_eq]
  have e1 : (Option.elim (some (1 : Int)) 0 (clipAt (((66 :: lets fs).map (·.toUInt8)).toArray).size)) = 1 := by
    show clipAt _ 1 = 1
    unfold clipAt
    have h1 : (1 : Int) ≤ (((lets fs).length + 1 : Nat) : Int) := Int.ofNat_le.mpr (Nat.succ_le_succ (Nat.zero_le _))
    rw [List.size_toArray, List.length_map, List.length_cons, if_neg (by decide), Int.min_eq_left h1]
    rfl
  rw [e1]
  unfold KBw.bInts
  show List.map _ (List.map _ ((List.drop 1 ((66 :: lets fs).map (·.toUInt8))).take ((((66 :: lets fs).map (·.toUInt8)).toArray).size - 1))) = fs
  rw [List.size_toArray, List.length_map, List.length_cons, List.map_cons, List.drop_succ_cons, List.drop_zero, Nat.add_sub_cancel, List.take_of_length_le (by simp), List.map_map, List.map_map, lets, List.map_map]
  refine (List.map_congr_left fun f hf => ?_).trans (List.map_id _)
  obtain ⟨f1, f2⟩ := h f hf
  obtain ⟨g, rfl⟩ := Int.eq_ofNat_of_zero_le f1
  have hg : g < 16 := Int.ofNat_lt.mp f2
  show (((65 + g).toUInt8.toNat : Nat) : Int) - 65 = (g : Int)
  have e : (65 + g).toUInt8.toNat = 65 + g := by
    show (UInt8.ofNat (65 + g)).toNat = _
    rw [UInt8.toNat_ofNat', Nat.mod_eq_of_lt (Nat.lt_trans (Nat.add_lt_add_left hg 65) (by decide))]
  rw [e, Int.natCast_add, Int.add_comm]; exact Int.add_sub_cancel _ _
theorem ap_letG : ∀ q : Fin 7, (Str.ofString "ABCDEFG").cps[(q : Nat)]? = some (65 + (q : Nat)) := by decide +kernel
theorem join_lets (fs : List Int) : Txt.join (Str.ofString "") (fs.map fun f => (⟨#[65 + f.toNat]⟩ : Str)) = sC (lets fs) := by
  show Builtin.Str.glued _ _ = _
  rw [StrLaws.glued_eq_join]
  induction fs with
  | nil => rfl
  | cons f r ih =>
    cases r with
    | nil => rfl
    | cons g r =>
      show sC [65 + f.toNat] ++ Str.ofString "" ++ Str.join (Str.ofString "") ((g :: r).map fun f => (⟨#[65 + f.toNat]⟩ : Str)) = _
      rw [ih, str_nil, sC_append, sC_append]
      rfl
theorem str_B : Str.ofString "B" = sC [66] := by decide +kernel
theorem k_lawN {w : World} : (nsIn (Mine.K1 w.params) mainGlobals "_law_figures" = some (some (.ref 779)) ∧ isDef (Mine.K1 w.params) 779 = true) ∧ (nsIn (Mine.K1 w.params) mainGlobals "_law_word" = some (some (.ref 786)) ∧ isDef (Mine.K1 w.params) 786 = true) ∧ (nsIn (Mine.K1 w.params) mainGlobals "_law_tied" = some (some (.ref 791)) ∧ isDef (Mine.K1 w.params) 791 = true) ∧ (nsIn (Mine.K1 w.params) mainGlobals "_law_hung" = some (some (.ref 829)) ∧ isDef (Mine.K1 w.params) 829 = true) := by
  refine (?_ : PySem.Challenge.rw_oc0261_02 = PySem.Challenge.rw_oc0261_02 → (Mine.K1 w.params) = (Mine.K1 w.params) → _) rfl rfl
  k_fill
  intro _ _
  exact ⟨⟨by k_is, isDef_of (by k_is)⟩, ⟨by k_is, isDef_of (by k_is)⟩, ⟨by k_is, isDef_of (by k_is)⟩, ⟨by k_is, isDef_of (by k_is)⟩⟩
theorem d_law2 {w : World} {ns : List Int} (hlen : ns.length ≤ 63) : TopP PW w (Mine.K1 w.params) PJ 834 200 1200 [lD ns] (.bool true) := by
  have n4 : 4 ≤ sizeN ns := Nat.le_add_right _ _
  have n7 : sizeN ns ≤ 7 := Nat.add_le_add_left (Nat.le_of_lt_succ (Nat.mod_lt _ (by decide))) 4
  have hsz : (4 : Int) + ((ns.length : Int) + 2).fmod 4 = ((sizeN ns : Nat) : Int) := by
    rw [Int.fmod_eq_emod_of_nonneg _ (by decide)]; rfl
  generalize sizeN ns = n at *
  have hr := figs_rng (ns := ns) (n := n) (Nat.lt_of_lt_of_le (by decide) n4)
  have hfl := figs_len ns n
  generalize hF : figs ns n = fs at hr hfl
  obtain ⟨k, rfl⟩ := Nat.exists_eq_add_of_le' (Nat.le_trans (by decide : 2 ≤ 4) n4)
  replace hfl : fs.length = k := hfl
  subst hfl
  have h5 : fs.length ≤ 5 := Nat.le_of_add_le_add_right (b := 2) n7
  have h2 : 2 ≤ fs.length := Nat.le_of_add_le_add_right (b := 2) n4
  have nI : ((fs.length + 2 : Nat) : Int) ≤ 7 := Int.ofNat_le.mpr n7
  have nP : 0 < ((fs.length + 2 : Nat) : Int) := Int.ofNat_lt.mpr (Nat.succ_pos _)
  have hr16 : ∀ f ∈ fs, 0 ≤ f ∧ f < 16 := fun f hf => ⟨(hr f hf).1, Int.lt_of_lt_of_le (hr f hf).2 (Int.le_trans nI (by decide))⟩
  have hrn : ∀ (a : Int), 0 ≤ a.fmod ((fs.length + 2 : Nat) : Int) ∧ a.fmod ((fs.length + 2 : Nat) : Int) < ((fs.length + 2 : Nat) : Int) := fun a => ⟨Int.fmod_nonneg_of_pos _ nP, Int.fmod_lt_of_pos _ nP⟩
  obtain ⟨t1, H1⟩ := hung_ok n7 hr rfl (hrn (ns.sum + 2))
  obtain ⟨t2, H2⟩ := hung_ok n7 hr rfl (hrn (ns.sum.fdiv ((fs.length + 2 : Nat) : Int) + 5))
  have tlen : (tiedP (fs.length + 2) fs).length = fs.length + 1 := by
    rw [tied_perm.length_eq, List.length_append, tiesAt, List.length_map, List.length_range]; rfl
  have t6 : (tiedP (fs.length + 2) fs).length ≤ 6 := tlen ▸ Nat.succ_le_succ h5
  have ttwo : ∀ l ∈ tiedP (fs.length + 2) fs, l.length = 2 := fun l hl => (stage_all hr rfl).two l (tied_perm.mem_iff.mp hl)
  clear n4 tlen
  refine (?_ : PySem.Challenge.rw_oc0261_02 = PySem.Challenge.rw_oc0261_02 → (Mine.K1 w.params) = (Mine.K1 w.params) → _) rfl rfl
  k_fill
  intro _ _
  refine topP_of (ps := ["script"]) (by k_is) (by k_is) rfl (fun vs hl s _ => ?_) (by decide) (by decide) (by decide) rfl rfl rfl ?_
  · cases vs with
    | nil => cases hl
    | cons v r =>
      cases r with
      | nil => exact BindsTo.of_eq rfl
      | cons _ _ => cases hl
  intro c hdp hun _ _
  have hu64 : c.A.units + 64 < cLine := by show c.un + 64 < _; walk_at "om"
  refine PEx.cons (Ex1.assign (d := .int ns.sum) (Ev.sum (Ev.name rfl).b k_tops.2.2.2.1) (.inl rfl)) ?_
  refine PEx.cons (Ex1.assign (d := .int ((fs.length + 2 : Nat) : Int)) (Ev.cast (Ev.add Ev.cInt (Ev.fmod (Ev.add (Ev.len (Ev.name (d := lD ns) rfl).b (by rw [List.length_map]; walk_at "om") k_tops.1) Ev.cInt) Ev.cInt (by decide))) (by rw [List.length_map, hsz])) (.inl rfl)) ?_
  refine PEx.cons (Ex1.assign (d := lD fs) (Ev.cast (Ev.call (EvL.cons (Ev.name rfl) (EvL.cons (Ev.name rfl) EvL.nil)) (d_figs (Nat.le_add_left _ _) n7 hlen) rfl k_lawN.1.1 k_lawN.1.2 (by walk_at "om") (by walk_at "om")) (by rw [hF])) (.inl rfl)) ?_
  refine PEx.cons (Ex1.assign (d := .bytes (ap (numW fs).toNat).toArray) (Ev.call (EvL.cons (Ev.name rfl) EvL.nil) (d_wordL hr16 (Nat.le_trans h5 (by decide))) rfl k_lawN.2.1.1 k_lawN.2.1.2 (by walk_at "om") (by walk_at "om")) (.inl rfl)) ?_
  refine PEx.ite (b := false) (Tst.cast (Tst.cmp (Ev.name rfl).b (Ev.encode (x := sC (66 :: lets fs)) (Ev.cast (Ev.addStr Ev.cStr (Ev.join (ss := fs.map fun f => (⟨#[65 + f.toNat]⟩ : Str)) Ev.cStr (Ev.cast (Ev.compA Dat.int toI (fun _ => rfl) (xs := fs) (Cp := []) (fun _ => true) (fun f => .str (⟨#[65 + f.toNat]⟩ : Str)) (EvIt.list (Ev.name rfl)) rfl ⟨?_⟩ rfl (by decide) (by decide) rfl (Nat.le_trans h5 (by decide)) ?_ ?_) ?_).b ?_) ?_) ?_) ?_ ?_).b CmpR.neBytes) ?_) (fun q => nomatch q) fun _ => ?_
  · intro p hp; cases hp
  · intro C f hf
    exact Tsts.nil
  · intro C f hf _
    have h := hr f hf
    obtain ⟨q, rfl⟩ := fin_of (p := f) ⟨h.1, Int.lt_of_lt_of_le h.2 nI⟩
    exact Ev.itemStr Ev.cStr (Ev.name rfl) h.1 (ap_letG q) (Int.lt_of_lt_of_le h.2 (Int.le_trans nI (by decide)))
  · rw [filt]; simp
  · rw [List.map_map]
    have h1 : ∀ x ∈ fs.map ((fun s : Str => s.length) ∘ fun f => (⟨#[65 + f.toNat]⟩ : Str)), x ≤ 1 := fun x hx => by
      obtain ⟨f, _, rfl⟩ := List.mem_map.mp hx
      exact Nat.le_refl _
    have h2 := sum_le (n := 7) h1 (by rw [List.length_map]; exact Nat.le_trans h5 (by decide))
    have h3 : (Str.ofString "").length = 0 := by rw [str_nil, sC_len]; rfl
    rw [h3, Nat.mul_zero]; exact Nat.le_trans h2 (by decide)
  · rw [join_lets, str_B, sC_len, sC_len, sizeLine_eq, lets, List.length_map]
    show 1 + fs.length ≤ _; exact Nat.le_trans (Nat.add_le_add_left h5 1) (by decide)
  · rw [join_lets, str_B, sC_append]; rfl
  · intro x hx
    exact lets_small hr16 x (by simpa using hx)
  · rw [sC_len, List.length_cons, lets, List.length_map]; exact Nat.le_trans (Nat.succ_le_succ h5) (by decide)
  · rw [ap_word hr16]; simp
  have hbz : (ap (numW fs).toNat).toArray.size ≤ 16777216 := by
    rw [ap_word hr16, List.size_toArray, List.length_map, List.length_cons, lets, List.length_map]; exact Nat.le_trans (Nat.succ_le_succ h5) (by decide)
  have htl : (KBw.bInts (KBy.picked (ap (numW fs).toNat).toArray (some 1) none)).length = fs.length := by
    have := congrArg List.length (tail_word hr16)
    rw [List.length_map] at this; exact this
  refine PEx.cons (Ex1.assign (d := .list (gD (tiedP (fs.length + 2) fs))) (Ev.call (EvL.cons (Ev.cast (Ev.compA Dat.int toI (fun _ => rfl) (xs := KBw.bInts (KBy.picked (ap (numW fs).toNat).toArray (some 1) none)) (Cp := []) (fun _ => true) (fun x => .int (x - 65)) (EvIt.bytes (Ev.sliceBytes (i := some 1) (j := none) (Ev.name rfl) (PartOk.one Ev.cInt) PartOk.no hbz)) rfl ⟨?_⟩ rfl (by decide) (by decide) rfl (by rw [htl]; exact Nat.le_trans h5 (by decide)) ?_ ?_) ?_) (EvL.cons (Ev.name rfl) EvL.nil)) (d_tied (n := fs.length + 2) (fs := fs) (Nat.le_trans n7 (by decide)) (Nat.le_trans h5 (by decide)) (Nat.lt_of_lt_of_le (by decide) h2) (tied_ok hr rfl)) rfl k_lawN.2.2.1.1 k_lawN.2.2.1.2 (by walk_at "om") (by walk_at "om")) (.inl rfl)) ?_
  · intro p hp; cases hp
  · intro C f hf
    exact Tsts.nil
  · intro C f hf _
    exact Ev.sub (Ev.name rfl) Ev.cInt
  · rw [filt]
    have := congrArg intsD (tail_word hr16)
    rw [intsD, List.map_map] at this
    exact congrArg Dat.list this
  refine PEx.ite (b := false) (Tst.cmp (Ev.name rfl).b Ev.cNone.b (CmpR.isNone (b := false) (by simp))) (fun q => nomatch q) fun _ => ?_
  exact PEx.ret (EvP.and2 (EvP.callP (EvLP.cons (EvP.of (Ev.fmod (Ev.add (Ev.name rfl) Ev.cInt) (Ev.name rfl) (Int.ne_of_gt nP))) (EvLP.cons (EvP.of (Ev.name rfl)) (EvLP.cons (EvP.of (Ev.name rfl)) EvLP.nil))) (d_hung (Nat.lt_of_le_of_lt t6 (by decide)) ttwo (Nat.le_trans h5 (by decide)) H1) rfl k_lawN.2.2.2.1 k_lawN.2.2.2.2 (by walk_at "om") (by walk_at "om"))
    (EvP.callP (EvLP.cons (EvP.of (Ev.fmod (Ev.add (Ev.fdiv (Ev.name rfl) (Ev.name rfl) (Int.ne_of_gt nP) (Nat.lt_of_le_of_lt n7 (by decide))) Ev.cInt) (Ev.name rfl) (Int.ne_of_gt nP))) (EvLP.cons (EvP.of (Ev.name rfl)) (EvLP.cons (EvP.of (Ev.name rfl)) EvLP.nil))) (d_hung (Nat.lt_of_le_of_lt t6 (by decide)) ttwo (Nat.le_trans h5 (by decide)) H2) rfl k_lawN.2.2.2.1 k_lawN.2.2.2.2 (by walk_at "om") (by walk_at "om")))
end Mine

end
section
open PySem PySem.W PyProof.Rows PySem.Calls
set_option maxRecDepth 100000
set_option maxHeartbeats 0
set_option Elab.async false
namespace Mine
noncomputable abbrev hook1 : Hook := kHook kk.heap_1 as1 as_K
theorem K1_erase (P : Params) : K1 P = (kk.heap_1 P).eraseIdx 663 := by kernel_rfl
theorem lookup_nodup {α : Type} : ∀ {l : List (Nat × α)} {n : Nat} {c : α}, (l.map (·.1)).Nodup → (n, c) ∈ l → l.lookup n = some c
  | (n', c') :: l, n, c, hnd, hm => by
    rw [List.map_cons, List.nodup_cons] at hnd
    rw [List.lookup_cons]
    rcases List.mem_cons.mp hm with e | hm
    · cases e; simp
    · have hne : n ≠ n' := fun e => hnd.1 (e ▸ List.mem_map_of_mem (f := (·.1)) hm)
      have : (n == n') = false := by simpa using hne
      rw [this]
      exact lookup_nodup hnd.2 hm
theorem mem_of_look {α : Type} : ∀ {l : List (Nat × α)} {n : Nat} {c : α}, l.lookup n = some c → (n, c) ∈ l
  | (n', c') :: l, n, c, h => by
    rw [List.lookup_cons] at h
    cases e : n == n' with
    | true => rw [e] at h; cases h; rw [eq_of_beq e]; exact List.mem_cons_self
    | false => rw [e] at h; exact List.mem_cons_of_mem _ (mem_of_look h)
noncomputable def asc : Nat → List Nat → Bool
  | _, [] => true
  | a, b :: r => Nat.blt a b && asc b r
theorem asc_lt : ∀ {l : List Nat} {a : Nat}, asc a l = true → ∀ x ∈ l, a < x
  | b :: r, a, h, x, hx => by
    rw [asc, Bool.and_eq_true] at h
    have h1 := Nat.le_of_ble_eq_true h.1
    rcases List.mem_cons.mp hx with e | e
    · rw [e]; exact h1
    · exact Nat.lt_trans h1 (asc_lt h.2 x e)
theorem asc_nodup : ∀ {l : List Nat} {a : Nat}, asc a l = true → l.Nodup
  | [], _, _ => List.nodup_nil
  | b :: r, a, h => by
    rw [asc, Bool.and_eq_true] at h
    exact List.nodup_cons.mpr ⟨fun hm => Nat.lt_irrefl _ (asc_lt h.2 _ hm), asc_nodup h.2⟩
theorem as1_nodup : as1.Nodup := by
  have h : asc 0 as1.tail = true := by kernel_rfl
  have h0 : as1 = 0 :: as1.tail := by kernel_rfl
  rw [h0]
  exact List.nodup_cons.mpr ⟨fun hm => Nat.lt_irrefl _ (asc_lt h _ hm), asc_nodup h⟩
theorem look_up {P : Params} {a : Addr} {o : Obj} (h : (K1 P).lookup a = some o) : (kk.heap_1 P).lookup a = some o :=
  lookup_nodup (by rw [← as_K P]; exact as1_nodup) (List.mem_of_mem_eraseIdx (K1_erase P ▸ mem_of_look h))
theorem look_746 (P : Params) : (kk.heap_1 P).lookup 746 = some { cls := .none, data := .fields #[] } := by kernel_rfl
theorem no_746 (P : Params) : (K1 P).lookup 746 = none := by kernel_rfl
noncomputable def notList (o : Obj) : Bool := match o.data with | .seq _ _ => (match o.cls with | .type n => n != "list" | _ => true) | _ => true
theorem no_list (P : Params) : ((K1 P).all fun p => notList p.2) = true := by kernel_rfl
theorem k_name {w : World} : nsIn (K1 w.params) mainGlobals "law" = some (some (.ref 834)) := by
  refine (?_ : PySem.Challenge.rw_oc0261_02 = PySem.Challenge.rw_oc0261_02 → (Mine.K1 w.params) = (Mine.K1 w.params) → _) rfl rfl
  k_fill
  intro _ _
  k_is
theorem walk1 {d : DefRec} {kwd : List (PySem.Str × PySem.Expr)} (hdef : defOf q1 "law" = some (d, kwd)) : WalkO q1 loose1 (XL q1 []) (Hook.says hook1) PySem.Challenge.rw_oc0261_02.row.toRowW d kwd fun f vs => PySem.call f vs := by
  intro w s₀ s₁ mg mb G Y fa o pm cd doc dV kV ho hd hcd hD hmg hg args vals as hpre hlay hrd hwl hlo
  have KX := kIn_of Y
  have hname := defOf_name hdef
  refine Ground.open G ?_
  intro T B D TE TW
  obtain ⟨bm, bo, M⟩ := bmod_of_top T
  clear D TE TW B hD hcd hd ho
  wrow_args hpre hlay hrd hwl hlo
  rename_i ns _ _ _ _ _ _ _ l vs _ hL _ w1 _ hI _ hlen _
  have hlen : ns.length ≤ 63 := by walk_at "om"
  have X1 : (K1 w.params).In s₁.heap := fun a o e => KX a o (look_up e)
  have hfa : fa = 834 := by
    have := mg_of X1 T.g k_name
    rw [hname, this] at hmg
    cases hmg; rfl
  subst hfa
  cases w1 with
  | @list _ vs' _ hobj wl =>
  have hvs : vs' = vs := by
    obtain ⟨o', ho', hc', n', hd'⟩ := hL
    rw [hobj] at ho'; cases ho'
    have hd2 : Data.seq vs'.toArray 0 = Data.seq vs.toArray n' := hd'
    injection hd2 with e1 e2
    simpa using e1
  subst hvs
  have h746 := KX 746 _ (look_746 w.params)
  have hne : (746 : Addr) ≠ l := fun e => by rw [← e, h746] at hobj; cases hobj
  have hNl : ∀ o, (K1 w.params).lookup l ≠ some o := fun o e => by
    have h1 := X1 l o e
    rw [hobj] at h1
    cases h1
    have := List.all_eq_true.mp (no_list w.params) _ (mem_of_look e)
    simp [notList] at this
  refine enter_call ?_
  have hap : ∀ b, b ∈ ((746, ({ cls := .none, data := .fields #[] } : Obj)) :: [(l, listOf vs'.toArray 0)]).map (·.1) → b = 746 ∨ b = l := fun b hb => by simpa using hb
  have keepD : ∀ b o es n, s₁.heap.get? b = some o → o.data = .dict es n → (hideAll s₁.heap (((746, ({ cls := .none, data := .fields #[] } : Obj)) :: [(l, listOf vs'.toArray 0)]).map (·.1))).get? b = some o := fun b o es n e hd => hideAll_get _ e fun hb => by
    rcases hap b hb with rfl | rfl
    · rw [h746] at e; cases e; cases hd
    · rw [hobj] at e; cases e; cases hd
  have keepNs : ∀ a m, s₁.heap.Ns a m → (hideAll s₁.heap (((746, ({ cls := .none, data := .fields #[] } : Obj)) :: [(l, listOf vs'.toArray 0)]).map (·.1))).Ns a m := fun a m ⟨o, es, ep, e, hd, r⟩ => ⟨o, es, ep, keepD a o _ _ e hd, hd, r⟩
  refine d_law2 hlen q1 (looseW q1 loose1) (ExcName.means s₀.heap) mg mb s₁ [.ref l] [(l, listOf vs'.toArray 0)] { cls := .none, data := .fields #[] } _ ?_ ⟨⟨keepNs _ _ T.g, keepNs _ _ T.b, ?_, T.builtins, T.free⟩, ⟨bm, bo, ?_⟩⟩ ?_ ?_ ?_ ⟨#[], rfl, trivial⟩ ?_ (by decide) (by decide) ?_
  · intro a o e
    refine hideAll_get _ (X1 a o e) fun hb => ?_
    rcases hap a hb with rfl | rfl
    · rw [no_746] at e; cases e
    · exact hNl o e
  · obtain ⟨mc, h1, h2⟩ := T.nolimit
    exact ⟨mc, keepNs _ _ h1, h2⟩
  · refine ⟨keepNs _ _ M.ns, M.name, M.ne, hideAll_get _ M.obj fun hb => ?_, M.cls, M.dict, M.data⟩
    have hdat := M.data
    rcases hap bm hb with rfl | rfl
    · have e := M.obj; rw [h746] at e; cases e; cases hdat
    · have e := M.obj; rw [hobj] at e; cases e; cases hdat
  · exact .cons (.list List.mem_cons_self (datAll_ints hI)) .nil
  · intro q hq
    simp only [List.mem_cons, List.not_mem_nil, or_false] at hq
    rcases hq with rfl | rfl
    · exact h746
    · exact hobj
  · intro q hq
    rw [List.mem_singleton] at hq; subst hq
    exact hne
  · rw [hg]; exact AllBare.of_eq rfl
  · intro v h' tk' gn' oP' fz' hP' hA' hP hk hs hD hN
    cases hD
    obtain ⟨ps, rfl, _⟩ := hP'
    refine ⟨.inl ⟨_, .bool true, [], rfl, fun cls => ?_, .bool _, ?_, ?_⟩, ⟨fun b o e => ?_, fun b o e => ?_⟩, rfl, hA'⟩
    · exact raisesW_false (by wrow_none_raised) _
    · wrow_post
    · exact fun _ => ⟨List.nodup_nil, fun _ h => nomatch h⟩
    · by_cases hb : b = 746
      · subst hb
        rw [h746] at e; cases e
        refine .inr (.inl ⟨?_, rfl, #[], ps, rfl, ?_⟩)
        · obtain ⟨o, cvs, _, _, _, _, _, _, _, q1, qc, q2, q3, _⟩ := (k_join (w := w)).2
          refine ⟨750, o, cvs, X1 _ _ q1, qc, q2, ?_⟩
          rw [Array.getD_eq_getD_getElem?] at q3
          cases e : cvs[11]? with
          | none => rw [e] at q3; cases q3
          | some v => rw [e] at q3; exact congrArg some q3
        · rw [hP]; simp
      · exact .inl (hk b o e hb)
    · by_cases hb : b = 746
      · subst hb; exact ⟨_, hP⟩
      · exact ⟨o, hk b o e hb⟩
end Mine
theorem PySem.Challenge.cw_oc0261_02_holds : PySem.Challenge.rw_oc0261_02.Holds := by
  refine holds_law Mine.well1 fun said => ?_
  refine holds_open (q := Mine.q1) (loose := Mine.loose1) (Xt := fun s => xlAt Mine.q1 [] s && recOk [] s) (XP := XL Mine.q1 []) (Yf := Hook.obs Mine.hook1) (Ya := Hook.val Mine.hook1) (YP := Hook.says Mine.hook1) (N := 12000)
    Mine.left1 (Hook.of Mine.hook1) (Hook.keeps Mine.hook1) (fun s e => xl_of s (Bool.and_eq_true_iff.mp e).1) XL.keeps (by rfl) (by rfl) (by rfl) (fun s e => recFacts_of (Bool.and_eq_true_iff.mp e).2) (by rfl) said (by decide +kernel) ⟨rfl, rfl, rfl, rfl, rfl, by decide +kernel⟩ ?hw ?hc
  case hc => exact Mine.walk1 rfl
  case hw => w_witness2

end
end
