import PyProof.Rows.All
import Wide.All
import OpenK.AllK
import Wide.FinOn
import PySem.Challenge.RW_xn0005_01
set_option Elab.async false
namespace Mine
section PartHd
open PySem PySem.W PyProof.Rows
set_option maxRecDepth 100000
set_option maxHeartbeats 8000000
open_top hd for PySem.Challenge.rw_xn0005_01
end PartHd
end Mine
namespace Mine
section PartBase0
open PySem PySem.W PyProof.Rows
set_option maxRecDepth 100000
set_option maxHeartbeats 8000000
theorem freshBase0 : True ∧ True := by
  w_top off
  k_with_none
  try walk1
  repeat' (first | trivial | constructor)
abbrev Led := List (Addr × Obj)
/-- what a call of the def at f with vs gives back: R of the value and of the objects made -/
def Con (d : Nat) (prog : Program) (w : World) (mean : ExcName → Option Value) (mg mb : Str → Option Value) (f : Addr) (vs : List Value) (news : Led) (R : Value → Led → Prop) : Prop :=
  ∀ (dp un : Nat) (gd : Option (List Code)) (cn : Str) (cs : Scope) (a : Addr) (ccd : Value) (cl : List (Str × Addr)) (outer : List Env) (A₀ : Around) (base h₀ : Heap) (L : Addr) (m : Str → Option Value) (s : Shared) (Q E : Value → Shared → Prop),
    PySem.Challenge.rw_xn0005_01 = PySem.Challenge.rw_xn0005_01 →
    Below A₀ base outer h₀ → Fr h₀ L s.heap m → (hd.heap_39 w.params).In h₀ → News h₀ L s.heap news → Top hd.view_39 (looseW hd.view_39 []) mean mg mb h₀ → cs.kind = .function → dp + d < recursionLimit → un + 10 * d + 100 < cLine →
    (∀ r tl h' tk', Fr h₀ L h' m → News h₀ L h' (tl ++ news) → (∀ p ∈ tl, ∀ q ∈ news, q.1 < p.1) → R r tl → Q r { s with heap := h', toks := tk' }) →
    wpAny (model prog w) (ktrTop dp un gd cn cs L a ccd cl outer) (call (.ref f) vs) Q E s
theorem Con.use {d : Nat} {prog : Program} {w : World} {mean : ExcName → Option Value} {mg mb : Str → Option Value} {f : Addr} {vs : List Value} {news : Led} {R : Value → Led → Prop} {dp un : Nat} {gd : Option (List Code)} {cn : Str} {cs : Scope} {a : Addr} {ccd : Value} {cl : List (Str × Addr)} {outer : List Env} {A₀ : Around} {base h₀ : Heap} {L : Addr} {m : Str → Option Value} {s : Shared} {Q E : Value → Shared → Prop}
    (C : Con d prog w mean mg mb f vs news R) (B : Below A₀ base outer h₀) (F : Fr h₀ L s.heap m) (X : (hd.heap_39 w.params).In h₀) (N : News h₀ L s.heap news) (T : Top hd.view_39 (looseW hd.view_39 []) mean mg mb h₀) (hk : cs.kind = .function) (hd : dp + d < recursionLimit) (hu : un + 10 * d + 100 < cLine)
    (ret : ∀ r tl h' tk', Fr h₀ L h' m → News h₀ L h' (tl ++ news) → (∀ p ∈ tl, ∀ q ∈ news, q.1 < p.1) → R r tl → Q r { s with heap := h', toks := tk' }) :
    wpAny (model prog w) (ktrTop dp un gd cn cs L a ccd cl outer) (call (.ref f) vs) Q E s := C _ _ _ _ _ _ _ _ _ _ _ _ _ _ _ _ _ rfl B F X N T hk hd hu ret
def Stop (P : Prop) : Prop := P
theorem Stop.on {P : Prop} (h : Stop P) : P := h
theorem Stop.off {P : Prop} (h : P) : Stop P := h
abbrev tupObj (vs : List Value) : Obj := { cls := .type "tuple", data := .seq vs.toArray }

section
variable {prog : Program} {w : World} {A : Around} {E : Value → Shared → Prop} {s : Shared} {env : Env} {h₀ : Heap} {x : Str} {body : List Stmt} {Q : Flow → Shared → Prop}
/-- between the turns of a for: a state c, its ledger, its names -/
def LS {σ : Type} (Ld : σ → Led) (ps : σ → List (Str × Value)) (x : Str) (stored : List Str) (m₀ : Str → Option Value) (P : σ → Prop) (m : Str → Option Value) (nx : Led) : Prop :=
  ∃ c : σ, nx = Ld c ∧ (∀ p ∈ ps c, m p.1 = some p.2) ∧ (∀ z, z ≠ x → (∀ p ∈ ps c, z ≠ p.1) → stored.contains z = false → m z = m₀ z) ∧ P c
theorem loopL {σ : Type} {l : Addr} {vs : List Value} {nn : Nat} {m₀ : Str → Option Value} {news : Led} (Ld : σ → Led) (ps : σ → List (Str × Value)) (stored : List Str) (P : Nat → σ → Prop) (c₀ : σ)
    (hh : A.handled = none) (hl : ∀ i c, P i c → (l, listOf vs.toArray nn) ∈ Ld c) (F : Fr h₀ env.locals s.heap m₀) (N : News h₀ env.locals s.heap news) (hn : ∀ p ∈ Ld c₀, p ∈ news) (hk : ∀ p ∈ ps c₀, m₀ p.1 = some p.2) (hp : P 0 c₀)
    (turn : ∀ (i : Nat) (v : Value) (c : σ) (u : Str → Option Value) (h : Heap) (tk : Nat) (own : Led), vs[i]? = some v → OwnOff own ((Ld c).map (·.1)) → P i c →
      Fr h₀ env.locals h (fun y => if y = x then some v else kstB (fun z => if stored.contains z then u z else m₀ z) (ps c) y) → News h₀ env.locals h (Ld c ++ own) →
      wpAny (model prog w) A (execs body env) (InvPostG h₀ env.locals (LS Ld ps x stored m₀ (P (i + 1))) own { s with heap := h, toks := tk } Q) E { s with heap := h, toks := tk })
    (done : ∀ (c : σ) (u : Str → Option Value) (h : Heap) (tk : Nat), P vs.length c → Fr h₀ env.locals h (fun y => if y = x then u y else kstB (fun z => if stored.contains z then u z else m₀ z) (ps c) y) → News h₀ env.locals h (Ld c) → Q .next { s with heap := h, toks := tk }) :
    wpAny (model prog w) A (pyIter (.ref l)) (fun it s₂ => LoopAtV prog w A h₀ env x body Q E it s₂) E s := by
  refine kdl_iter (news := Ld c₀) (fun i m nx => LS Ld ps x stored m₀ (P i) m nx) hh (hl 0 c₀ hp) F (kst_newsOf N hn) ⟨c₀, rfl, hk, fun _ _ _ _ => rfl, hp⟩ ?_ ?_
  · rintro i v m₁ nx h tk own hv hoff _ ⟨c, rfl, h1, h2, hp'⟩ F₁ N₁
    refine wpAny_mono (turn i v c m₁ h tk own hv hoff hp' (kst_fr h1 h2 F₁) N₁) (fun f s₂ p => ?_) fun _ _ x => x
    have up : InvEndG h₀ env.locals (LS Ld ps x stored m₀ (P (i + 1))) own { s with heap := h, toks := tk } s₂ →
        InvEndG h₀ env.locals (fun m' nx => (l, listOf vs.toArray nn) ∈ nx ∧ LS Ld ps x stored m₀ (P (i + 1)) m' nx) own { s with heap := h, toks := tk } s₂ := by
      rintro ⟨h', tk', m', news', nx', e', F', N', hn', ho', ha, hS⟩
      refine ⟨h', tk', m', news', nx', e', F', N', hn', ho', ha, ?_, hS⟩
      obtain ⟨c', rfl, _, _, hP⟩ := hS
      exact hl (i + 1) c' hP
    cases f with
    | ret v => exact p
    | brk => exact p
    | next => exact up p
    | cont => exact up p
  · rintro m₁ nx h tk ⟨c, rfl, h1, h2, hp'⟩ F₁ N₁
    exact done c m₁ h tk hp' (kst_frOut h1 h2 F₁) N₁
theorem loopL_end {σ : Type} {Ld : σ → Led} {ps : σ → List (Str × Value)} {stored : List Str} {m₀ : Str → Option Value} {P : σ → Prop} (c : σ) {L : Addr} {m' : Str → Option Value} {own news' : Led} {s₁ : Shared} {h' : Heap} {tk : Nat}
    (F : Fr h₀ L h' m') (N : News h₀ L h' news') (hn : ∀ p ∈ Ld c, p ∈ news') (ho : ∀ p ∈ own, p ∈ news') (ha : OwnOff own ((Ld c).map (·.1))) (hk : ∀ p ∈ ps c, m' p.1 = some p.2)
    (hr : ∀ z, z ≠ x → (∀ p ∈ ps c, z ≠ p.1) → stored.contains z = false → m' z = m₀ z) (hp : P c) : InvEndG h₀ L (LS Ld ps x stored m₀ P) own s₁ { s₁ with heap := h', toks := tk } :=
  ⟨h', tk, m', news', Ld c, rfl, F, N, hn, ho, ha, c, rfl, hk, hr, hp⟩
end

theorem ownOff_cons {own : Led} {d : Addr} {adr : List Addr} (h : ∀ p ∈ own, p.1 ≠ d) (k : OwnOff own adr) : OwnOff own (d :: adr) := by
  intro p hp b hb
  rcases List.mem_cons.mp hb with rfl | hb
  · exact h p hp
  · exact k p hp b hb
theorem ownOff_sub {own : Led} {adr adr' : List Addr} (h : OwnOff own adr) (hs : ∀ b ∈ adr', b ∈ adr) : OwnOff own adr' := fun p hp b hb => h p hp b (hs b hb)
theorem take_snoc {α : Type} {l : List α} {i : Nat} {x : α} (h : l[i]? = some x) : l.take (i + 1) = l.take i ++ [x] := by simp [List.take_add_one, h]
def cRun : Nat → Int → Int → Int → Int → Int → Int → Option (Int × Int)
  | 0, _, _, _, _, _, _ => none
  | n + 1, b, r, box, load, taken, done =>
    if load ≠ 0 ∨ box ≤ b then
      if Builtin.bitAnd b box ≠ 0 then
        if load < r then cRun n b r (box * 2) (load + 1) (taken + 1) (Builtin.bitXor done box) else cRun n b r (box * 2) load taken done
      else if load ≠ 0 then cRun n b r (box * 2) (load - 1) taken (Builtin.bitXor done box) else cRun n b r (box * 2) load taken done
    else some (done, taken)
end PartBase0
end Mine
namespace Mine
section PartC1
open PySem PySem.W PyProof.Rows
set_option maxRecDepth 100000
set_option maxHeartbeats 8000000
theorem freshC1 : True ∧ True := by
  w_top off
  k_with_none
  try walk1
  repeat' (first | trivial | constructor)
local macro_rules | `(tactic| walk_at "KswEnd") => `(tactic| refine Stop.on ?_)
local macro_rules | `(tactic| k_room) => `(tactic| (simp only [depth_under_make, depth_under_kw, depth_in1, depth_deeper, depth_caller]; (try dsimp only [ktrTop]); omega))
structure CS where
  n : Nat
  box : Int
  load : Int
  taken : Int
  done : Int
  t1 : Tok
  t2 : Tok
  t3 : Tok
  t4 : Tok
theorem box_le {box : Int} {n : Nat} (h0 : 0 < box) (h : box * 2 ^ (n + 1) ≤ 1152921504606846976) : box * 2 ≤ 1152921504606846976 := by
  have h1 : (1 : Int) ≤ 2 ^ n := kbt_pos n
  rw [Int.pow_succ', ← Int.mul_assoc] at h
  have h2 : box * 2 * 1 ≤ box * 2 * 2 ^ n := Int.mul_le_mul_of_nonneg_left h1 (by omega)
  omega
theorem carried_con {prog : Program} {w : World} {mean : ExcName → Option Value} {mg mb : Str → Option Value} {news : Led} {b r d t : Int} {tb tr : Tok} (hrun : cRun 40 b r 1 0 0 b = some (d, t)) :
    Con 3 prog w mean mg mb 91 [.int b tb, .int r tr] news (fun v tl => ∃ x t1 t2, v = .ref x ∧ tl = [(x, tupObj [.int d t1, .int t t2])]) := by
  unfold Con
  k_fill
  intro dp un gd cn cs a ccd cl outer A₀ base h₀ L m s Q E _ B F X N T hk hdp hu hret
  refine wpAny_call ?_
  k_dflt cell_enter
  k_with "exec While BoolOp" => exact Stop.on ?_
  k_with "exec While BoolOp" => refine Stop.on ?_
  k_steps
  refine Stop.off ?_
  rename Fr _ _ _ _ => lF'
  rename News _ _ _ _ => lN'
  with_unfolding_all refine' ksw_while (σ := CS) (fun _ => news) (fun c => [(Str.ofString "box", .int c.box c.t1), (Str.ofString "load", .int c.load c.t2), (Str.ofString "taken", .int c.taken c.t3), (Str.ofString "done", .int c.done c.t4)]) (fun c => 0 < c.box ∧ c.box ≤ 1152921504606846976) [] (fun c => cRun c.n b r c.box c.load c.taken c.done = some (d, t) ∧ c.box * 2 ^ c.n ≤ 1152921504606846976) (fun c => c.n) ⟨40, 1, 0, 0, b, _, _, _, _⟩ lF' lN' ?kf ?kk ?kp ?_
  case kk => kst_all
  case kf => exact ⟨(by decide : (0:Int) < 1), (by decide : (1:Int) ≤ 1152921504606846976)⟩
  case kp => exact ⟨hrun, (by decide : (1:Int) * 2 ^ 40 ≤ 1152921504606846976)⟩
  clear lF' lN'
  intro c kU kH kTk kFacts kInv kFr kNews
  obtain ⟨n, box, load, taken, done, t1, t2, t3, t4⟩ := c
  dsimp only [kstB] at kFr kFacts kInv kNews
  obtain ⟨hb0, hb1⟩ := kFacts
  obtain ⟨hr, hb2⟩ := kInv
  cases n with
  | zero => exact absurd hr (by simp [cRun])
  | succ n =>
  k_fold
  k_steps
  all_goals first
    | (with_reducible refine Stop.off ?_
       rename Fr _ _ _ _ => eF
       rename News _ _ _ _ => eN
       refine' ksw_end ⟨n, _, _, _, _, _, _, _, _⟩ eF eN (fun _ h => h) ?hf ?hk ?hr ?hp (Nat.lt_succ_self n)
       case hk => kst_all
       case hr => ksw_same
       case hp =>
         refine ⟨?_, ?_⟩
         · unfold cRun at hr
           (repeat' split at hr) <;> first | exact hr | (exfalso; omega)
         · show box * 2 * 2 ^ n ≤ 1152921504606846976
           rw [Int.mul_assoc, ← Int.pow_succ']
           exact hb2
       case hf =>
         refine ⟨(by omega : 0 < box * 2), ?_⟩
         show box * 2 ≤ 1152921504606846976
         exact box_le hb0 hb2)
    | (have e : (done, taken) = (d, t) := by
         unfold cRun at hr
         rw [if_neg (by omega)] at hr
         exact Option.some.inj hr
       obtain ⟨rfl, rfl⟩ := Prod.mk.inj e
       exact hret _ [_] _ _ (by assumption) (by assumption) (by
         intro p hp q hq
         rw [List.mem_singleton.mp hp]
         exact (by assumption : ∀ p ∈ news, p.1 < _) q hq) ⟨_, _, _, rfl, rfl⟩)
end PartC1
end Mine
namespace Mine
section PartC2
open PySem PySem.W PyProof.Rows
set_option maxRecDepth 100000
set_option maxHeartbeats 8000000
theorem freshC2 : True ∧ True := by
  w_top off
  k_with_none
  try walk1
  repeat' (first | trivial | constructor)
local macro_rules | `(tactic| walk_at "KswEnd") => `(tactic| refine Stop.on ?_)
local macro_rules | `(tactic| k_room) => `(tactic| (simp only [depth_under_make, depth_under_kw, depth_in1, depth_deeper, depth_caller]; (try dsimp only [ktrTop]); omega))
def bRun : Nat → Int → List Int → Option (List Int)
  | 0, _, _ => none
  | n + 1, b, row => if b ≠ 0 then bRun n (b.fdiv 2) (row ++ [b.fmod 2]) else some (row ++ List.replicate row.sum.toNat 0)
structure BS where
  n : Nat
  b : Int
  t : Tok
  vs : List Value
  row : List Int
  cnt : Nat
theorem boxes_con {prog : Program} {w : World} {mean : ExcName → Option Value} {mg mb : Str → Option Value} {news : Led} {b : Int} {tb : Tok} {row : List Int} (hrun : bRun 40 b [] = some row) :
    Con 3 prog w mean mg mb 98 [.int b tb] news (fun v tl => ∃ x vs c, v = .ref x ∧ tl = [(x, listOf vs.toArray c)] ∧ IntsAre vs row) := by
  unfold Con
  k_fill
  intro dp un gd cn cs a ccd cl outer A₀ base h₀ L m s Q E _ B F X N T hk hdp hu hret
  refine wpAny_call ?_
  k_dflt cell_enter
  have kMark := kstMark
  k_with "exec While Name" => refine Stop.on ?_
  k_steps
  refine Stop.off ?_
  rename Fr _ _ _ _ => lF'
  rename News _ _ _ _ => lN'
  with_unfolding_all refine' ksw_while (σ := BS) (fun c => (_, listOf c.vs.toArray c.cnt) :: news) (fun c => [(Str.ofString "balls", .int c.b c.t)]) (fun c => IntsAre c.vs c.row ∧ 0 ≤ c.row.sum ∧ c.row.sum ≤ c.row.length ∧ c.row.length + c.n = 40) [] (fun c => bRun c.n c.b c.row = some row) (fun c => c.n) ⟨40, b, _, [], [], _⟩ lF' lN' ?kf ?kk hrun ?_
  case kk => kst_all
  case kf => exact ⟨.nil, Int.le_refl 0, Int.le_refl 0, rfl⟩
  clear lF' lN'
  intro c kU kH kTk kFacts kInv kFr kNews
  obtain ⟨n, bb, tt, vs, ro, cnt⟩ := c
  dsimp only [kstB] at kFr kFacts kInv kNews
  obtain ⟨hi, hs0, hs1, hl⟩ := kFacts
  have hlen := hi.length
  cases n with
  | zero => exact absurd kInv (by simp [bRun])
  | succ n =>
  try dsimp only
  try k_fold
  k_steps
  · with_reducible refine Stop.off ?_
    rename Fr _ _ _ _ => eF
    rename News _ _ _ _ => eN
    simp only [List.push_toArray] at eN
    refine' ksw_end ⟨n, _, _, _, ro ++ [bb.fmod 2], _⟩ eF eN (fun _ h => h) ?hf ?hk ?hr ?hp (Nat.lt_succ_self n)
    case hk => kst_all
    case hr => ksw_same
    case hp =>
      unfold bRun at kInv
      rw [if_pos (by assumption)] at kInv
      exact kInv
    case hf =>
      have f1 := Int.fmod_nonneg_of_pos bb (b := 2) (by decide)
      have f2 := Int.fmod_lt_of_pos bb (b := 2) (by decide)
      refine ⟨by k_intsEnd, ?_, ?_, ?_⟩
      · show 0 ≤ (ro ++ [bb.fmod 2]).sum
        simp only [List.sum_append, List.sum_cons, List.sum_nil]; omega
      · show (ro ++ [bb.fmod 2]).sum ≤ ((ro ++ [bb.fmod 2]).length : Int)
        simp only [List.sum_append, List.sum_cons, List.sum_nil, List.length_append, List.length_cons, List.length_nil]; omega
      · show (ro ++ [bb.fmod 2]).length + n = 40
        simp only [List.length_append, List.length_cons, List.length_nil]; omega
  · rename IntsAre _ (_ ++ _) => eI
    rename News h₀ _ _ _ => eN
    with_reducible rename (_ ∧ _ ∧ _ ∧ AllLt _ news) => eL
    have e : ro ++ List.replicate ro.sum.toNat 0 = row := by
      unfold bRun at kInv
      rw [if_neg (by omega)] at kInv
      exact Option.some.inj kInv
    simp only [List.flatten_replicate_singleton] at eI
    rw [e] at eI
    refine' hret _ [_] _ _ ?e1 (kst_newsOf eN ?e2) ?e3 ⟨_, _, _, rfl, rfl, eI⟩
    case e1 => assumption
    case e2 =>
      intro p hp
      rcases List.mem_append.mp hp with h | h
      · rw [List.mem_singleton.mp h]; exact .head _
      · exact .tail _ (.tail _ (.tail _ (.tail _ h)))
    case e3 =>
      intro p hp q hq
      rw [List.mem_singleton.mp hp]
      exact kst_ltOf eL.2.2.2 q hq
end PartC2
end Mine
namespace Mine
section PartC3
open PySem PySem.W PyProof.Rows PyProof.V
set_option maxRecDepth 100000
set_option maxHeartbeats 8000000
theorem freshC3 : True ∧ True := by
  w_top off
  k_with_none
  try walk1
  repeat' (first | trivial | constructor)
abbrev sN (p : Int) : Str := Str.ofString (toString p)
inductive PairsAre (T : Led) : List Value → List (Str × Str) → Prop
  | nil : PairsAre T [] []
  | cons {a : Addr} {x y : Str} {t1 t2 : Tok} {vs : List Value} {ps : List (Str × Str)} : (a, tupObj [.str x t1, .str y t2]) ∈ T → t1 ≠ 0 → t2 ≠ 0 → PairsAre T vs ps → PairsAre T (.ref a :: vs) ((x, y) :: ps)
theorem PairsAre.mono {T T' : Led} (hs : ∀ p ∈ T, p ∈ T') {vs : List Value} {ps : List (Str × Str)} (h : PairsAre T vs ps) : PairsAre T' vs ps := by
  induction h with
  | nil => exact .nil
  | cons hm h1 h2 _ ih => exact .cons (hs _ hm) h1 h2 ih
theorem PairsAre.snoc {T : Led} {a : Addr} {x y : Str} {t1 t2 : Tok} {vs : List Value} {ps : List (Str × Str)} (h : PairsAre T vs ps) (hm : (a, tupObj [.str x t1, .str y t2]) ∈ T) (ht1 : t1 ≠ 0) (ht2 : t2 ≠ 0) : PairsAre T (vs ++ [.ref a]) (ps ++ [(x, y)]) := by
  induction h with
  | nil => exact .cons hm ht1 ht2 .nil
  | cons h1 h2 h3 _ ih => exact .cons h1 h2 h3 ih
theorem PairsAre.length {T : Led} {vs : List Value} {ps : List (Str × Str)} (h : PairsAre T vs ps) : vs.length = ps.length := by
  induction h with
  | nil => rfl
  | cons _ _ _ _ ih => simp [ih]
def letterOf (g : List (Int × Int)) (p : Int) : Str × Str := if kdfHas g p = true then (sN p, sN (kdfLook g p 0)) else (sN p, Str.ofString "[")
def dueOf (g : List (Int × Int)) (p : Int) : Str := if kdfHas g p = true then sN p ++ Str.ofString "." ++ sN (kdfLook g p 0) else Str.ofString "."
theorem small_all : ∀ k : Fin 64, (sN (k.val : Int)).length ≤ 3 ∧ 1 ≤ (sN (k.val : Int)).length := by decide +kernel
theorem small_len {p : Int} (h0 : 0 ≤ p) (h1 : p < 64) : (sN p).length ≤ 3 ∧ 1 ≤ (sN p).length := by
  obtain ⟨n, rfl⟩ := Int.eq_ofNat_of_zero_le h0
  exact small_all ⟨n, by omega⟩
structure NS where
  lvs : List Value
  lc : Nat
  dvs : List Value
  dc : Nat
  tl : Led
def NL (da la : Addr) (c : NS) : Led := (da, listOf c.dvs.toArray c.dc) :: (la, listOf c.lvs.toArray c.lc) :: c.tl
def NP (rest : Led) (starts : List Int) (g : List (Int × Int)) (ls gd da la : Addr) (ol o : Obj) (i : Nat) (c : NS) : Prop :=
  PairsAre c.tl c.lvs ((starts.take i).map (letterOf g)) ∧ StrsAre c.dvs ((starts.take i).map (dueOf g)) ∧ OwnOff c.tl [da, la] ∧ (ls, ol) ∈ c.tl ∧ (gd, o) ∈ c.tl ∧ ∀ p ∈ rest, p ∈ c.tl
theorem names_end {h₀ h' : Heap} {L da la D ls gd : Addr} {m' m₀ : Str → Option Value} {own T tl rest : Led} {s₁ : Shared} {tk i lc dc lc' dc' : Nat} {starts : List Int} {g : List (Int × Int)} {ol o : Obj} {n : Int} {x y z : Str} {t1 t2 t3 : Tok} {lvs dvs : List Value}
    (hn : starts[i]? = some n) (hP : NP rest starts g ls gd da la ol o i ⟨lvs, lc, dvs, dc, tl⟩) (hT : T = tl ++ own) (hoff : OwnOff own ((NL da la ⟨lvs, lc, dvs, dc, tl⟩).map (·.1)))
    (F : Fr h₀ L h' m') (N : News h₀ L h' ((D, tupObj [.str x t1, .str y t2]) :: (da, listOf (dvs ++ [Value.str z t3]).toArray dc') :: (la, listOf (lvs ++ [Value.ref D]).toArray lc') :: T)) (eL : da < D ∧ la < D ∧ AllLt D T)
    (ht1 : t1 ≠ 0) (ht2 : t2 ≠ 0) (hl : letterOf g n = (x, y)) (hd : dueOf g n = z) (hr : ∀ z, z ≠ Str.ofString "place" → m' z = m₀ z) :
    InvEndG h₀ L (LS (NL da la) (fun _ => []) (Str.ofString "place") [] m₀ (NP rest starts g ls gd da la ol o (i + 1))) own s₁ { s₁ with heap := h', toks := tk } := by
  obtain ⟨hpa, hda, htl, hm1, hm2, hm3⟩ := hP
  have hTl : ∀ p ∈ tl, p ∈ T := by intro p hp; rw [hT]; exact List.mem_append.mpr (.inl hp)
  have hTw : ∀ p ∈ own, p ∈ T := by intro p hp; rw [hT]; exact List.mem_append.mpr (.inr hp)
  refine loopL_end ⟨lvs ++ [.ref D], lc', dvs ++ [.str z t3], dc', (D, tupObj [.str x t1, .str y t2]) :: tl⟩ F N ?_ ?_ ?_ (fun _ h => nomatch h) (fun z hz _ _ => hr z hz) ?_
  · exact List.forall_mem_cons.mpr ⟨.tail _ (.head _), List.forall_mem_cons.mpr ⟨.tail _ (.tail _ (.head _)), List.forall_mem_cons.mpr ⟨.head _, fun p hp => .tail _ (.tail _ (.tail _ (hTl p hp)))⟩⟩⟩
  · exact fun p hp => .tail _ (.tail _ (.tail _ (hTw p hp)))
  · refine ownOff_cons (fun p hp => hoff p hp _ (.head _)) (ownOff_cons (fun p hp => hoff p hp _ (.tail _ (.head _))) (ownOff_cons (fun p hp => Nat.ne_of_lt (kst_ltOf eL.2.2 p (hTw p hp))) ?_))
    exact ownOff_sub hoff (fun b hb => .tail _ (.tail _ hb))
  · refine ⟨?_, ?_, ?_, .tail _ hm1, .tail _ hm2, fun p hp => .tail _ (hm3 p hp)⟩
    · rw [take_snoc hn, List.map_append]
      show PairsAre _ _ (_ ++ [letterOf g n])
      rw [hl]
      exact (hpa.mono (fun p h => .tail _ h)).snoc (.head _) ht1 ht2
    · rw [take_snoc hn, List.map_append]
      show StrsAre _ (_ ++ [dueOf g n])
      rw [hd]
      exact hda.append' (.cons _ _ .nil)
    · intro p hp b hb
      rcases List.mem_cons.mp hp with rfl | hp
      · rcases List.mem_cons.mp hb with rfl | hb
        · exact (Nat.ne_of_lt eL.1).symm
        · rw [List.mem_singleton.mp hb]; exact (Nat.ne_of_lt eL.2.1).symm
      · exact htl p hp b hb
end PartC3
end Mine
namespace Mine
section PartC4
open PySem PySem.W PyProof.Rows PyProof.V
set_option maxRecDepth 100000
set_option maxHeartbeats 8000000
theorem freshC4 : True ∧ True := by
  w_top off
  k_with_none
  try walk1
  repeat' (first | trivial | constructor)
local macro_rules | `(tactic| k_room) => `(tactic| (simp only [depth_under_make, depth_under_kw, depth_in1, depth_deeper, depth_caller]; (try dsimp only [ktrTop]); omega))
local macro_rules | `(tactic| walk_at "execs cons") => `(tactic| refine wpAny_execs_cons ?_)
local macro_rules | `(tactic| walk_at "execs nil") => `(tactic| refine wpAny_execs_nil ?_)
local macro_rules | `(tactic| walk_at "binaryOp Add str str") => `(tactic| refine Stop.on ?_)
theorem addS {prog : Program} {w : World} {A : Around} {E : Value → Shared → Prop} {s : Shared} {x y : Str} {t u : Tok} {Q : Value → Shared → Prop} (hsz : x.length + y.length ≤ 100000) (hs : 0 < s.toks)
    (hu : x.length = 0 → u ≠ 0 ∧ u < s.toks) (ht : x.length ≠ 0 → y.length = 0 → t ≠ 0 ∧ t < s.toks)
    (h : ∀ t' tk, t' ≠ 0 → t' < tk → s.toks ≤ tk → Q (.str (x ++ y) t') { s with toks := tk }) : wpAny (model prog w) A (binaryOp .Add (.str x t) (.str y u)) Q E s := by
  refine P.add_str ?_
  split
  · rename_i e
    have e' := beq_iff_eq.mp e
    have e0 : x = Str.mk #[] := by cases x; exact congrArg Str.mk (Array.eq_empty_of_size_eq_zero e')
    have e1 : x ++ y = y := by rw [e0]; exact Str.empty_append y
    have := h u s.toks (hu e').1 (hu e').2 (Nat.le_refl _)
    rw [e1] at this
    exact this
  · rename_i e2
    have e3 : x.length ≠ 0 := fun q => e2 (beq_iff_eq.mpr q)
    split
    · rename_i e
      have e' := beq_iff_eq.mp e
      have e0 : y = Str.mk #[] := by cases y; exact congrArg Str.mk (Array.eq_empty_of_size_eq_zero e')
      have e1 : x ++ y = x := by rw [e0]; exact Str.append_empty x
      have := h t s.toks (ht e3 e').1 (ht e3 e').2 (Nat.le_refl _)
      rw [e1] at this
      exact this
    · refine ⟨?_, h s.toks _ (Nat.ne_of_gt hs) (Nat.lt_succ_self _) (Nat.le_succ _)⟩
      rw [Str.length_append, sizeLine_eq]
      omega
theorem lname_con {prog : Program} {w : World} {mean : ExcName → Option Value} {mg mb : Str → Option Value} {news : Led} {pa : Addr} {x y : Str} {t1 t2 : Tok} (hx : x.length ≤ 1000) (hy : y.length ≤ 1000) :
    ∀ (dp un : Nat) (gd : Option (List Code)) (cn : Str) (cs : Scope) (a : Addr) (ccd : Value) (cl : List (Str × Addr)) (outer : List Env) (A₀ : Around) (base h₀ : Heap) (L : Addr) (m : Str → Option Value) (s : Shared) (Q E : Value → Shared → Prop),
    PySem.Challenge.rw_xn0005_01 = PySem.Challenge.rw_xn0005_01 →
    Below A₀ base outer h₀ → Fr h₀ L s.heap m → (hd.heap_39 w.params).In h₀ → News h₀ L s.heap ((pa, tupObj [.str x t1, .str y t2]) :: news) → Top hd.view_39 (looseW hd.view_39 []) mean mg mb h₀ → cs.kind = .function → dp + 3 < recursionLimit → un + 30 < cLine →
    (∀ t h' tk', t ≠ 0 → t < tk' → (∀ b o, s.heap.get? b = some o → h'.get? b = some o) → Q (.str (x ++ Str.ofString "." ++ y) t) { s with heap := h', toks := tk' }) →
    wpAny (model prog w) (ktrTop dp un gd cn cs L a ccd cl outer) (call (.ref 28) [.ref pa]) Q E s := by
  k_fill
  intro dp un gd cn cs a ccd cl outer A₀ base h₀ L m s Q E _ B F X N T hk hdp hu hret
  refine wpAny_call ?_
  have kMark := kstMark
  k_dflt (refine' code_defG ?k1 ?k2 ?k3 ?k4 ?k5 ?kA ?kF ?kK ?k6 ?k7 ?k8 ?k9 ?kB ?_ ?c2 ?c3 ?c4 ?c5; (case kA => exact rfl); (case kF => exact rfl); (case kK => assumption); (case k1 => k_asm); (case k2 => k_asm); (case k3 => k_asm); (case k4 => k_asm); (case k5 => k_asm); (case k6 => k_is); (case k7 => k_is); (case k8 => ktr_room); (case k9 => exact BindsTo.of_eq rfl); (case c5 => decide); (case kB => exact locs rfl); (case c2 => exact rfl); (case c3 => exact rfl); (case c4 => exact rfl); k_whole; intro g' L' h' FG' F' N' B' X' T' GS; (try dsimp only); (try k_lift B'); (try k_fold))
  k_steps
  refine Stop.off ?_
  have hd1 : (Str.ofString ".").length = 1 := by decide +kernel
  refine addS (by omega) (Nat.succ_pos _) (fun _ => ⟨Nat.ne_of_gt (Nat.succ_pos _), Nat.lt_succ_self _⟩) (fun _ e => absurd e (by rw [hd1]; decide)) (fun t3 k3 ht3 hl3 hk3 => ?_)
  try dsimp only at hk3 ⊢
  k_steps
  refine Stop.off ?_
  refine addS (by rw [Str.length_append]; omega) (Nat.lt_of_lt_of_le (Nat.succ_pos _) hk3) (fun e => absurd e (by rw [Str.length_append, hd1]; omega)) (fun _ _ => ⟨ht3, hl3⟩) (fun t4 k4 ht4 hl4 hk4 => ?_)
  k_steps
  rename Fr g' _ _ _ => eF
  rename News g' _ _ _ => eN
  exact hret _ _ _ ht4 hl4 (elt_after (InElt.start _) GS N eF eN (fun p h => h))
end PartC4
end Mine
namespace Mine
section PartC5
open PySem PySem.W PyProof.Rows PyProof.V
set_option maxRecDepth 100000
set_option maxHeartbeats 8000000
theorem freshC5 : True ∧ True := by
  w_top off
  k_with_none
  try walk1
  repeat' (first | trivial | constructor)
local macro_rules | `(tactic| k_room) => `(tactic| (simp only [depth_under_make, depth_under_kw, depth_in1, depth_deeper, depth_caller]; (try dsimp only [ktrTop]); omega))
local macro_rules | `(tactic| walk_at "exec For Name Name cons nil") => `(tactic| refine Stop.on ?_)
local macro_rules | `(tactic| walk_at "pyIter ref") => `(tactic| refine Stop.on ?_)
local macro_rules | `(tactic| walk_at "InvEndG") => `(tactic| refine Stop.on ?_)
local macro_rules | `(tactic| walk_at "newTuple") => `(tactic| (k_here; k_dflt (refine' kup_newTuple ?F ?N ?_ ?z; (case F => k_asm); (case N => k_asm); (case z => kmk_size)); intro D' h' F' N' l1; (try k_lt l1); (try k_sweep)))
local macro_rules | `(tactic| walk_at "subscriptTail") => `(tactic| ((with_reducible show wpAny _ _ (subscriptTail _ _ (Value.ref _) (Value.int _ _)) _ _ _); k_dflt (refine' item_tupleT ?t ?a ?b ?c ?d ?_; (case t => exact News.isTup (by k_asm) (by kst_mem)); (case a => decide); (case b => decide); (case c => rfl); (case d => rfl); k_whole)))
local macro_rules | `(tactic| walk_at "execs cons") => `(tactic| refine wpAny_execs_cons ?_)
local macro_rules | `(tactic| walk_at "execs nil") => `(tactic| refine wpAny_execs_nil ?_)
theorem PairsAre.at {T : Led} {vs : List Value} {ps : List (Str × Str)} (h : PairsAre T vs ps) : ∀ (i : Nat) (v : Value), vs[i]? = some v → ∃ a x y t1 t2, v = .ref a ∧ ps[i]? = some (x, y) ∧ (a, tupObj [.str x t1, .str y t2]) ∈ T ∧ t1 ≠ 0 ∧ t2 ≠ 0 := by
  induction h with
  | nil => intro i v hv; simp at hv
  | cons hm h1 h2 _ ih =>
    intro i v hv
    cases i with
    | zero => exact ⟨_, _, _, _, _, (by simpa using hv.symm), rfl, hm, h1, h2⟩
    | succ i => exact ih i v (by simpa using hv)
def brk (y : Str) : Bool := !(Builtin.Str.occurrences y (Str.ofString "[") 0 y.length 1).isEmpty
def fixP (p : Str × Str) : Str × Str := if brk p.2 = true then (Str.ofString "", Str.ofString "") else p
theorem brk_all : ∀ k : Fin 64, brk (sN (k.val : Int)) = false := by decide +kernel
theorem brk_small {p : Int} (h0 : 0 ≤ p) (h1 : p < 64) : brk (sN p) = false := by
  obtain ⟨n, rfl⟩ := Int.eq_ofNat_of_zero_le h0
  exact brk_all ⟨n, by omega⟩
def cat (q : Str × Str) : Str := q.1 ++ Str.ofString "." ++ q.2
theorem cat_due {g : List (Int × Int)} {p : Int} (hl : 0 ≤ kdfLook g p 0 ∧ kdfLook g p 0 < 64) : cat (fixP (letterOf g p)) = dueOf g p := by
  unfold letterOf dueOf
  by_cases h : kdfHas g p = true
  · rw [if_pos h, if_pos h]
    unfold fixP
    rw [if_neg (by rw [brk_small hl.1 hl.2]; exact Bool.false_ne_true)]
    rfl
  · rw [if_neg h, if_neg h]
    unfold fixP
    rw [if_pos (show brk (Str.ofString "[") = true by decide +kernel)]
    show Str.ofString "" ++ Str.ofString "." ++ Str.ofString "" = Str.ofString "."
    decide +kernel
theorem fix_len {g : List (Int × Int)} {p : Int} (hp : 0 ≤ p ∧ p < 64) (hl : 0 ≤ kdfLook g p 0 ∧ kdfLook g p 0 < 64) : (fixP (letterOf g p)).1.length ≤ 3 ∧ (fixP (letterOf g p)).2.length ≤ 3 := by
  have h0 : (Str.ofString "").length = 0 := by decide +kernel
  have h1 : (Str.ofString "[").length = 1 := by decide +kernel
  unfold fixP letterOf
  have a1 := small_len hp.1 hp.2
  have a2 := small_len hl.1 hl.2
  split <;> split <;> (try dsimp only) <;> refine ⟨?_, ?_⟩ <;> (try dsimp only) <;> omega
theorem ok_all : ∀ k : Fin 64, PyData.strOk (sN (k.val : Int)) = true := by decide +kernel
theorem ok_small {p : Int} (h0 : 0 ≤ p) (h1 : p < 64) : PyData.strOk (sN p) = true := by
  obtain ⟨n, rfl⟩ := Int.eq_ofNat_of_zero_le h0
  exact ok_all ⟨n, by omega⟩
theorem ok_append {x y : Str} (hx : PyData.strOk x = true) (hy : PyData.strOk y = true) : PyData.strOk (x ++ y) = true := by
  unfold PyData.strOk at *
  show (x.cps ++ y.cps).all _ = true
  rw [Array.all_append, hx, hy]
  rfl
theorem due_ok {g : List (Int × Int)} {p : Int} (hp : 0 ≤ p ∧ p < 64) (hl : 0 ≤ kdfLook g p 0 ∧ kdfLook g p 0 < 64) : PyData.strOk (dueOf g p) = true := by
  have hd : PyData.strOk (Str.ofString ".") = true := by decide +kernel
  unfold dueOf
  split
  · exact ok_append (ok_append (ok_small hp.1 hp.2) hd) (ok_small hl.1 hl.2)
  · exact hd
theorem due_dot {g : List (Int × Int)} {p : Int} (hp : 0 ≤ p ∧ p < 64) : (dueOf g p == Str.ofString ".") = !kdfHas g p := by
  unfold dueOf
  by_cases h : kdfHas g p = true
  · rw [if_pos h, h]
    have hd1 : (Str.ofString ".").length = 1 := by decide +kernel
    have h1 := (small_len hp.1 hp.2).2
    refine beq_eq_false_iff_ne.mpr fun e => ?_
    have e2 := congrArg Str.length e
    rw [Str.length_append, Str.length_append, hd1] at e2
    omega
  · rw [if_neg h]
    simp [h]
structure PS where
  vs : List Value
  c : Nat
  nw : Led
def PL (xa : Addr) (bs : Led) (c : PS) : Led := (xa, listOf c.vs.toArray c.c) :: (c.nw ++ bs)
def PP (bs : Led) (ps : List (Str × Str)) (xa : Addr) (i : Nat) (c : PS) : Prop :=
  PairsAre (c.nw ++ bs) c.vs ((ps.take i).map fixP) ∧ OwnOff (c.nw ++ bs) [xa] ∧ ∀ p ∈ c.nw, ∀ q ∈ bs, q.1 < p.1
theorem post_old {h₀ h' : Heap} {L xa : Addr} {m' m₀ : Str → Option Value} {own T nw bs : Led} {s₁ : Shared} {tk i c c' : Nat} {ps : List (Str × Str)} {a : Addr} {x y : Str} {t1 t2 : Tok} {vs : List Value}
    (hn : ps[i]? = some (x, y)) (hP : PP bs ps xa i ⟨vs, c, nw⟩) (hT : T = nw ++ bs ++ own) (hoff : OwnOff own ((PL xa bs ⟨vs, c, nw⟩).map (·.1)))
    (F : Fr h₀ L h' m') (N : News h₀ L h' ((xa, listOf (vs ++ [Value.ref a]).toArray c') :: T)) (ha : (a, tupObj [.str x t1, .str y t2]) ∈ bs) (ht1 : t1 ≠ 0) (ht2 : t2 ≠ 0) (hb : brk y = false) (hr : ∀ z, z ≠ Str.ofString "v" → m' z = m₀ z) :
    InvEndG h₀ L (LS (PL xa bs) (fun _ => []) (Str.ofString "v") [] m₀ (PP bs ps xa (i + 1))) own s₁ { s₁ with heap := h', toks := tk } := by
  obtain ⟨hpa, htl, hlt⟩ := hP
  subst hT
  refine loopL_end ⟨vs ++ [Value.ref a], c', nw⟩ F N ?_ ?_ hoff (fun _ h => nomatch h) (fun z hz _ _ => hr z hz) ?_
  · exact List.forall_mem_cons.mpr ⟨.head _, fun p hp => .tail _ (List.mem_append.mpr (.inl hp))⟩
  · exact fun p hp => .tail _ (List.mem_append.mpr (.inr hp))
  · refine ⟨?_, htl, hlt⟩
    rw [take_snoc hn, List.map_append]
    show PairsAre _ _ (_ ++ [fixP (x, y)])
    unfold fixP
    rw [if_neg (by rw [hb]; exact Bool.false_ne_true)]
    exact hpa.snoc (List.mem_append.mpr (.inr ha)) ht1 ht2
theorem post_new {h₀ h' : Heap} {L xa D : Addr} {m' m₀ : Str → Option Value} {own T nw bs : Led} {s₁ : Shared} {tk i c c' : Nat} {ps : List (Str × Str)} {x y : Str} {t1 t2 : Tok} {vs : List Value}
    (hn : ps[i]? = some (x, y)) (hP : PP bs ps xa i ⟨vs, c, nw⟩) (hT : T = nw ++ bs ++ own) (hoff : OwnOff own ((PL xa bs ⟨vs, c, nw⟩).map (·.1)))
    (F : Fr h₀ L h' m') (N : News h₀ L h' ((D, tupObj [.str (Str.ofString "") t1, .str (Str.ofString "") t2]) :: (xa, listOf (vs ++ [Value.ref D]).toArray c') :: T)) (eL : xa < D ∧ AllLt D T) (ht1 : t1 ≠ 0) (ht2 : t2 ≠ 0) (hb : brk y = true) (hr : ∀ z, z ≠ Str.ofString "v" → m' z = m₀ z) :
    InvEndG h₀ L (LS (PL xa bs) (fun _ => []) (Str.ofString "v") [] m₀ (PP bs ps xa (i + 1))) own s₁ { s₁ with heap := h', toks := tk } := by
  obtain ⟨hpa, htl, hlt⟩ := hP
  subst hT
  have hD := kst_ltOf eL.2
  refine loopL_end ⟨vs ++ [Value.ref D], c', (D, tupObj [.str (Str.ofString "") t1, .str (Str.ofString "") t2]) :: nw⟩ F N ?_ ?_ ?_ (fun _ h => nomatch h) (fun z hz _ _ => hr z hz) ?_
  · exact List.forall_mem_cons.mpr ⟨.tail _ (.head _), List.forall_mem_cons.mpr ⟨.head _, fun p hp => .tail _ (.tail _ (List.mem_append.mpr (.inl hp)))⟩⟩
  · exact fun p hp => .tail _ (.tail _ (List.mem_append.mpr (.inr hp)))
  · refine ownOff_cons (fun p hp => hoff p hp _ (.head _)) (ownOff_cons (fun p hp => Nat.ne_of_lt (hD p (List.mem_append.mpr (.inr hp)))) ?_)
    exact ownOff_sub hoff (fun b hb => .tail _ hb)
  · refine ⟨?_, ?_, ?_⟩
    · rw [take_snoc hn, List.map_append]
      show PairsAre _ _ (_ ++ [fixP (x, y)])
      unfold fixP
      rw [if_pos hb]
      exact (hpa.mono (fun p h => .tail _ h)).snoc (.head _) ht1 ht2
    · intro p hp b hb
      rcases List.mem_cons.mp hp with rfl | hp
      · rw [List.mem_singleton.mp hb]; exact (Nat.ne_of_lt eL.1).symm
      · exact htl p hp b hb
    · intro p hp q hq
      rcases List.mem_cons.mp hp with rfl | hp
      · exact hD q (List.mem_append.mpr (.inl (List.mem_append.mpr (.inr hq))))
      · exact hlt p hp q hq
theorem post_con {prog : Program} {w : World} {mean : ExcName → Option Value} {mg mb : Str → Option Value} {rest : Led} {lvs : List Value} {lc : Nat} {l : Addr} {ps : List (Str × Str)}
    (hp : PairsAre rest lvs ps) (hlen : ps.length ≤ 40) :
    Con 3 prog w mean mg mb 21 [.ref l] ((l, listOf lvs.toArray lc) :: rest) (fun v tl => ∃ x vs c nw, v = .ref x ∧ tl = (x, listOf vs.toArray c) :: nw ∧ PairsAre (nw ++ ((l, listOf lvs.toArray lc) :: rest)) vs (ps.map fixP)) := by
  have hl := hp.length
  unfold Con
  k_fill
  intro dp un gd' cn cs a ccd cl outer A₀ base h₀ L m s Q E _ B F X N T hk hdp hu hret
  refine wpAny_call ?_
  k_dflt cell_enter
  have kMark := kstMark
  k_steps
  refine Stop.off ?_
  rename Fr _ _ _ _ => lF'
  rename News _ _ _ _ => lN'
  with_unfolding_all refine' For_invVF lF' ?k1 ?k2 ?_
  case k1 => exact rfl
  case k2 => exact rfl
  k_steps
  refine Stop.off ?_
  rename Fr _ _ _ _ => lF'
  rename News _ _ _ _ => lN'
  rename_i xa _ l1 _
  with_unfolding_all refine' loopL (σ := PS) (vs := lvs) (nn := lc) (PL xa ((l, listOf lvs.toArray lc) :: rest)) (fun _ => []) [] (PP ((l, listOf lvs.toArray lc) :: rest) ps xa) ⟨[], _, []⟩ ?hh ?hl lF' lN' (fun _ h => h) ?hk ?hp ?turn ?done
  case hh => exact rfl
  case hl => exact fun i c h => .tail _ (List.mem_append.mpr (.inr (.head _)))
  case hk => exact fun _ h => nomatch h
  case hp =>
    refine ⟨.nil, ?_, fun p hp => nomatch hp⟩
    intro p hp b hb
    rw [List.mem_singleton.mp hb]
    rcases List.mem_cons.mp hp with rfl | hp
    · exact Nat.ne_of_lt l1.1
    · exact Nat.ne_of_lt (kst_ltOf l1.2 p hp)
  case turn =>
    intro i v c u h tk own hv hoff hP kFr kNews
    obtain ⟨vs, c, nw⟩ := c
    have hP' := hP
    have hoff' := hoff
    obtain ⟨hpa, htl, hlt⟩ := hP'
    dsimp only [kstB, PL] at kFr kNews hoff' hpa htl hlt
    obtain ⟨ea, ex, ey, et1, et2, rfl, hn, hm, ht1, ht2⟩ := hp.at i v hv
    obtain ⟨T, hT⟩ : ∃ T, T = nw ++ ((l, listOf lvs.toArray lc) :: rest) ++ own := ⟨_, rfl⟩
    rw [List.cons_append, ← hT] at kNews
    have hTo : OwnOff T [xa] := by rw [hT]; exact kd_off (fun p hp b hb => hoff' p hp b (by rw [List.mem_singleton.mp hb]; exact .head _)) htl
    have hm' : (ea, tupObj [.str ex et1, .str ey et2]) ∈ ((l, listOf lvs.toArray lc) :: rest : Led) := .tail _ hm
    have hT2 : (ea, tupObj [.str ex et1, .str ey et2]) ∈ T := by rw [hT]; exact List.mem_append.mpr (.inl (List.mem_append.mpr (.inr hm')))
    have hll := hpa.length
    simp only [List.length_map, List.length_take] at hll
    clear hpa htl hlt hoff'
    try dsimp only
    try k_fold
    k_steps
    · refine Stop.off ?_
      rename Fr _ _ _ _ => eF
      rename News _ _ _ _ => eN
      simp only [List.push_toArray] at eN
      refine post_old hn hP hT hoff eF eN hm' ht1 ht2 (by unfold brk; simp_all) (fun z hz => by simp [hz])
    · refine Stop.off ?_
      rename Fr _ _ _ _ => eF
      rename News _ _ _ _ => eN
      with_reducible rename (_ < _ ∧ AllLt _ T) => eL
      simp only [List.push_toArray] at eN
      refine post_new hn hP hT hoff eF eN eL (Nat.ne_of_gt (Nat.succ_pos _)) (Nat.ne_of_gt (Nat.succ_pos _)) (by unfold brk; simp_all) (fun z hz => by simp [hz])
  case done =>
    intro c u h tk hP kFr kNews
    obtain ⟨vs, c, nw⟩ := c
    have hP' := hP
    obtain ⟨hpa, htl, hlt⟩ := hP'
    dsimp only [kstB, PL] at kFr kNews hpa htl hlt
    rw [hl, List.take_length] at hpa
    try dsimp only
    try k_fold
    k_steps
    refine hret _ ((xa, listOf vs.toArray c) :: nw) _ _ (by assumption) (by assumption) ?_ ⟨xa, vs, c, nw, rfl, rfl, hpa⟩
    intro p hp q hq
    rcases List.mem_cons.mp hp with rfl | hp
    · rcases List.mem_cons.mp hq with rfl | hq
      · exact l1.1
      · exact kst_ltOf l1.2 q hq
    · exact hlt p hp q hq
end PartC5
end Mine
namespace Mine
section PartC7
open PySem PySem.W PyProof.Rows PyProof.V
set_option maxRecDepth 100000
set_option maxHeartbeats 8000000
theorem freshC7 : True ∧ True := by
  w_top off
  k_with_none
  try walk1
  repeat' (first | trivial | constructor)
local macro_rules | `(tactic| k_room) => `(tactic| (simp only [depth_under_make, depth_under_kw, depth_in1, depth_deeper, depth_caller]; (try dsimp only [ktrTop]); omega))
local macro_rules | `(tactic| walk_at "exec For Name Name cons nil") => `(tactic| refine Stop.on ?_)
local macro_rules | `(tactic| walk_at "pyIter ref") => `(tactic| refine Stop.on ?_)
local macro_rules | `(tactic| walk_at "InvEndG") => `(tactic| refine Stop.on ?_)
local macro_rules | `(tactic| walk_at "compareOp Is str str") => `(tactic| refine Stop.on ?_)
theorem booked {w : World} {h : Heap} (X : (hd.heap_39 w.params).In h) : NoneBooked h := by
  have e : nsOkIn (hd.heap_39 w.params) cStatics = true := by kernel_rfl
  have q : nsIn (hd.heap_39 w.params) cStatics sharingNotToldKey = some none := by kernel_rfl
  exact ⟨h.nsMap cStatics, .of_isNs (isNs_of_in X e), nsMap_none_of_in X e q⟩
theorem is_strT {M : Model} {A : Around} {E : Value → Shared → Prop} {s : Shared} {y z : Str} {u v : Tok} {Q : Value → Shared → Prop} (h0 : u ≠ 0) (h1 : v ≠ 0) (huv : u ≠ v) (hb : NoneBooked s.heap) (hq : ∀ b, (b = true → y = z) → Q (.bool b) s) :
    wpAny M A (compareOp .Is (.str y u) (.str z v)) Q E s := by
  show wpAny M A (do return .bool (← isSame (.str y u) (.str z v))) Q E s
  refine wpAny_bind ?_
  show wpAny M A (isSame.created (y == z) u v) _ E s
  unfold isSame.created
  refine wpAny_ite ?_
  rw [if_neg (by simp [h0, h1])]
  refine wpAny_ite ?_
  rw [if_neg (by simp [huv])]
  refine wpAny_ite ?_
  split
  · exact wpAny_pure (wpAny_pure (hq _ (fun e => nomatch e)))
  · rename_i hne
    have hyz : y = z := by
      cases e : (y == z) with
      | true => exact eq_of_beq e
      | false => rw [e] at hne; exact absurd rfl hne
    refine wpAny_bind (wpAny_sharingNotTold_none hb ?_)
    first | rw [if_neg Bool.false_ne_true] | simp only [Bool.false_eq_true, if_false]
    refine wpAny_bind (wpAny_sharingNotTold_none hb ?_)
    first | rw [if_neg Bool.false_ne_true] | simp only [Bool.false_eq_true, if_false]
    exact wpAny_bind (wpAny_rule (wpAny_bind (wpAny_askSetting (wpAny_pure (wpAny_pure (hq _ fun _ => hyz))))))
def StrsB (B : Nat) (vs : List Value) (ss : List Str) : Prop := vs.length = ss.length ∧ ∀ (i : Nat) (v : Value), vs[i]? = some v → ∃ y t, v = .str y t ∧ ss[i]? = some y ∧ t ≠ 0 ∧ t < B
structure KS where
  n : Int
  t : Tok
def sEq (b y : Str) : Bool := y == b
def KP (b : Str) (ss : List Str) (i : Nat) (c : KS) : Prop := c.n = (((ss.take i).filter (sEq b)).length : Int) ∧ c.n ≤ i
theorem kp_yes {b y : Str} {ss : List Str} {i : Nat} {n : Int} {t t' : Tok} (h : KP b ss i ⟨n, t⟩) (hn : ss[i]? = some y) (e : sEq b y = true) : KP b ss (i + 1) ⟨n + 1, t'⟩ := by
  obtain ⟨h1, h2⟩ := h
  dsimp only at h1 h2
  refine ⟨?_, ?_⟩
  · rw [take_snoc hn, List.filter_append]
    simp [e, h1]
  · show n + 1 ≤ ((i + 1 : Nat) : Int)
    omega
theorem kp_no {b y : Str} {ss : List Str} {i : Nat} {n : Int} {t t' : Tok} (h : KP b ss i ⟨n, t⟩) (hn : ss[i]? = some y) (e : sEq b y = false) : KP b ss (i + 1) ⟨n, t'⟩ := by
  obtain ⟨h1, h2⟩ := h
  dsimp only at h1 h2
  refine ⟨?_, ?_⟩
  · rw [take_snoc hn, List.filter_append]
    simp [e, h1]
  · show n ≤ ((i + 1 : Nat) : Int)
    omega
theorem countOf_con {prog : Program} {w : World} {mean : ExcName → Option Value} {mg mb : Str → Option Value} {rest : Led} {vs : List Value} {ss : List Str} {lc : Nat} {l : Addr} {b : Str} {tb : Tok}
    (hs : StrsB tb vs ss) (hlen : ss.length ≤ 40) (htb : tb ≠ 0) :
    Con 3 prog w mean mg mb 49 [.ref l, .str b tb] ((l, listOf vs.toArray lc) :: rest) (fun v tl => ∃ t, v = .int ((ss.filter (sEq b)).length : Int) t ∧ tl = []) := by
  unfold Con
  k_fill
  intro dp un gd' cn cs a ccd cl outer A₀ base h₀ L m s Q E _ B F X N T hk hdp hu hret
  refine wpAny_call ?_
  k_dflt cell_enter
  have kMark := kstMark
  k_steps
  refine Stop.off ?_
  rename Fr _ _ _ _ => lF'
  rename News _ _ _ _ => lN'
  with_unfolding_all refine' For_invVF lF' ?k1 ?k2 ?_
  case k1 => exact rfl
  case k2 => exact rfl
  k_steps
  refine Stop.off ?_
  rename Fr _ _ _ _ => lF'
  rename News _ _ _ _ => lN'
  with_unfolding_all refine' loopL (σ := KS) (vs := vs) (nn := lc) (fun _ => (l, listOf vs.toArray lc) :: rest) (fun c => [(Str.ofString "count", .int c.n c.t)]) [] (KP b ss) ⟨0, _⟩ ?hh ?hl lF' lN' (fun _ h => h) ?hk ?hp ?turn ?done
  case hk => kst_all
  case hh => exact rfl
  case hl => exact fun i c h => .head _
  case hp => exact ⟨rfl, Int.le_refl 0⟩
  case turn =>
    intro i v c u h tk own hv hoff hP kFr kNews
    obtain ⟨n, t⟩ := c
    obtain ⟨hP1, hP2⟩ := hP
    dsimp only [kstB] at kFr kNews hP1 hP2
    obtain ⟨y, ty, rfl, hn, hy0, hyB⟩ := hs.2 i v hv
    have hi : i < 40 := by have := (List.getElem?_eq_some_iff.mp hn).1; omega
    have hn0 : 0 ≤ n := by rw [hP1]; exact Int.natCast_nonneg _
    try dsimp only
    try k_fold
    k_steps
    refine Stop.off ?_
    refine is_strT hy0 htb (Nat.ne_of_lt hyB) (booked (by k_in)) (fun r hr => ?_)
    try dsimp only
    k_steps
    all_goals (
      refine Stop.off ?_
      rename Fr _ _ _ _ => eF
      rename News _ _ _ _ => eN
      refine' loopL_end ⟨_, _⟩ eF eN (fun p hp => List.mem_append.mpr (.inl hp)) (fun p hp => List.mem_append.mpr (.inr hp)) hoff ?hk ?hr ?hp
      case hk => kst_all
      case hr => kst_same
      case hp =>
        first
          | (refine kp_yes (t := t) ⟨hP1, hP2⟩ hn ?_
             first
               | (have e := hr (by first | assumption | rfl); subst e; unfold sEq; exact beq_self_eq_true _)
               | (unfold sEq; first | assumption | simp_all))
          | (refine kp_no (t := t) ⟨hP1, hP2⟩ hn ?_
             unfold sEq; first | assumption | simp_all))
  case done =>
    intro c u h tk hP kFr kNews
    obtain ⟨n, t⟩ := c
    obtain ⟨hP1, hP2⟩ := hP
    dsimp only [kstB] at kFr kNews hP1 hP2
    rw [hs.1, List.take_length] at hP1
    try dsimp only
    try k_fold
    k_steps
    refine hret _ [] _ _ (by assumption) (by assumption) (fun p hp => nomatch hp) ⟨t, by rw [← hP1], rfl⟩
end PartC7
end Mine
namespace Mine
section PartT1
open PySem PySem.W PyProof.Rows PyProof.V PySem.Spec
set_option maxRecDepth 100000
set_option maxHeartbeats 8000000
theorem freshT1 : True ∧ True := by
  w_top off
  k_with_none
  try walk1
  repeat' (first | trivial | constructor)
section
variable {prog : Program} {w : World} {A : Around} {E : Value → Shared → Prop} {s : Shared}
theorem neI {b I : Nat} {k : Nat} (h : b < I) : b ≠ I + k := Nat.ne_of_lt (Nat.lt_of_lt_of_le h (Nat.le_add_right _ _))
theorem neK {I k j : Nat} (h : k ≠ j) : I + k ≠ I + j := fun e => h (Nat.add_left_cancel e)
theorem neS {I k : Nat} : I + (k + 1) ≠ I := fun e => absurd e (Nat.ne_of_gt (Nat.lt_add_of_pos_right (Nat.succ_pos k)))
theorem compLoopT {elt iter : Expr} {x : Str} {px : Pos} {scope : Scope} {pos : Pos} {l I D : Addr} {items : List Value} {cenv : Env} {m : Str → Option Value} {R : Result → Shared → Prop}
    (G : Value → Value → Nat → Prop) (hmono : ∀ v r t t', t ≤ t' → G v r t → G v r t') (hh : A.handled = none)
    (hx : cenv.kindOf x = some .local) (hp : (cenv.scope.kind == .class || (cenv.scope.kind == .module && cenv.locals != cenv.globals)) = false)
    (hDC : D ≠ cenv.locals) (hDI : D ≠ I) (hCI : cenv.locals ≠ I) (hDl : D ≠ l) (hCl : cenv.locals ≠ l) (hIl : l ≠ I)
    (hit : s.heap.IsListIter I l 0) (hl : s.heap.IsList l items.toArray) (hacc : s.heap.PlainList D #[]) (hn : s.heap.Ns cenv.locals m)
    (helt : ∀ (i : Nat) v s₂ m₂, items[i]? = some v → s₂.heap.Ns cenv.locals m₂ → m₂ x = some v → (∀ b o, b ≠ cenv.locals → b ≠ I → b ≠ D → s.heap.get? b = some o → s₂.heap.get? b = some o) →
      wpAny (model prog w) A (eval elt cenv) (fun r s₃ => G v r s₃.toks ∧ Keeps s₂ s₃) (notedBy (model prog w) A cenv fun e s' => R (.error e) s') s₂)
    (hR : ∀ h' tk m' (ys : List Value), h'.Ns cenv.locals m' → h'.PlainList D ys.toArray → Paired (fun v r => G v r tk) items ys →
      (∀ b o, b ≠ cenv.locals → b ≠ I → b ≠ D → s.heap.get? b = some o → h'.get? b = some o) → R (.ok .next) { s with heap := h', toks := tk })
    (hsz : items.length ≤ sizeLine) :
    codeAny (model prog w) A (.compLoop (.ListComp elt [⟨.Name x px, iter, [], 0⟩] scope pos) 0 (.ref I) (.ref D) cenv) R s := by
  have W := Walks.list (prog := prog) (w := w) hh I l hIl items.toArray
  have hsize : items.toArray.size = items.length := by simp
  rw [hsize] at W
  refine codeAny_compLoop_tests (fun k s' => ∃ (h' : Heap) (tk : Nat) (m' : Str → Option Value) (ys : List Value) (i : Nat), s' = { s with heap := h', toks := tk } ∧ h'.IsListIter I l i ∧ h'.IsList l items.toArray ∧ h'.PlainList D ys.toArray ∧ h'.Ns cenv.locals m' ∧
      i ≤ items.length ∧ k = items.length + 1 - i ∧ Paired (fun v r => G v r tk) (items.take i) ys ∧ (∀ b o, b ≠ cenv.locals → b ≠ I → b ≠ D → s.heap.get? b = some o → h'.get? b = some o)) ?_ (items.length + 1)
    ⟨s.heap, s.toks, m, [], 0, rfl, hit, hl, hacc, hn, Nat.zero_le _, rfl, .nil, fun _ _ _ _ _ e => e⟩
  rintro k s' ⟨h, tk, m', ys, i, rfl, hit', hl', hacc', hn', hi, rfl, hF, hk⟩
  by_cases hlt : i < items.length
  · refine wpAny_with_toks (n := tk) (Nat.le_refl _) (W.item i _ _ _ hlt ⟨hit', hl'⟩ fun v h₁ tk₁ hP st₁ hk₁ htk₁ => ?_)
    have hP' : items[i]? = some v := by simpa using hP
    have n1 : ∀ b o, b ≠ I → h.get? b = some o → h₁.get? b = some o := fun b o hb e => hk₁ b o (by simpa using hb) e
    refine wpAny_assign_Name (wpAny_storeName_local hx (hn'.at' fun o e => n1 _ o hCI e) (fun h₂ hn₂ hs₂ => ?_) hp)
    have n2 : ∀ b o, b ≠ cenv.locals → b ≠ I → h.get? b = some o → h₂.get? b = some o := fun b o hbC hbI e => hs₂.extBut b o hbC (n1 b o hbI e)
    refine wpAny_tests_nil ?_
    simp only [if_true]
    refine wpAny_mono (wpAny_toks_of (n := tk₁ + 1) (Nat.le_refl _) (helt i v _ _ hP' hn₂ (by simp) (fun b o hbC hbI hbD e => n2 b o hbC hbI (hk b o hbC hbI hbD e)))) (fun r s₄ h₄ => ?_) fun _ _ e => e.2
    obtain ⟨htk₄, hG, h₄, tk₄, rfl, hk₄⟩ := h₄
    have hlen : ys.length = i := by
      have := hF.length
      rw [List.length_take] at this
      omega
    refine wpAny_list_append_plain (hsz := by rw [List.size_toArray, hlen]; omega) ((hacc'.at fun o e => n2 D o hDC hDI e).at fun o e => hk₄ _ o e) fun h₅ hl₅ hs₅ => ?_
    refine ⟨items.length + 1 - (i + 1), by omega, h₅, tk₄, _, ys ++ [r], i + 1, rfl, ?_, ?_, ?_, (hn₂.keeps hk₄).sameBut hs₅ (Ne.symm hDC), hlt, rfl, ?_, ?_⟩
    · have e0 : h₁.IsListIter I l (i + 1) := st₁.1
      exact ((e0.at fun o e => hs₂.extBut I o (Ne.symm hCI) e).at fun o e => hk₄ I o e).at fun o e => hs₅.extBut I o (Ne.symm hDI) e
    · exact ((hl'.at fun o e => n2 l o (Ne.symm hCl) hIl e).at fun o e => hk₄ l o e).at fun o e => hs₅.extBut l o (Ne.symm hDl) e
    · rw [← List.push_toArray]; exact hl₅
    · rw [take_snoc hP']
      exact Paired.snoc (hF.mono fun v r hv => hmono v r _ _ (Nat.le_trans htk₁ (Nat.le_trans (Nat.le_succ _) htk₄)) hv) hG
    · exact fun b o hbC hbI hbD e => hs₅.extBut b o hbD (hk₄ b o (n2 b o hbC hbI (hk b o hbC hbI hbD e)))
  · have hin : i = items.length := Nat.le_antisymm hi (Nat.not_lt.mp hlt)
    subst hin
    refine wpAny_with_toks (n := tk) (Nat.le_refl _) (W.done _ _ _ ⟨hit', hl'⟩ fun h₁ tk₁ hk₁ htk₁ => ?_)
    have n1 : ∀ b o, b ≠ I → h.get? b = some o → h₁.get? b = some o := fun b o hb e => hk₁ b o (by simpa using hb) e
    rw [List.take_length] at hF
    exact hR h₁ tk₁ m' ys (hn'.at' fun o e => n1 _ o hCI e) (hacc'.at fun o e => n1 _ o hDI e) (hF.mono fun v r hv => hmono v r _ _ htk₁ hv) fun b o hbC hbI hbD e => n1 b o hbI (hk b o hbC hbI hbD e)

theorem assign_compT {elt iter : Expr} {x y : Str} {px py : Pos} {scope : Scope} {pos spos : Pos} {Q : Flow → Shared → Prop} {env : Env}
    (hsw : swapsWith (.ListComp elt [⟨.Name x px, iter, [], 0⟩] scope pos) (some (.Name y py)) spos.line env = pure true)
    (hfree : ∀ z ∈ scope.names, z.2 ≠ .free) (hcell : ∀ z ∈ scope.names, z.2 ≠ .cell) (hkind : scope.kind = .function)
    (hnames : ∀ z ∈ scope.names, z.2 = .local → scope.names.lookup z.1 = some .local) (hx : scope.names.lookup x = some .local)
    (hy : env.kindOf y = some .local) (hp : (env.scope.kind == .class || (env.scope.kind == .module && env.locals != env.globals)) = false) (hh : A.handled = none)
    (h : wpAny (model prog w) A (eval iter env) (fun xv s₁ => ∃ (G : Value → Value → Nat → Prop) (l : Addr) (items : List Value) (m : Str → Option Value), (∀ v r t t', t ≤ t' → G v r t → G v r t') ∧ xv = .ref l ∧ s₁.heap.IsList l items.toArray ∧ items.length ≤ sizeLine ∧ s₁.heap.Ns env.locals m ∧
        (∀ C (i : Nat) v s₃ m₃ E', items[i]? = some v → C ≠ env.locals → s₃.heap.Ns C m₃ → m₃ x = some v → (∀ b o, s₁.heap.get? b = some o → s₃.heap.get? b = some o) →
            wpAny (model prog w) A (eval elt (compEnv scope C env)) (fun r s₄ => G v r s₄.toks ∧ Keeps s₃ s₄) E' s₃) ∧
        (∀ D h' tk (ys : List Value), 0 < tk → s₁.heap.objs.size ≤ D → h'.PlainList D ys.toArray → Paired (fun v r => G v r tk) items ys → h'.Ns env.locals (fun z => if z = y then some (.ref D) else m z) →
          (∀ b o, b ≠ env.locals → s₁.heap.get? b = some o → h'.get? b = some o) → Q .next { s₁ with heap := h', toks := tk })) E s)
    (hs : ∀ x, foldedSetIterable iter env x = pure x := by intro _; rfl) :
    wpAny (model prog w) A (exec (.Assign [.Name y py] (.ListComp elt [⟨.Name x px, iter, [], 0⟩] scope pos) spos) env) Q E s := by
  rw [exec_Assign_Name_used _ _ _ _ hsw]
  refine wpAny_bind (wpAny_standAt (wpAny_bind ?_))
  show wpAny _ A (do let _ ← comprehension (.ListComp elt [⟨.Name x px, iter, [], 0⟩] scope pos) scope env _ (newList []) false (eval iter env) (some (assign (.Name y py) env))) _ _ s
  refine wpAny_bind (wpAny_mono (wpAny_comprehension_use (Q := fun _ s' => Q .next s') rfl hs hfree hkind hnames (wpAny_mono h (fun xv s₁ h₁ => ?_) fun _ _ e => e))
    (fun _ s' hq => wpAny_pure (wpAny_pure hq)) fun _ _ e => e)
  obtain ⟨G, l, items, m, hmono, rfl, hl, hsz, hn, helt, hQ⟩ := h₁
  have hll : l < s₁.heap.objs.size := by obtain ⟨_, e, _⟩ := id hl; exact Heap.lt_size e
  refine wpAny_pyIter_list hl ?_
  refine wpAny_newObj_type (wpAny_newFunctionEnv hcell (by intro y hy; simp at hy) (fun h₁ hns₁ hsb₁ => ?_) hkind)
  dsimp only at hns₁ hsb₁ ⊢
  generalize hI : s₁.heap.objs.size = I at hns₁ hsb₁ ⊢
  generalize hH1 : s₁.heap.push { cls := .type "list_iterator", data := .fields #[.ref l, .int 0 0] } = H1 at hns₁ hsb₁ ⊢
  generalize hH2 : H1.push { cls := .type "list", dict := none, data := .seq ([] : List Value).toArray } = H2 at hns₁ hsb₁ ⊢
  have z1 : H1.objs.size = I + 1 := by rw [← hH1, Heap.size_push, hI]
  have z2 : H2.objs.size = I + 2 := by rw [← hH2, Heap.size_push, z1]
  rw [z2] at hns₁ hsb₁
  have o1 : ∀ b o, s₁.heap.get? b = some o → H1.get? b = some o := fun b o e => by rw [← hH1]; exact Heap.get?_push_of_some _ e
  have o2 : ∀ b o, H1.get? b = some o → H2.get? b = some o := fun b o e => by rw [← hH2]; exact Heap.get?_push_of_some _ e
  have iI : H1.get? I = some { cls := .type "list_iterator", data := .fields #[.ref l, .int 0 0] } := by rw [← hH1, ← hI]; exact Heap.get?_push_size _ rfl
  have iD : H2.get? (I + 1) = some { cls := .type "list", dict := none, data := .seq ([] : List Value).toArray } := by rw [← hH2, ← z1]; exact Heap.get?_push_size _ rfl
  have lt0 : ∀ (b : Nat) (o : Obj), s₁.heap.get? b = some o → b < I := fun b o e => by rw [← hI]; exact Heap.lt_size e
  have hll' : l < I := by rw [← hI]; exact hll
  have old : ∀ b o, s₁.heap.get? b = some o → h₁.get? b = some o := fun b o e => hsb₁.extBut b o (neI (lt0 b o e)) (Heap.get?_push_of_some _ (o2 b o (o1 b o e)))
  have hlive : env.locals < I := by obtain ⟨o, _, _, e, _⟩ := id hn; exact lt0 _ _ e
  have loop : ∀ s₃ : Shared, s₃ = { s₁ with heap := h₁, toks := s₁.toks + ([] : List (Str × Value)).length } →
      codeAny (model prog w) A (.compLoop (.ListComp elt [⟨.Name x px, iter, [], 0⟩] scope pos) 0 (.ref I) (.ref (I + 1)) (compEnv scope (I + 2) env)) (fun r s' => match r with
          | .ok _ => wpAny (model prog w) A (assign (.Name y py) env (.ref (I + 1))) (fun _ s'' => ∃ m, s''.heap.Ns (I + 2) m ∧ ∀ h', Heap.SameBut (I + 2) s''.heap h' → Q .next { s'' with heap := h' }) E s'
          | .error x => ∃ m, s'.heap.Ns (I + 2) m ∧ ∀ h', Heap.SameBut (I + 2) s'.heap h' → wpAny (model prog w) A (PySem.passOn "comprehension.variables-let-go" x (compEnv scope (I + 2) env)) (fun (_ : Value) s' => Q .next s') E { s' with heap := h' }) s₃ := by
    rintro s₃ rfl
    refine compLoopT (cenv := compEnv scope (I + 2) env) (l := l) (items := items) G hmono hh hx (by simp [compEnv, hkind]) (neK (by decide)) neS neS (neI hll').symm (neI hll').symm (Nat.ne_of_lt hll') ?_ ?_ ?_ hns₁ ?_ ?_ hsz
    · exact ⟨_, hsb₁.extBut I _ (Ne.symm neS) (Heap.get?_push_of_some _ (o2 _ _ iI)), rfl, rfl⟩
    · exact hl.at fun o e => old l o e
    · exact ⟨_, hsb₁.extBut _ _ (neK (by decide)) (Heap.get?_push_of_some _ iD)⟩
    · intro i v s₂ m₂ hv hn₂ hm₂ hk
      exact helt (I + 2) i v s₂ m₂ _ hv (neI hlive).symm hn₂ hm₂ fun b o e => hk b o (neI (lt0 b o e)) (Nat.ne_of_lt (lt0 b o e)) (neI (lt0 b o e)) (old b o e)
    · intro h' tk m' ys hn' hpl hF hk
      have up : ∀ b o, s₁.heap.get? b = some o → h'.get? b = some o := fun b o e => hk b o (neI (lt0 b o e)) (Nat.ne_of_lt (lt0 b o e)) (neI (lt0 b o e)) (old b o e)
      refine wpAny_assign_Name (wpAny_storeName_local hy (hn.at' fun o e => up _ o e) (fun h₂ hn₂ hs₂ => ?_) hp)
      refine ⟨m', hn'.sameBut hs₂ ((neI hlive).symm), fun h₃ hs₃ => ?_⟩
      refine hQ (I + 1) h₃ _ ys (Nat.succ_pos _) (by rw [hI]; exact Nat.le_succ _) ((hpl.at fun o e => hs₂.extBut _ o ((neI hlive).symm) e).at fun o e => hs₃.extBut _ o (neK (by decide)) e) (hF.mono fun v r hv => hmono v r _ _ (Nat.le_succ _) hv)
        (hn₂.sameBut hs₃ (neI hlive)) fun b o hb e => hs₃.extBut b o (neI (lt0 b o e)) (hs₂.extBut b o hb (up b o e))
  rw [z1]
  have hit₁ : h₁.IsListIter I l 0 := ⟨_, hsb₁.extBut I _ (Ne.symm neS) (Heap.get?_push_of_some _ (o2 _ _ iI)), rfl, rfl⟩
  have lp := loop _ rfl
  rw [z2]
  exact codeAny_compStart_list lp ((Walks.list (prog := prog) (w := w) hh I l (Nat.ne_of_lt hll') items.toArray).self 0 _ _ _ ⟨hit₁, hl.at fun o e => old l o e⟩ lp)
end
end PartT1
end Mine
namespace Mine
section PartC6
open PySem PySem.W PyProof.Rows PyProof.V
set_option maxRecDepth 100000
set_option maxHeartbeats 8000000
theorem freshC6 : True ∧ True := by
  w_top off
  k_with_none
  try walk1
  repeat' (first | trivial | constructor)
local macro_rules | `(tactic| walk_at "exec For Name Name cons nil") => `(tactic| refine Stop.on ?_)
local macro_rules | `(tactic| k_room) => `(tactic| (simp only [depth_under_make, depth_under_kw, depth_in1, depth_deeper, depth_caller]; (try dsimp only [ktrTop]); omega))
local macro_rules | `(tactic| walk_at "exec Assign cons ListComp") => `(tactic| refine Stop.on ?_)
local macro_rules | `(tactic| walk_at "compareOp NotEq ref ref") => `(tactic| refine Stop.on ?_)
local macro_rules | `(tactic| walk_at "pyIter ref") => `(tactic| refine Stop.on ?_)
local macro_rules | `(tactic| walk_at "compareOp In int ref") => `(tactic| (refine kdf_in (TabAt.ofNews (by k_asm) (by kst_mem) (by assumption) (by assumption) (by assumption)) ?_))
local macro_rules | `(tactic| walk_at "subscriptTail") => `(tactic| ((with_reducible show wpAny _ _ (subscriptTail _ _ (Value.ref _) (Value.int _ _)) _ _ _); k_dflt (refine kdf_item (TabAt.ofNews (by k_asm) (by kst_mem) (by assumption) (by assumption) (by assumption)) (by assumption) ?_); intro _))
local macro_rules | `(tactic| walk_at "InvEndG") => `(tactic| refine Stop.on ?_)
local macro_rules | `(tactic| walk_at "newTuple") => `(tactic| (k_here; k_dflt (refine' kup_newTuple ?F ?N ?_ ?z; (case F => k_asm); (case N => k_asm); (case z => kmk_size)); intro D' h' F' N' l1; (try k_lt l1); (try k_sweep)))
local macro_rules | `(tactic| walk_at "execs cons") => `(tactic| refine wpAny_execs_cons ?_)
local macro_rules | `(tactic| walk_at "execs nil") => `(tactic| refine wpAny_execs_nil ?_)
theorem compFr {g h h' : Heap} {L : Addr} {m m' : Str → Option Value} (F : Fr g L h m) (hns : h'.Ns L m') (hk : ∀ b o, b ≠ L → h.get? b = some o → h'.get? b = some o) : Fr g L h' m' :=
  ⟨hns, fun b o e => hk b o (Nat.ne_of_lt (Nat.lt_of_lt_of_le (Heap.lt_size e) F.above)) (F.keep b o e), F.above⟩
theorem compNews {g h h' : Heap} {L D : Addr} {m : Str → Option Value} {news : Led} {o : Obj} (N : News g L h news) (F : Fr g L h m) (hD : @LE.le Nat _ h.objs.size D) (ho : h'.get? D = some o) (hk : ∀ b o, b ≠ L → h.get? b = some o → h'.get? b = some o) : News g L h' ((D, o) :: news) := by
  intro p hp
  rcases List.mem_cons.mp hp with rfl | hp
  · refine ⟨ho, Nat.ne_of_gt (Nat.lt_of_lt_of_le F.ns.lt hD), ?_⟩
    cases e : g.get? D with
    | none => rfl
    | some o' => exact absurd (Heap.lt_size (F.keep D o' e)) (Nat.not_lt.mpr hD)
  · exact ⟨hk _ _ (N p hp).2.1 (N p hp).1, (N p hp).2⟩
theorem same_strs : ∀ ss : List Str, PySem.Spec.sameAll (ss.map PyData.str) (ss.map PyData.str) = true
  | [] => by simp [PySem.Spec.sameAll]
  | a :: r => by
    simp only [List.map_cons, PySem.Spec.sameAll, PySem.Spec.same, same_strs r]
    simp
theorem depth_strs : ∀ ss : List Str, PyData.depthAll (ss.map PyData.str) = 0
  | [] => rfl
  | _ :: r => by simp [PyData.depthAll, PyData.depth, depth_strs r]
theorem shaped_strs (ss : List Str) (h : ∀ x ∈ ss, PyData.strOk x = true) : SeqAt.shaped (.list (ss.map PyData.str)) = true := by
  simp only [SeqAt.shaped, PyData.canLay0, PyData.depth, canLayAll_strs', depth_strs, List.all_eq_true.mpr h]
  simp
theorem ne_strs_same {prog : Program} {w : World} {A : Around} {E : Value → Shared → Prop} {s : Shared} {a b : Addr} {xs ys : List Value} {ss : List Str} {Q : Value → Shared → Prop}
    (ha : s.heap.IsList a xs.toArray) (hb : s.heap.IsList b ys.toArray) (hi : StrsAre xs ss) (hj : StrsAre ys ss) (hok : ∀ x ∈ ss, PyData.strOk x = true) (hu : A.units + 64 < cLine) (h : Q (.bool false) s) :
    wpAny (model prog w) A (compareOp .NotEq (.ref a) (.ref b)) Q E s :=
  ne_dataH_same (reads_newData ha hi.carried) (reads_newData hb hj.carried) (shaped_strs _ hok) (shaped_strs _ hok) hu (SeqAt.noMix_of_shape (.list .str) rfl _ _ (list_map_has fun _ => rfl) (list_map_has fun _ => rfl)) (by
    rw [show PySem.Spec.same (.list (ss.map PyData.str)) (.list (ss.map PyData.str)) = true by simp only [PySem.Spec.same]; exact same_strs ss]
    exact h)
theorem StrsB.are {B : Nat} {vs : List Value} {ss : List Str} (h : StrsB B vs ss) : StrsAre vs ss := by
  obtain ⟨h1, h2⟩ := h
  induction vs generalizing ss with
  | nil => cases ss with
    | nil => exact .nil
    | cons _ _ => simp at h1
  | cons v vs ih =>
    cases ss with
    | nil => simp at h1
    | cons y ss =>
      obtain ⟨y', t, rfl, e, _, _⟩ := h2 0 v rfl
      have e' : y = y' := by simpa using e
      subst e'
      exact .cons _ _ (ih (by simpa using h1) fun i v hv => h2 (i + 1) v (by simpa using hv))
theorem StrsB.up {B B' : Nat} {vs : List Value} {ss : List Str} (h : StrsB B vs ss) (hB : B ≤ B') : StrsB B' vs ss := ⟨h.1, fun i v hv => by
  obtain ⟨y, t, e1, e2, e3, e4⟩ := h.2 i v hv
  exact ⟨y, t, e1, e2, e3, Nat.lt_of_lt_of_le e4 hB⟩⟩
theorem names_strs {T : Led} {h : Heap} {tk : Nat} {vs ys : List Value} {ps : List (Str × Str)} (hp : PairsAre T vs ps) (hF : Paired (fun v r => ∀ a x' y' t1 t2, v = .ref a → h.get? a = some (tupObj [.str x' t1, .str y' t2]) → ∃ t', r = .str (cat (x', y')) t' ∧ t' ≠ 0 ∧ t' < tk) vs ys)
    (hg : ∀ a x' y' t1 t2, (a, tupObj [.str x' t1, .str y' t2]) ∈ T → h.get? a = some (tupObj [.str x' t1, .str y' t2])) : StrsB tk ys (ps.map cat) := by
  induction hp generalizing ys with
  | nil => cases hF; exact ⟨rfl, fun i v hv => by simp at hv⟩
  | cons hm h1 h2 _ ih =>
    cases hF with
    | cons hf hr =>
      obtain ⟨i1, i2⟩ := ih hr
      obtain ⟨t', rfl, e4, e5⟩ := hf _ _ _ _ _ rfl (hg _ _ _ _ _ hm)
      refine ⟨by simp [i1], fun i v hv => ?_⟩
      cases i with
      | zero => exact ⟨_, t', (by simpa using hv.symm), rfl, e4, e5⟩
      | succ i => exact i2 i v (by simpa using hv)
theorem names_con {prog : Program} {w : World} {mean : ExcName → Option Value} {mg mb : Str → Option Value} {rest : Led} {starts : List Int} {g : List (Int × Int)} {svs : List Value} {sc : Nat} {ls gd : Addr} {o : Obj} {kvs : List (Int × Value)}
    (hs : IntsAre svs starts) (hlen : starts.length ≤ 40) (hg : o.IsDictOf (PySem.intKind prog w) kvs) (hf : FlatPairs PyData.int kvs (kdfD g)) (hgd : (gd == sysModules) = false)
    (hb1 : ∀ p ∈ starts, 0 ≤ p ∧ p < 64) (hb2 : ∀ q ∈ g, 0 ≤ q.2 ∧ q.2 < 64) :
    Con 6 prog w mean mg mb 103 [.ref ls, .ref gd] ((ls, listOf svs.toArray sc) :: (gd, o) :: rest) (fun v tl => ∃ t, v = .int ((starts.filter (fun p => !kdfHas g p)).length : Int) t ∧ tl = []) := by
  have hlook : ∀ k, 0 ≤ kdfLook g k 0 ∧ kdfLook g k 0 < 64 := by
    intro k
    unfold kdfLook
    cases hf9 : g.find? (fun p => decide (p.1 = k)) with
    | none => exact ⟨Int.le_refl 0, by decide⟩
    | some q => exact hb2 q (List.mem_of_find?_eq_some hf9)
  unfold Con
  k_fill
  intro dp un gd' cn cs a ccd cl outer A₀ base h₀ L m s Q E _ B F X N T hk hdp hu hret
  refine wpAny_call ?_
  k_dflt cell_enter
  have kMark := kstMark
  k_steps
  refine Stop.off ?_
  rename Fr _ _ _ _ => lF'
  rename News _ _ _ _ => lN'
  with_unfolding_all refine' For_invVF lF' ?k1 ?k2 ?_
  case k1 => exact rfl
  case k2 => exact rfl
  k_steps
  refine Stop.off ?_
  rename Fr _ _ _ _ => lF'
  rename News _ _ _ _ => lN'
  rename_i la _ l1 _ da _ l2 _
  with_unfolding_all refine' loopL (σ := NS) (vs := svs) (nn := sc) (NL da la) (fun _ => []) [] (NP rest starts g ls gd da la (listOf svs.toArray sc) o) ⟨[], _, [], _, _⟩ ?hh ?hl lF' lN' (fun _ h => h) ?hk ?hp ?turn ?done
  case hh => exact rfl
  case hl => exact fun i c h => .tail _ (.tail _ h.2.2.2.1)
  case hk => exact fun _ h => nomatch h
  case hp =>
    refine ⟨.nil, .nil, ?_, .head _, .tail _ (.head _), fun p h => .tail _ (.tail _ h)⟩
    intro p hp b hb
    have hlt : ∀ d, (ls < d ∧ gd < d ∧ AllLt d rest) → p.1 < d := by
      intro d hd
      rcases List.mem_cons.mp hp with rfl | hp
      · exact hd.1
      · rcases List.mem_cons.mp hp with rfl | hp
        · exact hd.2.1
        · exact kst_ltOf hd.2.2 p hp
    rcases List.mem_cons.mp hb with rfl | hb
    · exact Nat.ne_of_lt (hlt _ l2.2)
    · rw [List.mem_singleton.mp hb]
      exact Nat.ne_of_lt (hlt _ l1)
  case turn =>
    intro i v c u h tk own hv hoff hP kFr kNews
    obtain ⟨lvs, lc, dvs, dc, tl⟩ := c
    have hP' := hP
    have hoff' := hoff
    obtain ⟨hpa, hda, htl, hm1, hm2, hm3⟩ := hP'
    dsimp only [kstB, NL] at kFr kNews hoff' hpa hda htl hm1 hm2 hm3
    obtain ⟨n, t, rfl, hn⟩ := hs.at i v hv
    have hbn := hb1 n (List.mem_of_getElem? hn)
    obtain ⟨T, hT⟩ : ∃ T, T = tl ++ own := ⟨_, rfl⟩
    simp only [List.cons_append] at kNews
    rw [← hT] at kNews
    have hTo : OwnOff T [da, la] := by rw [hT]; exact kd_off (fun p hp b hb => hoff' p hp b (by rcases List.mem_cons.mp hb with rfl | hb; exact .head _; rw [List.mem_singleton.mp hb]; exact .tail _ (.head _))) htl
    have hT2 : (gd, o) ∈ T := by rw [hT]; exact List.mem_append.mpr (.inl hm2)
    have hlk := hlook n
    clear hlook
    have hlr := hda.length
    have hll := hpa.length
    simp only [List.length_map, List.length_take] at hlr hll
    try dsimp only
    try k_fold
    clear hpa hda htl hm1 hm2 hm3 hoff'
    k_steps
    all_goals (
      refine Stop.off ?_
      rename Fr _ _ _ _ => eF
      rename News _ _ _ _ => eN
      with_reducible rename (_ < _ ∧ _ < _ ∧ AllLt _ T) => eL
      simp only [List.push_toArray] at eN
      refine names_end hn hP hT hoff eF eN eL (Nat.ne_of_gt (Nat.succ_pos _)) (Nat.ne_of_gt (Nat.succ_pos _)) ?_ ?_ ?_
      · unfold letterOf
        first | rw [if_pos (by assumption)] | rw [if_neg (by simp_all)]
      · unfold dueOf
        first | rw [if_pos (by assumption)] | rw [if_neg (by simp_all)]
      · intro z hz
        simp [hz])
  case done =>
    intro c u h tk hP kFr kNews
    obtain ⟨lvs, lc, dvs, dc, tl⟩ := c
    have hP' := hP
    obtain ⟨hpa, hda, htl, hm1, hm2, hm3⟩ := hP'
    dsimp only [kstB, NL] at kFr kNews hpa hda htl hm1 hm2 hm3
    rw [hs.length, List.take_length] at hpa hda
    try dsimp only
    try k_fold
    k_with "call ref" => refine Stop.on ?_
    k_steps
    refine Stop.off ?_
    with_unfolding_all refine' assign_compT ?c1 ?c2 ?c3 ?c4 ?c5 ?c6 ?c7 ?c8 ?c9 ?_ ?c10
    case c1 => exact rfl
    case c2 => decide
    case c3 => decide
    case c4 => exact rfl
    case c5 => decide
    case c6 => exact rfl
    case c7 => exact rfl
    case c8 => exact rfl
    case c9 => exact rfl
    case c10 => intro x; exact rfl
    try k_fold
    k_steps
    refine Stop.off ?_
    refine' Con.use (post_con (rest := (da, listOf dvs.toArray dc) :: tl) (lc := lc) (l := la) (hpa.mono (fun _ h => .tail _ h)) (by rw [List.length_map]; exact hlen)) ?B ?F ?X (kst_newsOf kNews ?N) ?T ?K ?D ?U ?R
    case B => k_asm
    case F => k_asm
    case X => k_asm
    case T => k_asm
    case K => exact rfl
    case D => show dp + 1 + 3 < recursionLimit; omega
    case U => show un + 3 + 10 * 3 + 100 < cLine; omega
    case N =>
      intro p hp
      rcases List.mem_cons.mp hp with rfl | hp
      · exact .tail _ (.head _)
      · rcases List.mem_cons.mp hp with rfl | hp
        · exact .head _
        · exact .tail _ (.tail _ hp)
    case R =>
      rintro r tl2 h2 tk2 F2 N2 ho2 ⟨x, vs, c, nw, rfl, rfl, hps⟩
      k_unfold
      try dsimp only
      have hvl := hps.length
      simp only [List.length_map] at hvl
      refine ⟨fun v r t => ∀ a x' y' t1 t2, v = .ref a → h2.get? a = some (tupObj [.str x' t1, .str y' t2]) → ∃ t', r = .str (cat (x', y')) t' ∧ t' ≠ 0 ∧ t' < t, x, vs, _, ?mono, rfl, ⟨_, (N2 _ (.head _)).1, rfl, c, rfl⟩, ?sz, F2.ns, ?elt, ?fin⟩
      case mono =>
        intro v r t t' hle hG a x' y' t1 t2 e1 e2
        obtain ⟨t3, e3, e4, e5⟩ := hG a x' y' t1 t2 e1 e2
        exact ⟨t3, e3, e4, Nat.lt_of_lt_of_le e5 hle⟩
      case sz => rw [hvl, sizeLine_eq]; omega
      case elt =>
        intro C i v s₃ m₃ E' hv hC hn3 hm3 hk3
        obtain ⟨ea, ex, ey, et1, et2, rfl, hpi, hm, _, _⟩ := hps.at i v hv
        have F3 := F2.keeps hk3
        have N3 := N2.grown hk3
        have hlens : ex.length ≤ 3 ∧ ey.length ≤ 3 := by
          rw [List.map_map, List.getElem?_map] at hpi
          cases hq : starts[i]? with
          | none => rw [hq] at hpi; cases hpi
          | some p =>
            rw [hq] at hpi
            have e := Option.some.inj hpi
            have := fix_len (hb1 p (List.mem_of_getElem? hq)) (hlook p)
            have e' : fixP (letterOf g p) = (ex, ey) := e
            rw [e'] at this
            exact this
        try k_fold
        k_steps
        refine Stop.off ?_
        refine' lname_con (news := (x, listOf vs.toArray c) :: nw ++ ((la, listOf lvs.toArray lc) :: (da, listOf dvs.toArray dc) :: tl)) (x := ex) (y := ey) ?lx ?ly _ _ _ _ _ _ _ _ _ _ _ _ _ _ _ _ _ rfl ?B ?F ?X ?N ?T ?K ?D ?U ?R
        case lx => omega
        case ly => omega
        case B => k_asm
        case F => k_asm
        case X => k_asm
        case T => k_asm
        case K => exact rfl
        case D => show dp + 1 + 3 < recursionLimit; omega
        case U => show un + 3 + 30 < cLine; omega
        case N => exact fun p hp => (List.mem_cons.mp hp).elim (fun e => by rw [e]; exact N3 _ (.tail _ hm)) (fun h => N3 p h)
        case R =>
          intro t h' tk' ht0 htk hkeep
          k_unfold
          refine ⟨?_, h', tk', rfl, hkeep⟩
          intro a x' y' t1 t2 e1 e2
          cases e1
          have e3 := (N2 _ (.tail _ hm)).1
          rw [e2] at e3
          have e4 := congrArg Obj.data (Option.some.inj e3)
          simp only [Data.seq.injEq, List.toArray_inj, List.cons.injEq, Value.str.injEq, and_true] at e4
          obtain ⟨⟨rfl, _⟩, rfl, _⟩ := e4
          exact ⟨t, rfl, ht0, htk⟩
      case fin =>
        intro D h' tk ys htk0 hD hpl hF hns hk'
        obtain ⟨yn, hyD⟩ := hpl
        have hys := names_strs hps hF (fun a x' y' t1 t2 h => (N2 _ (.tail _ h)).1)
        have hS : ((starts.map (letterOf g)).map fixP).map cat = starts.map (dueOf g) := by
          simp only [List.map_map]
          exact List.map_congr_left (fun p hp => cat_due (hlook p))
        rw [hS] at hys
        have hN5 := compNews N2 F2 hD hyD hk'
        have F5 := compFr F2 hns hk'
        have N5 := kst_newsOf hN5 (l' := (D, listOf ys.toArray yn) :: (da, listOf dvs.toArray dc) :: tl) (by
          intro p hp
          rcases List.mem_cons.mp hp with rfl | hp
          · exact .head _
          · refine .tail _ (.tail _ (List.mem_append.mpr (.inr (.tail _ ?_))))
            exact hp)
        clear hN5 hns hk' hF hps N2 F2 kNews kFr
        try k_fold
        k_steps
        refine Stop.off ?_
        refine ne_strs_same (ss := starts.map (dueOf g)) ⟨_, (N5 _ (.head _)).1, rfl, yn, rfl⟩ ⟨_, (N5 _ (.tail _ (.head _))).1, rfl, dc, rfl⟩ hys.are hda ?ok ?hu ?_
        case ok =>
          intro x hx
          obtain ⟨p, hp, rfl⟩ := List.mem_map.mp hx
          exact due_ok (hb1 p hp) (hlook p)
        case hu => show un + 3 + 64 < cLine; omega
        k_steps
        refine Stop.off ?_
        refine' Con.use (countOf_con (rest := (da, listOf dvs.toArray dc) :: tl) (lc := yn) (l := D) (hys.up ?B1) (by rw [List.length_map]; exact hlen) ?B2) ?B ?F ?X ?N ?T ?K ?D ?U ?R
        case B1 => exact Nat.le_refl _
        case B2 => exact Nat.ne_of_gt htk0
        case B => k_asm
        case F => k_asm
        case X => k_asm
        case N => k_asm
        case T => k_asm
        case K => exact rfl
        case D => show dp + 1 + 3 < recursionLimit; omega
        case U => show un + 3 + 10 * 3 + 100 < cLine; omega
        case R =>
          rintro r tl2 h3 tk3 F6 N6 ho3 ⟨t, rfl, rfl⟩
          simp only [List.nil_append] at N6
          have hcnt : ((starts.map (dueOf g)).filter (sEq (Str.ofString "."))).length = (starts.filter (fun p => !kdfHas g p)).length := by
            rw [List.filter_map, List.length_map]
            congr 1
            exact List.filter_congr fun p hp => due_dot (hb1 p hp)
          rw [hcnt]
          k_steps
          rename News h₀ _ _ _ => N7
          refine hret _ [] _ _ (by assumption) (kst_newsOf N7 ?_) (fun p hp => nomatch hp) ⟨t, rfl, rfl⟩
          intro p hp
          refine .tail _ (.tail _ ?_)
          rcases List.mem_cons.mp hp with rfl | hp
          · exact hm1
          · rcases List.mem_cons.mp hp with rfl | hp
            · exact hm2
            · exact hm3 p hp
end PartC6
end Mine
namespace Mine
section PartC8
open PySem PySem.W PyProof.Rows PyProof.V
set_option maxRecDepth 100000
set_option maxHeartbeats 8000000
theorem freshC8 : True ∧ True := by
  w_top off
  k_with_none
  try walk1
  repeat' (first | trivial | constructor)
local macro_rules | `(tactic| k_room) => `(tactic| (simp only [depth_under_make, depth_under_kw, depth_in1, depth_deeper, depth_caller]; (try dsimp only [ktrTop]); omega))
local macro_rules | `(tactic| walk_at "InvEndG") => `(tactic| refine Stop.on ?_)
local macro_rules | `(tactic| walk_at "InvEndN") => `(tactic| refine Stop.on ?_)
local macro_rules | `(tactic| walk_at "KswEnd") => `(tactic| refine Stop.on ?_)
local macro_rules | `(tactic| walk_at "exec While Compare") => `(tactic| refine Stop.on ?_)
local macro_rules | `(tactic| walk_at "call ref") => `(tactic| refine Stop.on ?_)
local macro_rules | `(tactic| walk_at "CompEnd") => `(tactic| (refine' LCg.CompEnd.intro ?F ?N ?nw ?sub ?off ?S ?r; (case r => first | walk_at "KCiEl" | walk_at "KCiNo"); (case F => assumption); (case N => assumption); (case sub => kcf_all); (case off => ((simp only [LCg.Off3, and_true]); assumption)); (case S => exact True.intro)))
def iStep (row free : List Int) (st : List (Int × Int) × List Int) (k : Int) : List (Int × Int) × List Int :=
  if row.getD (free.getD k.toNat 0).toNat 0 < row.getD (free.getD (k - 1).toNat 0).toNat 0 then (kdfPut st.1 (free.getD (k - 1).toNat 0) (free.getD k.toNat 0), st.2 ++ [free.getD (k - 1).toNat 0, free.getD k.toNat 0]) else st
def startsOf (row : List Int) : List Int := (rangeKs 0 row.length).foldl (fun l k => if ¬ row.getD k.toNat 0 = 0 then l ++ [k] else l) []
def missed (starts : List Int) (gs : List (Int × Int)) : Int := ((starts.filter (fun p => !kdfHas gs p)).length : Int)
def inner (row free : List Int) (gs : List (Int × Int)) : List (Int × Int) × List Int := (rangeKs 1 (free.length - 1)).foldl (iStep row free) (gs, [])
def rRun : Nat → List Int → List Int → List Int → List (Int × Int) → List Int → Option (List Int × List (Int × Int))
  | 0, _, _, _, _, _ => none
  | n + 1, row, starts, free, gs, ws =>
    if gs.length < starts.length then
      rRun n row starts (free.filter (fun p => !((inner row free gs).2.any (· == p)))) (inner row free gs).1 (ws ++ [missed starts (inner row free gs).1])
    else some (ws, gs)
structure RS where
  n : Nat
  gs : List (Int × Int)
  o : Obj
  kvs : List (Int × Value)
  wv : List Value
  ws : List Int
  wc : Nat
  fa : Addr
  fv : List Value
  fs : List Int
  fc : Nat
  og : Obj
def RL (wa gd sa xa ga ra : Addr) (ol ox orow : Obj) (news : Led) (c : RS) : Led :=
  (wa, listOf c.wv.toArray c.wc) :: (gd, c.o) :: (c.fa, listOf c.fv.toArray c.fc) :: (sa, ol) :: (xa, ox) :: (ga, c.og) :: (ra, orow) :: news
structure RF (prog : Program) (w : World) (row : List Int) (wa gd ga : Addr) (c : RS) : Prop where
  h1 : IntsAre c.wv c.ws
  h2 : IntsAre c.fv c.fs
  h3 : c.o.IsDictOf (PySem.intKind prog w) c.kvs
  h4 : FlatPairs PyData.int c.kvs (kdfD c.gs)
  h5 : ∃ v, c.og.data = Data.cell v
  n1 : @Ne Nat c.fa wa
  n2 : @Ne Nat c.fa gd
  n3 : @Ne Nat c.fa ga
  b1 : ∀ p ∈ c.fs, 0 ≤ p ∧ p < row.length
  b2 : c.fs.length ≤ row.length
  b3 : ∀ q ∈ c.gs, 0 ≤ q.2 ∧ q.2 < row.length
  b4 : c.gs.length + 30 * c.n ≤ 900
  b5 : c.ws.length + c.n ≤ 40
local macro_rules | `(tactic| walk_at "exec For Name Call cons nil") => `(tactic| refine Stop.on ?_)
local macro_rules | `(tactic| walk_at "call builtin:list.extend") => `(tactic| refine Stop.on ?_)
def Mark9 : Prop := True
local macro_rules | `(tactic| walk_at "CompSrcT") => `(tactic| ((with_reducible have h9 : Mark9 := by assumption); clear h9; refine Stop.on ?_))
local macro_rules | `(tactic| walk_at "compareOp NotIn int ref") => `(tactic| refine Stop.on ?_)
local macro_rules | `(tactic| walk_at "pyIter ref") => `(tactic| refine Stop.on ?_)
structure IS where
  gs : List (Int × Int)
  o : Obj
  kvs : List (Int × Value)
  gv : List Value
  gn : List Int
  gc : Nat
def IL (na wa gd : Addr) (wo : Obj) (restL : Led) (c : IS) : Led := (na, listOf c.gv.toArray c.gc) :: (wa, wo) :: (gd, c.o) :: restL
structure IP (row fs : List Int) (gs1 : List (Int × Int)) (pre : List Int) (c : IS) : Prop where
  e : (c.gs, c.gn) = pre.foldl (iStep row fs) (gs1, [])
  l1 : c.gn.length ≤ 2 * pre.length
  l2 : c.gs.length ≤ gs1.length + pre.length
  b : ∀ q ∈ c.gs, 0 ≤ q.2 ∧ q.2 < row.length
theorem startsOf_eq (row : List Int) : startsOf row = (rangeKs 0 row.length).filter (fun k => !decide (row.getD k.toNat 0 = 0)) := by
  unfold startsOf
  generalize rangeKs 0 row.length = ks
  have key : ∀ (ks l : List Int), ks.foldl (fun l k => if ¬ row.getD k.toNat 0 = 0 then l ++ [k] else l) l = l ++ ks.filter (fun k => !decide (row.getD k.toNat 0 = 0)) := by
    intro ks
    induction ks with
    | nil => intro l; simp
    | cons k ks ih =>
      intro l
      rw [List.foldl_cons, ih, List.filter_cons]
      by_cases h : row.getD k.toNat 0 = 0
      · rw [if_neg (fun hn => hn h), if_neg (by rw [decide_eq_true h]; decide)]
      · rw [if_pos h, if_pos (by rw [decide_eq_false h]; rfl), List.append_assoc]
        rfl
  rw [key]
  simp
theorem foldl_filter9 (p : Int → Bool) (ks : List Int) : ks.foldl (fun l k => if p k then l ++ [k] else l) [] = ks.filter p := by
  have key : ∀ (ks l : List Int), ks.foldl (fun l k => if p k then l ++ [k] else l) l = l ++ ks.filter p := by
    intro ks
    induction ks with
    | nil => intro l; simp
    | cons k ks ih =>
      intro l
      rw [List.foldl_cons, ih, List.filter_cons]
      cases h : p k <;> simp
  rw [key]
  simp
theorem startsOf_mem {row : List Int} {k : Int} (h : k ∈ startsOf row) : 0 ≤ k ∧ k < row.length := by
  rw [startsOf_eq] at h
  have := mem_rangeKs (List.mem_filter.mp h).1
  omega
theorem startsOf_len (row : List Int) : (startsOf row).length ≤ row.length := by
  rw [startsOf_eq]
  exact Nat.le_trans (List.length_filter_le _ _) (Nat.le_of_eq (rangeKs_length _ _))
theorem mem_kdfPut {c : List (Int × Int)} {k v : Int} {q : Int × Int} (h : q ∈ kdfPut c k v) : q ∈ c ∨ q.2 = v := by
  unfold kdfPut at h
  split at h
  · obtain ⟨p, hp, rfl⟩ := List.mem_map.mp h
    split
    · exact .inr rfl
    · exact .inl hp
  · rcases List.mem_append.mp h with h | h
    · exact .inl h
    · rw [List.mem_singleton.mp h]; exact .inr rfl
theorem ip_yes {row fs : List Int} {gs1 : List (Int × Int)} {pre : List Int} {k : Int} {c : IS} {o : Obj} {kvs : List (Int × Value)} {gv : List Value} {gc : Nat} (h : IP row fs gs1 pre c) (hlt : row.getD (fs.getD k.toNat 0).toNat 0 < row.getD (fs.getD (k - 1).toNat 0).toNat 0) (hb : 0 ≤ fs.getD k.toNat 0 ∧ fs.getD k.toNat 0 < row.length) :
    IP row fs gs1 (pre ++ [k]) ⟨kdfPut c.gs (fs.getD (k - 1).toNat 0) (fs.getD k.toNat 0), o, kvs, gv, c.gn ++ [fs.getD (k - 1).toNat 0, fs.getD k.toNat 0], gc⟩ := by
  obtain ⟨h1, h2, h3, h4⟩ := h
  refine ⟨?_, ?_, ?_, ?_⟩
  · rw [List.foldl_append, ← h1]
    show _ = iStep row fs _ k
    unfold iStep
    rw [if_pos hlt]
  · simp only [List.length_append, List.length_cons, List.length_nil]; omega
  · have := kdfPut_len c.gs (fs.getD (k - 1).toNat 0) (fs.getD k.toNat 0)
    simp only [List.length_append, List.length_cons, List.length_nil]; omega
  · intro q hq
    rcases mem_kdfPut hq with hq | hq
    · exact h4 q hq
    · rw [hq]; exact hb
theorem ip_no {row fs : List Int} {gs1 : List (Int × Int)} {pre : List Int} {k : Int} {c : IS} (h : IP row fs gs1 pre c) (hlt : ¬ row.getD (fs.getD k.toNat 0).toNat 0 < row.getD (fs.getD (k - 1).toNat 0).toNat 0) :
    IP row fs gs1 (pre ++ [k]) c := by
  obtain ⟨h1, h2, h3, h4⟩ := h
  refine ⟨?_, ?_, ?_, h4⟩
  · rw [List.foldl_append, ← h1]
    show _ = iStep row fs _ k
    unfold iStep
    rw [if_neg hlt]
  · simp only [List.length_append, List.length_cons, List.length_nil]; omega
  · simp only [List.length_append, List.length_cons, List.length_nil]; omega
def RoundsR (prog : Program) (w : World) (ws : List Int) (gs : List (Int × Int)) (v : Value) (tl : Led) : Prop :=
  ∃ t wa wvs wc gd o kvs, v = .ref t ∧ tl = [(t, tupObj [.ref wa, .ref gd]), (wa, listOf wvs.toArray wc), (gd, o)] ∧ IntsAre wvs ws ∧ o.IsDictOf (PySem.intKind prog w) kvs ∧ FlatPairs PyData.int kvs (kdfD gs) ∧ (gd == sysModules) = false
theorem rounds_con {prog : Program} {w : World} {mean : ExcName → Option Value} {mg mb : Str → Option Value} {news : Led} {b : Int} {tb : Tok} {row : List Int} {ws : List Int} {gs : List (Int × Int)} (hrow : bRun 40 b [] = some row) (hlen : row.length ≤ 30) (hrun : rRun 20 row (startsOf row) (rangeKs 0 row.length) [] [((startsOf row).length : Int)] = some (ws, gs)) :
    Con 10 prog w mean mg mb 108 [.int b tb] news (RoundsR prog w ws gs) := by
  unfold Con
  k_fill
  intro dp un gd cn cs a ccd cl outer A₀ base h₀ L m s Q E _ B F X N T hk hdp hu hret
  refine wpAny_call ?_
  have kMark := kstMark
  k_dflt (refine' code_defC ?k1 ?k2 ?k3 ?k4 ?k5 ?kA ?kF ?kK ?k6 ?k7 ?k8 ?k9 ?kB ?kD ?_ ?c2 ?c3 ?c4; (case kA => exact rfl); (case kF => exact rfl); (case kK => assumption); (case k1 => k_asm); (case k2 => k_asm); (case k3 => k_asm); (case k4 => k_asm); (case k5 => k_asm); (case k6 => k_is); (case k7 => k_is); (case k8 => ktr_room); (case k9 => exact BindsTo.of_eq rfl); (case kB => exact rfl); (case kD => decide +kernel); (case c2 => exact rfl); (case c3 => exact rfl); (case c4 => exact rfl); k_whole; intro g' L' h' tk' cells' FG' F' N' Y' B' X' T' l1; (try k_lt l1); k_cells Y'; (try simp only [List.cons_append, List.nil_append] at N'); (try dsimp only); (try k_lift B'); (try k_fold))
  k_steps
  refine Stop.off ?_
  refine' Con.use (boxes_con hrow) ?B ?F ?X ?N ?T ?K ?D ?U ?R
  case B => k_asm
  case F => k_asm
  case X => k_asm
  case N => k_asm
  case T => k_asm
  case K => exact rfl
  case D => show dp + 1 + 3 < recursionLimit; omega
  case U => show un + 3 + 10 * 3 + 100 < cLine; omega
  case R =>
  rintro r tl h1 tk1 F1 N1 ho1 ⟨x, vs, c, rfl, rfl, hi⟩
  simp only [List.cons_append, List.nil_append] at N1
  have lx := allLt_of (ho1 _ (.head _))
  simp only [AllLt, and_true] at lx
  have hvl := hi.length
  clear ho1
  have la : ∀ p ∈ news, p.1 < L' + 1 := fun p hp => Nat.lt_succ_of_lt (l1 p hp)
  have lb : ∀ p ∈ news, p.1 < L' + 1 + 1 := fun p hp => Nat.lt_succ_of_lt (la p hp)
  try dsimp only
  k_sweep
  k_steps
  refine Stop.off ?_
  have e0 : ((row.length : Int) - 0).toNat = row.length := by omega
  rename_i orow dRow _ _ _ _ _ _ _ _ _ hI8 hyl hL8 sa _ _ o1 _ _ _ _ _ _ _ fa0 fv0 fc0 _ _ hI0 l2 _ _ gd0 _ o0 lo0 _ _ hi0 fi0 l3 _ wa0 _ l4 _ F9 N9
  have hys : IntsAre ys (startsOf row) := by rw [e0] at hI8; exact hI8
  have hfr : IntsAre fv0 (rangeKs 0 row.length) := by rw [e0] at hI0; exact hI0
  have hyl' : ys.length = (startsOf row).length := hys.length
  with_unfolding_all refine' ksw_while (σ := RS) (RL wa0 gd0 sa x (L' + 1 + 1) (L' + 1) _ _ orow news) (fun c => [(Str.ofString "free", .ref c.fa)]) (RF prog w row wa0 gd0 (L' + 1 + 1)) [Str.ofString "k"] (fun c => rRun c.n row (startsOf row) c.fs c.gs c.ws = some (ws, gs)) (fun c => c.n) ⟨20, [], o0, [], [_], [((startsOf row).length : Int)], 0, fa0, fv0, rangeKs 0 row.length, fc0, _⟩ F9 N9 ?kf ?kk ?kp ?turn
  case kk => kst_all
  case kp => exact hrun
  case kf =>
    refine ⟨.cons _ _ .nil, hfr, hi0, fi0, ⟨_, by assumption⟩, Nat.ne_of_lt l4.2.1, Nat.ne_of_lt l3.1, (Nat.ne_of_lt l2.2.2.1).symm, ?_, Nat.le_of_eq (rangeKs_length _ _), (fun q hq => nomatch hq), Nat.le_of_ble_eq_true rfl, Nat.le_of_ble_eq_true rfl⟩
    intro p hp
    have hm := mem_rangeKs hp
    omega
  case turn =>
  clear F9 N9 hfr hI8 hI0 hL8 hrun
  intro c9 u h tk hRF hP kFr kNews
  obtain ⟨n, gs1, od, kvs, wv, ws1, wc, fa, fv, fs, fc, og⟩ := c9
  obtain ⟨g1, g2, g3, g4, ⟨v5, g5⟩, n1, n2, n3, b1, b2, b3, b4, b5⟩ := hRF
  dsimp only at g1 g2 g3 g4 g5 n1 n2 n3 b1 b2 b3 b4 b5 hP
  dsimp only [kstB, RL] at kFr kNews
  have hwl := g1.length
  have hfl := g2.length
  cases n with
  | zero => exact absurd hP (by simp [rRun])
  | succ n =>
  try dsimp only
  try k_fold
  k_steps
  · refine Stop.off ?_
    rename Fr _ _ _ _ => lF'
    rename News _ _ _ _ => lN'
    rename_i hlt9 _ na _ l5 _ og2 dog2
    with_unfolding_all refine' For_invVF lF' ?k1 ?k2 ?_
    case k1 => exact rfl
    case k2 => exact rfl
    k_steps
    refine Stop.off ?_
    rename IsRange _ _ _ _ _ _ _ _ => rgX
    rename Fr _ _ _ _ => lF'
    rename News _ _ _ _ => lN'
    have hsm : Builtin.Range.small 1 (fs.length : Int) 1 = true := small_one (by decide) (by decide) (by omega) (by omega)
    have hrs : Builtin.Range.rangeSize 1 (fs.length : Int) 1 = ((fs.length - 1 : Nat) : Int) := by rw [rangeSize_nat]; omega
    with_unfolding_all refine' kst_range (σ := IS) (IL na wa0 gd0 (listOf wv.toArray wc) ((fa, listOf fv.toArray fc) :: (sa, _) :: (x, listOf vs.toArray c) :: (L' + 1 + 1, og2) :: (L' + 1, orow) :: news)) (fun _ => []) (fun c => IntsAre c.gv c.gn ∧ c.o.IsDictOf (PySem.intKind prog w) c.kvs ∧ FlatPairs PyData.int c.kvs (kdfD c.gs)) [] (IP row fs gs1) ⟨gs1, od, kvs, [], [], 0⟩ ?hh rgX hsm hrs lF' ?hN ?hf ?hk ?hp ?turn ?done
    case hh => exact rfl
    case hN => exact lN'
    case hf => exact ⟨.nil, g3, g4⟩
    case hk => exact fun _ h => nomatch h
    case hp => exact ⟨rfl, Nat.le_refl _, Nat.le_refl _, b3⟩
    case turn =>
      clear lF' lN' rgX hP hrs
      intro c9 pre k t u h tk own hk hpn hoff hF hP kFr kNews
      obtain ⟨gs2, o2, kvs2, gv, gn, gc⟩ := c9
      obtain ⟨f1, f2, f3⟩ := hF
      have hP' := hP
      obtain ⟨p1, p2, p3, p4⟩ := hP
      dsimp only [kstB, IL] at kFr kNews hoff f1 f2 f3 p1 p2 p3 p4
      simp only [List.cons_append] at kNews
      have hgl := f1.length
      have hk1 : (k - 1).toNat < fs.length := by omega
      have hk2 : k.toNat < fs.length := by omega
      have q1 : 0 ≤ fs.getD (k - 1).toNat 0 ∧ fs.getD (k - 1).toNat 0 < row.length := b1 _ (by rw [List.getD_eq_getElem?_getD, List.getElem?_eq_getElem hk1]; exact List.getElem_mem hk1)
      have q2 : 0 ≤ fs.getD k.toNat 0 ∧ fs.getD k.toNat 0 < row.length := b1 _ (by rw [List.getD_eq_getElem?_getD, List.getElem?_eq_getElem hk2]; exact List.getElem_mem hk2)
      try dsimp only
      try k_fold
      k_steps
      · refine Stop.off ?_
        rename_i tA tB lX _ eF eN _
        rename Obj.IsDictOf _ _ _ => eD
        rename FlatPairs _ _ _ => eP
        refine' kl_extend (its := gv.toArray) (l := gv ++ [.int (fs.getD (k - 1).toNat 0) tA, .int (fs.getD k.toNat 0) tB]) eF eN (.head _) rfl (Nat.succ_ne_zero _) ?U (extend_door ?z0) ?z ?y ?_
        case U => k_upd
        case z0 => rw [sizeLine_eq, List.size_toArray]; show gv.length + 2 ≤ _; omega
        case z => rw [sizeLine_eq]; show gv.length ≤ _; omega
        case y => rw [sizeLine_eq, List.size_toArray]; show gv.length + 2 ≤ _; omega
        intro h9 F9 N9
        k_steps
        refine Stop.off ?_
        rename Fr _ _ _ _ => eF
        refine' kst_end (IS.mk (kdfPut gs2 (fs.getD (k - 1).toNat 0) (fs.getD k.toNat 0)) _ _ (gv ++ [.int (fs.getD (k - 1).toNat 0) tA, .int (fs.getD k.toNat 0) tB]) (gn ++ [fs.getD (k - 1).toNat 0, fs.getD k.toNat 0]) (gc + 1)) eF N9 ?n ?o ?ha ⟨?i, eD, eP⟩ (fun _ h => nomatch h) ?hr (ip_yes hP' (by assumption) q2)
        case n =>
          intro p hp
          have hp2 := List.mem_append_left own hp
          exact .tail _ hp2
        case o => exact fun p hp => .tail _ (.tail _ (.tail _ (.tail _ (.tail _ (.tail _ (.tail _ (.tail _ (.tail _ (List.mem_append_right news hp)))))))))
        case ha => exact rfl
        case i => exact IntsAre.append f1 (.cons _ _ (.cons _ _ .nil))
        case hr => kst_same
      · refine Stop.off ?_
        rename Fr _ _ _ _ => eF
        rename News _ _ _ _ => eN
        refine' kst_end (IS.mk gs2 o2 kvs2 gv gn gc) eF eN ?n ?o ?ha ⟨f1, f2, f3⟩ (fun _ h => nomatch h) ?hr (ip_no hP' (by assumption))
        case n =>
          intro p hp
          have hp2 := List.mem_append_left own hp
          exact hp2
        case ha => exact rfl
        case o => exact fun p hp => .tail _ (.tail _ (.tail _ (.tail _ (.tail _ (.tail _ (.tail _ (.tail _ (List.mem_append_right news hp))))))))
        case hr => kst_same
    case done =>
      clear lF' lN' rgX
      intro c9 u h tk hF hIP kFr kNews
      obtain ⟨gs2, o2, kvs2, gv, gn, gc⟩ := c9
      obtain ⟨f1, f2, f3⟩ := hF
      obtain ⟨p1, p2, p3, p4⟩ := hIP
      dsimp only [kstB, IL] at kFr kNews f1 f2 f3 p1 p2 p3 p4
      have hgl := f1.length
      have hin : inner row fs gs1 = (gs2, gn) := p1.symm
      rw [rangeKs_length] at p2 p3
      have mk9 : Mark9 := True.intro
      try dsimp only
      try k_fold
      k_steps
      refine Stop.off ?_
      refine LCt.CompSrcT.ledger (ax := fa) (its := fv.toArray) (k := fc) (by rfl) (by k_asm) (by k_asm) (by k_mem) (by rw [List.size_toArray, sizeLine_eq]; omega) ?_
      intro g'
      refine' kci_list (fun l k => if !(gn.any (· == k)) then l ++ [k] else l) g2 (fun k' t' I' oI' C' oC' D' m' ys' l' h' tk' E' hk' hI' hC' hx' F' N' off' ne' => ?_) ?_ ?_
      (all_goals (try (simp only [LCg.Off3, and_true] at off')))
      (all_goals (try ((show KPfMark → _); intro hMark')))
      kcf_last
      · k_steps
        all_goals (
          refine Stop.off ?_
          refine notin_list_ints (PySem.IsL.isList (n := gc) (N' (na, listOf gv.toArray gc) (by k_mem)).1) f1 ?_
          k_steps
          all_goals first
          | exact LCg.CompEnd.intro F' N' _ (fun p hp => hp) off' (.inr ⟨_, .tail _ (.tail _ (.tail _ (.head _))), rfl, _, rfl⟩) (kci_el (by (with_reducible rename (_ = false) => hh9); rw [hh9]; rfl) rfl rfl)
          | exact LCg.CompEnd.intro F' N' _ (fun p hp => hp) off' (.inr ⟨_, .tail _ (.tail _ (.tail _ (.head _))), rfl, _, rfl⟩) (kci_no (by (with_reducible rename (_ = true) => hh9); rw [hh9]; rfl) rfl))
      · unfold KPfDone
        intro ys9 hI9 hl9
        k_steps
        refine Stop.off ?_
        rw [foldl_filter9] at hI9
        rename Fr _ _ _ _ => eF
        rename News _ _ _ _ => eN
        rename_i D9 _ _ o9
        have hsl := startsOf_len row
        refine' Con.use (names_con (rest := (wa0, listOf wv.toArray wc) :: (D9, LCg.lst ys9) :: (x, listOf vs.toArray c) :: (L' + 1 + 1, og2) :: (L' + 1, orow) :: news) hys ?n1 f2 f3 lo0 ?n2 ?n3) ?B ?F ?X (kst_newsOf eN ?N) ?T ?K ?D ?U ?R
        case n1 => omega
        case n2 =>
          intro p hp
          have := startsOf_mem hp
          omega
        case n3 =>
          intro q hq
          have := p4 q hq
          omega
        case B => k_asm
        case F => k_asm
        case X => k_asm
        case T => k_asm
        case K => exact rfl
        case D => show dp + 1 + 6 < recursionLimit; omega
        case U => show un + 3 + 10 * 6 + 100 < cLine; omega
        case N =>
          intro p hp
          rcases List.mem_cons.mp hp with rfl | hp
          · exact .tail _ (.tail _ (.tail _ (.tail _ (.tail _ (.head _)))))
          rcases List.mem_cons.mp hp with rfl | hp
          · exact .tail _ (.tail _ (.tail _ (.head _)))
          rcases List.mem_cons.mp hp with rfl | hp
          · exact .tail _ (.tail _ (.head _))
          rcases List.mem_cons.mp hp with rfl | hp
          · exact .head _
          exact .tail _ (.tail _ (.tail _ (.tail _ (.tail _ (.tail _ hp)))))
        case R =>
          rintro r tl2 h2 tk2 F2 N2 ho2 ⟨t2, rfl, rfl⟩
          simp only [List.nil_append] at N2
          clear eF ho2
          try dsimp only
          k_sweep
          k_steps
          refine Stop.off ?_
          rename Fr _ _ _ _ => eF2
          rename_i eN2
          simp only [List.push_toArray] at eN2
          refine' ksw_end (RS.mk n gs2 o2 kvs2 (wv ++ [.int (missed (startsOf row) gs2) t2]) (ws1 ++ [missed (startsOf row) gs2]) (wc + 1) D9 ys9 (fs.filter (fun k => !gn.any (· == k))) ys9.length og2) eF2 eN2 ?hn ?hf ?hk ?hr ?hp (Nat.lt_succ_self n)
          case hk => kst_all
          case hr => ksw_same
          case hp =>
            have hP2 := hP
            unfold rRun at hP2
            rw [if_pos (by omega), hin] at hP2
            exact hP2
          case hn =>
            intro p hp
            rcases List.mem_cons.mp hp with rfl | hp
            · exact .tail _ (.tail _ (.head _))
            rcases List.mem_cons.mp hp with rfl | hp
            · exact .tail _ (.head _)
            rcases List.mem_cons.mp hp with rfl | hp
            · exact .tail _ (.tail _ (.tail _ (.head _)))
            rcases List.mem_cons.mp hp with rfl | hp
            · exact .head _
            exact .tail _ (.tail _ (.tail _ (.tail _ hp)))
          case hf =>
            have hfl9 := List.length_filter_le (fun k => !gn.any (· == k)) fs
            refine ⟨IntsAre.append g1 (.cons _ _ .nil), hI9, f2, f3, ⟨_, dog2⟩, o9.2.1.symm, o9.2.2.1.symm, o9.2.2.2.2.2.2.1.symm, ?_, Nat.le_trans hfl9 b2, p4, ?_, ?_⟩
            · exact fun p hp => b1 p (List.mem_filter.mp hp).1
            · show gs2.length + 30 * n ≤ 900
              omega
            · show (ws1 ++ [missed (startsOf row) gs2]).length + n ≤ 40
              simp only [List.length_append, List.length_cons, List.length_nil]; omega
      · intro l k
        dsimp only
        split
        · simp
        · omega
  · have hP2 := hP
    unfold rRun at hP2
    rw [if_neg (by omega)] at hP2
    have hP3 := Option.some.inj hP2
    simp only [Prod.mk.injEq] at hP3
    obtain ⟨hws, hgs⟩ := hP3
    rw [hws] at g1
    rw [hgs] at g4
    rename_i D9 _ _ _ l9 kF9 kN9 _ _
    refine' hret _ [(D9, _), (wa0, listOf wv.toArray wc), (gd0, od)] _ _ kF9 (kst_newsOf kN9 ?e2) ?e3 ⟨D9, wa0, wv, wc, gd0, od, kvs, rfl, rfl, g1, g3, g4, lo0⟩
    case e2 =>
      intro p hp
      rcases List.mem_cons.mp hp with rfl | hp
      · exact .head _
      rcases List.mem_cons.mp hp with rfl | hp
      · exact .tail _ (.head _)
      rcases List.mem_cons.mp hp with rfl | hp
      · exact .tail _ (.tail _ (.head _))
      exact .tail _ (.tail _ (.tail _ (.tail _ (.tail _ (.tail _ (.tail _ (.tail _ hp)))))))
    case e3 =>
      intro p hp q hq
      rcases List.mem_cons.mp hp with rfl | hp
      · exact kst_ltOf l9.2.2.2.2.2.2.2 q hq
      rcases List.mem_cons.mp hp with rfl | hp
      · exact kst_ltOf l4.2.2.2.2.2.2 q hq
      rw [List.mem_singleton.mp hp]
      exact kst_ltOf l3.2.2.2.2.2 q hq
end PartC8
end Mine
namespace Mine
section PartD1
open PySem PySem.W PyProof.Rows PyProof.V
set_option maxRecDepth 100000
set_option maxHeartbeats 8000000
theorem freshD1 : True ∧ True := by
  w_top off
  k_with_none
  try walk1
  repeat' (first | trivial | constructor)
open PyProof.Rows.LCg
section
variable {prog : Program} {w : World} {A : Around} {E : Value → Shared → Prop} {s : Shared} {h₀ : Heap} {L : Addr} {m : Str → Option Value} {env : Env}
def SrcD (prog : Program) (w : World) (A : Around) (h₀ : Heap) (L : Addr) (m : Str → Option Value) (env : Env) (elt : PySem.Expr) (x : Str) (scope : Scope) (cl : List (Str × Addr)) (Fin : Shared → List Value → List (Addr × Obj) → Prop) (xv : Value) (s₁ : Shared) : Prop :=
  ∃ (d : Addr) (o : Obj) (kvs : List (Int × Value)) (news : Led), xv = .ref d ∧ A.handled = none ∧ Fr h₀ L s₁.heap m ∧ News h₀ L s₁.heap news ∧ (d, o) ∈ news ∧ (d == sysModules) = false ∧ o.IsDictOf (PySem.intKind prog w) kvs ∧ kvs.length ≤ sizeLine ∧
    ∀ s₂ : Shared, (∃ h, s₂ = { s₁ with heap := h }) → CompRest prog w A h₀ L m env elt x scope cl s₂ (fun nw => (d, o) ∈ nw) (fun i v => ∃ k x, kvs[i]? = some (k, x) ∧ (PySem.intKind prog w).is k v = true) (Fin s₂) kvs.length 0 [] news
/-- a ledger that lies off the one address written -/
theorem news_off {h h' : Heap} {C : Addr} {l : Led} (N : News h₀ L h l) (only : Heap.SameBut C h h') (off : ∀ p ∈ l, p.1 ≠ C) : News h₀ L h' l := by
  intro p hp
  obtain ⟨e, there⟩ := N p hp
  exact ⟨only.extBut p.1 p.2 (off p hp) e, there⟩
/-- [elt for x in d], d a dict with int keys: the turns go over its keys in their order -/
theorem ListComp_D {elt iter : PySem.Expr} {x : Str} {px : Pos} {scope : Scope} {cl : List (Str × Addr)} {pos : Pos} {Q : Value → Shared → Prop} (F₀ : Fr h₀ L s.heap m)
    (hclos : closureFor scope env = pure cl) (hcell : ∀ y ∈ scope.names, y.2 ≠ .cell) (hkind : scope.kind = .function)
    (hnames : ∀ y ∈ scope.names, y.2 = .local → scope.names.lookup y.1 = some .local) (hx : scope.names.lookup x = some .local)
    (source : wpAny (model prog w) A (eval iter env) (SrcD prog w A h₀ L m env elt x scope cl (fun s₂ => FinE h₀ L m s₂ Q)) E s)
    (plain : ∀ v, foldedSetIterable iter env v = pure v := by intro _; rfl) :
    wpAny (model prog w) A (eval (.ListComp elt [⟨.Name x px, iter, [], 0⟩] scope pos) env) Q E s := by
  rw [eval_ListComp]
  refine wpAny_comprehension_free (use := none) rfl plain hclos hkind hnames ?_
  refine wpAny_mono source ?_ (fun _ _ e => e)
  rintro _ s₁ ⟨d, o, kvs, news, rfl, free, F, N, mem, low, isD, fits, turns⟩
  obtain ⟨es, ep, exact1, data1, keys1, pairs1, nodup1⟩ := isD
  have held := (N _ mem).1
  have dict : ∀ g : Heap, g.get? d = some o → g.DictAt (PySem.intKind prog w) d kvs ep := fun g e => ⟨o, es, e, exact1, data1, keys1, pairs1, nodup1⟩
  have below : d < s₁.heap.objs.size := Heap.lt_size held
  have keeps : ∀ (it : Obj) (b : Addr) (q : Obj), s₁.heap.get? b = some q → (s₁.heap.push it).get? b = some q := fun it b q e => Heap.get?_push_of_some it e
  have walks := Walks.dictKeys (prog := prog) (w := w) (knd := PySem.intKind prog w) free s₁.heap.objs.size d (Nat.ne_of_lt below) kvs ep
  refine wpAny_pyIter_dict low (dict _ held) ?_
  refine block_U walks fits ?io ?st hcell hkind hx ?first ?all (F.keeps (keeps _)) (N.grown (keeps _)) (Nat.ne_of_lt F.ns.lt) (next_is_new F) ?off mem (turns _ ⟨_, rfl⟩) ?last
  case io =>
    rintro i g ⟨⟨it, e, -⟩, -⟩
    exact ⟨it, e⟩
  case st =>
    rintro i g g' it nw ⟨⟨it', e', shape⟩, -⟩ e e2 - N2 mem2
    obtain rfl : it' = it := Option.some.inj (e'.symm.trans e)
    exact ⟨⟨it', e2, shape⟩, dict g' (N2 _ mem2).1⟩
  case first => exact ⟨⟨_, Heap.get?_push_size _ rfl, rfl, rfl⟩, dict _ (keeps _ _ _ held)⟩
  case all =>
    intro b hb
    have two : b = s₁.heap.objs.size ∨ b = d := by simpa using hb
    have size : (s₁.heap.push ({ cls := .type "dict_keyiterator", data := .fields #[.ref d, .int 0 0, .int kvs.length 0, .int ep 0] } : Obj)).objs.size = s₁.heap.objs.size + 1 := Heap.size_push ..
    show b < (s₁.heap.push ({ cls := .type "dict_keyiterator", data := .fields #[.ref d, .int 0 0, .int kvs.length 0, .int ep 0] } : Obj)).objs.size
    rw [size]
    rcases two with e | e
    · exact e ▸ Nat.lt_succ_self _
    · exact e ▸ Nat.lt_succ_of_lt below
  case off => exact fun p hp => Nat.ne_of_lt (Heap.lt_size (N p hp).1)
  case last =>
    intro D C g tk mC ys nw FD ND oneD nsC newC _ offCL _ offCD apart done
    have away : ∀ p ∈ ((D, lst ys) :: nw), p.1 ≠ C := List.forall_mem_cons.mpr ⟨Ne.symm offCD, apart⟩
    exact ⟨mC, nsC, fun g2 only => done D g2 tk (FD.change only offCL newC) (news_off ND only away) oneD⟩
theorem kvs_keys {kvs : List (Int × Value)} {gs : List (Int × Int)} (h : FlatPairs PyData.int kvs (kdfD gs)) : kvs.map (·.1) = gs.map (·.1) := by
  generalize hD : kdfD gs = D at h
  induction h generalizing gs with
  | nil =>
    cases gs with
    | nil => rfl
    | cons q r => exact absurd hD (by simp [kdfD])
  | cons hf _ ih =>
    cases gs with
    | nil => exact absurd hD (by simp [kdfD])
    | cons q r =>
      simp only [kdfD, List.map_cons, List.cons.injEq, Prod.mk.injEq, PyData.int.injEq] at hD
      obtain ⟨⟨e1, _⟩, e2⟩ := hD
      simp only [List.map_cons, ih e2]
      rw [e1]
theorem SrcD.of {elt : PySem.Expr} {x : Str} {scope : Scope} {cl : List (Str × Addr)} {Fin : Shared → List Value → List (Addr × Obj) → Prop} {s₁ : Shared} {d : Addr} {o : Obj} {kvs : List (Int × Value)} {gs : List (Int × Int)} {news : Led} (g : Int → Int)
    (hh : A.handled = none) (F : Fr h₀ L s₁.heap m) (N : News h₀ L s₁.heap news) (hm : (d, o) ∈ news) (lo : (d == sysModules) = false) (hd : o.IsDictOf (PySem.intKind prog w) kvs) (hf : FlatPairs PyData.int kvs (kdfD gs)) (hsz : gs.length ≤ sizeLine)
    (turn : ∀ g' k t I oI C oC D m₂ ys h tk (E' : Value → Shared → Prop), k ∈ gs.map (·.1) → NsObj oC m₂ → m₂ x = some (.int k t) → Fr h₀ L h m → News h₀ L h ((I, oI) :: (C, oC) :: (D, lst ys) :: news) → Off3 I C D news → ((@Ne Nat I C) ∧ (@Ne Nat I D) ∧ (@Ne Nat C D)) →
      wpAny (model prog w) A (eval elt (compEnvC scope cl C env)) (CompEnd h₀ L m { ({ s₁ with heap := g' } : Shared) with heap := h, toks := tk } I oI C oC D (lst ys) (fun nw => (d, o) ∈ nw) (fun y news' => KCfEl news (g k) y news')) E' { ({ s₁ with heap := g' } : Shared) with heap := h, toks := tk })
    (fin : ∀ g' ys, IntsAre ys ((gs.map (·.1)).map g) → Fin { s₁ with heap := g' } ys news) :
    SrcD prog w A h₀ L m env elt x scope cl Fin (.ref d) s₁ := by
  have hk := kvs_keys hf
  have hl : kvs.length = gs.length := by have := congrArg List.length hk; simpa using this
  refine ⟨d, o, kvs, news, rfl, hh, F, N, hm, lo, hd, by omega, ?_⟩
  rintro s₂ ⟨g', rfl⟩
  refine kcf_rest (ks := gs.map (·.1)) g (by rw [List.length_map]; exact hl.symm) (fun i v hi hv => ?_) (fun k t I oI C oC D m₂ ys h tk E' hk' hC hx F' N' off ne _ => turn g' k t I oI C oC D m₂ ys h tk E' hk' hC hx F' N' off ne) (fun ys hys => fin g' ys hys)
  obtain ⟨k, y, hkv, his⟩ := hv
  obtain ⟨t, e⟩ := PySem.Value.isInt_shape his
  refine ⟨k, t, ?_, e⟩
  rw [← hk, List.getElem?_map, hkv]
  rfl
end
theorem has_of_key {gs : List (Int × Int)} {k : Int} (h : k ∈ gs.map (·.1)) : kdfHas gs k = true := by
  obtain ⟨q, hq, rfl⟩ := List.mem_map.mp h
  exact List.any_eq_true.mpr ⟨q, hq, by simp⟩
theorem look_mem {gs : List (Int × Int)} {k : Int} (h : kdfHas gs k = true) : ∃ q ∈ gs, kdfLook gs k 0 = q.2 := by
  unfold kdfLook
  cases e : gs.find? (fun p => decide (p.1 = k)) with
  | none =>
    have h2 := List.find?_eq_none.mp e
    obtain ⟨q, hq, hq2⟩ := List.any_eq_true.mp h
    exact absurd hq2 (h2 q hq)
  | some q => exact ⟨q, List.mem_of_find?_eq_some e, rfl⟩
end PartD1
end Mine
namespace Mine
section PartP1
open PySem PySem.W PyProof.Rows PyProof.V
set_option maxRecDepth 100000
set_option maxHeartbeats 8000000
theorem freshP1 : True ∧ True := by
  w_top off
  k_with_none
  try walk1
  repeat' (first | trivial | constructor)
/-! the carrier upon Nats -/
def cN : Nat → Nat → Nat → Nat → Nat → Nat → Nat → Option (Nat × Nat)
  | 0, _, _, _, _, _, _ => none
  | n + 1, b, r, box, load, taken, done =>
    bif (Nat.blt 0 load || Nat.ble box b) then
      bif Nat.beq (Nat.land b box) 0 then
        bif Nat.beq load 0 then cN n b r (Nat.mul box 2) load taken done else cN n b r (Nat.mul box 2) (Nat.sub load 1) taken (Nat.sub (Nat.add done box) (Nat.mul 2 (Nat.land done box)))
      else bif Nat.blt load r then cN n b r (Nat.mul box 2) (Nat.add load 1) (Nat.add taken 1) (Nat.sub (Nat.add done box) (Nat.mul 2 (Nat.land done box))) else cN n b r (Nat.mul box 2) load taken done
    else some (done, taken)
theorem and_cast (a b : Nat) : Builtin.bitAnd (a : Int) (b : Int) = ((Nat.land a b : Nat) : Int) := by
  rw [bitAnd_pp (by omega) (by omega)]
  rfl
theorem xor_cast (a b : Nat) : Builtin.bitXor (a : Int) (b : Int) = ((a + b - 2 * Nat.land a b : Nat) : Int) := by
  rw [bitXor_and, and_cast]
  have h1 : Nat.land a b ≤ a := Nat.and_le_left
  have h2 : Nat.land a b ≤ b := Nat.and_le_right
  omega
theorem cRun_cN : ∀ (n b r box load taken done : Nat), cRun n (b : Int) (r : Int) (box : Int) (load : Int) (taken : Int) (done : Int) = (cN n b r box load taken done).map fun p => ((p.1 : Int), (p.2 : Int))
  | 0, _, _, _, _, _, _ => rfl
  | n + 1, b, r, box, load, taken, done => by
    have hbox : (box : Int) * 2 = ((Nat.mul box 2 : Nat) : Int) := by show _ = ((box * 2 : Nat) : Int); omega
    have hl1 : (load : Int) + 1 = ((Nat.add load 1 : Nat) : Int) := by show _ = ((load + 1 : Nat) : Int); omega
    have ht1 : (taken : Int) + 1 = ((Nat.add taken 1 : Nat) : Int) := by show _ = ((taken + 1 : Nat) : Int); omega
    have hx : Builtin.bitXor (done : Int) (box : Int) = ((Nat.sub (Nat.add done box) (Nat.mul 2 (Nat.land done box)) : Nat) : Int) := xor_cast done box
    rw [cRun, cN, and_cast, hx, hbox, hl1, ht1]
    by_cases h1 : 0 < load ∨ box ≤ b
    · have e1 : (Nat.blt 0 load || Nat.ble box b) = true := by
        rcases h1 with h | h
        · rw [Nat.blt_eq.mpr h]; rfl
        · rw [Nat.ble_eq.mpr h, Bool.or_true]
      rw [if_pos (by omega), e1]
      by_cases h2 : Nat.land b box = 0
      · have e2 : Nat.beq (Nat.land b box) 0 = true := Nat.beq_eq.mpr h2
        rw [if_neg (by rw [h2]; simp), e2]
        by_cases h3 : load = 0
        · have e3 : Nat.beq load 0 = true := Nat.beq_eq.mpr h3
          rw [if_neg (by omega), e3]
          exact cRun_cN n b r _ load taken done
        · have e3 : Nat.beq load 0 = false := by
            cases h : Nat.beq load 0 with
            | false => rfl
            | true => exact absurd (Nat.beq_eq.mp h) h3
          have hl2 : (load : Int) - 1 = ((Nat.sub load 1 : Nat) : Int) := by show _ = ((load - 1 : Nat) : Int); omega
          rw [if_pos (by omega), e3, hl2]
          exact cRun_cN n b r _ _ taken _
      · have e2 : Nat.beq (Nat.land b box) 0 = false := by
          cases h : Nat.beq (Nat.land b box) 0 with
          | false => rfl
          | true => exact absurd (Nat.beq_eq.mp h) h2
        rw [if_pos (by omega), e2]
        by_cases h3 : load < r
        · have e3 : Nat.blt load r = true := Nat.blt_eq.mpr h3
          rw [if_pos (by omega), e3]
          exact cRun_cN n b r _ _ _ _
        · have e3 : Nat.blt load r = false := by
            cases h : Nat.blt load r with
            | false => rfl
            | true => exact absurd (Nat.blt_eq.mp h) h3
          rw [if_neg (by omega), e3]
          exact cRun_cN n b r _ load taken done
    · have e1 : (Nat.blt 0 load || Nat.ble box b) = false := by
        cases h : (Nat.blt 0 load || Nat.ble box b) with
        | false => rfl
        | true =>
          rcases (Bool.or_eq_true _ _).mp h with h | h
          · exact absurd (.inl (Nat.blt_eq.mp h)) h1
          · exact absurd (.inr (Nat.ble_eq.mp h)) h1
      rw [if_neg (by omega), e1]
      rfl
theorem cRun_of {b r d t : Nat} (h : cN 40 b r 1 0 0 b = some (d, t)) : cRun 40 (b : Int) (r : Int) 1 0 0 (b : Int) = some ((d : Int), (t : Int)) := by
  have e := cRun_cN 40 b r 1 0 0 b
  rw [h] at e
  exact e
/-! the rounds along the row, without places -/
def scanI (v : Int → Int) : List Int → List (Int × Int) × List Int → List (Int × Int) × List Int
  | [], st => st
  | x :: t, st => match t with
    | [] => st
    | y :: _ => scanI v t (if v y < v x then (kdfPut st.1 x y, st.2 ++ [x, y]) else st)
def vOf (row : List Int) (p : Int) : Int := row.getD p.toNat 0
theorem rangeKs_cons (a : Int) (n : Nat) : rangeKs a (n + 1) = a :: rangeKs (a + 1) n := by
  unfold rangeKs
  rw [List.range_succ_eq_map, List.map_cons, List.map_map]
  congr 1
  · simp
  · apply List.map_congr_left
    intro i _
    show a + ((i + 1 : Nat) : Int) = a + 1 + (i : Int)
    omega
theorem scan_from (row : List Int) : ∀ (suf pre : List Int) (st : List (Int × Int) × List Int), (rangeKs ((pre.length : Int) + 1) (suf.length - 1)).foldl (iStep row (pre ++ suf)) st = scanI (vOf row) suf st
  | [], _, _ => rfl
  | [x], _, _ => rfl
  | x :: y :: t, pre, st => by
    have hx : (pre ++ x :: y :: t).getD ((pre.length : Int) + 1 - 1).toNat 0 = x := by
      rw [show ((pre.length : Int) + 1 - 1).toNat = pre.length by omega, List.getD_eq_getElem?_getD, List.getElem?_append_right (Nat.le_refl _)]
      simp
    have hy : (pre ++ x :: y :: t).getD ((pre.length : Int) + 1).toNat 0 = y := by
      rw [show ((pre.length : Int) + 1).toNat = pre.length + 1 by omega, List.getD_eq_getElem?_getD, List.getElem?_append_right (Nat.le_add_right _ _)]
      simp
    show (rangeKs ((pre.length : Int) + 1) (t.length + 1)).foldl _ st = _
    rw [rangeKs_cons, List.foldl_cons]
    have ih := scan_from row (y :: t) (pre ++ [x]) (iStep row (pre ++ x :: y :: t) st ((pre.length : Int) + 1))
    rw [List.append_assoc, List.length_append, List.length_singleton] at ih
    have e : (((pre.length + 1 : Nat) : Int) + 1) = (pre.length : Int) + 1 + 1 := by omega
    rw [e] at ih
    have ih2 : (rangeKs ((pre.length : Int) + 1 + 1) t.length).foldl (iStep row (pre ++ x :: y :: t)) (iStep row (pre ++ x :: y :: t) st ((pre.length : Int) + 1)) = scanI (vOf row) (y :: t) (iStep row (pre ++ x :: y :: t) st ((pre.length : Int) + 1)) := ih
    rw [ih2]
    unfold iStep
    rw [hx, hy]
    rfl
theorem inner_scan (row free : List Int) (gs : List (Int × Int)) : inner row free gs = scanI (vOf row) free (gs, []) := scan_from row free [] (gs, [])
def rI (v : Int → Int) : Nat → List Int → List Int → List (Int × Int) → List Int → Option (List Int × List (Int × Int))
  | 0, _, _, _, _ => none
  | n + 1, starts, free, gs, ws =>
    if gs.length < starts.length then
      rI v n starts (free.filter (fun p => !((scanI v free (gs, [])).2.any (· == p)))) (scanI v free (gs, [])).1 (ws ++ [missed starts (scanI v free (gs, [])).1])
    else some (ws, gs)
theorem rRun_rI (row : List Int) : ∀ (n : Nat) (starts free : List Int) (gs : List (Int × Int)) (ws : List Int), rRun n row starts free gs ws = rI (vOf row) n starts free gs ws
  | 0, _, _, _, _ => rfl
  | n + 1, starts, free, gs, ws => by
    rw [rRun, rI]
    simp only [inner_scan]
    rw [rRun_rI row n]
def roundsAre (r : Nat) (ws : List Int) (good : List (Int × Int) → Bool) : Bool :=
  match bRun 40 (Int.ofNat r) [] with
  | none => false
  | some row => decide (row.length ≤ 30) && (match rI (vOf row) 20 (startsOf row) (rangeKs 0 row.length) [] [((startsOf row).length : Int)] with
    | none => false
    | some (ws', gs) => decide (ws' = ws) && good gs)
theorem roundsAre_spec {r : Nat} {ws : List Int} {good : List (Int × Int) → Bool} (h : roundsAre r ws good = true) :
    ∃ row gs, bRun 40 (r : Int) [] = some row ∧ row.length ≤ 30 ∧ rRun 20 row (startsOf row) (rangeKs 0 row.length) [] [((startsOf row).length : Int)] = some (ws, gs) ∧ good gs = true := by
  unfold roundsAre at h
  split at h
  · exact absurd h (by decide)
  · rename_i row e
    have h := (Bool.and_eq_true _ _).mp h
    obtain ⟨h1, h2⟩ := h
    split at h2
    · exact absurd h2 (by decide)
    · rename_i ws' gs e2
      obtain ⟨h3, h4⟩ := (Bool.and_eq_true _ _).mp h2
      have h5 := of_decide_eq_true h3
      subst h5
      exact ⟨row, gs, e, of_decide_eq_true h1, (rRun_rI row _ _ _ _ _).trans e2, h4⟩
/-- with room 7 all come where the names say -/
def homeOk (b : Nat) (gs : List (Int × Int)) : Bool :=
  match cN 40 b 7 1 0 0 b with
  | none => false
  | some (d7, _) => decide (Int.ofNat d7 = (gs.map (fun q => (2 : Int) ^ (kdfLook gs q.1 0).toNat)).sum) && Nat.ble gs.length 20 && gs.all fun q => decide (0 ≤ q.2) && decide (q.2 < 64)
/-- two carriers, s first and g first -/
def pairOk (rows : List Nat) (wn : List Nat) (b s g : Nat) : Bool :=
  match cN 40 b s 1 0 0 b, cN 40 b g 1 0 0 b with
  | some (d1, k1), some (d2, k2) =>
    (match cN 40 d1 g 1 0 0 d1, cN 40 d2 s 1 0 0 d2 with
    | some (d3, k2'), some (e3, k1') => Nat.beq e3 d3 && Nat.beq k2' k2 && Nat.beq k1' k1 && (rows.any fun r => Nat.beq r d3) &&
        Nat.beq (k1 + wn.getD (Nat.min s (wn.length - 1)) 0) (wn.getD 0 0) && Nat.beq (k2 + wn.getD (Nat.min g (wn.length - 1)) 0) (wn.getD 0 0)
    | _, _ => false)
  | _, _ => false
theorem pairOk_spec {rows wn : List Nat} {b s g : Nat} (h : pairOk rows wn b s g = true) :
    ∃ d1 k1 d2 k2 d3, cN 40 b s 1 0 0 b = some (d1, k1) ∧ cN 40 b g 1 0 0 b = some (d2, k2) ∧ cN 40 d1 g 1 0 0 d1 = some (d3, k2) ∧ cN 40 d2 s 1 0 0 d2 = some (d3, k1) ∧ d3 ∈ rows ∧
      k1 + wn.getD (min s (wn.length - 1)) 0 = wn.getD 0 0 ∧ k2 + wn.getD (min g (wn.length - 1)) 0 = wn.getD 0 0 := by
  unfold pairOk at h
  split at h
  · rename_i d1 k1 d2 k2 e1 e2
    split at h
    · rename_i d3 k2' e3 k1' e4 e5
      simp only [Bool.and_eq_true] at h
      obtain ⟨⟨⟨⟨⟨h1, h2⟩, h3⟩, h4⟩, h5⟩, h6⟩ := h
      obtain ⟨r, hr, hr2⟩ := List.any_eq_true.mp h4
      have := Nat.beq_eq.mp hr2
      subst this
      have := Nat.beq_eq.mp h1
      subst this
      have := Nat.beq_eq.mp h2
      subst this
      have := Nat.beq_eq.mp h3
      subst this
      exact ⟨d1, _, d2, _, _, e1, e2, e4, e5, hr, Nat.beq_eq.mp h5, Nat.beq_eq.mp h6⟩
    · exact absurd h (by decide)
  · exact absurd h (by decide)
def three (p : Nat → Bool) : Bool := p 1 && p 2 && p 3
theorem three_at {p : Nat → Bool} (h : three p = true) {i : Nat} (h0 : 1 ≤ i) (h1 : i ≤ 3) : p i = true := by
  unfold three at h
  simp only [Bool.and_eq_true] at h
  obtain ⟨⟨a, b⟩, c⟩ := h
  rcases (by omega : i = 1 ∨ i = 2 ∨ i = 3) with rfl | rfl | rfl
  · exact a
  · exact b
  · exact c
def castL (wn : List Nat) : List Int := wn.map fun i => Int.ofNat i
structure Grp where
  wn : List Nat
  bs : List Nat
  rows : List Nat
def Grp.home (G : Grp) : Bool := G.bs.all fun b => roundsAre b (castL G.wn) (homeOk b)
def Grp.away (G : Grp) : Bool := G.rows.all fun r => roundsAre r (castL G.wn) (fun _ => true)
def Grp.pairs (G : Grp) : Bool := G.bs.all fun b => three fun s => three fun d => pairOk G.rows G.wn b s (s + d)
def Grp.small (G : Grp) : Bool := Nat.blt 0 G.wn.length && Nat.ble G.wn.length 20
structure Grp.Ok (G : Grp) : Prop where
  h : G.home = true
  a : G.away = true
  p : G.pairs = true
  s : G.small = true
def G0 : Grp := ⟨[0], [0], [0]⟩
theorem G0_home : G0.home = true := by decide +kernel
theorem G0_away : G0.away = true := by decide +kernel
theorem G0_pairs : G0.pairs = true := by decide +kernel
theorem G0_ok : G0.Ok := ⟨G0_home, G0_away, G0_pairs, by decide⟩
def G1 : Grp := ⟨[1, 0], [1, 2, 4, 8, 16, 32, 64], [4, 8, 16, 32, 64, 128, 256]⟩
theorem G1_home : G1.home = true := by decide +kernel
theorem G1_away : G1.away = true := by decide +kernel
theorem G1_pairs : G1.pairs = true := by decide +kernel
theorem G1_ok : G1.Ok := ⟨G1_home, G1_away, G1_pairs, by decide⟩
def G2 : Grp := ⟨[2, 0], [5, 9, 10, 17, 18, 20, 33, 34, 36, 40, 65, 66, 68, 72, 80], [20, 36, 40, 68, 72, 80, 132, 136, 144, 160, 260, 264, 272, 288, 320]⟩
theorem G2_home : G2.home = true := by decide +kernel
theorem G2_away : G2.away = true := by decide +kernel
theorem G2_pairs : G2.pairs = true := by decide +kernel
theorem G2_ok : G2.Ok := ⟨G2_home, G2_away, G2_pairs, by decide⟩
def G3 : Grp := ⟨[2, 1, 0], [3, 6, 12, 24, 48, 96], [24, 48, 96, 192, 384, 768, 1536]⟩
theorem G3_home : G3.home = true := by decide +kernel
theorem G3_away : G3.away = true := by decide +kernel
theorem G3_pairs : G3.pairs = true := by decide +kernel
theorem G3_ok : G3.Ok := ⟨G3_home, G3_away, G3_pairs, by decide⟩
def G4 : Grp := ⟨[3, 0], [21, 37, 41, 42, 69, 73, 74, 81, 82, 84], [84, 148, 164, 168, 276, 292, 296, 324, 328, 336]⟩
theorem G4_home : G4.home = true := by decide +kernel
theorem G4_away : G4.away = true := by decide +kernel
theorem G4_pairs : G4.pairs = true := by decide +kernel
theorem G4_ok : G4.Ok := ⟨G4_home, G4_away, G4_pairs, by decide⟩
def G5 : Grp := ⟨[3, 1, 0], [11, 13, 19, 22, 25, 26, 35, 38, 44, 49, 50, 52, 67, 70, 76, 88, 97, 98, 100, 104], [88, 100, 104, 152, 176, 196, 200, 208, 280, 304, 352, 388, 392, 400, 416, 772, 776, 784, 800, 832, 1540, 1544, 1552, 1568, 1600]⟩
theorem G5_home : G5.home = true := by decide +kernel
theorem G5_away : G5.away = true := by decide +kernel
theorem G5_pairs : G5.pairs = true := by decide +kernel
theorem G5_ok : G5.Ok := ⟨G5_home, G5_away, G5_pairs, by decide⟩
def G6 : Grp := ⟨[3, 2, 1, 0], [7, 14, 28, 56, 112], [56, 112, 224, 448, 896, 1792, 3584, 7168]⟩
theorem G6_home : G6.home = true := by decide +kernel
theorem G6_away : G6.away = true := by decide +kernel
theorem G6_pairs : G6.pairs = true := by decide +kernel
theorem G6_ok : G6.Ok := ⟨G6_home, G6_away, G6_pairs, by decide⟩
def G7 : Grp := ⟨[4, 0], [85], [340]⟩
theorem G7_home : G7.home = true := by decide +kernel
theorem G7_away : G7.away = true := by decide +kernel
theorem G7_pairs : G7.pairs = true := by decide +kernel
theorem G7_ok : G7.Ok := ⟨G7_home, G7_away, G7_pairs, by decide⟩
def G8 : Grp := ⟨[4, 1, 0], [43, 45, 53, 75, 77, 83, 86, 89, 90, 101, 105, 106], [344, 356, 360, 404, 420, 424, 788, 804, 808, 836, 840, 848, 1556, 1572, 1576, 1604, 1608, 1616]⟩
theorem G8_home : G8.home = true := by decide +kernel
theorem G8_away : G8.away = true := by decide +kernel
theorem G8_pairs : G8.pairs = true := by decide +kernel
theorem G8_ok : G8.Ok := ⟨G8_home, G8_away, G8_pairs, by decide⟩
def G9 : Grp := ⟨[4, 2, 0], [51, 99, 102], [408, 792, 816, 1584, 1632]⟩
theorem G9_home : G9.home = true := by decide +kernel
theorem G9_away : G9.away = true := by decide +kernel
theorem G9_pairs : G9.pairs = true := by decide +kernel
theorem G9_ok : G9.Ok := ⟨G9_home, G9_away, G9_pairs, by decide⟩
def G10 : Grp := ⟨[4, 2, 1, 0], [23, 27, 29, 39, 46, 54, 57, 58, 71, 78, 92, 108, 113, 114, 116], [184, 216, 228, 232, 312, 368, 432, 452, 456, 464, 864, 900, 904, 912, 928, 1796, 1800, 1808, 1824, 1856, 3588, 3592, 3600, 3616, 3648, 7172, 7176, 7184, 7200, 7232]⟩
theorem G10_home : G10.home = true := by decide +kernel
theorem G10_away : G10.away = true := by decide +kernel
theorem G10_pairs : G10.pairs = true := by decide +kernel
theorem G10_ok : G10.Ok := ⟨G10_home, G10_away, G10_pairs, by decide⟩
def G11 : Grp := ⟨[4, 3, 2, 1, 0], [15, 30, 60, 120], [120, 240, 480, 960, 1920, 3840, 7680, 15360]⟩
theorem G11_home : G11.home = true := by decide +kernel
theorem G11_away : G11.away = true := by decide +kernel
theorem G11_pairs : G11.pairs = true := by decide +kernel
theorem G11_ok : G11.Ok := ⟨G11_home, G11_away, G11_pairs, by decide⟩
def G12 : Grp := ⟨[5, 2, 1, 0], [87, 91, 93, 107, 109, 117], [856, 868, 872, 916, 932, 936, 1812, 1828, 1832, 1860, 1864, 1872, 3604, 3620, 3624, 3652, 3656, 3664, 7188, 7204, 7208, 7236, 7240, 7248]⟩
theorem G12_home : G12.home = true := by decide +kernel
theorem G12_away : G12.away = true := by decide +kernel
theorem G12_pairs : G12.pairs = true := by decide +kernel
theorem G12_ok : G12.Ok := ⟨G12_home, G12_away, G12_pairs, by decide⟩
def G13 : Grp := ⟨[5, 3, 1, 0], [103, 115], [824, 920, 1816, 1840, 3632, 3680, 7216, 7264]⟩
theorem G13_home : G13.home = true := by decide +kernel
theorem G13_away : G13.away = true := by decide +kernel
theorem G13_pairs : G13.pairs = true := by decide +kernel
theorem G13_ok : G13.Ok := ⟨G13_home, G13_away, G13_pairs, by decide⟩
def G14 : Grp := ⟨[5, 3, 2, 1, 0], [47, 55, 59, 61, 79, 94, 110, 118, 121, 122], [376, 440, 472, 484, 488, 880, 944, 964, 968, 976, 1888, 1924, 1928, 1936, 1952, 3844, 3848, 3856, 3872, 3904, 7684, 7688, 7696, 7712, 7744, 15364, 15368, 15376, 15392, 15424]⟩
theorem G14_home : G14.home = true := by decide +kernel
theorem G14_away : G14.away = true := by decide +kernel
theorem G14_pairs : G14.pairs = true := by decide +kernel
theorem G14_ok : G14.Ok := ⟨G14_home, G14_away, G14_pairs, by decide⟩
def G15 : Grp := ⟨[5, 4, 3, 2, 1, 0], [31, 62, 124], [248, 496, 992, 1984, 3968, 7936, 15872, 31744]⟩
theorem G15_home : G15.home = true := by decide +kernel
theorem G15_away : G15.away = true := by decide +kernel
theorem G15_pairs : G15.pairs = true := by decide +kernel
theorem G15_ok : G15.Ok := ⟨G15_home, G15_away, G15_pairs, by decide⟩
def G16 : Grp := ⟨[6, 4, 3, 2, 1, 0], [95, 111, 119, 123, 125], [888, 952, 984, 996, 1000, 1904, 1968, 1988, 1992, 2000, 3936, 3972, 3976, 3984, 4000, 7940, 7944, 7952, 7968, 8000, 15876, 15880, 15888, 15904, 15936, 31748, 31752, 31760, 31776, 31808]⟩
theorem G16_home : G16.home = true := by decide +kernel
theorem G16_away : G16.away = true := by decide +kernel
theorem G16_pairs : G16.pairs = true := by decide +kernel
theorem G16_ok : G16.Ok := ⟨G16_home, G16_away, G16_pairs, by decide⟩
def G17 : Grp := ⟨[6, 5, 4, 3, 2, 1, 0], [63, 126], [504, 1008, 2016, 4032, 8064, 16128, 32256, 64512]⟩
theorem G17_home : G17.home = true := by decide +kernel
theorem G17_away : G17.away = true := by decide +kernel
theorem G17_pairs : G17.pairs = true := by decide +kernel
theorem G17_ok : G17.Ok := ⟨G17_home, G17_away, G17_pairs, by decide⟩
def G18 : Grp := ⟨[7, 6, 5, 4, 3, 2, 1, 0], [127], [1016, 2032, 4064, 8128, 16256, 32512, 65024]⟩
theorem G18_home : G18.home = true := by decide +kernel
theorem G18_away : G18.away = true := by decide +kernel
theorem G18_pairs : G18.pairs = true := by decide +kernel
theorem G18_ok : G18.Ok := ⟨G18_home, G18_away, G18_pairs, by decide⟩

theorem castL_getD (wn : List Nat) (i : Nat) : (castL wn).getD i 0 = ((wn.getD i 0 : Nat) : Int) := by
  unfold castL
  rw [List.getD_eq_getElem?_getD, List.getD_eq_getElem?_getD, List.getElem?_map]
  cases wn[i]? <;> rfl
theorem grp_facts {G : Grp} (ok : G.Ok) {b s d : Nat} (hb : b ∈ G.bs) (hs0 : 1 ≤ s) (hs1 : s ≤ 3) (hd0 : 1 ≤ d) (hd1 : d ≤ 3) : ∃ row ws gs d1 k1 d2 k2 d3 row2 gs2 d7 t7,
    bRun 40 (b : Int) [] = some row ∧ row.length ≤ 30 ∧ rRun 20 row (startsOf row) (rangeKs 0 row.length) [] [((startsOf row).length : Int)] = some (ws, gs) ∧
    cRun 40 (b : Int) (s : Int) 1 0 0 (b : Int) = some (d1, k1) ∧ cRun 40 (b : Int) ((s + d : Nat) : Int) 1 0 0 (b : Int) = some (d2, k2) ∧ cRun 40 d1 ((s + d : Nat) : Int) 1 0 0 d1 = some (d3, k2) ∧ cRun 40 d2 (s : Int) 1 0 0 d2 = some (d3, k1) ∧
    k1 = ws.getD 0 0 - ws.getD (min (s : Int) ((ws.length : Int) - 1)).toNat 0 ∧ k2 = ws.getD 0 0 - ws.getD (min ((s + d : Nat) : Int) ((ws.length : Int) - 1)).toNat 0 ∧
    bRun 40 d3 [] = some row2 ∧ row2.length ≤ 30 ∧ rRun 20 row2 (startsOf row2) (rangeKs 0 row2.length) [] [((startsOf row2).length : Int)] = some (ws, gs2) ∧
    cRun 40 (b : Int) 7 1 0 0 (b : Int) = some (d7, t7) ∧ d7 = (gs.map (fun q => (2 : Int) ^ (kdfLook gs q.1 0).toNat)).sum ∧ 0 < ws.length ∧ ws.length ≤ 20 ∧ gs.length ≤ 20 ∧ (∀ q ∈ gs, 0 ≤ q.2 ∧ q.2 < 64) := by
  obtain ⟨hh, ha, hp, hsm⟩ := ok
  obtain ⟨row, gs, e1, e2, e3, e4⟩ := roundsAre_spec (List.all_eq_true.mp hh b hb)
  obtain ⟨d1, k1, d2, k2, d3, c1, c2, c3, c4, hr, w1, w2⟩ := pairOk_spec (three_at (three_at (List.all_eq_true.mp hp b hb) hs0 hs1) hd0 hd1)
  obtain ⟨row2, gs2, f1, f2, f3, _⟩ := roundsAre_spec (List.all_eq_true.mp ha d3 hr)
  have hl : (castL G.wn).length = G.wn.length := List.length_map ..
  have hw : ∀ j k : Nat, k + G.wn.getD (min j (G.wn.length - 1)) 0 = G.wn.getD 0 0 → (k : Int) = (castL G.wn).getD 0 0 - (castL G.wn).getD (min (j : Int) (((castL G.wn).length : Int) - 1)).toNat 0 := by
    intro j k e
    have hmin : (min (j : Int) (((castL G.wn).length : Int) - 1)).toNat = min j (G.wn.length - 1) := by rw [hl]; omega
    rw [hmin, castL_getD, castL_getD]
    omega
  unfold Grp.small at hsm
  obtain ⟨hsm1, hsm2⟩ := (Bool.and_eq_true _ _).mp hsm
  have hsm1 := Nat.blt_eq.mp hsm1
  have hsm2 := Nat.ble_eq.mp hsm2
  unfold homeOk at e4
  split at e4
  · exact absurd e4 (by decide)
  · rename_i d7 t7 c7
    simp only [Bool.and_eq_true] at e4
    obtain ⟨⟨i1, i2⟩, i3⟩ := e4
    refine ⟨row, castL G.wn, gs, d1, k1, d2, k2, d3, row2, gs2, d7, t7, e1, e2, e3, cRun_of c1, cRun_of c2, cRun_of c3, cRun_of c4, hw _ _ w1, hw _ _ w2, f1, f2, f3, cRun_of c7, of_decide_eq_true i1, by omega, by omega, Nat.ble_eq.mp i2, ?_⟩
    intro q hq
    have := List.all_eq_true.mp i3 q hq
    obtain ⟨j1, j2⟩ := (Bool.and_eq_true _ _).mp this
    exact ⟨of_decide_eq_true j1, of_decide_eq_true j2⟩
def grps : List Grp := [G0, G1, G2, G3, G4, G5, G6, G7, G8, G9, G10, G11, G12, G13, G14, G15, G16, G17, G18]
theorem grps_ok : ∀ G ∈ grps, G.Ok := by
  intro G hG
  simp only [grps, List.mem_cons, List.not_mem_nil, or_false] at hG
  rcases hG with rfl | rfl | rfl | rfl | rfl | rfl | rfl | rfl | rfl | rfl | rfl | rfl | rfl | rfl | rfl | rfl | rfl | rfl | rfl
  · exact G0_ok
  · exact G1_ok
  · exact G2_ok
  · exact G3_ok
  · exact G4_ok
  · exact G5_ok
  · exact G6_ok
  · exact G7_ok
  · exact G8_ok
  · exact G9_ok
  · exact G10_ok
  · exact G11_ok
  · exact G12_ok
  · exact G13_ok
  · exact G14_ok
  · exact G15_ok
  · exact G16_ok
  · exact G17_ok
  · exact G18_ok
theorem grps_all : ((List.range 128).all fun b => grps.any fun G => G.bs.any fun c => Nat.beq c b) = true := by decide +kernel
theorem grps_at {b : Nat} (h : b < 128) : ∃ G ∈ grps, b ∈ G.bs := by
  have h1 := List.all_eq_true.mp grps_all b (List.mem_range.mpr h)
  obtain ⟨G, hG, h2⟩ := List.any_eq_true.mp h1
  obtain ⟨c, hc, h3⟩ := List.any_eq_true.mp h2
  have := Nat.beq_eq.mp h3
  subst this
  exact ⟨G, hG, hc⟩
theorem law_facts {b s g : Int} (hb0 : 0 ≤ b) (hb1 : b ≤ 127) (hs0 : 1 ≤ s) (hs1 : s ≤ 3) (hg0 : s + 1 ≤ g) (hg1 : g ≤ s + 3) : ∃ row ws gs d1 k1 d2 k2 d3 row2 gs2 d7 t7,
    bRun 40 b [] = some row ∧ row.length ≤ 30 ∧ rRun 20 row (startsOf row) (rangeKs 0 row.length) [] [((startsOf row).length : Int)] = some (ws, gs) ∧
    cRun 40 b s 1 0 0 b = some (d1, k1) ∧ cRun 40 b g 1 0 0 b = some (d2, k2) ∧ cRun 40 d1 g 1 0 0 d1 = some (d3, k2) ∧ cRun 40 d2 s 1 0 0 d2 = some (d3, k1) ∧
    k1 = ws.getD 0 0 - ws.getD (min s ((ws.length : Int) - 1)).toNat 0 ∧ k2 = ws.getD 0 0 - ws.getD (min g ((ws.length : Int) - 1)).toNat 0 ∧
    bRun 40 d3 [] = some row2 ∧ row2.length ≤ 30 ∧ rRun 20 row2 (startsOf row2) (rangeKs 0 row2.length) [] [((startsOf row2).length : Int)] = some (ws, gs2) ∧
    cRun 40 b 7 1 0 0 b = some (d7, t7) ∧ d7 = (gs.map (fun q => (2 : Int) ^ (kdfLook gs q.1 0).toNat)).sum ∧ 0 < ws.length ∧ ws.length ≤ 20 ∧ gs.length ≤ 20 ∧ (∀ q ∈ gs, 0 ≤ q.2 ∧ q.2 < 64) := by
  obtain ⟨bn, rfl⟩ := Int.eq_ofNat_of_zero_le hb0
  obtain ⟨sn, rfl⟩ := Int.eq_ofNat_of_zero_le (by omega : 0 ≤ s)
  obtain ⟨dn, hd⟩ := Int.eq_ofNat_of_zero_le (by omega : 0 ≤ g - sn)
  have hg : g = ((sn + dn : Nat) : Int) := by omega
  subst hg
  obtain ⟨G, hG, hb⟩ := grps_at (b := bn) (by omega)
  exact grp_facts (grps_ok G hG) hb (by omega) (by omega) (by omega) (by omega)
end PartP1
end Mine
namespace Mine
section PartC9
open PySem PySem.W PyProof.Rows PyProof.V
set_option maxRecDepth 100000
set_option maxHeartbeats 8000000
theorem freshC9 : True ∧ True := by
  w_top off
  k_with_none
  try walk1
  repeat' (first | trivial | constructor)
local macro_rules | `(tactic| walk_at "subscriptTail") => `(tactic| ((with_reducible show wpAny _ _ (subscriptTail (PySem.Expr.List ..) _ _ _) _ _ _); k_dflt (refine kba_turn (value' := PySem.Expr.Name (PySem.Str.ofString "_") ⟨0, 0, 0, 0⟩) (fun _ => rfl) ?_)))
local macro_rules | `(tactic| walk_at "subscriptTail Name Slice ref ref") => `(tactic| refine Stop.on ?_)
local macro_rules | `(tactic| walk_at "eval ListComp") => `(tactic| (k_dflt (refine LCt.ListComp_T (F₀ := by k_asm) (by with_unfolding_all rfl) (by decide) (by rfl) (by decide) (by rfl) ?_)))
local macro_rules | `(tactic| walk_at "eval ListComp") => `(tactic| ((with_reducible have h9 : Mark9 := by assumption); clear h9; refine Stop.on ?_))
local macro_rules | `(tactic| walk_at "SrcD") => `(tactic| refine Stop.on ?_)
local macro_rules | `(tactic| walk_at "call builtin:sum") => `(tactic| ((with_reducible rename Fr _ _ _ _ => eF); (with_reducible rename News _ _ _ _ => eN); (refine' LSm.sum_ints eF eN ?sh ?sl ?si ?_; (case sh => exact rfl); (case sl => exact News.isList eN (by k_mem)); (case si => assumption)); intro h' tk' t' F' N'))
local macro_rules | `(tactic| walk_at "binaryOp Add ref ref") => `(tactic| refine Stop.on ?_)
local macro_rules | `(tactic| walk_at "compareOp In none ref") => `(tactic| (refine none_in_ints (News.isList (by k_asm) (by k_mem)) (by assumption) ?_))
local macro_rules | `(tactic| walk_at "exec For") => `(tactic| refine Stop.on ?_)
local macro_rules | `(tactic| walk_at "exec For Tuple Tuple cons nil") => `(tactic| refine Stop.on ?_)
local macro_rules | `(tactic| walk_at "ItemsRest") => `(tactic| refine Stop.on ?_)
local macro_rules | `(tactic| walk_at "call ref") => `(tactic| refine Stop.on ?_)
theorem none_in_ints {prog : Program} {w : World} {A : Around} {E : Value → Shared → Prop} {s : Shared} {l : Addr} {vs : List Value} {ns : List Int} {Q : Value → Shared → Prop} (hl : s.heap.IsList l vs.toArray) (hi : IntsAre vs ns)
    (h : Q (.bool false) s) : wpAny (model prog w) A (compareOp .In .none (.ref l)) Q E s :=
  PySem.SeqInW.in_listW (fun _ => false) (fun y hy => by
    obtain ⟨i, hi2, hy2⟩ := List.mem_iff_getElem.mp (show y ∈ vs by simpa using hy)
    obtain ⟨n, t, e, _⟩ := hi.at i y (by rw [List.getElem?_eq_getElem hi2, hy2])
    rw [e]
    exact fun prog w A E s Q h => (PySem.SeqAt.EqAt.int_none n t) prog w E Q h) hl (by
    rw [show vs.toArray.any (fun _ => false) = false by simp]
    exact h)
theorem balls_aux (p : Int → Prop) [DecidablePred p] : ∀ (ks l : List Int), l.sum ≤ (ks.foldl (fun l' k' => if p k' then l' ++ [(2 : Int) ^ k'.toNat] else l') l).sum ∧ (ks.foldl (fun l' k' => if p k' then l' ++ [(2 : Int) ^ k'.toNat] else l') l).sum ≤ l.sum + (ks.map (fun k => (2 : Int) ^ k.toNat)).sum
  | [], l => by simp
  | k :: ks, l => by
    have h := balls_aux p ks (if p k then l ++ [2 ^ k.toNat] else l)
    have hp : (0 : Int) ≤ 2 ^ k.toNat := Int.pow_nonneg (by decide)
    rw [List.foldl_cons, List.map_cons, List.sum_cons]
    by_cases hk : p k
    · rw [if_pos hk] at h ⊢
      rw [List.sum_append, List.sum_cons, List.sum_nil] at h
      omega
    · rw [if_neg hk] at h ⊢
      omega
theorem balls_lo (ns : List Int) : 0 ≤ (List.foldl (fun (l' : List Int) (k' : Int) => if ¬(ns.getD k'.toNat 0).fmod 3 = 0 then l' ++ [(2 : Int) ^ k'.toNat] else l') [] (rangeKs 0 ((7 : Int) - 0).toNat)).sum := (balls_aux (fun k' => ¬(ns.getD k'.toNat 0).fmod 3 = 0) _ []).1
theorem balls_hi (ns : List Int) : (List.foldl (fun (l' : List Int) (k' : Int) => if ¬(ns.getD k'.toNat 0).fmod 3 = 0 then l' ++ [(2 : Int) ^ k'.toNat] else l') [] (rangeKs 0 ((7 : Int) - 0).toNat)).sum ≤ 127 := Int.le_trans (balls_aux (fun k' => ¬(ns.getD k'.toNat 0).fmod 3 = 0) _ []).2 (by show (List.sum (List.map (fun k : Int => (2 : Int) ^ k.toNat) (rangeKs 0 ((7 : Int) - 0).toNat))) ≤ 127; decide)
theorem min9 (a b : Int) : min a b = if b < a then b else a := by split <;> omega
theorem with_passes {M : Model} {A : Around} {env : Env} {body : List Stmt} {Q : Flow → Shared → Prop} {E : Value → Shared → Prop} {s : Shared} (hE : PassesOwn M A env E) (h : PassesOwn M A env E → wpAny M A (execs body env) Q E s) : wpAny M A (execs body env) Q E s := h hE
/-- the runs as structures: nothing unfolds them -/
structure CarriedTo (b r d t : Int) : Prop where
  run : cRun 40 b r 1 0 0 b = some (d, t)
structure RoundsOf (b : Int) (ws : List Int) (gs : List (Int × Int)) : Prop where
  run : ∃ row, bRun 40 b [] = some row ∧ row.length ≤ 30 ∧ rRun 20 row (startsOf row) (rangeKs 0 row.length) [] [((startsOf row).length : Int)] = some (ws, gs)
theorem CarriedTo.con {prog : Program} {w : World} {mean : ExcName → Option Value} {mg mb : Str → Option Value} {news : Led} {b r d t : Int} {tb tr : Tok} (h : CarriedTo b r d t) :
    Con 3 prog w mean mg mb 91 [.int b tb, .int r tr] news (fun v tl => ∃ x t1 t2, v = .ref x ∧ tl = [(x, tupObj [.int d t1, .int t t2])]) := carried_con h.run
theorem RoundsOf.con {prog : Program} {w : World} {mean : ExcName → Option Value} {mg mb : Str → Option Value} {news : Led} {b : Int} {tb : Tok} {ws : List Int} {gs : List (Int × Int)} (h : RoundsOf b ws gs) :
    Con 10 prog w mean mg mb 108 [.int b tb] news (RoundsR prog w ws gs) := by
  obtain ⟨row, h1, h2, h3⟩ := h.run
  exact rounds_con h1 h2 h3
theorem law_facts2 {b s g : Int} (hb0 : 0 ≤ b) (hb1 : b ≤ 127) (hs0 : 1 ≤ s) (hs1 : s ≤ 3) (hg0 : s + 1 ≤ g) (hg1 : g ≤ s + 3) : ∃ ws gs d1 k1 d2 k2 d3 gs2 d7 t7,
    RoundsOf b ws gs ∧ CarriedTo b s d1 k1 ∧ CarriedTo b g d2 k2 ∧ CarriedTo d1 g d3 k2 ∧ CarriedTo d2 s d3 k1 ∧
    k1 = ws.getD 0 0 - ws.getD (if (ws.length : Int) - 1 < s then (ws.length : Int) - 1 else s).toNat 0 ∧ k2 = ws.getD 0 0 - ws.getD (if (ws.length : Int) - 1 < g then (ws.length : Int) - 1 else g).toNat 0 ∧
    RoundsOf d3 ws gs2 ∧ CarriedTo b 7 d7 t7 ∧ d7 = (gs.map (fun q => (2 : Int) ^ (kdfLook gs q.1 0).toNat)).sum ∧ 0 < ws.length ∧ ws.length ≤ 20 ∧ gs.length ≤ 20 ∧ (∀ q ∈ gs, 0 ≤ q.2 ∧ q.2 < 64) := by
  obtain ⟨row, ws, gs, d1, k1, d2, k2, d3, row2, gs2, d7, t7, hf1, hf2, hf3, hc1, hc2, hc3, hc4, hk1, hk2, hf4, hf5, hf6, hc5, hd7, hw0, hw1, hgl, hgb⟩ := law_facts hb0 hb1 hs0 hs1 hg0 hg1
  rw [min9] at hk1 hk2
  exact ⟨ws, gs, d1, k1, d2, k2, d3, gs2, d7, t7, ⟨row, hf1, hf2, hf3⟩, ⟨hc1⟩, ⟨hc2⟩, ⟨hc3⟩, ⟨hc4⟩, hk1, hk2, ⟨row2, hf4, hf5, hf6⟩, ⟨hc5⟩, hd7, hw0, hw1, hgl, hgb⟩
theorem law_u : PySem.Challenge.rw_xn0005_01.Holds := hd (by
  w_strict
    (k_go0; (all_goals try k_fold)
     rename_i w s₀ s₁ mg mb G Y fa o pm doc ho hg KX X V GL T B TE TW w11 w10 M w9 w8 hcd w7 hs hlay0 hL1 hr1 hl2 w6 w5 w4 w3 w2 hL ra w1 r0 hI hr hc1 hc K0 hD h1 tk1 F w1o wo left right N0 X0
     clear G Y X V GL B TE TW M hcd hs hlay0 hL1 hr1 hl2 ra w1 r0 hr hc ho
     have hq : ∀ m h tk, Fr s₁.heap s₁.heap.objs.size h m → qk (.ret (.bool true)) { s₁ with heap := h, toks := tk } := by
       intro m h tk hF
       k_steps
     refine with_passes (by passes_own) ?_
     intro hpo
     clear_value qk ek
     have left' : w1o.data = Data.cell none := left
     have right' : wo.data = Data.cell none := right
     have K1 : Below callerA s₁.heap [] s₁.heap := K0
     clear left right X0 hD K0 hg
     obtain ⟨h₀, gens, drawn, toks, os⟩ := s₁
     dsimp only at KX T hL K1 F N0 hq hpo ⊢
     generalize ExcName.means s₀.heap = mean at T
     generalize Challenge.rw_xn0005_01.row.prog = prog at hpo ⊢
     generalize h₀.objs.size = L at F N0 hq hpo ⊢
     have F0 : Fr h₀ L h1 (fun y => if y = Str.ofString "script" then some (Value.ref w4) else none) := by
       with_unfolding_all exact F
     clear F
     try k_fold
     k_steps
     refine Stop.off ?_
     (with_reducible rename Fr _ _ _ _ => eF1); (with_reducible rename News _ _ _ _ => eN1)
     (refine' kmk_slice_ints eF1 eN1 ?ql1 ?qp1 ?qq1 ?qi1 ?qm1 ?qc1 ?_ ?qs1 ?qt1 ?qz1; (case ql1 => kmk_list); (case qp1 => kmk_part); (case qq1 => kmk_part); (case qi1 => l_ints); (case qm1 => kmk_nums); (case qc1 => exact rfl); (case qs1 => with_unfolding_all rfl); (case qt1 => kmk_pure); (case qz1 => kmk_size))
     intro D1 ws1 h18 F1 N1 l1 hI1 hC1 hL1; (try simp only [Int.reduceNeg, Int.neg_neg, Int.reduceToNat] at hI1); clear hC1 hL1; (try k_lt l1); (try k_sweep)
     k_steps
     refine Stop.off ?_
     (with_reducible rename Fr _ _ _ _ => eF2); (with_reducible rename News _ _ _ _ => eN2)
     (refine' kmk_slice_ints eF2 eN2 ?ql2 ?qp2 ?qq2 ?qi2 ?qm2 ?qc2 ?_ ?qs2 ?qt2 ?qz2; (case ql2 => kmk_list); (case qp2 => kmk_part); (case qq2 => kmk_part); (case qi2 => exact (.cons _ _ (.cons _ _ (.cons _ _ (.cons _ _ (.cons _ _ (.cons _ _ (.cons _ _ .nil)))))))); (case qm2 => exact kmk_from (.cons _ _ (.cons _ _ (.cons _ _ (.cons _ _ (.cons _ _ (.cons _ _ (.cons _ _ .nil))))))) (by omega)); (case qc2 => exact rfl); (case qs2 => with_unfolding_all rfl); (case qt2 => kmk_pure); (case qz2 => kmk_size))
     intro D2 ws2 h28 F2 N2 l2 hI2 hC2 hL2; (try simp only [Int.reduceNeg, Int.neg_neg, Int.reduceToNat] at hI2); clear hC2 hL2; (try k_lt l2); (try k_sweep)
     k_steps
     refine Stop.off ?_
     have hnl : (List.take 7 w7 ++ List.drop (w7.length : Int).toNat [1, 1, 1, 0, 1, 0, 1]).length = 7 := by
       simp only [List.length_append, List.length_take, List.length_drop, List.length_cons, List.length_nil]
       omega
     (with_reducible rename Fr _ _ _ _ => eF); (with_reducible rename News _ _ _ _ => eN)
     (refine' kmk_add_ints eF eN ?ca ?cb ?ci ?cj ?_ ?cz; (case ca => kmk_list); (case cb => kmk_list); (case ci => exact hI1); (case cj => exact hI2); (case cz => rw [sizeLine_eq, List.length_take, List.length_drop]; simp only [List.length_cons, List.length_nil]; omega))
     intro D3 ws3 h8 F8 N8 l3 hI9; (try k_lt l3); (try k_sweep)
     generalize List.take 7 w7 ++ List.drop (w7.length : Int).toNat [1, 1, 1, 0, 1, 0, 1] = numbers at hnl hI9
     have N9 := kst_newsOf N8 (l' := [(D3, listOf ws3.toArray 0), (L + 1 + 1, w1o), (L + 1, wo)]) (by
       intro p hp
       rcases List.mem_cons.mp hp with rfl | hp
       · exact .head _
       exact .tail _ (.tail _ (.tail _ (.tail _ hp))))
     have l4 : L + 1 + 1 < D3 ∧ L + 1 < D3 := l3.2.2.2
     clear hI hc1 hL hI1 hI2 N8 l3 l1 l2
     k_steps
     refine Stop.off ?_
     have hb0 := balls_lo numbers
     have hb1 := balls_hi numbers
     rename Fr _ _ _ _ => eF4
     rename News _ _ _ _ => eN4
     obtain ⟨t1, t2, t3, t4, F4⟩ : ∃ t1 t2 t3 t4, Fr h₀ L _ (fun y => if y = Str.ofString "great" then some (.int (1 + (numbers.sum.fdiv 3).fmod 3 + 1 + numbers.sum.fmod 3) t1) else if y = Str.ofString "small" then some (.int (1 + (numbers.sum.fdiv 3).fmod 3) t2) else if y = Str.ofString "total" then some (.int numbers.sum t3) else if y = Str.ofString "balls" then some (.int (List.foldl (fun (l' : List Int) (k' : Int) => if ¬(numbers.getD k'.toNat 0).fmod 3 = 0 then l' ++ [(2 : Int) ^ k'.toNat] else l') [] (rangeKs 0 ((7 : Int) - 0).toNat)).sum t4) else if y = Str.ofString "script" then some (.ref w4) else none) := ⟨_, _, _, _, eF4⟩
     have N4 := kst_newsOf eN4 (l' := [(L + 1 + 1, w1o), (L + 1, _)]) (fun p hp => .tail _ (.tail _ hp))
     have hs0 := Int.fmod_nonneg_of_pos (numbers.sum.fdiv 3) (b := 3) (by decide)
     have hs1 := Int.fmod_lt_of_pos (numbers.sum.fdiv 3) (b := 3) (by decide)
     have hd0 := Int.fmod_nonneg_of_pos numbers.sum (b := 3) (by decide)
     have hd1 := Int.fmod_lt_of_pos numbers.sum (b := 3) (by decide)
     clear eF4 eN4
     generalize (List.foldl (fun (l' : List Int) (k' : Int) => if ¬(numbers.getD k'.toNat 0).fmod 3 = 0 then l' ++ [(2 : Int) ^ k'.toNat] else l') [] (rangeKs 0 ((7 : Int) - 0).toNat)).sum = b at hb0 hb1 F4 ⊢
     generalize (numbers.sum.fdiv 3).fmod 3 = sm at hs0 hs1 F4
     generalize numbers.sum.fmod 3 = dm at hd0 hd1 F4
     generalize hgr : 1 + sm + 1 + dm = gr at F4
     generalize hsml : 1 + sm = sl at F4 hgr
     generalize numbers.sum = tot at F4
     clear hnl hI9
     obtain ⟨ws, gs, d1, k1, d2, k2, d3, gs2, d7, t7, hr1, hc1, hc2, hc3, hc4, hk1, hk2, hr2, hc5, hd7, hw0, hw1, hgl, hgb⟩ := law_facts2 (b := b) (s := sl) (g := gr) hb0 hb1 (by omega) (by omega) (by omega) (by omega)
     refine' Con.use hr1.con K1 F4 KX N4 T rfl ?cD ?cU ?cR
     case cD => show _ + 10 < recursionLimit; decide
     case cU => show _ + 10 * 10 + 100 < cLine; decide
     case cR =>
     rintro r tl h5 tk5 F5 N5 ho5 ⟨t5, wa, wvs, wc, gda, od, kvs, rfl, rfl, g1, g2, g3, g4⟩
     have lw := allLt_of (ho5 _ (.head _))
     have lw2 := allLt_of (ho5 _ (.tail _ (.head _)))
     have lw3 := allLt_of (ho5 _ (.tail _ (.tail _ (.head _))))
     simp only [AllLt, and_true] at lw lw2 lw3
     clear ho5
     simp only [List.cons_append, List.nil_append] at N5
     try dsimp only
     k_sweep
     k_steps
     rename News _ _ _ _ => eN5
     refine none_in_ints (PySem.IsL.isList (n := wc) (eN5 (wa, listOf wvs.toArray wc) (.tail _ (.head _))).1) g1 ?_
     k_steps
     refine Stop.off ?_
     rename Fr _ _ _ _ => eFc1
     rename News _ _ _ _ => eNc1
     refine' Con.use hc1.con K1 eFc1 KX eNc1 T rfl ?dD1 ?dU1 ?dR1
     case dD1 => show _ + 3 < recursionLimit; decide
     case dU1 => show _ + 10 * 3 + 100 < cLine; decide
     case dR1 =>
     rintro r tl h91 tk91 F91 N91 ho91 ⟨x1, tA1, tB1, rfl, rfl⟩
     have lx1 := allLt_of (ho91 _ (.head _))
     simp only [AllLt, and_true] at lx1
     simp only [List.cons_append, List.nil_append] at N91
     clear ho91 eFc1 
     try dsimp only
     k_sweep
     k_steps
     refine Stop.off ?_
     rename Fr _ _ _ _ => eFc2
     rename News _ _ _ _ => eNc2
     refine' Con.use hc2.con K1 eFc2 KX eNc2 T rfl ?dD2 ?dU2 ?dR2
     case dD2 => show _ + 3 < recursionLimit; decide
     case dU2 => show _ + 10 * 3 + 100 < cLine; decide
     case dR2 =>
     rintro r tl h92 tk92 F92 N92 ho92 ⟨x2, tA2, tB2, rfl, rfl⟩
     have lx2 := allLt_of (ho92 _ (.head _))
     simp only [AllLt, and_true] at lx2
     simp only [List.cons_append, List.nil_append] at N92
     clear ho92 eFc2 
     try dsimp only
     k_sweep
     k_steps
     refine Stop.off ?_
     rename Fr _ _ _ _ => lF9
     (with_unfolding_all refine' For_turns lF9 ?_ (hE := hpo))
     k_whole
     k_steps
     refine Stop.off ?_
     have hwl := g1.length
     have hwl0 : 0 < wvs.length := by omega
     (with_unfolding_all refine ItemsRest.val (fun h' tk' F' => ?_)); ktu_objs
     k_steps
     · rename k1 ≠ _ => hbad
       exact absurd hk1 hbad
     refine Stop.off ?_
     (with_unfolding_all refine ItemsRest.val (fun h' tk' F' => ?_)); ktu_objs
     k_steps
     · rename k2 ≠ _ => hbad
       exact absurd hk2 hbad
     refine Stop.off ?_
     with_unfolding_all refine ItemsRest.zero (fun h' tk' F' N' => ?_)
     k_steps
     refine Stop.off ?_
     (try clear eNc2); (try clear lF9)
     have N29 := kst_newsOf N' (l' := [(wa, listOf wvs.toArray wc), (gda, od), (L + 1 + 1, _), (L + 1, _)]) (by
       intro p hp
       rcases List.mem_cons.mp hp with rfl | hp
       · exact .tail _ (.tail _ (.tail _ (.tail _ (.tail _ (.tail _ (.head _))))))
       exact .tail _ (.tail _ (.tail _ (.tail _ (.tail _ (.tail _ (.tail _ hp)))))))
     clear N'
     refine' Con.use hc3.con K1 F' KX N29 T rfl ?dD3 ?dU3 ?dR3
     case dD3 => show _ + 3 < recursionLimit; decide
     case dU3 => show _ + 10 * 3 + 100 < cLine; decide
     case dR3 =>
     rintro r tl h93 tk93 F93 N93 ho93 ⟨x3, tA3, tB3, rfl, rfl⟩
     have lx3 := allLt_of (ho93 _ (.head _))
     simp only [AllLt, and_true] at lx3
     simp only [List.cons_append, List.nil_append] at N93
     clear ho93 F' 
     try dsimp only
     k_sweep
     k_steps
     refine Stop.off ?_
     rename Fr _ _ _ _ => eFc4
     rename News _ _ _ _ => eNc4
     refine' Con.use hc4.con K1 eFc4 KX eNc4 T rfl ?dD4 ?dU4 ?dR4
     case dD4 => show _ + 3 < recursionLimit; decide
     case dU4 => show _ + 10 * 3 + 100 < cLine; decide
     case dR4 =>
     rintro r tl h94 tk94 F94 N94 ho94 ⟨x4, tA4, tB4, rfl, rfl⟩
     have lx4 := allLt_of (ho94 _ (.head _))
     simp only [AllLt, and_true] at lx4
     simp only [List.cons_append, List.nil_append] at N94
     clear ho94 eFc4 
     try dsimp only
     k_sweep
     k_steps
     · exact absurd rfl (by assumption : k2 ≠ k2)
     refine Stop.off ?_
     rename Fr _ _ _ _ => eFc5
     rename News _ _ _ _ => eNc5
     have N59 := kst_newsOf eNc5 (l' := [(wa, listOf wvs.toArray wc), (gda, od), (L + 1 + 1, _), (L + 1, _)]) (by
       intro p hp
       exact .tail _ (.tail _ (.tail _ hp)))
     clear eNc5
     refine' Con.use hr2.con K1 eFc5 KX N59 T rfl ?eD ?eU ?eR
     case eD => show _ + 10 < recursionLimit; decide
     case eU => show _ + 10 * 10 + 100 < cLine; decide
     case eR =>
     rintro r tl h6 tk6 F6 N6 ho6 ⟨t6, wa6, wvs6, wc6, gda6, od6, kvs6, rfl, rfl, g61, g62, g63, g64⟩
     have lv := allLt_of (ho6 _ (.head _))
     have lv2 := allLt_of (ho6 _ (.tail _ (.head _)))
     have lv3 := allLt_of (ho6 _ (.tail _ (.tail _ (.head _))))
     simp only [AllLt, and_true] at lv lv2 lv3
     clear ho6 eFc5
     simp only [List.cons_append, List.nil_append] at N6
     try dsimp only
     k_sweep
     k_steps
     refine Stop.off ?_
     rename Fr _ _ _ _ => eFc6
     rename News _ _ _ _ => eNc6
     refine' Con.use hc5.con K1 eFc6 KX eNc6 T rfl ?dD5 ?dU5 ?dR5
     case dD5 => show _ + 3 < recursionLimit; decide
     case dU5 => show _ + 10 * 3 + 100 < cLine; decide
     case dR5 =>
     rintro r tl h95 tk95 F95 N95 ho95 ⟨x5, tA5, tB5, rfl, rfl⟩
     have lx5 := allLt_of (ho95 _ (.head _))
     simp only [AllLt, and_true] at lx5
     simp only [List.cons_append, List.nil_append] at N95
     clear ho95 eFc6 
     try dsimp only
     k_sweep
     have mk9 : Mark9 := True.intro
     k_steps
     refine Stop.off ?_
     clear mk9
     rename News _ _ _ _ => eN7
     have N79 := kst_newsOf eN7 (l' := [(gda, od), (L + 1 + 1, _), (L + 1, _)]) (by
       intro p hp
       exact .tail _ (.tail _ (.tail _ (.tail _ (.tail _ hp)))))
     clear eN7
     k_dflt (refine ListComp_D (F₀ := F95) (by with_unfolding_all rfl) (by decide) (by rfl) (by decide) (by rfl) ?_)
     k_steps
     refine Stop.off ?_
     refine SrcD.of (gs := gs) (fun k => 2 ^ (kdfLook gs k 0).toNat) rfl F95 N79 (.head _) g4 g2 g3 (by rw [sizeLine_eq]; omega) ?turn9 ?fin9
     case turn9 =>
       intro g' k t I oI C oC D m₂ ys h tk E' hk hC hx F' N' off' ne'
       have hhas := has_of_key hk
       obtain ⟨q, hq, hql⟩ := look_mem hhas
       have hqb := hgb q hq
       rw [← hql] at hqb
       obtain ⟨hqb0, hqb1⟩ := hqb
       clear hq hql
       have off9 := off'
       simp only [LCg.Off3, and_true] at off'
       k_steps
       exact LCg.CompEnd.intro F' N' _ (fun p hp => hp) off9 (.head _) (kcf_el rfl rfl rfl)
     case fin9 =>
       intro g' ys hI9
       rw [List.map_map] at hI9
       k_steps
       rename Fr _ _ _ _ => eF9
       have fin : ∀ (bb : Bool) m h tk, bb = true → Fr h₀ L h m → qk (.ret (.bool bb)) { heap := h, gens := gens, drawn := drawn, toks := tk, os := os } := by
         rintro _ m h tk rfl hF
         exact hq m h tk hF
       exact fin _ _ _ _ (beq_iff_eq.mpr hd7) eF9))
end PartC9
end Mine
set_option maxRecDepth 100000 in
set_option maxHeartbeats 8000000 in
theorem PySem.Challenge.cw_xn0005_01_holds : PySem.Challenge.rw_xn0005_01.Holds :=
  Mine.law_u
