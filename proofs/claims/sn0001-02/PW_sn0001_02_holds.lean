import PyProof.Rows.All
import Wide.All
import OpenK.AllK
import Wide.FinOn
import Lean
import PySem.Challenge.RW_sn0001_02
open PySem PySem.W PyProof.Rows PyProof.V PySem.Calls PySem.Spec
set_option Elab.async false
set_option maxRecDepth 100000
set_option maxHeartbeats 8000000
set_option rowWalk.seconds 0
set_option compiler.extract_closed false
namespace Mine
/-- what a dict holds, in its order -/
abbrev Cfg := List (Str × PyData)
def cD (c : Cfg) : List (PyData × PyData) := c.map fun p => (PyData.str p.1, p.2)
def getC (c : Cfg) (k : Str) : Option PyData := (c.find? fun p => decide (p.1 = k)).map (·.2)
def hasC (c : Cfg) (k : Str) : Bool := c.any fun p => decide (p.1 = k)
def putC (c : Cfg) (k : Str) (v : PyData) : Cfg := if hasC c k then c.map (fun p => if p.1 = k then (p.1, v) else p) else c ++ [(k, v)]
def delC (c : Cfg) (k : Str) : Cfg := c.filter fun p => !decide (p.1 = k)
def IsCfg (prog : Program) (w : World) (o : Obj) (c : Cfg) : Prop := (∃ kvs, o.IsDictOf (PySem.strKind prog w) kvs ∧ FlatPairs PyData.str kvs (cD c)) ∧ ∀ p ∈ c, SeqAt.shaped p.2 = true
theorem cD_length (c : Cfg) : (cD c).length = c.length := by unfold cD; rw [List.length_map]
theorem cD_any (c : Cfg) (k : Str) : ((cD c).any fun p => PySem.Spec.same p.1 (PyData.str k)) = hasC c k := by
  induction c with
  | nil => rfl
  | cons p c ih =>
    show (PySem.Spec.same (PyData.str p.1) (PyData.str k) || (cD c).any fun p => PySem.Spec.same p.1 (PyData.str k)) = (decide (p.1 = k) || hasC c k)
    rw [ih, PyProof.V.same_str]
theorem cD_put (c : Cfg) (k : Str) (v : PyData) : putD (PyData.str k) v (cD c) = cD (putC c k v) := by
  unfold putD putC
  rw [cD_any]
  by_cases hc : hasC c k = true
  · rw [if_pos hc, if_pos hc]
    unfold cD
    rw [List.map_map, List.map_map]
    refine List.map_congr_left fun p _ => ?_
    show (if PySem.Spec.same (PyData.str p.1) (PyData.str k) = true then (PyData.str p.1, v) else (PyData.str p.1, p.2)) = (fun p : Str × PyData => (PyData.str p.1, p.2)) (if p.1 = k then (p.1, v) else p)
    rw [PyProof.V.same_str]
    by_cases hp : p.1 = k
    · rw [if_pos (decide_eq_true hp), if_pos hp]
    · rw [if_neg (by simp [hp]), if_neg hp]
  · rw [if_neg hc, if_neg hc]
    unfold cD
    rw [List.map_append]
    rfl
theorem cD_lookup (k : Str) : ∀ c : Cfg, PySem.Spec.lookup (PyData.str k) (cD c) = getC c k
  | [] => rfl
  | (i, v) :: c => by
    show (if PySem.Spec.same (PyData.str i) (PyData.str k) = true then some v else PySem.Spec.lookup (PyData.str k) (cD c)) = _
    rw [PyProof.V.same_str, cD_lookup k c]
    unfold getC
    rw [List.find?_cons]
    by_cases h : i = k
    · simp [h]
    · simp [h]
theorem cD_del (c : Cfg) (k : Str) : delD (PyData.str k) (cD c) = cD (delC c k) := by
  unfold delD cD delC
  rw [List.filter_map]
  refine congrArg _ (List.filter_congr fun p _ => ?_)
  show (!PySem.Spec.same (PyData.str p.1) (PyData.str k)) = _
  rw [PyProof.V.same_str]
theorem getC_isSome (c : Cfg) (k : Str) : (getC c k).isSome = hasC c k := by
  unfold getC hasC
  rw [Option.isSome_map, List.isSome_find?]
theorem putC_length (c : Cfg) (k : Str) (v : PyData) : (putC c k v).length ≤ c.length + 1 := by
  unfold putC
  split
  · rw [List.length_map]; omega
  · rw [List.length_append]; simp
theorem getC_shaped {c : Cfg} {k : Str} {dd : PyData} (h : ∀ p ∈ c, SeqAt.shaped p.2 = true) (hd : SeqAt.shaped dd = true) : SeqAt.shaped ((getC c k).getD dd) = true := by
  unfold getC
  cases e : c.find? fun p => decide (p.1 = k) with
  | none => exact hd
  | some p => exact h p (List.mem_of_find?_eq_some e)
theorem putC_shaped {c : Cfg} {k : Str} {v : PyData} (h : ∀ p ∈ c, SeqAt.shaped p.2 = true) (hv : SeqAt.shaped v = true) : ∀ p ∈ putC c k v, SeqAt.shaped p.2 = true := by
  intro p hp
  unfold putC at hp
  split at hp
  · obtain ⟨q, hq, rfl⟩ := List.mem_map.mp hp
    split
    · exact hv
    · exact h q hq
  · rcases List.mem_append.mp hp with hp | hp
    · exact h p hp
    · rw [List.mem_singleton.mp hp]; exact hv
section
variable {prog : Program} {w : World} {A : Around} {E : Value → Shared → Prop} {s : Shared} {h₀ : Heap} {L d : Addr} {m : Str → Option Value} {news : List (Addr × Obj)} {g : Obj → List (Addr × Obj)} {o : Obj} {c : Cfg} {k : Str} {t : Tok} {v dflt : Value} {dv dd : PyData}
theorem cfg_method {pl : Sem Bool} {Q : Value × List Value → Shared → Prop} (N : News h₀ L s.heap news) (hm : (d, o) ∈ news) (hd : IsCfg prog w o c) (h : Q (.builtin "dict.get", [.ref d]) s) :
    wpAny (model prog w) A (getMethod (.ref d) "get" pl) Q E s :=
  let ⟨⟨_, a, _⟩, _⟩ := hd; kdg_method N hm a h
theorem cfg_get {Q : Value → Shared → Prop} (N : News h₀ L s.heap news) (hm : (d, o) ∈ news) (hd : IsCfg prog w o c) (lo : (d == sysModules) = false) (hdf : Flat dflt dd) (hsd : SeqAt.shaped dd = true)
    (h : ∀ u, Flat u ((getC c k).getD dd) → SeqAt.shaped ((getC c k).getD dd) = true → Q u { s with toks := s.toks + 1 }) : wpAny (model prog w) A (call (.builtin "dict.get") [.ref d, .str k t, dflt]) Q E s := by
  obtain ⟨⟨kvs, a, f⟩, hsh⟩ := hd
  refine kdg_get2 N hm a lo (strKind_is _ _ _ _) _ rfl (h _ ?_ ?_)
  · rw [← cD_lookup]
    exact f.getD PyProof.V.same_str k hdf
  · exact getC_shaped hsh hsd
theorem cfg_notin {Q : Value → Shared → Prop} (N : News h₀ L s.heap news) (hm : (d, o) ∈ news) (hd : IsCfg prog w o c) (lo : (d == sysModules) = false)
    (h : Q (.bool (!hasC c k)) { s with toks := s.toks + 1 }) : wpAny (model prog w) A (compareOp .NotIn (.str k t) (.ref d)) Q E s := by
  obtain ⟨⟨kvs, a, f⟩, hsh⟩ := hd
  refine kdg_notin N hm a lo (strKind_is _ _ _ _) _ ?_ h
  rw [f.isSome PyProof.V.same_str, cD_lookup, getC_isSome]
theorem cfg_set {Q : Unit → Shared → Prop} (F : Fr h₀ L s.heap m) (N : News h₀ L s.heap news) (U : UpdF d o news g) (hd : IsCfg prog w o c) (hv : Flat v dv) (hs : SeqAt.shaped dv = true) (hc : c.length ≤ 16777216)
    (h : ∀ h' o', Fr h₀ L h' m → News h₀ L h' (g o') → IsCfg prog w o' (putC c k dv) → Q () { s with heap := h', toks := s.toks + 1 }) :
    wpAny (model prog w) A (setItem (.ref d) (.str k t) v) Q E s := by
  obtain ⟨⟨kvs, a, f⟩, hsh⟩ := hd
  refine setItem_K PyProof.V.same_str (strKind_is _ _ _ _) hv F N U a f (fun h' o' F' N' a' f' => h h' o' F' N' ⟨⟨_, a', ?_⟩, putC_shaped hsh hs⟩) (by rw [cD_length, sizeLine_eq]; exact hc)
  rw [← cD_put]
  exact f'
theorem cfg_del {Q : Unit → Shared → Prop} (F : Fr h₀ L s.heap m) (N : News h₀ L s.heap news) (U : UpdF d o news g) (hd : IsCfg prog w o c) (hk : hasC c k = true) (hc : c.length ≤ 16777216)
    (h : ∀ h' o', Fr h₀ L h' m → News h₀ L h' (g o') → IsCfg prog w o' (delC c k) → Q () { s with heap := h', toks := s.toks + 1 }) :
    wpAny (model prog w) A (delItem (.ref d) (.str k t)) Q E s := by
  obtain ⟨⟨kvs, a, f⟩, hsh⟩ := hd
  refine kt_del_K PyProof.V.same_str (strKind_is _ _ _ _) F N U a f (by rw [cD_lookup, getC_isSome]; exact hk) (fun h' o' F' N' a' f' => h h' o' F' N' ⟨⟨_, a', ?_⟩, fun p hp => hsh p (List.mem_filter.mp hp).1⟩) (by rw [cD_length, sizeLine_eq]; exact hc)
  rw [← cD_del]
  exact f'
theorem cfg_list {Q : Value → Shared → Prop} (hh : A.handled = none) (F : Fr h₀ L s.heap m) (N : News h₀ L s.heap news) (hm : (d, o) ∈ news) (hd : IsCfg prog w o c) (lo : (d == sysModules) = false) (hc : c.length ≤ 16777216)
    (h : ∀ (B : Addr) (n : Nat) h' tk vs, Fr h₀ L h' m → News h₀ L h' ((B, listOf vs.toArray n) :: news) → (∀ q ∈ news, q.1 < B) → StrsAre vs (c.map (·.1)) → Q (.ref B) { s with heap := h', toks := tk }) :
    wpAny (model prog w) A (call (.type "list") [.ref d]) Q E s := by
  obtain ⟨⟨kvs, a, hf⟩, _⟩ := hd
  have hD : s.heap.DictOf (PySem.strKind prog w) d kvs := kda_dict N hm a
  obtain ⟨ep, hat⟩ := hD.dictAt
  have hlen : kvs.length = c.length := by rw [← hf.length, cD_length]
  refine kdl_N (kdl_dict (knd := PySem.strKind prog w) (kvs := kvs) (ep := ep) lo) hh F N hat (kdl_size (by rw [hlen]; exact hc)) fun B n h' tk vs F' N' l1 hl hv => ?_
  refine h B n h' tk vs F' N' l1 (kdy_strs (by rw [hl, hlen, List.length_map]) fun j v hvj => ?_)
  obtain ⟨k, x, hx, hk⟩ := hv j v hvj
  obtain ⟨dv, hd, _⟩ := hf.at hx
  have hd' : (c[j]?).map (fun p => (PyData.str p.1, p.2)) = some (PyData.str k, dv) := by rw [← List.getElem?_map]; exact hd
  cases hcj : c[j]? with
  | none => rw [hcj] at hd'; cases hd'
  | some p =>
    rw [hcj] at hd'
    have e1 : PyData.str p.1 = PyData.str k := congrArg Prod.fst (Option.some.inj hd')
    injection e1 with e1
    obtain ⟨t, rfl⟩ := Value.isStrOf_shape hk
    exact ⟨p.1, by rw [List.getElem?_map, hcj]; rfl, t, by rw [e1]⟩
/-- != of two flat values -/
theorem flat_ne {u : Value} {du : PyData} {Q : Value → Shared → Prop} (f : Flat u du) (g : Flat v dv) (hu : SeqAt.shaped du = true) (hv : SeqAt.shaped dv = true) (hr : A.units + 64 < cLine) (h : Q (.bool (!PyData.eqv du dv)) s) :
    wpAny (model prog w) A (compareOp .NotEq u v) Q E s := SeqAt.compareNe_shaped (f _) (g _) hu hv hr h
end
theorem News.sub {h₀ h : Heap} {L : Addr} {news news' : List (Addr × Obj)} (N : News h₀ L h news') (hs : ∀ p ∈ news, p ∈ news') : News h₀ L h news := fun p hp => N p (hs p hp)
theorem News.drop1 {h₀ h : Heap} {L : Addr} {a : Addr × Obj} {news : List (Addr × Obj)} (N : News h₀ L h (a :: news)) : News h₀ L h news := News.sub N fun _ h => .tail _ h
theorem News.drop2 {h₀ h : Heap} {L : Addr} {a b : Addr × Obj} {news : List (Addr × Obj)} (N : News h₀ L h (a :: b :: news)) : News h₀ L h news := News.drop1 (News.drop1 N)
theorem News.drop3 {h₀ h : Heap} {L : Addr} {a b c : Addr × Obj} {news : List (Addr × Obj)} (N : News h₀ L h (a :: b :: c :: news)) : News h₀ L h news := News.drop1 (News.drop2 N)
theorem News.drop4 {h₀ h : Heap} {L : Addr} {a b c d : Addr × Obj} {news : List (Addr × Obj)} (N : News h₀ L h (a :: b :: c :: d :: news)) : News h₀ L h news := News.drop2 (News.drop2 N)
theorem News.drop5 {h₀ h : Heap} {L : Addr} {a b c d e : Addr × Obj} {news : List (Addr × Obj)} (N : News h₀ L h (a :: b :: c :: d :: e :: news)) : News h₀ L h news := News.drop2 (News.drop3 N)
theorem News.drop6 {h₀ h : Heap} {L : Addr} {a b c d e f : Addr × Obj} {news : List (Addr × Obj)} (N : News h₀ L h (a :: b :: c :: d :: e :: f :: news)) : News h₀ L h news := News.drop3 (News.drop3 N)
theorem mem_first {α : Type} {x : α} (pre post : List α) : ∀ p ∈ x :: (pre ++ post), p ∈ pre ++ x :: post := fun p hp => by
  simp only [List.mem_cons, List.mem_append] at hp ⊢
  rcases hp with h | h | h
  · exact .inr (.inl h)
  · exact .inl h
  · exact .inr (.inr h)
theorem mem_back {α : Type} {x : α} (pre post : List α) : ∀ p ∈ pre ++ x :: post, p ∈ x :: (pre ++ post) := fun p hp => by
  simp only [List.mem_cons, List.mem_append] at hp ⊢
  rcases hp with h | h | h
  · exact .inr (.inl h)
  · exact .inl h
  · exact .inr (.inr h)
theorem ne_both {d : Addr} {pre post : List (Addr × Obj)} (a : ∀ p ∈ pre, p.1 ≠ d) (b : ∀ p ∈ post, p.1 ≠ d) : ∀ p ∈ pre ++ post, p.1 ≠ d := fun p hp => (List.mem_append.mp hp).elim (a p) (b p)
/-- a loop's state: the ledger, the names that it carries, what holds of it -/
def LoopJ {σ : Type} (Led : σ → List (Addr × Obj)) (ps : σ → List (Str × Value)) (x : Str) (stored : List Str) (m₀ : Str → Option Value) (P : σ → Prop) (m' : Str → Option Value) (nx : List (Addr × Obj)) : Prop :=
  ∃ c, nx = Led c ∧ (∀ p ∈ ps c, m' p.1 = some p.2) ∧ (∀ z, z ≠ x → (∀ p ∈ ps c, z ≠ p.1) → stored.contains z = false → m' z = m₀ z) ∧ P c
section
variable {prog : Program} {w : World} {A : Around} {E : Value → Shared → Prop} {s : Shared} {env : Env} {h₀ : Heap} {x : Str} {body : List Stmt} {Q : Flow → Shared → Prop}
theorem loopL {σ : Type} {l : Addr} {vs : List Value} {nn : Nat} {m₀ : Str → Option Value} (Led : σ → List (Addr × Obj)) (ps : σ → List (Str × Value)) (stored : List Str) (P : Nat → σ → Prop) (c₀ : σ)
    (hh : A.handled = none) (hl : ∀ c, (l, listOf vs.toArray nn) ∈ Led c) (F : Fr h₀ env.locals s.heap m₀) (N : News h₀ env.locals s.heap (Led c₀)) (hk : ∀ p ∈ ps c₀, m₀ p.1 = some p.2) (hp : P 0 c₀)
    (turn : ∀ i v c (u : Str → Option Value) h tk own, vs[i]? = some v → OwnOff own ((Led c).map (·.1)) → P i c →
      Fr h₀ env.locals h (fun y => if y = x then some v else kstB (fun z => if stored.contains z then u z else m₀ z) (ps c) y) → News h₀ env.locals h (Led c ++ own) →
      wpAny (model prog w) A (execs body env) (InvPostG h₀ env.locals (LoopJ Led ps x stored m₀ (P (i + 1))) own { s with heap := h, toks := tk } Q) E { s with heap := h, toks := tk })
    (done : ∀ c (u : Str → Option Value) h tk, P vs.length c → Fr h₀ env.locals h (fun y => if y = x then u y else kstB (fun z => if stored.contains z then u z else m₀ z) (ps c) y) → News h₀ env.locals h (Led c) → Q .next { s with heap := h, toks := tk }) :
    wpAny (model prog w) A (pyIter (.ref l)) (fun it s₂ => LoopAtV prog w A h₀ env x body Q E it s₂) E s := by
  refine kdl_iter (fun i m nx => LoopJ Led ps x stored m₀ (P i) m nx) hh (hl c₀) F N ⟨c₀, rfl, hk, fun _ _ _ _ => rfl, hp⟩ ?_ ?_
  · rintro i v m₁ nx h tk own hv hoff _ ⟨c, rfl, h1, h2, hp'⟩ F₁ N₁
    refine wpAny_mono (turn i v c m₁ h tk own hv hoff hp' (kst_fr h1 h2 F₁) N₁) (fun f s₂ p => ?_) fun _ _ x => x
    have up : InvEndG h₀ env.locals (LoopJ Led ps x stored m₀ (P (i + 1))) own { s with heap := h, toks := tk } s₂ →
        InvEndG h₀ env.locals (fun m' nx => (l, listOf vs.toArray nn) ∈ nx ∧ LoopJ Led ps x stored m₀ (P (i + 1)) m' nx) own { s with heap := h, toks := tk } s₂ := by
      rintro ⟨h', tk', m', news', nx', e', F', N', hn', ho', ha, hS⟩
      refine ⟨h', tk', m', news', nx', e', F', N', hn', ho', ha, ?_, hS⟩
      obtain ⟨c', rfl, _⟩ := hS
      exact hl c'
    cases f with
    | ret v => exact p
    | brk => exact p
    | next => exact up p
    | cont => exact up p
  · rintro m₁ nx h tk ⟨c, rfl, h1, h2, hp'⟩ F₁ N₁
    exact done c m₁ h tk hp' (kst_frOut h1 h2 F₁) N₁
theorem loop_end {σ : Type} {Led : σ → List (Addr × Obj)} {ps : σ → List (Str × Value)} {stored : List Str} {m₀ : Str → Option Value} {P : σ → Prop} (c : σ) {L : Addr} {m' : Str → Option Value} {own news' : List (Addr × Obj)} {s₁ : Shared} {h' : Heap} {tk : Nat}
    (F : Fr h₀ L h' m') (N : News h₀ L h' news') (hn : ∀ p ∈ Led c, p ∈ news') (ho : ∀ p ∈ own, p ∈ news') (ha : OwnOff own ((Led c).map (·.1)))
    (hk : ∀ p ∈ ps c, m' p.1 = some p.2) (hr : ∀ z, z ≠ x → (∀ p ∈ ps c, z ≠ p.1) → stored.contains z = false → m' z = m₀ z) (hp : P c) :
    InvEndG h₀ L (LoopJ Led ps x stored m₀ P) own s₁ { s₁ with heap := h', toks := tk } := InvEndG.intro F N ⟨c, rfl, hk, hr, hp⟩ ha hn ho
end
theorem loop_endA {σ : Type} {h₀ : Heap} {x : Str} {Led : σ → List (Addr × Obj)} {ps : σ → List (Str × Value)} {stored : List Str} {m₀ : Str → Option Value} {P : σ → Prop} (c : σ) {L : Addr} {m' : Str → Option Value} {own : List (Addr × Obj)} {s₁ : Shared} {h' : Heap} {tk : Nat}
    (F : Fr h₀ L h' m') (N : News h₀ L h' (Led c ++ own)) (ha : OwnOff own ((Led c).map (·.1)))
    (hk : ∀ p ∈ ps c, m' p.1 = some p.2) (hr : ∀ z, z ≠ x → (∀ p ∈ ps c, z ≠ p.1) → stored.contains z = false → m' z = m₀ z) (hp : P c) :
    InvEndG h₀ L (LoopJ Led ps x stored m₀ P) own s₁ { s₁ with heap := h', toks := tk } := loop_end c F N (fun _ h => List.mem_append_left _ h) (fun _ h => List.mem_append_right _ h) ha hk hr hp
theorem allLt_lt {d : Addr} : ∀ {l : List (Addr × Obj)}, AllLt d l → ∀ p ∈ l, p.1 < d
  | [], _, _, h => nomatch h
  | q :: l, a, p, h => (List.mem_cons.mp h).elim (fun e => by rw [e]; exact a.1) (allLt_lt a.2 p)
theorem allLt_ne {d e : Addr} {l : List (Addr × Obj)} (a : AllLt d l) (h : d ≤ e) : ∀ p ∈ l, p.1 ≠ e := fun p hp => Nat.ne_of_lt (Nat.lt_of_lt_of_le (allLt_lt a p hp) h)
theorem off_cons {a d : Addr} {o : Obj} {l : List (Addr × Obj)} (h : a ≠ d) (r : ∀ p ∈ l, p.1 ≠ d) : ∀ p ∈ (a, o) :: l, p.1 ≠ d := fun p hp => (List.mem_cons.mp hp).elim (fun e => by rw [e]; exact h) (r p)
theorem IntsAre.at' : ∀ {vs : List Value} {ns : List Int} {i : Nat} {v : Value}, IntsAre vs ns → vs[i]? = some v → ∃ y t, v = .int y t ∧ ns[i]? = some y
  | _, _, 0, v, .cons y t _, h => ⟨y, t, (Option.some.inj h).symm, rfl⟩
  | _, _, i + 1, v, .cons y t r, h => IntsAre.at' (i := i) r h
  | _, _, _, _, .nil, h => by simp at h
theorem last_ne {r : List Int} {k : Nat} (h : ¬ r = (List.replicate k (r.drop (r.length - 1))).flatten) : 0 < (r.drop (r.length - 1)).length := by
  rw [List.length_drop]
  cases r with
  | nil => exact absurd (by simp) h
  | cons x r => simp only [List.length_cons]; omega
theorem last_ne2 {x y : List Int} (h : 0 < x.length + y.length) : 0 < ((x ++ y).drop ((x ++ y).length - 1)).length := by
  rw [List.length_drop, List.length_append]; omega
section
variable {prog : Program} {w : World} {A : Around} {E : Value → Shared → Prop} {s : Shared}
theorem item_ints {h₀ : Heap} {L l : Addr} {news : List (Addr × Obj)} {vs : List Value} {ns : List Int} {n : Nat} {i : Int} {u : Tok} {value slice : PySem.Expr} {Q : Value → Shared → Prop}
    (N : News h₀ L s.heap news) (hm : (l, listOf vs.toArray n) ∈ news) (hi : IntsAre vs ns) (h0 : 0 ≤ i) (hk : i.toNat < ns.length) (hb : i < 2 ^ 63)
    (h : ∀ t, Q (.int (ns.getD i.toNat 0) t) s)
    (hs : subscripted slice false (.ref l) (.int i u) = operate [.ref l, .int i u] (getItem (.ref l) (.int i u)) := by with_unfolding_all rfl) : wpAny (model prog w) A (subscriptTail value slice (.ref l) (.int i u)) Q E s := by
  have hl : s.heap.IsList l vs.toArray := ⟨_, (N _ hm).1, rfl, n, rfl⟩
  have hk' : i.toNat < vs.length := by rw [IntsAre.length hi]; exact hk
  have hv : vs[i.toNat]? = some vs[i.toNat] := List.getElem?_eq_getElem hk'
  obtain ⟨y, t, hy, hn⟩ := IntsAre.at' hi hv
  have e : ns.getD i.toNat 0 = y := by rw [List.getD_eq_getElem?_getD, hn]; rfl
  refine tail_any hl.typeIs slot_list_getitem.lookup (wpAny_getItem_list hl h0 hb (x := vs[i.toNat]) (by simpa using hv) ?_) hs
  rw [hy, ← e]
  exact h t
end
def HasAll (m' : Str → Option Value) (l : List (Str × Value)) : Prop := ∀ p ∈ l, m' p.1 = some p.2
theorem hasNil {m' : Str → Option Value} : HasAll m' [] := fun _ h => nomatch h
theorem hasCons {m' : Str → Option Value} {k : Str} {v : Value} {l : List (Str × Value)} (h : m' k = some v) (r : HasAll m' l) : HasAll m' ((k, v) :: l) := fun p hp => (List.mem_cons.mp hp).elim (fun e => by rw [e]; exact h) (r p)
theorem loop_endX {σ : Type} {h₀ : Heap} {x : Str} {Led : σ → List (Addr × Obj)} {ps : σ → List (Str × Value)} {stored : List Str} {m₀ : Str → Option Value} {P : σ → Prop} {L : Addr} {m' : Str → Option Value} {own : List (Addr × Obj)} {s₁ : Shared} {h' : Heap} {tk : Nat}
    (F : Fr h₀ L h' m') (h : ∃ c, P c ∧ News h₀ L h' (Led c ++ own) ∧ OwnOff own ((Led c).map (·.1)) ∧ HasAll m' (ps c) ∧ ∀ z, z ≠ x → (∀ p ∈ ps c, z ≠ p.1) → stored.contains z = false → m' z = m₀ z) :
    InvEndG h₀ L (LoopJ Led ps x stored m₀ P) own s₁ { s₁ with heap := h', toks := tk } :=
  let ⟨c, hp, N, ha, hk, hr⟩ := h; loop_endA c F N ha hk hr hp
section
variable {prog : Program} {w : World} {A : Around} {E : Value → Shared → Prop} {s : Shared} {env : Env} {h₀ : Heap} {x : Str} {body : List Stmt} {Q : Flow → Shared → Prop}
/-- a loop over a made sequence at l, by an iterator at I -/
theorem loopSrc {σ : Type} {I : Addr} {fp : List Addr} {n : Nat} {Pv : Nat → Value → Prop} {St : Nat → Heap → Prop} {m₀ : Str → Option Value} (Led : σ → List (Addr × Obj)) (ps : σ → List (Str × Value)) (stored : List Str) (P : Nat → σ → Prop) (c₀ : σ)
    (W : Walks prog w A I fp [I] n Pv St) (hfp : ∀ b ∈ fp, b = I ∨ ∃ src, ∀ c, (b, src) ∈ Led c) (hIfp : I ∈ fp) (hSt : ∀ i h, St i h → ∃ o, h.get? I = some o) (F : Fr h₀ env.locals s.heap m₀) (N : News h₀ env.locals s.heap (Led c₀))
    (hI0 : h₀.get? I = none) (hIL : I ≠ env.locals) (hIN : ∀ p ∈ Led c₀, p.1 ≠ I) (hst : St 0 s.heap) (hk : ∀ p ∈ ps c₀, m₀ p.1 = some p.2) (hp : P 0 c₀)
    (turn : ∀ i v c (u : Str → Option Value) h tk own, i < n → Pv i v → OwnOff own ((Led c).map (·.1)) → P i c →
      Fr h₀ env.locals h (fun y => if y = x then some v else kstB (fun z => if stored.contains z then u z else m₀ z) (ps c) y) → News h₀ env.locals h (Led c ++ own) →
      wpAny (model prog w) A (execs body env) (InvPostG h₀ env.locals (LoopJ Led ps x stored m₀ (P (i + 1))) own { s with heap := h, toks := tk } Q) E { s with heap := h, toks := tk })
    (done : ∀ c (u : Str → Option Value) h tk, P n c → Fr h₀ env.locals h (fun y => if y = x then u y else kstB (fun z => if stored.contains z then u z else m₀ z) (ps c) y) → News h₀ env.locals h (Led c) → Q .next { s with heap := h, toks := tk }) :
    LoopAtV prog w A h₀ env x body Q E (.ref I) s := by
  refine ⟨I, fp, [I], n, Pv, St, m₀, Led c₀, fun i m nx => LoopJ Led ps x stored m₀ (P i) m nx, rfl, W, ?_, ?_, ?_, hst, F, N, ⟨c₀, rfl, hk, fun _ _ _ _ => rfl, hp⟩, ?_, ?_⟩
  · intro hm
    rcases hfp _ hm with e | ⟨src, e⟩
    · exact hIL e.symm
    · exact (N _ (e c₀)).2.1 rfl
  · intro b hb
    rw [List.mem_singleton.mp hb]; exact hI0
  · intro p hp' hm
    exact hIN p hp' (List.mem_singleton.mp hm)
  · rintro i v m₁ nx s₁ own ⟨h, tk, rfl⟩ hin hv ⟨c, rfl, k1, k2, hc⟩ hoff hown hget hall hst₁ F₁ N₁
    have memI : ∃ o, (I, o) ∈ own.filter fun p => decide (p.1 = I) := by
      obtain ⟨o, ho⟩ := hSt _ _ hst₁
      exact ⟨o, List.mem_filter.mpr ⟨hall I hIfp hI0 o ho, by simp⟩⟩
    have sep : OwnOff (own.filter fun p => decide (p.1 = I)) ((Led c).map (·.1)) := by
      intro p hp' b hb e
      obtain ⟨q, hq, rfl⟩ := List.mem_map.mp hb
      have e1 : p.1 = I := of_decide_eq_true (List.mem_filter.mp hp').2
      exact hoff q hq (List.mem_singleton.mpr (e ▸ e1))
    have N₂ : News h₀ env.locals h (Led c ++ own.filter fun p => decide (p.1 = I)) := News.sub N₁ fun p hp' => by
      rcases List.mem_append.mp hp' with hp' | hp'
      · exact List.mem_append_right _ hp'
      · exact List.mem_append_left _ (List.mem_filter.mp hp').1
    refine wpAny_mono (turn i v c m₁ h tk _ hin hv sep hc (kst_fr k1 k2 F₁) N₂) (fun f s₂ post => ?_) fun _ _ e => e
    have fin : InvEndG h₀ env.locals (LoopJ Led ps x stored m₀ (P (i + 1))) (own.filter fun p => decide (p.1 = I)) { s with heap := h, toks := tk } s₂ →
        LoopStepU h₀ env.locals [I] own (LoopJ Led ps x stored m₀ (P (i + 1))) { s with heap := h, toks := tk } .next s₂ := by
      rintro ⟨h', tk', m', news', nx, rfl, F', N', hn, ho, ha, hJ⟩
      refine LoopStepU.intro F' (fun p hp' => ?_) (fun p hp' hm => ?_) hJ
      · rcases List.mem_append.mp hp' with hp' | hp'
        · by_cases e : p.1 = I
          · exact N' p (ho p (List.mem_filter.mpr ⟨hp', by simp [e]⟩))
          · rcases hfp _ (hown p hp') with e2 | ⟨src, e2⟩
            · exact absurd e2 e
            · have g1 := hget p hp'
              have g2 := (N₂ _ (List.mem_append_left _ (e2 c))).1
              have e3 : p = (p.1, src) := Prod.ext rfl (Option.some.inj (g1.symm.trans g2))
              obtain ⟨c', rfl, _⟩ := hJ
              rw [e3]
              exact N' _ (hn _ (e2 c'))
        · exact N' p (hn p hp')
      · obtain ⟨o, hmo⟩ := memI
        exact ha _ hmo p.1 (List.mem_map_of_mem hp') (List.mem_singleton.mp hm).symm
    cases f with
    | ret v => exact .ret post
    | brk => exact .brk post
    | next => exact .next (fin post)
    | cont => exact .cont (fin post)
  · rintro h' tk m' news' F' N' _ ⟨c, rfl, k1, k2, hc⟩
    exact done c m' h' tk hc (kst_frOut k1 k2 F') N'
/-- a loop over a made tuple -/
theorem loopT {σ : Type} {l : Addr} {vs : List Value} {nn : Nat} {m₀ : Str → Option Value} (Led : σ → List (Addr × Obj)) (ps : σ → List (Str × Value)) (stored : List Str) (P : Nat → σ → Prop) (c₀ : σ)
    (hh : A.handled = none) (hl : ∀ c, (l, ({ cls := .type "tuple", data := .seq vs.toArray nn } : Obj)) ∈ Led c) (F : Fr h₀ env.locals s.heap m₀) (N : News h₀ env.locals s.heap (Led c₀)) (hk : ∀ p ∈ ps c₀, m₀ p.1 = some p.2) (hp : P 0 c₀)
    (turn : ∀ i v c (u : Str → Option Value) h tk own, vs[i]? = some v → OwnOff own ((Led c).map (·.1)) → P i c →
      Fr h₀ env.locals h (fun y => if y = x then some v else kstB (fun z => if stored.contains z then u z else m₀ z) (ps c) y) → News h₀ env.locals h (Led c ++ own) →
      wpAny (model prog w) A (execs body env) (InvPostG h₀ env.locals (LoopJ Led ps x stored m₀ (P (i + 1))) own { s with heap := h, toks := tk } Q) E { s with heap := h, toks := tk })
    (done : ∀ c (u : Str → Option Value) h tk, P vs.length c → Fr h₀ env.locals h (fun y => if y = x then u y else kstB (fun z => if stored.contains z then u z else m₀ z) (ps c) y) → News h₀ env.locals h (Led c) → Q .next { s with heap := h, toks := tk }) :
    wpAny (model prog w) A (pyIter (.ref l)) (fun it s₂ => LoopAtV prog w A h₀ env x body Q E it s₂) E s := by
  have ho := (N _ (hl c₀)).1
  have ht : s.heap.IsTuple l vs.toArray := ⟨_, ho, rfl, nn, rfl⟩
  have hne : l ≠ s.heap.objs.size := Nat.ne_of_lt (Heap.lt_size ho)
  refine wpAny_pyIter_tuple ht ?_
  refine loopSrc (s := { s with heap := s.heap.push _ }) Led ps stored P c₀ (Walks.tuple (prog := prog) (w := w) hh s.heap.objs.size l hne vs.toArray) (fun b hb => (List.mem_cons.mp hb).imp id fun e => ⟨{ cls := .type "tuple", data := .seq vs.toArray nn }, by obtain rfl := List.mem_singleton.mp e; exact hl⟩) (.head _) (fun i h st => let ⟨⟨o, ho, _⟩, _⟩ := st; ⟨o, ho⟩) (F.push _)
    (fun p hp => ⟨Heap.get?_push_of_some _ (N p hp).1, (N p hp).2⟩) (next_is_new F) (fun e => absurd F.ns.lt (e ▸ Nat.lt_irrefl _)) (fun p hp e => absurd (Heap.lt_size (N p hp).1) (e ▸ Nat.lt_irrefl _))
    ⟨⟨_, Heap.get?_push_size _ rfl, rfl, rfl⟩, ht.push _⟩ hk hp (fun i v c u h tk own hi hv => turn i v c u h tk own (by simpa using hv)) fun c u h tk hP => done c u h tk (by simpa using hP)
theorem unrW_end {L : Addr} {its : List (Addr × Obj)} {rst : (Str → Option Value) → List (Addr × Obj) → Prop} {s₁ : Shared} {h' : Heap} {tk : Nat} {m' : Str → Option Value} (news' : List (Addr × Obj)) (F : Fr h₀ L h' m') (N : News h₀ L h' (its ++ news'))
    (off : ∀ p ∈ news', ∀ q ∈ its, p.1 ≠ q.1) (r : rst m' news') : UnrEndW h₀ L s₁ its rst { s₁ with heap := h', toks := tk } := ⟨h', tk, m', news', rfl, F, N, off, r⟩
/-- a loop over a range by ones -/
theorem loopR {σ : Type} {r : Addr} {a₀ b₀ : Int} {t₀ u₀ v₀ : Tok} {n : Nat} {m₀ : Str → Option Value} (Led : σ → List (Addr × Obj)) (ps : σ → List (Str × Value)) (stored : List Str) (P : Nat → σ → Prop) (c₀ : σ)
    (hh : A.handled = none) (hr : IsRange s.heap r a₀ b₀ 1 t₀ u₀ v₀) (hsmall : Builtin.Range.small a₀ b₀ 1 = true) (hn : Builtin.Range.rangeSize a₀ b₀ 1 = (n : Int)) (F : Fr h₀ env.locals s.heap m₀) (N : News h₀ env.locals s.heap (Led c₀)) (hk : ∀ p ∈ ps c₀, m₀ p.1 = some p.2) (hp : P 0 c₀)
    (turn : ∀ i t c (u : Str → Option Value) h tk own, i < n → OwnOff own ((Led c).map (·.1)) → P i c →
      Fr h₀ env.locals h (fun y => if y = x then some (.int (a₀ + (i : Int)) t) else kstB (fun z => if stored.contains z then u z else m₀ z) (ps c) y) → News h₀ env.locals h (Led c ++ own) →
      wpAny (model prog w) A (execs body env) (InvPostG h₀ env.locals (LoopJ Led ps x stored m₀ (P (i + 1))) own { s with heap := h, toks := tk } Q) E { s with heap := h, toks := tk })
    (done : ∀ c (u : Str → Option Value) h tk, P n c → Fr h₀ env.locals h (fun y => if y = x then u y else kstB (fun z => if stored.contains z then u z else m₀ z) (ps c) y) → News h₀ env.locals h (Led c) → Q .next { s with heap := h, toks := tk }) :
    wpAny (model prog w) A (pyIter (.ref r)) (fun it s₂ => LoopAtV prog w A h₀ env x body Q E it s₂) E s := by
  refine wpAny_pyIter_range hr hsmall ?_
  refine loopSrc (s := { s with heap := s.heap.push _ }) Led ps stored P c₀ (Walks.range (prog := prog) (w := w) hh s.heap.objs.size a₀ 1 n) (fun b hb => .inl (List.mem_singleton.mp hb)) (.head _) (fun i h st => ⟨_, st⟩) (F.push _)
    (fun p hp => ⟨Heap.get?_push_of_some _ (N p hp).1, (N p hp).2⟩) (next_is_new F) (fun e => absurd F.ns.lt (e ▸ Nat.lt_irrefl _)) (fun p hp e => absurd (Heap.lt_size (N p hp).1) (e ▸ Nat.lt_irrefl _))
    (by show IsRangeIter _ _ _ _ _; rw [hn]; simpa using Heap.get?_push_size _ rfl) hk hp (fun i v c u h tk own hi hv => ?_) done
  obtain ⟨t, rfl⟩ := hv
  rw [Int.mul_one]
  exact turn i t c u h tk own hi
end
theorem StrsAre.at' : ∀ {vs : List Value} {ys : List Str} {i : Nat} {v : Value}, StrsAre vs ys → vs[i]? = some v → ∃ y t, ys[i]? = some y ∧ v = .str y t
  | _, _, 0, v, .cons y t _, h => ⟨y, t, rfl, (Option.some.inj h).symm⟩
  | _, _, i + 1, v, .cons y t r, h => StrsAre.at' (i := i) r h
  | _, _, _, _, .nil, h => by simp at h
theorem StrsAre.len : ∀ {vs : List Value} {ys : List Str}, StrsAre vs ys → vs.length = ys.length
  | _, _, .nil => rfl
  | _, _, .cons _ _ r => by rw [List.length_cons, List.length_cons, StrsAre.len r]
theorem IsCfg.nodup {prog : Program} {w : World} {o : Obj} {c : Cfg} (h : IsCfg prog w o c) : (c.map (·.1)).Nodup := by
  obtain ⟨⟨kvs, ⟨_, _, _, _, _, _, hn⟩, hf⟩, _⟩ := h
  have e : ∀ {kvs : List (Str × Value)} {c : Cfg}, FlatPairs PyData.str kvs (cD c) → kvs.map (·.1) = c.map (·.1) := by
    intro kvs
    induction kvs with
    | nil => intro c hf; cases c with
      | nil => rfl
      | cons p c => cases hf
    | cons q kvs ih =>
      intro c hf
      cases c with
      | nil => cases hf
      | cons p c =>
        have hf' : FlatPairs PyData.str (q :: kvs) ((PyData.str p.1, p.2) :: cD c) := hf
        generalize hE : (PyData.str p.1, p.2) :: cD c = D at hf'
        cases hf' with
        | cons f r =>
          injection hE with h1 h2
          injection h1 with h3 h4
          injection h3 with h3
          subst h2
          rw [List.map_cons, List.map_cons, ih r, h3]
  rw [← e hf]
  exact hn
/-- two dicts compared -/
def sameR (cb : Cfg) : Cfg → Bool
  | [] => true
  | p :: r => match getC cb p.1 with
    | none => false
    | some u => PyData.eqv p.2 u && sameR cb r
def sameC (ca cb : Cfg) : Bool := ca.length == cb.length && sameR cb ca
theorem sameR_rows (cb : Cfg) : ∀ ca : Cfg, KeqRows (cD cb) (cD ca) (sameR cb ca)
  | [] => .nil
  | (k, v) :: r => by
    unfold sameR
    cases e : getC cb k with
    | none => exact .miss (by rw [cD_lookup, e])
    | some u => exact .hit (by rw [cD_lookup, e]) (sameR_rows cb r)
section
variable {prog : Program} {w : World} {A : Around} {E : Value → Shared → Prop} {s : Shared} {h₀ : Heap} {L : Addr} {m : Str → Option Value} {news : List (Addr × Obj)}
theorem cfg_ne {a b : Addr} {oa ob : Obj} {ca cb : Cfg} {Q : Value → Shared → Prop} (N : News h₀ L s.heap news) (ma : (a, oa) ∈ news) (mb : (b, ob) ∈ news) (Da : IsCfg prog w oa ca) (Db : IsCfg prog w ob cb)
    (la : (a == sysModules) = false) (lb : (b == sysModules) = false) (hu : A.units < cLine) (h : Q (.bool (!sameC ca cb)) s) : wpAny (model prog w) A (compareOp .NotEq (.ref a) (.ref b)) Q E s := by
  obtain ⟨⟨ka, da, fa⟩, _⟩ := Da
  obtain ⟨⟨kb, db, fb⟩, _⟩ := Db
  refine keq_ne (r := sameR cb ca) la lb (Heap.dictOf_iff.mpr ⟨oa, (N _ ma).1, da⟩) (Heap.dictOf_iff.mpr ⟨ob, (N _ mb).1, db⟩) hu (fun _ => (sameR_rows cb ca).hits PyProof.V.same_str fb fa) ?_
  rw [← fa.length, ← fb.length, cD_length, cD_length]
  exact h
theorem cfg_item {d : Addr} {o : Obj} {c : Cfg} {k : Str} {t : Tok} {dv : PyData} {value slice : PySem.Expr} {Q : Value → Shared → Prop} (N : News h₀ L s.heap news) (hm : (d, o) ∈ news) (hd : IsCfg prog w o c) (hg : getC c k = some dv)
    (h : ∀ v, Flat v dv → Q v { s with toks := s.toks + 1 })
    (hs : subscripted slice false (.ref d) (.str k t) = operate [.ref d, .str k t] (getItem (.ref d) (.str k t)) := by with_unfolding_all rfl) : wpAny (model prog w) A (subscriptTail value slice (.ref d) (.str k t)) Q E s := by
  obtain ⟨⟨kvs, a, f⟩, _⟩ := hd
  obtain ⟨v, hv, fv⟩ := f.of_lookup PyProof.V.same_str (k := k) (d := dv) (by rw [cD_lookup]; exact hg)
  exact kdt_tail N hm a (kdt_getItem N hm a (strKind_is _ _ _ _) hv (h v fv)) hs
/-- what the copy's leaf must bring -/
inductive CopyLeaf (prog : Program) (w : World) (A : Around) (env : Env) (scope : Scope) (cl : List (Str × Addr)) (x : Str) (vx : PySem.Expr) (h₀ : Heap) (L : Addr) (m : Str → Option Value) (news : List (Addr × Obj)) (Q : Value → Shared → Prop) : Value → Shared → Prop
  | mk {d : Addr} {o : Obj} {c : Cfg} {s₁ : Shared} (F : Fr h₀ L s₁.heap m) (N : News h₀ L s₁.heap news) (hm : (d, o) ∈ news) (hD : IsCfg prog w o c) (lo : (d == sysModules) = false) (hsys : h₀.NoSeer) (hc : c.length ≤ 16777216)
    (val : ∀ (C : Addr) (k : Str) (t : Tok) (dv : PyData) (s₂ : Shared) (m₂ : Str → Option Value) (E' : Value → Shared → Prop), getC c k = some dv → s₂.heap.Ns C m₂ → m₂ x = some (.str k t) → (∀ b o, s₁.heap.get? b = some o → s₂.heap.get? b = some o) →
        wpAny (model prog w) A (eval vx (compEnvC scope cl C env)) (fun y s₃ => Flat y dv ∧ Keeps s₂ s₃) E' s₂)
    (cont : ∀ D o' h' tk, Fr h₀ L h' m → News h₀ L h' ((D, o') :: news) → IsCfg prog w o' c → (D == sysModules) = false → (∀ p ∈ news, p.1 ≠ D) → Q (.ref D) { s₁ with heap := h', toks := tk }) :
    CopyLeaf prog w A env scope cl x vx h₀ L m news Q (.ref d) s₁
theorem stored_new {K : Type} [DecidableEq K] {kvs : List (K × Value)} {D : List (PyData × PyData)} {enc : K → PyData} (henc : ∀ a b, PySem.Spec.same (enc a) (enc b) = decide (a = b)) (p : FlatPairs enc kvs D) {k : K} {v : Value} {dv : PyData} (hv : Flat v dv) (hn : ∀ q ∈ D, PySem.Spec.same q.1 (enc k) = false) :
    FlatPairs enc (stored kvs k v) (D ++ [(enc k, dv)]) := by
  have e := p.stored henc k hv
  have e2 : putD (enc k) dv D = D ++ [(enc k, dv)] := by
    unfold putD
    rw [if_neg]
    intro h
    obtain ⟨q, hq, hs⟩ := List.any_eq_true.mp h
    rw [hn q hq] at hs
    cases hs
  rwa [e2] at e
theorem copy_rows {c : Cfg} (hn : (c.map (·.1)).Nodup) {l : List Value} {kvs : List (Str × Value)} (S : StoredAll (fun v k => Value.isStrOf k v = true) (fun v y => ∃ k dv, Value.isStrOf k v = true ∧ getC c k = some dv ∧ Flat y dv) l kvs) :
    (∀ (j : Nat) (v : Value), l[j]? = some v → ∃ p : Str × PyData, c[j]? = some p ∧ Value.isStrOf p.1 v = true) → l.length ≤ c.length → FlatPairs PyData.str kvs (cD (c.take l.length)) := by
  induction S with
  | nil => intro _ _; exact .nil
  | @snoc l kvs v k y S' hk hy ih =>
    intro hl hle
    rw [List.length_append, List.length_singleton] at hle ⊢
    have ih' := ih (fun j u hj => hl j u (by rw [List.getElem?_append_left (by exact (List.getElem?_eq_some_iff.mp hj).1)]; exact hj)) (by omega)
    obtain ⟨p, hp, hpv⟩ := hl l.length v (by simp)
    obtain ⟨k2, dv, hk2, hg, fy⟩ := hy
    obtain ⟨t1, e1⟩ := Value.isStrOf_shape hk
    obtain ⟨t2, e2⟩ := Value.isStrOf_shape hk2
    obtain ⟨t3, e3⟩ := Value.isStrOf_shape hpv
    have q1 : k2 = k := by rw [e1] at e2; injection e2 with q; exact q.symm
    have q2 : p.1 = k := by rw [e1] at e3; injection e3 with q; exact q.symm
    subst q1
    have hdv : p.2 = dv := by
      have hmem := List.mem_of_getElem? hp
      have : getC c k2 = some p.2 := by
        unfold getC
        have hf : ∀ c : Cfg, (c.map (·.1)).Nodup → p ∈ c → c.find? (fun q => decide (q.1 = k2)) = some p := by
          intro c
          induction c with
          | nil => intro _ h; cases h
          | cons a r ihr =>
            intro hn' hm
            rw [List.map_cons, List.nodup_cons] at hn'
            rw [List.find?_cons]
            rcases List.mem_cons.mp hm with rfl | hm
            · simp [q2]
            · have : a.1 ≠ k2 := fun e => hn'.1 (by rw [e, ← q2]; exact List.mem_map_of_mem (f := (·.1)) hm)
              simp only [this, decide_false]
              exact ihr hn'.2 hm
        rw [hf c hn hmem]; rfl
      rw [this] at hg
      exact Option.some.inj hg
    have e : cD (c.take (l.length + 1)) = cD (c.take l.length) ++ [(PyData.str k2, dv)] := by
      rw [List.take_add_one, hp]
      unfold cD
      rw [List.map_append]
      simp [q2, hdv]
    rw [e]
    refine stored_new PyProof.V.same_str ih' fy fun q hq => ?_
    unfold cD at hq
    obtain ⟨r, hr, rfl⟩ := List.mem_map.mp hq
    show PySem.Spec.same (PyData.str r.1) (PyData.str k2) = false
    rw [PyProof.V.same_str]
    refine decide_eq_false fun er => ?_
    obtain ⟨i, hi⟩ := List.getElem?_of_mem hr
    have hil : i < l.length := by
      have := (List.getElem?_eq_some_iff.mp hi).1
      rw [List.length_take] at this
      omega
    rw [List.getElem?_take_of_lt hil] at hi
    have a1 : (c.map (·.1))[i]? = some k2 := by rw [List.getElem?_map, hi]; exact congrArg some er
    have a2 : (c.map (·.1))[l.length]? = some k2 := by rw [List.getElem?_map, hp]; exact congrArg some q2
    have := (List.getElem?_inj (by exact (List.getElem?_eq_some_iff.mp a1).1) hn).mp (a1.trans a2.symm)
    omega
theorem copy_cfg {env : Env} {vx iter : PySem.Expr} {x : Str} {px px' : Pos} {scope : Scope} {cl : List (Str × Addr)} {pos : Pos} {Q : Value → Shared → Prop}
    (F₁ : Fr h₀ L s.heap m) (N₁ : News h₀ L s.heap news) (hh : A.handled = none) (hclos : closureFor scope env = pure cl) (hcell : ∀ y ∈ scope.names, y.2 ≠ .cell) (hkind : scope.kind = .function)
    (hnames : ∀ y ∈ scope.names, y.2 = .local → scope.names.lookup y.1 = some .local) (hx : scope.names.lookup x = some .local) (hdb : (x == ("__debug__" : Str)) = false)
    (h : wpAny (model prog w) A (eval iter env) (fun xv s₁ => CopyLeaf prog w A env scope cl x vx h₀ L m news Q xv s₁) E s)
    (hs : ∀ x, foldedSetIterable iter env x = pure x) :
    wpAny (model prog w) A (eval (.DictComp (.Name x px') vx [⟨.Name x px, iter, [], 0⟩] scope pos) env) Q E s := by
  rw [arm_eval_DictComp]
  refine wpAny_comprehension_free (use := none) rfl hs hclos hkind hnames (wpAny_mono h (fun xv s₁ h₁ => ?_) fun _ _ e => e)
  obtain ⟨F, N, hm, hD, lo, hsys, hc, val, cont⟩ := h₁
  rename_i d o c
  have hnd := hD.nodup
  obtain ⟨⟨kvs, a, hf⟩, hsh⟩ := hD
  have hDo : s₁.heap.DictOf (PySem.strKind prog w) d kvs := kda_dict N hm a
  obtain ⟨ep, hat⟩ := hDo.dictAt
  have hlen : kvs.length = c.length := by rw [← hf.length, cD_length]
  have hlt : d < s₁.heap.objs.size := hat.lt_size
  refine wpAny_pyIter_dict lo hat ?_
  have up : ∀ (s₃ : Shared), (∀ b o, b ∉ [s₁.heap.objs.size] → (s₁.heap.push { cls := .type "dict_keyiterator", data := .fields #[.ref d, .int 0 0, .int kvs.length 0, .int ep 0] }).get? b = some o → s₃.heap.get? b = some o) → ∀ b o, s₁.heap.get? b = some o → s₃.heap.get? b = some o :=
    fun s₃ hk b o e => hk b o (fun hm => by rcases List.mem_cons.mp hm with rfl | hm; exact Nat.lt_irrefl _ (Heap.lt_size e); cases hm) (Heap.get?_push_of_some _ e)
  have keyAt : ∀ (i : Nat) (v : Value), (∃ k x, kvs[i]? = some (k, x) ∧ (strKind prog w).is k v = true) → ∃ p : Str × PyData, c[i]? = some p ∧ Value.isStrOf p.1 v = true := by
    rintro i v ⟨k, x, hx, hk⟩
    obtain ⟨dv, hd, _⟩ := hf.at hx
    have hd' : (c[i]?).map (fun p => (PyData.str p.1, p.2)) = some (PyData.str k, dv) := by rw [← List.getElem?_map]; exact hd
    cases hcj : c[i]? with
    | none => rw [hcj] at hd'; cases hd'
    | some p =>
      rw [hcj] at hd'
      have e1 : PyData.str p.1 = PyData.str k := congrArg Prod.fst (Option.some.inj hd')
      injection e1 with e1
      exact ⟨p, rfl, by rw [e1]; exact hk⟩
  refine comp_block_walkCD (knd := strKind prog w) (RR := fun acc C => compPost (model prog w) A E none Q acc C) (Walks.dictKeys hh _ d (Nat.ne_of_lt hlt) kvs ep) (by rw [hlen, sizeLine_eq]; exact hc) (fun _ => true) (fun v k => Value.isStrOf k v = true)
    (fun v y => ∃ k dv, Value.isStrOf k v = true ∧ getC c k = some dv ∧ Flat y dv) hcell hkind hx ⟨⟨_, Heap.get?_push_size _ rfl, rfl, rfl⟩, hat.push _⟩ ?_ ⟨?_, ?_, ?_⟩ ?_
  · intro b hb
    show b < (s₁.heap.push _).objs.size
    rw [Heap.size_push]
    rcases List.mem_cons.mp hb with rfl | hb
    · exact Nat.lt_succ_self _
    · rcases List.mem_cons.mp hb with rfl | hb
      · exact Nat.lt_succ_of_lt hlt
      · cases hb
  · intro C i v s₃ m₃ E' hP hn hm hk
    exact wpAny_pure ⟨rfl, _, _, rfl, fun _ _ e => e⟩
  · intro C i v s₃ m₃ E' hP hp hn hm hk
    obtain ⟨p, hp1, hp2⟩ := keyAt i v hP
    refine wpAny_Name (wpAny_loadName_local (v := v) hkind (lookup_relabel_local hx) hn hm ?_) hdb
    exact ⟨⟨p.1, hp2, hp2⟩, _, _, rfl, fun _ _ e => e⟩
  · intro C i v s₃ m₃ E' hP hp hn hm hk
    obtain ⟨p, hp1, hp2⟩ := keyAt i v hP
    obtain ⟨t, rfl⟩ := Value.isStrOf_shape hp2
    have hg : ∃ dv, getC c p.1 = some dv := by
      have : hasC c p.1 = true := by
        unfold hasC
        exact List.any_eq_true.mpr ⟨p, List.mem_of_getElem? hp1, by simp⟩
      rw [← getC_isSome] at this
      exact Option.isSome_iff_exists.mp this
    obtain ⟨dv, hg⟩ := hg
    exact wpAny_mono (val C p.1 t dv s₃ m₃ E' hg hn hm (up s₃ hk)) (fun y s₄ h₄ => ⟨⟨p.1, dv, hp2, hg, h₄.1⟩, h₄.2⟩) fun _ _ e => e
  · intro D C h' tk m' kvs' vs' hDn hC hDC hn hlD hlen' hP hF hk
    refine ⟨m', hn, fun h'' hs'' => ?_⟩
    have keep : ∀ b o, s₁.heap.get? b = some o → h''.get? b = some o := fun b o e =>
      hs''.extBut b o (by rintro rfl; rw [Heap.get?_push_of_some _ e] at hC; cases hC) (up { s₁ with heap := h' } hk b o e)
    have hl2 : h''.DictOf (strKind prog w) D kvs' := hlD.extBut hs''.extBut hDC
    obtain ⟨o', ho', hd'⟩ := Heap.dictOf_iff.mp hl2
    have hDs : s₁.heap.get? D = none := by
      cases e : s₁.heap.get? D with
      | none => rfl
      | some o => exact absurd ((Heap.get?_push_of_some _ e).symm.trans hDn) (fun e => nomatch e)
    have h0D : h₀.get? D = none := by
      cases e : h₀.get? D with
      | none => rfl
      | some o => rw [F.keep _ _ e] at hDs; cases hDs
    have hDL : D ≠ L := by
      rintro rfl
      obtain ⟨o, _, _, ho, _⟩ := F.ns
      rw [ho] at hDs; cases hDs
    have hfil : vs'.filter (fun _ => true) = vs' := List.filter_eq_self.mpr fun _ _ => rfl
    rw [hfil] at hF
    have hfl := copy_rows hnd hF (fun j v hj => keyAt j v (hP j v hj)) (by rw [hlen', hlen]; exact Nat.le_refl _)
    rw [hlen', hlen, List.take_length] at hfl
    refine cont D o' h'' tk (F.keeps keep) ?_ ⟨⟨kvs', hd', hfl⟩, hsh⟩ ?_ ?_
    · intro p hp
      rcases List.mem_cons.mp hp with rfl | hp
      · exact ⟨ho', hDL, h0D⟩
      · exact N.grown keep p hp
    · refine beq_eq_false_iff_ne.mpr ?_
      rintro rfl
      obtain ⟨mm, ⟨o, _, _, ho, _⟩, _⟩ := hsys.mods
      rw [ho] at h0D; cases h0D
    · rintro p hp rfl
      rw [(N p hp).1] at hDs; cases hDs
/-- comprehensions over a range by twos that make ints -/
theorem small_two {a b : Int} (ha : 0 ≤ a) (ha' : a ≤ 1) (hb : 0 ≤ b) (hb' : b ≤ 1000) : Builtin.Range.small a b 2 = true := by
  unfold Builtin.Range.small
  simp only [Builtin.Range.rangeSize, Builtin.Range.rangeFitsLong, Bool.and_eq_true, Bool.or_eq_true, decide_eq_true_eq, beq_iff_eq, show (2 : Int) > 0 by decide, if_true]
  split <;> omega
theorem size_two {a b : Int} (ha : 0 ≤ a) (hb : b ≤ 12) : ∃ n : Nat, Builtin.Range.rangeSize a b 2 = (n : Int) ∧ n ≤ 6 ∧ ∀ i : Nat, i < n → a + (i : Int) * 2 < b := by
  refine ⟨(Builtin.Range.rangeSize a b 2).toNat, ?_, ?_, ?_⟩
  all_goals
    simp only [Builtin.Range.rangeSize, show (2 : Int) > 0 by decide, if_true]
  · split <;> omega
  · split <;> omega
  · intro i
    split <;> omega
theorem paired_ints {PP : Int → Prop} : ∀ {vs ys : List Value}, Paired (fun (_ : Value) y => ∃ z t, y = .int z t ∧ PP z) vs ys → ∃ zs, IntsAre ys zs ∧ zs.length = vs.length ∧ ∀ z ∈ zs, PP z
  | _, _, .nil => ⟨[], .nil, rfl, fun _ h => nomatch h⟩
  | _, _, .cons ⟨z, t, e, hz⟩ r =>
    let ⟨zs, h1, h2, h3⟩ := paired_ints r
    ⟨z :: zs, by rw [e]; exact .cons z t h1, by rw [List.length_cons, List.length_cons, h2], fun y hy => (List.mem_cons.mp hy).elim (fun q => by rw [q]; exact hz) (h3 y)⟩
theorem walksLt {I : Addr} {fp wr : List Addr} {n : Nat} {P : Nat → Value → Prop} {St : Nat → Heap → Prop} (W : Walks prog w A I fp wr n P St) : Walks prog w A I fp wr n (fun i v => i < n ∧ P i v) St where
  sub := W.sub
  frame := W.frame
  item := fun i s Q E hi st hQ => W.item i s Q E hi st fun v h' tk hP => hQ v h' tk ⟨hi, hP⟩
  done := W.done
  self := W.self
inductive StrideLeaf (prog : Program) (w : World) (A : Around) (env : Env) (scope : Scope) (cl : List (Str × Addr)) (x : Str) (elt : PySem.Expr) (h₀ : Heap) (L : Addr) (m : Str → Option Value) (news : List (Addr × Obj)) (Fin : Shared → Addr → List Value → Heap → Nat → Prop) : Value → Shared → Prop
  | mk {r : Addr} {a b : Int} {t u v : Tok} {s₁ : Shared} (PP : Int → Prop) (F : Fr h₀ L s₁.heap m) (N : News h₀ L s₁.heap news) (hr : IsRange s₁.heap r a b 2 t u v) (ha : 0 ≤ a) (ha' : a ≤ 1) (hb : 0 ≤ b) (hb' : b ≤ 12)
    (el : ∀ (C : Addr) (z : Int) (t : Tok) (s₂ : Shared) (m₂ : Str → Option Value) (E' : Value → Shared → Prop), a ≤ z → z < b → s₂.heap.Ns C m₂ → m₂ x = some (.int z t) → (∀ b o, s₁.heap.get? b = some o → s₂.heap.get? b = some o) →
        wpAny (model prog w) A (eval elt (compEnvC scope cl C env)) (fun y s₃ => (∃ z t, y = .int z t ∧ PP z) ∧ Keeps s₂ s₃) E' s₂)
    (fin : ∀ (D : Addr) (vs : List Value) (zs : List Int) (n : Nat) (h' : Heap) (tk : Nat), IntsAre vs zs → zs.length ≤ 6 → (∀ z ∈ zs, PP z) → News h₀ L h' ((D, listOf vs.toArray n) :: news) → (∀ p ∈ news, p.1 ≠ D) → Fin s₁ D vs h' tk) :
    StrideLeaf prog w A env scope cl x elt h₀ L m news Fin (.ref r) s₁
theorem stride_eval {env : Env} {elt iter : PySem.Expr} {x : Str} {px : Pos} {scope : Scope} {cl : List (Str × Addr)} {pos : Pos} {Q : Value → Shared → Prop}
    (F₁ : Fr h₀ L s.heap m) (N₁ : News h₀ L s.heap news) (hh : A.handled = none) (hclos : closureFor scope env = pure cl) (hcell : ∀ y ∈ scope.names, y.2 ≠ .cell) (hkind : scope.kind = .function)
    (hnames : ∀ y ∈ scope.names, y.2 = .local → scope.names.lookup y.1 = some .local) (hx : scope.names.lookup x = some .local)
    (h : wpAny (model prog w) A (eval iter env) (fun xv s₁ => StrideLeaf prog w A env scope cl x elt h₀ L m news (fun s₁ D vs h' tk => Fr h₀ L h' m → Q (.ref D) { s₁ with heap := h', toks := tk }) xv s₁) E s)
    (hs : ∀ x, foldedSetIterable iter env x = pure x) :
    wpAny (model prog w) A (eval (.ListComp elt [⟨.Name x px, iter, [], 0⟩] scope pos) env) Q E s := by
  rw [eval_ListComp]
  refine wpAny_comprehension_free (use := none) rfl hs hclos hkind hnames (wpAny_mono h (fun xv s₁ h₁ => ?_) fun _ _ e => e)
  obtain ⟨PP, F, N, hr, ha, ha', hb, hb', el, fin⟩ := h₁
  rename_i r a bb t u v
  obtain ⟨n, hn, hn6, hlt⟩ := size_two (a := a) (b := bb) ha hb'
  refine wpAny_pyIter_range hr (small_two ha ha' hb (by omega)) ?_
  have up : ∀ (s₃ : Shared), (∀ b o, b ∉ [s₁.heap.objs.size] → (s₁.heap.push { cls := .type "range_iterator", data := .fields #[rawInt a, rawInt (Builtin.Range.rangeSize a bb 2), rawInt 2] }).get? b = some o → s₃.heap.get? b = some o) → ∀ b o, s₁.heap.get? b = some o → s₃.heap.get? b = some o :=
    fun s₃ hk b o e => hk b o (fun hm => by rcases List.mem_cons.mp hm with rfl | hm; exact Nat.lt_irrefl _ (Heap.lt_size e); cases hm) (Heap.get?_push_of_some _ e)
  refine comp_block_walkC (RR := fun acc C => compPost (model prog w) A E none Q acc C) (walksLt (Walks.range hh s₁.heap.objs.size a 2 n)) (by rw [sizeLine_eq]; omega) (fun _ => true) (fun _ y => ∃ z t, y = .int z t ∧ PP z) hcell hkind hx
    (by show IsRangeIter _ _ _ _ _; rw [hn]; simpa using Heap.get?_push_size _ rfl) ?_ ⟨?_, ?_⟩ ?_
  · intro b hb
    rw [List.mem_singleton.mp hb]
    show _ < (s₁.heap.push _).objs.size
    rw [Heap.size_push]
    exact Nat.lt_succ_self _
  · intro C i v s₃ m₃ E' _ hP hn hm hk _
    exact wpAny_pure ⟨rfl, _, _, rfl, fun _ _ e => e⟩
  · intro C i v s₃ m₃ E' _ hP hp hn' hm hk _
    obtain ⟨hin, t, rfl⟩ := hP
    exact el C _ t s₃ m₃ E' (by omega) (hlt i hin) hn' hm (up s₃ hk)
  · intro D C h' tk m' ys vs' hDn hC hDC hn' hlD hpl hlen' hP hF hk
    refine ⟨m', hn', fun h'' hs'' => ?_⟩
    have keep : ∀ b o, s₁.heap.get? b = some o → h''.get? b = some o := fun b o e =>
      hs''.extBut b o (by rintro rfl; rw [Heap.get?_push_of_some _ e] at hC; cases hC) (up { s₁ with heap := h' } hk b o e)
    have hpl2 := hpl.extBut hs''.extBut hDC
    obtain ⟨cap, ho'⟩ := hpl2
    have hDs : s₁.heap.get? D = none := by
      cases e : s₁.heap.get? D with
      | none => rfl
      | some o => exact absurd ((Heap.get?_push_of_some _ e).symm.trans hDn) (fun e => nomatch e)
    have h0D : h₀.get? D = none := by
      cases e : h₀.get? D with
      | none => rfl
      | some o => rw [F.keep _ _ e] at hDs; cases hDs
    have hDL : D ≠ L := by
      rintro rfl
      obtain ⟨o, _, _, ho, _⟩ := F.ns
      rw [ho] at hDs; cases hDs
    obtain ⟨zs, z1, z2, z3⟩ := paired_ints hF
    have hfil : vs'.filter (fun _ => true) = vs' := List.filter_eq_self.mpr fun _ _ => rfl
    rw [hfil, hlen'] at z2
    refine fin D ys.toList zs cap h'' tk z1 (by omega) z3 ?_ ?_ (F.keeps keep)
    · intro p hp
      rcases List.mem_cons.mp hp with rfl | hp
      · exact ⟨ho', hDL, h0D⟩
      · exact N.grown keep p hp
    · rintro p hp rfl
      rw [(N p hp).1] at hDs; cases hDs
theorem stride_assign {env : Env} {elt iter : PySem.Expr} {x y : Str} {px py : Pos} {scope : Scope} {cl : List (Str × Addr)} {pos spos : Pos} {Q : Flow → Shared → Prop}
    (F₁ : Fr h₀ L s.heap m) (N₁ : News h₀ L s.heap news) (hLe : env.locals = L)
    (hsw : swapsWith (.ListComp elt [⟨.Name x px, iter, [], 0⟩] scope pos) (some (.Name y py)) spos.line env = pure true)
    (hh : A.handled = none) (hclos : closureFor scope env = pure cl) (hcell : ∀ y ∈ scope.names, y.2 ≠ .cell) (hkind : scope.kind = .function)
    (hnames : ∀ y ∈ scope.names, y.2 = .local → scope.names.lookup y.1 = some .local) (hx : scope.names.lookup x = some .local)
    (hy : env.kindOf y = some .local) (hp : (env.scope.kind == .class || (env.scope.kind == .module && env.locals != env.globals)) = false)
    (h : wpAny (model prog w) A (eval iter env) (fun xv s₁ => StrideLeaf prog w A env scope cl x elt h₀ L m news (fun s₁ D vs h' tk => Fr h₀ L h' (fun z => if z = y then some (.ref D) else m z) → Q .next { s₁ with heap := h', toks := tk }) xv s₁) E s)
    (hs : ∀ x, foldedSetIterable iter env x = pure x) :
    wpAny (model prog w) A (exec (.Assign [.Name y py] (.ListComp elt [⟨.Name x px, iter, [], 0⟩] scope pos) spos) env) Q E s := by
  rw [exec_Assign_Name_used _ _ _ _ hsw]
  refine wpAny_bind (wpAny_standAt (wpAny_bind ?_))
  show wpAny _ A (do let _ ← comprehension (.ListComp elt [⟨.Name x px, iter, [], 0⟩] scope pos) scope env _ (newList []) false (eval iter env) (some (assign (.Name y py) env))) _ _ s
  refine wpAny_bind (wpAny_mono (wpAny_comprehension_free (use := some (assign (.Name y py) env)) (Q := fun _ s' => Q .next s') rfl hs hclos hkind hnames
    (wpAny_mono h (fun xv s₁ h₁ => ?_) fun _ _ e => e)) (fun _ s' hq => wpAny_pure (wpAny_pure hq)) fun _ _ e => e)
  obtain ⟨PP, F, N, hr, ha, ha', hb, hb', el, fin⟩ := h₁
  rename_i r a bb t u v
  obtain ⟨n, hn, hn6, hlt⟩ := size_two (a := a) (b := bb) ha hb'
  refine wpAny_pyIter_range hr (small_two ha ha' hb (by omega)) ?_
  have up : ∀ (s₃ : Shared), (∀ b o, b ∉ [s₁.heap.objs.size] → (s₁.heap.push { cls := .type "range_iterator", data := .fields #[rawInt a, rawInt (Builtin.Range.rangeSize a bb 2), rawInt 2] }).get? b = some o → s₃.heap.get? b = some o) → ∀ b o, s₁.heap.get? b = some o → s₃.heap.get? b = some o :=
    fun s₃ hk b o e => hk b o (fun hm => by rcases List.mem_cons.mp hm with rfl | hm; exact Nat.lt_irrefl _ (Heap.lt_size e); cases hm) (Heap.get?_push_of_some _ e)
  refine comp_block_walkC (RR := fun acc C => compPost (model prog w) A E (some (assign (.Name y py) env)) (fun _ s' => Q .next s') acc C) (walksLt (Walks.range hh s₁.heap.objs.size a 2 n)) (by rw [sizeLine_eq]; omega) (fun _ => true) (fun _ y => ∃ z t, y = .int z t ∧ PP z) hcell hkind hx
    (by show IsRangeIter _ _ _ _ _; rw [hn]; simpa using Heap.get?_push_size _ rfl) ?_ ⟨?_, ?_⟩ ?_
  · intro b hb
    rw [List.mem_singleton.mp hb]
    show _ < (s₁.heap.push _).objs.size
    rw [Heap.size_push]
    exact Nat.lt_succ_self _
  · intro C i v s₃ m₃ E' _ hP hn hm hk _
    exact wpAny_pure ⟨rfl, _, _, rfl, fun _ _ e => e⟩
  · intro C i v s₃ m₃ E' _ hP hp hn' hm hk _
    obtain ⟨hin, t, rfl⟩ := hP
    exact el C _ t s₃ m₃ E' (by omega) (hlt i hin) hn' hm (up s₃ hk)
  · intro D C h' tk m' ys vs' hDn hC hDC hn' hlD hpl hlen' hP hF hk
    have hDs : s₁.heap.get? D = none := by
      cases e : s₁.heap.get? D with
      | none => rfl
      | some o => exact absurd ((Heap.get?_push_of_some _ e).symm.trans hDn) (fun e => nomatch e)
    have hCs : s₁.heap.get? C = none := by
      cases e : s₁.heap.get? C with
      | none => rfl
      | some o => exact absurd ((Heap.get?_push_of_some _ e).symm.trans hC) (fun e => nomatch e)
    have h0D : h₀.get? D = none := by
      cases e : h₀.get? D with
      | none => rfl
      | some o => rw [F.keep _ _ e] at hDs; cases hDs
    have hLn := F.ns
    have hLC : env.locals ≠ C := by rw [hLe]; rintro rfl; obtain ⟨o, _, _, ho, _⟩ := hLn; rw [hCs] at ho; cases ho
    have hLD : env.locals ≠ D := by rw [hLe]; rintro rfl; obtain ⟨o, _, _, ho, _⟩ := hLn; rw [hDs] at ho; cases ho
    show wpAny _ A (assign (.Name y py) env (.ref D)) _ _ _
    refine wpAny_assign_Name (wpAny_storeName_local hy (by rw [hLe]; exact hLn.at' fun o e => up { s₁ with heap := h' } hk _ o e) (fun h₂ hn₂ hs₂ => ?_) hp)
    refine ⟨m', hn'.sameBut hs₂ (Ne.symm hLC), fun h₃ hs₃ => ?_⟩
    have keep : ∀ b o, b ≠ L → s₁.heap.get? b = some o → h₃.get? b = some o := fun b o hbL e =>
      hs₃.extBut b o (by rintro rfl; rw [hCs] at e; cases e) (hs₂.extBut b o (by rw [hLe]; exact hbL) (up { s₁ with heap := h' } hk b o e))
    obtain ⟨cap, ho'⟩ := (hpl.extBut hs₂.extBut (Ne.symm hLD)).extBut hs₃.extBut hDC
    obtain ⟨zs, z1, z2, z3⟩ := paired_ints hF
    have hfil : vs'.filter (fun _ => true) = vs' := List.filter_eq_self.mpr fun _ _ => rfl
    rw [hfil, hlen'] at z2
    refine fin D ys.toList zs cap h₃ _ z1 (by omega) z3 ?_ ?_ ⟨by rw [← hLe]; exact hn₂.sameBut hs₃ hLC, fun b o e => keep b o (Nat.ne_of_lt (Nat.lt_of_lt_of_le (Heap.lt_size e) F.above)) (F.keep b o e), F.above⟩
    · intro p hp
      rcases List.mem_cons.mp hp with rfl | hp
      · exact ⟨ho', by rw [← hLe]; exact Ne.symm hLD, h0D⟩
      · exact ⟨keep _ _ (N p hp).2.1 (N p hp).1, (N p hp).2⟩
    · rintro p hp rfl
      rw [(N p hp).1] at hDs; cases hDs
end
def preS : Str := PySem.Str.ofString "_OSX_SUPPORT_INITIAL_"
def saveC (c : Cfg) (cv : Str) (v : PyData) : Cfg :=
  putC (if PyData.eqv ((getC c cv).getD (.str (PySem.Str.ofString ""))) v = false ∧ hasC c (preS ++ cv) = false then putC c (preS ++ cv) ((getC c cv).getD (.str (PySem.Str.ofString ""))) else c) cv v
def keepC (p : Str × PyData) : Bool := !Txt.startswith p.1 preS
def remC (c : Cfg) (i : Nat) : Cfg := (c.take i).filter keepC ++ c.drop i
theorem remC_step {c : Cfg} {i : Nat} {k : Str} {dv : PyData} (hi : c[i]? = some (k, dv)) : c.drop i = (k, dv) :: c.drop (i + 1) ∧ c.take (i + 1) = c.take i ++ [(k, dv)] := by
  obtain ⟨hl, he⟩ := List.getElem?_eq_some_iff.mp hi
  exact ⟨by rw [List.drop_eq_getElem_cons hl, he], by rw [List.take_add_one, hi]; rfl⟩
theorem remC_keep {c : Cfg} {i : Nat} {k : Str} {dv : PyData} (hi : c[i]? = some (k, dv)) (h : Txt.startswith k preS = false) : remC c (i + 1) = remC c i := by
  obtain ⟨h1, h2⟩ := remC_step hi
  unfold remC
  rw [h1, h2, List.filter_append, List.append_assoc]
  simp [keepC, h]
theorem remC_has {c : Cfg} {i : Nat} {k : Str} {dv : PyData} (hi : c[i]? = some (k, dv)) : hasC (remC c i) k = true := by
  obtain ⟨h1, _⟩ := remC_step hi
  unfold remC hasC
  rw [h1]
  simp
theorem remC_del {c : Cfg} {i : Nat} {k : Str} {dv : PyData} (hi : c[i]? = some (k, dv)) (hn : (c.map (·.1)).Nodup) (h : Txt.startswith k preS = true) : delC (remC c i) k = remC c (i + 1) := by
  obtain ⟨h1, h2⟩ := remC_step hi
  have e : c = c.take i ++ (k, dv) :: c.drop (i + 1) := by rw [← h1, List.take_append_drop]
  rw [e, List.map_append, List.map_cons, List.nodup_append] at hn
  obtain ⟨_, n2, n3⟩ := hn
  have a1 : ∀ p ∈ c.take i, p.1 ≠ k := fun p hp => n3 _ (List.mem_map_of_mem hp) k (.head _)
  have a2 : ∀ p ∈ c.drop (i + 1), p.1 ≠ k := fun p hp hk => (List.nodup_cons.mp n2).1 (by rw [← hk]; exact List.mem_map_of_mem (f := (·.1)) hp)
  unfold remC delC
  rw [h1, h2, List.filter_append, List.filter_append, List.filter_cons]
  simp only [decide_true, Bool.not_true, Bool.false_eq_true, if_false, keepC, List.filter_cons, h, List.filter_nil, List.append_nil]
  congr 1
  · refine List.filter_eq_self.mpr fun p hp => ?_
    have := a1 p (List.mem_filter.mp hp).1
    simp [this]
  · refine List.filter_eq_self.mpr fun p hp => ?_
    simp [a2 p hp]
theorem remC_length (c : Cfg) (i : Nat) : (remC c i).length ≤ c.length := by
  unfold remC
  rw [List.length_append, List.length_drop]
  have := List.length_filter_le keepC (c.take i)
  rw [List.length_take] at this
  omega
theorem remC_all (c : Cfg) : remC c c.length = c.filter keepC := by
  unfold remC
  rw [List.take_length, List.drop_length, List.append_nil]
theorem saveC_same {c : Cfg} {cv : Str} {v : PyData} (h : PyData.eqv ((getC c cv).getD (.str (PySem.Str.ofString ""))) v = true) : saveC c cv v = putC c cv v := by
  unfold saveC; rw [if_neg (by rw [h]; simp)]
theorem saveC_had {c : Cfg} {cv : Str} {v : PyData} (h : hasC c (preS ++ cv) = true) : saveC c cv v = putC c cv v := by
  unfold saveC; rw [if_neg (by rw [h]; simp)]
theorem saveC_new {c : Cfg} {cv : Str} {v : PyData} (h1 : PyData.eqv ((getC c cv).getD (.str (PySem.Str.ofString ""))) v = false) (h2 : hasC c (preS ++ cv) = false) : saveC c cv v = putC (putC c (preS ++ cv) ((getC c cv).getD (.str (PySem.Str.ofString "")))) cv v := by
  unfold saveC; rw [if_pos ⟨h1, h2⟩]
def nmS (i : Int) : Str := if i = 0 then PySem.Str.ofString "CC" else PySem.Str.ofString "CXX"
def vlS (i : Int) : PyData := .str (if i = 0 then PySem.Str.ofString "a" else if i = 1 then PySem.Str.ofString "b" else PySem.Str.ofString "")
theorem vlS_shaped (i : Int) : SeqAt.shaped (vlS i) = true := by
  unfold vlS
  split
  · decide +kernel
  · split <;> decide +kernel
theorem menuV {prog : Program} {w : World} {A : Around} {E : Value → Shared → Prop} {s : Shared} {h₀ : Heap} {L l : Addr} {news : List (Addr × Obj)} {n : Nat} {ta tb tc u : Tok} {i : Int} {value slice : PySem.Expr} {Q : Value → Shared → Prop}
    (N : News h₀ L s.heap news) (hm : (l, ({ cls := .type "tuple", data := .seq #[.str (PySem.Str.ofString "a") ta, .str (PySem.Str.ofString "b") tb, .str (PySem.Str.ofString "") tc] n } : Obj)) ∈ news) (h0 : 0 ≤ i) (h2 : i ≤ 2)
    (h : ∀ v, Flat v (vlS i) → SeqAt.shaped (vlS i) = true → Q v s)
    (hs : subscripted slice false (.ref l) (.int i u) = operate [.ref l, .int i u] (getItem (.ref l) (.int i u)) := by with_unfolding_all rfl) : wpAny (model prog w) A (subscriptTail value slice (.ref l) (.int i u)) Q E s := by
  have hi : i = 0 ∨ i = 1 ∨ i = 2 := by omega
  have ht := News.isTup N hm
  have hsh := vlS_shaped i
  rcases hi with rfl | rfl | rfl
  · exact item_tupleT (l := [.str (PySem.Str.ofString "a") ta, .str (PySem.Str.ofString "b") tb, .str (PySem.Str.ofString "") tc]) ht (by decide) (by decide) (j := 0) rfl rfl (h _ (Flat.str _ _) hsh) hs
  · exact item_tupleT (l := [.str (PySem.Str.ofString "a") ta, .str (PySem.Str.ofString "b") tb, .str (PySem.Str.ofString "") tc]) ht (by decide) (by decide) (j := 1) rfl rfl (h _ (Flat.str _ _) hsh) hs
  · exact item_tupleT (l := [.str (PySem.Str.ofString "a") ta, .str (PySem.Str.ofString "b") tb, .str (PySem.Str.ofString "") tc]) ht (by decide) (by decide) (j := 2) rfl rfl (h _ (Flat.str _ _) hsh) hs
def stepC (c : Cfg) (x : Int) : Cfg := if x = 6 then c.filter keepC else saveC c (nmS (x / 3)) (vlS (x % 3))
def goC (c : Cfg) (run : List Int) : Cfg := run.foldl stepC c
theorem saveC_length (c : Cfg) (k : Str) (v : PyData) : (saveC c k v).length ≤ c.length + 2 := by
  unfold saveC
  refine Nat.le_trans (putC_length _ _ _) ?_
  split
  · have := putC_length c (preS ++ k) ((getC c k).getD (.str (PySem.Str.ofString "")))
    omega
  · omega
theorem stepC_length (c : Cfg) (x : Int) : (stepC c x).length ≤ c.length + 2 := by
  unfold stepC
  split
  · have := List.length_filter_le keepC c
    omega
  · exact saveC_length _ _ _
theorem goC_snoc (c : Cfg) {run : List Int} {i : Nat} {x : Int} (h : run[i]? = some x) : goC c (run.take (i + 1)) = stepC (goC c (run.take i)) x := by
  unfold goC
  rw [List.take_add_one, h]
  simp
theorem goC_length (c : Cfg) (run : List Int) : (goC c run).length ≤ c.length + 2 * run.length := by
  unfold goC
  induction run generalizing c with
  | nil => simp
  | cons x r ih =>
    rw [List.foldl_cons, List.length_cons]
    have h1 := ih (stepC c x)
    have h2 := stepC_length c x
    omega
def baseC : Cfg := [(PySem.Str.ofString "LDSHARED", .str (PySem.Str.ofString "x"))]
def putStep (c : Cfg) (i v k : Int) : Cfg :=
  if 0 ≤ k then putC (if 0 ≤ v then putC c (nmS i) (vlS v) else c) (preS ++ nmS i) (vlS k) else if 0 ≤ v then putC c (nmS i) (vlS v) else c
def putCfg (v1 k1 v2 k2 : Int) : Cfg := putStep (putStep baseC 0 v1 k1) 1 v2 k2
def putI (v1 k1 v2 k2 : Int) : Nat → Cfg
  | 0 => baseC
  | 1 => putStep baseC 0 v1 k1
  | _ => putCfg v1 k1 v2 k2
theorem putStep_length (c : Cfg) (i v k : Int) : (putStep c i v k).length ≤ c.length + 2 := by
  unfold putStep
  have h1 := putC_length c (nmS i) (vlS v)
  split
  · split
    · exact Nat.le_trans (putC_length _ _ _) (by omega)
    · exact Nat.le_trans (putC_length _ _ _) (by omega)
  · split <;> omega
theorem putI_length (v1 k1 v2 k2 : Int) (i : Nat) : (putI v1 k1 v2 k2 i).length ≤ 5 := by
  have h0 : baseC.length = 1 := rfl
  have h1 := putStep_length baseC 0 v1 k1
  have h2 := putStep_length (putStep baseC 0 v1 k1) 1 v2 k2
  rcases i with _ | _ | i
  · show baseC.length ≤ 5; omega
  · show (putStep baseC 0 v1 k1).length ≤ 5; omega
  · show (putStep (putStep baseC 0 v1 k1) 1 v2 k2).length ≤ 5; omega
def cutI (run : List Int) : Nat → Int
  | 0 => -1
  | i + 1 => if run.getD i 0 = 6 then (i : Int) else cutI run i
def pickOf (xs : List Int) (w : Int) : List Int := (xs.filter (fun a => a.fdiv 3 == w)).map (fun a => a.fmod 3)
def lastOf (xs : List Int) : List Int := xs.drop (xs.length - 1)
def earlyOf (run : List Int) (w : Int) : List Int := lastOf (pickOf (run.take (cutI run run.length + 1).toNat) w)
def lateOf (run : List Int) (w : Int) : List Int := pickOf (run.drop (cutI run run.length + 1).toNat) w
theorem cutI_ge (run : List Int) : ∀ n, -1 ≤ cutI run n
  | 0 => by unfold cutI; omega
  | n + 1 => by
    unfold cutI
    split
    · omega
    · exact cutI_ge run n
def shortRow (w : Int) (x y : List Int) : List Int :=
  if ¬ x ++ y = (List.replicate (x.length + y.length) (lastOf (x ++ y))).flatten then (if x = [] ∨ x = lastOf (x ++ y) then [3 * w + ((lastOf (x ++ y)).getD 0 0 + 1).fmod 3, 3 * w + (lastOf (x ++ y)).getD 0 0] else [3 * w + (lastOf (x ++ y)).getD 0 0])
  else if 0 < x.length + y.length ∧ x = [] then [3 * w + (lastOf (x ++ y)).getD 0 0] else []
section
variable {w : Int} {x y : List Int}
theorem shortRow_a (h : ¬ x ++ y = (List.replicate (x.length + y.length) (lastOf (x ++ y))).flatten) (h2 : x = [] ∨ x = lastOf (x ++ y)) : shortRow w x y = [3 * w + ((lastOf (x ++ y)).getD 0 0 + 1).fmod 3, 3 * w + (lastOf (x ++ y)).getD 0 0] := by
  unfold shortRow; rw [if_pos h, if_pos h2]
theorem shortRow_b (h : ¬ x ++ y = (List.replicate (x.length + y.length) (lastOf (x ++ y))).flatten) (h1 : ¬ x = []) (h2 : ¬ x = lastOf (x ++ y)) : shortRow w x y = [3 * w + (lastOf (x ++ y)).getD 0 0] := by
  unfold shortRow; rw [if_pos h, if_neg (fun e => e.elim h1 h2)]
theorem shortRow_c (h : x ++ y = (List.replicate (x.length + y.length) (lastOf (x ++ y))).flatten) (h1 : 0 < x.length + y.length) (h2 : x = []) : shortRow w x y = [3 * w + (lastOf (x ++ y)).getD 0 0] := by
  unfold shortRow; rw [if_neg (fun e => e h), if_pos ⟨h1, h2⟩]
theorem shortRow_d (h : x ++ y = (List.replicate (x.length + y.length) (lastOf (x ++ y))).flatten) (h1 : ¬ 0 < x.length + y.length) : shortRow w x y = [] := by
  unfold shortRow; rw [if_neg (fun e => e h), if_neg (fun e => h1 e.1)]
theorem shortRow_e (h : x ++ y = (List.replicate (x.length + y.length) (lastOf (x ++ y))).flatten) (h2 : ¬ x = []) : shortRow w x y = [] := by
  unfold shortRow; rw [if_neg (fun e => e h), if_neg (fun e => h2 e.2)]
end
theorem ints_one {c : List Value} {b : List Int} {a : Int} {t : Tok} (h : IntsAre c b) : IntsAre (c ++ [.int a t]) (b ++ [a]) := IntsAre.append h (IntsAre.cons _ _ IntsAre.nil)
theorem ints_two {c : List Value} {b : List Int} {a a' : Int} {t t' : Tok} (h : IntsAre c b) : IntsAre ((c ++ [.int a t]) ++ [.int a' t']) (b ++ [a, a']) := by
  have := ints_one (a := a') (t := t') (ints_one (a := a) (t := t) h)
  rwa [List.append_assoc b] at this
def headOf (x0 x1 : List Int) : Nat → List Int
  | 0 => []
  | 1 => x0.map fun v => 3 * 0 + v
  | _ => (x0.map fun v => 3 * 0 + v) ++ x1.map fun v => 3 * 1 + v
def bodyOf (b x0 y0 x1 y1 : List Int) : Nat → List Int
  | 0 => b
  | 1 => b ++ shortRow 0 x0 y0
  | _ => (b ++ shortRow 0 x0 y0) ++ shortRow 1 x1 y1
theorem shortRow_len (w : Int) (x y : List Int) : (shortRow w x y).length ≤ 2 := by
  unfold shortRow
  split
  · split <;> simp
  · split <;> simp
def shortOf (off : Bool) (x0 x1 y0 y1 : List Int) : List Int :=
  bodyOf (if off = true then ((x0.map fun v => 3 * 0 + v) ++ x1.map fun v => 3 * 1 + v) ++ [6] else (x0.map fun v => 3 * 0 + v) ++ x1.map fun v => 3 * 1 + v) x0 y0 x1 y1 2
def toldStood (v : Int) (x : List Int) : Int := x.foldl (fun _ n => n) v
def toldFix (s : Int) : Int := if s < 0 then 2 else s
def toldRow (off : Bool) (v k : Int) (x y : List Int) : Int × Int :=
  if y = [] then (toldStood v x, if off = true then -1 else k)
  else (y.getD (y.length - 1) 0, if (if off = true then -1 else k) < 0 ∧ ¬ y = (List.replicate y.length [toldFix (toldStood v x)]).flatten then toldFix (toldStood v x) else if off = true then -1 else k)
open_top hd for PySem.Challenge.rw_sn0001_02
/-- the contracts were walked with the top's lines off -/
theorem topOff : True := by
  w_top off
  trivial
abbrev PX : Program := PySem.Challenge.rw_sn0001_02.row.prog
section
variable {pv : Program} {w : World} {dp un : Nat} {gd : Option (List Code)} {cn : Str} {cs : Scope} {a : Addr} {ccd : Value} {cl : List (Str × Addr)} {outer : List Env} {A₀ : Around} {base h₀ : Heap} {L : Addr} {m : Str → Option Value} {s : Shared} {Q E : Value → Shared → Prop} {loose : List Str} {mean : ExcName → Option Value} {mg mb : Str → Option Value} {rest : List (Addr × Obj)}
local macro_rules | `(tactic| walk_at "getMethod ref") => `(tactic| (k_here; k_dflt (refine' cfg_method ?N ?mm ?D ?_; (case N => k_asm); (case mm => k_mem); (case D => k_asm); k_whole)))
local macro_rules | `(tactic| walk_at "call builtin:dict.get") => `(tactic| (k_here; k_dflt (refine' cfg_get ?N ?mm ?D ?lo ?f ?sd ?_; (case N => k_asm); (case mm => k_mem); (case D => k_asm); (case lo => k_asm); (case f => k_flat); (case sd => decide +kernel); k_whole; intro u' hu' hs')))
local macro_rules | `(tactic| walk_at "compareOp NotEq") => `(tactic| (k_here; k_dflt (refine' flat_ne ?f ?g ?a ?b ?r ?_; (case f => k_asm); (case g => k_asm); (case a => k_asm); (case b => k_asm); (case r => ktr_units); k_whole)))
local macro_rules | `(tactic| walk_at "compareOp NotIn") => `(tactic| (k_here; k_dflt (refine' cfg_notin ?N ?mm ?D ?lo ?_; (case N => k_asm); (case mm => k_mem); (case D => k_asm); (case lo => k_asm); k_whole)))
local macro_rules | `(tactic| walk_at "setItem ref") => `(tactic| (k_here; k_dflt (refine' cfg_set ?F ?N ?U ?D ?v ?s ?c ?_; (case F => k_asm); (case N => k_asm); (case U => k_updF); (case D => k_asm); (case v => k_asm); (case s => k_asm); (case c => first | omega | exact Nat.le_trans (putC_length _ _ _) (by omega)); k_whole); intro h' o' F' N' D'))
local macro_rules | `(tactic| k_all) => `(tactic| assumption)
local macro_rules | `(tactic| walk_at "delItem ref") => `(tactic| (k_here; k_dflt (refine' cfg_del ?F ?N ?U ?D ?k ?c ?_; (case F => k_asm); (case N => k_asm); (case U => k_updF); (case D => k_asm); (case k => k_asm); (case c => k_asm); k_whole); intro h' o' F' N' D'))
local macro_rules | `(tactic| walk_at "call type:list") => `(tactic| (k_here; k_dflt (refine' cfg_list ?hh ?F ?N ?mm ?D ?lo ?c ?_; (case hh => exact rfl); (case F => k_asm); (case N => k_asm); (case mm => k_mem); (case D => k_asm); (case lo => k_asm); (case c => omega); k_whole); intro B' n' h' tk' vs' F' N' l1 S'))
theorem save_spec {d : Addr} {o : Obj} {c : Cfg} {cv : Str} {t : Tok} {v : Value} {dv : PyData}
   (B : Below A₀ base outer h₀) (F : Fr h₀ L s.heap m) (X : (hd.heap_39 w.params).In h₀) (T : Top pv loose mean mg mb h₀) (hk : cs.kind = .function) (N : News h₀ L s.heap ((d, o) :: rest)) (hd : dp + 1 < recursionLimit) (hu : un + 100 < cLine)
   (hne : ∀ p ∈ rest, p.1 ≠ d) (hlo : (d == sysModules) = false)
   (hD : IsCfg PX w o c) (hV : Flat v dv) (hS : SeqAt.shaped dv = true) (hlen : c.length ≤ 1000) (hcv : cv.length ≤ 1000)
   (hret : ∀ h' tk' o', Fr h₀ L h' m → News h₀ L h' ((d, o') :: rest) → IsCfg PX w o' (saveC c cv dv) → Q .none { s with heap := h', toks := tk' }) :
   wpAny (model PX w) (ktrTop dp un gd cn cs L a ccd cl outer) (call (.ref 28) [.ref d, .str cv t, v]) Q E s := by
  refine wpAny_call ?_
  k_dflt cell_enter
  k_steps
  · exact hret _ _ _ (by k_asm) (by k_asm) (by rw [saveC_same (by assumption)]; assumption)
  · exact hret _ _ _ (by k_asm) (by k_asm) (by rw [saveC_had (by assumption)]; assumption)
  · exact hret _ _ _ (by k_asm) (by k_asm) (by rw [saveC_new (by assumption) (by assumption)]; assumption)
theorem remove_spec {d : Addr} {o : Obj} {c : Cfg}
   (B : Below A₀ base outer h₀) (F : Fr h₀ L s.heap m) (X : (hd.heap_39 w.params).In h₀) (T : Top pv loose mean mg mb h₀) (hk : cs.kind = .function) (N : News h₀ L s.heap ((d, o) :: rest)) (hd : dp + 1 < recursionLimit) (hu : un + 100 < cLine)
   (hne : ∀ p ∈ rest, p.1 ≠ d) (hlo : (d == sysModules) = false)
   (hD : IsCfg PX w o c) (hlen : c.length ≤ 1000)
   (hret : ∀ h' tk' o', Fr h₀ L h' m → News h₀ L h' ((d, o') :: rest) → IsCfg PX w o' (c.filter keepC) → Q .none { s with heap := h', toks := tk' }) :
   wpAny (model PX w) (ktrTop dp un gd cn cs L a ccd cl outer) (call (.ref 21) [.ref d]) Q E s := by
  refine wpAny_call ?_
  k_dflt cell_enter
  k_steps
  rename_i B9 n9 h9 tk9 vs9 F9 N9 l9 S9
  have hB9 := ltN (l9 _ (.head _))
  dsimp only at hB9
  k_dflt (refine loopL (σ := Obj) (fun o => [(B9, listOf vs9.toArray n9), (d, o)] ++ rest) (fun _ => []) [] (fun i o => IsCfg PX w o (remC c i)) o rfl (fun _ => .head _) F9 N9 (fun _ h => nomatch h) hD ?_ ?_)
  · intro i v o1 u h tk own hv hoff hP F N
    obtain ⟨k, t, hki, rfl⟩ := StrsAre.at' S9 hv
    rw [List.getElem?_map] at hki
    obtain ⟨⟨k', dv⟩, hci, hk'⟩ := Option.map_eq_some_iff.mp hki
    have hk' : k' = k := hk'
    subst hk'
    have hk1 := remC_has hci
    have hc1 : (remC c i).length ≤ 16777216 := Nat.le_trans (remC_length c i) (by omega)
    have hne1 : ∀ p ∈ rest ++ own, p.1 ≠ d := fun p hp => (List.mem_append.mp hp).elim (hne p) fun hp => hoff p hp d (.tail _ (.head _))
    simp only [List.cons_append, List.nil_append] at N
    k_steps
    · rename_i h2 o2 F2 N2 D2
      refine loop_endA (σ := Obj) o2 F2 N2 hoff (fun _ h => nomatch h) (fun z h1 _ _ => by simp [h1, kstB]) ?_
      rw [← remC_del hci hD.nodup (by assumption)]
      assumption
    · refine loop_endA (σ := Obj) o1 F N hoff (fun _ h => nomatch h) (fun z h1 _ _ => by simp [h1, kstB]) ?_
      rw [remC_keep hci (by assumption)]
      assumption
  · intro o1 u h tk hP F N
    rw [StrsAre.len S9, List.length_map, remC_all] at hP
    k_steps
    exact hret _ _ _ (by k_asm) (News.sub (by k_asm) fun p hp => .tail _ hp) hP
theorem save_U {d : Addr} {o : Obj} {c : Cfg} {cv : Str} {t : Tok} {v : Value} {dv : PyData} {news : List (Addr × Obj)} {g : Obj → List (Addr × Obj)}
   (B : Below A₀ base outer h₀) (F : Fr h₀ L s.heap m) (X : (hd.heap_39 w.params).In h₀) (T : Top pv loose mean mg mb h₀) (hk : cs.kind = .function) (N : News h₀ L s.heap news) (U : UpdF d o news g) (hd : dp + 1 < recursionLimit) (hu : un + 100 < cLine)
   (hlo : (d == sysModules) = false)
   (hD : IsCfg PX w o c) (hV : Flat v dv) (hS : SeqAt.shaped dv = true) (hlen : c.length ≤ 1000) (hcv : cv.length ≤ 1000)
   (hret : ∀ h' tk' o', Fr h₀ L h' m → News h₀ L h' (g o') → IsCfg PX w o' (saveC c cv dv) → Q .none { s with heap := h', toks := tk' }) :
   wpAny (model PX w) (ktrTop dp un gd cn cs L a ccd cl outer) (call (.ref 28) [.ref d, .str cv t, v]) Q E s := by
  obtain ⟨pre, post, rfl, hg, a1, b1⟩ := U.split
  exact save_spec (rest := pre ++ post) B F X T hk (News.sub N (mem_first pre post)) hd hu (ne_both a1 b1) hlo hD hV hS hlen hcv
    fun h' tk' o' F' N' D' => hret h' tk' o' F' (by rw [hg]; exact News.sub N' (mem_back pre post)) D'
theorem remove_U {d : Addr} {o : Obj} {c : Cfg} {news : List (Addr × Obj)} {g : Obj → List (Addr × Obj)}
   (B : Below A₀ base outer h₀) (F : Fr h₀ L s.heap m) (X : (hd.heap_39 w.params).In h₀) (T : Top pv loose mean mg mb h₀) (hk : cs.kind = .function) (N : News h₀ L s.heap news) (U : UpdF d o news g) (hd : dp + 1 < recursionLimit) (hu : un + 100 < cLine)
   (hlo : (d == sysModules) = false)
   (hD : IsCfg PX w o c) (hlen : c.length ≤ 1000)
   (hret : ∀ h' tk' o', Fr h₀ L h' m → News h₀ L h' (g o') → IsCfg PX w o' (c.filter keepC) → Q .none { s with heap := h', toks := tk' }) :
   wpAny (model PX w) (ktrTop dp un gd cn cs L a ccd cl outer) (call (.ref 21) [.ref d]) Q E s := by
  obtain ⟨pre, post, rfl, hg, a1, b1⟩ := U.split
  exact remove_spec (rest := pre ++ post) B F X T hk (News.sub N (mem_first pre post)) hd hu (ne_both a1 b1) hlo hD hlen
    fun h' tk' o' F' N' D' => hret h' tk' o' F' (by rw [hg]; exact News.sub N' (mem_back pre post)) D'
end
section
variable {pv : Program} {w : World} {dp un : Nat} {gd : Option (List Code)} {cn : Str} {cs : Scope} {a : Addr} {ccd : Value} {cl : List (Str × Addr)} {outer : List Env} {A₀ : Around} {base h₀ : Heap} {L : Addr} {m : Str → Option Value} {s : Shared} {Q E : Value → Shared → Prop} {loose : List Str} {mean : ExcName → Option Value} {mg mb : Str → Option Value} {rest : List (Addr × Obj)}
local macro_rules | `(tactic| k_all) => `(tactic| assumption)
local macro_rules | `(tactic| walk_at "call ref") => `(tactic| (k_here; k_dflt (refine' save_U ?B ?F ?X ?T ?hk ?N ?U ?hd ?hu ?lo ?D ?V ?S ?len ?cv ?_; (case B => k_asm); (case F => k_asm); (case X => k_asm); (case T => k_asm); (case hk => first | exact rfl | assumption); (case N => k_asm); (case hd => ktr_room); (case hu => ktr_units); (case U => k_updF); (case lo => k_asm); (case D => k_asm); (case V => k_flat); (case S => decide +kernel); (case len => omega); (case cv => decide +kernel); k_whole); intro h' tk' o' F' N' D'))
local macro_rules | `(tactic| walk_at "call ref") => `(tactic| (k_here; k_dflt (refine' remove_U ?B ?F ?X ?T ?hk ?N ?U ?hd ?hu ?lo ?D ?len ?_; (case B => k_asm); (case F => k_asm); (case X => k_asm); (case T => k_asm); (case hk => first | exact rfl | assumption); (case N => k_asm); (case hd => ktr_room); (case hu => ktr_units); (case U => k_updF); (case lo => k_asm); (case D => k_asm); (case len => omega); k_whole); intro h' tk' o' F' N' D'))
theorem go_spec {d l : Addr} {o : Obj} {c : Cfg} {vs : List Value} {nn : Nat} {run : List Int}
   (B : Below A₀ base outer h₀) (F : Fr h₀ L s.heap m) (X : (hd.heap_39 w.params).In h₀) (T : Top pv loose mean mg mb h₀) (hk : cs.kind = .function) (N : News h₀ L s.heap ((d, o) :: (l, listOf vs.toArray nn) :: rest)) (hd : dp + 5 < recursionLimit) (hu : un + 200 < cLine)
   (hne : ∀ p ∈ rest, p.1 ≠ d) (hdl : l ≠ d) (hlo : (d == sysModules) = false)
   (hD : IsCfg PX w o c) (hI : IntsAre vs run) (hrun : ∀ x ∈ run, 0 ≤ x ∧ x ≤ 6) (hlen : c.length + 2 * run.length ≤ 900)
   (hret : ∀ h' tk' o', Fr h₀ L h' m → News h₀ L h' ((d, o') :: (l, listOf vs.toArray nn) :: rest) → IsCfg PX w o' (goC c run) → Q (.ref d) { s with heap := h', toks := tk' }) :
   wpAny (model PX w) (ktrTop dp un gd cn cs L a ccd cl outer) (call (.ref 42) [.ref d, .ref l]) Q E s := by
  refine wpAny_call ?_
  k_dflt cell_enter
  k_steps
  (rename Fr _ _ _ _ => F9)
  (rename News _ _ _ _ => N9)
  (rename IntsAre _ _ => hI)
  have hne0 : ∀ p ∈ (l, listOf vs.toArray nn) :: rest, p.1 ≠ d := fun p hp => (List.mem_cons.mp hp).elim (fun e => by rw [e]; exact hdl) (hne p)
  k_dflt (refine loopL (σ := Obj) (fun o => (d, o) :: (l, listOf vs.toArray nn) :: rest) (fun _ => []) [] (fun i o => IsCfg PX w o (goC c (run.take i))) o rfl (fun _ => .tail _ (.head _)) F9 N9 (fun _ h => nomatch h) hD ?_ ?_)
  · intro i v o1 u h tk own hv hoff hP F N
    obtain ⟨x, t, rfl, hx⟩ := Mine.IntsAre.at' hI hv
    have hne1 : ∀ p ∈ (l, listOf vs.toArray nn) :: (rest ++ own), p.1 ≠ d := fun p hp => (List.mem_append.mp (show p ∈ ((l, listOf vs.toArray nn) :: rest) ++ own from hp)).elim (hne0 p) fun hp => hoff p hp d (.head _)
    have hl1 : (goC c (run.take i)).length ≤ 900 := by
      have h1 := goC_length c (run.take i)
      rw [List.length_take] at h1
      omega
    have hg := goC_snoc c hx
    have hx9 := hrun x (List.mem_of_getElem? hx)
    have hx8 : x = 0 ∨ x = 1 ∨ x = 2 ∨ x = 3 ∨ x = 4 ∨ x = 5 ∨ x = 6 := by omega
    simp only [List.cons_append] at N
    clear hI hv hrun hx hx9
    rcases hx8 with rfl | rfl | rfl | rfl | rfl | rfl | rfl
    all_goals k_steps
    all_goals
      (rename Fr _ _ _ _ => F2)
      (rename News _ _ _ _ => N2)
      (rename IsCfg _ _ _ _ => D2)
      rw [hg]
      first
      | exact loop_endX F2 ⟨_, D2, N2, hoff, hasNil, fun z h1 _ _ => by simp [h1, kstB]⟩
      | exact loop_endX F2 ⟨_, D2, News.drop2 N2, hoff, hasNil, fun z h1 _ _ => by simp [h1, kstB]⟩
  · intro o1 u h tk hP F N
    rw [IntsAre.length hI, List.take_length] at hP
    k_steps
    exact hret _ _ _ (by k_asm) (by k_asm) hP
end
section
variable {pv : Program} {w : World} {dp un : Nat} {gd : Option (List Code)} {cn : Str} {cs : Scope} {a : Addr} {ccd : Value} {cl : List (Str × Addr)} {outer : List Env} {A₀ : Around} {base h₀ : Heap} {L : Addr} {m : Str → Option Value} {s : Shared} {Q E : Value → Shared → Prop} {loose : List Str} {mean : ExcName → Option Value} {mg mb : Str → Option Value} {rest : List (Addr × Obj)}
local macro_rules | `(tactic| k_all) => `(tactic| assumption)
local macro_rules | `(tactic| walk_at "exec For Name Tuple cons nil") => `(tactic| (k_here; (rename Fr _ _ _ _ => lF'); (with_unfolding_all refine' For_invVF lF' ?k1 ?k2 ?_; (case k1 => exact rfl); (case k2 => exact rfl); k_whole)))
local macro_rules | `(tactic| walk_at "setItem ref") => `(tactic| (k_here; k_dflt (refine' cfg_set ?F ?N ?U ?D ?v ?s ?c ?_; (case F => k_asm); (case N => k_asm); (case U => k_updF); (case D => k_asm); (case v => k_asm); (case s => k_asm); (case c => first | omega | exact Nat.le_trans (putC_length _ _ _) (by omega)); k_whole); intro h' o' F' N' D'))
local macro_rules | `(tactic| walk_at "subscriptTail") => `(tactic| (k_here; (with_reducible show wpAny _ _ (subscriptTail _ _ (Value.ref _) (Value.int _ _)) _ _ _); k_dflt (refine' menuV ?N ?mm ?h0 ?h2 ?_; (case N => k_asm); (case mm => k_mem); (case h0 => omega); (case h2 => omega); k_whole); intro u' hu' hs'))
theorem put_spec {l p1 p2 : Addr} {nn n1 n2 : Nat} {v1 k1 v2 k2 : Int} {tv1 tk1 tv2 tk2 : Tok}
   (B : Below A₀ base outer h₀) (F : Fr h₀ L s.heap m) (X : (hd.heap_39 w.params).In h₀) (T : Top pv loose mean mg mb h₀) (hk : cs.kind = .function) (N : News h₀ L s.heap ((l, listOf #[.ref p1, .ref p2] nn) :: (p1, { cls := .type "tuple", data := .seq #[.int v1 tv1, .int k1 tk1] n1 }) :: (p2, { cls := .type "tuple", data := .seq #[.int v2 tv2, .int k2 tk2] n2 }) :: rest)) (hd : dp + 5 < recursionLimit) (hu : un + 200 < cLine)
   (hv1 : -1 ≤ v1 ∧ v1 ≤ 2) (hv2 : -1 ≤ v2 ∧ v2 ≤ 2) (hk1 : -1 ≤ k1 ∧ k1 ≤ 2) (hk2 : -1 ≤ k2 ∧ k2 ≤ 2)
   (hret : ∀ h' tk' d o', Fr h₀ L h' m → News h₀ L h' ((d, o') :: (l, listOf #[.ref p1, .ref p2] nn) :: (p1, { cls := .type "tuple", data := .seq #[.int v1 tv1, .int k1 tk1] n1 }) :: (p2, { cls := .type "tuple", data := .seq #[.int v2 tv2, .int k2 tk2] n2 }) :: rest) → IsCfg PX w o' (putCfg v1 k1 v2 k2) → (d == sysModules) = false → (∀ p ∈ rest, p.1 ≠ d) → Q (.ref d) { s with heap := h', toks := tk' }) :
   wpAny (model PX w) (ktrTop dp un gd cn cs L a ccd cl outer) (call (.ref 35) [.ref l]) Q E s := by
  refine wpAny_call ?_
  k_dflt cell_enter
  k_steps
  rename_i gC LC hP FGC BC XC TC hA oA loA dA fA apA lA hB tB hC F9 N9 lB
  have C0 : IsCfg PX w oA baseC := ⟨⟨_, dA, fA⟩, by intro p hp; rw [List.mem_singleton.mp hp]; decide +kernel⟩
  clear dA fA
  have hdd : ∀ p ∈ rest, p.1 ≠ hP.objs.size := fun p hp => apA p (.tail _ (.tail _ (.tail _ hp)))
  generalize hP.objs.size = dd at *
  k_dflt (refine loopT (σ := Obj) (fun o => (tB, { cls := .type "tuple", data := .seq #[.int 0 _, .int 1 _] }) :: (dd, o) :: (l, listOf #[.ref p1, .ref p2] nn) :: (p1, { cls := .type "tuple", data := .seq #[.int v1 tv1, .int k1 tk1] n1 }) :: (p2, { cls := .type "tuple", data := .seq #[.int v2 tv2, .int k2 tk2] n2 }) :: rest) (fun _ => []) [PySem.Str.ofString "name", PySem.Str.ofString "value", PySem.Str.ofString "kept"] (fun i o => IsCfg PX w o (putI v1 k1 v2 k2 i)) oA rfl (fun _ => .head _) F9 N9 (fun _ h => nomatch h) C0 ?_ ?_)
  · intro i v o1 u h tk own hv hoff hP F N
    have hl1 : (putI v1 k1 v2 k2 i).length ≤ 1000 := Nat.le_trans (putI_length v1 k1 v2 k2 i) (by decide)
    have hne1 : ∀ p ∈ rest ++ own, p.1 ≠ dd := fun p hp => (List.mem_append.mp hp).elim (hdd p) fun hp => hoff p hp dd (.tail _ (.head _))
    simp only [List.cons_append] at N
    rcases i with _ | _ | i
    · obtain rfl := Option.some.inj hv
      have e0 : putI v1 k1 v2 k2 (0 + 1) = putStep (putI v1 k1 v2 k2 0) 0 v1 k1 := rfl
      have e1 : preS ++ nmS 0 = PySem.Str.ofString "_OSX_SUPPORT_INITIAL_CC" := by decide +kernel
      have e2 : nmS 0 = PySem.Str.ofString "CC" := rfl
      k_steps
      all_goals
        (rename Fr _ _ _ _ => F2)
        (rename News _ _ _ _ => N2)
        (rename IsCfg _ _ _ _ => D2)
        first
        | exact loop_endX F2 ⟨_, (by rw [e0]; unfold putStep; rw [e1, e2]; (repeat' split) <;> first | (exfalso; omega) | exact D2), News.drop3 N2, hoff, hasNil, fun z h1 _ h2 => by rw [List.contains_eq_mem, decide_eq_false_iff_not] at h2; simp only [List.mem_cons, not_or] at h2; simp [h1, h2, kstB]⟩
        | exact loop_endX F2 ⟨_, (by rw [e0]; unfold putStep; rw [e1, e2]; (repeat' split) <;> first | (exfalso; omega) | exact D2), News.drop2 N2, hoff, hasNil, fun z h1 _ h2 => by rw [List.contains_eq_mem, decide_eq_false_iff_not] at h2; simp only [List.mem_cons, not_or] at h2; simp [h1, h2, kstB]⟩
        | exact loop_endX F2 ⟨_, (by rw [e0]; unfold putStep; rw [e1, e2]; (repeat' split) <;> first | (exfalso; omega) | exact D2), News.drop1 N2, hoff, hasNil, fun z h1 _ h2 => by rw [List.contains_eq_mem, decide_eq_false_iff_not] at h2; simp only [List.mem_cons, not_or] at h2; simp [h1, h2, kstB]⟩
    · obtain rfl := Option.some.inj hv
      have e0 : putI v1 k1 v2 k2 (0 + 1 + 1) = putStep (putI v1 k1 v2 k2 (0 + 1)) 1 v2 k2 := rfl
      have e1 : preS ++ nmS 1 = PySem.Str.ofString "_OSX_SUPPORT_INITIAL_CXX" := by decide +kernel
      have e2 : nmS 1 = PySem.Str.ofString "CXX" := rfl
      k_steps
      all_goals
        (rename Fr _ _ _ _ => F2)
        (rename News _ _ _ _ => N2)
        (rename IsCfg _ _ _ _ => D2)
        first
        | exact loop_endX F2 ⟨_, (by rw [e0]; unfold putStep; rw [e1, e2]; (repeat' split) <;> first | (exfalso; omega) | exact D2), News.drop3 N2, hoff, hasNil, fun z h1 _ h2 => by rw [List.contains_eq_mem, decide_eq_false_iff_not] at h2; simp only [List.mem_cons, not_or] at h2; simp [h1, h2, kstB]⟩
        | exact loop_endX F2 ⟨_, (by rw [e0]; unfold putStep; rw [e1, e2]; (repeat' split) <;> first | (exfalso; omega) | exact D2), News.drop2 N2, hoff, hasNil, fun z h1 _ h2 => by rw [List.contains_eq_mem, decide_eq_false_iff_not] at h2; simp only [List.mem_cons, not_or] at h2; simp [h1, h2, kstB]⟩
        | exact loop_endX F2 ⟨_, (by rw [e0]; unfold putStep; rw [e1, e2]; (repeat' split) <;> first | (exfalso; omega) | exact D2), News.drop1 N2, hoff, hasNil, fun z h1 _ h2 => by rw [List.contains_eq_mem, decide_eq_false_iff_not] at h2; simp only [List.mem_cons, not_or] at h2; simp [h1, h2, kstB]⟩
    · simp at hv
  · intro o1 u h tk hP F N
    k_steps
    exact hret _ _ _ _ (by k_asm) (News.drop1 (by k_asm)) hP loA hdd
theorem put_any {l p1 p2 : Addr} {nn n1 n2 : Nat} {v1 k1 v2 k2 : Int} {tv1 tk1 tv2 tk2 : Tok} {news : List (Addr × Obj)}
   (B : Below A₀ base outer h₀) (F : Fr h₀ L s.heap m) (X : (hd.heap_39 w.params).In h₀) (T : Top pv loose mean mg mb h₀) (hk : cs.kind = .function) (N : News h₀ L s.heap news) (m0 : (l, listOf #[.ref p1, .ref p2] nn) ∈ news) (m1 : (p1, ({ cls := .type "tuple", data := .seq #[.int v1 tv1, .int k1 tk1] n1 } : Obj)) ∈ news) (m2 : (p2, ({ cls := .type "tuple", data := .seq #[.int v2 tv2, .int k2 tk2] n2 } : Obj)) ∈ news) (hd : dp + 5 < recursionLimit) (hu : un + 200 < cLine)
   (hv1 : -1 ≤ v1 ∧ v1 ≤ 2) (hv2 : -1 ≤ v2 ∧ v2 ≤ 2) (hk1 : -1 ≤ k1 ∧ k1 ≤ 2) (hk2 : -1 ≤ k2 ∧ k2 ≤ 2)
   (hret : ∀ h' tk' d o', Fr h₀ L h' m → News h₀ L h' ((d, o') :: news) → IsCfg PX w o' (putCfg v1 k1 v2 k2) → (d == sysModules) = false → (∀ p ∈ news, p.1 ≠ d) → Q (.ref d) { s with heap := h', toks := tk' }) :
   wpAny (model PX w) (ktrTop dp un gd cn cs L a ccd cl outer) (call (.ref 35) [.ref l]) Q E s :=
  put_spec (rest := news) B F X T hk (fun p hp => by
    rcases List.mem_cons.mp hp with rfl | hp
    · exact N _ m0
    rcases List.mem_cons.mp hp with rfl | hp
    · exact N _ m1
    rcases List.mem_cons.mp hp with rfl | hp
    · exact N _ m2
    exact N _ hp) hd hu hv1 hv2 hk1 hk2
    fun h' tk' d o' F' N' => hret h' tk' d o' F' (News.sub N' fun p hp => (List.mem_cons.mp hp).elim (fun e => by rw [e]; exact .head _) fun hp => .tail _ (.tail _ (.tail _ (.tail _ hp))))
end
def tup2 (a b : Int) (t t' : Tok) (n : Nat) : Obj := { cls := .type "tuple", data := .seq #[.int a t, .int b t'] n }
theorem told_e {off : Bool} {v k k' : Int} {x y : List Int} (hk : (if off = true then -1 else k) = k') (h : ¬ 0 < y.length) : toldRow off v k x y = (toldStood v x, k') := by
  unfold toldRow
  rw [if_pos (by cases y with | nil => rfl | cons a y => exact absurd (Nat.succ_pos _) h), hk]
theorem told_r {off : Bool} {v k k' st f : Int} {x y : List Int} (hk : (if off = true then -1 else k) = k') (h : 0 < y.length) (hst : toldFix (toldStood v x) = st) (hf : f = if k' < 0 ∧ ¬ y = (List.replicate y.length [st]).flatten then st else k') :
    toldRow off v k x y = (y.getD (-1 + (y.length : Int)).toNat 0, f) := by
  unfold toldRow
  rw [if_neg (by rintro rfl; exact absurd h (Nat.lt_irrefl _)), hk, hst, hf, show (-1 + (y.length : Int)).toNat = y.length - 1 by omega]
theorem told_pick {h₀ h' : Heap} {L D lT lP : Addr} {oT o : Obj} {c : List Value} {n' : Nat} {pl tl rest own news : List (Addr × Obj)} {sv fv rv rf : Int} {t t' : Tok} {n2 : Nat}
    (N : News h₀ L h' ((D, ({ cls := .type "tuple", data := .seq #[.int sv t, .int fv t'] n2 } : Obj)) :: news)) (hlt : AllLt D news) (hsub : ∀ p ∈ (lT, oT) :: (lP, listOf (c ++ [Value.ref D]).toArray n') :: (pl ++ (tl ++ (rest ++ own))), p ∈ news)
    (hoff : OwnOff own (((lT, oT) :: (lP, o) :: (pl ++ (tl ++ rest))).map (·.1))) (hr : (rv, rf) = (sv, fv)) :
    News h₀ L h' (((lT, oT) :: (lP, listOf (c ++ [Value.ref D]).toArray n') :: (pl ++ (((D, tup2 rv rf t t' n2) :: tl) ++ rest))) ++ own) ∧ OwnOff own (((lT, oT) :: (lP, listOf (c ++ [Value.ref D]).toArray n') :: (pl ++ (((D, tup2 rv rf t t' n2) :: tl) ++ rest))).map (·.1)) ∧ D ≠ lP := by
  obtain ⟨rfl, rfl⟩ := Prod.mk.inj hr
  have hne : ∀ p ∈ news, p.1 ≠ D := allLt_ne hlt (Nat.le_refl D)
  refine ⟨fun p hp => ?_, fun p hp b hb e => ?_, fun e => hne _ (hsub _ (.tail _ (.head _))) e.symm⟩
  · by_cases e : p = (D, tup2 rv rf t t' n2)
    · rw [e]; exact N _ (.head _)
    · refine N p (.tail _ (hsub p ?_))
      simp only [List.mem_cons, List.mem_append] at hp ⊢
      rcases hp with (h | h | h | (h | h) | h) | h
      · exact .inl h
      · exact .inr (.inl h)
      · exact .inr (.inr (.inl h))
      · exact absurd h e
      · exact .inr (.inr (.inr (.inl h)))
      · exact .inr (.inr (.inr (.inr (.inl h))))
      · exact .inr (.inr (.inr (.inr (.inr h))))
  · have hp' : p ∈ news := hsub p (by simp only [List.mem_cons, List.mem_append]; exact .inr (.inr (.inr (.inr (.inr hp)))))
    obtain ⟨q, hq, rfl⟩ := List.mem_map.mp hb
    simp only [List.mem_cons, List.mem_append] at hq
    have old : ∀ q, (q = (lT, oT) ∨ q.1 = lP ∨ q ∈ pl ∨ q ∈ tl ∨ q ∈ rest) → p.1 ≠ q.1 := by
      intro q h
      refine hoff p hp q.1 ?_
      rcases h with h | h | h
      · rw [h]; exact .head _
      · rw [h]; exact .tail _ (.head _)
      · exact .tail _ (.tail _ (List.mem_map_of_mem (f := Prod.fst) (show q ∈ pl ++ (tl ++ rest) from (by simp only [List.mem_append]; exact h))))
    rcases hq with h | h | h | (h | h) | h
    · exact old q (.inl h) e
    · exact old q (.inr (.inl (by rw [h]))) e
    · exact old q (.inr (.inr (.inl h))) e
    · rw [h] at e; exact hne p hp' e
    · exact old q (.inr (.inr (.inr (.inl h)))) e
    · exact old q (.inr (.inr (.inr (.inr h)))) e
theorem told_turn {h₀ h' : Heap} {L D lT lP : Addr} {oT o : Obj} {c : List Value} {n' : Nat} {tl rest own news : List (Addr × Obj)} {sv fv rv rf : Int} {t t' : Tok} {n2 : Nat} {P : List Value × Nat × List (Addr × Obj) → Prop}
    {led : List (Addr × Obj)} (hled : led = (tl ++ rest) ++ own) (N : News h₀ L h' ((D, ({ cls := .type "tuple", data := .seq #[.int sv t, .int fv t'] n2 } : Obj)) :: news)) (hlt : AllLt D news) (hsub : ∀ p ∈ (lT, oT) :: (lP, listOf (c ++ [Value.ref D]).toArray n') :: led, p ∈ news)
    (hoff : OwnOff own (((lT, oT) :: (lP, o) :: (tl ++ rest)).map (·.1))) (hr : (rv, rf) = (sv, fv)) (hP : ∀ D t t' n2, D ≠ lP → P (c ++ [.ref D], n', (D, tup2 rv rf t t' n2) :: tl)) :
    ∃ c' : List Value × Nat × List (Addr × Obj), P c' ∧ News h₀ L h' (((lT, oT) :: (lP, listOf c'.1.toArray c'.2.1) :: (c'.2.2 ++ rest)) ++ own) ∧ OwnOff own (((lT, oT) :: (lP, listOf c'.1.toArray c'.2.1) :: (c'.2.2 ++ rest)).map (·.1)) :=
  let ⟨a, b, e⟩ := told_pick (pl := []) N hlt (fun p hp => hsub p (by rw [hled, List.append_assoc]; exact hp)) hoff hr
  ⟨(c ++ [.ref D], n', (D, tup2 rv rf t t' n2) :: tl), hP _ _ _ _ e, a, b⟩
def ToldAt (off : Bool) (v k : Int) (x0 y0 x1 y1 : List Int) (lP : Addr) : Nat → List Value × Nat × List (Addr × Obj) → Prop
  | 0, c => c.1 = [] ∧ c.2.2 = []
  | 1, c => ∃ a t t' n, a ≠ lP ∧ c.1 = [.ref a] ∧ c.2.2 = [(a, tup2 (toldRow off v k x0 y0).1 (toldRow off v k x0 y0).2 t t' n)]
  | _, c => ∃ a t t' n a2 t2 t2' n2, c.1 = [.ref a, .ref a2] ∧ c.2.2 = [(a2, tup2 (toldRow off v k x1 y1).1 (toldRow off v k x1 y1).2 t2 t2' n2), (a, tup2 (toldRow off v k x0 y0).1 (toldRow off v k x0 y0).2 t t' n)]
theorem toldStood_range {v : Int} {x : List Int} (hx : ∀ a ∈ x, 0 ≤ a ∧ a ≤ 2) (hv : -1 ≤ v ∧ v ≤ 2) : -1 ≤ toldStood v x ∧ toldStood v x ≤ 2 := by
  unfold toldStood
  induction x generalizing v with
  | nil => exact hv
  | cons a x ih =>
    have := hx a (.head _)
    exact ih (v := a) (fun b hb => hx b (.tail _ hb)) ⟨by omega, by omega⟩
theorem toldRow_range {off : Bool} {v k : Int} {x y : List Int} (hx : ∀ a ∈ x, 0 ≤ a ∧ a ≤ 2) (hy : ∀ a ∈ y, 0 ≤ a ∧ a ≤ 2) (hv : -1 ≤ v ∧ v ≤ 2) (hk : -1 ≤ k ∧ k ≤ 2) :
    -1 ≤ (toldRow off v k x y).1 ∧ (toldRow off v k x y).1 ≤ 2 ∧ -1 ≤ (toldRow off v k x y).2 ∧ (toldRow off v k x y).2 ≤ 2 := by
  have h1 := toldStood_range hx hv
  have h2 : -1 ≤ (if off = true then -1 else k) ∧ (if off = true then -1 else k) ≤ 2 := by split <;> omega
  have h3 : -1 ≤ toldFix (toldStood v x) ∧ toldFix (toldStood v x) ≤ 2 := by unfold toldFix; split <;> omega
  have h4 : -1 ≤ y.getD (y.length - 1) 0 ∧ y.getD (y.length - 1) 0 ≤ 2 := by
    rw [List.getD_eq_getElem?_getD]
    cases e : y[y.length - 1]? with
    | none => exact ⟨by decide, by decide⟩
    | some a => have := hy a (List.mem_of_getElem? e); show -1 ≤ a ∧ a ≤ 2; omega
  unfold toldRow
  split
  · exact ⟨h1.1, h1.2, h2.1, h2.2⟩
  · refine ⟨h4.1, h4.2, ?_, ?_⟩ <;> dsimp only <;> split <;> omega
theorem cont_cons {a z : Str} {l : List Str} (h : (a :: l).contains z = false) : z ≠ a ∧ l.contains z = false := by
  rw [List.contains_cons, Bool.or_eq_false_iff] at h
  exact ⟨by simpa using h.1, h.2⟩
theorem cont_one {a z : Str} (h : z ≠ a) : [a].contains z = false := by
  rw [List.contains_cons, Bool.or_eq_false_iff]
  exact ⟨by simpa using h, rfl⟩
theorem kstO {x : Str} {a : Option Value} {stored : List Str} {u m₀ : Str → Option Value} {n : Str} {v : Value} {z : Str} (h1 : z ≠ x) (h2 : z ≠ n) (h3 : stored.contains z = false) :
    (if z = x then a else kstB (fun z => if stored.contains z then u z else m₀ z) [(n, v)] z) = m₀ z := by
  rw [if_neg h1]
  simp only [kstB, h2, if_false, h3, Bool.false_eq_true]
theorem kstN {x : Str} {a : Option Value} {stored : List Str} {u m₀ : Str → Option Value} {z : Str} (h1 : z ≠ x) (h3 : stored.contains z = false) :
    (if z = x then a else kstB (fun z => if stored.contains z then u z else m₀ z) [] z) = m₀ z := by
  rw [if_neg h1]
  simp only [kstB, if_false, h3, Bool.false_eq_true]
theorem kst0 {u m : Str → Option Value} {z : Str} : kstB (fun z => if ([] : List Str).contains z then u z else m z) [] z = m z := rfl
theorem kst1 {f : Str → Option Value} {n z : Str} {v : Value} (h : z ≠ n) : kstB f [(n, v)] z = f z := if_neg h
theorem kstE {a b : Option Value} {z : Str} : (if ([] : List Str).contains z = true then a else b) = b := rfl
section
variable {prog : Program} {w : World} {A : Around} {E : Value → Shared → Prop} {s : Shared} {h₀ : Heap} {L l : Addr} {news : List (Addr × Obj)}
theorem item_at {vs : List Value} {v : Value} {i : Nat} {z : Int} {u : Tok} {value slice : PySem.Expr} {Q : Value → Shared → Prop}
    (N : News h₀ L s.heap news) (hm : ∃ n, (l, listOf vs.toArray n) ∈ news) (hv : vs[i]? = some v) (hz : z = (i : Int)) (hb : z < 2 ^ 63) (h : Q v s)
    (hs : subscripted slice false (.ref l) (.int z u) = operate [.ref l, .int z u] (getItem (.ref l) (.int z u)) := by with_unfolding_all rfl) : wpAny (model prog w) A (subscriptTail value slice (.ref l) (.int z u)) Q E s := by
  obtain ⟨n, hm⟩ := hm
  have hl : s.heap.IsList l vs.toArray := ⟨_, (N _ hm).1, rfl, n, rfl⟩
  refine tail_any hl.typeIs slot_list_getitem.lookup (wpAny_getItem_list hl (by omega) hb (x := v) ?_ h) hs
  rw [hz]
  simpa using hv
end
local macro_rules | `(tactic| k_all) => `(tactic| first | with_reducible assumption | (refine allLt_ne ?_ (Nat.le_refl _); with_reducible assumption))
local macro_rules | `(tactic| k_allIn) => `(tactic| (intro p hp; k_ownIn))
local macro_rules | `(tactic| walk_at "eval Slice") => `(tactic| (k_here; (with_reducible rename NewPlain _ _ _ _ => gnP); (have gnX := gn_enter gnP (by assumption) (by assumption) (by assumption)); (obtain ⟨gnN, gnL, gnA⟩ := gnX); (have gnI := gn_intsOf gnP (by assumption)); clear gnP; (try simp only [GnNe, and_true] at gnA); (try dsimp only)))
local macro_rules | `(tactic| walk_at "call builtin:list.append") => `(tactic| (k_here; (with_reducible rename NewPlain _ _ _ _ => gnP); (have gnX := gn_enter gnP (by assumption) (by assumption) (by assumption)); (obtain ⟨gnN, gnL, gnA⟩ := gnX); (have gnI := gn_intsOf gnP (by assumption)); clear gnP; (try simp only [GnNe, and_true] at gnA); (try dsimp only)))
local macro_rules | `(tactic| walk_at "newList") => `(tactic| (k_here; k_dflt (refine' newList_K ?k1 ?k2 ?_ ?z; (case k1 => k_asm); (case k2 => k_asm); (case z => first | exact Nat.zero_le _ | size_fits); k_whole); intro l' h' F' N' l1; (try k_lt l1); (try k_sweep)))
local macro_rules | `(tactic| walk_at "exec For Name Call cons nil") => `(tactic| (k_here; (rename Fr _ _ _ _ => lF'); (with_unfolding_all refine' For_invVF lF' ?k1 ?k2 ?_; (case k1 => exact rfl); (case k2 => exact rfl); k_whole)))
section
variable {pv : Program} {w : World} {dp un : Nat} {gd : Option (List Code)} {cn : Str} {cs : Scope} {a : Addr} {ccd : Value} {cl : List (Str × Addr)} {outer : List Env} {A₀ : Around} {base h₀ : Heap} {L : Addr} {m : Str → Option Value} {s : Shared} {Q E : Value → Shared → Prop} {loose : List Str} {mean : ExcName → Option Value} {mg mb : Str → Option Value} {rest : List (Addr × Obj)}
local macro_rules | `(tactic| walk_at "exec For Name Tuple cons nil") => `(tactic| (k_here; (rename Fr _ _ _ _ => lF'); (with_unfolding_all refine' For_turns lF' ?_; k_whole)))
local macro_rules | `(tactic| k_ne) => `(tactic| (refine neN ?_; (try dsimp only); (repeat ((with_reducible rename _ ∧ _ => hc); (repeat (first | exact hc.1 | exact Ne.symm hc.1 | exact Nat.ne_of_lt hc.1 | exact Nat.ne_of_gt hc.1 | (replace hc := hc.2))); (try clear hc))); done))
theorem parts_spec {l : Addr} {vs : List Value} {nn : Nat} {run : List Int}
   (B : Below A₀ base outer h₀) (F : Fr h₀ L s.heap m) (X : (hd.heap_39 w.params).In h₀) (T : Top pv loose mean mg mb h₀) (hk : cs.kind = .function) (N : News h₀ L s.heap ((l, listOf vs.toArray nn) :: rest)) (hd : dp + 5 < recursionLimit) (hu : un + 200 < cLine)
   (hI : IntsAre vs run) (hlen : run.length ≤ 100)
   (hret : ∀ h' tk' pT pE pA e0 e1 a0 a1 off ve0 ve1 va0 va1 g0 g1 g2 g3 nT nE nA, Fr h₀ L h' m → News h₀ L h' ((pT, ({ cls := .type "tuple", data := .seq #[.bool off, .ref pE, .ref pA] nT } : Obj)) :: (pE, listOf #[.ref e0, .ref e1] nE) :: (pA, listOf #[.ref a0, .ref a1] nA) :: (e0, listOf ve0.toArray g0) :: (e1, listOf ve1.toArray g1) :: (a0, listOf va0.toArray g2) :: (a1, listOf va1.toArray g3) :: (l, listOf vs.toArray nn) :: rest) → off = decide (0 ≤ cutI run run.length) →
      IntsAre ve0 (earlyOf run 0) → IntsAre ve1 (earlyOf run 1) → IntsAre va0 (lateOf run 0) → IntsAre va1 (lateOf run 1) → Q (.ref pT) { s with heap := h', toks := tk' }) :
   wpAny (model PX w) (ktrTop dp un gd cn cs L a ccd cl outer) (call (.ref 47) [.ref l]) Q E s := by
  refine wpAny_call ?_
  k_dflt (refine' code_defC ?k1 ?k2 ?k3 ?k4 ?k5 ?kA ?kF ?kK ?k6 ?k7 ?k8 ?k9 ?kB ?kD ?_ ?c2 ?c3 ?c4; (case kA => exact rfl); (case kF => exact rfl); (case kK => assumption); (case k1 => k_asm); (case k2 => k_asm); (case k3 => k_asm); (case k4 => k_asm); (case k5 => k_asm); (case k6 => k_is); (case k7 => k_is); (case k8 => ktr_room); (case k9 => exact BindsTo.of_eq rfl); (case kB => exact rfl); (case kD => decide +kernel); (case c2 => exact rfl); (case c3 => exact rfl); (case c4 => exact rfl); k_whole; intro g' L' h' tk' cells' FG' F' N' Y' B' X' T' l1; (try k_lt l1); k_cells Y'; (try simp only [List.cons_append, List.nil_append] at N'); (try dsimp only); (try k_lift B'); (try k_fold))
  (repeat' ((fail_if_success (with_reducible show wpAny _ _ (pyIter (Value.ref _)) _ _ _)); (first | (k_unfold; (try dsimp only)) | (k_end; wrow_close) | walk1 | (dsimp only; walk1) | (leave1; walk_say "STEP leave1"; try dsimp only) | fail "no step")))
  rename_i o9 d9 hq Fq Nq h9 tk9 t9 u9 v9 R9 F9 N9 K9
  have hI9 := hI
  have hsm : Builtin.Range.small 0 (run.length : Int) 1 = true := small_one (by decide) (by decide) (by omega) (by omega)
  have hsz : Builtin.Range.rangeSize 0 (run.length : Int) 1 = ((run.length : Nat) : Int) := by rw [rangeSize_nat]; simp
  k_dflt (refine loopR (σ := Int × Tok) (n := run.length) (fun _ => (L' + 1, o9) :: (l, listOf vs.toArray nn) :: rest) (fun c => [(PySem.Str.ofString "cut", .int c.1 c.2)]) [] (fun i c => c.1 = cutI run i) (-1, tk' + 1) rfl R9 hsm hsz F9 N9 ?_ rfl ?_ ?_)
  · intro p hp
    rw [List.mem_singleton.mp hp]
    rfl
  · rintro i t ⟨c, tc⟩ u h tk own hi hoff hP F N
    simp only [List.cons_append] at N
    have hP : c = cutI run i := hP
    subst hP
    (repeat' ((fail_if_success (with_reducible show wpAny _ _ (pyIter (Value.ref _)) _ _ _)); (first | (k_unfold; (try dsimp only)) | (k_end; wrow_close) | walk1 | (dsimp only; walk1) | (leave1; walk_say "STEP leave1"; try dsimp only) | fail "no step")))
    · (rename Fr _ _ _ _ => F2)
      (rename News _ _ _ _ => N2)
      have hi6 : run.getD i 0 = 6 := by
        have e : (0 + (i : Int)).toNat = i := by omega
        have h6 : run.getD (0 + (i : Int)).toNat 0 = 6 := by assumption
        rwa [e] at h6
      exact loop_endX F2 ⟨(0 + (i : Int), _), (by show (0 + (i : Int)) = cutI run (i + 1); unfold cutI; rw [if_pos hi6]; omega), N2, hoff, hasCons rfl hasNil, fun z h1 h2 _ => by have h2 := h2 _ (.head _); simp [h1, h2, kstB]⟩
    · have hi6 : run.getD i 0 ≠ 6 := by
        have e : (0 + (i : Int)).toNat = i := by omega
        have h6 : run.getD (0 + (i : Int)).toNat 0 ≠ 6 := by assumption
        rwa [e] at h6
      exact loop_endX F ⟨(cutI run i, _), (by show cutI run i = cutI run (i + 1); exact (if_neg hi6).symm), N, hoff, hasCons rfl hasNil, fun z h1 h2 _ => by have h2 := h2 _ (.head _); simp [h1, h2, kstB]⟩
  · rintro ⟨c, tc⟩ u h tk hP F N
    have hP : c = cutI run run.length := hP
    clear hI9
    have hc1 : 0 ≤ c + 1 := by have := cutI_ge run run.length; omega
    clear hsm hsz R9 K9
    dsimp only at F
    (repeat' ((fail_if_success (with_reducible show wpAny _ _ (pyIter (Value.ref _)) _ _ _)); (first | (k_unfold; (try dsimp only)) | (k_end; wrow_close) | walk1 | (dsimp only; walk1) | (leave1; walk_say "STEP leave1"; try dsimp only) | fail "no step")))
    rename_i lE hE1 FE NE l1E hE2 tkS lA hA1 l1A hA2 lT hT FT NT lT1
    k_dflt (refine iter_tupTurns (lo := { cls := .type "tuple", data := .seq #[.int 0 _, .int 1 _] }) (vs := [.int 0 _, .int 1 _]) (n := 0) rfl FT NT (.head _) rfl rfl ?_)
    intro I lI
    k_lt lI
    with_unfolding_all refine ItemsRest.val (fun h1 tk1 F1 => ?_)
    refine AllObj.cons fun it1 hit1 => AllObj.nil fun N1 => ?_
    simp only [List.cons_append, List.nil_append] at N1
    obtain ⟨_, _, _, _, _, aI⟩ := id lI
    obtain ⟨_, _, aE⟩ := id l1E
    obtain ⟨_, _, _, aA⟩ := id l1A
    have hr1 : ∀ p ∈ rest, p.1 ≠ L' + 1 := allLt_ne l1.2 (Nat.le_succ _)
    (repeat' ((fail_if_success (with_reducible show wpAny _ _ (pyIter (Value.ref _)) _ _ _)); (first | (k_unfold; (try dsimp only)) | (k_end; wrow_close) | walk1 | (dsimp only; walk1) | (leave1; walk_say "STEP leave1"; try dsimp only) | fail "no step")))
    all_goals (try k_data)
    rename_i hQ oW dW tkQ D1 w1 hD1 iD1 cD1 lD1 aD1 X1 y1 hX1 tX1 n1 p1 q1 g1 gA1 gI1 E1 v1 hE3 iE1 cE1 lE1 aE1 hZ tZ D2 w2 hD2 iD2 cD2 lD2 aD2 X2 y2 hX2 tX2 n2 p2 q2 g2 gA2 gI2 hF F2 N2
    have nX2 : X2 ≠ I := Ne.symm gA2.2.2.2.2.1
    have nE1 : E1 ≠ I := Nat.ne_of_gt aE1.2.2.1
    refine unrW_end ((X2, listOf y2.toArray g2) :: (E1, listOf v1.toArray 0) :: (lT, _) :: (lA, _) :: (lE, _) :: (L' + 1, oW) :: (l, _) :: rest) F2 (News.sub N2 (by k_allIn)) (fun p hp q hq => by rw [List.mem_singleton.mp hq]; exact (off_cons nX2 (off_cons nE1 (off_cons (Nat.ne_of_lt lI.1) (off_cons (Nat.ne_of_lt lI.2.1) (off_cons (Nat.ne_of_lt lI.2.2.1) (off_cons (Nat.ne_of_lt lI.2.2.2.1) (off_cons (Nat.ne_of_lt lI.2.2.2.2.1) (allLt_ne aI (Nat.le_refl _))))))))) p hp) ⟨⟨by k_mem, trivial⟩, ?_⟩
    clear n1 p1 q1 n2 p2 q2 iD1 cD1 lD1 iD2 cD2 lD2 cE1 lE1 N2 F2 N1 F1
    with_unfolding_all refine ItemsRest.val (fun h1 tk1 F1 => ?_)
    refine AllObj.cons fun it2 hit2 => AllObj.nil fun N1 => ?_
    simp only [List.cons_append, List.nil_append] at N1
    (repeat' ((fail_if_success (with_reducible show wpAny _ _ (pyIter (Value.ref _)) _ _ _)); (first | (k_unfold; (try dsimp only)) | (k_end; wrow_close) | walk1 | (dsimp only; walk1) | (leave1; walk_say "STEP leave1"; try dsimp only) | fail "no step")))
    all_goals (try k_data)
    rename_i hQb oX dX tkR D3 w3 hD3 iD3 cD3 lD3 aD3 X3 y3 hX3 tX3 n3 p3 q3 g3 gA3 gI3 E2 v2 hE4 iE2 cE2 lE2 aE2 hZb tZb D4 w4 hD4 iD4 cD4 lD4 aD4 X4 y4 hX4 tX4 n4 p4 q4 g4 gA4 gI4 hG F3 N3
    have nX4 : X4 ≠ I := Ne.symm gA4.2.2.2.2.1
    have nE2 : E2 ≠ I := Nat.ne_of_gt aE2.2.2.1
    refine unrW_end ((X4, listOf y4.toArray g4) :: (E2, listOf v2.toArray 0) :: (X2, listOf y2.toArray g2) :: (E1, listOf v1.toArray 0) :: (lT, _) :: (lA, _) :: (lE, _) :: (l, _) :: rest) F3 (News.sub N3 (by k_allIn)) (fun p hp q hq => by rw [List.mem_singleton.mp hq]; exact (off_cons nX4 (off_cons nE2 (off_cons nX2 (off_cons nE1 (off_cons (Nat.ne_of_lt lI.1) (off_cons (Nat.ne_of_lt lI.2.1) (off_cons (Nat.ne_of_lt lI.2.2.1) (off_cons (Nat.ne_of_lt lI.2.2.2.2.1) (allLt_ne aI (Nat.le_refl _)))))))))) p hp) ⟨⟨by k_mem, trivial⟩, ?_⟩
    clear n3 p3 q3 n4 p4 q4 iD3 cD3 lD3 iD4 cD4 lD4 cE2 lE2 N3 F3 N1 F1
    with_unfolding_all refine ItemsRest.zero (fun h1 tk1 F1 N1 => ?_)
    (repeat' ((fail_if_success (with_reducible show wpAny _ _ (pyIter (Value.ref _)) _ _ _)); (first | (k_unfold; (try dsimp only)) | (k_end; wrow_close) | walk1 | (dsimp only; walk1) | (leave1; walk_say "STEP leave1"; try dsimp only) | fail "no step")))
    (rename Fr h₀ L _ m => F5)
    (rename News h₀ L _ _ => N5)
    subst hP
    exact hret _ _ _ lE lA E1 E2 X2 X4 _ v1 v2 y2 y4 _ _ _ _ _ _ _ F5 (News.sub N5 (by k_allIn)) rfl iE1 iE2 gI2 gI4
end
section sh
local macro_rules | `(tactic| walk_at "exec For Name Tuple cons nil") => `(tactic| (k_here; (rename Fr _ _ _ _ => lF'); (with_unfolding_all refine' For_invVF lF' ?k1 ?k2 ?_; (case k1 => exact rfl); (case k2 => exact rfl); k_whole)))
local macro_rules | `(tactic| walk_at "exec For Name Subscript cons nil") => `(tactic| (k_here; (rename Fr _ _ _ _ => lF'); (with_unfolding_all refine' For_invVF lF' ?k1 ?k2 ?_; (case k1 => exact rfl); (case k2 => exact rfl); k_whole)))
local macro_rules | `(tactic| walk_at "call builtin:list.append") => `(tactic| (k_here; (with_reducible show wpAny _ _ (call (Value.builtin _) [Value.ref _, _]) _ _ _); k_dflt (refine' append_K ?k1 ?k2 ?k3 ?_ ?z; (case k1 => k_asm); (case k2 => k_asm); (case k3 => k_upd); (case z => (rw [sizeLine_eq]; simp only [Array.size_push, List.size_toArray]; omega)); k_whole); intro h' F' N'; (try k_sweep)))
local macro_rules | `(tactic| k_mem) => `(tactic| (repeat (first | with_reducible assumption | refine List.mem_cons_of_mem _ ?_)); done)
local macro_rules | `(tactic| walk_at "subscriptTail Name Name ref int") => `(tactic| (k_here; k_dflt (refine' item_at ?N ⟨_, ?mm⟩ ?v ?z ?b ?_; (case N => k_asm); (case mm => k_mem); (case v => with_reducible assumption); (case z => omega); (case b => omega); k_whole)))
local macro_rules | `(tactic| is_list) => `(tactic| exact News.isList (by k_asm) (by k_mem))
section
variable {pv : Program} {w : World} {dp un : Nat} {gd : Option (List Code)} {cn : Str} {cs : Scope} {a : Addr} {ccd : Value} {cl : List (Str × Addr)} {outer : List Env} {A₀ : Around} {base h₀ : Heap} {L : Addr} {m : Str → Option Value} {s : Shared} {Q E : Value → Shared → Prop} {loose : List Str} {mean : ExcName → Option Value} {mg mb : Str → Option Value} {rest : List (Addr × Obj)}
local macro_rules | `(tactic| walk_at "subscriptTail Name Constant ref int") => `(tactic| (k_here; k_dflt (refine' item_ints ?N ?mm ?i ?h0 ?hk ?hb ?_; (case N => k_asm); (case mm => k_mem); (case i => l_ints); (case h0 => decide); (case hb => decide); (case hk => first | (refine' last_ne2 ?hq; (case hq => assumption)) | (refine' last_ne ?hq; (case hq => assumption))); k_whole); intro t'))
def JoinB (_ : List Int) : Prop := True
def JoinS (g : Heap) (L : Addr) (mm : Str → Option Value) (lS : Addr) (led : List (Addr × Obj)) (b : List Int) (s : Shared) (fl : Flow) (s' : Shared) : Prop :=
  fl = .next ∧ ∃ h' tk' c' n', s' = { s with heap := h', toks := tk' } ∧ Fr g L h' mm ∧ News g L h' ((lS, listOf c'.toArray n') :: led) ∧ IntsAre c' b
theorem join_if {M : Model} {A : Around} {t : Sem Flow} {Q : Flow → Shared → Prop} {E : Value → Shared → Prop} {s : Shared} {g : Heap} {L lS lT : Addr} {oT : Obj} {mm : Str → Option Value} {c : List Value} {n : Nat} {led : List (Addr × Obj)} {b : List Int}
    (_J : JoinB b) (_F : Fr g L s.heap mm) (_N : News g L s.heap ((lT, oT) :: (lS, listOf c.toArray n) :: led)) (h1 : wpAny M A t (JoinS g L mm lS led b s) E s)
    (h2 : ∀ h' tk' c' n', Fr g L h' mm → News g L h' ((lS, listOf c'.toArray n') :: led) → IntsAre c' b → Q .next { s with heap := h', toks := tk' }) : wpAny M A t Q E s := by
  refine wpAny_mono h1 ?_ fun _ _ h => h
  rintro fl s' ⟨rfl, h', tk', c', n', rfl, F, N, I⟩
  exact h2 h' tk' c' n' F N I
local macro_rules | `(tactic| walk_at "exec If") => `(tactic| (k_here; (with_reducible show wpAny _ _ (exec (Stmt.If (Expr.Name _ _) _ _ _) _) _ _ _); k_dflt (refine' join_if ?J ?F ?N ?h1 ?h2; (case J => with_reducible assumption); (case F => k_asm); (case N => k_asm); k_whole); rotate_left; (intro h' tk' c' n' F' N' I'; (try dsimp only)); rotate_right))
theorem short_all {pT pE pA e0 e1 a0 a1 : Addr} {off : Bool} {ve0 ve1 va0 va1 : List Value} {g0 g1 g2 g3 nT nE nA : Nat} {x0 x1 y0 y1 : List Int} {news : List (Addr × Obj)}
   (B : Below A₀ base outer h₀) (F : Fr h₀ L s.heap m) (X : (hd.heap_39 w.params).In h₀) (T : Top pv loose mean mg mb h₀) (hk : cs.kind = .function) (N : News h₀ L s.heap news) (hd : dp + 5 < recursionLimit) (hu : un + 200 < cLine)
   (mT : (pT, ({ cls := .type "tuple", data := .seq #[.bool off, .ref pE, .ref pA] nT } : Obj)) ∈ news) (mE : (pE, listOf #[.ref e0, .ref e1] nE) ∈ news) (mA : (pA, listOf #[.ref a0, .ref a1] nA) ∈ news)
   (me0 : (e0, listOf ve0.toArray g0) ∈ news) (me1 : (e1, listOf ve1.toArray g1) ∈ news) (ma0 : (a0, listOf va0.toArray g2) ∈ news) (ma1 : (a1, listOf va1.toArray g3) ∈ news)
   (i0 : IntsAre ve0 x0) (i1 : IntsAre ve1 x1) (j0 : IntsAre va0 y0) (j1 : IntsAre va1 y1) (hlen : x0.length ≤ 100 ∧ x1.length ≤ 100 ∧ y0.length ≤ 100 ∧ y1.length ≤ 100)
   (hret : ∀ h' tk' lS vs' n', Fr h₀ L h' m → News h₀ L h' ((lS, listOf vs'.toArray n') :: news) → IntsAre vs' (shortOf off x0 x1 y0 y1) → Q (.ref lS) { s with heap := h', toks := tk' }) :
   wpAny (model PX w) (ktrTop dp un gd cn cs L a ccd cl outer) (call (.ref 54) [.ref pT]) Q E s := by
  obtain ⟨B0, hB0⟩ : ∃ b, b = (if off = true then ((x0.map fun v => 3 * 0 + v) ++ x1.map fun v => 3 * 1 + v) ++ [6] else (x0.map fun v => 3 * 0 + v) ++ x1.map fun v => 3 * 1 + v) := ⟨_, rfl⟩
  have hb0 : B0.length ≤ 201 := by
    rw [hB0]
    split <;> simp only [List.length_append, List.length_map, List.length_cons, List.length_nil] <;> omega
  have JB : JoinB B0 := trivial
  refine wpAny_call ?_
  k_dflt cell_enter
  (repeat' ((fail_if_success (with_reducible show wpAny _ _ (pyIter (Value.ref _)) _ _ _)); (first | (k_unfold; (try dsimp only)) | (k_end; wrow_close) | walk1 | (dsimp only; walk1) | (leave1; walk_say "STEP leave1"; try dsimp only) | fail "no step")))
  rename_i lS hS l1S hS2 lT hT FT NT l1T
  k_dflt (refine loopT (σ := List Value × Nat) (fun c => (lT, _) :: (lS, listOf c.1.toArray c.2) :: news) (fun _ => []) [PySem.Str.ofString "value"] (fun i c => IntsAre c.1 (headOf x0 x1 i)) ([], 0) rfl (fun _ => .head _) FT NT (fun _ h => nomatch h) .nil ?_ ?_)
  · rintro i v9 ⟨c, n⟩ u h tk own hv hoff hP1 F N
    have hi2 : i < 2 := by
      rcases i with _ | _ | i
      · omega
      · omega
      · simp at hv
    obtain ⟨eW, veW, geW, xW, tw, rfl, qE, mEw, iW, hxl, hhl, hst⟩ : ∃ (eW : Addr) (veW : List Value) (geW : Nat) (xW : List Int) (tw : Tok), v9 = .int (i : Int) tw ∧ [Value.ref e0, Value.ref e1][i]? = some (.ref eW) ∧ (eW, listOf veW.toArray geW) ∈ news ∧ IntsAre veW xW ∧ xW.length ≤ 100 ∧ (headOf x0 x1 i).length ≤ 100 ∧
        headOf x0 x1 (i + 1) = headOf x0 x1 i ++ xW.map fun v => 3 * (i : Int) + v := by
      rcases i with _ | _ | i
      · obtain rfl := Option.some.inj hv
        exact ⟨e0, ve0, g0, x0, _, rfl, rfl, me0, i0, hlen.1, Nat.zero_le _, rfl⟩
      · obtain rfl := Option.some.inj hv
        exact ⟨e1, ve1, g1, x1, _, rfl, rfl, me1, i1, hlen.2.1, (by show (x0.map _).length ≤ 100; rw [List.length_map]; exact hlen.1), rfl⟩
      · omega
    obtain ⟨led, hled⟩ : ∃ q, q = news ++ own := ⟨_, rfl⟩
    have sub : ∀ p ∈ news, p ∈ led := fun p hp => by rw [hled]; exact List.mem_append_left _ hp
    have mE' := sub _ mE
    have mEw' := sub _ mEw
    have hneS : ∀ p ∈ led, p.1 ≠ lS := by
      intro p hp
      rw [hled] at hp
      rcases List.mem_append.mp hp with hp | hp
      · exact Nat.ne_of_lt (l1S p hp)
      · exact hoff p hp lS (.tail _ (.head _))
    change News _ _ h ((lT, _) :: (lS, listOf c.toArray n) :: (news ++ own)) at N
    rw [← hled] at N
    (repeat' ((fail_if_success (with_reducible show wpAny _ _ (pyIter (Value.ref _)) _ _ _)); (first | (k_unfold; (try dsimp only)) | (k_end; wrow_close) | walk1 | (dsimp only; walk1) | (leave1; walk_say "STEP leave1"; try dsimp only) | fail "no step")))
    (rename Fr _ _ _ _ => FQ)
    (rename News _ _ _ _ => NQ)
    k_dflt (refine loopL (σ := List Value × Nat) (fun c => (lT, _) :: (lS, listOf c.1.toArray c.2) :: led) (fun _ => []) [] (fun j c => IntsAre c.1 (headOf x0 x1 i ++ (xW.take j).map fun v => 3 * (i : Int) + v)) (c, n) rfl (fun _ => List.mem_cons_of_mem _ (List.mem_cons_of_mem _ mEw')) FQ NQ (fun _ h => nomatch h) (by rw [List.take_zero, List.map_nil, List.append_nil]; exact hP1) ?_ ?_)
    · rintro j v ⟨c, n⟩ u h tk own2 hv hoff2 hP2 F2 N2
      obtain ⟨x, t, rfl, hx⟩ := Mine.IntsAre.at' iW hv
      have hneT : ∀ p ∈ led ++ own2, p.1 ≠ lS := fun p hp => (List.mem_append.mp hp).elim (hneS p) fun hp => hoff2 p hp lS (.tail _ (.head _))
      simp only [List.cons_append] at N2
      dsimp only at hP2
      have hcl : c.length ≤ 200 := by
        have := List.length_take (i := j) (l := xW)
        rw [IntsAre.length hP2, List.length_append, List.length_map]
        omega
      (repeat' ((fail_if_success (with_reducible show wpAny _ _ (pyIter (Value.ref _)) _ _ _)); (first | (k_unfold; (try dsimp only)) | (k_end; wrow_close) | walk1 | (dsimp only; walk1) | (leave1; walk_say "STEP leave1"; try dsimp only) | fail "no step")))
      (rename Fr _ _ _ _ => F3)
      (rename News _ _ _ _ => N3)
      rw [List.push_toArray] at N3
      exact loop_endX F3 ⟨(c ++ [_], n + 1), (by rw [List.take_add_one, hx, List.map_append, ← List.append_assoc]; exact IntsAre.append hP2 (IntsAre.cons _ _ IntsAre.nil)), N3, hoff2, hasNil, fun z h1 _ h3 => kstN h1 h3⟩
    · rintro ⟨c, n⟩ u h tk hP2 F2 N2
      rw [IntsAre.length iW, List.take_length] at hP2
      dsimp only at N2 hP2
      rw [← hst] at hP2
      rw [hled, ← List.cons_append, ← List.cons_append] at N2
      (repeat' ((fail_if_success (with_reducible show wpAny _ _ (pyIter (Value.ref _)) _ _ _)); (first | (k_unfold; (try dsimp only)) | (k_end; wrow_close) | walk1 | (dsimp only; walk1) | (leave1; walk_say "STEP leave1"; try dsimp only) | fail "no step")))
      exact loop_endX F2 ⟨(c, n), hP2, N2, hoff, hasNil, fun z h1 h2 h3 => (if_neg (cont_cons h3).1).trans (kst0.trans (kstN h1 h3))⟩
  · rintro ⟨c, n⟩ u h tk hP1 F N
    dsimp only at N
    have hP2 : IntsAre c ((x0.map fun v => 3 * 0 + v) ++ x1.map fun v => 3 * 1 + v) := hP1
    clear hP1
    have hcl : c.length ≤ 200 := by rw [IntsAre.length hP2, List.length_append, List.length_map, List.length_map]; omega
    (repeat' ((fail_if_success (with_reducible show wpAny _ _ (pyIter (Value.ref _)) _ _ _)); (first | (k_unfold; (try dsimp only)) | (k_end; wrow_close) | walk1 | (dsimp only; walk1) | (leave1; walk_say "STEP leave1"; try dsimp only) | fail "no step")))
    all_goals try ((with_reducible show JoinS _ _ _ _ _ _ _ _ _); (rename Fr _ _ _ _ => F3); (rename News _ _ _ _ => N3); (try rw [List.push_toArray] at N3); first | exact ⟨rfl, _, _, _, _, rfl, F3, News.drop1 N3, by rw [hB0, if_neg (show ¬ off = true by rw [show off = false by assumption]; exact Bool.false_ne_true)]; exact hP2⟩ | exact ⟨rfl, _, _, _, _, rfl, F3, News.drop1 N3, by rw [hB0, if_pos (show off = true by assumption)]; exact ints_one hP2⟩)
    · rename_i lT2 hT2 FT2 NT2 l1T2
      k_dflt (refine loopT (σ := List Value × Nat) (fun c => (lT2, _) :: (lS, listOf c.1.toArray c.2) :: news) (fun _ => []) [PySem.Str.ofString "row", PySem.Str.ofString "last"] (fun i c => IntsAre c.1 (bodyOf B0 x0 y0 x1 y1 i)) (_, _) rfl (fun _ => .head _) FT2 NT2 (fun _ h => nomatch h) (by assumption) ?_ ?_)
      · rintro i v9 ⟨c, n⟩ u h tk own hv hoff hP1 F N
        have hi2 : i < 2 := by
          rcases i with _ | _ | i
          · omega
          · omega
          · simp at hv
        obtain ⟨eW, aW, veW, vaW, geW, gaW, xW, yW, tw, rfl, qE, qA, mEw, mAw, iW, jW, hxl, hyl, hbl, hst⟩ : ∃ (eW aW : Addr) (veW vaW : List Value) (geW gaW : Nat) (xW yW : List Int) (tw : Tok), v9 = .int (i : Int) tw ∧ [Value.ref e0, Value.ref e1][i]? = some (.ref eW) ∧ [Value.ref a0, Value.ref a1][i]? = some (.ref aW) ∧ (eW, listOf veW.toArray geW) ∈ news ∧ (aW, listOf vaW.toArray gaW) ∈ news ∧ IntsAre veW xW ∧ IntsAre vaW yW ∧
            xW.length ≤ 100 ∧ yW.length ≤ 100 ∧ (bodyOf B0 x0 y0 x1 y1 i).length ≤ 203 ∧ bodyOf B0 x0 y0 x1 y1 (i + 1) = bodyOf B0 x0 y0 x1 y1 i ++ shortRow (i : Int) xW yW := by
          rcases i with _ | _ | i
          · obtain rfl := Option.some.inj hv
            exact ⟨e0, a0, ve0, va0, g0, g2, x0, y0, _, rfl, rfl, rfl, me0, ma0, i0, j0, hlen.1, hlen.2.2.1, Nat.le_trans hb0 (by decide), rfl⟩
          · obtain rfl := Option.some.inj hv
            exact ⟨e1, a1, ve1, va1, g1, g3, x1, y1, _, rfl, rfl, rfl, me1, ma1, i1, j1, hlen.2.1, hlen.2.2.2, (by show (B0 ++ shortRow 0 x0 y0).length ≤ 203; rw [List.length_append]; have := shortRow_len 0 x0 y0; omega), rfl⟩
          · omega
        obtain ⟨led, hled⟩ : ∃ q, q = news ++ own := ⟨_, rfl⟩
        have sub : ∀ p ∈ news, p ∈ led := fun p hp => by rw [hled]; exact List.mem_append_left _ hp
        have mE' := sub _ mE
        have mA' := sub _ mA
        have mEw' := sub _ mEw
        have mAw' := sub _ mAw
        have hneS : ∀ p ∈ led, p.1 ≠ lS := by
          intro p hp
          rw [hled] at hp
          rcases List.mem_append.mp hp with hp | hp
          · exact Nat.ne_of_lt (l1S p hp)
          · exact hoff p hp lS (.tail _ (.head _))
        change News _ _ h ((lT2, _) :: (lS, listOf c.toArray n) :: (news ++ own)) at N
        rw [← hled] at N
        have hP2 : IntsAre c (bodyOf B0 x0 y0 x1 y1 i) := hP1
        have hcl : c.length ≤ 203 := by rw [IntsAre.length hP2]; exact hbl
        (repeat' ((fail_if_success (with_reducible show wpAny _ _ (pyIter (Value.ref _)) _ _ _)); (first | (k_unfold; (try dsimp only)) | (k_end; wrow_close) | walk1 | (dsimp only; walk1) | (leave1; walk_say "STEP leave1"; try dsimp only) | fail "no step")))
        all_goals (try k_data)
        all_goals
          (rename Fr _ _ _ _ => F2)
          (rename News _ _ _ _ => N2)
          try simp only [List.push_toArray] at N2
          simp only [decide_eq_true_eq, decide_eq_false_iff_not, Int.toNat_natCast] at *
          rw [hled] at N2
          first
          | refine loop_endX F2 ⟨(_, _), ?_, News.drop3 N2, hoff, hasNil, ?_⟩
          | refine loop_endX F2 ⟨(_, _), ?_, News.drop4 N2, hoff, hasNil, ?_⟩
          | refine loop_endX F2 ⟨(_, _), ?_, News.drop5 N2, hoff, hasNil, ?_⟩
          | refine loop_endX F2 ⟨(_, _), ?_, News.drop2 N2, hoff, hasNil, ?_⟩
          | refine loop_endX F2 ⟨(_, _), ?_, News.drop6 N2, hoff, hasNil, ?_⟩
          | refine loop_endX F2 ⟨(_, _), ?_, News.drop1 N2, hoff, hasNil, ?_⟩
          | refine loop_endX F2 ⟨(_, _), ?_, N2, hoff, hasNil, ?_⟩
          rotate_left
          · exact fun z h1 h2 h3 => (if_neg (cont_cons (cont_cons h3).2).1).trans ((if_neg (cont_cons h3).1).trans (kstN h1 h3))
          show IntsAre _ (bodyOf B0 x0 y0 x1 y1 (i + 1))
          rw [hst]
          first
          | (rw [shortRow_e (w := (i : Int)) (x := xW) (y := yW) (by assumption) (by assumption), List.append_nil]; exact hP2)
          | (rw [shortRow_d (w := (i : Int)) (x := xW) (y := yW) (by assumption) (by assumption), List.append_nil]; exact hP2)
          | (rw [shortRow_c (w := (i : Int)) (x := xW) (y := yW) (by assumption) (by assumption) (by assumption)]; exact ints_one hP2)
          | (rw [shortRow_b (w := (i : Int)) (x := xW) (y := yW) (by assumption) (by assumption) (by assumption)]; exact ints_one hP2)
          | (rw [shortRow_a (w := (i : Int)) (x := xW) (y := yW) (by assumption) (.inl (by assumption))]; exact ints_two hP2)
          | (rw [shortRow_a (w := (i : Int)) (x := xW) (y := yW) (by assumption) (.inr (by assumption))]; exact ints_two hP2)
      · rintro ⟨c, n⟩ u h tk hP1 F N
        dsimp only at N
        (repeat' ((fail_if_success (with_reducible show wpAny _ _ (pyIter (Value.ref _)) _ _ _)); (first | (k_unfold; (try dsimp only)) | (k_end; wrow_close) | walk1 | (dsimp only; walk1) | (leave1; walk_say "STEP leave1"; try dsimp only) | fail "no step")))
        (rename Fr h₀ L _ m => F5)
        (rename News h₀ L _ _ => N5)
        refine hret _ _ _ _ _ F5 (News.sub N5 (by k_allIn)) ?_
        unfold shortOf
        rw [← hB0]
        exact hP1
end
section
variable {pv : Program} {w : World} {dp un : Nat} {gd : Option (List Code)} {cn : Str} {cs : Scope} {a : Addr} {ccd : Value} {cl : List (Str × Addr)} {outer : List Env} {A₀ : Around} {base h₀ : Heap} {L : Addr} {m : Str → Option Value} {s : Shared} {Q E : Value → Shared → Prop} {loose : List Str} {mean : ExcName → Option Value} {mg mb : Str → Option Value} {rest : List (Addr × Obj)}
local macro_rules | `(tactic| walk_at "call ref") => `(tactic| (k_here; k_dflt (refine' put_any ?B ?F ?X ?T ?hk ?N ?m0 ?m1 ?m2 ?hd ?hu ?v1 ?v2 ?k1 ?k2 ?_; (case B => k_asm); (case F => k_asm); (case X => k_asm); (case T => k_asm); (case hk => first | exact rfl | assumption); (case N => k_asm); (case m0 => k_mem); (case m1 => k_mem); (case m2 => k_mem); (case hd => ktr_room); (case hu => ktr_units); (case v1 => omega); (case v2 => omega); (case k1 => omega); (case k2 => omega); k_whole); intro h' tk' d' o' F' N' D' lo' ne'))
theorem told_all {pT pE pA e0 e1 a0 a1 : Addr} {off : Bool} {ve0 ve1 va0 va1 : List Value} {g0 g1 g2 g3 nT nE nA : Nat} {x0 x1 y0 y1 : List Int} {v k : Int} {tv tk9 : Tok} {news : List (Addr × Obj)}
   (B : Below A₀ base outer h₀) (F : Fr h₀ L s.heap m) (X : (hd.heap_39 w.params).In h₀) (T : Top pv loose mean mg mb h₀) (hk : cs.kind = .function) (N : News h₀ L s.heap news) (hd : dp + 10 < recursionLimit) (hu : un + 300 < cLine)
   (mT : (pT, ({ cls := .type "tuple", data := .seq #[.bool off, .ref pE, .ref pA] nT } : Obj)) ∈ news) (mE : (pE, listOf #[.ref e0, .ref e1] nE) ∈ news) (mA : (pA, listOf #[.ref a0, .ref a1] nA) ∈ news)
   (me0 : (e0, listOf ve0.toArray g0) ∈ news) (me1 : (e1, listOf ve1.toArray g1) ∈ news) (ma0 : (a0, listOf va0.toArray g2) ∈ news) (ma1 : (a1, listOf va1.toArray g3) ∈ news)
   (hx0 : ∀ a ∈ x0, 0 ≤ a ∧ a ≤ 2) (hx1 : ∀ a ∈ x1, 0 ≤ a ∧ a ≤ 2) (hy0 : ∀ a ∈ y0, 0 ≤ a ∧ a ≤ 2) (hy1 : ∀ a ∈ y1, 0 ≤ a ∧ a ≤ 2) (hv9 : -1 ≤ v ∧ v ≤ 2) (hk9 : -1 ≤ k ∧ k ≤ 2)
   (i0 : IntsAre ve0 x0) (i1 : IntsAre ve1 x1) (j0 : IntsAre va0 y0) (j1 : IntsAre va1 y1) (hlen : x0.length ≤ 1 ∧ x1.length ≤ 1 ∧ y0.length ≤ 100 ∧ y1.length ≤ 100)
   (hret : ∀ h' tk' d o', Fr h₀ L h' m → News h₀ L h' ((d, o') :: news) → IsCfg PX w o' (putCfg (toldRow off v k x0 y0).1 (toldRow off v k x0 y0).2 (toldRow off v k x1 y1).1 (toldRow off v k x1 y1).2) → (d == sysModules) = false → (∀ p ∈ news, p.1 ≠ d) → Q (.ref d) { s with heap := h', toks := tk' }) :
   wpAny (model PX w) (ktrTop dp un gd cn cs L a ccd cl outer) (call (.ref 61) [.ref pT, .int v tv, .int k tk9]) Q E s := by
  refine wpAny_call ?_
  k_dflt cell_enter
  (repeat' ((fail_if_success (with_reducible show wpAny _ _ (pyIter (Value.ref _)) _ _ _)); (first | (k_unfold; (try dsimp only)) | (k_end; wrow_close) | walk1 | (dsimp only; walk1) | (leave1; walk_say "STEP leave1"; try dsimp only) | fail "no step")))
  rename_i lP hS l1P hS2 lT hT FT NT l1T
  k_dflt (refine loopT (σ := List Value × Nat × List (Addr × Obj)) (fun c => (lT, _) :: (lP, listOf c.1.toArray c.2.1) :: (c.2.2 ++ news)) (fun _ => []) [PySem.Str.ofString "stood", PySem.Str.ofString "first", PySem.Str.ofString "number"] (fun i c => ToldAt off v k x0 y0 x1 y1 lP i c) ([], 0, []) rfl (fun _ => .head _) FT NT (fun _ h => nomatch h) ⟨rfl, rfl⟩ ?_ ?_)
  · rintro i v9 ⟨c, n, tl⟩ u h tk own hv hoff hP1 F N
    have hi2 : i < 2 := by
      rcases i with _ | _ | i
      · omega
      · omega
      · simp at hv
    obtain ⟨eW, aW, veW, vaW, geW, gaW, xW, yW, tw, rfl, qE, qA, mEw, mAw, iW, jW, hxW, hyW, hlW, hyl, tstep⟩ : ∃ (eW aW : Addr) (veW vaW : List Value) (geW gaW : Nat) (xW yW : List Int) (tw : Tok), v9 = .int (i : Int) tw ∧ [Value.ref e0, Value.ref e1][i]? = some (.ref eW) ∧ [Value.ref a0, Value.ref a1][i]? = some (.ref aW) ∧ (eW, listOf veW.toArray geW) ∈ news ∧ (aW, listOf vaW.toArray gaW) ∈ news ∧ IntsAre veW xW ∧ IntsAre vaW yW ∧
        (∀ a ∈ xW, 0 ≤ a ∧ a ≤ 2) ∧ (∀ a ∈ yW, 0 ≤ a ∧ a ≤ 2) ∧ xW.length ≤ 1 ∧ yW.length ≤ 100 ∧ (∀ D t t' n', D ≠ lP → ToldAt off v k x0 y0 x1 y1 lP (i + 1) (c ++ [.ref D], n + 1, (D, tup2 (toldRow off v k xW yW).1 (toldRow off v k xW yW).2 t t' n') :: tl)) := by
      rcases i with _ | _ | i
      · obtain rfl := Option.some.inj hv
        exact ⟨e0, a0, ve0, va0, g0, g2, x0, y0, _, rfl, rfl, rfl, me0, ma0, i0, j0, hx0, hy0, hlen.1, hlen.2.2.1, fun D t t' n' hD => by
          obtain ⟨rfl, rfl⟩ : c = [] ∧ tl = [] := hP1
          exact ⟨D, t, t', n', hD, rfl, rfl⟩⟩
      · obtain rfl := Option.some.inj hv
        exact ⟨e1, a1, ve1, va1, g1, g3, x1, y1, _, rfl, rfl, rfl, me1, ma1, i1, j1, hx1, hy1, hlen.2.1, hlen.2.2.2, fun D t t' n' hD => by
          obtain ⟨a, t0, t0', n0, ha, rfl, rfl⟩ : ∃ a t t' n', a ≠ lP ∧ c = [.ref a] ∧ tl = [(a, tup2 (toldRow off v k x0 y0).1 (toldRow off v k x0 y0).2 t t' n')] := hP1
          exact ⟨a, t0, t0', n0, D, t, t', n', rfl, rfl⟩⟩
      · omega
    obtain ⟨led, hled⟩ : ∃ q, q = (tl ++ news) ++ own := ⟨_, rfl⟩
    have sub : ∀ p ∈ news, p ∈ led := fun p hp => by rw [hled]; exact List.mem_append_left _ (List.mem_append_right _ hp)
    have mE' := sub _ mE
    have mA' := sub _ mA
    have mEw' := sub _ mEw
    have mAw' := sub _ mAw
    have htl : ∀ p ∈ tl, p.1 ≠ lP := by
      rcases i with _ | _ | i
      · obtain ⟨_, e⟩ : c = [] ∧ tl = [] := hP1
        rw [e]; exact fun _ h => nomatch h
      · obtain ⟨a, t, t', n, ha, _, e⟩ : ∃ a t t' n', a ≠ lP ∧ c = [.ref a] ∧ tl = [(a, tup2 (toldRow off v k x0 y0).1 (toldRow off v k x0 y0).2 t t' n')] := hP1
        rw [e]; intro p hp; rw [List.mem_singleton.mp hp]; exact ha
      · omega
    have hcl : c.length ≤ 2 := by
      rcases i with _ | _ | i
      · obtain ⟨e, _⟩ : c = [] ∧ tl = [] := hP1
        rw [e]; decide
      · obtain ⟨a, t, t', n, ha, e, _⟩ : ∃ a t t' n', a ≠ lP ∧ c = [.ref a] ∧ tl = [(a, tup2 (toldRow off v k x0 y0).1 (toldRow off v k x0 y0).2 t t' n')] := hP1
        rw [e]; simp
      · omega
    have hneP : ∀ p ∈ led, p.1 ≠ lP := by
      intro p hp
      rw [hled] at hp
      rcases List.mem_append.mp hp with hp | hp
      · rcases List.mem_append.mp hp with hp | hp
        · exact htl p hp
        · exact Nat.ne_of_lt (l1P p hp)
      · exact hoff p hp lP (.tail _ (.head _))
    change News _ _ h ((lT, _) :: (lP, listOf c.toArray n) :: ((tl ++ news) ++ own)) at N
    rw [← hled] at N
    (repeat' ((fail_if_success (with_reducible show wpAny _ _ (pyIter (Value.ref _)) _ _ _)); (first | (k_unfold; (try dsimp only)) | (k_end; wrow_close) | walk1 | (dsimp only; walk1) | (leave1; walk_say "STEP leave1"; try dsimp only) | fail "no step")))
    all_goals
      (rename Fr _ _ _ _ => FQ)
      (rename News _ _ _ _ => NQ)
      k_dflt (refine loopL (σ := Int × Tok) (fun _ => _) (fun c => [(PySem.Str.ofString "stood", .int c.1 c.2)]) [] (fun i c => c.1 = toldStood v (xW.take i)) (v, _) rfl (fun _ => List.mem_cons_of_mem _ (List.mem_cons_of_mem _ mEw')) FQ NQ (by intro p hp; rw [List.mem_singleton.mp hp]; rfl) rfl ?_ ?_)
      · rintro i v2 ⟨c, tc⟩ u h tk own2 hv hoff2 hP2 F2 N2
        obtain ⟨x, t, rfl, hx⟩ := Mine.IntsAre.at' iW hv
        (repeat' ((fail_if_success (with_reducible show wpAny _ _ (pyIter (Value.ref _)) _ _ _)); (first | (k_unfold; (try dsimp only)) | (k_end; wrow_close) | walk1 | (dsimp only; walk1) | (leave1; walk_say "STEP leave1"; try dsimp only) | fail "no step")))
        (rename Fr _ _ _ _ => F3)
        (rename News _ _ _ _ => N3)
        exact loop_endX F3 ⟨(x, _), (by show x = toldStood v (xW.take (i + 1)); rw [List.take_add_one, hx]; unfold toldStood; rw [List.foldl_append]; rfl), N3, hoff2, hasCons rfl hasNil, fun z h1 h2 h3 => (if_neg (h2 _ (.head _))).trans (kstO h1 (h2 _ (.head _)) h3)⟩
      · rintro ⟨c3, tc⟩ u h tk hP2 F2 N2
        rw [IntsAre.length iW, List.take_length] at hP2
        have hP2 : c3 = toldStood v xW := hP2
        dsimp only at N2 F2
        (repeat' ((fail_if_success (with_reducible show wpAny _ _ (pyIter (Value.ref _)) _ _ _)); (first | (k_unfold; (try dsimp only)) | (k_end; wrow_close) | walk1 | (dsimp only; walk1) | (leave1; walk_say "STEP leave1"; try dsimp only) | fail "no step")))
        all_goals (try k_data)
        all_goals (subst hP2)
        all_goals
          (rename Fr _ _ _ _ => F5)
          (rename News _ _ _ _ => N5)
          rw [List.push_toArray] at N5
          obtain ⟨c', hc', N3, off3⟩ := told_turn (c := c) (tl := tl) (rest := news) (own := own) (lP := lP) (n' := n + 1) (rv := (toldRow off v k xW yW).1) (rf := (toldRow off v k xW yW).2) hled N5 (by k_dflt assumption) (fun p hp => by repeat (first | exact hp | refine List.mem_cons_of_mem _ ?_)) hoff (by
            first
            | exact told_e (by first | exact if_pos (by assumption) | exact if_neg (by rw [show off = false by assumption]; exact Bool.false_ne_true)) (by assumption)
            | exact told_r (by first | exact if_pos (by assumption) | exact if_neg (by rw [show off = false by assumption]; exact Bool.false_ne_true)) (by assumption) (by first | exact if_pos (by assumption) | exact if_neg (by assumption))
                (by first | exact (if_pos ⟨by first | assumption | decide, by assumption⟩).symm | exact (if_neg fun e => e.2 (by assumption)).symm | exact (if_neg fun e => absurd e.1 (by assumption)).symm)) tstep
          exact loop_endX F5 ⟨c', hc', N3, off3, hasNil, fun z h1 h2 h3 => by
            have s1 := (cont_cons h3).1
            have s2 := (cont_cons (cont_cons h3).2).1
            have s3 := (cont_cons (cont_cons (cont_cons h3).2).2).1
            repeat (first | exact kstN h1 h3 | refine (if_neg s1).trans ?_ | refine (if_neg s2).trans ?_ | refine (if_neg s3).trans ?_ | refine (kst1 s1).trans ?_ | refine kstE.trans ?_)⟩
  · rintro ⟨c, n, tl⟩ u h tk hP1 F N
    obtain ⟨b, tb, tb', nb, b2, t2, t2', n2, rfl, rfl⟩ : ∃ a t t' n a2 t2 t2' n2, c = [.ref a, .ref a2] ∧ tl = [(a2, tup2 (toldRow off v k x1 y1).1 (toldRow off v k x1 y1).2 t2 t2' n2), (a, tup2 (toldRow off v k x0 y0).1 (toldRow off v k x0 y0).2 t t' n)] := hP1
    obtain ⟨r1, r2, r3, r4⟩ := toldRow_range (off := off) hx0 hy0 hv9 hk9
    obtain ⟨q1, q2, q3, q4⟩ := toldRow_range (off := off) hx1 hy1 hv9 hk9
    simp only [List.cons_append, List.nil_append] at N
    generalize ER : toldRow off v k x0 y0 = R at *
    generalize EP : toldRow off v k x1 y1 = P at *
    unfold tup2 at N
    (repeat' ((fail_if_success (with_reducible show wpAny _ _ (pyIter (Value.ref _)) _ _ _)); (first | (k_unfold; (try dsimp only)) | (k_end; wrow_close) | walk1 | (dsimp only; walk1) | (leave1; walk_say "STEP leave1"; try dsimp only) | fail "no step")))
    (rename Fr h₀ L _ m => F5)
    (rename News h₀ L _ _ => N5)
    (rename IsCfg _ _ _ _ => D5)
    rename_i lo' ne' _ _
    exact hret _ _ _ _ F5 (News.sub N5 (by k_allIn)) D5 (by assumption) (fun p hp => by first | exact ne' p (by k_ownIn) | (refine ‹∀ p ∈ _, p.1 ≠ _› p ?_; k_ownIn))
end
end sh
section
variable {pv : Program} {w : World} {dp un : Nat} {gd : Option (List Code)} {cn : Str} {cs : Scope} {a : Addr} {ccd : Value} {cl : List (Str × Addr)} {outer : List Env} {A₀ : Around} {base h₀ : Heap} {L : Addr} {m : Str → Option Value} {s : Shared} {Q E : Value → Shared → Prop} {loose : List Str} {mean : ExcName → Option Value} {mg mb : Str → Option Value} {rest : List (Addr × Obj)}
theorem go_first {d l : Addr} {o : Obj} {c : Cfg} {vs : List Value} {nn : Nat} {run : List Int} {news : List (Addr × Obj)}
   (B : Below A₀ base outer h₀) (F : Fr h₀ L s.heap m) (X : (hd.heap_39 w.params).In h₀) (T : Top pv loose mean mg mb h₀) (hk : cs.kind = .function) (N : News h₀ L s.heap ((d, o) :: news)) (hm : (l, listOf vs.toArray nn) ∈ news) (hd : dp + 5 < recursionLimit) (hu : un + 200 < cLine)
   (hne : ∀ p ∈ news, p.1 ≠ d) (hlo : (d == sysModules) = false)
   (hD : IsCfg PX w o c) (hI : IntsAre vs run) (hrun : ∀ x ∈ run, 0 ≤ x ∧ x ≤ 6) (hlen : c.length + 2 * run.length ≤ 900)
   (hret : ∀ h' tk' o', Fr h₀ L h' m → News h₀ L h' ((d, o') :: news) → IsCfg PX w o' (goC c run) → Q (.ref d) { s with heap := h', toks := tk' }) :
   wpAny (model PX w) (ktrTop dp un gd cn cs L a ccd cl outer) (call (.ref 42) [.ref d, .ref l]) Q E s :=
  go_spec (rest := news) B F X T hk (fun p hp => by
    rcases List.mem_cons.mp hp with rfl | hp
    · exact N _ (.head _)
    rcases List.mem_cons.mp hp with rfl | hp
    · exact N _ (.tail _ hm)
    exact N _ (.tail _ hp)) hd hu hne (hne _ hm) hlo hD hI hrun hlen
    fun h' tk' o' F' N' => hret h' tk' o' F' (News.sub N' fun p hp => (List.mem_cons.mp hp).elim (fun e => by rw [e]; exact .head _) fun hp => .tail _ (.tail _ hp))
theorem parts_any {l : Addr} {vs : List Value} {nn : Nat} {run : List Int} {news : List (Addr × Obj)}
   (B : Below A₀ base outer h₀) (F : Fr h₀ L s.heap m) (X : (hd.heap_39 w.params).In h₀) (T : Top pv loose mean mg mb h₀) (hk : cs.kind = .function) (N : News h₀ L s.heap news) (hm : (l, listOf vs.toArray nn) ∈ news) (hd : dp + 5 < recursionLimit) (hu : un + 200 < cLine)
   (hI : IntsAre vs run) (hlen : run.length ≤ 100)
   (hret : ∀ h' tk' pT pE pA e0 e1 a0 a1 off ve0 ve1 va0 va1 g0 g1 g2 g3 nT nE nA, Fr h₀ L h' m → News h₀ L h' ((pT, ({ cls := .type "tuple", data := .seq #[.bool off, .ref pE, .ref pA] nT } : Obj)) :: (pE, listOf #[.ref e0, .ref e1] nE) :: (pA, listOf #[.ref a0, .ref a1] nA) :: (e0, listOf ve0.toArray g0) :: (e1, listOf ve1.toArray g1) :: (a0, listOf va0.toArray g2) :: (a1, listOf va1.toArray g3) :: news) → off = decide (0 ≤ cutI run run.length) →
      IntsAre ve0 (earlyOf run 0) → IntsAre ve1 (earlyOf run 1) → IntsAre va0 (lateOf run 0) → IntsAre va1 (lateOf run 1) → Q (.ref pT) { s with heap := h', toks := tk' }) :
   wpAny (model PX w) (ktrTop dp un gd cn cs L a ccd cl outer) (call (.ref 47) [.ref l]) Q E s :=
  parts_spec (rest := news) B F X T hk (fun p hp => (List.mem_cons.mp hp).elim (fun e => by rw [e]; exact N _ hm) fun hp => N _ hp) hd hu hI hlen
    fun h' tk' pT pE pA e0 e1 a0 a1 off ve0 ve1 va0 va1 g0 g1 g2 g3 nT nE nA F' N' => hret h' tk' pT pE pA e0 e1 a0 a1 off ve0 ve1 va0 va1 g0 g1 g2 g3 nT nE nA F' (News.sub N' fun p hp => by
      simp only [List.mem_cons] at hp ⊢
      rcases hp with h | h | h | h | h | h | h | h <;> simp [h])
theorem short_any {pT pE pA e0 e1 a0 a1 : Addr} {off : Bool} {ve0 ve1 va0 va1 : List Value} {g0 g1 g2 g3 nT nE nA : Nat} {x0 x1 y0 y1 : List Int} {news : List (Addr × Obj)}
   (B : Below A₀ base outer h₀) (F : Fr h₀ L s.heap m) (X : (hd.heap_39 w.params).In h₀) (T : Top pv loose mean mg mb h₀) (hk : cs.kind = .function) (N : News h₀ L s.heap ((pT, ({ cls := .type "tuple", data := .seq #[.bool off, .ref pE, .ref pA] nT } : Obj)) :: (pE, listOf #[.ref e0, .ref e1] nE) :: (pA, listOf #[.ref a0, .ref a1] nA) :: (e0, listOf ve0.toArray g0) :: (e1, listOf ve1.toArray g1) :: (a0, listOf va0.toArray g2) :: (a1, listOf va1.toArray g3) :: news)) (hd : dp + 5 < recursionLimit) (hu : un + 200 < cLine)
   (i0 : IntsAre ve0 x0) (i1 : IntsAre ve1 x1) (j0 : IntsAre va0 y0) (j1 : IntsAre va1 y1) (hlen : x0.length ≤ 100 ∧ x1.length ≤ 100 ∧ y0.length ≤ 100 ∧ y1.length ≤ 100)
   (hret : ∀ h' tk' lS vs' n', Fr h₀ L h' m → News h₀ L h' ((lS, listOf vs'.toArray n') :: news) → IntsAre vs' (shortOf off x0 x1 y0 y1) → Q (.ref lS) { s with heap := h', toks := tk' }) :
   wpAny (model PX w) (ktrTop dp un gd cn cs L a ccd cl outer) (call (.ref 54) [.ref pT]) Q E s :=
  short_all B F X T hk N hd hu (.head _) (.tail _ (.head _)) (.tail _ (.tail _ (.head _))) (.tail _ (.tail _ (.tail _ (.head _)))) (.tail _ (.tail _ (.tail _ (.tail _ (.head _))))) (.tail _ (.tail _ (.tail _ (.tail _ (.tail _ (.head _)))))) (.tail _ (.tail _ (.tail _ (.tail _ (.tail _ (.tail _ (.head _))))))) i0 i1 j0 j1 hlen fun h' tk' lS vs' n' F' N' => hret h' tk' lS vs' n' F' (News.sub N' fun p hp => by
      simp only [List.mem_cons] at hp ⊢
      rcases hp with h | h <;> simp [h])
theorem told_any {pT pE pA e0 e1 a0 a1 : Addr} {off : Bool} {ve0 ve1 va0 va1 : List Value} {g0 g1 g2 g3 nT nE nA : Nat} {x0 x1 y0 y1 : List Int} {v k : Int} {tv tk9 : Tok} {news : List (Addr × Obj)}
   (B : Below A₀ base outer h₀) (F : Fr h₀ L s.heap m) (X : (hd.heap_39 w.params).In h₀) (T : Top pv loose mean mg mb h₀) (hk : cs.kind = .function) (N : News h₀ L s.heap ((pT, ({ cls := .type "tuple", data := .seq #[.bool off, .ref pE, .ref pA] nT } : Obj)) :: (pE, listOf #[.ref e0, .ref e1] nE) :: (pA, listOf #[.ref a0, .ref a1] nA) :: (e0, listOf ve0.toArray g0) :: (e1, listOf ve1.toArray g1) :: (a0, listOf va0.toArray g2) :: (a1, listOf va1.toArray g3) :: news)) (hd : dp + 10 < recursionLimit) (hu : un + 300 < cLine)
   (hx0 : ∀ a ∈ x0, 0 ≤ a ∧ a ≤ 2) (hx1 : ∀ a ∈ x1, 0 ≤ a ∧ a ≤ 2) (hy0 : ∀ a ∈ y0, 0 ≤ a ∧ a ≤ 2) (hy1 : ∀ a ∈ y1, 0 ≤ a ∧ a ≤ 2) (hv9 : -1 ≤ v ∧ v ≤ 2) (hk9 : -1 ≤ k ∧ k ≤ 2)
   (i0 : IntsAre ve0 x0) (i1 : IntsAre ve1 x1) (j0 : IntsAre va0 y0) (j1 : IntsAre va1 y1) (hlen : x0.length ≤ 1 ∧ x1.length ≤ 1 ∧ y0.length ≤ 100 ∧ y1.length ≤ 100)
   (hret : ∀ h' tk' d o', Fr h₀ L h' m → News h₀ L h' ((d, o') :: news) → IsCfg PX w o' (putCfg (toldRow off v k x0 y0).1 (toldRow off v k x0 y0).2 (toldRow off v k x1 y1).1 (toldRow off v k x1 y1).2) → (d == sysModules) = false → (∀ p ∈ news, p.1 ≠ d) → Q (.ref d) { s with heap := h', toks := tk' }) :
   wpAny (model PX w) (ktrTop dp un gd cn cs L a ccd cl outer) (call (.ref 61) [.ref pT, .int v tv, .int k tk9]) Q E s :=
  told_all B F X T hk N hd hu (.head _) (.tail _ (.head _)) (.tail _ (.tail _ (.head _))) (.tail _ (.tail _ (.tail _ (.head _)))) (.tail _ (.tail _ (.tail _ (.tail _ (.head _))))) (.tail _ (.tail _ (.tail _ (.tail _ (.tail _ (.head _)))))) (.tail _ (.tail _ (.tail _ (.tail _ (.tail _ (.tail _ (.head _))))))) hx0 hx1 hy0 hy1 hv9 hk9 i0 i1 j0 j1 hlen fun h' tk' d o' F' N' D' lo' ne' => hret h' tk' d o' F' (News.sub N' fun p hp => by
      simp only [List.mem_cons] at hp ⊢
      rcases hp with h | h <;> simp [h]) D' lo' fun p hp => ne' p (.tail _ (.tail _ (.tail _ (.tail _ (.tail _ (.tail _ (.tail _ hp)))))))
end
theorem getD_range {xs : List Int} {z : Int} (h : ∀ x ∈ xs, 0 ≤ x ∧ x ≤ 6) (h0 : 0 ≤ z) (h1 : z < (xs.length : Int)) : 0 ≤ xs.getD z.toNat 0 ∧ xs.getD z.toNat 0 ≤ 6 := by
  have hl : z.toNat < xs.length := by omega
  rw [List.getD_eq_getElem?_getD, List.getElem?_eq_getElem hl]
  exact h _ (List.getElem_mem hl)
theorem lastOf_len (l : List Int) : (lastOf l).length ≤ 1 := by
  unfold lastOf
  rw [List.length_drop]
  omega
theorem earlyOf_len1 (run : List Int) (w : Int) : (earlyOf run w).length ≤ 1 := lastOf_len _
theorem earlyOf_len (run : List Int) (w : Int) : (earlyOf run w).length ≤ 100 := Nat.le_trans (lastOf_len _) (by decide)
theorem pickOf_len (l : List Int) (w : Int) : (pickOf l w).length ≤ l.length := by
  unfold pickOf
  rw [List.length_map]
  exact List.length_filter_le _ _
theorem lateOf_len {run : List Int} (h : run.length ≤ 100) (w : Int) : (lateOf run w).length ≤ 100 := by
  refine Nat.le_trans (pickOf_len _ _) ?_
  rw [List.length_drop]
  omega
theorem pickOf_range (l : List Int) (w : Int) : ∀ a ∈ pickOf l w, 0 ≤ a ∧ a ≤ 2 := by
  intro a ha
  unfold pickOf at ha
  obtain ⟨b, _, rfl⟩ := List.mem_map.mp ha
  have h1 := Int.fmod_nonneg_of_pos b (b := 3) (by decide)
  have h2 := Int.fmod_lt_of_pos b (b := 3) (by decide)
  omega
theorem lastOf_mem {l : List Int} {a : Int} (h : a ∈ lastOf l) : a ∈ l := List.mem_of_mem_drop h
theorem earlyOf_range {run : List Int} (w : Int) : ∀ a ∈ earlyOf run w, 0 ≤ a ∧ a ≤ 2 := fun a ha => pickOf_range _ _ a (lastOf_mem ha)
theorem lateOf_range {run : List Int} (w : Int) : ∀ a ∈ lateOf run w, 0 ≤ a ∧ a ≤ 2 := fun a ha => pickOf_range _ _ a ha
def setW (s : Int × Int) (n : Int) : Int × Int := (n, if s.2 < 0 ∧ toldFix s.1 ≠ n then toldFix s.1 else s.2)
def stepW (w : Int) (s : Int × Int) (x : Int) : Int × Int := if x = 6 then (s.1, -1) else if x / 3 = w then setW s (x % 3) else s
def mW (w : Int) (s : Int × Int) (run : List Int) : Int × Int := run.foldl (stepW w) s
def InR (s : Int × Int) : Prop := (-1 ≤ s.1 ∧ s.1 ≤ 2) ∧ -1 ≤ s.2 ∧ s.2 ≤ 2
theorem toldFix_range {v : Int} (h : -1 ≤ v ∧ v ≤ 2) : 0 ≤ toldFix v ∧ toldFix v ≤ 2 := by
  unfold toldFix
  split <;> omega
theorem stepW_range {w : Int} {s : Int × Int} {x : Int} (hs : InR s) : InR (stepW w s x) := by
  have hf := toldFix_range hs.1
  unfold stepW
  split
  · exact ⟨hs.1, Int.le_refl _, show (-1 : Int) ≤ 2 by decide⟩
  · split
    · refine ⟨⟨?_, ?_⟩, ?_⟩
      · show -1 ≤ x % 3; omega
      · show x % 3 ≤ 2; omega
      · show -1 ≤ (if s.2 < 0 ∧ toldFix s.1 ≠ x % 3 then toldFix s.1 else s.2) ∧ (if s.2 < 0 ∧ toldFix s.1 ≠ x % 3 then toldFix s.1 else s.2) ≤ 2
        split
        · omega
        · exact hs.2
    · exact hs
theorem mW_range {w : Int} {run : List Int} : ∀ {s : Int × Int}, InR s → InR (mW w s run) := by
  induction run with
  | nil => exact fun h => h
  | cons x r ih => exact fun h => ih (stepW_range h)
theorem mW_append (w : Int) (s : Int × Int) (a b : List Int) : mW w s (a ++ b) = mW w (mW w s a) b := by
  unfold mW
  rw [List.foldl_append]
/-- dicts by what they answer -/
def ccS : Str := PySem.Str.ofString "CC"
def cxS : Str := PySem.Str.ofString "CXX"
def pcS : Str := PySem.Str.ofString "_OSX_SUPPORT_INITIAL_CC"
def pxS : Str := PySem.Str.ofString "_OSX_SUPPORT_INITIAL_CXX"
def ldS : Str := PySem.Str.ofString "LDSHARED"
def optS (v : Int) : Option PyData := if v < 0 then none else some (vlS v)
def look (s0 s1 : Int × Int) (k : Str) : Option PyData :=
  if k = ccS then optS s0.1 else if k = pcS then optS s0.2 else if k = cxS then optS s1.1 else if k = pxS then optS s1.2 else if k = ldS then some (.str (PySem.Str.ofString "x")) else none
structure Rep (c : Cfg) (s0 s1 : Int × Int) : Prop where
  nd : (c.map (·.1)).Nodup
  txt : ∀ p ∈ c, ∃ t, p.2 = PyData.str t
  get : ∀ k, getC c k = look s0 s1 k
theorem getC_cons (p : Str × PyData) (r : Cfg) (k : Str) : getC (p :: r) k = if p.1 = k then some p.2 else getC r k := by
  unfold getC
  rw [List.find?_cons]
  by_cases h : p.1 = k
  · simp [h]
  · simp [h]
theorem hasC_cons (p : Str × PyData) (r : Cfg) (k : Str) : hasC (p :: r) k = (decide (p.1 = k) || hasC r k) := rfl
theorem getC_upd (k k' : Str) (v : PyData) : ∀ c : Cfg, getC (c.map fun p => if p.1 = k then (p.1, v) else p) k' = if k' = k ∧ hasC c k = true then some v else getC c k'
  | [] => by simp [hasC, getC]
  | p :: r => by
    rw [List.map_cons, getC_cons, getC_cons, getC_upd k k' v r, hasC_cons]
    by_cases hp : p.1 = k
    · rw [if_pos hp]
      by_cases hk : k' = k
      · simp [hp, hk]
      · have : ¬ k = k' := fun e => hk e.symm
        simp [hp, hk, this]
    · rw [if_neg hp]
      by_cases hk : p.1 = k'
      · have : ¬ k' = k := fun e => hp (hk.trans e)
        simp [hk, this]
      · simp [hk, hp]
theorem getC_snoc (k k' : Str) (v : PyData) : ∀ c : Cfg, hasC c k = false → getC (c ++ [(k, v)]) k' = if k' = k then some v else getC c k'
  | [], _ => by
    rw [List.nil_append, getC_cons]
    by_cases hk : k' = k
    · simp [hk]
    · have : ¬ k = k' := fun e => hk e.symm
      simp [hk, this]
  | p :: r, h => by
    rw [hasC_cons, Bool.or_eq_false_iff] at h
    have hp : ¬ p.1 = k := of_decide_eq_false h.1
    rw [List.cons_append, getC_cons, getC_cons, getC_snoc k k' v r h.2]
    by_cases hk : p.1 = k'
    · have : ¬ k' = k := fun e => hp (hk.trans e)
      simp [hk, this]
    · simp [hk]
theorem getC_put (c : Cfg) (k k' : Str) (v : PyData) : getC (putC c k v) k' = if k' = k then some v else getC c k' := by
  unfold putC
  by_cases hc : hasC c k = true
  · rw [if_pos hc, getC_upd]
    simp [hc]
  · rw [if_neg hc]
    exact getC_snoc k k' v c (by simpa using hc)
theorem getC_rem (k : Str) : ∀ c : Cfg, getC (c.filter keepC) k = if Txt.startswith k preS = true then none else getC c k
  | [] => by simp [getC]
  | p :: r => by
    rw [List.filter_cons, getC_cons]
    by_cases hp : p.1 = k
    · by_cases hs : Txt.startswith k preS = true
      · have : keepC p = false := by unfold keepC; rw [hp, hs]; rfl
        rw [this, if_neg (by decide), getC_rem k r, if_pos hs, if_pos hs]
      · have : keepC p = true := by unfold keepC; rw [hp, Bool.not_eq_true] at *; rw [hs]; rfl
        rw [this, if_pos rfl, getC_cons, if_pos hp, if_neg hs, if_pos hp]
    · rw [if_neg hp]
      cases keepC p with
      | true => rw [if_pos rfl, getC_cons, if_neg hp, getC_rem k r]
      | false => rw [if_neg (by decide), getC_rem k r]
theorem keys_upd (k : Str) (v : PyData) (c : Cfg) : (c.map fun p => if p.1 = k then (p.1, v) else p).map (·.1) = c.map (·.1) := by
  rw [List.map_map]
  refine List.map_congr_left fun p _ => ?_
  show (if p.1 = k then (p.1, v) else p).1 = p.1
  split <;> rfl
theorem nodup_put {c : Cfg} (h : (c.map (·.1)).Nodup) (k : Str) (v : PyData) : ((putC c k v).map (·.1)).Nodup := by
  unfold putC
  by_cases hc : hasC c k = true
  · rw [if_pos hc, keys_upd]; exact h
  · rw [if_neg hc, List.map_append]
    refine List.nodup_append.mpr ⟨h, by simp, ?_⟩
    intro a ha b hb e
    obtain ⟨p, hp, rfl⟩ := List.mem_map.mp ha
    rw [List.map_singleton, List.mem_singleton] at hb
    refine hc ?_
    unfold hasC
    exact List.any_eq_true.mpr ⟨p, hp, by simp [e, hb]⟩
theorem txt_put {c : Cfg} (h : ∀ p ∈ c, ∃ t, p.2 = PyData.str t) (k : Str) (t : Str) : ∀ p ∈ putC c k (.str t), ∃ t, p.2 = PyData.str t := by
  intro p hp
  unfold putC at hp
  split at hp
  · obtain ⟨q, hq, rfl⟩ := List.mem_map.mp hp
    split
    · exact ⟨t, rfl⟩
    · exact h q hq
  · rcases List.mem_append.mp hp with hp | hp
    · exact h p hp
    · rw [List.mem_singleton.mp hp]; exact ⟨t, rfl⟩
theorem vlS_txt (i : Int) : ∃ t, vlS i = PyData.str t := ⟨_, rfl⟩
theorem nmS_zero : nmS 0 = ccS := rfl
theorem nmS_one : nmS 1 = cxS := rfl
theorem pre_cc : preS ++ ccS = pcS := by decide +kernel
theorem pre_cx : preS ++ cxS = pxS := by decide +kernel
theorem keys_ne : ccS ≠ pcS ∧ ccS ≠ cxS ∧ ccS ≠ pxS ∧ pcS ≠ cxS ∧ pcS ≠ pxS ∧ cxS ≠ pxS ∧ ldS ≠ ccS ∧ ldS ≠ pcS ∧ ldS ≠ cxS ∧ ldS ≠ pxS := by decide +kernel
theorem start_facts : Txt.startswith ccS preS = false ∧ Txt.startswith pcS preS = true ∧ Txt.startswith cxS preS = false ∧ Txt.startswith pxS preS = true ∧ Txt.startswith ldS preS = false := by decide +kernel
theorem vlS_eqv : ∀ a b : Int, 0 ≤ a → a ≤ 2 → 0 ≤ b → b ≤ 2 → PyData.eqv (vlS a) (vlS b) = decide (a = b) := by
  intro a b h0 h1 h2 h3
  have ha : a = 0 ∨ a = 1 ∨ a = 2 := by omega
  have hb : b = 0 ∨ b = 1 ∨ b = 2 := by omega
  rcases ha with rfl | rfl | rfl <;> rcases hb with rfl | rfl | rfl <;> decide +kernel
theorem vlS_two : vlS 2 = .str (PySem.Str.ofString "") := rfl
theorem optS_getD {v : Int} : (optS v).getD (.str (PySem.Str.ofString "")) = vlS (toldFix v) := by
  unfold optS toldFix
  split
  · rw [vlS_two]; rfl
  · rfl
theorem optS_pos {v : Int} (h : 0 ≤ v) : optS v = some (vlS v) := by
  unfold optS; rw [if_neg (by omega)]
theorem look_cc (s0 s1 : Int × Int) : look s0 s1 ccS = optS s0.1 := by unfold look; rw [if_pos rfl]
theorem look_pc (s0 s1 : Int × Int) : look s0 s1 pcS = optS s0.2 := by
  obtain ⟨a1, a2, a3, a4, a5, a6, a7, a8, a9, a0⟩ := keys_ne
  unfold look; rw [if_neg (Ne.symm a1), if_pos rfl]
theorem look_cx (s0 s1 : Int × Int) : look s0 s1 cxS = optS s1.1 := by
  obtain ⟨a1, a2, a3, a4, a5, a6, a7, a8, a9, a0⟩ := keys_ne
  unfold look; rw [if_neg (Ne.symm a2), if_neg (Ne.symm a4), if_pos rfl]
theorem look_px (s0 s1 : Int × Int) : look s0 s1 pxS = optS s1.2 := by
  obtain ⟨a1, a2, a3, a4, a5, a6, a7, a8, a9, a0⟩ := keys_ne
  unfold look; rw [if_neg (Ne.symm a3), if_neg (Ne.symm a5), if_neg (Ne.symm a6), if_pos rfl]
theorem look_ld (s0 s1 : Int × Int) : look s0 s1 ldS = some (.str (PySem.Str.ofString "x")) := by
  obtain ⟨a1, a2, a3, a4, a5, a6, a7, a8, a9, a0⟩ := keys_ne
  unfold look; rw [if_neg a7, if_neg a8, if_neg a9, if_neg a0, if_pos rfl]
theorem look_no {s0 s1 : Int × Int} {k : Str} (h1 : k ≠ ccS) (h2 : k ≠ pcS) (h3 : k ≠ cxS) (h4 : k ≠ pxS) (h5 : k ≠ ldS) : look s0 s1 k = none := by
  unfold look; rw [if_neg h1, if_neg h2, if_neg h3, if_neg h4, if_neg h5]
theorem look_ext {s0 s1 : Int × Int} {f : Str → Option PyData} (h1 : f ccS = optS s0.1) (h2 : f pcS = optS s0.2) (h3 : f cxS = optS s1.1) (h4 : f pxS = optS s1.2) (h5 : f ldS = some (.str (PySem.Str.ofString "x")))
    (h6 : ∀ k, k ≠ ccS → k ≠ pcS → k ≠ cxS → k ≠ pxS → k ≠ ldS → f k = none) (k : Str) : f k = look s0 s1 k := by
  by_cases e1 : k = ccS
  · rw [e1, h1, look_cc]
  by_cases e2 : k = pcS
  · rw [e2, h2, look_pc]
  by_cases e3 : k = cxS
  · rw [e3, h3, look_cx]
  by_cases e4 : k = pxS
  · rw [e4, h4, look_px]
  by_cases e5 : k = ldS
  · rw [e5, h5, look_ld]
  rw [h6 k e1 e2 e3 e4 e5, look_no e1 e2 e3 e4 e5]
section
variable {c : Cfg} {s0 s1 : Int × Int} {n : Int}
theorem rep_cc (h : Rep c s0 s1) (hn : 0 ≤ n) : Rep (putC c ccS (vlS n)) (n, s0.2) s1 := by
  obtain ⟨a1, a2, a3, a4, a5, a6, a7, a8, a9, a0⟩ := keys_ne
  refine ⟨nodup_put h.nd _ _, txt_put h.txt _ _, look_ext ?_ ?_ ?_ ?_ ?_ ?_⟩
  · rw [getC_put, if_pos rfl, optS_pos hn]
  · rw [getC_put, if_neg (Ne.symm a1), h.get, look_pc]
  · rw [getC_put, if_neg (Ne.symm a2), h.get, look_cx]
  · rw [getC_put, if_neg (Ne.symm a3), h.get, look_px]
  · rw [getC_put, if_neg a7, h.get, look_ld]
  · intro k e1 e2 e3 e4 e5
    rw [getC_put, if_neg e1, h.get, look_no e1 e2 e3 e4 e5]
theorem rep_pc (h : Rep c s0 s1) (hn : 0 ≤ n) : Rep (putC c pcS (vlS n)) (s0.1, n) s1 := by
  obtain ⟨a1, a2, a3, a4, a5, a6, a7, a8, a9, a0⟩ := keys_ne
  refine ⟨nodup_put h.nd _ _, txt_put h.txt _ _, look_ext ?_ ?_ ?_ ?_ ?_ ?_⟩
  · rw [getC_put, if_neg a1, h.get, look_cc]
  · rw [getC_put, if_pos rfl, optS_pos hn]
  · rw [getC_put, if_neg (Ne.symm a4), h.get, look_cx]
  · rw [getC_put, if_neg (Ne.symm a5), h.get, look_px]
  · rw [getC_put, if_neg a8, h.get, look_ld]
  · intro k e1 e2 e3 e4 e5
    rw [getC_put, if_neg e2, h.get, look_no e1 e2 e3 e4 e5]
theorem rep_cx (h : Rep c s0 s1) (hn : 0 ≤ n) : Rep (putC c cxS (vlS n)) s0 (n, s1.2) := by
  obtain ⟨a1, a2, a3, a4, a5, a6, a7, a8, a9, a0⟩ := keys_ne
  refine ⟨nodup_put h.nd _ _, txt_put h.txt _ _, look_ext ?_ ?_ ?_ ?_ ?_ ?_⟩
  · rw [getC_put, if_neg a2, h.get, look_cc]
  · rw [getC_put, if_neg a4, h.get, look_pc]
  · rw [getC_put, if_pos rfl, optS_pos hn]
  · rw [getC_put, if_neg (Ne.symm a6), h.get, look_px]
  · rw [getC_put, if_neg a9, h.get, look_ld]
  · intro k e1 e2 e3 e4 e5
    rw [getC_put, if_neg e3, h.get, look_no e1 e2 e3 e4 e5]
theorem rep_px (h : Rep c s0 s1) (hn : 0 ≤ n) : Rep (putC c pxS (vlS n)) s0 (s1.1, n) := by
  obtain ⟨a1, a2, a3, a4, a5, a6, a7, a8, a9, a0⟩ := keys_ne
  refine ⟨nodup_put h.nd _ _, txt_put h.txt _ _, look_ext ?_ ?_ ?_ ?_ ?_ ?_⟩
  · rw [getC_put, if_neg a3, h.get, look_cc]
  · rw [getC_put, if_neg a5, h.get, look_pc]
  · rw [getC_put, if_neg a6, h.get, look_cx]
  · rw [getC_put, if_pos rfl, optS_pos hn]
  · rw [getC_put, if_neg a0, h.get, look_ld]
  · intro k e1 e2 e3 e4 e5
    rw [getC_put, if_neg e4, h.get, look_no e1 e2 e3 e4 e5]
theorem rep_rem (h : Rep c s0 s1) : Rep (c.filter keepC) (s0.1, -1) (s1.1, -1) := by
  obtain ⟨b1, b2, b3, b4, b5⟩ := start_facts
  refine ⟨?_, fun p hp => h.txt p (List.mem_filter.mp hp).1, look_ext ?_ ?_ ?_ ?_ ?_ ?_⟩
  · exact List.Sublist.nodup (List.Sublist.map _ List.filter_sublist) h.nd
  · rw [getC_rem, b1, if_neg (by decide), h.get, look_cc]
  · rw [getC_rem, b2, if_pos rfl]; rfl
  · rw [getC_rem, b3, if_neg (by decide), h.get, look_cx]
  · rw [getC_rem, b4, if_pos rfl]; rfl
  · rw [getC_rem, b5, if_neg (by decide), h.get, look_ld]
  · intro k e1 e2 e3 e4 e5
    rw [getC_rem]
    split
    · rfl
    · rw [h.get, look_no e1 e2 e3 e4 e5]
theorem optS_some (v : Int) : (optS v).isSome = decide (0 ≤ v) := by
  unfold optS
  split
  · rw [decide_eq_false (by omega)]; rfl
  · rw [decide_eq_true (by omega)]; rfl
theorem rep_save0 (h : Rep c s0 s1) (hr : InR s0) (h0 : 0 ≤ n) (h2 : n ≤ 2) : Rep (saveC c ccS (vlS n)) (setW s0 n) s1 := by
  have hf := toldFix_range hr.1
  unfold saveC setW
  have e1 : (getC c ccS).getD (.str (PySem.Str.ofString "")) = vlS (toldFix s0.1) := by rw [h.get, look_cc, optS_getD]
  have e2 : hasC c (preS ++ ccS) = decide (0 ≤ s0.2) := by rw [pre_cc, ← getC_isSome, h.get, look_pc, optS_some]
  rw [e1, e2, vlS_eqv _ _ hf.1 hf.2 h0 h2, pre_cc]
  by_cases hc : s0.2 < 0 ∧ toldFix s0.1 ≠ n
  · rw [if_pos hc, if_pos ⟨decide_eq_false hc.2, decide_eq_false (by omega)⟩]
    exact rep_cc (rep_pc h hf.1) h0
  · rw [if_neg hc, if_neg (fun e => hc ⟨by have := of_decide_eq_false e.2; omega, of_decide_eq_false e.1⟩)]
    exact rep_cc h h0
theorem rep_save1 (h : Rep c s0 s1) (hr : InR s1) (h0 : 0 ≤ n) (h2 : n ≤ 2) : Rep (saveC c cxS (vlS n)) s0 (setW s1 n) := by
  have hf := toldFix_range hr.1
  unfold saveC setW
  have e1 : (getC c cxS).getD (.str (PySem.Str.ofString "")) = vlS (toldFix s1.1) := by rw [h.get, look_cx, optS_getD]
  have e2 : hasC c (preS ++ cxS) = decide (0 ≤ s1.2) := by rw [pre_cx, ← getC_isSome, h.get, look_px, optS_some]
  rw [e1, e2, vlS_eqv _ _ hf.1 hf.2 h0 h2, pre_cx]
  by_cases hc : s1.2 < 0 ∧ toldFix s1.1 ≠ n
  · rw [if_pos hc, if_pos ⟨decide_eq_false hc.2, decide_eq_false (by omega)⟩]
    exact rep_cx (rep_px h hf.1) h0
  · rw [if_neg hc, if_neg (fun e => hc ⟨by have := of_decide_eq_false e.2; omega, of_decide_eq_false e.1⟩)]
    exact rep_cx h h0
theorem rep_step (h : Rep c s0 s1) (r0 : InR s0) (r1 : InR s1) {x : Int} (hx : 0 ≤ x ∧ x ≤ 6) : Rep (stepC c x) (stepW 0 s0 x) (stepW 1 s1 x) := by
  unfold stepC stepW
  by_cases e : x = 6
  · rw [if_pos e, if_pos e, if_pos e]; exact rep_rem h
  · rw [if_neg e, if_neg e, if_neg e]
    have h3 : x / 3 = 0 ∨ x / 3 = 1 := by omega
    rcases h3 with h3 | h3
    · rw [h3, if_pos rfl, if_neg (by decide), nmS_zero]
      exact rep_save0 h r0 (by omega) (by omega)
    · rw [h3, if_neg (by decide), if_pos rfl, nmS_one]
      exact rep_save1 h r1 (by omega) (by omega)
end
theorem rep_go {run : List Int} : ∀ {c : Cfg} {s0 s1 : Int × Int}, Rep c s0 s1 → InR s0 → InR s1 → (∀ x ∈ run, 0 ≤ x ∧ x ≤ 6) → Rep (goC c run) (mW 0 s0 run) (mW 1 s1 run) := by
  induction run with
  | nil => exact fun h _ _ _ => h
  | cons x r ih =>
    intro c s0 s1 h r0 r1 hr
    exact ih (rep_step h r0 r1 (hr x (.head _))) (stepW_range r0) (stepW_range r1) fun y hy => hr y (.tail _ hy)
theorem rep_base : Rep baseC (-1, -1) (-1, -1) := by
  obtain ⟨a1, a2, a3, a4, a5, a6, a7, a8, a9, a0⟩ := keys_ne
  refine ⟨by decide +kernel, fun p hp => ⟨PySem.Str.ofString "x", by rw [List.mem_singleton.mp hp]⟩, look_ext ?_ ?_ ?_ ?_ ?_ ?_⟩
  · unfold baseC; rw [getC_cons]; exact if_neg a7
  · unfold baseC; rw [getC_cons]; exact if_neg a8
  · unfold baseC; rw [getC_cons]; exact if_neg a9
  · unfold baseC; rw [getC_cons]; exact if_neg a0
  · unfold baseC; rw [getC_cons]; exact if_pos rfl
  · intro k e1 e2 e3 e4 e5
    unfold baseC
    rw [getC_cons, if_neg (fun e => e5 e.symm)]
    rfl
theorem rep_put {v1 k1 v2 k2 : Int} (r0 : InR (v1, k1)) (r1 : InR (v2, k2)) : Rep (putCfg v1 k1 v2 k2) (v1, k1) (v2, k2) := by
  have h1 : Rep (putStep baseC 0 v1 k1) (v1, k1) (-1, -1) := by
    obtain ⟨⟨a1, a2⟩, a3, a4⟩ := r0
    dsimp only at a1 a2 a3 a4
    unfold putStep
    rw [nmS_zero, pre_cc]
    by_cases hk : 0 ≤ k1 <;> by_cases hv : 0 ≤ v1
    · rw [if_pos hk, if_pos hv]; exact rep_pc (rep_cc rep_base hv) hk
    · obtain rfl : v1 = -1 := by omega
      rw [if_pos hk, if_neg hv]; exact rep_pc rep_base hk
    · obtain rfl : k1 = -1 := by omega
      rw [if_neg hk, if_pos hv]; exact rep_cc rep_base hv
    · obtain rfl : v1 = -1 := by omega
      obtain rfl : k1 = -1 := by omega
      rw [if_neg hk, if_neg hv]; exact rep_base
  obtain ⟨⟨a1, a2⟩, a3, a4⟩ := r1
  dsimp only at a1 a2 a3 a4
  unfold putCfg
  generalize putStep baseC 0 v1 k1 = c at h1
  unfold putStep
  rw [nmS_one, pre_cx]
  by_cases hk : 0 ≤ k2 <;> by_cases hv : 0 ≤ v2
  · rw [if_pos hk, if_pos hv]; exact rep_px (rep_cx h1 hv) hk
  · obtain rfl : v2 = -1 := by omega
    rw [if_pos hk, if_neg hv]; exact rep_px h1 hk
  · obtain rfl : k2 = -1 := by omega
    rw [if_neg hk, if_pos hv]; exact rep_cx h1 hv
  · obtain rfl : v2 = -1 := by omega
    obtain rfl : k2 = -1 := by omega
    rw [if_neg hk, if_neg hv]; exact h1
/-- equal as dicts -/
theorem eqv_str (a b : Str) : PyData.eqv (.str a) (.str b) = decide (a = b) := by
  rw [← SeqAt.same_eq_eqv _ _ (by rfl), PyProof.V.same_str]
theorem sub_length {α : Type} [DecidableEq α] : ∀ {a b : List α}, a.Nodup → (∀ x ∈ a, x ∈ b) → a.length ≤ b.length
  | [], _, _, _ => Nat.zero_le _
  | x :: r, b, hn, hs => by
    have hx := hs x (.head _)
    have h := sub_length (a := r) (b := b.erase x) (List.nodup_cons.mp hn).2 fun y hy => by
      have hne : y ≠ x := fun e => (List.nodup_cons.mp hn).1 (e ▸ hy)
      exact (List.mem_erase_of_ne hne).mpr (hs y (.tail _ hy))
    rw [List.length_erase_of_mem hx] at h
    have hb : 0 < b.length := List.length_pos_of_mem hx
    rw [List.length_cons]
    omega
theorem sub_back {α : Type} [DecidableEq α] {a b : List α} (ha : a.Nodup) (hs : ∀ x ∈ a, x ∈ b) (hl : b.length ≤ a.length) : ∀ x ∈ b, x ∈ a := by
  intro x hx
  by_cases h : x ∈ a
  · exact h
  · have := sub_length (a := x :: a) (b := b) (List.nodup_cons.mpr ⟨h, ha⟩) fun y hy => (List.mem_cons.mp hy).elim (fun e => e ▸ hx) (hs y)
    rw [List.length_cons] at this
    omega
theorem getC_mem_iff (c : Cfg) (k : Str) : k ∈ c.map (·.1) ↔ (getC c k).isSome = true := by
  rw [getC_isSome]
  unfold hasC
  rw [List.any_eq_true]
  constructor
  · intro h
    obtain ⟨p, hp, e⟩ := List.mem_map.mp h
    exact ⟨p, hp, decide_eq_true e⟩
  · rintro ⟨p, hp, e⟩
    exact List.mem_map.mpr ⟨p, hp, of_decide_eq_true e⟩
theorem getC_of_mem : ∀ {c : Cfg} {p : Str × PyData}, (c.map (·.1)).Nodup → p ∈ c → getC c p.1 = some p.2
  | q :: r, p, hn, hp => by
    rw [List.map_cons, List.nodup_cons] at hn
    rw [getC_cons]
    rcases List.mem_cons.mp hp with rfl | hp
    · rw [if_pos rfl]
    · have : q.1 ≠ p.1 := fun e => hn.1 (e ▸ List.mem_map_of_mem (f := (·.1)) hp)
      rw [if_neg this]
      exact getC_of_mem hn.2 hp
theorem sameR_iff (cb : Cfg) (hb : ∀ p ∈ cb, ∃ t, p.2 = PyData.str t) : ∀ ca : Cfg, (∀ p ∈ ca, ∃ t, p.2 = PyData.str t) → (sameR cb ca = true ↔ ∀ p ∈ ca, getC cb p.1 = some p.2)
  | [], _ => by simp [sameR]
  | p :: r, h => by
    have ih := sameR_iff cb hb r fun q hq => h q (.tail _ hq)
    unfold sameR
    obtain ⟨t, ht⟩ := h p (.head _)
    cases e : getC cb p.1 with
    | none =>
      simp only [Bool.false_eq_true, false_iff]
      intro hall
      rw [hall p (.head _)] at e
      cases e
    | some u =>
      have hu : ∃ t, u = PyData.str t := by
        unfold getC at e
        obtain ⟨q, hq, rfl⟩ := Option.map_eq_some_iff.mp e
        exact hb q (List.mem_of_find?_eq_some hq)
      obtain ⟨t2, rfl⟩ := hu
      rw [ht, Bool.and_eq_true, ih, eqv_str, decide_eq_true_eq]
      constructor
      · rintro ⟨e1, h2⟩ q hq
        rcases List.mem_cons.mp hq with rfl | hq
        · rw [e, ht, e1]
        · exact h2 q hq
      · intro h2
        refine ⟨?_, fun q hq => h2 q (.tail _ hq)⟩
        have := h2 p (.head _)
        rw [e, ht] at this
        injection this with this
        injection this with this
        exact this.symm
theorem rep_same_true {ca cb : Cfg} {s0 s1 : Int × Int} (ha : Rep ca s0 s1) (hb : Rep cb s0 s1) : sameC ca cb = true := by
  have hmem : ∀ {c c' : Cfg}, Rep c s0 s1 → Rep c' s0 s1 → ∀ x ∈ c.map (·.1), x ∈ c'.map (·.1) := by
    intro c c' h h' x hx
    rw [getC_mem_iff, h.get] at hx
    rw [getC_mem_iff, h'.get]
    exact hx
  have hl : ca.length = cb.length := by
    have h1 := sub_length ha.nd (hmem ha hb)
    have h2 := sub_length hb.nd (hmem hb ha)
    rw [List.length_map, List.length_map] at h1 h2
    omega
  unfold sameC
  rw [Bool.and_eq_true, beq_iff_eq, sameR_iff cb hb.txt ca ha.txt]
  exact ⟨hl, fun p hp => by rw [hb.get, ← ha.get, getC_of_mem ha.nd hp]⟩
theorem rep_same_false {ca cb : Cfg} {s0 s1 t0 t1 : Int × Int} (ha : Rep ca s0 s1) (hb : Rep cb t0 t1) (h : sameC ca cb = true) : ∀ k, look s0 s1 k = look t0 t1 k := by
  unfold sameC at h
  rw [Bool.and_eq_true, beq_iff_eq, sameR_iff cb hb.txt ca ha.txt] at h
  obtain ⟨hl, hall⟩ := h
  have hsub : ∀ x ∈ ca.map (·.1), x ∈ cb.map (·.1) := by
    intro x hx
    obtain ⟨p, hp, rfl⟩ := List.mem_map.mp hx
    rw [getC_mem_iff, hall p hp]
    rfl
  have hback := sub_back ha.nd hsub (by rw [List.length_map, List.length_map, hl]; exact Nat.le_refl _)
  intro k
  rw [← ha.get, ← hb.get]
  by_cases hk : k ∈ ca.map (·.1)
  · obtain ⟨p, hp, rfl⟩ := List.mem_map.mp hk
    rw [hall p hp, getC_of_mem ha.nd hp]
  · have hk2 : ¬ k ∈ cb.map (·.1) := fun h => hk (hback k h)
    rw [getC_mem_iff, Bool.not_eq_true, Option.isSome_eq_false_iff, Option.isNone_iff_eq_none] at hk hk2
    rw [hk, hk2]
theorem optS_inj {a b : Int} (ha : -1 ≤ a ∧ a ≤ 2) (hb : -1 ≤ b ∧ b ≤ 2) (h : optS a = optS b) : a = b := by
  have e1 := congrArg Option.isSome h
  rw [optS_some, optS_some, decide_eq_decide] at e1
  by_cases h0 : 0 ≤ a
  · have h1 := e1.mp h0
    rw [optS_pos h0, optS_pos h1] at h
    injection h with h
    have e2 := vlS_eqv a b h0 ha.2 h1 hb.2
    rw [h] at e2
    have e3 := vlS_eqv b b h1 hb.2 h1 hb.2
    rw [e3, decide_eq_decide] at e2
    exact e2.mp rfl
  · have h1 : ¬ 0 ≤ b := fun h => h0 (e1.mpr h)
    omega
theorem rep_same {ca cb : Cfg} {s0 s1 t0 t1 : Int × Int} (ha : Rep ca s0 s1) (hb : Rep cb t0 t1) (r0 : InR s0) (r1 : InR s1) (q0 : InR t0) (q1 : InR t1) : sameC ca cb = decide (s0 = t0 ∧ s1 = t1) := by
  by_cases h : s0 = t0 ∧ s1 = t1
  · obtain ⟨rfl, rfl⟩ := h
    rw [rep_same_true ha hb]
    simp
  · rw [decide_eq_false h]
    cases e : sameC ca cb with
    | false => rfl
    | true =>
      have hk := rep_same_false ha hb e
      exfalso
      refine h ⟨Prod.ext ?_ ?_, Prod.ext ?_ ?_⟩
      · have := hk ccS; rw [look_cc, look_cc] at this; exact optS_inj r0.1 q0.1 this
      · have := hk pcS; rw [look_pc, look_pc] at this; exact optS_inj r0.2 q0.2 this
      · have := hk cxS; rw [look_cx, look_cx] at this; exact optS_inj r1.1 q1.1 this
      · have := hk pxS; rw [look_px, look_px] at this; exact optS_inj r1.2 q1.2 this
def lastD (y : List Int) : Int := y.getD (y.length - 1) 0
def cls (y : List Int) : Option (Int × Bool) := if y = [] then none else some (lastD y, decide (y = List.replicate y.length (lastD y)))
def clsS (q : Option (Int × Bool)) (n : Int) : Option (Int × Bool) := match q with
  | none => some (n, true)
  | some (l, c) => some (n, c && decide (l = n))
def toldT (off : Bool) (v k : Int) (x : List Int) (q : Option (Int × Bool)) : Int × Int := match q with
  | none => (toldStood v x, if off = true then -1 else k)
  | some (l, c) => (l, if (if off = true then -1 else k) < 0 ∧ ¬ (c = true ∧ l = toldFix (toldStood v x)) then toldFix (toldStood v x) else if off = true then -1 else k)
def rowV (x : List Int) (q : Option (Int × Bool)) : List Int := match q with
  | none => []
  | some (l, c) => if x = [] then (if c = true then [l] else [(l + 1).fmod 3, l]) else if x = [l] then (if c = true then [] else [(l + 1).fmod 3, l]) else [l]
theorem lastD_snoc (y : List Int) (n : Int) : lastD (y ++ [n]) = n := by
  unfold lastD
  simp
theorem repl_snoc {y : List Int} {n l : Int} (hy : y ≠ []) : y ++ [n] = List.replicate (y ++ [n]).length l ↔ y = List.replicate y.length l ∧ n = l := by
  rw [List.length_append, List.length_singleton, List.replicate_succ']
  constructor
  · intro h
    have h1 := List.append_inj' h rfl
    exact ⟨h1.1, by have := h1.2; injection this⟩
  · rintro ⟨h1, h2⟩
    rw [← h1, h2]
theorem repl_last {y : List Int} {l : Int} (hy : y ≠ []) (h : y = List.replicate y.length l) : lastD y = l := by
  have hl : y.length - 1 < y.length := by have := List.length_pos_iff.mpr hy; omega
  unfold lastD
  rw [List.getD_eq_getElem?_getD, List.getElem?_eq_getElem hl]
  have h3 : y[y.length - 1] ∈ List.replicate y.length l := by rw [← h]; exact List.getElem_mem hl
  exact List.eq_of_mem_replicate h3
theorem cls_snoc (y : List Int) (n : Int) : cls (y ++ [n]) = clsS (cls y) n := by
  unfold cls
  rw [if_neg (by simp), lastD_snoc]
  by_cases hy : y = []
  · rw [hy, if_pos rfl]
    simp [clsS]
  · rw [if_neg hy]
    unfold clsS
    dsimp only
    congr 2
    rw [Bool.eq_iff_iff, Bool.and_eq_true, decide_eq_true_eq, decide_eq_true_eq, decide_eq_true_eq, repl_snoc hy]
    constructor
    · rintro ⟨h1, _⟩
      have h2 := repl_last hy h1
      exact ⟨by rw [h2]; exact h1, h2⟩
    · rintro ⟨h1, h2⟩
      exact ⟨by rw [← h2]; exact h1, rfl⟩
theorem flat_repl (n : Nat) (a : Int) : (List.replicate n [a]).flatten = List.replicate n a := by
  induction n with
  | zero => rfl
  | succ n ih => rw [List.replicate_succ, List.replicate_succ, List.flatten_cons, ih]; rfl
theorem toldRow_T (off : Bool) (v k : Int) (x y : List Int) : toldRow off v k x y = toldT off v k x (cls y) := by
  unfold toldRow cls
  by_cases hy : y = []
  · rw [if_pos hy, if_pos hy]; rfl
  · rw [if_neg hy, if_neg hy]
    unfold toldT
    dsimp only
    have e : (y = (List.replicate y.length [toldFix (toldStood v x)]).flatten) ↔ (decide (y = List.replicate y.length (lastD y)) = true ∧ lastD y = toldFix (toldStood v x)) := by
      rw [flat_repl, decide_eq_true_eq]
      constructor
      · intro h
        have h2 := repl_last hy h
        exact ⟨by rw [h2]; exact h, h2⟩
      · rintro ⟨h1, h2⟩
        rw [← h2]; exact h1
    simp only [e]
    rfl
theorem lastOf_ne {r : List Int} (h : r ≠ []) : lastOf r = [lastD r] := by
  have hl : r.length - 1 < r.length := by have := List.length_pos_iff.mpr h; omega
  unfold lastOf lastD
  rw [List.drop_eq_getElem_cons hl, List.getD_eq_getElem?_getD, List.getElem?_eq_getElem hl, List.drop_eq_nil_of_le (by omega)]
  rfl
theorem lastD_append {x y : List Int} (hy : y ≠ []) : lastD (x ++ y) = lastD y := by
  have hl := List.length_pos_iff.mpr hy
  unfold lastD
  rw [List.getD_eq_getElem?_getD, List.getD_eq_getElem?_getD, List.length_append, List.getElem?_append_right (by omega)]
  congr 2
  omega
theorem shortRow_V (w : Int) {x y : List Int} (hx : x = [] ∨ ∃ e, x = [e]) : shortRow w x y = (rowV x (cls y)).map fun v => 3 * w + v := by
  by_cases hy : y = []
  · subst hy
    rcases hx with rfl | ⟨e, rfl⟩
    · rfl
    · unfold shortRow
      rw [if_neg (by simp [lastOf]), if_neg (by simp)]
      rfl
  · have hq : cls y = some (lastD y, decide (y = List.replicate y.length (lastD y))) := by unfold cls; rw [if_neg hy]
    have hne : x ++ y ≠ [] := by simp [hy]
    have hl0 := List.length_pos_iff.mpr hy
    rw [hq]
    unfold shortRow rowV
    rw [lastOf_ne hne, flat_repl, lastD_append hy]
    dsimp only
    rcases hx with rfl | ⟨e, rfl⟩
    · simp only [List.nil_append, List.length_nil, Nat.zero_add, true_or, if_true, and_true, hl0]
      by_cases hc : y = List.replicate y.length (lastD y)
      · rw [if_neg (fun h => h hc), if_pos (decide_eq_true hc)]; rfl
      · rw [if_pos hc, if_neg (by simpa using hc)]; rfl
    · have hne : ¬ [e] = ([] : List Int) := by simp
      have hce : ([e] ++ y = List.replicate ([e].length + y.length) (lastD y)) ↔ (e = lastD y ∧ y = List.replicate y.length (lastD y)) := by
        rw [List.length_singleton, Nat.add_comm, List.replicate_succ]
        simp
      simp only [hne, hce, false_or, and_false, if_false]
      by_cases h1 : e = lastD y
      · have h1' : [e] = [lastD y] := by rw [h1]
        by_cases hc : y = List.replicate y.length (lastD y)
        · rw [if_neg (fun h => h ⟨h1, hc⟩), if_pos h1', if_pos (decide_eq_true hc)]; rfl
        · have hc2 : ¬ decide (y = List.replicate y.length (lastD y)) = true := by simpa using hc
          rw [if_pos (fun h => hc h.2), if_pos h1', if_pos h1', if_neg hc2]; rfl
      · have h1' : ¬ [e] = [lastD y] := by simpa using h1
        rw [if_neg h1', if_pos (fun h => h1 h.1), if_neg h1']; rfl
theorem toldT_step {off : Bool} {v k : Int} {x : List Int} {q : Option (Int × Bool)} {n : Int} (hf : 0 ≤ toldFix (toldStood v x)) (hq : ∀ l c, q = some (l, c) → 0 ≤ l) : setW (toldT off v k x q) n = toldT off v k x (clsS q n) := by
  generalize hff : toldFix (toldStood v x) = f at hf
  unfold toldT clsS setW
  rw [hff]
  generalize (if off = true then (-1 : Int) else k) = K
  rcases q with _ | ⟨l, c⟩
  · dsimp only
    rw [hff]
    congr 1
    by_cases h : n = f
    · simp [h]
    · have : ¬ f = n := fun e => h e.symm
      simp [h, this]
  · have hl := hq l c rfl
    have hfl : toldFix l = l := by unfold toldFix; rw [if_neg (by omega)]
    dsimp only
    rw [hfl]
    congr 1
    by_cases hK : K < 0
    · cases c with
      | false =>
        have : ¬ f < 0 := by omega
        simp [hK, this]
      | true =>
        by_cases h1 : l = f
        · subst h1
          by_cases h2 : l = n
          · subst h2; simp [hK]
          · simp [hK, h2]
        · have h3 : ¬ f < 0 := by omega
          by_cases h2 : l = n
          · subst h2; simp [hK, h1, h3]
          · simp [hK, h1, h3, h2]
    · simp [hK]
theorem snocInd {P : List Int → Prop} (h0 : P []) (h1 : ∀ r x, P r → P (r ++ [x])) : ∀ l, P l := by
  intro l
  have h : ∀ l : List Int, P l.reverse := by
    intro l
    induction l with
    | nil => exact h0
    | cons x r ih => rw [List.reverse_cons]; exact h1 _ _ ih
  have := h l.reverse
  rwa [List.reverse_reverse] at this
theorem pick_snoc (r : List Int) (x w : Int) : pickOf (r ++ [x]) w = pickOf r w ++ if x.fdiv 3 = w then [x.fmod 3] else [] := by
  unfold pickOf
  rw [List.filter_append, List.map_append]
  congr 1
  by_cases h : x.fdiv 3 = w
  · simp [h]
  · simp [h]
theorem stood_snoc (v : Int) (l : List Int) (n : Int) : toldStood v (l ++ [n]) = n := by
  unfold toldStood
  rw [List.foldl_append]
  rfl
theorem stood_last (v : Int) : ∀ l, toldStood v (lastOf l) = toldStood v l := by
  refine snocInd ?_ ?_
  · rfl
  · intro r x _
    rw [lastOf_ne (by simp), lastD_snoc, stood_snoc]
    rfl
theorem divmod (x : Int) : x.fdiv 3 = x / 3 ∧ x.fmod 3 = x % 3 := ⟨Int.fdiv_eq_ediv_of_nonneg _ (by decide), Int.fmod_eq_emod_of_nonneg _ (by decide)⟩
theorem mW_snoc (w : Int) (s : Int × Int) (r : List Int) (x : Int) : mW w s (r ++ [x]) = stepW w (mW w s r) x := by
  rw [mW_append]; rfl
theorem mW_first {w : Int} (hw : w = 0 ∨ w = 1) (s : Int × Int) : ∀ r, (∀ x ∈ r, 0 ≤ x ∧ x ≤ 6) → (mW w s r).1 = toldStood s.1 (pickOf r w) := by
  refine snocInd ?_ ?_
  · intro _; rfl
  · intro r x ih hr
    have ih := ih fun y hy => hr y (List.mem_append_left _ hy)
    have hx := hr x (List.mem_append_right _ (.head _))
    rw [mW_snoc, pick_snoc, (divmod x).1, (divmod x).2]
    unfold stepW
    by_cases h6 : x = 6
    · rw [if_pos h6, if_neg (by omega), List.append_nil]; exact ih
    · rw [if_neg h6]
      by_cases h3 : x / 3 = w
      · rw [if_pos h3, if_pos h3, stood_snoc]; rfl
      · rw [if_neg h3, if_neg h3, List.append_nil]; exact ih
theorem cutI_le (run : List Int) : ∀ m, cutI run m + 1 ≤ m
  | 0 => by unfold cutI; omega
  | m + 1 => by
    unfold cutI
    split
    · omega
    · have := cutI_le run m
      omega
theorem cutI_app (r : List Int) (x : Int) : ∀ m, m ≤ r.length → cutI (r ++ [x]) m = cutI r m
  | 0, _ => rfl
  | m + 1, h => by
    unfold cutI
    rw [cutI_app r x m (by omega)]
    have e : (r ++ [x]).getD m 0 = r.getD m 0 := by
      rw [List.getD_eq_getElem?_getD, List.getD_eq_getElem?_getD, List.getElem?_append_left (by omega)]
    rw [e]
theorem cutI_snoc (r : List Int) (x : Int) : cutI (r ++ [x]) (r ++ [x]).length = if x = 6 then (r.length : Int) else cutI r r.length := by
  rw [List.length_append, List.length_singleton]
  show (if (r ++ [x]).getD r.length 0 = 6 then ((r.length : Nat) : Int) else cutI (r ++ [x]) r.length) = _
  have e : (r ++ [x]).getD r.length 0 = x := by
    rw [List.getD_eq_getElem?_getD, List.getElem?_append_right (Nat.le_refl _), Nat.sub_self]; rfl
  rw [e, cutI_app r x _ (Nat.le_refl _)]
def offOf (run : List Int) : Bool := decide (0 ≤ cutI run run.length)
def InQ (q : Option (Int × Bool)) : Prop := ∀ l c, q = some (l, c) → 0 ≤ l ∧ l ≤ 2
theorem cls_range {y : List Int} (h : ∀ a ∈ y, 0 ≤ a ∧ a ≤ 2) : InQ (cls y) := by
  intro l c e
  unfold cls at e
  split at e
  · cases e
  · rename_i hy
    injection e with e
    injection e with e1 e2
    have hl : y.length - 1 < y.length := by have := List.length_pos_iff.mpr hy; omega
    unfold lastD at e1
    rw [List.getD_eq_getElem?_getD, List.getElem?_eq_getElem hl] at e1
    rw [← e1]
    exact h _ (List.getElem_mem hl)
theorem stood_range {v : Int} (hv : -1 ≤ v ∧ v ≤ 2) : ∀ x : List Int, (∀ a ∈ x, 0 ≤ a ∧ a ≤ 2) → -1 ≤ toldStood v x ∧ toldStood v x ≤ 2 := by
  refine snocInd ?_ ?_
  · intro _; exact hv
  · intro r n _ h
    rw [stood_snoc]
    have := h n (List.mem_append_right _ (.head _))
    omega
theorem mW_told {w : Int} (hw : w = 0 ∨ w = 1) {v k : Int} (hv : -1 ≤ v ∧ v ≤ 2) : ∀ run, (∀ x ∈ run, 0 ≤ x ∧ x ≤ 6) → mW w (v, k) run = toldT (offOf run) v k (earlyOf run w) (cls (lateOf run w)) := by
  refine snocInd ?_ ?_
  · intro _; rfl
  · intro r x ih hr
    have hr' : ∀ y ∈ r, 0 ≤ y ∧ y ≤ 6 := fun y hy => hr y (List.mem_append_left _ hy)
    have ih := ih hr'
    have hx := hr x (List.mem_append_right _ (.head _))
    have hcut := cutI_snoc r x
    have hle := cutI_le r r.length
    have hge := cutI_ge r r.length
    rw [mW_snoc]
    unfold offOf earlyOf lateOf
    rw [hcut]
    by_cases h6 : x = 6
    · have e1 : ((r.length : Int) + 1).toNat = (r ++ [x]).length := by rw [List.length_append, List.length_singleton]; omega
      rw [if_pos h6, e1, List.take_length, List.drop_length, pick_snoc, (divmod x).1, if_neg (by omega), List.append_nil, decide_eq_true (by omega)]
      unfold stepW
      rw [if_pos h6, mW_first hw _ r hr']
      show _ = (toldStood v (lastOf (pickOf r w)), (if true = true then (-1 : Int) else k))
      rw [stood_last]
      rfl
    · rw [if_neg h6, List.take_append_of_le_length (by omega), List.drop_append_of_le_length (by omega), pick_snoc, (divmod x).1, (divmod x).2]
      unfold stepW
      rw [if_neg h6]
      by_cases h3 : x / 3 = w
      · rw [if_pos h3, if_pos h3, cls_snoc]
        have hs := stood_range hv (lastOf (pickOf (r.take (cutI r r.length + 1).toNat) w)) fun a ha => pickOf_range _ _ a (lastOf_mem ha)
        rw [ih]
        exact toldT_step (toldFix_range hs).1 fun l c e => (cls_range (pickOf_range (r.drop (cutI r r.length + 1).toNat) w) l c e).1
      · rw [if_neg h3, if_neg h3, List.append_nil]
        exact ih
/-- the short run -/
def shortL (run : List Int) : List Int := shortOf (offOf run) (earlyOf run 0) (earlyOf run 1) (lateOf run 0) (lateOf run 1)
theorem mW_own {w : Int} (hw : w = 0 ∨ w = 1) : ∀ (l : List Int) (s : Int × Int), (∀ a ∈ l, 0 ≤ a ∧ a ≤ 2) → mW w s (l.map fun v => 3 * w + v) = l.foldl setW s
  | [], _, _ => rfl
  | a :: r, s, h => by
    have ha := h a (.head _)
    show mW w (stepW w s (3 * w + a)) (r.map fun v => 3 * w + v) = r.foldl setW (setW s a)
    rw [mW_own hw r _ fun b hb => h b (.tail _ hb)]
    congr 1
    unfold stepW
    rw [if_neg (by omega), if_pos (by omega)]
    congr 1
    omega
theorem mW_other {w u : Int} (hw : w = 0 ∨ w = 1) (hu : u = 0 ∨ u = 1) (hne : w ≠ u) : ∀ (l : List Int) (s : Int × Int), (∀ a ∈ l, 0 ≤ a ∧ a ≤ 2) → mW w s (l.map fun v => 3 * u + v) = s
  | [], _, _ => rfl
  | a :: r, s, h => by
    have ha := h a (.head _)
    show mW w (stepW w s (3 * u + a)) (r.map fun v => 3 * u + v) = s
    have e : stepW w s (3 * u + a) = s := by
      unfold stepW
      rw [if_neg (by omega), if_neg (by omega)]
    rw [e]
    exact mW_other hw hu hne r s fun b hb => h b (.tail _ hb)
def qs : List (Option (Int × Bool)) := [none, some (0, true), some (0, false), some (1, true), some (1, false), some (2, true), some (2, false)]
def classes : List (Bool × List Int × Option (Int × Bool)) := (qs.map fun q => (false, [], q)) ++ [[], [0], [1], [2]].flatMap fun x => qs.map fun q => (true, x, q)
def grid : List (Int × Int) := [-1, 0, 1, 2].flatMap fun v => [-1, 0, 1, 2].map fun k => (v, k)
def rsOff (off : Bool) (s : Int × Int) : Int × Int := if off = true then (s.1, -1) else s
theorem fin_short : ∀ c ∈ classes, ∀ s ∈ grid, (rowV c.2.1 c.2.2).foldl setW (rsOff c.1 (c.2.1.foldl setW s)) = toldT c.1 s.1 s.2 c.2.1 c.2.2 := by decide +kernel
theorem fin_canon : ∀ a ∈ classes, ∀ b ∈ classes, (∀ s ∈ grid, toldT a.1 s.1 s.2 a.2.1 a.2.2 = toldT b.1 s.1 s.2 b.2.1 b.2.2) → a.1 = b.1 ∧ a.2.1 = b.2.1 ∧ rowV a.2.1 a.2.2 = rowV b.2.1 b.2.2 := by decide +kernel
theorem fin_row : ∀ c ∈ classes, ∀ a ∈ rowV c.2.1 c.2.2, 0 ≤ a ∧ a ≤ 2 := by decide +kernel
theorem mem_qs {q : Option (Int × Bool)} (h : InQ q) : q ∈ qs := by
  rcases q with _ | ⟨l, c⟩
  · exact .head _
  · have hl := h l c rfl
    have h3 : l = 0 ∨ l = 1 ∨ l = 2 := by omega
    rcases h3 with rfl | rfl | rfl <;> cases c <;> decide
theorem early_one (run : List Int) (w : Int) : earlyOf run w = [] ∨ ∃ e, earlyOf run w = [e] := by
  have h := earlyOf_len1 run w
  rcases hh : earlyOf run w with _ | ⟨a, _ | ⟨b, r⟩⟩
  · exact .inl rfl
  · exact .inr ⟨a, rfl⟩
  · rw [hh] at h; simp at h
theorem early_off {run : List Int} (w : Int) (h : offOf run = false) : earlyOf run w = [] := by
  have hge := cutI_ge run run.length
  have h0 := of_decide_eq_false h
  have e : (cutI run run.length + 1).toNat = 0 := by omega
  unfold earlyOf
  rw [e]
  rfl
theorem mem_classes (run : List Int) (w : Int) : (offOf run, earlyOf run w, cls (lateOf run w)) ∈ classes := by
  have hq := mem_qs (cls_range (lateOf_range (run := run) w))
  unfold classes
  cases ho : offOf run with
  | false =>
    rw [early_off w ho]
    exact List.mem_append_left _ (List.mem_map.mpr ⟨_, hq, rfl⟩)
  | true =>
    refine List.mem_append_right _ (List.mem_flatMap.mpr ⟨earlyOf run w, ?_, List.mem_map.mpr ⟨_, hq, rfl⟩⟩)
    rcases early_one run w with e | ⟨a, e⟩
    · rw [e]; exact .head _
    · have ha := earlyOf_range (run := run) w a (by rw [e]; exact .head _)
      have h3 : a = 0 ∨ a = 1 ∨ a = 2 := by omega
      rw [e]
      rcases h3 with rfl | rfl | rfl <;> decide
theorem mem_grid {v k : Int} (hv : -1 ≤ v ∧ v ≤ 2) (hk : -1 ≤ k ∧ k ≤ 2) : (v, k) ∈ grid := by
  have h1 : v = -1 ∨ v = 0 ∨ v = 1 ∨ v = 2 := by omega
  have h2 : k = -1 ∨ k = 0 ∨ k = 1 ∨ k = 2 := by omega
  rcases h1 with rfl | rfl | rfl | rfl <;> rcases h2 with rfl | rfl | rfl | rfl <;> decide
theorem shortL_eq (run : List Int) : shortL run = (((((earlyOf run 0).map fun v => 3 * 0 + v) ++ ((earlyOf run 1).map fun v => 3 * 1 + v)) ++ (if offOf run = true then [6] else [])) ++ (rowV (earlyOf run 0) (cls (lateOf run 0))).map fun v => 3 * 0 + v) ++ (rowV (earlyOf run 1) (cls (lateOf run 1))).map fun v => 3 * 1 + v := by
  unfold shortL shortOf bodyOf
  rw [shortRow_V 0 (early_one run 0), shortRow_V 1 (early_one run 1)]
  cases offOf run with
  | true => rfl
  | false => simp
theorem mW_six (w : Int) (off : Bool) (s : Int × Int) : mW w s (if off = true then [6] else []) = rsOff off s := by
  unfold rsOff
  cases off with
  | true => rfl
  | false => rfl
theorem row_range (run : List Int) (w : Int) : ∀ a ∈ rowV (earlyOf run w) (cls (lateOf run w)), 0 ≤ a ∧ a ≤ 2 := fin_row _ (mem_classes run w)
theorem mW_short {w : Int} (hw : w = 0 ∨ w = 1) {v k : Int} (hv : -1 ≤ v ∧ v ≤ 2) (hk : -1 ≤ k ∧ k ≤ 2) {run : List Int} (hr : ∀ x ∈ run, 0 ≤ x ∧ x ≤ 6) : mW w (v, k) (shortL run) = mW w (v, k) run := by
  have hf := fin_short _ (mem_classes run w) _ (mem_grid hv hk)
  dsimp only at hf
  rw [mW_told hw hv run hr, ← hf, shortL_eq, mW_append, mW_append, mW_append, mW_append, mW_six]
  rcases hw with rfl | rfl
  · rw [mW_own (.inl rfl) _ _ (earlyOf_range 0), mW_other (.inl rfl) (.inr rfl) (by decide) _ _ (earlyOf_range 1), mW_own (.inl rfl) _ _ (row_range run 0), mW_other (.inl rfl) (.inr rfl) (by decide) _ _ (row_range run 1)]
  · rw [mW_other (.inr rfl) (.inl rfl) (by decide) _ _ (earlyOf_range 0), mW_own (.inr rfl) _ _ (earlyOf_range 1), mW_other (.inr rfl) (.inl rfl) (by decide) _ _ (row_range run 0), mW_own (.inr rfl) _ _ (row_range run 1)]
theorem shortL_range (run : List Int) : ∀ x ∈ shortL run, 0 ≤ x ∧ x ≤ 6 := by
  intro x hx
  rw [shortL_eq] at hx
  have h0 := earlyOf_range (run := run) 0
  have h1 := earlyOf_range (run := run) 1
  have r0 := row_range run 0
  have r1 := row_range run 1
  rcases List.mem_append.mp hx with hx | hx
  · rcases List.mem_append.mp hx with hx | hx
    · rcases List.mem_append.mp hx with hx | hx
      · rcases List.mem_append.mp hx with hx | hx
        · obtain ⟨a, ha, rfl⟩ := List.mem_map.mp hx; have := h0 a ha; omega
        · obtain ⟨a, ha, rfl⟩ := List.mem_map.mp hx; have := h1 a ha; omega
      · split at hx
        · rw [List.mem_singleton.mp hx]; decide
        · cases hx
    · obtain ⟨a, ha, rfl⟩ := List.mem_map.mp hx; have := r0 a ha; omega
  · obtain ⟨a, ha, rfl⟩ := List.mem_map.mp hx; have := r1 a ha; omega
theorem shortL_len (run : List Int) : (shortL run).length ≤ 7 := by
  have a0 := earlyOf_len1 run 0
  have a1 := earlyOf_len1 run 1
  have b0 := shortRow_len 0 (earlyOf run 0) (lateOf run 0)
  have b1 := shortRow_len 1 (earlyOf run 1) (lateOf run 1)
  unfold shortL shortOf bodyOf
  cases offOf run with
  | true => simp only [if_true, List.length_append, List.length_map, List.length_cons, List.length_nil]; omega
  | false => simp only [Bool.false_eq_true, if_false, List.length_append, List.length_map]; omega
section
variable {v k : Int}
theorem inR_of (hv : -1 ≤ v ∧ v ≤ 2) (hk : -1 ≤ k ∧ k ≤ 2) : InR (v, k) := ⟨hv, hk⟩
theorem go_same (hv : -1 ≤ v ∧ v ≤ 2) (hk : -1 ≤ k ∧ k ≤ 2) {run : List Int} (hr : ∀ x ∈ run, 0 ≤ x ∧ x ≤ 6) : sameC (goC (putCfg v k v k) run) (goC (putCfg v k v k) (shortL run)) = true := by
  have h0 := inR_of hv hk
  have p := rep_put h0 h0
  have a := rep_go p h0 h0 hr
  have b := rep_go p h0 h0 (shortL_range run)
  rw [mW_short (.inl rfl) hv hk hr, mW_short (.inr rfl) hv hk hr] at b
  exact rep_same_true a b
theorem told_same (hv : -1 ≤ v ∧ v ≤ 2) (hk : -1 ≤ k ∧ k ≤ 2) {run : List Int} (hr : ∀ x ∈ run, 0 ≤ x ∧ x ≤ 6) :
    sameC (goC (putCfg v k v k) run) (putCfg (toldRow (offOf run) v k (earlyOf run 0) (lateOf run 0)).1 (toldRow (offOf run) v k (earlyOf run 0) (lateOf run 0)).2 (toldRow (offOf run) v k (earlyOf run 1) (lateOf run 1)).1 (toldRow (offOf run) v k (earlyOf run 1) (lateOf run 1)).2) = true := by
  have h0 := inR_of hv hk
  have a := rep_go (rep_put h0 h0) h0 h0 hr
  rw [toldRow_T, toldRow_T, ← mW_told (.inl rfl) hv run hr, ← mW_told (.inr rfl) hv run hr]
  exact rep_same_true a (rep_put (mW_range h0) (mW_range h0))
def agree (one two : List Int) (v k : Int) : Bool := decide (mW 0 (v, k) one = mW 0 (v, k) two ∧ mW 1 (v, k) one = mW 1 (v, k) two)
theorem ends_same (hv : -1 ≤ v ∧ v ≤ 2) (hk : -1 ≤ k ∧ k ≤ 2) {one two : List Int} (h1 : ∀ x ∈ one, 0 ≤ x ∧ x ≤ 6) (h2 : ∀ x ∈ two, 0 ≤ x ∧ x ≤ 6) : sameC (goC (putCfg v k v k) one) (goC (putCfg v k v k) two) = agree one two v k := by
  have h0 := inR_of hv hk
  have p := rep_put h0 h0
  have a := rep_go p h0 h0 h1
  have b := rep_go p h0 h0 h2
  exact rep_same a b (mW_range h0) (mW_range h0) (mW_range h0) (mW_range h0)
end
def okTo (one two : List Int) (n : Nat) : Bool := (List.range n).all fun t => agree one two (((t / 4 : Nat) : Int) - 1) (((t % 4 : Nat) : Int) - 1)
theorem okTo_zero (one two : List Int) : okTo one two 0 = true := rfl
theorem okTo_step (one two : List Int) (i j : Nat) (hj : j < 4) {v k : Int} (hv : v = -1 + (i : Int)) (hk : k = -1 + (j : Int)) : okTo one two (4 * i + j + 1) = (okTo one two (4 * i + j) && agree one two v k) := by
  unfold okTo
  rw [List.range_succ, List.all_append]
  have e1 : (4 * i + j) / 4 = i := by omega
  have e2 : (4 * i + j) % 4 = j := by omega
  rw [List.all_cons, List.all_nil, Bool.and_true, e1, e2, hv, hk]
  congr 2 <;> omega
theorem okTo_all {one two : List Int} (h1 : ∀ x ∈ one, 0 ≤ x ∧ x ≤ 6) (h2 : ∀ x ∈ two, 0 ≤ x ∧ x ≤ 6) : okTo one two 16 = decide (shortL one = shortL two) := by
  rw [Bool.eq_iff_iff, decide_eq_true_eq]
  constructor
  · intro h
    have hall : ∀ s ∈ grid, mW 0 s one = mW 0 s two ∧ mW 1 s one = mW 1 s two := by
      have hg : ∀ s ∈ grid, ∃ t, t ∈ List.range 16 ∧ s = (((t / 4 : Nat) : Int) - 1, ((t % 4 : Nat) : Int) - 1) := by decide
      intro s hs
      obtain ⟨t, ht, rfl⟩ := hg s hs
      have := List.all_eq_true.mp h t ht
      exact of_decide_eq_true this
    have hin : ∀ s ∈ grid, -1 ≤ s.1 ∧ s.1 ≤ 2 := by decide
    have c0 := fin_canon _ (mem_classes one 0) _ (mem_classes two 0) fun s hs => by
      have := (hall s hs).1
      rw [← Prod.eta s, mW_told (.inl rfl) (hin s hs) one h1, mW_told (.inl rfl) (hin s hs) two h2] at this
      exact this
    have c1 := fin_canon _ (mem_classes one 1) _ (mem_classes two 1) fun s hs => by
      have := (hall s hs).2
      rw [← Prod.eta s, mW_told (.inr rfl) (hin s hs) one h1, mW_told (.inr rfl) (hin s hs) two h2] at this
      exact this
    obtain ⟨e1, e2, e3⟩ := c0
    obtain ⟨_, e4, e5⟩ := c1
    dsimp only at e1 e2 e3 e4 e5
    rw [shortL_eq, shortL_eq, e1, e3, e5, e2, e4]
  · intro h
    refine List.all_eq_true.mpr fun t ht => ?_
    have ht := List.mem_range.mp ht
    have hv : -1 ≤ (((t / 4 : Nat) : Int) - 1) ∧ (((t / 4 : Nat) : Int) - 1) ≤ 2 := by omega
    have hk : -1 ≤ (((t % 4 : Nat) : Int) - 1) ∧ (((t % 4 : Nat) : Int) - 1) ≤ 2 := by omega
    refine decide_eq_true ⟨?_, ?_⟩
    · rw [← mW_short (.inl rfl) hv hk h1, h, mW_short (.inl rfl) hv hk h2]
    · rw [← mW_short (.inr rfl) hv hk h1, h, mW_short (.inr rfl) hv hk h2]
theorem ledB {h₀ h : Heap} {L : Addr} {a b c d e f g k l m n : Addr × Obj} (N : News h₀ L h [a, b, c, d, e, f, g, k, l, m, n]) : News h₀ L h [m, a, b, c, d, e, k] := News.sub N fun p hp => by
  simp only [List.mem_cons, List.not_mem_nil, or_false] at hp ⊢
  rcases hp with h | h | h | h | h | h | h <;> simp [h]
theorem cellNe {h₀ h : Heap} {L cB a : Addr} {ob : Obj} {v : Option Value} {its : Array Value} {n : Nat} {news : List (Addr × Obj)} (N : News h₀ L h news) (m1 : (cB, ob) ∈ news) (hd : ob.data = .cell v) (m2 : (a, listOf its n) ∈ news) : a ≠ cB := by
  rintro rfl
  have h1 : listOf its n = ob := Option.some.inj ((N _ m2).1.symm.trans (N _ m1).1)
  rw [← h1] at hd
  cases hd
theorem dictNe {prog : Program} {w : World} {h₀ h : Heap} {L d a : Addr} {od : Obj} {c : Cfg} {its : Array Value} {n : Nat} {news : List (Addr × Obj)} (N : News h₀ L h news) (m1 : (d, od) ∈ news) (hd : IsCfg prog w od c) (m2 : (a, listOf its n) ∈ news) : d ≠ a := by
  rintro rfl
  have h1 : listOf its n = od := Option.some.inj ((N _ m2).1.symm.trans (N _ m1).1)
  obtain ⟨⟨kvs, ⟨es, ep, hdat, hx, _⟩, _⟩, _⟩ := hd
  rw [← h1] at hx
  cases hx
theorem ne_of_all {cB d : Addr} {ob : Obj} {news : List (Addr × Obj)} (h : ∀ p ∈ news, p.1 ≠ d) (hm : (cB, ob) ∈ news) : d ≠ cB := fun e => h _ hm e.symm
theorem restB {h₀ h : Heap} {L cB a b c d e k : Addr} {ob : Obj} {v : Option Value} {ia ib ic id ie ik : Array Value} {na nb nc nd ne nk : Nat} (N : News h₀ L h [(cB, ob), (a, listOf ia na), (b, listOf ib nb), (c, listOf ic nc), (d, listOf id nd), (e, listOf ie ne), (k, listOf ik nk)]) (hd : ob.data = .cell v) :
    ∀ p ∈ [(a, listOf ia na), (b, listOf ib nb), (c, listOf ic nc), (d, listOf id nd), (e, listOf ie ne), (k, listOf ik nk)], p.1 ≠ cB := by
  have h1 : ∀ {x : Addr} {its : Array Value} {n : Nat}, (x, listOf its n) ∈ [(cB, ob), (a, listOf ia na), (b, listOf ib nb), (c, listOf ic nc), (d, listOf id nd), (e, listOf ie ne), (k, listOf ik nk)] → x ≠ cB := fun m => cellNe N (.head _) hd m
  exact off_cons (h1 (.tail _ (.head _))) (off_cons (h1 (.tail _ (.tail _ (.head _)))) (off_cons (h1 (.tail _ (.tail _ (.tail _ (.head _))))) (off_cons (h1 (.tail _ (.tail _ (.tail _ (.tail _ (.head _)))))) (off_cons (h1 (.tail _ (.tail _ (.tail _ (.tail _ (.tail _ (.head _))))))) (off_cons (h1 (.tail _ (.tail _ (.tail _ (.tail _ (.tail _ (.tail _ (.head _)))))))) (fun _ h => nomatch h))))))
/-- != of dicts whose answer is told -/
theorem cfg_neR {prog : Program} {w : World} {A : Around} {E : Value → Shared → Prop} {s : Shared} {h₀ : Heap} {L : Addr} {news : List (Addr × Obj)} {a b : Addr} {oa ob : Obj} {ca cb : Cfg} {r : Bool} {Q : Value → Shared → Prop} (N : News h₀ L s.heap news) (ma : (a, oa) ∈ news) (mb : (b, ob) ∈ news) (Da : IsCfg prog w oa ca) (Db : IsCfg prog w ob cb)
    (la : (a == sysModules) = false) (lb : (b == sysModules) = false) (hu : A.units < cLine) (hr : sameC ca cb = r) (h : Q (.bool (!r)) s) : wpAny (model prog w) A (compareOp .NotEq (.ref a) (.ref b)) Q E s :=
  cfg_ne N ma mb Da Db la lb hu (hr ▸ h)
theorem putCfg_len (v1 k1 v2 k2 : Int) : (putCfg v1 k1 v2 k2).length ≤ 5 := putI_length v1 k1 v2 k2 2
/-- the ends of one begin -/
def EndsAt (prog : Program) (w : World) (lE : Addr) (b : Cfg) (one two : List Int) : Nat → List Value × Nat × List (Addr × Obj) → Prop
  | 0, c => c.1 = [] ∧ c.2.2 = []
  | 1, c => ∃ d0 o0, c.1 = [.ref d0] ∧ c.2.2 = [(d0, o0)] ∧ IsCfg prog w o0 (goC b one) ∧ (d0 == sysModules) = false ∧ @Ne Nat d0 lE
  | _, c => ∃ d0 o0 d1 o1, c.1 = [.ref d0, .ref d1] ∧ c.2.2 = [(d1, o1), (d0, o0)] ∧ IsCfg prog w o0 (goC b one) ∧ (d0 == sysModules) = false ∧ IsCfg prog w o1 (goC b two) ∧ (d1 == sysModules) = false
theorem off_more {own : List (Addr × Obj)} {lT lE D : Addr} {oT oE oE' o1 : Obj} {tl base : List (Addr × Obj)} (hoff : OwnOff own (((lT, oT) :: (lE, oE) :: (tl ++ base)).map (·.1))) (hD : ∀ p ∈ own, p.1 ≠ D) : OwnOff own (((lT, oT) :: (lE, oE') :: (((D, o1) :: tl) ++ base)).map (·.1)) := by
  intro p hp b hb
  simp only [List.map_cons, List.cons_append, List.mem_cons] at hb
  rcases hb with rfl | rfl | rfl | hb
  · exact hoff p hp _ (.head _)
  · exact hoff p hp _ (.tail _ (.head _))
  · exact hD p hp
  · exact hoff p hp _ (.tail _ (.tail _ hb))
theorem cfg_neT {prog : Program} {w : World} {A : Around} {E : Value → Shared → Prop} {s : Shared} {h₀ : Heap} {L : Addr} {news : List (Addr × Obj)} {a b : Addr} {oa ob : Obj} {ca cb : Cfg} {Q : Value → Shared → Prop} (N : News h₀ L s.heap news) (ma : (a, oa) ∈ news) (mb : (b, ob) ∈ news) (Da : IsCfg prog w oa ca) (Db : IsCfg prog w ob cb)
    (la : (a == sysModules) = false) (lb : (b == sysModules) = false) (hu : A.units < cLine) (hr : sameC ca cb = true) (h : Q (.bool false) s) : wpAny (model prog w) A (compareOp .NotEq (.ref a) (.ref b)) Q E s :=
  cfg_neR N ma mb Da Db la lb hu hr h
theorem item_two0 {prog : Program} {w : World} {A : Around} {E : Value → Shared → Prop} {s : Shared} {h₀ : Heap} {L l : Addr} {news : List (Addr × Obj)} {x y : Value} {n : Nat} {u : Tok} {value slice : PySem.Expr} {Q : Value → Shared → Prop}
    (N : News h₀ L s.heap news) (hm : (l, listOf #[x, y] n) ∈ news) (h : Q x s)
    (hs : subscripted slice false (.ref l) (.int 0 u) = operate [.ref l, .int 0 u] (getItem (.ref l) (.int 0 u)) := by with_unfolding_all rfl) : wpAny (model prog w) A (subscriptTail value slice (.ref l) (.int 0 u)) Q E s := by
  have hl : s.heap.IsList l #[x, y] := ⟨_, (N _ hm).1, rfl, n, rfl⟩
  exact tail_any hl.typeIs slot_list_getitem.lookup (wpAny_getItem_list hl (by decide) (by decide) (x := x) rfl h) hs
theorem item_two1 {prog : Program} {w : World} {A : Around} {E : Value → Shared → Prop} {s : Shared} {h₀ : Heap} {L l : Addr} {news : List (Addr × Obj)} {x y : Value} {n : Nat} {u : Tok} {value slice : PySem.Expr} {Q : Value → Shared → Prop}
    (N : News h₀ L s.heap news) (hm : (l, listOf #[x, y] n) ∈ news) (h : Q y s)
    (hs : subscripted slice false (.ref l) (.int 1 u) = operate [.ref l, .int 1 u] (getItem (.ref l) (.int 1 u)) := by with_unfolding_all rfl) : wpAny (model prog w) A (subscriptTail value slice (.ref l) (.int 1 u)) Q E s := by
  have hl : s.heap.IsList l #[x, y] := ⟨_, (N _ hm).1, rfl, n, rfl⟩
  exact tail_any hl.typeIs slot_list_getitem.lookup (wpAny_getItem_list hl (by decide) (by decide) (x := y) rfl h) hs
section
local macro_rules | `(tactic| walk_at "newList") => `(tactic| (k_here; k_dflt (refine' newList_K ?k1 ?k2 ?_ ?z; (case k1 => k_asm); (case k2 => k_asm); (case z => first | exact Nat.zero_le _ | (with_unfolding_all exact Nat.le_of_ble_eq_true rfl) | size_fits); k_whole); intro l' h' F' N' l1; (try k_lt l1); (try k_sweep)))
local macro_rules | `(tactic| walk_at "call builtin:list.append") => `(tactic| (k_here; (with_reducible show wpAny _ _ (call (Value.builtin _) [Value.ref _, _]) _ _ _); k_dflt (refine' append_K ?k1 ?k2 ?k3 ?_ ?z; (case k1 => k_asm); (case k2 => k_asm); (case k3 => k_upd); (case z => first | (rw [sizeLine_eq]; simp only [Array.size_push, List.size_toArray]; omega) | (with_unfolding_all exact Nat.le_of_ble_eq_true rfl) | (rw [sizeLine_eq]; simp)); k_whole); intro h' F' N'; (try k_sweep)))
local macro_rules | `(tactic| walk_at "setItem ref int") => `(tactic| (k_here; (with_reducible show wpAny _ _ (setItem (Value.ref _) (Value.int _ _) (Value.int _ _)) _ _ _); k_dflt (refine' ksa_set ?k1 ?k2 ?k3 ?k4 ?k5 ?k6 ?k7 ?_; (case k1 => k_asm); (case k2 => k_asm); (case k3 => k_upd); (case k4 => with_reducible assumption); (case k5 => omega); (case k6 => omega); (case k7 => omega); k_whole); intro h' F' N' hi' hl' hs'; (try k_sweep)))
local macro_rules | `(tactic| walk_at "subscriptTail Name BinOp ref int") => `(tactic| (k_here; k_dflt (refine' ksa_sub ?k1 ?k2 ?k3 ?k4 ?k5 ?k6 ?_ ?k7; (case k1 => k_asm); (case k2 => k_mem); (case k3 => with_reducible assumption); (case k4 => omega); (case k5 => omega); (case k6 => omega); (case k7 => with_unfolding_all rfl); k_whole); intro _))
local macro_rules | `(tactic| walk_at "exec Assign cons ListComp") => `(tactic| (k_here; k_dflt (refine' stride_assign ?F ?N ?hLe ?hsw ?hh ?hclos ?hcell ?hkind ?hnames ?hx ?hy ?hp ?_ ?hs); (case F => k_asm); (case N => k_asm); (case hsw => with_unfolding_all rfl); (case hLe => with_unfolding_all rfl); (case hh => with_unfolding_all rfl); (case hclos => with_unfolding_all rfl); (case hcell => decide); (case hkind => with_unfolding_all rfl); (case hnames => decide); (case hx => with_unfolding_all rfl); (case hy => with_unfolding_all rfl); (case hp => with_unfolding_all rfl); (case hs => intro _; with_unfolding_all rfl)))
local macro_rules | `(tactic| walk_at "eval ListComp") => `(tactic| (k_here; k_dflt (refine' stride_eval ?F ?N ?hh ?hclos ?hcell ?hkind ?hnames ?hx ?_ ?hs); (case F => k_asm); (case N => k_asm); (case hh => with_unfolding_all rfl); (case hclos => with_unfolding_all rfl); (case hcell => decide); (case hkind => with_unfolding_all rfl); (case hnames => decide); (case hx => with_unfolding_all rfl); (case hs => intro _; with_unfolding_all rfl)))
local macro_rules | `(tactic| walk_at "eval DictComp") => `(tactic| (k_here; k_dflt (refine' copy_cfg ?F ?N ?hh ?hclos ?hcell ?hkind ?hnames ?hx ?hdb ?_ ?hs); (case F => k_asm); (case N => k_asm); (case hh => with_unfolding_all rfl); (case hclos => with_unfolding_all rfl); (case hcell => decide); (case hkind => with_unfolding_all rfl); (case hnames => decide); (case hx => with_unfolding_all rfl); (case hdb => decide); (case hs => intro _; with_unfolding_all rfl)))
local macro_rules | `(tactic| walk_at "call ref") => `(tactic| (k_here; k_dflt (refine' put_any ?B ?F ?X ?T ?hk ?N ?m0 ?m1 ?m2 ?hd ?hu ?v1 ?v2 ?k1 ?k2 ?_; (case B => k_asm); (case F => k_asm); (case X => k_asm); (case T => k_asm); (case hk => first | exact rfl | assumption); (case N => k_asm); (case hd => ktr_room); (case hu => ktr_units); (case m0 => k_mem); (case m1 => k_mem); (case m2 => k_mem); (case v1 => omega); (case v2 => omega); (case k1 => omega); (case k2 => omega); k_whole); intro h' tk' d' o' F' N' D' lo' ne'))
local macro_rules | `(tactic| walk_at "call ref") => `(tactic| (k_here; k_dflt (refine' parts_any ?B ?F ?X ?T ?hk ?N ?mm ?hd ?hu ?i ?len ?_; (case B => k_asm); (case F => k_asm); (case X => k_asm); (case T => k_asm); (case hk => first | exact rfl | assumption); (case N => k_asm); (case hd => ktr_room); (case hu => ktr_units); (case mm => k_mem); (case i => with_reducible assumption); (case len => (first | omega | (simp only [List.length_append, List.length_cons, List.length_nil]; omega))); k_whole); intro h' tk' pT pE pA e0 e1 a0 a1 off ve0 ve1 va0 va1 g0 g1 g2 g3 nT nE nA F' N' eo' i0' i1' j0' j1'; subst eo'))
local macro_rules | `(tactic| walk_at "call ref") => `(tactic| (k_here; k_dflt (refine' short_any ?B ?F ?X ?T ?hk ?N ?hd ?hu ?i0 ?i1 ?j0 ?j1 ?len ?_; (case B => k_asm); (case F => k_asm); (case X => k_asm); (case T => k_asm); (case hk => first | exact rfl | assumption); (case N => k_asm); (case hd => ktr_room); (case hu => ktr_units); (case i0 => with_reducible assumption); (case i1 => with_reducible assumption); (case j0 => with_reducible assumption); (case j1 => with_reducible assumption); (case len => (refine ⟨?_, ?_, ?_, ?_⟩ <;> first | exact earlyOf_len _ _ | exact lateOf_len (by first | omega | (simp only [List.length_append, List.length_cons, List.length_nil]; omega)) _)); k_whole); intro h' tk' lS vs' n' F' N' S'))
local macro_rules | `(tactic| walk_at "call ref") => `(tactic| (k_here; k_dflt (refine' told_any ?B ?F ?X ?T ?hk ?N ?hd ?hu ?x0 ?x1 ?y0 ?y1 ?v ?k ?i0 ?i1 ?j0 ?j1 ?len ?_; (case B => k_asm); (case F => k_asm); (case X => k_asm); (case T => k_asm); (case hk => first | exact rfl | assumption); (case N => k_asm); (case hd => ktr_room); (case hu => ktr_units); (case i0 => with_reducible assumption); (case i1 => with_reducible assumption); (case j0 => with_reducible assumption); (case j1 => with_reducible assumption); (case x0 => exact earlyOf_range _); (case x1 => exact earlyOf_range _); (case y0 => exact lateOf_range _); (case y1 => exact lateOf_range _); (case v => omega); (case k => omega); (case len => (refine ⟨?_, ?_, ?_, ?_⟩ <;> first | exact earlyOf_len1 _ _ | exact lateOf_len (by first | omega | (simp only [List.length_append, List.length_cons, List.length_nil]; omega)) _)); k_whole); intro h' tk' d' o' F' N' D' lo' ne'))
local macro_rules | `(tactic| walk_at "call ref") => `(tactic| (k_here; k_dflt (refine' go_first ?B ?F ?X ?T ?hk ?N ?mm ?hd ?hu ?ne ?lo ?D ?I ?run ?len ?_; (case B => k_asm); (case F => k_asm); (case X => k_asm); (case T => k_asm); (case hk => first | exact rfl | assumption); (case N => k_asm); (case hd => ktr_room); (case hu => ktr_units); (case mm => k_mem); (case ne => with_reducible assumption); (case lo => with_reducible assumption); (case D => with_reducible assumption); (case I => with_reducible assumption); (case run => with_reducible assumption); (case len => with_reducible assumption); k_whole); intro h' tk' o' F' N' D'))
local macro_rules | `(tactic| walk_at "compareOp NotEq ref ref") => `(tactic| (k_here; k_dflt (refine' cfg_neR ?N ?ma ?mb ?da ?db ?la ?lb ?hu ?hr ?_; (case N => k_asm); (case ma => k_mem); (case mb => k_mem); (case da => with_reducible assumption); (case db => with_reducible assumption); (case la => with_reducible assumption); (case lb => with_reducible assumption); (case hu => ktr_units); (case hr => with_reducible assumption); k_whole)))
local macro_rules | `(tactic| walk_at "compareOp NotEq ref ref") => `(tactic| (k_here; k_dflt (refine' cfg_neT ?N ?ma ?mb ?da ?db ?la ?lb ?hu ?hr ?_; (case N => k_asm); (case ma => k_mem); (case mb => k_mem); (case da => with_reducible assumption); (case db => with_reducible assumption); (case la => with_reducible assumption); (case lb => with_reducible assumption); (case hu => ktr_units); (case hr => with_reducible assumption); k_whole)))
local macro_rules | `(tactic| walk_at "CopyLeaf") => `(tactic| (k_dflt (refine' CopyLeaf.mk ?F ?N ?mm ?D ?lo ?sys ?c ?_ ?_; (case F => k_asm); (case N => k_asm); (case mm => k_mem); (case D => with_reducible assumption); (case lo => with_reducible assumption); (case sys => with_reducible assumption); (case c => exact Nat.le_trans (putCfg_len _ _ _ _) (by decide)); k_whole); (intro C' k' t' dv' s2' m2' E2' hg' hn' hm' hk'); rotate_left; (intro D' o' h' tk' F' N' D' lo' ne'); rotate_right))
local macro_rules | `(tactic| walk_at "subscriptTail Name Name ref str") => `(tactic| (k_here; k_dflt (refine' cfg_item ?N ?mm ?D ?g ?_; (case N => k_asm); (case mm => k_mem); (case D => with_reducible assumption); (case g => with_reducible assumption); k_whole); intro v' fv'))
local macro_rules | `(tactic| k_ne) => `(tactic| first | (refine neN ?_; (try dsimp only); omega) | exact ne_of_all (by with_reducible assumption) (by k_mem))
local macro_rules | `(tactic| walk_at "subscriptTail Name Name ref int") => `(tactic| (k_here; k_dflt (refine' item_ints ?N ?mm ?i ?h0 ?hk ?hb ?_; (case N => k_asm); (case mm => k_mem); (case i => with_reducible assumption); (case h0 => omega); (case hk => omega); (case hb => omega); k_whole); intro t'))
local macro_rules | `(tactic| walk_at "binaryOp Add ref ref") => `(tactic| (k_here; k_dflt (refine' kmk_add_ints ?F ?N ?a ?b ?i ?j ?_ ?z; (case F => k_asm); (case N => k_asm); (case a => exact News.isList (by k_asm) (by k_mem)); (case b => exact News.isList (by k_asm) (by k_mem)); (case i => with_reducible assumption); (case j => with_reducible assumption); (case z => (rw [sizeLine_eq]; simp only [List.length_cons, List.length_nil]; omega)); k_whole); intro D' ws' h' F' N' l1 hI'; (try k_lt l1)))
local macro_rules | `(tactic| walk_at "exec For Name Tuple cons nil") => `(tactic| (k_here; (rename Fr _ _ _ _ => lF'); (with_unfolding_all refine' For_invVF lF' ?k1 ?k2 ?_; (case k1 => exact rfl); (case k2 => exact rfl); k_whole)))
local macro_rules | `(tactic| walk_at "subscriptTail Name Name ref int") => `(tactic| (k_here; (with_reducible show wpAny _ _ (subscriptTail _ _ (Value.ref _) (Value.int 0 _)) _ _ _); k_dflt (refine' item_two0 ?N ?mm ?_; (case N => k_asm); (case mm => k_mem); k_whole)))
local macro_rules | `(tactic| walk_at "subscriptTail Name Name ref int") => `(tactic| (k_here; (with_reducible show wpAny _ _ (subscriptTail _ _ (Value.ref _) (Value.int 1 _)) _ _ _); k_dflt (refine' item_two1 ?N ?mm ?_; (case N => k_asm); (case mm => k_mem); k_whole)))
local macro_rules | `(tactic| walk_at "subscriptTail Name Constant ref int") => `(tactic| (k_here; (with_reducible show wpAny _ _ (subscriptTail _ _ (Value.ref _) (Value.int 0 _)) _ _ _); k_dflt (refine' item_two0 ?N ?mm ?_; (case N => k_asm); (case mm => k_mem); k_whole)))
local macro_rules | `(tactic| walk_at "subscriptTail Name Constant ref int") => `(tactic| (k_here; (with_reducible show wpAny _ _ (subscriptTail _ _ (Value.ref _) (Value.int 1 _)) _ _ _); k_dflt (refine' item_two1 ?N ?mm ?_; (case N => k_asm); (case mm => k_mem); k_whole)))
local macro_rules | `(tactic| walk_at "exec If") => `(tactic| (k_here; refine wpAny_If ?_))
def StepsAt (i : Nat) (c : List Value × Nat × List Int) : Prop := IntsAre c.1 c.2.2 ∧ c.2.2.length = min i 12 ∧ ∀ x ∈ c.2.2, 0 ≤ x ∧ x ≤ 6
theorem law02 : PySem.Challenge.rw_sn0001_02.Holds := hd (by
  k_fill
  k_go0
  all_goals try k_fold
  (repeat' ((fail_if_success (with_reducible show wpAny _ _ (pyIter (Value.ref _)) _ _ _)); (first | (k_unfold; (try dsimp only)) | (k_end; wrow_close) | walk1 | (dsimp only; walk1) | (leave1; walk_say "STEP leave1"; try dsimp only) | fail "no step")))
  (rename List Int => S)
  (rename ¬ _ < _ => hlen9)
  have hlen : S.length ≤ 63 := by omega
  (rename_i oS hqS dS tkS hR tkR t9 u9 v9 R9 F9 N9 K9)
  have hsm : Builtin.Range.small 0 (S.length : Int) 1 = true := small_one (by decide) (by decide) (by omega) (by omega)
  have hsz : Builtin.Range.rangeSize 0 (S.length : Int) 1 = ((S.length : Nat) : Int) := by rw [rangeSize_nat]; simp
  (rename IntsAre _ S => hI)
  k_dflt (refine loopR (σ := List Value × Nat × List Int) (n := S.length) (fun c => (_, listOf c.1.toArray c.2.1) :: _) (fun _ => []) [] (fun i c => StepsAt i c) ([], 0, []) rfl R9 hsm hsz F9 N9 (fun _ h => nomatch h) ⟨.nil, rfl, fun _ h => nomatch h⟩ ?_ ?_)
  · rintro i t ⟨c, n, xs⟩ u h tk own hi hoff ⟨hP1, hP2, hP3⟩ F N
    simp only [List.cons_append, List.nil_append] at N
    have hc12 : c.length ≤ 12 := by rw [IntsAre.length hP1, hP2]; exact Nat.min_le_right _ _
    have hm0 : 0 ≤ (0 + (i : Int)).fmod 12 := Int.fmod_nonneg_of_pos _ (by decide)
    have hm1 : (0 + (i : Int)).fmod 12 < 12 := Int.fmod_lt_of_pos _ (by decide)
    dsimp only at hP1 hP2 hP3
    rcases Nat.lt_or_ge i 12 with h12 | h12
    · (repeat' ((fail_if_success (with_reducible show wpAny _ _ (pyIter (Value.ref _)) _ _ _)); (first | (k_unfold; (try dsimp only)) | (k_end; wrow_close) | walk1 | (dsimp only; walk1) | (leave1; walk_say "STEP leave1"; try dsimp only) | fail "no step")))
      (rename Fr _ _ _ _ => F2)
      (rename News _ _ _ _ => N2)
      rw [List.push_toArray] at N2
      refine loop_endX F2 ⟨(c ++ [_], n + 1, xs ++ [_]), ⟨ints_one hP1, ?_, ?_⟩, N2, hoff, hasNil, fun z h1 _ _ => by simp [h1, kstB]⟩
      · rw [List.length_append, hP2]
        simp only [List.length_cons, List.length_nil]
        omega
      · intro y hy
        rcases List.mem_append.mp hy with hy | hy
        · exact hP3 y hy
        · rw [List.mem_singleton.mp hy]
          have e1 := Int.fmod_nonneg_of_pos (S.getD (0 + (i : Int)).toNat 0) (b := 7) (by decide)
          have e2 := Int.fmod_lt_of_pos (S.getD (0 + (i : Int)).toNat 0) (b := 7) (by decide)
          omega
    · have hxl : xs.length = 12 := by omega
      (repeat' ((fail_if_success (with_reducible show wpAny _ _ (pyIter (Value.ref _)) _ _ _)); (first | (k_unfold; (try dsimp only)) | (k_end; wrow_close) | walk1 | (dsimp only; walk1) | (leave1; walk_say "STEP leave1"; try dsimp only) | fail "no step")))
      (rename Fr _ _ _ _ => F2)
      (rename News _ _ _ _ => N2)
      (rename IntsAre _ _ => hI2)
      refine loop_endX F2 ⟨(_, n, _), ⟨hI2, ?_, ?_⟩, N2, hoff, hasNil, fun z h1 _ _ => by simp [h1, kstB]⟩
      · rw [List.length_set, hP2]
        omega
      · intro y hy
        rcases List.mem_or_eq_of_mem_set hy with hy | hy
        · exact hP3 y hy
        · rw [hy]
          exact ⟨Int.fmod_nonneg_of_pos _ (by decide), by have := Int.fmod_lt_of_pos (xs.getD ((0 + (i : Int)).fmod 12).toNat 0 + S.getD (0 + (i : Int)).toNat 0) (b := 7) (by decide); omega⟩
  · rintro ⟨c, n, xs⟩ u h tk ⟨hP1, hP2, hP3⟩ F N
    dsimp only at N hP1 hP2 hP3
    (repeat' ((fail_if_success (with_reducible show wpAny _ _ (pyIter (Value.ref _)) _ _ _)); (first | (k_unfold; (try dsimp only)) | (k_end; wrow_close) | walk1 | (dsimp only; walk1) | (leave1; walk_say "STEP leave1"; try dsimp only) | fail "no step")))
    (rename IsRange _ _ _ _ _ _ _ _ => R3)
    (rename Fr _ _ _ _ => F3)
    (rename News _ _ _ _ => N3)
    k_dflt (refine StrideLeaf.mk (fun z => 0 ≤ z ∧ z ≤ 6) F3 N3 R3 (by decide) (by decide) (by omega) (by omega) ?_ ?_)
    · intro C z t s2 m2 E' hz0 hz1 hn hm hk
      (repeat' ((fail_if_success (with_reducible show wpAny _ _ (pyIter (Value.ref _)) _ _ _)); (first | (k_unfold; (try dsimp only)) | (k_end; wrow_close) | walk1 | (dsimp only; walk1) | (leave1; walk_say "STEP leave1"; try dsimp only) | fail "no step")))
      · exact (getD_range hP3 hz0 hz1).1
      · exact (getD_range hP3 hz0 hz1).2
      · exact ⟨_, _, rfl, fun _ _ e => e⟩
    · intro D1 vs1 z1 n1 h1 tk1 i1 l1 p1 N4 d1 F4
      (repeat' ((fail_if_success (with_reducible show wpAny _ _ (pyIter (Value.ref _)) _ _ _)); (first | (k_unfold; (try dsimp only)) | (k_end; wrow_close) | walk1 | (dsimp only; walk1) | (leave1; walk_say "STEP leave1"; try dsimp only) | fail "no step")))
      (rename IsRange _ _ _ _ _ _ _ _ => R5)
      (rename Fr _ _ _ _ => F5)
      (rename News _ _ _ _ => N5)
      k_dflt (refine StrideLeaf.mk (fun z => 0 ≤ z ∧ z ≤ 6) F5 N5 R5 (by decide) (by decide) (by omega) (by omega) ?_ ?_)
      · intro C z t s2 m2 E' hz0 hz1 hn hm hk
        (repeat' ((fail_if_success (with_reducible show wpAny _ _ (pyIter (Value.ref _)) _ _ _)); (first | (k_unfold; (try dsimp only)) | (k_end; wrow_close) | walk1 | (dsimp only; walk1) | (leave1; walk_say "STEP leave1"; try dsimp only) | fail "no step")))
        · exact (getD_range hP3 (by omega) hz1).1
        · exact (getD_range hP3 (by omega) hz1).2
        · exact ⟨_, _, rfl, fun _ _ e => e⟩
      · intro D2 vs2 z2 n2 h2 tk2 i2 l2 p2 N6 d2 F6
        have iA : IntsAre [Value.int ((S.length : Int).fmod 7) _] [(S.length : Int).fmod 7] := .cons _ (tk1 + 1 + 1 + 1) .nil
        (repeat' ((fail_if_success (with_reducible show wpAny _ _ (pyIter (Value.ref _)) _ _ _)); (first | (k_unfold; (try dsimp only)) | (k_end; wrow_close) | walk1 | (dsimp only; walk1) | (leave1; walk_say "STEP leave1"; try dsimp only) | fail "no step")))
        rename World => w0
        rename News _ _ _ _ => N8
        rename Fr _ _ _ _ => F8
        rename IsRange _ _ _ _ _ _ _ _ => R8
        have N9 := ledB N8
        clear N8
        rename IntsAre _ (shortOf _ _ _ _ _) => S2
        rename IntsAre _ ([_] ++ _) => I2
        generalize ht2 : [(S.length : Int).fmod 7] ++ z2 = t2 at S2 I2
        obtain ⟨sh2, hsh2, S2'⟩ : ∃ q, q = shortL t2 ∧ IntsAre _ q := ⟨_, rfl, S2⟩
        clear S2
        rename IntsAre _ (shortOf _ _ _ _ _) => S1
        obtain ⟨sh1, hsh1, S1'⟩ : ∃ q, q = shortL z1 ∧ IntsAre _ q := ⟨_, rfl, S1⟩
        clear S1
        have q2 : ∀ x ∈ t2, 0 ≤ x ∧ x ≤ 6 := by
          intro x hx
          rw [← ht2] at hx
          rcases List.mem_append.mp hx with hx | hx
          · rw [List.mem_singleton.mp hx]
            have e1 := Int.fmod_nonneg_of_pos (S.length : Int) (b := 7) (by decide)
            have e2 := Int.fmod_lt_of_pos (S.length : Int) (b := 7) (by decide)
            omega
          · exact p2 x hx
        have lt2 : t2.length ≤ 7 := by rw [← ht2, List.length_append, List.length_singleton]; omega
        clear ht2
        have g1 : ∀ x ∈ sh1, 0 ≤ x ∧ x ≤ 6 := by rw [hsh1]; exact shortL_range _
        have g2 : ∀ x ∈ sh2, 0 ≤ x ∧ x ≤ 6 := by rw [hsh2]; exact shortL_range _
        have m1 : sh1.length ≤ 7 := by rw [hsh1]; exact shortL_len _
        have m2 : sh2.length ≤ 7 := by rw [hsh2]; exact shortL_len _
        have hneL := restB N9 (by with_reducible assumption)
        have hsm2 : Builtin.Range.small (-1) 3 1 = true := by decide
        have hsz2 : Builtin.Range.rangeSize (-1) 3 1 = ((4 : Nat) : Int) := by decide
        have hsys : Heap.NoSeer _ := Top.seer (by with_reducible assumption) (by decide +kernel)
        k_dflt (refine loopR (σ := Bool × Obj) (n := 4) (fun c => (_, c.2) :: _) (fun c => [(PySem.Str.ofString "same", .bool c.1)]) [PySem.Str.ofString "kept", PySem.Str.ofString "ends", PySem.Str.ofString "at", PySem.Str.ofString "there"] (fun i c => c.1 = okTo z1 t2 (4 * i) ∧ ∃ v, c.2.data = .cell v) (true, _) rfl R8 hsm2 hsz2 F8 N9 (by intro p hp; rw [List.mem_singleton.mp hp]; rfl) ⟨okTo_zero z1 t2, _, by with_reducible assumption⟩ ?_ ?_)
        · rintro i t ⟨b, ob⟩ u h tk own hi hoff ⟨hb, v9, hcell⟩ F N
          have hneO := fun p (hp : p ∈ _ ++ own) => (List.mem_append.mp hp).elim (hneL p) fun hp => hoff p hp _ (.head _)
          simp only [List.cons_append, List.nil_append] at N hneO
          dsimp only at hb hcell
          (repeat' ((fail_if_success (with_reducible show wpAny _ _ (pyIter (Value.ref _)) _ _ _)); (first | (k_unfold; (try dsimp only)) | (k_end; wrow_close) | walk1 | (dsimp only; walk1) | (leave1; walk_say "STEP leave1"; try dsimp only) | fail "no step")))
          rename News _ _ _ _ => N10
          rename Fr _ _ _ _ => F10
          rename IsRange _ _ _ _ _ _ _ _ => R10
          k_dflt (refine loopR (σ := Bool × Obj) (n := 4) (fun c => (_, c.2) :: _) (fun c => [(PySem.Str.ofString "same", .bool c.1)]) [PySem.Str.ofString "ends", PySem.Str.ofString "at", PySem.Str.ofString "there"] (fun j c => c.1 = okTo z1 t2 (4 * i + j) ∧ ∃ v, c.2.data = .cell v) (b, ob) rfl R10 hsm2 hsz2 F10 N10 (by intro p hp; rw [List.mem_singleton.mp hp]; rfl) ⟨hb, v9, hcell⟩ ?_ ?_)
          · rintro j t' ⟨b', ob'⟩ u' h' tk' own' hj hoff' ⟨hb', v', hcell'⟩ F N
            have hneI := fun p (hp : p ∈ _ ++ own') => (List.mem_append.mp hp).elim (hneO p) fun hp => hoff' p hp _ (.head _)
            simp only [List.cons_append, List.nil_append] at N hneI
            dsimp only at hb' hcell'
            have hv1 : -1 ≤ -1 + (i : Int) ∧ -1 + (i : Int) ≤ 2 := by omega
            have hk1 : -1 ≤ -1 + (j : Int) ∧ -1 + (j : Int) ≤ 2 := by omega
            (repeat' ((fail_if_success (with_reducible show wpAny _ _ (pyIter (Value.ref _)) _ _ _)); (first | (k_unfold; (try dsimp only)) | (k_end; wrow_close) | walk1 | (dsimp only; walk1) | (leave1; walk_say "STEP leave1"; try dsimp only) | fail "no step")))
            rename_i lE hE l1E hE2 lT hT FT NT l1T
            have aE : AllLt lE (own ++ own') := l1E.2.2.2.2.2.2.2.2.2.2.2
            have B5 := putCfg_len (-1 + (i : Int)) (-1 + (j : Int)) (-1 + (i : Int)) (-1 + (j : Int))
            have L1 : (putCfg (-1 + (i : Int)) (-1 + (j : Int)) (-1 + (i : Int)) (-1 + (j : Int))).length + 2 * z1.length ≤ 900 := by omega
            have L2 : (putCfg (-1 + (i : Int)) (-1 + (j : Int)) (-1 + (i : Int)) (-1 + (j : Int))).length + 2 * t2.length ≤ 900 := by omega
            have L3 : (putCfg (-1 + (i : Int)) (-1 + (j : Int)) (-1 + (i : Int)) (-1 + (j : Int))).length + 2 * sh1.length ≤ 900 := by omega
            have L4 : (putCfg (-1 + (i : Int)) (-1 + (j : Int)) (-1 + (i : Int)) (-1 + (j : Int))).length + 2 * sh2.length ≤ 900 := by omega
            have E1 : sameC (goC (putCfg (-1 + (i : Int)) (-1 + (j : Int)) (-1 + (i : Int)) (-1 + (j : Int))) z1) (goC (putCfg (-1 + (i : Int)) (-1 + (j : Int)) (-1 + (i : Int)) (-1 + (j : Int))) sh1) = true := by rw [hsh1]; exact go_same hv1 hk1 p1
            have E2 : sameC (goC (putCfg (-1 + (i : Int)) (-1 + (j : Int)) (-1 + (i : Int)) (-1 + (j : Int))) t2) (goC (putCfg (-1 + (i : Int)) (-1 + (j : Int)) (-1 + (i : Int)) (-1 + (j : Int))) sh2) = true := by rw [hsh2]; exact go_same hv1 hk1 q2
            have E3 : sameC (goC (putCfg (-1 + (i : Int)) (-1 + (j : Int)) (-1 + (i : Int)) (-1 + (j : Int))) z1) (putCfg (toldRow (decide (0 ≤ cutI z1 z1.length)) (-1 + (i : Int)) (-1 + (j : Int)) (earlyOf z1 0) (lateOf z1 0)).1 (toldRow (decide (0 ≤ cutI z1 z1.length)) (-1 + (i : Int)) (-1 + (j : Int)) (earlyOf z1 0) (lateOf z1 0)).2 (toldRow (decide (0 ≤ cutI z1 z1.length)) (-1 + (i : Int)) (-1 + (j : Int)) (earlyOf z1 1) (lateOf z1 1)).1 (toldRow (decide (0 ≤ cutI z1 z1.length)) (-1 + (i : Int)) (-1 + (j : Int)) (earlyOf z1 1) (lateOf z1 1)).2) = true := told_same hv1 hk1 p1
            have E4 : sameC (goC (putCfg (-1 + (i : Int)) (-1 + (j : Int)) (-1 + (i : Int)) (-1 + (j : Int))) z1) (goC (putCfg (-1 + (i : Int)) (-1 + (j : Int)) (-1 + (i : Int)) (-1 + (j : Int))) t2) = agree z1 t2 (-1 + (i : Int)) (-1 + (j : Int)) := ends_same hv1 hk1 p1 q2
            k_dflt (refine loopT (σ := List Value × Nat × List (Addr × Obj)) (fun c => (lT, _) :: (lE, listOf c.1.toArray c.2.1) :: (c.2.2 ++ _)) (fun _ => []) [PySem.Str.ofString "there"] (fun i2 c => EndsAt PX w0 lE (putCfg (-1 + (i : Int)) (-1 + (j : Int)) (-1 + (i : Int)) (-1 + (j : Int))) z1 t2 i2 c) ([], 0, []) rfl (fun _ => .head _) FT NT (fun _ h => nomatch h) ⟨rfl, rfl⟩ ?_ ?_)
            · rintro i2 v9 ⟨c, n, tl⟩ u h tk own2 hv hoff2 hP1 F N
              rcases i2 with _ | _ | i2
              · obtain rfl := Option.some.inj hv
                obtain ⟨rfl, rfl⟩ : c = [] ∧ tl = [] := hP1
                have hneE : ∀ p ∈ own ++ own' ++ own2, p.1 ≠ lE := fun p hp => (List.mem_append.mp hp).elim (allLt_ne aE (Nat.le_refl _) p) fun hp => hoff2 p hp lE (.tail _ (.head _))
                simp only [List.cons_append, List.nil_append] at N
                (repeat' ((fail_if_success (with_reducible show wpAny _ _ (pyIter (Value.ref _)) _ _ _)); (first | (k_unfold; (try dsimp only)) | (k_end; wrow_close) | walk1 | (dsimp only; walk1) | (leave1; walk_say "STEP leave1"; try dsimp only) | fail "no step")))
                all_goals (try assumption)
                all_goals (try exact ⟨_, _, rfl, fun _ _ e => e⟩)
                rename_i dA oA hA tkA FA NA DA loA neA hB tkB oB DB hC tkC dX oX hX tkX DX loX neX hD tkD oD DD hE2 FE NE
                simp only [List.push_toArray, List.nil_append, List.cons_append] at NE
                refine loop_endX FE ⟨([.ref dA], n + 1, [(dA, oB)]), ⟨dA, oB, rfl, rfl, DB, loA, fun e => neA (lE, _) (.tail _ (.head _)) e.symm⟩, ?_, off_more hoff2 (fun p hp => neA p (by simp only [List.mem_cons, List.mem_append, hp, or_true])), hasNil, fun z h1 h2 h3 => (if_neg (cont_cons h3).1).trans (kstN h1 h3)⟩
                simp only [List.nil_append, List.cons_append]
                refine News.sub NE ?_
                k_allIn
              · obtain rfl := Option.some.inj hv
                obtain ⟨d0, o0, rfl, rfl, D0, lo0, ne0⟩ : ∃ d0 o0, c = [.ref d0] ∧ tl = [(d0, o0)] ∧ IsCfg PX _ o0 (goC (putCfg (-1 + (i : Int)) (-1 + (j : Int)) (-1 + (i : Int)) (-1 + (j : Int))) z1) ∧ (d0 == sysModules) = false ∧ @Ne Nat d0 lE := hP1
                have hneE : ∀ p ∈ own ++ own' ++ own2, p.1 ≠ lE := fun p hp => (List.mem_append.mp hp).elim (allLt_ne aE (Nat.le_refl _) p) fun hp => hoff2 p hp lE (.tail _ (.head _))
                simp only [List.cons_append, List.nil_append] at N
                (repeat' ((fail_if_success (with_reducible show wpAny _ _ (pyIter (Value.ref _)) _ _ _)); (first | (k_unfold; (try dsimp only)) | (k_end; wrow_close) | walk1 | (dsimp only; walk1) | (leave1; walk_say "STEP leave1"; try dsimp only) | fail "no step")))
                all_goals (try assumption)
                all_goals (try exact ⟨_, _, rfl, fun _ _ e => e⟩)
                rename_i dA oA hA tkA FA NA DA loA neA hB tkB oB DB hC tkC dX oX hX tkX DX loX neX hD tkD oD DD hE2 FE NE
                simp only [List.push_toArray, List.nil_append, List.cons_append] at NE
                refine loop_endX FE ⟨([.ref d0, .ref dA], n + 1, [(dA, oB), (d0, o0)]), ⟨d0, o0, dA, oB, rfl, rfl, D0, lo0, DB, loA⟩, ?_, off_more hoff2 (fun p hp => neA p (by simp only [List.mem_cons, List.mem_append, hp, or_true])), hasNil, fun z h1 h2 h3 => (if_neg (cont_cons h3).1).trans (kstN h1 h3)⟩
                simp only [List.nil_append, List.cons_append]
                refine News.sub NE ?_
                k_allIn
              · simp at hv
            · rintro ⟨c, n, tl⟩ u h tk hP1 F N
              obtain ⟨d0, o0, d1, o1, rfl, rfl, D0, lo0, D1, lo1⟩ : ∃ d0 o0 d1 o1, c = [.ref d0, .ref d1] ∧ tl = [(d1, o1), (d0, o0)] ∧ IsCfg PX _ o0 (goC (putCfg (-1 + (i : Int)) (-1 + (j : Int)) (-1 + (i : Int)) (-1 + (j : Int))) z1) ∧ (d0 == sysModules) = false ∧ IsCfg PX _ o1 (goC (putCfg (-1 + (i : Int)) (-1 + (j : Int)) (-1 + (i : Int)) (-1 + (j : Int))) t2) ∧ (d1 == sysModules) = false := hP1
              simp only [List.cons_append, List.nil_append] at N
              (repeat' ((fail_if_success (with_reducible show wpAny _ _ (pyIter (Value.ref _)) _ _ _)); (first | (k_unfold; (try dsimp only)) | (k_end; wrow_close) | walk1 | (dsimp only; walk1) | (leave1; walk_say "STEP leave1"; try dsimp only) | fail "no step")))
              · rename News _ _ _ _ => N13
                rename Fr _ _ _ _ => F13
                rename agree _ _ _ _ = _ => ha
                rename Obj.data _ = Data.cell (some _) => dC
                refine loop_endX F13 ⟨(b', _), ⟨by show b' = okTo z1 t2 (4 * i + j + 1); rw [okTo_step z1 t2 i j (by omega) rfl rfl, ha, Bool.and_true, hb'], _, dC⟩, ?_, hoff', hasCons rfl hasNil, fun z h1 h2 h3 => (kstN (cont_cons (cont_cons h3).2).1 (cont_one (cont_cons (cont_cons (cont_cons h3).2).2).1)).trans ((if_neg (cont_cons h3).1).trans (kstO h1 (h2 _ (.head _)) h3))⟩
                simp only [List.cons_append]
                refine News.sub N13 ?_
                k_allIn
              · rename News _ _ _ _ => N13
                rename Fr _ _ _ _ => F13
                rename agree _ _ _ _ = _ => ha
                rename Obj.data _ = Data.cell (some _) => dC
                refine loop_endX F13 ⟨(false, _), ⟨by show false = okTo z1 t2 (4 * i + j + 1); rw [okTo_step z1 t2 i j (by omega) rfl rfl, ha, Bool.and_false], _, dC⟩, ?_, hoff', hasCons rfl hasNil, fun z h1 h2 h3 => (if_neg (h2 _ (.head _))).trans ((kstN (cont_cons (cont_cons h3).2).1 (cont_one (cont_cons (cont_cons (cont_cons h3).2).2).1)).trans ((if_neg (cont_cons h3).1).trans (kstO h1 (h2 _ (.head _)) h3)))⟩
                simp only [List.cons_append]
                refine News.sub N13 ?_
                k_allIn
          · rintro ⟨b', ob'⟩ u' h' tk' ⟨hb', v', hcell'⟩ F N
            (repeat' ((fail_if_success (with_reducible show wpAny _ _ (pyIter (Value.ref _)) _ _ _)); (first | (k_unfold; (try dsimp only)) | (k_end; wrow_close) | walk1 | (dsimp only; walk1) | (leave1; walk_say "STEP leave1"; try dsimp only) | fail "no step")))
            rename News _ _ _ _ => N11
            rename Fr _ _ _ _ => F11
            exact loop_endX F11 ⟨(b', ob'), ⟨hb', v', hcell'⟩, N11, hoff, hasCons rfl hasNil, fun z h1 h2 h3 => (kstO (cont_cons h3).1 (h2 _ (.head _)) (cont_cons h3).2).trans (kstO h1 (h2 _ (.head _)) h3)⟩
        · rintro ⟨b, ob⟩ u h tk ⟨hb, v9, hcell⟩ F N
          have hb : b = okTo z1 t2 16 := hb
          (repeat' ((fail_if_success (with_reducible show wpAny _ _ (pyIter (Value.ref _)) _ _ _)); (first | (k_unfold; (try dsimp only)) | walk1 | (dsimp only; walk1) | (leave1; walk_say "STEP leave1"; try dsimp only) | fail "no step")))
          have hfin : (b == decide (sh1 = sh2)) = true := by rw [hb, okTo_all p1 q2, hsh1, hsh2]; exact beq_self_eq_true _
          rw [hfin]
          rename Fr _ _ _ _ => FZ
          with_reducible rename Shared.gens _ = #[] => hgZ
          refine goodW_bool FZ hgZ (raisesW_false ?_) ?_
          · wrow_none_raised
          · wrow_post)
end
end Mine
theorem PySem.Challenge.cw_sn0001_02_holds : PySem.Challenge.rw_sn0001_02.Holds := by
  exact Mine.law02
